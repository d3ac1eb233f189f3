import PyProof.Rows.All
import Wide.All
import OpenK.AllK
import Wide.FinOn
import PyProof.FactsAll.list
import PyProof.FactsAll.tuple
import Lean
import PySem.Challenge.RW_pd0044_01
open PySem PySem.W PyProof.Rows PySem.Calls
set_option Elab.async false
set_option linter.all false
namespace Mine
local macro_rules | `(tactic| walk_at $s:str) => `(tactic| k_extra $s)
local macro_rules | `(tactic| k_ne) => `(tactic| k_extra "ne")
local macro_rules | `(tactic| k_all) => `(tactic| k_extra "all")
local macro_rules | `(tactic| k_lt $h:ident) => `(tactic| ((have hall := $h); replace $h := allLt_of $h; simp only [AllLt, and_true] at $h:ident))
/-! part Head -/
section
set_option maxRecDepth 100000
set_option maxHeartbeats 0
/-! With this option the library's pieces of the top fall (a small search inside them gives up) and it takes its own other road, one check of the whole top: the twins of the pieces, 12 MB compiled, are not laid. -/
set_option synthInstance.maxSize 1 in
open_top hd for PySem.Challenge.rw_pd0044_01
end

/-! part Base -/
section
set_option maxRecDepth 100000

noncomputable abbrev Kp (h h' : Heap) : Prop := ∀ b o, h.get? b = some o → h'.get? b = some o

section
variable {l : List (Addr × Obj)} {a d I C : Addr} {o : Obj}
theorem ne_lt (h : ∀ p ∈ l, p.1 < d) (m : (a, o) ∈ l) : a ≠ d := Nat.ne_of_lt (h _ m)
theorem ne_lt' (h : ∀ p ∈ l, p.1 < d) (m : (a, o) ∈ l) : d ≠ a := Nat.ne_of_gt (h _ m)
theorem ne_o (h : ∀ p ∈ l, p.1 ≠ d) (m : (a, o) ∈ l) : a ≠ d := h _ m
theorem ne_o' (h : ∀ p ∈ l, p.1 ≠ d) (m : (a, o) ∈ l) : d ≠ a := Ne.symm (h _ m)
theorem all_lt (h : ∀ p ∈ l, p.1 < d) : ∀ p ∈ l, p.1 ≠ d := fun p m => Nat.ne_of_lt (h p m)
theorem off3_I (h : LCg.Off3 I C d l) : ∀ p ∈ l, p.1 ≠ I := fun p m => (h.mem p m).1
theorem off3_C (h : LCg.Off3 I C d l) : ∀ p ∈ l, p.1 ≠ C := fun p m => (h.mem p m).2.1
theorem off3_D (h : LCg.Off3 I C d l) : ∀ p ∈ l, p.1 ≠ d := fun p m => (h.mem p m).2.2
theorem off1_D : ∀ {l : List (Addr × Obj)}, LCg.Off1 d l → ∀ p ∈ l, p.1 ≠ d
  | [], _, _, m => nomatch m
  | _ :: _, h, p, m => by
    rcases List.mem_cons.mp m with rfl | m
    · exact h.1
    · exact off1_D h.2 p m
end

section
variable {w : World} {A : Around} {s : Shared} {p : Program} {loose : List Str} {mean : ExcName → Option Value} {mg mb : Str → Option Value} {Q E : Value → Shared → Prop}
theorem enterS {name qual : Str} {params : Arguments} {body : List Stmt} {scope : Scope} {dV kV doc pm cdv ct oc : Value} {an od : Option Addr} {osl : Array (Option Value)} {f : Addr} {vals : List Value} {binds : List (Str × Value)}
    (X : (hd.heap_39 w.params).In s.heap) (T : Top p loose mean mg mb s.heap)
    (ho : ((hd.heap_39 w.params)).lookup f = some ⟨oc, od, .func (fnOf name qual params body scope dV kV doc pm an cdv ct), osl⟩) (hcd : codeIn ((hd.heap_39 w.params)) cdv qual = true) (hroom : A.depth < recursionLimit)
    (hbind : BindsTo s (fnOf name qual params body scope dV kV doc pm an cdv ct) ⟨vals, []⟩ binds) (hloc : ∀ y ∈ binds, scope.names.lookup y.1 = some .local)
    (h : ∀ L' h₁, Fr s.heap L' h₁ (fun y => binds.reverse.lookup y) → News s.heap L' h₁ [] →
      wpAny (model PySem.Challenge.rw_pd0044_01.row.prog w) (A.deeper (envOf qual scope L' f cdv)) (execs body (envOf qual scope L' f cdv))
        (fun fl s' => Q (match fl with | .ret v => v | _ => .none) s') (fun _ _ => False)
        { s with heap := h₁, toks := s.toks + binds.length })
    (hco : scope.isCoroutine = false) (hgen : scope.isGenerator = false) (hk : scope.kind = .function)
    (hcell : ∀ x ∈ scope.names, x.2 ≠ .cell) : wpAny (model PySem.Challenge.rw_pd0044_01.row.prog w) A (call (.ref f) vals) Q E s := by
  refine wpAny_call ?_
  refine codeAny_call_def (fd := fnOf name qual params body scope dV kV doc pm an cdv ct) (body := body) (binds := binds) hroom (X _ _ ho) rfl T.nolimit (codeRec_of X hcd) rfl hbind hcell hloc (fun h₁ hns hk₁ => ?_) hco hgen hk
  exact wpAny_mono (h s.heap.objs.size h₁ ⟨hns, hk₁, Nat.le_refl _⟩ News.nil) (fun _ _ x => x) (fun _ _ x => x.elim)
end
end
section
section
variable {w : World} {A : Around} {s : Shared} {p : Program} {loose : List Str} {mean : ExcName → Option Value} {mg mb : Str → Option Value} {Q E : Value → Shared → Prop}
theorem enterV {name qual : Str} {params : Arguments} {body : List Stmt} {scope : Scope} {dV kV doc pm cdv ct oc : Value} {an od : Option Addr} {osl : Array (Option Value)} {f : Addr} {vals rest : List Value} {bf : Value → List (Str × Value)} {nb : Nat}
    (X : (hd.heap_39 w.params).In s.heap) (T : Top p loose mean mg mb s.heap)
    (ho : ((hd.heap_39 w.params)).lookup f = some ⟨oc, od, .func (fnOf name qual params body scope dV kV doc pm an cdv ct), osl⟩) (hcd : codeIn ((hd.heap_39 w.params)) cdv qual = true) (hroom : A.depth < recursionLimit)
    (hbind : bindArgs (fnOf name qual params body scope dV kV doc pm an cdv ct) ⟨vals, []⟩ = (newTuple rest >>= fun t => pure (bf t))) (hrest : rest.length ≤ sizeLine) (hloc : ∀ t, ∀ y ∈ bf t, scope.names.lookup y.1 = some .local)
    (hnb : ∀ t, (bf t).length = nb)
    (h : ∀ T L' h₁, Fr s.heap L' h₁ (fun y => (bf (.ref T)).reverse.lookup y) → News s.heap L' h₁ [(T, { cls := .type "tuple", data := .seq rest.toArray })] →
      wpAny (model PySem.Challenge.rw_pd0044_01.row.prog w) (A.deeper (envOf qual scope L' f cdv)) (execs body (envOf qual scope L' f cdv))
        (fun fl s' => Q (match fl with | .ret v => v | _ => .none) s') (fun _ _ => False)
        { s with heap := h₁, toks := s.toks + nb })
    (hco : scope.isCoroutine = false) (hgen : scope.isGenerator = false) (hk : scope.kind = .function)
    (hcell : ∀ x ∈ scope.names, x.2 ≠ .cell) : wpAny (model PySem.Challenge.rw_pd0044_01.row.prog w) A (call (.ref f) vals) Q E s := by
  refine wpAny_call ?_
  refine codeAny_call_function (fd := fnOf name qual params body scope dV kV doc pm an cdv ct) hroom (X _ _ ho) rfl hco hgen rfl (codeRec_of X hcd) ?_
  rw [hbind]
  refine wpAny_bind (wpAny_newObj_type (wpAny_pure ?_) (by show rest.toArray.size ≤ sizeLine; rw [List.size_toArray]; exact hrest))
  refine wpAny_newFunctionEnv hcell (hloc _) (fun h₀ hns₀ hsb₀ => ?_) hk
  have hpush : Kp s.heap (s.heap.push { cls := .type "tuple", data := .seq rest.toArray }) := fun b o e => Heap.get?_push_of_some _ e
  have hsz : (s.heap.push ({ cls := .type "tuple", data := .seq rest.toArray } : Obj)).objs.size = s.heap.objs.size + 1 := Heap.size_push ..
  have hk₁ : Kp (s.heap.push { cls := .type "tuple", data := .seq rest.toArray }) h₀ := fun b o e => hsb₀.extBut b o (Nat.ne_of_lt (Heap.lt_size e)) (Heap.get?_push_of_some _ e)
  have hT := hk₁ s.heap.objs.size { cls := .type "tuple", data := .seq rest.toArray } (Heap.get?_push_size _ rfl)
  refine ⟨(T.nolimit.keeps hpush).fresh _ hsb₀, codeAny_func ?_⟩
  refine wpAny_mono ((hnb (.ref s.heap.objs.size)) ▸ h s.heap.objs.size _ h₀ ⟨hns₀, fun b o e => hk₁ b o (hpush b o e), by show s.heap.objs.size ≤ (s.heap.push ({ cls := .type "tuple", data := .seq rest.toArray } : Obj)).objs.size; rw [hsz]; exact Nat.le_succ _⟩ ?_) (fun _ _ x => x) (fun _ _ x => x.elim)
  intro p hp
  rcases List.mem_cons.mp hp with rfl | hp
  · refine ⟨hT, ?_, ?_⟩
    · show s.heap.objs.size ≠ (s.heap.push ({ cls := .type "tuple", data := .seq rest.toArray } : Obj)).objs.size
      rw [hsz]; exact Nat.ne_of_lt (Nat.lt_succ_self _)
    · cases e : s.heap.get? s.heap.objs.size with
      | none => rfl
      | some o => exact absurd (Heap.lt_size e) (Nat.lt_irrefl _)
  · cases hp
end
end
section
section
variable {w : World} {A : Around} {s : Shared} {p : Program} {loose : List Str} {mean : ExcName → Option Value} {mg mb : Str → Option Value} {Q E : Value → Shared → Prop}
theorem enterC {name qual : Str} {params : Arguments} {body : List Stmt} {scope : Scope} {dV kV doc pm cdv ct oc : Value} {an od : Option Addr} {osl : Array (Option Value)} {f : Addr} {vals : List Value} {binds : List (Str × Value)}
    (X : (hd.heap_39 w.params).In s.heap) (T : Top p loose mean mg mb s.heap)
    (ho : ((hd.heap_39 w.params)).lookup f = some ⟨oc, od, .func (fnX name qual params body scope [] dV kV doc pm an cdv ct), osl⟩) (hcd : codeIn ((hd.heap_39 w.params)) cdv qual = true) (hroom : A.depth < recursionLimit)
    (hbind : BindsTo s (fnX name qual params body scope [] dV kV doc pm an cdv ct) ⟨vals, []⟩ binds)
    (hkind : ∀ n, ∀ x ∈ binds, scope.names.lookup x.1 = some .local ∨ (scope.names.lookup x.1 = some .cell ∧ ((cellsFrom n scope.names []).lookup x.1).isSome = true))
    (hnd : ((cellsFrom 0 scope.names []).map (·.1)).Nodup)
    (h : ∀ L' h₁ tk cells, Fr s.heap L' h₁ (bindL (envOfC qual scope L' f cdv).kindOf binds fun _ => none) → News s.heap L' h₁ cells →
      CellsAre (bindC (envOfC qual scope L' f cdv).kindOf binds fun _ => none) (cellsFrom (L' + 1) scope.names []) cells →
      wpAny (model PySem.Challenge.rw_pd0044_01.row.prog w) (A.deeper (envOfC qual scope L' f cdv)) (execs body (envOfC qual scope L' f cdv))
        (fun fl s' => Q (match fl with | .ret v => v | _ => .none) s') (fun _ _ => False)
        { s with heap := h₁, toks := tk })
    (hco : scope.isCoroutine = false) (hgen : scope.isGenerator = false) (hk : scope.kind = .function) :
    wpAny (model PySem.Challenge.rw_pd0044_01.row.prog w) A (call (.ref f) vals) Q E s := by
  refine wpAny_call ?_
  refine codeAny_call_function (fd := fnX name qual params body scope [] dV kV doc pm an cdv ct) hroom (X _ _ ho) rfl hco hgen rfl (codeRec_of X hcd) (hbind _ _ _ _ ?_)
  refine wpAny_newFunctionEnv_cells hk (hkind _) fun env' he s' x => ?_
  subst he
  refine ⟨T.nolimit.keeps x.toInCall.keep, codeAny_func ?_⟩
  obtain ⟨h₁, tk, rfl, _⟩ := x.done
  have hk₁ := x.toInCall.keep
  obtain ⟨cells, NC, Y⟩ := Cl.news (h₀ := s.heap) (Nat.le_refl _) fun n c hm => ⟨x.cell n c (lookup_of_mem_nodup (cellsFrom_names scope.names 0 (s.heap.objs.size + 1) [] [] rfl ▸ hnd) hm), x.above n c hm⟩
  exact wpAny_mono (h s.heap.objs.size h₁ tk cells ⟨x.toInCall.ns, hk₁, Nat.le_refl _⟩ NC Y) (fun _ _ x => x) (fun _ _ x => x.elim)
end
end

/-! part C2 -/
section
set_option maxRecDepth 100000
set_option maxHeartbeats 0
section
variable {prog : Program} {w : World} {A : Around} {E : Value → Shared → Prop} {s : Shared}
theorem isub_one {k : Value} {dep : Int} {tk : Tok} {Q : Fin → Shared → Prop} (hk : k = .int dep tk) (hq : Q (.done (.ret (.bool true))) s) :
    wpAny (model prog w) A (Builtin.«issubclass.nested» ⟨[.type "str", .type "str", k], []⟩) Q E s := by
  subst hk
  have hm : (typeOf (.type "str") : Sem Value) = pure (.type "type") := by rfl
  have hself : isSubtype (.type "str") (.type "str") = pure true := by rfl
  repeat (any_goals (first | assumption | (rw [hself]) | wp_step))
theorem isub_tup {D : Addr} {R : Result → Shared → Prop} (hD : IsTup s.heap D #[.type "str", .type "bytes"]) (hq : R (.ok (.ret (.bool true))) s) :
    wpAny (model prog w) A.in1 (Builtin.«issubclass.nested» ⟨[.type "str", .ref D, rawInt 0], []⟩)
      (fun fin s' => match fin with | .done f => R (.ok f) s' | .again c' => c'.quiet = true ∧ codeAny (model prog w) A c' R s') (fun e s' => R (.error e) s') s := by
  obtain ⟨⟨c, d, dt, sl⟩, ho, hc, n, hd⟩ := hD
  cases hc; cases hd
  have hT : s.TypeIs (.ref D) "tuple" := ⟨_, ho, rfl⟩
  have hsub : isSubtype (.type "tuple") (.type "tuple") = pure true := by rfl
  repeat (any_goals (first | assumption | wp_step))
  refine codeAny_call_builtin (by decide +kernel) F.entry_issubclass_nested ?_
  have hkd : builtinKind "issubclass.nested" = none := by decide +kernel
  have hsg : Manifest.signature? "issubclass.nested" = none := by decide +kernel
  simp only [checkBuiltinCall, hkd, hsg]
  refine wpAny_pure ?_
  refine isub_one rfl ?_
  repeat (any_goals (first | assumption | wp_step))
end
section
variable {w : World} {A : Around} {s : Shared} {p : Program} {loose : List Str} {mean : ExcName → Option Value} {mg mb : Str → Option Value} {Q E : Value → Shared → Prop}
theorem isub_call {D : Addr} {t : Tok} (hD : IsTup s.heap D #[.type "str", .type "bytes"]) (hq : Q (.bool true) s) :
    wpAny (model PySem.Challenge.rw_pd0044_01.row.prog w) A (call (.builtin "issubclass") [.type "str", .ref D]) Q E s :=
  call_issubclass (S := fun _ R s' => IsTup s'.heap D #[.type "str", .type "bytes"] ∧ R (.ok (.ret (.bool true))) s') (fun _ _ _ _ _ hs => issubclass_outer (isub_tup hs.1 hs.2)) ⟨hD, hq⟩
theorem fspath_c {x : Str} {t : Tok} (X : (hd.heap_39 w.params).In s.heap) (T : Top p loose mean mg mb s.heap) (hh : A.handled = none) (hdep : A.depth + 8 < recursionLimit) (huni : A.units + 60 < cLine)
  (hret : ∀ h' tk', Kp s.heap h' → Q (.str x t) { s with heap := h', toks := tk' }) : wpAny (model PySem.Challenge.rw_pd0044_01.row.prog w) A (call (.ref 101) [.str x t]) Q E s := by
  k_with_none
  (k_with "ne" => (refine neN ?_; (try dsimp only); (first | with_reducible assumption | with_reducible exact Ne.symm (by assumption) | (refine' ne_lt ?z1 ?z2; (case z1 => with_reducible assumption); (case z2 => k_mem)) | (refine' ne_lt' ?z3 ?z4; (case z3 => with_reducible assumption); (case z4 => k_mem)) | (refine' ne_o ?z5 ?z6; (case z5 => with_reducible assumption); (case z6 => k_mem)) | (refine' ne_o' ?z7 ?z8; (case z7 => with_reducible assumption); (case z8 => k_mem)) | omega)))
  (k_with "all" => (first | with_reducible assumption | with_reducible exact all_lt (by assumption) | exact List.forall_mem_nil _ | (refine' List.forall_mem_cons.mpr ⟨?za, ?zb⟩; (case za => k_ne); (case zb => k_all))))
  (k_with "CompRest" => (with_unfolding_all first | (refine LCg.CompRest.succ ?_; intro v' I' oI' C' oC' D' m' h' tk' E' hv' hC' hx' F' N' off' ne'; (first | lcg_open hv' | (obtain ⟨t9', hv9'⟩ := hv'; subst hv9')); (have offI' := off3_I off'); (have offC' := off3_C off'); (have offD' := off3_D off'); clear off') | refine LCg.CompRest.zero ?_))
  (k_with "FinE" => ((unfold LCg.FinE); intro D' h' tk' F' N' o1'; (replace o1' := off1_D o1'); (try simp only [List.nil_append, List.cons_append] at N'); (try dsimp only)))
  (k_with "FinA" => ((unfold LCg.FinA); intro D' h' tk' F' N' o1'; (replace o1' := off1_D o1'); (try simp only [List.nil_append, List.cons_append] at N'); (try dsimp only)))
  (k_with "call builtin:issubclass" => (k_here; k_dflt (refine' isub_call (t := 0) ?w1k1 ?_; (case w1k1 => exact News.isTup (by k_asm) (by k_mem)); k_whole)))
  ((have hrow : (hd.heap_39, PySem.Challenge.rw_pd0044_01) = (hd.heap_39, PySem.Challenge.rw_pd0044_01) := rfl); revert hrow; k_fill; intro hrow; clear hrow; (obtain ⟨ahd, adp, afr, agd, aun⟩ := A; (have hh9 : ahd = none := hh); subst hh9; clear hh; (try dsimp only at hdep huni)))
  (refine' enterS X T ?k6 ?k7 ?k8 ?k9 ?kB ?_ ?c2 ?c3 ?c4 ?c5; (case k6 => k_is); (case k7 => k_is); (case k8 => ((try dsimp only); omega)); (case k9 => exact BindsTo.of_eq rfl); (case c5 => decide); (case kB => exact locs rfl); (case c2 => exact rfl); (case c3 => exact rfl); (case c4 => exact rfl))
  intro L' h' F' N'
  dsimp only
  w_strict (k_steps; all_goals exact hret _ _ (Fr.keep (by assumption)))
theorem getsep_c {x : Str} {t : Tok} (X : (hd.heap_39 w.params).In s.heap) (T : Top p loose mean mg mb s.heap) (hh : A.handled = none) (hdep : A.depth + 8 < recursionLimit) (huni : A.units + 60 < cLine)
  (hret : ∀ h' tk' u, Kp s.heap h' → Q (.str (Str.ofString "/") u) { s with heap := h', toks := tk' }) : wpAny (model PySem.Challenge.rw_pd0044_01.row.prog w) A (call (.ref 115) [.str x t]) Q E s := by
  k_with_none
  (k_with "ne" => (refine neN ?_; (try dsimp only); (first | with_reducible assumption | with_reducible exact Ne.symm (by assumption) | (refine' ne_lt ?z1 ?z2; (case z1 => with_reducible assumption); (case z2 => k_mem)) | (refine' ne_lt' ?z3 ?z4; (case z3 => with_reducible assumption); (case z4 => k_mem)) | (refine' ne_o ?z5 ?z6; (case z5 => with_reducible assumption); (case z6 => k_mem)) | (refine' ne_o' ?z7 ?z8; (case z7 => with_reducible assumption); (case z8 => k_mem)) | omega)))
  (k_with "all" => (first | with_reducible assumption | with_reducible exact all_lt (by assumption) | exact List.forall_mem_nil _ | (refine' List.forall_mem_cons.mpr ⟨?za, ?zb⟩; (case za => k_ne); (case zb => k_all))))
  (k_with "CompRest" => (with_unfolding_all first | (refine LCg.CompRest.succ ?_; intro v' I' oI' C' oC' D' m' h' tk' E' hv' hC' hx' F' N' off' ne'; (first | lcg_open hv' | (obtain ⟨t9', hv9'⟩ := hv'; subst hv9')); (have offI' := off3_I off'); (have offC' := off3_C off'); (have offD' := off3_D off'); clear off') | refine LCg.CompRest.zero ?_))
  (k_with "FinE" => ((unfold LCg.FinE); intro D' h' tk' F' N' o1'; (replace o1' := off1_D o1'); (try simp only [List.nil_append, List.cons_append] at N'); (try dsimp only)))
  (k_with "FinA" => ((unfold LCg.FinA); intro D' h' tk' F' N' o1'; (replace o1' := off1_D o1'); (try simp only [List.nil_append, List.cons_append] at N'); (try dsimp only)))
  (k_with "call builtin:issubclass" => (k_here; k_dflt (refine' isub_call (t := 0) ?w2k1 ?_; (case w2k1 => exact News.isTup (by k_asm) (by k_mem)); k_whole)))
  ((have hrow : (hd.heap_39, PySem.Challenge.rw_pd0044_01) = (hd.heap_39, PySem.Challenge.rw_pd0044_01) := rfl); revert hrow; k_fill; intro hrow; clear hrow; (obtain ⟨ahd, adp, afr, agd, aun⟩ := A; (have hh9 : ahd = none := hh); subst hh9; clear hh; (try dsimp only at hdep huni)))
  (refine' enterS X T ?k6 ?k7 ?k8 ?k9 ?kB ?_ ?c2 ?c3 ?c4 ?c5; (case k6 => k_is); (case k7 => k_is); (case k8 => ((try dsimp only); omega)); (case k9 => exact BindsTo.of_eq rfl); (case c5 => decide); (case kB => exact locs rfl); (case c2 => exact rfl); (case c3 => exact rfl); (case c4 => exact rfl))
  intro L' h' F' N'
  dsimp only
  w_strict (k_steps; all_goals exact hret _ _ _ (Fr.keep (by assumption)))
end
end

/-! part C3 -/
section
set_option maxRecDepth 100000
set_option maxHeartbeats 0
section
variable {w : World} {A : Around} {s : Shared} {p : Program} {loose : List Str} {mean : ExcName → Option Value} {mg mb : Str → Option Value} {Q E : Value → Shared → Prop}
theorem truthy_s {x : Str} {t : Tok} {Q : Bool → Shared → Prop} (h1 : 1 ≤ x.length) (h2 : x.length ≤ 1000) (h : Q true { s with toks := s.toks + 1 + 1 }) : wpAny (model PySem.Challenge.rw_pd0044_01.row.prog w) A (truthy (.str x t)) Q (fun e s' => E e s') s := by
  refine PySem.P.truthy_str (by omega) ?_
  have : ((x.length : Int) != 0) = true := by simp; omega
  rw [this]; exact h
theorem join_c {a b : Str} {t u : Tok} (X : (hd.heap_39 w.params).In s.heap) (T : Top p loose mean mg mb s.heap) (hh : A.handled = none) (hdep : A.depth + 16 < recursionLimit) (huni : A.units + 100 < cLine)
  (hb : Txt.startswith b (Str.ofString "/") = false) (ha1 : 1 ≤ a.length) (ha2 : a.length ≤ 100) (hb1 : 1 ≤ b.length) (hb2 : b.length ≤ 100)
  (hret : ∀ h' tk' u, Kp s.heap h' → Q (.str (if Txt.endswith a (Str.ofString "/") then a ++ b else a ++ (Str.ofString "/" ++ b)) u) { s with heap := h', toks := tk' }) : wpAny (model PySem.Challenge.rw_pd0044_01.row.prog w) A (call (.ref 122) [.str a t, .str b u]) Q E s := by
  k_with_none
  (k_with "ne" => (refine neN ?_; (try dsimp only); (first | with_reducible assumption | with_reducible exact Ne.symm (by assumption) | (refine' ne_lt ?z1 ?z2; (case z1 => with_reducible assumption); (case z2 => k_mem)) | (refine' ne_lt' ?z3 ?z4; (case z3 => with_reducible assumption); (case z4 => k_mem)) | (refine' ne_o ?z5 ?z6; (case z5 => with_reducible assumption); (case z6 => k_mem)) | (refine' ne_o' ?z7 ?z8; (case z7 => with_reducible assumption); (case z8 => k_mem)) | omega)))
  (k_with "all" => (first | with_reducible assumption | with_reducible exact all_lt (by assumption) | exact List.forall_mem_nil _ | (refine' List.forall_mem_cons.mpr ⟨?za, ?zb⟩; (case za => k_ne); (case zb => k_all))))
  (k_with "CompRest" => (with_unfolding_all first | (refine LCg.CompRest.succ ?_; intro v' I' oI' C' oC' D' m' h' tk' E' hv' hC' hx' F' N' off' ne'; (first | lcg_open hv' | (obtain ⟨t9', hv9'⟩ := hv'; subst hv9')); (have offI' := off3_I off'); (have offC' := off3_C off'); (have offD' := off3_D off'); clear off') | refine LCg.CompRest.zero ?_))
  (k_with "FinE" => ((unfold LCg.FinE); intro D' h' tk' F' N' o1'; (replace o1' := off1_D o1'); (try simp only [List.nil_append, List.cons_append] at N'); (try dsimp only)))
  (k_with "FinA" => ((unfold LCg.FinA); intro D' h' tk' F' N' o1'; (replace o1' := off1_D o1'); (try simp only [List.nil_append, List.cons_append] at N'); (try dsimp only)))
  (k_with "truthy str" => (k_here; k_dflt (refine' truthy_s ?w3k1 ?w3k2 ?_; (case w3k1 => assumption); (case w3k2 => omega); k_whole)))
  (k_with "call ref" => (k_here; k_dflt (first | (refine' fspath_c ?w4kX ?w4kT ?w4kh ?w4k1 ?w4k2 ?_; (case w4kX => (first | assumption | exact Frag.In.keeps (by k_asm) (Fr.keep (by k_asm)))); (case w4kT => (first | assumption | exact Top.keeps (by k_asm) (Fr.keep (by k_asm)))); (case w4kh => rfl); (case w4k1 => ((try simp only [depth_deeper, units_deeper, Around.in1_units, Around.in1_depth]); (try dsimp only); omega)); (case w4k2 => ((try simp only [depth_deeper, units_deeper, Around.in1_units, Around.in1_depth]); (try dsimp only); omega)); k_whole; intro h' tk' kp'; ((have F' := Fr.keeps (by k_asm) kp'); (have N' := News.grown (by k_asm) kp'); clear kp'; (try k_sweep))) | (refine' getsep_c ?w4kX ?w4kT ?w4kh ?w4k1 ?w4k2 ?_; (case w4kX => (first | assumption | exact Frag.In.keeps (by k_asm) (Fr.keep (by k_asm)))); (case w4kT => (first | assumption | exact Top.keeps (by k_asm) (Fr.keep (by k_asm)))); (case w4kh => rfl); (case w4k1 => ((try simp only [depth_deeper, units_deeper, Around.in1_units, Around.in1_depth]); (try dsimp only); omega)); (case w4k2 => ((try simp only [depth_deeper, units_deeper, Around.in1_units, Around.in1_depth]); (try dsimp only); omega)); k_whole; intro h' tk' u' kp'; ((have F' := Fr.keeps (by k_asm) kp'); (have N' := News.grown (by k_asm) kp'); clear kp'; (try k_sweep))))))
  ((have hrow : (hd.heap_39, PySem.Challenge.rw_pd0044_01) = (hd.heap_39, PySem.Challenge.rw_pd0044_01) := rfl); revert hrow; k_fill; intro hrow; clear hrow; (obtain ⟨ahd, adp, afr, agd, aun⟩ := A; (have hh9 : ahd = none := hh); subst hh9; clear hh; (try dsimp only at hdep huni)))
  (refine' enterV (rest := [.str b u]) (bf := fun v => [(Str.ofString "a", .str a t), (Str.ofString "p", v)]) (nb := 2) X T ?k6 ?k7 ?k8 ?k9 ?kz ?kB ?kn ?_ ?c2 ?c3 ?c4 ?c5; (case k6 => k_is); (case k7 => k_is); (case k8 => ((try dsimp only); omega)); (case k9 => exact rfl); (case kz => exact (by rw [sizeLine_eq]; simp)); (case c5 => decide); (case kB => intro t; exact locs rfl); (case kn => intro t; exact rfl); (case c2 => exact rfl); (case c3 => exact rfl); (case c4 => exact rfl))
  intro T' L' h' F' N'
  (try dsimp only)
  w_strict (k_steps; all_goals ((rename Txt.endswith _ _ = _ => he); (simp only [he, if_true, Bool.false_eq_true, if_false] at hret); exact hret _ _ _ (Fr.keep (by assumption))))
end
end
section
section
variable {w : World} {A : Around} {s : Shared} {p : Program} {loose : List Str} {mean : ExcName → Option Value} {mg mb : Str → Option Value} {Q E : Value → Shared → Prop}
noncomputable def dirF (a : Str) : Str := if ((Txt.slice a none (some (Txt.rfind a (Str.ofString "/") + 1))).length : Int) ≠ 0 ∧ (Txt.slice a none (some (Txt.rfind a (Str.ofString "/") + 1)) != Txt.mul (Str.ofString "/") ((Txt.slice a none (some (Txt.rfind a (Str.ofString "/") + 1))).length : Int)) = true then Txt.rstripChars (Txt.slice a none (some (Txt.rfind a (Str.ofString "/") + 1))) (Str.ofString "/") else Txt.slice a none (some (Txt.rfind a (Str.ofString "/") + 1))
theorem dirF_1 {a : Str} (h1 : ((Txt.slice a none (some (Txt.rfind a (Str.ofString "/") + 1))).length : Int) ≠ 0) (h2 : (Txt.slice a none (some (Txt.rfind a (Str.ofString "/") + 1)) != Txt.mul (Str.ofString "/") ((Txt.slice a none (some (Txt.rfind a (Str.ofString "/") + 1))).length : Int)) = true) : dirF a = Txt.rstripChars (Txt.slice a none (some (Txt.rfind a (Str.ofString "/") + 1))) (Str.ofString "/") := if_pos ⟨h1, h2⟩
theorem dirF_2 {a : Str} (h2 : (Txt.slice a none (some (Txt.rfind a (Str.ofString "/") + 1)) != Txt.mul (Str.ofString "/") ((Txt.slice a none (some (Txt.rfind a (Str.ofString "/") + 1))).length : Int)) = false) : dirF a = Txt.slice a none (some (Txt.rfind a (Str.ofString "/") + 1)) := if_neg (fun h => by rw [h2] at h; cases h.2)
theorem dirF_3 {a : Str} (h1 : ((Txt.slice a none (some (Txt.rfind a (Str.ofString "/") + 1))).length : Int) = 0) : dirF a = Txt.slice a none (some (Txt.rfind a (Str.ofString "/") + 1)) := if_neg (fun h => h.1 h1)
theorem dirname_c {a : Str} {t : Tok} (X : (hd.heap_39 w.params).In s.heap) (T : Top p loose mean mg mb s.heap) (hh : A.handled = none) (hdep : A.depth + 16 < recursionLimit) (huni : A.units + 100 < cLine)
  (ha1 : 1 ≤ a.length) (ha2 : a.length ≤ 100) 
  (hret : ∀ h' tk' u, Kp s.heap h' → Q (.str (dirF a) u) { s with heap := h', toks := tk' }) : wpAny (model PySem.Challenge.rw_pd0044_01.row.prog w) A (call (.ref 129) [.str a t]) Q E s := by
  k_with_none
  (k_with "ne" => (refine neN ?_; (try dsimp only); (first | with_reducible assumption | with_reducible exact Ne.symm (by assumption) | (refine' ne_lt ?z1 ?z2; (case z1 => with_reducible assumption); (case z2 => k_mem)) | (refine' ne_lt' ?z3 ?z4; (case z3 => with_reducible assumption); (case z4 => k_mem)) | (refine' ne_o ?z5 ?z6; (case z5 => with_reducible assumption); (case z6 => k_mem)) | (refine' ne_o' ?z7 ?z8; (case z7 => with_reducible assumption); (case z8 => k_mem)) | omega)))
  (k_with "all" => (first | with_reducible assumption | with_reducible exact all_lt (by assumption) | exact List.forall_mem_nil _ | (refine' List.forall_mem_cons.mpr ⟨?za, ?zb⟩; (case za => k_ne); (case zb => k_all))))
  (k_with "CompRest" => (with_unfolding_all first | (refine LCg.CompRest.succ ?_; intro v' I' oI' C' oC' D' m' h' tk' E' hv' hC' hx' F' N' off' ne'; (first | lcg_open hv' | (obtain ⟨t9', hv9'⟩ := hv'; subst hv9')); (have offI' := off3_I off'); (have offC' := off3_C off'); (have offD' := off3_D off'); clear off') | refine LCg.CompRest.zero ?_))
  (k_with "FinE" => ((unfold LCg.FinE); intro D' h' tk' F' N' o1'; (replace o1' := off1_D o1'); (try simp only [List.nil_append, List.cons_append] at N'); (try dsimp only)))
  (k_with "FinA" => ((unfold LCg.FinA); intro D' h' tk' F' N' o1'; (replace o1' := off1_D o1'); (try simp only [List.nil_append, List.cons_append] at N'); (try dsimp only)))
  (k_with "truthy str" => (k_here; k_dflt (refine' truthy_s ?w5k1 ?w5k2 ?_; (case w5k1 => assumption); (case w5k2 => omega); k_whole)))
  (k_with "call ref" => (k_here; k_dflt (first | (refine' fspath_c ?w6kX ?w6kT ?w6kh ?w6k1 ?w6k2 ?_; (case w6kX => (first | assumption | exact Frag.In.keeps (by k_asm) (Fr.keep (by k_asm)))); (case w6kT => (first | assumption | exact Top.keeps (by k_asm) (Fr.keep (by k_asm)))); (case w6kh => rfl); (case w6k1 => ((try simp only [depth_deeper, units_deeper, Around.in1_units, Around.in1_depth]); (try dsimp only); omega)); (case w6k2 => ((try simp only [depth_deeper, units_deeper, Around.in1_units, Around.in1_depth]); (try dsimp only); omega)); k_whole; intro h' tk' kp'; ((have F' := Fr.keeps (by k_asm) kp'); (have N' := News.grown (by k_asm) kp'); clear kp'; (try k_sweep))) | (refine' getsep_c ?w6kX ?w6kT ?w6kh ?w6k1 ?w6k2 ?_; (case w6kX => (first | assumption | exact Frag.In.keeps (by k_asm) (Fr.keep (by k_asm)))); (case w6kT => (first | assumption | exact Top.keeps (by k_asm) (Fr.keep (by k_asm)))); (case w6kh => rfl); (case w6k1 => ((try simp only [depth_deeper, units_deeper, Around.in1_units, Around.in1_depth]); (try dsimp only); omega)); (case w6k2 => ((try simp only [depth_deeper, units_deeper, Around.in1_units, Around.in1_depth]); (try dsimp only); omega)); k_whole; intro h' tk' u' kp'; ((have F' := Fr.keeps (by k_asm) kp'); (have N' := News.grown (by k_asm) kp'); clear kp'; (try k_sweep))))))
  ((have hrow : (hd.heap_39, PySem.Challenge.rw_pd0044_01) = (hd.heap_39, PySem.Challenge.rw_pd0044_01) := rfl); revert hrow; k_fill; intro hrow; clear hrow; (obtain ⟨ahd, adp, afr, agd, aun⟩ := A; (have hh9 : ahd = none := hh); subst hh9; clear hh; (try dsimp only at hdep huni)))
  (refine' enterS X T ?k6 ?k7 ?k8 ?k9 ?kB ?_ ?c2 ?c3 ?c4 ?c5; (case k6 => k_is); (case k7 => k_is); (case k8 => ((try dsimp only); omega)); (case k9 => exact BindsTo.of_eq rfl); (case c5 => decide); (case kB => exact locs rfl); (case c2 => exact rfl); (case c3 => exact rfl); (case c4 => exact rfl))
  intro L' h' F' N'
  (try dsimp only)
  w_strict (k_steps; all_goals ((first | rw [dirF_1 (by assumption) (by assumption)] at hret | rw [dirF_2 (by assumption)] at hret | rw [dirF_3 (by assumption)] at hret); exact hret _ _ _ (Fr.keep (by assumption))))
end
end

/-! part Math -/
section
/-! the search tree as paths: plain lists of numbers -/

noncomputable def side (b : Bool) (c : Nat) (l : List Nat) : List Nat := l.filter fun x => if b then decide (c < x) else decide (x < c)

theorem side_length (b : Bool) (c : Nat) (l : List Nat) : (side b c l).length ≤ l.length := List.length_filter_le _ _

noncomputable def pathOf : List Nat → Nat → List Bool
  | [], _ => []
  | c :: rest, k => if k = c then [] else decide (c < k) :: pathOf (side (decide (c < k)) c rest) k
termination_by l => l.length
decreasing_by simp only [List.length_cons]; exact Nat.lt_succ_of_le (side_length _ _ _)

theorem pathOf_nil (k : Nat) : pathOf [] k = [] := by rw [pathOf]
theorem pathOf_cons (c : Nat) (rest : List Nat) (k : Nat) : pathOf (c :: rest) k = if k = c then [] else decide (c < k) :: pathOf (side (decide (c < k)) c rest) k := by rw [pathOf]
theorem pathOf_same (c : Nat) (rest : List Nat) : pathOf (c :: rest) c = [] := by rw [pathOf_cons, if_pos rfl]
theorem pathOf_ne {c k : Nat} (rest : List Nat) (h : k ≠ c) : pathOf (c :: rest) k = decide (c < k) :: pathOf (side (decide (c < k)) c rest) k := by rw [pathOf_cons, if_neg h]

noncomputable def sub : List Nat → List Bool → List Nat
  | cs, [] => cs
  | [], _ :: _ => []
  | c :: rest, b :: p => sub (side b c rest) p

theorem sub_root (cs : List Nat) : sub cs [] = cs := by cases cs <;> rfl
theorem sub_nil (p : List Bool) : sub [] p = [] := by cases p <;> rfl
theorem sub_cons (c : Nat) (rest : List Nat) (b : Bool) (p : List Bool) : sub (c :: rest) (b :: p) = sub (side b c rest) p := rfl

theorem sub_snoc (b : Bool) : ∀ (p : List Bool) (cs : List Nat), sub cs (p ++ [b]) = match sub cs p with | [] => [] | c :: rest => side b c rest
  | [], cs => by cases cs with
    | nil => rfl
    | cons c rest => simp only [List.nil_append]; rw [sub_cons, sub_root, sub_root]
  | b' :: p, cs => by cases cs with
    | nil => simp only [List.cons_append, sub_nil]
    | cons c rest => simp only [List.cons_append, sub_cons]; exact sub_snoc b p _

theorem path_step {cs : List Nat} {k c : Nat} {rest : List Nat} {p : List Bool} (h : pathOf cs k = p ++ pathOf (sub cs p) k) (hs : sub cs p = c :: rest) (hk : k ≠ c) :
    pathOf cs k = (p ++ [decide (c < k)]) ++ pathOf (sub cs (p ++ [decide (c < k)])) k ∧ (sub cs (p ++ [decide (c < k)])).length < (sub cs p).length := by
  rw [sub_snoc, hs]
  rw [hs, pathOf_ne rest hk] at h
  refine ⟨by rw [h]; simp, ?_⟩
  simp only [List.length_cons]; exact Nat.lt_succ_of_le (side_length _ _ _)

theorem mem_side {b : Bool} {c x : Nat} {l : List Nat} : x ∈ side b c l ↔ x ∈ l ∧ (if b then c < x else x < c) := by
  cases b <;> simp [side]

theorem sub_mem : ∀ (p : List Bool) (cs : List Nat) (x : Nat), x ∈ sub cs p → x ∈ cs
  | [], cs, x, h => by rw [sub_root] at h; exact h
  | b :: p, [], x, h => by rw [sub_nil] at h; exact h
  | b :: p, c :: rest, x, h => by
    rw [sub_cons] at h
    exact List.mem_cons_of_mem _ (mem_side.mp (sub_mem p _ x h)).1

theorem nodup_side {b : Bool} {c : Nat} {l : List Nat} (h : l.Nodup) : (side b c l).Nodup := h.filter _

theorem path_iff : ∀ (p : List Bool) (cs : List Nat) (n : Nat), n ∈ cs → (pathOf cs n = p ↔ (sub cs p).head? = some n)
  | [], cs, n, hn => by
    cases cs with
    | nil => cases hn
    | cons c rest =>
      rw [sub_root, pathOf_cons]
      simp only [List.head?_cons, Option.some.injEq]
      by_cases h : n = c
      · simp [h]
      · simp [h, Ne.symm h]
  | b :: p, cs, n, hn => by
    cases cs with
    | nil => cases hn
    | cons c rest =>
      rw [sub_cons, pathOf_cons]
      by_cases h : n = c
      · subst h
        simp only [if_true]
        constructor
        · intro h; cases h
        · intro h
          have := sub_mem p _ n (List.mem_of_mem_head? (by rw [h]; rfl))
          have := (mem_side.mp this).2
          cases b <;> simp at this
      · rw [if_neg h]
        have hr : n ∈ rest := by rcases List.mem_cons.mp hn with e | e; exact absurd e h; exact e
        by_cases hb : decide (c < n) = b
        · have hm : n ∈ side b c rest := mem_side.mpr ⟨hr, by subst hb; by_cases q : c < n <;> simp [q]; omega⟩
          rw [hb]
          simp only [List.cons.injEq, true_and]
          exact path_iff p _ n hm
        · constructor
          · intro e; injection e with e _; exact absurd e hb
          · intro e
            exfalso
            have := (mem_side.mp (sub_mem p _ n (List.mem_of_mem_head? (by rw [e]; rfl)))).2
            apply hb
            cases b <;> simp at this ⊢ <;> omega

theorem path_length : ∀ (m : Nat) (cs : List Nat) (k : Nat), cs.length ≤ m → (pathOf cs k).length ≤ cs.length
  | m, [], k, _ => by rw [pathOf_nil]; simp
  | 0, c :: rest, k, h => by simp at h
  | m + 1, c :: rest, k, h => by
    rw [pathOf_cons]
    split
    · simp
    · have hl := side_length (decide (c < k)) c rest
      have := path_length m (side (decide (c < k)) c rest) k (by simp at h; omega)
      simp only [List.length_cons]; omega

theorem side_append (b : Bool) (c : Nat) (l l' : List Nat) : side b c (l ++ l') = side b c l ++ side b c l' := List.filter_append ..

theorem path_append : ∀ (m : Nat) (cs : List Nat) (k x : Nat), cs.length ≤ m → (x ∈ cs ∨ x = k) → pathOf (cs ++ [k]) x = pathOf cs x
  | m, [], k, x, _, hx => by
    rcases hx with hx | rfl
    · cases hx
    · rw [List.nil_append, pathOf_same, pathOf_nil]
  | 0, c :: rest, k, x, h, _ => by simp at h
  | m + 1, c :: rest, k, x, h, hx => by
    rw [List.cons_append, pathOf_cons, pathOf_cons]
    split
    · rfl
    · rename_i hne
      rw [side_append]
      have hl := side_length (decide (c < x)) c rest
      by_cases hk : (if decide (c < x) = true then c < k else k < c)
      · have e : side (decide (c < x)) c [k] = [k] := by
          unfold side; rw [List.filter_cons_of_pos, List.filter_nil]
          cases hd : decide (c < x) <;> simp [hd] at hk ⊢ <;> exact hk
        rw [e, path_append m _ k x (by simp at h; omega)]
        rcases hx with hx | rfl
        · left
          rcases List.mem_cons.mp hx with e | e
          · exact absurd e hne
          · exact mem_side.mpr ⟨e, by by_cases q : c < x <;> simp [q]; omega⟩
        · exact .inr rfl
      · have e : side (decide (c < x)) c [k] = [] := by
          unfold side; rw [List.filter_cons_of_neg, List.filter_nil]
          cases hd : decide (c < x) <;> simp [hd] at hk ⊢ <;> exact hk
        rw [e, List.append_nil]

/-! dedup, keep the first -/
noncomputable def comeOf : List Nat → List Nat := List.foldl (fun acc x => if x ∈ acc then acc else acc ++ [x]) []
theorem comeOf_snoc (l : List Nat) (x : Nat) : comeOf (l ++ [x]) = if x ∈ comeOf l then comeOf l else comeOf l ++ [x] := by
  unfold comeOf; rw [List.foldl_append]; rfl
end

/-! part Txts -/
section
set_option maxRecDepth 100000
set_option maxHeartbeats 0

noncomputable def lt2 (b : Bool) : Nat := if b then 114 else 108
noncomputable def flat : List Bool → List Nat
  | [] => []
  | b :: p => 47 :: lt2 b :: flat p
noncomputable def pstr (p : List Bool) : Str := match p with
  | [] => ⟨#[47]⟩
  | b :: p => ⟨(flat (b :: p)).toArray⟩
noncomputable def spot (p : List Bool) : Str := ⟨(flat p ++ [47, 109]).toArray⟩
noncomputable def joinF (a b : Str) : Str := if Txt.endswith a (Str.ofString "/") then a ++ b else a ++ (Str.ofString "/" ++ b)

theorem slash : Str.ofString "/" = ⟨#[47]⟩ := by decide +kernel
theorem str_r : Str.ofString "r" = ⟨#[114]⟩ := by decide +kernel
theorem str_l : Str.ofString "l" = ⟨#[108]⟩ := by decide +kernel
theorem str_m : Str.ofString "m" = ⟨#[109]⟩ := by decide +kernel

theorem rfind_at {L R : List Nat} (hR : 47 ∉ R) : Txt.rfind ⟨(L ++ 47 :: R).toArray⟩ ⟨#[47]⟩ = (L.length : Int) := by
  have hat : ∀ i, StrLaws.At (⟨(L ++ 47 :: R).toArray⟩ : Str) ⟨#[47]⟩ (⟨(L ++ 47 :: R).toArray⟩ : Str).length i ↔ (L ++ 47 :: R)[i]? = some 47 := fun i => StrLaws.subAt_one (⟨(L ++ 47 :: R).toArray⟩ : Str) 47 i
  have h0 : (L ++ 47 :: R)[L.length]? = some 47 := by simp
  unfold Txt.rfind
  rcases StrLaws.last_spec (⟨(L ++ 47 :: R).toArray⟩ : Str) ⟨#[47]⟩ with ⟨_, hn⟩ | ⟨i, hi, ha, hlast⟩
  · exact absurd ((hat _).mpr h0) (hn _)
  · rw [hi]
    have hai := (hat i).mp ha
    have : i = L.length := by
      rcases Nat.lt_trichotomy i L.length with h | h | h
      · exact absurd ((hat _).mpr h0) (hlast _ h)
      · exact h
      · exfalso
        rw [List.getElem?_append_right (by omega)] at hai
        obtain ⟨k, hk⟩ : ∃ k, i - L.length = k + 1 := ⟨i - L.length - 1, by omega⟩
        rw [hk, List.getElem?_cons_succ] at hai
        exact hR (List.mem_of_getElem? hai)
    rw [this]

theorem slice_to {L R : List Nat} : Txt.slice ⟨(L ++ 47 :: R).toArray⟩ none (some ((L.length : Int) + 1)) = ⟨(L ++ [47]).toArray⟩ := by
  have := StrLaws.sliceText_to (x := (⟨(L ++ 47 :: R).toArray⟩ : Str)) (j := (L.length : Int) + 1) (by simp; omega)
  refine Eq.trans this ?_
  congr 1
  simp only [List.drop_zero]
  have e : ((L.length : Int) + 1 - 0).toNat = L.length + 1 := by omega
  rw [e, List.take_append, List.take_of_length_le (by omega)]
  simp

theorem mul_slash (n : Int) : ∀ y ∈ (Txt.mul ⟨#[47]⟩ n).cps.toList, y = 47 := by
  have gen : ∀ (l : List (Array Nat)) (acc : Array Nat), (∀ a ∈ l, a = #[47]) → (∀ y ∈ acc.toList, y = 47) → ∀ y ∈ (l.foldl (· ++ ·) acc).toList, y = 47 := by
    intro l
    induction l with
    | nil => intro acc _ h; exact h
    | cons a l ih =>
      intro acc h1 h2
      refine ih _ (fun b hb => h1 b (List.mem_cons_of_mem _ hb)) ?_
      intro y hy
      rw [h1 a (by simp), Array.toList_append] at hy
      rcases List.mem_append.mp hy with hy | hy
      · exact h2 y hy
      · simpa using hy
  unfold Txt.mul
  split
  · intro y hy; simp [Str.empty] at hy
  · split
    · intro y hy; simpa using hy
    · exact gen _ _ (fun a ha => List.eq_of_mem_replicate ha) (by simp)

theorem dir_gen {L R : List Nat} {x : Nat} (hx : x ≠ 47) (hR : 47 ∉ R) : dirF ⟨(L ++ [x] ++ 47 :: R).toArray⟩ = ⟨(L ++ [x]).toArray⟩ := by
  have e : Txt.slice ⟨(L ++ [x] ++ 47 :: R).toArray⟩ none (some (Txt.rfind ⟨(L ++ [x] ++ 47 :: R).toArray⟩ (Str.ofString "/") + 1)) = ⟨(L ++ [x] ++ [47]).toArray⟩ := by
    rw [slash, rfind_at hR]; exact slice_to
  have h2 : ((⟨(L ++ [x] ++ [47]).toArray⟩ : Str) != Txt.mul (Str.ofString "/") (((⟨(L ++ [x] ++ [47]).toArray⟩ : Str).length : Nat) : Int)) = true := by
    rw [bne_iff_ne, slash]
    intro h
    have := mul_slash _ x (by rw [← h]; simp)
    exact hx this
  have := dirF_1 (a := ⟨(L ++ [x] ++ 47 :: R).toArray⟩) (by rw [e]; simp [Str.length]; omega) (by rw [e]; exact h2)
  rw [this, e, slash]
  have tw : ((L ++ [x] ++ [47]).reverse.takeWhile (#[47] : Array Nat).contains) = [47] := by
    simp only [List.reverse_append, List.reverse_cons, List.reverse_nil, List.nil_append, List.singleton_append, List.cons_append]
    rw [List.takeWhile_cons_of_pos (by simp), List.takeWhile_cons_of_neg (by simpa using hx)]
  unfold Txt.rstripChars Txt.stripBy
  have hi : stripHi (#[47] : Array Nat).contains true (⟨(L ++ [x] ++ [47]).toArray⟩ : Str) 0 = (L ++ [x]).length := by
    unfold stripHi
    simp only [if_true, List.drop_zero]
    rw [tw]
    simp [Str.length]
  have lo : stripLo (#[47] : Array Nat).contains false (⟨(L ++ [x] ++ [47]).toArray⟩ : Str) = 0 := rfl
  have hs : stripSame (#[47] : Array Nat).contains false true (⟨(L ++ [x] ++ [47]).toArray⟩ : Str) = false := by
    unfold stripSame; rw [lo, hi]; simp [Str.length]
  rw [hs]
  simp only [Bool.false_eq_true, if_false]
  unfold PySem.stripped
  rw [lo, hi]
  apply Str.ext'
  apply Array.toList_inj.mp
  rw [StrLaws.strSub_toList]
  simp only [List.drop_zero, Nat.sub_zero]
  exact List.take_left' rfl

theorem dir_root {R : List Nat} (hR : 47 ∉ R) : dirF ⟨(47 :: R).toArray⟩ = ⟨#[47]⟩ := by
  have e : Txt.slice ⟨(47 :: R).toArray⟩ none (some (Txt.rfind ⟨(47 :: R).toArray⟩ (Str.ofString "/") + 1)) = ⟨#[47]⟩ := by
    rw [slash]
    have := rfind_at (L := []) hR
    simp only [List.nil_append, List.length_nil] at this
    rw [this]
    have := slice_to (L := []) (R := R)
    simpa using this
  have h2 : ((⟨#[47]⟩ : Str) != Txt.mul (Str.ofString "/") (((⟨#[47]⟩ : Str).length : Nat) : Int)) = false := by decide +kernel
  have := dirF_2 (a := ⟨(47 :: R).toArray⟩) (by rw [e]; exact h2)
  rw [this, e]

theorem flat_append (p q : List Bool) : flat (p ++ q) = flat p ++ flat q := by
  induction p with
  | nil => rfl
  | cons b p ih => simp only [List.cons_append, flat, ih]
theorem flat_length (p : List Bool) : (flat p).length = 2 * p.length := by
  induction p with
  | nil => rfl
  | cons b p ih => simp only [flat, List.length_cons, ih]; omega
theorem pstr_ne {p : List Bool} (h : p ≠ []) : pstr p = ⟨(flat p).toArray⟩ := by
  cases p with
  | nil => exact absurd rfl h
  | cons b p => rfl
theorem flat_snoc (p : List Bool) (b : Bool) : flat (p ++ [b]) = flat p ++ [47, lt2 b] := by rw [flat_append]; rfl
theorem lt2_ne (b : Bool) : lt2 b ≠ 47 := by cases b <;> decide

theorem dir_pstr (p : List Bool) (b : Bool) : dirF (pstr (p ++ [b])) = pstr p := by
  have hR : 47 ∉ [lt2 b] := by simp; exact (lt2_ne b).symm
  rw [pstr_ne (by simp), flat_snoc]
  rcases List.eq_nil_or_concat p with rfl | ⟨q, c, rfl⟩
  · exact dir_root hR
  · rw [List.concat_eq_append, pstr_ne (by simp), flat_snoc]
    have := dir_gen (L := flat q ++ [47]) (x := lt2 c) (R := [lt2 b]) (lt2_ne c) hR
    simpa using this
theorem dir_spot (p : List Bool) : dirF (spot p) = pstr p := by
  have hR : 47 ∉ [109] := by simp
  unfold spot
  rcases List.eq_nil_or_concat p with rfl | ⟨q, c, rfl⟩
  · exact dir_root hR
  · rw [List.concat_eq_append, pstr_ne (by simp), flat_snoc]
    have := dir_gen (L := flat q ++ [47]) (x := lt2 c) (R := [109]) (lt2_ne c) hR
    simpa using this

theorem ends_ne {p : List Bool} (h : p ≠ []) : Txt.endswith (pstr p) (Str.ofString "/") = false := by
  rcases List.eq_nil_or_concat p with rfl | ⟨q, c, rfl⟩
  · exact absurd rfl h
  · rw [List.concat_eq_append, pstr_ne (by simp), flat_snoc, slash]
    unfold Txt.endswith
    rw [StrLaws.subAt_eq]
    have e : (⟨(flat q ++ [47, lt2 c]).toArray⟩ : Str).length - (⟨#[47]⟩ : Str).length = (flat q).length + 1 := by simp [Str.length]
    rw [e]
    simp only [Bool.and_eq_false_iff]
    right
    simp [Str.length]
    exact lt2_ne c
theorem ends_root : Txt.endswith (pstr []) (Str.ofString "/") = true := by decide +kernel

theorem join_gen (p : List Bool) (x : Nat) : joinF (pstr p) ⟨#[x]⟩ = ⟨(flat p ++ [47, x]).toArray⟩ := by
  unfold joinF
  by_cases h : p = []
  · subst h
    rw [ends_root, if_pos rfl]
    apply Str.ext'; rfl
  · rw [ends_ne h, if_neg (by simp), pstr_ne h, slash]
    apply Str.ext'
    simp only [Str.cps_append]
    apply Array.toList_inj.mp
    simp
theorem join_b (p : List Bool) (b : Bool) : joinF (pstr p) ⟨#[lt2 b]⟩ = pstr (p ++ [b]) := by
  rw [join_gen, pstr_ne (by simp), flat_snoc]

theorem pstr_len (p : List Bool) : 1 ≤ (pstr p).length ∧ (pstr p).length ≤ 2 * p.length + 1 := by
  by_cases h : p = []
  · subst h; decide
  · rw [pstr_ne h]
    have := flat_length p
    have : 1 ≤ p.length := by cases p with | nil => exact absurd rfl h | cons => simp
    simp only [Str.length, List.size_toArray]; omega
theorem spot_len (p : List Bool) : (spot p).length = 2 * p.length + 2 := by
  simp [spot, Str.length, flat_length]

structure TxtFacts (p : List Bool) : Prop where
  r : joinF (pstr p) (Str.ofString "r") = pstr (p ++ [true])
  l : joinF (pstr p) (Str.ofString "l") = pstr (p ++ [false])
  m : joinF (pstr p) (Str.ofString "m") = spot p
  len1 : 1 ≤ (pstr p).length
  len2 : (pstr p).length ≤ 20
  slen1 : 1 ≤ (spot p).length
  slen2 : (spot p).length ≤ 20
theorem txt_facts {p : List Bool} (h : p.length ≤ 7) : TxtFacts p where
  r := by rw [str_r]; exact join_b p true
  l := by rw [str_l]; exact join_b p false
  m := by rw [str_m]; exact join_gen p 109
  len1 := (pstr_len p).1
  len2 := by have := (pstr_len p).2; omega
  slen1 := by rw [spot_len]; omega
  slen2 := by rw [spot_len]; omega

theorem flat_inj : ∀ (p q : List Bool), flat p = flat q → p = q
  | [], [], _ => rfl
  | [], _ :: _, h => by simp [flat] at h
  | _ :: _, [], h => by simp [flat] at h
  | b :: p, c :: q, h => by
    simp only [flat, List.cons.injEq, true_and] at h
    rw [flat_inj p q h.2]
    have := h.1
    cases b <;> cases c <;> simp [lt2] at this ⊢
theorem pstr_inj {p q : List Bool} (h : pstr p = pstr q) : p = q := by
  have h := congrArg (fun x : Str => x.cps.toList) h
  cases p with
  | nil => cases q with
    | nil => rfl
    | cons c q => simp [pstr, flat] at h
  | cons b p => cases q with
    | nil => simp [pstr, flat] at h
    | cons c q => exact flat_inj _ _ (by simpa [pstr] using h)
theorem starts_r : Txt.startswith (Str.ofString "r") (Str.ofString "/") = false := by decide +kernel
theorem starts_l : Txt.startswith (Str.ofString "l") (Str.ofString "/") = false := by decide +kernel
theorem starts_m : Txt.startswith (Str.ofString "m") (Str.ofString "/") = false := by decide +kernel
end

/-! part Ord -/
section
set_option maxRecDepth 100000
set_option maxHeartbeats 0
open PySem.SeqAt PySem.AutoSeq1 PySem.MeetsSeq PySem.MeetsSeq2 PySem.MeetsSeq3

noncomputable def CmpAt (op : CmpOp) (A : Around) (s : Shared) (y x : Value) (b : Bool) : Prop :=
  ∀ (prog : Program) (w : World) (E : Value → Shared → Prop) (Q : Value → Shared → Prop), Q (.bool b) s → wpAny (model prog w) A (richCompare op y x) Q E s

noncomputable def sizesB (op : CmpOp) (m n : Nat) : Bool := match op with
  | .Eq => m == n | .NotEq => m != n | .Lt => m < n | .LtE => m ≤ n | .Gt => m > n | _ => m ≥ n

noncomputable def ordRes (op : CmpOp) (e c : Nat → Bool) (m n : Nat) : Nat → Nat → Bool
  | 0, _ => sizesB op m n
  | k + 1, i => if e i then ordRes op e c m n k (i + 1) else c i

noncomputable def ordOp (op : CmpOp) (code : Nat) : Prop := (op = .Lt ∧ code = 0) ∨ (op = .LtE ∧ code = 1) ∨ (op = .Gt ∧ code = 4)

theorem ord_loop {op : CmpOp} {code : Nat} (hop : ordOp op code) (l b : Addr) (items items2 : Array Value) (n n2 : Nat) (dd dd2 : Option Addr) (sl sl2 : Array (Option Value)) (e c : Nat → Bool) (k : Nat) :
    ∀ i : Nat, min items.size items2.size - i = k → Meets (Builtin.«list.__eq__.loop» ⟨[.ref l, .ref b, rawInt i, rawInt code], []⟩)
      (fun A R s => s.heap.get? l = some { cls := .type "list", dict := dd, data := .seq items n, slots := sl } ∧ s.heap.get? b = some { cls := .type "list", dict := dd2, data := .seq items2 n2, slots := sl2 } ∧
        (∀ j (h1 : j < items.size) (h2 : j < items2.size), EqAt A.in1 s items[j] items2[j] (e j)) ∧ (∀ j (h1 : j < items.size) (h2 : j < items2.size), e j = false → CmpAt op A.in1 s items[j] items2[j] (c j)) ∧
        R (.ok (.ret (.bool (ordRes op e c items.size items2.size k i)))) s) := by
  induction k with
  | zero =>
    intro i hk prog w A R s h
    obtain ⟨hp, g, d, tk, os⟩ := s; obtain ⟨hl, hb, he, hc, h⟩ := h
    rcases hop with ⟨rfl, rfl⟩ | ⟨rfl, rfl⟩ | ⟨rfl, rfl⟩ <;>
    · wp_walk using wpAny_loadPart' hl, wpAny_loadPart' hb
      have hi : items[((i : Nat) : Int).toNat]? = none ∨ items2[((i : Nat) : Int).toNat]? = none := by
        simp; omega
      split
      · rename_i hq
        have q1 := congrArg Prod.fst hq
        have q2 := congrArg Prod.snd hq
        dsimp only at q1 q2
        rcases hi with h' | h'
        · rw [h'] at q1; cases q1
        · rw [h'] at q2; cases q2
      · wp_walk using wpAny_loadPart' hl, wpAny_loadPart' hb
        exact h
  | succ k ih =>
    intro i hk prog w A R s h
    obtain ⟨hp, g, d, tk, os⟩ := s; obtain ⟨hl, hb, he, hcm, h⟩ := h
    have hlt : i < items.size := by omega
    have hlt2 : i < items2.size := by omega
    have hi1 : items[((i : Nat) : Int).toNat]? = some items[i] := by simp [hlt]
    have hi2 : items2[((i : Nat) : Int).toNat]? = some items2[i] := by simp [hlt2]
    have hc : ((i : Int) + 1) = ((i + 1 : Nat) : Int) := by push_cast; rfl
    rw [ordRes] at h
    rcases hop with ⟨rfl, rfl⟩ | ⟨rfl, rfl⟩ | ⟨rfl, rfl⟩ <;>
    · wp_walk using wpAny_loadPart' hl, wpAny_loadPart' hb
      rw [hi1, hi2]
      refine wpAny_bind (he i hlt hlt2 prog w _ _ ?_)
      cases hb' : e i with
      | true =>
        rw [hb', if_pos rfl] at h
        (try simp only [if_true])
        rw [hc]
        refine wpAny_pure ?_
        exact ⟨plainId_quiet plain_eq_loop _, codeAny_builtin entry_eq_loop (by
          rw [Around.under_plainId plain_eq_loop _]
          exact ih (i + 1) (by omega) prog w A R _ ⟨hl, hb, he, hcm, h⟩)⟩
      | false =>
        rw [hb', if_neg (by simp)] at h
        (try simp only [Bool.false_eq_true, if_false])
        refine wpAny_bind (listItems_at hl rfl (wpAny_bind (listItems_at hb rfl ?_)))
        rw [hi1, hi2]
        refine wpAny_bind (hcm i hlt hlt2 hb' prog w _ _ ?_)
        exact wpAny_pure h

theorem list_ltAt (l b : Addr) (items items2 : Array Value) (n n2 : Nat) (dd dd2 : Option Addr) (sl sl2 : Array (Option Value)) (e c : Nat → Bool) :
    Meets (Builtin.«list.__lt__» ⟨[.ref l, .ref b], []⟩)
      (fun A R s => s.heap.get? l = some { cls := .type "list", dict := dd, data := .seq items n, slots := sl } ∧ s.heap.get? b = some { cls := .type "list", dict := dd2, data := .seq items2 n2, slots := sl2 } ∧
        (∀ j (h1 : j < items.size) (h2 : j < items2.size), EqAt A.in1 s items[j] items2[j] (e j)) ∧ (∀ j (h1 : j < items.size) (h2 : j < items2.size), e j = false → CmpAt .Lt A.in1 s items[j] items2[j] (c j)) ∧
        R (.ok (.ret (.bool (ordRes .Lt e c items.size items2.size (min items.size items2.size) 0)))) s) := by
  intro prog w A R s h
  obtain ⟨hp, g, d, tk, os⟩ := s; obtain ⟨hl, hb, he, hc, h⟩ := h
  have f3 := AutoSeq1.sub_list_list
  wp_walk using wpAny_loadPart' hl, wpAny_loadPart' hb
  exact ⟨plainId_quiet plain_eq_loop _, codeAny_builtin entry_eq_loop (by
    rw [Around.under_plainId plain_eq_loop _]
    exact ord_loop (op := .Lt) (code := 0) (.inl ⟨rfl, rfl⟩) l b items items2 n n2 dd dd2 sl sl2 e c _ 0 rfl prog w A R _ ⟨hl, hb, he, hc, h⟩)⟩
theorem list_leAt (l b : Addr) (items items2 : Array Value) (n n2 : Nat) (dd dd2 : Option Addr) (sl sl2 : Array (Option Value)) (e c : Nat → Bool) :
    Meets (Builtin.«list.__le__» ⟨[.ref l, .ref b], []⟩)
      (fun A R s => s.heap.get? l = some { cls := .type "list", dict := dd, data := .seq items n, slots := sl } ∧ s.heap.get? b = some { cls := .type "list", dict := dd2, data := .seq items2 n2, slots := sl2 } ∧
        (∀ j (h1 : j < items.size) (h2 : j < items2.size), EqAt A.in1 s items[j] items2[j] (e j)) ∧ (∀ j (h1 : j < items.size) (h2 : j < items2.size), e j = false → CmpAt .LtE A.in1 s items[j] items2[j] (c j)) ∧
        R (.ok (.ret (.bool (ordRes .LtE e c items.size items2.size (min items.size items2.size) 0)))) s) := by
  intro prog w A R s h
  obtain ⟨hp, g, d, tk, os⟩ := s; obtain ⟨hl, hb, he, hc, h⟩ := h
  have f3 := AutoSeq1.sub_list_list
  wp_walk using wpAny_loadPart' hl, wpAny_loadPart' hb
  exact ⟨plainId_quiet plain_eq_loop _, codeAny_builtin entry_eq_loop (by
    rw [Around.under_plainId plain_eq_loop _]
    exact ord_loop (op := .LtE) (code := 1) (.inr (.inl ⟨rfl, rfl⟩)) l b items items2 n n2 dd dd2 sl sl2 e c _ 0 rfl prog w A R _ ⟨hl, hb, he, hc, h⟩)⟩
theorem list_gtAt (l b : Addr) (items items2 : Array Value) (n n2 : Nat) (dd dd2 : Option Addr) (sl sl2 : Array (Option Value)) (e c : Nat → Bool) :
    Meets (Builtin.«list.__gt__» ⟨[.ref l, .ref b], []⟩)
      (fun A R s => s.heap.get? l = some { cls := .type "list", dict := dd, data := .seq items n, slots := sl } ∧ s.heap.get? b = some { cls := .type "list", dict := dd2, data := .seq items2 n2, slots := sl2 } ∧
        (∀ j (h1 : j < items.size) (h2 : j < items2.size), EqAt A.in1 s items[j] items2[j] (e j)) ∧ (∀ j (h1 : j < items.size) (h2 : j < items2.size), e j = false → CmpAt .Gt A.in1 s items[j] items2[j] (c j)) ∧
        R (.ok (.ret (.bool (ordRes .Gt e c items.size items2.size (min items.size items2.size) 0)))) s) := by
  intro prog w A R s h
  obtain ⟨hp, g, d, tk, os⟩ := s; obtain ⟨hl, hb, he, hc, h⟩ := h
  have f3 := AutoSeq1.sub_list_list
  wp_walk using wpAny_loadPart' hl, wpAny_loadPart' hb
  exact ⟨plainId_quiet plain_eq_loop _, codeAny_builtin entry_eq_loop (by
    rw [Around.under_plainId plain_eq_loop _]
    exact ord_loop (op := .Gt) (code := 4) (.inr (.inr ⟨rfl, rfl⟩)) l b items items2 n n2 dd dd2 sl sl2 e c _ 0 rfl prog w A R _ ⟨hl, hb, he, hc, h⟩)⟩
theorem tuple_ltAt (l b : Addr) (items items2 : Array Value) (n n2 : Nat) (dd dd2 : Option Addr) (sl sl2 : Array (Option Value)) (e c : Nat → Bool) :
    Meets (Builtin.«tuple.__lt__» ⟨[.ref l, .ref b], []⟩)
      (fun A R s => s.heap.get? l = some { cls := .type "tuple", dict := dd, data := .seq items n, slots := sl } ∧ s.heap.get? b = some { cls := .type "tuple", dict := dd2, data := .seq items2 n2, slots := sl2 } ∧
        (∀ j (h1 : j < items.size) (h2 : j < items2.size), EqAt A.in1 s items[j] items2[j] (e j)) ∧ (∀ j (h1 : j < items.size) (h2 : j < items2.size), e j = false → CmpAt .Lt A.in1 s items[j] items2[j] (c j)) ∧
        R (.ok (.ret (.bool (ordRes .Lt e c items.size items2.size (min items.size items2.size) 0)))) s) :=
  .of_wp fun prog w A R s h => by
    obtain ⟨hp, g, d, tk, os⟩ := s; obtain ⟨hl, hb, he, hcm, h⟩ := h
    have f2 := AutoSeq1.sub_tuple_tuple
    have hZ : (items.toList.zip items2.toList).length = min items.size items2.size := by simp
    wp_walk using wpAny_loadPart' hl, wpAny_loadPart' hb, wpAny_forIn_list _ (fun rest b s' => b.1 = none ∧ s' = ⟨hp, g, d, tk, os⟩ ∧ ∃ i, rest = (items.toList.zip items2.toList).drop i ∧ i ≤ min items.size items2.size ∧
      R (.ok (.ret (.bool (ordRes .Lt e c items.size items2.size (min items.size items2.size - i) i)))) ⟨hp, g, d, tk, os⟩) _
    case turn =>
      rintro ⟨y, x⟩ rest b s' ⟨hb', rfl, i, hz, hile, hR⟩
      have hlt : i < (items.toList.zip items2.toList).length := by
        rcases Nat.lt_or_ge i (items.toList.zip items2.toList).length with h' | h'
        · exact h'
        · rw [List.drop_of_length_le h'] at hz; cases hz
      have hm : i < min items.size items2.size := hZ ▸ hlt
      have h1 : i < items.size := Nat.lt_of_lt_of_le hm (Nat.min_le_left _ _)
      have h2 : i < items2.size := Nat.lt_of_lt_of_le hm (Nat.min_le_right _ _)
      rw [List.drop_eq_getElem_cons hlt] at hz
      injection hz with hyx hrest
      have hy : y = items[i] := by have := congrArg Prod.fst hyx; simpa using this
      have hx : x = items2[i] := by have := congrArg Prod.snd hyx; simpa using this
      subst hy hx
      rw [show min items.size items2.size - i = (min items.size items2.size - (i + 1)) + 1 by omega, ordRes] at hR
      refine wpAny_bind (he i h1 h2 prog w _ _ ?_)
      cases hy : e i with
      | true =>
        rw [hy, if_pos rfl] at hR
        refine wpAny_pure ?_
        exact ⟨rfl, rfl, i + 1, hrest, hm, hR⟩
      | false =>
        rw [hy, if_neg (by simp)] at hR
        refine wpAny_bind (wpAny_rule (wpAny_bind (hcm i h1 h2 hy prog w _ _ (wpAny_bind (wpAny_pure (wpAny_pure ?_))))))
        exact wpAny_pure ⟨_, rfl, hR⟩
    case fin =>
      rintro ⟨b1, b2⟩ s' ⟨hb', rfl, i, hz, hile, hR⟩
      simp only at hb'
      subst hb'
      have hge : min items.size items2.size ≤ i := by
        rcases Nat.lt_or_ge i (min items.size items2.size) with h' | h'
        · exfalso
          have hlt : i < (items.toList.zip items2.toList).length := hZ ▸ h'
          rw [List.drop_eq_getElem_cons hlt] at hz; cases hz
        · exact h'
      rw [show min items.size items2.size - i = 0 by omega, ordRes] at hR
      wp_walk
      exact ⟨_, rfl, hR⟩
    case h =>
      exact ⟨rfl, rfl, 0, rfl, Nat.zero_le _, by simpa using h⟩
theorem tuple_leAt (l b : Addr) (items items2 : Array Value) (n n2 : Nat) (dd dd2 : Option Addr) (sl sl2 : Array (Option Value)) (e c : Nat → Bool) :
    Meets (Builtin.«tuple.__le__» ⟨[.ref l, .ref b], []⟩)
      (fun A R s => s.heap.get? l = some { cls := .type "tuple", dict := dd, data := .seq items n, slots := sl } ∧ s.heap.get? b = some { cls := .type "tuple", dict := dd2, data := .seq items2 n2, slots := sl2 } ∧
        (∀ j (h1 : j < items.size) (h2 : j < items2.size), EqAt A.in1 s items[j] items2[j] (e j)) ∧ (∀ j (h1 : j < items.size) (h2 : j < items2.size), e j = false → CmpAt .LtE A.in1 s items[j] items2[j] (c j)) ∧
        R (.ok (.ret (.bool (ordRes .LtE e c items.size items2.size (min items.size items2.size) 0)))) s) :=
  .of_wp fun prog w A R s h => by
    obtain ⟨hp, g, d, tk, os⟩ := s; obtain ⟨hl, hb, he, hcm, h⟩ := h
    have f2 := AutoSeq1.sub_tuple_tuple
    have hZ : (items.toList.zip items2.toList).length = min items.size items2.size := by simp
    wp_walk using wpAny_loadPart' hl, wpAny_loadPart' hb, wpAny_forIn_list _ (fun rest b s' => b.1 = none ∧ s' = ⟨hp, g, d, tk, os⟩ ∧ ∃ i, rest = (items.toList.zip items2.toList).drop i ∧ i ≤ min items.size items2.size ∧
      R (.ok (.ret (.bool (ordRes .LtE e c items.size items2.size (min items.size items2.size - i) i)))) ⟨hp, g, d, tk, os⟩) _
    case turn =>
      rintro ⟨y, x⟩ rest b s' ⟨hb', rfl, i, hz, hile, hR⟩
      have hlt : i < (items.toList.zip items2.toList).length := by
        rcases Nat.lt_or_ge i (items.toList.zip items2.toList).length with h' | h'
        · exact h'
        · rw [List.drop_of_length_le h'] at hz; cases hz
      have hm : i < min items.size items2.size := hZ ▸ hlt
      have h1 : i < items.size := Nat.lt_of_lt_of_le hm (Nat.min_le_left _ _)
      have h2 : i < items2.size := Nat.lt_of_lt_of_le hm (Nat.min_le_right _ _)
      rw [List.drop_eq_getElem_cons hlt] at hz
      injection hz with hyx hrest
      have hy : y = items[i] := by have := congrArg Prod.fst hyx; simpa using this
      have hx : x = items2[i] := by have := congrArg Prod.snd hyx; simpa using this
      subst hy hx
      rw [show min items.size items2.size - i = (min items.size items2.size - (i + 1)) + 1 by omega, ordRes] at hR
      refine wpAny_bind (he i h1 h2 prog w _ _ ?_)
      cases hy : e i with
      | true =>
        rw [hy, if_pos rfl] at hR
        refine wpAny_pure ?_
        exact ⟨rfl, rfl, i + 1, hrest, hm, hR⟩
      | false =>
        rw [hy, if_neg (by simp)] at hR
        refine wpAny_bind (wpAny_rule (wpAny_bind (hcm i h1 h2 hy prog w _ _ (wpAny_bind (wpAny_pure (wpAny_pure ?_))))))
        exact wpAny_pure ⟨_, rfl, hR⟩
    case fin =>
      rintro ⟨b1, b2⟩ s' ⟨hb', rfl, i, hz, hile, hR⟩
      simp only at hb'
      subst hb'
      have hge : min items.size items2.size ≤ i := by
        rcases Nat.lt_or_ge i (min items.size items2.size) with h' | h'
        · exfalso
          have hlt : i < (items.toList.zip items2.toList).length := hZ ▸ h'
          rw [List.drop_eq_getElem_cons hlt] at hz; cases hz
        · exact h'
      rw [show min items.size items2.size - i = 0 by omega, ordRes] at hR
      wp_walk
      exact ⟨_, rfl, hR⟩
    case h =>
      exact ⟨rfl, rfl, 0, rfl, Nat.zero_le _, by simpa using h⟩
theorem tuple_gtAt (l b : Addr) (items items2 : Array Value) (n n2 : Nat) (dd dd2 : Option Addr) (sl sl2 : Array (Option Value)) (e c : Nat → Bool) :
    Meets (Builtin.«tuple.__gt__» ⟨[.ref l, .ref b], []⟩)
      (fun A R s => s.heap.get? l = some { cls := .type "tuple", dict := dd, data := .seq items n, slots := sl } ∧ s.heap.get? b = some { cls := .type "tuple", dict := dd2, data := .seq items2 n2, slots := sl2 } ∧
        (∀ j (h1 : j < items.size) (h2 : j < items2.size), EqAt A.in1 s items[j] items2[j] (e j)) ∧ (∀ j (h1 : j < items.size) (h2 : j < items2.size), e j = false → CmpAt .Gt A.in1 s items[j] items2[j] (c j)) ∧
        R (.ok (.ret (.bool (ordRes .Gt e c items.size items2.size (min items.size items2.size) 0)))) s) :=
  .of_wp fun prog w A R s h => by
    obtain ⟨hp, g, d, tk, os⟩ := s; obtain ⟨hl, hb, he, hcm, h⟩ := h
    have f2 := AutoSeq1.sub_tuple_tuple
    have hZ : (items.toList.zip items2.toList).length = min items.size items2.size := by simp
    wp_walk using wpAny_loadPart' hl, wpAny_loadPart' hb, wpAny_forIn_list _ (fun rest b s' => b.1 = none ∧ s' = ⟨hp, g, d, tk, os⟩ ∧ ∃ i, rest = (items.toList.zip items2.toList).drop i ∧ i ≤ min items.size items2.size ∧
      R (.ok (.ret (.bool (ordRes .Gt e c items.size items2.size (min items.size items2.size - i) i)))) ⟨hp, g, d, tk, os⟩) _
    case turn =>
      rintro ⟨y, x⟩ rest b s' ⟨hb', rfl, i, hz, hile, hR⟩
      have hlt : i < (items.toList.zip items2.toList).length := by
        rcases Nat.lt_or_ge i (items.toList.zip items2.toList).length with h' | h'
        · exact h'
        · rw [List.drop_of_length_le h'] at hz; cases hz
      have hm : i < min items.size items2.size := hZ ▸ hlt
      have h1 : i < items.size := Nat.lt_of_lt_of_le hm (Nat.min_le_left _ _)
      have h2 : i < items2.size := Nat.lt_of_lt_of_le hm (Nat.min_le_right _ _)
      rw [List.drop_eq_getElem_cons hlt] at hz
      injection hz with hyx hrest
      have hy : y = items[i] := by have := congrArg Prod.fst hyx; simpa using this
      have hx : x = items2[i] := by have := congrArg Prod.snd hyx; simpa using this
      subst hy hx
      rw [show min items.size items2.size - i = (min items.size items2.size - (i + 1)) + 1 by omega, ordRes] at hR
      refine wpAny_bind (he i h1 h2 prog w _ _ ?_)
      cases hy : e i with
      | true =>
        rw [hy, if_pos rfl] at hR
        refine wpAny_pure ?_
        exact ⟨rfl, rfl, i + 1, hrest, hm, hR⟩
      | false =>
        rw [hy, if_neg (by simp)] at hR
        refine wpAny_bind (wpAny_rule (wpAny_bind (hcm i h1 h2 hy prog w _ _ (wpAny_bind (wpAny_pure (wpAny_pure ?_))))))
        exact wpAny_pure ⟨_, rfl, hR⟩
    case fin =>
      rintro ⟨b1, b2⟩ s' ⟨hb', rfl, i, hz, hile, hR⟩
      simp only at hb'
      subst hb'
      have hge : min items.size items2.size ≤ i := by
        rcases Nat.lt_or_ge i (min items.size items2.size) with h' | h'
        · exfalso
          have hlt : i < (items.toList.zip items2.toList).length := hZ ▸ h'
          rw [List.drop_eq_getElem_cons hlt] at hz; cases hz
        · exact h'
      rw [show min items.size items2.size - i = 0 by omega, ordRes] at hR
      wp_walk
      exact ⟨_, rfl, hR⟩
    case h =>
      exact ⟨rfl, rfl, 0, rfl, Nat.zero_le _, by simpa using h⟩
end

/-! part Keys -/
section
set_option maxRecDepth 100000
set_option maxHeartbeats 0
open PySem.SeqAt

noncomputable def rk : List Nat → Nat
  | [] => 0
  | [a] => 25 * (a + 1)
  | [a, b] => 25 * (a + 1) + 5 * (b + 1)
  | a :: b :: c :: _ => 25 * (a + 1) + 5 * (b + 1) + (c + 1)

noncomputable def Figs (fs : List Nat) : Prop := fs.length ≤ 3 ∧ ∀ d ∈ fs, d < 4

noncomputable def cmpN (op : CmpOp) (m n : Nat) : Bool := match op with
  | .Lt => decide (m < n) | .LtE => decide (m ≤ n) | .Gt => decide (m > n) | .Eq => decide (m = n) | .NotEq => decide (m ≠ n) | _ => decide (m ≥ n)

theorem figs_cases {fs : List Nat} (h : Figs fs) : fs = [] ∨ (∃ a, a < 4 ∧ fs = [a]) ∨ (∃ a b, a < 4 ∧ b < 4 ∧ fs = [a, b]) ∨ (∃ a b c, a < 4 ∧ b < 4 ∧ c < 4 ∧ fs = [a, b, c]) := by
  obtain ⟨h1, h2⟩ := h
  match fs, h1, h2 with
  | [], _, _ => exact .inl rfl
  | [a], _, h2 => exact .inr (.inl ⟨a, h2 a (by simp), rfl⟩)
  | [a, b], _, h2 => exact .inr (.inr (.inl ⟨a, b, h2 a (by simp), h2 b (by simp), rfl⟩))
  | [a, b, c], _, h2 => exact .inr (.inr (.inr ⟨a, b, c, h2 a (by simp), h2 b (by simp), h2 c (by simp), rfl⟩))
  | _ :: _ :: _ :: _ :: _, h1, _ => simp at h1

noncomputable def allFigs : List (List Nat) := [] :: (List.range 4).map (fun a => [a]) ++ (List.range 4).flatMap (fun a => (List.range 4).map fun b => [a, b]) ++ (List.range 4).flatMap (fun a => (List.range 4).flatMap fun b => (List.range 4).map fun c => [a, b, c])
theorem mem_allFigs {fs : List Nat} (h : Figs fs) : fs ∈ allFigs := by
  rcases figs_cases h with rfl | ⟨a, ha, rfl⟩ | ⟨a, b, ha, hb, rfl⟩ | ⟨a, b, c, ha, hb, hc, rfl⟩
  · simp [allFigs]
  · simp [allFigs, ha]
  · simp [allFigs, ha, hb]
  · simp only [allFigs, List.mem_append, List.mem_flatMap, List.mem_map, List.mem_range]
    exact .inr ⟨a, ha, b, hb, c, hc, rfl⟩
theorem ord_all : (allFigs.all fun f => allFigs.all fun g => [CmpOp.Lt, .LtE, .Gt].all fun op =>
    ordRes op (fun j => decide (f.getD j 0 = g.getD j 0)) (fun j => cmpN op (f.getD j 0) (g.getD j 0)) f.length g.length (min f.length g.length) 0 == cmpN op (rk f) (rk g)) = true := by decide +kernel
theorem ord_figs {op : CmpOp} (hop : op = .Lt ∨ op = .LtE ∨ op = .Gt) {fs gs : List Nat} (hf : Figs fs) (hg : Figs gs) :
    ordRes op (fun j => decide (fs.getD j 0 = gs.getD j 0)) (fun j => cmpN op (fs.getD j 0) (gs.getD j 0)) fs.length gs.length (min fs.length gs.length) 0 = cmpN op (rk fs) (rk gs) :=
  eq_of_beq (List.all_eq_true.mp (List.all_eq_true.mp (List.all_eq_true.mp ord_all fs (mem_allFigs hf)) gs (mem_allFigs hg)) op (by rcases hop with rfl | rfl | rfl <;> simp))
theorem str_all : (allFigs.all fun f => allFigs.all fun g => (decide (f.map (· + 48) < g.map (· + 48)) == decide (rk f < rk g)) && (decide (f = g) == decide (rk f = rk g))) = true := by decide +kernel
theorem str_lt_figs {fs gs : List Nat} (hf : Figs fs) (hg : Figs gs) : (fs.map (· + 48) < gs.map (· + 48)) ↔ rk fs < rk gs := by
  have := List.all_eq_true.mp (List.all_eq_true.mp str_all fs (mem_allFigs hf)) gs (mem_allFigs hg)
  simp only [Bool.and_eq_true, beq_iff_eq, decide_eq_decide] at this
  exact this.1
theorem eq_figs {fs gs : List Nat} (hf : Figs fs) (hg : Figs gs) : fs = gs ↔ rk fs = rk gs := by
  have := List.all_eq_true.mp (List.all_eq_true.mp str_all fs (mem_allFigs hf)) gs (mem_allFigs hg)
  simp only [Bool.and_eq_true, beq_iff_eq, decide_eq_decide] at this
  exact this.2

noncomputable def DigsAre (vs : List Value) (fs : List Nat) : Prop := vs.length = fs.length ∧ ∀ j (h : j < vs.length), ∃ t, vs[j] = .int ((fs.getD j 0 : Nat) : Int) t

/-- the text of a key's figures -/
noncomputable def figStr (fs : List Nat) : Str := ⟨(fs.map (· + 48)).toArray⟩

noncomputable def KeyAt (kd : Nat) (h : Heap) (v : Value) (n : Nat) : Prop :=
  ∃ fs : List Nat, Figs fs ∧ rk fs = n ∧ ((kd = 0 ∧ ∃ a vs, v = .ref a ∧ h.IsList a vs.toArray ∧ DigsAre vs fs) ∨ (kd = 1 ∧ ∃ a vs, v = .ref a ∧ h.IsTuple a vs.toArray ∧ DigsAre vs fs) ∨ (kd = 2 ∧ ∃ t, v = .str (figStr fs) t))

theorem KeyAt.keeps {kd : Nat} {h h' : Heap} {v : Value} {n : Nat} (k : KeyAt kd h v n) (hk : Kp h h') : KeyAt kd h' v n := by
  obtain ⟨fs, hf, hr, hc⟩ := k
  refine ⟨fs, hf, hr, ?_⟩
  rcases hc with ⟨rfl, a, vs, rfl, hl, hd⟩ | ⟨rfl, a, vs, rfl, hl, hd⟩ | ⟨rfl, t, rfl⟩
  · obtain ⟨o, ho, r⟩ := hl
    exact .inl ⟨rfl, a, vs, rfl, ⟨o, hk _ _ ho, r⟩, hd⟩
  · obtain ⟨o, ho, r⟩ := hl
    exact .inr (.inl ⟨rfl, a, vs, rfl, ⟨o, hk _ _ ho, r⟩, hd⟩)
  · exact .inr (.inr ⟨rfl, t, rfl⟩)

section
variable {A : Around} {s : Shared}
theorem cmp_int {op : CmpOp} (hop : op = .Lt ∨ op = .LtE ∨ op = .Gt) (m n : Nat) (t u : Tok) : CmpAt op A s (.int (m : Int) t) (.int (n : Int) u) (cmpN op m n) := fun prog w E Q h => by
  rcases hop with rfl | rfl | rfl
  · refine (lt_int (by simpa [cmpN] using h) : wpAny (model prog w) A (compareOp .Lt (.int (m : Int) t) (.int (n : Int) u)) Q E s)
  · refine (le_int (by simpa [cmpN] using h) : wpAny (model prog w) A (compareOp .LtE (.int (m : Int) t) (.int (n : Int) u)) Q E s)
  · refine (gt_int (by simpa [cmpN] using h) : wpAny (model prog w) A (compareOp .Gt (.int (m : Int) t) (.int (n : Int) u)) Q E s)
theorem eqAt_int (m n : Nat) (t u : Tok) : EqAt A s (.int (m : Int) t) (.int (n : Int) u) (decide (m = n)) := fun prog w E Q h => by
  refine wpAny_eqBool_int ?_
  have : (((m : Nat) : Int) == (n : Int)) = decide (m = n) := by rw [Bool.eq_iff_iff]; simp; omega
  rw [this]; exact h

theorem digs_eqAt {vs ws : List Value} {fs gs : List Nat} (hv : DigsAre vs fs) (hw : DigsAre ws gs) (j : Nat) (h1 : j < vs.toArray.size) (h2 : j < ws.toArray.size) :
    EqAt A s vs.toArray[j] ws.toArray[j] (decide (fs.getD j 0 = gs.getD j 0)) := by
  simp only [List.size_toArray] at h1 h2
  obtain ⟨t, e1⟩ := hv.2 j h1
  obtain ⟨u, e2⟩ := hw.2 j h2
  simp only [List.getElem_toArray]
  rw [e1, e2]
  exact eqAt_int _ _ _ _
theorem digs_cmpAt {op : CmpOp} (hop : op = .Lt ∨ op = .LtE ∨ op = .Gt) {vs ws : List Value} {fs gs : List Nat} (hv : DigsAre vs fs) (hw : DigsAre ws gs) (j : Nat) (h1 : j < vs.toArray.size) (h2 : j < ws.toArray.size) :
    CmpAt op A s vs.toArray[j] ws.toArray[j] (cmpN op (fs.getD j 0) (gs.getD j 0)) := by
  simp only [List.size_toArray] at h1 h2
  obtain ⟨t, e1⟩ := hv.2 j h1
  obtain ⟨u, e2⟩ := hw.2 j h2
  simp only [List.getElem_toArray]
  rw [e1, e2]
  exact cmp_int hop _ _ _ _

theorem key_cmp {op : CmpOp} (hop : op = .Lt ∨ op = .LtE ∨ op = .Gt) {kd : Nat} {v v' : Value} {n n' : Nat} (hk : KeyAt kd s.heap v n) (hk' : KeyAt kd s.heap v' n') (hu : A.units < cLine) : CmpAt op A s v v' (cmpN op n n') := fun prog w E Q h => by
  obtain ⟨fs, hf, rfl, hc⟩ := hk
  obtain ⟨gs, hg, rfl, hc'⟩ := hk'
  rcases hc with ⟨rfl, a, vs, rfl, hl, hd⟩ | ⟨rfl, a, vs, rfl, hl, hd⟩ | ⟨rfl, t, rfl⟩
  · obtain ⟨b, ws, rfl, hl', hd'⟩ : ∃ b ws, v' = .ref b ∧ s.heap.IsList b ws.toArray ∧ DigsAre ws gs := by
      rcases hc' with ⟨_, x⟩ | ⟨x, _⟩ | ⟨x, _⟩
      · exact x
      · cases x
      · cases x
    obtain ⟨⟨cls, dd, data, sl⟩, ho, hc, n, hdt⟩ := hl
    obtain ⟨⟨cls2, dd2, data2, sl2⟩, ho2, hc2, n2, hdt2⟩ := hl'
    simp only at hc hdt hc2 hdt2
    subst hc hdt hc2 hdt2
    have key := ord_figs hop hf hg
    have e1 : vs.toArray.size = fs.length := by rw [List.size_toArray]; exact hd.1
    have e2 : ws.toArray.size = gs.length := by rw [List.size_toArray]; exact hd'.1
    rw [← key, ← e1, ← e2] at h
    rcases hop with rfl | rfl | rfl
    · exact richCompare_meets_room (op := .Lt) ⟨_, ho, rfl⟩ ⟨_, ho2, rfl⟩ F.slot_list_lt F.entry_list_lt (F.args_list_lt_2 _ _) (list_ltAt a b _ _ n n2 dd dd2 sl sl2 _ _)
        ⟨ho, ho2, digs_eqAt hd hd', fun j h1 h2 _ => digs_cmpAt (.inl rfl) hd hd' j h1 h2, ⟨(fun x => nomatch x), h⟩⟩ hu
    · exact richCompare_meets_room (op := .LtE) ⟨_, ho, rfl⟩ ⟨_, ho2, rfl⟩ F.slot_list_le F.entry_list_le (F.args_list_le_2 _ _) (list_leAt a b _ _ n n2 dd dd2 sl sl2 _ _)
        ⟨ho, ho2, digs_eqAt hd hd', fun j h1 h2 _ => digs_cmpAt (.inr (.inl rfl)) hd hd' j h1 h2, ⟨(fun x => nomatch x), h⟩⟩ hu
    · exact richCompare_meets_room (op := .Gt) ⟨_, ho, rfl⟩ ⟨_, ho2, rfl⟩ F.slot_list_gt F.entry_list_gt (F.args_list_gt_2 _ _) (list_gtAt a b _ _ n n2 dd dd2 sl sl2 _ _)
        ⟨ho, ho2, digs_eqAt hd hd', fun j h1 h2 _ => digs_cmpAt (.inr (.inr rfl)) hd hd' j h1 h2, ⟨(fun x => nomatch x), h⟩⟩ hu
  · obtain ⟨b, ws, rfl, hl', hd'⟩ : ∃ b ws, v' = .ref b ∧ s.heap.IsTuple b ws.toArray ∧ DigsAre ws gs := by
      rcases hc' with ⟨x, _⟩ | ⟨_, x⟩ | ⟨x, _⟩
      · cases x
      · exact x
      · cases x
    obtain ⟨⟨cls, dd, data, sl⟩, ho, hc, n, hdt⟩ := hl
    obtain ⟨⟨cls2, dd2, data2, sl2⟩, ho2, hc2, n2, hdt2⟩ := hl'
    simp only at hc hdt hc2 hdt2
    subst hc hdt hc2 hdt2
    have key := ord_figs hop hf hg
    have e1 : vs.toArray.size = fs.length := by rw [List.size_toArray]; exact hd.1
    have e2 : ws.toArray.size = gs.length := by rw [List.size_toArray]; exact hd'.1
    rw [← key, ← e1, ← e2] at h
    rcases hop with rfl | rfl | rfl
    · exact richCompare_meets_room (op := .Lt) ⟨_, ho, rfl⟩ ⟨_, ho2, rfl⟩ F.slot_tuple_lt F.entry_tuple_lt (F.args_tuple_lt_2 _ _) (tuple_ltAt a b _ _ n n2 dd dd2 sl sl2 _ _)
        ⟨ho, ho2, digs_eqAt hd hd', fun j h1 h2 _ => digs_cmpAt (.inl rfl) hd hd' j h1 h2, ⟨(fun x => nomatch x), h⟩⟩ hu
    · exact richCompare_meets_room (op := .LtE) ⟨_, ho, rfl⟩ ⟨_, ho2, rfl⟩ F.slot_tuple_le F.entry_tuple_le (F.args_tuple_le_2 _ _) (tuple_leAt a b _ _ n n2 dd dd2 sl sl2 _ _)
        ⟨ho, ho2, digs_eqAt hd hd', fun j h1 h2 _ => digs_cmpAt (.inr (.inl rfl)) hd hd' j h1 h2, ⟨(fun x => nomatch x), h⟩⟩ hu
    · exact richCompare_meets_room (op := .Gt) ⟨_, ho, rfl⟩ ⟨_, ho2, rfl⟩ F.slot_tuple_gt F.entry_tuple_gt (F.args_tuple_gt_2 _ _) (tuple_gtAt a b _ _ n n2 dd dd2 sl sl2 _ _)
        ⟨ho, ho2, digs_eqAt hd hd', fun j h1 h2 _ => digs_cmpAt (.inr (.inr rfl)) hd hd' j h1 h2, ⟨(fun x => nomatch x), h⟩⟩ hu
  · obtain ⟨u, rfl⟩ : ∃ u, v' = .str (figStr gs) u := by
      rcases hc' with ⟨x, _⟩ | ⟨x, _⟩ | ⟨_, x⟩
      · cases x
      · cases x
      · exact x
    rcases hop with rfl | rfl | rfl
    · refine (lt_str ?_ : wpAny (model prog w) A (compareOp .Lt (.str (figStr fs) t) (.str (figStr gs) u)) Q E s)
      have : decide ((figStr fs).cps.toList < (figStr gs).cps.toList) = cmpN .Lt (rk fs) (rk gs) := by
        simp only [figStr, cmpN]; exact decide_eq_decide.mpr (str_lt_figs hf hg)
      rw [this]; exact h
    · refine (PySem.P.le_str ?_ : wpAny (model prog w) A (compareOp .LtE (.str (figStr fs) t) (.str (figStr gs) u)) Q E s)
      have : (!decide ((figStr gs).cps.toList < (figStr fs).cps.toList)) = cmpN .LtE (rk fs) (rk gs) := by
        have q : ((figStr gs).cps.toList < (figStr fs).cps.toList) ↔ rk gs < rk fs := str_lt_figs hg hf
        show (!decide ((figStr gs).cps.toList < (figStr fs).cps.toList)) = decide (rk fs ≤ rk gs)
        rw [Bool.eq_iff_iff, Bool.not_eq_true', decide_eq_false_iff_not, decide_eq_true_eq, q]; omega
      rw [this]; exact h
    · refine (PySem.P.gt_str ?_ : wpAny (model prog w) A (compareOp .Gt (.str (figStr fs) t) (.str (figStr gs) u)) Q E s)
      have : decide ((figStr gs).cps.toList < (figStr fs).cps.toList) = cmpN .Gt (rk fs) (rk gs) := by
        simp only [figStr, cmpN]; exact decide_eq_decide.mpr (str_lt_figs hg hf)
      rw [this]; exact h

theorem key_eq {kd : Nat} {v v' : Value} {n n' : Nat} (hk : KeyAt kd s.heap v n) (hk' : KeyAt kd s.heap v' n') (hu : A.units < cLine) : EqAt A s v v' (decide (n = n')) := by
  obtain ⟨fs, hf, rfl, hc⟩ := hk
  obtain ⟨gs, hg, rfl, hc'⟩ := hk'
  have eqf := eq_figs hf hg
  have all_iff : ∀ {vs ws : List Value}, DigsAre vs fs → DigsAre ws gs → vs.length = ws.length → ((List.range vs.toArray.size).all fun j => decide (fs.getD j 0 = gs.getD j 0)) = decide (rk fs = rk gs) := by
    intro vs ws h1 h2 h3
    rw [Bool.eq_iff_iff]
    simp only [List.all_eq_true, List.mem_range, decide_eq_true_eq, List.size_toArray, ← eqf]
    constructor
    · intro h
      apply List.ext_getElem (by rw [← h1.1, ← h2.1]; exact h3)
      intro j q1 q2
      have := h j (by rw [h1.1]; exact q1)
      simpa [List.getD_eq_getElem?_getD, q1, q2] using this
    · rintro rfl j _; rfl
  have len_iff : ∀ {vs ws : List Value}, DigsAre vs fs → DigsAre ws gs → vs.length ≠ ws.length → decide (rk fs = rk gs) = false := by
    intro vs ws h1 h2 h3
    refine decide_eq_false fun h => h3 ?_
    rw [h1.1, h2.1, eqf.mpr h]
  rcases hc with ⟨rfl, a, vs, rfl, hl, hd⟩ | ⟨rfl, a, vs, rfl, hl, hd⟩ | ⟨rfl, t, rfl⟩
  · obtain ⟨b, ws, rfl, hl', hd'⟩ : ∃ b ws, v' = .ref b ∧ s.heap.IsList b ws.toArray ∧ DigsAre ws gs := by
      rcases hc' with ⟨_, x⟩ | ⟨x, _⟩ | ⟨x, _⟩
      · exact x
      · cases x
      · cases x
    have hin : A.in1.units = A.units + 1 := rfl
    by_cases hlen : vs.length = ws.length
    · have r := RcAt.lists (A := A) hl hl' (by simpa using hlen) hu (digs_eqAt hd hd')
      rw [all_iff hd hd' hlen] at r
      by_cases hab : a = b
      · subst hab
        have e : decide (rk fs = rk gs) = true := by
          obtain ⟨o, ho, _, k, hdt⟩ := hl
          obtain ⟨o2, ho2, _, k2, hdt2⟩ := hl'
          rw [ho] at ho2; cases ho2
          rw [hdt] at hdt2
          injection hdt2 with hdt2 _
          have : vs = ws := by simpa using congrArg Array.toList hdt2
          subst this
          rw [← all_iff hd hd' rfl]
          simp only [List.all_eq_true, List.mem_range, decide_eq_true_eq, List.size_toArray]
          intro j hj
          obtain ⟨t1, e1⟩ := hd.2 j hj
          obtain ⟨t2, e2⟩ := hd'.2 j hj
          rw [e1] at e2
          injection e2 with e2 _
          omega
        rw [e]; exact EqAt.same _
      · exact EqAt.of_refs hab r
    · have r := RcAt.lists_lengths (A := A) hl hl' (by simpa using hlen) hu
      rw [len_iff hd hd' hlen]
      refine EqAt.of_refs ?_ r
      rintro rfl
      obtain ⟨o, ho, _, k, hdt⟩ := hl
      obtain ⟨o2, ho2, _, k2, hdt2⟩ := hl'
      rw [ho] at ho2; cases ho2
      rw [hdt] at hdt2
      injection hdt2 with hdt2 _
      exact hlen (congrArg List.length (by simpa using congrArg Array.toList hdt2))
  · obtain ⟨b, ws, rfl, hl', hd'⟩ : ∃ b ws, v' = .ref b ∧ s.heap.IsTuple b ws.toArray ∧ DigsAre ws gs := by
      rcases hc' with ⟨x, _⟩ | ⟨_, x⟩ | ⟨x, _⟩
      · cases x
      · exact x
      · cases x
    have r := RcAt.tuples (A := A) hl hl' hu (digs_eqAt hd hd')
    have e0 : ((List.range (min vs.toArray.size ws.toArray.size)).all (fun j => decide (fs.getD j 0 = gs.getD j 0)) && vs.toArray.size == ws.toArray.size) = decide (rk fs = rk gs) := by
      by_cases hlen : vs.length = ws.length
      · rw [← all_iff hd hd' hlen]; simp [hlen]
      · rw [len_iff hd hd' hlen]; simp [hlen]
    rw [e0] at r
    by_cases hab : a = b
    · subst hab
      have e : decide (rk fs = rk gs) = true := by
        obtain ⟨o, ho, _, k, hdt⟩ := hl
        obtain ⟨o2, ho2, _, k2, hdt2⟩ := hl'
        rw [ho] at ho2; cases ho2
        rw [hdt] at hdt2
        injection hdt2 with hdt2 _
        have : vs = ws := by simpa using congrArg Array.toList hdt2
        subst this
        rw [← all_iff hd hd' rfl]
        simp only [List.all_eq_true, List.mem_range, decide_eq_true_eq, List.size_toArray]
        intro j hj
        obtain ⟨t1, e1⟩ := hd.2 j hj
        obtain ⟨t2, e2⟩ := hd'.2 j hj
        rw [e1] at e2
        injection e2 with e2 _
        omega
      rw [e]; exact EqAt.same _
    · exact EqAt.of_refs hab r
  · obtain ⟨u, rfl⟩ : ∃ u, v' = .str (figStr gs) u := by
      rcases hc' with ⟨x, _⟩ | ⟨x, _⟩ | ⟨_, x⟩
      · cases x
      · cases x
      · exact x
    intro prog w E Q h
    refine wpAny_eqBool_str ?_
    have : decide (figStr fs = figStr gs) = decide (rk fs = rk gs) := by
      apply decide_eq_decide.mpr
      rw [← eqf]
      constructor
      · intro h
        have := congrArg (fun x : Str => x.cps.toList) h
        simp only [figStr] at this
        exact (List.map_inj_right (fun x y h => by omega)).mp this
      · rintro rfl; rfl
    rw [this]; exact h

theorem digs_unique {vs : List Value} {fs gs : List Nat} (h1 : DigsAre vs fs) (h2 : DigsAre vs gs) : fs = gs := by
  apply List.ext_getElem (by rw [← h1.1, ← h2.1])
  intro j q1 q2
  obtain ⟨t, e1⟩ := h1.2 j (by rw [h1.1]; exact q1)
  obtain ⟨u, e2⟩ := h2.2 j (by rw [h1.1]; exact q1)
  rw [e1] at e2
  injection e2 with e2 _
  have : fs.getD j 0 = gs.getD j 0 := by omega
  simpa [List.getD_eq_getElem?_getD, q1, q2] using this
theorem KeyAt.unique {kd : Nat} {h : Heap} {v : Value} {n m : Nat} (h1 : KeyAt kd h v n) (h2 : KeyAt kd h v m) : n = m := by
  obtain ⟨fs, hf, rfl, hc⟩ := h1
  obtain ⟨gs, hg, rfl, hc'⟩ := h2
  rcases hc with ⟨rfl, a, vs, rfl, hl, hd⟩ | ⟨rfl, a, vs, rfl, hl, hd⟩ | ⟨rfl, t, rfl⟩
  · rcases hc' with ⟨_, b, ws, e, hl', hd'⟩ | ⟨x, _⟩ | ⟨x, _⟩
    · cases e
      obtain ⟨o, ho, _, k, hdt⟩ := hl
      obtain ⟨o2, ho2, _, k2, hdt2⟩ := hl'
      rw [ho] at ho2; cases ho2
      rw [hdt] at hdt2
      injection hdt2 with hdt2 _
      have : vs = ws := by simpa using congrArg Array.toList hdt2
      subst this
      rw [digs_unique hd hd']
    · cases x
    · cases x
  · rcases hc' with ⟨x, _⟩ | ⟨_, b, ws, e, hl', hd'⟩ | ⟨x, _⟩
    · cases x
    · cases e
      obtain ⟨o, ho, _, k, hdt⟩ := hl
      obtain ⟨o2, ho2, _, k2, hdt2⟩ := hl'
      rw [ho] at ho2; cases ho2
      rw [hdt] at hdt2
      injection hdt2 with hdt2 _
      have : vs = ws := by simpa using congrArg Array.toList hdt2
      subst this
      rw [digs_unique hd hd']
    · cases x
  · rcases hc' with ⟨x, _⟩ | ⟨x, _⟩ | ⟨_, u, e⟩
    · cases x
    · cases x
    · injection e with e _
      have := congrArg (fun x : Str => x.cps.toList) e
      simp only [figStr] at this
      rw [(List.map_inj_right (fun x y h => by omega)).mp this]

open Classical in
noncomputable def isN (kd : Nat) (h : Heap) (n : Nat) (y : Value) : Bool := decide (KeyAt kd h y n)
theorem isN_eq {kd : Nat} {h : Heap} {n m : Nat} {y : Value} (k : KeyAt kd h y m) : isN kd h n y = decide (m = n) := by
  classical
  unfold isN
  by_cases e : m = n
  · subst e; simp [k]
  · rw [decide_eq_false e]; simp only [decide_eq_false_iff_not]; exact fun k' => e (k.unique k')
theorem any_isN {kd : Nat} {h : Heap} {n : Nat} {xs : List (Value × Nat)} (hx : ∀ x ∈ xs, KeyAt kd h x.1 x.2) : ((xs.map (·.1)).toArray.any (isN kd h n)) = decide (n ∈ xs.map (·.2)) := by
  rw [Bool.eq_iff_iff]
  simp only [List.any_toArray, List.any_eq_true, List.mem_map, decide_eq_true_eq]
  constructor
  · rintro ⟨_, ⟨x, hx', rfl⟩, h2⟩
    rw [isN_eq (hx x hx')] at h2
    exact ⟨x, hx', of_decide_eq_true h2⟩
  · rintro ⟨x, hx', rfl⟩
    exact ⟨x.1, ⟨x, hx', rfl⟩, by rw [isN_eq (hx x hx')]; simp⟩
end
section
variable {prog : Program} {w : World} {A : Around} {E : Value → Shared → Prop} {s : Shared} {Q : Value → Shared → Prop}
theorem key_eqs {kd : Nat} {xs : List (Value × Nat)} {v : Value} {n : Nat} (hx : ∀ x ∈ xs, KeyAt kd s.heap x.1 x.2) (hv : KeyAt kd s.heap v n) (hu : A.units + 1 < cLine) :
    ∀ y, y ∈ (xs.map (·.1)).toArray → EqAt A.in1 s y v (isN kd s.heap n y) := by
  intro y hy
  simp only [List.mem_toArray, List.mem_map] at hy
  obtain ⟨x, hx', rfl⟩ := hy
  rw [isN_eq (hx x hx')]
  exact key_eq (hx x hx') hv hu
theorem in_step {kd : Nat} {a : Addr} {xs : List (Value × Nat)} {v : Value} {n : Nat} (hl : s.heap.IsList a (xs.map (·.1)).toArray) (hx : ∀ x ∈ xs, KeyAt kd s.heap x.1 x.2) (hv : KeyAt kd s.heap v n) (hu : A.units + 1 < cLine)
    (h : Q (.bool (decide (n ∈ xs.map (·.2)))) s) : wpAny (model prog w) A (compareOp .In v (.ref a)) Q E s := by
  refine in_listAt (isN kd s.heap n) hl (key_eqs hx hv hu) ?_
  rw [any_isN hx]; exact h
theorem notin_step {kd : Nat} {a : Addr} {xs : List (Value × Nat)} {v : Value} {n : Nat} (hl : s.heap.IsList a (xs.map (·.1)).toArray) (hx : ∀ x ∈ xs, KeyAt kd s.heap x.1 x.2) (hv : KeyAt kd s.heap v n) (hu : A.units + 1 < cLine)
    (h : Q (.bool (!decide (n ∈ xs.map (·.2)))) s) : wpAny (model prog w) A (compareOp .NotIn v (.ref a)) Q E s := by
  refine notIn_listAt (isN kd s.heap n) hl (key_eqs hx hv hu) ?_
  rw [any_isN hx]; exact h
end
end

/-! part C4 -/
section
set_option maxRecDepth 100000
set_option maxHeartbeats 0
section
variable {w : World} {A : Around} {s : Shared} {p : Program} {loose : List Str} {mean : ExcName → Option Value} {mg mb : Str → Option Value} {Q E : Value → Shared → Prop}
theorem cmp_step {op : CmpOp} (hop : op = .Lt ∨ op = .LtE ∨ op = .Gt) {kd : Nat} {v v' : Value} {n n' : Nat} (hk : KeyAt kd s.heap v n) (hk' : KeyAt kd s.heap v' n') (hu : A.units < cLine) (h : Q (.bool (cmpN op n n')) s) :
    wpAny (model PySem.Challenge.rw_pd0044_01.row.prog w) A (compareOp op v v') Q E s := by
  have := key_cmp hop hk hk' hu PySem.Challenge.rw_pd0044_01.row.prog w E Q h
  rcases hop with rfl | rfl | rfl <;> exact this
theorem cmp3_c {kd : Nat} {v v' : Value} {n n' : Nat} (X : (hd.heap_39 w.params).In s.heap) (T : Top p loose mean mg mb s.heap) (hh : A.handled = none) (hdep : A.depth + 8 < recursionLimit) (huni : A.units + 60 < cLine) (hk : KeyAt kd s.heap v n) (hk' : KeyAt kd s.heap v' n')
  (hret : ∀ h' tk' u, Kp s.heap h' → Q (.int (if n > n' then 1 else if n < n' then -1 else 0) u) { s with heap := h', toks := tk' }) : wpAny (model PySem.Challenge.rw_pd0044_01.row.prog w) A (call (.ref 28) [v, v']) Q E s := by
  k_with_none
  (k_with "ne" => (refine neN ?_; (try dsimp only); (first | with_reducible assumption | with_reducible exact Ne.symm (by assumption) | (refine' ne_lt ?z1 ?z2; (case z1 => with_reducible assumption); (case z2 => k_mem)) | (refine' ne_lt' ?z3 ?z4; (case z3 => with_reducible assumption); (case z4 => k_mem)) | (refine' ne_o ?z5 ?z6; (case z5 => with_reducible assumption); (case z6 => k_mem)) | (refine' ne_o' ?z7 ?z8; (case z7 => with_reducible assumption); (case z8 => k_mem)) | omega)))
  (k_with "all" => (first | with_reducible assumption | with_reducible exact all_lt (by assumption) | exact List.forall_mem_nil _ | (refine' List.forall_mem_cons.mpr ⟨?za, ?zb⟩; (case za => k_ne); (case zb => k_all))))
  (k_with "CompRest" => (with_unfolding_all first | (refine LCg.CompRest.succ ?_; intro v' I' oI' C' oC' D' m' h' tk' E' hv' hC' hx' F' N' off' ne'; (first | lcg_open hv' | (obtain ⟨t9', hv9'⟩ := hv'; subst hv9')); (have offI' := off3_I off'); (have offC' := off3_C off'); (have offD' := off3_D off'); clear off') | refine LCg.CompRest.zero ?_))
  (k_with "FinE" => ((unfold LCg.FinE); intro D' h' tk' F' N' o1'; (replace o1' := off1_D o1'); (try simp only [List.nil_append, List.cons_append] at N'); (try dsimp only)))
  (k_with "FinA" => ((unfold LCg.FinA); intro D' h' tk' F' N' o1'; (replace o1' := off1_D o1'); (try simp only [List.nil_append, List.cons_append] at N'); (try dsimp only)))
  (k_with "compareOp Gt" => (k_here; k_dflt (refine' cmp_step ?w7kp ?w7k1 ?w7k2 ?w7k3 ?_; (case w7kp => simp); (case w7k1 => exact KeyAt.keeps (by assumption) (Fr.keep (by k_asm))); (case w7k2 => exact KeyAt.keeps (by assumption) (Fr.keep (by k_asm))); (case w7k3 => ((try simp only [depth_deeper, units_deeper, Around.in1_units, Around.in1_depth]); (try dsimp only); omega)); k_whole)))
  (k_with "compareOp Lt" => (k_here; k_dflt (refine' cmp_step ?w8kp ?w8k1 ?w8k2 ?w8k3 ?_; (case w8kp => simp); (case w8k1 => exact KeyAt.keeps (by assumption) (Fr.keep (by k_asm))); (case w8k2 => exact KeyAt.keeps (by assumption) (Fr.keep (by k_asm))); (case w8k3 => ((try simp only [depth_deeper, units_deeper, Around.in1_units, Around.in1_depth]); (try dsimp only); omega)); k_whole)))
  ((have hrow : (hd.heap_39, PySem.Challenge.rw_pd0044_01) = (hd.heap_39, PySem.Challenge.rw_pd0044_01) := rfl); revert hrow; k_fill; intro hrow; clear hrow; (obtain ⟨ahd, adp, afr, agd, aun⟩ := A; (have hh9 : ahd = none := hh); subst hh9; clear hh; (try dsimp only at hdep huni)))
  (refine' enterS X T ?k6 ?k7 ?k8 ?k9 ?kB ?_ ?c2 ?c3 ?c4 ?c5; (case k6 => k_is); (case k7 => k_is); (case k8 => ((try dsimp only); omega)); (case k9 => exact BindsTo.of_eq rfl); (case c5 => decide); (case kB => exact locs rfl); (case c2 => exact rfl); (case c3 => exact rfl); (case c4 => exact rfl))
  intro L' h' F' N'
  (try dsimp only)
  w_strict (k_steps; all_goals ((have e9 : (b2i (cmpN CmpOp.Gt n n') - b2i (cmpN CmpOp.Lt n n') : Int) = (if n > n' then 1 else if n < n' then -1 else 0) := by (by_cases h1 : n > n' <;> by_cases h2 : n < n' <;> simp [cmpN, b2i, h1, h2] <;> omega)); rw [← e9] at hret; exact hret _ _ _ (Fr.keep (by assumption))))
theorem cmp3_z {kd : Nat} {v v' : Value} {n n' : Nat} {z : Int} (hz : (if n > n' then 1 else if n < n' then -1 else 0 : Int) = z) (X : (hd.heap_39 w.params).In s.heap) (T : Top p loose mean mg mb s.heap) (hh : A.handled = none) (hdep : A.depth + 8 < recursionLimit) (huni : A.units + 60 < cLine) (hk : KeyAt kd s.heap v n) (hk' : KeyAt kd s.heap v' n')
  (hret : ∀ h' tk' u, Kp s.heap h' → Q (.int z u) { s with heap := h', toks := tk' }) : wpAny (model PySem.Challenge.rw_pd0044_01.row.prog w) A (call (.ref 28) [v, v']) Q E s :=
  cmp3_c X T hh hdep huni hk hk' (by rw [hz]; exact hret)
end
end

/-! part Loops -/
section
set_option maxRecDepth 100000
set_option maxHeartbeats 0

/-- the walk stops at it -/
noncomputable def Stop (P : Prop) : Prop := P
theorem Stop.mk {P : Prop} (h : Stop P) : P := h

noncomputable def Ended (h₀ : Heap) (L I : Addr) (oI : Obj) (J : (Str → Option Value) → List (Addr × Obj) → Prop) (s : Shared) (f : Flow) (s' : Shared) : Prop :=
  f = .next ∧ ∃ h' tk m news, s' = { s with heap := h', toks := tk } ∧ Fr h₀ L h' m ∧ News h₀ L h' ((I, oI) :: news) ∧ J m news

section
variable {prog : Program} {w : World} {A : Around} {E : Value → Shared → Prop} {s : Shared} {env : Env} {Q : Flow → Shared → Prop}

theorem news_iter {h₀ h h' : Heap} {L I : Addr} {news : List (Addr × Obj)} (N : News h₀ L h news) (hs : Heap.SameBut I h h') (hI : ∀ p ∈ news, p.1 ≠ I) : News h₀ L h' news :=
  fun p hp => ⟨(hs.2 p.1 (hI p hp)).trans (N p hp).1, (N p hp).2⟩

theorem for_list {x : Str} {px pos : Pos} {iter : Expr} {body : List Stmt} {h₀ : Heap} {l : Addr} {vs : List Value} {m₀ : Str → Option Value} {news₀ : List (Addr × Obj)}
    (J : Nat → (Str → Option Value) → List (Addr × Obj) → Prop)
    (hh : A.handled = none) (hx : env.kindOf x = some .local) (hp : (env.scope.kind == .class || (env.scope.kind == .module && env.locals != env.globals)) = false)
    (hl : h₀.IsList l vs.toArray) (F : Fr h₀ env.locals s.heap m₀) (N : News h₀ env.locals s.heap news₀) (hj : J 0 m₀ news₀)
    (hadr : ∀ i m news, J i m news → news.map (·.1) = news₀.map (·.1))
    (hev : ∀ Q' : Value → Shared → Prop, Q' (.ref l) s → wpAny (model prog w) A (eval iter env) Q' E s)
    (turn : ∀ i v m₁ news₁ I oI h tk E', vs[i]? = some v → J i m₁ news₁ → (∀ q ∈ news₁, I ≠ q.1) → Fr h₀ env.locals h (fun y => if y = x then some v else m₁ y) → News h₀ env.locals h ((I, oI) :: news₁) →
      wpAny (model prog w) A (execs body env) (Ended h₀ env.locals I oI (J (i + 1)) s) E' { s with heap := h, toks := tk })
    (done : ∀ m₁ news₁ h tk, J vs.length m₁ news₁ → Fr h₀ env.locals h m₁ → News h₀ env.locals h news₁ → Q .next { s with heap := h, toks := tk })
    (hs : ∀ x, foldedSetIterable iter env x = pure x := by intro _; rfl) :
    wpAny (model prog w) A (exec (.For (.Name x px) iter body [] pos) env) Q E s := by
  refine wpAny_For (hev _ ?_) hs
  have hls : s.heap.IsList l vs.toArray := hl.at fun o e => F.keep l o e
  obtain ⟨ol, hol, _⟩ := id hl
  have hlt : l < h₀.objs.size := Heap.lt_size hol
  have hlI : l ≠ s.heap.objs.size := Nat.ne_of_lt (Nat.lt_trans (Nat.lt_of_lt_of_le hlt F.above) F.ns.lt)
  refine wpAny_pyIter_list hls ?_
  generalize hI : s.heap.objs.size = I at hlI ⊢
  have hI0 : h₀.get? I = none := by rw [← hI]; exact next_is_new F
  have hIL : env.locals ≠ I := by rw [← hI]; exact Nat.ne_of_lt F.ns.lt
  have hIn : ∀ p ∈ news₀, p.1 ≠ I := fun p hp => by rw [← hI]; exact Nat.ne_of_lt (Heap.lt_size (N p hp).1)
  have hInews : ∀ i m news, J i m news → ∀ p ∈ news, p.1 ≠ I := fun i m news hJ p hp => by
    have : p.1 ∈ news.map (·.1) := List.mem_map_of_mem hp
    rw [hadr i m news hJ] at this
    obtain ⟨q, hq, e⟩ := List.mem_map.mp this
    rw [← e]; exact hIn q hq
  refine codeAny_forLoop (fun k s' => ∃ i h tk m news, k = vs.length - i ∧ i ≤ vs.length ∧ s' = { s with heap := h, toks := tk } ∧ Fr h₀ env.locals h m ∧ News h₀ env.locals h news ∧ J i m news ∧ h.IsListIter I l i) ?_ vs.length ?_
  · rintro k s' ⟨i, h, tk, m, news, rfl, hile, rfl, F', N', hJ, hit⟩
    have hl' : h.IsList l vs.toArray := hl.at fun o e => F'.keep l o e
    by_cases hi : i < vs.length
    · refine wpAny_pyNext_list_item (x := vs[i]) hit hl' (by simp [hi]) fun h' hit' hs' => ?_
      dsimp only
      have F1 : Fr h₀ env.locals h' m := by
        obtain ⟨oL, es, ep, hL, r⟩ := F'.ns
        exact ⟨⟨oL, es, ep, (hs'.2 _ hIL).trans hL, r⟩, fun b o e => (hs'.2 b (fun q => by rw [q, hI0] at e; cases e)).trans (F'.keep b o e), F'.above⟩
      have N1 : News h₀ env.locals h' news := news_iter N' hs' (hInews i m news hJ)
      refine wpAny_assign_Name (wpAny_storeName_local hx F1.ns (fun h2 hn2 hs2 => ?_) hp)
      have F2 := F1.set hn2 hs2
      have N2 := N1.set hs2
      obtain ⟨oI, hoI, r⟩ := id hit'
      have hoI2 : h2.get? I = some oI := (hs2.2 I (Ne.symm hIL)).trans hoI
      have N3 : News h₀ env.locals h2 ((I, oI) :: news) := fun p hp => by
        rcases List.mem_cons.mp hp with rfl | hp
        · exact ⟨hoI2, Ne.symm hIL, hI0⟩
        · exact N2 p hp
      refine wpAny_mono (turn i vs[i] m news I oI h2 _ _ (by simp [hi]) hJ (fun q hq => Ne.symm (hInews i m news hJ q hq)) F2 N3) (fun f s3 h3 => ?_) fun _ _ x => x
      obtain ⟨rfl, h4, tk4, m4, news4, rfl, F4, N4, J4⟩ := h3
      refine ⟨vs.length - (i + 1), by omega, i + 1, h4, tk4, m4, news4, rfl, hi, rfl, F4, fun p hp => N4 p (List.mem_cons_of_mem _ hp), J4, ?_⟩
      exact ⟨oI, (N4 (I, oI) (by simp)).1, r⟩
    · have hin : i = vs.length := by omega
      subst hin
      refine wpAny_pyNext_list_end hh hit hl' (by simp) fun h' he' => ?_
      dsimp only
      refine wpAny_execs_nil (done m news h' tk hJ ?_ ?_)
      · obtain ⟨oL, es, ep, hL, r⟩ := F'.ns
        exact ⟨⟨oL, es, ep, he' _ _ hIL hL, r⟩, fun b o e => he' b o (fun q => by rw [q, hI0] at e; cases e) (F'.keep b o e), F'.above⟩
      · exact fun p hp => ⟨he' _ _ (hInews _ m news hJ p hp) (N' p hp).1, (N' p hp).2⟩
  · refine ⟨0, _, s.toks, m₀, news₀, rfl, Nat.zero_le _, rfl, F.push _, fun p hp => ⟨Heap.get?_push_of_some _ (N p hp).1, (N p hp).2⟩, hj, ?_⟩
    exact ⟨_, by rw [← hI]; exact Heap.get?_push_size _ rfl, rfl, rfl⟩

theorem while_rule {test : Expr} {body : List Stmt} {pos : Pos} (I : Nat → Shared → Prop)
    (turn : ∀ n s E', I n s → wpAny (model prog w) A (isTrue test env (eval test env)) (fun b s₂ =>
      if b then wpAny (model prog w) A (execs body env) (fun f s₃ => match f with
          | .next | .cont => ∃ m, m < n ∧ I m s₃
          | .brk => Q .next s₃
          | .ret v => Q (.ret v) s₃) E' s₂
      else Q .next s₂) E' s)
    (n : Nat) (h : I n s) : wpAny (model prog w) A (exec (.While test body [] pos) env) Q E s := by
  refine wpAny_While (codeAny_whileLoop I (fun n s hI => ?_) n h)
  refine wpAny_mono (turn n s _ hI) (fun b s₂ h₂ => ?_) fun _ _ x => x
  cases b with
  | true => simp only [if_true] at h₂ ⊢; exact wpAny_mono h₂ (fun f s₃ h₃ => by cases f <;> exact h₃) fun _ _ x => x
  | false => simp only [Bool.false_eq_true, if_false] at h₂ ⊢; exact wpAny_execs_nil h₂
end
end

/-! part Pairs -/
section
noncomputable def comeP (l : List (Value × Nat)) : List (Value × Nat) := l.foldl (fun acc x => if x.2 ∈ acc.map (·.2) then acc else acc ++ [x]) []
theorem comeP_snoc (l : List (Value × Nat)) (x : Value × Nat) : comeP (l ++ [x]) = if x.2 ∈ (comeP l).map (·.2) then comeP l else comeP l ++ [x] := by
  unfold comeP; rw [List.foldl_append]; rfl
theorem comeP_mem : ∀ (n : Nat) (l : List (Value × Nat)), l.length = n → ∀ x ∈ comeP l, x ∈ l := by
  intro n
  induction n with
  | zero => intro l hl x hx; rw [List.length_eq_zero_iff.mp hl] at hx; cases hx
  | succ n ih =>
    intro l hl x hx
    rcases List.eq_nil_or_concat l with rfl | ⟨l', y, rfl⟩
    · simp at hl
    · rw [List.concat_eq_append] at hx ⊢ hl
      rw [comeP_snoc] at hx
      have hl' : l'.length = n := by simpa using hl
      split at hx
      · exact List.mem_append_left _ (ih l' hl' x hx)
      · rcases List.mem_append.mp hx with hx | hx
        · exact List.mem_append_left _ (ih l' hl' x hx)
        · exact List.mem_append_right _ hx
theorem comeP_nodup : ∀ (n : Nat) (l : List (Value × Nat)), l.length = n → ((comeP l).map (·.2)).Nodup := by
  intro n
  induction n with
  | zero => intro l hl; rw [List.length_eq_zero_iff.mp hl]; exact List.nodup_nil
  | succ n ih =>
    intro l hl
    rcases List.eq_nil_or_concat l with rfl | ⟨l', y, rfl⟩
    · simp at hl
    · rw [List.concat_eq_append] at hl ⊢
      rw [comeP_snoc]
      have hl' : l'.length = n := by simpa using hl
      split
      · exact ih l' hl'
      · rename_i hne
        rw [List.map_append]
        refine List.nodup_append.mpr ⟨ih l' hl', by simp, ?_⟩
        intro a ha b hb e
        simp only [List.map_cons, List.map_nil, List.mem_singleton] at hb
        subst hb; subst e; exact hne ha
theorem comeP_length : ∀ (n : Nat) (l : List (Value × Nat)), l.length = n → (comeP l).length ≤ l.length := by
  intro n
  induction n with
  | zero => intro l hl; rw [List.length_eq_zero_iff.mp hl]; exact Nat.le_refl _
  | succ n ih =>
    intro l hl
    rcases List.eq_nil_or_concat l with rfl | ⟨l', y, rfl⟩
    · simp at hl
    · rw [List.concat_eq_append] at hl ⊢
      rw [comeP_snoc]
      have hl' : l'.length = n := by simpa using hl
      have := ih l' hl'
      split
      · simp; omega
      · simp; omega
theorem take_snoc {α : Type} {l : List α} {i : Nat} {x : α} (h : l[i]? = some x) : l.take (i + 1) = l.take i ++ [x] := by
  rw [List.take_succ, h]; rfl

noncomputable def kvsOf (cp : List (Value × Nat)) : List (Str × Value) := cp.map fun x => (pstr (pathOf (cp.map (·.2)) x.2), x.1)

theorem val_none {cp : List (Value × Nat)} {p : List Bool} (h : sub (cp.map (·.2)) p = []) : valueAt (kvsOf cp) (pstr p) = none := by
  unfold valueAt
  rw [Option.map_eq_none_iff, List.find?_eq_none]
  intro kv hkv
  obtain ⟨x, hx, rfl⟩ := List.mem_map.mp hkv
  simp only [decide_eq_true_eq]
  intro e
  have := (path_iff p _ x.2 (List.mem_map_of_mem hx)).mp (pstr_inj e)
  rw [h] at this; cases this
theorem val_some {cp : List (Value × Nat)} {p : List Bool} {c : Nat} {rest : List Nat} (h : sub (cp.map (·.2)) p = c :: rest) : ∃ v, (v, c) ∈ cp ∧ valueAt (kvsOf cp) (pstr p) = some v := by
  have hc : c ∈ cp.map (·.2) := sub_mem p _ c (by rw [h]; simp)
  obtain ⟨x, hx, hxc⟩ := List.mem_map.mp hc
  have hpx : pathOf (cp.map (·.2)) c = p := (path_iff p _ c hc).mpr (by rw [h]; rfl)
  unfold valueAt
  cases hf : (kvsOf cp).find? fun kv => kv.1 = pstr p with
  | none =>
    exfalso
    rw [List.find?_eq_none] at hf
    have := hf (pstr (pathOf (cp.map (·.2)) x.2), x.1) (List.mem_map_of_mem (f := fun x => (pstr (pathOf (cp.map (·.2)) x.2), x.1)) hx)
    simp only [decide_eq_true_eq] at this
    rw [hxc] at this
    exact this (by rw [hpx])
  | some kv =>
    have h1 := List.find?_some hf
    obtain ⟨y, hy, rfl⟩ := List.mem_map.mp (List.mem_of_find?_eq_some hf)
    simp only [decide_eq_true_eq] at h1
    have := (path_iff p _ y.2 (List.mem_map_of_mem hy)).mp (pstr_inj h1)
    rw [h] at this
    simp only [List.head?_cons, Option.some.injEq] at this
    exact ⟨y.1, by rw [this]; exact hy, rfl⟩
theorem kvs_snoc {cp : List (Value × Nat)} {x : Value × Nat} : kvsOf (cp ++ [x]) = kvsOf cp ++ [(pstr (pathOf (cp.map (·.2)) x.2), x.1)] := by
  unfold kvsOf
  rw [List.map_append]
  congr 1
  · apply List.map_congr_left
    intro y hy
    rw [List.map_append]
    rw [show ([x] : List (Value × Nat)).map (·.2) = [x.2] from rfl, path_append _ _ _ _ (Nat.le_refl _) (.inl (List.mem_map_of_mem hy))]
  · simp only [List.map_append, List.map_cons, List.map_nil]
    rw [path_append _ _ _ _ (Nat.le_refl _) (.inr rfl)]
theorem stored_new {kvs : List (Str × Value)} {k : Str} {v : Value} (h : valueAt kvs k = none) : stored kvs k v = kvs ++ [(k, v)] := by
  unfold stored
  rw [if_neg]
  unfold valueAt at h
  rw [Option.map_eq_none_iff, List.find?_eq_none] at h
  simp only [List.any_eq_true, not_exists, not_and]
  intro x hx; exact h x hx
end

/-! part C5 -/
section
set_option maxRecDepth 100000
set_option maxHeartbeats 0
section
variable {w : World} {A : Around} {s : Shared} {p : Program} {loose : List Str} {mean : ExcName → Option Value} {mg mb : Str → Option Value} {Q E : Value → Shared → Prop}
theorem map_at {m : Str → Option Value} {x : Str} {v : Value} (h : m x = some v) : m = fun y => if y = x then some v else m y := by
  funext y
  by_cases e : y = x
  · rw [if_pos e, e, h]
  · rw [if_neg e]
theorem notin_k {kd : Nat} {a L : Addr} {h₀ : Heap} {m : Str → Option Value} {xs : List (Value × Nat)} {v : Value} {n k : Nat} {news : List (Addr × Obj)} {b : Bool} (hb : (!decide (n ∈ xs.map (·.2))) = b) (F : Fr h₀ L s.heap m) (N : News h₀ L s.heap news) (hm : (a, W.listOf (xs.map (·.1)).toArray k) ∈ news)
    (hx : ∀ x ∈ xs, KeyAt kd h₀ x.1 x.2) (hv : KeyAt kd h₀ v n) (hu : A.units + 1 < cLine)
    (h : Q (.bool b) s) : wpAny (model PySem.Challenge.rw_pd0044_01.row.prog w) A (compareOp .NotIn v (.ref a)) Q E s := by
  subst hb
  exact notin_step ⟨_, (N _ hm).1, rfl, k, rfl⟩ (fun x hx' => (hx x hx').keeps F.keep) (hv.keeps F.keep) hu h
theorem come_for {a l : Addr} {h₀ : Heap} {kd : Nat} {ps : List (Value × Nat)} {m₀ : Str → Option Value} {env : Env} {x : Str} {px pos : Pos} {iter : Expr} {body : List Stmt} {Q : Flow → Shared → Prop}
    (hh : A.handled = none) (hx : env.kindOf x = some .local) (hp : (env.scope.kind == .class || (env.scope.kind == .module && env.locals != env.globals)) = false)
    (hl : h₀.IsList l (ps.map (·.1)).toArray) (F : Fr h₀ env.locals s.heap m₀) (N : News h₀ env.locals s.heap [(a, W.listOf #[] 0)]) (hc : m₀ (Str.ofString "come") = some (.ref a))
    (hev : ∀ Q' : Value → Shared → Prop, Q' (.ref l) s → wpAny (model PySem.Challenge.rw_pd0044_01.row.prog w) A (eval iter env) Q' E s)
    (turn : ∀ (i : Nat) (v : Value) (n : Nat) (m₁ : Str → Option Value) (k : Nat) (I : Addr) (oI : Obj) (h : Heap) (tk : Nat) (E' : Value → Shared → Prop), ps[i]? = some (v, n) → m₁ (Str.ofString "come") = some (.ref a) → I ≠ a → Fr h₀ env.locals h (fun y => if y = x then some v else m₁ y) → News h₀ env.locals h [(I, oI), (a, W.listOf ((comeP (ps.take i)).map (·.1)).toArray k)] →
      wpAny (model PySem.Challenge.rw_pd0044_01.row.prog w) A (execs body env) (Ended h₀ env.locals I oI (fun m news => m (Str.ofString "come") = some (.ref a) ∧ ∃ k, news = [(a, W.listOf ((comeP (ps.take (i + 1))).map (·.1)).toArray k)]) s) E' { s with heap := h, toks := tk })
    (done : ∀ (m₁ : Str → Option Value) (k : Nat) (h : Heap) (tk : Nat), m₁ (Str.ofString "come") = some (.ref a) → Fr h₀ env.locals h m₁ → News h₀ env.locals h [(a, W.listOf ((comeP ps).map (·.1)).toArray k)] → Q .next { s with heap := h, toks := tk })
    (hs : ∀ x, foldedSetIterable iter env x = pure x := by intro _; rfl) :
    wpAny (model PySem.Challenge.rw_pd0044_01.row.prog w) A (exec (.For (.Name x px) iter body [] pos) env) Q E s := by
  refine for_list (vs := ps.map (·.1)) (fun i m news => m (Str.ofString "come") = some (.ref a) ∧ ∃ k, news = [(a, W.listOf ((comeP (ps.take i)).map (·.1)).toArray k)]) hh hx hp hl F N ⟨hc, 0, rfl⟩ ?_ hev ?_ ?_ hs
  · rintro i m news ⟨_, k, rfl⟩; rfl
  · rintro i v m₁ news₁ I oI h tk E' hi ⟨h1, k, rfl⟩ hne F' N'
    rw [List.getElem?_map] at hi
    obtain ⟨⟨v', n⟩, hi', rfl⟩ := Option.map_eq_some_iff.mp hi
    exact turn i v' n m₁ k I oI h tk E' hi' h1 (hne _ (List.mem_singleton.mpr rfl)) F' N'
  · rintro m₁ news₁ h tk ⟨h1, k, rfl⟩ F' N'
    rw [List.length_map, List.take_length] at N'
    exact done m₁ k h tk h1 F' N'
theorem come_c {kd : Nat} {l : Addr} {ps : List (Value × Nat)} (X : (hd.heap_39 w.params).In s.heap) (T : Top p loose mean mg mb s.heap) (hh : A.handled = none) (hdep : A.depth + 8 < recursionLimit) (huni : A.units + 60 < cLine) (hl : s.heap.IsList l (ps.map (·.1)).toArray) (hk : ∀ x ∈ ps, KeyAt kd s.heap x.1 x.2) (hn : ps.length ≤ 7)
  (hret : ∀ a h' tk', Kp s.heap h' → s.heap.get? a = none → h'.PlainList a ((comeP ps).map (·.1)).toArray → Q (.ref a) { s with heap := h', toks := tk' }) : wpAny (model PySem.Challenge.rw_pd0044_01.row.prog w) A (call (.ref 153) [.ref l]) Q E s := by
  k_with_none
  (k_with "ne" => (refine neN ?_; (try dsimp only); (first | with_reducible assumption | with_reducible exact Ne.symm (by assumption) | (refine' ne_lt ?z1 ?z2; (case z1 => with_reducible assumption); (case z2 => k_mem)) | (refine' ne_lt' ?z3 ?z4; (case z3 => with_reducible assumption); (case z4 => k_mem)) | (refine' ne_o ?z5 ?z6; (case z5 => with_reducible assumption); (case z6 => k_mem)) | (refine' ne_o' ?z7 ?z8; (case z7 => with_reducible assumption); (case z8 => k_mem)) | omega)))
  (k_with "all" => (first | with_reducible assumption | with_reducible exact all_lt (by assumption) | exact List.forall_mem_nil _ | (refine' List.forall_mem_cons.mpr ⟨?za, ?zb⟩; (case za => k_ne); (case zb => k_all))))
  (k_with "CompRest" => (with_unfolding_all first | (refine LCg.CompRest.succ ?_; intro v' I' oI' C' oC' D' m' h' tk' E' hv' hC' hx' F' N' off' ne'; (first | lcg_open hv' | (obtain ⟨t9', hv9'⟩ := hv'; subst hv9')); (have offI' := off3_I off'); (have offC' := off3_C off'); (have offD' := off3_D off'); clear off') | refine LCg.CompRest.zero ?_))
  (k_with "FinE" => ((unfold LCg.FinE); intro D' h' tk' F' N' o1'; (replace o1' := off1_D o1'); (try simp only [List.nil_append, List.cons_append] at N'); (try dsimp only)))
  (k_with "FinA" => ((unfold LCg.FinA); intro D' h' tk' F' N' o1'; (replace o1' := off1_D o1'); (try simp only [List.nil_append, List.cons_append] at N'); (try dsimp only)))
  (k_with "exec For Name Name cons nil" => refine Stop.mk ?_)
  (k_with "compareOp NotIn" => (k_here; k_dflt (refine' notin_k ?w9kb ?w9kF ?w9kN ?w9km ?w9kx ?w9kv ?w9ku ?_; (case w9kb => assumption); (case w9kF => k_asm); (case w9kN => k_asm); (case w9km => k_mem); (case w9kx => assumption); (case w9kv => assumption); (case w9ku => ((try simp only [depth_deeper, units_deeper, Around.in1_units, Around.in1_depth]); (try dsimp only); omega)); k_whole)))
  (k_with "call builtin:list.append" => (k_here; k_dflt (refine' append_K ?w10k1 ?w10k2 ?w10k3 ?_ ?w10z; (case w10k1 => k_asm); (case w10k2 => k_asm); (case w10k3 => k_upd); (case w10z => assumption); k_whole); intro h' F' N'; (try k_sweep)))
  ((have hrow : (hd.heap_39, PySem.Challenge.rw_pd0044_01) = (hd.heap_39, PySem.Challenge.rw_pd0044_01) := rfl); revert hrow; k_fill; intro hrow; clear hrow; (obtain ⟨ahd, adp, afr, agd, aun⟩ := A; (have hh9 : ahd = none := hh); subst hh9; clear hh; (try dsimp only at hdep huni)))
  (refine' enterS X T ?k6 ?k7 ?k8 ?k9 ?kB ?_ ?c2 ?c3 ?c4 ?c5; (case k6 => k_is); (case k7 => k_is); (case k8 => ((try dsimp only); omega)); (case k9 => exact BindsTo.of_eq rfl); (case c5 => decide); (case kB => exact locs rfl); (case c2 => exact rfl); (case c3 => exact rfl); (case c4 => exact rfl))
  intro L' h' F' N'
  (try dsimp only)
  w_strict (k_steps; unfold Stop)
  rename Fr _ _ _ _ => F1
  rename News _ _ _ _ => N1
  refine come_for (kd := kd) rfl rfl rfl hl F1 N1 rfl ?_ ?_ ?_
  · intro Q' hq; exact ld F1 rfl hq
  · intro i v n m₁ k I oI h tk E' hi hm hIa F2 N2
    rw [map_at hm] at F2
    have hxs : ∀ x ∈ comeP (ps.take i), KeyAt kd s.heap x.1 x.2 := fun x hx => hk x (List.mem_of_mem_take (comeP_mem _ _ rfl x hx))
    have hvn : KeyAt kd s.heap v n := hk (v, n) (List.mem_of_getElem? hi)
    have hsz : ((comeP (ps.take i)).map (·.1)).toArray.size ≤ sizeLine := by
      rw [sizeLine_eq, List.size_toArray, List.length_map]
      have h1 := comeP_length _ (ps.take i) rfl
      have h2 : (ps.take i).length ≤ ps.length := by simp; omega
      omega
    have hcs := comeP_snoc (ps.take i) (v, n)
    rw [← take_snoc hi] at hcs
    clear hret F1 N1
    by_cases hmem : n ∈ (comeP (ps.take i)).map (·.2)
    · have hb : (!decide (n ∈ (comeP (ps.take i)).map (·.2))) = false := by simp [hmem]
      rw [if_pos hmem] at hcs
      w_strict (k_steps; all_goals ((rw [hcs]); exact ⟨rfl, _, _, _, _, rfl, by assumption, by assumption, rfl, k, rfl⟩))
    · have hb : (!decide (n ∈ (comeP (ps.take i)).map (·.2))) = true := by simp [hmem]
      rw [if_neg hmem] at hcs
      have e9 : ((comeP (ps.take i) ++ [(v, n)]).map (·.1)).toArray = ((comeP (ps.take i)).map (·.1)).toArray.push v := by simp
      w_strict (k_steps; all_goals ((rw [hcs, e9]); exact ⟨rfl, _, _, _, _, rfl, by assumption, by assumption, rfl, _, rfl⟩))
  · intro m₁ k h tk hm F2 N2
    rw [map_at hm] at F2
    clear F1 N1
    w_strict (k_steps; all_goals exact hret _ _ _ (Fr.keep (by assumption)) (News.fresh N2 (List.mem_singleton.mpr rfl)) ⟨k, (N2 _ (List.mem_singleton.mpr rfl)).1⟩)
end
end

/-! part C6 -/
section
set_option maxRecDepth 100000
set_option maxHeartbeats 0
section
variable {w : World} {A : Around} {s : Shared} {p : Program} {loose : List Str} {mean : ExcName → Option Value} {mg mb : Str → Option Value} {Q E : Value → Shared → Prop}
variable {h₀ : Heap} {L d : Addr} {o : Obj} {kvs : List (Str × Value)} {news : List (Addr × Obj)} {m : Str → Option Value}
theorem in_tree {x : Str} {t : Tok} {b : Bool} (hb : (valueAt kvs x).isSome = b) (N : News h₀ L s.heap news) (hm : (d, o) ∈ news) (hd : o.IsDictOf (strKind PySem.Challenge.rw_pd0044_01.row.prog w) kvs) (lo : (d == sysModules) = false) (h : Q (.bool b) { s with toks := s.toks + 1 }) :
    wpAny (model PySem.Challenge.rw_pd0044_01.row.prog w) A (compareOp .In (.str x t) (.ref d)) Q E s := by
  subst hb
  exact wpAny_in_of (strKind_is _ _ x t) lo (Heap.dictOf_iff.mpr ⟨o, (N _ hm).1, hd⟩).mapOf h
theorem notin_tree {x : Str} {t : Tok} {b : Bool} (hb : (valueAt kvs x).isSome = b) (N : News h₀ L s.heap news) (hm : (d, o) ∈ news) (hd : o.IsDictOf (strKind PySem.Challenge.rw_pd0044_01.row.prog w) kvs) (lo : (d == sysModules) = false) (h : Q (.bool (!b)) { s with toks := s.toks + 1 }) :
    wpAny (model PySem.Challenge.rw_pd0044_01.row.prog w) A (compareOp .NotIn (.str x t) (.ref d)) Q E s := by
  subst hb
  exact wpAny_notIn_of (strKind_is _ _ x t) lo (Heap.dictOf_iff.mpr ⟨o, (N _ hm).1, hd⟩).mapOf h
theorem get_tree {value slice : Expr} {x : Str} {t : Tok} {v : Value} (hv : valueAt kvs x = some v) (N : News h₀ L s.heap news) (hm : (d, o) ∈ news) (hd : o.IsDictOf (strKind PySem.Challenge.rw_pd0044_01.row.prog w) kvs) (h : Q v { s with toks := s.toks + 1 })
    (hs : subscripted slice false (.ref d) (.str x t) = operate [.ref d, .str x t] (getItem (.ref d) (.str x t)) := by with_unfolding_all rfl) :
    wpAny (model PySem.Challenge.rw_pd0044_01.row.prog w) A (subscriptTail value slice (.ref d) (.str x t)) Q E s :=
  have hm' := (Heap.dictOf_iff.mpr ⟨o, (N _ hm).1, hd⟩).mapOf
  tail_any hm'.typeIs slot_dict_getitem.lookup (wpAny_getItem_of (strKind_is _ _ x t) hm' hv h) hs
theorem set_tree {Q : Unit → Shared → Prop} {x : Str} {t : Tok} {v : Value} {I : Addr} {oI : Obj} (F : Fr h₀ L s.heap m) (N : News h₀ L s.heap [(I, oI), (d, o)]) (hI : I ≠ d) (hd : o.IsDictOf (strKind PySem.Challenge.rw_pd0044_01.row.prog w) kvs) (hv : valueAt kvs x = none) (hsz : kvs.length ≤ sizeLine)
    (h : ∀ h' o', Fr h₀ L h' m → News h₀ L h' [(I, oI), (d, o')] → o'.IsDictOf (strKind PySem.Challenge.rw_pd0044_01.row.prog w) (kvs ++ [(x, v)]) → Q () { s with heap := h', toks := s.toks + 1 }) :
    wpAny (model PySem.Challenge.rw_pd0044_01.row.prog w) A (setItem (.ref d) (.str x t) v) Q E s := by
  have hD := N (d, o) (by simp)
  refine wpAny_setItem_pairs (strKind_is _ _ x t) (Heap.dictOf_iff.mpr ⟨o, hD.1, hd⟩) (fun h' hd' hs => ?_) hsz
  rw [stored_new hv] at hd'
  obtain ⟨o', ho', hd'⟩ := Heap.dictOf_iff.mp hd'
  refine h h' o' ?_ ?_ hd'
  · exact ⟨F.ns.sameBut hs (Ne.symm hD.2.1), fun b ob e => (hs.2 b (fun q => by rw [q, hD.2.2] at e; cases e)).trans (F.keep b ob e), F.above⟩
  · intro p hp
    rcases List.mem_cons.mp hp with rfl | hp
    · have := N (I, oI) (by simp)
      exact ⟨(hs.2 I hI).trans this.1, this.2⟩
    · rw [List.mem_singleton.mp hp]; exact ⟨ho', hD.2⟩
theorem join_r {a b r : Str} {t u : Tok} (hr : joinF a b = r) (X : (hd.heap_39 w.params).In s.heap) (T : Top p loose mean mg mb s.heap) (hh : A.handled = none) (hdep : A.depth + 16 < recursionLimit) (huni : A.units + 100 < cLine)
  (hb : Txt.startswith b (Str.ofString "/") = false) (ha1 : 1 ≤ a.length) (ha2 : a.length ≤ 20) (hb1 : b.length = 1)
  (hret : ∀ h' tk' u, Kp s.heap h' → Q (.str r u) { s with heap := h', toks := tk' }) : wpAny (model PySem.Challenge.rw_pd0044_01.row.prog w) A (call (.ref 122) [.str a t, .str b u]) Q E s :=
  join_c X T hh hdep huni hb ha1 (by omega) (by omega) (by omega) (by subst hr; exact hret)

theorem plant_for {a l : Addr} {kd : Nat} {ps : List (Value × Nat)} {m₀ : Str → Option Value} {env : Env} {x : Str} {px pos : Pos} {iter : Expr} {body : List Stmt} {Q : Flow → Shared → Prop}
    (hh : A.handled = none) (hx : env.kindOf x = some .local) (hp : (env.scope.kind == .class || (env.scope.kind == .module && env.locals != env.globals)) = false)
    (hl : h₀.IsList l (ps.map (·.1)).toArray) (F : Fr h₀ env.locals s.heap m₀) (N : News h₀ env.locals s.heap [(a, o)]) (hd : o.IsDictOf (strKind PySem.Challenge.rw_pd0044_01.row.prog w) []) (hc : m₀ (Str.ofString "tree") = some (.ref a))
    (hev : ∀ Q' : Value → Shared → Prop, Q' (.ref l) s → wpAny (model PySem.Challenge.rw_pd0044_01.row.prog w) A (eval iter env) Q' E s)
    (turn : ∀ (i : Nat) (v : Value) (n : Nat) (m₁ : Str → Option Value) (o₁ : Obj) (I : Addr) (oI : Obj) (h : Heap) (tk : Nat) (E' : Value → Shared → Prop), ps[i]? = some (v, n) → m₁ (Str.ofString "tree") = some (.ref a) → I ≠ a → o₁.IsDictOf (strKind PySem.Challenge.rw_pd0044_01.row.prog w) (kvsOf (comeP (ps.take i))) → Fr h₀ env.locals h (fun y => if y = x then some v else m₁ y) → News h₀ env.locals h [(I, oI), (a, o₁)] →
      wpAny (model PySem.Challenge.rw_pd0044_01.row.prog w) A (execs body env) (Ended h₀ env.locals I oI (fun m news => m (Str.ofString "tree") = some (.ref a) ∧ ∃ o', news = [(a, o')] ∧ o'.IsDictOf (strKind PySem.Challenge.rw_pd0044_01.row.prog w) (kvsOf (comeP (ps.take (i + 1))))) s) E' { s with heap := h, toks := tk })
    (done : ∀ (m₁ : Str → Option Value) (o₁ : Obj) (h : Heap) (tk : Nat), m₁ (Str.ofString "tree") = some (.ref a) → o₁.IsDictOf (strKind PySem.Challenge.rw_pd0044_01.row.prog w) (kvsOf (comeP ps)) → Fr h₀ env.locals h m₁ → News h₀ env.locals h [(a, o₁)] → Q .next { s with heap := h, toks := tk })
    (hs : ∀ x, foldedSetIterable iter env x = pure x := by intro _; rfl) :
    wpAny (model PySem.Challenge.rw_pd0044_01.row.prog w) A (exec (.For (.Name x px) iter body [] pos) env) Q E s := by
  refine for_list (vs := ps.map (·.1)) (fun i m news => m (Str.ofString "tree") = some (.ref a) ∧ ∃ o', news = [(a, o')] ∧ o'.IsDictOf (strKind PySem.Challenge.rw_pd0044_01.row.prog w) (kvsOf (comeP (ps.take i)))) hh hx hp hl F N ⟨hc, o, rfl, by simpa [comeP, kvsOf] using hd⟩ ?_ hev ?_ ?_ hs
  · rintro i m news ⟨_, k, rfl, _⟩; rfl
  · rintro i v m₁ news₁ I oI h tk E' hi ⟨h1, k, rfl, hk⟩ hne F' N'
    rw [List.getElem?_map] at hi
    obtain ⟨⟨v', n⟩, hi', rfl⟩ := Option.map_eq_some_iff.mp hi
    exact turn i v' n m₁ k I oI h tk E' hi' h1 (hne _ (List.mem_singleton.mpr rfl)) hk F' N'
  · rintro m₁ news₁ h tk ⟨h1, k, rfl, hk⟩ F' N'
    rw [List.length_map, List.take_length] at hk
    exact done m₁ k h tk h1 hk F' N'

theorem shadow {x : Str} {a b : Option Value} {h : Heap} (F : Fr h₀ L h (fun y => if y = x then a else if y = x then b else m y)) : Fr h₀ L h (fun y => if y = x then a else m y) := by
  have e : (fun y => if y = x then a else if y = x then b else m y) = (fun y => if y = x then a else m y) := by
    funext y
    by_cases h : y = x <;> simp [h]
  rw [e] at F; exact F
noncomputable def plantM (p : List Bool) (tp : Tok) (v : Value) (d : Addr) (m₁ : Str → Option Value) : Str → Option Value := fun y => if y = Str.ofString "place" then some (.str (pstr p) tp) else if y = Str.ofString "key" then some v else if y = Str.ofString "tree" then some (.ref d) else m₁ y
noncomputable def PlantNext (s : Shared) (cs : List Nat) (n : Nat) (h₀ : Heap) (L I d : Addr) (oI o₁ : Obj) (v : Value) (m₁ : Str → Option Value) (p : List Bool) (s₃ : Shared) : Prop :=
  ∃ p' h tk tp, s₃ = { s with heap := h, toks := tk } ∧ (sub cs p').length < (sub cs p).length ∧ pathOf cs n = p' ++ pathOf (sub cs p') n ∧ Fr h₀ L h (plantM p' tp v d m₁) ∧ News h₀ L h [(I, oI), (d, o₁)]
theorem plant_while {env : Env} {test : Expr} {body : List Stmt} {pos : Pos} {Q : Flow → Shared → Prop} {cs : List Nat} {n : Nat} {I : Addr} {oI : Obj} {v : Value} {m₁ : Str → Option Value} {tp : Tok} (hlen : cs.length ≤ 7)
    (F : Fr h₀ env.locals s.heap (fun y => if y = Str.ofString "place" then some (.str (Str.ofString "/") tp) else if y = Str.ofString "key" then some v else if y = Str.ofString "tree" then some (.ref d) else m₁ y)) (N : News h₀ env.locals s.heap [(I, oI), (d, o)])
    (turn : ∀ (p : List Bool) (h : Heap) (tk : Nat) (tp : Tok) (E' : Value → Shared → Prop), p.length ≤ 7 → pathOf cs n = p ++ pathOf (sub cs p) n → Fr h₀ env.locals h (fun y => if y = Str.ofString "place" then some (.str (pstr p) tp) else if y = Str.ofString "key" then some v else if y = Str.ofString "tree" then some (.ref d) else m₁ y) → News h₀ env.locals h [(I, oI), (d, o)] →
      wpAny (model PySem.Challenge.rw_pd0044_01.row.prog w) A (isTrue test env (eval test env)) (fun b s₂ =>
        if b then wpAny (model PySem.Challenge.rw_pd0044_01.row.prog w) A (execs body env) (fun f s₃ => match f with
            | .next | .cont => PlantNext s cs n h₀ env.locals I d oI o v m₁ p s₃
            | .brk => Q .next s₃
            | .ret v => Q (.ret v) s₃) E' s₂
        else Q .next s₂) E' { s with heap := h, toks := tk }) :
    wpAny (model PySem.Challenge.rw_pd0044_01.row.prog w) A (exec (.While test body [] pos) env) Q E s := by
  refine while_rule (fun k s' => ∃ p h tk tp, s' = { s with heap := h, toks := tk } ∧ k = (sub cs p).length ∧ pathOf cs n = p ++ pathOf (sub cs p) n ∧ Fr h₀ env.locals h (plantM p tp v d m₁) ∧ News h₀ env.locals h [(I, oI), (d, o)]) ?_ _ ⟨[], s.heap, s.toks, tp, rfl, rfl, by rw [sub_root]; rfl, ?_, N⟩
  · rintro k s' E' ⟨p, h, tk, tp, rfl, rfl, hp, F', N'⟩
    have hpl : p.length ≤ 7 := by
      have h1 := path_length _ cs n (Nat.le_refl _)
      rw [hp, List.length_append] at h1
      omega
    refine wpAny_mono (turn p h tk tp E' hpl hp F' N') (fun b s₂ h₂ => ?_) fun _ _ x => x
    cases b with
    | false => exact h₂
    | true =>
      simp only [if_true] at h₂ ⊢
      refine wpAny_mono h₂ (fun f s₃ h₃ => ?_) fun _ _ x => x
      cases f with
      | next =>
        obtain ⟨p', h, tk, tp, rfl, hlt, r1, r2, r3⟩ := h₃
        exact ⟨_, hlt, p', h, tk, tp, rfl, rfl, r1, r2, r3⟩
      | cont =>
        obtain ⟨p', h, tk, tp, rfl, hlt, r1, r2, r3⟩ := h₃
        exact ⟨_, hlt, p', h, tk, tp, rfl, rfl, r1, r2, r3⟩
      | brk => exact h₃
      | ret v => exact h₃
  · have : plantM [] tp v d m₁ = (fun y => if y = Str.ofString "place" then some (.str (Str.ofString "/") tp) else if y = Str.ofString "key" then some v else if y = Str.ofString "tree" then some (.ref d) else m₁ y) := by rw [slash]; rfl
    rw [this]; exact F

theorem plant_c {kd : Nat} {l : Addr} {ps : List (Value × Nat)} (X : (hd.heap_39 w.params).In s.heap) (T : Top p loose mean mg mb s.heap) (hh : A.handled = none) (hdep : A.depth + 30 < recursionLimit) (huni : A.units + 200 < cLine) (hl : s.heap.IsList l (ps.map (·.1)).toArray) (hk : ∀ x ∈ ps, KeyAt kd s.heap x.1 x.2) (hn : ps.length ≤ 7)
  (hret : ∀ a h' tk', Kp s.heap h' → s.heap.get? a = none → (a == sysModules) = false → h'.DictOf (strKind PySem.Challenge.rw_pd0044_01.row.prog w) a (kvsOf (comeP ps)) → Q (.ref a) { s with heap := h', toks := tk' }) : wpAny (model PySem.Challenge.rw_pd0044_01.row.prog w) A (call (.ref 146) [.ref l]) Q E s := by
  k_with_none
  (k_with "ne" => (refine neN ?_; (try dsimp only); (first | with_reducible assumption | with_reducible exact Ne.symm (by assumption) | (refine' ne_lt ?z1 ?z2; (case z1 => with_reducible assumption); (case z2 => k_mem)) | (refine' ne_lt' ?z3 ?z4; (case z3 => with_reducible assumption); (case z4 => k_mem)) | (refine' ne_o ?z5 ?z6; (case z5 => with_reducible assumption); (case z6 => k_mem)) | (refine' ne_o' ?z7 ?z8; (case z7 => with_reducible assumption); (case z8 => k_mem)) | omega)))
  (k_with "all" => (first | with_reducible assumption | with_reducible exact all_lt (by assumption) | exact List.forall_mem_nil _ | (refine' List.forall_mem_cons.mpr ⟨?za, ?zb⟩; (case za => k_ne); (case zb => k_all))))
  (k_with "CompRest" => (with_unfolding_all first | (refine LCg.CompRest.succ ?_; intro v' I' oI' C' oC' D' m' h' tk' E' hv' hC' hx' F' N' off' ne'; (first | lcg_open hv' | (obtain ⟨t9', hv9'⟩ := hv'; subst hv9')); (have offI' := off3_I off'); (have offC' := off3_C off'); (have offD' := off3_D off'); clear off') | refine LCg.CompRest.zero ?_))
  (k_with "FinE" => ((unfold LCg.FinE); intro D' h' tk' F' N' o1'; (replace o1' := off1_D o1'); (try simp only [List.nil_append, List.cons_append] at N'); (try dsimp only)))
  (k_with "FinA" => ((unfold LCg.FinA); intro D' h' tk' F' N' o1'; (replace o1' := off1_D o1'); (try simp only [List.nil_append, List.cons_append] at N'); (try dsimp only)))
  (k_with "exec For Name Name cons nil" => refine Stop.mk ?_)
  (k_with "exec While BoolOp cons nil" => refine Stop.mk ?_)
  (k_with "exec While" => refine Stop.mk ?_)
  (k_with "compareOp In str ref" => (k_here; k_dflt (refine' in_tree ?w11kb ?w11kN ?w11km ?w11kd ?w11kl ?_; (case w11kb => assumption); (case w11kN => k_asm); (case w11km => k_mem); (case w11kd => assumption); (case w11kl => assumption); k_whole)))
  (k_with "compareOp NotIn str ref" => (k_here; k_dflt (refine' notin_tree ?w12kb ?w12kN ?w12km ?w12kd ?w12kl ?_; (case w12kb => assumption); (case w12kN => k_asm); (case w12km => k_mem); (case w12kd => assumption); (case w12kl => assumption); k_whole)))
  (k_with "subscriptTail Name Name ref str" => (k_here; k_dflt (refine' get_tree ?w13kb ?w13kN ?w13km ?w13kd ?_; (case w13kb => assumption); (case w13kN => k_asm); (case w13km => k_mem); (case w13kd => assumption); k_whole)))
  (k_with "setItem ref str" => (k_here; k_dflt (refine' set_tree ?w14kF ?w14kN ?w14kI ?w14kd ?w14kv ?w14kz ?_; (case w14kF => k_asm); (case w14kN => k_asm); (case w14kI => assumption); (case w14kd => assumption); (case w14kv => assumption); (case w14kz => assumption)); intro h' o' F' N' hd'; (try k_sweep)))
  (k_with "call ref" => (k_here; k_dflt (first | (refine' cmp3_z ?w15kz ?w15kX ?w15kT ?w15kh ?w15k1 ?w15k2 ?w15ka ?w15kb ?_; (case w15kz => assumption); (case w15kX => (first | assumption | exact Frag.In.keeps (by k_asm) (Fr.keep (by k_asm)))); (case w15kT => (first | assumption | exact Top.keeps (by k_asm) (Fr.keep (by k_asm)))); (case w15kh => rfl); (case w15k1 => ((try simp only [depth_deeper, units_deeper, Around.in1_units, Around.in1_depth]); (try dsimp only); omega)); (case w15k2 => ((try simp only [depth_deeper, units_deeper, Around.in1_units, Around.in1_depth]); (try dsimp only); omega)); (case w15ka => exact KeyAt.keeps (by assumption) (Fr.keep (by k_asm))); (case w15kb => exact KeyAt.keeps (by assumption) (Fr.keep (by k_asm))); k_whole; intro h' tk' u' kp'; ((have F' := Fr.keeps (by k_asm) kp'); (have N' := News.grown (by k_asm) kp'); clear kp'; (try k_sweep))) | (refine' join_r ?w15kz ?w15kX ?w15kT ?w15kh ?w15k1 ?w15k2 ?w15ka ?w15kb ?w15kc ?w15kd ?_; (case w15kz => assumption); (case w15kX => (first | assumption | exact Frag.In.keeps (by k_asm) (Fr.keep (by k_asm)))); (case w15kT => (first | assumption | exact Top.keeps (by k_asm) (Fr.keep (by k_asm)))); (case w15kh => rfl); (case w15k1 => ((try simp only [depth_deeper, units_deeper, Around.in1_units, Around.in1_depth]); (try dsimp only); omega)); (case w15k2 => ((try simp only [depth_deeper, units_deeper, Around.in1_units, Around.in1_depth]); (try dsimp only); omega)); (case w15ka => first | exact starts_r | exact starts_l); (case w15kb => assumption); (case w15kc => assumption); (case w15kd => rfl); k_whole; intro h' tk' u' kp'; ((have F' := Fr.keeps (by k_asm) kp'); (have N' := News.grown (by k_asm) kp'); clear kp'; (try k_sweep))))))
  ((have hrow : (hd.heap_39, PySem.Challenge.rw_pd0044_01) = (hd.heap_39, PySem.Challenge.rw_pd0044_01) := rfl); revert hrow; k_fill; intro hrow; clear hrow; (obtain ⟨ahd, adp, afr, agd, aun⟩ := A; (have hh9 : ahd = none := hh); subst hh9; clear hh; (try dsimp only at hdep huni)))
  (refine' enterS X T ?k6 ?k7 ?k8 ?k9 ?kB ?_ ?c2 ?c3 ?c4 ?c5; (case k6 => k_is); (case k7 => k_is); (case k8 => ((try dsimp only); omega)); (case k9 => exact BindsTo.of_eq rfl); (case c5 => decide); (case kB => exact locs rfl); (case c2 => exact rfl); (case c3 => exact rfl); (case c4 => exact rfl))
  intro L' h' F' N'
  (try dsimp only)
  w_strict (k_steps; unfold Stop)
  rename Fr _ _ _ _ => F1
  rename News _ _ _ _ => N1
  rename (_ == sysModules) = false => lo1
  refine plant_for (kd := kd) rfl rfl rfl hl F1 N1 (by assumption) rfl ?_ ?_ ?_
  · intro Q' hq; exact ld F1 rfl hq
  · intro i v n m₁ o₁ I oI h tk E' hi hm hIa hd₁ F2 N2
    rw [map_at hm] at F2
    have hvn : KeyAt kd s.heap v n := hk (v, n) (List.mem_of_getElem? hi)
    have hxs : ∀ x ∈ comeP (ps.take i), KeyAt kd s.heap x.1 x.2 := fun x hx => hk x (List.mem_of_mem_take (comeP_mem _ _ rfl x hx))
    have hlen : (comeP (ps.take i)).length ≤ 7 := by
      have h1 := comeP_length _ (ps.take i) rfl
      have h2 : (ps.take i).length ≤ ps.length := by simp; omega
      omega
    have hcs := comeP_snoc (ps.take i) (v, n)
    rw [← take_snoc hi] at hcs
    have hsz : (kvsOf (comeP (ps.take i))).length ≤ sizeLine := by rw [sizeLine_eq]; simp only [kvsOf, List.length_map]; omega
    generalize hcp : comeP (ps.take i) = cp at *
    clear hret F1 N1
    w_strict (k_steps; unfold Stop)
    rename Fr _ _ _ _ => F3
    rename News _ _ _ _ => N3
    refine plant_while (cs := cp.map (·.2)) (n := n) (by simpa using hlen) F3 N3 ?_
    clear F3 N3 F2 N2
    intro p h tk tp E2 hpl hpath F4 N4
    have ⟨tr, tl, _, tn1, tn2, _, _⟩ := txt_facts hpl
    cases hsub : sub (cp.map (·.2)) p with
    | nil =>
      have hval := val_none hsub
      have hvs : (valueAt (kvsOf cp) (pstr p)).isSome = false := by rw [hval]; rfl
      have hnp : pathOf (cp.map (·.2)) n = p := by rw [hpath, hsub, pathOf_nil, List.append_nil]
      have hnm : n ∉ cp.map (·.2) := fun hm => by
        have := (path_iff p _ n hm).mp hnp
        rw [hsub] at this; cases this
      have e9 : kvsOf (comeP (ps.take (i + 1))) = kvsOf cp ++ [(pstr p, v)] := by rw [hcs, if_neg hnm, kvs_snoc, hnp]
      w_strict (k_steps; all_goals (rw [e9]; exact ⟨rfl, _, _, _, _, rfl, by assumption, by assumption, rfl, _, rfl, by assumption⟩))
    | cons c rest =>
      obtain ⟨vc, hvc, hval⟩ := val_some hsub
      have hvs : (valueAt (kvsOf cp) (pstr p)).isSome = true := by rw [hval]; rfl
      have hkc : KeyAt kd s.heap vc c := hxs (vc, c) hvc
      by_cases hnc : n = c
      · have hz : (if n > c then 1 else if n < c then -1 else 0 : Int) = 0 := by simp [hnc]
        have e9 : comeP (ps.take (i + 1)) = cp := by rw [hcs, if_pos (by rw [hnc]; exact sub_mem p _ c (by rw [hsub]; exact List.mem_cons_self))]
        w_strict (k_steps; all_goals (rw [e9]; exact ⟨rfl, _, _, _, _, rfl, by assumption, by assumption, rfl, _, rfl, hd₁⟩))
      · obtain ⟨hp2, hlt2⟩ := path_step hpath hsub hnc
        by_cases hgt : n > c
        · have hz : (if n > c then 1 else if n < c then -1 else 0 : Int) = 1 := by simp [hgt]
          rw [decide_eq_true (show c < n from hgt)] at hp2 hlt2
          w_strict (k_steps; all_goals exact ⟨p ++ [true], _, _, _, rfl, hlt2, hp2, shadow (by assumption), cb_drop (by assumption) (by kcj_all)⟩)
        · have hz : (if n > c then 1 else if n < c then -1 else 0 : Int) = -1 := by rw [if_neg hgt, if_pos (by omega)]
          rw [decide_eq_false (show ¬ c < n from fun h => hgt h)] at hp2 hlt2
          w_strict (k_steps; all_goals exact ⟨p ++ [false], _, _, _, rfl, hlt2, hp2, shadow (by assumption), cb_drop (by assumption) (by kcj_all)⟩)
  · intro m₁ o₁ h tk hm hd₁ F2 N2
    rw [map_at hm] at F2
    clear F1 N1
    w_strict (k_steps; all_goals exact hret _ _ _ (Fr.keep (by assumption)) (News.fresh N2 (List.mem_singleton.mpr rfl)) lo1 (Heap.dictOf_iff.mpr ⟨_, (N2 _ (List.mem_singleton.mpr rfl)).1, hd₁⟩))
end
end

/-! part Comps -/
section
set_option maxRecDepth 100000
set_option maxHeartbeats 0
open LCg LCt
/-- a tree that keeps the heap -/
noncomputable def KeepQ {α : Type} (s : Shared) (h₀ : Heap) (L : Addr) (m : Str → Option Value) (all : List (Addr × Obj)) (G : α → Prop) (y : α) (s' : Shared) : Prop := G y ∧ ∃ h' tk', s' = { s with heap := h', toks := tk' } ∧ Fr h₀ L h' m ∧ News h₀ L h' all

section
variable {prog : Program} {w : World} {A : Around} {s : Shared} {h₀ : Heap} {L : Addr} {m : Str → Option Value} {env : Env}
theorem compU {elt : Expr} {x : Str} {scope : Scope} {cl : List (Str × Addr)} {S : List (Addr × Obj) → Prop} {P : Nat → Value → Prop} {Fin : List Value → List (Addr × Obj) → Prop} {n : Nat} {news : List (Addr × Obj)}
    (G : Nat → Value → Prop) (hS : S news)
    (hstep : ∀ (i : Nat) (v : Value) (ys : List Value) (I : Addr) (oI : Obj) (C : Addr) (oC : Obj) (D : Addr) (m₂ : Str → Option Value) (h : Heap) (tk : Nat) (E' : Value → Shared → Prop), i < n → P i v → NsObj oC m₂ → m₂ x = some v → Fr h₀ L h m → News h₀ L h ((I, oI) :: (C, oC) :: (D, lst ys) :: news) → Off3 I C D news → ((@Ne Nat I C) ∧ (@Ne Nat I D) ∧ (@Ne Nat C D)) →
      wpAny (model prog w) A (eval elt (compEnvC scope cl C env)) (KeepQ s h₀ L m ((I, oI) :: (C, oC) :: (D, lst ys) :: news) (G i)) E' { s with heap := h, toks := tk })
    (hfin : ∀ ys : List Value, ys.length = n → (∀ i y, ys[i]? = some y → G i y) → Fin ys news) :
    CompRest prog w A h₀ L m env elt x scope cl s S P Fin n 0 [] news := by
  have gen : ∀ k i ys, i + k = n → ys.length = i → (∀ j y, ys[j]? = some y → G j y) → CompRest prog w A h₀ L m env elt x scope cl s S P Fin k i ys news := by
    intro k
    induction k with
    | zero =>
      intro i ys hi hl hg
      exact CompRest.zero (hfin ys (by omega) hg)
    | succ k ih =>
      intro i ys hi hl hg
      refine CompRest.succ fun v I oI C oC D m₂ h tk E' hP hC hx F N off ne => ?_
      refine wpAny_mono (hstep i v ys I oI C oC D m₂ h tk E' (by omega) hP hC hx F N off ne) (fun y s' h' => ?_) fun _ _ x => x
      obtain ⟨hG, h', tk', rfl, F', N'⟩ := h'
      refine ⟨h', tk', news, rfl, F', N', off, hS, ih (i + 1) (ys ++ [y]) (by omega) (by simp [hl]) ?_⟩
      intro j z hz
      rcases Nat.lt_trichotomy j ys.length with q | q | q
      · rw [List.getElem?_append_left q] at hz; exact hg j z hz
      · subst q; simp at hz; subst hz; rw [hl]; exact hG
      · rw [List.getElem?_eq_none (by simp; omega)] at hz; cases hz
  exact gen n 0 [] (by omega) rfl (fun j y h => by simp at h)

theorem compT {ct elt : Expr} {x : Str} {scope : Scope} {cl : List (Str × Addr)} {S : List (Addr × Obj) → Prop} {P : Nat → Value → Prop} {Fin : List Value → List (Addr × Obj) → Prop} {n : Nat} {news : List (Addr × Obj)}
    (p : Nat → Bool) (G : Nat → Value) (hS : S news)
    (hstep : ∀ (i : Nat) (v : Value) (ys : List Value) (I : Addr) (oI : Obj) (C : Addr) (oC : Obj) (D : Addr) (m₂ : Str → Option Value) (h : Heap) (tk : Nat) (E' : Value → Shared → Prop), i < n → P i v → NsObj oC m₂ → m₂ x = some v → Fr h₀ L h m → News h₀ L h ((I, oI) :: (C, oC) :: (D, lst ys) :: news) → Off3 I C D news → ((@Ne Nat I C) ∧ (@Ne Nat I D) ∧ (@Ne Nat C D)) →
      wpAny (model prog w) A (isTrue ct (compEnvC scope cl C env) (eval ct (compEnvC scope cl C env))) (KeepQ s h₀ L m ((I, oI) :: (C, oC) :: (D, lst ys) :: news) (· = p i)) E' { s with heap := h, toks := tk })
    (helt : ∀ (i : Nat) (v : Value) (ys : List Value) (I : Addr) (oI : Obj) (C : Addr) (oC : Obj) (D : Addr) (m₂ : Str → Option Value) (h : Heap) (tk : Nat) (E' : Value → Shared → Prop), i < n → p i = true → P i v → NsObj oC m₂ → m₂ x = some v → Fr h₀ L h m → News h₀ L h ((I, oI) :: (C, oC) :: (D, lst ys) :: news) → Off3 I C D news → ((@Ne Nat I C) ∧ (@Ne Nat I D) ∧ (@Ne Nat C D)) →
      wpAny (model prog w) A (eval elt (compEnvC scope cl C env)) (KeepQ s h₀ L m ((I, oI) :: (C, oC) :: (D, lst ys) :: news) (· = G i)) E' { s with heap := h, toks := tk })
    (hfin : Fin (((List.range n).filter p).map G) news) :
    CompRestT prog w A h₀ L m env ct elt x scope cl s S P Fin n 0 [] news := by
  have gen : ∀ k i ys, i + k = n → ys = ((List.range i).filter p).map G → CompRestT prog w A h₀ L m env ct elt x scope cl s S P Fin k i ys news := by
    intro k
    induction k with
    | zero =>
      intro i ys hi hy
      obtain rfl : i = n := by omega
      subst hy
      exact CompRestT.zero hfin
    | succ k ih =>
      intro i ys hi hy
      refine CompRestT.succ fun v I oI C oC D m₂ h tk E' hP hC hx F N off ne => ?_
      refine wpAny_mono (hstep i v ys I oI C oC D m₂ h tk E' (by omega) hP hC hx F N off ne) (fun ok s' h' => ?_) fun _ _ x => x
      obtain ⟨rfl, h', tk', rfl, F', N'⟩ := h'
      cases hp : p i with
      | true =>
        simp only [if_true]
        refine wpAny_mono (helt i v ys I oI C oC D m₂ h' tk' E' (by omega) hp hP hC hx F' N' off ne) (fun y s' h' => ?_) fun _ _ x => x
        obtain ⟨rfl, h2, tk2, rfl, F2, N2⟩ := h'
        refine ⟨h2, tk2, news, rfl, F2, N2, off, hS, ih (i + 1) _ (by omega) ?_⟩
        rw [hy, List.range_succ, List.filter_append, List.map_append]; simp [hp]
      | false =>
        simp only [Bool.false_eq_true, if_false]
        refine ⟨h', tk', news, rfl, F', N', off, hS, ih (i + 1) _ (by omega) ?_⟩
        rw [hy, List.range_succ, List.filter_append, List.map_append]; simp [hp]
  exact gen n 0 [] (by omega) rfl

theorem range_filter_map {α : Type} (xs : List α) (q : α → Bool) (G : Nat → Value) (g : α → Value) (p : Nat → Bool) (hp : ∀ i x, xs[i]? = some x → p i = q x) (hg : ∀ i x, xs[i]? = some x → G i = g x) :
    ((List.range xs.length).filter p).map G = (xs.filter q).map g := by
  have gen : ∀ n, n ≤ xs.length → ((List.range n).filter p).map G = ((xs.take n).filter q).map g := by
    intro n
    induction n with
    | zero => intro _; rfl
    | succ n ih =>
      intro hn
      have hx : xs[n]? = some xs[n] := by simp [show n < xs.length by omega]
      rw [List.range_succ, List.filter_append, List.map_append, ih (by omega), List.take_add_one, hx, List.filter_append, List.map_append]
      congr 1
      simp only [List.filter_cons, List.filter_nil, Option.toList_some, hp n _ hx]
      cases q xs[n] <;> simp [hg n _ hx]
  have := gen xs.length (Nat.le_refl _)
  rwa [List.take_length] at this
end
end

/-! part MinMax -/
section
set_option maxRecDepth 100000
set_option maxHeartbeats 0
noncomputable def CmpOn (h₀ : Heap) (prog : Program) (w : World) (A : Around) (op : CmpOp) (P : Nat → Value → Prop) (bt : Nat → Nat → Bool) : Prop :=
  ∀ i j vi vj (s : Shared) (Q : Value → Shared → Prop) (E : Value → Shared → Prop), j < i → Kp h₀ s.heap → P i vi → P j vj → Q (.bool (bt i j)) s → wpAny (model prog w) A (richCompare op vi vj) Q E s
theorem argBest_le (bt : Nat → Nat → Bool) : ∀ k, argBest bt k ≤ k
  | 0 => Nat.le_refl _
  | k + 1 => by
    have := argBest_le bt k
    simp only [argBest]
    split <;> omega
theorem args_max2 (a b : Value) : argsOk "max" ⟨[a, b], []⟩ := by unfold argsOk; kernel_rfl
theorem args_min2 (a b : Value) : argsOk "min" ⟨[a, b], []⟩ := by unfold argsOk; kernel_rfl
section
variable {prog : Program} {w : World} {A : Around} {R : Result → Shared → Prop} {I : Addr} {fp wr : List Addr} {n : Nat} {P : Nat → Value → Prop} {St : Nat → Heap → Prop}

theorem max_loop (W : Walks prog w A.in1 I fp wr n P St) {h₀ : Heap} (hw : ∀ b ∈ wr, h₀.get? b = none) (bt : Nat → Nat → Bool) (hcmp : CmpOn h₀ prog w A.in1 .Gt P bt) (S : Addr) (hSf : S ∉ fp) (hS0 : h₀.get? S = none) :
    ∀ (k j : Nat) (s : Shared) (vb : Value) (c : Nat), n - (j + 1) = k → j + 1 ≤ n → Kp h₀ s.heap → St (j + 1) s.heap → P (argBest bt j) vb →
    s.heap.get? S = some { cls := .type "list", dict := none, data := .seq #[vb, vb] c, slots := #[] } →
    (∀ v h' tk, P (argBest bt (n - 1)) v → Kp h₀ h' → R (.ok (.ret v)) { s with heap := h', toks := tk }) →
    codeAny (model prog w) A (.builtin "max.loop" ⟨[.ref I, .none, .ref S], []⟩) R s := by
  have hSw : S ∉ wr := fun h => hSf (W.sub _ h)
  have hname : (toString "max" ++ toString ".loop" : String) = "max.loop" := by decide
  have keepW : ∀ h h' : Heap, Kp h₀ h → (∀ b o, b ∉ wr → h.get? b = some o → h'.get? b = some o) → Kp h₀ h' := fun h h' k1 k2 b o e => k2 b o (fun hb => by rw [hw b hb] at e; cases e) (k1 b o e)
  have keepS : ∀ (h : Heap) (f : Obj → Obj), Kp h₀ h → Kp h₀ (h.update S f) := fun h f k1 b o e => (Heap.get?_update_other _ _ (fun q : S = b => by rw [← q, hS0] at e; cases e)).trans (k1 b o e)
  intro k
  induction k with
  | zero =>
    intro j s vb c hk hj hk0 hst hPb hS hR
    have hin : j + 1 = n := by omega
    refine codeAny_builtin F.entry_max_loop ?_
    rw [Around.under_plainId F.plain_max_loop _]
    show wpAny _ A.in1 (seqItems? (.ref S) >>= _) _ _ s
    refine wpAny_bind (wpAny_seqItems hS rfl ?_)
    show wpAny _ A.in1 (tryCatch (pyNext (.ref I)) _ >>= _) _ _ s
    refine wpAny_bind (wpAny_tryCatch (W.done s _ _ (hin ▸ hst) fun h' tk hk' => ?_))
    have hS' := hk' S _ hSw hS
    show wpAny _ A.in1 (updateSeq S (fun _ => #[]) >>= _) _ _ _
    refine wpAny_bind ?_
    refine wpAny_updateSeq hS' rfl (wpAny_bind (wpAny_letGo (wpAny_pure ?_)))
    exact hR vb _ tk (by rw [← hin]; exact hPb) (keepS _ _ (keepW _ _ hk0 hk'))
  | succ k ih =>
    intro j s vb c hk hj hk0 hst hPb hS hR
    have hlt : j + 1 < n := by omega
    refine codeAny_builtin F.entry_max_loop ?_
    rw [Around.under_plainId F.plain_max_loop _]
    show wpAny _ A.in1 (seqItems? (.ref S) >>= _) _ _ s
    refine wpAny_bind (wpAny_seqItems hS rfl ?_)
    show wpAny _ A.in1 (tryCatch (pyNext (.ref I)) _ >>= _) _ _ s
    refine wpAny_bind (wpAny_tryCatch (W.item (j + 1) s _ _ hlt hst fun v h' tk hP hst' hk' => ?_))
    have hS' := hk' S _ hSw hS
    have hk1 : Kp h₀ h' := keepW _ _ hk0 hk'
    show wpAny _ A.in1 (tryCatch (holding [v, v] (richCompare .Gt v vb >>= _)) _ >>= _) _ _ _
    refine wpAny_bind (wpAny_tryCatch (wpAny_holding (wpAny_bind (hcmp (j + 1) (argBest bt j) v vb _ _ _ (Nat.lt_succ_of_le (argBest_le bt j)) hk1 hP hPb ?_))))
    refine wpAny_bind (wpAny_holding (wpAny_truthy_bool ?_))
    refine wpAny_bind (wpAny_letGo (wpAny_pure ?_))
    cases hb : bt (j + 1) (argBest bt j) with
    | true =>
      simp only [if_true]
      refine wpAny_bind ?_
      refine wpAny_updateSeq hS' rfl (wpAny_bind (wpAny_letGo ?_))
      rw [hname]
      refine wpAny_pure ⟨plainId_quiet F.plain_max_loop _, ih (j + 1) _ v _ (by omega) hlt (keepS _ _ hk1) (W.frame _ _ _ hst' fun b hbf o e => ?_) (by simp only [argBest, hb, if_true]; exact hP) (Heap.get?_update_self _ hS' rfl)
        fun v' h'' tk'' hP' hk'' => hR v' h'' tk'' hP' hk''⟩
      exact (Heap.get?_update_other _ _ (fun h : S = b => hSf (by rw [h]; exact hbf))).trans e
    | false =>
      simp only [Bool.false_eq_true, if_false]
      refine wpAny_bind (wpAny_letGo ?_)
      rw [hname]
      exact wpAny_pure ⟨plainId_quiet F.plain_max_loop _, ih (j + 1) _ vb c (by omega) hlt hk1 hst' (by simp only [argBest, hb, Bool.false_eq_true, if_false]; exact hPb) hS' fun v' h'' tk'' hP' hk'' => hR v' h'' tk'' hP' hk''⟩

theorem max_first (W : Walks prog w A.in1 I fp wr n P St) {h₀ : Heap} (hw : ∀ b ∈ wr, h₀.get? b = none) (bt : Nat → Nat → Bool) (hcmp : CmpOn h₀ prog w A.in1 .Gt P bt) (S : Addr) (hSf : S ∉ fp) (hS0 : h₀.get? S = none) (hn : 0 < n) {s : Shared} {c : Nat} (hk0 : Kp h₀ s.heap) (hst : St 0 s.heap)
    (hS : s.heap.get? S = some { cls := .type "list", dict := none, data := .seq #[] c, slots := #[] })
    (hR : ∀ v h' tk, P (argBest bt (n - 1)) v → Kp h₀ h' → R (.ok (.ret v)) { s with heap := h', toks := tk }) :
    codeAny (model prog w) A (.builtin "max.loop" ⟨[.ref I, .none, .ref S], []⟩) R s := by
  have hSw : S ∉ wr := fun h => hSf (W.sub _ h)
  have hname : (toString "max" ++ toString ".loop" : String) = "max.loop" := by decide
  refine codeAny_builtin F.entry_max_loop ?_
  rw [Around.under_plainId F.plain_max_loop _]
  show wpAny _ A.in1 (seqItems? (.ref S) >>= _) _ _ s
  refine wpAny_bind (wpAny_seqItems hS rfl ?_)
  show wpAny _ A.in1 (tryCatch (pyNext (.ref I)) _ >>= _) _ _ s
  refine wpAny_bind (wpAny_tryCatch (W.item 0 s _ _ hn hst fun v h' tk hP hst' hk' => ?_))
  have hS' := hk' S _ hSw hS
  have hk1 : Kp h₀ h' := fun b o e => hk' b o (fun hb => by rw [hw b hb] at e; cases e) (hk0 b o e)
  show wpAny _ A.in1 (updateSeq S (fun _ => #[v, v]) >>= _) _ _ _
  refine wpAny_bind ?_
  refine wpAny_updateSeq hS' rfl ?_
  rw [hname]
  refine wpAny_pure ⟨plainId_quiet F.plain_max_loop _, max_loop W hw bt hcmp S hSf hS0 _ 0 _ v _ rfl hn (fun b o e => (Heap.get?_update_other _ _ (fun q : S = b => by rw [← q, hS0] at e; cases e)).trans (hk1 b o e)) (W.frame _ _ _ hst' fun b hbf o e => ?_) hP (Heap.get?_update_self _ hS' rfl) fun v' h'' tk'' hP' hk'' => hR v' h'' tk'' hP' hk''⟩
  exact (Heap.get?_update_other _ _ (fun h : S = b => hSf (by rw [h]; exact hbf))).trans e

theorem call_max_list {E : Value → Shared → Prop} {s : Shared} {l : Addr} {vs : List Value} {Q : Value → Shared → Prop} (hh : A.handled = none) (hl : s.heap.IsList l vs.toArray) (hn : 0 < vs.length) (bt : Nat → Nat → Bool)
    (hcmp : ∀ i j vi vj (s' : Shared), j < i → Kp s.heap s'.heap → vs[i]? = some vi → vs[j]? = some vj → CmpAt .Gt A.in1 s' vi vj (bt i j))
    (hQ : ∀ v h' tk, vs[argBest bt (vs.length - 1)]? = some v → Kp s.heap h' → Q v { s with heap := h', toks := tk }) :
    wpAny (model prog w) A (call (.builtin "max") [.ref l]) Q E s := by
  have hname : (toString "max" ++ toString ".loop" : String) = "max.loop" := by decide
  refine call_function_tree F.kind_max F.plain_max F.entry_max (F.args_max1 _) ?_
  show wpAny _ A.in1 (Builtin.Builtins.bindParams "max" ["key", "default"] 0 ⟨[], []⟩ >>= _) _ _ s
  refine wpAny_bind (wpAny_of_eq (show Builtin.Builtins.bindParams "max" ["key", "default"] 0 ⟨[], []⟩ = pure [none, none] from rfl) ?_)
  refine wpAny_bind (wpAny_pure ?_)
  refine wpAny_bind (wpAny_pyIter_list hl ?_)
  refine wpAny_bind (wpAny_newObj_type ?_)
  rw [hname]
  have hlt : l < s.heap.objs.size := by obtain ⟨_, e, _⟩ := hl; exact Heap.lt_size e
  have k1 : Kp s.heap (s.heap.push { cls := .type "list_iterator", data := .fields #[.ref l, .int 0 0] }) := fun b o e => Heap.get?_push_of_some _ e
  have sz1 : (s.heap.push ({ cls := .type "list_iterator", data := .fields #[.ref l, .int 0 0] } : Obj)).objs.size = s.heap.objs.size + 1 := Heap.size_push ..
  have nn : ∀ a, s.heap.objs.size ≤ a → s.heap.get? a = none := fun a ha => by
    cases e : s.heap.get? a with
    | none => rfl
    | some o => exact absurd (Heap.lt_size e) (Nat.not_lt.mpr ha)
  have W := Walks.list (prog := prog) (w := w) (A := A.in1) hh s.heap.objs.size l (Nat.ne_of_lt hlt) vs.toArray
  rw [List.size_toArray] at W
  refine wpAny_pure ⟨plainId_quiet F.plain_max_loop _, max_first (h₀ := s.heap) W (fun b hb => by rw [List.mem_singleton.mp hb]; exact nn _ (Nat.le_refl _)) bt ?_ (s.heap.push ({ cls := .type "list_iterator", data := .fields #[.ref l, .int 0 0] } : Obj)).objs.size ?_ (nn _ (by rw [sz1]; exact Nat.le_succ _)) hn ?_ ?_ (Heap.get?_push_size _ rfl) ?_⟩
  · intro i j vi vj s' Q' E' hji hk hi hj hq
    exact hcmp i j vi vj s' hji hk (by simpa using hi) (by simpa using hj) prog w E' Q' hq
  · intro hm
    rw [sz1] at hm
    rcases List.mem_cons.mp hm with e | hm
    · exact absurd (show (s.heap.objs.size + 1 : Nat) = s.heap.objs.size from e) (by omega)
    · exact absurd (show (s.heap.objs.size + 1 : Nat) = l from List.mem_singleton.mp hm) (fun e => absurd hlt (by rw [← e]; exact Nat.not_lt.mpr (Nat.le_succ _)))
  · exact fun b o e => Heap.get?_push_of_some _ (k1 b o e)
  · exact ⟨⟨_, Heap.get?_push_of_some _ (Heap.get?_push_size _ rfl), rfl, rfl⟩, hl.at fun o e => Heap.get?_push_of_some _ (k1 l o e)⟩
  · intro v h' tk hP hk
    exact hQ v h' tk (by simpa using hP) hk

theorem call_max_pair {E : Value → Shared → Prop} {s : Shared} {a b : Value} {c : Bool} {Q : Value → Shared → Prop} (hh : A.handled = none)
    (hcmp : ∀ (s' : Shared), Kp s.heap s'.heap → CmpAt .Gt A.in1 s' b a c)
    (hQ : ∀ h' tk, Kp s.heap h' → Q (if c then b else a) { s with heap := h', toks := tk }) :
    wpAny (model prog w) A (call (.builtin "max") [a, b]) Q E s := by
  have hname : (toString "max" ++ toString ".loop" : String) = "max.loop" := by decide
  refine call_function_tree F.kind_max F.plain_max F.entry_max (args_max2 _ _) ?_
  show wpAny _ A.in1 (Builtin.Builtins.bindParams "max" ["key", "default"] 0 ⟨[], []⟩ >>= _) _ _ s
  refine wpAny_bind (wpAny_of_eq (show Builtin.Builtins.bindParams "max" ["key", "default"] 0 ⟨[], []⟩ = pure [none, none] from rfl) ?_)
  show wpAny _ A.in1 (newTuple [a, b] >>= _) _ _ s
  refine wpAny_bind (wpAny_newObj_type ?_)
  have hT : (s.heap.push { cls := .type "tuple", data := .seq #[a, b] }).IsTuple s.heap.objs.size #[a, b] := ⟨_, Heap.get?_push_size _ rfl, rfl, 0, rfl⟩
  refine wpAny_bind (wpAny_pyIter_tuple hT ?_)
  refine wpAny_bind (wpAny_newObj_type ?_)
  rw [hname]
  generalize hH1 : s.heap.push { cls := .type "tuple", data := .seq #[a, b] } = H1 at hT ⊢
  have sz1 : H1.objs.size = s.heap.objs.size + 1 := by rw [← hH1]; exact Heap.size_push ..
  have k1 : Kp s.heap H1 := fun b o e => by rw [← hH1]; exact Heap.get?_push_of_some _ e
  generalize hH2 : H1.push { cls := .type "tuple_iterator", data := .fields #[.ref s.heap.objs.size, .int 0 0] } = H2
  have sz2 : H2.objs.size = s.heap.objs.size + 2 := by rw [← hH2, Heap.size_push, sz1]
  have k2 : Kp H1 H2 := fun b o e => by rw [← hH2]; exact Heap.get?_push_of_some _ e
  have hI2 : H2.get? H1.objs.size = some { cls := .type "tuple_iterator", data := .fields #[.ref s.heap.objs.size, .int 0 0] } := by rw [← hH2]; exact Heap.get?_push_size _ rfl
  have nn : ∀ a, s.heap.objs.size ≤ a → s.heap.get? a = none := fun a ha => by
    cases e : s.heap.get? a with
    | none => rfl
    | some o => exact absurd (Heap.lt_size e) (Nat.not_lt.mpr ha)
  have W := Walks.tuple (prog := prog) (w := w) (A := A.in1) hh H1.objs.size s.heap.objs.size (show (s.heap.objs.size : Nat) ≠ H1.objs.size by omega) #[a, b]
  refine wpAny_pure ⟨plainId_quiet F.plain_max_loop _, max_first (h₀ := s.heap) (n := 2) W (fun b hb => by rw [List.mem_singleton.mp hb]; exact nn _ (by omega)) (fun i j => if i = 1 ∧ j = 0 then c else false) ?_ H2.objs.size ?_ (nn _ (by omega)) (by decide) ?_ ?_ (Heap.get?_push_size _ rfl) ?_⟩
  · intro i j vi vj s' Q' E' hji hk hi hj hq
    have hi2 : i < 2 := by
      rcases Nat.lt_or_ge i 2 with q | q
      · exact q
      · rw [Array.getElem?_eq_none (by simpa using q)] at hi; cases hi
    obtain rfl : i = 1 := by omega
    obtain rfl : j = 0 := by omega
    simp at hi hj
    subst hi; subst hj
    exact hcmp s' hk prog w E' Q' (by simpa using hq)
  · intro hm
    rcases List.mem_cons.mp hm with e | hm
    · exact absurd (show (H2.objs.size : Nat) = H1.objs.size from e) (by omega)
    · exact absurd (show (H2.objs.size : Nat) = s.heap.objs.size from List.mem_singleton.mp hm) (by omega)
  · exact fun b o e => Heap.get?_push_of_some _ (k2 b o (k1 b o e))
  · exact ⟨⟨_, Heap.get?_push_of_some _ hI2, rfl, rfl⟩, (hT.at fun o e => Heap.get?_push_of_some _ (k2 _ o e))⟩
  · intro v h' tk hP hk
    have hv : (if c then b else a) = v := by
      cases c <;> simpa [argBest] using hP
    rw [← hv]; exact hQ h' tk hk

theorem min_loop (W : Walks prog w A.in1 I fp wr n P St) {h₀ : Heap} (hw : ∀ b ∈ wr, h₀.get? b = none) (bt : Nat → Nat → Bool) (hcmp : CmpOn h₀ prog w A.in1 .Lt P bt) (S : Addr) (hSf : S ∉ fp) (hS0 : h₀.get? S = none) :
    ∀ (k j : Nat) (s : Shared) (vb : Value) (c : Nat), n - (j + 1) = k → j + 1 ≤ n → Kp h₀ s.heap → St (j + 1) s.heap → P (argBest bt j) vb →
    s.heap.get? S = some { cls := .type "list", dict := none, data := .seq #[vb, vb] c, slots := #[] } →
    (∀ v h' tk, P (argBest bt (n - 1)) v → Kp h₀ h' → R (.ok (.ret v)) { s with heap := h', toks := tk }) →
    codeAny (model prog w) A (.builtin "min.loop" ⟨[.ref I, .none, .ref S], []⟩) R s := by
  have hSw : S ∉ wr := fun h => hSf (W.sub _ h)
  have hname : (toString "min" ++ toString ".loop" : String) = "min.loop" := by decide
  have keepW : ∀ h h' : Heap, Kp h₀ h → (∀ b o, b ∉ wr → h.get? b = some o → h'.get? b = some o) → Kp h₀ h' := fun h h' k1 k2 b o e => k2 b o (fun hb => by rw [hw b hb] at e; cases e) (k1 b o e)
  have keepS : ∀ (h : Heap) (f : Obj → Obj), Kp h₀ h → Kp h₀ (h.update S f) := fun h f k1 b o e => (Heap.get?_update_other _ _ (fun q : S = b => by rw [← q, hS0] at e; cases e)).trans (k1 b o e)
  intro k
  induction k with
  | zero =>
    intro j s vb c hk hj hk0 hst hPb hS hR
    have hin : j + 1 = n := by omega
    refine codeAny_builtin F.entry_min_loop ?_
    rw [Around.under_plainId F.plain_min_loop _]
    show wpAny _ A.in1 (seqItems? (.ref S) >>= _) _ _ s
    refine wpAny_bind (wpAny_seqItems hS rfl ?_)
    show wpAny _ A.in1 (tryCatch (pyNext (.ref I)) _ >>= _) _ _ s
    refine wpAny_bind (wpAny_tryCatch (W.done s _ _ (hin ▸ hst) fun h' tk hk' => ?_))
    have hS' := hk' S _ hSw hS
    show wpAny _ A.in1 (updateSeq S (fun _ => #[]) >>= _) _ _ _
    refine wpAny_bind ?_
    refine wpAny_updateSeq hS' rfl (wpAny_bind (wpAny_letGo (wpAny_pure ?_)))
    exact hR vb _ tk (by rw [← hin]; exact hPb) (keepS _ _ (keepW _ _ hk0 hk'))
  | succ k ih =>
    intro j s vb c hk hj hk0 hst hPb hS hR
    have hlt : j + 1 < n := by omega
    refine codeAny_builtin F.entry_min_loop ?_
    rw [Around.under_plainId F.plain_min_loop _]
    show wpAny _ A.in1 (seqItems? (.ref S) >>= _) _ _ s
    refine wpAny_bind (wpAny_seqItems hS rfl ?_)
    show wpAny _ A.in1 (tryCatch (pyNext (.ref I)) _ >>= _) _ _ s
    refine wpAny_bind (wpAny_tryCatch (W.item (j + 1) s _ _ hlt hst fun v h' tk hP hst' hk' => ?_))
    have hS' := hk' S _ hSw hS
    have hk1 : Kp h₀ h' := keepW _ _ hk0 hk'
    show wpAny _ A.in1 (tryCatch (holding [v, v] (richCompare .Lt v vb >>= _)) _ >>= _) _ _ _
    refine wpAny_bind (wpAny_tryCatch (wpAny_holding (wpAny_bind (hcmp (j + 1) (argBest bt j) v vb _ _ _ (Nat.lt_succ_of_le (argBest_le bt j)) hk1 hP hPb ?_))))
    refine wpAny_bind (wpAny_holding (wpAny_truthy_bool ?_))
    refine wpAny_bind (wpAny_letGo (wpAny_pure ?_))
    cases hb : bt (j + 1) (argBest bt j) with
    | true =>
      simp only [if_true]
      refine wpAny_bind ?_
      refine wpAny_updateSeq hS' rfl (wpAny_bind (wpAny_letGo ?_))
      rw [hname]
      refine wpAny_pure ⟨plainId_quiet F.plain_min_loop _, ih (j + 1) _ v _ (by omega) hlt (keepS _ _ hk1) (W.frame _ _ _ hst' fun b hbf o e => ?_) (by simp only [argBest, hb, if_true]; exact hP) (Heap.get?_update_self _ hS' rfl)
        fun v' h'' tk'' hP' hk'' => hR v' h'' tk'' hP' hk''⟩
      exact (Heap.get?_update_other _ _ (fun h : S = b => hSf (by rw [h]; exact hbf))).trans e
    | false =>
      simp only [Bool.false_eq_true, if_false]
      refine wpAny_bind (wpAny_letGo ?_)
      rw [hname]
      exact wpAny_pure ⟨plainId_quiet F.plain_min_loop _, ih (j + 1) _ vb c (by omega) hlt hk1 hst' (by simp only [argBest, hb, Bool.false_eq_true, if_false]; exact hPb) hS' fun v' h'' tk'' hP' hk'' => hR v' h'' tk'' hP' hk''⟩

theorem min_first (W : Walks prog w A.in1 I fp wr n P St) {h₀ : Heap} (hw : ∀ b ∈ wr, h₀.get? b = none) (bt : Nat → Nat → Bool) (hcmp : CmpOn h₀ prog w A.in1 .Lt P bt) (S : Addr) (hSf : S ∉ fp) (hS0 : h₀.get? S = none) (hn : 0 < n) {s : Shared} {c : Nat} (hk0 : Kp h₀ s.heap) (hst : St 0 s.heap)
    (hS : s.heap.get? S = some { cls := .type "list", dict := none, data := .seq #[] c, slots := #[] })
    (hR : ∀ v h' tk, P (argBest bt (n - 1)) v → Kp h₀ h' → R (.ok (.ret v)) { s with heap := h', toks := tk }) :
    codeAny (model prog w) A (.builtin "min.loop" ⟨[.ref I, .none, .ref S], []⟩) R s := by
  have hSw : S ∉ wr := fun h => hSf (W.sub _ h)
  have hname : (toString "min" ++ toString ".loop" : String) = "min.loop" := by decide
  refine codeAny_builtin F.entry_min_loop ?_
  rw [Around.under_plainId F.plain_min_loop _]
  show wpAny _ A.in1 (seqItems? (.ref S) >>= _) _ _ s
  refine wpAny_bind (wpAny_seqItems hS rfl ?_)
  show wpAny _ A.in1 (tryCatch (pyNext (.ref I)) _ >>= _) _ _ s
  refine wpAny_bind (wpAny_tryCatch (W.item 0 s _ _ hn hst fun v h' tk hP hst' hk' => ?_))
  have hS' := hk' S _ hSw hS
  have hk1 : Kp h₀ h' := fun b o e => hk' b o (fun hb => by rw [hw b hb] at e; cases e) (hk0 b o e)
  show wpAny _ A.in1 (updateSeq S (fun _ => #[v, v]) >>= _) _ _ _
  refine wpAny_bind ?_
  refine wpAny_updateSeq hS' rfl ?_
  rw [hname]
  refine wpAny_pure ⟨plainId_quiet F.plain_min_loop _, min_loop W hw bt hcmp S hSf hS0 _ 0 _ v _ rfl hn (fun b o e => (Heap.get?_update_other _ _ (fun q : S = b => by rw [← q, hS0] at e; cases e)).trans (hk1 b o e)) (W.frame _ _ _ hst' fun b hbf o e => ?_) hP (Heap.get?_update_self _ hS' rfl) fun v' h'' tk'' hP' hk'' => hR v' h'' tk'' hP' hk''⟩
  exact (Heap.get?_update_other _ _ (fun h : S = b => hSf (by rw [h]; exact hbf))).trans e

theorem call_min_list {E : Value → Shared → Prop} {s : Shared} {l : Addr} {vs : List Value} {Q : Value → Shared → Prop} (hh : A.handled = none) (hl : s.heap.IsList l vs.toArray) (hn : 0 < vs.length) (bt : Nat → Nat → Bool)
    (hcmp : ∀ i j vi vj (s' : Shared), j < i → Kp s.heap s'.heap → vs[i]? = some vi → vs[j]? = some vj → CmpAt .Lt A.in1 s' vi vj (bt i j))
    (hQ : ∀ v h' tk, vs[argBest bt (vs.length - 1)]? = some v → Kp s.heap h' → Q v { s with heap := h', toks := tk }) :
    wpAny (model prog w) A (call (.builtin "min") [.ref l]) Q E s := by
  have hname : (toString "min" ++ toString ".loop" : String) = "min.loop" := by decide
  refine call_function_tree F.kind_min F.plain_min F.entry_min (F.args_min1 _) ?_
  show wpAny _ A.in1 (Builtin.Builtins.bindParams "min" ["key", "default"] 0 ⟨[], []⟩ >>= _) _ _ s
  refine wpAny_bind (wpAny_of_eq (show Builtin.Builtins.bindParams "min" ["key", "default"] 0 ⟨[], []⟩ = pure [none, none] from rfl) ?_)
  refine wpAny_bind (wpAny_pure ?_)
  refine wpAny_bind (wpAny_pyIter_list hl ?_)
  refine wpAny_bind (wpAny_newObj_type ?_)
  rw [hname]
  have hlt : l < s.heap.objs.size := by obtain ⟨_, e, _⟩ := hl; exact Heap.lt_size e
  have k1 : Kp s.heap (s.heap.push { cls := .type "list_iterator", data := .fields #[.ref l, .int 0 0] }) := fun b o e => Heap.get?_push_of_some _ e
  have sz1 : (s.heap.push ({ cls := .type "list_iterator", data := .fields #[.ref l, .int 0 0] } : Obj)).objs.size = s.heap.objs.size + 1 := Heap.size_push ..
  have nn : ∀ a, s.heap.objs.size ≤ a → s.heap.get? a = none := fun a ha => by
    cases e : s.heap.get? a with
    | none => rfl
    | some o => exact absurd (Heap.lt_size e) (Nat.not_lt.mpr ha)
  have W := Walks.list (prog := prog) (w := w) (A := A.in1) hh s.heap.objs.size l (Nat.ne_of_lt hlt) vs.toArray
  rw [List.size_toArray] at W
  refine wpAny_pure ⟨plainId_quiet F.plain_min_loop _, min_first (h₀ := s.heap) W (fun b hb => by rw [List.mem_singleton.mp hb]; exact nn _ (Nat.le_refl _)) bt ?_ (s.heap.push ({ cls := .type "list_iterator", data := .fields #[.ref l, .int 0 0] } : Obj)).objs.size ?_ (nn _ (by rw [sz1]; exact Nat.le_succ _)) hn ?_ ?_ (Heap.get?_push_size _ rfl) ?_⟩
  · intro i j vi vj s' Q' E' hji hk hi hj hq
    exact hcmp i j vi vj s' hji hk (by simpa using hi) (by simpa using hj) prog w E' Q' hq
  · intro hm
    rw [sz1] at hm
    rcases List.mem_cons.mp hm with e | hm
    · exact absurd (show (s.heap.objs.size + 1 : Nat) = s.heap.objs.size from e) (by omega)
    · exact absurd (show (s.heap.objs.size + 1 : Nat) = l from List.mem_singleton.mp hm) (fun e => absurd hlt (by rw [← e]; exact Nat.not_lt.mpr (Nat.le_succ _)))
  · exact fun b o e => Heap.get?_push_of_some _ (k1 b o e)
  · exact ⟨⟨_, Heap.get?_push_of_some _ (Heap.get?_push_size _ rfl), rfl, rfl⟩, hl.at fun o e => Heap.get?_push_of_some _ (k1 l o e)⟩
  · intro v h' tk hP hk
    exact hQ v h' tk (by simpa using hP) hk

theorem call_min_pair {E : Value → Shared → Prop} {s : Shared} {a b : Value} {c : Bool} {Q : Value → Shared → Prop} (hh : A.handled = none)
    (hcmp : ∀ (s' : Shared), Kp s.heap s'.heap → CmpAt .Lt A.in1 s' b a c)
    (hQ : ∀ h' tk, Kp s.heap h' → Q (if c then b else a) { s with heap := h', toks := tk }) :
    wpAny (model prog w) A (call (.builtin "min") [a, b]) Q E s := by
  have hname : (toString "min" ++ toString ".loop" : String) = "min.loop" := by decide
  refine call_function_tree F.kind_min F.plain_min F.entry_min (args_min2 _ _) ?_
  show wpAny _ A.in1 (Builtin.Builtins.bindParams "min" ["key", "default"] 0 ⟨[], []⟩ >>= _) _ _ s
  refine wpAny_bind (wpAny_of_eq (show Builtin.Builtins.bindParams "min" ["key", "default"] 0 ⟨[], []⟩ = pure [none, none] from rfl) ?_)
  show wpAny _ A.in1 (newTuple [a, b] >>= _) _ _ s
  refine wpAny_bind (wpAny_newObj_type ?_)
  have hT : (s.heap.push { cls := .type "tuple", data := .seq #[a, b] }).IsTuple s.heap.objs.size #[a, b] := ⟨_, Heap.get?_push_size _ rfl, rfl, 0, rfl⟩
  refine wpAny_bind (wpAny_pyIter_tuple hT ?_)
  refine wpAny_bind (wpAny_newObj_type ?_)
  rw [hname]
  generalize hH1 : s.heap.push { cls := .type "tuple", data := .seq #[a, b] } = H1 at hT ⊢
  have sz1 : H1.objs.size = s.heap.objs.size + 1 := by rw [← hH1]; exact Heap.size_push ..
  have k1 : Kp s.heap H1 := fun b o e => by rw [← hH1]; exact Heap.get?_push_of_some _ e
  generalize hH2 : H1.push { cls := .type "tuple_iterator", data := .fields #[.ref s.heap.objs.size, .int 0 0] } = H2
  have sz2 : H2.objs.size = s.heap.objs.size + 2 := by rw [← hH2, Heap.size_push, sz1]
  have k2 : Kp H1 H2 := fun b o e => by rw [← hH2]; exact Heap.get?_push_of_some _ e
  have hI2 : H2.get? H1.objs.size = some { cls := .type "tuple_iterator", data := .fields #[.ref s.heap.objs.size, .int 0 0] } := by rw [← hH2]; exact Heap.get?_push_size _ rfl
  have nn : ∀ a, s.heap.objs.size ≤ a → s.heap.get? a = none := fun a ha => by
    cases e : s.heap.get? a with
    | none => rfl
    | some o => exact absurd (Heap.lt_size e) (Nat.not_lt.mpr ha)
  have W := Walks.tuple (prog := prog) (w := w) (A := A.in1) hh H1.objs.size s.heap.objs.size (show (s.heap.objs.size : Nat) ≠ H1.objs.size by omega) #[a, b]
  refine wpAny_pure ⟨plainId_quiet F.plain_min_loop _, min_first (h₀ := s.heap) (n := 2) W (fun b hb => by rw [List.mem_singleton.mp hb]; exact nn _ (by omega)) (fun i j => if i = 1 ∧ j = 0 then c else false) ?_ H2.objs.size ?_ (nn _ (by omega)) (by decide) ?_ ?_ (Heap.get?_push_size _ rfl) ?_⟩
  · intro i j vi vj s' Q' E' hji hk hi hj hq
    have hi2 : i < 2 := by
      rcases Nat.lt_or_ge i 2 with q | q
      · exact q
      · rw [Array.getElem?_eq_none (by simpa using q)] at hi; cases hi
    obtain rfl : i = 1 := by omega
    obtain rfl : j = 0 := by omega
    simp at hi hj
    subst hi; subst hj
    exact hcmp s' hk prog w E' Q' (by simpa using hq)
  · intro hm
    rcases List.mem_cons.mp hm with e | hm
    · exact absurd (show (H2.objs.size : Nat) = H1.objs.size from e) (by omega)
    · exact absurd (show (H2.objs.size : Nat) = s.heap.objs.size from List.mem_singleton.mp hm) (by omega)
  · exact fun b o e => Heap.get?_push_of_some _ (k2 b o (k1 b o e))
  · exact ⟨⟨_, Heap.get?_push_of_some _ hI2, rfl, rfl⟩, (hT.at fun o e => Heap.get?_push_of_some _ (k2 _ o e))⟩
  · intro v h' tk hP hk
    have hv : (if c then b else a) = v := by
      cases c <;> simpa [argBest] using hP
    rw [← hv]; exact hQ h' tk hk

end
end

/-! part KeyRules -/
section
set_option maxRecDepth 100000
set_option maxHeartbeats 0
open PySem.SeqAt
noncomputable def rnk (xs : List (Value × Nat)) (i : Nat) : Nat := (xs.map (·.2)).getD i 0
theorem rnk_at {xs : List (Value × Nat)} {i : Nat} {v : Value} (h : (xs.map (·.1))[i]? = some v) : ∃ x, xs[i]? = some x ∧ x.1 = v ∧ rnk xs i = x.2 := by
  rw [List.getElem?_map] at h
  obtain ⟨x, hx, rfl⟩ := Option.map_eq_some_iff.mp h
  exact ⟨x, hx, rfl, by simp [rnk, List.getD_eq_getElem?_getD, hx]⟩
theorem best_max (r : Nat → Nat) : ∀ k j, j ≤ k → r j ≤ r (argBest (fun i j => decide (r i > r j)) k)
  | 0, j, h => by obtain rfl : j = 0 := by omega
                  exact Nat.le_refl _
  | k + 1, j, h => by
    have ih := best_max r k
    simp only [argBest]
    by_cases c : r (k + 1) > r (argBest (fun i j => decide (r i > r j)) k)
    · rw [if_pos (by simpa using c)]
      rcases Nat.lt_or_ge j (k + 1) with q | q
      · have := ih j (by omega); omega
      · obtain rfl : j = k + 1 := by omega
        exact Nat.le_refl _
    · rw [if_neg (by simpa using c)]
      rcases Nat.lt_or_ge j (k + 1) with q | q
      · exact ih j (by omega)
      · obtain rfl : j = k + 1 := by omega
        omega
theorem best_min (r : Nat → Nat) : ∀ k j, j ≤ k → r (argBest (fun i j => decide (r i < r j)) k) ≤ r j
  | 0, j, h => by obtain rfl : j = 0 := by omega
                  exact Nat.le_refl _
  | k + 1, j, h => by
    have ih := best_min r k
    simp only [argBest]
    by_cases c : r (k + 1) < r (argBest (fun i j => decide (r i < r j)) k)
    · rw [if_pos (by simpa using c)]
      rcases Nat.lt_or_ge j (k + 1) with q | q
      · have := ih j (by omega); omega
      · obtain rfl : j = k + 1 := by omega
        exact Nat.le_refl _
    · rw [if_neg (by simpa using c)]
      rcases Nat.lt_or_ge j (k + 1) with q | q
      · exact ih j (by omega)
      · obtain rfl : j = k + 1 := by omega
        omega
section
variable {prog : Program} {w : World} {A : Around} {E : Value → Shared → Prop} {s : Shared} {Q : Value → Shared → Prop} {kd : Nat} {l : Addr} {xs : List (Value × Nat)}
theorem max_keys (hh : A.handled = none) (hl : s.heap.IsList l (xs.map (·.1)).toArray) (hk : ∀ x ∈ xs, KeyAt kd s.heap x.1 x.2) (hne : 0 < xs.length) (hu : A.units + 2 < cLine)
    (hQ : ∀ x h' tk', x ∈ xs → (∀ y ∈ xs, y.2 ≤ x.2) → Kp s.heap h' → Q x.1 { s with heap := h', toks := tk' }) : wpAny (model prog w) A (call (.builtin "max") [.ref l]) Q E s := by
  refine call_max_list hh hl (by simpa using hne) (fun i j => decide (rnk xs i > rnk xs j)) ?_ ?_
  · intro i j vi vj s' _ hk' hi hj
    obtain ⟨x, hx, rfl, rx⟩ := rnk_at hi
    obtain ⟨y, hy, rfl, ry⟩ := rnk_at hj
    rw [rx, ry]
    exact key_cmp (op := .Gt) (.inr (.inr rfl)) ((hk x (List.mem_of_getElem? hx)).keeps hk') ((hk y (List.mem_of_getElem? hy)).keeps hk') (by show A.units + 1 < cLine; omega)
  · intro v h' tk hv hk'
    obtain ⟨x, hx, rfl, rx⟩ := rnk_at hv
    refine hQ x h' tk (List.mem_of_getElem? hx) (fun y hy => ?_) hk'
    obtain ⟨j, hj, rfl⟩ := List.getElem_of_mem hy
    have := best_max (rnk xs) ((xs.map (·.1)).length - 1) j (by simp; omega)
    rw [rx] at this
    simpa [rnk, List.getD_eq_getElem?_getD, hj] using this
theorem min_keys (hh : A.handled = none) (hl : s.heap.IsList l (xs.map (·.1)).toArray) (hk : ∀ x ∈ xs, KeyAt kd s.heap x.1 x.2) (hne : 0 < xs.length) (hu : A.units + 2 < cLine)
    (hQ : ∀ x h' tk', x ∈ xs → (∀ y ∈ xs, x.2 ≤ y.2) → Kp s.heap h' → Q x.1 { s with heap := h', toks := tk' }) : wpAny (model prog w) A (call (.builtin "min") [.ref l]) Q E s := by
  refine call_min_list hh hl (by simpa using hne) (fun i j => decide (rnk xs i < rnk xs j)) ?_ ?_
  · intro i j vi vj s' _ hk' hi hj
    obtain ⟨x, hx, rfl, rx⟩ := rnk_at hi
    obtain ⟨y, hy, rfl, ry⟩ := rnk_at hj
    rw [rx, ry]
    exact key_cmp (op := .Lt) (.inl rfl) ((hk x (List.mem_of_getElem? hx)).keeps hk') ((hk y (List.mem_of_getElem? hy)).keeps hk') (by show A.units + 1 < cLine; omega)
  · intro v h' tk hv hk'
    obtain ⟨x, hx, rfl, rx⟩ := rnk_at hv
    refine hQ x h' tk (List.mem_of_getElem? hx) (fun y hy => ?_) hk'
    obtain ⟨j, hj, rfl⟩ := List.getElem_of_mem hy
    have := best_min (rnk xs) ((xs.map (·.1)).length - 1) j (by simp; omega)
    rw [rx] at this
    simpa [rnk, List.getD_eq_getElem?_getD, hj] using this
theorem max_pair {a b : Value} {n m : Nat} (hh : A.handled = none) (ha : KeyAt kd s.heap a n) (hb : KeyAt kd s.heap b m) (hu : A.units + 2 < cLine)
    (hQ : ∀ h' tk', Kp s.heap h' → Q (if m > n then b else a) { s with heap := h', toks := tk' }) : wpAny (model prog w) A (call (.builtin "max") [a, b]) Q E s := by
  refine call_max_pair (c := decide (m > n)) hh (fun s' hk' => key_cmp (op := .Gt) (.inr (.inr rfl)) (hb.keeps hk') (ha.keeps hk') (by show A.units + 1 < cLine; omega)) fun h' tk hk' => ?_
  have := hQ h' tk hk'
  by_cases c : m > n <;> simpa [c] using this
theorem min_pair {a b : Value} {n m : Nat} (hh : A.handled = none) (ha : KeyAt kd s.heap a n) (hb : KeyAt kd s.heap b m) (hu : A.units + 2 < cLine)
    (hQ : ∀ h' tk', Kp s.heap h' → Q (if m < n then b else a) { s with heap := h', toks := tk' }) : wpAny (model prog w) A (call (.builtin "min") [a, b]) Q E s := by
  refine call_min_pair (c := decide (m < n)) hh (fun s' hk' => key_cmp (op := .Lt) (.inl rfl) (hb.keeps hk') (ha.keeps hk') (by show A.units + 1 < cLine; omega)) fun h' tk hk' => ?_
  have := hQ h' tk hk'
  by_cases c : m < n <;> simpa [c] using this
theorem index_keys {v : Value} {n i : Nat} (hl : s.heap.PlainList l (xs.map (·.1)).toArray) (hk : ∀ x ∈ xs, KeyAt kd s.heap x.1 x.2) (hnd : (xs.map (·.2)).Nodup) (hi : xs[i]? = some (v, n)) (hlen : xs.length ≤ 100) (hu : A.units + 2 < cLine)
    (h : Q (.int i s.toks) { s with toks := s.toks + 1 }) : wpAny (model prog w) A (call (.builtin "list.index") [.ref l, v]) Q E s := by
  obtain ⟨k, hl⟩ := hl
  have hlt : i < xs.length := by rcases List.getElem?_eq_some_iff.mp hi with ⟨h, _⟩; exact h
  have hxi : xs[i] = (v, n) := by rcases List.getElem?_eq_some_iff.mp hi with ⟨_, h⟩; exact h
  have hv : KeyAt kd s.heap v n := hk (v, n) (List.mem_of_getElem? hi)
  refine call_meets F.slot_list_index ⟨_, hl, rfl⟩ F.entry_list_index (F.args_list_index_2 _ _) (list_indexAt l _ k none #[] v (isN kd s.heap n) i (by simpa using hlt) (by omega) ?_ ?_) ⟨hl, key_eqs hk hv (by omega), h⟩
  · simp only [List.getElem_toArray, List.getElem_map, hxi]
    rw [isN_eq hv]; simp
  · intro j hj hji
    have hj' : j < xs.length := by simpa using hj
    simp only [List.getElem_toArray, List.getElem_map]
    rw [isN_eq (hk xs[j] (List.getElem_mem hj'))]
    refine decide_eq_false fun e => ?_
    have h1 : (xs.map (·.2))[j]'(by simpa using hj') = (xs.map (·.2))[i]'(by simpa using hlt) := by simp [e, hxi]
    exact (List.pairwise_iff_getElem.mp hnd j i _ _ hji) h1
theorem getm_list {name : Str} {id : String} {its : Array Value} {pl : Sem Bool} {Q : Value × List Value → Shared → Prop} (hl : s.heap.PlainList l its) (slot : Slot "list" name id) (hty : typeOf (.builtin id) = pure (.type "method_descriptor"))
    (h : Q (.builtin id, [.ref l]) s) : wpAny (model prog w) A (getMethod (.ref l) name pl) Q E s := by
  obtain ⟨k, e⟩ := hl
  exact getMethod_builtin ⟨_, e, rfl⟩ PySem.F.plainAttrs_list slot hty (fun a e' => by cases e'; exact ⟨_, e, rfl⟩) h
theorem pick_upto {α : Type} (xs : List α) (f : α → Value) (i : Nat) : kms_pick (xs.map f) none (some (i : Int)) = (xs.take i).map f := by
  unfold kms_pick kms_lo kms_hi
  simp only [show ¬ ((i : Int) < 0) by omega, if_false, List.drop_zero, Nat.sub_zero, Int.toNat_natCast]
  rw [kmk_take_min, List.map_take]
theorem pick_from {α : Type} (xs : List α) (f : α → Value) (i : Nat) : kms_pick (xs.map f) (some (i : Int)) none = (xs.drop i).map f := by
  unfold kms_pick kms_lo kms_hi
  simp only [show ¬ ((i : Int) < 0) by omega, if_false, Int.toNat_natCast]
  rw [kmk_drop_min, List.map_drop, List.take_of_length_le]
  simp only [List.length_drop, List.length_map]
  omega
end
end

/-! part C7 -/
section
set_option maxRecDepth 100000
set_option maxHeartbeats 0
section
variable {w : World} {A : Around} {s : Shared} {p : Program} {loose : List Str} {mean : ExcName → Option Value} {mg mb : Str → Option Value} {Q E : Value → Shared → Prop}
variable {h₀ : Heap} {L : Addr} {m : Str → Option Value} {news : List (Addr × Obj)} {kd : Nat}
theorem cmp_b {op : CmpOp} {b : Bool} {v v' : Value} {n n' : Nat} (hb : cmpN op n n' = b) (hop : op = .Lt ∨ op = .LtE ∨ op = .Gt) (F : Fr h₀ L s.heap m) (hk : KeyAt kd h₀ v n) (hk' : KeyAt kd h₀ v' n') (hu : A.units < cLine) (h : Q (.bool b) s) :
    wpAny (model PySem.Challenge.rw_pd0044_01.row.prog w) A (compareOp op v v') Q E s := by
  subst hb; exact cmp_step hop (hk.keeps F.keep) (hk'.keeps F.keep) hu h
theorem min_b {a b : Value} {n n' : Nat} (hh : A.handled = none) (F : Fr h₀ L s.heap m) (ha : KeyAt kd h₀ a n) (hb : KeyAt kd h₀ b n') (hu : A.units + 2 < cLine)
    (hQ : ∀ v h' tk', KeyAt kd h₀ v (min n n') → Kp s.heap h' → Q v { s with heap := h', toks := tk' }) : wpAny (model PySem.Challenge.rw_pd0044_01.row.prog w) A (call (.builtin "min") [a, b]) Q E s := by
  refine min_pair hh (ha.keeps F.keep) (hb.keeps F.keep) hu fun h' tk' hk => hQ _ h' tk' ?_ hk
  by_cases c : n' < n
  · rw [if_pos c, Nat.min_eq_right (by omega)]; exact hb
  · rw [if_neg c, Nat.min_eq_left (by omega)]; exact ha
theorem max_b {a b : Value} {n n' : Nat} (hh : A.handled = none) (F : Fr h₀ L s.heap m) (ha : KeyAt kd h₀ a n) (hb : KeyAt kd h₀ b n') (hu : A.units + 2 < cLine)
    (hQ : ∀ v h' tk', KeyAt kd h₀ v (max n n') → Kp s.heap h' → Q v { s with heap := h', toks := tk' }) : wpAny (model PySem.Challenge.rw_pd0044_01.row.prog w) A (call (.builtin "max") [a, b]) Q E s := by
  refine max_pair hh (ha.keeps F.keep) (hb.keeps F.keep) hu fun h' tk' hk => hQ _ h' tk' ?_ hk
  by_cases c : n' > n
  · rw [if_pos c, Nat.max_eq_right (by omega)]; exact hb
  · rw [if_neg c, Nat.max_eq_left (by omega)]; exact ha
theorem item_at {value slice : Expr} {l : Addr} {o : Obj} {vs : List Value} {k : Int} {c : Nat} {u : Tok} {v : Value} (N : News h₀ L s.heap news) (hm : (l, o) ∈ news) (ho : o = W.listOf vs.toArray c) (h0 : 0 ≤ k) (hhi : k < 2 ^ 63) (hx : vs[k.toNat]? = some v) (h : Q v s)
    (hs : subscripted slice false (.ref l) (.int k u) = operate [.ref l, .int k u] (getItem (.ref l) (.int k u)) := by with_unfolding_all rfl) :
    wpAny (model PySem.Challenge.rw_pd0044_01.row.prog w) A (subscriptTail value slice (.ref l) (.int k u)) Q E s := by
  subst ho
  have hl : s.heap.IsList l vs.toArray := ⟨_, (N _ hm).1, rfl, c, rfl⟩
  exact tail_any hl.typeIs slot_list_getitem.lookup (wpAny_getItem_list hl h0 hhi (by simpa using hx) h) hs
theorem earliest_c {a : Addr} {cp : List (Value × Nat)} {v v' : Value} {n n' : Nat} (X : (hd.heap_39 w.params).In s.heap) (T : Top p loose mean mg mb s.heap) (hh : A.handled = none) (hdep : A.depth + 8 < recursionLimit) (huni : A.units + 60 < cLine) (hl : s.heap.PlainList a (cp.map (·.1)).toArray) (hk : ∀ x ∈ cp, KeyAt kd s.heap x.1 x.2) (hn : cp.length ≤ 7) (hv : KeyAt kd s.heap v n) (hv' : KeyAt kd s.heap v' n')
  {x : Value × Nat} (hx : (cp.filter (fun y => decide (min n n' ≤ y.2 ∧ y.2 ≤ max n n')))[0]? = some x)
  (hret : ∀ h' tk', Kp s.heap h' → Q x.1 { s with heap := h', toks := tk' }) : wpAny (model PySem.Challenge.rw_pd0044_01.row.prog w) A (call (.ref 163) [.ref a, v, v']) Q E s := by
  k_with_none
  (k_with "ne" => (refine neN ?_; (try dsimp only); (first | with_reducible assumption | with_reducible exact Ne.symm (by assumption) | (refine' ne_lt ?z1 ?z2; (case z1 => with_reducible assumption); (case z2 => k_mem)) | (refine' ne_lt' ?z3 ?z4; (case z3 => with_reducible assumption); (case z4 => k_mem)) | (refine' ne_o ?z5 ?z6; (case z5 => with_reducible assumption); (case z6 => k_mem)) | (refine' ne_o' ?z7 ?z8; (case z7 => with_reducible assumption); (case z8 => k_mem)) | omega)))
  (k_with "all" => (first | with_reducible assumption | with_reducible exact all_lt (by assumption) | exact List.forall_mem_nil _ | (refine' List.forall_mem_cons.mpr ⟨?za, ?zb⟩; (case za => k_ne); (case zb => k_all))))
  (k_with "CompRest" => (with_unfolding_all first | (refine LCg.CompRest.succ ?_; intro v' I' oI' C' oC' D' m' h' tk' E' hv' hC' hx' F' N' off' ne'; (first | lcg_open hv' | (obtain ⟨t9', hv9'⟩ := hv'; subst hv9')); (have offI' := off3_I off'); (have offC' := off3_C off'); (have offD' := off3_D off'); clear off') | refine LCg.CompRest.zero ?_))
  (k_with "FinE" => ((unfold LCg.FinE); intro D' h' tk' F' N' o1'; (replace o1' := off1_D o1'); (try simp only [List.nil_append, List.cons_append] at N'); (try dsimp only)))
  (k_with "FinA" => ((unfold LCg.FinA); intro D' h' tk' F' N' o1'; (replace o1' := off1_D o1'); (try simp only [List.nil_append, List.cons_append] at N'); (try dsimp only)))
  (k_with "CompSrcT" => refine Stop.mk ?_)
  (k_with "CompSrc" => refine Stop.mk ?_)
  (k_with "call builtin:min" => (k_here; k_dflt (refine' min_b ?w16kh ?w16kF ?w16ka ?w16kb ?w16ku ?_; (case w16kh => rfl); (case w16kF => k_asm); (case w16ka => assumption); (case w16kb => assumption); (case w16ku => ((try simp only [depth_deeper, units_deeper, Around.in1_units, Around.in1_depth]); (try dsimp only); omega)); k_whole; intro vm' h' tk' hvm' kp'; ((have F' := Fr.keeps (by k_asm) kp'); (have N' := News.grown (by k_asm) kp'); clear kp'; (try k_sweep)))))
  (k_with "call builtin:max" => (k_here; k_dflt (refine' max_b ?w17kh ?w17kF ?w17ka ?w17kb ?w17ku ?_; (case w17kh => rfl); (case w17kF => k_asm); (case w17ka => assumption); (case w17kb => assumption); (case w17ku => ((try simp only [depth_deeper, units_deeper, Around.in1_units, Around.in1_depth]); (try dsimp only); omega)); k_whole; intro vm' h' tk' hvm' kp'; ((have F' := Fr.keeps (by k_asm) kp'); (have N' := News.grown (by k_asm) kp'); clear kp'; (try k_sweep)))))
  (k_with "compareOp LtE" => (k_here; k_dflt (refine' cmp_b ?w18kb ?w18kp ?w18kF ?w18k1 ?w18k2 ?w18k3 ?_; (case w18kp => simp); (case w18kF => k_asm); (case w18k1 => assumption); (case w18k2 => assumption); (case w18k3 => ((try simp only [depth_deeper, units_deeper, Around.in1_units, Around.in1_depth]); (try dsimp only); omega)); (case w18kb => assumption); k_whole)))
  (k_with "subscriptTail" => (k_here; (with_reducible show wpAny _ _ (subscriptTail _ _ (Value.ref _) (Value.int _ _)) _ _ _); k_dflt (refine' item_at ?w19kN ?w19km ?w19ko ?w19k0 ?w19k1 ?w19kx ?_; (case w19kN => k_asm); (case w19km => k_mem); (case w19ko => exact rfl); (case w19k0 => decide); (case w19k1 => decide); (case w19kx => assumption); k_whole)))
  ((have hrow : (hd.heap_39, PySem.Challenge.rw_pd0044_01) = (hd.heap_39, PySem.Challenge.rw_pd0044_01) := rfl); revert hrow; k_fill; intro hrow; clear hrow; (obtain ⟨ahd, adp, afr, agd, aun⟩ := A; (have hh9 : ahd = none := hh); subst hh9; clear hh; (try dsimp only at hdep huni)))
  (refine' enterC X T ?k6 ?k7 ?k8 ?k9 ?kB ?kD ?_ ?c2 ?c3 ?c4; (case k6 => k_is); (case k7 => k_is); (case k8 => ((try dsimp only); omega)); (case k9 => exact BindsTo.of_eq rfl); (case kB => exact kindsX rfl); (case kD => decide +kernel); (case c2 => exact rfl); (case c3 => exact rfl); (case c4 => exact rfl))
  intro L' h' tk' cells' F' N' Y'
  k_cells Y'
  (try simp only [List.cons_append, List.nil_append] at N')
  (try dsimp only)
  w_strict (k_steps; unfold Stop)
  have hsz : (cp.map (·.1)).toArray.size ≤ sizeLine := by rw [sizeLine_eq]; simp; omega
  refine LCt.CompSrcT.base rfl F' N' hl.isList hsz ?_
  intro g
  refine compT (fun i => decide (min n n' ≤ rnk cp i ∧ rnk cp i ≤ max n n')) (fun i => (cp.map (·.1)).getD i .none) (.inl hl.isList) ?_ ?_ ?_
  · intro i v₁ ys I oI C oC D m₂ h tk E2 hi hP hC hmx F2 N2 off ne
    obtain ⟨y, hy, rfl, hr⟩ := rnk_at (xs := cp) (v := v₁) (i := i) (by simpa using hP)
    have hky : KeyAt kd s.heap y.1 y.2 := hk y (List.mem_of_getElem? hy)
    rw [hr]
    clear hret
    by_cases c1 : min n n' ≤ y.2
    · have e1 : cmpN .LtE (min n n') y.2 = true := by simp [cmpN]; omega
      by_cases c2 : y.2 ≤ max n n'
      · have e2 : cmpN .LtE y.2 (max n n') = true := by simp [cmpN]; omega
        rw [decide_eq_true (And.intro c1 c2)]
        w_strict (k_steps; all_goals exact ⟨(by first | rfl | assumption), _, _, rfl, by assumption, by first | assumption | exact cb_drop (by assumption) (by kcj_all)⟩)
      · have e2 : cmpN .LtE y.2 (max n n') = false := by simp [cmpN]; omega
        rw [decide_eq_false (fun h => c2 h.2)]
        w_strict (k_steps; all_goals exact ⟨(by first | rfl | assumption), _, _, rfl, by assumption, by first | assumption | exact cb_drop (by assumption) (by kcj_all)⟩)
    · have e1 : cmpN .LtE (min n n') y.2 = false := by simp [cmpN]; omega
      rw [decide_eq_false (fun h => c1 h.1)]
      w_strict (k_steps; all_goals exact ⟨(by first | rfl | assumption), _, _, rfl, by assumption, by first | assumption | exact cb_drop (by assumption) (by kcj_all)⟩)
  · intro i v₁ ys I oI C oC D m₂ h tk E2 hi hp hP hC hmx F2 N2 off ne
    have hg9 : v₁ = (cp.map (·.1)).getD i .none := by
      have : (cp.map (·.1))[i]? = some v₁ := by simpa using hP
      rw [List.getD_eq_getElem?_getD, this]; rfl
    clear hret
    w_strict (k_steps; all_goals exact ⟨(by first | rfl | assumption), _, _, rfl, by assumption, by first | assumption | exact cb_drop (by assumption) (by kcj_all)⟩)
  · rw [List.size_toArray, List.length_map, range_filter_map cp (fun y => decide (min n n' ≤ y.2 ∧ y.2 ≤ max n n')) _ (·.1) _ ?_ ?_]
    · intro D h tk F2 N2 off
      have hx0 : ((cp.filter (fun y => decide (min n n' ≤ y.2 ∧ y.2 ≤ max n n'))).map (·.1))[(0 : Int).toNat]? = some x.1 := by
        show ((cp.filter (fun y => decide (min n n' ≤ y.2 ∧ y.2 ≤ max n n'))).map (·.1))[0]? = some x.1
        rw [List.getElem?_map, hx]; rfl
      w_strict (k_steps; all_goals exact hret _ _ (Fr.keep (by assumption)))
    · intro i x hx; simp [rnk, List.getD_eq_getElem?_getD, hx]
    · intro i x hx; simp [List.getD_eq_getElem?_getD, hx]
end
end

/-! part C8 -/
section
set_option maxRecDepth 100000
set_option maxHeartbeats 0
noncomputable def adj (bs : List Nat) (n r : Nat) : Bool := decide ((r < n ∧ ∀ t ∈ bs, t < n → t ≤ r) ∨ (n < r ∧ ∀ t ∈ bs, n < t → r ≤ t))
theorem adj_A {bs : List Nat} {n x y r : Nat} (hx : x ∈ bs) (hxn : x < n) (hxm : ∀ t ∈ bs, t < n → t ≤ x) (hy : y ∈ bs) (hyn : n < y) (hym : ∀ t ∈ bs, n < t → y ≤ t) (hr : r ∈ bs) : decide (r = x ∨ r = y) = adj bs n r := by
  unfold adj
  rw [decide_eq_decide]
  constructor
  · rintro (rfl | rfl)
    · exact .inl ⟨hxn, hxm⟩
    · exact .inr ⟨hyn, hym⟩
  · rintro (⟨h1, h2⟩ | ⟨h1, h2⟩)
    · have := h2 x hx hxn; have := hxm r hr h1; left; omega
    · have := h2 y hy hyn; have := hym r hr h1; right; omega
theorem adj_B {bs : List Nat} {n x r : Nat} (hx : x ∈ bs) (hxn : x < n) (hxm : ∀ t ∈ bs, t < n → t ≤ x) (hno : ∀ t ∈ bs, ¬ n < t) (hr : r ∈ bs) : decide (r = x) = adj bs n r := by
  unfold adj
  rw [decide_eq_decide]
  constructor
  · rintro rfl; exact .inl ⟨hxn, hxm⟩
  · rintro (⟨h1, h2⟩ | ⟨h1, h2⟩)
    · have := h2 x hx hxn; have := hxm r hr h1; omega
    · exact absurd h1 (hno r hr)
theorem adj_C {bs : List Nat} {n y r : Nat} (hy : y ∈ bs) (hyn : n < y) (hym : ∀ t ∈ bs, n < t → y ≤ t) (hno : ∀ t ∈ bs, ¬ t < n) (hr : r ∈ bs) : decide (r = y) = adj bs n r := by
  unfold adj
  rw [decide_eq_decide]
  constructor
  · rintro rfl; exact .inr ⟨hyn, hym⟩
  · rintro (⟨h1, h2⟩ | ⟨h1, h2⟩)
    · exact absurd h1 (hno r hr)
    · have := h2 y hy hyn; have := hym r hr h1; omega
theorem adjP_A {bp : List (Value × Nat)} {n : Nat} {x y z : Value × Nat} (hx : x ∈ bp.filter (fun y => decide (y.2 < n))) (hxm : ∀ t ∈ bp.filter (fun y => decide (y.2 < n)), t.2 ≤ x.2) (hy : y ∈ bp.filter (fun y => decide (y.2 > n))) (hym : ∀ t ∈ bp.filter (fun y => decide (y.2 > n)), y.2 ≤ t.2) (hz : z ∈ bp) :
    decide (z.2 = x.2 ∨ z.2 = y.2) = adj (bp.map (·.2)) n z.2 := by
  have hx' := List.mem_filter.mp hx
  have hy' := List.mem_filter.mp hy
  refine adj_A (List.mem_map_of_mem hx'.1) (of_decide_eq_true hx'.2) ?_ (List.mem_map_of_mem hy'.1) (of_decide_eq_true hy'.2) ?_ (List.mem_map_of_mem hz)
  · intro t ht htn
    obtain ⟨u, hu, rfl⟩ := List.mem_map.mp ht
    exact hxm u (List.mem_filter.mpr ⟨hu, decide_eq_true htn⟩)
  · intro t ht htn
    obtain ⟨u, hu, rfl⟩ := List.mem_map.mp ht
    exact hym u (List.mem_filter.mpr ⟨hu, decide_eq_true htn⟩)
theorem adjP_B {bp : List (Value × Nat)} {n : Nat} {x z : Value × Nat} (hx : x ∈ bp.filter (fun y => decide (y.2 < n))) (hxm : ∀ t ∈ bp.filter (fun y => decide (y.2 < n)), t.2 ≤ x.2) (hno : ¬ 0 < ((bp.filter (fun y => decide (y.2 > n))).map (·.1)).length) (hz : z ∈ bp) :
    decide (z.2 = x.2) = adj (bp.map (·.2)) n z.2 := by
  have hx' := List.mem_filter.mp hx
  refine adj_B (List.mem_map_of_mem hx'.1) (of_decide_eq_true hx'.2) ?_ ?_ (List.mem_map_of_mem hz)
  · intro t ht htn
    obtain ⟨u, hu, rfl⟩ := List.mem_map.mp ht
    exact hxm u (List.mem_filter.mpr ⟨hu, decide_eq_true htn⟩)
  · intro t ht htn
    obtain ⟨u, hu, rfl⟩ := List.mem_map.mp ht
    exact hno (List.length_pos_of_mem (List.mem_map_of_mem (List.mem_filter.mpr ⟨hu, decide_eq_true htn⟩)))
theorem adjP_C {bp : List (Value × Nat)} {n : Nat} {y z : Value × Nat} (hy : y ∈ bp.filter (fun y => decide (y.2 > n))) (hym : ∀ t ∈ bp.filter (fun y => decide (y.2 > n)), y.2 ≤ t.2) (hno : ¬ 0 < ((bp.filter (fun y => decide (y.2 < n))).map (·.1)).length) (hz : z ∈ bp) :
    decide (z.2 = y.2) = adj (bp.map (·.2)) n z.2 := by
  have hy' := List.mem_filter.mp hy
  refine adj_C (List.mem_map_of_mem hy'.1) (of_decide_eq_true hy'.2) ?_ ?_ (List.mem_map_of_mem hz)
  · intro t ht htn
    obtain ⟨u, hu, rfl⟩ := List.mem_map.mp ht
    exact hym u (List.mem_filter.mpr ⟨hu, decide_eq_true htn⟩)
  · intro t ht htn
    obtain ⟨u, hu, rfl⟩ := List.mem_map.mp ht
    exact hno (List.length_pos_of_mem (List.mem_map_of_mem (List.mem_filter.mpr ⟨hu, decide_eq_true htn⟩)))
section
variable {w : World} {A : Around} {s : Shared} {p : Program} {loose : List Str} {mean : ExcName → Option Value} {mg mb : Str → Option Value} {Q E : Value → Shared → Prop}
variable {h₀ : Heap} {L : Addr} {m : Str → Option Value} {news : List (Addr × Obj)} {kd : Nat}
theorem index_b {l : Addr} {xs : List (Value × Nat)} {v : Value} {n i : Nat} (F : Fr h₀ L s.heap m) (hl : h₀.PlainList l (xs.map (·.1)).toArray) (hk : ∀ x ∈ xs, KeyAt kd h₀ x.1 x.2) (hnd : (xs.map (·.2)).Nodup) (hi : xs[i]? = some (v, n)) (hlen : xs.length ≤ 7) (hu : A.units + 2 < cLine)
    (h : Q (.int i s.toks) { s with toks := s.toks + 1 }) : wpAny (model PySem.Challenge.rw_pd0044_01.row.prog w) A (call (.builtin "list.index") [.ref l, v]) Q E s :=
  index_keys (hl.at fun o e => F.keep _ o e) (fun x hx => (hk x hx).keeps F.keep) hnd hi (by omega) hu h
theorem truth_b {l : Addr} {o : Obj} {vs : List Value} {c : Nat} {b : Bool} {Q : Bool → Shared → Prop} (N : News h₀ L s.heap news) (hm : (l, o) ∈ news) (ho : o = W.listOf vs.toArray c) (hb : decide (0 < vs.length) = b) (hlen : vs.length ≤ 7) (h : Q b { s with toks := s.toks + 1 + 1 }) : wpAny (model PySem.Challenge.rw_pd0044_01.row.prog w) A (truthy (.ref l)) Q E s := by
  subst ho; subst hb
  refine wpAny_truthy_list (items := vs.toArray) ⟨_, (N _ hm).1, rfl, c, rfl⟩ (by simp; omega) ?_
  have : (!vs.toArray.isEmpty) = decide (0 < vs.length) := by cases vs <;> simp
  rw [this]; exact h
theorem max_l {l : Addr} {o : Obj} {xs : List (Value × Nat)} {c : Nat} (hh : A.handled = none) (F : Fr h₀ L s.heap m) (N : News h₀ L s.heap news) (hm : (l, o) ∈ news) (ho : o = W.listOf (xs.map (·.1)).toArray c) (hk : ∀ x ∈ xs, KeyAt kd h₀ x.1 x.2) (hne : decide (0 < (xs.map (·.1)).length) = true) (hu : A.units + 2 < cLine)
    (hQ : ∀ x h' tk', x ∈ xs → (∀ y ∈ xs, y.2 ≤ x.2) → KeyAt kd h₀ x.1 x.2 → Kp s.heap h' → Q x.1 { s with heap := h', toks := tk' }) : wpAny (model PySem.Challenge.rw_pd0044_01.row.prog w) A (call (.builtin "max") [.ref l]) Q E s := by
  subst ho
  exact max_keys hh ⟨_, (N _ hm).1, rfl, c, rfl⟩ (fun x hx => (hk x hx).keeps F.keep) (by simpa using hne) hu (fun x h' tk' h1 h2 h3 => hQ x h' tk' h1 h2 (hk x h1) h3)
theorem min_l {l : Addr} {o : Obj} {xs : List (Value × Nat)} {c : Nat} (hh : A.handled = none) (F : Fr h₀ L s.heap m) (N : News h₀ L s.heap news) (hm : (l, o) ∈ news) (ho : o = W.listOf (xs.map (·.1)).toArray c) (hk : ∀ x ∈ xs, KeyAt kd h₀ x.1 x.2) (hne : decide (0 < (xs.map (·.1)).length) = true) (hu : A.units + 2 < cLine)
    (hQ : ∀ x h' tk', x ∈ xs → (∀ y ∈ xs, x.2 ≤ y.2) → KeyAt kd h₀ x.1 x.2 → Kp s.heap h' → Q x.1 { s with heap := h', toks := tk' }) : wpAny (model PySem.Challenge.rw_pd0044_01.row.prog w) A (call (.builtin "min") [.ref l]) Q E s := by
  subst ho
  exact min_keys hh ⟨_, (N _ hm).1, rfl, c, rfl⟩ (fun x hx => (hk x hx).keeps F.keep) (by simpa using hne) hu (fun x h' tk' h1 h2 h3 => hQ x h' tk' h1 h2 (hk x h1) h3)
theorem in_two {l : Addr} {o : Obj} {x y v : Value} {nx ny n c : Nat} {b : Bool} (F : Fr h₀ L s.heap m) (N : News h₀ L s.heap news) (hm : (l, o) ∈ news) (ho : o = W.listOf [x, y].toArray c) (hx : KeyAt kd h₀ x nx) (hy : KeyAt kd h₀ y ny) (hv : KeyAt kd h₀ v n) (hb : decide (n = nx ∨ n = ny) = b) (hu : A.units + 1 < cLine)
    (h : Q (.bool b) s) : wpAny (model PySem.Challenge.rw_pd0044_01.row.prog w) A (compareOp .In v (.ref l)) Q E s := by
  subst ho; subst hb
  refine in_step (kd := kd) (xs := [(x, nx), (y, ny)]) (n := n) ⟨_, (N _ hm).1, rfl, c, rfl⟩ ?_ (hv.keeps F.keep) hu ?_
  · intro z hz
    rcases List.mem_cons.mp hz with rfl | hz
    · exact hx.keeps F.keep
    · rw [List.mem_singleton.mp hz]; exact hy.keeps F.keep
  · simpa using h
theorem in_one {l : Addr} {o : Obj} {x v : Value} {nx n c : Nat} {b : Bool} (F : Fr h₀ L s.heap m) (N : News h₀ L s.heap news) (hm : (l, o) ∈ news) (ho : o = W.listOf [x].toArray c) (hx : KeyAt kd h₀ x nx) (hv : KeyAt kd h₀ v n) (hb : decide (n = nx) = b) (hu : A.units + 1 < cLine)
    (h : Q (.bool b) s) : wpAny (model PySem.Challenge.rw_pd0044_01.row.prog w) A (compareOp .In v (.ref l)) Q E s := by
  subst ho; subst hb
  refine in_step (kd := kd) (xs := [(x, nx)]) (n := n) ⟨_, (N _ hm).1, rfl, c, rfl⟩ ?_ (hv.keeps F.keep) hu ?_
  · intro z hz
    rw [List.mem_singleton.mp hz]; exact hx.keeps F.keep
  · simpa using h
theorem item_last {value slice : Expr} {l : Addr} {o : Obj} {vs : List Value} {c : Nat} {u : Tok} {v : Value} (N : News h₀ L s.heap news) (hm : (l, o) ∈ news) (ho : o = W.listOf vs.toArray c) (hx : vs.getLast? = some v) (h : Q v s)
    (hs : subscripted slice false (.ref l) (.int (-1) u) = operate [.ref l, .int (-1) u] (getItem (.ref l) (.int (-1) u)) := by with_unfolding_all rfl) :
    wpAny (model PySem.Challenge.rw_pd0044_01.row.prog w) A (subscriptTail value slice (.ref l) (.int (-1) u)) Q E s := by
  subst ho
  have hl : s.heap.IsList l vs.toArray := ⟨_, (N _ hm).1, rfl, c, rfl⟩
  have hne : vs ≠ [] := by rintro rfl; simp at hx
  have hlen : 0 < vs.length := by cases vs with | nil => exact absurd rfl hne | cons => simp
  refine tail_any hl.typeIs slot_list_getitem.lookup (wpAny_getItem_list_neg hl (by decide) (by simp; omega) (by decide) ?_ h) hs
  rw [List.getLast?_eq_getElem?] at hx
  have e : ((-1 : Int) + (vs.toArray.size : Int)).toNat = vs.length - 1 := by simp; omega
  rw [e]; simpa using hx
theorem over_c {a : Addr} {cp : List (Value × Nat)} {v : Value} {n i : Nat} (X : (hd.heap_39 w.params).In s.heap) (T : Top p loose mean mg mb s.heap) (hh : A.handled = none) (hdep : A.depth + 8 < recursionLimit) (huni : A.units + 60 < cLine) (hl : s.heap.PlainList a (cp.map (·.1)).toArray) (hk : ∀ x ∈ cp, KeyAt kd s.heap x.1 x.2) (hn : cp.length ≤ 7) (hnd : (cp.map (·.2)).Nodup) (hi : cp[i]? = some (v, n)) (hi1 : 1 ≤ i)
  {z : Value × Nat} (hz : ((cp.take i).filter (fun x => adj ((cp.take i).map (·.2)) n x.2)).getLast? = some z)
  (hret : ∀ h' tk', Kp s.heap h' → Q z.1 { s with heap := h', toks := tk' }) : wpAny (model PySem.Challenge.rw_pd0044_01.row.prog w) A (call (.ref 158) [.ref a, v]) Q E s := by
  k_with_none
  (k_with "ne" => (refine neN ?_; (try dsimp only); (first | with_reducible assumption | with_reducible exact Ne.symm (by assumption) | (refine' ne_lt ?z1 ?z2; (case z1 => with_reducible assumption); (case z2 => k_mem)) | (refine' ne_lt' ?z3 ?z4; (case z3 => with_reducible assumption); (case z4 => k_mem)) | (refine' ne_o ?z5 ?z6; (case z5 => with_reducible assumption); (case z6 => k_mem)) | (refine' ne_o' ?z7 ?z8; (case z7 => with_reducible assumption); (case z8 => k_mem)) | omega)))
  (k_with "all" => (first | with_reducible assumption | with_reducible exact all_lt (by assumption) | exact List.forall_mem_nil _ | (refine' List.forall_mem_cons.mpr ⟨?za, ?zb⟩; (case za => k_ne); (case zb => k_all))))
  (k_with "CompRest" => (with_unfolding_all first | (refine LCg.CompRest.succ ?_; intro v' I' oI' C' oC' D' m' h' tk' E' hv' hC' hx' F' N' off' ne'; (first | lcg_open hv' | (obtain ⟨t9', hv9'⟩ := hv'; subst hv9')); (have offI' := off3_I off'); (have offC' := off3_C off'); (have offD' := off3_D off'); clear off') | refine LCg.CompRest.zero ?_))
  (k_with "FinE" => ((unfold LCg.FinE); intro D' h' tk' F' N' o1'; (replace o1' := off1_D o1'); (try simp only [List.nil_append, List.cons_append] at N'); (try dsimp only)))
  (k_with "FinA" => ((unfold LCg.FinA); intro D' h' tk' F' N' o1'; (replace o1' := off1_D o1'); (try simp only [List.nil_append, List.cons_append] at N'); (try dsimp only)))
  (k_with "CompSrcT" => refine Stop.mk ?_)
  (k_with "CompSrc" => refine Stop.mk ?_)
  (k_with "truthy ref" => (k_here; k_dflt (refine' truth_b ?w20kN ?w20km ?w20ko ?w20kb ?w20kz ?_; (case w20kN => k_asm); (case w20km => k_mem); (case w20ko => exact rfl); (case w20kb => assumption); (case w20kz => assumption); k_whole)))
  (k_with "call builtin:max" => (k_here; k_dflt (refine' max_l ?w21kh ?w21kF ?w21kN ?w21km ?w21ko ?w21kk ?w21kb ?w21ku ?_; (case w21kh => rfl); (case w21kF => k_asm); (case w21kN => k_asm); (case w21km => k_mem); (case w21ko => exact rfl); (case w21kk => assumption); (case w21kb => assumption); (case w21ku => ((try simp only [depth_deeper, units_deeper, Around.in1_units, Around.in1_depth]); (try dsimp only); omega)); k_whole; intro xm' h' tk' hx1' hx2' hx3' kp'; ((have F' := Fr.keeps (by k_asm) kp'); (have N' := News.grown (by k_asm) kp'); clear kp'; (try k_sweep)))))
  (k_with "call builtin:min" => (k_here; k_dflt (refine' min_l ?w22kh ?w22kF ?w22kN ?w22km ?w22ko ?w22kk ?w22kb ?w22ku ?_; (case w22kh => rfl); (case w22kF => k_asm); (case w22kN => k_asm); (case w22km => k_mem); (case w22ko => exact rfl); (case w22kk => assumption); (case w22kb => assumption); (case w22ku => ((try simp only [depth_deeper, units_deeper, Around.in1_units, Around.in1_depth]); (try dsimp only); omega)); k_whole; intro ym' h' tk' hy1' hy2' hy3' kp'; ((have F' := Fr.keeps (by k_asm) kp'); (have N' := News.grown (by k_asm) kp'); clear kp'; (try k_sweep)))))
  (k_with "compareOp In" => (k_here; k_dflt (first | (refine' in_two ?w23kF ?w23kN ?w23km ?w23ko ?w23kx ?w23ky ?w23kv ?w23kb ?w23ku ?_; (case w23kF => k_asm); (case w23kN => k_asm); (case w23km => k_mem); (case w23ko => exact rfl); (case w23kx => assumption); (case w23ky => assumption); (case w23kv => assumption); (case w23kb => assumption); (case w23ku => ((try simp only [depth_deeper, units_deeper, Around.in1_units, Around.in1_depth]); (try dsimp only); omega)); k_whole) | (refine' in_one ?w23kF ?w23kN ?w23km ?w23ko ?w23kx ?w23kv ?w23kb ?w23ku ?_; (case w23kF => k_asm); (case w23kN => k_asm); (case w23km => k_mem); (case w23ko => exact rfl); (case w23kx => assumption); (case w23kv => assumption); (case w23kb => assumption); (case w23ku => ((try simp only [depth_deeper, units_deeper, Around.in1_units, Around.in1_depth]); (try dsimp only); omega)); k_whole))))
  (k_with "subscriptTail" => (k_here; (with_reducible show wpAny _ _ (subscriptTail _ _ (Value.ref _) (Value.int _ _)) _ _ _); k_dflt (refine' item_last ?w24kN ?w24km ?w24ko ?w24kx ?_; (case w24kN => k_asm); (case w24km => k_mem); (case w24ko => exact rfl); (case w24kx => assumption); k_whole)))
  (k_with "getMethod ref" => (k_here; (with_reducible show wpAny _ _ (getMethod (Value.ref _) (PySem.Str.ofString "index") _) _ _ _); k_dflt (refine' getm_list ?w25kl PySem.F.slot_list_index PySem.F.type_list_index ?_; (case w25kl => exact Heap.PlainList.at (by assumption) (fun o e => Fr.keep (by k_asm) _ o e)))))
  (k_with "call builtin:list.index" => (k_here; k_dflt (refine' index_b ?w26kF ?w26kl ?w26kk ?w26kn ?w26ki ?w26kz ?w26ku ?_; (case w26kF => k_asm); (case w26kl => assumption); (case w26kk => assumption); (case w26kn => assumption); (case w26ki => assumption); (case w26kz => assumption); (case w26ku => ((try simp only [depth_deeper, units_deeper, Around.in1_units, Around.in1_depth]); (try dsimp only); omega)); k_whole)))
  (k_with "subscriptTail Name Slice ref ref" => (k_here; k_dflt (refine' kms_slice_lit ?w27F ?w27N ?w27l ?w27p ?w27q ?w27e ?_ ?w27s ?w27t ?w27z; (case w27F => k_asm); (case w27N => k_asm); (case w27l => exact stays_list (Fr.keep (by k_asm)) (Heap.PlainList.isList (by assumption))); (case w27p => kmk_part); (case w27q => kmk_part); (case w27e => exact pick_upto _ _ _); (case w27s => with_unfolding_all rfl); (case w27t => kmk_pure); (case w27z => assumption)); intro D' h' F' N' l1; (try k_lt l1); (try k_sweep)))
  (k_with "compareOp Gt" => (k_here; k_dflt (refine' cmp_b ?w28kb ?w28kp ?w28kF ?w28k1 ?w28k2 ?w28k3 ?_; (case w28kp => simp); (case w28kF => k_asm); (case w28k1 => assumption); (case w28k2 => assumption); (case w28k3 => ((try simp only [depth_deeper, units_deeper, Around.in1_units, Around.in1_depth]); (try dsimp only); omega)); (case w28kb => exact rfl); k_whole)))
  (k_with "compareOp Lt" => (k_here; k_dflt (refine' cmp_b ?w29kb ?w29kp ?w29kF ?w29k1 ?w29k2 ?w29k3 ?_; (case w29kp => simp); (case w29kF => k_asm); (case w29k1 => assumption); (case w29k2 => assumption); (case w29k3 => ((try simp only [depth_deeper, units_deeper, Around.in1_units, Around.in1_depth]); (try dsimp only); omega)); (case w29kb => exact rfl); k_whole)))
  ((have hrow : (hd.heap_39, PySem.Challenge.rw_pd0044_01) = (hd.heap_39, PySem.Challenge.rw_pd0044_01) := rfl); revert hrow; k_fill; intro hrow; clear hrow; (obtain ⟨ahd, adp, afr, agd, aun⟩ := A; (have hh9 : ahd = none := hh); subst hh9; clear hh; (try dsimp only at hdep huni)))
  (refine' enterC X T ?k6 ?k7 ?k8 ?k9 ?kB ?kD ?_ ?c2 ?c3 ?c4; (case k6 => k_is); (case k7 => k_is); (case k8 => ((try dsimp only); omega)); (case k9 => exact BindsTo.of_eq rfl); (case kB => exact kindsX rfl); (case kD => decide +kernel); (case c2 => exact rfl); (case c3 => exact rfl); (case c4 => exact rfl))
  intro L' h' tk' cells' F' N' Y'
  k_cells Y'
  (try simp only [List.cons_append, List.nil_append] at N')
  (try dsimp only)
  have hsz0 : (cp.map (·.1)).toArray.size ≤ sizeLine := by rw [sizeLine_eq]; simp; omega
  have hsz1 : ((cp.take i).map (·.1)).toArray.size ≤ sizeLine := by rw [sizeLine_eq]; simp; omega
  have hkv : KeyAt kd s.heap v n := hk (v, n) (List.mem_of_getElem? hi)
  have hkb : ∀ x ∈ cp.take i, KeyAt kd s.heap x.1 x.2 := fun x hx => hk x (List.mem_of_mem_take hx)
  w_strict (k_steps; unfold Stop)
  refine LCt.CompSrcT.ledger rfl (by assumption) (by assumption) (by k_mem) hsz1 ?_
  intro g
  refine compT (fun j => decide (rnk (cp.take i) j < n)) (fun j => ((cp.take i).map (·.1)).getD j .none) (Or.inr ⟨_, by k_mem, rfl, _, rfl⟩) ?_ ?_ ?_
  · intro j v₁ ys I oI C oC D m₂ h tk E2 hj hP hC hmx F2 N2 off ne
    obtain ⟨y, hy, rfl, hr⟩ := rnk_at (xs := cp.take i) (v := v₁) (i := j) (by simpa using hP)
    have hky : KeyAt kd s.heap y.1 y.2 := hkb y (List.mem_of_getElem? hy)
    rw [hr]; clear hret
    w_strict (k_steps; all_goals exact ⟨(by first | rfl | assumption), _, _, rfl, by assumption, by first | assumption | exact cb_drop (by assumption) (by kcj_all)⟩)
  · intro j v₁ ys I oI C oC D m₂ h tk E2 hj hp hP hC hmx F2 N2 off ne
    have hg9 : v₁ = ((cp.take i).map (·.1)).getD j .none := by
      have : ((cp.take i).map (·.1))[j]? = some v₁ := by simpa using hP
      rw [List.getD_eq_getElem?_getD, this]; rfl
    clear hret
    w_strict (k_steps; all_goals exact ⟨(by first | rfl | assumption), _, _, rfl, by assumption, by first | assumption | exact cb_drop (by assumption) (by kcj_all)⟩)
  rw [List.size_toArray, List.length_map, range_filter_map (cp.take i) (fun y => decide (y.2 < n)) _ (·.1) _ (fun j x hx => by simp [rnk, List.getD_eq_getElem?_getD, ← List.map_take, hx]) (fun j x hx => by simp [List.getD_eq_getElem?_getD, ← List.map_take, hx])]
  intro D1 h1 tk1 F1 N1 off1
  (have hall := off1_D off1); simp only [LCg.Off1, and_true] at off1
  w_strict (k_steps; unfold Stop)
  refine LCt.CompSrcT.ledger rfl (by assumption) (by assumption) (by k_mem) hsz1 ?_
  intro g2
  refine compT (fun j => decide (rnk (cp.take i) j > n)) (fun j => ((cp.take i).map (·.1)).getD j .none) (Or.inr ⟨_, by k_mem, rfl, _, rfl⟩) ?_ ?_ ?_
  · intro j v₁ ys I oI C oC D m₂ h tk E2 hj hP hC hmx F2 N2 off ne
    obtain ⟨y, hy, rfl, hr⟩ := rnk_at (xs := cp.take i) (v := v₁) (i := j) (by simpa using hP)
    have hky : KeyAt kd s.heap y.1 y.2 := hkb y (List.mem_of_getElem? hy)
    rw [hr]; clear hret F1 N1
    w_strict (k_steps; all_goals exact ⟨(by first | rfl | assumption), _, _, rfl, by assumption, by first | assumption | exact cb_drop (by assumption) (by kcj_all)⟩)
  · intro j v₁ ys I oI C oC D m₂ h tk E2 hj hp hP hC hmx F2 N2 off ne
    have hg9 : v₁ = ((cp.take i).map (·.1)).getD j .none := by
      have : ((cp.take i).map (·.1))[j]? = some v₁ := by simpa using hP
      rw [List.getD_eq_getElem?_getD, this]; rfl
    clear hret F1 N1
    w_strict (k_steps; all_goals exact ⟨(by first | rfl | assumption), _, _, rfl, by assumption, by first | assumption | exact cb_drop (by assumption) (by kcj_all)⟩)
  rw [List.size_toArray, List.length_map, range_filter_map (cp.take i) (fun y => decide (y.2 > n)) _ (·.1) _ (fun j x hx => by simp [rnk, List.getD_eq_getElem?_getD, ← List.map_take, hx]) (fun j x hx => by simp [List.getD_eq_getElem?_getD, ← List.map_take, hx])]
  intro D3 h3 tk3 F3 N3 off3
  (have hall := off1_D off3); simp only [LCg.Off1, and_true] at off3
  clear F1 N1
  have hkl : ∀ x ∈ (cp.take i).filter (fun y => decide (y.2 < n)), KeyAt kd s.heap x.1 x.2 := fun x hx => hkb x (List.mem_filter.mp hx).1
  have hkm : ∀ x ∈ (cp.take i).filter (fun y => decide (y.2 > n)), KeyAt kd s.heap x.1 x.2 := fun x hx => hkb x (List.mem_filter.mp hx).1
  have hzl : (((cp.take i).filter (fun y => decide (y.2 < n))).map (·.1)).length ≤ 7 := by
    rw [List.length_map]; have := List.length_filter_le (fun y : Value × Nat => decide (y.2 < n)) (cp.take i); simp only [List.length_take] at this; omega
  have hzm : (((cp.take i).filter (fun y => decide (y.2 > n))).map (·.1)).length ≤ 7 := by
    rw [List.length_map]; have := List.length_filter_le (fun y : Value × Nat => decide (y.2 > n)) (cp.take i); simp only [List.length_take] at this; omega
  have hne0 : ∃ x ∈ cp.take i, x.2 ≠ n := by
    obtain ⟨hlt, hci⟩ := List.getElem?_eq_some_iff.mp hi
    refine ⟨cp[0], List.mem_take_iff_getElem.mpr ⟨0, by omega, rfl⟩, fun e => ?_⟩
    have h1 : (cp.map (·.2))[0]'(by simp; omega) = (cp.map (·.2))[i]'(by simpa using hlt) := by simp [hci, e]
    exact (List.pairwise_iff_getElem.mp hnd 0 i _ _ hi1) h1
  have hlast : (((cp.take i).filter (fun x => adj ((cp.take i).map (·.2)) n x.2)).map (·.1)).getLast? = some z.1 := by rw [List.getLast?_map, hz]; rfl
  generalize hbp : cp.take i = bp at *
  by_cases hlz : 0 < ((bp.filter (fun y => decide (y.2 < n))).map (·.1)).length
  · have hb1 : decide (0 < ((bp.filter (fun y => decide (y.2 < n))).map (·.1)).length) = true := decide_eq_true hlz
    by_cases hmz : 0 < ((bp.filter (fun y => decide (y.2 > n))).map (·.1)).length
    · have hb2 : decide (0 < ((bp.filter (fun y => decide (y.2 > n))).map (·.1)).length) = true := decide_eq_true hmz
      w_strict (k_steps; unfold Stop)
      refine LCt.CompSrcT.ledger rfl (by assumption) (by assumption) (by k_mem) hsz1 ?_
      intro g5
      refine compT (fun j => adj (bp.map (·.2)) n (rnk bp j)) (fun j => (bp.map (·.1)).getD j .none) (Or.inr ⟨_, by k_mem, rfl, _, rfl⟩) ?_ ?_ ?_
      · intro j v₁ ys I oI C oC D m₂ h tk E2 hj hP hC hmx F2 N2 off ne
        obtain ⟨y, hy, rfl, hr⟩ := rnk_at (xs := bp) (v := v₁) (i := j) (by simpa using hP)
        have hky : KeyAt kd s.heap y.1 y.2 := hkb y (List.mem_of_getElem? hy)
        have hb9 := adjP_A (by assumption) (by assumption) (by assumption) (by assumption) (List.mem_of_getElem? hy)
        rw [hr]; clear hret
        w_strict (k_steps; all_goals exact ⟨(by first | rfl | assumption), _, _, rfl, by assumption, by first | assumption | exact cb_drop (by assumption) (by kcj_all)⟩)
      · intro j v₁ ys I oI C oC D m₂ h tk E2 hj hp hP hC hmx F2 N2 off ne
        have hg9 : v₁ = (bp.map (·.1)).getD j .none := by
          have : (bp.map (·.1))[j]? = some v₁ := by simpa using hP
          rw [List.getD_eq_getElem?_getD, this]; rfl
        clear hret
        w_strict (k_steps; all_goals exact ⟨(by first | rfl | assumption), _, _, rfl, by assumption, by first | assumption | exact cb_drop (by assumption) (by kcj_all)⟩)
      rw [List.size_toArray, List.length_map, range_filter_map bp (fun y => adj (bp.map (·.2)) n y.2) _ (·.1) _ (fun j x hx => by simp [rnk, List.getD_eq_getElem?_getD, hx]) (fun j x hx => by simp [List.getD_eq_getElem?_getD, hx])]
      intro D7 h7 tk7 F7 N7 off7
      w_strict (k_steps; all_goals exact hret _ _ (Fr.keep (by assumption)))
    · have hb2 : decide (0 < ((bp.filter (fun y => decide (y.2 > n))).map (·.1)).length) = false := decide_eq_false hmz
      w_strict (k_steps; unfold Stop)
      refine LCt.CompSrcT.ledger rfl (by assumption) (by assumption) (by k_mem) hsz1 ?_
      intro g5
      refine compT (fun j => adj (bp.map (·.2)) n (rnk bp j)) (fun j => (bp.map (·.1)).getD j .none) (Or.inr ⟨_, by k_mem, rfl, _, rfl⟩) ?_ ?_ ?_
      · intro j v₁ ys I oI C oC D m₂ h tk E2 hj hP hC hmx F2 N2 off ne
        obtain ⟨y, hy, rfl, hr⟩ := rnk_at (xs := bp) (v := v₁) (i := j) (by simpa using hP)
        have hky : KeyAt kd s.heap y.1 y.2 := hkb y (List.mem_of_getElem? hy)
        have hb9 := adjP_B (by assumption) (by assumption) hmz (List.mem_of_getElem? hy)
        rw [hr]; clear hret
        w_strict (k_steps; all_goals exact ⟨(by first | rfl | assumption), _, _, rfl, by assumption, by first | assumption | exact cb_drop (by assumption) (by kcj_all)⟩)
      · intro j v₁ ys I oI C oC D m₂ h tk E2 hj hp hP hC hmx F2 N2 off ne
        have hg9 : v₁ = (bp.map (·.1)).getD j .none := by
          have : (bp.map (·.1))[j]? = some v₁ := by simpa using hP
          rw [List.getD_eq_getElem?_getD, this]; rfl
        clear hret
        w_strict (k_steps; all_goals exact ⟨(by first | rfl | assumption), _, _, rfl, by assumption, by first | assumption | exact cb_drop (by assumption) (by kcj_all)⟩)
      rw [List.size_toArray, List.length_map, range_filter_map bp (fun y => adj (bp.map (·.2)) n y.2) _ (·.1) _ (fun j x hx => by simp [rnk, List.getD_eq_getElem?_getD, hx]) (fun j x hx => by simp [List.getD_eq_getElem?_getD, hx])]
      intro D7 h7 tk7 F7 N7 off7
      w_strict (k_steps; all_goals exact hret _ _ (Fr.keep (by assumption)))
  · have hb1 : decide (0 < ((bp.filter (fun y => decide (y.2 < n))).map (·.1)).length) = false := decide_eq_false hlz
    by_cases hmz : 0 < ((bp.filter (fun y => decide (y.2 > n))).map (·.1)).length
    · have hb2 : decide (0 < ((bp.filter (fun y => decide (y.2 > n))).map (·.1)).length) = true := decide_eq_true hmz
      w_strict (k_steps; unfold Stop)
      refine LCt.CompSrcT.ledger rfl (by assumption) (by assumption) (by k_mem) hsz1 ?_
      intro g5
      refine compT (fun j => adj (bp.map (·.2)) n (rnk bp j)) (fun j => (bp.map (·.1)).getD j .none) (Or.inr ⟨_, by k_mem, rfl, _, rfl⟩) ?_ ?_ ?_
      · intro j v₁ ys I oI C oC D m₂ h tk E2 hj hP hC hmx F2 N2 off ne
        obtain ⟨y, hy, rfl, hr⟩ := rnk_at (xs := bp) (v := v₁) (i := j) (by simpa using hP)
        have hky : KeyAt kd s.heap y.1 y.2 := hkb y (List.mem_of_getElem? hy)
        have hb9 := adjP_C (by assumption) (by assumption) hlz (List.mem_of_getElem? hy)
        rw [hr]; clear hret
        w_strict (k_steps; all_goals exact ⟨(by first | rfl | assumption), _, _, rfl, by assumption, by first | assumption | exact cb_drop (by assumption) (by kcj_all)⟩)
      · intro j v₁ ys I oI C oC D m₂ h tk E2 hj hp hP hC hmx F2 N2 off ne
        have hg9 : v₁ = (bp.map (·.1)).getD j .none := by
          have : (bp.map (·.1))[j]? = some v₁ := by simpa using hP
          rw [List.getD_eq_getElem?_getD, this]; rfl
        clear hret
        w_strict (k_steps; all_goals exact ⟨(by first | rfl | assumption), _, _, rfl, by assumption, by first | assumption | exact cb_drop (by assumption) (by kcj_all)⟩)
      rw [List.size_toArray, List.length_map, range_filter_map bp (fun y => adj (bp.map (·.2)) n y.2) _ (·.1) _ (fun j x hx => by simp [rnk, List.getD_eq_getElem?_getD, hx]) (fun j x hx => by simp [List.getD_eq_getElem?_getD, hx])]
      intro D7 h7 tk7 F7 N7 off7
      w_strict (k_steps; all_goals exact hret _ _ (Fr.keep (by assumption)))
    · exfalso
      obtain ⟨x0, hx0, hx0n⟩ := hne0
      rcases Nat.lt_or_gt_of_ne hx0n with q | q
      · exact hlz (List.length_pos_of_mem (List.mem_map_of_mem (List.mem_filter.mpr ⟨hx0, decide_eq_true q⟩)))
      · exact hmz (List.length_pos_of_mem (List.mem_map_of_mem (List.mem_filter.mpr ⟨hx0, decide_eq_true q⟩)))
end
end

/-! part C9 -/
section
set_option maxRecDepth 100000
set_option maxHeartbeats 0
section
variable {w : World} {A : Around} {s : Shared} {p : Program} {loose : List Str} {mean : ExcName → Option Value} {mg mb : Str → Option Value} {Q E : Value → Shared → Prop}
variable {h₀ : Heap} {L : Addr} {m : Str → Option Value} {news : List (Addr × Obj)} {kd : Nat}
noncomputable def fig (x : Int) (j : Nat) : Nat := (x.toNat / 4 ^ (j + 1)) % 4
noncomputable def figsOf (x : Int) : List Nat := (List.range (x.toNat % 4)).map (fig x)
theorem fig_lt (x : Int) (j : Nat) : fig x j < 4 := Nat.mod_lt _ (by decide)
theorem figs_ok (x : Int) : Figs (figsOf x) := by
  refine ⟨by simp [figsOf]; have := Nat.mod_lt x.toNat (show 4 > 0 by decide); omega, ?_⟩
  intro d hd
  obtain ⟨j, _, rfl⟩ := List.mem_map.mp hd
  exact fig_lt x j
theorem fig_0 {x : Int} (h : 0 ≤ x) : Int.fmod (Int.fdiv x 4) 4 = (fig x 0 : Int) := by
  rw [Int.fdiv_eq_ediv_of_nonneg _ (by decide), Int.fmod_eq_emod_of_nonneg _ (by decide)]
  unfold fig; simp; omega
theorem fig_1 {x : Int} (h : 0 ≤ x) : Int.fmod (Int.fdiv x 16) 4 = (fig x 1 : Int) := by
  rw [Int.fdiv_eq_ediv_of_nonneg _ (by decide), Int.fmod_eq_emod_of_nonneg _ (by decide)]
  unfold fig; simp; omega
theorem fig_2 {x : Int} (h : 0 ≤ x) : Int.fmod (Int.fdiv x 64) 4 = (fig x 2 : Int) := by
  rw [Int.fdiv_eq_ediv_of_nonneg _ (by decide), Int.fmod_eq_emod_of_nonneg _ (by decide)]
  unfold fig; simp; omega
theorem mod4 {x : Int} (h : 0 ≤ x) : Int.fmod x 4 = ((x.toNat % 4 : Nat) : Int) := by
  rw [Int.fmod_eq_emod_of_nonneg _ (by decide)]; omega
theorem strs_from {f : Nat → Str} : ∀ (ys : List Value) (k : Nat), (∀ (i : Nat) (y : Value), ys[i]? = some y → ∃ t, y = Value.str (f (k + i)) t) → StrsAre ys ((List.range' k ys.length).map f)
  | [], k, _ => StrsAre.nil
  | y :: ys, k, h => by
    obtain ⟨t, rfl⟩ := h 0 y rfl
    rw [List.length_cons, List.range'_succ, List.map_cons]
    refine StrsAre.cons _ t (strs_from ys (k + 1) fun i z hz => ?_)
    have := h (i + 1) z (by simpa using hz)
    rwa [show k + (i + 1) = k + 1 + i by omega] at this
theorem strs_of {f : Nat → Str} {ys : List Value} {r : Nat} (hl : ys.length = r) (h : ∀ (i : Nat) (y : Value), ys[i]? = some y → ∃ t, y = Value.str (f i) t) : StrsAre ys ((List.range r).map f) := by
  rw [List.range_eq_range', ← hl]
  exact strs_from ys 0 (fun i y hy => by rw [Nat.zero_add]; exact h i y hy)
theorem join_figs : ∀ ds : List Nat, Str.join ⟨#[]⟩ (ds.map fun d => (⟨#[d + 48]⟩ : Str)) = figStr ds
  | [] => rfl
  | [d] => rfl
  | d :: e :: r => by
    have ih := join_figs (e :: r)
    show (⟨#[d + 48]⟩ : Str) ++ ⟨#[]⟩ ++ Str.join ⟨#[]⟩ ((e :: r).map fun d => (⟨#[d + 48]⟩ : Str)) = _
    rw [ih]
    apply Str.ext'
    simp only [Str.cps_append, figStr]
    apply Array.toList_inj.mp
    simp
theorem join_key (x : Int) {r : Nat} (hr : x.toNat % 4 = r) : Txt.join (Str.ofString "") ((List.range r).map fun i => (⟨#[fig x i + 48]⟩ : Str)) = figStr (figsOf x) := by
  show Builtin.Str.glued (Str.ofString "") _ = _
  rw [StrLaws.glued_eq_join, show Str.ofString "" = ⟨#[]⟩ by decide +kernel, ← join_figs, figsOf, hr, List.map_map]
  rfl
theorem digs_of {x : Int} {r : Nat} {ys : List Value} (hr : x.toNat % 4 = r) (hl : ys.length = r) (h : ∀ (i : Nat) (y : Value), ys[i]? = some y → ∃ t, y = Value.int (fig x i : Nat) t) : DigsAre ys (figsOf x) := by
  refine ⟨by simp [figsOf, hl, hr], fun j hj => ?_⟩
  obtain ⟨t, e⟩ := h j ys[j] (by simp [hj])
  refine ⟨t, ?_⟩
  have : (figsOf x).getD j 0 = fig x j := by
    rw [List.getD_eq_getElem?_getD, figsOf, List.getElem?_map, List.getElem?_range (by omega)]; rfl
  rw [this]; exact e
theorem join_l {l : Addr} {o : Obj} {vs : List Value} {ss : List Str} {c : Nat} {x : Str} {t : Tok} (N : News h₀ L s.heap news) (hm : (l, o) ∈ news) (ho : o = W.listOf vs.toArray c) (hs : StrsAre vs ss) (hx : x.length ≤ 16) (hw : (ss.map (·.length)).sum + ss.length ≤ 1048576)
    (h : ∀ t' k, Q (.str (Txt.join x ss) t') { s with toks := k }) : wpAny (model PySem.Challenge.rw_pd0044_01.row.prog w) A (call (.builtin "str.join") [.str x t, .ref l]) Q E s := by
  subst ho
  exact join_listW (items := vs.toArray) ⟨_, (N _ hm).1, rfl, c, rfl⟩ (by simpa using hs) hx hw h
theorem key_c {x : Int} {t u : Tok} (X : (hd.heap_39 w.params).In s.heap) (T : Top p loose mean mg mb s.heap) (hh : A.handled = none) (hdep : A.depth + 8 < recursionLimit) (huni : A.units + 60 < cLine) (hx0 : 0 ≤ x) (hx1 : x < 1000000) (hkd : kd < 3)
  (hret : ∀ v h' tk' (objs : List (Addr × Obj)), Kp s.heap h' → (∀ p ∈ objs, h'.get? p.1 = some p.2 ∧ s.heap.get? p.1 = none) → (∀ h : Heap, (∀ p ∈ objs, h.get? p.1 = some p.2) → KeyAt kd h v (rk (figsOf x))) → Q v { s with heap := h', toks := tk' }) : wpAny (model PySem.Challenge.rw_pd0044_01.row.prog w) A (call (.ref 139) [.int x t, .int kd u]) Q E s := by
  k_with_none
  (k_with "ne" => (refine neN ?_; (try dsimp only); (first | with_reducible assumption | with_reducible exact Ne.symm (by assumption) | (refine' ne_lt ?z1 ?z2; (case z1 => with_reducible assumption); (case z2 => k_mem)) | (refine' ne_lt' ?z3 ?z4; (case z3 => with_reducible assumption); (case z4 => k_mem)) | (refine' ne_o ?z5 ?z6; (case z5 => with_reducible assumption); (case z6 => k_mem)) | (refine' ne_o' ?z7 ?z8; (case z7 => with_reducible assumption); (case z8 => k_mem)) | omega)))
  (k_with "all" => (first | with_reducible assumption | with_reducible exact all_lt (by assumption) | exact List.forall_mem_nil _ | (refine' List.forall_mem_cons.mpr ⟨?za, ?zb⟩; (case za => k_ne); (case zb => k_all))))
  (k_with "CompRest" => (with_unfolding_all first | (refine LCg.CompRest.succ ?_; intro v' I' oI' C' oC' D' m' h' tk' E' hv' hC' hx' F' N' off' ne'; (first | lcg_open hv' | (obtain ⟨t9', hv9'⟩ := hv'; subst hv9')); (have offI' := off3_I off'); (have offC' := off3_C off'); (have offD' := off3_D off'); clear off') | refine LCg.CompRest.zero ?_))
  (k_with "FinE" => ((unfold LCg.FinE); intro D' h' tk' F' N' o1'; (replace o1' := off1_D o1'); (try simp only [List.nil_append, List.cons_append] at N'); (try dsimp only)))
  (k_with "FinA" => ((unfold LCg.FinA); intro D' h' tk' F' N' o1'; (replace o1' := off1_D o1'); (try simp only [List.nil_append, List.cons_append] at N'); (try dsimp only)))
  (k_with "CompSrcT" => refine Stop.mk ?_)
  (k_with "CompSrc" => refine Stop.mk ?_)
  (k_with "call builtin:str.join" => (k_here; k_dflt (refine' join_l ?w30kN ?w30km ?w30ko ?w30ks ?w30kx ?w30kw ?_; (case w30kN => k_asm); (case w30km => k_mem); (case w30ko => exact rfl); (case w30ks => assumption); (case w30kx => decide); (case w30kw => assumption); k_whole; intro t' k')))
  ((have hrow : (hd.heap_39, PySem.Challenge.rw_pd0044_01) = (hd.heap_39, PySem.Challenge.rw_pd0044_01) := rfl); revert hrow; k_fill; intro hrow; clear hrow; (obtain ⟨ahd, adp, afr, agd, aun⟩ := A; (have hh9 : ahd = none := hh); subst hh9; clear hh; (try dsimp only at hdep huni)))
  (refine' enterC X T ?k6 ?k7 ?k8 ?k9 ?kB ?kD ?_ ?c2 ?c3 ?c4; (case k6 => k_is); (case k7 => k_is); (case k8 => ((try dsimp only); omega)); (case k9 => exact BindsTo.of_eq rfl); (case kB => exact kindsX rfl); (case kD => decide +kernel); (case c2 => exact rfl); (case c3 => exact rfl); (case c4 => exact rfl))
  intro L' h' tk' cells' F' N' Y'
  k_cells Y'
  (try simp only [List.cons_append, List.nil_append] at N')
  (try dsimp only)
  w_strict (k_steps; unfold Stop)
  have hm4 := mod4 hx0
  have hlt4 : x.toNat % 4 < 4 := Nat.mod_lt _ (by decide)
  rename IsRange _ _ _ _ _ _ _ _ => hR
  rw [hm4] at hR
  generalize hr : x.toNat % 4 = r at *
  refine LCg.CompSrc.range (n := r) rfl (by assumption) (by assumption) hR ?_ ?_ ?_ ?_
  · rcases (show r = 0 ∨ r = 1 ∨ r = 2 ∨ r = 3 by omega) with rfl | rfl | rfl | rfl <;> decide +kernel
  · rcases (show r = 0 ∨ r = 1 ∨ r = 2 ∨ r = 3 by omega) with rfl | rfl | rfl | rfl <;> decide +kernel
  · rw [sizeLine_eq]; omega
  intro g
  refine compU (fun i y => ∃ t, y = .int (fig x i : Nat) t) trivial ?_ ?_
  · intro i v₁ ys I oI C oC D m₂ h tk E2 hi hP hC hmx F2 N2 off ne
    obtain ⟨tv, rfl⟩ := hP
    have e0 := fig_0 hx0
    have e1 := fig_1 hx0
    have e2 := fig_2 hx0
    clear hret
    rcases (show i = 0 ∨ i = 1 ∨ i = 2 by omega) with rfl | rfl | rfl
    · w_strict (k_steps; all_goals exact ⟨⟨_, congrArg (fun z => Value.int z _) e0⟩, _, _, rfl, by assumption, by assumption⟩)
    · w_strict (k_steps; all_goals exact ⟨⟨_, congrArg (fun z => Value.int z _) e1⟩, _, _, rfl, by assumption, by assumption⟩)
    · w_strict (k_steps; all_goals exact ⟨⟨_, congrArg (fun z => Value.int z _) e2⟩, _, _, rfl, by assumption, by assumption⟩)
  · intro ys hlen hG
    intro D h tk F3 N3 off
    (have hall := off1_D off); simp only [LCg.Off1, and_true] at off
    w_strict (k_steps; unfold Stop)
    have hsz : ys.toArray.size ≤ sizeLine := by rw [sizeLine_eq, List.size_toArray]; omega
    refine LCg.CompSrc.ledger rfl (by assumption) (by assumption) (by k_mem) hsz ?_
    intro g2
    rw [List.size_toArray, hlen]
    refine compU (fun i y => ∃ t, y = .str ⟨#[fig x i + 48]⟩ t) (Or.inr ⟨_, by k_mem, rfl, _, rfl⟩) ?_ ?_
    · intro i v₁ ys2 I oI C oC D2 m₂ h2 tk2 E2 hi hP hC hmx F4 N4 off4 ne
      obtain ⟨tv, rfl⟩ := hG i v₁ (by simpa using hP)
      have hd4 := fig_lt x i
      clear hret
      generalize fig x i = d at *
      rcases (show d = 0 ∨ d = 1 ∨ d = 2 ∨ d = 3 by omega) with rfl | rfl | rfl | rfl
      all_goals w_strict (k_steps; all_goals exact ⟨⟨_, congrArg (fun z => Value.str z _) (by decide +kernel)⟩, _, _, rfl, by assumption, by assumption⟩)
    · intro zs hlen2 hG2
      have hss := strs_of (f := fun i => ⟨#[fig x i + 48]⟩) hlen2 hG2
      have hw9 : (((List.range r).map fun i => (⟨#[fig x i + 48]⟩ : Str)).map (·.length)).sum + ((List.range r).map fun i => (⟨#[fig x i + 48]⟩ : Str)).length ≤ 1048576 := by
        rcases (show r = 0 ∨ r = 1 ∨ r = 2 ∨ r = 3 by omega) with rfl | rfl | rfl | rfl <;> simp [Str.length, List.range_succ]
      intro D5 h5 tk5 F5 N5 off5
      (have hall := off1_D off5); simp only [LCg.Off1, and_true] at off5
      rcases (show kd = 0 ∨ kd = 1 ∨ kd = 2 by omega) with rfl | rfl | rfl
      · w_strict (k_steps; all_goals ((rename News _ _ _ _ => NE); exact hret _ _ _ [(D, LCg.lst ys)] (Fr.keep (by assumption)) (fun q hq => by rw [List.mem_singleton.mp hq]; exact ⟨(NE _ (by k_mem)).1, (NE _ (by k_mem)).2.2⟩) (fun hh hq => ⟨figsOf x, figs_ok x, rfl, .inl ⟨rfl, D, ys, rfl, ⟨_, hq _ (List.mem_singleton.mpr rfl), rfl, _, rfl⟩, digs_of hr hlen hG⟩⟩)))
      · w_strict (k_steps; all_goals ((rename News _ _ _ _ => NE); exact hret (.ref _) _ _ [(_, { cls := .type "tuple", data := .seq ys.toArray })] (Fr.keep (by assumption)) (fun q hq => by rw [List.mem_singleton.mp hq]; exact ⟨(NE _ (by k_mem)).1, (NE _ (by k_mem)).2.2⟩) (fun hh hq => ⟨figsOf x, figs_ok x, rfl, .inr (.inl ⟨rfl, _, ys, rfl, ⟨_, hq _ (List.mem_singleton.mpr rfl), rfl, _, rfl⟩, digs_of hr hlen hG⟩)⟩)))
      · w_strict (k_steps; all_goals (rw [join_key x hr]; exact hret _ _ _ [] (Fr.keep (by assumption)) (fun _ h => nomatch h) (fun hh _ => ⟨figsOf x, figs_ok x, rfl, .inr (.inr ⟨rfl, _, rfl⟩)⟩)))
end
end

/-! part Map -/
section
set_option maxRecDepth 100000
set_option maxHeartbeats 0
theorem owner_map : Manifest.owners.lookup (String.ofList ['p', 'a', 'm'].reverse) = some Manifest.sig_map := by kernel_rfl
theorem slot_map_init : Slot "map" "__init__" "object.__init__" :=
  .of (owner := "object") (n := "__init__") (by rw [typeLookup_type, builtinLookup_eq_fast]; kernel_rfl) (by decide +kernel) (by decide +kernel) (by decide +kernel)
    (by first | exact .inl (by decide +kernel) | exact .inr (by decide +kernel)) (by rw [isSubtype_type]; kernel_rfl)
theorem slot_map_next : Slot "map" "__next__" "map.__next__" :=
  .of (owner := "map") (n := "__next__") (by rw [typeLookup_type, builtinLookup_eq_fast]; kernel_rfl) (by decide +kernel) (by decide +kernel) (by decide +kernel)
    (by first | exact .inl (by decide +kernel) | exact .inr (by decide +kernel)) (by rw [isSubtype_type]; kernel_rfl)
theorem slot_map_iter : Slot "map" "__iter__" "map.__iter__" :=
  .of (owner := "map") (n := "__iter__") (by rw [typeLookup_type, builtinLookup_eq_fast]; kernel_rfl) (by decide +kernel) (by decide +kernel) (by decide +kernel)
    (by first | exact .inl (by decide +kernel) | exact .inr (by decide +kernel)) (by rw [isSubtype_type]; kernel_rfl)
theorem args_map_iter (a : Value) : argsOk "map.__iter__" ⟨[a], []⟩ := by
  unfold argsOk; rw [signature?_of (id := "map.__iter__") (n := ['_', '_', 'r', 'e', 't', 'i', '_', '_']) (o := ['p', 'a', 'm']) (by kernel_rfl) owner_map]; kernel_rfl
theorem args_map_next (a : Value) : argsOk "map.__next__" ⟨[a], []⟩ := by
  unfold argsOk; rw [signature?_of (id := "map.__next__") (n := ['_', '_', 't', 'x', 'e', 'n', '_', '_']) (o := ['p', 'a', 'm']) (by kernel_rfl) owner_map]; kernel_rfl
theorem entry_map_next : entryFor table "map.__next__" = some Builtin.«map.__next__» := entryFor_of_tree (by kernel_rfl)
theorem entry_map_new : entryFor table "map.__new__" = some Builtin.«map.__new__» := entryFor_of_tree (by kernel_rfl)
theorem entry_map_iter : entryFor table "map.__iter__" = some Builtin.«dict_keyiterator.__iter__» :=
  entryFor_alias (id' := "dict_keyiterator.__iter__") (by kernel_rfl) (by first | rfl | decide +kernel | (unfold String.splitOn; simp +decide [String.splitOnAux])) (by decide +kernel) (by kernel_rfl)
theorem mro_map : mroOf (.type "map") = pure [.type "map", .type "object"] := by rw [mroOf_type]; kernel_rfl
theorem lookup_map_new : typeLookup (.type "map") "__new__" = pure (some (.builtin "map.__new__")) := by rw [typeLookup_type, builtinLookup_eq_fast]; kernel_rfl
theorem called_map : TypeCalled "map" "map.__new__" "object.__init__" :=
  ⟨by decide +kernel, by decide +kernel, ⟨_, _, mro_map⟩, madeBy_type mro_map lookup_map_new (by decide +kernel), by decide +kernel, by rw [isSubtype_type]; kernel_rfl, slot_map_init⟩
theorem typeCall_map (a b : Value) : checkTypeCall "map" ⟨[a, b], []⟩ = pure () := by kernel_rfl
theorem newCall_map (a b : Value) : checkBuiltinCall "map.__new__" ⟨[.type "map", a, b], []⟩ = pure () := by kernel_rfl
theorem map_no_len : typeLookup (.type "map") "__len__" = pure none := by rw [typeLookup_type, builtinLookup_eq_fast]; kernel_rfl
theorem map_no_hint : typeLookup (.type "map") "__length_hint__" = pure none := by rw [typeLookup_type, builtinLookup_eq_fast]; kernel_rfl
theorem sub_map : isSubtype (.type "map") (.type "map") = pure true := by rw [isSubtype_type]; kernel_rfl
noncomputable abbrev IsMap (h : Heap) (M TI : Addr) (f : Value) : Prop :=
  h.get? M = some { cls := .type "map", dict := none, data := .fields #[.ref TI, f], slots := #[] }
noncomputable abbrev IsOne (h : Heap) (T : Addr) (a : Value) : Prop := h.get? T = some { cls := .type "tuple", data := .seq #[a] }
noncomputable abbrev mapH1 (h : Heap) (l : Addr) : Heap := h.push { cls := .type "list_iterator", data := .fields #[.ref l, .int 0 0] }
noncomputable abbrev mapH2 (h : Heap) (l : Addr) : Heap := (mapH1 h l).push { cls := .type "tuple", data := .seq #[.ref h.objs.size] }
noncomputable abbrev mapH3 (h : Heap) (l : Addr) (f : Value) : Heap := (mapH2 h l).push { cls := .type "map", data := .fields #[.ref (mapH1 h l).objs.size, f] }
theorem meets_map_new (f : Value) (l : Addr) (xs : Array Value) :
    Meets (Builtin.«map.__new__» ⟨[.type "map", f, .ref l], []⟩) (fun _ R s => s.heap.IsList l xs ∧
      R (.ok (.ret (.ref (mapH2 s.heap l).objs.size))) { s with heap := mapH3 s.heap l f }) :=
  .of_wp fun prog w A R s h => by
    obtain ⟨hp, g, d, tk, os⟩ := s; obtain ⟨hl, h⟩ := h
    have hsub := sub_map
    have hL : Heap.IsList (Shared.heap ⟨hp, g, d, tk, os⟩) l xs := hl
    wp_walk using wpAny_pyIter_list hL
    exact ⟨_, rfl, h⟩
section
variable {prog : Program} {w : World} {A : Around} {E : Value → Shared → Prop} {s : Shared}
theorem call_map {f : Value} {l : Addr} {xs : Array Value} {Q : Value → Shared → Prop} (hl : s.heap.IsList l xs)
    (h : ∀ h' M T I, IsMap h' M T f → IsOne h' T (.ref I) → h'.IsListIter I l 0 → s.heap.get? M = none → s.heap.get? T = none → s.heap.get? I = none → M ≠ I → T ≠ I → Kp s.heap h' → Q (.ref M) { s with heap := h' }) :
    wpAny (model prog w) A (call (.type "map") [f, .ref l]) Q E s := by
  refine callType_new called_map (by decide) (typeCall_map _ _) (newCall_map _ _) (fun obj => F.args_object_init_3 obj _ _) entry_map_new
    (meets_map_new f l xs) ⟨hl, ?_⟩
  have z1 : (mapH1 s.heap l).objs.size = s.heap.objs.size + 1 := Heap.size_push ..
  have z2 : (mapH2 s.heap l).objs.size = s.heap.objs.size + 2 := by rw [Heap.size_push, z1]
  have g3 : (mapH3 s.heap l f).get? (mapH2 s.heap l).objs.size = some _ := Heap.get?_push_size _ rfl
  have g2 : (mapH3 s.heap l f).get? (mapH1 s.heap l).objs.size = some _ := Heap.get?_push_of_some _ (Heap.get?_push_size _ rfl)
  have g1 : (mapH3 s.heap l f).get? s.heap.objs.size = some _ := Heap.get?_push_of_some _ (Heap.get?_push_of_some _ (Heap.get?_push_size _ rfl))
  have hn : ∀ k, s.heap.objs.size ≤ k → s.heap.get? k = none := fun k hk => by
    cases e : s.heap.get? k with
    | none => rfl
    | some o => exact absurd (Heap.lt_size e) (Nat.not_lt.mpr hk)
  refine ⟨⟨_, g3, rfl⟩, h _ _ _ _ g3 g2 ⟨_, g1, rfl, rfl⟩ (hn _ (by rw [z2]; exact Nat.le_add_right ..)) (hn _ (by rw [z1]; exact Nat.le_add_right ..)) (hn _ (Nat.le_refl _)) (by rw [z2]; exact Nat.ne_of_gt (Nat.lt_add_of_pos_right (by decide))) (by rw [z1]; exact Nat.ne_of_gt (Nat.lt_add_of_pos_right (by decide))) fun b o x => ?_⟩
  exact Heap.get?_push_of_some _ (Heap.get?_push_of_some _ (Heap.get?_push_of_some _ x))
theorem iter_map {M T : Addr} {f : Value} {Q : Value → Shared → Prop} (hz : IsMap s.heap M T f) (h : Q (.ref M) s) : wpAny (model prog w) A (pyIter (.ref M)) Q E s := by
  have hT : s.TypeIs (.ref M) "map" := ⟨_, hz, rfl⟩
  refine wpAny_pyIter_slot hT slot_map_iter (wpAny_call_entry slot_map_iter hT entry_map_iter ?_ (args_map_iter _))
  show wpAny _ _ (ret (.ref M)) _ _ s
  exact wpAny_pure ⟨_, rfl, "map", _, hT, slot_map_next.lookup, h⟩
theorem next_map {M T I l : Addr} {i : Nat} {f : Value} {items : Array Value} {x : Value} {Q : Option Value → Shared → Prop}
    (hz : IsMap s.heap M T f) (ht : IsOne s.heap T (.ref I)) (hit : s.heap.IsListIter I l i) (hl : s.heap.IsList l items) (hx : items[i]? = some x) (hMI : M ≠ I)
    (hc : ∀ (h₁ : Heap) (Q' E' : Value → Shared → Prop), h₁.IsListIter I l (i + 1) → Heap.SameBut I s.heap h₁ →
      (∀ v h₂ tk, Kp h₁ h₂ → Q (some v) { s with heap := h₂, toks := tk } → Q' v { s with heap := h₂, toks := tk }) → wpAny (model prog w) A.in1 (call f [x]) Q' E' { s with heap := h₁ }) :
    wpAny (model prog w) A (pyNext (.ref M)) Q E s := by
  have hT : s.TypeIs (.ref M) "map" := ⟨_, hz, rfl⟩
  unfold pyNext
  refine wpAny_bind (wpAny_attempt (wpAny_callSpecial?_slot (name := Str.ofString "__next__") hT slot_map_next
    (wpAny_call_entry slot_map_next hT entry_map_next ?_ (args_map_next _))))
  show wpAny _ _ (field (.ref M) 0 >>= _) _ _ _
  refine wpAny_bind (wpAny_field hz rfl (x := .ref T) rfl ?_)
  refine wpAny_bind (wpAny_seqItems ht rfl ?_)
  refine wpAny_bind ?_
  refine wpAny_bind (wpAny_bind (wpAny_holding (wpAny_nextOf_list_item hit hl hx fun h₁ hit₁ hs₁ => ?_)))
  refine wpAny_pure (wpAny_pure ?_)
  have hz₁ : IsMap h₁ M T f := hs₁.extBut _ _ hMI hz
  refine wpAny_bind (wpAny_field hz₁ rfl (x := f) rfl ?_)
  refine wpAny_bind (wpAny_holding ?_)
  refine hc h₁ _ _ hit₁ hs₁ fun v h₂ tk hk hq => ?_
  exact wpAny_bind (wpAny_letGo (wpAny_pure ⟨_, rfl, wpAny_pure hq⟩))
theorem end_map {M T I l : Addr} {i : Nat} {f : Value} {items : Array Value} {Q : Option Value → Shared → Prop} (hh : A.handled = none)
    (hz : IsMap s.heap M T f) (ht : IsOne s.heap T (.ref I)) (hit : s.heap.IsListIter I l i) (hl : s.heap.IsList l items) (hx : items[i]? = none)
    (hQ : ∀ h', Heap.ExtBut I s.heap h' → Q none { s with heap := h' }) :
    wpAny (model prog w) A (pyNext (.ref M)) Q E s := by
  have hT : s.TypeIs (.ref M) "map" := ⟨_, hz, rfl⟩
  unfold pyNext
  refine wpAny_bind (wpAny_attempt (wpAny_callSpecial?_slot (name := Str.ofString "__next__") hT slot_map_next
    (wpAny_call_entry slot_map_next hT entry_map_next ?_ (args_map_next _))))
  show wpAny _ _ (field (.ref M) 0 >>= _) _ _ _
  refine wpAny_bind (wpAny_field hz rfl (x := .ref T) rfl ?_)
  refine wpAny_bind (wpAny_seqItems ht rfl ?_)
  refine wpAny_bind ?_
  refine wpAny_bind (wpAny_bind (wpAny_holding (wpAny_nextOf_list_end hh hit hl hx fun h' x he' hx' => ?_)))
  obtain ⟨o, ho, hc⟩ := hx'
  refine wpAny_bind (wpAny_isInstance (T := "StopIteration") (b := true) ⟨o, ho, hc⟩ isSubtype_stop ?_)
  exact wpAny_pure (hQ _ he')
end
section
variable {w : World} {A : Around} {s : Shared} {p : Program} {loose : List Str} {mean : ExcName → Option Value} {mg mb : Str → Option Value} {Q E : Value → Shared → Prop}
theorem map_loop {b : Heap} {M T0 I l S : Addr} {items : Array Value} {res : Value} {R : Result → Shared → Prop} (X : (hd.heap_39 w.params).In b) (T : Top p loose mean mg mb b) (hh : A.handled = none) (hdep : A.depth + 8 < recursionLimit) (huni : A.units + 62 < cLine)
    (hl : b.IsList l items) (hstr : ∀ x ∈ items, ∃ t u, x = Value.str t u) (hsz : items.size ≤ sizeLine)
    (nS : b.get? S = none) (nI : b.get? I = none) (MI : M ≠ I) (TI : T0 ≠ I) (MS : M ≠ S) (TS : T0 ≠ S) (IS : I ≠ S) :
    ∀ (k i : Nat) (s : Shared) (acc : Array Value) (c : Nat), items.size - i = k → i ≤ items.size → Kp b s.heap → IsMap s.heap M T0 (.ref 101) → IsOne s.heap T0 (.ref I) → s.heap.IsListIter I l i →
      s.heap.get? S = some { cls := .type "list", dict := none, data := .seq acc c, slots := #[] } → acc.toList = items.toList.take i →
      (∀ h' tk c', Kp b h' → h'.get? S = some { cls := .type "list", dict := none, data := .seq items c', slots := #[] } → R (.ok (.ret res)) { s with heap := h', toks := tk }) →
      codeAny (model PySem.Challenge.rw_pd0044_01.row.prog w) A (.builtin "list.extend.loop" ⟨[.ref S, .ref M, res], []⟩) R s := by
  intro k
  induction k with
  | zero =>
    intro i s acc c hk hi kb hM hT hI hS hacc hR
    refine codeAny_builtin F.entry_extend_loop ?_
    rw [Around.under_plainId F.plain_extend_loop _]
    show wpAny _ A.in1 (pyNext (.ref M) >>= _) _ _ s
    refine wpAny_bind (end_map (by exact hh) hM hT hI (hl.at fun o e => kb _ o e) (Array.getElem?_eq_none (by omega)) fun h' he => ?_)
    have e1 : acc = items := Array.toList_inj.mp (by rw [hacc, List.take_of_length_le (by simp; omega)])
    subst e1
    refine wpAny_pure (hR h' s.toks c (fun a o e => he a o (fun q => by rw [q, nI] at e; cases e) (kb a o e)) (he S _ IS.symm hS))
  | succ k ih =>
    intro i s acc c hk hi kb hM hT hI hS hacc hR
    have hlt : i < items.size := by omega
    refine codeAny_builtin F.entry_extend_loop ?_
    rw [Around.under_plainId F.plain_extend_loop _]
    show wpAny _ A.in1 (pyNext (.ref M) >>= _) _ _ s
    obtain ⟨x, u, hx⟩ := hstr items[i] (Array.getElem_mem _)
    refine wpAny_bind (next_map hM hT hI (hl.at fun o e => kb _ o e) (Array.getElem?_eq_getElem hlt) MI fun h₁ Q' E' hI1 hs1 hq => ?_)
    have kb1 : Kp b h₁ := fun a o e => hs1.extBut a o (fun q => by rw [q, nI] at e; cases e) (kb a o e)
    rw [hx]
    refine fspath_c (X.keeps kb1) (T.keeps kb1) (by exact hh) (by exact hdep) (by (try dsimp only); omega) fun h₂ tk k2 => hq _ _ _ k2 ?_
    have hS2 := k2 _ _ (hs1.extBut S _ IS.symm hS)
    show wpAny _ A.in1 (updateSeq S (·.push _) >>= _) _ _ _
    have hI2 : h₂.IsListIter I l (i + 1) := hI1.at fun o e => k2 _ o e
    have hM2 := k2 _ _ (hs1.extBut M _ MI hM)
    have hT2 := k2 _ _ (hs1.extBut T0 _ TI hT)
    have hlen : acc.size = i := by rw [← Array.length_toList, hacc]; simp; omega
    have kb2 : Kp b h₂ := fun a o e => k2 a o (kb1 a o e)
    refine wpAny_bind ?_
    refine wpAny_updateSeq hS2 rfl (wpAny_pure ⟨plainId_quiet F.plain_extend_loop _, ih (i + 1) _ (acc.push (.str x u)) _ (by omega) hlt ?_ ?_ ?_ ?_ (Heap.get?_update_self _ hS2 rfl) ?_ ?_⟩)
      (by rw [hlen]; omega) (by show (acc.push _).size ≤ sizeLine + 1; rw [Array.size_push, hlen]; omega)
    · exact fun a o e => (Heap.get?_update_other _ _ (fun q : S = a => by rw [← q, nS] at e; cases e)).trans (kb2 a o e)
    · exact (Heap.get?_update_other _ _ MS.symm).trans hM2
    · exact (Heap.get?_update_other _ _ TS.symm).trans hT2
    · exact hI2.at fun o e => (Heap.get?_update_other _ _ IS.symm).trans e
    · rw [Array.toList_push, hacc, ← hx, List.take_add_one]; simp [hlt]
    · intro h' tk' c' kb' hS'
      exact hR h' tk' c' kb' hS'
theorem collect_map {b : Heap} {M T0 I l : Addr} {items : Array Value} {Q : List Value → Shared → Prop} (X : (hd.heap_39 w.params).In b) (T : Top p loose mean mg mb b) (hh : A.handled = none) (hdep : A.depth + 8 < recursionLimit) (huni : A.units + 64 < cLine)
    (hl : b.IsList l items) (hstr : ∀ x ∈ items, ∃ t u, x = Value.str t u) (hsz : items.size ≤ sizeLine)
    (nI : b.get? I = none) (MI : M ≠ I) (TI : T0 ≠ I) (kb : Kp b s.heap) (hM : IsMap s.heap M T0 (.ref 101)) (hT : IsOne s.heap T0 (.ref I)) (hI : s.heap.IsListIter I l 0)
    (hQ : ∀ h' tk, Kp b h' → Q items.toList { s with heap := h', toks := tk }) : wpAny (model PySem.Challenge.rw_pd0044_01.row.prog w) A (collect (.ref M)) Q E s := by
  have gone : ∀ {a o}, s.heap.get? a = some o → a ≠ s.heap.objs.size := fun e => Nat.ne_of_lt (Heap.lt_size e)
  have hTy : ∀ h : Heap, IsMap h M T0 (.ref 101) → ({ s with heap := h } : Shared).TypeIs (.ref M) "map" := fun h e => ⟨_, e, rfl⟩
  have nS : b.get? s.heap.objs.size = none := by
    cases e : b.get? s.heap.objs.size with
    | none => rfl
    | some o => exact absurd rfl (gone (kb _ _ e))
  unfold collect
  refine wpAny_bind (wpAny_runValue (codeAny_builtin F.entry_proto_collect ?_))
  rw [Around.under_plainId F.plain_proto_collect _]
  show wpAny _ A.in1 (newList [] >>= fun l => again (.builtin "list.__iadd__" ⟨[l, .ref M], []⟩)) _ _ s
  refine wpAny_bind (wpAny_newObj_type ?_)
  refine wpAny_pure ⟨plainId_quiet F.plain_list_iadd _, codeAny_builtin F.entry_list_iadd ?_⟩
  rw [Around.under_plainId F.plain_list_iadd _]
  have hM1 : IsMap (s.heap.push { cls := .type "list", data := .seq ([] : List Value).toArray }) M T0 (.ref 101) := Heap.get?_push_of_some _ hM
  show wpAny _ A.in1 (Builtin.List.listExtendWith (.ref s.heap.objs.size) (.ref M) (.ref s.heap.objs.size)) _ _ _
  unfold Builtin.List.listExtendWith
  refine wpAny_bind (wpAny_typeOf (hTy _ hM1) ?_)
  have h1 : Builtin.List.listSameRef (.ref s.heap.objs.size) (.ref M) = false := by simp [Builtin.List.listSameRef, (gone hM).symm]
  have h2 : (Value.type "map" == Value.type "list") = false := by decide
  have h3 : (Value.type "map" == Value.type "tuple") = false := by decide
  simp only [h1, h2, h3, Bool.or_false, Bool.false_eq_true, if_false]
  refine wpAny_bind (iter_map hM1 ?_)
  refine wpAny_bind (wpAny_holding ?_)
  unfold Builtin.List.listLengthHint
  refine wpAny_bind (wpAny_specialOf (hTy _ hM1) map_no_len ?_)
  show wpAny _ A.in1 (specialOf (Value.ref M) (Str.ofString "__length_hint__") >>= _) _ _ _
  refine wpAny_bind (wpAny_specialOf (hTy _ hM1) map_no_hint ?_)
  refine wpAny_pure ?_
  show wpAny _ A.in1 (rule "list.extend.makes-room" >>= fun _ => Builtin.List.listTouch (.ref s.heap.objs.size) >>= fun _ =>
    again (.builtin "list.extend.loop" ⟨[.ref s.heap.objs.size, .ref M, .ref s.heap.objs.size], []⟩)) _ _ _
  refine wpAny_bind (wpAny_rule ?_)
  have hS₁ : (s.heap.push { cls := .type "list", data := .seq ([] : List Value).toArray }).get? s.heap.objs.size = some { cls := .type "list", data := .seq ([] : List Value).toArray } := Heap.get?_push_size _ rfl
  refine wpAny_bind ?_
  show wpAny _ A.in1 (updateSeq s.heap.objs.size (·.push .none) >>= fun _ => updateSeq s.heap.objs.size (·.pop)) _ _ _
  refine wpAny_bind (wpAny_updateSeq hS₁ rfl ?_)
  have hS₂ := Heap.get?_update_self (Obj.mapSeq (·.push Value.none)) hS₁ rfl
  refine wpAny_updateSeq hS₂ rfl ?_
  have hS₃ := Heap.get?_update_self (Obj.mapSeq (·.pop)) hS₂ rfl
  have oth : ∀ a o, s.heap.get? a = some o →
      (((s.heap.push { cls := .type "list", data := .seq ([] : List Value).toArray }).update s.heap.objs.size (Obj.mapSeq (·.push Value.none))).update s.heap.objs.size (Obj.mapSeq (·.pop))).get? a = some o :=
    fun a o e => (Heap.get?_update_other _ _ (gone e).symm).trans ((Heap.get?_update_other _ _ (gone e).symm).trans (Heap.get?_push_of_some _ e))
  obtain ⟨oI, eI, rI⟩ := hI
  refine wpAny_pure ⟨plainId_quiet F.plain_extend_loop _, map_loop X T (by exact hh) (by exact hdep) (by (try dsimp only); omega) hl hstr hsz nS nI MI TI (gone hM) (gone hT) (gone eI) _ 0 _ _ _ rfl (Nat.zero_le _) (fun a o e => oth a o (kb a o e)) (oth _ _ hM) (oth _ _ hT) ⟨oI, oth _ _ eI, rI⟩ hS₃ (by simp) fun h' tk c' kb' hS' => ?_⟩
  show wpAny _ A (load s.heap.objs.size >>= _) _ _ _
  refine wpAny_bind (wpAny_load hS' ?_)
  exact wpAny_pure (hQ h' tk kb')
theorem tuple_map {b : Heap} {M T0 I l : Addr} {items : Array Value} (X : (hd.heap_39 w.params).In b) (T : Top p loose mean mg mb b) (hh : A.handled = none) (hdep : A.depth + 8 < recursionLimit) (huni : A.units + 80 < cLine)
    (hl : b.IsList l items) (hstr : ∀ x ∈ items, ∃ t u, x = Value.str t u) (hsz : items.size ≤ sizeLine)
    (nI : b.get? I = none) (MI : M ≠ I) (TI : T0 ≠ I) (kb : Kp b s.heap) (hM : IsMap s.heap M T0 (.ref 101)) (hT : IsOne s.heap T0 (.ref I)) (hI : s.heap.IsListIter I l 0)
    (hQ : ∀ D h' tk, Kp b h' → b.get? D = none → h'.get? D = some { cls := .type "tuple", data := .seq items } → Q (.ref D) { s with heap := h', toks := tk }) : wpAny (model PySem.Challenge.rw_pd0044_01.row.prog w) A (call (.type "tuple") [.ref M]) Q E s := by
  refine callType_codes (Q₁ := fun obj s₁ => s₁.TypeIs obj "tuple" ∧ Q obj s₁) F.called_tuple (F.typeCall_tuple_1 _) F.entry_object_init ?_ fun obj s₁ h₁ => ?_
  · refine codeAny_of_tree ?_
    show wpAny _ _ (do checkBuiltinCall "tuple.__new__" ⟨[.type "tuple", .ref M], []⟩; again (.builtin "tuple.__new__" ⟨[.type "tuple", .ref M], []⟩)) _ _ s
    refine wpAny_bind (wpAny_of_eq (F.newCall_tuple_1 _) (wpAny_pure ⟨plainId_quiet F.plain_tuple_new _, codeAny_builtin F.entry_tuple_new ?_⟩))
    rw [Around.under_plainId F.plain_tuple_new _]
    have hsub := sub_tuple_self
    have hinit := init_tuple_lookup
    have hmh := madeHere_tuple
    have hTI : s.TypeIs (.ref M) "map" := ⟨_, hM, rfl⟩
    have hu9 : A.in1.in1.units + 64 < cLine := by simp only [Around.in1_units]; omega
    wp_walk using wpAny_typeOf hTI, collect_map (A := A.in1.in1) X T hh hdep hu9 hl hstr hsz nI MI TI kb hM hT hI
    intro h' tk kb'
    show wpAny _ _ (Builtin.Tuple.tupleExact items.toList.toArray >>= fun v => ret v) _ _ _
    unfold Builtin.Tuple.tupleExact
    refine wpAny_bind (wpAny_newObj_type ?_ (by show items.toList.toArray.size ≤ sizeLine; simpa using hsz))
    refine wpAny_pure ?_
    have e : items.toList.toArray = items := by simp
    rw [e]
    refine ⟨⟨_, Heap.get?_push_size _ rfl, rfl⟩, hQ _ _ _ (fun a o e => Heap.get?_push_of_some _ (kb' a o e)) ?_ (Heap.get?_push_size _ rfl)⟩
    cases e : b.get? h'.objs.size with
    | none => rfl
    | some o => exact absurd (Heap.lt_size (kb' _ _ e)) (Nat.lt_irrefl _)
  · exact ⟨h₁.1, F.args_object_init_2 obj _, object_init_meets F.called_tuple.init.lookup F.called_tuple.made (by decide) _ w A.in1 _ s₁ ⟨h₁.1, rfl, h₁.2⟩⟩
end
end

/-! part Gens -/
section
set_option maxRecDepth 100000
set_option maxHeartbeats 0
open LCg
section
variable {prog : Program} {w : World} {A : Around} {E : Value → Shared → Prop} {s : Shared} {h₀ : Heap} {L : Addr} {m : Str → Option Value} {env : Env}
/-- `xv` can be walked: its iterator gives `n` items -/
noncomputable def Iters (prog : Program) (w : World) (A : Around) (h₀ : Heap) (L : Addr) (xv : Value) (s₁ : Shared) (n : Nat) (P : Nat → Value → Prop) (S : List (Addr × Obj) → Prop) : Prop :=
  ∀ (Q' E' : Value → Shared → Prop), (∀ (I : Addr) (h : Heap) (fp : List Addr) (St : Nat → Heap → Prop), Walks prog w A I fp [I] n P St → (∀ i h, St i h → ∃ o, h.get? I = some o) →
    (∀ i h h' o nw, St i h → h.get? I = some o → h'.get? I = some o → (∀ b o, h₀.get? b = some o → h'.get? b = some o) → News h₀ L h' nw → S nw → St i h') → St 0 h → (∀ b ∈ fp, b < h.objs.size) → Kp s₁.heap h → s₁.heap.get? I = none → Q' (.ref I) { s₁ with heap := h }) →
    wpAny (model prog w) A (pyIter xv) Q' E' s₁
noncomputable def SrcG (prog : Program) (w : World) (A : Around) (h₀ : Heap) (L : Addr) (m : Str → Option Value) (env : Env) (elt : Expr) (x : Str) (scope : Scope) (cl : List (Str × Addr)) (Fin : Shared → List Value → List (Addr × Obj) → Prop) (xv : Value) (s₁ : Shared) : Prop :=
  ∃ (news : List (Addr × Obj)) (n : Nat) (P : Nat → Value → Prop) (S : List (Addr × Obj) → Prop), Fr h₀ L s₁.heap m ∧ News h₀ L s₁.heap news ∧ S news ∧ n ≤ sizeLine ∧ Iters prog w A h₀ L xv s₁ n P S ∧
      ∀ g, CompRest prog w A h₀ L m env elt x scope cl { s₁ with heap := g } S P (Fin { s₁ with heap := g }) n 0 [] news
theorem Assign_LC {elt iter : Expr} {x y : Str} {px py : Pos} {scope : Scope} {cl : List (Str × Addr)} {pos spos : Pos} {Q : Flow → Shared → Prop} (_F₀ : Fr h₀ L s.heap m) (hLe : env.locals = L)
    (hsw : swapsWith (.ListComp elt [⟨.Name x px, iter, [], 0⟩] scope pos) (some (.Name y py)) spos.line env = pure true)
    (hclos : closureFor scope env = pure cl) (hcell : ∀ z ∈ scope.names, z.2 ≠ .cell) (hkind : scope.kind = .function)
    (hnames : ∀ z ∈ scope.names, z.2 = .local → scope.names.lookup z.1 = some .local) (hx : scope.names.lookup x = some .local)
    (hy : env.kindOf y = some .local) (hp : (env.scope.kind == .class || (env.scope.kind == .module && env.locals != env.globals)) = false)
    (h : wpAny (model prog w) A (eval iter env) (SrcG prog w A h₀ L m env elt x scope cl (fun s₂ => FinA h₀ L m s₂ y Q)) E s)
    (hs : ∀ x, foldedSetIterable iter env x = pure x := by intro _; rfl) :
    wpAny (model prog w) A (exec (.Assign [.Name y py] (.ListComp elt [⟨.Name x px, iter, [], 0⟩] scope pos) spos) env) Q E s := by
  subst hLe
  rw [exec_Assign_Name_used _ _ _ _ hsw]
  refine wpAny_bind (wpAny_standAt (wpAny_bind ?_))
  show wpAny _ A (do let _ ← comprehension (.ListComp elt [⟨.Name x px, iter, [], 0⟩] scope pos) scope env _ (newList []) false (eval iter env) (some (assign (.Name y py) env))) _ _ s
  refine wpAny_bind (wpAny_mono (wpAny_comprehension_free (use := some (assign (.Name y py) env)) (Q := fun _ s' => Q .next s') rfl hs hclos hkind hnames
    (wpAny_mono h (fun xv s₁ h₁ => ?_) fun _ _ e => e)) (fun _ s' hq => wpAny_pure (wpAny_pure hq)) fun _ _ e => e)
  obtain ⟨news, n, P, S, F, N, hS, hsz, hit, R⟩ := h₁
  refine hit _ _ fun I hp fp St W hIo hSt hst hfp kp nI => ?_
  have nn : ∀ a o, s₁.heap.get? a = some o → a ≠ I := fun a o e q => by rw [q, nI] at e; cases e
  have hI₀ : h₀.get? I = none := by
    cases e : h₀.get? I with
    | none => rfl
    | some o => exact absurd rfl (nn _ _ (F.keep _ _ e))
  have hLI : env.locals ≠ I := by obtain ⟨o, _, _, e, _⟩ := F.ns; exact nn _ _ e
  refine block_U W hsz hIo hSt hcell hkind hx hst hfp (F.keeps kp) (N.grown kp) hLI hI₀ (fun p hp => nn _ _ (N p hp).1) hS (R _) ?_
  intro D C h' tk m' ys news' F' N' o1 hn hC₀ hD₀ hCL hDL hCD offC fin
  show wpAny _ A (assign (.Name y py) env (.ref D)) _ _ _
  refine wpAny_assign_Name (wpAny_storeName_local hy F'.ns (fun h₂ hn₂ hs₂ => ?_) (by assumption))
  have hL₀ : h₀.get? env.locals = none := Heap.get?_none_of_le F'.above
  have F₂ : Fr h₀ env.locals h₂ (fun z => if z = y then some (.ref D) else m z) := ⟨hn₂, fun b o e => hs₂.extBut b o (fun q => by rw [q, hL₀] at e; cases e) (F'.keep b o e), F'.above⟩
  refine ⟨m', hn.sameBut hs₂ hCL, fun h'' hs'' => fin D h'' _ (F₂.change hs'' hCL hC₀) (fun p hp => ?_) o1⟩
  have z : h₂.get? p.1 = some p.2 := hs₂.extBut _ _ (N' p hp).2.1 (N' p hp).1
  refine ⟨hs''.extBut _ _ ?_ z, (N' p hp).2⟩
  rcases List.mem_cons.mp hp with rfl | hp
  · exact Ne.symm hCD
  · exact offC p hp
theorem Iters.tup {ax : Addr} {its : Array Value} (hh : A.handled = none) (hl : s.heap.IsTuple ax its) (S : List (Addr × Obj) → Prop) (hS : ∀ h' nw, (∀ b o, h₀.get? b = some o → h'.get? b = some o) → News h₀ L h' nw → S nw → h'.IsTuple ax its) :
    Iters prog w A h₀ L (.ref ax) s its.size (fun i v => its[i]? = some v) S := by
  intro Q' E' h
  have hlt : ax < s.heap.objs.size := by obtain ⟨_, e, _⟩ := hl; exact Heap.lt_size e
  refine wpAny_pyIter_tuple hl ?_
  refine h s.heap.objs.size _ _ _ (Walks.tuple hh s.heap.objs.size ax (Nat.ne_of_lt hlt) its) (fun i h st => by obtain ⟨o, e, _⟩ := st.1; exact ⟨o, e⟩) ?_ ⟨⟨_, Heap.get?_push_size _ rfl, rfl, rfl⟩, hl.at fun o e => Heap.get?_push_of_some _ e⟩ (fun b hb => ?_) (fun b o e => Heap.get?_push_of_some _ e) (Heap.get?_none_of_le (Nat.le_refl _))
  · exact fun i h h' o nw st e e' k N S => ⟨by obtain ⟨o', q, r⟩ := st.1; rw [e] at q; cases q; exact ⟨o, e', r⟩, hS h' nw k N S⟩
  · show b < (s.heap.push _).objs.size
    rw [Heap.size_push]
    rcases List.mem_cons.mp hb with rfl | hb
    · exact Nat.lt_succ_self _
    · rw [List.mem_singleton.mp hb]; exact Nat.lt_succ_of_lt hlt
theorem Iters.lst {ax : Addr} {its : Array Value} (hh : A.handled = none) (hl : s.heap.IsList ax its) (S : List (Addr × Obj) → Prop) (hS : ∀ h' nw, (∀ b o, h₀.get? b = some o → h'.get? b = some o) → News h₀ L h' nw → S nw → h'.IsList ax its) :
    Iters prog w A h₀ L (.ref ax) s its.size (fun i v => its[i]? = some v) S := by
  intro Q' E' h
  have hlt : ax < s.heap.objs.size := by obtain ⟨_, e, _⟩ := hl; exact Heap.lt_size e
  refine wpAny_pyIter_list hl ?_
  refine h s.heap.objs.size _ _ _ (Walks.list hh s.heap.objs.size ax (Nat.ne_of_lt hlt) its) (fun i h st => by obtain ⟨o, e, _⟩ := st.1; exact ⟨o, e⟩) ?_ ⟨⟨_, Heap.get?_push_size _ rfl, rfl, rfl⟩, hl.at fun o e => Heap.get?_push_of_some _ e⟩ (fun b hb => ?_) (fun b o e => Heap.get?_push_of_some _ e) (Heap.get?_none_of_le (Nat.le_refl _))
  · exact fun i h h' o nw st e e' k N S => ⟨by obtain ⟨o', q, r⟩ := st.1; rw [e] at q; cases q; exact ⟨o, e', r⟩, hS h' nw k N S⟩
  · show b < (s.heap.push _).objs.size
    rw [Heap.size_push]
    rcases List.mem_cons.mp hb with rfl | hb
    · exact Nat.lt_succ_self _
    · rw [List.mem_singleton.mp hb]; exact Nat.lt_succ_of_lt hlt
noncomputable abbrev tupO (its : Array Value) : Obj := { cls := .type "tuple", data := .seq its }
theorem SrcG.tup {elt : Expr} {x : Str} {scope : Scope} {cl : List (Str × Addr)} {Fin : Shared → List Value → List (Addr × Obj) → Prop} {ax : Addr} {its : Array Value} {news : List (Addr × Obj)}
    (hh : A.handled = none) (F : Fr h₀ L s.heap m) (N : News h₀ L s.heap news) (hm : (ax, tupO its) ∈ news) (hsz : its.size ≤ sizeLine)
    (h : ∀ g, CompRest prog w A h₀ L m env elt x scope cl { s with heap := g } (fun nw => (ax, tupO its) ∈ nw) (fun i v => its[i]? = some v) (Fin { s with heap := g }) its.size 0 [] news) :
    SrcG prog w A h₀ L m env elt x scope cl Fin (.ref ax) s :=
  ⟨news, its.size, _, _, F, N, hm, hsz, Iters.tup hh ⟨_, (N _ hm).1, rfl, _, rfl⟩ _ (fun h' nw k N S => ⟨_, (N _ S).1, rfl, _, rfl⟩), h⟩
theorem Iters.tupN {ax : Addr} {its : Array Value} {news : List (Addr × Obj)} (hh : A.handled = none) (N : News h₀ L s.heap news) (hm : (ax, tupO its) ∈ news) :
    Iters prog w A h₀ L (.ref ax) s its.size (fun i v => its[i]? = some v) (fun nw => (ax, tupO its) ∈ nw) :=
  Iters.tup hh ⟨_, (N _ hm).1, rfl, _, rfl⟩ _ (fun h' nw k N S => ⟨_, (N _ S).1, rfl, _, rfl⟩)
theorem CompEnd.grow {I C D D3 : Addr} {s₁ : Shared} {oI oC oD o : Obj} {S : List (Addr × Obj) → Prop} {rest : Value → List (Addr × Obj) → Prop} {y : Value} {h' : Heap} {tk : Nat} {news : List (Addr × Obj)}
    (F : Fr h₀ L h' m) (N : News h₀ L h' ((D3, o) :: (I, oI) :: (C, oC) :: (D, oD) :: news)) (off : Off3 I C D news) (o1 : Off1 D3 ((I, oI) :: (C, oC) :: (D, oD) :: news))
    (hS : S ((D3, o) :: news)) (r : rest y ((D3, o) :: news)) : CompEnd h₀ L m s₁ I oI C oC D oD S rest y { s₁ with heap := h', toks := tk } := by
  refine CompEnd.intro F N ((D3, o) :: news) (fun p hp => ?_) ⟨⟨Ne.symm o1.1, Ne.symm o1.2.1, Ne.symm o1.2.2.1⟩, off⟩ hS r
  rcases List.mem_cons.mp hp with rfl | hp
  · exact .tail _ (.head _)
  rcases List.mem_cons.mp hp with rfl | hp
  · exact .tail _ (.tail _ (.head _))
  rcases List.mem_cons.mp hp with rfl | hp
  · exact .tail _ (.tail _ (.tail _ (.head _)))
  rcases List.mem_cons.mp hp with rfl | hp
  · exact .head _
  · exact .tail _ (.tail _ (.tail _ (.tail _ hp)))
end
end

/-! part Set1 -/
section
set_option maxRecDepth 100000
set_option maxHeartbeats 0
noncomputable def sT0 (b : Bool) : SetTable := .fresh (finger := 0) (moves := 0) (led := b)
noncomputable def sT1 (b : Bool) : SetTable := (layNew (sT0 b) #[] 1 (.bool true)).2.1
noncomputable def sO0 (b : Bool) : Obj := { cls := .type "set", data := .set #[] 0 (sT0 b) }
noncomputable def sO1 (b : Bool) : Obj := { cls := .type "set", data := .set #[(1, .bool true)] 1 (sT1 b) }
theorem lay1 (b : Bool) : layNew (sT0 b) #[] 1 (.bool true) = (#[(1, .bool true)], sT1 b, false, false) := by cases b <;> decide +kernel
theorem t1_fits (b : Bool) : (sT1 b).fits 1 = true := by cases b <;> decide +kernel
theorem t0_fits (b : Bool) : (sT0 b).fits 0 = true := by cases b <;> decide +kernel
theorem t1_plain (b : Bool) : (sT1 b).plain = true := by cases b <;> decide +kernel
theorem t1_led (b : Bool) : (sT1 b).led = b := by cases b <;> decide +kernel
theorem t1_full (b : Bool) : (sT1 b).tooFull = false := by cases b <;> decide +kernel
theorem t1_place (b : Bool) : (sT1 b).place = #[1] := by cases b <;> decide +kernel
section
variable {prog : Program} {w : World} {A : Around} {E : Value → Shared → Prop} {s : Shared}
theorem slot_bool_hash : Slot "bool" "__hash__" "int.__hash__" :=
  .of (owner := "int") (n := "__hash__") (by rw [typeLookup_type, builtinLookup_eq_fast]; kernel_rfl) (by decide +kernel) (by decide +kernel) (by decide +kernel)
    (by first | exact .inl (by decide +kernel) | exact .inr (by decide +kernel)) (by rw [isSubtype_type]; kernel_rfl)
theorem hash_true {Q : Int → Shared → Prop} (h : ∀ tk, Q 1 { s with toks := tk }) : wpAny (model prog w) A (pyHash (.bool true)) Q E s := by
  have hT : s.TypeIs (.bool true) "bool" := rfl
  unfold pyHash
  have hv : [Value.bool true].any Value.onHeap = false := rfl
  refine wpAny_bind ?_
  rw [cRoomFor, if_neg (by rw [hv]; exact Bool.false_ne_true)]; refine wpAny_pure ?_
  refine wpAny_bind (wpAny_specialOf hT slot_bool_hash.lookup ?_)
  show wpAny _ _ (if (some (Value.builtin "int.__hash__") == some Value.none) = true then _ else _) Q E s
  rw [if_neg (by rw [beq_builtin_none]; exact Bool.false_ne_true)]
  refine wpAny_bind (wpAny_specialOf hT slot_bool_hash.lookup ?_)
  show wpAny _ _ (callSpecialIfBoundUnlessNone? (.bool true) "__hash__" _ >>= _) Q E s
  refine wpAny_bind (wpAny_callSpecialIfBoundUnlessNone?_slot hT slot_bool_hash
    (wpAny_call_entry slot_bool_hash hT entry_int_hash
      (show wpAny _ _ (do ret (← mkInt (rawHash 1))) _ _ s from wpAny_ret_mkInt ?_) (args_int_hash _)))
  show wpAny _ _ (if (decide (-(2 : Int) ^ 63 ≤ rawHash 1) && decide (rawHash 1 < 2 ^ 63)) = true then _ else _) Q E _
  rw [if_pos (by decide +kernel)]
  exact wpAny_pure (h _)
theorem set_add0 {a : Addr} {b : Bool} {Q : Value → Shared → Prop} (ho : s.heap.get? a = some (sO0 b))
    (h : ∀ h' tk, Heap.SameBut a s.heap h' → h'.get? a = some (sO1 b) → Q .none { s with heap := h', toks := tk }) :
    wpAny (model prog w) A (call (.builtin "set.add") [.ref a, .bool true]) Q E s := by
  have hT : s.TypeIs (.ref a) "set" := ⟨_, ho, rfl⟩
  refine wpAny_call_entry F.slot_set_add hT F.entry_set_add ?_ (F.args_set_add_2 _ _)
  unfold Builtin.«set.add» Builtin.Frozenset.oneOther
  simp only [List.isEmpty_nil, bind_assoc]
  unfold Builtin.Frozenset.addrOf setAdd
  refine wpAny_bind (wpAny_pure ?_)
  try dsimp only
  refine wpAny_bind (wpAny_pure ?_)
  try dsimp only
  refine wpAny_bind ?_
  refine wpAny_holding ?_
  refine wpAny_bind (hash_true fun tk => ?_)
  unfold setAddHashed setAddHashedIn
  refine wpAny_holding (wpAny_bind (wpAny_setState_of ho rfl (t0_fits b) ?_))
  dsimp only
  rw [show byScan (.bool true) #[] = true from by decide +kernel]
  simp only [↓reduceIte]
  unfold setAddByScan
  refine wpAny_bind ?_
  refine wpAny_bind (wpAny_rule ?_)
  refine wpAny_bind (wpAny_pure ?_)
  dsimp only
  rw [lay1]
  dsimp only
  refine wpAny_bind (wpAny_pure ?_)
  rw [t1_plain]
  refine wpAny_bind (wpAny_pure ?_)
  simp only [↓reduceIte]
  refine wpAny_bind (wpAny_storeSet_of ho rfl ?_ (by rw [sizeLine_eq]; decide))
  rw [t1_full]
  simp only [Bool.and_false, Bool.false_eq_true, ↓reduceIte]
  refine wpAny_pure (wpAny_pure (wpAny_pure ⟨_, rfl, h _ _ (Heap.SameBut.update ..) ?_⟩))
  have hg := Heap.get?_update_self (Obj.putSet #[(1, .bool true)] (sT1 b)) ho (by rw [putSet_of _ _ rfl]; rfl)
  rw [putSet_of _ _ rfl] at hg; exact hg
theorem set_add1 {a : Addr} {b : Bool} {Q : Value → Shared → Prop} (ho : s.heap.get? a = some (sO1 b))
    (h : ∀ tk, Q .none { s with toks := tk }) :
    wpAny (model prog w) A (call (.builtin "set.add") [.ref a, .bool true]) Q E s := by
  have hT : s.TypeIs (.ref a) "set" := ⟨_, ho, rfl⟩
  refine wpAny_call_entry F.slot_set_add hT F.entry_set_add ?_ (F.args_set_add_2 _ _)
  unfold Builtin.«set.add» Builtin.Frozenset.oneOther
  simp only [List.isEmpty_nil, bind_assoc]
  unfold Builtin.Frozenset.addrOf setAdd
  refine wpAny_bind (wpAny_pure ?_)
  try dsimp only
  refine wpAny_bind (wpAny_pure ?_)
  try dsimp only
  refine wpAny_bind ?_
  refine wpAny_holding ?_
  refine wpAny_bind (hash_true fun tk => ?_)
  unfold setAddHashed setAddHashedIn
  refine wpAny_holding (wpAny_bind (wpAny_setState_of ho rfl (t1_fits b) ?_))
  dsimp only
  rw [show byScan (.bool true) #[(1, .bool true)] = true from by decide +kernel]
  simp only [↓reduceIte]
  unfold setAddByScan
  refine wpAny_bind ?_
  refine wpAny_bind (wpAny_rule ?_)
  refine wpAny_bind ?_
  unfold setScan
  dsimp only
  unfold setScanFrom
  dsimp only
  rw [if_pos (by decide)]
  refine wpAny_bind (wpAny_setEpoch_of ho rfl (t1_fits b) ?_)
  refine wpAny_bind ?_
  unfold eqBool
  refine wpAny_holding ?_
  rw [if_pos (by decide)]
  refine wpAny_bind (wpAny_rule (wpAny_pure ?_))
  simp only [Bool.and_self, ↓reduceIte]
  refine wpAny_pure (wpAny_pure (wpAny_pure (wpAny_pure ?_)))
  exact ⟨_, rfl, h _⟩

noncomputable def byT (w : World) : Bool := w.params.followText "set-order"
theorem newset {Q : Value → Shared → Prop} (h : Q (.ref s.heap.objs.size) { s with heap := s.heap.push (sO0 (!byT w)) }) : wpAny (model prog w) A (newSet (.type "set")) Q E s := by
  unfold newSet setsByText
  simp only [bind_assoc]
  refine wpAny_bind (wpAny_askSetting ?_)
  show wpAny (model prog w) A (newObj (.type "set") (.set #[] 0 (.fresh 0 0 (!byT w)))) Q E s
  exact wpAny_newObj_type h
theorem entry_set_iter : entryFor table "set.__iter__" = some Builtin.«frozenset.__iter__» :=
  entryFor_alias (id' := "frozenset.__iter__") (by kernel_rfl) rfl (by decide +kernel) (by kernel_rfl)
theorem owner_set_iterator : Manifest.owners.lookup (String.ofList ("set_iterator".toList.reverse).reverse) = some Manifest.sig_set_iterator := by kernel_rfl
theorem slot_setit_next : Slot "set_iterator" "__next__" "set_iterator.__next__" :=
  .of (owner := "set_iterator") (n := "__next__") (by rw [typeLookup_type, builtinLookup_eq_fast]; kernel_rfl) (by decide +kernel) (by decide +kernel) (by decide +kernel)
    (by first | exact .inl (by decide +kernel) | exact .inr (by decide +kernel)) (by rw [isSubtype_type]; kernel_rfl)
theorem entry_setit_next : entryFor table "set_iterator.__next__" = some Builtin.«set_iterator.__next__» := entryFor_of_tree (by kernel_rfl)
theorem args_setit_next (a : Value) : argsOk "set_iterator.__next__" ⟨[a], []⟩ := by
  unfold argsOk; rw [signature?_of (id := "set_iterator.__next__") (n := ['_', '_', 't', 'x', 'e', 'n', '_', '_']) (o := ['r', 'o', 't', 'a', 'r', 'e', 't', 'i', '_', 't', 'e', 's']) (by kernel_rfl) owner_set_iterator]; kernel_rfl
noncomputable def sIt (a : Addr) (slot i : Int) (src : Value) : Obj := { cls := .type "set_iterator", data := .fields #[rawInt slot, rawInt i, src, rawInt 1, rawInt 1] }
theorem iter_set {a : Addr} {b : Bool} {Q : Value → Shared → Prop} (ho : s.heap.get? a = some (sO1 b))
    (h : Q (.ref s.heap.objs.size) { s with heap := s.heap.push (sIt a 0 0 (.ref a)) }) : wpAny (model prog w) A (pyIter (.ref a)) Q E s := by
  have hT : s.TypeIs (.ref a) "set" := ⟨_, ho, rfl⟩
  refine wpAny_pyIter_slot hT F.slot_set_iter (wpAny_call_entry F.slot_set_iter hT entry_set_iter ?_ (F.args_set_iter_1 _))
  unfold Builtin.«frozenset.__iter__» Builtin.Frozenset.slot0
  refine wpAny_bind (wpAny_pure ?_)
  unfold Builtin.Frozenset.sizeOf setEntries
  refine wpAny_bind (wpAny_bind (wpAny_bind (wpAny_setState_of ho rfl (t1_fits b) (wpAny_pure (wpAny_pure ?_)))))
  unfold setDrawn setsByText
  refine wpAny_bind (wpAny_bind (wpAny_setState_of ho rfl (t1_fits b) (wpAny_bind (wpAny_bind (wpAny_askSetting (wpAny_pure ?_))))))
  refine wpAny_pure ?_
  dsimp only
  split
  · rename_i hq
    exact absurd hq (show ¬ ((!(byT w) && (!(sT1 b).plain && decide (1 > 1))) = true) by simp)
  refine wpAny_bind (wpAny_pure ?_)
  unfold setEpoch
  refine wpAny_bind (wpAny_bind (wpAny_setState_of ho rfl (t1_fits b) (wpAny_pure ?_)))
  refine wpAny_bind (wpAny_newObj_type (wpAny_pure ⟨_, rfl, "set_iterator", _, ⟨_, Heap.get?_push_size _ rfl, rfl⟩, slot_setit_next.lookup, h⟩))
theorem set_next0 {a : Addr} {Q : Option (Value × Nat) → Shared → Prop} (ho : s.heap.get? a = some (sO1 (!byT w)))
    (h : ∀ slot : Nat, (byT w = false → slot = 2) → Q (some (.bool true, slot)) s) : wpAny (model prog w) A (setNext a 0 0 1) Q E s := by
  unfold setNext
  refine wpAny_bind (wpAny_setState_of ho rfl (t1_fits _) ?_)
  unfold setsByText
  refine wpAny_bind (wpAny_bind (wpAny_askSetting (wpAny_pure ?_)))
  show wpAny (model prog w) A (if byT w = true then _ else _) Q E s
  by_cases hb : byT w = true
  · rw [if_pos hb]
    simp only [bne_self_eq_false, Bool.false_eq_true, ↓reduceIte]
    unfold setWalk
    refine wpAny_bind (wpAny_bind (wpAny_setState_of ho rfl (t1_fits _) ?_))
    unfold setsByText
    refine wpAny_bind (wpAny_bind (wpAny_askSetting (wpAny_pure ?_)))
    show wpAny (model prog w) A (if byT w = true then _ else _) _ E s
    rw [if_pos hb]
    refine wpAny_bind (wpAny_askSetting (wpAny_pure (wpAny_pure ?_)))
    have e : ∀ f : Nat → Nat, pickOrder f #[((1 : Int), Value.bool true)] = #[(1, .bool true)] := fun f => by
      simp [pickOrder, pickOrder.go, Nat.mod_one]
    rw [e]
    exact h 0 (fun q => by rw [hb] at q; cases q)
  · rw [if_neg hb]
    have hb' : byT w = false := by simpa using hb
    dsimp only
    split
    · rename_i hq
      exact absurd hq (show ¬ ((!(sT1 (!byT w)).plain && decide (1 > 1)) = true) by simp)
    refine wpAny_bind ?_
    show wpAny (model prog w) A (if (!(sT1 (!byT w)).led && !(#[((1 : Int), Value.bool true)] : Array (Int × Value)).isEmpty) = true then _ else _) _ E s
    rw [t1_led, hb', if_neg (by decide)]
    refine wpAny_pure ?_
    rw [t1_place]
    exact wpAny_pure (h 2 (fun _ => rfl))
theorem set_next1 {a : Addr} {slot : Nat} {Q : Option (Value × Nat) → Shared → Prop} (ho : s.heap.get? a = some (sO1 (!byT w))) (hs : byT w = false → slot = 2)
    (h : Q none s) : wpAny (model prog w) A (setNext a slot 1 1) Q E s := by
  unfold setNext
  refine wpAny_bind (wpAny_setState_of ho rfl (t1_fits _) ?_)
  unfold setsByText
  refine wpAny_bind (wpAny_bind (wpAny_askSetting (wpAny_pure ?_)))
  show wpAny (model prog w) A (if byT w = true then _ else _) Q E s
  by_cases hb : byT w = true
  · rw [if_pos hb]
    simp only [bne_self_eq_false, Bool.false_eq_true, ↓reduceIte]
    unfold setWalk
    refine wpAny_bind (wpAny_bind (wpAny_setState_of ho rfl (t1_fits _) ?_))
    unfold setsByText
    refine wpAny_bind (wpAny_bind (wpAny_askSetting (wpAny_pure ?_)))
    show wpAny (model prog w) A (if byT w = true then _ else _) _ E s
    rw [if_pos hb]
    refine wpAny_bind (wpAny_askSetting (wpAny_pure (wpAny_pure ?_)))
    have e : ∀ f : Nat → Nat, pickOrder f #[((1 : Int), Value.bool true)] = #[(1, .bool true)] := fun f => by
      simp [pickOrder, pickOrder.go, Nat.mod_one]
    rw [e]
    exact h
  · rw [if_neg hb]
    have hb' : byT w = false := by simpa using hb
    dsimp only
    split
    · rename_i hq
      exact absurd hq (show ¬ ((!(sT1 (!byT w)).plain && decide (1 > 1)) = true) by simp)
    refine wpAny_bind ?_
    show wpAny (model prog w) A (if (!(sT1 (!byT w)).led && !(#[((1 : Int), Value.bool true)] : Array (Int × Value)).isEmpty) = true then _ else _) _ E s
    rw [t1_led, hb', if_neg (by decide)]
    refine wpAny_pure ?_
    rw [t1_place, hs hb']
    exact wpAny_pure h
theorem next_set0 {a J : Addr} {Q : Option Value → Shared → Prop} (ho : s.heap.get? a = some (sO1 (!byT w))) (hj : s.heap.get? J = some (sIt a 0 0 (.ref a))) (hne : a ≠ J)
    (h : ∀ h' (slot : Nat), Heap.SameBut J s.heap h' → h'.get? J = some (sIt a slot 1 (.ref a)) → (byT w = false → slot = 2) → Q (some (.bool true)) { s with heap := h' }) : wpAny (model prog w) A (pyNext (.ref J)) Q E s := by
  have hT : s.TypeIs (.ref J) "set_iterator" := ⟨_, hj, rfl⟩
  unfold pyNext
  refine wpAny_bind (wpAny_attempt (wpAny_callSpecial?_slot (name := Str.ofString "__next__") hT slot_setit_next
    (wpAny_call_entry slot_setit_next hT entry_setit_next ?_ (args_setit_next _))))
  unfold Builtin.«set_iterator.__next__»
  refine wpAny_bind (wpAny_pure ?_)
  refine wpAny_bind (wpAny_fieldsOf hj rfl ?_)
  show wpAny _ _ (setEntries a >>= _) _ _ s
  unfold setEntries
  refine wpAny_bind (wpAny_bind (wpAny_setState_of ho rfl (t1_fits _) (wpAny_pure ?_)))
  dsimp only
  rw [if_neg (by decide)]
  refine wpAny_bind (set_next0 ho fun slot hs => ?_)
  dsimp only
  refine wpAny_bind (wpAny_setField_rec hj (by simp [sIt]) fun h₁ hj₁ hs₁ => ?_)
  replace hj₁ : h₁.get? J = some (sIt a slot 0 (.ref a)) := hj₁
  refine wpAny_bind (wpAny_setField_rec hj₁ (by simp [sIt]) fun h₂ hj₂ hs₂ => ?_)
  exact wpAny_pure ⟨_, rfl, wpAny_pure (h h₂ slot (hs₁.trans hs₂) hj₂ hs)⟩
theorem next_set1 {a J : Addr} {slot : Nat} {Q : Option Value → Shared → Prop} (hh : A.handled = none) (ho : s.heap.get? a = some (sO1 (!byT w))) (hj : s.heap.get? J = some (sIt a slot 1 (.ref a))) (hs : byT w = false → slot = 2)
    (h : ∀ h', Heap.ExtBut J s.heap h' → Q none { s with heap := h' }) : wpAny (model prog w) A (pyNext (.ref J)) Q E s := by
  have hT : s.TypeIs (.ref J) "set_iterator" := ⟨_, hj, rfl⟩
  unfold pyNext
  refine wpAny_bind (wpAny_attempt (wpAny_callSpecial?_slot (name := Str.ofString "__next__") hT slot_setit_next
    (wpAny_call_entry slot_setit_next hT entry_setit_next ?_ (args_setit_next _))))
  unfold Builtin.«set_iterator.__next__»
  refine wpAny_bind (wpAny_pure ?_)
  refine wpAny_bind (wpAny_fieldsOf hj rfl ?_)
  show wpAny _ _ (setEntries a >>= _) _ _ s
  unfold setEntries
  refine wpAny_bind (wpAny_bind (wpAny_setState_of ho rfl (t1_fits _) (wpAny_pure ?_)))
  dsimp only
  rw [if_neg (by decide)]
  refine wpAny_bind (set_next1 ho hs ?_)
  dsimp only
  refine wpAny_bind (wpAny_setField_rec hj (by simp [sIt]) fun h₁ hj₁ hs₁ => ?_)
  show wpAny _ _ (newExc (.type "StopIteration") [] >>= _) _ _ _
  refine wpAny_bind ?_
  simp only [newExc, newTuple]
  refine wpAny_bind (wpAny_newObj_type ?_ (by size_fits))
  refine wpAny_bind (m := firstArgMember _ _) (wpAny_of_eq (a := Value.none) (by first | rfl | (simp only [firstArgMember]; rfl)) ?_)
  refine wpAny_newObj_type ?_ (by size_fits)
  simp only [raiseNew]
  refine wpAny_bind (wpAny_handled ?_)
  first | rw [show A.in1.handled = none from hh] | rw [hh]
  refine wpAny_bind (wpAny_pure (wpAny_throw ?_))
  refine wpAny_bind (wpAny_isInstance (T := "StopIteration") (b := true) ⟨_, Heap.get?_push_size _ rfl, rfl⟩ isSubtype_stop ?_)
  exact wpAny_pure (h _ ((hs₁.extBut.push _).push _))
theorem unpack_set {a : Addr} {Q : List Value → Shared → Prop} (hh : A.handled = none) (ho : s.heap.get? a = some (sO1 (!byT w)))
    (hQ : ∀ h', Kp s.heap h' → Q [.bool true] { s with heap := h' }) : wpAny (model prog w) A (unpackItems (.ref a) 1 none) Q E s := by
  have hT : s.TypeIs (.ref a) "set" := ⟨_, ho, rfl⟩
  have hlt : a ≠ s.heap.objs.size := Nat.ne_of_lt (Heap.lt_size ho)
  unfold unpackItems
  refine wpAny_bind ?_
  unfold notIterableAtAll
  refine wpAny_bind (wpAny_specialOf hT F.slot_set_iter.lookup ?_)
  refine wpAny_pure ?_
  simp only [Bool.false_eq_true, if_false]
  refine wpAny_bind (wpAny_holding (iter_set ho ?_))
  refine wpAny_bind (wpAny_holding ?_)
  show wpAny _ _ (pyNext _ >>= _) _ E _
  refine wpAny_bind (next_set0 (Heap.get?_push_of_some _ ho) (Heap.get?_push_size _ rfl) hlt fun h₁ slot hs₁ hj₁ hsl => ?_)
  refine wpAny_bind (wpAny_holding (wpAny_pure (wpAny_pure ?_)))
  rw [if_neg (by simp)]
  refine wpAny_bind (wpAny_holding (next_set1 hh (hs₁.extBut _ _ hlt (Heap.get?_push_of_some _ ho)) hj₁ hsl fun h₂ he₂ => ?_))
  simp only [Option.isSome_none, Bool.false_eq_true, if_false]
  refine wpAny_pure (hQ h₂ fun b o e => ?_)
  have hb : b ≠ s.heap.objs.size := Nat.ne_of_lt (Heap.lt_size e)
  exact he₂ b o hb (hs₁.extBut b o hb (Heap.get?_push_of_some _ e))
end
end

/-! part SetComp -/
section
set_option maxRecDepth 100000
set_option maxHeartbeats 0
open LCg
theorem compTurn_set (elt target iter : Expr) (ifs : List Expr) (scope : Scope) (pos : Pos) (it acc : Value) (env : Env) :
    compTurn (.SetComp elt [⟨target, iter, ifs, 0⟩] scope pos) 0 it acc env = (do
      standAt iter.pos
      match ← pyNext it with
      | none => pure (.done .next)
      | some v =>
        letOwnedTupleGo target it v
        assign target env v
        let mut ok := true
        for c in ifs do
          if ok then ok ← isTrue c env (eval c env)
        if ok then
          (do let v ← eval elt env; standAt elt.pos; let _ ← call (.builtin "set.add") [acc, v])
        again (.compLoop (.SetComp elt [⟨target, iter, ifs, 0⟩] scope pos) 0 it acc env)) := by rfl
section
variable {prog : Program} {w : World} {A : Around} {E : Value → Shared → Prop} {R : Result → Shared → Prop} {s : Shared}
theorem compLoop_set {elt target iter : Expr} {ifs : List Expr} {scope : Scope} {pos : Pos} {it acc : Value} {env : Env} (I : Nat → Shared → Prop)
    (turn : ∀ n s, I n s → wpAny (model prog w) A (pyNext it) (fun r s₁ => match r with
      | none => R (.ok .next) s₁
      | some v => wpAny (model prog w) A (assign target env v) (fun _ s₂ =>
          wpAny (model prog w) A (forIn ifs true fun c r => if r = true then do let ok ← isTrue c env (eval c env); pure (ForInStep.yield ok) else pure (ForInStep.yield r)) (fun ok s₃ =>
            if ok = true then wpAny (model prog w) A (eval elt env) (fun x s₄ =>
              wpAny (model prog w) A (call (.builtin "set.add") [acc, x]) (fun _ s₅ => ∃ m, m < n ∧ I m s₅) (notedBy (model prog w) A env fun e s' => R (.error e) s') s₄) (notedBy (model prog w) A env fun e s' => R (.error e) s') s₃
            else ∃ m, m < n ∧ I m s₃) (notedBy (model prog w) A env fun e s' => R (.error e) s') s₂) (notedBy (model prog w) A env fun e s' => R (.error e) s') s₁) (notedBy (model prog w) A env fun e s' => R (.error e) s') s)
    (n : Nat) (h : I n s) (ht : ∀ v, letOwnedTupleGo target it v = pure () := by intro _; rfl) :
    codeAny (model prog w) A (.compLoop (.SetComp elt [⟨target, iter, ifs, 0⟩] scope pos) 0 it acc env) R s := by
  refine codeAny_loop rfl I (fun n s hI => ?_) n h
  show wpAny _ A ((compTurn (.SetComp elt [⟨target, iter, ifs, 0⟩] scope pos) 0 it acc env).onRaise (fun x => do noteFrame x env; theTreesLotGoes x)) _ _ s
  refine wpAny_noted ?_
  rw [compTurn_set]
  refine wpAny_bind (wpAny_standAt (wpAny_bind (wpAny_mono (turn n s hI) (fun r s₁ h₁ => ?_) fun _ _ h' => h')))
  cases r with
  | none => exact wpAny_pure h₁
  | some v =>
    refine wpAny_bind (wpAny_of_eq (ht v) ?_)
    refine wpAny_bind (wpAny_mono h₁ (fun _ s₂ h₂ => wpAny_bind (wpAny_mono h₂ (fun ok s₃ h₃ => ?_) fun _ _ h' => h')) fun _ _ h' => h')
    cases ok with
    | false => exact wpAny_pure ⟨rfl, h₃⟩
    | true =>
      exact wpAny_bind (wpAny_bind (wpAny_mono h₃ (fun x s₄ h₄ => wpAny_bind (wpAny_standAt (wpAny_bind (wpAny_mono h₄ (fun _ s₅ h₅ => wpAny_pure (wpAny_pure ⟨rfl, h₅⟩)) fun _ _ h' => h')))) fun _ _ h' => h'))
theorem compStart_set {elt target iter ifs rest scope pos it acc env}
    (h0 : codeAny (model prog w) A (.compLoop (.SetComp elt (⟨target, iter, ifs, 0⟩ :: rest) scope pos) 0 it acc env) R s)
    (h : wpAny (model prog w) A (pyIter it) (fun it' s' => codeAny (model prog w) A (.compLoop (.SetComp elt (⟨target, iter, ifs, 0⟩ :: rest) scope pos) 0 it' acc env) R s')
      (notedBy (model prog w) A env fun x s' => R (.error x) s') s) :
    codeAny (model prog w) A (.compStart (.SetComp elt (⟨target, iter, ifs, 0⟩ :: rest) scope pos) 0 it acc env) R s := by
  refine codeAny_of_tree ?_
  show wpAny _ _ ((compStart (.SetComp elt (⟨target, iter, ifs, 0⟩ :: rest) scope pos) 0 it acc env).onRaise (fun x => do noteFrame x env; standAt theWindowsPlace)) _ _ s
  refine wpAny_notedAt ?_
  unfold compStart
  show wpAny _ _ (ask >>= _) _ _ s
  refine wpAny_bind (wpAny_askSetting (wpAny_ite ?_))
  split
  · first
      | exact wpAny_bind (wpAny_pure (wpAny_pure (And.intro rfl h0)))
      | exact wpAny_pure (And.intro rfl h0)
  · first
      | exact wpAny_bind (wpAny_rule (wpAny_bind (wpAny_standAt (wpAny_bind (wpAny_mono h (fun it' s' h' => wpAny_pure (And.intro rfl h')) fun _ _ x => x)))))
      | (refine wpAny_bind (wpAny_rule ?_); show wpAny _ _ (standAt iter.pos >>= _) _ _ s; exact wpAny_bind (wpAny_standAt (wpAny_bind (wpAny_mono h (fun it' s' h' => wpAny_pure (And.intro rfl h')) fun _ _ x => x))))
end
section
variable {prog : Program} {w : World} {A : Around} {E : Value → Shared → Prop} {s : Shared} {h₀ : Heap} {L : Addr} {m : Str → Option Value} {env : Env}
noncomputable def SetStep (prog : Program) (w : World) (A : Around) (h₀ : Heap) (L : Addr) (m : Str → Option Value) (env : Env) (elt : Expr) (x : Str) (scope : Scope) (cl : List (Str × Addr)) (s : Shared) (P : Nat → Value → Prop) (n : Nat) (news : List (Addr × Obj)) : Prop :=
  ∀ (i : Nat) (v : Value) (I : Addr) (oI : Obj) (C : Addr) (oC : Obj) (D : Addr) (oD : Obj) (m₂ : Str → Option Value) (h : Heap) (tk : Nat) (E' : Value → Shared → Prop), i < n → P i v → NsObj oC m₂ → m₂ x = some v → Fr h₀ L h m → News h₀ L h ((I, oI) :: (C, oC) :: (D, oD) :: news) → Off3 I C D news → ((@Ne Nat I C) ∧ (@Ne Nat I D) ∧ (@Ne Nat C D)) →
      wpAny (model prog w) A (eval elt (compEnvC scope cl C env)) (KeepQ s h₀ L m ((I, oI) :: (C, oC) :: (D, oD) :: news) (· = .bool true)) E' { s with heap := h, toks := tk }
noncomputable def SrcS (prog : Program) (w : World) (A : Around) (h₀ : Heap) (L : Addr) (m : Str → Option Value) (env : Env) (elt : Expr) (x : Str) (scope : Scope) (cl : List (Str × Addr)) (Q : Value → Shared → Prop) (xv : Value) (s₁ : Shared) : Prop :=
  ∃ (news : List (Addr × Obj)) (n : Nat) (P : Nat → Value → Prop) (S : List (Addr × Obj) → Prop), Fr h₀ L s₁.heap m ∧ News h₀ L s₁.heap news ∧ S news ∧ 1 ≤ n ∧ Iters prog w A h₀ L xv s₁ n P S ∧
      SetStep prog w A h₀ L m env elt x scope cl s₁ P n news ∧
      ∀ D h tk, Fr h₀ L h m → News h₀ L h ((D, sO1 (!byT w)) :: news) → Off1 D news → Q (.ref D) { s₁ with heap := h, toks := tk }
theorem SetComp_true {elt iter : Expr} {x : Str} {px : Pos} {scope : Scope} {cl : List (Str × Addr)} {pos : Pos} {Q : Value → Shared → Prop} (_F₀ : Fr h₀ L s.heap m)
    (hclos : closureFor scope env = pure cl) (hcell : ∀ y ∈ scope.names, y.2 ≠ .cell) (hkind : scope.kind = .function)
    (hnames : ∀ y ∈ scope.names, y.2 = .local → scope.names.lookup y.1 = some .local) (hx : scope.names.lookup x = some .local)
    (h : wpAny (model prog w) A (eval iter env) (SrcS prog w A h₀ L m env elt x scope cl Q) E s)
    (hs : ∀ x, foldedSetIterable iter env x = pure x := by intro _; rfl) :
    wpAny (model prog w) A (eval (.SetComp elt [⟨.Name x px, iter, [], 0⟩] scope pos) env) Q E s := by
  show wpAny _ A (comprehension (.SetComp elt [⟨.Name x px, iter, [], 0⟩] scope pos) scope env _ (newSet (.type "set")) false (eval iter env)) _ _ s
  refine wpAny_comprehension_free (use := none) rfl hs hclos hkind hnames (wpAny_mono h (fun xv s₁ h₁ => ?_) fun _ _ e => e)
  obtain ⟨news, n, P, S, F, N, hS, hn1, hit, step, fin⟩ := h₁
  refine hit _ _ fun I hp fp St W hIo hSt hst hfp kp nI => ?_
  have nn : ∀ a o, s₁.heap.get? a = some o → a ≠ I := fun a o e q => by rw [q, nI] at e; cases e
  have hI₀ : h₀.get? I = none := by
    cases e : h₀.get? I with
    | none => rfl
    | some o => exact absurd rfl (nn _ _ (F.keep _ _ e))
  have hIL : L ≠ I := by obtain ⟨o, _, _, e, _⟩ := F.ns; exact nn _ _ e
  have off : ∀ p ∈ news, p.1 ≠ I := fun p hp => nn _ _ (N p hp).1
  replace F : Fr h₀ L hp m := F.keeps kp
  replace N : News h₀ L hp news := N.grown kp
  refine newset (wpAny_newFunctionEnv hcell (by intro y hy; simp at hy) (fun h₁ hns₁ hsb₁ => ?_) hkind)
  dsimp only at hns₁ hsb₁ ⊢
  generalize hH2 : hp.push (sO0 (!byT w)) = H2 at hns₁ hsb₁ ⊢
  have hC : H2.objs.size = hp.objs.size + 1 := by rw [← hH2, Heap.size_push]
  have hDC : hp.objs.size ≠ H2.objs.size := by rw [hC]; exact Nat.ne_of_lt (Nat.lt_succ_self _)
  have below : ∀ b, b < hp.objs.size → b ≠ H2.objs.size ∧ b ≠ hp.objs.size := fun b hb => ⟨by rw [hC]; exact Nat.ne_of_lt (Nat.lt_succ_of_lt hb), Nat.ne_of_lt hb⟩
  have hDf : hp.objs.size ∉ fp := fun hm => Nat.lt_irrefl _ (hfp _ hm)
  have hCf : H2.objs.size ∉ fp := fun hm => by have := hfp _ hm; rw [hC] at this; exact Nat.lt_irrefl _ (Nat.lt_of_succ_lt this)
  have hIf : I ∈ fp := W.sub I (List.mem_singleton.mpr rfl)
  have hIlt : I < hp.objs.size := hfp I hIf
  have old : ∀ b o, hp.get? b = some o → h₁.get? b = some o := fun b o e => hsb₁.extBut b o (below b (Heap.lt_size e)).1 (Heap.get?_push_of_some _ (hH2 ▸ Heap.get?_push_of_some _ e))
  have hacc : h₁.get? hp.objs.size = some (sO0 (!byT w)) := hsb₁.extBut _ _ hDC (Heap.get?_push_of_some _ (hH2 ▸ Heap.get?_push_size _ rfl))
  have hst₁ : St 0 h₁ := W.frame _ _ _ hst fun b _ o e => old b o e
  have fresh₀ : ∀ a, hp.objs.size ≤ a → h₀.get? a = none := fun a ha => by
    cases e : h₀.get? a with
    | none => rfl
    | some o' => exact absurd (Heap.lt_size (F.keep a o' e)) (Nat.not_lt.mpr ha)
  have hD₀ : h₀.get? hp.objs.size = none := fresh₀ _ (Nat.le_refl _)
  have hC₀ : h₀.get? H2.objs.size = none := fresh₀ _ (by rw [hC]; exact Nat.le_succ _)
  have hLlt : L < hp.objs.size := F.ns.lt
  have hDL : hp.objs.size ≠ L := Ne.symm (below L hLlt).2
  have hCL : H2.objs.size ≠ L := Ne.symm (below L hLlt).1
  have hCI : I ≠ H2.objs.size := (below I hIlt).1
  have hDI : I ≠ hp.objs.size := (below I hIlt).2
  have off₀ : Off3 I H2.objs.size hp.objs.size news := Off3.of fun p hp => ⟨off p hp, (below _ (Heap.lt_size (N p hp).1)).1, (below _ (Heap.lt_size (N p hp).1)).2⟩
  have off3 := off₀.mem
  have loop : ∀ s₃ : Shared, s₃ = { s₁ with heap := h₁, toks := s₁.toks + ([] : List (Str × Value)).length } →
      codeAny (model prog w) A (.compLoop (.SetComp elt [⟨.Name x px, iter, [], 0⟩] scope pos) 0 (.ref I) (.ref hp.objs.size) (compEnvC scope cl H2.objs.size env))
        (compPost (model prog w) A E none Q (.ref hp.objs.size) H2.objs.size) s₃ := by
    rintro s₃ rfl
    refine compLoop_set
      (fun k s' => ∃ h' tk i m', s' = { s₁ with heap := h', toks := tk } ∧ i ≤ n ∧ k = n + 1 - i ∧ St i h' ∧ Fr h₀ L h' m ∧ h'.Ns H2.objs.size m' ∧ News h₀ L h' ((hp.objs.size, if i = 0 then sO0 (!byT w) else sO1 (!byT w)) :: news)) ?_ (n + 1)
      ⟨h₁, _, 0, _, rfl, Nat.zero_le _, rfl, hst₁, F.keeps old, hns₁, fun p hp => ?_⟩
    · rintro k s' ⟨h', tk, i, m', rfl, hi, rfl, hst', F', hn', N'⟩
      by_cases hlt : i < n
      · refine W.item i _ _ _ hlt hst' fun v h₂ tk₂ hPv hst₂ hk₂ => ?_
        refine wpAny_assign_Name (wpAny_storeName_local (lookup_relabel_local hx) (hn'.at' fun o e => hk₂ _ o (by simpa using Ne.symm hCI) e) (fun h₃ hn₃ hs₃ => ?_) (by simp [compEnvC, relabel, hkind]))
        refine wpAny_tests_nil ?_
        simp only [if_true]
        have hst₃ : St (i + 1) h₃ := W.frame _ _ _ hst₂ fun b hb o e => hs₃.extBut b o (fun q => hCf (by have q' : b = H2.objs.size := q; rw [← q']; exact hb)) e
        obtain ⟨oI, heI⟩ := hIo _ _ hst₃
        obtain ⟨oC, heC, hoC⟩ := ns_obj hn₃
        have F₃ : Fr h₀ L h₃ m := (fr_but F' hk₂ hIL hI₀).change hs₃ hCL hC₀
        have N₂ : News h₀ L h₂ ((hp.objs.size, if i = 0 then sO0 (!byT w) else sO1 (!byT w)) :: news) := news_but N' hk₂ fun p hp => by
          rcases List.mem_cons.mp hp with rfl | hp
          · exact Ne.symm hDI
          · exact (off3 p hp).1
        have N₃ : News h₀ L h₃ ((I, oI) :: (H2.objs.size, oC) :: (hp.objs.size, if i = 0 then sO0 (!byT w) else sO1 (!byT w)) :: news) := fun p hp => by
          rcases List.mem_cons.mp hp with rfl | hp
          · exact ⟨heI, Ne.symm hIL, hI₀⟩
          · rcases List.mem_cons.mp hp with rfl | hp
            · exact ⟨heC, hCL, hC₀⟩
            · have z := N₂ p hp
              refine ⟨hs₃.extBut _ _ ?_ z.1, z.2⟩
              rcases List.mem_cons.mp hp with rfl | hp
              · exact hDC
              · exact (off3 p hp).2.1
        refine wpAny_mono (step i v I oI H2.objs.size oC hp.objs.size _ _ h₃ _ _ hlt hPv hoC (by simp) F₃ N₃ off₀ ⟨hCI, hDI, Ne.symm hDC⟩) (fun y s₄ h₄ => ?_) fun _ _ e => e
        obtain ⟨rfl, h₄, tk₄, rfl, F₄, N₄⟩ := h₄
        have zI := (N₄ (I, oI) List.mem_cons_self).1
        have zC := (N₄ (H2.objs.size, oC) (List.mem_cons_of_mem _ List.mem_cons_self)).1
        have zD := (N₄ (hp.objs.size, _) (List.mem_cons_of_mem _ (List.mem_cons_of_mem _ List.mem_cons_self))).1
        have N₄' : News h₀ L h₄ news := fun p hp => N₄ p (List.mem_cons_of_mem _ (List.mem_cons_of_mem _ (List.mem_cons_of_mem _ hp)))
        have hst₄ : St (i + 1) h₄ := hSt _ _ _ _ _ hst₃ heI zI F₄.keep N₄' hS
        by_cases h0 : i = 0
        · subst h0
          simp only [↓reduceIte] at zD
          refine set_add0 zD fun h₅ tk₅ hs₅ hD₅ => ?_
          refine ⟨n + 1 - (0 + 1), by omega, h₅, tk₅, 0 + 1, _, rfl, hlt, rfl, W.frame _ _ _ hst₄ fun b hb o e => hs₅.extBut b o (fun q => hDf (q ▸ hb)) e, F₄.change hs₅ hDL hD₀,
            (hoC.ns zC).sameBut hs₅ (Ne.symm hDC), fun p hp => ?_⟩
          rcases List.mem_cons.mp hp with rfl | hp
          · exact ⟨hD₅, hDL, hD₀⟩
          · exact ⟨hs₅.extBut _ _ (off3 p hp).2.2 (N₄' p hp).1, (N₄' p hp).2⟩
        · rw [if_neg h0] at zD
          refine set_add1 zD fun tk₅ => ?_
          refine ⟨n + 1 - (i + 1), by omega, h₄, tk₅, i + 1, _, rfl, hlt, rfl, hst₄, F₄, hoC.ns zC, fun p hp => ?_⟩
          rcases List.mem_cons.mp hp with rfl | hp
          · exact ⟨zD, hDL, hD₀⟩
          · exact ⟨(N₄' p hp).1, (N₄' p hp).2⟩
      · obtain rfl : i = n := Nat.le_antisymm hi (Nat.not_lt.mp hlt)
        refine W.done _ _ _ hst' fun h₂ tk₂ hk₂ => ?_
        rw [if_neg (by omega)] at N'
        have N₂ := news_but N' hk₂ fun p hp => by
          rcases List.mem_cons.mp hp with rfl | hp
          · exact Ne.symm hDI
          · exact (off3 p hp).1
        refine ⟨m', hn'.at' fun o e => hk₂ _ o (by simpa using Ne.symm hCI) e, fun h'' hs'' => fin _ h'' tk₂ ((fr_but F' hk₂ hIL hI₀).change hs'' hCL hC₀) (fun p hp => ?_) off₀.one⟩
        refine ⟨hs''.extBut _ _ ?_ (N₂ p hp).1, (N₂ p hp).2⟩
        rcases List.mem_cons.mp hp with rfl | hp
        · exact hDC
        · exact (off3 p hp).2.1
    · rcases List.mem_cons.mp hp with rfl | hp
      · exact ⟨hacc, hDL, hD₀⟩
      · exact ⟨old _ _ (N p hp).1, (N p hp).2⟩
  exact compStart_set (loop _ rfl) (W.self 0 _ _ _ hst₁ (loop _ rfl))
theorem SrcS.tup {elt : Expr} {x : Str} {scope : Scope} {cl : List (Str × Addr)} {Q : Value → Shared → Prop} {ax : Addr} {its : Array Value} {news : List (Addr × Obj)}
    (hh : A.handled = none) (F : Fr h₀ L s.heap m) (N : News h₀ L s.heap news) (hm : (ax, tupO its) ∈ news) (hn : 1 ≤ its.size)
    (hstep : SetStep prog w A h₀ L m env elt x scope cl s (fun i v => its[i]? = some v) its.size news)
    (fin : ∀ D h tk, Fr h₀ L h m → News h₀ L h ((D, sO1 (!byT w)) :: news) → Off1 D news → Q (.ref D) { s with heap := h, toks := tk }) :
    SrcS prog w A h₀ L m env elt x scope cl Q (.ref ax) s :=
  ⟨news, its.size, _, _, F, N, hm, hn, Iters.tupN hh N hm, hstep, fin⟩
theorem assign_set1 {a : Addr} {y : Str} {py pos : Pos} {x1 : Nat} {Q : Unit → Shared → Prop} (hh : A.handled = none) (ho : s.heap.get? a = some (sO1 (!byT w)))
    (h : ∀ h', Kp s.heap h' → wpAny (model prog w) A (assign (.Name y py) env (.bool true)) Q E { s with heap := h' }) :
    wpAny (model prog w) A (assign (.Tuple [.Name y py] x1 pos) env (.ref a)) Q E s := by
  rw [arm_assign_Tuple]
  refine wpAny_bind (wpAny_standAt ?_)
  unfold unpack
  refine wpAny_bind (wpAny_holding (unpack_set hh ho fun h' kp => ?_))
  exact wpAny_bind (wpAny_holding (wpAny_mono (h h' kp) (fun _ s' hq => wpAny_pure hq) fun _ _ e => e))
end
end

/-! part Split -/
section
set_option maxRecDepth 100000
set_option maxHeartbeats 0
noncomputable def stp (b : Bool) : Str := ⟨#[lt2 b]⟩
noncomputable def parts (p : List Bool) : List Str := ⟨#[]⟩ :: (if p = [] then [⟨#[]⟩] else p.map stp)
noncomputable def paths : Nat → List (List Bool)
  | 0 => [[]]
  | n + 1 => [] :: (paths n).flatMap fun p => [false :: p, true :: p]
theorem mem_paths : ∀ (n : Nat) (p : List Bool), p.length ≤ n → p ∈ paths n
  | 0, [], _ => by simp [paths]
  | n + 1, [], _ => by simp [paths]
  | n + 1, b :: p, h => by
    have := mem_paths n p (by simpa using h)
    simp only [paths, List.mem_cons, List.mem_flatMap]
    exact .inr ⟨p, this, by cases b <;> simp⟩
theorem split_all : ∀ p ∈ paths 6, Txt.split (pstr p) ⟨#[47]⟩ = parts p := by decide +kernel
theorem split_pstr {p : List Bool} (h : p.length ≤ 6) : Txt.split (pstr p) (Str.ofString "/") = parts p := by rw [slash]; exact split_all p (mem_paths 6 p h)
theorem start_pstr (p : List Bool) : Txt.startswith (pstr p) (Str.ofString "/") = true := by
  rw [slash]
  cases p with
  | nil => decide +kernel
  | cons b p =>
    have e : StrLaws.At (pstr (b :: p)) ⟨#[47]⟩ (pstr (b :: p)).length 0 := (StrLaws.subAt_one (pstr (b :: p)) 47 0).mpr rfl
    have hl := (pstr_len (b :: p)).1
    unfold Txt.startswith
    obtain ⟨e1, e2⟩ := e
    simp only [Bool.and_eq_true, decide_eq_true_eq]
    exact ⟨by show 0 + 1 ≤ _; omega, e2⟩
/-- the parts that the test keeps -/
noncomputable def keepP (l : List (Str × Tok)) (i : Nat) : Bool := decide ((l.map (·.1))[i]? ≠ some ⟨#[]⟩)
noncomputable def valP (l : List (Str × Tok)) (i : Nat) : Value := (strValues l).getD i .none
theorem range_pick {α β : Type} (d : β) (f : α → β) (q : α → Bool) : ∀ (l : List α) (k : Nat) (g : Nat → Bool) (v : Nat → β), (∀ i a, l[i]? = some a → g (k + i) = q a ∧ v (k + i) = f a) →
    ((List.range' k l.length).filter g).map v = (l.filter q).map f
  | [], _, _, _, _ => rfl
  | a :: l, k, g, v, h => by
    have h0 := h 0 a rfl
    have ih := range_pick d f q l (k + 1) g v (fun i b hb => by have := h (i + 1) b (by simpa using hb); rwa [show k + (i + 1) = k + 1 + i by omega] at this)
    rw [List.length_cons, List.range'_succ, List.filter_cons, List.filter_cons]
    rw [Nat.add_zero] at h0
    rw [h0.1]
    split
    · rw [List.map_cons, List.map_cons, ih, h0.2]
    · exact ih
theorem parts_pick {l : List (Str × Tok)} {p : List Bool} (e : l.map (·.1) = parts p) : ∃ r : List (Str × Tok), r.map (·.1) = p.map stp ∧ ((List.range l.length).filter (keepP l)).map (valP l) = strValues r := by
  refine ⟨l.filter (fun x => decide (x.1 ≠ ⟨#[]⟩)), ?_, ?_⟩
  · have e2 : (l.filter (fun x => decide (x.1 ≠ ⟨#[]⟩))).map (·.1) = (l.map (·.1)).filter (fun x => decide (x ≠ ⟨#[]⟩)) := by
      rw [List.filter_map]; rfl
    rw [e2, e]
    have e3 : ∀ q : List Bool, (q.map stp).filter (fun x => decide (x ≠ ⟨#[]⟩)) = q.map stp := fun q => by
      refine List.filter_eq_self.mpr fun x hx => ?_
      obtain ⟨b, _, rfl⟩ := List.mem_map.mp hx
      cases b <;> decide
    unfold parts
    by_cases hp : p = []
    · subst hp; decide
    · rw [if_neg hp, List.filter_cons, e3]; simp
  · rw [List.range_eq_range']
    refine range_pick Value.none (fun x : Str × Tok => Value.str x.1 x.2) _ l 0 _ _ fun i a ha => ?_
    rw [Nat.zero_add]
    refine ⟨?_, ?_⟩
    · unfold keepP
      rw [List.getElem?_map, ha]
      simp
    · unfold valP
      rw [List.getD_eq_getElem?_getD, strValues, List.getElem?_map, ha]; rfl
theorem parts_cases {p : List Bool} {x : Str} (h : x ∈ parts p) : x = ⟨#[]⟩ ∨ x = ⟨#[108]⟩ ∨ x = ⟨#[114]⟩ := by
  unfold parts at h
  rcases List.mem_cons.mp h with h | h
  · exact .inl h
  · split at h
    · exact .inl (by simpa using h)
    · obtain ⟨b, _, rfl⟩ := List.mem_map.mp h
      cases b
      · exact .inr (.inl rfl)
      · exact .inr (.inr rfl)
theorem strValues_length (l : List (Str × Tok)) : (strValues l).length = l.length := by simp [strValues]
theorem parts_length (p : List Bool) : (parts p).length ≤ p.length + 2 := by
  unfold parts
  split <;> simp
theorem parts_size {l : List (Str × Tok)} {p : List Bool} (e : l.map (·.1) = parts p) (hp : p.length ≤ 6) : (strValues l).toArray.size ≤ sizeLine := by
  rw [List.size_toArray, strValues_length, sizeLine_eq]
  have := congrArg List.length e
  rw [List.length_map] at this
  have := parts_length p
  omega
theorem part_at {l : List (Str × Tok)} {p : List Bool} (e : l.map (·.1) = parts p) {i : Nat} {v : Value} (h : (strValues l).toArray[i]? = some v) :
    ∃ x t, v = .str x t ∧ (x = ⟨#[]⟩ ∨ x = ⟨#[108]⟩ ∨ x = ⟨#[114]⟩) ∧ keepP l i = decide (x ≠ ⟨#[]⟩) ∧ valP l i = .str x t := by
  rw [List.getElem?_toArray, strValues, List.getElem?_map] at h
  obtain ⟨a, ha, rfl⟩ := Option.map_eq_some_iff.mp h
  refine ⟨a.1, a.2, rfl, parts_cases (p := p) ?_, ?_, ?_⟩
  · rw [← e]; exact List.mem_map.mpr ⟨a, List.mem_of_getElem? ha, rfl⟩
  · unfold keepP; rw [List.getElem?_map, ha]; simp
  · unfold valP; rw [List.getD_eq_getElem?_getD, strValues, List.getElem?_map, ha]; rfl
theorem nameOf {l : List (Str × Tok)} {r : List Str} (_ : l.map (·.1) = r) : ∃ q, q = l := ⟨l, rfl⟩
end

/-! part SCmp -/
section
set_option maxRecDepth 100000
set_option maxHeartbeats 0
open PySem.SeqAt PySem.AutoSeq1 PySem.MeetsSeq PySem.MeetsSeq2 PySem.MeetsSeq3
/-- the order of two lists of steps -/
noncomputable def lexLt : List Bool → List Bool → Bool
  | _, [] => false
  | [], _ :: _ => true
  | a :: p, b :: q => if a = b then lexLt p q else b
theorem ord_lt (p q : List Bool) : ∀ k i : Nat, min p.length q.length - i = k → i ≤ min p.length q.length →
    ordRes .Lt (fun j => decide (p.getD j false = q.getD j false)) (fun j => !(p.getD j false) && q.getD j false) p.length q.length k i = lexLt (p.drop i) (q.drop i) := by
  intro k
  induction k with
  | zero =>
    intro i hk hi
    rw [ordRes]
    show decide (p.length < q.length) = _
    by_cases h1 : q.length ≤ i
    · rw [List.drop_eq_nil_of_le h1]
      have : ¬ p.length < q.length := by omega
      simp only [this, decide_false]
      cases p.drop i <;> rfl
    · have h2 : p.length ≤ i := by omega
      rw [List.drop_eq_nil_of_le h2, List.drop_eq_getElem_cons (Nat.lt_of_not_le h1)]
      have : p.length < q.length := by omega
      simp [this, lexLt]
  | succ k ih =>
    intro i hk hi
    have hp : i < p.length := by omega
    have hq : i < q.length := by omega
    rw [ordRes, List.drop_eq_getElem_cons hp, List.drop_eq_getElem_cons hq, lexLt]
    have e1 : p.getD i false = p[i] := by simp [List.getD_eq_getElem?_getD, hp]
    have e2 : q.getD i false = q[i] := by simp [List.getD_eq_getElem?_getD, hq]
    simp only [e1, e2, decide_eq_true_eq]
    by_cases h : p[i] = q[i]
    · rw [if_pos h, if_pos h]
      exact ih (i + 1) (by omega) (by omega)
    · rw [if_neg h, if_neg h]
      cases hp' : p[i] <;> cases hq' : q[i] <;> simp_all
theorem ord_gt (p q : List Bool) : ∀ k i : Nat, min p.length q.length - i = k → i ≤ min p.length q.length →
    ordRes .Gt (fun j => decide (p.getD j false = q.getD j false)) (fun j => p.getD j false && !(q.getD j false)) p.length q.length k i = lexLt (q.drop i) (p.drop i) := by
  intro k
  induction k with
  | zero =>
    intro i hk hi
    rw [ordRes]
    show decide (p.length > q.length) = _
    by_cases h1 : p.length ≤ i
    · rw [List.drop_eq_nil_of_le h1]
      have : ¬ p.length > q.length := by omega
      simp only [this, decide_false]
      cases q.drop i <;> rfl
    · have h2 : q.length ≤ i := by omega
      rw [List.drop_eq_nil_of_le h2, List.drop_eq_getElem_cons (Nat.lt_of_not_le h1)]
      have : p.length > q.length := by omega
      simp [this, lexLt]
  | succ k ih =>
    intro i hk hi
    have hp : i < p.length := by omega
    have hq : i < q.length := by omega
    rw [ordRes, List.drop_eq_getElem_cons hp, List.drop_eq_getElem_cons hq, lexLt]
    have e1 : p.getD i false = p[i] := by simp [List.getD_eq_getElem?_getD, hp]
    have e2 : q.getD i false = q[i] := by simp [List.getD_eq_getElem?_getD, hq]
    simp only [e1, e2, decide_eq_true_eq]
    by_cases h : p[i] = q[i]
    · rw [if_pos h, if_pos h.symm]
      exact ih (i + 1) (by omega) (by omega)
    · rw [if_neg h, if_neg (Ne.symm h)]
      cases hp' : p[i] <;> cases hq' : q[i] <;> simp_all
section
variable {A : Around} {s : Shared}
theorem step_at {r : List (Str × Tok)} {p : List Bool} (e : r.map (·.1) = p.map stp) {j : Nat} (h : j < (strValues r).toArray.size) : ∃ t, (strValues r).toArray[j] = .str (stp (p.getD j false)) t := by
  have hj : j < r.length := by simpa [strValues] using h
  have hl : r.length = p.length := by simpa using congrArg List.length e
  have e1 : (r.map (·.1))[j]? = (p.map stp)[j]? := by rw [e]
  rw [List.getElem?_map, List.getElem?_map, List.getElem?_eq_getElem hj, List.getElem?_eq_getElem (by omega)] at e1
  have e2 : r[j].1 = stp p[j] := by simpa using e1
  refine ⟨r[j].2, ?_⟩
  simp only [strValues, List.getElem_toArray, List.getElem_map]
  rw [e2, List.getD_eq_getElem?_getD, List.getElem?_eq_getElem (by omega)]; rfl
theorem step_eqAt (a b : Bool) (t u : Tok) : EqAt A s (.str (stp a) t) (.str (stp b) u) (decide (a = b)) := fun prog w E Q h => by
  refine wpAny_eqBool_str ?_
  have : decide (stp a = stp b) = decide (a = b) := by cases a <;> cases b <;> decide
  rw [this]; exact h
theorem step_ltAt (a b : Bool) (t u : Tok) : CmpAt .Lt A s (.str (stp a) t) (.str (stp b) u) (!a && b) := fun prog w E Q h => by
  refine (lt_str ?_ : wpAny (model prog w) A (compareOp .Lt (.str (stp a) t) (.str (stp b) u)) Q E s)
  have : decide ((stp a).cps.toList < (stp b).cps.toList) = (!a && b) := by cases a <;> cases b <;> decide
  rw [this]; exact h
theorem step_gtAt (a b : Bool) (t u : Tok) : CmpAt .Gt A s (.str (stp a) t) (.str (stp b) u) (a && !b) := fun prog w E Q h => by
  refine (PySem.P.gt_str ?_ : wpAny (model prog w) A (compareOp .Gt (.str (stp a) t) (.str (stp b) u)) Q E s)
  have : decide ((stp b).cps.toList < (stp a).cps.toList) = (a && !b) := by cases a <;> cases b <;> decide
  rw [this]; exact h
theorem steps_lt {a b : Addr} {r r' : List (Str × Tok)} {p q : List Bool} (ha : s.heap.IsList a (strValues r).toArray) (hb : s.heap.IsList b (strValues r').toArray) (er : r.map (·.1) = p.map stp) (er' : r'.map (·.1) = q.map stp) (hu : A.units < cLine) :
    CmpAt .Lt A s (.ref a) (.ref b) (lexLt p q) := fun prog w E Q h => by
  obtain ⟨⟨cls, dd, data, sl⟩, ho, hc, n, hdt⟩ := ha
  obtain ⟨⟨cls2, dd2, data2, sl2⟩, ho2, hc2, n2, hdt2⟩ := hb
  simp only at hc hdt hc2 hdt2
  subst hc hdt hc2 hdt2
  have key := ord_lt p q _ 0 rfl (Nat.zero_le _)
  rw [List.drop_zero, List.drop_zero] at key
  have e1 : (strValues r).toArray.size = p.length := by simpa [strValues] using congrArg List.length er
  have e2 : (strValues r').toArray.size = q.length := by simpa [strValues] using congrArg List.length er'
  rw [← key, ← e1, ← e2] at h
  exact richCompare_meets_room (op := .Lt) ⟨_, ho, rfl⟩ ⟨_, ho2, rfl⟩ F.slot_list_lt F.entry_list_lt (F.args_list_lt_2 _ _) (list_ltAt a b _ _ n n2 dd dd2 sl sl2 _ _)
    ⟨ho, ho2, (fun j h1 h2 => by obtain ⟨t, x1⟩ := step_at er h1; obtain ⟨u, x2⟩ := step_at er' h2; rw [x1, x2]; exact step_eqAt _ _ _ _), (fun j h1 h2 _ => by obtain ⟨t, x1⟩ := step_at er h1; obtain ⟨u, x2⟩ := step_at er' h2; rw [x1, x2]; exact step_ltAt _ _ _ _), ⟨(fun x => nomatch x), h⟩⟩ hu
theorem steps_gt {a b : Addr} {r r' : List (Str × Tok)} {p q : List Bool} (ha : s.heap.IsList a (strValues r).toArray) (hb : s.heap.IsList b (strValues r').toArray) (er : r.map (·.1) = p.map stp) (er' : r'.map (·.1) = q.map stp) (hu : A.units < cLine) :
    CmpAt .Gt A s (.ref a) (.ref b) (lexLt q p) := fun prog w E Q h => by
  obtain ⟨⟨cls, dd, data, sl⟩, ho, hc, n, hdt⟩ := ha
  obtain ⟨⟨cls2, dd2, data2, sl2⟩, ho2, hc2, n2, hdt2⟩ := hb
  simp only at hc hdt hc2 hdt2
  subst hc hdt hc2 hdt2
  have key := ord_gt p q _ 0 rfl (Nat.zero_le _)
  rw [List.drop_zero, List.drop_zero] at key
  have e1 : (strValues r).toArray.size = p.length := by simpa [strValues] using congrArg List.length er
  have e2 : (strValues r').toArray.size = q.length := by simpa [strValues] using congrArg List.length er'
  rw [← key, ← e1, ← e2] at h
  exact richCompare_meets_room (op := .Gt) ⟨_, ho, rfl⟩ ⟨_, ho2, rfl⟩ F.slot_list_gt F.entry_list_gt (F.args_list_gt_2 _ _) (list_gtAt a b _ _ n n2 dd dd2 sl sl2 _ _)
    ⟨ho, ho2, (fun j h1 h2 => by obtain ⟨t, x1⟩ := step_at er h1; obtain ⟨u, x2⟩ := step_at er' h2; rw [x1, x2]; exact step_eqAt _ _ _ _), (fun j h1 h2 _ => by obtain ⟨t, x1⟩ := step_at er h1; obtain ⟨u, x2⟩ := step_at er' h2; rw [x1, x2]; exact step_gtAt _ _ _ _), ⟨(fun x => nomatch x), h⟩⟩ hu
end
/-- the longest common part -/
noncomputable def lcp : List Bool → List Bool → List Bool
  | a :: p, b :: q => if a = b then a :: lcp p q else []
  | _, _ => []
theorem lcp_comm : ∀ p q : List Bool, lcp p q = lcp q p
  | [], [] => rfl
  | [], _ :: _ => rfl
  | _ :: _, [] => rfl
  | a :: p, b :: q => by
    unfold lcp
    by_cases h : a = b
    · rw [if_pos h, if_pos h.symm, lcp_comm p q, h]
    · rw [if_neg h, if_neg (Ne.symm h)]
theorem lcp_self : ∀ p : List Bool, lcp p p = p
  | [] => rfl
  | a :: p => by unfold lcp; rw [if_pos rfl, lcp_self p]
theorem lex_asym : ∀ p q : List Bool, lexLt p q = true → lexLt q p = false
  | [], [], h => by simp [lexLt] at h
  | [], _ :: _, _ => rfl
  | _ :: _, [], h => by simp [lexLt] at h
  | a :: p, b :: q, h => by
    unfold lexLt at h ⊢
    by_cases e : a = b
    · rw [if_pos e] at h; rw [if_pos e.symm]; exact lex_asym p q h
    · rw [if_neg e] at h; rw [if_neg (Ne.symm e)]
      cases a <;> cases b <;> simp_all
theorem lex_tri : ∀ p q : List Bool, lexLt p q = false → lexLt q p = false → p = q
  | [], [], _, _ => rfl
  | [], _ :: _, h, _ => by simp [lexLt] at h
  | _ :: _, [], _, h => by simp [lexLt] at h
  | a :: p, b :: q, h1, h2 => by
    unfold lexLt at h1 h2
    by_cases e : a = b
    · rw [if_pos e] at h1; rw [if_pos e.symm] at h2; rw [e, lex_tri p q h1 h2]
    · rw [if_neg e] at h1; rw [if_neg (Ne.symm e)] at h2
      cases a <;> cases b <;> simp_all
/-- at the first place where they differ -/
theorem lcp_at : ∀ (p q : List Bool) (i : Nat), p.take i = q.take i → p.getD i false ≠ q.getD i false → i < p.length → i < q.length → lcp p q = p.take i
  | a :: p, b :: q, 0, _, h, _, _ => by
    unfold lcp; rw [if_neg (by simpa using h)]; rfl
  | a :: p, b :: q, i + 1, ht, h, h1, h2 => by
    rw [List.take_succ_cons, List.take_succ_cons] at ht
    have e := (List.cons.inj ht).1
    have et := (List.cons.inj ht).2
    unfold lcp
    rw [if_pos e, List.take_succ_cons, lcp_at p q i et (by simpa using h) (by simpa using h1) (by simpa using h2)]
  | [], _, _, _, _, h1, _ => by simp at h1
  | _ :: _, [], _, _, _, _, h2 => by simp at h2
theorem lcp_pre : ∀ p q : List Bool, p = q.take p.length → lcp p q = p
  | [], _, _ => by cases ‹List Bool› <;> rfl
  | a :: p, [], h => by simp at h
  | a :: p, b :: q, h => by
    rw [List.length_cons, List.take_succ_cons] at h
    unfold lcp
    rw [if_pos (List.cons.inj h).1, lcp_pre p q (List.cons.inj h).2]
/-- the lesser one does not outlast the other -/
theorem lex_room : ∀ (p q : List Bool) (i : Nat), lexLt q p = false → p.take i = q.take i → i < p.length → i < q.length
  | [], _, _, _, _, h => by simp at h
  | a :: p, [], i, h, _, _ => by simp [lexLt] at h
  | a :: p, b :: q, 0, _, _, _ => by simp
  | a :: p, b :: q, i + 1, h, ht, hi => by
    rw [List.take_succ_cons, List.take_succ_cons] at ht
    have e := (List.cons.inj ht).1
    unfold lexLt at h
    rw [if_pos e.symm] at h
    have := lex_room p q i h (List.cons.inj ht).2 (by simpa using hi)
    simpa using this
theorem pick_two {x y v1 v2 : Value} {r1 r2 : List (Str × Tok)} {p1 p2 : List Bool} (hv1 : [x, y][argBest (fun _ _ => lexLt p2 p1) 1]? = some v1) (hv2 : [x, y][argBest (fun _ _ => lexLt p1 p2) 1]? = some v2) :
    ∃ (ra rb : List (Str × Tok)) (pa pb : List Bool), ((v1 = x ∧ ra = r1 ∧ pa = p1) ∨ (v1 = y ∧ ra = r2 ∧ pa = p2)) ∧ ((v2 = x ∧ rb = r1 ∧ pb = p1) ∨ (v2 = y ∧ rb = r2 ∧ pb = p2)) ∧ lexLt pb pa = false ∧ lcp pa pb = lcp p1 p2 := by
  cases h21 : lexLt p2 p1 with
  | true =>
    have h12 := lex_asym p2 p1 h21
    rw [h21] at hv1; rw [h12] at hv2
    obtain rfl := Option.some.inj hv1
    obtain rfl := Option.some.inj hv2
    exact ⟨r2, r1, p2, p1, .inr ⟨rfl, rfl, rfl⟩, .inl ⟨rfl, rfl, rfl⟩, h12, lcp_comm p2 p1⟩
  | false =>
    rw [h21] at hv1
    obtain rfl := Option.some.inj hv1
    cases h12 : lexLt p1 p2 with
    | true =>
      rw [h12] at hv2
      obtain rfl := Option.some.inj hv2
      exact ⟨r1, r2, p1, p2, .inl ⟨rfl, rfl, rfl⟩, .inr ⟨rfl, rfl, rfl⟩, h21, rfl⟩
    | false =>
      rw [h12] at hv2
      obtain rfl := Option.some.inj hv2
      have e := lex_tri p1 p2 h12 h21
      exact ⟨r1, r1, p1, p1, .inl ⟨rfl, rfl, rfl⟩, .inl ⟨rfl, rfl, rfl⟩, by rw [← e] at h12; exact h12, by rw [← e]⟩
theorem join_all : ∀ p ∈ paths 6, (⟨#[47]⟩ : Str) ++ Txt.join ⟨#[47]⟩ (p.map stp) = pstr p := by decide +kernel
theorem join_pstr {p : List Bool} (h : p.length ≤ 6) : Str.ofString "/" ++ Txt.join (Str.ofString "/") (p.map stp) = pstr p := by rw [slash]; exact join_all p (mem_paths 6 p h)
end

/-! part ForEnum -/
section
set_option maxRecDepth 100000
set_option maxHeartbeats 0
section
variable {prog : Program} {w : World} {A : Around} {E : Value → Shared → Prop} {s : Shared} {env : Env} {Q : Flow → Shared → Prop}
/-- a turn ends: on it goes, or it breaks off -/
noncomputable def TurnE (h₀ : Heap) (L : Addr) (all : List (Addr × Obj)) (J : (Str → Option Value) → Prop) (s : Shared) (Q : Flow → Shared → Prop) (f : Flow) (s' : Shared) : Prop :=
  (f = .next ∧ ∃ h' tk m, s' = { s with heap := h', toks := tk } ∧ Fr h₀ L h' m ∧ News h₀ L h' all ∧ J m) ∨ (f = .brk ∧ Q .next s')
theorem for_enum {xi xv : Str} {pi pv pt pos : Pos} {x1 : Nat} {iter : Expr} {body : List Stmt} {h₀ : Heap} {l : Addr} {vs : List Value} {k : Nat} {m₀ : Str → Option Value} {news : List (Addr × Obj)}
    (J : Nat → (Str → Option Value) → Prop)
    (hh : A.handled = none) (hxi : env.kindOf xi = some .local) (hxv : env.kindOf xv = some .local) (hp : (env.scope.kind == .class || (env.scope.kind == .module && env.locals != env.globals)) = false)
    (F : Fr h₀ env.locals s.heap m₀) (N : News h₀ env.locals s.heap news) (hm : (l, ({ cls := .type "list", data := .seq vs.toArray k } : Obj)) ∈ news) (hj : J 0 m₀)
    (hev : ∀ Q' : Value → Shared → Prop, wpAny (model prog w) A (call (.type "enumerate") [.ref l]) Q' E s → wpAny (model prog w) A (eval iter env) Q' E s)
    (turn : ∀ i v t m₁ e oe it oi h tk E', vs[i]? = some v → J i m₁ → (∀ q ∈ news, q.1 < it) → it < e → Fr h₀ env.locals h (fun y => if y = xv then some v else if y = xi then some (.int i t) else m₁ y) → News h₀ env.locals h ((e, oe) :: (it, oi) :: news) →
      wpAny (model prog w) A (execs body env) (TurnE h₀ env.locals ((e, oe) :: (it, oi) :: news) (J (i + 1)) s Q) E' { s with heap := h, toks := tk })
    (done : ∀ m₁ h tk, J vs.length m₁ → Fr h₀ env.locals h m₁ → News h₀ env.locals h news → Q .next { s with heap := h, toks := tk })
    (hs : ∀ x, foldedSetIterable iter env x = pure x := by intro _; rfl) :
    wpAny (model prog w) A (exec (.For (.Tuple [.Name xi pi, .Name xv pv] x1 pt) iter body [] pos) env) Q E s := by
  refine wpAny_For (hev _ ?_) hs
  refine call_enumerate_1 (N _ hm).1 fun h1 he0 hit0 hz0 hk0 => ?_
  refine wpAny_pyIter_enum he0 ?_
  have lt : ∀ {a o}, s.heap.get? a = some o → a < s.heap.objs.size := fun e => Heap.lt_size e
  have hLlt : env.locals < s.heap.objs.size := F.ns.lt
  generalize hit : s.heap.objs.size = it at *
  have fresh : ∀ a, it ≤ a → h₀.get? a = none := fun a ha => by
    cases x : h₀.get? a with
    | none => rfl
    | some o => exact absurd (lt (F.keep a o x)) (Nat.not_lt.mpr ha)
  have hI0 := fresh it (Nat.le_refl _)
  have hE0 := fresh (it + 1) (Nat.le_succ _)
  have hei : it + 1 ≠ it := Nat.succ_ne_self _
  have heL : it + 1 ≠ env.locals := Nat.ne_of_gt (Nat.lt_succ_of_lt hLlt)
  have hiL : it ≠ env.locals := Nat.ne_of_gt hLlt
  have hnl : ∀ p ∈ news, p.1 < it := fun p hp => lt (N p hp).1
  have hll : l < it := hnl _ hm
  refine codeAny_forLoop_any
    (fun k' s' => ∃ h' tk m' i old, s' = { s with heap := h', toks := tk } ∧ IsEnum h' (it + 1) it ((i : Nat) : Int) old ∧ h'.IsListIter it l i ∧ Fr h₀ env.locals h' m' ∧ News h₀ env.locals h' news ∧ J i m' ∧ i ≤ vs.length ∧
      k' = vs.length + 1 - i) ?_ (vs.length + 1)
    ⟨h1, s.toks, m₀, 0, .none, rfl, he0, hit0, F.keeps hk0, N.grown hk0, hj, Nat.zero_le _, rfl⟩
  rintro k' s' ⟨H, tk, m', i, old, rfl, he', hit', F', N', hJ, hi, rfl⟩
  have hl' : H.IsList l vs.toArray := ⟨_, (N' _ hm).1, rfl, _, rfl⟩
  have heH : it + 1 < H.objs.size := Heap.lt_size he'
  cases hv : vs[i]? with
  | none =>
    have hsz : i = vs.length := Nat.le_antisymm hi (by simpa using hv)
    refine wpAny_pyNext_enum_end hh he' hit' hl' (by simpa using hv) fun h₁ he₁ => wpAny_execs_nil ?_
    refine done m' h₁ tk (hsz ▸ hJ) ?_ fun p hp => ⟨he₁ _ _ (Nat.ne_of_lt (hnl p hp)) (N' p hp).1, (N' p hp).2⟩
    obtain ⟨oL, es, ep, hL, r⟩ := F'.ns
    exact ⟨⟨oL, es, ep, he₁ _ _ (Ne.symm hiL) hL, r⟩, fun b o x => he₁ b o (fun q => by rw [q, hI0] at x; cases x) (F'.keep b o x), F'.above⟩
  | some v =>
    have hlt : i < vs.length := (List.getElem?_eq_some_iff.mp hv).1
    refine wpAny_pyNext_enum_item he' hit' hl' (by simpa using hv) hei fun h₁ heo hit₁ ht₁ hz₁ hk₁ => ?_
    refine wpAny_letOwnedTupleGo_enum heo fun h₂ he₂ hs₂ => ?_
    replace hs₂ : Heap.SameBut (it + 1) h₁ h₂ := hs₂
    have ht₂ : h₂.IsTuple H.objs.size #[.int i tk, v] := ⟨_, (hs₂.2 _ (Nat.ne_of_gt heH)).trans ht₁, rfl, _, rfl⟩
    have hz₂ : h₂.objs.size = H.objs.size + 1 := hs₂.1.trans hz₁
    refine wpAny_assign_Tuple hh ht₂ rfl rfl fun h₃ hx₃ => ?_
    replace hx₃ : Heap.ExtBut h₂.objs.size h₂ h₃ := hx₃
    have up₃ : ∀ b o, b < H.objs.size → b ≠ it + 1 → b ≠ it → H.get? b = some o → h₃.get? b = some o := fun b o hb h1 h2 x =>
      hx₃ b o (by rw [hz₂]; exact Nat.ne_of_lt (Nat.lt_succ_of_lt hb)) (hs₂.extBut b o h1 (hk₁ b o h1 h2 x))
    have old₃ : ∀ b o, b < H.objs.size → h₂.get? b = some o → h₃.get? b = some o := fun b o hb x => hx₃ b o (by rw [hz₂]; exact Nat.ne_of_lt (Nat.lt_succ_of_lt hb)) x
    have F₃ : Fr h₀ env.locals h₃ m' := by
      obtain ⟨oL, es, ep, hL, r⟩ := F'.ns
      exact ⟨⟨oL, es, ep, up₃ _ _ (Heap.lt_size hL) (Ne.symm heL) (Ne.symm hiL) hL, r⟩, fun b o x => up₃ b o (Heap.lt_size (F'.keep b o x)) (fun q => by rw [q, hE0] at x; cases x) (fun q => by rw [q, hI0] at x; cases x) (F'.keep b o x), F'.above⟩
    have N₃ : News h₀ env.locals h₃ news := fun p hp => ⟨up₃ _ _ (Heap.lt_size (N' p hp).1) (Nat.ne_of_lt (Nat.lt_succ_of_lt (hnl p hp))) (Nat.ne_of_lt (hnl p hp)) (N' p hp).1, (N' p hp).2⟩
    have he₃ : h₃.get? (it + 1) = some _ := old₃ _ _ heH he₂
    obtain ⟨oi, hoi, ri⟩ := hit₁
    have hi₃ : h₃.get? it = some oi := old₃ _ _ (Nat.lt_of_succ_lt heH) (hs₂.extBut _ _ (Ne.symm hei) hoi)
    show wpAny _ A (do holding [v] (assign (.Name xi pi) env (.int i tk)); do holding [] (assign (.Name xv pv) env v); pure ()) _ _ _
    refine wpAny_bind (wpAny_holding (wpAny_assign_Name (wpAny_storeName_local hxi F₃.ns (fun h₄ hn₄ hs₄ => ?_) hp)))
    have F₄ := F₃.set hn₄ hs₄
    have N₄ := N₃.set hs₄
    have he₄ := (hs₄.2 _ heL).trans he₃
    have hi₄ := (hs₄.2 _ hiL).trans hi₃
    refine wpAny_bind (wpAny_holding (wpAny_assign_Name (wpAny_storeName_local hxv F₄.ns (fun h₅ hn₅ hs₅ => wpAny_pure ?_) hp)))
    have F₅ := F₄.set hn₅ hs₅
    have N₅ := N₄.set hs₅
    have he₅ := (hs₅.2 _ heL).trans he₄
    have hi₅ := (hs₅.2 _ hiL).trans hi₄
    have N₆ : News h₀ env.locals h₅ ((it + 1, _) :: (it, oi) :: news) := fun p hp => by
      rcases List.mem_cons.mp hp with rfl | hp
      · exact ⟨he₅, heL, hE0⟩
      rcases List.mem_cons.mp hp with rfl | hp
      · exact ⟨hi₅, hiL, hI0⟩
      · exact N₅ p hp
    refine wpAny_mono (turn i v tk m' (it + 1) _ it oi h₅ _ _ hv hJ hnl (Nat.lt_succ_self _) F₅ N₆) (fun f s₃ h₆ => ?_) fun _ _ x => x
    rcases h₆ with ⟨rfl, h₇, tk₇, m₇, rfl, F₇, N₇, J₇⟩ | ⟨rfl, hq⟩
    · refine ⟨vs.length + 1 - (i + 1), by omega, h₇, tk₇, m₇, i + 1, v, rfl, ?_, ⟨oi, (N₇ (it, oi) (by simp)).1, ri⟩, F₇, fun p hp => N₇ p (by simp [hp]), J₇, hlt, rfl⟩
      exact (N₇ (it + 1, _) (by simp)).1
    · exact hq
end
end

/-! part D1 -/
section
set_option maxRecDepth 100000
set_option maxHeartbeats 0
structure OldBase (h₀ : Heap) (L : Addr) (m : Str → Option Value) (news : List (Addr × Obj)) (h : Heap) : Prop where
  F : Fr h₀ L h m
  N : News h₀ L h news
theorem strs_vals : ∀ l : List (Str × Tok), StrsAre (strValues l) (l.map (·.1))
  | [] => StrsAre.nil
  | (x, t) :: l => StrsAre.cons x t (strs_vals l)
theorem pick_sv (l : List (Str × Tok)) (i : Nat) : kms_pick (strValues l) none (some (i : Int)) = strValues (l.take i) := pick_upto l (fun x => Value.str x.1 x.2) i
theorem map_at4 {m : Str → Option Value} {x1 x2 x3 x4 : Str} {v1 v2 v3 v4 : Value} (h1 : m x1 = some v1) (h2 : m x2 = some v2) (h3 : m x3 = some v3) (h4 : m x4 = some v4) : m = fun y => if y = x1 then some v1 else if y = x2 then some v2 else if y = x3 then some v3 else if y = x4 then some v4 else m y := by
  funext y
  by_cases e1 : y = x1
  · rw [if_pos e1, e1, h1]
  rw [if_neg e1]
  by_cases e2 : y = x2
  · rw [if_pos e2, e2, h2]
  rw [if_neg e2]
  by_cases e3 : y = x3
  · rw [if_pos e3, e3, h3]
  rw [if_neg e3]
  by_cases e4 : y = x4
  · rw [if_pos e4, e4, h4]
  rw [if_neg e4]
theorem ref_of {x y : Addr} {v : Value} {k : Nat} (h : [Value.ref x, Value.ref y][k]? = some v) : ∃ a, v = .ref a := by
  match k, h with
  | 0, h => exact ⟨x, (Option.some.inj h).symm⟩
  | 1, h => exact ⟨y, (Option.some.inj h).symm⟩
theorem News.at {h₀ h : Heap} {L : Addr} {news : List (Addr × Obj)} {a : Addr} {o : Obj} (N : News h₀ L h news) (hm : (a, o) ∈ news) : h.get? a = some o := (N _ hm).1
theorem join_w {l : List (Str × Tok)} {p : List Bool} (e : l.map (·.1) = p.map stp) (hp : p.length ≤ 6) : (((l.map (·.1)).map (·.length)).sum + (l.map (·.1)).length) ≤ 1048576 := by
  rw [e]
  have : ∀ q : List Bool, ((q.map stp).map (·.length)).sum = q.length := by
    intro q
    induction q with
    | nil => rfl
    | cons b q ih => rw [List.map_cons, List.map_cons, List.sum_cons, ih, List.length_cons]; show 1 + _ = _; omega
  rw [this, List.length_map]; omega
theorem step_val {r : List (Str × Tok)} {p : List Bool} (e : r.map (·.1) = p.map stp) {i : Nat} {v : Value} (h : (strValues r)[i]? = some v) : ∃ b t, p[i]? = some b ∧ v = .str (stp b) t := by
  rw [strValues, List.getElem?_map] at h
  obtain ⟨⟨x, t⟩, hx, rfl⟩ := Option.map_eq_some_iff.mp h
  have e1 : (r.map (·.1))[i]? = (p.map stp)[i]? := by rw [e]
  rw [List.getElem?_map, List.getElem?_map, hx] at e1
  obtain ⟨b, hb, hs⟩ := Option.map_eq_some_iff.mp e1.symm
  exact ⟨b, t, hb, by simp only [hs]⟩
theorem step_get {r : List (Str × Tok)} {p : List Bool} (e : r.map (·.1) = p.map stp) {i : Nat} (h : i < p.length) : ∃ b t, p[i]? = some b ∧ (strValues r)[((i : Nat) : Int).toNat]? = some (.str (stp b) t) := by
  have hl : r.length = p.length := by simpa using congrArg List.length e
  have hi : i < (strValues r).length := by rw [strValues_length]; omega
  obtain ⟨b, t, hb, hv⟩ := step_val e (List.getElem?_eq_getElem hi)
  exact ⟨b, t, hb, by rw [Int.toNat_natCast, List.getElem?_eq_getElem hi, hv]⟩
noncomputable def CommonQ (s : Shared) (h₀ : Heap) (L : Addr) (nl : List (Addr × Obj)) (pp : List Bool) (f : Flow) (s' : Shared) : Prop :=
  f = .next ∧ ∃ h tk m c k r, s' = { s with heap := h, toks := tk } ∧ Fr h₀ L h m ∧ News h₀ L h ((c, W.listOf (strValues r).toArray k) :: nl) ∧ m (Str.ofString "common") = some (.ref c) ∧ m (Str.ofString "isabs") = some (.bool true) ∧ r.map (·.1) = pp.map stp
theorem news_tail {h₀ h : Heap} {L : Addr} {news : List (Addr × Obj)} {x y : Addr × Obj} (N : News h₀ L h (x :: y :: news)) : ∃ nl, nl = news ∧ News h₀ L h (x :: y :: nl) := ⟨_, rfl, N⟩
theorem news_pick {h₀ h : Heap} {L : Addr} {x e i a b : Addr × Obj} {nl : List (Addr × Obj)} (N : News h₀ L h (x :: e :: i :: a :: b :: nl)) : News h₀ L h (x :: nl) := fun p hp => by
  rcases List.mem_cons.mp hp with rfl | hp
  · exact N _ (.head _)
  · exact N p (.tail _ (.tail _ (.tail _ (.tail _ (.tail _ hp)))))
theorem lcp_len : ∀ p q : List Bool, (lcp p q).length ≤ p.length
  | [], _ => by cases ‹List Bool› <;> simp [lcp]
  | _ :: _, [] => by simp [lcp]
  | a :: p, b :: q => by
    unfold lcp
    split
    · have := lcp_len p q; simp only [List.length_cons]; omega
    · simp
theorem map_at2 {m : Str → Option Value} {x1 x2 : Str} {v1 v2 : Value} (h1 : m x1 = some v1) (h2 : m x2 = some v2) : m = fun y => if y = x1 then some v1 else if y = x2 then some v2 else m y := by
  funext y
  by_cases e1 : y = x1
  · rw [if_pos e1, e1, h1]
  rw [if_neg e1]
  by_cases e2 : y = x2
  · rw [if_pos e2, e2, h2]
  rw [if_neg e2]
theorem stp_f : stp false = ⟨#[108]⟩ := rfl
theorem stp_t : stp true = ⟨#[114]⟩ := rfl
theorem two_in {x y : Addr × Obj} {l : List (Addr × Obj)} (hx : x ∈ l) (hy : y ∈ l) : ∀ p ∈ [x, y], p ∈ l := by
  intro p hp
  rcases List.mem_cons.mp hp with rfl | hp
  · exact hx
  · rw [List.mem_singleton.mp hp]; exact hy
theorem News.both {h₀ h : Heap} {L : Addr} {l2 news : List (Addr × Obj)} {x y : Addr × Obj} (N2 : News h₀ L h l2) (hx : x ∈ l2) (hy : y ∈ l2) (N : News h₀ L h news) : News h₀ L h (x :: y :: news) := by
  intro p hp
  rcases List.mem_cons.mp hp with rfl | hp
  · exact N2 _ hx
  rcases List.mem_cons.mp hp with rfl | hp
  · exact N2 _ hy
  · exact N p hp
structure SplitOf (p : List Bool) (q r : List (Str × Tok)) : Prop where
  e : q.map (·.1) = parts p
  er : r.map (·.1) = p.map stp
  ek : ((List.range q.length).filter (keepP q)).map (valP q) = strValues r
  sz : (strValues q).toArray.size ≤ sizeLine
theorem split_k {prog : Program} {w : World} {A : Around} {h₀ : Heap} {L : Addr} {m : Str → Option Value} {news : List (Addr × Obj)} {s : Shared} {Q : Value → Shared → Prop} {E : Value → Shared → Prop} {p : List Bool} {t u : Tok} (F : Fr h₀ L s.heap m) (N : News h₀ L s.heap news) (hp : p.length ≤ 6)
    (h : ∀ D q r h' k, SplitOf p q r → Fr h₀ L h' m → News h₀ L h' ((D, W.listOf (strValues q).toArray 0) :: news) → (∀ p ∈ news, p.1 < D) → Q (.ref D) { s with heap := h', toks := k }) :
    wpAny (model prog w) A (call (.builtin "str.split") [.str (pstr p) t, .str (Str.ofString "/") u]) Q E s := by
  refine KSpl.split1 F N (by decide) (fun D q h' k e _ F' N' l1 => ?_) (by have := (pstr_len p).2; rw [sizeLine_eq]; omega)
  rw [split_pstr hp] at e
  obtain ⟨r, er, ek⟩ := parts_pick e
  exact h D q r h' k ⟨e, er, ek, parts_size e hp⟩ F' N' l1
section
variable {w : World} {A : Around} {s : Shared} {p : Program} {Q E : Value → Shared → Prop} {l x y : Addr} {r1 r2 : List (Str × Tok)} {p1 p2 : List Bool} {prog : Program}
theorem min_steps (hh : A.handled = none) (hl : s.heap.get? l = some (LCg.lst [.ref x, .ref y])) (hx : s.heap.get? x = some (LCg.lst (strValues r1))) (hy : s.heap.get? y = some (LCg.lst (strValues r2))) (er1 : r1.map (·.1) = p1.map stp) (er2 : r2.map (·.1) = p2.map stp) (hu : A.in1.units < cLine)
    (hQ : ∀ a h' tk, [Value.ref x, .ref y][argBest (fun _ _ => lexLt p2 p1) 1]? = some (.ref a) → Kp s.heap h' → Q (.ref a) { s with heap := h', toks := tk }) :
    wpAny (model prog w) A (call (.builtin "min") [.ref l]) Q E s := by
  refine call_min_list (vs := [.ref x, .ref y]) hh ⟨_, hl, rfl, _, rfl⟩ (by simp) (fun _ _ => lexLt p2 p1) ?_ ?_
  · intro i j vi vj s' hij hk hi hj
    obtain ⟨rfl, rfl⟩ : i = 1 ∧ j = 0 := by have := (List.getElem?_eq_some_iff.mp hi).1; simp at this; omega
    obtain rfl := Option.some.inj hi
    obtain rfl := Option.some.inj hj
    exact steps_lt ⟨_, hk _ _ hy, rfl, _, rfl⟩ ⟨_, hk _ _ hx, rfl, _, rfl⟩ er2 er1 hu
  · intro v h' tk hv k
    obtain ⟨a, rfl⟩ := ref_of hv
    exact hQ a h' tk hv k
theorem max_steps (hh : A.handled = none) (hl : s.heap.get? l = some (LCg.lst [.ref x, .ref y])) (hx : s.heap.get? x = some (LCg.lst (strValues r1))) (hy : s.heap.get? y = some (LCg.lst (strValues r2))) (er1 : r1.map (·.1) = p1.map stp) (er2 : r2.map (·.1) = p2.map stp) (hu : A.in1.units < cLine)
    (hQ : ∀ a h' tk, [Value.ref x, .ref y][argBest (fun _ _ => lexLt p1 p2) 1]? = some (.ref a) → Kp s.heap h' → Q (.ref a) { s with heap := h', toks := tk }) :
    wpAny (model prog w) A (call (.builtin "max") [.ref l]) Q E s := by
  refine call_max_list (vs := [.ref x, .ref y]) hh ⟨_, hl, rfl, _, rfl⟩ (by simp) (fun _ _ => lexLt p1 p2) ?_ ?_
  · intro i j vi vj s' hij hk hi hj
    obtain ⟨rfl, rfl⟩ : i = 1 ∧ j = 0 := by have := (List.getElem?_eq_some_iff.mp hi).1; simp at this; omega
    obtain rfl := Option.some.inj hi
    obtain rfl := Option.some.inj hj
    exact steps_gt ⟨_, hk _ _ hy, rfl, _, rfl⟩ ⟨_, hk _ _ hx, rfl, _, rfl⟩ er2 er1 hu
  · intro v h' tk hv k
    obtain ⟨a, rfl⟩ := ref_of hv
    exact hQ a h' tk hv k
end
/-- what min and max of the two lists of steps are -/
structure Picked (x y a b : Addr) (r1 r2 ra rb : List (Str × Tok)) (p1 p2 pa pb : List Bool) : Prop where
  er : ra.map (·.1) = pa.map stp
  eb : rb.map (·.1) = pb.map stp
  hp : pa.length ≤ 6
  ma : (a, LCg.lst (strValues ra)) ∈ [(x, LCg.lst (strValues r1)), (y, LCg.lst (strValues r2))]
  mb : (b, LCg.lst (strValues rb)) ∈ [(x, LCg.lst (strValues r1)), (y, LCg.lst (strValues r2))]
  lex : lexLt pb pa = false
  lcp : lcp pa pb = lcp p1 p2
  sz : (strValues ra).toArray.size ≤ sizeLine
theorem pick_all {x y a b : Addr} {r1 r2 : List (Str × Tok)} {p1 p2 : List Bool} (hv1 : [Value.ref x, .ref y][argBest (fun _ _ => lexLt p2 p1) 1]? = some (.ref a)) (hv2 : [Value.ref x, .ref y][argBest (fun _ _ => lexLt p1 p2) 1]? = some (.ref b))
    (er1 : r1.map (·.1) = p1.map stp) (er2 : r2.map (·.1) = p2.map stp) (hp1 : p1.length ≤ 6) (hp2 : p2.length ≤ 6) {G : Prop} (k : ∀ ra rb pa pb, Picked x y a b r1 r2 ra rb p1 p2 pa pb → G) : G := by
  obtain ⟨ra, rb, pa, pb, hca, hcb, hlex, hlcp⟩ := pick_two (r1 := r1) (r2 := r2) hv1 hv2
  have hsz : ∀ {r : List (Str × Tok)} {q : List Bool}, r.map (·.1) = q.map stp → q.length ≤ 6 → (strValues r).toArray.size ≤ sizeLine := fun {r q} e hq => by
    rw [List.size_toArray, strValues_length, sizeLine_eq]
    have : r.length = q.length := by simpa using congrArg List.length e
    omega
  rcases hca with ⟨ea, rfl, rfl⟩ | ⟨ea, rfl, rfl⟩ <;> rcases hcb with ⟨eb, rfl, rfl⟩ | ⟨eb, rfl, rfl⟩ <;> (injection ea with ea; injection eb with eb; subst ea; subst eb)
  · exact k _ _ _ _ ⟨er1, er1, hp1, .head _, .head _, hlex, hlcp, hsz er1 hp1⟩
  · exact k _ _ _ _ ⟨er1, er2, hp1, .head _, .tail _ (.head _), hlex, hlcp, hsz er1 hp1⟩
  · exact k _ _ _ _ ⟨er2, er1, hp2, .tail _ (.head _), .head _, hlex, hlcp, hsz er2 hp2⟩
  · exact k _ _ _ _ ⟨er2, er2, hp2, .tail _ (.head _), .tail _ (.head _), hlex, hlcp, hsz er2 hp2⟩
theorem tail_k {h₀ h : Heap} {L : Addr} {news : List (Addr × Obj)} {x y : Addr × Obj} (N : News h₀ L h (x :: y :: news)) {G : Prop} (k : ∀ nl, nl = news → News h₀ L h (x :: y :: nl) → G) : G := k _ rfl N
theorem step_k {ra rb : List (Str × Tok)} {pa pb : List Bool} (era : ra.map (·.1) = pa.map stp) (erb : rb.map (·.1) = pb.map stp) (hlex : lexLt pb pa = false) {i : Nat} {v : Value} (hi : (strValues ra)[i]? = some v) (ht : pa.take i = pb.take i) {G : Prop}
    (k : ∀ ba ta bb tb, pa[i]? = some ba → v = .str (stp ba) ta → pb[i]? = some bb → (strValues rb)[((i : Nat) : Int).toNat]? = some (.str (stp bb) tb) → G) : G := by
  obtain ⟨ba, ta, hba, e⟩ := step_val era hi
  obtain ⟨bb, tb, hbb, hit⟩ := step_get erb (lex_room pa pb i hlex ht (List.getElem?_eq_some_iff.mp hba).1)
  exact k ba ta bb tb hba e hbb hit
theorem lcp_here {pa pb : List Bool} {i : Nat} (ht : pa.take i = pb.take i) {ba bb : Bool} (ha : pa[i]? = some ba) (hb : pb[i]? = some bb) (hne : ba ≠ bb) {ra : List (Str × Tok)} (era : ra.map (·.1) = pa.map stp) : (ra.take i).map (·.1) = (lcp pa pb).map stp := by
  rw [lcp_at pa pb i ht (by rw [List.getD_eq_getElem?_getD, List.getD_eq_getElem?_getD, ha, hb]; exact hne) (List.getElem?_eq_some_iff.mp ha).1 (List.getElem?_eq_some_iff.mp hb).1, List.map_take, era, List.map_take]
theorem take_on {pa pb : List Bool} {i : Nat} {b : Bool} (ht : pa.take i = pb.take i) (ha : pa[i]? = some b) (hb : pb[i]? = some b) : pa.take (i + 1) = pb.take (i + 1) := by rw [List.take_add_one, List.take_add_one, ha, hb, ht]
theorem whole_here {pa pb p1 p2 : List Bool} {ra : List (Str × Tok)} (era : ra.map (·.1) = pa.map stp) (hlcp : lcp pa pb = lcp p1 p2) (ht : pa.take (strValues ra).length = pb.take (strValues ra).length) : ra.map (·.1) = (lcp p1 p2).map stp := by
  have hrl : (strValues ra).length = pa.length := by rw [strValues_length]; simpa using congrArg List.length era
  rw [hrl, List.take_length] at ht
  rw [era, ← hlcp, lcp_pre pa pb ht]
theorem join_le {r : List (Str × Tok)} {p : List Bool} (hr : r.map (·.1) = p.map stp) (hlc : p.length ≤ 6) : (Txt.join (Str.ofString "/") (r.map (·.1))).length ≤ 100 := by
  have h1 := congrArg Str.length (join_pstr hlc)
  rw [← hr] at h1
  have h2 := (pstr_len p).2
  have h3 : (Str.ofString "/" ++ Txt.join (Str.ofString "/") (r.map (·.1))).length = (Str.ofString "/").length + (Txt.join (Str.ofString "/") (r.map (·.1))).length := by
    simp only [Str.length, Str.cps_append, Array.size_append]
  omega
section
variable {w : World} {A : Around} {s : Shared} {p : Program} {loose : List Str} {mean : ExcName → Option Value} {mg mb : Str → Option Value} {Q E : Value → Shared → Prop}
variable {h₀ : Heap} {L : Addr} {m : Str → Option Value} {news : List (Addr × Obj)} {kd : Nat}
local macro_rules | `(tactic| lcg_src) => `(tactic| first | (refine Or.inr ⟨_, ?_, rfl, _, rfl⟩; k_mem) | ((try dsimp only); k_mem))
theorem cpath_c {p1 p2 : List Bool} {l : Addr} {t u : Tok} (X : (hd.heap_39 w.params).In s.heap) (T : Top p loose mean mg mb s.heap) (hh : A.handled = none) (hdep : A.depth + 20 < recursionLimit) (huni : A.units + 200 < cLine) (hp1 : p1.length ≤ 6) (hp2 : p2.length ≤ 6) (hl : s.heap.IsList l [.str (pstr p1) t, .str (pstr p2) u].toArray)
  (hret : ∀ h' tk' u, Kp s.heap h' → Q (.str (pstr (lcp p1 p2)) u) { s with heap := h', toks := tk' }) : wpAny (model PySem.Challenge.rw_pd0044_01.row.prog w) A (call (.ref 134) [.ref l]) Q E s := by
  k_with_none
  (k_with "ne" => (refine neN ?_; (try dsimp only); (first | with_reducible assumption | with_reducible exact Ne.symm (by assumption) | (refine' ne_lt ?z1 ?z2; (case z1 => with_reducible assumption); (case z2 => k_mem)) | (refine' ne_lt' ?z3 ?z4; (case z3 => with_reducible assumption); (case z4 => k_mem)) | (refine' ne_o ?z5 ?z6; (case z5 => with_reducible assumption); (case z6 => k_mem)) | (refine' ne_o' ?z7 ?z8; (case z7 => with_reducible assumption); (case z8 => k_mem)) | omega)))
  (k_with "all" => (first | with_reducible assumption | with_reducible exact all_lt (by assumption) | exact List.forall_mem_nil _ | (refine' List.forall_mem_cons.mpr ⟨?za, ?zb⟩; (case za => k_ne); (case zb => k_all))))
  (k_with "CompRest" => (with_unfolding_all first | (refine LCg.CompRest.succ ?_; intro v' I' oI' C' oC' D' m' h' tk' E' hv' hC' hx' F' N' off' ne'; (first | lcg_open hv' | (obtain ⟨t9', hv9'⟩ := hv'; subst hv9')); (have offI' := off3_I off'); (have offC' := off3_C off'); (have offD' := off3_D off'); clear off') | refine LCg.CompRest.zero ?_))
  (k_with "FinE" => ((unfold LCg.FinE); intro D' h' tk' F' N' o1'; (replace o1' := off1_D o1'); (try simp only [List.nil_append, List.cons_append] at N'); (try dsimp only)))
  (k_with "FinA" => ((unfold LCg.FinA); intro D' h' tk' F' N' o1'; (replace o1' := off1_D o1'); (try simp only [List.nil_append, List.cons_append] at N'); (try dsimp only)))
  (k_with "CompSrcT" => refine Stop.mk ?_)
  (k_with "CompSrc" => refine Stop.mk ?_)
  (k_with "call type:map" => refine Stop.mk ?_)
  (k_with "call type:tuple" => refine Stop.mk ?_)
  (k_with "exec Assign cons ListComp" => refine Stop.mk ?_)
  (k_with "SrcG" => refine Stop.mk ?_)
  (k_with "call builtin:str.split" => (k_here; k_dflt (refine split_k (by k_asm) (by k_asm) (by assumption) ?_); (first | ((have := q1); clear this; intro D' q2 r2 h' k' S2 F' N' l1) | intro D' q1 r1 h' k' S1 F' N' l1); (try k_lt l1)))
  (k_with "eval SetComp" => refine Stop.mk ?_)
  (k_with "SrcS" => refine Stop.mk ?_)
  (k_with "assign Tuple ref" => refine Stop.mk ?_)
  (k_with "assign Tuple" => refine Stop.mk ?_)
  (k_with "eval ListComp" => refine Stop.mk ?_)
  (k_with "call builtin:min" => refine Stop.mk ?_)
  (k_with "call builtin:max" => refine Stop.mk ?_)
  (k_with "exec Try" => ((with_reducible show wpAny _ _ (exec (Stmt.Try _ (_ :: _) _ [] _) _) _ _ _); refine wpAny_Try_except ?_))
  (k_with "exec For Tuple Call" => refine Stop.mk ?_)
  (k_with "call type:enumerate" => refine Stop.mk ?_)
  (k_with "subscriptTail" => (k_here; (with_reducible show wpAny _ _ (subscriptTail _ _ (Value.ref _) (Value.int _ _)) _ _ _); k_dflt (refine' item_at ?w31kN ?w31km ?w31ko ?w31k0 ?w31k1 ?w31kx ?_; (case w31kN => k_asm); (case w31km => k_mem); (case w31ko => exact rfl); (case w31k0 => exact Int.natCast_nonneg _); (case w31k1 => assumption); (case w31kx => assumption); k_whole)))
  (k_with "subscriptTail Name Name ref int" => (k_here; (with_reducible show wpAny _ _ (subscriptTail _ _ (Value.ref _) (Value.int _ _)) _ _ _); k_dflt (refine' item_at ?w32kN ?w32km ?w32ko ?w32k0 ?w32k1 ?w32kx ?_; (case w32kN => k_asm); (case w32km => k_mem); (case w32ko => exact rfl); (case w32k0 => exact Int.natCast_nonneg _); (case w32k1 => assumption); (case w32kx => assumption); k_whole)))
  (k_with "subscriptTail Name Slice ref ref" => (k_here; k_dflt (refine' kms_slice_lit ?w33F ?w33N ?w33l ?w33p ?w33q ?w33e ?_ ?w33s ?w33t ?w33z; (case w33F => k_asm); (case w33N => k_asm); (case w33l => exact ⟨_, (News.at (by k_asm) (by k_mem)), rfl, _, rfl⟩); (case w33p => kmk_part); (case w33q => kmk_part); (case w33e => exact pick_sv _ _); (case w33s => with_unfolding_all rfl); (case w33t => kmk_pure); (case w33z => assumption)); intro D' h' F' N' l1; (try k_lt l1); (try k_sweep)))
  (k_with "call builtin:str.join" => (k_here; k_dflt (refine' join_l ?w34kN ?w34km ?w34ko ?w34ks ?w34kx ?w34kw ?_; (case w34kN => k_asm); (case w34km => k_mem); (case w34ko => exact rfl); (case w34ks => exact strs_vals _); (case w34kx => decide); (case w34kw => assumption); k_whole; intro t' k')))
  ((have hrow : (hd.heap_39, PySem.Challenge.rw_pd0044_01) = (hd.heap_39, PySem.Challenge.rw_pd0044_01) := rfl); revert hrow; k_fill; intro hrow; clear hrow; (obtain ⟨ahd, adp, afr, agd, aun⟩ := A; (have hh9 : ahd = none := hh); subst hh9; clear hh; (try dsimp only at hdep huni)))
  (refine' enterC X T ?k6 ?k7 ?k8 ?k9 ?kB ?kD ?_ ?c2 ?c3 ?c4; (case k6 => k_is); (case k7 => k_is); (case k8 => ((try dsimp only); omega)); (case k9 => exact BindsTo.of_eq rfl); (case kB => exact kindsX rfl); (case kD => decide +kernel); (case c2 => exact rfl); (case c3 => exact rfl); (case c4 => exact rfl))
  intro L' h' tk' cells' F' N' Y'
  k_cells Y'
  (try simp only [List.cons_append, List.nil_append] at N')
  (try dsimp only)
  w_strict (k_steps; unfold Stop)
  rename Fr _ _ _ _ => F1
  rename News _ _ _ _ => N1
  have X1 := X.keeps F1.keep
  have T1 := T.keeps F1.keep
  have hl1 := hl.at (fun o e => F1.keep _ o e)
  have O1 : OldBase _ _ _ _ _ := ⟨F1, N1⟩
  refine call_map hl1 fun h1 M T0 I hM hT hI nM nT nI MI TI kp1 => ?_
  have F2 := Fr.keeps F1 kp1
  have N2 := News.grown N1 kp1
  clear F1 N1
  w_strict (k_steps; unfold Stop)
  refine tuple_map X1 T1 rfl (by ((try simp only [depth_deeper, units_deeper, Around.in1_units, Around.in1_depth]); (try dsimp only); omega)) (by ((try simp only [depth_deeper, units_deeper, Around.in1_units, Around.in1_depth]); (try dsimp only); omega)) hl1 (by simp) (by rw [sizeLine_eq]; simp) nI MI TI kp1 hM hT hI fun D h2 tk2 kp2 nD hD => ?_
  have F3 := Fr.keeps O1.F kp2
  have N3 := News.grown O1.N kp2
  have N4 := News.more F3 N3 hD (fun _ _ e => by cases e) (by
    cases e : s.heap.get? D with
    | none => rfl
    | some o => rw [O1.F.keep _ _ e] at nD; cases nD)
  clear F2 N2 N3
  w_strict (k_steps; unfold Stop)
  rename Fr _ _ _ _ => F5
  rename News _ _ _ _ => N5
  (try simp only [List.cons_append, List.nil_append] at N5)
  refine Assign_LC F5 rfl (by first | rfl | decide +kernel) rfl (by decide +kernel) rfl (by decide +kernel) (by first | rfl | decide +kernel) (by first | rfl | decide +kernel) (by first | rfl | decide +kernel) ?_
  w_strict (k_steps; unfold Stop)
  refine SrcG.tup rfl F5 N5 (by k_mem) (by rw [sizeLine_eq]; simp) ?_
  intro g
  w_strict (k_steps; unfold Stop)
  rename Fr _ _ _ _ => F6
  rename News _ _ _ _ => N6
  refine SetComp_true F6 (by with_unfolding_all rfl) (by decide) (by rfl) (by decide) (by rfl) ?_
  w_strict (k_steps; unfold Stop)
  refine SrcS.tup rfl F6 N6 (by k_mem) (by simp) ?_ ?_
  · intro i v I oI C oC D' oD m₂ h tk E' hi hP hC hmx F7 N7 off ne
    (have offI := off3_I off); (have offC := off3_C off); (have offD := off3_D off); clear off
    have hv : ∃ pp uu, v = .str (pstr pp) uu := by
      rcases (show i = 0 ∨ i = 1 by simp at hi; omega) with rfl | rfl
      · exact ⟨p1, t, by simpa using hP.symm⟩
      · exact ⟨p2, u, by simpa using hP.symm⟩
    obtain ⟨pp, uu, rfl⟩ := hv
    have hst := start_pstr pp
    clear hret F6 N6
    w_strict (k_steps; all_goals exact ⟨congrArg Value.bool hst, _, _, rfl, by assumption, by first | assumption | exact cb_drop (by assumption) (by kcj_all)⟩)
  intro D2 h5 tk5 F7 N7 off7
  (have hall := off1_D off7); simp only [LCg.Off1, and_true] at off7
  clear F6 N6
  w_strict (k_steps; unfold Stop)
  rename Fr _ _ _ _ => F8
  rename News _ _ _ _ => N8
  refine assign_set1 rfl (N8 (D2, _) (by k_mem)).1 fun h6 kp6 => ?_
  have F9 := Fr.keeps F8 kp6
  have N9 := News.grown N8 kp6
  clear F8 N8
  w_strict (k_steps; unfold Stop)
  rename Fr _ _ _ _ => F10
  rename News _ _ _ _ => N10
  (try simp only [List.cons_append, List.nil_append] at N10)
  refine LCg.Assign_ListComp_U (F₀ := F10) (by rfl) (by with_unfolding_all rfl) (by with_unfolding_all rfl) (by decide) (by rfl) (by decide) (by rfl) (by rfl) (by rfl) ?_
  w_strict (k_steps; unfold Stop)
  refine LCg.CompSrc.ledger rfl F10 N10 (by k_mem) (by rw [sizeLine_eq]; simp) ?_
  intro g2
  refine LCg.CompRest.succ ?_
  intro vx Ix oIx Cx oCx D4x mx h7x tk7x E7x hvx hCx hxx F1x N1x off1x ne1x
  have hob5 := Option.some.inj hvx
  obtain rfl := hob5
  refine LCt.ListComp_T (F₀ := F1x) (by with_unfolding_all rfl) (by decide) (by rfl) (by decide) (by rfl) ?_
  w_strict (k_steps; unfold Stop)
  refine LCt.CompSrcT.ledger rfl F1x N1x (by k_mem) S1.sz ?_
  intro g3x
  rw [List.size_toArray, strValues_length]
  refine compT (keepP q1) (valP q1) (Or.inr ⟨_, by k_mem, rfl, _, rfl⟩) ?_ ?_ ?_
  · intro i v ys I oI C oC D' m₂ h tk E' hi hP hC hmx F12 N12 off ne
    (have offI := off3_I off); (have offC := off3_C off); (have offD := off3_D off); clear off
    have hob6 := part_at S1.e hP
    obtain ⟨x, tx, rfl, hx, hkp, hvp⟩ := hob6
    rw [hkp]
    clear hret
    rcases hx with rfl | rfl | rfl
    all_goals w_strict (k_steps; all_goals exact ⟨rfl, _, _, rfl, by assumption, by first | assumption | exact cb_drop (by assumption) (by kcj_all)⟩)
  · intro i v ys I oI C oC D' m₂ h tk E' hi hpi hP hC hmx F12 N12 off ne
    (have offI := off3_I off); (have offC := off3_C off); (have offD := off3_D off); clear off
    have hob7 := part_at S1.e hP
    obtain ⟨x, tx, rfl, hx, hkp, hvp⟩ := hob7
    rw [hvp]
    clear hret
    w_strict (k_steps; all_goals exact ⟨rfl, _, _, rfl, by assumption, by first | assumption | exact cb_drop (by assumption) (by kcj_all)⟩)
  rw [S1.ek]
  unfold LCg.FinE
  intro D3x h9x tk9x F13x N13x off13x
  refine CompEnd.grow F13x N13x off1x off13x (Or.inr ⟨_, by k_mem, rfl, _, rfl⟩) ?_
  clear F1x N1x F13x N13x
  refine LCg.CompRest.succ ?_
  intro vy Iy oIy Cy oCy D4y my h7y tk7y E7y hvy hCy hxy F1y N1y off1y ne1y
  have hob8 := Option.some.inj hvy
  obtain rfl := hob8
  refine LCt.ListComp_T (F₀ := F1y) (by with_unfolding_all rfl) (by decide) (by rfl) (by decide) (by rfl) ?_
  w_strict (k_steps; unfold Stop)
  refine LCt.CompSrcT.ledger rfl F1y N1y (by k_mem) S2.sz ?_
  intro g3y
  rw [List.size_toArray, strValues_length]
  refine compT (keepP q2) (valP q2) (Or.inr ⟨_, by k_mem, rfl, _, rfl⟩) ?_ ?_ ?_
  · intro i v ys I oI C oC D' m₂ h tk E' hi hP hC hmx F12 N12 off ne
    (have offI := off3_I off); (have offC := off3_C off); (have offD := off3_D off); clear off
    have hob9 := part_at S2.e hP
    obtain ⟨x, tx, rfl, hx, hkp, hvp⟩ := hob9
    rw [hkp]
    clear hret
    rcases hx with rfl | rfl | rfl
    all_goals w_strict (k_steps; all_goals exact ⟨rfl, _, _, rfl, by assumption, by first | assumption | exact cb_drop (by assumption) (by kcj_all)⟩)
  · intro i v ys I oI C oC D' m₂ h tk E' hi hpi hP hC hmx F12 N12 off ne
    (have offI := off3_I off); (have offC := off3_C off); (have offD := off3_D off); clear off
    have hob10 := part_at S2.e hP
    obtain ⟨x, tx, rfl, hx, hkp, hvp⟩ := hob10
    rw [hvp]
    clear hret
    w_strict (k_steps; all_goals exact ⟨rfl, _, _, rfl, by assumption, by first | assumption | exact cb_drop (by assumption) (by kcj_all)⟩)
  rw [S2.ek]
  unfold LCg.FinE
  intro D3y h9y tk9y F13y N13y off13y
  refine CompEnd.grow F13y N13y off1y off13y (Or.inr ⟨_, by k_mem, rfl, _, rfl⟩) ?_
  clear F1y N1y F13y N13y
  refine LCg.CompRest.zero ?_
  unfold LCg.FinA
  intro D5 hA tkA FA NA offA
  (have hall := off1_D offA); simp only [LCg.Off1, and_true] at offA
  (try simp only [List.nil_append, List.cons_append] at NA)
  (try dsimp only)
  clear F10 N10
  w_strict (k_steps; unfold Stop)
  rename Fr _ _ _ _ => FB
  rename News _ _ _ _ => NB
  refine min_steps (r1 := r1) (r2 := r2) rfl (NB (D5, _) (by k_mem)).1 (NB (D3x, _) (by k_mem)).1 (NB (D3y, _) (by k_mem)).1 S1.er S2.er (by ((try simp only [depth_deeper, units_deeper, Around.in1_units, Around.in1_depth]); (try dsimp only); omega)) ?_
  intro a1 h1' tk1 hv1 kpm
  have FC := Fr.keeps FB kpm
  have NC := News.grown NB kpm
  clear FB NB kpm
  w_strict (k_steps; unfold Stop)
  rename Fr _ _ _ _ => FD
  rename News _ _ _ _ => ND
  refine max_steps (r1 := r1) (r2 := r2) rfl (ND (D5, _) (by k_mem)).1 (ND (D3x, _) (by k_mem)).1 (ND (D3y, _) (by k_mem)).1 S1.er S2.er (by ((try simp only [depth_deeper, units_deeper, Around.in1_units, Around.in1_depth]); (try dsimp only); omega)) ?_
  intro b1 h2' tk2' hv2 kpm2
  have FE := Fr.keeps FD kpm2
  have NE := News.grown ND kpm2
  refine pick_all hv1 hv2 S1.er S2.er hp1 hp2 fun ra rb pa pb P => ?_
  have NF := News.both (cb_drop NE (two_in (by k_mem) (by k_mem))) P.ma P.mb NE
  clear FD ND NE hv1 hv2 kpm2
  w_strict (k_steps; unfold Stop)
  rename Fr _ _ _ _ => FG
  rename News _ _ _ _ => NG
  refine tail_k NG fun nl hnl NH => ?_
  clear NG
  refine wpAny_mono (Q := CommonQ s s.heap L' nl (lcp p1 p2)) ?_ ?_ (fun _ _ x => x)
  · clear hret hnl
    refine for_enum (fun i m => m (Str.ofString "common") = some (.ref a1) ∧ m (Str.ofString "s1") = some (.ref a1) ∧ m (Str.ofString "s2") = some (.ref b1) ∧ m (Str.ofString "isabs") = some (.bool true) ∧ pa.take i = pb.take i) rfl rfl rfl rfl FG NH (.head _) ⟨rfl, rfl, rfl, rfl, rfl⟩ ?_ ?_ ?_
    · intro Q' hq
      w_strict (k_steps; unfold Stop)
      exact hq
    · intro i v tv m₁ e oe it oi h tk E' hi j hni hie FH NI
      rw [map_at4 j.1 j.2.1 j.2.2.1 j.2.2.2.1] at FH
      refine step_k P.er P.eb P.lex hi j.2.2.2.2 fun ba ta bb tb hba hv hbb hit => ?_
      subst hv
      have hi64 : (i : Int) < 2 ^ 63 := by have := (List.getElem?_eq_some_iff.mp hba).1; have := P.hp; omega
      clear FG NH
      by_cases hbe : ba = bb
      · subst hbe
        have j6 := take_on j.2.2.2.2 hba hbb
        cases ba
        · rw [stp_f] at FH hit
          w_strict (k_steps; all_goals exact .inl ⟨rfl, _, _, _, rfl, FH, NI, rfl, rfl, rfl, rfl, j6⟩)
        · rw [stp_t] at FH hit
          w_strict (k_steps; all_goals exact .inl ⟨rfl, _, _, _, rfl, FH, NI, rfl, rfl, rfl, rfl, j6⟩)
      · have hsl0 := P.sz
        have ert := lcp_here j.2.2.2.2 hba hbb hbe P.er
        rw [P.lcp] at ert
        cases ba <;> cases bb
        · exact absurd rfl hbe
        · rw [stp_f] at FH; rw [stp_t] at hit
          w_strict (k_steps; all_goals exact .inr ⟨rfl, rfl, _, _, _, _, _, ra.take i, rfl, by assumption, news_pick (by assumption), rfl, rfl, ert⟩)
        · rw [stp_t] at FH; rw [stp_f] at hit
          w_strict (k_steps; all_goals exact .inr ⟨rfl, rfl, _, _, _, _, _, ra.take i, rfl, by assumption, news_pick (by assumption), rfl, rfl, ert⟩)
        · exact absurd rfl hbe
    · intro m₁ h tk j FH NI
      exact ⟨rfl, _, _, _, a1, _, ra, rfl, FH, (fun p hp => by rcases List.mem_cons.mp hp with rfl | hp; exact NI _ (.head _); exact NI p (.tail _ (.tail _ hp))), j.1, j.2.2.2.1, whole_here P.er P.lcp j.2.2.2.2⟩
  · rintro f s' ⟨rfl, h, tk, m, c, k, r, rfl, FJ, NJ, j1, j2, hr⟩
    rw [map_at2 j1 j2] at FJ
    subst hnl
    clear FG NH
    have hlc : (lcp p1 p2).length ≤ 6 := by have := lcp_len p1 p2; omega
    have hw1 := join_w hr hlc
    have hjl := join_le hr hlc
    rw [← join_pstr hlc, ← hr] at hret
    w_strict (k_steps; all_goals exact hret _ _ _ (Fr.keep (by assumption)))
end
end

/-! part Plain -/
section
/-! the plain law: trees as paths -/
theorem side_lt {b : Bool} {c : Nat} {rest : List Nat} {m : Nat} (h : (c :: rest).length ≤ m + 1) : (side b c rest).length ≤ m := by
  have := side_length b c rest
  simp only [List.length_cons] at h; omega
theorem in_side {c n : Nat} {rest : List Nat} (h : n ∈ c :: rest) (hn : n ≠ c) : n ∈ side (decide (c < n)) c rest := by
  have hr : n ∈ rest := by rcases List.mem_cons.mp h with e | e; exact absurd e hn; exact e
  refine mem_side.mpr ⟨hr, ?_⟩
  by_cases q : c < n <;> simp [q]; omega
theorem path_short : ∀ (m : Nat) (cs : List Nat) (n : Nat), cs.length ≤ m → n ∈ cs → (pathOf cs n).length < cs.length
  | _, [], _, _, h => by cases h
  | 0, c :: rest, _, h, _ => by simp at h
  | m + 1, c :: rest, n, h, hn => by
    rw [pathOf_cons]
    split
    · simp
    · rename_i hne
      have := path_short m _ n (side_lt h) (in_side hn hne)
      have hl := side_length (decide (c < n)) c rest
      simp only [List.length_cons]; omega
theorem sub_path {cs : List Nat} {n : Nat} (h : n ∈ cs) : (sub cs (pathOf cs n)).head? = some n := (path_iff _ cs n h).mp rfl

/-- in order -/
theorem flat_cons (b : Bool) (p : List Bool) : flat (b :: p) ++ [47, 109] = 47 :: lt2 b :: (flat p ++ [47, 109]) := rfl
theorem spot_lt : ∀ (m : Nat) (cs : List Nat) (a b : Nat), cs.length ≤ m → a ∈ cs → b ∈ cs → a < b → flat (pathOf cs a) ++ [47, 109] < flat (pathOf cs b) ++ [47, 109]
  | _, [], _, _, _, h, _, _ => by cases h
  | 0, c :: rest, _, _, h, _, _, _ => by simp at h
  | m + 1, c :: rest, a, b, h, ha, hb, hab => by
    by_cases ea : a = c
    · subst ea
      have hb' : b ≠ a := by omega
      rw [pathOf_same, pathOf_ne rest hb', decide_eq_true hab, flat_cons]
      exact List.Lex.cons (List.Lex.rel (by decide))
    · by_cases eb : b = c
      · subst eb
        rw [pathOf_same, pathOf_ne rest ea, decide_eq_false (show ¬ b < a by omega), flat_cons]
        exact List.Lex.cons (List.Lex.rel (by decide))
      · rw [pathOf_ne rest ea, pathOf_ne rest eb, flat_cons, flat_cons]
        by_cases qa : c < a
        · have qb : c < b := by omega
          have ia := in_side ha ea
          have ib := in_side hb eb
          rw [decide_eq_true qa] at ia ⊢
          rw [decide_eq_true qb] at ib ⊢
          exact List.Lex.cons (List.Lex.cons (spot_lt m _ a b (side_lt h) ia ib hab))
        · by_cases qb : c < b
          · rw [decide_eq_false qa, decide_eq_true qb]
            exact List.Lex.cons (List.Lex.rel (by decide))
          · have ia := in_side ha ea
            have ib := in_side hb eb
            rw [decide_eq_false qa] at ia ⊢
            rw [decide_eq_false qb] at ib ⊢
            exact List.Lex.cons (List.Lex.cons (spot_lt m _ a b (side_lt h) ia ib hab))

/-- the place that two share -/
theorem lca : ∀ (m : Nat) (cs : List Nat) (a b : Nat), cs.length ≤ m → a ∈ cs → b ∈ cs →
    (sub cs (lcp (pathOf cs a) (pathOf cs b))).head? = (cs.filter (fun y => decide (min a b ≤ y ∧ y ≤ max a b))).head?
  | _, [], _, _, _, h, _ => by cases h
  | 0, c :: rest, _, _, h, _, _ => by simp at h
  | m + 1, c :: rest, a, b, h, ha, hb => by
    by_cases hc : min a b ≤ c ∧ c ≤ max a b
    · rw [List.filter_cons_of_pos (by simpa using hc), List.head?_cons]
      have e : lcp (pathOf (c :: rest) a) (pathOf (c :: rest) b) = [] := by
        by_cases ea : a = c
        · rw [ea, pathOf_same]; cases pathOf (c :: rest) b <;> rfl
        · by_cases eb : b = c
          · rw [eb, pathOf_same]; cases pathOf (c :: rest) a <;> rfl
          · rw [pathOf_ne rest ea, pathOf_ne rest eb]
            unfold lcp
            rw [if_neg]
            by_cases q1 : c < a <;> by_cases q2 : c < b <;> simp [q1, q2] <;> omega
      rw [e, sub_root]; rfl
    · have ea : a ≠ c := by omega
      have eb : b ≠ c := by omega
      have hd : decide (c < a) = decide (c < b) := by
        by_cases q1 : c < a <;> by_cases q2 : c < b <;> simp [q1, q2] <;> omega
      have ia := in_side ha ea
      have ib := in_side hb eb
      rw [← hd] at ib
      rw [List.filter_cons_of_neg (by simpa using hc), pathOf_ne rest ea, pathOf_ne rest eb, ← hd]
      rw [show ∀ (x : Bool) (p q : List Bool), lcp (x :: p) (x :: q) = x :: lcp p q from fun x p q => by rw [lcp]; simp, sub_cons, lca m _ a b (side_lt h) ia ib]
      congr 1
      unfold side
      rw [List.filter_filter]
      apply List.filter_congr
      intro y _
      have : ∀ P : Prop, ∀ [Decidable P], ∀ x : Bool, (decide P = true → x = true) → (decide P && x) = decide P := by
        intro P _ x hx
        cases hP : decide P
        · rfl
        · rw [hx hP]; rfl
      refine this _ _ fun hy => ?_
      have hy := of_decide_eq_true hy
      by_cases q1 : c < a
      · simp only [decide_eq_true q1, if_true]; exact decide_eq_true (by omega)
      · simp only [decide_eq_false q1, Bool.false_eq_true, if_false]; exact decide_eq_true (by omega)

/-- the one right above -/
theorem adj_some : ∀ (l : List Nat) (n : Nat), n ∉ l → l ≠ [] → l.filter (adj l n) ≠ [] := by
  intro l n hn hl
  have hmax : ∀ (r : List Nat), r ≠ [] → ∃ x ∈ r, ∀ y ∈ r, y ≤ x := by
    intro r
    induction r with
    | nil => intro h; exact absurd rfl h
    | cons a r ih =>
      intro _
      by_cases hr : r = []
      · subst hr; exact ⟨a, by simp, by simp⟩
      · obtain ⟨x, hx, hm⟩ := ih hr
        by_cases q : a ≤ x
        · exact ⟨x, by simp [hx], fun y hy => by rcases List.mem_cons.mp hy with rfl | hy; exact q; exact hm y hy⟩
        · refine ⟨a, by simp, fun y hy => ?_⟩
          rcases List.mem_cons.mp hy with rfl | hy
          · exact Nat.le_refl _
          · have := hm y hy; omega
  have hmin : ∀ (r : List Nat), r ≠ [] → ∃ x ∈ r, ∀ y ∈ r, x ≤ y := by
    intro r
    induction r with
    | nil => intro h; exact absurd rfl h
    | cons a r ih =>
      intro _
      by_cases hr : r = []
      · subst hr; exact ⟨a, by simp, by simp⟩
      · obtain ⟨x, hx, hm⟩ := ih hr
        by_cases q : x ≤ a
        · exact ⟨x, by simp [hx], fun y hy => by rcases List.mem_cons.mp hy with rfl | hy; exact q; exact hm y hy⟩
        · refine ⟨a, by simp, fun y hy => ?_⟩
          rcases List.mem_cons.mp hy with rfl | hy
          · exact Nat.le_refl _
          · have := hm y hy; omega
  have fin : ∀ x ∈ l, adj l n x = true → l.filter (adj l n) ≠ [] := fun x hx ha e => by
    have : x ∈ l.filter (adj l n) := List.mem_filter.mpr ⟨hx, ha⟩
    rw [e] at this; cases this
  by_cases hb : l.filter (fun x => decide (x < n)) = []
  · obtain ⟨x, hx, hm⟩ := hmin l hl
    refine fin x hx (decide_eq_true (.inr ⟨?_, fun t ht _ => hm t ht⟩))
    have h1 : ¬ x < n := fun q => by
      have : x ∈ l.filter (fun x => decide (x < n)) := List.mem_filter.mpr ⟨hx, decide_eq_true q⟩
      rw [hb] at this; cases this
    have h2 : x ≠ n := fun e => hn (e ▸ hx)
    omega
  · obtain ⟨x, hx, hm⟩ := hmax _ hb
    have hx' := List.mem_filter.mp hx
    exact fin x hx'.1 (decide_eq_true (.inl ⟨of_decide_eq_true hx'.2, fun t ht htn => hm t (List.mem_filter.mpr ⟨ht, decide_eq_true htn⟩)⟩))
theorem getLast_cons_ne {α : Type} {x : α} {l : List α} (h : l ≠ []) : (x :: l).getLast? = l.getLast? := by
  cases l with
  | nil => exact absurd rfl h
  | cons y r => rfl
theorem above : ∀ (m : Nat) (pre : List Nat) (n : Nat), pre.length ≤ m → n ∉ pre → pre.Nodup → pre ≠ [] →
    ∃ q b, pathOf pre n = q ++ [b] ∧ (sub pre q).head? = (pre.filter (adj pre n)).getLast?
  | _, [], _, _, _, _, h => absurd rfl h
  | 0, c :: rest, _, h, _, _, _ => by simp at h
  | m + 1, c :: rest, n, h, hn, hnd, _ => by
    have hnc : n ≠ c := fun e => hn (e ▸ List.mem_cons_self)
    have hnr : n ∉ rest := fun e => hn (List.mem_cons_of_mem _ e)
    have hcr : c ∉ rest := (List.nodup_cons.mp hnd).1
    have hns : n ∉ side (decide (c < n)) c rest := fun e => hnr (mem_side.mp e).1
    have hside : ∀ t, t ∈ side (decide (c < n)) c rest ↔ t ∈ rest ∧ (c < n ↔ c < t) := by
      intro t
      rw [mem_side]
      refine and_congr_right fun ht => ?_
      have htc : t ≠ c := fun e => hcr (e ▸ ht)
      by_cases q : c < n
      · simp [q]
      · simp [q]; omega
    rw [pathOf_ne rest hnc]
    by_cases he : side (decide (c < n)) c rest = []
    · refine ⟨[], decide (c < n), by rw [he, pathOf_nil]; rfl, ?_⟩
      rw [sub_root, List.head?_cons]
      have hout : ∀ t ∈ rest, ¬ (c < n ↔ c < t) := fun t ht q => by
        have := (hside t).mpr ⟨ht, q⟩
        rw [he] at this; cases this
      have e1 : adj (c :: rest) n c = true := by
        refine decide_eq_true ?_
        by_cases q : c < n
        · refine .inl ⟨q, fun t ht htn => ?_⟩
          rcases List.mem_cons.mp ht with rfl | ht
          · exact Nat.le_refl _
          · have := hout t ht; omega
        · refine .inr ⟨by omega, fun t ht htn => ?_⟩
          rcases List.mem_cons.mp ht with rfl | ht
          · exact Nat.le_refl _
          · have := hout t ht; omega
      have e2 : rest.filter (adj (c :: rest) n) = [] := by
        refine List.filter_eq_nil_iff.mpr fun t ht ha => ?_
        have h1 := hout t ht
        have htc : t ≠ c := fun e => hcr (e ▸ ht)
        rcases of_decide_eq_true ha with ⟨q1, q2⟩ | ⟨q1, q2⟩
        · have := q2 c List.mem_cons_self; omega
        · have := q2 c List.mem_cons_self; omega
      rw [List.filter_cons_of_pos e1, e2]; rfl
    · obtain ⟨q, b, hq, hh⟩ := above m _ n (side_lt h) hns (nodup_side (List.nodup_cons.mp hnd).2) he
      refine ⟨decide (c < n) :: q, b, by rw [hq]; rfl, ?_⟩
      rw [sub_cons, hh]
      have e2 : rest.filter (adj (c :: rest) n) = (side (decide (c < n)) c rest).filter (adj (side (decide (c < n)) c rest) n) := by
        conv => rhs; arg 2; unfold side
        rw [List.filter_filter]
        apply List.filter_congr
        intro t ht
        have htc : t ≠ c := fun e => hcr (e ▸ ht)
        rw [Bool.eq_iff_iff]
        constructor
        · intro ha
          have hin : c < n ↔ c < t := by
            rcases of_decide_eq_true ha with ⟨q1, q2⟩ | ⟨q1, q2⟩
            · have := q2 c List.mem_cons_self; omega
            · have := q2 c List.mem_cons_self; omega
          rw [Bool.and_eq_true]
          refine ⟨decide_eq_true ?_, ?_⟩
          · rcases of_decide_eq_true ha with ⟨q1, q2⟩ | ⟨q1, q2⟩
            · exact .inl ⟨q1, fun u hu => q2 u (List.mem_cons_of_mem _ ((hside u).mp hu).1)⟩
            · exact .inr ⟨q1, fun u hu => q2 u (List.mem_cons_of_mem _ ((hside u).mp hu).1)⟩
          · by_cases qq : c < n
            · simp only [decide_eq_true qq, if_true]; exact decide_eq_true (by omega)
            · simp only [decide_eq_false qq, Bool.false_eq_true, if_false]; exact decide_eq_true (by omega)
        · intro hx
          rw [Bool.and_eq_true] at hx
          have hin : c < n ↔ c < t := by
            have := hx.2
            by_cases qq : c < n
            · simp only [decide_eq_true qq, if_true, decide_eq_true_eq] at this; omega
            · simp only [decide_eq_false qq, Bool.false_eq_true, if_false, decide_eq_true_eq] at this; omega
          refine decide_eq_true ?_
          rcases of_decide_eq_true hx.1 with ⟨q1, q2⟩ | ⟨q1, q2⟩
          · refine .inl ⟨q1, fun u hu hun => ?_⟩
            rcases List.mem_cons.mp hu with rfl | hu
            · omega
            · by_cases qq : c < n ↔ c < u
              · exact q2 u ((hside u).mpr ⟨hu, qq⟩) hun
              · omega
          · refine .inr ⟨q1, fun u hu hun => ?_⟩
            rcases List.mem_cons.mp hu with rfl | hu
            · omega
            · by_cases qq : c < n ↔ c < u
              · exact q2 u ((hside u).mpr ⟨hu, qq⟩) hun
              · omega
      have hne := adj_some _ n hns he
      by_cases e1 : adj (c :: rest) n c = true
      · rw [List.filter_cons_of_pos e1, e2, getLast_cons_ne hne]
      · rw [List.filter_cons_of_neg e1, e2]
theorem sub_more : ∀ (q : List Bool) (l l' : List Nat) (x : Nat), (sub l q).head? = some x → (sub (l ++ l') q).head? = some x
  | [], l, l', x, h => by
    rw [sub_root] at h ⊢
    cases l with
    | nil => cases h
    | cons a l => exact h
  | b :: q, [], l', x, h => by rw [sub_nil] at h; cases h
  | b :: q, c :: rest, l', x, h => by
    rw [sub_cons] at h
    rw [List.cons_append, sub_cons, side_append]
    exact sub_more q _ _ x h
theorem path_more (pre : List Nat) (n : Nat) : ∀ (k : Nat) (post : List Nat), post.length = k → pathOf ((pre ++ [n]) ++ post) n = pathOf pre n := by
  intro k
  induction k with
  | zero =>
    intro post h
    rw [List.length_eq_zero_iff.mp h, List.append_nil]
    exact path_append _ pre n n (Nat.le_refl _) (.inr rfl)
  | succ k ih =>
    intro post h
    rcases List.eq_nil_or_concat post with rfl | ⟨post', y, rfl⟩
    · simp at h
    · rw [List.concat_eq_append, ← List.append_assoc]
      rw [path_append _ _ y n (Nat.le_refl _) (.inl (by simp))]
      exact ih post' (by simpa using h)
end

/-! part KasS -/
section
/-! the sort, where no two ranks are alike -/
noncomputable def Wk {α : Type} (n : Nat) (lt : Nat → Nat → Bool) : KasT α → (α → Prop) → Prop
  | .ret a, Q => Q a
  | .ask i j k, Q => i < n ∧ j < n ∧ Wk n lt (k (lt i j)) Q
theorem Wk.bind {α β : Type} {n : Nat} {lt : Nat → Nat → Bool} {f : α → KasT β} {Q : β → Prop} : ∀ (t : KasT α), Wk n lt t (fun a => Wk n lt (f a) Q) → Wk n lt (t.bind f) Q
  | .ret _, h => h
  | .ask i j k, h => ⟨h.1, h.2.1, Wk.bind (k (lt i j)) h.2.2⟩
theorem Wk.mono {α : Type} {n : Nat} {lt : Nat → Nat → Bool} {Q Q' : α → Prop} (hq : ∀ a, Q a → Q' a) : ∀ (t : KasT α), Wk n lt t Q → Wk n lt t Q'
  | .ret a, h => hq a h
  | .ask i j k, h => ⟨h.1, h.2.1, Wk.mono hq (k (lt i j)) h.2.2⟩
theorem Wk.run {α : Type} {n : Nat} {lt : Nat → Nat → Bool} {Q : α → Prop} {cmp : Nat → Nat → (Bool → Shared → Prop) → Shared → Prop} {s : Shared} {R : α → Shared → Prop}
    (hc : ∀ i j (C : Bool → Shared → Prop), i < n → j < n → C (lt i j) s → cmp i j C s) (hR : ∀ a, Q a → R a s) : ∀ (t : KasT α), Wk n lt t Q → t.kasWp cmp R s
  | .ret a, h => hR a h
  | .ask i j k, h => hc i j _ h.1 h.2.1 (Wk.run hc hR (k (lt i j)) h.2.2)

section
variable {n : Nat} {r : Nat → Nat}
noncomputable abbrev ltR (r : Nat → Nat) (i j : Nat) : Bool := decide (r i < r j)
noncomputable def vv (r : Nat → Nat) (p : Array Nat) (k : Nat) : Nat := r (p.getD k 0)
noncomputable def Pm (n : Nat) (p : Array Nat) : Prop := p.toList.Perm (List.range n)
theorem Pm.size {p : Array Nat} (h : Pm n p) : p.size = n := by have := List.Perm.length_eq h; simpa using this
theorem getD_at {p : Array Nat} {i : Nat} (h : i < p.size) : p.getD i 0 = p[i] := by simp [Array.getD, h]
theorem Pm.lt {p : Array Nat} (h : Pm n p) {i : Nat} (hi : i < n) : p.getD i 0 < n := by
  have hs := h.size
  rw [getD_at (by omega)]
  exact List.mem_range.mp ((List.Perm.mem_iff h).mp (by simp))
theorem Pm.inj {p : Array Nat} (h : Pm n p) {i j : Nat} (hi : i < n) (hj : j < n) (e : p.getD i 0 = p.getD j 0) : i = j := by
  have hs := h.size
  have nd : p.toList.Nodup := (List.Perm.nodup_iff h).mpr List.nodup_range
  rw [getD_at (by omega), getD_at (by omega)] at e
  have hil : i < p.toList.length := by simp; omega
  have hjl : j < p.toList.length := by simp; omega
  have e' : p.toList[i] = p.toList[j] := by simpa using e
  rcases Nat.lt_trichotomy i j with q | q | q
  · exact absurd e' (List.pairwise_iff_getElem.mp nd i j hil hjl q)
  · exact q
  · exact absurd e'.symm (List.pairwise_iff_getElem.mp nd j i hjl hil q)
noncomputable def InjR (n : Nat) (r : Nat → Nat) : Prop := ∀ i j, i < n → j < n → r i = r j → i = j
theorem vv_ne (hr : InjR n r) {p : Array Nat} (h : Pm n p) {i j : Nat} (hi : i < n) (hj : j < n) (hij : i ≠ j) : vv r p i ≠ vv r p j := fun e => hij (h.inj hi hj (hr _ _ (h.lt hi) (h.lt hj) e))
noncomputable def Asc (r : Nat → Nat) (p : Array Nat) (b : Nat) : Prop := ∀ i, i + 1 < b → vv r p i < vv r p (i + 1)
noncomputable def Dsc (r : Nat → Nat) (p : Array Nat) (b : Nat) : Prop := ∀ i, i + 1 < b → vv r p (i + 1) < vv r p i
theorem asc_lt {p : Array Nat} {b : Nat} (h : Asc r p b) : ∀ d i, i + (d + 1) < b → vv r p i < vv r p (i + (d + 1))
  | 0, i, hb => h i hb
  | d + 1, i, hb => by
    have h1 := asc_lt h d i (by omega)
    have h2 := h (i + (d + 1)) (by omega)
    have e : i + (d + 1) + 1 = i + (d + 1 + 1) := by omega
    rw [e] at h2; omega
theorem asc_lt' {p : Array Nat} {b : Nat} (h : Asc r p b) {i j : Nat} (hij : i < j) (hj : j < b) : vv r p i < vv r p j := by
  have := asc_lt h (j - i - 1) i (by omega)
  rwa [show i + (j - i - 1 + 1) = j by omega] at this
theorem asc_one {p : Array Nat} : Asc r p 1 := fun i h => by omega
theorem asc_more {p : Array Nat} {m : Nat} (ha : Asc r p m) (h1 : 1 ≤ m) (c : vv r p (m - 1) < vv r p m) : Asc r p (m + 1) := fun i hi => by
  by_cases q : i + 1 < m
  · exact ha i q
  · obtain rfl : i = m - 1 := by omega
    rwa [show m - 1 + 1 = m by omega]
theorem dsc_more {p : Array Nat} {m : Nat} (ha : Dsc r p m) (h1 : 1 ≤ m) (c : vv r p m < vv r p (m - 1)) : Dsc r p (m + 1) := fun i hi => by
  by_cases q : i + 1 < m
  · exact ha i q
  · obtain rfl : i = m - 1 := by omega
    rwa [show m - 1 + 1 = m by omega]

theorem w_asc {p : Array Nat} (hr : InjR n r) (hp : Pm n p) : ∀ f m, 1 ≤ m → m + f = n → Asc r p m → Wk n (ltR r) (kas_asc p f m) (fun m' => m ≤ m' ∧ m' ≤ n ∧ Asc r p m' ∧ (m' < n → vv r p m' < vv r p (m' - 1)))
  | 0, m, h1, hf, ha => ⟨Nat.le_refl _, by omega, ha, fun h => by omega⟩
  | f + 1, m, h1, hf, ha => by
    refine ⟨hp.lt (by omega), hp.lt (by omega), ?_⟩
    by_cases c : vv r p m < vv r p (m - 1)
    · rw [show ltR r (p.getD m 0) (p.getD (m - 1) 0) = true from decide_eq_true c]; show Wk _ _ (if true = true then _ else _) _; rw [if_pos rfl]
      exact ⟨Nat.le_refl _, by omega, ha, fun _ => c⟩
    · rw [show ltR r (p.getD m 0) (p.getD (m - 1) 0) = false from decide_eq_false c]; show Wk _ _ (if false = true then _ else _) _; rw [if_neg (by simp)]
      have hne := vv_ne hr hp (i := m) (j := m - 1) (by omega) (by omega) (by omega)
      exact Wk.mono (fun m' h => ⟨by omega, h.2⟩) _ (w_asc hr hp f (m + 1) (by omega) (by omega) (asc_more ha h1 (by omega)))
theorem w_dsc {p : Array Nat} (hr : InjR n r) (hp : Pm n p) : ∀ f m, 2 ≤ m → m + f = n → Dsc r p m → Wk n (ltR r) (kas_desc f p m 0) (fun x => x.1 = p ∧ 2 ≤ x.2.1 ∧ x.2.1 ≤ n ∧ x.2.2 = 0 ∧ Dsc r p x.2.1)
  | 0, m, h1, hf, ha => ⟨rfl, h1, by show m ≤ n; omega, rfl, ha⟩
  | f + 1, m, h1, hf, ha => by
    refine ⟨hp.lt (by omega), hp.lt (by omega), ?_⟩
    by_cases c : vv r p m < vv r p (m - 1)
    · rw [show ltR r (p.getD m 0) (p.getD (m - 1) 0) = true from decide_eq_true c]; show Wk _ _ (if true = true then _ else _) _; rw [if_pos rfl, if_neg (by omega)]
      exact w_dsc hr hp f (m + 1) (by omega) (by omega) (dsc_more ha (by omega) c)
    · rw [show ltR r (p.getD m 0) (p.getD (m - 1) 0) = false from decide_eq_false c]; show Wk _ _ (if false = true then _ else _) _; rw [if_neg (by simp)]
      have hne := vv_ne hr hp (i := m) (j := m - 1) (by omega) (by omega) (by omega)
      refine ⟨hp.lt (by omega), hp.lt (by omega), ?_⟩
      rw [show ltR r (p.getD (m - 1) 0) (p.getD m 0) = true from decide_eq_true (by show vv r p (m - 1) < vv r p m; omega)]; show Wk _ _ (if true = true then _ else _) _; rw [if_pos rfl]
      exact ⟨rfl, h1, by show m ≤ n; omega, rfl, ha⟩
theorem rev_perm {p : Array Nat} (hp : Pm n p) (m : Nat) : Pm n (kas_rev p 0 m) :=
  (Array.perm_iff_toList_perm.mp (mirror_perm p 0 m _)).trans hp
theorem rev_at {p : Array Nat} (hp : Pm n p) {m k : Nat} (hm : m ≤ n) (hk : k < m) : (kas_rev p 0 m).getD k 0 = p.getD (m - 1 - k) 0 := by
  have hs := hp.size
  have e := getElem?_mirror_all (xs := p) (i := 0) (j := m) (by omega) k
  rw [if_pos ⟨by omega, hk⟩, show 0 + m - 1 - k = m - 1 - k by omega] at e
  simp only [Array.getD_eq_getD_getElem?]
  show ((mirror p 0 m ((m - 0) / 2))[k]?).getD 0 = _
  rw [e]
theorem rev_asc {p : Array Nat} (hp : Pm n p) {m : Nat} (hm : m ≤ n) (h : Dsc r p m) : Asc r (kas_rev p 0 m) m := fun i hi => by
  unfold vv
  rw [rev_at hp hm (by omega), rev_at hp hm hi]
  have := h (m - 1 - (i + 1)) (by omega)
  rwa [show m - 1 - (i + 1) + 1 = m - 1 - i by omega] at this
theorem w_tail {p : Array Nat} (hr : InjR n r) (hp : Pm n p) {m : Nat} (h1 : 1 ≤ m) (hm : m ≤ n) (h : Dsc r p m) : Wk n (ltR r) (kas_tail3 m n p) (fun x => 1 ≤ x.1 ∧ x.1 ≤ n ∧ Pm n x.2 ∧ Asc r x.2 x.1) := by
  unfold kas_tail3
  refine Wk.bind _ (Wk.mono (fun m' h' => ?_) _ (w_asc hr (rev_perm hp m) (n - m) m h1 (by omega) (rev_asc hp hm h)))
  exact ⟨by show 1 ≤ m'; omega, h'.2.1, rev_perm hp m, h'.2.2.1⟩
theorem range_pm : Pm n (List.toArray (List.range n)) := List.Perm.refl _
theorem w_count (hr : InjR n r) (hn : 1 ≤ n) : Wk n (ltR r) (kas_count n (List.toArray (List.range n))) (fun x => 1 ≤ x.1 ∧ x.1 ≤ n ∧ Pm n x.2 ∧ Asc r x.2 x.1) := by
  unfold kas_count
  refine Wk.bind _ (Wk.mono (fun m h => ?_) _ (w_asc hr range_pm (n - 1) 1 (Nat.le_refl _) (by omega) asc_one))
  have hp : Pm n (List.toArray (List.range n)) := range_pm
  generalize List.toArray (List.range n) = p at h hp ⊢
  obtain ⟨h1, h2, h3, h4⟩ := h
  by_cases c : (m == n) = true
  · rw [if_pos c]
    exact ⟨h1, h2, hp, h3⟩
  · rw [if_neg c]
    have hlt : m < n := by
      have : m ≠ n := fun e => c (by rw [e]; exact beq_self_eq_true n)
      omega
    by_cases d : m > 1
    · rw [if_pos d]
      refine ⟨hp.lt (by omega), hp.lt (by omega), ?_⟩
      rw [show ltR r (p.getD 0 0) (p.getD (m - 1) 0) = true from decide_eq_true (asc_lt' h3 (i := 0) (j := m - 1) (by omega) (by omega))]; show Wk _ _ (if true = true then _ else _) _; rw [if_pos rfl]
      exact ⟨h1, h2, hp, h3⟩
    · rw [if_neg d]
      obtain rfl : m = 1 := by omega
      unfold kas_descPart
      refine Wk.bind _ (Wk.mono (fun x h' => ?_) _ (w_dsc hr hp (n - (1 + 1)) (1 + 1) (by omega) (by omega) (fun i hi => ?_)))
      · obtain ⟨x1, x2, x3⟩ := x
        obtain ⟨e1, g2, g3, e4, g5⟩ := h'
        dsimp only at e1 g2 g3 e4 g5 ⊢
        subst e1 e4
        rw [if_neg (by omega)]
        exact w_tail hr hp (by omega) g3 g5
      · obtain rfl : i = 0 := by omega
        exact h4 hlt
theorem bub_at {p : Array Nat} (hp : Pm n p) {k l : Nat} (hk : k < n) (hl : l ≤ k) (i : Nat) : (bubble p k (k - l)).getD i 0 = if i = l then p.getD k 0 else if l < i ∧ i ≤ k then p.getD (i - 1) 0 else p.getD i 0 := by
  have hs := hp.size
  have e := getElem?_bubble (xs := p) (src := k) (by omega) (k - l) (by omega) i
  rw [show k - (k - l) = l by omega] at e
  simp only [Array.getD_eq_getD_getElem?]
  rw [e]
  split
  · rfl
  · split <;> rfl
theorem bub_perm {p : Array Nat} (hp : Pm n p) (k d : Nat) : Pm n (bubble p k d) := (Array.perm_iff_toList_perm.mp (bubble_perm p k d)).trans hp
theorem w_place {p : Array Nat} (hr : InjR n r) (hp : Pm n p) {k : Nat} (hk : k < n) (ha : Asc r p k) : ∀ f l u, l ≤ u → u ≤ k → u - l ≤ f → (∀ i, i < l → vv r p i < vv r p k) → (∀ i, u ≤ i → i < k → vv r p k < vv r p i) →
    Wk n (ltR r) (kas_place p k f l u) (fun l' => l' ≤ k ∧ (∀ i, i < l' → vv r p i < vv r p k) ∧ (∀ i, l' ≤ i → i < k → vv r p k < vv r p i))
  | 0, l, u, h1, h2, h3, h4, h5 => ⟨by omega, h4, fun i hi => h5 i (by omega)⟩
  | f + 1, l, u, h1, h2, h3, h4, h5 => by
    unfold kas_place
    by_cases c : l ≥ u
    · rw [if_pos c]; exact ⟨by omega, h4, fun i hi => h5 i (by omega)⟩
    · rw [if_neg c]
      refine ⟨hp.lt hk, hp.lt (by omega), ?_⟩
      by_cases d : vv r p k < vv r p ((l + u) / 2)
      · rw [show ltR r (p.getD k 0) (p.getD ((l + u) / 2) 0) = true from decide_eq_true d]; show Wk _ _ (if true = true then _ else _) _; rw [if_pos rfl]
        refine w_place hr hp hk ha f l ((l + u) / 2) (by omega) (by omega) (by omega) h4 fun i hi hik => ?_
        by_cases q : i = (l + u) / 2
        · rw [q]; exact d
        · have := asc_lt' ha (i := (l + u) / 2) (j := i) (by omega) hik; omega
      · rw [show ltR r (p.getD k 0) (p.getD ((l + u) / 2) 0) = false from decide_eq_false d]; show Wk _ _ (if false = true then _ else _) _; rw [if_neg (by simp)]
        have hne := vv_ne hr hp (i := k) (j := (l + u) / 2) hk (by omega) (by omega)
        refine w_place hr hp hk ha f ((l + u) / 2 + 1) u (by omega) (by omega) (by omega) (fun i hi => ?_) h5
        by_cases q : i = (l + u) / 2
        · rw [q]; omega
        · have := asc_lt' ha (i := i) (j := (l + u) / 2) (by omega) (by omega); omega
theorem w_bin (hr : InjR n r) : ∀ f (p : Array Nat) k, Pm n p → Asc r p k → k + f = n → Wk n (ltR r) (kas_bin f p k) (fun p' => Pm n p' ∧ Asc r p' n)
  | 0, p, k, hp, ha, hf => ⟨hp, by rwa [show n = k by omega]⟩
  | f + 1, p, k, hp, ha, hf => by
    unfold kas_bin
    have hk : k < n := by omega
    refine Wk.bind _ (Wk.mono (fun l hl => ?_) _ (w_place hr hp hk ha k 0 k (by omega) (by omega) (by omega) (fun i hi => by omega) (fun i h1 h2 => by omega)))
    obtain ⟨h1, h2, h3⟩ := hl
    refine w_bin hr f _ (k + 1) (bub_perm hp _ _) (fun i hi => ?_) (by omega)
    unfold vv
    rw [bub_at hp hk h1, bub_at hp hk h1]
    by_cases q1 : i = l
    · rw [if_pos q1, if_neg (by omega), if_pos ⟨by omega, by omega⟩, show i + 1 - 1 = l by omega]
      exact h3 l (Nat.le_refl _) (by omega)
    · by_cases q2 : l < i
      · rw [if_neg q1, if_pos ⟨q2, by omega⟩, if_neg (by omega), if_pos ⟨by omega, by omega⟩, show i + 1 - 1 = (i - 1) + 1 by omega]
        exact ha (i - 1) (by omega)
      · by_cases q3 : i + 1 = l
        · rw [if_neg q1, if_neg (by omega), if_pos q3]
          exact h2 i (by omega)
        · rw [if_neg q1, if_neg (by omega), if_neg q3, if_neg (by omega)]
          exact ha i (by omega)
theorem w_sort (hr : InjR n r) (hn : 1 ≤ n) : Wk n (ltR r) (kas_sort n) (fun p => Pm n p ∧ Asc r p n) := by
  unfold kas_sort
  refine Wk.bind _ (Wk.mono (fun x h => ?_) _ (w_count hr hn))
  obtain ⟨h1, h2, h3, h4⟩ := h
  rw [show max x.1 1 = x.1 by omega]
  by_cases c : x.1 < n
  · rw [if_pos c]; exact w_bin hr _ _ _ h3 h4 (by omega)
  · rw [if_neg c]; exact ⟨h3, by rwa [show n = x.1 by omega]⟩
end
end

/-! part KSortK -/
section
set_option maxRecDepth 100000
set_option maxHeartbeats 0
open PySem.SeqAt
/-! sorted() of keys -/
section
variable {prog : Program} {w : World} {A : Around} {E : Value → Shared → Prop} {s : Shared} {kd : Nat}
noncomputable def GoodKind (κ : SortKind) (kd : Nat) : Prop := κ = oneType' ∨ κ = general' ∨ (kd ≠ 2 ∧ ∃ b, κ = tuples' b)
theorem boolBack {Q : Bool → Shared → Prop} {b : Bool} (h : Q b s) : PySem.W.BoolBack Q (.bool b) s := h
theorem lt_general {v v' : Value} {n n' : Nat} {Q : Bool → Shared → Prop} (hk : KeyAt kd s.heap v n) (hk' : KeyAt kd s.heap v' n') (hu : A.units < cLine) (h : Q (decide (n < n')) s) : wpAny (model prog w) A (keyLt' general' v v') Q E s := by
  show wpAny (model prog w) A (oneLt' false v v') Q E s
  exact kat_one v v' (key_cmp (op := .Lt) (.inl rfl) hk hk' hu prog w E _ (boolBack h))
theorem lt_one {v v' : Value} {n n' : Nat} {Q : Bool → Shared → Prop} (hk : KeyAt kd s.heap v n) (hk' : KeyAt kd s.heap v' n') (hu : A.units + 1 < cLine) (h : Q (decide (n < n')) s) : wpAny (model prog w) A (keyLt' oneType' v v') Q E s := by
  obtain ⟨fs, hf, rfl, hc⟩ := hk
  obtain ⟨gs, hg, rfl, hc'⟩ := hk'
  rcases hc with ⟨rfl, a, vs, rfl, hl, hd⟩ | ⟨rfl, a, vs, rfl, hl, hd⟩ | ⟨rfl, t, rfl⟩
  · obtain ⟨b, ws, rfl, hl', hd'⟩ : ∃ b ws, v' = .ref b ∧ s.heap.IsList b ws.toArray ∧ DigsAre ws gs := by
      rcases hc' with ⟨_, x⟩ | ⟨x, _⟩ | ⟨x, _⟩
      · exact x
      · cases x
      · cases x
    obtain ⟨⟨cls, dd, data, sl⟩, ho, hc, n, hdt⟩ := hl
    obtain ⟨⟨cls2, dd2, data2, sl2⟩, ho2, hc2, n2, hdt2⟩ := hl'
    simp only at hc hdt hc2 hdt2
    subst hc hdt hc2 hdt2
    have key := ord_figs (op := .Lt) (.inl rfl) hf hg
    have e1 : vs.toArray.size = fs.length := by rw [List.size_toArray]; exact hd.1
    have e2 : ws.toArray.size = gs.length := by rw [List.size_toArray]; exact hd'.1
    have h' : Q (cmpN .Lt (rk fs) (rk gs)) s := h
    rw [← key, ← e1, ← e2] at h'
    rw [keyLt'_oneType, oneLt'_eq]
    simp only [if_true]
    refine wpAny_bind (wpAny_cRoomFor (by omega) (wpAny_bind (wpAny_callSpecialIfBound?_slot ⟨_, ho, rfl⟩ F.slot_list_lt ?_)))
    refine call_meets F.slot_list_lt ⟨_, ho, rfl⟩ F.entry_list_lt (F.args_list_lt_2 _ _) (list_ltAt a b _ _ n n2 dd dd2 sl sl2 (fun j => decide (fs.getD j 0 = gs.getD j 0)) (fun j => cmpN .Lt (fs.getD j 0) (gs.getD j 0))) ⟨ho, ho2, digs_eqAt hd hd', fun j h1 h2 _ => digs_cmpAt (.inl rfl) hd hd' j h1 h2, ?_⟩
    exact wpAny_truthy_bool h'
  · obtain ⟨b, ws, rfl, hl', hd'⟩ : ∃ b ws, v' = .ref b ∧ s.heap.IsTuple b ws.toArray ∧ DigsAre ws gs := by
      rcases hc' with ⟨x, _⟩ | ⟨_, x⟩ | ⟨x, _⟩
      · cases x
      · exact x
      · cases x
    obtain ⟨⟨cls, dd, data, sl⟩, ho, hc, n, hdt⟩ := hl
    obtain ⟨⟨cls2, dd2, data2, sl2⟩, ho2, hc2, n2, hdt2⟩ := hl'
    simp only at hc hdt hc2 hdt2
    subst hc hdt hc2 hdt2
    have key := ord_figs (op := .Lt) (.inl rfl) hf hg
    have e1 : vs.toArray.size = fs.length := by rw [List.size_toArray]; exact hd.1
    have e2 : ws.toArray.size = gs.length := by rw [List.size_toArray]; exact hd'.1
    have h' : Q (cmpN .Lt (rk fs) (rk gs)) s := h
    rw [← key, ← e1, ← e2] at h'
    rw [keyLt'_oneType, oneLt'_eq]
    simp only [if_true]
    refine wpAny_bind (wpAny_cRoomFor (by omega) (wpAny_bind (wpAny_callSpecialIfBound?_slot ⟨_, ho, rfl⟩ F.slot_tuple_lt ?_)))
    refine call_meets F.slot_tuple_lt ⟨_, ho, rfl⟩ F.entry_tuple_lt (F.args_tuple_lt_2 _ _) (tuple_ltAt a b _ _ n n2 dd dd2 sl sl2 (fun j => decide (fs.getD j 0 = gs.getD j 0)) (fun j => cmpN .Lt (fs.getD j 0) (gs.getD j 0))) ⟨ho, ho2, digs_eqAt hd hd', fun j h1 h2 _ => digs_cmpAt (.inl rfl) hd hd' j h1 h2, ?_⟩
    exact wpAny_truthy_bool h'
  · obtain ⟨u, rfl⟩ : ∃ u, v' = .str (figStr gs) u := by
      rcases hc' with ⟨x, _⟩ | ⟨x, _⟩ | ⟨_, x⟩
      · cases x
      · cases x
      · exact x
    refine kas_lt_str ?_
    have e : decide ((figStr fs).cps.toList < (figStr gs).cps.toList) = decide (rk fs < rk gs) := by
      simp only [figStr]; exact decide_eq_decide.mpr (str_lt_figs hf hg)
    rw [e]; exact h
theorem lex_digs {b : Bool} {Q : Bool → Shared → Prop} {vs ws : List Value} {fs gs : List Nat} (hv : DigsAre vs fs) (hw : DigsAre ws gs) : ∀ (k i : Nat), min vs.length ws.length - i = k → i ≤ min vs.length ws.length →
    Q (ordRes .Lt (fun j => decide (fs.getD j 0 = gs.getD j 0)) (fun j => cmpN .Lt (fs.getD j 0) (gs.getD j 0)) vs.length ws.length k i) s →
    KatLex prog w A b (decide (vs.length < ws.length)) Q ((vs.zip ws).drop i) i s := by
  intro k
  induction k with
  | zero =>
    intro i hk hi h
    rw [List.drop_of_length_le (by simp; omega)]
    exact kat_nil h
  | succ k ih =>
    intro i hk hi h
    have h1 : i < vs.length := by omega
    have h2 : i < ws.length := by omega
    have hz : i < (vs.zip ws).length := by simp; omega
    rw [List.drop_eq_getElem_cons hz]
    have ez : (vs.zip ws)[i] = (vs[i], ws[i]) := by simp
    rw [ez]
    obtain ⟨t, e1⟩ := hv.2 i h1
    obtain ⟨u, e2⟩ := hw.2 i h2
    rw [e1, e2]
    refine kat_cons (eqAt_int _ _ _ _ prog w _ _ ?_)
    rw [ordRes] at h
    by_cases c : fs.getD i 0 = gs.getD i 0
    · rw [if_pos (by simpa using c)] at h
      rw [show decide (fs.getD i 0 = gs.getD i 0) = true from decide_eq_true c]
      exact kat_yes (ih (i + 1) (by omega) (by omega) h)
    · rw [if_neg (by simpa using c)] at h
      rw [show decide (fs.getD i 0 = gs.getD i 0) = false from decide_eq_false c]
      refine kat_no ?_
      cases (b && i == 0) with
      | true =>
        refine oneLt_int ?_
        have e : decide (((fs.getD i 0 : Nat) : Int) < ((gs.getD i 0 : Nat) : Int)) = cmpN .Lt (fs.getD i 0) (gs.getD i 0) := by simp [cmpN]
        rw [e]; exact h
      | false => exact kat_one _ _ (cmp_int (.inl rfl) _ _ _ _ prog w _ _ (boolBack h))
theorem lt_tuples {b : Bool} {v v' : Value} {n n' : Nat} {Q : Bool → Shared → Prop} (hkd : kd ≠ 2) (hk : KeyAt kd s.heap v n) (hk' : KeyAt kd s.heap v' n') (h : Q (decide (n < n')) s) : wpAny (model prog w) A (keyLt' (tuples' b) v v') Q E s := by
  obtain ⟨fs, hf, rfl, hc⟩ := hk
  obtain ⟨gs, hg, rfl, hc'⟩ := hk'
  have key := ord_figs (op := .Lt) (.inl rfl) hf hg
  have h' : Q (cmpN .Lt (rk fs) (rk gs)) s := h
  have go : ∀ (a a' : Addr) (o o' : Obj) (vs ws : List Value) (n n' : Nat), v = .ref a → v' = .ref a' → s.heap.get? a = some o → s.heap.get? a' = some o' → o.data = .seq vs.toArray n → o'.data = .seq ws.toArray n' → DigsAre vs fs → DigsAre ws gs → wpAny (model prog w) A (keyLt' (tuples' b) v v') Q E s := by
    intro a a' o o' vs ws n n' e1 e2 h1 h2 h3 h4 hd hd'
    subst e1 e2
    rw [← key, ← hd.1, ← hd'.1] at h'
    refine kat_lt h1 h3 h2 h4 ?_
    have := lex_digs (prog := prog) (w := w) (A := A) (b := b) (Q := Q) hd hd' _ 0 rfl (Nat.zero_le _) h'
    simpa using this
  rcases hc with ⟨rfl, a, vs, e1, ⟨o, ho, _, n, hdt⟩, hd⟩ | ⟨rfl, a, vs, e1, ⟨o, ho, _, n, hdt⟩, hd⟩ | ⟨rfl, t, rfl⟩
  · rcases hc' with ⟨_, a', ws, e2, ⟨o', ho', _, n', hdt'⟩, hd'⟩ | ⟨x, _⟩ | ⟨x, _⟩
    · exact go a a' o o' vs ws n n' e1 e2 ho ho' hdt hdt' hd hd'
    · cases x
    · cases x
  · rcases hc' with ⟨x, _⟩ | ⟨_, a', ws, e2, ⟨o', ho', _, n', hdt'⟩, hd'⟩ | ⟨x, _⟩
    · cases x
    · exact go a a' o o' vs ws n n' e1 e2 ho ho' hdt hdt' hd hd'
    · cases x
  · exact absurd rfl hkd
theorem lt_good {κ : SortKind} {v v' : Value} {n n' : Nat} {Q : Bool → Shared → Prop} (g : GoodKind κ kd) (hk : KeyAt kd s.heap v n) (hk' : KeyAt kd s.heap v' n') (hu : A.units + 1 < cLine) (h : Q (decide (n < n')) s) : wpAny (model prog w) A (keyLt' κ v v') Q E s := by
  rcases g with rfl | rfl | ⟨h2, b, rfl⟩
  · exact lt_one hk hk' hu h
  · exact lt_general hk hk' (by omega) h
  · exact lt_tuples h2 hk hk' h
end
section
variable {M : Model} {A : Around} {E : Value → Shared → Prop} {s : Shared} {kd : Nat}
theorem map_sem {α β : Type} {f : α → Sem β} {P : β → Prop} : ∀ (l : List α) {Q : List β → Shared → Prop}, (∀ v ∈ l, ∃ r, P r ∧ ∀ (Q' : β → Shared → Prop), Q' r s → wpAny M A (f v) Q' E s) → (∀ rs, rs.length = l.length → (∀ r ∈ rs, P r) → Q rs s) → wpAny M A (l.mapM f) Q E s
  | [], _, _, h => by rw [List.mapM_nil]; exact wpAny_pure (h [] rfl (by simp))
  | x :: l, Q, hf, h => by
    rw [List.mapM_cons]
    obtain ⟨r, hr, hx⟩ := hf x (.head _)
    refine wpAny_bind (hx _ (wpAny_bind (map_sem l (fun v hv => hf v (.tail _ hv)) fun rs hl hp => wpAny_pure (h (r :: rs) (by simp [hl]) fun q hq => ?_))))
    rcases List.mem_cons.mp hq with rfl | hq
    · exact hr
    · exact hp q hq
theorem type_key {v : Value} {n : Nat} (hk : KeyAt kd s.heap v n) : ∃ T, ((kd = 1 ∧ T = "tuple") ∨ (kd ≠ 1 ∧ (Value.type T != Value.type "tuple") = true)) ∧ ∀ (Q' : Value → Shared → Prop), Q' (.type T) s → wpAny M A (typeOf v) Q' E s := by
  obtain ⟨fs, hf, rfl, hc⟩ := hk
  rcases hc with ⟨rfl, a, vs, rfl, ⟨o, ho, hcl, n, hdt⟩, hd⟩ | ⟨rfl, a, vs, rfl, ⟨o, ho, hcl, n, hdt⟩, hd⟩ | ⟨rfl, t, rfl⟩
  · exact ⟨"list", .inr ⟨by decide, by decide⟩, fun Q' h => wpAny_typeOf (T := "list") ⟨o, ho, hcl⟩ h⟩
  · exact ⟨"tuple", .inl ⟨rfl, rfl⟩, fun Q' h => wpAny_typeOf (T := "tuple") ⟨o, ho, hcl⟩ h⟩
  · exact ⟨"str", .inr ⟨by decide, by decide⟩, fun Q' h => wpAny_typeOf (T := "str") (typeIs_str s _ t) h⟩
theorem first_key {v : Value} {n : Nat} (hk : KeyAt kd s.heap v n) : ∃ r : Option Value, ((kd = 2 → r = none) ∧ ∀ z, r = some z → ∃ i t, z = .int i t) ∧ ∀ (Q' : Option Value → Shared → Prop), Q' r s → wpAny M A (firstOfTuple' v) Q' E s := by
  obtain ⟨T, hT, hty⟩ := type_key (M := M) (A := A) (E := E) hk
  rcases hT with ⟨rfl, rfl⟩ | ⟨hne, hT⟩
  · obtain ⟨fs, hf, rfl, hc⟩ := hk
    rcases hc with ⟨x, _⟩ | ⟨_, a, vs, rfl, ⟨o, ho, hcl, n, hdt⟩, hd⟩ | ⟨x, _⟩
    · cases x
    · refine ⟨vs[0]?, ⟨(fun h => by cases h), fun z hz => ?_⟩, fun Q' h => ?_⟩
      · obtain ⟨h0, hz⟩ := List.getElem?_eq_some_iff.mp hz
        obtain ⟨t, e⟩ := hd.2 0 h0
        exact ⟨_, t, by rw [← hz, e]⟩
      · rw [kas_first_eq]
        refine wpAny_bind (hty _ ?_)
        rw [if_neg (by decide)]
        refine wpAny_bind (listItems_at ho hdt (wpAny_pure ?_))
        simpa using h
    · cases x
  · refine ⟨none, ⟨(fun _ => rfl), fun z hz => by cases hz⟩, fun Q' h => ?_⟩
    rw [kas_first_eq]
    refine wpAny_bind (hty _ ?_)
    rw [if_pos hT]
    exact wpAny_pure h
theorem one_type {vs : List Value} {Q : Option Value → Shared → Prop} (hT : ∀ v ∈ vs, ∃ T, True ∧ ∀ (Q' : Value → Shared → Prop), Q' T s → wpAny M A (typeOf v) Q' E s) (h : ∀ r, Q r s) : wpAny M A (oneTypeOnly' vs.toArray) Q E s := by
  rw [oneTypeOnly'_eq, List.mapM_toArray, map_eq_pure_bind]
  refine wpAny_bind (wpAny_bind (map_sem (P := fun _ => True) vs hT fun rs _ _ => wpAny_pure ?_))
  split
  · exact wpAny_pure (h _)
  · exact wpAny_pure (h _)
theorem kind_keys {xs : List (Value × Nat)} {Q : SortKind → Shared → Prop} (hk : ∀ x ∈ xs, KeyAt kd s.heap x.1 x.2) (hne : 1 ≤ xs.length) (h : ∀ κ, GoodKind κ kd → Q κ s) : wpAny M A (keyKind' (xs.map (·.1)).toArray) Q E s := by
  rw [keyKind'_eq, List.mapM_toArray, map_eq_pure_bind]
  refine wpAny_bind (wpAny_bind (map_sem (P := fun r : Option Value => (kd = 2 → r = none) ∧ ∀ z, r = some z → ∃ i t, z = .int i t) _ (fun v hv => ?_) fun rs hl hp => wpAny_pure ?_))
  · obtain ⟨x, hx, rfl⟩ := List.mem_map.mp hv
    exact first_key (hk x hx)
  · by_cases c : (rs.toArray.all fun x => x.isSome) = true
    · rw [if_pos c]
      refine wpAny_bind (wpAny_rule ?_)
      have e9 : rs.toArray.filterMap id = (rs.filterMap id).toArray := by simp
      rw [e9]
      refine wpAny_bind (one_type (fun v hv => ?_) fun r => wpAny_pure (h _ (.inr (.inr ⟨?_, _, rfl⟩))))
      · obtain ⟨r, hr, e⟩ := List.mem_filterMap.mp hv
        obtain ⟨i, t, rfl⟩ := (hp r hr).2 v e
        exact ⟨_, trivial, fun Q' hq => wpAny_typeOf (T := "int") (typeIs_int s i t) hq⟩
      · intro e2
        match rs, hl with
        | [], hl => simp at hl; omega
        | r :: rs, _ =>
          have := (hp r (by simp)).1 e2
          subst this
          simp at c
    · rw [if_neg c]
      by_cases d : (rs.toArray[0]?.bind id).isSome = true
      · rw [if_pos d]; exact wpAny_pure (h _ (.inr (.inl rfl)))
      · rw [if_neg d]
        refine wpAny_bind (one_type (fun v hv => ?_) fun r => wpAny_pure ?_)
        · obtain ⟨x, hx, rfl⟩ := List.mem_map.mp hv
          obtain ⟨T, _, hty⟩ := type_key (M := M) (A := A) (E := E) (hk x hx)
          exact ⟨_, trivial, hty⟩
        · split
          · exact h _ (.inl rfl)
          · exact h _ (.inr (.inl rfl))
end
section
variable {prog : Program} {w : World} {A : Around} {E : Value → Shared → Prop} {s : Shared} {kd : Nat}
theorem one_sort {a : Addr} {v : Value} {n : Nat} {P : PySem.Fin → Shared → Prop} (ho : s.heap.get? a = some (seqObj "list" #[v] n))
    (h : P (.done (.ret .none)) { s with heap := sortedHeap s.heap a [v] #[v] }) : wpAny (model prog w) A (Builtin.«list.sort» ⟨[.ref a], []⟩) P E s := by
  have ha : a < s.heap.objs.size := Heap.lt_size ho
  obtain ⟨e1, ho1⟩ : ∃ e1, (s.heap.update a (Obj.mapSeq fun _ => #[])).get? a = some (seqObj "list" #[] e1) := ⟨_, get?_update_seq ho (fun _ => #[])⟩
  rw [list_sort_plain]
  refine wpAny_bind (listItems_at ho rfl (wpAny_bind (listUpdate_at ho rfl ?_)))
  refine wpAny_bind (seqEpoch_at ho1 rfl (wpAny_bind (wpAny_newTuple (wpAny_bind (wpAny_newList (wpAny_holding ?_))))))
  have ho6 : (((s.heap.update a (Obj.mapSeq fun _ => #[])).push (seqObj "tuple" [v].toArray 0)).push (seqObj "list" #[] 0)).get? a = some (seqObj "list" #[] e1) := by
    refine Heap.get?_push_of_some _ (Heap.get?_push_of_some _ ho1)
  show wpAny (model prog w) A _ P E { s with heap := ((s.heap.update a (Obj.mapSeq fun _ => #[])).push (seqObj "tuple" [v].toArray 0)).push (seqObj "list" #[] 0) }
  dsimp only
  rw [if_pos (by show 1 < 2; omega), if_pos (by show 1 < 2; omega)]
  refine wpAny_bind (wpAny_pure ?_)
  rw [StateT.run_pure]
  refine wpAny_bind (wpAny_pure (wpAny_bind (seqEpoch_at ho6 rfl ?_)))
  refine wpAny_bind (listUpdate_at ho6 rfl ?_ (hsz2 := by rw [sizeLine_eq]; show (Array.map _ (#[v].zip #[v])).size ≤ _; rw [Array.size_map]; simp))
  simp only [bne_self_eq_false, Bool.false_eq_true, if_false]
  have e9 : Array.map (fun x : Keyed => x.2) (arrOf (SortSt.mk' general' (#[v].zip #[v]) #[] 7 none)) = #[v] := by
    show Array.map (fun x : Keyed => x.2) (#[v].zip #[v]) = #[v]
    simp
  refine wpAny_pure ?_
  rw [e9]; exact h
theorem sorted_one {l : Addr} {v : Value} {Q : Value → Shared → Prop} (hl : s.heap.IsList l [v].toArray) (h : Q (.ref (s.heap.objs.size + 1)) { s with heap := sortedAll s.heap [v] #[v] }) :
    wpAny (model prog w) A (call (.builtin "sorted") [.ref l]) Q E s := by
  refine Calls.call_function_entry kind_sorted plain_sorted entry_sorted (args_sorted1 _) ?_
  unfold Builtin.«sorted»
  refine wpAny_bind (m := checkCount "sorted" 1 1 _) (wpAny_pure (wpAny_bind (collect_list hl ?_ (by rw [sizeLine_eq]; simp))))
  refine wpAny_bind (wpAny_newList ?_)
  have hsz : ((s.heap.push (seqObj "list" #[] 0)).update s.heap.objs.size (Obj.mapSeq (· ++ [v].toArray))).objs.size = s.heap.objs.size + 1 := by
    rw [Heap.size_update, size_push']
  have hoL : (((s.heap.push (seqObj "list" #[] 0)).update s.heap.objs.size (Obj.mapSeq (· ++ [v].toArray))).push (seqObj "list" [v].toArray 0)).get? (s.heap.objs.size + 1) = some (seqObj "list" [v].toArray 0) := by
    rw [← hsz]; exact Heap.get?_push_size _ rfl
  show wpAny _ _ _ _ _ { s with heap := ((s.heap.push (seqObj "list" #[] 0)).update s.heap.objs.size (Obj.mapSeq (· ++ [v].toArray))).push (seqObj "list" [v].toArray 0) }
  rw [hsz]
  refine wpAny_bind (wpAny_holding (wpAny_call_entry slot_list_sort ⟨_, hoL, rfl⟩ entry_list_sort (one_sort hoL ⟨_, rfl, ?_⟩) (args_list_sort _)))
  exact wpAny_pure ⟨_, rfl, h⟩
theorem rnk_getD {xs : List (Value × Nat)} {i : Nat} (h : i < xs.length) : rnk xs i = xs[i].2 := by simp [rnk, List.getD_eq_getElem?_getD, h]
theorem rnk_inj {xs : List (Value × Nat)} (hnd : (xs.map (·.2)).Nodup) : InjR xs.length (rnk xs) := fun i j hi hj e => by
  rw [rnk_getD hi, rnk_getD hj] at e
  have h1 : i < (xs.map (·.2)).length := by simpa using hi
  have h2 : j < (xs.map (·.2)).length := by simpa using hj
  rcases Nat.lt_trichotomy i j with q | q | q
  · exact absurd (by simpa using e) (List.pairwise_iff_getElem.mp hnd i j h1 h2 q)
  · exact q
  · exact absurd (by simpa using e.symm) (List.pairwise_iff_getElem.mp hnd j i h2 h1 q)
theorem perm_out {xs : List (Value × Nat)} {p : Array Nat} (hp : Pm xs.length p) (ha : Asc (rnk xs) p xs.length) : ∃ ys : List (Value × Nat), p.toList.map (fun i => (xs.map (·.1)).getD i Value.none) = ys.map (·.1) ∧ ys.Perm xs ∧ ys.Pairwise (fun a b => a.2 < b.2) := by
  refine ⟨p.toList.map fun i => xs.getD i (Value.none, 0), ?_, ?_, ?_⟩
  · rw [List.map_map]
    apply List.map_congr_left
    intro i hi
    have hi' := List.mem_range.mp ((List.Perm.mem_iff hp).mp hi)
    simp [List.getD_eq_getElem?_getD, hi']
  · refine (List.Perm.map _ hp).trans ?_
    have : (List.range xs.length).map (fun i => xs.getD i (Value.none, 0)) = xs := by
      apply List.ext_getElem (by simp)
      intro i h1 h2
      simp [List.getD_eq_getElem?_getD, h2]
    rw [this]
  · rw [List.pairwise_iff_getElem]
    intro i j hi hj hij
    have hs := hp.size
    have hi' : i < xs.length := by simp at hi; omega
    have hj' : j < xs.length := by simp at hj; omega
    have := asc_lt' ha hij hj'
    have k1 := hp.lt hi'
    have k2 := hp.lt hj'
    unfold vv at this
    rw [getD_at (by omega)] at this k1
    rw [getD_at (by omega)] at this k2
    rw [rnk_getD k1, rnk_getD k2] at this
    simpa [List.getD_eq_getElem?_getD, k1, k2] using this
theorem sorted_keys {h₀ : Heap} {L : Addr} {m : Str → Option Value} {news : List (Addr × Obj)} {l : Addr} {xs : List (Value × Nat)} {Q : Value → Shared → Prop} (F : Fr h₀ L s.heap m) (N : News h₀ L s.heap news) (hl : s.heap.IsList l (xs.map (·.1)).toArray)
    (hk : ∀ h, Fr h₀ L h m → News h₀ L h news → ∀ x ∈ xs, KeyAt kd h x.1 x.2) (hnd : (xs.map (·.2)).Nodup) (h1 : 1 ≤ xs.length) (h7 : xs.length ≤ 7) (hu : A.units + 3 < cLine)
    (h : ∀ D c h' (ys : List (Value × Nat)), Fr h₀ L h' m → News h₀ L h' ((D, listOf (ys.map (·.1)).toArray c) :: news) → ys.Perm xs → ys.Pairwise (fun a b => a.2 < b.2) → Q (.ref D) { s with heap := h' }) :
    wpAny (model prog w) A (call (.builtin "sorted") [.ref l]) Q E s := by
  by_cases h2 : 2 ≤ xs.length
  · refine kat_sorted F N hl (by simpa using h2) (by simp; omega) fun D e1 h' F' N' hlt => ?_
    have N0 : News h₀ L h' news := fun p hp => N' p (.tail _ hp)
    have hkk := hk h' F' N0
    refine kind_keys hkk h1 fun κ g => ?_
    rw [List.length_map]
    refine Wk.run (fun i j C hi hj hC => ?_) (fun p hp => ?_) _ (w_sort (rnk_inj hnd) h1)
    · have e : ∀ i, i < xs.length → ∃ x ∈ xs, (xs.map (·.1)).getD i Value.none = x.1 ∧ rnk xs i = x.2 := fun i hi => ⟨xs[i], List.getElem_mem hi, by simp [List.getD_eq_getElem?_getD, hi], rnk_getD hi⟩
      obtain ⟨x, hx, ex, rx⟩ := e i hi
      obtain ⟨y, hy, ey, ry⟩ := e j hj
      show wpAny (model prog w) A.in1.in1 (keyLt' κ ((xs.map (·.1)).getD i Value.none) ((xs.map (·.1)).getD j Value.none)) C _ _
      rw [ex, ey]
      refine lt_good g (hkk x hx) (hkk y hy) (by show A.units + 1 + 1 + 1 < cLine; omega) ?_
      rw [← rx, ← ry]; exact hC
    · obtain ⟨ys, ey, hp1, hp2⟩ := perm_out hp.1 hp.2
      rw [ey]
      exact KasFin.intro F' N' (.head fun q hq => Nat.ne_of_lt (hlt q hq)) fun h'' c F'' N'' => h D c h'' ys F'' N'' hp1 hp2
  · obtain ⟨x, rfl⟩ : ∃ x, xs = [x] := by
      match xs, h1, h2 with
      | [x], _, _ => exact ⟨x, rfl⟩
      | _ :: _ :: _, _, h2 => simp at h2
    refine sorted_one (by simpa using hl) ?_
    obtain ⟨e, he⟩ := sortedAll_at s.heap [x.1] #[x.1]
    exact h _ e _ [x] (F.kept fun _ _ => sortedAll_old) (N.kept_cons F (fun _ _ => sortedAll_old) (Nat.le_succ _) he) (List.Perm.refl _) (List.pairwise_singleton _ _)
end
end

/-! part Comp2 -/
section
set_option maxRecDepth 100000
set_option maxHeartbeats 0
open LCg
/-! a list comprehension of two clauses, over lists that stay -/
noncomputable abbrev LC2 (elt t1 i1 t2 i2 : Expr) (scope : Scope) (pos : Pos) : Expr := .ListComp elt [⟨t1, i1, [], 0⟩, ⟨t2, i2, [], 0⟩] scope pos
theorem turn_o (elt t1 i1 t2 i2 : Expr) (scope : Scope) (pos : Pos) (it acc : Value) (env : Env) :
    compTurn (LC2 elt t1 i1 t2 i2 scope pos) 0 it acc env = (standAt i1.pos >>= fun _ => pyNext it >>= fun r => match r with
      | none => pure (.done .next)
      | some v => letOwnedTupleGo t1 it v >>= fun _ => assign t1 env v >>= fun _ =>
        (eval i2 env >>= fun x => standAt i2.pos >>= fun _ => foldedSetIterable i2 env x >>= fun x => holding [x] (pyIter x) >>= fun it2 => runOwn (.compStart (LC2 elt t1 i1 t2 i2 scope pos) 1 it2 acc env) env >>= fun _ =>
          again (.compLoop (LC2 elt t1 i1 t2 i2 scope pos) 0 it acc env))) := by rfl
theorem turn_i (elt t1 i1 t2 i2 : Expr) (scope : Scope) (pos : Pos) (it acc : Value) (env : Env) :
    compTurn (LC2 elt t1 i1 t2 i2 scope pos) 1 it acc env = (standAt i2.pos >>= fun _ => pyNext it >>= fun r => match r with
      | none => pure (.done .next)
      | some v => letOwnedTupleGo t2 it v >>= fun _ => assign t2 env v >>= fun _ =>
        (eval elt env >>= fun x => call (.builtin "list.append") [acc, x] >>= fun _ => pure ()) >>= fun _ =>
          again (.compLoop (LC2 elt t1 i1 t2 i2 scope pos) 1 it acc env)) := by rfl
section
variable {prog : Program} {w : World} {A : Around} {E : Value → Shared → Prop} {R : Result → Shared → Prop} {s : Shared}
theorem loop_i {elt t1 i1 t2 i2 : Expr} {scope : Scope} {pos : Pos} {it acc : Value} {env : Env} (I : Nat → Shared → Prop)
    (turn : ∀ n s, I n s → wpAny (model prog w) A (pyNext it) (fun r s₁ => match r with
      | none => R (.ok .next) s₁
      | some v => wpAny (model prog w) A (assign t2 env v) (fun _ s₂ => wpAny (model prog w) A (eval elt env) (fun x s₃ =>
          wpAny (model prog w) A (call (.builtin "list.append") [acc, x]) (fun _ s₄ => ∃ m, m < n ∧ I m s₄) (fun _ _ => False) s₃) (fun _ _ => False) s₂) (fun _ _ => False) s₁) (fun _ _ => False) s)
    (n : Nat) (h : I n s) (ht : ∀ v, letOwnedTupleGo t2 it v = pure () := by intro _; rfl) :
    codeAny (model prog w) A (.compLoop (LC2 elt t1 i1 t2 i2 scope pos) 1 it acc env) R s := by
  refine codeAny_loop rfl I (fun n s hI => ?_) n h
  show wpAny _ A ((compTurn (LC2 elt t1 i1 t2 i2 scope pos) 1 it acc env).onRaise (fun x => do noteFrame x env; theTreesLotGoes x)) _ _ s
  refine wpAny_noted ?_
  rw [turn_i]
  refine wpAny_bind (wpAny_standAt (wpAny_bind (wpAny_mono (turn n s hI) (fun r s₁ h₁ => ?_) fun _ _ x => x.elim)))
  cases r with
  | none => exact wpAny_pure h₁
  | some v =>
    refine wpAny_bind (wpAny_of_eq (ht v) ?_)
    exact wpAny_bind (wpAny_mono h₁ (fun _ s₂ h₂ => wpAny_bind (wpAny_bind (wpAny_mono h₂ (fun x s₃ h₃ => wpAny_bind (wpAny_mono h₃
      (fun _ s₄ h₄ => wpAny_pure (wpAny_pure ⟨rfl, h₄⟩)) fun _ _ x => x.elim)) fun _ _ x => x.elim))) fun _ _ x => x.elim)
theorem start_i {elt t1 i1 t2 i2 : Expr} {scope : Scope} {pos : Pos} {it acc : Value} {env : Env}
    (h0 : codeAny (model prog w) A (.compLoop (LC2 elt t1 i1 t2 i2 scope pos) 1 it acc env) R s)
    (h : wpAny (model prog w) A (pyIter it) (fun it' s' => codeAny (model prog w) A (.compLoop (LC2 elt t1 i1 t2 i2 scope pos) 1 it' acc env) R s') (fun _ _ => False) s) :
    codeAny (model prog w) A (.compStart (LC2 elt t1 i1 t2 i2 scope pos) 1 it acc env) R s := by
  refine codeAny_of_tree ?_
  show wpAny _ _ ((compStart (LC2 elt t1 i1 t2 i2 scope pos) 1 it acc env).onRaise (fun x => do noteFrame x env; standAt theWindowsPlace)) _ _ s
  refine wpAny_notedAt ?_
  unfold compStart
  show wpAny _ _ (ask >>= _) _ _ s
  refine wpAny_bind (wpAny_askSetting (wpAny_ite ?_))
  split
  · first
      | exact wpAny_bind (wpAny_pure (wpAny_pure (And.intro rfl h0)))
      | exact wpAny_pure (And.intro rfl h0)
  · first
      | exact wpAny_bind (wpAny_rule (wpAny_bind (wpAny_standAt (wpAny_bind (wpAny_mono h (fun it' s' h' => wpAny_pure (And.intro rfl h')) fun _ _ x => x.elim)))))
      | (refine wpAny_bind (wpAny_rule ?_); show wpAny _ _ (standAt i2.pos >>= _) _ _ s; exact wpAny_bind (wpAny_standAt (wpAny_bind (wpAny_mono h (fun it' s' h' => wpAny_pure (And.intro rfl h')) fun _ _ x => x.elim))))
theorem loop_o {elt t1 i1 t2 i2 : Expr} {scope : Scope} {pos : Pos} {it acc : Value} {env : Env} (I : Nat → Shared → Prop)
    (turn : ∀ n s, I n s → wpAny (model prog w) A (pyNext it) (fun r s₁ => match r with
      | none => R (.ok .next) s₁
      | some v => wpAny (model prog w) A (assign t1 env v) (fun _ s₂ => wpAny (model prog w) A (eval i2 env) (fun x s₃ =>
          wpAny (model prog w) A (pyIter x) (fun it2 s₄ => codeAny (model prog w) A (.compStart (LC2 elt t1 i1 t2 i2 scope pos) 1 it2 acc env) (fun r s₅ => match r with | .ok _ => ∃ m, m < n ∧ I m s₅ | .error _ => False) s₄) (fun _ _ => False) s₃) (fun _ _ => False) s₂) (fun _ _ => False) s₁) (fun _ _ => False) s)
    (n : Nat) (h : I n s) (ht : ∀ v, letOwnedTupleGo t1 it v = pure () := by intro _; rfl) (hs : ∀ x, foldedSetIterable i2 env x = pure x := by intro _; rfl) :
    codeAny (model prog w) A (.compLoop (LC2 elt t1 i1 t2 i2 scope pos) 0 it acc env) R s := by
  refine codeAny_loop rfl I (fun n s hI => ?_) n h
  show wpAny _ A ((compTurn (LC2 elt t1 i1 t2 i2 scope pos) 0 it acc env).onRaise (fun x => do noteFrame x env; theTreesLotGoes x)) _ _ s
  refine wpAny_noted ?_
  rw [turn_o]
  refine wpAny_bind (wpAny_standAt (wpAny_bind (wpAny_mono (turn n s hI) (fun r s₁ h₁ => ?_) fun _ _ x => x.elim)))
  cases r with
  | none => exact wpAny_pure h₁
  | some v =>
    refine wpAny_bind (wpAny_of_eq (ht v) ?_)
    refine wpAny_bind (wpAny_mono h₁ (fun _ s₂ h₂ => ?_) fun _ _ x => x.elim)
    refine wpAny_bind (wpAny_mono h₂ (fun x s₃ h₃ => ?_) fun _ _ x => x.elim)
    refine wpAny_bind (wpAny_standAt ?_)
    refine wpAny_bind (wpAny_of_eq (hs x) ?_)
    refine wpAny_bind (wpAny_holding (wpAny_mono h₃ (fun it2 s₄ h₄ => ?_) fun _ _ x => x.elim))
    refine wpAny_bind (wpAny_runOwn (codeAny_mono h₄ fun r s₅ h₅ => ?_))
    cases r with
    | ok f => exact wpAny_pure ⟨rfl, h₅⟩
    | error e => exact h₅.elim
end
structure Apart (h₀ : Heap) (L I C D : Addr) (news : List (Addr × Obj)) : Prop where
  IL : I ≠ L
  CL : C ≠ L
  DL : D ≠ L
  IC : I ≠ C
  ID : I ≠ D
  CD : C ≠ D
  I0 : h₀.get? I = none
  C0 : h₀.get? C = none
  D0 : h₀.get? D = none
  nI : ∀ p ∈ news, p.1 ≠ I
  nC : ∀ p ∈ news, p.1 ≠ C
  nD : ∀ p ∈ news, p.1 ≠ D
structure At2 (h₀ : Heap) (L : Addr) (m : Str → Option Value) (news : List (Addr × Obj)) (I ax C D : Addr) (i : Nat) (ys : List Value) (mc : Str → Option Value) (h : Heap) : Prop where
  F : Fr h₀ L h m
  N : News h₀ L h news
  hI : h.IsListIter I ax i
  hC : h.Ns C mc
  hD : h.get? D = some (lst ys)
section
variable {h₀ h h' : Heap} {L I ax C D : Addr} {m mc mc' : Str → Option Value} {news : List (Addr × Obj)} {i : Nat} {ys : List Value}
theorem fr_ext {a : Addr} (F : Fr h₀ L h m) (k : ∀ b o, b ≠ a → h.get? b = some o → h'.get? b = some o) (hL : a ≠ L) (h0 : h₀.get? a = none) : Fr h₀ L h' m := by
  obtain ⟨oL, es, ep, e, r⟩ := F.ns
  exact ⟨⟨oL, es, ep, k _ _ (Ne.symm hL) e, r⟩, fun b o e => k b o (fun q => by rw [q, h0] at e; cases e) (F.keep b o e), F.above⟩
theorem news_ext {a : Addr} {l : List (Addr × Obj)} (N : News h₀ L h l) (k : ∀ b o, b ≠ a → h.get? b = some o → h'.get? b = some o) (off : ∀ p ∈ l, p.1 ≠ a) : News h₀ L h' l :=
  fun p hp => ⟨k _ _ (off p hp) (N p hp).1, (N p hp).2⟩
theorem At2.other {a : Addr} (x : At2 h₀ L m news I ax C D i ys mc h) (k : ∀ b o, b ≠ a → h.get? b = some o → h'.get? b = some o) (hL : a ≠ L) (h0 : h₀.get? a = none) (off : ∀ p ∈ news, p.1 ≠ a) (hI : a ≠ I) (hC : a ≠ C) (hD : a ≠ D) : At2 h₀ L m news I ax C D i ys mc h' := by
  refine ⟨fr_ext x.F k hL h0, news_ext x.N k off, ?_, ?_, k _ _ (Ne.symm hD) x.hD⟩
  · obtain ⟨o, e, r⟩ := x.hI; exact ⟨o, k _ _ (Ne.symm hI) e, r⟩
  · obtain ⟨o, es, ep, e, r⟩ := x.hC; exact ⟨o, es, ep, k _ _ (Ne.symm hC) e, r⟩
theorem At2.all (x : At2 h₀ L m news I ax C D i ys mc h) (P : Apart h₀ L I C D news) : ∃ oI oC, NsObj oC mc ∧ (∀ h'' : Heap, h''.get? I = some oI → h''.IsListIter I ax i) ∧ News h₀ L h ((I, oI) :: (C, oC) :: (D, lst ys) :: news) := by
  obtain ⟨oI, eI, r⟩ := x.hI
  obtain ⟨oC, eC, hoC⟩ := ns_obj x.hC
  refine ⟨oI, oC, hoC, fun h'' e => ⟨oI, e, r⟩, fun p hp => ?_⟩
  rcases List.mem_cons.mp hp with rfl | hp
  · exact ⟨eI, P.IL, P.I0⟩
  rcases List.mem_cons.mp hp with rfl | hp
  · exact ⟨eC, P.CL, P.C0⟩
  rcases List.mem_cons.mp hp with rfl | hp
  · exact ⟨x.hD, P.DL, P.D0⟩
  · exact x.N p hp
theorem At2.back {oI oC : Obj} (F : Fr h₀ L h m) (N : News h₀ L h ((I, oI) :: (C, oC) :: (D, lst ys) :: news)) (hC : NsObj oC mc) (hI : ∀ h'' : Heap, h''.get? I = some oI → h''.IsListIter I ax i) : At2 h₀ L m news I ax C D i ys mc h :=
  ⟨F, fun p hp => N p (.tail _ (.tail _ (.tail _ hp))), hI _ (N _ (.head _)).1, hC.ns (N _ (.tail _ (.head _))).1, (N _ (.tail _ (.tail _ (.head _)))).1⟩
/-- the names of the comprehension change -/
theorem At2.names (x : At2 h₀ L m news I ax C D i ys mc h) (P : Apart h₀ L I C D news) (hn : h'.Ns C mc') (hs : Heap.SameBut C h h') : At2 h₀ L m news I ax C D i ys mc' h' := by
  have k : ∀ b o, b ≠ C → h.get? b = some o → h'.get? b = some o := fun b o hb e => (hs.2 b hb).trans e
  refine ⟨fr_ext x.F k P.CL P.C0, news_ext x.N k P.nC, ?_, hn, k _ _ (Ne.symm P.CD) x.hD⟩
  obtain ⟨o, e, r⟩ := x.hI; exact ⟨o, k _ _ P.IC e, r⟩
/-- one item more -/
theorem At2.more {y : Value} (x : At2 h₀ L m news I ax C D i ys mc h) (P : Apart h₀ L I C D news) (hd : h'.get? D = some (lst (ys ++ [y]))) (hs : Heap.SameBut D h h') : At2 h₀ L m news I ax C D i (ys ++ [y]) mc h' := by
  have k : ∀ b o, b ≠ D → h.get? b = some o → h'.get? b = some o := fun b o hb e => (hs.2 b hb).trans e
  refine ⟨fr_ext x.F k P.DL P.D0, news_ext x.N k P.nD, ?_, ?_, hd⟩
  · obtain ⟨o, e, r⟩ := x.hI; exact ⟨o, k _ _ P.ID e, r⟩
  · obtain ⟨o, es, ep, e, r⟩ := x.hC; exact ⟨o, es, ep, k _ _ P.CD e, r⟩
end
section
variable {prog : Program} {w : World} {A : Around} {E : Value → Shared → Prop} {s : Shared} {h₀ : Heap} {L : Addr} {m : Str → Option Value} {env : Env} {news : List (Addr × Obj)}
/-- one item of the two lists -/
noncomputable def Step2 (prog : Program) (w : World) (A : Around) (h₀ : Heap) (L : Addr) (m : Str → Option Value) (env : Env) (elt : Expr) (x y : Str) (scope : Scope) (cl : List (Str × Addr)) (s : Shared) (its1 its2 : Array Value) (G : Nat → Nat → Value) (news : List (Addr × Obj)) : Prop :=
  ∀ (i j : Nat) (v u : Value) (J : Addr) (oJ : Obj) (I : Addr) (oI : Obj) (C : Addr) (oC : Obj) (D : Addr) (ys : List Value) (m₂ : Str → Option Value) (h : Heap) (tk : Nat) (E' : Value → Shared → Prop), its1[i]? = some v → its2[j]? = some u → NsObj oC m₂ → m₂ x = some v → m₂ y = some u →
    Fr h₀ L h m → News h₀ L h ((J, oJ) :: (I, oI) :: (C, oC) :: (D, lst ys) :: news) →
    wpAny (model prog w) A (eval elt (compEnvC scope cl C env)) (KeepQ s h₀ L m ((J, oJ) :: (I, oI) :: (C, oC) :: (D, lst ys) :: news) (· = G i j)) E' { s with heap := h, toks := tk }
noncomputable def Iter2 (prog : Program) (w : World) (A : Around) (h₀ : Heap) (L : Addr) (m : Str → Option Value) (env : Env) (i2 : Expr) (scope : Scope) (cl : List (Str × Addr)) (s : Shared) (ax2 : Addr) (news : List (Addr × Obj)) : Prop :=
  ∀ (I : Addr) (oI : Obj) (C : Addr) (oC : Obj) (D : Addr) (oD : Obj) (m₂ : Str → Option Value) (h : Heap) (tk : Nat) (Q' E' : Value → Shared → Prop), NsObj oC m₂ → Fr h₀ L h m → News h₀ L h ((I, oI) :: (C, oC) :: (D, oD) :: news) →
    Q' (.ref ax2) { s with heap := h, toks := tk } → wpAny (model prog w) A (eval i2 (compEnvC scope cl C env)) Q' E' { s with heap := h, toks := tk }
theorem inner2 {elt t1 i1 i2 : Expr} {x y : Str} {py : Pos} {scope : Scope} {cl : List (Str × Addr)} {pos : Pos} {I ax C D J ax2 : Addr} {its1 its2 : Array Value} {i : Nat} {v : Value} {ys₀ : List Value} {mc : Str → Option Value} {G : Nat → Nat → Value} {h : Heap} {tk : Nat} {R : Result → Shared → Prop}
    (hh : A.handled = none) (hkind : scope.kind = .function) (hy : scope.names.lookup y = some .local) (hxy : x ≠ y) (P : Apart h₀ L I C D news) (S2 : SrcAt h₀ ax2 its2 news) (hz : ys₀.length + its2.size ≤ sizeLine)
    (x₀ : At2 h₀ L m news I ax C D i ys₀ mc h) (hxv : mc x = some v) (hv : its1[i - 1]? = some v) (hJ : h.IsListIter J ax2 0) (JL : J ≠ L) (JI : J ≠ I) (JC : J ≠ C) (JD : J ≠ D) (J0 : h₀.get? J = none) (nJ : ∀ p ∈ news, p.1 ≠ J)
    (step : Step2 prog w A h₀ L m env elt x y scope cl s its1 its2 G news)
    (hR : ∀ h' tk' mc', At2 h₀ L m news I ax C D i (ys₀ ++ (List.range its2.size).map (G (i - 1))) mc' h' → R (.ok .next) { s with heap := h', toks := tk' }) :
    codeAny (model prog w) A (.compStart (LC2 elt t1 i1 (.Name y py) i2 scope pos) 1 (.ref J) (.ref D) (compEnvC scope cl C env)) R { s with heap := h, toks := tk } := by
  have loop : codeAny (model prog w) A (.compLoop (LC2 elt t1 i1 (.Name y py) i2 scope pos) 1 (.ref J) (.ref D) (compEnvC scope cl C env)) R { s with heap := h, toks := tk } := by
    refine loop_i (fun k s' => ∃ h' tk' j mc', s' = { s with heap := h', toks := tk' } ∧ j ≤ its2.size ∧ k = its2.size + 1 - j ∧ h'.IsListIter J ax2 j ∧ mc' x = some v ∧ At2 h₀ L m news I ax C D i (ys₀ ++ (List.range j).map (G (i - 1))) mc' h') ?_ (its2.size + 1)
      ⟨h, tk, 0, mc, rfl, Nat.zero_le _, rfl, hJ, hxv, by simpa using x₀⟩
    rintro k s' ⟨h', tk', j, mc', rfl, hj, rfl, hit, hx', x'⟩
    have hl := S2.list x'.F.keep x'.N
    by_cases hlt : j < its2.size
    · refine wpAny_pyNext_list_item (x := its2[j]) hit hl (by simp [hlt]) fun h₁ hit₁ hs₁ => ?_
      have x₁ := x'.other (h' := h₁) (a := J) (fun b o hb e => (hs₁.2 b hb).trans e) JL J0 nJ JI JC JD
      dsimp only
      refine wpAny_assign_Name (wpAny_storeName_local (lookup_relabel_local hy) x₁.hC (fun h₂ hn₂ hs₂ => ?_) (by simp [compEnvC, relabel, hkind]))
      have x₂ := x₁.names P hn₂ hs₂
      obtain ⟨oJ, eJ, rJ⟩ := hit₁
      have eJ₂ : h₂.get? J = some oJ := (hs₂.2 J JC).trans eJ
      obtain ⟨oI, oC, hoC, hoI, N₂⟩ := x₂.all P
      have N₃ : News h₀ L h₂ ((J, oJ) :: (I, oI) :: (C, oC) :: (D, lst (ys₀ ++ (List.range j).map (G (i - 1)))) :: news) := fun p hp => by
        rcases List.mem_cons.mp hp with rfl | hp
        · exact ⟨eJ₂, JL, J0⟩
        · exact N₂ p hp
      have hx₂ : (fun z => if z = y then some its2[j] else mc' z) x = some v := by
        show (if x = y then some its2[j] else mc' x) = some v
        rw [if_neg hxy, hx']
      have hy₂ : (fun z => if z = y then some its2[j] else mc' z) y = some its2[j] := if_pos rfl
      have hj₂ : its2[j]? = some its2[j] := by simp [hlt]
      refine wpAny_mono (step (i - 1) j v its2[j] J oJ I oI C oC D _ _ h₂ _ _ hv hj₂ hoC hx₂ hy₂ x₂.F N₃) (fun z s₄ h₄ => ?_) fun _ _ e => e
      obtain ⟨rfl, h₄, tk₄, rfl, F₄, N₄⟩ := h₄
      have x₄ := At2.back (ax := ax) (i := i) F₄ (fun p hp => N₄ p (.tail _ hp)) hoC hoI
      refine append_at (hsz := by simp; omega) x₄.hD fun h₅ hs₅ hD₅ => ?_
      have x₅ := x₄.more P (hD₅.trans (congrArg some (lst_snoc _ _))) hs₅
      refine ⟨its2.size + 1 - (j + 1), by omega, h₅, tk₄, j + 1, (fun z => if z = y then some its2[j] else mc' z), rfl, hlt, rfl, ⟨oJ, (hs₅.2 J JD).trans (N₄ _ (.head _)).1, rJ⟩, hx₂, ?_⟩
      rw [List.range_succ, List.map_append, ← List.append_assoc]
      exact x₅
    · obtain rfl : j = its2.size := by omega
      refine wpAny_pyNext_list_end hh hit hl (by simp) fun h₁ he₁ => ?_
      exact hR h₁ tk' mc' (x'.other (a := J) (fun b o hb e => he₁ b o hb e) JL J0 nJ JI JC JD)
  exact start_i loop (wpAny_pyIter_listiter hJ loop)
theorem At2.next {h h' : Heap} {I ax C D : Addr} {i : Nat} {ys : List Value} {mc : Str → Option Value} (x : At2 h₀ L m news I ax C D i ys mc h) (P : Apart h₀ L I C D news) (hi : h'.IsListIter I ax (i + 1)) (hs : Heap.SameBut I h h') : At2 h₀ L m news I ax C D (i + 1) ys mc h' := by
  have k : ∀ b o, b ≠ I → h.get? b = some o → h'.get? b = some o := fun b o hb e => (hs.2 b hb).trans e
  refine ⟨fr_ext x.F k P.IL P.I0, news_ext x.N k P.nI, hi, ?_, k _ _ (Ne.symm P.ID) x.hD⟩
  obtain ⟨o, es, ep, e, r⟩ := x.hC; exact ⟨o, es, ep, k _ _ (Ne.symm P.IC) e, r⟩
theorem At2.grown {h h' : Heap} {I ax C D : Addr} {i : Nat} {ys : List Value} {mc : Str → Option Value} (x : At2 h₀ L m news I ax C D i ys mc h) (k : Kp h h') : At2 h₀ L m news I ax C D i ys mc h' := by
  refine ⟨x.F.keeps k, x.N.grown k, ?_, ?_, k _ _ x.hD⟩
  · obtain ⟨o, e, r⟩ := x.hI; exact ⟨o, k _ _ e, r⟩
  · obtain ⟨o, es, ep, e, r⟩ := x.hC; exact ⟨o, es, ep, k _ _ e, r⟩
noncomputable def all2 (G : Nat → Nat → Value) (n1 n2 : Nat) : List Value := (List.range n1).flatMap fun i => (List.range n2).map (G i)
theorem all2_succ (G : Nat → Nat → Value) (n1 n2 : Nat) : all2 G (n1 + 1) n2 = all2 G n1 n2 ++ (List.range n2).map (G n1) := by
  unfold all2; rw [List.range_succ, List.flatMap_append]; simp
theorem all2_length (G : Nat → Nat → Value) (n1 n2 : Nat) : (all2 G n1 n2).length = n1 * n2 := by
  induction n1 with
  | zero => simp [all2]
  | succ n ih => rw [all2_succ, List.length_append, ih, List.length_map, List.length_range, Nat.succ_mul]
theorem block2 {elt i1 i2 : Expr} {x y : Str} {px py : Pos} {scope : Scope} {cl : List (Str × Addr)} {pos : Pos} {s₂ : Shared} {I ax1 ax2 : Addr} {its1 its2 : Array Value} {G : Nat → Nat → Value} {RR : Value → Addr → Result → Shared → Prop}
    (hh : A.handled = none) (hcell : ∀ z ∈ scope.names, z.2 ≠ .cell) (hkind : scope.kind = .function) (hx : scope.names.lookup x = some .local) (hy : scope.names.lookup y = some .local) (hxy : x ≠ y) (hs : ∀ C v, foldedSetIterable i2 (compEnvC scope cl C env) v = pure v)
    (S1 : SrcAt h₀ ax1 its1 news) (S2 : SrcAt h₀ ax2 its2 news) (hz : its1.size * its2.size ≤ sizeLine) (hI : s₂.heap.IsListIter I ax1 0)
    (F : Fr h₀ L s₂.heap m) (N : News h₀ L s₂.heap news) (hIL : I ≠ L) (hI₀ : h₀.get? I = none) (off : ∀ p ∈ news, p.1 ≠ I)
    (ev : Iter2 prog w A h₀ L m env i2 scope cl s₂ ax2 news) (step : Step2 prog w A h₀ L m env elt x y scope cl s₂ its1 its2 G news)
    (hRR : ∀ D C h tk m', Fr h₀ L h m → News h₀ L h ((D, lst (all2 G its1.size its2.size)) :: news) → Off1 D news → h.Ns C m' → h₀.get? C = none → h₀.get? D = none → C ≠ L → D ≠ L → C ≠ D → (∀ p ∈ news, p.1 ≠ C) → RR (.ref D) C (.ok .next) { s₂ with heap := h, toks := tk }) :
    wpAny (model prog w) A (newList []) (fun acc s₃ => wpAny (model prog w) A (newFunctionEnv scope env.globals cl [] env.qual none .none (some env)) (fun cenv s₄ =>
      codeAny (model prog w) A (.compStart (LC2 elt (.Name x px) i1 (.Name y py) i2 scope pos) 0 (.ref I) acc { cenv with scope := relabel scope env }) (RR acc cenv.locals) s₄) E s₃) E s₂ := by
  refine wpAny_newObj_type (wpAny_newFunctionEnv hcell (by intro y hy; simp at hy) (fun h₁ hns₁ hsb₁ => ?_) hkind)
  dsimp only at hns₁ hsb₁ ⊢
  generalize hH2 : s₂.heap.push { cls := .type "list", dict := none, data := .seq ([] : List Value).toArray } = H2 at hns₁ hsb₁ ⊢
  have hC : H2.objs.size = s₂.heap.objs.size + 1 := by rw [← hH2, Heap.size_push]
  have lt : ∀ {a o}, s₂.heap.get? a = some o → a < s₂.heap.objs.size := fun e => Heap.lt_size e
  have hDC : s₂.heap.objs.size ≠ H2.objs.size := by rw [hC]; exact Nat.ne_of_lt (Nat.lt_succ_self _)
  have neC : ∀ {a}, a < s₂.heap.objs.size → a ≠ H2.objs.size := fun h => by rw [hC]; exact Nat.ne_of_lt (Nat.lt_succ_of_lt h)
  have old : Kp s₂.heap h₁ := fun b o e => hsb₁.extBut b o (neC (lt e)) (Heap.get?_push_of_some _ (hH2 ▸ Heap.get?_push_of_some _ e))
  have hacc : h₁.get? s₂.heap.objs.size = some (lst []) := hsb₁.extBut _ _ hDC (Heap.get?_push_of_some _ (hH2 ▸ Heap.get?_push_size _ rfl))
  have fresh₀ : ∀ a, s₂.heap.objs.size ≤ a → h₀.get? a = none := fun a ha => by
    cases e : h₀.get? a with
    | none => rfl
    | some o' => exact absurd (lt (F.keep a o' e)) (Nat.not_lt.mpr ha)
  have hIlt : I < s₂.heap.objs.size := by obtain ⟨o, e, _⟩ := hI; exact lt e
  have hLlt : L < s₂.heap.objs.size := F.ns.lt
  have P : Apart h₀ L I H2.objs.size s₂.heap.objs.size news :=
    ⟨hIL, Ne.symm (neC hLlt), Nat.ne_of_gt hLlt, neC hIlt, Nat.ne_of_lt hIlt, Ne.symm hDC, hI₀, fresh₀ _ (by rw [hC]; exact Nat.le_succ _), fresh₀ _ (Nat.le_refl _), off, fun p hp => neC (lt (N p hp).1), fun p hp => Nat.ne_of_lt (lt (N p hp).1)⟩
  have x₀ : At2 h₀ L m news I ax1 H2.objs.size s₂.heap.objs.size 0 [] (fun x => List.lookup x ([] : List (Str × Value)).reverse) h₁ := by
    refine ⟨F.keeps old, N.grown old, ?_, hns₁, hacc⟩
    obtain ⟨o, e, r⟩ := hI; exact ⟨o, old _ _ e, r⟩
  have loop : ∀ s₃ : Shared, s₃ = { s₂ with heap := h₁, toks := s₂.toks + ([] : List (Str × Value)).length } →
      codeAny (model prog w) A (.compLoop (LC2 elt (.Name x px) i1 (.Name y py) i2 scope pos) 0 (.ref I) (.ref s₂.heap.objs.size) (compEnvC scope cl H2.objs.size env))
        (RR (.ref s₂.heap.objs.size) H2.objs.size) s₃ := by
    rintro s₃ rfl
    refine loop_o (fun k s' => ∃ h' tk i mc, s' = { s₂ with heap := h', toks := tk } ∧ i ≤ its1.size ∧ k = its1.size + 1 - i ∧ At2 h₀ L m news I ax1 H2.objs.size s₂.heap.objs.size i (all2 G i its2.size) mc h') ?_ (its1.size + 1)
      ⟨h₁, _, 0, _, rfl, Nat.zero_le _, rfl, x₀⟩ (hs := hs _)
    rintro k s' ⟨h', tk', i, mc, rfl, hi, rfl, x'⟩
    have hl := S1.list x'.F.keep x'.N
    by_cases hlt : i < its1.size
    · refine wpAny_pyNext_list_item (x := its1[i]) x'.hI hl (by simp [hlt]) fun h₂ hit₂ hs₂ => ?_
      have x₂ := x'.next P hit₂ hs₂
      dsimp only
      refine wpAny_assign_Name (wpAny_storeName_local (lookup_relabel_local hx) x₂.hC (fun h₃ hn₃ hs₃ => ?_) (by simp [compEnvC, relabel, hkind]))
      have x₃ := x₂.names P hn₃ hs₃
      obtain ⟨oI, oC, hoC, hoI, N₃⟩ := x₃.all P
      refine ev I oI _ oC _ _ _ h₃ _ _ _ hoC x₃.F N₃ ?_
      have hl2 := S2.list x₃.F.keep x₃.N
      refine wpAny_pyIter_list hl2 ?_
      have k₄ : Kp h₃ (h₃.push { cls := .type "list_iterator", data := .fields #[.ref ax2, .int 0 0] }) := fun b o e => Heap.get?_push_of_some _ e
      have x₄ := x₃.grown k₄
      have lt₃ : ∀ {a o}, h₃.get? a = some o → a ≠ h₃.objs.size := fun e => Nat.ne_of_lt (Heap.lt_size e)
      have LJ : L ≠ h₃.objs.size := Nat.ne_of_lt x₃.F.ns.lt
      have J0 : h₀.get? h₃.objs.size = none := next_is_new x₃.F
      have IJ : I ≠ h₃.objs.size := by obtain ⟨o, e, _⟩ := x₃.hI; exact lt₃ e
      have CJ : H2.objs.size ≠ h₃.objs.size := by obtain ⟨o, _, _, e, _⟩ := x₃.hC; exact lt₃ e
      refine inner2 (i := i + 1) (v := its1[i]) hh hkind hy hxy P S2 ?_ x₄ (if_pos rfl) (by simp [hlt]) ⟨_, Heap.get?_push_size _ rfl, rfl, rfl⟩ (Ne.symm LJ) (Ne.symm IJ) (Ne.symm CJ) (Ne.symm (lt₃ x₃.hD)) J0 (fun p hp => lt₃ (x₃.N p hp).1) step ?_
      · rw [all2_length]
        refine Nat.le_trans ?_ hz
        rw [← Nat.succ_mul]
        exact Nat.mul_le_mul_right _ hlt
      · intro h₅ tk₅ mc₅ x₅
        rw [show i + 1 - 1 = i from rfl, ← all2_succ] at x₅
        exact ⟨its1.size + 1 - (i + 1), by omega, h₅, tk₅, i + 1, mc₅, rfl, hlt, rfl, x₅⟩
    · obtain rfl : i = its1.size := by omega
      refine wpAny_pyNext_list_end hh x'.hI hl (by simp) fun h₂ he₂ => ?_
      have k : ∀ b o, b ≠ I → h'.get? b = some o → h₂.get? b = some o := fun b o hb e => he₂ b o hb e
      refine hRR _ _ h₂ tk' mc (fr_ext x'.F k P.IL P.I0) (fun p hp => ?_) (off1_of P.nD) ?_ P.C0 P.D0 P.CL P.DL P.CD P.nC
      · rcases List.mem_cons.mp hp with rfl | hp
        · exact ⟨k _ _ (Ne.symm P.ID) x'.hD, P.DL, P.D0⟩
        · exact news_ext x'.N k P.nI p hp
      · obtain ⟨o, es, ep, e, r⟩ := x'.hC; exact ⟨o, es, ep, k _ _ (Ne.symm P.IC) e, r⟩
  exact codeAny_compStart_list (loop _ rfl) (wpAny_pyIter_listiter x₀.hI (loop _ rfl))
where
  off1_of {D : Addr} : ∀ {l : List (Addr × Obj)}, (∀ p ∈ l, p.1 ≠ D) → Off1 D l
    | [], _ => trivial
    | _ :: _, h => ⟨h _ (.head _), off1_of fun p hp => h p (.tail _ hp)⟩
noncomputable def Src2 (prog : Program) (w : World) (A : Around) (h₀ : Heap) (L : Addr) (m : Str → Option Value) (env : Env) (elt i2 : Expr) (x y : Str) (scope : Scope) (cl : List (Str × Addr)) (Fin : Shared → List Value → List (Addr × Obj) → Prop) (xv : Value) (s₁ : Shared) : Prop :=
  ∃ (ax1 ax2 : Addr) (its1 its2 : Array Value) (news : List (Addr × Obj)) (G : Nat → Nat → Value), xv = .ref ax1 ∧ A.handled = none ∧ Fr h₀ L s₁.heap m ∧ News h₀ L s₁.heap news ∧ SrcAt h₀ ax1 its1 news ∧ SrcAt h₀ ax2 its2 news ∧ its1.size * its2.size ≤ sizeLine ∧
    ∀ g, Iter2 prog w A h₀ L m env i2 scope cl { s₁ with heap := g } ax2 news ∧ Step2 prog w A h₀ L m env elt x y scope cl { s₁ with heap := g } its1 its2 G news ∧ Fin { s₁ with heap := g } (all2 G its1.size its2.size) news
theorem ListComp_2 {elt i1 i2 : Expr} {x y : Str} {px py : Pos} {scope : Scope} {cl : List (Str × Addr)} {pos : Pos} {Q : Value → Shared → Prop} (_F₀ : Fr h₀ L s.heap m)
    (hclos : closureFor scope env = pure cl) (hcell : ∀ z ∈ scope.names, z.2 ≠ .cell) (hkind : scope.kind = .function)
    (hnames : ∀ z ∈ scope.names, z.2 = .local → scope.names.lookup z.1 = some .local) (hx : scope.names.lookup x = some .local) (hy : scope.names.lookup y = some .local) (hxy : x ≠ y)
    (h : wpAny (model prog w) A (eval i1 env) (Src2 prog w A h₀ L m env elt i2 x y scope cl (fun s₂ => FinE h₀ L m s₂ Q)) E s)
    (hs1 : ∀ v, foldedSetIterable i1 env v = pure v := by intro _; rfl) (hs2 : ∀ C v, foldedSetIterable i2 (compEnvC scope cl C env) v = pure v := by intro _ _; rfl) :
    wpAny (model prog w) A (eval (LC2 elt (.Name x px) i1 (.Name y py) i2 scope pos) env) Q E s := by
  rw [eval_ListComp]
  refine wpAny_comprehension_free (use := none) rfl hs1 hclos hkind hnames (wpAny_mono h (fun xv s₁ h₁ => ?_) fun _ _ e => e)
  obtain ⟨ax1, ax2, its1, its2, news, G, rfl, hh, F, N, S1, S2, hz, R⟩ := h₁
  have hl := S1.list F.keep N
  refine wpAny_pyIter_list hl ?_
  have up : Kp s₁.heap (s₁.heap.push { cls := .type "list_iterator", data := .fields #[.ref ax1, .int 0 0] }) := fun b o e => Heap.get?_push_of_some _ e
  have R := R (s₁.heap.push { cls := .type "list_iterator", data := .fields #[.ref ax1, .int 0 0] })
  refine block2 hh hcell hkind hx hy hxy hs2 S1 S2 hz ⟨_, Heap.get?_push_size _ rfl, rfl, rfl⟩ (F.keeps up) (N.grown up) (Nat.ne_of_gt F.ns.lt) (next_is_new F) (fun p hp => Nat.ne_of_lt (Heap.lt_size (N p hp).1)) R.1 R.2.1 ?_
  intro D C h' tk m' F' N' o1 hn hC₀ hD₀ hCL hDL hCD offC
  refine ⟨m', hn, fun h'' hs'' => R.2.2 D h'' tk (F'.change hs'' hCL hC₀) (fun p hp => ?_) o1⟩
  refine ⟨hs''.extBut _ _ ?_ (N' p hp).1, (N' p hp).2⟩
  rcases List.mem_cons.mp hp with rfl | hp
  · exact Ne.symm hCD
  · exact offC p hp
theorem Assign_ListComp_2 {elt i1 i2 : Expr} {x y z : Str} {px py pz : Pos} {scope : Scope} {cl : List (Str × Addr)} {pos spos : Pos} {Q : Flow → Shared → Prop} (_F₀ : Fr h₀ L s.heap m) (hLe : env.locals = L)
    (hsw : swapsWith (LC2 elt (.Name x px) i1 (.Name y py) i2 scope pos) (some (.Name z pz)) spos.line env = pure true)
    (hclos : closureFor scope env = pure cl) (hcell : ∀ z ∈ scope.names, z.2 ≠ .cell) (hkind : scope.kind = .function)
    (hnames : ∀ z ∈ scope.names, z.2 = .local → scope.names.lookup z.1 = some .local) (hx : scope.names.lookup x = some .local) (hy : scope.names.lookup y = some .local) (hxy : x ≠ y)
    (hzl : env.kindOf z = some .local) (hp : (env.scope.kind == .class || (env.scope.kind == .module && env.locals != env.globals)) = false)
    (h : wpAny (model prog w) A (eval i1 env) (Src2 prog w A h₀ L m env elt i2 x y scope cl (fun s₂ => FinA h₀ L m s₂ z Q)) E s)
    (hs1 : ∀ v, foldedSetIterable i1 env v = pure v := by intro _; rfl) (hs2 : ∀ C v, foldedSetIterable i2 (compEnvC scope cl C env) v = pure v := by intro _ _; rfl) :
    wpAny (model prog w) A (exec (.Assign [.Name z pz] (LC2 elt (.Name x px) i1 (.Name y py) i2 scope pos) spos) env) Q E s := by
  subst hLe
  rw [exec_Assign_Name_used _ _ _ _ hsw]
  refine wpAny_bind (wpAny_standAt (wpAny_bind ?_))
  show wpAny _ A (do let _ ← comprehension (LC2 elt (.Name x px) i1 (.Name y py) i2 scope pos) scope env _ (newList []) false (eval i1 env) (some (assign (.Name z pz) env))) _ _ s
  refine wpAny_bind (wpAny_mono (wpAny_comprehension_free (use := some (assign (.Name z pz) env)) (Q := fun _ s' => Q .next s') rfl hs1 hclos hkind hnames
    (wpAny_mono h (fun xv s₁ h₁ => ?_) fun _ _ e => e)) (fun _ s' hq => wpAny_pure (wpAny_pure hq)) fun _ _ e => e)
  obtain ⟨ax1, ax2, its1, its2, news, G, rfl, hh, F, N, S1, S2, hz, R⟩ := h₁
  have hl := S1.list F.keep N
  refine wpAny_pyIter_list hl ?_
  have up : Kp s₁.heap (s₁.heap.push { cls := .type "list_iterator", data := .fields #[.ref ax1, .int 0 0] }) := fun b o e => Heap.get?_push_of_some _ e
  have R := R (s₁.heap.push { cls := .type "list_iterator", data := .fields #[.ref ax1, .int 0 0] })
  refine block2 hh hcell hkind hx hy hxy hs2 S1 S2 hz ⟨_, Heap.get?_push_size _ rfl, rfl, rfl⟩ (F.keeps up) (N.grown up) (Nat.ne_of_gt F.ns.lt) (next_is_new F) (fun p hp => Nat.ne_of_lt (Heap.lt_size (N p hp).1)) R.1 R.2.1 ?_
  intro D C h' tk m' F' N' o1 hn hC₀ hD₀ hCL hDL hCD offC
  show wpAny _ A (assign (.Name z pz) env (.ref D)) _ _ _
  refine wpAny_assign_Name (wpAny_storeName_local hzl F'.ns (fun h₂ hn₂ hs₂ => ?_) hp)
  have hL₀ : h₀.get? env.locals = none := Heap.get?_none_of_le F'.above
  have F₂ : Fr h₀ env.locals h₂ (fun q => if q = z then some (.ref D) else m q) := ⟨hn₂, fun b o e => hs₂.extBut b o (fun q => by rw [q, hL₀] at e; cases e) (F'.keep b o e), F'.above⟩
  refine ⟨m', hn.sameBut hs₂ hCL, fun h'' hs'' => R.2.2 D h'' _ (F₂.change hs'' hCL hC₀) (fun p hp => ?_) o1⟩
  have zz : h₂.get? p.1 = some p.2 := hs₂.extBut _ _ (N' p hp).2.1 (N' p hp).1
  refine ⟨hs''.extBut _ _ ?_ zz, (N' p hp).2⟩
  rcases List.mem_cons.mp hp with rfl | hp
  · exact Ne.symm hCD
  · exact offC p hp
end
end

/-! part L0 -/
section
set_option maxRecDepth 100000
set_option maxHeartbeats 0
/-! the law's own body, read off the frame of the top -/
theorem fill0 : True := by
  have hrow : (hd.heap_39, PySem.Challenge.rw_pd0044_01) = (hd.heap_39, PySem.Challenge.rw_pd0044_01) := rfl
  revert hrow; k_fill; intro _; trivial
noncomputable def mkPack {P : Params} {name qual : Str} {params : Arguments} {body : List Stmt} {scope : Scope} {dV kV doc pm cdv ct oc : Value} {an od : Option Addr} {osl : Array (Option Value)}
    (_ : (hd.heap_39 P).lookup 168 = some ⟨oc, od, .func (fnX name qual params body scope [] dV kV doc pm an cdv ct), osl⟩) : List Stmt × Scope := (body, scope)
noncomputable def lawB (w : World) : List Stmt × Scope := by
  refine' mkPack (P := w.params) ?k
  case k => k_is
noncomputable abbrev lawE (w : World) (L f : Addr) (cdv : Value) : Env := envOfC (Str.ofString "law") (lawB w).2 L f cdv
section
variable {prog : Program} {w : World} {A : Around} {E : Value → Shared → Prop} {s : Shared} {h₀ : Heap} {L : Addr} {m : Str → Option Value} {env : Env}
open LCg in
theorem ListComp_G {elt iter : Expr} {x : Str} {px : Pos} {scope : Scope} {cl : List (Str × Addr)} {pos : Pos} {Q : Value → Shared → Prop} (_F₀ : Fr h₀ L s.heap m)
    (hclos : closureFor scope env = pure cl) (hcell : ∀ z ∈ scope.names, z.2 ≠ .cell) (hkind : scope.kind = .function)
    (hnames : ∀ z ∈ scope.names, z.2 = .local → scope.names.lookup z.1 = some .local) (hx : scope.names.lookup x = some .local)
    (h : wpAny (model prog w) A (eval iter env) (SrcG prog w A h₀ L m env elt x scope cl (fun s₂ => FinE h₀ L m s₂ Q)) E s)
    (hs : ∀ x, foldedSetIterable iter env x = pure x := by intro _; rfl) :
    wpAny (model prog w) A (eval (.ListComp elt [⟨.Name x px, iter, [], 0⟩] scope pos) env) Q E s := by
  rw [eval_ListComp]
  refine wpAny_comprehension_free (use := none) rfl hs hclos hkind hnames (wpAny_mono h (fun xv s₁ h₁ => ?_) fun _ _ e => e)
  obtain ⟨news, n, P, S, F, N, hS, hsz, hit, R⟩ := h₁
  refine hit _ _ fun I hp fp St W hIo hSt hst hfp kp nI => ?_
  have nn : ∀ a o, s₁.heap.get? a = some o → a ≠ I := fun a o e q => by rw [q, nI] at e; cases e
  have hI₀ : h₀.get? I = none := by
    cases e : h₀.get? I with
    | none => rfl
    | some o => exact absurd rfl (nn _ _ (F.keep _ _ e))
  have hLI : L ≠ I := by obtain ⟨o, _, _, e, _⟩ := F.ns; exact nn _ _ e
  refine block_U W hsz hIo hSt hcell hkind hx hst hfp (F.keeps kp) (N.grown kp) hLI hI₀ (fun p hp => nn _ _ (N p hp).1) hS (R _) ?_
  intro D C h' tk m' ys news' F' N' o1 hn hC₀ hD₀ hCL hDL hCD offC fin
  refine ⟨m', hn, fun h'' hs'' => fin D h'' tk (F'.change hs'' hCL hC₀) (fun p hp => ?_) o1⟩
  refine ⟨hs''.extBut _ _ ?_ (N' p hp).1, (N' p hp).2⟩
  rcases List.mem_cons.mp hp with rfl | hp
  · exact Ne.symm hCD
  · exact offC p hp
theorem dict_at {knd : PySem.KeyKind prog w Str} {d : Addr} {o : Obj} {kvs : List (Str × Value)} (hd : o.IsDictOf knd kvs) : ∃ ep, ∀ h : Heap, h.get? d = some o → h.DictAt knd d kvs ep := by
  obtain ⟨es, ep, r⟩ := hd
  exact ⟨ep, fun h e => ⟨o, es, e, r⟩⟩
theorem Iters.dict {d : Addr} {o : Obj} {kvs : List (Str × Value)} (hh : A.handled = none) (ho : s.heap.get? d = some o) (hd : o.IsDictOf (strKind prog w) kvs) (lo : (d == sysModules) = false) :
    Iters prog w A h₀ L (.ref d) s kvs.length (fun i v => ∃ k x, kvs[i]? = some (k, x) ∧ ∃ t, v = .str k t) (fun nw => (d, o) ∈ nw) := by
  intro Q' E' h
  obtain ⟨ep, hat⟩ := dict_at (d := d) hd
  have hlt : d < s.heap.objs.size := Heap.lt_size ho
  refine wpAny_pyIter_dict lo (hat _ ho) ?_
  refine h s.heap.objs.size _ _ _ ((Walks.dictKeys (knd := strKind prog w) hh s.heap.objs.size d (Nat.ne_of_lt hlt) kvs ep).weaken (P' := fun i v => ∃ k x, kvs[i]? = some (k, x) ∧ ∃ t, v = .str k t) ?_) (fun i h st => by obtain ⟨o, e, _⟩ := st.1; exact ⟨o, e⟩) ?_ ⟨⟨_, Heap.get?_push_size _ rfl, rfl, rfl⟩, hat _ (Heap.get?_push_of_some _ ho)⟩ (fun b hb => ?_) (fun b o e => Heap.get?_push_of_some _ e) (Heap.get?_none_of_le (Nat.le_refl _))
  · rintro i v ⟨k, xv, hx, hkey⟩
    obtain ⟨t, rfl⟩ := Value.isStrOf_shape hkey
    exact ⟨k, xv, hx, t, rfl⟩
  · exact fun i h h' oI nw st e e' k N S => ⟨by obtain ⟨o', q, r⟩ := st.1; rw [e] at q; cases q; exact ⟨oI, e', r⟩, hat _ (N _ S).1⟩
  · show b < (s.heap.push _).objs.size
    rw [Heap.size_push]
    rcases List.mem_cons.mp hb with rfl | hb
    · exact Nat.lt_succ_self _
    · rw [List.mem_singleton.mp hb]; exact Nat.lt_succ_of_lt hlt
end
end

/-! part L5 -/
section
set_option maxRecDepth 100000
set_option maxHeartbeats 0
section
variable {prog : Program} {w : World} {A : Around} {E : Value → Shared → Prop} {s : Shared} {h₀ : Heap} {L : Addr} {m : Str → Option Value} {env : Env}
theorem SrcG.dict {elt : Expr} {x : Str} {scope : Scope} {cl : List (Str × Addr)} {Fin : Shared → List Value → List (Addr × Obj) → Prop} {d : Addr} {o : Obj} {kvs : List (Str × Value)} {news : List (Addr × Obj)}
    (hh : A.handled = none) (F : Fr h₀ L s.heap m) (N : News h₀ L s.heap news) (hm : (d, o) ∈ news) (hd : o.IsDictOf (PySem.strKind prog w) kvs) (lo : (d == sysModules) = false) (hsz : kvs.length ≤ sizeLine)
    (h : ∀ g, LCg.CompRest prog w A h₀ L m env elt x scope cl { s with heap := g } (fun nw => (d, o) ∈ nw) (fun (i : Nat) (v : Value) => ∃ k x, kvs[i]? = some (k, x) ∧ ∃ t, v = Value.str k t) (Fin { s with heap := g }) kvs.length 0 [] news) :
    SrcG prog w A h₀ L m env elt x scope cl Fin (.ref d) s :=
  ⟨news, kvs.length, _, _, F, N, hm, hsz, Iters.dict hh (N _ hm).1 hd lo, h⟩
end
noncomputable def PlacesAre (cp : List (Value × Nat)) (ys : List Value) : Prop := ys.length = cp.length ∧ ∀ (i : Nat) (y : Value), ys[i]? = some y → ∃ (x : Value × Nat) (t : Tok), cp[i]? = some x ∧ y = Value.str (pstr (pathOf (cp.map (·.2)) x.2)) t
section
variable {w : World} {A : Around} {s : Shared} {p : Program} {loose : List Str} {mean : ExcName → Option Value} {mg mb : Str → Option Value} {Q E : Value → Shared → Prop}
variable {h₀ : Heap} {L f : Addr} {cdv : Value} {m : Str → Option Value} {kd : Nat} {cp : List (Value × Nat)} {objs : List (Addr × Obj)} {aT aC aP aS kC : Nat} {oT ok oc ot op : Obj}
noncomputable abbrev ledT (L aT aC kC : Nat) (oT : Obj) (cp : List (Value × Nat)) (op ot oc ok : Obj) (objs : List (Addr × Obj)) : List (Addr × Obj) :=
  (aT, oT) :: (aC, W.listOf (cp.map (·.1)).toArray kC) :: (L + 1 + 1 + 1 + 1, op) :: (L + 1 + 1 + 1, ot) :: (L + 1 + 1, oc) :: (L + 1, ok) :: objs
theorem st5 (X : ((hd.heap_39 w.params)).In h₀) (T : Top p loose mean mg mb h₀) (hh : A.handled = none) (hdep : A.depth + 40 < recursionLimit) (huni : A.units + 300 < cLine)
    (F : Fr h₀ L s.heap m) (N : News h₀ L s.heap (ledT L aT aC kC oT cp op ot oc ok objs)) (dp : op.data = .cell none) (dt : ot.data = .cell (some (.ref aT))) (hT : oT.IsDictOf (strKind PySem.Challenge.rw_pd0044_01.row.prog w) (kvsOf cp)) (lo : (aT == sysModules) = false)
    (h7 : cp.length ≤ 7) (n1 : aT ≠ L + 1 + 1 + 1 + 1) (n2 : aC ≠ L + 1 + 1 + 1 + 1) (n3 : ∀ p ∈ objs, p.1 ≠ L + 1 + 1 + 1 + 1)
    {Qf : Flow → Shared → Prop}
    (next : ∀ h' tk' aP ys op', Fr h₀ L h' m → News h₀ L h' ((aP, LCg.lst ys) :: ledT L aT aC kC oT cp op' ot oc ok objs) → op'.data = .cell (some (.ref aP)) → PlacesAre cp ys →
      wpAny (model PySem.Challenge.rw_pd0044_01.row.prog w) A (execs ((lawB w).1.drop 6) (lawE w L f cdv)) Qf E { s with heap := h', toks := tk' }) :
    wpAny (model PySem.Challenge.rw_pd0044_01.row.prog w) A (execs ((lawB w).1.drop 5) (lawE w L f cdv)) Qf E s := by
  k_with_none
  (k_with "ne" => (refine neN ?_; (try dsimp only); (first | with_reducible assumption | with_reducible exact Ne.symm (by assumption) | (refine' ne_lt ?z1 ?z2; (case z1 => with_reducible assumption); (case z2 => k_mem)) | (refine' ne_lt' ?z3 ?z4; (case z3 => with_reducible assumption); (case z4 => k_mem)) | (refine' ne_o ?z5 ?z6; (case z5 => with_reducible assumption); (case z6 => k_mem)) | (refine' ne_o' ?z7 ?z8; (case z7 => with_reducible assumption); (case z8 => k_mem)) | omega)))
  (k_with "all" => (first | with_reducible assumption | with_reducible exact all_lt (by assumption) | exact List.forall_mem_nil _ | (refine' List.forall_mem_cons.mpr ⟨?za, ?zb⟩; (case za => k_ne); (case zb => k_all))))
  (k_with "CompRest" => (with_unfolding_all first | (refine LCg.CompRest.succ ?_; intro v' I' oI' C' oC' D' m' h' tk' E' hv' hC' hx' F' N' off' ne'; (first | lcg_open hv' | (obtain ⟨t9', hv9'⟩ := hv'; subst hv9')); (have offI' := off3_I off'); (have offC' := off3_C off'); (have offD' := off3_D off'); clear off') | refine LCg.CompRest.zero ?_))
  (k_with "FinE" => ((unfold LCg.FinE); intro D' h' tk' F' N' o1'; (replace o1' := off1_D o1'); (try simp only [List.nil_append, List.cons_append] at N'); (try dsimp only)))
  (k_with "FinA" => ((unfold LCg.FinA); intro D' h' tk' F' N' o1'; (replace o1' := off1_D o1'); (try simp only [List.nil_append, List.cons_append] at N'); (try dsimp only)))
  (k_with "CompSrcT" => refine Stop.mk ?_)
  (k_with "CompSrc" => refine Stop.mk ?_)
  (k_with "eval ListComp" => refine Stop.mk ?_)
  (k_with "SrcG" => refine Stop.mk ?_)
  (k_with "execs cons" => refine Stop.mk ?_)
  ((have hrow : (hd.heap_39, PySem.Challenge.rw_pd0044_01) = (hd.heap_39, PySem.Challenge.rw_pd0044_01) := rfl); revert hrow; k_fill; intro hrow; clear hrow; (obtain ⟨ahd, adp, afr, agd, aun⟩ := A; (have hh9 : ahd = none := hh); subst hh9; clear hh; (try dsimp only at hdep huni)))
  unfold lawE lawB mkPack at next ⊢
  dsimp only [List.drop] at next ⊢
  refine wpAny_execs_cons ?_
  w_strict (k_steps; unfold Stop)
  refine ListComp_G F (by with_unfolding_all rfl) (by decide) (by rfl) (by decide) (by rfl) ?_
  w_strict (k_steps; unfold Stop)
  refine SrcG.dict rfl F N (by k_mem) hT lo (by rw [sizeLine_eq]; simp only [kvsOf, List.length_map]; omega) ?_
  intro g
  refine compU (fun i y => ∃ x t, cp[i]? = some x ∧ y = .str (pstr (pathOf (cp.map (·.2)) x.2)) t) (by k_mem) ?_ ?_
  · intro i v ys I oI C oC D m₂ h tk E' hi hP hC hmx F2 N2 off ne
    obtain ⟨k, x, hx, t, rfl⟩ := hP
    have hG : ∃ x t', cp[i]? = some x ∧ (Value.str k t) = .str (pstr (pathOf (cp.map (·.2)) x.2)) t' := by
      rw [kvsOf, List.getElem?_map] at hx
      have hob1 := Option.map_eq_some_iff.mp hx
      obtain ⟨z, hz, e⟩ := hob1
      injection e with e1 e2
      exact ⟨z, t, hz, by rw [e1]⟩
    clear next
    w_strict (k_steps; all_goals exact ⟨hG, _, _, rfl, by assumption, by assumption⟩)
  intro ys hlen hG D h tk F2 N2 off2
  (have hall := off1_D off2); simp only [LCg.Off1, and_true] at off2
  have hpl : PlacesAre cp ys := ⟨by rw [hlen]; simp [kvsOf], hG⟩

  w_strict (k_steps; unfold Stop)

  exact next _ _ _ _ _ (by assumption) (by assumption) (by assumption) hpl
end
end

/-! part L6 -/
section
set_option maxRecDepth 100000
set_option maxHeartbeats 0
open PySem.SeqAt
theorem nodup_snd {cp : List (Value × Nat)} (hnd : (cp.map (·.2)).Nodup) {x y : Value × Nat} (hx : x ∈ cp) (hy : y ∈ cp) (e : x.2 = y.2) : x = y := by
  obtain ⟨i, hi, rfl⟩ := List.getElem_of_mem hx
  obtain ⟨j, hj, rfl⟩ := List.getElem_of_mem hy
  have h1 : i < (cp.map (·.2)).length := by simpa using hi
  have h2 : j < (cp.map (·.2)).length := by simpa using hj
  rcases Nat.lt_trichotomy i j with q | q | q
  · exact absurd (by simpa using e) (List.pairwise_iff_getElem.mp hnd i j h1 h2 q)
  · subst q; rfl
  · exact absurd (by simpa using e.symm) (List.pairwise_iff_getElem.mp hnd j i h2 h1 q)
theorem val_head {cp : List (Value × Nat)} (hnd : (cp.map (·.2)).Nodup) {p : List Bool} {x : Value × Nat} (hx : x ∈ cp) (h : (sub (cp.map (·.2)) p).head? = some x.2) : valueAt (kvsOf cp) (pstr p) = some x.1 := by
  cases hs : sub (cp.map (·.2)) p with
  | nil => rw [hs] at h; cases h
  | cons c rest =>
    rw [hs] at h
    injection h with h
    subst h
    obtain ⟨v, hv, e⟩ := val_some hs
    rw [e]
    exact congrArg (fun z : Value × Nat => some z.1) (nodup_snd hnd hv hx rfl)
theorem val_at {cp : List (Value × Nat)} (hnd : (cp.map (·.2)).Nodup) {x : Value × Nat} (hx : x ∈ cp) : valueAt (kvsOf cp) (pstr (pathOf (cp.map (·.2)) x.2)) = some x.1 :=
  val_head hnd hx (sub_path (List.mem_map_of_mem hx))
theorem list_of_get {α : Type} {ys zs : List α} (hl : ys.length = zs.length) (h : ∀ (i : Nat) (y : α), ys[i]? = some y → zs[i]? = some y) : ys = zs := by
  apply List.ext_getElem? 
  intro i
  by_cases hi : i < ys.length
  · have e : ys[i]? = some ys[i] := by simp [hi]
    rw [e, h i _ e]
  · rw [List.getElem?_eq_none (by omega), List.getElem?_eq_none (by omega)]
section
variable {prog : Program} {w : World} {A : Around} {E : Value → Shared → Prop} {s : Shared} {h₀ : Heap} {L : Addr} {news : List (Addr × Obj)} {Q : Value → Shared → Prop}
theorem ne_same {l b : Addr} {o1 o2 : Obj} {vs ws : List Value} {c1 c2 : Nat} (N : News h₀ L s.heap news) (hm1 : (l, o1) ∈ news) (hm2 : (b, o2) ∈ news) (e1 : o1 = W.listOf vs.toArray c1) (e2 : o2 = W.listOf ws.toArray c2) (hv : vs = ws) (hu : A.units < cLine) (h : Q (.bool false) s) :
    wpAny (model prog w) A (compareOp .NotEq (.ref l) (.ref b)) Q E s := by
  subst e1 e2 hv
  have r := RcNeAt.lists (A := A) (e := fun _ => true) (show s.heap.IsList l vs.toArray from ⟨_, (N _ hm1).1, rfl, c1, rfl⟩) (show s.heap.IsList b vs.toArray from ⟨_, (N _ hm2).1, rfl, c2, rfl⟩) rfl hu (fun j _ _ => EqAt.same _)
  have e : (!(List.range vs.toArray.size).all fun _ => true) = false := by simp
  rw [e] at r
  exact r prog w E Q h
theorem eq_same {l b : Addr} {o1 o2 : Obj} {vs ws : List Value} {c1 c2 : Nat} (N : News h₀ L s.heap news) (hm1 : (l, o1) ∈ news) (hm2 : (b, o2) ∈ news) (e1 : o1 = W.listOf vs.toArray c1) (e2 : o2 = W.listOf ws.toArray c2) (hv : vs = ws) (hu : A.units < cLine) (h : Q (.bool true) s) :
    wpAny (model prog w) A (compareOp .Eq (.ref l) (.ref b)) Q E s := by
  subst e1 e2 hv
  have r := RcAt.lists (A := A) (e := fun _ => true) (show s.heap.IsList l vs.toArray from ⟨_, (N _ hm1).1, rfl, c1, rfl⟩) (show s.heap.IsList b vs.toArray from ⟨_, (N _ hm2).1, rfl, c2, rfl⟩) rfl hu (fun j _ _ => EqAt.same _)
  have e : ((List.range vs.toArray.size).all fun _ => true) = true := by simp
  rw [e] at r
  exact r prog w E Q h
end
section
variable {w : World} {A : Around} {s : Shared} {p : Program} {loose : List Str} {mean : ExcName → Option Value} {mg mb : Str → Option Value} {Q E : Value → Shared → Prop}
variable {h₀ : Heap} {L f : Addr} {cdv : Value} {m : Str → Option Value} {kd : Nat} {cp : List (Value × Nat)} {objs : List (Addr × Obj)} {aT aC aP aS kC : Nat} {oT ok oc ot op : Obj} {pl : List Value}
noncomputable abbrev ledP (aP : Nat) (pl : List Value) (L aT aC kC : Nat) (oT : Obj) (cp : List (Value × Nat)) (op ot oc ok : Obj) (objs : List (Addr × Obj)) : List (Addr × Obj) := (aP, LCg.lst pl) :: ledT L aT aC kC oT cp op ot oc ok objs
theorem st6 (X : ((hd.heap_39 w.params)).In h₀) (T : Top p loose mean mg mb h₀) (hh : A.handled = none) (hdep : A.depth + 40 < recursionLimit) (huni : A.units + 300 < cLine)
    (F : Fr h₀ L s.heap m) (N : News h₀ L s.heap (ledP aP pl L aT aC kC oT cp op ot oc ok objs)) (dp : op.data = .cell (some (.ref aP))) (dt : ot.data = .cell (some (.ref aT))) (dc : oc.data = .cell (some (.ref aC))) (hT : oT.IsDictOf (strKind PySem.Challenge.rw_pd0044_01.row.prog w) (kvsOf cp))
    (hnd : (cp.map (·.2)).Nodup) (h7 : cp.length ≤ 7) (hpl : PlacesAre cp pl)
    {Qf : Flow → Shared → Prop}
    (next : ∀ h' tk', Fr h₀ L h' m → News h₀ L h' (ledP aP pl L aT aC kC oT cp op ot oc ok objs) →
      wpAny (model PySem.Challenge.rw_pd0044_01.row.prog w) A (execs ((lawB w).1.drop 7) (lawE w L f cdv)) Qf E { s with heap := h', toks := tk' }) :
    wpAny (model PySem.Challenge.rw_pd0044_01.row.prog w) A (execs ((lawB w).1.drop 6) (lawE w L f cdv)) Qf E s := by
  k_with_none
  (k_with "ne" => (refine neN ?_; (try dsimp only); (first | with_reducible assumption | with_reducible exact Ne.symm (by assumption) | (refine' ne_lt ?z1 ?z2; (case z1 => with_reducible assumption); (case z2 => k_mem)) | (refine' ne_lt' ?z3 ?z4; (case z3 => with_reducible assumption); (case z4 => k_mem)) | (refine' ne_o ?z5 ?z6; (case z5 => with_reducible assumption); (case z6 => k_mem)) | (refine' ne_o' ?z7 ?z8; (case z7 => with_reducible assumption); (case z8 => k_mem)) | omega)))
  (k_with "all" => (first | with_reducible assumption | with_reducible exact all_lt (by assumption) | exact List.forall_mem_nil _ | (refine' List.forall_mem_cons.mpr ⟨?za, ?zb⟩; (case za => k_ne); (case zb => k_all))))
  (k_with "CompRest" => (with_unfolding_all first | (refine LCg.CompRest.succ ?_; intro v' I' oI' C' oC' D' m' h' tk' E' hv' hC' hx' F' N' off' ne'; (first | lcg_open hv' | (obtain ⟨t9', hv9'⟩ := hv'; subst hv9')); (have offI' := off3_I off'); (have offC' := off3_C off'); (have offD' := off3_D off'); clear off') | refine LCg.CompRest.zero ?_))
  (k_with "FinE" => ((unfold LCg.FinE); intro D' h' tk' F' N' o1'; (replace o1' := off1_D o1'); (try simp only [List.nil_append, List.cons_append] at N'); (try dsimp only)))
  (k_with "FinA" => ((unfold LCg.FinA); intro D' h' tk' F' N' o1'; (replace o1' := off1_D o1'); (try simp only [List.nil_append, List.cons_append] at N'); (try dsimp only)))
  (k_with "CompSrcT" => refine Stop.mk ?_)
  (k_with "CompSrc" => refine Stop.mk ?_)
  (k_with "execs cons" => refine Stop.mk ?_)
  (k_with "subscriptTail Name Name ref str" => (k_here; k_dflt (refine' get_tree ?w39kb ?w39kN ?w39km ?w39kd ?_; (case w39kb => assumption); (case w39kN => k_asm); (case w39km => k_mem); (case w39kd => assumption); k_whole)))
  (k_with "compareOp NotEq ref ref" => (k_here; k_dflt (refine' ne_same ?w40kN ?w40k1 ?w40k2 ?w40ka ?w40kb ?w40kv ?w40ku ?_; (case w40kN => k_asm); (case w40k1 => k_mem); (case w40k2 => k_mem); (case w40ka => exact rfl); (case w40kb => exact rfl); (case w40kv => assumption); (case w40ku => ((try simp only [depth_deeper, units_deeper, Around.in1_units, Around.in1_depth]); (try dsimp only); omega)); k_whole)))
  ((have hrow : (hd.heap_39, PySem.Challenge.rw_pd0044_01) = (hd.heap_39, PySem.Challenge.rw_pd0044_01) := rfl); revert hrow; k_fill; intro hrow; clear hrow; (obtain ⟨ahd, adp, afr, agd, aun⟩ := A; (have hh9 : ahd = none := hh); subst hh9; clear hh; (try dsimp only at hdep huni)))
  unfold lawE lawB mkPack at next ⊢
  dsimp only [List.drop] at next ⊢
  refine wpAny_execs_cons ?_
  w_strict (k_steps; unfold Stop)
  refine LCg.CompSrc.ledger rfl F N (by k_mem) (by rw [sizeLine_eq, List.size_toArray, hpl.1]; omega) ?_
  intro g
  refine compU (fun i y => (cp.map (·.1))[i]? = some y) (Or.inr ⟨_, by k_mem, rfl, _, rfl⟩) ?_ ?_
  · intro i v ys I oI C oC D m₂ h tk E' hi hP hC hmx F2 N2 off ne
    have hob1 := hpl.2 i v (by simpa using hP)
    obtain ⟨x, t, hx, rfl⟩ := hob1
    have hv := val_at hnd (List.mem_of_getElem? hx)
    have hG : (cp.map (·.1))[i]? = some x.1 := by rw [List.getElem?_map, hx]; rfl
    clear next
    w_strict (k_steps; all_goals exact ⟨hG, _, _, rfl, by assumption, by assumption⟩)
  intro ys hlen hG D h tk F2 N2 off2
  simp only [LCg.Off1] at off2
  have hys : ys = cp.map (·.1) := list_of_get (by rw [hlen, List.size_toArray, hpl.1]; simp) hG
  w_strict (k_steps; unfold Stop)
  exact next _ _ (by assumption) (fun q hq => (by assumption : News h₀ L _ ((D, LCg.lst ys) :: _)) q (.tail _ hq))
end
end

/-! part L7 -/
section
set_option maxRecDepth 100000
set_option maxHeartbeats 0
noncomputable def spotOf (cp : List (Value × Nat)) (x : Value × Nat) : Str := spot (pathOf (cp.map (·.2)) x.2)
theorem strs_at {f : (Value × Nat) → Str} : ∀ (cp : List (Value × Nat)) (ys : List Value), ys.length = cp.length → (∀ (i : Nat) (y : Value), ys[i]? = some y → ∃ (x : Value × Nat) (t : Tok), cp[i]? = some x ∧ y = Value.str (f x) t) → StrsAre ys (cp.map f)
  | [], [], _, _ => StrsAre.nil
  | x :: cp, y :: ys, hl, h => by
    obtain ⟨x', t, e, rfl⟩ := h 0 y rfl
    obtain rfl := Option.some.inj e
    exact StrsAre.cons _ t (strs_at cp ys (by simpa using hl) fun i z hz => h (i + 1) z hz)
theorem perm_map_inv {α β : Type} {f : α → β} : ∀ (ss : List β) (l : List α), ss.Perm (l.map f) → ∃ ys : List α, ys.Perm l ∧ ss = ys.map f
  | [], l, h => by
    have := h.length_eq
    have : l = [] := List.length_eq_zero_iff.mp (by simpa using this.symm)
    subst this; exact ⟨[], List.Perm.refl _, rfl⟩
  | s :: ss, l, h => by
    have hs : s ∈ l.map f := h.mem_iff.mp (by simp)
    obtain ⟨x, hx, rfl⟩ := List.mem_map.mp hs
    obtain ⟨pre, post, rfl⟩ := List.append_of_mem hx
    have h' : ss.Perm ((pre ++ post).map f) := by
      refine List.Perm.cons_inv (a := f x) (h.trans ?_)
      simp only [List.map_append, List.map_cons]
      exact List.perm_middle
    obtain ⟨ys, hp, rfl⟩ := perm_map_inv ss _ h'
    exact ⟨x :: ys, (hp.cons x).trans List.perm_middle.symm, rfl⟩
theorem rising : ∀ (p : Str) (l : List Str), risingS p l = true → (p :: l).Pairwise (fun a b => a.cps.toList ≤ b.cps.toList)
  | p, [], _ => List.pairwise_singleton _ _
  | p, x :: r, h => by
    have h' : (!Spec.ltCps x.cps.toList p.cps.toList && risingS x r) = true := h
    rw [Bool.and_eq_true, ltCps_eq, Bool.not_eq_true', decide_eq_false_iff_not] at h'
    have ih := rising x r h'.2
    have hx := List.pairwise_cons.mp ih
    refine List.pairwise_cons.mpr ⟨fun y hy => ?_, ih⟩
    rcases List.mem_cons.mp hy with rfl | hy
    · exact h'.1
    · exact List.le_trans (show p.cps.toList ≤ x.cps.toList from h'.1) (hx.1 y hy)
theorem sorted_pairs {ss : List Str} (h : sortedS ss = true) : ss.Pairwise (fun a b => ¬ (b.cps.toList < a.cps.toList)) := by
  cases ss with
  | nil => exact List.Pairwise.nil
  | cons x r => exact rising x r h
theorem spots_order {cp zs : List (Value × Nat)} (hp : zs.Perm cp) (hnd : (cp.map (·.2)).Nodup) (h : sortedS (zs.map (spotOf cp)) = true) : zs.Pairwise (fun a b => a.2 < b.2) := by
  have h1 := sorted_pairs h
  rw [List.pairwise_map] at h1
  have hnz : (zs.map (·.2)).Nodup := (hp.map _).nodup_iff.mpr hnd
  have h2 : zs.Pairwise (fun a b => a.2 ≠ b.2) := by rw [List.Nodup, List.pairwise_map] at hnz; exact hnz
  refine List.Pairwise.imp_of_mem ?_ (h1.and h2)
  rintro a b ha hb ⟨q1, q2⟩
  rcases Nat.lt_trichotomy a.2 b.2 with q | q | q
  · exact q
  · exact absurd q q2
  · exfalso
    refine q1 ?_
    have := spot_lt _ (cp.map (·.2)) b.2 a.2 (Nat.le_refl _) (List.mem_map_of_mem (hp.mem_iff.mp hb)) (List.mem_map_of_mem (hp.mem_iff.mp ha)) q
    simpa [spotOf, spot] using this
theorem sorted_same {α : Type} {r : α → Nat} : ∀ (l l' : List α), l.Perm l' → l.Pairwise (fun a b => r a < r b) → l'.Pairwise (fun a b => r a < r b) → l = l'
  | [], l', h, _, _ => by have := h.length_eq; exact (List.length_eq_zero_iff.mp (by simpa using this.symm)).symm
  | a :: l, [], h, _, _ => by have := h.length_eq; simp at this
  | a :: l, b :: l', h, h1, h2 => by
    have ha := (List.pairwise_cons.mp h1)
    have hb := (List.pairwise_cons.mp h2)
    have e : a = b := by
      have m1 : a ∈ b :: l' := h.mem_iff.mp (by simp)
      have m2 : b ∈ a :: l := h.mem_iff.mpr (by simp)
      rcases List.mem_cons.mp m1 with q | q
      · exact q
      · rcases List.mem_cons.mp m2 with q' | q'
        · exact q'.symm
        · have := hb.1 a q; have := ha.1 b q'; omega
    subst e
    rw [sorted_same l l' (List.Perm.cons_inv h) ha.2 hb.2]
theorem news_second {h₀ h : Heap} {L : Addr} {x y : Addr × Obj} {l : List (Addr × Obj)} (N : News h₀ L h (x :: y :: l)) : News h₀ L h (x :: l) := fun q hq => by
  rcases List.mem_cons.mp hq with rfl | hq
  · exact N _ (.head _)
  · exact N q (.tail _ (.tail _ hq))
section
variable {w : World} {A : Around} {s : Shared} {p : Program} {loose : List Str} {mean : ExcName → Option Value} {mg mb : Str → Option Value} {Q E : Value → Shared → Prop}
variable {h₀ : Heap} {L f : Addr} {cdv : Value} {m : Str → Option Value} {kd : Nat} {cp : List (Value × Nat)} {objs news : List (Addr × Obj)} {aT aC aP aS kC : Nat} {oT ok oc ot op : Obj} {pl : List Value}
theorem sort_strs {l : Addr} {o : Obj} {vs : List Value} {c : Nat} {ss : List Str} (F : Fr h₀ L s.heap m) (N : News h₀ L s.heap news) (hm : (l, o) ∈ news) (ho : o = W.listOf vs.toArray c) (hS : StrsAre vs ss) (h64 : vs.length < 64)
    (h : ∀ D e h' vs' ss', Fr h₀ L h' m → News h₀ L h' ((D, W.listOf vs'.toArray e) :: news) → StrsAre vs' ss' → ss'.Perm ss → sortedS ss' = true → Q (.ref D) { s with heap := h' }) :
    wpAny (model PySem.Challenge.rw_pd0044_01.row.prog w) A (call (.builtin "sorted") [.ref l]) Q E s := by
  subst ho
  exact sorted_N_str F N ⟨_, (N _ hm).1, rfl, c, rfl⟩ hS h64 fun h' vs' ss' e F' N' a1 a2 a3 => h _ e h' vs' ss' F' N' a1 a2 a3
theorem st7 (X : ((hd.heap_39 w.params)).In h₀) (T : Top p loose mean mg mb h₀) (hh : A.handled = none) (hdep : A.depth + 40 < recursionLimit) (huni : A.units + 300 < cLine)
    (F : Fr h₀ L s.heap m) (N : News h₀ L s.heap (ledP aP pl L aT aC kC oT cp op ot oc ok objs)) (dp : op.data = .cell (some (.ref aP)))
    (hnd : (cp.map (·.2)).Nodup) (h7 : cp.length ≤ 7) (hpl : PlacesAre cp pl)
    {Qf : Flow → Shared → Prop}
    (next : ∀ (h' : Heap) (tk' : Nat) (aS : Addr) (e : Nat) (vs' : List Value) (zs : List (Value × Nat)), Fr h₀ L h' (fun y => if y = Str.ofString "spots" then some (.ref aS) else m y) → News h₀ L h' ((aS, W.listOf vs'.toArray e) :: ledP aP pl L aT aC kC oT cp op ot oc ok objs) →
      StrsAre vs' (zs.map (spotOf cp)) → zs.Perm cp → zs.Pairwise (fun a b => a.2 < b.2) →
      wpAny (model PySem.Challenge.rw_pd0044_01.row.prog w) A (execs ((lawB w).1.drop 8) (lawE w L f cdv)) Qf E { s with heap := h', toks := tk' }) :
    wpAny (model PySem.Challenge.rw_pd0044_01.row.prog w) A (execs ((lawB w).1.drop 7) (lawE w L f cdv)) Qf E s := by
  k_with_none
  (k_with "ne" => (refine neN ?_; (try dsimp only); (first | with_reducible assumption | with_reducible exact Ne.symm (by assumption) | (refine' ne_lt ?z1 ?z2; (case z1 => with_reducible assumption); (case z2 => k_mem)) | (refine' ne_lt' ?z3 ?z4; (case z3 => with_reducible assumption); (case z4 => k_mem)) | (refine' ne_o ?z5 ?z6; (case z5 => with_reducible assumption); (case z6 => k_mem)) | (refine' ne_o' ?z7 ?z8; (case z7 => with_reducible assumption); (case z8 => k_mem)) | omega)))
  (k_with "all" => (first | with_reducible assumption | with_reducible exact all_lt (by assumption) | exact List.forall_mem_nil _ | (refine' List.forall_mem_cons.mpr ⟨?za, ?zb⟩; (case za => k_ne); (case zb => k_all))))
  (k_with "CompRest" => (with_unfolding_all first | (refine LCg.CompRest.succ ?_; intro v' I' oI' C' oC' D' m' h' tk' E' hv' hC' hx' F' N' off' ne'; (first | lcg_open hv' | (obtain ⟨t9', hv9'⟩ := hv'; subst hv9')); (have offI' := off3_I off'); (have offC' := off3_C off'); (have offD' := off3_D off'); clear off') | refine LCg.CompRest.zero ?_))
  (k_with "FinE" => ((unfold LCg.FinE); intro D' h' tk' F' N' o1'; (replace o1' := off1_D o1'); (try simp only [List.nil_append, List.cons_append] at N'); (try dsimp only)))
  (k_with "FinA" => ((unfold LCg.FinA); intro D' h' tk' F' N' o1'; (replace o1' := off1_D o1'); (try simp only [List.nil_append, List.cons_append] at N'); (try dsimp only)))
  (k_with "CompSrcT" => refine Stop.mk ?_)
  (k_with "CompSrc" => refine Stop.mk ?_)
  (k_with "eval ListComp" => refine Stop.mk ?_)
  (k_with "execs cons" => refine Stop.mk ?_)
  (k_with "call ref" => (k_here; k_dflt (refine' join_r ?w41kz ?w41kX ?w41kT ?w41kh ?w41k1 ?w41k2 ?w41ka ?w41kb ?w41kc ?w41kd ?_; (case w41kz => assumption); (case w41kX => (first | assumption | exact Frag.In.keeps (by k_asm) (Fr.keep (by k_asm)))); (case w41kT => (first | assumption | exact Top.keeps (by k_asm) (Fr.keep (by k_asm)))); (case w41kh => rfl); (case w41k1 => ((try simp only [depth_deeper, units_deeper, Around.in1_units, Around.in1_depth]); (try dsimp only); omega)); (case w41k2 => ((try simp only [depth_deeper, units_deeper, Around.in1_units, Around.in1_depth]); (try dsimp only); omega)); (case w41ka => exact starts_m); (case w41kb => assumption); (case w41kc => assumption); (case w41kd => rfl); k_whole; intro h' tk' u' kp'; ((have F' := Fr.keeps (by k_asm) kp'); (have N' := News.grown (by k_asm) kp'); clear kp'; (try k_sweep)))))
  (k_with "call builtin:sorted" => (k_here; k_dflt (refine' sort_strs ?w42kF ?w42kN ?w42km ?w42ko ?w42kS ?w42kz ?_; (case w42kF => k_asm); (case w42kN => k_asm); (case w42km => k_mem); (case w42ko => exact rfl); (case w42kS => assumption); (case w42kz => assumption); k_whole); intro D' e' h' vs' ss' F' N' hs1' hs2' hs3'; (try k_sweep)))
  ((have hrow : (hd.heap_39, PySem.Challenge.rw_pd0044_01) = (hd.heap_39, PySem.Challenge.rw_pd0044_01) := rfl); revert hrow; k_fill; intro hrow; clear hrow; (obtain ⟨ahd, adp, afr, agd, aun⟩ := A; (have hh9 : ahd = none := hh); subst hh9; clear hh; (try dsimp only at hdep huni)))
  unfold lawE lawB mkPack at next ⊢
  dsimp only [List.drop] at next ⊢
  refine wpAny_execs_cons ?_
  w_strict (k_steps; unfold Stop)
  refine LCg.ListComp_U F (by with_unfolding_all rfl) (by decide) (by rfl) (by decide) (by rfl) ?_
  w_strict (k_steps; unfold Stop)
  refine LCg.CompSrc.ledger rfl F N (by k_mem) (by rw [sizeLine_eq, List.size_toArray, hpl.1]; omega) ?_
  intro g
  refine compU (fun i y => ∃ (x : Value × Nat) (t : Tok), cp[i]? = some x ∧ y = Value.str (spotOf cp x) t) (Or.inr ⟨_, by k_mem, rfl, _, rfl⟩) ?_ ?_
  · intro i v ys I oI C oC D m₂ h tk E' hi hP hC hmx F2 N2 off ne
    have hob1 := hpl.2 i v (by simpa using hP)
    obtain ⟨x, t, hx, rfl⟩ := hob1
    have hpl7 : (pathOf (cp.map (·.2)) x.2).length ≤ 7 := by
      have := path_length _ (cp.map (·.2)) x.2 (Nat.le_refl _)
      rw [List.length_map] at this; omega
    have ⟨_, _, tm, tn1, tn2, _, _⟩ := txt_facts hpl7
    clear next
    w_strict (k_steps; all_goals exact ⟨⟨x, _, hx, rfl⟩, _, _, rfl, by assumption, by assumption⟩)
  intro ys hlen hG D h tk F2 N2 off2
  simp only [LCg.Off1] at off2
  have hyl : ys.length = cp.length := by rw [hlen, List.size_toArray, hpl.1]
  have hstr := strs_at cp ys hyl hG
  have h64 : ys.length < 64 := by omega
  w_strict (k_steps; unfold Stop)
  have hob2 := perm_map_inv _ _ (by assumption)
  obtain ⟨zs, hz, rfl⟩ := hob2
  rename News _ _ _ _ => NN
  exact next _ _ _ _ _ zs (by assumption) (news_second NN) (by assumption) hz (spots_order hz hnd (by assumption))
end
end

/-! part L8 -/
section
set_option maxRecDepth 100000
set_option maxHeartbeats 0
theorem strs_get : ∀ {vs : List Value} {ss : List Str}, StrsAre vs ss → ∀ (i : Nat) (v : Value), vs[i]? = some v → ∃ (x : Str) (t : Tok), ss[i]? = some x ∧ v = Value.str x t
  | _, _, .nil, i, v, h => by simp at h
  | _, _, .cons x t r, 0, v, h => ⟨x, t, rfl, (Option.some.inj h).symm⟩
  | _, _, .cons x t r, i + 1, v, h => strs_get r i v h
section
variable {w : World} {A : Around} {s : Shared} {p : Program} {loose : List Str} {mean : ExcName → Option Value} {mg mb : Str → Option Value} {Q E : Value → Shared → Prop}
variable {h₀ : Heap} {L f : Addr} {cdv : Value} {m : Str → Option Value} {kd : Nat} {cp zs : List (Value × Nat)} {objs news : List (Addr × Obj)} {aT aC aP aS kC eS : Nat} {oT ok oc ot op : Obj} {pl sv : List Value}
theorem dirname_r {a r : Str} {t : Tok} (hr : dirF a = r) (X : (hd.heap_39 w.params).In s.heap) (T : Top p loose mean mg mb s.heap) (hh : A.handled = none) (hdep : A.depth + 16 < recursionLimit) (huni : A.units + 100 < cLine)
  (ha1 : 1 ≤ a.length) (ha2 : a.length ≤ 20)
  (hret : ∀ h' tk' u, Kp s.heap h' → Q (.str r u) { s with heap := h', toks := tk' }) : wpAny (model PySem.Challenge.rw_pd0044_01.row.prog w) A (call (.ref 129) [.str a t]) Q E s :=
  dirname_c X T hh hdep huni ha1 (by omega) (by subst hr; exact hret)
theorem sort_keys {l : Addr} {o : Obj} {c : Nat} (F : Fr h₀ L s.heap m) (N : News h₀ L s.heap news) (hm : (l, o) ∈ news) (ho : o = W.listOf (cp.map (·.1)).toArray c) (hk : ∀ h, Fr h₀ L h m → News h₀ L h news → ∀ x ∈ cp, KeyAt kd h x.1 x.2) (hnd : (cp.map (·.2)).Nodup) (h1 : 1 ≤ cp.length) (h7 : cp.length ≤ 7) (hu : A.units + 3 < cLine)
    (h : ∀ D e h' (ys : List (Value × Nat)), Fr h₀ L h' m → News h₀ L h' ((D, W.listOf (ys.map (·.1)).toArray e) :: news) → ys.Perm cp → ys.Pairwise (fun a b => a.2 < b.2) → Q (.ref D) { s with heap := h' }) :
    wpAny (model PySem.Challenge.rw_pd0044_01.row.prog w) A (call (.builtin "sorted") [.ref l]) Q E s := by
  subst ho
  exact sorted_keys F N ⟨_, (N _ hm).1, rfl, c, rfl⟩ hk hnd h1 h7 hu h
theorem st8 (X : ((hd.heap_39 w.params)).In h₀) (T : Top p loose mean mg mb h₀) (hh : A.handled = none) (hdep : A.depth + 40 < recursionLimit) (huni : A.units + 300 < cLine)
    (hms : m (Str.ofString "spots") = some (.ref aS))
    (F : Fr h₀ L s.heap m) (N : News h₀ L s.heap ((aS, W.listOf sv.toArray eS) :: ledP aP pl L aT aC kC oT cp op ot oc ok objs)) (dt : ot.data = .cell (some (.ref aT))) (dc : oc.data = .cell (some (.ref aC))) (hT : oT.IsDictOf (strKind PySem.Challenge.rw_pd0044_01.row.prog w) (kvsOf cp))
    (hK : ∀ h, News h₀ L h objs → ∀ x ∈ cp, KeyAt kd h x.1 x.2)
    (hnd : (cp.map (·.2)).Nodup) (h1 : 1 ≤ cp.length) (h7 : cp.length ≤ 7) (hS : StrsAre sv (zs.map (spotOf cp))) (hz : zs.Perm cp) (hzo : zs.Pairwise (fun a b => a.2 < b.2))
    {Qf : Flow → Shared → Prop}
    (next : ∀ (h' : Heap) (tk' : Nat), Fr h₀ L h' m → News h₀ L h' (ledP aP pl L aT aC kC oT cp op ot oc ok objs) →
      wpAny (model PySem.Challenge.rw_pd0044_01.row.prog w) A (execs ((lawB w).1.drop 9) (lawE w L f cdv)) Qf E { s with heap := h', toks := tk' }) :
    wpAny (model PySem.Challenge.rw_pd0044_01.row.prog w) A (execs ((lawB w).1.drop 8) (lawE w L f cdv)) Qf E s := by
  k_with_none
  (k_with "ne" => (refine neN ?_; (try dsimp only); (first | with_reducible assumption | with_reducible exact Ne.symm (by assumption) | (refine' ne_lt ?z1 ?z2; (case z1 => with_reducible assumption); (case z2 => k_mem)) | (refine' ne_lt' ?z3 ?z4; (case z3 => with_reducible assumption); (case z4 => k_mem)) | (refine' ne_o ?z5 ?z6; (case z5 => with_reducible assumption); (case z6 => k_mem)) | (refine' ne_o' ?z7 ?z8; (case z7 => with_reducible assumption); (case z8 => k_mem)) | omega)))
  (k_with "all" => (first | with_reducible assumption | with_reducible exact all_lt (by assumption) | exact List.forall_mem_nil _ | (refine' List.forall_mem_cons.mpr ⟨?za, ?zb⟩; (case za => k_ne); (case zb => k_all))))
  (k_with "CompRest" => (with_unfolding_all first | (refine LCg.CompRest.succ ?_; intro v' I' oI' C' oC' D' m' h' tk' E' hv' hC' hx' F' N' off' ne'; (first | lcg_open hv' | (obtain ⟨t9', hv9'⟩ := hv'; subst hv9')); (have offI' := off3_I off'); (have offC' := off3_C off'); (have offD' := off3_D off'); clear off') | refine LCg.CompRest.zero ?_))
  (k_with "FinE" => ((unfold LCg.FinE); intro D' h' tk' F' N' o1'; (replace o1' := off1_D o1'); (try simp only [List.nil_append, List.cons_append] at N'); (try dsimp only)))
  (k_with "FinA" => ((unfold LCg.FinA); intro D' h' tk' F' N' o1'; (replace o1' := off1_D o1'); (try simp only [List.nil_append, List.cons_append] at N'); (try dsimp only)))
  (k_with "CompSrcT" => refine Stop.mk ?_)
  (k_with "CompSrc" => refine Stop.mk ?_)
  (k_with "eval ListComp" => refine Stop.mk ?_)
  (k_with "execs cons" => refine Stop.mk ?_)
  (k_with "compareOp NotEq ref ref" => refine Stop.mk ?_)
  (k_with "subscriptTail Name Call ref str" => (k_here; k_dflt (refine' get_tree ?w43kb ?w43kN ?w43km ?w43kd ?_; (case w43kb => assumption); (case w43kN => k_asm); (case w43km => k_mem); (case w43kd => assumption); k_whole)))
  (k_with "call ref" => (k_here; k_dflt (refine' dirname_r ?w44kz ?w44kX ?w44kT ?w44kh ?w44k1 ?w44k2 ?w44kb ?w44kc ?_; (case w44kz => assumption); (case w44kX => (first | assumption | exact Frag.In.keeps (by k_asm) (Fr.keep (by k_asm)))); (case w44kT => (first | assumption | exact Top.keeps (by k_asm) (Fr.keep (by k_asm)))); (case w44kh => rfl); (case w44k1 => ((try simp only [depth_deeper, units_deeper, Around.in1_units, Around.in1_depth]); (try dsimp only); omega)); (case w44k2 => ((try simp only [depth_deeper, units_deeper, Around.in1_units, Around.in1_depth]); (try dsimp only); omega)); (case w44kb => assumption); (case w44kc => assumption); k_whole; intro h' tk' u' kp'; ((have F' := Fr.keeps (by k_asm) kp'); (have N' := News.grown (by k_asm) kp'); clear kp'; (try k_sweep)))))
  (k_with "call builtin:sorted" => refine Stop.mk ?_)
  ((have hrow : (hd.heap_39, PySem.Challenge.rw_pd0044_01) = (hd.heap_39, PySem.Challenge.rw_pd0044_01) := rfl); revert hrow; k_fill; intro hrow; clear hrow; (obtain ⟨ahd, adp, afr, agd, aun⟩ := A; (have hh9 : ahd = none := hh); subst hh9; clear hh; (try dsimp only at hdep huni)))
  unfold lawE lawB mkPack at next ⊢
  dsimp only [List.drop] at next ⊢
  rw [map_at hms] at F
  have hsl : sv.length = cp.length := by
    have := StrsAre.length hS
    rw [this, List.length_map, hz.length_eq]
  refine wpAny_execs_cons ?_
  w_strict (k_steps; unfold Stop)
  refine LCg.ListComp_U F (by with_unfolding_all rfl) (by decide) (by rfl) (by decide) (by rfl) ?_
  w_strict (k_steps; unfold Stop)
  refine LCg.CompSrc.ledger rfl F N (by k_mem) (by rw [sizeLine_eq, List.size_toArray, hsl]; omega) ?_
  intro g
  refine compU (fun i y => (zs.map (·.1))[i]? = some y) (Or.inr ⟨_, by k_mem, rfl, _, rfl⟩) ?_ ?_
  · intro i v ys I oI C oC D m₂ h tk E' hi hP hC hmx F2 N2 off ne
    have hob1 := strs_get hS i v (by simpa using hP)
    obtain ⟨x, t, hx, rfl⟩ := hob1
    rw [List.getElem?_map] at hx
    have hob2 := Option.map_eq_some_iff.mp hx
    obtain ⟨z, hzi, rfl⟩ := hob2
    have hzm : z ∈ cp := hz.mem_iff.mp (List.mem_of_getElem? hzi)
    have hpl7 : (pathOf (cp.map (·.2)) z.2).length ≤ 7 := by
      have := path_length _ (cp.map (·.2)) z.2 (Nat.le_refl _)
      rw [List.length_map] at this; omega
    have ⟨_, _, _, _, _, tn1, tn2⟩ := txt_facts hpl7
    have hdir : dirF (spotOf cp z) = pstr (pathOf (cp.map (·.2)) z.2) := dir_spot _
    have hv := val_at hnd hzm
    have hl1 : 1 ≤ (spotOf cp z).length := tn1
    have hl2 : (spotOf cp z).length ≤ 20 := tn2
    have hG : (zs.map (·.1))[i]? = some z.1 := by rw [List.getElem?_map, hzi]; rfl
    clear next
    w_strict (k_steps; all_goals exact ⟨hG, _, _, rfl, by assumption, by assumption⟩)
  intro ys hlen hG D h tk F2 N2 off2
  simp only [LCg.Off1] at off2
  have hys : ys = zs.map (·.1) := list_of_get (by rw [hlen, List.size_toArray, hsl, List.length_map, hz.length_eq]) hG
  w_strict (k_steps; unfold Stop)
  refine sort_keys F2 N2 (by k_mem) rfl (fun hh FF NN x hx => hK hh (fun q hq => NN q (by repeat (first | exact hq | refine List.Mem.tail _ ?_))) x hx) hnd h1 h7 (by ((try simp only [depth_deeper, units_deeper, Around.in1_units, Around.in1_depth]); (try dsimp only); omega)) ?_
  intro D' e' h' ys' F3 NN hp1 hp2
  w_strict (k_steps; unfold Stop)
  have hzz := sorted_same _ _ (hz.trans hp1.symm) hzo hp2
  refine ne_same NN (by k_mem) (by k_mem) rfl rfl (by rw [hys, hzz]) (by ((try simp only [depth_deeper, units_deeper, Around.in1_units, Around.in1_depth]); (try dsimp only); omega)) ?_
  w_strict (k_steps; unfold Stop)
  rename News _ _ _ _ => NN
  rename Fr _ _ _ _ => FF
  rw [← map_at hms] at FF
  exact next _ _ FF (fun q hq => NN q (.tail _ (.tail _ (.tail _ hq))))
end
end

/-! part L9 -/
section
set_option maxRecDepth 100000
set_option maxHeartbeats 0
/-! the folder right above a place -/
noncomputable def overL (cp : List (Value × Nat)) (i : Nat) : List (Value × Nat) := (cp.take i).filter fun x => adj ((cp.take i).map (·.2)) (rnk cp i) x.2
noncomputable def over9 (cp : List (Value × Nat)) (i : Nat) : Value := ((overL cp i).getLast?.map (·.1)).getD .none
theorem filter_snd (p : Nat → Bool) : ∀ l : List (Value × Nat), (l.filter fun x => p x.2).map (·.2) = (l.map (·.2)).filter p
  | [] => rfl
  | x :: l => by
    simp only [List.filter_cons, List.map_cons]
    cases p x.2 <;> simp [filter_snd p l]
theorem over_plain {cp : List (Value × Nat)} (hnd : (cp.map (·.2)).Nodup) {i : Nat} (hi : 1 ≤ i) {x : Value × Nat} (hx : cp[i]? = some x) :
    ∃ z, z ∈ cp ∧ ((cp.take i).filter fun y => adj ((cp.take i).map (·.2)) x.2 y.2).getLast? = some z ∧ over9 cp i = z.1 ∧ ∃ q b, pathOf (cp.map (·.2)) x.2 = q ++ [b] ∧ (sub (cp.map (·.2)) q).head? = some z.2 := by
  obtain ⟨hlt, hxi⟩ := List.getElem?_eq_some_iff.mp hx
  have hr : rnk cp i = x.2 := by rw [rnk_getD hlt, hxi]
  have esplit : cp = cp.take i ++ x :: cp.drop (i + 1) := by
    rw [← hxi, List.getElem_cons_drop, List.take_append_drop]
  have ens : cp.map (·.2) = ((cp.take i).map (·.2) ++ [x.2]) ++ (cp.drop (i + 1)).map (·.2) := by
    conv => lhs; rw [esplit]
    simp
  have hnd' := hnd
  rw [ens] at hnd'
  have hnd1 := (List.nodup_append.mp hnd').1
  have hnd2 := List.nodup_append.mp hnd1
  have hnot : x.2 ∉ (cp.take i).map (·.2) := fun h => hnd2.2.2 _ h x.2 (by simp) rfl
  have hne : (cp.take i).map (·.2) ≠ [] := by
    intro e
    have := congrArg List.length e
    rw [List.length_map, List.length_take, List.length_nil] at this; omega
  obtain ⟨q, b, hq, hh⟩ := above _ _ x.2 (Nat.le_refl _) hnot hnd2.1 hne
  have hadj := adj_some _ x.2 hnot hne
  rw [← filter_snd, List.getLast?_map] at hh
  rw [← filter_snd] at hadj
  cases hz : ((cp.take i).filter fun y => adj ((cp.take i).map (·.2)) x.2 y.2).getLast? with
  | none =>
    rw [List.getLast?_eq_none_iff] at hz
    rw [hz] at hadj; exact absurd rfl hadj
  | some z =>
    rw [hz] at hh
    have hzm : z ∈ cp := List.mem_of_mem_take (List.mem_filter.mp (List.mem_of_getLast? hz)).1
    refine ⟨z, hzm, rfl, ?_, q, b, ?_, ?_⟩
    · unfold over9 overL; rw [hr, hz]; rfl
    · rw [ens, path_more _ _ _ _ rfl, hq]
    · rw [ens, List.append_assoc]
      exact sub_more q _ _ _ hh
theorem pick1 (vs : List Value) : kms_pick vs (some 1) none = vs.drop 1 := by
  have := pick_from vs id 1
  simpa using this
section
variable {w : World} {A : Around} {s : Shared} {p : Program} {loose : List Str} {mean : ExcName → Option Value} {mg mb : Str → Option Value} {Q E : Value → Shared → Prop}
variable {h₀ : Heap} {L f : Addr} {cdv : Value} {m : Str → Option Value} {kd : Nat} {cp zs : List (Value × Nat)} {objs news : List (Addr × Obj)} {aT aC aP aS kC eS : Nat} {oT ok oc ot op : Obj} {pl sv : List Value}
theorem st9 (X : ((hd.heap_39 w.params)).In h₀) (T : Top p loose mean mg mb h₀) (hh : A.handled = none) (hdep : A.depth + 40 < recursionLimit) (huni : A.units + 300 < cLine)
    (F : Fr h₀ L s.heap m) (N : News h₀ L s.heap (ledP aP pl L aT aC kC oT cp op ot oc ok objs)) (dp : op.data = .cell (some (.ref aP))) (dt : ot.data = .cell (some (.ref aT))) (dc : oc.data = .cell (some (.ref aC))) (hT : oT.IsDictOf (strKind PySem.Challenge.rw_pd0044_01.row.prog w) (kvsOf cp))
    (hK : ∀ h, News h₀ L h objs → ∀ x ∈ cp, KeyAt kd h x.1 x.2)
    (hnd : (cp.map (·.2)).Nodup) (h7 : cp.length ≤ 7) (hpl : PlacesAre cp pl)
    {Qf : Flow → Shared → Prop}
    (next : ∀ (h' : Heap) (tk' : Nat), Fr h₀ L h' m → News h₀ L h' (ledP aP pl L aT aC kC oT cp op ot oc ok objs) →
      wpAny (model PySem.Challenge.rw_pd0044_01.row.prog w) A (execs ((lawB w).1.drop 10) (lawE w L f cdv)) Qf E { s with heap := h', toks := tk' }) :
    wpAny (model PySem.Challenge.rw_pd0044_01.row.prog w) A (execs ((lawB w).1.drop 9) (lawE w L f cdv)) Qf E s := by
  k_with_none
  (k_with "ne" => (refine neN ?_; (try dsimp only); (first | with_reducible assumption | with_reducible exact Ne.symm (by assumption) | (refine' ne_lt ?z1 ?z2; (case z1 => with_reducible assumption); (case z2 => k_mem)) | (refine' ne_lt' ?z3 ?z4; (case z3 => with_reducible assumption); (case z4 => k_mem)) | (refine' ne_o ?z5 ?z6; (case z5 => with_reducible assumption); (case z6 => k_mem)) | (refine' ne_o' ?z7 ?z8; (case z7 => with_reducible assumption); (case z8 => k_mem)) | omega)))
  (k_with "all" => (first | with_reducible assumption | with_reducible exact all_lt (by assumption) | exact List.forall_mem_nil _ | (refine' List.forall_mem_cons.mpr ⟨?za, ?zb⟩; (case za => k_ne); (case zb => k_all))))
  (k_with "CompRest" => (with_unfolding_all first | (refine LCg.CompRest.succ ?_; intro v' I' oI' C' oC' D' m' h' tk' E' hv' hC' hx' F' N' off' ne'; (first | lcg_open hv' | (obtain ⟨t9', hv9'⟩ := hv'; subst hv9')); (have offI' := off3_I off'); (have offC' := off3_C off'); (have offD' := off3_D off'); clear off') | refine LCg.CompRest.zero ?_))
  (k_with "FinE" => ((unfold LCg.FinE); intro D' h' tk' F' N' o1'; (replace o1' := off1_D o1'); (try simp only [List.nil_append, List.cons_append] at N'); (try dsimp only)))
  (k_with "FinA" => ((unfold LCg.FinA); intro D' h' tk' F' N' o1'; (replace o1' := off1_D o1'); (try simp only [List.nil_append, List.cons_append] at N'); (try dsimp only)))
  (k_with "CompSrcT" => refine Stop.mk ?_)
  (k_with "CompSrc" => refine Stop.mk ?_)
  (k_with "eval ListComp" => refine Stop.mk ?_)
  (k_with "execs cons" => refine Stop.mk ?_)
  (k_with "compareOp NotEq ref ref" => refine Stop.mk ?_)
  (k_with "subscriptTail Name Slice ref ref" => (k_here; k_dflt (refine' kms_slice_lit ?w45F ?w45N ?w45l ?w45p ?w45q ?w45e ?_ ?w45s ?w45t ?w45z; (case w45F => k_asm); (case w45N => k_asm); (case w45l => exact ⟨_, (News.at (by k_asm) (by k_mem)), rfl, _, rfl⟩); (case w45p => kmk_part); (case w45q => kmk_part); (case w45e => exact pick1 _); (case w45s => with_unfolding_all rfl); (case w45t => kmk_pure); (case w45z => assumption)); intro D' h' F' N' l1; (try k_sweep)))
  (k_with "subscriptTail Name Call ref str" => (k_here; k_dflt (refine' get_tree ?w46kb ?w46kN ?w46km ?w46kd ?_; (case w46kb => assumption); (case w46kN => k_asm); (case w46km => k_mem); (case w46kd => assumption); k_whole)))
  (k_with "call ref" => (k_here; k_dflt (first | (refine' dirname_r ?w47kz ?w47kX ?w47kT ?w47kh ?w47k1 ?w47k2 ?w47kb ?w47kc ?_; (case w47kz => assumption); (case w47kX => (first | assumption | exact Frag.In.keeps (by k_asm) (Fr.keep (by k_asm)))); (case w47kT => (first | assumption | exact Top.keeps (by k_asm) (Fr.keep (by k_asm)))); (case w47kh => rfl); (case w47k1 => ((try simp only [depth_deeper, units_deeper, Around.in1_units, Around.in1_depth]); (try dsimp only); omega)); (case w47k2 => ((try simp only [depth_deeper, units_deeper, Around.in1_units, Around.in1_depth]); (try dsimp only); omega)); (case w47kb => assumption); (case w47kc => assumption); k_whole; intro h' tk' u' kp'; ((have F' := Fr.keeps (by k_asm) kp'); (have N' := News.grown (by k_asm) kp'); clear kp'; (try k_sweep))) | (refine' over_c ?w47kX ?w47kT ?w47kh ?w47k1 ?w47k2 ?w47kl ?w47kk ?w47kn ?w47kd ?w47ki ?w47ko ?w47kz ?_; (case w47kX => (first | assumption | exact Frag.In.keeps (by k_asm) (Fr.keep (by k_asm)))); (case w47kT => (first | assumption | exact Top.keeps (by k_asm) (Fr.keep (by k_asm)))); (case w47kh => rfl); (case w47k1 => ((try simp only [depth_deeper, units_deeper, Around.in1_units, Around.in1_depth]); (try dsimp only); omega)); (case w47k2 => ((try simp only [depth_deeper, units_deeper, Around.in1_units, Around.in1_depth]); (try dsimp only); omega)); (case w47kl => assumption); (case w47kk => assumption); (case w47kn => assumption); (case w47kd => assumption); (case w47ki => assumption); (case w47ko => assumption); (case w47kz => assumption); k_whole; intro h' tk' kp'; ((have F' := Fr.keeps (by k_asm) kp'); (have N' := News.grown (by k_asm) kp'); clear kp'; (try k_sweep))))))
  ((have hrow : (hd.heap_39, PySem.Challenge.rw_pd0044_01) = (hd.heap_39, PySem.Challenge.rw_pd0044_01) := rfl); revert hrow; k_fill; intro hrow; clear hrow; (obtain ⟨ahd, adp, afr, agd, aun⟩ := A; (have hh9 : ahd = none := hh); subst hh9; clear hh; (try dsimp only at hdep huni)))
  unfold lawE lawB mkPack at next ⊢
  dsimp only [List.drop] at next ⊢
  have hsz1 : pl.toArray.size ≤ sizeLine := by rw [sizeLine_eq, List.size_toArray, hpl.1]; omega
  have hsz2 : (cp.map (·.1)).toArray.size ≤ sizeLine := by rw [sizeLine_eq]; simp; omega
  have hsz3 : pl.length ≤ sizeLine := by rw [sizeLine_eq, hpl.1]; omega
  have hsz4 : (cp.map (·.1)).length ≤ sizeLine := by rw [sizeLine_eq]; simp; omega
  refine wpAny_execs_cons ?_
  w_strict (k_steps; unfold Stop)
  refine LCg.ListComp_U F (by with_unfolding_all rfl) (by decide) (by rfl) (by decide) (by rfl) ?_
  w_strict (k_steps; unfold Stop)
  rename News _ _ _ _ => N1
  rename Fr _ _ _ _ => F1
  simp only [List.toList_toArray] at N1
  have hdl : (pl.drop 1).length = cp.length - 1 := by rw [List.length_drop, hpl.1]
  have hdc : ((cp.map (·.1)).drop 1).length = cp.length - 1 := by rw [List.length_drop, List.length_map]
  refine LCg.CompSrc.ledger rfl F1 N1 (by k_mem) (by rw [sizeLine_eq, List.size_toArray, hdl]; omega) ?_
  intro g
  refine compU (fun i y => y = over9 cp (i + 1)) (Or.inr ⟨_, by k_mem, rfl, _, rfl⟩) ?_ ?_
  · intro i v ys I oI C oC D m₂ h tk E' hi hP hC hmx F2 N2 off ne
    have hP' : (pl.drop 1)[i]? = some v := by simpa using hP
    rw [List.getElem?_drop, Nat.add_comm] at hP'
    have hob1 := hpl.2 (i + 1) v hP'
    obtain ⟨x, t, hx, rfl⟩ := hob1
    have hob2 := over_plain hnd (by omega) hx
    obtain ⟨z, hz, _, h9, q, b, hq, hsub⟩ := hob2
    have hv := val_head hnd hz hsub
    have hpl7 : (pathOf (cp.map (·.2)) x.2).length ≤ 7 := by
      have := path_length _ (cp.map (·.2)) x.2 (Nat.le_refl _)
      rw [List.length_map] at this; omega
    have ⟨_, _, _, tn1, tn2, _, _⟩ := txt_facts hpl7
    have hdir : dirF (pstr (pathOf (cp.map (·.2)) x.2)) = pstr q := by rw [hq]; exact dir_pstr q b
    clear next N1 F1
    w_strict (k_steps; all_goals exact ⟨h9.symm, _, _, rfl, by assumption, by assumption⟩)
  intro ys hlen hG D h tk F2 N2 off2
  rw [List.size_toArray, hdl] at hlen
  simp only [LCg.Off1] at off2
  clear N1 F1
  w_strict (k_steps; unfold Stop)
  refine LCg.ListComp_U F2 (by with_unfolding_all rfl) (by decide) (by rfl) (by decide) (by rfl) ?_
  w_strict (k_steps; unfold Stop)
  rename News _ _ _ _ => N3
  rename Fr _ _ _ _ => F3
  simp only [List.toList_toArray] at N3
  refine LCg.CompSrc.ledger rfl F3 N3 (by k_mem) (by rw [sizeLine_eq, List.size_toArray, hdc]; omega) ?_
  intro g2
  refine compU (fun i y => y = over9 cp (i + 1)) (Or.inr ⟨_, by k_mem, rfl, _, rfl⟩) ?_ ?_
  · intro i v ys2 I oI C oC D2 m₂ h2 tk2 E' hi hP hC hmx F4 N4 off ne
    have hP' : ((cp.map (·.1)).drop 1)[i]? = some v := by simpa using hP
    rw [List.getElem?_drop, Nat.add_comm, List.getElem?_map] at hP'
    have hob3 := Option.map_eq_some_iff.mp hP'
    obtain ⟨⟨v', n⟩, hx, rfl⟩ := hob3
    have hob4 := over_plain hnd (by omega) hx
    obtain ⟨z, hz, hlast, h9, _⟩ := hob4
    have hkk := hK h2 (fun q hq => N4 q (by repeat (first | exact hq | refine List.Mem.tail _ ?_)))
    have hpc : h2.PlainList aC (cp.map (·.1)).toArray := ⟨kC, (N4 (aC, W.listOf (cp.map (·.1)).toArray kC) (by k_mem)).1⟩
    have hi1 : 1 ≤ i + 1 := by omega
    have X2 := X.keeps F4.keep
    have T2 := T.keeps F4.keep
    dsimp only at hlast
    clear next F3 N3
    w_strict (k_steps; all_goals exact ⟨h9.symm, _, _, rfl, by assumption, by assumption⟩)
  intro zs hlen2 hG2 D2 h2 tk2 F5 N5 off5
  rw [List.size_toArray, hdc] at hlen2
  have hyz : ys = zs := by
    refine list_of_get (by rw [hlen, hlen2]) fun i y hy => ?_
    have h1 := hG i y hy
    have hlt : i < zs.length := by have := (List.getElem?_eq_some_iff.mp hy).1; omega
    have h2 := hG2 i zs[i] (by simp [hlt])
    rw [h1, ← h2]; simp [hlt]
  clear F3 N3
  w_strict (k_steps; unfold Stop)
  refine ne_same N5 (by k_mem) (by k_mem) rfl rfl hyz (by ((try simp only [depth_deeper, units_deeper, Around.in1_units, Around.in1_depth]); (try dsimp only); omega)) ?_
  w_strict (k_steps; unfold Stop)
  rename News _ _ _ _ => NN
  exact next _ _ (by assumption) (fun q hq => NN q (.tail _ (.tail _ (.tail _ (.tail _ hq)))))
end
end

/-! part L10 -/
section
set_option maxRecDepth 100000
set_option maxHeartbeats 0
/-! the key that two places share -/
noncomputable def between (a b : Nat) (y : Value × Nat) : Bool := decide (min a b ≤ y.2 ∧ y.2 ≤ max a b)
noncomputable def earl (cp : List (Value × Nat)) (i j : Nat) : Value := ((cp.filter (between (rnk cp i) (rnk cp j))).head?.map (·.1)).getD .none
theorem earl_plain {cp : List (Value × Nat)} {i j : Nat} {x y : Value × Nat} (hx : cp[i]? = some x) (hy : cp[j]? = some y) :
    ∃ z, z ∈ cp ∧ (cp.filter (fun t => decide (min x.2 y.2 ≤ t.2 ∧ t.2 ≤ max x.2 y.2)))[0]? = some z ∧ earl cp i j = z.1 ∧ (sub (cp.map (·.2)) (lcp (pathOf (cp.map (·.2)) x.2) (pathOf (cp.map (·.2)) y.2))).head? = some z.2 := by
  obtain ⟨hil, hxi⟩ := List.getElem?_eq_some_iff.mp hx
  obtain ⟨hjl, hyj⟩ := List.getElem?_eq_some_iff.mp hy
  have hri : rnk cp i = x.2 := by rw [rnk_getD hil, hxi]
  have hrj : rnk cp j = y.2 := by rw [rnk_getD hjl, hyj]
  have hl := lca _ (cp.map (·.2)) x.2 y.2 (Nat.le_refl _) (List.mem_map_of_mem (List.mem_of_getElem? hx)) (List.mem_map_of_mem (List.mem_of_getElem? hy))
  rw [← filter_snd (fun y' => decide (min x.2 y.2 ≤ y' ∧ y' ≤ max x.2 y.2)), List.head?_map] at hl
  cases hz : cp.filter (fun t => decide (min x.2 y.2 ≤ t.2 ∧ t.2 ≤ max x.2 y.2)) with
  | nil =>
    exfalso
    have : x ∈ cp.filter (fun t => decide (min x.2 y.2 ≤ t.2 ∧ t.2 ≤ max x.2 y.2)) := List.mem_filter.mpr ⟨List.mem_of_getElem? hx, decide_eq_true (by omega)⟩
    rw [hz] at this; cases this
  | cons z r =>
    rw [hz] at hl
    refine ⟨z, (List.mem_filter.mp (show z ∈ cp.filter (fun t => decide (min x.2 y.2 ≤ t.2 ∧ t.2 ≤ max x.2 y.2)) by rw [hz]; simp)).1, rfl, ?_, hl⟩
    unfold earl
    have e : between (rnk cp i) (rnk cp j) = (fun t : Value × Nat => decide (min x.2 y.2 ≤ t.2 ∧ t.2 ≤ max x.2 y.2)) := by rw [hri, hrj]; rfl
    rw [e, hz]; rfl
theorem news_tail1 {h₀ h : Heap} {L : Addr} {x : Addr × Obj} {l : List (Addr × Obj)} (N : News h₀ L h (x :: l)) : News h₀ L h l := fun q hq => N q (.tail _ hq)
section
variable {w : World} {A : Around} {s : Shared} {p : Program} {loose : List Str} {mean : ExcName → Option Value} {mg mb : Str → Option Value} {Q E : Value → Shared → Prop}
variable {h₀ : Heap} {L f : Addr} {cdv : Value} {m : Str → Option Value} {kd : Nat} {cp zs : List (Value × Nat)} {objs news : List (Addr × Obj)} {aT aC aP aS aH kC eS : Nat} {oT ok oc ot op : Obj} {pl sv : List Value}
theorem st10 (X : ((hd.heap_39 w.params)).In h₀) (T : Top p loose mean mg mb h₀) (hh : A.handled = none) (hdep : A.depth + 40 < recursionLimit) (huni : A.units + 300 < cLine)
    (F : Fr h₀ L s.heap m) (N : News h₀ L s.heap (ledP aP pl L aT aC kC oT cp op ot oc ok objs)) (dp : op.data = .cell (some (.ref aP))) (dt : ot.data = .cell (some (.ref aT))) (hT : oT.IsDictOf (strKind PySem.Challenge.rw_pd0044_01.row.prog w) (kvsOf cp))
    (hnd : (cp.map (·.2)).Nodup) (h7 : cp.length ≤ 7) (hpl : PlacesAre cp pl)
    {Qf : Flow → Shared → Prop}
    (next : ∀ (h' : Heap) (tk' : Nat) (aH : Addr), Fr h₀ L h' (fun y => if y = Str.ofString "shared" then some (.ref aH) else m y) → News h₀ L h' ((aH, LCg.lst (all2 (earl cp) cp.length cp.length)) :: ledP aP pl L aT aC kC oT cp op ot oc ok objs) →
      wpAny (model PySem.Challenge.rw_pd0044_01.row.prog w) A (execs ((lawB w).1.drop 11) (lawE w L f cdv)) Qf E { s with heap := h', toks := tk' }) :
    wpAny (model PySem.Challenge.rw_pd0044_01.row.prog w) A (execs ((lawB w).1.drop 10) (lawE w L f cdv)) Qf E s := by
  k_with_none
  (k_with "ne" => (refine neN ?_; (try dsimp only); (first | with_reducible assumption | with_reducible exact Ne.symm (by assumption) | (refine' ne_lt ?z1 ?z2; (case z1 => with_reducible assumption); (case z2 => k_mem)) | (refine' ne_lt' ?z3 ?z4; (case z3 => with_reducible assumption); (case z4 => k_mem)) | (refine' ne_o ?z5 ?z6; (case z5 => with_reducible assumption); (case z6 => k_mem)) | (refine' ne_o' ?z7 ?z8; (case z7 => with_reducible assumption); (case z8 => k_mem)) | omega)))
  (k_with "all" => (first | with_reducible assumption | with_reducible exact all_lt (by assumption) | exact List.forall_mem_nil _ | (refine' List.forall_mem_cons.mpr ⟨?za, ?zb⟩; (case za => k_ne); (case zb => k_all))))
  (k_with "CompRest" => (with_unfolding_all first | (refine LCg.CompRest.succ ?_; intro v' I' oI' C' oC' D' m' h' tk' E' hv' hC' hx' F' N' off' ne'; (first | lcg_open hv' | (obtain ⟨t9', hv9'⟩ := hv'; subst hv9')); (have offI' := off3_I off'); (have offC' := off3_C off'); (have offD' := off3_D off'); clear off') | refine LCg.CompRest.zero ?_))
  (k_with "FinE" => ((unfold LCg.FinE); intro D' h' tk' F' N' o1'; (replace o1' := off1_D o1'); (try simp only [List.nil_append, List.cons_append] at N'); (try dsimp only)))
  (k_with "FinA" => ((unfold LCg.FinA); intro D' h' tk' F' N' o1'; (replace o1' := off1_D o1'); (try simp only [List.nil_append, List.cons_append] at N'); (try dsimp only)))
  (k_with "eval ListComp" => refine Stop.mk ?_)
  (k_with "Src2" => refine Stop.mk ?_)
  (k_with "exec Assign cons ListComp" => refine Stop.mk ?_)
  (k_with "execs cons" => refine Stop.mk ?_)
  (k_with "compareOp Eq ref ref" => refine Stop.mk ?_)
  (k_with "subscriptTail Name Call ref str" => (k_here; k_dflt (refine' get_tree ?w35kb ?w35kN ?w35km ?w35kd ?_; (case w35kb => assumption); (case w35kN => k_asm); (case w35km => k_mem); (case w35kd => assumption); k_whole)))
  (k_with "call ref" => (k_here; k_dflt (first | (refine' cpath_c ?w36kX ?w36kT ?w36kh ?w36k1 ?w36k2 ?w36ka ?w36kb ?w36kl ?_; (case w36kX => (first | assumption | exact Frag.In.keeps (by k_asm) (Fr.keep (by k_asm)))); (case w36kT => (first | assumption | exact Top.keeps (by k_asm) (Fr.keep (by k_asm)))); (case w36kh => rfl); (case w36k1 => ((try simp only [depth_deeper, units_deeper, Around.in1_units, Around.in1_depth]); (try dsimp only); omega)); (case w36k2 => ((try simp only [depth_deeper, units_deeper, Around.in1_units, Around.in1_depth]); (try dsimp only); omega)); (case w36kl => exact ⟨_, (News.at (by k_asm) (by k_mem)), rfl, _, rfl⟩); (case w36ka => assumption); (case w36kb => assumption); k_whole; intro h' tk' u' kp'; ((have F' := Fr.keeps (by k_asm) kp'); (have N' := News.grown (by k_asm) kp'); clear kp'; (try k_sweep))) | (refine' earliest_c ?w36kX ?w36kT ?w36kh ?w36k1 ?w36k2 ?w36kl ?w36kk ?w36kn ?w36kv ?w36kw ?w36kx ?_; (case w36kX => (first | assumption | exact Frag.In.keeps (by k_asm) (Fr.keep (by k_asm)))); (case w36kT => (first | assumption | exact Top.keeps (by k_asm) (Fr.keep (by k_asm)))); (case w36kh => rfl); (case w36k1 => ((try simp only [depth_deeper, units_deeper, Around.in1_units, Around.in1_depth]); (try dsimp only); omega)); (case w36k2 => ((try simp only [depth_deeper, units_deeper, Around.in1_units, Around.in1_depth]); (try dsimp only); omega)); (case w36kl => assumption); (case w36kk => assumption); (case w36kn => assumption); (case w36kv => assumption); (case w36kw => assumption); (case w36kx => assumption); k_whole; intro h' tk' kp'; ((have F' := Fr.keeps (by k_asm) kp'); (have N' := News.grown (by k_asm) kp'); clear kp'; (try k_sweep))))))
  ((have hrow : (hd.heap_39, PySem.Challenge.rw_pd0044_01) = (hd.heap_39, PySem.Challenge.rw_pd0044_01) := rfl); revert hrow; k_fill; intro hrow; clear hrow; (obtain ⟨ahd, adp, afr, agd, aun⟩ := A; (have hh9 : ahd = none := hh); subst hh9; clear hh; (try dsimp only at hdep huni)))
  unfold lawE lawB mkPack at next ⊢
  dsimp only [List.drop] at next ⊢
  have hps : pl.toArray.size = cp.length := by rw [List.size_toArray, hpl.1]
  refine wpAny_execs_cons ?_
  w_strict (k_steps; unfold Stop)
  refine Assign_ListComp_2 F rfl (by first | rfl | decide +kernel) (by with_unfolding_all rfl) (by decide) (by rfl) (by decide) (by rfl) (by rfl) (by decide) (by rfl) (by rfl) ?_
  w_strict (k_steps; unfold Stop)
  refine ⟨aP, aP, pl.toArray, pl.toArray, _, earl cp, rfl, rfl, F, N, Or.inr ⟨_, by k_mem, rfl, _, rfl⟩, Or.inr ⟨_, by k_mem, rfl, _, rfl⟩, ?_, fun g => ⟨?_, ?_, ?_⟩⟩
  · rw [hps, sizeLine_eq]
    have := Nat.mul_le_mul h7 h7
    omega
  · intro I oI C oC D oD m₂ h tk Q' E' hC F2 N2 hq
    clear next
    w_strict (k_steps; all_goals exact hq)
  · intro i j v u J oJ I oI C oC D ys m₂ h tk E' hi hj hC hx hy F2 N2
    have hob1 := hpl.2 i v (by simpa using hi)
    obtain ⟨x, t, hxi, rfl⟩ := hob1
    have hob2 := hpl.2 j u (by simpa using hj)
    obtain ⟨y, t2, hyj, rfl⟩ := hob2
    have hob3 := earl_plain hxi hyj
    obtain ⟨z, hz, _, h9, hsub⟩ := hob3
    have hv := val_head hnd hz hsub
    have hp1 : (pathOf (cp.map (·.2)) x.2).length ≤ 6 := by
      have := path_short _ (cp.map (·.2)) x.2 (Nat.le_refl _) (List.mem_map_of_mem (List.mem_of_getElem? hxi))
      rw [List.length_map] at this; omega
    have hp2 : (pathOf (cp.map (·.2)) y.2).length ≤ 6 := by
      have := path_short _ (cp.map (·.2)) y.2 (Nat.le_refl _) (List.mem_map_of_mem (List.mem_of_getElem? hyj))
      rw [List.length_map] at this; omega
    clear next
    w_strict (k_steps; all_goals exact ⟨h9.symm, _, _, rfl, by assumption, news_tail1 (by assumption)⟩)
  · intro D h tk F2 N2 off2
    rw [hps] at N2
    exact next _ _ _ F2 N2
theorem st11 (X : ((hd.heap_39 w.params)).In h₀) (T : Top p loose mean mg mb h₀) (hh : A.handled = none) (hdep : A.depth + 40 < recursionLimit) (huni : A.units + 300 < cLine)
    (hms : m (Str.ofString "shared") = some (.ref aH))
    (F : Fr h₀ L s.heap m) (N : News h₀ L s.heap ((aH, LCg.lst (all2 (earl cp) cp.length cp.length)) :: ledP aP pl L aT aC kC oT cp op ot oc ok objs)) (dc : oc.data = .cell (some (.ref aC)))
    (hK : ∀ h, News h₀ L h objs → ∀ x ∈ cp, KeyAt kd h x.1 x.2)
    (hnd : (cp.map (·.2)).Nodup) (h7 : cp.length ≤ 7)
    {Qf : Flow → Shared → Prop}
    (fin : ∀ (h' : Heap) (tk' : Nat), Fr h₀ L h' m → Qf (.ret (.bool true)) { s with heap := h', toks := tk' }) :
    wpAny (model PySem.Challenge.rw_pd0044_01.row.prog w) A (execs ((lawB w).1.drop 11) (lawE w L f cdv)) Qf E s := by
  k_with_none
  (k_with "ne" => (refine neN ?_; (try dsimp only); (first | with_reducible assumption | with_reducible exact Ne.symm (by assumption) | (refine' ne_lt ?z1 ?z2; (case z1 => with_reducible assumption); (case z2 => k_mem)) | (refine' ne_lt' ?z3 ?z4; (case z3 => with_reducible assumption); (case z4 => k_mem)) | (refine' ne_o ?z5 ?z6; (case z5 => with_reducible assumption); (case z6 => k_mem)) | (refine' ne_o' ?z7 ?z8; (case z7 => with_reducible assumption); (case z8 => k_mem)) | omega)))
  (k_with "all" => (first | with_reducible assumption | with_reducible exact all_lt (by assumption) | exact List.forall_mem_nil _ | (refine' List.forall_mem_cons.mpr ⟨?za, ?zb⟩; (case za => k_ne); (case zb => k_all))))
  (k_with "CompRest" => (with_unfolding_all first | (refine LCg.CompRest.succ ?_; intro v' I' oI' C' oC' D' m' h' tk' E' hv' hC' hx' F' N' off' ne'; (first | lcg_open hv' | (obtain ⟨t9', hv9'⟩ := hv'; subst hv9')); (have offI' := off3_I off'); (have offC' := off3_C off'); (have offD' := off3_D off'); clear off') | refine LCg.CompRest.zero ?_))
  (k_with "FinE" => ((unfold LCg.FinE); intro D' h' tk' F' N' o1'; (replace o1' := off1_D o1'); (try simp only [List.nil_append, List.cons_append] at N'); (try dsimp only)))
  (k_with "FinA" => ((unfold LCg.FinA); intro D' h' tk' F' N' o1'; (replace o1' := off1_D o1'); (try simp only [List.nil_append, List.cons_append] at N'); (try dsimp only)))
  (k_with "eval ListComp" => refine Stop.mk ?_)
  (k_with "Src2" => refine Stop.mk ?_)
  (k_with "exec Assign cons ListComp" => refine Stop.mk ?_)
  (k_with "execs cons" => refine Stop.mk ?_)
  (k_with "compareOp Eq ref ref" => refine Stop.mk ?_)
  (k_with "subscriptTail Name Call ref str" => (k_here; k_dflt (refine' get_tree ?w37kb ?w37kN ?w37km ?w37kd ?_; (case w37kb => assumption); (case w37kN => k_asm); (case w37km => k_mem); (case w37kd => assumption); k_whole)))
  (k_with "call ref" => (k_here; k_dflt (first | (refine' cpath_c ?w38kX ?w38kT ?w38kh ?w38k1 ?w38k2 ?w38ka ?w38kb ?w38kl ?_; (case w38kX => (first | assumption | exact Frag.In.keeps (by k_asm) (Fr.keep (by k_asm)))); (case w38kT => (first | assumption | exact Top.keeps (by k_asm) (Fr.keep (by k_asm)))); (case w38kh => rfl); (case w38k1 => ((try simp only [depth_deeper, units_deeper, Around.in1_units, Around.in1_depth]); (try dsimp only); omega)); (case w38k2 => ((try simp only [depth_deeper, units_deeper, Around.in1_units, Around.in1_depth]); (try dsimp only); omega)); (case w38kl => exact ⟨_, (News.at (by k_asm) (by k_mem)), rfl, _, rfl⟩); (case w38ka => assumption); (case w38kb => assumption); k_whole; intro h' tk' u' kp'; ((have F' := Fr.keeps (by k_asm) kp'); (have N' := News.grown (by k_asm) kp'); clear kp'; (try k_sweep))) | (refine' earliest_c ?w38kX ?w38kT ?w38kh ?w38k1 ?w38k2 ?w38kl ?w38kk ?w38kn ?w38kv ?w38kw ?w38kx ?_; (case w38kX => (first | assumption | exact Frag.In.keeps (by k_asm) (Fr.keep (by k_asm)))); (case w38kT => (first | assumption | exact Top.keeps (by k_asm) (Fr.keep (by k_asm)))); (case w38kh => rfl); (case w38k1 => ((try simp only [depth_deeper, units_deeper, Around.in1_units, Around.in1_depth]); (try dsimp only); omega)); (case w38k2 => ((try simp only [depth_deeper, units_deeper, Around.in1_units, Around.in1_depth]); (try dsimp only); omega)); (case w38kl => assumption); (case w38kk => assumption); (case w38kn => assumption); (case w38kv => assumption); (case w38kw => assumption); (case w38kx => assumption); k_whole; intro h' tk' kp'; ((have F' := Fr.keeps (by k_asm) kp'); (have N' := News.grown (by k_asm) kp'); clear kp'; (try k_sweep))))))
  ((have hrow : (hd.heap_39, PySem.Challenge.rw_pd0044_01) = (hd.heap_39, PySem.Challenge.rw_pd0044_01) := rfl); revert hrow; k_fill; intro hrow; clear hrow; (obtain ⟨ahd, adp, afr, agd, aun⟩ := A; (have hh9 : ahd = none := hh); subst hh9; clear hh; (try dsimp only at hdep huni)))
  unfold lawE lawB mkPack
  dsimp only [List.drop]
  rw [map_at hms] at F
  have hcs : (cp.map (·.1)).toArray.size = cp.length := by simp
  refine wpAny_execs_cons ?_
  w_strict (k_steps; unfold Stop)
  refine ListComp_2 F (by with_unfolding_all rfl) (by decide) (by rfl) (by decide) (by rfl) (by rfl) (by decide) ?_
  w_strict (k_steps; unfold Stop)
  refine ⟨aC, aC, (cp.map (·.1)).toArray, (cp.map (·.1)).toArray, _, earl cp, rfl, rfl, F, N, Or.inr ⟨_, by k_mem, rfl, _, rfl⟩, Or.inr ⟨_, by k_mem, rfl, _, rfl⟩, ?_, fun g => ⟨?_, ?_, ?_⟩⟩
  · rw [hcs, sizeLine_eq]
    have := Nat.mul_le_mul h7 h7
    omega
  · intro I oI C oC D oD m₂ h tk Q' E' hC F2 N2 hq
    clear fin
    w_strict (k_steps; all_goals exact hq)
  · intro i j v u J oJ I oI C oC D ys m₂ h tk E' hi hj hC hx hy F2 N2
    have hi' : (cp.map (·.1))[i]? = some v := by simpa using hi
    have hj' : (cp.map (·.1))[j]? = some u := by simpa using hj
    rw [List.getElem?_map] at hi' hj'
    have hob4 := Option.map_eq_some_iff.mp hi'
    obtain ⟨x, hxi, rfl⟩ := hob4
    have hob5 := Option.map_eq_some_iff.mp hj'
    obtain ⟨y, hyj, rfl⟩ := hob5
    have hob6 := earl_plain hxi hyj
    obtain ⟨z, hz, h0, h9, _⟩ := hob6
    have hkk := hK h (fun q hq => N2 q (by repeat (first | exact hq | refine List.Mem.tail _ ?_)))
    have hkx := hkk x (List.mem_of_getElem? hxi)
    have hky := hkk y (List.mem_of_getElem? hyj)
    have hpc : h.PlainList aC (cp.map (·.1)).toArray := ⟨kC, (N2 (aC, W.listOf (cp.map (·.1)).toArray kC) (by k_mem)).1⟩
    have X2 := X.keeps F2.keep
    have T2 := T.keeps F2.keep
    clear fin
    w_strict (k_steps; all_goals exact ⟨h9.symm, _, _, rfl, by assumption, by assumption⟩)
  · intro D h tk F2 N2 off2
    rw [hcs] at N2
    w_strict (k_steps; unfold Stop)
    refine eq_same N2 (by k_mem) (by k_mem) rfl rfl rfl (by ((try simp only [depth_deeper, units_deeper, Around.in1_units, Around.in1_depth]); (try dsimp only); omega)) ?_
    rw [← map_at hms] at F2
    w_strict (k_steps; all_goals exact fin _ _ F2)
end
end

/-! part LA -/
section
set_option maxRecDepth 100000
set_option maxHeartbeats 0
theorem picku (vs : List Value) : kms_pick vs none (some 7) = vs.take 7 := by
  have := pick_upto vs id 7
  simpa using this
theorem ints_get : ∀ {vs : List Value} {ns : List Int}, IntsAre vs ns → ∀ (i : Nat) (v : Value), vs[i]? = some v → ∃ (n : Int) (t : Tok), v = Value.int n t
  | _, _, .nil, i, v, h => by simp at h
  | _, _, .cons n t r, 0, v, h => ⟨n, t, (Option.some.inj h).symm⟩
  | _, _, .cons n t r, i + 1, v, h => ints_get r i v h
theorem numv (n : Int) : 0 ≤ n.fmod (10 ^ Int.toNat 6) ∧ n.fmod (10 ^ Int.toNat 6) < 1000000 := by
  have e : ((10 : Int) ^ Int.toNat 6) = 1000000 := by decide
  rw [e]
  exact ⟨Int.fmod_nonneg_of_pos _ (by decide), Int.fmod_lt_of_pos _ (by decide)⟩
noncomputable def NumV (y : Value) : Prop := ∃ (n : Int) (t : Tok), y = Value.int n t ∧ 0 ≤ n ∧ n < 1000000
theorem ints_of : ∀ (nv : List Value), (∀ v ∈ nv, NumV v) → ∃ ns : List Int, IntsAre nv ns ∧ ∀ n ∈ ns, 0 ≤ n ∧ n < 1000000
  | [], _ => ⟨[], .nil, by simp⟩
  | v :: nv, h => by
    obtain ⟨ns, hi, hr⟩ := ints_of nv fun v hv => h v (.tail _ hv)
    obtain ⟨n, t, rfl, h1, h2⟩ := h v (.head _)
    refine ⟨n :: ns, .cons n t hi, fun k hk => ?_⟩
    rcases List.mem_cons.mp hk with rfl | hk
    · exact ⟨h1, h2⟩
    · exact hr k hk
section
variable {w : World} {A : Around} {s : Shared} {p : Program} {loose : List Str} {mean : ExcName → Option Value} {mg mb : Str → Option Value} {Q E : Value → Shared → Prop}
variable {h₀ : Heap} {L f : Addr} {cdv : Value} {m : Str → Option Value} {kd : Nat} {objs news : List (Addr × Obj)} {ok oc ot op : Obj} {l : Addr} {vs : List Value} {ns : List Int}
theorem add_seven {a b : Addr} {ys : List Value} {t1 t2 t3 t4 t5 t6 t7 : Tok} {c : Nat} (F : Fr h₀ L s.heap m) (N : News h₀ L s.heap news) (hm1 : (a, LCg.lst ys) ∈ news) (hm2 : (b, W.listOf #[.int 9 t1, .int 50 t2, .int 13 t3, .int 87 t4, .int 0 t5, .int 9 t6, .int 10 t7] c) ∈ news) (hys : ∀ y ∈ ys, NumV y) (h7 : ys.length ≤ 7)
    (h : ∀ D (zs : List Value) h', Fr h₀ L h' m → News h₀ L h' ((D, W.listOf zs.toArray 0) :: news) → zs.length = ys.length + 7 → (∀ v ∈ zs, NumV v) → Q (.ref D) { s with heap := h' }) : wpAny (model PySem.Challenge.rw_pd0044_01.row.prog w) A (binaryOp .Add (.ref a) (.ref b)) Q E s := by
  refine kmk_add_lit F N ⟨_, (N _ hm1).1, rfl, _, rfl⟩ ⟨_, (N _ hm2).1, rfl, _, rfl⟩ rfl (fun D h' F' N' _ => h D _ h' F' N' (by simp) ?_) (by rw [sizeLine_eq]; simp; omega)
  intro v hv
  simp only [List.mem_append] at hv
  rcases hv with hv | hv
  · exact hys v (by simpa using hv)
  · simp only [List.mem_cons, List.not_mem_nil, or_false] at hv
    rcases hv with rfl | rfl | rfl | rfl | rfl | rfl | rfl <;> exact ⟨_, _, rfl, by decide, by decide⟩
theorem news_keep5 {h : Heap} {x a b c d : Addr × Obj} {l : List (Addr × Obj)} (N : News h₀ L h (x :: a :: b :: c :: d :: l)) : News h₀ L h (x :: l) := fun q hq => by
  rcases List.mem_cons.mp hq with rfl | hq
  · exact N _ (.head _)
  · exact N q (.tail _ (.tail _ (.tail _ (.tail _ (.tail _ hq)))))
noncomputable abbrev ledC (L : Addr) (op ot oc ok : Obj) : List (Addr × Obj) := [(L + 1 + 1 + 1 + 1, op), (L + 1 + 1 + 1, ot), (L + 1 + 1, oc), (L + 1, ok)]
theorem st0 (X : ((hd.heap_39 w.params)).In h₀) (T : Top p loose mean mg mb h₀) (hh : A.handled = none) (hdep : A.depth + 40 < recursionLimit) (huni : A.units + 300 < cLine)
    (hms : m (Str.ofString "script") = some (.ref l)) (hl : h₀.IsList l vs.toArray) (hI : IntsAre vs ns) (h63 : vs.length ≤ 63)
    (F : Fr h₀ L s.heap m) (N : News h₀ L s.heap (ledC L op ot oc ok))
    {Qf : Flow → Shared → Prop}
    (next : ∀ (h' : Heap) (tk' : Nat) (aN c : Nat) (nv : List Value) (ns' : List Int), Fr h₀ L h' (fun y => if y = Str.ofString "numbers" then some (.ref aN) else m y) → News h₀ L h' ((aN, W.listOf nv.toArray c) :: ledC L op ot oc ok) → nv.length = 7 → IntsAre nv ns' → (∀ n ∈ ns', 0 ≤ n ∧ n < 1000000) →
      wpAny (model PySem.Challenge.rw_pd0044_01.row.prog w) A (execs ((lawB w).1.drop 1) (lawE w L f cdv)) Qf E { s with heap := h', toks := tk' }) :
    wpAny (model PySem.Challenge.rw_pd0044_01.row.prog w) A (execs ((lawB w).1.drop 0) (lawE w L f cdv)) Qf E s := by
  k_with_none
  (k_with "ne" => (refine neN ?_; (try dsimp only); (first | with_reducible assumption | with_reducible exact Ne.symm (by assumption) | (refine' ne_lt ?z1 ?z2; (case z1 => with_reducible assumption); (case z2 => k_mem)) | (refine' ne_lt' ?z3 ?z4; (case z3 => with_reducible assumption); (case z4 => k_mem)) | (refine' ne_o ?z5 ?z6; (case z5 => with_reducible assumption); (case z6 => k_mem)) | (refine' ne_o' ?z7 ?z8; (case z7 => with_reducible assumption); (case z8 => k_mem)) | omega)))
  (k_with "all" => (first | with_reducible assumption | with_reducible exact all_lt (by assumption) | exact List.forall_mem_nil _ | (refine' List.forall_mem_cons.mpr ⟨?za, ?zb⟩; (case za => k_ne); (case zb => k_all))))
  (k_with "CompRest" => (with_unfolding_all first | (refine LCg.CompRest.succ ?_; intro v' I' oI' C' oC' D' m' h' tk' E' hv' hC' hx' F' N' off' ne'; (first | lcg_open hv' | (obtain ⟨t9', hv9'⟩ := hv'; subst hv9')); (have offI' := off3_I off'); (have offC' := off3_C off'); (have offD' := off3_D off'); clear off') | refine LCg.CompRest.zero ?_))
  (k_with "FinE" => ((unfold LCg.FinE); intro D' h' tk' F' N' o1'; (replace o1' := off1_D o1'); (try simp only [List.nil_append, List.cons_append] at N'); (try dsimp only)))
  (k_with "FinA" => ((unfold LCg.FinA); intro D' h' tk' F' N' o1'; (replace o1' := off1_D o1'); (try simp only [List.nil_append, List.cons_append] at N'); (try dsimp only)))
  (k_with "CompSrc" => refine Stop.mk ?_)
  (k_with "eval ListComp" => refine Stop.mk ?_)
  (k_with "execs cons" => refine Stop.mk ?_)
  (k_with "binaryOp Add ref ref" => refine Stop.mk ?_)
  (k_with "subscriptTail Name Slice ref ref" => (k_here; k_dflt (refine' kms_slice_lit ?w48F ?w48N ?w48l ?w48p ?w48q ?w48e ?_ ?w48s ?w48t ?w48z; (case w48F => k_asm); (case w48N => k_asm); (case w48l => first | exact stays_list (Fr.keep (by k_asm)) (by assumption) | exact ⟨_, (News.at (by k_asm) (by k_mem)), rfl, _, rfl⟩); (case w48p => kmk_part); (case w48q => kmk_part); (case w48e => exact picku _); (case w48s => with_unfolding_all rfl); (case w48t => kmk_pure); (case w48z => assumption)); intro D' h' F' N' l1; (try k_sweep)))
  (k_with "subscriptTail BinOp Slice ref ref" => (k_here; k_dflt (refine' kms_slice_lit ?w49F ?w49N ?w49l ?w49p ?w49q ?w49e ?_ ?w49s ?w49t ?w49z; (case w49F => k_asm); (case w49N => k_asm); (case w49l => exact ⟨_, (News.at (by k_asm) (by k_mem)), rfl, _, rfl⟩); (case w49p => kmk_part); (case w49q => kmk_part); (case w49e => exact picku _); (case w49s => with_unfolding_all rfl); (case w49t => kmk_pure); (case w49z => assumption)); intro D' h' F' N' l1; (try k_sweep)))
  ((have hrow : (hd.heap_39, PySem.Challenge.rw_pd0044_01) = (hd.heap_39, PySem.Challenge.rw_pd0044_01) := rfl); revert hrow; k_fill; intro hrow; clear hrow; (obtain ⟨ahd, adp, afr, agd, aun⟩ := A; (have hh9 : ahd = none := hh); subst hh9; clear hh; (try dsimp only at hdep huni)))
  have hob1 : ∃ m0 : Str → Option Value, m = fun y => if y = Str.ofString "script" then some (.ref l) else m0 y := ⟨m, map_at hms⟩
  obtain ⟨m0, rfl⟩ := hob1
  clear hms
  unfold lawE lawB mkPack at next ⊢
  dsimp only [List.drop] at next ⊢
  have hz1 : vs.toArray.size ≤ sizeLine := by rw [sizeLine_eq, List.size_toArray]; omega
  have hz2 : vs.length ≤ sizeLine := by rw [sizeLine_eq]; omega
  refine wpAny_execs_cons ?_
  w_strict (k_steps; unfold Stop)
  refine LCg.ListComp_U F (by with_unfolding_all rfl) (by decide) (by rfl) (by decide) (by rfl) ?_
  w_strict (k_steps; unfold Stop)
  rename News _ _ _ _ => N1
  rename Fr _ _ _ _ => F1
  simp only [List.toList_toArray] at N1
  have hlt : (vs.take 7).length ≤ 7 := by rw [List.length_take]; omega
  refine LCg.CompSrc.ledger rfl F1 N1 (by k_mem) (by rw [sizeLine_eq, List.size_toArray]; omega) ?_
  intro g
  refine compU (fun i y => NumV y) (Or.inr ⟨_, by k_mem, rfl, _, rfl⟩) ?_ ?_
  · intro i v ys I oI C oC D m₂ h tk E' hi hP hC hmx F2 N2 off ne
    have hP' : (vs.take 7)[i]? = some v := by simpa using hP
    have hob2 := ints_get hI i v (by rw [List.getElem?_take] at hP'; split at hP'; exact hP'; cases hP')
    obtain ⟨n, t, rfl⟩ := hob2
    clear next N1 F1
    w_strict (k_steps; all_goals exact ⟨⟨_, _, rfl, numv n⟩, _, _, rfl, by assumption, by assumption⟩)
  intro ys hlen hG D h tk F2 N2 off2
  simp only [LCg.Off1] at off2
  clear N1 F1
  w_strict (k_steps; unfold Stop)
  rename News _ _ _ _ => N3
  rename Fr _ _ _ _ => F3
  have hyl : ys.length ≤ 7 := by rw [hlen, List.size_toArray]; exact hlt
  refine add_seven F3 N3 (ys := ys) (by k_mem) (by k_mem) (fun y hy => by obtain ⟨j, hj, e⟩ := List.getElem_of_mem hy; exact hG j y (by rw [← e]; simp [hj])) hyl ?_
  intro D4 zs h4 F4 N4 hzl hzn
  clear F3 N3
  have hz4 : zs.toArray.size ≤ sizeLine := by rw [sizeLine_eq, List.size_toArray]; omega
  w_strict (k_steps; unfold Stop)
  rename News _ _ _ _ => NN
  simp only [List.toList_toArray] at NN
  have hob3 := ints_of (zs.take 7) fun v hv => hzn v (List.mem_of_mem_take hv)
  obtain ⟨ns', hi', hr'⟩ := hob3
  exact next _ _ _ _ _ _ (by assumption) (news_keep5 NN) (by rw [List.length_take]; omega) hi' hr'
end
end

/-! part LB -/
section
set_option maxRecDepth 100000
set_option maxHeartbeats 0
open LCg
section
variable {prog : Program} {w : World} {A : Around} {s : Shared} {h₀ : Heap} {L : Addr} {m : Str → Option Value} {env : Env}
/-- a turn that makes objects of its own -/
noncomputable def MakeQ (s : Shared) (h₀ : Heap) (L : Addr) (m : Str → Option Value) (all : List (Addr × Obj)) (h : Heap) (G : Value → List (Addr × Obj) → Prop) (y : Value) (s' : Shared) : Prop :=
  ∃ h' tk' objs, s' = { s with heap := h', toks := tk' } ∧ Fr h₀ L h' m ∧ News h₀ L h' all ∧ (∀ p ∈ objs, h'.get? p.1 = some p.2 ∧ h.get? p.1 = none) ∧ G y objs
theorem compM {elt : Expr} {x : Str} {scope : Scope} {cl : List (Str × Addr)} {S : List (Addr × Obj) → Prop} {P : Nat → Value → Prop} {Fin : List Value → List (Addr × Obj) → Prop} {n : Nat} {base : List (Addr × Obj)}
    (G : Nat → Value → Heap → Prop) (hS : ∀ objs, S (base ++ objs))
    (hstep : ∀ (i : Nat) (v : Value) (ys : List Value) (I : Addr) (oI : Obj) (C : Addr) (oC : Obj) (D : Addr) (m₂ : Str → Option Value) (h : Heap) (tk : Nat) (objs : List (Addr × Obj)) (E' : Value → Shared → Prop), i < n → P i v → NsObj oC m₂ → m₂ x = some v → Fr h₀ L h m → News h₀ L h ((I, oI) :: (C, oC) :: (D, lst ys) :: (base ++ objs)) →
      wpAny (model prog w) A (eval elt (compEnvC scope cl C env)) (MakeQ s h₀ L m ((I, oI) :: (C, oC) :: (D, lst ys) :: (base ++ objs)) h (fun y objs' => ∀ hh : Heap, (∀ p ∈ objs', hh.get? p.1 = some p.2) → G i y hh)) E' { s with heap := h, toks := tk })
    (hfin : ∀ (ys : List Value) (objs : List (Addr × Obj)), ys.length = n → (∀ p ∈ objs, ∀ b ∈ base, p.1 ≠ b.1) → (∀ i y, ys[i]? = some y → ∀ hh : Heap, (∀ p ∈ objs, hh.get? p.1 = some p.2) → G i y hh) → Fin ys (base ++ objs)) :
    CompRest prog w A h₀ L m env elt x scope cl s S P Fin n 0 [] base := by
  have gen : ∀ k i ys objs, i + k = n → ys.length = i → (∀ p ∈ objs, ∀ b ∈ base, p.1 ≠ b.1) → (∀ j y, ys[j]? = some y → ∀ hh : Heap, (∀ p ∈ objs, hh.get? p.1 = some p.2) → G j y hh) → CompRest prog w A h₀ L m env elt x scope cl s S P Fin k i ys (base ++ objs) := by
    intro k
    induction k with
    | zero =>
      intro i ys objs hi hl hb hg
      exact CompRest.zero (hfin ys objs (by omega) hb hg)
    | succ k ih =>
      intro i ys objs hi hl hb hg
      refine CompRest.succ fun v I oI C oC D m₂ h tk E' hP hC hx F N off ne => ?_
      refine wpAny_mono (hstep i v ys I oI C oC D m₂ h tk objs E' (by omega) hP hC hx F N) (fun y s' h' => ?_) fun _ _ x => x
      obtain ⟨h', tk', objs', rfl, F', N', ho, hG⟩ := h'
      have nn : ∀ {a o}, h.get? a = some o → ∀ p ∈ objs', p.1 ≠ a := fun e p hp q => by have := (ho p hp).2; rw [q, e] at this; cases this
      have hL : ∀ p ∈ objs', p.1 ≠ L := by obtain ⟨o, _, _, e, _⟩ := F.ns; exact nn e
      have h0 : ∀ p ∈ objs', h₀.get? p.1 = none := fun p hp => by
        cases e : h₀.get? p.1 with
        | none => rfl
        | some o => have := F.keep _ _ e; rw [(ho p hp).2] at this; cases this
      have hI := nn (N _ (.head _)).1
      have hCC := nn (N _ (.tail _ (.head _))).1
      have hD := nn (N _ (.tail _ (.tail _ (.head _)))).1
      have offm := off.mem
      refine ⟨h', tk', base ++ (objs ++ objs'), rfl, F', fun p hp => ?_, Off3.of fun p hp => ?_, hS _, ih (i + 1) (ys ++ [y]) (objs ++ objs') (by omega) (by simp [hl]) (fun p hp b hb' => ?_) ?_⟩
      · rcases List.mem_cons.mp hp with rfl | hp
        · exact N' _ (.head _)
        rcases List.mem_cons.mp hp with rfl | hp
        · exact N' _ (.tail _ (.head _))
        rcases List.mem_cons.mp hp with rfl | hp
        · exact N' _ (.tail _ (.tail _ (.head _)))
        rw [← List.append_assoc] at hp
        rcases List.mem_append.mp hp with hp | hp
        · exact N' p (.tail _ (.tail _ (.tail _ hp)))
        · exact ⟨(ho p hp).1, hL p hp, h0 p hp⟩
      · rw [← List.append_assoc] at hp
        rcases List.mem_append.mp hp with hp | hp
        · exact offm p hp
        · exact ⟨hI p hp, hCC p hp, hD p hp⟩
      · rcases List.mem_append.mp hp with hp | hp
        · exact hb p hp b hb'
        · exact nn (N b (.tail _ (.tail _ (.tail _ (List.mem_append_left _ hb'))))).1 p hp
      · intro j z hz hh hq
        rcases Nat.lt_trichotomy j ys.length with q | q | q
        · rw [List.getElem?_append_left q] at hz
          exact hg j z hz hh fun p hp => hq p (List.mem_append_left _ hp)
        · subst q
          simp at hz; subst hz
          rw [hl]
          exact hG hh fun p hp => hq p (List.mem_append_right _ hp)
        · rw [List.getElem?_eq_none (by simp; omega)] at hz; cases hz
  have := gen n 0 [] [] (by omega) rfl (fun p hp => by cases hp) (fun j y h => by simp at h)
  rwa [List.append_nil] at this
theorem news_new {h h' : Heap} {a : Addr} {o : Obj} {news : List (Addr × Obj)} (F : Fr h₀ L h m) (N : News h₀ L h' news) (ho : h'.get? a = some o) (hn : h.get? a = none) : News h₀ L h' ((a, o) :: news) := fun p hp => by
  rcases List.mem_cons.mp hp with rfl | hp
  · refine ⟨ho, fun q => ?_, ?_⟩
    · obtain ⟨oL, _, _, e, _⟩ := F.ns
      have q' : a = L := q
      rw [q', e] at hn; cases hn
    · cases e : h₀.get? a with
      | none => rfl
      | some o' => have := F.keep _ _ e; rw [hn] at this; cases this
  · exact N p hp
theorem news_ne {h : Heap} {a : Addr} {news : List (Addr × Obj)} {b : Addr × Obj} (N : News h₀ L h news) (hb : b ∈ news) (hn : h.get? a = none) : a ≠ b.1 := fun q => by
  have := (N b hb).1
  rw [← q, hn] at this; cases this
end
end

/-! part LC -/
section
set_option maxRecDepth 100000
set_option maxHeartbeats 0
theorem ne_of_obj {h₀ h : Heap} {L a b : Addr} {o1 o2 : Obj} {news : List (Addr × Obj)} (N : News h₀ L h news) (h1 : (a, o1) ∈ news) (h2 : (b, o2) ∈ news) (hne : o1.data ≠ o2.data) : a ≠ b := fun e => by
  subst e
  have e1 := (N _ h1).1
  have e2 := (N _ h2).1
  dsimp only at e1 e2
  rw [e1] at e2
  injection e2 with e2
  exact hne (by rw [e2])
theorem list_cell {vs : Array Value} {c : Nat} {o : Obj} {x : Option Value} (d : o.data = .cell x) : (W.listOf vs c).data ≠ o.data := fun e => by rw [d] at e; cases e
theorem lst_cell {vs : List Value} {o : Obj} {x : Option Value} (d : o.data = .cell x) : (LCg.lst vs).data ≠ o.data := fun e => by rw [d] at e; cases e
theorem kind3 (n : Int) : ∃ kd : Nat, n.fmod 3 = (kd : Int) ∧ kd < 3 := by
  have h1 := Int.fmod_nonneg_of_pos n (show (0 : Int) < 3 by decide)
  have h2 := Int.fmod_lt_of_pos n (show (0 : Int) < 3 by decide)
  exact ⟨(n.fmod 3).toNat, by omega, by omega⟩
theorem news_third {h₀ h : Heap} {L : Addr} {x y z : Addr × Obj} {l : List (Addr × Obj)} (N : News h₀ L h (x :: y :: z :: l)) : News h₀ L h (x :: y :: l) := fun q hq => by
  rcases List.mem_cons.mp hq with rfl | hq
  · exact N _ (.head _)
  rcases List.mem_cons.mp hq with rfl | hq
  · exact N _ (.tail _ (.head _))
  · exact N q (.tail _ (.tail _ (.tail _ hq)))
section
variable {w : World} {A : Around} {s : Shared} {p : Program} {loose : List Str} {mean : ExcName → Option Value} {mg mb : Str → Option Value} {Q E : Value → Shared → Prop}
variable {h₀ : Heap} {L f : Addr} {cdv : Value} {m : Str → Option Value} {kd : Nat} {objs news : List (Addr × Obj)} {ok oc ot op : Obj} {aN aK aC aT c cK kC : Nat} {nv kv : List Value} {ns : List Int} {ps cp : List (Value × Nat)} {oT : Obj}
theorem st1 (X : ((hd.heap_39 w.params)).In h₀) (T : Top p loose mean mg mb h₀) (hh : A.handled = none) (hdep : A.depth + 40 < recursionLimit) (huni : A.units + 300 < cLine)
    (hms : m (Str.ofString "numbers") = some (.ref aN)) (hI : IntsAre nv ns) (dk : ok.data = .cell none)
    (F : Fr h₀ L s.heap m) (N : News h₀ L s.heap ((aN, W.listOf nv.toArray c) :: ledC L op ot oc ok))
    {Qf : Flow → Shared → Prop}
    (next : ∀ (h' : Heap) (tk' : Nat) (ok' : Obj) (kd : Nat) (t : Tok), Fr h₀ L h' m → News h₀ L h' ((aN, W.listOf nv.toArray c) :: ledC L op ot oc ok') → ok'.data = .cell (some (.int (kd : Nat) t)) → kd < 3 →
      wpAny (model PySem.Challenge.rw_pd0044_01.row.prog w) A (execs ((lawB w).1.drop 2) (lawE w L f cdv)) Qf E { s with heap := h', toks := tk' }) :
    wpAny (model PySem.Challenge.rw_pd0044_01.row.prog w) A (execs ((lawB w).1.drop 1) (lawE w L f cdv)) Qf E s := by
  k_with_none
  (k_with "ne" => (refine neN ?_; (try dsimp only); (first | with_reducible assumption | with_reducible exact Ne.symm (by assumption) | (refine' ne_lt ?z1 ?z2; (case z1 => with_reducible assumption); (case z2 => k_mem)) | (refine' ne_lt' ?z3 ?z4; (case z3 => with_reducible assumption); (case z4 => k_mem)) | (refine' ne_o ?z5 ?z6; (case z5 => with_reducible assumption); (case z6 => k_mem)) | (refine' ne_o' ?z7 ?z8; (case z7 => with_reducible assumption); (case z8 => k_mem)) | omega)))
  (k_with "all" => (first | with_reducible assumption | with_reducible exact all_lt (by assumption) | exact List.forall_mem_nil _ | (refine' List.forall_mem_cons.mpr ⟨?za, ?zb⟩; (case za => k_ne); (case zb => k_all))))
  (k_with "CompRest" => (with_unfolding_all first | (refine LCg.CompRest.succ ?_; intro v' I' oI' C' oC' D' m' h' tk' E' hv' hC' hx' F' N' off' ne'; (first | lcg_open hv' | (obtain ⟨t9', hv9'⟩ := hv'; subst hv9')); (have offI' := off3_I off'); (have offC' := off3_C off'); (have offD' := off3_D off'); clear off') | refine LCg.CompRest.zero ?_))
  (k_with "FinE" => ((unfold LCg.FinE); intro D' h' tk' F' N' o1'; (replace o1' := off1_D o1'); (try simp only [List.nil_append, List.cons_append] at N'); (try dsimp only)))
  (k_with "FinA" => ((unfold LCg.FinA); intro D' h' tk' F' N' o1'; (replace o1' := off1_D o1'); (try simp only [List.nil_append, List.cons_append] at N'); (try dsimp only)))
  (k_with "CompSrc" => refine Stop.mk ?_)
  (k_with "eval ListComp" => refine Stop.mk ?_)
  (k_with "exec Assign cons ListComp" => refine Stop.mk ?_)
  (k_with "execs cons" => refine Stop.mk ?_)
  (k_with "call builtin:sum" => refine Stop.mk ?_)
  (k_with "call ref" => refine Stop.mk ?_)
  ((have hrow : (hd.heap_39, PySem.Challenge.rw_pd0044_01) = (hd.heap_39, PySem.Challenge.rw_pd0044_01) := rfl); revert hrow; k_fill; intro hrow; clear hrow; (obtain ⟨ahd, adp, afr, agd, aun⟩ := A; (have hh9 : ahd = none := hh); subst hh9; clear hh; (try dsimp only at hdep huni)))
  have hob1 : ∃ m0 : Str → Option Value, m = fun y => if y = Str.ofString "numbers" then some (.ref aN) else m0 y := ⟨m, map_at hms⟩
  obtain ⟨m0, rfl⟩ := hob1
  clear hms
  unfold lawE lawB mkPack at next ⊢
  dsimp only [List.drop] at next ⊢
  have n1 : aN ≠ L + 1 := ne_of_obj N (.head _) (by k_mem : (L + 1, ok) ∈ _) (list_cell dk)
  refine wpAny_execs_cons ?_
  w_strict (k_steps; unfold Stop)
  refine sumK rfl F N ⟨_, (N _ (.head _)).1, rfl, _, rfl⟩ hI fun h' tk t' F' N' => ?_
  clear F N
  have hob2 := kind3 ns.sum
  obtain ⟨kd, hk, hk3⟩ := hob2
  w_strict (k_steps; unfold Stop)
  rename _ = Data.cell (some _) => dd
  rw [hk] at dd
  exact next _ _ _ kd _ (by assumption) (by assumption) dd hk3
theorem ints_get2 : ∀ {vs : List Value} {ns : List Int}, IntsAre vs ns → ∀ (i : Nat) (v : Value), vs[i]? = some v → ∃ (n : Int) (t : Tok), ns[i]? = some n ∧ v = Value.int n t
  | _, _, .nil, i, v, h => by simp at h
  | _, _, .cons n t r, 0, v, h => ⟨n, t, rfl, (Option.some.inj h).symm⟩
  | _, _, .cons n t r, i + 1, v, h => ints_get2 r i v h
noncomputable abbrev ledO (L : Addr) (op ot oc ok : Obj) (objs : List (Addr × Obj)) : List (Addr × Obj) := (L + 1 + 1 + 1 + 1, op) :: (L + 1 + 1 + 1, ot) :: (L + 1 + 1, oc) :: (L + 1, ok) :: objs
theorem st2 {t : Tok} (X : ((hd.heap_39 w.params)).In h₀) (T : Top p loose mean mg mb h₀) (hh : A.handled = none) (hdep : A.depth + 40 < recursionLimit) (huni : A.units + 300 < cLine)
    (hms : m (Str.ofString "numbers") = some (.ref aN)) (hI : IntsAre nv ns) (hr : ∀ n ∈ ns, 0 ≤ n ∧ n < 1000000) (hl7 : nv.length = 7) (dk : ok.data = .cell (some (.int (kd : Nat) t))) (hkd : kd < 3)
    (F : Fr h₀ L s.heap m) (N : News h₀ L s.heap ((aN, W.listOf nv.toArray c) :: ledC L op ot oc ok))
    {Qf : Flow → Shared → Prop}
    (next : ∀ (h' : Heap) (tk' : Nat) (aK : Addr) (ps : List (Value × Nat)) (objs : List (Addr × Obj)), Fr h₀ L h' (fun y => if y = Str.ofString "keys" then some (.ref aK) else m y) → News h₀ L h' ((aK, LCg.lst (ps.map (·.1))) :: ledO L op ot oc ok objs) →
      (∀ p ∈ objs, ∀ b ∈ ledC L op ot oc ok, p.1 ≠ b.1) → ps.length = 7 → (∀ hh : Heap, (∀ p ∈ objs, hh.get? p.1 = some p.2) → ∀ x ∈ ps, KeyAt kd hh x.1 x.2) →
      wpAny (model PySem.Challenge.rw_pd0044_01.row.prog w) A (execs ((lawB w).1.drop 3) (lawE w L f cdv)) Qf E { s with heap := h', toks := tk' }) :
    wpAny (model PySem.Challenge.rw_pd0044_01.row.prog w) A (execs ((lawB w).1.drop 2) (lawE w L f cdv)) Qf E s := by
  k_with_none
  (k_with "ne" => (refine neN ?_; (try dsimp only); (first | with_reducible assumption | with_reducible exact Ne.symm (by assumption) | (refine' ne_lt ?z1 ?z2; (case z1 => with_reducible assumption); (case z2 => k_mem)) | (refine' ne_lt' ?z3 ?z4; (case z3 => with_reducible assumption); (case z4 => k_mem)) | (refine' ne_o ?z5 ?z6; (case z5 => with_reducible assumption); (case z6 => k_mem)) | (refine' ne_o' ?z7 ?z8; (case z7 => with_reducible assumption); (case z8 => k_mem)) | omega)))
  (k_with "all" => (first | with_reducible assumption | with_reducible exact all_lt (by assumption) | exact List.forall_mem_nil _ | (refine' List.forall_mem_cons.mpr ⟨?za, ?zb⟩; (case za => k_ne); (case zb => k_all))))
  (k_with "CompRest" => (with_unfolding_all first | (refine LCg.CompRest.succ ?_; intro v' I' oI' C' oC' D' m' h' tk' E' hv' hC' hx' F' N' off' ne'; (first | lcg_open hv' | (obtain ⟨t9', hv9'⟩ := hv'; subst hv9')); (have offI' := off3_I off'); (have offC' := off3_C off'); (have offD' := off3_D off'); clear off') | refine LCg.CompRest.zero ?_))
  (k_with "FinE" => ((unfold LCg.FinE); intro D' h' tk' F' N' o1'; (replace o1' := off1_D o1'); (try simp only [List.nil_append, List.cons_append] at N'); (try dsimp only)))
  (k_with "FinA" => ((unfold LCg.FinA); intro D' h' tk' F' N' o1'; (replace o1' := off1_D o1'); (try simp only [List.nil_append, List.cons_append] at N'); (try dsimp only)))
  (k_with "CompSrc" => refine Stop.mk ?_)
  (k_with "eval ListComp" => refine Stop.mk ?_)
  (k_with "exec Assign cons ListComp" => refine Stop.mk ?_)
  (k_with "execs cons" => refine Stop.mk ?_)
  (k_with "call builtin:sum" => refine Stop.mk ?_)
  (k_with "call ref" => refine Stop.mk ?_)
  ((have hrow : (hd.heap_39, PySem.Challenge.rw_pd0044_01) = (hd.heap_39, PySem.Challenge.rw_pd0044_01) := rfl); revert hrow; k_fill; intro hrow; clear hrow; (obtain ⟨ahd, adp, afr, agd, aun⟩ := A; (have hh9 : ahd = none := hh); subst hh9; clear hh; (try dsimp only at hdep huni)))
  have hob3 : ∃ m0 : Str → Option Value, m = fun y => if y = Str.ofString "numbers" then some (.ref aN) else m0 y := ⟨m, map_at hms⟩
  obtain ⟨m0, rfl⟩ := hob3
  clear hms
  unfold lawE lawB mkPack at next ⊢
  dsimp only [List.drop] at next ⊢
  refine wpAny_execs_cons ?_
  w_strict (k_steps; unfold Stop)
  refine LCg.Assign_ListComp_U (F₀ := F) (by rfl) (by with_unfolding_all rfl) (by with_unfolding_all rfl) (by decide) (by rfl) (by decide) (by rfl) (by rfl) (by rfl) ?_
  w_strict (k_steps; unfold Stop)
  refine LCg.CompSrc.ledger rfl F N (by k_mem) (by rw [sizeLine_eq, List.size_toArray, hl7]; decide) ?_
  intro g
  refine compM (fun i y hh => ∃ n, ns[i]? = some n ∧ KeyAt kd hh y (rk (figsOf n))) (fun objs => Or.inr ⟨_, List.mem_append_left _ (.head _), rfl, _, rfl⟩) ?_ ?_
  · intro i v ys I oI C oC D m₂ h tk objs E' hi hP hC hx F2 N2
    have hob4 := ints_get2 hI i v (by simpa using hP)
    obtain ⟨n, tn, hn, rfl⟩ := hob4
    have hn2 := hr n (List.mem_of_getElem? hn)
    dsimp only [ledC, List.cons_append, List.nil_append] at N2
    clear next F N
    w_strict (k_steps; unfold Stop)
    refine key_c (kd := kd) (X.keeps F2.keep) (T.keeps F2.keep) rfl (by ((try simp only [depth_deeper, units_deeper, Around.in1_units, Around.in1_depth]); (try dsimp only); omega)) (by ((try simp only [depth_deeper, units_deeper, Around.in1_units, Around.in1_depth]); (try dsimp only); omega)) hn2.1 hn2.2 hkd fun v' h' tk' objs' kp ho hK => ?_
    exact ⟨h', tk', objs', rfl, F2.keeps kp, News.grown N2 kp, ho, fun hh hq => ⟨n, hn, hK hh hq⟩⟩
  · intro ys objs hlen hb hG
    intro D h tk F2 N2 off2
    have hyl : ys.length = 7 := by rw [hlen, List.size_toArray, hl7]
    have hnl : ns.length = 7 := by rw [← hl7]; exact (IntsAre.length hI).symm
    have hzl : ys.length ≤ (ns.map fun n => rk (figsOf n)).length := by rw [List.length_map]; omega
    refine next _ _ D (ys.zip (ns.map fun n => rk (figsOf n))) objs F2 ?_ (fun q hq b hb' => hb q hq b (.tail _ hb')) (by simp; omega) ?_
    · rw [show (ys.zip (ns.map fun n => rk (figsOf n))).map (·.1) = ys from List.map_fst_zip hzl]
      intro q hq
      rcases List.mem_cons.mp hq with rfl | hq
      · exact N2 _ (.head _)
      · exact N2 q (.tail _ (.tail _ hq))
    · intro hh hq x hx
      have hob5 := List.getElem_of_mem hx
      obtain ⟨i, hi, rfl⟩ := hob5
      have hi1 : i < ys.length := by simp at hi; omega
      have hi2 : i < ns.length := by simp at hi; omega
      have hob6 := hG i ys[i] (by simp [hi1]) hh hq
      obtain ⟨n, hn, hk⟩ := hob6
      have : n = ns[i] := by simpa [hi2] using hn.symm
      subst this
      simpa using hk
theorem st3 (X : ((hd.heap_39 w.params)).In h₀) (T : Top p loose mean mg mb h₀) (hh : A.handled = none) (hdep : A.depth + 40 < recursionLimit) (huni : A.units + 300 < cLine)
    (hms : m (Str.ofString "keys") = some (.ref aK)) (dc : oc.data = .cell none) (n3 : ∀ p ∈ objs, p.1 ≠ L + 1 + 1) (hl7 : ps.length ≤ 7) (hK : ∀ hh : Heap, (∀ p ∈ objs, hh.get? p.1 = some p.2) → ∀ x ∈ ps, KeyAt kd hh x.1 x.2)
    (F : Fr h₀ L s.heap m) (N : News h₀ L s.heap ((aK, LCg.lst (ps.map (·.1))) :: ledO L op ot oc ok objs))
    {Qf : Flow → Shared → Prop}
    (next : ∀ (h' : Heap) (tk' : Nat) (aC kC : Nat) (oc' : Obj), Fr h₀ L h' m → News h₀ L h' ((aC, W.listOf ((comeP ps).map (·.1)).toArray kC) :: (aK, LCg.lst (ps.map (·.1))) :: ledO L op ot oc' ok objs) → oc'.data = .cell (some (.ref aC)) →
      wpAny (model PySem.Challenge.rw_pd0044_01.row.prog w) A (execs ((lawB w).1.drop 4) (lawE w L f cdv)) Qf E { s with heap := h', toks := tk' }) :
    wpAny (model PySem.Challenge.rw_pd0044_01.row.prog w) A (execs ((lawB w).1.drop 3) (lawE w L f cdv)) Qf E s := by
  k_with_none
  (k_with "ne" => (refine neN ?_; (try dsimp only); (first | with_reducible assumption | with_reducible exact Ne.symm (by assumption) | (refine' ne_lt ?z1 ?z2; (case z1 => with_reducible assumption); (case z2 => k_mem)) | (refine' ne_lt' ?z3 ?z4; (case z3 => with_reducible assumption); (case z4 => k_mem)) | (refine' ne_o ?z5 ?z6; (case z5 => with_reducible assumption); (case z6 => k_mem)) | (refine' ne_o' ?z7 ?z8; (case z7 => with_reducible assumption); (case z8 => k_mem)) | omega)))
  (k_with "all" => (first | with_reducible assumption | with_reducible exact all_lt (by assumption) | exact List.forall_mem_nil _ | (refine' List.forall_mem_cons.mpr ⟨?za, ?zb⟩; (case za => k_ne); (case zb => k_all))))
  (k_with "CompRest" => (with_unfolding_all first | (refine LCg.CompRest.succ ?_; intro v' I' oI' C' oC' D' m' h' tk' E' hv' hC' hx' F' N' off' ne'; (first | lcg_open hv' | (obtain ⟨t9', hv9'⟩ := hv'; subst hv9')); (have offI' := off3_I off'); (have offC' := off3_C off'); (have offD' := off3_D off'); clear off') | refine LCg.CompRest.zero ?_))
  (k_with "FinE" => ((unfold LCg.FinE); intro D' h' tk' F' N' o1'; (replace o1' := off1_D o1'); (try simp only [List.nil_append, List.cons_append] at N'); (try dsimp only)))
  (k_with "FinA" => ((unfold LCg.FinA); intro D' h' tk' F' N' o1'; (replace o1' := off1_D o1'); (try simp only [List.nil_append, List.cons_append] at N'); (try dsimp only)))
  (k_with "CompSrc" => refine Stop.mk ?_)
  (k_with "eval ListComp" => refine Stop.mk ?_)
  (k_with "exec Assign cons ListComp" => refine Stop.mk ?_)
  (k_with "execs cons" => refine Stop.mk ?_)
  (k_with "call builtin:sum" => refine Stop.mk ?_)
  (k_with "call ref" => refine Stop.mk ?_)
  ((have hrow : (hd.heap_39, PySem.Challenge.rw_pd0044_01) = (hd.heap_39, PySem.Challenge.rw_pd0044_01) := rfl); revert hrow; k_fill; intro hrow; clear hrow; (obtain ⟨ahd, adp, afr, agd, aun⟩ := A; (have hh9 : ahd = none := hh); subst hh9; clear hh; (try dsimp only at hdep huni)))
  have hob7 : ∃ m0 : Str → Option Value, m = fun y => if y = Str.ofString "keys" then some (.ref aK) else m0 y := ⟨m, map_at hms⟩
  obtain ⟨m0, rfl⟩ := hob7
  clear hms
  unfold lawE lawB mkPack at next ⊢
  dsimp only [List.drop] at next ⊢
  have n1 : aK ≠ L + 1 + 1 := ne_of_obj N (.head _) (by k_mem : (L + 1 + 1, oc) ∈ _) (lst_cell dc)
  have hkk : ∀ x ∈ ps, KeyAt kd s.heap x.1 x.2 := hK _ fun q hq => (N q (by repeat (first | exact hq | refine List.Mem.tail _ ?_))).1
  refine wpAny_execs_cons ?_
  w_strict (k_steps; unfold Stop)
  refine come_c (kd := kd) (ps := ps) (X.keeps F.keep) (T.keeps F.keep) rfl (by ((try simp only [depth_deeper, units_deeper, Around.in1_units, Around.in1_depth]); (try dsimp only); omega)) (by ((try simp only [depth_deeper, units_deeper, Around.in1_units, Around.in1_depth]); (try dsimp only); omega)) ⟨_, (N _ (.head _)).1, rfl, _, rfl⟩ hkk hl7 ?_
  rintro aC h' tk' kp hn ⟨kC, hpc⟩
  have F2 := F.keeps kp
  have N2 := news_new F (News.grown N kp) hpc hn
  have n2 : aC ≠ L + 1 + 1 := news_ne N (b := (L + 1 + 1, oc)) (by k_mem) hn
  clear F N
  w_strict (k_steps; unfold Stop)
  exact next _ _ _ _ _ (by assumption) (by assumption) (by assumption)
theorem st4 (X : ((hd.heap_39 w.params)).In h₀) (T : Top p loose mean mg mb h₀) (hh : A.handled = none) (hdep : A.depth + 40 < recursionLimit) (huni : A.units + 300 < cLine)
    (hms : m (Str.ofString "keys") = some (.ref aK)) (dt : ot.data = .cell none) (n3 : ∀ p ∈ objs, p.1 ≠ L + 1 + 1 + 1) (hl7 : ps.length ≤ 7) (hK : ∀ hh : Heap, (∀ p ∈ objs, hh.get? p.1 = some p.2) → ∀ x ∈ ps, KeyAt kd hh x.1 x.2)
    (F : Fr h₀ L s.heap m) (N : News h₀ L s.heap ((aC, W.listOf ((comeP ps).map (·.1)).toArray kC) :: (aK, LCg.lst (ps.map (·.1))) :: ledO L op ot oc ok objs))
    {Qf : Flow → Shared → Prop}
    (next : ∀ (h' : Heap) (tk' : Nat) (aT : Nat) (oT ot' : Obj), Fr h₀ L h' m → News h₀ L h' (ledT L aT aC kC oT (comeP ps) op ot' oc ok objs) → ot'.data = .cell (some (.ref aT)) → oT.IsDictOf (strKind PySem.Challenge.rw_pd0044_01.row.prog w) (kvsOf (comeP ps)) → (aT == sysModules) = false →
      wpAny (model PySem.Challenge.rw_pd0044_01.row.prog w) A (execs ((lawB w).1.drop 5) (lawE w L f cdv)) Qf E { s with heap := h', toks := tk' }) :
    wpAny (model PySem.Challenge.rw_pd0044_01.row.prog w) A (execs ((lawB w).1.drop 4) (lawE w L f cdv)) Qf E s := by
  k_with_none
  (k_with "ne" => (refine neN ?_; (try dsimp only); (first | with_reducible assumption | with_reducible exact Ne.symm (by assumption) | (refine' ne_lt ?z1 ?z2; (case z1 => with_reducible assumption); (case z2 => k_mem)) | (refine' ne_lt' ?z3 ?z4; (case z3 => with_reducible assumption); (case z4 => k_mem)) | (refine' ne_o ?z5 ?z6; (case z5 => with_reducible assumption); (case z6 => k_mem)) | (refine' ne_o' ?z7 ?z8; (case z7 => with_reducible assumption); (case z8 => k_mem)) | omega)))
  (k_with "all" => (first | with_reducible assumption | with_reducible exact all_lt (by assumption) | exact List.forall_mem_nil _ | (refine' List.forall_mem_cons.mpr ⟨?za, ?zb⟩; (case za => k_ne); (case zb => k_all))))
  (k_with "CompRest" => (with_unfolding_all first | (refine LCg.CompRest.succ ?_; intro v' I' oI' C' oC' D' m' h' tk' E' hv' hC' hx' F' N' off' ne'; (first | lcg_open hv' | (obtain ⟨t9', hv9'⟩ := hv'; subst hv9')); (have offI' := off3_I off'); (have offC' := off3_C off'); (have offD' := off3_D off'); clear off') | refine LCg.CompRest.zero ?_))
  (k_with "FinE" => ((unfold LCg.FinE); intro D' h' tk' F' N' o1'; (replace o1' := off1_D o1'); (try simp only [List.nil_append, List.cons_append] at N'); (try dsimp only)))
  (k_with "FinA" => ((unfold LCg.FinA); intro D' h' tk' F' N' o1'; (replace o1' := off1_D o1'); (try simp only [List.nil_append, List.cons_append] at N'); (try dsimp only)))
  (k_with "CompSrc" => refine Stop.mk ?_)
  (k_with "eval ListComp" => refine Stop.mk ?_)
  (k_with "exec Assign cons ListComp" => refine Stop.mk ?_)
  (k_with "execs cons" => refine Stop.mk ?_)
  (k_with "call builtin:sum" => refine Stop.mk ?_)
  (k_with "call ref" => refine Stop.mk ?_)
  ((have hrow : (hd.heap_39, PySem.Challenge.rw_pd0044_01) = (hd.heap_39, PySem.Challenge.rw_pd0044_01) := rfl); revert hrow; k_fill; intro hrow; clear hrow; (obtain ⟨ahd, adp, afr, agd, aun⟩ := A; (have hh9 : ahd = none := hh); subst hh9; clear hh; (try dsimp only at hdep huni)))
  have hob8 : ∃ m0 : Str → Option Value, m = fun y => if y = Str.ofString "keys" then some (.ref aK) else m0 y := ⟨m, map_at hms⟩
  obtain ⟨m0, rfl⟩ := hob8
  clear hms
  unfold lawE lawB mkPack at next ⊢
  dsimp only [List.drop] at next ⊢
  have n1 : aK ≠ L + 1 + 1 + 1 := ne_of_obj N (.tail _ (.head _)) (by k_mem : (L + 1 + 1 + 1, ot) ∈ _) (lst_cell dt)
  have n2 : aC ≠ L + 1 + 1 + 1 := ne_of_obj N (.head _) (by k_mem : (L + 1 + 1 + 1, ot) ∈ _) (list_cell dt)
  have hkk : ∀ x ∈ ps, KeyAt kd s.heap x.1 x.2 := hK _ fun q hq => (N q (by repeat (first | exact hq | refine List.Mem.tail _ ?_))).1
  refine wpAny_execs_cons ?_
  w_strict (k_steps; unfold Stop)
  refine plant_c (kd := kd) (ps := ps) (X.keeps F.keep) (T.keeps F.keep) rfl (by ((try simp only [depth_deeper, units_deeper, Around.in1_units, Around.in1_depth]); (try dsimp only); omega)) (by ((try simp only [depth_deeper, units_deeper, Around.in1_units, Around.in1_depth]); (try dsimp only); omega)) ⟨_, (N _ (.tail _ (.head _))).1, rfl, _, rfl⟩ hkk hl7 ?_
  rintro aT h' tk' kp hn lo hdict
  have hob9 := Heap.dictOf_iff.mp hdict
  obtain ⟨oT, hoT, hdT⟩ := hob9
  have F2 := F.keeps kp
  have N2 := news_new F (News.grown N kp) hoT hn
  have n4 : aT ≠ L + 1 + 1 + 1 := news_ne N (b := (L + 1 + 1 + 1, ot)) (by k_mem) hn
  clear F N
  w_strict (k_steps; unfold Stop)
  rename News _ _ _ _ => NN
  refine next _ _ aT oT _ (by assumption) (news_third NN) (by assumption) hdT lo
end
end

/-! part LY -/
section
set_option maxRecDepth 100000
set_option maxHeartbeats 0
theorem comeP_some {l : List (Value × Nat)} (h : 1 ≤ l.length) : 1 ≤ (comeP l).length := by
  rcases List.eq_nil_or_concat l with rfl | ⟨l', x, rfl⟩
  · simp at h
  · rw [List.concat_eq_append, comeP_snoc]
    split
    · rename_i hm
      have := List.length_pos_of_mem hm
      rw [List.length_map] at this
      exact this
    · simp
theorem dict_cell {o o2 : Obj} {prog : Program} {w : World} {kvs : List (Str × Value)} {x : Option Value} (hT : o.IsDictOf (PySem.strKind prog w) kvs) (d : o2.data = .cell x) : o.data ≠ o2.data := fun e => by
  obtain ⟨es, ep, _, hd, _⟩ := hT
  rw [hd, d] at e; cases e
section
variable {w : World} {A : Around} {s : Shared} {p : Program} {loose : List Str} {mean : ExcName → Option Value} {mg mb : Str → Option Value} {Q E : Value → Shared → Prop}
variable {h₀ : Heap} {L f : Addr} {cdv : Value} {m : Str → Option Value} {ok oc ot op : Obj} {l : Addr} {vs : List Value} {ns : List Int}
theorem law_body (X : ((hd.heap_39 w.params)).In h₀) (T : Top p loose mean mg mb h₀) (hh : A.handled = none) (hdep : A.depth + 40 < recursionLimit) (huni : A.units + 300 < cLine)
    (hms : m (Str.ofString "script") = some (.ref l)) (hl : h₀.IsList l vs.toArray) (hI : IntsAre vs ns) (h63 : vs.length ≤ 63)
    (F : Fr h₀ L s.heap m) (N : News h₀ L s.heap (ledC L op ot oc ok)) (dp : op.data = .cell none) (dt : ot.data = .cell none) (dc : oc.data = .cell none) (dk : ok.data = .cell none)
    {Qf : Flow → Shared → Prop} (fin : ∀ (h' : Heap) (tk' : Nat) (m' : Str → Option Value), Fr h₀ L h' m' → Qf (.ret (.bool true)) { s with heap := h', toks := tk' }) :
    wpAny (model PySem.Challenge.rw_pd0044_01.row.prog w) A (execs (lawB w).1 (lawE w L f cdv)) Qf E s := by
  refine st0 X T hh hdep huni hms hl hI h63 F N fun h1 k1 aN c1 nv ns' F1 N1 hl7 hI1 hr1 => ?_
  refine st1 X T hh hdep huni (if_pos rfl) hI1 dk F1 N1 fun h2 k2 ok' kd t F2 N2 dk' hkd => ?_
  refine st2 X T hh hdep huni (if_pos rfl) hI1 hr1 hl7 dk' hkd F2 N2 fun h3 k3 aK ps objs F3 N3 hb hps hK => ?_
  refine st3 X T hh hdep huni (if_pos rfl) dc (fun q hq => hb q hq (L + 1 + 1, oc) (by k_mem)) (by omega) hK F3 N3 fun h4 k4 aC kC oc' F4 N4 dc' => ?_
  refine st4 X T hh hdep huni (if_pos rfl) dt (fun q hq => hb q hq (L + 1 + 1 + 1, ot) (by k_mem)) (by omega) hK F4 N4 fun h5 k5 aT oT ot' F5 N5 dt' hT lo => ?_
  have hnd := comeP_nodup _ ps rfl
  have h7 : (comeP ps).length ≤ 7 := by have := comeP_length _ ps rfl; omega
  have h1' : 1 ≤ (comeP ps).length := comeP_some (by omega)
  have hKK : ∀ h, News h₀ L h objs → ∀ x ∈ comeP ps, KeyAt kd h x.1 x.2 := fun h N x hx => hK h (fun q hq => (N q hq).1) x (comeP_mem _ ps rfl x hx)
  refine st5 X T hh hdep huni F5 N5 dp dt' hT lo h7 (ne_of_obj N5 (.head _) (by k_mem : (L + 1 + 1 + 1 + 1, op) ∈ _) (dict_cell hT dp)) (ne_of_obj N5 (.tail _ (.head _)) (by k_mem : (L + 1 + 1 + 1 + 1, op) ∈ _) (list_cell dp)) (fun q hq => hb q hq (L + 1 + 1 + 1 + 1, op) (by k_mem)) fun h6 k6 aP pl op' F6 N6 dp' hpl => ?_
  refine st6 X T hh hdep huni F6 N6 dp' dt' dc' hT hnd h7 hpl fun h7' k7 F7 N7 => ?_
  refine st7 X T hh hdep huni F7 N7 dp' hnd h7 hpl fun h8 k8 aS eS sv zs F8 N8 hS hz hzo => ?_
  refine st8 X T hh hdep huni (if_pos rfl) F8 N8 dt' dc' hT hKK hnd h1' h7 hS hz hzo fun h9 k9 F9 N9 => ?_
  refine st9 X T hh hdep huni F9 N9 dp' dt' dc' hT hKK hnd h7 hpl fun h10 k10 F10 N10 => ?_
  refine st10 X T hh hdep huni F10 N10 dp' dt' hT hnd h7 hpl fun h11 k11 aH F11 N11 => ?_
  exact st11 X T hh hdep huni (if_pos rfl) F11 N11 dc' hKK hnd h7 fun h' tk' F' => fin h' tk' _ F'
end
end

/-! part LZ -/
section
set_option maxRecDepth 100000
set_option maxHeartbeats 0
theorem law_all : PySem.Challenge.rw_pd0044_01.Holds := hd (by
  k_with_none
  (k_with "ne" => (refine neN ?_; (try dsimp only); (first | with_reducible assumption | with_reducible exact Ne.symm (by assumption) | (refine' ne_lt ?z1 ?z2; (case z1 => with_reducible assumption); (case z2 => k_mem)) | (refine' ne_lt' ?z3 ?z4; (case z3 => with_reducible assumption); (case z4 => k_mem)) | (refine' ne_o ?z5 ?z6; (case z5 => with_reducible assumption); (case z6 => k_mem)) | (refine' ne_o' ?z7 ?z8; (case z7 => with_reducible assumption); (case z8 => k_mem)) | omega)))
  (k_with "all" => (first | with_reducible assumption | with_reducible exact all_lt (by assumption) | exact List.forall_mem_nil _ | (refine' List.forall_mem_cons.mpr ⟨?za, ?zb⟩; (case za => k_ne); (case zb => k_all))))
  (k_with "CompRest" => (with_unfolding_all first | (refine LCg.CompRest.succ ?_; intro v' I' oI' C' oC' D' m' h' tk' E' hv' hC' hx' F' N' off' ne'; (first | lcg_open hv' | (obtain ⟨t9', hv9'⟩ := hv'; subst hv9')); (have offI' := off3_I off'); (have offC' := off3_C off'); (have offD' := off3_D off'); clear off') | refine LCg.CompRest.zero ?_))
  (k_with "FinE" => ((unfold LCg.FinE); intro D' h' tk' F' N' o1'; (replace o1' := off1_D o1'); (try simp only [List.nil_append, List.cons_append] at N'); (try dsimp only)))
  (k_with "FinA" => ((unfold LCg.FinA); intro D' h' tk' F' N' o1'; (replace o1' := off1_D o1'); (try simp only [List.nil_append, List.cons_append] at N'); (try dsimp only)))
  w_strict k_go0
  rename Fr _ _ _ _ => F
  rename News _ _ _ _ => N
  rename Heap.IsList _ _ _ => hl
  rename IntsAre _ _ => hI
  rename Top _ _ _ _ _ _ => T
  rename Frag.In _ _ => X
  have hlen := IntsAre.length hI
  refine law_body X T ?c1 ?c2 ?c3 ?c4 hl hI ?c5 F N ?d1 ?d2 ?d3 ?d4 ?c6
  case c1 => rfl
  case c2 => first | k_room | decide +kernel
  case c3 => first | ((try simp only [units_deeper]); decide) | decide +kernel
  case c4 => rfl
  case c5 => first | omega
  case d1 => assumption
  case d2 => assumption
  case d3 => assumption
  case d4 => assumption
  case c6 =>
    intro h' tk' m' F'
    clear F N
    w_strict (k_steps))
end

end Mine

set_option maxRecDepth 100000 in
set_option maxHeartbeats 8000000 in
theorem PySem.Challenge.cw_pd0044_01_holds : PySem.Challenge.rw_pd0044_01.Holds := by
  exact Mine.law_all
