import PyProof.Rows.All
import Wide.All
import OpenK.AllK
import Wide.FinOn
import Lean
import PySem.Challenge.RW_wf0038_01
open PySem PySem.W PyProof.Rows PySem.Calls
set_option Elab.async false
set_option maxRecDepth 100000
set_option maxHeartbeats 8000000
set_option linter.all false
set_option compiler.extract_closed false
namespace Mine
noncomputable def viewP : Program := { PySem.Challenge.pw_wf0038_01 with main := { PySem.Challenge.pw_wf0038_01.main with body := PySem.Challenge.pw_wf0038_01.main.body.drop 29 } }
noncomputable def oeF : { f : Program → World → Nat → Option Shared // ∀ p w N, openEnds treeTable p w N = f p w N } := ⟨_, by
  intro p w N
  unfold openEnds fencedOpening topFrom
  rw [PySem.W.Fast.te14082659384304107361, PySem.W.Fast.te10274390034422433532, PySem.W.Fast.te14364793385576792824, PySem.W.Fast.te14289696077712309145, PySem.W.Fast.te1435165496053646825]⟩
theorem law_said : OpenLaw.wellSaid PySem.Challenge.rw_wf0038_01 = true := by
  unfold OpenLaw.wellSaid
  repeat refine look_both ?_ (by decide +kernel)
  decide +kernel
section
local macro_rules | `(tactic| o_law) => `(tactic| refine holds_law law_said fun said => ?_)
local macro_rules | `(tactic| o_head $H:term) => `(tactic| (refine holds_open (q := viewP) (loose := [Str.ofString "TupleComp", Str.ofString "add_func_stats", Str.ofString "add_callers", Str.ofString "count_calls", Str.ofString "insort_right", Str.ofString "bisect_right", Str.ofString "bisect_left", Str.ofString "eq", Str.ofString "and_", Str.ofString "lshift", Str.ofString "or_", Str.ofString "xor", Str.ofString "_law_keys", Str.ofString "_law_sorted", Str.ofString "_law_lay", Str.ofString "_law_order", Str.ofString "_law_fronts", Str.ofString "_law_least", Str.ofString "_law_closed", Str.ofString "_law_tops", Str.ofString "_law_own", Str.ofString "_law_agree", Str.ofString "_law_profile", Str.ofString "_law_due", Str.ofString "_law_next"]) (Xt := fun s => xlAt viewP [] s && recOk (RowW.records (OpenRow.toRowW PySem.Challenge.rw_wf0038_01.row)) s) (XP := XL viewP []) (Yf := Hook.obs $H) (Ya := Hook.val $H) (YP := Hook.says $H) (N := 2302) ?hl (Hook.of $H) (Hook.keeps $H) (fun s e => xl_of s (Bool.and_eq_true_iff.mp e).1) XL.keeps (by rfl) (by rfl) (by rfl) (fun s e => recFacts_of (Bool.and_eq_true_iff.mp e).2) (by rfl) (by first | assumption | decide +kernel) (by decide +kernel) ⟨rfl, rfl, rfl, rfl, rfl, by decide +kernel⟩ ?hw ?hc; (case hl => intro w; rw [oeF.2]; kernel_rfl)))
open_top hd for PySem.Challenge.rw_wf0038_01
end
theorem fill_heap (w : World) : PySem.Challenge.rw_wf0038_01 = PySem.Challenge.rw_wf0038_01 ∧ hd.heap_1 w.params = hd.heap_1 w.params := by w_top off; k_fill; exact ⟨rfl, rfl⟩
section
noncomputable abbrev Led := List (Addr × Obj)
@[elab_as_elim] theorem celim1 {cm : Str → Option Value} {n0 : Str} {c0 : Addr} {cells : Led} (Y : CellsAre cm [(n0, c0)] cells) {G : Led → Prop} (k : ∀ o0 : Obj, o0.data = .cell (cm n0) → G [(c0, o0)]) : G cells := by
  obtain ⟨o0, rfl, h0⟩ := CellsAre.one Y
  exact k o0 h0
@[elab_as_elim] theorem celim2 {cm : Str → Option Value} {n0 n1 : Str} {c0 c1 : Addr} {cells : Led} (Y : CellsAre cm [(n0, c0), (n1, c1)] cells) {G : Led → Prop} (k : ∀ o0 o1 : Obj, o0.data = .cell (cm n0) → o1.data = .cell (cm n1) → G [(c0, o0), (c1, o1)]) : G cells := by
  obtain ⟨o0, o1, rfl, h0, h1⟩ := CellsAre.two Y
  exact k o0 o1 h0 h1
@[elab_as_elim] theorem celim3 {cm : Str → Option Value} {n0 n1 n2 : Str} {c0 c1 c2 : Addr} {cells : Led} (Y : CellsAre cm [(n0, c0), (n1, c1), (n2, c2)] cells) {G : Led → Prop} (k : ∀ o0 o1 o2 : Obj, o0.data = .cell (cm n0) → o1.data = .cell (cm n1) → o2.data = .cell (cm n2) → G [(c0, o0), (c1, o1), (c2, o2)]) : G cells := by
  obtain ⟨o0, o1, o2, rfl, h0, h1, h2⟩ := CellsAre.three Y
  exact k o0 o1 o2 h0 h1 h2
@[elab_as_elim] theorem celim4 {cm : Str → Option Value} {n0 n1 n2 n3 : Str} {c0 c1 c2 c3 : Addr} {cells : Led} (Y : CellsAre cm [(n0, c0), (n1, c1), (n2, c2), (n3, c3)] cells) {G : Led → Prop} (k : ∀ o0 o1 o2 o3 : Obj, o0.data = .cell (cm n0) → o1.data = .cell (cm n1) → o2.data = .cell (cm n2) → o3.data = .cell (cm n3) → G [(c0, o0), (c1, o1), (c2, o2), (c3, o3)]) : G cells := by
  obtain ⟨o0, o1, o2, o3, rfl, h0, h1, h2, h3⟩ := CellsAre.four Y
  exact k o0 o1 o2 o3 h0 h1 h2 h3
structure Codes (h : Heap) : Prop where
  least : CodeHd h 166 162
  lay : CodeHd h 145 141
  srt : CodeHd h 138 134
noncomputable def Apart (l k : Led) : Prop := ∀ p ∈ l, ∀ q ∈ k, @Ne Nat p.1 q.1
structure Env0 where
  p : Program
  loose : List Str
  mean : ExcName → Option Value
  mg : Str → Option Value
  mb : Str → Option Value
noncomputable def Spec (w : World) (z : Env0) (nd nu : Nat) (f : Value) (vs : List Value) (kw : List (Str × Value)) (mu ex : Led) (R : Led → Led → Value → Prop) : Prop :=
  ∀ (dp un : Nat) (gd : Option (List Code)) (cn : Str) (cs : Scope) (a : Addr) (ccd : Value) (cl : List (Str × Addr)) (outer : List Env) (A₀ : Around) (base h₀ : Heap) (L : Addr) (m : Str → Option Value)
    (led : Led) (s : Shared) (Q E : Value → Shared → Prop),
    Below A₀ base outer h₀ → Fr h₀ L s.heap m → (hd.heap_1 w.params).In h₀ → News h₀ L s.heap (mu ++ led) → Top z.p z.loose z.mean z.mg z.mb h₀ → cs.kind = .function → Codes base →
    dp + nd < recursionLimit → un + nu < cLine → (∀ p ∈ ex, p ∈ led) → Apart led mu →
    (∀ (v : Value) (mu' new : Led) (h' : Heap) (tk' : Nat), R mu' new v → Fr h₀ L h' m → News h₀ L h' (mu' ++ (new ++ led)) → Apart (mu ++ led) new → Q v { s with heap := h', toks := tk' }) →
    wpAny (model PySem.Challenge.rw_wf0038_01.prog w) (ktrTop dp un gd cn cs L a ccd cl outer) (call f vs kw) Q E s
noncomputable def Fin (s : Shared) (g : Heap) (L : Addr) (mu ex : Led) (R : Led → Led → Value → Prop) (v : Value) (s' : Shared) : Prop :=
  ∃ (h' : Heap) (tk' : Nat) (m' : Str → Option Value) (mu' new : Led), s' = { s with heap := h', toks := tk' } ∧ Fr g L h' m' ∧ News g L h' (mu' ++ (new ++ ex)) ∧ mu'.map (·.1) = mu.map (·.1) ∧ Apart (mu ++ ex) new ∧ R mu' new v
theorem Fin.intro {s : Shared} {g : Heap} {L : Addr} {mu ex : Led} {R : Led → Led → Value → Prop} {v : Value} {h' : Heap} {tk' : Nat} {m' : Str → Option Value} {all : Led} (F : Fr g L h' m') (N : News g L h' all)
    (mu' new : Led) (sub : ∀ p ∈ mu' ++ (new ++ ex), p ∈ all) (hm : mu'.map (·.1) = mu.map (·.1)) (ap : Apart (mu ++ ex) new) (hR : R mu' new v) : Fin s g L mu ex R v { s with heap := h', toks := tk' } :=
  ⟨h', tk', m', mu', new, rfl, F, fun p hp => N p (sub p hp), hm, ap, hR⟩
section
variable {w : World} {A : Around} {s : Shared} {h₀ g : Heap} {L L' : Addr} {m : Str → Option Value} {mu ex led : Led} {R : Led → Led → Value → Prop}
theorem leave_of {R' : Result → Shared → Prop} {s₁ s' : Shared} {v : Value} (N : News h₀ L s.heap (mu ++ led)) (hex : ∀ p ∈ ex, p ∈ led) (ap : Apart led mu) (G : GSub s.heap g ((mu ++ ex).map (·.1))) (H : Fin s₁ g L' mu ex R v s')
    (k : ∀ (v : Value) (mu' new : Led) (h' : Heap) (tk' : Nat), R mu' new v → Fr h₀ L h' m → News h₀ L h' (mu' ++ (new ++ led)) → Apart (mu ++ led) new → R' (.ok (.ret v)) { s₁ with heap := h', toks := tk' }) : LeaveK h₀ L m g R' v s' := by
  obtain ⟨h', tk', m', mu', new, rfl, F', N', hm, apn, hR⟩ := H
  refine ⟨L', m', mu' ++ (new ++ ex), F', N', fun Fh Nh => k v mu' new h' tk' hR Fh ?_ ?_⟩
  · intro p hp
    rcases List.mem_append.mp hp with hp | hp
    · exact Nh p (List.mem_append_left _ hp)
    rcases List.mem_append.mp hp with hp | hp
    · exact Nh p (List.mem_append_right _ (List.mem_append_left _ hp))
    have hN := N p (List.mem_append_right _ hp)
    by_cases hq : p.1 ∈ (mu ++ ex).map (·.1)
    · obtain ⟨e, he, hee⟩ := List.mem_map.mp hq
      rcases List.mem_append.mp he with he | he
      · exact absurd hee.symm (ap p hp e he)
      · have h1 := (N e (List.mem_append_right _ (hex e he))).1
        rw [hee, hN.1] at h1
        have : e = p := Prod.ext hee (Option.some.inj h1).symm
        subst this
        exact Nh e (List.mem_append_right _ (List.mem_append_right _ he))
    · exact ⟨F'.keep _ _ (G _ _ hN.1 hq), hN.2⟩
  · intro p hp q hq
    have hn := (N' q (List.mem_append_right _ (List.mem_append_left _ hq))).2.2
    rcases List.mem_append.mp hp with hp' | hp'
    · exact apn p (List.mem_append_left _ hp') q hq
    · have hN := N p (List.mem_append_right _ hp')
      by_cases hz : p.1 ∈ (mu ++ ex).map (·.1)
      · obtain ⟨e, he, hee⟩ := List.mem_map.mp hz
        rw [← hee]
        exact apn e he q hq
      · intro hpq
        have h1 := G _ _ hN.1 hz
        have hpq' : p.1 = q.1 := hpq
        rw [hpq', hn] at h1
        cases h1
end
section
variable {w : World} {z : Env0} {nd nu : Nat} {mu ex : Led} {R : Led → Led → Value → Prop} {vs : List Value} {kw : List (Str × Value)}
theorem room_le {a b c n : Nat} (h : a + b < n) (k : Nat.ble c b = true) : a + c < n := Nat.lt_of_le_of_lt (Nat.add_le_add_left (Nat.le_of_ble_eq_true k) a) h
noncomputable def AllLtN (d : Nat) : Led → Prop
  | [] => True
  | [p] => @LT.lt Nat _ p.1 d
  | p :: q :: r => @LT.lt Nat _ p.1 d ∧ AllLtN d (q :: r)
theorem allLtN_of {d : Nat} : ∀ {l : Led}, (∀ p ∈ l, @LT.lt Nat _ p.1 d) → AllLtN d l
  | [], _ => trivial
  | [p], h => h p (.head _)
  | p :: q :: r, h => ⟨h p (.head _), allLtN_of fun x hx => h x (.tail _ hx)⟩
theorem news_head {h₀ h : Heap} {L : Addr} {a : Addr} {o : Obj} {r : Led} (_ : News h₀ L h ((a, o) :: r)) : ∃ b : Nat, b = a := ⟨a, rfl⟩
theorem sub_news {h₀ h : Heap} {L : Addr} {l l' : Led} (N : News h₀ L h l) (hs : ∀ p ∈ l', p ∈ l) : News h₀ L h l' := fun p hp => N p (hs p hp)
theorem mem_ex {mu ex led : Led} (hex : ∀ p ∈ ex, p ∈ led) : ∀ p ∈ mu ++ ex, p ∈ mu ++ led := fun p hp => by
  rcases List.mem_append.mp hp with hp | hp
  · exact List.mem_append_left _ hp
  · exact List.mem_append_right _ (hex p hp)
theorem lookup_frame : ∀ l : List (Str × Value), (fun y => l.lookup y) = kstB (fun _ => none) l := by
  intro l
  funext y
  induction l with
  | nil => rfl
  | cons p r ih =>
    show List.lookup y (p :: r) = if y = p.1 then some p.2 else kstB (fun _ => none) r y
    obtain ⟨k, v⟩ := p
    rw [List.lookup_cons]
    by_cases h : y = k
    · subst h; simp
    · have hb : (y == k) = false := by simpa using h
      rw [hb, if_neg h]; exact ih
theorem spec_def {name qual : Str} {params : Arguments} {body : List Stmt} {scope : Scope} {dV kV doc pm cdv ct oc : Value} {an od : Option Addr} {osl : Array (Option Value)} {f : Addr} (binds : List (Str × Value))
    (ho : (hd.heap_1 w.params).lookup f = some ⟨oc, od, .func (fnOf name qual params body scope dV kV doc pm an cdv ct), osl⟩) (hcd : codeIn (hd.heap_1 w.params) cdv qual = true)
    (hbind : ∀ s : Shared, (hd.heap_1 w.params).In s.heap → BindsTo s (fnOf name qual params body scope dV kV doc pm an cdv ct) ⟨vs, kw⟩ binds.reverse) (hloc : ∀ y ∈ binds.reverse, scope.names.lookup y.1 = some .local)
    (h : ∀ (dp un : Nat) (gd : Option (List Code)) (outer : List Env) (A₀ : Around) (base g : Heap) (L : Addr) (h₁ : Heap) (s : Shared) (tk : Nat), Below A₀ base outer g → Fr g L h₁ (kstB (fun _ => none) binds) → (hd.heap_1 w.params).In g → News g L h₁ (mu ++ ex) →
      Top z.p z.loose z.mean z.mg z.mb g → Codes base → dp + nd < recursionLimit → un + nu < cLine →
      wpAny (model PySem.Challenge.rw_wf0038_01.prog w) (ktrTop dp un gd qual scope L f cdv [] outer) (execs body (envX qual scope L f cdv [])) (fun fl s' => Fin s g L mu ex R (match fl with | .ret v => v | _ => .none) s') (fun _ _ => False) { s with heap := h₁, toks := tk })
    (hco : scope.isCoroutine = false) (hgen : scope.isGenerator = false) (hk : scope.kind = .function)
    (hcell : ∀ x ∈ scope.names, x.2 ≠ .cell) : Spec w z (nd + 1) (nu + 3) (.ref f) vs kw mu ex R := by
  intro dp un gd cn cs a ccd cl outer A₀ base h₀ L m led s Q E B F X N T hks C hd hu hex ap k
  refine wpAny_call ?_
  refine code_defG (env := envX cn cs L a ccd cl) (outer := outer) B F X (sub_news N (mem_ex hex)) T rfl rfl hks ho hcd (show dp < recursionLimit by omega) (hbind s (X.keeps F.keep)) hloc (fun g L' h₁ FG F' N' B' X' T' G => ?_) hco hgen hk hcell
  refine wpAny_mono (h (dp + 1) (un + 3) gd (envX cn cs L a ccd cl :: outer) _ base g L' h₁ s _ B' (by rw [List.reverse_reverse, lookup_frame] at F'; exact F') X' N' T' C (by omega) (by omega)) (fun fl s' hf => leave_of (s₁ := s) N hex ap G hf k) fun _ _ hF => hF.elim
theorem spec_defC {name qual : Str} {params : Arguments} {body : List Stmt} {scope : Scope} {dV kV doc pm cdv ct oc : Value} {an od : Option Addr} {osl : Array (Option Value)} {f : Addr} {binds : List (Str × Value)}
    (ho : (hd.heap_1 w.params).lookup f = some ⟨oc, od, .func (fnOf name qual params body scope dV kV doc pm an cdv ct), osl⟩) (hcd : codeIn (hd.heap_1 w.params) cdv qual = true)
    (hbind : ∀ s : Shared, (hd.heap_1 w.params).In s.heap → BindsTo s (fnOf name qual params body scope dV kV doc pm an cdv ct) ⟨vs, kw⟩ binds)
    (hkind : (binds.all fun y => scope.names.lookup y.1 == some .local || scope.names.lookup y.1 == some .cell) = true) (hnd : ((cellsFrom 0 scope.names []).map (·.1)).Nodup)
    (h : ∀ (dp un : Nat) (gd : Option (List Code)) (outer : List Env) (A₀ : Around) (base g : Heap) (L : Addr) (h₁ : Heap) (s : Shared) (tk : Nat) (cells : Led), Below A₀ base outer g → Fr g L h₁ (bindL (envOfC qual scope L f cdv).kindOf binds fun _ => none) → (hd.heap_1 w.params).In g → News g L h₁ (cells ++ (mu ++ ex)) →
      CellsAre (bindC (envOfC qual scope L f cdv).kindOf binds fun _ => none) (cellsFrom (L + 1) scope.names []) cells →
      Top z.p z.loose z.mean z.mg z.mb g → Codes base → dp + nd < recursionLimit → un + nu < cLine → (∀ p ∈ mu ++ ex, p.1 < L) →
      wpAny (model PySem.Challenge.rw_wf0038_01.prog w) (ktrTop dp un gd qual scope L f cdv (cellsFrom (L + 1) scope.names []) outer) (execs body (envX qual scope L f cdv (cellsFrom (L + 1) scope.names []))) (fun fl s' => Fin s g L mu ex R (match fl with | .ret v => v | _ => .none) s') (fun _ _ => False) { s with heap := h₁, toks := tk })
    (hco : scope.isCoroutine = false) (hgen : scope.isGenerator = false) (hk : scope.kind = .function) : Spec w z (nd + 1) (nu + 3) (.ref f) vs kw mu ex R := by
  intro dp un gd cn cs a ccd cl outer A₀ base h₀ L m led s Q E B F X N T hks C hd hu hex ap k
  have Nx := sub_news N (mem_ex hex)
  obtain ⟨FG, BG, st, lv⟩ := groundX (A := ktrTop dp un gd cn cs L a ccd cl outer) (env := envX cn cs L a ccd cl) (R := fun r s' => match r with | .ok (.ret v) => Q v s' | .ok _ => False | .error e => E e s') B F Nx rfl rfl hks
  have XS := X.keeps F.keep
  refine wpAny_call (codeAny_call_function (show dp < recursionLimit by omega) (XS _ _ ho) rfl hco hgen rfl (codeRec_of XS hcd) (hbind s XS _ _ _ _ ?_))
  refine wpAny_newFunctionEnv_cells hk (kindsX hkind _) fun env' he s' x => ?_
  subst he
  refine ⟨(T.nolimit.keeps F.keep).keeps x.toInCall.keep, codeAny_func ?_⟩
  obtain ⟨h₁, tk, rfl, _⟩ := x.done
  have hk₁ := x.toInCall.keep
  obtain ⟨cells, NC, Y⟩ := Cl.news (h₀ := s.heap) (Nat.le_refl _) fun n c hm => ⟨x.cell n c (lookup_of_mem_nodup (cellsFrom_names scope.names 0 (s.heap.objs.size + 1) [] [] rfl ▸ hnd) hm), x.above n c hm⟩
  have G : GSub s.heap (hideAll s.heap ((mu ++ ex).map (·.1))) ((mu ++ ex).map (·.1)) := fun b o e n => hideAll_get _ e n
  refine wpAny_mono (h (dp + 1) (un + 3) gd (envX cn cs L a ccd cl :: outer) _ base _ s.heap.objs.size h₁ s tk cells BG ⟨x.toInCall.ns, fun b o e => hk₁ b o (of_hideAll _ e), Nat.le_of_eq (hideAll_size _ _)⟩ (X.keeps st) (fun p hp => ?_) Y (T.keeps st) C (by omega) (by omega)
    (fun p hp => Heap.lt_size (Nx p hp).1)) (fun fl s' hf => lv _ _ (leave_of (s₁ := s) N hex ap G hf k)) fun _ _ hF => hF.elim
  rcases List.mem_append.mp hp with hp | hp
  · refine ⟨(NC p hp).1, (NC p hp).2.1, ?_⟩
    cases q : (hideAll s.heap ((mu ++ ex).map (·.1))).get? p.1 with
    | none => rfl
    | some o => have := of_hideAll _ q; rw [(NC p hp).2.2] at this; cases this
  · exact ⟨hk₁ _ _ (Nx p hp).1, Nat.ne_of_lt (Heap.lt_size (Nx p hp).1), hideAll_none _ (List.mem_map_of_mem hp)⟩
theorem spec_lam {name qual : Str} {params : Arguments} {body : Expr} {scope : Scope} {cl' : List (Str × Addr)} {pm ctv : Value} {c' f : Addr} {oc : Obj} {ovs : Array Value} {qt : Tok} (binds : List (Str × Value))
    (hf : (f, kla_obj name qual params body scope cl' pm c' ctv) ∈ ex) (hc : (c', oc) ∈ ex) (hd1 : oc.data = .fields ovs) (hd2 : ovs[1]? = some (.str qual qt))
    (hbind : bindArgs (kla_fn name qual params body scope cl' pm (.ref c') ctv) ⟨vs, kw⟩ = pure binds.reverse) (hloc : ∀ y ∈ binds.reverse, scope.names.lookup y.1 = some .local)
    (h : ∀ (dp un : Nat) (gd : Option (List Code)) (outer : List Env) (A₀ : Around) (base g : Heap) (L : Addr) (h₁ : Heap) (s : Shared) (tk : Nat), Below A₀ base outer g → Fr g L h₁ (kstB (fun _ => none) binds) → (hd.heap_1 w.params).In g → News g L h₁ (mu ++ ex) →
      Top z.p z.loose z.mean z.mg z.mb g → Codes base → dp + nd < recursionLimit → un + nu < cLine →
      wpAny (model PySem.Challenge.rw_wf0038_01.prog w) (ktrTop dp un gd qual scope L f (.ref c') cl' outer) (eval body (envX qual scope L f (.ref c') cl')) (fun v s' => Fin s g L mu ex R v s') (fun _ _ => False) { s with heap := h₁, toks := tk })
    (hco : scope.isCoroutine = false) (hgen : scope.isGenerator = false) (hk : scope.kind = .function)
    (hcell : ∀ x ∈ scope.names, x.2 ≠ .cell) : Spec w z (nd + 1) (nu + 3) (.ref f) vs kw mu ex R := by
  intro dp un gd cn cs a ccd cl outer A₀ base h₀ L m led s Q E B F X N T hks C hd hu hex ap k
  have Nx := sub_news N (mem_ex hex)
  obtain ⟨FG, BG, st, lv⟩ := groundX (A := ktrTop dp un gd cn cs L a ccd cl outer) (env := envX cn cs L a ccd cl) (R := fun r s' => match r with | .ok (.ret v) => Q v s' | .ok _ => False | .error e => E e s') B F Nx rfl rfl hks
  have hrec : s.heap.CodeRec (.ref c') qual := ⟨c', oc, ovs, qt, rfl, (Nx _ (List.mem_append_right _ hc)).1, hd1, hd2⟩
  refine wpAny_call (kla_callFunE (show dp < recursionLimit by omega) (Nx _ (List.mem_append_right _ hf)).1 rfl hco hgen rfl hrec ?_)
  rw [hbind]
  refine wpAny_pure (wpAny_newFunctionEnv hcell hloc (fun h₁ hns hsb => ⟨((T.nolimit).keeps F.keep).fresh _ hsb, ?_⟩) hk)
  have hk₁ : ∀ b o, s.heap.get? b = some o → h₁.get? b = some o := fun b o e => hsb.extBut b o (Nat.ne_of_lt (Heap.lt_size e)) (Heap.get?_push_of_some _ e)
  have G : GSub s.heap (hideAll s.heap ((mu ++ ex).map (·.1))) ((mu ++ ex).map (·.1)) := fun b o e n => hideAll_get _ e n
  show codeAny _ _ (.expr body (envX qual scope s.heap.objs.size f (.ref c') cl')) _ _
  exact kla_codeExpr (wpAny_mono (h (dp + 1) (un + 3) gd (envX cn cs L a ccd cl :: outer) _ base _ s.heap.objs.size h₁ s _ BG ⟨by rw [List.reverse_reverse, lookup_frame] at hns; exact hns, fun b o e => hk₁ b o (of_hideAll _ e), Nat.le_of_eq (hideAll_size _ _)⟩ (X.keeps st)
    (fun p hp => ⟨hk₁ _ _ (Nx p hp).1, Nat.ne_of_lt (Heap.lt_size (Nx p hp).1), hideAll_none _ (List.mem_map_of_mem hp)⟩) (T.keeps st) C (by omega) (by omega)) (fun v s' hf => lv _ _ (leave_of (s₁ := s) N hex ap G hf k)) fun _ _ hF => hF.elim)
end
section
variable {w : World} {z : Env0} {nd nu : Nat} {f : Value} {vs : List Value} {kw : List (Str × Value)} {mu ex : Led} {R : Led → Led → Value → Prop} {dp un : Nat} {gd : Option (List Code)} {cn : Str} {cs : Scope} {a : Addr} {ccd : Value} {cl : List (Str × Addr)} {outer : List Env} {A₀ : Around}
  {base h₀ : Heap} {L : Addr} {m : Str → Option Value} {s : Shared} {Q E : Value → Shared → Prop}
theorem Spec.use0 {all : Led} (S : Spec w z nd nu f vs kw [] ex R) (B : Below A₀ base outer h₀) (F : Fr h₀ L s.heap m) (X : (hd.heap_1 w.params).In h₀) (N : News h₀ L s.heap all) (T : Top z.p z.loose z.mean z.mg z.mb h₀) (hk : cs.kind = .function)
    (c1 : CodeHd base 166 162) (c2 : CodeHd base 145 141) (c3 : CodeHd base 138 134) (hd : dp + nd < recursionLimit) (hu : un + nu < cLine) (hex : ∀ p ∈ ex, p ∈ all)
    (k : ∀ (v : Value) (mu' new : Led) (h' : Heap) (tk' : Nat), R mu' new v → Fr h₀ L h' m → News h₀ L h' (mu' ++ (new ++ all)) → Apart all new → Q v { s with heap := h', toks := tk' }) :
    wpAny (model PySem.Challenge.rw_wf0038_01.prog w) (ktrTop dp un gd cn cs L a ccd cl outer) (call f vs kw) Q E s :=
  S dp un gd cn cs a ccd cl outer A₀ base h₀ L m all s Q E B F X N T hk ⟨c1, c2, c3⟩ hd hu hex (fun _ _ _ h => by cases h) k
theorem Spec.useT {all : Led} {v : Tok → Value} (S : Spec w z nd nu f vs kw [] ex fun mu' new r => mu' = [] ∧ new = [] ∧ ∃ t, r = v t) (B : Below A₀ base outer h₀) (F : Fr h₀ L s.heap m) (X : (hd.heap_1 w.params).In h₀) (N : News h₀ L s.heap all) (T : Top z.p z.loose z.mean z.mg z.mb h₀) (hk : cs.kind = .function)
    (c1 : CodeHd base 166 162) (c2 : CodeHd base 145 141) (c3 : CodeHd base 138 134) (hd : dp + nd < recursionLimit) (hu : un + nu < cLine) (hex : ∀ p ∈ ex, p ∈ all)
    (k : ∀ (t : Tok) (h' : Heap) (tk' : Nat), Fr h₀ L h' m → News h₀ L h' all → Q (v t) { s with heap := h', toks := tk' }) :
    wpAny (model PySem.Challenge.rw_wf0038_01.prog w) (ktrTop dp un gd cn cs L a ccd cl outer) (call f vs kw) Q E s :=
  Spec.use0 S B F X N T hk c1 c2 c3 hd hu hex fun _ _ _ h' tk' ⟨e1, e2, t, e3⟩ F' N' _ => by subst e1; subst e2; subst e3; exact k t h' tk' F' N'
theorem Spec.use {all led : Led} (S : Spec w z nd nu f vs kw mu ex R) (B : Below A₀ base outer h₀) (F : Fr h₀ L s.heap m) (X : (hd.heap_1 w.params).In h₀) (N : News h₀ L s.heap all) (T : Top z.p z.loose z.mean z.mg z.mb h₀) (hk : cs.kind = .function)
    (c1 : CodeHd base 166 162) (c2 : CodeHd base 145 141) (c3 : CodeHd base 138 134) (hd : dp + nd < recursionLimit) (hu : un + nu < cLine) (sub : ∀ p ∈ mu ++ led, p ∈ all) (hex : ∀ p ∈ ex, p ∈ led) (ap : Apart led mu)
    (k : ∀ (v : Value) (mu' new : Led) (h' : Heap) (tk' : Nat), R mu' new v → Fr h₀ L h' m → News h₀ L h' (mu' ++ (new ++ led)) → Apart (mu ++ led) new → Q v { s with heap := h', toks := tk' }) :
    wpAny (model PySem.Challenge.rw_wf0038_01.prog w) (ktrTop dp un gd cn cs L a ccd cl outer) (call f vs kw) Q E s :=
  S dp un gd cn cs a ccd cl outer A₀ base h₀ L m led s Q E B F X (sub_news N sub) T hk ⟨c1, c2, c3⟩ hd hu hex ap k
end
theorem four_of {α : Type} (l : List α) (h : l.length = 4) : ∃ a b c d, l = [a, b, c, d] := by
  match l, h with
  | [a, b, c, d], _ => exact ⟨a, b, c, d, rfl⟩
theorem all_c {P : Addr × Obj → Prop} {a : Addr × Obj} {l : Led} (h : P a) (t : ∀ q ∈ l, P q) : ∀ q ∈ a :: l, P q := fun q hq => by
  rcases List.mem_cons.mp hq with rfl | hq
  · exact h
  · exact t q hq
theorem all_app {P : Addr × Obj → Prop} {l k : Led} (h : ∀ q ∈ l, P q) (t : ∀ q ∈ k, P q) : ∀ q ∈ l ++ k, P q := fun q hq => by
  rcases List.mem_append.mp hq with hq | hq
  · exact h q hq
  · exact t q hq
theorem orN4 {i : Nat} (h : i < 4) : i = 0 ∨ i = 1 ∨ i = 2 ∨ i = 3 := by omega
theorem orN3 {i : Nat} (h : i < 3) : i = 0 ∨ i = 1 ∨ i = 2 := by omega
theorem orI4 {i : Int} (h : 0 ≤ i) (k : i ≤ 3) : i = 0 ∨ i = 1 ∨ i = 2 ∨ i = 3 := by omega
theorem orI3 {i : Int} (h : 0 ≤ i) (k : i ≤ 2) : i = 0 ∨ i = 1 ∨ i = 2 := by omega
theorem zn (i : Nat) : (0 : Int) ≤ 0 + (i : Int) := by omega
theorem zl {i l n : Nat} (e : l = n) (h : i < n) : 0 + (i : Int) < (l : Int) := by omega
theorem zf {i n : Nat} (h : i < n) (k : Nat.ble n 1000 = true) : 0 + (i : Int) < 2 ^ 63 := by
  have := Nat.le_of_ble_eq_true k
  omega
end
theorem ne_pair {α β : Type} (a : Nonempty α) (b : Nonempty β) : Nonempty (α × β) := by
  obtain ⟨a⟩ := a
  obtain ⟨b⟩ := b
  exact ⟨(a, b)⟩
@[irreducible] noncomputable def Pk (T : Type u) (ne : Nonempty T) (Q : T → Prop) : T := @Classical.epsilon T ne fun d => ¬ Q d
theorem Pk.all {T : Type u} {ne : Nonempty T} {Q : T → Prop} (h : Q (Pk T ne Q)) (d : T) : Q d := by
  refine Classical.byContradiction fun n => ?_
  unfold Pk at h
  exact @Classical.epsilon_spec T (fun d => ¬ Q d) ⟨d, n⟩ h
theorem ne_env : Nonempty Env0 := ⟨⟨PySem.Challenge.rw_wf0038_01.prog, [], fun _ => none, fun _ => none, fun _ => none⟩⟩
local macro_rules | `(tactic| walk_at "ne_all") => `(tactic| (repeat (first | exact ⟨aWorld 1⟩ | exact ne_env | exact (⟨{}⟩ : Nonempty Shared) | exact (⟨{}⟩ : Nonempty Around) | exact inferInstance | refine ne_pair ?_ ?_ | (refine ⟨?_⟩; constructor <;> first | exact default | (intro _; exact default) | (intro _; constructor <;> exact default) | (constructor <;> exact default)) | (refine ⟨fun _ => ?_⟩; constructor <;> exact default))))
section
section
open PyProof.Rows.LCg
variable {prog : Program} {w : World} {A : Around} {E : Value → Shared → Prop} {s : Shared} {h₀ : Heap} {L : Addr} {m : Str → Option Value} {env : Env} {σ : Type}
noncomputable abbrev testsOf (ifs : List Expr) (env : Env) : Sem Bool := forIn ifs true fun c r => if r = true then do let ok ← isTrue c env (eval c env); pure (ForInStep.yield ok) else pure (ForInStep.yield r)
theorem gc_loop {elt target iter : Expr} {ifs : List Expr} {scope : Scope} {pos : Pos} {it acc : Value} {env : Env} {R : Result → Shared → Prop} (I : Nat → Shared → Prop)
    (turn : ∀ n s, I n s → wpAny (model prog w) A (pyNext it) (fun r s₁ => match r with
      | none => R (.ok .next) s₁
      | some v => wpAny (model prog w) A (letOwnedTupleGo target it v) (fun _ s₀ => wpAny (model prog w) A (assign target env v) (fun _ s₂ =>
          wpAny (model prog w) A (testsOf ifs env) (fun ok s₃ => if ok = true then wpAny (model prog w) A (eval elt env) (fun x s₄ =>
            wpAny (model prog w) A (call (.builtin "list.append") [acc, x]) (fun _ s₅ => ∃ m, m < n ∧ I m s₅) (notedBy (model prog w) A env fun e s' => R (.error e) s') s₄) (notedBy (model prog w) A env fun e s' => R (.error e) s') s₃
            else ∃ m, m < n ∧ I m s₃) (notedBy (model prog w) A env fun e s' => R (.error e) s') s₂)
          (notedBy (model prog w) A env fun e s' => R (.error e) s') s₀) (notedBy (model prog w) A env fun e s' => R (.error e) s') s₁) (notedBy (model prog w) A env fun e s' => R (.error e) s') s)
    (n : Nat) (h : I n s) : codeAny (model prog w) A (.compLoop (.ListComp elt [⟨target, iter, ifs, 0⟩] scope pos) 0 it acc env) R s := by
  refine codeAny_loop rfl I (fun n s hI => ?_) n h
  show wpAny _ A ((compTurn (.ListComp elt [⟨target, iter, ifs, 0⟩] scope pos) 0 it acc env).onRaise (fun x => do noteFrame x env; theTreesLotGoes x)) _ _ s
  refine wpAny_noted ?_
  rw [compTurn_list]
  refine wpAny_bind (wpAny_standAt (wpAny_bind (wpAny_mono (turn n s hI) (fun r s₁ h₁ => ?_) fun _ _ h' => h')))
  cases r with
  | none => exact wpAny_pure h₁
  | some v =>
    refine wpAny_bind (wpAny_mono h₁ (fun _ s₀ h₀' => ?_) fun _ _ h' => h')
    refine wpAny_bind (wpAny_mono h₀' (fun _ s₂ h₂ => wpAny_bind (wpAny_mono h₂ (fun ok s₃ h₃ => ?_) fun _ _ h' => h')) fun _ _ h' => h')
    cases ok with
    | false => exact wpAny_pure ⟨rfl, h₃⟩
    | true => exact wpAny_bind (wpAny_bind (wpAny_mono h₃ (fun x s₄ h₄ => wpAny_bind (wpAny_mono h₄ (fun _ s₅ h₅ => wpAny_pure (wpAny_pure ⟨rfl, h₅⟩)) fun _ _ h' => h')) fun _ _ h' => h'))
noncomputable def GcE (h₀ : Heap) (L : Addr) (m : Str → Option Value) (s₁ : Shared) (I : Addr) (oI : Obj) (C : Addr) (oC : Obj) (D : Addr) (ys : List Value) (its : Led) (Ld : σ → Led) (J : Value → σ → Prop) (y : Value) (s₂ : Shared) : Prop :=
  ∃ h' tk c', s₂ = { s₁ with heap := h', toks := tk } ∧ Fr h₀ L h' m ∧ News h₀ L h' ((I, oI) :: (C, oC) :: (D, lst ys) :: (its ++ Ld c')) ∧ Off3 I C D (its ++ Ld c') ∧ (∀ p ∈ Ld c', ∀ q ∈ its, @Ne Nat p.1 q.1) ∧ J y c'
theorem GcE.intro {s₁ : Shared} {I C D : Addr} {oI oC : Obj} {ys : List Value} {its : Led} {Ld : σ → Led} {J : Value → σ → Prop} {y : Value} {h' : Heap} {tk : Nat} {all : Led} (c' : σ) (F : Fr h₀ L h' m) (N : News h₀ L h' all)
    (sub : ∀ p ∈ (I, oI) :: (C, oC) :: (D, lst ys) :: (its ++ Ld c'), p ∈ all) (off : Off3 I C D (its ++ Ld c')) (ow : ∀ p ∈ Ld c', ∀ q ∈ its, @Ne Nat p.1 q.1) (hJ : J y c') : GcE h₀ L m s₁ I oI C oC D ys its Ld J y { s₁ with heap := h', toks := tk } :=
  ⟨h', tk, c', rfl, F, fun p hp => N p (sub p hp), off, ow, hJ⟩
noncomputable def GcTurn (prog : Program) (w : World) (A : Around) (h₀ : Heap) (L : Addr) (m : Str → Option Value) (env : Env) (ifs : List Expr) (elt : Expr) (scope : Scope) (cl : List (Str × Addr)) (s : Shared) (I : Addr) (ws : List (Addr × String)) (Ld : σ → Led) (Ys : σ → List Value) (nm : (Str → Option Value) → Prop) (Jn : σ → Prop) (c : σ) : Prop :=
  ∀ (m₂ : Str → Option Value) (C : Nat) (oC : Obj) (D : Nat) (oI : Obj) (its : Led) (h : Heap) (tk : Nat) (E' : Value → Shared → Prop), nm m₂ → NsObj oC m₂ → Objs ws its → Fr h₀ L h m → News h₀ L h ((I, oI) :: (C, oC) :: (D, lst (Ys c)) :: (its ++ Ld c)) → Off3 I C D (its ++ Ld c) →
    ((@Ne Nat I C) ∧ (@Ne Nat I D) ∧ (@Ne Nat C D)) → (∀ p ∈ Ld c, ∀ q ∈ its, @Ne Nat p.1 q.1) →
    wpAny (model prog w) A (testsOf ifs (compEnvC scope cl C env)) (fun ok s' => if ok = true then
      wpAny (model prog w) A (eval elt (compEnvC scope cl C env)) (GcE h₀ L m { s with heap := h, toks := tk } I oI C oC D (Ys c) its Ld (fun y c' => Ys c' = Ys c ++ [y] ∧ Jn c')) E' s'
      else GcE h₀ L m { s with heap := h, toks := tk } I oI C oC D (Ys c) its Ld (fun _ c' => Ys c' = Ys c ∧ Jn c') .none s') E' { s with heap := h, toks := tk }
end
section
open PyProof.Rows.LCg
namespace gc_block
noncomputable def epsP : (σ : Type) → Program → World → Around → (Value → Shared → Prop) → Heap → Addr → (Str → Option Value) → Env → Expr → Expr → Expr → (List Expr) → Scope → (List (Str × Addr)) → Pos → Shared → Addr → (List Addr) → (List Addr) → Nat → (Nat → Value → Heap → Prop) → (Nat → Value → Heap → Prop) → (Nat → Heap → Prop) → String → (List (Addr × String)) → Led → (σ → Led) → (σ → List Value) → (Nat → σ → Prop) → σ → (Nat → (Str → Option Value) → Prop) → (Value → Addr → Result → Shared → Prop) → Prop := fun σ prog w A E h₀ L m env elt target iter ifs scope cl pos s₂ I fp wr n P Md St cI ws keep Ld Ys J c₀ nm RR => ∀ (W : KTurns prog w A target I fp wr n P Md St) (hself : ∀ (s : Shared) (Q : Value → Shared → Prop) (E : Value → Shared → Prop), St 0 s.heap → Q (.ref I) s → wpAny (model prog w) A (pyIter (.ref I)) Q E s) (hsz : n ≤ sizeLine) (hobj : ∀ i h, St i h → ∃ its, Objs ((I, cI) :: ws) its ∧ ∀ p ∈ its, h.get? p.1 = some p.2) (hws : ∀ b ∈ I :: ws.map (·.1), h₀.get? b = none ∧ b ≠ L ∧ b < s₂.heap.objs.size) (hnd : ∀ b ∈ ws.map (·.1), @Ne Nat b I) (hwr : ∀ b ∈ wr, b ∈ I :: ws.map (·.1)) (hfp : ∀ b ∈ fp, b ∈ I :: ws.map (·.1) ∨ (∃ o, (b, o) ∈ keep) ∨ ∃ o, h₀.get? b = some o) (hkeep : ∀ c, ∀ p ∈ keep, p ∈ Ld c) (hcell : ∀ y ∈ scope.names, y.2 ≠ .cell) (hkind : scope.kind = .function) (hst : St 0 s₂.heap) (F : Fr h₀ L s₂.heap m) (N : News h₀ L s₂.heap (Ld c₀)) (off : ∀ p ∈ Ld c₀, p.1 ∉ I :: ws.map (·.1)) (hY : Ys c₀ = []) (hJ₀ : J 0 c₀) (asg : ∀ (i : Nat) (v : Value) (c : σ) (s : Shared) (C : Addr) (m' : Str → Option Value) (Q : Unit → Shared → Prop) (E' : Value → Shared → Prop), i < n → P i v s.heap → J i c → s.heap.Ns C m' → News h₀ L s.heap (Ld c) →
      (∀ h' tk m₂, h'.Ns C m₂ → nm i m₂ → (∀ b o, b ≠ C → s.heap.get? b = some o → h'.get? b = some o) → Q () { s with heap := h', toks := tk }) → wpAny (model prog w) A (assign target (compEnvC scope cl C env) v) Q E' s) (turn : ∀ i c, i < n → J i c → GcTurn prog w A h₀ L m env ifs elt scope cl s₂ I ws Ld Ys (nm i) (J (i + 1)) c) (hRR : ∀ D C h tk m' c, Fr h₀ L h m → News h₀ L h ((D, lst (Ys c)) :: Ld c) → Off1 D (Ld c) → h.Ns C m' → h₀.get? C = none → h₀.get? D = none → C ≠ L → D ≠ L → C ≠ D → (∀ p ∈ Ld c, p.1 ≠ C) → J n c → RR (.ref D) C (.ok .next) { s₂ with heap := h, toks := tk }), wpAny (model prog w) A (newList []) (fun acc s₃ => wpAny (model prog w) A (newFunctionEnv scope env.globals cl [] env.qual none .none (some env)) (fun cenv s₄ =>
      codeAny (model prog w) A (.compStart (.ListComp elt [⟨target, iter, ifs, 0⟩] scope pos) 0 (.ref I) acc { cenv with scope := relabel scope env }) (RR acc cenv.locals) s₄) E s₃) E s₂
noncomputable abbrev epsT : Type 1 := (σ : Type) × (Program × World × Around × (Value → Shared → Prop) × Heap × Addr × (Str → Option Value) × Env × Expr × Expr × Expr × (List Expr) × Scope × (List (Str × Addr)) × Pos × Shared × Addr × (List Addr) × (List Addr) × Nat × (Nat → Value → Heap → Prop) × (Nat → Value → Heap → Prop) × (Nat → Heap → Prop) × String × (List (Addr × String)) × Led × (σ → Led) × (σ → List Value) × (Nat → σ → Prop) × σ × (Nat → (Str → Option Value) → Prop) × (Value → Addr → Result → Shared → Prop))
noncomputable abbrev epsQ : epsT → Prop := fun d => epsP d.1 d.2.1 d.2.2.1 d.2.2.2.1 d.2.2.2.2.1 d.2.2.2.2.2.1 d.2.2.2.2.2.2.1 d.2.2.2.2.2.2.2.1 d.2.2.2.2.2.2.2.2.1 d.2.2.2.2.2.2.2.2.2.1 d.2.2.2.2.2.2.2.2.2.2.1 d.2.2.2.2.2.2.2.2.2.2.2.1 d.2.2.2.2.2.2.2.2.2.2.2.2.1 d.2.2.2.2.2.2.2.2.2.2.2.2.2.1 d.2.2.2.2.2.2.2.2.2.2.2.2.2.2.1 d.2.2.2.2.2.2.2.2.2.2.2.2.2.2.2.1 d.2.2.2.2.2.2.2.2.2.2.2.2.2.2.2.2.1 d.2.2.2.2.2.2.2.2.2.2.2.2.2.2.2.2.2.1 d.2.2.2.2.2.2.2.2.2.2.2.2.2.2.2.2.2.2.1 d.2.2.2.2.2.2.2.2.2.2.2.2.2.2.2.2.2.2.2.1 d.2.2.2.2.2.2.2.2.2.2.2.2.2.2.2.2.2.2.2.2.1 d.2.2.2.2.2.2.2.2.2.2.2.2.2.2.2.2.2.2.2.2.2.1 d.2.2.2.2.2.2.2.2.2.2.2.2.2.2.2.2.2.2.2.2.2.2.1 d.2.2.2.2.2.2.2.2.2.2.2.2.2.2.2.2.2.2.2.2.2.2.2.1 d.2.2.2.2.2.2.2.2.2.2.2.2.2.2.2.2.2.2.2.2.2.2.2.2.1 d.2.2.2.2.2.2.2.2.2.2.2.2.2.2.2.2.2.2.2.2.2.2.2.2.2.1 d.2.2.2.2.2.2.2.2.2.2.2.2.2.2.2.2.2.2.2.2.2.2.2.2.2.2.1 d.2.2.2.2.2.2.2.2.2.2.2.2.2.2.2.2.2.2.2.2.2.2.2.2.2.2.2.1 d.2.2.2.2.2.2.2.2.2.2.2.2.2.2.2.2.2.2.2.2.2.2.2.2.2.2.2.2.1 d.2.2.2.2.2.2.2.2.2.2.2.2.2.2.2.2.2.2.2.2.2.2.2.2.2.2.2.2.2.1 d.2.2.2.2.2.2.2.2.2.2.2.2.2.2.2.2.2.2.2.2.2.2.2.2.2.2.2.2.2.2.1 d.2.2.2.2.2.2.2.2.2.2.2.2.2.2.2.2.2.2.2.2.2.2.2.2.2.2.2.2.2.2.2.1 d.2.2.2.2.2.2.2.2.2.2.2.2.2.2.2.2.2.2.2.2.2.2.2.2.2.2.2.2.2.2.2.2
theorem eN : Nonempty epsT := by
  have h : Nonempty ((fun σ : Type => Program × World × Around × (Value → Shared → Prop) × Heap × Addr × (Str → Option Value) × Env × Expr × Expr × Expr × (List Expr) × Scope × (List (Str × Addr)) × Pos × Shared × Addr × (List Addr) × (List Addr) × Nat × (Nat → Value → Heap → Prop) × (Nat → Value → Heap → Prop) × (Nat → Heap → Prop) × String × (List (Addr × String)) × Led × (σ → Led) × (σ → List Value) × (Nat → σ → Prop) × σ × (Nat → (Str → Option Value) → Prop) × (Value → Addr → Result → Shared → Prop)) Unit) := by
    dsimp only
    walk_at "ne_all"
  exact h.elim fun x => ⟨⟨Unit, x⟩⟩
@[irreducible] noncomputable def eK : epsT := Pk epsT eN epsQ
noncomputable abbrev σ : Type := eK.1
@[irreducible] noncomputable def prog : Program := eK.2.1
@[irreducible] noncomputable def w : World := eK.2.2.1
@[irreducible] noncomputable def A : Around := eK.2.2.2.1
@[irreducible] noncomputable def h₀ : Heap := eK.2.2.2.2.2.1
@[irreducible] noncomputable def L : Addr := eK.2.2.2.2.2.2.1
@[irreducible] noncomputable def m : Str → Option Value := eK.2.2.2.2.2.2.2.1
@[irreducible] noncomputable def env : Env := eK.2.2.2.2.2.2.2.2.1
@[irreducible] noncomputable def elt : Expr := eK.2.2.2.2.2.2.2.2.2.1
@[irreducible] noncomputable def target : Expr := eK.2.2.2.2.2.2.2.2.2.2.1
@[irreducible] noncomputable def iter : Expr := eK.2.2.2.2.2.2.2.2.2.2.2.1
@[irreducible] noncomputable def ifs : List Expr := eK.2.2.2.2.2.2.2.2.2.2.2.2.1
@[irreducible] noncomputable def scope : Scope := eK.2.2.2.2.2.2.2.2.2.2.2.2.2.1
@[irreducible] noncomputable def cl : List (Str × Addr) := eK.2.2.2.2.2.2.2.2.2.2.2.2.2.2.1
@[irreducible] noncomputable def pos : Pos := eK.2.2.2.2.2.2.2.2.2.2.2.2.2.2.2.1
@[irreducible] noncomputable def s₂ : Shared := eK.2.2.2.2.2.2.2.2.2.2.2.2.2.2.2.2.1
@[irreducible] noncomputable def I : Addr := eK.2.2.2.2.2.2.2.2.2.2.2.2.2.2.2.2.2.1
@[irreducible] noncomputable def fp : List Addr := eK.2.2.2.2.2.2.2.2.2.2.2.2.2.2.2.2.2.2.1
@[irreducible] noncomputable def wr : List Addr := eK.2.2.2.2.2.2.2.2.2.2.2.2.2.2.2.2.2.2.2.1
@[irreducible] noncomputable def n : Nat := eK.2.2.2.2.2.2.2.2.2.2.2.2.2.2.2.2.2.2.2.2.1
@[irreducible] noncomputable def St : Nat → Heap → Prop := eK.2.2.2.2.2.2.2.2.2.2.2.2.2.2.2.2.2.2.2.2.2.2.2.1
@[irreducible] noncomputable def ws : List (Addr × String) := eK.2.2.2.2.2.2.2.2.2.2.2.2.2.2.2.2.2.2.2.2.2.2.2.2.2.1
@[irreducible] noncomputable def Ld : σ → Led := eK.2.2.2.2.2.2.2.2.2.2.2.2.2.2.2.2.2.2.2.2.2.2.2.2.2.2.2.1
@[irreducible] noncomputable def Ys : σ → List Value := eK.2.2.2.2.2.2.2.2.2.2.2.2.2.2.2.2.2.2.2.2.2.2.2.2.2.2.2.2.1
@[irreducible] noncomputable def J : Nat → σ → Prop := eK.2.2.2.2.2.2.2.2.2.2.2.2.2.2.2.2.2.2.2.2.2.2.2.2.2.2.2.2.2.1
@[irreducible] noncomputable def c₀ : σ := eK.2.2.2.2.2.2.2.2.2.2.2.2.2.2.2.2.2.2.2.2.2.2.2.2.2.2.2.2.2.2.1
@[irreducible] noncomputable def RR : Value → Addr → Result → Shared → Prop := eK.2.2.2.2.2.2.2.2.2.2.2.2.2.2.2.2.2.2.2.2.2.2.2.2.2.2.2.2.2.2.2.2
theorem eC : epsP σ prog w A eK.2.2.2.2.1 h₀ L m env elt target iter ifs scope cl pos s₂ I fp wr n eK.2.2.2.2.2.2.2.2.2.2.2.2.2.2.2.2.2.2.2.2.2.1 eK.2.2.2.2.2.2.2.2.2.2.2.2.2.2.2.2.2.2.2.2.2.2.1 St eK.2.2.2.2.2.2.2.2.2.2.2.2.2.2.2.2.2.2.2.2.2.2.2.2.1 ws eK.2.2.2.2.2.2.2.2.2.2.2.2.2.2.2.2.2.2.2.2.2.2.2.2.2.2.1 Ld Ys J c₀ eK.2.2.2.2.2.2.2.2.2.2.2.2.2.2.2.2.2.2.2.2.2.2.2.2.2.2.2.2.2.2.2.1 RR := by
  unfold epsP
  intro W hself hsz hobj hws hnd hwr hfp hkeep hcell hkind hst F N off hY hJ₀ asg turn hRR
  refine wpAny_newObj_type (wpAny_newFunctionEnv hcell (by intro y hy; simp at hy) (fun h₁ hns₁ hsb₁ => ?_) hkind)
  dsimp only at hns₁ hsb₁ ⊢
  generalize hH2 : s₂.heap.push { cls := .type "list", dict := none, data := .seq ([] : List Value).toArray } = H2 at hns₁ hsb₁ ⊢
  have hC : H2.objs.size = s₂.heap.objs.size + 1 := by rw [← hH2, Heap.size_push]
  have hDC : s₂.heap.objs.size ≠ H2.objs.size := by rw [hC]; exact Nat.ne_of_lt (Nat.lt_succ_self _)
  have below : ∀ b, b < s₂.heap.objs.size → b ≠ H2.objs.size ∧ b ≠ s₂.heap.objs.size := fun b hb => ⟨by rw [hC]; exact Nat.ne_of_lt (Nat.lt_succ_of_lt hb), Nat.ne_of_lt hb⟩
  have old : ∀ b o, s₂.heap.get? b = some o → h₁.get? b = some o := fun b o e => hsb₁.extBut b o (below b (Heap.lt_size e)).1 (Heap.get?_push_of_some _ (hH2 ▸ Heap.get?_push_of_some _ e))
  have hacc : h₁.get? s₂.heap.objs.size = some (lst []) := hsb₁.extBut _ _ hDC (Heap.get?_push_of_some _ (hH2 ▸ Heap.get?_push_size _ rfl))
  have hst₁ : St 0 h₁ := W.frame _ _ _ hst fun b _ o e => old b o e
  have fresh : ∀ a, s₂.heap.objs.size ≤ a → s₂.heap.get? a = none := fun a ha => by
    cases e : s₂.heap.get? a with
    | none => rfl
    | some o' => exact absurd (Heap.lt_size e) (Nat.not_lt.mpr ha)
  have fresh₀ : ∀ a, s₂.heap.objs.size ≤ a → h₀.get? a = none := fun a ha => by
    cases e : h₀.get? a with
    | none => rfl
    | some o' => have := F.keep a o' e; rw [fresh a ha] at this; cases this
  have hD₀ : h₀.get? s₂.heap.objs.size = none := fresh₀ _ (Nat.le_refl _)
  have hC₀ : h₀.get? H2.objs.size = none := fresh₀ _ (by rw [hC]; exact Nat.le_succ _)
  have hLlt : L < s₂.heap.objs.size := F.ns.lt
  have hDL : s₂.heap.objs.size ≠ L := Ne.symm (below L hLlt).2
  have hCL : H2.objs.size ≠ L := Ne.symm (below L hLlt).1
  have hIlt : I < s₂.heap.objs.size := (hws I List.mem_cons_self).2.2
  have hCI : I ≠ H2.objs.size := (below I hIlt).1
  have hDI : I ≠ s₂.heap.objs.size := (below I hIlt).2
  have hfplt : ∀ b ∈ fp, b < s₂.heap.objs.size := fun b hb => by
    rcases hfp b hb with h | ⟨o, h⟩ | ⟨o, h⟩
    · exact (hws b h).2.2
    · exact Heap.lt_size (N _ (hkeep c₀ _ h)).1
    · exact Heap.lt_size (F.keep _ _ h)
  have hCw : ∀ b ∈ wr, b ≠ H2.objs.size ∧ b ≠ s₂.heap.objs.size ∧ b ≠ L ∧ h₀.get? b = none := fun b hb => by
    have h := hws b (hwr b hb)
    exact ⟨(below b h.2.2).1, (below b h.2.2).2, h.2.1, h.1⟩
  have loop : ∀ s₃ : Shared, s₃ = { s₂ with heap := h₁, toks := s₂.toks + ([] : List (Str × Value)).length } →
      codeAny (model prog w) A (.compLoop (.ListComp elt [⟨target, iter, ifs, 0⟩] scope pos) 0 (.ref I) (.ref s₂.heap.objs.size) (compEnvC scope cl H2.objs.size env))
        (RR (.ref s₂.heap.objs.size) H2.objs.size) s₃ := by
    rintro s₃ rfl
    refine gc_loop
      (fun k s' => ∃ h' tk i c m', s' = { s₂ with heap := h', toks := tk } ∧ i ≤ n ∧ k = n + 1 - i ∧ (Ys c).length ≤ i ∧ St i h' ∧ Fr h₀ L h' m ∧ h'.Ns H2.objs.size m' ∧ News h₀ L h' ((s₂.heap.objs.size, lst (Ys c)) :: Ld c) ∧
        (∀ p ∈ Ld c, p.1 ∉ I :: ws.map (·.1) ∧ p.1 ≠ H2.objs.size ∧ p.1 ≠ s₂.heap.objs.size) ∧ J i c) ?_ (n + 1)
      ⟨h₁, _, 0, c₀, _, rfl, Nat.zero_le _, rfl, by rw [hY]; exact Nat.le_refl _, hst₁, F.keeps old, hns₁, fun p hp => ?_, fun p hp => ⟨off p hp, below _ (Heap.lt_size (N p hp).1)⟩, hJ₀⟩
    · rintro k s' ⟨h', tk, i, c, m', rfl, hi, rfl, hyl, hst', F', hn', N', off', hJ'⟩
      have up : ∀ (hx : Heap), (∀ b o, b ∉ wr → h'.get? b = some o → hx.get? b = some o) → Fr h₀ L hx m ∧ News h₀ L hx ((s₂.heap.objs.size, lst (Ys c)) :: Ld c) ∧ hx.Ns H2.objs.size m' := fun hx hk => by
        refine ⟨⟨F'.ns.at' fun o e => hk _ o (fun q => (hCw _ q).2.2.1 rfl) e, fun b o e => hk b o (fun q => by rw [(hCw _ q).2.2.2] at e; cases e) (F'.keep b o e), F'.above⟩, fun p hp => ⟨hk _ _ (fun q => ?_) (N' p hp).1, (N' p hp).2⟩, hn'.at' fun o e => hk _ o (fun q => (hCw _ q).1 rfl) e⟩
        rcases List.mem_cons.mp hp with rfl | hp
        · exact (hCw _ q).2.1 rfl
        · exact (off' p hp).1 (hwr _ q)
      by_cases hlt : i < n
      · refine W.item i _ _ _ hlt hst' fun v h₂ tk₂ hMd hk₂ => ?_
        refine W.go i v _ _ _ hMd fun h₃ hP hst₃ hk₃ => ?_
        obtain ⟨F₃, N₃, hn₃⟩ := up h₃ fun b o hb e => hk₃ b o hb (hk₂ b o hb e)
        refine asg i v c _ H2.objs.size m' _ _ hlt hP hJ' hn₃ (fun p hp => N₃ p (List.mem_cons_of_mem _ hp)) fun h₄ tk₄ m₂ hn₄ hm₂ hk₄ => ?_
        have hst₄ : St (i + 1) h₄ := W.frame _ _ _ hst₃ fun b hb o e => hk₄ b o (below b (hfplt b hb)).1 e
        obtain ⟨its₀, hits, hval⟩ := hobj _ _ hst₄
        match its₀, hits, hval with
        | [], hits, _ => exact (show False from hits).elim
        | (I', oI) :: its, hits, hval =>
        have eI : I' = I := hits.1.1
        subst eI
        have hits' : Objs ws its := hits.2
        have hmap := hits'.map
        have heI : h₄.get? I = some oI := hval _ List.mem_cons_self
        obtain ⟨oC, heC, hoC⟩ := ns_obj hn₄
        have F₄ : Fr h₀ L h₄ m := ⟨F₃.ns.at' fun o e => hk₄ _ o (Ne.symm hCL) e, fun b o e => hk₄ b o (fun q => by rw [q, hC₀] at e; cases e) (F₃.keep b o e), F₃.above⟩
        have itw : ∀ q ∈ its, q.1 ∈ ws.map (·.1) := fun q hq => by rw [← hmap]; exact List.mem_map_of_mem hq
        have N₄ : News h₀ L h₄ ((I, oI) :: (H2.objs.size, oC) :: (s₂.heap.objs.size, lst (Ys c)) :: (its ++ Ld c)) := fun p hp => by
          rcases List.mem_cons.mp hp with rfl | hp
          · exact ⟨heI, (hws _ List.mem_cons_self).2.1, (hws _ List.mem_cons_self).1⟩
          rcases List.mem_cons.mp hp with rfl | hp
          · exact ⟨heC, hCL, hC₀⟩
          rcases List.mem_cons.mp hp with rfl | hp
          · exact ⟨hk₄ _ _ hDC (N₃ _ List.mem_cons_self).1, hDL, hD₀⟩
          rcases List.mem_append.mp hp with hp | hp
          · have := hws p.1 (List.mem_cons_of_mem _ (itw p hp))
            exact ⟨hval _ (List.mem_cons_of_mem _ hp), this.2.1, this.1⟩
          · have z := N₃ p (List.mem_cons_of_mem _ hp)
            exact ⟨hk₄ _ _ (off' p hp).2.1 z.1, z.2⟩
        have off₄ : Off3 I H2.objs.size s₂.heap.objs.size (its ++ Ld c) := Off3.of fun p hp => by
          rcases List.mem_append.mp hp with hp | hp
          · have := hws p.1 (List.mem_cons_of_mem _ (itw p hp))
            exact ⟨hnd _ (itw p hp), (below _ this.2.2).1, (below _ this.2.2).2⟩
          · exact ⟨fun q => (off' p hp).1 (q ▸ List.mem_cons_self), (off' p hp).2⟩
        have ow₄ : ∀ p ∈ Ld c, ∀ q ∈ its, @Ne Nat p.1 q.1 := fun p hp q hq e => (off' p hp).1 (List.mem_cons_of_mem _ (by have := itw q hq; rw [← e] at this; exact this))
        have fin : ∀ (c' : σ) (h₅ : Heap) (tk₅ : Nat) (ysD : List Value), Fr h₀ L h₅ m → News h₀ L h₅ ((I, oI) :: (H2.objs.size, oC) :: (s₂.heap.objs.size, lst ysD) :: (its ++ Ld c')) → St (i + 1) h₄ → (∀ b o, (b, o) ∈ its ++ Ld c' → h₅.get? b = some o) → St (i + 1) h₅ := fun c' h₅ tk₅ ysD F₅ N₅ hs hg => by
          refine W.frame _ _ _ hs fun b hb o e => ?_
          rcases hfp b hb with h | ⟨o₁, h⟩ | ⟨o₁, h⟩
          · rcases List.mem_cons.mp h with rfl | h
            · rw [heI] at e; cases e
              exact (N₅ _ List.mem_cons_self).1
            · rw [← hmap] at h
              obtain ⟨q, hq, rfl⟩ := List.mem_map.mp h
              have := hval _ (List.mem_cons_of_mem _ hq)
              rw [this] at e; cases e
              exact hg _ _ (List.mem_append_left _ hq)
          · have h1 := (N₄ _ (List.mem_cons_of_mem _ (List.mem_cons_of_mem _ (List.mem_cons_of_mem _ (List.mem_append_right _ (hkeep c _ h)))))).1
            rw [h1] at e; cases e
            exact hg _ _ (List.mem_append_right _ (hkeep c' _ h))
          · have h1 := F₄.keep _ _ h
            rw [h1] at e; cases e
            exact F₅.keep _ _ h
        refine wpAny_mono (turn i c hlt hJ' m₂ H2.objs.size oC s₂.heap.objs.size oI its h₄ _ _ hm₂ hoC hits' F₄ N₄ off₄ ⟨hCI, hDI, Ne.symm hDC⟩ ow₄) (fun ok s₅ h₅' => ?_) fun _ _ e => e
        cases ok with
        | true =>
          simp only [if_true] at h₅' ⊢
          refine wpAny_mono h₅' (fun y s₆ h₆' => ?_) fun _ _ e => e
          obtain ⟨h₅, tk₅, c', rfl, F₅, N₅, off₅, ow₅, hYc, hJc⟩ := h₆'
          have off5 := off₅.mem
          have zC := (N₅ (H2.objs.size, oC) (List.mem_cons_of_mem _ List.mem_cons_self)).1
          have zD := (N₅ (s₂.heap.objs.size, lst (Ys c)) (List.mem_cons_of_mem _ (List.mem_cons_of_mem _ List.mem_cons_self))).1
          have zR : ∀ p ∈ its ++ Ld c', h₅.get? p.1 = some p.2 ∧ p.1 ≠ L ∧ h₀.get? p.1 = none := fun p hp => N₅ p (List.mem_cons_of_mem _ (List.mem_cons_of_mem _ (List.mem_cons_of_mem _ hp)))
          have hst₅ : St (i + 1) h₅ := fin c' h₅ tk₅ _ F₅ N₅ hst₄ fun b o hb => (zR _ hb).1
          refine append_at (hsz := by show (Ys c).toArray.size ≤ sizeLine; rw [List.size_toArray]; exact Nat.le_trans (Nat.le_trans hyl hi) hsz) zD fun h₆ hs₆ hD₆ => ?_
          refine ⟨n + 1 - (i + 1), by omega, h₆, tk₅, i + 1, c', _, rfl, hlt, rfl, by rw [hYc, List.length_append, List.length_singleton]; exact Nat.succ_le_succ hyl, W.frame _ _ _ hst₅ fun b hb o e => hs₆.extBut b o (below b (hfplt b hb)).2 e, F₅.change hs₆ hDL hD₀,
            (hoC.ns zC).sameBut hs₆ (Ne.symm hDC), fun p hp => ?_, fun p hp => ?_, hJc⟩
          · rcases List.mem_cons.mp hp with rfl | hp
            · exact ⟨hD₆.trans (by rw [hYc]; exact congrArg some (lst_snoc (Ys c) y)), hDL, hD₀⟩
            · have hp' := List.mem_append_right its hp
              exact ⟨hs₆.extBut _ _ (off5 p hp').2.2 (zR p hp').1, (zR p hp').2⟩
          · have hp' := List.mem_append_right its hp
            refine ⟨fun q => ?_, (off5 p hp').2.1, (off5 p hp').2.2⟩
            rcases List.mem_cons.mp q with q | q
            · exact (off5 p hp').1 q
            · rw [← hmap] at q
              obtain ⟨r, hr, e⟩ := List.mem_map.mp q
              exact ow₅ p hp r hr e.symm
        | false =>
          simp only [Bool.false_eq_true, if_false] at h₅' ⊢
          obtain ⟨h₅, tk₅, c', rfl, F₅, N₅, off₅, ow₅, hYc, hJc⟩ := h₅'
          have off5 := off₅.mem
          have zC := (N₅ (H2.objs.size, oC) (List.mem_cons_of_mem _ List.mem_cons_self)).1
          have zR : ∀ p ∈ its ++ Ld c', h₅.get? p.1 = some p.2 ∧ p.1 ≠ L ∧ h₀.get? p.1 = none := fun p hp => N₅ p (List.mem_cons_of_mem _ (List.mem_cons_of_mem _ (List.mem_cons_of_mem _ hp)))
          have hst₅ : St (i + 1) h₅ := fin c' h₅ tk₅ _ F₅ N₅ hst₄ fun b o hb => (zR _ hb).1
          refine ⟨n + 1 - (i + 1), by omega, h₅, tk₅, i + 1, c', _, rfl, hlt, rfl, by rw [hYc]; exact Nat.le_succ_of_le hyl, hst₅, F₅, hoC.ns zC, fun p hp => ?_, fun p hp => ?_, hJc⟩
          · rcases List.mem_cons.mp hp with rfl | hp
            · rw [hYc]; exact N₅ _ (List.mem_cons_of_mem _ (List.mem_cons_of_mem _ List.mem_cons_self))
            · exact zR p (List.mem_append_right its hp)
          · have hp' := List.mem_append_right its hp
            refine ⟨fun q => ?_, (off5 p hp').2.1, (off5 p hp').2.2⟩
            rcases List.mem_cons.mp q with q | q
            · exact (off5 p hp').1 q
            · rw [← hmap] at q
              obtain ⟨r, hr, e⟩ := List.mem_map.mp q
              exact ow₅ p hp r hr e.symm
      · obtain rfl : i = n := Nat.le_antisymm hi (Nat.not_lt.mp hlt)
        refine W.done _ _ _ hst' fun h₂ tk₂ hk₂ => ?_
        obtain ⟨F₂, N₂, hn₂⟩ := up h₂ hk₂
        exact hRR _ _ h₂ tk₂ _ c F₂ N₂ (Off3.one (Off3.of fun p hp => ⟨fun q => (off' p hp).1 (q ▸ List.mem_cons_self), (off' p hp).2⟩ : Off3 I H2.objs.size s₂.heap.objs.size (Ld c))) hn₂ hC₀ hD₀ hCL hDL (Ne.symm hDC) (fun p hp => (off' p hp).2.1) hJ'
    · rcases List.mem_cons.mp hp with rfl | hp
      · rw [hY]; exact ⟨hacc, hDL, hD₀⟩
      · exact ⟨old _ _ (N p hp).1, (N p hp).2⟩
  exact codeAny_compStart_list (loop _ rfl) (hself _ _ _ hst₁ (loop _ rfl))
end gc_block
theorem gc_block {prog : Program} {w : World} {A : Around} {E : Value → Shared → Prop} {h₀ : Heap} {L : Addr} {m : Str → Option Value} {env : Env} {σ : Type} {elt : Expr} {target : Expr} {iter : Expr} {ifs : List Expr} {scope : Scope} {cl : List (Str × Addr)} {pos : Pos} {s₂ : Shared} {I : Addr} {fp : List Addr} {wr : List Addr} {n : Nat} {P : Nat → Value → Heap → Prop} {Md : Nat → Value → Heap → Prop} {St : Nat → Heap → Prop} {cI : String} {ws : List (Addr × String)} {keep : Led} (Ld : σ → Led) (Ys : σ → List Value) (J : Nat → σ → Prop) (c₀ : σ) (nm : Nat → (Str → Option Value) → Prop) {RR : Value → Addr → Result → Shared → Prop} (W : KTurns prog w A target I fp wr n P Md St) (hself : ∀ (s : Shared) (Q : Value → Shared → Prop) (E : Value → Shared → Prop), St 0 s.heap → Q (.ref I) s → wpAny (model prog w) A (pyIter (.ref I)) Q E s) (hsz : n ≤ sizeLine) (hobj : ∀ i h, St i h → ∃ its, Objs ((I, cI) :: ws) its ∧ ∀ p ∈ its, h.get? p.1 = some p.2) (hws : ∀ b ∈ I :: ws.map (·.1), h₀.get? b = none ∧ b ≠ L ∧ b < s₂.heap.objs.size) (hnd : ∀ b ∈ ws.map (·.1), @Ne Nat b I) (hwr : ∀ b ∈ wr, b ∈ I :: ws.map (·.1)) (hfp : ∀ b ∈ fp, b ∈ I :: ws.map (·.1) ∨ (∃ o, (b, o) ∈ keep) ∨ ∃ o, h₀.get? b = some o) (hkeep : ∀ c, ∀ p ∈ keep, p ∈ Ld c) (hcell : ∀ y ∈ scope.names, y.2 ≠ .cell) (hkind : scope.kind = .function) (hst : St 0 s₂.heap) (F : Fr h₀ L s₂.heap m) (N : News h₀ L s₂.heap (Ld c₀)) (off : ∀ p ∈ Ld c₀, p.1 ∉ I :: ws.map (·.1)) (hY : Ys c₀ = []) (hJ₀ : J 0 c₀) (asg : ∀ (i : Nat) (v : Value) (c : σ) (s : Shared) (C : Addr) (m' : Str → Option Value) (Q : Unit → Shared → Prop) (E' : Value → Shared → Prop), i < n → P i v s.heap → J i c → s.heap.Ns C m' → News h₀ L s.heap (Ld c) →
      (∀ h' tk m₂, h'.Ns C m₂ → nm i m₂ → (∀ b o, b ≠ C → s.heap.get? b = some o → h'.get? b = some o) → Q () { s with heap := h', toks := tk }) → wpAny (model prog w) A (assign target (compEnvC scope cl C env) v) Q E' s) (turn : ∀ i c, i < n → J i c → GcTurn prog w A h₀ L m env ifs elt scope cl s₂ I ws Ld Ys (nm i) (J (i + 1)) c) (hRR : ∀ D C h tk m' c, Fr h₀ L h m → News h₀ L h ((D, lst (Ys c)) :: Ld c) → Off1 D (Ld c) → h.Ns C m' → h₀.get? C = none → h₀.get? D = none → C ≠ L → D ≠ L → C ≠ D → (∀ p ∈ Ld c, p.1 ≠ C) → J n c → RR (.ref D) C (.ok .next) { s₂ with heap := h, toks := tk }) : wpAny (model prog w) A (newList []) (fun acc s₃ => wpAny (model prog w) A (newFunctionEnv scope env.globals cl [] env.qual none .none (some env)) (fun cenv s₄ =>
      codeAny (model prog w) A (.compStart (.ListComp elt [⟨target, iter, ifs, 0⟩] scope pos) 0 (.ref I) acc { cenv with scope := relabel scope env }) (RR acc cenv.locals) s₄) E s₃) E s₂ := Pk.all (T := gc_block.epsT) (ne := gc_block.eN) (Q := gc_block.epsQ) (by with_unfolding_all exact gc_block.eC) (⟨σ, prog, w, A, E, h₀, L, m, env, elt, target, iter, ifs, scope, cl, pos, s₂, I, fp, wr, n, P, Md, St, cI, ws, keep, Ld, Ys, J, c₀, nm, RR⟩) W hself hsz hobj hws hnd hwr hfp hkeep hcell hkind hst F N off hY hJ₀ asg turn hRR
end
section
open PyProof.Rows.LCg
variable {prog : Program} {w : World} {A : Around} {E : Value → Shared → Prop} {s : Shared} {h₀ : Heap} {L : Addr} {m : Str → Option Value} {env : Env} {σ : Type}
end
end
section
section
open PyProof.Rows.LCg
variable {prog : Program} {w : World} {A : Around} {E : Value → Shared → Prop} {s : Shared} {h₀ : Heap} {L : Addr} {m : Str → Option Value} {env : Env} {σ : Type}
  {elt target iter : Expr} {ifs : List Expr} {scope : Scope} {cl : List (Str × Addr)} {pos : Pos} {Fin' : Shared → List Value → Led → Prop}
noncomputable def GcIt (prog : Program) (w : World) (A : Around) (h₀ : Heap) (L : Addr) (m : Str → Option Value) (env : Env) (elt target iter : Expr) (ifs : List Expr) (scope : Scope) (cl : List (Str × Addr)) (pos : Pos) (E : Value → Shared → Prop) (Fin' : Shared → List Value → Led → Prop) (it : Value) (s₂ : Shared) : Prop :=
  ∀ RR : Value → Addr → Result → Shared → Prop, (∀ D C h tk m' ys news', Fr h₀ L h m → News h₀ L h ((D, lst ys) :: news') → Off1 D news' → h.Ns C m' → h₀.get? C = none → h₀.get? D = none → C ≠ L → D ≠ L → C ≠ D → (∀ p ∈ news', p.1 ≠ C) → Fin' s₂ ys news' → RR (.ref D) C (.ok .next) { s₂ with heap := h, toks := tk }) →
    wpAny (model prog w) A (newList []) (fun acc s₃ => wpAny (model prog w) A (newFunctionEnv scope env.globals cl [] env.qual none .none (some env)) (fun cenv s₄ =>
      codeAny (model prog w) A (.compStart (.ListComp elt [⟨target, iter, ifs, 0⟩] scope pos) 0 it acc { cenv with scope := relabel scope env }) (RR acc cenv.locals) s₄) E s₃) E s₂
theorem gc_eval {Q : Value → Shared → Prop} (_F₀ : Fr h₀ L s.heap m)
    (hclos : closureFor scope env = pure cl) (hkind : scope.kind = .function) (hnames : ∀ y ∈ scope.names, y.2 = .local → scope.names.lookup y.1 = some .local)
    (h : wpAny (model prog w) A (eval iter env) (fun xv s₁ => wpAny (model prog w) A (pyIter xv) (GcIt prog w A h₀ L m env elt target iter ifs scope cl pos E (fun s₂ => FinE h₀ L m s₂ Q)) E s₁) E s)
    (hs : ∀ x, foldedSetIterable iter env x = pure x := by intro _; rfl) :
    wpAny (model prog w) A (eval (.ListComp elt [⟨target, iter, ifs, 0⟩] scope pos) env) Q E s := by
  rw [eval_ListComp]
  refine wpAny_comprehension_free (use := none) rfl hs hclos hkind hnames (wpAny_mono h (fun xv s₁ h₁ => wpAny_mono h₁ (fun it s₂ h₂ => ?_) fun _ _ e => e) fun _ _ e => e)
  refine h₂ _ ?_
  intro D C h tk m' ys news' F' N' o1 hn hC₀ hD₀ hCL hDL hCD offC fin
  refine ⟨m', hn, fun h'' hs'' => fin D h'' tk (F'.change hs'' hCL hC₀) (fun p hp => ?_) o1⟩
  refine ⟨hs''.extBut _ _ ?_ (N' p hp).1, (N' p hp).2⟩
  rcases List.mem_cons.mp hp with rfl | hp
  · exact Ne.symm hCD
  · exact offC p hp
theorem gc_assign {y : Str} {py spos : Pos} {Q : Flow → Shared → Prop} (_F₀ : Fr h₀ L s.heap m) (hLe : env.locals = L)
    (hsw : swapsWith (.ListComp elt [⟨target, iter, ifs, 0⟩] scope pos) (some (.Name y py)) spos.line env = pure true)
    (hclos : closureFor scope env = pure cl) (hkind : scope.kind = .function) (hnames : ∀ z ∈ scope.names, z.2 = .local → scope.names.lookup z.1 = some .local)
    (hy : env.kindOf y = some .local) (hp : (env.scope.kind == .class || (env.scope.kind == .module && env.locals != env.globals)) = false)
    (h : wpAny (model prog w) A (eval iter env) (fun xv s₁ => wpAny (model prog w) A (pyIter xv) (GcIt prog w A h₀ L m env elt target iter ifs scope cl pos E (fun s₂ => FinA h₀ L m s₂ y Q)) E s₁) E s)
    (hs : ∀ x, foldedSetIterable iter env x = pure x := by intro _; rfl) :
    wpAny (model prog w) A (exec (.Assign [.Name y py] (.ListComp elt [⟨target, iter, ifs, 0⟩] scope pos) spos) env) Q E s := by
  subst hLe
  rw [exec_Assign_Name_used _ _ _ _ hsw]
  refine wpAny_bind (wpAny_standAt (wpAny_bind ?_))
  show wpAny _ A (do let _ ← comprehension (.ListComp elt [⟨target, iter, ifs, 0⟩] scope pos) scope env _ (newList []) false (eval iter env) (some (assign (.Name y py) env))) _ _ s
  refine wpAny_bind (wpAny_mono (wpAny_comprehension_free (use := some (assign (.Name y py) env)) (Q := fun _ s' => Q .next s') rfl hs hclos hkind hnames
    (wpAny_mono h (fun xv s₁ h₁ => wpAny_mono h₁ (fun it s₂ h₂ => ?_) fun _ _ e => e) fun _ _ e => e)) (fun _ s' hq => wpAny_pure (wpAny_pure hq)) fun _ _ e => e)
  refine h₂ _ ?_
  intro D C h' tk m' ys news' F' N' o1 hn hC₀ hD₀ hCL hDL hCD offC fin
  show wpAny _ A (assign (.Name y py) env (.ref D)) _ _ _
  refine wpAny_assign_Name (wpAny_storeName_local hy F'.ns (fun h₂ hn₂ hs₂ => ?_) hp)
  have hL₀ : h₀.get? env.locals = none := Heap.get?_none_of_le F'.above
  have F₂ : Fr h₀ env.locals h₂ (fun z => if z = y then some (.ref D) else m z) := ⟨hn₂, fun b o e => hs₂.extBut b o (fun q => by rw [q, hL₀] at e; cases e) (F'.keep b o e), F'.above⟩
  refine ⟨m', hn.sameBut hs₂ hCL, fun h'' hs'' => fin D h'' _ (F₂.change hs'' hCL hC₀) (fun p hp => ?_) o1⟩
  have z : h₂.get? p.1 = some p.2 := hs₂.extBut _ _ (N' p hp).2.1 (N' p hp).1
  refine ⟨hs''.extBut _ _ ?_ z, (N' p hp).2⟩
  rcases List.mem_cons.mp hp with rfl | hp
  · exact Ne.symm hCD
  · exact offC p hp
theorem asg_name {x : Str} {px : Pos} {C : Addr} {m' : Str → Option Value} {v : Value} {Q : Unit → Shared → Prop} (hx : scope.names.lookup x = some .local) (hkind : scope.kind = .function) (hn : s.heap.Ns C m')
    (k : ∀ h' tk m₂, h'.Ns C m₂ → m₂ x = some v → (∀ b o, b ≠ C → s.heap.get? b = some o → h'.get? b = some o) → Q () { s with heap := h', toks := tk }) : wpAny (model prog w) A (assign (.Name x px) (compEnvC scope cl C env) v) Q E s :=
  wpAny_assign_Name (wpAny_storeName_local (lookup_relabel_local hx) hn (fun h₃ hn₃ hs₃ => k h₃ _ _ hn₃ (by simp) fun b o hb e => hs₃.extBut b o hb e) (by simp [compEnvC, relabel, hkind]))
theorem asg_pair {x y : Str} {px py tp : Pos} {kk : Nat} {C t : Addr} {m' : Str → Option Value} {v₁ v₂ : Value} {Q : Unit → Shared → Prop} (hx : scope.names.lookup x = some .local) (hy : scope.names.lookup y = some .local) (hxy : x ≠ y) (hkind : scope.kind = .function) (hh : A.handled = none) (hn : s.heap.Ns C m') (ht : IsTup s.heap t #[v₁, v₂])
    (k : ∀ h' tk m₂, h'.Ns C m₂ → m₂ x = some v₁ ∧ m₂ y = some v₂ → (∀ b o, b ≠ C → s.heap.get? b = some o → h'.get? b = some o) → Q () { s with heap := h', toks := tk }) : wpAny (model prog w) A (assign (.Tuple [.Name x px, .Name y py] kk tp) (compEnvC scope cl C env) (.ref t)) Q E s := by
  refine assign_Tuple_tuple hh ht rfl rfl fun h₅ he => ?_
  have he' : ∀ b o, s.heap.get? b = some o → h₅.get? b = some o := fun b o e => he b o (Nat.ne_of_lt (Heap.lt_size e)) e
  refine assignInOrder_cons (wpAny_assign_Name (wpAny_storeName_local (lookup_relabel_local hx) (hn.at' fun o e => he' _ o e) (fun h₆ hn₆ hs₆ => ?_) (by simp [compEnvC, relabel, hkind])))
  refine assignInOrder_cons (wpAny_assign_Name (wpAny_storeName_local (lookup_relabel_local hy) hn₆ (fun h₃ hn₃ hs₃ => ?_) (by simp [compEnvC, relabel, hkind])))
  refine assignInOrder_nil ?_
  exact k h₃ _ _ hn₃ ⟨by simp [hxy], by simp⟩ fun b o hb e => hs₃.extBut b o hb (hs₆.extBut b o hb (he' b o e))
theorem asg_quad {x y z u : Str} {px py pz pu tp : Pos} {kk : Nat} {C t : Addr} {m' : Str → Option Value} {v₁ v₂ v₃ v₄ : Value} {Q : Unit → Shared → Prop} (hx : scope.names.lookup x = some .local) (hy : scope.names.lookup y = some .local) (hz : scope.names.lookup z = some .local) (hu : scope.names.lookup u = some .local)
    (hxy : x ≠ y) (hxz : x ≠ z) (hxu : x ≠ u) (hyz : y ≠ z) (hyu : y ≠ u) (hzu : z ≠ u) (hkind : scope.kind = .function) (hh : A.handled = none) (hn : s.heap.Ns C m') (ht : IsTup s.heap t #[v₁, v₂, v₃, v₄])
    (k : ∀ h' tk m₂, h'.Ns C m₂ → m₂ x = some v₁ ∧ m₂ y = some v₂ ∧ m₂ z = some v₃ ∧ m₂ u = some v₄ → (∀ b o, b ≠ C → s.heap.get? b = some o → h'.get? b = some o) → Q () { s with heap := h', toks := tk }) : wpAny (model prog w) A (assign (.Tuple [.Name x px, .Name y py, .Name z pz, .Name u pu] kk tp) (compEnvC scope cl C env) (.ref t)) Q E s := by
  refine assign_Tuple_tuple hh ht rfl rfl fun h₅ he => ?_
  have he' : ∀ b o, s.heap.get? b = some o → h₅.get? b = some o := fun b o e => he b o (Nat.ne_of_lt (Heap.lt_size e)) e
  refine assignInOrder_cons (wpAny_assign_Name (wpAny_storeName_local (lookup_relabel_local hx) (hn.at' fun o e => he' _ o e) (fun h₁ hn₁ hs₁ => ?_) (by simp [compEnvC, relabel, hkind])))
  refine assignInOrder_cons (wpAny_assign_Name (wpAny_storeName_local (lookup_relabel_local hy) hn₁ (fun h₂ hn₂ hs₂ => ?_) (by simp [compEnvC, relabel, hkind])))
  refine assignInOrder_cons (wpAny_assign_Name (wpAny_storeName_local (lookup_relabel_local hz) hn₂ (fun h₃ hn₃ hs₃ => ?_) (by simp [compEnvC, relabel, hkind])))
  refine assignInOrder_cons (wpAny_assign_Name (wpAny_storeName_local (lookup_relabel_local hu) hn₃ (fun h₄ hn₄ hs₄ => ?_) (by simp [compEnvC, relabel, hkind])))
  refine assignInOrder_nil ?_
  exact k h₄ _ _ hn₄ ⟨by simp [hxy, hxz, hxu], by simp [hyz, hyu], by simp [hzu], by simp⟩ fun b o hb e => hs₄.extBut b o hb (hs₃.extBut b o hb (hs₂.extBut b o hb (hs₁.extBut b o hb (he' b o e))))
theorem gc_one {fp : List Addr} {n : Nat} {P : Nat → Value → Prop} {St : Nat → Heap → Prop} {cI : String} {keep all : Led} {oI : Obj} (Ld : σ → Led) (Ys : σ → List Value) (J : Nat → σ → Prop) (c₀ : σ) (nm : Nat → (Str → Option Value) → Prop)
    (W : Walks prog w A s.heap.objs.size fp [s.heap.objs.size] n P St) (hgo : ∀ i v (s' : Shared) (Q : Unit → Shared → Prop) (E : Value → Shared → Prop), St i s'.heap → Q () s' → wpAny (model prog w) A (letOwnedTupleGo target (.ref s.heap.objs.size) v) Q E s') (hsz : n ≤ sizeLine)
    (hobj : ∀ i h, St i h → ∃ o, h.get? s.heap.objs.size = some o ∧ o.cls = .type cI) (hst : St 0 (s.heap.push oI))
    (hfp : ∀ b ∈ fp, b = s.heap.objs.size ∨ (∃ o, (b, o) ∈ keep) ∨ ∃ o, h₀.get? b = some o) (hkeep : ∀ c, ∀ p ∈ keep, p ∈ Ld c)
    (hcell : ∀ y ∈ scope.names, y.2 ≠ .cell) (hkind : scope.kind = .function)
    (F : Fr h₀ L s.heap m) (N : News h₀ L s.heap all) (hsub : ∀ p ∈ Ld c₀, p ∈ all) (hY : Ys c₀ = []) (hJ₀ : J 0 c₀)
    (asg : ∀ (i : Nat) (v : Value) (c : σ) (s : Shared) (C : Addr) (m' : Str → Option Value) (Q : Unit → Shared → Prop) (E' : Value → Shared → Prop), i < n → P i v → J i c → s.heap.Ns C m' → News h₀ L s.heap (Ld c) →
      (∀ h' tk m₂, h'.Ns C m₂ → nm i m₂ → (∀ b o, b ≠ C → s.heap.get? b = some o → h'.get? b = some o) → Q () { s with heap := h', toks := tk }) → wpAny (model prog w) A (assign target (compEnvC scope cl C env) v) Q E' s)
    (turn : ∀ I i c, (∀ p ∈ all, p.1 < I) → i < n → J i c → GcTurn prog w A h₀ L m env ifs elt scope cl s I [] Ld Ys (nm i) (J (i + 1)) c)
    (fin : ∀ c, J n c → Fin' { s with heap := s.heap.push oI } (Ys c) (Ld c)) :
    GcIt prog w A h₀ L m env elt target iter ifs scope cl pos E Fin' (.ref s.heap.objs.size) { s with heap := s.heap.push oI } := by
  intro RR hRR
  have hlt : ∀ p ∈ all, p.1 < s.heap.objs.size := fun p hp => Heap.lt_size (N p hp).1
  refine gc_block (I := s.heap.objs.size) (cI := cI) (ws := []) (keep := keep) Ld Ys J c₀ nm (KTurns.ofWalks W hgo) (fun s' Q E st h => W.self 0 s' Q E st h) hsz (fun i h st => ?_) (fun b hb => ?_) (fun b hb => by cases hb) (fun b hb => hb) (fun b hb => ?_) hkeep hcell hkind hst
    (F.push _) (fun p hp => ⟨Heap.get?_push_of_some _ (N p (hsub p hp)).1, (N p (hsub p hp)).2⟩) (fun p hp hI => ?_) hY hJ₀ (fun i v c s' C m' Q E' hi hP hJ hn N' k => asg i v c s' C m' Q E' hi hP hJ hn N' k)
    (fun i c hi hJ => turn _ i c hlt hi hJ) (fun D C h tk m' c F' N' o1 hn hC₀ hD₀ hCL hDL hCD offC hJ => hRR D C h tk m' _ _ F' N' o1 hn hC₀ hD₀ hCL hDL hCD offC (fin c hJ))
  · obtain ⟨o, h1, h2⟩ := hobj i h st
    exact ⟨[(_, o)], ⟨⟨rfl, h2⟩, trivial⟩, fun p hp => by rw [List.mem_singleton.mp hp]; exact h1⟩
  · rw [List.mem_singleton.mp hb]
    refine ⟨next_is_new F, Nat.ne_of_gt F.ns.lt, ?_⟩
    show s.heap.objs.size < (s.heap.push _).objs.size
    rw [Heap.size_push]; exact Nat.lt_succ_self _
  · rcases hfp b hb with h | h
    · exact .inl (h ▸ List.mem_cons_self)
    · exact .inr h
  · exact absurd (hlt p (hsub p hp)) ((List.mem_singleton.mp hI) ▸ Nat.lt_irrefl _)
theorem gc_range {x : Str} {px : Pos} {r : Addr} {a b : Int} {t u v : Tok} {n : Nat} {all : Led} (Ld : σ → Led) (Ys : σ → List Value) (J : Nat → σ → Prop) (c₀ : σ)
    (hh : A.handled = none) (hr : IsRange s.heap r a b 1 t u v) (hsm : Builtin.Range.small a b 1 = true) (hn : Builtin.Range.rangeSize a b 1 = ((n : Nat) : Int)) (hsz : n ≤ sizeLine)
    (hcell : ∀ y ∈ scope.names, y.2 ≠ .cell) (hkind : scope.kind = .function) (hx : scope.names.lookup x = some .local)
    (F : Fr h₀ L s.heap m) (N : News h₀ L s.heap all) (hsub : ∀ p ∈ Ld c₀, p ∈ all) (hY : Ys c₀ = []) (hJ₀ : J 0 c₀)
    (turn : ∀ I i c, (∀ p ∈ all, p.1 < I) → i < n → J i c → GcTurn prog w A h₀ L m env ifs elt scope cl s I [] Ld Ys (fun m₂ => ∃ t, m₂ x = some (.int (a + (i : Int)) t)) (J (i + 1)) c)
    (fin : ∀ c g, J n c → Fin' { s with heap := g } (Ys c) (Ld c)) :
    wpAny (model prog w) A (pyIter (.ref r)) (GcIt prog w A h₀ L m env elt (.Name x px) iter ifs scope cl pos E Fin') E s := by
  refine wpAny_pyIter_range hr hsm ?_
  refine gc_one (cI := "range_iterator") (keep := []) Ld Ys J c₀ (fun i m₂ => ∃ t, m₂ x = some (.int (a + (i : Int)) t)) (range_walks hh a n) (fun i v s' Q E st q => wpAny_pure q) hsz (fun i h st => ⟨_, st, rfl⟩) ?_ (fun b hb => .inl (List.mem_singleton.mp hb)) (fun _ _ h => by cases h) hcell hkind F N hsub hY hJ₀
    (fun i v c s' C m' Q E' hi hP hJ hn N' k => ?_) turn (fun c hJ => fin c _ hJ)
  · show IsRangeIter _ _ _ _ _
    rw [hn]; simpa using Heap.get?_push_size _ rfl
  · obtain ⟨t, rfl⟩ := hP
    exact asg_name hx hkind hn fun h' tk m₂ a b c => k h' tk m₂ a ⟨t, b⟩ c
theorem gc_list {ax : Addr} {its : Array Value} {k : Nat} {all : Led} (Ld : σ → Led) (Ys : σ → List Value) (J : Nat → σ → Prop) (c₀ : σ) (nm : Nat → (Str → Option Value) → Prop)
    (hh : A.handled = none) (hm : ∀ c, (ax, ({ cls := .type "list", data := .seq its k } : Obj)) ∈ Ld c) (hsz : its.size ≤ sizeLine)
    (hcell : ∀ y ∈ scope.names, y.2 ≠ .cell) (hkind : scope.kind = .function)
    (F : Fr h₀ L s.heap m) (N : News h₀ L s.heap all) (hsub : ∀ p ∈ Ld c₀, p ∈ all) (hY : Ys c₀ = []) (hJ₀ : J 0 c₀)
    (asg : ∀ (i : Nat) (v : Value) (c : σ) (s : Shared) (C : Addr) (m' : Str → Option Value) (Q : Unit → Shared → Prop) (E' : Value → Shared → Prop), i < its.size → its[i]? = some v → J i c → s.heap.Ns C m' → News h₀ L s.heap (Ld c) →
      (∀ h' tk m₂, h'.Ns C m₂ → nm i m₂ → (∀ b o, b ≠ C → s.heap.get? b = some o → h'.get? b = some o) → Q () { s with heap := h', toks := tk }) → wpAny (model prog w) A (assign target (compEnvC scope cl C env) v) Q E' s)
    (turn : ∀ I i c, (∀ p ∈ all, p.1 < I) → i < its.size → J i c → GcTurn prog w A h₀ L m env ifs elt scope cl s I [] Ld Ys (nm i) (J (i + 1)) c)
    (fin : ∀ c g, J its.size c → Fin' { s with heap := g } (Ys c) (Ld c)) :
    wpAny (model prog w) A (pyIter (.ref ax)) (GcIt prog w A h₀ L m env elt target iter ifs scope cl pos E Fin') E s := by
  have hl : s.heap.IsList ax its := ⟨_, (N _ (hsub _ (hm c₀))).1, rfl, _, rfl⟩
  have hlt : ax < s.heap.objs.size := Heap.lt_size (N _ (hsub _ (hm c₀))).1
  refine wpAny_pyIter_list hl ?_
  refine gc_one (cI := "list_iterator") (keep := [(ax, ({ cls := .type "list", data := .seq its k } : Obj))]) Ld Ys J c₀ nm (Walks.list hh s.heap.objs.size ax (Nat.ne_of_lt hlt) its) (fun i v s' Q E st q => letGo_listiter st.1 q) hsz (fun i h st => by obtain ⟨o, e, hc, _⟩ := st.1; exact ⟨o, e, hc⟩) ⟨⟨_, Heap.get?_push_size _ rfl, rfl, rfl⟩, hl.push _⟩
    (fun b hb => ?_) (fun c p hp => by rw [List.mem_singleton.mp hp]; exact hm c) hcell hkind F N hsub hY hJ₀ asg turn (fun c hJ => fin c _ hJ)
  rcases List.mem_cons.mp hb with h | hb
  · exact .inl h
  · rw [List.mem_singleton.mp hb]; exact .inr (.inl ⟨_, List.mem_cons_self⟩)
theorem gc_listN {x : Str} {px : Pos} {ax : Addr} {its : Array Value} {k : Nat} {all : Led} (Ld : σ → Led) (Ys : σ → List Value) (J : Nat → σ → Prop) (c₀ : σ)
    (hh : A.handled = none) (hm : ∀ c, (ax, ({ cls := .type "list", data := .seq its k } : Obj)) ∈ Ld c) (hsz : its.size ≤ sizeLine)
    (hcell : ∀ y ∈ scope.names, y.2 ≠ .cell) (hkind : scope.kind = .function) (hx : scope.names.lookup x = some .local)
    (F : Fr h₀ L s.heap m) (N : News h₀ L s.heap all) (hsub : ∀ p ∈ Ld c₀, p ∈ all) (hY : Ys c₀ = []) (hJ₀ : J 0 c₀)
    (turn : ∀ I i c, (∀ p ∈ all, p.1 < I) → i < its.size → J i c → GcTurn prog w A h₀ L m env ifs elt scope cl s I [] Ld Ys (fun m₂ => ∃ v, its[i]? = some v ∧ m₂ x = some v) (J (i + 1)) c)
    (fin : ∀ c g, J its.size c → Fin' { s with heap := g } (Ys c) (Ld c)) :
    wpAny (model prog w) A (pyIter (.ref ax)) (GcIt prog w A h₀ L m env elt (.Name x px) iter ifs scope cl pos E Fin') E s :=
  gc_list Ld Ys J c₀ (fun i m₂ => ∃ v, its[i]? = some v ∧ m₂ x = some v) hh hm hsz hcell hkind F N hsub hY hJ₀ (fun i v c s' C m' Q E' hi hP hJ hn N' k => asg_name hx hkind hn fun h' tk m₂ a b c => k h' tk m₂ a ⟨v, hP, b⟩ c) turn fin
theorem gc_enum {x y : Str} {px py tp : Pos} {kk : Nat} {l : Addr} {vs : Array Value} {k : Nat} {all : Led} (Ld : σ → Led) (Ys : σ → List Value) (J : Nat → σ → Prop) (c₀ : σ)
    (hh : A.handled = none) (hm : ∀ c, (l, ({ cls := .type "list", data := .seq vs k } : Obj)) ∈ Ld c) (hsz : vs.size ≤ sizeLine)
    (hcell : ∀ y ∈ scope.names, y.2 ≠ .cell) (hkind : scope.kind = .function) (hx : scope.names.lookup x = some .local) (hy : scope.names.lookup y = some .local) (hxy : x ≠ y)
    (F : Fr h₀ L s.heap m) (N : News h₀ L s.heap all) (hsub : ∀ p ∈ Ld c₀, p ∈ all) (hY : Ys c₀ = []) (hJ₀ : J 0 c₀)
    (turn : ∀ (I : Nat) i c, (∀ p ∈ all, p.1 < I) → i < vs.size → J i c → GcTurn prog w A h₀ L m env ifs elt scope cl s (I + 1) [(I, "list_iterator")] Ld Ys (fun m₂ => ∃ t v, vs[i]? = some v ∧ m₂ x = some (.int (i : Int) t) ∧ m₂ y = some v) (J (i + 1)) c)
    (fin : ∀ c g, J vs.size c → Fin' { s with heap := g } (Ys c) (Ld c)) :
    wpAny (model prog w) A (call (.type "enumerate") [.ref l]) (fun xv s₁ => wpAny (model prog w) A (pyIter xv) (GcIt prog w A h₀ L m env elt (.Tuple [.Name x px, .Name y py] kk tp) iter ifs scope cl pos E Fin') E s₁) E s := by
  have hax := N _ (hsub _ (hm c₀))
  have hl : s.heap.IsList l vs := ⟨_, hax.1, rfl, _, rfl⟩
  have hlt : l < s.heap.objs.size := Heap.lt_size hax.1
  have hlt2 : ∀ p ∈ all, p.1 < s.heap.objs.size := fun p hp => Heap.lt_size (N p hp).1
  refine call_enumerate_list hl fun h' hE hI hsz' hk => ?_
  refine wpAny_pyIter_enum hE ?_
  intro RR hRR
  refine gc_block (s₂ := { s with heap := h' }) (I := s.heap.objs.size + 1) (cI := "enumerate") (ws := [(s.heap.objs.size, "list_iterator")]) (keep := [(l, ({ cls := .type "list", data := .seq vs k } : Obj))]) Ld Ys J c₀ (fun i m₂ => ∃ t v, vs[i]? = some v ∧ m₂ x = some (.int (i : Int) t) ∧ m₂ y = some v)
    (KTurns.ofWalksU (WalksT.enumerate hh (s.heap.objs.size + 1) s.heap.objs.size l (Nat.succ_ne_self _) (ktu_ne 1 hlt) (Nat.ne_of_lt hlt) vs).toU) (fun s' Q E st h => (WalksT.enumerate hh (s.heap.objs.size + 1) s.heap.objs.size l (Nat.succ_ne_self _) (ktu_ne 1 hlt) (Nat.ne_of_lt hlt) vs).toU.self 0 s' Q E st h) hsz
    ?hobj ?hws ?hnd ?hwr ?hfp ?hkeep hcell hkind ?hst (F.keeps hk) (fun p hp => ⟨hk _ _ (N p (hsub p hp)).1, (N p (hsub p hp)).2⟩) ?off hY hJ₀ ?asg (fun i c hi hJ => turn s.heap.objs.size i c hlt2 hi hJ) (fun D C h tk m' c F' N' o1 hn hC₀ hD₀ hCL hDL hCD offC hJ => hRR D C h tk m' _ _ F' N' o1 hn hC₀ hD₀ hCL hDL hCD offC (fin c _ hJ))
  case hobj =>
    rintro i h ⟨⟨old, he⟩, ⟨oi, hoi, hic, _⟩, _⟩
    have he' : ∃ oe : Obj, h.get? (s.heap.objs.size + 1) = some oe ∧ oe.cls = .type "enumerate" := ⟨_, he, rfl⟩
    obtain ⟨oe, h1, h2⟩ := he'
    refine ⟨[(s.heap.objs.size + 1, oe), (s.heap.objs.size, oi)], ⟨⟨rfl, h2⟩, ⟨rfl, hic⟩, trivial⟩, fun p hp => ?_⟩
    rcases List.mem_cons.mp hp with rfl | hp
    · exact h1
    · rw [List.mem_singleton.mp hp]; exact hoi
  case hws =>
    intro b hb
    have hLs : L < s.heap.objs.size := F.ns.lt
    have hb' : b = s.heap.objs.size + 1 ∨ b = s.heap.objs.size := by simpa using hb
    rcases hb' with rfl | rfl
    · exact ⟨ktu_new F (Nat.le_add_right _ _), Ne.symm (ktu_ne 1 hLs), by show s.heap.objs.size + 1 < h'.objs.size; rw [hsz']; exact Nat.lt_succ_self _⟩
    · exact ⟨ktu_new F (Nat.le_refl _), Nat.ne_of_gt hLs, by show s.heap.objs.size < h'.objs.size; rw [hsz']; exact Nat.lt_add_of_pos_right (by decide)⟩
  case hnd =>
    intro b hb
    have hb' : b = s.heap.objs.size := by simpa using hb
    rw [hb']; exact Nat.ne_of_lt (Nat.lt_succ_self _)
  case hwr => intro b hb; simpa using hb
  case hfp =>
    intro b hb
    have hb' : b = s.heap.objs.size + 1 ∨ b = s.heap.objs.size ∨ b = l := by simpa using hb
    rcases hb' with rfl | rfl | rfl
    · exact .inl (by simp)
    · exact .inl (by simp)
    · exact .inr (.inl ⟨_, List.mem_cons_self⟩)
  case hkeep => exact fun c p hp => by rw [List.mem_singleton.mp hp]; exact hm c
  case hst => exact ⟨⟨_, hE⟩, hI, hl.at fun o e => hk _ o e⟩
  case off =>
    intro p hp hI
    have hlp := hlt2 p (hsub p hp)
    have hb' : p.1 = s.heap.objs.size + 1 ∨ p.1 = s.heap.objs.size := by simpa using hI
    rcases hb' with e | e
    · exact ktu_ne 1 hlp e
    · exact Nat.ne_of_lt hlp e
  case asg =>
    rintro i v c s' C m' Q E' hi ⟨T, vals, rfl, ⟨t, z, hz, rfl⟩, hT⟩ hJ hn N' k
    exact asg_pair hx hy hxy hkind hh hn hT fun h' tk m₂ a b c => k h' tk m₂ a ⟨t, z, hz, b.1, b.2⟩ c
theorem gc_keys {K : Type} [DecidableEq K] {knd : KeyKind prog w K} {kvs : List (K × Value)} {x : Str} {px : Pos} {d : Addr} {od : Obj} {all : Led} (Ld : σ → Led) (Ys : σ → List Value) (J : Nat → σ → Prop) (c₀ : σ)
    (hh : A.handled = none) (hm : ∀ c, (d, od) ∈ Ld c) (hd : od.IsDictOf knd kvs) (lo : (d == sysModules) = false) (hsz : kvs.length ≤ sizeLine)
    (hcell : ∀ y ∈ scope.names, y.2 ≠ .cell) (hkind : scope.kind = .function) (hx : scope.names.lookup x = some .local)
    (F : Fr h₀ L s.heap m) (N : News h₀ L s.heap all) (hsub : ∀ p ∈ Ld c₀, p ∈ all) (hY : Ys c₀ = []) (hJ₀ : J 0 c₀)
    (turn : ∀ I i c, (∀ p ∈ all, p.1 < I) → i < kvs.length → J i c → GcTurn prog w A h₀ L m env ifs elt scope cl s I [] Ld Ys (fun m₂ => ∃ k y v, kvs[i]? = some (k, y) ∧ knd.is k v = true ∧ m₂ x = some v) (J (i + 1)) c)
    (fin : ∀ c g, J kvs.length c → Fin' { s with heap := g } (Ys c) (Ld c)) :
    wpAny (model prog w) A (pyIter (.ref d)) (GcIt prog w A h₀ L m env elt (.Name x px) iter ifs scope cl pos E Fin') E s := by
  obtain ⟨ep, hat⟩ := (kda_dict N (hsub _ (hm c₀)) hd).dictAt
  have hne : d ≠ s.heap.objs.size := Nat.ne_of_lt hat.lt_size
  refine wpAny_pyIter_dict lo hat ?_
  refine gc_one (cI := "dict_keyiterator") (keep := [(d, od)]) Ld Ys J c₀ (fun i m₂ => ∃ k y v, kvs[i]? = some (k, y) ∧ knd.is k v = true ∧ m₂ x = some v) (Walks.dictKeys (knd := knd) hh s.heap.objs.size d hne kvs ep) (fun i v s' Q E st q => letGo_keyiter st.1 q) hsz (fun i h st => by obtain ⟨o, e, hc, _⟩ := st.1; exact ⟨o, e, hc⟩) ⟨⟨_, Heap.get?_push_size _ rfl, rfl, rfl⟩, hat.push _⟩
    (fun b hb => ?_) (fun c p hp => by rw [List.mem_singleton.mp hp]; exact hm c) hcell hkind F N hsub hY hJ₀ (fun i v c s' C m' Q E' hi hP hJ hn N' k => ?_) turn (fun c hJ => fin c _ hJ)
  · rcases List.mem_cons.mp hb with h | hb
    · exact .inl h
    · rw [List.mem_singleton.mp hb]; exact .inr (.inl ⟨_, List.mem_cons_self⟩)
  · obtain ⟨k', y, h1, h2⟩ := hP
    exact asg_name hx hkind hn fun h' tk m₂ a b c => k h' tk m₂ a ⟨k', y, v, h1, h2, b⟩ c
theorem gc_vals {K : Type} [DecidableEq K] {knd : KeyKind prog w K} {kvs : List (K × Value)} {x : Str} {px : Pos} {d vw : Addr} {od : Obj} {all : Led} (Ld : σ → Led) (Ys : σ → List Value) (J : Nat → σ → Prop) (c₀ : σ)
    (hh : A.handled = none) (hv : s.heap.IsValuesView vw d) (hm : ∀ c, (d, od) ∈ Ld c) (hd : od.IsDictOf knd kvs) (hsz : kvs.length ≤ sizeLine)
    (hcell : ∀ y ∈ scope.names, y.2 ≠ .cell) (hkind : scope.kind = .function) (hx : scope.names.lookup x = some .local)
    (F : Fr h₀ L s.heap m) (N : News h₀ L s.heap all) (hsub : ∀ p ∈ Ld c₀, p ∈ all) (hY : Ys c₀ = []) (hJ₀ : J 0 c₀)
    (turn : ∀ I i c, (∀ p ∈ all, p.1 < I) → i < kvs.length → J i c → GcTurn prog w A h₀ L m env ifs elt scope cl s I [] Ld Ys (fun m₂ => ∃ k v, kvs[i]? = some (k, v) ∧ m₂ x = some v) (J (i + 1)) c)
    (fin : ∀ c g, J kvs.length c → Fin' { s with heap := g } (Ys c) (Ld c)) :
    wpAny (model prog w) A (pyIter (.ref vw)) (GcIt prog w A h₀ L m env elt (.Name x px) iter ifs scope cl pos E Fin') E s := by
  obtain ⟨ep, hat⟩ := (kda_dict N (hsub _ (hm c₀)) hd).dictAt
  have hne : d ≠ s.heap.objs.size := Nat.ne_of_lt hat.lt_size
  refine wpAny_pyIter_values hv hat ?_
  refine gc_one (cI := "dict_valueiterator") (keep := [(d, od)]) Ld Ys J c₀ (fun i m₂ => ∃ k v, kvs[i]? = some (k, v) ∧ m₂ x = some v) (Walks.dictValues (knd := knd) hh s.heap.objs.size d hne kvs ep) (fun i v s' Q E st q => letGo_valiter st.1 q) hsz (fun i h st => by obtain ⟨o, e, hc, _⟩ := st.1; exact ⟨o, e, hc⟩) ⟨⟨_, Heap.get?_push_size _ rfl, rfl, rfl⟩, hat.push _⟩
    (fun b hb => ?_) (fun c p hp => by rw [List.mem_singleton.mp hp]; exact hm c) hcell hkind F N hsub hY hJ₀ (fun i v c s' C m' Q E' hi hP hJ hn N' k => ?_) turn (fun c hJ => fin c _ hJ)
  · rcases List.mem_cons.mp hb with h | hb
    · exact .inl h
    · rw [List.mem_singleton.mp hb]; exact .inr (.inl ⟨_, List.mem_cons_self⟩)
  · obtain ⟨k', h1⟩ := hP
    exact asg_name hx hkind hn fun h' tk m₂ a b c => k h' tk m₂ a ⟨k', v, h1, b⟩ c
end
section
open PyProof.Rows.LCg
variable {prog : Program} {w : World} {A : Around} {E : Value → Shared → Prop} {s : Shared} {h₀ : Heap} {L : Addr} {m : Str → Option Value} {env : Env} {σ : Type}
  {ct elt : Expr} {scope : Scope} {cl : List (Str × Addr)} {I : Nat} {Ld : σ → Led} {Ys : σ → List Value} {nm : (Str → Option Value) → Prop} {Jn : σ → Prop} {c : σ}
theorem GcTurn.one1 (H : ∀ (m₂ : Str → Option Value) (C : Nat) (oC : Obj) (D : Nat) (oI : Obj) (h : Heap) (tk : Nat) (E' : Value → Shared → Prop), nm m₂ → NsObj oC m₂ → Fr h₀ L h m → News h₀ L h ((I, oI) :: (C, oC) :: (D, lst (Ys c)) :: Ld c) → Off3 I C D (Ld c) → ((@Ne Nat I C) ∧ (@Ne Nat I D) ∧ (@Ne Nat C D)) →
    wpAny (model prog w) A (isTrue ct (compEnvC scope cl C env) (eval ct (compEnvC scope cl C env))) (fun ok s' => if ok = true then
      wpAny (model prog w) A (eval elt (compEnvC scope cl C env)) (GcE h₀ L m { s with heap := h, toks := tk } I oI C oC D (Ys c) [] Ld (fun y c' => Ys c' = Ys c ++ [y] ∧ Jn c')) E' s'
      else GcE h₀ L m { s with heap := h, toks := tk } I oI C oC D (Ys c) [] Ld (fun _ c' => Ys c' = Ys c ∧ Jn c') .none s') E' { s with heap := h, toks := tk }) : GcTurn prog w A h₀ L m env [ct] elt scope cl s I [] Ld Ys nm Jn c := by
  intro m₂ C oC D oI its h tk E' hnm hC hits F N off ne ow
  cases its with
  | cons p r => exact (show False from hits).elim
  | nil => exact wpAny_tests_one (H m₂ C oC D oI h tk E' hnm hC F N off ne)
theorem GcTurn.one0 (H : ∀ (m₂ : Str → Option Value) (C : Nat) (oC : Obj) (D : Nat) (oI : Obj) (h : Heap) (tk : Nat) (E' : Value → Shared → Prop), nm m₂ → NsObj oC m₂ → Fr h₀ L h m → News h₀ L h ((I, oI) :: (C, oC) :: (D, lst (Ys c)) :: Ld c) → Off3 I C D (Ld c) → ((@Ne Nat I C) ∧ (@Ne Nat I D) ∧ (@Ne Nat C D)) →
      wpAny (model prog w) A (eval elt (compEnvC scope cl C env)) (GcE h₀ L m { s with heap := h, toks := tk } I oI C oC D (Ys c) [] Ld (fun y c' => Ys c' = Ys c ++ [y] ∧ Jn c')) E' { s with heap := h, toks := tk }) : GcTurn prog w A h₀ L m env [] elt scope cl s I [] Ld Ys nm Jn c := by
  intro m₂ C oC D oI its h tk E' hnm hC hits F N off ne ow
  cases its with
  | cons p r => exact (show False from hits).elim
  | nil => exact wpAny_tests_nil (by rw [if_pos rfl]; exact H m₂ C oC D oI h tk E' hnm hC F N off ne)
noncomputable def GcK (h₀ : Heap) (L : Addr) (m : Str → Option Value) (s₁ : Shared) (all : Led) (J : Prop) (s₂ : Shared) : Prop := ∃ h' tk, s₂ = { s₁ with heap := h', toks := tk } ∧ Fr h₀ L h' m ∧ News h₀ L h' all ∧ J
theorem GcK.intro {s₁ : Shared} {all all' : Led} {J : Prop} {h' : Heap} {tk : Nat} (F : Fr h₀ L h' m) (N : News h₀ L h' all') (sub : ∀ p ∈ all, p ∈ all') (hJ : J) : GcK h₀ L m s₁ all J { s₁ with heap := h', toks := tk } := ⟨h', tk, rfl, F, fun p hp => N p (sub p hp), hJ⟩
theorem gck_one1 {news : Led} {J : List Value → Prop} {ys : List Value} (H : ∀ (m₂ : Str → Option Value) (C : Nat) (oC : Obj) (D : Nat) (oI : Obj) (h : Heap) (tk : Nat) (E' : Value → Shared → Prop), nm m₂ → NsObj oC m₂ → Fr h₀ L h m → News h₀ L h ((I, oI) :: (C, oC) :: (D, lst ys) :: news) → Off3 I C D news → ((@Ne Nat I C) ∧ (@Ne Nat I D) ∧ (@Ne Nat C D)) →
    wpAny (model prog w) A (isTrue ct (compEnvC scope cl C env) (eval ct (compEnvC scope cl C env))) (fun ok s' => if ok = true then
      wpAny (model prog w) A (eval elt (compEnvC scope cl C env)) (fun y s₃ => GcK h₀ L m { s with heap := h, toks := tk } ((I, oI) :: (C, oC) :: (D, lst ys) :: news) (J (ys ++ [y])) s₃) E' s'
      else GcK h₀ L m { s with heap := h, toks := tk } ((I, oI) :: (C, oC) :: (D, lst ys) :: news) (J ys) s') E' { s with heap := h, toks := tk }) : GcTurn prog w A h₀ L m env [ct] elt scope cl s I [] (fun _ : List Value => news) (fun ys => ys) nm J ys := by
  refine GcTurn.one1 fun m₂ C oC D oI h tk E' hnm hC F N off ne => ?_
  refine wpAny_mono (H m₂ C oC D oI h tk E' hnm hC F N off ne) (fun ok s' hq => ?_) fun _ _ e => e
  cases ok with
  | true =>
    simp only [if_true] at hq ⊢
    refine wpAny_mono hq (fun y s₃ hr => ?_) fun _ _ e => e
    obtain ⟨h', tk', e, F', N', hJ⟩ := hr
    exact ⟨h', tk', ys ++ [y], e, F', N', off, (fun _ _ _ h => by cases h), rfl, hJ⟩
  | false =>
    simp only [Bool.false_eq_true, if_false] at hq ⊢
    obtain ⟨h', tk', e, F', N', hJ⟩ := hq
    exact ⟨h', tk', ys, e, F', N', off, (fun _ _ _ h => by cases h), rfl, hJ⟩
theorem gck_one0 {news : Led} {J : List Value → Prop} {ys : List Value} (H : ∀ (m₂ : Str → Option Value) (C : Nat) (oC : Obj) (D : Nat) (oI : Obj) (h : Heap) (tk : Nat) (E' : Value → Shared → Prop), nm m₂ → NsObj oC m₂ → Fr h₀ L h m → News h₀ L h ((I, oI) :: (C, oC) :: (D, lst ys) :: news) → Off3 I C D news → ((@Ne Nat I C) ∧ (@Ne Nat I D) ∧ (@Ne Nat C D)) →
      wpAny (model prog w) A (eval elt (compEnvC scope cl C env)) (fun y s₃ => GcK h₀ L m { s with heap := h, toks := tk } ((I, oI) :: (C, oC) :: (D, lst ys) :: news) (J (ys ++ [y])) s₃) E' { s with heap := h, toks := tk }) : GcTurn prog w A h₀ L m env [] elt scope cl s I [] (fun _ : List Value => news) (fun ys => ys) nm J ys := by
  refine GcTurn.one0 fun m₂ C oC D oI h tk E' hnm hC F N off ne => ?_
  refine wpAny_mono (H m₂ C oC D oI h tk E' hnm hC F N off ne) (fun y s₃ hr => ?_) fun _ _ e => e
  obtain ⟨h', tk', e, F', N', hJ⟩ := hr
  exact ⟨h', tk', ys ++ [y], e, F', N', off, (fun _ _ _ h => by cases h), rfl, hJ⟩
theorem gck_two1 {news : Led} {J : List Value → Prop} {ys : List Value} {I2 : Nat} {c2 : String} (H : ∀ (m₂ : Str → Option Value) (C : Nat) (oC : Obj) (D : Nat) (oI o2 : Obj) (h : Heap) (tk : Nat) (E' : Value → Shared → Prop), nm m₂ → NsObj oC m₂ → Fr h₀ L h m → News h₀ L h ((I, oI) :: (C, oC) :: (D, lst ys) :: (I2, o2) :: news) → Off3 I C D ((I2, o2) :: news) → ((@Ne Nat I C) ∧ (@Ne Nat I D) ∧ (@Ne Nat C D)) →
    wpAny (model prog w) A (isTrue ct (compEnvC scope cl C env) (eval ct (compEnvC scope cl C env))) (fun ok s' => if ok = true then
      wpAny (model prog w) A (eval elt (compEnvC scope cl C env)) (fun y s₃ => GcK h₀ L m { s with heap := h, toks := tk } ((I, oI) :: (C, oC) :: (D, lst ys) :: (I2, o2) :: news) (J (ys ++ [y])) s₃) E' s'
      else GcK h₀ L m { s with heap := h, toks := tk } ((I, oI) :: (C, oC) :: (D, lst ys) :: (I2, o2) :: news) (J ys) s') E' { s with heap := h, toks := tk }) : GcTurn prog w A h₀ L m env [ct] elt scope cl s I [(I2, c2)] (fun _ : List Value => news) (fun ys => ys) nm J ys := by
  intro m₂ C oC D oI its h tk E' hnm hC hits F N off ne ow
  match its, hits, N, off, ow with
  | [], hits, _, _, _ => exact (show False from hits).elim
  | (a, o2) :: r, hits, N, off, ow =>
  have e : a = I2 := hits.1.1
  subst e
  match r, hits.2, N, off, ow with
  | _ :: _, h2, _, _, _ => exact (show False from h2).elim
  | [], _, N, off, ow =>
  refine wpAny_tests_one (wpAny_mono (H m₂ C oC D oI o2 h tk E' hnm hC F N off ne) (fun ok s' hq => ?_) fun _ _ e => e)
  cases ok with
  | true =>
    simp only [if_true] at hq ⊢
    refine wpAny_mono hq (fun y s₃ hr => ?_) fun _ _ e => e
    obtain ⟨h', tk', e, F', N', hJ⟩ := hr
    exact ⟨h', tk', ys ++ [y], e, F', N', off, ow, rfl, hJ⟩
  | false =>
    simp only [Bool.false_eq_true, if_false] at hq ⊢
    obtain ⟨h', tk', e, F', N', hJ⟩ := hq
    exact ⟨h', tk', ys, e, F', N', off, ow, rfl, hJ⟩
theorem GcTurn.two0 {I2 : Nat} {c2 : String} (H : ∀ (m₂ : Str → Option Value) (C : Nat) (oC : Obj) (D : Nat) (oI o2 : Obj) (h : Heap) (tk : Nat) (E' : Value → Shared → Prop), nm m₂ → NsObj oC m₂ → Fr h₀ L h m → News h₀ L h ((I, oI) :: (C, oC) :: (D, lst (Ys c)) :: (I2, o2) :: Ld c) → Off3 I C D ((I2, o2) :: Ld c) → ((@Ne Nat I C) ∧ (@Ne Nat I D) ∧ (@Ne Nat C D)) → (∀ p ∈ Ld c, @Ne Nat p.1 I2) →
      wpAny (model prog w) A (eval elt (compEnvC scope cl C env)) (GcE h₀ L m { s with heap := h, toks := tk } I oI C oC D (Ys c) [(I2, o2)] Ld (fun y c' => Ys c' = Ys c ++ [y] ∧ Jn c')) E' { s with heap := h, toks := tk }) : GcTurn prog w A h₀ L m env [] elt scope cl s I [(I2, c2)] Ld Ys nm Jn c := by
  intro m₂ C oC D oI its h tk E' hnm hC hits F N off ne ow
  match its, hits, N, off, ow with
  | [], hits, _, _, _ => exact (show False from hits).elim
  | (a, o2) :: r, hits, N, off, ow =>
  have e : a = I2 := hits.1.1
  subst e
  match r, hits.2, N, off, ow with
  | _ :: _, h2, _, _, _ => exact (show False from h2).elim
  | [], _, N, off, ow => exact wpAny_tests_nil (by rw [if_pos rfl]; exact H m₂ C oC D oI o2 h tk E' hnm hC F N off ne fun p hp => ow p hp _ List.mem_cons_self)
end
section
open PyProof.Rows.LCg
variable {prog : Program} {w : World} {A : Around} {E : Value → Shared → Prop} {s : Shared} {h₀ : Heap} {L : Addr} {m : Str → Option Value} {env : Env}
  {ct elt iter : Expr} {scope : Scope} {cl : List (Str × Addr)} {pos : Pos} {Fin' : Shared → List Value → Led → Prop} {all : Led} {x y : Str} {px py tp : Pos} {kk : Nat}
theorem gck_list0 {ax : Addr} {vs : List Value} {ns : List Int} {k : Nat} (J : Nat → List Value → Prop)
    (hi : IntsAre vs ns) (hm : (ax, ({ cls := .type "list", data := .seq vs.toArray k } : Obj)) ∈ all) (hsz : ns.length ≤ 64) (F : Fr h₀ L s.heap m) (N : News h₀ L s.heap all) (hJ₀ : J 0 [])
    (hh : A.handled = none) (hcell : ∀ y ∈ scope.names, y.2 ≠ .cell) (hkind : scope.kind = .function) (hx : scope.names.lookup x = some .local)
    (turn : ∀ (I i : Nat) (ys : List Value) (k : Int), (∀ p ∈ all, p.1 < I) → ns[i]? = some k → J i ys → ∀ (m₂ : Str → Option Value) (t : Tok) (C : Nat) (oC : Obj) (D : Nat) (oI : Obj) (h : Heap) (tk : Nat) (E' : Value → Shared → Prop), m₂ x = some (.int k t) → NsObj oC m₂ → Fr h₀ L h m → News h₀ L h ((I, oI) :: (C, oC) :: (D, lst ys) :: all) → Off3 I C D all → ((@Ne Nat I C) ∧ (@Ne Nat I D) ∧ (@Ne Nat C D)) →
      wpAny (model prog w) A (eval elt (compEnvC scope cl C env)) (fun y s₃ => GcK h₀ L m { s with heap := h, toks := tk } ((I, oI) :: (C, oC) :: (D, lst ys) :: all) (J (i + 1) (ys ++ [y])) s₃) E' { s with heap := h, toks := tk })
    (fin : ∀ ys g, J ns.length ys → Fin' { s with heap := g } ys all) :
    wpAny (model prog w) A (pyIter (.ref ax)) (GcIt prog w A h₀ L m env elt (.Name x px) iter [] scope cl pos E Fin') E s := by
  have hl := hi.length
  refine gc_listN (fun _ => all) (fun ys => ys) J [] hh (fun _ => hm) (by rw [List.size_toArray, hl, PySem.sizeLine_eq]; omega) hcell hkind hx F N (fun _ h => h) rfl hJ₀ (fun I i ys lI hlt hJ => ?_) (fun ys g hJ => fin ys g (by rw [List.size_toArray, hl] at hJ; exact hJ))
  refine gck_one0 fun m₂ C oC D oI h tk E' hnm hC F N off ne => ?_
  obtain ⟨v, hv, hx'⟩ := hnm
  obtain ⟨k, t, rfl, hk⟩ := IntsAre.at hi i v (by simpa using hv)
  exact turn I i ys k lI hk hJ m₂ t C oC D oI h tk E' hx' hC F N off ne
theorem gck_list1 {ax : Addr} {vs : List Value} {ns : List Int} {k : Nat} (J : Nat → List Value → Prop)
    (hi : IntsAre vs ns) (hm : (ax, ({ cls := .type "list", data := .seq vs.toArray k } : Obj)) ∈ all) (hsz : ns.length ≤ 64) (F : Fr h₀ L s.heap m) (N : News h₀ L s.heap all) (hJ₀ : J 0 [])
    (hh : A.handled = none) (hcell : ∀ y ∈ scope.names, y.2 ≠ .cell) (hkind : scope.kind = .function) (hx : scope.names.lookup x = some .local)
    (turn : ∀ (I i : Nat) (ys : List Value) (k : Int), (∀ p ∈ all, p.1 < I) → ns[i]? = some k → J i ys → ∀ (m₂ : Str → Option Value) (t : Tok) (C : Nat) (oC : Obj) (D : Nat) (oI : Obj) (h : Heap) (tk : Nat) (E' : Value → Shared → Prop), m₂ x = some (.int k t) → NsObj oC m₂ → Fr h₀ L h m → News h₀ L h ((I, oI) :: (C, oC) :: (D, lst ys) :: all) → Off3 I C D all → ((@Ne Nat I C) ∧ (@Ne Nat I D) ∧ (@Ne Nat C D)) →
      wpAny (model prog w) A (isTrue ct (compEnvC scope cl C env) (eval ct (compEnvC scope cl C env))) (fun ok s' => if ok = true then
        wpAny (model prog w) A (eval elt (compEnvC scope cl C env)) (fun y s₃ => GcK h₀ L m { s with heap := h, toks := tk } ((I, oI) :: (C, oC) :: (D, lst ys) :: all) (J (i + 1) (ys ++ [y])) s₃) E' s'
        else GcK h₀ L m { s with heap := h, toks := tk } ((I, oI) :: (C, oC) :: (D, lst ys) :: all) (J (i + 1) ys) s') E' { s with heap := h, toks := tk })
    (fin : ∀ ys g, J ns.length ys → Fin' { s with heap := g } ys all) :
    wpAny (model prog w) A (pyIter (.ref ax)) (GcIt prog w A h₀ L m env elt (.Name x px) iter [ct] scope cl pos E Fin') E s := by
  have hl := hi.length
  refine gc_listN (fun _ => all) (fun ys => ys) J [] hh (fun _ => hm) (by rw [List.size_toArray, hl, PySem.sizeLine_eq]; omega) hcell hkind hx F N (fun _ h => h) rfl hJ₀ (fun I i ys lI hlt hJ => ?_) (fun ys g hJ => fin ys g (by rw [List.size_toArray, hl] at hJ; exact hJ))
  refine gck_one1 fun m₂ C oC D oI h tk E' hnm hC F N off ne => ?_
  obtain ⟨v, hv, hx'⟩ := hnm
  obtain ⟨k, t, rfl, hk⟩ := IntsAre.at hi i v (by simpa using hv)
  exact turn I i ys k lI hk hJ m₂ t C oC D oI h tk E' hx' hC F N off ne
theorem gck_range0 {r : Addr} {a b : Int} {t u v : Tok} {n : Nat} (J : Nat → List Value → Prop)
    (hr : IsRange s.heap r a b 1 t u v) (hsm : Builtin.Range.small a b 1 = true) (hn : Builtin.Range.rangeSize a b 1 = ((n : Nat) : Int)) (hsz : n ≤ 64) (F : Fr h₀ L s.heap m) (N : News h₀ L s.heap all) (hJ₀ : J 0 [])
    (hh : A.handled = none) (hcell : ∀ y ∈ scope.names, y.2 ≠ .cell) (hkind : scope.kind = .function) (hx : scope.names.lookup x = some .local)
    (turn : ∀ (I i : Nat) (ys : List Value), (∀ p ∈ all, p.1 < I) → i < n → J i ys → ∀ (m₂ : Str → Option Value) (t : Tok) (C : Nat) (oC : Obj) (D : Nat) (oI : Obj) (h : Heap) (tk : Nat) (E' : Value → Shared → Prop), m₂ x = some (.int (a + (i : Int)) t) → NsObj oC m₂ → Fr h₀ L h m → News h₀ L h ((I, oI) :: (C, oC) :: (D, lst ys) :: all) → Off3 I C D all → ((@Ne Nat I C) ∧ (@Ne Nat I D) ∧ (@Ne Nat C D)) →
      wpAny (model prog w) A (eval elt (compEnvC scope cl C env)) (fun y s₃ => GcK h₀ L m { s with heap := h, toks := tk } ((I, oI) :: (C, oC) :: (D, lst ys) :: all) (J (i + 1) (ys ++ [y])) s₃) E' { s with heap := h, toks := tk })
    (fin : ∀ ys g, J n ys → Fin' { s with heap := g } ys all) :
    wpAny (model prog w) A (pyIter (.ref r)) (GcIt prog w A h₀ L m env elt (.Name x px) iter [] scope cl pos E Fin') E s := by
  refine gc_range (fun _ => all) (fun ys => ys) J [] hh hr hsm hn (by rw [PySem.sizeLine_eq]; omega) hcell hkind hx F N (fun _ h => h) rfl hJ₀ (fun I i ys lI hlt hJ => ?_) fin
  refine gck_one0 fun m₂ C oC D oI h tk E' hnm hC F N off ne => ?_
  obtain ⟨t, hx'⟩ := hnm
  exact turn I i ys lI hlt hJ m₂ t C oC D oI h tk E' hx' hC F N off ne
theorem gck_range1 {r : Addr} {a b : Int} {t u v : Tok} {n : Nat} (J : Nat → List Value → Prop)
    (hr : IsRange s.heap r a b 1 t u v) (hsm : Builtin.Range.small a b 1 = true) (hn : Builtin.Range.rangeSize a b 1 = ((n : Nat) : Int)) (hsz : n ≤ 64) (F : Fr h₀ L s.heap m) (N : News h₀ L s.heap all) (hJ₀ : J 0 [])
    (hh : A.handled = none) (hcell : ∀ y ∈ scope.names, y.2 ≠ .cell) (hkind : scope.kind = .function) (hx : scope.names.lookup x = some .local)
    (turn : ∀ (I i : Nat) (ys : List Value), (∀ p ∈ all, p.1 < I) → i < n → J i ys → ∀ (m₂ : Str → Option Value) (t : Tok) (C : Nat) (oC : Obj) (D : Nat) (oI : Obj) (h : Heap) (tk : Nat) (E' : Value → Shared → Prop), m₂ x = some (.int (a + (i : Int)) t) → NsObj oC m₂ → Fr h₀ L h m → News h₀ L h ((I, oI) :: (C, oC) :: (D, lst ys) :: all) → Off3 I C D all → ((@Ne Nat I C) ∧ (@Ne Nat I D) ∧ (@Ne Nat C D)) →
      wpAny (model prog w) A (isTrue ct (compEnvC scope cl C env) (eval ct (compEnvC scope cl C env))) (fun ok s' => if ok = true then
        wpAny (model prog w) A (eval elt (compEnvC scope cl C env)) (fun y s₃ => GcK h₀ L m { s with heap := h, toks := tk } ((I, oI) :: (C, oC) :: (D, lst ys) :: all) (J (i + 1) (ys ++ [y])) s₃) E' s'
        else GcK h₀ L m { s with heap := h, toks := tk } ((I, oI) :: (C, oC) :: (D, lst ys) :: all) (J (i + 1) ys) s') E' { s with heap := h, toks := tk })
    (fin : ∀ ys g, J n ys → Fin' { s with heap := g } ys all) :
    wpAny (model prog w) A (pyIter (.ref r)) (GcIt prog w A h₀ L m env elt (.Name x px) iter [ct] scope cl pos E Fin') E s := by
  refine gc_range (fun _ => all) (fun ys => ys) J [] hh hr hsm hn (by rw [PySem.sizeLine_eq]; omega) hcell hkind hx F N (fun _ h => h) rfl hJ₀ (fun I i ys lI hlt hJ => ?_) fin
  refine gck_one1 fun m₂ C oC D oI h tk E' hnm hC F N off ne => ?_
  obtain ⟨t, hx'⟩ := hnm
  exact turn I i ys lI hlt hJ m₂ t C oC D oI h tk E' hx' hC F N off ne
theorem gck_enum1 {l : Addr} {vs : List Value} {ns : List Int} {k : Nat} (J : Nat → List Value → Prop)
    (hi : IntsAre vs ns) (hm : (l, ({ cls := .type "list", data := .seq vs.toArray k } : Obj)) ∈ all) (hsz : ns.length ≤ 64) (F : Fr h₀ L s.heap m) (N : News h₀ L s.heap all) (hJ₀ : J 0 [])
    (hh : A.handled = none) (hcell : ∀ y ∈ scope.names, y.2 ≠ .cell) (hkind : scope.kind = .function) (hx : scope.names.lookup x = some .local) (hy : scope.names.lookup y = some .local) (hxy : x ≠ y)
    (turn : ∀ (I i : Nat) (ys : List Value) (k : Int), (∀ p ∈ all, p.1 < I) → ns[i]? = some k → J i ys → ∀ (m₂ : Str → Option Value) (t t' : Tok) (C : Nat) (oC : Obj) (D : Nat) (oI o2 : Obj) (h : Heap) (tk : Nat) (E' : Value → Shared → Prop), m₂ x = some (.int (i : Int) t) → m₂ y = some (.int k t') → NsObj oC m₂ → Fr h₀ L h m → News h₀ L h ((I + 1, oI) :: (C, oC) :: (D, lst ys) :: (I, o2) :: all) → Off3 (I + 1) C D ((I, o2) :: all) → ((@Ne Nat (I + 1) C) ∧ (@Ne Nat (I + 1) D) ∧ (@Ne Nat C D)) →
      wpAny (model prog w) A (isTrue ct (compEnvC scope cl C env) (eval ct (compEnvC scope cl C env))) (fun ok s' => if ok = true then
        wpAny (model prog w) A (eval elt (compEnvC scope cl C env)) (fun y s₃ => GcK h₀ L m { s with heap := h, toks := tk } ((I + 1, oI) :: (C, oC) :: (D, lst ys) :: (I, o2) :: all) (J (i + 1) (ys ++ [y])) s₃) E' s'
        else GcK h₀ L m { s with heap := h, toks := tk } ((I + 1, oI) :: (C, oC) :: (D, lst ys) :: (I, o2) :: all) (J (i + 1) ys) s') E' { s with heap := h, toks := tk })
    (fin : ∀ ys g, J ns.length ys → Fin' { s with heap := g } ys all) :
    wpAny (model prog w) A (call (.type "enumerate") [.ref l]) (fun xv s₁ => wpAny (model prog w) A (pyIter xv) (GcIt prog w A h₀ L m env elt (.Tuple [.Name x px, .Name y py] kk tp) iter [ct] scope cl pos E Fin') E s₁) E s := by
  have hl := hi.length
  refine gc_enum (fun _ => all) (fun ys => ys) J [] hh (fun _ => hm) (by rw [List.size_toArray, hl, PySem.sizeLine_eq]; omega) hcell hkind hx hy hxy F N (fun _ h => h) rfl hJ₀ (fun I i ys lI hlt hJ => ?_) (fun ys g hJ => fin ys g (by rw [List.size_toArray, hl] at hJ; exact hJ))
  refine gck_two1 fun m₂ C oC D oI o2 h tk E' hnm hC F N off ne => ?_
  obtain ⟨t, v, hv, hx', hy'⟩ := hnm
  obtain ⟨k, t', rfl, hk⟩ := IntsAre.at hi i v (by simpa using hv)
  exact turn I i ys k lI hk hJ m₂ t t' C oC D oI o2 h tk E' hx' hy' hC F N off ne
end
theorem take_step {α β : Type} {l : List α} {i : Nat} {k : α} (f : α → β) (h : l[i]? = some k) : (l.take (i + 1)).map f = (l.take i).map f ++ [f k] := by
  rw [List.take_add_one, h, List.map_append]; rfl
end
section
structure GS where
  ys : List Value
  ad : Led
theorem Apart.off3 {I C D : Nat} {oI oC oD : Obj} {nw all its : Led} (ap : Apart nw ((I, oI) :: (C, oC) :: (D, oD) :: its)) (off : LCg.Off3 I C D (its ++ all)) : LCg.Off3 I C D (its ++ (nw ++ all)) := LCg.Off3.of fun p hp => by
  rcases List.mem_append.mp hp with hp | hp
  · exact LCg.Off3.mem off p (List.mem_append_left _ hp)
  rcases List.mem_append.mp hp with hp | hp
  · exact ⟨ap p hp _ (.head _), ap p hp _ (.tail _ (.head _)), ap p hp _ (.tail _ (.tail _ (.head _)))⟩
  · exact LCg.Off3.mem off p (List.mem_append_right _ hp)
section
open PyProof.Rows.LCg
variable {prog : Program} {w : World} {A : Around} {E : Value → Shared → Prop} {s : Shared} {h₀ : Heap} {L : Addr} {m : Str → Option Value} {env : Env}
  {ct elt iter target : Expr} {ifs : List Expr} {scope : Scope} {cl : List (Str × Addr)} {pos : Pos} {Fin' : Shared → List Value → Led → Prop} {base : Led} {I : Nat} {nm : (Str → Option Value) → Prop}
noncomputable def GcX (h₀ : Heap) (L : Addr) (m : Str → Option Value) (s₁ : Shared) (pre all : Led) (J : Led → Prop) (s₂ : Shared) : Prop :=
  ∃ h' tk nw, s₂ = { s₁ with heap := h', toks := tk } ∧ Fr h₀ L h' m ∧ News h₀ L h' (pre ++ (nw ++ all)) ∧ Apart nw (pre ++ all) ∧ J nw
theorem GcX.intro {s₁ : Shared} {pre all all' : Led} {J : Led → Prop} {h' : Heap} {tk : Nat} (F : Fr h₀ L h' m) (N : News h₀ L h' all') (nw : Led) (sub : ∀ p ∈ pre ++ (nw ++ all), p ∈ all') (ap : Apart nw (pre ++ all)) (hJ : J nw) :
   GcX h₀ L m s₁ pre all J { s₁ with heap := h', toks := tk } := ⟨h', tk, nw, rfl, F, fun p hp => N p (sub p hp), ap, hJ⟩
theorem allLt_mem {D : Nat} : ∀ {l : Led}, AllLt D l → ∀ p ∈ l, @LT.lt Nat _ p.1 D
  | [], _, _, hp => nomatch hp
  | q :: r, h, p, hp => by
    rcases List.mem_cons.mp hp with e | hp
    · rw [e]; exact h.1
    · exact allLt_mem (l := r) h.2 p hp
theorem GcX.one {s₁ : Shared} {pre all all' : Led} {J : Led → Prop} {h' : Heap} {tk : Nat} {D : Nat} {o : Obj} (F : Fr h₀ L h' m) (N : News h₀ L h' ((D, o) :: all')) (sub : ∀ p ∈ pre ++ all, p ∈ all') (lt : AllLt D all') (hJ : J [(D, o)]) :
   GcX h₀ L m s₁ pre all J { s₁ with heap := h', toks := tk } := by
  refine GcX.intro F N [(D, o)] (fun p hp => ?_) (fun p hp q hq => ?_) hJ
  · rcases List.mem_append.mp hp with hp | hp
    · exact .tail _ (sub p (List.mem_append_left _ hp))
    rcases List.mem_append.mp hp with hp | hp
    · rw [List.mem_singleton.mp hp]; exact .head _
    · exact .tail _ (sub p (List.mem_append_right _ hp))
  · have e : p.1 = D := congrArg Prod.fst (List.mem_singleton.mp hp)
    have h := allLt_mem lt q (sub q hq)
    exact fun e' => Nat.lt_irrefl D (by rw [← e, e'] at h; rw [e] at e'; omega)
noncomputable abbrev gsJ (base : Led) (J : List Value → Led → Prop) (c : GS) : Prop := J c.ys c.ad ∧ Apart c.ad base
theorem gcx_step {h' : Heap} {pre ad nw : Led} {its : Led} {C D : Nat} {oI oC : Obj} {ys : List Value} {J : List Value → Led → Prop} {s₁ : Shared} {y : Value} {tk : Nat} (hp : pre = (I, oI) :: (C, oC) :: (D, lst ys) :: its) (F : Fr h₀ L h' m) (N : News h₀ L h' (pre ++ (nw ++ (ad ++ base)))) (apb : Apart ad base) (off : Off3 I C D (its ++ (ad ++ base)))
   (ow : ∀ p ∈ ad ++ base, ∀ q ∈ its, @Ne Nat p.1 q.1) (ap : Apart nw (pre ++ (ad ++ base))) (hJ : J (ys ++ [y]) (nw ++ ad)) :
   GcE h₀ L m s₁ I oI C oC D ys its (fun c : GS => c.ad ++ base) (fun y c' => c'.ys = ys ++ [y] ∧ gsJ base J c') y { s₁ with heap := h', toks := tk } := by
  subst hp
  refine GcE.intro (⟨ys ++ [y], nw ++ ad⟩ : GS) F N ?_ ?_ ?_ ⟨rfl, hJ, fun p hp q hq => ?_⟩
  · intro p hp
    simpa only [List.cons_append, List.append_assoc] using hp
  · have h := Apart.off3 (fun p hp q hq => ap p hp q (List.mem_append_left _ hq)) off
    simpa only [List.append_assoc] using h
  · intro p hp q hq
    rcases List.mem_append.mp hp with hp | hp
    · rcases List.mem_append.mp hp with hp | hp
      · exact ap p hp q (List.mem_append_left _ (.tail _ (.tail _ (.tail _ hq))))
      · exact ow p (List.mem_append_left _ hp) q hq
    · exact ow p (List.mem_append_right _ hp) q hq
  · rcases List.mem_append.mp hp with hp | hp
    · exact ap p hp q (List.mem_append_right _ (List.mem_append_right _ hq))
    · exact apb p hp q hq
theorem gcx_one0 {J : List Value → Led → Prop} {c : GS} (apb : Apart c.ad base) (H : ∀ (m₂ : Str → Option Value) (C : Nat) (oC : Obj) (D : Nat) (oI : Obj) (h : Heap) (tk : Nat) (E' : Value → Shared → Prop), nm m₂ → NsObj oC m₂ → Fr h₀ L h m → News h₀ L h ((I, oI) :: (C, oC) :: (D, lst c.ys) :: (c.ad ++ base)) → Off3 I C D (c.ad ++ base) → ((@Ne Nat I C) ∧ (@Ne Nat I D) ∧ (@Ne Nat C D)) →
      wpAny (model prog w) A (eval elt (compEnvC scope cl C env)) (fun y s₃ => GcX h₀ L m { s with heap := h, toks := tk } [(I, oI), (C, oC), (D, lst c.ys)] (c.ad ++ base) (fun nw => J (c.ys ++ [y]) (nw ++ c.ad)) s₃) E' { s with heap := h, toks := tk }) :
   GcTurn prog w A h₀ L m env [] elt scope cl s I [] (fun c : GS => c.ad ++ base) GS.ys nm (gsJ base J) c := by
  refine GcTurn.one0 fun m₂ C oC D oI h tk E' hnm hC F N off ne => ?_
  refine wpAny_mono (H m₂ C oC D oI h tk E' hnm hC F N off ne) (fun y s₃ hr => ?_) fun _ _ e => e
  obtain ⟨h', tk', nw, rfl, F', N', ap, hJ⟩ := hr
  exact gcx_step rfl F' N' apb off (fun _ _ _ h => by cases h) ap hJ
theorem gcx_two0 {J : List Value → Led → Prop} {c : GS} {I2 : Nat} {c2 : String} (apb : Apart c.ad base) (H : ∀ (m₂ : Str → Option Value) (C : Nat) (oC : Obj) (D : Nat) (oI o2 : Obj) (h : Heap) (tk : Nat) (E' : Value → Shared → Prop), nm m₂ → NsObj oC m₂ → Fr h₀ L h m → News h₀ L h ((I, oI) :: (C, oC) :: (D, lst c.ys) :: (I2, o2) :: (c.ad ++ base)) → Off3 I C D ((I2, o2) :: (c.ad ++ base)) → ((@Ne Nat I C) ∧ (@Ne Nat I D) ∧ (@Ne Nat C D)) →
      wpAny (model prog w) A (eval elt (compEnvC scope cl C env)) (fun y s₃ => GcX h₀ L m { s with heap := h, toks := tk } [(I, oI), (C, oC), (D, lst c.ys), (I2, o2)] (c.ad ++ base) (fun nw => J (c.ys ++ [y]) (nw ++ c.ad)) s₃) E' { s with heap := h, toks := tk }) :
   GcTurn prog w A h₀ L m env [] elt scope cl s I [(I2, c2)] (fun c : GS => c.ad ++ base) GS.ys nm (gsJ base J) c := by
  refine GcTurn.two0 fun m₂ C oC D oI o2 h tk E' hnm hC F N off ne ow => ?_
  refine wpAny_mono (H m₂ C oC D oI o2 h tk E' hnm hC F N off ne) (fun y s₃ hr => ?_) fun _ _ e => e
  obtain ⟨h', tk', nw, rfl, F', N', ap, hJ⟩ := hr
  exact gcx_step (its := [(I2, o2)]) rfl F' N' apb off (fun p hp q hq => by rw [List.mem_singleton.mp hq]; exact ow p hp) ap hJ
theorem gcx_range {x : Str} {px : Pos} {r : Addr} {a b : Int} {t u v : Tok} {n : Nat} (J : Nat → List Value → Led → Prop)
    (hr : IsRange s.heap r a b 1 t u v) (hsm : Builtin.Range.small a b 1 = true) (hn : Builtin.Range.rangeSize a b 1 = ((n : Nat) : Int)) (hsz : n ≤ 64) (F : Fr h₀ L s.heap m) (N : News h₀ L s.heap base) (hJ₀ : J 0 [] [])
    (hh : A.handled = none) (hcell : ∀ y ∈ scope.names, y.2 ≠ .cell) (hkind : scope.kind = .function) (hx : scope.names.lookup x = some .local)
    (turn : ∀ (I i : Nat) (ys : List Value) (ad : Led), (∀ p ∈ base, p.1 < I) → i < n → J i ys ad → Apart ad base → ∀ (m₂ : Str → Option Value) (t : Tok) (C : Nat) (oC : Obj) (D : Nat) (oI : Obj) (h : Heap) (tk : Nat) (E' : Value → Shared → Prop), m₂ x = some (.int (a + (i : Int)) t) → NsObj oC m₂ → Fr h₀ L h m → News h₀ L h ((I, oI) :: (C, oC) :: (D, lst ys) :: (ad ++ base)) → Off3 I C D (ad ++ base) → ((@Ne Nat I C) ∧ (@Ne Nat I D) ∧ (@Ne Nat C D)) →
      wpAny (model prog w) A (eval elt (compEnvC scope cl C env)) (fun y s₃ => GcX h₀ L m { s with heap := h, toks := tk } [(I, oI), (C, oC), (D, lst ys)] (ad ++ base) (fun nw => J (i + 1) (ys ++ [y]) (nw ++ ad)) s₃) E' { s with heap := h, toks := tk })
    (fin : ∀ ys ad g, J n ys ad → Apart ad base → Fin' { s with heap := g } ys (ad ++ base)) :
    wpAny (model prog w) A (pyIter (.ref r)) (GcIt prog w A h₀ L m env elt (.Name x px) iter [] scope cl pos E Fin') E s := by
  refine gc_range (fun c : GS => c.ad ++ base) GS.ys (fun i => gsJ base (J i)) ⟨[], []⟩ hh hr hsm hn (by rw [PySem.sizeLine_eq]; omega) hcell hkind hx F N (fun _ h => h) rfl ⟨hJ₀, fun _ h => by cases h⟩ (fun I i c lI hlt hJ => ?_) (fun c g hJ => fin c.ys c.ad g hJ.1 hJ.2)
  refine gcx_one0 hJ.2 fun m₂ C oC D oI h tk E' hnm hC F N off ne => ?_
  obtain ⟨t, hx'⟩ := hnm
  exact turn I i c.ys c.ad lI hlt hJ.1 hJ.2 m₂ t C oC D oI h tk E' hx' hC F N off ne
theorem gcx_listA {ax : Addr} {its : Array Value} {k : Nat} (J : Nat → List Value → Led → Prop) (nm : Nat → (Str → Option Value) → Prop)
    (hm : (ax, ({ cls := .type "list", data := .seq its k } : Obj)) ∈ base) (hsz : its.size ≤ 64) (F : Fr h₀ L s.heap m) (N : News h₀ L s.heap base) (hJ₀ : J 0 [] [])
    (hh : A.handled = none) (hcell : ∀ y ∈ scope.names, y.2 ≠ .cell) (hkind : scope.kind = .function)
    (asg : ∀ (i : Nat) (v : Value) (s : Shared) (C : Addr) (m' : Str → Option Value) (Q : Unit → Shared → Prop) (E' : Value → Shared → Prop), i < its.size → its[i]? = some v → s.heap.Ns C m' → News h₀ L s.heap base →
      (∀ h' tk m₂, h'.Ns C m₂ → nm i m₂ → (∀ b o, b ≠ C → s.heap.get? b = some o → h'.get? b = some o) → Q () { s with heap := h', toks := tk }) → wpAny (model prog w) A (assign target (compEnvC scope cl C env) v) Q E' s)
    (turn : ∀ (I i : Nat) (ys : List Value) (ad : Led), (∀ p ∈ base, p.1 < I) → i < its.size → J i ys ad → Apart ad base → ∀ (m₂ : Str → Option Value) (C : Nat) (oC : Obj) (D : Nat) (oI : Obj) (h : Heap) (tk : Nat) (E' : Value → Shared → Prop), nm i m₂ → NsObj oC m₂ → Fr h₀ L h m → News h₀ L h ((I, oI) :: (C, oC) :: (D, lst ys) :: (ad ++ base)) → Off3 I C D (ad ++ base) → ((@Ne Nat I C) ∧ (@Ne Nat I D) ∧ (@Ne Nat C D)) →
      wpAny (model prog w) A (eval elt (compEnvC scope cl C env)) (fun y s₃ => GcX h₀ L m { s with heap := h, toks := tk } [(I, oI), (C, oC), (D, lst ys)] (ad ++ base) (fun nw => J (i + 1) (ys ++ [y]) (nw ++ ad)) s₃) E' { s with heap := h, toks := tk })
    (fin : ∀ ys ad g, J its.size ys ad → Apart ad base → Fin' { s with heap := g } ys (ad ++ base)) :
    wpAny (model prog w) A (pyIter (.ref ax)) (GcIt prog w A h₀ L m env elt target iter [] scope cl pos E Fin') E s := by
  refine gc_list (fun c : GS => c.ad ++ base) GS.ys (fun i => gsJ base (J i)) ⟨[], []⟩ nm hh (fun c => List.mem_append_right _ hm) (by rw [PySem.sizeLine_eq]; omega) hcell hkind F N (fun _ h => h) rfl ⟨hJ₀, fun _ h => by cases h⟩ (fun i v c s' C m' Q E' hi hv _ hn N' kk => asg i v s' C m' Q E' hi hv hn (sub_news N' fun p hp => List.mem_append_right _ hp) kk) (fun I i c lI hlt hJ => ?_) (fun c g hJ => fin c.ys c.ad g hJ.1 hJ.2)
  exact gcx_one0 hJ.2 fun m₂ C oC D oI h tk E' hnm hC F N off ne => turn I i c.ys c.ad lI hlt hJ.1 hJ.2 m₂ C oC D oI h tk E' hnm hC F N off ne
theorem gcx_enum {x y : Str} {px py tp : Pos} {kk : Nat} {l : Addr} {vs : List Value} {ns : List Int} {k : Nat} (J : Nat → List Value → Led → Prop)
    (hi : IntsAre vs ns) (hm : (l, ({ cls := .type "list", data := .seq vs.toArray k } : Obj)) ∈ base) (hsz : ns.length ≤ 64) (F : Fr h₀ L s.heap m) (N : News h₀ L s.heap base) (hJ₀ : J 0 [] [])
    (hh : A.handled = none) (hcell : ∀ y ∈ scope.names, y.2 ≠ .cell) (hkind : scope.kind = .function) (hx : scope.names.lookup x = some .local) (hy : scope.names.lookup y = some .local) (hxy : x ≠ y)
    (turn : ∀ (I i : Nat) (ys : List Value) (ad : Led) (k : Int), (∀ p ∈ base, p.1 < I) → ns[i]? = some k → J i ys ad → Apart ad base → ∀ (m₂ : Str → Option Value) (t t' : Tok) (C : Nat) (oC : Obj) (D : Nat) (oI o2 : Obj) (h : Heap) (tk : Nat) (E' : Value → Shared → Prop), m₂ x = some (.int (i : Int) t) → m₂ y = some (.int k t') → NsObj oC m₂ → Fr h₀ L h m → News h₀ L h ((I + 1, oI) :: (C, oC) :: (D, lst ys) :: (I, o2) :: (ad ++ base)) → Off3 (I + 1) C D ((I, o2) :: (ad ++ base)) → ((@Ne Nat (I + 1) C) ∧ (@Ne Nat (I + 1) D) ∧ (@Ne Nat C D)) →
      wpAny (model prog w) A (eval elt (compEnvC scope cl C env)) (fun y s₃ => GcX h₀ L m { s with heap := h, toks := tk } [(I + 1, oI), (C, oC), (D, lst ys), (I, o2)] (ad ++ base) (fun nw => J (i + 1) (ys ++ [y]) (nw ++ ad)) s₃) E' { s with heap := h, toks := tk })
    (fin : ∀ ys ad g, J ns.length ys ad → Apart ad base → Fin' { s with heap := g } ys (ad ++ base)) :
    wpAny (model prog w) A (call (.type "enumerate") [.ref l]) (fun xv s₁ => wpAny (model prog w) A (pyIter xv) (GcIt prog w A h₀ L m env elt (.Tuple [.Name x px, .Name y py] kk tp) iter [] scope cl pos E Fin') E s₁) E s := by
  have hl := hi.length
  refine gc_enum (fun c : GS => c.ad ++ base) GS.ys (fun i => gsJ base (J i)) ⟨[], []⟩ hh (fun c => List.mem_append_right _ hm) (by rw [List.size_toArray, hl, PySem.sizeLine_eq]; omega) hcell hkind hx hy hxy F N (fun _ h => h) rfl ⟨hJ₀, fun _ h => by cases h⟩ (fun I i c lI hlt hJ => ?_) (fun c g hJ => fin c.ys c.ad g (by have h := hJ.1; rw [List.size_toArray, hl] at h; exact h) hJ.2)
  refine gcx_two0 hJ.2 fun m₂ C oC D oI o2 h tk E' hnm hC F N off ne => ?_
  obtain ⟨t, v, hv, hx', hy'⟩ := hnm
  obtain ⟨k, t', rfl, hk⟩ := IntsAre.at hi i v (by simpa using hv)
  exact turn I i c.ys c.ad k lI hk hJ.1 hJ.2 m₂ t t' C oC D oI o2 h tk E' hx' hy' hC F N off ne
end
end
section
section
variable {M : Model} {A : Around} {E : Value → Shared → Prop} {s : Shared}
theorem newEnv_one {scope : Scope} {globals : Addr} {cl' : List (Str × Addr)} {x : Str} {v : Value} {qual : Str} {func : Option Addr} {code : Value} {builtins : Addr} {Q : Env → Shared → Prop}
    (hk : scope.kind = .function) (hx : scope.names.lookup x = some .cell) (hc : ∀ n, cellsFrom n scope.names cl' = (x, n) :: cl') (hp : ∀ h, pushCells h scope.names = h.push { cls := .type "cell", data := .cell none })
    (hQ : ∀ env, env = newEnv scope s.heap.objs.size globals ((x, s.heap.objs.size + 1) :: cl') qual func code none builtins → ∀ h' tk o, h'.Ns s.heap.objs.size (fun _ => none) → h'.get? (s.heap.objs.size + 1) = some o → o.data = .cell (some v) →
      (∀ b o, s.heap.get? b = some o → h'.get? b = some o) → Q env { s with heap := h', toks := tk }) :
    wpAny M A (newFunctionEnv scope globals cl' [(x, v)] qual func code none builtins) Q E s := by
  simp only [newFunctionEnv, Option.isSome_none, Bool.false_eq_true, if_false]
  refine wpAny_bind (wpAny_alloc ?_)
  refine wpAny_bind (wpAny_layCells _ (fun name kind cells => by cases hkc : kind == NameKind.cell <;> simp [hkc]) _ _ _ _ ?_)
  have hz : (s.heap.push { cls := .type "frame", data := .dict #[] }).objs.size = s.heap.objs.size + 1 := Heap.size_push ..
  rw [hc, hp, show ({ s with heap := s.heap.push { cls := .type "frame", data := .dict #[] } } : Shared).heap.objs.size = s.heap.objs.size + 1 from hz]
  have hcell : (({ s with heap := (s.heap.push { cls := .type "frame", data := .dict #[] }).push { cls := .type "cell", data := .cell none } } : Shared).heap).IsCell (s.heap.objs.size + 1) none := ⟨_, hz ▸ Heap.get?_push_size _ rfl, rfl⟩
  rw [List.forIn_cons]
  refine wpAny_bind (wpAny_bind (wpAny_bind (wpAny_storeName_cell (env := newEnv scope s.heap.objs.size globals ((x, s.heap.objs.size + 1) :: cl') qual func code none builtins) hk hx (by simp [newEnv]) hcell fun h' hc' hs' => wpAny_pure ?_)))
  show wpAny M A (pure PUnit.unit) _ _ _
  refine wpAny_pure (wpAny_pure ?_)
  obtain ⟨o, ho, hd⟩ := hc'
  have hne : s.heap.objs.size ≠ s.heap.objs.size + 1 := Nat.ne_of_lt (Nat.lt_succ_self _)
  refine hQ _ rfl h' _ o (((Heap.Ns.new s.heap (.type "frame")).push _).sameBut hs' hne) ho hd fun b o e => ?_
  exact hs'.extBut b o (Nat.ne_of_lt (Nat.lt_succ_of_lt (Heap.lt_size e))) (Heap.get?_push_of_some _ (Heap.get?_push_of_some _ e))
end
section
variable {w : World} {z : Env0} {nd nu : Nat} {mu ex : Led} {R : Led → Led → Value → Prop} {v : Value}
theorem spec_lamC {name qual x : Str} {params : Arguments} {body : Expr} {scope : Scope} {cl' : List (Str × Addr)} {pm ctv : Value} {c' f : Addr} {oc : Obj} {ovs : Array Value} {qt : Tok}
    (hf : (f, kla_obj name qual params body scope cl' pm c' ctv) ∈ ex) (hc : (c', oc) ∈ ex) (hd1 : oc.data = .fields ovs) (hd2 : ovs[1]? = some (.str qual qt))
    (hbind : bindArgs (kla_fn name qual params body scope cl' pm (.ref c') ctv) ⟨[v], []⟩ = pure [(x, v)]) (hx : scope.names.lookup x = some .cell) (hce : ∀ n, cellsFrom n scope.names cl' = (x, n) :: cl') (hpu : ∀ h, pushCells h scope.names = h.push { cls := .type "cell", data := .cell none })
    (h : ∀ (dp un : Nat) (gd : Option (List Code)) (outer : List Env) (A₀ : Around) (base g : Heap) (L : Addr) (h₁ : Heap) (s : Shared) (tk : Nat) (co : Obj), Below A₀ base outer g → Fr g L h₁ (fun _ => none) → (hd.heap_1 w.params).In g → News g L h₁ ((L + 1, co) :: (mu ++ ex)) → co.data = .cell (some v) →
      Top z.p z.loose z.mean z.mg z.mb g → Codes base → dp + nd < recursionLimit → un + nu < cLine → (∀ p ∈ mu ++ ex, p.1 < L) →
      wpAny (model PySem.Challenge.rw_wf0038_01.prog w) (ktrTop dp un gd qual scope L f (.ref c') ((x, L + 1) :: cl') outer) (eval body (envX qual scope L f (.ref c') ((x, L + 1) :: cl'))) (fun v s' => Fin s g L mu ex R v s') (fun _ _ => False) { s with heap := h₁, toks := tk })
    (hco : scope.isCoroutine = false) (hgen : scope.isGenerator = false) (hk : scope.kind = .function) : Spec w z (nd + 1) (nu + 3) (.ref f) [v] [] mu ex R := by
  intro dp un gd cn cs a ccd cl outer A₀ base h₀ L m led s Q E B F X N T hks C hd hu hex ap k
  have Nx := sub_news N (mem_ex hex)
  obtain ⟨FG, BG, st, lv⟩ := groundX (A := ktrTop dp un gd cn cs L a ccd cl outer) (env := envX cn cs L a ccd cl) (R := fun r s' => match r with | .ok (.ret v) => Q v s' | .ok _ => False | .error e => E e s') B F Nx rfl rfl hks
  have hrec : s.heap.CodeRec (.ref c') qual := ⟨c', oc, ovs, qt, rfl, (Nx _ (List.mem_append_right _ hc)).1, hd1, hd2⟩
  refine wpAny_call (kla_callFunE (show dp < recursionLimit by omega) (Nx _ (List.mem_append_right _ hf)).1 rfl hco hgen rfl hrec ?_)
  rw [hbind]
  refine wpAny_pure (newEnv_one hk hx hce hpu fun env he h₁ tk co hns hco' hcd hk₁ => ?_)
  subst he
  refine ⟨(T.nolimit.keeps F.keep).keeps hk₁, ?_⟩
  have G : GSub s.heap (hideAll s.heap ((mu ++ ex).map (·.1))) ((mu ++ ex).map (·.1)) := fun b o e n => hideAll_get _ e n
  show codeAny _ _ (.expr body (envX qual scope s.heap.objs.size f (.ref c') ((x, s.heap.objs.size + 1) :: cl'))) _ _
  exact kla_codeExpr (wpAny_mono (h (dp + 1) (un + 3) gd (envX cn cs L a ccd cl :: outer) _ base _ s.heap.objs.size h₁ s tk co BG ⟨hns, fun b o e => hk₁ b o (of_hideAll _ e), Nat.le_of_eq (hideAll_size _ _)⟩ (X.keeps st)
    (fun p hp => by
      rcases List.mem_cons.mp hp with rfl | hp
      · refine ⟨hco', Nat.ne_of_gt (Nat.lt_succ_self _), ?_⟩
        cases q : (hideAll s.heap ((mu ++ ex).map (·.1))).get? (s.heap.objs.size + 1) with
        | none => rfl
        | some o =>
          have h1 := Heap.lt_size (of_hideAll _ q)
          exact absurd (Nat.lt_trans (Nat.lt_succ_self _) h1) (Nat.lt_irrefl _)
      · exact ⟨hk₁ _ _ (Nx p hp).1, Nat.ne_of_lt (Heap.lt_size (Nx p hp).1), hideAll_none _ (List.mem_map_of_mem hp)⟩) hcd (T.keeps st) C (by omega) (by omega) (fun p hp => Heap.lt_size (Nx p hp).1)) (fun v s' hf => lv _ _ (leave_of (s₁ := s) N hex ap G hf k)) fun _ _ hF => hF.elim)
end
section
open PyProof.Rows.LCg
variable {prog : Program} {w : World} {A : Around} {E : Value → Shared → Prop} {s : Shared} {h₀ : Heap} {L : Addr} {m : Str → Option Value} {env : Env}
  {elt iter target : Expr} {scope : Scope} {cl : List (Str × Addr)} {pos : Pos} {Fin' : Shared → List Value → Led → Prop} {all : Led}
theorem gck_listA {ax : Addr} {its : Array Value} {k : Nat} (J : Nat → List Value → Prop) (nm : Nat → (Str → Option Value) → Prop)
    (hm : (ax, ({ cls := .type "list", data := .seq its k } : Obj)) ∈ all) (hsz : its.size ≤ 64) (F : Fr h₀ L s.heap m) (N : News h₀ L s.heap all) (hJ₀ : J 0 [])
    (hh : A.handled = none) (hcell : ∀ y ∈ scope.names, y.2 ≠ .cell) (hkind : scope.kind = .function)
    (asg : ∀ (i : Nat) (v : Value) (s : Shared) (C : Addr) (m' : Str → Option Value) (Q : Unit → Shared → Prop) (E' : Value → Shared → Prop), i < its.size → its[i]? = some v → s.heap.Ns C m' → News h₀ L s.heap all →
      (∀ h' tk m₂, h'.Ns C m₂ → nm i m₂ → (∀ b o, b ≠ C → s.heap.get? b = some o → h'.get? b = some o) → Q () { s with heap := h', toks := tk }) → wpAny (model prog w) A (assign target (compEnvC scope cl C env) v) Q E' s)
    (turn : ∀ (I i : Nat) (ys : List Value), (∀ p ∈ all, p.1 < I) → i < its.size → J i ys → ∀ (m₂ : Str → Option Value) (C : Nat) (oC : Obj) (D : Nat) (oI : Obj) (h : Heap) (tk : Nat) (E' : Value → Shared → Prop), nm i m₂ → NsObj oC m₂ → Fr h₀ L h m → News h₀ L h ((I, oI) :: (C, oC) :: (D, lst ys) :: all) → Off3 I C D all → ((@Ne Nat I C) ∧ (@Ne Nat I D) ∧ (@Ne Nat C D)) →
      wpAny (model prog w) A (eval elt (compEnvC scope cl C env)) (fun y s₃ => GcK h₀ L m { s with heap := h, toks := tk } ((I, oI) :: (C, oC) :: (D, lst ys) :: all) (J (i + 1) (ys ++ [y])) s₃) E' { s with heap := h, toks := tk })
    (fin : ∀ ys g, J its.size ys → Fin' { s with heap := g } ys all) :
    wpAny (model prog w) A (pyIter (.ref ax)) (GcIt prog w A h₀ L m env elt target iter [] scope cl pos E Fin') E s := by
  refine gc_list (fun _ => all) (fun ys => ys) J [] nm hh (fun _ => hm) (by rw [PySem.sizeLine_eq]; omega) hcell hkind F N (fun _ h => h) rfl hJ₀ (fun i v c s' C m' Q E' hi hv _ hn N' kk => asg i v s' C m' Q E' hi hv hn N' kk) (fun I i ys lI hlt hJ => ?_) fin
  exact gck_one0 fun m₂ C oC D oI h tk E' hnm hC F N off ne => turn I i ys lI hlt hJ m₂ C oC D oI h tk E' hnm hC F N off ne
end
end
section
section
open PyProof.Rows.LCg
variable {prog : Program} {w : World} {A : Around} {E : Value → Shared → Prop} {s : Shared} {h₀ : Heap} {L : Addr} {m : Str → Option Value} {env : Env} {σ : Type} {K : Type} [DecidableEq K] {knd : KeyKind prog w K}
noncomputable def GdE (h₀ : Heap) (L : Addr) (m : Str → Option Value) (s₁ : Shared) (I : Addr) (oI : Obj) (C : Addr) (oC : Obj) (D : Addr) (oD : Obj) (Ld : σ → Led) (J : σ → Prop) (s₂ : Shared) : Prop :=
  ∃ h' tk c', s₂ = { s₁ with heap := h', toks := tk } ∧ Fr h₀ L h' m ∧ News h₀ L h' ((I, oI) :: (C, oC) :: (D, oD) :: Ld c') ∧ Off3 I C D (Ld c') ∧ J c'
noncomputable def GdTurn (knd : KeyKind prog w K) (A : Around) (h₀ : Heap) (L : Addr) (m : Str → Option Value) (env : Env) (kx vx : Expr) (scope : Scope) (cl : List (Str × Addr)) (s : Shared) (I : Addr) (Ld : σ → Led) (Kv : σ → List (K × Value)) (nm : (Str → Option Value) → Prop) (Jn : σ → Prop) (c : σ) : Prop :=
  ∀ (m₂ : Str → Option Value) (C : Nat) (oC : Obj) (D : Nat) (oD oI : Obj) (h : Heap) (tk : Nat) (E' : Value → Shared → Prop), nm m₂ → NsObj oC m₂ → Fr h₀ L h m → News h₀ L h ((I, oI) :: (C, oC) :: (D, oD) :: Ld c) → oD.IsDictOf knd (Kv c) → Off3 I C D (Ld c) →
    ((@Ne Nat I C) ∧ (@Ne Nat I D) ∧ (@Ne Nat C D)) →
    wpAny (model prog w) A (eval kx (compEnvC scope cl C env)) (fun kv s₃ => wpAny (model prog w) A (eval vx (compEnvC scope cl C env)) (fun vv s₄ =>
      GdE h₀ L m { s with heap := h, toks := tk } I oI C oC D oD Ld (fun c' => ∃ key, knd.is key kv = true ∧ Kv c' = stored (Kv c) key vv ∧ Jn c') s₄) E' s₃) E' { s with heap := h, toks := tk }
theorem gd_block {kx vx iter : Expr} {x : Str} {px : Pos} {scope : Scope} {cl : List (Str × Addr)} {pos : Pos} {s₂ : Shared} {I : Addr} {fp wr : List Addr} {n : Nat} {P : Nat → Value → Prop} {St : Nat → Heap → Prop} {keep : Led}
    (Ld : σ → Led) (Kv : σ → List (K × Value)) (J : Nat → σ → Prop) (c₀ : σ) (nm : Nat → (Str → Option Value) → Prop) {RR : Value → Addr → Result → Shared → Prop}
    (W : Walks prog w A I fp wr n P St) (hobj : ∀ i h, St i h → ∃ o, h.get? I = some o)
    (hI : h₀.get? I = none ∧ I ≠ L ∧ I < s₂.heap.objs.size) (hwr : ∀ b ∈ wr, b = I)
    (hfp : ∀ b ∈ fp, b = I ∨ (∃ o, (b, o) ∈ keep) ∨ ∃ o, h₀.get? b = some o) (hkeep : ∀ c, ∀ p ∈ keep, p ∈ Ld c)
    (hcell : ∀ y ∈ scope.names, y.2 ≠ .cell) (hkind : scope.kind = .function) (hx : scope.names.lookup x = some .local) (hst : St 0 s₂.heap)
    (F : Fr h₀ L s₂.heap m) (N : News h₀ L s₂.heap (Ld c₀)) (off : ∀ p ∈ Ld c₀, p.1 ≠ I) (hY : Kv c₀ = []) (hJ₀ : J 0 c₀) (hlen : ∀ i c, J i c → (Kv c).length ≤ sizeLine)
    (hnm : ∀ i v m₂, P i v → m₂ x = some v → nm i m₂)
    (turn : ∀ i c, i < n → J i c → GdTurn knd A h₀ L m env kx vx scope cl s₂ I Ld Kv (nm i) (J (i + 1)) c)
    (hRR : ∀ D C h tk m' c oD, Fr h₀ L h m → News h₀ L h ((D, oD) :: Ld c) → oD.IsDictOf knd (Kv c) → Off1 D (Ld c) → s₂.heap.objs.size ≤ D → h.Ns C m' → h₀.get? C = none → h₀.get? D = none → C ≠ L → D ≠ L → C ≠ D → (∀ p ∈ Ld c, p.1 ≠ C) → J n c → RR (.ref D) C (.ok .next) { s₂ with heap := h, toks := tk }) :
    wpAny (model prog w) A newDict (fun acc s₃ => wpAny (model prog w) A (newFunctionEnv scope env.globals cl [] env.qual none .none (some env)) (fun cenv s₄ =>
      codeAny (model prog w) A (.compStart (.DictComp kx vx [⟨.Name x px, iter, [], 0⟩] scope pos) 0 (.ref I) acc { cenv with scope := relabel scope env }) (RR acc cenv.locals) s₄) E s₃) E s₂ := by
  refine wpAny_newObj_type (wpAny_newFunctionEnv hcell (by intro y hy; simp at hy) (fun h₁ hns₁ hsb₁ => ?_) hkind)
  dsimp only at hns₁ hsb₁ ⊢
  have hnew : (s₂.heap.push { cls := .type "dict", dict := none, data := .dict #[] }).DictOf knd s₂.heap.objs.size [] := Heap.DictOf.new s₂.heap
  generalize hH2 : s₂.heap.push { cls := .type "dict", dict := none, data := .dict #[] } = H2 at hns₁ hsb₁ hnew ⊢
  have hC : H2.objs.size = s₂.heap.objs.size + 1 := by rw [← hH2, Heap.size_push]
  have hDC : s₂.heap.objs.size ≠ H2.objs.size := by rw [hC]; exact Nat.ne_of_lt (Nat.lt_succ_self _)
  have below : ∀ b, b < s₂.heap.objs.size → b ≠ H2.objs.size ∧ b ≠ s₂.heap.objs.size := fun b hb => ⟨by rw [hC]; exact Nat.ne_of_lt (Nat.lt_succ_of_lt hb), Nat.ne_of_lt hb⟩
  have old : ∀ b o, s₂.heap.get? b = some o → h₁.get? b = some o := fun b o e => hsb₁.extBut b o (below b (Heap.lt_size e)).1 (Heap.get?_push_of_some _ (hH2 ▸ Heap.get?_push_of_some _ e))
  have hacc : h₁.DictOf knd s₂.heap.objs.size [] := hnew.at fun o e => hsb₁.extBut _ _ hDC (Heap.get?_push_of_some _ e)
  have hst₁ : St 0 h₁ := W.frame _ _ _ hst fun b _ o e => old b o e
  have fresh : ∀ a, s₂.heap.objs.size ≤ a → s₂.heap.get? a = none := fun a ha => by
    cases e : s₂.heap.get? a with
    | none => rfl
    | some o' => exact absurd (Heap.lt_size e) (Nat.not_lt.mpr ha)
  have fresh₀ : ∀ a, s₂.heap.objs.size ≤ a → h₀.get? a = none := fun a ha => by
    cases e : h₀.get? a with
    | none => rfl
    | some o' => have := F.keep a o' e; rw [fresh a ha] at this; cases this
  have hD₀ : h₀.get? s₂.heap.objs.size = none := fresh₀ _ (Nat.le_refl _)
  have hC₀ : h₀.get? H2.objs.size = none := fresh₀ _ (by rw [hC]; exact Nat.le_succ _)
  have hLlt : L < s₂.heap.objs.size := F.ns.lt
  have hDL : s₂.heap.objs.size ≠ L := Ne.symm (below L hLlt).2
  have hCL : H2.objs.size ≠ L := Ne.symm (below L hLlt).1
  have hIlt : I < s₂.heap.objs.size := hI.2.2
  have hCI : I ≠ H2.objs.size := (below I hIlt).1
  have hDI : I ≠ s₂.heap.objs.size := (below I hIlt).2
  have hfplt : ∀ b ∈ fp, b < s₂.heap.objs.size := fun b hb => by
    rcases hfp b hb with h | ⟨o, h⟩ | ⟨o, h⟩
    · rw [h]; exact hIlt
    · exact Heap.lt_size (N _ (hkeep c₀ _ h)).1
    · exact Heap.lt_size (F.keep _ _ h)
  have hCw : ∀ b ∈ wr, b ≠ H2.objs.size ∧ b ≠ s₂.heap.objs.size ∧ b ≠ L ∧ h₀.get? b = none := fun b hb => by
    rw [hwr b hb]
    exact ⟨hCI, hDI, hI.2.1, hI.1⟩
  have loop : ∀ s₃ : Shared, s₃ = { s₂ with heap := h₁, toks := s₂.toks + ([] : List (Str × Value)).length } →
      codeAny (model prog w) A (.compLoop (.DictComp kx vx [⟨.Name x px, iter, [], 0⟩] scope pos) 0 (.ref I) (.ref s₂.heap.objs.size) (compEnvC scope cl H2.objs.size env))
        (RR (.ref s₂.heap.objs.size) H2.objs.size) s₃ := by
    rintro s₃ rfl
    refine codeAny_compLoop_testsD
      (fun k s' => ∃ h' tk i c m' oD, s' = { s₂ with heap := h', toks := tk } ∧ i ≤ n ∧ k = n + 1 - i ∧ St i h' ∧ Fr h₀ L h' m ∧ h'.Ns H2.objs.size m' ∧ News h₀ L h' ((s₂.heap.objs.size, oD) :: Ld c) ∧ oD.IsDictOf knd (Kv c) ∧
        (∀ p ∈ Ld c, p.1 ≠ I ∧ p.1 ≠ H2.objs.size ∧ p.1 ≠ s₂.heap.objs.size) ∧ J i c) ?_ (n + 1) ?_
    · rintro k s' ⟨h', tk, i, c, m', oD, rfl, hi, rfl, hst', F', hn', N', hoD, off', hJ'⟩
      have up : ∀ (hx : Heap), (∀ b o, b ∉ wr → h'.get? b = some o → hx.get? b = some o) → Fr h₀ L hx m ∧ News h₀ L hx ((s₂.heap.objs.size, oD) :: Ld c) ∧ hx.Ns H2.objs.size m' := fun hx hk => by
        refine ⟨⟨F'.ns.at' fun o e => hk _ o (fun q => (hCw _ q).2.2.1 rfl) e, fun b o e => hk b o (fun q => by rw [(hCw _ q).2.2.2] at e; cases e) (F'.keep b o e), F'.above⟩, fun p hp => ⟨hk _ _ (fun q => ?_) (N' p hp).1, (N' p hp).2⟩, hn'.at' fun o e => hk _ o (fun q => (hCw _ q).1 rfl) e⟩
        rcases List.mem_cons.mp hp with rfl | hp
        · exact (hCw _ q).2.1 rfl
        · exact (off' p hp).1 (hwr _ q)
      by_cases hlt : i < n
      · refine W.item i _ _ _ hlt hst' fun v h₂ tk₂ hP hst₃ hk₃ => ?_
        obtain ⟨F₃, N₃, hn₃⟩ := up h₂ hk₃
        refine asg_name (scope := scope) (cl := cl) (env := env) hx hkind hn₃ fun h₄ tk₄ m₂ hn₄ hm₂ hk₄ => ?_
        have hst₄ : St (i + 1) h₄ := W.frame _ _ _ hst₃ fun b hb o e => hk₄ b o (below b (hfplt b hb)).1 e
        obtain ⟨oI, heI⟩ := hobj _ _ hst₄
        obtain ⟨oC, heC, hoC⟩ := ns_obj hn₄
        have F₄ : Fr h₀ L h₄ m := ⟨F₃.ns.at' fun o e => hk₄ _ o (Ne.symm hCL) e, fun b o e => hk₄ b o (fun q => by rw [q, hC₀] at e; cases e) (F₃.keep b o e), F₃.above⟩
        have N₄ : News h₀ L h₄ ((I, oI) :: (H2.objs.size, oC) :: (s₂.heap.objs.size, oD) :: Ld c) := fun p hp => by
          rcases List.mem_cons.mp hp with rfl | hp
          · exact ⟨heI, hI.2.1, hI.1⟩
          rcases List.mem_cons.mp hp with rfl | hp
          · exact ⟨heC, hCL, hC₀⟩
          rcases List.mem_cons.mp hp with rfl | hp
          · exact ⟨hk₄ _ _ hDC (N₃ _ List.mem_cons_self).1, hDL, hD₀⟩
          · have z := N₃ p (List.mem_cons_of_mem _ hp)
            exact ⟨hk₄ _ _ (off' p hp).2.1 z.1, z.2⟩
        have off₄ : Off3 I H2.objs.size s₂.heap.objs.size (Ld c) := Off3.of fun p hp => off' p hp
        refine wpAny_tests_nil ?_
        rw [if_pos rfl]
        refine wpAny_mono (turn i c hlt hJ' m₂ H2.objs.size oC s₂.heap.objs.size oD oI h₄ _ _ (hnm i v m₂ hP hm₂) hoC F₄ N₄ hoD off₄ ⟨hCI, hDI, Ne.symm hDC⟩) (fun kv s₅ h₅' => wpAny_mono h₅' (fun vv s₆ h₆' => ?_) fun _ _ e => e) fun _ _ e => e
        obtain ⟨h₅, tk₅, c', rfl, F₅, N₅, off₅, key, hkey, hKv, hJc⟩ := h₆'
        have off5 := off₅.mem
        have zC := (N₅ (H2.objs.size, oC) (List.mem_cons_of_mem _ List.mem_cons_self)).1
        have zD := (N₅ (s₂.heap.objs.size, oD) (List.mem_cons_of_mem _ (List.mem_cons_of_mem _ List.mem_cons_self))).1
        have zI := (N₅ (I, oI) List.mem_cons_self).1
        have zR : ∀ p ∈ Ld c', h₅.get? p.1 = some p.2 ∧ p.1 ≠ L ∧ h₀.get? p.1 = none := fun p hp => N₅ p (List.mem_cons_of_mem _ (List.mem_cons_of_mem _ (List.mem_cons_of_mem _ hp)))
        have hst₅ : St (i + 1) h₅ := W.frame _ _ _ hst₄ fun b hb o e => by
          rcases hfp b hb with h | ⟨o₁, h⟩ | ⟨o₁, h⟩
          · rw [h, heI] at e; cases e
            rw [h]; exact zI
          · have h1 := (N₄ _ (List.mem_cons_of_mem _ (List.mem_cons_of_mem _ (List.mem_cons_of_mem _ (hkeep c _ h))))).1
            rw [h1] at e; cases e
            exact (zR _ (hkeep c' _ h)).1
          · have h1 := F₄.keep _ _ h
            rw [h1] at e; cases e
            exact F₅.keep _ _ h
        refine wpAny_dictSet_pairs (hsz := hlen i c hJ') hkey (Heap.dictOf_iff.mpr ⟨oD, zD, hoD⟩) fun h₆ hD₆ hs₆ => ?_
        obtain ⟨oD', ho', hd'⟩ := Heap.dictOf_iff.mp hD₆
        refine ⟨n + 1 - (i + 1), by omega, h₆, _, i + 1, c', _, oD', rfl, hlt, rfl, W.frame _ _ _ hst₅ fun b hb o e => hs₆.extBut b o (below b (hfplt b hb)).2 e, F₅.change hs₆ hDL hD₀, (hoC.ns zC).sameBut hs₆ (Ne.symm hDC), fun p hp => ?_, hKv ▸ hd', fun p hp => off5 p hp, hJc⟩
        rcases List.mem_cons.mp hp with rfl | hp
        · exact ⟨ho', hDL, hD₀⟩
        · exact ⟨hs₆.extBut _ _ (off5 p hp).2.2 (zR p hp).1, (zR p hp).2⟩
      · obtain rfl : i = n := Nat.le_antisymm hi (Nat.not_lt.mp hlt)
        refine W.done _ _ _ hst' fun h₂ tk₂ hk₂ => ?_
        obtain ⟨F₂, N₂, hn₂⟩ := up h₂ hk₂
        exact hRR _ _ h₂ tk₂ _ c oD F₂ N₂ hoD (Off3.one (Off3.of fun p hp => off' p hp : Off3 I H2.objs.size s₂.heap.objs.size (Ld c))) (Nat.le_refl _) hn₂ hC₀ hD₀ hCL hDL (Ne.symm hDC) (fun p hp => (off' p hp).2.1) hJ'
    · obtain ⟨oD, hoD1, hoD2⟩ := Heap.dictOf_iff.mp hacc
      refine ⟨h₁, _, 0, c₀, _, oD, rfl, Nat.zero_le _, rfl, hst₁, F.keeps old, hns₁, fun p hp => ?_, hY ▸ hoD2, fun p hp => ⟨off p hp, below _ (Heap.lt_size (N p hp).1)⟩, hJ₀⟩
      rcases List.mem_cons.mp hp with rfl | hp
      · exact ⟨hoD1, hDL, hD₀⟩
      · exact ⟨old _ _ (N p hp).1, (N p hp).2⟩
  exact codeAny_compStart_dict (loop _ rfl) (W.self 0 _ _ _ hst₁ (loop _ rfl))
theorem gd_keys {d : Nat} {od : Obj} {all : Led} {kx vx iter : Expr} {x : Str} {px pos : Pos} {scope : Scope} {cl : List (Str × Addr)} {kvs : List (K × Value)} {Q : Value → Shared → Prop} (Ld : σ → Led) (Kv : σ → List (K × Value)) (J : Nat → σ → Prop) (c₀ : σ)
    (hh : A.handled = none) (hclos : closureFor scope env = pure cl) (hcell : ∀ y ∈ scope.names, y.2 ≠ .cell) (hkind : scope.kind = .function) (hnames : ∀ y ∈ scope.names, y.2 = .local → scope.names.lookup y.1 = some .local) (hx : scope.names.lookup x = some .local)
    (hit : ∀ (Q' : Value → Shared → Prop), Q' (.ref d) s → wpAny (model prog w) A (eval iter env) Q' E s)
    (hm : ∀ c, (d, od) ∈ Ld c) (hd : od.IsDictOf knd kvs) (lo : (d == sysModules) = false)
    (F : Fr h₀ L s.heap m) (N : News h₀ L s.heap all) (hsub : ∀ p ∈ Ld c₀, p ∈ all) (hbig : h₀.NoLimit) (hY : Kv c₀ = []) (hJ₀ : J 0 c₀) (hlen : ∀ i c, J i c → (Kv c).length ≤ sizeLine)
    (turn : ∀ I i c g, (∀ p ∈ all, p.1 < I) → i < kvs.length → J i c → GdTurn knd A h₀ L m env kx vx scope cl { s with heap := g } I Ld Kv (fun m₂ => ∃ k y v, kvs[i]? = some (k, y) ∧ knd.is k v = true ∧ m₂ x = some v) (J (i + 1)) c)
    (fin : ∀ c D oD h tk, J kvs.length c → oD.IsDictOf knd (Kv c) → (D == sysModules) = false → Fr h₀ L h m → News h₀ L h ((D, oD) :: Ld c) → Q (.ref D) { s with heap := h, toks := tk })
    (hs : ∀ x, foldedSetIterable iter env x = pure x := by intro _; rfl) :
    wpAny (model prog w) A (eval (.DictComp kx vx [⟨.Name x px, iter, [], 0⟩] scope pos) env) Q E s := by
  rw [arm_eval_DictComp]
  have hsd := kda_dict N (hsub _ (hm c₀)) hd
  obtain ⟨ep, hat⟩ := hsd.dictAt
  have hne : d ≠ s.heap.objs.size := Nat.ne_of_lt hat.lt_size
  have hlt : ∀ p ∈ all, p.1 < s.heap.objs.size := fun p hp => Heap.lt_size (N p hp).1
  refine wpAny_comprehension_free (use := none) rfl hs hclos hkind hnames (hit _ (wpAny_pyIter_dict lo hat ?_))
  refine gd_block (knd := knd) (I := s.heap.objs.size) (keep := [(d, od)]) (RR := fun acc C => compPost (model prog w) A E none Q acc C) Ld Kv J c₀ (fun i m₂ => ∃ k y v, kvs[i]? = some (k, y) ∧ knd.is k v = true ∧ m₂ x = some v) (Walks.dictKeys (knd := knd) hh s.heap.objs.size d hne kvs ep)
    (fun i h st => by obtain ⟨o, e, hc, _⟩ := st.1; exact ⟨o, e⟩) ⟨next_is_new F, Nat.ne_of_gt F.ns.lt, by show s.heap.objs.size < (s.heap.push _).objs.size; rw [Heap.size_push]; exact Nat.lt_succ_self _⟩ (fun b hb => List.mem_singleton.mp hb)
    (fun b hb => ?_) (fun c p hp => by rw [List.mem_singleton.mp hp]; exact hm c) hcell hkind hx ⟨⟨_, Heap.get?_push_size _ rfl, rfl, rfl⟩, hat.push _⟩ (F.push _) (fun p hp => ⟨Heap.get?_push_of_some _ (N p (hsub p hp)).1, (N p (hsub p hp)).2⟩) (fun p hp hI => ?_) hY hJ₀ hlen
    (fun i v m₂ hP hm₂ => ?_) (fun i c hi hJ => turn _ i c _ hlt hi hJ) (fun D C h tk m' c oD F' N' hoD o1 hDs hn hC₀ hD₀ hCL hDL hCD offC hJ => ?_)
  · rcases List.mem_cons.mp hb with h | hb
    · exact .inl h
    · rw [List.mem_singleton.mp hb]; exact .inr (.inl ⟨_, List.mem_cons_self⟩)
  · exact absurd (hlt p (hsub p hp)) (hI ▸ Nat.lt_irrefl _)
  · obtain ⟨k', y, h1, h2⟩ := hP
    exact ⟨k', y, v, h1, h2, hm₂⟩
  · refine ⟨m', hn, fun h'' hs'' => ?_⟩
    have loD : (D == sysModules) = false := by
      have h1 : sysModules < h₀.objs.size := modules_low hbig
      have h2 : h₀.objs.size ≤ L := F.above
      have h3 : L < s.heap.objs.size := F.ns.lt
      have h4 : (s.heap.push _).objs.size ≤ D := hDs
      rw [Heap.size_push] at h4
      exact beq_eq_false_iff_ne.mpr (Nat.ne_of_gt (Nat.lt_trans h1 (Nat.lt_of_le_of_lt h2 (Nat.lt_trans h3 h4))))
    refine fin c D oD h'' tk hJ hoD loD (F'.change hs'' hCL hC₀) (fun p hp => ?_)
    refine ⟨hs''.extBut _ _ ?_ (N' p hp).1, (N' p hp).2⟩
    rcases List.mem_cons.mp hp with rfl | hp
    · exact Ne.symm hCD
    · exact offC p hp
end
end
section
noncomputable abbrev nib (V k : Nat) : Nat := (V >>> (4 * k)) &&& 15
inductive Tr where
  | leaf
  | node (l : Tr) (V T : Nat) (r : Tr)
noncomputable def Tr.look : Tr → Nat → Nat → Bool
  | .leaf, _, _ => false
  | .node l V T r, v, t => cond (Nat.beq v V) (Nat.beq t T) (cond (Nat.ble v V) (l.look v t) (r.look v t))
noncomputable def Tr.all (p : Nat → Nat → Bool) : Tr → Bool
  | .leaf => true
  | .node l V T r => l.all p && (p V T && r.all p)
theorem Tr.all_look {p : Nat → Nat → Bool} {v t : Nat} : ∀ {x : Tr}, x.look v t = true → x.all p = true → p v t = true
  | .leaf, h, _ => Bool.noConfusion h
  | .node l V T r, h, a => by
    simp only [Tr.all, Bool.and_eq_true] at a
    unfold Tr.look at h
    cases h1 : Nat.beq v V with
    | true =>
      rw [h1] at h
      have e1 := Nat.eq_of_beq_eq_true h1
      have e2 := Nat.eq_of_beq_eq_true (show Nat.beq t T = true from h)
      rw [e1, e2]; exact a.2.1
    | false =>
      rw [h1] at h
      replace h : cond (Nat.ble v V) (l.look v t) (r.look v t) = true := h
      cases h2 : Nat.ble v V with
      | true => rw [h2] at h; exact Tr.all_look (x := l) h a.1
      | false => rw [h2] at h; exact Tr.all_look (x := r) h a.2.2
noncomputable def allLt (n : Nat) (p : Nat → Bool) : Bool := n.rec true fun i r => p i && r
theorem allLt_ok {p : Nat → Bool} : ∀ {n : Nat}, allLt n p = true → ∀ i < n, p i = true
  | 0, _, i, h => absurd h (Nat.not_lt_zero i)
  | n + 1, h, i, hi => by
    have h' : p n = true ∧ allLt n p = true := by simpa only [allLt, Bool.and_eq_true] using h
    by_cases e : i = n
    · rw [e]; exact h'.1
    · exact allLt_ok h'.2 i (by omega)
noncomputable def tab : List (List Int × Nat × Nat) := [([0, 1, 2, 3], 18446744071418884880, 9838263504833094160), ([0, 1, 3, 2], 18446669014861034256, 4919206811837669904), ([0, 2, 1, 3], 18446744071416674064, 9838263504262668816), ([0, 2, 3, 1], 18437173778461359888, 2488276762207986192), ([0, 3, 1, 2], 18446668868832181008, 4919094661651636752), ([0, 3, 2, 1], 18437173486412496656, 2469136463791661584), ([1, 0, 2, 3], 18446744071418884656, 9838263504833090064), ([1, 0, 3, 2], 18446669014861034032, 4919206811837665808), ([1, 2, 0, 3], 18446744071402058352, 9838263504024637968), ([1, 2, 3, 0], 18374403900736729840, 1736164148046467600), ([1, 3, 0, 2], 18446667911054471856, 4919083185499017744), ([1, 3, 2, 0], 18374399485645091568, 1446807871987913232), ([2, 0, 1, 3], 18446744071416608592, 9838263504259523088), ([2, 0, 3, 1], 18437173778461294416, 2488276762204840464), ([2, 1, 0, 3], 18446744071401928304, 9838263503991083536), ([2, 1, 3, 0], 18374403900736599792, 1736164148012913168), ([2, 3, 0, 1], 18436892299198005200, 2456751083776909840), ([2, 3, 1, 0], 18373840942327463664, 1303811986715578896), ([3, 0, 1, 2], 18446668864537213840, 4919094180615299600), ([3, 0, 2, 1], 18437173482117529488, 2469135982755324432), ([3, 1, 0, 2], 18446667902464539312, 4919076588429251088), ([3, 1, 2, 0], 18374399477055159024, 1446801274918146576), ([3, 2, 0, 1], 18436892282018660304, 2455625183870067216), ([3, 2, 1, 0], 18373840925148118768, 1302686086808736272)]
noncomputable def tr2 : Tr := (.node (.node (.node (.node (.node (.node (.node (.node (.node .leaf 18364828915527905808 3914818401512731152 .leaf) 18364828915527905936 3914817851756917264 .leaf) 18364828915527907856 3914809605419708944 (.node .leaf 18364828915527907984 3914809055663895056 .leaf)) 18364829190396899856 3935084599835898384 (.node (.node (.node .leaf 18364829190396899920 3935084599831704080 .leaf) 18364829190396901904 3935075803742876176 .leaf) 18364829190396901968 3935075803738681872 (.node .leaf 18364829190405288656 3899055253056926224 .leaf))) 18364829190405290704 3899046456963904016 (.node (.node (.node (.node .leaf 18364829190405812944 3896803453243240976 .leaf) 18364829190405814992 3896794657150218768 .leaf) 18364833313439674896 4205300577478128144 (.node .leaf 18364833313439675024 4205300027722314256 .leaf)) 18364833313439675920 4205300577411019280 (.node (.node .leaf 18364833313439676048 4205300027655205392 .leaf) 18364833313573895696 3628831029014573584 (.node .leaf 18364833313573895824 3628830479258759696 .leaf)))) 18364833313574419984 3626579229200888336 (.node (.node (.node (.node (.node .leaf 18364833313574420112 3626578679445074448 .leaf) 18364833588317582032 4187285629208637968 .leaf) 18364833588317583056 4187285629141529104 (.node .leaf 18364833588443414032 3646845427524055568 .leaf)) 18364833588443414096 3646845427519861264 (.node (.node .leaf 18364833588451802832 3610816080745083408 .leaf) 18364833588452327120 3608564280931398160 (.node .leaf 18364833605489062416 4222189076080767504 .leaf))) 18364833605489062480 4222189076076573200 (.node (.node (.node (.node .leaf 18364833605489063440 4222189076013658640 .leaf) 18364833605489063504 4222189076009464336 .leaf) 18364833605497451216 4186159729301795344 (.node .leaf 18364833605497452240 4186159729234686480 .leaf)) 18364833605623283216 3645719527617212944 (.node (.node .leaf 18364833605623283280 3645719527613018640 .leaf) 18364833605631672016 3609690180838240784 (.node .leaf 18373765746040027664 6222904414983959056 .leaf))))) 18373765746040027792 6222903865228145168 (.node (.node (.node (.node (.node (.node .leaf 18373765746040551952 6220652615170273808 .leaf) 18373765746040552080 6220652065414459920 .leaf) 18373765883478946320 6223018764193247760 (.node .leaf 18373765883478946352 6223018764193239568 .leaf)) 18373765883478979248 6222877476949070352 (.node (.node (.node .leaf 18373765883478981296 6222868680856048144 .leaf) 18373765883479470608 6220766964379562512 .leaf) 18373765883479470640 6220766964379554320 (.node .leaf 18373765883479503536 6220625677135385104 .leaf))) 18373765883479505584 6220616881042362896 (.node (.node (.node (.node .leaf 18373836527101080304 1593177058934264336 .leaf) 18373836527101082352 1593168262841242128 .leaf) 18373836527101604592 1590925259120579088 (.node .leaf 18373836527101606640 1590916463027556880 .leaf)) 18373840922855372304 11140949556677849616 (.node (.node .leaf 18373840922855372368 11140949556673655312 .leaf) 18373840922857452048 11140949557281829392 (.node .leaf 18373840922857452080 11140949557281821200 .leaf)))) 18373840922857468528 11140949556203885072 (.node (.node (.node (.node (.node .leaf 18373840922857469552 11140949556136776208 .leaf) 18373840925013373680 1881407435085976080 .leaf) 18373840925013374704 1881407435018867216 (.node .leaf 18373840925147594480 1304937886622421520 .leaf)) 18373840925148118768 1302686086808736272 (.node (.node .leaf 18373840940035241488 11139823656771006992 .leaf) 18373840940035241552 11139823656766812688 (.node .leaf 18373840940037321232 11139823657374986768 .leaf))) 18373840940037321264 11139823657374978576 (.node (.node (.node (.node .leaf 18373840940037337712 11139823656297042448 .leaf) 18373840940037338736 11139823656229933584 .leaf) 18373840942193242864 1880281535179133456 (.node .leaf 18373840942193243888 1880281535112024592 .leaf)) 18373840942327463664 1303811986715578896 (.node (.node .leaf 18374328695859229200 6655258775304548880 .leaf) 18374328695859229328 6655258225548734992 (.node .leaf 18374328695859360272 6655258775270994448 .leaf)))))) 18374328695859360400 6655258225515180560 (.node (.node (.node (.node (.node (.node (.node .leaf 18374328695994102288 6076546223153885712 .leaf) 18374328695994102416 6076545673398071824 .leaf) 18374328695994104336 6076537427060863504 (.node .leaf 18374328695994104464 6076536877305049616 .leaf)) 18374328833298182832 6655223041176637968 (.node (.node (.node .leaf 18374328833298313904 6655223041143083536 .leaf) 18374328833433022992 6076651776270152208 .leaf) 18374328833433023024 6076651776270144016 (.node .leaf 18374328833433055920 6076510489025974800 .leaf))) 18374328833433057968 6076501692932952592 (.node (.node (.node (.node .leaf 18374328841888084496 6655362129397559824 .leaf) 18374328841888084528 6655362129397551632 .leaf) 18374328841888117424 6655220842153382416 (.node .leaf 18374328841888215568 6655362129364005392 .leaf)) 18374328841888215600 6655362129363997200 (.node (.node .leaf 18374328841888248496 6655220842119827984 .leaf) 18374328842022957584 6076649577246896656 (.node .leaf 18374328842022957616 6076649577246888464 .leaf)))) 18374328842022990512 6076508290002719248 (.node (.node (.node (.node (.node .leaf 18374399474762281488 11285064744820814352 .leaf) 18374399474762281552 11285064744816620048 .leaf) 18374399474764378736 11285064744279740944 (.node .leaf 18374399474764493328 11285064745324130832 .leaf)) 18374399474764493360 11285064745324122640 (.node (.node .leaf 18374399474764509808 11285064744246186512 .leaf) 18374399476920283888 2025522623161831952 (.node .leaf 18374399476920414960 2025522623128277520 .leaf))) 18374399477055156976 1446810071011168784 (.node (.node (.node (.node .leaf 18374399477055159024 1446801274918146576 .leaf) 18374399483352216080 11285062545797558800 .leaf) 18374399483352216144 11285062545793364496 (.node .leaf 18374399483354313328 11285062545256485392 .leaf)) 18374399483354427920 11285062546300875280 (.node (.node .leaf 18374399483354427952 11285062546300867088 .leaf) 18374399483354444400 11285062545222930960 (.node .leaf 18374399485510218480 2025520424138576400 .leaf))))) 18374399485510349552 2025520424105021968 (.node (.node (.node (.node (.node (.node .leaf 18374399485645091568 1446807871987913232 .leaf) 18374403898578596368 10995706269739004432 .leaf) 18374403898578596432 10995706269734810128 (.node .leaf 18374403898578597392 10995706269671895568 .leaf)) 18374403898578597456 10995706269667701264 (.node (.node (.node .leaf 18374403898580677136 10995706270275875344 .leaf) 18374403898580677168 10995706270275867152 .leaf) 18374403898580693616 10995706269197931024 (.node .leaf 18374403898580694640 10995706269130822160 .leaf))) 18374403898580808208 10995706270242320912 (.node (.node (.node (.node .leaf 18374403898580808240 10995706270242312720 .leaf) 18374403898580824688 10995706269164376592 .leaf) 18374403900736598768 1736164148080022032 (.node .leaf 18374403900736599792 1736164148012913168 .leaf)) 18374403900736729840 1736164148046467600 (.node (.node .leaf 18436816140837892752 7375834166196449808 .leaf) 18436816140837894800 7375825370103427600 (.node .leaf 18436816140838417040 7373582366382764560 .leaf)))) 18436816140838419088 7373573570289742352 (.node (.node (.node (.node (.node .leaf 18436817240349487632 7375957861254574608 .leaf) 18436817240349487888 7375957861254570512 .leaf) 18436817240349522704 7375808327673192976 (.node .leaf 18436817240349522832 7375807777917379088 .leaf)) 18436817240350011920 7373706061440889360 (.node (.node .leaf 18436817240350012176 7373706061440885264 .leaf) 18436817240350046992 7373556527859507728 (.node .leaf 18436817240350047120 7373555978103693840 .leaf))) 18436892007140228880 2475891931953242640 (.node (.node (.node (.node .leaf 18436892007140229008 2475891382197428752 .leaf) 18436892007140753168 2473640132139557392 .leaf) 18436892007140753296 2473639582383743504 (.node .leaf 18436892279711232592 12293888653533655568 .leaf)) 18436892279711233616 12293888653466546704 (.node (.node .leaf 18436892279727993360 12293888654343156240 .leaf) 18436892279727993616 12293888654343152144 (.node .leaf 18436892279728011024 12293888653202301456 .leaf))))))) 18436892279728011088 12293888653198107152 (.node (.node (.node (.node (.node (.node (.node (.node .leaf 18436892282009747216 2493906330462724624 .leaf) 18436892282009747280 2493906330458530320 .leaf) 18436892282018136016 2457876983683752464 (.node .leaf 18436892282018660304 2455625183870067216 .leaf)) 18436892296891101776 12292762753626812944 (.node (.node (.node .leaf 18436892296891102800 12292762753559704080 .leaf) 18436892296907862544 12292762754436313616 .leaf) 18436892296907862800 12292762754436309520 (.node .leaf 18436892296907880208 12292762753295458832 .leaf))) 18436892296907880272 12292762753291264528 (.node (.node (.node (.node .leaf 18436892299189616400 2492780430555882000 .leaf) 18436892299189616464 2492780430551687696 .leaf) 18436892299198005200 2456751083776909840 (.node .leaf 18437097615806214672 7407359913343857168 .leaf)) 18437097615806216720 7407351117250834960 (.node (.node .leaf 18437097615806280208 7407359913342808592 .leaf) 18437097615806282256 7407351117249786384 (.node .leaf 18437097615815193104 7369079316510159376 .leaf)))) 18437097615815193232 7369078766754345488 (.node (.node (.node (.node (.node .leaf 18437097615815195152 7369070520417137168 .leaf) 18437097615815195280 7369069970661323280 .leaf) 18437098715317844752 7407333525064786448 (.node .leaf 18437098715317910288 7407333525063737872 .leaf)) 18437098715326788112 7369202461812470288 (.node (.node .leaf 18437098715326788368 7369202461812466192 .leaf) 18437098715326823184 7369052928231088656 (.node .leaf 18437098715326823312 7369052378475274768 .leaf))) 18437098719612776976 7407482989926691344 (.node (.node (.node (.node .leaf 18437098719612777232 7407482989926687248 .leaf) 18437098719612812048 7407333456345309712 .leaf) 18437098719612842512 7407482989925642768 (.node .leaf 18437098719612842768 7407482989925638672 .leaf)) 18437098719612877584 7407333456344261136 (.node (.node .leaf 18437098719621755408 7369202393092993552 .leaf) 18437098719621755664 7369202393092989456 (.node .leaf 18437098719621790480 7369052859511611920 .leaf))))) 18437173479810036240 12307399452419961360 (.node (.node (.node (.node (.node (.node .leaf 18437173479810037264 12307399452352852496 .leaf) 18437173479826814736 12307399452084412944 .leaf) 18437173479826862608 12307399453224219152 (.node .leaf 18437173479826862864 12307399453224215056 .leaf)) 18437173479826880272 12307399452083364368 (.node (.node (.node .leaf 18437173482108550928 2507417129344836112 .leaf) 18437173482108616464 2507417129343787536 .leaf) 18437173482117529360 2469136532511138320 (.node .leaf 18437173482117529488 2469135982755324432 .leaf))) 18437173484105003536 12307399383700484624 (.node (.node (.node (.node .leaf 18437173484105004560 12307399383633375760 .leaf) 18437173484121782032 12307399383364936208 .leaf) 18437173484121829904 12307399384504742416 (.node .leaf 18437173484121830160 12307399384504738320 .leaf)) 18437173484121847568 12307399383363887632 (.node (.node .leaf 18437173486403518224 2507417060625359376 .leaf) 18437173486403583760 2507417060624310800 (.node .leaf 18437173486412496656 2469136463791661584 .leaf)))) 18437173776162779664 12288259085284160016 (.node (.node (.node (.node (.node .leaf 18437173776162779728 12288259085279965712 .leaf) 18437173776162780688 12288259085217051152 .leaf) 18437173776162780752 12288259085212856848 (.node .leaf 18437173776179540496 12288259086089466384 .leaf)) 18437173776179540752 12288259086089462288 (.node (.node .leaf 18437173776179558160 12288259084948611600 .leaf) 18437173776179558224 12288259084944417296 (.node .leaf 18437173776179606032 12288259086088417808 .leaf))) 18437173776179606288 12288259086088413712 (.node (.node (.node (.node .leaf 18437173776179623696 12288259084947563024 .leaf) 18437173778461294352 2488276762209034768 .leaf) 18437173778461294416 2488276762204840464 (.node .leaf 18437173778461359888 2488276762207986192 .leaf)) 18446667765025583632 4919121118650184208 (.node (.node .leaf 18446667765025583760 4919120568894370320 .leaf) 18446667765025585680 4919112322557162000 (.node .leaf 18446667765025585808 4919111772801348112 .leaf)))))) 18446667900156916272 14757340058060329488 (.node (.node (.node (.node (.node (.node (.node .leaf 18446667900157047344 14757340058026775056 .leaf) 18446667900171596304 14757340058328773136 .leaf) 18446667900171661840 14757340058327724560 (.node .leaf 18446667900173890064 14757340057757299216 .leaf)) 18446667900173890096 14757340057757291024 (.node (.node (.node .leaf 18446667902464504336 4919226671766450704 .leaf) 18446667902464504368 4919226671766442512 .leaf) 18446667902464537264 4919085384522273296 (.node .leaf 18446667902464539312 4919076588429251088 .leaf))) 18446667908746850864 14757337859037073936 (.node (.node (.node (.node .leaf 18446667908746981936 14757337859003519504 .leaf) 18446667908761530896 14757337859305517584 .leaf) 18446667908761596432 14757337859304469008 (.node .leaf 18446667908763824656 14757337858734043664 .leaf)) 18446667908763824688 14757337858734035472 (.node (.node .leaf 18446667911054438928 4919224472743195152 .leaf) 18446667911054438960 4919224472743186960 (.node .leaf 18446667911054471856 4919083185499017744 .leaf)))) 18446668862229590544 14757357650246382096 (.node (.node (.node (.node (.node .leaf 18446668862229721616 14757357650212827664 .leaf) 18446668862244270864 14757357650514813456 .leaf) 18446668862244336400 14757357650513764880 (.node .leaf 18446668862246564368 14757357649943343632 .leaf)) 18446668862246564624 14757357649943339536 (.node (.node .leaf 18446668864537178640 4919244263952495120 .leaf) 18446668864537178896 4919244263952491024 (.node .leaf 18446668864537213712 4919094730371113488 .leaf))) 18446668864537213840 4919094180615299600 (.node (.node (.node (.node .leaf 18446668866524557840 14757357581526905360 .leaf) 18446668866524688912 14757357581493350928 .leaf) 18446668866539238160 14757357581795336720 (.node .leaf 18446668866539303696 14757357581794288144 .leaf)) 18446668866541531664 14757357581223866896 (.node (.node .leaf 18446668866541531920 14757357581223862800 .leaf) 18446668868832145936 4919244195233018384 (.node .leaf 18446668868832146192 4919244195233014288 .leaf))))) 18446668868832181008 4919094661651636752 (.node (.node (.node (.node (.node (.node .leaf 18446669012553445904 14757320198131560976 .leaf) 18446669012553445936 14757320198131552784 .leaf) 18446669012553576976 14757320198098006544 (.node .leaf 18446669012553577008 14757320198097998352 .leaf)) 18446669012568125968 14757320198399996432 (.node (.node .leaf 18446669012568126224 14757320198399992336 .leaf) 18446669012568191504 14757320198398947856 (.node .leaf 18446669012568191760 14757320198398943760 .leaf))) 18446669012570419728 14757320197828522512 (.node (.node (.node (.node .leaf 18446669012570419760 14757320197828514320 .leaf) 18446669012570419984 14757320197828518416 .leaf) 18446669014861034000 4919206811837674000 (.node .leaf 18446669014861034032 4919206811837665808 .leaf)) 18446669014861034256 4919206811837669904 (.node (.node .leaf 18446744071399830032 9838263504599265808 .leaf) 18446744071399830096 9838263504595071504 (.node .leaf 18446744071399831056 9838263504532156944 .leaf)))) 18446744071399831120 9838263504527962640 (.node (.node (.node (.node (.node .leaf 18446744071401910800 9838263505136136720 .leaf) 18446744071401910832 9838263505136128528 .leaf) 18446744071401927280 9838263504058192400 (.node .leaf 18446744071401928304 9838263503991083536 .leaf)) 18446744071402041872 9838263505102582288 (.node (.node .leaf 18446744071402041904 9838263505102574096 .leaf) 18446744071402058352 9838263504024637968 (.node .leaf 18446744071416590864 9838263505404572176 .leaf))) 18446744071416591120 9838263505404568080 (.node (.node (.node (.node .leaf 18446744071416608528 9838263504263717392 .leaf) 18446744071416608592 9838263504259523088 .leaf) 18446744071416656400 9838263505403523600 (.node .leaf 18446744071416656656 9838263505403519504 .leaf)) 18446744071416674064 9838263504262668816 (.node (.node .leaf 18446744071418884624 9838263504833098256 .leaf) 18446744071418884656 9838263504833090064 (.node .leaf 18446744071418884880 9838263504833094160 .leaf))))))))
noncomputable def tr3_0 : Tr := (.node (.node (.node (.node (.node (.node .leaf 18364758546640548368 9141386507638288912 .leaf) 18364758546640581136 9141245770149933584 (.node .leaf 18364758546648936976 9105357710619324944 .leaf)) 18364758546648969744 9105216973130969616 (.node (.node .leaf 18364758546648969872 9105216423375155728 .leaf) 18364758546774766096 8564925755334865424 (.node .leaf 18364758546774798864 8564785017846510096 .leaf))) 18364758546774800912 8564776221753487888 (.node (.node (.node .leaf 18364758546783154704 8528896958315901456 .leaf) 18364758546783187472 8528756220827546128 (.node .leaf 18364758546783187600 8528755671071732240 .leaf)) 18364758546783189520 8528747424734523920 (.node (.node .leaf 18364758546783189648 8528746874978710032 .leaf) 18364758546783678992 8526645158502216208 .leaf))) 18364758546783711760 8526504421013860880 (.node (.node (.node (.node .leaf 18364758546783711888 8526503871258046992 .leaf) 18364758546783713808 8526495624920838672 (.node .leaf 18364758546783713936 8526495075165024784 .leaf)) 18364828913237242384 13753072526065676816 (.node (.node .leaf 18364828913237258768 13753072524991934992 .leaf) 18364828915393163792 4493530953629839888 (.node .leaf 18364828915393163920 4493530403874026000 .leaf))) 18364828915518992912 3953098998345380368 (.node (.node (.node .leaf 18364828915518994960 3953090202252358160 .leaf) 18364828915527381520 3917070201326416400 (.node .leaf 18364828915527381648 3917069651570602512 .leaf)) 18364828915527383568 3917061405233394192 (.node (.node .leaf 18364828915527383696 3917060855477580304 .leaf) 18364828915527905808 3914818401512731152 .leaf)))) 18364828915527905936 3914817851756917264 (.node (.node (.node (.node (.node .leaf 18364828915527907856 3914809605419708944 .leaf) 18364828915527907984 3914809055663895056 (.node .leaf 18364829188115149328 13735058127556194832 .leaf)) 18364829188115165712 13735058126482453008 (.node (.node .leaf 18364829188115165776 13735058126478258704 .leaf) 18364829190262682128 4511545352139321872 (.node .leaf 18364829190262682192 4511545352135127568 .leaf))) 18364829190271070928 4475516005360349712 (.node (.node (.node .leaf 18364829190396899856 3935084599835898384 .leaf) 18364829190396899920 3935084599831704080 (.node .leaf 18364829190396901904 3935075803742876176 .leaf)) 18364829190396901968 3935075803738681872 (.node (.node .leaf 18364829190405288656 3899055253056926224 .leaf) 18364829190405290704 3899046456963904016 .leaf))) 18364829190405812944 3896803453243240976 (.node (.node (.node (.node .leaf 18364829190405814992 3896794657150218768 .leaf) 18364833311283753488 13464842149913965072 (.node .leaf 18364833311283769872 13464842148840223248 .leaf)) 18364833311283770896 13464842148773114384 (.node (.node .leaf 18364833313431286288 4241329374497092112 .leaf) 18364833313431287312 4241329374429983248 (.node .leaf 18364833313439674896 4205300577478128144 .leaf))) 18364833313439675024 4205300027722314256 (.node (.node (.node .leaf 18364833313439675920 4205300577411019280 .leaf) 18364833313439676048 4205300027655205392 (.node .leaf 18364833313565507088 3664859826033537552 .leaf)) 18364833313573895696 3628831029014573584 (.node (.node .leaf 18364833313573895824 3628830479258759696 .leaf) 18364833313574419984 3626579229200888336 .leaf)))))
noncomputable def tr3_1 : Tr := (.node (.node (.node (.node (.node (.node .leaf 18364833586161660432 13446827751404483088 .leaf) 18364833586161676816 13446827750330741264 (.node .leaf 18364833586161676880 13446827750326546960 .leaf)) 18364833586161677840 13446827750263632400 (.node (.node .leaf 18364833586161677904 13446827750259438096 .leaf) 18364833588309193232 4223314975987610128 (.node .leaf 18364833588309193296 4223314975983415824 .leaf))) 18364833588309194256 4223314975920501264 (.node (.node (.node .leaf 18364833588309194320 4223314975916306960 .leaf) 18364833588317582032 4187285629208637968 (.node .leaf 18364833588317583056 4187285629141529104 .leaf)) 18364833588443414032 3646845427524055568 (.node (.node .leaf 18364833588443414096 3646845427519861264 .leaf) 18364833588451802832 3610816080745083408 .leaf))) 18364833588452327120 3608564280931398160 (.node (.node (.node (.node .leaf 18364833603341529616 13445701851497640464 .leaf) 18364833603341546000 13445701850423898640 (.node .leaf 18364833603341546064 13445701850419704336 .leaf)) 18364833603341547024 13445701850356789776 (.node (.node .leaf 18364833603341547088 13445701850352595472 .leaf) 18364833605489062416 4222189076080767504 (.node .leaf 18364833605489062480 4222189076076573200 .leaf))) 18364833605489063440 4222189076013658640 (.node (.node (.node .leaf 18364833605489063504 4222189076009464336 .leaf) 18364833605497451216 4186159729301795344 (.node .leaf 18364833605497452240 4186159729234686480 .leaf)) 18364833605623283216 3645719527617212944 (.node (.node .leaf 18364833605623283280 3645719527613018640 .leaf) 18364833605631672016 3609690180838240784 .leaf)))) 18373765743747805712 16058915535279370768 (.node (.node (.node (.node (.node .leaf 18373765743749902864 16058915534742499856 .leaf) 18373765745905807888 6799373963380404752 (.node .leaf 18373765745905808016 6799373413624590864 .leaf)) 18373765746039992848 6223053948565336592 (.node (.node .leaf 18373765746040025616 6222913211076981264 .leaf) 18373765746040025744 6222912661321167376 (.node .leaf 18373765746040027664 6222904414983959056 .leaf))) 18373765746040027792 6222903865228145168 (.node (.node (.node .leaf 18373765746040517136 6220802148751651344 .leaf) 18373765746040549904 6220661411263296016 (.node .leaf 18373765746040550032 6220660861507482128 .leaf)) 18373765746040551952 6220652615170273808 (.node (.node .leaf 18373765746040552080 6220652065414459920 .leaf) 18373765881186759184 16058880350907281936 .leaf))) 18373765881188856336 16058880350370411024 (.node (.node (.node (.node .leaf 18373765881188856368 16058880350370402832 .leaf) 18373765883344728592 6799479516496671248 (.node .leaf 18373765883344728624 6799479516496663056 .leaf)) 18373765883344761520 6799338229252493840 (.node (.node .leaf 18373765883478946320 6223018764193247760 .leaf) 18373765883478946352 6223018764193239568 (.node .leaf 18373765883478979248 6222877476949070352 .leaf))) 18373765883478981296 6222868680856048144 (.node (.node (.node .leaf 18373765883479470608 6220766964379562512 .leaf) 18373765883479470640 6220766964379554320 (.node .leaf 18373765883479503536 6220625677135385104 .leaf)) 18373765883479505584 6220616881042362896 (.node (.node .leaf 18373836524808860176 11429179932896670224 .leaf) 18373836524808860240 11429179932892475920 .leaf)))))
noncomputable def tr3_2 : Tr := (.node (.node (.node (.node (.node (.node .leaf 18373836524810940976 11429179933433532944 .leaf) 18373836524810957424 11429179932355596816 (.node .leaf 18373836526966862576 2169637811237687824 .leaf)) 18373836527101080304 1593177058934264336 (.node (.node .leaf 18373836527101082352 1593168262841242128 .leaf) 18373836527101604592 1590925259120579088 (.node .leaf 18373836527101606640 1590916463027556880 .leaf))) 18373840922855354896 11140949557818700304 (.node (.node (.node .leaf 18373840922855371280 11140949556744958480 .leaf) 18373840922855371344 11140949556740764176 (.node .leaf 18373840922855372304 11140949556677849616 .leaf)) 18373840922855372368 11140949556673655312 (.node (.node .leaf 18373840922857452048 11140949557281829392 .leaf) 18373840922857452080 11140949557281821200 .leaf))) 18373840922857468528 11140949556203885072 (.node (.node (.node (.node .leaf 18373840922857469552 11140949556136776208 .leaf) 18373840925013373680 1881407435085976080 (.node .leaf 18373840925013374704 1881407435018867216 .leaf)) 18373840925147594480 1304937886622421520 (.node (.node .leaf 18373840925148118768 1302686086808736272 .leaf) 18373840940035224080 11139823657911857680 (.node .leaf 18373840940035240464 11139823656838115856 .leaf))) 18373840940035240528 11139823656833921552 (.node (.node (.node .leaf 18373840940035241488 11139823656771006992 .leaf) 18373840940035241552 11139823656766812688 (.node .leaf 18373840940037321232 11139823657374986768 .leaf)) 18373840940037321264 11139823657374978576 (.node (.node .leaf 18373840940037337712 11139823656297042448 .leaf) 18373840940037338736 11139823656229933584 .leaf)))) 18373840942193242864 1880281535179133456 (.node (.node (.node (.node (.node .leaf 18373840942193243888 1880281535112024592 .leaf) 18373840942327463664 1303811986715578896 (.node .leaf 18374328693701227024 15914800347203514896 .leaf)) 18374328693703324176 15914800346666643984 (.node (.node .leaf 18374328693703455248 15914800346633089552 .leaf) 18374328695859196432 6655399512792904208 (.node .leaf 18374328695859229200 6655258775304548880 .leaf))) 18374328695859229328 6655258225548734992 (.node (.node (.node .leaf 18374328695859327504 6655399512759349776 .leaf) 18374328695859360272 6655258775270994448 (.node .leaf 18374328695859360400 6655258225515180560 .leaf)) 18374328695994069520 6076686960642241040 (.node (.node .leaf 18374328695994102288 6076546223153885712 .leaf) 18374328695994102416 6076545673398071824 .leaf))) 18374328695994104336 6076537427060863504 (.node (.node (.node (.node .leaf 18374328695994104464 6076536877305049616 .leaf) 18374328831140180496 15914765162831426064 (.node .leaf 18374328831142277648 15914765162294555152 .leaf)) 18374328831142277680 15914765162294546960 (.node (.node .leaf 18374328831142408720 15914765162261000720 .leaf) 18374328831142408752 15914765162260992528 (.node .leaf 18374328833298149904 6655364328420815376 .leaf))) 18374328833298149936 6655364328420807184 (.node (.node (.node .leaf 18374328833298182832 6655223041176637968 .leaf) 18374328833298280976 6655364328387260944 (.node .leaf 18374328833298281008 6655364328387252752 .leaf)) 18374328833298313904 6655223041143083536 (.node (.node .leaf 18374328833433022992 6076651776270152208 .leaf) 18374328833433023024 6076651776270144016 .leaf)))))
noncomputable def tr3_3 : Tr := (.node (.node (.node (.node (.node (.node .leaf 18374328833433057968 6076501692932952592 .leaf) 18374328839730115088 15914762963808170512 (.node .leaf 18374328839732212240 15914762963271299600 .leaf)) 18374328839732212272 15914762963271291408 (.node (.node .leaf 18374328839732343312 15914762963237745168 .leaf) 18374328839732343344 15914762963237736976 (.node .leaf 18374328841888084496 6655362129397559824 .leaf))) 18374328841888084528 6655362129397551632 (.node (.node (.node .leaf 18374328841888117424 6655220842153382416 .leaf) 18374328841888215568 6655362129364005392 (.node .leaf 18374328841888215600 6655362129363997200 .leaf)) 18374328841888248496 6655220842119827984 (.node (.node .leaf 18374328842022957584 6076649577246896656 .leaf) 18374328842022957616 6076649577246888464 .leaf))) 18374328842022990512 6076508290002719248 (.node (.node (.node (.node .leaf 18374399474762265104 11285064745894556176 .leaf) 18374399474762281488 11285064744820814352 (.node .leaf 18374399474762281552 11285064744816620048 .leaf)) 18374399474764362256 11285064745357685264 (.node (.node .leaf 18374399474764362288 11285064745357677072 .leaf) 18374399474764378736 11285064744279740944 (.node .leaf 18374399474764493328 11285064745324130832 .leaf))) 18374399474764493360 11285064745324122640 (.node (.node (.node .leaf 18374399474764509808 11285064744246186512 .leaf) 18374399476920283888 2025522623161831952 (.node .leaf 18374399476920414960 2025522623128277520 .leaf)) 18374399477055156976 1446810071011168784 (.node (.node .leaf 18374399477055159024 1446801274918146576 .leaf) 18374399483352199696 11285062546871300624 .leaf)))) 18374399483352216080 11285062545797558800 (.node (.node (.node (.node (.node .leaf 18374399483352216144 11285062545793364496 .leaf) 18374399483354296848 11285062546334429712 (.node .leaf 18374399483354296880 11285062546334421520 .leaf)) 18374399483354313328 11285062545256485392 (.node (.node .leaf 18374399483354427920 11285062546300875280 .leaf) 18374399483354427952 11285062546300867088 (.node .leaf 18374399483354444400 11285062545222930960 .leaf))) 18374399485510218480 2025520424138576400 (.node (.node (.node .leaf 18374399485510349552 2025520424105021968 .leaf) 18374399485645091568 1446807871987913232 (.node .leaf 18374403898578579984 10995706270812746256 .leaf)) 18374403898578596368 10995706269739004432 (.node (.node .leaf 18374403898578596432 10995706269734810128 .leaf) 18374403898578597392 10995706269671895568 .leaf))) 18374403898578597456 10995706269667701264 (.node (.node (.node (.node .leaf 18374403898580677136 10995706270275875344 .leaf) 18374403898580677168 10995706270275867152 (.node .leaf 18374403898580693616 10995706269197931024 .leaf)) 18374403898580694640 10995706269130822160 (.node (.node .leaf 18374403898580808208 10995706270242320912 .leaf) 18374403898580808240 10995706270242312720 (.node .leaf 18374403898580824688 10995706269164376592 .leaf))) 18374403900736598768 1736164148080022032 (.node (.node (.node .leaf 18374403900736599792 1736164148012913168 .leaf) 18374403900736729840 1736164148046467600 (.node .leaf 18436816138530992656 17211837039886217744 .leaf)) 18436816138547769872 17211837039617782288 (.node (.node .leaf 18436816140829504016 7411863512971227664 .leaf) 18436816140829506064 7411854716878205456 .leaf)))))
noncomputable def tr3_4 : Tr := (.node (.node (.node (.node (.node (.node .leaf 18436816140837892624 7375834715952263696 .leaf) 18436816140837892752 7375834166196449808 (.node .leaf 18436816140837894672 7375825919859241488 .leaf)) 18436816140837894800 7375825370103427600 (.node (.node .leaf 18436816140838384144 7373723653626933776 .leaf) 18436816140838416912 7373582916138578448 (.node .leaf 18436816140838417040 7373582366382764560 .leaf))) 18436816140838418960 7373574120045556240 (.node (.node (.node .leaf 18436816140838419088 7373573570289742352 .leaf) 18436817238042620432 17211819447700173328 (.node .leaf 18436817238059397648 17211819447431737872 .leaf)) 18436817238059397904 17211819447431733776 (.node (.node .leaf 18436817240341099024 7411986658273538576 .leaf) 18436817240341099280 7411986658273534480 .leaf))) 18436817240341134096 7411837124692156944 (.node (.node (.node (.node .leaf 18436817240349487632 7375957861254574608 .leaf) 18436817240349487888 7375957861254570512 (.node .leaf 18436817240349522704 7375808327673192976 .leaf)) 18436817240349522832 7375807777917379088 (.node (.node .leaf 18436817240350011920 7373706061440889360 .leaf) 18436817240350012176 7373706061440885264 (.node .leaf 18436817240350046992 7373556527859507728 .leaf))) 18436817240350047120 7373555978103693840 (.node (.node (.node .leaf 18436892004833325584 12311903052047331856 .leaf) 18436892004833326608 12311903051980222992 (.node .leaf 18436892004850086416 12311903052852638224 .leaf)) 18436892004850086672 12311903052852634128 (.node (.node .leaf 18436892004850104080 12311903051711783440 .leaf) 18436892007131840272 2511920728972206608 .leaf)))) 18436892007140228880 2475891931953242640 (.node (.node (.node (.node (.node .leaf 18436892007140229008 2475891382197428752 .leaf) 18436892007140753168 2473640132139557392 (.node .leaf 18436892007140753296 2473639582383743504 .leaf)) 18436892279711216144 12293888654611591696 (.node (.node .leaf 18436892279711232528 12293888653537849872 .leaf) 18436892279711232592 12293888653533655568 (.node .leaf 18436892279711233552 12293888653470741008 .leaf))) 18436892279711233616 12293888653466546704 (.node (.node (.node .leaf 18436892279727993360 12293888654343156240 .leaf) 18436892279727993616 12293888654343152144 (.node .leaf 18436892279728011024 12293888653202301456 .leaf)) 18436892279728011088 12293888653198107152 (.node (.node .leaf 18436892282009747216 2493906330462724624 .leaf) 18436892282009747280 2493906330458530320 .leaf))) 18436892282018136016 2457876983683752464 (.node (.node (.node (.node .leaf 18436892282018660304 2455625183870067216 .leaf) 18436892296891085328 12292762754704749072 (.node .leaf 18436892296891101712 12292762753631007248 .leaf)) 18436892296891101776 12292762753626812944 (.node (.node .leaf 18436892296891102736 12292762753563898384 .leaf) 18436892296891102800 12292762753559704080 (.node .leaf 18436892296907862544 12292762754436313616 .leaf))) 18436892296907862800 12292762754436309520 (.node (.node (.node .leaf 18436892296907880208 12292762753295458832 .leaf) 18436892296907880272 12292762753291264528 (.node .leaf 18436892299189616400 2492780430555882000 .leaf)) 18436892299189616464 2492780430551687696 (.node (.node .leaf 18436892299198005200 2456751083776909840 .leaf) 18437097613507703312 17207333440258847248 .leaf)))))
noncomputable def tr3_5 : Tr := (.node (.node (.node (.node (.node (.node .leaf 18437097613524546064 17207333439989363216 .leaf) 18437097615806181904 7407500650832212496 (.node .leaf 18437097615806214672 7407359913343857168 .leaf)) 18437097615806216720 7407351117250834960 (.node (.node .leaf 18437097615806247440 7407500650831163920 .leaf) 18437097615806280208 7407359913342808592 (.node .leaf 18437097615806282256 7407351117249786384 .leaf))) 18437097615815160336 7369220053998514704 (.node (.node (.node .leaf 18437097615815193104 7369079316510159376 .leaf) 18437097615815193232 7369078766754345488 (.node .leaf 18437097615815195152 7369070520417137168 .leaf)) 18437097615815195280 7369069970661323280 (.node (.node .leaf 18437098713019331088 17207315848072802832 .leaf) 18437098713036108304 17207315847804367376 .leaf))) 18437098713036108560 17207315847804363280 (.node (.node (.node (.node .leaf 18437098713036173840 17207315847803318800 .leaf) 18437098713036174096 17207315847803314704 (.node .leaf 18437098715317809680 7407483058646168080 .leaf)) 18437098715317809936 7407483058646163984 (.node (.node .leaf 18437098715317844752 7407333525064786448 .leaf) 18437098715317875216 7407483058645119504 (.node .leaf 18437098715317875472 7407483058645115408 .leaf))) 18437098715317910288 7407333525063737872 (.node (.node (.node .leaf 18437098715326788112 7369202461812470288 .leaf) 18437098715326788368 7369202461812466192 (.node .leaf 18437098715326823184 7369052928231088656 .leaf)) 18437098715326823312 7369052378475274768 (.node (.node .leaf 18437098717314298384 17207315779353326096 .leaf) 18437098717331075600 17207315779084890640 .leaf)))) 18437098717331075856 17207315779084886544 (.node (.node (.node (.node (.node .leaf 18437098717331141136 17207315779083842064 .leaf) 18437098717331141392 17207315779083837968 (.node .leaf 18437098719612776976 7407482989926691344 .leaf)) 18437098719612777232 7407482989926687248 (.node (.node .leaf 18437098719612812048 7407333456345309712 .leaf) 18437098719612842512 7407482989925642768 (.node .leaf 18437098719612842768 7407482989925638672 .leaf))) 18437098719612877584 7407333456344261136 (.node (.node (.node .leaf 18437098719621755408 7369202393092993552 .leaf) 18437098719621755664 7369202393092989456 (.node .leaf 18437098719621790480 7369052859511611920 .leaf)) 18437173479810019856 12307399453493703184 (.node (.node .leaf 18437173479810036240 12307399452419961360 .leaf) 18437173479810037264 12307399452352852496 .leaf))) 18437173479826797072 12307399453225267728 (.node (.node (.node (.node .leaf 18437173479826797328 12307399453225263632 .leaf) 18437173479826814736 12307399452084412944 (.node .leaf 18437173479826862608 12307399453224219152 .leaf)) 18437173479826862864 12307399453224215056 (.node (.node .leaf 18437173479826880272 12307399452083364368 .leaf) 18437173482108550928 2507417129344836112 (.node .leaf 18437173482108616464 2507417129343787536 .leaf))) 18437173482117529360 2469136532511138320 (.node (.node (.node .leaf 18437173482117529488 2469135982755324432 .leaf) 18437173484104987152 12307399384774226448 (.node .leaf 18437173484105003536 12307399383700484624 .leaf)) 18437173484105004560 12307399383633375760 (.node (.node .leaf 18437173484121764368 12307399384505790992 .leaf) 18437173484121764624 12307399384505786896 .leaf)))))
noncomputable def tr3_6 : Tr := (.node (.node (.node (.node (.node (.node .leaf 18437173484121829904 12307399384504742416 .leaf) 18437173484121830160 12307399384504738320 (.node .leaf 18437173484121847568 12307399383363887632 .leaf)) 18437173486403518224 2507417060625359376 (.node (.node .leaf 18437173486403583760 2507417060624310800 .leaf) 18437173486412496656 2469136463791661584 (.node .leaf 18437173776162763280 12288259086357901840 .leaf))) 18437173776162779664 12288259085284160016 (.node (.node (.node .leaf 18437173776162779728 12288259085279965712 .leaf) 18437173776162780688 12288259085217051152 (.node .leaf 18437173776162780752 12288259085212856848 .leaf)) 18437173776179540496 12288259086089466384 (.node (.node .leaf 18437173776179540752 12288259086089462288 .leaf) 18437173776179558160 12288259084948611600 .leaf))) 18437173776179558224 12288259084944417296 (.node (.node (.node (.node .leaf 18437173776179606032 12288259086088417808 .leaf) 18437173776179606288 12288259086088413712 (.node .leaf 18437173776179623696 12288259084947563024 .leaf)) 18437173778461294352 2488276762209034768 (.node (.node .leaf 18437173778461294416 2488276762204840464 .leaf) 18437173778461359888 2488276762207986192 (.node .leaf 18446667762717962768 14757375242432426512 .leaf))) 18446667762718093840 14757375242398872080 (.node (.node (.node .leaf 18446667762732642832 14757375242700861968 .leaf) 18446667762732708368 14757375242699813392 (.node .leaf 18446667762734936592 14757375242129388048 .leaf)) 18446667765025550864 4919261856138539536 (.node (.node .leaf 18446667765025583632 4919121118650184208 .leaf) 18446667765025583760 4919120568894370320 .leaf)))) 18446667765025585680 4919112322557162000 (.node (.node (.node (.node (.node .leaf 18446667765025585808 4919111772801348112 .leaf) 18446667900154819088 14757340058597208592 (.node .leaf 18446667900156916240 14757340058060337680 .leaf)) 18446667900156916272 14757340058060329488 (.node (.node .leaf 18446667900157047312 14757340058026783248 .leaf) 18446667900157047344 14757340058026775056 (.node .leaf 18446667900171596304 14757340058328773136 .leaf))) 18446667900171661840 14757340058327724560 (.node (.node (.node .leaf 18446667900173890064 14757340057757299216 .leaf) 18446667900173890096 14757340057757291024 (.node .leaf 18446667902464504336 4919226671766450704 .leaf)) 18446667902464504368 4919226671766442512 (.node (.node .leaf 18446667902464537264 4919085384522273296 .leaf) 18446667902464539312 4919076588429251088 .leaf))) 18446667908744753680 14757337859573953040 (.node (.node (.node (.node .leaf 18446667908746850832 14757337859037082128 .leaf) 18446667908746850864 14757337859037073936 (.node .leaf 18446667908746981904 14757337859003527696 .leaf)) 18446667908746981936 14757337859003519504 (.node (.node .leaf 18446667908761530896 14757337859305517584 .leaf) 18446667908761596432 14757337859304469008 (.node .leaf 18446667908763824656 14757337858734043664 .leaf))) 18446667908763824688 14757337858734035472 (.node (.node (.node .leaf 18446667911054438928 4919224472743195152 .leaf) 18446667911054438960 4919224472743186960 (.node .leaf 18446667911054471856 4919083185499017744 .leaf)) 18446668862227493392 14757357650783253008 (.node (.node .leaf 18446668862229590544 14757357650246382096 .leaf) 18446668862229721616 14757357650212827664 .leaf)))))
noncomputable def tr3_7 : Tr := (.node (.node (.node (.node (.node (.node .leaf 18446668862244270864 14757357650514813456 .leaf) 18446668862244336144 14757357650513768976 (.node .leaf 18446668862244336400 14757357650513764880 .leaf)) 18446668862246564368 14757357649943343632 (.node (.node .leaf 18446668862246564624 14757357649943339536 .leaf) 18446668864537178640 4919244263952495120 (.node .leaf 18446668864537178896 4919244263952491024 .leaf))) 18446668864537213712 4919094730371113488 (.node (.node (.node .leaf 18446668864537213840 4919094180615299600 .leaf) 18446668866522460688 14757357582063776272 (.node .leaf 18446668866524557840 14757357581526905360 .leaf)) 18446668866524688912 14757357581493350928 (.node (.node .leaf 18446668866539237904 14757357581795340816 .leaf) 18446668866539238160 14757357581795336720 .leaf))) 18446668866539303440 14757357581794292240 (.node (.node (.node (.node .leaf 18446668866539303696 14757357581794288144 .leaf) 18446668866541531664 14757357581223866896 (.node .leaf 18446668866541531920 14757357581223862800 .leaf)) 18446668868832145936 4919244195233018384 (.node (.node .leaf 18446668868832146192 4919244195233014288 .leaf) 18446668868832181008 4919094661651636752 (.node .leaf 18446669012551348752 14757320198668431888 .leaf))) 18446669012553445904 14757320198131560976 (.node (.node (.node .leaf 18446669012553445936 14757320198131552784 .leaf) 18446669012553576976 14757320198098006544 (.node .leaf 18446669012553577008 14757320198097998352 .leaf)) 18446669012568125968 14757320198399996432 (.node (.node .leaf 18446669012568126224 14757320198399992336 .leaf) 18446669012568191504 14757320198398947856 .leaf)))) 18446669012568191760 14757320198398943760 (.node (.node (.node (.node (.node .leaf 18446669012570419728 14757320197828522512 .leaf) 18446669012570419760 14757320197828514320 (.node .leaf 18446669012570419984 14757320197828518416 .leaf)) 18446669014861034000 4919206811837674000 (.node (.node .leaf 18446669014861034032 4919206811837665808 .leaf) 18446669014861034256 4919206811837669904 (.node .leaf 18446744071399813648 9838263505673007632 .leaf))) 18446744071399830032 9838263504599265808 (.node (.node (.node .leaf 18446744071399830096 9838263504595071504 .leaf) 18446744071399831056 9838263504532156944 (.node .leaf 18446744071399831120 9838263504527962640 .leaf)) 18446744071401910800 9838263505136136720 (.node (.node .leaf 18446744071401910832 9838263505136128528 .leaf) 18446744071401927280 9838263504058192400 .leaf))) 18446744071401928304 9838263503991083536 (.node (.node (.node (.node .leaf 18446744071402041872 9838263505102582288 .leaf) 18446744071402041904 9838263505102574096 (.node .leaf 18446744071402058352 9838263504024637968 .leaf)) 18446744071416590864 9838263505404572176 (.node (.node .leaf 18446744071416591120 9838263505404568080 .leaf) 18446744071416608528 9838263504263717392 .leaf)) 18446744071416608592 9838263504259523088 (.node (.node (.node .leaf 18446744071416656400 9838263505403523600 .leaf) 18446744071416656656 9838263505403519504 (.node .leaf 18446744071416674064 9838263504262668816 .leaf)) 18446744071418884624 9838263504833098256 (.node (.node .leaf 18446744071418884656 9838263504833090064 .leaf) 18446744071418884880 9838263504833094160 .leaf)))))
noncomputable def tr3 : Tr := (.node (.node (.node tr3_0 18364833313574420112 3626578679445074448 tr3_1) 18373836524810940944 11429179933433541136 (.node tr3_2 18374328833433055920 6076510489025974800 tr3_3)) 18436816140837859856 7375975453440619024 (.node (.node tr3_4 18437097613524480528 17207333439990411792 tr3_5) 18437173484121782032 12307399383364936208 (.node tr3_6 18446668862244270608 14757357650514817552 tr3_7)))
theorem tr2_ok : (tab.all fun a => tab.all fun b => tr2.look (a.2.1 &&& b.2.1) (a.2.2 ||| b.2.2)) = true := by decide +kernel
theorem tr3_ok : (tr2.all fun v t => tab.all fun b => tr3.look (v &&& b.2.1) (t ||| b.2.2)) = true := by decide +kernel
noncomputable def bitIf (c : Bool) (b : Nat) : Nat := cond c b 0
noncomputable def topsN (V m : Nat) : Nat := bitIf (Nat.beq (m &&& 1) 1 && Nat.beq (nib V (m ^^^ 1) &&& 1) 0) 1 + bitIf (Nat.beq (m &&& 2) 2 && Nat.beq (nib V (m ^^^ 2) &&& 2) 0) 2 + bitIf (Nat.beq (m &&& 4) 4 && Nat.beq (nib V (m ^^^ 4) &&& 4) 0) 4 + bitIf (Nat.beq (m &&& 8) 8 && Nat.beq (nib V (m ^^^ 8) &&& 8) 0) 8
noncomputable def nextN (V c p : Nat) : Bool := Nat.blt c (c ^^^ p) && Nat.beq (nib V (c ^^^ p)) (c ^^^ p)
noncomputable def okA (V T : Nat) : Bool := allLt 16 fun i => Nat.beq (nib V (nib T i)) (nib V i) && (Nat.beq (nib T (nib V i)) (nib T i) && (Nat.beq (nib T i) (topsN V i) && (Nat.beq (nib V i) 15 || (nextN V (nib V i) 1 || (nextN V (nib V i) 2 || (nextN V (nib V i) 4 || nextN V (nib V i) 8))))))
noncomputable def okB (T : Nat) : Bool := allLt 16 fun i => allLt i fun j => Nat.beq (nib T (i ||| j)) (nib T (nib T i ||| nib T j))
noncomputable def okC (V T : Nat) : Bool := allLt 16 fun i => allLt 16 fun m => (Nat.beq (nib V m) (nib V i)) == (Nat.beq (m &&& nib T i) (nib T i) && Nat.beq (m ||| nib V i) (nib V i))
noncomputable def okV (V T : Nat) : Bool := okA V T && (okB T && okC V T)
theorem tr3_0_ok : tr3_0.all okV = true := by decide +kernel
theorem tr3_1_ok : tr3_1.all okV = true := by decide +kernel
theorem tr3_2_ok : tr3_2.all okV = true := by decide +kernel
theorem tr3_3_ok : tr3_3.all okV = true := by decide +kernel
theorem tr3_4_ok : tr3_4.all okV = true := by decide +kernel
theorem tr3_5_ok : tr3_5.all okV = true := by decide +kernel
theorem tr3_6_ok : tr3_6.all okV = true := by decide +kernel
theorem tr3_7_ok : tr3_7.all okV = true := by decide +kernel
theorem top3_0_ok : okV 18364833313574420112 3626578679445074448 = true := by decide +kernel
theorem top3_1_ok : okV 18373836524810940944 11429179933433541136 = true := by decide +kernel
theorem top3_2_ok : okV 18374328833433055920 6076510489025974800 = true := by decide +kernel
theorem top3_3_ok : okV 18436816140837859856 7375975453440619024 = true := by decide +kernel
theorem top3_4_ok : okV 18437097613524480528 17207333439990411792 = true := by decide +kernel
theorem top3_5_ok : okV 18437173484121782032 12307399383364936208 = true := by decide +kernel
theorem top3_6_ok : okV 18446668862244270608 14757357650514817552 = true := by decide +kernel
theorem all_node {p : Nat → Nat → Bool} {l r : Tr} {V T : Nat} (h1 : l.all p = true) (h2 : p V T = true) (h3 : r.all p = true) : (Tr.node l V T r).all p = true := by simp only [Tr.all, h1, h2, h3, Bool.and_self]
theorem tr3_all : tr3.all okV = true := (all_node (all_node (all_node tr3_0_ok top3_0_ok tr3_1_ok) top3_1_ok (all_node tr3_2_ok top3_2_ok tr3_3_ok)) top3_3_ok (all_node (all_node tr3_4_ok top3_4_ok tr3_5_ok) top3_5_ok (all_node tr3_6_ok top3_6_ok tr3_7_ok)))
theorem okV_of {a b c : List Int × Nat × Nat} (ha : a ∈ tab) (hb : b ∈ tab) (hc : c ∈ tab) : okV (a.2.1 &&& b.2.1 &&& c.2.1) (a.2.2 ||| b.2.2 ||| c.2.2) = true :=
  Tr.all_look (List.all_eq_true.mp (Tr.all_look (p := fun v t => tab.all fun b => tr3.look (v &&& b.2.1) (t ||| b.2.2)) (List.all_eq_true.mp (List.all_eq_true.mp tr2_ok a ha) b hb) tr3_ok) c hc) tr3_all
end
local macro_rules | `(tactic| k_room) => `(tactic| ktr_room)
local macro_rules | `(tactic| k_units) => `(tactic| ktr_units)
local macro_rules | `(tactic| walk_at "exec For Tuple Attribute") => `(tactic| (k_here; (rename Fr _ _ _ _ => lF'); (with_unfolding_all refine' For_turns lF' ?_; k_whole)))
local macro_rules | `(tactic| walk_at "exec For Tuple Attribute Name") => `(tactic| (k_here; (rename Fr _ _ _ _ => lF'); (with_unfolding_all refine' For_turns lF' ?_; k_whole)))
local macro_rules | `(tactic| walk_at "same") => `(tactic| (intro z h2 h3; (simp only [List.forall_mem_cons, List.not_mem_nil, false_implies, implies_true, and_true, ne_eq] at h2); (try simp only [List.contains_cons, List.contains_nil, Bool.or_false, Bool.or_eq_false_iff, beq_eq_false_iff_ne, ne_eq] at h3); simp [kstB, h2, h3]))
local macro_rules | `(tactic| walk_at "eval Name") => `(tactic| (k_here; k_dflt (first
  | (refine' nameX_L ?F ?v ?_ ?a ?b; (case b => rfl); (case F => k_asm); (case a => rfl); (case v => rfl); k_whole)
  | (refine' nameX_K ?F ?X ?T ?e ?_ ?a ?b; (case b => rfl); (case F => k_asm); (case X => k_asm); (case T => k_asm); (case a => rfl); (case e => k_is); k_whole)
  | (refine' nameX_C ?N ?c ?m ?d ?_ ?a ?b; (case b => rfl); (case a => rfl); (case N => k_asm); (case c => rfl); (case m => k_mem); (case d => k_asm); k_whole)
  | (refine' nameX_F ?N ?c ?m ?d ?_ ?a ?b; (case b => rfl); (case a => rfl); (case N => k_asm); (case c => rfl); (case m => k_mem); (case d => k_asm); k_whole))))
local macro_rules | `(tactic| walk_at "callWith ref") => `(tactic| (k_here; k_dflt (first
  | (refine' callWith_K ?k1 ?k2 ?_; (case k1 => k_asm); (case k2 => k_is); k_whole)
  | (refine' callWith_KW ?k1 ?k2 ?k3 ?_; (case k1 => k_asm); (case k2 => k_is); (case k3 => exact rfl); k_whole))))
local macro_rules | `(tactic| k_lt $h:ident) => `(tactic| (replace $h := allLtN_of $h; dsimp only [AllLtN] at $h:ident))
local macro_rules | `(tactic| walk_at "conj") => do
  let mut t ← `(tactic| assumption)
  for _ in [0:15] do t ← `(tactic| first | assumption | exact And.right (by $t:tactic))
  `(tactic| with_reducible first | assumption | exact And.left (by $t:tactic) | exact And.right (by $t:tactic))
local macro_rules | `(tactic| k_ne) => `(tactic| (refine neN ?_; (try dsimp only); first | walk_at "conj" | (refine Ne.symm ?_; walk_at "conj") | (refine Nat.ne_of_lt ?_; walk_at "conj") | (refine Nat.ne_of_gt ?_; walk_at "conj") | omega))
local macro_rules | `(tactic| ktr_room) => `(tactic| with_reducible exact room_le (by assumption) (by with_unfolding_all decide))
local macro_rules | `(tactic| ktr_units) => `(tactic| with_reducible exact room_le (by assumption) (by with_unfolding_all decide))
section
theorem and_spec {w : World} {z : Env0} (x y : Int) (t u : Tok) : Spec w z 1 3 (.ref 104) [.int x t, .int y u] [] [] [] (fun mu' new v => mu' = [] ∧ new = [] ∧ ∃ t, v = .int (Builtin.bitAnd x y) t) := by
  (k_dflt (refine' spec_def [(Str.ofString "b", .int y u), (Str.ofString "a", .int x t)] ?ho ?hcd ?hb ?hl ?h ?c2 ?c3 ?c4 ?c5; (case ho => k_is); (case hcd => k_is); (case hb => intro s' X'; first | exact BindsTo.of_eq rfl | exact binds_K X' rfl (by k_is) rfl rfl rfl); (case c5 => decide); (case hl => exact locs rfl); (case c2 => exact rfl); (case c3 => exact rfl); (case c4 => exact rfl)); (intro dp un gd outer A₀ base g L h₁ s tk B F X N T C hdp hun; obtain ⟨cL, cY, cS⟩ := C))
  k_steps
  exact Fin.intro (by k_asm) (by k_asm) [] [] (by k_sub) rfl (by intro _ _ _ h; cases h) ⟨rfl, rfl, _, rfl⟩
theorem or_spec {w : World} {z : Env0} (x y : Int) (t u : Tok) : Spec w z 1 3 (.ref 118) [.int x t, .int y u] [] [] [] (fun mu' new v => mu' = [] ∧ new = [] ∧ ∃ t, v = .int (Builtin.bitOr x y) t) := by
  (k_dflt (refine' spec_def [(Str.ofString "b", .int y u), (Str.ofString "a", .int x t)] ?ho ?hcd ?hb ?hl ?h ?c2 ?c3 ?c4 ?c5; (case ho => k_is); (case hcd => k_is); (case hb => intro s' X'; first | exact BindsTo.of_eq rfl | exact binds_K X' rfl (by k_is) rfl rfl rfl); (case c5 => decide); (case hl => exact locs rfl); (case c2 => exact rfl); (case c3 => exact rfl); (case c4 => exact rfl)); (intro dp un gd outer A₀ base g L h₁ s tk B F X N T C hdp hun; obtain ⟨cL, cY, cS⟩ := C))
  k_steps
  exact Fin.intro (by k_asm) (by k_asm) [] [] (by k_sub) rfl (by intro _ _ _ h; cases h) ⟨rfl, rfl, _, rfl⟩
theorem xor_spec {w : World} {z : Env0} (x y : Int) (t u : Tok) : Spec w z 1 3 (.ref 125) [.int x t, .int y u] [] [] [] (fun mu' new v => mu' = [] ∧ new = [] ∧ ∃ t, v = .int (Builtin.bitXor x y) t) := by
  (k_dflt (refine' spec_def [(Str.ofString "b", .int y u), (Str.ofString "a", .int x t)] ?ho ?hcd ?hb ?hl ?h ?c2 ?c3 ?c4 ?c5; (case ho => k_is); (case hcd => k_is); (case hb => intro s' X'; first | exact BindsTo.of_eq rfl | exact binds_K X' rfl (by k_is) rfl rfl rfl); (case c5 => decide); (case hl => exact locs rfl); (case c2 => exact rfl); (case c3 => exact rfl); (case c4 => exact rfl)); (intro dp un gd outer A₀ base g L h₁ s tk B F X N T C hdp hun; obtain ⟨cL, cY, cS⟩ := C))
  k_steps
  exact Fin.intro (by k_asm) (by k_asm) [] [] (by k_sub) rfl (by intro _ _ _ h; cases h) ⟨rfl, rfl, _, rfl⟩
theorem eq_spec {w : World} {z : Env0} (x y : Int) (t u : Tok) : Spec w z 1 3 (.ref 97) [.int x t, .int y u] [] [] [] (fun mu' new v => mu' = [] ∧ new = [] ∧ ∃ _ : Tok, v = .bool (x == y)) := by
  (k_dflt (refine' spec_def [(Str.ofString "b", .int y u), (Str.ofString "a", .int x t)] ?ho ?hcd ?hb ?hl ?h ?c2 ?c3 ?c4 ?c5; (case ho => k_is); (case hcd => k_is); (case hb => intro s' X'; first | exact BindsTo.of_eq rfl | exact binds_K X' rfl (by k_is) rfl rfl rfl); (case c5 => decide); (case hl => exact locs rfl); (case c2 => exact rfl); (case c3 => exact rfl); (case c4 => exact rfl)); (intro dp un gd outer A₀ base g L h₁ s tk B F X N T C hdp hun; obtain ⟨cL, cY, cS⟩ := C))
  k_steps
  exact Fin.intro (by k_asm) (by k_asm) [] [] (by k_sub) rfl (by intro _ _ _ h; cases h) ⟨rfl, rfl, t, rfl⟩
theorem lsh_spec {w : World} {z : Env0} (y : Int) (t u : Tok) (h0 : 0 ≤ y) (h1 : y < 64) : Spec w z 1 3 (.ref 111) [.int 1 t, .int y u] [] [] [] (fun mu' new v => mu' = [] ∧ new = [] ∧ ∃ t, v = .int (2 ^ y.toNat) t) := by
  (k_dflt (refine' spec_def [(Str.ofString "b", .int y u), (Str.ofString "a", .int 1 t)] ?ho ?hcd ?hb ?hl ?h ?c2 ?c3 ?c4 ?c5; (case ho => k_is); (case hcd => k_is); (case hb => intro s' X'; first | exact BindsTo.of_eq rfl | exact binds_K X' rfl (by k_is) rfl rfl rfl); (case c5 => decide); (case hl => exact locs rfl); (case c2 => exact rfl); (case c3 => exact rfl); (case c4 => exact rfl)); (intro dp un gd outer A₀ base g L h₁ s tk B F X N T C hdp hun; obtain ⟨cL, cY, cS⟩ := C))
  k_steps
  exact Fin.intro (by k_asm) (by k_asm) [] [] (by k_sub) rfl (by intro _ _ _ h; cases h) ⟨rfl, rfl, _, congrArg (Value.int · _) (Int.one_mul _)⟩
end
local macro_rules | `(tactic| walk_at "sub") => `(tactic| first | exact List.forall_mem_nil _ | exact fun _ hp => hp | exact fun _ hp => List.mem_cons_of_mem _ hp | (refine List.forall_mem_cons.mpr ⟨by k_mem, ?_⟩; walk_at "sub"))
local macro_rules | `(tactic| o_head $t:term) => `(tactic| ((k_dflt (refine' Spec.useT ($t) (by k_asm) (by k_asm) (by k_asm) (by k_asm) (by k_asm) (by first | exact rfl | assumption) (by assumption) (by assumption) (by assumption) (by ktr_room) (by ktr_units) (by walk_at "sub") ?_; k_whole); intros; (try k_sweep))))
local macro_rules | `(tactic| walk_at "helpers") => `(tactic| (k_here; first | o_head (and_spec _ _ _ _) | o_head (or_spec _ _ _ _) | o_head (xor_spec _ _ _ _) | o_head (eq_spec _ _ _ _) | o_head (lsh_spec _ _ _ (by first | assumption | omega) (by first | assumption | omega))))
local macro_rules | `(tactic| k_mem) => `(tactic| assumption)
local macro_rules | `(tactic| walk_at "call ref") => `(tactic| (first | k_extra "mycall" | walk_at "helpers"))
section
noncomputable def strOf (b : Int) : Str := if b = 0 then Str.ofString "a" else if b = 1 then Str.ofString "ab" else Str.ofString "b"
structure RowD where
  r0 : Int
  r1 : Int
  r2 : Int
  r3 : Int
  t0 : Tok
  t1 : Tok
  t2 : Tok
  t3 : Tok
noncomputable def RowD.at (r : RowD) (c : Int) : Int := if c = 0 then r.r0 else if c = 1 then r.r1 else if c = 2 then r.r2 else r.r3
structure RowD.Ok (r : RowD) : Prop where
  lo : 0 ≤ r.r1
  hi : r.r1 ≤ 2
noncomputable def tupleO (vs : List Value) : Obj := { cls := .type "tuple", data := .seq vs.toArray 0 }
noncomputable abbrev rowO (r : RowD) : Obj := tupleO [.int r.r0 r.t0, .str (strOf r.r1) r.t1, .int r.r2 r.t2, .int r.r3 r.t3]
noncomputable abbrev instO (dx : Addr) : Obj := instObj 38 dx
noncomputable def rowV (r : RowD) (c : Int) : Value := if c = 0 then .int r.r0 r.t0 else if c = 1 then .str (strOf r.r1) r.t1 else if c = 2 then .int r.r2 r.t2 else .int r.r3 r.t3
theorem strOf_lt {a b : Int} (ha : 0 ≤ a) (ha2 : a ≤ 2) (hb : 0 ≤ b) (hb2 : b ≤ 2) : decide ((strOf a).cps.toList < (strOf b).cps.toList) = decide (a < b) := by
  have h1 : a = 0 ∨ a = 1 ∨ a = 2 := by first | exact orN3 (by omega) | exact orI3 (by omega) (by omega)
  have h2 : b = 0 ∨ b = 1 ∨ b = 2 := by first | exact orN3 (by omega) | exact orI3 (by omega) (by omega)
  rcases h1 with rfl | rfl | rfl <;> rcases h2 with rfl | rfl | rfl <;> decide +kernel
section
variable {prog : Program} {w : World} {A : Around} {E : Value → Shared → Prop} {s : Shared} {h₀ : Heap} {L : Addr} {news : Led} {Q : Value → Shared → Prop}
theorem row_item {value slice : PySem.Expr} {l : Addr} {r : RowD} {c : Int} {u : Tok} (N : News h₀ L s.heap news) (hm : (l, rowO r) ∈ news) (h0 : 0 ≤ c) (h3 : c ≤ 3) (h : Q (rowV r c) s)
    (hs : subscripted slice false (.ref l) (.int c u) = operate [.ref l, .int c u] (getItem (.ref l) (.int c u)) := by with_unfolding_all rfl) :
    wpAny (model prog w) A (subscriptTail value slice (.ref l) (.int c u)) Q E s := by
  refine item_tupleT (j := c.toNat) (x := rowV r c) (News.isTup N hm) (by omega) (by omega) ?_ ?_ h hs
  · have : c = 0 ∨ c = 1 ∨ c = 2 ∨ c = 3 := by first | exact orN4 (by omega) | exact orI4 (by omega) (by omega)
    rcases this with rfl | rfl | rfl | rfl <;> rfl
  · have : c = 0 ∨ c = 1 ∨ c = 2 ∨ c = 3 := by first | exact orN4 (by omega) | exact orI4 (by omega) (by omega)
    rcases this with rfl | rfl | rfl | rfl <;> rfl
theorem row_lt {a b : RowD} {c : Int} (oa : a.Ok) (ob : b.Ok) (h : Q (.bool (decide (a.at c < b.at c))) s) : wpAny (model prog w) A (compareOp .Lt (rowV a c) (rowV b c)) Q E s := by
  unfold rowV
  unfold RowD.at at h
  split
  · rename_i e; rw [if_pos e, if_pos e] at h; exact PyProof.Rows.lt_int h
  · rename_i e; rw [if_neg e, if_neg e] at h
    split
    · rename_i e1; rw [if_pos e1, if_pos e1] at h
      refine lt_str ?_
      rw [strOf_lt oa.lo oa.hi ob.lo ob.hi]; exact h
    · rename_i e1; rw [if_neg e1, if_neg e1] at h
      split <;> (rename_i e2; simp only [e2, if_true, if_false] at h; exact PyProof.Rows.lt_int h)
theorem row_gt {a b : RowD} {c : Int} (oa : a.Ok) (ob : b.Ok) (h : Q (.bool (decide (b.at c < a.at c))) s) : wpAny (model prog w) A (compareOp .Gt (rowV a c) (rowV b c)) Q E s := by
  unfold rowV
  unfold RowD.at at h
  split
  · rename_i e; rw [if_pos e, if_pos e] at h; exact gt_int h
  · rename_i e; rw [if_neg e, if_neg e] at h
    split
    · rename_i e1; rw [if_pos e1, if_pos e1] at h
      refine P.gt_str ?_
      rw [strOf_lt ob.lo ob.hi oa.lo oa.hi]; exact h
    · rename_i e1; rw [if_neg e1, if_neg e1] at h
      split <;> (rename_i e2; simp only [e2, if_true, if_false] at h; exact gt_int h)
end
noncomputable def cmpK (a b : RowD) : List (Int × Int) → Int
  | [] => 0
  | (c, d) :: r => if a.at c < b.at c then -d else if b.at c < a.at c then d else cmpK a b r
noncomputable def colOk (c : Int) : Prop := 0 ≤ c ∧ c ≤ 3
local macro_rules | `(tactic| walk_at "subscriptTail Name Name ref int") => `(tactic| (k_here; (k_dflt (refine' row_item ?N ?m ?a ?b ?_; (case N => k_asm); (case m => k_mem); (case a => assumption); (case b => assumption); k_whole))))
local macro_rules | `(tactic| walk_at "compareOp Lt") => `(tactic| (k_here; (with_reducible show wpAny _ _ (compareOp CmpOp.Lt (rowV _ _) (rowV _ _)) _ _ _); (refine row_lt (by assumption) (by assumption) ?_)))
local macro_rules | `(tactic| walk_at "compareOp Gt") => `(tactic| (k_here; (with_reducible show wpAny _ _ (compareOp CmpOp.Gt (rowV _ _) (rowV _ _)) _ _ _); (refine row_gt (by assumption) (by assumption) ?_)))
namespace compare_spec
noncomputable def epsX : { P : World → Env0 → Nat → Nat → Nat → Nat → Nat → Nat → Nat → Nat → RowD → RowD → Int → Int → Int → Int → Int → Int → Tok → Tok → Tok → Tok → Tok → Tok → Nat → Nat → Int → Tok → Nat → Nat → (Option (List Code)) → (List Env) → Around → Heap → Heap → Addr → Heap → Shared → Nat → Prop // (∀ w z self dx kl ka kb kc l r a b c0 c1 c2 d0 d1 d2 tc0 tc1 tc2 td0 td1 td2 e1 n1 hsh tk0 dp un gd outer A₀ base g L h₁ s tk, P w z self dx kl ka kb kc l r a b c0 c1 c2 d0 d1 d2 tc0 tc1 tc2 td0 td1 td2 e1 n1 hsh tk0 dp un gd outer A₀ base g L h₁ s tk) → ∀ (w : World) (z : Env0) (self : Nat) (dx : Nat) (kl : Nat) (ka : Nat) (kb : Nat) (kc : Nat) (l : Nat) (r : Nat) (a : RowD) (b : RowD) (c0 : Int) (c1 : Int) (c2 : Int) (d0 : Int) (d1 : Int) (d2 : Int) (tc0 : Tok) (tc1 : Tok) (tc2 : Tok) (td0 : Tok) (td1 : Tok) (td2 : Tok) (e1 : Nat) (n1 : Nat) (hsh : Int) (tk0 : Tok) (oa : a.Ok) (ob : b.Ok) (h00 : 0 ≤ c0) (h03 : c0 ≤ 3) (h10 : 0 ≤ c1) (h13 : c1 ≤ 3) (h20 : 0 ≤ c2) (h23 : c2 ≤ 3), Spec w z 1 3 (.ref 35) [.ref self, .ref l, .ref r] [] [] [(self, instO dx), (dx, dictOf [⟨hsh, .str (Str.ofString "comp_select_list") tk0, .ref kl⟩] n1), (kl, W.listOf #[.ref ka, .ref kb, .ref kc] e1), (ka, tupleO [.int c0 tc0, .int d0 td0]), (kb, tupleO [.int c1 tc1, .int d1 td1]), (kc, tupleO [.int c2 tc2, .int d2 td2]), (l, rowO a), (r, rowO b)]
    (fun mu' new v => mu' = [] ∧ new = [] ∧ ∃ t, v = .int (cmpK a b [(c0, d0), (c1, d1), (c2, d2)]) t) } := ⟨_, by
  intro h_eps w z self dx kl ka kb kc l r a b c0 c1 c2 d0 d1 d2 tc0 tc1 tc2 td0 td1 td2 e1 n1 hsh tk0 oa ob h00 h03 h10 h13 h20 h23
  (k_dflt (refine' spec_def [(Str.ofString "right", .ref r), (Str.ofString "left", .ref l), (Str.ofString "self", .ref self)] ?ho ?hcd ?hb ?hl ?h ?c2 ?c3 ?c4 ?c5; (case ho => k_is); (case hcd => k_is); (case hb => intro s' X'; first | exact BindsTo.of_eq rfl | exact binds_K X' rfl (by k_is) rfl rfl rfl); (case c5 => decide); (case hl => exact locs rfl); (case c2 => exact rfl); (case c3 => exact rfl); (case c4 => exact rfl)); (intro dp un gd outer A₀ base g L h₁ s tk B F X N T C hdp hun; obtain ⟨cL, cY, cS⟩ := C))
  revert hun; revert hdp; revert cS; revert cY; revert cL; revert T; revert N; revert X; revert F; revert B; revert h23; revert h20; revert h13; revert h10; revert h03; revert h00; revert ob; revert oa
  exact h_eps w z self dx kl ka kb kc l r a b c0 c1 c2 d0 d1 d2 tc0 tc1 tc2 td0 td1 td2 e1 n1 hsh tk0 dp un gd outer A₀ base g L h₁ s tk⟩
noncomputable abbrev epsT : Type := World × Env0 × Nat × Nat × Nat × Nat × Nat × Nat × Nat × Nat × RowD × RowD × Int × Int × Int × Int × Int × Int × Tok × Tok × Tok × Tok × Tok × Tok × Nat × Nat × Int × Tok × Nat × Nat × (Option (List Code)) × (List Env) × Around × Heap × Heap × Addr × Heap × Shared × Nat
noncomputable abbrev epsQ : epsT → Prop := fun d => epsX.1 d.1 d.2.1 d.2.2.1 d.2.2.2.1 d.2.2.2.2.1 d.2.2.2.2.2.1 d.2.2.2.2.2.2.1 d.2.2.2.2.2.2.2.1 d.2.2.2.2.2.2.2.2.1 d.2.2.2.2.2.2.2.2.2.1 d.2.2.2.2.2.2.2.2.2.2.1 d.2.2.2.2.2.2.2.2.2.2.2.1 d.2.2.2.2.2.2.2.2.2.2.2.2.1 d.2.2.2.2.2.2.2.2.2.2.2.2.2.1 d.2.2.2.2.2.2.2.2.2.2.2.2.2.2.1 d.2.2.2.2.2.2.2.2.2.2.2.2.2.2.2.1 d.2.2.2.2.2.2.2.2.2.2.2.2.2.2.2.2.1 d.2.2.2.2.2.2.2.2.2.2.2.2.2.2.2.2.2.1 d.2.2.2.2.2.2.2.2.2.2.2.2.2.2.2.2.2.2.1 d.2.2.2.2.2.2.2.2.2.2.2.2.2.2.2.2.2.2.2.1 d.2.2.2.2.2.2.2.2.2.2.2.2.2.2.2.2.2.2.2.2.1 d.2.2.2.2.2.2.2.2.2.2.2.2.2.2.2.2.2.2.2.2.2.1 d.2.2.2.2.2.2.2.2.2.2.2.2.2.2.2.2.2.2.2.2.2.2.1 d.2.2.2.2.2.2.2.2.2.2.2.2.2.2.2.2.2.2.2.2.2.2.2.1 d.2.2.2.2.2.2.2.2.2.2.2.2.2.2.2.2.2.2.2.2.2.2.2.2.1 d.2.2.2.2.2.2.2.2.2.2.2.2.2.2.2.2.2.2.2.2.2.2.2.2.2.1 d.2.2.2.2.2.2.2.2.2.2.2.2.2.2.2.2.2.2.2.2.2.2.2.2.2.2.1 d.2.2.2.2.2.2.2.2.2.2.2.2.2.2.2.2.2.2.2.2.2.2.2.2.2.2.2.1 d.2.2.2.2.2.2.2.2.2.2.2.2.2.2.2.2.2.2.2.2.2.2.2.2.2.2.2.2.1 d.2.2.2.2.2.2.2.2.2.2.2.2.2.2.2.2.2.2.2.2.2.2.2.2.2.2.2.2.2.1 d.2.2.2.2.2.2.2.2.2.2.2.2.2.2.2.2.2.2.2.2.2.2.2.2.2.2.2.2.2.2.1 d.2.2.2.2.2.2.2.2.2.2.2.2.2.2.2.2.2.2.2.2.2.2.2.2.2.2.2.2.2.2.2.1 d.2.2.2.2.2.2.2.2.2.2.2.2.2.2.2.2.2.2.2.2.2.2.2.2.2.2.2.2.2.2.2.2.1 d.2.2.2.2.2.2.2.2.2.2.2.2.2.2.2.2.2.2.2.2.2.2.2.2.2.2.2.2.2.2.2.2.2.1 d.2.2.2.2.2.2.2.2.2.2.2.2.2.2.2.2.2.2.2.2.2.2.2.2.2.2.2.2.2.2.2.2.2.2.1 d.2.2.2.2.2.2.2.2.2.2.2.2.2.2.2.2.2.2.2.2.2.2.2.2.2.2.2.2.2.2.2.2.2.2.2.1 d.2.2.2.2.2.2.2.2.2.2.2.2.2.2.2.2.2.2.2.2.2.2.2.2.2.2.2.2.2.2.2.2.2.2.2.2.1 d.2.2.2.2.2.2.2.2.2.2.2.2.2.2.2.2.2.2.2.2.2.2.2.2.2.2.2.2.2.2.2.2.2.2.2.2.2.1 d.2.2.2.2.2.2.2.2.2.2.2.2.2.2.2.2.2.2.2.2.2.2.2.2.2.2.2.2.2.2.2.2.2.2.2.2.2.2
theorem eN : Nonempty epsT := by walk_at "ne_all"
@[irreducible] noncomputable def eK : epsT := Pk epsT eN epsQ
theorem eC : epsX.1 eK.1 eK.2.1 eK.2.2.1 eK.2.2.2.1 eK.2.2.2.2.1 eK.2.2.2.2.2.1 eK.2.2.2.2.2.2.1 eK.2.2.2.2.2.2.2.1 eK.2.2.2.2.2.2.2.2.1 eK.2.2.2.2.2.2.2.2.2.1 eK.2.2.2.2.2.2.2.2.2.2.1 eK.2.2.2.2.2.2.2.2.2.2.2.1 eK.2.2.2.2.2.2.2.2.2.2.2.2.1 eK.2.2.2.2.2.2.2.2.2.2.2.2.2.1 eK.2.2.2.2.2.2.2.2.2.2.2.2.2.2.1 eK.2.2.2.2.2.2.2.2.2.2.2.2.2.2.2.1 eK.2.2.2.2.2.2.2.2.2.2.2.2.2.2.2.2.1 eK.2.2.2.2.2.2.2.2.2.2.2.2.2.2.2.2.2.1 eK.2.2.2.2.2.2.2.2.2.2.2.2.2.2.2.2.2.2.1 eK.2.2.2.2.2.2.2.2.2.2.2.2.2.2.2.2.2.2.2.1 eK.2.2.2.2.2.2.2.2.2.2.2.2.2.2.2.2.2.2.2.2.1 eK.2.2.2.2.2.2.2.2.2.2.2.2.2.2.2.2.2.2.2.2.2.1 eK.2.2.2.2.2.2.2.2.2.2.2.2.2.2.2.2.2.2.2.2.2.2.1 eK.2.2.2.2.2.2.2.2.2.2.2.2.2.2.2.2.2.2.2.2.2.2.2.1 eK.2.2.2.2.2.2.2.2.2.2.2.2.2.2.2.2.2.2.2.2.2.2.2.2.1 eK.2.2.2.2.2.2.2.2.2.2.2.2.2.2.2.2.2.2.2.2.2.2.2.2.2.1 eK.2.2.2.2.2.2.2.2.2.2.2.2.2.2.2.2.2.2.2.2.2.2.2.2.2.2.1 eK.2.2.2.2.2.2.2.2.2.2.2.2.2.2.2.2.2.2.2.2.2.2.2.2.2.2.2.1 eK.2.2.2.2.2.2.2.2.2.2.2.2.2.2.2.2.2.2.2.2.2.2.2.2.2.2.2.2.1 eK.2.2.2.2.2.2.2.2.2.2.2.2.2.2.2.2.2.2.2.2.2.2.2.2.2.2.2.2.2.1 eK.2.2.2.2.2.2.2.2.2.2.2.2.2.2.2.2.2.2.2.2.2.2.2.2.2.2.2.2.2.2.1 eK.2.2.2.2.2.2.2.2.2.2.2.2.2.2.2.2.2.2.2.2.2.2.2.2.2.2.2.2.2.2.2.1 eK.2.2.2.2.2.2.2.2.2.2.2.2.2.2.2.2.2.2.2.2.2.2.2.2.2.2.2.2.2.2.2.2.1 eK.2.2.2.2.2.2.2.2.2.2.2.2.2.2.2.2.2.2.2.2.2.2.2.2.2.2.2.2.2.2.2.2.2.1 eK.2.2.2.2.2.2.2.2.2.2.2.2.2.2.2.2.2.2.2.2.2.2.2.2.2.2.2.2.2.2.2.2.2.2.1 eK.2.2.2.2.2.2.2.2.2.2.2.2.2.2.2.2.2.2.2.2.2.2.2.2.2.2.2.2.2.2.2.2.2.2.2.1 eK.2.2.2.2.2.2.2.2.2.2.2.2.2.2.2.2.2.2.2.2.2.2.2.2.2.2.2.2.2.2.2.2.2.2.2.2.1 eK.2.2.2.2.2.2.2.2.2.2.2.2.2.2.2.2.2.2.2.2.2.2.2.2.2.2.2.2.2.2.2.2.2.2.2.2.2.1 eK.2.2.2.2.2.2.2.2.2.2.2.2.2.2.2.2.2.2.2.2.2.2.2.2.2.2.2.2.2.2.2.2.2.2.2.2.2.2 := by
  dsimp only [epsX]
  intro oa ob h00 h03 h10 h13 h20 h23 B F X N T cL cY cS hdp hun
  simp only [List.nil_append] at N
  k_steps
  all_goals exact Fin.intro (by k_asm) (by k_asm) [] [] (by k_sub) rfl (by intro _ _ _ h; cases h) ⟨rfl, rfl, _, congrArg (Value.int · _) (by simp only [cmpK]; (repeat' split) <;> first | rfl | (exfalso; omega))⟩
end compare_spec
theorem compare_spec {w : World} {z : Env0} (self : Nat) (dx : Nat) (kl : Nat) (ka : Nat) (kb : Nat) (kc : Nat) (l : Nat) (r : Nat) (a : RowD) (b : RowD) (c0 : Int) (c1 : Int) (c2 : Int) (d0 : Int) (d1 : Int) (d2 : Int) (tc0 : Tok) (tc1 : Tok) (tc2 : Tok) (td0 : Tok) (td1 : Tok) (td2 : Tok) (e1 : Nat) (n1 : Nat) (hsh : Int) (tk0 : Tok) (oa : a.Ok) (ob : b.Ok) (h00 : 0 ≤ c0) (h03 : c0 ≤ 3) (h10 : 0 ≤ c1) (h13 : c1 ≤ 3) (h20 : 0 ≤ c2) (h23 : c2 ≤ 3) : Spec w z 1 3 (.ref 35) [.ref self, .ref l, .ref r] [] [] [(self, instO dx), (dx, dictOf [⟨hsh, .str (Str.ofString "comp_select_list") tk0, .ref kl⟩] n1), (kl, W.listOf #[.ref ka, .ref kb, .ref kc] e1), (ka, tupleO [.int c0 tc0, .int d0 td0]), (kb, tupleO [.int c1 tc1, .int d1 td1]), (kc, tupleO [.int c2 tc2, .int d2 td2]), (l, rowO a), (r, rowO b)]
    (fun mu' new v => mu' = [] ∧ new = [] ∧ ∃ t, v = .int (cmpK a b [(c0, d0), (c1, d1), (c2, d2)]) t) := compare_spec.epsX.2 (fun w z self dx kl ka kb kc l r a b c0 c1 c2 d0 d1 d2 tc0 tc1 tc2 td0 td1 td2 e1 n1 hsh tk0 dp un gd outer A₀ base g L h₁ s tk => Pk.all (T := compare_spec.epsT) (ne := compare_spec.eN) (Q := compare_spec.epsQ) (by with_unfolding_all exact compare_spec.eC) (w, z, self, dx, kl, ka, kb, kc, l, r, a, b, c0, c1, c2, d0, d1, d2, tc0, tc1, tc2, td0, td1, td2, e1, n1, hsh, tk0, dp, un, gd, outer, A₀, base, g, L, h₁, s, tk)) w z self dx kl ka kb kc l r a b c0 c1 c2 d0 d1 d2 tc0 tc1 tc2 td0 td1 td2 e1 n1 hsh tk0 oa ob h00 h03 h10 h13 h20 h23
end
section
noncomputable def bis (p : Nat → Bool) : Nat → Nat → Nat → Nat
  | 0, lo, _ => lo
  | f + 1, lo, hi => if lo < hi then (if p ((lo + hi) / 2) then bis p f lo ((lo + hi) / 2) else bis p f ((lo + hi) / 2 + 1) hi) else lo
theorem bis_fuel (p : Nat → Bool) : ∀ (f g lo hi : Nat), hi ≤ lo + f → hi ≤ lo + g → bis p f lo hi = bis p g lo hi
  | 0, 0, _, _, _, _ => rfl
  | 0, g + 1, lo, hi, h, _ => by
    show lo = if lo < hi then _ else lo
    rw [if_neg (by omega)]
  | f + 1, 0, lo, hi, _, h => by
    show (if lo < hi then _ else lo) = lo
    rw [if_neg (by omega)]
  | f + 1, g + 1, lo, hi, h1, h2 => by
    show (if lo < hi then _ else lo) = if lo < hi then _ else lo
    by_cases hl : lo < hi
    · rw [if_pos hl, if_pos hl]
      cases p ((lo + hi) / 2) with
      | true => exact bis_fuel p f g _ _ (by omega) (by omega)
      | false => exact bis_fuel p f g _ _ (by omega) (by omega)
    · rw [if_neg hl, if_neg hl]
theorem bis_left {p : Nat → Bool} {lo hi : Nat} (h : lo < hi) (hp : p ((lo + hi) / 2) = true) : bis p hi lo ((lo + hi) / 2) = bis p hi lo hi := by
  obtain ⟨f, rfl⟩ : ∃ f, hi = f + 1 := ⟨hi - 1, by omega⟩
  rw [show bis p (f + 1) lo (f + 1) = if lo < f + 1 then (if p ((lo + (f + 1)) / 2) then bis p f lo ((lo + (f + 1)) / 2) else bis p f ((lo + (f + 1)) / 2 + 1) (f + 1)) else lo from rfl, if_pos h, hp, if_pos rfl]
  exact bis_fuel p _ _ _ _ (by omega) (by omega)
theorem bis_right {p : Nat → Bool} {lo hi : Nat} (h : lo < hi) (hp : p ((lo + hi) / 2) = false) : bis p hi ((lo + hi) / 2 + 1) hi = bis p hi lo hi := by
  obtain ⟨f, rfl⟩ : ∃ f, hi = f + 1 := ⟨hi - 1, by omega⟩
  rw [show bis p (f + 1) lo (f + 1) = if lo < f + 1 then (if p ((lo + (f + 1)) / 2) then bis p f lo ((lo + (f + 1)) / 2) else bis p f ((lo + (f + 1)) / 2 + 1) (f + 1)) else lo from rfl, if_pos h, hp, if_neg Bool.false_ne_true]
  exact bis_fuel p _ _ _ _ (by omega) (by omega)
theorem mid_cast (a b : Nat) : ((a : Int) + (b : Int)).fdiv 2 = (((a + b) / 2 : Nat) : Int) := by
  rw [Int.fdiv_eq_ediv_of_nonneg _ (by decide)]
  omega
theorem getD_mem {ns : List Int} {i : Nat} (h : i < ns.length) : ns.getD i 0 ∈ ns := by
  have : ns.getD i 0 = ns[i] := by simp [h]
  rw [this]
  exact List.getElem_mem h
structure BS where
  lo : Nat
  hi : Nat
  tl : Tok
  th : Tok
noncomputable def KeyOk (w : World) (z : Env0) (nd nu : Nat) (kf : Addr) (ns : List Int) (ex : Led) (V : Int → Tok → Value) : Prop :=
  (∃ oc od fd sl, (kf, (⟨oc, od, .func fd, sl⟩ : Obj)) ∈ ex) ∧ ∀ n ∈ ns, ∀ t, Spec w z nd nu (.ref kf) [.int n t] [] [] ex (fun mu' new v => mu' = [] ∧ new = [] ∧ ∃ t, v = V n t)
namespace bisR_spec
noncomputable def epsX : { P : World → Env0 → Nat → Nat → Nat → Nat → (List Value) → (List Int) → Nat → Int → Tok → Tok → Led → (Int → Int) → Value → (Option Addr) → FuncData → (Array (Option Value)) → Nat → Nat → (Option (List Code)) → (List Env) → Around → Heap → Heap → Addr → Heap → Shared → Nat → Prop // (∀ w z nd nu l kf its ns e x tx t0 ex V oc od fd sl dp un gd outer A₀ base g L h₁ s tk, P w z nd nu l kf its ns e x tx t0 ex V oc od fd sl dp un gd outer A₀ base g L h₁ s tk) → ∀ (w : World) (z : Env0) (nd : Nat) (nu : Nat) (l : Nat) (kf : Nat) (its : List Value) (ns : List Int) (e : Nat) (x : Int) (tx : Tok) (t0 : Tok) (ex : Led) (V : Int → Int) (hi : IntsAre its ns) (hlen : ns.length ≤ 8) (hkey : KeyOk w z nd nu kf ns ex (fun n t => .int (V n) t)), Spec w z (nd + 1) (nu + 3) (.ref 81) [.ref l, .int x tx, .int 0 t0, .none] [(Str.ofString "key", .ref kf)] [] ((l, W.listOf its.toArray e) :: ex)
    (fun mu' new v => mu' = [] ∧ new = [] ∧ ∃ t, v = .int ((bis (fun i => decide (x < V (ns.getD i 0))) ns.length 0 ns.length : Nat) : Int) t) } := ⟨_, by
  intro h_eps w z nd nu l kf its ns e x tx t0 ex V hi hlen hkey
  obtain ⟨⟨oc, od, fd, sl, hkm⟩, hkey⟩ := hkey
  (k_dflt (refine' spec_def [(Str.ofString "key", .ref kf), (Str.ofString "hi", .none), (Str.ofString "lo", .int 0 t0), (Str.ofString "x", .int x tx), (Str.ofString "a", .ref l)] ?ho ?hcd ?hb ?hl ?h ?c2 ?c3 ?c4 ?c5; (case ho => k_is); (case hcd => k_is); (case hb => intro s' X'; first | exact BindsTo.of_eq rfl | exact binds_K X' rfl (by k_is) rfl rfl rfl); (case c5 => decide); (case hl => exact locs rfl); (case c2 => exact rfl); (case c3 => exact rfl); (case c4 => exact rfl)); (intro dp un gd outer A₀ base g L h₁ s tk B F X N T C hdp hun; obtain ⟨cL, cY, cS⟩ := C))
  revert hun; revert hdp; revert cS; revert cY; revert cL; revert T; revert N; revert X; revert F; revert B; revert hkm; revert hkey; revert hlen; revert hi
  exact h_eps w z nd nu l kf its ns e x tx t0 ex V oc od fd sl dp un gd outer A₀ base g L h₁ s tk⟩
noncomputable abbrev epsT : Type := World × Env0 × Nat × Nat × Nat × Nat × (List Value) × (List Int) × Nat × Int × Tok × Tok × Led × (Int → Int) × Value × (Option Addr) × FuncData × (Array (Option Value)) × Nat × Nat × (Option (List Code)) × (List Env) × Around × Heap × Heap × Addr × Heap × Shared × Nat
noncomputable abbrev epsQ : epsT → Prop := fun d => epsX.1 d.1 d.2.1 d.2.2.1 d.2.2.2.1 d.2.2.2.2.1 d.2.2.2.2.2.1 d.2.2.2.2.2.2.1 d.2.2.2.2.2.2.2.1 d.2.2.2.2.2.2.2.2.1 d.2.2.2.2.2.2.2.2.2.1 d.2.2.2.2.2.2.2.2.2.2.1 d.2.2.2.2.2.2.2.2.2.2.2.1 d.2.2.2.2.2.2.2.2.2.2.2.2.1 d.2.2.2.2.2.2.2.2.2.2.2.2.2.1 d.2.2.2.2.2.2.2.2.2.2.2.2.2.2.1 d.2.2.2.2.2.2.2.2.2.2.2.2.2.2.2.1 d.2.2.2.2.2.2.2.2.2.2.2.2.2.2.2.2.1 d.2.2.2.2.2.2.2.2.2.2.2.2.2.2.2.2.2.1 d.2.2.2.2.2.2.2.2.2.2.2.2.2.2.2.2.2.2.1 d.2.2.2.2.2.2.2.2.2.2.2.2.2.2.2.2.2.2.2.1 d.2.2.2.2.2.2.2.2.2.2.2.2.2.2.2.2.2.2.2.2.1 d.2.2.2.2.2.2.2.2.2.2.2.2.2.2.2.2.2.2.2.2.2.1 d.2.2.2.2.2.2.2.2.2.2.2.2.2.2.2.2.2.2.2.2.2.2.1 d.2.2.2.2.2.2.2.2.2.2.2.2.2.2.2.2.2.2.2.2.2.2.2.1 d.2.2.2.2.2.2.2.2.2.2.2.2.2.2.2.2.2.2.2.2.2.2.2.2.1 d.2.2.2.2.2.2.2.2.2.2.2.2.2.2.2.2.2.2.2.2.2.2.2.2.2.1 d.2.2.2.2.2.2.2.2.2.2.2.2.2.2.2.2.2.2.2.2.2.2.2.2.2.2.1 d.2.2.2.2.2.2.2.2.2.2.2.2.2.2.2.2.2.2.2.2.2.2.2.2.2.2.2.1 d.2.2.2.2.2.2.2.2.2.2.2.2.2.2.2.2.2.2.2.2.2.2.2.2.2.2.2.2
theorem eN : Nonempty epsT := by walk_at "ne_all"
@[irreducible] noncomputable def eK : epsT := Pk epsT eN epsQ
@[irreducible] noncomputable def l := eK.2.2.2.2.1
@[irreducible] noncomputable def its := eK.2.2.2.2.2.2.1
@[irreducible] noncomputable def ns := eK.2.2.2.2.2.2.2.1
@[irreducible] noncomputable def e := eK.2.2.2.2.2.2.2.2.1
@[irreducible] noncomputable def x := eK.2.2.2.2.2.2.2.2.2.1
@[irreducible] noncomputable def t0 := eK.2.2.2.2.2.2.2.2.2.2.2.1
@[irreducible] noncomputable def ex := eK.2.2.2.2.2.2.2.2.2.2.2.2.1
@[irreducible] noncomputable def V := eK.2.2.2.2.2.2.2.2.2.2.2.2.2.1
theorem eC : epsX.1 eK.1 eK.2.1 eK.2.2.1 eK.2.2.2.1 l eK.2.2.2.2.2.1 its ns e x eK.2.2.2.2.2.2.2.2.2.2.1 t0 ex V eK.2.2.2.2.2.2.2.2.2.2.2.2.2.2.1 eK.2.2.2.2.2.2.2.2.2.2.2.2.2.2.2.1 eK.2.2.2.2.2.2.2.2.2.2.2.2.2.2.2.2.1 eK.2.2.2.2.2.2.2.2.2.2.2.2.2.2.2.2.2.1 eK.2.2.2.2.2.2.2.2.2.2.2.2.2.2.2.2.2.2.1 eK.2.2.2.2.2.2.2.2.2.2.2.2.2.2.2.2.2.2.2.1 eK.2.2.2.2.2.2.2.2.2.2.2.2.2.2.2.2.2.2.2.2.1 eK.2.2.2.2.2.2.2.2.2.2.2.2.2.2.2.2.2.2.2.2.2.1 eK.2.2.2.2.2.2.2.2.2.2.2.2.2.2.2.2.2.2.2.2.2.2.1 eK.2.2.2.2.2.2.2.2.2.2.2.2.2.2.2.2.2.2.2.2.2.2.2.1 eK.2.2.2.2.2.2.2.2.2.2.2.2.2.2.2.2.2.2.2.2.2.2.2.2.1 eK.2.2.2.2.2.2.2.2.2.2.2.2.2.2.2.2.2.2.2.2.2.2.2.2.2.1 eK.2.2.2.2.2.2.2.2.2.2.2.2.2.2.2.2.2.2.2.2.2.2.2.2.2.2.1 eK.2.2.2.2.2.2.2.2.2.2.2.2.2.2.2.2.2.2.2.2.2.2.2.2.2.2.2.1 eK.2.2.2.2.2.2.2.2.2.2.2.2.2.2.2.2.2.2.2.2.2.2.2.2.2.2.2.2 := by
  dsimp only [epsX]
  intro hi hlen hkey hkm B F X N T cL cY cS hdp hun
  simp only [List.nil_append] at N
  have hln := hi.length
  k_with_none
  k_with "exec While Compare cons nil" => ((rename Fr _ _ _ _ => lF); (rename News _ _ _ _ => lN); (with_unfolding_all refine' ksw_while (σ := BS) (fun _ => (l, W.listOf its.toArray e) :: ex) (fun c => [(Str.ofString "lo", .int (c.lo : Int) c.tl), (Str.ofString "hi", .int (c.hi : Int) c.th)]) (fun _ => True) [Str.ofString "mid"] (fun c => c.lo ≤ c.hi ∧ c.hi ≤ ns.length ∧ bis (fun i => decide (x < V (ns.getD i 0))) c.hi c.lo c.hi = bis (fun i => decide (x < V (ns.getD i 0))) ns.length 0 ns.length) (fun c => c.hi - c.lo) ⟨0, ns.length, t0, _⟩ lF lN trivial ?kk ?kp ?_); (case kk => (intro p hp; simp only [List.mem_cons, List.not_mem_nil, or_false] at hp; rcases hp with rfl | rfl <;> rfl)); (case kp => exact ⟨Nat.zero_le _, Nat.le_refl _, rfl⟩))
  k_with "call ref" => ((k_dflt (refine' Spec.use0 (hkey (ns.getD _ 0) (getD_mem (by rename _ ∧ _ => hP'; have hP1 := hP'.1; have hP2 := hP'.2.1; rw [mid_cast, Int.toNat_natCast]; omega)) _) ?uB ?uF ?uX ?uN ?uT ?uk ?u1 ?u2 ?u3 ?ud ?uu ?ue ?uK; (case uB => k_asm); (case uF => k_asm); (case uX => k_asm); (case uN => k_asm); (case uT => k_asm); (case uk => first | exact rfl | assumption); (case u1 => assumption); (case u2 => assumption); (case u3 => assumption); (case ud => ktr_room); (case uu => ktr_units); (case ue => walk_at "sub"); k_whole)); (intro v' mu' new' h' tk' hR' F' N' ap'); (obtain ⟨rfl, rfl, t', rfl⟩ := hR'); (try dsimp only [List.nil_append, List.cons_append] at N'); clear ap'; (try k_sweep))
  k_steps
  all_goals (try simp only [mid_cast, Int.toNat_natCast] at *)
  · rename BS => c; rename Fr _ _ _ _ => F'; rename News _ _ _ _ => N'; rename _ ∧ _ => hP; obtain ⟨p1, p2, p3⟩ := hP
    refine' ksw_end (⟨c.lo, (c.lo + c.hi) / 2, c.tl, _⟩ : BS) F' N' (fun _ h => h) trivial ?k1 (by walk_at "same") ⟨?k2, ?k3, ?k4⟩ ?k5
    case k1 => intro p hp; simp only [List.mem_cons, List.not_mem_nil, or_false] at hp; rcases hp with rfl | rfl <;> rfl
    case k2 => show c.lo ≤ (c.lo + c.hi) / 2; omega
    case k3 => show (c.lo + c.hi) / 2 ≤ ns.length; omega
    case k4 => exact Eq.trans (bis_fuel _ ((c.lo + c.hi) / 2) c.hi c.lo ((c.lo + c.hi) / 2) (by omega) (by omega)) ((bis_left (by omega) (decide_eq_true (by assumption))).trans p3)
    case k5 => show (c.lo + c.hi) / 2 - c.lo < c.hi - c.lo; omega
  · rename BS => c; rename Fr _ _ _ _ => F'; rename News _ _ _ _ => N'; rename _ ∧ _ => hP; obtain ⟨p1, p2, p3⟩ := hP
    refine' ksw_end (⟨(c.lo + c.hi) / 2 + 1, c.hi, _, c.th⟩ : BS) F' N' (fun _ h => h) trivial ?k1 (by walk_at "same") ⟨?k2, ?k3, ?k4⟩ ?k5
    case k1 => intro p hp; simp only [List.mem_cons, List.not_mem_nil, or_false] at hp; rcases hp with rfl | rfl <;> rfl
    case k2 => show (c.lo + c.hi) / 2 + 1 ≤ c.hi; omega
    case k3 => exact p2
    case k4 => exact (bis_right (p := fun i => decide (x < V (ns.getD i 0))) (lo := c.lo) (hi := c.hi) (by omega) (decide_eq_false (by assumption))).trans p3
    case k5 => show c.hi - ((c.lo + c.hi) / 2 + 1) < c.hi - c.lo; omega
  · rename BS => c; rename Fr _ _ _ _ => F'; rename News _ _ _ _ => N'; rename _ ∧ _ => hP; obtain ⟨p1, p2, p3⟩ := hP
    refine Fin.intro F' N' [] [] (fun _ h => h) rfl (by intro _ _ _ h; cases h) ⟨rfl, rfl, c.tl, congrArg (fun k : Nat => Value.int (k : Int) c.tl) ?_⟩
    rw [← p3]
    have e : c.lo = c.hi := by omega
    rw [← e]
    exact bis_fuel _ 0 _ _ _ (by omega) (by omega)
end bisR_spec
theorem bisR_spec {w : World} {z : Env0} {nd : Nat} {nu : Nat} (l : Nat) (kf : Nat) (its : List Value) (ns : List Int) (e : Nat) (x : Int) (tx : Tok) (t0 : Tok) (ex : Led) (V : Int → Int) (hi : IntsAre its ns) (hlen : ns.length ≤ 8) (hkey : KeyOk w z nd nu kf ns ex (fun n t => .int (V n) t)) : Spec w z (nd + 1) (nu + 3) (.ref 81) [.ref l, .int x tx, .int 0 t0, .none] [(Str.ofString "key", .ref kf)] [] ((l, W.listOf its.toArray e) :: ex)
    (fun mu' new v => mu' = [] ∧ new = [] ∧ ∃ t, v = .int ((bis (fun i => decide (x < V (ns.getD i 0))) ns.length 0 ns.length : Nat) : Int) t) := bisR_spec.epsX.2 (fun w z nd nu l kf its ns e x tx t0 ex V oc od fd sl dp un gd outer A₀ base g L h₁ s tk => Pk.all (T := bisR_spec.epsT) (ne := bisR_spec.eN) (Q := bisR_spec.epsQ) (by with_unfolding_all exact bisR_spec.eC) (w, z, nd, nu, l, kf, its, ns, e, x, tx, t0, ex, V, oc, od, fd, sl, dp, un, gd, outer, A₀, base, g, L, h₁, s, tk)) w z nd nu l kf its ns e x tx t0 ex V hi hlen hkey
end
section
theorem b2i_f {b : Bool} (h : b2i b < b2i true) : b = false := by cases b with | false => rfl | true => exact absurd h (by decide)
theorem b2i_t {b : Bool} (h : ¬ b2i b < b2i true) : b = true := by cases b with | true => rfl | false => exact absurd (by decide) h
namespace bisL_spec
noncomputable def epsX : { P : World → Env0 → Nat → Nat → Nat → Nat → (List Value) → (List Int) → Nat → Led → (Int → Bool) → Value → (Option Addr) → FuncData → (Array (Option Value)) → Nat → Nat → (Option (List Code)) → (List Env) → Around → Heap → Heap → Addr → Heap → Shared → Nat → Prop // (∀ w z nd nu l kf its ns e ex V oc od fd sl dp un gd outer A₀ base g L h₁ s tk, P w z nd nu l kf its ns e ex V oc od fd sl dp un gd outer A₀ base g L h₁ s tk) → ∀ (w : World) (z : Env0) (nd : Nat) (nu : Nat) (l : Nat) (kf : Nat) (its : List Value) (ns : List Int) (e : Nat) (ex : Led) (V : Int → Bool) (hi : IntsAre its ns) (hlen : ns.length ≤ 8) (hkey : KeyOk w z nd nu kf ns ex (fun n _ => .bool (V n))), Spec w z (nd + 1) (nu + 3) (.ref 90) [.ref l, .bool true] [(Str.ofString "key", .ref kf)] [] ((l, W.listOf its.toArray e) :: ex)
    (fun mu' new v => mu' = [] ∧ new = [] ∧ ∃ t, v = .int ((bis (fun i => V (ns.getD i 0)) ns.length 0 ns.length : Nat) : Int) t) } := ⟨_, by
  intro h_eps w z nd nu l kf its ns e ex V hi hlen hkey
  obtain ⟨⟨oc, od, fd, sl, hkm⟩, hkey⟩ := hkey
  (k_dflt (refine' spec_def [(Str.ofString "key", .ref kf), (Str.ofString "hi", .none), (Str.ofString "lo", .int 0 298), (Str.ofString "x", .bool true), (Str.ofString "a", .ref l)] ?ho ?hcd ?hb ?hl ?h ?c2 ?c3 ?c4 ?c5; (case ho => k_is); (case hcd => k_is); (case hb => intro s' X'; first | exact BindsTo.of_eq rfl | exact binds_K X' rfl (by k_is) rfl rfl rfl); (case c5 => decide); (case hl => exact locs rfl); (case c2 => exact rfl); (case c3 => exact rfl); (case c4 => exact rfl)); (intro dp un gd outer A₀ base g L h₁ s tk B F X N T C hdp hun; obtain ⟨cL, cY, cS⟩ := C))
  revert hun; revert hdp; revert cS; revert cY; revert cL; revert T; revert N; revert X; revert F; revert B; revert hkm; revert hkey; revert hlen; revert hi
  exact h_eps w z nd nu l kf its ns e ex V oc od fd sl dp un gd outer A₀ base g L h₁ s tk⟩
noncomputable abbrev epsT : Type := World × Env0 × Nat × Nat × Nat × Nat × (List Value) × (List Int) × Nat × Led × (Int → Bool) × Value × (Option Addr) × FuncData × (Array (Option Value)) × Nat × Nat × (Option (List Code)) × (List Env) × Around × Heap × Heap × Addr × Heap × Shared × Nat
noncomputable abbrev epsQ : epsT → Prop := fun d => epsX.1 d.1 d.2.1 d.2.2.1 d.2.2.2.1 d.2.2.2.2.1 d.2.2.2.2.2.1 d.2.2.2.2.2.2.1 d.2.2.2.2.2.2.2.1 d.2.2.2.2.2.2.2.2.1 d.2.2.2.2.2.2.2.2.2.1 d.2.2.2.2.2.2.2.2.2.2.1 d.2.2.2.2.2.2.2.2.2.2.2.1 d.2.2.2.2.2.2.2.2.2.2.2.2.1 d.2.2.2.2.2.2.2.2.2.2.2.2.2.1 d.2.2.2.2.2.2.2.2.2.2.2.2.2.2.1 d.2.2.2.2.2.2.2.2.2.2.2.2.2.2.2.1 d.2.2.2.2.2.2.2.2.2.2.2.2.2.2.2.2.1 d.2.2.2.2.2.2.2.2.2.2.2.2.2.2.2.2.2.1 d.2.2.2.2.2.2.2.2.2.2.2.2.2.2.2.2.2.2.1 d.2.2.2.2.2.2.2.2.2.2.2.2.2.2.2.2.2.2.2.1 d.2.2.2.2.2.2.2.2.2.2.2.2.2.2.2.2.2.2.2.2.1 d.2.2.2.2.2.2.2.2.2.2.2.2.2.2.2.2.2.2.2.2.2.1 d.2.2.2.2.2.2.2.2.2.2.2.2.2.2.2.2.2.2.2.2.2.2.1 d.2.2.2.2.2.2.2.2.2.2.2.2.2.2.2.2.2.2.2.2.2.2.2.1 d.2.2.2.2.2.2.2.2.2.2.2.2.2.2.2.2.2.2.2.2.2.2.2.2.1 d.2.2.2.2.2.2.2.2.2.2.2.2.2.2.2.2.2.2.2.2.2.2.2.2.2
theorem eN : Nonempty epsT := by walk_at "ne_all"
@[irreducible] noncomputable def eK : epsT := Pk epsT eN epsQ
@[irreducible] noncomputable def l := eK.2.2.2.2.1
@[irreducible] noncomputable def its := eK.2.2.2.2.2.2.1
@[irreducible] noncomputable def ns := eK.2.2.2.2.2.2.2.1
@[irreducible] noncomputable def e := eK.2.2.2.2.2.2.2.2.1
@[irreducible] noncomputable def ex := eK.2.2.2.2.2.2.2.2.2.1
@[irreducible] noncomputable def V := eK.2.2.2.2.2.2.2.2.2.2.1
theorem eC : epsX.1 eK.1 eK.2.1 eK.2.2.1 eK.2.2.2.1 l eK.2.2.2.2.2.1 its ns e ex V eK.2.2.2.2.2.2.2.2.2.2.2.1 eK.2.2.2.2.2.2.2.2.2.2.2.2.1 eK.2.2.2.2.2.2.2.2.2.2.2.2.2.1 eK.2.2.2.2.2.2.2.2.2.2.2.2.2.2.1 eK.2.2.2.2.2.2.2.2.2.2.2.2.2.2.2.1 eK.2.2.2.2.2.2.2.2.2.2.2.2.2.2.2.2.1 eK.2.2.2.2.2.2.2.2.2.2.2.2.2.2.2.2.2.1 eK.2.2.2.2.2.2.2.2.2.2.2.2.2.2.2.2.2.2.1 eK.2.2.2.2.2.2.2.2.2.2.2.2.2.2.2.2.2.2.2.1 eK.2.2.2.2.2.2.2.2.2.2.2.2.2.2.2.2.2.2.2.2.1 eK.2.2.2.2.2.2.2.2.2.2.2.2.2.2.2.2.2.2.2.2.2.1 eK.2.2.2.2.2.2.2.2.2.2.2.2.2.2.2.2.2.2.2.2.2.2.1 eK.2.2.2.2.2.2.2.2.2.2.2.2.2.2.2.2.2.2.2.2.2.2.2.1 eK.2.2.2.2.2.2.2.2.2.2.2.2.2.2.2.2.2.2.2.2.2.2.2.2.1 eK.2.2.2.2.2.2.2.2.2.2.2.2.2.2.2.2.2.2.2.2.2.2.2.2.2 := by
  dsimp only [epsX]
  intro hi hlen hkey hkm B F X N T cL cY cS hdp hun
  simp only [List.nil_append] at N
  have hln := hi.length
  k_with_none
  k_with "exec While Compare cons nil" => ((rename Fr _ _ _ _ => lF); (rename News _ _ _ _ => lN); (with_unfolding_all refine' ksw_while (σ := BS) (fun _ => (l, W.listOf its.toArray e) :: ex) (fun c => [(Str.ofString "lo", .int (c.lo : Int) c.tl), (Str.ofString "hi", .int (c.hi : Int) c.th)]) (fun _ => True) [Str.ofString "mid"] (fun c => c.lo ≤ c.hi ∧ c.hi ≤ ns.length ∧ bis (fun i => V (ns.getD i 0)) c.hi c.lo c.hi = bis (fun i => V (ns.getD i 0)) ns.length 0 ns.length) (fun c => c.hi - c.lo) ⟨0, ns.length, 298, _⟩ lF lN trivial ?kk ?kp ?_); (case kk => (intro p hp; simp only [List.mem_cons, List.not_mem_nil, or_false] at hp; rcases hp with rfl | rfl <;> rfl)); (case kp => exact ⟨Nat.zero_le _, Nat.le_refl _, rfl⟩))
  k_with "call ref" => ((k_dflt (refine' Spec.use0 (hkey (ns.getD _ 0) (getD_mem (by rename _ ∧ _ => hP'; have hP1 := hP'.1; have hP2 := hP'.2.1; rw [mid_cast, Int.toNat_natCast]; omega)) _) ?uB ?uF ?uX ?uN ?uT ?uk ?u1 ?u2 ?u3 ?ud ?uu ?ue ?uK; (case uB => k_asm); (case uF => k_asm); (case uX => k_asm); (case uN => k_asm); (case uT => k_asm); (case uk => first | exact rfl | assumption); (case u1 => assumption); (case u2 => assumption); (case u3 => assumption); (case ud => ktr_room); (case uu => ktr_units); (case ue => walk_at "sub"); k_whole)); (intro v' mu' new' h' tk' hR' F' N' ap'); (obtain ⟨rfl, rfl, _, rfl⟩ := hR'); (try dsimp only [List.nil_append, List.cons_append] at N'); clear ap'; (try k_sweep))
  k_steps
  all_goals (try simp only [mid_cast, Int.toNat_natCast] at *)
  · rename BS => c; rename Fr _ _ _ _ => F'; rename News _ _ _ _ => N'; rename _ ∧ _ => hP; obtain ⟨p1, p2, p3⟩ := hP
    refine' ksw_end (⟨(c.lo + c.hi) / 2 + 1, c.hi, _, c.th⟩ : BS) F' N' (fun _ h => h) trivial ?k1 (by walk_at "same") ⟨?k2, ?k3, ?k4⟩ ?k5
    case k1 => intro p hp; simp only [List.mem_cons, List.not_mem_nil, or_false] at hp; rcases hp with rfl | rfl <;> rfl
    case k2 => show (c.lo + c.hi) / 2 + 1 ≤ c.hi; omega
    case k3 => exact p2
    case k4 => exact (bis_right (p := fun i => V (ns.getD i 0)) (lo := c.lo) (hi := c.hi) (by omega) (b2i_f (by assumption))).trans p3
    case k5 => show c.hi - ((c.lo + c.hi) / 2 + 1) < c.hi - c.lo; omega
  · rename BS => c; rename Fr _ _ _ _ => F'; rename News _ _ _ _ => N'; rename _ ∧ _ => hP; obtain ⟨p1, p2, p3⟩ := hP
    refine' ksw_end (⟨c.lo, (c.lo + c.hi) / 2, c.tl, _⟩ : BS) F' N' (fun _ h => h) trivial ?k1 (by walk_at "same") ⟨?k2, ?k3, ?k4⟩ ?k5
    case k1 => intro p hp; simp only [List.mem_cons, List.not_mem_nil, or_false] at hp; rcases hp with rfl | rfl <;> rfl
    case k2 => show c.lo ≤ (c.lo + c.hi) / 2; omega
    case k3 => show (c.lo + c.hi) / 2 ≤ ns.length; omega
    case k4 => exact Eq.trans (bis_fuel _ ((c.lo + c.hi) / 2) c.hi c.lo ((c.lo + c.hi) / 2) (by omega) (by omega)) ((bis_left (by omega) (b2i_t (by assumption))).trans p3)
    case k5 => show (c.lo + c.hi) / 2 - c.lo < c.hi - c.lo; omega
  · rename BS => c; rename Fr _ _ _ _ => F'; rename News _ _ _ _ => N'; rename _ ∧ _ => hP; obtain ⟨p1, p2, p3⟩ := hP
    refine Fin.intro F' N' [] [] (fun _ h => h) rfl (by intro _ _ _ h; cases h) ⟨rfl, rfl, c.tl, congrArg (fun k : Nat => Value.int (k : Int) c.tl) ?_⟩
    rw [← p3]
    have e : c.lo = c.hi := by omega
    rw [← e]
    exact bis_fuel _ 0 _ _ _ (by omega) (by omega)
end bisL_spec
theorem bisL_spec {w : World} {z : Env0} {nd : Nat} {nu : Nat} (l : Nat) (kf : Nat) (its : List Value) (ns : List Int) (e : Nat) (ex : Led) (V : Int → Bool) (hi : IntsAre its ns) (hlen : ns.length ≤ 8) (hkey : KeyOk w z nd nu kf ns ex (fun n _ => .bool (V n))) : Spec w z (nd + 1) (nu + 3) (.ref 90) [.ref l, .bool true] [(Str.ofString "key", .ref kf)] [] ((l, W.listOf its.toArray e) :: ex)
    (fun mu' new v => mu' = [] ∧ new = [] ∧ ∃ t, v = .int ((bis (fun i => V (ns.getD i 0)) ns.length 0 ns.length : Nat) : Int) t) := bisL_spec.epsX.2 (fun w z nd nu l kf its ns e ex V oc od fd sl dp un gd outer A₀ base g L h₁ s tk => Pk.all (T := bisL_spec.epsT) (ne := bisL_spec.eN) (Q := bisL_spec.epsQ) (by with_unfolding_all exact bisL_spec.eC) (w, z, nd, nu, l, kf, its, ns, e, ex, V, oc, od, fd, sl, dp, un, gd, outer, A₀, base, g, L, h₁, s, tk)) w z nd nu l kf its ns e ex V hi hlen hkey
end
section
section
variable {prog : Program} {w : World} {A : Around} {E : Value → Shared → Prop} {s : Shared} {h₀ : Heap} {L : Addr} {news : Led} {Q : Value → Shared → Prop}
theorem list_item {value slice : PySem.Expr} {l : Addr} {its : List Value} {ns : List Int} {e : Nat} {k : Int} {u : Tok} (N : News h₀ L s.heap news) (hm : (l, W.listOf its.toArray e) ∈ news) (hi : IntsAre its ns) (h0 : 0 ≤ k) (h1 : k < ns.length) (hl : ns.length ≤ 1024)
    (h : ∀ t, Q (.int (ns.getD k.toNat 0) t) s)
    (hs : subscripted slice false (.ref l) (.int k u) = operate [.ref l, .int k u] (getItem (.ref l) (.int k u)) := by with_unfolding_all rfl) (hg : ∀ r, letTemporaryGo value (.ref l) r = pure () := by intro _; with_unfolding_all rfl) :
    wpAny (model prog w) A (subscriptTail value slice (.ref l) (.int k u)) Q E s :=
  item_list_ints (News.isList N hm) hi h0 h1 (by omega) h hs hg
end
local macro_rules | `(tactic| walk_at "subscriptTail Name Call ref int") => `(tactic| (k_here; (k_dflt (refine' list_item ?N ?m ?i ?a ?b ?c ?_; (case N => k_asm); (case m => k_mem); (case i => assumption); (case a => first | omega | assumption); (case b => first | assumption | omega | (k_extra "below")); (case c => first | omega | assumption); k_whole)); intro t'))
noncomputable def leastAt (ns : List Int) (mk : Int) : Nat := bis (fun i => Builtin.bitAnd (ns.getD i 0) mk == mk) ns.length 0 ns.length
section
variable {w : World} {z : Env0} {nd nu : Nat} {l kf : Nat} {its : List Value} {ns : List Int} {e : Nat} {V : Int → Bool} {dp un : Nat} {gd : Option (List Code)} {cn : Str} {cs : Scope} {a : Addr} {ccd : Value} {cl : List (Str × Addr)} {outer : List Env} {A₀ : Around}
  {base h₀ : Heap} {L : Addr} {m : Str → Option Value} {s : Shared} {Q E : Value → Shared → Prop} {all : Led}
theorem bisL_use (B : Below A₀ base outer h₀) (F : Fr h₀ L s.heap m) (X : (hd.heap_1 w.params).In h₀) (N : News h₀ L s.heap all) (T : Top z.p z.loose z.mean z.mg z.mb h₀) (hk : cs.kind = .function)
    (c1 : CodeHd base 166 162) (c2 : CodeHd base 145 141) (c3 : CodeHd base 138 134) (hm : (l, W.listOf its.toArray e) ∈ all) (hi : IntsAre its ns) (hlen : ns.length ≤ 8) (hkey : KeyOk w z nd nu kf ns all (fun n _ => .bool (V n)))
    (hd : dp + (nd + 1) < recursionLimit) (hu : un + (nu + 3) < cLine)
    (k : ∀ (t : Tok) (h' : Heap) (tk' : Nat), Fr h₀ L h' m → News h₀ L h' all → Q (.int ((bis (fun i => V (ns.getD i 0)) ns.length 0 ns.length : Nat) : Int) t) { s with heap := h', toks := tk' }) :
    wpAny (model PySem.Challenge.rw_wf0038_01.prog w) (ktrTop dp un gd cn cs L a ccd cl outer) (call (.ref 90) [.ref l, .bool true] [(Str.ofString "key", .ref kf)]) Q E s := by
  refine Spec.use0 (bisL_spec l kf its ns e all V hi hlen hkey) B F X N T hk c1 c2 c3 hd hu (fun p hp => ?_) (fun v mu' new h' tk' hR F' N' _ => ?_)
  · rcases List.mem_cons.mp hp with rfl | hp
    · exact hm
    · exact hp
  · obtain ⟨rfl, rfl, t, rfl⟩ := hR
    exact k t h' tk' F' N'
end
namespace least_hot
noncomputable def epsX : { P : World → Env0 → Nat → (List Value) → (List Int) → Nat → Int → Tok → Nat → Obj → (Array Value) → Tok → Nat → Nat → (Option (List Code)) → (List Env) → Around → Heap → Heap → Addr → Heap → Shared → Nat → Obj → Prop // (∀ w z l its ns e mk u c' oc ovs qt dp un gd outer A₀ base g L h₁ s tk co0, P w z l its ns e mk u c' oc ovs qt dp un gd outer A₀ base g L h₁ s tk co0) → ∀ (w : World) (z : Env0) (l : Nat) (its : List Value) (ns : List Int) (e : Nat) (mk : Int) (u : Tok) (c' : Nat) (oc : Obj) (ovs : Array Value) (qt : Tok) (hi : IntsAre its ns) (hlen : ns.length ≤ 8) (hix : leastAt ns mk < ns.length) (hd1 : oc.data = .fields ovs) (hd2 : ovs[1]? = some (.str ((Str.ofString "_law_least" ++ Str.ofString ".<locals>.") ++ Str.ofString "<lambda>") qt)), Spec w z 10 60 (.ref 167) [.ref l, .int mk u] [] [] [(l, W.listOf its.toArray e), (162, tabObj #[rawInt 118, rawInt 48, .ref c']), (c', oc)]
    (fun mu' new v => mu' = [] ∧ new = [] ∧ ∃ t, v = .int (ns.getD (leastAt ns mk) 0) t) } := ⟨_, by
  intro h_eps w z l its ns e mk u c' oc ovs qt hi hlen hix hd1 hd2
  (k_dflt (refine' spec_defC (binds := [(Str.ofString "fronts", .ref l), (Str.ofString "mask", .int mk u)]) ?ho ?hcd ?hb ?hl ?hn ?h ?c2 ?c3 ?c4; (case ho => k_is); (case hcd => k_is); (case hb => intro s' X'; first | exact BindsTo.of_eq rfl | exact binds_K X' rfl (by k_is) rfl rfl rfl); (case hl => exact rfl); (case hn => decide +kernel); (case c2 => exact rfl); (case c3 => exact rfl); (case c4 => exact rfl)); (intro dp un gd outer A₀ base g L h₁ s tk cells B F X N Y T C hdp hun l1; obtain ⟨cL, cY, cS⟩ := C; (try dsimp only [List.nil_append, List.cons_append] at l1); (try k_lt l1); (revert N; refine celim1 Y ?_; intro co0 cd0 N); clear Y; replace cd0 : co0.data = Data.cell (some (.int mk u)) := cd0; replace F : Fr g L h₁ (kstB (fun _ => none) [(Str.ofString "fronts", .ref l)]) := F; (try dsimp only [List.nil_append, List.cons_append] at N)))
  revert cd0; revert l1; revert hun; revert hdp; revert cS; revert cY; revert cL; revert T; revert N; revert X; revert F; revert B; revert hd2; revert hd1; revert hix; revert hlen; revert hi
  exact h_eps w z l its ns e mk u c' oc ovs qt dp un gd outer A₀ base g L h₁ s tk co0⟩
noncomputable abbrev epsT : Type := World × Env0 × Nat × (List Value) × (List Int) × Nat × Int × Tok × Nat × Obj × (Array Value) × Tok × Nat × Nat × (Option (List Code)) × (List Env) × Around × Heap × Heap × Addr × Heap × Shared × Nat × Obj
noncomputable abbrev epsQ : epsT → Prop := fun d => epsX.1 d.1 d.2.1 d.2.2.1 d.2.2.2.1 d.2.2.2.2.1 d.2.2.2.2.2.1 d.2.2.2.2.2.2.1 d.2.2.2.2.2.2.2.1 d.2.2.2.2.2.2.2.2.1 d.2.2.2.2.2.2.2.2.2.1 d.2.2.2.2.2.2.2.2.2.2.1 d.2.2.2.2.2.2.2.2.2.2.2.1 d.2.2.2.2.2.2.2.2.2.2.2.2.1 d.2.2.2.2.2.2.2.2.2.2.2.2.2.1 d.2.2.2.2.2.2.2.2.2.2.2.2.2.2.1 d.2.2.2.2.2.2.2.2.2.2.2.2.2.2.2.1 d.2.2.2.2.2.2.2.2.2.2.2.2.2.2.2.2.1 d.2.2.2.2.2.2.2.2.2.2.2.2.2.2.2.2.2.1 d.2.2.2.2.2.2.2.2.2.2.2.2.2.2.2.2.2.2.1 d.2.2.2.2.2.2.2.2.2.2.2.2.2.2.2.2.2.2.2.1 d.2.2.2.2.2.2.2.2.2.2.2.2.2.2.2.2.2.2.2.2.1 d.2.2.2.2.2.2.2.2.2.2.2.2.2.2.2.2.2.2.2.2.2.1 d.2.2.2.2.2.2.2.2.2.2.2.2.2.2.2.2.2.2.2.2.2.2.1 d.2.2.2.2.2.2.2.2.2.2.2.2.2.2.2.2.2.2.2.2.2.2.2
theorem eN : Nonempty epsT := by walk_at "ne_all"
@[irreducible] noncomputable def eK : epsT := Pk epsT eN epsQ
@[irreducible] noncomputable def mk := eK.2.2.2.2.2.2.1
@[irreducible] noncomputable def dp := eK.2.2.2.2.2.2.2.2.2.2.2.2.1
@[irreducible] noncomputable def un := eK.2.2.2.2.2.2.2.2.2.2.2.2.2.1
@[irreducible] noncomputable def gd := eK.2.2.2.2.2.2.2.2.2.2.2.2.2.2.1
@[irreducible] noncomputable def outer := eK.2.2.2.2.2.2.2.2.2.2.2.2.2.2.2.1
@[irreducible] noncomputable def A₀ := eK.2.2.2.2.2.2.2.2.2.2.2.2.2.2.2.2.1
@[irreducible] noncomputable def base := eK.2.2.2.2.2.2.2.2.2.2.2.2.2.2.2.2.2.1
@[irreducible] noncomputable def g := eK.2.2.2.2.2.2.2.2.2.2.2.2.2.2.2.2.2.2.1
@[irreducible] noncomputable def L := eK.2.2.2.2.2.2.2.2.2.2.2.2.2.2.2.2.2.2.2.1
@[irreducible] noncomputable def h₁ := eK.2.2.2.2.2.2.2.2.2.2.2.2.2.2.2.2.2.2.2.2.1
@[irreducible] noncomputable def s := eK.2.2.2.2.2.2.2.2.2.2.2.2.2.2.2.2.2.2.2.2.2.1
@[irreducible] noncomputable def tk := eK.2.2.2.2.2.2.2.2.2.2.2.2.2.2.2.2.2.2.2.2.2.2.1
theorem eC : epsX.1 eK.1 eK.2.1 eK.2.2.1 eK.2.2.2.1 eK.2.2.2.2.1 eK.2.2.2.2.2.1 mk eK.2.2.2.2.2.2.2.1 eK.2.2.2.2.2.2.2.2.1 eK.2.2.2.2.2.2.2.2.2.1 eK.2.2.2.2.2.2.2.2.2.2.1 eK.2.2.2.2.2.2.2.2.2.2.2.1 dp un gd outer A₀ base g L h₁ s tk eK.2.2.2.2.2.2.2.2.2.2.2.2.2.2.2.2.2.2.2.2.2.2.2 := by
  dsimp only [epsX]
  intro hi hlen hix hd1 hd2 B F X N T cL cY cS hdp hun l1 cd0
  have hln := hi.length
  k_with_none
  k_with "mycall" => (k_dflt (refine' bisL_use (nd := 5) (nu := 20) (V := fun n => Builtin.bitAnd n mk == mk) ?B ?F ?X ?N ?T ?hk ?c1 ?c2 ?c3 ?hm ?hi ?hlen ?hkey ?hd ?hu ?k; (case B => k_asm); (case F => k_asm); (case X => k_asm); (case N => k_asm); (case T => k_asm); (case hk => exact rfl); (case c1 => assumption); (case c2 => assumption); (case c3 => assumption); (case hm => k_mem); (case hi => assumption); (case hlen => assumption); (case hd => ktr_room); (case hu => ktr_units)))
  k_with "KeyOk" => (refine ⟨⟨_, _, _, _, by k_mem⟩, fun n hn t => ?_⟩; (k_dflt (refine' spec_lam (nd := 4) (nu := 17) [(Str.ofString "front", .int n t)] ?hf ?hc ?hd1 ?hd2 ?hb ?hl ?h ?c2 ?c3 ?c4 ?c5; (case hf => k_mem); (case hc => k_mem); (case hd1 => assumption); (case hd2 => assumption); (case hb => exact rfl); (case c5 => decide); (case hl => exact locs rfl); (case c2 => exact rfl); (case c3 => exact rfl); (case c4 => exact rfl))); (intro dp un gd outer A₀ base g L h₁ s tk B F X N T C hdp hun; obtain ⟨cL, cY, cS⟩ := C; simp only [List.nil_append] at N))
  k_with "below" => (exact Int.ofNat_lt.mpr hix)
  k_steps
  all_goals (first | exact Fin.intro (by k_asm) (by k_asm) [] [] (by k_sub) rfl (by intro _ _ _ h; cases h) ⟨rfl, rfl, (0 : Tok), rfl⟩ | exact Fin.intro (by k_asm) (by k_asm) [] [] (by k_sub) rfl (by intro _ _ _ h; cases h) ⟨rfl, rfl, _, rfl⟩)
end least_hot
theorem least_hot {w : World} {z : Env0} (l : Nat) (its : List Value) (ns : List Int) (e : Nat) (mk : Int) (u : Tok) (c' : Nat) (oc : Obj) (ovs : Array Value) (qt : Tok) (hi : IntsAre its ns) (hlen : ns.length ≤ 8) (hix : leastAt ns mk < ns.length) (hd1 : oc.data = .fields ovs) (hd2 : ovs[1]? = some (.str ((Str.ofString "_law_least" ++ Str.ofString ".<locals>.") ++ Str.ofString "<lambda>") qt)) : Spec w z 10 60 (.ref 167) [.ref l, .int mk u] [] [] [(l, W.listOf its.toArray e), (162, tabObj #[rawInt 118, rawInt 48, .ref c']), (c', oc)]
    (fun mu' new v => mu' = [] ∧ new = [] ∧ ∃ t, v = .int (ns.getD (leastAt ns mk) 0) t) := least_hot.epsX.2 (fun w z l its ns e mk u c' oc ovs qt dp un gd outer A₀ base g L h₁ s tk co0 => Pk.all (T := least_hot.epsT) (ne := least_hot.eN) (Q := least_hot.epsQ) (by with_unfolding_all exact least_hot.eC) (w, z, l, its, ns, e, mk, u, c', oc, ovs, qt, dp, un, gd, outer, A₀, base, g, L, h₁, s, tk, co0)) w z l its ns e mk u c' oc ovs qt hi hlen hix hd1 hd2
end
local macro_rules | `(tactic| walk_at "subscriptTail Name Call ref int") => `(tactic| (k_here; (k_dflt (refine' list_item ?N ?m ?i ?a ?b ?c ?_; (case N => k_asm); (case m => k_mem); (case i => assumption); (case a => first | with_reducible exact zn _ | omega | assumption); (case b => first | assumption | with_reducible exact zl (by assumption) (by assumption) | omega | (k_extra "below")); (case c => first | with_reducible exact zf (by assumption) (by with_unfolding_all decide) | omega | assumption); k_whole)); intro t'))
local macro_rules | `(tactic| size_fits) => `(tactic| assumption)
section
theorem all_nil {P : Addr × Obj → Prop} : ∀ p ∈ ([] : Led), P p := fun _ h => by cases h
theorem all_cons {P : Addr × Obj → Prop} {x : Addr × Obj} {l : Led} : (∀ p ∈ x :: l, P p) ↔ P x ∧ ∀ p ∈ l, P p := List.forall_mem_cons
theorem News.one {h₀ h : Heap} {L : Addr} {l : Led} (N : News h₀ L h l) {p q : Addr × Obj} (hp : p ∈ l) (hq : q ∈ l) (e : p.1 = q.1) : p.2 = q.2 := by
  have h1 := (N p hp).1
  rw [e, (N q hq).1] at h1
  exact (Option.some.inj h1).symm
namespace least_cold
noncomputable def epsX : { P : World → Env0 → Nat → (List Value) → (List Int) → Nat → Int → Tok → Nat → Nat → (Option (List Code)) → (List Env) → Around → Heap → Heap → Addr → Heap → Shared → Nat → Obj → Prop // (∀ w z l its ns e mk u dp un gd outer A₀ base g L h₁ s tk co0, P w z l its ns e mk u dp un gd outer A₀ base g L h₁ s tk co0) → ∀ (w : World) (z : Env0) (l : Nat) (its : List Value) (ns : List Int) (e : Nat) (mk : Int) (u : Tok) (hi : IntsAre its ns) (hlen : ns.length ≤ 8) (hix : leastAt ns mk < ns.length), Spec w z 10 60 (.ref 167) [.ref l, .int mk u] [] [(162, tabObj #[])] [(l, W.listOf its.toArray e)]
    (fun mu' new v => ∃ c' oc ovs qt t, mu' = [(162, tabObj #[rawInt 118, rawInt 48, .ref c'])] ∧ new = [(c', oc)] ∧ oc.data = .fields ovs ∧ ovs[1]? = some (.str ((Str.ofString "_law_least" ++ Str.ofString ".<locals>.") ++ Str.ofString "<lambda>") qt) ∧ v = .int (ns.getD (leastAt ns mk) 0) t) } := ⟨_, by
  intro h_eps w z l its ns e mk u hi hlen hix
  (k_dflt (refine' spec_defC (binds := [(Str.ofString "fronts", .ref l), (Str.ofString "mask", .int mk u)]) ?ho ?hcd ?hb ?hl ?hn ?h ?c2 ?c3 ?c4; (case ho => k_is); (case hcd => k_is); (case hb => intro s' X'; first | exact BindsTo.of_eq rfl | exact binds_K X' rfl (by k_is) rfl rfl rfl); (case hl => exact rfl); (case hn => decide +kernel); (case c2 => exact rfl); (case c3 => exact rfl); (case c4 => exact rfl)); (intro dp un gd outer A₀ base g L h₁ s tk cells B F X N Y T C hdp hun l1; obtain ⟨cL, cY, cS⟩ := C; (try dsimp only [List.nil_append, List.cons_append] at l1); (try k_lt l1); (revert N; refine celim1 Y ?_; intro co0 cd0 N); clear Y; replace cd0 : co0.data = Data.cell (some (.int mk u)) := cd0; replace F : Fr g L h₁ (kstB (fun _ => none) [(Str.ofString "fronts", .ref l)]) := F; (try dsimp only [List.nil_append, List.cons_append] at N)))
  revert cd0; revert l1; revert hun; revert hdp; revert cS; revert cY; revert cL; revert T; revert N; revert X; revert F; revert B; revert hix; revert hlen; revert hi
  exact h_eps w z l its ns e mk u dp un gd outer A₀ base g L h₁ s tk co0⟩
noncomputable abbrev epsT : Type := World × Env0 × Nat × (List Value) × (List Int) × Nat × Int × Tok × Nat × Nat × (Option (List Code)) × (List Env) × Around × Heap × Heap × Addr × Heap × Shared × Nat × Obj
noncomputable abbrev epsQ : epsT → Prop := fun d => epsX.1 d.1 d.2.1 d.2.2.1 d.2.2.2.1 d.2.2.2.2.1 d.2.2.2.2.2.1 d.2.2.2.2.2.2.1 d.2.2.2.2.2.2.2.1 d.2.2.2.2.2.2.2.2.1 d.2.2.2.2.2.2.2.2.2.1 d.2.2.2.2.2.2.2.2.2.2.1 d.2.2.2.2.2.2.2.2.2.2.2.1 d.2.2.2.2.2.2.2.2.2.2.2.2.1 d.2.2.2.2.2.2.2.2.2.2.2.2.2.1 d.2.2.2.2.2.2.2.2.2.2.2.2.2.2.1 d.2.2.2.2.2.2.2.2.2.2.2.2.2.2.2.1 d.2.2.2.2.2.2.2.2.2.2.2.2.2.2.2.2.1 d.2.2.2.2.2.2.2.2.2.2.2.2.2.2.2.2.2.1 d.2.2.2.2.2.2.2.2.2.2.2.2.2.2.2.2.2.2.1 d.2.2.2.2.2.2.2.2.2.2.2.2.2.2.2.2.2.2.2
theorem eN : Nonempty epsT := by walk_at "ne_all"
@[irreducible] noncomputable def eK : epsT := Pk epsT eN epsQ
@[irreducible] noncomputable def l := eK.2.2.1
@[irreducible] noncomputable def e := eK.2.2.2.2.2.1
@[irreducible] noncomputable def mk := eK.2.2.2.2.2.2.1
@[irreducible] noncomputable def dp := eK.2.2.2.2.2.2.2.2.1
@[irreducible] noncomputable def un := eK.2.2.2.2.2.2.2.2.2.1
@[irreducible] noncomputable def gd := eK.2.2.2.2.2.2.2.2.2.2.1
@[irreducible] noncomputable def outer := eK.2.2.2.2.2.2.2.2.2.2.2.1
@[irreducible] noncomputable def A₀ := eK.2.2.2.2.2.2.2.2.2.2.2.2.1
@[irreducible] noncomputable def base := eK.2.2.2.2.2.2.2.2.2.2.2.2.2.1
@[irreducible] noncomputable def g := eK.2.2.2.2.2.2.2.2.2.2.2.2.2.2.1
@[irreducible] noncomputable def L := eK.2.2.2.2.2.2.2.2.2.2.2.2.2.2.2.1
@[irreducible] noncomputable def h₁ := eK.2.2.2.2.2.2.2.2.2.2.2.2.2.2.2.2.1
@[irreducible] noncomputable def s := eK.2.2.2.2.2.2.2.2.2.2.2.2.2.2.2.2.2.1
@[irreducible] noncomputable def tk := eK.2.2.2.2.2.2.2.2.2.2.2.2.2.2.2.2.2.2.1
theorem eC : epsX.1 eK.1 eK.2.1 l eK.2.2.2.1 eK.2.2.2.2.1 e mk eK.2.2.2.2.2.2.2.1 dp un gd outer A₀ base g L h₁ s tk eK.2.2.2.2.2.2.2.2.2.2.2.2.2.2.2.2.2.2.2 := by
  dsimp only [epsX]
  intro hi hlen hix B F X N T cL cY cS hdp hun l1 cd0
  have hln := hi.length
  have hne : @Ne Nat 162 l := fun e => by
    have h := News.one N (p := (162, tabObj #[])) (q := (l, _)) (.tail _ (.head _)) (.tail _ (.tail _ (.head _))) e
    have h2 := congrArg Obj.cls h
    cases h2
  k_with_none
  k_with "mycall" => (k_dflt (refine' bisL_use (nd := 5) (nu := 20) (V := fun n => Builtin.bitAnd n mk == mk) ?B ?F ?X ?N ?T ?hk ?c1 ?c2 ?c3 ?hm ?hi ?hlen ?hkey ?hd ?hu ?k; (case B => k_asm); (case F => k_asm); (case X => k_asm); (case N => k_asm); (case T => k_asm); (case hk => exact rfl); (case c1 => assumption); (case c2 => assumption); (case c3 => assumption); (case hm => k_mem); (case hi => assumption); (case hlen => assumption); (case hd => ktr_room); (case hu => ktr_units)))
  k_with "KeyOk" => (refine ⟨⟨_, _, _, _, by k_mem⟩, fun n hn t => ?_⟩; (k_dflt (refine' spec_lam (nd := 4) (nu := 17) [(Str.ofString "front", .int n t)] ?hf ?hc ?hd1 ?hd2 ?hb ?hl ?h ?c2 ?c3 ?c4 ?c5; (case hf => k_mem); (case hc => k_mem); (case hd1 => first | assumption | rfl); (case hd2 => first | assumption | rfl); (case hb => exact rfl); (case c5 => decide); (case hl => exact locs rfl); (case c2 => exact rfl); (case c3 => exact rfl); (case c4 => exact rfl))); (intro dp un gd outer A₀ base g L h₁ s tk B F X N T C hdp hun; obtain ⟨cL, cY, cS⟩ := C; simp only [List.nil_append] at N))
  k_with "below" => (exact Int.ofNat_lt.mpr hix)
  k_steps
  · exact Fin.intro (by k_asm) (by k_asm) [] [] (by k_sub) rfl (by intro _ _ _ h; cases h) ⟨rfl, rfl, (0 : Tok), rfl⟩
  · rename News _ _ _ _ => N'
    rename Fr _ _ _ _ => F'
    rename _ = Data.fields _ => d1
    rename _[1]? = _ => d2
    rename _ + 1 < _ ∧ _ => q1
    refine Fin.intro F' N' [(162, tabObj #[rawInt 118, rawInt 48, .ref _])] [(_, _)] (all_cons.mpr ⟨.tail _ (.tail _ (.tail _ (.head _))), all_cons.mpr ⟨.tail _ (.head _), all_cons.mpr ⟨.tail _ (.tail _ (.tail _ (.tail _ (.head _)))), all_nil⟩⟩⟩) rfl ?_ ⟨_, _, _, _, _, rfl, rfl, d1, d2, rfl⟩
    intro p hp q hq
    rcases List.mem_singleton.mp hq with rfl
    rcases List.mem_cons.mp hp with rfl | hp
    · exact Nat.ne_of_lt q1.2.1
    rcases List.mem_cons.mp hp with rfl | hp
    · exact Nat.ne_of_lt q1.2.2
    cases hp
end least_cold
theorem least_cold {w : World} {z : Env0} (l : Nat) (its : List Value) (ns : List Int) (e : Nat) (mk : Int) (u : Tok) (hi : IntsAre its ns) (hlen : ns.length ≤ 8) (hix : leastAt ns mk < ns.length) : Spec w z 10 60 (.ref 167) [.ref l, .int mk u] [] [(162, tabObj #[])] [(l, W.listOf its.toArray e)]
    (fun mu' new v => ∃ c' oc ovs qt t, mu' = [(162, tabObj #[rawInt 118, rawInt 48, .ref c'])] ∧ new = [(c', oc)] ∧ oc.data = .fields ovs ∧ ovs[1]? = some (.str ((Str.ofString "_law_least" ++ Str.ofString ".<locals>.") ++ Str.ofString "<lambda>") qt) ∧ v = .int (ns.getD (leastAt ns mk) 0) t) := least_cold.epsX.2 (fun w z l its ns e mk u dp un gd outer A₀ base g L h₁ s tk co0 => Pk.all (T := least_cold.epsT) (ne := least_cold.eN) (Q := least_cold.epsQ) (by with_unfolding_all exact least_cold.eC) (w, z, l, its, ns, e, mk, u, dp, un, gd, outer, A₀, base, g, L, h₁, s, tk, co0)) w z l its ns e mk u hi hlen hix
end
section
noncomputable abbrev L4 (p0 p1 p2 p3 : Int) (t0 t1 t2 t3 : Tok) (e : Nat) : Obj := W.listOf [Value.int p0 t0, .int p1 t1, .int p2 t2, .int p3 t3].toArray e
noncomputable def frontsOf (p0 p1 p2 p3 : Int) : List Int :=
  let a := Builtin.bitOr 0 (2 ^ p0.toNat)
  let b := Builtin.bitOr a (2 ^ p1.toNat)
  let c := Builtin.bitOr b (2 ^ p2.toNat)
  [0, a, b, c, Builtin.bitOr c (2 ^ p3.toNat)]
namespace fronts_spec
noncomputable def epsX : { P : World → Env0 → Nat → Int → Int → Int → Int → Tok → Tok → Tok → Tok → Nat → Nat → Nat → (Option (List Code)) → (List Env) → Around → Heap → Heap → Addr → Heap → Shared → Nat → Prop // (∀ w z l p0 p1 p2 p3 t0 t1 t2 t3 e dp un gd outer A₀ base g L h₁ s tk, P w z l p0 p1 p2 p3 t0 t1 t2 t3 e dp un gd outer A₀ base g L h₁ s tk) → ∀ (w : World) (z : Env0) (l : Nat) (p0 : Int) (p1 : Int) (p2 : Int) (p3 : Int) (t0 : Tok) (t1 : Tok) (t2 : Tok) (t3 : Tok) (e : Nat) (h0 : 0 ≤ p0 ∧ p0 < 64) (h1 : 0 ≤ p1 ∧ p1 < 64) (h2 : 0 ≤ p2 ∧ p2 < 64) (h3 : 0 ≤ p3 ∧ p3 < 64), Spec w z 10 60 (.ref 160) [.ref l] [] [] [(l, L4 p0 p1 p2 p3 t0 t1 t2 t3 e)]
    (fun mu' new v => ∃ f its' e', mu' = [] ∧ new = [(f, W.listOf its'.toArray e')] ∧ IntsAre its' (frontsOf p0 p1 p2 p3) ∧ v = .ref f) } := ⟨_, by
  intro h_eps w z l p0 p1 p2 p3 t0 t1 t2 t3 e h0 h1 h2 h3
  (k_dflt (refine' spec_def [(Str.ofString "order", .ref l)] ?ho ?hcd ?hb ?hl ?h ?c2 ?c3 ?c4 ?c5; (case ho => k_is); (case hcd => k_is); (case hb => intro s' X'; first | exact BindsTo.of_eq rfl | exact binds_K X' rfl (by k_is) rfl rfl rfl); (case c5 => decide); (case hl => exact locs rfl); (case c2 => exact rfl); (case c3 => exact rfl); (case c4 => exact rfl)); (intro dp un gd outer A₀ base g L h₁ s tk B F X N T C hdp hun; obtain ⟨cL, cY, cS⟩ := C))
  revert hun; revert hdp; revert cS; revert cY; revert cL; revert T; revert N; revert X; revert F; revert B; revert h3; revert h2; revert h1; revert h0
  exact h_eps w z l p0 p1 p2 p3 t0 t1 t2 t3 e dp un gd outer A₀ base g L h₁ s tk⟩
noncomputable abbrev epsT : Type := World × Env0 × Nat × Int × Int × Int × Int × Tok × Tok × Tok × Tok × Nat × Nat × Nat × (Option (List Code)) × (List Env) × Around × Heap × Heap × Addr × Heap × Shared × Nat
noncomputable abbrev epsQ : epsT → Prop := fun d => epsX.1 d.1 d.2.1 d.2.2.1 d.2.2.2.1 d.2.2.2.2.1 d.2.2.2.2.2.1 d.2.2.2.2.2.2.1 d.2.2.2.2.2.2.2.1 d.2.2.2.2.2.2.2.2.1 d.2.2.2.2.2.2.2.2.2.1 d.2.2.2.2.2.2.2.2.2.2.1 d.2.2.2.2.2.2.2.2.2.2.2.1 d.2.2.2.2.2.2.2.2.2.2.2.2.1 d.2.2.2.2.2.2.2.2.2.2.2.2.2.1 d.2.2.2.2.2.2.2.2.2.2.2.2.2.2.1 d.2.2.2.2.2.2.2.2.2.2.2.2.2.2.2.1 d.2.2.2.2.2.2.2.2.2.2.2.2.2.2.2.2.1 d.2.2.2.2.2.2.2.2.2.2.2.2.2.2.2.2.2.1 d.2.2.2.2.2.2.2.2.2.2.2.2.2.2.2.2.2.2.1 d.2.2.2.2.2.2.2.2.2.2.2.2.2.2.2.2.2.2.2.1 d.2.2.2.2.2.2.2.2.2.2.2.2.2.2.2.2.2.2.2.2.1 d.2.2.2.2.2.2.2.2.2.2.2.2.2.2.2.2.2.2.2.2.2.1 d.2.2.2.2.2.2.2.2.2.2.2.2.2.2.2.2.2.2.2.2.2.2
theorem eN : Nonempty epsT := by walk_at "ne_all"
@[irreducible] noncomputable def eK : epsT := Pk epsT eN epsQ
theorem eC : epsX.1 eK.1 eK.2.1 eK.2.2.1 eK.2.2.2.1 eK.2.2.2.2.1 eK.2.2.2.2.2.1 eK.2.2.2.2.2.2.1 eK.2.2.2.2.2.2.2.1 eK.2.2.2.2.2.2.2.2.1 eK.2.2.2.2.2.2.2.2.2.1 eK.2.2.2.2.2.2.2.2.2.2.1 eK.2.2.2.2.2.2.2.2.2.2.2.1 eK.2.2.2.2.2.2.2.2.2.2.2.2.1 eK.2.2.2.2.2.2.2.2.2.2.2.2.2.1 eK.2.2.2.2.2.2.2.2.2.2.2.2.2.2.1 eK.2.2.2.2.2.2.2.2.2.2.2.2.2.2.2.1 eK.2.2.2.2.2.2.2.2.2.2.2.2.2.2.2.2.1 eK.2.2.2.2.2.2.2.2.2.2.2.2.2.2.2.2.2.1 eK.2.2.2.2.2.2.2.2.2.2.2.2.2.2.2.2.2.2.1 eK.2.2.2.2.2.2.2.2.2.2.2.2.2.2.2.2.2.2.2.1 eK.2.2.2.2.2.2.2.2.2.2.2.2.2.2.2.2.2.2.2.2.1 eK.2.2.2.2.2.2.2.2.2.2.2.2.2.2.2.2.2.2.2.2.2.1 eK.2.2.2.2.2.2.2.2.2.2.2.2.2.2.2.2.2.2.2.2.2.2 := by
  dsimp only [epsX]
  intro h0 h1 h2 h3 B F X N T cL cY cS hdp hun
  simp only [List.nil_append] at N
  obtain ⟨h0, h0'⟩ := h0
  obtain ⟨h1, h1'⟩ := h1
  obtain ⟨h2, h2'⟩ := h2
  obtain ⟨h3, h3'⟩ := h3
  k_with_none
  k_steps
  rename News _ _ _ _ => N'
  rename Fr _ _ _ _ => F'
  refine Fin.intro F' N' [] [(_, W.listOf [Value.int 0 _, .int _ _, .int _ _, .int _ _, .int _ _].toArray _)] (all_cons.mpr ⟨.head _, all_cons.mpr ⟨.tail _ (.head _), all_nil⟩⟩) rfl ?_ ⟨_, _, _, rfl, rfl, .cons _ _ (.cons _ _ (.cons _ _ (.cons _ _ (.cons _ _ .nil)))), rfl⟩
  intro p hp q hq
  rcases List.mem_singleton.mp hq with rfl
  rcases List.mem_singleton.mp hp with rfl
  exact Nat.ne_of_lt (by assumption)
end fronts_spec
theorem fronts_spec {w : World} {z : Env0} (l : Nat) (p0 : Int) (p1 : Int) (p2 : Int) (p3 : Int) (t0 : Tok) (t1 : Tok) (t2 : Tok) (t3 : Tok) (e : Nat) (h0 : 0 ≤ p0 ∧ p0 < 64) (h1 : 0 ≤ p1 ∧ p1 < 64) (h2 : 0 ≤ p2 ∧ p2 < 64) (h3 : 0 ≤ p3 ∧ p3 < 64) : Spec w z 10 60 (.ref 160) [.ref l] [] [] [(l, L4 p0 p1 p2 p3 t0 t1 t2 t3 e)]
    (fun mu' new v => ∃ f its' e', mu' = [] ∧ new = [(f, W.listOf its'.toArray e')] ∧ IntsAre its' (frontsOf p0 p1 p2 p3) ∧ v = .ref f) := fronts_spec.epsX.2 (fun w z l p0 p1 p2 p3 t0 t1 t2 t3 e dp un gd outer A₀ base g L h₁ s tk => Pk.all (T := fronts_spec.epsT) (ne := fronts_spec.eN) (Q := fronts_spec.epsQ) (by with_unfolding_all exact fronts_spec.eC) (w, z, l, p0, p1, p2, p3, t0, t1, t2, t3, e, dp, un, gd, outer, A₀, base, g, L, h₁, s, tk)) w z l p0 p1 p2 p3 t0 t1 t2 t3 e h0 h1 h2 h3
end
section
noncomputable def Stop (p : Prop) : Prop := p
theorem Stop.go {p : Prop} (h : Stop p) : p := h
theorem Stop.mk {p : Prop} (h : p) : Stop p := h
noncomputable def TabG (P : Nat) (ln cl : Int) (qual : Str) (ps : Array Value) (c' : Nat) (oc : Obj) : Prop :=
  (ps = #[] ∧ c' = P ∧ oc = tabObj #[]) ∨ (ps = #[rawInt ln, rawInt cl, .ref c'] ∧ @Ne Nat P c' ∧ ∃ ovs qt, oc.data = .fields ovs ∧ ovs[1]? = some (.str qual qt))
noncomputable abbrev TabL := TabG 162 118 48 ((Str.ofString "_law_least" ++ Str.ofString ".<locals>.") ++ Str.ofString "<lambda>")
noncomputable abbrev AwayOf (c' c'' : Nat) (rest : Led) : Prop := ∀ q ∈ rest, @Ne Nat q.1 c' → @Ne Nat q.1 c''
section
variable {w : World} {z : Env0} {l : Nat} {its : List Value} {ns : List Int} {e : Nat} {mk : Int} {u : Tok} {dp un : Nat} {gd : Option (List Code)} {cn : Str} {cs : Scope} {a : Addr} {ccd : Value} {cl : List (Str × Addr)} {outer : List Env} {A₀ : Around}
  {base h₀ : Heap} {L : Addr} {m : Str → Option Value} {s : Shared} {Q E : Value → Shared → Prop} {rest : Led} {ps : Array Value} {c' : Nat} {oc : Obj}
theorem least_use (B : Below A₀ base outer h₀) (F : Fr h₀ L s.heap m) (X : (hd.heap_1 w.params).In h₀) (N : News h₀ L s.heap ((162, tabObj ps) :: (c', oc) :: rest)) (T : Top z.p z.loose z.mean z.mg z.mb h₀) (hk : cs.kind = .function)
    (c1 : CodeHd base 166 162) (c2 : CodeHd base 145 141) (c3 : CodeHd base 138 134) (Tb : TabL ps c' oc) (hm : (l, W.listOf its.toArray e) ∈ rest) (hi : IntsAre its ns) (hlen : ns.length ≤ 8) (hix : leastAt ns mk < ns.length) (hoff : ∀ p ∈ rest, @Ne Nat p.1 162)
    (hd : dp + 10 < recursionLimit) (hu : un + 60 < cLine)
    (k : ∀ (t : Tok) (ps' : Array Value) (c'' : Nat) (oc' : Obj) (h' : Heap) (tk' : Nat), TabL ps' c'' oc' → AwayOf c' c'' rest → Fr h₀ L h' m → News h₀ L h' ((162, tabObj ps') :: (c'', oc') :: rest) → Q (.int (ns.getD (leastAt ns mk) 0) t) { s with heap := h', toks := tk' }) :
    wpAny (model PySem.Challenge.rw_wf0038_01.prog w) (ktrTop dp un gd cn cs L a ccd cl outer) (call (.ref 167) [.ref l, .int mk u] []) Q E s := by
  rcases Tb with ⟨rfl, rfl, rfl⟩ | ⟨rfl, hPc, ovs, qt, d1, d2⟩
  · refine Spec.use (mu := [(162, tabObj #[])]) (led := rest) (least_cold l its ns e mk u hi hlen hix) B F X N T hk c1 c2 c3 hd hu (fun p hp => ?_) (fun p hp => ?_) (fun p hp q hq => ?_) (fun v mu' new h' tk' hR F' N' ap => ?_)
    · rcases List.mem_cons.mp hp with rfl | hp
      · exact .head _
      · exact .tail _ (.tail _ hp)
    · rcases List.mem_singleton.mp hp with rfl
      exact hm
    · rcases List.mem_singleton.mp hq with rfl
      exact hoff p hp
    · obtain ⟨c2, oc2, ovs, qt, t, rfl, rfl, d1, d2, rfl⟩ := hR
      exact k t _ c2 oc2 h' tk' (Or.inr ⟨rfl, ap _ (List.mem_append_left _ (.head _)) _ (.head _), ovs, qt, d1, d2⟩) (fun q hq _ => ap q (List.mem_append_right _ hq) _ (.head _)) F' N'
  · refine Spec.use0 (least_hot l its ns e mk u c' oc ovs qt hi hlen hix d1 d2) B F X N T hk c1 c2 c3 hd hu (fun p hp => ?_) (fun v mu' new h' tk' hR F' N' _ => ?_)
    · rcases List.mem_cons.mp hp with rfl | hp
      · exact .tail _ (.tail _ hm)
      rcases List.mem_cons.mp hp with rfl | hp
      · exact .head _
      rcases List.mem_singleton.mp hp with rfl
      exact .tail _ (.head _)
    · obtain ⟨rfl, rfl, t, rfl⟩ := hR
      exact k t _ c' oc h' tk' (Or.inr ⟨rfl, hPc, ovs, qt, d1, d2⟩) (fun _ _ h => h) F' N'
end
section
variable {prog : Program} {w : World} {A : Around} {E : Value → Shared → Prop} {s : Shared} {env : Env} {h₀ : Heap} {x : Str} {body : List Stmt} {Q : Flow → Shared → Prop} {σ : Type}
noncomputable def GEnd (h₀ : Heap) (L : Addr) (s₁ : Shared) (I : Addr) (it : Obj) (Ld : σ → Led) (ps : σ → List (Str × Value)) (P : σ → Prop) (s₂ : Shared) : Prop :=
  ∃ h' tk m' c', s₂ = { s₁ with heap := h', toks := tk } ∧ Fr h₀ L h' m' ∧ News h₀ L h' ((I, it) :: Ld c') ∧ (∀ p ∈ Ld c', p.1 ≠ I) ∧ (∀ p ∈ ps c', m' p.1 = some p.2) ∧ P c'
theorem GEnd.intro {L : Addr} {I : Addr} {it : Obj} {Ld : σ → Led} {ps : σ → List (Str × Value)} {P : σ → Prop} {s₁ : Shared} {h' : Heap} {tk : Nat} {m' : Str → Option Value} {all : Led} (c' : σ) (F : Fr h₀ L h' m') (N : News h₀ L h' all)
    (sub : ∀ p ∈ (I, it) :: Ld c', p ∈ all) (off : ∀ p ∈ Ld c', @Ne Nat p.1 I) (hk : ∀ p ∈ ps c', m' p.1 = some p.2) (hp : P c') : GEnd h₀ L s₁ I it Ld ps P { s₁ with heap := h', toks := tk } :=
  ⟨h', tk, m', c', rfl, F, fun p hp => N p (sub p hp), off, hk, hp⟩
theorem rangeRest_inv {I : Addr} {a : Int} {n : Nat} (Ld : σ → Led) (ps : σ → List (Str × Value)) (P : Nat → σ → Prop)
    (turn : ∀ (i : Nat) (c : σ) (u : Str → Option Value) (t : Tok) (h : Heap) (tk : Nat), i < n → P i c → Fr h₀ env.locals h (fun y => if y = x then some (.int (a + (i : Int)) t) else kstB u (ps c) y) →
      News h₀ env.locals h ((I, itR (a + ((i + 1 : Nat) : Int)) ((n : Int) - ((i + 1 : Nat) : Int))) :: Ld c) →
      wpAny (model prog w) A (execs body env) (fun f s' => match f with | .ret v => Q (.ret v) s' | .brk => Q .next s' | _ => GEnd h₀ env.locals { s with heap := h, toks := tk } I (itR (a + ((i + 1 : Nat) : Int)) ((n : Int) - ((i + 1 : Nat) : Int))) Ld ps (P (i + 1)) s') E { s with heap := h, toks := tk })
    (done : ∀ (c : σ) (u : Str → Option Value) (h : Heap) (tk : Nat), P n c → Fr h₀ env.locals h (kstB u (ps c)) → News h₀ env.locals h (Ld c) → Q .next { s with heap := h, toks := tk }) :
    ∀ k i, i + k = n → ∀ (c : σ) (m : Str → Option Value), P i c → (∀ p ∈ ps c, m p.1 = some p.2) → RangeRest prog w A E h₀ env x body Q s I a n k i m (Ld c)
  | 0, i, hi, c, m, hP, hk => fun h tk F N => done c m h tk (by rw [← hi]; exact hP) (by rw [show kstB m (ps c) = m from funext fun z => kstB_eq hk fun _ => rfl]; exact F) N
  | k + 1, i, hi, c, m, hP, hk => fun t h tk F N => by
    refine wpAny_mono (turn i c m t h tk (by omega) hP (by rw [show kstB m (ps c) = m from funext fun z => kstB_eq hk fun _ => rfl]; exact F) N) (fun f s' hf => ?_) fun _ _ e => e
    cases f with
    | ret v => exact hf
    | brk => exact hf
    | cont =>
      obtain ⟨h', tk', m', c', e, F', N', off, hk', hp'⟩ := hf
      exact ⟨h', tk', m', Ld c', e, F', N', off, rangeRest_inv Ld ps P turn done k (i + 1) (by omega) c' m' hp' hk'⟩
    | next =>
      obtain ⟨h', tk', m', c', e, F', N', off, hk', hp'⟩ := hf
      exact ⟨h', tk', m', Ld c', e, F', N', off, rangeRest_inv Ld ps P turn done k (i + 1) (by omega) c' m' hp' hk'⟩
end
theorem rangeRest_sub {prog : Program} {w : World} {A : Around} {E : Value → Shared → Prop} {s : Shared} {env : Env} {h₀ : Heap} {x : Str} {body : List Stmt} {Q : Flow → Shared → Prop} {I : Addr} {a : Int} {n i : Nat} {m : Str → Option Value} {news' news : Led} (hs : ∀ p ∈ news', p ∈ news) :
    ∀ {k : Nat}, RangeRest prog w A E h₀ env x body Q s I a n k i m news' → RangeRest prog w A E h₀ env x body Q s I a n k i m news
  | 0, h => fun h' tk F N => h h' tk F (sub_news N hs)
  | k + 1, h => fun t h' tk F N => h t h' tk F (sub_news N fun p hp => by
      rcases List.mem_cons.mp hp with rfl | hp
      · exact .head _
      · exact .tail _ (hs p hp))
structure Fro where
  l : Nat
  its : List Value
  ns : List Int
  e : Nat
structure Fro.Ok (f : Fro) : Prop where
  i : IntsAre f.its f.ns
  len : f.ns.length ≤ 8
  ix : ∀ k : Nat, k < 16 → leastAt f.ns (0 + (k : Int)) < f.ns.length
noncomputable def closedAt (a b c : List Int) (i : Nat) : Int := Builtin.bitAnd (Builtin.bitAnd (a.getD (leastAt a (0 + (i : Int))) 0) (b.getD (leastAt b (0 + (i : Int))) 0)) (c.getD (leastAt c (0 + (i : Int))) 0)
noncomputable def closedOf (a b c : List Int) : List Int := (List.range 16).map (closedAt a b c)
structure CS where
  ps : Array Value
  c' : Nat
  oc : Obj
  its : List Value
  e : Nat
structure CSok (I cl : Nat) (a b c : List Int) (i : Nat) (s : CS) : Prop where
  tab : TabL s.ps s.c' s.oc
  ne : @Ne Nat I s.c'
  nl : @Ne Nat cl s.c'
  itz : IntsAre s.its ((List.range i).map (closedAt a b c))
namespace closed_spec
noncomputable def epsX : { P : World → Env0 → Fro → Fro → Fro → Nat → Nat → (Option (List Code)) → (List Env) → Around → Heap → Heap → Addr → Heap → Shared → Nat → Prop // (∀ w z f1 f2 f3 dp un gd outer A₀ base g L h₁ s tk, P w z f1 f2 f3 dp un gd outer A₀ base g L h₁ s tk) → ∀ (w : World) (z : Env0) (f1 : Fro) (f2 : Fro) (f3 : Fro) (o1 : f1.Ok) (o2 : f2.Ok) (o3 : f3.Ok), Spec w z 20 100 (.ref 174) [.ref f1.l, .ref f2.l, .ref f3.l] [] [(162, tabObj #[])] [(f1.l, W.listOf f1.its.toArray f1.e), (f2.l, W.listOf f2.its.toArray f2.e), (f3.l, W.listOf f3.its.toArray f3.e)]
    (fun mu' new v => ∃ tb f its' e', mu' = [(162, tabObj tb)] ∧ new = [(f, W.listOf its'.toArray e')] ∧ IntsAre its' (closedOf f1.ns f2.ns f3.ns) ∧ v = .ref f) } := ⟨_, by
  intro h_eps w z f1 f2 f3 o1 o2 o3
  (k_dflt (refine' spec_def [(Str.ofString "third", .ref f3.l), (Str.ofString "second", .ref f2.l), (Str.ofString "first", .ref f1.l)] ?ho ?hcd ?hb ?hl ?h ?c2 ?c3 ?c4 ?c5; (case ho => k_is); (case hcd => k_is); (case hb => intro s' X'; first | exact BindsTo.of_eq rfl | exact binds_K X' rfl (by k_is) rfl rfl rfl); (case c5 => decide); (case hl => exact locs rfl); (case c2 => exact rfl); (case c3 => exact rfl); (case c4 => exact rfl)); (intro dp un gd outer A₀ base g L h₁ s tk B F X N T C hdp hun; obtain ⟨cL, cY, cS⟩ := C))
  revert hun; revert hdp; revert cS; revert cY; revert cL; revert T; revert N; revert X; revert F; revert B; revert o3; revert o2; revert o1
  exact h_eps w z f1 f2 f3 dp un gd outer A₀ base g L h₁ s tk⟩
noncomputable abbrev epsT : Type := World × Env0 × Fro × Fro × Fro × Nat × Nat × (Option (List Code)) × (List Env) × Around × Heap × Heap × Addr × Heap × Shared × Nat
noncomputable abbrev epsQ : epsT → Prop := fun d => epsX.1 d.1 d.2.1 d.2.2.1 d.2.2.2.1 d.2.2.2.2.1 d.2.2.2.2.2.1 d.2.2.2.2.2.2.1 d.2.2.2.2.2.2.2.1 d.2.2.2.2.2.2.2.2.1 d.2.2.2.2.2.2.2.2.2.1 d.2.2.2.2.2.2.2.2.2.2.1 d.2.2.2.2.2.2.2.2.2.2.2.1 d.2.2.2.2.2.2.2.2.2.2.2.2.1 d.2.2.2.2.2.2.2.2.2.2.2.2.2.1 d.2.2.2.2.2.2.2.2.2.2.2.2.2.2.1 d.2.2.2.2.2.2.2.2.2.2.2.2.2.2.2
theorem eN : Nonempty epsT := by walk_at "ne_all"
@[irreducible] noncomputable def eK : epsT := Pk epsT eN epsQ
@[irreducible] noncomputable def f1 := eK.2.2.1
@[irreducible] noncomputable def f2 := eK.2.2.2.1
@[irreducible] noncomputable def f3 := eK.2.2.2.2.1
@[irreducible] noncomputable def tk := eK.2.2.2.2.2.2.2.2.2.2.2.2.2.2.2
theorem eC : epsX.1 eK.1 eK.2.1 f1 f2 f3 eK.2.2.2.2.2.1 eK.2.2.2.2.2.2.1 eK.2.2.2.2.2.2.2.1 eK.2.2.2.2.2.2.2.2.1 eK.2.2.2.2.2.2.2.2.2.1 eK.2.2.2.2.2.2.2.2.2.2.1 eK.2.2.2.2.2.2.2.2.2.2.2.1 eK.2.2.2.2.2.2.2.2.2.2.2.2.1 eK.2.2.2.2.2.2.2.2.2.2.2.2.2.1 eK.2.2.2.2.2.2.2.2.2.2.2.2.2.2.1 tk := by
  dsimp only [epsX]
  intro o1 o2 o3 B F X N T cL cY cS hdp hun
  dsimp only [List.nil_append, List.cons_append] at N
  have g1 : @Ne Nat f1.l 162 := fun e => by
    have h2 := congrArg Obj.cls (News.one N (p := (f1.l, _)) (q := (162, _)) (.tail _ (.head _)) (.head _) e)
    cases h2
  have g2 : @Ne Nat f2.l 162 := fun e => by
    have h2 := congrArg Obj.cls (News.one N (p := (f2.l, _)) (q := (162, _)) (.tail _ (.tail _ (.head _))) (.head _) e)
    cases h2
  have g3 : @Ne Nat f3.l 162 := fun e => by
    have h2 := congrArg Obj.cls (News.one N (p := (f3.l, _)) (q := (162, _)) (.tail _ (.tail _ (.tail _ (.head _)))) (.head _) e)
    cases h2
  k_with_none
  k_with "mycall" => (((with_reducible show wpAny _ _ (call (Value.ref 167) _ _) _ _ _); (rename CSok _ _ _ _ _ _ _ => hP); (k_dflt (refine' least_use (ns := Fro.ns _) (by k_asm) (by k_asm) (by k_asm) (by k_asm) (by k_asm) (by exact rfl) (by assumption) (by assumption) (by assumption) (by first | assumption | exact hP.tab) (by k_mem) (by first | exact o1.i | exact o2.i | exact o3.i) (by first | exact o1.len | exact o2.len | exact o3.len) (by first | exact o1.ix _ (by assumption) | exact o2.ix _ (by assumption) | exact o3.ix _ (by assumption)) (by (intro p hp; simp only [List.mem_cons, List.not_mem_nil, or_false] at hp; rcases hp with rfl | rfl | rfl | rfl | rfl <;> (show @Ne Nat _ _; k_ne))) (by ktr_room) (by ktr_units) ?_)); (intro t' ps' c'' oc' h' tk' Tb' Aw' F' N'; (k_dflt (have q1' : @Ne Nat I c'' := Aw' _ (.head _) (by first | exact hP.ne | assumption))); (k_dflt (have q2' : @Ne Nat cl c'' := Aw' _ (.tail _ (.head _)) (by first | exact hP.nl | assumption))))))
  k_with "pyIter ref" => ((with_reducible show wpAny _ _ (pyIter (Value.ref _)) _ _ _); refine Stop.go ?_)
  k_steps
  · refine Stop.mk ?_
    rename_i cl _ _ _ _ _ _ _ _ _ _ _ _ _ _
    ((rename Fr _ _ _ _ => lF'); (rename News _ _ _ _ => lN'); (rename IsRange _ _ _ _ _ _ _ _ => rgX); (with_unfolding_all refine' iter_rangeUnr (n := 16) (by rfl) rgX (by first | decide | rfl) (by first | decide | rfl) lF' lN' ?_); clear lF' lN'; intro I l1; (try k_lt l1); (refine' rangeRest_sub (news' := [(162, tabObj #[]), (162, tabObj #[]), (cl, W.listOf #[] 0), (f1.l, W.listOf f1.its.toArray f1.e), (f2.l, W.listOf f2.its.toArray f2.e), (f3.l, W.listOf f3.its.toArray f3.e)]) (all_cons.mpr ⟨.tail _ (.head _), all_cons.mpr ⟨.tail _ (.head _), all_cons.mpr ⟨.head _, all_cons.mpr ⟨.tail _ (.tail _ (.head _)), all_cons.mpr ⟨.tail _ (.tail _ (.tail _ (.head _))), all_cons.mpr ⟨.tail _ (.tail _ (.tail _ (.tail _ (.head _)))), all_nil⟩⟩⟩⟩⟩⟩) (rangeRest_inv (σ := CS) (fun c => [(162, tabObj c.ps), (c.c', c.oc), (cl, W.listOf c.its.toArray c.e), (f1.l, W.listOf f1.its.toArray f1.e), (f2.l, W.listOf f2.its.toArray f2.e), (f3.l, W.listOf f3.its.toArray f3.e)]) (fun _ => [(Str.ofString "third", .ref f3.l), (Str.ofString "second", .ref f2.l), (Str.ofString "first", .ref f1.l), (Str.ofString "closed", .ref cl)]) (CSok I cl f1.ns f2.ns f3.ns) ?turn ?done 16 0 rfl ⟨#[], 162, tabObj #[], [], 0⟩ _ ?p0 ?k0));  (case p0 => exact ⟨Or.inl ⟨rfl, rfl, rfl⟩, (show @Ne Nat I 162 by omega), (show @Ne Nat cl 162 by omega), .nil⟩); (case k0 => (intro p hp; simp only [List.mem_cons, List.not_mem_nil, or_false] at hp; rcases hp with rfl | rfl | rfl | rfl <;> rfl)); (case' turn => intro i c u t h tk hi hP F N; have hz : c.its.toArray.size ≤ sizeLine := (by have hz1 := hP.itz.length; rw [List.length_map, List.length_range] at hz1; rw [List.size_toArray, hz1, PySem.sizeLine_eq]; omega); replace N := sub_news N (l' := [(162, tabObj c.ps), (c.c', c.oc), (_, itR _ _), (cl, W.listOf c.its.toArray c.e), (f1.l, W.listOf f1.its.toArray f1.e), (f2.l, W.listOf f2.its.toArray f2.e), (f3.l, W.listOf f3.its.toArray f3.e)]) (all_cons.mpr ⟨.tail _ (.head _), all_cons.mpr ⟨.tail _ (.tail _ (.head _)), all_cons.mpr ⟨.head _, all_cons.mpr ⟨.tail _ (.tail _ (.tail _ (.head _))), fun _ h => .tail _ (.tail _ (.tail _ (.tail _ h)))⟩⟩⟩⟩)); (case' done => intro c u h tk hP F N))
    · rename CSok _ _ _ _ _ _ _ => hP
      k_steps
      show Fin _ _ _ _ _ _ _ _
      rename News _ _ _ _ => N'
      rename Fr _ _ _ _ => F'
      rename CS => c
      refine Fin.intro F' N' [(162, tabObj c.ps)] [(cl, W.listOf c.its.toArray c.e)] (all_cons.mpr ⟨.head _, all_cons.mpr ⟨.tail _ (.tail _ (.head _)), fun _ h => .tail _ (.tail _ (.tail _ h))⟩⟩) rfl ?_ ⟨_, _, _, _, rfl, rfl, hP.itz, rfl⟩
      intro p hp q hq
      rcases List.mem_singleton.mp hq with rfl
      simp only [List.cons_append, List.nil_append, List.mem_cons, List.not_mem_nil, or_false] at hp
      rcases hp with rfl | rfl | rfl | rfl <;> (show @Ne Nat _ _; k_ne)
    · k_steps
      rename News _ _ _ _ => N'
      rename Fr _ _ _ _ => F'
      rename TabL _ _ _ => T'
      rename @Ne Nat I _ => q1
      rename @Ne Nat cl _ => q2
      simp only [List.push_toArray] at N'
      show GEnd _ _ _ _ _ _ _ _ _
      refine GEnd.intro (⟨_, _, _, c.its ++ [.int _ _], c.e + 1⟩ : CS) F' N' (all_cons.mpr ⟨.tail _ (.tail _ (.head _)), all_cons.mpr ⟨.head _, all_cons.mpr ⟨.tail _ (.head _), all_cons.mpr ⟨.tail _ (.tail _ (.tail _ (.head _))), fun _ h => .tail _ (.tail _ (.tail _ (.tail _ h)))⟩⟩⟩⟩) ?_ ?_ ⟨T', q1, q2, ?_⟩
      · intro p hp
        simp only [List.mem_cons, List.not_mem_nil, or_false] at hp
        rcases hp with rfl | rfl | rfl | rfl | rfl | rfl <;> (show @Ne Nat _ _; first | omega | exact q1.symm)
      · intro p hp
        simp only [List.mem_cons, List.not_mem_nil, or_false] at hp
        rcases hp with rfl | rfl | rfl | rfl <;> rfl
      · rw [List.range_succ, List.map_append]
        exact IntsAre.append hP.itz (.cons _ _ .nil)
end closed_spec
theorem closed_spec {w : World} {z : Env0} (f1 : Fro) (f2 : Fro) (f3 : Fro) (o1 : f1.Ok) (o2 : f2.Ok) (o3 : f3.Ok) : Spec w z 20 100 (.ref 174) [.ref f1.l, .ref f2.l, .ref f3.l] [] [(162, tabObj #[])] [(f1.l, W.listOf f1.its.toArray f1.e), (f2.l, W.listOf f2.its.toArray f2.e), (f3.l, W.listOf f3.its.toArray f3.e)]
    (fun mu' new v => ∃ tb f its' e', mu' = [(162, tabObj tb)] ∧ new = [(f, W.listOf its'.toArray e')] ∧ IntsAre its' (closedOf f1.ns f2.ns f3.ns) ∧ v = .ref f) := closed_spec.epsX.2 (fun w z f1 f2 f3 dp un gd outer A₀ base g L h₁ s tk => Pk.all (T := closed_spec.epsT) (ne := closed_spec.eN) (Q := closed_spec.epsQ) (by with_unfolding_all exact closed_spec.eC) (w, z, f1, f2, f3, dp, un, gd, outer, A₀, base, g, L, h₁, s, tk)) w z f1 f2 f3 o1 o2 o3
end
section
section
variable {prog : Program} {w : World} {A : Around} {E : Value → Shared → Prop} {s : Shared} {env : Env} {h₀ : Heap} {target : Expr} {body : List Stmt} {Q : Flow → Shared → Prop} {σ : Type}
theorem itemsRest_inv {I : Addr} {cn : String} {keep : Led} {xs : List Itm} (Ld : σ → Led) (ps : σ → List (Str × Value)) (P : Nat → σ → Prop) (hkeep : ∀ c, SubL keep (Ld c))
    (turn : ∀ (i : Nat) (a : Itm) (c : σ) (u : Str → Option Value) (v : Value) (h : Heap) (tk : Nat) (it : Obj), xs[i]? = some a → a.Is v h → P i c → it.cls = .type cn → Fr h₀ env.locals h (kstB u (ps c)) → News h₀ env.locals h ((I, it) :: Ld c) →
      wpAny (model prog w) A (assign target env v) (fun _ s₂ => wpAny (model prog w) A (execs body env) (fun f s' => match f with | .ret v => Q (.ret v) s' | .brk => Q .next s' | _ => GEnd h₀ env.locals { s with heap := h, toks := tk } I it Ld ps (P (i + 1)) s') E s₂) E { s with heap := h, toks := tk })
    (done : ∀ (c : σ) (u : Str → Option Value) (h : Heap) (tk : Nat), P xs.length c → Fr h₀ env.locals h (kstB u (ps c)) → News h₀ env.locals h (Ld c) → Q .next { s with heap := h, toks := tk }) :
    ∀ (r : List Itm) (i : Nat), i + r.length = xs.length → xs.drop i = r → ∀ (c : σ) (m : Str → Option Value), P i c → (∀ p ∈ ps c, m p.1 = some p.2) → ItemsRest prog w A E h₀ env target body Q s [(I, cn)] keep r m (Ld c)
  | [], i, hi, hd, c, m, hP, hk => fun h tk F N => done c m h tk (by have : i = xs.length := by simpa using hi
                                                                     rw [← this]; exact hP) (by rw [show kstB m (ps c) = m from funext fun z => kstB_eq hk fun _ => rfl]; exact F) N
  | a :: r, i, hi, hd, c, m, hP, hk => fun v h tk hv F it hit N => by
    have ha : xs[i]? = some a := by
      have := congrArg (·[0]?) hd
      simpa using this
    have hd' : xs.drop (i + 1) = r := by
      have := congrArg (List.drop 1) hd
      simpa [List.drop_drop, Nat.add_comm] using this
    refine wpAny_mono (turn i a c m v h tk it ha hv hP hit (by rw [show kstB m (ps c) = m from funext fun z => kstB_eq hk fun _ => rfl]; exact F) N) (fun _ s₂ h₂ => wpAny_mono h₂ (fun f s' hf => ?_) fun _ _ e => e) fun _ _ e => e
    cases f with
    | ret v => exact hf
    | brk => exact hf
    | cont =>
      obtain ⟨h', tk', m', c', e, F', N', off, hk', hp'⟩ := hf
      exact ⟨h', tk', m', Ld c', e, F', N', fun p hp q hq => by rcases List.mem_singleton.mp hq with rfl; exact off p hp, hkeep c', itemsRest_inv Ld ps P hkeep turn done r (i + 1) (by simp only [List.length_cons] at hi; omega) hd' c' m' hp' hk'⟩
    | next =>
      obtain ⟨h', tk', m', c', e, F', N', off, hk', hp'⟩ := hf
      exact ⟨h', tk', m', Ld c', e, F', N', fun p hp q hq => by rcases List.mem_singleton.mp hq with rfl; exact off p hp, hkeep c', itemsRest_inv Ld ps P hkeep turn done r (i + 1) (by simp only [List.length_cons] at hi; omega) hd' c' m' hp' hk'⟩
theorem itemsRest_sub {ws : List (Addr × String)} {keep : Led} {m : Str → Option Value} {news' news : Led} (hs : ∀ p ∈ news', p ∈ news) :
    ∀ {r : List Itm}, ItemsRest prog w A E h₀ env target body Q s ws keep r m news' → ItemsRest prog w A E h₀ env target body Q s ws keep r m news
  | [], h => fun h' tk F N => h h' tk F (sub_news N hs)
  | a :: r, h => fun v h' tk hv F => by
    have q := h v h' tk hv F
    clear h hv
    revert q
    suffices H : ∀ (ws : List (Addr × String)) (k₁ k₂ : Led → Prop), (∀ its, k₁ its → k₂ its) → AllObj ws k₁ → AllObj ws k₂ from H ws _ _ fun its q N => q (sub_news N fun p hp => by
      rcases List.mem_append.mp hp with hp | hp
      · exact List.mem_append_left _ hp
      · exact List.mem_append_right _ (hs p hp))
    intro ws
    induction ws with
    | nil => exact fun k₁ k₂ hk q => hk _ q
    | cons w' r' ih => exact fun k₁ k₂ hk q o ho => ih _ _ (fun its => hk _) (q o ho)
theorem iter_range_T {x : Str} {px : Pos} {r : Addr} {a₀ b₀ : Int} {t₀ u₀ v₀ : Tok} {n : Nat} {m₀ : Str → Option Value} {news : Led}
    (hh : A.handled = none) (hr : IsRange s.heap r a₀ b₀ 1 t₀ u₀ v₀) (hsmall : Builtin.Range.small a₀ b₀ 1 = true) (hn : Builtin.Range.rangeSize a₀ b₀ 1 = (n : Int)) (F : Fr h₀ env.locals s.heap m₀) (N : News h₀ env.locals s.heap news)
    (rest₀ : ∀ I : Addr, (∀ p ∈ news, p.1 < I) → ItemsRest prog w A E h₀ env (.Name x px) body Q s [(I, "range_iterator")] [] ((rangeKs a₀ n).map fun k => Itm.tok (.int k)) m₀ news) :
    wpAny (model prog w) A (pyIter (.ref r)) (fun it s₂ => TurnsAt prog w A h₀ env (.Name x px) body Q E it s₂) E s := by
  refine wpAny_pyIter_range hr hsmall ?_
  refine ktu_core (tk0 := s.toks) (keep := []) (KTurns.ofWalks (Walks.range hh s.heap.objs.size a₀ 1 n).bound fun i v s Q E st q => wpAny_pure q) (by rw [List.length_map, rangeKs_length]) ?_ ?_ ?_ ?_ ?_ ?_ ?_ ?_ (F.push _) (fun p hp => ⟨Heap.get?_push_of_some _ (N p hp).1, (N p hp).2⟩) trivial (rest₀ _ fun p hp => Heap.lt_size (N p hp).1)
  · rintro i v h ⟨hi, t, rfl⟩
    refine ⟨.tok (.int (a₀ + i)), ?_, t, ?_⟩
    · rw [List.getElem?_map]
      simp [rangeKs, hi]
    · rw [Int.mul_one]
  · intro i h he
    exact ⟨[(s.heap.objs.size, _)], ⟨⟨rfl, rfl⟩, trivial⟩, fun p hp => by rw [List.mem_singleton.mp hp]; exact he⟩
  · intro b hb
    have hb' : b = s.heap.objs.size := by simpa using hb
    rw [hb']
    exact ⟨List.mem_cons_self .., next_is_new F⟩
  · intro b hb
    simpa using hb
  · intro b hb
    exact .inl (by simpa using hb)
  · intro hm
    exact absurd F.ns.lt ((List.mem_singleton.mp hm) ▸ Nat.lt_irrefl _)
  · intro p hp hI
    exact absurd (Heap.lt_size (N p hp).1) ((List.mem_singleton.mp hI) ▸ Nat.lt_irrefl _)
  · show IsRangeIter _ _ _ _ _
    rw [hn]
    simpa using Heap.get?_push_size _ rfl
theorem tok_at {n i : Nat} {a₀ : Int} {a : Itm} (h : ((rangeKs a₀ n).map fun k => Itm.tok (.int k))[i]? = some a) : i < n ∧ a = Itm.tok (.int (a₀ + i)) := by
  rw [List.getElem?_map] at h
  by_cases hi : i < n
  · have e : (rangeKs a₀ n)[i]? = some (a₀ + (i : Int)) := by simp [rangeKs, hi]
    rw [e] at h
    exact ⟨hi, (Option.some.inj h).symm⟩
  · have e : (rangeKs a₀ n)[i]? = none := by simp [rangeKs]; omega
    rw [e] at h
    cases h
theorem range_T_inv {x : Str} {px : Pos} {r : Addr} {a₀ b₀ : Int} {t₀ u₀ v₀ : Tok} {n : Nat} {m₀ : Str → Option Value} {news : Led} (Ld : σ → Led) (ps : σ → List (Str × Value)) (P : Addr → Nat → σ → Prop) (c₀ : σ)
    (hh : A.handled = none) (hr : IsRange s.heap r a₀ b₀ 1 t₀ u₀ v₀) (hsmall : Builtin.Range.small a₀ b₀ 1 = true) (hn : Builtin.Range.rangeSize a₀ b₀ 1 = (n : Int)) (F : Fr h₀ env.locals s.heap m₀) (N : News h₀ env.locals s.heap news)
    (hsub : ∀ p ∈ Ld c₀, p ∈ news) (hk : ∀ p ∈ ps c₀, m₀ p.1 = some p.2) (h0 : ∀ I, (∀ p ∈ news, p.1 < I) → P I 0 c₀)
    (turn : ∀ (I : Addr) (i : Nat) (c : σ) (u : Str → Option Value) (t : Tok) (h : Heap) (tk : Nat) (it : Obj), (∀ p ∈ news, p.1 < I) → i < n → P I i c → it.cls = .type "range_iterator" → Fr h₀ env.locals h (kstB u (ps c)) → News h₀ env.locals h ((I, it) :: Ld c) →
      wpAny (model prog w) A (assign (.Name x px) env (.int (a₀ + (i : Int)) t)) (fun _ s₂ => wpAny (model prog w) A (execs body env) (fun f s' => match f with | .ret v => Q (.ret v) s' | .brk => Q .next s' | _ => GEnd h₀ env.locals { s with heap := h, toks := tk } I it Ld ps (P I (i + 1)) s') E s₂) E { s with heap := h, toks := tk })
    (done : ∀ (I : Addr) (c : σ) (u : Str → Option Value) (h : Heap) (tk : Nat), (∀ p ∈ news, p.1 < I) → P I n c → Fr h₀ env.locals h (kstB u (ps c)) → News h₀ env.locals h (Ld c) → Q .next { s with heap := h, toks := tk }) :
    wpAny (model prog w) A (pyIter (.ref r)) (fun it s₂ => TurnsAt prog w A h₀ env (.Name x px) body Q E it s₂) E s := by
  have hl : ((rangeKs a₀ n).map fun k => Itm.tok (.int k)).length = n := by rw [List.length_map, rangeKs_length]
  refine iter_range_T hh hr hsmall hn F N fun I l1 => itemsRest_sub hsub (itemsRest_inv (keep := []) Ld ps (P I) (fun _ => trivial) (fun i a c u v h tk it ha hv hP hit F' N' => ?_) (fun c u h tk hP F' N' => done I c u h tk l1 (by rw [hl] at hP; exact hP) F' N') _ 0 (Nat.zero_add _) rfl c₀ m₀ (h0 I l1) hk)
  obtain ⟨hlt, rfl⟩ := tok_at ha
  obtain ⟨t, rfl⟩ := hv
  exact turn I i c u t h tk it l1 hlt hP hit F' N'
end
end
local macro_rules | `(tactic| walk_at "eval Name") => `(tactic| (k_here; (with_reducible show wpAny _ _ (eval (Expr.Name _ _) (compEnvC _ _ _ _)) _ _ _); k_dflt (first
  | (refine' lcf_free ?N ?c ?m ?d ?_ ?a ?b; (case b => rfl); (case a => rfl); (case N => k_asm); (case c => rfl); (case m => k_mem); (case d => k_asm); k_whole)
  | (refine' LCgL.ld_own ?N ?m ?C ?x ?_ ?a ?b; (case b => rfl); (case a => rfl); (case N => k_asm); (case m => k_mem); (case C => assumption); (case x => assumption); k_whole)
  | (refine' LCgL.ld_global ?F ?X ?T ?e ?_ ?g ?a ?b; (case b => rfl); (case a => rfl); (case g => rfl); (case F => k_asm); (case X => k_asm); (case T => k_asm); (case e => k_is); k_whole))))
local macro_rules | `(tactic| walk_at "KCiEl") => `(tactic| (with_unfolding_all first | exact kci_el (if_neg (by assumption)) rfl rfl | exact kci_el (if_pos (by assumption)) rfl rfl))
local macro_rules | `(tactic| walk_at "KCiNo") => `(tactic| (with_unfolding_all first | exact kci_no (if_pos (by assumption)) rfl | exact kci_no (if_neg (by assumption)) rfl))
local macro_rules | `(tactic| walk_at "CompEnd") => `(tactic| (k_here; k_dflt (refine LCg.CompEnd.intro (by k_asm) (by k_asm) _ (fun _ h => h) (by assumption) (by lcg_src) ?_)))
section
noncomputable abbrev bitsG (mk : Int) : List Int → Int → List Int := fun l k => if Builtin.bitAnd (mk.fdiv (2 ^ k.toNat)) 1 = 0 then l else l ++ [2 ^ k.toNat]
noncomputable abbrev bitsOf (mk : Int) : List Int := (rangeKs 0 4).foldl (bitsG mk) []
noncomputable abbrev topsG (cs : List Int) (mk : Int) : List Int → Int → List Int := fun l b => if Builtin.bitAnd (cs.getD (Builtin.bitXor mk b).toNat 0) b = 0 then l ++ [b] else l
noncomputable def topsAt (cs : List Int) (i : Nat) : Int := ((bitsOf (0 + (i : Int))).foldl (topsG cs (0 + (i : Int))) []).sum
noncomputable def topsOf (cs : List Int) : List Int := (List.range 16).map (topsAt cs)
theorem bits_xor : ∀ i : Nat, i < 16 → ∀ b ∈ bitsOf (0 + (i : Int)), 0 ≤ Builtin.bitXor (0 + (i : Int)) b ∧ Builtin.bitXor (0 + (i : Int)) b < ((16 : Nat) : Int) := by decide +kernel
structure TS where
  its : List Value
  e : Nat
  om : Obj
structure TSok (cs : List Int) (f : Nat → Int) (i : Nat) (s : TS) : Prop where
  itz : IntsAre s.its ((List.range i).map f)
  cell : ∃ mv, s.om.data = Data.cell mv
namespace tops_spec
noncomputable def epsX : { P : World → Env0 → Nat → (List Value) → Nat → (List Int) → Nat → Nat → (Option (List Code)) → (List Env) → Around → Heap → Heap → Addr → Heap → Shared → Nat → Obj → Obj → Prop // (∀ w z cl ci ce cs dp un gd outer A₀ base g L h₁ s tk co0 co1, P w z cl ci ce cs dp un gd outer A₀ base g L h₁ s tk co0 co1) → ∀ (w : World) (z : Env0) (cl : Nat) (ci : List Value) (ce : Nat) (cs : List Int) (hi : IntsAre ci cs) (hlen : cs.length = 16), Spec w z 20 100 (.ref 179) [.ref cl] [] [] [(cl, W.listOf ci.toArray ce)]
    (fun mu' new v => ∃ f its' e', mu' = [] ∧ new = [(f, W.listOf its'.toArray e')] ∧ IntsAre its' (topsOf cs) ∧ v = .ref f) } := ⟨_, by
  intro h_eps w z cl ci ce cs hi hlen
  (k_dflt (refine' spec_defC (binds := [(Str.ofString "closed", .ref cl)]) ?ho ?hcd ?hb ?hl ?hn ?h ?c2 ?c3 ?c4; (case ho => k_is); (case hcd => k_is); (case hb => intro s' X'; first | exact BindsTo.of_eq rfl | exact binds_K X' rfl (by k_is) rfl rfl rfl); (case hl => exact rfl); (case hn => decide +kernel); (case c2 => exact rfl); (case c3 => exact rfl); (case c4 => exact rfl)); (intro dp un gd outer A₀ base g L h₁ s tk cells B F X N Y T C hdp hun l1; obtain ⟨cL, cY, cS⟩ := C; (try dsimp only [List.nil_append, List.cons_append] at l1); (try k_lt l1); (revert N; refine celim2 Y ?_; intro co0 co1 cd0 cd1 N); clear Y; replace cd0 : co0.data = Data.cell none := cd0; replace cd1 : co1.data = Data.cell (some (.ref cl)) := cd1; replace F : Fr g L h₁ (kstB (fun _ => none) []) := F; (try dsimp only [List.nil_append, List.cons_append] at N)))
  revert cd1; revert cd0; revert l1; revert hun; revert hdp; revert cS; revert cY; revert cL; revert T; revert N; revert X; revert F; revert B; revert hlen; revert hi
  exact h_eps w z cl ci ce cs dp un gd outer A₀ base g L h₁ s tk co0 co1⟩
noncomputable abbrev epsT : Type := World × Env0 × Nat × (List Value) × Nat × (List Int) × Nat × Nat × (Option (List Code)) × (List Env) × Around × Heap × Heap × Addr × Heap × Shared × Nat × Obj × Obj
noncomputable abbrev epsQ : epsT → Prop := fun d => epsX.1 d.1 d.2.1 d.2.2.1 d.2.2.2.1 d.2.2.2.2.1 d.2.2.2.2.2.1 d.2.2.2.2.2.2.1 d.2.2.2.2.2.2.2.1 d.2.2.2.2.2.2.2.2.1 d.2.2.2.2.2.2.2.2.2.1 d.2.2.2.2.2.2.2.2.2.2.1 d.2.2.2.2.2.2.2.2.2.2.2.1 d.2.2.2.2.2.2.2.2.2.2.2.2.1 d.2.2.2.2.2.2.2.2.2.2.2.2.2.1 d.2.2.2.2.2.2.2.2.2.2.2.2.2.2.1 d.2.2.2.2.2.2.2.2.2.2.2.2.2.2.2.1 d.2.2.2.2.2.2.2.2.2.2.2.2.2.2.2.2.1 d.2.2.2.2.2.2.2.2.2.2.2.2.2.2.2.2.2.1 d.2.2.2.2.2.2.2.2.2.2.2.2.2.2.2.2.2.2
theorem eN : Nonempty epsT := by walk_at "ne_all"
@[irreducible] noncomputable def eK : epsT := Pk epsT eN epsQ
@[irreducible] noncomputable def cl := eK.2.2.1
@[irreducible] noncomputable def ci := eK.2.2.2.1
@[irreducible] noncomputable def ce := eK.2.2.2.2.1
@[irreducible] noncomputable def cs := eK.2.2.2.2.2.1
@[irreducible] noncomputable def L := eK.2.2.2.2.2.2.2.2.2.2.2.2.2.1
@[irreducible] noncomputable def tk := eK.2.2.2.2.2.2.2.2.2.2.2.2.2.2.2.2.1
@[irreducible] noncomputable def co0 := eK.2.2.2.2.2.2.2.2.2.2.2.2.2.2.2.2.2.1
@[irreducible] noncomputable def co1 := eK.2.2.2.2.2.2.2.2.2.2.2.2.2.2.2.2.2.2
theorem eC : epsX.1 eK.1 eK.2.1 cl ci ce cs eK.2.2.2.2.2.2.1 eK.2.2.2.2.2.2.2.1 eK.2.2.2.2.2.2.2.2.1 eK.2.2.2.2.2.2.2.2.2.1 eK.2.2.2.2.2.2.2.2.2.2.1 eK.2.2.2.2.2.2.2.2.2.2.2.1 eK.2.2.2.2.2.2.2.2.2.2.2.2.1 L eK.2.2.2.2.2.2.2.2.2.2.2.2.2.2.1 eK.2.2.2.2.2.2.2.2.2.2.2.2.2.2.2.1 tk co0 co1 := by
  dsimp only [epsX]
  intro hi hlen B F X N T cL cY cS hdp hun l1 cd0 cd1
  have hln := hi.length
  k_with_none
  k_with "exec For Name Call cons nil" => (k_here; (rename Fr _ _ _ _ => lF'); (with_unfolding_all refine' For_turns lF' ?_; k_whole))
  k_with "pyIter ref" => ((with_reducible show wpAny _ _ (pyIter (Value.ref _)) _ _ _); refine Stop.go ?_)
  k_with "CompSrcT" => (refine Stop.go ?_)
  k_steps
  refine Stop.mk ?_
  (rename Fr _ _ _ _ => lF'); (rename News _ _ _ _ => lN'); (obtain ⟨tp, htp⟩ := news_head lN'); (subst htp); (rename IsRange _ _ _ _ _ _ _ _ => rgX)
  with_unfolding_all refine' range_T_inv (σ := TS) (n := 16) (fun c => [(tp, W.listOf c.its.toArray c.e), (L + 1 + 1, c.om), (L + 1, co1), (cl, W.listOf ci.toArray ce)]) (fun _ => [(Str.ofString "tops", .ref tp)]) (fun _ => TSok cs (topsAt cs)) ⟨[], 0, co0⟩ (by rfl) rgX (by first | decide | rfl) (by first | decide | rfl) lF' lN' (fun _ h => h) ?k0 (fun _ _ => ⟨.nil, _, cd0⟩) ?turn ?done
  case k0 => (intro p hp; simp only [List.mem_cons, List.not_mem_nil, or_false] at hp; rcases hp with rfl <;> rfl)
  case done =>
    clear lF' lN'
    intro I c u h tk l1 hP F N
    k_steps
    rename News _ _ _ _ => N'
    rename Fr _ _ _ _ => F'
    show Fin _ _ _ _ _ _ _ _
    refine Fin.intro F' N' [] [(tp, W.listOf c.its.toArray c.e)] (all_cons.mpr ⟨.head _, all_cons.mpr ⟨.tail _ (.tail _ (.tail _ (.head _))), all_nil⟩⟩) rfl ?_ ⟨_, _, _, rfl, rfl, hP.itz, rfl⟩
    intro p hp q hq
    rcases List.mem_singleton.mp hq with rfl
    rcases List.mem_singleton.mp hp with rfl
    show @Ne Nat _ _
    k_ne
  case turn =>
      clear lF' lN'
      intro I i c u t h tk it l1 hlt hP hit F N
      try k_lt l1
      obtain ⟨mv, hom⟩ := hP.cell
      have hz : c.its.toArray.size ≤ sizeLine := (by have hz1 := hP.itz.length; rw [List.length_map, List.length_range] at hz1; rw [List.size_toArray, hz1, PySem.sizeLine_eq]; omega)
      k_steps
      refine Stop.mk ?_
      refine LCt.CompSrcT.range (by rfl) (by k_asm) (by k_asm) (by assumption) (by first | decide) (by first | exact rangeSize_nat _ _ | rfl) (by first | exact Nat.le_of_ble_eq_true rfl) ?_; intro g'
      refine' kci_range (bitsG (0 + (i : Int))) ?turn ?fin ?grows
      case grows => (intro l k; show (ite _ _ _ : List Int).length ≤ _; split <;> simp)
      case turn =>
        intro k' t' I' oI' C' oC' D' m' ys' l' h' tk' E' hlo' hhi' hI' hC' hx' F' N' off' ne'
        intro hMark'
        skip
        k_steps
      case fin =>
        k_steps
        refine Stop.mk ?_
        rename IntsAre _ (List.foldl _ _ _) => hIb
        refine LCt.CompSrcT.ledger (by rfl) (by k_asm) (by k_asm) (by k_dflt k_mem) (by rw [List.size_toArray, PySem.sizeLine_eq]; omega) ?_; intro g'
        refine' kci_list (topsG cs (0 + (i : Int))) hIb ?turn ?fin ?grows
        case grows => (intro l k; show (ite _ _ _ : List Int).length ≤ _; split <;> simp)
        case turn =>
          intro k' t' I' oI' C' oC' D' m' ys' l' h' tk' E' hk' hI' hC' hx' F' N' off' ne'
          intro hMark'
          obtain ⟨hx1, hx2⟩ := bits_xor i hlt k' hk'; replace hx2 : Builtin.bitXor (0 + (i : Int)) k' < (cs.length : Int) := (by rw [hlen]; exact hx2)
          k_steps
        case fin =>
          k_steps
          rename News _ _ _ _ => N'
          rename Fr _ _ _ _ => F'
          simp only [List.push_toArray] at N'
          show GEnd _ _ _ _ _ _ _ _ _
          refine GEnd.intro (⟨c.its ++ [.int _ _], c.e + 1, _⟩ : TS) F' N' (all_cons.mpr ⟨.tail _ (.tail _ (.head _)), all_cons.mpr ⟨.tail _ (.tail _ (.tail _ (.head _))), all_cons.mpr ⟨.tail _ (.tail _ (.tail _ (.tail _ (.head _)))), fun _ h => .tail _ (.tail _ (.tail _ (.tail _ (.tail _ h))))⟩⟩⟩) ?_ ?_ ⟨?_, _, by assumption⟩
          · intro p hp
            simp only [List.mem_cons, List.not_mem_nil, or_false] at hp
            rcases hp with rfl | rfl | rfl | rfl <;> (show @Ne Nat _ _; k_ne)
          · intro p hp
            simp only [List.mem_cons, List.not_mem_nil, or_false] at hp
            rcases hp with rfl <;> rfl
          · rw [List.range_succ, List.map_append]
            exact IntsAre.append hP.itz (.cons _ _ .nil)
end tops_spec
theorem tops_spec {w : World} {z : Env0} (cl : Nat) (ci : List Value) (ce : Nat) (cs : List Int) (hi : IntsAre ci cs) (hlen : cs.length = 16) : Spec w z 20 100 (.ref 179) [.ref cl] [] [] [(cl, W.listOf ci.toArray ce)]
    (fun mu' new v => ∃ f its' e', mu' = [] ∧ new = [(f, W.listOf its'.toArray e')] ∧ IntsAre its' (topsOf cs) ∧ v = .ref f) := tops_spec.epsX.2 (fun w z cl ci ce cs dp un gd outer A₀ base g L h₁ s tk co0 co1 => Pk.all (T := tops_spec.epsT) (ne := tops_spec.eN) (Q := tops_spec.epsQ) (by with_unfolding_all exact tops_spec.eC) (w, z, cl, ci, ce, cs, dp, un, gd, outer, A₀, base, g, L, h₁, s, tk, co0, co1)) w z cl ci ce cs hi hlen
end
section
structure Agrees (cs ts : List Int) : Prop where
  cr : ∀ i : Nat, i < 16 → 0 ≤ cs.getD (0 + (i : Int)).toNat 0 ∧ cs.getD (0 + (i : Int)).toNat 0 < (16 : Int)
  tr : ∀ i : Nat, i < 16 → 0 ≤ ts.getD (0 + (i : Int)).toNat 0 ∧ ts.getD (0 + (i : Int)).toNat 0 < (16 : Int)
  ct : ∀ i : Nat, i < 16 → cs.getD (ts.getD (0 + (i : Int)).toNat 0).toNat 0 = cs.getD (0 + (i : Int)).toNat 0
  tc : ∀ i : Nat, i < 16 → ts.getD (cs.getD (0 + (i : Int)).toNat 0).toNat 0 = ts.getD (0 + (i : Int)).toNat 0
  or : ∀ i j : Nat, i < 16 → j < i → ts.getD (Builtin.bitOr (0 + (i : Int)) (0 + (j : Int))).toNat 0 = ts.getD (Builtin.bitOr (ts.getD (0 + (i : Int)).toNat 0) (ts.getD (0 + (j : Int)).toNat 0)).toNat 0
theorem or_range (a b : Int) (ha : 0 ≤ a ∧ a < 16) (hb : 0 ≤ b ∧ b < 16) : 0 ≤ Builtin.bitOr a b ∧ Builtin.bitOr a b < (16 : Int) := by
  have H : ∀ x : _root_.Fin 16, ∀ y : _root_.Fin 16, 0 ≤ Builtin.bitOr (x.val : Int) (y.val : Int) ∧ Builtin.bitOr (x.val : Int) (y.val : Int) < (16 : Int) := by decide +kernel
  have := H ⟨a.toNat, by omega⟩ ⟨b.toNat, by omega⟩
  simpa [Int.toNat_of_nonneg ha.1, Int.toNat_of_nonneg hb.1] using this
namespace agree_spec
noncomputable def epsX : { P : World → Env0 → Nat → Nat → (List Value) → (List Value) → Nat → Nat → (List Int) → (List Int) → Nat → Nat → (Option (List Code)) → (List Env) → Around → Heap → Heap → Addr → Heap → Shared → Nat → Prop // (∀ w z cl tl ci ti ce te cs ts dp un gd outer A₀ base g L h₁ s tk, P w z cl tl ci ti ce te cs ts dp un gd outer A₀ base g L h₁ s tk) → ∀ (w : World) (z : Env0) (cl : Nat) (tl : Nat) (ci : List Value) (ti : List Value) (ce : Nat) (te : Nat) (cs : List Int) (ts : List Int) (hi : IntsAre ci cs) (ht : IntsAre ti ts) (hlen : cs.length = 16) (htl : ts.length = 16) (ag : Agrees cs ts), Spec w z 20 100 (.ref 191) [.ref cl, .ref tl] [] [] [(cl, W.listOf ci.toArray ce), (tl, W.listOf ti.toArray te)]
    (fun mu' new v => mu' = [] ∧ new = [] ∧ v = .bool true) } := ⟨_, by
  intro h_eps w z cl tl ci ti ce te cs ts hi ht hlen htl ag
  (k_dflt (refine' spec_def [(Str.ofString "tops", .ref tl), (Str.ofString "closed", .ref cl)] ?ho ?hcd ?hb ?hl ?h ?c2 ?c3 ?c4 ?c5; (case ho => k_is); (case hcd => k_is); (case hb => intro s' X'; first | exact BindsTo.of_eq rfl | exact binds_K X' rfl (by k_is) rfl rfl rfl); (case c5 => decide); (case hl => exact locs rfl); (case c2 => exact rfl); (case c3 => exact rfl); (case c4 => exact rfl)); (intro dp un gd outer A₀ base g L h₁ s tk B F X N T C hdp hun; obtain ⟨cL, cY, cS⟩ := C))
  revert hun; revert hdp; revert cS; revert cY; revert cL; revert T; revert N; revert X; revert F; revert B; revert ag; revert htl; revert hlen; revert ht; revert hi
  exact h_eps w z cl tl ci ti ce te cs ts dp un gd outer A₀ base g L h₁ s tk⟩
noncomputable abbrev epsT : Type := World × Env0 × Nat × Nat × (List Value) × (List Value) × Nat × Nat × (List Int) × (List Int) × Nat × Nat × (Option (List Code)) × (List Env) × Around × Heap × Heap × Addr × Heap × Shared × Nat
noncomputable abbrev epsQ : epsT → Prop := fun d => epsX.1 d.1 d.2.1 d.2.2.1 d.2.2.2.1 d.2.2.2.2.1 d.2.2.2.2.2.1 d.2.2.2.2.2.2.1 d.2.2.2.2.2.2.2.1 d.2.2.2.2.2.2.2.2.1 d.2.2.2.2.2.2.2.2.2.1 d.2.2.2.2.2.2.2.2.2.2.1 d.2.2.2.2.2.2.2.2.2.2.2.1 d.2.2.2.2.2.2.2.2.2.2.2.2.1 d.2.2.2.2.2.2.2.2.2.2.2.2.2.1 d.2.2.2.2.2.2.2.2.2.2.2.2.2.2.1 d.2.2.2.2.2.2.2.2.2.2.2.2.2.2.2.1 d.2.2.2.2.2.2.2.2.2.2.2.2.2.2.2.2.1 d.2.2.2.2.2.2.2.2.2.2.2.2.2.2.2.2.2.1 d.2.2.2.2.2.2.2.2.2.2.2.2.2.2.2.2.2.2.1 d.2.2.2.2.2.2.2.2.2.2.2.2.2.2.2.2.2.2.2.1 d.2.2.2.2.2.2.2.2.2.2.2.2.2.2.2.2.2.2.2.2
theorem eN : Nonempty epsT := by walk_at "ne_all"
@[irreducible] noncomputable def eK : epsT := Pk epsT eN epsQ
@[irreducible] noncomputable def cl := eK.2.2.1
@[irreducible] noncomputable def tl := eK.2.2.2.1
@[irreducible] noncomputable def ci := eK.2.2.2.2.1
@[irreducible] noncomputable def ti := eK.2.2.2.2.2.1
@[irreducible] noncomputable def ce := eK.2.2.2.2.2.2.1
@[irreducible] noncomputable def te := eK.2.2.2.2.2.2.2.1
@[irreducible] noncomputable def ts := eK.2.2.2.2.2.2.2.2.2.1
@[irreducible] noncomputable def tk := eK.2.2.2.2.2.2.2.2.2.2.2.2.2.2.2.2.2.2.2.2
theorem eC : epsX.1 eK.1 eK.2.1 cl tl ci ti ce te eK.2.2.2.2.2.2.2.2.1 ts eK.2.2.2.2.2.2.2.2.2.2.1 eK.2.2.2.2.2.2.2.2.2.2.2.1 eK.2.2.2.2.2.2.2.2.2.2.2.2.1 eK.2.2.2.2.2.2.2.2.2.2.2.2.2.1 eK.2.2.2.2.2.2.2.2.2.2.2.2.2.2.1 eK.2.2.2.2.2.2.2.2.2.2.2.2.2.2.2.1 eK.2.2.2.2.2.2.2.2.2.2.2.2.2.2.2.2.1 eK.2.2.2.2.2.2.2.2.2.2.2.2.2.2.2.2.2.1 eK.2.2.2.2.2.2.2.2.2.2.2.2.2.2.2.2.2.2.1 eK.2.2.2.2.2.2.2.2.2.2.2.2.2.2.2.2.2.2.2.1 tk := by
  dsimp only [epsX]
  intro hi ht hlen htl ag B F X N T cL cY cS hdp hun
  dsimp only [List.nil_append, List.cons_append] at N
  have hln := hi.length
  have hlt := ht.length
  k_with_none
  k_with "exec For Name Call cons nil" => (k_here; (rename Fr _ _ _ _ => lF'); (with_unfolding_all refine' For_turns lF' ?_; k_whole))
  k_with "pyIter ref" => ((with_reducible show wpAny _ _ (pyIter (Value.ref _)) _ _ _); refine Stop.go ?_)
  k_steps
  refine Stop.mk ?_
  (rename Fr _ _ _ _ => lF'); (rename News _ _ _ _ => lN'); (rename IsRange _ _ _ _ _ _ _ _ => rgX)
  with_unfolding_all refine' range_T_inv (σ := Unit) (n := 16) (fun _ => [(cl, W.listOf ci.toArray ce), (tl, W.listOf ti.toArray te)]) (fun _ => [(Str.ofString "tops", .ref tl), (Str.ofString "closed", .ref cl)]) (fun _ _ _ => True) () (by rfl) rgX (by first | decide | rfl) (by first | decide | rfl) lF' lN' (fun _ h => h) ?k0 (fun _ _ => trivial) ?turn ?done
  case k0 => (intro p hp; simp only [List.mem_cons, List.not_mem_nil, or_false] at hp; rcases hp with rfl | rfl <;> rfl)
  case done =>
    clear lF' lN'
    intro I c u h tk l1 hP F N
    k_steps
    exact Fin.intro (by k_asm) (by k_asm) [] [] (by k_sub) rfl (by intro _ _ _ h; cases h) ⟨rfl, rfl, rfl⟩
  case turn =>
    clear lF' lN'
    intro I i c u t h tk it l1 hlt hP hit F N
    try k_lt l1
    obtain ⟨a1, a2⟩ := ag.cr i hlt
    obtain ⟨a3, a4⟩ := ag.tr i hlt
    have a5 := ag.ct i hlt
    have a6 := ag.tc i hlt
    k_steps
    · exact absurd a5 (by assumption)
    · exact absurd a6 (by assumption)
    refine Stop.mk ?_
    (rename Fr _ _ _ _ => lF'); (rename News _ _ _ _ => lN'); (rename IsRange _ _ _ _ _ _ _ _ => rgX)
    with_unfolding_all refine' range_T_inv (σ := Unit) (n := ((0 + (i : Int)) - 0).toNat) (fun _ => [(I, it), (cl, W.listOf ci.toArray ce), (tl, W.listOf ti.toArray te)]) (fun _ => [(Str.ofString "mask", .int (0 + (i : Int)) t), (Str.ofString "tops", .ref tl), (Str.ofString "closed", .ref cl)]) (fun _ _ _ => True) () (by rfl) rgX (by exact small_one (by omega) (by omega) (by omega) (by omega)) (by exact rangeSize_nat _ _) lF' lN' (fun _ h => h) ?k0 (fun _ _ => trivial) ?turn ?done
    case k0 => (intro p hp; simp only [List.mem_cons, List.not_mem_nil, or_false] at hp; rcases hp with rfl | rfl | rfl <;> rfl)
    case done =>
      clear lF' lN'
      intro J c u h tk l2 hP F N
      k_steps
      show GEnd _ _ _ _ _ _ _ _ _
      refine GEnd.intro () F N (fun _ h => h) ?_ ?_ trivial
      · intro p hp
        simp only [List.mem_cons, List.not_mem_nil, or_false] at hp
        rcases hp with rfl | rfl <;> (show @Ne Nat _ _; k_ne)
      · intro p hp
        simp only [List.mem_cons, List.not_mem_nil, or_false] at hp
        rcases hp with rfl | rfl <;> rfl
    case turn =>
      clear lF' lN'
      intro J j c u' t' h tk it' l2 hjt hP hit' F N
      try k_lt l2
      have hj : j < i := by omega
      obtain ⟨b1, b2⟩ := ag.tr j (Nat.lt_trans hj hlt)
      obtain ⟨b3, b4⟩ := or_range (0 + (i : Int)) (0 + (j : Int)) (by omega) (by omega)
      obtain ⟨b5, b6⟩ := or_range (ts.getD (0 + (i : Int)).toNat 0) (ts.getD (0 + (j : Int)).toNat 0) ⟨a3, a4⟩ ⟨b1, b2⟩
      have b7 := ag.or i j hlt hj
      k_steps
      · exact absurd b7 (by assumption)
      · rename News _ _ _ _ => N'
        rename Fr _ _ _ _ => F'
        show GEnd _ _ _ _ _ _ _ _ _
        refine GEnd.intro () F' N' (fun _ h => h) ?_ ?_ trivial
        · intro p hp
          simp only [List.mem_cons, List.not_mem_nil, or_false] at hp
          rcases hp with rfl | rfl | rfl <;> (show @Ne Nat _ _; k_ne)
        · intro p hp
          simp only [List.mem_cons, List.not_mem_nil, or_false] at hp
          rcases hp with rfl | rfl | rfl <;> rfl
end agree_spec
theorem agree_spec {w : World} {z : Env0} (cl : Nat) (tl : Nat) (ci : List Value) (ti : List Value) (ce : Nat) (te : Nat) (cs : List Int) (ts : List Int) (hi : IntsAre ci cs) (ht : IntsAre ti ts) (hlen : cs.length = 16) (htl : ts.length = 16) (ag : Agrees cs ts) : Spec w z 20 100 (.ref 191) [.ref cl, .ref tl] [] [] [(cl, W.listOf ci.toArray ce), (tl, W.listOf ti.toArray te)]
    (fun mu' new v => mu' = [] ∧ new = [] ∧ v = .bool true) := agree_spec.epsX.2 (fun w z cl tl ci ti ce te cs ts dp un gd outer A₀ base g L h₁ s tk => Pk.all (T := agree_spec.epsT) (ne := agree_spec.eN) (Q := agree_spec.epsQ) (by with_unfolding_all exact agree_spec.eC) (w, z, cl, tl, ci, ti, ce, te, cs, ts, dp, un, gd, outer, A₀, base, g, L, h₁, s, tk)) w z cl tl ci ti ce te cs ts hi ht hlen htl ag
end
section
theorem bis_le (p : Nat → Bool) : ∀ (f lo hi : Nat), lo ≤ hi → bis p f lo hi ≤ hi
  | 0, _, _, h => h
  | f + 1, lo, hi, h => by
    show (if lo < hi then (if p ((lo + hi) / 2) then bis p f lo ((lo + hi) / 2) else bis p f ((lo + hi) / 2 + 1) hi) else lo) ≤ hi
    split
    · split
      · exact Nat.le_trans (bis_le p f _ _ (by omega)) (by omega)
      · exact bis_le p f _ _ (by omega)
    · exact h
noncomputable def insAt (ns : List Int) (k : Nat) (x : Int) : List Int := ns.take k ++ x :: ns.drop k
theorem ins_ints {its : List Value} {ns : List Int} {k : Nat} {x : Int} {tx : Tok} (hi : IntsAre its ns) (hk : k ≤ ns.length) : IntsAre (kl_ins its (k : Int) (.int x tx)) (insAt ns k x) := by
  have e : (if (k : Int) < 0 then ((k : Int) + (its.length : Int)).toNat else min (k : Int).toNat its.length) = k := by
    rw [if_neg (by omega), hi.length]; omega
  unfold kl_ins insAt
  rw [e]
  exact IntsAre.append (hi.take k) (.cons _ _ (hi.drop k))
namespace insort_spec
noncomputable def epsX : { P : World → Env0 → Nat → Nat → Nat → Nat → (List Value) → (List Int) → Nat → Int → Tok → Led → (Int → Int) → Value → (Option Addr) → FuncData → (Array (Option Value)) → Nat → Nat → (Option (List Code)) → (List Env) → Around → Heap → Heap → Addr → Heap → Shared → Nat → Prop // (∀ w z nd nu l kf its ns e x tx ex V oc od fd sl dp un gd outer A₀ base g L h₁ s tk, P w z nd nu l kf its ns e x tx ex V oc od fd sl dp un gd outer A₀ base g L h₁ s tk) → ∀ (w : World) (z : Env0) (nd : Nat) (nu : Nat) (l : Nat) (kf : Nat) (its : List Value) (ns : List Int) (e : Nat) (x : Int) (tx : Tok) (ex : Led) (V : Int → Int) (hi : IntsAre its ns) (hlen : ns.length ≤ 8) (hoff : ∀ p ∈ ex, @Ne Nat p.1 l) (hkey : KeyOk w z nd nu kf (x :: ns) ex (fun n t => .int (V n) t)), Spec w z (nd + 2) (nu + 6) (.ref 72) [.ref l, .int x tx] [(Str.ofString "key", .ref kf)] [(l, W.listOf its.toArray e)] ex
    (fun mu' new v => ∃ its' e', mu' = [(l, W.listOf its'.toArray e')] ∧ new = [] ∧ IntsAre its' (insAt ns (bis (fun i => decide (V x < V (ns.getD i 0))) ns.length 0 ns.length) x) ∧ v = .none) } := ⟨_, by
  intro h_eps w z nd nu l kf its ns e x tx ex V hi hlen hoff hkey
  obtain ⟨⟨oc, od, fd, sl, hkm⟩, hkey⟩ := hkey
  have hkey2 : KeyOk w z nd nu kf ns ex (fun n t => .int (V n) t) := ⟨⟨oc, od, fd, sl, hkm⟩, fun n hn => hkey n (.tail _ hn)⟩
  (k_dflt (refine' spec_def [(Str.ofString "key", .ref kf), (Str.ofString "hi", .none), (Str.ofString "lo", .int 0 271), (Str.ofString "x", .int x tx), (Str.ofString "a", .ref l)] ?ho ?hcd ?hb ?hl ?h ?c2 ?c3 ?c4 ?c5; (case ho => k_is); (case hcd => k_is); (case hb => intro s' X'; first | exact BindsTo.of_eq rfl | exact binds_K X' rfl (by k_is) rfl rfl rfl); (case c5 => decide); (case hl => exact locs rfl); (case c2 => exact rfl); (case c3 => exact rfl); (case c4 => exact rfl)); (intro dp un gd outer A₀ base g L h₁ s tk B F X N T C hdp hun; obtain ⟨cL, cY, cS⟩ := C))
  revert hun; revert hdp; revert cS; revert cY; revert cL; revert T; revert N; revert X; revert F; revert B; revert hkey2; revert hkm; revert hkey; revert hoff; revert hlen; revert hi
  exact h_eps w z nd nu l kf its ns e x tx ex V oc od fd sl dp un gd outer A₀ base g L h₁ s tk⟩
noncomputable abbrev epsT : Type := World × Env0 × Nat × Nat × Nat × Nat × (List Value) × (List Int) × Nat × Int × Tok × Led × (Int → Int) × Value × (Option Addr) × FuncData × (Array (Option Value)) × Nat × Nat × (Option (List Code)) × (List Env) × Around × Heap × Heap × Addr × Heap × Shared × Nat
noncomputable abbrev epsQ : epsT → Prop := fun d => epsX.1 d.1 d.2.1 d.2.2.1 d.2.2.2.1 d.2.2.2.2.1 d.2.2.2.2.2.1 d.2.2.2.2.2.2.1 d.2.2.2.2.2.2.2.1 d.2.2.2.2.2.2.2.2.1 d.2.2.2.2.2.2.2.2.2.1 d.2.2.2.2.2.2.2.2.2.2.1 d.2.2.2.2.2.2.2.2.2.2.2.1 d.2.2.2.2.2.2.2.2.2.2.2.2.1 d.2.2.2.2.2.2.2.2.2.2.2.2.2.1 d.2.2.2.2.2.2.2.2.2.2.2.2.2.2.1 d.2.2.2.2.2.2.2.2.2.2.2.2.2.2.2.1 d.2.2.2.2.2.2.2.2.2.2.2.2.2.2.2.2.1 d.2.2.2.2.2.2.2.2.2.2.2.2.2.2.2.2.2.1 d.2.2.2.2.2.2.2.2.2.2.2.2.2.2.2.2.2.2.1 d.2.2.2.2.2.2.2.2.2.2.2.2.2.2.2.2.2.2.2.1 d.2.2.2.2.2.2.2.2.2.2.2.2.2.2.2.2.2.2.2.2.1 d.2.2.2.2.2.2.2.2.2.2.2.2.2.2.2.2.2.2.2.2.2.1 d.2.2.2.2.2.2.2.2.2.2.2.2.2.2.2.2.2.2.2.2.2.2.1 d.2.2.2.2.2.2.2.2.2.2.2.2.2.2.2.2.2.2.2.2.2.2.2.1 d.2.2.2.2.2.2.2.2.2.2.2.2.2.2.2.2.2.2.2.2.2.2.2.2.1 d.2.2.2.2.2.2.2.2.2.2.2.2.2.2.2.2.2.2.2.2.2.2.2.2.2.1 d.2.2.2.2.2.2.2.2.2.2.2.2.2.2.2.2.2.2.2.2.2.2.2.2.2.2.1 d.2.2.2.2.2.2.2.2.2.2.2.2.2.2.2.2.2.2.2.2.2.2.2.2.2.2.2
theorem eN : Nonempty epsT := by walk_at "ne_all"
@[irreducible] noncomputable def eK : epsT := Pk epsT eN epsQ
@[irreducible] noncomputable def z := eK.2.1
@[irreducible] noncomputable def l := eK.2.2.2.2.1
@[irreducible] noncomputable def kf := eK.2.2.2.2.2.1
@[irreducible] noncomputable def its := eK.2.2.2.2.2.2.1
@[irreducible] noncomputable def ns := eK.2.2.2.2.2.2.2.1
@[irreducible] noncomputable def e := eK.2.2.2.2.2.2.2.2.1
@[irreducible] noncomputable def x := eK.2.2.2.2.2.2.2.2.2.1
@[irreducible] noncomputable def tx := eK.2.2.2.2.2.2.2.2.2.2.1
@[irreducible] noncomputable def ex := eK.2.2.2.2.2.2.2.2.2.2.2.1
@[irreducible] noncomputable def V := eK.2.2.2.2.2.2.2.2.2.2.2.2.1
theorem eC : epsX.1 eK.1 z eK.2.2.1 eK.2.2.2.1 l kf its ns e x tx ex V eK.2.2.2.2.2.2.2.2.2.2.2.2.2.1 eK.2.2.2.2.2.2.2.2.2.2.2.2.2.2.1 eK.2.2.2.2.2.2.2.2.2.2.2.2.2.2.2.1 eK.2.2.2.2.2.2.2.2.2.2.2.2.2.2.2.2.1 eK.2.2.2.2.2.2.2.2.2.2.2.2.2.2.2.2.2.1 eK.2.2.2.2.2.2.2.2.2.2.2.2.2.2.2.2.2.2.1 eK.2.2.2.2.2.2.2.2.2.2.2.2.2.2.2.2.2.2.2.1 eK.2.2.2.2.2.2.2.2.2.2.2.2.2.2.2.2.2.2.2.2.1 eK.2.2.2.2.2.2.2.2.2.2.2.2.2.2.2.2.2.2.2.2.2.1 eK.2.2.2.2.2.2.2.2.2.2.2.2.2.2.2.2.2.2.2.2.2.2.1 eK.2.2.2.2.2.2.2.2.2.2.2.2.2.2.2.2.2.2.2.2.2.2.2.1 eK.2.2.2.2.2.2.2.2.2.2.2.2.2.2.2.2.2.2.2.2.2.2.2.2.1 eK.2.2.2.2.2.2.2.2.2.2.2.2.2.2.2.2.2.2.2.2.2.2.2.2.2.1 eK.2.2.2.2.2.2.2.2.2.2.2.2.2.2.2.2.2.2.2.2.2.2.2.2.2.2.1 eK.2.2.2.2.2.2.2.2.2.2.2.2.2.2.2.2.2.2.2.2.2.2.2.2.2.2.2 := by
  dsimp only [epsX]
  intro hi hlen hoff hkey hkm hkey2 B F X N T cL cY cS hdp hun
  dsimp only [List.nil_append, List.cons_append] at N
  have hln := hi.length
  k_with_none
  k_with "call ref" => (first | ((with_reducible show wpAny _ _ (call (Value.ref 81) _ _) _ _ _); ((k_dflt (refine' Spec.use0 (bisR_spec l kf its ns e (V x) _ _ ex V hi hlen hkey2) ?uAB ?uAF ?uAX ?uAN ?uAT ?uAk ?uA1 ?uA2 ?uA3 ?uAd ?uAu ?uAe ?uAK; (case uAB => k_asm); (case uAF => k_asm); (case uAX => k_asm); (case uAN => k_asm); (case uAT => k_asm); (case uAk => first | exact rfl | assumption); (case uA1 => assumption); (case uA2 => assumption); (case uA3 => assumption); (case uAd => ktr_room); (case uAu => ktr_units); (case uAe => walk_at "sub"); k_whole)); (intro v' mu' new' h' tk' hR' F' N' ap'); (obtain ⟨e1', e2', t', e3'⟩ := hR'); subst e1'; subst e2'; subst e3'; (try dsimp only [List.nil_append, List.cons_append] at N'); clear ap'; (try k_sweep))) | ((k_dflt (refine' Spec.use0 (hkey x (.head _) _) ?uBB ?uBF ?uBX ?uBN ?uBT ?uBk ?uB1 ?uB2 ?uB3 ?uBd ?uBu ?uBe ?uBK; (case uBB => k_asm); (case uBF => k_asm); (case uBX => k_asm); (case uBN => k_asm); (case uBT => k_asm); (case uBk => first | exact rfl | assumption); (case uB1 => assumption); (case uB2 => assumption); (case uB3 => assumption); (case uBd => ktr_room); (case uBu => ktr_units); (case uBe => walk_at "sub"); k_whole)); (intro v' mu' new' h' tk' hR' F' N' ap'); (obtain ⟨e1', e2', t', e3'⟩ := hR'); subst e1'; subst e2'; subst e3'; (try dsimp only [List.nil_append, List.cons_append] at N'); clear ap'; (try k_sweep)))
  have hk := bis_le (fun i => decide (V x < V (ns.getD i 0))) ns.length 0 ns.length (Nat.zero_le _)
  have hfit : Builtin.List.listFitsIndex ((bis (fun i => decide (V x < V (ns.getD i 0))) ns.length 0 ns.length : Nat) : Int) = true := by
    unfold Builtin.List.listFitsIndex
    simp only [Bool.and_eq_true, decide_eq_true_eq]
    omega
  k_with "call builtin:list.insert" => ((k_dflt (refine' kl_insert (l := kl_ins its _ (.int x tx)) ?F ?N ?f ?e ?U ?z ?_; (case F => k_asm); (case N => k_asm); (case U => exact .head hoff); (case f => exact hfit); (case e => rfl); (case z => (show its.length ≤ _; rw [PySem.sizeLine_eq]; omega)))); intro h' F' N')
  k_steps
  rename News _ _ _ _ => N'
  rename Fr _ _ _ _ => F'
  show Fin _ _ _ _ _ _ _ _
  refine Fin.intro F' N' [(l, W.listOf _ _)] [] (fun _ h => h) rfl (by intro _ _ _ h; cases h) ⟨_, _, rfl, rfl, ins_ints hi hk, rfl⟩
end insort_spec
theorem insort_spec {w : World} {z : Env0} {nd : Nat} {nu : Nat} (l : Nat) (kf : Nat) (its : List Value) (ns : List Int) (e : Nat) (x : Int) (tx : Tok) (ex : Led) (V : Int → Int) (hi : IntsAre its ns) (hlen : ns.length ≤ 8) (hoff : ∀ p ∈ ex, @Ne Nat p.1 l) (hkey : KeyOk w z nd nu kf (x :: ns) ex (fun n t => .int (V n) t)) : Spec w z (nd + 2) (nu + 6) (.ref 72) [.ref l, .int x tx] [(Str.ofString "key", .ref kf)] [(l, W.listOf its.toArray e)] ex
    (fun mu' new v => ∃ its' e', mu' = [(l, W.listOf its'.toArray e')] ∧ new = [] ∧ IntsAre its' (insAt ns (bis (fun i => decide (V x < V (ns.getD i 0))) ns.length 0 ns.length) x) ∧ v = .none) := insort_spec.epsX.2 (fun w z nd nu l kf its ns e x tx ex V oc od fd sl dp un gd outer A₀ base g L h₁ s tk => Pk.all (T := insort_spec.epsT) (ne := insort_spec.eN) (Q := insort_spec.epsQ) (by with_unfolding_all exact insort_spec.eC) (w, z, nd, nu, l, kf, its, ns, e, x, tx, ex, V, oc, od, fd, sl, dp, un, gd, outer, A₀, base, g, L, h₁, s, tk)) w z nd nu l kf its ns e x tx ex V hi hlen hoff hkey
end
section
theorem Spec.apart {w : World} {z : Env0} {nd nu : Nat} {f : Value} {vs : List Value} {kw : List (Str × Value)} {mu ex : Led} {R : Led → Led → Value → Prop} (h : Apart ex mu → Spec w z nd nu f vs kw mu ex R) : Spec w z nd nu f vs kw mu ex R :=
  fun dp un gd cn cs a ccd cl outer A₀ base h₀ L m led s Q E B F X N T hk C hd hu hex ap k => h (fun p hp => ap p (hex p hp)) dp un gd cn cs a ccd cl outer A₀ base h₀ L m led s Q E B F X N T hk C hd hu hex ap k
structure RowsD where
  rl : Nat
  e : Nat
  ad : Int → Nat
  dat : Int → RowD
noncomputable abbrev RowsD.led (r : RowsD) : Led := [(r.rl, W.listOf [Value.ref (r.ad 0), .ref (r.ad 1), .ref (r.ad 2), .ref (r.ad 3)].toArray r.e), (r.ad 0, rowO (r.dat 0)), (r.ad 1, rowO (r.dat 1)), (r.ad 2, rowO (r.dat 2)), (r.ad 3, rowO (r.dat 3))]
structure RowsD.Ok (r : RowsD) : Prop where
  ok : ∀ n : Int, 0 ≤ n → n ≤ 3 → (r.dat n).Ok
structure KeysD where
  kl : Nat
  e : Nat
  ka : Nat
  kb : Nat
  kc : Nat
  c0 : Int
  d0 : Int
  c1 : Int
  d1 : Int
  c2 : Int
  d2 : Int
  tc0 : Tok
  td0 : Tok
  tc1 : Tok
  td1 : Tok
  tc2 : Tok
  td2 : Tok
noncomputable abbrev KeysD.led (k : KeysD) : Led := [(k.kl, W.listOf #[.ref k.ka, .ref k.kb, .ref k.kc] k.e), (k.ka, tupleO [.int k.c0 k.tc0, .int k.d0 k.td0]), (k.kb, tupleO [.int k.c1 k.tc1, .int k.d1 k.td1]), (k.kc, tupleO [.int k.c2 k.tc2, .int k.d2 k.td2])]
noncomputable abbrev KeysD.ks (k : KeysD) : List (Int × Int) := [(k.c0, k.d0), (k.c1, k.d1), (k.c2, k.d2)]
structure KeysD.Ok (k : KeysD) : Prop where
  h00 : 0 ≤ k.c0
  h03 : k.c0 ≤ 3
  h10 : 0 ≤ k.c1
  h13 : k.c1 ≤ 3
  h20 : 0 ≤ k.c2
  h23 : k.c2 ≤ 3
structure WalkD where
  self : Nat
  dx : Nat
  n1 : Nat
  hsh : Int
  tk0 : Tok
noncomputable abbrev WalkD.led (o : WalkD) (k : KeysD) : Led := [(o.self, instO o.dx), (o.dx, dictOf [⟨o.hsh, .str (Str.ofString "comp_select_list") o.tk0, .ref k.kl⟩] o.n1)]
section
variable {prog : Program} {w : World} {A : Around} {E : Value → Shared → Prop} {s : Shared} {h₀ : Heap} {L : Addr} {news : Led} {Q : Value → Shared → Prop}
theorem rows_item {value slice : PySem.Expr} {r : RowsD} {n : Int} {u : Tok} (N : News h₀ L s.heap news) (hm : (r.rl, W.listOf [Value.ref (r.ad 0), .ref (r.ad 1), .ref (r.ad 2), .ref (r.ad 3)].toArray r.e) ∈ news) (h0 : 0 ≤ n) (h3 : n ≤ 3) (h : Q (.ref (r.ad n)) s)
    (hs : subscripted slice false (.ref r.rl) (.int n u) = operate [.ref r.rl, .int n u] (getItem (.ref r.rl) (.int n u)) := by with_unfolding_all rfl) (hg : ∀ r', letTemporaryGo value (.ref r.rl) r' = pure () := by intro _; with_unfolding_all rfl) :
    wpAny (model prog w) A (subscriptTail value slice (.ref r.rl) (.int n u)) Q E s := by
  refine item_listL (News.isList N hm) h0 (by omega) (x := .ref (r.ad n)) ?_ h hs hg
  have : n = 0 ∨ n = 1 ∨ n = 2 ∨ n = 3 := by first | exact orN4 (by omega) | exact orI4 (by omega) (by omega)
  rcases this with rfl | rfl | rfl | rfl <;> rfl
end
theorem rows_mem {r : RowsD} {n : Int} (h0 : 0 ≤ n) (h3 : n ≤ 3) : (r.ad n, rowO (r.dat n)) ∈ r.led := by
  have : n = 0 ∨ n = 1 ∨ n = 2 ∨ n = 3 := by first | exact orN4 (by omega) | exact orI4 (by omega) (by omega)
  rcases this with rfl | rfl | rfl | rfl
  · exact .tail _ (.head _)
  · exact .tail _ (.tail _ (.head _))
  · exact .tail _ (.tail _ (.tail _ (.head _)))
  · exact .tail _ (.tail _ (.tail _ (.tail _ (.head _))))
section
variable {w : World} {z : Env0} {nd nu : Nat} {l kf : Nat} {its : List Value} {ns : List Int} {e : Nat} {x : Int} {tx : Tok} {V : Int → Int} {dp un : Nat} {gd : Option (List Code)} {cn : Str} {cs : Scope} {a : Addr} {ccd : Value} {cl : List (Str × Addr)} {outer : List Env} {A₀ : Around}
  {base h₀ : Heap} {L : Addr} {m : Str → Option Value} {s : Shared} {Q E : Value → Shared → Prop} {all ex : Led} {g : Obj → Led}
theorem insort_use (B : Below A₀ base outer h₀) (F : Fr h₀ L s.heap m) (X : (hd.heap_1 w.params).In h₀) (N : News h₀ L s.heap all) (T : Top z.p z.loose z.mean z.mg z.mb h₀) (hk : cs.kind = .function)
    (c1 : CodeHd base 166 162) (c2 : CodeHd base 145 141) (c3 : CodeHd base 138 134) (U : UpdF l (W.listOf its.toArray e) all g) (hi : IntsAre its ns) (hlen : ns.length ≤ 8)
    (hkey : KeyOk w z nd nu kf (x :: ns) ex (fun n t => .int (V n) t)) (hex : ∀ p ∈ ex, p ∈ all) (hoff : ∀ p ∈ ex, @Ne Nat p.1 l)
    (hd : dp + (nd + 2) < recursionLimit) (hu : un + (nu + 6) < cLine)
    (k : ∀ (its' : List Value) (e' : Nat) (h' : Heap) (tk' : Nat), IntsAre its' (insAt ns (bis (fun i => decide (V x < V (ns.getD i 0))) ns.length 0 ns.length) x) → Fr h₀ L h' m → News h₀ L h' (g (W.listOf its'.toArray e')) → Q .none { s with heap := h', toks := tk' }) :
    wpAny (model PySem.Challenge.rw_wf0038_01.prog w) (ktrTop dp un gd cn cs L a ccd cl outer) (call (.ref 72) [.ref l, .int x tx] [(Str.ofString "key", .ref kf)]) Q E s := by
  obtain ⟨pre, post, rfl, hg, a1, a2⟩ := U.split
  have hpp : ∀ p ∈ ex, p ∈ pre ++ post := fun p hp => by
    rcases List.mem_append.mp (hex p hp) with h | h
    · exact List.mem_append_left _ h
    · rcases List.mem_cons.mp h with rfl | h
      · exact absurd rfl (hoff _ hp)
      · exact List.mem_append_right _ h
  refine Spec.use (led := pre ++ post) (insort_spec l kf its ns e x tx ex V hi hlen hoff hkey) B F X N T hk c1 c2 c3 hd hu (fun p hp => ?_) hpp (fun p hp q hq => ?_) (fun v mu' new h' tk' hR F' N' _ => ?_)
  · rcases List.mem_cons.mp hp with rfl | hp
    · exact List.mem_append_right _ (.head _)
    · have hp' : p ∈ pre ++ post := hp
      rcases List.mem_append.mp hp' with h | h
      · exact List.mem_append_left _ h
      · exact List.mem_append_right _ (.tail _ h)
  · rcases List.mem_singleton.mp hq with rfl
    rcases List.mem_append.mp hp with h | h
    · exact a1 p h
    · exact a2 p h
  · obtain ⟨its', e', rfl, rfl, hi', rfl⟩ := hR
    refine k its' e' h' tk' hi' F' (sub_news (l := (l, W.listOf its'.toArray e') :: (pre ++ post)) N' fun p hp => ?_)
    rw [hg] at hp
    rcases List.mem_append.mp hp with h | h
    · exact .tail _ (List.mem_append_left _ h)
    · rcases List.mem_cons.mp h with rfl | h
      · exact .head _
      · exact .tail _ (List.mem_append_right _ h)
end
end
section
noncomputable abbrev layQ : Str := (Str.ofString "_law_lay" ++ Str.ofString ".<locals>.") ++ Str.ofString "<lambda>"
namespace lay_cold
noncomputable def epsX : { P : World → Env0 → Nat → (List Value) → (List Int) → Nat → Int → Tok → RowsD → WalkD → KeysD → Nat → Nat → (Option (List Code)) → (List Env) → Around → Heap → Heap → Addr → Heap → Shared → Nat → Obj → Obj → Obj → Prop // (∀ w z l its ns e p u r o k dp un gd outer A₀ base g L h₁ s tk co0 co1 co2, P w z l its ns e p u r o k dp un gd outer A₀ base g L h₁ s tk co0 co1 co2) → ∀ (w : World) (z : Env0) (l : Nat) (its : List Value) (ns : List Int) (e : Nat) (p : Int) (u : Tok) (r : RowsD) (o : WalkD) (k : KeysD) (hi : IntsAre its ns) (hlen : ns.length ≤ 8) (hns : ∀ n ∈ ns, 0 ≤ n ∧ n ≤ 3) (hp : 0 ≤ p ∧ p ≤ 3) (ro : r.Ok) (ko : k.Ok), Spec w z 20 100 (.ref 146) [.ref l, .int p u, .ref r.rl, .ref o.self] [] [(l, W.listOf its.toArray e), (141, tabObj #[])] (r.led ++ (o.led k ++ k.led))
    (fun mu' new v => ∃ c' oc ovs qt its' e', mu' = [(l, W.listOf its'.toArray e'), (141, tabObj #[rawInt 106, rawInt 34, .ref c'])] ∧ new = [(c', oc)] ∧ oc.data = .fields ovs ∧ ovs[1]? = some (.str layQ qt) ∧ IntsAre its' (insAt ns (bis (fun i => decide (cmpK (r.dat p) (r.dat p) k.ks < cmpK (r.dat (ns.getD i 0)) (r.dat p) k.ks)) ns.length 0 ns.length) p) ∧ v = .none) } := ⟨_, by
  intro h_eps w z l its ns e p u r o k hi hlen hns hp ro ko
  refine Spec.apart fun ap0 => ?_
  (k_dflt (refine' spec_defC (binds := [(Str.ofString "laid", .ref l), (Str.ofString "place", .int p u), (Str.ofString "rows", .ref r.rl), (Str.ofString "walk", .ref o.self)]) ?ho ?hcd ?hb ?hl ?hn ?h ?c2 ?c3 ?c4; (case ho => k_is); (case hcd => k_is); (case hb => intro s' X'; first | exact BindsTo.of_eq rfl | exact binds_K X' rfl (by k_is) rfl rfl rfl); (case hl => exact rfl); (case hn => decide +kernel); (case c2 => exact rfl); (case c3 => exact rfl); (case c4 => exact rfl)); (intro dp un gd outer A₀ base g L h₁ s tk cells B F X N Y T C hdp hun l1; obtain ⟨cL, cY, cS⟩ := C; (try dsimp only [List.nil_append, List.cons_append] at l1); (try k_lt l1); (revert N; refine celim3 Y ?_; intro co0 co1 co2 cd0 cd1 cd2 N); clear Y; replace cd0 : co0.data = Data.cell (some (.ref o.self)) := cd0; replace cd1 : co1.data = Data.cell (some (.ref r.rl)) := cd1; replace cd2 : co2.data = Data.cell (some (.int p u)) := cd2; replace F : Fr g L h₁ (kstB (fun _ => none) [(Str.ofString "laid", .ref l)]) := F; (try dsimp only [List.nil_append, List.cons_append] at N)))
  revert cd2; revert cd1; revert cd0; revert l1; revert hun; revert hdp; revert cS; revert cY; revert cL; revert T; revert N; revert X; revert F; revert B; revert ap0; revert ko; revert ro; revert hp; revert hns; revert hlen; revert hi
  exact h_eps w z l its ns e p u r o k dp un gd outer A₀ base g L h₁ s tk co0 co1 co2⟩
noncomputable abbrev epsT : Type := World × Env0 × Nat × (List Value) × (List Int) × Nat × Int × Tok × RowsD × WalkD × KeysD × Nat × Nat × (Option (List Code)) × (List Env) × Around × Heap × Heap × Addr × Heap × Shared × Nat × Obj × Obj × Obj
noncomputable abbrev epsQ : epsT → Prop := fun d => epsX.1 d.1 d.2.1 d.2.2.1 d.2.2.2.1 d.2.2.2.2.1 d.2.2.2.2.2.1 d.2.2.2.2.2.2.1 d.2.2.2.2.2.2.2.1 d.2.2.2.2.2.2.2.2.1 d.2.2.2.2.2.2.2.2.2.1 d.2.2.2.2.2.2.2.2.2.2.1 d.2.2.2.2.2.2.2.2.2.2.2.1 d.2.2.2.2.2.2.2.2.2.2.2.2.1 d.2.2.2.2.2.2.2.2.2.2.2.2.2.1 d.2.2.2.2.2.2.2.2.2.2.2.2.2.2.1 d.2.2.2.2.2.2.2.2.2.2.2.2.2.2.2.1 d.2.2.2.2.2.2.2.2.2.2.2.2.2.2.2.2.1 d.2.2.2.2.2.2.2.2.2.2.2.2.2.2.2.2.2.1 d.2.2.2.2.2.2.2.2.2.2.2.2.2.2.2.2.2.2.1 d.2.2.2.2.2.2.2.2.2.2.2.2.2.2.2.2.2.2.2.1 d.2.2.2.2.2.2.2.2.2.2.2.2.2.2.2.2.2.2.2.2.1 d.2.2.2.2.2.2.2.2.2.2.2.2.2.2.2.2.2.2.2.2.2.1 d.2.2.2.2.2.2.2.2.2.2.2.2.2.2.2.2.2.2.2.2.2.2.1 d.2.2.2.2.2.2.2.2.2.2.2.2.2.2.2.2.2.2.2.2.2.2.2.1 d.2.2.2.2.2.2.2.2.2.2.2.2.2.2.2.2.2.2.2.2.2.2.2.2
theorem eN : Nonempty epsT := by walk_at "ne_all"
@[irreducible] noncomputable def eK : epsT := Pk epsT eN epsQ
@[irreducible] noncomputable def l := eK.2.2.1
@[irreducible] noncomputable def e := eK.2.2.2.2.2.1
@[irreducible] noncomputable def p := eK.2.2.2.2.2.2.1
@[irreducible] noncomputable def r := eK.2.2.2.2.2.2.2.2.1
@[irreducible] noncomputable def o := eK.2.2.2.2.2.2.2.2.2.1
@[irreducible] noncomputable def k := eK.2.2.2.2.2.2.2.2.2.2.1
@[irreducible] noncomputable def dp := eK.2.2.2.2.2.2.2.2.2.2.2.1
@[irreducible] noncomputable def un := eK.2.2.2.2.2.2.2.2.2.2.2.2.1
@[irreducible] noncomputable def gd := eK.2.2.2.2.2.2.2.2.2.2.2.2.2.1
@[irreducible] noncomputable def outer := eK.2.2.2.2.2.2.2.2.2.2.2.2.2.2.1
@[irreducible] noncomputable def A₀ := eK.2.2.2.2.2.2.2.2.2.2.2.2.2.2.2.1
@[irreducible] noncomputable def base := eK.2.2.2.2.2.2.2.2.2.2.2.2.2.2.2.2.1
@[irreducible] noncomputable def g := eK.2.2.2.2.2.2.2.2.2.2.2.2.2.2.2.2.2.1
@[irreducible] noncomputable def L := eK.2.2.2.2.2.2.2.2.2.2.2.2.2.2.2.2.2.2.1
@[irreducible] noncomputable def h₁ := eK.2.2.2.2.2.2.2.2.2.2.2.2.2.2.2.2.2.2.2.1
@[irreducible] noncomputable def s := eK.2.2.2.2.2.2.2.2.2.2.2.2.2.2.2.2.2.2.2.2.1
@[irreducible] noncomputable def tk := eK.2.2.2.2.2.2.2.2.2.2.2.2.2.2.2.2.2.2.2.2.2.1
@[irreducible] noncomputable def co0 := eK.2.2.2.2.2.2.2.2.2.2.2.2.2.2.2.2.2.2.2.2.2.2.1
@[irreducible] noncomputable def co1 := eK.2.2.2.2.2.2.2.2.2.2.2.2.2.2.2.2.2.2.2.2.2.2.2.1
@[irreducible] noncomputable def co2 := eK.2.2.2.2.2.2.2.2.2.2.2.2.2.2.2.2.2.2.2.2.2.2.2.2
theorem eC : epsX.1 eK.1 eK.2.1 l eK.2.2.2.1 eK.2.2.2.2.1 e p eK.2.2.2.2.2.2.2.1 r o k dp un gd outer A₀ base g L h₁ s tk co0 co1 co2 := by
  dsimp only [epsX]
  intro hi hlen hns hp ro ko ap0 B F X N T cL cY cS hdp hun l1 cd0 cd1 cd2
  have hln := hi.length
  have hl141 : @Ne Nat l 141 := fun e => by
    have h2 := congrArg Obj.cls (News.one N (p := (l, _)) (q := (141, _)) (.tail _ (.tail _ (.tail _ (.head _)))) (.tail _ (.tail _ (.tail _ (.tail _ (.head _))))) e)
    cases h2
  have d1 : ∀ q ∈ r.led ++ (o.led k ++ k.led), @Ne Nat q.1 l := fun q hq => ap0 q hq _ (.head _)
  have d2 : ∀ q ∈ r.led ++ (o.led k ++ k.led), @Ne Nat q.1 141 := fun q hq => ap0 q hq _ (.tail _ (.head _))
  have d1' := d1
  simp only [RowsD.led, WalkD.led, KeysD.led, List.cons_append, List.nil_append, List.forall_mem_cons] at d1 d2
  obtain ⟨a1, a2, a3, a4, a5, a6, a7, a8, a9, a10, a11, -⟩ := d1
  obtain ⟨b1, b2, b3, b4, b5, b6, b7, b8, b9, b10, b11, -⟩ := d2
  clear ap0
  simp only [RowsD.led, WalkD.led, KeysD.led, List.cons_append, List.nil_append] at N
  k_with_none
  k_with "mycall" => (refine Stop.go ?_)
  k_with "subscriptTail Name Name ref int" => (k_dflt (refine rows_item (r := r) (by k_asm) (by k_mem) (by first | exact hn3.1 | exact hp.1) (by first | exact hn3.2 | exact hp.2) ?_))
  k_steps
  refine Stop.mk ?_
  rename News _ _ _ _ => N'
  rename _ = Data.fields _ => e1
  rename _[1]? = _ => e2
  refine insort_use (nd := 12) (nu := 40) (V := fun n => cmpK (r.dat n) (r.dat p) k.ks) (ex := _ :: _ :: (L + 1 + 1 + 1, co0) :: (L + 1 + 1, co1) :: (L + 1, co2) :: (r.led ++ (o.led k ++ k.led))) B (by k_asm) X N' T rfl cL cY cS (.tail (by k_ne) (.tail (by k_ne) (.tail (by k_ne) (.tail (by k_ne) (.tail (by k_ne) (.head (all_cons.mpr ⟨hl141.symm, d1'⟩))))))) hi hlen ?hkey (all_cons.mpr ⟨.head _, all_cons.mpr ⟨.tail _ (.head _), all_cons.mpr ⟨.tail _ (.tail _ (.head _)), all_cons.mpr ⟨.tail _ (.tail _ (.tail _ (.head _))), all_cons.mpr ⟨.tail _ (.tail _ (.tail _ (.tail _ (.head _)))), fun _ h => .tail _ (.tail _ (.tail _ (.tail _ (.tail _ (.tail _ (.tail _ h))))))⟩⟩⟩⟩⟩) ?hoff (by ktr_room) (by ktr_units) ?k
  case hoff => exact all_cons.mpr ⟨by k_ne, all_cons.mpr ⟨by k_ne, all_cons.mpr ⟨by k_ne, all_cons.mpr ⟨by k_ne, all_cons.mpr ⟨by k_ne, d1'⟩⟩⟩⟩⟩
  case hkey =>
    refine ⟨⟨_, _, _, _, .head _⟩, fun n hn t => ?_⟩
    have hn3 : 0 ≤ n ∧ n ≤ 3 := by
      rcases List.mem_cons.mp hn with rfl | h
      · exact hp
      · exact hns n h
    refine spec_lam (nd := 11) (nu := 37) [(Str.ofString "one", .int n t)] (.head _) (.tail _ (.head _)) e1 e2 rfl (locs rfl) ?_ rfl rfl rfl (by decide)
    clear N' N F a1 a2 a3 a4 a5 a6 a7 a8 a9 a10 a11 b1 b2 b3 b4 b5 b6 b7 b8 b9 b10 b11 d1' l1 hl141
    intro dp un gd outer A₀ base g L h₁ s tk B F X N T C hdp hun
    obtain ⟨cL, cY, cS⟩ := C
    replace N := sub_news (l' := (r.ad n, rowO (r.dat n)) :: (r.ad p, rowO (r.dat p)) :: _) N (all_cons.mpr ⟨.tail _ (.tail _ (.tail _ (.tail _ (.tail _ (List.mem_append_left _ (rows_mem hn3.1 hn3.2)))))), all_cons.mpr ⟨.tail _ (.tail _ (.tail _ (.tail _ (.tail _ (List.mem_append_left _ (rows_mem hp.1 hp.2)))))), fun _ h => h⟩⟩)
    simp only [RowsD.led, WalkD.led, KeysD.led, List.cons_append, List.nil_append] at N
    have oa := ro.ok n hn3.1 hn3.2
    have ob := ro.ok p hp.1 hp.2
    obtain ⟨y0, y1, y2, y3, y4, y5⟩ := ko
    k_steps
    refine Stop.mk ?_
    (k_dflt (refine' Spec.useT (compare_spec o.self o.dx k.kl k.ka k.kb k.kc (r.ad n) (r.ad p) (r.dat n) (r.dat p) k.c0 k.c1 k.c2 k.d0 k.d1 k.d2 k.tc0 k.tc1 k.tc2 k.td0 k.td1 k.td2 k.e o.n1 o.hsh o.tk0 oa ob y0 y1 y2 y3 y4 y5) (by k_asm) (by k_asm) (by k_asm) (by k_asm) (by k_asm) (by first | exact rfl | assumption) (by assumption) (by assumption) (by assumption) (by ktr_room) (by ktr_units) (by walk_at "sub") ?_; k_whole); intros; (try k_sweep))
    k_steps
    rename News _ _ _ _ => N'
    rename Fr _ _ _ _ => F'
    exact Fin.intro F' N' [] [] (fun _ h => .tail _ (.tail _ h)) rfl (by intro _ _ _ h; cases h) ⟨rfl, rfl, _, rfl⟩
  case k =>
    intro its' e' h' tk' hi' F' N'
    k_steps
    rename News _ _ _ _ => N'
    rename Fr _ _ _ _ => F'
    refine Fin.intro F' N' [(l, W.listOf its'.toArray e'), (141, tabObj #[rawInt 106, rawInt 34, .ref _])] [(_, _)] (all_cons.mpr ⟨.tail _ (.tail _ (.tail _ (.tail _ (.tail _ (.head _))))), all_cons.mpr ⟨.tail _ (.tail _ (.tail _ (.tail _ (.tail _ (.tail _ (.head _)))))), all_cons.mpr ⟨.tail _ (.head _), fun _ h => .tail _ (.tail _ (.tail _ (.tail _ (.tail _ (.tail _ (.tail _ h))))))⟩⟩⟩) rfl ?_ ⟨_, _, _, _, _, _, rfl, rfl, e1, e2, hi', rfl⟩
    rename _ + 1 + 1 + 1 < _ ∧ _ => q1
    clear a1 a2 a3 a4 a5 a6 a7 a8 a9 a10 a11 b1 b2 b3 b4 b5 b6 b7 b8 b9 b10 b11 d1' hl141 l1
    intro p hp q hq
    rcases List.mem_singleton.mp hq with rfl
    simp only [RowsD.led, WalkD.led, KeysD.led, List.cons_append, List.nil_append, List.mem_cons, List.not_mem_nil, or_false] at hp
    rcases hp with rfl | rfl | rfl | rfl | rfl | rfl | rfl | rfl | rfl | rfl | rfl | rfl | rfl <;> (show @Ne Nat _ _; k_ne)
end lay_cold
theorem lay_cold {w : World} {z : Env0} (l : Nat) (its : List Value) (ns : List Int) (e : Nat) (p : Int) (u : Tok) (r : RowsD) (o : WalkD) (k : KeysD) (hi : IntsAre its ns) (hlen : ns.length ≤ 8) (hns : ∀ n ∈ ns, 0 ≤ n ∧ n ≤ 3) (hp : 0 ≤ p ∧ p ≤ 3) (ro : r.Ok) (ko : k.Ok) : Spec w z 20 100 (.ref 146) [.ref l, .int p u, .ref r.rl, .ref o.self] [] [(l, W.listOf its.toArray e), (141, tabObj #[])] (r.led ++ (o.led k ++ k.led))
    (fun mu' new v => ∃ c' oc ovs qt its' e', mu' = [(l, W.listOf its'.toArray e'), (141, tabObj #[rawInt 106, rawInt 34, .ref c'])] ∧ new = [(c', oc)] ∧ oc.data = .fields ovs ∧ ovs[1]? = some (.str layQ qt) ∧ IntsAre its' (insAt ns (bis (fun i => decide (cmpK (r.dat p) (r.dat p) k.ks < cmpK (r.dat (ns.getD i 0)) (r.dat p) k.ks)) ns.length 0 ns.length) p) ∧ v = .none) := lay_cold.epsX.2 (fun w z l its ns e p u r o k dp un gd outer A₀ base g L h₁ s tk co0 co1 co2 => Pk.all (T := lay_cold.epsT) (ne := lay_cold.eN) (Q := lay_cold.epsQ) (by with_unfolding_all exact lay_cold.eC) (w, z, l, its, ns, e, p, u, r, o, k, dp, un, gd, outer, A₀, base, g, L, h₁, s, tk, co0, co1, co2)) w z l its ns e p u r o k hi hlen hns hp ro ko
end
section
namespace lay_hot
noncomputable def epsX : { P : World → Env0 → Nat → (List Value) → (List Int) → Nat → Int → Tok → RowsD → WalkD → KeysD → Nat → Obj → (Array Value) → Tok → Nat → Nat → (Option (List Code)) → (List Env) → Around → Heap → Heap → Addr → Heap → Shared → Nat → Obj → Obj → Obj → Prop // (∀ w z l its ns e p u r o k c' oc ovs qt dp un gd outer A₀ base g L h₁ s tk co0 co1 co2, P w z l its ns e p u r o k c' oc ovs qt dp un gd outer A₀ base g L h₁ s tk co0 co1 co2) → ∀ (w : World) (z : Env0) (l : Nat) (its : List Value) (ns : List Int) (e : Nat) (p : Int) (u : Tok) (r : RowsD) (o : WalkD) (k : KeysD) (hi : IntsAre its ns) (hlen : ns.length ≤ 8) (hns : ∀ n ∈ ns, 0 ≤ n ∧ n ≤ 3) (hp : 0 ≤ p ∧ p ≤ 3) (ro : r.Ok) (ko : k.Ok) (c' : Nat) (oc : Obj) (ovs : Array Value) (qt : Tok) (e1 : oc.data = .fields ovs) (e2 : ovs[1]? = some (.str layQ qt)), Spec w z 20 100 (.ref 146) [.ref l, .int p u, .ref r.rl, .ref o.self] [] [(l, W.listOf its.toArray e)] ((141, tabObj #[rawInt 106, rawInt 34, .ref c']) :: (c', oc) :: (r.led ++ (o.led k ++ k.led)))
    (fun mu' new v => ∃ its' e', mu' = [(l, W.listOf its'.toArray e')] ∧ new = [] ∧ IntsAre its' (insAt ns (bis (fun i => decide (cmpK (r.dat p) (r.dat p) k.ks < cmpK (r.dat (ns.getD i 0)) (r.dat p) k.ks)) ns.length 0 ns.length) p) ∧ v = .none) } := ⟨_, by
  intro h_eps w z l its ns e p u r o k hi hlen hns hp ro ko c' oc ovs qt e1 e2
  refine Spec.apart fun ap0 => ?_
  (k_dflt (refine' spec_defC (binds := [(Str.ofString "laid", .ref l), (Str.ofString "place", .int p u), (Str.ofString "rows", .ref r.rl), (Str.ofString "walk", .ref o.self)]) ?ho ?hcd ?hb ?hl ?hn ?h ?c2 ?c3 ?c4; (case ho => k_is); (case hcd => k_is); (case hb => intro s' X'; first | exact BindsTo.of_eq rfl | exact binds_K X' rfl (by k_is) rfl rfl rfl); (case hl => exact rfl); (case hn => decide +kernel); (case c2 => exact rfl); (case c3 => exact rfl); (case c4 => exact rfl)); (intro dp un gd outer A₀ base g L h₁ s tk cells B F X N Y T C hdp hun l1; obtain ⟨cL, cY, cS⟩ := C; (try dsimp only [List.nil_append, List.cons_append] at l1); (try k_lt l1); (revert N; refine celim3 Y ?_; intro co0 co1 co2 cd0 cd1 cd2 N); clear Y; replace cd0 : co0.data = Data.cell (some (.ref o.self)) := cd0; replace cd1 : co1.data = Data.cell (some (.ref r.rl)) := cd1; replace cd2 : co2.data = Data.cell (some (.int p u)) := cd2; replace F : Fr g L h₁ (kstB (fun _ => none) [(Str.ofString "laid", .ref l)]) := F; (try dsimp only [List.nil_append, List.cons_append] at N)))
  revert cd2; revert cd1; revert cd0; revert l1; revert hun; revert hdp; revert cS; revert cY; revert cL; revert T; revert N; revert X; revert F; revert B; revert ap0; revert e2; revert e1; revert ko; revert ro; revert hp; revert hns; revert hlen; revert hi
  exact h_eps w z l its ns e p u r o k c' oc ovs qt dp un gd outer A₀ base g L h₁ s tk co0 co1 co2⟩
noncomputable abbrev epsT : Type := World × Env0 × Nat × (List Value) × (List Int) × Nat × Int × Tok × RowsD × WalkD × KeysD × Nat × Obj × (Array Value) × Tok × Nat × Nat × (Option (List Code)) × (List Env) × Around × Heap × Heap × Addr × Heap × Shared × Nat × Obj × Obj × Obj
noncomputable abbrev epsQ : epsT → Prop := fun d => epsX.1 d.1 d.2.1 d.2.2.1 d.2.2.2.1 d.2.2.2.2.1 d.2.2.2.2.2.1 d.2.2.2.2.2.2.1 d.2.2.2.2.2.2.2.1 d.2.2.2.2.2.2.2.2.1 d.2.2.2.2.2.2.2.2.2.1 d.2.2.2.2.2.2.2.2.2.2.1 d.2.2.2.2.2.2.2.2.2.2.2.1 d.2.2.2.2.2.2.2.2.2.2.2.2.1 d.2.2.2.2.2.2.2.2.2.2.2.2.2.1 d.2.2.2.2.2.2.2.2.2.2.2.2.2.2.1 d.2.2.2.2.2.2.2.2.2.2.2.2.2.2.2.1 d.2.2.2.2.2.2.2.2.2.2.2.2.2.2.2.2.1 d.2.2.2.2.2.2.2.2.2.2.2.2.2.2.2.2.2.1 d.2.2.2.2.2.2.2.2.2.2.2.2.2.2.2.2.2.2.1 d.2.2.2.2.2.2.2.2.2.2.2.2.2.2.2.2.2.2.2.1 d.2.2.2.2.2.2.2.2.2.2.2.2.2.2.2.2.2.2.2.2.1 d.2.2.2.2.2.2.2.2.2.2.2.2.2.2.2.2.2.2.2.2.2.1 d.2.2.2.2.2.2.2.2.2.2.2.2.2.2.2.2.2.2.2.2.2.2.1 d.2.2.2.2.2.2.2.2.2.2.2.2.2.2.2.2.2.2.2.2.2.2.2.1 d.2.2.2.2.2.2.2.2.2.2.2.2.2.2.2.2.2.2.2.2.2.2.2.2.1 d.2.2.2.2.2.2.2.2.2.2.2.2.2.2.2.2.2.2.2.2.2.2.2.2.2.1 d.2.2.2.2.2.2.2.2.2.2.2.2.2.2.2.2.2.2.2.2.2.2.2.2.2.2.1 d.2.2.2.2.2.2.2.2.2.2.2.2.2.2.2.2.2.2.2.2.2.2.2.2.2.2.2.1 d.2.2.2.2.2.2.2.2.2.2.2.2.2.2.2.2.2.2.2.2.2.2.2.2.2.2.2.2
theorem eN : Nonempty epsT := by walk_at "ne_all"
@[irreducible] noncomputable def eK : epsT := Pk epsT eN epsQ
@[irreducible] noncomputable def l := eK.2.2.1
@[irreducible] noncomputable def p := eK.2.2.2.2.2.2.1
@[irreducible] noncomputable def r := eK.2.2.2.2.2.2.2.2.1
@[irreducible] noncomputable def o := eK.2.2.2.2.2.2.2.2.2.1
@[irreducible] noncomputable def k := eK.2.2.2.2.2.2.2.2.2.2.1
@[irreducible] noncomputable def c' := eK.2.2.2.2.2.2.2.2.2.2.2.1
@[irreducible] noncomputable def oc := eK.2.2.2.2.2.2.2.2.2.2.2.2.1
@[irreducible] noncomputable def dp := eK.2.2.2.2.2.2.2.2.2.2.2.2.2.2.2.1
@[irreducible] noncomputable def un := eK.2.2.2.2.2.2.2.2.2.2.2.2.2.2.2.2.1
@[irreducible] noncomputable def gd := eK.2.2.2.2.2.2.2.2.2.2.2.2.2.2.2.2.2.1
@[irreducible] noncomputable def outer := eK.2.2.2.2.2.2.2.2.2.2.2.2.2.2.2.2.2.2.1
@[irreducible] noncomputable def A₀ := eK.2.2.2.2.2.2.2.2.2.2.2.2.2.2.2.2.2.2.2.1
@[irreducible] noncomputable def base := eK.2.2.2.2.2.2.2.2.2.2.2.2.2.2.2.2.2.2.2.2.1
@[irreducible] noncomputable def g := eK.2.2.2.2.2.2.2.2.2.2.2.2.2.2.2.2.2.2.2.2.2.1
@[irreducible] noncomputable def L := eK.2.2.2.2.2.2.2.2.2.2.2.2.2.2.2.2.2.2.2.2.2.2.1
@[irreducible] noncomputable def h₁ := eK.2.2.2.2.2.2.2.2.2.2.2.2.2.2.2.2.2.2.2.2.2.2.2.1
@[irreducible] noncomputable def s := eK.2.2.2.2.2.2.2.2.2.2.2.2.2.2.2.2.2.2.2.2.2.2.2.2.1
@[irreducible] noncomputable def tk := eK.2.2.2.2.2.2.2.2.2.2.2.2.2.2.2.2.2.2.2.2.2.2.2.2.2.1
@[irreducible] noncomputable def co0 := eK.2.2.2.2.2.2.2.2.2.2.2.2.2.2.2.2.2.2.2.2.2.2.2.2.2.2.1
@[irreducible] noncomputable def co1 := eK.2.2.2.2.2.2.2.2.2.2.2.2.2.2.2.2.2.2.2.2.2.2.2.2.2.2.2.1
@[irreducible] noncomputable def co2 := eK.2.2.2.2.2.2.2.2.2.2.2.2.2.2.2.2.2.2.2.2.2.2.2.2.2.2.2.2
theorem eC : epsX.1 eK.1 eK.2.1 l eK.2.2.2.1 eK.2.2.2.2.1 eK.2.2.2.2.2.1 p eK.2.2.2.2.2.2.2.1 r o k c' oc eK.2.2.2.2.2.2.2.2.2.2.2.2.2.1 eK.2.2.2.2.2.2.2.2.2.2.2.2.2.2.1 dp un gd outer A₀ base g L h₁ s tk co0 co1 co2 := by
  dsimp only [epsX]
  intro hi hlen hns hp ro ko e1 e2 ap0 B F X N T cL cY cS hdp hun l1 cd0 cd1 cd2
  have hln := hi.length
  have d1 : ∀ q ∈ (141, tabObj #[rawInt 106, rawInt 34, .ref c']) :: (c', oc) :: (r.led ++ (o.led k ++ k.led)), @Ne Nat q.1 l := fun q hq => ap0 q hq _ (.head _)
  clear ap0
  simp only [RowsD.led, WalkD.led, KeysD.led, List.cons_append, List.nil_append] at N
  k_with_none
  k_with "mycall" => (refine Stop.go ?_)
  k_with "subscriptTail Name Name ref int" => (k_dflt (refine rows_item (r := r) (by k_asm) (by k_mem) (by first | exact hn3.1 | exact hp.1) (by first | exact hn3.2 | exact hp.2) ?_))
  k_steps
  refine Stop.mk ?_
  rename News _ _ _ _ => N'
  refine insort_use (nd := 12) (nu := 40) (V := fun n => cmpK (r.dat n) (r.dat p) k.ks) (ex := _ :: (c', oc) :: (L + 1 + 1 + 1, co0) :: (L + 1 + 1, co1) :: (L + 1, co2) :: (r.led ++ (o.led k ++ k.led))) B (by k_asm) X N' T rfl cL cY cS (.tail (by k_ne) (.tail (by k_ne) (.tail (by k_ne) (.tail (by k_ne) (.head d1))))) hi hlen ?hkey (all_cons.mpr ⟨.head _, all_cons.mpr ⟨.tail _ (.tail _ (.tail _ (.tail _ (.tail _ (.tail _ (.head _)))))), all_cons.mpr ⟨.tail _ (.head _), all_cons.mpr ⟨.tail _ (.tail _ (.head _)), all_cons.mpr ⟨.tail _ (.tail _ (.tail _ (.head _))), fun _ h => .tail _ (.tail _ (.tail _ (.tail _ (.tail _ (.tail _ (.tail _ h))))))⟩⟩⟩⟩⟩) ?hoff (by ktr_room) (by ktr_units) ?k
  case hoff => exact all_cons.mpr ⟨by k_ne, all_cons.mpr ⟨d1 _ (.tail _ (.head _)), all_cons.mpr ⟨by k_ne, all_cons.mpr ⟨by k_ne, all_cons.mpr ⟨by k_ne, fun q hq => d1 q (.tail _ (.tail _ hq))⟩⟩⟩⟩⟩
  case hkey =>
    refine ⟨⟨_, _, _, _, .head _⟩, fun n hn t => ?_⟩
    have hn3 : 0 ≤ n ∧ n ≤ 3 := by
      rcases List.mem_cons.mp hn with rfl | h
      · exact hp
      · exact hns n h
    refine spec_lam (nd := 11) (nu := 37) [(Str.ofString "one", .int n t)] (.head _) (.tail _ (.head _)) e1 e2 rfl (locs rfl) ?_ rfl rfl rfl (by decide)
    clear N' N F d1 l1
    intro dp un gd outer A₀ base g L h₁ s tk B F X N T C hdp hun
    obtain ⟨cL, cY, cS⟩ := C
    replace N := sub_news (l' := (r.ad n, rowO (r.dat n)) :: (r.ad p, rowO (r.dat p)) :: _) N (all_cons.mpr ⟨.tail _ (.tail _ (.tail _ (.tail _ (.tail _ (List.mem_append_left _ (rows_mem hn3.1 hn3.2)))))), all_cons.mpr ⟨.tail _ (.tail _ (.tail _ (.tail _ (.tail _ (List.mem_append_left _ (rows_mem hp.1 hp.2)))))), fun _ h => h⟩⟩)
    simp only [RowsD.led, WalkD.led, KeysD.led, List.cons_append, List.nil_append] at N
    have oa := ro.ok n hn3.1 hn3.2
    have ob := ro.ok p hp.1 hp.2
    obtain ⟨y0, y1, y2, y3, y4, y5⟩ := ko
    k_steps
    refine Stop.mk ?_
    (k_dflt (refine' Spec.useT (compare_spec o.self o.dx k.kl k.ka k.kb k.kc (r.ad n) (r.ad p) (r.dat n) (r.dat p) k.c0 k.c1 k.c2 k.d0 k.d1 k.d2 k.tc0 k.tc1 k.tc2 k.td0 k.td1 k.td2 k.e o.n1 o.hsh o.tk0 oa ob y0 y1 y2 y3 y4 y5) (by k_asm) (by k_asm) (by k_asm) (by k_asm) (by k_asm) (by first | exact rfl | assumption) (by assumption) (by assumption) (by assumption) (by ktr_room) (by ktr_units) (by walk_at "sub") ?_; k_whole); intros; (try k_sweep))
    k_steps
    rename News _ _ _ _ => N'
    rename Fr _ _ _ _ => F'
    exact Fin.intro F' N' [] [] (fun _ h => .tail _ (.tail _ h)) rfl (by intro _ _ _ h; cases h) ⟨rfl, rfl, _, rfl⟩
  case k =>
    intro its' e' h' tk' hi' F' N'
    k_steps
    rename News _ _ _ _ => N'
    rename Fr _ _ _ _ => F'
    exact Fin.intro F' N' [(l, W.listOf its'.toArray e')] [] (all_cons.mpr ⟨.tail _ (.tail _ (.tail _ (.tail _ (.head _)))), fun _ h => .tail _ (.tail _ (.tail _ (.tail _ (.tail _ h))))⟩) rfl (by intro _ _ _ h; cases h) ⟨_, _, rfl, rfl, hi', rfl⟩
end lay_hot
theorem lay_hot {w : World} {z : Env0} (l : Nat) (its : List Value) (ns : List Int) (e : Nat) (p : Int) (u : Tok) (r : RowsD) (o : WalkD) (k : KeysD) (hi : IntsAre its ns) (hlen : ns.length ≤ 8) (hns : ∀ n ∈ ns, 0 ≤ n ∧ n ≤ 3) (hp : 0 ≤ p ∧ p ≤ 3) (ro : r.Ok) (ko : k.Ok) (c' : Nat) (oc : Obj) (ovs : Array Value) (qt : Tok) (e1 : oc.data = .fields ovs) (e2 : ovs[1]? = some (.str layQ qt)) : Spec w z 20 100 (.ref 146) [.ref l, .int p u, .ref r.rl, .ref o.self] [] [(l, W.listOf its.toArray e)] ((141, tabObj #[rawInt 106, rawInt 34, .ref c']) :: (c', oc) :: (r.led ++ (o.led k ++ k.led)))
    (fun mu' new v => ∃ its' e', mu' = [(l, W.listOf its'.toArray e')] ∧ new = [] ∧ IntsAre its' (insAt ns (bis (fun i => decide (cmpK (r.dat p) (r.dat p) k.ks < cmpK (r.dat (ns.getD i 0)) (r.dat p) k.ks)) ns.length 0 ns.length) p) ∧ v = .none) := lay_hot.epsX.2 (fun w z l its ns e p u r o k c' oc ovs qt dp un gd outer A₀ base g L h₁ s tk co0 co1 co2 => Pk.all (T := lay_hot.epsT) (ne := lay_hot.eN) (Q := lay_hot.epsQ) (by with_unfolding_all exact lay_hot.eC) (w, z, l, its, ns, e, p, u, r, o, k, c', oc, ovs, qt, dp, un, gd, outer, A₀, base, g, L, h₁, s, tk, co0, co1, co2)) w z l its ns e p u r o k hi hlen hns hp ro ko c' oc ovs qt e1 e2
end
section
noncomputable abbrev TabY := TabG 141 106 34 layQ
section
variable {w : World} {z : Env0} {l : Nat} {its : List Value} {ns : List Int} {e : Nat} {p : Int} {u : Tok} {r : RowsD} {o : WalkD} {k : KeysD} {dp un : Nat} {gd : Option (List Code)} {cn : Str} {cs : Scope} {a : Addr} {ccd : Value} {cl : List (Str × Addr)} {outer : List Env} {A₀ : Around}
  {base h₀ : Heap} {L : Addr} {m : Str → Option Value} {s : Shared} {Q E : Value → Shared → Prop} {rest : Led} {ps : Array Value} {c' : Nat} {oc : Obj}
theorem lay_use (B : Below A₀ base outer h₀) (F : Fr h₀ L s.heap m) (X : (hd.heap_1 w.params).In h₀) (N : News h₀ L s.heap ((141, tabObj ps) :: (c', oc) :: (l, W.listOf its.toArray e) :: rest)) (T : Top z.p z.loose z.mean z.mg z.mb h₀) (hk : cs.kind = .function)
    (c1 : CodeHd base 166 162) (c2 : CodeHd base 145 141) (c3 : CodeHd base 138 134) (Tb : TabY ps c' oc) (hi : IntsAre its ns) (hlen : ns.length ≤ 8) (hns : ∀ n ∈ ns, 0 ≤ n ∧ n ≤ 3) (hp : 0 ≤ p ∧ p ≤ 3) (ro : r.Ok) (ko : k.Ok)
    (hrest : ∀ q ∈ r.led ++ (o.led k ++ k.led), q ∈ rest) (hoff : ∀ q ∈ rest, @Ne Nat q.1 141) (hoffl : ∀ q ∈ rest, @Ne Nat q.1 l) (hcl : @Ne Nat l c') (hl : @Ne Nat l 141) (hd : dp + 20 < recursionLimit) (hu : un + 100 < cLine)
    (kk : ∀ (ps' : Array Value) (c'' : Nat) (oc' : Obj) (its' : List Value) (e' : Nat) (h' : Heap) (tk' : Nat), TabY ps' c'' oc' → ps' ≠ #[] → (ps ≠ #[] → ps' = ps ∧ c'' = c' ∧ oc' = oc) → AwayOf c' c'' rest → @Ne Nat l c'' → IntsAre its' (insAt ns (bis (fun i => decide (cmpK (r.dat p) (r.dat p) k.ks < cmpK (r.dat (ns.getD i 0)) (r.dat p) k.ks)) ns.length 0 ns.length) p) →
      Fr h₀ L h' m → News h₀ L h' ((141, tabObj ps') :: (c'', oc') :: (l, W.listOf its'.toArray e') :: rest) → Q .none { s with heap := h', toks := tk' }) :
    wpAny (model PySem.Challenge.rw_wf0038_01.prog w) (ktrTop dp un gd cn cs L a ccd cl outer) (call (.ref 146) [.ref l, .int p u, .ref r.rl, .ref o.self] []) Q E s := by
  rcases Tb with ⟨rfl, rfl, rfl⟩ | ⟨rfl, hPc, ovs, qt, d1, d2⟩
  · refine Spec.use (mu := [(l, W.listOf its.toArray e), (141, tabObj #[])]) (led := rest) (lay_cold l its ns e p u r o k hi hlen hns hp ro ko) B F X N T hk c1 c2 c3 hd hu (fun q hq => ?_) hrest (fun q hq y hy => ?_) (fun v mu' new h' tk' hR F' N' ap => ?_)
    · rcases List.mem_cons.mp hq with rfl | hq
      · exact .tail _ (.tail _ (.head _))
      rcases List.mem_cons.mp hq with rfl | hq
      · exact .head _
      · exact .tail _ (.tail _ (.tail _ hq))
    · rcases List.mem_cons.mp hy with rfl | hy
      · exact hoffl q hq
      rcases List.mem_singleton.mp hy with rfl
      exact hoff q hq
    · obtain ⟨c2, oc2, ovs, qt, its', e', rfl, rfl, d1, d2, hi', rfl⟩ := hR
      exact kk _ c2 oc2 its' e' h' tk' (Or.inr ⟨rfl, ap _ (List.mem_append_left _ (.tail _ (.head _))) _ (.head _), ovs, qt, d1, d2⟩) (by simp) (fun h => absurd rfl h) (fun q hq _ => ap q (List.mem_append_right _ hq) _ (.head _)) (ap _ (List.mem_append_left _ (.head _)) _ (.head _)) hi' F' (sub_news N' (all_cons.mpr ⟨.tail _ (.head _), all_cons.mpr ⟨.tail _ (.tail _ (.head _)), all_cons.mpr ⟨.head _, fun _ h => .tail _ (.tail _ (.tail _ h))⟩⟩⟩))
  · refine Spec.use (mu := [(l, W.listOf its.toArray e)]) (led := (141, tabObj #[rawInt 106, rawInt 34, .ref c']) :: (c', oc) :: rest) (lay_hot l its ns e p u r o k hi hlen hns hp ro ko c' oc ovs qt d1 d2) B F X N T hk c1 c2 c3 hd hu (fun q hq => ?_) (all_cons.mpr ⟨.head _, all_cons.mpr ⟨.tail _ (.head _), fun q hq => .tail _ (.tail _ (hrest q hq))⟩⟩) (fun q hq y hy => ?_) (fun v mu' new h' tk' hR F' N' ap => ?_)
    · rcases List.mem_cons.mp hq with rfl | hq
      · exact .tail _ (.tail _ (.head _))
      rcases List.mem_cons.mp hq with rfl | hq
      · exact .head _
      rcases List.mem_cons.mp hq with rfl | hq
      · exact .tail _ (.head _)
      · exact .tail _ (.tail _ (.tail _ hq))
    · rcases List.mem_singleton.mp hy with rfl
      rcases List.mem_cons.mp hq with rfl | hq
      · exact hl.symm
      rcases List.mem_cons.mp hq with rfl | hq
      · exact hcl.symm
      · exact hoffl q hq
    · obtain ⟨its', e', rfl, rfl, hi', rfl⟩ := hR
      exact kk _ c' oc its' e' h' tk' (Or.inr ⟨rfl, hPc, ovs, qt, d1, d2⟩) (by simp) (fun _ => ⟨rfl, rfl, rfl⟩) (fun _ _ h => h) hcl hi' F' (sub_news N' (all_cons.mpr ⟨.tail _ (.head _), all_cons.mpr ⟨.tail _ (.tail _ (.head _)), all_cons.mpr ⟨.head _, fun _ h => .tail _ (.tail _ (.tail _ h))⟩⟩⟩))
end
noncomputable def ordOf (dat : Int → RowD) (ks : List (Int × Int)) : Nat → List Int
  | 0 => []
  | i + 1 => insAt (ordOf dat ks i) (bis (fun j => decide (cmpK (dat (0 + (i : Int))) (dat (0 + (i : Int))) ks < cmpK (dat ((ordOf dat ks i).getD j 0)) (dat (0 + (i : Int))) ks)) (ordOf dat ks i).length 0 (ordOf dat ks i).length) (0 + (i : Int))
theorem ordOf_facts (dat : Int → RowD) (ks : List (Int × Int)) : ∀ i, (ordOf dat ks i).length = i ∧ ∀ n ∈ ordOf dat ks i, 0 ≤ n ∧ n < (i : Int)
  | 0 => ⟨rfl, fun _ h => by cases h⟩
  | i + 1 => by
    obtain ⟨h1, h2⟩ := ordOf_facts dat ks i
    have hk := bis_le (fun j => decide (cmpK (dat (0 + (i : Int))) (dat (0 + (i : Int))) ks < cmpK (dat ((ordOf dat ks i).getD j 0)) (dat (0 + (i : Int))) ks)) (ordOf dat ks i).length 0 (ordOf dat ks i).length (Nat.zero_le _)
    refine ⟨?_, fun n hn => ?_⟩
    · show (insAt _ _ _).length = i + 1
      unfold insAt
      rw [List.length_append, List.length_take, List.length_cons, List.length_drop]
      omega
    · have hn' : n ∈ insAt (ordOf dat ks i) (bis (fun j => decide (cmpK (dat (0 + (i : Int))) (dat (0 + (i : Int))) ks < cmpK (dat ((ordOf dat ks i).getD j 0)) (dat (0 + (i : Int))) ks)) (ordOf dat ks i).length 0 (ordOf dat ks i).length) (0 + (i : Int)) := hn
      unfold insAt at hn'
      rcases List.mem_append.mp hn' with h | h
      · have := h2 n (List.mem_of_mem_take h); omega
      · rcases List.mem_cons.mp h with rfl | h
        · omega
        · have := h2 n (List.mem_of_mem_drop h); omega
structure OS where
  ps : Array Value
  c' : Nat
  oc : Obj
  its : List Value
  e : Nat
structure OSok (I l : Nat) (rest : Led) (K : OS → Prop) (dat : Int → RowD) (ks : List (Int × Int)) (i : Nat) (s : OS) : Prop where
  tab : TabY s.ps s.c' s.oc
  ne : @Ne Nat I s.c'
  nl : @Ne Nat l s.c'
  itz : IntsAre s.its (ordOf dat ks i)
  hot : i ≠ 0 → s.ps ≠ #[]
  aw : ∀ q ∈ rest, @Ne Nat q.1 s.c'
  kp : K s
end
section
namespace order_cold
noncomputable def epsX : { P : World → Env0 → RowsD → KeysD → Nat → Nat → (Option (List Code)) → (List Env) → Around → Heap → Heap → Addr → Heap → Shared → Nat → Prop // (∀ w z r k dp un gd outer A₀ base g L h₁ s tk, P w z r k dp un gd outer A₀ base g L h₁ s tk) → ∀ (w : World) (z : Env0) (r : RowsD) (k : KeysD) (ro : r.Ok) (ko : k.Ok), Spec w z 40 200 (.ref 153) [.ref r.rl, .ref k.kl] [] [(141, tabObj #[])] (r.led ++ k.led)
    (fun mu' new v => ∃ ps c' oc f its e, TabY ps c' oc ∧ ps ≠ #[] ∧ mu' = [(141, tabObj ps)] ∧ new = [(f, W.listOf its.toArray e), (c', oc)] ∧ IntsAre its (ordOf r.dat k.ks 4) ∧ v = .ref f) } := ⟨_, by
  intro h_eps w z r k ro ko
  refine Spec.apart fun ap0 => ?_
  (k_dflt (refine' spec_def [(Str.ofString "keys", .ref k.kl), (Str.ofString "rows", .ref r.rl)] ?ho ?hcd ?hb ?hl ?h ?c2 ?c3 ?c4 ?c5; (case ho => k_is); (case hcd => k_is); (case hb => intro s' X'; first | exact BindsTo.of_eq rfl | exact binds_K X' rfl (by k_is) rfl rfl rfl); (case c5 => decide); (case hl => exact locs rfl); (case c2 => exact rfl); (case c3 => exact rfl); (case c4 => exact rfl)); (intro dp un gd outer A₀ base g L h₁ s tk B F X N T C hdp hun; obtain ⟨cL, cY, cS⟩ := C))
  revert hun; revert hdp; revert cS; revert cY; revert cL; revert T; revert N; revert X; revert F; revert B; revert ap0; revert ko; revert ro
  exact h_eps w z r k dp un gd outer A₀ base g L h₁ s tk⟩
noncomputable abbrev epsT : Type := World × Env0 × RowsD × KeysD × Nat × Nat × (Option (List Code)) × (List Env) × Around × Heap × Heap × Addr × Heap × Shared × Nat
noncomputable abbrev epsQ : epsT → Prop := fun d => epsX.1 d.1 d.2.1 d.2.2.1 d.2.2.2.1 d.2.2.2.2.1 d.2.2.2.2.2.1 d.2.2.2.2.2.2.1 d.2.2.2.2.2.2.2.1 d.2.2.2.2.2.2.2.2.1 d.2.2.2.2.2.2.2.2.2.1 d.2.2.2.2.2.2.2.2.2.2.1 d.2.2.2.2.2.2.2.2.2.2.2.1 d.2.2.2.2.2.2.2.2.2.2.2.2.1 d.2.2.2.2.2.2.2.2.2.2.2.2.2.1 d.2.2.2.2.2.2.2.2.2.2.2.2.2.2
theorem eN : Nonempty epsT := by walk_at "ne_all"
@[irreducible] noncomputable def eK : epsT := Pk epsT eN epsQ
@[irreducible] noncomputable def r := eK.2.2.1
@[irreducible] noncomputable def k := eK.2.2.2.1
@[irreducible] noncomputable def tk := eK.2.2.2.2.2.2.2.2.2.2.2.2.2.2
theorem eC : epsX.1 eK.1 eK.2.1 r k eK.2.2.2.2.1 eK.2.2.2.2.2.1 eK.2.2.2.2.2.2.1 eK.2.2.2.2.2.2.2.1 eK.2.2.2.2.2.2.2.2.1 eK.2.2.2.2.2.2.2.2.2.1 eK.2.2.2.2.2.2.2.2.2.2.1 eK.2.2.2.2.2.2.2.2.2.2.2.1 eK.2.2.2.2.2.2.2.2.2.2.2.2.1 eK.2.2.2.2.2.2.2.2.2.2.2.2.2.1 tk := by
  dsimp only [epsX]
  intro ro ko ap0 B F X N T cL cY cS hdp hun
  have d2 : ∀ q ∈ r.led ++ k.led, @Ne Nat q.1 141 := fun q hq => ap0 q hq _ (.head _)
  clear ap0
  simp only [RowsD.led, KeysD.led, List.cons_append, List.nil_append] at N
  k_with_none
  k_with "pyIter ref" => ((with_reducible show wpAny _ _ (pyIter (Value.ref _)) _ _ _); refine Stop.go ?_)
  k_with "mycall" => ((with_reducible show wpAny _ _ (call (Value.ref 146) _) _ _ _); refine Stop.go ?_)
  k_steps
  refine Stop.mk ?_
  rename_i l _ q1 sx dx _ q2 q3 _ _ _ _ _ _ _ _ _ _ _ _ _ _ _ _ _ _ _ _ _ _ _ _ _ _ _ _ _
  (rename Fr _ _ _ _ => lF'); (rename News _ _ _ _ => lN'); (rename IsRange _ _ _ _ _ _ _ _ => rgX)
  obtain ⟨o, ho1, ho2, lN2⟩ : ∃ o : WalkD, o.self = sx ∧ o.dx = dx ∧ News _ _ _ ((141, tabObj #[]) :: (141, tabObj #[]) :: (l, W.listOf #[] 0) :: (r.led ++ (o.led k ++ k.led))) :=
    ⟨⟨sx, dx, 1, _, _⟩, rfl, rfl, sub_news lN' (all_cons.mpr ⟨.tail _ (.tail _ (.tail _ (.tail _ (.head _)))), all_cons.mpr ⟨.tail _ (.tail _ (.tail _ (.tail _ (.head _)))), all_cons.mpr ⟨.tail _ (.tail _ (.tail _ (.head _))), all_cons.mpr ⟨.tail _ (.tail _ (.tail _ (.tail _ (.tail _ (.head _))))), all_cons.mpr ⟨.tail _ (.tail _ (.tail _ (.tail _ (.tail _ (.tail _ (.head _)))))), all_cons.mpr ⟨.tail _ (.tail _ (.tail _ (.tail _ (.tail _ (.tail _ (.tail _ (.head _))))))), all_cons.mpr ⟨.tail _ (.tail _ (.tail _ (.tail _ (.tail _ (.tail _ (.tail _ (.tail _ (.head _)))))))), all_cons.mpr ⟨.tail _ (.tail _ (.tail _ (.tail _ (.tail _ (.tail _ (.tail _ (.tail _ (.tail _ (.head _))))))))), all_cons.mpr ⟨.tail _ (.head _), all_cons.mpr ⟨.tail _ (.tail _ (.head _)), fun _ h => .tail _ (.tail _ (.tail _ (.tail _ (.tail _ (.tail _ (.tail _ (.tail _ (.tail _ (.tail _ (h))))))))))⟩⟩⟩⟩⟩⟩⟩⟩⟩⟩)⟩
  subst ho1
  subst ho2
  have dd : ∀ q ∈ r.led ++ (o.led k ++ k.led), @Ne Nat q.1 141 ∧ @Ne Nat q.1 l := by
    intro q hq
    rcases List.mem_append.mp hq with h | h
    · refine ⟨d2 q (List.mem_append_left _ h), ?_⟩
      simp only [RowsD.led, List.mem_cons, List.not_mem_nil, or_false] at h
      rcases h with rfl | rfl | rfl | rfl | rfl <;> (show @Ne Nat _ _; k_ne)
    rcases List.mem_append.mp h with h | h
    · simp only [WalkD.led, List.mem_cons, List.not_mem_nil, or_false] at h
      rcases h with rfl | rfl <;> exact ⟨by show @Ne Nat _ _; k_ne, by show @Ne Nat _ _; k_ne⟩
    · refine ⟨d2 q (List.mem_append_right _ h), ?_⟩
      simp only [KeysD.led, List.mem_cons, List.not_mem_nil, or_false] at h
      rcases h with rfl | rfl | rfl | rfl <;> (show @Ne Nat _ _; k_ne)
  have hl141 : @Ne Nat l 141 := by omega
  clear q2 q3 lN'
  with_unfolding_all refine' iter_rangeUnr (n := 4) (by rfl) rgX (by first | decide | rfl) (by first | decide | rfl) lF' lN2 ?_
  clear lF' lN2
  intro I l1
  have hI141 : @Ne Nat I 141 := Nat.ne_of_gt (l1 _ (.head _))
  have hIl : @Ne Nat l I := Nat.ne_of_lt (l1 (l, W.listOf #[] 0) (.tail _ (.tail _ (.head _))))
  have hIr : ∀ q ∈ r.led ++ (o.led k ++ k.led), @Ne Nat q.1 I := fun q hq => Nat.ne_of_lt (l1 q (.tail _ (.tail _ (.tail _ hq))))
  clear l1
  refine' rangeRest_inv (σ := OS) (fun c => (141, tabObj c.ps) :: (c.c', c.oc) :: (l, W.listOf c.its.toArray c.e) :: (r.led ++ (o.led k ++ k.led))) (fun _ => [(Str.ofString "walk", .ref o.self), (Str.ofString "rows", .ref r.rl), (Str.ofString "laid", .ref l)]) (OSok I l (r.led ++ (o.led k ++ k.led)) (fun _ => True) r.dat k.ks) ?turn ?done 4 0 rfl ⟨#[], 141, tabObj #[], [], 0⟩ _ ⟨Or.inl ⟨rfl, rfl, rfl⟩, hI141, hl141, .nil, fun h => absurd rfl h, fun q hq => (dd q hq).1, trivial⟩ ?k0
  case k0 => (intro p hp; simp only [List.mem_cons, List.not_mem_nil, or_false] at hp; rcases hp with rfl | rfl | rfl <;> rfl)
  case done =>
    intro c u h tk hP F N
    k_steps
    rename News _ _ _ _ => N'
    rename Fr _ _ _ _ => F'
    show Fin _ _ _ _ _ _ _ _
    refine Fin.intro F' N' [(141, tabObj c.ps)] [(l, W.listOf c.its.toArray c.e), (c.c', c.oc)] (all_cons.mpr ⟨.head _, all_cons.mpr ⟨.tail _ (.tail _ (.head _)), all_cons.mpr ⟨.tail _ (.head _), fun q hq => .tail _ (.tail _ (.tail _ ?_))⟩⟩⟩) rfl ?_ ⟨_, _, _, _, _, _, hP.tab, hP.hot (by decide), rfl, rfl, hP.itz, rfl⟩
    · have hq' : q ∈ r.led ++ k.led := hq
      rcases List.mem_append.mp hq' with h | h
      · exact List.mem_append_left _ h
      · exact List.mem_append_right _ (List.mem_append_right _ h)
    · rcases hP.tab with ⟨e, -, -⟩ | ⟨e, hne, ovs, qt, e1, e2⟩
      · exact absurd e (hP.hot (by decide))
      have hc : @Ne Nat c.c' 141 := hne.symm
      intro p hp q hq
      have hp' : p ∈ (141, tabObj #[]) :: (r.led ++ k.led) := hp
      have hp2 : p.1 = 141 ∨ p ∈ r.led ++ (o.led k ++ k.led) := by
        rcases List.mem_cons.mp hp' with rfl | h
        · exact Or.inl rfl
        · refine Or.inr ?_
          rcases List.mem_append.mp h with h | h
          · exact List.mem_append_left _ h
          · exact List.mem_append_right _ (List.mem_append_right _ h)
      rcases List.mem_cons.mp hq with rfl | hq
      · rcases hp2 with h | h
        · intro h'; exact hl141 (h'.symm.trans h)
        · exact (dd p h).2
      rcases List.mem_singleton.mp hq with rfl
      rcases hp2 with h | h
      · intro h'; exact hc (h'.symm.trans h)
      · exact hP.aw p h
  case turn =>
    intro i c u t h tk hi hP F N
    replace N := sub_news (l' := (141, tabObj c.ps) :: (c.c', c.oc) :: (l, W.listOf c.its.toArray c.e) :: (I, itR _ _) :: (r.led ++ (o.led k ++ k.led))) N (all_cons.mpr ⟨.tail _ (.head _), all_cons.mpr ⟨.tail _ (.tail _ (.head _)), all_cons.mpr ⟨.tail _ (.tail _ (.tail _ (.head _))), all_cons.mpr ⟨.head _, fun _ h => .tail _ (.tail _ (.tail _ (.tail _ h)))⟩⟩⟩⟩)
    k_steps
    refine Stop.mk ?_
    obtain ⟨z1, z2⟩ := ordOf_facts r.dat k.ks i
    rename News _ _ _ _ => N'
    refine lay_use (r := r) (o := o) (k := k) B (by k_asm) X N' T rfl cL cY cS hP.tab hP.itz (by omega) (fun n hn => by have := z2 n hn; omega) (by omega) ro ko (fun q hq => .tail _ hq) (all_cons.mpr ⟨hI141, fun q hq => (dd q hq).1⟩) (all_cons.mpr ⟨hIl.symm, fun q hq => (dd q hq).2⟩) hP.nl hl141 (by ktr_room) (by ktr_units) ?_
    intro ps' c'' oc' its' e' h' tk' Tb' hps' hkeep' Aw' hlc hi' F' N'
    k_steps
    rename News _ _ _ _ => N'
    rename Fr _ _ _ _ => F'
    show GEnd _ _ _ _ _ _ _ _ _
    have hIc : @Ne Nat I c'' := Aw' _ (.head _) hP.ne
    refine GEnd.intro (⟨ps', c'', oc', its', e'⟩ : OS) F' N' (all_cons.mpr ⟨.tail _ (.tail _ (.tail _ (.head _))), all_cons.mpr ⟨.head _, all_cons.mpr ⟨.tail _ (.head _), all_cons.mpr ⟨.tail _ (.tail _ (.head _)), fun _ h => .tail _ (.tail _ (.tail _ (.tail _ h)))⟩⟩⟩⟩) (all_cons.mpr ⟨hI141.symm, all_cons.mpr ⟨hIc.symm, all_cons.mpr ⟨hIl, hIr⟩⟩⟩) ?_ ⟨Tb', hIc, hlc, hi', fun _ => hps', fun q hq => Aw' q (.tail _ hq) (hP.aw q hq), trivial⟩
    intro p hp
    simp only [List.mem_cons, List.not_mem_nil, or_false] at hp
    rcases hp with rfl | rfl | rfl <;> rfl
end order_cold
theorem order_cold {w : World} {z : Env0} (r : RowsD) (k : KeysD) (ro : r.Ok) (ko : k.Ok) : Spec w z 40 200 (.ref 153) [.ref r.rl, .ref k.kl] [] [(141, tabObj #[])] (r.led ++ k.led)
    (fun mu' new v => ∃ ps c' oc f its e, TabY ps c' oc ∧ ps ≠ #[] ∧ mu' = [(141, tabObj ps)] ∧ new = [(f, W.listOf its.toArray e), (c', oc)] ∧ IntsAre its (ordOf r.dat k.ks 4) ∧ v = .ref f) := order_cold.epsX.2 (fun w z r k dp un gd outer A₀ base g L h₁ s tk => Pk.all (T := order_cold.epsT) (ne := order_cold.eN) (Q := order_cold.epsQ) (by with_unfolding_all exact order_cold.eC) (w, z, r, k, dp, un, gd, outer, A₀, base, g, L, h₁, s, tk)) w z r k ro ko
end
section
theorem seq_led {r : RowsD} {k : KeysD} : ∀ q ∈ r.led ++ k.led, ∀ vs, q.2.data ≠ .fields vs := by
  intro q hq vs h
  rcases List.mem_append.mp hq with hq | hq
  · simp only [RowsD.led, List.mem_cons, List.not_mem_nil, or_false] at hq
    rcases hq with rfl | rfl | rfl | rfl | rfl <;> cases h
  · simp only [KeysD.led, List.mem_cons, List.not_mem_nil, or_false] at hq
    rcases hq with rfl | rfl | rfl | rfl <;> cases h
namespace order_hot
noncomputable def epsX : { P : World → Env0 → RowsD → KeysD → Nat → Obj → (Array Value) → Tok → Nat → Nat → (Option (List Code)) → (List Env) → Around → Heap → Heap → Addr → Heap → Shared → Nat → Prop // (∀ w z r k c₁ oc₁ ovs₁ qt₁ dp un gd outer A₀ base g L h₁ s tk, P w z r k c₁ oc₁ ovs₁ qt₁ dp un gd outer A₀ base g L h₁ s tk) → ∀ (w : World) (z : Env0) (r : RowsD) (k : KeysD) (ro : r.Ok) (ko : k.Ok) (c₁ : Nat) (oc₁ : Obj) (hn₁ : @Ne Nat 141 c₁) (ovs₁ : Array Value) (qt₁ : Tok) (e1 : oc₁.data = .fields ovs₁) (e2 : ovs₁[1]? = some (.str layQ qt₁)), Spec w z 40 200 (.ref 153) [.ref r.rl, .ref k.kl] [] [] ((141, tabObj #[rawInt 106, rawInt 34, .ref c₁]) :: (c₁, oc₁) :: (r.led ++ k.led))
    (fun mu' new v => ∃ f its e, mu' = [] ∧ new = [(f, W.listOf its.toArray e)] ∧ IntsAre its (ordOf r.dat k.ks 4) ∧ v = .ref f) } := ⟨_, by
  intro h_eps w z r k ro ko c₁ oc₁ hn₁ ovs₁ qt₁ e1 e2
  (k_dflt (refine' spec_def [(Str.ofString "keys", .ref k.kl), (Str.ofString "rows", .ref r.rl)] ?ho ?hcd ?hb ?hl ?h ?c2 ?c3 ?c4 ?c5; (case ho => k_is); (case hcd => k_is); (case hb => intro s' X'; first | exact BindsTo.of_eq rfl | exact binds_K X' rfl (by k_is) rfl rfl rfl); (case c5 => decide); (case hl => exact locs rfl); (case c2 => exact rfl); (case c3 => exact rfl); (case c4 => exact rfl)); (intro dp un gd outer A₀ base g L h₁ s tk B F X N T C hdp hun; obtain ⟨cL, cY, cS⟩ := C))
  revert hun; revert hdp; revert cS; revert cY; revert cL; revert T; revert N; revert X; revert F; revert B; revert e2; revert e1; revert hn₁; revert ko; revert ro
  exact h_eps w z r k c₁ oc₁ ovs₁ qt₁ dp un gd outer A₀ base g L h₁ s tk⟩
noncomputable abbrev epsT : Type := World × Env0 × RowsD × KeysD × Nat × Obj × (Array Value) × Tok × Nat × Nat × (Option (List Code)) × (List Env) × Around × Heap × Heap × Addr × Heap × Shared × Nat
noncomputable abbrev epsQ : epsT → Prop := fun d => epsX.1 d.1 d.2.1 d.2.2.1 d.2.2.2.1 d.2.2.2.2.1 d.2.2.2.2.2.1 d.2.2.2.2.2.2.1 d.2.2.2.2.2.2.2.1 d.2.2.2.2.2.2.2.2.1 d.2.2.2.2.2.2.2.2.2.1 d.2.2.2.2.2.2.2.2.2.2.1 d.2.2.2.2.2.2.2.2.2.2.2.1 d.2.2.2.2.2.2.2.2.2.2.2.2.1 d.2.2.2.2.2.2.2.2.2.2.2.2.2.1 d.2.2.2.2.2.2.2.2.2.2.2.2.2.2.1 d.2.2.2.2.2.2.2.2.2.2.2.2.2.2.2.1 d.2.2.2.2.2.2.2.2.2.2.2.2.2.2.2.2.1 d.2.2.2.2.2.2.2.2.2.2.2.2.2.2.2.2.2.1 d.2.2.2.2.2.2.2.2.2.2.2.2.2.2.2.2.2.2
theorem eN : Nonempty epsT := by walk_at "ne_all"
@[irreducible] noncomputable def eK : epsT := Pk epsT eN epsQ
@[irreducible] noncomputable def r := eK.2.2.1
@[irreducible] noncomputable def k := eK.2.2.2.1
@[irreducible] noncomputable def c₁ := eK.2.2.2.2.1
@[irreducible] noncomputable def oc₁ := eK.2.2.2.2.2.1
@[irreducible] noncomputable def ovs₁ := eK.2.2.2.2.2.2.1
@[irreducible] noncomputable def qt₁ := eK.2.2.2.2.2.2.2.1
@[irreducible] noncomputable def s := eK.2.2.2.2.2.2.2.2.2.2.2.2.2.2.2.2.2.1
@[irreducible] noncomputable def tk := eK.2.2.2.2.2.2.2.2.2.2.2.2.2.2.2.2.2.2
theorem eC : epsX.1 eK.1 eK.2.1 r k c₁ oc₁ ovs₁ qt₁ eK.2.2.2.2.2.2.2.2.1 eK.2.2.2.2.2.2.2.2.2.1 eK.2.2.2.2.2.2.2.2.2.2.1 eK.2.2.2.2.2.2.2.2.2.2.2.1 eK.2.2.2.2.2.2.2.2.2.2.2.2.1 eK.2.2.2.2.2.2.2.2.2.2.2.2.2.1 eK.2.2.2.2.2.2.2.2.2.2.2.2.2.2.1 eK.2.2.2.2.2.2.2.2.2.2.2.2.2.2.2.1 eK.2.2.2.2.2.2.2.2.2.2.2.2.2.2.2.2.1 s tk := by
  dsimp only [epsX]
  intro ro ko hn₁ e1 e2 B F X N T cL cY cS hdp hun
  have d2 : ∀ q ∈ r.led ++ k.led, @Ne Nat q.1 141 := fun q hq e => by
    have h := News.one N (p := q) (q := (141, _)) (.tail _ (.tail _ hq)) (.head _) e
    exact seq_led q hq _ (congrArg Obj.data h)
  have a₁ : ∀ q ∈ r.led ++ k.led, @Ne Nat q.1 c₁ := fun q hq e => by
    have h := News.one N (p := q) (q := (c₁, oc₁)) (.tail _ (.tail _ hq)) (.tail _ (.head _)) e
    exact seq_led q hq _ ((congrArg Obj.data h).trans e1)
  simp only [RowsD.led, KeysD.led, List.cons_append, List.nil_append] at N
  k_with_none
  k_with "pyIter ref" => ((with_reducible show wpAny _ _ (pyIter (Value.ref _)) _ _ _); refine Stop.go ?_)
  k_with "mycall" => ((with_reducible show wpAny _ _ (call (Value.ref 146) _) _ _ _); refine Stop.go ?_)
  k_steps
  refine Stop.mk ?_
  rename_i l _ q1 sx dx _ q2 q3 _ _ _ _ _ _ _ _ _ _ _ _ _ _ _ _ _ _ _ _ _ _ _ _ _ _ _ _ _
  (rename Fr _ _ _ _ => lF'); (rename News _ _ _ _ => lN'); (rename IsRange _ _ _ _ _ _ _ _ => rgX)
  obtain ⟨o, ho1, ho2, lN2⟩ : ∃ o : WalkD, o.self = sx ∧ o.dx = dx ∧ News _ _ _ ((141, tabObj #[rawInt 106, rawInt 34, .ref c₁]) :: (c₁, oc₁) :: (l, W.listOf #[] 0) :: (r.led ++ (o.led k ++ k.led))) :=
    ⟨⟨sx, dx, 1, _, _⟩, rfl, rfl, sub_news lN' (all_cons.mpr ⟨.tail _ (.tail _ (.tail _ (.tail _ (.head _)))), all_cons.mpr ⟨.tail _ (.tail _ (.tail _ (.tail _ (.tail _ (.head _))))), all_cons.mpr ⟨.tail _ (.tail _ (.tail _ (.head _))), all_cons.mpr ⟨.tail _ (.tail _ (.tail _ (.tail _ (.tail _ (.tail _ (.head _)))))), all_cons.mpr ⟨.tail _ (.tail _ (.tail _ (.tail _ (.tail _ (.tail _ (.tail _ (.head _))))))), all_cons.mpr ⟨.tail _ (.tail _ (.tail _ (.tail _ (.tail _ (.tail _ (.tail _ (.tail _ (.head _)))))))), all_cons.mpr ⟨.tail _ (.tail _ (.tail _ (.tail _ (.tail _ (.tail _ (.tail _ (.tail _ (.tail _ (.head _))))))))), all_cons.mpr ⟨.tail _ (.tail _ (.tail _ (.tail _ (.tail _ (.tail _ (.tail _ (.tail _ (.tail _ (.tail _ (.head _)))))))))), all_cons.mpr ⟨.tail _ (.head _), all_cons.mpr ⟨.tail _ (.tail _ (.head _)), fun _ h => .tail _ (.tail _ (.tail _ (.tail _ (.tail _ (.tail _ (.tail _ (.tail _ (.tail _ (.tail _ (.tail _ (h)))))))))))⟩⟩⟩⟩⟩⟩⟩⟩⟩⟩)⟩
  subst ho1
  subst ho2
  have dd : ∀ q ∈ r.led ++ (o.led k ++ k.led), @Ne Nat q.1 141 ∧ @Ne Nat q.1 l := by
    intro q hq
    rcases List.mem_append.mp hq with h | h
    · refine ⟨d2 q (List.mem_append_left _ h), ?_⟩
      simp only [RowsD.led, List.mem_cons, List.not_mem_nil, or_false] at h
      rcases h with rfl | rfl | rfl | rfl | rfl <;> (show @Ne Nat _ _; k_ne)
    rcases List.mem_append.mp h with h | h
    · simp only [WalkD.led, List.mem_cons, List.not_mem_nil, or_false] at h
      rcases h with rfl | rfl <;> exact ⟨by show @Ne Nat _ _; k_ne, by show @Ne Nat _ _; k_ne⟩
    · refine ⟨d2 q (List.mem_append_right _ h), ?_⟩
      simp only [KeysD.led, List.mem_cons, List.not_mem_nil, or_false] at h
      rcases h with rfl | rfl | rfl | rfl <;> (show @Ne Nat _ _; k_ne)
  have hl141 : @Ne Nat l 141 := by omega
  have hlc₁ : @Ne Nat l c₁ := by omega
  have aw₁ : ∀ q ∈ r.led ++ (o.led k ++ k.led), @Ne Nat q.1 c₁ := by
    intro q hq
    rcases List.mem_append.mp hq with h | h
    · exact a₁ q (List.mem_append_left _ h)
    rcases List.mem_append.mp h with h | h
    · simp only [WalkD.led, List.mem_cons, List.not_mem_nil, or_false] at h
      rcases h with rfl | rfl <;> (show @Ne Nat _ _; k_ne)
    · exact a₁ q (List.mem_append_right _ h)
  clear q2 q3 lN'
  with_unfolding_all refine' iter_rangeUnr (n := 4) (by rfl) rgX (by first | decide | rfl) (by first | decide | rfl) lF' lN2 ?_
  clear lF' lN2
  intro I l1
  have hI141 : @Ne Nat I 141 := Nat.ne_of_gt (l1 _ (.head _))
  have hIc₁ : @Ne Nat I c₁ := Nat.ne_of_gt (l1 (c₁, oc₁) (.tail _ (.head _)))
  have hIl : @Ne Nat l I := Nat.ne_of_lt (l1 (l, W.listOf #[] 0) (.tail _ (.tail _ (.head _))))
  have hIr : ∀ q ∈ r.led ++ (o.led k ++ k.led), @Ne Nat q.1 I := fun q hq => Nat.ne_of_lt (l1 q (.tail _ (.tail _ (.tail _ hq))))
  clear l1
  refine' rangeRest_inv (σ := OS) (fun c => (141, tabObj c.ps) :: (c.c', c.oc) :: (l, W.listOf c.its.toArray c.e) :: (r.led ++ (o.led k ++ k.led))) (fun _ => [(Str.ofString "walk", .ref o.self), (Str.ofString "rows", .ref r.rl), (Str.ofString "laid", .ref l)]) (OSok I l (r.led ++ (o.led k ++ k.led)) (fun s => s.ps = #[rawInt 106, rawInt 34, .ref c₁] ∧ s.c' = c₁ ∧ s.oc = oc₁) r.dat k.ks) ?turn ?done 4 0 rfl ⟨#[rawInt 106, rawInt 34, .ref c₁], c₁, oc₁, [], 0⟩ _ ⟨Or.inr ⟨rfl, hn₁, ovs₁, qt₁, e1, e2⟩, hIc₁, hlc₁, .nil, fun _ => (by simp), aw₁, rfl, rfl, rfl⟩ ?k0
  case k0 => (intro p hp; simp only [List.mem_cons, List.not_mem_nil, or_false] at hp; rcases hp with rfl | rfl | rfl <;> rfl)
  case done =>
    intro c u h tk hP F N
    k_steps
    rename News _ _ _ _ => N'
    rename Fr _ _ _ _ => F'
    show Fin _ _ _ _ _ _ _ _
    obtain ⟨k1, k2, k3⟩ := hP.kp
    rw [k1, k2, k3] at N'
    refine Fin.intro F' N' [] [(l, W.listOf c.its.toArray c.e)] (all_cons.mpr ⟨.tail _ (.tail _ (.head _)), all_cons.mpr ⟨.head _, all_cons.mpr ⟨.tail _ (.head _), fun q hq => .tail _ (.tail _ (.tail _ ?_))⟩⟩⟩) rfl ?_ ⟨_, _, _, rfl, rfl, hP.itz, rfl⟩
    · have hq' : q ∈ r.led ++ k.led := hq
      rcases List.mem_append.mp hq' with h | h
      · exact List.mem_append_left _ h
      · exact List.mem_append_right _ (List.mem_append_right _ h)
    · intro p hp q hq
      have hp' : p ∈ (141, tabObj #[rawInt 106, rawInt 34, .ref c₁]) :: (c₁, oc₁) :: (r.led ++ k.led) := hp
      rcases List.mem_singleton.mp hq with rfl
      rcases List.mem_cons.mp hp' with rfl | h
      · exact hl141.symm
      rcases List.mem_cons.mp h with rfl | h
      · exact hlc₁.symm
      refine (dd p ?_).2
      rcases List.mem_append.mp h with h | h
      · exact List.mem_append_left _ h
      · exact List.mem_append_right _ (List.mem_append_right _ h)
  case turn =>
    intro i c u t h tk hi hP F N
    replace N := sub_news (l' := (141, tabObj c.ps) :: (c.c', c.oc) :: (l, W.listOf c.its.toArray c.e) :: (I, itR _ _) :: (r.led ++ (o.led k ++ k.led))) N (all_cons.mpr ⟨.tail _ (.head _), all_cons.mpr ⟨.tail _ (.tail _ (.head _)), all_cons.mpr ⟨.tail _ (.tail _ (.tail _ (.head _))), all_cons.mpr ⟨.head _, fun _ h => .tail _ (.tail _ (.tail _ (.tail _ h)))⟩⟩⟩⟩)
    k_steps
    refine Stop.mk ?_
    obtain ⟨z1, z2⟩ := ordOf_facts r.dat k.ks i
    rename News _ _ _ _ => N'
    refine lay_use (r := r) (o := o) (k := k) B (by k_asm) X N' T rfl cL cY cS hP.tab hP.itz (by omega) (fun n hn => by have := z2 n hn; omega) (by omega) ro ko (fun q hq => .tail _ hq) (all_cons.mpr ⟨hI141, fun q hq => (dd q hq).1⟩) (all_cons.mpr ⟨hIl.symm, fun q hq => (dd q hq).2⟩) hP.nl hl141 (by ktr_room) (by ktr_units) ?_
    intro ps' c'' oc' its' e' h' tk' Tb' hps' hkeep' Aw' hlc hi' F' N'
    k_steps
    rename News _ _ _ _ => N'
    rename Fr _ _ _ _ => F'
    show GEnd _ _ _ _ _ _ _ _ _
    have hIc : @Ne Nat I c'' := Aw' _ (.head _) hP.ne
    refine GEnd.intro (⟨ps', c'', oc', its', e'⟩ : OS) F' N' (all_cons.mpr ⟨.tail _ (.tail _ (.tail _ (.head _))), all_cons.mpr ⟨.head _, all_cons.mpr ⟨.tail _ (.head _), all_cons.mpr ⟨.tail _ (.tail _ (.head _)), fun _ h => .tail _ (.tail _ (.tail _ (.tail _ h)))⟩⟩⟩⟩) (all_cons.mpr ⟨hI141.symm, all_cons.mpr ⟨hIc.symm, all_cons.mpr ⟨hIl, hIr⟩⟩⟩) ?_ ⟨Tb', hIc, hlc, hi', fun _ => hps', fun q hq => Aw' q (.tail _ hq) (hP.aw q hq), by obtain ⟨k1, k2, k3⟩ := hP.kp; obtain ⟨j1, j2, j3⟩ := hkeep' (by rw [k1]; simp); exact ⟨j1.trans k1, j2.trans k2, j3.trans k3⟩⟩
    intro p hp
    simp only [List.mem_cons, List.not_mem_nil, or_false] at hp
    rcases hp with rfl | rfl | rfl <;> rfl
end order_hot
theorem order_hot {w : World} {z : Env0} (r : RowsD) (k : KeysD) (ro : r.Ok) (ko : k.Ok) (c₁ : Nat) (oc₁ : Obj) (hn₁ : @Ne Nat 141 c₁) (ovs₁ : Array Value) (qt₁ : Tok) (e1 : oc₁.data = .fields ovs₁) (e2 : ovs₁[1]? = some (.str layQ qt₁)) : Spec w z 40 200 (.ref 153) [.ref r.rl, .ref k.kl] [] [] ((141, tabObj #[rawInt 106, rawInt 34, .ref c₁]) :: (c₁, oc₁) :: (r.led ++ k.led))
    (fun mu' new v => ∃ f its e, mu' = [] ∧ new = [(f, W.listOf its.toArray e)] ∧ IntsAre its (ordOf r.dat k.ks 4) ∧ v = .ref f) := order_hot.epsX.2 (fun w z r k c₁ oc₁ ovs₁ qt₁ dp un gd outer A₀ base g L h₁ s tk => Pk.all (T := order_hot.epsT) (ne := order_hot.eN) (Q := order_hot.epsQ) (by with_unfolding_all exact order_hot.eC) (w, z, r, k, c₁, oc₁, ovs₁, qt₁, dp, un, gd, outer, A₀, base, g, L, h₁, s, tk)) w z r k ro ko c₁ oc₁ hn₁ ovs₁ qt₁ e1 e2
end
section
section
variable {prog : Program} {w : World} {A : Around} {E : Value → Shared → Prop} {s : Shared} {h₀ : Heap} {L : Addr} {m : Str → Option Value} {news : Led}
theorem collect_range {R : List Value → Shared → Prop} {r : Addr} {a b c : Int} {t u v : Tok} {n : Nat} (hh : A.handled = none) (hr : IsRange s.heap r a b c t u v) (hsmall : Builtin.Range.small a b c = true) (hn : Builtin.Range.rangeSize a b c = n) (hlen : n ≤ 2 ^ 24)
    (h : ∀ (h' : Heap) (tk : Nat) (acc : Array Value), (∀ b o, s.heap.get? b = some o → h'.get? b = some o) → ItemsOf (fun i v => ∃ t, v = .int (a + i * c) t) acc n → R acc.toList { s with heap := h', toks := tk }) :
    wpAny (model prog w) A (collect (.ref r)) R E s := by
  unfold collect
  refine wpAny_bind (wpAny_runValue (codeAny_builtin entry_proto_collect' ?_))
  rw [Around.under_plainId PySem.F.plain_proto_collect _]
  show wpAny _ A.in1 (newList [] >>= fun l => again (.builtin "list.__iadd__" ⟨[l, .ref r], []⟩)) _ _ s
  refine wpAny_bind (wpAny_newObj_type ?_)
  refine wpAny_pure ⟨plainId_quiet PySem.F.plain_list_iadd _, codeAny_builtin entry_list_iadd' ?_⟩
  rw [Around.under_plainId PySem.F.plain_list_iadd _]
  have hS₁ : (s.heap.push { cls := .type "list", data := .seq ([] : List Value).toArray }).get? s.heap.objs.size = some { cls := .type "list", data := .seq #[] } := Heap.get?_push_size _ rfl
  show wpAny _ A.in1 (Builtin.List.listExtendWith (.ref s.heap.objs.size) (.ref r) (.ref s.heap.objs.size)) _ _ _
  have key := wpAny_extend_range (prog := prog) (w := w) (A := A) (s := { s with heap := s.heap.push { cls := .type "list", data := .seq ([] : List Value).toArray } })
    (R := fun (q : Result) (s' : Shared) => ∃ (h' : Heap) (tk : Nat) (acc' : Array Value) (c' : Nat), q = .ok (.ret (.ref s.heap.objs.size)) ∧ s' = { s with heap := h', toks := tk } ∧
      (∀ b o, s.heap.get? b = some o → h'.get? b = some o) ∧ h'.get? s.heap.objs.size = some { cls := .type "list", dict := none, data := .seq acc' c', slots := #[] } ∧ ItemsOf (fun i v => ∃ t, v = .int (a + i * c) t) acc' n)
    hh (Heap.get?_push_of_some _ hr) hsmall hn hlen s.heap.objs.size (.ref s.heap.objs.size) 0 hS₁
    (fun h' tk acc' c' hk hS' hacc => ⟨h', tk, acc', c', rfl, rfl, fun b o e => hk b o (Nat.ne_of_lt (Heap.lt_size e)) (Heap.get?_push_of_some _ e), hS', hacc⟩)
  refine wpAny_mono key (fun fin s' x => ?_) fun e s' x => ?_
  · cases fin with
    | done f =>
      obtain ⟨h', tk, acc', c', e, rfl, hk, hS', hacc⟩ := x
      cases e
      show wpAny _ A (load s.heap.objs.size >>= _) _ _ _
      refine wpAny_bind (wpAny_load hS' ?_)
      exact wpAny_pure (h h' tk acc' hk hacc)
    | again c₁ =>
      refine ⟨x.1, codeAny_mono x.2 fun q s₂ y => ?_⟩
      obtain ⟨h', tk, acc', c', rfl, rfl, hk, hS', hacc⟩ := y
      show wpAny _ A (load s.heap.objs.size >>= _) _ _ _
      refine wpAny_bind (wpAny_load hS' ?_)
      exact wpAny_pure (h h' tk acc' hk hacc)
  · obtain ⟨_, _, _, _, e', _⟩ := x
    cases e'
theorem sortedR {r : Addr} {a₁ b₁ c₁ : Int} {t u v : Tok} {n : Nat} {b : Bool} {f : Value} {kw : List (Str × Value)} {Q : Value → Shared → Prop} (F : Fr h₀ L s.heap m) (N : News h₀ L s.heap news) (hh : A.handled = none)
    (hr : IsRange s.heap r a₁ b₁ c₁ t u v) (hsmall : Builtin.Range.small a₁ b₁ c₁ = true) (hn : Builtin.Range.rangeSize a₁ b₁ c₁ = n) (h2 : 2 ≤ n) (h64 : n < 64)
    (ha1 : argsOk "sorted" ⟨[.ref r], kw⟩) (ha2 : ∀ x, argsOk "list.sort" ⟨[.ref x], kw⟩) (ht : ∀ x, Builtin.«list.sort» ⟨[.ref x], kw⟩ = ksk_tree x f b)
    (h : ∀ (vs : List Value) D kS e1 h' tk, vs.length = n → (∀ (j : Nat) (v : Value), vs[j]? = some v → ∃ t, v = Value.int (a₁ + j * c₁) t) → Fr h₀ L h' m → News h₀ L h' ((kS, seqObj "list" #[] 0) :: (D, seqObj "list" #[] e1) :: news) → D < kS → (∀ q ∈ news, q.1 < D) →
      KatKeys prog w A.in1.in1 h₀ L m kS f (fun ks e s' => wpAny (model prog w) A.in1.in1 (keyKind' (List.toArray ks)) (fun κ s'' => (kas_sort vs.length).kasWp (kas_ask prog w A.in1.in1 κ (katRev b ks)) (fun p s3 => KatFin h₀ L m kS D ks e e1 (katRev b (p.toList.map fun i => (katRev b vs).getD i Value.none)) (fun s4 => Q (.ref D) s4) s3) s'') (fun _ _ => False) s') vs [] 0 { s with heap := h', toks := tk }) :
    wpAny (model prog w) A (call (.builtin "sorted") [.ref r] kw) Q E s := by
  refine call_function_entry_kw kind_sorted plain_sorted entry_sorted ha1 ?_
  unfold Builtin.«sorted»
  refine wpAny_bind (m := checkCount "sorted" 1 1 _) (wpAny_pure ?_)
  refine wpAny_bind (collect_range (A := A.in1) hh hr hsmall hn (by omega) fun h1 tk acc keep hit => ?_)
  obtain ⟨vs, rfl⟩ : ∃ vs : List Value, acc = vs.toArray := ⟨acc.toList, by rw [Array.toArray_toList]⟩
  have hvl : vs.length = n := by have := hit.1; simpa using this
  have hvi : ∀ (j : Nat) (v : Value), vs[j]? = some v → ∃ t, v = Value.int (a₁ + j * c₁) t := fun j v hv => hit.2 j v (by simpa using hv)
  rw [show (vs.toArray).toList = vs by simp]
  refine wpAny_bind (wpAny_newList ?_ (by rw [sizeLine_eq]; omega))
  have hoL : (h1.push (seqObj "list" vs.toArray 0)).get? h1.objs.size = some (seqObj "list" vs.toArray 0) := Heap.get?_push_size _ rfl
  have keep2 : ∀ b o, s.heap.get? b = some o → (h1.push (seqObj "list" vs.toArray 0)).get? b = some o := fun b o q => Heap.get?_push_of_some _ (keep b o q)
  have hL : L < h1.objs.size := (F.keeps keep).ns.lt
  have hlt : ∀ p ∈ news, p.1 < h1.objs.size := fun p hp => Heap.lt_size (keep _ _ (N p hp).1)
  show wpAny _ _ _ _ _ { s with heap := h1.push (seqObj "list" vs.toArray 0), toks := tk }
  refine wpAny_bind (wpAny_holding (wpAny_call_entry_kw slot_list_sort ⟨_, hoL, rfl⟩ entry_list_sort ?body (ha2 _)))
  case body =>
    have ht' := ht h1.objs.size
    show wpAny (model prog w) A.in1.in1 (Builtin.«list.sort» ⟨[.ref h1.objs.size], kw⟩) _ _ _
    rw [ht']
    refine kat_keyed (s := { s with heap := h1.push (seqObj "list" vs.toArray 0), toks := tk })
      (F.kept keep2) (N.grown keep2) hoL (Nat.ne_of_gt hL) (Heap.get?_none_of_le (Nat.le_trans F.above (Nat.le_of_lt hL)))
      (fun p hp => Nat.ne_of_lt (hlt p hp)) (by omega) (by omega) fun kS e1 h' F' N' l0 l1 => ?_
    refine kat_keys_mono (h vs _ kS e1 h' tk hvl hvi F' N' l0 hlt) fun ks e s' hl' hd => ?_
    have hl2 : ks.length = vs.length := by simpa using hl'
    refine wpAny_mono hd (fun κ s'' hk => ?_) fun _ _ x => x
    rw [kat_ask_eq (vs := katRev b vs) (by rw [kat_len, kat_len, hl2])] at hk ⊢
    exact kas_wp_mono hk fun p s3 hk' => hk'.mono fun s4 hq => ⟨_, rfl, wpAny_pure ⟨_, rfl, hq⟩⟩
end
section
variable {w : World} {z : Env0} {nd nu : Nat} {dp un : Nat} {gd : Option (List Code)} {cn : Str} {cs : Scope} {a : Addr} {ccd : Value} {cl : List (Str × Addr)} {outer : List Env} {A₀ : Around}
  {base h₀ : Heap} {L : Addr} {m : Str → Option Value} {s : Shared} {all ex : Led} {f v : Value} {r ks : List Value} {e : Nat} {kS : Addr} {FinK : List Value → Nat → Shared → Prop} {Good : Obj → Prop}
theorem key_step (S : Spec w z nd nu f [v] [] [] ex (fun mu' new v' => mu' = [] ∧ ∃ K o, new = [(K, o)] ∧ Good o ∧ v' = .ref K)) (B : Below A₀ base outer h₀) (F : Fr h₀ L s.heap m) (X : (hd.heap_1 w.params).In h₀)
    (N : News h₀ L s.heap ((kS, seqObj "list" ks.toArray e) :: all)) (T : Top z.p z.loose z.mean z.mg z.mb h₀) (hk : cs.kind = .function)
    (c1 : CodeHd base 166 162) (c2 : CodeHd base 145 141) (c3 : CodeHd base 138 134) (hd : dp + nd < recursionLimit) (hu : un + nu < cLine) (hex : ∀ p ∈ ex, p ∈ all) (hkS : ∀ p ∈ all, @Ne Nat p.1 kS)
    (k : ∀ (K : Nat) (o : Obj) (h' : Heap) (c tk' : Nat), Good o → @Ne Nat kS K → (∀ p ∈ all, @Ne Nat p.1 K) → Fr h₀ L h' m → News h₀ L h' ((kS, seqObj "list" (ks ++ [Value.ref K]).toArray c) :: (K, o) :: all) →
      KatKeys PySem.Challenge.rw_wf0038_01.prog w (ktrTop dp un gd cn cs L a ccd cl outer) h₀ L m kS f FinK r (ks ++ [.ref K]) c { s with heap := h', toks := tk' }) :
    KatKeys PySem.Challenge.rw_wf0038_01.prog w (ktrTop dp un gd cn cs L a ccd cl outer) h₀ L m kS f FinK (v :: r) ks e s := by
  refine KatKeys.cons (Spec.use0 S B F X N T hk c1 c2 c3 hd hu (fun p hp => .tail _ (hex p hp)) fun v' mu' new h' tk' hR F' N' ap => ?_)
  obtain ⟨rfl, K, o, rfl, hG, rfl⟩ := hR
  have n1 : @Ne Nat kS K := ap _ (.head _) _ (.head _)
  have n2 : ∀ p ∈ all, @Ne Nat p.1 K := fun p hp => ap _ (.tail _ hp) _ (.head _)
  refine KatBack.intro (g := fun o' => (K, o) :: (kS, o') :: all) F' N' (.tail n1.symm (.head hkS)) fun h2 c F2 N2 => ?_
  exact k K o h2 c tk' hG n1 n2 F2 (sub_news N2 fun p hp => by
    rcases List.mem_cons.mp hp with rfl | hp
    · exact .tail _ (.head _)
    rcases List.mem_cons.mp hp with rfl | hp
    · exact .head _
    · exact .tail _ (.tail _ hp))
end
end
section
noncomputable def lexB : List Int → List Int → Bool
  | a :: r, b :: q => if a = b then lexB r q else decide (a < b)
  | _, _ => false
section
open PySem.SeqAt MeetsSeq MeetsSeq2 MeetsSeq3
theorem lt_loop (l b : Addr) (items items2 : List Value) (ns ms : List Int) (n n2 : Nat) (hi : IntsAre items ns) (hj : IntsAre items2 ms) (hsz : ns.length = ms.length) (k : Nat) :
    ∀ i : Nat, ns.length - i = k → Meets (Builtin.«list.__eq__.loop» ⟨[.ref l, .ref b, rawInt i, rawInt 0], []⟩)
      (fun _ R s => s.heap.get? l = some { cls := .type "list", dict := none, data := .seq items.toArray n, slots := #[] } ∧ s.heap.get? b = some { cls := .type "list", dict := none, data := .seq items2.toArray n2, slots := #[] } ∧
        R (.ok (.ret (.bool (lexB (ns.drop i) (ms.drop i))))) s) := by
  have hl1 := hi.length
  have hl2 := hj.length
  induction k with
  | zero =>
    intro i hk prog w A R s h
    obtain ⟨hp, g, d, tk, os⟩ := s; obtain ⟨hl, hb, h⟩ := h
    wp_walk using AutoSeq1.wpAny_loadPart' hl, AutoSeq1.wpAny_loadPart' hb
    have hi1 : items.toArray[((i : Nat) : Int).toNat]? = none := by simp; omega
    have hi2 : items2.toArray[((i : Nat) : Int).toNat]? = none := by simp; omega
    have hd : ns.drop i = [] := by simp; omega
    rw [hd] at h
    rw [hi1, hi2]
    wp_walk using AutoSeq1.wpAny_loadPart' hl, AutoSeq1.wpAny_loadPart' hb
    show R (.ok (.ret (.bool (decide (items.toArray.size < items2.toArray.size))))) _
    have e : decide (items.toArray.size < items2.toArray.size) = false := by rw [List.size_toArray, List.size_toArray, hl1, hl2, hsz]; simp
    rw [e]
    exact h
  | succ k ih =>
    intro i hk prog w A R s h
    obtain ⟨hp, g, d, tk, os⟩ := s; obtain ⟨hl, hb, h⟩ := h
    wp_walk using AutoSeq1.wpAny_loadPart' hl, AutoSeq1.wpAny_loadPart' hb
    have hlt : i < ns.length := by omega
    have hlt2 : i < ms.length := by omega
    have hx1 : i < items.length := by omega
    have hx2 : i < items2.length := by omega
    obtain ⟨a, t, ha, hna⟩ := IntsAre.at hi i items[i] (by simp [hx1])
    obtain ⟨c, u, hc, hmc⟩ := IntsAre.at hj i items2[i] (by simp [hx2])
    have hi1 : items.toArray[((i : Nat) : Int).toNat]? = some (.int a t) := by rw [← ha]; simp [hx1]
    have hi2 : items2.toArray[((i : Nat) : Int).toNat]? = some (.int c u) := by rw [← hc]; simp [hx2]
    have ea : ns[i] = a := by have := hna; rw [List.getElem?_eq_getElem hlt] at this; exact Option.some.inj this
    have ec : ms[i] = c := by have := hmc; rw [List.getElem?_eq_getElem hlt2] at this; exact Option.some.inj this
    have hd1 : ns.drop i = a :: ns.drop (i + 1) := by rw [List.drop_eq_getElem_cons hlt, ea]
    have hd2 : ms.drop i = c :: ms.drop (i + 1) := by rw [List.drop_eq_getElem_cons hlt2, ec]
    have hcast : ((i : Int) + 1) = ((i + 1 : Nat) : Int) := by push_cast; rfl
    rw [hd1, hd2] at h
    rw [hi1, hi2]
    refine wpAny_bind (EqAt.int_int a t c u prog w _ _ ?_)
    cases hb' : (a == c) with
    | true =>
      have e : a = c := by simpa using hb'
      simp only [lexB, if_pos e] at h
      wp_walk
      rw [hcast]
      exact ⟨plainId_quiet plain_eq_loop _, codeAny_builtin entry_eq_loop (by
        rw [Around.under_plainId plain_eq_loop _]
        exact ih (i + 1) (by omega) prog w A R _ ⟨hl, hb, h⟩)⟩
    | false =>
      have e : ¬ a = c := by simpa using hb'
      simp only [lexB, if_neg e] at h
      wp_walk using AutoSeq1.wpAny_loadPart' hl, AutoSeq1.wpAny_loadPart' hb
      rw [hi1, hi2]
      exact wpAny_bind (show wpAny _ _ (compareOp .Lt (Value.int a t) (Value.int c u)) _ _ _ from PyProof.Rows.lt_int (wpAny_pure h))
theorem list_lt (l b : Addr) (items items2 : List Value) (ns ms : List Int) (n n2 : Nat) (hi : IntsAre items ns) (hj : IntsAre items2 ms) (hsz : ns.length = ms.length) :
    Meets (Builtin.«list.__lt__» ⟨[.ref l, .ref b], []⟩)
      (fun _ R s => s.heap.get? l = some { cls := .type "list", dict := none, data := .seq items.toArray n, slots := #[] } ∧ s.heap.get? b = some { cls := .type "list", dict := none, data := .seq items2.toArray n2, slots := #[] } ∧
        R (.ok (.ret (.bool (lexB ns ms)))) s) := by
  intro prog w A R s h
  obtain ⟨hp, g, d, tk, os⟩ := s; obtain ⟨hl, hb, h⟩ := h
  have f3 := AutoSeq1.sub_list_list
  wp_walk using AutoSeq1.wpAny_loadPart' hl, AutoSeq1.wpAny_loadPart' hb
  exact ⟨plainId_quiet plain_eq_loop _, codeAny_builtin entry_eq_loop (by
    rw [Around.under_plainId plain_eq_loop _]
    exact lt_loop l b items items2 ns ms n n2 hi hj hsz _ 0 rfl prog w A R _ ⟨hl, hb, h⟩)⟩
end
section
variable {prog : Program} {w : World} {A : Around} {E : Value → Shared → Prop} {s : Shared}
theorem keyLt_lists {l b : Addr} {items items2 : List Value} {ns ms : List Int} {n n2 : Nat} {Q : Bool → Shared → Prop} (hu : A.units < cLine) (hl : s.heap.get? l = some { cls := .type "list", data := .seq items.toArray n }) (hb : s.heap.get? b = some { cls := .type "list", data := .seq items2.toArray n2 })
    (hi : IntsAre items ns) (hj : IntsAre items2 ms) (hsz : ns.length = ms.length) (h : Q (lexB ns ms) s) : wpAny (model prog w) A (keyLt' oneType' (.ref l) (.ref b)) Q E s := by
  rw [keyLt'_oneType, oneLt'_eq]
  simp only [if_true]
  refine wpAny_bind (wpAny_cRoomFor hu ?_)
  refine wpAny_bind (wpAny_callSpecialIfBound?_slot ⟨_, hl, rfl⟩ PySem.F.slot_list_lt (call_meets PySem.F.slot_list_lt ⟨_, hl, rfl⟩ PySem.F.entry_list_lt (PySem.F.args_list_lt_2 _ _) (list_lt l b items items2 ns ms n n2 hi hj hsz) ⟨hl, hb, ?_⟩))
  exact wpAny_truthy_bool h
end
noncomputable def keyOf (r : RowD) (ks : List (Int × Int)) : List Int := ks.map fun p => r.at p.1 * p.2
end
section
theorem lexB_irr : ∀ a : List Int, lexB a a = false
  | [] => rfl
  | a :: r => by simp only [lexB, if_true]; exact lexB_irr r
theorem lexB_tot : ∀ {a b : List Int}, a.length = b.length → a ≠ b → lexB a b = !lexB b a
  | [], [], _, h => absurd rfl h
  | [], _ :: _, h, _ => by simp at h
  | _ :: _, [], h, _ => by simp at h
  | x :: r, y :: q, h, hn => by
    by_cases e : x = y
    · subst e
      simp only [lexB, if_true]
      exact lexB_tot (by simpa using h) fun e => hn (by rw [e])
    · have e' : ¬ y = x := fun q => e q.symm
      simp only [lexB, if_neg e, if_neg e']
      by_cases hlt : x < y
      · rw [decide_eq_true hlt, decide_eq_false (by omega)]; rfl
      · rw [decide_eq_false hlt, decide_eq_true (by omega)]; rfl
theorem lexB_trans : ∀ {a b c : List Int}, a.length = b.length → b.length = c.length → lexB a b = true → lexB b c = true → lexB a c = true
  | [], [], _, _, _, h, _ => by cases h
  | [], _ :: _, _, h, _, _, _ => by simp at h
  | _ :: _, [], _, h, _, _, _ => by simp at h
  | _ :: _, _ :: _, [], _, h, _, _ => by simp at h
  | x :: r, y :: q, z :: t, h1, h2, h, h' => by
    simp only [lexB] at h h' ⊢
    by_cases e : x = y
    · subst e
      rw [if_pos rfl] at h
      by_cases e2 : x = z
      · subst e2
        rw [if_pos rfl] at h' ⊢
        exact lexB_trans (by simpa using h1) (by simpa using h2) h h'
      · rw [if_neg e2] at h' ⊢
        exact h'
    · rw [if_neg e] at h
      have hlt := of_decide_eq_true h
      by_cases e2 : y = z
      · subst e2
        rw [if_neg e]; exact h
      · rw [if_neg e2] at h'
        have hlt2 := of_decide_eq_true h'
        rw [if_neg (by omega)]
        exact decide_eq_true (by omega)
theorem cmpK_lex (a b : RowD) : ∀ {ks : List (Int × Int)}, (∀ p ∈ ks, p.2 ≠ 0) → decide (0 < cmpK a b ks) = lexB (keyOf b ks) (keyOf a ks)
  | [], _ => rfl
  | (c, d) :: r, h => by
    have hd : d ≠ 0 := h (c, d) (.head _)
    have ih := cmpK_lex a b (ks := r) fun p hp => h p (.tail _ hp)
    show decide (0 < (if a.at c < b.at c then -d else if b.at c < a.at c then d else cmpK a b r)) = (if b.at c * d = a.at c * d then lexB (keyOf b r) (keyOf a r) else decide (b.at c * d < a.at c * d))
    by_cases e : b.at c = a.at c
    · rw [e, if_neg (Int.lt_irrefl _), if_neg (Int.lt_irrefl _), if_pos rfl]
      exact ih
    · have e' : ¬ b.at c * d = a.at c * d := fun q => e (Int.eq_of_mul_eq_mul_right hd q)
      rw [if_neg e']
      rcases Int.lt_or_gt_of_ne hd with hn | hp
      · by_cases hl : a.at c < b.at c
        · rw [if_pos hl, decide_eq_true (show 0 < -d by omega), decide_eq_true (Int.mul_lt_mul_of_neg_right hl hn)]
        · have hl2 : b.at c < a.at c := by omega
          rw [if_neg hl, if_pos hl2, decide_eq_false (show ¬ 0 < d by omega), decide_eq_false (Int.not_lt.mpr (Int.le_of_lt (Int.mul_lt_mul_of_neg_right hl2 hn)))]
      · by_cases hl : a.at c < b.at c
        · rw [if_pos hl, decide_eq_false (show ¬ 0 < -d by omega), decide_eq_false (Int.not_lt.mpr (Int.le_of_lt (Int.mul_lt_mul_of_pos_right hl hp)))]
        · have hl2 : b.at c < a.at c := by omega
          rw [if_neg hl, if_pos hl2, decide_eq_true hp, decide_eq_true (Int.mul_lt_mul_of_pos_right hl2 hp)]
theorem cmpK_self (a : RowD) : ∀ ks : List (Int × Int), cmpK a a ks = 0
  | [] => rfl
  | (c, d) :: r => by
    show (if a.at c < a.at c then -d else if a.at c < a.at c then d else cmpK a a r) = 0
    rw [if_neg (Int.lt_irrefl _), if_neg (Int.lt_irrefl _)]
    exact cmpK_self a r
noncomputable def insO (lt : Int → Int → Bool) : Nat → List Int
  | 0 => []
  | i + 1 => insAt (insO lt i) (bis (fun j => lt (0 + (i : Int)) ((insO lt i).getD j 0)) (insO lt i).length 0 (insO lt i).length) (0 + (i : Int))
theorem ordOf_insO (dat : Int → RowD) {ks : List (Int × Int)} (h : ∀ p ∈ ks, p.2 ≠ 0) : ∀ i, ordOf dat ks i = insO (fun a b => lexB (keyOf (dat a) ks) (keyOf (dat b) ks)) i
  | 0 => rfl
  | i + 1 => by
    have ih := ordOf_insO dat h i
    show insAt _ (bis _ _ 0 _) _ = insAt _ (bis _ _ 0 _) _
    rw [ih]
    congr 2
    funext j
    rw [cmpK_self]
    exact cmpK_lex _ _ h
end
section
noncomputable def KasT.ev {α : Type} (lt : Nat → Nat → Bool) : PySem.W.KasT α → α
  | .ret a => a
  | .ask i j k => KasT.ev lt (k (lt i j))
noncomputable def KasT.below {α : Type} (n : Nat) : PySem.W.KasT α → Bool
  | .ret _ => true
  | .ask i j k => Nat.blt i n && (Nat.blt j n && (KasT.below n (k true) && KasT.below n (k false)))
theorem kas_go {α : Type} {n : Nat} {lt : Nat → Nat → Bool} {cmp : Nat → Nat → (Bool → Shared → Prop) → Shared → Prop} {Q : α → Shared → Prop} {s : Shared} (hc : ∀ i j C, i < n → j < n → C (lt i j) s → cmp i j C s) :
    ∀ t : PySem.W.KasT α, KasT.below n t = true → Q (KasT.ev lt t) s → t.kasWp cmp Q s
  | .ret _, _, h => h
  | .ask i j k, hb, h => by
    simp only [KasT.below, Bool.and_eq_true] at hb
    obtain ⟨h1, h2, h3, h4⟩ := hb
    refine hc i j _ (Nat.blt_eq.mp h1) (Nat.blt_eq.mp h2) ?_
    show (k (lt i j)).kasWp cmp Q s
    cases hl : lt i j with
    | true => exact kas_go hc (k true) h3 (by rw [KasT.ev, hl] at h; exact h)
    | false => exact kas_go hc (k false) h4 (by rw [KasT.ev, hl] at h; exact h)
theorem ev_congr {α : Type} {n : Nat} {lt lt' : Nat → Nat → Bool} (hc : ∀ i j, i < n → j < n → lt i j = lt' i j) : ∀ t : PySem.W.KasT α, KasT.below n t = true → KasT.ev lt t = KasT.ev lt' t
  | .ret _, _ => rfl
  | .ask i j k, hb => by
    simp only [KasT.below, Bool.and_eq_true] at hb
    obtain ⟨h1, h2, h3, h4⟩ := hb
    rw [KasT.ev, KasT.ev, ← hc i j (Nat.blt_eq.mp h1) (Nat.blt_eq.mp h2)]
    cases lt i j with
    | true => exact ev_congr hc (k true) h3
    | false => exact ev_congr hc (k false) h4
theorem below4 : KasT.below 4 (kas_sort 4) = true := by decide +kernel
noncomputable def srtOf (lt : Nat → Nat → Bool) : List Int := (KasT.ev lt (kas_sort 4)).toList.map fun (i : Nat) => 0 + (i : Int) * 1
noncomputable def ltT (p q r u v x : Bool) : Nat → Nat → Bool
  | 0, 1 => p | 1, 0 => !p
  | 0, 2 => q | 2, 0 => !q
  | 0, 3 => r | 3, 0 => !r
  | 1, 2 => u | 2, 1 => !u
  | 1, 3 => v | 3, 1 => !v
  | 2, 3 => x | 3, 2 => !x
  | _, _ => false
noncomputable def flat3 (a b c : Bool) : Bool := !(a && b && !c) && !(!a && !b && c)
theorem srt_table : ∀ p q r u v x : Bool, flat3 p u q = true → flat3 p v r = true → flat3 q x r = true → flat3 u x v = true → srtOf (ltT p q r u v x) = insO (fun a b => ltT p q r u v x a.toNat b.toNat) 4 := by decide +kernel
theorem insO_congr {lt lt' : Int → Int → Bool} (h : ∀ i j : Nat, i < 4 → j < 4 → i ≠ j → lt (0 + (i : Int)) (0 + (j : Int)) = lt' (0 + (i : Int)) (0 + (j : Int))) : ∀ i : Nat, i ≤ 4 → insO lt i = insO lt' i ∧ (insO lt i).length = i ∧ ∀ n ∈ insO lt i, ∃ k : Nat, k < i ∧ n = 0 + (k : Int)
  | 0, _ => ⟨rfl, rfl, fun _ h => by cases h⟩
  | i + 1, hi => by
    obtain ⟨h1, h2, h3⟩ := insO_congr h i (by omega)
    have hk := bis_le (fun j => lt (0 + (i : Int)) ((insO lt i).getD j 0)) (insO lt i).length 0 (insO lt i).length (Nat.zero_le _)
    have hb : ∀ (f lo hi' : Nat), lo ≤ hi' → hi' ≤ (insO lt i).length → bis (fun j => lt (0 + (i : Int)) ((insO lt i).getD j 0)) f lo hi' = bis (fun j => lt' (0 + (i : Int)) ((insO lt i).getD j 0)) f lo hi' := by
      intro f
      induction f with
      | zero => intro lo hi' _ _; rfl
      | succ f ih =>
        intro lo hi' hl hh
        show (if lo < hi' then (if lt (0 + (i : Int)) ((insO lt i).getD ((lo + hi') / 2) 0) then _ else _) else lo) = (if lo < hi' then (if lt' (0 + (i : Int)) ((insO lt i).getD ((lo + hi') / 2) 0) then _ else _) else lo)
        by_cases hlt : lo < hi'
        · rw [if_pos hlt, if_pos hlt]
          obtain ⟨k, hk', e⟩ := h3 _ (getD_mem (ns := insO lt i) (i := (lo + hi') / 2) (by omega))
          rw [e, h i k (by omega) (by omega) (by omega), ih _ _ (by omega) (by omega), ih _ _ (by omega) (by omega)]
        · rw [if_neg hlt, if_neg hlt]
    refine ⟨?_, ?_, ?_⟩
    · show insAt _ (bis _ _ 0 _) _ = insAt _ (bis _ _ 0 _) _
      rw [hb _ _ _ (Nat.zero_le _) (Nat.le_refl _), h1]
    · show (insAt _ _ _).length = i + 1
      unfold insAt
      rw [List.length_append, List.length_take, List.length_cons, List.length_drop]
      omega
    · intro n hn
      have hn' : n ∈ insAt (insO lt i) (bis (fun j => lt (0 + (i : Int)) ((insO lt i).getD j 0)) (insO lt i).length 0 (insO lt i).length) (0 + (i : Int)) := hn
      unfold insAt at hn'
      rcases List.mem_append.mp hn' with h | h
      · obtain ⟨k, a, b⟩ := h3 n (List.mem_of_mem_take h); exact ⟨k, by omega, b⟩
      · rcases List.mem_cons.mp h with rfl | h
        · exact ⟨i, by omega, rfl⟩
        · obtain ⟨k, a, b⟩ := h3 n (List.mem_of_mem_drop h); exact ⟨k, by omega, b⟩
theorem srt_ins (K : Int → List Int) (hlen : ∀ i j : Nat, i < 4 → j < 4 → (K (0 + (i : Int))).length = (K (0 + (j : Int))).length) (hne : ∀ i j : Nat, i < 4 → j < 4 → i ≠ j → K (0 + (i : Int)) ≠ K (0 + (j : Int))) :
    srtOf (fun i j => lexB (K (0 + (i : Int) * 1)) (K (0 + (j : Int) * 1))) = insO (fun a b => lexB (K a) (K b)) 4 := by
  have one : ∀ i : Nat, (0 : Int) + (i : Int) * 1 = 0 + (i : Int) := fun i => by rw [Int.mul_one]
  have tot : ∀ i j : Nat, i < 4 → j < 4 → i ≠ j → lexB (K (0 + (i : Int))) (K (0 + (j : Int))) = !lexB (K (0 + (j : Int))) (K (0 + (i : Int))) := fun i j hi hj h => lexB_tot (hlen i j hi hj) (hne i j hi hj h)
  have tr : ∀ i j k : Nat, i < 4 → j < 4 → k < 4 → i ≠ j → j ≠ k → i ≠ k → flat3 (lexB (K (0 + (i : Int))) (K (0 + (j : Int)))) (lexB (K (0 + (j : Int))) (K (0 + (k : Int)))) (lexB (K (0 + (i : Int))) (K (0 + (k : Int)))) = true := by
    intro i j k hi hj hk hij hjk hik
    have t1 := fun h h' => lexB_trans (hlen i j hi hj) (hlen j k hj hk) h h'
    have t2 := fun h h' => lexB_trans (hlen k j hk hj) (hlen j i hj hi) h h'
    rw [tot k j hk hj (Ne.symm hjk), tot j i hj hi (Ne.symm hij), tot k i hk hi (Ne.symm hik)] at t2
    revert t1 t2
    cases lexB (K (0 + (i : Int))) (K (0 + (j : Int))) <;> cases lexB (K (0 + (j : Int))) (K (0 + (k : Int))) <;> cases lexB (K (0 + (i : Int))) (K (0 + (k : Int))) <;> simp [flat3]
  have agree : ∀ i j : Nat, i < 4 → j < 4 → i ≠ j → lexB (K (0 + (i : Int))) (K (0 + (j : Int))) = ltT (lexB (K (0 + ((0 : Nat) : Int))) (K (0 + ((1 : Nat) : Int)))) (lexB (K (0 + ((0 : Nat) : Int))) (K (0 + ((2 : Nat) : Int)))) (lexB (K (0 + ((0 : Nat) : Int))) (K (0 + ((3 : Nat) : Int)))) (lexB (K (0 + ((1 : Nat) : Int))) (K (0 + ((2 : Nat) : Int)))) (lexB (K (0 + ((1 : Nat) : Int))) (K (0 + ((3 : Nat) : Int)))) (lexB (K (0 + ((2 : Nat) : Int))) (K (0 + ((3 : Nat) : Int)))) i j := by
    intro i j hi hj hij
    have hi' : i = 0 ∨ i = 1 ∨ i = 2 ∨ i = 3 := by first | exact orN4 (by omega) | exact orI4 (by omega) (by omega)
    have hj' : j = 0 ∨ j = 1 ∨ j = 2 ∨ j = 3 := by first | exact orN4 (by omega) | exact orI4 (by omega) (by omega)
    rcases hi' with rfl | rfl | rfl | rfl <;> rcases hj' with rfl | rfl | rfl | rfl <;> first | exact absurd rfl hij | rfl | exact tot _ _ (by decide) (by decide) (by decide)
  have self : ∀ (p q r u v x : Bool) (i : Nat), i < 4 → ltT p q r u v x i i = false := by
    intro p q r u v x i hi
    have hi' : i = 0 ∨ i = 1 ∨ i = 2 ∨ i = 3 := by first | exact orN4 (by omega) | exact orI4 (by omega) (by omega)
    rcases hi' with rfl | rfl | rfl | rfl <;> rfl
  have e1 : srtOf (fun i j => lexB (K (0 + (i : Int) * 1)) (K (0 + (j : Int) * 1))) = srtOf (ltT (lexB (K (0 + ((0 : Nat) : Int))) (K (0 + ((1 : Nat) : Int)))) (lexB (K (0 + ((0 : Nat) : Int))) (K (0 + ((2 : Nat) : Int)))) (lexB (K (0 + ((0 : Nat) : Int))) (K (0 + ((3 : Nat) : Int)))) (lexB (K (0 + ((1 : Nat) : Int))) (K (0 + ((2 : Nat) : Int)))) (lexB (K (0 + ((1 : Nat) : Int))) (K (0 + ((3 : Nat) : Int)))) (lexB (K (0 + ((2 : Nat) : Int))) (K (0 + ((3 : Nat) : Int))))) := by
    unfold srtOf
    rw [ev_congr (n := 4) (fun i j hi hj => ?_) (kas_sort 4) below4]
    rw [one, one]
    by_cases hij : i = j
    · subst hij; rw [lexB_irr, self _ _ _ _ _ _ _ hi]
    · exact agree i j hi hj hij
  rw [e1, srt_table _ _ _ _ _ _ (tr 0 1 2 (by decide) (by decide) (by decide) (by decide) (by decide) (by decide)) (tr 0 1 3 (by decide) (by decide) (by decide) (by decide) (by decide) (by decide)) (tr 0 2 3 (by decide) (by decide) (by decide) (by decide) (by decide) (by decide)) (tr 1 2 3 (by decide) (by decide) (by decide) (by decide) (by decide) (by decide))]
  refine (insO_congr (fun i j hi hj hij => ?_) 4 (Nat.le_refl _)).1
  show ltT _ _ _ _ _ _ (0 + (i : Int)).toNat (0 + (j : Int)).toNat = _
  have z : ∀ i : Nat, (0 + (i : Int)).toNat = i := fun i => by omega
  rw [z, z]
  exact (agree i j hi hj hij).symm
end
section
noncomputable def leafOk : PySem.W.KasT (Array Nat) → Bool
  | .ret p => p.toList.all fun i => Nat.blt i 4
  | .ask _ _ k => leafOk (k true) && leafOk (k false)
theorem leaf4 : leafOk (kas_sort 4) = true := by decide +kernel
theorem ev_leaf {lt : Nat → Nat → Bool} : ∀ t : PySem.W.KasT (Array Nat), leafOk t = true → ∀ i ∈ (KasT.ev lt t).toList, i < 4
  | .ret p, h => fun i hi => Nat.blt_eq.mp (List.all_eq_true.mp h i hi)
  | .ask i j k, h => by
    simp only [leafOk, Bool.and_eq_true] at h
    rw [KasT.ev]
    cases lt i j with
    | true => exact ev_leaf (k true) h.1
    | false => exact ev_leaf (k false) h.2
theorem ints_pick {vs : List Value} (hv : ∀ (j : Nat) (v : Value), vs[j]? = some v → ∃ t, v = Value.int (0 + (j : Int) * 1) t) (hl : vs.length = 4) : ∀ l : List Nat, (∀ i ∈ l, i < 4) → IntsAre (l.map fun i => vs.getD i Value.none) (l.map fun (i : Nat) => 0 + (i : Int) * 1)
  | [], _ => .nil
  | i :: r, h => by
    have hi : i < vs.length := by rw [hl]; exact h i (.head _)
    have e : vs.getD i Value.none = vs[i] := by simp [hi]
    obtain ⟨t, ht⟩ := hv i vs[i] (by simp [hi])
    rw [List.map_cons, List.map_cons, e, ht]
    exact .cons _ _ (ints_pick hv hl r fun j hj => h j (.tail _ hj))
theorem looks_list {M : Model} {h : Heap} {a : Addr} {o : Obj} (e : h.get? a = some o) (hc : o.cls = .type "list") : Looks M h (typeOf (.ref a)) (.type "list") := fun _ _ _ _ k q => by
  refine wpAny_typeOf (T := "list") ⟨o, k _ _ e, hc⟩ q
section
variable {prog : Program} {w : World} {A : Around} {s : Shared} {h₀ : Heap} {L : Addr} {m : Str → Option Value}
theorem sort_fin {D kS : Nat} {ks vs : List Value} {c e1 : Nat} {all : Led} {Kf : Int → List Int} {Q : Value → Shared → Prop} (hu : A.units < cLine) (F : Fr h₀ L s.heap m) (N : News h₀ L s.heap ((kS, seqObj "list" ks.toArray c) :: (D, seqObj "list" #[] e1) :: all))
    (hk4 : ks.length = 4) (hks : ∀ i : Nat, i < 4 → ∃ (a : Nat) (l : List Value) (e : Nat), ks[i]? = some (.ref a) ∧ (a, W.listOf l.toArray e) ∈ all ∧ IntsAre l (Kf (0 + (i : Int) * 1))) (hlen : ∀ i j : Nat, i < 4 → j < 4 → (Kf (0 + (i : Int) * 1)).length = (Kf (0 + (j : Int) * 1)).length)
    (hv : ∀ (j : Nat) (v : Value), vs[j]? = some v → ∃ t, v = Value.int (0 + (j : Int) * 1) t) (hl : vs.length = 4) (hDk : @Ne Nat D kS) (hkS : ∀ p ∈ all, @Ne Nat p.1 kS) (hD : ∀ p ∈ all, @Ne Nat p.1 D)
    (k : ∀ its c' h', IntsAre its (srtOf (fun i j => lexB (Kf (0 + (i : Int) * 1)) (Kf (0 + (j : Int) * 1)))) → Fr h₀ L h' m → News h₀ L h' ((D, W.listOf (List.toArray its) c') :: all) → Q (.ref D) { s with heap := h' }) :
    wpAny (model prog w) A (keyKind' ks.toArray) (fun κ s'' => (kas_sort 4).kasWp (kas_ask prog w A κ (katRev false ks)) (fun p s3 => KatFin h₀ L m kS D ks c e1 (katRev false (p.toList.map fun i => (katRev false vs).getD i Value.none)) (fun s4 => Q (.ref D) s4) s3) s'') (fun _ _ => False) s := by
  have hget : ∀ i : Nat, i < 4 → ∃ (a : Nat) (l : List Value) (e : Nat), ks.getD i Value.none = .ref a ∧ s.heap.get? a = some (W.listOf l.toArray e) ∧ IntsAre l (Kf (0 + (i : Int) * 1)) := fun i hi => by
    obtain ⟨a, l, e, h1, h2, h3⟩ := hks i hi
    exact ⟨a, l, e, by rw [List.getD_eq_getElem?_getD, h1]; rfl, (N _ (.tail _ (.tail _ h2))).1, h3⟩
  refine kas_kind (T := .type "list") (by omega) (fun v hv => ?_) (by decide) (by decide) ?_
  · obtain ⟨i, hi, e⟩ := List.getElem_of_mem hv
    obtain ⟨a, l, e', h1, h2, _⟩ := hget i (by omega)
    have : v = .ref a := by rw [← h1, ← e]; simp [hi]
    subst this
    exact looks_list h2 rfl
  · refine kas_go (n := 4) (lt := fun i j => lexB (Kf (0 + (i : Int) * 1)) (Kf (0 + (j : Int) * 1))) (fun i j C hi hj hC => ?_) _ below4 ?_
    · obtain ⟨a, l, e, h1, h2, h3⟩ := hget i hi
      obtain ⟨a', l', e', h1', h2', h3'⟩ := hget j hj
      show wpAny _ _ (keyLt' oneType' (ks.getD i Value.none) (ks.getD j Value.none)) _ _ _
      rw [h1, h1']
      exact keyLt_lists hu h2 h2' h3 h3' (hlen i j hi hj) hC
    · refine KatFin.intro F N (.head (all_cons.mpr ⟨hDk, hkS⟩)) fun h' c' F' N' => ?_
      refine KasFin.intro F' N' (.tail hDk.symm (.head hD)) fun h2 c2 F2 N2 => ?_
      exact k _ c2 h2 (ints_pick hv hl _ (ev_leaf _ leaf4)) F2 fun p hp => N2 p (.tail _ hp)
end
end
local macro_rules | `(tactic| walk_at $s:str) => `(tactic| k_extra $s)
local macro_rules | `(tactic| k_all) => `(tactic| k_extra "k_all")
section
local macro_rules | `(tactic| walk_at "subscriptTail Subscript Name ref int") => `(tactic| k_extra "subscriptTail")
theorem Spec.exs {w : World} {z : Env0} {nd nu : Nat} {f : Value} {vs : List Value} {kw : List (Str × Value)} {mu ex : Led} {R : Led → Led → Value → Prop} {h₀ h : Heap} {L : Addr} {a : Addr × Obj} {all : Led} (_ : Spec w z nd nu f vs kw mu ex R) (_ : News h₀ L h (a :: all)) (h : ∀ p ∈ ex, p ∈ all) : ∀ p ∈ ex, p ∈ all := h
theorem off1_mem {D : Addr} : ∀ {l : Led}, LCg.Off1 D l → ∀ p ∈ l, @Ne Nat p.1 D
  | [], _, _, h => by cases h
  | p :: r, x, q, h => by
    rcases List.mem_cons.mp h with rfl | h
    · exact x.1
    · exact off1_mem x.2 q h
theorem have_spec {h₀ h : Heap} {L : Addr} {a b : Addr × Obj} {f : Addr} {o : Obj} {rest : Led} {G : Prop} (T : Obj → Prop) (_N : News h₀ L h (a :: b :: (f, o) :: rest)) (S : T o) (k : T o → G) : G := k S
local macro_rules | `(tactic| walk_at "eval Lambda") => `(tactic| k_extra "eval Lambda")
noncomputable abbrev figO (r : RowD) : Obj := tupleO [.int r.r0 r.t0, .int r.r1 r.t1, .int r.r2 r.t2, .int r.r3 r.t3]
structure FigD where
  fl : Nat
  e : Nat
  ad : Int → Nat
  dat : Int → RowD
noncomputable abbrev FigD.led (r : FigD) : Led := [(r.fl, W.listOf [Value.ref (r.ad 0), .ref (r.ad 1), .ref (r.ad 2), .ref (r.ad 3)].toArray r.e), (r.ad 0, figO (r.dat 0)), (r.ad 1, figO (r.dat 1)), (r.ad 2, figO (r.dat 2)), (r.ad 3, figO (r.dat 3))]
noncomputable abbrev srtQ : Str := (Str.ofString "_law_sorted" ++ Str.ofString ".<locals>.") ++ Str.ofString "<lambda>"
structure KeysD.Sg (k : KeysD) : Prop where
  s0 : -2 ≤ k.d0 ∧ k.d0 ≤ 3
  s1 : -2 ≤ k.d1 ∧ k.d1 ≤ 3
  s2 : -2 ≤ k.d2 ∧ k.d2 ≤ 3
section
variable {prog : Program} {w : World} {A : Around} {E : Value → Shared → Prop} {s : Shared} {h₀ : Heap} {L : Addr} {news : Led} {Q : Value → Shared → Prop}
theorem figs_item {value slice : PySem.Expr} {r : FigD} {n : Int} {u : Tok} (N : News h₀ L s.heap news) (hm : (r.fl, W.listOf [Value.ref (r.ad 0), .ref (r.ad 1), .ref (r.ad 2), .ref (r.ad 3)].toArray r.e) ∈ news) (h0 : 0 ≤ n) (h3 : n ≤ 3) (h : Q (.ref (r.ad n)) s)
    (hs : subscripted slice false (.ref r.fl) (.int n u) = operate [.ref r.fl, .int n u] (getItem (.ref r.fl) (.int n u)) := by with_unfolding_all rfl) (hg : ∀ r', letTemporaryGo value (.ref r.fl) r' = pure () := by intro _; with_unfolding_all rfl) :
    wpAny (model prog w) A (subscriptTail value slice (.ref r.fl) (.int n u)) Q E s := by
  refine item_listL (News.isList N hm) h0 (by omega) (x := .ref (r.ad n)) ?_ h hs hg
  have : n = 0 ∨ n = 1 ∨ n = 2 ∨ n = 3 := by first | exact orN4 (by omega) | exact orI4 (by omega) (by omega)
  rcases this with rfl | rfl | rfl | rfl <;> rfl
theorem at_getD {r : RowD} {c : Int} (h0 : 0 ≤ c) (h3 : c ≤ 3) : r.at c = [r.r0, r.r1, r.r2, r.r3].getD c.toNat 0 := by
  have : c = 0 ∨ c = 1 ∨ c = 2 ∨ c = 3 := by first | exact orN4 (by omega) | exact orI4 (by omega) (by omega)
  rcases this with rfl | rfl | rfl | rfl <;> rfl
noncomputable def figTok (r : RowD) (c : Int) : Tok := if c = 0 then r.t0 else if c = 1 then r.t1 else if c = 2 then r.t2 else r.t3
theorem fig_item {value slice : PySem.Expr} {l : Addr} {r : RowD} {c : Int} {u : Tok} (N : News h₀ L s.heap news) (hm : (l, figO r) ∈ news) (h0 : 0 ≤ c) (h3 : c ≤ 3) (h : Q (.int (r.at c) (figTok r c)) s)
    (hs : subscripted slice false (.ref l) (.int c u) = operate [.ref l, .int c u] (getItem (.ref l) (.int c u)) := by with_unfolding_all rfl) :
    wpAny (model prog w) A (subscriptTail value slice (.ref l) (.int c u)) Q E s := by
  refine item_tupleT (j := c.toNat) (x := .int (r.at c) (figTok r c)) (News.isTup N hm) (by omega) (by omega) ?_ ?_ h hs
  · have : c = 0 ∨ c = 1 ∨ c = 2 ∨ c = 3 := by first | exact orN4 (by omega) | exact orI4 (by omega) (by omega)
    rcases this with rfl | rfl | rfl | rfl <;> rfl
  · have : c = 0 ∨ c = 1 ∨ c = 2 ∨ c = 3 := by first | exact orN4 (by omega) | exact orI4 (by omega) (by omega)
    rcases this with rfl | rfl | rfl | rfl <;> rfl
end
theorem figs_mem {r : FigD} {n : Int} (h0 : 0 ≤ n) (h3 : n ≤ 3) : (r.ad n, figO (r.dat n)) ∈ r.led := by
  have : n = 0 ∨ n = 1 ∨ n = 2 ∨ n = 3 := by first | exact orN4 (by omega) | exact orI4 (by omega) (by omega)
  rcases this with rfl | rfl | rfl | rfl
  · exact .tail _ (.head _)
  · exact .tail _ (.tail _ (.head _))
  · exact .tail _ (.tail _ (.tail _ (.head _)))
  · exact .tail _ (.tail _ (.tail _ (.tail _ (.head _))))
noncomputable abbrev TabS := TabG 134 104 32 srtQ
noncomputable def srtKs (dat : Int → RowD) (ks : List (Int × Int)) : List Int := srtOf fun i j => lexB (keyOf (dat (0 + (i : Int) * 1)) ks) (keyOf (dat (0 + (j : Int) * 1)) ks)
namespace sorted_cold
noncomputable def epsX : { P : World → Env0 → FigD → KeysD → Nat → Nat → (Option (List Code)) → (List Env) → Around → Heap → Heap → Addr → Heap → Shared → Nat → Obj → Obj → Prop // (∀ w z r k dp un gd outer A₀ base g L h₁ s tk co0 co1, P w z r k dp un gd outer A₀ base g L h₁ s tk co0 co1) → ∀ (w : World) (z : Env0) (r : FigD) (k : KeysD) (ko : k.Ok) (sg : k.Sg), Spec w z 40 200 (.ref 139) [.ref r.fl, .ref k.kl] [] [(134, tabObj #[])] (r.led ++ k.led)
    (fun mu' new v => ∃ ps c' oc f its e, TabS ps c' oc ∧ ps ≠ #[] ∧ mu' = [(134, tabObj ps)] ∧ new = [(f, W.listOf its.toArray e), (c', oc)] ∧ IntsAre its (srtKs r.dat k.ks) ∧ v = .ref f) } := ⟨_, by
  intro h_eps w z r k ko sg
  refine Spec.apart fun ap0 => ?_
  (k_dflt (refine' spec_defC (binds := [(Str.ofString "figures", .ref r.fl), (Str.ofString "keys", .ref k.kl)]) ?ho ?hcd ?hb ?hl ?hn ?h ?c2 ?c3 ?c4; (case ho => k_is); (case hcd => k_is); (case hb => intro s' X'; first | exact BindsTo.of_eq rfl | exact binds_K X' rfl (by k_is) rfl rfl rfl); (case hl => exact rfl); (case hn => decide +kernel); (case c2 => exact rfl); (case c3 => exact rfl); (case c4 => exact rfl)); (intro dp un gd outer A₀ base g L h₁ s tk cells B F X N Y T C hdp hun l1; obtain ⟨cL, cY, cS⟩ := C; (try dsimp only [List.nil_append, List.cons_append] at l1); (try k_lt l1); (revert N; refine celim2 Y ?_; intro co0 co1 cd0 cd1 N); clear Y; replace cd0 : co0.data = Data.cell (some (.ref k.kl)) := cd0; replace cd1 : co1.data = Data.cell (some (.ref r.fl)) := cd1; replace F : Fr g L h₁ (kstB (fun _ => none) []) := F; (try dsimp only [List.nil_append, List.cons_append] at N)))
  revert cd1; revert cd0; revert l1; revert hun; revert hdp; revert cS; revert cY; revert cL; revert T; revert N; revert X; revert F; revert B; revert ap0; revert sg; revert ko
  exact h_eps w z r k dp un gd outer A₀ base g L h₁ s tk co0 co1⟩
noncomputable abbrev epsT : Type := World × Env0 × FigD × KeysD × Nat × Nat × (Option (List Code)) × (List Env) × Around × Heap × Heap × Addr × Heap × Shared × Nat × Obj × Obj
noncomputable abbrev epsQ : epsT → Prop := fun d => epsX.1 d.1 d.2.1 d.2.2.1 d.2.2.2.1 d.2.2.2.2.1 d.2.2.2.2.2.1 d.2.2.2.2.2.2.1 d.2.2.2.2.2.2.2.1 d.2.2.2.2.2.2.2.2.1 d.2.2.2.2.2.2.2.2.2.1 d.2.2.2.2.2.2.2.2.2.2.1 d.2.2.2.2.2.2.2.2.2.2.2.1 d.2.2.2.2.2.2.2.2.2.2.2.2.1 d.2.2.2.2.2.2.2.2.2.2.2.2.2.1 d.2.2.2.2.2.2.2.2.2.2.2.2.2.2.1 d.2.2.2.2.2.2.2.2.2.2.2.2.2.2.2.1 d.2.2.2.2.2.2.2.2.2.2.2.2.2.2.2.2
theorem eN : Nonempty epsT := by walk_at "ne_all"
@[irreducible] noncomputable def eK : epsT := Pk epsT eN epsQ
@[irreducible] noncomputable def w := eK.1
@[irreducible] noncomputable def z := eK.2.1
@[irreducible] noncomputable def r := eK.2.2.1
@[irreducible] noncomputable def k := eK.2.2.2.1
@[irreducible] noncomputable def dp := eK.2.2.2.2.1
@[irreducible] noncomputable def un := eK.2.2.2.2.2.1
@[irreducible] noncomputable def gd := eK.2.2.2.2.2.2.1
@[irreducible] noncomputable def outer := eK.2.2.2.2.2.2.2.1
@[irreducible] noncomputable def A₀ := eK.2.2.2.2.2.2.2.2.1
@[irreducible] noncomputable def base := eK.2.2.2.2.2.2.2.2.2.1
@[irreducible] noncomputable def g := eK.2.2.2.2.2.2.2.2.2.2.1
@[irreducible] noncomputable def L := eK.2.2.2.2.2.2.2.2.2.2.2.1
@[irreducible] noncomputable def h₁ := eK.2.2.2.2.2.2.2.2.2.2.2.2.1
@[irreducible] noncomputable def s := eK.2.2.2.2.2.2.2.2.2.2.2.2.2.1
@[irreducible] noncomputable def tk := eK.2.2.2.2.2.2.2.2.2.2.2.2.2.2.1
@[irreducible] noncomputable def co0 := eK.2.2.2.2.2.2.2.2.2.2.2.2.2.2.2.1
@[irreducible] noncomputable def co1 := eK.2.2.2.2.2.2.2.2.2.2.2.2.2.2.2.2
theorem eC : epsX.1 w z r k dp un gd outer A₀ base g L h₁ s tk co0 co1 := by
  dsimp only [epsX]
  intro ko sg ap0 B F X N T cL cY cS hdp hun l1 cd0 cd1
  have d2 : ∀ q ∈ r.led ++ k.led, @Ne Nat q.1 134 := fun q hq => ap0 q hq _ (.head _)
  simp only [FigD.led, KeysD.led, List.cons_append, List.nil_append, List.forall_mem_cons] at d2
  obtain ⟨b1, b2, b3, b4, b5, b6, b7, b8, b9, -⟩ := d2
  simp only [FigD.led, KeysD.led, List.cons_append, List.nil_append] at N
  k_with_none
  k_with "call builtin:sorted" => (refine Stop.go ?_)
  k_with "eval Lambda" => (refine Stop.go ?_)
  k_steps
  refine Stop.mk ?_
  rename IsRange _ _ _ _ _ _ _ _ => rg0
  rename News _ _ _ _ => N0
  rename Fr _ _ _ _ => F0
  have q0 : @LT.lt Nat _ 134 h₁.objs.size := Heap.lt_size ((by assumption : News g L h₁ _) (134, tabObj #[]) (.tail _ (.tail _ (.head _)))).1
  have N3 : News _ _ _ ((h₁.objs.size, _) :: _) := fun p hp => by
    rcases List.mem_cons.mp hp with rfl | hp
    · exact ⟨rg0, Nat.ne_of_gt (by assumption : Fr g L h₁ _).ns.lt, next_is_new (by assumption : Fr g L h₁ _)⟩
    · exact N0 p hp
  clear N0 rg0
  k_dflt (refine' kla_eval ?d0 ?_; (case d0 => exact rfl))
  (k_dflt (refine' kla_nest ?F ?N ?T ?C ?cd ?U ?t ?n ?cl ?_; (case F => k_asm); (case N => k_asm); (case T => k_asm); (case cd => exact rfl); (case C => kn_code); (case U => k_updF); (case t => kn_triples); (case n => kn_among); (case cl => exact rfl)))
  intro f' c' oc' vs' t' ct' h' tk' F' N' d1' d2' l1' l2'
  (try dsimp only at N')
  k_steps
  refine Stop.mk ?_
  clear b1 b2 b3 b4 b5 b6 b7 b8 b9 ap0
  rename News _ _ _ _ => N'
  rename _ = Data.fields _ => e1
  rename _[1]? = _ => e2
  ksk_show
  have rgX : IsRange _ h₁.objs.size 0 4 1 _ _ _ := (N' _ (.tail _ (.tail _ (.head _)))).1
  refine sortedR (n := 4) (by k_asm) N' (by rfl) rgX (by decide) (by rfl) (by decide) (by decide) (by ksk_a1) (by intro _; ksk_a2) (by intro _; ksk_a3) ?_
  intro vs D kS e' h' tk' hvl hvi F' N2 l0 l1
  refine have_spec (fun o => ∀ (n : Int) (t : Tok), 0 ≤ n → n ≤ 3 → Spec w z 20 60 (.ref f') [.int n t] [] [] ((f', o) :: (c', oc') :: (L + 1 + 1, co0) :: (L + 1, co1) :: (r.led ++ k.led)) (fun mu' new v' => mu' = [] ∧ ∃ K o, new = [(K, o)] ∧ (∃ its e, o = W.listOf its.toArray e ∧ IntsAre its (keyOf (r.dat n) k.ks)) ∧ v' = .ref K)) N2 ?S (fun S => ?_)
  case S =>
    intro n t hn0 hn3
    refine spec_lamC (x := Str.ofString "place") (nd := 19) (nu := 57) (.head _) (.tail _ (.head _)) e1 e2 rfl rfl (fun _ => rfl) (fun _ => rfl) ?_ rfl rfl rfl
    clear F' N2
    intro dp un gd outer A₀ base g L h₁ s tk co B F X N hco T C hdp hun l9
    obtain ⟨cL, cY, cS⟩ := C
    replace N := sub_news (l' := (r.ad n, figO (r.dat n)) :: _) N (all_cons.mpr ⟨.tail _ (.tail _ (.tail _ (.tail _ (.tail _ (List.mem_append_left _ (figs_mem hn0 hn3)))))), fun _ h => h⟩)
    simp only [FigD.led, KeysD.led, List.cons_append, List.nil_append] at N
    k_with "eval ListComp" => (refine Stop.go ?_)
    k_with "pyIter ref" => ((with_reducible show wpAny _ _ (pyIter (Value.ref _)) _ _ _); refine Stop.go ?_)
    k_steps
    refine Stop.mk ?_
    k_dflt (refine gc_eval (by k_asm) (by with_unfolding_all rfl) (by rfl) (by decide) ?_)
    k_steps
    refine Stop.mk ?_
    rename Fr _ _ _ _ => F1
    rename News _ _ _ _ => N1
    refine gck_listA (fun i ys => IntsAre ys ((k.ks.take i).map (fun p => (r.dat n).at p.1 * p.2))) (fun i m₂ => ∃ c d tc td, k.ks[i]? = some (c, d) ∧ m₂ (Str.ofString "column") = some (.int c tc) ∧ m₂ (Str.ofString "sign") = some (.int d td)) (by k_dflt k_mem) (Nat.le_of_ble_eq_true rfl) F1 N1 .nil (by rfl) (by decide) (by rfl) ?asg ?turn ?fin
    case asg =>
      intro i v s' C m' Q E' hi hv hn N' kk
      have hi' : i = 0 ∨ i = 1 ∨ i = 2 := by have hi2 : i < 3 := hi; omega
      rcases hi' with rfl | rfl | rfl
      · cases hv; exact asg_pair (by rfl) (by rfl) (by decide) (by rfl) (by rfl) hn (News.isTup N' (a := k.ka) (items := #[.int k.c0 k.tc0, .int k.d0 k.td0]) (by k_dflt k_mem)) fun h' tk m₂ a b c => kk h' tk m₂ a ⟨_, _, _, _, rfl, b.1, b.2⟩ c
      · cases hv; exact asg_pair (by rfl) (by rfl) (by decide) (by rfl) (by rfl) hn (News.isTup N' (a := k.kb) (items := #[.int k.c1 k.tc1, .int k.d1 k.td1]) (by k_dflt k_mem)) fun h' tk m₂ a b c => kk h' tk m₂ a ⟨_, _, _, _, rfl, b.1, b.2⟩ c
      · cases hv; exact asg_pair (by rfl) (by rfl) (by decide) (by rfl) (by rfl) hn (News.isTup N' (a := k.kc) (items := #[.int k.c2 k.tc2, .int k.d2 k.td2]) (by k_dflt k_mem)) fun h' tk m₂ a b c => kk h' tk m₂ a ⟨_, _, _, _, rfl, b.1, b.2⟩ c
    case turn =>
      intro I i ys lI hlt hJ m₂ C oC D oI h tk E' hnm hC F N off ne
      obtain ⟨c, d, tc, td, hcd, hx, hy⟩ := hnm
      clear F1 N1
      have hcb : 0 ≤ c ∧ c ≤ 3 ∧ -2 ≤ d ∧ d ≤ 3 := by
        obtain ⟨y0, y1, y2, y3, y4, y5⟩ := ko
        obtain ⟨⟨s0, s1⟩, ⟨s2, s3⟩, ⟨s4, s5⟩⟩ := sg
        have hi' : i = 0 ∨ i = 1 ∨ i = 2 := by have hi2 : i < 3 := hlt; omega
        rcases hi' with rfl | rfl | rfl <;> cases hcd <;> exact ⟨by assumption, by assumption, by assumption, by assumption⟩
      obtain ⟨hc0, hc3, hd0, hd3⟩ := hcb
      have hw : Builtin.Int.intBits d ≤ 64 := PySem.intBits_le_64 (by omega) (by omega)
      k_with "subscriptTail Name Name ref int" => (k_dflt (refine figs_item (r := r) (by k_asm) (by k_mem) hn0 hn3 ?_))
      k_with "subscriptTail" => (k_dflt (refine fig_item (r := r.dat n) (by k_asm) (by k_mem) hc0 hc3 ?_))
      k_steps
      rename News _ _ _ _ => N'
      rename Fr _ _ _ _ => F'
      exact GcK.intro F' N' (fun _ h => h) (by rw [take_step _ hcd]; show IntsAre _ (_ ++ [(r.dat n).at c * d]); rw [at_getD hc0 hc3]; exact IntsAre.append hJ (.cons _ _ .nil))
    case fin =>
      intro ys g' hJ D h tk F N o1'
      show Fin _ _ _ _ _ _ _ _
      refine Fin.intro F N [] [(D, W.listOf ys.toArray ys.length)] (all_cons.mpr ⟨.head _, fun _ h => .tail _ (.tail _ (.tail _ h))⟩) rfl ?_ ⟨rfl, D, _, rfl, ⟨_, _, rfl, hJ⟩, rfl⟩
      intro p hp q hq
      rcases List.mem_singleton.mp hq with rfl
      exact off1_mem o1' p (.tail _ (.tail _ hp))
  obtain ⟨v0, v1, v2, v3, rfl⟩ := four_of vs hvl
  obtain ⟨t0, rfl⟩ := hvi 0 v0 rfl
  obtain ⟨t1, rfl⟩ := hvi 1 v1 rfl
  obtain ⟨t2, rfl⟩ := hvi 2 v2 rfl
  obtain ⟨t3, rfl⟩ := hvi 3 v3 rfl
  have hex : ∀ p ∈ _, p ∈ _ := (S 0 0 (by decide) (by decide)).exs N2 (by simp only [FigD.led, KeysD.led, List.cons_append, List.nil_append]; walk_at "sub")
  have hkS : ∀ p ∈ (D, seqObj "list" #[] e') :: _, @Ne Nat p.1 kS := all_cons.mpr ⟨Nat.ne_of_lt l0, fun p hp => Nat.ne_of_lt (Nat.lt_trans (l1 p hp) l0)⟩
  refine key_step (dp := dp) (un := un + 2) (S _ t0 (by decide) (by decide)) B F' X N2 T rfl cL cY cS (by omega) (by omega) hex hkS (fun K0 o0 h0 c0 tk0 g0 n0 m0 F1 N0 => ?_)
  refine key_step (dp := dp) (un := un + 2) (S _ t1 (by decide) (by decide)) B F1 X N0 T rfl cL cY cS (by omega) (by omega) (fun p hp => .tail _ (hex p hp)) (all_cons.mpr ⟨n0.symm, hkS⟩) (fun K1 o1 h1 c1 tk1 g1 n1 m1 F2 N1 => ?_)
  refine key_step (dp := dp) (un := un + 2) (S _ t2 (by decide) (by decide)) B F2 X N1 T rfl cL cY cS (by omega) (by omega) (fun p hp => .tail _ (.tail _ (hex p hp))) (all_cons.mpr ⟨n1.symm, all_cons.mpr ⟨n0.symm, hkS⟩⟩) (fun K2 o2 h2 c2 tk2 g2 n2 m2 F3 N2b => ?_)
  refine key_step (dp := dp) (un := un + 2) (S _ t3 (by decide) (by decide)) B F3 X N2b T rfl cL cY cS (by omega) (by omega) (fun p hp => .tail _ (.tail _ (.tail _ (hex p hp)))) (all_cons.mpr ⟨n2.symm, all_cons.mpr ⟨n1.symm, all_cons.mpr ⟨n0.symm, hkS⟩⟩⟩) (fun K3 o3 h3 c3 tk3 g3 n3 m3 F4 N3 => ?_)
  obtain ⟨li0, le0, q0', i0⟩ := g0; subst q0'
  obtain ⟨li1, le1, q1', i1⟩ := g1; subst q1'
  obtain ⟨li2, le2, q2', i2⟩ := g2; subst q2'
  obtain ⟨li3, le3, q3', i3⟩ := g3; subst q3'
  have NS := sub_news (l' := (kS, _) :: (D, _) :: (K3, _) :: (K2, _) :: (K1, _) :: (K0, _) :: _) N3 (all_cons.mpr ⟨.head _, all_cons.mpr ⟨.tail _ (.tail _ (.tail _ (.tail _ (.tail _ (.head _))))), all_cons.mpr ⟨.tail _ (.head _), all_cons.mpr ⟨.tail _ (.tail _ (.head _)), all_cons.mpr ⟨.tail _ (.tail _ (.tail _ (.head _))), all_cons.mpr ⟨.tail _ (.tail _ (.tail _ (.tail _ (.head _)))), fun _ h => .tail _ (.tail _ (.tail _ (.tail _ (.tail _ (.tail _ h)))))⟩⟩⟩⟩⟩⟩)
  have hkS2 := (all_cons.mp hkS).2
  refine KatKeys.nil (sort_fin (ks := [.ref K0, .ref K1, .ref K2, .ref K3]) (Kf := fun x => keyOf (r.dat x) k.ks) (D := D) (kS := kS) (show un + 2 < cLine by omega) F4 NS rfl ?hks (fun i j _ _ => by show (List.map _ _).length = (List.map _ _).length; rw [List.length_map, List.length_map]) hvi rfl (Nat.ne_of_lt l0) (all_cons.mpr ⟨n3.symm, all_cons.mpr ⟨n2.symm, all_cons.mpr ⟨n1.symm, all_cons.mpr ⟨n0.symm, hkS2⟩⟩⟩⟩)
    (all_cons.mpr ⟨(m3 _ (.tail _ (.tail _ (.tail _ (.head _))))).symm, all_cons.mpr ⟨(m2 _ (.tail _ (.tail _ (.head _)))).symm, all_cons.mpr ⟨(m1 _ (.tail _ (.head _))).symm, all_cons.mpr ⟨(m0 _ (.head _)).symm, fun p hp => Nat.ne_of_lt (l1 p hp)⟩⟩⟩⟩) ?k)
  case hks =>
    intro i hi
    have hi' : i = 0 ∨ i = 1 ∨ i = 2 ∨ i = 3 := by first | exact orN4 (by omega) | exact orI4 (by omega) (by omega)
    rcases hi' with rfl | rfl | rfl | rfl
    · exact ⟨K0, li0, le0, rfl, .tail _ (.tail _ (.tail _ (.head _))), i0⟩
    · exact ⟨K1, li1, le1, rfl, .tail _ (.tail _ (.head _)), i1⟩
    · exact ⟨K2, li2, le2, rfl, .tail _ (.head _), i2⟩
    · exact ⟨K3, li3, le3, rfl, .head _, i3⟩
  case k =>
    intro its c9 h9 hi9 F9 N9
    clear NS N3 N2b N1 N0 N2 F4 F3 F2 F1 F' hex hkS hkS2 m0 m1 m2 m3 S
    k_steps
    show Fin _ _ _ _ _ _ _ _
    refine Fin.intro F9 N9 [(134, tabObj #[rawInt 104, rawInt 32, .ref c'])] [(D, W.listOf its.toArray c9), (c', oc')] (all_cons.mpr ⟨.tail _ (.tail _ (.tail _ (.tail _ (.tail _ (.tail _ (.tail _ (.tail _ (.tail _ (.tail _ (.head _)))))))))), all_cons.mpr ⟨.head _, all_cons.mpr ⟨.tail _ (.tail _ (.tail _ (.tail _ (.tail _ (.tail _ (.head _)))))), fun _ h => .tail _ (.tail _ (.tail _ (.tail _ (.tail _ (.tail _ (.tail _ (.tail _ (.tail _ (.tail _ (.tail _ (h)))))))))))⟩⟩⟩) rfl ?ap ⟨_, c', oc', D, its, c9, Or.inr ⟨rfl, ?ne, _, _, e1, e2⟩, by simp, rfl, rfl, hi9, rfl⟩
    case ne => exact Nat.ne_of_lt (l1' _ (.tail _ (.tail _ (.tail _ (.head _)))))
    case ap =>
      have hlt : ∀ p ∈ (134, tabObj #[]) :: (r.led ++ k.led), @LT.lt Nat _ p.1 c' := fun p hp => by
        rcases List.mem_cons.mp hp with rfl | hp
        · exact l1' (134, tabObj #[]) (.tail _ (.tail _ (.tail _ (.head _))))
        · exact l1' p (.tail _ (.tail _ (.tail _ (.tail _ hp))))
      have hcD : @LT.lt Nat _ c' D := l1 (c', oc') (.tail _ (.head _))
      intro p hp q hq
      have h1 := hlt p hp
      simp only [List.mem_cons, List.not_mem_nil, or_false] at hq
      rcases hq with rfl | rfl
      · exact Nat.ne_of_lt (Nat.lt_trans h1 hcD)
      · exact Nat.ne_of_lt h1
end sorted_cold
theorem sorted_cold {w : World} {z : Env0} (r : FigD) (k : KeysD) (ko : k.Ok) (sg : k.Sg) : Spec w z 40 200 (.ref 139) [.ref r.fl, .ref k.kl] [] [(134, tabObj #[])] (r.led ++ k.led)
    (fun mu' new v => ∃ ps c' oc f its e, TabS ps c' oc ∧ ps ≠ #[] ∧ mu' = [(134, tabObj ps)] ∧ new = [(f, W.listOf its.toArray e), (c', oc)] ∧ IntsAre its (srtKs r.dat k.ks) ∧ v = .ref f) := sorted_cold.epsX.2 (fun w z r k dp un gd outer A₀ base g L h₁ s tk co0 co1 => Pk.all (T := sorted_cold.epsT) (ne := sorted_cold.eN) (Q := sorted_cold.epsQ) (by with_unfolding_all exact sorted_cold.eC) (w, z, r, k, dp, un, gd, outer, A₀, base, g, L, h₁, s, tk, co0, co1)) w z r k ko sg
end
section
local macro_rules | `(tactic| walk_at "eval Lambda") => `(tactic| k_extra "eval Lambda")
local macro_rules | `(tactic| walk_at "subscriptTail Subscript Name ref int") => `(tactic| k_extra "subscriptTail")
namespace sorted_hot
noncomputable def epsX : { P : World → Env0 → FigD → KeysD → Nat → Obj → (Array Value) → Tok → Nat → Nat → (Option (List Code)) → (List Env) → Around → Heap → Heap → Addr → Heap → Shared → Nat → Obj → Obj → Prop // (∀ w z r k c' oc' ovs qt dp un gd outer A₀ base g L h₁ s tk co0 co1, P w z r k c' oc' ovs qt dp un gd outer A₀ base g L h₁ s tk co0 co1) → ∀ (w : World) (z : Env0) (r : FigD) (k : KeysD) (ko : k.Ok) (sg : k.Sg) (c' : Nat) (oc' : Obj) (ovs : Array Value) (qt : Tok) (e1 : oc'.data = .fields ovs) (e2 : ovs[1]? = some (.str srtQ qt)), Spec w z 40 200 (.ref 139) [.ref r.fl, .ref k.kl] [] [] ((134, tabObj #[rawInt 104, rawInt 32, .ref c']) :: (c', oc') :: (r.led ++ k.led))
    (fun mu' new v => ∃ f its e, mu' = [] ∧ new = [(f, W.listOf its.toArray e)] ∧ IntsAre its (srtKs r.dat k.ks) ∧ v = .ref f) } := ⟨_, by
  intro h_eps w z r k ko sg c' oc' ovs qt e1 e2
  (k_dflt (refine' spec_defC (binds := [(Str.ofString "figures", .ref r.fl), (Str.ofString "keys", .ref k.kl)]) ?ho ?hcd ?hb ?hl ?hn ?h ?c2 ?c3 ?c4; (case ho => k_is); (case hcd => k_is); (case hb => intro s' X'; first | exact BindsTo.of_eq rfl | exact binds_K X' rfl (by k_is) rfl rfl rfl); (case hl => exact rfl); (case hn => decide +kernel); (case c2 => exact rfl); (case c3 => exact rfl); (case c4 => exact rfl)); (intro dp un gd outer A₀ base g L h₁ s tk cells B F X N Y T C hdp hun l1; obtain ⟨cL, cY, cS⟩ := C; (try dsimp only [List.nil_append, List.cons_append] at l1); (try k_lt l1); (revert N; refine celim2 Y ?_; intro co0 co1 cd0 cd1 N); clear Y; replace cd0 : co0.data = Data.cell (some (.ref k.kl)) := cd0; replace cd1 : co1.data = Data.cell (some (.ref r.fl)) := cd1; replace F : Fr g L h₁ (kstB (fun _ => none) []) := F; (try dsimp only [List.nil_append, List.cons_append] at N)))
  revert cd1; revert cd0; revert l1; revert hun; revert hdp; revert cS; revert cY; revert cL; revert T; revert N; revert X; revert F; revert B; revert e2; revert e1; revert sg; revert ko
  exact h_eps w z r k c' oc' ovs qt dp un gd outer A₀ base g L h₁ s tk co0 co1⟩
noncomputable abbrev epsT : Type := World × Env0 × FigD × KeysD × Nat × Obj × (Array Value) × Tok × Nat × Nat × (Option (List Code)) × (List Env) × Around × Heap × Heap × Addr × Heap × Shared × Nat × Obj × Obj
noncomputable abbrev epsQ : epsT → Prop := fun d => epsX.1 d.1 d.2.1 d.2.2.1 d.2.2.2.1 d.2.2.2.2.1 d.2.2.2.2.2.1 d.2.2.2.2.2.2.1 d.2.2.2.2.2.2.2.1 d.2.2.2.2.2.2.2.2.1 d.2.2.2.2.2.2.2.2.2.1 d.2.2.2.2.2.2.2.2.2.2.1 d.2.2.2.2.2.2.2.2.2.2.2.1 d.2.2.2.2.2.2.2.2.2.2.2.2.1 d.2.2.2.2.2.2.2.2.2.2.2.2.2.1 d.2.2.2.2.2.2.2.2.2.2.2.2.2.2.1 d.2.2.2.2.2.2.2.2.2.2.2.2.2.2.2.1 d.2.2.2.2.2.2.2.2.2.2.2.2.2.2.2.2.1 d.2.2.2.2.2.2.2.2.2.2.2.2.2.2.2.2.2.1 d.2.2.2.2.2.2.2.2.2.2.2.2.2.2.2.2.2.2.1 d.2.2.2.2.2.2.2.2.2.2.2.2.2.2.2.2.2.2.2.1 d.2.2.2.2.2.2.2.2.2.2.2.2.2.2.2.2.2.2.2.2
theorem eN : Nonempty epsT := by walk_at "ne_all"
@[irreducible] noncomputable def eK : epsT := Pk epsT eN epsQ
@[irreducible] noncomputable def w := eK.1
@[irreducible] noncomputable def z := eK.2.1
@[irreducible] noncomputable def r := eK.2.2.1
@[irreducible] noncomputable def k := eK.2.2.2.1
@[irreducible] noncomputable def c' := eK.2.2.2.2.1
@[irreducible] noncomputable def oc' := eK.2.2.2.2.2.1
@[irreducible] noncomputable def dp := eK.2.2.2.2.2.2.2.2.1
@[irreducible] noncomputable def un := eK.2.2.2.2.2.2.2.2.2.1
@[irreducible] noncomputable def gd := eK.2.2.2.2.2.2.2.2.2.2.1
@[irreducible] noncomputable def outer := eK.2.2.2.2.2.2.2.2.2.2.2.1
@[irreducible] noncomputable def A₀ := eK.2.2.2.2.2.2.2.2.2.2.2.2.1
@[irreducible] noncomputable def base := eK.2.2.2.2.2.2.2.2.2.2.2.2.2.1
@[irreducible] noncomputable def g := eK.2.2.2.2.2.2.2.2.2.2.2.2.2.2.1
@[irreducible] noncomputable def L := eK.2.2.2.2.2.2.2.2.2.2.2.2.2.2.2.1
@[irreducible] noncomputable def h₁ := eK.2.2.2.2.2.2.2.2.2.2.2.2.2.2.2.2.1
@[irreducible] noncomputable def s := eK.2.2.2.2.2.2.2.2.2.2.2.2.2.2.2.2.2.1
@[irreducible] noncomputable def tk := eK.2.2.2.2.2.2.2.2.2.2.2.2.2.2.2.2.2.2.1
@[irreducible] noncomputable def co0 := eK.2.2.2.2.2.2.2.2.2.2.2.2.2.2.2.2.2.2.2.1
@[irreducible] noncomputable def co1 := eK.2.2.2.2.2.2.2.2.2.2.2.2.2.2.2.2.2.2.2.2
theorem eC : epsX.1 w z r k c' oc' eK.2.2.2.2.2.2.1 eK.2.2.2.2.2.2.2.1 dp un gd outer A₀ base g L h₁ s tk co0 co1 := by
  dsimp only [epsX]
  intro ko sg e1 e2 B F X N T cL cY cS hdp hun l1 cd0 cd1
  simp only [FigD.led, KeysD.led, List.cons_append, List.nil_append] at N
  k_with_none
  k_with "call builtin:sorted" => (refine Stop.go ?_)
  k_with "eval Lambda" => (refine Stop.go ?_)
  k_steps
  refine Stop.mk ?_
  rename IsRange _ _ _ _ _ _ _ _ => rg0
  rename News _ _ _ _ => N0
  rename Fr _ _ _ _ => F0
  have N3 : News _ _ _ ((h₁.objs.size, _) :: _) := fun p hp => by
    rcases List.mem_cons.mp hp with rfl | hp
    · exact ⟨rg0, Nat.ne_of_gt (by assumption : Fr g L h₁ _).ns.lt, next_is_new (by assumption : Fr g L h₁ _)⟩
    · exact N0 p hp
  clear N0 rg0
  k_dflt (refine' kla_eval ?d0 ?_; (case d0 => exact rfl))
  (k_dflt (refine' kla_hit (c' := c') ?F ?N ?T ?C ?cd ?mem ?t ?hn ?cl ?_; (case F => k_asm); (case N => k_asm); (case T => k_asm); (case cd => exact rfl); (case C => kn_code); (case mem => k_mem); (case t => kn_triples); (case hn => kn_hit); (case cl => exact rfl)))
  intro f' ct' h' tk' F' N' l2'
  (try dsimp only at N')
  k_steps
  refine Stop.mk ?_
  rename News _ _ _ _ => N'
  ksk_show
  have rgX : IsRange _ h₁.objs.size 0 4 1 _ _ _ := (N' _ (.tail _ (.head _))).1
  refine sortedR (n := 4) (by k_asm) N' (by rfl) rgX (by decide) (by rfl) (by decide) (by decide) (by ksk_a1) (by intro _; ksk_a2) (by intro _; ksk_a3) ?_
  intro vs D kS e' h' tk' hvl hvi F' N2 l0 l1
  refine have_spec (fun o => ∀ (n : Int) (t : Tok), 0 ≤ n → n ≤ 3 → Spec w z 20 60 (.ref f') [.int n t] [] [] ((f', o) :: (c', oc') :: (L + 1 + 1, co0) :: (L + 1, co1) :: (r.led ++ k.led)) (fun mu' new v' => mu' = [] ∧ ∃ K o, new = [(K, o)] ∧ (∃ its e, o = W.listOf its.toArray e ∧ IntsAre its (keyOf (r.dat n) k.ks)) ∧ v' = .ref K)) N2 ?S (fun S => ?_)
  case S =>
    intro n t hn0 hn3
    refine spec_lamC (x := Str.ofString "place") (nd := 19) (nu := 57) (.head _) (.tail _ (.head _)) e1 e2 rfl rfl (fun _ => rfl) (fun _ => rfl) ?_ rfl rfl rfl
    clear F' N2
    intro dp un gd outer A₀ base g L h₁ s tk co B F X N hco T C hdp hun l9
    obtain ⟨cL, cY, cS⟩ := C
    replace N := sub_news (l' := (r.ad n, figO (r.dat n)) :: _) N (all_cons.mpr ⟨.tail _ (.tail _ (.tail _ (.tail _ (.tail _ (List.mem_append_left _ (figs_mem hn0 hn3)))))), fun _ h => h⟩)
    simp only [FigD.led, KeysD.led, List.cons_append, List.nil_append] at N
    k_with "eval ListComp" => (refine Stop.go ?_)
    k_with "pyIter ref" => ((with_reducible show wpAny _ _ (pyIter (Value.ref _)) _ _ _); refine Stop.go ?_)
    k_steps
    refine Stop.mk ?_
    k_dflt (refine gc_eval (by k_asm) (by with_unfolding_all rfl) (by rfl) (by decide) ?_)
    k_steps
    refine Stop.mk ?_
    rename Fr _ _ _ _ => F1
    rename News _ _ _ _ => N1
    refine gck_listA (fun i ys => IntsAre ys ((k.ks.take i).map (fun p => (r.dat n).at p.1 * p.2))) (fun i m₂ => ∃ c d tc td, k.ks[i]? = some (c, d) ∧ m₂ (Str.ofString "column") = some (.int c tc) ∧ m₂ (Str.ofString "sign") = some (.int d td)) (by k_dflt k_mem) (Nat.le_of_ble_eq_true rfl) F1 N1 .nil (by rfl) (by decide) (by rfl) ?asg ?turn ?fin
    case asg =>
      intro i v s' C m' Q E' hi hv hn N' kk
      have hi' : i = 0 ∨ i = 1 ∨ i = 2 := by have hi2 : i < 3 := hi; omega
      rcases hi' with rfl | rfl | rfl
      · cases hv; exact asg_pair (by rfl) (by rfl) (by decide) (by rfl) (by rfl) hn (News.isTup N' (a := k.ka) (items := #[.int k.c0 k.tc0, .int k.d0 k.td0]) (by k_dflt k_mem)) fun h' tk m₂ a b c => kk h' tk m₂ a ⟨_, _, _, _, rfl, b.1, b.2⟩ c
      · cases hv; exact asg_pair (by rfl) (by rfl) (by decide) (by rfl) (by rfl) hn (News.isTup N' (a := k.kb) (items := #[.int k.c1 k.tc1, .int k.d1 k.td1]) (by k_dflt k_mem)) fun h' tk m₂ a b c => kk h' tk m₂ a ⟨_, _, _, _, rfl, b.1, b.2⟩ c
      · cases hv; exact asg_pair (by rfl) (by rfl) (by decide) (by rfl) (by rfl) hn (News.isTup N' (a := k.kc) (items := #[.int k.c2 k.tc2, .int k.d2 k.td2]) (by k_dflt k_mem)) fun h' tk m₂ a b c => kk h' tk m₂ a ⟨_, _, _, _, rfl, b.1, b.2⟩ c
    case turn =>
      intro I i ys lI hlt hJ m₂ C oC D oI h tk E' hnm hC F N off ne
      obtain ⟨c, d, tc, td, hcd, hx, hy⟩ := hnm
      clear F1 N1
      have hcb : 0 ≤ c ∧ c ≤ 3 ∧ -2 ≤ d ∧ d ≤ 3 := by
        obtain ⟨y0, y1, y2, y3, y4, y5⟩ := ko
        obtain ⟨⟨s0, s1⟩, ⟨s2, s3⟩, ⟨s4, s5⟩⟩ := sg
        have hi' : i = 0 ∨ i = 1 ∨ i = 2 := by have hi2 : i < 3 := hlt; omega
        rcases hi' with rfl | rfl | rfl <;> cases hcd <;> exact ⟨by assumption, by assumption, by assumption, by assumption⟩
      obtain ⟨hc0, hc3, hd0, hd3⟩ := hcb
      have hw : Builtin.Int.intBits d ≤ 64 := PySem.intBits_le_64 (by omega) (by omega)
      k_with "subscriptTail Name Name ref int" => (k_dflt (refine figs_item (r := r) (by k_asm) (by k_mem) hn0 hn3 ?_))
      k_with "subscriptTail" => (k_dflt (refine fig_item (r := r.dat n) (by k_asm) (by k_mem) hc0 hc3 ?_))
      k_steps
      rename News _ _ _ _ => N'
      rename Fr _ _ _ _ => F'
      exact GcK.intro F' N' (fun _ h => h) (by rw [take_step _ hcd]; show IntsAre _ (_ ++ [(r.dat n).at c * d]); rw [at_getD hc0 hc3]; exact IntsAre.append hJ (.cons _ _ .nil))
    case fin =>
      intro ys g' hJ D h tk F N o1'
      show Fin _ _ _ _ _ _ _ _
      refine Fin.intro F N [] [(D, W.listOf ys.toArray ys.length)] (all_cons.mpr ⟨.head _, fun _ h => .tail _ (.tail _ (.tail _ h))⟩) rfl ?_ ⟨rfl, D, _, rfl, ⟨_, _, rfl, hJ⟩, rfl⟩
      intro p hp q hq
      rcases List.mem_singleton.mp hq with rfl
      exact off1_mem o1' p (.tail _ (.tail _ hp))
  obtain ⟨v0, v1, v2, v3, rfl⟩ : ∃ v0 v1 v2 v3, vs = [v0, v1, v2, v3] := by
    match vs, hvl with
    | [v0, v1, v2, v3], _ => exact ⟨v0, v1, v2, v3, rfl⟩
  obtain ⟨t0, rfl⟩ := hvi 0 v0 rfl
  obtain ⟨t1, rfl⟩ := hvi 1 v1 rfl
  obtain ⟨t2, rfl⟩ := hvi 2 v2 rfl
  obtain ⟨t3, rfl⟩ := hvi 3 v3 rfl
  have hex : ∀ p ∈ _, p ∈ _ := (S 0 0 (by decide) (by decide)).exs N2 (by simp only [FigD.led, KeysD.led, List.cons_append, List.nil_append]; walk_at "sub")
  have hkS : ∀ p ∈ (D, seqObj "list" #[] e') :: _, @Ne Nat p.1 kS := all_cons.mpr ⟨Nat.ne_of_lt l0, fun p hp => Nat.ne_of_lt (Nat.lt_trans (l1 p hp) l0)⟩
  refine key_step (dp := dp) (un := un + 2) (S _ t0 (by decide) (by decide)) B F' X N2 T rfl cL cY cS (by omega) (by omega) hex hkS (fun K0 o0 h0 c0 tk0 g0 n0 m0 F1 N0 => ?_)
  refine key_step (dp := dp) (un := un + 2) (S _ t1 (by decide) (by decide)) B F1 X N0 T rfl cL cY cS (by omega) (by omega) (fun p hp => .tail _ (hex p hp)) (all_cons.mpr ⟨n0.symm, hkS⟩) (fun K1 o1 h1 c1 tk1 g1 n1 m1 F2 N1 => ?_)
  refine key_step (dp := dp) (un := un + 2) (S _ t2 (by decide) (by decide)) B F2 X N1 T rfl cL cY cS (by omega) (by omega) (fun p hp => .tail _ (.tail _ (hex p hp))) (all_cons.mpr ⟨n1.symm, all_cons.mpr ⟨n0.symm, hkS⟩⟩) (fun K2 o2 h2 c2 tk2 g2 n2 m2 F3 N2b => ?_)
  refine key_step (dp := dp) (un := un + 2) (S _ t3 (by decide) (by decide)) B F3 X N2b T rfl cL cY cS (by omega) (by omega) (fun p hp => .tail _ (.tail _ (.tail _ (hex p hp)))) (all_cons.mpr ⟨n2.symm, all_cons.mpr ⟨n1.symm, all_cons.mpr ⟨n0.symm, hkS⟩⟩⟩) (fun K3 o3 h3 c3 tk3 g3 n3 m3 F4 N3 => ?_)
  obtain ⟨li0, le0, q0', i0⟩ := g0; subst q0'
  obtain ⟨li1, le1, q1', i1⟩ := g1; subst q1'
  obtain ⟨li2, le2, q2', i2⟩ := g2; subst q2'
  obtain ⟨li3, le3, q3', i3⟩ := g3; subst q3'
  have NS := sub_news (l' := (kS, _) :: (D, _) :: (K3, _) :: (K2, _) :: (K1, _) :: (K0, _) :: _) N3 (all_cons.mpr ⟨.head _, all_cons.mpr ⟨.tail _ (.tail _ (.tail _ (.tail _ (.tail _ (.head _))))), all_cons.mpr ⟨.tail _ (.head _), all_cons.mpr ⟨.tail _ (.tail _ (.head _)), all_cons.mpr ⟨.tail _ (.tail _ (.tail _ (.head _))), all_cons.mpr ⟨.tail _ (.tail _ (.tail _ (.tail _ (.head _)))), fun _ h => .tail _ (.tail _ (.tail _ (.tail _ (.tail _ (.tail _ h)))))⟩⟩⟩⟩⟩⟩)
  have hkS2 := (all_cons.mp hkS).2
  refine KatKeys.nil (sort_fin (ks := [.ref K0, .ref K1, .ref K2, .ref K3]) (Kf := fun x => keyOf (r.dat x) k.ks) (D := D) (kS := kS) (show un + 2 < cLine by omega) F4 NS rfl ?hks (fun i j _ _ => by show (List.map _ _).length = (List.map _ _).length; rw [List.length_map, List.length_map]) hvi rfl (Nat.ne_of_lt l0) (all_cons.mpr ⟨n3.symm, all_cons.mpr ⟨n2.symm, all_cons.mpr ⟨n1.symm, all_cons.mpr ⟨n0.symm, hkS2⟩⟩⟩⟩)
    (all_cons.mpr ⟨(m3 _ (.tail _ (.tail _ (.tail _ (.head _))))).symm, all_cons.mpr ⟨(m2 _ (.tail _ (.tail _ (.head _)))).symm, all_cons.mpr ⟨(m1 _ (.tail _ (.head _))).symm, all_cons.mpr ⟨(m0 _ (.head _)).symm, fun p hp => Nat.ne_of_lt (l1 p hp)⟩⟩⟩⟩) ?k)
  case hks =>
    intro i hi
    have hi' : i = 0 ∨ i = 1 ∨ i = 2 ∨ i = 3 := by first | exact orN4 (by omega) | exact orI4 (by omega) (by omega)
    rcases hi' with rfl | rfl | rfl | rfl
    · exact ⟨K0, li0, le0, rfl, .tail _ (.tail _ (.tail _ (.head _))), i0⟩
    · exact ⟨K1, li1, le1, rfl, .tail _ (.tail _ (.head _)), i1⟩
    · exact ⟨K2, li2, le2, rfl, .tail _ (.head _), i2⟩
    · exact ⟨K3, li3, le3, rfl, .head _, i3⟩
  case k =>
    intro its c9 h9 hi9 F9 N9
    clear NS N3 N2b N1 N0 N2 F4 F3 F2 F1 F' hex hkS hkS2 m0 m1 m2 m3 S
    k_steps
    show Fin _ _ _ _ _ _ _ _
    refine Fin.intro F9 N9 [] [(D, W.listOf its.toArray c9)] (all_cons.mpr ⟨.head _, fun _ h => .tail _ (.tail _ (.tail _ (.tail _ (.tail _ (.tail _ (.tail _ (.tail _ (.tail _ (h)))))))))⟩) rfl ?ap ⟨D, its, c9, rfl, rfl, hi9, rfl⟩
    case ap =>
      intro p hp q hq
      rcases List.mem_singleton.mp hq with rfl
      exact Nat.ne_of_lt (l1 p (.tail _ (.tail _ (.tail _ (.tail _ hp)))))
end sorted_hot
theorem sorted_hot {w : World} {z : Env0} (r : FigD) (k : KeysD) (ko : k.Ok) (sg : k.Sg) (c' : Nat) (oc' : Obj) (ovs : Array Value) (qt : Tok) (e1 : oc'.data = .fields ovs) (e2 : ovs[1]? = some (.str srtQ qt)) : Spec w z 40 200 (.ref 139) [.ref r.fl, .ref k.kl] [] [] ((134, tabObj #[rawInt 104, rawInt 32, .ref c']) :: (c', oc') :: (r.led ++ k.led))
    (fun mu' new v => ∃ f its e, mu' = [] ∧ new = [(f, W.listOf its.toArray e)] ∧ IntsAre its (srtKs r.dat k.ks) ∧ v = .ref f) := sorted_hot.epsX.2 (fun w z r k c' oc' ovs qt dp un gd outer A₀ base g L h₁ s tk co0 co1 => Pk.all (T := sorted_hot.epsT) (ne := sorted_hot.eN) (Q := sorted_hot.epsQ) (by with_unfolding_all exact sorted_hot.eC) (w, z, r, k, c', oc', ovs, qt, dp, un, gd, outer, A₀, base, g, L, h₁, s, tk, co0, co1)) w z r k ko sg c' oc' ovs qt e1 e2
end
section
structure OrdD where
  l : Nat
  its : List Value
  ns : List Int
  e : Nat
structure OrdD.Ok (o : OrdD) : Prop where
  i : IntsAre o.its o.ns
  len : o.ns.length = 4
  lo : ∀ n ∈ o.ns, 0 ≤ n ∧ n < 4
noncomputable abbrev OrdD.obj (o : OrdD) : Addr × Obj := (o.l, W.listOf o.its.toArray o.e)
noncomputable def endsOf (mk : Int) (ns : List Int) : Nat → List Int
  | 0 => []
  | i + 1 => if Builtin.bitAnd (mk.fdiv (2 ^ (ns.getD i 0).toNat)) 1 = 0 then endsOf mk ns i else endsOf mk ns i ++ [(i : Int)]
theorem endsOf_facts (mk : Int) (ns : List Int) : ∀ i, (endsOf mk ns i).length ≤ i ∧ ∀ n ∈ endsOf mk ns i, 0 ≤ n ∧ n < (i : Int)
  | 0 => ⟨Nat.le_refl _, fun _ h => by cases h⟩
  | i + 1 => by
    obtain ⟨h1, h2⟩ := endsOf_facts mk ns i
    unfold endsOf
    split
    · exact ⟨by omega, fun n hn => by have := h2 n hn; omega⟩
    · refine ⟨by rw [List.length_append, List.length_singleton]; omega, fun n hn => ?_⟩
      rcases List.mem_append.mp hn with h | h
      · have := h2 n h; omega
      · rw [List.mem_singleton.mp h]; omega
noncomputable abbrev pw2 (k : Int) : Int := 1 * 2 ^ k.toNat
noncomputable def frontOf (mk : Int) (ns : List Int) : List Int := if endsOf mk ns 4 = [] then [] else List.take ((endsOf mk ns 4).getD (-1 + ((endsOf mk ns 4).length : Int)).toNat 0 + 1).toNat ns
noncomputable def shut1 (mk : Int) (ns : List Int) : Int := ((frontOf mk ns).map pw2).sum
noncomputable def tops1 (mk : Int) (ns : List Int) : Int := (((frontOf mk ns).drop ((frontOf mk ns).length - 1)).map pw2).sum
noncomputable def ownOf (mk : Int) (os : List (List Int)) : Int × Int := os.foldl (fun p ns => (Builtin.bitAnd p.1 (shut1 mk ns), Builtin.bitOr p.2 (tops1 mk ns))) (15, 0)
structure OwS where
  shut : Int
  tops : Int
  ts : Tok
  tt : Tok
namespace own_spec
noncomputable def epsX : { P : World → Env0 → Nat → Nat → OrdD → OrdD → OrdD → Int → Tok → Nat → Nat → (Option (List Code)) → (List Env) → Around → Heap → Heap → Addr → Heap → Shared → Nat → Obj → Prop // (∀ w z lo eo o1 o2 o3 mk u dp un gd outer A₀ base g L h₁ s tk co0, P w z lo eo o1 o2 o3 mk u dp un gd outer A₀ base g L h₁ s tk co0) → ∀ (w : World) (z : Env0) (lo : Nat) (eo : Nat) (o1 : OrdD) (o2 : OrdD) (o3 : OrdD) (mk : Int) (u : Tok) (k1 : o1.Ok) (k2 : o2.Ok) (k3 : o3.Ok) (hm : 0 ≤ mk ∧ mk < 16), Spec w z 20 100 (.ref 184) [.ref lo, .int mk u] [] [] [(lo, W.listOf [Value.ref o1.l, .ref o2.l, .ref o3.l].toArray eo), o1.obj, o2.obj, o3.obj]
    (fun mu' new v => ∃ f t t', mu' = [] ∧ new = [(f, tupleO [.int (ownOf mk [o1.ns, o2.ns, o3.ns]).1 t, .int (ownOf mk [o1.ns, o2.ns, o3.ns]).2 t'])] ∧ v = .ref f) } := ⟨_, by
  intro h_eps w z lo eo o1 o2 o3 mk u k1 k2 k3 hm
  (k_dflt (refine' spec_defC (binds := [(Str.ofString "orders", .ref lo), (Str.ofString "mask", .int mk u)]) ?ho ?hcd ?hb ?hl ?hn ?h ?c2 ?c3 ?c4; (case ho => k_is); (case hcd => k_is); (case hb => intro s' X'; first | exact BindsTo.of_eq rfl | exact binds_K X' rfl (by k_is) rfl rfl rfl); (case hl => exact rfl); (case hn => decide +kernel); (case c2 => exact rfl); (case c3 => exact rfl); (case c4 => exact rfl)); (intro dp un gd outer A₀ base g L h₁ s tk cells B F X N Y T C hdp hun l1; obtain ⟨cL, cY, cS⟩ := C; (try dsimp only [List.nil_append, List.cons_append] at l1); (try k_lt l1); (revert N; refine celim1 Y ?_; intro co0 cd0 N); clear Y; replace cd0 : co0.data = Data.cell (some (.int mk u)) := cd0; replace F : Fr g L h₁ (kstB (fun _ => none) [(Str.ofString "orders", .ref lo)]) := F; (try dsimp only [List.nil_append, List.cons_append] at N)))
  revert cd0; revert l1; revert hun; revert hdp; revert cS; revert cY; revert cL; revert T; revert N; revert X; revert F; revert B; revert hm; revert k3; revert k2; revert k1
  exact h_eps w z lo eo o1 o2 o3 mk u dp un gd outer A₀ base g L h₁ s tk co0⟩
noncomputable abbrev epsT : Type := World × Env0 × Nat × Nat × OrdD × OrdD × OrdD × Int × Tok × Nat × Nat × (Option (List Code)) × (List Env) × Around × Heap × Heap × Addr × Heap × Shared × Nat × Obj
noncomputable abbrev epsQ : epsT → Prop := fun d => epsX.1 d.1 d.2.1 d.2.2.1 d.2.2.2.1 d.2.2.2.2.1 d.2.2.2.2.2.1 d.2.2.2.2.2.2.1 d.2.2.2.2.2.2.2.1 d.2.2.2.2.2.2.2.2.1 d.2.2.2.2.2.2.2.2.2.1 d.2.2.2.2.2.2.2.2.2.2.1 d.2.2.2.2.2.2.2.2.2.2.2.1 d.2.2.2.2.2.2.2.2.2.2.2.2.1 d.2.2.2.2.2.2.2.2.2.2.2.2.2.1 d.2.2.2.2.2.2.2.2.2.2.2.2.2.2.1 d.2.2.2.2.2.2.2.2.2.2.2.2.2.2.2.1 d.2.2.2.2.2.2.2.2.2.2.2.2.2.2.2.2.1 d.2.2.2.2.2.2.2.2.2.2.2.2.2.2.2.2.2.1 d.2.2.2.2.2.2.2.2.2.2.2.2.2.2.2.2.2.2.1 d.2.2.2.2.2.2.2.2.2.2.2.2.2.2.2.2.2.2.2.1 d.2.2.2.2.2.2.2.2.2.2.2.2.2.2.2.2.2.2.2.2
theorem eN : Nonempty epsT := by walk_at "ne_all"
@[irreducible] noncomputable def eK : epsT := Pk epsT eN epsQ
@[irreducible] noncomputable def lo := eK.2.2.1
@[irreducible] noncomputable def eo := eK.2.2.2.1
@[irreducible] noncomputable def o1 := eK.2.2.2.2.1
@[irreducible] noncomputable def o2 := eK.2.2.2.2.2.1
@[irreducible] noncomputable def o3 := eK.2.2.2.2.2.2.1
@[irreducible] noncomputable def mk := eK.2.2.2.2.2.2.2.1
@[irreducible] noncomputable def u := eK.2.2.2.2.2.2.2.2.1
@[irreducible] noncomputable def g := eK.2.2.2.2.2.2.2.2.2.2.2.2.2.2.2.1
@[irreducible] noncomputable def L := eK.2.2.2.2.2.2.2.2.2.2.2.2.2.2.2.2.1
@[irreducible] noncomputable def tk := eK.2.2.2.2.2.2.2.2.2.2.2.2.2.2.2.2.2.2.2.1
@[irreducible] noncomputable def co0 := eK.2.2.2.2.2.2.2.2.2.2.2.2.2.2.2.2.2.2.2.2
theorem eC : epsX.1 eK.1 eK.2.1 lo eo o1 o2 o3 mk u eK.2.2.2.2.2.2.2.2.2.1 eK.2.2.2.2.2.2.2.2.2.2.1 eK.2.2.2.2.2.2.2.2.2.2.2.1 eK.2.2.2.2.2.2.2.2.2.2.2.2.1 eK.2.2.2.2.2.2.2.2.2.2.2.2.2.1 eK.2.2.2.2.2.2.2.2.2.2.2.2.2.2.1 g L eK.2.2.2.2.2.2.2.2.2.2.2.2.2.2.2.2.2.1 eK.2.2.2.2.2.2.2.2.2.2.2.2.2.2.2.2.2.2.1 tk co0 := by
  dsimp only [epsX]
  intro k1 k2 k3 hm B F X N T cL cY cS hdp hun l1 cd0
  k_with_none
  k_with "pyIter ref" => ((with_reducible show wpAny _ _ (pyIter (Value.ref _)) _ _ _); refine Stop.go ?_)
  k_with "exec For Name Name cons nil" => (k_here; (rename Fr _ _ _ _ => lF'); (with_unfolding_all refine' For_turns lF' ?_; k_whole))
  k_steps
  refine Stop.mk ?_
  (rename Fr _ _ _ _ => lF'); (rename News _ _ _ _ => lN')
  with_unfolding_all refine' iter_listTurns (lo := W.listOf [Value.ref o1.l, .ref o2.l, .ref o3.l].toArray eo) (vs := [Value.ref o1.l, .ref o2.l, .ref o3.l]) (by rfl) lF' lN' (by k_mem) (by rfl) (by rfl) ?_
  clear lF' lN'
  intro I lI
  try k_lt lI
  have hin : ∀ (i : Nat) (a : Itm) (v : Value) (h : Heap), ([Value.ref o1.l, .ref o2.l, .ref o3.l].map Itm.val)[i]? = some a → Itm.Is a v h → ∃ o : OrdD, [o1, o2, o3][i]? = some o ∧ o.Ok ∧ v = .ref o.l ∧ o.obj ∈ [o1.obj, o2.obj, o3.obj] := by
    intro i a v h ha hv
    match i, ha with
    | 0, ha => cases ha; cases hv; exact ⟨o1, rfl, k1, rfl, by k_mem⟩
    | 1, ha => cases ha; cases hv; exact ⟨o2, rfl, k2, rfl, by k_mem⟩
    | 2, ha => cases ha; cases hv; exact ⟨o3, rfl, k3, rfl, by k_mem⟩
    | i + 3, ha => cases ha
  refine' itemsRest_sub (news' := [(L + 1, co0), (lo, W.listOf [Value.ref o1.l, .ref o2.l, .ref o3.l].toArray eo), o1.obj, o2.obj, o3.obj]) (fun p hp => .tail _ hp) (itemsRest_inv (keep := [(lo, W.listOf [Value.ref o1.l, .ref o2.l, .ref o3.l].toArray eo)]) (σ := OwS) (fun _ => [(L + 1, co0), (lo, W.listOf [Value.ref o1.l, .ref o2.l, .ref o3.l].toArray eo), o1.obj, o2.obj, o3.obj]) (fun c => [(Str.ofString "tops", .int c.tops c.tt), (Str.ofString "shut", .int c.shut c.ts), (Str.ofString "orders", .ref lo)])
    (fun i c => (c.shut, c.tops) = ownOf mk ([o1.ns, o2.ns, o3.ns].take i)) (fun _ => And.intro (.tail _ (.head _)) trivial) ?turn ?done _ 0 rfl rfl ⟨15, 0, _, _⟩ _ rfl ?k0)
  case k0 => (intro p hp; simp only [List.mem_cons, List.not_mem_nil, or_false] at hp; rcases hp with rfl | rfl | rfl <;> rfl)
  case done =>
    intro c u h tk hP F N
    have hP1 : c.shut = _ := congrArg Prod.fst hP
    have hP2 : c.tops = _ := congrArg Prod.snd hP
    k_steps
    rename News _ _ _ _ => N'
    rename Fr _ _ _ _ => F'
    show Fin _ _ _ _ _ _ _ _
    rw [hP1, hP2] at N'
    refine Fin.intro F' N' [] [(_, tupleO [.int _ _, .int _ _])] (all_cons.mpr ⟨.head _, fun _ h => .tail _ (.tail _ h)⟩) rfl ?_ ⟨_, _, _, rfl, rfl, rfl⟩
    intro p hp q hq
    rcases List.mem_singleton.mp hq with rfl
    simp only [List.nil_append, List.mem_cons, List.not_mem_nil, or_false] at hp
    rcases hp with rfl | rfl | rfl | rfl <;> (show @Ne Nat _ _; dsimp only [OrdD.obj]; omega)
  case turn =>
    intro i a c u v h tk it ha hv hP hit F N
    obtain ⟨o, ho, ok, rfl, hom⟩ := hin i a v h ha hv
    replace N := sub_news (l' := (I, it) :: o.obj :: [(L + 1, co0), (lo, W.listOf [Value.ref o1.l, .ref o2.l, .ref o3.l].toArray eo), o1.obj, o2.obj, o3.obj]) N (all_cons.mpr ⟨.head _, all_cons.mpr ⟨.tail _ (.tail _ (.tail _ hom)), fun _ h => .tail _ h⟩⟩)
    have hoff : ∀ p ∈ [(L + 1, co0), (lo, W.listOf [Value.ref o1.l, .ref o2.l, .ref o3.l].toArray eo), o1.obj, o2.obj, o3.obj], @Ne Nat p.1 I := by
      intro p hp; simp only [List.mem_cons, List.not_mem_nil, or_false] at hp; rcases hp with rfl | rfl | rfl | rfl | rfl <;> (show @Ne Nat _ _; dsimp only [OrdD.obj]; omega)
    have pend : ∀ {x y : Int}, x = shut1 mk o.ns → y = tops1 mk o.ns → (Builtin.bitAnd c.shut x, Builtin.bitOr c.tops y) = ownOf mk ([o1.ns, o2.ns, o3.ns].take (i + 1)) := by
      intro x y hx hy
      have hi : [o1.ns, o2.ns, o3.ns][i]? = some o.ns := by
        have := congrArg (Option.map OrdD.ns) ho
        rw [← List.getElem?_map] at this
        exact this
      rw [List.take_add_one, hi, ownOf, List.foldl_append]
      show _ = (Builtin.bitAnd (ownOf mk ([o1.ns, o2.ns, o3.ns].take i)).1 _, Builtin.bitOr (ownOf mk ([o1.ns, o2.ns, o3.ns].take i)).2 _)
      rw [← hP, hx, hy]
    have q1 := ok.i
    have q2 := ok.len
    have q3 := q1.length
    k_with "exec Assign cons ListComp" => (refine Stop.go ?_)
    k_steps
    refine Stop.mk ?_
    k_with "call type:enumerate" => (refine Stop.go ?_)
    k_dflt (refine gc_assign (by k_asm) (by rfl) (by with_unfolding_all rfl) (by with_unfolding_all rfl) (by rfl) (by decide) (by rfl) (by rfl) ?_)
    k_steps
    refine Stop.mk ?_
    rename Fr _ _ _ _ => F1
    rename News _ _ _ _ => N1
    clear F N hin ha hv
    refine gck_enum1 (fun i ys => IntsAre ys (endsOf mk o.ns i)) q1 (by k_dflt k_mem) (by omega) F1 N1 .nil (by rfl) (by decide) (by rfl) (by rfl) (by rfl) (by decide) ?turn ?fin
    case turn =>
      intro I2 j ys k lI2 hk hJ m₂ t t' C oC D oI o2' h' tk' E' hx hy hC F N off ne
      clear F1 N1
      obtain ⟨k0, k4⟩ := ok.lo k (List.mem_of_getElem? hk)
      obtain ⟨hm0, hm1⟩ := hm
      k_steps
      · rename News _ _ _ _ => N'
        rename Fr _ _ _ _ => F'
        refine GcK.intro F' N' (fun _ h => h) ?_
        unfold endsOf
        rw [show o.ns.getD j 0 = k by rw [List.getD_eq_getElem?_getD, hk]; rfl, if_neg (by assumption)]
        exact IntsAre.append hJ (.cons _ _ .nil)
      · rename News _ _ _ _ => N'
        rename Fr _ _ _ _ => F'
        refine GcK.intro F' N' (fun _ h => h) ?_
        unfold endsOf
        rw [show o.ns.getD j 0 = k by rw [List.getD_eq_getElem?_getD, hk]; rfl, if_pos (by assumption)]
        exact hJ
    case fin =>
      intro ys g' hJ
      rw [q2] at hJ
      intro D h' tk' F N o1'
      clear F1 N1
      have hle := endsOf_facts mk o.ns 4
      have hyl := hJ.length
      replace N := (show News g _ h' ((D, W.listOf ys.toArray ys.length) :: _) from N)
      by_cases he : endsOf mk o.ns 4 = []
      · have hfr0 : frontOf mk o.ns = [] := if_pos he
        rw [he] at hJ
        cases hJ
        k_steps
        rename News _ _ _ _ => N'
        rename Fr _ _ _ _ => F'
        show GEnd _ _ _ _ _ _ _ _ _
        refine' GEnd.intro (⟨_, _, _, _⟩ : OwS) F' N' (all_cons.mpr ⟨by k_mem, all_cons.mpr ⟨by k_mem, all_cons.mpr ⟨by k_mem, all_cons.mpr ⟨by k_mem, all_cons.mpr ⟨by k_mem, all_cons.mpr ⟨by k_mem, all_nil⟩⟩⟩⟩⟩⟩) hoff ?hk (pend (by rw [shut1, hfr0]) (by rw [tops1, hfr0]))
        case hk => (intro p hp; simp only [List.mem_cons, List.not_mem_nil, or_false] at hp; rcases hp with rfl | rfl | rfl <;> rfl)
      · have hlp : 0 < (endsOf mk o.ns 4).length := List.length_pos_iff.mpr he
        have hfr : frontOf mk o.ns = _ := if_neg he
        have hla := hle.2 ((endsOf mk o.ns 4).getD (-1 + ((endsOf mk o.ns 4).length : Int)).toNat 0) (getD_mem (by omega))
        obtain ⟨ha0, ha1⟩ := hla
        have ha2 : 0 ≤ (endsOf mk o.ns 4).getD (-1 + ((endsOf mk o.ns 4).length : Int)).toNat 0 + 1 := by omega
        clear ha0
        k_with "eval ListComp" => (refine Stop.go ?_)
        k_steps
        refine Stop.mk ?_
        k_dflt (refine gc_eval (by k_asm) (by with_unfolding_all rfl) (by rfl) (by decide) ?_)
        k_steps
        refine Stop.mk ?_
        rename Fr _ _ _ _ => F1
        rename News _ _ _ _ => N1
        rename IntsAre _ (List.take _ _) => iF
        rw [← hfr] at iF
        have hfl : (frontOf mk o.ns).length ≤ 4 := by rw [hfr, List.length_take]; omega
        have hfm : ∀ k ∈ frontOf mk o.ns, 0 ≤ k ∧ k < 4 := fun k hk => ok.lo k (List.mem_of_mem_take (hfr ▸ hk))
        refine gck_list0 (fun i ys => IntsAre ys (((frontOf mk o.ns).take i).map pw2)) iF (by k_dflt k_mem) (by omega) F1 N1 .nil (by rfl) (by decide) (by rfl) (by rfl) ?t2 ?f2
        case t2 =>
          intro I2 j ys k lI2 hk hJ2 m₂ t C oC D' oI h2 tk2 E' hx hC F2 N2 off ne
          clear F1 N1
          obtain ⟨b0, b1⟩ := hfm k (List.mem_of_getElem? hk)
          k_steps
          rename News _ _ _ _ => N'
          rename Fr _ _ _ _ => F'
          exact GcK.intro F' N' (fun _ h => h) (by rw [take_step pw2 hk]; exact IntsAre.append hJ2 (.cons _ _ .nil))
        case f2 =>
          intro ys2 g2 hJ2 D2 h2 tk2 F2 N2 o2'
          rw [List.take_length] at hJ2
          clear F1 N1
          replace N2 := (show News g _ h2 ((D2, W.listOf ys2.toArray ys2.length) :: _) from N2)
          k_steps
          refine Stop.mk ?_
          k_dflt (refine gc_eval (by k_asm) (by with_unfolding_all rfl) (by rfl) (by decide) ?_)
          k_steps
          refine Stop.mk ?_
          rename Fr _ _ _ _ => F1
          rename News _ _ _ _ => N1
          rename IntsAre _ (List.drop _ _) => iG
          refine gck_list0 (fun i ys => IntsAre ys ((((frontOf mk o.ns).drop ((frontOf mk o.ns).length - 1)).take i).map pw2)) iG (by k_dflt k_mem) (by rw [List.length_drop]; omega) F1 N1 .nil (by rfl) (by decide) (by rfl) (by rfl) ?t3 ?f3
          case t3 =>
            intro I3 j ys k lI3 hk hJ3 m₂ t C oC D' oI h2 tk2 E' hx hC F2 N2 off ne
            clear F1 N1
            obtain ⟨b0, b1⟩ := hfm k (List.mem_of_mem_drop (List.mem_of_getElem? hk))
            k_steps
            rename News _ _ _ _ => N'
            rename Fr _ _ _ _ => F'
            exact GcK.intro F' N' (fun _ h => h) (by rw [take_step pw2 hk]; exact IntsAre.append hJ3 (.cons _ _ .nil))
          case f3 =>
            intro ys3 g3 hJ3 D3 h3 tk3 F3 N3 o3'
            rw [List.take_length] at hJ3
            clear F1 N1
            replace N3 := (show News g _ h3 ((D3, W.listOf ys3.toArray ys3.length) :: _) from N3)
            k_steps
            rename News _ _ _ _ => N'
            rename Fr _ _ _ _ => F'
            show GEnd _ _ _ _ _ _ _ _ _
            refine' GEnd.intro (⟨_, _, _, _⟩ : OwS) F' N' (all_cons.mpr ⟨by k_mem, all_cons.mpr ⟨by k_mem, all_cons.mpr ⟨by k_mem, all_cons.mpr ⟨by k_mem, all_cons.mpr ⟨by k_mem, all_cons.mpr ⟨by k_mem, all_nil⟩⟩⟩⟩⟩⟩) hoff ?hk (pend rfl rfl)
            case hk => (intro p hp; simp only [List.mem_cons, List.not_mem_nil, or_false] at hp; rcases hp with rfl | rfl | rfl <;> rfl)
end own_spec
theorem own_spec {w : World} {z : Env0} (lo : Nat) (eo : Nat) (o1 : OrdD) (o2 : OrdD) (o3 : OrdD) (mk : Int) (u : Tok) (k1 : o1.Ok) (k2 : o2.Ok) (k3 : o3.Ok) (hm : 0 ≤ mk ∧ mk < 16) : Spec w z 20 100 (.ref 184) [.ref lo, .int mk u] [] [] [(lo, W.listOf [Value.ref o1.l, .ref o2.l, .ref o3.l].toArray eo), o1.obj, o2.obj, o3.obj]
    (fun mu' new v => ∃ f t t', mu' = [] ∧ new = [(f, tupleO [.int (ownOf mk [o1.ns, o2.ns, o3.ns]).1 t, .int (ownOf mk [o1.ns, o2.ns, o3.ns]).2 t'])] ∧ v = .ref f) := own_spec.epsX.2 (fun w z lo eo o1 o2 o3 mk u dp un gd outer A₀ base g L h₁ s tk co0 => Pk.all (T := own_spec.epsT) (ne := own_spec.eN) (Q := own_spec.epsQ) (by with_unfolding_all exact own_spec.eC) (w, z, lo, eo, o1, o2, o3, mk, u, dp, un, gd, outer, A₀, base, g, L, h₁, s, tk, co0)) w z lo eo o1 o2 o3 mk u k1 k2 k3 hm
end
section
theorem pow4_small {e : Int} (h : e ≤ 8) : ((4 : Int) ^ e.toNat).natAbs < 1073741824 := by
  have h1 : e.toNat ≤ 8 := by omega
  rw [Int.natAbs_pow]
  exact Nat.lt_of_le_of_lt (Nat.pow_le_pow_right (by decide) h1) (by decide)
noncomputable def menuAt (n : Int) : Int := [1, -1, 3, -2].getD n.toNat 0
section
variable {prog : Program} {w : World} {A : Around} {E : Value → Shared → Prop} {s : Shared} {h₀ : Heap} {L : Addr} {news : Led} {Q : Value → Shared → Prop}
theorem menu_item {value slice : PySem.Expr} {l : Addr} {n : Int} {u t1 t2 t3 t4 : Tok} (N : News h₀ L s.heap news) (hm : (l, tupleO [.int 1 t1, .int (-1) t2, .int 3 t3, .int (-2) t4]) ∈ news) (h : ∀ t, Q (.int (menuAt (n.fmod 4)) t) s)
    (hs : subscripted slice false (.ref l) (.int (n.fmod 4) u) = operate [.ref l, .int (n.fmod 4) u] (getItem (.ref l) (.int (n.fmod 4) u)) := by with_unfolding_all rfl) :
    wpAny (model prog w) A (subscriptTail value slice (.ref l) (.int (n.fmod 4) u)) Q E s := by
  have h1 : 0 ≤ n.fmod 4 := Int.fmod_nonneg_of_pos _ (by decide)
  have h2 : n.fmod 4 < 4 := Int.fmod_lt_of_pos _ (by decide)
  generalize n.fmod 4 = c at *
  have : c = 0 ∨ c = 1 ∨ c = 2 ∨ c = 3 := by first | exact orN4 (by omega) | exact orI4 (by omega) (by omega)
  rcases this with rfl | rfl | rfl | rfl
  · exact item_tupleT (j := 0) (x := .int 1 t1) (News.isTup N hm) (by decide) (by decide) rfl rfl (h _) hs
  · exact item_tupleT (j := 1) (x := .int (-1) t2) (News.isTup N hm) (by decide) (by decide) rfl rfl (h _) hs
  · exact item_tupleT (j := 2) (x := .int 3 t3) (News.isTup N hm) (by decide) (by decide) rfl rfl (h _) hs
  · exact item_tupleT (j := 3) (x := .int (-2) t4) (News.isTup N hm) (by decide) (by decide) rfl rfl (h _) hs
end
local macro_rules | `(tactic| walk_at "subscriptTail Tuple") => `(tactic| k_extra "subscriptTail Tuple")
noncomputable def keyD (num turn : Int) (i : Nat) : Int := menuAt ((num.fdiv (4 ^ (3 * turn + (0 + (i : Int))).toNat)).fmod 4)
noncomputable def keysOf (num turn : Int) : List (Int × Int) := [((turn + (0 + ((0 : Nat) : Int))).fmod 3, keyD num turn 0), ((turn + (0 + ((1 : Nat) : Int))).fmod 3, keyD num turn 1), (3, keyD num turn 2)]
theorem keys_ok {k : KeysD} {num turn : Int} (h : k.ks = keysOf num turn) : k.Ok := by
  have e : ∀ a : Int, 0 ≤ a.fmod 3 ∧ a.fmod 3 ≤ 3 := fun a => ⟨Int.fmod_nonneg_of_pos _ (by decide), Int.le_of_lt (Int.fmod_lt_of_pos _ (by decide))⟩
  simp only [KeysD.ks, keysOf, List.cons.injEq, Prod.mk.injEq, and_true] at h
  obtain ⟨⟨h1, -⟩, ⟨h2, -⟩, h3, -⟩ := h
  exact ⟨h1 ▸ (e _).1, h1 ▸ (e _).2, h2 ▸ (e _).1, h2 ▸ (e _).2, by omega, by omega⟩
local macro_rules | `(tactic| walk_at "binaryOp FloorDiv int int") => `(tactic| k_extra "binaryOp FloorDiv")
namespace keys_spec
noncomputable def epsX : { P : World → Env0 → Int → Int → Tok → Tok → Nat → Nat → (Option (List Code)) → (List Env) → Around → Heap → Heap → Addr → Heap → Shared → Nat → Prop // (∀ w z num turn tn tt dp un gd outer A₀ base g L h₁ s tk, P w z num turn tn tt dp un gd outer A₀ base g L h₁ s tk) → ∀ (w : World) (z : Env0) (num : Int) (turn : Int) (tn : Tok) (tt : Tok) (h0 : 0 ≤ num) (h1 : num < 1000000000) (h2 : 0 ≤ turn) (h3 : turn < 3), Spec w z 20 60 (.ref 132) [.int num tn, .int turn tt] [] [] [] (fun mu' new v => ∃ k : KeysD, mu' = [] ∧ new = k.led ∧ k.ks = keysOf num turn ∧ v = .ref k.kl) } := ⟨_, by
  intro h_eps w z num turn tn tt h0 h1 h2 h3
  (k_dflt (refine' spec_def [(Str.ofString "turn", .int turn tt), (Str.ofString "number", .int num tn)] ?ho ?hcd ?hb ?hl ?h ?c2 ?c3 ?c4 ?c5; (case ho => k_is); (case hcd => k_is); (case hb => intro s' X'; first | exact BindsTo.of_eq rfl | exact binds_K X' rfl (by k_is) rfl rfl rfl); (case c5 => decide); (case hl => exact locs rfl); (case c2 => exact rfl); (case c3 => exact rfl); (case c4 => exact rfl)); (intro dp un gd outer A₀ base g L h₁ s tk B F X N T C hdp hun; obtain ⟨cL, cY, cS⟩ := C))
  revert hun; revert hdp; revert cS; revert cY; revert cL; revert T; revert N; revert X; revert F; revert B; revert h3; revert h2; revert h1; revert h0
  exact h_eps w z num turn tn tt dp un gd outer A₀ base g L h₁ s tk⟩
noncomputable abbrev epsT : Type := World × Env0 × Int × Int × Tok × Tok × Nat × Nat × (Option (List Code)) × (List Env) × Around × Heap × Heap × Addr × Heap × Shared × Nat
noncomputable abbrev epsQ : epsT → Prop := fun d => epsX.1 d.1 d.2.1 d.2.2.1 d.2.2.2.1 d.2.2.2.2.1 d.2.2.2.2.2.1 d.2.2.2.2.2.2.1 d.2.2.2.2.2.2.2.1 d.2.2.2.2.2.2.2.2.1 d.2.2.2.2.2.2.2.2.2.1 d.2.2.2.2.2.2.2.2.2.2.1 d.2.2.2.2.2.2.2.2.2.2.2.1 d.2.2.2.2.2.2.2.2.2.2.2.2.1 d.2.2.2.2.2.2.2.2.2.2.2.2.2.1 d.2.2.2.2.2.2.2.2.2.2.2.2.2.2.1 d.2.2.2.2.2.2.2.2.2.2.2.2.2.2.2.1 d.2.2.2.2.2.2.2.2.2.2.2.2.2.2.2.2
theorem eN : Nonempty epsT := by walk_at "ne_all"
@[irreducible] noncomputable def eK : epsT := Pk epsT eN epsQ
theorem eC : epsX.1 eK.1 eK.2.1 eK.2.2.1 eK.2.2.2.1 eK.2.2.2.2.1 eK.2.2.2.2.2.1 eK.2.2.2.2.2.2.1 eK.2.2.2.2.2.2.2.1 eK.2.2.2.2.2.2.2.2.1 eK.2.2.2.2.2.2.2.2.2.1 eK.2.2.2.2.2.2.2.2.2.2.1 eK.2.2.2.2.2.2.2.2.2.2.2.1 eK.2.2.2.2.2.2.2.2.2.2.2.2.1 eK.2.2.2.2.2.2.2.2.2.2.2.2.2.1 eK.2.2.2.2.2.2.2.2.2.2.2.2.2.2.1 eK.2.2.2.2.2.2.2.2.2.2.2.2.2.2.2.1 eK.2.2.2.2.2.2.2.2.2.2.2.2.2.2.2.2 := by
  dsimp only [epsX]
  intro h0 h1 h2 h3 B F X N T cL cY cS hdp hun
  dsimp only [List.nil_append, List.cons_append] at N
  k_with_none
  k_with "subscriptTail Tuple" => ((k_dflt (refine menu_item (by k_asm) (by k_mem) ?_)); intro tmenu')
  k_with "binaryOp FloorDiv" => (refine floordiv_int (Int.ne_of_gt (Int.pow_pos (by decide))) ?_ (Or.inl (PyProof.noPylong_small (pow4_small (by omega)))))
  k_steps
  rename News _ _ _ _ => N'
  rename Fr _ _ _ _ => F'
  show Fin _ _ _ _ _ _ _ _
  refine Fin.intro F' N' [] [(_, W.listOf #[.ref _, .ref _, .ref _] _), (_, tupleO [.int _ _, .int _ _]), (_, tupleO [.int _ _, .int _ _]), (_, tupleO [.int _ _, .int _ _])]
    (all_cons.mpr ⟨.tail _ (.tail _ (.tail _ (.tail _ (.tail _ (.tail _ (.head _)))))), all_cons.mpr ⟨.tail _ (.tail _ (.tail _ (.tail _ (.head _)))), all_cons.mpr ⟨.tail _ (.tail _ (.head _)), all_cons.mpr ⟨.head _, all_nil⟩⟩⟩⟩) rfl (by intro _ h; cases h) ⟨⟨_, _, _, _, _, _, _, _, _, _, _, _, _, _, _, _, _⟩, rfl, rfl, rfl, rfl⟩
end keys_spec
theorem keys_spec {w : World} {z : Env0} (num : Int) (turn : Int) (tn : Tok) (tt : Tok) (h0 : 0 ≤ num) (h1 : num < 1000000000) (h2 : 0 ≤ turn) (h3 : turn < 3) : Spec w z 20 60 (.ref 132) [.int num tn, .int turn tt] [] [] [] (fun mu' new v => ∃ k : KeysD, mu' = [] ∧ new = k.led ∧ k.ks = keysOf num turn ∧ v = .ref k.kl) := keys_spec.epsX.2 (fun w z num turn tn tt dp un gd outer A₀ base g L h₁ s tk => Pk.all (T := keys_spec.epsT) (ne := keys_spec.eN) (Q := keys_spec.epsQ) (by with_unfolding_all exact keys_spec.eC) (w, z, num, turn, tn, tt, dp, un, gd, outer, A₀, base, g, L, h₁, s, tk)) w z num turn tn tt h0 h1 h2 h3
end
section
namespace count_spec
noncomputable def epsX : { P : World → Env0 → Nat → Obj → Int → Int → Tok → Nat → Nat → (Option (List Code)) → (List Env) → Around → Heap → Heap → Addr → Heap → Shared → Nat → Prop // (∀ w z d o h v t dp un gd outer A₀ base g L h₁ s tk, P w z d o h v t dp un gd outer A₀ base g L h₁ s tk) → ∀ (w : World) (z : Env0) (d : Nat) (o : Obj) (h : Int) (v : Int) (t : Tok) (hd : o.IsDictOf (PySem.intKind PySem.Challenge.rw_wf0038_01.prog w) [(h, .int v t)]) (lo1 : (d == sysModules) = false), Spec w z 20 60 (.ref 63) [.ref d] [] [] [(d, o)] (fun mu' new r => mu' = [] ∧ new = [] ∧ ∃ t, r = .int v t) } := ⟨_, by
  intro h_eps w z d o h v t hd lo1
  (k_dflt (refine' spec_def [(Str.ofString "callers", .ref d)] ?ho ?hcd ?hb ?hl ?h ?c2 ?c3 ?c4 ?c5; (case ho => k_is); (case hcd => k_is); (case hb => intro s' X'; first | exact BindsTo.of_eq rfl | exact binds_K X' rfl (by k_is) rfl rfl rfl); (case c5 => decide); (case hl => exact locs rfl); (case c2 => exact rfl); (case c3 => exact rfl); (case c4 => exact rfl)); (intro dp un gd outer A₀ base g L h₁ s tk B F X N T C hdp hun; obtain ⟨cL, cY, cS⟩ := C))
  revert hun; revert hdp; revert cS; revert cY; revert cL; revert T; revert N; revert X; revert F; revert B; revert lo1; revert hd
  exact h_eps w z d o h v t dp un gd outer A₀ base g L h₁ s tk⟩
noncomputable abbrev epsT : Type := World × Env0 × Nat × Obj × Int × Int × Tok × Nat × Nat × (Option (List Code)) × (List Env) × Around × Heap × Heap × Addr × Heap × Shared × Nat
noncomputable abbrev epsQ : epsT → Prop := fun d => epsX.1 d.1 d.2.1 d.2.2.1 d.2.2.2.1 d.2.2.2.2.1 d.2.2.2.2.2.1 d.2.2.2.2.2.2.1 d.2.2.2.2.2.2.2.1 d.2.2.2.2.2.2.2.2.1 d.2.2.2.2.2.2.2.2.2.1 d.2.2.2.2.2.2.2.2.2.2.1 d.2.2.2.2.2.2.2.2.2.2.2.1 d.2.2.2.2.2.2.2.2.2.2.2.2.1 d.2.2.2.2.2.2.2.2.2.2.2.2.2.1 d.2.2.2.2.2.2.2.2.2.2.2.2.2.2.1 d.2.2.2.2.2.2.2.2.2.2.2.2.2.2.2.1 d.2.2.2.2.2.2.2.2.2.2.2.2.2.2.2.2.1 d.2.2.2.2.2.2.2.2.2.2.2.2.2.2.2.2.2
theorem eN : Nonempty epsT := by walk_at "ne_all"
@[irreducible] noncomputable def eK : epsT := Pk epsT eN epsQ
@[irreducible] noncomputable def h := eK.2.2.2.2.1
theorem eC : epsX.1 eK.1 eK.2.1 eK.2.2.1 eK.2.2.2.1 h eK.2.2.2.2.2.1 eK.2.2.2.2.2.2.1 eK.2.2.2.2.2.2.2.1 eK.2.2.2.2.2.2.2.2.1 eK.2.2.2.2.2.2.2.2.2.1 eK.2.2.2.2.2.2.2.2.2.2.1 eK.2.2.2.2.2.2.2.2.2.2.2.1 eK.2.2.2.2.2.2.2.2.2.2.2.2.1 eK.2.2.2.2.2.2.2.2.2.2.2.2.2.1 eK.2.2.2.2.2.2.2.2.2.2.2.2.2.2.1 eK.2.2.2.2.2.2.2.2.2.2.2.2.2.2.2.1 eK.2.2.2.2.2.2.2.2.2.2.2.2.2.2.2.2.1 eK.2.2.2.2.2.2.2.2.2.2.2.2.2.2.2.2.2 := by
  dsimp only [epsX]
  intro hd lo1 B F X N T cL cY cS hdp hun
  dsimp only [List.nil_append, List.cons_append] at N
  k_with_none
  k_with "exec For Name Call cons nil" => kta_for
  k_steps
  exact Fin.intro (by k_asm) (by k_asm) [] [] (by k_sub) rfl (by intro _ _ _ h; cases h) ⟨rfl, rfl, _, congrArg (Value.int · _) (Int.zero_add _)⟩
end count_spec
theorem count_spec {w : World} {z : Env0} (d : Nat) (o : Obj) (h : Int) (v : Int) (t : Tok) (hd : o.IsDictOf (PySem.intKind PySem.Challenge.rw_wf0038_01.prog w) [(h, .int v t)]) (lo1 : (d == sysModules) = false) : Spec w z 20 60 (.ref 63) [.ref d] [] [] [(d, o)] (fun mu' new r => mu' = [] ∧ new = [] ∧ ∃ t, r = .int v t) := count_spec.epsX.2 (fun w z d o h v t dp un gd outer A₀ base g L h₁ s tk => Pk.all (T := count_spec.epsT) (ne := count_spec.eN) (Q := count_spec.epsQ) (by with_unfolding_all exact count_spec.eC) (w, z, d, o, h, v, t, dp, un, gd, outer, A₀, base, g, L, h₁, s, tk)) w z d o h v t hd lo1
noncomputable abbrev IK (w : World) := PySem.intKind PySem.Challenge.rw_wf0038_01.prog w
section
variable {prog : Program} {w : World} {K : Type} [DecidableEq K] {knd : KeyKind prog w K} {A : Around} {E : Value → Shared → Prop} {s : Shared} {h₀ : Heap} {L d : Addr} {news : Led} {o : Obj} {kvs : List (K × Value)} {k : K} {key v : Value}
theorem kda_getItem {Q : Value → Shared → Prop} (N : News h₀ L s.heap news) (hp : (d, o) ∈ news) (hd : o.IsDictOf knd kvs) (hkey : knd.is k key = true) (hl : valueAt kvs k = some v) (h : Q v { s with toks := s.toks + 1 }) : wpAny (model prog w) A (getItem (.ref d) key) Q E s :=
  wpAny_getItem_of hkey (kda_dict N hp hd).mapOf hl h
end
theorem stored_one {α : Type} [DecidableEq α] (h : α) (u v : Value) : stored [(h, u)] h v = [(h, v)] := by simp [stored]
namespace addc_nil
noncomputable def epsX : { P : World → Env0 → Nat → Nat → Obj → Obj → Int → Tok → Nat → Nat → (Option (List Code)) → (List Env) → Around → Heap → Heap → Addr → Heap → Shared → Nat → Prop // (∀ w z d e o oe h t dp un gd outer A₀ base g L h₁ s tk, P w z d e o oe h t dp un gd outer A₀ base g L h₁ s tk) → ∀ (w : World) (z : Env0) (d : Nat) (e : Nat) (o : Obj) (oe : Obj) (h : Int) (t : Tok) (hd : o.IsDictOf (IK w) []) (he : oe.IsDictOf (IK w) [(h, .int 1 t)]) (lo1 : (d == sysModules) = false) (lo2 : (e == sysModules) = false), Spec w z 20 60 (.ref 56) [.ref d, .ref e] [] [] [(d, o), (e, oe)] (fun mu' new r => ∃ f o' t, mu' = [] ∧ new = [(f, o')] ∧ o'.IsDictOf (IK w) [(h, .int (1) t)] ∧ (f == sysModules) = false ∧ r = .ref f) } := ⟨_, by
  intro h_eps w z d e o oe h t hd he lo1 lo2
  (k_dflt (refine' spec_def [(Str.ofString "source", .ref e), (Str.ofString "target", .ref d)] ?ho ?hcd ?hb ?hl ?h ?c2 ?c3 ?c4 ?c5; (case ho => k_is); (case hcd => k_is); (case hb => intro s' X'; first | exact BindsTo.of_eq rfl | exact binds_K X' rfl (by k_is) rfl rfl rfl); (case c5 => decide); (case hl => exact locs rfl); (case c2 => exact rfl); (case c3 => exact rfl); (case c4 => exact rfl)); (intro dp un gd outer A₀ base g L h₁ s tk B F X N T C hdp hun; obtain ⟨cL, cY, cS⟩ := C))
  revert hun; revert hdp; revert cS; revert cY; revert cL; revert T; revert N; revert X; revert F; revert B; revert lo2; revert lo1; revert he; revert hd
  exact h_eps w z d e o oe h t dp un gd outer A₀ base g L h₁ s tk⟩
noncomputable abbrev epsT : Type := World × Env0 × Nat × Nat × Obj × Obj × Int × Tok × Nat × Nat × (Option (List Code)) × (List Env) × Around × Heap × Heap × Addr × Heap × Shared × Nat
noncomputable abbrev epsQ : epsT → Prop := fun d => epsX.1 d.1 d.2.1 d.2.2.1 d.2.2.2.1 d.2.2.2.2.1 d.2.2.2.2.2.1 d.2.2.2.2.2.2.1 d.2.2.2.2.2.2.2.1 d.2.2.2.2.2.2.2.2.1 d.2.2.2.2.2.2.2.2.2.1 d.2.2.2.2.2.2.2.2.2.2.1 d.2.2.2.2.2.2.2.2.2.2.2.1 d.2.2.2.2.2.2.2.2.2.2.2.2.1 d.2.2.2.2.2.2.2.2.2.2.2.2.2.1 d.2.2.2.2.2.2.2.2.2.2.2.2.2.2.1 d.2.2.2.2.2.2.2.2.2.2.2.2.2.2.2.1 d.2.2.2.2.2.2.2.2.2.2.2.2.2.2.2.2.1 d.2.2.2.2.2.2.2.2.2.2.2.2.2.2.2.2.2.1 d.2.2.2.2.2.2.2.2.2.2.2.2.2.2.2.2.2.2
theorem eN : Nonempty epsT := by walk_at "ne_all"
@[irreducible] noncomputable def eK : epsT := Pk epsT eN epsQ
@[irreducible] noncomputable def h := eK.2.2.2.2.2.2.1
@[irreducible] noncomputable def t := eK.2.2.2.2.2.2.2.1
theorem eC : epsX.1 eK.1 eK.2.1 eK.2.2.1 eK.2.2.2.1 eK.2.2.2.2.1 eK.2.2.2.2.2.1 h t eK.2.2.2.2.2.2.2.2.1 eK.2.2.2.2.2.2.2.2.2.1 eK.2.2.2.2.2.2.2.2.2.2.1 eK.2.2.2.2.2.2.2.2.2.2.2.1 eK.2.2.2.2.2.2.2.2.2.2.2.2.1 eK.2.2.2.2.2.2.2.2.2.2.2.2.2.1 eK.2.2.2.2.2.2.2.2.2.2.2.2.2.2.1 eK.2.2.2.2.2.2.2.2.2.2.2.2.2.2.2.1 eK.2.2.2.2.2.2.2.2.2.2.2.2.2.2.2.2.1 eK.2.2.2.2.2.2.2.2.2.2.2.2.2.2.2.2.2.1 eK.2.2.2.2.2.2.2.2.2.2.2.2.2.2.2.2.2.2 := by
  dsimp only [epsX]
  intro hd he lo1 lo2 B F X N T cL cY cS hdp hun
  dsimp only [List.nil_append, List.cons_append] at N
  k_with_none
  k_with "exec For Tuple Call cons nil" => (refine Stop.go ?_)
  k_steps
  (rename Obj.IsDictOf (PySem.strKind _ _) _ _ => x1); (rename PyProof.V.FlatPairs PyData.str _ _ => x2); (rename PyProof.V.FlatPairs PyData.int _ _ => x3); clear x2 x3 x1
  refine Stop.mk ?_
  (rename Fr _ _ _ _ => lF'); (rename News _ _ _ _ => lN')
  (with_unfolding_all ((refine' For_turns lF' ?_); k_whole; (refine MethodCall_ ?_); (refine ld lF' (by rfl) ?_); (refine kdl_method (knd := PySem.intKind _ _) PySem.F.slot_dict_items PySem.F.type_dict_items lN' (by k_mem) hd ?_); (refine callWith_method0 ?_); (refine kta_callItems (knd := PySem.intKind _ _) lF' lN' (by k_mem) hd lo1 ?_)))
  clear lF' lN'; intro h' hv' F' N'
  (with_unfolding_all refine kta_items (knd := PySem.intKind _ _) (enc := PyData.int) (xs := []) (by rfl) F' N' hv' (by k_mem) hd (fun _ _ h => Value.isInt_shape h) (by rfl) ?_)
  clear hv'; intro i' l1; (try k_lt l1)
  k_steps
  refine Stop.mk ?_
  (rename Fr _ _ _ _ => lF'); (rename News _ _ _ _ => lN')
  (with_unfolding_all ((refine' For_turns lF' ?_); k_whole; (refine MethodCall_ ?_); (refine ld lF' (by rfl) ?_); (refine kdl_method (knd := PySem.intKind _ _) PySem.F.slot_dict_items PySem.F.type_dict_items lN' (by k_mem) he ?_); (refine callWith_method0 ?_); (refine kta_callItems (knd := PySem.intKind _ _) lF' lN' (by k_mem) he lo2 ?_)))
  clear lF' lN'; intro h' hv' F' N'
  (with_unfolding_all refine kta_items (knd := PySem.intKind _ _) (enc := PyData.int) (xs := [Itm.pair (fun t => Value.int h t) (.int 1 t)]) (by rfl) F' N' hv' (by k_mem) he (fun _ _ h => Value.isInt_shape h) (by rfl) ?_)
  clear hv'; intro i' l1; (try k_lt l1)
  k_steps
  rename News _ _ _ _ => N'
  rename Fr _ _ _ _ => F'
  rename Obj.IsDictOf _ _ [(h, _)] => hr
  show Fin _ _ _ _ _ _ _ _
  refine Fin.intro F' N' [] [(_, _)] (fun _ h => h) rfl ?_ ⟨_, _, _, rfl, rfl, hr, by assumption, rfl⟩
  intro p hp q hq
  rcases List.mem_singleton.mp hq with rfl
  simp only [List.nil_append, List.mem_cons, List.not_mem_nil, or_false] at hp
  rcases hp with rfl | rfl <;> (show @Ne Nat _ _; k_ne)
end addc_nil
theorem addc_nil {w : World} {z : Env0} (d : Nat) (e : Nat) (o : Obj) (oe : Obj) (h : Int) (t : Tok) (hd : o.IsDictOf (IK w) []) (he : oe.IsDictOf (IK w) [(h, .int 1 t)]) (lo1 : (d == sysModules) = false) (lo2 : (e == sysModules) = false) : Spec w z 20 60 (.ref 56) [.ref d, .ref e] [] [] [(d, o), (e, oe)] (fun mu' new r => ∃ f o' t, mu' = [] ∧ new = [(f, o')] ∧ o'.IsDictOf (IK w) [(h, .int (1) t)] ∧ (f == sysModules) = false ∧ r = .ref f) := addc_nil.epsX.2 (fun w z d e o oe h t dp un gd outer A₀ base g L h₁ s tk => Pk.all (T := addc_nil.epsT) (ne := addc_nil.eN) (Q := addc_nil.epsQ) (by with_unfolding_all exact addc_nil.eC) (w, z, d, e, o, oe, h, t, dp, un, gd, outer, A₀, base, g, L, h₁, s, tk)) w z d e o oe h t hd he lo1 lo2
namespace addc_one
noncomputable def epsX : { P : World → Env0 → Nat → Nat → Obj → Obj → Int → Int → Tok → Tok → Nat → Nat → (Option (List Code)) → (List Env) → Around → Heap → Heap → Addr → Heap → Shared → Nat → Prop // (∀ w z d e o oe h c t tc dp un gd outer A₀ base g L h₁ s tk, P w z d e o oe h c t tc dp un gd outer A₀ base g L h₁ s tk) → ∀ (w : World) (z : Env0) (d : Nat) (e : Nat) (o : Obj) (oe : Obj) (h : Int) (c : Int) (t : Tok) (tc : Tok) (hd : o.IsDictOf (IK w) [(h, .int c tc)]) (he : oe.IsDictOf (IK w) [(h, .int 1 t)]) (lo1 : (d == sysModules) = false) (lo2 : (e == sysModules) = false), Spec w z 20 60 (.ref 56) [.ref d, .ref e] [] [] [(d, o), (e, oe)] (fun mu' new r => ∃ f o' t, mu' = [] ∧ new = [(f, o')] ∧ o'.IsDictOf (IK w) [(h, .int (c + 1) t)] ∧ (f == sysModules) = false ∧ r = .ref f) } := ⟨_, by
  intro h_eps w z d e o oe h c t tc hd he lo1 lo2
  (k_dflt (refine' spec_def [(Str.ofString "source", .ref e), (Str.ofString "target", .ref d)] ?ho ?hcd ?hb ?hl ?h ?c2 ?c3 ?c4 ?c5; (case ho => k_is); (case hcd => k_is); (case hb => intro s' X'; first | exact BindsTo.of_eq rfl | exact binds_K X' rfl (by k_is) rfl rfl rfl); (case c5 => decide); (case hl => exact locs rfl); (case c2 => exact rfl); (case c3 => exact rfl); (case c4 => exact rfl)); (intro dp un gd outer A₀ base g L h₁ s tk B F X N T C hdp hun; obtain ⟨cL, cY, cS⟩ := C))
  revert hun; revert hdp; revert cS; revert cY; revert cL; revert T; revert N; revert X; revert F; revert B; revert lo2; revert lo1; revert he; revert hd
  exact h_eps w z d e o oe h c t tc dp un gd outer A₀ base g L h₁ s tk⟩
noncomputable abbrev epsT : Type := World × Env0 × Nat × Nat × Obj × Obj × Int × Int × Tok × Tok × Nat × Nat × (Option (List Code)) × (List Env) × Around × Heap × Heap × Addr × Heap × Shared × Nat
noncomputable abbrev epsQ : epsT → Prop := fun d => epsX.1 d.1 d.2.1 d.2.2.1 d.2.2.2.1 d.2.2.2.2.1 d.2.2.2.2.2.1 d.2.2.2.2.2.2.1 d.2.2.2.2.2.2.2.1 d.2.2.2.2.2.2.2.2.1 d.2.2.2.2.2.2.2.2.2.1 d.2.2.2.2.2.2.2.2.2.2.1 d.2.2.2.2.2.2.2.2.2.2.2.1 d.2.2.2.2.2.2.2.2.2.2.2.2.1 d.2.2.2.2.2.2.2.2.2.2.2.2.2.1 d.2.2.2.2.2.2.2.2.2.2.2.2.2.2.1 d.2.2.2.2.2.2.2.2.2.2.2.2.2.2.2.1 d.2.2.2.2.2.2.2.2.2.2.2.2.2.2.2.2.1 d.2.2.2.2.2.2.2.2.2.2.2.2.2.2.2.2.2.1 d.2.2.2.2.2.2.2.2.2.2.2.2.2.2.2.2.2.2.1 d.2.2.2.2.2.2.2.2.2.2.2.2.2.2.2.2.2.2.2.1 d.2.2.2.2.2.2.2.2.2.2.2.2.2.2.2.2.2.2.2.2
theorem eN : Nonempty epsT := by walk_at "ne_all"
@[irreducible] noncomputable def eK : epsT := Pk epsT eN epsQ
@[irreducible] noncomputable def h := eK.2.2.2.2.2.2.1
@[irreducible] noncomputable def c := eK.2.2.2.2.2.2.2.1
@[irreducible] noncomputable def t := eK.2.2.2.2.2.2.2.2.1
@[irreducible] noncomputable def tc := eK.2.2.2.2.2.2.2.2.2.1
theorem eC : epsX.1 eK.1 eK.2.1 eK.2.2.1 eK.2.2.2.1 eK.2.2.2.2.1 eK.2.2.2.2.2.1 h c t tc eK.2.2.2.2.2.2.2.2.2.2.1 eK.2.2.2.2.2.2.2.2.2.2.2.1 eK.2.2.2.2.2.2.2.2.2.2.2.2.1 eK.2.2.2.2.2.2.2.2.2.2.2.2.2.1 eK.2.2.2.2.2.2.2.2.2.2.2.2.2.2.1 eK.2.2.2.2.2.2.2.2.2.2.2.2.2.2.2.1 eK.2.2.2.2.2.2.2.2.2.2.2.2.2.2.2.2.1 eK.2.2.2.2.2.2.2.2.2.2.2.2.2.2.2.2.2.1 eK.2.2.2.2.2.2.2.2.2.2.2.2.2.2.2.2.2.2.1 eK.2.2.2.2.2.2.2.2.2.2.2.2.2.2.2.2.2.2.2.1 eK.2.2.2.2.2.2.2.2.2.2.2.2.2.2.2.2.2.2.2.2 := by
  dsimp only [epsX]
  intro hd he lo1 lo2 B F X N T cL cY cS hdp hun
  dsimp only [List.nil_append, List.cons_append] at N
  k_with_none
  k_with "getItem ref int" => (k_dflt (refine kda_getItem (knd := PySem.intKind _ _) (kvs := [(h, .int c tc)]) (v := .int c tc) (by k_asm) (by k_mem) (by k_asm) (intKind_is _ _ _ _) (by simp [valueAt]) ?_))
  k_with "compareOp In int ref" => (k_dflt (first
    | refine kda_in (knd := PySem.intKind _ _) (kvs := [(h, .int c tc)]) (by k_asm) (by k_mem) (by k_asm) (by k_asm) (intKind_is _ _ _ _) true (by simp [valueAt]) ?_
    | refine kda_in (knd := PySem.intKind _ _) (kvs := []) (by k_asm) (by k_mem) (by k_asm) (by k_asm) (intKind_is _ _ _ _) false (by simp [valueAt]) ?_))
  k_with "exec For Tuple Call cons nil" => (refine Stop.go ?_)
  k_steps
  (rename Obj.IsDictOf (PySem.strKind _ _) _ _ => x1); (rename PyProof.V.FlatPairs PyData.str _ _ => x2); (rename PyProof.V.FlatPairs PyData.int _ _ => x3); clear x2 x3 x1
  refine Stop.mk ?_
  (rename Fr _ _ _ _ => lF'); (rename News _ _ _ _ => lN')
  (with_unfolding_all ((refine' For_turns lF' ?_); k_whole; (refine MethodCall_ ?_); (refine ld lF' (by rfl) ?_); (refine kdl_method (knd := PySem.intKind _ _) PySem.F.slot_dict_items PySem.F.type_dict_items lN' (by k_mem) hd ?_); (refine callWith_method0 ?_); (refine kta_callItems (knd := PySem.intKind _ _) lF' lN' (by k_mem) hd lo1 ?_)))
  clear lF' lN'; intro h' hv' F' N'
  (with_unfolding_all refine kta_items (knd := PySem.intKind _ _) (enc := PyData.int) (xs := [Itm.pair (fun t => Value.int h t) (.int c tc)]) (by rfl) F' N' hv' (by k_mem) hd (fun _ _ h => Value.isInt_shape h) (by rfl) ?_)
  clear hv'; intro i' l1; (try k_lt l1)
  k_steps
  refine Stop.mk ?_
  (rename Fr _ _ _ _ => lF'); (rename News _ _ _ _ => lN')
  (with_unfolding_all ((refine' For_turns lF' ?_); k_whole; (refine MethodCall_ ?_); (refine ld lF' (by rfl) ?_); (refine kdl_method (knd := PySem.intKind _ _) PySem.F.slot_dict_items PySem.F.type_dict_items lN' (by k_mem) he ?_); (refine callWith_method0 ?_); (refine kta_callItems (knd := PySem.intKind _ _) lF' lN' (by k_mem) he lo2 ?_)))
  clear lF' lN'; intro h' hv' F' N'
  (with_unfolding_all refine kta_items (knd := PySem.intKind _ _) (enc := PyData.int) (xs := [Itm.pair (fun t => Value.int h t) (.int 1 t)]) (by rfl) F' N' hv' (by k_mem) he (fun _ _ h => Value.isInt_shape h) (by rfl) ?_)
  clear hv'; intro i' l1; (try k_lt l1)
  k_steps
  rename News _ _ _ _ => N'
  rename Fr _ _ _ _ => F'
  rename Obj.IsDictOf _ _ (stored _ _ _) => hr
  rw [stored_one] at hr
  show Fin _ _ _ _ _ _ _ _
  refine Fin.intro F' N' [] [(_, _)] (fun _ h => h) rfl ?_ ⟨_, _, _, rfl, rfl, hr, by assumption, rfl⟩
  intro p hp q hq
  rcases List.mem_singleton.mp hq with rfl
  simp only [List.nil_append, List.mem_cons, List.not_mem_nil, or_false] at hp
  rcases hp with rfl | rfl <;> (show @Ne Nat _ _; k_ne)
end addc_one
theorem addc_one {w : World} {z : Env0} (d : Nat) (e : Nat) (o : Obj) (oe : Obj) (h : Int) (c : Int) (t : Tok) (tc : Tok) (hd : o.IsDictOf (IK w) [(h, .int c tc)]) (he : oe.IsDictOf (IK w) [(h, .int 1 t)]) (lo1 : (d == sysModules) = false) (lo2 : (e == sysModules) = false) : Spec w z 20 60 (.ref 56) [.ref d, .ref e] [] [] [(d, o), (e, oe)] (fun mu' new r => ∃ f o' t, mu' = [] ∧ new = [(f, o')] ∧ o'.IsDictOf (IK w) [(h, .int (c + 1) t)] ∧ (f == sysModules) = false ∧ r = .ref f) := addc_one.epsX.2 (fun w z d e o oe h c t tc dp un gd outer A₀ base g L h₁ s tk => Pk.all (T := addc_one.epsT) (ne := addc_one.eN) (Q := addc_one.epsQ) (by with_unfolding_all exact addc_one.eC) (w, z, d, e, o, oe, h, c, t, tc, dp, un, gd, outer, A₀, base, g, L, h₁, s, tk)) w z d e o oe h c t tc hd he lo1 lo2
noncomputable def CalOk (w : World) (o : Obj) (h c : Int) : Prop := (o.IsDictOf (IK w) [] ∧ c = 0) ∨ ∃ t, o.IsDictOf (IK w) [(h, .int c t)]
theorem addc_spec {w : World} {z : Env0} (d e : Nat) (o oe : Obj) (h c : Int) (t : Tok) (hd : CalOk w o h c) (he : oe.IsDictOf (IK w) [(h, .int 1 t)]) (lo1 : (d == sysModules) = false) (lo2 : (e == sysModules) = false) :
   Spec w z 20 60 (.ref 56) [.ref d, .ref e] [] [] [(d, o), (e, oe)] (fun mu' new r => ∃ f o' t, mu' = [] ∧ new = [(f, o')] ∧ o'.IsDictOf (IK w) [(h, .int (c + 1) t)] ∧ (f == sysModules) = false ∧ r = .ref f) := by
  rcases hd with ⟨hd, rfl⟩ | ⟨tc, hd⟩
  · rw [Int.zero_add]; exact addc_nil d e o oe h t hd he lo1 lo2
  · exact addc_one d e o oe h c t tc hd he lo1 lo2
noncomputable abbrev statO (a b x y : Int) (ta tb tx ty : Tok) (d : Nat) : Obj := tupleO [.int a ta, .int b tb, .int x tx, .int y ty, .ref d]
namespace stats_spec
noncomputable def epsX : { P : World → Env0 → Nat → Nat → Nat → Nat → Obj → Obj → Int → Int → Tok → Int → Int → Int → Int → Int → Int → Int → Int → Tok → Tok → Tok → Tok → Tok → Tok → Tok → Tok → Nat → Nat → (Option (List Code)) → (List Env) → Around → Heap → Heap → Addr → Heap → Shared → Nat → Prop // (∀ w z T S d e o oe h c t a b x y a' b' x' y' ta tb tx ty ta' tb' tx' ty' dp un gd outer A₀ base g L h₁ s tk, P w z T S d e o oe h c t a b x y a' b' x' y' ta tb tx ty ta' tb' tx' ty' dp un gd outer A₀ base g L h₁ s tk) → ∀ (w : World) (z : Env0) (T : Nat) (S : Nat) (d : Nat) (e : Nat) (o : Obj) (oe : Obj) (h : Int) (c : Int) (t : Tok) (a : Int) (b : Int) (x : Int) (y : Int) (a' : Int) (b' : Int) (x' : Int) (y' : Int) (ta : Tok) (tb : Tok) (tx : Tok) (ty : Tok) (ta' : Tok) (tb' : Tok) (tx' : Tok) (ty' : Tok) (hd : CalOk w o h c) (he : oe.IsDictOf (IK w) [(h, .int 1 t)]) (lo1 : (d == sysModules) = false) (lo2 : (e == sysModules) = false), Spec w z 30 80 (.ref 49) [.ref T, .ref S] [] [] [(T, statO a b x y ta tb tx ty d), (S, statO a' b' x' y' ta' tb' tx' ty' e), (d, o), (e, oe)]
   (fun mu' new r => ∃ f f2 o' t ta tb tx ty, mu' = [] ∧ new = [(f, statO (a' + a) (b' + b) (x' + x) (y' + y) ta tb tx ty f2), (f2, o')] ∧ o'.IsDictOf (IK w) [(h, .int (c + 1) t)] ∧ (f2 == sysModules) = false ∧ r = .ref f) } := ⟨_, by
  intro h_eps w z T S d e o oe h c t a b x y a' b' x' y' ta tb tx ty ta' tb' tx' ty' hd he lo1 lo2
  (k_dflt (refine' spec_def [(Str.ofString "source", .ref S), (Str.ofString "target", .ref T)] ?ho ?hcd ?hb ?hl ?h ?c2 ?c3 ?c4 ?c5; (case ho => k_is); (case hcd => k_is); (case hb => intro s' X'; first | exact BindsTo.of_eq rfl | exact binds_K X' rfl (by k_is) rfl rfl rfl); (case c5 => decide); (case hl => exact locs rfl); (case c2 => exact rfl); (case c3 => exact rfl); (case c4 => exact rfl)); (intro dp un gd outer A₀ base g L h₁ s tk B F X N T C hdp hun; obtain ⟨cL, cY, cS⟩ := C))
  revert hun; revert hdp; revert cS; revert cY; revert cL; revert T; revert N; revert X; revert F; revert B; revert lo2; revert lo1; revert he; revert hd
  exact h_eps w z T S d e o oe h c t a b x y a' b' x' y' ta tb tx ty ta' tb' tx' ty' dp un gd outer A₀ base g L h₁ s tk⟩
noncomputable abbrev epsT : Type := World × Env0 × Nat × Nat × Nat × Nat × Obj × Obj × Int × Int × Tok × Int × Int × Int × Int × Int × Int × Int × Int × Tok × Tok × Tok × Tok × Tok × Tok × Tok × Tok × Nat × Nat × (Option (List Code)) × (List Env) × Around × Heap × Heap × Addr × Heap × Shared × Nat
noncomputable abbrev epsQ : epsT → Prop := fun d => epsX.1 d.1 d.2.1 d.2.2.1 d.2.2.2.1 d.2.2.2.2.1 d.2.2.2.2.2.1 d.2.2.2.2.2.2.1 d.2.2.2.2.2.2.2.1 d.2.2.2.2.2.2.2.2.1 d.2.2.2.2.2.2.2.2.2.1 d.2.2.2.2.2.2.2.2.2.2.1 d.2.2.2.2.2.2.2.2.2.2.2.1 d.2.2.2.2.2.2.2.2.2.2.2.2.1 d.2.2.2.2.2.2.2.2.2.2.2.2.2.1 d.2.2.2.2.2.2.2.2.2.2.2.2.2.2.1 d.2.2.2.2.2.2.2.2.2.2.2.2.2.2.2.1 d.2.2.2.2.2.2.2.2.2.2.2.2.2.2.2.2.1 d.2.2.2.2.2.2.2.2.2.2.2.2.2.2.2.2.2.1 d.2.2.2.2.2.2.2.2.2.2.2.2.2.2.2.2.2.2.1 d.2.2.2.2.2.2.2.2.2.2.2.2.2.2.2.2.2.2.2.1 d.2.2.2.2.2.2.2.2.2.2.2.2.2.2.2.2.2.2.2.2.1 d.2.2.2.2.2.2.2.2.2.2.2.2.2.2.2.2.2.2.2.2.2.1 d.2.2.2.2.2.2.2.2.2.2.2.2.2.2.2.2.2.2.2.2.2.2.1 d.2.2.2.2.2.2.2.2.2.2.2.2.2.2.2.2.2.2.2.2.2.2.2.1 d.2.2.2.2.2.2.2.2.2.2.2.2.2.2.2.2.2.2.2.2.2.2.2.2.1 d.2.2.2.2.2.2.2.2.2.2.2.2.2.2.2.2.2.2.2.2.2.2.2.2.2.1 d.2.2.2.2.2.2.2.2.2.2.2.2.2.2.2.2.2.2.2.2.2.2.2.2.2.2.1 d.2.2.2.2.2.2.2.2.2.2.2.2.2.2.2.2.2.2.2.2.2.2.2.2.2.2.2.1 d.2.2.2.2.2.2.2.2.2.2.2.2.2.2.2.2.2.2.2.2.2.2.2.2.2.2.2.2.1 d.2.2.2.2.2.2.2.2.2.2.2.2.2.2.2.2.2.2.2.2.2.2.2.2.2.2.2.2.2.1 d.2.2.2.2.2.2.2.2.2.2.2.2.2.2.2.2.2.2.2.2.2.2.2.2.2.2.2.2.2.2.1 d.2.2.2.2.2.2.2.2.2.2.2.2.2.2.2.2.2.2.2.2.2.2.2.2.2.2.2.2.2.2.2.1 d.2.2.2.2.2.2.2.2.2.2.2.2.2.2.2.2.2.2.2.2.2.2.2.2.2.2.2.2.2.2.2.2.1 d.2.2.2.2.2.2.2.2.2.2.2.2.2.2.2.2.2.2.2.2.2.2.2.2.2.2.2.2.2.2.2.2.2.1 d.2.2.2.2.2.2.2.2.2.2.2.2.2.2.2.2.2.2.2.2.2.2.2.2.2.2.2.2.2.2.2.2.2.2.1 d.2.2.2.2.2.2.2.2.2.2.2.2.2.2.2.2.2.2.2.2.2.2.2.2.2.2.2.2.2.2.2.2.2.2.2.1 d.2.2.2.2.2.2.2.2.2.2.2.2.2.2.2.2.2.2.2.2.2.2.2.2.2.2.2.2.2.2.2.2.2.2.2.2.1 d.2.2.2.2.2.2.2.2.2.2.2.2.2.2.2.2.2.2.2.2.2.2.2.2.2.2.2.2.2.2.2.2.2.2.2.2.2
theorem eN : Nonempty epsT := by walk_at "ne_all"
@[irreducible] noncomputable def eK : epsT := Pk epsT eN epsQ
@[irreducible] noncomputable def d := eK.2.2.2.2.1
@[irreducible] noncomputable def e := eK.2.2.2.2.2.1
@[irreducible] noncomputable def o := eK.2.2.2.2.2.2.1
@[irreducible] noncomputable def oe := eK.2.2.2.2.2.2.2.1
@[irreducible] noncomputable def h := eK.2.2.2.2.2.2.2.2.1
@[irreducible] noncomputable def c := eK.2.2.2.2.2.2.2.2.2.1
@[irreducible] noncomputable def t := eK.2.2.2.2.2.2.2.2.2.2.1
theorem eC : epsX.1 eK.1 eK.2.1 eK.2.2.1 eK.2.2.2.1 d e o oe h c t eK.2.2.2.2.2.2.2.2.2.2.2.1 eK.2.2.2.2.2.2.2.2.2.2.2.2.1 eK.2.2.2.2.2.2.2.2.2.2.2.2.2.1 eK.2.2.2.2.2.2.2.2.2.2.2.2.2.2.1 eK.2.2.2.2.2.2.2.2.2.2.2.2.2.2.2.1 eK.2.2.2.2.2.2.2.2.2.2.2.2.2.2.2.2.1 eK.2.2.2.2.2.2.2.2.2.2.2.2.2.2.2.2.2.1 eK.2.2.2.2.2.2.2.2.2.2.2.2.2.2.2.2.2.2.1 eK.2.2.2.2.2.2.2.2.2.2.2.2.2.2.2.2.2.2.2.1 eK.2.2.2.2.2.2.2.2.2.2.2.2.2.2.2.2.2.2.2.2.1 eK.2.2.2.2.2.2.2.2.2.2.2.2.2.2.2.2.2.2.2.2.2.1 eK.2.2.2.2.2.2.2.2.2.2.2.2.2.2.2.2.2.2.2.2.2.2.1 eK.2.2.2.2.2.2.2.2.2.2.2.2.2.2.2.2.2.2.2.2.2.2.2.1 eK.2.2.2.2.2.2.2.2.2.2.2.2.2.2.2.2.2.2.2.2.2.2.2.2.1 eK.2.2.2.2.2.2.2.2.2.2.2.2.2.2.2.2.2.2.2.2.2.2.2.2.2.1 eK.2.2.2.2.2.2.2.2.2.2.2.2.2.2.2.2.2.2.2.2.2.2.2.2.2.2.1 eK.2.2.2.2.2.2.2.2.2.2.2.2.2.2.2.2.2.2.2.2.2.2.2.2.2.2.2.1 eK.2.2.2.2.2.2.2.2.2.2.2.2.2.2.2.2.2.2.2.2.2.2.2.2.2.2.2.2.1 eK.2.2.2.2.2.2.2.2.2.2.2.2.2.2.2.2.2.2.2.2.2.2.2.2.2.2.2.2.2.1 eK.2.2.2.2.2.2.2.2.2.2.2.2.2.2.2.2.2.2.2.2.2.2.2.2.2.2.2.2.2.2.1 eK.2.2.2.2.2.2.2.2.2.2.2.2.2.2.2.2.2.2.2.2.2.2.2.2.2.2.2.2.2.2.2.1 eK.2.2.2.2.2.2.2.2.2.2.2.2.2.2.2.2.2.2.2.2.2.2.2.2.2.2.2.2.2.2.2.2.1 eK.2.2.2.2.2.2.2.2.2.2.2.2.2.2.2.2.2.2.2.2.2.2.2.2.2.2.2.2.2.2.2.2.2.1 eK.2.2.2.2.2.2.2.2.2.2.2.2.2.2.2.2.2.2.2.2.2.2.2.2.2.2.2.2.2.2.2.2.2.2.1 eK.2.2.2.2.2.2.2.2.2.2.2.2.2.2.2.2.2.2.2.2.2.2.2.2.2.2.2.2.2.2.2.2.2.2.2.1 eK.2.2.2.2.2.2.2.2.2.2.2.2.2.2.2.2.2.2.2.2.2.2.2.2.2.2.2.2.2.2.2.2.2.2.2.2.1 eK.2.2.2.2.2.2.2.2.2.2.2.2.2.2.2.2.2.2.2.2.2.2.2.2.2.2.2.2.2.2.2.2.2.2.2.2.2 := by
  dsimp only [epsX]
  intro hd he lo1 lo2 B F X N T cL cY cS hdp hun
  dsimp only [List.nil_append, List.cons_append] at N
  k_with_none
  k_with "mycall" => ((k_dflt (refine' Spec.use0 (addc_spec d e o oe h c t hd he lo1 lo2) ?uB ?uF ?uX ?uN ?uT ?uk ?u1 ?u2 ?u3 ?ud ?uu ?ue ?uK; (case uB => k_asm); (case uF => k_asm); (case uX => k_asm); (case uN => k_asm); (case uT => k_asm); (case uk => first | exact rfl | assumption); (case u1 => assumption); (case u2 => assumption); (case u3 => assumption); (case ud => ktr_room); (case uu => ktr_units); (case ue => walk_at "sub"); k_whole)); (intro v' mu' new' h' tk' hR' F' N' ap'); (obtain ⟨f2, o2, t2, e1', e2', hd2, lo3, e3'⟩ := hR'); subst e1'; subst e2'; subst e3'; (try dsimp only [List.nil_append, List.cons_append] at N'))
  k_steps
  rename News _ _ _ _ => N'
  rename Fr _ _ _ _ => F'
  show Fin _ _ _ _ _ _ _ _
  refine Fin.intro F' N' [] [(_, statO _ _ _ _ _ _ _ _ _), (f2, o2)] (all_cons.mpr ⟨.head _, fun _ h => .tail _ h⟩) rfl ?_ ⟨_, _, _, _, _, _, _, _, rfl, rfl, hd2, lo3, rfl⟩
  intro p hp q hq
  rcases List.mem_cons.mp hq with rfl | hq
  · simp only [List.nil_append, List.mem_cons, List.not_mem_nil, or_false] at hp
    rcases hp with rfl | rfl | rfl | rfl <;> (show @Ne Nat _ _; k_ne)
  · exact ap' p hp q hq
end stats_spec
theorem stats_spec {w : World} {z : Env0} (T : Nat) (S : Nat) (d : Nat) (e : Nat) (o : Obj) (oe : Obj) (h : Int) (c : Int) (t : Tok) (a : Int) (b : Int) (x : Int) (y : Int) (a' : Int) (b' : Int) (x' : Int) (y' : Int) (ta : Tok) (tb : Tok) (tx : Tok) (ty : Tok) (ta' : Tok) (tb' : Tok) (tx' : Tok) (ty' : Tok) (hd : CalOk w o h c) (he : oe.IsDictOf (IK w) [(h, .int 1 t)]) (lo1 : (d == sysModules) = false) (lo2 : (e == sysModules) = false) : Spec w z 30 80 (.ref 49) [.ref T, .ref S] [] [] [(T, statO a b x y ta tb tx ty d), (S, statO a' b' x' y' ta' tb' tx' ty' e), (d, o), (e, oe)]
   (fun mu' new r => ∃ f f2 o' t ta tb tx ty, mu' = [] ∧ new = [(f, statO (a' + a) (b' + b) (x' + x) (y' + y) ta tb tx ty f2), (f2, o')] ∧ o'.IsDictOf (IK w) [(h, .int (c + 1) t)] ∧ (f2 == sysModules) = false ∧ r = .ref f) := stats_spec.epsX.2 (fun w z T S d e o oe h c t a b x y a' b' x' y' ta tb tx ty ta' tb' tx' ty' dp un gd outer A₀ base g L h₁ s tk => Pk.all (T := stats_spec.epsT) (ne := stats_spec.eN) (Q := stats_spec.epsQ) (by with_unfolding_all exact stats_spec.eC) (w, z, T, S, d, e, o, oe, h, c, t, a, b, x, y, a', b', x', y', ta, tb, tx, ty, ta', tb', tx', ty', dp, un, gd, outer, A₀, base, g, L, h₁, s, tk)) w z T S d e o oe h c t a b x y a' b' x' y' ta tb tx ty ta' tb' tx' ty' hd he lo1 lo2
end
section
noncomputable def plOf (mk : Int) : Nat → List Int
  | 0 => []
  | i + 1 => if Builtin.bitAnd (mk.fdiv (2 ^ (0 + (i : Int)).toNat)) 1 = 0 then plOf mk i else plOf mk i ++ [0 + (i : Int)]
theorem plOf_facts (mk : Int) : ∀ i, (plOf mk i).length ≤ i ∧ ∀ n ∈ plOf mk i, 0 ≤ n ∧ n < (i : Int)
  | 0 => ⟨Nat.le_refl _, fun _ h => by cases h⟩
  | i + 1 => by
    obtain ⟨h1, h2⟩ := plOf_facts mk i
    unfold plOf
    split
    · exact ⟨by omega, fun n hn => by have := h2 n hn; omega⟩
    · refine ⟨by rw [List.length_append, List.length_singleton]; omega, fun n hn => ?_⟩
      rcases List.mem_append.mp hn with h | h
      · have := h2 n h; omega
      · rw [List.mem_singleton.mp h]; omega
theorem pw_bits {e : Int} (h : e ≤ 4) : Builtin.Int.intBits ((2 : Int) ^ e.toNat) ≤ 64 := by
  have h1 : e.toNat = 0 ∨ e.toNat = 1 ∨ e.toNat = 2 ∨ e.toNat = 3 ∨ e.toNat = 4 := by omega
  rcases h1 with h | h | h | h | h <;> rw [h] <;> decide
noncomputable def dueW (s h : Int) : Int := 2 ^ (((plOf s 4).length : Int) - ((plOf h 4).length : Int)).toNat
noncomputable def dueS (s h : Int) : Int := if dueW s h = 1 then 1 - ((plOf s 4).length : Int).fmod 2 * 2 else 0
noncomputable def dueN (s h : Int) : Int := (dueW s h * (((plOf s 4).length + (plOf h 4).length : Nat) : Int)).fdiv 2
noncomputable def dueT (ns : List Int) (s h : Int) : Int := (dueW s h * ((plOf s 4 ++ plOf h 4).map (fun p => ns.getD p.toNat 0)).sum).fdiv 2
namespace due_spec
noncomputable def epsX : { P : World → Env0 → Int → Int → Tok → Tok → Nat → Nat → (List Value) → (List Int) → Nat → Nat → (Option (List Code)) → (List Env) → Around → Heap → Heap → Addr → Heap → Shared → Nat → Obj → Obj → Obj → Prop // (∀ w z shut heads us uh nl ne its ns dp un gd outer A₀ base g L h₁ s tk co0 co1 co2, P w z shut heads us uh nl ne its ns dp un gd outer A₀ base g L h₁ s tk co0 co1 co2) → ∀ (w : World) (z : Env0) (shut : Int) (heads : Int) (us : Tok) (uh : Tok) (nl : Nat) (ne : Nat) (its : List Value) (ns : List Int) (hi : IntsAre its ns) (hlen : ns.length = 4) (hs : 0 ≤ shut ∧ shut < 16) (hh : 0 ≤ heads ∧ heads < 16) (hle : (plOf heads 4).length ≤ (plOf shut 4).length) (hb : ∀ n ∈ ns, 0 ≤ n ∧ n < 1000000000), Spec w z 30 100 (.ref 201) [.int shut us, .int heads uh, .ref nl] [] [] [(nl, W.listOf its.toArray ne)] (fun mu' new r => ∃ f f2 o' t ta tb tx ty, mu' = [] ∧ new = [(f, statO (dueW shut heads) (dueS shut heads) (dueN shut heads) (dueT ns shut heads) ta tb tx ty f2), (f2, o')] ∧ o'.IsDictOf (IK w) [(heads, .int (dueW shut heads) t)] ∧ (f2 == sysModules) = false ∧ r = .ref f) } := ⟨_, by
  intro h_eps w z shut heads us uh nl ne its ns hi hlen hs hh hle hb
  (k_dflt (refine' spec_defC (binds := [(Str.ofString "shut", .int shut us), (Str.ofString "heads", .int heads uh), (Str.ofString "numbers", .ref nl)]) ?ho ?hcd ?hb ?hl ?hn ?h ?c2 ?c3 ?c4; (case ho => k_is); (case hcd => k_is); (case hb => intro s' X'; first | exact BindsTo.of_eq rfl | exact binds_K X' rfl (by k_is) rfl rfl rfl); (case hl => exact rfl); (case hn => decide +kernel); (case c2 => exact rfl); (case c3 => exact rfl); (case c4 => exact rfl)); (intro dp un gd outer A₀ base g L h₁ s tk cells B F X N Y T C hdp hun l1; obtain ⟨cL, cY, cS⟩ := C; (try dsimp only [List.nil_append, List.cons_append] at l1); (try k_lt l1); (revert N; refine celim3 Y ?_; intro co0 co1 co2 cd0 cd1 cd2 N); clear Y; replace cd0 : co0.data = Data.cell (some (.ref nl)) := cd0; replace cd1 : co1.data = Data.cell (some (.int heads uh)) := cd1; replace cd2 : co2.data = Data.cell (some (.int shut us)) := cd2; replace F : Fr g L h₁ (kstB (fun _ => none) []) := F; (try dsimp only [List.nil_append, List.cons_append] at N)))
  revert cd2; revert cd1; revert cd0; revert l1; revert hun; revert hdp; revert cS; revert cY; revert cL; revert T; revert N; revert X; revert F; revert B; revert hb; revert hle; revert hh; revert hs; revert hlen; revert hi
  exact h_eps w z shut heads us uh nl ne its ns dp un gd outer A₀ base g L h₁ s tk co0 co1 co2⟩
noncomputable abbrev epsT : Type := World × Env0 × Int × Int × Tok × Tok × Nat × Nat × (List Value) × (List Int) × Nat × Nat × (Option (List Code)) × (List Env) × Around × Heap × Heap × Addr × Heap × Shared × Nat × Obj × Obj × Obj
noncomputable abbrev epsQ : epsT → Prop := fun d => epsX.1 d.1 d.2.1 d.2.2.1 d.2.2.2.1 d.2.2.2.2.1 d.2.2.2.2.2.1 d.2.2.2.2.2.2.1 d.2.2.2.2.2.2.2.1 d.2.2.2.2.2.2.2.2.1 d.2.2.2.2.2.2.2.2.2.1 d.2.2.2.2.2.2.2.2.2.2.1 d.2.2.2.2.2.2.2.2.2.2.2.1 d.2.2.2.2.2.2.2.2.2.2.2.2.1 d.2.2.2.2.2.2.2.2.2.2.2.2.2.1 d.2.2.2.2.2.2.2.2.2.2.2.2.2.2.1 d.2.2.2.2.2.2.2.2.2.2.2.2.2.2.2.1 d.2.2.2.2.2.2.2.2.2.2.2.2.2.2.2.2.1 d.2.2.2.2.2.2.2.2.2.2.2.2.2.2.2.2.2.1 d.2.2.2.2.2.2.2.2.2.2.2.2.2.2.2.2.2.2.1 d.2.2.2.2.2.2.2.2.2.2.2.2.2.2.2.2.2.2.2.1 d.2.2.2.2.2.2.2.2.2.2.2.2.2.2.2.2.2.2.2.2.1 d.2.2.2.2.2.2.2.2.2.2.2.2.2.2.2.2.2.2.2.2.2.1 d.2.2.2.2.2.2.2.2.2.2.2.2.2.2.2.2.2.2.2.2.2.2.1 d.2.2.2.2.2.2.2.2.2.2.2.2.2.2.2.2.2.2.2.2.2.2.2
theorem eN : Nonempty epsT := by walk_at "ne_all"
@[irreducible] noncomputable def eK : epsT := Pk epsT eN epsQ
@[irreducible] noncomputable def shut := eK.2.2.1
@[irreducible] noncomputable def heads := eK.2.2.2.1
@[irreducible] noncomputable def ne := eK.2.2.2.2.2.2.2.1
@[irreducible] noncomputable def ns := eK.2.2.2.2.2.2.2.2.2.1
@[irreducible] noncomputable def g := eK.2.2.2.2.2.2.2.2.2.2.2.2.2.2.2.2.1
@[irreducible] noncomputable def L := eK.2.2.2.2.2.2.2.2.2.2.2.2.2.2.2.2.2.1
@[irreducible] noncomputable def tk := eK.2.2.2.2.2.2.2.2.2.2.2.2.2.2.2.2.2.2.2.2.1
theorem eC : epsX.1 eK.1 eK.2.1 shut heads eK.2.2.2.2.1 eK.2.2.2.2.2.1 eK.2.2.2.2.2.2.1 ne eK.2.2.2.2.2.2.2.2.1 ns eK.2.2.2.2.2.2.2.2.2.2.1 eK.2.2.2.2.2.2.2.2.2.2.2.1 eK.2.2.2.2.2.2.2.2.2.2.2.2.1 eK.2.2.2.2.2.2.2.2.2.2.2.2.2.1 eK.2.2.2.2.2.2.2.2.2.2.2.2.2.2.1 eK.2.2.2.2.2.2.2.2.2.2.2.2.2.2.2.1 g L eK.2.2.2.2.2.2.2.2.2.2.2.2.2.2.2.2.2.2.1 eK.2.2.2.2.2.2.2.2.2.2.2.2.2.2.2.2.2.2.2.1 tk eK.2.2.2.2.2.2.2.2.2.2.2.2.2.2.2.2.2.2.2.2.2.1 eK.2.2.2.2.2.2.2.2.2.2.2.2.2.2.2.2.2.2.2.2.2.2.1 eK.2.2.2.2.2.2.2.2.2.2.2.2.2.2.2.2.2.2.2.2.2.2.2 := by
  dsimp only [epsX]
  intro hi hlen hs hh hle hb B F X N T cL cY cS hdp hun l1 cd0 cd1 cd2
  obtain ⟨hs0, hs1⟩ := hs
  obtain ⟨hh0, hh1⟩ := hh
  have hlv := hi.length
  k_with_none
  k_with "exec Assign cons ListComp" => (refine Stop.go ?_)
  k_with "eval Dict" => ((k_dflt (refine' kdn_eval (knd := PySem.intKind _ _) ?F ?N ?b ?a ?l ?e ?n ?_; (case F => k_asm); (case N => k_asm); (case b => exact Top.nolimit (by k_asm)); (case a => rfl); (case l => rfl); (case e => exact List.cons_ne_nil _ _); (case n => exact Nat.le_of_ble_eq_true rfl))); intro d' h' o' F' N' l1 lo' hd'; (try k_lt l1))
  k_with "eval ListComp" => (refine Stop.go ?_)
  k_with "pyIter ref" => ((with_reducible show wpAny _ _ (pyIter (Value.ref _)) _ _ _); refine Stop.go ?_)
  k_steps
  refine Stop.mk ?_
  k_dflt (refine gc_assign (by k_asm) (by rfl) (by with_unfolding_all rfl) (by with_unfolding_all rfl) (by rfl) (by decide) (by rfl) (by rfl) ?_)
  k_steps
  refine Stop.mk ?_
  rename Fr _ _ _ _ => F1
  rename News _ _ _ _ => N1
  rename IsRange _ _ _ _ _ _ _ _ => rg
  refine gck_range1 (fun jj ys => IntsAre ys (plOf (shut) jj)) rg (by decide) (n := 4) (by rfl) (by decide) F1 N1 .nil (by rfl) (by decide) (by rfl) (by rfl) ?ta ?fa
  case ta =>
    intro I2 jj ys lI2 hltj hJ m₂ t2 C oC D oI h tk E' hx hC F N off ne
    clear F1 N1 rg
    k_steps
    · rename News _ _ _ _ => N'
      rename Fr _ _ _ _ => F'
      refine GcK.intro F' N' (fun _ h => h) ?_
      unfold plOf
      rw [if_neg (by assumption)]
      exact IntsAre.append hJ (.cons _ _ .nil)
    · rename News _ _ _ _ => N'
      rename Fr _ _ _ _ => F'
      refine GcK.intro F' N' (fun _ h => h) ?_
      unfold plOf
      rw [if_pos (by assumption)]
      exact hJ
  case fa =>
    intro ysa ga hJa Da ha tka Fa Na oa'
    clear F1 N1 rg
    replace Na := (show News g _ ha ((Da, W.listOf ysa.toArray ysa.length) :: _) from Na)
    k_steps
    refine Stop.mk ?_
    k_dflt (refine gc_assign (by k_asm) (by rfl) (by with_unfolding_all rfl) (by with_unfolding_all rfl) (by rfl) (by decide) (by rfl) (by rfl) ?_)
    k_steps
    refine Stop.mk ?_
    rename Fr _ _ _ _ => F1
    rename News _ _ _ _ => N1
    rename IsRange _ _ _ _ _ _ _ _ => rg
    refine gck_range1 (fun jj ys => IntsAre ys (plOf (heads) jj)) rg (by decide) (n := 4) (by rfl) (by decide) F1 N1 .nil (by rfl) (by decide) (by rfl) (by rfl) ?tb ?fb
    case tb =>
      intro I2 jj ys lI2 hltj hJ m₂ t2 C oC D oI h tk E' hx hC F N off ne
      clear F1 N1 rg
      k_steps
      · rename News _ _ _ _ => N'
        rename Fr _ _ _ _ => F'
        refine GcK.intro F' N' (fun _ h => h) ?_
        unfold plOf
        rw [if_neg (by assumption)]
        exact IntsAre.append hJ (.cons _ _ .nil)
      · rename News _ _ _ _ => N'
        rename Fr _ _ _ _ => F'
        refine GcK.intro F' N' (fun _ h => h) ?_
        unfold plOf
        rw [if_pos (by assumption)]
        exact hJ
    case fb =>
      intro ysb gb hJb Db hb tkb Fb Nb ob'
      clear F1 N1 rg
      replace Nb := (show News g _ hb ((Db, W.listOf ysb.toArray ysb.length) :: _) from Nb)
      have p1 := plOf_facts shut 4
      have p2 := plOf_facts heads 4
      have l1' := hJa.length
      have l2' := hJb.length
      have hpl : ∀ k ∈ plOf shut 4 ++ plOf heads 4, 0 ≤ k ∧ k < (4 : Int) := fun k hk => by
        rcases List.mem_append.mp hk with h | h
        · exact p1.2 k h
        · exact p2.2 k h
      have hw : Builtin.Int.intBits ((2 : Int) ^ (((plOf shut 4).length : Int) - ((plOf heads 4).length : Int)).toNat) ≤ 64 := pw_bits (by omega)
      k_steps
      all_goals
        refine Stop.mk ?_
        k_dflt (refine gc_eval (by k_asm) (by with_unfolding_all rfl) (by rfl) (by decide) ?_)
        k_steps
        refine Stop.mk ?_
        rename Fr _ _ _ _ => F1
        rename News _ _ _ _ => N1
        rename IntsAre _ (_ ++ _) => iAB
        refine gck_list0 (fun i ys => IntsAre ys (((plOf shut 4 ++ plOf heads 4).take i).map (fun p => ns.getD p.toNat 0))) iAB (by k_dflt k_mem) (by rw [List.length_append]; omega) F1 N1 .nil (by rfl) (by decide) (by rfl) (by rfl) ?t3 ?f3
        case t3 =>
          intro I2 j ys k lI2 hk hJ2 m₂ t C oC D' oI h2 tk2 E' hx hC F2 N2 off ne
          clear F1 N1
          obtain ⟨b0, b1⟩ := hpl k (List.mem_of_getElem? hk)
          have b2 : k < (ns.length : Int) := by omega
          k_steps
          rename News _ _ _ _ => N'
          rename Fr _ _ _ _ => F'
          exact GcK.intro F' N' (fun _ h => h) (by rw [take_step _ hk]; exact IntsAre.append hJ2 (.cons _ _ .nil))
        case f3 =>
          intro ys2 g2 hJ2 D2 h2 tk2 F2 N2 o2'
          rw [List.take_length] at hJ2
          clear F1 N1
          replace N2 := (show News g _ h2 ((D2, W.listOf ys2.toArray ys2.length) :: _) from N2)
          k_steps
          rename News _ _ _ _ => N'
          rename Fr _ _ _ _ => F'
          rename Obj.IsDictOf _ _ (intKeyPairs _) => hr
          obtain ⟨S, hS, e⟩ : ∃ S, News g L _ ((_, statO _ S _ _ _ _ _ _ _) :: _) ∧ S = dueS shut heads := ⟨_, N', by first | exact (if_pos (by assumption)).symm | exact (if_neg (by assumption)).symm⟩
          show Fin _ _ _ _ _ _ _ _
          refine Fin.intro F' hS [] [(_, statO _ _ _ _ _ _ _ _ _), (_, _)] (all_cons.mpr ⟨.head _, all_cons.mpr ⟨.tail _ (.head _), all_cons.mpr ⟨by k_mem, all_nil⟩⟩⟩) rfl ?_ ⟨_, _, _, _, _, _, _, _, rfl, by rw [← e]; rfl, hr, by assumption, rfl⟩
          intro p hp q hq
          simp only [List.nil_append, List.mem_cons, List.not_mem_nil, or_false] at hp hq
          rcases hp with rfl
          rcases hq with rfl | rfl <;> (show @Ne Nat _ _; k_ne)
end due_spec
theorem due_spec {w : World} {z : Env0} (shut : Int) (heads : Int) (us : Tok) (uh : Tok) (nl : Nat) (ne : Nat) (its : List Value) (ns : List Int) (hi : IntsAre its ns) (hlen : ns.length = 4) (hs : 0 ≤ shut ∧ shut < 16) (hh : 0 ≤ heads ∧ heads < 16) (hle : (plOf heads 4).length ≤ (plOf shut 4).length) (hb : ∀ n ∈ ns, 0 ≤ n ∧ n < 1000000000) : Spec w z 30 100 (.ref 201) [.int shut us, .int heads uh, .ref nl] [] [] [(nl, W.listOf its.toArray ne)] (fun mu' new r => ∃ f f2 o' t ta tb tx ty, mu' = [] ∧ new = [(f, statO (dueW shut heads) (dueS shut heads) (dueN shut heads) (dueT ns shut heads) ta tb tx ty f2), (f2, o')] ∧ o'.IsDictOf (IK w) [(heads, .int (dueW shut heads) t)] ∧ (f2 == sysModules) = false ∧ r = .ref f) := due_spec.epsX.2 (fun w z shut heads us uh nl ne its ns dp un gd outer A₀ base g L h₁ s tk co0 co1 co2 => Pk.all (T := due_spec.epsT) (ne := due_spec.eN) (Q := due_spec.epsQ) (by with_unfolding_all exact due_spec.eC) (w, z, shut, heads, us, uh, nl, ne, its, ns, dp, un, gd, outer, A₀, base, g, L, h₁, s, tk, co0, co1, co2)) w z shut heads us uh nl ne its ns hi hlen hs hh hle hb
end
section
noncomputable def moreAt (shut : Int) (i : Nat) : Int := Builtin.bitXor shut (1 * 2 ^ (0 + (i : Int)).toNat)
noncomputable def moreOf (shut : Int) : List Int := (List.range 4).map (moreAt shut)
noncomputable def nextP (cs : List Int) (shut : Int) (m : Int) : Bool := decide (shut < m) && decide (cs.getD m.toNat 0 = m)
noncomputable def nextOf (cs : List Int) (shut : Int) : List Int := (moreOf shut).filter (nextP cs shut)
theorem more_range : ∀ s : _root_.Fin 16, ∀ i : _root_.Fin 4, 0 ≤ moreAt (s.val : Int) i.val ∧ moreAt (s.val : Int) i.val < (16 : Int) := by decide +kernel
theorem more_mem {shut : Int} (h : 0 ≤ shut ∧ shut < 16) {m : Int} (hm : m ∈ moreOf shut) : 0 ≤ m ∧ m < 16 := by
  obtain ⟨i, hi, rfl⟩ := List.mem_map.mp hm
  have := more_range ⟨shut.toNat, by omega⟩ ⟨i, List.mem_range.mp hi⟩
  simpa [Int.toNat_of_nonneg h.1] using this
theorem filter_step {α : Type} {l : List α} {i : Nat} {k : α} (f : α → Bool) (h : l[i]? = some k) : (l.take (i + 1)).filter f = (l.take i).filter f ++ (if f k = true then [k] else []) := by
  rw [List.take_add_one, h, List.filter_append]
  congr 1
  show List.filter f [k] = _
  rw [List.filter_cons, List.filter_nil]
namespace next_spec
noncomputable def epsX : { P : World → Env0 → Int → Tok → Nat → Nat → (List Value) → (List Int) → Nat → Nat → (Option (List Code)) → (List Env) → Around → Heap → Heap → Addr → Heap → Shared → Nat → Obj → Obj → Prop // (∀ w z shut us cl ce ci cs dp un gd outer A₀ base g L h₁ s tk co0 co1, P w z shut us cl ce ci cs dp un gd outer A₀ base g L h₁ s tk co0 co1) → ∀ (w : World) (z : Env0) (shut : Int) (us : Tok) (cl : Nat) (ce : Nat) (ci : List Value) (cs : List Int) (hi : IntsAre ci cs) (hlen : cs.length = 16) (hs : 0 ≤ shut ∧ shut < 16), Spec w z 30 100 (.ref 206) [.int shut us, .ref cl] [] [] [(cl, W.listOf ci.toArray ce)] (fun mu' new v => ∃ f its' e', mu' = [] ∧ new = [(f, W.listOf its'.toArray e')] ∧ IntsAre its' (nextOf cs shut) ∧ v = .ref f) } := ⟨_, by
  intro h_eps w z shut us cl ce ci cs hi hlen hs
  (k_dflt (refine' spec_defC (binds := [(Str.ofString "shut", .int shut us), (Str.ofString "closed", .ref cl)]) ?ho ?hcd ?hb ?hl ?hn ?h ?c2 ?c3 ?c4; (case ho => k_is); (case hcd => k_is); (case hb => intro s' X'; first | exact BindsTo.of_eq rfl | exact binds_K X' rfl (by k_is) rfl rfl rfl); (case hl => exact rfl); (case hn => decide +kernel); (case c2 => exact rfl); (case c3 => exact rfl); (case c4 => exact rfl)); (intro dp un gd outer A₀ base g L h₁ s tk cells B F X N Y T C hdp hun l1; obtain ⟨cL, cY, cS⟩ := C; (try dsimp only [List.nil_append, List.cons_append] at l1); (try k_lt l1); (revert N; refine celim2 Y ?_; intro co0 co1 cd0 cd1 N); clear Y; replace cd0 : co0.data = Data.cell (some (.ref cl)) := cd0; replace cd1 : co1.data = Data.cell (some (.int shut us)) := cd1; replace F : Fr g L h₁ (kstB (fun _ => none) []) := F; (try dsimp only [List.nil_append, List.cons_append] at N)))
  revert cd1; revert cd0; revert l1; revert hun; revert hdp; revert cS; revert cY; revert cL; revert T; revert N; revert X; revert F; revert B; revert hs; revert hlen; revert hi
  exact h_eps w z shut us cl ce ci cs dp un gd outer A₀ base g L h₁ s tk co0 co1⟩
noncomputable abbrev epsT : Type := World × Env0 × Int × Tok × Nat × Nat × (List Value) × (List Int) × Nat × Nat × (Option (List Code)) × (List Env) × Around × Heap × Heap × Addr × Heap × Shared × Nat × Obj × Obj
noncomputable abbrev epsQ : epsT → Prop := fun d => epsX.1 d.1 d.2.1 d.2.2.1 d.2.2.2.1 d.2.2.2.2.1 d.2.2.2.2.2.1 d.2.2.2.2.2.2.1 d.2.2.2.2.2.2.2.1 d.2.2.2.2.2.2.2.2.1 d.2.2.2.2.2.2.2.2.2.1 d.2.2.2.2.2.2.2.2.2.2.1 d.2.2.2.2.2.2.2.2.2.2.2.1 d.2.2.2.2.2.2.2.2.2.2.2.2.1 d.2.2.2.2.2.2.2.2.2.2.2.2.2.1 d.2.2.2.2.2.2.2.2.2.2.2.2.2.2.1 d.2.2.2.2.2.2.2.2.2.2.2.2.2.2.2.1 d.2.2.2.2.2.2.2.2.2.2.2.2.2.2.2.2.1 d.2.2.2.2.2.2.2.2.2.2.2.2.2.2.2.2.2.1 d.2.2.2.2.2.2.2.2.2.2.2.2.2.2.2.2.2.2.1 d.2.2.2.2.2.2.2.2.2.2.2.2.2.2.2.2.2.2.2.1 d.2.2.2.2.2.2.2.2.2.2.2.2.2.2.2.2.2.2.2.2
theorem eN : Nonempty epsT := by walk_at "ne_all"
@[irreducible] noncomputable def eK : epsT := Pk epsT eN epsQ
@[irreducible] noncomputable def shut := eK.2.2.1
@[irreducible] noncomputable def cs := eK.2.2.2.2.2.2.2.1
@[irreducible] noncomputable def g := eK.2.2.2.2.2.2.2.2.2.2.2.2.2.2.1
@[irreducible] noncomputable def tk := eK.2.2.2.2.2.2.2.2.2.2.2.2.2.2.2.2.2.2.1
theorem eC : epsX.1 eK.1 eK.2.1 shut eK.2.2.2.1 eK.2.2.2.2.1 eK.2.2.2.2.2.1 eK.2.2.2.2.2.2.1 cs eK.2.2.2.2.2.2.2.2.1 eK.2.2.2.2.2.2.2.2.2.1 eK.2.2.2.2.2.2.2.2.2.2.1 eK.2.2.2.2.2.2.2.2.2.2.2.1 eK.2.2.2.2.2.2.2.2.2.2.2.2.1 eK.2.2.2.2.2.2.2.2.2.2.2.2.2.1 g eK.2.2.2.2.2.2.2.2.2.2.2.2.2.2.2.1 eK.2.2.2.2.2.2.2.2.2.2.2.2.2.2.2.2.1 eK.2.2.2.2.2.2.2.2.2.2.2.2.2.2.2.2.2.1 tk eK.2.2.2.2.2.2.2.2.2.2.2.2.2.2.2.2.2.2.2.1 eK.2.2.2.2.2.2.2.2.2.2.2.2.2.2.2.2.2.2.2.2 := by
  dsimp only [epsX]
  intro hi hlen hs B F X N T cL cY cS hdp hun l1 cd0 cd1
  have hlv := hi.length
  k_with_none
  k_with "exec Assign cons ListComp" => (refine Stop.go ?_)
  k_with "eval ListComp" => (refine Stop.go ?_)
  k_with "pyIter ref" => ((with_reducible show wpAny _ _ (pyIter (Value.ref _)) _ _ _); refine Stop.go ?_)
  k_steps
  refine Stop.mk ?_
  k_dflt (refine gc_assign (by k_asm) (by rfl) (by with_unfolding_all rfl) (by with_unfolding_all rfl) (by rfl) (by decide) (by rfl) (by rfl) ?_)
  k_steps
  refine Stop.mk ?_
  rename Fr _ _ _ _ => F1
  rename News _ _ _ _ => N1
  rename IsRange _ _ _ _ _ _ _ _ => rg
  refine gck_range0 (fun i ys => IntsAre ys ((List.range i).map (moreAt shut))) rg (by decide) (n := 4) (by rfl) (by decide) F1 N1 .nil (by rfl) (by decide) (by rfl) (by rfl) ?t1 ?f1
  case t1 =>
    intro I i ys lI hlt hJ m₂ t C oC D oI h tk E' hx hC F N off ne
    clear F1 N1 rg
    k_steps
    rename News _ _ _ _ => N'
    rename Fr _ _ _ _ => F'
    exact GcK.intro F' N' (fun _ h => h) (by rw [List.range_succ, List.map_append]; exact IntsAre.append hJ (.cons _ _ .nil))
  case f1 =>
    intro ysa ga hJa Da ha tka Fa Na oa'
    clear F1 N1 rg
    replace Na := (show News g _ ha ((Da, W.listOf ysa.toArray ysa.length) :: _) from Na)
    k_steps
    refine Stop.mk ?_
    k_dflt (refine gc_eval (by k_asm) (by with_unfolding_all rfl) (by rfl) (by decide) ?_)
    k_steps
    refine Stop.mk ?_
    rename Fr _ _ _ _ => F1
    rename News _ _ _ _ => N1
    refine gck_list1 (fun i ys => IntsAre ys (((moreOf shut).take i).filter (nextP cs shut))) (ns := moreOf shut) hJa (by k_dflt k_mem) (by rw [moreOf, List.length_map, List.length_range]; decide) F1 N1 .nil (by rfl) (by decide) (by rfl) (by rfl) ?t2 ?f2
    case t2 =>
      intro I2 j ys k lI2 hk hJ2 m₂ t C oC D' oI h2 tk2 E' hx hC F2 N2 off ne
      clear F1 N1
      obtain ⟨b0, b1⟩ := more_mem hs (List.mem_of_getElem? hk)
      have b2 : k < (cs.length : Int) := by omega
      k_steps
      all_goals (rename News _ _ _ _ => N'; rename Fr _ _ _ _ => F'; refine GcK.intro F' N' (fun _ h => h) ?_; rw [filter_step _ hk])
      · rw [if_pos (by unfold nextP; rw [decide_eq_true (p := shut < k) (by assumption), decide_eq_true (p := cs.getD k.toNat 0 = k) (by assumption)]; rfl)]
        exact IntsAre.append hJ2 (.cons _ _ .nil)
      · rw [if_neg (by unfold nextP; rw [decide_eq_false (p := cs.getD k.toNat 0 = k) (by assumption), Bool.and_false]; exact Bool.false_ne_true), List.append_nil]
        exact hJ2
      · rw [if_neg (by unfold nextP; rw [decide_eq_false (p := shut < k) (by assumption), Bool.false_and]; exact Bool.false_ne_true), List.append_nil]
        exact hJ2
    case f2 =>
      intro ys2 g2 hJ2 D2 h2 tk2 F2 N2 o2'
      rw [List.take_length] at hJ2
      clear F1 N1
      replace N2 := (show News g _ h2 ((D2, W.listOf ys2.toArray ys2.length) :: _) from N2)
      k_steps
      rename News _ _ _ _ => N'
      rename Fr _ _ _ _ => F'
      show Fin _ _ _ _ _ _ _ _
      refine Fin.intro F' N' [] [(_, W.listOf _ _)] (all_cons.mpr ⟨.head _, all_cons.mpr ⟨by k_mem, all_nil⟩⟩) rfl ?_ ⟨_, _, _, rfl, rfl, hJ2, rfl⟩
      intro p hp q hq
      simp only [List.nil_append, List.mem_cons, List.not_mem_nil, or_false] at hp hq
      rcases hp with rfl
      rcases hq with rfl
      exact o2'.2.2.2.1
end next_spec
theorem next_spec {w : World} {z : Env0} (shut : Int) (us : Tok) (cl : Nat) (ce : Nat) (ci : List Value) (cs : List Int) (hi : IntsAre ci cs) (hlen : cs.length = 16) (hs : 0 ≤ shut ∧ shut < 16) : Spec w z 30 100 (.ref 206) [.int shut us, .ref cl] [] [] [(cl, W.listOf ci.toArray ce)] (fun mu' new v => ∃ f its' e', mu' = [] ∧ new = [(f, W.listOf its'.toArray e')] ∧ IntsAre its' (nextOf cs shut) ∧ v = .ref f) := next_spec.epsX.2 (fun w z shut us cl ce ci cs dp un gd outer A₀ base g L h₁ s tk co0 co1 => Pk.all (T := next_spec.epsT) (ne := next_spec.eN) (Q := next_spec.epsQ) (by with_unfolding_all exact next_spec.eC) (w, z, shut, us, cl, ce, ci, cs, dp, un, gd, outer, A₀, base, g, L, h₁, s, tk, co0, co1)) w z shut us cl ce ci cs hi hlen hs
end
section
structure PE where
  key : Int
  ta : Nat
  da : Nat
  a : Int
  b : Int
  x : Int
  y : Int
  t1 : Tok
  t2 : Tok
  t3 : Tok
  t4 : Tok
  od : Obj
noncomputable abbrev PE.led (e : PE) : Led := [(e.ta, statO e.a e.b e.x e.y e.t1 e.t2 e.t3 e.t4 e.da), (e.da, e.od)]
structure PE.Ok (w : World) (ts : List Int) (e : PE) : Prop where
  dict : ∃ t, e.od.IsDictOf (IK w) [(ts.getD e.key.toNat 0, .int e.a t)]
  lo : (e.da == sysModules) = false
noncomputable def kvsOf (es : List PE) : List (Int × Value) := es.map fun e => (e.key, Value.ref e.ta)
noncomputable def ledOf (es : List PE) : Led := es.flatMap PE.led
noncomputable def putE (es : List PE) (e : PE) : List PE := if es.any (fun q => decide (q.key = e.key)) then es.map (fun q => if q.key = e.key then e else q) else es ++ [e]
noncomputable abbrev P4 := Int × Int × Int × Int
noncomputable def PE.row (e : PE) : Int × P4 := (e.key, e.a, e.b, e.x, e.y)
noncomputable def pGet (p : List (Int × P4)) (k : Int) : P4 := ((p.find? fun q => decide (q.1 = k)).map (·.2)).getD (0, 0, 0, 0)
noncomputable def pPut (p : List (Int × P4)) (k : Int) (v : P4) : List (Int × P4) := if p.any (fun q => decide (q.1 = k)) then p.map (fun q => if q.1 = k then (k, v) else q) else p ++ [(k, v)]
noncomputable def entAt (ns : List Int) (i : Nat) : P4 := (1, 1 - ((plOf (0 + (i : Int)) 4).length : Int).fmod 2 * 2, ((plOf (0 + (i : Int)) 4).length : Int), ((plOf (0 + (i : Int)) 4).map (fun p => ns.getD p.toNat 0)).sum)
noncomputable def add4 (u v : P4) : P4 := (u.1 + v.1, u.2.1 + v.2.1, u.2.2.1 + v.2.2.1, u.2.2.2 + v.2.2.2)
noncomputable def profOf (cs ns : List Int) : Nat → List (Int × P4)
  | 0 => []
  | i + 1 => pPut (profOf cs ns i) (cs.getD (0 + (i : Int)).toNat 0) (add4 (entAt ns i) (pGet (profOf cs ns i) (cs.getD (0 + (i : Int)).toNat 0)))
theorem stored_kvs (es : List PE) (e : PE) : stored (kvsOf es) e.key (.ref e.ta) = kvsOf (putE es e) := by
  unfold stored kvsOf putE
  rw [List.any_map]
  by_cases h : es.any (fun q => decide (q.key = e.key)) = true
  · rw [if_pos h, if_pos (by simpa [Function.comp_def] using h), List.map_map, List.map_map]
    refine List.map_congr_left fun q _ => ?_
    by_cases hq : q.key = e.key
    · simp [hq]
    · simp [hq]
  · rw [if_neg h, if_neg (by simpa [Function.comp_def] using h), List.map_append]; rfl
theorem row_put (es : List PE) (e : PE) : (putE es e).map PE.row = pPut (es.map PE.row) e.key (e.a, e.b, e.x, e.y) := by
  unfold putE pPut
  have e1 : ((fun q : Int × P4 => decide (q.1 = e.key)) ∘ PE.row) = fun q => decide (q.key = e.key) := rfl
  rw [List.any_map, e1]
  by_cases h : es.any (fun q => decide (q.key = e.key)) = true
  · rw [if_pos h, if_pos h, List.map_map, List.map_map]
    refine List.map_congr_left fun q _ => ?_
    by_cases hq : q.key = e.key
    · simp [hq, PE.row]
    · simp [hq, PE.row]
  · rw [if_neg h, if_neg h, List.map_append]; rfl
theorem ledOf_put (es : List PE) (e : PE) : ∀ p ∈ ledOf (putE es e), p ∈ e.led ∨ p ∈ ledOf es := by
  intro p hp
  obtain ⟨q, hq, hpq⟩ := List.mem_flatMap.mp hp
  unfold putE at hq
  split at hq
  · obtain ⟨r, hr, e1⟩ := List.mem_map.mp hq
    split at e1
    · subst e1; exact Or.inl hpq
    · subst e1; exact Or.inr (List.mem_flatMap.mpr ⟨r, hr, hpq⟩)
  · rcases List.mem_append.mp hq with h | h
    · exact Or.inr (List.mem_flatMap.mpr ⟨q, h, hpq⟩)
    · rw [List.mem_singleton.mp h] at hpq; exact Or.inl hpq
theorem putE_mem (es : List PE) (e : PE) : ∀ q ∈ putE es e, q = e ∨ q ∈ es := by
  intro q hq
  unfold putE at hq
  split at hq
  · obtain ⟨r, hr, e1⟩ := List.mem_map.mp hq
    split at e1
    · exact Or.inl e1.symm
    · subst e1; exact Or.inr hr
  · rcases List.mem_append.mp hq with h | h
    · exact Or.inr h
    · exact Or.inl (List.mem_singleton.mp h)
theorem putE_len (es : List PE) (e : PE) : (putE es e).length ≤ es.length + 1 := by
  unfold putE
  split
  · rw [List.length_map]; exact Nat.le_succ _
  · rw [List.length_append, List.length_singleton]; exact Nat.le_refl _
theorem look_kvs {es : List PE} {k : Int} (q : Option PE) (h : es.find? (fun e => decide (e.key = k)) = q) : valueAt (kvsOf es) k = q.map (fun e => Value.ref e.ta) ∧ pGet (es.map PE.row) k = (q.map fun e => (e.a, e.b, e.x, e.y)).getD (0, 0, 0, 0) := by
  unfold valueAt kvsOf pGet
  rw [List.find?_map, List.find?_map]
  have e1 : ((fun kv : Int × Value => decide (kv.1 = k)) ∘ fun e : PE => (e.key, Value.ref e.ta)) = fun e => decide (e.key = k) := rfl
  have e2 : ((fun q : Int × P4 => decide (q.1 = k)) ∘ PE.row) = fun e => decide (e.key = k) := rfl
  rw [e1, e2, h]
  cases q <;> exact ⟨rfl, rfl⟩
theorem pick_entry {w : World} {ts : List Int} {h₀ h : Heap} {L : Addr} {all : Led} {es : List PE} {q : Option PE} {k H : Int} {D' de : Nat} {deo : Obj} {u1 u2 u3 u4 : Tok} (N : News h₀ L h all) (hr : ∀ p ∈ ledOf es, p ∈ all) (mD : (D', statO 0 0 0 0 u1 u2 u3 u4 de) ∈ all) (mde : (de, deo) ∈ all)
    (hde : deo.IsDictOf (IK w) []) (lde : (de == sysModules) = false) (ok : ∀ e ∈ es, e.Ok w ts) (hq : es.find? (fun e => decide (e.key = k)) = q) (hH : ts.getD k.toNat 0 = H) :
    ∃ (T d : Nat) (od : Obj) (a b x y : Int) (ta tb tx ty : Tok), (q.map fun e => Value.ref e.ta).getD (.ref D') = .ref T ∧ News h₀ L h ((T, statO a b x y ta tb tx ty d) :: (d, od) :: all) ∧ CalOk w od H a ∧ (d == sysModules) = false ∧ (q.map fun e => (e.a, e.b, e.x, e.y)).getD (0, 0, 0, 0) = (a, b, x, y) := by
  cases q with
  | none => exact ⟨D', de, deo, 0, 0, 0, 0, u1, u2, u3, u4, rfl, sub_news N (all_cons.mpr ⟨mD, all_cons.mpr ⟨mde, fun _ h => h⟩⟩), Or.inl ⟨hde, rfl⟩, lde, rfl⟩
  | some e =>
    have he : e ∈ es := List.mem_of_find?_eq_some hq
    have hk : e.key = k := of_decide_eq_true (p := e.key = k) (List.find?_some (p := fun e : PE => decide (e.key = k)) hq)
    obtain ⟨t, hd⟩ := (ok e he).dict
    rw [hk, hH] at hd
    exact ⟨e.ta, e.da, e.od, e.a, e.b, e.x, e.y, e.t1, e.t2, e.t3, e.t4, rfl, sub_news N (all_cons.mpr ⟨hr _ (List.mem_flatMap.mpr ⟨e, he, .head _⟩), all_cons.mpr ⟨hr _ (List.mem_flatMap.mpr ⟨e, he, .tail _ (.head _)⟩), fun _ h => h⟩⟩), Or.inr ⟨t, hd⟩, (ok e he).lo, rfl⟩
end
section
structure PS where
  es : List PE
  po : Obj
  om : Obj
structure PSok (w : World) (cs ts ns : List Int) (adr : List Nat) (i : Nat) (s : PS) : Prop where
  dict : s.po.IsDictOf (IK w) (kvsOf s.es)
  ok : ∀ e ∈ s.es, e.Ok w ts
  rows : s.es.map PE.row = profOf cs ns i
  len : s.es.length ≤ i
  cell : ∃ mv, s.om.data = Data.cell mv
  off : ∀ q ∈ ledOf s.es, ∀ a ∈ adr, @Ne Nat q.1 a
structure ProfIn (cs ts ns : List Int) : Prop where
  c : cs.length = 16
  t : ts.length = 16
  n : ns.length = 4
  tc : ∀ i : Nat, i < 16 → ts.getD (cs.getD (0 + (i : Int)).toNat 0).toNat 0 = ts.getD (0 + (i : Int)).toNat 0
namespace profile_spec
noncomputable def epsX : { P : World → Env0 → Nat → Nat → Nat → Nat → Nat → Nat → (List Value) → (List Value) → (List Value) → (List Int) → (List Int) → (List Int) → Nat → Nat → (Option (List Code)) → (List Env) → Around → Heap → Heap → Addr → Heap → Shared → Nat → Obj → Obj → Prop // (∀ w z cl tl nl ce te ne ci ti ni cs ts ns dp un gd outer A₀ base g L h₁ s tk co0 co1, P w z cl tl nl ce te ne ci ti ni cs ts ns dp un gd outer A₀ base g L h₁ s tk co0 co1) → ∀ (w : World) (z : Env0) (cl : Nat) (tl : Nat) (nl : Nat) (ce : Nat) (te : Nat) (ne : Nat) (ci : List Value) (ti : List Value) (ni : List Value) (cs : List Int) (ts : List Int) (ns : List Int) (hc : IntsAre ci cs) (ht : IntsAre ti ts) (hn : IntsAre ni ns) (pi : ProfIn cs ts ns), Spec w z 60 200 (.ref 196) [.ref cl, .ref tl, .ref nl] [] [] [(cl, W.listOf ci.toArray ce), (tl, W.listOf ti.toArray te), (nl, W.listOf ni.toArray ne)]
   (fun mu' new r => ∃ es po pf, mu' = [] ∧ new = (pf, po) :: ledOf es ∧ po.IsDictOf (IK w) (kvsOf es) ∧ (pf == sysModules) = false ∧ (∀ e ∈ es, e.Ok w ts) ∧ es.map PE.row = profOf cs ns 16 ∧ es.length ≤ 16 ∧ r = .ref pf) } := ⟨_, by
  intro h_eps w z cl tl nl ce te ne ci ti ni cs ts ns hc ht hn pi
  (k_dflt (refine' spec_defC (binds := [(Str.ofString "closed", .ref cl), (Str.ofString "tops", .ref tl), (Str.ofString "numbers", .ref nl)]) ?ho ?hcd ?hb ?hl ?hn ?h ?c2 ?c3 ?c4; (case ho => k_is); (case hcd => k_is); (case hb => intro s' X'; first | exact BindsTo.of_eq rfl | exact binds_K X' rfl (by k_is) rfl rfl rfl); (case hl => exact rfl); (case hn => decide +kernel); (case c2 => exact rfl); (case c3 => exact rfl); (case c4 => exact rfl)); (intro dp un gd outer A₀ base g L h₁ s tk cells B F X N Y T C hdp hun l1; obtain ⟨cL, cY, cS⟩ := C; (try dsimp only [List.nil_append, List.cons_append] at l1); (try k_lt l1); (revert N; refine celim2 Y ?_; intro co0 co1 cd0 cd1 N); clear Y; replace cd0 : co0.data = Data.cell none := cd0; replace cd1 : co1.data = Data.cell (some (.ref nl)) := cd1; replace F : Fr g L h₁ (kstB (fun _ => none) [(Str.ofString "tops", .ref tl), (Str.ofString "closed", .ref cl)]) := F; (try dsimp only [List.nil_append, List.cons_append] at N)))
  revert cd1; revert cd0; revert l1; revert hun; revert hdp; revert cS; revert cY; revert cL; revert T; revert N; revert X; revert F; revert B; revert pi; revert hn; revert ht; revert hc
  exact h_eps w z cl tl nl ce te ne ci ti ni cs ts ns dp un gd outer A₀ base g L h₁ s tk co0 co1⟩
noncomputable abbrev epsT : Type := World × Env0 × Nat × Nat × Nat × Nat × Nat × Nat × (List Value) × (List Value) × (List Value) × (List Int) × (List Int) × (List Int) × Nat × Nat × (Option (List Code)) × (List Env) × Around × Heap × Heap × Addr × Heap × Shared × Nat × Obj × Obj
noncomputable abbrev epsQ : epsT → Prop := fun d => epsX.1 d.1 d.2.1 d.2.2.1 d.2.2.2.1 d.2.2.2.2.1 d.2.2.2.2.2.1 d.2.2.2.2.2.2.1 d.2.2.2.2.2.2.2.1 d.2.2.2.2.2.2.2.2.1 d.2.2.2.2.2.2.2.2.2.1 d.2.2.2.2.2.2.2.2.2.2.1 d.2.2.2.2.2.2.2.2.2.2.2.1 d.2.2.2.2.2.2.2.2.2.2.2.2.1 d.2.2.2.2.2.2.2.2.2.2.2.2.2.1 d.2.2.2.2.2.2.2.2.2.2.2.2.2.2.1 d.2.2.2.2.2.2.2.2.2.2.2.2.2.2.2.1 d.2.2.2.2.2.2.2.2.2.2.2.2.2.2.2.2.1 d.2.2.2.2.2.2.2.2.2.2.2.2.2.2.2.2.2.1 d.2.2.2.2.2.2.2.2.2.2.2.2.2.2.2.2.2.2.1 d.2.2.2.2.2.2.2.2.2.2.2.2.2.2.2.2.2.2.2.1 d.2.2.2.2.2.2.2.2.2.2.2.2.2.2.2.2.2.2.2.2.1 d.2.2.2.2.2.2.2.2.2.2.2.2.2.2.2.2.2.2.2.2.2.1 d.2.2.2.2.2.2.2.2.2.2.2.2.2.2.2.2.2.2.2.2.2.2.1 d.2.2.2.2.2.2.2.2.2.2.2.2.2.2.2.2.2.2.2.2.2.2.2.1 d.2.2.2.2.2.2.2.2.2.2.2.2.2.2.2.2.2.2.2.2.2.2.2.2.1 d.2.2.2.2.2.2.2.2.2.2.2.2.2.2.2.2.2.2.2.2.2.2.2.2.2.1 d.2.2.2.2.2.2.2.2.2.2.2.2.2.2.2.2.2.2.2.2.2.2.2.2.2.2
theorem eN : Nonempty epsT := by walk_at "ne_all"
@[irreducible] noncomputable def eK : epsT := Pk epsT eN epsQ
@[irreducible] noncomputable def w := eK.1
@[irreducible] noncomputable def cl := eK.2.2.1
@[irreducible] noncomputable def tl := eK.2.2.2.1
@[irreducible] noncomputable def nl := eK.2.2.2.2.1
@[irreducible] noncomputable def ce := eK.2.2.2.2.2.1
@[irreducible] noncomputable def te := eK.2.2.2.2.2.2.1
@[irreducible] noncomputable def ne := eK.2.2.2.2.2.2.2.1
@[irreducible] noncomputable def ci := eK.2.2.2.2.2.2.2.2.1
@[irreducible] noncomputable def ti := eK.2.2.2.2.2.2.2.2.2.1
@[irreducible] noncomputable def ni := eK.2.2.2.2.2.2.2.2.2.2.1
@[irreducible] noncomputable def cs := eK.2.2.2.2.2.2.2.2.2.2.2.1
@[irreducible] noncomputable def ts := eK.2.2.2.2.2.2.2.2.2.2.2.2.1
@[irreducible] noncomputable def ns := eK.2.2.2.2.2.2.2.2.2.2.2.2.2.1
@[irreducible] noncomputable def g := eK.2.2.2.2.2.2.2.2.2.2.2.2.2.2.2.2.2.2.2.2.1
@[irreducible] noncomputable def L := eK.2.2.2.2.2.2.2.2.2.2.2.2.2.2.2.2.2.2.2.2.2.1
@[irreducible] noncomputable def tk := eK.2.2.2.2.2.2.2.2.2.2.2.2.2.2.2.2.2.2.2.2.2.2.2.2.1
@[irreducible] noncomputable def co0 := eK.2.2.2.2.2.2.2.2.2.2.2.2.2.2.2.2.2.2.2.2.2.2.2.2.2.1
@[irreducible] noncomputable def co1 := eK.2.2.2.2.2.2.2.2.2.2.2.2.2.2.2.2.2.2.2.2.2.2.2.2.2.2
theorem eC : epsX.1 w eK.2.1 cl tl nl ce te ne ci ti ni cs ts ns eK.2.2.2.2.2.2.2.2.2.2.2.2.2.2.1 eK.2.2.2.2.2.2.2.2.2.2.2.2.2.2.2.1 eK.2.2.2.2.2.2.2.2.2.2.2.2.2.2.2.2.1 eK.2.2.2.2.2.2.2.2.2.2.2.2.2.2.2.2.2.1 eK.2.2.2.2.2.2.2.2.2.2.2.2.2.2.2.2.2.2.1 eK.2.2.2.2.2.2.2.2.2.2.2.2.2.2.2.2.2.2.2.1 g L eK.2.2.2.2.2.2.2.2.2.2.2.2.2.2.2.2.2.2.2.2.2.2.1 eK.2.2.2.2.2.2.2.2.2.2.2.2.2.2.2.2.2.2.2.2.2.2.2.1 tk co0 co1 := by
  dsimp only [epsX]
  intro hc ht hn pi B F X N T cL cY cS hdp hun l1 cd0 cd1
  have hlc := hc.length
  have hlt' := ht.length
  have hln := hn.length
  have pc := pi.c
  have pt := pi.t
  have pn := pi.n
  k_with_none
  k_with "eval Dict nil nil" => ((k_dflt (refine' newDict_K ?k1 ?k2 (TopRead.nolimit (by k_asm)) ?_; (case k1 => k_asm); (case k2 => k_asm); k_whole)); intro pf h' pfo F' N' pfl pflo hs' fs' pfd fi'; (try k_lt pfl); clear hs' fs' fi')
  k_with "exec For Name Call cons nil" => (k_here; (rename Fr _ _ _ _ => lF'); (with_unfolding_all refine' For_turns lF' ?_; k_whole))
  k_with "pyIter ref" => ((with_reducible show wpAny _ _ (pyIter (Value.ref _)) _ _ _); refine Stop.go ?_)
  k_steps
  refine Stop.mk ?_
  (rename Fr _ _ _ _ => lF'); (rename News _ _ _ _ => lN'); (rename IsRange _ _ _ _ _ _ _ _ => rgX)
  with_unfolding_all refine' range_T_inv (σ := PS) (n := 16) (fun c => [(pf, c.po), (L + 1 + 1, c.om), (L + 1, co1), (cl, W.listOf ci.toArray ce), (tl, W.listOf ti.toArray te), (nl, W.listOf ni.toArray ne)] ++ ledOf c.es) (fun _ => [(Str.ofString "profile", .ref pf), (Str.ofString "tops", .ref tl), (Str.ofString "closed", .ref cl)]) (fun I => PSok w cs ts ns [pf, L + 1 + 1, I, cl, tl, nl]) ⟨[], pfo, co0⟩ (by rfl) rgX (by first | decide | rfl) (by first | decide | rfl) lF' lN' (fun _ h => by rw [show ledOf [] = [] from rfl, List.append_nil] at h; exact h) ?k0 (fun _ _ => ⟨pfd, (by intro e h; cases h), rfl, Nat.le_refl _, ⟨_, cd0⟩, (by intro q h; cases h)⟩) ?turn ?done
  case k0 => (intro p hp; simp only [List.mem_cons, List.not_mem_nil, or_false] at hp; rcases hp with rfl | rfl | rfl <;> rfl)
  case done =>
    clear lF' lN'
    intro I c u h tk l1 hP F N
    k_steps
    rename News _ _ _ _ => N'
    rename Fr _ _ _ _ => F'
    show Fin _ _ _ _ _ _ _ _
    dsimp only [List.nil_append, List.cons_append] at N'
    refine Fin.intro F' N' [] ((pf, c.po) :: ledOf c.es) ?_ rfl ?_ ⟨c.es, c.po, pf, rfl, rfl, hP.dict, pflo, hP.ok, hP.rows, hP.len, rfl⟩
    · intro p hp
      rcases List.mem_cons.mp hp with rfl | hp
      · exact .head _
      rcases List.mem_append.mp hp with hp | hp
      · exact .tail _ (.tail _ (.tail _ (.tail _ (.tail _ (.tail _ hp)))))
      · simp only [List.mem_cons, List.not_mem_nil, or_false] at hp
        rcases hp with rfl | rfl | rfl
        · exact .tail _ (.tail _ (.tail _ (.head _)))
        · exact .tail _ (.tail _ (.tail _ (.tail _ (.head _))))
        · exact .tail _ (.tail _ (.tail _ (.tail _ (.tail _ (.head _)))))
    · intro p hp q hq
      simp only [List.nil_append, List.mem_cons, List.not_mem_nil, or_false] at hp
      rcases List.mem_cons.mp hq with rfl | hq
      · rcases hp with rfl | rfl | rfl <;> (show @Ne Nat _ _; k_ne)
      · have h := hP.off q hq
        rcases hp with rfl | rfl | rfl
        · exact (h _ (.tail _ (.tail _ (.tail _ (.head _))))).symm
        · exact (h _ (.tail _ (.tail _ (.tail _ (.tail _ (.head _)))))).symm
        · exact (h _ (.tail _ (.tail _ (.tail _ (.tail _ (.tail _ (.head _))))))).symm
  case turn =>
    clear lF' lN'
    intro I i c u t h tk it l1 hlt hP hit F N
    try k_lt l1
    obtain ⟨mv, hom⟩ := hP.cell
    dsimp only [List.nil_append, List.cons_append] at N
    have hoff := hP.off
    obtain ⟨rest, hrest⟩ : ∃ rest, rest = ledOf c.es := ⟨_, rfl⟩
    rw [← hrest] at N hoff
    k_with "k_all" => (first | exact fun q hq => hoff q hq _ (.head _) | exact fun q hq => hoff q hq _ (.tail _ (.head _)))
    k_with "exec Assign cons ListComp" => (refine Stop.go ?_)
    k_with "eval ListComp" => (refine Stop.go ?_)
    k_steps
    rename Obj => om'
    refine Stop.mk ?_
    k_dflt (refine gc_assign (by k_asm) (by rfl) (by with_unfolding_all rfl) (by with_unfolding_all rfl) (by rfl) (by decide) (by rfl) (by rfl) ?_)
    k_steps
    refine Stop.mk ?_
    rename Fr _ _ _ _ => F1
    rename News _ _ _ _ => N1
    rename IsRange _ _ _ _ _ _ _ _ => rg
    refine gck_range1 (fun jj ys => IntsAre ys (plOf (0 + (i : Int)) jj)) rg (by decide) (n := 4) (by rfl) (by decide) F1 N1 .nil (by rfl) (by decide) (by rfl) (by rfl) ?ta ?fa
    case ta =>
      intro I2 jj ys lI2 hltj hJ m₂ t2 C oC D oI h tk E' hx hC F N off ne
      clear F1 N1 rg
      k_steps
      · rename News _ _ _ _ => N'
        rename Fr _ _ _ _ => F'
        refine GcK.intro F' N' (fun _ h => h) ?_
        unfold plOf
        rw [if_neg (by assumption)]
        exact IntsAre.append hJ (.cons _ _ .nil)
      · rename News _ _ _ _ => N'
        rename Fr _ _ _ _ => F'
        refine GcK.intro F' N' (fun _ h => h) ?_
        unfold plOf
        rw [if_pos (by assumption)]
        exact hJ
    case fa =>
      intro ysa ga hJa Da ha tka Fa Na oa'
      clear F1 N1 rg
      replace Na := (show News g _ ha ((Da, W.listOf ysa.toArray ysa.length) :: _) from Na)
      have p1 := plOf_facts (0 + (i : Int)) 4
      have l1a := hJa.length
      k_steps
      refine Stop.mk ?_
      k_dflt (refine gc_eval (by k_asm) (by with_unfolding_all rfl) (by rfl) (by decide) ?_)
      k_steps
      refine Stop.mk ?_
      rename Fr _ _ _ _ => F1
      rename News _ _ _ _ => N1
      refine gck_list0 (fun jj ys => IntsAre ys (((plOf (0 + (i : Int)) 4).take jj).map (fun p => ns.getD p.toNat 0))) (ns := plOf (0 + (i : Int)) 4) hJa (by k_dflt k_mem) (by omega) F1 N1 .nil (by rfl) (by decide) (by rfl) (by rfl) ?t2 ?f2
      case t2 =>
        intro I2 jj ys k lI2 hk hJ2 m₂ t2 C oC D' oI h2 tk2 E' hx hC F2 N2 off ne
        clear F1 N1
        obtain ⟨b0, b1⟩ := p1.2 k (List.mem_of_getElem? hk)
        have b2 : k < (ns.length : Int) := by omega
        k_steps
        rename News _ _ _ _ => N'
        rename Fr _ _ _ _ => F'
        exact GcK.intro F' N' (fun _ h => h) (by rw [take_step _ hk]; exact IntsAre.append hJ2 (.cons _ _ .nil))
      case f2 =>
        intro ys2 g2 hJ2 D2 h2 tk2 F2 N2 o2'
        rw [List.take_length] at hJ2
        clear F1 N1
        replace N2 := (show News g _ h2 ((D2, W.listOf ys2.toArray ys2.length) :: _) from N2)
        k_with "eval Dict" => ((k_dflt (refine' kdn_eval (knd := PySem.intKind _ _) ?F ?N ?b ?a ?l ?e ?n ?_; (case F => k_asm); (case N => k_asm); (case b => exact Top.nolimit (by k_asm)); (case a => rfl); (case l => rfl); (case e => exact List.cons_ne_nil _ _); (case n => exact Nat.le_of_ble_eq_true rfl))); intro d' h' o' F' N' l1 lo' hd')
        k_with "KdnMade" => (refine Stop.go ?_)
        k_steps
        refine Stop.mk ?_
        rename Fr _ _ _ _ => F1
        rename News _ _ _ _ => N1
        k_dflt (refine' kdn_made_int F1 N1 (UpdF.head (fun p hp => Nat.ne_of_lt (l1 p hp))) hd' (by rfl) (of_decide_eq_true (by rfl)) ?_)
        intro h3 oD F3 N3 hdD
        clear F1 N1 hd'
        k_lt l1
        k_with "eval Dict nil nil" => ((k_dflt (refine' newDict_K ?k1 ?k2 (TopRead.nolimit (by k_asm)) ?_; (case k1 => k_asm); (case k2 => k_asm); k_whole)); intro de h' deo F' N' del delo hs' fs' ded fi'; (try k_lt del); clear hs' fs' fi')
        k_with "getMethod ref" => (k_dflt (refine kdg_method (knd := PySem.intKind _ _) (kvs := kvsOf c.es) (by k_asm) (by k_mem) hP.dict ?_))
        k_with "call builtin:dict.get" => (refine Stop.go ?_)
        k_steps
        refine Stop.mk ?_
        rename Fr _ _ _ _ => F4
        rename News _ _ _ _ => N4
        obtain ⟨q, hq⟩ : ∃ q, c.es.find? (fun e => decide (e.key = cs.getD (0 + (i : Int)).toNat 0)) = q := ⟨_, rfl⟩
        obtain ⟨lk1, lk2⟩ := look_kvs q hq
        obtain ⟨T0, d0, od0, a0, b0, x0, y0, ta0, tb0, tx0, ty0, hT, N5, hcal, lo5, hrow⟩ := pick_entry (w := w) N4 (fun p hp => .tail _ (.tail _ (.tail _ (.tail _ (.tail _ (.tail _ (.tail _ (.tail _ (.tail _ (.tail _ (.tail _ (.tail _ (.tail _ (by rw [hrest]; exact hp)))))))))))))) (by k_mem) (by k_mem) ded delo hP.ok hq (pi.tc i hlt)
        k_dflt (refine kdg_get2 (knd := PySem.intKind _ _) (kvs := kvsOf c.es) N4 (by k_mem) hP.dict pflo (intKind_is _ _ _ _) _ lk1 ?_)
        rw [hT]
        clear N4 hT lk1
        k_with "mycall" => ((with_reducible show wpAny _ _ (call (Value.ref 49) _) _ _ _); refine Stop.go ?_)
        k_with "setItem ref int" => (refine Stop.go ?_)
        k_steps
        refine Stop.mk ?_
        (k_dflt (refine' Spec.use0 (stats_spec T0 _ d0 d' od0 oD (ts.getD (0 + (i : Int)).toNat 0) a0 _ a0 b0 x0 y0 _ _ _ _ ta0 tb0 tx0 ty0 _ _ _ _ hcal hdD lo5 lo') ?uB ?uF ?uX ?uN ?uT ?uk ?u1 ?u2 ?u3 ?ud ?uu ?ue ?uK; (case uB => k_asm); (case uF => k_asm); (case uX => k_asm); (case uN => k_asm); (case uT => k_asm); (case uk => first | exact rfl | assumption); (case u1 => assumption); (case u2 => assumption); (case u3 => assumption); (case ud => ktr_room); (case uu => ktr_units); (case ue => walk_at "sub"); k_whole)); (intro v' mu' new' h' tk' hR' F' N' ap'); (obtain ⟨f, f2, o2, t9, ta9, tb9, tx9, ty9, e1', e2', hd9, lo9, e3'⟩ := hR'); subst e1'; subst e2'; subst e3'; (dsimp only [List.nil_append, List.cons_append] at N')
        clear N5
        have hf : ∀ a ∈ [pf, L + 1 + 1, I, cl, tl, nl], @Ne Nat f a ∧ @Ne Nat f2 a := by
          intro a ha
          have hx : ∀ o, (a, o) ∈ _ → @Ne Nat f a ∧ @Ne Nat f2 a := fun o ho => ⟨(ap' (a, o) ho _ (.head _)).symm, (ap' (a, o) ho _ (.tail _ (.head _))).symm⟩
          simp only [List.mem_cons, List.not_mem_nil, or_false] at ha
          rcases ha with rfl | rfl | rfl | rfl | rfl | rfl <;> exact hx _ (by k_mem)
        clear ap'
        k_steps
        refine Stop.mk ?_
        rename News _ _ _ _ => N6
        rename Fr _ _ _ _ => F6
        obtain ⟨e', hk', hrw, hta, hda, hdict, hlo9, N7⟩ : ∃ e' : PE, e'.key = cs.getD (0 + (i : Int)).toNat 0 ∧ (e'.a, e'.b, e'.x, e'.y) = add4 (entAt ns i) (a0, b0, x0, y0) ∧ e'.ta = f ∧ e'.da = f2 ∧ (∃ t, e'.od.IsDictOf (IK w) [(ts.getD (0 + (i : Int)).toNat 0, .int e'.a t)]) ∧ (e'.da == sysModules) = false ∧
            News g L _ ((pf, c.po) :: (e'.ta, statO e'.a e'.b e'.x e'.y e'.t1 e'.t2 e'.t3 e'.t4 e'.da) :: (e'.da, e'.od) :: (I, it) :: (L + 1 + 1, om') :: (L + 1, co1) :: (cl, W.listOf ci.toArray ce) :: (tl, W.listOf ti.toArray te) :: (nl, W.listOf ni.toArray ne) :: rest) :=
          ⟨⟨cs.getD (0 + (i : Int)).toNat 0, f, f2, 1 + a0, 1 - ((plOf (0 + (i : Int)) 4).length : Int).fmod 2 * 2 + b0, ((plOf (0 + (i : Int)) 4).length : Int) + x0, ((plOf (0 + (i : Int)) 4).map (fun p => ns.getD p.toNat 0)).sum + y0, ta9, tb9, tx9, ty9, o2⟩, rfl, rfl, rfl, rfl, ⟨t9, by show o2.IsDictOf _ [(_, .int (1 + a0) t9)]; rw [Int.add_comm 1 a0]; exact hd9⟩, lo9,
            sub_news N6 (all_cons.mpr ⟨by k_mem, all_cons.mpr ⟨.head _, all_cons.mpr ⟨.tail _ (.head _), all_cons.mpr ⟨by k_mem, all_cons.mpr ⟨by k_mem, all_cons.mpr ⟨by k_mem, all_cons.mpr ⟨by k_mem, all_cons.mpr ⟨by k_mem, all_cons.mpr ⟨by k_mem, fun _ h => .tail _ (.tail _ (.tail _ (.tail _ (.tail _ (.tail _ (.tail _ (.tail _ (.tail _ (.tail _ (.tail _ (.tail _ (.tail _ (.tail _ (.tail _ (.tail _ (.tail _ (h)))))))))))))))))⟩⟩⟩⟩⟩⟩⟩⟩⟩)⟩
        clear N6
        subst hta
        subst hda
        k_dflt (refine kda_set (knd := PySem.intKind _ _) F6 N7 (UpdF.head (all_cons.mpr ⟨(hf pf (.head _)).1, all_cons.mpr ⟨(hf pf (.head _)).2, all_cons.mpr ⟨by k_ne, all_cons.mpr ⟨by k_ne, all_cons.mpr ⟨by k_ne, all_cons.mpr ⟨by k_ne, all_cons.mpr ⟨by k_ne, all_cons.mpr ⟨by k_ne, fun q hq => hoff q hq _ (.head _)⟩⟩⟩⟩⟩⟩⟩⟩)) hP.dict (intKind_is _ _ _ _) (by have hq9 := hP.len; rw [kvsOf, List.length_map, PySem.sizeLine_eq]; omega) ?_)
        intro h7 po' F8 N8 hd8
        clear N7 F6
        rw [← hk', stored_kvs] at hd8
        k_steps
        rename News _ _ _ _ => N9
        rename Fr _ _ _ _ => F9
        show GEnd _ _ _ _ _ _ _ _ _
        have hled : ∀ p ∈ ledOf (putE c.es e'), p ∈ e'.led ∨ p ∈ rest := fun p hp => by rw [hrest]; exact ledOf_put _ _ p hp
        have hoff' : ∀ q ∈ ledOf (putE c.es e'), ∀ a ∈ [pf, L + 1 + 1, I, cl, tl, nl], @Ne Nat q.1 a := fun q hq a ha => by
          rcases hled q hq with h | h
          · rcases List.mem_cons.mp h with rfl | h
            · exact (hf a ha).1
            · rw [List.mem_singleton.mp h]; exact (hf a ha).2
          · exact hoff q h a ha
        refine GEnd.intro (⟨putE c.es e', po', om'⟩ : PS) F9 N9 ?sub ?off ?hk ⟨hd8, ?ok, ?rows, ?len, ⟨_, by assumption⟩, hoff'⟩
        case sub =>
          refine all_cons.mpr ⟨.tail _ (.tail _ (.tail _ (.head _))), ?_⟩
          intro p hp
          replace hp : p ∈ [(pf, po'), (L + 1 + 1, om'), (L + 1, co1), (cl, W.listOf ci.toArray ce), (tl, W.listOf ti.toArray te), (nl, W.listOf ni.toArray ne)] ++ ledOf (putE c.es e') := hp
          rcases List.mem_append.mp hp with hp | hp
          · simp only [List.mem_cons, List.not_mem_nil, or_false] at hp
            rcases hp with rfl | rfl | rfl | rfl | rfl | rfl <;> k_mem
          · rcases hled p hp with h | h
            · rcases List.mem_cons.mp h with rfl | h
              · exact .tail _ (.head _)
              · rw [List.mem_singleton.mp h]; exact .tail _ (.tail _ (.head _))
            · exact .tail _ (.tail _ (.tail _ (.tail _ (.tail _ (.tail _ (.tail _ (.tail _ (.tail _ h))))))))
        case off =>
          intro p hp
          replace hp : p ∈ [(pf, po'), (L + 1 + 1, om'), (L + 1, co1), (cl, W.listOf ci.toArray ce), (tl, W.listOf ti.toArray te), (nl, W.listOf ni.toArray ne)] ++ ledOf (putE c.es e') := hp
          rcases List.mem_append.mp hp with hp | hp
          · simp only [List.mem_cons, List.not_mem_nil, or_false] at hp
            rcases hp with rfl | rfl | rfl | rfl | rfl | rfl <;> (show @Ne Nat _ _; k_ne)
          · exact hoff' p hp I (.tail _ (.tail _ (.head _)))
        case hk => (intro p hp; simp only [List.mem_cons, List.not_mem_nil, or_false] at hp; rcases hp with rfl | rfl | rfl <;> rfl)
        case ok =>
          intro e he
          rcases putE_mem _ _ e he with rfl | he
          · obtain ⟨t9, hd9⟩ := hdict
            exact ⟨⟨t9, by rw [hk', pi.tc i hlt]; exact hd9⟩, hlo9⟩
          · exact hP.ok e he
        case rows =>
          rw [row_put, hrw, hk', hP.rows, ← hrow, ← lk2, hP.rows]
          rfl
        case len => exact Nat.le_trans (putE_len _ _) (Nat.succ_le_succ hP.len)
end profile_spec
theorem profile_spec {w : World} {z : Env0} (cl : Nat) (tl : Nat) (nl : Nat) (ce : Nat) (te : Nat) (ne : Nat) (ci : List Value) (ti : List Value) (ni : List Value) (cs : List Int) (ts : List Int) (ns : List Int) (hc : IntsAre ci cs) (ht : IntsAre ti ts) (hn : IntsAre ni ns) (pi : ProfIn cs ts ns) : Spec w z 60 200 (.ref 196) [.ref cl, .ref tl, .ref nl] [] [] [(cl, W.listOf ci.toArray ce), (tl, W.listOf ti.toArray te), (nl, W.listOf ni.toArray ne)]
   (fun mu' new r => ∃ es po pf, mu' = [] ∧ new = (pf, po) :: ledOf es ∧ po.IsDictOf (IK w) (kvsOf es) ∧ (pf == sysModules) = false ∧ (∀ e ∈ es, e.Ok w ts) ∧ es.map PE.row = profOf cs ns 16 ∧ es.length ≤ 16 ∧ r = .ref pf) := profile_spec.epsX.2 (fun w z cl tl nl ce te ne ci ti ni cs ts ns dp un gd outer A₀ base g L h₁ s tk co0 co1 => Pk.all (T := profile_spec.epsT) (ne := profile_spec.eN) (Q := profile_spec.epsQ) (by with_unfolding_all exact profile_spec.eC) (w, z, cl, tl, nl, ce, te, ne, ci, ti, ni, cs, ts, ns, dp, un, gd, outer, A₀, base, g, L, h₁, s, tk, co0, co1)) w z cl tl nl ce te ne ci ti ni cs ts ns hc ht hn pi
end
section
section
open PyProof.Rows.LCg
variable {w : World} {z : Env0} {dp un nd nu : Nat} {gd : Option (List Code)} {cn : Str} {cs : Scope} {a : Addr} {ccd : Value} {cl : List (Str × Addr)} {outer : List Env} {A₀ : Around}
  {base h₀ : Heap} {L : Addr} {m : Str → Option Value} {s : Shared} {Q E : Value → Shared → Prop} {rest ex : Led} {ps : Array Value} {c' : Nat} {oc : Obj} {P : Nat} {ln cc : Int} {qual : Str} {fa : Value} {vs : List Value} {ns : List Int}
theorem tab_use (cold : Spec w z nd nu fa vs [] [(P, tabObj #[])] ex (fun mu' new v => ∃ ps c' oc f its e, TabG P ln cc qual ps c' oc ∧ ps ≠ #[] ∧ mu' = [(P, tabObj ps)] ∧ new = [(f, W.listOf its.toArray e), (c', oc)] ∧ IntsAre its ns ∧ v = .ref f))
    (hot : ∀ (c' : Nat) (oc : Obj) (ovs : Array Value) (qt : Tok), @Ne Nat P c' → oc.data = .fields ovs → ovs[1]? = some (.str qual qt) → Spec w z nd nu fa vs [] [] ((P, tabObj #[rawInt ln, rawInt cc, .ref c']) :: (c', oc) :: ex) (fun mu' new v => ∃ f its e, mu' = [] ∧ new = [(f, W.listOf its.toArray e)] ∧ IntsAre its ns ∧ v = .ref f))
    (B : Below A₀ base outer h₀) (F : Fr h₀ L s.heap m) (X : (hd.heap_1 w.params).In h₀) (N : News h₀ L s.heap ((P, tabObj ps) :: (c', oc) :: rest)) (T : Top z.p z.loose z.mean z.mg z.mb h₀) (hk : cs.kind = .function)
    (c1 : CodeHd base 166 162) (c2 : CodeHd base 145 141) (c3 : CodeHd base 138 134) (Tb : TabG P ln cc qual ps c' oc) (hrest : ∀ q ∈ ex, q ∈ rest) (hoff : ∀ q ∈ rest, @Ne Nat q.1 P ∧ @Ne Nat q.1 c') (hd : dp + nd < recursionLimit) (hu : un + nu < cLine)
    (kk : ∀ (ps' : Array Value) (c'' : Nat) (oc' : Obj) (f : Nat) (its : List Value) (e : Nat) (h' : Heap) (tk' : Nat), TabG P ln cc qual ps' c'' oc' → (∀ q ∈ (f, W.listOf its.toArray e) :: rest, @Ne Nat q.1 P ∧ @Ne Nat q.1 c'') → (∀ q ∈ rest, @Ne Nat f q.1) → IntsAre its ns →
      Fr h₀ L h' m → News h₀ L h' ((P, tabObj ps') :: (c'', oc') :: (f, W.listOf its.toArray e) :: rest) → Q (.ref f) { s with heap := h', toks := tk' }) :
    wpAny (model PySem.Challenge.rw_wf0038_01.prog w) (ktrTop dp un gd cn cs L a ccd cl outer) (call fa vs []) Q E s := by
  rcases Tb with ⟨rfl, rfl, rfl⟩ | ⟨rfl, hPc, ovs, qt, d1, d2⟩
  · refine Spec.use (led := rest) cold B F X N T hk c1 c2 c3 hd hu (fun q hq => ?_) hrest (fun q hq y hy => ?_) (fun v mu' new h' tk' hR F' N' ap => ?_)
    · rcases List.mem_cons.mp hq with rfl | hq
      · exact .head _
      · exact .tail _ (.tail _ hq)
    · rcases List.mem_singleton.mp hy with rfl
      exact (hoff q hq).1
    · obtain ⟨ps', c2, oc2, f, its', e', hT, hne, rfl, rfl, hi', rfl⟩ := hR
      have hPc : @Ne Nat c' c2 := ap _ (.head _) _ (.tail _ (.head _))
      have hPf : @Ne Nat c' f := ap _ (.head _) _ (.head _)
      have hfc : @Ne Nat f c2 := by
        rcases hT with ⟨h, _⟩ | ⟨_, _, ovs, qt, d1, _⟩
        · exact absurd h hne
        · intro e
          have h := News.one N' (p := (f, W.listOf its'.toArray e')) (q := (c2, oc2)) (.tail _ (.head _)) (.tail _ (.tail _ (.head _))) e
          have h2 : oc2.data = (W.listOf its'.toArray e').data := congrArg Obj.data (show oc2 = W.listOf its'.toArray e' from h.symm)
          rw [d1] at h2
          cases h2
      exact kk _ c2 oc2 f its' e' h' tk' hT (fun q hq => by
        rcases List.mem_cons.mp hq with rfl | hq
        · exact ⟨hPf.symm, hfc⟩
        · exact ⟨(hoff q hq).1, ap q (.tail _ hq) _ (.tail _ (.head _))⟩) (fun q hq => (ap q (.tail _ hq) _ (.head _)).symm) hi' F' (sub_news N' (all_cons.mpr ⟨.head _, all_cons.mpr ⟨.tail _ (.tail _ (.head _)), all_cons.mpr ⟨.tail _ (.head _), fun _ h => .tail _ (.tail _ (.tail _ h))⟩⟩⟩))
  · refine Spec.use0 (hot c' oc ovs qt hPc d1 d2) B F X N T hk c1 c2 c3 hd hu (all_cons.mpr ⟨.head _, all_cons.mpr ⟨.tail _ (.head _), fun q hq => .tail _ (.tail _ (hrest q hq))⟩⟩) (fun v mu' new h' tk' hR F' N' ap => ?_)
    obtain ⟨f, its', e', rfl, rfl, hi', rfl⟩ := hR
    exact kk _ c' oc f its' e' h' tk' (Or.inr ⟨rfl, hPc, ovs, qt, d1, d2⟩) (fun q hq => by
      rcases List.mem_cons.mp hq with rfl | hq
      · exact ⟨(ap _ (.head _) _ (.head _)).symm, (ap _ (.tail _ (.head _)) _ (.head _)).symm⟩
      · exact hoff q hq) (fun q hq => (ap q (.tail _ (.tail _ hq)) _ (.head _)).symm) hi' F' (sub_news N' (all_cons.mpr ⟨.tail _ (.head _), all_cons.mpr ⟨.tail _ (.tail _ (.head _)), all_cons.mpr ⟨.head _, fun _ h => .tail _ (.tail _ (.tail _ h))⟩⟩⟩))
end
structure TgS where
  ys : List Value
  ad : Led
  ps : Array Value
  c' : Nat
  oc : Obj
section
open PyProof.Rows.LCg
variable {prog : Program} {w : World} {A : Around} {E : Value → Shared → Prop} {s : Shared} {h₀ : Heap} {L : Addr} {m : Str → Option Value} {env : Env}
  {ct elt iter target : Expr} {ifs : List Expr} {scope : Scope} {cl : List (Str × Addr)} {pos : Pos} {Fin' : Shared → List Value → Led → Prop} {base : Led} {I : Nat} {P : Nat} {Tb : Array Value → Nat → Obj → Prop}
structure TgOk (P : Nat) (Tb : Array Value → Nat → Obj → Prop) (base : Led) (J : List Value → Led → Prop) (c : TgS) : Prop where
  j : J c.ys c.ad
  t : Tb c.ps c.c' c.oc
  off : ∀ q ∈ c.ad ++ base, @Ne Nat q.1 P ∧ @Ne Nat q.1 c.c'
  ap : Apart c.ad base
noncomputable def GcY (h₀ : Heap) (L : Addr) (m : Str → Option Value) (s₁ : Shared) (P : Nat) (Tb : Array Value → Nat → Obj → Prop) (all : Led) (J : Led → Prop) (s₂ : Shared) : Prop :=
  ∃ h' tk' ps' c'' oc' nw, s₂ = { s₁ with heap := h', toks := tk' } ∧ Fr h₀ L h' m ∧ News h₀ L h' ((P, tabObj ps') :: (c'', oc') :: (nw ++ all)) ∧ Tb ps' c'' oc' ∧ (∀ q ∈ nw ++ all, @Ne Nat q.1 P ∧ @Ne Nat q.1 c'') ∧ Apart nw all ∧ J nw
theorem gct_listN {x : Str} {px : Pos} {ax : Addr} {its : Array Value} {k : Nat} {all : Led} {ps0 : Array Value} {c0 : Nat} {oc0 : Obj} (J : Nat → List Value → Led → Prop)
    (hm : (ax, ({ cls := .type "list", data := .seq its k } : Obj)) ∈ base) (hsz : its.size ≤ 64) (F : Fr h₀ L s.heap m) (N : News h₀ L s.heap all) (hsub : ∀ p ∈ (P, tabObj ps0) :: (c0, oc0) :: base, p ∈ all) (hT : Tb ps0 c0 oc0) (hoff : ∀ q ∈ base, @Ne Nat q.1 P ∧ @Ne Nat q.1 c0) (hJ₀ : J 0 [] [])
    (hh : A.handled = none) (hcell : ∀ y ∈ scope.names, y.2 ≠ .cell) (hkind : scope.kind = .function) (hx : scope.names.lookup x = some .local)
    (turn : ∀ (I i : Nat) (ys : List Value) (ad : Led) (ps : Array Value) (c' : Nat) (oc : Obj) (v : Value), (∀ p ∈ all, p.1 < I) → its[i]? = some v → J i ys ad → Tb ps c' oc → Apart ad base → ∀ (m₂ : Str → Option Value) (C : Nat) (oC : Obj) (D : Nat) (oI : Obj) (h : Heap) (tk : Nat) (E' : Value → Shared → Prop), m₂ x = some v → NsObj oC m₂ → Fr h₀ L h m →
      News h₀ L h ((P, tabObj ps) :: (c', oc) :: (I, oI) :: (C, oC) :: (D, lst ys) :: (ad ++ base)) → (∀ q ∈ (I, oI) :: (C, oC) :: (D, lst ys) :: (ad ++ base), @Ne Nat q.1 P ∧ @Ne Nat q.1 c') →
      wpAny (model prog w) A (eval elt (compEnvC scope cl C env)) (fun y s₃ => GcY h₀ L m { s with heap := h, toks := tk } P Tb ((I, oI) :: (C, oC) :: (D, lst ys) :: (ad ++ base)) (fun nw => J (i + 1) (ys ++ [y]) (nw ++ ad)) s₃) E' { s with heap := h, toks := tk })
    (fin : ∀ ys ad ps c' oc g, J its.size ys ad → Tb ps c' oc → (∀ q ∈ ad ++ base, @Ne Nat q.1 P ∧ @Ne Nat q.1 c') → Apart ad base → Fin' { s with heap := g } ys ((P, tabObj ps) :: (c', oc) :: (ad ++ base))) :
    wpAny (model prog w) A (pyIter (.ref ax)) (GcIt prog w A h₀ L m env elt (.Name x px) iter [] scope cl pos E Fin') E s := by
  refine gc_listN (fun c : TgS => (P, tabObj c.ps) :: (c.c', c.oc) :: (c.ad ++ base)) TgS.ys (fun i => TgOk P Tb base (J i)) ⟨[], [], ps0, c0, oc0⟩ hh (fun c => .tail _ (.tail _ (List.mem_append_right _ hm))) (by rw [PySem.sizeLine_eq]; omega) hcell hkind hx F N hsub rfl ⟨hJ₀, hT, hoff, fun _ h => by cases h⟩ (fun I i c lI hlt hJ => ?_) (fun c g hJ => fin c.ys c.ad c.ps c.c' c.oc g hJ.j hJ.t hJ.off hJ.ap)
  refine GcTurn.one0 fun m₂ C oC D oI h tk E' hnm hC F N off ne => ?_
  obtain ⟨v, hv, hx'⟩ := hnm
  have o3 := Off3.mem off
  refine wpAny_mono (turn I i c.ys c.ad c.ps c.c' c.oc v lI hv hJ.j hJ.t hJ.ap m₂ C oC D oI h tk E' hx' hC F (sub_news N fun p hp => ?_) (fun q hq => ?_)) (fun y s₃ hr => ?_) fun _ _ e => e
  · rcases List.mem_cons.mp hp with rfl | hp
    · exact .tail _ (.tail _ (.tail _ (.head _)))
    rcases List.mem_cons.mp hp with rfl | hp
    · exact .tail _ (.tail _ (.tail _ (.tail _ (.head _))))
    rcases List.mem_cons.mp hp with rfl | hp
    · exact .head _
    rcases List.mem_cons.mp hp with rfl | hp
    · exact .tail _ (.head _)
    rcases List.mem_cons.mp hp with rfl | hp
    · exact .tail _ (.tail _ (.head _))
    · exact .tail _ (.tail _ (.tail _ (.tail _ (.tail _ hp))))
  · have hP := o3 (P, tabObj c.ps) (.head _)
    have hc := o3 (c.c', c.oc) (.tail _ (.head _))
    rcases List.mem_cons.mp hq with rfl | hq
    · exact ⟨hP.1.symm, hc.1.symm⟩
    rcases List.mem_cons.mp hq with rfl | hq
    · exact ⟨hP.2.1.symm, hc.2.1.symm⟩
    rcases List.mem_cons.mp hq with rfl | hq
    · exact ⟨hP.2.2.symm, hc.2.2.symm⟩
    · exact hJ.off q hq
  · obtain ⟨h', tk', ps', c'', oc', nw, rfl, F', N', hT', hoff', ap, hJ'⟩ := hr
    have hin : ∀ q ∈ nw ++ (c.ad ++ base), q ∈ nw ++ ((I, oI) :: (C, oC) :: (D, lst c.ys) :: (c.ad ++ base)) := fun q hq => by
      rcases List.mem_append.mp hq with hq | hq
      · exact List.mem_append_left _ hq
      · exact List.mem_append_right _ (.tail _ (.tail _ (.tail _ hq)))
    have hpre : ∀ q ∈ [(I, oI), (C, oC), (D, lst c.ys)], q ∈ nw ++ ((I, oI) :: (C, oC) :: (D, lst c.ys) :: (c.ad ++ base)) := fun q hq => List.mem_append_right _ (List.mem_append_left _ hq)
    refine GcE.intro (⟨c.ys ++ [y], nw ++ c.ad, ps', c'', oc'⟩ : TgS) F' N' (fun p hp => ?_) (Off3.of fun p hp => ?_) (fun _ _ _ h => by cases h) ⟨rfl, hJ', hT', fun q hq => hoff' q (hin q (by simpa only [List.append_assoc] using hq)), fun p hp q hq => ?_⟩
    · rcases List.mem_cons.mp hp with rfl | hp
      · exact .tail _ (.tail _ (hpre _ (.head _)))
      rcases List.mem_cons.mp hp with rfl | hp
      · exact .tail _ (.tail _ (hpre _ (.tail _ (.head _))))
      rcases List.mem_cons.mp hp with rfl | hp
      · exact .tail _ (.tail _ (hpre _ (.tail _ (.tail _ (.head _)))))
      rcases List.mem_cons.mp hp with rfl | hp
      · exact .head _
      rcases List.mem_cons.mp hp with rfl | hp
      · exact .tail _ (.head _)
      · exact .tail _ (.tail _ (hin p (by simpa only [List.append_assoc] using hp)))
    · rcases List.mem_cons.mp hp with rfl | hp
      · exact ⟨(hoff' _ (hpre _ (.head _))).1.symm, (hoff' _ (hpre _ (.tail _ (.head _)))).1.symm, (hoff' _ (hpre _ (.tail _ (.tail _ (.head _))))).1.symm⟩
      rcases List.mem_cons.mp hp with rfl | hp
      · exact ⟨(hoff' _ (hpre _ (.head _))).2.symm, (hoff' _ (hpre _ (.tail _ (.head _)))).2.symm, (hoff' _ (hpre _ (.tail _ (.tail _ (.head _))))).2.symm⟩
      rcases List.mem_append.mp hp with hp | hp
      · rcases List.mem_append.mp hp with hp | hp
        · exact ⟨ap p hp _ (.head _), ap p hp _ (.tail _ (.head _)), ap p hp _ (.tail _ (.tail _ (.head _)))⟩
        · exact o3 p (.tail _ (.tail _ (List.mem_append_left _ hp)))
      · exact o3 p (.tail _ (.tail _ (List.mem_append_right _ hp)))
    · rcases List.mem_append.mp hp with hp | hp
      · exact ap p hp q (.tail _ (.tail _ (.tail _ (List.mem_append_right _ hq))))
      · exact hJ.ap p hp q hq
end
end
local macro_rules | `(tactic| k_lt $h:ident) => `(tactic| (replace $h := allLt_of $h; simp only [AllLt, and_true] at $h:ident))
section
noncomputable def lawFd : List Stmt × Scope := match PySem.Challenge.pw_wf0038_01.main.body.getLast? with
  | some (.FunctionDef _ _ b _ _ _ sc _ _ _) => (b, sc)
  | _ => ([], ⟨.module, [], false, false, []⟩)
noncomputable def lawRest (k : Nat) : List Stmt := lawFd.1.drop k
noncomputable def lawSc : Scope := lawFd.2
noncomputable abbrev lawCl (L : Nat) : List (Str × Addr) := [(Str.ofString "tops", L + 1 + 1 + 1 + 1 + 1 + 1 + 1), (Str.ofString "closed", L + 1 + 1 + 1 + 1 + 1 + 1), (Str.ofString "orders", L + 1 + 1 + 1 + 1 + 1), (Str.ofString "rows", L + 1 + 1 + 1 + 1), (Str.ofString "figures", L + 1 + 1 + 1), (Str.ofString "numbers", L + 1 + 1), (Str.ofString "drawn", L + 1)]
noncomputable abbrev lawA (dp un : Nat) (gd : Option (List Code)) (L a : Addr) (ccd : Value) (outer : List Env) : Around := ktrTop dp un gd (Str.ofString "law") lawSc L a ccd (lawCl L) outer
noncomputable abbrev lawE (L a : Addr) (ccd : Value) : Env := envX (Str.ofString "law") lawSc L a ccd (lawCl L)
theorem ints_filterMap {vs : List Value} {ns : List Int} (hi : IntsAre vs ns) : ∀ is : List Nat, IntsAre (is.filterMap (vs.toArray[·]?)) (is.filterMap (ns[·]?))
  | [] => .nil
  | i :: is => by
    have ih := ints_filterMap hi is
    rw [List.filterMap_cons, List.filterMap_cons, List.getElem?_toArray]
    cases hv : vs[i]? with
    | none =>
      have : ns[i]? = none := by rw [List.getElem?_eq_none_iff] at hv ⊢; rw [← hi.length]; exact hv
      rw [this]; exact ih
    | some v =>
      obtain ⟨k, t, rfl, hk⟩ := IntsAre.at hi i v hv
      rw [hk]; exact .cons k t ih
theorem sum_bounds : ∀ (ms : List Int), (∀ m ∈ ms, 0 ≤ m ∧ m < 1000000) → 0 ≤ ms.sum ∧ ms.sum ≤ ms.length * 1000000
  | [], _ => by decide
  | m :: ms, h => by
    have ih := sum_bounds ms fun x hx => h x (.tail _ hx)
    have h0 := h m (.head _)
    rw [List.sum_cons, List.length_cons]
    omega
theorem pick3 {vs : List Value} {ns : List Int} (hi : IntsAre vs ns) (lo hg st : Option Int) : ∃ ms, IntsAre (slicePick vs.toArray lo hg st).toList ms ∧ ms.length ≤ ns.length ∧ ∀ m ∈ ms, m ∈ ns := by
  refine ⟨_, ints_filterMap hi _, ?_, fun m hm => ?_⟩
  · rw [← (ints_filterMap hi _).length, ← hi.length]
    have h := slicePick_size_le vs.toArray lo hg st
    simpa [slicePick] using h
  · obtain ⟨i, -, h⟩ := List.mem_filterMap.mp hm
    exact List.mem_of_getElem? h
section
variable {w : World} {z : Env0} {dp un : Nat} {gd : Option (List Code)} {a : Addr} {ccd : Value} {outer : List Env} {A₀ : Around} {base g : Heap} {L : Nat} {s : Shared} {tk : Nat} {h₁ : Heap} {Q : Flow → Shared → Prop} {E : Value → Shared → Prop}
noncomputable def OffA (L D : Nat) : Prop := D ≠ L + 1 ∧ D ≠ L + 1 + 1 ∧ D ≠ L + 1 + 1 + 1 ∧ D ≠ L + 1 + 1 + 1 + 1 ∧ D ≠ L + 1 + 1 + 1 + 1 + 1 ∧ D ≠ L + 1 + 1 + 1 + 1 + 1 + 1 ∧ D ≠ L + 1 + 1 + 1 + 1 + 1 + 1 + 1 ∧ D ≠ 162 ∧ D ≠ 141 ∧ D ≠ 134
noncomputable def OffL (L : Nat) (l : Led) : Prop := ∀ q ∈ l, OffA L q.1
theorem OffL.nil {L : Nat} : OffL L [] := fun _ h => by cases h
theorem OffL.cons {L : Nat} {p : Addr × Obj} {l : Led} (h : OffA L p.1) (k : OffL L l) : OffL L (p :: l) := fun q hq => by
  rcases List.mem_cons.mp hq with rfl | hq
  · exact h
  · exact k q hq
theorem OffL.append {L : Nat} {l k : Led} (h : OffL L l) (h' : OffL L k) : OffL L (l ++ k) := fun q hq => by
  rcases List.mem_append.mp hq with hq | hq
  · exact h q hq
  · exact h' q hq
theorem OffA.of {L D : Nat} {base : Led} {co0 co1 co2 co3 co4 co5 co6 oL oY oS : Obj} (hs : ∀ p ∈ ((L + 1, co0) :: (L + 1 + 1, co1) :: (L + 1 + 1 + 1, co2) :: (L + 1 + 1 + 1 + 1, co3) :: (L + 1 + 1 + 1 + 1 + 1, co4) :: (L + 1 + 1 + 1 + 1 + 1 + 1, co5) :: (L + 1 + 1 + 1 + 1 + 1 + 1 + 1, co6) :: [(162, oL), (141, oY), (134, oS)]), p ∈ base) (h : ∀ p ∈ base, @Ne Nat p.1 D) : OffA L D := by
  have k : ∀ p ∈ ((L + 1, co0) :: (L + 1 + 1, co1) :: (L + 1 + 1 + 1, co2) :: (L + 1 + 1 + 1 + 1, co3) :: (L + 1 + 1 + 1 + 1 + 1, co4) :: (L + 1 + 1 + 1 + 1 + 1 + 1, co5) :: (L + 1 + 1 + 1 + 1 + 1 + 1 + 1, co6) :: [(162, oL), (141, oY), (134, oS)]), @Ne Nat p.1 D := fun p hp => h p (hs p hp)
  exact ⟨(k _ (.head _)).symm, (k _ (.tail _ (.head _))).symm, (k _ (.tail _ (.tail _ (.head _)))).symm, (k _ (.tail _ (.tail _ (.tail _ (.head _))))).symm, (k _ (.tail _ (.tail _ (.tail _ (.tail _ (.head _)))))).symm, (k _ (.tail _ (.tail _ (.tail _ (.tail _ (.tail _ (.head _))))))).symm, (k _ (.tail _ (.tail _ (.tail _ (.tail _ (.tail _ (.tail _ (.head _)))))))).symm, (k _ (.tail _ (.tail _ (.tail _ (.tail _ (.tail _ (.tail _ (.tail _ (.head _))))))))).symm, (k _ (.tail _ (.tail _ (.tail _ (.tail _ (.tail _ (.tail _ (.tail _ (.tail _ (.head _)))))))))).symm, (k _ (.tail _ (.tail _ (.tail _ (.tail _ (.tail _ (.tail _ (.tail _ (.tail _ (.tail _ (.head _))))))))))).symm⟩
theorem OffL.of {L : Nat} {ad base : Led} {co0 co1 co2 co3 co4 co5 co6 oL oY oS : Obj} (hs : ∀ p ∈ ((L + 1, co0) :: (L + 1 + 1, co1) :: (L + 1 + 1 + 1, co2) :: (L + 1 + 1 + 1 + 1, co3) :: (L + 1 + 1 + 1 + 1 + 1, co4) :: (L + 1 + 1 + 1 + 1 + 1 + 1, co5) :: (L + 1 + 1 + 1 + 1 + 1 + 1 + 1, co6) :: [(162, oL), (141, oY), (134, oS)]), p ∈ base) (ap : Apart ad base) : OffL L ad := fun q hq => OffA.of hs fun p hp => (ap q hq p hp).symm
end
section
namespace law0
noncomputable def epsP : World → Env0 → Nat → Nat → (Option (List Code)) → Addr → Value → (List Env) → Around → Heap → Heap → Nat → Shared → Nat → Heap → (Flow → Shared → Prop) → (Value → Shared → Prop) → Addr → (List Value) → (List Int) → (Str → Option Value) → Obj → Obj → Obj → Obj → Obj → Obj → Obj → Prop := fun w z dp un gd a ccd outer A₀ base g L s tk h₁ Q E ax its ss u co0 co1 co2 co3 co4 co5 co6 => ∀ (B : Below A₀ base outer g) (X : (hd.heap_1 w.params).In g) (T : Top z.p z.loose z.mean z.mg z.mb g) (cL : CodeHd base 166 162) (cY : CodeHd base 145 141) (cS : CodeHd base 138 134) (hdp : dp + 80 < recursionLimit) (hun : un + 300 < cLine) (hL : 162 < L) (hl : g.IsList ax its.toArray) (hi : IntsAre its ss) (hlen : ss.length ≤ 63) (cd0 : co0.data = Data.cell none) (F : Fr g L h₁ (kstB u [(Str.ofString "script", .ref ax)])) (N : News g L h₁ ((L + 1, co0) :: (L + 1 + 1, co1) :: (L + 1 + 1 + 1, co2) :: (L + 1 + 1 + 1 + 1, co3) :: (L + 1 + 1 + 1 + 1 + 1, co4) :: (L + 1 + 1 + 1 + 1 + 1 + 1, co5) :: (L + 1 + 1 + 1 + 1 + 1 + 1 + 1, co6) :: [(162, tabObj #[]), (141, tabObj #[]), (134, tabObj #[])])) (k : ∀ (h' : Heap) (tk' : Nat) (D : Nat) (ys : List Value) (ds : List Int) (e : Nat) (co0 : Obj), co0.data = Data.cell (some (.ref D)) → IntsAre ys ds → ds.length ≤ 16 → (∀ d ∈ ds, 0 ≤ d ∧ d < 1000000) → Fr g L h' (kstB u [(Str.ofString "script", .ref ax)]) → News g L h' ((D, W.listOf ys.toArray e) :: (L + 1, co0) :: (L + 1 + 1, co1) :: (L + 1 + 1 + 1, co2) :: (L + 1 + 1 + 1 + 1, co3) :: (L + 1 + 1 + 1 + 1 + 1, co4) :: (L + 1 + 1 + 1 + 1 + 1 + 1, co5) :: (L + 1 + 1 + 1 + 1 + 1 + 1 + 1, co6) :: [(162, tabObj #[]), (141, tabObj #[]), (134, tabObj #[])]) → OffA L D → wpAny (model PySem.Challenge.rw_wf0038_01.prog w) (lawA dp un gd L a ccd outer) (execs (lawRest 1) (lawE L a ccd)) Q E { s with heap := h', toks := tk' }), wpAny (model PySem.Challenge.rw_wf0038_01.prog w) (lawA dp un gd L a ccd outer) (execs (lawRest 0) (lawE L a ccd)) Q E { s with heap := h₁, toks := tk }
noncomputable abbrev epsT : Type := World × Env0 × Nat × Nat × (Option (List Code)) × Addr × Value × (List Env) × Around × Heap × Heap × Nat × Shared × Nat × Heap × (Flow → Shared → Prop) × (Value → Shared → Prop) × Addr × (List Value) × (List Int) × (Str → Option Value) × Obj × Obj × Obj × Obj × Obj × Obj × Obj
noncomputable abbrev epsQ : epsT → Prop := fun d => epsP d.1 d.2.1 d.2.2.1 d.2.2.2.1 d.2.2.2.2.1 d.2.2.2.2.2.1 d.2.2.2.2.2.2.1 d.2.2.2.2.2.2.2.1 d.2.2.2.2.2.2.2.2.1 d.2.2.2.2.2.2.2.2.2.1 d.2.2.2.2.2.2.2.2.2.2.1 d.2.2.2.2.2.2.2.2.2.2.2.1 d.2.2.2.2.2.2.2.2.2.2.2.2.1 d.2.2.2.2.2.2.2.2.2.2.2.2.2.1 d.2.2.2.2.2.2.2.2.2.2.2.2.2.2.1 d.2.2.2.2.2.2.2.2.2.2.2.2.2.2.2.1 d.2.2.2.2.2.2.2.2.2.2.2.2.2.2.2.2.1 d.2.2.2.2.2.2.2.2.2.2.2.2.2.2.2.2.2.1 d.2.2.2.2.2.2.2.2.2.2.2.2.2.2.2.2.2.2.1 d.2.2.2.2.2.2.2.2.2.2.2.2.2.2.2.2.2.2.2.1 d.2.2.2.2.2.2.2.2.2.2.2.2.2.2.2.2.2.2.2.2.1 d.2.2.2.2.2.2.2.2.2.2.2.2.2.2.2.2.2.2.2.2.2.1 d.2.2.2.2.2.2.2.2.2.2.2.2.2.2.2.2.2.2.2.2.2.2.1 d.2.2.2.2.2.2.2.2.2.2.2.2.2.2.2.2.2.2.2.2.2.2.2.1 d.2.2.2.2.2.2.2.2.2.2.2.2.2.2.2.2.2.2.2.2.2.2.2.2.1 d.2.2.2.2.2.2.2.2.2.2.2.2.2.2.2.2.2.2.2.2.2.2.2.2.2.1 d.2.2.2.2.2.2.2.2.2.2.2.2.2.2.2.2.2.2.2.2.2.2.2.2.2.2.1 d.2.2.2.2.2.2.2.2.2.2.2.2.2.2.2.2.2.2.2.2.2.2.2.2.2.2.2
theorem eN : Nonempty epsT := by walk_at "ne_all"
@[irreducible] noncomputable def eK : epsT := Pk epsT eN epsQ
@[irreducible] noncomputable def g := eK.2.2.2.2.2.2.2.2.2.2.1
@[irreducible] noncomputable def L := eK.2.2.2.2.2.2.2.2.2.2.2.1
theorem eC : epsP eK.1 eK.2.1 eK.2.2.1 eK.2.2.2.1 eK.2.2.2.2.1 eK.2.2.2.2.2.1 eK.2.2.2.2.2.2.1 eK.2.2.2.2.2.2.2.1 eK.2.2.2.2.2.2.2.2.1 eK.2.2.2.2.2.2.2.2.2.1 g L eK.2.2.2.2.2.2.2.2.2.2.2.2.1 eK.2.2.2.2.2.2.2.2.2.2.2.2.2.1 eK.2.2.2.2.2.2.2.2.2.2.2.2.2.2.1 eK.2.2.2.2.2.2.2.2.2.2.2.2.2.2.2.1 eK.2.2.2.2.2.2.2.2.2.2.2.2.2.2.2.2.1 eK.2.2.2.2.2.2.2.2.2.2.2.2.2.2.2.2.2.1 eK.2.2.2.2.2.2.2.2.2.2.2.2.2.2.2.2.2.2.1 eK.2.2.2.2.2.2.2.2.2.2.2.2.2.2.2.2.2.2.2.1 eK.2.2.2.2.2.2.2.2.2.2.2.2.2.2.2.2.2.2.2.2.1 eK.2.2.2.2.2.2.2.2.2.2.2.2.2.2.2.2.2.2.2.2.2.1 eK.2.2.2.2.2.2.2.2.2.2.2.2.2.2.2.2.2.2.2.2.2.2.1 eK.2.2.2.2.2.2.2.2.2.2.2.2.2.2.2.2.2.2.2.2.2.2.2.1 eK.2.2.2.2.2.2.2.2.2.2.2.2.2.2.2.2.2.2.2.2.2.2.2.2.1 eK.2.2.2.2.2.2.2.2.2.2.2.2.2.2.2.2.2.2.2.2.2.2.2.2.2.1 eK.2.2.2.2.2.2.2.2.2.2.2.2.2.2.2.2.2.2.2.2.2.2.2.2.2.2.1 eK.2.2.2.2.2.2.2.2.2.2.2.2.2.2.2.2.2.2.2.2.2.2.2.2.2.2.2 := by
  unfold epsP
  intro B X T cL cY cS hdp hun hL hl hi hlen cd0 F N k
  have hb' := (rfl : lawRest 0 = lawRest 0)
  have hs' := (rfl : lawSc = lawSc)
  conv at hb' => rhs; whnf
  conv at hs' => rhs; whnf
  unfold lawA lawE lawCl
  rw [hb', hs']
  clear hb' hs'
  refine wpAny_execs_cons ?_
  k_with_none
  k_with "execs cons Assign cons" => (refine Stop.go ?_)
  k_with "eval ListComp" => (refine Stop.go ?_)
  k_with "exec Assign cons ListComp" => (refine wpAny_Assign_Name ?_ (by with_unfolding_all rfl))
  k_steps
  refine Stop.mk ?_
  k_dflt (refine gc_eval (by k_asm) (by with_unfolding_all rfl) (by rfl) (by decide) ?_)
  k_steps
  refine Stop.mk ?_
  rename Fr _ _ _ _ => F1
  rename News _ _ _ _ => N1
  rename IntsAre _ (List.take _ _) => iF
  refine gck_list0 (fun i ys => ∃ ds : List Int, IntsAre ys ds ∧ ds.length = i ∧ ∀ d ∈ ds, 0 ≤ d ∧ d < 1000000) iF (by k_dflt k_mem) (by rw [List.length_take]; omega) F1 N1 ⟨[], .nil, rfl, fun _ h => by cases h⟩ (by rfl) (by decide) (by rfl) (by rfl) ?t2 ?f2
  case t2 =>
    intro I2 j ys k lI2 hk hJ2 m₂ t C oC D' oI h2 tk2 E' hx hC F2 N2 off ne
    clear F1 N1
    k_steps
    rename News _ _ _ _ => N'
    rename Fr _ _ _ _ => F'
    obtain ⟨ds, hiD, hlD, hrD⟩ := hJ2
    exact GcK.intro F' N' (fun _ h => h) ⟨ds ++ [k.fmod (10 ^ Int.toNat 6)], IntsAre.append hiD (.cons _ _ .nil), by rw [List.length_append, hlD]; rfl, fun d hd => by
      rcases List.mem_append.mp hd with hd | hd
      · exact hrD d hd
      · rw [List.mem_singleton.mp hd]
        exact ⟨Int.fmod_nonneg_of_pos _ (by decide), Int.fmod_lt_of_pos _ (by decide)⟩⟩
  case f2 =>
    intro ys g2 hJ D h2 tk2 F N o1
    clear F1 N1
    obtain ⟨ds, hiD, hlD, hrD⟩ := hJ
    rw [List.length_take] at hlD
    have hd16 : ds.length ≤ 16 := by omega
    replace N := (show News g _ h2 ((D, W.listOf ys.toArray ys.length) :: _) from N)
    have oD : OffA L D := OffA.of (all_cons.mpr ⟨by k_dflt k_mem, all_cons.mpr ⟨by k_dflt k_mem, all_cons.mpr ⟨by k_dflt k_mem, all_cons.mpr ⟨by k_dflt k_mem, all_cons.mpr ⟨by k_dflt k_mem, all_cons.mpr ⟨by k_dflt k_mem, all_cons.mpr ⟨by k_dflt k_mem, all_cons.mpr ⟨by k_dflt k_mem, all_cons.mpr ⟨by k_dflt k_mem, all_cons.mpr ⟨by k_dflt k_mem, all_nil⟩⟩⟩⟩⟩⟩⟩⟩⟩⟩) (off1_mem o1)
    clear o1
    have oD' : @Ne Nat D (L + 1) := oD.1
    k_steps
    refine Stop.mk ?_
    rename News _ _ _ _ => N'
    rename Fr _ _ _ _ => F'
    exact k _ _ D ys ds ys.length _ (by assumption) hiD hd16 hrD F' (sub_news N' (all_cons.mpr ⟨by k_dflt k_mem, all_cons.mpr ⟨by k_dflt k_mem, all_cons.mpr ⟨by k_dflt k_mem, all_cons.mpr ⟨by k_dflt k_mem, all_cons.mpr ⟨by k_dflt k_mem, all_cons.mpr ⟨by k_dflt k_mem, all_cons.mpr ⟨by k_dflt k_mem, all_cons.mpr ⟨by k_dflt k_mem, all_cons.mpr ⟨by k_dflt k_mem, all_cons.mpr ⟨by k_dflt k_mem, all_cons.mpr ⟨by k_dflt k_mem, all_nil⟩⟩⟩⟩⟩⟩⟩⟩⟩⟩⟩)) oD
end law0
theorem law0 {w : World} {z : Env0} {dp : Nat} {un : Nat} {gd : Option (List Code)} {a : Addr} {ccd : Value} {outer : List Env} {A₀ : Around} {base : Heap} {g : Heap} {L : Nat} {s : Shared} {tk : Nat} {h₁ : Heap} {Q : Flow → Shared → Prop} {E : Value → Shared → Prop} (B : Below A₀ base outer g) (X : (hd.heap_1 w.params).In g) (T : Top z.p z.loose z.mean z.mg z.mb g) (cL : CodeHd base 166 162) (cY : CodeHd base 145 141) (cS : CodeHd base 138 134) (hdp : dp + 80 < recursionLimit) (hun : un + 300 < cLine) (hL : 162 < L) {ax : Addr} {its : List Value} {ss : List Int} (hl : g.IsList ax its.toArray) (hi : IntsAre its ss) (hlen : ss.length ≤ 63) {u : Str → Option Value} {co0 : Obj} {co1 : Obj} {co2 : Obj} {co3 : Obj} {co4 : Obj} {co5 : Obj} {co6 : Obj} (cd0 : co0.data = Data.cell none) (F : Fr g L h₁ (kstB u [(Str.ofString "script", .ref ax)])) (N : News g L h₁ ((L + 1, co0) :: (L + 1 + 1, co1) :: (L + 1 + 1 + 1, co2) :: (L + 1 + 1 + 1 + 1, co3) :: (L + 1 + 1 + 1 + 1 + 1, co4) :: (L + 1 + 1 + 1 + 1 + 1 + 1, co5) :: (L + 1 + 1 + 1 + 1 + 1 + 1 + 1, co6) :: [(162, tabObj #[]), (141, tabObj #[]), (134, tabObj #[])])) (k : ∀ (h' : Heap) (tk' : Nat) (D : Nat) (ys : List Value) (ds : List Int) (e : Nat) (co0 : Obj), co0.data = Data.cell (some (.ref D)) → IntsAre ys ds → ds.length ≤ 16 → (∀ d ∈ ds, 0 ≤ d ∧ d < 1000000) → Fr g L h' (kstB u [(Str.ofString "script", .ref ax)]) → News g L h' ((D, W.listOf ys.toArray e) :: (L + 1, co0) :: (L + 1 + 1, co1) :: (L + 1 + 1 + 1, co2) :: (L + 1 + 1 + 1 + 1, co3) :: (L + 1 + 1 + 1 + 1 + 1, co4) :: (L + 1 + 1 + 1 + 1 + 1 + 1, co5) :: (L + 1 + 1 + 1 + 1 + 1 + 1 + 1, co6) :: [(162, tabObj #[]), (141, tabObj #[]), (134, tabObj #[])]) → OffA L D → wpAny (model PySem.Challenge.rw_wf0038_01.prog w) (lawA dp un gd L a ccd outer) (execs (lawRest 1) (lawE L a ccd)) Q E { s with heap := h', toks := tk' }) : wpAny (model PySem.Challenge.rw_wf0038_01.prog w) (lawA dp un gd L a ccd outer) (execs (lawRest 0) (lawE L a ccd)) Q E { s with heap := h₁, toks := tk } := Pk.all (T := law0.epsT) (ne := law0.eN) (Q := law0.epsQ) (by with_unfolding_all exact law0.eC) (w, z, dp, un, gd, a, ccd, outer, A₀, base, g, L, s, tk, h₁, Q, E, ax, its, ss, u, co0, co1, co2, co3, co4, co5, co6) B X T cL cY cS hdp hun hL hl hi hlen cd0 F N k
end
section
variable {w : World} {z : Env0} {dp un : Nat} {gd : Option (List Code)} {a : Addr} {ccd : Value} {outer : List Env} {A₀ : Around} {base g : Heap} {L : Nat} {s : Shared} {tk : Nat} {h₁ : Heap} {Q : Flow → Shared → Prop} {E : Value → Shared → Prop}
end
section
namespace law1
noncomputable def epsP : World → Env0 → Nat → Nat → (Option (List Code)) → Addr → Value → (List Env) → Around → Heap → Heap → Nat → Shared → Nat → Heap → (Flow → Shared → Prop) → (Value → Shared → Prop) → Nat → (List Value) → (List Int) → Nat → (Str → Option Value) → Obj → Obj → Obj → Obj → Obj → Obj → Obj → Prop := fun w z dp un gd a ccd outer A₀ base g L s tk h₁ Q E D ys ds e u co0 co1 co2 co3 co4 co5 co6 => ∀ (B : Below A₀ base outer g) (X : (hd.heap_1 w.params).In g) (T : Top z.p z.loose z.mean z.mg z.mb g) (cL : CodeHd base 166 162) (cY : CodeHd base 145 141) (cS : CodeHd base 138 134) (hdp : dp + 80 < recursionLimit) (hun : un + 300 < cLine) (hL : 162 < L) (hd : IntsAre ys ds) (hlen : ds.length ≤ 16) (hr : ∀ d ∈ ds, 0 ≤ d ∧ d < 1000000) (cd0 : co0.data = Data.cell (some (.ref D))) (cd1 : co1.data = Data.cell none) (F : Fr g L h₁ u) (N : News g L h₁ ((D, W.listOf ys.toArray e) :: (L + 1, co0) :: (L + 1 + 1, co1) :: (L + 1 + 1 + 1, co2) :: (L + 1 + 1 + 1 + 1, co3) :: (L + 1 + 1 + 1 + 1 + 1, co4) :: (L + 1 + 1 + 1 + 1 + 1 + 1, co5) :: (L + 1 + 1 + 1 + 1 + 1 + 1 + 1, co6) :: [(162, tabObj #[]), (141, tabObj #[]), (134, tabObj #[])])) (oD : OffA L D) (k : ∀ (h' : Heap) (tk' : Nat) (M : Nat) (zs : List Value) (ns : List Int) (e' : Nat) (co1 : Obj), co1.data = Data.cell (some (.ref M)) → IntsAre zs ns → ns.length = 4 → (∀ d ∈ ns, 0 ≤ d ∧ d < 100000000) → Fr g L h' u → News g L h' ((M, W.listOf zs.toArray e') :: (D, W.listOf ys.toArray e) :: (L + 1, co0) :: (L + 1 + 1, co1) :: (L + 1 + 1 + 1, co2) :: (L + 1 + 1 + 1 + 1, co3) :: (L + 1 + 1 + 1 + 1 + 1, co4) :: (L + 1 + 1 + 1 + 1 + 1 + 1, co5) :: (L + 1 + 1 + 1 + 1 + 1 + 1 + 1, co6) :: [(162, tabObj #[]), (141, tabObj #[]), (134, tabObj #[])]) → OffA L M → wpAny (model PySem.Challenge.rw_wf0038_01.prog w) (lawA dp un gd L a ccd outer) (execs (lawRest 2) (lawE L a ccd)) Q E { s with heap := h', toks := tk' }), wpAny (model PySem.Challenge.rw_wf0038_01.prog w) (lawA dp un gd L a ccd outer) (execs (lawRest 1) (lawE L a ccd)) Q E { s with heap := h₁, toks := tk }
noncomputable abbrev epsT : Type := World × Env0 × Nat × Nat × (Option (List Code)) × Addr × Value × (List Env) × Around × Heap × Heap × Nat × Shared × Nat × Heap × (Flow → Shared → Prop) × (Value → Shared → Prop) × Nat × (List Value) × (List Int) × Nat × (Str → Option Value) × Obj × Obj × Obj × Obj × Obj × Obj × Obj
noncomputable abbrev epsQ : epsT → Prop := fun d => epsP d.1 d.2.1 d.2.2.1 d.2.2.2.1 d.2.2.2.2.1 d.2.2.2.2.2.1 d.2.2.2.2.2.2.1 d.2.2.2.2.2.2.2.1 d.2.2.2.2.2.2.2.2.1 d.2.2.2.2.2.2.2.2.2.1 d.2.2.2.2.2.2.2.2.2.2.1 d.2.2.2.2.2.2.2.2.2.2.2.1 d.2.2.2.2.2.2.2.2.2.2.2.2.1 d.2.2.2.2.2.2.2.2.2.2.2.2.2.1 d.2.2.2.2.2.2.2.2.2.2.2.2.2.2.1 d.2.2.2.2.2.2.2.2.2.2.2.2.2.2.2.1 d.2.2.2.2.2.2.2.2.2.2.2.2.2.2.2.2.1 d.2.2.2.2.2.2.2.2.2.2.2.2.2.2.2.2.2.1 d.2.2.2.2.2.2.2.2.2.2.2.2.2.2.2.2.2.2.1 d.2.2.2.2.2.2.2.2.2.2.2.2.2.2.2.2.2.2.2.1 d.2.2.2.2.2.2.2.2.2.2.2.2.2.2.2.2.2.2.2.2.1 d.2.2.2.2.2.2.2.2.2.2.2.2.2.2.2.2.2.2.2.2.2.1 d.2.2.2.2.2.2.2.2.2.2.2.2.2.2.2.2.2.2.2.2.2.2.1 d.2.2.2.2.2.2.2.2.2.2.2.2.2.2.2.2.2.2.2.2.2.2.2.1 d.2.2.2.2.2.2.2.2.2.2.2.2.2.2.2.2.2.2.2.2.2.2.2.2.1 d.2.2.2.2.2.2.2.2.2.2.2.2.2.2.2.2.2.2.2.2.2.2.2.2.2.1 d.2.2.2.2.2.2.2.2.2.2.2.2.2.2.2.2.2.2.2.2.2.2.2.2.2.2.1 d.2.2.2.2.2.2.2.2.2.2.2.2.2.2.2.2.2.2.2.2.2.2.2.2.2.2.2.1 d.2.2.2.2.2.2.2.2.2.2.2.2.2.2.2.2.2.2.2.2.2.2.2.2.2.2.2.2
theorem eN : Nonempty epsT := by walk_at "ne_all"
@[irreducible] noncomputable def eK : epsT := Pk epsT eN epsQ
@[irreducible] noncomputable def g := eK.2.2.2.2.2.2.2.2.2.2.1
@[irreducible] noncomputable def L := eK.2.2.2.2.2.2.2.2.2.2.2.1
@[irreducible] noncomputable def D := eK.2.2.2.2.2.2.2.2.2.2.2.2.2.2.2.2.2.1
@[irreducible] noncomputable def e := eK.2.2.2.2.2.2.2.2.2.2.2.2.2.2.2.2.2.2.2.2.1
theorem eC : epsP eK.1 eK.2.1 eK.2.2.1 eK.2.2.2.1 eK.2.2.2.2.1 eK.2.2.2.2.2.1 eK.2.2.2.2.2.2.1 eK.2.2.2.2.2.2.2.1 eK.2.2.2.2.2.2.2.2.1 eK.2.2.2.2.2.2.2.2.2.1 g L eK.2.2.2.2.2.2.2.2.2.2.2.2.1 eK.2.2.2.2.2.2.2.2.2.2.2.2.2.1 eK.2.2.2.2.2.2.2.2.2.2.2.2.2.2.1 eK.2.2.2.2.2.2.2.2.2.2.2.2.2.2.2.1 eK.2.2.2.2.2.2.2.2.2.2.2.2.2.2.2.2.1 D eK.2.2.2.2.2.2.2.2.2.2.2.2.2.2.2.2.2.2.1 eK.2.2.2.2.2.2.2.2.2.2.2.2.2.2.2.2.2.2.2.1 e eK.2.2.2.2.2.2.2.2.2.2.2.2.2.2.2.2.2.2.2.2.2.1 eK.2.2.2.2.2.2.2.2.2.2.2.2.2.2.2.2.2.2.2.2.2.2.1 eK.2.2.2.2.2.2.2.2.2.2.2.2.2.2.2.2.2.2.2.2.2.2.2.1 eK.2.2.2.2.2.2.2.2.2.2.2.2.2.2.2.2.2.2.2.2.2.2.2.2.1 eK.2.2.2.2.2.2.2.2.2.2.2.2.2.2.2.2.2.2.2.2.2.2.2.2.2.1 eK.2.2.2.2.2.2.2.2.2.2.2.2.2.2.2.2.2.2.2.2.2.2.2.2.2.2.1 eK.2.2.2.2.2.2.2.2.2.2.2.2.2.2.2.2.2.2.2.2.2.2.2.2.2.2.2.1 eK.2.2.2.2.2.2.2.2.2.2.2.2.2.2.2.2.2.2.2.2.2.2.2.2.2.2.2.2 := by
  unfold epsP
  intro B X T cL cY cS hdp hun hL hd hlen hr cd0 cd1 F N oD k
  have hb' := (rfl : lawRest 1 = lawRest 1)
  have hs' := (rfl : lawSc = lawSc)
  conv at hb' => rhs; whnf
  conv at hs' => rhs; whnf
  unfold lawA lawE lawCl
  rw [hb', hs']
  clear hb' hs'
  refine wpAny_execs_cons ?_
  have hylen := hd.length
  have oD' : @Ne Nat D (L + 1 + 1) := oD.2.1
  k_with_none
  k_with "execs cons Assign cons" => (refine Stop.go ?_)
  k_with "eval ListComp" => (refine Stop.go ?_)
  k_with "exec Assign cons ListComp" => (refine wpAny_Assign_Name ?_ (by with_unfolding_all rfl))
  k_with "call type:enumerate" => (refine Stop.go ?_)
  k_steps
  refine Stop.mk ?_
  k_dflt (refine gc_eval (by k_asm) (by with_unfolding_all rfl) (by rfl) (by decide) ?_)
  k_steps
  refine Stop.mk ?_
  rename Fr _ _ _ _ => F1
  rename News _ _ _ _ => N1
  refine gcx_enum (ns := [10, 41, 15, 32]) (fun i zs ad => ad = [] ∧ ∃ ns : List Int, IntsAre zs ns ∧ ns.length = i ∧ ∀ d ∈ ns, 0 ≤ d ∧ d < 100000000) (.cons _ _ (.cons _ _ (.cons _ _ (.cons _ _ .nil)))) (by k_dflt k_mem) (by decide) F1 N1 ⟨rfl, [], .nil, rfl, fun _ h => by cases h⟩ (by rfl) (by decide) (by rfl) (by rfl) (by rfl) (by decide) ?t2 ?f2
  case t2 =>
    intro I2 j zs ad k lI2 hk hJ apb m₂ t t' C oC D' oI o2 h2 tk2 E' hx hy hC F2 N2 off ne
    clear F1 N1
    obtain ⟨rfl, ns, hin, hln, hrn⟩ := hJ
    simp only [List.nil_append] at N2
    k_with "subscriptTail Name Slice ref ref" => (refine Stop.go ?_)
    k_steps
    refine Stop.mk ?_
    rename News _ _ _ _ => N3
    rename Fr _ _ _ _ => F3
    obtain ⟨ms, him, hlm, hrm⟩ := pick3 hd (some (j : Int)) none (some 4)
    have hms : ms.length ≤ 16 := by omega
    with_unfolding_all (refine' kmk_slice3_lit F3 N3 ?sl ?sp ?sq ?sk ?so (e := rfl) ?_ ?ss ?st ?sz)
    case sl => kmk_list
    case sp => kmk_part
    case sq => kmk_part
    case sk => kmk_part
    case so => decide
    case ss => with_unfolding_all rfl
    case st => kmk_pure
    case sz => kmk_size
    intro D' h' F' N' l1
    (try k_lt l1)
    k_steps
    rename News _ _ _ _ => N'
    rename Fr _ _ _ _ => F'
    have hs0 := sum_bounds ms fun m hm => hr m (hrm m hm)
    have hk2 : 10 ≤ k ∧ k ≤ 41 := by
      have h := List.mem_of_getElem? hk
      simp only [List.mem_cons, List.not_mem_nil, or_false] at h
      rcases h with rfl | rfl | rfl | rfl <;> decide
    exact GcX.intro F' N' [] (all_cons.mpr ⟨by k_dflt k_mem, all_cons.mpr ⟨by k_dflt k_mem, all_cons.mpr ⟨by k_dflt k_mem, all_cons.mpr ⟨by k_dflt k_mem, all_cons.mpr ⟨by k_dflt k_mem, all_cons.mpr ⟨by k_dflt k_mem, all_cons.mpr ⟨by k_dflt k_mem, all_cons.mpr ⟨by k_dflt k_mem, all_cons.mpr ⟨by k_dflt k_mem, all_cons.mpr ⟨by k_dflt k_mem, all_cons.mpr ⟨by k_dflt k_mem, all_cons.mpr ⟨by k_dflt k_mem, all_cons.mpr ⟨by k_dflt k_mem, all_cons.mpr ⟨by k_dflt k_mem, all_cons.mpr ⟨by k_dflt k_mem, all_cons.mpr ⟨by k_dflt k_mem, all_nil⟩⟩⟩⟩⟩⟩⟩⟩⟩⟩⟩⟩⟩⟩⟩⟩) (fun _ h => by cases h) ⟨rfl, ns ++ [k + ms.sum], IntsAre.append hin (.cons _ _ .nil), by rw [List.length_append, hln]; rfl, fun d hd => by
      rcases List.mem_append.mp hd with hd | hd
      · exact hrn d hd
      · rw [List.mem_singleton.mp hd]
        omega⟩
  case f2 =>
    intro zs ad g2 hJ apb M h2 tk2 F N o2
    clear F1 N1
    obtain ⟨rfl, ns, hin, hln, hrn⟩ := hJ
    replace N := (show News g _ h2 ((M, W.listOf zs.toArray zs.length) :: _) from N)
    simp only [List.nil_append] at N o2
    have oM : OffA L M := OffA.of (all_cons.mpr ⟨by k_dflt k_mem, all_cons.mpr ⟨by k_dflt k_mem, all_cons.mpr ⟨by k_dflt k_mem, all_cons.mpr ⟨by k_dflt k_mem, all_cons.mpr ⟨by k_dflt k_mem, all_cons.mpr ⟨by k_dflt k_mem, all_cons.mpr ⟨by k_dflt k_mem, all_cons.mpr ⟨by k_dflt k_mem, all_cons.mpr ⟨by k_dflt k_mem, all_cons.mpr ⟨by k_dflt k_mem, all_nil⟩⟩⟩⟩⟩⟩⟩⟩⟩⟩) (off1_mem o2)
    clear o2
    have oM' : @Ne Nat M (L + 1 + 1) := oM.2.1
    k_steps
    refine Stop.mk ?_
    rename News _ _ _ _ => N'
    rename Fr _ _ _ _ => F'
    exact k _ _ M zs ns zs.length _ (by assumption) hin hln hrn F' (sub_news N' (all_cons.mpr ⟨by k_dflt k_mem, all_cons.mpr ⟨by k_dflt k_mem, all_cons.mpr ⟨by k_dflt k_mem, all_cons.mpr ⟨by k_dflt k_mem, all_cons.mpr ⟨by k_dflt k_mem, all_cons.mpr ⟨by k_dflt k_mem, all_cons.mpr ⟨by k_dflt k_mem, all_cons.mpr ⟨by k_dflt k_mem, all_cons.mpr ⟨by k_dflt k_mem, all_cons.mpr ⟨by k_dflt k_mem, all_cons.mpr ⟨by k_dflt k_mem, all_cons.mpr ⟨by k_dflt k_mem, all_nil⟩⟩⟩⟩⟩⟩⟩⟩⟩⟩⟩⟩)) oM
end law1
theorem law1 {w : World} {z : Env0} {dp : Nat} {un : Nat} {gd : Option (List Code)} {a : Addr} {ccd : Value} {outer : List Env} {A₀ : Around} {base : Heap} {g : Heap} {L : Nat} {s : Shared} {tk : Nat} {h₁ : Heap} {Q : Flow → Shared → Prop} {E : Value → Shared → Prop} (B : Below A₀ base outer g) (X : (hd.heap_1 w.params).In g) (T : Top z.p z.loose z.mean z.mg z.mb g) (cL : CodeHd base 166 162) (cY : CodeHd base 145 141) (cS : CodeHd base 138 134) (hdp : dp + 80 < recursionLimit) (hun : un + 300 < cLine) (hL : 162 < L) {D : Nat} {ys : List Value} {ds : List Int} {e : Nat} (hd : IntsAre ys ds) (hlen : ds.length ≤ 16) (hr : ∀ d ∈ ds, 0 ≤ d ∧ d < 1000000) {u : Str → Option Value} {co0 : Obj} {co1 : Obj} {co2 : Obj} {co3 : Obj} {co4 : Obj} {co5 : Obj} {co6 : Obj} (cd0 : co0.data = Data.cell (some (.ref D))) (cd1 : co1.data = Data.cell none) (F : Fr g L h₁ u) (N : News g L h₁ ((D, W.listOf ys.toArray e) :: (L + 1, co0) :: (L + 1 + 1, co1) :: (L + 1 + 1 + 1, co2) :: (L + 1 + 1 + 1 + 1, co3) :: (L + 1 + 1 + 1 + 1 + 1, co4) :: (L + 1 + 1 + 1 + 1 + 1 + 1, co5) :: (L + 1 + 1 + 1 + 1 + 1 + 1 + 1, co6) :: [(162, tabObj #[]), (141, tabObj #[]), (134, tabObj #[])])) (oD : OffA L D) (k : ∀ (h' : Heap) (tk' : Nat) (M : Nat) (zs : List Value) (ns : List Int) (e' : Nat) (co1 : Obj), co1.data = Data.cell (some (.ref M)) → IntsAre zs ns → ns.length = 4 → (∀ d ∈ ns, 0 ≤ d ∧ d < 100000000) → Fr g L h' u → News g L h' ((M, W.listOf zs.toArray e') :: (D, W.listOf ys.toArray e) :: (L + 1, co0) :: (L + 1 + 1, co1) :: (L + 1 + 1 + 1, co2) :: (L + 1 + 1 + 1 + 1, co3) :: (L + 1 + 1 + 1 + 1 + 1, co4) :: (L + 1 + 1 + 1 + 1 + 1 + 1, co5) :: (L + 1 + 1 + 1 + 1 + 1 + 1 + 1, co6) :: [(162, tabObj #[]), (141, tabObj #[]), (134, tabObj #[])]) → OffA L M → wpAny (model PySem.Challenge.rw_wf0038_01.prog w) (lawA dp un gd L a ccd outer) (execs (lawRest 2) (lawE L a ccd)) Q E { s with heap := h', toks := tk' }) : wpAny (model PySem.Challenge.rw_wf0038_01.prog w) (lawA dp un gd L a ccd outer) (execs (lawRest 1) (lawE L a ccd)) Q E { s with heap := h₁, toks := tk } := Pk.all (T := law1.epsT) (ne := law1.eN) (Q := law1.epsQ) (by with_unfolding_all exact law1.eC) (w, z, dp, un, gd, a, ccd, outer, A₀, base, g, L, s, tk, h₁, Q, E, D, ys, ds, e, u, co0, co1, co2, co3, co4, co5, co6) B X T cL cY cS hdp hun hL hd hlen hr cd0 cd1 F N oD k
end
section
variable {w : World} {z : Env0} {dp un : Nat} {gd : Option (List Code)} {a : Addr} {ccd : Value} {outer : List Env} {A₀ : Around} {base g : Heap} {L : Nat} {s : Shared} {tk : Nat} {h₁ : Heap} {Q : Flow → Shared → Prop} {E : Value → Shared → Prop}
structure FigsOk (fs : List (Nat × RowD)) : Prop where
  ok : ∀ (j : Nat) (f : Nat × RowD), fs[j]? = some f → 0 ≤ f.2.r1 ∧ f.2.r1 ≤ 2 ∧ 0 ≤ f.2.r0 ∧ f.2.r0 ≤ 2 ∧ 0 ≤ f.2.r2 ∧ f.2.r2 ≤ 3 ∧ f.2.r3 = (j : Int)
theorem FigsOk.snoc {fs : List (Nat × RowD)} (h : FigsOk fs) {f : Nat × RowD} (hf : 0 ≤ f.2.r1 ∧ f.2.r1 ≤ 2 ∧ 0 ≤ f.2.r0 ∧ f.2.r0 ≤ 2 ∧ 0 ≤ f.2.r2 ∧ f.2.r2 ≤ 3 ∧ f.2.r3 = (fs.length : Int)) : FigsOk (fs ++ [f]) := ⟨fun j g hj => by
  by_cases hlt : j < fs.length
  · rw [List.getElem?_append_left hlt] at hj
    exact h.ok j g hj
  · have e : j = fs.length := by
      have := (List.getElem?_eq_some_iff.mp hj).1
      rw [List.length_append] at this
      simp only [List.length_cons, List.length_nil] at this
      omega
    subst e
    rw [List.getElem?_append_right (Nat.le_refl _), Nat.sub_self] at hj
    cases hj
    exact hf⟩
theorem fig_new {h₀ h : Heap} {D : Nat} {x y v q : Int} {t0 t1 t2 t3 : Tok} {rest : Led} (N : News h₀ L h ((D, tupleO [.int x t0, .int y t1, .int v t2, .int q t3]) :: rest)) : ∃ r : RowD, r.r0 = x ∧ r.r1 = y ∧ r.r2 = v ∧ r.r3 = q ∧ News h₀ L h ((D, figO r) :: rest) := ⟨⟨x, y, v, q, t0, t1, t2, t3⟩, rfl, rfl, rfl, rfl, N⟩
noncomputable abbrev figsLed (fs : List (Nat × RowD)) : Led := fs.map fun f => (f.1, figO f.2)
noncomputable def at4 {α : Type} (a b c d : α) (n : Int) : α := if n = 0 then a else if n = 1 then b else if n = 2 then c else d
end
section
namespace law2
noncomputable def epsP : World → Env0 → Nat → Nat → (Option (List Code)) → Addr → Value → (List Env) → Around → Heap → Heap → Nat → Shared → Nat → Heap → (Flow → Shared → Prop) → (Value → Shared → Prop) → Nat → (List Value) → (List Int) → Nat → (Str → Option Value) → Obj → Obj → Obj → Obj → Obj → Obj → Obj → Led → Prop := fun w z dp un gd a ccd outer A₀ base g L s tk h₁ Q E M zs ns e u co0 co1 co2 co3 co4 co5 co6 rest => ∀ (B : Below A₀ base outer g) (X : (hd.heap_1 w.params).In g) (T : Top z.p z.loose z.mean z.mg z.mb g) (cL : CodeHd base 166 162) (cY : CodeHd base 145 141) (cS : CodeHd base 138 134) (hdp : dp + 80 < recursionLimit) (hun : un + 300 < cLine) (hL : 162 < L) (hn : IntsAre zs ns) (hlen : ns.length = 4) (hr : ∀ d ∈ ns, 0 ≤ d ∧ d < 100000000) (cd1 : co1.data = Data.cell (some (.ref M))) (cd2 : co2.data = Data.cell none) (F : Fr g L h₁ u) (N : News g L h₁ ((M, W.listOf zs.toArray e) :: (L + 1, co0) :: (L + 1 + 1, co1) :: (L + 1 + 1 + 1, co2) :: (L + 1 + 1 + 1 + 1, co3) :: (L + 1 + 1 + 1 + 1 + 1, co4) :: (L + 1 + 1 + 1 + 1 + 1 + 1, co5) :: (L + 1 + 1 + 1 + 1 + 1 + 1 + 1, co6) :: (162, tabObj #[]) :: (141, tabObj #[]) :: (134, tabObj #[]) :: rest)) (oM : OffA L M) (oR : OffL L rest) (k : ∀ (h' : Heap) (tk' : Nat) (f : FigD) (co2 : Obj), co2.data = Data.cell (some (.ref f.fl)) → (∀ n : Int, 0 ≤ n → n ≤ 3 → 0 ≤ (f.dat n).r1 ∧ (f.dat n).r1 ≤ 2 ∧ (f.dat n).r3 = n) → Fr g L h' u → News g L h' (f.led ++ ((M, W.listOf zs.toArray e) :: (L + 1, co0) :: (L + 1 + 1, co1) :: (L + 1 + 1 + 1, co2) :: (L + 1 + 1 + 1 + 1, co3) :: (L + 1 + 1 + 1 + 1 + 1, co4) :: (L + 1 + 1 + 1 + 1 + 1 + 1, co5) :: (L + 1 + 1 + 1 + 1 + 1 + 1 + 1, co6) :: (162, tabObj #[]) :: (141, tabObj #[]) :: (134, tabObj #[]) :: rest)) → OffL L f.led → wpAny (model PySem.Challenge.rw_wf0038_01.prog w) (lawA dp un gd L a ccd outer) (execs (lawRest 3) (lawE L a ccd)) Q E { s with heap := h', toks := tk' }), wpAny (model PySem.Challenge.rw_wf0038_01.prog w) (lawA dp un gd L a ccd outer) (execs (lawRest 2) (lawE L a ccd)) Q E { s with heap := h₁, toks := tk }
noncomputable abbrev epsT : Type := World × Env0 × Nat × Nat × (Option (List Code)) × Addr × Value × (List Env) × Around × Heap × Heap × Nat × Shared × Nat × Heap × (Flow → Shared → Prop) × (Value → Shared → Prop) × Nat × (List Value) × (List Int) × Nat × (Str → Option Value) × Obj × Obj × Obj × Obj × Obj × Obj × Obj × Led
noncomputable abbrev epsQ : epsT → Prop := fun d => epsP d.1 d.2.1 d.2.2.1 d.2.2.2.1 d.2.2.2.2.1 d.2.2.2.2.2.1 d.2.2.2.2.2.2.1 d.2.2.2.2.2.2.2.1 d.2.2.2.2.2.2.2.2.1 d.2.2.2.2.2.2.2.2.2.1 d.2.2.2.2.2.2.2.2.2.2.1 d.2.2.2.2.2.2.2.2.2.2.2.1 d.2.2.2.2.2.2.2.2.2.2.2.2.1 d.2.2.2.2.2.2.2.2.2.2.2.2.2.1 d.2.2.2.2.2.2.2.2.2.2.2.2.2.2.1 d.2.2.2.2.2.2.2.2.2.2.2.2.2.2.2.1 d.2.2.2.2.2.2.2.2.2.2.2.2.2.2.2.2.1 d.2.2.2.2.2.2.2.2.2.2.2.2.2.2.2.2.2.1 d.2.2.2.2.2.2.2.2.2.2.2.2.2.2.2.2.2.2.1 d.2.2.2.2.2.2.2.2.2.2.2.2.2.2.2.2.2.2.2.1 d.2.2.2.2.2.2.2.2.2.2.2.2.2.2.2.2.2.2.2.2.1 d.2.2.2.2.2.2.2.2.2.2.2.2.2.2.2.2.2.2.2.2.2.1 d.2.2.2.2.2.2.2.2.2.2.2.2.2.2.2.2.2.2.2.2.2.2.1 d.2.2.2.2.2.2.2.2.2.2.2.2.2.2.2.2.2.2.2.2.2.2.2.1 d.2.2.2.2.2.2.2.2.2.2.2.2.2.2.2.2.2.2.2.2.2.2.2.2.1 d.2.2.2.2.2.2.2.2.2.2.2.2.2.2.2.2.2.2.2.2.2.2.2.2.2.1 d.2.2.2.2.2.2.2.2.2.2.2.2.2.2.2.2.2.2.2.2.2.2.2.2.2.2.1 d.2.2.2.2.2.2.2.2.2.2.2.2.2.2.2.2.2.2.2.2.2.2.2.2.2.2.2.1 d.2.2.2.2.2.2.2.2.2.2.2.2.2.2.2.2.2.2.2.2.2.2.2.2.2.2.2.2.1 d.2.2.2.2.2.2.2.2.2.2.2.2.2.2.2.2.2.2.2.2.2.2.2.2.2.2.2.2.2
theorem eN : Nonempty epsT := by walk_at "ne_all"
@[irreducible] noncomputable def eK : epsT := Pk epsT eN epsQ
@[irreducible] noncomputable def g := eK.2.2.2.2.2.2.2.2.2.2.1
@[irreducible] noncomputable def L := eK.2.2.2.2.2.2.2.2.2.2.2.1
@[irreducible] noncomputable def M := eK.2.2.2.2.2.2.2.2.2.2.2.2.2.2.2.2.2.1
@[irreducible] noncomputable def zs := eK.2.2.2.2.2.2.2.2.2.2.2.2.2.2.2.2.2.2.1
@[irreducible] noncomputable def e := eK.2.2.2.2.2.2.2.2.2.2.2.2.2.2.2.2.2.2.2.2.1
@[irreducible] noncomputable def co0 := eK.2.2.2.2.2.2.2.2.2.2.2.2.2.2.2.2.2.2.2.2.2.2.1
@[irreducible] noncomputable def co1 := eK.2.2.2.2.2.2.2.2.2.2.2.2.2.2.2.2.2.2.2.2.2.2.2.1
@[irreducible] noncomputable def co2 := eK.2.2.2.2.2.2.2.2.2.2.2.2.2.2.2.2.2.2.2.2.2.2.2.2.1
@[irreducible] noncomputable def co3 := eK.2.2.2.2.2.2.2.2.2.2.2.2.2.2.2.2.2.2.2.2.2.2.2.2.2.1
@[irreducible] noncomputable def co4 := eK.2.2.2.2.2.2.2.2.2.2.2.2.2.2.2.2.2.2.2.2.2.2.2.2.2.2.1
@[irreducible] noncomputable def co5 := eK.2.2.2.2.2.2.2.2.2.2.2.2.2.2.2.2.2.2.2.2.2.2.2.2.2.2.2.1
@[irreducible] noncomputable def co6 := eK.2.2.2.2.2.2.2.2.2.2.2.2.2.2.2.2.2.2.2.2.2.2.2.2.2.2.2.2.1
@[irreducible] noncomputable def rest := eK.2.2.2.2.2.2.2.2.2.2.2.2.2.2.2.2.2.2.2.2.2.2.2.2.2.2.2.2.2
theorem eC : epsP eK.1 eK.2.1 eK.2.2.1 eK.2.2.2.1 eK.2.2.2.2.1 eK.2.2.2.2.2.1 eK.2.2.2.2.2.2.1 eK.2.2.2.2.2.2.2.1 eK.2.2.2.2.2.2.2.2.1 eK.2.2.2.2.2.2.2.2.2.1 g L eK.2.2.2.2.2.2.2.2.2.2.2.2.1 eK.2.2.2.2.2.2.2.2.2.2.2.2.2.1 eK.2.2.2.2.2.2.2.2.2.2.2.2.2.2.1 eK.2.2.2.2.2.2.2.2.2.2.2.2.2.2.2.1 eK.2.2.2.2.2.2.2.2.2.2.2.2.2.2.2.2.1 M zs eK.2.2.2.2.2.2.2.2.2.2.2.2.2.2.2.2.2.2.2.1 e eK.2.2.2.2.2.2.2.2.2.2.2.2.2.2.2.2.2.2.2.2.2.1 co0 co1 co2 co3 co4 co5 co6 rest := by
  unfold epsP
  intro B X T cL cY cS hdp hun hL hn hlen hr cd1 cd2 F N oM oR k
  have hb' := (rfl : lawRest 2 = lawRest 2)
  have hs' := (rfl : lawSc = lawSc)
  conv at hb' => rhs; whnf
  conv at hs' => rhs; whnf
  unfold lawA lawE lawCl
  rw [hb', hs']
  clear hb' hs'
  refine wpAny_execs_cons ?_
  have hnlen := hn.length
  have oM' : @Ne Nat M (L + 1 + 1 + 1) := oM.2.2.1
  k_with_none
  k_with "execs cons Assign cons" => (refine Stop.go ?_)
  k_with "eval ListComp" => (refine Stop.go ?_)
  k_with "exec Assign cons ListComp" => (refine wpAny_Assign_Name ?_ (by with_unfolding_all rfl))
  k_with "call type:enumerate" => (refine Stop.go ?_)
  k_steps
  refine Stop.mk ?_
  k_dflt (refine gc_eval (by k_asm) (by with_unfolding_all rfl) (by rfl) (by decide) ?_)
  k_steps
  refine Stop.mk ?_
  rename Fr _ _ _ _ => F1
  rename News _ _ _ _ => N1
  refine gcx_enum (fun i ys ad => ∃ fs : List (Nat × RowD), fs.length = i ∧ ys = fs.map (fun f => Value.ref f.1) ∧ ad = figsLed fs.reverse ∧ FigsOk fs) hn (by k_dflt k_mem) (by omega) F1 N1 ⟨[], rfl, rfl, rfl, ⟨fun _ _ h => by cases h⟩⟩ (by rfl) (by decide) (by rfl) (by rfl) (by rfl) (by decide) ?t2 ?f2
  case t2 =>
    intro I2 j ys ad k lI2 hk hJ apb m₂ t t' C oC D' oI o2 h2 tk2 E' hx hy hC F2 N2 off ne
    clear F1 N1
    k_steps
    rename Fr _ _ _ _ => F'
    rename News _ _ _ _ => N'
    rename And _ _ => lt'
    obtain ⟨fs, hfl, rfl, rfl, hfo⟩ := hJ
    obtain ⟨r, e0, e1, e2, e3, N'⟩ := fig_new N'
    refine GcX.one F' N' (fun p hp => hp) lt' ⟨fs ++ [(_, r)], by rw [List.length_append, hfl]; rfl, by rw [List.map_append]; rfl, by rw [List.reverse_append]; rfl, hfo.snoc ?_⟩
    show 0 ≤ r.r1 ∧ r.r1 ≤ 2 ∧ 0 ≤ r.r0 ∧ r.r0 ≤ 2 ∧ 0 ≤ r.r2 ∧ r.r2 ≤ 3 ∧ r.r3 = (fs.length : Int)
    rw [e0, e1, e2, e3, hfl]
    have f3 : ∀ x : Int, 0 ≤ x.fmod 3 ∧ x.fmod 3 ≤ 2 := fun x => ⟨Int.fmod_nonneg_of_pos _ (by decide), Int.le_of_lt_add_one (Int.fmod_lt_of_pos _ (by decide))⟩
    have f4 : ∀ x : Int, 0 ≤ x.fmod 4 ∧ x.fmod 4 ≤ 3 := fun x => ⟨Int.fmod_nonneg_of_pos _ (by decide), Int.le_of_lt_add_one (Int.fmod_lt_of_pos _ (by decide))⟩
    exact ⟨(f3 _).1, (f3 _).2, (f3 _).1, (f3 _).2, (f4 _).1, (f4 _).2, rfl⟩
  case f2 =>
    intro ys ad g2 hJ apb D h2 tk2 F N o2
    clear F1 N1
    obtain ⟨fs, hfl, rfl, rfl, hfo⟩ := hJ
    rw [hlen] at hfl
    obtain ⟨⟨p0, r0⟩, ⟨p1, r1⟩, ⟨p2, r2⟩, ⟨p3, r3⟩, rfl⟩ := four_of fs hfl
    have hsb : ∀ p ∈ ((L + 1, co0) :: (L + 1 + 1, co1) :: (L + 1 + 1 + 1, co2) :: (L + 1 + 1 + 1 + 1, co3) :: (L + 1 + 1 + 1 + 1 + 1, co4) :: (L + 1 + 1 + 1 + 1 + 1 + 1, co5) :: (L + 1 + 1 + 1 + 1 + 1 + 1 + 1, co6) :: [(162, tabObj #[]), (141, tabObj #[]), (134, tabObj #[])]), p ∈ ((M, W.listOf zs.toArray e) :: (L + 1, co0) :: (L + 1 + 1, co1) :: (L + 1 + 1 + 1, co2) :: (L + 1 + 1 + 1 + 1, co3) :: (L + 1 + 1 + 1 + 1 + 1, co4) :: (L + 1 + 1 + 1 + 1 + 1 + 1, co5) :: (L + 1 + 1 + 1 + 1 + 1 + 1 + 1, co6) :: (162, tabObj #[]) :: (141, tabObj #[]) :: (134, tabObj #[]) :: rest) := all_cons.mpr ⟨by k_dflt k_mem, all_cons.mpr ⟨by k_dflt k_mem, all_cons.mpr ⟨by k_dflt k_mem, all_cons.mpr ⟨by k_dflt k_mem, all_cons.mpr ⟨by k_dflt k_mem, all_cons.mpr ⟨by k_dflt k_mem, all_cons.mpr ⟨by k_dflt k_mem, all_cons.mpr ⟨by k_dflt k_mem, all_cons.mpr ⟨by k_dflt k_mem, all_cons.mpr ⟨by k_dflt k_mem, all_nil⟩⟩⟩⟩⟩⟩⟩⟩⟩⟩
    have oF : OffL L (figsLed [(p0, r0), (p1, r1), (p2, r2), (p3, r3)].reverse) := OffL.of hsb apb
    have oD : OffA L D := OffA.of (fun p hp => List.mem_append_right _ (hsb p hp)) (off1_mem o2)
    clear o2 apb
    have q0 : OffA L p0 := oF (p0, figO r0) (.tail _ (.tail _ (.tail _ (.head _))))
    have q1 : OffA L p1 := oF (p1, figO r1) (.tail _ (.tail _ (.head _)))
    have q2 : OffA L p2 := oF (p2, figO r2) (.tail _ (.head _))
    have q3 : OffA L p3 := oF (p3, figO r3) (.head _)
    have oFf : OffL L ((D, W.listOf [Value.ref p0, .ref p1, .ref p2, .ref p3].toArray 4) :: (p0, figO r0) :: (p1, figO r1) :: (p2, figO r2) :: [(p3, figO r3)]) := .cons oD (.cons q0 (.cons q1 (.cons q2 (.cons q3 .nil))))
    have z0 := q0.2.2.1
    have z1 := q1.2.2.1
    have z2 := q2.2.2.1
    have z3 := q3.2.2.1
    have z4 := oD.2.2.1
    have oRc : ∀ q ∈ rest, @Ne Nat q.1 (L + 1 + 1 + 1) := fun q hq => (oR q hq).2.2.1
    k_with "k_all" => (exact oRc)
    replace N := (show News g _ h2 ((D, W.listOf [Value.ref p0, .ref p1, .ref p2, .ref p3].toArray 4) :: (p3, figO r3) :: (p2, figO r2) :: (p1, figO r1) :: (p0, figO r0) :: _) from N)
    k_steps
    refine Stop.mk ?_
    rename News _ _ _ _ => N'
    rename Fr _ _ _ _ => F'
    refine k _ _ ⟨D, 4, at4 p0 p1 p2 p3, at4 r0 r1 r2 r3⟩ _ (by assumption) ?_ F' (sub_news N' (all_cons.mpr ⟨.head _, all_cons.mpr ⟨.tail _ (.tail _ (.tail _ (.tail _ (.head _)))), all_cons.mpr ⟨.tail _ (.tail _ (.tail _ (.head _))), all_cons.mpr ⟨.tail _ (.tail _ (.head _)), all_cons.mpr ⟨.tail _ (.head _), fun p hp => .tail _ (.tail _ (.tail _ (.tail _ (.tail _ hp))))⟩⟩⟩⟩⟩)) ?_
    · intro n h0 h3
      have g0 := hfo.ok 0 _ rfl
      have g1 := hfo.ok 1 _ rfl
      have g2 := hfo.ok 2 _ rfl
      have g3 := hfo.ok 3 _ rfl
      have : n = 0 ∨ n = 1 ∨ n = 2 ∨ n = 3 := by first | exact orN4 (by omega) | exact orI4 (by omega) (by omega)
      rcases this with rfl | rfl | rfl | rfl
      · exact ⟨g0.1, g0.2.1, g0.2.2.2.2.2.2⟩
      · exact ⟨g1.1, g1.2.1, g1.2.2.2.2.2.2⟩
      · exact ⟨g2.1, g2.2.1, g2.2.2.2.2.2.2⟩
      · exact ⟨g3.1, g3.2.1, g3.2.2.2.2.2.2⟩
    · exact oFf
end law2
theorem law2 {w : World} {z : Env0} {dp : Nat} {un : Nat} {gd : Option (List Code)} {a : Addr} {ccd : Value} {outer : List Env} {A₀ : Around} {base : Heap} {g : Heap} {L : Nat} {s : Shared} {tk : Nat} {h₁ : Heap} {Q : Flow → Shared → Prop} {E : Value → Shared → Prop} (B : Below A₀ base outer g) (X : (hd.heap_1 w.params).In g) (T : Top z.p z.loose z.mean z.mg z.mb g) (cL : CodeHd base 166 162) (cY : CodeHd base 145 141) (cS : CodeHd base 138 134) (hdp : dp + 80 < recursionLimit) (hun : un + 300 < cLine) (hL : 162 < L) {M : Nat} {zs : List Value} {ns : List Int} {e : Nat} (hn : IntsAre zs ns) (hlen : ns.length = 4) (hr : ∀ d ∈ ns, 0 ≤ d ∧ d < 100000000) {u : Str → Option Value} {co0 : Obj} {co1 : Obj} {co2 : Obj} {co3 : Obj} {co4 : Obj} {co5 : Obj} {co6 : Obj} (cd1 : co1.data = Data.cell (some (.ref M))) (cd2 : co2.data = Data.cell none) (F : Fr g L h₁ u) {rest : Led} (N : News g L h₁ ((M, W.listOf zs.toArray e) :: (L + 1, co0) :: (L + 1 + 1, co1) :: (L + 1 + 1 + 1, co2) :: (L + 1 + 1 + 1 + 1, co3) :: (L + 1 + 1 + 1 + 1 + 1, co4) :: (L + 1 + 1 + 1 + 1 + 1 + 1, co5) :: (L + 1 + 1 + 1 + 1 + 1 + 1 + 1, co6) :: (162, tabObj #[]) :: (141, tabObj #[]) :: (134, tabObj #[]) :: rest)) (oM : OffA L M) (oR : OffL L rest) (k : ∀ (h' : Heap) (tk' : Nat) (f : FigD) (co2 : Obj), co2.data = Data.cell (some (.ref f.fl)) → (∀ n : Int, 0 ≤ n → n ≤ 3 → 0 ≤ (f.dat n).r1 ∧ (f.dat n).r1 ≤ 2 ∧ (f.dat n).r3 = n) → Fr g L h' u → News g L h' (f.led ++ ((M, W.listOf zs.toArray e) :: (L + 1, co0) :: (L + 1 + 1, co1) :: (L + 1 + 1 + 1, co2) :: (L + 1 + 1 + 1 + 1, co3) :: (L + 1 + 1 + 1 + 1 + 1, co4) :: (L + 1 + 1 + 1 + 1 + 1 + 1, co5) :: (L + 1 + 1 + 1 + 1 + 1 + 1 + 1, co6) :: (162, tabObj #[]) :: (141, tabObj #[]) :: (134, tabObj #[]) :: rest)) → OffL L f.led → wpAny (model PySem.Challenge.rw_wf0038_01.prog w) (lawA dp un gd L a ccd outer) (execs (lawRest 3) (lawE L a ccd)) Q E { s with heap := h', toks := tk' }) : wpAny (model PySem.Challenge.rw_wf0038_01.prog w) (lawA dp un gd L a ccd outer) (execs (lawRest 2) (lawE L a ccd)) Q E { s with heap := h₁, toks := tk } := Pk.all (T := law2.epsT) (ne := law2.eN) (Q := law2.epsQ) (by with_unfolding_all exact law2.eC) (w, z, dp, un, gd, a, ccd, outer, A₀, base, g, L, s, tk, h₁, Q, E, M, zs, ns, e, u, co0, co1, co2, co3, co4, co5, co6, rest) B X T cL cY cS hdp hun hL hn hlen hr cd1 cd2 F N oM oR k
end
section
variable {w : World} {z : Env0} {dp un : Nat} {gd : Option (List Code)} {a : Addr} {ccd : Value} {outer : List Env} {A₀ : Around} {base g : Heap} {L : Nat} {s : Shared} {tk : Nat} {h₁ : Heap} {Q : Flow → Shared → Prop} {E : Value → Shared → Prop}
end
end
section
section
variable {prog : Program} {w : World} {A : Around} {E : Value → Shared → Prop} {s : Shared} {h₀ : Heap} {L : Addr} {news : Led} {Q : Value → Shared → Prop}
theorem strs_item {value slice : PySem.Expr} {l : Addr} {n : Int} {u t1 t2 t3 : Tok} (N : News h₀ L s.heap news) (hm : (l, tupleO [.str (Str.ofString "a") t1, .str (Str.ofString "ab") t2, .str (Str.ofString "b") t3]) ∈ news) (h0 : 0 ≤ n) (h2 : n ≤ 2) (h : ∀ t, Q (.str (strOf n) t) s)
    (hs : subscripted slice false (.ref l) (.int n u) = operate [.ref l, .int n u] (getItem (.ref l) (.int n u)) := by with_unfolding_all rfl) :
    wpAny (model prog w) A (subscriptTail value slice (.ref l) (.int n u)) Q E s := by
  have : n = 0 ∨ n = 1 ∨ n = 2 := by first | exact orN3 (by omega) | exact orI3 (by omega) (by omega)
  rcases this with rfl | rfl | rfl
  · exact item_tupleT (j := 0) (x := .str (Str.ofString "a") t1) (News.isTup N hm) (by decide) (by decide) rfl rfl (h _) hs
  · exact item_tupleT (j := 1) (x := .str (Str.ofString "ab") t2) (News.isTup N hm) (by decide) (by decide) rfl rfl (h _) hs
  · exact item_tupleT (j := 2) (x := .str (Str.ofString "b") t3) (News.isTup N hm) (by decide) (by decide) rfl rfl (h _) hs
end
section
variable {w : World} {z : Env0} {dp un : Nat} {gd : Option (List Code)} {a : Addr} {ccd : Value} {outer : List Env} {A₀ : Around} {base g : Heap} {L : Nat} {s : Shared} {tk : Nat} {h₁ : Heap} {Q : Flow → Shared → Prop} {E : Value → Shared → Prop}
structure RowsLike (f : FigD) (rs : List (Nat × RowD)) : Prop where
  ok : ∀ (j : Nat) (r : Nat × RowD), rs[j]? = some r → r.2.r0 = (f.dat (j : Int)).r0 ∧ r.2.r1 = (f.dat (j : Int)).r1 ∧ r.2.r2 = (f.dat (j : Int)).r2 ∧ r.2.r3 = (f.dat (j : Int)).r3
theorem RowsLike.snoc {f : FigD} {rs : List (Nat × RowD)} (h : RowsLike f rs) {r : Nat × RowD} (hf : r.2.r0 = (f.dat (rs.length : Int)).r0 ∧ r.2.r1 = (f.dat (rs.length : Int)).r1 ∧ r.2.r2 = (f.dat (rs.length : Int)).r2 ∧ r.2.r3 = (f.dat (rs.length : Int)).r3) : RowsLike f (rs ++ [r]) := ⟨fun j g hj => by
  by_cases hlt : j < rs.length
  · rw [List.getElem?_append_left hlt] at hj
    exact h.ok j g hj
  · have e : j = rs.length := by
      have := (List.getElem?_eq_some_iff.mp hj).1
      rw [List.length_append] at this
      simp only [List.length_cons, List.length_nil] at this
      omega
    subst e
    rw [List.getElem?_append_right (Nat.le_refl _), Nat.sub_self] at hj
    cases hj
    exact hf⟩
noncomputable abbrev rowsLed (rs : List (Nat × RowD)) : Led := rs.map fun r => (r.1, rowO r.2)
theorem row_new {h₀ h : Heap} {D : Nat} {x y v q : Int} {t0 t1 t2 t3 : Tok} {rest : Led} (N : News h₀ L h ((D, tupleO [.int x t0, .str (strOf y) t1, .int v t2, .int q t3]) :: rest)) : ∃ r : RowD, r.r0 = x ∧ r.r1 = y ∧ r.r2 = v ∧ r.r3 = q ∧ News h₀ L h ((D, rowO r) :: rest) := ⟨⟨x, y, v, q, t0, t1, t2, t3⟩, rfl, rfl, rfl, rfl, N⟩
end
section
namespace law3
noncomputable def epsX : { P : World → Env0 → Nat → Nat → (Option (List Code)) → Addr → Value → (List Env) → Around → Heap → Heap → Nat → Shared → Nat → Heap → (Flow → Shared → Prop) → (Value → Shared → Prop) → Led → (Str → Option Value) → Obj → Obj → Obj → Obj → Obj → Obj → Obj → Nat → Nat → (Int → Nat) → (Int → RowD) → Prop // (∀ w z dp un gd a ccd outer A₀ base g L s tk h₁ Q E rest u co0 co1 co2 co3 co4 co5 co6 fl fe fa fd, P w z dp un gd a ccd outer A₀ base g L s tk h₁ Q E rest u co0 co1 co2 co3 co4 co5 co6 fl fe fa fd) → ∀ (w : World) (z : Env0) (dp : Nat) (un : Nat) (gd : Option (List Code)) (a : Addr) (ccd : Value) (outer : List Env) (A₀ : Around) (base : Heap) (g : Heap) (L : Nat) (s : Shared) (tk : Nat) (h₁ : Heap) (Q : Flow → Shared → Prop) (E : Value → Shared → Prop) (B : Below A₀ base outer g) (X : (hd.heap_1 w.params).In g) (T : Top z.p z.loose z.mean z.mg z.mb g) (cL : CodeHd base 166 162) (cY : CodeHd base 145 141) (cS : CodeHd base 138 134) (hdp : dp + 80 < recursionLimit) (hun : un + 300 < cLine) (hL : 162 < L) (f : FigD) (hf : ∀ n : Int, 0 ≤ n → n ≤ 3 → 0 ≤ (f.dat n).r1 ∧ (f.dat n).r1 ≤ 2 ∧ (f.dat n).r3 = n) (rest : Led) (u : Str → Option Value) (co0 : Obj) (co1 : Obj) (co2 : Obj) (co3 : Obj) (co4 : Obj) (co5 : Obj) (co6 : Obj) (cd2 : co2.data = Data.cell (some (.ref f.fl))) (cd3 : co3.data = Data.cell none) (F : Fr g L h₁ u) (N : News g L h₁ (f.led ++ ((L + 1, co0) :: (L + 1 + 1, co1) :: (L + 1 + 1 + 1, co2) :: (L + 1 + 1 + 1 + 1, co3) :: (L + 1 + 1 + 1 + 1 + 1, co4) :: (L + 1 + 1 + 1 + 1 + 1 + 1, co5) :: (L + 1 + 1 + 1 + 1 + 1 + 1 + 1, co6) :: (162, tabObj #[]) :: (141, tabObj #[]) :: (134, tabObj #[]) :: rest))) (oF : OffL L f.led) (oR : OffL L rest) (k : ∀ (h' : Heap) (tk' : Nat) (r : RowsD) (co3 : Obj), co3.data = Data.cell (some (.ref r.rl)) → (∀ n : Int, 0 ≤ n → n ≤ 3 → (r.dat n).r0 = (f.dat n).r0 ∧ (r.dat n).r1 = (f.dat n).r1 ∧ (r.dat n).r2 = (f.dat n).r2 ∧ (r.dat n).r3 = (f.dat n).r3) → Fr g L h' u → News g L h' (r.led ++ (f.led ++ ((L + 1, co0) :: (L + 1 + 1, co1) :: (L + 1 + 1 + 1, co2) :: (L + 1 + 1 + 1 + 1, co3) :: (L + 1 + 1 + 1 + 1 + 1, co4) :: (L + 1 + 1 + 1 + 1 + 1 + 1, co5) :: (L + 1 + 1 + 1 + 1 + 1 + 1 + 1, co6) :: (162, tabObj #[]) :: (141, tabObj #[]) :: (134, tabObj #[]) :: rest))) → OffL L r.led → wpAny (model PySem.Challenge.rw_wf0038_01.prog w) (lawA dp un gd L a ccd outer) (execs (lawRest 4) (lawE L a ccd)) Q E { s with heap := h', toks := tk' }), wpAny (model PySem.Challenge.rw_wf0038_01.prog w) (lawA dp un gd L a ccd outer) (execs (lawRest 3) (lawE L a ccd)) Q E { s with heap := h₁, toks := tk } } := ⟨_, by
  intro h_eps w z dp un gd a ccd outer A₀ base g L s tk h₁ Q E B X T cL cY cS hdp hun hL f hf rest u co0 co1 co2 co3 co4 co5 co6 cd2 cd3 F N oF oR k
  have hb' := (rfl : lawRest 3 = lawRest 3)
  have hs' := (rfl : lawSc = lawSc)
  conv at hb' => rhs; whnf
  conv at hs' => rhs; whnf
  unfold lawA lawE lawCl
  rw [hb', hs']
  clear hb' hs'
  refine wpAny_execs_cons ?_
  obtain ⟨fl, fe, fa, fd⟩ := f
  revert k; revert oR; revert oF; revert N; revert F; revert cd3; revert cd2; revert hf; revert hL; revert hun; revert hdp; revert cS; revert cY; revert cL; revert T; revert X; revert B
  exact h_eps w z dp un gd a ccd outer A₀ base g L s tk h₁ Q E rest u co0 co1 co2 co3 co4 co5 co6 fl fe fa fd⟩
noncomputable abbrev epsT : Type := World × Env0 × Nat × Nat × (Option (List Code)) × Addr × Value × (List Env) × Around × Heap × Heap × Nat × Shared × Nat × Heap × (Flow → Shared → Prop) × (Value → Shared → Prop) × Led × (Str → Option Value) × Obj × Obj × Obj × Obj × Obj × Obj × Obj × Nat × Nat × (Int → Nat) × (Int → RowD)
noncomputable abbrev epsQ : epsT → Prop := fun d => epsX.1 d.1 d.2.1 d.2.2.1 d.2.2.2.1 d.2.2.2.2.1 d.2.2.2.2.2.1 d.2.2.2.2.2.2.1 d.2.2.2.2.2.2.2.1 d.2.2.2.2.2.2.2.2.1 d.2.2.2.2.2.2.2.2.2.1 d.2.2.2.2.2.2.2.2.2.2.1 d.2.2.2.2.2.2.2.2.2.2.2.1 d.2.2.2.2.2.2.2.2.2.2.2.2.1 d.2.2.2.2.2.2.2.2.2.2.2.2.2.1 d.2.2.2.2.2.2.2.2.2.2.2.2.2.2.1 d.2.2.2.2.2.2.2.2.2.2.2.2.2.2.2.1 d.2.2.2.2.2.2.2.2.2.2.2.2.2.2.2.2.1 d.2.2.2.2.2.2.2.2.2.2.2.2.2.2.2.2.2.1 d.2.2.2.2.2.2.2.2.2.2.2.2.2.2.2.2.2.2.1 d.2.2.2.2.2.2.2.2.2.2.2.2.2.2.2.2.2.2.2.1 d.2.2.2.2.2.2.2.2.2.2.2.2.2.2.2.2.2.2.2.2.1 d.2.2.2.2.2.2.2.2.2.2.2.2.2.2.2.2.2.2.2.2.2.1 d.2.2.2.2.2.2.2.2.2.2.2.2.2.2.2.2.2.2.2.2.2.2.1 d.2.2.2.2.2.2.2.2.2.2.2.2.2.2.2.2.2.2.2.2.2.2.2.1 d.2.2.2.2.2.2.2.2.2.2.2.2.2.2.2.2.2.2.2.2.2.2.2.2.1 d.2.2.2.2.2.2.2.2.2.2.2.2.2.2.2.2.2.2.2.2.2.2.2.2.2.1 d.2.2.2.2.2.2.2.2.2.2.2.2.2.2.2.2.2.2.2.2.2.2.2.2.2.2.1 d.2.2.2.2.2.2.2.2.2.2.2.2.2.2.2.2.2.2.2.2.2.2.2.2.2.2.2.1 d.2.2.2.2.2.2.2.2.2.2.2.2.2.2.2.2.2.2.2.2.2.2.2.2.2.2.2.2.1 d.2.2.2.2.2.2.2.2.2.2.2.2.2.2.2.2.2.2.2.2.2.2.2.2.2.2.2.2.2
theorem eN : Nonempty epsT := by walk_at "ne_all"
@[irreducible] noncomputable def eK : epsT := Pk epsT eN epsQ
@[irreducible] noncomputable def a := eK.2.2.2.2.2.1
@[irreducible] noncomputable def g := eK.2.2.2.2.2.2.2.2.2.2.1
@[irreducible] noncomputable def L := eK.2.2.2.2.2.2.2.2.2.2.2.1
@[irreducible] noncomputable def rest := eK.2.2.2.2.2.2.2.2.2.2.2.2.2.2.2.2.2.1
@[irreducible] noncomputable def co0 := eK.2.2.2.2.2.2.2.2.2.2.2.2.2.2.2.2.2.2.2.1
@[irreducible] noncomputable def co1 := eK.2.2.2.2.2.2.2.2.2.2.2.2.2.2.2.2.2.2.2.2.1
@[irreducible] noncomputable def co2 := eK.2.2.2.2.2.2.2.2.2.2.2.2.2.2.2.2.2.2.2.2.2.1
@[irreducible] noncomputable def co3 := eK.2.2.2.2.2.2.2.2.2.2.2.2.2.2.2.2.2.2.2.2.2.2.1
@[irreducible] noncomputable def co4 := eK.2.2.2.2.2.2.2.2.2.2.2.2.2.2.2.2.2.2.2.2.2.2.2.1
@[irreducible] noncomputable def co5 := eK.2.2.2.2.2.2.2.2.2.2.2.2.2.2.2.2.2.2.2.2.2.2.2.2.1
@[irreducible] noncomputable def co6 := eK.2.2.2.2.2.2.2.2.2.2.2.2.2.2.2.2.2.2.2.2.2.2.2.2.2.1
@[irreducible] noncomputable def fl := eK.2.2.2.2.2.2.2.2.2.2.2.2.2.2.2.2.2.2.2.2.2.2.2.2.2.2.1
@[irreducible] noncomputable def fe := eK.2.2.2.2.2.2.2.2.2.2.2.2.2.2.2.2.2.2.2.2.2.2.2.2.2.2.2.1
@[irreducible] noncomputable def fa := eK.2.2.2.2.2.2.2.2.2.2.2.2.2.2.2.2.2.2.2.2.2.2.2.2.2.2.2.2.1
@[irreducible] noncomputable def fd := eK.2.2.2.2.2.2.2.2.2.2.2.2.2.2.2.2.2.2.2.2.2.2.2.2.2.2.2.2.2
theorem eC : epsX.1 eK.1 eK.2.1 eK.2.2.1 eK.2.2.2.1 eK.2.2.2.2.1 a eK.2.2.2.2.2.2.1 eK.2.2.2.2.2.2.2.1 eK.2.2.2.2.2.2.2.2.1 eK.2.2.2.2.2.2.2.2.2.1 g L eK.2.2.2.2.2.2.2.2.2.2.2.2.1 eK.2.2.2.2.2.2.2.2.2.2.2.2.2.1 eK.2.2.2.2.2.2.2.2.2.2.2.2.2.2.1 eK.2.2.2.2.2.2.2.2.2.2.2.2.2.2.2.1 eK.2.2.2.2.2.2.2.2.2.2.2.2.2.2.2.2.1 rest eK.2.2.2.2.2.2.2.2.2.2.2.2.2.2.2.2.2.2.1 co0 co1 co2 co3 co4 co5 co6 fl fe fa fd := by
  dsimp only [epsX]
  intro B X T cL cY cS hdp hun hL hf cd2 cd3 F N oF oR k
  dsimp only [List.nil_append, List.cons_append] at N
  k_with_none
  k_with "execs cons Assign cons" => (refine Stop.go ?_)
  k_with "eval ListComp" => (refine Stop.go ?_)
  k_with "exec Assign cons ListComp" => (refine wpAny_Assign_Name ?_ (by with_unfolding_all rfl))
  k_steps
  refine Stop.mk ?_
  k_dflt (refine gc_eval (by k_asm) (by with_unfolding_all rfl) (by rfl) (by decide) ?_)
  k_steps
  refine Stop.mk ?_
  rename Fr _ _ _ _ => F1
  rename News _ _ _ _ => N1
  refine gcx_listA (fun i ys ad => ∃ rs : List (Nat × RowD), rs.length = i ∧ ys = rs.map (fun r => Value.ref r.1) ∧ ad = rowsLed rs.reverse ∧ RowsLike ⟨fl, fe, fa, fd⟩ rs) (fun i m₂ => m₂ (Str.ofString "one") = some (.int (fd (i : Int)).r0 (fd (i : Int)).t0) ∧ m₂ (Str.ofString "two") = some (.int (fd (i : Int)).r1 (fd (i : Int)).t1) ∧ m₂ (Str.ofString "three") = some (.int (fd (i : Int)).r2 (fd (i : Int)).t2) ∧ m₂ (Str.ofString "place") = some (.int (fd (i : Int)).r3 (fd (i : Int)).t3)) (by k_dflt k_mem) (by exact (by decide : 4 ≤ 64)) F1 N1 ⟨[], rfl, rfl, rfl, ⟨fun _ _ h => by cases h⟩⟩ (by rfl) (by decide) (by rfl) ?aa ?t2 ?f2
  case aa =>
    intro i v s' C m' Q' E' hi hv hn N' kk
    have hi4 : i < 4 := hi
    have hvr : v = .ref (fa (i : Int)) ∧ (fa (i : Int), figO (fd (i : Int))) ∈ [(fa 0, figO (fd 0)), (fa 1, figO (fd 1)), (fa 2, figO (fd 2)), (fa 3, figO (fd 3))] := by
      have : i = 0 ∨ i = 1 ∨ i = 2 ∨ i = 3 := by first | exact orN4 (by omega) | exact orI4 (by omega) (by omega)
      rcases this with rfl | rfl | rfl | rfl <;> cases hv
      · exact ⟨rfl, .head _⟩
      · exact ⟨rfl, .tail _ (.head _)⟩
      · exact ⟨rfl, .tail _ (.tail _ (.head _))⟩
      · exact ⟨rfl, .tail _ (.tail _ (.tail _ (.head _)))⟩
    obtain ⟨rfl, hmem⟩ := hvr
    have hmem' := List.mem_append_left ((L + 1, co0) :: (L + 1 + 1, co1) :: (L + 1 + 1 + 1, co2) :: (L + 1 + 1 + 1 + 1, co3) :: (L + 1 + 1 + 1 + 1 + 1, co4) :: (L + 1 + 1 + 1 + 1 + 1 + 1, co5) :: (L + 1 + 1 + 1 + 1 + 1 + 1 + 1, co6) :: (162, tabObj #[]) :: (141, tabObj #[]) :: (134, tabObj #[]) :: rest) hmem
    refine asg_quad (by rfl) (by rfl) (by rfl) (by rfl) (by decide) (by decide) (by decide) (by decide) (by decide) (by decide) (by rfl) (by rfl) hn (News.isTup N' (.tail _ hmem')) fun h' tk' m₂ a b c => kk h' tk' m₂ a b c
  case t2 =>
    intro I2 j ys ad lI2 hj hJ apb m₂ C oC D' oI h2 tk2 E' hx hC F2 N2 off ne
    clear F1 N1
    obtain ⟨hx1, hx2, hx3, hx4⟩ := hx
    have hj4 : j < 4 := hj
    obtain ⟨hg0, hg1, hg2⟩ := hf (j : Int) (by omega) (by omega)
    replace hg0 : 0 ≤ (fd (j : Int)).r1 := hg0
    replace hg1 : (fd (j : Int)).r1 ≤ 2 := hg1
    k_with "subscriptTail Tuple" => ((k_dflt (refine strs_item (by k_asm) (by k_mem) (by k_asm) (by k_asm) ?_)); intro tmenu')
    k_steps
    rename Fr _ _ _ _ => F'
    rename News _ _ _ _ => N'
    rename And _ _ => lt'
    obtain ⟨rs, hfl, rfl, rfl, hfo⟩ := hJ
    obtain ⟨r, e0, e1, e2, e3, N'⟩ := row_new N'
    refine GcX.one F' N' (fun p hp => .tail _ hp) lt' ⟨rs ++ [(_, r)], by rw [List.length_append, hfl]; rfl, by rw [List.map_append]; rfl, by rw [List.reverse_append]; rfl, hfo.snoc ?_⟩
    show r.r0 = (fd (rs.length : Int)).r0 ∧ r.r1 = (fd (rs.length : Int)).r1 ∧ r.r2 = (fd (rs.length : Int)).r2 ∧ r.r3 = (fd (rs.length : Int)).r3
    rw [e0, e1, e2, e3, hfl]
    exact ⟨rfl, rfl, rfl, rfl⟩
  case f2 =>
    intro ys ad g2 hJ apb D h2 tk2 F N o2
    clear F1 N1
    obtain ⟨rs, hfl, rfl, rfl, hfo⟩ := hJ
    obtain ⟨⟨p0, r0⟩, ⟨p1, r1⟩, ⟨p2, r2⟩, ⟨p3, r3⟩, rfl⟩ := four_of rs hfl
    have hsb : ∀ p ∈ ((L + 1, co0) :: (L + 1 + 1, co1) :: (L + 1 + 1 + 1, co2) :: (L + 1 + 1 + 1 + 1, co3) :: (L + 1 + 1 + 1 + 1 + 1, co4) :: (L + 1 + 1 + 1 + 1 + 1 + 1, co5) :: (L + 1 + 1 + 1 + 1 + 1 + 1 + 1, co6) :: [(162, tabObj #[]), (141, tabObj #[]), (134, tabObj #[])]), p ∈ ((fl, W.listOf [Value.ref (fa 0), .ref (fa 1), .ref (fa 2), .ref (fa 3)].toArray fe) :: (fa 0, figO (fd 0)) :: (fa 1, figO (fd 1)) :: (fa 2, figO (fd 2)) :: (fa 3, figO (fd 3)) :: (L + 1, co0) :: (L + 1 + 1, co1) :: (L + 1 + 1 + 1, co2) :: (L + 1 + 1 + 1 + 1, co3) :: (L + 1 + 1 + 1 + 1 + 1, co4) :: (L + 1 + 1 + 1 + 1 + 1 + 1, co5) :: (L + 1 + 1 + 1 + 1 + 1 + 1 + 1, co6) :: (162, tabObj #[]) :: (141, tabObj #[]) :: (134, tabObj #[]) :: rest) := all_cons.mpr ⟨by k_dflt k_mem, all_cons.mpr ⟨by k_dflt k_mem, all_cons.mpr ⟨by k_dflt k_mem, all_cons.mpr ⟨by k_dflt k_mem, all_cons.mpr ⟨by k_dflt k_mem, all_cons.mpr ⟨by k_dflt k_mem, all_cons.mpr ⟨by k_dflt k_mem, all_cons.mpr ⟨by k_dflt k_mem, all_cons.mpr ⟨by k_dflt k_mem, all_cons.mpr ⟨by k_dflt k_mem, all_nil⟩⟩⟩⟩⟩⟩⟩⟩⟩⟩
    have oB : OffL L (rowsLed [(p0, r0), (p1, r1), (p2, r2), (p3, r3)].reverse) := OffL.of hsb apb
    have oD : OffA L D := OffA.of (fun p hp => List.mem_append_right _ (hsb p hp)) (off1_mem o2)
    clear o2 apb
    have q0 : OffA L p0 := oB (p0, rowO r0) (.tail _ (.tail _ (.tail _ (.head _))))
    have q1 : OffA L p1 := oB (p1, rowO r1) (.tail _ (.tail _ (.head _)))
    have q2 : OffA L p2 := oB (p2, rowO r2) (.tail _ (.head _))
    have q3 : OffA L p3 := oB (p3, rowO r3) (.head _)
    have oFf : OffL L ((D, W.listOf [Value.ref p0, .ref p1, .ref p2, .ref p3].toArray 4) :: (p0, rowO r0) :: (p1, rowO r1) :: (p2, rowO r2) :: [(p3, rowO r3)]) := .cons oD (.cons q0 (.cons q1 (.cons q2 (.cons q3 .nil))))
    have m0 : OffA L fl := oF (fl, W.listOf [Value.ref (fa 0), .ref (fa 1), .ref (fa 2), .ref (fa 3)].toArray fe) (.head _)
    have m1 : OffA L (fa 0) := oF (fa 0, figO (fd 0)) (.tail _ (.head _))
    have m2 : OffA L (fa 1) := oF (fa 1, figO (fd 1)) (.tail _ (.tail _ (.head _)))
    have m3 : OffA L (fa 2) := oF (fa 2, figO (fd 2)) (.tail _ (.tail _ (.tail _ (.head _))))
    have m4 : OffA L (fa 3) := oF (fa 3, figO (fd 3)) (.tail _ (.tail _ (.tail _ (.tail _ (.head _)))))
    have z0 := q0.2.2.2.1
    have z1 := q1.2.2.2.1
    have z2 := q2.2.2.2.1
    have z3 := q3.2.2.2.1
    have z4 := oD.2.2.2.1
    have z5 := m0.2.2.2.1
    have z6 := m1.2.2.2.1
    have z7 := m2.2.2.2.1
    have z8 := m3.2.2.2.1
    have z9 := m4.2.2.2.1
    have oRc : ∀ q ∈ rest, @Ne Nat q.1 (L + 1 + 1 + 1 + 1) := fun q hq => (oR q hq).2.2.2.1
    k_with "k_all" => (exact oRc)
    replace N := (show News g _ h2 ((D, W.listOf [Value.ref p0, .ref p1, .ref p2, .ref p3].toArray 4) :: (p3, rowO r3) :: (p2, rowO r2) :: (p1, rowO r1) :: (p0, rowO r0) :: _) from N)
    k_steps
    refine Stop.mk ?_
    rename News _ _ _ _ => N'
    rename Fr _ _ _ _ => F'
    refine k _ _ ⟨D, 4, at4 p0 p1 p2 p3, at4 r0 r1 r2 r3⟩ _ (by assumption) ?_ F' (sub_news N' (all_cons.mpr ⟨.head _, all_cons.mpr ⟨.tail _ (.tail _ (.tail _ (.tail _ (.head _)))), all_cons.mpr ⟨.tail _ (.tail _ (.tail _ (.head _))), all_cons.mpr ⟨.tail _ (.tail _ (.head _)), all_cons.mpr ⟨.tail _ (.head _), fun p hp => .tail _ (.tail _ (.tail _ (.tail _ (.tail _ hp))))⟩⟩⟩⟩⟩)) ?_
    · intro n h0 h3
      have g0 := hfo.ok 0 _ rfl
      have g1 := hfo.ok 1 _ rfl
      have g2 := hfo.ok 2 _ rfl
      have g3 := hfo.ok 3 _ rfl
      have : n = 0 ∨ n = 1 ∨ n = 2 ∨ n = 3 := by first | exact orN4 (by omega) | exact orI4 (by omega) (by omega)
      rcases this with rfl | rfl | rfl | rfl
      · exact g0
      · exact g1
      · exact g2
      · exact g3
    · exact oFf
end law3
theorem law3 {w : World} {z : Env0} {dp : Nat} {un : Nat} {gd : Option (List Code)} {a : Addr} {ccd : Value} {outer : List Env} {A₀ : Around} {base : Heap} {g : Heap} {L : Nat} {s : Shared} {tk : Nat} {h₁ : Heap} {Q : Flow → Shared → Prop} {E : Value → Shared → Prop} (B : Below A₀ base outer g) (X : (hd.heap_1 w.params).In g) (T : Top z.p z.loose z.mean z.mg z.mb g) (cL : CodeHd base 166 162) (cY : CodeHd base 145 141) (cS : CodeHd base 138 134) (hdp : dp + 80 < recursionLimit) (hun : un + 300 < cLine) (hL : 162 < L) {f : FigD} (hf : ∀ n : Int, 0 ≤ n → n ≤ 3 → 0 ≤ (f.dat n).r1 ∧ (f.dat n).r1 ≤ 2 ∧ (f.dat n).r3 = n) {rest : Led} {u : Str → Option Value} {co0 : Obj} {co1 : Obj} {co2 : Obj} {co3 : Obj} {co4 : Obj} {co5 : Obj} {co6 : Obj} (cd2 : co2.data = Data.cell (some (.ref f.fl))) (cd3 : co3.data = Data.cell none) (F : Fr g L h₁ u) (N : News g L h₁ (f.led ++ ((L + 1, co0) :: (L + 1 + 1, co1) :: (L + 1 + 1 + 1, co2) :: (L + 1 + 1 + 1 + 1, co3) :: (L + 1 + 1 + 1 + 1 + 1, co4) :: (L + 1 + 1 + 1 + 1 + 1 + 1, co5) :: (L + 1 + 1 + 1 + 1 + 1 + 1 + 1, co6) :: (162, tabObj #[]) :: (141, tabObj #[]) :: (134, tabObj #[]) :: rest))) (oF : OffL L f.led) (oR : OffL L rest) (k : ∀ (h' : Heap) (tk' : Nat) (r : RowsD) (co3 : Obj), co3.data = Data.cell (some (.ref r.rl)) → (∀ n : Int, 0 ≤ n → n ≤ 3 → (r.dat n).r0 = (f.dat n).r0 ∧ (r.dat n).r1 = (f.dat n).r1 ∧ (r.dat n).r2 = (f.dat n).r2 ∧ (r.dat n).r3 = (f.dat n).r3) → Fr g L h' u → News g L h' (r.led ++ (f.led ++ ((L + 1, co0) :: (L + 1 + 1, co1) :: (L + 1 + 1 + 1, co2) :: (L + 1 + 1 + 1 + 1, co3) :: (L + 1 + 1 + 1 + 1 + 1, co4) :: (L + 1 + 1 + 1 + 1 + 1 + 1, co5) :: (L + 1 + 1 + 1 + 1 + 1 + 1 + 1, co6) :: (162, tabObj #[]) :: (141, tabObj #[]) :: (134, tabObj #[]) :: rest))) → OffL L r.led → wpAny (model PySem.Challenge.rw_wf0038_01.prog w) (lawA dp un gd L a ccd outer) (execs (lawRest 4) (lawE L a ccd)) Q E { s with heap := h', toks := tk' }) : wpAny (model PySem.Challenge.rw_wf0038_01.prog w) (lawA dp un gd L a ccd outer) (execs (lawRest 3) (lawE L a ccd)) Q E { s with heap := h₁, toks := tk } := law3.epsX.2 (fun w z dp un gd a ccd outer A₀ base g L s tk h₁ Q E rest u co0 co1 co2 co3 co4 co5 co6 fl fe fa fd => Pk.all (T := law3.epsT) (ne := law3.eN) (Q := law3.epsQ) (by with_unfolding_all exact law3.eC) (w, z, dp, un, gd, a, ccd, outer, A₀, base, g, L, s, tk, h₁, Q, E, rest, u, co0, co1, co2, co3, co4, co5, co6, fl, fe, fa, fd)) w z dp un gd a ccd outer A₀ base g L s tk h₁ Q E B X T cL cY cS hdp hun hL f hf rest u co0 co1 co2 co3 co4 co5 co6 cd2 cd3 F N oF oR k
end
section
variable {w : World} {z : Env0} {dp un : Nat} {gd : Option (List Code)} {a : Addr} {ccd : Value} {outer : List Env} {A₀ : Around} {base g : Heap} {L : Nat} {s : Shared} {tk : Nat} {h₁ : Heap} {Q : Flow → Shared → Prop} {E : Value → Shared → Prop}
end
end
section
structure KeyGood (k : KeysD) : Prop where
  ok : k.Ok
  sg : k.Sg
  c2 : k.c2 = 3
  d0 : k.d0 ≠ 0
  d1 : k.d1 ≠ 0
  d2 : k.d2 ≠ 0
theorem menu_good (x : Int) : (-2 ≤ menuAt (x.fmod 4) ∧ menuAt (x.fmod 4) ≤ 3) ∧ menuAt (x.fmod 4) ≠ 0 := by
  have h1 : 0 ≤ x.fmod 4 := Int.fmod_nonneg_of_pos _ (by decide)
  have h2 : x.fmod 4 < 4 := Int.fmod_lt_of_pos _ (by decide)
  generalize x.fmod 4 = c at *
  have : c = 0 ∨ c = 1 ∨ c = 2 ∨ c = 3 := by first | exact orN4 (by omega) | exact orI4 (by omega) (by omega)
  rcases this with rfl | rfl | rfl | rfl <;> decide
theorem keyGood_of {k : KeysD} {num turn : Int} (h : k.ks = keysOf num turn) : KeyGood k := by
  have ho := keys_ok h
  simp only [KeysD.ks, keysOf, List.cons.injEq, Prod.mk.injEq, and_true] at h
  obtain ⟨⟨h1, h1'⟩, ⟨h2, h2'⟩, h3, h3'⟩ := h
  refine ⟨ho, ⟨?_, ?_, ?_⟩, h3, ?_, ?_, ?_⟩
  · rw [h1']; exact (menu_good _).1
  · rw [h2']; exact (menu_good _).1
  · rw [h3']; exact (menu_good _).1
  · rw [h1']; exact (menu_good _).2
  · rw [h2']; exact (menu_good _).2
  · rw [h3']; exact (menu_good _).2
structure KeysGood (ks : List KeysD) : Prop where
  ok : ∀ (j : Nat) (k : KeysD), ks[j]? = some k → KeyGood k
theorem KeysGood.snoc {ks : List KeysD} (h : KeysGood ks) {k : KeysD} (hf : KeyGood k) : KeysGood (ks ++ [k]) := ⟨fun j g hj => by
  rcases List.mem_append.mp (List.mem_of_getElem? hj) with hm | hm
  · obtain ⟨i, hi⟩ := List.mem_iff_getElem?.mp hm
    exact h.ok i g hi
  · rw [List.mem_singleton.mp hm]; exact hf⟩
theorem three_of {α : Type} (l : List α) (h : l.length = 3) : ∃ a b c, l = [a, b, c] := by
  match l, h with
  | [a, b, c], _ => exact ⟨a, b, c, rfl⟩
noncomputable abbrev keysLed : List KeysD → Led
  | [] => []
  | k :: r => k.led ++ keysLed r
section
variable {w : World} {z : Env0} {dp un : Nat} {gd : Option (List Code)} {a : Addr} {ccd : Value} {outer : List Env} {A₀ : Around} {base g : Heap} {L : Nat} {s : Shared} {tk : Nat} {h₁ : Heap} {Q : Flow → Shared → Prop} {E : Value → Shared → Prop}
end
section
namespace law4
noncomputable def epsP : World → Env0 → Nat → Nat → (Option (List Code)) → Addr → Value → (List Env) → Around → Heap → Heap → Nat → Shared → Nat → Heap → (Flow → Shared → Prop) → (Value → Shared → Prop) → Nat → (List Value) → (List Int) → Nat → Led → (Str → Option Value) → Obj → Obj → Obj → Obj → Obj → Obj → Obj → Prop := fun w z dp un gd a ccd outer A₀ base g L s tk h₁ Q E D ys ds e rest u co0 co1 co2 co3 co4 co5 co6 => ∀ (B : Below A₀ base outer g) (X : (hd.heap_1 w.params).In g) (T : Top z.p z.loose z.mean z.mg z.mb g) (cL : CodeHd base 166 162) (cY : CodeHd base 145 141) (cS : CodeHd base 138 134) (hdp : dp + 80 < recursionLimit) (hun : un + 300 < cLine) (hL : 162 < L) (hd : IntsAre ys ds) (hlen : ds.length ≤ 16) (hr : ∀ d ∈ ds, 0 ≤ d ∧ d < 1000000) (cd0 : co0.data = Data.cell (some (.ref D))) (F : Fr g L h₁ u) (N : News g L h₁ ((D, W.listOf ys.toArray e) :: (L + 1, co0) :: (L + 1 + 1, co1) :: (L + 1 + 1 + 1, co2) :: (L + 1 + 1 + 1 + 1, co3) :: (L + 1 + 1 + 1 + 1 + 1, co4) :: (L + 1 + 1 + 1 + 1 + 1 + 1, co5) :: (L + 1 + 1 + 1 + 1 + 1 + 1 + 1, co6) :: (162, tabObj #[]) :: (141, tabObj #[]) :: (134, tabObj #[]) :: rest)) (k : ∀ (h' : Heap) (tk' : Nat) (kl e' : Nat) (k0 k1 k2 : KeysD), KeyGood k0 → KeyGood k1 → KeyGood k2 → Fr g L h' (fun y => if y = Str.ofString "keys" then some (.ref kl) else u y) → News g L h' ((kl, W.listOf #[.ref k0.kl, .ref k1.kl, .ref k2.kl] e') :: (k2.led ++ (k1.led ++ (k0.led ++ ((D, W.listOf ys.toArray e) :: (L + 1, co0) :: (L + 1 + 1, co1) :: (L + 1 + 1 + 1, co2) :: (L + 1 + 1 + 1 + 1, co3) :: (L + 1 + 1 + 1 + 1 + 1, co4) :: (L + 1 + 1 + 1 + 1 + 1 + 1, co5) :: (L + 1 + 1 + 1 + 1 + 1 + 1 + 1, co6) :: (162, tabObj #[]) :: (141, tabObj #[]) :: (134, tabObj #[]) :: rest))))) → OffA L kl → OffL L k0.led → OffL L k1.led → OffL L k2.led → wpAny (model PySem.Challenge.rw_wf0038_01.prog w) (lawA dp un gd L a ccd outer) (execs (lawRest 5) (lawE L a ccd)) Q E { s with heap := h', toks := tk' }), wpAny (model PySem.Challenge.rw_wf0038_01.prog w) (lawA dp un gd L a ccd outer) (execs (lawRest 4) (lawE L a ccd)) Q E { s with heap := h₁, toks := tk }
noncomputable abbrev epsT : Type := World × Env0 × Nat × Nat × (Option (List Code)) × Addr × Value × (List Env) × Around × Heap × Heap × Nat × Shared × Nat × Heap × (Flow → Shared → Prop) × (Value → Shared → Prop) × Nat × (List Value) × (List Int) × Nat × Led × (Str → Option Value) × Obj × Obj × Obj × Obj × Obj × Obj × Obj
noncomputable abbrev epsQ : epsT → Prop := fun d => epsP d.1 d.2.1 d.2.2.1 d.2.2.2.1 d.2.2.2.2.1 d.2.2.2.2.2.1 d.2.2.2.2.2.2.1 d.2.2.2.2.2.2.2.1 d.2.2.2.2.2.2.2.2.1 d.2.2.2.2.2.2.2.2.2.1 d.2.2.2.2.2.2.2.2.2.2.1 d.2.2.2.2.2.2.2.2.2.2.2.1 d.2.2.2.2.2.2.2.2.2.2.2.2.1 d.2.2.2.2.2.2.2.2.2.2.2.2.2.1 d.2.2.2.2.2.2.2.2.2.2.2.2.2.2.1 d.2.2.2.2.2.2.2.2.2.2.2.2.2.2.2.1 d.2.2.2.2.2.2.2.2.2.2.2.2.2.2.2.2.1 d.2.2.2.2.2.2.2.2.2.2.2.2.2.2.2.2.2.1 d.2.2.2.2.2.2.2.2.2.2.2.2.2.2.2.2.2.2.1 d.2.2.2.2.2.2.2.2.2.2.2.2.2.2.2.2.2.2.2.1 d.2.2.2.2.2.2.2.2.2.2.2.2.2.2.2.2.2.2.2.2.1 d.2.2.2.2.2.2.2.2.2.2.2.2.2.2.2.2.2.2.2.2.2.1 d.2.2.2.2.2.2.2.2.2.2.2.2.2.2.2.2.2.2.2.2.2.2.1 d.2.2.2.2.2.2.2.2.2.2.2.2.2.2.2.2.2.2.2.2.2.2.2.1 d.2.2.2.2.2.2.2.2.2.2.2.2.2.2.2.2.2.2.2.2.2.2.2.2.1 d.2.2.2.2.2.2.2.2.2.2.2.2.2.2.2.2.2.2.2.2.2.2.2.2.2.1 d.2.2.2.2.2.2.2.2.2.2.2.2.2.2.2.2.2.2.2.2.2.2.2.2.2.2.1 d.2.2.2.2.2.2.2.2.2.2.2.2.2.2.2.2.2.2.2.2.2.2.2.2.2.2.2.1 d.2.2.2.2.2.2.2.2.2.2.2.2.2.2.2.2.2.2.2.2.2.2.2.2.2.2.2.2.1 d.2.2.2.2.2.2.2.2.2.2.2.2.2.2.2.2.2.2.2.2.2.2.2.2.2.2.2.2.2
theorem eN : Nonempty epsT := by walk_at "ne_all"
@[irreducible] noncomputable def eK : epsT := Pk epsT eN epsQ
@[irreducible] noncomputable def L := eK.2.2.2.2.2.2.2.2.2.2.2.1
@[irreducible] noncomputable def D := eK.2.2.2.2.2.2.2.2.2.2.2.2.2.2.2.2.2.1
@[irreducible] noncomputable def ys := eK.2.2.2.2.2.2.2.2.2.2.2.2.2.2.2.2.2.2.1
@[irreducible] noncomputable def ds := eK.2.2.2.2.2.2.2.2.2.2.2.2.2.2.2.2.2.2.2.1
@[irreducible] noncomputable def e := eK.2.2.2.2.2.2.2.2.2.2.2.2.2.2.2.2.2.2.2.2.1
@[irreducible] noncomputable def rest := eK.2.2.2.2.2.2.2.2.2.2.2.2.2.2.2.2.2.2.2.2.2.1
@[irreducible] noncomputable def co0 := eK.2.2.2.2.2.2.2.2.2.2.2.2.2.2.2.2.2.2.2.2.2.2.2.1
@[irreducible] noncomputable def co1 := eK.2.2.2.2.2.2.2.2.2.2.2.2.2.2.2.2.2.2.2.2.2.2.2.2.1
@[irreducible] noncomputable def co2 := eK.2.2.2.2.2.2.2.2.2.2.2.2.2.2.2.2.2.2.2.2.2.2.2.2.2.1
@[irreducible] noncomputable def co3 := eK.2.2.2.2.2.2.2.2.2.2.2.2.2.2.2.2.2.2.2.2.2.2.2.2.2.2.1
@[irreducible] noncomputable def co4 := eK.2.2.2.2.2.2.2.2.2.2.2.2.2.2.2.2.2.2.2.2.2.2.2.2.2.2.2.1
@[irreducible] noncomputable def co5 := eK.2.2.2.2.2.2.2.2.2.2.2.2.2.2.2.2.2.2.2.2.2.2.2.2.2.2.2.2.1
@[irreducible] noncomputable def co6 := eK.2.2.2.2.2.2.2.2.2.2.2.2.2.2.2.2.2.2.2.2.2.2.2.2.2.2.2.2.2
theorem eC : epsP eK.1 eK.2.1 eK.2.2.1 eK.2.2.2.1 eK.2.2.2.2.1 eK.2.2.2.2.2.1 eK.2.2.2.2.2.2.1 eK.2.2.2.2.2.2.2.1 eK.2.2.2.2.2.2.2.2.1 eK.2.2.2.2.2.2.2.2.2.1 eK.2.2.2.2.2.2.2.2.2.2.1 L eK.2.2.2.2.2.2.2.2.2.2.2.2.1 eK.2.2.2.2.2.2.2.2.2.2.2.2.2.1 eK.2.2.2.2.2.2.2.2.2.2.2.2.2.2.1 eK.2.2.2.2.2.2.2.2.2.2.2.2.2.2.2.1 eK.2.2.2.2.2.2.2.2.2.2.2.2.2.2.2.2.1 D ys ds e rest eK.2.2.2.2.2.2.2.2.2.2.2.2.2.2.2.2.2.2.2.2.2.2.1 co0 co1 co2 co3 co4 co5 co6 := by
  unfold epsP
  intro B X T cL cY cS hdp hun hL hd hlen hr cd0 F N k
  have hb' := (rfl : lawRest 4 = lawRest 4)
  have hs' := (rfl : lawSc = lawSc)
  conv at hb' => rhs; whnf
  conv at hs' => rhs; whnf
  unfold lawA lawE lawCl
  rw [hb', hs']
  clear hb' hs'
  refine wpAny_execs_cons ?_
  have hylen := hd.length
  have hs0 := sum_bounds ds hr
  k_with_none
  k_with "execs cons Assign cons" => (refine Stop.go ?_)
  k_with "exec Assign cons ListComp" => (refine Stop.go ?_)
  k_steps
  refine Stop.mk ?_
  k_dflt (refine gc_assign (by k_asm) (by rfl) (by with_unfolding_all rfl) (by with_unfolding_all rfl) (by rfl) (by decide) (by rfl) (by rfl) ?_)
  k_steps
  refine Stop.mk ?_
  rename Fr _ _ _ _ => F1
  rename News _ _ _ _ => N1
  rename IsRange _ _ _ _ _ _ _ _ => rg
  refine gcx_range (fun i ys ad => ∃ ks : List KeysD, ks.length = i ∧ ys = ks.map (fun k => Value.ref k.kl) ∧ ad = keysLed ks.reverse ∧ KeysGood ks) rg (by decide) (n := 3) (by rfl) (by decide) F1 N1 ⟨[], rfl, rfl, rfl, ⟨fun _ _ h => by cases h⟩⟩ (by rfl) (by decide) (by rfl) (by rfl) ?t2 ?f2
  case t2 =>
    intro I2 j zs ad lI2 hj hJ apb m₂ t C oC D' oI h2 tk2 E' hx hC F2 N2 off ne
    clear F1 N1 rg
    replace N2 := sub_news N2 (l' := (I2, oI) :: (C, oC) :: (D', LCg.lst zs) :: (D, W.listOf ys.toArray e) :: (L + 1, co0) :: (L + 1 + 1, co1) :: (L + 1 + 1 + 1, co2) :: (L + 1 + 1 + 1 + 1, co3) :: (L + 1 + 1 + 1 + 1 + 1, co4) :: (L + 1 + 1 + 1 + 1 + 1 + 1, co5) :: (L + 1 + 1 + 1 + 1 + 1 + 1 + 1, co6) :: (162, tabObj #[]) :: (141, tabObj #[]) :: (134, tabObj #[]) :: (rest ++ ad)) (all_cons.mpr ⟨.head _, all_cons.mpr ⟨.tail _ (.head _), all_cons.mpr ⟨.tail _ (.tail _ (.head _)), fun p hp => .tail _ (.tail _ (.tail _ (List.perm_append_comm.mem_iff.mp hp)))⟩⟩⟩)
    k_with "mycall" => ((with_reducible show wpAny _ _ (call (Value.ref 132) _) _ _ _); refine Stop.go ?_)
    k_steps
    refine Stop.mk ?_
    obtain ⟨ks, hfl, rfl, rfl, hfo⟩ := hJ
    have hdl : (ds.length : Int) ≤ 16 := by omega
    (k_dflt (refine' Spec.use0 (keys_spec (206052 + (ds.length : Int) + ds.sum) (0 + (j : Int)) _ _ (by omega) (by omega) (by omega) (by omega)) ?uB ?uF ?uX ?uN ?uT ?uk ?u1 ?u2 ?u3 ?ud ?uu ?ue ?uK; (case uB => k_asm); (case uF => k_asm); (case uX => k_asm); (case uN => k_asm); (case uT => k_asm); (case uk => first | exact rfl | assumption); (case u1 => assumption); (case u2 => assumption); (case u3 => assumption); (case ud => ktr_room); (case uu => ktr_units); (case ue => walk_at "sub"); k_whole)); (intro v' mu' new' h' tk' hR' F' N' ap'); (obtain ⟨kd, e1', e2', e3', e4'⟩ := hR'); subst e1'; subst e2'; subst e4'
    show GcX _ _ _ _ _ _ _ _
    refine GcX.intro F' N' kd.led (fun p hp => ?_) (fun p hp q hq => ?_) ⟨ks ++ [kd], by rw [List.length_append, hfl]; rfl, by rw [List.map_append]; rfl, by rw [List.reverse_append]; rfl, hfo.snoc (keyGood_of e3')⟩
    · rcases List.mem_append.mp hp with hp | hp
      · refine List.mem_append_right _ (List.mem_append_right _ ?_)
        simp only [List.mem_cons, List.not_mem_nil, or_false] at hp
        rcases hp with rfl | rfl | rfl
        · exact .head _
        · exact .tail _ (.head _)
        · exact .tail _ (.tail _ (.head _))
      rcases List.mem_append.mp hp with hp | hp
      · exact List.mem_append_right _ (List.mem_append_left _ hp)
      · exact List.mem_append_right _ (List.mem_append_right _ (.tail _ (.tail _ (.tail _ (List.perm_append_comm.mem_iff.mp hp)))))
    · refine (ap' q ?_ p hp).symm
      rcases List.mem_append.mp hq with hq | hq
      · simp only [List.mem_cons, List.not_mem_nil, or_false] at hq
        rcases hq with rfl | rfl | rfl
        · exact .head _
        · exact .tail _ (.head _)
        · exact .tail _ (.tail _ (.head _))
      · exact .tail _ (.tail _ (.tail _ (List.perm_append_comm.mem_iff.mp hq)))
  case f2 =>
    intro zs ad g2 hJ apb K h2 tk2 F N o2
    clear F1 N1 rg
    obtain ⟨ks, hfl, rfl, rfl, hfo⟩ := hJ
    obtain ⟨k0, k1, k2, rfl⟩ := three_of ks hfl
    have hsb : ∀ p ∈ ((L + 1, co0) :: (L + 1 + 1, co1) :: (L + 1 + 1 + 1, co2) :: (L + 1 + 1 + 1 + 1, co3) :: (L + 1 + 1 + 1 + 1 + 1, co4) :: (L + 1 + 1 + 1 + 1 + 1 + 1, co5) :: (L + 1 + 1 + 1 + 1 + 1 + 1 + 1, co6) :: [(162, tabObj #[]), (141, tabObj #[]), (134, tabObj #[])]), p ∈ ((D, W.listOf ys.toArray e) :: (L + 1, co0) :: (L + 1 + 1, co1) :: (L + 1 + 1 + 1, co2) :: (L + 1 + 1 + 1 + 1, co3) :: (L + 1 + 1 + 1 + 1 + 1, co4) :: (L + 1 + 1 + 1 + 1 + 1 + 1, co5) :: (L + 1 + 1 + 1 + 1 + 1 + 1 + 1, co6) :: (162, tabObj #[]) :: (141, tabObj #[]) :: (134, tabObj #[]) :: rest) := all_cons.mpr ⟨by k_dflt k_mem, all_cons.mpr ⟨by k_dflt k_mem, all_cons.mpr ⟨by k_dflt k_mem, all_cons.mpr ⟨by k_dflt k_mem, all_cons.mpr ⟨by k_dflt k_mem, all_cons.mpr ⟨by k_dflt k_mem, all_cons.mpr ⟨by k_dflt k_mem, all_cons.mpr ⟨by k_dflt k_mem, all_cons.mpr ⟨by k_dflt k_mem, all_cons.mpr ⟨by k_dflt k_mem, all_nil⟩⟩⟩⟩⟩⟩⟩⟩⟩⟩
    have oF : OffL L (keysLed [k0, k1, k2].reverse) := OffL.of hsb apb
    have oD : OffA L K := OffA.of (fun p hp => List.mem_append_right _ (hsb p hp)) (off1_mem o2)
    have m0 : OffL L k0.led := fun p hp => oF p (List.mem_append_right _ (List.mem_append_right _ (List.mem_append_left _ hp)))
    have m1 : OffL L k1.led := fun p hp => oF p (List.mem_append_right _ (List.mem_append_left _ hp))
    have m2 : OffL L k2.led := fun p hp => oF p (List.mem_append_left _ hp)
    k_steps
    refine Stop.mk ?_
    exact k _ _ K 3 k0 k1 k2 (hfo.ok 0 _ rfl) (hfo.ok 1 _ rfl) (hfo.ok 2 _ rfl) F N oD m0 m1 m2
end law4
theorem law4 {w : World} {z : Env0} {dp : Nat} {un : Nat} {gd : Option (List Code)} {a : Addr} {ccd : Value} {outer : List Env} {A₀ : Around} {base : Heap} {g : Heap} {L : Nat} {s : Shared} {tk : Nat} {h₁ : Heap} {Q : Flow → Shared → Prop} {E : Value → Shared → Prop} (B : Below A₀ base outer g) (X : (hd.heap_1 w.params).In g) (T : Top z.p z.loose z.mean z.mg z.mb g) (cL : CodeHd base 166 162) (cY : CodeHd base 145 141) (cS : CodeHd base 138 134) (hdp : dp + 80 < recursionLimit) (hun : un + 300 < cLine) (hL : 162 < L) {D : Nat} {ys : List Value} {ds : List Int} {e : Nat} (hd : IntsAre ys ds) (hlen : ds.length ≤ 16) (hr : ∀ d ∈ ds, 0 ≤ d ∧ d < 1000000) {rest : Led} {u : Str → Option Value} {co0 : Obj} {co1 : Obj} {co2 : Obj} {co3 : Obj} {co4 : Obj} {co5 : Obj} {co6 : Obj} (cd0 : co0.data = Data.cell (some (.ref D))) (F : Fr g L h₁ u) (N : News g L h₁ ((D, W.listOf ys.toArray e) :: (L + 1, co0) :: (L + 1 + 1, co1) :: (L + 1 + 1 + 1, co2) :: (L + 1 + 1 + 1 + 1, co3) :: (L + 1 + 1 + 1 + 1 + 1, co4) :: (L + 1 + 1 + 1 + 1 + 1 + 1, co5) :: (L + 1 + 1 + 1 + 1 + 1 + 1 + 1, co6) :: (162, tabObj #[]) :: (141, tabObj #[]) :: (134, tabObj #[]) :: rest)) (k : ∀ (h' : Heap) (tk' : Nat) (kl e' : Nat) (k0 k1 k2 : KeysD), KeyGood k0 → KeyGood k1 → KeyGood k2 → Fr g L h' (fun y => if y = Str.ofString "keys" then some (.ref kl) else u y) → News g L h' ((kl, W.listOf #[.ref k0.kl, .ref k1.kl, .ref k2.kl] e') :: (k2.led ++ (k1.led ++ (k0.led ++ ((D, W.listOf ys.toArray e) :: (L + 1, co0) :: (L + 1 + 1, co1) :: (L + 1 + 1 + 1, co2) :: (L + 1 + 1 + 1 + 1, co3) :: (L + 1 + 1 + 1 + 1 + 1, co4) :: (L + 1 + 1 + 1 + 1 + 1 + 1, co5) :: (L + 1 + 1 + 1 + 1 + 1 + 1 + 1, co6) :: (162, tabObj #[]) :: (141, tabObj #[]) :: (134, tabObj #[]) :: rest))))) → OffA L kl → OffL L k0.led → OffL L k1.led → OffL L k2.led → wpAny (model PySem.Challenge.rw_wf0038_01.prog w) (lawA dp un gd L a ccd outer) (execs (lawRest 5) (lawE L a ccd)) Q E { s with heap := h', toks := tk' }) : wpAny (model PySem.Challenge.rw_wf0038_01.prog w) (lawA dp un gd L a ccd outer) (execs (lawRest 4) (lawE L a ccd)) Q E { s with heap := h₁, toks := tk } := Pk.all (T := law4.epsT) (ne := law4.eN) (Q := law4.epsQ) (by with_unfolding_all exact law4.eC) (w, z, dp, un, gd, a, ccd, outer, A₀, base, g, L, s, tk, h₁, Q, E, D, ys, ds, e, rest, u, co0, co1, co2, co3, co4, co5, co6) B X T cL cY cS hdp hun hL hd hlen hr cd0 F N k
end
section
variable {w : World} {z : Env0} {dp un : Nat} {gd : Option (List Code)} {a : Addr} {ccd : Value} {outer : List Env} {A₀ : Around} {base g : Heap} {L : Nat} {s : Shared} {tk : Nat} {h₁ : Heap} {Q : Flow → Shared → Prop} {E : Value → Shared → Prop}
end
end
section
noncomputable abbrev ordLed (os : List OrdD) : Led := os.map OrdD.obj
noncomputable def ordsAre (ns : Nat → List Int) (os : List OrdD) : Prop := ∀ (j : Nat) (o : OrdD), os[j]? = some o → IntsAre o.its o.ns ∧ o.ns = ns j
theorem ordsAre.snoc {ns : Nat → List Int} {os : List OrdD} (h : ordsAre ns os) {o : OrdD} (hi : IntsAre o.its o.ns) (ho : o.ns = ns os.length) : ordsAre ns (os ++ [o]) := fun j g hj => by
  by_cases hlt : j < os.length
  · rw [List.getElem?_append_left hlt] at hj
    exact h j g hj
  · have e : j = os.length := by
      have := (List.getElem?_eq_some_iff.mp hj).1
      rw [List.length_append] at this
      simp only [List.length_cons, List.length_nil] at this
      omega
    subst e
    rw [List.getElem?_append_right (Nat.le_refl _), Nat.sub_self] at hj
    cases hj
    exact ⟨hi, ho⟩
noncomputable def sel3 {α : Type} (x y z : α) : Nat → α
  | 0 => x
  | 1 => y
  | _ => z
section
variable {w : World} {z : Env0} {dp un : Nat} {gd : Option (List Code)} {a : Addr} {ccd : Value} {outer : List Env} {A₀ : Around} {base g : Heap} {L : Nat} {s : Shared} {tk : Nat} {h₁ : Heap} {Q : Flow → Shared → Prop} {E : Value → Shared → Prop}
end
section
namespace law5
noncomputable def epsP : World → Env0 → Nat → Nat → (Option (List Code)) → Addr → Value → (List Env) → Around → Heap → Heap → Nat → Shared → Nat → Heap → (Flow → Shared → Prop) → (Value → Shared → Prop) → Nat → Nat → KeysD → KeysD → KeysD → RowsD → Led → (Str → Option Value) → Obj → Obj → Obj → Obj → Obj → Obj → Obj → Prop := fun w z dp un gd a ccd outer A₀ base g L s tk h₁ Q E kl e k0 k1 k2 r rest u co0 co1 co2 co3 co4 co5 co6 => ∀ (B : Below A₀ base outer g) (X : (hd.heap_1 w.params).In g) (T : Top z.p z.loose z.mean z.mg z.mb g) (cL : CodeHd base 166 162) (cY : CodeHd base 145 141) (cS : CodeHd base 138 134) (hdp : dp + 80 < recursionLimit) (hun : un + 300 < cLine) (hL : 162 < L) (g0 : KeyGood k0) (g1 : KeyGood k1) (g2 : KeyGood k2) (ro : r.Ok) (cd3 : co3.data = Data.cell (some (.ref r.rl))) (cd4 : co4.data = Data.cell none) (F : Fr g L h₁ (kstB u [(Str.ofString "keys", .ref kl)])) (N : News g L h₁ ((kl, W.listOf #[.ref k0.kl, .ref k1.kl, .ref k2.kl] e) :: (k0.led ++ (k1.led ++ (k2.led ++ (r.led ++ ((L + 1, co0) :: (L + 1 + 1, co1) :: (L + 1 + 1 + 1, co2) :: (L + 1 + 1 + 1 + 1, co3) :: (L + 1 + 1 + 1 + 1 + 1, co4) :: (L + 1 + 1 + 1 + 1 + 1 + 1, co5) :: (L + 1 + 1 + 1 + 1 + 1 + 1 + 1, co6) :: (162, tabObj #[]) :: (141, tabObj #[]) :: (134, tabObj #[]) :: rest))))))) (oK : OffA L kl) (oK0 : OffL L k0.led) (oK1 : OffL L k1.led) (oK2 : OffL L k2.led) (oRr : OffL L r.led) (oR : OffL L rest) (k : ∀ (h' : Heap) (tk' : Nat) (ol e' : Nat) (o0 o1 o2 : OrdD) (ps5 : Array Value) (co4 : Obj), co4.data = Data.cell (some (.ref ol)) → IntsAre o0.its o0.ns → IntsAre o1.its o1.ns → IntsAre o2.its o2.ns → o0.ns = ordOf r.dat k0.ks 4 → o1.ns = ordOf r.dat k1.ks 4 → o2.ns = ordOf r.dat k2.ks 4 → Fr g L h' (kstB u [(Str.ofString "keys", .ref kl)]) →
     News g L h' ((ol, W.listOf [Value.ref o0.l, .ref o1.l, .ref o2.l].toArray e') :: o0.obj :: o1.obj :: o2.obj :: (kl, W.listOf #[.ref k0.kl, .ref k1.kl, .ref k2.kl] e) :: ((L + 1, co0) :: (L + 1 + 1, co1) :: (L + 1 + 1 + 1, co2) :: (L + 1 + 1 + 1 + 1, co3) :: (L + 1 + 1 + 1 + 1 + 1, co4) :: (L + 1 + 1 + 1 + 1 + 1 + 1, co5) :: (L + 1 + 1 + 1 + 1 + 1 + 1 + 1, co6) :: (162, tabObj #[]) :: (134, tabObj #[]) :: (141, tabObj ps5) :: (k0.led ++ (k1.led ++ (k2.led ++ rest))))) → OffL L ((ol, W.listOf [Value.ref o0.l, .ref o1.l, .ref o2.l].toArray e') :: o0.obj :: o1.obj :: [o2.obj]) → wpAny (model PySem.Challenge.rw_wf0038_01.prog w) (lawA dp un gd L a ccd outer) (execs (lawRest 6) (lawE L a ccd)) Q E { s with heap := h', toks := tk' }), wpAny (model PySem.Challenge.rw_wf0038_01.prog w) (lawA dp un gd L a ccd outer) (execs (lawRest 5) (lawE L a ccd)) Q E { s with heap := h₁, toks := tk }
noncomputable abbrev epsT : Type := World × Env0 × Nat × Nat × (Option (List Code)) × Addr × Value × (List Env) × Around × Heap × Heap × Nat × Shared × Nat × Heap × (Flow → Shared → Prop) × (Value → Shared → Prop) × Nat × Nat × KeysD × KeysD × KeysD × RowsD × Led × (Str → Option Value) × Obj × Obj × Obj × Obj × Obj × Obj × Obj
noncomputable abbrev epsQ : epsT → Prop := fun d => epsP d.1 d.2.1 d.2.2.1 d.2.2.2.1 d.2.2.2.2.1 d.2.2.2.2.2.1 d.2.2.2.2.2.2.1 d.2.2.2.2.2.2.2.1 d.2.2.2.2.2.2.2.2.1 d.2.2.2.2.2.2.2.2.2.1 d.2.2.2.2.2.2.2.2.2.2.1 d.2.2.2.2.2.2.2.2.2.2.2.1 d.2.2.2.2.2.2.2.2.2.2.2.2.1 d.2.2.2.2.2.2.2.2.2.2.2.2.2.1 d.2.2.2.2.2.2.2.2.2.2.2.2.2.2.1 d.2.2.2.2.2.2.2.2.2.2.2.2.2.2.2.1 d.2.2.2.2.2.2.2.2.2.2.2.2.2.2.2.2.1 d.2.2.2.2.2.2.2.2.2.2.2.2.2.2.2.2.2.1 d.2.2.2.2.2.2.2.2.2.2.2.2.2.2.2.2.2.2.1 d.2.2.2.2.2.2.2.2.2.2.2.2.2.2.2.2.2.2.2.1 d.2.2.2.2.2.2.2.2.2.2.2.2.2.2.2.2.2.2.2.2.1 d.2.2.2.2.2.2.2.2.2.2.2.2.2.2.2.2.2.2.2.2.2.1 d.2.2.2.2.2.2.2.2.2.2.2.2.2.2.2.2.2.2.2.2.2.2.1 d.2.2.2.2.2.2.2.2.2.2.2.2.2.2.2.2.2.2.2.2.2.2.2.1 d.2.2.2.2.2.2.2.2.2.2.2.2.2.2.2.2.2.2.2.2.2.2.2.2.1 d.2.2.2.2.2.2.2.2.2.2.2.2.2.2.2.2.2.2.2.2.2.2.2.2.2.1 d.2.2.2.2.2.2.2.2.2.2.2.2.2.2.2.2.2.2.2.2.2.2.2.2.2.2.1 d.2.2.2.2.2.2.2.2.2.2.2.2.2.2.2.2.2.2.2.2.2.2.2.2.2.2.2.1 d.2.2.2.2.2.2.2.2.2.2.2.2.2.2.2.2.2.2.2.2.2.2.2.2.2.2.2.2.1 d.2.2.2.2.2.2.2.2.2.2.2.2.2.2.2.2.2.2.2.2.2.2.2.2.2.2.2.2.2.1 d.2.2.2.2.2.2.2.2.2.2.2.2.2.2.2.2.2.2.2.2.2.2.2.2.2.2.2.2.2.2.1 d.2.2.2.2.2.2.2.2.2.2.2.2.2.2.2.2.2.2.2.2.2.2.2.2.2.2.2.2.2.2.2
theorem eN : Nonempty epsT := by walk_at "ne_all"
@[irreducible] noncomputable def eK : epsT := Pk epsT eN epsQ
@[irreducible] noncomputable def base := eK.2.2.2.2.2.2.2.2.2.1
@[irreducible] noncomputable def g := eK.2.2.2.2.2.2.2.2.2.2.1
@[irreducible] noncomputable def L := eK.2.2.2.2.2.2.2.2.2.2.2.1
@[irreducible] noncomputable def h₁ := eK.2.2.2.2.2.2.2.2.2.2.2.2.2.2.1
@[irreducible] noncomputable def kl := eK.2.2.2.2.2.2.2.2.2.2.2.2.2.2.2.2.2.1
@[irreducible] noncomputable def e := eK.2.2.2.2.2.2.2.2.2.2.2.2.2.2.2.2.2.2.1
@[irreducible] noncomputable def k0 := eK.2.2.2.2.2.2.2.2.2.2.2.2.2.2.2.2.2.2.2.1
@[irreducible] noncomputable def k1 := eK.2.2.2.2.2.2.2.2.2.2.2.2.2.2.2.2.2.2.2.2.1
@[irreducible] noncomputable def k2 := eK.2.2.2.2.2.2.2.2.2.2.2.2.2.2.2.2.2.2.2.2.2.1
@[irreducible] noncomputable def r := eK.2.2.2.2.2.2.2.2.2.2.2.2.2.2.2.2.2.2.2.2.2.2.1
@[irreducible] noncomputable def rest := eK.2.2.2.2.2.2.2.2.2.2.2.2.2.2.2.2.2.2.2.2.2.2.2.1
@[irreducible] noncomputable def co0 := eK.2.2.2.2.2.2.2.2.2.2.2.2.2.2.2.2.2.2.2.2.2.2.2.2.2.1
@[irreducible] noncomputable def co1 := eK.2.2.2.2.2.2.2.2.2.2.2.2.2.2.2.2.2.2.2.2.2.2.2.2.2.2.1
@[irreducible] noncomputable def co2 := eK.2.2.2.2.2.2.2.2.2.2.2.2.2.2.2.2.2.2.2.2.2.2.2.2.2.2.2.1
@[irreducible] noncomputable def co3 := eK.2.2.2.2.2.2.2.2.2.2.2.2.2.2.2.2.2.2.2.2.2.2.2.2.2.2.2.2.1
@[irreducible] noncomputable def co4 := eK.2.2.2.2.2.2.2.2.2.2.2.2.2.2.2.2.2.2.2.2.2.2.2.2.2.2.2.2.2.1
@[irreducible] noncomputable def co5 := eK.2.2.2.2.2.2.2.2.2.2.2.2.2.2.2.2.2.2.2.2.2.2.2.2.2.2.2.2.2.2.1
@[irreducible] noncomputable def co6 := eK.2.2.2.2.2.2.2.2.2.2.2.2.2.2.2.2.2.2.2.2.2.2.2.2.2.2.2.2.2.2.2
theorem eC : epsP eK.1 eK.2.1 eK.2.2.1 eK.2.2.2.1 eK.2.2.2.2.1 eK.2.2.2.2.2.1 eK.2.2.2.2.2.2.1 eK.2.2.2.2.2.2.2.1 eK.2.2.2.2.2.2.2.2.1 base g L eK.2.2.2.2.2.2.2.2.2.2.2.2.1 eK.2.2.2.2.2.2.2.2.2.2.2.2.2.1 h₁ eK.2.2.2.2.2.2.2.2.2.2.2.2.2.2.2.1 eK.2.2.2.2.2.2.2.2.2.2.2.2.2.2.2.2.1 kl e k0 k1 k2 r rest eK.2.2.2.2.2.2.2.2.2.2.2.2.2.2.2.2.2.2.2.2.2.2.2.2.1 co0 co1 co2 co3 co4 co5 co6 := by
  unfold epsP
  intro B X T cL cY cS hdp hun hL g0 g1 g2 ro cd3 cd4 F N oK oK0 oK1 oK2 oRr oR k
  have hb' := (rfl : lawRest 5 = lawRest 5)
  have hs' := (rfl : lawSc = lawSc)
  conv at hb' => rhs; whnf
  conv at hs' => rhs; whnf
  unfold lawA lawE lawCl
  rw [hb', hs']
  clear hb' hs'
  refine wpAny_execs_cons ?_
  obtain ⟨bs, hbs⟩ : ∃ bs : Led, bs = (kl, W.listOf #[.ref k0.kl, .ref k1.kl, .ref k2.kl] e) :: (k0.led ++ (k1.led ++ (k2.led ++ (r.led ++ ((L + 1, co0) :: (L + 1 + 1, co1) :: (L + 1 + 1 + 1, co2) :: (L + 1 + 1 + 1 + 1, co3) :: (L + 1 + 1 + 1 + 1 + 1, co4) :: (L + 1 + 1 + 1 + 1 + 1 + 1, co5) :: (L + 1 + 1 + 1 + 1 + 1 + 1 + 1, co6) :: (162, tabObj #[]) :: (134, tabObj #[]) :: rest))))) := ⟨_, rfl⟩
  have inT : ∀ p ∈ ((L + 1, co0) :: (L + 1 + 1, co1) :: (L + 1 + 1 + 1, co2) :: (L + 1 + 1 + 1 + 1, co3) :: (L + 1 + 1 + 1 + 1 + 1, co4) :: (L + 1 + 1 + 1 + 1 + 1 + 1, co5) :: (L + 1 + 1 + 1 + 1 + 1 + 1 + 1, co6) :: (162, tabObj #[]) :: (134, tabObj #[]) :: rest), p ∈ bs := fun p hp => by rw [hbs]; exact .tail _ (List.mem_append_right _ (List.mem_append_right _ (List.mem_append_right _ (List.mem_append_right _ hp))))
  have inC : (L + 1 + 1 + 1 + 1, co3) ∈ bs := inT _ (.tail _ (.tail _ (.tail _ (.head _))))
  have inK : (kl, W.listOf #[.ref k0.kl, .ref k1.kl, .ref k2.kl] e) ∈ bs := by rw [hbs]; exact .head _
  have in0 : ∀ p ∈ k0.led, p ∈ bs := fun p hp => by rw [hbs]; exact .tail _ (List.mem_append_left _ hp)
  have in1 : ∀ p ∈ k1.led, p ∈ bs := fun p hp => by rw [hbs]; exact .tail _ (List.mem_append_right _ (List.mem_append_left _ hp))
  have in2 : ∀ p ∈ k2.led, p ∈ bs := fun p hp => by rw [hbs]; exact .tail _ (List.mem_append_right _ (List.mem_append_right _ (List.mem_append_left _ hp)))
  have inR : ∀ p ∈ r.led, p ∈ bs := fun p hp => by rw [hbs]; exact .tail _ (List.mem_append_right _ (List.mem_append_right _ (List.mem_append_right _ (List.mem_append_left _ hp))))
  have b141 : ∀ q ∈ bs, @Ne Nat q.1 141 := by
    rw [hbs]
    refine all_c ?_ ?_
    · exact oK.2.2.2.2.2.2.2.2.1
    refine all_app (fun q hq => (oK0 q hq).2.2.2.2.2.2.2.2.1) ?_
    refine all_app (fun q hq => (oK1 q hq).2.2.2.2.2.2.2.2.1) ?_
    refine all_app (fun q hq => (oK2 q hq).2.2.2.2.2.2.2.2.1) ?_
    refine all_app (fun q hq => (oRr q hq).2.2.2.2.2.2.2.2.1) ?_
    (repeat refine all_c (by show @Ne Nat _ _; k_ne) ?_)
    exact fun q hq => (oR q hq).2.2.2.2.2.2.2.2.1
  have Nb : News g L h₁ ((141, tabObj #[]) :: bs) := sub_news N (all_cons.mpr ⟨.tail _ (List.mem_append_right _ (List.mem_append_right _ (List.mem_append_right _ (List.mem_append_right _ (by k_dflt k_mem))))), fun p hp => by
    rw [hbs] at hp
    rcases List.mem_cons.mp hp with rfl | hp
    · exact .head _
    refine .tail _ ?_
    rcases List.mem_append.mp hp with hp | hp
    · exact List.mem_append_left _ hp
    refine List.mem_append_right _ ?_
    rcases List.mem_append.mp hp with hp | hp
    · exact List.mem_append_left _ hp
    refine List.mem_append_right _ ?_
    rcases List.mem_append.mp hp with hp | hp
    · exact List.mem_append_left _ hp
    refine List.mem_append_right _ ?_
    rcases List.mem_append.mp hp with hp | hp
    · exact List.mem_append_left _ hp
    refine List.mem_append_right _ ?_
    simp only [List.mem_cons] at hp ⊢
    rcases hp with h | h | h | h | h | h | h | h | h | h <;> simp only [h, true_or, or_true]⟩)
  clear N
  k_with_none
  k_with "execs cons Assign cons" => (refine Stop.go ?_)
  k_with "execs cons If" => (refine Stop.go ?_)
  k_with "eval ListComp" => (refine Stop.go ?_)
  k_with "exec Assign cons ListComp" => (refine wpAny_Assign_Name ?_ (by with_unfolding_all rfl))
  k_steps
  refine Stop.mk ?_
  k_dflt (refine gc_eval (by k_asm) (by with_unfolding_all rfl) (by rfl) (by decide) ?_)
  k_steps
  refine Stop.mk ?_
  rename Fr _ _ _ _ => F1
  rename News _ _ _ _ => N1
  refine gct_listN (P := 141) (Tb := TabY) (base := bs) (ps0 := #[]) (c0 := 141) (oc0 := tabObj #[]) (fun i ys ad => ∃ os : List OrdD, os.length = i ∧ ys = os.map (fun o => Value.ref o.l) ∧ ad = ordLed os.reverse ∧ ordsAre (fun j => ordOf r.dat (sel3 k0 k1 k2 j).ks 4) os) inK (by exact (by decide : 3 ≤ 64)) F1 N1 (all_cons.mpr ⟨.head _, all_cons.mpr ⟨.head _, fun _ h => .tail _ h⟩⟩) (Or.inl ⟨rfl, rfl, rfl⟩) (fun q hq => ⟨b141 q hq, b141 q hq⟩) ⟨[], rfl, rfl, rfl, fun _ _ h => by cases h⟩ (by rfl) (by decide) (by rfl) (by rfl) ?t2 ?f2
  case t2 =>
    intro I2 j ys ad ps c' oc v lI2 hv hJ hT apb m₂ C oC D' oI h2 tk2 E' hx hC F2 N2 off
    clear F1 N1
    have hj3 : j < 3 := (Array.getElem?_eq_some_iff.mp hv).1
    have hvk : v = .ref (sel3 k0 k1 k2 j).kl ∧ KeyGood (sel3 k0 k1 k2 j) ∧ ∀ p ∈ (sel3 k0 k1 k2 j).led, p ∈ bs := by
      have : j = 0 ∨ j = 1 ∨ j = 2 := by first | exact orN3 (by omega) | exact orI3 (by omega) (by omega)
      rcases this with rfl | rfl | rfl <;> cases hv
      · exact ⟨rfl, g0, in0⟩
      · exact ⟨rfl, g1, in1⟩
      · exact ⟨rfl, g2, in2⟩
    obtain ⟨rfl, gj, inj⟩ := hvk
    obtain ⟨al, hal⟩ : ∃ al : Led, al = (I2, oI) :: (C, oC) :: (D', LCg.lst ys) :: (ad ++ bs) := ⟨_, rfl⟩
    have inA : ∀ p ∈ bs, p ∈ al := fun p hp => by rw [hal]; exact .tail _ (.tail _ (.tail _ (List.mem_append_right _ hp)))
    rw [← hal] at N2 off
    replace N2 := sub_news N2 (l' := (C, oC) :: (L + 1 + 1 + 1 + 1, co3) :: (141, tabObj ps) :: (c', oc) :: al) (all_cons.mpr ⟨by rw [hal]; exact .tail _ (.tail _ (.tail _ (.head _))), all_cons.mpr ⟨.tail _ (.tail _ (inA _ inC)), fun _ h => h⟩⟩)
    k_with "mycall" => ((with_reducible show wpAny _ _ (call (Value.ref 153) _) _ _ _); refine Stop.go ?_)
    k_steps
    refine Stop.mk ?_
    rename Fr _ _ _ _ => F'
    rename News _ _ _ _ => N'
    k_dflt (refine' tab_use (order_cold r (sel3 k0 k1 k2 j) ro gj.ok) (fun c' oc ovs qt hn d1 d2 => order_hot r (sel3 k0 k1 k2 j) ro gj.ok c' oc hn ovs qt d1 d2) ?uB ?uF ?uX ?uN ?uT ?uk ?u1 ?u2 ?u3 hT ?ue off ?ud ?uu ?uK)
    case uB => exact B
    case uF => exact F'
    case uX => exact X
    case uN => exact sub_news N' fun _ h => .tail _ (.tail _ h)
    case uT => exact T
    case uk => exact rfl
    case u1 => exact cL
    case u2 => exact cY
    case u3 => exact cS
    case ud => omega
    case uu => omega
    case ue =>
      intro q hq
      rcases List.mem_append.mp hq with hq | hq
      · exact inA _ (inR _ hq)
      · exact inA _ (inj _ hq)
    case uK =>
     intro ps' c'' oc' f its e' h' tk' hT' off' apf hi' F3 N3
     obtain ⟨os, hfl, rfl, rfl, hfo⟩ := hJ
     rw [hal] at N3 off' apf
     show GcY _ _ _ _ _ _ _ _ _
     exact ⟨_, _, ps', c'', oc', [(f, W.listOf its.toArray e')], rfl, F3, N3, hT', off', fun p hp q hq => by rw [List.mem_singleton.mp hp]; exact apf q hq, os ++ [⟨f, its, ordOf r.dat (sel3 k0 k1 k2 j).ks 4, e'⟩], by rw [List.length_append, hfl]; rfl, by rw [List.map_append]; rfl, by rw [List.reverse_append]; rfl, hfo.snoc hi' (by show ordOf _ _ 4 = ordOf _ _ 4; rw [hfl])⟩
  case f2 =>
    intro ys ad ps c' oc g2 hJ hT off apb D h2 tk2 F N o1
    clear F1 N1
    obtain ⟨os, hfl, rfl, rfl, hfo⟩ := hJ
    obtain ⟨o0, o1', o2', rfl⟩ := three_of os hfl
    have hsb : ∀ p ∈ ((L + 1, co0) :: (L + 1 + 1, co1) :: (L + 1 + 1 + 1, co2) :: (L + 1 + 1 + 1 + 1, co3) :: (L + 1 + 1 + 1 + 1 + 1, co4) :: (L + 1 + 1 + 1 + 1 + 1 + 1, co5) :: (L + 1 + 1 + 1 + 1 + 1 + 1 + 1, co6) :: [(162, tabObj #[]), (141, tabObj ps), (134, tabObj #[])]), p ∈ (141, tabObj ps) :: bs := fun p hp => by
      have h7 := fun q (h : q ∈ ((L + 1, co0) :: (L + 1 + 1, co1) :: (L + 1 + 1 + 1, co2) :: (L + 1 + 1 + 1 + 1, co3) :: (L + 1 + 1 + 1 + 1 + 1, co4) :: (L + 1 + 1 + 1 + 1 + 1 + 1, co5) :: (L + 1 + 1 + 1 + 1 + 1 + 1 + 1, co6) :: (162, tabObj #[]) :: (134, tabObj #[]) :: rest)) => inT q h
      simp only [List.mem_cons, List.not_mem_nil, or_false] at hp
      rcases hp with h | h | h | h | h | h | h | h | h | h <;> first | (rw [h]; exact .head _) | (refine .tail _ (h7 _ ?_); simp only [h, List.mem_cons, true_or, or_true])
    have oF : OffL L (ordLed [o0, o1', o2'].reverse) := OffL.of hsb fun p hp q hq => by
      rcases List.mem_cons.mp hq with rfl | hq
      · exact (off p (List.mem_append_left _ hp)).1
      · exact apb p hp q hq
    have oD : OffA L D := OffA.of hsb fun p hp => by
      refine off1_mem o1 p ?_
      rcases List.mem_cons.mp hp with rfl | hp
      · exact .head _
      · exact .tail _ (.tail _ (List.mem_append_right _ hp))
    clear o1
    have q0 : OffA L o0.l := oF o0.obj (.tail _ (.tail _ (.head _)))
    have q1 : OffA L o1'.l := oF o1'.obj (.tail _ (.head _))
    have q2 : OffA L o2'.l := oF o2'.obj (.head _)
    have z0 := q0.2.2.2.2.1
    have z1 := q1.2.2.2.2.1
    have z2 := q2.2.2.2.2.1
    have z3 := oD.2.2.2.2.1
    have z4 := oK.2.2.2.2.1
    obtain ⟨tl, htl⟩ : ∃ tl : Led, tl = k0.led ++ (k1.led ++ (k2.led ++ rest)) := ⟨_, rfl⟩
    have inTl : ∀ p ∈ tl, p ∈ bs := fun p hp => by
      rw [htl] at hp
      rcases List.mem_append.mp hp with hp | hp
      · exact in0 p hp
      rcases List.mem_append.mp hp with hp | hp
      · exact in1 p hp
      rcases List.mem_append.mp hp with hp | hp
      · exact in2 p hp
      · exact inT p (.tail _ (.tail _ (.tail _ (.tail _ (.tail _ (.tail _ (.tail _ (.tail _ (.tail _ hp)))))))))
    have oT : ∀ q ∈ tl, @Ne Nat q.1 (L + 1 + 1 + 1 + 1 + 1) := fun q hq => by
      rw [htl] at hq
      exact ((oK0.append (oK1.append (oK2.append oR))) q hq).2.2.2.2.1
    have inB : ∀ p ∈ bs, p ∈ (D, LCg.lst (List.map (fun o => Value.ref o.l) [o0, o1', o2'])) :: (141, tabObj ps) :: (c', oc) :: (ordLed [o0, o1', o2'].reverse ++ bs) := fun p hp => .tail _ (.tail _ (.tail _ (List.mem_append_right _ hp)))
    replace N := sub_news N (l' := (D, W.listOf [Value.ref o0.l, .ref o1'.l, .ref o2'.l].toArray 3) :: o0.obj :: o1'.obj :: o2'.obj :: (kl, W.listOf #[.ref k0.kl, .ref k1.kl, .ref k2.kl] e) :: ((L + 1, co0) :: (L + 1 + 1, co1) :: (L + 1 + 1 + 1, co2) :: (L + 1 + 1 + 1 + 1, co3) :: (L + 1 + 1 + 1 + 1 + 1, co4) :: (L + 1 + 1 + 1 + 1 + 1 + 1, co5) :: (L + 1 + 1 + 1 + 1 + 1 + 1 + 1, co6) :: (162, tabObj #[]) :: (134, tabObj #[]) :: (141, tabObj ps) :: tl)) (all_cons.mpr ⟨.head _, all_cons.mpr ⟨.tail _ (.tail _ (.tail _ (.tail _ (.tail _ (.head _))))), all_cons.mpr ⟨.tail _ (.tail _ (.tail _ (.tail _ (.head _)))), all_cons.mpr ⟨.tail _ (.tail _ (.tail _ (.head _))), all_cons.mpr ⟨inB _ inK, fun p hp => by
      simp only [List.mem_cons] at hp
      rcases hp with h | h | h | h | h | h | h | h | h | h | h <;> first | exact inB p (inTl p h) | (rw [h]; exact .tail _ (.head _)) | (refine inB p (inT p ?_); simp only [h, List.mem_cons, true_or, or_true])⟩⟩⟩⟩⟩)
    k_with "k_all" => (exact oT)
    k_steps
    refine Stop.mk ?_
    rename News _ _ _ _ => N'
    rename Fr _ _ _ _ => F'
    rw [htl] at N'
    exact k _ _ D 3 o0 o1' o2' ps _ (by assumption) (hfo 0 _ rfl).1 (hfo 1 _ rfl).1 (hfo 2 _ rfl).1 (hfo 0 _ rfl).2 (hfo 1 _ rfl).2 (hfo 2 _ rfl).2 F' N' (.cons oD (.cons q0 (.cons q1 (.cons q2 .nil))))
end law5
theorem law5 {w : World} {z : Env0} {dp : Nat} {un : Nat} {gd : Option (List Code)} {a : Addr} {ccd : Value} {outer : List Env} {A₀ : Around} {base : Heap} {g : Heap} {L : Nat} {s : Shared} {tk : Nat} {h₁ : Heap} {Q : Flow → Shared → Prop} {E : Value → Shared → Prop} (B : Below A₀ base outer g) (X : (hd.heap_1 w.params).In g) (T : Top z.p z.loose z.mean z.mg z.mb g) (cL : CodeHd base 166 162) (cY : CodeHd base 145 141) (cS : CodeHd base 138 134) (hdp : dp + 80 < recursionLimit) (hun : un + 300 < cLine) (hL : 162 < L) {kl : Nat} {e : Nat} {k0 : KeysD} {k1 : KeysD} {k2 : KeysD} {r : RowsD} (g0 : KeyGood k0) (g1 : KeyGood k1) (g2 : KeyGood k2) (ro : r.Ok) {rest : Led} {u : Str → Option Value} {co0 : Obj} {co1 : Obj} {co2 : Obj} {co3 : Obj} {co4 : Obj} {co5 : Obj} {co6 : Obj} (cd3 : co3.data = Data.cell (some (.ref r.rl))) (cd4 : co4.data = Data.cell none) (F : Fr g L h₁ (kstB u [(Str.ofString "keys", .ref kl)])) (N : News g L h₁ ((kl, W.listOf #[.ref k0.kl, .ref k1.kl, .ref k2.kl] e) :: (k0.led ++ (k1.led ++ (k2.led ++ (r.led ++ ((L + 1, co0) :: (L + 1 + 1, co1) :: (L + 1 + 1 + 1, co2) :: (L + 1 + 1 + 1 + 1, co3) :: (L + 1 + 1 + 1 + 1 + 1, co4) :: (L + 1 + 1 + 1 + 1 + 1 + 1, co5) :: (L + 1 + 1 + 1 + 1 + 1 + 1 + 1, co6) :: (162, tabObj #[]) :: (141, tabObj #[]) :: (134, tabObj #[]) :: rest))))))) (oK : OffA L kl) (oK0 : OffL L k0.led) (oK1 : OffL L k1.led) (oK2 : OffL L k2.led) (oRr : OffL L r.led) (oR : OffL L rest) (k : ∀ (h' : Heap) (tk' : Nat) (ol e' : Nat) (o0 o1 o2 : OrdD) (ps5 : Array Value) (co4 : Obj), co4.data = Data.cell (some (.ref ol)) → IntsAre o0.its o0.ns → IntsAre o1.its o1.ns → IntsAre o2.its o2.ns → o0.ns = ordOf r.dat k0.ks 4 → o1.ns = ordOf r.dat k1.ks 4 → o2.ns = ordOf r.dat k2.ks 4 → Fr g L h' (kstB u [(Str.ofString "keys", .ref kl)]) →
     News g L h' ((ol, W.listOf [Value.ref o0.l, .ref o1.l, .ref o2.l].toArray e') :: o0.obj :: o1.obj :: o2.obj :: (kl, W.listOf #[.ref k0.kl, .ref k1.kl, .ref k2.kl] e) :: ((L + 1, co0) :: (L + 1 + 1, co1) :: (L + 1 + 1 + 1, co2) :: (L + 1 + 1 + 1 + 1, co3) :: (L + 1 + 1 + 1 + 1 + 1, co4) :: (L + 1 + 1 + 1 + 1 + 1 + 1, co5) :: (L + 1 + 1 + 1 + 1 + 1 + 1 + 1, co6) :: (162, tabObj #[]) :: (134, tabObj #[]) :: (141, tabObj ps5) :: (k0.led ++ (k1.led ++ (k2.led ++ rest))))) → OffL L ((ol, W.listOf [Value.ref o0.l, .ref o1.l, .ref o2.l].toArray e') :: o0.obj :: o1.obj :: [o2.obj]) → wpAny (model PySem.Challenge.rw_wf0038_01.prog w) (lawA dp un gd L a ccd outer) (execs (lawRest 6) (lawE L a ccd)) Q E { s with heap := h', toks := tk' }) : wpAny (model PySem.Challenge.rw_wf0038_01.prog w) (lawA dp un gd L a ccd outer) (execs (lawRest 5) (lawE L a ccd)) Q E { s with heap := h₁, toks := tk } := Pk.all (T := law5.epsT) (ne := law5.eN) (Q := law5.epsQ) (by with_unfolding_all exact law5.eC) (w, z, dp, un, gd, a, ccd, outer, A₀, base, g, L, s, tk, h₁, Q, E, kl, e, k0, k1, k2, r, rest, u, co0, co1, co2, co3, co4, co5, co6) B X T cL cY cS hdp hun hL g0 g1 g2 ro cd3 cd4 F N oK oK0 oK1 oK2 oRr oR k
end
section
variable {w : World} {z : Env0} {dp un : Nat} {gd : Option (List Code)} {a : Addr} {ccd : Value} {outer : List Env} {A₀ : Around} {base g : Heap} {L : Nat} {s : Shared} {tk : Nat} {h₁ : Heap} {Q : Flow → Shared → Prop} {E : Value → Shared → Prop}
end
end
section
section
open PyProof.V PySem.Spec
variable {prog : Program} {w : World} {A : Around} {E : Value → Shared → Prop} {s : Shared} {h₀ : Heap} {L : Addr} {news : Led} {Q : Value → Shared → Prop}
theorem ne_lists3 {ol D eo e : Nat} {o0 o1 o2 t0 t1 t2 : OrdD} (N : News h₀ L s.heap news) (ha : (ol, W.listOf [Value.ref o0.l, .ref o1.l, .ref o2.l].toArray eo) ∈ news) (m0 : o0.obj ∈ news) (m1 : o1.obj ∈ news) (m2 : o2.obj ∈ news) (hb : (D, W.listOf [Value.ref t0.l, .ref t1.l, .ref t2.l].toArray e) ∈ news) (q0 : t0.obj ∈ news) (q1 : t1.obj ∈ news) (q2 : t2.obj ∈ news)
    (i0 : IntsAre o0.its o0.ns) (i1 : IntsAre o1.its o1.ns) (i2 : IntsAre o2.its o2.ns) (j0 : IntsAre t0.its t0.ns) (j1 : IntsAre t1.its t1.ns) (j2 : IntsAre t2.its t2.ns) (e0 : t0.ns = o0.ns) (e1 : t1.ns = o1.ns) (e2 : t2.ns = o2.ns) (hu : A.units + 64 < cLine) (h : Q (.bool false) s) :
    wpAny (model prog w) A (compareOp .NotEq (.ref ol) (.ref D)) Q E s := by
  rw [e0] at j0
  rw [e1] at j1
  rw [e2] at j2
  have sh : SeqAt.shaped (.list [.list (o0.ns.map PyData.int), .list (o1.ns.map PyData.int), .list (o2.ns.map PyData.int)]) = true := by
    simp [SeqAt.shaped, PyData.canLay0, PyData.canLayAll0, PyData.depth, PyData.depthAll, ke_canLayAll0, ke_depthAll]
  refine ne_dataH (reads_list_at (News.get N ha) rfl rfl (.cons (reads_newData (News.isList N m0) (ke_carried i0)) (.cons (reads_newData (News.isList N m1) (ke_carried i1)) (.cons (reads_newData (News.isList N m2) (ke_carried i2)) .nil))))
    (reads_list_at (News.get N hb) rfl rfl (.cons (reads_newData (News.isList N q0) (ke_carried j0)) (.cons (reads_newData (News.isList N q1) (ke_carried j1)) (.cons (reads_newData (News.isList N q2) (ke_carried j2)) .nil)))) sh sh hu ?_
  simp only [PyData.eqv, PyData.eqvAll, ked_eqvAll, decide_true, Bool.and_true, Bool.not_true]
  exact h
end
section
variable {w : World} {z : Env0} {dp un : Nat} {gd : Option (List Code)} {a : Addr} {ccd : Value} {outer : List Env} {A₀ : Around} {base g : Heap} {L : Nat} {s : Shared} {tk : Nat} {h₁ : Heap} {Q : Flow → Shared → Prop} {E : Value → Shared → Prop}
end
section
namespace law6
noncomputable def epsP : World → Env0 → Nat → Nat → (Option (List Code)) → Addr → Value → (List Env) → Around → Heap → Heap → Nat → Shared → Nat → Heap → (Flow → Shared → Prop) → (Value → Shared → Prop) → Nat → Nat → Nat → Nat → KeysD → KeysD → KeysD → FigD → OrdD → OrdD → OrdD → Led → (Str → Option Value) → Obj → Obj → Obj → Obj → Obj → Obj → Obj → Prop := fun w z dp un gd a ccd outer A₀ base g L s tk h₁ Q E kl e ol eo k0 k1 k2 f o0 o1 o2 rest u co0 co1 co2 co3 co4 co5 co6 => ∀ (B : Below A₀ base outer g) (X : (hd.heap_1 w.params).In g) (T : Top z.p z.loose z.mean z.mg z.mb g) (cL : CodeHd base 166 162) (cY : CodeHd base 145 141) (cS : CodeHd base 138 134) (hdp : dp + 80 < recursionLimit) (hun : un + 300 < cLine) (hL : 162 < L) (g0 : KeyGood k0) (g1 : KeyGood k1) (g2 : KeyGood k2) (i0 : IntsAre o0.its o0.ns) (i1 : IntsAre o1.its o1.ns) (i2 : IntsAre o2.its o2.ns) (e0 : o0.ns = srtKs f.dat k0.ks) (e1 : o1.ns = srtKs f.dat k1.ks) (e2 : o2.ns = srtKs f.dat k2.ks) (cd2 : co2.data = Data.cell (some (.ref f.fl))) (cd4 : co4.data = Data.cell (some (.ref ol))) (F : Fr g L h₁ (kstB u [(Str.ofString "keys", .ref kl)])) (N : News g L h₁ ((ol, W.listOf [Value.ref o0.l, .ref o1.l, .ref o2.l].toArray eo) :: o0.obj :: o1.obj :: o2.obj :: (kl, W.listOf #[.ref k0.kl, .ref k1.kl, .ref k2.kl] e) :: ((L + 1, co0) :: (L + 1 + 1, co1) :: (L + 1 + 1 + 1, co2) :: (L + 1 + 1 + 1 + 1, co3) :: (L + 1 + 1 + 1 + 1 + 1, co4) :: (L + 1 + 1 + 1 + 1 + 1 + 1, co5) :: (L + 1 + 1 + 1 + 1 + 1 + 1 + 1, co6) :: (162, tabObj #[]) :: (134, tabObj #[]) :: (k0.led ++ (k1.led ++ (k2.led ++ rest)))))) (oO : OffL L ((ol, W.listOf [Value.ref o0.l, .ref o1.l, .ref o2.l].toArray eo) :: o0.obj :: o1.obj :: [o2.obj])) (oK : OffA L kl) (oK0 : OffL L k0.led) (oK1 : OffL L k1.led) (oK2 : OffL L k2.led) (hfr : ∀ p ∈ f.led, p ∈ rest) (oR : ∀ q ∈ rest, @Ne Nat q.1 134) (k : ∀ (h' : Heap) (tk' : Nat) (ps6 : Array Value), Fr g L h' (kstB u [(Str.ofString "keys", .ref kl)]) →
     News g L h' ((ol, W.listOf [Value.ref o0.l, .ref o1.l, .ref o2.l].toArray eo) :: o0.obj :: o1.obj :: o2.obj :: ((L + 1, co0) :: (L + 1 + 1, co1) :: (L + 1 + 1 + 1, co2) :: (L + 1 + 1 + 1 + 1, co3) :: (L + 1 + 1 + 1 + 1 + 1, co4) :: (L + 1 + 1 + 1 + 1 + 1 + 1, co5) :: (L + 1 + 1 + 1 + 1 + 1 + 1 + 1, co6) :: (162, tabObj #[]) :: (134, tabObj ps6) :: rest)) → wpAny (model PySem.Challenge.rw_wf0038_01.prog w) (lawA dp un gd L a ccd outer) (execs (lawRest 7) (lawE L a ccd)) Q E { s with heap := h', toks := tk' }), wpAny (model PySem.Challenge.rw_wf0038_01.prog w) (lawA dp un gd L a ccd outer) (execs (lawRest 6) (lawE L a ccd)) Q E { s with heap := h₁, toks := tk }
noncomputable abbrev epsT : Type := World × Env0 × Nat × Nat × (Option (List Code)) × Addr × Value × (List Env) × Around × Heap × Heap × Nat × Shared × Nat × Heap × (Flow → Shared → Prop) × (Value → Shared → Prop) × Nat × Nat × Nat × Nat × KeysD × KeysD × KeysD × FigD × OrdD × OrdD × OrdD × Led × (Str → Option Value) × Obj × Obj × Obj × Obj × Obj × Obj × Obj
noncomputable abbrev epsQ : epsT → Prop := fun d => epsP d.1 d.2.1 d.2.2.1 d.2.2.2.1 d.2.2.2.2.1 d.2.2.2.2.2.1 d.2.2.2.2.2.2.1 d.2.2.2.2.2.2.2.1 d.2.2.2.2.2.2.2.2.1 d.2.2.2.2.2.2.2.2.2.1 d.2.2.2.2.2.2.2.2.2.2.1 d.2.2.2.2.2.2.2.2.2.2.2.1 d.2.2.2.2.2.2.2.2.2.2.2.2.1 d.2.2.2.2.2.2.2.2.2.2.2.2.2.1 d.2.2.2.2.2.2.2.2.2.2.2.2.2.2.1 d.2.2.2.2.2.2.2.2.2.2.2.2.2.2.2.1 d.2.2.2.2.2.2.2.2.2.2.2.2.2.2.2.2.1 d.2.2.2.2.2.2.2.2.2.2.2.2.2.2.2.2.2.1 d.2.2.2.2.2.2.2.2.2.2.2.2.2.2.2.2.2.2.1 d.2.2.2.2.2.2.2.2.2.2.2.2.2.2.2.2.2.2.2.1 d.2.2.2.2.2.2.2.2.2.2.2.2.2.2.2.2.2.2.2.2.1 d.2.2.2.2.2.2.2.2.2.2.2.2.2.2.2.2.2.2.2.2.2.1 d.2.2.2.2.2.2.2.2.2.2.2.2.2.2.2.2.2.2.2.2.2.2.1 d.2.2.2.2.2.2.2.2.2.2.2.2.2.2.2.2.2.2.2.2.2.2.2.1 d.2.2.2.2.2.2.2.2.2.2.2.2.2.2.2.2.2.2.2.2.2.2.2.2.1 d.2.2.2.2.2.2.2.2.2.2.2.2.2.2.2.2.2.2.2.2.2.2.2.2.2.1 d.2.2.2.2.2.2.2.2.2.2.2.2.2.2.2.2.2.2.2.2.2.2.2.2.2.2.1 d.2.2.2.2.2.2.2.2.2.2.2.2.2.2.2.2.2.2.2.2.2.2.2.2.2.2.2.1 d.2.2.2.2.2.2.2.2.2.2.2.2.2.2.2.2.2.2.2.2.2.2.2.2.2.2.2.2.1 d.2.2.2.2.2.2.2.2.2.2.2.2.2.2.2.2.2.2.2.2.2.2.2.2.2.2.2.2.2.1 d.2.2.2.2.2.2.2.2.2.2.2.2.2.2.2.2.2.2.2.2.2.2.2.2.2.2.2.2.2.2.1 d.2.2.2.2.2.2.2.2.2.2.2.2.2.2.2.2.2.2.2.2.2.2.2.2.2.2.2.2.2.2.2.1 d.2.2.2.2.2.2.2.2.2.2.2.2.2.2.2.2.2.2.2.2.2.2.2.2.2.2.2.2.2.2.2.2.1 d.2.2.2.2.2.2.2.2.2.2.2.2.2.2.2.2.2.2.2.2.2.2.2.2.2.2.2.2.2.2.2.2.2.1 d.2.2.2.2.2.2.2.2.2.2.2.2.2.2.2.2.2.2.2.2.2.2.2.2.2.2.2.2.2.2.2.2.2.2.1 d.2.2.2.2.2.2.2.2.2.2.2.2.2.2.2.2.2.2.2.2.2.2.2.2.2.2.2.2.2.2.2.2.2.2.2.1 d.2.2.2.2.2.2.2.2.2.2.2.2.2.2.2.2.2.2.2.2.2.2.2.2.2.2.2.2.2.2.2.2.2.2.2.2
theorem eN : Nonempty epsT := by walk_at "ne_all"
@[irreducible] noncomputable def eK : epsT := Pk epsT eN epsQ
@[irreducible] noncomputable def un := eK.2.2.2.1
@[irreducible] noncomputable def base := eK.2.2.2.2.2.2.2.2.2.1
@[irreducible] noncomputable def g := eK.2.2.2.2.2.2.2.2.2.2.1
@[irreducible] noncomputable def L := eK.2.2.2.2.2.2.2.2.2.2.2.1
@[irreducible] noncomputable def h₁ := eK.2.2.2.2.2.2.2.2.2.2.2.2.2.2.1
@[irreducible] noncomputable def kl := eK.2.2.2.2.2.2.2.2.2.2.2.2.2.2.2.2.2.1
@[irreducible] noncomputable def e := eK.2.2.2.2.2.2.2.2.2.2.2.2.2.2.2.2.2.2.1
@[irreducible] noncomputable def ol := eK.2.2.2.2.2.2.2.2.2.2.2.2.2.2.2.2.2.2.2.1
@[irreducible] noncomputable def eo := eK.2.2.2.2.2.2.2.2.2.2.2.2.2.2.2.2.2.2.2.2.1
@[irreducible] noncomputable def k0 := eK.2.2.2.2.2.2.2.2.2.2.2.2.2.2.2.2.2.2.2.2.2.1
@[irreducible] noncomputable def k1 := eK.2.2.2.2.2.2.2.2.2.2.2.2.2.2.2.2.2.2.2.2.2.2.1
@[irreducible] noncomputable def k2 := eK.2.2.2.2.2.2.2.2.2.2.2.2.2.2.2.2.2.2.2.2.2.2.2.1
@[irreducible] noncomputable def f := eK.2.2.2.2.2.2.2.2.2.2.2.2.2.2.2.2.2.2.2.2.2.2.2.2.1
@[irreducible] noncomputable def o0 := eK.2.2.2.2.2.2.2.2.2.2.2.2.2.2.2.2.2.2.2.2.2.2.2.2.2.1
@[irreducible] noncomputable def o1 := eK.2.2.2.2.2.2.2.2.2.2.2.2.2.2.2.2.2.2.2.2.2.2.2.2.2.2.1
@[irreducible] noncomputable def o2 := eK.2.2.2.2.2.2.2.2.2.2.2.2.2.2.2.2.2.2.2.2.2.2.2.2.2.2.2.1
@[irreducible] noncomputable def rest := eK.2.2.2.2.2.2.2.2.2.2.2.2.2.2.2.2.2.2.2.2.2.2.2.2.2.2.2.2.1
@[irreducible] noncomputable def co0 := eK.2.2.2.2.2.2.2.2.2.2.2.2.2.2.2.2.2.2.2.2.2.2.2.2.2.2.2.2.2.2.1
@[irreducible] noncomputable def co1 := eK.2.2.2.2.2.2.2.2.2.2.2.2.2.2.2.2.2.2.2.2.2.2.2.2.2.2.2.2.2.2.2.1
@[irreducible] noncomputable def co2 := eK.2.2.2.2.2.2.2.2.2.2.2.2.2.2.2.2.2.2.2.2.2.2.2.2.2.2.2.2.2.2.2.2.1
@[irreducible] noncomputable def co3 := eK.2.2.2.2.2.2.2.2.2.2.2.2.2.2.2.2.2.2.2.2.2.2.2.2.2.2.2.2.2.2.2.2.2.1
@[irreducible] noncomputable def co4 := eK.2.2.2.2.2.2.2.2.2.2.2.2.2.2.2.2.2.2.2.2.2.2.2.2.2.2.2.2.2.2.2.2.2.2.1
@[irreducible] noncomputable def co5 := eK.2.2.2.2.2.2.2.2.2.2.2.2.2.2.2.2.2.2.2.2.2.2.2.2.2.2.2.2.2.2.2.2.2.2.2.1
@[irreducible] noncomputable def co6 := eK.2.2.2.2.2.2.2.2.2.2.2.2.2.2.2.2.2.2.2.2.2.2.2.2.2.2.2.2.2.2.2.2.2.2.2.2
theorem eC : epsP eK.1 eK.2.1 eK.2.2.1 un eK.2.2.2.2.1 eK.2.2.2.2.2.1 eK.2.2.2.2.2.2.1 eK.2.2.2.2.2.2.2.1 eK.2.2.2.2.2.2.2.2.1 base g L eK.2.2.2.2.2.2.2.2.2.2.2.2.1 eK.2.2.2.2.2.2.2.2.2.2.2.2.2.1 h₁ eK.2.2.2.2.2.2.2.2.2.2.2.2.2.2.2.1 eK.2.2.2.2.2.2.2.2.2.2.2.2.2.2.2.2.1 kl e ol eo k0 k1 k2 f o0 o1 o2 rest eK.2.2.2.2.2.2.2.2.2.2.2.2.2.2.2.2.2.2.2.2.2.2.2.2.2.2.2.2.2.1 co0 co1 co2 co3 co4 co5 co6 := by
  unfold epsP
  intro B X T cL cY cS hdp hun hL g0 g1 g2 i0 i1 i2 e0 e1 e2 cd2 cd4 F N oO oK oK0 oK1 oK2 hfr oR k
  have hb' := (rfl : lawRest 6 = lawRest 6)
  have hs' := (rfl : lawSc = lawSc)
  conv at hb' => rhs; whnf
  conv at hs' => rhs; whnf
  unfold lawA lawE lawCl
  rw [hb', hs']
  clear hb' hs'
  refine wpAny_execs_cons ?_
  obtain ⟨bs, hbs⟩ : ∃ bs : Led, bs = (ol, W.listOf [Value.ref o0.l, .ref o1.l, .ref o2.l].toArray eo) :: o0.obj :: o1.obj :: o2.obj :: (kl, W.listOf #[.ref k0.kl, .ref k1.kl, .ref k2.kl] e) :: ((L + 1, co0) :: (L + 1 + 1, co1) :: (L + 1 + 1 + 1, co2) :: (L + 1 + 1 + 1 + 1, co3) :: (L + 1 + 1 + 1 + 1 + 1, co4) :: (L + 1 + 1 + 1 + 1 + 1 + 1, co5) :: (L + 1 + 1 + 1 + 1 + 1 + 1 + 1, co6) :: (162, tabObj #[]) :: (k0.led ++ (k1.led ++ (k2.led ++ rest)))) := ⟨_, rfl⟩
  have inT : ∀ p ∈ ((L + 1, co0) :: (L + 1 + 1, co1) :: (L + 1 + 1 + 1, co2) :: (L + 1 + 1 + 1 + 1, co3) :: (L + 1 + 1 + 1 + 1 + 1, co4) :: (L + 1 + 1 + 1 + 1 + 1 + 1, co5) :: (L + 1 + 1 + 1 + 1 + 1 + 1 + 1, co6) :: (162, tabObj #[]) :: (k0.led ++ (k1.led ++ (k2.led ++ rest)))), p ∈ bs := fun p hp => by rw [hbs]; exact .tail _ (.tail _ (.tail _ (.tail _ (.tail _ hp))))
  have inL : ∀ p ∈ (k0.led ++ (k1.led ++ (k2.led ++ rest))), p ∈ bs := fun p hp => inT p (.tail _ (.tail _ (.tail _ (.tail _ (.tail _ (.tail _ (.tail _ (.tail _ hp))))))))
  have inC : (L + 1 + 1 + 1, co2) ∈ bs := inT _ (.tail _ (.tail _ (.head _)))
  have inO : (L + 1 + 1 + 1 + 1 + 1, co4) ∈ bs := inT _ (.tail _ (.tail _ (.tail _ (.tail _ (.head _)))))
  have inK : (kl, W.listOf #[.ref k0.kl, .ref k1.kl, .ref k2.kl] e) ∈ bs := by rw [hbs]; exact .tail _ (.tail _ (.tail _ (.tail _ (.head _))))
  have in0 : ∀ p ∈ k0.led, p ∈ bs := fun p hp => inL p (List.mem_append_left _ hp)
  have in1 : ∀ p ∈ k1.led, p ∈ bs := fun p hp => inL p (List.mem_append_right _ (List.mem_append_left _ hp))
  have in2 : ∀ p ∈ k2.led, p ∈ bs := fun p hp => inL p (List.mem_append_right _ (List.mem_append_right _ (List.mem_append_left _ hp)))
  have inR : ∀ p ∈ rest, p ∈ bs := fun p hp => inL p (List.mem_append_right _ (List.mem_append_right _ (List.mem_append_right _ hp)))
  have b134 : ∀ q ∈ bs, @Ne Nat q.1 134 := by
    rw [hbs]
    refine all_c ?_ ?_
    · exact (oO _ (.head _)).2.2.2.2.2.2.2.2.2
    refine all_c ?_ ?_
    · exact (oO _ (.tail _ (.head _))).2.2.2.2.2.2.2.2.2
    refine all_c ?_ ?_
    · exact (oO _ (.tail _ (.tail _ (.head _)))).2.2.2.2.2.2.2.2.2
    refine all_c ?_ ?_
    · exact (oO _ (.tail _ (.tail _ (.tail _ (.head _))))).2.2.2.2.2.2.2.2.2
    refine all_c ?_ ?_
    · exact oK.2.2.2.2.2.2.2.2.2
    refine all_c ?_ ?_
    · show @Ne Nat _ _; k_ne
    refine all_c ?_ ?_
    · show @Ne Nat _ _; k_ne
    refine all_c ?_ ?_
    · show @Ne Nat _ _; k_ne
    refine all_c ?_ ?_
    · show @Ne Nat _ _; k_ne
    refine all_c ?_ ?_
    · show @Ne Nat _ _; k_ne
    refine all_c ?_ ?_
    · show @Ne Nat _ _; k_ne
    refine all_c ?_ ?_
    · show @Ne Nat _ _; k_ne
    refine all_c ?_ ?_
    · show @Ne Nat _ _; k_ne
    refine all_app (fun q hq => (oK0 q hq).2.2.2.2.2.2.2.2.2) ?_
    refine all_app (fun q hq => (oK1 q hq).2.2.2.2.2.2.2.2.2) ?_
    refine all_app (fun q hq => (oK2 q hq).2.2.2.2.2.2.2.2.2) ?_
    exact oR
  have Nb : News g L h₁ ((L + 1 + 1 + 1 + 1 + 1, co4) :: (134, tabObj #[]) :: bs) := sub_news N (all_cons.mpr ⟨by k_dflt k_mem, all_cons.mpr ⟨by k_dflt k_mem, by rw [hbs]; (repeat with_reducible refine all_c (by k_dflt k_mem) ?_); intro p hp; (repeat first | exact hp | refine List.Mem.tail _ ?_)⟩⟩)
  clear N
  k_with_none
  k_with "execs cons Assign cons" => (refine Stop.go ?_)
  k_with "eval ListComp" => (refine Stop.go ?_)
  k_steps
  refine Stop.mk ?_
  k_dflt (refine gc_eval (by k_asm) (by with_unfolding_all rfl) (by rfl) (by decide) ?_)
  k_steps
  refine Stop.mk ?_
  rename Fr _ _ _ _ => F1
  rename News _ _ _ _ => N1
  refine gct_listN (P := 134) (Tb := TabS) (base := bs) (ps0 := #[]) (c0 := 134) (oc0 := tabObj #[]) (fun i ys ad => ∃ os : List OrdD, os.length = i ∧ ys = os.map (fun o => Value.ref o.l) ∧ ad = ordLed os.reverse ∧ ordsAre (fun j => srtKs f.dat (sel3 k0 k1 k2 j).ks) os) inK (by exact (by decide : 3 ≤ 64)) F1 N1 (all_cons.mpr ⟨.tail _ (.head _), all_cons.mpr ⟨.tail _ (.head _), fun _ h => .tail _ (.tail _ h)⟩⟩) (Or.inl ⟨rfl, rfl, rfl⟩) (fun q hq => ⟨b134 q hq, b134 q hq⟩) ⟨[], rfl, rfl, rfl, fun _ _ h => by cases h⟩ (by rfl) (by decide) (by rfl) (by rfl) ?t2 ?f2
  case t2 =>
    intro I2 j ys ad ps c' oc v lI2 hv hJ hT apb m₂ C oC D' oI h2 tk2 E' hx hC F2 N2 off
    clear F1 N1
    have hj3 : j < 3 := (Array.getElem?_eq_some_iff.mp hv).1
    have hvk : v = .ref (sel3 k0 k1 k2 j).kl ∧ KeyGood (sel3 k0 k1 k2 j) ∧ ∀ p ∈ (sel3 k0 k1 k2 j).led, p ∈ bs := by
      have : j = 0 ∨ j = 1 ∨ j = 2 := by first | exact orN3 (by omega) | exact orI3 (by omega) (by omega)
      rcases this with rfl | rfl | rfl <;> cases hv
      · exact ⟨rfl, g0, in0⟩
      · exact ⟨rfl, g1, in1⟩
      · exact ⟨rfl, g2, in2⟩
    obtain ⟨rfl, gj, inj⟩ := hvk
    obtain ⟨al, hal⟩ : ∃ al : Led, al = (I2, oI) :: (C, oC) :: (D', LCg.lst ys) :: (ad ++ bs) := ⟨_, rfl⟩
    have inA : ∀ p ∈ bs, p ∈ al := fun p hp => by rw [hal]; exact .tail _ (.tail _ (.tail _ (List.mem_append_right _ hp)))
    rw [← hal] at N2 off
    replace N2 := sub_news N2 (l' := (C, oC) :: (L + 1 + 1 + 1, co2) :: (134, tabObj ps) :: (c', oc) :: al) (all_cons.mpr ⟨by rw [hal]; exact .tail _ (.tail _ (.tail _ (.head _))), all_cons.mpr ⟨.tail _ (.tail _ (inA _ inC)), fun _ h => h⟩⟩)
    k_with "mycall" => ((with_reducible show wpAny _ _ (call (Value.ref 139) _) _ _ _); refine Stop.go ?_)
    k_steps
    refine Stop.mk ?_
    rename Fr _ _ _ _ => F'
    rename News _ _ _ _ => N'
    k_dflt (refine' tab_use (sorted_cold f (sel3 k0 k1 k2 j) gj.ok gj.sg) (fun c' oc ovs qt hn d1 d2 => sorted_hot f (sel3 k0 k1 k2 j) gj.ok gj.sg c' oc ovs qt d1 d2) ?uB ?uF ?uX ?uN ?uT ?uk ?u1 ?u2 ?u3 hT ?ue off ?ud ?uu ?uK)
    case uB => exact B
    case uF => exact F'
    case uX => exact X
    case uN => exact sub_news N' fun _ h => .tail _ (.tail _ h)
    case uT => exact T
    case uk => exact rfl
    case u1 => exact cL
    case u2 => exact cY
    case u3 => exact cS
    case ud => omega
    case uu => omega
    case ue =>
      intro q hq
      rcases List.mem_append.mp hq with hq | hq
      · exact inA _ (inR _ (hfr _ hq))
      · exact inA _ (inj _ hq)
    case uK =>
     intro ps' c'' oc' f' its e' h' tk' hT' off' apf hi' F3 N3
     obtain ⟨os, hfl, rfl, rfl, hfo⟩ := hJ
     rw [hal] at N3 off' apf
     show GcY _ _ _ _ _ _ _ _ _
     exact ⟨_, _, ps', c'', oc', [(f', W.listOf its.toArray e')], rfl, F3, N3, hT', off', fun p hp q hq => by rw [List.mem_singleton.mp hp]; exact apf q hq, os ++ [⟨f', its, srtKs f.dat (sel3 k0 k1 k2 j).ks, e'⟩], by rw [List.length_append, hfl]; rfl, by rw [List.map_append]; rfl, by rw [List.reverse_append]; rfl, hfo.snoc hi' (by show srtKs _ _ = srtKs _ _; rw [hfl])⟩
  case f2 =>
    intro ys ad ps c' oc gH hJ hT off apb D h2 tk2 F N oD
    clear F1 N1
    obtain ⟨os, hfl, rfl, rfl, hfo⟩ := hJ
    obtain ⟨t0, t1, t2, rfl⟩ := three_of os hfl
    k_with "compareOp NotEq ref ref" => (refine Stop.go ?_)
    k_steps
    refine Stop.mk ?_
    rename Fr _ _ _ _ => F3
    rename News _ _ _ _ => N3
    have inB : ∀ p ∈ bs, p ∈ (D, LCg.lst (List.map (fun o => Value.ref o.l) [t0, t1, t2])) :: (134, tabObj ps) :: (c', oc) :: (ordLed [t0, t1, t2].reverse ++ bs) := fun p hp => .tail _ (.tail _ (.tail _ (List.mem_append_right _ hp)))
    refine ne_lists3 (o0 := o0) (o1 := o1) (o2 := o2) (t0 := t0) (t1 := t1) (t2 := t2) (eo := eo) (e := 3) N3 (inB _ (by rw [hbs]; exact .head _)) (inB _ (by rw [hbs]; exact .tail _ (.head _))) (inB _ (by rw [hbs]; exact .tail _ (.tail _ (.head _)))) (inB _ (by rw [hbs]; exact .tail _ (.tail _ (.tail _ (.head _))))) (.head _) (.tail _ (.tail _ (.tail _ (.tail _ (.tail _ (.head _)))))) (.tail _ (.tail _ (.tail _ (.tail _ (.head _))))) (.tail _ (.tail _ (.tail _ (.head _))))
      i0 i1 i2 (hfo 0 _ rfl).1 (hfo 1 _ rfl).1 (hfo 2 _ rfl).1 ((hfo 0 _ rfl).2.trans e0.symm) ((hfo 1 _ rfl).2.trans e1.symm) ((hfo 2 _ rfl).2.trans e2.symm) (by show un + 64 < cLine; omega) ?_
    k_steps
    refine Stop.mk ?_
    refine k _ _ ps F3 (sub_news N3 fun p hp => ?_)
    simp only [List.mem_cons] at hp
    rcases hp with h | h | h | h | h | h | h | h | h | h | h | h | h | h
    all_goals first
      | (rw [h]; exact .tail _ (.head _))
      | (refine inB p ?_; rw [hbs]; simp only [List.mem_cons]; simp only [h, true_or, or_true]; done)
      | (refine inB p ?_; rw [hbs]; simp only [List.mem_cons]; exact .inr (.inr (.inr (.inr (.inr (.inr (.inr (.inr (.inr (.inr (.inr (.inr (.inr (List.mem_append_right _ (List.mem_append_right _ (List.mem_append_right _ h))))))))))))))))
end law6
theorem law6 {w : World} {z : Env0} {dp : Nat} {un : Nat} {gd : Option (List Code)} {a : Addr} {ccd : Value} {outer : List Env} {A₀ : Around} {base : Heap} {g : Heap} {L : Nat} {s : Shared} {tk : Nat} {h₁ : Heap} {Q : Flow → Shared → Prop} {E : Value → Shared → Prop} (B : Below A₀ base outer g) (X : (hd.heap_1 w.params).In g) (T : Top z.p z.loose z.mean z.mg z.mb g) (cL : CodeHd base 166 162) (cY : CodeHd base 145 141) (cS : CodeHd base 138 134) (hdp : dp + 80 < recursionLimit) (hun : un + 300 < cLine) (hL : 162 < L) {kl : Nat} {e : Nat} {ol : Nat} {eo : Nat} {k0 : KeysD} {k1 : KeysD} {k2 : KeysD} {f : FigD} {o0 : OrdD} {o1 : OrdD} {o2 : OrdD} (g0 : KeyGood k0) (g1 : KeyGood k1) (g2 : KeyGood k2) (i0 : IntsAre o0.its o0.ns) (i1 : IntsAre o1.its o1.ns) (i2 : IntsAre o2.its o2.ns) (e0 : o0.ns = srtKs f.dat k0.ks) (e1 : o1.ns = srtKs f.dat k1.ks) (e2 : o2.ns = srtKs f.dat k2.ks) {rest : Led} {u : Str → Option Value} {co0 : Obj} {co1 : Obj} {co2 : Obj} {co3 : Obj} {co4 : Obj} {co5 : Obj} {co6 : Obj} (cd2 : co2.data = Data.cell (some (.ref f.fl))) (cd4 : co4.data = Data.cell (some (.ref ol))) (F : Fr g L h₁ (kstB u [(Str.ofString "keys", .ref kl)])) (N : News g L h₁ ((ol, W.listOf [Value.ref o0.l, .ref o1.l, .ref o2.l].toArray eo) :: o0.obj :: o1.obj :: o2.obj :: (kl, W.listOf #[.ref k0.kl, .ref k1.kl, .ref k2.kl] e) :: ((L + 1, co0) :: (L + 1 + 1, co1) :: (L + 1 + 1 + 1, co2) :: (L + 1 + 1 + 1 + 1, co3) :: (L + 1 + 1 + 1 + 1 + 1, co4) :: (L + 1 + 1 + 1 + 1 + 1 + 1, co5) :: (L + 1 + 1 + 1 + 1 + 1 + 1 + 1, co6) :: (162, tabObj #[]) :: (134, tabObj #[]) :: (k0.led ++ (k1.led ++ (k2.led ++ rest)))))) (oO : OffL L ((ol, W.listOf [Value.ref o0.l, .ref o1.l, .ref o2.l].toArray eo) :: o0.obj :: o1.obj :: [o2.obj])) (oK : OffA L kl) (oK0 : OffL L k0.led) (oK1 : OffL L k1.led) (oK2 : OffL L k2.led) (hfr : ∀ p ∈ f.led, p ∈ rest) (oR : ∀ q ∈ rest, @Ne Nat q.1 134) (k : ∀ (h' : Heap) (tk' : Nat) (ps6 : Array Value), Fr g L h' (kstB u [(Str.ofString "keys", .ref kl)]) →
     News g L h' ((ol, W.listOf [Value.ref o0.l, .ref o1.l, .ref o2.l].toArray eo) :: o0.obj :: o1.obj :: o2.obj :: ((L + 1, co0) :: (L + 1 + 1, co1) :: (L + 1 + 1 + 1, co2) :: (L + 1 + 1 + 1 + 1, co3) :: (L + 1 + 1 + 1 + 1 + 1, co4) :: (L + 1 + 1 + 1 + 1 + 1 + 1, co5) :: (L + 1 + 1 + 1 + 1 + 1 + 1 + 1, co6) :: (162, tabObj #[]) :: (134, tabObj ps6) :: rest)) → wpAny (model PySem.Challenge.rw_wf0038_01.prog w) (lawA dp un gd L a ccd outer) (execs (lawRest 7) (lawE L a ccd)) Q E { s with heap := h', toks := tk' }) : wpAny (model PySem.Challenge.rw_wf0038_01.prog w) (lawA dp un gd L a ccd outer) (execs (lawRest 6) (lawE L a ccd)) Q E { s with heap := h₁, toks := tk } := Pk.all (T := law6.epsT) (ne := law6.eN) (Q := law6.epsQ) (by with_unfolding_all exact law6.eC) (w, z, dp, un, gd, a, ccd, outer, A₀, base, g, L, s, tk, h₁, Q, E, kl, e, ol, eo, k0, k1, k2, f, o0, o1, o2, rest, u, co0, co1, co2, co3, co4, co5, co6) B X T cL cY cS hdp hun hL g0 g1 g2 i0 i1 i2 e0 e1 e2 cd2 cd4 F N oO oK oK0 oK1 oK2 hfr oR k
end
section
variable {w : World} {z : Env0} {dp un : Nat} {gd : Option (List Code)} {a : Addr} {ccd : Value} {outer : List Env} {A₀ : Around} {base g : Heap} {L : Nat} {s : Shared} {tk : Nat} {h₁ : Heap} {Q : Flow → Shared → Prop} {E : Value → Shared → Prop}
end
end
section
noncomputable def perms : List (List Int) := [[0, 1, 2, 3], [0, 1, 3, 2], [0, 2, 1, 3], [0, 2, 3, 1], [0, 3, 1, 2], [0, 3, 2, 1], [1, 0, 2, 3], [1, 0, 3, 2], [1, 2, 0, 3], [1, 2, 3, 0], [1, 3, 0, 2], [1, 3, 2, 0], [2, 0, 1, 3], [2, 0, 3, 1], [2, 1, 0, 3], [2, 1, 3, 0], [2, 3, 0, 1], [2, 3, 1, 0], [3, 0, 1, 2], [3, 0, 2, 1], [3, 1, 0, 2], [3, 1, 2, 0], [3, 2, 0, 1], [3, 2, 1, 0]]
noncomputable def frontsL (ns : List Int) : List Int := frontsOf (ns.getD 0 0) (ns.getD 1 0) (ns.getD 2 0) (ns.getD 3 0)
theorem perm_ix : ∀ ns ∈ perms, ∀ k < 16, leastAt (frontsL ns) (0 + ((k : Nat) : Int)) < (frontsL ns).length := by decide +kernel
theorem perm_lo : ∀ ns ∈ perms, ns.length = 4 ∧ ∀ n ∈ ns, 0 ≤ n ∧ n < 4 := by decide +kernel
theorem perm_four {o : OrdD} (hi : IntsAre o.its o.ns) (hp : o.ns ∈ perms) : ∃ p0 p1 p2 p3 t0 t1 t2 t3, o.its = [.int p0 t0, .int p1 t1, .int p2 t2, .int p3 t3] ∧ o.ns = [p0, p1, p2, p3] ∧ (0 ≤ p0 ∧ p0 < 4) ∧ (0 ≤ p1 ∧ p1 < 4) ∧ (0 ≤ p2 ∧ p2 < 4) ∧ (0 ≤ p3 ∧ p3 < 4) := by
  obtain ⟨hl, hb⟩ := perm_lo _ hp
  obtain ⟨p0, p1, p2, p3, e⟩ := four_of o.ns hl
  rw [e] at hi hb
  generalize hv : o.its = vs at hi
  cases hi with
  | cons _ t0 hi =>
    cases hi with
    | cons _ t1 hi =>
      cases hi with
      | cons _ t2 hi =>
        cases hi with
        | cons _ t3 hi =>
          cases hi
          exact ⟨p0, p1, p2, p3, t0, t1, t2, t3, rfl, e, hb _ (.head _), hb _ (.tail _ (.head _)), hb _ (.tail _ (.tail _ (.head _))), hb _ (.tail _ (.tail _ (.tail _ (.head _))))⟩
noncomputable def OffC (L D : Nat) : Prop := D ≠ L + 1 ∧ D ≠ L + 1 + 1 ∧ D ≠ L + 1 + 1 + 1 ∧ D ≠ L + 1 + 1 + 1 + 1 ∧ D ≠ L + 1 + 1 + 1 + 1 + 1 ∧ D ≠ L + 1 + 1 + 1 + 1 + 1 + 1 ∧ D ≠ L + 1 + 1 + 1 + 1 + 1 + 1 + 1
noncomputable def OffK (L : Nat) (l : Led) : Prop := ∀ q ∈ l, OffC L q.1
theorem OffA.c {L D : Nat} (h : OffA L D) : OffC L D := ⟨h.1, h.2.1, h.2.2.1, h.2.2.2.1, h.2.2.2.2.1, h.2.2.2.2.2.1, h.2.2.2.2.2.2.1⟩
theorem OffL.c {L : Nat} {l : Led} (h : OffL L l) : OffK L l := fun q hq => (h q hq).c
theorem OffK.cons {L : Nat} {p : Addr × Obj} {l : Led} (h : OffC L p.1) (k : OffK L l) : OffK L (p :: l) := fun q hq => by
  rcases List.mem_cons.mp hq with rfl | hq
  · exact h
  · exact k q hq
theorem OffC.of {L D : Nat} {base : Led} {co0 co1 co2 co3 co4 co5 co6 : Obj} (hs : ∀ p ∈ ((L + 1, co0) :: (L + 1 + 1, co1) :: (L + 1 + 1 + 1, co2) :: (L + 1 + 1 + 1 + 1, co3) :: (L + 1 + 1 + 1 + 1 + 1, co4) :: (L + 1 + 1 + 1 + 1 + 1 + 1, co5) :: (L + 1 + 1 + 1 + 1 + 1 + 1 + 1, co6) :: []), p ∈ base) (h : ∀ p ∈ base, @Ne Nat p.1 D) : OffC L D := by
  have k : ∀ p ∈ ((L + 1, co0) :: (L + 1 + 1, co1) :: (L + 1 + 1 + 1, co2) :: (L + 1 + 1 + 1 + 1, co3) :: (L + 1 + 1 + 1 + 1 + 1, co4) :: (L + 1 + 1 + 1 + 1 + 1 + 1, co5) :: (L + 1 + 1 + 1 + 1 + 1 + 1 + 1, co6) :: []), @Ne Nat p.1 D := fun p hp => h p (hs p hp)
  exact ⟨(k _ (.head _)).symm, (k _ (.tail _ (.head _))).symm, (k _ (.tail _ (.tail _ (.head _)))).symm, (k _ (.tail _ (.tail _ (.tail _ (.head _))))).symm, (k _ (.tail _ (.tail _ (.tail _ (.tail _ (.head _)))))).symm, (k _ (.tail _ (.tail _ (.tail _ (.tail _ (.tail _ (.head _))))))).symm, (k _ (.tail _ (.tail _ (.tail _ (.tail _ (.tail _ (.tail _ (.head _)))))))).symm⟩
section
variable {w : World} {z : Env0} {dp un : Nat} {gd : Option (List Code)} {a : Addr} {ccd : Value} {outer : List Env} {A₀ : Around} {base g : Heap} {L : Nat} {s : Shared} {tk : Nat} {h₁ : Heap} {Q : Flow → Shared → Prop} {E : Value → Shared → Prop}
end
section
namespace law7
noncomputable def epsX : { P : World → Env0 → Nat → Nat → (Option (List Code)) → Addr → Value → (List Env) → Around → Heap → Heap → Nat → Shared → Nat → Heap → (Flow → Shared → Prop) → (Value → Shared → Prop) → Nat → Nat → Led → (Str → Option Value) → Obj → Obj → Obj → Obj → Obj → Obj → Obj → Nat → Nat → Nat → Nat → Nat → Nat → Int → Int → Int → Int → Int → Int → Int → Int → Int → Int → Int → Int → Tok → Tok → Tok → Tok → Tok → Tok → Tok → Tok → Tok → Tok → Tok → Tok → Prop // (∀ w z dp un gd a ccd outer A₀ base g L s tk h₁ Q E ol eo rest u co0 co1 co2 co3 co4 co5 co6 l0 e0 l1 e1 l2 e2 a0 b0 c0 d0 a1 b1 c1 d1 a2 b2 c2 d2 s0 s1 s2 s3 s4 s5 s6 s7 s8 s9 r0 r1, P w z dp un gd a ccd outer A₀ base g L s tk h₁ Q E ol eo rest u co0 co1 co2 co3 co4 co5 co6 l0 e0 l1 e1 l2 e2 a0 b0 c0 d0 a1 b1 c1 d1 a2 b2 c2 d2 s0 s1 s2 s3 s4 s5 s6 s7 s8 s9 r0 r1) → ∀ (w : World) (z : Env0) (dp : Nat) (un : Nat) (gd : Option (List Code)) (a : Addr) (ccd : Value) (outer : List Env) (A₀ : Around) (base : Heap) (g : Heap) (L : Nat) (s : Shared) (tk : Nat) (h₁ : Heap) (Q : Flow → Shared → Prop) (E : Value → Shared → Prop) (B : Below A₀ base outer g) (X : (hd.heap_1 w.params).In g) (T : Top z.p z.loose z.mean z.mg z.mb g) (cL : CodeHd base 166 162) (cY : CodeHd base 145 141) (cS : CodeHd base 138 134) (hdp : dp + 80 < recursionLimit) (hun : un + 300 < cLine) (hL : 162 < L) (ol : Nat) (eo : Nat) (o0 : OrdD) (o1 : OrdD) (o2 : OrdD) (i0 : IntsAre o0.its o0.ns) (i1 : IntsAre o1.its o1.ns) (i2 : IntsAre o2.its o2.ns) (y0 : o0.ns ∈ perms) (y1 : o1.ns ∈ perms) (y2 : o2.ns ∈ perms) (rest : Led) (u : Str → Option Value) (co0 : Obj) (co1 : Obj) (co2 : Obj) (co3 : Obj) (co4 : Obj) (co5 : Obj) (co6 : Obj) (cd4 : co4.data = Data.cell (some (.ref ol))) (cd5 : co5.data = Data.cell none) (F : Fr g L h₁ u) (N : News g L h₁ ((ol, W.listOf [Value.ref o0.l, .ref o1.l, .ref o2.l].toArray eo) :: o0.obj :: o1.obj :: o2.obj :: ((L + 1, co0) :: (L + 1 + 1, co1) :: (L + 1 + 1 + 1, co2) :: (L + 1 + 1 + 1 + 1, co3) :: (L + 1 + 1 + 1 + 1 + 1, co4) :: (L + 1 + 1 + 1 + 1 + 1 + 1, co5) :: (L + 1 + 1 + 1 + 1 + 1 + 1 + 1, co6) :: (162, tabObj #[]) :: rest))) (oO : OffL L ((ol, W.listOf [Value.ref o0.l, .ref o1.l, .ref o2.l].toArray eo) :: o0.obj :: o1.obj :: [o2.obj])) (oR : ∀ q ∈ rest, @Ne Nat q.1 162) (oRK : OffK L rest) (k : ∀ (h' : Heap) (tk' : Nat) (ps7 : Array Value) (cl e : Nat) (its : List Value) (co5 : Obj), co5.data = Data.cell (some (.ref cl)) → IntsAre its (closedOf (frontsL o0.ns) (frontsL o1.ns) (frontsL o2.ns)) → Fr g L h' u →
     News g L h' ((cl, W.listOf its.toArray e) :: (162, tabObj ps7) :: (ol, W.listOf [Value.ref o0.l, .ref o1.l, .ref o2.l].toArray eo) :: o0.obj :: o1.obj :: o2.obj :: ((L + 1, co0) :: (L + 1 + 1, co1) :: (L + 1 + 1 + 1, co2) :: (L + 1 + 1 + 1 + 1, co3) :: (L + 1 + 1 + 1 + 1 + 1, co4) :: (L + 1 + 1 + 1 + 1 + 1 + 1, co5) :: (L + 1 + 1 + 1 + 1 + 1 + 1 + 1, co6) :: rest)) → OffC L cl → wpAny (model PySem.Challenge.rw_wf0038_01.prog w) (lawA dp un gd L a ccd outer) (execs (lawRest 8) (lawE L a ccd)) Q E { s with heap := h', toks := tk' }), wpAny (model PySem.Challenge.rw_wf0038_01.prog w) (lawA dp un gd L a ccd outer) (execs (lawRest 7) (lawE L a ccd)) Q E { s with heap := h₁, toks := tk } } := ⟨_, by
  intro h_eps w z dp un gd a ccd outer A₀ base g L s tk h₁ Q E B X T cL cY cS hdp hun hL ol eo o0 o1 o2 i0 i1 i2 y0 y1 y2 rest u co0 co1 co2 co3 co4 co5 co6 cd4 cd5 F N oO oR oRK k
  have x0 := perm_ix _ y0
  have x1 := perm_ix _ y1
  have x2 := perm_ix _ y2
  obtain ⟨a0, b0, c0, d0, s0, s1, s2, s3, h0, v0, ha0, hb0, hc0, hd0⟩ := perm_four i0 y0
  obtain ⟨a1, b1, c1, d1, s4, s5, s6, s7, h1, v1, ha1, hb1, hc1, hd1⟩ := perm_four i1 y1
  obtain ⟨a2, b2, c2, d2, s8, s9, r0, r1, h2, v2, ha2, hb2, hc2, hd2⟩ := perm_four i2 y2
  obtain ⟨l0, t0, n0, e0⟩ := o0
  obtain ⟨l1, t1, n1, e1⟩ := o1
  obtain ⟨l2, t2, n2, e2⟩ := o2
  have hh0 : t0 = _ := h0
  have hh1 : t1 = _ := h1
  have hh2 : t2 = _ := h2
  have vv0 : n0 = _ := v0
  have vv1 : n1 = _ := v1
  have vv2 : n2 = _ := v2
  clear h0 h1 h2 v0 v1 v2
  subst hh0 hh1 hh2 vv0 vv1 vv2
  revert hd2; revert hc2; revert hb2; revert ha2; revert hd1; revert hc1; revert hb1; revert ha1; revert hd0; revert hc0; revert hb0; revert ha0; revert x2; revert x1; revert x0; revert k; revert oRK; revert oR; revert oO; revert N; revert F; revert cd5; revert cd4; revert y2; revert y1; revert y0; revert i2; revert i1; revert i0; revert hL; revert hun; revert hdp; revert cS; revert cY; revert cL; revert T; revert X; revert B
  exact h_eps w z dp un gd a ccd outer A₀ base g L s tk h₁ Q E ol eo rest u co0 co1 co2 co3 co4 co5 co6 l0 e0 l1 e1 l2 e2 a0 b0 c0 d0 a1 b1 c1 d1 a2 b2 c2 d2 s0 s1 s2 s3 s4 s5 s6 s7 s8 s9 r0 r1⟩
noncomputable abbrev epsT : Type := World × Env0 × Nat × Nat × (Option (List Code)) × Addr × Value × (List Env) × Around × Heap × Heap × Nat × Shared × Nat × Heap × (Flow → Shared → Prop) × (Value → Shared → Prop) × Nat × Nat × Led × (Str → Option Value) × Obj × Obj × Obj × Obj × Obj × Obj × Obj × Nat × Nat × Nat × Nat × Nat × Nat × Int × Int × Int × Int × Int × Int × Int × Int × Int × Int × Int × Int × Tok × Tok × Tok × Tok × Tok × Tok × Tok × Tok × Tok × Tok × Tok × Tok
noncomputable abbrev epsQ : epsT → Prop := fun d => epsX.1 d.1 d.2.1 d.2.2.1 d.2.2.2.1 d.2.2.2.2.1 d.2.2.2.2.2.1 d.2.2.2.2.2.2.1 d.2.2.2.2.2.2.2.1 d.2.2.2.2.2.2.2.2.1 d.2.2.2.2.2.2.2.2.2.1 d.2.2.2.2.2.2.2.2.2.2.1 d.2.2.2.2.2.2.2.2.2.2.2.1 d.2.2.2.2.2.2.2.2.2.2.2.2.1 d.2.2.2.2.2.2.2.2.2.2.2.2.2.1 d.2.2.2.2.2.2.2.2.2.2.2.2.2.2.1 d.2.2.2.2.2.2.2.2.2.2.2.2.2.2.2.1 d.2.2.2.2.2.2.2.2.2.2.2.2.2.2.2.2.1 d.2.2.2.2.2.2.2.2.2.2.2.2.2.2.2.2.2.1 d.2.2.2.2.2.2.2.2.2.2.2.2.2.2.2.2.2.2.1 d.2.2.2.2.2.2.2.2.2.2.2.2.2.2.2.2.2.2.2.1 d.2.2.2.2.2.2.2.2.2.2.2.2.2.2.2.2.2.2.2.2.1 d.2.2.2.2.2.2.2.2.2.2.2.2.2.2.2.2.2.2.2.2.2.1 d.2.2.2.2.2.2.2.2.2.2.2.2.2.2.2.2.2.2.2.2.2.2.1 d.2.2.2.2.2.2.2.2.2.2.2.2.2.2.2.2.2.2.2.2.2.2.2.1 d.2.2.2.2.2.2.2.2.2.2.2.2.2.2.2.2.2.2.2.2.2.2.2.2.1 d.2.2.2.2.2.2.2.2.2.2.2.2.2.2.2.2.2.2.2.2.2.2.2.2.2.1 d.2.2.2.2.2.2.2.2.2.2.2.2.2.2.2.2.2.2.2.2.2.2.2.2.2.2.1 d.2.2.2.2.2.2.2.2.2.2.2.2.2.2.2.2.2.2.2.2.2.2.2.2.2.2.2.1 d.2.2.2.2.2.2.2.2.2.2.2.2.2.2.2.2.2.2.2.2.2.2.2.2.2.2.2.2.1 d.2.2.2.2.2.2.2.2.2.2.2.2.2.2.2.2.2.2.2.2.2.2.2.2.2.2.2.2.2.1 d.2.2.2.2.2.2.2.2.2.2.2.2.2.2.2.2.2.2.2.2.2.2.2.2.2.2.2.2.2.2.1 d.2.2.2.2.2.2.2.2.2.2.2.2.2.2.2.2.2.2.2.2.2.2.2.2.2.2.2.2.2.2.2.1 d.2.2.2.2.2.2.2.2.2.2.2.2.2.2.2.2.2.2.2.2.2.2.2.2.2.2.2.2.2.2.2.2.1 d.2.2.2.2.2.2.2.2.2.2.2.2.2.2.2.2.2.2.2.2.2.2.2.2.2.2.2.2.2.2.2.2.2.1 d.2.2.2.2.2.2.2.2.2.2.2.2.2.2.2.2.2.2.2.2.2.2.2.2.2.2.2.2.2.2.2.2.2.2.1 d.2.2.2.2.2.2.2.2.2.2.2.2.2.2.2.2.2.2.2.2.2.2.2.2.2.2.2.2.2.2.2.2.2.2.2.1 d.2.2.2.2.2.2.2.2.2.2.2.2.2.2.2.2.2.2.2.2.2.2.2.2.2.2.2.2.2.2.2.2.2.2.2.2.1 d.2.2.2.2.2.2.2.2.2.2.2.2.2.2.2.2.2.2.2.2.2.2.2.2.2.2.2.2.2.2.2.2.2.2.2.2.2.1 d.2.2.2.2.2.2.2.2.2.2.2.2.2.2.2.2.2.2.2.2.2.2.2.2.2.2.2.2.2.2.2.2.2.2.2.2.2.2.1 d.2.2.2.2.2.2.2.2.2.2.2.2.2.2.2.2.2.2.2.2.2.2.2.2.2.2.2.2.2.2.2.2.2.2.2.2.2.2.2.1 d.2.2.2.2.2.2.2.2.2.2.2.2.2.2.2.2.2.2.2.2.2.2.2.2.2.2.2.2.2.2.2.2.2.2.2.2.2.2.2.2.1 d.2.2.2.2.2.2.2.2.2.2.2.2.2.2.2.2.2.2.2.2.2.2.2.2.2.2.2.2.2.2.2.2.2.2.2.2.2.2.2.2.2.1 d.2.2.2.2.2.2.2.2.2.2.2.2.2.2.2.2.2.2.2.2.2.2.2.2.2.2.2.2.2.2.2.2.2.2.2.2.2.2.2.2.2.2.1 d.2.2.2.2.2.2.2.2.2.2.2.2.2.2.2.2.2.2.2.2.2.2.2.2.2.2.2.2.2.2.2.2.2.2.2.2.2.2.2.2.2.2.2.1 d.2.2.2.2.2.2.2.2.2.2.2.2.2.2.2.2.2.2.2.2.2.2.2.2.2.2.2.2.2.2.2.2.2.2.2.2.2.2.2.2.2.2.2.2.1 d.2.2.2.2.2.2.2.2.2.2.2.2.2.2.2.2.2.2.2.2.2.2.2.2.2.2.2.2.2.2.2.2.2.2.2.2.2.2.2.2.2.2.2.2.2.1 d.2.2.2.2.2.2.2.2.2.2.2.2.2.2.2.2.2.2.2.2.2.2.2.2.2.2.2.2.2.2.2.2.2.2.2.2.2.2.2.2.2.2.2.2.2.2.1 d.2.2.2.2.2.2.2.2.2.2.2.2.2.2.2.2.2.2.2.2.2.2.2.2.2.2.2.2.2.2.2.2.2.2.2.2.2.2.2.2.2.2.2.2.2.2.2.1 d.2.2.2.2.2.2.2.2.2.2.2.2.2.2.2.2.2.2.2.2.2.2.2.2.2.2.2.2.2.2.2.2.2.2.2.2.2.2.2.2.2.2.2.2.2.2.2.2.1 d.2.2.2.2.2.2.2.2.2.2.2.2.2.2.2.2.2.2.2.2.2.2.2.2.2.2.2.2.2.2.2.2.2.2.2.2.2.2.2.2.2.2.2.2.2.2.2.2.2.1 d.2.2.2.2.2.2.2.2.2.2.2.2.2.2.2.2.2.2.2.2.2.2.2.2.2.2.2.2.2.2.2.2.2.2.2.2.2.2.2.2.2.2.2.2.2.2.2.2.2.2.1 d.2.2.2.2.2.2.2.2.2.2.2.2.2.2.2.2.2.2.2.2.2.2.2.2.2.2.2.2.2.2.2.2.2.2.2.2.2.2.2.2.2.2.2.2.2.2.2.2.2.2.2.1 d.2.2.2.2.2.2.2.2.2.2.2.2.2.2.2.2.2.2.2.2.2.2.2.2.2.2.2.2.2.2.2.2.2.2.2.2.2.2.2.2.2.2.2.2.2.2.2.2.2.2.2.2.1 d.2.2.2.2.2.2.2.2.2.2.2.2.2.2.2.2.2.2.2.2.2.2.2.2.2.2.2.2.2.2.2.2.2.2.2.2.2.2.2.2.2.2.2.2.2.2.2.2.2.2.2.2.2.1 d.2.2.2.2.2.2.2.2.2.2.2.2.2.2.2.2.2.2.2.2.2.2.2.2.2.2.2.2.2.2.2.2.2.2.2.2.2.2.2.2.2.2.2.2.2.2.2.2.2.2.2.2.2.2.1 d.2.2.2.2.2.2.2.2.2.2.2.2.2.2.2.2.2.2.2.2.2.2.2.2.2.2.2.2.2.2.2.2.2.2.2.2.2.2.2.2.2.2.2.2.2.2.2.2.2.2.2.2.2.2.2.1 d.2.2.2.2.2.2.2.2.2.2.2.2.2.2.2.2.2.2.2.2.2.2.2.2.2.2.2.2.2.2.2.2.2.2.2.2.2.2.2.2.2.2.2.2.2.2.2.2.2.2.2.2.2.2.2.2.1 d.2.2.2.2.2.2.2.2.2.2.2.2.2.2.2.2.2.2.2.2.2.2.2.2.2.2.2.2.2.2.2.2.2.2.2.2.2.2.2.2.2.2.2.2.2.2.2.2.2.2.2.2.2.2.2.2.2
theorem eN : Nonempty epsT := by walk_at "ne_all"
@[irreducible] noncomputable def eK : epsT := Pk epsT eN epsQ
@[irreducible] noncomputable def base := eK.2.2.2.2.2.2.2.2.2.1
@[irreducible] noncomputable def g := eK.2.2.2.2.2.2.2.2.2.2.1
@[irreducible] noncomputable def L := eK.2.2.2.2.2.2.2.2.2.2.2.1
@[irreducible] noncomputable def h₁ := eK.2.2.2.2.2.2.2.2.2.2.2.2.2.2.1
@[irreducible] noncomputable def ol := eK.2.2.2.2.2.2.2.2.2.2.2.2.2.2.2.2.2.1
@[irreducible] noncomputable def eo := eK.2.2.2.2.2.2.2.2.2.2.2.2.2.2.2.2.2.2.1
@[irreducible] noncomputable def rest := eK.2.2.2.2.2.2.2.2.2.2.2.2.2.2.2.2.2.2.2.1
@[irreducible] noncomputable def co0 := eK.2.2.2.2.2.2.2.2.2.2.2.2.2.2.2.2.2.2.2.2.2.1
@[irreducible] noncomputable def co1 := eK.2.2.2.2.2.2.2.2.2.2.2.2.2.2.2.2.2.2.2.2.2.2.1
@[irreducible] noncomputable def co2 := eK.2.2.2.2.2.2.2.2.2.2.2.2.2.2.2.2.2.2.2.2.2.2.2.1
@[irreducible] noncomputable def co3 := eK.2.2.2.2.2.2.2.2.2.2.2.2.2.2.2.2.2.2.2.2.2.2.2.2.1
@[irreducible] noncomputable def co4 := eK.2.2.2.2.2.2.2.2.2.2.2.2.2.2.2.2.2.2.2.2.2.2.2.2.2.1
@[irreducible] noncomputable def co5 := eK.2.2.2.2.2.2.2.2.2.2.2.2.2.2.2.2.2.2.2.2.2.2.2.2.2.2.1
@[irreducible] noncomputable def co6 := eK.2.2.2.2.2.2.2.2.2.2.2.2.2.2.2.2.2.2.2.2.2.2.2.2.2.2.2.1
@[irreducible] noncomputable def l0 := eK.2.2.2.2.2.2.2.2.2.2.2.2.2.2.2.2.2.2.2.2.2.2.2.2.2.2.2.2.1
@[irreducible] noncomputable def e0 := eK.2.2.2.2.2.2.2.2.2.2.2.2.2.2.2.2.2.2.2.2.2.2.2.2.2.2.2.2.2.1
@[irreducible] noncomputable def l1 := eK.2.2.2.2.2.2.2.2.2.2.2.2.2.2.2.2.2.2.2.2.2.2.2.2.2.2.2.2.2.2.1
@[irreducible] noncomputable def e1 := eK.2.2.2.2.2.2.2.2.2.2.2.2.2.2.2.2.2.2.2.2.2.2.2.2.2.2.2.2.2.2.2.1
@[irreducible] noncomputable def l2 := eK.2.2.2.2.2.2.2.2.2.2.2.2.2.2.2.2.2.2.2.2.2.2.2.2.2.2.2.2.2.2.2.2.1
@[irreducible] noncomputable def e2 := eK.2.2.2.2.2.2.2.2.2.2.2.2.2.2.2.2.2.2.2.2.2.2.2.2.2.2.2.2.2.2.2.2.2.1
@[irreducible] noncomputable def a0 := eK.2.2.2.2.2.2.2.2.2.2.2.2.2.2.2.2.2.2.2.2.2.2.2.2.2.2.2.2.2.2.2.2.2.2.1
@[irreducible] noncomputable def b0 := eK.2.2.2.2.2.2.2.2.2.2.2.2.2.2.2.2.2.2.2.2.2.2.2.2.2.2.2.2.2.2.2.2.2.2.2.1
@[irreducible] noncomputable def c0 := eK.2.2.2.2.2.2.2.2.2.2.2.2.2.2.2.2.2.2.2.2.2.2.2.2.2.2.2.2.2.2.2.2.2.2.2.2.1
@[irreducible] noncomputable def d0 := eK.2.2.2.2.2.2.2.2.2.2.2.2.2.2.2.2.2.2.2.2.2.2.2.2.2.2.2.2.2.2.2.2.2.2.2.2.2.1
@[irreducible] noncomputable def a1 := eK.2.2.2.2.2.2.2.2.2.2.2.2.2.2.2.2.2.2.2.2.2.2.2.2.2.2.2.2.2.2.2.2.2.2.2.2.2.2.1
@[irreducible] noncomputable def b1 := eK.2.2.2.2.2.2.2.2.2.2.2.2.2.2.2.2.2.2.2.2.2.2.2.2.2.2.2.2.2.2.2.2.2.2.2.2.2.2.2.1
@[irreducible] noncomputable def c1 := eK.2.2.2.2.2.2.2.2.2.2.2.2.2.2.2.2.2.2.2.2.2.2.2.2.2.2.2.2.2.2.2.2.2.2.2.2.2.2.2.2.1
@[irreducible] noncomputable def d1 := eK.2.2.2.2.2.2.2.2.2.2.2.2.2.2.2.2.2.2.2.2.2.2.2.2.2.2.2.2.2.2.2.2.2.2.2.2.2.2.2.2.2.1
@[irreducible] noncomputable def a2 := eK.2.2.2.2.2.2.2.2.2.2.2.2.2.2.2.2.2.2.2.2.2.2.2.2.2.2.2.2.2.2.2.2.2.2.2.2.2.2.2.2.2.2.1
@[irreducible] noncomputable def b2 := eK.2.2.2.2.2.2.2.2.2.2.2.2.2.2.2.2.2.2.2.2.2.2.2.2.2.2.2.2.2.2.2.2.2.2.2.2.2.2.2.2.2.2.2.1
@[irreducible] noncomputable def c2 := eK.2.2.2.2.2.2.2.2.2.2.2.2.2.2.2.2.2.2.2.2.2.2.2.2.2.2.2.2.2.2.2.2.2.2.2.2.2.2.2.2.2.2.2.2.1
@[irreducible] noncomputable def d2 := eK.2.2.2.2.2.2.2.2.2.2.2.2.2.2.2.2.2.2.2.2.2.2.2.2.2.2.2.2.2.2.2.2.2.2.2.2.2.2.2.2.2.2.2.2.2.1
@[irreducible] noncomputable def s0 := eK.2.2.2.2.2.2.2.2.2.2.2.2.2.2.2.2.2.2.2.2.2.2.2.2.2.2.2.2.2.2.2.2.2.2.2.2.2.2.2.2.2.2.2.2.2.2.1
@[irreducible] noncomputable def s1 := eK.2.2.2.2.2.2.2.2.2.2.2.2.2.2.2.2.2.2.2.2.2.2.2.2.2.2.2.2.2.2.2.2.2.2.2.2.2.2.2.2.2.2.2.2.2.2.2.1
@[irreducible] noncomputable def s2 := eK.2.2.2.2.2.2.2.2.2.2.2.2.2.2.2.2.2.2.2.2.2.2.2.2.2.2.2.2.2.2.2.2.2.2.2.2.2.2.2.2.2.2.2.2.2.2.2.2.1
@[irreducible] noncomputable def s3 := eK.2.2.2.2.2.2.2.2.2.2.2.2.2.2.2.2.2.2.2.2.2.2.2.2.2.2.2.2.2.2.2.2.2.2.2.2.2.2.2.2.2.2.2.2.2.2.2.2.2.1
@[irreducible] noncomputable def s4 := eK.2.2.2.2.2.2.2.2.2.2.2.2.2.2.2.2.2.2.2.2.2.2.2.2.2.2.2.2.2.2.2.2.2.2.2.2.2.2.2.2.2.2.2.2.2.2.2.2.2.2.1
@[irreducible] noncomputable def s5 := eK.2.2.2.2.2.2.2.2.2.2.2.2.2.2.2.2.2.2.2.2.2.2.2.2.2.2.2.2.2.2.2.2.2.2.2.2.2.2.2.2.2.2.2.2.2.2.2.2.2.2.2.1
@[irreducible] noncomputable def s6 := eK.2.2.2.2.2.2.2.2.2.2.2.2.2.2.2.2.2.2.2.2.2.2.2.2.2.2.2.2.2.2.2.2.2.2.2.2.2.2.2.2.2.2.2.2.2.2.2.2.2.2.2.2.1
@[irreducible] noncomputable def s7 := eK.2.2.2.2.2.2.2.2.2.2.2.2.2.2.2.2.2.2.2.2.2.2.2.2.2.2.2.2.2.2.2.2.2.2.2.2.2.2.2.2.2.2.2.2.2.2.2.2.2.2.2.2.2.1
@[irreducible] noncomputable def s8 := eK.2.2.2.2.2.2.2.2.2.2.2.2.2.2.2.2.2.2.2.2.2.2.2.2.2.2.2.2.2.2.2.2.2.2.2.2.2.2.2.2.2.2.2.2.2.2.2.2.2.2.2.2.2.2.1
@[irreducible] noncomputable def s9 := eK.2.2.2.2.2.2.2.2.2.2.2.2.2.2.2.2.2.2.2.2.2.2.2.2.2.2.2.2.2.2.2.2.2.2.2.2.2.2.2.2.2.2.2.2.2.2.2.2.2.2.2.2.2.2.2.1
@[irreducible] noncomputable def r0 := eK.2.2.2.2.2.2.2.2.2.2.2.2.2.2.2.2.2.2.2.2.2.2.2.2.2.2.2.2.2.2.2.2.2.2.2.2.2.2.2.2.2.2.2.2.2.2.2.2.2.2.2.2.2.2.2.2.1
@[irreducible] noncomputable def r1 := eK.2.2.2.2.2.2.2.2.2.2.2.2.2.2.2.2.2.2.2.2.2.2.2.2.2.2.2.2.2.2.2.2.2.2.2.2.2.2.2.2.2.2.2.2.2.2.2.2.2.2.2.2.2.2.2.2.2
theorem eC : epsX.1 eK.1 eK.2.1 eK.2.2.1 eK.2.2.2.1 eK.2.2.2.2.1 eK.2.2.2.2.2.1 eK.2.2.2.2.2.2.1 eK.2.2.2.2.2.2.2.1 eK.2.2.2.2.2.2.2.2.1 base g L eK.2.2.2.2.2.2.2.2.2.2.2.2.1 eK.2.2.2.2.2.2.2.2.2.2.2.2.2.1 h₁ eK.2.2.2.2.2.2.2.2.2.2.2.2.2.2.2.1 eK.2.2.2.2.2.2.2.2.2.2.2.2.2.2.2.2.1 ol eo rest eK.2.2.2.2.2.2.2.2.2.2.2.2.2.2.2.2.2.2.2.2.1 co0 co1 co2 co3 co4 co5 co6 l0 e0 l1 e1 l2 e2 a0 b0 c0 d0 a1 b1 c1 d1 a2 b2 c2 d2 s0 s1 s2 s3 s4 s5 s6 s7 s8 s9 r0 r1 := by
  dsimp only [epsX]
  intro B X T cL cY cS hdp hun hL i0 i1 i2 y0 y1 y2 cd4 cd5 F N oO oR oRK k x0 x1 x2 ha0 hb0 hc0 hd0 ha1 hb1 hc1 hd1 ha2 hb2 hc2 hd2
  have hb' := (rfl : lawRest 7 = lawRest 7)
  have hs' := (rfl : lawSc = lawSc)
  conv at hb' => rhs; whnf
  conv at hs' => rhs; whnf
  unfold lawA lawE lawCl
  rw [hb', hs']
  clear hb' hs'
  refine wpAny_execs_cons ?_
  have z0 : @Ne Nat ol (L + 1 + 1 + 1 + 1 + 1 + 1) := (oO _ (.head _)).2.2.2.2.2.1
  have z1 : @Ne Nat l0 (L + 1 + 1 + 1 + 1 + 1 + 1) := (oO _ (.tail _ (.head _))).2.2.2.2.2.1
  have z2 : @Ne Nat l1 (L + 1 + 1 + 1 + 1 + 1 + 1) := (oO _ (.tail _ (.tail _ (.head _)))).2.2.2.2.2.1
  have z3 : @Ne Nat l2 (L + 1 + 1 + 1 + 1 + 1 + 1) := (oO _ (.tail _ (.tail _ (.tail _ (.head _))))).2.2.2.2.2.1
  replace N := (show News g L h₁ ((ol, W.listOf [Value.ref l0, .ref l1, .ref l2].toArray eo) :: (l0, W.listOf [Value.int a0 s0, .int b0 s1, .int c0 s2, .int d0 s3].toArray e0) :: (l1, W.listOf [Value.int a1 s4, .int b1 s5, .int c1 s6, .int d1 s7].toArray e1) :: (l2, W.listOf [Value.int a2 s8, .int b2 s9, .int c2 r0, .int d2 r1].toArray e2) :: _) from N)
  k_with_none
  k_with "execs cons Assign cons" => (refine Stop.go ?_)
  k_with "mycall" => (refine Stop.go ?_)
  k_steps
  refine Stop.mk ?_
  (k_dflt (refine' Spec.use0 (fronts_spec l0 a0 b0 c0 d0 s0 s1 s2 s3 e0 (by omega) (by omega) (by omega) (by omega)) ?uB ?uF ?uX ?uN ?uT ?uk ?u1 ?u2 ?u3 ?ud ?uu ?ue ?uK; (case uB => k_asm); (case uF => k_asm); (case uX => k_asm); (case uN => k_asm); (case uT => k_asm); (case uk => first | exact rfl | assumption); (case u1 => assumption); (case u2 => assumption); (case u3 => assumption); (case ud => ktr_room); (case uu => ktr_units); (case ue => walk_at "sub"); k_whole)); (intro v' mu' new' h' tk' hR' F' N' ap'); (obtain ⟨f0, q0, w0, e1', e2', j0, e3'⟩ := hR'); subst e1'; subst e2'; subst e3'; (dsimp only [List.nil_append, List.cons_append] at N')
  k_steps
  refine Stop.mk ?_
  (k_dflt (refine' Spec.use0 (fronts_spec l1 a1 b1 c1 d1 s4 s5 s6 s7 e1 (by omega) (by omega) (by omega) (by omega)) ?uAB ?uAF ?uAX ?uAN ?uAT ?uAk ?uA1 ?uA2 ?uA3 ?uAd ?uAu ?uAe ?uAK; (case uAB => k_asm); (case uAF => k_asm); (case uAX => k_asm); (case uAN => k_asm); (case uAT => k_asm); (case uAk => first | exact rfl | assumption); (case uA1 => assumption); (case uA2 => assumption); (case uA3 => assumption); (case uAd => ktr_room); (case uAu => ktr_units); (case uAe => walk_at "sub"); k_whole)); (intro v' mu' new' h' tk' hR' F' N' ap'); (obtain ⟨f1, q1, w1, e1', e2', j1, e3'⟩ := hR'); subst e1'; subst e2'; subst e3'; (dsimp only [List.nil_append, List.cons_append] at N')
  k_steps
  refine Stop.mk ?_
  (k_dflt (refine' Spec.use0 (fronts_spec l2 a2 b2 c2 d2 s8 s9 r0 r1 e2 (by omega) (by omega) (by omega) (by omega)) ?uBB ?uBF ?uBX ?uBN ?uBT ?uBk ?uB1 ?uB2 ?uB3 ?uBd ?uBu ?uBe ?uBK; (case uBB => k_asm); (case uBF => k_asm); (case uBX => k_asm); (case uBN => k_asm); (case uBT => k_asm); (case uBk => first | exact rfl | assumption); (case uB1 => assumption); (case uB2 => assumption); (case uB3 => assumption); (case uBd => ktr_room); (case uBu => ktr_units); (case uBe => walk_at "sub"); k_whole)); (intro v' mu' new' h' tk' hR' F' N' ap'); (obtain ⟨f2, q2, w2, e1', e2', j2, e3'⟩ := hR'); subst e1'; subst e2'; subst e3'; (dsimp only [List.nil_append, List.cons_append] at N')
  k_steps
  refine Stop.mk ?_
  rename Fr _ _ _ _ => F4
  rename News _ _ _ _ => N4
  have o162 : ∀ q ∈ rest, @Ne Nat q.1 162 := oR
  have m0 : @Ne Nat ol 162 := (oO _ (.head _)).2.2.2.2.2.2.2.1
  have m1 : @Ne Nat l0 162 := (oO _ (.tail _ (.head _))).2.2.2.2.2.2.2.1
  have m2 : @Ne Nat l1 162 := (oO _ (.tail _ (.tail _ (.head _)))).2.2.2.2.2.2.2.1
  have m3 : @Ne Nat l2 162 := (oO _ (.tail _ (.tail _ (.tail _ (.head _))))).2.2.2.2.2.2.2.1
  have nf2 : @Ne Nat f2 162 := (ap' (162, tabObj #[]) (by k_dflt k_mem) _ (.head _)).symm
  rename Apart _ [(f1, _)] => apB
  have nf1 : @Ne Nat f1 162 := (apB (162, tabObj #[]) (by k_dflt k_mem) _ (.head _)).symm
  rename Apart _ [(f0, _)] => apC
  have nf0 : @Ne Nat f0 162 := (apC (162, tabObj #[]) (by k_dflt k_mem) _ (.head _)).symm
  obtain ⟨bs, hbs⟩ : ∃ bs : Led, bs = (f2, W.listOf q2.toArray w2) :: (f1, W.listOf q1.toArray w1) :: (f0, W.listOf q0.toArray w0) :: (ol, W.listOf [Value.ref l0, .ref l1, .ref l2].toArray eo) :: (l0, W.listOf [Value.int a0 s0, .int b0 s1, .int c0 s2, .int d0 s3].toArray e0) :: (l1, W.listOf [Value.int a1 s4, .int b1 s5, .int c1 s6, .int d1 s7].toArray e1) :: (l2, W.listOf [Value.int a2 s8, .int b2 s9, .int c2 r0, .int d2 r1].toArray e2) :: ((L + 1, co0) :: (L + 1 + 1, co1) :: (L + 1 + 1 + 1, co2) :: (L + 1 + 1 + 1 + 1, co3) :: (L + 1 + 1 + 1 + 1 + 1, co4) :: (L + 1 + 1 + 1 + 1 + 1 + 1, co5) :: (L + 1 + 1 + 1 + 1 + 1 + 1 + 1, co6) :: rest) := ⟨_, rfl⟩
  have b162 : ∀ q ∈ bs, @Ne Nat q.1 162 := by
    rw [hbs]
    refine all_c ?_ ?_
    · exact nf2
    refine all_c ?_ ?_
    · exact nf1
    refine all_c ?_ ?_
    · exact nf0
    refine all_c ?_ ?_
    · exact m0
    refine all_c ?_ ?_
    · exact m1
    refine all_c ?_ ?_
    · exact m2
    refine all_c ?_ ?_
    · exact m3
    refine all_c ?_ ?_
    · show @Ne Nat _ _; k_ne
    refine all_c ?_ ?_
    · show @Ne Nat _ _; k_ne
    refine all_c ?_ ?_
    · show @Ne Nat _ _; k_ne
    refine all_c ?_ ?_
    · show @Ne Nat _ _; k_ne
    refine all_c ?_ ?_
    · show @Ne Nat _ _; k_ne
    refine all_c ?_ ?_
    · show @Ne Nat _ _; k_ne
    refine all_c ?_ ?_
    · show @Ne Nat _ _; k_ne
    exact o162
  clear apB apC
  k_dflt (refine' Spec.use (mu := [(162, tabObj #[])]) (led := bs) (closed_spec ⟨f0, q0, frontsOf a0 b0 c0 d0, w0⟩ ⟨f1, q1, frontsOf a1 b1 c1 d1, w1⟩ ⟨f2, q2, frontsOf a2 b2 c2 d2, w2⟩ ⟨j0, Nat.le_of_ble_eq_true rfl, x0⟩ ⟨j1, Nat.le_of_ble_eq_true rfl, x1⟩ ⟨j2, Nat.le_of_ble_eq_true rfl, x2⟩) ?hB ?hF ?hX ?hN ?hT ?hk ?h1 ?h2 ?h3 ?hd ?hu ?hs ?he ?ha ?hK)
  case hB => exact B
  case hF => exact F4
  case hX => exact X
  case hN => exact N4
  case hT => exact T
  case hk => exact rfl
  case h1 => exact cL
  case h2 => exact cY
  case h3 => exact cS
  case hd => omega
  case hu => omega
  case ha => exact fun q hq y hy => by rw [List.mem_singleton.mp hy]; exact b162 q hq
  case he => rw [hbs]; exact all_cons.mpr ⟨.tail _ (.tail _ (.head _)), all_cons.mpr ⟨.tail _ (.head _), all_cons.mpr ⟨.head _, all_nil⟩⟩⟩
  case hs =>
    intro p hp
    rcases List.mem_append.mp hp with hp | hp
    · rw [List.mem_singleton.mp hp]; k_dflt k_mem
    · rw [hbs] at hp
      simp only [List.mem_cons] at hp ⊢
      rcases hp with h | h | h | h | h | h | h | h | h | h | h | h | h | h | h <;> simp only [h, true_or, or_true]
  case hK =>
    intro v mu' new h' tk' hR F5 N5 ap5
    obtain ⟨tb, fc, ic, ec, rfl, rfl, hic, rfl⟩ := hR
    have oC : OffC L fc := OffC.of (base := bs) (by rw [hbs]; exact all_cons.mpr ⟨by k_dflt k_mem, all_cons.mpr ⟨by k_dflt k_mem, all_cons.mpr ⟨by k_dflt k_mem, all_cons.mpr ⟨by k_dflt k_mem, all_cons.mpr ⟨by k_dflt k_mem, all_cons.mpr ⟨by k_dflt k_mem, all_cons.mpr ⟨by k_dflt k_mem, all_nil⟩⟩⟩⟩⟩⟩⟩) fun p hp => ap5 p (.tail _ hp) _ (.head _)
    have zc : @Ne Nat fc (L + 1 + 1 + 1 + 1 + 1 + 1) := oC.2.2.2.2.2.1
    rw [hbs] at N5
    replace N5 := sub_news N5 (l' := (fc, W.listOf ic.toArray ec) :: (162, tabObj tb) :: (ol, W.listOf [Value.ref l0, .ref l1, .ref l2].toArray eo) :: (l0, W.listOf [Value.int a0 s0, .int b0 s1, .int c0 s2, .int d0 s3].toArray e0) :: (l1, W.listOf [Value.int a1 s4, .int b1 s5, .int c1 s6, .int d1 s7].toArray e1) :: (l2, W.listOf [Value.int a2 s8, .int b2 s9, .int c2 r0, .int d2 r1].toArray e2) :: ((L + 1, co0) :: (L + 1 + 1, co1) :: (L + 1 + 1 + 1, co2) :: (L + 1 + 1 + 1 + 1, co3) :: (L + 1 + 1 + 1 + 1 + 1, co4) :: (L + 1 + 1 + 1 + 1 + 1 + 1, co5) :: (L + 1 + 1 + 1 + 1 + 1 + 1 + 1, co6) :: rest)) (all_cons.mpr ⟨.tail _ (.head _), all_cons.mpr ⟨.head _, fun p hp => .tail _ (.tail _ (.tail _ (.tail _ (.tail _ hp))))⟩⟩)
    have oRc : ∀ q ∈ rest, @Ne Nat q.1 (L + 1 + 1 + 1 + 1 + 1 + 1) := fun q hq => (oRK q hq).2.2.2.2.2.1
    k_with "k_all" => (exact oRc)
    k_steps
    refine Stop.mk ?_
    rename Fr _ _ _ _ => F6
    rename News _ _ _ _ => N6
    exact k _ _ tb fc ec ic _ (by assumption) hic F6 N6 oC
end law7
theorem law7 {w : World} {z : Env0} {dp : Nat} {un : Nat} {gd : Option (List Code)} {a : Addr} {ccd : Value} {outer : List Env} {A₀ : Around} {base : Heap} {g : Heap} {L : Nat} {s : Shared} {tk : Nat} {h₁ : Heap} {Q : Flow → Shared → Prop} {E : Value → Shared → Prop} (B : Below A₀ base outer g) (X : (hd.heap_1 w.params).In g) (T : Top z.p z.loose z.mean z.mg z.mb g) (cL : CodeHd base 166 162) (cY : CodeHd base 145 141) (cS : CodeHd base 138 134) (hdp : dp + 80 < recursionLimit) (hun : un + 300 < cLine) (hL : 162 < L) {ol : Nat} {eo : Nat} {o0 : OrdD} {o1 : OrdD} {o2 : OrdD} (i0 : IntsAre o0.its o0.ns) (i1 : IntsAre o1.its o1.ns) (i2 : IntsAre o2.its o2.ns) (y0 : o0.ns ∈ perms) (y1 : o1.ns ∈ perms) (y2 : o2.ns ∈ perms) {rest : Led} {u : Str → Option Value} {co0 : Obj} {co1 : Obj} {co2 : Obj} {co3 : Obj} {co4 : Obj} {co5 : Obj} {co6 : Obj} (cd4 : co4.data = Data.cell (some (.ref ol))) (cd5 : co5.data = Data.cell none) (F : Fr g L h₁ u) (N : News g L h₁ ((ol, W.listOf [Value.ref o0.l, .ref o1.l, .ref o2.l].toArray eo) :: o0.obj :: o1.obj :: o2.obj :: ((L + 1, co0) :: (L + 1 + 1, co1) :: (L + 1 + 1 + 1, co2) :: (L + 1 + 1 + 1 + 1, co3) :: (L + 1 + 1 + 1 + 1 + 1, co4) :: (L + 1 + 1 + 1 + 1 + 1 + 1, co5) :: (L + 1 + 1 + 1 + 1 + 1 + 1 + 1, co6) :: (162, tabObj #[]) :: rest))) (oO : OffL L ((ol, W.listOf [Value.ref o0.l, .ref o1.l, .ref o2.l].toArray eo) :: o0.obj :: o1.obj :: [o2.obj])) (oR : ∀ q ∈ rest, @Ne Nat q.1 162) (oRK : OffK L rest) (k : ∀ (h' : Heap) (tk' : Nat) (ps7 : Array Value) (cl e : Nat) (its : List Value) (co5 : Obj), co5.data = Data.cell (some (.ref cl)) → IntsAre its (closedOf (frontsL o0.ns) (frontsL o1.ns) (frontsL o2.ns)) → Fr g L h' u →
     News g L h' ((cl, W.listOf its.toArray e) :: (162, tabObj ps7) :: (ol, W.listOf [Value.ref o0.l, .ref o1.l, .ref o2.l].toArray eo) :: o0.obj :: o1.obj :: o2.obj :: ((L + 1, co0) :: (L + 1 + 1, co1) :: (L + 1 + 1 + 1, co2) :: (L + 1 + 1 + 1 + 1, co3) :: (L + 1 + 1 + 1 + 1 + 1, co4) :: (L + 1 + 1 + 1 + 1 + 1 + 1, co5) :: (L + 1 + 1 + 1 + 1 + 1 + 1 + 1, co6) :: rest)) → OffC L cl → wpAny (model PySem.Challenge.rw_wf0038_01.prog w) (lawA dp un gd L a ccd outer) (execs (lawRest 8) (lawE L a ccd)) Q E { s with heap := h', toks := tk' }) : wpAny (model PySem.Challenge.rw_wf0038_01.prog w) (lawA dp un gd L a ccd outer) (execs (lawRest 7) (lawE L a ccd)) Q E { s with heap := h₁, toks := tk } := law7.epsX.2 (fun w z dp un gd a ccd outer A₀ base g L s tk h₁ Q E ol eo rest u co0 co1 co2 co3 co4 co5 co6 l0 e0 l1 e1 l2 e2 a0 b0 c0 d0 a1 b1 c1 d1 a2 b2 c2 d2 s0 s1 s2 s3 s4 s5 s6 s7 s8 s9 r0 r1 => Pk.all (T := law7.epsT) (ne := law7.eN) (Q := law7.epsQ) (by with_unfolding_all exact law7.eC) (w, z, dp, un, gd, a, ccd, outer, A₀, base, g, L, s, tk, h₁, Q, E, ol, eo, rest, u, co0, co1, co2, co3, co4, co5, co6, l0, e0, l1, e1, l2, e2, a0, b0, c0, d0, a1, b1, c1, d1, a2, b2, c2, d2, s0, s1, s2, s3, s4, s5, s6, s7, s8, s9, r0, r1)) w z dp un gd a ccd outer A₀ base g L s tk h₁ Q E B X T cL cY cS hdp hun hL ol eo o0 o1 o2 i0 i1 i2 y0 y1 y2 rest u co0 co1 co2 co3 co4 co5 co6 cd4 cd5 F N oO oR oRK k
end
section
variable {w : World} {z : Env0} {dp un : Nat} {gd : Option (List Code)} {a : Addr} {ccd : Value} {outer : List Env} {A₀ : Around} {base g : Heap} {L : Nat} {s : Shared} {tk : Nat} {h₁ : Heap} {Q : Flow → Shared → Prop} {E : Value → Shared → Prop}
end
end
section
section
variable {w : World} {z : Env0} {dp un : Nat} {gd : Option (List Code)} {a : Addr} {ccd : Value} {outer : List Env} {A₀ : Around} {base g : Heap} {L : Nat} {s : Shared} {tk : Nat} {h₁ : Heap} {Q : Flow → Shared → Prop} {E : Value → Shared → Prop}
end
section
namespace law8
noncomputable def epsP : World → Env0 → Nat → Nat → (Option (List Code)) → Addr → Value → (List Env) → Around → Heap → Heap → Nat → Shared → Nat → Heap → (Flow → Shared → Prop) → (Value → Shared → Prop) → Nat → Nat → (List Value) → (List Int) → Led → (Str → Option Value) → Obj → Obj → Obj → Obj → Obj → Obj → Obj → Prop := fun w z dp un gd a ccd outer A₀ base g L s tk h₁ Q E cl ce ci cs rest u co0 co1 co2 co3 co4 co5 co6 => ∀ (B : Below A₀ base outer g) (X : (hd.heap_1 w.params).In g) (T : Top z.p z.loose z.mean z.mg z.mb g) (cL : CodeHd base 166 162) (cY : CodeHd base 145 141) (cS : CodeHd base 138 134) (hdp : dp + 80 < recursionLimit) (hun : un + 300 < cLine) (hL : 162 < L) (hi : IntsAre ci cs) (hlen : cs.length = 16) (cd5 : co5.data = Data.cell (some (.ref cl))) (cd6 : co6.data = Data.cell none) (F : Fr g L h₁ u) (N : News g L h₁ ((cl, W.listOf ci.toArray ce) :: ((L + 1, co0) :: (L + 1 + 1, co1) :: (L + 1 + 1 + 1, co2) :: (L + 1 + 1 + 1 + 1, co3) :: (L + 1 + 1 + 1 + 1 + 1, co4) :: (L + 1 + 1 + 1 + 1 + 1 + 1, co5) :: (L + 1 + 1 + 1 + 1 + 1 + 1 + 1, co6) :: rest))) (oC : OffC L cl) (oR : OffK L rest) (k : ∀ (h' : Heap) (tk' : Nat) (tl e : Nat) (its : List Value) (co6 : Obj), co6.data = Data.cell (some (.ref tl)) → IntsAre its (topsOf cs) → Fr g L h' u →
     News g L h' ((tl, W.listOf its.toArray e) :: (cl, W.listOf ci.toArray ce) :: ((L + 1, co0) :: (L + 1 + 1, co1) :: (L + 1 + 1 + 1, co2) :: (L + 1 + 1 + 1 + 1, co3) :: (L + 1 + 1 + 1 + 1 + 1, co4) :: (L + 1 + 1 + 1 + 1 + 1 + 1, co5) :: (L + 1 + 1 + 1 + 1 + 1 + 1 + 1, co6) :: rest)) → OffC L tl → wpAny (model PySem.Challenge.rw_wf0038_01.prog w) (lawA dp un gd L a ccd outer) (execs (lawRest 9) (lawE L a ccd)) Q E { s with heap := h', toks := tk' }), wpAny (model PySem.Challenge.rw_wf0038_01.prog w) (lawA dp un gd L a ccd outer) (execs (lawRest 8) (lawE L a ccd)) Q E { s with heap := h₁, toks := tk }
noncomputable abbrev epsT : Type := World × Env0 × Nat × Nat × (Option (List Code)) × Addr × Value × (List Env) × Around × Heap × Heap × Nat × Shared × Nat × Heap × (Flow → Shared → Prop) × (Value → Shared → Prop) × Nat × Nat × (List Value) × (List Int) × Led × (Str → Option Value) × Obj × Obj × Obj × Obj × Obj × Obj × Obj
noncomputable abbrev epsQ : epsT → Prop := fun d => epsP d.1 d.2.1 d.2.2.1 d.2.2.2.1 d.2.2.2.2.1 d.2.2.2.2.2.1 d.2.2.2.2.2.2.1 d.2.2.2.2.2.2.2.1 d.2.2.2.2.2.2.2.2.1 d.2.2.2.2.2.2.2.2.2.1 d.2.2.2.2.2.2.2.2.2.2.1 d.2.2.2.2.2.2.2.2.2.2.2.1 d.2.2.2.2.2.2.2.2.2.2.2.2.1 d.2.2.2.2.2.2.2.2.2.2.2.2.2.1 d.2.2.2.2.2.2.2.2.2.2.2.2.2.2.1 d.2.2.2.2.2.2.2.2.2.2.2.2.2.2.2.1 d.2.2.2.2.2.2.2.2.2.2.2.2.2.2.2.2.1 d.2.2.2.2.2.2.2.2.2.2.2.2.2.2.2.2.2.1 d.2.2.2.2.2.2.2.2.2.2.2.2.2.2.2.2.2.2.1 d.2.2.2.2.2.2.2.2.2.2.2.2.2.2.2.2.2.2.2.1 d.2.2.2.2.2.2.2.2.2.2.2.2.2.2.2.2.2.2.2.2.1 d.2.2.2.2.2.2.2.2.2.2.2.2.2.2.2.2.2.2.2.2.2.1 d.2.2.2.2.2.2.2.2.2.2.2.2.2.2.2.2.2.2.2.2.2.2.1 d.2.2.2.2.2.2.2.2.2.2.2.2.2.2.2.2.2.2.2.2.2.2.2.1 d.2.2.2.2.2.2.2.2.2.2.2.2.2.2.2.2.2.2.2.2.2.2.2.2.1 d.2.2.2.2.2.2.2.2.2.2.2.2.2.2.2.2.2.2.2.2.2.2.2.2.2.1 d.2.2.2.2.2.2.2.2.2.2.2.2.2.2.2.2.2.2.2.2.2.2.2.2.2.2.1 d.2.2.2.2.2.2.2.2.2.2.2.2.2.2.2.2.2.2.2.2.2.2.2.2.2.2.2.1 d.2.2.2.2.2.2.2.2.2.2.2.2.2.2.2.2.2.2.2.2.2.2.2.2.2.2.2.2.1 d.2.2.2.2.2.2.2.2.2.2.2.2.2.2.2.2.2.2.2.2.2.2.2.2.2.2.2.2.2
theorem eN : Nonempty epsT := by walk_at "ne_all"
@[irreducible] noncomputable def eK : epsT := Pk epsT eN epsQ
@[irreducible] noncomputable def L := eK.2.2.2.2.2.2.2.2.2.2.2.1
@[irreducible] noncomputable def cl := eK.2.2.2.2.2.2.2.2.2.2.2.2.2.2.2.2.2.1
@[irreducible] noncomputable def ce := eK.2.2.2.2.2.2.2.2.2.2.2.2.2.2.2.2.2.2.1
@[irreducible] noncomputable def ci := eK.2.2.2.2.2.2.2.2.2.2.2.2.2.2.2.2.2.2.2.1
@[irreducible] noncomputable def cs := eK.2.2.2.2.2.2.2.2.2.2.2.2.2.2.2.2.2.2.2.2.1
@[irreducible] noncomputable def rest := eK.2.2.2.2.2.2.2.2.2.2.2.2.2.2.2.2.2.2.2.2.2.1
theorem eC : epsP eK.1 eK.2.1 eK.2.2.1 eK.2.2.2.1 eK.2.2.2.2.1 eK.2.2.2.2.2.1 eK.2.2.2.2.2.2.1 eK.2.2.2.2.2.2.2.1 eK.2.2.2.2.2.2.2.2.1 eK.2.2.2.2.2.2.2.2.2.1 eK.2.2.2.2.2.2.2.2.2.2.1 L eK.2.2.2.2.2.2.2.2.2.2.2.2.1 eK.2.2.2.2.2.2.2.2.2.2.2.2.2.1 eK.2.2.2.2.2.2.2.2.2.2.2.2.2.2.1 eK.2.2.2.2.2.2.2.2.2.2.2.2.2.2.2.1 eK.2.2.2.2.2.2.2.2.2.2.2.2.2.2.2.2.1 cl ce ci cs rest eK.2.2.2.2.2.2.2.2.2.2.2.2.2.2.2.2.2.2.2.2.2.2.1 eK.2.2.2.2.2.2.2.2.2.2.2.2.2.2.2.2.2.2.2.2.2.2.2.1 eK.2.2.2.2.2.2.2.2.2.2.2.2.2.2.2.2.2.2.2.2.2.2.2.2.1 eK.2.2.2.2.2.2.2.2.2.2.2.2.2.2.2.2.2.2.2.2.2.2.2.2.2.1 eK.2.2.2.2.2.2.2.2.2.2.2.2.2.2.2.2.2.2.2.2.2.2.2.2.2.2.1 eK.2.2.2.2.2.2.2.2.2.2.2.2.2.2.2.2.2.2.2.2.2.2.2.2.2.2.2.1 eK.2.2.2.2.2.2.2.2.2.2.2.2.2.2.2.2.2.2.2.2.2.2.2.2.2.2.2.2.1 eK.2.2.2.2.2.2.2.2.2.2.2.2.2.2.2.2.2.2.2.2.2.2.2.2.2.2.2.2.2 := by
  unfold epsP
  intro B X T cL cY cS hdp hun hL hi hlen cd5 cd6 F N oC oR k
  have hb' := (rfl : lawRest 8 = lawRest 8)
  have hs' := (rfl : lawSc = lawSc)
  conv at hb' => rhs; whnf
  conv at hs' => rhs; whnf
  unfold lawA lawE lawCl
  rw [hb', hs']
  clear hb' hs'
  refine wpAny_execs_cons ?_
  have z0 : @Ne Nat cl (L + 1 + 1 + 1 + 1 + 1 + 1 + 1) := oC.2.2.2.2.2.2
  have oRc : ∀ q ∈ rest, @Ne Nat q.1 (L + 1 + 1 + 1 + 1 + 1 + 1 + 1) := fun q hq => (oR q hq).2.2.2.2.2.2
  k_with_none
  k_with "execs cons If" => (refine Stop.go ?_)
  k_with "mycall" => (refine Stop.go ?_)
  k_steps
  refine Stop.mk ?_
  (k_dflt (refine' Spec.use0 (tops_spec cl ci ce cs hi hlen) ?uB ?uF ?uX ?uN ?uT ?uk ?u1 ?u2 ?u3 ?ud ?uu ?ue ?uK; (case uB => k_asm); (case uF => k_asm); (case uX => k_asm); (case uN => k_asm); (case uT => k_asm); (case uk => first | exact rfl | assumption); (case u1 => assumption); (case u2 => assumption); (case u3 => assumption); (case ud => ktr_room); (case uu => ktr_units); (case ue => walk_at "sub"); k_whole)); (intro v' mu' new' h' tk' hR' F' N' ap'); (obtain ⟨f0, q0, w0, e1', e2', j0, e3'⟩ := hR'); subst e1'; subst e2'; subst e3'; (dsimp only [List.nil_append, List.cons_append] at N')
  have oT : OffC L f0 := OffC.of (all_cons.mpr ⟨by k_dflt k_mem, all_cons.mpr ⟨by k_dflt k_mem, all_cons.mpr ⟨by k_dflt k_mem, all_cons.mpr ⟨by k_dflt k_mem, all_cons.mpr ⟨by k_dflt k_mem, all_cons.mpr ⟨by k_dflt k_mem, all_cons.mpr ⟨by k_dflt k_mem, all_nil⟩⟩⟩⟩⟩⟩⟩) fun p hp => ap' p hp _ (.head _)
  clear ap'
  have zT : @Ne Nat f0 (L + 1 + 1 + 1 + 1 + 1 + 1 + 1) := oT.2.2.2.2.2.2
  k_with "k_all" => (exact oRc)
  k_steps
  refine Stop.mk ?_
  rename Fr _ _ _ _ => F6
  rename News _ _ _ _ => N6
  exact k _ _ f0 w0 q0 _ (by assumption) j0 F6 N6 oT
end law8
theorem law8 {w : World} {z : Env0} {dp : Nat} {un : Nat} {gd : Option (List Code)} {a : Addr} {ccd : Value} {outer : List Env} {A₀ : Around} {base : Heap} {g : Heap} {L : Nat} {s : Shared} {tk : Nat} {h₁ : Heap} {Q : Flow → Shared → Prop} {E : Value → Shared → Prop} (B : Below A₀ base outer g) (X : (hd.heap_1 w.params).In g) (T : Top z.p z.loose z.mean z.mg z.mb g) (cL : CodeHd base 166 162) (cY : CodeHd base 145 141) (cS : CodeHd base 138 134) (hdp : dp + 80 < recursionLimit) (hun : un + 300 < cLine) (hL : 162 < L) {cl : Nat} {ce : Nat} {ci : List Value} {cs : List Int} (hi : IntsAre ci cs) (hlen : cs.length = 16) {rest : Led} {u : Str → Option Value} {co0 : Obj} {co1 : Obj} {co2 : Obj} {co3 : Obj} {co4 : Obj} {co5 : Obj} {co6 : Obj} (cd5 : co5.data = Data.cell (some (.ref cl))) (cd6 : co6.data = Data.cell none) (F : Fr g L h₁ u) (N : News g L h₁ ((cl, W.listOf ci.toArray ce) :: ((L + 1, co0) :: (L + 1 + 1, co1) :: (L + 1 + 1 + 1, co2) :: (L + 1 + 1 + 1 + 1, co3) :: (L + 1 + 1 + 1 + 1 + 1, co4) :: (L + 1 + 1 + 1 + 1 + 1 + 1, co5) :: (L + 1 + 1 + 1 + 1 + 1 + 1 + 1, co6) :: rest))) (oC : OffC L cl) (oR : OffK L rest) (k : ∀ (h' : Heap) (tk' : Nat) (tl e : Nat) (its : List Value) (co6 : Obj), co6.data = Data.cell (some (.ref tl)) → IntsAre its (topsOf cs) → Fr g L h' u →
     News g L h' ((tl, W.listOf its.toArray e) :: (cl, W.listOf ci.toArray ce) :: ((L + 1, co0) :: (L + 1 + 1, co1) :: (L + 1 + 1 + 1, co2) :: (L + 1 + 1 + 1 + 1, co3) :: (L + 1 + 1 + 1 + 1 + 1, co4) :: (L + 1 + 1 + 1 + 1 + 1 + 1, co5) :: (L + 1 + 1 + 1 + 1 + 1 + 1 + 1, co6) :: rest)) → OffC L tl → wpAny (model PySem.Challenge.rw_wf0038_01.prog w) (lawA dp un gd L a ccd outer) (execs (lawRest 9) (lawE L a ccd)) Q E { s with heap := h', toks := tk' }) : wpAny (model PySem.Challenge.rw_wf0038_01.prog w) (lawA dp un gd L a ccd outer) (execs (lawRest 8) (lawE L a ccd)) Q E { s with heap := h₁, toks := tk } := Pk.all (T := law8.epsT) (ne := law8.eN) (Q := law8.epsQ) (by with_unfolding_all exact law8.eC) (w, z, dp, un, gd, a, ccd, outer, A₀, base, g, L, s, tk, h₁, Q, E, cl, ce, ci, cs, rest, u, co0, co1, co2, co3, co4, co5, co6) B X T cL cY cS hdp hun hL hi hlen cd5 cd6 F N oC oR k
end
section
variable {w : World} {z : Env0} {dp un : Nat} {gd : Option (List Code)} {a : Addr} {ccd : Value} {outer : List Env} {A₀ : Around} {base g : Heap} {L : Nat} {s : Shared} {tk : Nat} {h₁ : Heap} {Q : Flow → Shared → Prop} {E : Value → Shared → Prop}
end
end
section
section
open PyProof.V PySem.Spec
noncomputable def pairsOk (A B : Nat → Int) (l : Led) (ys : List Value) : Prop := ∀ (j : Nat) (v : Value), ys[j]? = some v → ∃ p t t', v = .ref p ∧ (p, tupleO [.int (A j) t, .int (B j) t']) ∈ l
theorem pairsOk.nil {A B : Nat → Int} {l : Led} : pairsOk A B l [] := fun _ _ h => by cases h
theorem pairsOk.snoc {A B : Nat → Int} {l l' : Led} {ys : List Value} (h : pairsOk A B l ys) (hs : ∀ p ∈ l, p ∈ l') {p : Nat} {t t' : Tok} (hp : (p, tupleO [.int (A ys.length) t, .int (B ys.length) t']) ∈ l') : pairsOk A B l' (ys ++ [.ref p]) := fun j v hj => by
  by_cases hlt : j < ys.length
  · rw [List.getElem?_append_left hlt] at hj
    obtain ⟨q, u, u', e, hq⟩ := h j v hj
    exact ⟨q, u, u', e, hs _ hq⟩
  · have e : j = ys.length := by
      have := (List.getElem?_eq_some_iff.mp hj).1
      rw [List.length_append] at this
      simp only [List.length_cons, List.length_nil] at this
      omega
    subst e
    rw [List.getElem?_append_right (Nat.le_refl _), Nat.sub_self] at hj
    cases hj
    exact ⟨p, t, t', rfl, hp⟩
noncomputable def pairD (A B : Nat → Int) (j : Nat) : PyData := .tuple [.int (A j), .int (B j)]
theorem pairs_reads {A B : Nat → Int} {h₀ h : Heap} {L : Addr} {l : Led} (N : News h₀ L h l) : ∀ (ys : List Value) (off : Nat), (∀ (j : Nat) (v : Value), ys[j]? = some v → ∃ p t t', v = .ref p ∧ (p, tupleO [.int (A (off + j)) t, .int (B (off + j)) t']) ∈ l) →
    ∃ as, ReadsAll h ys ((List.range' off ys.length).map (pairD A B)) as
  | [], _, _ => ⟨_, .nil⟩
  | v :: ys, off, hy => by
    obtain ⟨p, t, t', rfl, hp⟩ := hy 0 v rfl
    obtain ⟨bs, hb⟩ := pairs_reads N ys (off + 1) fun j v hj => by
      have := hy (j + 1) v hj
      rw [show off + 1 + j = off + (j + 1) by omega]
      exact this
    exact ⟨_, .cons (reads_newDataT (ys := [.int (A off) t, .int (B off) t']) (News.isTup N hp) (.cons (.int _ _) (.cons (.int _ _) .nil))) hb⟩
theorem pair_eqv {A B A' B' : Nat → Int} : ∀ l : List Nat, (∀ j ∈ l, A j = A' j ∧ B j = B' j) → PyData.eqvAll (l.map (pairD A B)) (l.map (pairD A' B')) = true
  | [], _ => by simp [PyData.eqvAll]
  | j :: l, h => by
    have h1 := h j (.head _)
    simp only [List.map_cons, PyData.eqvAll, pairD, PyData.eqv, h1.1, h1.2, decide_true, beq_self_eq_true, Bool.and_true, Bool.true_and]
    exact pair_eqv l fun i hi => h i (.tail _ hi)
theorem pair_lay {A B : Nat → Int} : ∀ l : List Nat, PyData.canLayAll0 (l.map (pairD A B)) = true
  | [] => by simp [PyData.canLayAll0]
  | j :: l => by simp [PyData.canLayAll0, PyData.canLay0, pairD, pair_lay l]
theorem pair_depth {A B : Nat → Int} : ∀ l : List Nat, PyData.depthAll (l.map (pairD A B)) ≤ 2
  | [] => by simp [PyData.depthAll]
  | j :: l => by
    have := pair_depth (A := A) (B := B) l
    simp only [List.map_cons, PyData.depthAll, PyData.depth, pairD]
    omega
theorem pair_shaped (A B : Nat → Int) (l : List Nat) : SeqAt.shaped (.list (l.map (pairD A B))) = true := by
  have h1 := pair_depth (A := A) (B := B) l
  have h2 : PyData.depth (.list (l.map (pairD A B))) ≤ 64 := by simp only [PyData.depth]; omega
  show (PyData.canLay0 (.list (l.map (pairD A B))) && decide (PyData.depth (.list (l.map (pairD A B))) ≤ 64)) = true
  rw [Bool.and_eq_true]
  exact ⟨by simp only [PyData.canLay0]; exact pair_lay l, decide_eq_true h2⟩
section
variable {prog : Program} {w : World} {A : Around} {E : Value → Shared → Prop} {s : Shared} {h₀ : Heap} {L : Addr} {news : Led} {Q : Value → Shared → Prop}
theorem ne_pairs {D D' e e' : Nat} {ys zs : List Value} {F G F' G' : Nat → Int} (N : News h₀ L s.heap news) (ha : (D, W.listOf ys.toArray e) ∈ news) (hb : (D', W.listOf zs.toArray e') ∈ news) (hy : pairsOk F G news ys) (hz : pairsOk F' G' news zs) (ly : ys.length = 16) (lz : zs.length = 16)
    (he : ∀ j < 16, F j = F' j ∧ G j = G' j) (hu : A.units + 64 < cLine) (h : Q (.bool false) s) : wpAny (model prog w) A (compareOp .NotEq (.ref D) (.ref D')) Q E s := by
  obtain ⟨as, ra⟩ := pairs_reads N ys 0 (fun j v hj => by rw [Nat.zero_add]; exact hy j v hj)
  obtain ⟨bs, rb⟩ := pairs_reads N zs 0 (fun j v hj => by rw [Nat.zero_add]; exact hz j v hj)
  rw [ly] at ra
  rw [lz] at rb
  refine ne_dataH (reads_list_at (News.get N ha) rfl rfl ra) (reads_list_at (News.get N hb) rfl rfl rb) (pair_shaped _ _ _) (pair_shaped _ _ _) hu ?_
  have e := pair_eqv (A := F) (B := G) (A' := F') (B' := G') (List.range' 0 16) (fun j hj => he j (by have := List.mem_range'_1.mp hj; omega))
  simp only [PyData.eqv, e, Bool.not_true]
  exact h
end
end
end
section
theorem z_toNat (i : Nat) : (0 + (i : Int)).toNat = i := by rw [Int.zero_add]; rfl
theorem pair_cast {h₀ h : Heap} {L : Addr} {D : Nat} {x y X Y : Int} {t0 t1 : Tok} {rest : Led} (hx : x = X) (hy : y = Y) (N : News h₀ L h ((D, tupleO [.int x t0, .int y t1]) :: rest)) : News h₀ L h ((D, tupleO [.int X t0, .int Y t1]) :: rest) := by rw [← hx, ← hy]; exact N
theorem pairsOk.mono {A B : Nat → Int} {l l' : Led} {ys : List Value} (h : pairsOk A B l ys) (hs : ∀ p ∈ l, p ∈ l') : pairsOk A B l' ys := fun j v hj => by
  obtain ⟨q, u, u', e, hq⟩ := h j v hj
  exact ⟨q, u, u', e, hs _ hq⟩
section
variable {w : World} {z : Env0} {dp un : Nat} {gd : Option (List Code)} {a : Addr} {ccd : Value} {outer : List Env} {A₀ : Around} {base g : Heap} {L : Nat} {s : Shared} {tk : Nat} {h₁ : Heap} {Q : Flow → Shared → Prop} {E : Value → Shared → Prop}
end
section
namespace law9
noncomputable def epsP : World → Env0 → Nat → Nat → (Option (List Code)) → Addr → Value → (List Env) → Around → Heap → Heap → Nat → Shared → Nat → Heap → (Flow → Shared → Prop) → (Value → Shared → Prop) → Nat → Nat → OrdD → OrdD → OrdD → Nat → Nat → Nat → Nat → (List Value) → (List Value) → (List Int) → (List Int) → Led → (Str → Option Value) → Obj → Obj → Obj → Obj → Obj → Obj → Obj → Prop := fun w z dp un gd a ccd outer A₀ base g L s tk h₁ Q E ol eo o0 o1 o2 cl ce tl te ci ti cs ts rest u co0 co1 co2 co3 co4 co5 co6 => ∀ (B : Below A₀ base outer g) (X : (hd.heap_1 w.params).In g) (T : Top z.p z.loose z.mean z.mg z.mb g) (cL : CodeHd base 166 162) (cY : CodeHd base 145 141) (cS : CodeHd base 138 134) (hdp : dp + 80 < recursionLimit) (hun : un + 300 < cLine) (hL : 162 < L) (k0 : o0.Ok) (k1 : o1.Ok) (k2 : o2.Ok) (hc : IntsAre ci cs) (ht : IntsAre ti ts) (lc : cs.length = 16) (lt : ts.length = 16) (own : ∀ k : Nat, k < 16 → ownOf (0 + (k : Int)) [o0.ns, o1.ns, o2.ns] = (cs.getD k 0, ts.getD k 0)) (cd4 : co4.data = Data.cell (some (.ref ol))) (cd5 : co5.data = Data.cell (some (.ref cl))) (cd6 : co6.data = Data.cell (some (.ref tl))) (F : Fr g L h₁ u) (N : News g L h₁ ((tl, W.listOf ti.toArray te) :: (cl, W.listOf ci.toArray ce) :: (ol, W.listOf [Value.ref o0.l, .ref o1.l, .ref o2.l].toArray eo) :: o0.obj :: o1.obj :: o2.obj :: ((L + 1, co0) :: (L + 1 + 1, co1) :: (L + 1 + 1 + 1, co2) :: (L + 1 + 1 + 1 + 1, co3) :: (L + 1 + 1 + 1 + 1 + 1, co4) :: (L + 1 + 1 + 1 + 1 + 1 + 1, co5) :: (L + 1 + 1 + 1 + 1 + 1 + 1 + 1, co6) :: rest))) (k : ∀ (h' : Heap) (tk' : Nat), Fr g L h' u → News g L h' ((tl, W.listOf ti.toArray te) :: (cl, W.listOf ci.toArray ce) :: (ol, W.listOf [Value.ref o0.l, .ref o1.l, .ref o2.l].toArray eo) :: o0.obj :: o1.obj :: o2.obj :: ((L + 1, co0) :: (L + 1 + 1, co1) :: (L + 1 + 1 + 1, co2) :: (L + 1 + 1 + 1 + 1, co3) :: (L + 1 + 1 + 1 + 1 + 1, co4) :: (L + 1 + 1 + 1 + 1 + 1 + 1, co5) :: (L + 1 + 1 + 1 + 1 + 1 + 1 + 1, co6) :: rest)) → wpAny (model PySem.Challenge.rw_wf0038_01.prog w) (lawA dp un gd L a ccd outer) (execs (lawRest 10) (lawE L a ccd)) Q E { s with heap := h', toks := tk' }), wpAny (model PySem.Challenge.rw_wf0038_01.prog w) (lawA dp un gd L a ccd outer) (execs (lawRest 9) (lawE L a ccd)) Q E { s with heap := h₁, toks := tk }
noncomputable abbrev epsT : Type := World × Env0 × Nat × Nat × (Option (List Code)) × Addr × Value × (List Env) × Around × Heap × Heap × Nat × Shared × Nat × Heap × (Flow → Shared → Prop) × (Value → Shared → Prop) × Nat × Nat × OrdD × OrdD × OrdD × Nat × Nat × Nat × Nat × (List Value) × (List Value) × (List Int) × (List Int) × Led × (Str → Option Value) × Obj × Obj × Obj × Obj × Obj × Obj × Obj
noncomputable abbrev epsQ : epsT → Prop := fun d => epsP d.1 d.2.1 d.2.2.1 d.2.2.2.1 d.2.2.2.2.1 d.2.2.2.2.2.1 d.2.2.2.2.2.2.1 d.2.2.2.2.2.2.2.1 d.2.2.2.2.2.2.2.2.1 d.2.2.2.2.2.2.2.2.2.1 d.2.2.2.2.2.2.2.2.2.2.1 d.2.2.2.2.2.2.2.2.2.2.2.1 d.2.2.2.2.2.2.2.2.2.2.2.2.1 d.2.2.2.2.2.2.2.2.2.2.2.2.2.1 d.2.2.2.2.2.2.2.2.2.2.2.2.2.2.1 d.2.2.2.2.2.2.2.2.2.2.2.2.2.2.2.1 d.2.2.2.2.2.2.2.2.2.2.2.2.2.2.2.2.1 d.2.2.2.2.2.2.2.2.2.2.2.2.2.2.2.2.2.1 d.2.2.2.2.2.2.2.2.2.2.2.2.2.2.2.2.2.2.1 d.2.2.2.2.2.2.2.2.2.2.2.2.2.2.2.2.2.2.2.1 d.2.2.2.2.2.2.2.2.2.2.2.2.2.2.2.2.2.2.2.2.1 d.2.2.2.2.2.2.2.2.2.2.2.2.2.2.2.2.2.2.2.2.2.1 d.2.2.2.2.2.2.2.2.2.2.2.2.2.2.2.2.2.2.2.2.2.2.1 d.2.2.2.2.2.2.2.2.2.2.2.2.2.2.2.2.2.2.2.2.2.2.2.1 d.2.2.2.2.2.2.2.2.2.2.2.2.2.2.2.2.2.2.2.2.2.2.2.2.1 d.2.2.2.2.2.2.2.2.2.2.2.2.2.2.2.2.2.2.2.2.2.2.2.2.2.1 d.2.2.2.2.2.2.2.2.2.2.2.2.2.2.2.2.2.2.2.2.2.2.2.2.2.2.1 d.2.2.2.2.2.2.2.2.2.2.2.2.2.2.2.2.2.2.2.2.2.2.2.2.2.2.2.1 d.2.2.2.2.2.2.2.2.2.2.2.2.2.2.2.2.2.2.2.2.2.2.2.2.2.2.2.2.1 d.2.2.2.2.2.2.2.2.2.2.2.2.2.2.2.2.2.2.2.2.2.2.2.2.2.2.2.2.2.1 d.2.2.2.2.2.2.2.2.2.2.2.2.2.2.2.2.2.2.2.2.2.2.2.2.2.2.2.2.2.2.1 d.2.2.2.2.2.2.2.2.2.2.2.2.2.2.2.2.2.2.2.2.2.2.2.2.2.2.2.2.2.2.2.1 d.2.2.2.2.2.2.2.2.2.2.2.2.2.2.2.2.2.2.2.2.2.2.2.2.2.2.2.2.2.2.2.2.1 d.2.2.2.2.2.2.2.2.2.2.2.2.2.2.2.2.2.2.2.2.2.2.2.2.2.2.2.2.2.2.2.2.2.1 d.2.2.2.2.2.2.2.2.2.2.2.2.2.2.2.2.2.2.2.2.2.2.2.2.2.2.2.2.2.2.2.2.2.2.1 d.2.2.2.2.2.2.2.2.2.2.2.2.2.2.2.2.2.2.2.2.2.2.2.2.2.2.2.2.2.2.2.2.2.2.2.1 d.2.2.2.2.2.2.2.2.2.2.2.2.2.2.2.2.2.2.2.2.2.2.2.2.2.2.2.2.2.2.2.2.2.2.2.2.1 d.2.2.2.2.2.2.2.2.2.2.2.2.2.2.2.2.2.2.2.2.2.2.2.2.2.2.2.2.2.2.2.2.2.2.2.2.2.1 d.2.2.2.2.2.2.2.2.2.2.2.2.2.2.2.2.2.2.2.2.2.2.2.2.2.2.2.2.2.2.2.2.2.2.2.2.2.2
theorem eN : Nonempty epsT := by walk_at "ne_all"
@[irreducible] noncomputable def eK : epsT := Pk epsT eN epsQ
@[irreducible] noncomputable def un := eK.2.2.2.1
@[irreducible] noncomputable def g := eK.2.2.2.2.2.2.2.2.2.2.1
@[irreducible] noncomputable def L := eK.2.2.2.2.2.2.2.2.2.2.2.1
@[irreducible] noncomputable def tk := eK.2.2.2.2.2.2.2.2.2.2.2.2.2.1
@[irreducible] noncomputable def ol := eK.2.2.2.2.2.2.2.2.2.2.2.2.2.2.2.2.2.1
@[irreducible] noncomputable def eo := eK.2.2.2.2.2.2.2.2.2.2.2.2.2.2.2.2.2.2.1
@[irreducible] noncomputable def o0 := eK.2.2.2.2.2.2.2.2.2.2.2.2.2.2.2.2.2.2.2.1
@[irreducible] noncomputable def o1 := eK.2.2.2.2.2.2.2.2.2.2.2.2.2.2.2.2.2.2.2.2.1
@[irreducible] noncomputable def o2 := eK.2.2.2.2.2.2.2.2.2.2.2.2.2.2.2.2.2.2.2.2.2.1
@[irreducible] noncomputable def cl := eK.2.2.2.2.2.2.2.2.2.2.2.2.2.2.2.2.2.2.2.2.2.2.1
@[irreducible] noncomputable def ce := eK.2.2.2.2.2.2.2.2.2.2.2.2.2.2.2.2.2.2.2.2.2.2.2.1
@[irreducible] noncomputable def tl := eK.2.2.2.2.2.2.2.2.2.2.2.2.2.2.2.2.2.2.2.2.2.2.2.2.1
@[irreducible] noncomputable def te := eK.2.2.2.2.2.2.2.2.2.2.2.2.2.2.2.2.2.2.2.2.2.2.2.2.2.1
@[irreducible] noncomputable def ci := eK.2.2.2.2.2.2.2.2.2.2.2.2.2.2.2.2.2.2.2.2.2.2.2.2.2.2.1
@[irreducible] noncomputable def ti := eK.2.2.2.2.2.2.2.2.2.2.2.2.2.2.2.2.2.2.2.2.2.2.2.2.2.2.2.1
@[irreducible] noncomputable def cs := eK.2.2.2.2.2.2.2.2.2.2.2.2.2.2.2.2.2.2.2.2.2.2.2.2.2.2.2.2.1
@[irreducible] noncomputable def ts := eK.2.2.2.2.2.2.2.2.2.2.2.2.2.2.2.2.2.2.2.2.2.2.2.2.2.2.2.2.2.1
@[irreducible] noncomputable def rest := eK.2.2.2.2.2.2.2.2.2.2.2.2.2.2.2.2.2.2.2.2.2.2.2.2.2.2.2.2.2.2.1
@[irreducible] noncomputable def co0 := eK.2.2.2.2.2.2.2.2.2.2.2.2.2.2.2.2.2.2.2.2.2.2.2.2.2.2.2.2.2.2.2.2.1
@[irreducible] noncomputable def co1 := eK.2.2.2.2.2.2.2.2.2.2.2.2.2.2.2.2.2.2.2.2.2.2.2.2.2.2.2.2.2.2.2.2.2.1
@[irreducible] noncomputable def co2 := eK.2.2.2.2.2.2.2.2.2.2.2.2.2.2.2.2.2.2.2.2.2.2.2.2.2.2.2.2.2.2.2.2.2.2.1
@[irreducible] noncomputable def co3 := eK.2.2.2.2.2.2.2.2.2.2.2.2.2.2.2.2.2.2.2.2.2.2.2.2.2.2.2.2.2.2.2.2.2.2.2.1
@[irreducible] noncomputable def co4 := eK.2.2.2.2.2.2.2.2.2.2.2.2.2.2.2.2.2.2.2.2.2.2.2.2.2.2.2.2.2.2.2.2.2.2.2.2.1
@[irreducible] noncomputable def co5 := eK.2.2.2.2.2.2.2.2.2.2.2.2.2.2.2.2.2.2.2.2.2.2.2.2.2.2.2.2.2.2.2.2.2.2.2.2.2.1
@[irreducible] noncomputable def co6 := eK.2.2.2.2.2.2.2.2.2.2.2.2.2.2.2.2.2.2.2.2.2.2.2.2.2.2.2.2.2.2.2.2.2.2.2.2.2.2
theorem eC : epsP eK.1 eK.2.1 eK.2.2.1 un eK.2.2.2.2.1 eK.2.2.2.2.2.1 eK.2.2.2.2.2.2.1 eK.2.2.2.2.2.2.2.1 eK.2.2.2.2.2.2.2.2.1 eK.2.2.2.2.2.2.2.2.2.1 g L eK.2.2.2.2.2.2.2.2.2.2.2.2.1 tk eK.2.2.2.2.2.2.2.2.2.2.2.2.2.2.1 eK.2.2.2.2.2.2.2.2.2.2.2.2.2.2.2.1 eK.2.2.2.2.2.2.2.2.2.2.2.2.2.2.2.2.1 ol eo o0 o1 o2 cl ce tl te ci ti cs ts rest eK.2.2.2.2.2.2.2.2.2.2.2.2.2.2.2.2.2.2.2.2.2.2.2.2.2.2.2.2.2.2.2.1 co0 co1 co2 co3 co4 co5 co6 := by
  unfold epsP
  intro B X T cL cY cS hdp hun hL k0 k1 k2 hc ht lc lt own cd4 cd5 cd6 F N k
  have hb' := (rfl : lawRest 9 = lawRest 9)
  have hs' := (rfl : lawSc = lawSc)
  conv at hb' => rhs; whnf
  conv at hs' => rhs; whnf
  unfold lawA lawE lawCl
  rw [hb', hs']
  clear hb' hs'
  refine wpAny_execs_cons ?_
  have hlc := hc.length
  have hlt := ht.length
  k_with_none
  k_with "execs cons Assign cons" => (refine Stop.go ?_)
  k_with "eval ListComp" => (refine Stop.go ?_)
  k_with "mycall" => (refine Stop.go ?_)
  k_with "compareOp NotEq ref ref" => (refine Stop.go ?_)
  k_steps
  refine Stop.mk ?_
  k_dflt (refine gc_eval (by k_asm) (by with_unfolding_all rfl) (by rfl) (by decide) ?_)
  k_steps
  refine Stop.mk ?_
  rename Fr _ _ _ _ => F1
  rename News _ _ _ _ => N1
  rename IsRange _ _ _ _ _ _ _ _ => rg
  refine gcx_range (fun i ys ad => ys.length = i ∧ pairsOk (fun j => cs.getD j 0) (fun j => ts.getD j 0) ad ys) rg (by decide) (n := 16) (by rfl) (by decide) F1 N1 ⟨rfl, pairsOk.nil⟩ (by rfl) (by decide) (by rfl) (by rfl) ?t1 ?f1
  case t1 =>
    intro I i ys ad lI hlt hJ apb m₂ t C oC D oI h tk E' hx hC F N off ne
    clear F1 N1 rg
    obtain ⟨bs, hbs⟩ : ∃ bs : Led, bs = ad ++ ((tl, W.listOf ti.toArray te) :: (cl, W.listOf ci.toArray ce) :: (ol, W.listOf [Value.ref o0.l, .ref o1.l, .ref o2.l].toArray eo) :: o0.obj :: o1.obj :: o2.obj :: ((L + 1, co0) :: (L + 1 + 1, co1) :: (L + 1 + 1 + 1, co2) :: (L + 1 + 1 + 1 + 1, co3) :: (L + 1 + 1 + 1 + 1 + 1, co4) :: (L + 1 + 1 + 1 + 1 + 1 + 1, co5) :: (L + 1 + 1 + 1 + 1 + 1 + 1 + 1, co6) :: rest)) := ⟨_, rfl⟩
    have inB : ∀ p ∈ ((tl, W.listOf ti.toArray te) :: (cl, W.listOf ci.toArray ce) :: (ol, W.listOf [Value.ref o0.l, .ref o1.l, .ref o2.l].toArray eo) :: o0.obj :: o1.obj :: o2.obj :: ((L + 1, co0) :: (L + 1 + 1, co1) :: (L + 1 + 1 + 1, co2) :: (L + 1 + 1 + 1 + 1, co3) :: (L + 1 + 1 + 1 + 1 + 1, co4) :: (L + 1 + 1 + 1 + 1 + 1 + 1, co5) :: (L + 1 + 1 + 1 + 1 + 1 + 1 + 1, co6) :: rest)), p ∈ bs := fun p hp => by rw [hbs]; exact List.mem_append_right _ hp
    have inA : ∀ p ∈ ad, p ∈ bs := fun p hp => by rw [hbs]; exact List.mem_append_left _ hp
    rw [← hbs] at N
    replace N := sub_news N (l' := (L + 1 + 1 + 1 + 1 + 1 + 1, co5) :: (L + 1 + 1 + 1 + 1 + 1 + 1 + 1, co6) :: (tl, W.listOf ti.toArray te) :: (cl, W.listOf ci.toArray ce) :: (I, oI) :: (C, oC) :: (D, LCg.lst ys) :: bs) (all_cons.mpr ⟨.tail _ (.tail _ (.tail _ (inB _ (by k_dflt k_mem)))), all_cons.mpr ⟨.tail _ (.tail _ (.tail _ (inB _ (by k_dflt k_mem)))), all_cons.mpr ⟨.tail _ (.tail _ (.tail _ (inB _ (.head _)))), all_cons.mpr ⟨.tail _ (.tail _ (.tail _ (inB _ (.tail _ (.head _))))), fun _ h => h⟩⟩⟩⟩)
    k_steps
    rename Fr _ _ _ _ => F'
    rename News _ _ _ _ => N'
    rename And _ _ => lt'
    rw [← hbs]
    replace N' := pair_cast (X := cs.getD ys.length 0) (Y := ts.getD ys.length 0) (by rw [hJ.1, z_toNat]) (by rw [hJ.1, z_toNat]) N'
    refine GcX.one F' N' (fun p hp => .tail _ (.tail _ (.tail _ (.tail _ hp)))) lt' ⟨by rw [List.length_append, hJ.1]; rfl, hJ.2.snoc (fun p hp => .tail _ hp) (.head _)⟩
  case f1 =>
    intro ys ad g2 hJ apb D h2 tk2 F N o1'
    clear F1 N1 rg o1' apb
    replace N := (show News g _ h2 ((D, W.listOf ys.toArray ys.length) :: _) from N)
    obtain ⟨rr, hrr⟩ : ∃ rr : Led, rr = rest ++ ad := ⟨_, rfl⟩
    have inR : ∀ p ∈ rest, p ∈ rr := fun p hp => by rw [hrr]; exact List.mem_append_left _ hp
    have inA : ∀ p ∈ ad, p ∈ rr := fun p hp => by rw [hrr]; exact List.mem_append_right _ hp
    replace N := sub_news N (l' := (D, W.listOf ys.toArray ys.length) :: (tl, W.listOf ti.toArray te) :: (cl, W.listOf ci.toArray ce) :: (ol, W.listOf [Value.ref o0.l, .ref o1.l, .ref o2.l].toArray eo) :: o0.obj :: o1.obj :: o2.obj :: ((L + 1, co0) :: (L + 1 + 1, co1) :: (L + 1 + 1 + 1, co2) :: (L + 1 + 1 + 1 + 1, co3) :: (L + 1 + 1 + 1 + 1 + 1, co4) :: (L + 1 + 1 + 1 + 1 + 1 + 1, co5) :: (L + 1 + 1 + 1 + 1 + 1 + 1 + 1, co6) :: rr)) (fun p hp => by
      have e : ∀ p, p ∈ (D, W.listOf ys.toArray ys.length) :: (tl, W.listOf ti.toArray te) :: (cl, W.listOf ci.toArray ce) :: (ol, W.listOf [Value.ref o0.l, .ref o1.l, .ref o2.l].toArray eo) :: o0.obj :: o1.obj :: o2.obj :: ((L + 1, co0) :: (L + 1 + 1, co1) :: (L + 1 + 1 + 1, co2) :: (L + 1 + 1 + 1 + 1, co3) :: (L + 1 + 1 + 1 + 1 + 1, co4) :: (L + 1 + 1 + 1 + 1 + 1 + 1, co5) :: (L + 1 + 1 + 1 + 1 + 1 + 1 + 1, co6) :: rr) → p ∈ (D, W.listOf ys.toArray ys.length) :: ((tl, W.listOf ti.toArray te) :: (cl, W.listOf ci.toArray ce) :: (ol, W.listOf [Value.ref o0.l, .ref o1.l, .ref o2.l].toArray eo) :: o0.obj :: o1.obj :: o2.obj :: ((L + 1, co0) :: (L + 1 + 1, co1) :: (L + 1 + 1 + 1, co2) :: (L + 1 + 1 + 1 + 1, co3) :: (L + 1 + 1 + 1 + 1 + 1, co4) :: (L + 1 + 1 + 1 + 1 + 1 + 1, co5) :: (L + 1 + 1 + 1 + 1 + 1 + 1 + 1, co6) :: rest)) ∨ p ∈ ad := by
        rw [hrr]
        intro p hp
        rcases List.mem_append.mp (show p ∈ ((D, W.listOf ys.toArray ys.length) :: ((tl, W.listOf ti.toArray te) :: (cl, W.listOf ci.toArray ce) :: (ol, W.listOf [Value.ref o0.l, .ref o1.l, .ref o2.l].toArray eo) :: o0.obj :: o1.obj :: o2.obj :: ((L + 1, co0) :: (L + 1 + 1, co1) :: (L + 1 + 1 + 1, co2) :: (L + 1 + 1 + 1 + 1, co3) :: (L + 1 + 1 + 1 + 1 + 1, co4) :: (L + 1 + 1 + 1 + 1 + 1 + 1, co5) :: (L + 1 + 1 + 1 + 1 + 1 + 1 + 1, co6) :: rest))) ++ ad from hp) with h | h
        · exact Or.inl h
        · exact Or.inr h
      rcases e p hp with h | h
      · rcases List.mem_cons.mp h with rfl | h
        · exact .head _
        · exact .tail _ (List.mem_append_right _ h)
      · exact .tail _ (List.mem_append_left _ h))
    k_steps
    refine Stop.mk ?_
    k_dflt (refine gc_eval (by k_asm) (by with_unfolding_all rfl) (by rfl) (by decide) ?_)
    k_steps
    refine Stop.mk ?_
    rename Fr _ _ _ _ => F1
    rename News _ _ _ _ => N1
    rename IsRange _ _ _ _ _ _ _ _ => rg
    refine gcx_range (fun i ys ad => ys.length = i ∧ pairsOk (fun j => cs.getD j 0) (fun j => ts.getD j 0) ad ys) rg (by decide) (n := 16) (by rfl) (by decide) F1 N1 ⟨rfl, pairsOk.nil⟩ (by rfl) (by decide) (by rfl) (by rfl) ?t2 ?f2
    case t2 =>
      intro I i zs ad2 lI hlt hJ2 apb m₂ t C oC D2 oI h tk E' hx hC F N off ne
      clear F1 N1 rg
      have hmk : (0 : Int) ≤ 0 + (i : Int) ∧ 0 + (i : Int) < 16 := by omega
      obtain ⟨bs, hbs⟩ : ∃ bs : Led, bs = ad2 ++ ((D, W.listOf ys.toArray ys.length) :: (tl, W.listOf ti.toArray te) :: (cl, W.listOf ci.toArray ce) :: (ol, W.listOf [Value.ref o0.l, .ref o1.l, .ref o2.l].toArray eo) :: o0.obj :: o1.obj :: o2.obj :: ((L + 1, co0) :: (L + 1 + 1, co1) :: (L + 1 + 1 + 1, co2) :: (L + 1 + 1 + 1 + 1, co3) :: (L + 1 + 1 + 1 + 1 + 1, co4) :: (L + 1 + 1 + 1 + 1 + 1 + 1, co5) :: (L + 1 + 1 + 1 + 1 + 1 + 1 + 1, co6) :: rr)) := ⟨_, rfl⟩
      have inB : ∀ p ∈ ((D, W.listOf ys.toArray ys.length) :: (tl, W.listOf ti.toArray te) :: (cl, W.listOf ci.toArray ce) :: (ol, W.listOf [Value.ref o0.l, .ref o1.l, .ref o2.l].toArray eo) :: o0.obj :: o1.obj :: o2.obj :: ((L + 1, co0) :: (L + 1 + 1, co1) :: (L + 1 + 1 + 1, co2) :: (L + 1 + 1 + 1 + 1, co3) :: (L + 1 + 1 + 1 + 1 + 1, co4) :: (L + 1 + 1 + 1 + 1 + 1 + 1, co5) :: (L + 1 + 1 + 1 + 1 + 1 + 1 + 1, co6) :: rr)), p ∈ bs := fun p hp => by rw [hbs]; exact List.mem_append_right _ hp
      rw [← hbs] at N
      replace N := sub_news N (l' := (L + 1 + 1 + 1 + 1 + 1, co4) :: (ol, W.listOf [Value.ref o0.l, .ref o1.l, .ref o2.l].toArray eo) :: o0.obj :: o1.obj :: o2.obj :: (I, oI) :: (C, oC) :: (D2, LCg.lst zs) :: bs) (all_cons.mpr ⟨.tail _ (.tail _ (.tail _ (inB _ (by k_dflt k_mem)))), all_cons.mpr ⟨.tail _ (.tail _ (.tail _ (inB _ (.tail _ (.tail _ (.tail _ (.head _))))))), all_cons.mpr ⟨.tail _ (.tail _ (.tail _ (inB _ (.tail _ (.tail _ (.tail _ (.tail _ (.head _)))))))), all_cons.mpr ⟨.tail _ (.tail _ (.tail _ (inB _ (.tail _ (.tail _ (.tail _ (.tail _ (.tail _ (.head _))))))))), all_cons.mpr ⟨.tail _ (.tail _ (.tail _ (inB _ (.tail _ (.tail _ (.tail _ (.tail _ (.tail _ (.tail _ (.head _)))))))))), fun _ h => h⟩⟩⟩⟩⟩)
      k_steps
      refine Stop.mk ?_
      (k_dflt (refine' Spec.use0 (own_spec ol eo o0 o1 o2 (0 + (i : Int)) _ k0 k1 k2 hmk) ?uB ?uF ?uX ?uN ?uT ?uk ?u1 ?u2 ?u3 ?ud ?uu ?ue ?uK; (case uB => k_asm); (case uF => k_asm); (case uX => k_asm); (case uN => k_asm); (case uT => k_asm); (case uk => first | exact rfl | assumption); (case u1 => assumption); (case u2 => assumption); (case u3 => assumption); (case ud => ktr_room); (case uu => ktr_units); (case ue => walk_at "sub"); k_whole)); (intro v' mu' new' h' tk' hR' F' N' ap'); (obtain ⟨f, t1, t2, e1', e2', e3'⟩ := hR'); subst e1'; subst e2'; subst e3'; (dsimp only [List.nil_append, List.cons_append] at N')
      show GcX _ _ _ _ _ _ _ _
      rw [← hbs]
      refine GcX.intro F' N' [(f, tupleO [.int _ t1, .int _ t2])] (all_cons.mpr ⟨.tail _ (.tail _ (.tail _ (.tail _ (.tail _ (.tail _ (.head _)))))), all_cons.mpr ⟨.tail _ (.tail _ (.tail _ (.tail _ (.tail _ (.tail _ (.tail _ (.head _))))))), all_cons.mpr ⟨.tail _ (.tail _ (.tail _ (.tail _ (.tail _ (.tail _ (.tail _ (.tail _ (.head _)))))))), all_cons.mpr ⟨.head _, fun p hp => .tail _ (.tail _ (.tail _ (.tail _ (.tail _ (.tail _ (.tail _ (.tail _ (.tail _ hp))))))))⟩⟩⟩⟩) (fun p hp q hq => ?_) ⟨by rw [List.length_append, hJ2.1]; rfl, ?_⟩
      · rw [List.mem_singleton.mp hp]
        exact (ap' q (by rcases List.mem_append.mp hq with hq | hq; (· simp only [List.mem_cons, List.not_mem_nil, or_false] at hq; rcases hq with rfl | rfl | rfl <;> k_dflt k_mem); (· exact .tail _ (.tail _ (.tail _ (.tail _ (.tail _ (.tail _ (.tail _ (.tail _ hq))))))))) _ (.head _)).symm
      · have ho := own i hlt
        refine hJ2.2.snoc (fun p hp => .tail _ hp) (p := f) (t := t1) (t' := t2) ?_
        rw [hJ2.1, ho]
        exact .head _
    case f2 =>
      intro zs ad2 g3 hJ2 apb D2 h3 tk3 F N o2'
      clear F1 N1 rg o2' apb
      replace N := (show News g _ h3 ((D2, W.listOf zs.toArray zs.length) :: _) from N)
      refine Stop.mk ?_
      have hy := hJ.2.mono (l' := (D2, W.listOf zs.toArray zs.length) :: (ad2 ++ ((D, W.listOf ys.toArray ys.length) :: (tl, W.listOf ti.toArray te) :: (cl, W.listOf ci.toArray ce) :: (ol, W.listOf [Value.ref o0.l, .ref o1.l, .ref o2.l].toArray eo) :: o0.obj :: o1.obj :: o2.obj :: ((L + 1, co0) :: (L + 1 + 1, co1) :: (L + 1 + 1 + 1, co2) :: (L + 1 + 1 + 1 + 1, co3) :: (L + 1 + 1 + 1 + 1 + 1, co4) :: (L + 1 + 1 + 1 + 1 + 1 + 1, co5) :: (L + 1 + 1 + 1 + 1 + 1 + 1 + 1, co6) :: rr)))) (fun p hp => .tail _ (List.mem_append_right _ (.tail _ (.tail _ (.tail _ (.tail _ (.tail _ (.tail _ (.tail _ (.tail _ (.tail _ (.tail _ (.tail _ (.tail _ (.tail _ (.tail _ (inA p hp)))))))))))))))))
      have hz := hJ2.2.mono (l' := (D2, W.listOf zs.toArray zs.length) :: (ad2 ++ ((D, W.listOf ys.toArray ys.length) :: (tl, W.listOf ti.toArray te) :: (cl, W.listOf ci.toArray ce) :: (ol, W.listOf [Value.ref o0.l, .ref o1.l, .ref o2.l].toArray eo) :: o0.obj :: o1.obj :: o2.obj :: ((L + 1, co0) :: (L + 1 + 1, co1) :: (L + 1 + 1 + 1, co2) :: (L + 1 + 1 + 1 + 1, co3) :: (L + 1 + 1 + 1 + 1 + 1, co4) :: (L + 1 + 1 + 1 + 1 + 1 + 1, co5) :: (L + 1 + 1 + 1 + 1 + 1 + 1 + 1, co6) :: rr)))) (fun p hp => .tail _ (List.mem_append_left _ hp))
      k_dflt (refine ne_pairs N (.tail _ (List.mem_append_right _ (.head _))) (.head _) hy hz hJ.1 hJ2.1 (fun j hj => ⟨rfl, rfl⟩) (show un + 64 < cLine by omega) ?_)
      replace N := sub_news N (l' := (tl, W.listOf ti.toArray te) :: (cl, W.listOf ci.toArray ce) :: (ol, W.listOf [Value.ref o0.l, .ref o1.l, .ref o2.l].toArray eo) :: o0.obj :: o1.obj :: o2.obj :: ((L + 1, co0) :: (L + 1 + 1, co1) :: (L + 1 + 1 + 1, co2) :: (L + 1 + 1 + 1 + 1, co3) :: (L + 1 + 1 + 1 + 1 + 1, co4) :: (L + 1 + 1 + 1 + 1 + 1 + 1, co5) :: (L + 1 + 1 + 1 + 1 + 1 + 1 + 1, co6) :: rr)) (fun p hp => .tail _ (List.mem_append_right _ (.tail _ hp)))
      clear hy hz
      k_steps
      refine Stop.mk ?_
      rename Fr _ _ _ _ => F'
      rename News _ _ _ _ => N'
      exact k _ _ F' (sub_news N' (fun p hp => by
        have e : p ∈ ((tl, W.listOf ti.toArray te) :: (cl, W.listOf ci.toArray ce) :: (ol, W.listOf [Value.ref o0.l, .ref o1.l, .ref o2.l].toArray eo) :: o0.obj :: o1.obj :: o2.obj :: ((L + 1, co0) :: (L + 1 + 1, co1) :: (L + 1 + 1 + 1, co2) :: (L + 1 + 1 + 1 + 1, co3) :: (L + 1 + 1 + 1 + 1 + 1, co4) :: (L + 1 + 1 + 1 + 1 + 1 + 1, co5) :: (L + 1 + 1 + 1 + 1 + 1 + 1 + 1, co6) :: [])) ++ rest := hp
        rcases List.mem_append.mp e with h | h
        · exact List.mem_append_left rr h
        · exact List.mem_append_right ((tl, W.listOf ti.toArray te) :: (cl, W.listOf ci.toArray ce) :: (ol, W.listOf [Value.ref o0.l, .ref o1.l, .ref o2.l].toArray eo) :: o0.obj :: o1.obj :: o2.obj :: ((L + 1, co0) :: (L + 1 + 1, co1) :: (L + 1 + 1 + 1, co2) :: (L + 1 + 1 + 1 + 1, co3) :: (L + 1 + 1 + 1 + 1 + 1, co4) :: (L + 1 + 1 + 1 + 1 + 1 + 1, co5) :: (L + 1 + 1 + 1 + 1 + 1 + 1 + 1, co6) :: [])) (inR p h)))
end law9
theorem law9 {w : World} {z : Env0} {dp : Nat} {un : Nat} {gd : Option (List Code)} {a : Addr} {ccd : Value} {outer : List Env} {A₀ : Around} {base : Heap} {g : Heap} {L : Nat} {s : Shared} {tk : Nat} {h₁ : Heap} {Q : Flow → Shared → Prop} {E : Value → Shared → Prop} (B : Below A₀ base outer g) (X : (hd.heap_1 w.params).In g) (T : Top z.p z.loose z.mean z.mg z.mb g) (cL : CodeHd base 166 162) (cY : CodeHd base 145 141) (cS : CodeHd base 138 134) (hdp : dp + 80 < recursionLimit) (hun : un + 300 < cLine) (hL : 162 < L) {ol : Nat} {eo : Nat} {o0 : OrdD} {o1 : OrdD} {o2 : OrdD} (k0 : o0.Ok) (k1 : o1.Ok) (k2 : o2.Ok) {cl : Nat} {ce : Nat} {tl : Nat} {te : Nat} {ci : List Value} {ti : List Value} {cs : List Int} {ts : List Int} (hc : IntsAre ci cs) (ht : IntsAre ti ts) (lc : cs.length = 16) (lt : ts.length = 16) (own : ∀ k : Nat, k < 16 → ownOf (0 + (k : Int)) [o0.ns, o1.ns, o2.ns] = (cs.getD k 0, ts.getD k 0)) {rest : Led} {u : Str → Option Value} {co0 : Obj} {co1 : Obj} {co2 : Obj} {co3 : Obj} {co4 : Obj} {co5 : Obj} {co6 : Obj} (cd4 : co4.data = Data.cell (some (.ref ol))) (cd5 : co5.data = Data.cell (some (.ref cl))) (cd6 : co6.data = Data.cell (some (.ref tl))) (F : Fr g L h₁ u) (N : News g L h₁ ((tl, W.listOf ti.toArray te) :: (cl, W.listOf ci.toArray ce) :: (ol, W.listOf [Value.ref o0.l, .ref o1.l, .ref o2.l].toArray eo) :: o0.obj :: o1.obj :: o2.obj :: ((L + 1, co0) :: (L + 1 + 1, co1) :: (L + 1 + 1 + 1, co2) :: (L + 1 + 1 + 1 + 1, co3) :: (L + 1 + 1 + 1 + 1 + 1, co4) :: (L + 1 + 1 + 1 + 1 + 1 + 1, co5) :: (L + 1 + 1 + 1 + 1 + 1 + 1 + 1, co6) :: rest))) (k : ∀ (h' : Heap) (tk' : Nat), Fr g L h' u → News g L h' ((tl, W.listOf ti.toArray te) :: (cl, W.listOf ci.toArray ce) :: (ol, W.listOf [Value.ref o0.l, .ref o1.l, .ref o2.l].toArray eo) :: o0.obj :: o1.obj :: o2.obj :: ((L + 1, co0) :: (L + 1 + 1, co1) :: (L + 1 + 1 + 1, co2) :: (L + 1 + 1 + 1 + 1, co3) :: (L + 1 + 1 + 1 + 1 + 1, co4) :: (L + 1 + 1 + 1 + 1 + 1 + 1, co5) :: (L + 1 + 1 + 1 + 1 + 1 + 1 + 1, co6) :: rest)) → wpAny (model PySem.Challenge.rw_wf0038_01.prog w) (lawA dp un gd L a ccd outer) (execs (lawRest 10) (lawE L a ccd)) Q E { s with heap := h', toks := tk' }) : wpAny (model PySem.Challenge.rw_wf0038_01.prog w) (lawA dp un gd L a ccd outer) (execs (lawRest 9) (lawE L a ccd)) Q E { s with heap := h₁, toks := tk } := Pk.all (T := law9.epsT) (ne := law9.eN) (Q := law9.epsQ) (by with_unfolding_all exact law9.eC) (w, z, dp, un, gd, a, ccd, outer, A₀, base, g, L, s, tk, h₁, Q, E, ol, eo, o0, o1, o2, cl, ce, tl, te, ci, ti, cs, ts, rest, u, co0, co1, co2, co3, co4, co5, co6) B X T cL cY cS hdp hun hL k0 k1 k2 hc ht lc lt own cd4 cd5 cd6 F N k
end
section
variable {w : World} {z : Env0} {dp un : Nat} {gd : Option (List Code)} {a : Addr} {ccd : Value} {outer : List Env} {A₀ : Around} {base g : Heap} {L : Nat} {s : Shared} {tk : Nat} {h₁ : Heap} {Q : Flow → Shared → Prop} {E : Value → Shared → Prop}
end
end
section
section
variable {w : World} {z : Env0} {dp un : Nat} {gd : Option (List Code)} {a : Addr} {ccd : Value} {outer : List Env} {A₀ : Around} {base g : Heap} {L : Nat} {s : Shared} {tk : Nat} {h₁ : Heap} {Q : Flow → Shared → Prop} {E : Value → Shared → Prop}
end
section
namespace law10
noncomputable def epsP : World → Env0 → Nat → Nat → (Option (List Code)) → Addr → Value → (List Env) → Around → Heap → Heap → Nat → Shared → Nat → Heap → (Flow → Shared → Prop) → (Value → Shared → Prop) → Nat → Nat → Nat → Nat → Nat → Nat → (List Value) → (List Value) → (List Value) → (List Int) → (List Int) → (List Int) → Led → (Str → Option Value) → Obj → Obj → Obj → Obj → Obj → Obj → Obj → Prop := fun w z dp un gd a ccd outer A₀ base g L s tk h₁ Q E nl ne cl ce tl te ni ci ti ns cs ts rest u co0 co1 co2 co3 co4 co5 co6 => ∀ (B : Below A₀ base outer g) (X : (hd.heap_1 w.params).In g) (T : Top z.p z.loose z.mean z.mg z.mb g) (cL : CodeHd base 166 162) (cY : CodeHd base 145 141) (cS : CodeHd base 138 134) (hdp : dp + 80 < recursionLimit) (hun : un + 300 < cLine) (hL : 162 < L) (hn : IntsAre ni ns) (hc : IntsAre ci cs) (ht : IntsAre ti ts) (pi : ProfIn cs ts ns) (cd1 : co1.data = Data.cell (some (.ref nl))) (cd5 : co5.data = Data.cell (some (.ref cl))) (cd6 : co6.data = Data.cell (some (.ref tl))) (F : Fr g L h₁ u) (N : News g L h₁ ((tl, W.listOf ti.toArray te) :: (cl, W.listOf ci.toArray ce) :: (nl, W.listOf ni.toArray ne) :: ((L + 1, co0) :: (L + 1 + 1, co1) :: (L + 1 + 1 + 1, co2) :: (L + 1 + 1 + 1 + 1, co3) :: (L + 1 + 1 + 1 + 1 + 1, co4) :: (L + 1 + 1 + 1 + 1 + 1 + 1, co5) :: (L + 1 + 1 + 1 + 1 + 1 + 1 + 1, co6) :: rest))) (k : ∀ (h' : Heap) (tk' : Nat) (pf : Nat) (po : Obj) (es : List PE), po.IsDictOf (IK w) (kvsOf es) → (pf == sysModules) = false → (∀ e ∈ es, e.Ok w ts) → es.map PE.row = profOf cs ns 16 → es.length ≤ 16 → Fr g L h' (kstB u [(Str.ofString "profile", .ref pf)]) →
     News g L h' ((pf, po) :: (ledOf es ++ ((tl, W.listOf ti.toArray te) :: (cl, W.listOf ci.toArray ce) :: (nl, W.listOf ni.toArray ne) :: ((L + 1, co0) :: (L + 1 + 1, co1) :: (L + 1 + 1 + 1, co2) :: (L + 1 + 1 + 1 + 1, co3) :: (L + 1 + 1 + 1 + 1 + 1, co4) :: (L + 1 + 1 + 1 + 1 + 1 + 1, co5) :: (L + 1 + 1 + 1 + 1 + 1 + 1 + 1, co6) :: rest)))) → wpAny (model PySem.Challenge.rw_wf0038_01.prog w) (lawA dp un gd L a ccd outer) (execs (lawRest 11) (lawE L a ccd)) Q E { s with heap := h', toks := tk' }), wpAny (model PySem.Challenge.rw_wf0038_01.prog w) (lawA dp un gd L a ccd outer) (execs (lawRest 10) (lawE L a ccd)) Q E { s with heap := h₁, toks := tk }
noncomputable abbrev epsT : Type := World × Env0 × Nat × Nat × (Option (List Code)) × Addr × Value × (List Env) × Around × Heap × Heap × Nat × Shared × Nat × Heap × (Flow → Shared → Prop) × (Value → Shared → Prop) × Nat × Nat × Nat × Nat × Nat × Nat × (List Value) × (List Value) × (List Value) × (List Int) × (List Int) × (List Int) × Led × (Str → Option Value) × Obj × Obj × Obj × Obj × Obj × Obj × Obj
noncomputable abbrev epsQ : epsT → Prop := fun d => epsP d.1 d.2.1 d.2.2.1 d.2.2.2.1 d.2.2.2.2.1 d.2.2.2.2.2.1 d.2.2.2.2.2.2.1 d.2.2.2.2.2.2.2.1 d.2.2.2.2.2.2.2.2.1 d.2.2.2.2.2.2.2.2.2.1 d.2.2.2.2.2.2.2.2.2.2.1 d.2.2.2.2.2.2.2.2.2.2.2.1 d.2.2.2.2.2.2.2.2.2.2.2.2.1 d.2.2.2.2.2.2.2.2.2.2.2.2.2.1 d.2.2.2.2.2.2.2.2.2.2.2.2.2.2.1 d.2.2.2.2.2.2.2.2.2.2.2.2.2.2.2.1 d.2.2.2.2.2.2.2.2.2.2.2.2.2.2.2.2.1 d.2.2.2.2.2.2.2.2.2.2.2.2.2.2.2.2.2.1 d.2.2.2.2.2.2.2.2.2.2.2.2.2.2.2.2.2.2.1 d.2.2.2.2.2.2.2.2.2.2.2.2.2.2.2.2.2.2.2.1 d.2.2.2.2.2.2.2.2.2.2.2.2.2.2.2.2.2.2.2.2.1 d.2.2.2.2.2.2.2.2.2.2.2.2.2.2.2.2.2.2.2.2.2.1 d.2.2.2.2.2.2.2.2.2.2.2.2.2.2.2.2.2.2.2.2.2.2.1 d.2.2.2.2.2.2.2.2.2.2.2.2.2.2.2.2.2.2.2.2.2.2.2.1 d.2.2.2.2.2.2.2.2.2.2.2.2.2.2.2.2.2.2.2.2.2.2.2.2.1 d.2.2.2.2.2.2.2.2.2.2.2.2.2.2.2.2.2.2.2.2.2.2.2.2.2.1 d.2.2.2.2.2.2.2.2.2.2.2.2.2.2.2.2.2.2.2.2.2.2.2.2.2.2.1 d.2.2.2.2.2.2.2.2.2.2.2.2.2.2.2.2.2.2.2.2.2.2.2.2.2.2.2.1 d.2.2.2.2.2.2.2.2.2.2.2.2.2.2.2.2.2.2.2.2.2.2.2.2.2.2.2.2.1 d.2.2.2.2.2.2.2.2.2.2.2.2.2.2.2.2.2.2.2.2.2.2.2.2.2.2.2.2.2.1 d.2.2.2.2.2.2.2.2.2.2.2.2.2.2.2.2.2.2.2.2.2.2.2.2.2.2.2.2.2.2.1 d.2.2.2.2.2.2.2.2.2.2.2.2.2.2.2.2.2.2.2.2.2.2.2.2.2.2.2.2.2.2.2.1 d.2.2.2.2.2.2.2.2.2.2.2.2.2.2.2.2.2.2.2.2.2.2.2.2.2.2.2.2.2.2.2.2.1 d.2.2.2.2.2.2.2.2.2.2.2.2.2.2.2.2.2.2.2.2.2.2.2.2.2.2.2.2.2.2.2.2.2.1 d.2.2.2.2.2.2.2.2.2.2.2.2.2.2.2.2.2.2.2.2.2.2.2.2.2.2.2.2.2.2.2.2.2.2.1 d.2.2.2.2.2.2.2.2.2.2.2.2.2.2.2.2.2.2.2.2.2.2.2.2.2.2.2.2.2.2.2.2.2.2.2.1 d.2.2.2.2.2.2.2.2.2.2.2.2.2.2.2.2.2.2.2.2.2.2.2.2.2.2.2.2.2.2.2.2.2.2.2.2.1 d.2.2.2.2.2.2.2.2.2.2.2.2.2.2.2.2.2.2.2.2.2.2.2.2.2.2.2.2.2.2.2.2.2.2.2.2.2
theorem eN : Nonempty epsT := by walk_at "ne_all"
@[irreducible] noncomputable def eK : epsT := Pk epsT eN epsQ
@[irreducible] noncomputable def nl := eK.2.2.2.2.2.2.2.2.2.2.2.2.2.2.2.2.2.1
@[irreducible] noncomputable def ne := eK.2.2.2.2.2.2.2.2.2.2.2.2.2.2.2.2.2.2.1
@[irreducible] noncomputable def cl := eK.2.2.2.2.2.2.2.2.2.2.2.2.2.2.2.2.2.2.2.1
@[irreducible] noncomputable def ce := eK.2.2.2.2.2.2.2.2.2.2.2.2.2.2.2.2.2.2.2.2.1
@[irreducible] noncomputable def tl := eK.2.2.2.2.2.2.2.2.2.2.2.2.2.2.2.2.2.2.2.2.2.1
@[irreducible] noncomputable def te := eK.2.2.2.2.2.2.2.2.2.2.2.2.2.2.2.2.2.2.2.2.2.2.1
@[irreducible] noncomputable def ni := eK.2.2.2.2.2.2.2.2.2.2.2.2.2.2.2.2.2.2.2.2.2.2.2.1
@[irreducible] noncomputable def ci := eK.2.2.2.2.2.2.2.2.2.2.2.2.2.2.2.2.2.2.2.2.2.2.2.2.1
@[irreducible] noncomputable def ti := eK.2.2.2.2.2.2.2.2.2.2.2.2.2.2.2.2.2.2.2.2.2.2.2.2.2.1
@[irreducible] noncomputable def ns := eK.2.2.2.2.2.2.2.2.2.2.2.2.2.2.2.2.2.2.2.2.2.2.2.2.2.2.1
@[irreducible] noncomputable def cs := eK.2.2.2.2.2.2.2.2.2.2.2.2.2.2.2.2.2.2.2.2.2.2.2.2.2.2.2.1
@[irreducible] noncomputable def ts := eK.2.2.2.2.2.2.2.2.2.2.2.2.2.2.2.2.2.2.2.2.2.2.2.2.2.2.2.2.1
theorem eC : epsP eK.1 eK.2.1 eK.2.2.1 eK.2.2.2.1 eK.2.2.2.2.1 eK.2.2.2.2.2.1 eK.2.2.2.2.2.2.1 eK.2.2.2.2.2.2.2.1 eK.2.2.2.2.2.2.2.2.1 eK.2.2.2.2.2.2.2.2.2.1 eK.2.2.2.2.2.2.2.2.2.2.1 eK.2.2.2.2.2.2.2.2.2.2.2.1 eK.2.2.2.2.2.2.2.2.2.2.2.2.1 eK.2.2.2.2.2.2.2.2.2.2.2.2.2.1 eK.2.2.2.2.2.2.2.2.2.2.2.2.2.2.1 eK.2.2.2.2.2.2.2.2.2.2.2.2.2.2.2.1 eK.2.2.2.2.2.2.2.2.2.2.2.2.2.2.2.2.1 nl ne cl ce tl te ni ci ti ns cs ts eK.2.2.2.2.2.2.2.2.2.2.2.2.2.2.2.2.2.2.2.2.2.2.2.2.2.2.2.2.2.1 eK.2.2.2.2.2.2.2.2.2.2.2.2.2.2.2.2.2.2.2.2.2.2.2.2.2.2.2.2.2.2.1 eK.2.2.2.2.2.2.2.2.2.2.2.2.2.2.2.2.2.2.2.2.2.2.2.2.2.2.2.2.2.2.2.1 eK.2.2.2.2.2.2.2.2.2.2.2.2.2.2.2.2.2.2.2.2.2.2.2.2.2.2.2.2.2.2.2.2.1 eK.2.2.2.2.2.2.2.2.2.2.2.2.2.2.2.2.2.2.2.2.2.2.2.2.2.2.2.2.2.2.2.2.2.1 eK.2.2.2.2.2.2.2.2.2.2.2.2.2.2.2.2.2.2.2.2.2.2.2.2.2.2.2.2.2.2.2.2.2.2.1 eK.2.2.2.2.2.2.2.2.2.2.2.2.2.2.2.2.2.2.2.2.2.2.2.2.2.2.2.2.2.2.2.2.2.2.2.1 eK.2.2.2.2.2.2.2.2.2.2.2.2.2.2.2.2.2.2.2.2.2.2.2.2.2.2.2.2.2.2.2.2.2.2.2.2.1 eK.2.2.2.2.2.2.2.2.2.2.2.2.2.2.2.2.2.2.2.2.2.2.2.2.2.2.2.2.2.2.2.2.2.2.2.2.2 := by
  unfold epsP
  intro B X T cL cY cS hdp hun hL hn hc ht pi cd1 cd5 cd6 F N k
  have hb' := (rfl : lawRest 10 = lawRest 10)
  have hs' := (rfl : lawSc = lawSc)
  conv at hb' => rhs; whnf
  conv at hs' => rhs; whnf
  unfold lawA lawE lawCl
  rw [hb', hs']
  clear hb' hs'
  refine wpAny_execs_cons ?_
  k_with_none
  k_with "execs cons Assign cons" => (refine Stop.go ?_)
  k_with "execs cons If" => (refine Stop.go ?_)
  k_with "mycall" => (refine Stop.go ?_)
  k_steps
  refine Stop.mk ?_
  (k_dflt (refine' Spec.use0 (profile_spec cl tl nl ce te ne ci ti ni cs ts ns hc ht hn pi) ?uB ?uF ?uX ?uN ?uT ?uk ?u1 ?u2 ?u3 ?ud ?uu ?ue ?uK; (case uB => k_asm); (case uF => k_asm); (case uX => k_asm); (case uN => k_asm); (case uT => k_asm); (case uk => first | exact rfl | assumption); (case u1 => assumption); (case u2 => assumption); (case u3 => assumption); (case ud => ktr_room); (case uu => ktr_units); (case ue => walk_at "sub"); k_whole)); (intro v' mu' new' h' tk' hR' F' N' ap'); (obtain ⟨es, po, pf, e1', e2', d1, l1, ok, rows, len, e3'⟩ := hR'); subst e1'; subst e2'; subst e3'; (dsimp only [List.nil_append, List.cons_append] at N')
  clear ap'
  k_steps
  refine Stop.mk ?_
  rename Fr _ _ _ _ => F6
  rename News _ _ _ _ => N6
  exact k _ _ pf po es d1 l1 ok rows len F6 N6
end law10
theorem law10 {w : World} {z : Env0} {dp : Nat} {un : Nat} {gd : Option (List Code)} {a : Addr} {ccd : Value} {outer : List Env} {A₀ : Around} {base : Heap} {g : Heap} {L : Nat} {s : Shared} {tk : Nat} {h₁ : Heap} {Q : Flow → Shared → Prop} {E : Value → Shared → Prop} (B : Below A₀ base outer g) (X : (hd.heap_1 w.params).In g) (T : Top z.p z.loose z.mean z.mg z.mb g) (cL : CodeHd base 166 162) (cY : CodeHd base 145 141) (cS : CodeHd base 138 134) (hdp : dp + 80 < recursionLimit) (hun : un + 300 < cLine) (hL : 162 < L) {nl : Nat} {ne : Nat} {cl : Nat} {ce : Nat} {tl : Nat} {te : Nat} {ni : List Value} {ci : List Value} {ti : List Value} {ns : List Int} {cs : List Int} {ts : List Int} (hn : IntsAre ni ns) (hc : IntsAre ci cs) (ht : IntsAre ti ts) (pi : ProfIn cs ts ns) {rest : Led} {u : Str → Option Value} {co0 : Obj} {co1 : Obj} {co2 : Obj} {co3 : Obj} {co4 : Obj} {co5 : Obj} {co6 : Obj} (cd1 : co1.data = Data.cell (some (.ref nl))) (cd5 : co5.data = Data.cell (some (.ref cl))) (cd6 : co6.data = Data.cell (some (.ref tl))) (F : Fr g L h₁ u) (N : News g L h₁ ((tl, W.listOf ti.toArray te) :: (cl, W.listOf ci.toArray ce) :: (nl, W.listOf ni.toArray ne) :: ((L + 1, co0) :: (L + 1 + 1, co1) :: (L + 1 + 1 + 1, co2) :: (L + 1 + 1 + 1 + 1, co3) :: (L + 1 + 1 + 1 + 1 + 1, co4) :: (L + 1 + 1 + 1 + 1 + 1 + 1, co5) :: (L + 1 + 1 + 1 + 1 + 1 + 1 + 1, co6) :: rest))) (k : ∀ (h' : Heap) (tk' : Nat) (pf : Nat) (po : Obj) (es : List PE), po.IsDictOf (IK w) (kvsOf es) → (pf == sysModules) = false → (∀ e ∈ es, e.Ok w ts) → es.map PE.row = profOf cs ns 16 → es.length ≤ 16 → Fr g L h' (kstB u [(Str.ofString "profile", .ref pf)]) →
     News g L h' ((pf, po) :: (ledOf es ++ ((tl, W.listOf ti.toArray te) :: (cl, W.listOf ci.toArray ce) :: (nl, W.listOf ni.toArray ne) :: ((L + 1, co0) :: (L + 1 + 1, co1) :: (L + 1 + 1 + 1, co2) :: (L + 1 + 1 + 1 + 1, co3) :: (L + 1 + 1 + 1 + 1 + 1, co4) :: (L + 1 + 1 + 1 + 1 + 1 + 1, co5) :: (L + 1 + 1 + 1 + 1 + 1 + 1 + 1, co6) :: rest)))) → wpAny (model PySem.Challenge.rw_wf0038_01.prog w) (lawA dp un gd L a ccd outer) (execs (lawRest 11) (lawE L a ccd)) Q E { s with heap := h', toks := tk' }) : wpAny (model PySem.Challenge.rw_wf0038_01.prog w) (lawA dp un gd L a ccd outer) (execs (lawRest 10) (lawE L a ccd)) Q E { s with heap := h₁, toks := tk } := Pk.all (T := law10.epsT) (ne := law10.eN) (Q := law10.epsQ) (by with_unfolding_all exact law10.eC) (w, z, dp, un, gd, a, ccd, outer, A₀, base, g, L, s, tk, h₁, Q, E, nl, ne, cl, ce, tl, te, ni, ci, ti, ns, cs, ts, rest, u, co0, co1, co2, co3, co4, co5, co6) B X T cL cY cS hdp hun hL hn hc ht pi cd1 cd5 cd6 F N k
end
section
variable {w : World} {z : Env0} {dp un : Nat} {gd : Option (List Code)} {a : Addr} {ccd : Value} {outer : List Env} {A₀ : Around} {base g : Heap} {L : Nat} {s : Shared} {tk : Nat} {h₁ : Heap} {Q : Flow → Shared → Prop} {E : Value → Shared → Prop}
end
end
section
noncomputable def cls (cs ns : List Int) (k : Int) : Nat → P4
  | 0 => (0, 0, 0, 0)
  | i + 1 => if cs.getD (0 + (i : Int)).toNat 0 = k then add4 (entAt ns i) (cls cs ns k i) else cls cs ns k i
theorem pGet_cons (q : Int × P4) (p : List (Int × P4)) (k : Int) : pGet (q :: p) k = if q.1 = k then q.2 else pGet p k := by
  unfold pGet
  rw [List.find?_cons]
  by_cases h : q.1 = k <;> simp [h]
theorem put_cons_ne {q : Int × P4} {p : List (Int × P4)} {k : Int} {v : P4} (h : q.1 ≠ k) : pPut (q :: p) k v = q :: pPut p k v := by
  unfold pPut
  rw [List.any_cons, decide_eq_false h, Bool.false_or, List.map_cons, if_neg h]
  split <;> rfl
theorem put_cons_eq {q : Int × P4} {p : List (Int × P4)} {k : Int} {v : P4} (h : q.1 = k) : pPut (q :: p) k v = (k, v) :: p.map fun q => if q.1 = k then (k, v) else q := by
  unfold pPut
  rw [List.any_cons, decide_eq_true h, Bool.true_or, if_pos rfl, List.map_cons, if_pos h]
theorem pGet_rep {k k' : Int} {v : P4} (h : k' ≠ k) : ∀ p : List (Int × P4), pGet (p.map fun q => if q.1 = k then (k, v) else q) k' = pGet p k'
  | [] => rfl
  | q :: p => by
    rw [List.map_cons, pGet_cons, pGet_cons, pGet_rep h p]
    by_cases hq : q.1 = k
    · rw [if_pos hq, if_neg (show ¬ (k, v).1 = k' from fun e => h e.symm), if_neg (fun e => h (e.symm.trans hq))]
    · rw [if_neg hq]
theorem pGet_put_same (k : Int) (v : P4) : ∀ p : List (Int × P4), pGet (pPut p k v) k = v
  | [] => by show pGet [(k, v)] k = v; rw [pGet_cons, if_pos rfl]
  | q :: p => by
    by_cases hq : q.1 = k
    · rw [put_cons_eq hq, pGet_cons, if_pos rfl]
    · rw [put_cons_ne hq, pGet_cons, if_neg hq, pGet_put_same k v p]
theorem pGet_put_ne {k k' : Int} {v : P4} (h : k' ≠ k) : ∀ p : List (Int × P4), pGet (pPut p k v) k' = pGet p k'
  | [] => by show pGet [(k, v)] k' = pGet [] k'; rw [pGet_cons, if_neg (show ¬ (k, v).1 = k' from fun e => h e.symm)]
  | q :: p => by
    by_cases hq : q.1 = k
    · rw [put_cons_eq hq, pGet_cons, pGet_cons, if_neg (show ¬ (k, v).1 = k' from fun e => h e.symm), if_neg (fun e => h (e.symm.trans hq)), pGet_rep h]
    · rw [put_cons_ne hq, pGet_cons, pGet_cons, pGet_put_ne h p]
theorem prof_get (cs ns : List Int) (k : Int) : ∀ i, pGet (profOf cs ns i) k = cls cs ns k i
  | 0 => rfl
  | i + 1 => by
    unfold profOf cls
    by_cases h : cs.getD (0 + (i : Int)).toNat 0 = k
    · rw [if_pos h, h, pGet_put_same, prof_get cs ns k i]
    · rw [if_neg h, pGet_put_ne (fun e => h e.symm), prof_get cs ns k i]
theorem put_keys {k : Int} {v : P4} : ∀ p : List (Int × P4), (pPut p k v).map (·.1) = if k ∈ p.map (·.1) then p.map (·.1) else p.map (·.1) ++ [k]
  | [] => rfl
  | q :: p => by
    by_cases hq : q.1 = k
    · rw [put_cons_eq hq, if_pos (by rw [List.map_cons, hq]; exact .head _), List.map_cons, List.map_cons, List.map_map]
      show k :: _ = q.1 :: _
      rw [hq]
      congr 1
      refine List.map_congr_left fun r _ => ?_
      show (if r.1 = k then (k, v) else r).1 = r.1
      split
      · rename_i h; exact h.symm
      · rfl
    · rw [put_cons_ne hq, List.map_cons, put_keys p, List.map_cons]
      by_cases hk : k ∈ p.map (·.1)
      · rw [if_pos hk, if_pos (.tail _ hk)]
      · rw [if_neg hk, if_neg (fun h => (List.mem_cons.mp h).elim (fun e => hq e.symm) hk)]; rfl
theorem prof_nodup (cs ns : List Int) : ∀ i, ((profOf cs ns i).map (·.1)).Nodup
  | 0 => List.nodup_nil
  | i + 1 => by
    unfold profOf
    rw [put_keys]
    split
    · exact prof_nodup cs ns i
    · rename_i h
      rw [List.nodup_append]
      exact ⟨prof_nodup cs ns i, List.nodup_cons.mpr ⟨fun h => (by cases h), List.nodup_nil⟩, fun a ha b hb => by rw [List.mem_singleton.mp hb]; exact fun e => h (e ▸ ha)⟩
theorem prof_keys (cs ns : List Int) : ∀ i, ∀ k ∈ (profOf cs ns i).map (·.1), ∃ j < i, k = cs.getD (0 + (j : Int)).toNat 0
  | 0, k, h => by cases h
  | i + 1, k, h => by
    unfold profOf at h
    rw [put_keys] at h
    split at h
    · obtain ⟨j, hj, e⟩ := prof_keys cs ns i k h
      exact ⟨j, by omega, e⟩
    · rcases List.mem_append.mp h with h | h
      · obtain ⟨j, hj, e⟩ := prof_keys cs ns i k h
        exact ⟨j, by omega, e⟩
      · exact ⟨i, by omega, List.mem_singleton.mp h⟩
theorem get_of_mem {p : List (Int × P4)} (nd : (p.map (·.1)).Nodup) {r : Int × P4} (h : r ∈ p) : pGet p r.1 = r.2 := by
  induction p with
  | nil => cases h
  | cons q p ih =>
    rw [List.map_cons, List.nodup_cons] at nd
    rw [pGet_cons]
    rcases List.mem_cons.mp h with rfl | h
    · rw [if_pos rfl]
    · rw [if_neg (fun e : q.1 = r.1 => nd.1 (by rw [e]; exact List.mem_map_of_mem h)), ih nd.2 h]
theorem prof_row {cs ns : List Int} {i : Nat} {r : Int × P4} (h : r ∈ profOf cs ns i) : r.2 = cls cs ns r.1 i := by
  rw [← prof_get, get_of_mem (prof_nodup cs ns i) h]
theorem rep_id {k : Int} {v : P4} : ∀ {p : List (Int × P4)}, k ∉ p.map (·.1) → (p.map fun q => if q.1 = k then (k, v) else q) = p
  | [], _ => rfl
  | q :: p, h => by
    rw [List.map_cons, List.mem_cons, not_or] at h
    rw [List.map_cons, if_neg (fun e => h.1 e.symm), rep_id h.2]
theorem sum_put (f : P4 → Int) (f0 : f (0, 0, 0, 0) = 0) {k : Int} {v : P4} : ∀ {p : List (Int × P4)}, (p.map (·.1)).Nodup → ((pPut p k v).map fun r => f r.2).sum + f (pGet p k) = (p.map fun r => f r.2).sum + f v
  | [], _ => by
    show ([f v]).sum + f (0, 0, 0, 0) = 0 + f v
    rw [f0]; simp
  | q :: p, nd => by
    rw [List.map_cons, List.nodup_cons] at nd
    by_cases hq : q.1 = k
    · rw [put_cons_eq hq, rep_id (hq ▸ nd.1), pGet_cons, if_pos hq, List.map_cons, List.map_cons, List.sum_cons, List.sum_cons]
      show f v + _ + f q.2 = f q.2 + _ + f v
      omega
    · have ih := sum_put f f0 (k := k) (v := v) nd.2
      rw [put_cons_ne hq, pGet_cons, if_neg hq, List.map_cons, List.map_cons, List.sum_cons, List.sum_cons]
      omega
theorem prof_sum (f : P4 → Int) (f0 : f (0, 0, 0, 0) = 0) (fa : ∀ u v, f (add4 u v) = f u + f v) (cs ns : List Int) : ∀ i, ((profOf cs ns i).map fun r => f r.2).sum = ((List.range i).map fun j => f (entAt ns j)).sum
  | 0 => rfl
  | i + 1 => by
    have h := sum_put f f0 (k := cs.getD (0 + (i : Int)).toNat 0) (v := add4 (entAt ns i) (pGet (profOf cs ns i) (cs.getD (0 + (i : Int)).toNat 0))) (prof_nodup cs ns i)
    rw [fa] at h
    have ih := prof_sum f f0 fa cs ns i
    rw [List.range_succ, List.map_append, List.sum_append, ← ih]
    show ((pPut _ _ _).map _).sum = _ + ([f (entAt ns i)]).sum
    rw [List.sum_cons, List.sum_nil]
    omega
theorem prof_a (cs ns : List Int) : ((profOf cs ns 16).map fun r => r.2.1).sum = 16 := by
  rw [prof_sum (fun v => v.1) rfl (fun _ _ => rfl)]
  show ((List.range 16).map fun _ : Nat => (1 : Int)).sum = 16
  decide +kernel
theorem prof_b (cs ns : List Int) : ((profOf cs ns 16).map fun r => r.2.2.1).sum = 0 := by
  rw [prof_sum (fun v => v.2.1) rfl (fun _ _ => rfl)]
  show ((List.range 16).map fun j : Nat => (1 - ((plOf (0 + (j : Int)) 4).length : Int).fmod 2 * 2)).sum = 0
  decide +kernel
noncomputable def plSum (ns : List Int) (l : List Int) : Int := (l.map fun p => ns.getD p.toNat 0).sum
theorem plSum_count (ns : List Int) : ∀ l : List Int, (∀ p ∈ l, 0 ≤ p ∧ p < 4) → plSum ns l = (l.count 0 : Int) * ns.getD 0 0 + (l.count 1 : Int) * ns.getD 1 0 + (l.count 2 : Int) * ns.getD 2 0 + (l.count 3 : Int) * ns.getD 3 0
  | [], _ => by simp [plSum]
  | p :: l, h => by
    have ih := plSum_count ns l fun q hq => h q (.tail _ hq)
    obtain ⟨h0, h4⟩ := h p (.head _)
    have e : plSum ns (p :: l) = ns.getD p.toNat 0 + plSum ns l := by simp [plSum]
    rw [e, ih]
    have : p = 0 ∨ p = 1 ∨ p = 2 ∨ p = 3 := by first | exact orN4 (by omega) | exact orI4 (by omega) (by omega)
    rcases this with rfl | rfl | rfl | rfl <;> simp [List.count_cons, Int.add_mul] <;> omega
end
section
section
open PySem.SeqAt
theorem pairs_any {p p' : Program} {w w' : World} : ∀ {es : List DictEntry} {kvs : List (Int × Value)}, Pairs (PySem.intKind p w) es kvs → Pairs (PySem.intKind p' w') es kvs
  | _, _, .nil => .nil
  | _, _, .cons h1 h2 r => .cons h1 h2 (pairs_any r)
theorem isDictOf_any {p p' : Program} {w w' : World} {o : Obj} {kvs : List (Int × Value)} (h : o.IsDictOf (PySem.intKind p w) kvs) : o.IsDictOf (PySem.intKind p' w') kvs :=
  let ⟨es, ep, h1, h2, h3, h4, h5⟩ := h
  ⟨es, ep, h1, h2, h3, pairs_any h4, h5⟩
variable {p : Program} {w : World} {A : Around} {E : Value → Shared → Prop} {s : Shared} {h₀ : Heap} {L : Addr} {news : Led} {Q : Value → Shared → Prop}
theorem eqAt_dict1 {d e : Nat} {o oe : Obj} {h c : Int} {t u : Tok} (N : News h₀ L s.heap news) (m1 : (d, o) ∈ news) (m2 : (e, oe) ∈ news) (d1 : o.IsDictOf (PySem.intKind p w) [(h, .int c t)]) (d2 : oe.IsDictOf (PySem.intKind p w) [(h, .int c u)])
   (l1 : (d == sysModules) = false) (l2 : (e == sysModules) = false) (hne : @Ne Nat d e) (hu : A.units < cLine) : EqAt A s (.ref d) (.ref e) true := by
  refine EqAt.of_refs hne fun prog' w' E' Q' hq => ?_
  refine keq_eq (knd := PySem.intKind prog' w') (r := true) l1 l2 (Heap.dictOf_iff.mpr ⟨o, (N _ m1).1, isDictOf_any d1⟩) (Heap.dictOf_iff.mpr ⟨oe, (N _ m2).1, isDictOf_any d2⟩) hu (fun _ => ?_) hq
  have hv : valueAt [(h, Value.int c u)] h = some (.int c u) := by simp [valueAt]
  have hc : EqAt A.in1 s (.int c t) (.int c u) true := by
    have := EqAt.int_int (A := A.in1) (s := s) c t c u
    rw [beq_self_eq_true] at this
    exact this
  exact KeqHits.hit hv hc .nil
theorem eqAt_stat {T T' d e : Nat} {o oe : Obj} {a b x y h c : Int} {ta tb tx ty ua ub ux uy t u : Tok} (N : News h₀ L s.heap news) (m1 : (T, statO a b x y ta tb tx ty d) ∈ news) (m2 : (T', statO a b x y ua ub ux uy e) ∈ news) (m3 : (d, o) ∈ news) (m4 : (e, oe) ∈ news)
   (d1 : o.IsDictOf (PySem.intKind p w) [(h, .int c t)]) (d2 : oe.IsDictOf (PySem.intKind p w) [(h, .int c u)]) (l1 : (d == sysModules) = false) (l2 : (e == sysModules) = false) (hT : @Ne Nat T T') (hne : @Ne Nat d e) (hu : A.units + 8 < cLine) :
   EqAt A s (.ref T) (.ref T') true := by
  have hi : ∀ (k : Int) (v v' : Tok), EqAt A.in1 s (.int k v) (.int k v') true := fun k v v' => by
    have := EqAt.int_int (A := A.in1) (s := s) k v k v'
    rw [beq_self_eq_true] at this
    exact this
  have hd : EqAt A.in1 s (.ref d) (.ref e) true := eqAt_dict1 N m3 m4 d1 d2 l1 l2 hne (show A.units + 1 < cLine by omega)
  refine EqAt.of_refs hT ?_
  have := RcAt.tuples (e := fun _ => true) (A := A) (items := #[.int a ta, .int b tb, .int x tx, .int y ty, .ref d]) (items2 := #[.int a ua, .int b ub, .int x ux, .int y uy, .ref e]) (News.isTup N m1) (News.isTup N m2) (by omega) (fun j h1 h2 => by
    match j, h1, h2 with
    | 0, _, _ => exact hi _ _ _
    | 1, _, _ => exact hi _ _ _
    | 2, _, _ => exact hi _ _ _
    | 3, _, _ => exact hi _ _ _
    | 4, _, _ => exact hd
    | j + 5, h1, _ => exact absurd h1 (by show ¬ j + 5 < 5; omega))
  exact this
theorem find_key {ds : List PE} (nd : (ds.map PE.key).Nodup) {d : PE} (h : d ∈ ds) : ds.find? (fun q => decide (q.key = d.key)) = some d := by
  induction ds with
  | nil => cases h
  | cons q ds ih =>
    rw [List.map_cons, List.nodup_cons] at nd
    rw [List.find?_cons]
    rcases List.mem_cons.mp h with e | h
    · rw [e, decide_eq_true rfl]
    · rw [decide_eq_false (fun e : q.key = d.key => nd.1 (by rw [e]; exact List.mem_map_of_mem h))]
      exact ih nd.2 h
theorem keys_rows {es : List PE} {rs : List (Int × P4)} (h : es.map PE.row = rs) : es.map PE.key = rs.map (·.1) := by rw [← h, List.map_map]; rfl
theorem hits_prof {w : World} {ts : List Int} {es ds : List PE} (N : News h₀ L s.heap news) (me : ∀ q ∈ ledOf es, q ∈ news) (md : ∀ q ∈ ledOf ds, q ∈ news) (okE : ∀ e ∈ es, e.Ok w ts) (okD : ∀ e ∈ ds, e.Ok w ts) (rows : ds.map PE.row = es.map PE.row) (nd : (ds.map PE.key).Nodup)
   (ap : Apart (ledOf ds) (ledOf es)) (hu : A.units + 8 < cLine) : ∀ fs : List PE, (∀ e ∈ fs, e ∈ es) → KeqHits A s (kvsOf ds) (kvsOf fs) true
  | [], _ => .nil
  | e :: fs, hs => by
    have he := hs e (.head _)
    have hr : e.row ∈ ds.map PE.row := by rw [rows]; exact List.mem_map_of_mem he
    obtain ⟨d, hd, hde⟩ := List.mem_map.mp hr
    have hf := find_key nd hd
    have hk : d.key = e.key := congrArg Prod.fst hde
    have h4 : (d.a, d.b, d.x, d.y) = (e.a, e.b, e.x, e.y) := congrArg Prod.snd hde
    simp only [Prod.mk.injEq] at h4
    obtain ⟨ha, hb, hx, hy⟩ := h4
    obtain ⟨t, q1⟩ := (okE e he).dict
    obtain ⟨u, q2⟩ := (okD d hd).dict
    rw [hk, ha] at q2
    have hv := (look_kvs _ hf).1
    rw [hk] at hv
    have i1 : (e.ta, statO e.a e.b e.x e.y e.t1 e.t2 e.t3 e.t4 e.da) ∈ ledOf es := List.mem_flatMap.mpr ⟨e, he, .head _⟩
    have i2 : (e.da, e.od) ∈ ledOf es := List.mem_flatMap.mpr ⟨e, he, .tail _ (.head _)⟩
    have i3 : (d.ta, statO d.a d.b d.x d.y d.t1 d.t2 d.t3 d.t4 d.da) ∈ ledOf ds := List.mem_flatMap.mpr ⟨d, hd, .head _⟩
    have i4 : (d.da, d.od) ∈ ledOf ds := List.mem_flatMap.mpr ⟨d, hd, .tail _ (.head _)⟩
    have n1 : @Ne Nat d.ta e.ta := ap _ i3 _ i1
    have n2 : @Ne Nat d.da e.da := ap _ i4 _ i2
    have m3 := md _ i3
    rw [ha, hb, hx, hy] at m3
    exact KeqHits.hit hv (eqAt_stat N (me _ i1) m3 (me _ i2) (md _ i4) q1 q2 (okE e he).lo (okD d hd).lo n1.symm n2.symm hu) (hits_prof N me md okE okD rows nd ap hu fs fun q hq => hs q (.tail _ hq))
theorem ne_prof {w : World} {ts : List Int} {pf D : Nat} {po oD : Obj} {es ds : List PE} (N : News h₀ L s.heap news) (mp : (pf, po) ∈ news) (mD : (D, oD) ∈ news) (dp : po.IsDictOf (IK w) (kvsOf es)) (dd : oD.IsDictOf (IK w) (kvsOf ds)) (l1 : (pf == sysModules) = false) (l2 : (D == sysModules) = false)
   (me : ∀ q ∈ ledOf es, q ∈ news) (md : ∀ q ∈ ledOf ds, q ∈ news) (okE : ∀ e ∈ es, e.Ok w ts) (okD : ∀ e ∈ ds, e.Ok w ts) (rows : ds.map PE.row = es.map PE.row) (nd : (ds.map PE.key).Nodup)
   (ap : Apart (ledOf ds) (ledOf es)) (hu : A.units + 64 < cLine) (h : Q (.bool false) s) : wpAny (model PySem.Challenge.rw_wf0038_01.prog w) A (compareOp .NotEq (.ref pf) (.ref D)) Q E s := by
  have hl : (kvsOf es).length = (kvsOf ds).length := by
    unfold kvsOf
    have := congrArg List.length rows
    rw [List.length_map, List.length_map] at this
    rw [List.length_map, List.length_map, this]
  exact kne_pairs (knd := IK w) (r := true) N mp mD dp dd l1 l2 hl (by omega) (hits_prof N me md okE okD rows nd ap (show A.units + 1 + 8 < cLine by omega) es fun _ h => h) h
end
end
section
structure DueOk (ts ns : List Int) (e : PE) : Prop where
  k : 0 ≤ e.key ∧ e.key < 16
  h : 0 ≤ ts.getD e.key.toNat 0 ∧ ts.getD e.key.toNat 0 < 16
  le : (plOf (ts.getD e.key.toNat 0) 4).length ≤ (plOf e.key 4).length
  v : (e.a, e.b, e.x, e.y) = (dueW e.key (ts.getD e.key.toNat 0), dueS e.key (ts.getD e.key.toNat 0), dueN e.key (ts.getD e.key.toNat 0), dueT ns e.key (ts.getD e.key.toNat 0))
theorem ledOf_snoc (ds : List PE) (e : PE) : ledOf (ds ++ [e]) = ledOf ds ++ e.led := by unfold ledOf; rw [List.flatMap_append]; simp
theorem putE_new {ds : List PE} {e : PE} (h : ∀ q ∈ ds, q.key ≠ e.key) : putE ds e = ds ++ [e] := by
  unfold putE
  rw [if_neg]
  intro hh
  obtain ⟨q, hq, h1⟩ := List.any_eq_true.mp hh
  exact h q hq (of_decide_eq_true h1)
theorem take_fresh {es ds : List PE} {i : Nat} {e : PE} (rows : ds.map PE.row = (es.map PE.row).take i) (nd : (es.map PE.key).Nodup) (he : es[i]? = some e) : ∀ q ∈ ds, q.key ≠ e.key := by
  intro q hq hk
  have h1 : q.row ∈ (es.map PE.row).take i := by rw [← rows]; exact List.mem_map_of_mem hq
  obtain ⟨j, hj, h2⟩ := List.mem_take_iff_getElem.mp h1
  have hjl : j < es.length := by rw [List.length_map] at hj; omega
  have hil : i < es.length := (List.getElem?_eq_some_iff.mp he).1
  have e1 : es[j].row = q.row := by rw [← h2, List.getElem_map]
  have e2 : es[j].key = q.key := congrArg Prod.fst e1
  have e3 : es[i] = e := (List.getElem?_eq_some_iff.mp he).2
  have hne : j ≠ i := by omega
  refine hne ((List.getElem?_inj (l := es.map PE.key) (by rw [List.length_map]; exact hjl) nd).mp ?_)
  rw [List.getElem?_map, List.getElem?_map, List.getElem?_eq_getElem hjl, he]
  show some es[j].key = some e.key
  rw [e2, hk]
section
variable {w : World} {z : Env0} {dp un : Nat} {gd : Option (List Code)} {a : Addr} {ccd : Value} {outer : List Env} {A₀ : Around} {base g : Heap} {L : Nat} {s : Shared} {tk : Nat} {h₁ : Heap} {Q : Flow → Shared → Prop} {E : Value → Shared → Prop}
end
section
namespace law11
noncomputable def epsP : World → Env0 → Nat → Nat → (Option (List Code)) → Addr → Value → (List Env) → Around → Heap → Heap → Nat → Shared → Nat → Heap → (Flow → Shared → Prop) → (Value → Shared → Prop) → Nat → Nat → Nat → Nat → Nat → (List Value) → (List Value) → (List Int) → (List Int) → Obj → (List PE) → Led → (Str → Option Value) → Obj → Obj → Obj → Obj → Obj → Obj → Obj → Prop := fun w z dp un gd a ccd outer A₀ base g L s tk h₁ Q E nl ne tl te pf ni ti ns ts po es rest u co0 co1 co2 co3 co4 co5 co6 => ∀ (B : Below A₀ base outer g) (X : (hd.heap_1 w.params).In g) (T : Top z.p z.loose z.mean z.mg z.mb g) (cL : CodeHd base 166 162) (cY : CodeHd base 145 141) (cS : CodeHd base 138 134) (hdp : dp + 80 < recursionLimit) (hun : un + 300 < cLine) (hL : 162 < L) (hn : IntsAre ni ns) (ht : IntsAre ti ts) (ln : ns.length = 4) (lt : ts.length = 16) (hb : ∀ n ∈ ns, 0 ≤ n ∧ n < 1000000000) (dpo : po.IsDictOf (IK w) (kvsOf es)) (lpo : (pf == sysModules) = false) (okE : ∀ e ∈ es, e.Ok w ts) (due : ∀ e ∈ es, DueOk ts ns e) (nd : (es.map PE.key).Nodup) (len : es.length ≤ 16) (cd1 : co1.data = Data.cell (some (.ref nl))) (cd6 : co6.data = Data.cell (some (.ref tl))) (F : Fr g L h₁ (kstB u [(Str.ofString "profile", .ref pf)])) (N : News g L h₁ ((pf, po) :: (tl, W.listOf ti.toArray te) :: (nl, W.listOf ni.toArray ne) :: ((L + 1, co0) :: (L + 1 + 1, co1) :: (L + 1 + 1 + 1, co2) :: (L + 1 + 1 + 1 + 1, co3) :: (L + 1 + 1 + 1 + 1 + 1, co4) :: (L + 1 + 1 + 1 + 1 + 1 + 1, co5) :: (L + 1 + 1 + 1 + 1 + 1 + 1 + 1, co6) :: rest))) (hes : ∀ q ∈ ledOf es, q ∈ rest) (k : ∀ (h' : Heap) (tk' : Nat), Fr g L h' (kstB u [(Str.ofString "profile", .ref pf)]) → News g L h' ((pf, po) :: (tl, W.listOf ti.toArray te) :: (nl, W.listOf ni.toArray ne) :: ((L + 1, co0) :: (L + 1 + 1, co1) :: (L + 1 + 1 + 1, co2) :: (L + 1 + 1 + 1 + 1, co3) :: (L + 1 + 1 + 1 + 1 + 1, co4) :: (L + 1 + 1 + 1 + 1 + 1 + 1, co5) :: (L + 1 + 1 + 1 + 1 + 1 + 1 + 1, co6) :: rest)) → wpAny (model PySem.Challenge.rw_wf0038_01.prog w) (lawA dp un gd L a ccd outer) (execs (lawRest 12) (lawE L a ccd)) Q E { s with heap := h', toks := tk' }), wpAny (model PySem.Challenge.rw_wf0038_01.prog w) (lawA dp un gd L a ccd outer) (execs (lawRest 11) (lawE L a ccd)) Q E { s with heap := h₁, toks := tk }
noncomputable abbrev epsT : Type := World × Env0 × Nat × Nat × (Option (List Code)) × Addr × Value × (List Env) × Around × Heap × Heap × Nat × Shared × Nat × Heap × (Flow → Shared → Prop) × (Value → Shared → Prop) × Nat × Nat × Nat × Nat × Nat × (List Value) × (List Value) × (List Int) × (List Int) × Obj × (List PE) × Led × (Str → Option Value) × Obj × Obj × Obj × Obj × Obj × Obj × Obj
noncomputable abbrev epsQ : epsT → Prop := fun d => epsP d.1 d.2.1 d.2.2.1 d.2.2.2.1 d.2.2.2.2.1 d.2.2.2.2.2.1 d.2.2.2.2.2.2.1 d.2.2.2.2.2.2.2.1 d.2.2.2.2.2.2.2.2.1 d.2.2.2.2.2.2.2.2.2.1 d.2.2.2.2.2.2.2.2.2.2.1 d.2.2.2.2.2.2.2.2.2.2.2.1 d.2.2.2.2.2.2.2.2.2.2.2.2.1 d.2.2.2.2.2.2.2.2.2.2.2.2.2.1 d.2.2.2.2.2.2.2.2.2.2.2.2.2.2.1 d.2.2.2.2.2.2.2.2.2.2.2.2.2.2.2.1 d.2.2.2.2.2.2.2.2.2.2.2.2.2.2.2.2.1 d.2.2.2.2.2.2.2.2.2.2.2.2.2.2.2.2.2.1 d.2.2.2.2.2.2.2.2.2.2.2.2.2.2.2.2.2.2.1 d.2.2.2.2.2.2.2.2.2.2.2.2.2.2.2.2.2.2.2.1 d.2.2.2.2.2.2.2.2.2.2.2.2.2.2.2.2.2.2.2.2.1 d.2.2.2.2.2.2.2.2.2.2.2.2.2.2.2.2.2.2.2.2.2.1 d.2.2.2.2.2.2.2.2.2.2.2.2.2.2.2.2.2.2.2.2.2.2.1 d.2.2.2.2.2.2.2.2.2.2.2.2.2.2.2.2.2.2.2.2.2.2.2.1 d.2.2.2.2.2.2.2.2.2.2.2.2.2.2.2.2.2.2.2.2.2.2.2.2.1 d.2.2.2.2.2.2.2.2.2.2.2.2.2.2.2.2.2.2.2.2.2.2.2.2.2.1 d.2.2.2.2.2.2.2.2.2.2.2.2.2.2.2.2.2.2.2.2.2.2.2.2.2.2.1 d.2.2.2.2.2.2.2.2.2.2.2.2.2.2.2.2.2.2.2.2.2.2.2.2.2.2.2.1 d.2.2.2.2.2.2.2.2.2.2.2.2.2.2.2.2.2.2.2.2.2.2.2.2.2.2.2.2.1 d.2.2.2.2.2.2.2.2.2.2.2.2.2.2.2.2.2.2.2.2.2.2.2.2.2.2.2.2.2.1 d.2.2.2.2.2.2.2.2.2.2.2.2.2.2.2.2.2.2.2.2.2.2.2.2.2.2.2.2.2.2.1 d.2.2.2.2.2.2.2.2.2.2.2.2.2.2.2.2.2.2.2.2.2.2.2.2.2.2.2.2.2.2.2.1 d.2.2.2.2.2.2.2.2.2.2.2.2.2.2.2.2.2.2.2.2.2.2.2.2.2.2.2.2.2.2.2.2.1 d.2.2.2.2.2.2.2.2.2.2.2.2.2.2.2.2.2.2.2.2.2.2.2.2.2.2.2.2.2.2.2.2.2.1 d.2.2.2.2.2.2.2.2.2.2.2.2.2.2.2.2.2.2.2.2.2.2.2.2.2.2.2.2.2.2.2.2.2.2.1 d.2.2.2.2.2.2.2.2.2.2.2.2.2.2.2.2.2.2.2.2.2.2.2.2.2.2.2.2.2.2.2.2.2.2.2.1 d.2.2.2.2.2.2.2.2.2.2.2.2.2.2.2.2.2.2.2.2.2.2.2.2.2.2.2.2.2.2.2.2.2.2.2.2
theorem eN : Nonempty epsT := by walk_at "ne_all"
@[irreducible] noncomputable def eK : epsT := Pk epsT eN epsQ
@[irreducible] noncomputable def w := eK.1
@[irreducible] noncomputable def un := eK.2.2.2.1
@[irreducible] noncomputable def a := eK.2.2.2.2.2.1
@[irreducible] noncomputable def g := eK.2.2.2.2.2.2.2.2.2.2.1
@[irreducible] noncomputable def L := eK.2.2.2.2.2.2.2.2.2.2.2.1
@[irreducible] noncomputable def nl := eK.2.2.2.2.2.2.2.2.2.2.2.2.2.2.2.2.2.1
@[irreducible] noncomputable def ne := eK.2.2.2.2.2.2.2.2.2.2.2.2.2.2.2.2.2.2.1
@[irreducible] noncomputable def tl := eK.2.2.2.2.2.2.2.2.2.2.2.2.2.2.2.2.2.2.2.1
@[irreducible] noncomputable def te := eK.2.2.2.2.2.2.2.2.2.2.2.2.2.2.2.2.2.2.2.2.1
@[irreducible] noncomputable def pf := eK.2.2.2.2.2.2.2.2.2.2.2.2.2.2.2.2.2.2.2.2.2.1
@[irreducible] noncomputable def ni := eK.2.2.2.2.2.2.2.2.2.2.2.2.2.2.2.2.2.2.2.2.2.2.1
@[irreducible] noncomputable def ti := eK.2.2.2.2.2.2.2.2.2.2.2.2.2.2.2.2.2.2.2.2.2.2.2.1
@[irreducible] noncomputable def ns := eK.2.2.2.2.2.2.2.2.2.2.2.2.2.2.2.2.2.2.2.2.2.2.2.2.1
@[irreducible] noncomputable def ts := eK.2.2.2.2.2.2.2.2.2.2.2.2.2.2.2.2.2.2.2.2.2.2.2.2.2.1
@[irreducible] noncomputable def po := eK.2.2.2.2.2.2.2.2.2.2.2.2.2.2.2.2.2.2.2.2.2.2.2.2.2.2.1
@[irreducible] noncomputable def es := eK.2.2.2.2.2.2.2.2.2.2.2.2.2.2.2.2.2.2.2.2.2.2.2.2.2.2.2.1
@[irreducible] noncomputable def rest := eK.2.2.2.2.2.2.2.2.2.2.2.2.2.2.2.2.2.2.2.2.2.2.2.2.2.2.2.2.1
@[irreducible] noncomputable def co0 := eK.2.2.2.2.2.2.2.2.2.2.2.2.2.2.2.2.2.2.2.2.2.2.2.2.2.2.2.2.2.2.1
@[irreducible] noncomputable def co1 := eK.2.2.2.2.2.2.2.2.2.2.2.2.2.2.2.2.2.2.2.2.2.2.2.2.2.2.2.2.2.2.2.1
@[irreducible] noncomputable def co2 := eK.2.2.2.2.2.2.2.2.2.2.2.2.2.2.2.2.2.2.2.2.2.2.2.2.2.2.2.2.2.2.2.2.1
@[irreducible] noncomputable def co3 := eK.2.2.2.2.2.2.2.2.2.2.2.2.2.2.2.2.2.2.2.2.2.2.2.2.2.2.2.2.2.2.2.2.2.1
@[irreducible] noncomputable def co4 := eK.2.2.2.2.2.2.2.2.2.2.2.2.2.2.2.2.2.2.2.2.2.2.2.2.2.2.2.2.2.2.2.2.2.2.1
@[irreducible] noncomputable def co5 := eK.2.2.2.2.2.2.2.2.2.2.2.2.2.2.2.2.2.2.2.2.2.2.2.2.2.2.2.2.2.2.2.2.2.2.2.1
@[irreducible] noncomputable def co6 := eK.2.2.2.2.2.2.2.2.2.2.2.2.2.2.2.2.2.2.2.2.2.2.2.2.2.2.2.2.2.2.2.2.2.2.2.2
theorem eC : epsP w eK.2.1 eK.2.2.1 un eK.2.2.2.2.1 a eK.2.2.2.2.2.2.1 eK.2.2.2.2.2.2.2.1 eK.2.2.2.2.2.2.2.2.1 eK.2.2.2.2.2.2.2.2.2.1 g L eK.2.2.2.2.2.2.2.2.2.2.2.2.1 eK.2.2.2.2.2.2.2.2.2.2.2.2.2.1 eK.2.2.2.2.2.2.2.2.2.2.2.2.2.2.1 eK.2.2.2.2.2.2.2.2.2.2.2.2.2.2.2.1 eK.2.2.2.2.2.2.2.2.2.2.2.2.2.2.2.2.1 nl ne tl te pf ni ti ns ts po es rest eK.2.2.2.2.2.2.2.2.2.2.2.2.2.2.2.2.2.2.2.2.2.2.2.2.2.2.2.2.2.1 co0 co1 co2 co3 co4 co5 co6 := by
  unfold epsP
  intro B X T cL cY cS hdp hun hL hn ht ln lt hb dpo lpo okE due nd len cd1 cd6 F N hes k
  have hb' := (rfl : lawRest 11 = lawRest 11)
  have hs' := (rfl : lawSc = lawSc)
  conv at hb' => rhs; whnf
  conv at hs' => rhs; whnf
  unfold lawA lawE lawCl
  rw [hb', hs']
  clear hb' hs'
  refine wpAny_execs_cons ?_
  have hln := hn.length
  have hlt := ht.length
  k_with_none
  k_with "execs cons If" => (refine Stop.go ?_)
  k_with "eval DictComp" => (refine Stop.go ?_)
  k_with "mycall" => (refine Stop.go ?_)
  k_with "compareOp NotEq ref ref" => (refine Stop.go ?_)
  k_steps
  refine Stop.mk ?_
  k_dflt (refine gd_keys (knd := PySem.intKind _ _) (kvs := kvsOf es) (all := ((pf, po) :: (tl, W.listOf ti.toArray te) :: (nl, W.listOf ni.toArray ne) :: ((L + 1, co0) :: (L + 1 + 1, co1) :: (L + 1 + 1 + 1, co2) :: (L + 1 + 1 + 1 + 1, co3) :: (L + 1 + 1 + 1 + 1 + 1, co4) :: (L + 1 + 1 + 1 + 1 + 1 + 1, co5) :: (L + 1 + 1 + 1 + 1 + 1 + 1 + 1, co6) :: rest))) (fun ds : List PE => ledOf ds ++ ((pf, po) :: (tl, W.listOf ti.toArray te) :: (nl, W.listOf ni.toArray ne) :: ((L + 1, co0) :: (L + 1 + 1, co1) :: (L + 1 + 1 + 1, co2) :: (L + 1 + 1 + 1 + 1, co3) :: (L + 1 + 1 + 1 + 1 + 1, co4) :: (L + 1 + 1 + 1 + 1 + 1 + 1, co5) :: (L + 1 + 1 + 1 + 1 + 1 + 1 + 1, co6) :: rest))) kvsOf (fun i ds => ds.map PE.row = (es.map PE.row).take i ∧ (∀ e ∈ ds, e.Ok w ts) ∧ Apart (ledOf ds) ((pf, po) :: (tl, W.listOf ti.toArray te) :: (nl, W.listOf ni.toArray ne) :: ((L + 1, co0) :: (L + 1 + 1, co1) :: (L + 1 + 1 + 1, co2) :: (L + 1 + 1 + 1 + 1, co3) :: (L + 1 + 1 + 1 + 1 + 1, co4) :: (L + 1 + 1 + 1 + 1 + 1 + 1, co5) :: (L + 1 + 1 + 1 + 1 + 1 + 1 + 1, co6) :: rest))) [] (by rfl) (by with_unfolding_all rfl) (by decide) (by rfl) (by decide) (by rfl) ?hit (fun c => List.mem_append_right _ (.head _)) dpo lpo F N (fun p hp => hp) T.nolimit rfl ⟨rfl, fun _ h => (by cases h), fun _ h => (by cases h)⟩ ?hlen ?turn ?fin)
  case hit =>
    intro Q' hq
    k_dflt (refine' nameX_L ?F ?v ?h ?a ?b; (case b => rfl); (case F => exact F); (case a => rfl); (case v => rfl); exact hq)
  case hlen =>
    intro i ds hJ
    have h1 := congrArg List.length hJ.1
    rw [List.length_map, List.length_take, List.length_map] at h1
    rw [kvsOf, List.length_map, PySem.sizeLine_eq]
    omega
  case turn =>
    intro I i ds g2 lI hi hJ m₂ C oC D oD oI h tk2 E' hnm hC F2 N2 hoD off nq
    clear F N
    obtain ⟨k, y, v, hk, hv, hx⟩ := hnm
    obtain ⟨e, he, rfl⟩ : ∃ e, es[i]? = some e ∧ k = e.key := by
      unfold kvsOf at hk
      rw [List.getElem?_map] at hk
      cases hq : es[i]? with
      | none => rw [hq] at hk; cases hk
      | some e => rw [hq] at hk; cases hk; exact ⟨e, rfl, rfl⟩
    obtain ⟨t, rfl⟩ := Value.isInt_shape hv
    have de := due e (List.mem_of_getElem? he)
    obtain ⟨b0, b1⟩ := de.k
    have b2 : e.key < (ts.length : Int) := by rw [lt]; exact b1
    obtain ⟨bs, hbs⟩ : ∃ bs : Led, bs = ledOf ds ++ ((pf, po) :: (tl, W.listOf ti.toArray te) :: (nl, W.listOf ni.toArray ne) :: ((L + 1, co0) :: (L + 1 + 1, co1) :: (L + 1 + 1 + 1, co2) :: (L + 1 + 1 + 1 + 1, co3) :: (L + 1 + 1 + 1 + 1 + 1, co4) :: (L + 1 + 1 + 1 + 1 + 1 + 1, co5) :: (L + 1 + 1 + 1 + 1 + 1 + 1 + 1, co6) :: rest)) := ⟨_, rfl⟩
    have inB : ∀ p ∈ ((pf, po) :: (tl, W.listOf ti.toArray te) :: (nl, W.listOf ni.toArray ne) :: ((L + 1, co0) :: (L + 1 + 1, co1) :: (L + 1 + 1 + 1, co2) :: (L + 1 + 1 + 1 + 1, co3) :: (L + 1 + 1 + 1 + 1 + 1, co4) :: (L + 1 + 1 + 1 + 1 + 1 + 1, co5) :: (L + 1 + 1 + 1 + 1 + 1 + 1 + 1, co6) :: rest)), p ∈ bs := fun p hp => by rw [hbs]; exact List.mem_append_right _ hp
    replace N2 : News g L h ((I, oI) :: (C, oC) :: (D, oD) :: bs) := (by rw [hbs]; exact N2)
    replace N2 := sub_news N2 (l' := (L + 1 + 1, co1) :: (L + 1 + 1 + 1 + 1 + 1 + 1 + 1, co6) :: (tl, W.listOf ti.toArray te) :: (nl, W.listOf ni.toArray ne) :: (I, oI) :: (C, oC) :: (D, oD) :: bs) (all_cons.mpr ⟨.tail _ (.tail _ (.tail _ (inB _ (by k_dflt k_mem)))), all_cons.mpr ⟨.tail _ (.tail _ (.tail _ (inB _ (by k_dflt k_mem)))), all_cons.mpr ⟨.tail _ (.tail _ (.tail _ (inB _ (.tail _ (.head _))))), all_cons.mpr ⟨.tail _ (.tail _ (.tail _ (inB _ (.tail _ (.tail _ (.head _)))))), fun _ h => h⟩⟩⟩⟩)
    k_steps
    refine Stop.mk ?_
    (k_dflt (refine' Spec.use0 (due_spec e.key (ts.getD e.key.toNat 0) _ _ nl ne ni ns hn ln de.k de.h de.le hb) ?uB ?uF ?uX ?uN ?uT ?uk ?u1 ?u2 ?u3 ?ud ?uu ?ue ?uK; (case uB => k_asm); (case uF => k_asm); (case uX => k_asm); (case uN => k_asm); (case uT => k_asm); (case uk => first | exact rfl | assumption); (case u1 => assumption); (case u2 => assumption); (case u3 => assumption); (case ud => ktr_room); (case uu => ktr_units); (case ue => walk_at "sub"); k_whole)); (intro v' mu' new' h' tk' hR' F' N' ap'); (obtain ⟨f, f2, o', t9, ta, tb, tx, ty, e1', e2', hd9, lo9, e3'⟩ := hR'); subst e1'; subst e2'; subst e3'; (dsimp only [List.nil_append, List.cons_append] at N')
    show GdE _ _ _ _ _ _ _ _ _ _ _ _ _
    obtain ⟨e', r1, r2, r3, r4, r5, r6⟩ : ∃ e' : PE, e'.row = e.row ∧ e'.ta = f ∧ e'.da = f2 ∧ e'.od = o' ∧ e'.led = [(f, statO (dueW e.key (ts.getD e.key.toNat 0)) (dueS e.key (ts.getD e.key.toNat 0)) (dueN e.key (ts.getD e.key.toNat 0)) (dueT ns e.key (ts.getD e.key.toNat 0)) ta tb tx ty f2), (f2, o')] ∧ e'.Ok w ts :=
      ⟨⟨e.key, f, f2, dueW e.key (ts.getD e.key.toNat 0), dueS e.key (ts.getD e.key.toNat 0), dueN e.key (ts.getD e.key.toNat 0), dueT ns e.key (ts.getD e.key.toNat 0), ta, tb, tx, ty, o'⟩, congrArg (Prod.mk e.key) de.v.symm, rfl, rfl, rfl, rfl, ⟨⟨t9, hd9⟩, lo9⟩⟩
    rw [← r5] at ap'
    replace N' := sub_news N' (l' := (I, oI) :: (C, oC) :: (D, oD) :: (e'.led ++ bs)) (fun p hp => by
      rw [r5] at hp
      simp only [List.cons_append, List.nil_append, List.mem_cons] at hp ⊢
      rcases hp with h | h | h | h | h | h <;> simp only [h, true_or, or_true])
    have hk' : e'.key = e.key := congrArg Prod.fst r1
    have hnew : ∀ q ∈ ds, q.key ≠ e'.key := by rw [hk']; exact take_fresh hJ.1 nd he
    have hled : ∀ p ∈ ledOf (ds ++ [e']), p ∈ e'.led ∨ p ∈ ledOf ds := fun p hp => by
      rw [ledOf_snoc] at hp
      rcases List.mem_append.mp hp with h | h
      · exact Or.inr h
      · exact Or.inl h
    refine ⟨_, _, ds ++ [e'], rfl, F', sub_news N' (fun p hp => ?_), LCg.Off3.of (fun p hp => ?_), e'.key, by rw [hk']; exact intKind_is _ _ _ _, ?_, ?_, ?_, ?_⟩
    · rcases List.mem_cons.mp hp with h | hp
      · rw [h]; exact .head _
      rcases List.mem_cons.mp hp with h | hp
      · rw [h]; exact .tail _ (.head _)
      rcases List.mem_cons.mp hp with h | hp
      · rw [h]; exact .tail _ (.tail _ (.head _))
      rw [hbs]
      rcases List.mem_append.mp hp with h | h
      · rcases hled p h with h | h
        · exact .tail _ (.tail _ (.tail _ (List.mem_append_left _ h)))
        · exact .tail _ (.tail _ (.tail _ (List.mem_append_right _ (List.mem_append_left _ h))))
      · exact .tail _ (.tail _ (.tail _ (List.mem_append_right _ (List.mem_append_right _ h))))
    · have o3 := LCg.Off3.mem off
      rcases List.mem_append.mp hp with h | h
      · rcases hled p h with h | h
        · exact ⟨(ap' (I, oI) (by k_dflt k_mem) p h).symm, (ap' (C, oC) (by k_dflt k_mem) p h).symm, (ap' (D, oD) (by k_dflt k_mem) p h).symm⟩
        · exact o3 p (List.mem_append_left _ h)
      · exact o3 p (List.mem_append_right _ h)
    · rw [← r2, stored_kvs, putE_new hnew]
    · rw [List.map_append, hJ.1, List.take_add_one, List.getElem?_map, he]
      show _ ++ [e'.row] = _ ++ [e.row]
      rw [r1]
    · intro q hq
      rcases List.mem_append.mp hq with h | h
      · exact hJ.2.1 q h
      · rw [List.mem_singleton.mp h]; exact r6
    · intro p hp q hq
      rcases hled p hp with h | h
      · exact (ap' q (by have := inB q hq; simp only [List.mem_cons]; exact Or.inr (Or.inr (Or.inr (Or.inr (Or.inr (Or.inr (Or.inr this))))))) p h).symm
      · exact hJ.2.2 p h q hq
  case fin =>
    intro ds D oD h tk2 hJ hoD loD F2 N2
    clear F N
    obtain ⟨j1, j2, j3⟩ := hJ
    rw [kvsOf, List.length_map, List.take_of_length_le (by rw [List.length_map]; exact Nat.le_refl _)] at j1
    have inR : ∀ q ∈ ledOf es, q ∈ ((pf, po) :: (tl, W.listOf ti.toArray te) :: (nl, W.listOf ni.toArray ne) :: ((L + 1, co0) :: (L + 1 + 1, co1) :: (L + 1 + 1 + 1, co2) :: (L + 1 + 1 + 1 + 1, co3) :: (L + 1 + 1 + 1 + 1 + 1, co4) :: (L + 1 + 1 + 1 + 1 + 1 + 1, co5) :: (L + 1 + 1 + 1 + 1 + 1 + 1 + 1, co6) :: rest)) := fun q hq => .tail _ (.tail _ (.tail _ (.tail _ (.tail _ (.tail _ (.tail _ (.tail _ (.tail _ (.tail _ (hes q hq))))))))))
    have ndD : (ds.map PE.key).Nodup := by rw [keys_rows j1, ← keys_rows (rfl : es.map PE.row = es.map PE.row)]; exact nd
    k_steps
    refine Stop.mk ?_
    k_dflt (refine ne_prof N2 (.tail _ (List.mem_append_right _ (.head _))) (.head _) dpo hoD lpo loD (fun q hq => .tail _ (List.mem_append_right _ (inR q hq))) (fun q hq => .tail _ (List.mem_append_left _ hq)) okE j2 j1 ndD (fun p hp q hq => j3 p hp q (inR q hq)) (show un + 64 < cLine by omega) ?_)
    replace N2 := sub_news N2 (l' := ((pf, po) :: (tl, W.listOf ti.toArray te) :: (nl, W.listOf ni.toArray ne) :: ((L + 1, co0) :: (L + 1 + 1, co1) :: (L + 1 + 1 + 1, co2) :: (L + 1 + 1 + 1 + 1, co3) :: (L + 1 + 1 + 1 + 1 + 1, co4) :: (L + 1 + 1 + 1 + 1 + 1 + 1, co5) :: (L + 1 + 1 + 1 + 1 + 1 + 1 + 1, co6) :: rest))) (fun p hp => .tail _ (List.mem_append_right _ hp))
    clear inR j3
    k_steps
    refine Stop.mk ?_
    rename Fr _ _ _ _ => F6
    rename News _ _ _ _ => N6
    exact k _ _ F6 N6
end law11
theorem law11 {w : World} {z : Env0} {dp : Nat} {un : Nat} {gd : Option (List Code)} {a : Addr} {ccd : Value} {outer : List Env} {A₀ : Around} {base : Heap} {g : Heap} {L : Nat} {s : Shared} {tk : Nat} {h₁ : Heap} {Q : Flow → Shared → Prop} {E : Value → Shared → Prop} (B : Below A₀ base outer g) (X : (hd.heap_1 w.params).In g) (T : Top z.p z.loose z.mean z.mg z.mb g) (cL : CodeHd base 166 162) (cY : CodeHd base 145 141) (cS : CodeHd base 138 134) (hdp : dp + 80 < recursionLimit) (hun : un + 300 < cLine) (hL : 162 < L) {nl : Nat} {ne : Nat} {tl : Nat} {te : Nat} {pf : Nat} {ni : List Value} {ti : List Value} {ns : List Int} {ts : List Int} {po : Obj} {es : List PE} (hn : IntsAre ni ns) (ht : IntsAre ti ts) (ln : ns.length = 4) (lt : ts.length = 16) (hb : ∀ n ∈ ns, 0 ≤ n ∧ n < 1000000000) (dpo : po.IsDictOf (IK w) (kvsOf es)) (lpo : (pf == sysModules) = false) (okE : ∀ e ∈ es, e.Ok w ts) (due : ∀ e ∈ es, DueOk ts ns e) (nd : (es.map PE.key).Nodup) (len : es.length ≤ 16) {rest : Led} {u : Str → Option Value} {co0 : Obj} {co1 : Obj} {co2 : Obj} {co3 : Obj} {co4 : Obj} {co5 : Obj} {co6 : Obj} (cd1 : co1.data = Data.cell (some (.ref nl))) (cd6 : co6.data = Data.cell (some (.ref tl))) (F : Fr g L h₁ (kstB u [(Str.ofString "profile", .ref pf)])) (N : News g L h₁ ((pf, po) :: (tl, W.listOf ti.toArray te) :: (nl, W.listOf ni.toArray ne) :: ((L + 1, co0) :: (L + 1 + 1, co1) :: (L + 1 + 1 + 1, co2) :: (L + 1 + 1 + 1 + 1, co3) :: (L + 1 + 1 + 1 + 1 + 1, co4) :: (L + 1 + 1 + 1 + 1 + 1 + 1, co5) :: (L + 1 + 1 + 1 + 1 + 1 + 1 + 1, co6) :: rest))) (hes : ∀ q ∈ ledOf es, q ∈ rest) (k : ∀ (h' : Heap) (tk' : Nat), Fr g L h' (kstB u [(Str.ofString "profile", .ref pf)]) → News g L h' ((pf, po) :: (tl, W.listOf ti.toArray te) :: (nl, W.listOf ni.toArray ne) :: ((L + 1, co0) :: (L + 1 + 1, co1) :: (L + 1 + 1 + 1, co2) :: (L + 1 + 1 + 1 + 1, co3) :: (L + 1 + 1 + 1 + 1 + 1, co4) :: (L + 1 + 1 + 1 + 1 + 1 + 1, co5) :: (L + 1 + 1 + 1 + 1 + 1 + 1 + 1, co6) :: rest)) → wpAny (model PySem.Challenge.rw_wf0038_01.prog w) (lawA dp un gd L a ccd outer) (execs (lawRest 12) (lawE L a ccd)) Q E { s with heap := h', toks := tk' }) : wpAny (model PySem.Challenge.rw_wf0038_01.prog w) (lawA dp un gd L a ccd outer) (execs (lawRest 11) (lawE L a ccd)) Q E { s with heap := h₁, toks := tk } := Pk.all (T := law11.epsT) (ne := law11.eN) (Q := law11.epsQ) (by with_unfolding_all exact law11.eC) (w, z, dp, un, gd, a, ccd, outer, A₀, base, g, L, s, tk, h₁, Q, E, nl, ne, tl, te, pf, ni, ti, ns, ts, po, es, rest, u, co0, co1, co2, co3, co4, co5, co6) B X T cL cY cS hdp hun hL hn ht ln lt hb dpo lpo okE due nd len cd1 cd6 F N hes k
end
section
variable {w : World} {z : Env0} {dp un : Nat} {gd : Option (List Code)} {a : Addr} {ccd : Value} {outer : List Env} {A₀ : Around} {base g : Heap} {L : Nat} {s : Shared} {tk : Nat} {h₁ : Heap} {Q : Flow → Shared → Prop} {E : Value → Shared → Prop}
end
end
section
section
open PyProof.Rows.LCg
variable {prog : Program} {w : World} {A : Around} {E : Value → Shared → Prop} {s : Shared} {h₀ : Heap} {L : Addr} {m : Str → Option Value} {env : Env}
  {ct elt iter : Expr} {scope : Scope} {cl : List (Str × Addr)} {pos : Pos} {Fin' : Shared → List Value → Led → Prop} {all : Led} {x : Str} {px : Pos} {K : Type} [DecidableEq K] {knd : KeyKind prog w K} {kvs : List (K × Value)} {d : Addr} {od : Obj}
theorem gck_vals0 {vw : Addr} (J : Nat → List Value → Prop) (hv : s.heap.IsValuesView vw d) (hm : (d, od) ∈ all) (hd : od.IsDictOf knd kvs) (hsz : kvs.length ≤ 64) (F : Fr h₀ L s.heap m) (N : News h₀ L s.heap all) (hJ₀ : J 0 [])
    (hh : A.handled = none) (hcell : ∀ y ∈ scope.names, y.2 ≠ .cell) (hkind : scope.kind = .function) (hx : scope.names.lookup x = some .local)
    (turn : ∀ (I i : Nat) (ys : List Value) (k : K) (v : Value), (∀ p ∈ all, p.1 < I) → kvs[i]? = some (k, v) → J i ys → ∀ (m₂ : Str → Option Value) (C : Nat) (oC : Obj) (D : Nat) (oI : Obj) (h : Heap) (tk : Nat) (E' : Value → Shared → Prop), m₂ x = some v → NsObj oC m₂ → Fr h₀ L h m → News h₀ L h ((I, oI) :: (C, oC) :: (D, lst ys) :: all) → Off3 I C D all → ((@Ne Nat I C) ∧ (@Ne Nat I D) ∧ (@Ne Nat C D)) →
      wpAny (model prog w) A (eval elt (compEnvC scope cl C env)) (fun y s₃ => GcK h₀ L m { s with heap := h, toks := tk } ((I, oI) :: (C, oC) :: (D, lst ys) :: all) (J (i + 1) (ys ++ [y])) s₃) E' { s with heap := h, toks := tk })
    (fin : ∀ ys g, J kvs.length ys → Fin' { s with heap := g } ys all) :
    wpAny (model prog w) A (pyIter (.ref vw)) (GcIt prog w A h₀ L m env elt (.Name x px) iter [] scope cl pos E Fin') E s := by
  refine gc_vals (fun _ => all) (fun ys => ys) J [] hh hv (fun _ => hm) hd (by rw [PySem.sizeLine_eq]; omega) hcell hkind hx F N (fun _ h => h) rfl hJ₀ (fun I i ys lI hlt hJ => ?_) (fun ys g hJ => fin ys g hJ)
  refine gck_one0 fun m₂ C oC D oI h tk E' hnm hC F N off ne => ?_
  obtain ⟨k, v, hk, hx'⟩ := hnm
  exact turn I i ys k v lI hk hJ m₂ C oC D oI h tk E' hx' hC F N off ne
theorem gck_keys1 (J : Nat → List Value → Prop) (hm : (d, od) ∈ all) (hd : od.IsDictOf knd kvs) (lo : (d == sysModules) = false) (hsz : kvs.length ≤ 64) (F : Fr h₀ L s.heap m) (N : News h₀ L s.heap all) (hJ₀ : J 0 [])
    (hh : A.handled = none) (hcell : ∀ y ∈ scope.names, y.2 ≠ .cell) (hkind : scope.kind = .function) (hx : scope.names.lookup x = some .local)
    (turn : ∀ (I i : Nat) (ys : List Value) (k : K) (y v : Value), (∀ p ∈ all, p.1 < I) → kvs[i]? = some (k, y) → knd.is k v = true → J i ys → ∀ (m₂ : Str → Option Value) (C : Nat) (oC : Obj) (D : Nat) (oI : Obj) (h : Heap) (tk : Nat) (E' : Value → Shared → Prop), m₂ x = some v → NsObj oC m₂ → Fr h₀ L h m → News h₀ L h ((I, oI) :: (C, oC) :: (D, lst ys) :: all) → Off3 I C D all → ((@Ne Nat I C) ∧ (@Ne Nat I D) ∧ (@Ne Nat C D)) →
      wpAny (model prog w) A (isTrue ct (compEnvC scope cl C env) (eval ct (compEnvC scope cl C env))) (fun ok s' => if ok = true then
        wpAny (model prog w) A (eval elt (compEnvC scope cl C env)) (fun y s₃ => GcK h₀ L m { s with heap := h, toks := tk } ((I, oI) :: (C, oC) :: (D, lst ys) :: all) (J (i + 1) (ys ++ [y])) s₃) E' s'
        else GcK h₀ L m { s with heap := h, toks := tk } ((I, oI) :: (C, oC) :: (D, lst ys) :: all) (J (i + 1) ys) s') E' { s with heap := h, toks := tk })
    (fin : ∀ ys g, J kvs.length ys → Fin' { s with heap := g } ys all) :
    wpAny (model prog w) A (pyIter (.ref d)) (GcIt prog w A h₀ L m env elt (.Name x px) iter [ct] scope cl pos E Fin') E s := by
  refine gc_keys (knd := knd) (fun _ => all) (fun ys => ys) J [] hh (fun _ => hm) hd lo (by rw [PySem.sizeLine_eq]; omega) hcell hkind hx F N (fun _ h => h) rfl hJ₀ (fun I i ys lI hlt hJ => ?_) (fun ys g hJ => fin ys g hJ)
  refine gck_one1 fun m₂ C oC D oI h tk E' hnm hC F N off ne => ?_
  obtain ⟨k, y, v, hk, hv, hx'⟩ := hnm
  exact turn I i ys k y v lI hk hv hJ m₂ C oC D oI h tk E' hx' hC F N off ne
end
theorem kvs_at {es : List PE} {i : Nat} {k : Int} {v : Value} (hk : (kvsOf es)[i]? = some (k, v)) : ∃ e, es[i]? = some e ∧ k = e.key ∧ v = .ref e.ta := by
  unfold kvsOf at hk
  rw [List.getElem?_map] at hk
  cases hq : es[i]? with
  | none => rw [hq] at hk; cases hk
  | some e => rw [hq] at hk; cases hk; exact ⟨e, rfl, rfl, rfl⟩
section
variable {w : World} {z : Env0} {dp un : Nat} {gd : Option (List Code)} {a : Addr} {ccd : Value} {outer : List Env} {A₀ : Around} {base g : Heap} {L : Nat} {s : Shared} {tk : Nat} {h₁ : Heap} {Q : Flow → Shared → Prop} {E : Value → Shared → Prop}
end
section
namespace law12
noncomputable def epsP : World → Env0 → Nat → Nat → (Option (List Code)) → Addr → Value → (List Env) → Around → Heap → Heap → Nat → Shared → Nat → Heap → (Flow → Shared → Prop) → (Value → Shared → Prop) → Nat → (List Int) → Obj → (List PE) → Led → (Str → Option Value) → Obj → Obj → Obj → Obj → Obj → Obj → Obj → Prop := fun w z dp un gd a ccd outer A₀ base g L s tk h₁ Q E pf ts po es rest u co0 co1 co2 co3 co4 co5 co6 => ∀ (B : Below A₀ base outer g) (X : (hd.heap_1 w.params).In g) (T : Top z.p z.loose z.mean z.mg z.mb g) (cL : CodeHd base 166 162) (cY : CodeHd base 145 141) (cS : CodeHd base 138 134) (hdp : dp + 80 < recursionLimit) (hun : un + 300 < cLine) (hL : 162 < L) (dpo : po.IsDictOf (IK w) (kvsOf es)) (lpo : (pf == sysModules) = false) (okE : ∀ e ∈ es, e.Ok w ts) (len : es.length ≤ 16) (hsum : (es.map PE.a).sum = 16) (F : Fr g L h₁ (kstB u [(Str.ofString "profile", .ref pf)])) (N : News g L h₁ ((pf, po) :: ((L + 1, co0) :: (L + 1 + 1, co1) :: (L + 1 + 1 + 1, co2) :: (L + 1 + 1 + 1 + 1, co3) :: (L + 1 + 1 + 1 + 1 + 1, co4) :: (L + 1 + 1 + 1 + 1 + 1 + 1, co5) :: (L + 1 + 1 + 1 + 1 + 1 + 1 + 1, co6) :: rest))) (hes : ∀ q ∈ ledOf es, q ∈ rest) (k : ∀ (h' : Heap) (tk' : Nat), Fr g L h' (kstB u [(Str.ofString "profile", .ref pf)]) → News g L h' ((pf, po) :: ((L + 1, co0) :: (L + 1 + 1, co1) :: (L + 1 + 1 + 1, co2) :: (L + 1 + 1 + 1 + 1, co3) :: (L + 1 + 1 + 1 + 1 + 1, co4) :: (L + 1 + 1 + 1 + 1 + 1 + 1, co5) :: (L + 1 + 1 + 1 + 1 + 1 + 1 + 1, co6) :: rest)) → wpAny (model PySem.Challenge.rw_wf0038_01.prog w) (lawA dp un gd L a ccd outer) (execs (lawRest 13) (lawE L a ccd)) Q E { s with heap := h', toks := tk' }), wpAny (model PySem.Challenge.rw_wf0038_01.prog w) (lawA dp un gd L a ccd outer) (execs (lawRest 12) (lawE L a ccd)) Q E { s with heap := h₁, toks := tk }
noncomputable abbrev epsT : Type := World × Env0 × Nat × Nat × (Option (List Code)) × Addr × Value × (List Env) × Around × Heap × Heap × Nat × Shared × Nat × Heap × (Flow → Shared → Prop) × (Value → Shared → Prop) × Nat × (List Int) × Obj × (List PE) × Led × (Str → Option Value) × Obj × Obj × Obj × Obj × Obj × Obj × Obj
noncomputable abbrev epsQ : epsT → Prop := fun d => epsP d.1 d.2.1 d.2.2.1 d.2.2.2.1 d.2.2.2.2.1 d.2.2.2.2.2.1 d.2.2.2.2.2.2.1 d.2.2.2.2.2.2.2.1 d.2.2.2.2.2.2.2.2.1 d.2.2.2.2.2.2.2.2.2.1 d.2.2.2.2.2.2.2.2.2.2.1 d.2.2.2.2.2.2.2.2.2.2.2.1 d.2.2.2.2.2.2.2.2.2.2.2.2.1 d.2.2.2.2.2.2.2.2.2.2.2.2.2.1 d.2.2.2.2.2.2.2.2.2.2.2.2.2.2.1 d.2.2.2.2.2.2.2.2.2.2.2.2.2.2.2.1 d.2.2.2.2.2.2.2.2.2.2.2.2.2.2.2.2.1 d.2.2.2.2.2.2.2.2.2.2.2.2.2.2.2.2.2.1 d.2.2.2.2.2.2.2.2.2.2.2.2.2.2.2.2.2.2.1 d.2.2.2.2.2.2.2.2.2.2.2.2.2.2.2.2.2.2.2.1 d.2.2.2.2.2.2.2.2.2.2.2.2.2.2.2.2.2.2.2.2.1 d.2.2.2.2.2.2.2.2.2.2.2.2.2.2.2.2.2.2.2.2.2.1 d.2.2.2.2.2.2.2.2.2.2.2.2.2.2.2.2.2.2.2.2.2.2.1 d.2.2.2.2.2.2.2.2.2.2.2.2.2.2.2.2.2.2.2.2.2.2.2.1 d.2.2.2.2.2.2.2.2.2.2.2.2.2.2.2.2.2.2.2.2.2.2.2.2.1 d.2.2.2.2.2.2.2.2.2.2.2.2.2.2.2.2.2.2.2.2.2.2.2.2.2.1 d.2.2.2.2.2.2.2.2.2.2.2.2.2.2.2.2.2.2.2.2.2.2.2.2.2.2.1 d.2.2.2.2.2.2.2.2.2.2.2.2.2.2.2.2.2.2.2.2.2.2.2.2.2.2.2.1 d.2.2.2.2.2.2.2.2.2.2.2.2.2.2.2.2.2.2.2.2.2.2.2.2.2.2.2.2.1 d.2.2.2.2.2.2.2.2.2.2.2.2.2.2.2.2.2.2.2.2.2.2.2.2.2.2.2.2.2
theorem eN : Nonempty epsT := by walk_at "ne_all"
@[irreducible] noncomputable def eK : epsT := Pk epsT eN epsQ
@[irreducible] noncomputable def a := eK.2.2.2.2.2.1
@[irreducible] noncomputable def g := eK.2.2.2.2.2.2.2.2.2.2.1
@[irreducible] noncomputable def L := eK.2.2.2.2.2.2.2.2.2.2.2.1
@[irreducible] noncomputable def pf := eK.2.2.2.2.2.2.2.2.2.2.2.2.2.2.2.2.2.1
@[irreducible] noncomputable def po := eK.2.2.2.2.2.2.2.2.2.2.2.2.2.2.2.2.2.2.2.1
@[irreducible] noncomputable def es := eK.2.2.2.2.2.2.2.2.2.2.2.2.2.2.2.2.2.2.2.2.1
@[irreducible] noncomputable def rest := eK.2.2.2.2.2.2.2.2.2.2.2.2.2.2.2.2.2.2.2.2.2.1
@[irreducible] noncomputable def co0 := eK.2.2.2.2.2.2.2.2.2.2.2.2.2.2.2.2.2.2.2.2.2.2.2.1
@[irreducible] noncomputable def co1 := eK.2.2.2.2.2.2.2.2.2.2.2.2.2.2.2.2.2.2.2.2.2.2.2.2.1
@[irreducible] noncomputable def co2 := eK.2.2.2.2.2.2.2.2.2.2.2.2.2.2.2.2.2.2.2.2.2.2.2.2.2.1
@[irreducible] noncomputable def co3 := eK.2.2.2.2.2.2.2.2.2.2.2.2.2.2.2.2.2.2.2.2.2.2.2.2.2.2.1
@[irreducible] noncomputable def co4 := eK.2.2.2.2.2.2.2.2.2.2.2.2.2.2.2.2.2.2.2.2.2.2.2.2.2.2.2.1
@[irreducible] noncomputable def co5 := eK.2.2.2.2.2.2.2.2.2.2.2.2.2.2.2.2.2.2.2.2.2.2.2.2.2.2.2.2.1
@[irreducible] noncomputable def co6 := eK.2.2.2.2.2.2.2.2.2.2.2.2.2.2.2.2.2.2.2.2.2.2.2.2.2.2.2.2.2
theorem eC : epsP eK.1 eK.2.1 eK.2.2.1 eK.2.2.2.1 eK.2.2.2.2.1 a eK.2.2.2.2.2.2.1 eK.2.2.2.2.2.2.2.1 eK.2.2.2.2.2.2.2.2.1 eK.2.2.2.2.2.2.2.2.2.1 g L eK.2.2.2.2.2.2.2.2.2.2.2.2.1 eK.2.2.2.2.2.2.2.2.2.2.2.2.2.1 eK.2.2.2.2.2.2.2.2.2.2.2.2.2.2.1 eK.2.2.2.2.2.2.2.2.2.2.2.2.2.2.2.1 eK.2.2.2.2.2.2.2.2.2.2.2.2.2.2.2.2.1 pf eK.2.2.2.2.2.2.2.2.2.2.2.2.2.2.2.2.2.2.1 po es rest eK.2.2.2.2.2.2.2.2.2.2.2.2.2.2.2.2.2.2.2.2.2.2.1 co0 co1 co2 co3 co4 co5 co6 := by
  unfold epsP
  intro B X T cL cY cS hdp hun hL dpo lpo okE len hsum F N hes k
  have hb' := (rfl : lawRest 12 = lawRest 12)
  have hs' := (rfl : lawSc = lawSc)
  conv at hb' => rhs; whnf
  conv at hs' => rhs; whnf
  unfold lawA lawE lawCl
  rw [hb', hs']
  clear hb' hs'
  refine wpAny_execs_cons ?_
  k_with_none
  k_with "execs cons If" => (refine Stop.go ?_)
  k_with "eval ListComp" => (refine Stop.go ?_)
  k_with "mycall" => (refine Stop.go ?_)
  k_steps
  refine Stop.mk ?_
  k_dflt (refine gc_eval (by k_asm) (by with_unfolding_all rfl) (by rfl) (by decide) ?_)
  (with_unfolding_all (refine MethodCall_ ?_))
  k_dflt (refine' nameX_L F ?v ?h ?a ?b; (case b => rfl); (case a => rfl); (case v => rfl))
  (with_unfolding_all ((refine kdl_method (knd := PySem.intKind _ _) PySem.F.slot_dict_values PySem.F.type_dict_values N (.head _) dpo ?_); (refine callWith_method0 ?_); (refine kta_callValues (knd := PySem.intKind _ _) F N (.head _) dpo lpo ?_)))
  intro h' hv' F1 N1
  clear F N
  refine gck_vals0 (knd := PySem.intKind _ _) (fun i ys => IntsAre ys ((es.map PE.a).take i)) hv' (.head _) dpo (by rw [kvsOf, List.length_map]; omega) F1 N1 .nil (by rfl) (by decide) (by rfl) (by rfl) ?turn ?fin
  case turn =>
    intro I i ys kk v lI hk hJ m₂ C oC D oI h tk2 E' hx hC F2 N2 off nq
    clear F1 N1
    obtain ⟨e, he, rfl, rfl⟩ := kvs_at hk
    have heM := List.mem_of_getElem? he
    obtain ⟨t9, hd9⟩ := (okE e heM).dict
    have i1 : (e.ta, statO e.a e.b e.x e.y e.t1 e.t2 e.t3 e.t4 e.da) ∈ rest := hes _ (List.mem_flatMap.mpr ⟨e, heM, .head _⟩)
    have i2 : (e.da, e.od) ∈ rest := hes _ (List.mem_flatMap.mpr ⟨e, heM, .tail _ (.head _)⟩)
    have inT : ∀ p ∈ rest, p ∈ ((I, oI) :: (C, oC) :: (D, LCg.lst ys) :: (pf, po) :: ((L + 1, co0) :: (L + 1 + 1, co1) :: (L + 1 + 1 + 1, co2) :: (L + 1 + 1 + 1 + 1, co3) :: (L + 1 + 1 + 1 + 1 + 1, co4) :: (L + 1 + 1 + 1 + 1 + 1 + 1, co5) :: (L + 1 + 1 + 1 + 1 + 1 + 1 + 1, co6) :: rest)) := fun p hp => .tail _ (.tail _ (.tail _ (.tail _ (.tail _ (.tail _ (.tail _ (.tail _ (.tail _ (.tail _ (.tail _ hp))))))))))
    replace N2 := sub_news N2 (l' := (e.ta, statO e.a e.b e.x e.y e.t1 e.t2 e.t3 e.t4 e.da) :: (e.da, e.od) :: (I, oI) :: (C, oC) :: (D, LCg.lst ys) :: (pf, po) :: ((L + 1, co0) :: (L + 1 + 1, co1) :: (L + 1 + 1 + 1, co2) :: (L + 1 + 1 + 1 + 1, co3) :: (L + 1 + 1 + 1 + 1 + 1, co4) :: (L + 1 + 1 + 1 + 1 + 1 + 1, co5) :: (L + 1 + 1 + 1 + 1 + 1 + 1 + 1, co6) :: rest)) (all_cons.mpr ⟨inT _ i1, all_cons.mpr ⟨inT _ i2, fun _ h => h⟩⟩)
    k_steps
    refine Stop.mk ?_
    (k_dflt (refine' Spec.use0 (count_spec e.da e.od _ _ t9 hd9 (okE e heM).lo) ?uB ?uF ?uX ?uN ?uT ?uk ?u1 ?u2 ?u3 ?ud ?uu ?ue ?uK; (case uB => k_asm); (case uF => k_asm); (case uX => k_asm); (case uN => k_asm); (case uT => k_asm); (case uk => first | exact rfl | assumption); (case u1 => assumption); (case u2 => assumption); (case u3 => assumption); (case ud => ktr_room); (case uu => ktr_units); (case ue => walk_at "sub"); k_whole)); (intro v' mu' new' h' tk' hR' F' N' ap'); (obtain ⟨e1', e2', t2', e3'⟩ := hR'); subst e1'; subst e2'; subst e3'; (dsimp only [List.nil_append, List.cons_append] at N')
    show GcK _ _ _ _ _ _ _
    refine GcK.intro F' N' (fun _ h => .tail _ (.tail _ h)) ?_
    rw [List.take_add_one, List.getElem?_map, he]
    exact IntsAre.append hJ (.cons _ _ .nil)
  case fin =>
    intro ys g2 hJ D h2 tk2 F N o1'
    clear F1 N1 o1'
    rw [kvsOf, List.length_map, List.take_of_length_le (by rw [List.length_map]; exact Nat.le_refl _)] at hJ
    replace N := (show News g _ h2 ((D, W.listOf ys.toArray ys.length) :: _) from N)
    have hyl : (es.map PE.a).length ≤ 16 := by rw [List.length_map]; exact len
    k_steps
    · exact absurd hsum (by assumption)
    refine Stop.mk ?_
    rename Fr _ _ _ _ => F6
    rename News _ _ _ _ => N6
    exact k _ _ F6 (sub_news N6 fun _ h => .tail _ h)
end law12
theorem law12 {w : World} {z : Env0} {dp : Nat} {un : Nat} {gd : Option (List Code)} {a : Addr} {ccd : Value} {outer : List Env} {A₀ : Around} {base : Heap} {g : Heap} {L : Nat} {s : Shared} {tk : Nat} {h₁ : Heap} {Q : Flow → Shared → Prop} {E : Value → Shared → Prop} (B : Below A₀ base outer g) (X : (hd.heap_1 w.params).In g) (T : Top z.p z.loose z.mean z.mg z.mb g) (cL : CodeHd base 166 162) (cY : CodeHd base 145 141) (cS : CodeHd base 138 134) (hdp : dp + 80 < recursionLimit) (hun : un + 300 < cLine) (hL : 162 < L) {pf : Nat} {ts : List Int} {po : Obj} {es : List PE} (dpo : po.IsDictOf (IK w) (kvsOf es)) (lpo : (pf == sysModules) = false) (okE : ∀ e ∈ es, e.Ok w ts) (len : es.length ≤ 16) (hsum : (es.map PE.a).sum = 16) {rest : Led} {u : Str → Option Value} {co0 : Obj} {co1 : Obj} {co2 : Obj} {co3 : Obj} {co4 : Obj} {co5 : Obj} {co6 : Obj} (F : Fr g L h₁ (kstB u [(Str.ofString "profile", .ref pf)])) (N : News g L h₁ ((pf, po) :: ((L + 1, co0) :: (L + 1 + 1, co1) :: (L + 1 + 1 + 1, co2) :: (L + 1 + 1 + 1 + 1, co3) :: (L + 1 + 1 + 1 + 1 + 1, co4) :: (L + 1 + 1 + 1 + 1 + 1 + 1, co5) :: (L + 1 + 1 + 1 + 1 + 1 + 1 + 1, co6) :: rest))) (hes : ∀ q ∈ ledOf es, q ∈ rest) (k : ∀ (h' : Heap) (tk' : Nat), Fr g L h' (kstB u [(Str.ofString "profile", .ref pf)]) → News g L h' ((pf, po) :: ((L + 1, co0) :: (L + 1 + 1, co1) :: (L + 1 + 1 + 1, co2) :: (L + 1 + 1 + 1 + 1, co3) :: (L + 1 + 1 + 1 + 1 + 1, co4) :: (L + 1 + 1 + 1 + 1 + 1 + 1, co5) :: (L + 1 + 1 + 1 + 1 + 1 + 1 + 1, co6) :: rest)) → wpAny (model PySem.Challenge.rw_wf0038_01.prog w) (lawA dp un gd L a ccd outer) (execs (lawRest 13) (lawE L a ccd)) Q E { s with heap := h', toks := tk' }) : wpAny (model PySem.Challenge.rw_wf0038_01.prog w) (lawA dp un gd L a ccd outer) (execs (lawRest 12) (lawE L a ccd)) Q E { s with heap := h₁, toks := tk } := Pk.all (T := law12.epsT) (ne := law12.eN) (Q := law12.epsQ) (by with_unfolding_all exact law12.eC) (w, z, dp, un, gd, a, ccd, outer, A₀, base, g, L, s, tk, h₁, Q, E, pf, ts, po, es, rest, u, co0, co1, co2, co3, co4, co5, co6) B X T cL cY cS hdp hun hL dpo lpo okE len hsum F N hes k
end
section
variable {w : World} {z : Env0} {dp un : Nat} {gd : Option (List Code)} {a : Addr} {ccd : Value} {outer : List Env} {A₀ : Around} {base g : Heap} {L : Nat} {s : Shared} {tk : Nat} {h₁ : Heap} {Q : Flow → Shared → Prop} {E : Value → Shared → Prop}
end
section
namespace law13
noncomputable def epsP : World → Env0 → Nat → Nat → (Option (List Code)) → Addr → Value → (List Env) → Around → Heap → Heap → Nat → Shared → Nat → Heap → (Flow → Shared → Prop) → (Value → Shared → Prop) → Nat → Nat → Nat → Nat → Nat → (List Value) → (List Value) → (List Int) → (List Int) → Obj → (List PE) → Led → (Str → Option Value) → Obj → Obj → Obj → Obj → Obj → Obj → Obj → Prop := fun w z dp un gd a ccd outer A₀ base g L s tk h₁ Q E pf cl ce tl te ci ti cs ts po es rest u co0 co1 co2 co3 co4 co5 co6 => ∀ (B : Below A₀ base outer g) (X : (hd.heap_1 w.params).In g) (T : Top z.p z.loose z.mean z.mg z.mb g) (cL : CodeHd base 166 162) (cY : CodeHd base 145 141) (cS : CodeHd base 138 134) (hdp : dp + 80 < recursionLimit) (hun : un + 300 < cLine) (hL : 162 < L) (hc : IntsAre ci cs) (ht : IntsAre ti ts) (lc : cs.length = 16) (lt : ts.length = 16) (ag : Agrees cs ts) (dpo : po.IsDictOf (IK w) (kvsOf es)) (lpo : (pf == sysModules) = false) (len : es.length ≤ 16) (hsum : (es.map PE.b).sum = 0) (cd5 : co5.data = Data.cell (some (.ref cl))) (cd6 : co6.data = Data.cell (some (.ref tl))) (F : Fr g L h₁ (kstB u [(Str.ofString "profile", .ref pf)])) (N : News g L h₁ ((pf, po) :: (cl, W.listOf ci.toArray ce) :: (tl, W.listOf ti.toArray te) :: ((L + 1, co0) :: (L + 1 + 1, co1) :: (L + 1 + 1 + 1, co2) :: (L + 1 + 1 + 1 + 1, co3) :: (L + 1 + 1 + 1 + 1 + 1, co4) :: (L + 1 + 1 + 1 + 1 + 1 + 1, co5) :: (L + 1 + 1 + 1 + 1 + 1 + 1 + 1, co6) :: rest))) (hes : ∀ q ∈ ledOf es, q ∈ rest) (k : ∀ (h' : Heap) (tk' : Nat), Fr g L h' (kstB u [(Str.ofString "profile", .ref pf)]) → News g L h' ((pf, po) :: (cl, W.listOf ci.toArray ce) :: (tl, W.listOf ti.toArray te) :: ((L + 1, co0) :: (L + 1 + 1, co1) :: (L + 1 + 1 + 1, co2) :: (L + 1 + 1 + 1 + 1, co3) :: (L + 1 + 1 + 1 + 1 + 1, co4) :: (L + 1 + 1 + 1 + 1 + 1 + 1, co5) :: (L + 1 + 1 + 1 + 1 + 1 + 1 + 1, co6) :: rest)) → wpAny (model PySem.Challenge.rw_wf0038_01.prog w) (lawA dp un gd L a ccd outer) (execs (lawRest 14) (lawE L a ccd)) Q E { s with heap := h', toks := tk' }), wpAny (model PySem.Challenge.rw_wf0038_01.prog w) (lawA dp un gd L a ccd outer) (execs (lawRest 13) (lawE L a ccd)) Q E { s with heap := h₁, toks := tk }
noncomputable abbrev epsT : Type := World × Env0 × Nat × Nat × (Option (List Code)) × Addr × Value × (List Env) × Around × Heap × Heap × Nat × Shared × Nat × Heap × (Flow → Shared → Prop) × (Value → Shared → Prop) × Nat × Nat × Nat × Nat × Nat × (List Value) × (List Value) × (List Int) × (List Int) × Obj × (List PE) × Led × (Str → Option Value) × Obj × Obj × Obj × Obj × Obj × Obj × Obj
noncomputable abbrev epsQ : epsT → Prop := fun d => epsP d.1 d.2.1 d.2.2.1 d.2.2.2.1 d.2.2.2.2.1 d.2.2.2.2.2.1 d.2.2.2.2.2.2.1 d.2.2.2.2.2.2.2.1 d.2.2.2.2.2.2.2.2.1 d.2.2.2.2.2.2.2.2.2.1 d.2.2.2.2.2.2.2.2.2.2.1 d.2.2.2.2.2.2.2.2.2.2.2.1 d.2.2.2.2.2.2.2.2.2.2.2.2.1 d.2.2.2.2.2.2.2.2.2.2.2.2.2.1 d.2.2.2.2.2.2.2.2.2.2.2.2.2.2.1 d.2.2.2.2.2.2.2.2.2.2.2.2.2.2.2.1 d.2.2.2.2.2.2.2.2.2.2.2.2.2.2.2.2.1 d.2.2.2.2.2.2.2.2.2.2.2.2.2.2.2.2.2.1 d.2.2.2.2.2.2.2.2.2.2.2.2.2.2.2.2.2.2.1 d.2.2.2.2.2.2.2.2.2.2.2.2.2.2.2.2.2.2.2.1 d.2.2.2.2.2.2.2.2.2.2.2.2.2.2.2.2.2.2.2.2.1 d.2.2.2.2.2.2.2.2.2.2.2.2.2.2.2.2.2.2.2.2.2.1 d.2.2.2.2.2.2.2.2.2.2.2.2.2.2.2.2.2.2.2.2.2.2.1 d.2.2.2.2.2.2.2.2.2.2.2.2.2.2.2.2.2.2.2.2.2.2.2.1 d.2.2.2.2.2.2.2.2.2.2.2.2.2.2.2.2.2.2.2.2.2.2.2.2.1 d.2.2.2.2.2.2.2.2.2.2.2.2.2.2.2.2.2.2.2.2.2.2.2.2.2.1 d.2.2.2.2.2.2.2.2.2.2.2.2.2.2.2.2.2.2.2.2.2.2.2.2.2.2.1 d.2.2.2.2.2.2.2.2.2.2.2.2.2.2.2.2.2.2.2.2.2.2.2.2.2.2.2.1 d.2.2.2.2.2.2.2.2.2.2.2.2.2.2.2.2.2.2.2.2.2.2.2.2.2.2.2.2.1 d.2.2.2.2.2.2.2.2.2.2.2.2.2.2.2.2.2.2.2.2.2.2.2.2.2.2.2.2.2.1 d.2.2.2.2.2.2.2.2.2.2.2.2.2.2.2.2.2.2.2.2.2.2.2.2.2.2.2.2.2.2.1 d.2.2.2.2.2.2.2.2.2.2.2.2.2.2.2.2.2.2.2.2.2.2.2.2.2.2.2.2.2.2.2.1 d.2.2.2.2.2.2.2.2.2.2.2.2.2.2.2.2.2.2.2.2.2.2.2.2.2.2.2.2.2.2.2.2.1 d.2.2.2.2.2.2.2.2.2.2.2.2.2.2.2.2.2.2.2.2.2.2.2.2.2.2.2.2.2.2.2.2.2.1 d.2.2.2.2.2.2.2.2.2.2.2.2.2.2.2.2.2.2.2.2.2.2.2.2.2.2.2.2.2.2.2.2.2.2.1 d.2.2.2.2.2.2.2.2.2.2.2.2.2.2.2.2.2.2.2.2.2.2.2.2.2.2.2.2.2.2.2.2.2.2.2.1 d.2.2.2.2.2.2.2.2.2.2.2.2.2.2.2.2.2.2.2.2.2.2.2.2.2.2.2.2.2.2.2.2.2.2.2.2
theorem eN : Nonempty epsT := by walk_at "ne_all"
@[irreducible] noncomputable def eK : epsT := Pk epsT eN epsQ
@[irreducible] noncomputable def a := eK.2.2.2.2.2.1
@[irreducible] noncomputable def g := eK.2.2.2.2.2.2.2.2.2.2.1
@[irreducible] noncomputable def L := eK.2.2.2.2.2.2.2.2.2.2.2.1
@[irreducible] noncomputable def pf := eK.2.2.2.2.2.2.2.2.2.2.2.2.2.2.2.2.2.1
@[irreducible] noncomputable def cl := eK.2.2.2.2.2.2.2.2.2.2.2.2.2.2.2.2.2.2.1
@[irreducible] noncomputable def ce := eK.2.2.2.2.2.2.2.2.2.2.2.2.2.2.2.2.2.2.2.1
@[irreducible] noncomputable def tl := eK.2.2.2.2.2.2.2.2.2.2.2.2.2.2.2.2.2.2.2.2.1
@[irreducible] noncomputable def te := eK.2.2.2.2.2.2.2.2.2.2.2.2.2.2.2.2.2.2.2.2.2.1
@[irreducible] noncomputable def ci := eK.2.2.2.2.2.2.2.2.2.2.2.2.2.2.2.2.2.2.2.2.2.2.1
@[irreducible] noncomputable def ti := eK.2.2.2.2.2.2.2.2.2.2.2.2.2.2.2.2.2.2.2.2.2.2.2.1
@[irreducible] noncomputable def cs := eK.2.2.2.2.2.2.2.2.2.2.2.2.2.2.2.2.2.2.2.2.2.2.2.2.1
@[irreducible] noncomputable def ts := eK.2.2.2.2.2.2.2.2.2.2.2.2.2.2.2.2.2.2.2.2.2.2.2.2.2.1
@[irreducible] noncomputable def po := eK.2.2.2.2.2.2.2.2.2.2.2.2.2.2.2.2.2.2.2.2.2.2.2.2.2.2.1
@[irreducible] noncomputable def es := eK.2.2.2.2.2.2.2.2.2.2.2.2.2.2.2.2.2.2.2.2.2.2.2.2.2.2.2.1
@[irreducible] noncomputable def rest := eK.2.2.2.2.2.2.2.2.2.2.2.2.2.2.2.2.2.2.2.2.2.2.2.2.2.2.2.2.1
@[irreducible] noncomputable def co0 := eK.2.2.2.2.2.2.2.2.2.2.2.2.2.2.2.2.2.2.2.2.2.2.2.2.2.2.2.2.2.2.1
@[irreducible] noncomputable def co1 := eK.2.2.2.2.2.2.2.2.2.2.2.2.2.2.2.2.2.2.2.2.2.2.2.2.2.2.2.2.2.2.2.1
@[irreducible] noncomputable def co2 := eK.2.2.2.2.2.2.2.2.2.2.2.2.2.2.2.2.2.2.2.2.2.2.2.2.2.2.2.2.2.2.2.2.1
@[irreducible] noncomputable def co3 := eK.2.2.2.2.2.2.2.2.2.2.2.2.2.2.2.2.2.2.2.2.2.2.2.2.2.2.2.2.2.2.2.2.2.1
@[irreducible] noncomputable def co4 := eK.2.2.2.2.2.2.2.2.2.2.2.2.2.2.2.2.2.2.2.2.2.2.2.2.2.2.2.2.2.2.2.2.2.2.1
@[irreducible] noncomputable def co5 := eK.2.2.2.2.2.2.2.2.2.2.2.2.2.2.2.2.2.2.2.2.2.2.2.2.2.2.2.2.2.2.2.2.2.2.2.1
@[irreducible] noncomputable def co6 := eK.2.2.2.2.2.2.2.2.2.2.2.2.2.2.2.2.2.2.2.2.2.2.2.2.2.2.2.2.2.2.2.2.2.2.2.2
theorem eC : epsP eK.1 eK.2.1 eK.2.2.1 eK.2.2.2.1 eK.2.2.2.2.1 a eK.2.2.2.2.2.2.1 eK.2.2.2.2.2.2.2.1 eK.2.2.2.2.2.2.2.2.1 eK.2.2.2.2.2.2.2.2.2.1 g L eK.2.2.2.2.2.2.2.2.2.2.2.2.1 eK.2.2.2.2.2.2.2.2.2.2.2.2.2.1 eK.2.2.2.2.2.2.2.2.2.2.2.2.2.2.1 eK.2.2.2.2.2.2.2.2.2.2.2.2.2.2.2.1 eK.2.2.2.2.2.2.2.2.2.2.2.2.2.2.2.2.1 pf cl ce tl te ci ti cs ts po es rest eK.2.2.2.2.2.2.2.2.2.2.2.2.2.2.2.2.2.2.2.2.2.2.2.2.2.2.2.2.2.1 co0 co1 co2 co3 co4 co5 co6 := by
  unfold epsP
  intro B X T cL cY cS hdp hun hL hc ht lc lt ag dpo lpo len hsum cd5 cd6 F N hes k
  have hb' := (rfl : lawRest 13 = lawRest 13)
  have hs' := (rfl : lawSc = lawSc)
  conv at hb' => rhs; whnf
  conv at hs' => rhs; whnf
  unfold lawA lawE lawCl
  rw [hb', hs']
  clear hb' hs'
  refine wpAny_execs_cons ?_
  k_with_none
  k_with "execs cons If" => (refine Stop.go ?_)
  k_with "execs cons Return" => (refine Stop.go ?_)
  k_with "eval ListComp" => (refine Stop.go ?_)
  k_with "mycall" => (refine Stop.go ?_)
  k_steps
  refine Stop.mk ?_
  k_dflt (refine gc_eval (by k_asm) (by with_unfolding_all rfl) (by rfl) (by decide) ?_)
  (with_unfolding_all (refine MethodCall_ ?_))
  k_dflt (refine' nameX_L F ?v ?h ?a ?b; (case b => rfl); (case a => rfl); (case v => rfl))
  (with_unfolding_all ((refine kdl_method (knd := PySem.intKind _ _) PySem.F.slot_dict_values PySem.F.type_dict_values N (.head _) dpo ?_); (refine callWith_method0 ?_); (refine kta_callValues (knd := PySem.intKind _ _) F N (.head _) dpo lpo ?_)))
  intro h' hv' F1 N1
  clear F N
  refine gck_vals0 (knd := PySem.intKind _ _) (fun i ys => IntsAre ys ((es.map PE.b).take i)) hv' (.head _) dpo (by rw [kvsOf, List.length_map]; omega) F1 N1 .nil (by rfl) (by decide) (by rfl) (by rfl) ?turn ?fin
  case turn =>
    intro I i ys kk v lI hk hJ m₂ C oC D oI h tk2 E' hx hC F2 N2 off nq
    clear F1 N1
    obtain ⟨e, he, rfl, rfl⟩ := kvs_at hk
    have heM := List.mem_of_getElem? he
    have i1 : (e.ta, statO e.a e.b e.x e.y e.t1 e.t2 e.t3 e.t4 e.da) ∈ rest := hes _ (List.mem_flatMap.mpr ⟨e, heM, .head _⟩)
    replace N2 := sub_news N2 (l' := (e.ta, statO e.a e.b e.x e.y e.t1 e.t2 e.t3 e.t4 e.da) :: (I, oI) :: (C, oC) :: (D, LCg.lst ys) :: (pf, po) :: (cl, W.listOf ci.toArray ce) :: (tl, W.listOf ti.toArray te) :: ((L + 1, co0) :: (L + 1 + 1, co1) :: (L + 1 + 1 + 1, co2) :: (L + 1 + 1 + 1 + 1, co3) :: (L + 1 + 1 + 1 + 1 + 1, co4) :: (L + 1 + 1 + 1 + 1 + 1 + 1, co5) :: (L + 1 + 1 + 1 + 1 + 1 + 1 + 1, co6) :: rest)) (all_cons.mpr ⟨.tail _ (.tail _ (.tail _ (.tail _ (.tail _ (.tail _ (.tail _ (.tail _ (.tail _ (.tail _ (.tail _ (.tail _ (.tail _ i1)))))))))))), fun _ h => h⟩)
    k_steps
    rename Fr _ _ _ _ => F'
    rename News _ _ _ _ => N'
    refine GcK.intro F' N' (fun _ h => .tail _ h) ?_
    rw [List.take_add_one, List.getElem?_map, he]
    exact IntsAre.append hJ (.cons _ _ .nil)
  case fin =>
    intro ys g2 hJ D h2 tk2 F N o1'
    clear F1 N1 o1'
    rw [kvsOf, List.length_map, List.take_of_length_le (by rw [List.length_map]; exact Nat.le_refl _)] at hJ
    replace N := (show News g _ h2 ((D, W.listOf ys.toArray ys.length) :: _) from N)
    have hyl : (es.map PE.b).length ≤ 16 := by rw [List.length_map]; exact len
    k_steps
    · exact absurd hsum (by assumption)
    refine Stop.mk ?_
    (k_dflt (refine' Spec.use0 (agree_spec cl tl ci ti ce te cs ts hc ht lc lt ag) ?uB ?uF ?uX ?uN ?uT ?uk ?u1 ?u2 ?u3 ?ud ?uu ?ue ?uK; (case uB => k_asm); (case uF => k_asm); (case uX => k_asm); (case uN => k_asm); (case uT => k_asm); (case uk => first | exact rfl | assumption); (case u1 => assumption); (case u2 => assumption); (case u3 => assumption); (case ud => ktr_room); (case uu => ktr_units); (case ue => walk_at "sub"); k_whole)); (intro v' mu' new' h' tk' hR' F' N' ap'); (obtain ⟨e1', e2', e3'⟩ := hR'); subst e1'; subst e2'; subst e3'; (dsimp only [List.nil_append, List.cons_append] at N')
    k_steps
    refine Stop.mk ?_
    rename Fr _ _ _ _ => F6
    rename News _ _ _ _ => N6
    exact k _ _ F6 (sub_news N6 fun _ h => .tail _ h)
end law13
theorem law13 {w : World} {z : Env0} {dp : Nat} {un : Nat} {gd : Option (List Code)} {a : Addr} {ccd : Value} {outer : List Env} {A₀ : Around} {base : Heap} {g : Heap} {L : Nat} {s : Shared} {tk : Nat} {h₁ : Heap} {Q : Flow → Shared → Prop} {E : Value → Shared → Prop} (B : Below A₀ base outer g) (X : (hd.heap_1 w.params).In g) (T : Top z.p z.loose z.mean z.mg z.mb g) (cL : CodeHd base 166 162) (cY : CodeHd base 145 141) (cS : CodeHd base 138 134) (hdp : dp + 80 < recursionLimit) (hun : un + 300 < cLine) (hL : 162 < L) {pf : Nat} {cl : Nat} {ce : Nat} {tl : Nat} {te : Nat} {ci : List Value} {ti : List Value} {cs : List Int} {ts : List Int} {po : Obj} {es : List PE} (hc : IntsAre ci cs) (ht : IntsAre ti ts) (lc : cs.length = 16) (lt : ts.length = 16) (ag : Agrees cs ts) (dpo : po.IsDictOf (IK w) (kvsOf es)) (lpo : (pf == sysModules) = false) (len : es.length ≤ 16) (hsum : (es.map PE.b).sum = 0) {rest : Led} {u : Str → Option Value} {co0 : Obj} {co1 : Obj} {co2 : Obj} {co3 : Obj} {co4 : Obj} {co5 : Obj} {co6 : Obj} (cd5 : co5.data = Data.cell (some (.ref cl))) (cd6 : co6.data = Data.cell (some (.ref tl))) (F : Fr g L h₁ (kstB u [(Str.ofString "profile", .ref pf)])) (N : News g L h₁ ((pf, po) :: (cl, W.listOf ci.toArray ce) :: (tl, W.listOf ti.toArray te) :: ((L + 1, co0) :: (L + 1 + 1, co1) :: (L + 1 + 1 + 1, co2) :: (L + 1 + 1 + 1 + 1, co3) :: (L + 1 + 1 + 1 + 1 + 1, co4) :: (L + 1 + 1 + 1 + 1 + 1 + 1, co5) :: (L + 1 + 1 + 1 + 1 + 1 + 1 + 1, co6) :: rest))) (hes : ∀ q ∈ ledOf es, q ∈ rest) (k : ∀ (h' : Heap) (tk' : Nat), Fr g L h' (kstB u [(Str.ofString "profile", .ref pf)]) → News g L h' ((pf, po) :: (cl, W.listOf ci.toArray ce) :: (tl, W.listOf ti.toArray te) :: ((L + 1, co0) :: (L + 1 + 1, co1) :: (L + 1 + 1 + 1, co2) :: (L + 1 + 1 + 1 + 1, co3) :: (L + 1 + 1 + 1 + 1 + 1, co4) :: (L + 1 + 1 + 1 + 1 + 1 + 1, co5) :: (L + 1 + 1 + 1 + 1 + 1 + 1 + 1, co6) :: rest)) → wpAny (model PySem.Challenge.rw_wf0038_01.prog w) (lawA dp un gd L a ccd outer) (execs (lawRest 14) (lawE L a ccd)) Q E { s with heap := h', toks := tk' }) : wpAny (model PySem.Challenge.rw_wf0038_01.prog w) (lawA dp un gd L a ccd outer) (execs (lawRest 13) (lawE L a ccd)) Q E { s with heap := h₁, toks := tk } := Pk.all (T := law13.epsT) (ne := law13.eN) (Q := law13.epsQ) (by with_unfolding_all exact law13.eC) (w, z, dp, un, gd, a, ccd, outer, A₀, base, g, L, s, tk, h₁, Q, E, pf, cl, ce, tl, te, ci, ti, cs, ts, po, es, rest, u, co0, co1, co2, co3, co4, co5, co6) B X T cL cY cS hdp hun hL hc ht lc lt ag dpo lpo len hsum cd5 cd6 F N hes k
end
section
variable {w : World} {z : Env0} {dp un : Nat} {gd : Option (List Code)} {a : Addr} {ccd : Value} {outer : List Env} {A₀ : Around} {base g : Heap} {L : Nat} {s : Shared} {tk : Nat} {h₁ : Heap} {Q : Flow → Shared → Prop} {E : Value → Shared → Prop}
end
end
section
theorem bools_of : ∀ ys : List Value, (∀ v ∈ ys, v = .bool true) → ∃ bs, LSm.BoolsAre ys bs ∧ bs.all id = true
  | [], _ => ⟨[], .nil, rfl⟩
  | v :: ys, h => by
    obtain ⟨bs, h1, h2⟩ := bools_of ys fun q hq => h q (.tail _ hq)
    rw [h v (.head _)]
    exact ⟨true :: bs, .cons true h1, by rw [List.all_cons, h2]; rfl⟩
section
variable {w : World} {z : Env0} {dp un : Nat} {gd : Option (List Code)} {a : Addr} {ccd : Value} {outer : List Env} {A₀ : Around} {base g : Heap} {L : Nat} {s : Shared} {tk : Nat} {h₁ : Heap} {Q : Flow → Shared → Prop} {E : Value → Shared → Prop}
end
section
namespace law14
noncomputable def epsP : World → Env0 → Nat → Nat → (Option (List Code)) → Addr → Value → (List Env) → Around → Heap → Heap → Nat → Shared → Nat → Heap → (Flow → Shared → Prop) → (Value → Shared → Prop) → Nat → Nat → Nat → (List Value) → (List Int) → Obj → (List PE) → Led → (Str → Option Value) → Obj → Obj → Obj → Obj → Obj → Obj → Obj → Prop := fun w z dp un gd a ccd outer A₀ base g L s tk h₁ Q E pf cl ce ci cs po es rest u co0 co1 co2 co3 co4 co5 co6 => ∀ (B : Below A₀ base outer g) (X : (hd.heap_1 w.params).In g) (T : Top z.p z.loose z.mean z.mg z.mb g) (cL : CodeHd base 166 162) (cY : CodeHd base 145 141) (cS : CodeHd base 138 134) (hdp : dp + 80 < recursionLimit) (hun : un + 300 < cLine) (hL : 162 < L) (hc : IntsAre ci cs) (lc : cs.length = 16) (dpo : po.IsDictOf (IK w) (kvsOf es)) (lpo : (pf == sysModules) = false) (len : es.length ≤ 16) (kr : ∀ e ∈ es, 0 ≤ e.key ∧ e.key < 16) (nx : ∀ e ∈ es, e.key ≠ 15 → nextOf cs e.key ≠ []) (cd5 : co5.data = Data.cell (some (.ref cl))) (F : Fr g L h₁ (kstB u [(Str.ofString "profile", .ref pf)])) (N : News g L h₁ ((pf, po) :: (cl, W.listOf ci.toArray ce) :: ((L + 1, co0) :: (L + 1 + 1, co1) :: (L + 1 + 1 + 1, co2) :: (L + 1 + 1 + 1 + 1, co3) :: (L + 1 + 1 + 1 + 1 + 1, co4) :: (L + 1 + 1 + 1 + 1 + 1 + 1, co5) :: (L + 1 + 1 + 1 + 1 + 1 + 1 + 1, co6) :: rest))) (k : ∀ (h' : Heap) (tk' : Nat) (m' : Str → Option Value), Fr g L h' m' → News g L h' ((pf, po) :: (cl, W.listOf ci.toArray ce) :: ((L + 1, co0) :: (L + 1 + 1, co1) :: (L + 1 + 1 + 1, co2) :: (L + 1 + 1 + 1 + 1, co3) :: (L + 1 + 1 + 1 + 1 + 1, co4) :: (L + 1 + 1 + 1 + 1 + 1 + 1, co5) :: (L + 1 + 1 + 1 + 1 + 1 + 1 + 1, co6) :: rest)) → Q (.ret (.bool true)) { s with heap := h', toks := tk' }), wpAny (model PySem.Challenge.rw_wf0038_01.prog w) (lawA dp un gd L a ccd outer) (execs (lawRest 14) (lawE L a ccd)) Q E { s with heap := h₁, toks := tk }
noncomputable abbrev epsT : Type := World × Env0 × Nat × Nat × (Option (List Code)) × Addr × Value × (List Env) × Around × Heap × Heap × Nat × Shared × Nat × Heap × (Flow → Shared → Prop) × (Value → Shared → Prop) × Nat × Nat × Nat × (List Value) × (List Int) × Obj × (List PE) × Led × (Str → Option Value) × Obj × Obj × Obj × Obj × Obj × Obj × Obj
noncomputable abbrev epsQ : epsT → Prop := fun d => epsP d.1 d.2.1 d.2.2.1 d.2.2.2.1 d.2.2.2.2.1 d.2.2.2.2.2.1 d.2.2.2.2.2.2.1 d.2.2.2.2.2.2.2.1 d.2.2.2.2.2.2.2.2.1 d.2.2.2.2.2.2.2.2.2.1 d.2.2.2.2.2.2.2.2.2.2.1 d.2.2.2.2.2.2.2.2.2.2.2.1 d.2.2.2.2.2.2.2.2.2.2.2.2.1 d.2.2.2.2.2.2.2.2.2.2.2.2.2.1 d.2.2.2.2.2.2.2.2.2.2.2.2.2.2.1 d.2.2.2.2.2.2.2.2.2.2.2.2.2.2.2.1 d.2.2.2.2.2.2.2.2.2.2.2.2.2.2.2.2.1 d.2.2.2.2.2.2.2.2.2.2.2.2.2.2.2.2.2.1 d.2.2.2.2.2.2.2.2.2.2.2.2.2.2.2.2.2.2.1 d.2.2.2.2.2.2.2.2.2.2.2.2.2.2.2.2.2.2.2.1 d.2.2.2.2.2.2.2.2.2.2.2.2.2.2.2.2.2.2.2.2.1 d.2.2.2.2.2.2.2.2.2.2.2.2.2.2.2.2.2.2.2.2.2.1 d.2.2.2.2.2.2.2.2.2.2.2.2.2.2.2.2.2.2.2.2.2.2.1 d.2.2.2.2.2.2.2.2.2.2.2.2.2.2.2.2.2.2.2.2.2.2.2.1 d.2.2.2.2.2.2.2.2.2.2.2.2.2.2.2.2.2.2.2.2.2.2.2.2.1 d.2.2.2.2.2.2.2.2.2.2.2.2.2.2.2.2.2.2.2.2.2.2.2.2.2.1 d.2.2.2.2.2.2.2.2.2.2.2.2.2.2.2.2.2.2.2.2.2.2.2.2.2.2.1 d.2.2.2.2.2.2.2.2.2.2.2.2.2.2.2.2.2.2.2.2.2.2.2.2.2.2.2.1 d.2.2.2.2.2.2.2.2.2.2.2.2.2.2.2.2.2.2.2.2.2.2.2.2.2.2.2.2.1 d.2.2.2.2.2.2.2.2.2.2.2.2.2.2.2.2.2.2.2.2.2.2.2.2.2.2.2.2.2.1 d.2.2.2.2.2.2.2.2.2.2.2.2.2.2.2.2.2.2.2.2.2.2.2.2.2.2.2.2.2.2.1 d.2.2.2.2.2.2.2.2.2.2.2.2.2.2.2.2.2.2.2.2.2.2.2.2.2.2.2.2.2.2.2.1 d.2.2.2.2.2.2.2.2.2.2.2.2.2.2.2.2.2.2.2.2.2.2.2.2.2.2.2.2.2.2.2.2
theorem eN : Nonempty epsT := by walk_at "ne_all"
@[irreducible] noncomputable def eK : epsT := Pk epsT eN epsQ
@[irreducible] noncomputable def g := eK.2.2.2.2.2.2.2.2.2.2.1
@[irreducible] noncomputable def cl := eK.2.2.2.2.2.2.2.2.2.2.2.2.2.2.2.2.2.2.1
@[irreducible] noncomputable def ce := eK.2.2.2.2.2.2.2.2.2.2.2.2.2.2.2.2.2.2.2.1
@[irreducible] noncomputable def ci := eK.2.2.2.2.2.2.2.2.2.2.2.2.2.2.2.2.2.2.2.2.1
@[irreducible] noncomputable def cs := eK.2.2.2.2.2.2.2.2.2.2.2.2.2.2.2.2.2.2.2.2.2.1
theorem eC : epsP eK.1 eK.2.1 eK.2.2.1 eK.2.2.2.1 eK.2.2.2.2.1 eK.2.2.2.2.2.1 eK.2.2.2.2.2.2.1 eK.2.2.2.2.2.2.2.1 eK.2.2.2.2.2.2.2.2.1 eK.2.2.2.2.2.2.2.2.2.1 g eK.2.2.2.2.2.2.2.2.2.2.2.1 eK.2.2.2.2.2.2.2.2.2.2.2.2.1 eK.2.2.2.2.2.2.2.2.2.2.2.2.2.1 eK.2.2.2.2.2.2.2.2.2.2.2.2.2.2.1 eK.2.2.2.2.2.2.2.2.2.2.2.2.2.2.2.1 eK.2.2.2.2.2.2.2.2.2.2.2.2.2.2.2.2.1 eK.2.2.2.2.2.2.2.2.2.2.2.2.2.2.2.2.2.1 cl ce ci cs eK.2.2.2.2.2.2.2.2.2.2.2.2.2.2.2.2.2.2.2.2.2.2.1 eK.2.2.2.2.2.2.2.2.2.2.2.2.2.2.2.2.2.2.2.2.2.2.2.1 eK.2.2.2.2.2.2.2.2.2.2.2.2.2.2.2.2.2.2.2.2.2.2.2.2.1 eK.2.2.2.2.2.2.2.2.2.2.2.2.2.2.2.2.2.2.2.2.2.2.2.2.2.1 eK.2.2.2.2.2.2.2.2.2.2.2.2.2.2.2.2.2.2.2.2.2.2.2.2.2.2.1 eK.2.2.2.2.2.2.2.2.2.2.2.2.2.2.2.2.2.2.2.2.2.2.2.2.2.2.2.1 eK.2.2.2.2.2.2.2.2.2.2.2.2.2.2.2.2.2.2.2.2.2.2.2.2.2.2.2.2.1 eK.2.2.2.2.2.2.2.2.2.2.2.2.2.2.2.2.2.2.2.2.2.2.2.2.2.2.2.2.2.1 eK.2.2.2.2.2.2.2.2.2.2.2.2.2.2.2.2.2.2.2.2.2.2.2.2.2.2.2.2.2.2.1 eK.2.2.2.2.2.2.2.2.2.2.2.2.2.2.2.2.2.2.2.2.2.2.2.2.2.2.2.2.2.2.2.1 eK.2.2.2.2.2.2.2.2.2.2.2.2.2.2.2.2.2.2.2.2.2.2.2.2.2.2.2.2.2.2.2.2 := by
  unfold epsP
  intro B X T cL cY cS hdp hun hL hc lc dpo lpo len kr nx cd5 F N k
  have hb' := (rfl : lawRest 14 = lawRest 14)
  have hs' := (rfl : lawSc = lawSc)
  conv at hb' => rhs; whnf
  conv at hs' => rhs; whnf
  unfold lawA lawE lawCl
  rw [hb', hs']
  clear hb' hs'
  refine wpAny_execs_cons ?_
  k_with_none
  k_with "eval ListComp" => (refine Stop.go ?_)
  k_with "mycall" => (refine Stop.go ?_)
  k_steps
  refine Stop.mk ?_
  k_dflt (refine gc_eval (by k_asm) (by with_unfolding_all rfl) (by rfl) (by decide) ?_)
  k_steps
  refine Stop.mk ?_
  rename Fr _ _ _ _ => F1
  rename News _ _ _ _ => N1
  refine gck_keys1 (knd := PySem.intKind _ _) (fun i ys => ys.length ≤ i ∧ ∀ v ∈ ys, v = .bool true) (.head _) dpo lpo (by rw [kvsOf, List.length_map]; omega) F1 N1 ⟨Nat.le_refl _, fun _ h => (by cases h)⟩ (by rfl) (by decide) (by rfl) (by rfl) ?turn ?fin
  case turn =>
    intro I i ys kk y v lI hk hv hJ m₂ C oC D oI h tk2 E' hx hC F2 N2 off nq
    clear F1 N1
    obtain ⟨e, he, rfl, rfl⟩ := kvs_at hk
    have heM := List.mem_of_getElem? he
    obtain ⟨t, rfl⟩ := Value.isInt_shape hv
    obtain ⟨b0, b1⟩ := kr e heM
    k_steps
    · refine Stop.mk ?_
      (k_dflt (refine' Spec.use0 (next_spec e.key _ cl ce ci cs hc lc (kr e heM)) ?uB ?uF ?uX ?uN ?uT ?uk ?u1 ?u2 ?u3 ?ud ?uu ?ue ?uK; (case uB => k_asm); (case uF => k_asm); (case uX => k_asm); (case uN => k_asm); (case uT => k_asm); (case uk => first | exact rfl | assumption); (case u1 => assumption); (case u2 => assumption); (case u3 => assumption); (case ud => ktr_room); (case uu => ktr_units); (case ue => walk_at "sub"); k_whole)); (intro v' mu' new' h' tk' hR' F' N' ap'); (obtain ⟨f, its', e', e1', e2', i9, e3'⟩ := hR'); subst e1'; subst e2'; subst e3'; (dsimp only [List.nil_append, List.cons_append] at N')
      clear ap'
      k_steps
      rename Fr _ _ _ _ => F'
      rename News _ _ _ _ => N'
      refine GcK.intro F' N' (fun _ h => .tail _ (.tail _ h)) ⟨by rw [List.length_append]; exact Nat.succ_le_succ hJ.1, fun v hv => ?_⟩
      rcases List.mem_append.mp hv with h | h
      · exact hJ.2 v h
      · rw [List.mem_singleton.mp h]
        have hn := nx e heM (by assumption)
        simp [hn]
    · rename Fr _ _ _ _ => F'
      rename News _ _ _ _ => N'
      exact GcK.intro F' N' (fun _ h => h) ⟨Nat.le_succ_of_le hJ.1, hJ.2⟩
  case fin =>
    intro ys g2 hJ D h2 tk2 F N o1'
    clear F1 N1 o1'
    replace N := (show News g _ h2 ((D, W.listOf ys.toArray ys.length) :: _) from N)
    have hyl : ys.length ≤ 16 := by have := hJ.1; rw [kvsOf, List.length_map] at this; omega
    k_steps
    obtain ⟨bs, hbs, hall⟩ := bools_of ys hJ.2
    k_dflt (refine' LSm.all_bools ?F ?N ?hh ?hl hbs ?hk; (case F => exact F); (case N => exact N); (case hh => exact rfl); (case hl => exact News.isList N (.head _)))
    intro h5 tk5 F5 N5
    rw [hall]
    exact k _ _ _ F5 (sub_news N5 fun _ h => .tail _ h)
end law14
theorem law14 {w : World} {z : Env0} {dp : Nat} {un : Nat} {gd : Option (List Code)} {a : Addr} {ccd : Value} {outer : List Env} {A₀ : Around} {base : Heap} {g : Heap} {L : Nat} {s : Shared} {tk : Nat} {h₁ : Heap} {Q : Flow → Shared → Prop} {E : Value → Shared → Prop} (B : Below A₀ base outer g) (X : (hd.heap_1 w.params).In g) (T : Top z.p z.loose z.mean z.mg z.mb g) (cL : CodeHd base 166 162) (cY : CodeHd base 145 141) (cS : CodeHd base 138 134) (hdp : dp + 80 < recursionLimit) (hun : un + 300 < cLine) (hL : 162 < L) {pf : Nat} {cl : Nat} {ce : Nat} {ci : List Value} {cs : List Int} {po : Obj} {es : List PE} (hc : IntsAre ci cs) (lc : cs.length = 16) (dpo : po.IsDictOf (IK w) (kvsOf es)) (lpo : (pf == sysModules) = false) (len : es.length ≤ 16) (kr : ∀ e ∈ es, 0 ≤ e.key ∧ e.key < 16) (nx : ∀ e ∈ es, e.key ≠ 15 → nextOf cs e.key ≠ []) {rest : Led} {u : Str → Option Value} {co0 : Obj} {co1 : Obj} {co2 : Obj} {co3 : Obj} {co4 : Obj} {co5 : Obj} {co6 : Obj} (cd5 : co5.data = Data.cell (some (.ref cl))) (F : Fr g L h₁ (kstB u [(Str.ofString "profile", .ref pf)])) (N : News g L h₁ ((pf, po) :: (cl, W.listOf ci.toArray ce) :: ((L + 1, co0) :: (L + 1 + 1, co1) :: (L + 1 + 1 + 1, co2) :: (L + 1 + 1 + 1 + 1, co3) :: (L + 1 + 1 + 1 + 1 + 1, co4) :: (L + 1 + 1 + 1 + 1 + 1 + 1, co5) :: (L + 1 + 1 + 1 + 1 + 1 + 1 + 1, co6) :: rest))) (k : ∀ (h' : Heap) (tk' : Nat) (m' : Str → Option Value), Fr g L h' m' → News g L h' ((pf, po) :: (cl, W.listOf ci.toArray ce) :: ((L + 1, co0) :: (L + 1 + 1, co1) :: (L + 1 + 1 + 1, co2) :: (L + 1 + 1 + 1 + 1, co3) :: (L + 1 + 1 + 1 + 1 + 1, co4) :: (L + 1 + 1 + 1 + 1 + 1 + 1, co5) :: (L + 1 + 1 + 1 + 1 + 1 + 1 + 1, co6) :: rest)) → Q (.ret (.bool true)) { s with heap := h', toks := tk' }) : wpAny (model PySem.Challenge.rw_wf0038_01.prog w) (lawA dp un gd L a ccd outer) (execs (lawRest 14) (lawE L a ccd)) Q E { s with heap := h₁, toks := tk } := Pk.all (T := law14.epsT) (ne := law14.eN) (Q := law14.epsQ) (by with_unfolding_all exact law14.eC) (w, z, dp, un, gd, a, ccd, outer, A₀, base, g, L, s, tk, h₁, Q, E, pf, cl, ce, ci, cs, po, es, rest, u, co0, co1, co2, co3, co4, co5, co6) B X T cL cY cS hdp hun hL hc lc dpo lpo len kr nx cd5 F N k
end
section
variable {w : World} {z : Env0} {dp un : Nat} {gd : Option (List Code)} {a : Addr} {ccd : Value} {outer : List Env} {A₀ : Around} {base g : Heap} {L : Nat} {s : Shared} {tk : Nat} {h₁ : Heap} {Q : Flow → Shared → Prop} {E : Value → Shared → Prop}
end
end
section
theorem perms_tab : perms = tab.map (·.1) := by decide +kernel
theorem tab_fr : (tab.all fun e => (List.range 16).all fun k => decide ((frontsL e.1).getD (leastAt (frontsL e.1) (0 + (k : Int))) 0 = ((nib e.2.1 k : Nat) : Int))) = true := by decide +kernel
theorem tab_own : (tab.all fun e => (List.range 16).all fun k => decide (shut1 (0 + (k : Int)) e.1 = ((nib e.2.1 k : Nat) : Int)) && decide (tops1 (0 + (k : Int)) e.1 = ((nib e.2.2 k : Nat) : Int))) = true := by decide +kernel
theorem nib_and (A B k : Nat) : nib (A &&& B) k = nib A k &&& nib B k := by
  refine Nat.eq_of_testBit_eq fun j => ?_
  simp only [nib, Nat.testBit_and, Nat.testBit_shiftRight]
  cases A.testBit (4 * k + j) <;> cases B.testBit (4 * k + j) <;> cases Nat.testBit 15 j <;> rfl
theorem nib_or (A B k : Nat) : nib (A ||| B) k = nib A k ||| nib B k := by
  refine Nat.eq_of_testBit_eq fun j => ?_
  simp only [nib, Nat.testBit_and, Nat.testBit_or, Nat.testBit_shiftRight]
  cases A.testBit (4 * k + j) <;> cases B.testBit (4 * k + j) <;> cases Nat.testBit 15 j <;> rfl
theorem nib_lt (V k : Nat) : nib V k < 16 := Nat.lt_of_le_of_lt Nat.and_le_right (by decide)
theorem band_cast (a b : Nat) : Builtin.bitAnd (a : Int) (b : Int) = ((a &&& b : Nat) : Int) := by
  rw [bitAnd_pp (Int.natCast_nonneg a) (Int.natCast_nonneg b)]; rfl
theorem bor_cast {a b : Nat} (ha : a < 16) (hb : b < 16) : Builtin.bitOr (a : Int) (b : Int) = ((a ||| b : Nat) : Int) := by
  have H : ∀ x : _root_.Fin 16, ∀ y : _root_.Fin 16, Builtin.bitOr ((x.val : Nat) : Int) ((y.val : Nat) : Int) = ((x.val ||| y.val : Nat) : Int) := by decide +kernel
  exact H ⟨a, ha⟩ ⟨b, hb⟩
theorem bxor_cast {a b : Nat} (ha : a < 16) (hb : b < 16) : Builtin.bitXor (a : Int) (b : Int) = ((a ^^^ b : Nat) : Int) := by
  have H : ∀ x : _root_.Fin 16, ∀ y : _root_.Fin 16, Builtin.bitXor ((x.val : Nat) : Int) ((y.val : Nat) : Int) = ((x.val ^^^ y.val : Nat) : Int) := by decide +kernel
  exact H ⟨a, ha⟩ ⟨b, hb⟩
theorem or_lt16 {a b : Nat} (ha : a < 16) (hb : b < 16) : a ||| b < 16 := Nat.or_lt_two_pow (n := 4) ha hb
theorem xor_lt16 {a b : Nat} (ha : a < 16) (hb : b < 16) : a ^^^ b < 16 := Nat.xor_lt_two_pow (n := 4) ha hb
theorem z_add (k : Nat) : (0 : Int) + (k : Int) = (k : Int) := Int.zero_add _
structure Clo (cs ts : List Int) (V T : Nat) : Prop where
  ok : okV V T = true
  c : ∀ k < 16, cs.getD k 0 = ((nib V k : Nat) : Int)
  t : ∀ k < 16, ts.getD k 0 = ((nib T k : Nat) : Int)
  lc : cs.length = 16
  lt : ts.length = 16
theorem okA_of {V T i : Nat} (h : okV V T = true) (hi : i < 16) : nib V (nib T i) = nib V i ∧ nib T (nib V i) = nib T i ∧ nib T i = topsN V i ∧ (nib V i = 15 ∨ ∃ p : Nat, p < 4 ∧ nextN V (nib V i) (2 ^ p) = true) := by
  unfold okV at h
  rw [Bool.and_eq_true] at h
  have h' := allLt_ok h.1 i hi
  simp only [Bool.and_eq_true, Bool.or_eq_true] at h'
  obtain ⟨h1, h2, h3, h4⟩ := h'
  refine ⟨Nat.eq_of_beq_eq_true h1, Nat.eq_of_beq_eq_true h2, Nat.eq_of_beq_eq_true h3, ?_⟩
  rcases h4 with h | h | h | h | h
  · exact Or.inl (Nat.eq_of_beq_eq_true h)
  · exact Or.inr ⟨0, by decide, h⟩
  · exact Or.inr ⟨1, by decide, h⟩
  · exact Or.inr ⟨2, by decide, h⟩
  · exact Or.inr ⟨3, by decide, h⟩
theorem okB_of {V T i j : Nat} (h : okV V T = true) (hi : i < 16) (hj : j < i) : nib T (i ||| j) = nib T (nib T i ||| nib T j) := by
  unfold okV at h
  rw [Bool.and_eq_true, Bool.and_eq_true] at h
  exact Nat.eq_of_beq_eq_true (allLt_ok (allLt_ok h.2.1 i hi) j hj)
theorem okC_of {V T i m : Nat} (h : okV V T = true) (hi : i < 16) (hm : m < 16) : Nat.beq (nib V m) (nib V i) = (Nat.beq (m &&& nib T i) (nib T i) && Nat.beq (m ||| nib V i) (nib V i)) := by
  unfold okV at h
  rw [Bool.and_eq_true, Bool.and_eq_true] at h
  exact eq_of_beq (allLt_ok (allLt_ok h.2.2 i hi) m hm)
theorem bits_nat : ∀ i : _root_.Fin 16, bitsOf (0 + ((i.val : Nat) : Int)) = (([1, 2, 4, 8] : List Nat).filter fun b => Nat.beq (i.val &&& b) b).map fun b => ((b : Nat) : Int) := by decide +kernel
theorem tops_fold {cs : List Int} {V i : Nat} (hi : i < 16) (hc : ∀ k < 16, cs.getD k 0 = ((nib V k : Nat) : Int)) : ∀ (bl : List Nat) (acc : List Int), (∀ b ∈ bl, b < 16) →
    ((bl.map fun b => ((b : Nat) : Int)).foldl (topsG cs (0 + (i : Int))) acc).sum = acc.sum + (((bl.map fun b => bitIf (Nat.beq (nib V (i ^^^ b) &&& b) 0) b).sum : Nat) : Int)
  | [], acc, _ => by simp
  | b :: bl, acc, h => by
    have hb := h b (.head _)
    rw [List.map_cons, List.foldl_cons, tops_fold hi hc bl _ fun q hq => h q (.tail _ hq), List.map_cons, List.sum_cons]
    have e1 : cs.getD (Builtin.bitXor (0 + (i : Int)) (b : Int)).toNat 0 = ((nib V (i ^^^ b) : Nat) : Int) := by
      rw [z_add, bxor_cast hi hb, Int.toNat_natCast]; exact hc _ (xor_lt16 hi hb)
    have e2 : topsG cs (0 + (i : Int)) acc (b : Int) = if Builtin.bitAnd (cs.getD (Builtin.bitXor (0 + (i : Int)) (b : Int)).toNat 0) (b : Int) = 0 then acc ++ [(b : Int)] else acc := rfl
    rw [e2, e1, band_cast]
    cases hq : Nat.beq (nib V (i ^^^ b) &&& b) 0 with
    | true =>
      rw [if_pos (by rw [Nat.eq_of_beq_eq_true hq]; rfl), List.sum_append]
      simp only [List.sum_cons, List.sum_nil, bitIf, cond_true]
      omega
    | false =>
      rw [if_neg (fun e => by have e' : (nib V (i ^^^ b) &&& b) = 0 := by exact_mod_cast e
                              rw [e'] at hq; cases hq)]
      simp only [bitIf, cond_false]
      omega
theorem tops_nat {cs : List Int} {V i : Nat} (hi : i < 16) (hc : ∀ k < 16, cs.getD k 0 = ((nib V k : Nat) : Int)) : topsAt cs i = ((topsN V i : Nat) : Int) := by
  unfold topsAt
  rw [bits_nat ⟨i, hi⟩, tops_fold hi hc _ [] (fun b hb => by have := (List.mem_filter.mp hb).1; simp only [List.mem_cons, List.not_mem_nil, or_false] at this; omega)]
  unfold topsN
  simp only [List.filter_cons, List.filter_nil]
  cases Nat.beq (i &&& 1) 1 <;> cases Nat.beq (i &&& 2) 2 <;> cases Nat.beq (i &&& 4) 4 <;> cases Nat.beq (i &&& 8) 8 <;> simp [bitIf] <;> omega
theorem clo_of {n0 n1 n2 : List Int} (h0 : n0 ∈ perms) (h1 : n1 ∈ perms) (h2 : n2 ∈ perms) : ∃ V T, Clo (closedOf (frontsL n0) (frontsL n1) (frontsL n2)) (topsOf (closedOf (frontsL n0) (frontsL n1) (frontsL n2))) V T ∧
    ∀ k : Nat, k < 16 → ownOf (0 + (k : Int)) [n0, n1, n2] = (((nib V k : Nat) : Int), ((nib T k : Nat) : Int)) := by
  rw [perms_tab] at h0 h1 h2
  obtain ⟨a, ha, rfl⟩ := List.mem_map.mp h0
  obtain ⟨b, hb, rfl⟩ := List.mem_map.mp h1
  obtain ⟨c, hc, rfl⟩ := List.mem_map.mp h2
  have fr : ∀ e ∈ tab, ∀ k : Nat, k < 16 → (frontsL e.1).getD (leastAt (frontsL e.1) (0 + (k : Int))) 0 = ((nib e.2.1 k : Nat) : Int) := fun e he k hk => of_decide_eq_true (List.all_eq_true.mp (List.all_eq_true.mp tab_fr e he) k (List.mem_range.mpr hk))
  have ow : ∀ e ∈ tab, ∀ k : Nat, k < 16 → shut1 (0 + (k : Int)) e.1 = ((nib e.2.1 k : Nat) : Int) ∧ tops1 (0 + (k : Int)) e.1 = ((nib e.2.2 k : Nat) : Int) := fun e he k hk => by
    have h := List.all_eq_true.mp (List.all_eq_true.mp tab_own e he) k (List.mem_range.mpr hk)
    rw [Bool.and_eq_true] at h
    exact ⟨of_decide_eq_true h.1, of_decide_eq_true h.2⟩
  have ok := okV_of ha hb hc
  have hcl : ∀ k : Nat, k < 16 → (closedOf (frontsL a.1) (frontsL b.1) (frontsL c.1)).getD k 0 = ((nib (a.2.1 &&& b.2.1 &&& c.2.1) k : Nat) : Int) := fun k hk => by
    unfold closedOf
    rw [List.getD_eq_getElem?_getD, List.getElem?_map, List.getElem?_range hk]
    show closedAt _ _ _ k = _
    unfold closedAt
    rw [fr a ha k hk, fr b hb k hk, fr c hc k hk, band_cast, band_cast, nib_and, nib_and]
  refine ⟨a.2.1 &&& b.2.1 &&& c.2.1, a.2.2 ||| b.2.2 ||| c.2.2, ⟨ok, hcl, fun k hk => ?_, ?_, ?_⟩, fun k hk => ?_⟩
  · unfold topsOf
    rw [List.getD_eq_getElem?_getD, List.getElem?_map, List.getElem?_range hk]
    show topsAt _ k = _
    rw [tops_nat hk hcl, (okA_of ok hk).2.2.1]
  · unfold closedOf; rw [List.length_map, List.length_range]
  · unfold topsOf; rw [List.length_map, List.length_range]
  · have e : ownOf (0 + (k : Int)) [a.1, b.1, c.1] = (Builtin.bitAnd (Builtin.bitAnd (Builtin.bitAnd ((15 : Nat) : Int) (shut1 (0 + (k : Int)) a.1)) (shut1 (0 + (k : Int)) b.1)) (shut1 (0 + (k : Int)) c.1), Builtin.bitOr (Builtin.bitOr (Builtin.bitOr ((0 : Nat) : Int) (tops1 (0 + (k : Int)) a.1)) (tops1 (0 + (k : Int)) b.1)) (tops1 (0 + (k : Int)) c.1)) := rfl
    rw [e, (ow a ha k hk).1, (ow b hb k hk).1, (ow c hc k hk).1, (ow a ha k hk).2, (ow b hb k hk).2, (ow c hc k hk).2, band_cast, band_cast, band_cast, bor_cast (by decide) (nib_lt _ _), bor_cast (or_lt16 (by decide) (nib_lt _ _)) (nib_lt _ _), bor_cast (or_lt16 (or_lt16 (by decide) (nib_lt _ _)) (nib_lt _ _)) (nib_lt _ _), nib_and, nib_and, nib_or, nib_or, Nat.zero_or]
    have e15 : 15 &&& nib a.2.1 k = nib a.2.1 k := by
      have H : ∀ x : _root_.Fin 16, 15 &&& x.val = x.val := by decide +kernel
      exact H ⟨_, nib_lt _ _⟩
    rw [e15]
end
section
section
variable {cs ts ns : List Int} {V T : Nat}
theorem Clo.cz (c : Clo cs ts V T) {i : Nat} (hi : i < 16) : cs.getD (0 + (i : Int)).toNat 0 = ((nib V i : Nat) : Int) := by rw [z_add, Int.toNat_natCast]; exact c.c i hi
theorem Clo.tz (c : Clo cs ts V T) {i : Nat} (hi : i < 16) : ts.getD (0 + (i : Int)).toNat 0 = ((nib T i : Nat) : Int) := by rw [z_add, Int.toNat_natCast]; exact c.t i hi
theorem agrees_of (c : Clo cs ts V T) : Agrees cs ts where
  cr := fun i hi => by rw [c.cz hi]; have := nib_lt V i; omega
  tr := fun i hi => by rw [c.tz hi]; have := nib_lt T i; omega
  ct := fun i hi => by rw [c.tz hi, c.cz hi, Int.toNat_natCast, c.c _ (nib_lt T i), (okA_of c.ok hi).1]
  tc := fun i hi => by rw [c.tz hi, c.cz hi, Int.toNat_natCast, c.t _ (nib_lt V i), (okA_of c.ok hi).2.1]
  or := fun i j hi hj => by
    have hj16 := Nat.lt_trans hj hi
    rw [c.tz hi, c.tz hj16, z_add, z_add, bor_cast hi hj16, bor_cast (nib_lt _ _) (nib_lt _ _), Int.toNat_natCast, Int.toNat_natCast, c.t _ (or_lt16 hi hj16), c.t _ (or_lt16 (nib_lt _ _) (nib_lt _ _)), okB_of c.ok hi hj]
theorem profIn_of (c : Clo cs ts V T) (hn : ns.length = 4) : ProfIn cs ts ns := ⟨c.lc, c.lt, hn, (agrees_of c).tc⟩
noncomputable def betw (s t m : Nat) : Bool := Nat.beq (m &&& t) t && Nat.beq (m ||| s) s
noncomputable def betwL (s t n : Nat) : List Nat := (List.range n).filter (betw s t)
noncomputable def pls (m : Nat) : List Int := plOf (0 + (m : Int)) 4
noncomputable def bAt (m : Nat) : Int := 1 - ((pls m).length : Int).fmod 2 * 2
theorem cls_betw (c : Clo cs ts V T) {i : Nat} (hi : i < 16) : ∀ n : Nat, n ≤ 16 → cls cs ns ((nib V i : Nat) : Int) n =
    (((betwL (nib V i) (nib T i) n).length : Int), ((betwL (nib V i) (nib T i) n).map bAt).sum, ((betwL (nib V i) (nib T i) n).map fun m => ((pls m).length : Int)).sum, ((betwL (nib V i) (nib T i) n).map fun m => plSum ns (pls m)).sum)
  | 0, _ => rfl
  | n + 1, h => by
    have ih := cls_betw c hi n (by omega)
    unfold cls
    rw [c.cz (show n < 16 by omega), ih]
    have e : (((nib V n : Nat) : Int) = ((nib V i : Nat) : Int)) ↔ betw (nib V i) (nib T i) n = true := by
      have h := okC_of c.ok hi (show n < 16 by omega)
      unfold betw
      rw [← h]
      constructor
      · intro e; rw [Int.ofNat_inj.mp e]; exact Nat.beq_refl _
      · intro e; rw [Nat.eq_of_beq_eq_true e]
    have er : betwL (nib V i) (nib T i) (n + 1) = betwL (nib V i) (nib T i) n ++ (if betw (nib V i) (nib T i) n = true then [n] else []) := by
      unfold betwL
      rw [List.range_succ, List.filter_append]
      congr 1
      rw [List.filter_cons, List.filter_nil]
    rw [er]
    by_cases hb : betw (nib V i) (nib T i) n = true
    · rw [if_pos (e.mpr hb), if_pos hb]
      simp only [List.length_append, List.map_append, List.sum_append, List.length_cons, List.length_nil, List.map_cons, List.map_nil, List.sum_cons, List.sum_nil, add4, entAt, Prod.mk.injEq]
      refine ⟨by omega, ?_, ?_, ?_⟩
      · show 1 - ((pls n).length : Int).fmod 2 * 2 + _ = _ + (1 - ((pls n).length : Int).fmod 2 * 2 + 0); omega
      · show ((pls n).length : Int) + _ = _ + (((pls n).length : Int) + 0); omega
      · show plSum ns (pls n) + _ = _ + (plSum ns (pls n) + 0); omega
    · rw [if_neg (fun h => hb (e.mp h)), if_neg hb, List.append_nil]
theorem sum_flat (ns : List Int) : ∀ l : List Nat, (l.map fun m => plSum ns (pls m)).sum = plSum ns (l.flatMap pls)
  | [] => rfl
  | m :: l => by
    rw [List.map_cons, List.sum_cons, sum_flat ns l, List.flatMap_cons]
    unfold plSum
    rw [List.map_append, List.sum_append]
noncomputable def cntOk (s t : Nat) : Bool :=
  let M := betwL s t 16
  let X := M.flatMap pls
  let Y := pls s ++ pls t
  let W := dueW (0 + (s : Int)) (0 + (t : Int))
  decide ((M.length : Int) = W) && (decide ((M.map bAt).sum = dueS (0 + (s : Int)) (0 + (t : Int))) && (decide ((M.map fun m => ((pls m).length : Int)).sum = dueN (0 + (s : Int)) (0 + (t : Int))) &&
    (decide (2 * (X.count 0 : Int) = W * (Y.count 0 : Int)) && (decide (2 * (X.count 1 : Int) = W * (Y.count 1 : Int)) && (decide (2 * (X.count 2 : Int) = W * (Y.count 2 : Int)) && (decide (2 * (X.count 3 : Int) = W * (Y.count 3 : Int)) && Nat.ble (pls t).length (pls s).length))))))
theorem cnt_all : ((List.range 16).all fun s => (List.range 16).all fun t => !(Nat.beq (s &&& t) t) || cntOk s t) = true := by decide +kernel
theorem pls_lo {m : Nat} {p : Int} (h : p ∈ pls m) : 0 ≤ p ∧ p < 4 := (plOf_facts _ 4).2 p h
theorem tops_sub (c : Clo cs ts V T) {i : Nat} (hi : i < 16) : nib V i &&& nib T i = nib T i := by
  have h := okC_of c.ok hi hi
  rw [Nat.beq_refl] at h
  have h' := (Bool.and_eq_true _ _).mp h.symm
  have e1 := Nat.eq_of_beq_eq_true h'.1
  have e2 := Nat.eq_of_beq_eq_true h'.2
  clear h h'
  generalize nib V i = a at *
  generalize nib T i = b at *
  refine Nat.eq_of_testBit_eq fun j => ?_
  have b1 := congrArg (Nat.testBit · j) e1
  have b2 := congrArg (Nat.testBit · j) e2
  simp only [Nat.testBit_and, Nat.testBit_or] at b1 b2 ⊢
  revert b1 b2
  cases a.testBit j <;> cases b.testBit j <;> cases i.testBit j <;> simp
theorem due_of (c : Clo cs ts V T) {r : Int × P4} (h : r ∈ profOf cs ns 16) : (0 ≤ r.1 ∧ r.1 < 16) ∧ (0 ≤ ts.getD r.1.toNat 0 ∧ ts.getD r.1.toNat 0 < 16) ∧ (plOf (ts.getD r.1.toNat 0) 4).length ≤ (plOf r.1 4).length ∧
    r.2 = (dueW r.1 (ts.getD r.1.toNat 0), dueS r.1 (ts.getD r.1.toNat 0), dueN r.1 (ts.getD r.1.toNat 0), dueT ns r.1 (ts.getD r.1.toNat 0)) := by
  obtain ⟨i, hi, e⟩ := prof_keys cs ns 16 r.1 (List.mem_map_of_mem h)
  rw [c.cz hi] at e
  have hr := prof_row h
  rw [e, cls_betw c hi 16 (Nat.le_refl _)] at hr
  have ht : ts.getD r.1.toNat 0 = ((nib T i : Nat) : Int) := by rw [e, Int.toNat_natCast, c.t _ (nib_lt V i), (okA_of c.ok hi).2.1]
  have hc := List.all_eq_true.mp (List.all_eq_true.mp cnt_all (nib V i) (List.mem_range.mpr (nib_lt V i))) (nib T i) (List.mem_range.mpr (nib_lt T i))
  rw [tops_sub c hi, Nat.beq_refl] at hc
  replace hc : cntOk (nib V i) (nib T i) = true := hc
  rw [ht, e]
  have lv := nib_lt V i
  have lt := nib_lt T i
  generalize nib V i = sv at *
  generalize nib T i = tv at *
  unfold cntOk at hc
  simp only [Bool.and_eq_true, decide_eq_true_eq, z_add] at hc
  obtain ⟨q1, q2, q3, c0, c1, c2, c3, q4⟩ := hc
  have q4' := Nat.le_of_ble_eq_true q4
  unfold pls at q4'
  rw [z_add, z_add] at q4'
  refine ⟨by omega, by omega, q4', ?_⟩
  rw [hr, q1, q2, q3, sum_flat]
  congr 3
  unfold dueT
  have eY : ((plOf (sv : Int) 4 ++ plOf (tv : Int) 4).map fun p => ns.getD p.toNat 0).sum = plSum ns (pls sv ++ pls tv) := by unfold plSum pls; rw [z_add, z_add]
  rw [eY, plSum_count ns (pls sv ++ pls tv) (fun p hp => by rcases List.mem_append.mp hp with hp | hp <;> exact pls_lo hp), plSum_count ns ((betwL sv tv 16).flatMap pls) (fun p hp => by obtain ⟨m, _, hm⟩ := List.mem_flatMap.mp hp; exact pls_lo hm)]
  rw [Int.mul_add, Int.mul_add, Int.mul_add, ← Int.mul_assoc, ← Int.mul_assoc, ← Int.mul_assoc, ← Int.mul_assoc, ← c0, ← c1, ← c2, ← c3, Int.mul_assoc, Int.mul_assoc, Int.mul_assoc, Int.mul_assoc, ← Int.mul_add, ← Int.mul_add, ← Int.mul_add]
  rw [Int.mul_fdiv_cancel_left _ (by decide)]
theorem next_of (c : Clo cs ts V T) {k : Int} (h : k ∈ (profOf cs ns 16).map (·.1)) (h15 : k ≠ 15) : nextOf cs k ≠ [] := by
  obtain ⟨i, hi, e⟩ := prof_keys cs ns 16 k h
  rw [c.cz hi] at e
  rcases (okA_of c.ok hi).2.2.2 with h | ⟨p, hp, h⟩
  · exact absurd (by rw [e, h]; rfl) h15
  · unfold nextN at h
    rw [Bool.and_eq_true] at h
    have lp : 2 ^ p < 16 := by
      have : p = 0 ∨ p = 1 ∨ p = 2 ∨ p = 3 := by first | exact orN4 (by omega) | exact orI4 (by omega) (by omega)
      rcases this with rfl | rfl | rfl | rfl <;> decide
    have hx := xor_lt16 (nib_lt V i) lp
    have h1 : nib V i < nib V i ^^^ 2 ^ p := Nat.le_of_ble_eq_true h.1
    have h2 := Nat.eq_of_beq_eq_true h.2
    refine List.ne_nil_of_mem (a := ((nib V i ^^^ 2 ^ p : Nat) : Int)) (List.mem_filter.mpr ⟨List.mem_map.mpr ⟨p, List.mem_range.mpr hp, ?_⟩, ?_⟩)
    · unfold moreAt
      rw [z_add, Int.toNat_natCast, Int.one_mul, e, show ((2 : Int) ^ p) = ((2 ^ p : Nat) : Int) from (Int.natCast_pow 2 p).symm, bxor_cast (nib_lt V i) lp]
    · unfold nextP
      rw [Bool.and_eq_true, Int.toNat_natCast, c.c _ hx, h2, e]
      exact ⟨decide_eq_true (Int.ofNat_lt.mpr h1), decide_eq_true rfl⟩
end
end
section
noncomputable def perms1 : List (List Int) := [[0]]
noncomputable def perms2 : List (List Int) := [[0, 1], [1, 0]]
noncomputable def perms3 : List (List Int) := [[0, 1, 2], [0, 2, 1], [1, 0, 2], [1, 2, 0], [2, 0, 1], [2, 1, 0]]
theorem ins1 : ∀ l ∈ perms1, ∀ k < 2, insAt l k (0 + ((1 : Nat) : Int)) ∈ perms2 := by decide +kernel
theorem ins2 : ∀ l ∈ perms2, ∀ k < 3, insAt l k (0 + ((2 : Nat) : Int)) ∈ perms3 := by decide +kernel
theorem ins3 : ∀ l ∈ perms3, ∀ k < 4, insAt l k (0 + ((3 : Nat) : Int)) ∈ perms := by decide +kernel
theorem perms_len1 : ∀ l ∈ perms1, l.length = 1 := by decide +kernel
theorem perms_len2 : ∀ l ∈ perms2, l.length = 2 := by decide +kernel
theorem perms_len3 : ∀ l ∈ perms3, l.length = 3 := by decide +kernel
theorem insO_perm (lt : Int → Int → Bool) : insO lt 4 ∈ perms := by
  have h1 : insO lt 1 ∈ perms1 := .head _
  have h2 : insO lt 2 ∈ perms2 := ins1 _ h1 _ (Nat.lt_succ_of_le (Nat.le_trans (bis_le _ _ _ _ (Nat.zero_le _)) (Nat.le_of_eq (perms_len1 _ h1))))
  have h3 : insO lt 3 ∈ perms3 := ins2 _ h2 _ (Nat.lt_succ_of_le (Nat.le_trans (bis_le _ _ _ _ (Nat.zero_le _)) (Nat.le_of_eq (perms_len2 _ h2))))
  exact ins3 _ h3 _ (Nat.lt_succ_of_le (Nat.le_trans (bis_le _ _ _ _ (Nat.zero_le _)) (Nat.le_of_eq (perms_len3 _ h3))))
theorem ks_ne {k : KeysD} (g : KeyGood k) : ∀ p ∈ k.ks, p.2 ≠ 0 := by
  intro p hp
  simp only [KeysD.ks, List.mem_cons, List.not_mem_nil, or_false] at hp
  rcases hp with rfl | rfl | rfl
  · exact g.d0
  · exact g.d1
  · exact g.d2
theorem ord_perm {dat : Int → RowD} {k : KeysD} (g : KeyGood k) : ordOf dat k.ks 4 ∈ perms := by rw [ordOf_insO dat (ks_ne g)]; exact insO_perm _
theorem at_like {r f : RowD} (h : r.r0 = f.r0 ∧ r.r1 = f.r1 ∧ r.r2 = f.r2 ∧ r.r3 = f.r3) (c : Int) : r.at c = f.at c := by unfold RowD.at; rw [h.1, h.2.1, h.2.2.1, h.2.2.2]
theorem key_like {r f : RowD} (h : r.r0 = f.r0 ∧ r.r1 = f.r1 ∧ r.r2 = f.r2 ∧ r.r3 = f.r3) (ks : List (Int × Int)) : keyOf r ks = keyOf f ks := by
  unfold keyOf
  refine List.map_congr_left fun p _ => ?_
  rw [at_like h]
theorem ord_srt {r f : Int → RowD} {k : KeysD} (g : KeyGood k) (like : ∀ n : Int, 0 ≤ n → n ≤ 3 → (r n).r0 = (f n).r0 ∧ (r n).r1 = (f n).r1 ∧ (r n).r2 = (f n).r2 ∧ (r n).r3 = (f n).r3) (h3 : ∀ n : Int, 0 ≤ n → n ≤ 3 → (f n).r3 = n) : ordOf r k.ks 4 = srtKs f k.ks := by
  have e : srtKs f k.ks = insO (fun a b => lexB (keyOf (f a) k.ks) (keyOf (f b) k.ks)) 4 := by
    unfold srtKs
    refine srt_ins (fun n => keyOf (f n) k.ks) (fun i j _ _ => by simp only [keyOf, List.length_map]) (fun i j hi hj hij he => ?_)
    have e3 : ∀ n : Nat, (keyOf (f (0 + (n : Int))) k.ks)[2]? = some ((f (0 + (n : Int))).at 3 * k.d2) := fun n => by
      show some ((f (0 + (n : Int))).at k.c2 * k.d2) = _
      rw [g.c2]
    have h := congrArg (fun l : List Int => l[2]?) he
    simp only [e3] at h
    have hm := Option.some.inj h
    have hi3 : (f (0 + (i : Int))).at 3 = (i : Int) := by
      show (f (0 + (i : Int))).r3 = _
      rw [h3 _ (by omega) (by omega)]; omega
    have hj3 : (f (0 + (j : Int))).at 3 = (j : Int) := by
      show (f (0 + (j : Int))).r3 = _
      rw [h3 _ (by omega) (by omega)]; omega
    rw [hi3, hj3] at hm
    have := Int.eq_of_mul_eq_mul_right g.d2 hm
    omega
  rw [e, ordOf_insO r (ks_ne g)]
  refine (insO_congr (fun i j hi hj _ => ?_) 4 (Nat.le_refl _)).1
  show lexB (keyOf (r _) _) (keyOf (r _) _) = lexB (keyOf (f _) _) (keyOf (f _) _)
  rw [key_like (like (0 + (i : Int)) (by omega) (by omega)), key_like (like (0 + (j : Int)) (by omega) (by omega))]
end
section
noncomputable def segAt (l : List Led) (t : Led) (i : Nat) : Led := if i = 999 then t else l.getD i []
theorem seg_sub {l : List Led} {t : Led} {i : Nat} {p : Addr × Obj} (h : p ∈ segAt l t i) : p ∈ l.foldr (fun a b => a ++ b) t := by
  unfold segAt at h
  split at h
  · rename_i n
    clear n
    induction l with
    | nil => exact h
    | cons a r ih => exact List.mem_append_right _ ih
  · rename_i n
    clear n
    induction l generalizing i with
    | nil => cases h
    | cons a r ih =>
      cases i with
      | zero => exact List.mem_append_left _ h
      | succ i => exact List.mem_append_right _ (ih (i := i) h)
theorem sub_ix (l : List Led) (t : Led) (ix : List Nat) (j : Nat) : ∀ p ∈ (ix.map (segAt l t)).foldr (fun a b => a ++ b) (segAt l t j), p ∈ l.foldr (fun a b => a ++ b) t := by
  intro p hp
  induction ix with
  | nil => exact seg_sub hp
  | cons i r ih =>
    rcases List.mem_append.mp hp with h | h
    · exact seg_sub h
    · exact ih h
theorem led2 {m d c0 c1 c2 c3 c4 c5 c6 t1 t2 t3 : Addr × Obj}  : ∀ p ∈ m :: (c0 :: (c1 :: (c2 :: (c3 :: (c4 :: (c5 :: (c6 :: (t1 :: (t2 :: (t3 :: (d :: ([])))))))))))), p ∈ m :: (d :: (c0 :: (c1 :: (c2 :: (c3 :: (c4 :: (c5 :: (c6 :: (t1 :: (t2 :: (t3 :: ([])))))))))))) := sub_ix [[m], [d], [c0], [c1], [c2], [c3], [c4], [c5], [c6], [t1], [t2], [t3]] [] [0, 2, 3, 4, 5, 6, 7, 8, 9, 10, 11, 1] 999
theorem led3 {m c0 c1 c2 c3 c4 c5 c6 t1 t2 t3 d : Addr × Obj} {F : Led} : ∀ p ∈ F ++ (c0 :: (c1 :: (c2 :: (c3 :: (c4 :: (c5 :: (c6 :: (t1 :: (t2 :: (t3 :: (m :: (d :: ([]))))))))))))), p ∈ F ++ (m :: (c0 :: (c1 :: (c2 :: (c3 :: (c4 :: (c5 :: (c6 :: (t1 :: (t2 :: (t3 :: (d :: ([]))))))))))))) := sub_ix [F, [m], [c0], [c1], [c2], [c3], [c4], [c5], [c6], [t1], [t2], [t3], [d]] [] [0, 2, 3, 4, 5, 6, 7, 8, 9, 10, 11, 1, 12] 999
theorem led4 {c0 c1 c2 c3 c4 c5 c6 t1 t2 t3 m d : Addr × Obj} {R F : Led} : ∀ p ∈ d :: (c0 :: (c1 :: (c2 :: (c3 :: (c4 :: (c5 :: (c6 :: (t1 :: (t2 :: (t3 :: (R ++ (F ++ (m :: ([])))))))))))))), p ∈ R ++ (F ++ (c0 :: (c1 :: (c2 :: (c3 :: (c4 :: (c5 :: (c6 :: (t1 :: (t2 :: (t3 :: (m :: (d :: ([])))))))))))))) := sub_ix [R, F, [c0], [c1], [c2], [c3], [c4], [c5], [c6], [t1], [t2], [t3], [m], [d]] [] [13, 2, 3, 4, 5, 6, 7, 8, 9, 10, 11, 0, 1, 12] 999
theorem led5 {k d c0 c1 c2 c3 c4 c5 c6 t1 t2 t3 m : Addr × Obj} {K2 K1 K0 R F : Led} : ∀ p ∈ k :: (K0 ++ (K1 ++ (K2 ++ (R ++ (c0 :: (c1 :: (c2 :: (c3 :: (c4 :: (c5 :: (c6 :: (t1 :: (t2 :: (t3 :: (F ++ (m :: ([]))))))))))))))))), p ∈ k :: (K2 ++ (K1 ++ (K0 ++ (d :: (c0 :: (c1 :: (c2 :: (c3 :: (c4 :: (c5 :: (c6 :: (t1 :: (t2 :: (t3 :: (R ++ (F ++ (m :: ([])))))))))))))))))) := sub_ix [[k], K2, K1, K0, [d], [c0], [c1], [c2], [c3], [c4], [c5], [c6], [t1], [t2], [t3], R, F, [m]] [] [0, 3, 2, 1, 15, 5, 6, 7, 8, 9, 10, 11, 12, 13, 14, 16, 17] 999
theorem led6 {ol o0 o1 o2 k c0 c1 c2 c3 c4 c5 c6 t1 t3 t2 m : Addr × Obj} {K0 K1 K2 F : Led} : ∀ p ∈ ol :: (o0 :: (o1 :: (o2 :: (k :: (c0 :: (c1 :: (c2 :: (c3 :: (c4 :: (c5 :: (c6 :: (t1 :: (t3 :: (K0 ++ (K1 ++ (K2 ++ (t2 :: (F ++ (m :: ([])))))))))))))))))))), p ∈ ol :: (o0 :: (o1 :: (o2 :: (k :: (c0 :: (c1 :: (c2 :: (c3 :: (c4 :: (c5 :: (c6 :: (t1 :: (t3 :: (t2 :: (K0 ++ (K1 ++ (K2 ++ (F ++ (m :: ([])))))))))))))))))))) := sub_ix [[ol], [o0], [o1], [o2], [k], [c0], [c1], [c2], [c3], [c4], [c5], [c6], [t1], [t3], [t2], K0, K1, K2, F, [m]] [] [0, 1, 2, 3, 4, 5, 6, 7, 8, 9, 10, 11, 12, 13, 15, 16, 17, 14, 18, 19] 999
theorem led8 {cl t1 ol o0 o1 o2 c0 c1 c2 c3 c4 c5 c6 : Addr × Obj} {X : Led} : ∀ p ∈ cl :: (c0 :: (c1 :: (c2 :: (c3 :: (c4 :: (c5 :: (c6 :: (t1 :: (ol :: (o0 :: (o1 :: (o2 :: (X))))))))))))), p ∈ cl :: (t1 :: (ol :: (o0 :: (o1 :: (o2 :: (c0 :: (c1 :: (c2 :: (c3 :: (c4 :: (c5 :: (c6 :: (X))))))))))))) := sub_ix [[cl], [t1], [ol], [o0], [o1], [o2], [c0], [c1], [c2], [c3], [c4], [c5], [c6]] X [0, 6, 7, 8, 9, 10, 11, 12, 1, 2, 3, 4, 5] 999
theorem led9 {tl cl c0 c1 c2 c3 c4 c5 c6 t1 ol o0 o1 o2 : Addr × Obj} {X : Led} : ∀ p ∈ tl :: (cl :: (ol :: (o0 :: (o1 :: (o2 :: (c0 :: (c1 :: (c2 :: (c3 :: (c4 :: (c5 :: (c6 :: (t1 :: (X)))))))))))))), p ∈ tl :: (cl :: (c0 :: (c1 :: (c2 :: (c3 :: (c4 :: (c5 :: (c6 :: (t1 :: (ol :: (o0 :: (o1 :: (o2 :: (X)))))))))))))) := sub_ix [[tl], [cl], [c0], [c1], [c2], [c3], [c4], [c5], [c6], [t1], [ol], [o0], [o1], [o2]] X [0, 1, 10, 11, 12, 13, 2, 3, 4, 5, 6, 7, 8, 9] 999
theorem led10 {tl cl ol o0 o1 o2 c0 c1 c2 c3 c4 c5 c6 t1 t3 t2 m : Addr × Obj} {F : Led} : ∀ p ∈ tl :: (cl :: (m :: (c0 :: (c1 :: (c2 :: (c3 :: (c4 :: (c5 :: (c6 :: (t1 :: (t3 :: (t2 :: ([]))))))))))))), p ∈ tl :: (cl :: (ol :: (o0 :: (o1 :: (o2 :: (c0 :: (c1 :: (c2 :: (c3 :: (c4 :: (c5 :: (c6 :: (t1 :: (t3 :: (t2 :: (F ++ (m :: ([])))))))))))))))))) := sub_ix [[tl], [cl], [ol], [o0], [o1], [o2], [c0], [c1], [c2], [c3], [c4], [c5], [c6], [t1], [t3], [t2], F, [m]] [] [0, 1, 17, 6, 7, 8, 9, 10, 11, 12, 13, 14, 15] 999
theorem led11 {pf tl cl m c0 c1 c2 c3 c4 c5 c6 t1 t3 t2 : Addr × Obj} {E : Led} : ∀ p ∈ pf :: (tl :: (m :: (c0 :: (c1 :: (c2 :: (c3 :: (c4 :: (c5 :: (c6 :: (cl :: (t1 :: (t3 :: (t2 :: (E)))))))))))))), p ∈ pf :: (E ++ (tl :: (cl :: (m :: (c0 :: (c1 :: (c2 :: (c3 :: (c4 :: (c5 :: (c6 :: (t1 :: (t3 :: (t2 :: ([]))))))))))))))) := sub_ix [[pf], E, [tl], [cl], [m], [c0], [c1], [c2], [c3], [c4], [c5], [c6], [t1], [t3], [t2]] [] [0, 2, 4, 5, 6, 7, 8, 9, 10, 11, 3, 12, 13, 14] 1
theorem led12 {pf tl m c0 c1 c2 c3 c4 c5 c6 cl t1 t3 t2 : Addr × Obj} {E : Led} : ∀ p ∈ pf :: (c0 :: (c1 :: (c2 :: (c3 :: (c4 :: (c5 :: (c6 :: (tl :: (cl :: (t1 :: (t3 :: (t2 :: (E))))))))))))), p ∈ pf :: (tl :: (m :: (c0 :: (c1 :: (c2 :: (c3 :: (c4 :: (c5 :: (c6 :: (cl :: (t1 :: (t3 :: (t2 :: (E)))))))))))))) := sub_ix [[pf], [tl], [m], [c0], [c1], [c2], [c3], [c4], [c5], [c6], [cl], [t1], [t3], [t2]] E [0, 3, 4, 5, 6, 7, 8, 9, 1, 10, 11, 12, 13] 999
theorem led13 {pf c0 c1 c2 c3 c4 c5 c6 tl cl t1 t3 t2 : Addr × Obj} {E : Led} : ∀ p ∈ pf :: (cl :: (tl :: (c0 :: (c1 :: (c2 :: (c3 :: (c4 :: (c5 :: (c6 :: (t1 :: (t3 :: (t2 :: (E))))))))))))), p ∈ pf :: (c0 :: (c1 :: (c2 :: (c3 :: (c4 :: (c5 :: (c6 :: (tl :: (cl :: (t1 :: (t3 :: (t2 :: (E))))))))))))) := sub_ix [[pf], [c0], [c1], [c2], [c3], [c4], [c5], [c6], [tl], [cl], [t1], [t3], [t2]] E [0, 9, 8, 1, 2, 3, 4, 5, 6, 7, 10, 11, 12] 999
theorem led14 {pf cl tl c0 c1 c2 c3 c4 c5 c6 t1 t3 t2 : Addr × Obj} {E : Led} : ∀ p ∈ pf :: (cl :: (c0 :: (c1 :: (c2 :: (c3 :: (c4 :: (c5 :: (c6 :: (tl :: (t1 :: (t3 :: (t2 :: (E))))))))))))), p ∈ pf :: (cl :: (tl :: (c0 :: (c1 :: (c2 :: (c3 :: (c4 :: (c5 :: (c6 :: (t1 :: (t3 :: (t2 :: (E))))))))))))) := sub_ix [[pf], [cl], [tl], [c0], [c1], [c2], [c3], [c4], [c5], [c6], [t1], [t3], [t2]] E [0, 1, 3, 4, 5, 6, 7, 8, 9, 2, 10, 11, 12] 999
theorem led15 {pf cl c0 c1 c2 c3 c4 c5 c6 tl t1 t3 t2 : Addr × Obj} {E : Led} : ∀ p ∈ t1 :: (t3 :: (t2 :: ([]))), p ∈ pf :: (cl :: (c0 :: (c1 :: (c2 :: (c3 :: (c4 :: (c5 :: (c6 :: (tl :: (t1 :: (t3 :: (t2 :: (E))))))))))))) := sub_ix [[pf], [cl], [c0], [c1], [c2], [c3], [c4], [c5], [c6], [tl], [t1], [t3], [t2]] E [10, 11, 12] 500
section
variable {w : World} {z : Env0} {dp un : Nat} {gd : Option (List Code)} {a : Addr} {ccd : Value} {outer : List Env} {A₀ : Around} {base g : Heap} {L : Nat} {s : Shared} {tk : Nat} {h₁ : Heap} {Q : Flow → Shared → Prop} {E : Value → Shared → Prop}
theorem ord_ok {o : OrdD} (i : IntsAre o.its o.ns) (y : o.ns ∈ perms) : o.Ok := ⟨i, (perm_lo _ y).1, (perm_lo _ y).2⟩
theorem due_ok {cs ts ns : List Int} {V T : Nat} (c : Clo cs ts V T) {es : List PE} (rows : es.map PE.row = profOf cs ns 16) : ∀ e ∈ es, DueOk ts ns e := fun e he => by
  have h := due_of (ns := ns) c (r := e.row) (by rw [← rows]; exact List.mem_map_of_mem he)
  exact ⟨h.1, h.2.1, h.2.2.1, h.2.2.2⟩
theorem prof_nd {cs ns : List Int} {es : List PE} (rows : es.map PE.row = profOf cs ns 16) : (es.map PE.key).Nodup := by rw [keys_rows rows]; exact prof_nodup cs ns 16
theorem prof_sa {cs ns : List Int} {es : List PE} (rows : es.map PE.row = profOf cs ns 16) : (es.map PE.a).sum = 16 := by
  rw [← prof_a cs ns, ← rows, List.map_map]; rfl
theorem prof_sb {cs ns : List Int} {es : List PE} (rows : es.map PE.row = profOf cs ns 16) : (es.map PE.b).sum = 0 := by
  rw [← prof_b cs ns, ← rows, List.map_map]; rfl
theorem offC_low {L n : Nat} (h : n < L) : OffC L n := ⟨by omega, by omega, by omega, by omega, by omega, by omega, by omega⟩
theorem OffK.append {L : Nat} {l k : Led} (h : OffK L l) (h' : OffK L k) : OffK L (l ++ k) := fun q hq => (List.mem_append.mp hq).elim (h q) (h' q)
end
section
namespace law_body
noncomputable def epsP : World → Env0 → Nat → Nat → (Option (List Code)) → Addr → Value → (List Env) → Around → Heap → Heap → Nat → Shared → Nat → Heap → (Flow → Shared → Prop) → (Value → Shared → Prop) → Addr → (List Value) → (List Int) → (Str → Option Value) → Obj → Obj → Obj → Obj → Obj → Obj → Obj → Prop := fun w z dp un gd a ccd outer A₀ base g L s tk h₁ Q E ax its ss u co0 co1 co2 co3 co4 co5 co6 => ∀ (B : Below A₀ base outer g) (X : (hd.heap_1 w.params).In g) (T : Top z.p z.loose z.mean z.mg z.mb g) (cL : CodeHd base 166 162) (cY : CodeHd base 145 141) (cS : CodeHd base 138 134) (hdp : dp + 80 < recursionLimit) (hun : un + 300 < cLine) (hL : 162 < L) (hl : g.IsList ax its.toArray) (hi : IntsAre its ss) (hlen : ss.length ≤ 63) (cd0 : co0.data = Data.cell none) (cd1 : co1.data = Data.cell none) (cd2 : co2.data = Data.cell none) (cd3 : co3.data = Data.cell none) (cd4 : co4.data = Data.cell none) (cd5 : co5.data = Data.cell none) (cd6 : co6.data = Data.cell none) (F : Fr g L h₁ (kstB u [(Str.ofString "script", .ref ax)])) (N : News g L h₁ ((L + 1, co0) :: (L + 1 + 1, co1) :: (L + 1 + 1 + 1, co2) :: (L + 1 + 1 + 1 + 1, co3) :: (L + 1 + 1 + 1 + 1 + 1, co4) :: (L + 1 + 1 + 1 + 1 + 1 + 1, co5) :: (L + 1 + 1 + 1 + 1 + 1 + 1 + 1, co6) :: [(162, tabObj #[]), (141, tabObj #[]), (134, tabObj #[])])) (k : ∀ (h' : Heap) (tk' : Nat) (m' : Str → Option Value) (p1 p2 p3 : Array Value), Fr g L h' m' → h'.get? 162 = some (tabObj p1) → h'.get? 141 = some (tabObj p2) → h'.get? 134 = some (tabObj p3) → Q (.ret (.bool true)) { s with heap := h', toks := tk' }), wpAny (model PySem.Challenge.rw_wf0038_01.prog w) (lawA dp un gd L a ccd outer) (execs (lawRest 0) (lawE L a ccd)) Q E { s with heap := h₁, toks := tk }
noncomputable abbrev epsT : Type := World × Env0 × Nat × Nat × (Option (List Code)) × Addr × Value × (List Env) × Around × Heap × Heap × Nat × Shared × Nat × Heap × (Flow → Shared → Prop) × (Value → Shared → Prop) × Addr × (List Value) × (List Int) × (Str → Option Value) × Obj × Obj × Obj × Obj × Obj × Obj × Obj
noncomputable abbrev epsQ : epsT → Prop := fun d => epsP d.1 d.2.1 d.2.2.1 d.2.2.2.1 d.2.2.2.2.1 d.2.2.2.2.2.1 d.2.2.2.2.2.2.1 d.2.2.2.2.2.2.2.1 d.2.2.2.2.2.2.2.2.1 d.2.2.2.2.2.2.2.2.2.1 d.2.2.2.2.2.2.2.2.2.2.1 d.2.2.2.2.2.2.2.2.2.2.2.1 d.2.2.2.2.2.2.2.2.2.2.2.2.1 d.2.2.2.2.2.2.2.2.2.2.2.2.2.1 d.2.2.2.2.2.2.2.2.2.2.2.2.2.2.1 d.2.2.2.2.2.2.2.2.2.2.2.2.2.2.2.1 d.2.2.2.2.2.2.2.2.2.2.2.2.2.2.2.2.1 d.2.2.2.2.2.2.2.2.2.2.2.2.2.2.2.2.2.1 d.2.2.2.2.2.2.2.2.2.2.2.2.2.2.2.2.2.2.1 d.2.2.2.2.2.2.2.2.2.2.2.2.2.2.2.2.2.2.2.1 d.2.2.2.2.2.2.2.2.2.2.2.2.2.2.2.2.2.2.2.2.1 d.2.2.2.2.2.2.2.2.2.2.2.2.2.2.2.2.2.2.2.2.2.1 d.2.2.2.2.2.2.2.2.2.2.2.2.2.2.2.2.2.2.2.2.2.2.1 d.2.2.2.2.2.2.2.2.2.2.2.2.2.2.2.2.2.2.2.2.2.2.2.1 d.2.2.2.2.2.2.2.2.2.2.2.2.2.2.2.2.2.2.2.2.2.2.2.2.1 d.2.2.2.2.2.2.2.2.2.2.2.2.2.2.2.2.2.2.2.2.2.2.2.2.2.1 d.2.2.2.2.2.2.2.2.2.2.2.2.2.2.2.2.2.2.2.2.2.2.2.2.2.2.1 d.2.2.2.2.2.2.2.2.2.2.2.2.2.2.2.2.2.2.2.2.2.2.2.2.2.2.2
theorem eN : Nonempty epsT := by walk_at "ne_all"
@[irreducible] noncomputable def eK : epsT := Pk epsT eN epsQ
@[irreducible] noncomputable def L := eK.2.2.2.2.2.2.2.2.2.2.2.1
@[irreducible] noncomputable def co0 := eK.2.2.2.2.2.2.2.2.2.2.2.2.2.2.2.2.2.2.2.2.2.1
@[irreducible] noncomputable def co1 := eK.2.2.2.2.2.2.2.2.2.2.2.2.2.2.2.2.2.2.2.2.2.2.1
@[irreducible] noncomputable def co2 := eK.2.2.2.2.2.2.2.2.2.2.2.2.2.2.2.2.2.2.2.2.2.2.2.1
@[irreducible] noncomputable def co3 := eK.2.2.2.2.2.2.2.2.2.2.2.2.2.2.2.2.2.2.2.2.2.2.2.2.1
@[irreducible] noncomputable def co4 := eK.2.2.2.2.2.2.2.2.2.2.2.2.2.2.2.2.2.2.2.2.2.2.2.2.2.1
@[irreducible] noncomputable def co5 := eK.2.2.2.2.2.2.2.2.2.2.2.2.2.2.2.2.2.2.2.2.2.2.2.2.2.2.1
@[irreducible] noncomputable def co6 := eK.2.2.2.2.2.2.2.2.2.2.2.2.2.2.2.2.2.2.2.2.2.2.2.2.2.2.2
theorem eC : epsP eK.1 eK.2.1 eK.2.2.1 eK.2.2.2.1 eK.2.2.2.2.1 eK.2.2.2.2.2.1 eK.2.2.2.2.2.2.1 eK.2.2.2.2.2.2.2.1 eK.2.2.2.2.2.2.2.2.1 eK.2.2.2.2.2.2.2.2.2.1 eK.2.2.2.2.2.2.2.2.2.2.1 L eK.2.2.2.2.2.2.2.2.2.2.2.2.1 eK.2.2.2.2.2.2.2.2.2.2.2.2.2.1 eK.2.2.2.2.2.2.2.2.2.2.2.2.2.2.1 eK.2.2.2.2.2.2.2.2.2.2.2.2.2.2.2.1 eK.2.2.2.2.2.2.2.2.2.2.2.2.2.2.2.2.1 eK.2.2.2.2.2.2.2.2.2.2.2.2.2.2.2.2.2.1 eK.2.2.2.2.2.2.2.2.2.2.2.2.2.2.2.2.2.2.1 eK.2.2.2.2.2.2.2.2.2.2.2.2.2.2.2.2.2.2.2.1 eK.2.2.2.2.2.2.2.2.2.2.2.2.2.2.2.2.2.2.2.2.1 co0 co1 co2 co3 co4 co5 co6 := by
  unfold epsP
  intro B X T cL cY cS hdp hun hL hl hi hlen cd0 cd1 cd2 cd3 cd4 cd5 cd6 F N k
  refine law0 B X T cL cY cS hdp hun hL hl hi hlen cd0 F N fun h1 tk1 D ys ds e0 co0 cd0 iD lD rD F N oD => ?_
  refine law1 B X T cL cY cS hdp hun hL iD lD rD cd0 cd1 F N oD fun h2 tk2 M zs ns e1 co1 cd1 iN lN rN F N oM => ?_
  refine law2 B X T cL cY cS hdp hun hL iN lN rN cd1 cd2 F (sub_news N led2) oM (.cons oD .nil) fun h3 tk3 f co2 cd2 hf F N oF => ?_
  refine law3 B X T cL cY cS hdp hun hL hf cd2 cd3 F (sub_news N led3) oF (.cons oM (.cons oD .nil)) fun h4 tk4 r co3 cd3 hr F N oRr => ?_
  refine law4 B X T cL cY cS hdp hun hL iD lD rD cd0 F (sub_news N led4) fun h5 tk5 kl e4 k0 k1 k2 g0 g1 g2 F N oK oK0 oK1 oK2 => ?_
  have hr3 : ∀ n : Int, 0 ≤ n → n ≤ 3 → (f.dat n).r3 = n := fun n h0 h3 => (hf n h0 h3).2.2
  have ro : r.Ok := ⟨fun n h0 h3 => ⟨by rw [(hr n h0 h3).2.1]; exact (hf n h0 h3).1, by rw [(hr n h0 h3).2.1]; exact (hf n h0 h3).2.1⟩⟩
  have oR5 : OffL L (f.led ++ [(M, W.listOf zs.toArray e1)]) := oF.append (.cons oM .nil)
  refine law5 B X T cL cY cS hdp hun hL g0 g1 g2 ro cd3 cd4 F (sub_news N led5) oK oK0 oK1 oK2 oRr oR5 fun h6 tk6 ol e5 o0 o1 o2 ps5 co4 cd4 i0 i1 i2 q0 q1 q2 F N oO => ?_
  refine law6 B X T cL cY cS hdp hun hL g0 g1 g2 i0 i1 i2 (by rw [q0]; exact ord_srt g0 hr hr3) (by rw [q1]; exact ord_srt g1 hr hr3) (by rw [q2]; exact ord_srt g2 hr hr3) cd2 cd4 F (sub_news N led6) oO oK oK0 oK1 oK2 (fun p hp => .tail _ (List.mem_append_left _ hp)) (fun q hq => by
    rcases List.mem_cons.mp hq with rfl | hq
    · exact (by decide : @Ne Nat 141 134)
    · exact (oR5 q hq).2.2.2.2.2.2.2.2.2) fun h7 tk7 ps6 F N => ?_
  have y0 : o0.ns ∈ perms := by rw [q0]; exact ord_perm g0
  have y1 : o1.ns ∈ perms := by rw [q1]; exact ord_perm g1
  have y2 : o2.ns ∈ perms := by rw [q2]; exact ord_perm g2
  have oR7 : OffK L ((134, tabObj ps6) :: (141, tabObj ps5) :: (f.led ++ [(M, W.listOf zs.toArray e1)])) := .cons (offC_low (by omega)) (.cons (offC_low (by omega)) oR5.c)
  refine law7 B X T cL cY cS hdp hun hL i0 i1 i2 y0 y1 y2 cd4 cd5 F N oO (fun q hq => by
    rcases List.mem_cons.mp hq with rfl | hq
    · exact (by decide : @Ne Nat 134 162)
    rcases List.mem_cons.mp hq with rfl | hq
    · exact (by decide : @Ne Nat 141 162)
    · exact (oR5 q hq).2.2.2.2.2.2.2.1) oR7 fun h8 tk8 ps7 cl e7 ci co5 cd5 iC F N oC => ?_
  obtain ⟨V, TT, clo, own⟩ := clo_of y0 y1 y2
  generalize closedOf (frontsL o0.ns) (frontsL o1.ns) (frontsL o2.ns) = cs at *
  refine law8 B X T cL cY cS hdp hun hL iC clo.lc cd5 cd6 F (sub_news N led8) oC (.cons (offC_low (by omega)) (oO.c.append oR7)) fun h9 tk9 tl e8 ti co6 cd6 iT F N oT => ?_
  generalize topsOf cs = ts at *
  refine law9 B X T cL cY cS hdp hun hL (ord_ok i0 y0) (ord_ok i1 y1) (ord_ok i2 y2) iC iT clo.lc clo.lt (fun k hk => by rw [own k hk, clo.c k hk, clo.t k hk]) cd4 cd5 cd6 F (sub_news N led9) fun h10 tk10 F N => ?_
  refine law10 B X T cL cY cS hdp hun hL iN iC iT (profIn_of clo lN) cd1 cd5 cd6 F (sub_news N led10) fun h11 tk11 pf po es dpo lpo okE rows len F N => ?_
  have due := due_ok clo rows
  have nd := prof_nd rows
  refine law11 B X T cL cY cS hdp hun hL iN iT lN clo.lt (fun n hn => ⟨(rN n hn).1, Int.lt_trans (rN n hn).2 (by decide)⟩) dpo lpo okE due nd len cd1 cd6 F (sub_news N led11) (fun q hq => .tail _ (.tail _ (.tail _ (.tail _ hq)))) fun h12 tk12 F N => ?_
  refine law12 B X T cL cY cS hdp hun hL dpo lpo okE len (prof_sa rows) F (sub_news N led12) (fun q hq => .tail _ (.tail _ (.tail _ (.tail _ (.tail _ hq))))) fun h13 tk13 F N => ?_
  refine law13 B X T cL cY cS hdp hun hL iC iT clo.lc clo.lt (agrees_of clo) dpo lpo len (prof_sb rows) cd5 cd6 F (sub_news N led13) (fun q hq => .tail _ (.tail _ (.tail _ hq))) fun h14 tk14 F N => ?_
  refine law14 B X T cL cY cS hdp hun hL iC clo.lc dpo lpo len (fun e he => (due e he).k) (fun e he => next_of (ns := ns) clo (by rw [← keys_rows rows]; exact List.mem_map_of_mem he)) cd5 F (sub_news N led14) fun h15 tk15 m15 F N => ?_
  have N3 := sub_news N led15
  exact k _ _ _ ps7 ps5 ps6 F (N3 _ (.head _)).1 (N3 _ (.tail _ (.tail _ (.head _)))).1 (N3 _ (.tail _ (.head _))).1
end law_body
theorem law_body {w : World} {z : Env0} {dp : Nat} {un : Nat} {gd : Option (List Code)} {a : Addr} {ccd : Value} {outer : List Env} {A₀ : Around} {base : Heap} {g : Heap} {L : Nat} {s : Shared} {tk : Nat} {h₁ : Heap} {Q : Flow → Shared → Prop} {E : Value → Shared → Prop} (B : Below A₀ base outer g) (X : (hd.heap_1 w.params).In g) (T : Top z.p z.loose z.mean z.mg z.mb g) (cL : CodeHd base 166 162) (cY : CodeHd base 145 141) (cS : CodeHd base 138 134) (hdp : dp + 80 < recursionLimit) (hun : un + 300 < cLine) (hL : 162 < L) {ax : Addr} {its : List Value} {ss : List Int} (hl : g.IsList ax its.toArray) (hi : IntsAre its ss) (hlen : ss.length ≤ 63) {u : Str → Option Value} {co0 : Obj} {co1 : Obj} {co2 : Obj} {co3 : Obj} {co4 : Obj} {co5 : Obj} {co6 : Obj} (cd0 : co0.data = Data.cell none) (cd1 : co1.data = Data.cell none) (cd2 : co2.data = Data.cell none) (cd3 : co3.data = Data.cell none) (cd4 : co4.data = Data.cell none) (cd5 : co5.data = Data.cell none) (cd6 : co6.data = Data.cell none) (F : Fr g L h₁ (kstB u [(Str.ofString "script", .ref ax)])) (N : News g L h₁ ((L + 1, co0) :: (L + 1 + 1, co1) :: (L + 1 + 1 + 1, co2) :: (L + 1 + 1 + 1 + 1, co3) :: (L + 1 + 1 + 1 + 1 + 1, co4) :: (L + 1 + 1 + 1 + 1 + 1 + 1, co5) :: (L + 1 + 1 + 1 + 1 + 1 + 1 + 1, co6) :: [(162, tabObj #[]), (141, tabObj #[]), (134, tabObj #[])])) (k : ∀ (h' : Heap) (tk' : Nat) (m' : Str → Option Value) (p1 p2 p3 : Array Value), Fr g L h' m' → h'.get? 162 = some (tabObj p1) → h'.get? 141 = some (tabObj p2) → h'.get? 134 = some (tabObj p3) → Q (.ret (.bool true)) { s with heap := h', toks := tk' }) : wpAny (model PySem.Challenge.rw_wf0038_01.prog w) (lawA dp un gd L a ccd outer) (execs (lawRest 0) (lawE L a ccd)) Q E { s with heap := h₁, toks := tk } := Pk.all (T := law_body.epsT) (ne := law_body.eN) (Q := law_body.epsQ) (by with_unfolding_all exact law_body.eC) (w, z, dp, un, gd, a, ccd, outer, A₀, base, g, L, s, tk, h₁, Q, E, ax, its, ss, u, co0, co1, co2, co3, co4, co5, co6) B X T cL cY cS hdp hun hL hl hi hlen cd0 cd1 cd2 cd3 cd4 cd5 cd6 F N k
end
section
variable {w : World} {z : Env0} {dp un : Nat} {gd : Option (List Code)} {a : Addr} {ccd : Value} {outer : List Env} {A₀ : Around} {base g : Heap} {L : Nat} {s : Shared} {tk : Nat} {h₁ : Heap} {Q : Flow → Shared → Prop} {E : Value → Shared → Prop}
end
end
section
section
variable {w : World} {z : Env0} {dp un : Nat} {gd : Option (List Code)} {a : Addr} {ccd : Value} {outer : List Env} {A₀ : Around} {base g : Heap} {L : Nat} {s : Shared} {tk : Nat} {h₁ : Heap} {Q : Flow → Shared → Prop} {E : Value → Shared → Prop}
theorem led0 {c0 c1 c2 c3 c4 c5 c6 t1 t2 t3 : Addr × Obj} : ∀ p ∈ [c0, c1, c2, c3, c4, c5, c6, t1, t2, t3], p ∈ [c6, c5, c4, c3, c2, c1, c0, t1, t2, t3] := sub_ix [[c6], [c5], [c4], [c3], [c2], [c1], [c0], [t1], [t2], [t3]] [] [6, 5, 4, 3, 2, 1, 0, 7, 8, 9] 999
theorem law_start {ax : Addr} {its : List Value} {ss : List Int} {u : Str → Option Value} {co0 co1 co2 co3 co4 co5 co6 : Obj} (F : Fr g L h₁ (kstB u [(Str.ofString "script", .ref ax)]))
   (N : News g L h₁ [(L + 1 + 1 + 1 + 1 + 1 + 1 + 1, co6), (L + 1 + 1 + 1 + 1 + 1 + 1, co5), (L + 1 + 1 + 1 + 1 + 1, co4), (L + 1 + 1 + 1 + 1, co3), (L + 1 + 1 + 1, co2), (L + 1 + 1, co1), (L + 1, co0), (162, tabObj #[]), (141, tabObj #[]), (134, tabObj #[])])
   (B : Below A₀ base outer g) (X : (hd.heap_1 w.params).In g) (T : Top z.p z.loose z.mean z.mg z.mb g) (cL : CodeHd base 166 162) (cY : CodeHd base 145 141) (cS : CodeHd base 138 134) (hdp : dp + 80 < recursionLimit) (hun : un + 300 < cLine) (hL : 162 < L)
   (hl : g.IsList ax its.toArray) (hi : IntsAre its ss) (hlen : ss.length ≤ 63)
   (cd0 : co0.data = Data.cell none) (cd1 : co1.data = Data.cell none) (cd2 : co2.data = Data.cell none) (cd3 : co3.data = Data.cell none) (cd4 : co4.data = Data.cell none) (cd5 : co5.data = Data.cell none) (cd6 : co6.data = Data.cell none)
   (k : ∀ (h' : Heap) (tk' : Nat) (m' : Str → Option Value) (p1 p2 p3 : Array Value), Fr g L h' m' → h'.get? 162 = some (tabObj p1) → h'.get? 141 = some (tabObj p2) → h'.get? 134 = some (tabObj p3) → Q (.ret (.bool true)) { s with heap := h', toks := tk' }) : wpAny (model PySem.Challenge.rw_wf0038_01.prog w) (lawA dp un gd L a ccd outer) (execs (lawRest 0) (lawE L a ccd)) Q E { s with heap := h₁, toks := tk } :=
  law_body B X T cL cY cS hdp hun hL hl hi hlen cd0 cd1 cd2 cd3 cd4 cd5 cd6 F (sub_news N led0) k
theorem law_start' {p : Program} {loose : List Str} {mean : ExcName → Option Value} {mg mb : Str → Option Value} {prog' : Program} {A' : Around} {env' : Env} {body' : List Stmt} {m' : Str → Option Value} {v0 v1 v2 v3 v4 v5 v6 : Option Value}
   {ax : Addr} {its : List Value} {ss : List Int} {co0 co1 co2 co3 co4 co5 co6 : Obj} (F : Fr g L h₁ m')
   (N : News g L h₁ [(L + 1 + 1 + 1 + 1 + 1 + 1 + 1, co6), (L + 1 + 1 + 1 + 1 + 1 + 1, co5), (L + 1 + 1 + 1 + 1 + 1, co4), (L + 1 + 1 + 1 + 1, co3), (L + 1 + 1 + 1, co2), (L + 1 + 1, co1), (L + 1, co0), (162, tabObj #[]), (141, tabObj #[]), (134, tabObj #[])])
   (B : Below callerA g [] g) (X : (hd.heap_1 w.params).In g) (T : Top p loose mean mg mb g) (cL : CodeHd g 166 162) (cY : CodeHd g 145 141) (cS : CodeHd g 138 134) (hL : 162 < L)
   (hl : g.IsList ax its.toArray) (hi : IntsAre its ss) (hlen : ss.length ≤ 63)
   (cd0 : co0.data = Data.cell v0) (cd1 : co1.data = Data.cell v1) (cd2 : co2.data = Data.cell v2) (cd3 : co3.data = Data.cell v3) (cd4 : co4.data = Data.cell v4) (cd5 : co5.data = Data.cell v5) (cd6 : co6.data = Data.cell v6)
   (hp : prog' = PySem.Challenge.rw_wf0038_01.prog) (hA : A' = lawA (1 + claimMargin + 1) 7 (some []) L (env'.func.getD 0) env'.code []) (hb : body' = lawRest 0) (he : env' = lawE L (env'.func.getD 0) env'.code)
   (hm : m' = kstB (fun _ => none) [(Str.ofString "script", .ref ax)]) (hv0 : v0 = none) (hv1 : v1 = none) (hv2 : v2 = none) (hv3 : v3 = none) (hv4 : v4 = none) (hv5 : v5 = none) (hv6 : v6 = none)
   (k : ∀ (h' : Heap) (tk' : Nat) (m' : Str → Option Value) (p1 p2 p3 : Array Value), Fr g L h' m' → h'.get? 162 = some (tabObj p1) → h'.get? 141 = some (tabObj p2) → h'.get? 134 = some (tabObj p3) → Q (.ret (.bool true)) { s with heap := h', toks := tk' }) :
   wpAny (model prog' w) A' (execs body' env') Q E { s with heap := h₁, toks := tk } := by
  subst hp hm hv0 hv1 hv2 hv3 hv4 hv5 hv6 hb
  rw [he, hA]
  exact law_start (z := ⟨p, loose, mean, mg, mb⟩) F N B X T cL cY cS (by decide) (by decide) hL hl hi hlen cd0 cd1 cd2 cd3 cd4 cd5 cd6 k
end
end
section
theorem law_all : PySem.Challenge.rw_wf0038_01.Holds := by
  refine hd ?_
  k_with_none
  k_go0
  (all_goals try k_fold)
  rename News _ _ _ _ => N
  rename Fr _ _ _ _ => F
  rename Top topProg _ _ _ _ _ => T
  rename Below _ _ _ _ => B
  rename IntsAre _ _ => hi
  refine' law_start' F N B ?Xz9 T ?cLz9 ?cYz9 ?cSz9 ?hLz9 ?hlz9 hi ?hlenz9 ?cd0z9 ?cd1z9 ?cd2z9 ?cd3z9 ?cd4z9 ?cd5z9 ?cd6z9 ?hpz9 ?hAz9 ?hbz9 ?hez9 ?hmz9 ?v0z9 ?v1z9 ?v2z9 ?v3z9 ?v4z9 ?v5z9 ?v6z9 ?kz9
  case hlz9 => assumption
  case cLz9 => assumption
  case cYz9 => assumption
  case cSz9 => assumption
  case Xz9 => assumption
  case cd0z9 => assumption
  case cd1z9 => assumption
  case cd2z9 => assumption
  case cd3z9 => assumption
  case cd4z9 => assumption
  case cd5z9 => assumption
  case cd6z9 => assumption
  case v0z9 => kernel_rfl
  case v1z9 => kernel_rfl
  case v2z9 => kernel_rfl
  case v3z9 => kernel_rfl
  case v4z9 => kernel_rfl
  case v5z9 => kernel_rfl
  case v6z9 => kernel_rfl
  case hLz9 => exact Heap.lt_size (by apply_assumption; decide)
  case hlenz9 => exact Int.ofNat_le.mp (Int.not_lt.mp (by assumption))
  case hpz9 => exact rfl
  case hAz9 => kernel_rfl
  case hbz9 => kernel_rfl
  case hez9 => kernel_rfl
  case hmz9 => kernel_rfl
  case kz9 =>
    intro h' tk' m' p1 p2 p3 F' g1 g2 g3
    refine ⟨goodW_bool F' ?hgz9 ?hnz9 ?hqz9, ⟨p1, g1⟩, ⟨p2, g2⟩, ⟨p3, g3⟩, trivial⟩
    case hgz9 => assumption
    case hnz9 => intro cls; rfl
    case hqz9 => first | wrow_post | kernel_rfl
end
end Mine
theorem PySem.Challenge.cw_wf0038_01_holds : PySem.Challenge.rw_wf0038_01.Holds := by
  exact Mine.law_all
