import PyProof.Rows.All
import Wide.All
import OpenK.AllK
import Wide.FinOn
import PySem.Challenge.RW_ph0106_01
open PySem PySem.W PyProof.Rows
set_option Elab.async false
set_option maxRecDepth 100000
set_option maxHeartbeats 8000000
local macro_rules | `(tactic| walk_at $s:str) => `(tactic| k_extra $s)
namespace Mine
open_top hd for PySem.Challenge.rw_ph0106_01
end Mine
namespace Mine
open PySem PySem.W PySem.Spec PySem.Calls PyProof.Rows
abbrev Led := List (Addr × Obj)
def Apart (own rest : Led) : Prop := ∀ p ∈ rest, p.1 ∉ own.map (·.1)
def Newer (own : Led) (h : Heap) (own' : Led) : Prop := ∀ q ∈ own', q.1 ∈ own.map (·.1) ∨ h.get? q.1 = none
structure CodesAt (base : Heap) : Prop where
  c1 : CodeHd base 76 72
  c2 : CodeHd base 83 79
  c3 : CodeHd base 55 51
  c4 : CodeHd base 48 44
section
variable (w : World) (p : Program) (loose : List Str) (mean : ExcName → Option Value) (mg mb : Str → Option Value)
/-- a contract of a called thing: from the ledger own ++ rest to own' ++ rest -/
def Spec (f : Addr) (D U : Nat) (vs : List Value) (own : Led) (Post : Led → Value → Prop) : Prop :=
  ∀ (dp un : Nat) (gd : Option (List Code)) (cn : Str) (cs : Scope) (a : Addr) (ccd : Value) (cl : List (Str × Addr)) (outer : List Env) (A₀ : Around) (base h₀ : Heap) (L : Addr) (m : Str → Option Value) (rest : Led) (s : Shared) (Q E : Value → Shared → Prop),
    Below A₀ base outer h₀ → Fr h₀ L s.heap m → (hd.heap_39 w.params).In h₀ → News h₀ L s.heap (own ++ rest) → Apart own rest → Top p loose mean mg mb h₀ → CodesAt base → cs.kind = .function →
    dp + D < recursionLimit → un + U < cLine →
    (∀ r own' h' tk', Fr h₀ L h' m → News h₀ L h' (own' ++ rest) → Newer own s.heap own' → Post own' r → Q r { s with heap := h', toks := tk' }) →
    wpAny (model PySem.Challenge.rw_ph0106_01.row.prog w) (ktrTop dp un gd cn cs L a ccd cl outer) (call (.ref f) vs) Q E s
/-- the end of a body -/
def End (g : Heap) (s : Shared) (Post : Led → Value → Prop) (v : Value) (s' : Shared) : Prop :=
  ∃ L' m' own' h' tk', s' = { s with heap := h', toks := tk' } ∧ Fr g L' h' m' ∧ News g L' h' own' ∧ Post own' v
end
section
variable {w : World} {p : Program} {loose : List Str} {mean : ExcName → Option Value} {mg mb : Str → Option Value}
theorem End.intro {g : Heap} {s : Shared} {Post : Led → Value → Prop} {v : Value} {L' : Addr} {m' : Str → Option Value} {h' : Heap} {tk' : Nat} (own' : Led) {news : Led} (F : Fr g L' h' m') (N : News g L' h' news) (sub : ∀ q ∈ own', q ∈ news) (hp : Post own' v) :
    End g s Post v { s with heap := h', toks := tk' } := ⟨L', m', own', h', tk', rfl, F, fun q hq => N q (sub q hq), hp⟩
/-- leaving: from the callee's end to the caller's ledger -/
theorem leave_own {h₀ : Heap} {L : Addr} {m : Str → Option Value} {s : Shared} {own rest : Led} (F : Fr h₀ L s.heap m) (N : News h₀ L s.heap (own ++ rest)) (ap : Apart own rest) {Post : Led → Value → Prop} {v : Value} {s' : Shared}
    (e : End (hideAll s.heap (own.map (·.1))) s Post v s') :
    ∃ own' h' tk', s' = { s with heap := h', toks := tk' } ∧ Fr h₀ L h' m ∧ News h₀ L h' (own' ++ rest) ∧ Newer own s.heap own' ∧ Post own' v := by
  obtain ⟨L', m', own', h', tk', rfl, F', N', hp⟩ := e
  have nm : ∀ b o, h₀.get? b = some o → b ∉ own.map (·.1) := fun b o e q => by
    obtain ⟨p, hp, rfl⟩ := List.mem_map.mp q
    rw [(N p (List.mem_append_left _ hp)).2.2] at e; cases e
  have st : ∀ b o, h₀.get? b = some o → (hideAll s.heap (own.map (·.1))).get? b = some o := fun b o e => hideAll_get _ (F.keep b o e) (nm b o e)
  obtain ⟨oL, es, ep, hL, hLd, hLk, hLf⟩ := F.ns
  have nL : L ∉ own.map (·.1) := fun q => by
    obtain ⟨p, hp, e⟩ := List.mem_map.mp q
    exact (N p (List.mem_append_left _ hp)).2.1 e
  have hLg := hideAll_get (own.map (·.1)) hL nL
  refine ⟨own', h', tk', rfl, ⟨⟨oL, es, ep, F'.keep L oL hLg, hLd, hLk, hLf⟩, fun b o e => F'.keep b o (st b o e), F.above⟩, fun q hq => ?_, fun q hq => ?_, hp⟩
  · rcases List.mem_append.mp hq with hq | hq
    · refine ⟨(N' q hq).1, fun e => ?_, ?_⟩
      · have := (N' q hq).2.2; rw [e, hLg] at this; cases this
      · cases e : h₀.get? q.1 with
        | none => rfl
        | some o => have := (N' q hq).2.2; rw [st _ _ e] at this; cases this
    · have n := N q (List.mem_append_right _ hq)
      exact ⟨F'.keep _ _ (hideAll_get _ n.1 (ap q hq)), n.2⟩
  · by_cases hm : q.1 ∈ own.map (·.1)
    · exact .inl hm
    · right
      cases e : s.heap.get? q.1 with
      | none => rfl
      | some o => have := (N' q hq).2.2; rw [hideAll_get _ e hm] at this; cases this
/-- a def of the written part, without cells of its own -/
theorem Spec.ofBody {f : Addr} {D U : Nat} {vs : List Value} {own : Led} {Post : Led → Value → Prop} {name qual : Str} {params : Arguments} {body : List Stmt} {scope : Scope} {dV kV doc pm cdv ct oc : Value} {an od : Option Addr} {osl : Array (Option Value)} {binds : List (Str × Value)}
    (ho : (hd.heap_39 w.params).lookup f = some ⟨oc, od, .func (fnOf name qual params body scope dV kV doc pm an cdv ct), osl⟩) (hcd : codeIn (hd.heap_39 w.params) cdv qual = true)
    (hbind : bindArgs (fnOf name qual params body scope dV kV doc pm an cdv ct) ⟨vs, []⟩ = pure binds) (hloc : ∀ y ∈ binds, scope.names.lookup y.1 = some .local)
    (h : ∀ (dp un : Nat) (gd : Option (List Code)) (outer : List Env) (A : Around) (base g : Heap) (L : Addr) (h₁ : Heap) (tk : Nat) (s : Shared),
      Below A base outer g → Fr g L h₁ (fun y => binds.reverse.lookup y) → (hd.heap_39 w.params).In g → News g L h₁ own → Top p loose mean mg mb g → CodesAt base → (∀ p ∈ own, p.1 < L) → dp + D < recursionLimit + 1 → un + U < cLine + 3 →
      wpAny (model PySem.Challenge.rw_ph0106_01.row.prog w) (ktrTop dp un gd qual scope L f cdv [] outer) (execs body (envX qual scope L f cdv []))
        (fun fl s' => End g s Post (match fl with | .ret v => v | _ => .none) s') (fun _ _ => False) { s with heap := h₁, toks := tk })
    (hroom : 1 ≤ D) (hunits : 3 ≤ U)
    (hco : scope.isCoroutine = false) (hgen : scope.isGenerator = false) (hk : scope.kind = .function) (hcell : ∀ x ∈ scope.names, x.2 ≠ .cell) : Spec w p loose mean mg mb f D U vs own Post := by
  intro dp un gd cn cs a ccd cl outer A₀ base h₀ L m rest s Q E B F X N ap T C hck hd hu ret
  have N₁ : News h₀ L s.heap own := fun q hq => N q (List.mem_append_left _ hq)
  have hA : (ktrTop dp un gd cn cs L a ccd cl outer).frames = some (envX cn cs L a ccd cl :: outer) := rfl
  obtain ⟨FG, BG, st, _⟩ := groundX (R := fun _ _ => True) B F N₁ hA rfl hck
  refine wpAny_call (codeAny_call_def (fd := fnOf name qual params body scope dV kV doc pm an cdv ct) (body := body) (binds := binds) (by show dp < recursionLimit; omega) ((X.keeps F.keep) _ _ ho) rfl (T.nolimit.keeps F.keep) (codeRec_of (X.keeps F.keep) hcd) rfl (BindsTo.of_eq hbind) hcell hloc (fun h₁ hns hk₁ => ?_) hco hgen hk)
  refine wpAny_mono (h (dp + 1) (un + 3) gd (envX cn cs L a ccd cl :: outer) _ base _ s.heap.objs.size h₁ _ s BG ⟨hns, fun b o e => hk₁ b o (of_hideAll _ e), Nat.le_of_eq (hideAll_size _ _)⟩ (X.keeps st)
    (fun q hq => ⟨hk₁ _ _ (N₁ q hq).1, Nat.ne_of_lt (Heap.lt_size (N₁ q hq).1), hideAll_none _ (List.mem_map_of_mem hq)⟩) (T.keeps st) C (fun q hq => Heap.lt_size (N₁ q hq).1) (by omega) (by omega)) (fun fl s' hl => ?_) fun _ _ y => y.elim
  obtain ⟨own', h', tk', rfl, F', N', nw, hp⟩ := leave_own F N ap hl
  exact ret _ own' h' tk' F' N' nw hp
end
end Mine
namespace Mine
open PySem PySem.W PySem.Spec PySem.Calls PyProof.Rows
section
variable {w : World} {p : Program} {loose : List Str} {mean : ExcName → Option Value} {mg mb : Str → Option Value}
/-- a def of the written part whose own names are kept in cells -/
theorem Spec.ofBodyC {f : Addr} {D U : Nat} {vs : List Value} {own : Led} {Post : Led → Value → Prop} {name qual : Str} {params : Arguments} {body : List Stmt} {scope : Scope} {dV kV doc pm cdv ct oc : Value} {an od : Option Addr} {osl : Array (Option Value)} {binds : List (Str × Value)}
    (ho : (hd.heap_39 w.params).lookup f = some ⟨oc, od, .func (fnOf name qual params body scope dV kV doc pm an cdv ct), osl⟩) (hcd : codeIn (hd.heap_39 w.params) cdv qual = true)
    (hbind : bindArgs (fnOf name qual params body scope dV kV doc pm an cdv ct) ⟨vs, []⟩ = pure binds) (hkind : (binds.all fun y => scope.names.lookup y.1 == some .local || scope.names.lookup y.1 == some .cell) = true)
    (hnd : ((cellsFrom 0 scope.names []).map (·.1)).Nodup)
    (h : ∀ (dp un : Nat) (gd : Option (List Code)) (outer : List Env) (A : Around) (base g : Heap) (L : Addr) (h₁ : Heap) (tk : Nat) (s : Shared) (cells : Led),
      Below A base outer g → Fr g L h₁ (bindL (envOfC qual scope L f cdv).kindOf binds fun _ => none) → (hd.heap_39 w.params).In g → News g L h₁ (cells ++ own) →
      CellsAre (bindC (envOfC qual scope L f cdv).kindOf binds fun _ => none) (cellsFrom (L + 1) scope.names []) cells → Top p loose mean mg mb g → CodesAt base → (∀ p ∈ own, p.1 < L) → dp + D < recursionLimit + 1 → un + U < cLine + 3 →
      wpAny (model PySem.Challenge.rw_ph0106_01.row.prog w) (ktrTop dp un gd qual scope L f cdv (cellsFrom (L + 1) scope.names []) outer) (execs body (envOfC qual scope L f cdv))
        (fun fl s' => End g s Post (match fl with | .ret v => v | _ => .none) s') (fun _ _ => False) { s with heap := h₁, toks := tk })
    (hroom : 1 ≤ D)
    (hco : scope.isCoroutine = false) (hgen : scope.isGenerator = false) (hk : scope.kind = .function) : Spec w p loose mean mg mb f D U vs own Post := by
  intro dp un gd cn cs a ccd cl outer A₀ base h₀ L m rest s Q E B F X N ap T C hck hd hu ret
  have N₁ : News h₀ L s.heap own := fun q hq => N q (List.mem_append_left _ hq)
  have hA : (ktrTop dp un gd cn cs L a ccd cl outer).frames = some (envX cn cs L a ccd cl :: outer) := rfl
  obtain ⟨FG, BG, st, _⟩ := groundX (R := fun _ _ => True) B F N₁ hA rfl hck
  refine wpAny_call (codeAny_call_function (by show dp < recursionLimit; omega) ((X.keeps F.keep) _ _ ho) rfl hco hgen rfl (codeRec_of (X.keeps F.keep) hcd) ?_)
  rw [hbind]
  refine wpAny_pure (wpAny_newFunctionEnv_cells hk (kindsX hkind _) fun env' he s' x => ?_)
  subst he
  refine ⟨(T.nolimit.keeps F.keep).keeps x.toInCall.keep, codeAny_func ?_⟩
  obtain ⟨h₁, tk, rfl, _⟩ := x.done
  have hk₁ := x.toInCall.keep
  obtain ⟨cells, NC, Y⟩ := Cl.news (h₀ := s.heap) (Nat.le_refl _) fun n c hm => ⟨x.cell n c (lookup_of_mem_nodup (cellsFrom_names scope.names 0 (s.heap.objs.size + 1) [] [] rfl ▸ hnd) hm), x.above n c hm⟩
  refine wpAny_mono (h (dp + 1) (un + 3) gd (envX cn cs L a ccd cl :: outer) _ base _ s.heap.objs.size h₁ tk s cells BG ⟨x.toInCall.ns, fun b o e => hk₁ b o (of_hideAll _ e), Nat.le_of_eq (hideAll_size _ _)⟩ (X.keeps st)
    (fun q hq => ?_) Y (T.keeps st) C (fun q hq => Heap.lt_size (N₁ q hq).1) (by omega) (by omega)) (fun fl s' hl => ?_) fun _ _ y => y.elim
  · rcases List.mem_append.mp hq with hq | hq
    · refine ⟨(NC q hq).1, (NC q hq).2.1, ?_⟩
      cases e : (hideAll s.heap (own.map (·.1))).get? q.1 with
      | none => rfl
      | some o => have := of_hideAll _ e; rw [(NC q hq).2.2] at this; cases this
    · exact ⟨hk₁ _ _ (N₁ q hq).1, Nat.ne_of_lt (Heap.lt_size (N₁ q hq).1), hideAll_none _ (List.mem_map_of_mem hq)⟩
  · obtain ⟨own', h', tk', rfl, F', N', nw, hp⟩ := leave_own F N ap hl
    exact ret _ own' h' tk' F' N' nw hp
/-- a def made in a call, itself in the ledger -/
theorem Spec.ofNest {f : Addr} {D U : Nat} {vs : List Value} {own : Led} {Post : Led → Value → Prop} {name qual : Str} {params : Arguments} {body : List Stmt} {scope : Scope} {cl' : List (Str × Addr)} {doc pm ctv : Value} {c' : Addr} {binds : List (Str × Value)} {oc : Obj} {ovs : Array Value} {ot : Tok}
    (ho : (f, fnMade name qual params body scope cl' doc pm c' ctv) ∈ own) (hcm : (c', oc) ∈ own) (hcd : oc.data = .fields ovs) (hcv : ovs[1]? = some (.str qual ot))
    (hbind : bindArgs (fnX name qual params body scope cl' .none .none doc pm none (.ref c') ctv) ⟨vs, []⟩ = pure binds) (hloc : ∀ y ∈ binds, scope.names.lookup y.1 = some .local)
    (h : ∀ (dp un : Nat) (gd : Option (List Code)) (outer : List Env) (A : Around) (base g : Heap) (L : Addr) (h₁ : Heap) (tk : Nat) (s : Shared),
      Below A base outer g → Fr g L h₁ (fun y => binds.reverse.lookup y) → (hd.heap_39 w.params).In g → News g L h₁ own → Top p loose mean mg mb g → CodesAt base → (∀ p ∈ own, p.1 < L) → dp + D < recursionLimit + 1 → un + U < cLine + 3 →
      wpAny (model PySem.Challenge.rw_ph0106_01.row.prog w) (ktrTop dp un gd qual scope L f (.ref c') cl' outer) (execs body (envX qual scope L f (.ref c') cl'))
        (fun fl s' => End g s Post (match fl with | .ret v => v | _ => .none) s') (fun _ _ => False) { s with heap := h₁, toks := tk })
    (hroom : 1 ≤ D)
    (hco : scope.isCoroutine = false) (hgen : scope.isGenerator = false) (hk : scope.kind = .function) (hcell : ∀ x ∈ scope.names, x.2 ≠ .cell) : Spec w p loose mean mg mb f D U vs own Post := by
  intro dp un gd cn cs a ccd cl outer A₀ base h₀ L m rest s Q E B F X N ap T C hck hd hu ret
  have N₁ : News h₀ L s.heap own := fun q hq => N q (List.mem_append_left _ hq)
  have hA : (ktrTop dp un gd cn cs L a ccd cl outer).frames = some (envX cn cs L a ccd cl :: outer) := rfl
  obtain ⟨FG, BG, st, _⟩ := groundX (R := fun _ _ => True) B F N₁ hA rfl hck
  refine wpAny_call (codeAny_call_def (fd := fnX name qual params body scope cl' .none .none doc pm none (.ref c') ctv) (body := body) (binds := binds) (by show dp < recursionLimit; omega) (N₁ _ ho).1 rfl (T.nolimit.keeps F.keep) (codeRec_news N₁ hcm hcd hcv) rfl (BindsTo.of_eq hbind) hcell hloc (fun h₁ hns hk₁ => ?_) hco hgen hk)
  refine wpAny_mono (h (dp + 1) (un + 3) gd (envX cn cs L a ccd cl :: outer) _ base _ s.heap.objs.size h₁ _ s BG ⟨hns, fun b o e => hk₁ b o (of_hideAll _ e), Nat.le_of_eq (hideAll_size _ _)⟩ (X.keeps st)
    (fun q hq => ⟨hk₁ _ _ (N₁ q hq).1, Nat.ne_of_lt (Heap.lt_size (N₁ q hq).1), hideAll_none _ (List.mem_map_of_mem hq)⟩) (T.keeps st) C (fun q hq => Heap.lt_size (N₁ q hq).1) (by omega) (by omega)) (fun fl s' hl => ?_) fun _ _ y => y.elim
  obtain ⟨own', h', tk', rfl, F', N', nw, hp⟩ := leave_own F N ap hl
  exact ret _ own' h' tk' F' N' nw hp
/-- a lambda made in a call, itself in the ledger -/
theorem Spec.ofLam {f : Addr} {D U : Nat} {vs : List Value} {own : Led} {Post : Led → Value → Prop} {name qual : Str} {params : Arguments} {body : Expr} {scope : Scope} {cl' : List (Str × Addr)} {pm ctv : Value} {c' : Addr} {binds : List (Str × Value)} {oc fo : Obj} {ovs : Array Value} {ot : Tok}
    (ho : (f, fo) ∈ own) (hfo : fo.data = .func (kla_fn name qual params body scope cl' pm (.ref c') ctv)) (hcm : (c', oc) ∈ own) (hcd : oc.data = .fields ovs) (hcv : ovs[1]? = some (.str qual ot))
    (hbind : bindArgs (kla_fn name qual params body scope cl' pm (.ref c') ctv) ⟨vs, []⟩ = pure binds) (hloc : ∀ y ∈ binds, scope.names.lookup y.1 = some .local)
    (h : ∀ (dp un : Nat) (gd : Option (List Code)) (outer : List Env) (A : Around) (base g : Heap) (L : Addr) (h₁ : Heap) (tk : Nat) (s : Shared),
      Below A base outer g → Fr g L h₁ (fun y => binds.reverse.lookup y) → (hd.heap_39 w.params).In g → News g L h₁ own → Top p loose mean mg mb g → CodesAt base → (∀ p ∈ own, p.1 < L) → dp + D < recursionLimit + 1 → un + U < cLine + 3 →
      wpAny (model PySem.Challenge.rw_ph0106_01.row.prog w) (ktrTop dp un gd qual scope L f (.ref c') cl' outer) (eval body (envX qual scope L f (.ref c') cl'))
        (fun v s' => End g s Post v s') (fun _ _ => False) { s with heap := h₁, toks := tk })
    (hroom : 1 ≤ D)
    (hco : scope.isCoroutine = false) (hgen : scope.isGenerator = false) (hk : scope.kind = .function) (hcell : ∀ x ∈ scope.names, x.2 ≠ .cell) : Spec w p loose mean mg mb f D U vs own Post := by
  intro dp un gd cn cs a ccd cl outer A₀ base h₀ L m rest s Q E B F X N ap T C hck hd hu ret
  have N₁ : News h₀ L s.heap own := fun q hq => N q (List.mem_append_left _ hq)
  have hA : (ktrTop dp un gd cn cs L a ccd cl outer).frames = some (envX cn cs L a ccd cl :: outer) := rfl
  obtain ⟨FG, BG, st, _⟩ := groundX (R := fun _ _ => True) B F N₁ hA rfl hck
  refine wpAny_call (kla_callFunE (by show dp < recursionLimit; omega) (N₁ _ ho).1 hfo hco hgen rfl (codeRec_news N₁ hcm hcd hcv) ?_)
  rw [hbind]
  refine wpAny_pure (wpAny_newFunctionEnv hcell hloc (fun h₁ hns hsb => ⟨((T.nolimit).keeps F.keep).fresh _ hsb, ?_⟩) hk)
  show codeAny _ _ (.expr body (envX qual scope s.heap.objs.size f (.ref c') cl')) _ _
  have hk₁ : ∀ b o, s.heap.get? b = some o → h₁.get? b = some o := fun b o e => hsb.extBut b o (Nat.ne_of_lt (Heap.lt_size e)) (Heap.get?_push_of_some _ e)
  refine kla_codeExpr (wpAny_mono (h (dp + 1) (un + 3) gd (envX cn cs L a ccd cl :: outer) _ base _ s.heap.objs.size h₁ _ s BG ⟨hns, fun b o e => hk₁ b o (of_hideAll _ e), Nat.le_of_eq (hideAll_size _ _)⟩ (X.keeps st)
    (fun q hq => ⟨hk₁ _ _ (N₁ q hq).1, Nat.ne_of_lt (Heap.lt_size (N₁ q hq).1), hideAll_none _ (List.mem_map_of_mem hq)⟩) (T.keeps st) C (fun q hq => Heap.lt_size (N₁ q hq).1) (by omega) (by omega)) (fun v s' hl => ?_) fun _ _ y => y.elim)
  obtain ⟨own', h', tk', rfl, F', N', nw, hp⟩ := leave_own F N ap hl
  exact ret _ own' h' tk' F' N' nw hp
end
end Mine
namespace Mine
open PySem PySem.W PyProof.Rows
/-! digits, plain -/
def dig (B x : Int) : Nat → List Int
  | 0 => []
  | k + 1 => x % B :: dig B (x / B) k
def val (B : Int) : List Int → Int
  | [] => 0
  | d :: r => d + B * val B r
theorem dig_length (B : Int) : ∀ (k : Nat) (x : Int), (dig B x k).length = k
  | 0, _ => rfl
  | k + 1, x => by simp [dig, dig_length B k]
theorem pow_pos' {B : Int} (hB : 0 < B) : ∀ k : Nat, 0 < B ^ k
  | 0 => by simp
  | k + 1 => by rw [Int.pow_succ]; exact Int.mul_pos (pow_pos' hB k) hB
theorem dig_add {B : Int} (hB : 0 < B) : ∀ (j k : Nat) (x : Int), dig B x (j + k) = dig B (x % B ^ j) j ++ dig B (x / B ^ j) k
  | 0, k, x => by simp [dig]
  | j + 1, k, x => by
    have e : j + 1 + k = (j + k) + 1 := by (first | lia | omega)
    rw [e]
    simp only [dig, List.cons_append]
    rw [dig_add hB j k]
    have h1 : B ^ (j + 1) = B * B ^ j := by rw [Int.pow_succ, Int.mul_comm]
    have h2 : x % B ^ (j + 1) % B = x % B := by
      rw [h1]; exact Int.emod_emod_of_dvd x ⟨B ^ j, rfl⟩
    have h3 : x % B ^ (j + 1) / B = x / B % B ^ j := by
      rw [h1, Int.emod_def, Int.emod_def, Int.ediv_ediv_of_nonneg (by (first | lia | omega))]
      have : x - B * B ^ j * (x / (B * B ^ j)) = x + B * (-(B ^ j * (x / (B * B ^ j)))) := by
        rw [Int.mul_assoc, Int.mul_neg]; (first | lia | omega)
      rw [this, Int.add_mul_ediv_left _ _ (by (first | lia | omega))]
      (first | lia | omega)
    have h4 : x / B ^ (j + 1) = x / B / B ^ j := by
      rw [h1, Int.ediv_ediv_of_nonneg (by (first | lia | omega))]
    rw [h2, h3, h4]
theorem val_append (B : Int) : ∀ l₁ l₂ : List Int, val B (l₁ ++ l₂) = val B l₁ + B ^ l₁.length * val B l₂
  | [], l₂ => by simp [val]
  | d :: r, l₂ => by
    simp only [List.cons_append, val, val_append B r l₂, List.length_cons, Int.pow_succ, Int.mul_add]
    rw [Int.mul_comm (B ^ r.length) B, Int.mul_assoc]; (first | lia | omega)
theorem val_dig {B : Int} (hB : 0 < B) : ∀ (k : Nat) (x : Int), 0 ≤ x → x < B ^ k → val B (dig B x k) = x
  | 0, x, h0, h1 => by simp at h1; simp [dig, val]; (first | lia | omega)
  | k + 1, x, h0, h1 => by
    have h2 : x / B < B ^ k := Int.ediv_lt_of_lt_mul hB (by rw [← Int.pow_succ]; exact h1)
    simp only [dig, val, val_dig hB k (x / B) (Int.ediv_nonneg h0 (by (first | lia | omega))) h2]
    exact Int.emod_add_mul_ediv x B
theorem dig_one {B x : Int} (h0 : 0 ≤ x) (h1 : x < B) : dig B x 1 = [x] := by
  simp only [dig, Int.emod_eq_of_lt h0 h1]
theorem dig_range {B : Int} (hB : 0 < B) : ∀ (k : Nat) (x : Int), ∀ d ∈ dig B x k, 0 ≤ d ∧ d < B
  | 0, _, d, hd => by simp [dig] at hd
  | k + 1, x, d, hd => by
    simp only [dig, List.mem_cons] at hd
    rcases hd with rfl | hd
    · exact ⟨Int.emod_nonneg _ (by (first | lia | omega)), Int.emod_lt_of_pos _ hB⟩
    · exact dig_range hB k _ d hd
/-! long division -/
def ldq (B b : Int) : Int → List Int → List Int
  | _, [] => []
  | r, d :: ds => (r * B + d) / b :: ldq B b ((r * B + d) % b) ds
def ldr (B b : Int) : Int → List Int → Int
  | r, [] => r
  | r, d :: ds => ldr B b ((r * B + d) % b) ds
theorem ldq_length (B b : Int) : ∀ (r : Int) (ds : List Int), (ldq B b r ds).length = ds.length
  | _, [] => rfl
  | r, d :: ds => by simp [ldq, ldq_length B b]
theorem ldr_range {B b : Int} (hb : 0 < b) : ∀ (ds : List Int) (r : Int), 0 ≤ r → r < b → 0 ≤ ldr B b r ds ∧ ldr B b r ds < b
  | [], r, h0, h1 => ⟨h0, h1⟩
  | d :: ds, r, _, _ => ldr_range hb ds _ (Int.emod_nonneg _ (by (first | lia | omega))) (Int.emod_lt_of_pos _ hb)
theorem ld_val {B b : Int} : ∀ (ds : List Int) (r : Int), val B (ldq B b r ds).reverse * b + ldr B b r ds = r * B ^ ds.length + val B ds.reverse
  | [], r => by simp [ldq, ldr, val]
  | d :: ds, r => by
    simp only [ldq, ldr, List.reverse_cons, val_append, List.length_reverse, ldq_length, val, List.length_cons]
    have ih := ld_val (B := B) (b := b) ds ((r * B + d) % b)
    have e := Int.emod_add_mul_ediv (r * B + d) b
    have h1 : (val B (ldq B b ((r * B + d) % b) ds).reverse + B ^ ds.length * ((r * B + d) / b + B * 0)) * b + ldr B b ((r * B + d) % b) ds
        = (val B (ldq B b ((r * B + d) % b) ds).reverse * b + ldr B b ((r * B + d) % b) ds) + B ^ ds.length * (b * ((r * B + d) / b)) := by
      rw [Int.mul_zero, Int.add_zero, Int.add_mul, Int.mul_assoc, Int.mul_comm ((r * B + d) / b) b]; (first | lia | omega)
    rw [h1, ih]
    have h2 : (r * B + d) % b * B ^ ds.length + val B ds.reverse + B ^ ds.length * (b * ((r * B + d) / b)) = ((r * B + d) % b + b * ((r * B + d) / b)) * B ^ ds.length + val B ds.reverse := by
      rw [Int.add_mul, Int.mul_comm (B ^ ds.length) (b * _)]; (first | lia | omega)
    rw [h2, e, Int.add_mul, Int.pow_succ, Int.mul_zero, Int.add_zero, Int.mul_assoc, Int.mul_comm B (B ^ ds.length), Int.mul_comm (B ^ ds.length) d]
    (first | lia | omega)
theorem ld_div {B b a : Int} {k : Nat} (hB : 0 < B) (hb : 0 < b) (h0 : 0 ≤ a) (h1 : a < B ^ k) :
    val B (ldq B b 0 (dig B a k).reverse).reverse = a / b ∧ ldr B b 0 (dig B a k).reverse = a % b := by
  have h := ld_val (B := B) (b := b) (dig B a k).reverse 0
  rw [List.reverse_reverse, val_dig hB k a h0 h1, Int.zero_mul, Int.zero_add] at h
  have hr := ldr_range (B := B) hb (dig B a k).reverse 0 (by (first | lia | omega)) hb
  have q := (Int.ediv_emod_unique (a := a) (b := b) (r := ldr B b 0 (dig B a k).reverse) (q := val B (ldq B b 0 (dig B a k).reverse).reverse) hb).mpr ⟨by rw [Int.mul_comm]; (first | lia | omega), hr.1, hr.2⟩
  exact ⟨q.1.symm, q.2.symm⟩
/-! the xor -/
theorem and_high : ∀ (k : Nat) (x : Int), Builtin.bitAnd x (x / 2 ^ k * 2 ^ k) = x / 2 ^ k * 2 ^ k
  | 0, x => by simp [bitAnd_self]
  | k + 1, x => by
    have e0 : (2 : Int) ^ (k + 1) = 2 * 2 ^ k := by rw [Int.pow_succ, Int.mul_comm]
    have e1 : x / 2 ^ (k + 1) = x / 2 / 2 ^ k := by rw [e0, Int.ediv_ediv_of_nonneg (by (first | lia | omega))]
    have e2 : x / 2 ^ (k + 1) * 2 ^ (k + 1) = 2 * (x / 2 / 2 ^ k * 2 ^ k) := by
      rw [e1, e0, Int.mul_left_comm]
    rw [e2, kbt_halves]
    have e3 : 2 * (x / 2 / 2 ^ k * 2 ^ k) / 2 = x / 2 / 2 ^ k * 2 ^ k := by (first | lia | omega)
    have e4 : ¬ (x % 2 = 1 ∧ 2 * (x / 2 / 2 ^ k * 2 ^ k) % 2 = 1) := by (first | lia | omega)
    rw [e3, if_neg e4, and_high k (x / 2)]; (first | lia | omega)
theorem xor_high (x : Int) (k : Nat) : Builtin.bitXor x (x / 2 ^ k * 2 ^ k) = x % 2 ^ k := by
  rw [bitXor_and, and_high, Int.emod_def, Int.mul_comm (2 ^ k)]; (first | lia | omega)
theorem split_math {n l r x mid sh up hi lo : Int} {sz : Nat} (hn : 0 < n) (hr : r = l + sz) (hne : l + 1 ≠ r) (h1 : 1 ≤ sz) (hm1 : 2 * mid ≤ l + r) (hm2 : l + r ≤ 2 * mid + 1)
    (hs : sh = (mid - l) * n) (hu : up = x / 2 ^ sh.toNat) (hh : hi = up * 2 ^ sh.toNat) (hlo : lo = Builtin.bitXor x hi) (hx0 : 0 ≤ x) (hx : x < (2 ^ n.toNat) ^ sz) :
    ∃ j k : Nat, 1 ≤ j ∧ 1 ≤ k ∧ j + k = sz ∧ mid = l + j ∧ r = mid + k ∧ lo = x % (2 ^ n.toNat) ^ j ∧ up = x / (2 ^ n.toNat) ^ j ∧ 0 ≤ lo ∧ lo < (2 ^ n.toNat) ^ j ∧ 0 ≤ up ∧ up < (2 ^ n.toNat) ^ k ∧ lo ≤ x ∧ up ≤ x := by
  obtain ⟨j, hj⟩ : ∃ j : Nat, mid = l + j := ⟨(mid - l).toNat, by (first | lia | omega)⟩
  obtain ⟨k, hk⟩ : ∃ k : Nat, r = mid + k := ⟨(r - mid).toNat, by (first | lia | omega)⟩
  have e : (2 : Int) ^ sh.toNat = (2 ^ n.toNat) ^ j := by
    have : sh.toNat = n.toNat * j := by
      have q : sh = ((n.toNat * j : Nat) : Int) := by
        rw [hs, hj, Int.natCast_mul, Int.toNat_of_nonneg (by (first | lia | omega)), Int.mul_comm]; congr 1; (first | lia | omega)
      (first | lia | omega)
    rw [this, Int.pow_mul]
  rw [e] at hu hh
  have hP : (0 : Int) < (2 ^ n.toNat) ^ j := pow_pos' (pow_pos' (by decide) _) _
  have hl : lo = x % (2 ^ n.toNat) ^ j := by
    rw [hlo, hh, hu, ← e, xor_high]
  refine ⟨j, k, by (first | lia | omega), by (first | lia | omega), by (first | lia | omega), hj, hk, hl, hu, ?_, ?_, ?_, ?_, ?_, ?_⟩
  · rw [hl]; exact Int.emod_nonneg _ (by (first | lia | omega))
  · rw [hl]; exact Int.emod_lt_of_pos _ hP
  · rw [hu]; exact Int.ediv_nonneg hx0 (by (first | lia | omega))
  · rw [hu]
    refine Int.ediv_lt_of_lt_mul hP ?_
    rw [← Int.pow_add]
    have : k + j = sz := by (first | lia | omega)
    rw [this]; exact hx
  · rw [hl, Int.emod_def]
    have := Int.mul_nonneg (Int.le_of_lt hP) (Int.ediv_nonneg hx0 (Int.le_of_lt hP))
    (first | lia | omega)
  · rw [hu]; exact Int.ediv_le_self _ hx0
theorem ints_append {v1 v2 : List Value} {n1 n2 : List Int} (h1 : IntsAre v1 n1) (h2 : IntsAre v2 n2) : IntsAre (v1 ++ v2) (n1 ++ n2) := by
  induction h1 with
  | nil => exact h2
  | cons i t _ ih => exact .cons i t ih
theorem cut_two {α : Type} (vs us ws : List α) (l j k : Nat) (h : l + j + k ≤ vs.length) (hu : us.length = j) :
    (vs.take l ++ us ++ vs.drop (l + j)).take (l + j) ++ ws ++ (vs.take l ++ us ++ vs.drop (l + j)).drop (l + j + k) = vs.take l ++ (us ++ ws) ++ vs.drop (l + j + k) := by
  have hl : (vs.take l ++ us).length = l + j := by simp; (first | lia | omega)
  have e1 : (vs.take l ++ us ++ vs.drop (l + j)).take (l + j) = vs.take l ++ us := by
    rw [List.take_append_of_le_length (by (first | lia | omega)), List.take_of_length_le (by (first | lia | omega))]
  have e2 : (vs.take l ++ us ++ vs.drop (l + j)).drop (l + j + k) = vs.drop (l + j + k) := by
    rw [← List.drop_drop, List.drop_append_of_le_length (by (first | lia | omega)), List.drop_of_length_le (Nat.le_of_eq hl), List.nil_append, List.drop_drop]
  rw [e1, e2]; simp
theorem val_nonneg {B : Int} (hB : 0 ≤ B) : ∀ {ds : List Int}, (∀ d ∈ ds, 0 ≤ d) → 0 ≤ val B ds
  | [], _ => Int.le_refl _
  | d :: r, h => by
    have h1 := h d (.head _)
    have h2 := Int.mul_nonneg hB (val_nonneg hB (ds := r) fun x hx => h x (.tail _ hx))
    simp only [val]; (first | lia | omega)
theorem sub_math {n l r mid sh : Int} {sz : Nat} {ns : List Int} (hn : 0 < n) (hr : r = l + sz) (hne : l + 1 ≠ r) (h1 : 1 ≤ sz) (hl0 : 0 ≤ l) (hlen : r ≤ ns.length) (hm1 : 2 * mid ≤ l + r) (hm2 : l + r ≤ 2 * mid + 1)
    (hs : sh = (mid - l) * n) (hd : ∀ d ∈ (ns.drop l.toNat).take sz, 0 ≤ d) (hv : val (2 ^ n.toNat) ((ns.drop l.toNat).take sz) < 2 ^ 62) :
    ∃ j k : Nat, 1 ≤ j ∧ 1 ≤ k ∧ j + k = sz ∧ mid = l + j ∧ r = mid + k ∧ (∀ d ∈ (ns.drop l.toNat).take j, 0 ≤ d) ∧ (∀ d ∈ (ns.drop mid.toNat).take k, 0 ≤ d) ∧
      0 ≤ val (2 ^ n.toNat) ((ns.drop l.toNat).take j) ∧ 0 ≤ val (2 ^ n.toNat) ((ns.drop mid.toNat).take k) ∧ val (2 ^ n.toNat) ((ns.drop l.toNat).take j) < 2 ^ 62 ∧ val (2 ^ n.toNat) ((ns.drop mid.toNat).take k) < 2 ^ 62 ∧
      val (2 ^ n.toNat) ((ns.drop mid.toNat).take k) * 2 ^ sh.toNat + val (2 ^ n.toNat) ((ns.drop l.toNat).take j) = val (2 ^ n.toNat) ((ns.drop l.toNat).take sz) := by
  obtain ⟨j, hj⟩ : ∃ j : Nat, mid = l + j := ⟨(mid - l).toNat, by (first | lia | omega)⟩
  obtain ⟨k, hk⟩ : ∃ k : Nat, r = mid + k := ⟨(r - mid).toNat, by (first | lia | omega)⟩
  have e : (2 : Int) ^ sh.toNat = (2 ^ n.toNat) ^ j := by
    have : sh.toNat = n.toNat * j := by
      have q : sh = ((n.toNat * j : Nat) : Int) := by
        rw [hs, hj, Int.natCast_mul, Int.toNat_of_nonneg (by (first | lia | omega)), Int.mul_comm]; congr 1; (first | lia | omega)
      (first | lia | omega)
    rw [this, Int.pow_mul]
  have hB : (0 : Int) < 2 ^ n.toNat := pow_pos' (by decide) _
  have hP : (0 : Int) < (2 ^ n.toNat) ^ j := pow_pos' hB _
  have hjk : sz = j + k := by (first | lia | omega)
  have hsp : (ns.drop l.toNat).take sz = (ns.drop l.toNat).take j ++ (ns.drop mid.toNat).take k := by
    have : mid.toNat = l.toNat + j := by (first | lia | omega)
    rw [hjk, List.take_add, List.drop_drop, this]
  rw [hsp] at hd hv
  have d1 : ∀ d ∈ (ns.drop l.toNat).take j, 0 ≤ d := fun d h => hd d (List.mem_append_left _ h)
  have d2 : ∀ d ∈ (ns.drop mid.toNat).take k, 0 ≤ d := fun d h => hd d (List.mem_append_right _ h)
  have v1 := val_nonneg (Int.le_of_lt hB) d1
  have v2 := val_nonneg (Int.le_of_lt hB) d2
  have hlj : ((ns.drop l.toNat).take j).length = j := by rw [List.length_take, List.length_drop]; (first | lia | omega)
  rw [val_append, hlj] at hv
  have h3 : val (2 ^ n.toNat) ((ns.drop mid.toNat).take k) ≤ (2 ^ n.toNat) ^ j * val (2 ^ n.toNat) ((ns.drop mid.toNat).take k) := by
    have := Int.mul_le_mul_of_nonneg_right (show (1 : Int) ≤ (2 ^ n.toNat) ^ j from hP) v2
    (first | lia | omega)
  refine ⟨j, k, by (first | lia | omega), by (first | lia | omega), by (first | lia | omega), hj, hk, d1, d2, v1, v2, by (first | lia | omega), by (first | lia | omega), ?_⟩
  rw [hsp, val_append, hlj, e, Int.mul_comm]; (first | lia | omega)
theorem ldq_nonneg {B b : Int} (hB : 0 ≤ B) (hb : 0 < b) : ∀ (ds : List Int) (r : Int), 0 ≤ r → (∀ d ∈ ds, 0 ≤ d) → ∀ q ∈ ldq B b r ds, 0 ≤ q
  | [], _, _, _, _, hq => by cases hq
  | d :: ds, r, hr, hd, q, hq => by
    have h1 := Int.mul_nonneg hr hB
    have h2 := hd d (.head _)
    rcases List.mem_cons.mp hq with rfl | hq
    · exact Int.ediv_nonneg (by (first | lia | omega)) (by (first | lia | omega))
    · exact ldq_nonneg hB hb ds _ (Int.emod_nonneg _ (by (first | lia | omega))) (fun x hx => hd x (.tail _ hx)) q hq
end Mine
namespace Mine
open PySem PySem.W PySem.Spec PySem.Calls PyProof.Rows
theorem fill (P : OpenLaw → (Params → Frag) → Prop) (h : ∀ a b, P a b) : P PySem.Challenge.rw_ph0106_01 hd.heap_39 := by
  k_fill
  exact h _ _
theorem with_eq {α : Sort _} {a b : α} {G : Prop} (h : a = b) (k : a = b → G) : G := k h
abbrev tupO (l : List Value) : Obj := { cls := .type "tuple", data := .seq l.toArray }
def NotIn (d : Nat) : Led → Prop
  | [] => True
  | p :: r => @Ne Nat p.1 d ∧ NotIn d r
theorem NotIn.out {d : Nat} : ∀ {l : Led}, NotIn d l → d ∉ l.map (·.1)
  | [], _, h => by cases h
  | p :: r, hh, h => by
    rcases List.mem_cons.mp h with e | h
    · exact hh.1 e.symm
    · exact NotIn.out hh.2 h
theorem Apart.nil {own : Led} : Apart own [] := fun _ h => nomatch h
theorem Apart.cons {own rest : Led} {q : Addr × Obj} (h : NotIn q.1 own) (r : Apart own rest) : Apart own (q :: rest) := fun p hp => by
  rcases List.mem_cons.mp hp with rfl | hp
  · exact h.out
  · exact r p hp
section
variable {w : World} {p : Program} {loose : List Str} {mean : ExcName → Option Value} {mg mb : Str → Option Value}
theorem Spec.use {f : Addr} {D U : Nat} {vs : List Value} {own : Led} {Post : Led → Value → Prop} (S : Spec w p loose mean mg mb f D U vs own Post)
    {dp un : Nat} {gd : Option (List Code)} {cn : Str} {cs : Scope} {a : Addr} {ccd : Value} {cl : List (Str × Addr)} {outer : List Env} {A₀ : Around} {base h₀ : Heap} {L : Addr} {m : Str → Option Value} {news : Led} {s : Shared} {Q E : Value → Shared → Prop} (rest : Led)
    (B : Below A₀ base outer h₀) (F : Fr h₀ L s.heap m) (X : (hd.heap_39 w.params).In h₀) (N : News h₀ L s.heap news) (T : Top p loose mean mg mb h₀) (C : CodesAt base) (hk : cs.kind = .function) (hd : dp + D < recursionLimit) (hu : un + U < cLine)
    (sub : ∀ q ∈ own ++ rest, q ∈ news) (ap : Apart own rest)
    (ret : ∀ r own' h' tk', Fr h₀ L h' m → News h₀ L h' (own' ++ rest) → Newer own s.heap own' → Post own' r → Q r { s with heap := h', toks := tk' }) :
    wpAny (model PySem.Challenge.rw_ph0106_01.row.prog w) (ktrTop dp un gd cn cs L a ccd cl outer) (call (.ref f) vs) Q E s :=
  S _ _ _ _ _ _ _ _ _ _ _ _ _ _ rest _ _ _ B F X (fun q hq => N q (sub q hq)) ap T C hk hd hu ret
end
section
variable {prog : Program} {w : World} {A : Around} {E : Value → Shared → Prop} {s : Shared} {Q : Value → Shared → Prop} {a b n : Int} {t u : Tok}
theorem rsh_gen (hn : 0 ≤ n) (h : ∀ v, v = a / 2 ^ n.toNat → (0 ≤ a → 0 ≤ v ∧ v ≤ a) → Q (.int v s.toks) { s with toks := s.toks + 1 }) : wpAny (model prog w) A (binaryOp .RShift (.int a t) (.int n u)) Q E s :=
  rshift_int hn (h _ (Int.fdiv_eq_ediv_of_nonneg _ (Int.le_of_lt (pow_pos' (by decide) _))) fun h0 => by
    rw [Int.fdiv_eq_ediv_of_nonneg _ (Int.le_of_lt (pow_pos' (by decide) _))]
    exact ⟨Int.ediv_nonneg h0 (Int.le_of_lt (pow_pos' (by decide) _)), Int.ediv_le_self _ h0⟩)
theorem rsh_one (h : ∀ v, v = a / 2 → 2 * v ≤ a → a ≤ 2 * v + 1 → Q (.int v s.toks) { s with toks := s.toks + 1 }) : wpAny (model prog w) A (binaryOp .RShift (.int a t) (.int 1 u)) Q E s :=
  rsh_gen (by omega) fun v hv _ => h v hv (by have : v = a / 2 := hv; omega) (by have : v = a / 2 := hv; omega)
theorem mul_gen (h0 : 0 ≤ a) (h1 : a ≤ 64) (h2 : 0 ≤ b) (h3 : b ≤ 64) (h : ∀ v, v = a * b → 0 ≤ v → v ≤ 4096 → Q (.int v s.toks) { s with toks := s.toks + 1 }) : wpAny (model prog w) A (binaryOp .Mult (.int a t) (.int b u)) Q E s :=
  mul_int (h _ rfl (Int.mul_nonneg h0 h2) (by have := Int.mul_le_mul h1 h3 h2 (by omega : (0 : Int) ≤ 64); omega)) (IntMulOk.of_right (intBits_le_64 (by omega) (by omega)))
theorem lsh_gen (hn : 0 ≤ n) (hn2 : n ≤ 1000000) (ha : a.natAbs < 2 ^ 64) (h : ∀ v, v = a * 2 ^ n.toNat → Q (.int v s.toks) { s with toks := s.toks + 1 }) : wpAny (model prog w) A (binaryOp .LShift (.int a t) (.int n u)) Q E s :=
  lshift_int_small hn hn2 ha (h _ rfl)
theorem xor_gen (h : ∀ v, v = Builtin.bitXor a b → Q (.int v s.toks) { s with toks := s.toks + 1 }) : wpAny (model prog w) A (binaryOp .BitXor (.int a t) (.int b u)) Q E s := xor_int (h _ rfl)
end
end Mine
namespace Mine
open PySem PySem.W PySem.Spec PySem.Calls PyProof.Rows
example : True := by (w_top off; k_with_none; trivial)
def RetPair (x y : Int) (own' : Led) (r : Value) : Prop := ∃ t t1 t2, own' = [(t, tupO [.int x t1, .int y t2])] ∧ r = .ref t
theorem div2 {w : World} {p : Program} {loose : List Str} {mean : ExcName → Option Value} {mg mb : Str → Option Value} (a b n : Int) (ta tb tn : Tok) (ha : 0 ≤ a) (ha2 : a < 2 ^ 62) (hb : 0 < b) (hb2 : b < 2 ^ 30) (hn : 0 ≤ n) :
    Spec w p loose mean mg mb 35 8 100 [.int a ta, .int b tb, .int n tn] [] (RetPair (a.fdiv b) (a.fmod b)) := by
  k_with_none
  k_with "call builtin:divmod" => ((with_reducible show wpAny _ _ (call (Value.builtin _) [Value.int _ _, Value.int _ _]) _ _ _); refine divmod_N (by k_asm) (by k_asm) (by omega) ?_ (Or.inl (PyProof.noPylong_small (by omega))); intro _ _ _)
  refine' Spec.ofBody (binds := [(Str.ofString "a", .int a ta), (Str.ofString "b", .int b tb), (Str.ofString "n", .int n tn)]) ?ho ?hcd ?hbind ?hloc ?h ?r1 ?r2 ?c2 ?c3 ?c4 ?c5
  case ho => k_is
  case hcd => k_is
  case hbind => exact rfl
  case hloc => exact locs rfl
  case r1 => decide
  case r2 => decide
  case c2 => exact rfl
  case c3 => exact rfl
  case c4 => exact rfl
  case c5 => decide
  intro dp un gd outer A base g L h₁ tk s B F X N T C lt hdp hun
  have hbits : Builtin.Int.intBits a ≤ 64 := intBits_le_64 (by omega) (by omega)
  try dsimp only
  try k_fold
  k_steps
  exact End.intro _ (by k_asm) (by k_asm) (fun q h => h) ⟨_, _, _, rfl, rfl⟩
end Mine
namespace Mine
open PySem PySem.W PySem.Spec PySem.Calls PyProof.Rows
example : True := by (w_top off; k_with_none; trivial)
section
variable {prog : Program} {w : World} {A : Around} {E : Value → Shared → Prop} {s : Shared} {h₀ : Heap} {L D : Addr} {m : Str → Option Value} {news news' : List (Addr × Obj)} {vs : List Value} {n : Nat} {k : Int} {v : Value} {t u : Tok}
theorem setAny {Q : Unit → Shared → Prop} (F : Fr h₀ L s.heap m) (N : News h₀ L s.heap news) (U : Upd D (W.listOf vs.toArray n) (W.listOf (vs.set k.toNat v).toArray n) news news') (h0 : 0 ≤ k) (h1 : k < vs.length) (hfit : k < 2 ^ 63)
    (h : ∀ h', Fr h₀ L h' m → News h₀ L h' news' → Q () { s with heap := h' }) :
    wpAny (model prog w) A (setItem (.ref D) (.int k t) v) Q E s := by
  obtain ⟨pre, post, rfl, rfl, a, b⟩ := U.split
  have z := N (D, W.listOf vs.toArray n) (List.mem_append.mpr (.inr (.head _)))
  refine ki_setAt z.1 h0 hfit (by simp; (first | lia | omega)) (h _ (F.change (Heap.SameBut.update ..) z.2.1 z.2.2) (ki_turn _ N a b ?_ ?_))
  · show vs.toArray.setIfInBounds k.toNat v = (vs.set k.toNat v).toArray
    apply Array.toList_inj.mp
    simp
  · simp
end
abbrev clI (cn ci ca : Addr) : List (Str × Addr) := [(Str.ofString "n", cn), (Str.ofString "inner", ci), (Str.ofString "a_digits", ca)]
abbrev ledI (f c' D ci ca cn : Addr) (fo oc oI oA oN : Obj) (vs : List Value) (ep : Nat) : Led := [(f, fo), (c', oc), (D, W.listOf vs.toArray ep), (ci, oI), (ca, oA), (cn, oN)]
theorem with49 {w : World} {G : Prop} {oc od osl name qual params s1 a1 a2 a3 a4 a5 a6 a7 a8 a9 a10 r scope dV kV doc pm an cdv ct} (h : (hd.heap_39 w.params).lookup 49 = some ⟨oc, od, .func (fnOf name qual params (s1 :: .FunctionDef a1 a2 a3 a4 a5 a6 a7 a8 a9 a10 :: r) scope dV kV doc pm an cdv ct), osl⟩)
    (k : (hd.heap_39 w.params).lookup 49 = some ⟨oc, od, .func (fnOf name qual params (s1 :: .FunctionDef a1 a2 a3 a4 a5 a6 a7 a8 a9 a10 :: r) scope dV kV doc pm an cdv ct), osl⟩ → G) : G := k h
theorem inner1 {w : World} {p : Program} {loose : List Str} {mean : ExcName → Option Value} {mg mb : Str → Option Value}
    {oc1 : Value} {od osl name qual params s1 rest' scope dV kV doc pm an cdv ct iname iparams ibody ids iret itps iscope its ib ipos}
    (hK : (hd.heap_39 w.params).lookup 49 = some ⟨oc1, od, .func (fnOf name qual params (s1 :: .FunctionDef iname iparams ibody ids iret itps iscope its ib ipos :: rest') scope dV kV doc pm an cdv ct), osl⟩)
    {iqual : Str} {idoc ipm ctv : Value} {f c' D ci ca cn : Nat} {oc oI oA oN : Obj} {ovs : Array Value} {ot : Tok} {n : Int} {tn : Tok} {ep : Nat}
    (hc1 : oc.data = .fields ovs) (hc2 : ovs[1]? = some (.str iqual ot)) (hI : oI.data = .cell (some (.ref f))) (hA : oA.data = .cell (some (.ref D))) (hN : oN.data = .cell (some (.int n tn)))
    (hn : 0 < n) (hn2 : n < 64) (hne : f ≠ D ∧ c' ≠ D ∧ ci ≠ D ∧ ca ≠ D ∧ cn ≠ D) : ∀ (sz : Nat) (x l r : Int) (tx tl tr : Tok) (vs : List Value), 1 ≤ sz → sz ≤ 64 → r = l + sz → 0 ≤ l → r ≤ vs.length → vs.length ≤ 64 → 0 ≤ x → x < 2 ^ 62 → x < (2 ^ n.toNat) ^ sz →
    Spec w p loose mean mg mb f (sz + 4) (3 * sz + 200) [.int x tx, .int l tl, .int r tr] (ledI f c' D ci ca cn (fnMade iname iqual iparams ibody iscope (clI cn ci ca) idoc ipm c' ctv) oc oI oA oN vs ep)
      (fun own' v => v = .none ∧ ∃ us, IntsAre us (dig (2 ^ n.toNat) x sz) ∧ own' = ledI f c' D ci ca cn (fnMade iname iqual iparams ibody iscope (clI cn ci ca) idoc ipm c' ctv) oc oI oA oN (vs.take l.toNat ++ us ++ vs.drop r.toNat) ep) := by
  k_with_none
  k_with "setItem ref int" => (k_here; (with_reducible show wpAny _ _ (setItem (Value.ref _) (Value.int _ _) _) _ _ _); k_dflt (refine' setAny (by k_asm) (by k_asm) (by k_upd) (by (first | lia | omega)) (by (first | lia | omega)) (by (first | lia | omega)) ?_); intro _ _ _; (try k_sweep))
  k_with "binaryOp RShift int int" => (k_here; (with_reducible show wpAny _ _ (binaryOp Operator.RShift (Value.int _ _) (Value.int _ _)) _ _ _); (first | ((with_reducible refine rsh_one ?_); intro _ _ _ _) | ((with_reducible refine rsh_gen (by (first | lia | omega)) ?_); intro _ _ _)))
  k_with "binaryOp LShift int int" => (k_here; (with_reducible show wpAny _ _ (binaryOp Operator.LShift (Value.int _ _) (Value.int _ _)) _ _ _); (with_reducible refine lsh_gen (by (first | lia | omega)) (by (first | lia | omega)) (by (first | lia | omega)) ?_); intro _ _)
  k_with "binaryOp BitXor int int" => (k_here; (with_reducible show wpAny _ _ (binaryOp Operator.BitXor (Value.int _ _) (Value.int _ _)) _ _ _); (with_reducible refine xor_gen ?_); intro _ _)
  k_with "binaryOp Mult int int" => (k_here; (with_reducible show wpAny _ _ (binaryOp Operator.Mult (Value.int _ _) (Value.int _ _)) _ _ _); (with_reducible refine mul_gen (by (first | lia | omega)) (by (first | lia | omega)) (by (first | lia | omega)) (by (first | lia | omega)) ?_); intro _ _ _ _)
  refine' with49 (w := w) ?pf ?k
  case pf => k_is
  case k =>
    intro e
    rw [hK] at e
    cases e
    intro sz
    induction sz using Nat.strongRecOn with
    | _ sz ih =>
    intro x l r tx tl tr vs h1 h64 hr hl hrl hv64 hx0 hx62 hx
    refine' Spec.ofNest (binds := [(Str.ofString "x", .int x tx), (Str.ofString "L", .int l tl), (Str.ofString "R", .int r tr)]) ?ho ?hcm ?hcd ?hcv ?hbind ?hloc ?h ?r1 ?c2 ?c3 ?c4 ?c5
    case ho => k_mem
    case hcm => k_mem
    case hcd => exact hc1
    case hcv => exact hc2
    case hbind => exact rfl
    case hloc => exact locs rfl
    case r1 => (first | lia | omega)
    case c2 => exact rfl
    case c3 => exact rfl
    case c4 => exact rfl
    case c5 => decide
    intro dp un gd outer A base g L h₁ tk s B F X N T C lt hdp hun
    have C' := C
    obtain ⟨C1, C2, C3, C4⟩ := C
    k_lt lt
    dsimp only [ledI] at N
    try dsimp only
    try k_fold
    k_steps
    · dsimp only
      k_steps
      refine End.intro _ (by k_asm) (by k_asm) (fun q h => h) ⟨rfl, [.int x tx], ?_, ?_⟩
      · have hsz : sz = 1 := by (first | lia | omega)
        subst hsz
        rw [dig_one hx0 (by rw [Int.pow_succ, Int.pow_zero, Int.one_mul] at hx; exact hx)]
        exact .cons _ _ .nil
      · have e : vs.set l.toNat (.int x tx) = vs.take l.toNat ++ [.int x tx] ++ vs.drop r.toNat := by
          have e1 : r.toNat = l.toNat + 1 := by (first | lia | omega)
          rw [List.set_eq_take_append_cons_drop, if_pos (by (first | lia | omega)), e1]; simp
        rw [e]
    · rename l + 1 ≠ r => hne'
      rename 2 * _ ≤ l + r => hR1
      rename l + r ≤ 2 * _ + 1 => hR2
      rename _ = (_ - l) * n => hM
      rename _ = x / _ => hU
      rename _ = _ * 2 ^ _ => hL
      rename _ = Builtin.bitXor x _ => hX
      obtain ⟨j, k, hj1, hk1, hjk, hmid, hrk, hlo, hup, lo0, lo1, up0, up1, lox, upx⟩ := split_math hn hr hne' h1 hR1 hR2 hM hU hL hX hx0 hx
      subst hmid
      refine' Spec.use (ih j (by (first | lia | omega)) _ _ _ _ _ _ vs hj1 (by (first | lia | omega)) rfl hl (by (first | lia | omega)) hv64 lo0 (by (first | lia | omega)) lo1) [] B (by k_asm) X (by k_asm) T C' ?hk ?hd ?hu ?sub ?ap ?ret
      case hk => exact rfl
      case hd => (first | lia | omega)
      case hu => (first | lia | omega)
      case sub => intro q hq; simpa using hq
      case ap => intro q hq; cases hq
      case ret =>
        intro r1 own1 hh1 tk1 F1 N1 nw1 P1
        obtain ⟨e1, us, hus, eo1⟩ := P1
        subst e1 eo1
        simp only [List.append_nil, ledI] at N1
        dsimp only
        k_steps
        have hul : us.length = j := by rw [hus.length, dig_length]
        have ht : (vs.take l.toNat).length = l.toNat := by rw [List.length_take]; (first | lia | omega)
        have hvl : (vs.take l.toNat ++ us ++ vs.drop (l + (j : Int)).toNat).length = vs.length := by
          rw [List.length_append, List.length_append, ht, hul, List.length_drop]; (first | lia | omega)
        refine' Spec.use (ih k (by (first | lia | omega)) _ _ _ _ _ _ _ hk1 (by (first | lia | omega)) hrk (by (first | lia | omega)) (by rw [hvl]; (first | lia | omega)) (by rw [hvl]; (first | lia | omega)) up0 (by (first | lia | omega)) up1) [] B (by k_asm) X (by k_asm) T C' ?hk ?hd ?hu ?sub ?ap ?ret
        case hk => exact rfl
        case hd => (first | lia | omega)
        case hu => (first | lia | omega)
        case sub => intro q hq; simpa using hq
        case ap => intro q hq; cases hq
        case ret =>
          intro r2 own2 hh2 tk2 F2 N2 nw2 P2
          obtain ⟨e2, ws, hws, eo2⟩ := P2
          subst e2 eo2
          simp only [List.append_nil, ledI] at N2
          dsimp only
          k_steps
          refine End.intro _ (by k_asm) (by k_asm) (fun q h => h) ⟨rfl, us ++ ws, ?_, ?_⟩
          · have := ints_append hus hws
            rw [hlo, hup, ← dig_add (pow_pos' (by decide) _), hjk] at this
            exact this
          · have e : (vs.take l.toNat ++ us ++ vs.drop (l + (j : Int)).toNat).take (l + (j : Int)).toNat ++ ws ++ (vs.take l.toNat ++ us ++ vs.drop (l + (j : Int)).toNat).drop r.toNat = vs.take l.toNat ++ (us ++ ws) ++ vs.drop r.toNat := by
              have q1 : (l + (j : Int)).toNat = l.toNat + j := by (first | lia | omega)
              have q2 : r.toNat = l.toNat + j + k := by (first | lia | omega)
              rw [q1, q2]
              exact cut_two vs us ws l.toNat j k (by (first | lia | omega)) hul
            rw [e]
end Mine
namespace Mine
open PySem PySem.W PySem.Spec PySem.Calls PyProof.Rows
example : True := by (w_top off; k_with_none; trivial)
/-- a code table with at most one entry -/
inductive Tab (P line col : Nat) (q : Str) : Led → Prop
  | e : Tab P line col q [(P, tabObj #[])]
  | f (c : Nat) (oc : Obj) (ovs : Array Value) (ot : Tok) : oc.data = .fields ovs → ovs[1]? = some (.str q ot) → c ≠ P → Tab P line col q [(P, tabObj #[rawInt line, rawInt col, .ref c]), (c, oc)]
theorem flat_one (k : Nat) (v : Value) : (List.replicate k [v]).flatten = List.replicate k v := by
  induction k with
  | zero => rfl
  | succ k ih => simp [List.replicate_succ, ih]
theorem digCount (a n : Int) (hb : Builtin.Int.intBits a ≤ 64) (hn : 0 < n) : 0 ≤ ((Builtin.Int.intBits a : Int) + n - 1).fdiv n ∧ ((Builtin.Int.intBits a : Int) + n - 1).fdiv n ≤ 64 := by
  rw [Int.fdiv_eq_ediv_of_nonneg _ (by (first | lia | omega))]
  refine ⟨Int.ediv_nonneg (by (first | lia | omega)) (by (first | lia | omega)), ?_⟩
  have : ((Builtin.Int.intBits a : Int) + n - 1) / n < 65 := Int.ediv_lt_of_lt_mul hn (by
    have : (65 : Int) * n = 64 * n + n := by (first | lia | omega)
    (first | lia | omega))
  (first | lia | omega)
/-- the number of digits -/
def nd (a n : Int) : Nat := (((Builtin.Int.intBits a : Int) + n - 1).fdiv n).toNat
theorem nd_zero (n : Int) (hn : 0 < n) : nd 0 n = 0 := by
  unfold nd
  have : (Builtin.Int.intBits 0 : Int) + n - 1 = n - 1 := by simp [Builtin.Int.intBits]
  rw [this, Int.fdiv_eq_ediv_of_nonneg _ (by (first | lia | omega)), Int.ediv_eq_zero_of_lt (by (first | lia | omega)) (by (first | lia | omega))]; rfl
theorem nd_pos (a n : Int) (ha : a ≠ 0) (hn : 0 < n) : 1 ≤ nd a n := by
  unfold nd
  have h1 : 1 ≤ Builtin.Int.intBits a := by simp [Builtin.Int.intBits, ha]
  rw [Int.fdiv_eq_ediv_of_nonneg _ (by (first | lia | omega))]
  have : 1 ≤ ((Builtin.Int.intBits a : Int) + n - 1) / n := Int.le_ediv_of_mul_le hn (by (first | lia | omega))
  (first | lia | omega)
theorem nd_lt (a n : Int) (ha : 0 ≤ a) (hb : Builtin.Int.intBits a ≤ 64) (hn : 0 < n) : a < (2 ^ n.toNat) ^ nd a n := by
  have h0 := digCount a n hb hn
  have h1 : a.natAbs < 2 ^ Builtin.Int.intBits a := intBits_le_iff.mp (Nat.le_refl _)
  have h2 : Builtin.Int.intBits a ≤ n.toNat * nd a n := by
    unfold nd
    rw [Int.fdiv_eq_ediv_of_nonneg _ (by (first | lia | omega))] at h0 ⊢
    have e := Int.emod_add_mul_ediv ((Builtin.Int.intBits a : Int) + n - 1) n
    have e2 := Int.emod_lt_of_pos ((Builtin.Int.intBits a : Int) + n - 1) hn
    have : ((n.toNat * (((Builtin.Int.intBits a : Int) + n - 1) / n).toNat : Nat) : Int) = n * (((Builtin.Int.intBits a : Int) + n - 1) / n) := by
      rw [Int.natCast_mul, Int.toNat_of_nonneg (by (first | lia | omega)), Int.toNat_of_nonneg h0.1]
    (first | lia | omega)
  have h3 : a.natAbs < 2 ^ (n.toNat * nd a n) := Nat.lt_of_lt_of_le h1 (Nat.pow_le_pow_right (by decide) h2)
  have h4 : ((2 ^ (n.toNat * nd a n) : Nat) : Int) = (2 ^ n.toNat) ^ nd a n := by
    rw [Int.natCast_pow, ← Int.pow_mul]; rfl
  (first | lia | omega)
abbrev qI1 : Str := Str.ofString "_int2digits" ++ ".<locals>." ++ Str.ofString "inner"
theorem i2d {w : World} {p : Program} {loose : List Str} {mean : ExcName → Option Value} {mg mb : Str → Option Value} (a n : Int) (ta tn : Tok) (ha : 0 ≤ a) (ha2 : a < 2 ^ 62) (hn : 0 < n) (hn2 : n < 64) (t : Led) (hT : Tab 44 51 4 qI1 t) :
    Spec w p loose mean mg mb 49 80 500 [.int a ta, .int n tn] t (fun own' r => ∃ D us t', r = .ref D ∧ IntsAre us (dig (2 ^ n.toNat) a (nd a n)) ∧ Tab 44 51 4 qI1 t' ∧ own' = (D, W.listOf us.toArray 0) :: t') := by
  k_with_none
  k_with "binaryOp Mult ref int" => (k_here; (with_reducible show wpAny _ _ (binaryOp Operator.Mult (Value.ref _) (Value.int _ _)) _ _ _); k_dflt (refine' KMa.mul (vs := [_]) (by k_asm) (by k_asm) (by is_list) (by (first | lia | omega)) (by (first | lia | omega)) (by (simp only [List.length_cons, List.length_nil]; (first | lia | omega))) (flat_one _ _) ?_); intro _ _ _ _ l1; (try k_lt l1); (revert l1; intro _); (try k_sweep))
  k_with "call builtin:len" => (k_here; (with_reducible show wpAny _ _ (call (Value.builtin "len") [Value.ref _]) _ _ _); k_dflt (refine' kst_len (by k_asm) (by k_mem) (by exact List.length_replicate) (by (first | lia | omega)) ?_))
  refine' Spec.ofBodyC (binds := [(Str.ofString "a", .int a ta), (Str.ofString "n", .int n tn)]) ?ho ?hcd ?hbind ?hkind ?hnd ?h ?r1 ?c2 ?c3 ?c4
  case ho => k_is
  case hcd => k_is
  case hbind => exact rfl
  case hkind => exact rfl
  case hnd => decide +kernel
  case r1 => decide
  case c2 => exact rfl
  case c3 => exact rfl
  case c4 => exact rfl
  intro dp un gd outer A base g L h₁ tk s cells B F X N Y T C lt hdp hun
  have hbits : Builtin.Int.intBits a ≤ 64 := intBits_le_64 (by (first | lia | omega)) (by (first | lia | omega))
  have hk := digCount a n hbits hn
  have C' := C
  obtain ⟨C1, C2, C3, C4⟩ := C
  k_cells Y
  cases hT
  · k_lt lt
    simp only [List.cons_append, List.nil_append] at N
    try dsimp only
    try k_fold
    k_steps
    · rename a ≠ 0 => ha0
      have hp := nd_pos a n ha0 hn
      have hl := nd_lt a n ha hbits hn
      have h64 : nd a n ≤ 64 := by unfold nd; (first | lia | omega)
      refine' Spec.use (inner1 (n := n) ?hK ?hc1 ?hc2 ?hI ?hA ?hN hn hn2 ?hne (nd a n) a 0 _ _ _ _ _ hp h64 ?hr (by (first | lia | omega)) ?hrl ?hv ha ha2 hl) [(44, tabObj (#[] ++ #[rawInt 51, rawInt 4, .ref _]))] B (by k_asm) X (by k_asm) T C' ?hk ?hd ?hu ?sub ?ap ?ret
      case hK => k_is
      case sub => exact SubL.mem (by k_subL)
      case hI => assumption
      case hA => assumption
      case hN => assumption
      case hc1 => assumption
      case hc2 => assumption
      case hne => (first | lia | omega)
      case hr => show _ = 0 + ((nd a n : Nat) : Int); unfold nd; (first | lia | omega)
      case hrl => rw [List.length_replicate]; (first | lia | omega)
      case hv => rw [List.length_replicate]; (first | lia | omega)
      case hk => exact rfl
      case hd => (first | lia | omega)
      case hu => (first | lia | omega)
      case ap => exact .cons (by simp only [ledI, NotIn, and_true]; (first | lia | omega)) .nil
      case ret =>
        intro r1 own1 hh1 tk1 F1 N1 nw1 P1
        obtain ⟨e1, us, hus, eo1⟩ := P1
        subst e1 eo1
        have e : ∀ v : Value, List.take (0 : Int).toNat (List.replicate (((Builtin.Int.intBits a : Int) + n - 1).fdiv n).toNat v) ++ us ++ List.drop (((((Builtin.Int.intBits a : Int) + n - 1).fdiv n).toNat : Int)).toNat (List.replicate (((Builtin.Int.intBits a : Int) + n - 1).fdiv n).toNat v) = us := by
          intro v; rw [Int.toNat_zero, List.take_zero, Int.toNat_natCast, List.drop_of_length_le (by simp), List.append_nil, List.nil_append]
        dsimp only [ledI, List.cons_append, List.nil_append] at N1
        rw [e] at N1
        dsimp only
        k_steps
        refine' End.intro ((_, W.listOf us.toArray 0) :: [(44, tabObj #[rawInt 51, rawInt 4, .ref _]), (_, _)]) ?F ?N ?sub ⟨_, us, _, rfl, hus, Tab.f _ _ _ _ ?h1 ?h2 ?h3, rfl⟩
        case F => k_asm
        case N => k_asm
        case sub => exact SubL.mem (by k_subL)
        case h1 => assumption
        case h2 => assumption
        case h3 => (first | lia | omega)
    · dsimp only
      k_steps
      have ha0 : a = 0 := by (first | lia | omega)
      subst ha0
      have hz := nd_zero n hn
      have e : (((Builtin.Int.intBits 0 : Int) + n - 1).fdiv n).toNat = 0 := hz
      refine' End.intro ((_, W.listOf ([] : List Value).toArray 0) :: [(44, tabObj #[rawInt 51, rawInt 4, .ref _]), (_, _)]) ?F ?N ?sub ⟨_, [], _, rfl, ?hus, Tab.f _ _ _ _ ?h1 ?h2 ?h3, rfl⟩
      case F => k_asm
      case N =>
        rename News _ _ _ _ => NN
        rw [e, List.replicate_zero] at NN
        exact NN
      case sub => exact SubL.mem (by k_subL)
      case hus => rw [hz]; exact .nil
      case h1 => assumption
      case h2 => assumption
      case h3 => (first | lia | omega)
  · k_lt lt
    simp only [List.cons_append, List.nil_append] at N
    try dsimp only
    try k_fold
    k_steps
    · rename a ≠ 0 => ha0
      have hp := nd_pos a n ha0 hn
      have hl := nd_lt a n ha hbits hn
      have h64 : nd a n ≤ 64 := by unfold nd; (first | lia | omega)
      refine' Spec.use (inner1 (n := n) ?hK ?hc1 ?hc2 ?hI ?hA ?hN hn hn2 ?hne (nd a n) a 0 _ _ _ _ _ hp h64 ?hr (by (first | lia | omega)) ?hrl ?hv ha ha2 hl) [(44, tabObj #[rawInt 51, rawInt 4, .ref _])] B (by k_asm) X (by k_asm) T C' ?hk ?hd ?hu ?sub ?ap ?ret
      case hK => k_is
      case sub => exact SubL.mem (by k_subL)
      case hI => assumption
      case hA => assumption
      case hN => assumption
      case hc1 => assumption
      case hc2 => assumption
      case hne => (first | lia | omega)
      case hr => show _ = 0 + ((nd a n : Nat) : Int); unfold nd; (first | lia | omega)
      case hrl => rw [List.length_replicate]; (first | lia | omega)
      case hv => rw [List.length_replicate]; (first | lia | omega)
      case hk => exact rfl
      case hd => (first | lia | omega)
      case hu => (first | lia | omega)
      case ap => exact .cons (by simp only [ledI, NotIn, and_true]; (first | lia | omega)) .nil
      case ret =>
        intro r1 own1 hh1 tk1 F1 N1 nw1 P1
        obtain ⟨e1, us, hus, eo1⟩ := P1
        subst e1 eo1
        have e : ∀ v : Value, List.take (0 : Int).toNat (List.replicate (((Builtin.Int.intBits a : Int) + n - 1).fdiv n).toNat v) ++ us ++ List.drop (((((Builtin.Int.intBits a : Int) + n - 1).fdiv n).toNat : Int)).toNat (List.replicate (((Builtin.Int.intBits a : Int) + n - 1).fdiv n).toNat v) = us := by
          intro v; rw [Int.toNat_zero, List.take_zero, Int.toNat_natCast, List.drop_of_length_le (by simp), List.append_nil, List.nil_append]
        dsimp only [ledI, List.cons_append, List.nil_append] at N1
        rw [e] at N1
        dsimp only
        k_steps
        refine' End.intro ((_, W.listOf us.toArray 0) :: [(44, tabObj #[rawInt 51, rawInt 4, .ref _]), (_, _)]) ?F ?N ?sub ⟨_, us, _, rfl, hus, Tab.f _ _ _ _ ?h1 ?h2 ?h3, rfl⟩
        case F => k_asm
        case N => k_asm
        case sub => exact SubL.mem (by k_subL)
        case h1 => assumption
        case h2 => assumption
        case h3 => (first | lia | omega)
    · dsimp only
      k_steps
      have ha0 : a = 0 := by (first | lia | omega)
      subst ha0
      have hz := nd_zero n hn
      have e : (((Builtin.Int.intBits 0 : Int) + n - 1).fdiv n).toNat = 0 := hz
      refine' End.intro ((_, W.listOf ([] : List Value).toArray 0) :: [(44, tabObj #[rawInt 51, rawInt 4, .ref _]), (_, _)]) ?F ?N ?sub ⟨_, [], _, rfl, ?hus, Tab.f _ _ _ _ ?h1 ?h2 ?h3, rfl⟩
      case F => k_asm
      case N =>
        rename News _ _ _ _ => NN
        rw [e, List.replicate_zero] at NN
        exact NN
      case sub => exact SubL.mem (by k_subL)
      case hus => rw [hz]; exact .nil
      case h1 => assumption
      case h2 => assumption
      case h3 => (first | lia | omega)
end Mine
namespace Mine
open PySem PySem.W PySem.Spec PySem.Calls PyProof.Rows
example : True := by (w_top off; k_with_none; trivial)
theorem lsh_gen' {prog : Program} {w : World} {A : Around} {E : Value → Shared → Prop} {s : Shared} {Q : Value → Shared → Prop} {a n : Int} {t u : Tok} (hn : 0 ≤ n) (hn2 : n ≤ 1000000) (ha0 : 0 ≤ a) (ha : a < 2 ^ 62) (h : ∀ v, v = a * 2 ^ n.toNat → Q (.int v s.toks) { s with toks := s.toks + 1 }) : wpAny (model prog w) A (binaryOp .LShift (.int a t) (.int n u)) Q E s :=
  lsh_gen hn hn2 (by (first | lia | omega)) h
theorem with56 {w : World} {G : Prop} {oc od osl name qual params a1 a2 a3 a4 a5 a6 a7 a8 a9 a10 r scope dV kV doc pm an cdv ct} (h : (hd.heap_39 w.params).lookup 56 = some ⟨oc, od, .func (fnOf name qual params (.FunctionDef a1 a2 a3 a4 a5 a6 a7 a8 a9 a10 :: r) scope dV kV doc pm an cdv ct), osl⟩)
    (k : (hd.heap_39 w.params).lookup 56 = some ⟨oc, od, .func (fnOf name qual params (.FunctionDef a1 a2 a3 a4 a5 a6 a7 a8 a9 a10 :: r) scope dV kV doc pm an cdv ct), osl⟩ → G) : G := k h
abbrev clJ (cn ci cd : Addr) : List (Str × Addr) := [(Str.ofString "n", cn), (Str.ofString "inner", ci), (Str.ofString "digits", cd)]
abbrev ledJ (f c' D ci cd cn : Addr) (fo oc oI oD oN : Obj) (vs : List Value) (ep : Nat) : Led := [(f, fo), (c', oc), (D, W.listOf vs.toArray ep), (ci, oI), (cd, oD), (cn, oN)]
theorem inner2 {w : World} {p : Program} {loose : List Str} {mean : ExcName → Option Value} {mg mb : Str → Option Value}
    {oc1 : Value} {od osl name qual params rest' scope dV kV doc pm an cdv ct iname iparams ibody ids iret itps iscope its ib ipos}
    (hK : (hd.heap_39 w.params).lookup 56 = some ⟨oc1, od, .func (fnOf name qual params (.FunctionDef iname iparams ibody ids iret itps iscope its ib ipos :: rest') scope dV kV doc pm an cdv ct), osl⟩)
    {iqual : Str} {idoc ipm ctv : Value} {f c' D ci cd cn : Nat} {oc oI oD oN : Obj} {ovs : Array Value} {ot : Tok} {n : Int} {tn : Tok} {ep : Nat} {vs : List Value} {ns : List Int}
    (hc1 : oc.data = .fields ovs) (hc2 : ovs[1]? = some (.str iqual ot)) (hI : oI.data = .cell (some (.ref f))) (hA : oD.data = .cell (some (.ref D))) (hN : oN.data = .cell (some (.int n tn)))
    (hn : 0 < n) (hn2 : n < 64) (hv : IntsAre vs ns) (hv64 : ns.length ≤ 64) : ∀ (sz : Nat) (l r : Int) (tl tr : Tok), 1 ≤ sz → sz ≤ 64 → r = l + sz → 0 ≤ l → r ≤ ns.length → (∀ d ∈ (ns.drop l.toNat).take sz, 0 ≤ d) → val (2 ^ n.toNat) ((ns.drop l.toNat).take sz) < 2 ^ 62 →
    Spec w p loose mean mg mb f (sz + 4) (3 * sz + 200) [.int l tl, .int r tr] (ledJ f c' D ci cd cn (fnMade iname iqual iparams ibody iscope (clJ cn ci cd) idoc ipm c' ctv) oc oI oD oN vs ep)
      (fun own' v => (∃ t, v = .int (val (2 ^ n.toNat) ((ns.drop l.toNat).take sz)) t) ∧ own' = ledJ f c' D ci cd cn (fnMade iname iqual iparams ibody iscope (clJ cn ci cd) idoc ipm c' ctv) oc oI oD oN vs ep) := by
  k_with_none
  k_with "binaryOp RShift int int" => (k_here; (with_reducible show wpAny _ _ (binaryOp Operator.RShift (Value.int _ _) (Value.int _ _)) _ _ _); ((with_reducible refine rsh_one ?_); intro _ _ _ _))
  k_with "binaryOp LShift int int" => (k_here; (with_reducible show wpAny _ _ (binaryOp Operator.LShift (Value.int _ _) (Value.int _ _)) _ _ _); (with_reducible refine lsh_gen' (by (first | lia | omega)) (by (first | lia | omega)) (by assumption) (by assumption) ?_); intro _ _)
  k_with "binaryOp Mult int int" => (k_here; (with_reducible show wpAny _ _ (binaryOp Operator.Mult (Value.int _ _) (Value.int _ _)) _ _ _); (with_reducible refine mul_gen (by (first | lia | omega)) (by (first | lia | omega)) (by (first | lia | omega)) (by (first | lia | omega)) ?_); intro _ _ _ _)
  refine' with56 (w := w) ?pf ?k
  case pf => k_is
  case k =>
    intro e
    rw [hK] at e
    cases e
    intro sz
    induction sz using Nat.strongRecOn with
    | _ sz ih =>
    intro l r tl tr h1 h64 hr hl hrl hd0 hval
    refine' Spec.ofNest (binds := [(Str.ofString "L", .int l tl), (Str.ofString "R", .int r tr)]) ?ho ?hcm ?hcd ?hcv ?hbind ?hloc ?h ?r1 ?c2 ?c3 ?c4 ?c5
    case ho => k_mem
    case hcm => k_mem
    case hcd => exact hc1
    case hcv => exact hc2
    case hbind => exact rfl
    case hloc => exact locs rfl
    case r1 => (first | lia | omega)
    case c2 => exact rfl
    case c3 => exact rfl
    case c4 => exact rfl
    case c5 => decide
    intro dp un gd outer A base g L h₁ tk s B F X N T C lt hdp hun
    have C' := C
    obtain ⟨C1, C2, C3, C4⟩ := C
    k_lt lt
    dsimp only [ledJ] at N
    try dsimp only
    try k_fold
    k_steps
    · dsimp only
      k_steps
      refine End.intro _ (by k_asm) (by k_asm) (fun q h => h) ⟨⟨_, congrArg (fun z => Value.int z _) ?_⟩, rfl⟩
      have hsz : sz = 1 := by (first | lia | omega)
      subst hsz
      have e : (ns.drop l.toNat).take 1 = [ns.getD l.toNat 0] := by
        have hlt : l.toNat < ns.length := by (first | lia | omega)
        rw [List.drop_eq_getElem_cons hlt, List.take_succ_cons, List.take_zero, List.getD_eq_getElem?_getD, List.getElem?_eq_getElem hlt, Option.getD_some]
      rw [e]
      simp only [val, Int.mul_zero, Int.add_zero]
    · rename l + 1 ≠ r => hne'
      rename 2 * _ ≤ l + r => hR1
      rename l + r ≤ 2 * _ + 1 => hR2
      rename _ = (_ - l) * n => hM
      obtain ⟨j, k, hj1, hk1, hjk, hmid, hrk, dj, dk, vj0, vk0, vj1, vk1, hval2⟩ := sub_math hn hr hne' h1 hl hrl hR1 hR2 hM hd0 hval
      subst hmid
      refine' Spec.use (ih k (by (first | lia | omega)) _ _ _ _ hk1 (by (first | lia | omega)) hrk (by (first | lia | omega)) hrl dk vk1) [] B (by k_asm) X (by k_asm) T C' ?hk ?hd ?hu ?sub ?ap ?ret
      case hk => exact rfl
      case hd => (first | lia | omega)
      case hu => (first | lia | omega)
      case sub => intro q hq; simpa using hq
      case ap => exact .nil
      case ret =>
        intro r1 own1 hh1 tk1 F1 N1 nw1 P1
        obtain ⟨⟨t1, e1⟩, eo1⟩ := P1
        subst e1 eo1
        simp only [List.append_nil, ledJ] at N1
        dsimp only
        k_steps
        refine' Spec.use (ih j (by (first | lia | omega)) _ _ _ _ hj1 (by (first | lia | omega)) rfl hl (by (first | lia | omega)) dj vj1) [] B (by k_asm) X (by k_asm) T C' ?hk ?hd ?hu ?sub ?ap ?ret
        case hk => exact rfl
        case hd => (first | lia | omega)
        case hu => (first | lia | omega)
        case sub => intro q hq; simpa using hq
        case ap => exact .nil
        case ret =>
          intro r2 own2 hh2 tk2 F2 N2 nw2 P2
          obtain ⟨⟨t2, e2⟩, eo2⟩ := P2
          subst e2 eo2
          simp only [List.append_nil, ledJ] at N2
          dsimp only
          k_steps
          refine End.intro _ (by k_asm) (by k_asm) (fun q h => h) ⟨⟨_, congrArg (fun z => Value.int z _) ?_⟩, rfl⟩
          rename _ = _ * 2 ^ _ => hL
          rw [hL, hval2]
abbrev qI2 : Str := Str.ofString "_digits2int" ++ ".<locals>." ++ Str.ofString "inner"
theorem d2i {w : World} {p : Program} {loose : List Str} {mean : ExcName → Option Value} {mg mb : Str → Option Value} (n : Int) (tn : Tok) (hn : 0 < n) (hn2 : n < 64) (t : Led) (D : Nat) (vs : List Value) (ns : List Int) (ep : Nat) (hi : IntsAre vs ns) (h64 : ns.length ≤ 64)
    (hd0 : ∀ d ∈ ns, 0 ≤ d) (hval : val (2 ^ n.toNat) ns < 2 ^ 62) (hT : Tab 51 66 4 qI2 t) (hD : D ≠ 51) :
    Spec w p loose mean mg mb 56 80 500 [.ref D, .int n tn] ((D, W.listOf vs.toArray ep) :: t) (fun own' r => (∃ tr, r = .int (val (2 ^ n.toNat) ns) tr) ∧ Tab 51 66 4 qI2 own') := by
  k_with_none
  k_with "binaryOp RShift int int" => (k_here; (with_reducible show wpAny _ _ (binaryOp Operator.RShift (Value.int _ _) (Value.int _ _)) _ _ _); ((with_reducible refine rsh_one ?_); intro _ _ _ _))
  k_with "binaryOp LShift int int" => (k_here; (with_reducible show wpAny _ _ (binaryOp Operator.LShift (Value.int _ _) (Value.int _ _)) _ _ _); (with_reducible refine lsh_gen' (by (first | lia | omega)) (by (first | lia | omega)) (by assumption) (by assumption) ?_); intro _ _)
  k_with "binaryOp Mult int int" => (k_here; (with_reducible show wpAny _ _ (binaryOp Operator.Mult (Value.int _ _) (Value.int _ _)) _ _ _); (with_reducible refine mul_gen (by (first | lia | omega)) (by (first | lia | omega)) (by (first | lia | omega)) (by (first | lia | omega)) ?_); intro _ _ _ _)
  refine' Spec.ofBodyC (binds := [(Str.ofString "digits", .ref D), (Str.ofString "n", .int n tn)]) ?ho ?hcd ?hbind ?hkind ?hnd ?h ?r1 ?c2 ?c3 ?c4
  case ho => k_is
  case hcd => k_is
  case hbind => exact rfl
  case hkind => exact rfl
  case hnd => decide +kernel
  case r1 => decide
  case c2 => exact rfl
  case c3 => exact rfl
  case c4 => exact rfl
  intro dp un gd outer A base g L h₁ tk s cells B F X N Y T C lt hdp hun
  have C' := C
  obtain ⟨C1, C2, C3, C4⟩ := C
  k_cells Y
  cases hT
  · k_lt lt
    simp only [List.cons_append, List.nil_append] at N
    try dsimp only
    try k_fold
    k_steps
    · have hp : 1 ≤ ns.length := by (first | lia | omega)
      have ht : (ns.drop (0 : Int).toNat).take ns.length = ns := by simp
      refine' Spec.use (inner2 (n := n) ?hK ?hc1 ?hc2 ?hI ?hA ?hN hn hn2 hi h64 ns.length 0 _ _ _ hp h64 (by (first | lia | omega)) (by (first | lia | omega)) (by (first | lia | omega)) (by rw [ht]; exact hd0) (by rw [ht]; exact hval)) [(51, tabObj (#[] ++ #[rawInt 66, rawInt 4, .ref _]))] B (by k_asm) X (by k_asm) T C' ?hk ?hd ?hu ?sub ?ap ?ret
      case hK => k_is
      case sub => exact SubL.mem (by k_subL)
      case hI => assumption
      case hA => assumption
      case hN => assumption
      case hc1 => assumption
      case hc2 => assumption
      case hk => exact rfl
      case hd => (first | lia | omega)
      case hu => (first | lia | omega)
      case ap => exact .cons (by simp only [ledJ, NotIn, and_true]; (first | lia | omega)) .nil
      case ret =>
        intro r1 own1 hh1 tk1 F1 N1 nw1 P1
        obtain ⟨⟨t1, e1⟩, eo1⟩ := P1
        subst e1 eo1
        dsimp only [ledJ, List.cons_append, List.nil_append] at N1
        rw [ht]
        dsimp only
        k_steps
        refine' End.intro [(51, tabObj #[rawInt 66, rawInt 4, .ref _]), (_, _)] ?F ?N ?sub ⟨⟨_, rfl⟩, Tab.f _ _ _ _ ?h1 ?h2 ?h3⟩
        case F => k_asm
        case N => k_asm
        case sub => exact SubL.mem (by k_subL)
        case h1 => assumption
        case h2 => assumption
        case h3 => (first | lia | omega)
    · have hz : ns = [] := List.length_eq_zero_iff.mp (by (first | lia | omega))
      subst hz
      refine' End.intro [(51, tabObj #[rawInt 66, rawInt 4, .ref _]), (_, _)] ?F ?N ?sub ⟨⟨_, rfl⟩, Tab.f _ _ _ _ ?h1 ?h2 ?h3⟩
      case F => k_asm
      case N => k_asm
      case sub => exact SubL.mem (by k_subL)
      case h1 => assumption
      case h2 => assumption
      case h3 => (first | lia | omega)
  · k_lt lt
    simp only [List.cons_append, List.nil_append] at N
    try dsimp only
    try k_fold
    k_steps
    · have hp : 1 ≤ ns.length := by (first | lia | omega)
      have ht : (ns.drop (0 : Int).toNat).take ns.length = ns := by simp
      refine' Spec.use (inner2 (n := n) ?hK ?hc1 ?hc2 ?hI ?hA ?hN hn hn2 hi h64 ns.length 0 _ _ _ hp h64 (by (first | lia | omega)) (by (first | lia | omega)) (by (first | lia | omega)) (by rw [ht]; exact hd0) (by rw [ht]; exact hval)) [(51, tabObj #[rawInt 66, rawInt 4, .ref _])] B (by k_asm) X (by k_asm) T C' ?hk ?hd ?hu ?sub ?ap ?ret
      case hK => k_is
      case sub => exact SubL.mem (by k_subL)
      case hI => assumption
      case hA => assumption
      case hN => assumption
      case hc1 => assumption
      case hc2 => assumption
      case hk => exact rfl
      case hd => (first | lia | omega)
      case hu => (first | lia | omega)
      case ap => exact .cons (by simp only [ledJ, NotIn, and_true]; (first | lia | omega)) .nil
      case ret =>
        intro r1 own1 hh1 tk1 F1 N1 nw1 P1
        obtain ⟨⟨t1, e1⟩, eo1⟩ := P1
        subst e1 eo1
        dsimp only [ledJ, List.cons_append, List.nil_append] at N1
        rw [ht]
        dsimp only
        k_steps
        refine' End.intro [(51, tabObj #[rawInt 66, rawInt 4, .ref _]), (_, _)] ?F ?N ?sub ⟨⟨_, rfl⟩, Tab.f _ _ _ _ ?h1 ?h2 ?h3⟩
        case F => k_asm
        case N => k_asm
        case sub => exact SubL.mem (by k_subL)
        case h1 => assumption
        case h2 => assumption
        case h3 => (first | lia | omega)
    · have hz : ns = [] := List.length_eq_zero_iff.mp (by (first | lia | omega))
      subst hz
      refine' End.intro [(51, tabObj #[rawInt 66, rawInt 4, .ref _]), (_, _)] ?F ?N ?sub ⟨⟨_, rfl⟩, Tab.f _ _ _ _ ?h1 ?h2 ?h3⟩
      case F => k_asm
      case N => k_asm
      case sub => exact SubL.mem (by k_subL)
      case h1 => assumption
      case h2 => assumption
      case h3 => (first | lia | omega)
end Mine
namespace Mine
open PySem PySem.W PySem.Spec PySem.Calls PyProof.Rows
theorem NotIn.of {d : Nat} : ∀ {l : Led}, (∀ p ∈ l, p.1 ≠ d) → NotIn d l
  | [], _ => trivial
  | p :: r, h => ⟨h p (.head _), NotIn.of fun q hq => h q (.tail _ hq)⟩
theorem NotIn.ne {d : Nat} {l : Led} (h : NotIn d l) : ∀ p ∈ l, p.1 ≠ d := by
  intro p hp e
  exact h.out (e ▸ List.mem_map_of_mem hp)
theorem Spec.use0 {w : World} {p : Program} {loose : List Str} {mean : ExcName → Option Value} {mg mb : Str → Option Value} {f : Addr} {D U : Nat} {vs : List Value} {Post : Led → Value → Prop} (S : Spec w p loose mean mg mb f D U vs [] Post)
    {dp un : Nat} {gd : Option (List Code)} {cn : Str} {cs : Scope} {a : Addr} {ccd : Value} {cl : List (Str × Addr)} {outer : List Env} {A₀ : Around} {base h₀ : Heap} {L : Addr} {m : Str → Option Value} {news : Led} {s : Shared} {Q E : Value → Shared → Prop}
    (B : Below A₀ base outer h₀) (F : Fr h₀ L s.heap m) (X : (hd.heap_39 w.params).In h₀) (N : News h₀ L s.heap news) (T : Top p loose mean mg mb h₀) (C : CodesAt base) (hk : cs.kind = .function) (hd : dp + D < recursionLimit) (hu : un + U < cLine)
    (ret : ∀ r own' h' tk', Fr h₀ L h' m → News h₀ L h' (own' ++ news) → (∀ q ∈ own', NotIn q.1 news) → Post own' r → Q r { s with heap := h', toks := tk' }) :
    wpAny (model PySem.Challenge.rw_ph0106_01.row.prog w) (ktrTop dp un gd cn cs L a ccd cl outer) (call (.ref f) vs) Q E s :=
  S.use news B F X N T C hk hd hu (fun _ h => h) (fun _ _ h => nomatch h) fun r own' h' tk' F' N' nw hp => ret r own' h' tk' F' N' (fun q hq => .of fun p hp e => by
    rcases nw q hq with h | h
    · cases h
    · rw [← e, (N p hp).1] at h; cases h) hp
theorem Newer.apart {h₀ h : Heap} {L : Addr} {own own' rest : Led} (nw : Newer own h own') (N : News h₀ L h (own ++ rest)) (ap : Apart own rest) : Apart own' rest := fun p hp hm => by
  obtain ⟨q, hq, e⟩ := List.mem_map.mp hm
  rcases nw q hq with h | h
  · exact ap p hp (e ▸ h)
  · rw [e, (N p (List.mem_append_right _ hp)).1] at h; cases h
theorem Apart.symm {a b : Led} (h : Apart a b) : Apart b a := fun p hp hm => by
  obtain ⟨q, hq, e⟩ := List.mem_map.mp hm
  exact h q hq (e ▸ List.mem_map_of_mem hp)
theorem Apart.ne {a b : Led} (h : Apart a b) {p q : Addr × Obj} (hp : p ∈ a) (hq : q ∈ b) : p.1 ≠ q.1 := fun e => h q hq (e ▸ List.mem_map_of_mem hp)
theorem Apart.of {a b : Led} (h : ∀ p ∈ a, ∀ q ∈ b, p.1 ≠ q.1) : Apart a b := fun q hq hm => by
  obtain ⟨p, hp, e⟩ := List.mem_map.mp hm
  exact h p hp q hq e
theorem Tab.mem {P line col : Nat} {q : Str} {t : Led} (h : Tab P line col q t) : ∃ o, (P, o) ∈ t := by
  cases h with
  | e => exact ⟨_, .head _⟩
  | f => exact ⟨_, .head _⟩
theorem fr_kst {h₀ h : Heap} {L : Addr} {m : Str → Option Value} {ps : List (Str × Value)} (F : Fr h₀ L h m) (hps : ∀ p ∈ ps, m p.1 = some p.2) : Fr h₀ L h (kstB m ps) := by
  have e : kstB m ps = m := by
    funext y
    exact kstB_eq hps fun _ => rfl
  rw [e]; exact F
theorem kst_hold {m : Str → Option Value} {ps : List (Str × Value)} {x : Str} {v : Value} (hps : ∀ p ∈ ps, m p.1 = some p.2) (hx : ∀ p ∈ ps, p.1 ≠ x) : ∀ p ∈ ps, (fun y => if y = x then some v else m y) p.1 = some p.2 := fun p hp => by
  show (if p.1 = x then some v else m p.1) = some p.2
  rw [if_neg (hx p hp)]; exact hps p hp
/-- what the frame knows -/
def Knows (m : Str → Option Value) : List (Str × Value) → Prop
  | [] => True
  | p :: r => m p.1 = some p.2 ∧ Knows m r
theorem Knows.all {m : Str → Option Value} : ∀ {ps : List (Str × Value)}, Knows m ps → ∀ p ∈ ps, m p.1 = some p.2
  | _ :: _, h, _, .head _ => h.1
  | _ :: _, h, p, .tail _ hp => Knows.all h.2 p hp
theorem Knows.fr {h₀ h : Heap} {L : Addr} {m : Str → Option Value} {ps : List (Str × Value)} (K : Knows m ps) (F : Fr h₀ L h m) : Fr h₀ L h (kstB m ps) := fr_kst F K.all
def offKeys (x : Str) (ks : List Str) : Bool := ks.all (fun k => !(k == x))
theorem Knows.set {m : Str → Option Value} {x : Str} {v : Value} : ∀ {ps : List (Str × Value)}, Knows m ps → offKeys x (ps.map (·.1)) = true → Knows (fun y => if y = x then some v else m y) ps
  | [], _, _ => trivial
  | p :: r, K, h => by
    simp only [offKeys, List.map_cons, List.all_cons, Bool.and_eq_true] at h
    refine ⟨?_, Knows.set K.2 h.2⟩
    show (if p.1 = x then some v else m p.1) = some p.2
    rw [if_neg (by intro e; rw [e] at h; simp at h)]
    exact K.1
theorem Knows.with {m : Str → Option Value} {x : Str} {v : Value} {ps : List (Str × Value)} (K : Knows m ps) (h : offKeys x (ps.map (·.1)) = true) : Knows (fun y => if y = x then some v else m y) ((x, v) :: ps) :=
  ⟨if_pos rfl, K.set h⟩
/-- apart by what is held -/
theorem apart_by {h₀ h : Heap} {L : Addr} {news τ : Led} {d : Addr} {o : Obj} (N : News h₀ L h news) (hd : (d, o) ∈ news) (ht : ∀ q ∈ τ, q ∈ news) (hk : ∀ q ∈ τ, q.2.data ≠ o.data) : ∀ q ∈ τ, q.1 ≠ d := fun q hq e => by
  have h1 := (N q (ht q hq)).1
  have h2 := (N _ hd).1
  rw [e, h2] at h1
  exact hk q hq (congrArg Obj.data (Option.some.inj h1)).symm
/-- a ledger of records alone -/
def Recs (τ : Led) : Prop := ∀ q ∈ τ, ∃ vs, q.2.data = .fields vs
theorem Tab.recs {P line col : Nat} {q : Str} {t : Led} (h : Tab P line col q t) : Recs t := by
  cases h with
  | e => intro q hq; cases hq with | head => exact ⟨_, rfl⟩ | tail _ h => cases h
  | f c oc ovs ot h1 _ _ => intro q hq; cases hq with | head => exact ⟨_, rfl⟩ | tail _ h => cases h with | head => exact ⟨_, h1⟩ | tail _ h => cases h
theorem Recs.append {a b : Led} (h1 : Recs a) (h2 : Recs b) : Recs (a ++ b) := fun q hq => (List.mem_append.mp hq).elim (h1 q) (h2 q)
theorem Recs.seq {τ : Led} (h : Recs τ) {its : Array Value} {n : Nat} : ∀ q ∈ τ, q.2.data ≠ (W.listOf its n).data := fun q hq e => by
  obtain ⟨vs, h'⟩ := h q hq
  rw [h'] at e; cases e
section
variable {prog : Program} {w : World} {A : Around} {E : Value → Shared → Prop} {s : Shared} {h₀ : Heap} {L D : Addr} {m : Str → Option Value} {news news' : List (Addr × Obj)} {vs : List Value} {n : Nat} {v : Value} {Q : Value → Shared → Prop}
theorem appL (F : Fr h₀ L s.heap m) (N : News h₀ L s.heap news) (U : Upd D (W.listOf vs.toArray n) (W.listOf (vs ++ [v]).toArray (n + 1)) news news') (hz : vs.length ≤ sizeLine)
    (h : ∀ h', Fr h₀ L h' m → News h₀ L h' news' → Q .none { s with heap := h' }) : wpAny (model prog w) A (call (.builtin "list.append") [.ref D, v]) Q E s := by
  have e : (vs ++ [v]).toArray = vs.toArray.push v := by simp
  rw [e] at U
  exact append_K F N U h (by simpa using hz)
theorem revL (F : Fr h₀ L s.heap m) (N : News h₀ L s.heap news) (U : Upd D (W.listOf vs.toArray n) (W.listOf vs.reverse.toArray n) news news') (hz : vs.length ≤ sizeLine)
    (h : ∀ h', Fr h₀ L h' m → News h₀ L h' news' → Q .none { s with heap := h' }) : wpAny (model prog w) A (call (.builtin "list.reverse") [.ref D]) Q E s :=
  kl_reverse F N (by simp) U (by simpa using hz) h
end
section
variable {prog : Program} {w : World} {A : Around} {E : Value → Shared → Prop} {s : Shared} {env : Env} {h₀ : Heap} {x : Str} {body : List Stmt} {Q : Flow → Shared → Prop}
theorem UnrEnd.mono {L I : Addr} {it : Obj} {r r' : (Str → Option Value) → Led → Prop} {s₁ s₂ : Shared} (h : ∀ m n, r m n → r' m n) (x : UnrEnd h₀ L s₁ I it r s₂) : UnrEnd h₀ L s₁ I it r' s₂ := by
  obtain ⟨h', tk, m', news', e, F, N, o, q⟩ := x
  exact ⟨h', tk, m', news', e, F, N, o, h _ _ q⟩
theorem UnrPost.mono {L I : Addr} {it : Obj} {r r' : (Str → Option Value) → Led → Prop} {s₁ : Shared} (h : ∀ m n, r m n → r' m n) (f : Flow) (s₂ : Shared) (x : UnrPost h₀ L s₁ I it r Q f s₂) : UnrPost h₀ L s₁ I it r' Q f s₂ := by
  cases f with
  | ret v => exact x
  | brk => exact x
  | next => exact UnrEnd.mono h x
  | cont => exact UnrEnd.mono h x
def TurnPost (h₀ : Heap) (L : Addr) (s₁ : Shared) (I : Addr) (it : Obj) (rest : (Str → Option Value) → Led → Prop) (Q : Flow → Shared → Prop) (f : Flow) (s₂ : Shared) : Prop := UnrPost h₀ L s₁ I it rest Q f s₂
theorem TurnPost.next {L I : Addr} {it : Obj} {rest : (Str → Option Value) → Led → Prop} {s₁ : Shared} {h' : Heap} {tk : Nat} {m' : Str → Option Value} {all : Led} (F : Fr h₀ L h' m') (N : News h₀ L h' all) (news' : Led)
    (sub : ∀ p ∈ (I, it) :: news', p ∈ all) (off : ∀ p ∈ news', p.1 ≠ I) (r : rest m' news') : TurnPost h₀ L s₁ I it rest Q .next { s₁ with heap := h', toks := tk } := UnrEnd.intro F N news' sub off r
theorem TurnPost.brk {L I : Addr} {it : Obj} {rest : (Str → Option Value) → Led → Prop} {s₁ s₂ : Shared} (h : Q .next s₂) : TurnPost h₀ L s₁ I it rest Q .brk s₂ := h
theorem TurnPost.ret {L I : Addr} {it : Obj} {rest : (Str → Option Value) → Led → Prop} {s₁ s₂ : Shared} {v : Value} (h : Q (.ret v) s₂) : TurnPost h₀ L s₁ I it rest Q (.ret v) s₂ := h
theorem rev_loop {I : Addr} {lp : Addr × Obj} (Inv : List Int → (Str → Option Value) → Led → Prop)
    (turn : ∀ d ds t m news it h tk, Inv (d :: ds) m news → it.cls = .type "list_reverseiterator" → Fr h₀ env.locals h (fun y => if y = x then some (.int d t) else m y) → News h₀ env.locals h ((I, it) :: news) →
      wpAny (model prog w) A (execs body env) (TurnPost h₀ env.locals { s with heap := h, toks := tk } I it (fun m' n' => lp ∈ n' ∧ Inv ds m' n') Q) E { s with heap := h, toks := tk })
    (done : ∀ m news h tk, Inv [] m news → Fr h₀ env.locals h m → News h₀ env.locals h news → Q .next { s with heap := h, toks := tk }) :
    ∀ {rs : List Value} {ds : List Int}, IntsAre rs ds → ∀ m news, Inv ds m news → RevRest prog w A E h₀ env x body Q s I lp rs m news := by
  intro rs ds hi
  induction hi with
  | nil => intro m news hI; exact RevRest.zero fun h tk F N => done m news h tk hI F N
  | @cons d t rs ds _ ih =>
    intro m news hI
    refine RevRest.succ fun it h tk hc F N => ?_
    exact wpAny_mono (turn d _ _ m news it h tk hI hc F N) (UnrPost.mono fun m' n' q => ⟨q.1, ih m' n' q.2⟩) fun _ _ e => e
theorem list_loop {I : Addr} {lp : Addr × Obj} (Inv : List Int → (Str → Option Value) → Led → Prop)
    (turn : ∀ d ds t m news it h tk, Inv (d :: ds) m news → it.cls = .type "list_iterator" → Fr h₀ env.locals h (fun y => if y = x then some (.int d t) else m y) → News h₀ env.locals h ((I, it) :: news) →
      wpAny (model prog w) A (execs body env) (TurnPost h₀ env.locals { s with heap := h, toks := tk } I it (fun m' n' => lp ∈ n' ∧ Inv ds m' n') Q) E { s with heap := h, toks := tk })
    (done : ∀ m news h tk, Inv [] m news → Fr h₀ env.locals h m → News h₀ env.locals h news → Q .next { s with heap := h, toks := tk }) :
    ∀ {rs : List Value} {ds : List Int}, IntsAre rs ds → ∀ m news, Inv ds m news → ListRest prog w A E h₀ env x body Q s I lp rs m news := by
  intro rs ds hi
  induction hi with
  | nil => intro m news hI; exact ListRest.zero fun h tk F N => done m news h tk hI F N
  | @cons d t rs ds _ ih =>
    intro m news hI
    refine ListRest.succ fun it h tk hc F N => ?_
    exact wpAny_mono (turn d _ _ m news it h tk hI hc F N) (UnrPost.mono fun m' n' q => ⟨q.1, ih m' n' q.2⟩) fun _ _ e => e
theorem range_loop {I : Addr} {a : Int} {n : Nat} (Inv : Nat → (Str → Option Value) → Led → Prop)
    (turn : ∀ i t m news h tk, i < n → Inv i m news → Fr h₀ env.locals h (fun y => if y = x then some (.int (a + (i : Int)) t) else m y) →
      News h₀ env.locals h ((I, itR (a + ((i + 1 : Nat) : Int)) ((n : Int) - ((i + 1 : Nat) : Int))) :: news) →
      wpAny (model prog w) A (execs body env) (TurnPost h₀ env.locals { s with heap := h, toks := tk } I (itR (a + ((i + 1 : Nat) : Int)) ((n : Int) - ((i + 1 : Nat) : Int))) (Inv (i + 1)) Q) E { s with heap := h, toks := tk })
    (done : ∀ m news h tk, Inv n m news → Fr h₀ env.locals h m → News h₀ env.locals h news → Q .next { s with heap := h, toks := tk }) :
    ∀ (k i : Nat), i + k = n → ∀ m news, Inv i m news → RangeRest prog w A E h₀ env x body Q s I a n k i m news := by
  intro k
  induction k with
  | zero => intro i hi m news hI; exact RangeRest.zero fun h tk F N => done m news h tk (by simpa using (by omega : i = n) ▸ hI) F N
  | succ k ih =>
    intro i hi m news hI
    refine RangeRest.succ fun t h tk F N => ?_
    exact wpAny_mono (turn i t m news h tk (by omega) hI F N) (UnrPost.mono fun m' n' q => ih (i + 1) (by omega) m' n' q) fun _ _ e => e
end
end Mine
namespace Mine
open PySem PySem.W PySem.Spec PySem.Calls PyProof.Rows
example : True := by (w_top off; k_with_none; trivial)
/-- the two tables that int_divmod fills -/
def Tau (τ : Led) : Prop := ∃ t1 t2, Tab 44 51 4 qI1 t1 ∧ Tab 51 66 4 qI2 t2 ∧ Apart t1 t2 ∧ τ = t1 ++ t2
theorem ints_reverse {vs : List Value} {ns : List Int} (h : IntsAre vs ns) : IntsAre vs.reverse ns.reverse := by
  induction h with
  | nil => exact .nil
  | cons i t _ ih => rw [List.reverse_cons, List.reverse_cons]; exact ints_append ih (.cons i t .nil)
theorem OffI.of {I : Addr} {it : Obj} : ∀ {l : Led}, (∀ p ∈ l, p.1 ≠ I) → OffI I it l
  | [], _ => trivial
  | p :: r, h => ⟨.inl (h p (.head _)), OffI.of fun q hq => h q (.tail _ hq)⟩
local macro_rules | `(tactic| k_all) => `(tactic| assumption)
theorem dmp_sub {qs us : List Value} {lq D : Addr} {ep : Nat} {t1 t2 : Led} : ∀ q ∈ ((lq, W.listOf qs.reverse.toArray ep) :: t2) ++ ((D, W.listOf us.toArray 0) :: t1), q ∈ (lq, W.listOf qs.reverse.toArray ep) :: (D, W.listOf us.toArray 0) :: (t1 ++ t2) := by
  intro q hq
  simp only [List.cons_append, List.mem_cons, List.mem_append] at hq ⊢
  rcases hq with h | h | h | h
  · exact .inl h
  · exact .inr (.inr (.inr h))
  · exact .inr (.inl h)
  · exact .inr (.inr (.inl h))
theorem dmp {w : World} {p : Program} {loose : List Str} {mean : ExcName → Option Value} {mg mb : Str → Option Value} (a b : Int) (ta tb : Tok) (ha : 0 ≤ a) (ha2 : a < 2 ^ 62) (hb : 0 < b) (hb2 : b < 2 ^ 30) (τ : Led) (hT : Tau τ) :
    Spec w p loose mean mg mb 63 90 600 [.int a ta, .int b tb] τ (fun own' r => ∃ t t1 t2 τ', own' = (t, tupO [.int (a / b) t1, .int (a % b) t2]) :: τ' ∧ Tau τ' ∧ r = .ref t) := by
  k_with_none
  k_with "binaryOp LShift int int" => (k_here; (with_reducible show wpAny _ _ (binaryOp Operator.LShift (Value.int _ _) (Value.int _ _)) _ _ _); (with_reducible refine lsh_gen' (by (first | lia | omega)) (by (first | lia | omega)) (by assumption) (by (first | lia | omega)) ?_); intro _ _)
  k_with "call builtin:list.append" => (k_here; (with_reducible show wpAny _ _ (call (Value.builtin _) [Value.ref _, _]) _ _ _); k_dflt (refine' appL (by k_asm) (by k_asm) (by k_upd) (by (have hq9 := IntsAre.length (by assumption); simp only [sizeLine]; (first | lia | omega))) ?_); intro _ _ _; (try k_sweep))
  k_with "call builtin:list.reverse" => (k_here; k_dflt (refine' revL (by k_asm) (by k_asm) (by k_upd) (by (have hq9 := IntsAre.length (by assumption); simp only [sizeLine]; (first | lia | omega))) ?_); intro _ _ _; (try k_sweep))
  obtain ⟨t1, t2, h1, h2, hap, rfl⟩ := hT
  refine' Spec.ofBody (binds := [(Str.ofString "a", .int a ta), (Str.ofString "b", .int b tb)]) ?ho ?hcd ?hbind ?hloc ?h ?r1 ?r2 ?c2 ?c3 ?c4 ?c5
  case ho => k_is
  case hcd => k_is
  case hbind => exact rfl
  case hloc => exact locs rfl
  case r1 => decide
  case r2 => decide
  case c2 => exact rfl
  case c3 => exact rfl
  case c4 => exact rfl
  case c5 => decide
  intro dp un gd outer A base g L h₁ tk s B F X N T C lt hdp hun
  have C' := C
  obtain ⟨C1, C2, C3, C4⟩ := C
  have hbits : Builtin.Int.intBits b ≤ 30 := intBits_le_iff.mpr (by (first | lia | omega))
  have hbits1 : 1 ≤ Builtin.Int.intBits b := by
    have : b ≠ 0 := by (first | lia | omega)
    simp [Builtin.Int.intBits, this]
  try dsimp only
  try k_fold
  k_steps
  refine' Spec.use (i2d a _ ta _ ha ha2 (by (first | lia | omega)) (by (first | lia | omega)) t1 h1) t2 B (by k_asm) X (by k_asm) T C' ?hk ?hd ?hu ?sub ?ap ?ret
  case hk => exact rfl
  case hd => (first | lia | omega)
  case hu => (first | lia | omega)
  case sub => exact fun q h => h
  case ap => exact hap
  case ret =>
    intro r1 own1 hh1 tk1 F1 N1 nw1 P1
    have ap1 := nw1.apart (by k_asm) hap
    obtain ⟨D, us, t1', e1, hus, h1', eo1⟩ := P1
    subst e1 eo1
    dsimp only [List.cons_append] at N1
    dsimp only
    k_steps
    rename_i lq hA l1 hB I hC FF NN l2
    have hne : ∀ q ∈ (lq, W.listOf #[] 0) :: (D, W.listOf us.toArray 0) :: (t1' ++ t2), q.1 ≠ I := by
      refine List.forall_mem_cons.mpr ⟨Nat.ne_of_lt l2.1, List.forall_mem_cons.mpr ⟨Nat.ne_of_lt l2.2.1, fun q hq => Nat.ne_of_lt (kst_ltOf l2.2.2 q hq)⟩⟩
    have hlq : ∀ q ∈ t1' ++ t2, q.1 ≠ lq := fun q hq => Nat.ne_of_lt (kst_ltOf l1.2 q hq)
    have hDlq : D < lq := l1.1
    have hlqI : lq < I := l2.1
    have hDI : D < I := l2.2.1
    have hB0 : (0 : Int) < 2 ^ ((Builtin.Int.intBits b : Int)).toNat := pow_pos' (by decide) _
    have hlen : (dig (2 ^ ((Builtin.Int.intBits b : Int)).toNat) a (nd a (Builtin.Int.intBits b))).length ≤ 64 := by
      rw [dig_length]; unfold nd
      have := digCount a (Builtin.Int.intBits b) (intBits_le_64 (by (first | lia | omega)) (by (first | lia | omega))) (by (first | lia | omega))
      (first | lia | omega)
    have hB30 : (2 : Int) ^ ((Builtin.Int.intBits b : Int)).toNat ≤ 2 ^ 30 := by
      have q : ((Builtin.Int.intBits b : Int)).toNat ≤ 30 := by (first | lia | omega)
      have q2 := Nat.pow_le_pow_right (n := 2) (by decide) q
      have q3 : ((2 ^ ((Builtin.Int.intBits b : Int)).toNat : Nat) : Int) = 2 ^ ((Builtin.Int.intBits b : Int)).toNat := by rw [Int.natCast_pow]; rfl
      (first | lia | omega)
    let Inv : List Int → (Str → Option Value) → Led → Prop := fun ds m news => ∃ (r : Int) (tr tn : Tok) (qs : List Value) (qn : List Int) (ep : Nat),
      Knows m [(Str.ofString "b", .int b tb), (Str.ofString "n", .int (Builtin.Int.intBits b) tn), (Str.ofString "q_digits", .ref lq), (Str.ofString "r", .int r tr)] ∧ IntsAre qs qn ∧
      news = (lq, W.listOf qs.toArray ep) :: (D, W.listOf us.toArray 0) :: (t1' ++ t2) ∧ 0 ≤ r ∧ r < b ∧
      qn ++ ldq (2 ^ ((Builtin.Int.intBits b : Int)).toNat) b r ds = ldq (2 ^ ((Builtin.Int.intBits b : Int)).toNat) b 0 (dig (2 ^ ((Builtin.Int.intBits b : Int)).toNat) a (nd a (Builtin.Int.intBits b))).reverse ∧
      ldr (2 ^ ((Builtin.Int.intBits b : Int)).toNat) b r ds = ldr (2 ^ ((Builtin.Int.intBits b : Int)).toNat) b 0 (dig (2 ^ ((Builtin.Int.intBits b : Int)).toNat) a (nd a (Builtin.Int.intBits b))).reverse ∧
      (∀ d ∈ ds, 0 ≤ d ∧ d < 2 ^ ((Builtin.Int.intBits b : Int)).toNat) ∧ qn.length + ds.length ≤ 64
    refine' iter_revUnr (lo := W.listOf us.toArray 0) (n := 0) rfl FF NN (OffI.of hne) ?hm rfl rfl (rev_loop Inv ?turn ?done (ints_reverse hus) _ _ ?start)
    case hm => exact .tail _ (.head _)
    case start =>
      refine ⟨0, _, _, [], [], 0, ⟨rfl, rfl, rfl, rfl, trivial⟩, .nil, rfl, by (first | lia | omega), by (first | lia | omega), rfl, rfl, ?_, ?_⟩
      · intro d hd; exact dig_range hB0 _ _ d (List.mem_reverse.mp hd)
      · simpa using hlen
    case turn =>
      intro d ds t m news it h tk hI hc F N
      obtain ⟨r, tr, tn, qs, qn, ep, hK, hq, hnews, hr0, hrb, hqr, hrr, hds, hlen2⟩ := hI
      subst hnews
      have F2 := (hK.with (x := Str.ofString "a_digit") (v := .int d t) rfl).fr F
      dsimp only [kstB] at F2
      clear F
      have hd := hds d (.head _)
      try dsimp only
      try k_fold
      k_steps
      rename _ = r * _ => hL
      have hv0 : 0 ≤ r * 2 ^ ((Builtin.Int.intBits b : Int)).toNat := Int.mul_nonneg hr0 (Int.le_of_lt hB0)
      have hv1 : r * 2 ^ ((Builtin.Int.intBits b : Int)).toNat ≤ 2 ^ 30 * 2 ^ 30 := Int.mul_le_mul (by (first | lia | omega)) hB30 (Int.le_of_lt hB0) (by decide)
      refine' Spec.use0 (div2 _ b _ _ tb tn (by (first | lia | omega)) (by (first | lia | omega)) hb hb2 (by (first | lia | omega))) B (by k_asm) X (by k_asm) T C' ?hk ?hd ?hu ?ret
      case hk => exact rfl
      case hd => (first | lia | omega)
      case hu => (first | lia | omega)
      case ret =>
        intro r1 own1 hh1 tk1 F1 N1 nw1 P1
        obtain ⟨tt, tq, tr2, eo1, e1⟩ := P1
        subst e1 eo1
        have nw2 := nw1 _ (.head _)
        simp only [NotIn] at nw2
        rw [Int.fdiv_eq_ediv_of_nonneg _ (Int.le_of_lt hb), Int.fmod_eq_emod_of_nonneg _ (Int.le_of_lt hb), hL] at N1
        dsimp only [List.cons_append, List.nil_append] at N1
        dsimp only
        k_steps
        refine TurnPost.next (by k_asm) (by k_asm) ((lq, W.listOf (qs ++ [Value.int _ tq]).toArray (ep + 1)) :: (D, W.listOf us.toArray 0) :: (t1' ++ t2)) (fun p hp => .tail _ hp) ?_ ⟨.tail _ (.head _), ?_⟩
        · exact List.forall_mem_cons.mpr ⟨Nat.ne_of_lt hlqI, List.forall_mem_cons.mpr ⟨Nat.ne_of_lt hDI, fun q hq => hne q (.tail _ (.tail _ hq))⟩⟩
        · refine ⟨_, tr2, tn, _, qn ++ [(r * 2 ^ ((Builtin.Int.intBits b : Int)).toNat + d) / b], _, ⟨rfl, rfl, rfl, rfl, trivial⟩, ints_append hq (.cons _ _ .nil), rfl, Int.emod_nonneg _ (by (first | lia | omega)), Int.emod_lt_of_pos _ hb, ?_, hrr, fun x hx => hds x (.tail _ hx), ?_⟩
          · rw [← hqr, ldq, List.append_assoc]; rfl
          · simp only [List.length_append, List.length_cons, List.length_nil] at hlen2 ⊢; (first | lia | omega)
    case done =>
      intro m news h tk hI F N
      obtain ⟨r, tr, tn, qs, qn, ep, hK, hq, hnews, hr0, hrb, hqr, hrr, hds, hlen2⟩ := hI
      subst hnews
      have F2 := hK.fr F
      dsimp only [kstB] at F2
      clear F
      have hap2 : Apart t1' t2 := fun q hq hm => ap1 q hq (.tail _ hm)
      have hDt : ∀ q ∈ t2, q.1 ≠ D := fun q hq e => ap1 q hq (e ▸ .head _)
      have hds0 : ∀ d ∈ (dig (2 ^ ((Builtin.Int.intBits b : Int)).toNat) a (nd a (Builtin.Int.intBits b))).reverse, 0 ≤ d := fun d hd => (dig_range hB0 _ _ d (List.mem_reverse.mp hd)).1
      have hqe : qn = ldq (2 ^ ((Builtin.Int.intBits b : Int)).toNat) b 0 (dig (2 ^ ((Builtin.Int.intBits b : Int)).toNat) a (nd a (Builtin.Int.intBits b))).reverse := by
        rw [← hqr]; simp [ldq]
      have hld := ld_div (k := nd a (Builtin.Int.intBits b)) hB0 hb ha (nd_lt a (Builtin.Int.intBits b) ha (intBits_le_64 (by (first | lia | omega)) (by (first | lia | omega))) (by (first | lia | omega)))
      have hqv : val (2 ^ ((Builtin.Int.intBits b : Int)).toNat) qn.reverse = a / b := by rw [hqe]; exact hld.1
      have hre : r = a % b := by rw [← hld.2, ← hrr]; rfl
      have hab : a / b ≤ a := Int.ediv_le_self _ ha
      subst hre
      have hqlen : qn.length ≤ 64 := by simpa using hlen2
      have h51 : lq ≠ 51 := by
        obtain ⟨o, ho⟩ := h2.mem
        exact fun e => hlq _ (List.mem_append_right _ ho) e.symm
      k_steps
      have ap2 : Apart ((lq, W.listOf qs.reverse.toArray ep) :: t2) ((D, W.listOf us.toArray 0) :: t1') := by
        refine .of fun q hq q' hq' => ?_
        rcases List.mem_cons.mp hq with rfl | hq
        · rcases List.mem_cons.mp hq' with rfl | hq'
          · exact (Nat.ne_of_lt hDlq).symm
          · exact (hlq q' (List.mem_append_left _ hq')).symm
        · rcases List.mem_cons.mp hq' with rfl | hq'
          · exact hDt q hq
          · exact (hap2.ne hq' hq).symm
      rename News _ _ _ _ => NN2
      have NN3 := fun q hq => NN2 q (dmp_sub (qs := qs) (us := us) (lq := lq) (D := D) (ep := ep) (t1 := t1') (t2 := t2) q hq)
      refine' Spec.use (d2i _ tn (by (first | lia | omega)) (by (first | lia | omega)) t2 lq _ qn.reverse ep (ints_reverse hq) (by rw [List.length_reverse]; exact hqlen) ?n0 (by rw [hqv]; (first | lia | omega)) h2 h51) ((D, W.listOf us.toArray 0) :: t1') B (by k_asm) X (by k_asm) T C' ?hk ?hd ?hu ?sub ?ap ?ret
      case n0 =>
        intro d hd
        rw [hqe] at hd
        exact ldq_nonneg (Int.le_of_lt hB0) hb _ 0 (by (first | lia | omega)) hds0 d (List.mem_reverse.mp hd)
      case hk => exact rfl
      case hd => (first | lia | omega)
      case hu => (first | lia | omega)
      case sub => exact dmp_sub
      case ap => exact ap2
      case ret =>
        intro r1 own1 hh1 tk1 F1 N1 nw2 P1
        have ap3 := nw2.apart NN3 ap2
        obtain ⟨⟨tq, e1⟩, h2'⟩ := P1
        subst e1
        rw [hqv]
        dsimp only
        k_steps
        refine End.intro (_ :: (t1' ++ own1)) (by k_asm) (by k_asm) ?_ ⟨_, tq, tr, _, rfl, ⟨t1', own1, h1', h2', fun q hq hm => ap3.symm q hq (.tail _ hm), rfl⟩, rfl⟩
        intro q hq
        simp only [List.mem_cons, List.mem_append] at hq ⊢
        rcases hq with h | h | h
        · exact .inl h
        · exact .inr (.inr (.inr h))
        · exact .inr (.inl h)
end Mine
namespace Mine
open PySem PySem.W PySem.Spec PySem.Calls PyProof.Rows
example : True := by (w_top off; k_with_none; trivial)
/-- a pair of ints comes back, the tables may have grown -/
def Pair (x y : Int) (own' : Led) (r : Value) : Prop := ∃ t t1 t2 τ', own' = (t, tupO [.int x t1, .int y t2]) :: τ' ∧ Tau τ' ∧ r = .ref t
theorem End.pair {g : Heap} {s : Shared} {x y : Int} {L' : Addr} {m' : Str → Option Value} {h' : Heap} {tk' : Nat} {t : Addr} {t1 t2 : Tok} {τ' news : Led} (F : Fr g L' h' m') (N : News g L' h' ((t, tupO [.int x t1, .int y t2]) :: news)) (sub : ∀ q ∈ τ', q ∈ news) (hT : Tau τ') :
    End g s (Pair x y) (.ref t) { s with heap := h', toks := tk' } :=
  End.intro ((t, tupO [.int x t1, .int y t2]) :: τ') F N (fun q hq => by
    rcases List.mem_cons.mp hq with rfl | hq
    · exact .head _
    · exact .tail _ (sub q hq)) ⟨t, t1, t2, τ', rfl, hT, rfl⟩
theorem idm0 {w : World} {p : Program} {loose : List Str} {mean : ExcName → Option Value} {mg mb : Str → Option Value} (a b : Int) (ta tb : Tok) (ha : 0 ≤ a) (ha2 : a < 2 ^ 62) (hb : 0 < b) (hb2 : b < 2 ^ 30) (τ : Led) (hT : Tau τ) :
    Spec w p loose mean mg mb 70 95 610 [.int a ta, .int b tb] τ (Pair (a / b) (a % b)) := by
  refine' Spec.ofBody (binds := [(Str.ofString "a", .int a ta), (Str.ofString "b", .int b tb)]) ?ho ?hcd ?hbind ?hloc ?h ?r1 ?r2 ?c2 ?c3 ?c4 ?c5
  case ho => k_is
  case hcd => k_is
  case hbind => exact rfl
  case hloc => exact locs rfl
  case r1 => decide
  case r2 => decide
  case c2 => exact rfl
  case c3 => exact rfl
  case c4 => exact rfl
  case c5 => decide
  intro dp un gd outer A base g L h₁ tk s B F X N T C lt hdp hun
  have C' := C
  obtain ⟨C1, C2, C3, C4⟩ := C
  have hb0 : b ≠ 0 := by (first | lia | omega)
  try dsimp only
  try k_fold
  k_steps
  · exfalso; (first | lia | omega)
  · refine' Spec.use (dmp a b ta tb ha ha2 hb hb2 τ hT) [] B (by k_asm) X (by k_asm) T C' ?hk ?hd ?hu ?sub ?ap ?ret
    case hk => exact rfl
    case hd => (first | lia | omega)
    case hu => (first | lia | omega)
    case sub => intro q hq; simpa using hq
    case ap => exact .nil
    case ret =>
      intro r1 own1 hh1 tk1 F1 N1 nw1 P1
      rw [List.append_nil] at N1
      dsimp only
      k_steps
      exact End.intro own1 (by k_asm) (by k_asm) (fun q h => h) P1
theorem idm {w : World} {p : Program} {loose : List Str} {mean : ExcName → Option Value} {mg mb : Str → Option Value} (a b : Int) (ta tb : Tok) (ha : -(2 ^ 61) < a) (ha2 : a < 2 ^ 61) (hb : 0 < b) (hb2 : b < 2 ^ 30) (τ : Led) (hT : Tau τ) :
    Spec w p loose mean mg mb 70 97 620 [.int a ta, .int b tb] τ (Pair (a / b) (a % b)) := by
  by_cases ha0 : 0 ≤ a
  · exact fun dp un gd cn cs a' ccd cl outer A₀ base h₀ L m rest s Q E B F X N ap T C hk hd hu ret => idm0 a b ta tb ha0 (by (first | lia | omega)) hb hb2 τ hT dp un gd cn cs a' ccd cl outer A₀ base h₀ L m rest s Q E B F X N ap T C hk (by (first | lia | omega)) (by (first | lia | omega)) ret
  refine' Spec.ofBody (binds := [(Str.ofString "a", .int a ta), (Str.ofString "b", .int b tb)]) ?ho ?hcd ?hbind ?hloc ?h ?r1 ?r2 ?c2 ?c3 ?c4 ?c5
  case ho => k_is
  case hcd => k_is
  case hbind => exact rfl
  case hloc => exact locs rfl
  case r1 => decide
  case r2 => decide
  case c2 => exact rfl
  case c3 => exact rfl
  case c4 => exact rfl
  case c5 => decide
  intro dp un gd outer A base g L h₁ tk s B F X N T C lt hdp hun
  have C' := C
  obtain ⟨C1, C2, C3, C4⟩ := C
  have hb0 : b ≠ 0 := by (first | lia | omega)
  try dsimp only
  try k_fold
  k_steps
  · exfalso; (first | lia | omega)
  · refine' Spec.use (idm0 _ b _ tb (by unfold Builtin.bitNot; (first | lia | omega)) (by unfold Builtin.bitNot; (first | lia | omega)) hb hb2 τ hT) [] B (by k_asm) X (by k_asm) T C' ?hk ?hd ?hu ?sub ?ap ?ret
    case hk => exact rfl
    case hd => (first | lia | omega)
    case hu => (first | lia | omega)
    case sub => intro q hq; simpa using hq
    case ap => exact .nil
    case ret =>
      intro r1 own1 hh1 tk1 F1 N1 nw1 P1
      obtain ⟨t, t1, t2, τ', eo, hT', er⟩ := P1
      subst eo er
      rw [List.append_nil] at N1
      dsimp only
      k_steps
      have e1 : Builtin.bitNot (Builtin.bitNot a / b) = a / b := by rw [(kbt_below a hb).1]; rfl
      have e2 : b + Builtin.bitNot (Builtin.bitNot a % b) = a % b := by rw [(kbt_below a hb).2]; unfold Builtin.bitNot; (first | lia | omega)
      rename News _ _ _ _ => NN
      rw [e1, e2] at NN
      exact End.pair (by k_asm) NN (fun q h => .tail _ h) hT'
end Mine
namespace Mine.MapF
open PySem PySem.W PySem.Spec PySem.Calls PyProof.Rows
theorem owner_map : Manifest.owners.lookup (String.ofList ['p', 'a', 'm'].reverse) = some Manifest.sig_map := by kernel_rfl
theorem slot_next : Slot "map" "__next__" "map.__next__" :=
  .of (owner := "map") (n := "__next__") (by rw [typeLookup_type, builtinLookup_eq_fast]; kernel_rfl) (by decide +kernel) (by decide +kernel) (by decide +kernel)
    (by first | exact .inl (by decide +kernel) | exact .inr (by decide +kernel)) (by rw [isSubtype_type]; kernel_rfl)
theorem slot_iter : Slot "map" "__iter__" "map.__iter__" :=
  .of (owner := "map") (n := "__iter__") (by rw [typeLookup_type, builtinLookup_eq_fast]; kernel_rfl) (by decide +kernel) (by decide +kernel) (by decide +kernel)
    (by first | exact .inl (by decide +kernel) | exact .inr (by decide +kernel)) (by rw [isSubtype_type]; kernel_rfl)
theorem slot_init : Slot "map" "__init__" "object.__init__" :=
  .of (owner := "object") (n := "__init__") (by rw [typeLookup_type, builtinLookup_eq_fast]; kernel_rfl) (by decide +kernel) (by decide +kernel) (by decide +kernel)
    (by first | exact .inl (by decide +kernel) | exact .inr (by decide +kernel)) (by rw [isSubtype_type]; kernel_rfl)
theorem entry_next : entryFor table "map.__next__" = some Builtin.«map.__next__» := entryFor_of_tree (by kernel_rfl)
theorem entry_new : entryFor table "map.__new__" = some Builtin.«map.__new__» := entryFor_of_tree (by kernel_rfl)
theorem entry_iter : entryFor table "map.__iter__" = some Builtin.«dict_keyiterator.__iter__» :=
  entryFor_alias (id' := "dict_keyiterator.__iter__") (by kernel_rfl) (by first | rfl | decide +kernel | (unfold String.splitOn; simp +decide [String.splitOnAux])) (by decide +kernel) (by kernel_rfl)
theorem args_next (a : Value) : argsOk "map.__next__" ⟨[a], []⟩ := by
  unfold argsOk; rw [signature?_of (id := "map.__next__") (n := ['_', '_', 't', 'x', 'e', 'n', '_', '_']) (o := ['p', 'a', 'm']) (by kernel_rfl) owner_map]; kernel_rfl
theorem args_iter (a : Value) : argsOk "map.__iter__" ⟨[a], []⟩ := by
  unfold argsOk; rw [signature?_of (id := "map.__iter__") (n := ['_', '_', 'r', 'e', 't', 'i', '_', '_']) (o := ['p', 'a', 'm']) (by kernel_rfl) owner_map]; kernel_rfl
theorem mro_map : mroOf (.type "map") = pure [.type "map", .type "object"] := by rw [mroOf_type]; kernel_rfl
theorem lookup_new : typeLookup (.type "map") "__new__" = pure (some (.builtin "map.__new__")) := by rw [typeLookup_type, builtinLookup_eq_fast]; kernel_rfl
theorem called_map : TypeCalled "map" "map.__new__" "object.__init__" :=
  ⟨by decide +kernel, by decide +kernel, ⟨_, _, mro_map⟩, madeBy_type mro_map lookup_new (by decide +kernel), by decide +kernel, by rw [isSubtype_type]; kernel_rfl, slot_init⟩
theorem typeCall_2 (a b : Value) : checkTypeCall "map" ⟨[a, b], []⟩ = pure () := by kernel_rfl
theorem newCall_2 (a b : Value) : checkBuiltinCall "map.__new__" ⟨[.type "map", a, b], []⟩ = pure () := by kernel_rfl
theorem sub_map : isSubtype (.type "map") (.type "map") = pure true := by rw [isSubtype_type]; kernel_rfl
end Mine.MapF
namespace Mine
open PySem PySem.W PySem.Spec PySem.Calls PyProof.Rows
abbrev mapO (T : Addr) : Obj := { cls := .type "map", data := .fields #[.ref T, .type "int"] }
abbrev lit0 (l : Addr) : Obj := { cls := .type "list_iterator", data := .fields #[.ref l, .int 0 0] }
abbrev mapH1 (h : Heap) (l : Addr) : Heap := h.push (lit0 l)
abbrev mapH2 (h : Heap) (l : Addr) : Heap := (mapH1 h l).push { cls := .type "tuple", data := .seq #[.ref h.objs.size] }
abbrev mapH3 (h : Heap) (l : Addr) : Heap := (mapH2 h l).push (mapO (mapH1 h l).objs.size)
theorem meets_map_new (l : Addr) (xs : Array Value) :
    Meets (Builtin.«map.__new__» ⟨[.type "map", .type "int", .ref l], []⟩) (fun _ R s => s.heap.IsList l xs ∧ R (.ok (.ret (.ref (mapH2 s.heap l).objs.size))) { s with heap := mapH3 s.heap l }) :=
  .of_wp fun prog w A R s h => by
    obtain ⟨hp, g, d, tk, os⟩ := s; obtain ⟨hl1, h⟩ := h
    have hsub := MapF.sub_map
    have hL1 : Heap.IsList (Shared.heap ⟨hp, g, d, tk, os⟩) l xs := hl1
    wp_walk using wpAny_pyIter_list hL1
    exact ⟨_, rfl, h⟩
section
variable {prog : Program} {w : World} {A : Around} {E : Value → Shared → Prop} {s : Shared}
theorem call_map {l : Addr} {xs : Array Value} {Q : Value → Shared → Prop} (hl : s.heap.IsList l xs)
    (h : ∀ h', h'.get? (s.heap.objs.size + 2) = some (mapO (s.heap.objs.size + 1)) → h'.get? (s.heap.objs.size + 1) = some { cls := .type "tuple", data := .seq #[.ref s.heap.objs.size] } → h'.IsListIter s.heap.objs.size l 0 →
      (∀ c o, s.heap.get? c = some o → h'.get? c = some o) → Q (.ref (s.heap.objs.size + 2)) { s with heap := h' }) :
    wpAny (model prog w) A (call (.type "map") [.type "int", .ref l]) Q E s := by
  refine callType_new MapF.called_map (by decide) (MapF.typeCall_2 _ _) (MapF.newCall_2 _ _) (fun obj => F.args_object_init_3 obj _ _) MapF.entry_new
    (meets_map_new l xs) ⟨hl, ?_⟩
  have z1 : (mapH1 s.heap l).objs.size = s.heap.objs.size + 1 := Heap.size_push ..
  have z2 : (mapH2 s.heap l).objs.size = s.heap.objs.size + 2 := by rw [Heap.size_push, z1]
  have g3 : (mapH3 s.heap l).get? (mapH2 s.heap l).objs.size = some _ := Heap.get?_push_size _ rfl
  have g2 : (mapH3 s.heap l).get? (mapH1 s.heap l).objs.size = some _ := Heap.get?_push_of_some _ (Heap.get?_push_size _ rfl)
  have g1 : (mapH3 s.heap l).get? s.heap.objs.size = some _ := Heap.get?_push_of_some _ (Heap.get?_push_of_some _ (Heap.get?_push_size _ rfl))
  show _ ∧ _
  rw [z2, z1] at g3
  rw [z1] at g2
  rw [z2]
  exact ⟨⟨_, g3, rfl⟩, h _ g3 g2 ⟨_, g1, rfl, rfl⟩ fun c o x => Heap.get?_push_of_some _ (Heap.get?_push_of_some _ (Heap.get?_push_of_some _ x))⟩
theorem pyIter_map {M T : Addr} {Q : Value → Shared → Prop} (hm : s.heap.get? M = some (mapO T)) (h : Q (.ref M) s) : wpAny (model prog w) A (pyIter (.ref M)) Q E s := by
  have hT : s.TypeIs (.ref M) "map" := ⟨_, hm, rfl⟩
  refine wpAny_pyIter_slot hT MapF.slot_iter (wpAny_call_entry MapF.slot_iter hT MapF.entry_iter ?_ (MapF.args_iter _))
  show wpAny _ _ (ret (.ref M)) _ _ s
  exact wpAny_pure ⟨_, rfl, "map", _, hT, MapF.slot_next.lookup, h⟩
theorem pyNext_map_item {M T I l : Addr} {i : Nat} {items : Array Value} {x : Str} {t : Tok} {n : Int} {Q : Option Value → Shared → Prop} (hA : A.handled = none) (hm : s.heap.get? M = some (mapO T)) (hT : s.heap.get? T = some { cls := .type "tuple", data := .seq #[.ref I] })
    (hi : s.heap.IsListIter I l i) (hl : s.heap.IsList l items) (hne : l ≠ I) (hMI : M ≠ I) (hx : items[i]? = some (.str x t)) (hn : PySem.intText? x = some n) (hlen : x.length ≤ 640)
    (h : ∀ h' tk u, h'.IsListIter I l (i + 1) → h'.IsList l items → Heap.SameBut I s.heap h' → Q (some (.int n u)) { s with heap := h', toks := tk }) : wpAny (model prog w) A (pyNext (.ref M)) Q E s := by
  have hTy : s.TypeIs (.ref M) "map" := ⟨_, hm, rfl⟩
  unfold pyNext
  refine wpAny_bind (wpAny_attempt (wpAny_callSpecial?_slot (name := Str.ofString "__next__") hTy MapF.slot_next
    (wpAny_call_entry MapF.slot_next hTy MapF.entry_next ?_ (MapF.args_next _))))
  unfold Builtin.«map.__next__»
  refine wpAny_bind (wpAny_of_eq (a := (Value.ref M, [])) rfl ?_)
  try dsimp only
  refine wpAny_bind (wpAny_field hm rfl (x := .ref T) rfl ?_)
  refine wpAny_bind (wpAny_seqItems hT rfl ?_)
  try dsimp only
  simp only [List.forIn_toArray, List.forIn_cons, List.forIn_nil, bind_assoc, pure_bind]
  have hlt : i < items.size := by
    rcases Nat.lt_or_ge i items.size with h | h
    · exact h
    · rw [Array.getElem?_eq_none h] at hx; cases hx
  refine wpAny_bind (wpAny_holding ((Draws.list (A := A.in1) hA I l hne items).item i s _ _ hlt ⟨hi, hl⟩ fun x' h' tk hP st hs => ?_))
  have ex : x' = .str x t := by
    have hP' : items[i]? = some x' := hP
    rw [hx] at hP'; exact (Option.some.inj hP').symm
  subst ex
  have hm' : h'.get? M = some (mapO T) := (hs.2 M hMI).trans hm
  refine wpAny_bind (wpAny_field (s := { s with heap := h', toks := tk }) hm' rfl (x := .type "int") rfl ?_)
  refine wpAny_bind (wpAny_holding (KIN.call_text hn hlen ?_))
  refine wpAny_bind (m := letGo _ _) ?_
  show wpAny _ _ (do holding ([] ++ [_]) point; letGo [] [_]) _ _ _
  refine wpAny_bind (wpAny_holding (wpAny_point ?_))
  refine wpAny_pure (wpAny_pure ⟨_, rfl, wpAny_pure ?_⟩)
  exact h h' _ _ st.1 st.2 hs
theorem pyNext_map_end {M T I l : Addr} {items : Array Value} {Q : Option Value → Shared → Prop} (hA : A.handled = none) (hm : s.heap.get? M = some (mapO T)) (hT : s.heap.get? T = some { cls := .type "tuple", data := .seq #[.ref I] })
    (hi : s.heap.IsListIter I l items.size) (hl : s.heap.IsList l items) (hne : l ≠ I)
    (h : ∀ h', Heap.ExtBut I s.heap h' → Q none { s with heap := h' }) : wpAny (model prog w) A (pyNext (.ref M)) Q E s := by
  have hTy : s.TypeIs (.ref M) "map" := ⟨_, hm, rfl⟩
  unfold pyNext
  refine wpAny_bind (wpAny_attempt (wpAny_callSpecial?_slot (name := Str.ofString "__next__") hTy MapF.slot_next
    (wpAny_call_entry MapF.slot_next hTy MapF.entry_next ?_ (MapF.args_next _))))
  unfold Builtin.«map.__next__»
  refine wpAny_bind (wpAny_of_eq (a := (Value.ref M, [])) rfl ?_)
  try dsimp only
  refine wpAny_bind (wpAny_field hm rfl (x := .ref T) rfl ?_)
  refine wpAny_bind (wpAny_seqItems hT rfl ?_)
  try dsimp only
  simp only [List.forIn_toArray, List.forIn_cons, List.forIn_nil, bind_assoc, pure_bind]
  refine wpAny_bind (wpAny_holding ((Draws.list (A := A.in1) hA I l hne items).done s _ _ ⟨hi, hl⟩ fun h' e he ho => ?_))
  obtain ⟨o, ho, hc⟩ := ho
  refine wpAny_bind (wpAny_isInstance (T := "StopIteration") (b := true) ⟨o, ho, hc⟩ isSubtype_stop ?_)
  exact wpAny_pure (h h' he)
theorem unpack_map {M T I l : Addr} {x y : Str} {tx ty : Tok} {m n : Int} {Q : List Value → Shared → Prop} (hA : A.handled = none) (hm : s.heap.get? M = some (mapO T)) (hT : s.heap.get? T = some { cls := .type "tuple", data := .seq #[.ref I] })
    (hi : s.heap.IsListIter I l 0) (hl : s.heap.IsList l #[.str x tx, .str y ty]) (hne : l ≠ I) (hMI : M ≠ I) (hTI : T ≠ I) (hx : PySem.intText? x = some m) (hxl : x.length ≤ 640) (hy : PySem.intText? y = some n) (hyl : y.length ≤ 640)
    (h : ∀ h' tk u v, Heap.ExtBut I s.heap h' → Q [.int m u, .int n v] { s with heap := h', toks := tk }) : wpAny (model prog w) A (unpackItems (.ref M) 2 none) Q E s := by
  have hTy : s.TypeIs (.ref M) "map" := ⟨_, hm, rfl⟩
  unfold unpackItems
  refine wpAny_bind ?_
  unfold notIterableAtAll
  refine wpAny_bind (wpAny_specialOf hTy MapF.slot_iter.lookup ?_)
  refine wpAny_pure ?_
  simp only [Bool.false_eq_true, if_false]
  refine wpAny_bind (wpAny_holding (pyIter_map hm ?_))
  refine wpAny_bind (wpAny_holding ?_)
  show wpAny _ _ (pyNext (.ref M) >>= _) _ _ s
  refine wpAny_bind (pyNext_map_item hA hm hT hi hl hne hMI rfl hx hxl fun h1 tk1 u1 i1 l1 s1 => ?_)
  refine wpAny_bind (wpAny_holding ?_)
  show wpAny _ _ (pyNext (.ref M) >>= _) _ _ _
  refine wpAny_bind (pyNext_map_item (s := { s with heap := h1, toks := tk1 }) hA ((s1.2 M hMI).trans hm) ((s1.2 T hTI).trans hT) i1 l1 hne hMI rfl hy hyl fun h2 tk2 u2 i2 l2 s2 => ?_)
  refine wpAny_bind (wpAny_holding (wpAny_pure (wpAny_pure (wpAny_pure ?_))))
  rw [if_neg (by simp)]
  have hm2 := (s2.2 M hMI).trans ((s1.2 M hMI).trans hm)
  have hT2 := (s2.2 T hTI).trans ((s1.2 T hTI).trans hT)
  refine wpAny_bind (wpAny_holding (pyNext_map_end (s := { s with heap := h2, toks := tk2 }) hA hm2 hT2 i2 l2 hne fun h3 e3 => ?_))
  simp only [Option.isSome_none, Bool.false_eq_true, if_false]
  exact wpAny_pure (h h3 _ _ _ fun b o hb e => e3 b o hb ((s2.2 b hb).trans ((s1.2 b hb).trans e)))
end
end Mine
namespace Mine
open PySem PySem.W PyProof.Rows PySem.StrLaws PySem.Builtin PySem.Builtin.Str PySem.NumText
/-- the text of a number -/
abbrev txt (n : Int) : Str := Str.ofString (toString n)
theorem neg_cps (m : Nat) : (txt (Int.negSucc m)).cps.toList = 45 :: (Nat.toDigits 10 (m + 1)).map Char.toNat := by
  show (Str.ofString ("-" ++ Nat.repr (m + 1))).cps.toList = _
  rw [signs_ofString, String.toList_append, List.map_append, Nat.toList_repr]
  rfl
theorem digs_ok (m : Nat) : AllDigits ((Nat.toDigits 10 m).map Char.toNat) := by
  intro c hc
  obtain ⟨ch, hch, e⟩ := List.mem_map.mp hc
  have r := digit_range (Nat.isDigit_of_mem_toDigits (by decide) (by decide) hch)
  rw [← e]
  exact r
theorem digs_ne (m : Nat) : (Nat.toDigits 10 m).map Char.toNat ≠ [] := by
  intro e
  have h := toDigits_len_ge 10 m
  rw [List.map_eq_nil_iff.mp e] at h
  exact absurd h (by decide)
theorem digs_len : ∀ (k m : Nat), m < 10 ^ (k + 1) → (Nat.toDigits 10 m).length ≤ k + 1
  | 0, m, h => by rw [Nat.toDigits_of_lt_base (by simpa using h)]; simp
  | k + 1, m, h => by
    by_cases hm : m < 10
    · rw [Nat.toDigits_of_lt_base hm]; simp
    · have h1 : m % 10 < 10 := Nat.mod_lt m (by decide)
      have t : Nat.toDigits 10 (m / 10) ++ Nat.toDigits 10 (m % 10) = Nat.toDigits 10 (10 * (m / 10) + m % 10) := Nat.toDigits_append_toDigits (by decide) (by (first | lia | omega)) h1
      rw [Nat.div_add_mod] at t
      rw [← t, List.length_append, Nat.toDigits_of_lt_base h1]
      have := digs_len k (m / 10) (by rw [Nat.pow_succ] at h; (first | lia | omega))
      simp; (first | lia | omega)
theorem txt_len {n : Int} (h : n.natAbs < 10 ^ 20) : (txt n).length ≤ 21 := by
  have e : (txt n).length = (txt n).cps.toList.length := by simp [Str.length]
  rw [e]
  cases n with
  | ofNat m =>
    have : (txt (Int.ofNat m)).cps.toList = (Nat.toDigits 10 m).map Char.toNat := KIN.signs_num m
    rw [this, List.length_map]
    exact Nat.le_trans (digs_len 19 m (by simpa using h)) (by decide)
  | negSucc m =>
    rw [neg_cps, List.length_cons, List.length_map]
    have := digs_len 19 (m + 1) (by simpa using h)
    (first | lia | omega)
theorem txt_signs (n : Int) : ∀ c ∈ (txt n).cps.toList, c = 45 ∨ (48 ≤ c ∧ c ≤ 57) := by
  cases n with
  | ofNat m =>
    have : (txt (Int.ofNat m)).cps.toList = (Nat.toDigits 10 m).map Char.toNat := KIN.signs_num m
    rw [this]
    exact fun c hc => .inr (digs_ok m c hc)
  | negSucc m =>
    rw [neg_cps]
    intro c hc
    rcases List.mem_cons.mp hc with rfl | hc
    · exact .inl rfl
    · exact .inr (digs_ok _ c hc)
theorem txt_reads {n : Int} (h : n.natAbs < 10 ^ 20) : PySem.intText? (txt n) = some n := by
  have hl := txt_len h
  cases n with
  | ofNat m =>
    have e : (txt (Int.ofNat m)).cps.toList = (Nat.toDigits 10 m).map Char.toNat := KIN.signs_num m
    have := intText_digits (x := txt (Int.ofNat m)) (by rw [e]; exact digs_ok m) (by rw [e]; exact digs_ne m) (by (first | lia | omega))
    rw [e, KIN.val_back] at this
    exact this
  | negSucc m =>
    have := intText_neg (x := txt (Int.negSucc m)) (neg_cps m) (digs_ok _) (digs_ne _) (by (first | lia | omega))
    rw [KIN.val_back] at this
    rw [this]; congr 1
theorem txt_nodot (n : Int) : 46 ∉ (txt n).cps.toList := fun h => by
  rcases txt_signs n 46 h with h | h <;> (first | lia | omega)
/-- cut at the only dot -/
theorem split_dot {a b : Str} (ha : 46 ∉ a.cps.toList) (hb : 46 ∉ b.cps.toList) : Txt.split (a ++ (Str.ofString ".") ++ b) (Str.ofString ".") = [a, b] := by
  have hy : Str.ofString "." = (⟨#[46]⟩ : Str) := by decide +kernel
  rw [hy]
  let x : Str := a ++ ⟨#[46]⟩ ++ b
  have hx : x.cps.toList = a.cps.toList ++ 46 :: b.cps.toList := by
    show ((a.cps ++ #[46]) ++ b.cps).toList = _
    simp
  have hlen : x.length = a.length + 1 + b.length := by
    show ((a.cps ++ #[46]) ++ b.cps).size = _
    simp [Str.length]
  have hat : ∀ k, At x ⟨#[46]⟩ x.length k ↔ k = a.length := by
    intro k
    unfold At
    rw [subAt_one, hx]
    have hal : a.cps.toList.length = a.length := by simp [Str.length]
    constructor
    · intro h
      rcases Nat.lt_trichotomy k a.length with hk | hk | hk
      · rw [List.getElem?_append_left (by (first | lia | omega))] at h
        exact absurd (List.mem_of_getElem? h) ha
      · exact hk
      · rw [List.getElem?_append_right (by (first | lia | omega))] at h
        obtain ⟨j, hj⟩ : ∃ j, k - a.cps.toList.length = j + 1 := ⟨k - a.cps.toList.length - 1, by (first | lia | omega)⟩
        rw [hj, List.getElem?_cons_succ] at h
        exact absurd (List.mem_of_getElem? h) hb
    · rintro rfl
      rw [List.getElem?_append_right (by (first | lia | omega)), hal, Nat.sub_self]; rfl
  have hocc : occurrences x ⟨#[46]⟩ 0 x.length (x.length + 1) = [a.length] := by
    obtain ⟨f, hc, hf⟩ := occ_tight x ⟨#[46]⟩ (by decide)
    generalize occurrences x ⟨#[46]⟩ 0 x.length (x.length + 1) = cuts at hc
    match cuts, hc with
    | [], hc =>
      have e : f = 0 := hc
      exact absurd ((hat _).mpr rfl) (hf _ (by (first | lia | omega)))
    | [c], hc => rw [(hat c).mp hc.2.1]
    | c :: d :: r, hc =>
      have e1 := (hat c).mp hc.2.1
      have e2 := (hat d).mp hc.2.2.2.2.1
      have e3 : c + 1 ≤ d := hc.2.2.2.1
      (first | lia | omega)
  have hk : Builtin.Str.strKind (⟨#[46]⟩ : Str) = 1 := by decide +kernel
  have hk1 : 1 ≤ Builtin.Str.strKind x := by unfold Builtin.Str.strKind; split <;> (try split) <;> decide
  show Txt.split x ⟨#[46]⟩ = [a, b]
  unfold Txt.split
  rw [if_neg (by rw [hk, hlen]; simp [Str.length] at *; (first | lia | omega)), hocc, if_neg (by simp), partsBetween_eq]
  have e1 : strSub x 0 a.length = a := by
    have : (strSub x 0 a.length).cps.toList = a.cps.toList := by
      rw [strSub_toList, hx]; simp [Str.length]
    exact congrArg Str.mk (Array.toList_inj.mp this)
  have e2 : strSub x (a.length + 1) x.length = b := by
    have : (strSub x (a.length + 1) x.length).cps.toList = b.cps.toList := by
      rw [strSub_toList, hx, hlen]
      have hal : a.cps.toList.length = a.length := by simp [Str.length]
      have : a.cps.toList ++ 46 :: b.cps.toList = (a.cps.toList ++ [46]) ++ b.cps.toList := by simp
      rw [this, List.drop_append_of_le_length (by simp [hal]), List.drop_of_length_le (by simp [hal]), List.nil_append]
      exact List.take_of_length_le (by simp [Str.length])
    exact congrArg Str.mk (Array.toList_inj.mp this)
  show [strSub x 0 a.length, strSub x (a.length + 1) x.length] = [a, b]
  rw [e1, e2]
end Mine
namespace Mine
open PySem PySem.W PySem.Spec PySem.Calls PyProof.Rows
example : True := by (w_top off; k_with_none; trivial)
theorem fr_keeps {h₀ h h' : Heap} {L : Addr} {m : Str → Option Value} (F : Fr h₀ L h m) (hk : ∀ b o, h.get? b = some o → h'.get? b = some o) : Fr h₀ L h' m := ⟨F.ns.keeps hk, fun b o e => hk b o (F.keep b o e), F.above⟩
theorem news_keeps {h₀ h h' : Heap} {L : Addr} {news : Led} (N : News h₀ L h news) (hk : ∀ b o, h.get? b = some o → h'.get? b = some o) : News h₀ L h' news := fun p hp => ⟨hk _ _ (N p hp).1, (N p hp).2⟩
theorem assign_unpack {M : Model} {A : Around} {E : Value → Shared → Prop} {s : Shared} {elts : List PySem.Expr} {k : Nat} {pos : Pos} {env : Env} {v : Value} {Q : Unit → Shared → Prop}
    (h : wpAny M A (unpackItems v (assignEach elts env).length ((assignEach elts env).findIdx? (·.1))) (fun vs s' => wpAny M A (assignInOrder ((assignEach elts env).map (·.2)) vs) Q E s') E s) : wpAny M A (assign (.Tuple elts k pos) env v) Q E s := by
  rw [arm_assign_Tuple]
  refine wpAny_bind (wpAny_standAt ?_)
  unfold unpack
  exact wpAny_bind (wpAny_holding h)
theorem glc {w : World} {p : Program} {loose : List Str} {mean : ExcName → Option Value} {mg mb : Str → Option Value} (x y : Int) (t : Tok) (hx : x.natAbs < 10 ^ 20) (hy : y.natAbs < 10 ^ 20) :
    Spec w p loose mean mg mb 28 10 100 [.str (txt x ++ Str.ofString "." ++ txt y) t] [] (fun own' r => ∃ t t1 t2, own' = [(t, tupO [.int x t1, .int y t2])] ∧ r = .ref t) := by
  k_with_none
  k_with "call builtin:str.split" => (k_here; (with_reducible show wpAny _ _ (call (Value.builtin "str.split") _) _ _ _); refine KSpl.split1 (by k_asm) (by k_asm) (by decide) ?_ (by assumption); intro _ _ _ _ _ _ _ _ _)
  refine' Spec.ofBody (binds := [(Str.ofString "index", .str (txt x ++ Str.ofString "." ++ txt y) t)]) ?ho ?hcd ?hbind ?hloc ?h ?r1 ?r2 ?c2 ?c3 ?c4 ?c5
  case ho => k_is
  case hcd => k_is
  case hbind => exact rfl
  case hloc => exact locs rfl
  case r1 => decide
  case r2 => decide
  case c2 => exact rfl
  case c3 => exact rfl
  case c4 => exact rfl
  case c5 => decide
  intro dp un gd outer A base g L h₁ tk s B F X N T C lt hdp hun
  have C' := C
  obtain ⟨C1, C2, C3, C4⟩ := C
  have hlx := txt_len hx
  have hly := txt_len hy
  have hlen : (txt x ++ Str.ofString "." ++ txt y).length + 2 ≤ sizeLine := by
    rw [Str.length_append, Str.length_append]
    have : (Str.ofString ".").length = 1 := by decide +kernel
    simp only [sizeLine]; omega
  try dsimp only
  try k_fold
  k_steps
  rename_i D l hA k e a F1 N1 l1
  rw [split_dot (txt_nodot x) (txt_nodot y)] at e
  obtain ⟨tx, l', rfl, e'⟩ := KSpl.cons_of e
  obtain ⟨ty, l'', rfl, e''⟩ := KSpl.cons_of e'
  obtain rfl := KSpl.nil_of e''
  clear l1 a e e' e''
  have hl : hA.IsList D #[.str (txt x) tx, .str (txt y) ty] := ⟨_, (N1 _ (.head _)).1, rfl, 0, rfl⟩
  have hD : D < hA.objs.size := Heap.lt_size (N1 _ (.head _)).1
  refine call_map (s := { heap := hA, gens := s.gens, drawn := s.drawn, toks := _, os := s.os }) hl fun hB hm hT hi hk => ?_
  have F2 := fr_keeps F1 hk
  have N2 := news_keeps N1 hk
  dsimp only at hm hT hi
  dsimp only
  k_steps
  refine assign_unpack ?_
  have hl2 : hB.IsList D #[.str (txt x) tx, .str (txt y) ty] := hl.at fun o e => hk _ o e
  refine unpack_map (s := { heap := hB, gens := s.gens, drawn := s.drawn, toks := _, os := s.os }) rfl hm hT hi hl2 (Nat.ne_of_lt hD) (neN (by omega)) (neN (by omega)) (txt_reads hx) (by omega) (txt_reads hy) (by omega) fun hC tkC u v he => ?_
  have hk2 : ∀ b o, hA.get? b = some o → hC.get? b = some o := fun b o e => he b o (Nat.ne_of_lt (Heap.lt_size e)) (hk b o e)
  have F3 := fr_keeps F1 hk2
  have N3 := news_keeps N1 hk2
  clear F2 N2 F1 N1
  dsimp only
  k_steps
  refine End.intro [_] (by k_asm) (by k_asm) (fun q hq => ?_) ⟨_, u, v, rfl, rfl⟩
  rw [List.mem_singleton.mp hq]; exact .head _
end Mine
namespace Mine
open PySem PySem.W PySem.Spec PySem.Calls PyProof.Rows
example : True := by (w_top off; k_with_none; trivial)
theorem div_bounds {a b : Int} (ha : -(2 ^ 61) < a) (ha2 : a < 2 ^ 61) (hb : 0 < b) : -(2 ^ 61) ≤ a / b ∧ a / b < 2 ^ 61 := by
  constructor
  · refine Int.le_ediv_of_mul_le hb ?_
    have := Int.mul_le_mul_of_nonneg_left (show (1 : Int) ≤ b from hb) (show (0 : Int) ≤ 2 ^ 61 by decide)
    (first | lia | omega)
  · refine Int.ediv_lt_of_lt_mul hb ?_
    have := Int.mul_le_mul_of_nonneg_left (show (1 : Int) ≤ b from hb) (show (0 : Int) ≤ 2 ^ 61 by decide)
    (first | lia | omega)
theorem lread {w : World} {p : Program} {loose : List Str} {mean : ExcName → Option Value} {mg mb : Str → Option Value} (a b : Int) (ta tb : Tok) (ha : -(2 ^ 61) < a) (ha2 : a < 2 ^ 61) (hb : 0 < b) (hb2 : b < 2 ^ 30) (τ : Led) (hT : Tau τ) :
    Spec w p loose mean mg mb 91 100 640 [.int a ta, .int b tb] τ (Pair (a / b) (a % b)) := by
  k_with_none
  k_with "call type:str" => (k_here; (with_reducible show wpAny _ _ (call (Value.type "str") [Value.int _ _]) _ _ _); refine str_of_int_fit (N := 4611686018427387904) (by split <;> (first | lia | omega)) (by decide) ?_; intro _)
  refine' Spec.ofBody (binds := [(Str.ofString "place", .int a ta), (Str.ofString "cols", .int b tb)]) ?ho ?hcd ?hbind ?hloc ?h ?r1 ?r2 ?c2 ?c3 ?c4 ?c5
  case ho => k_is
  case hcd => k_is
  case hbind => exact rfl
  case hloc => exact locs rfl
  case r1 => decide
  case r2 => decide
  case c2 => exact rfl
  case c3 => exact rfl
  case c4 => exact rfl
  case c5 => decide
  intro dp un gd outer A base g L h₁ tk s B F X N T C lt hdp hun
  have C' := C
  obtain ⟨C1, C2, C3, C4⟩ := C
  have hq := div_bounds ha ha2 hb
  have hr0 := Int.emod_nonneg a (show b ≠ 0 by (first | lia | omega))
  have hr1 := Int.emod_lt_of_pos a hb
  have hlx := txt_len (n := a / b) (by (first | lia | omega))
  have hly := txt_len (n := a % b) (by (first | lia | omega))
  try dsimp only
  try k_fold
  k_steps
  refine' Spec.use (idm a b ta tb ha ha2 hb hb2 τ hT) [] B (by k_asm) X (by k_asm) T C' ?hk ?hd ?hu ?sub ?ap ?ret
  case hk => exact rfl
  case hd => (first | lia | omega)
  case hu => (first | lia | omega)
  case sub => intro q hq; simpa using hq
  case ap => exact .nil
  case ret =>
    intro r1 own1 hh1 tk1 F1 N1 nw1 P1
    obtain ⟨t, t1, t2, τ', eo, hT', er⟩ := P1
    subst eo er
    rw [List.append_nil] at N1
    dsimp only
    k_steps
    refine' Spec.use0 (glc (a / b) (a % b) _ (by (first | lia | omega)) (by (first | lia | omega))) B (by k_asm) X (by k_asm) T C' ?hk ?hd ?hu ?ret
    case hk => exact rfl
    case hd => (first | lia | omega)
    case hu => (first | lia | omega)
    case ret =>
      intro r2 own2 hh2 tk2 F2 N2 nw2 P2
      obtain ⟨t', t1', t2', eo2, e2⟩ := P2
      subst e2 eo2
      dsimp only [List.cons_append, List.nil_append] at N2
      dsimp only
      k_steps
      exact End.pair (by k_asm) N2 (fun q h => .tail _ h) hT'
end Mine
namespace Mine
open PySem PySem.W PySem.Spec PySem.Calls PyProof.Rows
example : True := by (w_top off; k_with_none; trivial)
structure MS where
  one : Int
  other : Int
  t1 : Tok
  t2 : Tok
  led : Led
theorem gcd_step {a b : Int} (ha : 0 ≤ a) (hb : 0 < b) : Nat.gcd b.toNat (a % b).toNat = Nat.gcd a.toNat b.toNat := by
  have e : (a % b).toNat = a.toNat % b.toNat := by
    obtain ⟨m, rfl⟩ := Int.eq_ofNat_of_zero_le ha
    obtain ⟨n, rfl⟩ := Int.eq_ofNat_of_zero_le (Int.le_of_lt hb)
    rw [← Int.natCast_emod]; rfl
  rw [e, Nat.gcd_comm a.toNat, Nat.gcd_comm, ← Nat.gcd_rec]
def Hold (P : Prop) : Prop := P
theorem Hold.out {P : Prop} (h : Hold P) : P := h
theorem lmeas {w : World} {p : Program} {loose : List Str} {mean : ExcName → Option Value} {mg mb : Str → Option Value} (a b : Int) (ta tb : Tok) (ha : 0 ≤ a) (ha2 : a < 2 ^ 30) (hb : 0 ≤ b) (hb2 : b < 2 ^ 30) (τ : Led) (hT : Tau τ) :
    Spec w p loose mean mg mb 112 100 640 [.int a ta, .int b tb] τ (fun own' r => Tau own' ∧ ∃ t, r = .int (Nat.gcd a.toNat b.toNat : Nat) t) := by
  k_with_none
  k_with "exec While Compare cons nil" => (k_here; refine Hold.out ?_)
  refine' Spec.ofBody (binds := [(Str.ofString "one", .int a ta), (Str.ofString "other", .int b tb)]) ?ho ?hcd ?hbind ?hloc ?h ?r1 ?r2 ?c2 ?c3 ?c4 ?c5
  case ho => k_is
  case hcd => k_is
  case hbind => exact rfl
  case hloc => exact locs rfl
  case r1 => decide
  case r2 => decide
  case c2 => exact rfl
  case c3 => exact rfl
  case c4 => exact rfl
  case c5 => decide
  intro dp un gd outer A base g L h₁ tk s B F X N T C lt hdp hun
  have C' := C
  obtain ⟨C1, C2, C3, C4⟩ := C
  try dsimp only
  try k_fold
  k_steps
  unfold Hold
  refine' ksw_while (σ := MS) (fun c => c.led) (fun c => [(Str.ofString "one", .int c.one c.t1), (Str.ofString "other", .int c.other c.t2)]) (fun c => Tau c.led) []
    (fun c => 0 ≤ c.one ∧ c.one < 2 ^ 30 ∧ 0 ≤ c.other ∧ c.other < 2 ^ 30 ∧ Nat.gcd c.one.toNat c.other.toNat = Nat.gcd a.toNat b.toNat) (fun c => c.other.toNat) ⟨a, b, ta, tb, τ⟩ (by k_asm) (by k_asm) hT ?hk ⟨ha, ha2, hb, hb2, rfl⟩ ?turn
  case hk => exact List.forall_mem_cons.mpr ⟨rfl, List.forall_mem_cons.mpr ⟨rfl, fun _ h => nomatch h⟩⟩
  case turn =>
    intro c u h tk hT' hP F N
    obtain ⟨o1, o2, t1, t2, led⟩ := c
    obtain ⟨h0, h1, h2, h3, h4⟩ := hP
    dsimp only [kstB] at *
    try k_fold
    k_steps
    · have ho2 : 0 < o2 := by (first | lia | omega)
      refine' Spec.use (idm o1 o2 t1 t2 (by (first | lia | omega)) (by (first | lia | omega)) ho2 h3 led hT') [] B (by k_asm) X (by k_asm) T C' ?hk ?hd ?hu ?sub ?ap ?ret
      case hk => exact rfl
      case hd => (first | lia | omega)
      case hu => (first | lia | omega)
      case sub => intro q hq; simpa using hq
      case ap => exact .nil
      case ret =>
        intro r1 own1 hh1 tk1 F1 N1 nw1 P1
        obtain ⟨t, tq, tr, τ', eo, hT2, er⟩ := P1
        subst eo er
        rw [List.append_nil] at N1
        dsimp only
        k_steps
        have hr0 := Int.emod_nonneg o1 (show o2 ≠ 0 by (first | lia | omega))
        have hr1 := Int.emod_lt_of_pos o1 ho2
        refine ksw_end ⟨o2, o1 % o2, t2, tr, τ'⟩ (by k_asm) (by k_asm) (fun q h => .tail _ (.tail _ h)) hT2 ?_ ?_ ⟨h2, h3, hr0, (show o1 % o2 < 2 ^ 30 by (first | lia | omega)), ?_⟩ ?_
        · exact List.forall_mem_cons.mpr ⟨rfl, List.forall_mem_cons.mpr ⟨rfl, fun _ h => nomatch h⟩⟩
        · ksw_same
        · rw [← h4]; exact gcd_step h0 ho2
        · show (o1 % o2).toNat < o2.toNat; (first | lia | omega)
    · dsimp only
      k_steps
      have hz : o2 = 0 := by (first | lia | omega)
      subst hz
      refine End.intro led (by k_asm) (by k_asm) (fun q h => h) ⟨hT', _, congrArg (fun z => Value.int z _) ?_⟩
      rw [← h4, Int.toNat_zero, Nat.gcd_zero_right, Int.toNat_of_nonneg h0]
end Mine
namespace Mine
open PySem PySem.W PySem.Spec PySem.Calls PyProof.Rows
example : True := by (w_top off; k_with_none; trivial)
theorem Spec.useC {w : World} {p : Program} {loose : List Str} {mean : ExcName → Option Value} {mg mb : Str → Option Value} {f : Addr} {D U : Nat} {vs : List Value} {own : Led} {Post : Led → Value → Prop} (S : Spec w p loose mean mg mb f D U vs own Post)
    {dp un : Nat} {gd : Option (List Code)} {cn : Str} {cs : Scope} {a : Addr} {ccd : Value} {cl : List (Str × Addr)} {outer : List Env} {A₀ : Around} {base h₀ : Heap} {L : Addr} {m : Str → Option Value} {s : Shared} {Q E : Value → Shared → Prop} (pre : Led)
    (B : Below A₀ base outer h₀) (F : Fr h₀ L s.heap m) (X : (hd.heap_39 w.params).In h₀) (N : News h₀ L s.heap (pre ++ own)) (T : Top p loose mean mg mb h₀) (C : CodesAt base) (hk : cs.kind = .function) (hd : dp + D < recursionLimit) (hu : un + U < cLine)
    (ap : Apart own pre)
    (ret : ∀ r own' h' tk', Fr h₀ L h' m → News h₀ L h' (own' ++ pre) → Apart own' pre → Post own' r → Q r { s with heap := h', toks := tk' }) :
    wpAny (model PySem.Challenge.rw_ph0106_01.row.prog w) (ktrTop dp un gd cn cs L a ccd cl outer) (call (.ref f) vs) Q E s := by
  have N₂ : News h₀ L s.heap (own ++ pre) := fun q hq => N q ((List.mem_append.mp hq).elim (fun h => List.mem_append_right _ h) fun h => List.mem_append_left _ h)
  exact S.use pre B F X N₂ T C hk hd hu (fun _ h => h) ap fun r own' h' tk' F' N' nw hp => ret r own' h' tk' F' N' (nw.apart N₂ ap) hp
/-- apart: one place after the other -/
theorem Apart.put {own rest : Led} {q : Addr × Obj} (h : ∀ p ∈ own, p.1 ≠ q.1) (r : Apart own rest) : Apart own (q :: rest) := .cons (.of h) r
theorem Apart.hd {own rest : Led} {q : Addr × Obj} (h : Apart own (q :: rest)) : ∀ p ∈ own, p.1 ≠ q.1 := fun _ hp => h.ne hp (.head _)
theorem Apart.tl {own rest : Led} {q : Addr × Obj} (h : Apart own (q :: rest)) : Apart own rest := fun p hp => h p (.tail _ hp)
/-- where a place goes -/
def nxt (rows cols place : Int) : Int := place / cols + (place % cols) * rows
def ringGo {α : Type} (rows cols leader : Int) : Nat → Int → List Int → α → List α → List Int × List α
  | 0, _, ring, _, cells => (ring, cells)
  | k + 1, place, ring, carried, cells =>
    if nxt rows cols place = leader then (ring ++ [place], cells.set (nxt rows cols place).toNat carried)
    else ringGo rows cols leader k (nxt rows cols place) (ring ++ [place]) (cells.getD (nxt rows cols place).toNat carried) (cells.set (nxt rows cols place).toNat carried)
theorem ringGo_succ {α : Type} {rows cols leader : Int} {k : Nat} {place : Int} {ring : List Int} {carried : α} {cells : List α} : ringGo rows cols leader (k + 1) place ring carried cells =
    if place / cols + (place % cols) * rows = leader then (ring ++ [place], cells.set (place / cols + (place % cols) * rows).toNat carried)
    else ringGo rows cols leader k (place / cols + (place % cols) * rows) (ring ++ [place]) (cells.getD (place / cols + (place % cols) * rows).toNat carried) (cells.set (place / cols + (place % cols) * rows).toNat carried) := rfl
theorem ringGo_zero {α : Type} {rows cols leader : Int} {place : Int} {ring : List Int} {carried : α} {cells : List α} : ringGo rows cols leader 0 place ring carried cells = (ring, cells) := rfl
structure Dims (rows cols : Int) : Prop where
  r0 : 2 ≤ rows
  r1 : rows ≤ 4
  c0 : 2 ≤ cols
  c1 : cols ≤ 5
theorem nxt_range {rows cols place : Int} (d : Dims rows cols) (h0 : 0 ≤ place) (h1 : place < rows * cols) : 0 ≤ nxt rows cols place ∧ nxt rows cols place < rows * cols := by
  unfold nxt
  obtain ⟨a, b, c, e⟩ := d
  have hr : rows = 2 ∨ rows = 3 ∨ rows = 4 := by (first | lia | omega)
  have hc : cols = 2 ∨ cols = 3 ∨ cols = 4 ∨ cols = 5 := by (first | lia | omega)
  rcases hr with rfl | rfl | rfl <;> rcases hc with rfl | rfl | rfl | rfl <;> (first | lia | omega)
section
variable {prog : Program} {w : World} {A : Around} {E : Value → Shared → Prop} {s : Shared} {h₀ : Heap} {L D : Addr} {m : Str → Option Value} {news : List (Addr × Obj)} {vs : List Value} {n : Nat} {k : Int} {v : Value} {t u : Tok}
theorem subAny {value slice : PySem.Expr} {Q : Value → Shared → Prop} (N : News h₀ L s.heap news) (hm : (D, W.listOf vs.toArray n) ∈ news) (h0 : 0 ≤ k) (h1 : k < vs.length) (hfit : k < 2 ^ 63) (h : ∀ v, vs[k.toNat]? = some v → Q v s)
    (hs : subscripted slice false (.ref D) (.int k u) = operate [.ref D, .int k u] (getItem (.ref D) (.int k u)) := by with_unfolding_all rfl) :
    wpAny (model prog w) A (subscriptTail value slice (.ref D) (.int k u)) Q E s := by
  have hl : s.heap.IsList D vs.toArray := ⟨_, (N _ hm).1, rfl, n, rfl⟩
  have hx : vs[k.toNat]? = some (vs[k.toNat]'(by (first | lia | omega))) := List.getElem?_eq_getElem (by (first | lia | omega))
  exact tail_any hl.typeIs slot_list_getitem.lookup (wpAny_getItem_list hl h0 hfit (by simpa using hx) (h _ hx)) hs
end
local macro_rules | `(tactic| k_all) => `(tactic| assumption)
theorem rng20 : ∀ n : Nat, n < 21 → Builtin.Range.small 0 (n : Int) 1 = true ∧ Builtin.Range.rangeSize 0 (n : Int) 1 = (n : Int) := by decide +kernel
theorem set_getD_len {α : Type} {l : List α} {k : Nat} {v : α} : (l.set k v).length = l.length := List.length_set
theorem ring_led {h₀ h : Heap} {L : Addr} {t e1 e2 e3 : Addr × Obj} {τ : Led} (N : News h₀ L h ((t :: τ) ++ [e1, e2, e3])) : News h₀ L h (t :: e1 :: e2 :: e3 :: τ) := fun q hq => N q (by
  simp only [List.cons_append, List.mem_cons, List.mem_append, List.not_mem_nil, or_false] at hq ⊢
  rcases hq with h | h | h | h | h
  · exact .inl h
  · exact .inr (.inr (.inl h))
  · exact .inr (.inr (.inr (.inl h)))
  · exact .inr (.inr (.inr (.inr h)))
  · exact .inr (.inl h))
theorem lring {w : World} {p : Program} {loose : List Str} {mean : ExcName → Option Value} {mg mb : Str → Option Value} (rows cols leader : Int) (tl tr tc : Tok) (d : Dims rows cols) (D : Nat) (cs : List Value) (ep : Nat) (τ : Led) (hT : Tau τ) (hDτ : ∀ q ∈ τ, q.1 ≠ D)
    (hlen : (cs.length : Int) = rows * cols) (h0 : 0 ≤ leader) (h1 : leader < cs.length) :
    Spec w p loose mean mg mb 98 110 700 [.ref D, .int leader tl, .int rows tr, .int cols tc] ((D, W.listOf cs.toArray ep) :: τ)
      (fun own' r => ∃ R rs ep' τ' c0, r = .ref R ∧ cs[leader.toNat]? = some c0 ∧ IntsAre rs (ringGo rows cols leader cs.length leader [] c0 cs).1 ∧ Tau τ' ∧ (∀ q ∈ τ', q.1 ≠ D) ∧ (∀ q ∈ τ', q.1 ≠ R) ∧ R ≠ D ∧
        own' = (R, W.listOf rs.toArray ep') :: (D, W.listOf (ringGo rows cols leader cs.length leader [] c0 cs).2.toArray ep) :: τ') := by
  k_with_none
  k_with "subscriptTail" => (k_here; (with_reducible show wpAny _ _ (subscriptTail _ _ (Value.ref _) (Value.int _ _)) _ _ _); k_dflt (refine' subAny (by k_asm) (by k_mem) (by (first | lia | omega)) (by (first | lia | omega)) (by (first | lia | omega)) ?_ (by with_unfolding_all rfl)); intro _ _)
  k_with "call builtin:len" => (k_here; (with_reducible show wpAny _ _ (call (Value.builtin "len") [Value.ref _]) _ _ _); k_dflt (refine' kst_len (by k_asm) (by k_mem) rfl (by (first | lia | omega)) ?_))
  k_with "pyIter ref" => (k_here; refine Hold.out ?_)
  k_with "call builtin:list.append" => (k_here; (with_reducible show wpAny _ _ (call (Value.builtin _) [Value.ref _, _]) _ _ _); k_dflt (refine' appL (by k_asm) (by k_asm) (by k_upd) (by (simp only [sizeLine]; (first | lia | omega))) ?_); intro _ _ _; (try k_sweep))
  k_with "setItem ref int" => (k_here; (with_reducible show wpAny _ _ (setItem (Value.ref _) (Value.int _ _) _) _ _ _); k_dflt (refine' setAny (by k_asm) (by k_asm) (by k_upd) (by (first | lia | omega)) (by (first | lia | omega)) (by (first | lia | omega)) ?_); intro _ _ _; (try k_sweep))
  k_with "binaryOp Mult int int" => (k_here; (with_reducible show wpAny _ _ (binaryOp Operator.Mult (Value.int _ _) (Value.int _ _)) _ _ _); (with_reducible refine mul_gen (by (first | lia | omega)) (by (first | lia | omega)) (by (first | lia | omega)) (by (first | lia | omega)) ?_); intro _ _ _ _)
  have hl20 : cs.length ≤ 20 := by
    have := Int.mul_le_mul d.r1 d.c1 (by have := d.c0; (first | lia | omega)) (by decide : (0 : Int) ≤ 4)
    (first | lia | omega)
  refine' Spec.ofBody (binds := [(Str.ofString "cells", .ref D), (Str.ofString "leader", .int leader tl), (Str.ofString "rows", .int rows tr), (Str.ofString "cols", .int cols tc)]) ?ho ?hcd ?hbind ?hloc ?h ?r1 ?r2 ?c2 ?c3 ?c4 ?c5
  case ho => k_is
  case hcd => k_is
  case hbind => exact rfl
  case hloc => exact locs rfl
  case r1 => decide
  case r2 => decide
  case c2 => exact rfl
  case c3 => exact rfl
  case c4 => exact rfl
  case c5 => decide
  intro dp un gd outer A base g L h₁ tk s B F X N T C lt hdp hun
  have C' := C
  obtain ⟨C1, C2, C3, C4⟩ := C
  have hDr := d.r0
  have hDr1 := d.r1
  have hDc := d.c0
  have hDc1 := d.c1
  k_lt lt
  try dsimp only
  try k_fold
  k_steps
  rename_i R hA l1 c0 hc0 TT hB l2 hC hD hE hF F1 N1 hG tkG tu1 tu2 tu3 hrange FF NN hkeep
  unfold Hold
  have hRD : D < R := l1.1
  have hRτ : ∀ q ∈ τ, q.1 ≠ R := fun q hq => Nat.ne_of_lt (kst_ltOf l1.2 q hq)
  have NN2 : News g L hG ((R, W.listOf #[] 0) :: (D, W.listOf cs.toArray ep) :: τ) := fun q hq => NN q (.tail _ hq)
  have hr20 := rng20 cs.length (by (first | lia | omega))
  refine' iter_rangeUnr (n := cs.length) rfl hrange hr20.1 hr20.2 FF NN2 (fun I hI => ?rest)
  have hIR := ltN (hI _ (.head _))
  have hID := ltN (hI _ (.tail _ (.head _)))
  dsimp only at hIR hID
  have hIτ : ∀ q ∈ τ, q.1 ≠ I := fun q hq => Nat.ne_of_lt (hI q (.tail _ (.tail _ hq)))
  let Inv : Nat → (Str → Option Value) → Led → Prop := fun i m news => ∃ (place : Int) (tp : Tok) (ring : List Int) (rs : List Value) (epr : Nat) (carried : Value) (cl : List Value) (τ' : Led),
    Knows m [(Str.ofString "cells", .ref D), (Str.ofString "leader", .int leader tl), (Str.ofString "rows", .int rows tr), (Str.ofString "cols", .int cols tc), (Str.ofString "ring", .ref R), (Str.ofString "place", .int place tp), (Str.ofString "carried", carried)] ∧
    IntsAre rs ring ∧ news = (R, W.listOf rs.toArray epr) :: (D, W.listOf cl.toArray ep) :: τ' ∧ Tau τ' ∧ (∀ q ∈ τ', q.1 ≠ I) ∧ (∀ q ∈ τ', q.1 ≠ R) ∧ (∀ q ∈ τ', q.1 ≠ D) ∧ cl.length = cs.length ∧ rs.length = i ∧ 0 ≤ place ∧ place < cs.length ∧
    ringGo rows cols leader (cs.length - i) place ring carried cl = ringGo rows cols leader cs.length leader [] c0 cs
  refine' range_loop Inv ?turn ?done cs.length 0 (by (first | lia | omega)) _ _ ?start
  case start =>
    exact ⟨leader, tl, [], [], 0, c0, cs, τ, ⟨rfl, rfl, rfl, rfl, rfl, rfl, rfl, trivial⟩, .nil, rfl, hT, hIτ, hRτ, hDτ, rfl, rfl, h0, h1, rfl⟩
  case turn =>
    intro i t m news h tk hi hI' F N
    obtain ⟨place, tp, ring, rs, epr, carried, cl, τ', hK, hrs, hnews, hT', hτI, hτR, hτD, hcl, hrl, hp0, hp1, hgo⟩ := hI'
    subst hnews
    have F2 := (hK.with (x := Str.ofString "step") (v := .int (0 + (i : Int)) t) rfl).fr F
    dsimp only [kstB] at F2
    clear F
    have hnx := nxt_range d hp0 (by (first | lia | omega))
    unfold nxt at hnx
    have hm0 := Int.emod_nonneg place (show cols ≠ 0 by (first | lia | omega))
    have hm1 := Int.emod_lt_of_pos place (show 0 < cols by (first | lia | omega))
    try dsimp only
    try k_fold
    k_steps
    refine' Spec.useC (lread place cols tp tc (by (first | lia | omega)) (by (first | lia | omega)) (by (first | lia | omega)) (by (first | lia | omega)) τ' hT') [(I, _), (R, _), (D, _)] B (by k_asm) X (by k_asm) T C' ?hk ?hd ?hu ?ap ?ret
    case hk => exact rfl
    case hd => (first | lia | omega)
    case hu => (first | lia | omega)
    case ap => exact .put hτI (.put hτR (.put hτD .nil))
    case ret =>
      intro r1 own1 hh1 tk1 F1 N1 ap1 P1
      obtain ⟨tt, tq, tr2, τ2, eo, hT2, er⟩ := P1
      subst eo er
      have aI := ap1.hd
      have aR := ap1.tl.hd
      have aD := ap1.tl.tl.hd
      have nI := neN (aI _ (.head _))
      have nR := neN (aR _ (.head _))
      have nD := neN (aD _ (.head _))
      dsimp only at nI nR nD
      have bI : ∀ q ∈ τ2, q.1 ≠ I := fun q hq => aI q (.tail _ hq)
      have bR : ∀ q ∈ τ2, q.1 ≠ R := fun q hq => aR q (.tail _ hq)
      have bD : ∀ q ∈ τ2, q.1 ≠ D := fun q hq => aD q (.tail _ hq)
      clear aI aR aD ap1
      replace N1 := ring_led N1
      dsimp only
      k_steps
      all_goals (
        rename _ = place % cols * rows => hM
        rename cl[_]? = some _ => hS
        subst hM)
      all_goals (
        have hst : ringGo rows cols leader (cs.length - i) place ring carried cl = ringGo rows cols leader ((cs.length - (i + 1)) + 1) place ring carried cl := by
          rw [show cs.length - i = (cs.length - (i + 1)) + 1 by (first | lia | omega)]
        rw [hst, ringGo_succ] at hgo)
      · rename place / cols + place % cols * rows = leader => hpl
        rw [if_pos hpl] at hgo
        refine TurnPost.brk ?_
        dsimp only
        k_steps
        refine End.intro ((R, W.listOf (rs ++ [Value.int place tp]).toArray (epr + 1)) :: (D, W.listOf (cl.set (place / cols + place % cols * rows).toNat carried).toArray ep) :: τ2) (by k_asm) (by k_asm) (fun q h => .tail _ (.tail _ (.tail _ h))) ⟨R, rs ++ [Value.int place tp], epr + 1, τ2, c0, rfl, hc0, ?_, hT2, bD, bR, (Nat.ne_of_lt hRD).symm, ?_⟩
        · rw [← hgo]; exact ints_append hrs (.cons _ _ .nil)
        · rw [← hgo]
      · rename place / cols + place % cols * rows ≠ leader => hpl
        rw [if_neg hpl] at hgo
        refine TurnPost.next (by k_asm) (by k_asm) ((R, W.listOf (rs ++ [Value.int place tp]).toArray (epr + 1)) :: (D, W.listOf (cl.set (place / cols + place % cols * rows).toNat carried).toArray ep) :: τ2) (fun q h => .tail _ (.tail _ h)) ?_ ?_
        · exact List.forall_mem_cons.mpr ⟨Nat.ne_of_lt hIR, List.forall_mem_cons.mpr ⟨Nat.ne_of_lt hID, bI⟩⟩
        · refine ⟨place / cols + place % cols * rows, _, ring ++ [place], rs ++ [Value.int place tp], _, _, _, τ2, ⟨rfl, rfl, rfl, rfl, rfl, rfl, rfl, trivial⟩, ints_append hrs (.cons _ _ .nil), rfl, hT2, bI, bR, bD, ?_, ?_, hnx.1, by (first | lia | omega), ?_⟩
          · rw [List.length_set]; exact hcl
          · simp [hrl]
          · rw [← hgo]
            congr 1
            rw [List.getD_eq_getElem?_getD, hS, Option.getD_some]
  case done =>
    intro m news h tk hI' F N
    obtain ⟨place, tp, ring, rs, epr, carried, cl, τ', hK, hrs, hnews, hT', hτI, hτR, hτD, hcl, hrl, hp0, hp1, hgo⟩ := hI'
    subst hnews
    have F2 := hK.fr F
    dsimp only [kstB] at F2
    clear F
    k_steps
    dsimp only
    k_steps
    rw [Nat.sub_self, ringGo_zero] at hgo
    refine End.intro ((R, W.listOf rs.toArray epr) :: (D, W.listOf cl.toArray ep) :: τ') (by k_asm) (by k_asm) (fun q h => h) ⟨R, rs, epr, τ', c0, rfl, hc0, ?_, hT', hτD, hτR, (Nat.ne_of_lt hRD).symm, ?_⟩
    · rw [← hgo]; exact hrs
    · rw [← hgo]
end Mine
namespace Mine.FnF
open PySem PySem.W PySem.Spec PySem.Calls PyProof.Rows
theorem slot_set : Slot "function" "__setattr__" "object.__setattr__" :=
  .of (owner := "object") (n := "__setattr__") (by rw [typeLookup_type, builtinLookup_eq_fast]; kernel_rfl) (by decide +kernel) (by decide +kernel) (by decide +kernel)
    (by first | exact .inl (by decide +kernel) | exact .inr (by decide +kernel)) (by rw [isSubtype_type]; kernel_rfl)
theorem slot_get : Slot "function" "__getattribute__" "object.__getattribute__" :=
  .of (owner := "object") (n := "__getattribute__") (by rw [typeLookup_type, builtinLookup_eq_fast]; kernel_rfl) (by decide +kernel) (by decide +kernel) (by decide +kernel)
    (by first | exact .inl (by decide +kernel) | exact .inr (by decide +kernel)) (by rw [isSubtype_type]; kernel_rfl)
theorem entry_set : entryFor table "object.__setattr__" = some Builtin.«object.__setattr__» := entryFor_of_tree (by kernel_rfl)
theorem args_set (a b c : Value) : argsOk "object.__setattr__" ⟨[a, b, c], []⟩ := by
  unfold argsOk; rw [signature?_of (id := "object.__setattr__") (n := ['_', '_', 'r', 't', 't', 'a', 't', 'e', 's', '_', '_']) (o := ['t', 'c', 'e', 'j', 'b', 'o']) (by kernel_rfl) F.owner_object]; kernel_rfl
theorem mro_fn : mroOf (.type "function") = pure [.type "function", .type "object"] := by rw [mroOf_type]; kernel_rfl
theorem no_span : typeLookup (.type "function") "span" = pure none := by rw [typeLookup_type, builtinLookup_eq_fast]; kernel_rfl
theorem no_search : typeLookup (.type "function") "search" = pure none := by rw [typeLookup_type, builtinLookup_eq_fast]; kernel_rfl
theorem no_getattr : typeLookup (.type "function") "__getattr__" = pure none := by rw [typeLookup_type, builtinLookup_eq_fast]; kernel_rfl
theorem no_bool : typeLookup (.type "function") "__bool__" = pure none := by rw [typeLookup_type, builtinLookup_eq_fast]; kernel_rfl
theorem no_len : typeLookup (.type "function") "__len__" = pure none := by rw [typeLookup_type, builtinLookup_eq_fast]; kernel_rfl
theorem passes (self : Value) : refuseLoop self "__setattr__" [.type "function", .type "object"] = pure () := by
  unfold refuseLoop
  simp only [List.forIn_cons, List.forIn_nil]
  rfl
end Mine.FnF
namespace Mine
open PySem PySem.W PySem.Spec PySem.Calls PyProof.Rows
section
variable {prog : Program} {w : World} {A : Around} {E : Value → Shared → Prop} {s : Shared}
theorem fn_truthy {f : Addr} {o : Obj} {Q : Bool → Shared → Prop} (ho : s.heap.get? f = some o) (hc : o.cls = .type "function") (h : Q true s) : wpAny (model prog w) A (truthy (.ref f)) Q E s := by
  have hT : s.TypeIs (.ref f) "function" := ⟨_, ho, hc⟩
  unfold truthy
  unfold callSpecial?
  refine wpAny_bind (wpAny_bind (wpAny_specialOf hT FnF.no_bool (wpAny_pure ?_)))
  refine wpAny_bind (wpAny_specialOf hT FnF.no_len ?_)
  exact wpAny_pure h
theorem fn_set {f : Addr} {o : Obj} {fd : FuncData} {name : Str} {v : Value} {Q : Unit → Shared → Prop} (hn : typeLookup (.type "function") name = pure none) (ho : s.heap.get? f = some o) (hc : o.cls = .type "function") (hd : o.dict = none) (hdt : o.data = .func fd)
    (h : ∀ h' tk', h'.get? f = some { o with dict := some s.heap.objs.size } → h'.Ns s.heap.objs.size (fun y => if y = name then some v else none) → (∀ b ob, b ≠ f → s.heap.get? b = some ob → h'.get? b = some ob) → Q () { s with heap := h', toks := tk' }) :
    wpAny (model prog w) A (setAttr (.ref f) name v) Q E s := by
  have hT : s.TypeIs (.ref f) "function" := ⟨_, ho, hc⟩
  unfold setAttr
  refine wpAny_bind (wpAny_mkText ?_)
  have hT' : (⟨s.heap, s.gens, s.drawn, s.toks + 1, s.os⟩ : Shared).TypeIs (.ref f) "function" := ⟨_, ho, hc⟩
  refine wpAny_bind (wpAny_callSpecial?_slot (name := Str.ofString "__setattr__") hT' FnF.slot_set (wpAny_call_entry FnF.slot_set hT' FnF.entry_set ?_ (FnF.args_set _ _ _)))
  unfold Builtin.«object.__setattr__»
  refine wpAny_bind (m := Builtin.ObjectAttr.refuseIfOverridden (.ref f) "__setattr__") ?_
  rw [refuse_eq]
  refine wpAny_bind (wpAny_typeOf hT' ?_)
  refine wpAny_bind (wpAny_of_eq FnF.mro_fn ?_)
  refine wpAny_of_eq (FnF.passes _) ?_
  refine wpAny_bind (wpAny_of_eq (a := name) rfl ?_)
  refine wpAny_bind (wpAny_typeOf hT' ?_)
  refine wpAny_bind (wpAny_of_eq hn ?_)
  refine wpAny_bind (wpAny_of_eq (a := none) rfl ?_)
  show wpAny _ _ (Builtin.ObjectAttr.storeInOwnDict (.ref f) (.type "function") (.str name s.toks) name v false) _ _ _
  unfold Builtin.ObjectAttr.storeInOwnDict
  refine wpAny_bind (wpAny_of_eq (a := ()) (by rfl) ?_)
  show wpAny _ _ (if (Value.type "function" == Value.type "module") = true then _ else _) _ _ _
  rw [if_neg (by decide)]
  obtain ⟨oc, od, odt, osl⟩ := o
  replace hc : oc = .type "function" := hc
  replace hd : od = none := hd
  replace hdt : odt = .func fd := hdt
  subst hc hd hdt
  have hfs : f ≠ s.heap.objs.size := Nat.ne_of_lt (Heap.lt_size ho)
  refine wpAny_bind (m := Builtin.ObjectAttr.ownDictForStores (.ref f)) ?_
  show wpAny _ _ (instanceDict f true) _ _ _
  unfold instanceDict
  refine wpAny_bind (wpAny_loadPart (s := { s with toks := s.toks + 1 }) ho ?_)
  dsimp only
  rw [if_neg (by decide +kernel)]
  have ho1 : (s.heap.push { cls := .type "dict", data := .dict #[] }).get? f = some (⟨.type "function", none, .func fd, osl⟩ : Obj) := Heap.get?_push_of_some _ ho
  refine wpAny_bind (wpAny_alloc' ?_)
  refine wpAny_bind (wpAny_update' ho1 ?_)
  refine wpAny_of_eq (a := some s.heap.objs.size) (by unfold dictMade; rfl) ?_
  have hgd : ((s.heap.push { cls := .type "dict", data := .dict #[] }).update f fun o => { cls := o.cls, dict := some s.heap.objs.size, data := o.data, slots := o.slots }).get? s.heap.objs.size
      = some { cls := .type "dict", data := .dict #[] } :=
    (Heap.get?_update_ne _ _ _ _ hfs.symm).trans (Heap.get?_push_at rfl rfl)
  have hnd : ((s.heap.push { cls := .type "dict", data := .dict #[] }).update f fun o => { cls := o.cls, dict := some s.heap.objs.size, data := o.data, slots := o.slots }).Ns s.heap.objs.size (fun _ => none) :=
    ⟨_, #[], _, hgd, rfl, fun e he => absurd he (by simp), fun _ => rfl⟩
  show wpAny _ _ (Builtin.ObjectAttr.storeInDict s.heap.objs.size (.str name s.toks) name v) _ _ _
  unfold Builtin.ObjectAttr.storeInDict Builtin.ObjectAttr.newKeyGuard
  refine wpAny_bind (wpAny_pure (wpAny_bind (wpAny_nsSet1 (Heap.Ns1.of_empty hnd) fun h' hn' hs => ?_)))
  obtain ⟨oD, esD, epD, hoD, hdD, hcD⟩ := hn'.count (Within.cons name v Within.nil)
  refine wpAny_bind (wpAny_lookBehind hoD (by rw [hdD]; exact pastItsLine_dict (Nat.le_trans hcD (by rw [List.length_cons, List.length_nil, sizeLine_eq]; omega))) ?_)
  refine wpAny_pure ⟨_, rfl, wpAny_pure ?_⟩
  refine h h' _ ?_ ?_ ?_
  · refine (hs.2 f hfs).trans (Heap.get?_update_self _ ho1 rfl)
  · obtain ⟨o', es, ep, e1, e2, e3, eu, e4⟩ := hn'
    exact ⟨o', es, ep, e1, e2, e3, fun y => e4 y⟩
  · intro b ob hb e
    exact (hs.2 b (Nat.ne_of_lt (Heap.lt_size e))).trans ((Heap.get?_update_ne _ _ _ _ hb).trans (Heap.get?_push_of_some _ e))
theorem fn_get {f d : Addr} {o : Obj} {name : Str} {u : Value} {fd : FuncData} {mm : Str → Option Value} {pl : Sem Bool} {Q : Value × List Value → Shared → Prop} (hn : typeLookup (.type "function") name = pure none) (ho : s.heap.get? f = some o) (hc : o.cls = .type "function") (hd : o.dict = some d) (hdt : o.data = .func fd)
    (hns : s.heap.Ns d mm) (hv : mm name = some u) (hu : handedOut u = pure u) (h : Q (u, []) { s with toks := s.toks + 1 }) :
    wpAny (model prog w) A (getMethod (.ref f) name pl) Q E s := by
  have hT : s.TypeIs (.ref f) "function" := ⟨_, ho, hc⟩
  have hT' : (⟨s.heap, s.gens, s.drawn, s.toks + 1, s.os⟩ : Shared).TypeIs (.ref f) "function" := ⟨_, ho, hc⟩
  unfold getMethod
  refine wpAny_bind (wpAny_specialOf hT FnF.slot_get.lookup ?_)
  dsimp only
  rw [if_neg (by decide +kernel)]
  refine wpAny_bind (wpAny_specialOf hT FnF.no_getattr ?_)
  rw [if_neg (by decide)]
  refine wpAny_bind (wpAny_specialOf hT hn ?_)
  dsimp only
  refine wpAny_bind ?_
  unfold getAttr
  refine wpAny_bind (wpAny_mkText ?_)
  unfold getAttrBy
  refine wpAny_holding ?_
  refine wpAny_bind (wpAny_typeOf hT' ?_)
  refine wpAny_bind (wpAny_of_eq FnF.slot_get.lookup ?_)
  dsimp only
  rw [if_neg (by decide)]
  unfold getAttrByItsOwn
  refine wpAny_bind (wpAny_of_eq (a := none) rfl ?_)
  refine wpAny_bind (wpAny_attempt (wpAny_holding ?_))
  unfold callGetattribute
  rw [if_neg (by simp)]
  unfold boundAndCalled
  refine wpAny_bind (wpAny_of_eq (FnF.slot_get.bind _) ?_)
  refine wpAny_call_entry (rest := [.str name s.toks]) FnF.slot_get hT' F.entry_object_getattribute ?_ (F.args_object_getattribute_2 _ _)
  unfold Builtin.«object.__getattribute__»
  refine wpAny_bind (wpAny_of_eq (a := (Value.ref f, [.str name s.toks])) rfl ?_)
  dsimp only
  refine wpAny_bind (wpAny_of_eq (a := name) rfl ?_)
  refine wpAny_bind (wpAny_typeOf hT' ?_)
  unfold Builtin.ObjectAttr.find
  refine wpAny_bind (wpAny_bind (wpAny_of_eq hn ?_))
  refine wpAny_bind (wpAny_of_eq (a := none) rfl ?_)
  refine wpAny_bind (wpAny_of_eq (a := none) rfl ?_)
  dsimp only
  unfold Builtin.ObjectAttr.ownThenClass Builtin.ObjectAttr.inOwnDict
  obtain ⟨oc, od, odt, osl⟩ := o
  replace hc : oc = .type "function" := hc
  replace hd : od = some d := hd
  replace hdt : odt = .func fd := hdt
  subst hc hd hdt
  refine wpAny_bind (wpAny_bind ?_)
  unfold Builtin.ObjectAttr.ownDict loadHead
  refine wpAny_bind (wpAny_loadPart (s := { s with toks := s.toks + 1 }) ho ?_)
  dsimp only
  unfold instanceDict
  refine wpAny_bind (wpAny_loadPart (s := { s with toks := s.toks + 1 }) ho ?_)
  dsimp only
  refine wpAny_pure ?_
  unfold Builtin.ObjectAttr.inDict
  refine wpAny_nsGet (s := { s with toks := s.toks + 1 }) hns ?_
  rw [hv]
  refine wpAny_bind (wpAny_rule (wpAny_pure ?_))
  refine wpAny_pure ⟨_, rfl, ?_⟩
  show wpAny _ _ (handedOut u) _ _ _
  rw [hu]
  exact wpAny_pure (wpAny_pure h)
end
end Mine
namespace Mine
open PySem PySem.W PySem.Spec PySem.Calls PyProof.Rows
/-- a call that leaves all of its own as it was: no apartness is asked -/
theorem Spec.useR {w : World} {p : Program} {loose : List Str} {mean : ExcName → Option Value} {mg mb : Str → Option Value} {f : Addr} {D U : Nat} {vs : List Value} {own : Led} {Post : Led → Value → Prop} (S : Spec w p loose mean mg mb f D U vs own (fun own' r => (∀ q ∈ own, q ∈ own') ∧ Post own' r))
    {dp un : Nat} {gd : Option (List Code)} {cn : Str} {cs : Scope} {a : Addr} {ccd : Value} {cl : List (Str × Addr)} {outer : List Env} {A₀ : Around} {base h₀ : Heap} {L : Addr} {m : Str → Option Value} {news : Led} {s : Shared} {Q E : Value → Shared → Prop}
    (B : Below A₀ base outer h₀) (F : Fr h₀ L s.heap m) (X : (hd.heap_39 w.params).In h₀) (N : News h₀ L s.heap news) (T : Top p loose mean mg mb h₀) (C : CodesAt base) (hk : cs.kind = .function) (hd : dp + D < recursionLimit) (hu : un + U < cLine)
    (sub : ∀ q ∈ own, q ∈ news)
    (ret : ∀ r own' h' tk', Fr h₀ L h' m → News h₀ L h' (own' ++ news) → (∀ q ∈ own', q.1 ∈ own.map (·.1) ∨ NotIn q.1 news) → Post own' r → Q r { s with heap := h', toks := tk' }) :
    wpAny (model PySem.Challenge.rw_ph0106_01.row.prog w) (ktrTop dp un gd cn cs L a ccd cl outer) (call (.ref f) vs) Q E s := by
  refine S.use (news.filter fun q => !((own.map (·.1)).contains q.1)) B F X N T C hk hd hu ?_ ?_ ?_
  · intro q hq
    rcases List.mem_append.mp hq with h | h
    · exact sub q h
    · exact (List.mem_filter.mp h).1
  · intro q hq hm
    have h := (List.mem_filter.mp hq).2
    rw [List.contains_iff_mem.mpr hm] at h
    cases h
  · intro r own' h' tk' F' N' nw hp
    refine ret r own' h' tk' F' (fun q hq => ?_) (fun q hq => ?_) hp.2
    · rcases List.mem_append.mp hq with h | h
      · exact N' q (List.mem_append_left _ h)
      · by_cases hm : q.1 ∈ own.map (·.1)
        · obtain ⟨q', hq', e⟩ := List.mem_map.mp hm
          have e1 := (N q h).1
          have e2 := (N q' (sub q' hq')).1
          rw [← e, e2] at e1
          have : q = q' := Prod.ext e.symm (Option.some.inj e1).symm
          rw [this]
          exact N' q' (List.mem_append_left _ (hp.1 q' hq'))
        · exact N' q (List.mem_append_right _ (List.mem_filter.mpr ⟨h, by simpa using hm⟩))
    · rcases nw q hq with h | h
      · exact .inl h
      · exact .inr (.of fun z hz e => by rw [← e, (N z hz).1] at h; cases h)
/-- a dict object that keeps names -/
def NsO (o : Obj) (mm : Str → Option Value) : Prop := ∀ (h : Heap) (a : Addr), h.get? a = some o → h.Ns a mm
theorem NsO.of {h : Heap} {a : Addr} {mm : Str → Option Value} (x : h.Ns a mm) : ∃ o, h.get? a = some o ∧ NsO o mm :=
  let ⟨o, es, ep, e, r⟩ := x; ⟨o, e, fun _ _ e' => ⟨o, es, ep, e', r⟩⟩
/-- a function object that bears a name -/
theorem news_fnset {h₀ h h' : Heap} {L f : Addr} {m mm : Str → Option Value} {o : Obj} {news rest : Led} (F : Fr h₀ L h m) (N : News h₀ L h news) (hf : (f, o) ∈ news) (hr : ∀ q ∈ rest, q ∈ news ∧ q.1 ≠ f)
    (hk : ∀ b ob, b ≠ f → h.get? b = some ob → h'.get? b = some ob) (ho : h'.get? f = some { o with dict := some h.objs.size }) (hn : h'.Ns h.objs.size mm) :
    Fr h₀ L h' m ∧ ∃ od, NsO od mm ∧ News h₀ L h' ((h.objs.size, od) :: (f, { o with dict := some h.objs.size }) :: rest) := by
  have Nf := N _ hf
  obtain ⟨od, hod, hns⟩ := NsO.of hn
  refine ⟨⟨?_, fun b ob e => hk b ob (fun q => by rw [q] at e; have := Nf.2.2; rw [e] at this; cases this) (F.keep b ob e), F.above⟩, od, hns, fun q hq => ?_⟩
  · obtain ⟨oL, es, ep, hL, r⟩ := F.ns
    exact ⟨oL, es, ep, hk _ _ (Ne.symm Nf.2.1) hL, r⟩
  · rcases List.mem_cons.mp hq with rfl | hq
    · refine ⟨hod, Nat.ne_of_gt F.ns.lt, ?_⟩
      cases e : h₀.get? h.objs.size with
      | none => rfl
      | some x => exact absurd (Heap.lt_size (F.keep _ _ e)) (Nat.lt_irrefl _)
    · rcases List.mem_cons.mp hq with rfl | hq
      · exact ⟨ho, Nf.2⟩
      · have n := N q (hr q hq).1
        exact ⟨hk _ _ (hr q hq).2 n.1, n.2⟩
end Mine
namespace Mine
open PySem PySem.W PySem.Spec PySem.Calls PyProof.Rows
example : True := by (w_top off; k_with_none; trivial)
theorem restNil {f : Addr} {news : Led} : ∀ q ∈ ([] : Led), q ∈ news ∧ q.1 ≠ f := fun _ h => nomatch h
theorem restCons {f : Addr} {news rest : Led} {p : Addr × Obj} (h1 : p ∈ news) (h2 : @Ne Nat p.1 f) (r : ∀ q ∈ rest, q ∈ news ∧ q.1 ≠ f) : ∀ q ∈ p :: rest, q ∈ news ∧ q.1 ≠ f := fun q hq => by
  rcases List.mem_cons.mp hq with rfl | hq
  · exact ⟨h1, h2⟩
  · exact r q hq
abbrev qH : Str := Str.ofString "_law_hit" ++ ".<locals>." ++ Str.ofString "<lambda>"
/-- the table of _law_hit: empty, or with its two lambdas -/
inductive Tab2 : Led → Prop
  | e : Tab2 [(72, tabObj #[])]
  | f (c1 c2 : Nat) (o1 o2 : Obj) (v1 v2 : Array Value) (t1 t2 : Tok) : o1.data = .fields v1 → v1[1]? = some (.str qH t1) → o2.data = .fields v2 → v2[1]? = some (.str qH t2) → c1 ≠ 72 → c2 ≠ 72 →
      Tab2 [(72, tabObj #[rawInt 97, rawInt 10, .ref c1, rawInt 98, rawInt 15, .ref c2]), (c1, o1), (c2, o2)]
/-- the full table -/
def Full2 (t : Led) : Prop := Tab2 t ∧ t.length = 3
section
variable (w : World) (p : Program) (loose : List Str) (mean : ExcName → Option Value) (mg mb : Str → Option Value)
/-- a hit: a function object whose span answers (i, j) -/
structure HitL (hl : Led) (m : Addr) (i j : Int) : Prop where
  is : ∃ mo d od sp fd, (m, mo) ∈ hl ∧ mo.cls = .type "function" ∧ mo.dict = some d ∧ mo.data = .func fd ∧ (d, od) ∈ hl ∧ NsO od (fun y => if y = Str.ofString "span" then some (.ref sp) else none) ∧ (∃ so sd, (sp, so) ∈ hl ∧ so.data = .func sd) ∧
    Spec w p loose mean mg mb sp 5 60 [] hl (fun own' r => (∀ q ∈ hl, q ∈ own') ∧ ∃ t t1 t2, own' = (t, tupO [.int i t1, .int j t2]) :: hl ∧ r = .ref t)
end
theorem lhit {w : World} {p : Program} {loose : List Str} {mean : ExcName → Option Value} {mg mb : Str → Option Value} (i j : Int) (ti tj : Tok) (t : Led) (hT : Tab2 t) :
    Spec w p loose mean mg mb 77 20 100 [.int i ti, .int j tj] t (fun own' r => ∃ hl m t', r = .ref m ∧ HitL w p loose mean mg mb hl m i j ∧ Full2 t' ∧ (Full2 t → t' = t) ∧ own' = hl ++ t') := by
  refine' Spec.ofBodyC (binds := [(Str.ofString "front", .int i ti), (Str.ofString "behind", .int j tj)]) ?ho ?hcd ?hbind ?hkind ?hnd ?h ?r1 ?c2 ?c3 ?c4
  case ho => k_is
  case hcd => k_is
  case hbind => exact rfl
  case hkind => exact rfl
  case hnd => decide +kernel
  case r1 => decide
  case c2 => exact rfl
  case c3 => exact rfl
  case c4 => exact rfl
  intro dp un gd outer A base g L h₁ tk s cells B F X N Y T C lt hdp hun
  have C' := C
  obtain ⟨C1, C2, C3, C4⟩ := C
  k_cells Y
  cases hT
  · k_lt lt
    simp only [List.cons_append, List.nil_append] at N
    try dsimp only
    try k_fold
    k_steps
    rename_i oB oF dB dF f1 c1 o1 v1 t1 ct1 hA tkA e1 e1' l1 l1' hB F1 N1 f2 c2 o2 v2 t2 ct2 hC tkC F2 N2 e2 e2' l2 l2'
    refine fn_set FnF.no_span (N2 (f1, _) (by k_mem)).1 rfl rfl rfl fun hD tkD ho hns hk => ?_
    obtain ⟨F3, od, hod, N3⟩ := news_fnset (f := f1) F2 N2 (by k_mem) (rest := [(f2, _), (c2, o2), (c1, o1), (L + 1 + 1, oB), (L + 1, oF), (72, _)]) (restCons (by k_mem) (by omega) (restCons (by k_mem) (by omega) (restCons (by k_mem) (by omega) (restCons (by k_mem) (by omega) (restCons (by k_mem) (by omega) (restCons (by k_mem) (by omega) restNil)))))) hk ho hns
    clear F1 N1 F2 N2
    dsimp only at F3 N3
    dsimp only
    k_steps
    refine' End.intro ([(f1, _), (hC.objs.size, od), (f2, _), (L + 1, oF), (L + 1 + 1, oB), (c2, o2)] ++ [(72, tabObj #[rawInt 97, rawInt 10, .ref c1, rawInt 98, rawInt 15, .ref c2]), (c1, o1), (c2, o2)]) ?F ?N ?sub ⟨_, f1, _, rfl, ⟨⟨_, hC.objs.size, od, f2, _, .head _, ?q1, ?q2, ?q3, .tail _ (.head _), hod, ⟨_, _, .tail _ (.tail _ (.head _)), ?qf⟩, ?span⟩⟩, ⟨Tab2.f c1 c2 o1 o2 v1 v2 t1 t2 e1 e1' e2 e2' (by omega) (by omega), rfl⟩, (by intro q; exact nomatch q.2), rfl⟩
    case F => k_asm
    case N => k_asm
    case sub => exact SubL.mem (by k_subL)
    case qf => exact rfl
    case q1 => exact rfl
    case q2 => exact rfl
    case q3 => exact rfl
    case span =>
      refine' Spec.ofLam (binds := []) ?so ?sfo ?scm ?scd ?scv ?sb ?sl ?sh ?s1 ?s2 ?s3 ?s4 ?s5
      case so => exact .tail _ (.tail _ (.head _))
      case sfo => exact rfl
      case scm => exact .tail _ (.tail _ (.tail _ (.tail _ (.tail _ (.head _)))))
      case scd => exact e2
      case scv => exact e2'
      case sb => exact rfl
      case sl => exact locs rfl
      case s1 => decide
      case s2 => exact rfl
      case s3 => exact rfl
      case s4 => exact rfl
      case s5 => decide
      intro dp un gd outer A base g L h₁ tk s B F X N T C lt hdp hun
      have C' := C
      obtain ⟨C1, C2, C3, C4⟩ := C
      try dsimp only
      try k_fold
      k_steps
      exact End.intro (_ :: _) (by k_asm) (by k_asm) (fun q h => h) ⟨fun q hq => .tail _ hq, _, ti, tj, rfl, rfl⟩
  · k_lt lt
    simp only [List.cons_append, List.nil_append] at N
    try dsimp only
    try k_fold
    k_steps
    rename_i oB oF dB dF c1 c2 o1 o2 v1 v2 t1 t2 e1 e1' e2 e2' n1 n2 f1 ct1 hA tkA l1 hB F1 N1 f2 ct2 hC tkC F2 N2 l2
    refine fn_set FnF.no_span (N2 (f1, _) (by k_mem)).1 rfl rfl rfl fun hD tkD ho hns hk => ?_
    obtain ⟨F3, od, hod, N3⟩ := news_fnset (f := f1) F2 N2 (by k_mem) (rest := [(f2, _), (c2, o2), (c1, o1), (L + 1 + 1, oB), (L + 1, oF), (72, _)]) (restCons (by k_mem) (by omega) (restCons (by k_mem) (by omega) (restCons (by k_mem) (by omega) (restCons (by k_mem) (by omega) (restCons (by k_mem) (by omega) (restCons (by k_mem) (by omega) restNil)))))) hk ho hns
    clear F1 N1 F2 N2
    dsimp only at F3 N3
    dsimp only
    k_steps
    refine' End.intro ([(f1, _), (hC.objs.size, od), (f2, _), (L + 1, oF), (L + 1 + 1, oB), (c2, o2)] ++ [(72, tabObj #[rawInt 97, rawInt 10, .ref c1, rawInt 98, rawInt 15, .ref c2]), (c1, o1), (c2, o2)]) ?FB ?NB ?subB ⟨_, f1, _, rfl, ⟨⟨_, hC.objs.size, od, f2, _, .head _, ?q1B, ?q2B, ?q3B, .tail _ (.head _), hod, ⟨_, _, .tail _ (.tail _ (.head _)), ?qfB⟩, ?spanB⟩⟩, ⟨Tab2.f c1 c2 o1 o2 v1 v2 t1 t2 e1 e1' e2 e2' (by omega) (by omega), rfl⟩, fun _ => rfl, rfl⟩
    case FB => k_asm
    case NB => k_asm
    case subB => exact SubL.mem (by k_subL)
    case qfB => exact rfl
    case q1B => exact rfl
    case q2B => exact rfl
    case q3B => exact rfl
    case spanB =>
      refine' Spec.ofLam (binds := []) ?soB ?sfoB ?scmB ?scdB ?scvB ?sbB ?slB ?shB ?s1B ?s2B ?s3B ?s4B ?s5B
      case soB => exact .tail _ (.tail _ (.head _))
      case sfoB => exact rfl
      case scmB => exact .tail _ (.tail _ (.tail _ (.tail _ (.tail _ (.head _)))))
      case scdB => exact e2
      case scvB => exact e2'
      case sbB => exact rfl
      case slB => exact locs rfl
      case s1B => decide
      case s2B => exact rfl
      case s3B => exact rfl
      case s4B => exact rfl
      case s5B => decide
      intro dp un gd outer A base g L h₁ tk s B F X N T C lt hdp hun
      have C' := C
      obtain ⟨C1, C2, C3, C4⟩ := C
      try dsimp only
      try k_fold
      k_steps
      exact End.intro (_ :: _) (by k_asm) (by k_asm) (fun q h => h) ⟨fun q hq => .tail _ hq, _, ti, tj, rfl, rfl⟩
end Mine
namespace Mine
open PySem PySem.W PySem.Spec PySem.Calls PyProof.Rows
section
variable {w : World} {p : Program} {loose : List Str} {mean : ExcName → Option Value} {mg mb : Str → Option Value}
/-- a def with defaults made in a call, itself in the ledger -/
theorem Spec.ofNestD {f : Addr} {D U : Nat} {vs : List Value} {own : Led} {Post : Led → Value → Prop} {name qual : Str} {params : Arguments} {body : List Stmt} {scope : Scope} {cl' : List (Str × Addr)} {dV doc pm ctv : Value} {c' : Addr} {binds : List (Str × Value)} {oc : Obj} {ovs : Array Value} {ot : Tok}
    (ho : (f, kdv_obj name qual params (.stmts body) scope cl' dV doc pm c' ctv) ∈ own) (hcm : (c', oc) ∈ own) (hcd : oc.data = .fields ovs) (hcv : ovs[1]? = some (.str qual ot))
    (hbind : ∀ (s : Shared) (h₀ : Heap) (L : Addr), News h₀ L s.heap own → BindsTo s (kdv_fn name qual params (.stmts body) scope cl' dV doc pm (.ref c') ctv) ⟨vs, []⟩ binds) (hloc : ∀ y ∈ binds, scope.names.lookup y.1 = some .local)
    (h : ∀ (dp un : Nat) (gd : Option (List Code)) (outer : List Env) (A : Around) (base g : Heap) (L : Addr) (h₁ : Heap) (tk : Nat) (s : Shared),
      Below A base outer g → Fr g L h₁ (fun y => binds.reverse.lookup y) → (hd.heap_39 w.params).In g → News g L h₁ own → Top p loose mean mg mb g → CodesAt base → (∀ p ∈ own, p.1 < L) → dp + D < recursionLimit + 1 → un + U < cLine + 3 →
      wpAny (model PySem.Challenge.rw_ph0106_01.row.prog w) (ktrTop dp un gd qual scope L f (.ref c') cl' outer) (execs body (envX qual scope L f (.ref c') cl'))
        (fun fl s' => End g s Post (match fl with | .ret v => v | _ => .none) s') (fun _ _ => False) { s with heap := h₁, toks := tk })
    (hroom : 1 ≤ D)
    (hco : scope.isCoroutine = false) (hgen : scope.isGenerator = false) (hk : scope.kind = .function) (hcell : ∀ x ∈ scope.names, x.2 ≠ .cell) : Spec w p loose mean mg mb f D U vs own Post := by
  intro dp un gd cn cs a ccd cl outer A₀ base h₀ L m rest s Q E B F X N ap T C hck hd hu ret
  have N₁ : News h₀ L s.heap own := fun q hq => N q (List.mem_append_left _ hq)
  have hA : (ktrTop dp un gd cn cs L a ccd cl outer).frames = some (envX cn cs L a ccd cl :: outer) := rfl
  obtain ⟨FG, BG, st, _⟩ := groundX (R := fun _ _ => True) B F N₁ hA rfl hck
  refine wpAny_call (codeAny_call_def (fd := kdv_fn name qual params (.stmts body) scope cl' dV doc pm (.ref c') ctv) (body := body) (binds := binds) (by show dp < recursionLimit; omega) (N₁ _ ho).1 rfl (T.nolimit.keeps F.keep) (codeRec_news N₁ hcm hcd hcv) rfl (hbind _ _ _ N₁) hcell hloc (fun h₁ hns hk₁ => ?_) hco hgen hk)
  refine wpAny_mono (h (dp + 1) (un + 3) gd (envX cn cs L a ccd cl :: outer) _ base _ s.heap.objs.size h₁ _ s BG ⟨hns, fun b o e => hk₁ b o (of_hideAll _ e), Nat.le_of_eq (hideAll_size _ _)⟩ (X.keeps st)
    (fun q hq => ⟨hk₁ _ _ (N₁ q hq).1, Nat.ne_of_lt (Heap.lt_size (N₁ q hq).1), hideAll_none _ (List.mem_map_of_mem hq)⟩) (T.keeps st) C (fun q hq => Heap.lt_size (N₁ q hq).1) (by omega) (by omega)) (fun fl s' hl => ?_) fun _ _ y => y.elim
  obtain ⟨own', h', tk', rfl, F', N', nw, hp⟩ := leave_own F N ap hl
  exact ret _ own' h' tk' F' N' nw hp
end
/-- the next run of dots -/
def srch (cs : Str) (place : Int) : Option (Int × Int) :=
  if Txt.find3 cs (Str.ofString ".") place < 0 then none
  else some (Txt.find3 cs (Str.ofString ".") place, if Txt.find3 cs (Str.ofString "x") (Txt.find3 cs (Str.ofString ".") place) < 0 then (cs.length : Int) else Txt.find3 cs (Str.ofString "x") (Txt.find3 cs (Str.ofString ".") place))
section
variable (w : World) (p : Program) (loose : List Str) (mean : ExcName → Option Value) (mg mb : Str → Option Value)
def Lone (t pl : Led) : Prop := Full2 t ∨ (Tab2 t ∧ Apart t pl)
def Found (pl t : Led) (o : Option (Int × Int)) (own' : Led) (r : Value) : Prop :=
  match o with
  | none => r = .none ∧ own' = pl ++ t
  | some (i, j) => ∃ hl m t', r = .ref m ∧ HitL w p loose mean mg mb hl m i j ∧ Full2 t' ∧ (Full2 t → t' = t) ∧ own' = hl ++ (pl ++ t')
structure ProgL (pl : Led) (prog : Addr) : Prop where
  is : ∃ po d od fs fd, (prog, po) ∈ pl ∧ po.cls = .type "function" ∧ po.dict = some d ∧ po.data = .func fd ∧ (d, od) ∈ pl ∧ NsO od (fun y => if y = Str.ofString "search" then some (.ref fs) else none) ∧ (∃ so sd, (fs, so) ∈ pl ∧ so.data = .func sd) ∧
    (∀ (cs : Str) (tk : Tok) (t : Led), cs.length < 1000 → Lone t pl → Spec w p loose mean mg mb fs 30 200 [.str cs tk] (pl ++ t) (Found w p loose mean mg mb pl t (srch cs 0))) ∧
    (∀ (cs : Str) (tk : Tok) (i : Int) (ti : Tok) (t : Led), cs.length < 1000 → Lone t pl → Spec w p loose mean mg mb fs 30 200 [.str cs tk, .int i ti] (pl ++ t) (Found w p loose mean mg mb pl t (srch cs i)))
end
theorem ProgL.of {w : World} {p : Program} {loose : List Str} {mean : ExcName → Option Value} {mg mb : Str → Option Value} {pl : Led} {prog d fs : Addr} {po od : Obj} {fd : FuncData} {a b c : Addr × Obj} {sd : FuncData}
    (h1 : (prog, po) ∈ pl) (h2 : po.cls = .type "function") (h3 : po.dict = some d) (h4 : po.data = .func fd) (h5 : (d, od) ∈ pl) (h6 : NsO od (fun y => if y = Str.ofString "search" then some (.ref fs) else none))
    (hs : a.1 = fs) (hs2 : a.2.data = .func sd) (ha : a ∈ pl) (hb : b ∈ pl) (hc : c ∈ pl)
    (g1 : ∀ pl' : Led, a ∈ pl' → b ∈ pl' → c ∈ pl' → ∀ (cs : Str) (tk : Tok) (t : Led), cs.length < 1000 → Lone t pl' → Spec w p loose mean mg mb fs 30 200 [.str cs tk] (pl' ++ t) (Found w p loose mean mg mb pl' t (srch cs 0)))
    (g2 : ∀ pl' : Led, a ∈ pl' → b ∈ pl' → c ∈ pl' → ∀ (cs : Str) (tk : Tok) (i : Int) (ti : Tok) (t : Led), cs.length < 1000 → Lone t pl' → Spec w p loose mean mg mb fs 30 200 [.str cs tk, .int i ti] (pl' ++ t) (Found w p loose mean mg mb pl' t (srch cs i))) :
    ProgL w p loose mean mg mb pl prog := ⟨⟨po, d, od, fs, fd, h1, h2, h3, h4, h5, h6, ⟨a.2, sd, hs ▸ ha, hs2⟩, g1 pl ha hb hc, g2 pl ha hb hc⟩⟩
theorem Spec.post {w : World} {p : Program} {loose : List Str} {mean : ExcName → Option Value} {mg mb : Str → Option Value} {f : Addr} {D U : Nat} {vs : List Value} {own : Led} {P P' : Led → Value → Prop} (S : Spec w p loose mean mg mb f D U vs own P) (h : ∀ o r, P o r → P' o r) : Spec w p loose mean mg mb f D U vs own P' := by
  intro dp un gd cn cs a ccd cl outer A₀ base h₀ L m rest s Q E B F X N ap T C hck hd hu ret
  exact S dp un gd cn cs a ccd cl outer A₀ base h₀ L m rest s Q E B F X N ap T C hck hd hu fun r own' h' tk' F' N' nw hp => ret r own' h' tk' F' N' nw (h _ _ hp)
theorem lhit_use {w : World} {p : Program} {loose : List Str} {mean : ExcName → Option Value} {mg mb : Str → Option Value} {i j : Int} {ti tj : Tok} {t pl : Led} (hL : Lone t pl)
    {dp un : Nat} {gd : Option (List Code)} {cn : Str} {cs : Scope} {a : Addr} {ccd : Value} {cl : List (Str × Addr)} {outer : List Env} {A₀ : Around} {base h₀ : Heap} {L : Addr} {m : Str → Option Value} {s : Shared} {Q E : Value → Shared → Prop}
    (B : Below A₀ base outer h₀) (F : Fr h₀ L s.heap m) (X : (hd.heap_39 w.params).In h₀) (N : News h₀ L s.heap (pl ++ t)) (T : Top p loose mean mg mb h₀) (C : CodesAt base) (hk : cs.kind = .function) (hd : dp + 20 < recursionLimit) (hu : un + 100 < cLine)
    (ret : ∀ hl f t' h' tk', Fr h₀ L h' m → News h₀ L h' (hl ++ (pl ++ t')) → HitL w p loose mean mg mb hl f i j → Full2 t' → (Full2 t → t' = t) → Q (.ref f) { s with heap := h', toks := tk' }) :
    wpAny (model PySem.Challenge.rw_ph0106_01.row.prog w) (ktrTop dp un gd cn cs L a ccd cl outer) (call (.ref 77) [.int i ti, .int j tj]) Q E s := by
  rcases hL with hL | ⟨hL, ap⟩
  · refine Spec.useR (own := t) (Post := fun own' r => ∃ hl m t', r = .ref m ∧ HitL w p loose mean mg mb hl m i j ∧ Full2 t' ∧ (Full2 t → t' = t) ∧ own' = hl ++ t') ((lhit i j ti tj t hL.1).post fun o r hp => ⟨?_, hp⟩) B F X N T C hk hd hu (fun q hq => List.mem_append_right _ hq) ?_
    · obtain ⟨hl, m, t', _, _, _, e, rfl⟩ := hp
      rw [e hL]
      exact fun q hq => List.mem_append_right _ hq
    · rintro r own' h' tk' F' N' - ⟨hl, m, t', rfl, hh, hf, e, rfl⟩
      refine ret hl m t' h' tk' F' (fun q hq => N' q ?_) hh hf e
      rcases List.mem_append.mp hq with hq | hq
      · exact List.mem_append_left _ (List.mem_append_left _ hq)
      · rcases List.mem_append.mp hq with hq | hq
        · exact List.mem_append_right _ (List.mem_append_left _ hq)
        · exact List.mem_append_left _ (List.mem_append_right _ hq)
  · refine Spec.useC (lhit i j ti tj t hL) pl B F X N T C hk hd hu ap ?_
    rintro r own' h' tk' F' N' - ⟨hl, m, t', rfl, hh, hf, e, rfl⟩
    refine ret hl m t' h' tk' F' (fun q hq => N' q ?_) hh hf e
    rcases List.mem_append.mp hq with hq | hq
    · exact List.mem_append_left _ (List.mem_append_left _ hq)
    · rcases List.mem_append.mp hq with hq | hq
      · exact List.mem_append_right _ hq
      · exact List.mem_append_left _ (List.mem_append_right _ hq)
theorem srch_none {cs : Str} {i : Int} (h : Txt.find3 cs (Str.ofString ".") i < 0) : srch cs i = none := if_pos h
theorem srch_some {cs : Str} {i j : Int} (h : ¬ Txt.find3 cs (Str.ofString ".") i < 0) (e : (if Txt.find3 cs (Str.ofString "x") (Txt.find3 cs (Str.ofString ".") i) < 0 then (cs.length : Int) else Txt.find3 cs (Str.ofString "x") (Txt.find3 cs (Str.ofString ".") i)) = j) : srch cs i = some (Txt.find3 cs (Str.ofString ".") i, j) := by
  rw [srch, if_neg h, e]
end Mine
namespace Mine
open PySem PySem.W PySem.Spec PySem.Calls PyProof.Rows
example : True := by (w_top off; k_with_none; trivial)
theorem lprog {w : World} {p : Program} {loose : List Str} {mean : ExcName → Option Value} {mg mb : Str → Option Value} :
    Spec w p loose mean mg mb 84 20 100 [] [(79, tabObj #[])] (fun own' r => ∃ prog, r = .ref prog ∧ ProgL w p loose mean mg mb own' prog ∧ ∃ ps, (79, tabObj ps) ∈ own') := by
  refine' Spec.ofBody (binds := []) ?ho ?hcd ?hbind ?hloc ?h ?r1 ?r2 ?c2 ?c3 ?c4 ?c5
  case ho => k_is
  case hcd => k_is
  case hbind => exact rfl
  case hloc => exact locs rfl
  case r1 => decide
  case r2 => decide
  case c2 => exact rfl
  case c3 => exact rfl
  case c4 => exact rfl
  case c5 => decide
  intro dp un gd outer A base g L h₁ tk0 s B F X N T C lt hdp hun
  have C' := C
  obtain ⟨C1, C2, C3, C4⟩ := C
  k_lt lt
  try dsimp only
  try k_fold
  k_steps
  rename_i Tp hT l1 fs c1 o1 v1 t1 ct1 dc1 hA tkA d1 d2 l1b l2b hB f2 c2 o2 v2 t2 ct2 hC tkC e1 e2 l3 l4 hD F N
  refine fn_set FnF.no_search (N (f2, _) (by k_mem)).1 rfl rfl rfl fun hE tkE ho hns hk => ?_
  obtain ⟨F3, od, hod, N3⟩ := news_fnset (f := f2) F N (by k_mem) (rest := [(fs, _), (c1, o1), (Tp, _), (79, _)]) (restCons (by k_mem) (by (first | lia | omega)) (restCons (by k_mem) (by (first | lia | omega)) (restCons (by k_mem) (by (first | lia | omega)) (restCons (by k_mem) (by (first | lia | omega)) restNil)))) hk ho hns
  dsimp only at F3 N3
  dsimp only
  clear F N
  k_steps
  refine' End.intro [(f2, _), (hD.objs.size, od), (fs, _), (c1, o1), (Tp, _), (79, tabObj _)] ?F ?N ?sub ⟨f2, rfl, ProgL.of (d := hD.objs.size) (od := od) (fs := fs) (a := (fs, _)) (b := (c1, o1)) (c := (Tp, _)) (.head _) ?q1 ?q2 ?q3 (.tail _ (.head _)) hod rfl ?qs (.tail _ (.tail _ (.head _))) (.tail _ (.tail _ (.tail _ (.head _)))) (.tail _ (.tail _ (.tail _ (.tail _ (.head _))))) ?sp1 ?sp2, _, .tail _ (.tail _ (.tail _ (.tail _ (.tail _ (.head _)))))⟩
  case F => k_asm
  case N => k_asm
  case sub => exact SubL.mem (by k_subL)
  case qs => exact rfl
  case q1 => exact rfl
  case q2 => exact rfl
  case q3 => exact rfl
  case sp1 =>
    clear hod N3 F3 hns ho hk B X T lt C' C1 C2 C3 C4 hdp hun e1 e2 l1 l3 l4 l1b l2b
    intro pl ma mb' mc cs tk t hlen hL
    refine' Spec.ofNestD (binds := [(Str.ofString "chars", .str cs tk), (Str.ofString "place", .int 0 tk0)]) ?so ?scm ?scd ?scv ?sb ?sl ?sh ?s1 ?s3 ?s4 ?s5 ?s6
    case so => exact List.mem_append_left _ ma
    case scm => exact List.mem_append_left _ mb'
    case scd => exact d1
    case scv => exact d2
    case sb => exact fun s h₀ L N => BindsTo.of_defaults rfl (N (Tp, _) (List.mem_append_left _ mc)).1 rfl rfl rfl
    case sl => exact locs rfl
    case s1 => decide
    case s3 => exact rfl
    case s4 => exact rfl
    case s5 => exact rfl
    case s6 => decide
    clear ma mb' mc d1 d2
    intro dp un gd outer A base g L h₁ tk s B F X N T C lt hdp hun
    have C' := C
    obtain ⟨C1, C2, C3, C4⟩ := C
    try dsimp only
    try k_fold
    k_steps
    · exact End.intro _ (by k_asm) (by k_asm) (fun q h => h) (by rw [srch_none ‹_›]; exact ⟨rfl, rfl⟩)
    · refine' lhit_use hL B (by k_asm) X (by k_asm) T C' ?hk1a ?hd1a ?hu1a ?ret1a
      case hk1a => exact rfl
      case hd1a => (first | lia | omega)
      case hu1a => (first | lia | omega)
      intro hl f t' h' tk' F' N' hh hf he
      k_steps
      exact End.intro _ (by k_asm) (by k_asm) (fun q h => h) (by rw [srch_some ‹¬ Txt.find3 cs (Str.ofString ".") _ < 0› (if_pos ‹_›)]; exact ⟨hl, f, t', rfl, hh, hf, he, rfl⟩)
    · refine' lhit_use hL B (by k_asm) X (by k_asm) T C' ?hk1b ?hd1b ?hu1b ?ret1b
      case hk1b => exact rfl
      case hd1b => (first | lia | omega)
      case hu1b => (first | lia | omega)
      intro hl f t' h' tk' F' N' hh hf he
      k_steps
      exact End.intro _ (by k_asm) (by k_asm) (fun q h => h) (by rw [srch_some ‹¬ Txt.find3 cs (Str.ofString ".") _ < 0› (if_neg ‹_›)]; exact ⟨hl, f, t', rfl, hh, hf, he, rfl⟩)
  case sp2 =>
    clear hod N3 F3 hns ho hk B X T lt C' C1 C2 C3 C4 hdp hun e1 e2 l1 l3 l4 l1b l2b
    intro pl ma mb' mc cs tk i ti t hlen hL
    refine' Spec.ofNestD (binds := [(Str.ofString "chars", .str cs tk), (Str.ofString "place", .int i ti)]) ?soB ?scmB ?scdB ?scvB ?sbB ?slB ?shB ?s1B ?s3B ?s4B ?s5B ?s6B
    case soB => exact List.mem_append_left _ ma
    case scmB => exact List.mem_append_left _ mb'
    case scdB => exact d1
    case scvB => exact d2
    case sbB => exact fun s h₀ L N => BindsTo.of_defaults rfl (N (Tp, _) (List.mem_append_left _ mc)).1 rfl rfl rfl
    case slB => exact locs rfl
    case s1B => decide
    case s3B => exact rfl
    case s4B => exact rfl
    case s5B => exact rfl
    case s6B => decide
    clear ma mb' mc d1 d2
    intro dp un gd outer A base g L h₁ tk s B F X N T C lt hdp hun
    have C' := C
    obtain ⟨C1, C2, C3, C4⟩ := C
    try dsimp only
    try k_fold
    k_steps
    · exact End.intro _ (by k_asm) (by k_asm) (fun q h => h) (by rw [srch_none ‹_›]; exact ⟨rfl, rfl⟩)
    · refine' lhit_use hL B (by k_asm) X (by k_asm) T C' ?hk2aB ?hd2aB ?hu2aB ?ret2aB
      case hk2aB => exact rfl
      case hd2aB => (first | lia | omega)
      case hu2aB => (first | lia | omega)
      intro hl f t' h' tk' F' N' hh hf he
      k_steps
      exact End.intro _ (by k_asm) (by k_asm) (fun q h => h) (by rw [srch_some ‹¬ Txt.find3 cs (Str.ofString ".") _ < 0› (if_pos ‹_›)]; exact ⟨hl, f, t', rfl, hh, hf, he, rfl⟩)
    · refine' lhit_use hL B (by k_asm) X (by k_asm) T C' ?hk2bB ?hd2bB ?hu2bB ?ret2bB
      case hk2bB => exact rfl
      case hd2bB => (first | lia | omega)
      case hu2bB => (first | lia | omega)
      intro hl f t' h' tk' F' N' hh hf he
      k_steps
      exact End.intro _ (by k_asm) (by k_asm) (fun q h => h) (by rw [srch_some ‹¬ Txt.find3 cs (Str.ofString ".") _ < 0› (if_neg ‹_›)]; exact ⟨hl, f, t', rfl, hh, hf, he, rfl⟩)
end Mine
namespace Mine
open PySem PySem.W PySem.Spec PySem.Calls PyProof.Rows
example : True := by (w_top off; k_with_none; trivial)
def revRun (cs : Str) (col : Int) : Nat → Int → Int → Option (Int × Int) → Option (Option (Int × Int))
  | 0, _, _, _ => none
  | k + 1, i, j, found =>
    if i < col ∧ j ≤ col then
      match srch cs (if i = j then j + 1 else j) with
      | none => some (some (i, j))
      | some (i2, j2) => revRun cs col k i2 j2 (some (i, j))
    else some found
theorem revRun_succ {cs : Str} {col : Int} {k : Nat} {i j : Int} {found : Option (Int × Int)} : revRun cs col (k + 1) i j found =
    if i < col ∧ j ≤ col then
      match srch cs (if i = j then j + 1 else j) with
      | none => some (some (i, j))
      | some (i2, j2) => revRun cs col k i2 j2 (some (i, j))
    else some found := rfl
def srevRun (cs : Str) (col : Int) (k : Nat) : Option (Option (Int × Int)) :=
  match srch cs 0 with
  | none => some none
  | some (i, j) => revRun cs col k i j none
theorem search_use {w : World} {p : Program} {loose : List Str} {mean : ExcName → Option Value} {mg mb : Str → Option Value} {fs : Addr} {cs' : Str} {i : Int} {vs : List Value} {pl t : Led} (S : Spec w p loose mean mg mb fs 30 200 vs (pl ++ t) (Found w p loose mean mg mb pl t (srch cs' i))) (hf : Full2 t)
    {dp un : Nat} {gd : Option (List Code)} {cn : Str} {cs : Scope} {a : Addr} {ccd : Value} {cl : List (Str × Addr)} {outer : List Env} {A₀ : Around} {base h₀ : Heap} {L : Addr} {m : Str → Option Value} {news : Led} {s : Shared} {Q E : Value → Shared → Prop}
    (B : Below A₀ base outer h₀) (F : Fr h₀ L s.heap m) (X : (hd.heap_39 w.params).In h₀) (N : News h₀ L s.heap news) (T : Top p loose mean mg mb h₀) (C : CodesAt base) (hk : cs.kind = .function) (hd : dp + 30 < recursionLimit) (hu : un + 200 < cLine)
    (sub : ∀ q ∈ pl ++ t, q ∈ news)
    (ret0 : srch cs' i = none → ∀ h' tk', Fr h₀ L h' m → News h₀ L h' news → Q .none { s with heap := h', toks := tk' })
    (ret : ∀ i2 j2, srch cs' i = some (i2, j2) → ∀ hl f h' tk', Fr h₀ L h' m → News h₀ L h' (hl ++ news) → HitL w p loose mean mg mb hl f i2 j2 → Q (.ref f) { s with heap := h', toks := tk' }) :
    wpAny (model PySem.Challenge.rw_ph0106_01.row.prog w) (ktrTop dp un gd cn cs L a ccd cl outer) (call (.ref fs) vs) Q E s := by
  refine Spec.useR (own := pl ++ t) (Post := Found w p loose mean mg mb pl t (srch cs' i)) (S.post fun o r hp => ⟨?_, hp⟩) B F X N T C hk hd hu sub ?_
  · unfold Found at hp
    split at hp
    · rw [hp.2]; exact fun q hq => hq
    · obtain ⟨hl, m, t', _, _, _, e, rfl⟩ := hp
      rw [e hf]
      exact fun q hq => List.mem_append_right _ hq
  · intro r own' h' tk' F' N' _ hp
    unfold Found at hp
    split at hp
    · obtain ⟨rfl, rfl⟩ := hp
      exact ret0 ‹_› h' tk' F' fun q hq => N' q (List.mem_append_right _ hq)
    · obtain ⟨hl, m, t', rfl, hh, _, e, rfl⟩ := hp
      refine ret _ _ ‹_› hl m h' tk' F' (fun q hq => N' q ?_) hh
      rcases List.mem_append.mp hq with hq | hq
      · exact List.mem_append_left _ (List.mem_append_left _ hq)
      · exact List.mem_append_right _ hq
structure RS where
  i : Int
  j : Int
  ti : Tok
  tj : Tok
  mf : Addr
  found : Option (Int × Int)
  fv : Value
  led : Led
  k : Nat
section
variable (w : World) (p : Program) (loose : List Str) (mean : ExcName → Option Value) (mg mb : Str → Option Value)
def FvOk (led : Led) (fv : Value) : Option (Int × Int) → Prop
  | none => fv = .none
  | some (a, b) => ∃ hl m, (∀ q ∈ hl, q ∈ led) ∧ fv = .ref m ∧ HitL w p loose mean mg mb hl m a b
def RSok (pl t' : Led) (c : RS) : Prop := (∀ q ∈ pl ++ t', q ∈ c.led) ∧ (∃ hl, (∀ q ∈ hl, q ∈ c.led) ∧ HitL w p loose mean mg mb hl c.mf c.i c.j) ∧ FvOk w p loose mean mg mb c.led c.fv c.found
def FoundR (pl t : Led) (o : Option (Int × Int)) (own' : Led) (r : Value) : Prop :=
  match o with
  | none => r = .none ∧ ∃ t', own' = pl ++ t' ∧ Tab2 t'
  | some (i, j) => ∃ hl m t', r = .ref m ∧ HitL w p loose mean mg mb hl m i j ∧ Full2 t' ∧ (Full2 t → t' = t) ∧ own' = hl ++ (pl ++ t')
end
theorem lsrev {w : World} {p : Program} {loose : List Str} {mean : ExcName → Option Value} {mg mb : Str → Option Value} (prog : Addr) (cs : Str) (tk : Tok) (col : Int) (tc : Tok) (k : Nat) (res : Option (Int × Int)) (pl t : Led) (hP : ProgL w p loose mean mg mb pl prog) (hlen : cs.length < 1000) (hL : Lone t pl) (hr : srevRun cs col k = some res) :
    Spec w p loose mean mg mb 21 40 300 [.ref prog, .str cs tk, .int col tc] (pl ++ t) (FoundR w p loose mean mg mb pl t res) := by
  k_with_none
  k_with "exec While BoolOp" => (k_here; refine Hold.out ?_)
  k_with "exec While" => (k_here; refine Hold.out ?_)
  k_with "exec While BoolOp cons cons" => (k_here; refine Hold.out ?_)
  k_with "getMethod ref" => (k_here; refine Hold.out ?_)
  k_with "truthy ref" => (k_here; refine Hold.out ?_)
  k_with "call ref" => (k_here; refine Hold.out ?_)
  k_with "callWith ref" => (k_here; refine Hold.out ?_)
  refine' Spec.ofBody (binds := [(Str.ofString "prog", .ref prog), (Str.ofString "chars", .str cs tk), (Str.ofString "col", .int col tc)]) ?ho ?hcd ?hbind ?hloc ?h ?r1 ?r2 ?c2 ?c3 ?c4 ?c5
  case ho => k_is
  case hcd => k_is
  case hbind => exact rfl
  case hloc => exact locs rfl
  case r1 => decide
  case r2 => decide
  case c2 => exact rfl
  case c3 => exact rfl
  case c4 => exact rfl
  case c5 => decide
  intro dp un gd outer A base g L h₁ tk s B F X N T C lt hdp hun
  have C' := C
  obtain ⟨C1, C2, C3, C4⟩ := C
  try dsimp only
  try k_fold
  k_steps
  all_goals try unfold Hold
  obtain ⟨⟨po, d, od, fs, fd, m1, m2, m3, m4, m5, m6, ⟨so, sd, m7, m8⟩, g1, g2⟩⟩ := hP
  refine fn_get FnF.no_search (N (prog, po) (List.mem_append_left _ m1)).1 m2 m3 m4 (m6 _ _ (N (d, od) (List.mem_append_left _ m5)).1) rfl rfl ?_
  try dsimp only
  k_steps
  all_goals try unfold Hold
  refine callWith_def (o := so) m8 ?_
  k_steps
  all_goals try unfold Hold
  · exact (N (fs, so) (List.mem_append_left _ m7)).1
  refine' Spec.use (g1 cs _ t hlen hL) [] B (by k_asm) X (by k_asm) T C' ?hk ?hd ?hu ?sub ?ap ?ret
  case hk => exact rfl
  case hd => (first | lia | omega)
  case hu => (first | lia | omega)
  case sub => intro q hq; simpa using hq
  case ap => exact .nil
  intro r own1 h1 tk1 F1 N1 nw1 P1
  rw [List.append_nil] at N1
  clear F N
  cases e0 : srch cs 0 with
  | none =>
    rw [e0] at P1
    rw [srevRun, e0] at hr
    cases hr
    obtain ⟨rfl, rfl⟩ := P1
    try dsimp only
    k_steps
    all_goals try unfold Hold
    exact End.intro (pl ++ t) (by k_asm) (by k_asm) (fun q h => h) ⟨rfl, t, rfl, hL.elim (fun h => h.1) fun h => h.1⟩
  | some ij =>
    obtain ⟨i, j⟩ := ij
    rw [e0] at P1
    rw [srevRun, e0] at hr
    obtain ⟨hl, f, t', rfl, hh, hf, he, rfl⟩ := P1
    try dsimp only
    k_steps
    all_goals try unfold Hold
    obtain ⟨ho, hd, hod, sp, hfd, n1, n2, n3, n4, n5, n6, ⟨no, nd, n7, n8⟩, ns⟩ := hh.is
    rename_i hq Fq Nq
    refine fn_truthy (Nq (f, ho) (List.mem_append_left _ n1)).1 n2 ?_
    try dsimp only
    k_steps
    all_goals try unfold Hold
    rename_i hq2 Fq2 Nq2
    refine fn_get FnF.no_span (Nq2 (f, ho) (List.mem_append_left _ n1)).1 n2 n3 n4 (n6 _ _ (Nq2 (hd, hod) (List.mem_append_left _ n5)).1) rfl rfl ?_
    try dsimp only
    k_steps
    all_goals try unfold Hold
    refine callWith_meth0 n8 (Nq2 (sp, no) (List.mem_append_left _ n7)).1 ?_
    refine' Spec.useR ns B (by k_asm) X (by k_asm) T C' ?hk2 ?hd2 ?hu2 ?sub2 ?ret2
    case hk2 => exact rfl
    case hd2 => (first | lia | omega)
    case hu2 => (first | lia | omega)
    case sub2 => intro q hq; exact List.mem_append_left _ hq
    rintro r own2 h2 tk2 F2 N2 - ⟨tt, t1, t2, rfl, rfl⟩
    clear Fq2 Nq2
    simp only [List.cons_append] at N2
    try dsimp only
    k_steps
    all_goals try unfold Hold
    rename_i hq3 Fq3 Nq3
    refine' ksw_while (σ := RS) (fun c => c.led) (fun c => [(Str.ofString "found", c.fv), (Str.ofString "m", .ref c.mf), (Str.ofString "i", .int c.i c.ti), (Str.ofString "j", .int c.j c.tj)]) (RSok w p loose mean mg mb pl t') []
      (fun c => revRun cs col c.k c.i c.j c.found = some res) (fun c => c.k) ⟨i, j, t1, t2, f, none, .none, _, k⟩ (by k_asm) (by k_asm) ?facts ?hkn hr ?turn
    case facts => exact ⟨fun q hq => .tail _ (List.mem_append_right _ (List.mem_append_right _ hq)), ⟨hl, fun q hq => .tail _ (List.mem_append_left _ hq), hh⟩, rfl⟩
    case hkn => exact List.forall_mem_cons.mpr ⟨rfl, List.forall_mem_cons.mpr ⟨rfl, List.forall_mem_cons.mpr ⟨rfl, List.forall_mem_cons.mpr ⟨rfl, fun _ h => nomatch h⟩⟩⟩⟩
    case turn =>
      (try clear Fq3); (try clear Nq3); (try clear F1); (try clear N1); (try clear nw1); (try clear F2); (try clear N2); clear n1 n2 n3 n4 n5 n6 n7 n8 ns hh hr e0
      intro c u h tk hF hP F N
      obtain ⟨i, j, ti, tj, mf, found, fv, led, k⟩ := c
      obtain ⟨hin, ⟨hl, hsub, hh⟩, hfv⟩ := hF
      dsimp only [kstB] at *
      try k_fold
      k_steps
      all_goals try unfold Hold
      rotate_left 2
      · obtain ⟨k', rfl⟩ : ∃ k', k = k' + 1 := by
          cases k with
          | zero => cases hP
          | succ k' => exact ⟨k', rfl⟩
        rename ¬ j ≤ col => hj
        rw [revRun_succ, if_neg (fun q => hj q.2)] at hP
        cases hP
        dsimp only
        cases res with
        | none => exact End.intro (pl ++ t') (by k_asm) (by k_asm) hin ⟨hfv, t', rfl, hf.1⟩
        | some ij =>
          obtain ⟨hl', m', hs', e', hh'⟩ := hfv
          exact End.intro (hl' ++ (pl ++ t')) (by k_asm) (by k_asm) (fun q h => (List.mem_append.mp h).elim (hs' q) (hin q)) ⟨hl', m', t', e', hh', hf, he, rfl⟩
      · obtain ⟨k', rfl⟩ : ∃ k', k = k' + 1 := by
          cases k with
          | zero => cases hP
          | succ k' => exact ⟨k', rfl⟩
        rename ¬ i < col => hi
        rw [revRun_succ, if_neg (fun q => hi q.1)] at hP
        cases hP
        dsimp only
        cases res with
        | none => exact End.intro (pl ++ t') (by k_asm) (by k_asm) hin ⟨hfv, t', rfl, hf.1⟩
        | some ij =>
          obtain ⟨hl', m', hs', e', hh'⟩ := hfv
          exact End.intro (hl' ++ (pl ++ t')) (by k_asm) (by k_asm) (fun q h => (List.mem_append.mp h).elim (hs' q) (hin q)) ⟨hl', m', t', e', hh', hf, he, rfl⟩
      all_goals (
        obtain ⟨k', rfl⟩ : ∃ k', k = k' + 1 := by
          cases k with
          | zero => cases hP
          | succ k' => exact ⟨k', rfl⟩
        rename i < col => hi
        rename j ≤ col => hj
        rw [revRun_succ, if_pos ⟨hi, hj⟩] at hP
        first | rw [if_pos ‹i = j›] at hP | rw [if_neg ‹i ≠ j›] at hP
        rename News g L _ led => N4
        refine fn_get FnF.no_search (N4 (prog, po) (hin _ (List.mem_append_left _ m1))).1 m2 m3 m4 (m6 _ _ (N4 (d, od) (hin _ (List.mem_append_left _ m5))).1) rfl rfl ?_
        try dsimp only
        k_steps
        all_goals try unfold Hold
        refine callWith_def (o := so) m8 ?_
        k_steps
        all_goals try unfold Hold
        · exact (N4 (fs, so) (hin _ (List.mem_append_left _ m7))).1
        refine' search_use (g2 cs _ _ _ t' hlen (.inl hf)) hf B (by k_asm) X (by k_asm) T C' (by exact rfl) (by (first | lia | omega)) (by (first | lia | omega)) hin ?_ ?_
        · intro e1 h5 tk5 F5 N5
          rw [e1] at hP
          cases hP
          try dsimp only
          k_steps
          all_goals try unfold Hold
          exact End.intro (hl ++ (pl ++ t')) (by k_asm) (by k_asm) (fun q h => (List.mem_append.mp h).elim (hsub q) (hin q)) ⟨hl, mf, t', rfl, hh, hf, he, rfl⟩
        · intro i2 j2 e1 hl2 f2 h5 tk5 F5 N5 hh2
          rw [e1] at hP
          dsimp only at hP
          clear N4
          try dsimp only
          k_steps
          all_goals try unfold Hold
          obtain ⟨ho2, hd2, hod2, sp2, hfd2, n1, n2, n3, n4, n5, n6, ⟨no, nd, n7, n8⟩, ns⟩ := hh2.is
          rename News g L _ (hl2 ++ led) => N6
          refine fn_truthy (N6 (f2, ho2) (List.mem_append_left _ n1)).1 n2 ?_
          try dsimp only
          k_steps
          all_goals try unfold Hold
          rename News g L _ (hl2 ++ led) => N7
          refine fn_get FnF.no_span (N7 (f2, ho2) (List.mem_append_left _ n1)).1 n2 n3 n4 (n6 _ _ (N7 (hd2, hod2) (List.mem_append_left _ n5)).1) rfl rfl ?_
          try dsimp only
          k_steps
          all_goals try unfold Hold
          refine callWith_meth0 n8 (N7 (sp2, no) (List.mem_append_left _ n7)).1 ?_
          refine' Spec.useR ns B (by k_asm) X (by k_asm) T C' (by exact rfl) (by (first | lia | omega)) (by (first | lia | omega)) (fun q hq => List.mem_append_left _ hq) ?_
          rintro r own6 h6 tk6 F6 N8 - ⟨tt6, t61, t62, rfl, rfl⟩
          (try clear N6); (try clear N7)
          simp only [List.cons_append] at N8
          try dsimp only
          k_steps
          all_goals try unfold Hold
          exact ksw_end ⟨i2, j2, t61, t62, f2, some (i, j), .ref mf, hl2 ++ led, k'⟩ (by k_asm) (by k_asm) (fun q h => .tail _ (List.mem_append_right _ h))
            ⟨fun q hq => List.mem_append_right _ (hin q hq), ⟨hl2, fun q hq => List.mem_append_left _ hq, hh2⟩, ⟨hl, mf, fun q hq => List.mem_append_right _ (hsub q hq), rfl, hh⟩⟩
            (List.forall_mem_cons.mpr ⟨rfl, List.forall_mem_cons.mpr ⟨rfl, List.forall_mem_cons.mpr ⟨rfl, List.forall_mem_cons.mpr ⟨rfl, fun _ h => nomatch h⟩⟩⟩⟩) (by ksw_same) hP (Nat.lt_succ_self _))
end Mine
namespace Mine
open PySem PySem.W PySem.Spec PySem.Calls PyProof.Rows
example : True := by (w_top off; k_with_none; trivial)
/-- a place is marked -/
def setMark (marks : Str) (place : Int) : Str := Txt.slice marks none (some place) ++ Str.ofString "x" ++ Txt.slice marks (some (place + 1)) none
def markAll : Str → List Int → Str
  | m, [] => m
  | m, p :: r => markAll (setMark m p) r
def marksOk : Str → List Int → Bool
  | m, [] => decide (m.length ≤ 100)
  | m, p :: r => decide (m.length ≤ 100) && marksOk (setMark m p) r
def ringsGo {α : Type} (rows cols : Int) (K : Nat) : Nat → Str → Int → List α → Nat → Option (Nat × List α)
  | 0, _, _, cells, n => some (n, cells)
  | k + 1, marks, col, cells, n =>
    if marks.length ≤ 100 then
      match srevRun marks col K with
      | none => none
      | some none => some (n, cells)
      | some (some (i, j)) =>
        match cells[(j - 1).toNat]? with
        | none => none
        | some c0 =>
          let rc := ringGo rows cols (j - 1) cells.length (j - 1) [] c0 cells
          if 1 ≤ j ∧ j - 1 ∈ rc.1 ∧ (∀ a ∈ rc.1, 0 ≤ a ∧ a ≤ j - 1) ∧ Txt.slice (Txt.slice marks none (some i)) (some (-1)) none ≠ Str.ofString "." ∧ marksOk marks rc.1 = true then
            ringsGo rows cols K k (markAll marks rc.1) (j - 1) rc.2 (n + 1)
          else none
    else none
theorem ringsGo_zero {α : Type} {rows cols : Int} {K : Nat} {marks : Str} {col : Int} {cells : List α} {n : Nat} : ringsGo rows cols K 0 marks col cells n = some (n, cells) := rfl
theorem ringsGo_succ {α : Type} {rows cols : Int} {K k : Nat} {marks : Str} {col : Int} {cells : List α} {n : Nat} : ringsGo rows cols K (k + 1) marks col cells n =
    if marks.length ≤ 100 then
      match srevRun marks col K with
      | none => none
      | some none => some (n, cells)
      | some (some (i, j)) =>
        match cells[(j - 1).toNat]? with
        | none => none
        | some c0 =>
          let rc := ringGo rows cols (j - 1) cells.length (j - 1) [] c0 cells
          if 1 ≤ j ∧ j - 1 ∈ rc.1 ∧ (∀ a ∈ rc.1, 0 ≤ a ∧ a ≤ j - 1) ∧ Txt.slice (Txt.slice marks none (some i)) (some (-1)) none ≠ Str.ofString "." ∧ marksOk marks rc.1 = true then
            ringsGo rows cols K k (markAll marks rc.1) (j - 1) rc.2 (n + 1)
          else none
    else none := rfl
local macro_rules | `(tactic| k_all) => `(tactic| assumption)
theorem ringGo_len {α : Type} {rows cols leader : Int} : ∀ (k : Nat) (place : Int) (ring : List Int) (carried : α) (cells : List α), (ringGo rows cols leader k place ring carried cells).2.length = cells.length
  | 0, _, _, _, _ => rfl
  | k + 1, place, ring, carried, cells => by
    rw [ringGo_succ]
    split
    · exact List.length_set
    · rw [ringGo_len k]; exact List.length_set
theorem Apart.all {a b : Led} (h : Apart a b) : ∀ p ∈ a, ∀ q ∈ b, p.1 ≠ q.1 := fun _ hp _ hq => h.ne hp hq
theorem news_sub {h₀ h : Heap} {L : Addr} {a b : Led} (N : News h₀ L h a) (s : ∀ q ∈ b, q ∈ a) : News h₀ L h b := fun q hq => N q (s q hq)
theorem ringsSub {q a b : Addr × Obj} {τ σ : Led} (h : q ∈ a :: b :: τ) : q ∈ a :: b :: (τ ++ σ) := by
  rcases List.mem_cons.mp h with h | h
  · exact h ▸ .head _
  · rcases List.mem_cons.mp h with h | h
    · exact h ▸ .tail _ (.head _)
    · exact .tail _ (.tail _ (List.mem_append_left _ h))
theorem Tab2.mem72 {t : Led} (h : Tab2 t) : ∃ ps, (72, tabObj ps) ∈ t := by
  cases h with
  | e => exact ⟨_, .head _⟩
  | f => exact ⟨_, .head _⟩
theorem ringsSub6 (a b c : Addr × Obj) (τ σ : Led) : ∀ q ∈ a :: b :: c :: (τ ++ σ), q ∈ σ ++ a :: b :: c :: τ := by grind
theorem ringsSub2 (a b c : Addr × Obj) (τ hl pl t : Led) : ∀ q ∈ a :: b :: c :: (τ ++ (hl ++ (pl ++ t))), q ∈ (hl ++ (pl ++ t)) ++ a :: b :: c :: τ := by grind
theorem ringsSub3 (a b c d : Addr × Obj) (τ hl pl t : Led) : ∀ q ∈ a :: b :: c :: d :: (τ ++ (pl ++ t)), q ∈ (a :: hl) ++ b :: c :: d :: (τ ++ (hl ++ (pl ++ t))) := by grind
theorem ringsSub4 (a b c d : Addr × Obj) (τ σ : Led) : ∀ q ∈ (b :: c :: σ) ++ (d :: τ), q ∈ a :: b :: c :: d :: (τ ++ σ) := by grind
theorem ringsSub5 (a b c d : Addr × Obj) (τ σ : Led) : ∀ q ∈ a :: b :: c :: d :: (τ ++ σ), q ∈ (a :: d :: τ) ++ (b :: c :: σ) := by grind
theorem lrings {w : World} {p : Program} {loose : List Str} {mean : ExcName → Option Value} {mg mb : Str → Option Value} (rows cols : Int) (tr tc : Tok) (d : Dims rows cols) (D : Nat) (cs : List Value) (ep : Nat) (τ : Led) (hT : Tau τ) (hDτ : ∀ q ∈ τ, q.1 ≠ D)
    (h72 : ∀ q ∈ τ, @Ne Nat q.1 72) (h79 : ∀ q ∈ τ, @Ne Nat q.1 79) (hD1 : D ≠ 72) (hD2 : D ≠ 79) (hlen : (cs.length : Int) = rows * cols) (K n : Nat) (cs' : List Value)
    (hrun : ringsGo rows cols K cs.length (Txt.mul (Str.ofString ".") cs.length ++ Str.ofString "x.") cs.length cs 0 = some (n, cs')) :
    Spec w p loose mean mg mb 105 130 900 [.ref D, .int rows tr, .int cols tc] ((D, W.listOf cs.toArray ep) :: (72, tabObj #[]) :: (79, tabObj #[]) :: τ)
      (fun own' r => ∃ (R : Nat) (rs : List Value) (ep' : Nat) (τ' ρ : Led), r = .ref R ∧ rs.length = n ∧ Tau τ' ∧ Apart τ' ((R, W.listOf rs.toArray ep') :: (D, W.listOf cs'.toArray ep) :: ρ) ∧ (∃ ps, (72, tabObj ps) ∈ ρ) ∧ (∃ ps, (79, tabObj ps) ∈ ρ) ∧
        own' = (R, W.listOf rs.toArray ep') :: (D, W.listOf cs'.toArray ep) :: (τ' ++ ρ)) := by
  k_with_none
  k_with "getMethod ref" => (k_here; (with_reducible show wpAny _ _ (getMethod (Value.ref _) (PySem.Str.ofString "span") _) _ _ _); refine Hold.out ?_)
  k_with "subscriptTail Name Slice str ref" => ((with_reducible show wpAny _ _ (subscriptTail _ (Expr.Slice none (some _) none _) (Value.str _ _) (Value.ref _)) _ _ _); (with_reducible rename Fr _ _ _ _ => F'); (with_reducible rename News _ _ _ _ => N'); (refine slice_strN_ns_len (hsz := (by (simp only [PySem.sizeLine_eq]; (first | lia | omega)))) (s := ⟨_, _, _, _, _⟩) F' N' ?_); clear F' N'; intro _ _ _ _ _ _)
  k_with "subscriptTail Name Slice str ref" => ((with_reducible show wpAny _ _ (subscriptTail _ (Expr.Slice (some _) none none _) (Value.str _ _) (Value.ref _)) _ _ _); (with_reducible rename Fr _ _ _ _ => F'); (with_reducible rename News _ _ _ _ => N'); (refine slice_strN_sn_len (hsz := (by (simp only [PySem.sizeLine_eq]; (first | lia | omega)))) (s := ⟨_, _, _, _, _⟩) F' N' ?_); clear F' N'; intro _ _ _ _ _ _)
  k_with "truthy ref" => (k_here; refine Hold.out ?_)
  k_with "call ref" => (k_here; refine Hold.out ?_)
  k_with "call builtin:len" => (k_here; (with_reducible show wpAny _ _ (call (Value.builtin "len") [Value.ref _]) _ _ _); k_dflt (refine' kst_len (by k_asm) (by k_mem) rfl (by (first | lia | omega)) ?_))
  k_with "pyIter ref" => (k_here; refine Hold.out ?_)
  k_with "call builtin:list.append" => (k_here; (with_reducible show wpAny _ _ (call (Value.builtin _) [Value.ref _, _]) _ _ _); k_dflt (refine' appL (by k_asm) (by k_asm) (by k_upd) (by (simp only [PySem.sizeLine_eq]; (first | lia | omega))) ?_); intro _ _ _; (try k_sweep))
  k_with "exec For Name Name cons nil" => (k_here; (rename Fr _ _ _ _ => lF'); (with_unfolding_all refine' For_invVF lF' (by exact rfl) (by exact rfl) ?_))
  k_with "newList" => (k_here; k_dflt (refine' newList_K (by k_asm) (by k_asm) ?_ (by exact Nat.le_of_ble_eq_true rfl)); intro _ _ _ _ l1; (try k_lt l1); (revert l1; intro _); (try k_sweep))
  k_with "binaryOp Add str str" => (k_here; (with_reducible show wpAny _ _ (binaryOp Operator.Add (Value.str _ _) (Value.str _ _)) _ _ _); (refine' KXadd.add (K := 400) (L := 400) (by (first | lia | omega)) (by (first | lia | omega)) (by exact Nat.le_of_ble_eq_true rfl) ?_); intro _ _ _)
  have hl20 : cs.length ≤ 20 := by
    have := Int.mul_le_mul d.r1 d.c1 (by have := d.c0; (first | lia | omega)) (by decide : (0 : Int) ≤ 4)
    (first | lia | omega)
  refine' Spec.ofBody (binds := [(Str.ofString "cells", .ref D), (Str.ofString "rows", .int rows tr), (Str.ofString "cols", .int cols tc)]) ?ho ?hcd ?hbind ?hloc ?h ?r1 ?r2 ?c2 ?c3 ?c4 ?c5
  case ho => k_is
  case hcd => k_is
  case hbind => exact rfl
  case hloc => exact locs rfl
  case r1 => decide
  case r2 => decide
  case c2 => exact rfl
  case c3 => exact rfl
  case c4 => exact rfl
  case c5 => decide
  intro dp un gd outer A base g L h₁ tk s B F X N T C lt hdp hun
  have C' := C
  obtain ⟨C1, C2, C3, C4⟩ := C
  have hDr := d.r0
  have hDr1 := d.r1
  have hDc := d.c0
  have hDc1 := d.c1
  k_lt lt
  try dsimp only
  try k_fold
  k_steps
  all_goals try unfold Hold
  rename_i tkL RL hA l1 tup hB l2 hC hD hE t1 k1 z1 z2 t2 k2 z3 hF F1 N1
  have hm20 : (Txt.mul (Str.ofString ".") cs.length ++ Str.ofString "x.").length ≤ 100 := by
    have e1 : (Str.ofString "x.").length = 2 := by decide +kernel
    have := z2 (by (first | lia | omega))
    (first | lia | omega)
  have hRD := l1.1
  have hR72 := l1.2.1
  have hR79 := l1.2.2.1
  have hRτ : ∀ q ∈ τ, q.1 ≠ RL := fun q hq => Nat.ne_of_lt (kst_ltOf l1.2.2.2 q hq)
  replace N1 : News g L hF ((RL, W.listOf #[] 0) :: (D, W.listOf cs.toArray ep) :: (72, tabObj #[]) :: (79, tabObj #[]) :: τ) := fun q hq => N1 q (.tail _ hq)
  refine Spec.useC lprog ((RL, W.listOf #[] 0) :: (D, W.listOf cs.toArray ep) :: (72, tabObj #[]) :: τ) B (by k_asm) X (news_sub N1 (by grind)) T C' (by exact rfl) (by (first | lia | omega)) (by (first | lia | omega)) ?_ ?_
  · refine .of fun q hq q' hq' => ?_
    rw [List.mem_singleton.mp hq]
    simp only [List.mem_cons] at hq'
    rcases hq' with rfl | rfl | rfl | h
    · exact Nat.ne_of_lt hR79
    · exact fun e => hD2 e.symm
    · exact (by decide : (79 : Nat) ≠ 72)
    · exact (h79 _ h).symm
  intro r pl hG tkG F2 N2 ap2 P2
  obtain ⟨prog, rfl, hP, p79, h79p⟩ := P2
  have ap3 := ap2.all
  replace N2 : News g L hG ((RL, W.listOf #[] 0) :: (D, W.listOf cs.toArray ep) :: (τ ++ (pl ++ [(72, tabObj #[])]))) := news_sub N2 (by grind)
  clear F1 N1
  try dsimp only
  k_steps
  all_goals try unfold Hold
  rename_i tkR h7 F7 N7 hR tkR2 u1 u2 u3 hrange FF NN hkeep
  have hr20 := rng20 cs.length (by (first | lia | omega))
  refine' iter_rangeUnr (n := cs.length) rfl hrange hr20.1 hr20.2 FF NN (fun I hI => ?rest)
  have hI2 : ∀ q ∈ (RL, W.listOf #[] 0) :: (D, W.listOf cs.toArray ep) :: (τ ++ (pl ++ [(72, tabObj #[])])), q.1 ≠ I := fun q hq => Nat.ne_of_lt (hI q hq)
  have hIR := ltN (hI _ (.head _))
  have hID := ltN (hI _ (.tail _ (.head _)))
  dsimp only at hIR hID
  let Inv : Nat → (Str → Option Value) → Led → Prop := fun i m news => ∃ (col : Int) (tcol : Tok) (marks : Str) (tm : Tok) (rvs : List Value) (epr : Nat) (cl : List Value) (τ' t : Led),
    Knows m [(Str.ofString "cells", .ref D), (Str.ofString "rows", .int rows tr), (Str.ofString "cols", .int cols tc), (Str.ofString "rings", .ref RL), (Str.ofString "col", .int col tcol), (Str.ofString "marks", .str marks tm), (Str.ofString "prog", .ref prog)] ∧
    news = (RL, W.listOf rvs.toArray epr) :: (D, W.listOf cl.toArray ep) :: (τ' ++ (pl ++ t)) ∧ Tau τ' ∧ Lone t pl ∧ (∀ q ∈ τ', q.1 ≠ D) ∧ (∀ q ∈ pl ++ t, q.1 ≠ D) ∧ (∀ q ∈ τ' ++ (pl ++ t), q.1 ≠ RL) ∧ (∀ q ∈ τ' ++ (pl ++ t), q.1 ≠ I) ∧ Apart τ' (pl ++ t) ∧
    cl.length = cs.length ∧ rvs.length ≤ i ∧ ringsGo rows cols K (cs.length - i) marks col cl rvs.length = some (n, cs')
  refine' range_loop Inv ?turn ?done cs.length 0 (by (first | lia | omega)) _ _ ?start
  case start =>
    refine ⟨cs.length, _, _, _, [], 0, cs, τ, [(72, tabObj #[])], ⟨rfl, rfl, rfl, rfl, rfl, rfl, rfl, trivial⟩, rfl, hT, .inr ⟨.e, .of ?_⟩, hDτ, ?_, ?_, ?_, .of ?_, rfl, Nat.le_refl _, hrun⟩
    · intro q hq q' hq'
      rw [List.mem_singleton.mp hq]
      exact (ap3 q' hq' _ (.tail _ (.tail _ (.head _)))).symm
    · intro q hq
      rcases List.mem_append.mp hq with h | h
      · exact ap3 q h _ (.tail _ (.head _))
      · rw [List.mem_singleton.mp h]; exact fun e => hD1 e.symm
    · intro q hq
      rcases List.mem_append.mp hq with h | hq
      · exact hRτ q h
      · rcases List.mem_append.mp hq with h | h
        · exact ap3 q h _ (.head _)
        · rw [List.mem_singleton.mp h]; exact Nat.ne_of_lt hR72
    · exact fun q hq => hI2 q (.tail _ (.tail _ hq))
    · intro q hq q' hq'
      rcases List.mem_append.mp hq' with h | h
      · exact (ap3 q' h q (.tail _ (.tail _ (.tail _ hq)))).symm
      · rw [List.mem_singleton.mp h]; exact h72 q hq
  case turn =>
    intro i t m news h tk hi hI' F N
    obtain ⟨col, tcol, marks, tm, rvs, epr, cl, τ', t72, hK, hnews, hT', hL, qD1, qD2, qR, qI, qA, hcl, hrl, hgo⟩ := hI'
    subst hnews
    have F2 := (hK.with (x := Str.ofString "turn") (v := .int (0 + (i : Int)) t) rfl).fr F
    dsimp only [kstB] at F2
    clear F
    try dsimp only
    try k_fold
    k_steps
    all_goals try unfold Hold
    clear F7 N7 FF NN hkeep
    rw [show cs.length - i = (cs.length - (i + 1)) + 1 by (first | lia | omega), ringsGo_succ] at hgo
    have hml : marks.length ≤ 100 := by
      rcases Nat.lt_or_ge 100 marks.length with h | h
      · rw [if_neg (by (first | lia | omega))] at hgo; cases hgo
      · exact h
    rw [if_pos hml] at hgo
    have apQ : Apart (pl ++ t72) ((I, itR (0 + ((i + 1 : Nat) : Int)) ((cs.length : Int) - ((i + 1 : Nat) : Int))) :: (RL, W.listOf rvs.toArray epr) :: (D, W.listOf cl.toArray ep) :: τ') :=
      .put (fun q hq => qI q (List.mem_append_right _ hq)) (.put (fun q hq => qR q (List.mem_append_right _ hq)) (.put qD2 qA.symm))
    cases e0 : srevRun marks col K with
    | none => rw [e0] at hgo; cases hgo
    | some res =>
      rw [e0] at hgo
      refine Spec.useC (lsrev prog marks tm col tcol K res pl t72 hP (by (first | lia | omega)) hL e0) _ B (by k_asm) X (show News _ _ _ (_ :: _ :: _ :: τ' ++ (pl ++ t72)) from N) T C' (by exact rfl) (by (first | lia | omega)) (by (first | lia | omega)) apQ ?_
      intro r own1 h1 tk1 F1 N1 ap1 P1
      cases res with
      | none =>
        obtain ⟨rfl, t', rfl, hTb⟩ := P1
        cases hgo
        replace N1 := news_sub (b := (I, itR (0 + ((i + 1 : Nat) : Int)) ((cs.length : Int) - ((i + 1 : Nat) : Int))) :: (RL, W.listOf rvs.toArray epr) :: (D, W.listOf cs'.toArray ep) :: (τ' ++ (pl ++ t'))) N1 (ringsSub6 _ _ _ _ _)
        try dsimp only
        k_steps
        all_goals try unfold Hold
        refine TurnPost.brk ?_
        dsimp only
        k_steps
        all_goals try unfold Hold
        exact End.intro ((RL, W.listOf rvs.toArray epr) :: (D, W.listOf cs'.toArray ep) :: (τ' ++ (pl ++ t'))) (by k_asm) (by k_asm) (fun q h => .tail _ h) ⟨RL, rvs, epr, τ', pl ++ t', rfl, rfl, hT', .put (fun q h => qR q (List.mem_append_left _ h)) (.put qD1 ap1.tl.tl.tl.symm), hTb.mem72.imp fun _ h => List.mem_append_right _ h, ⟨p79, List.mem_append_left _ h79p⟩, rfl⟩
      | some ij =>
        obtain ⟨i2, j2⟩ := ij
        obtain ⟨hl, f, t', rfl, hh, hf, he, rfl⟩ := P1
        dsimp only at hgo
        cases e1 : cl[(j2 - 1).toNat]? with
        | none => rw [e1] at hgo; cases hgo
        | some c0 =>
          rw [e1] at hgo
          dsimp only at hgo
          split at hgo
          case isFalse => cases hgo
          case isTrue hc =>
            obtain ⟨hj1, hjm, hja, hjs, hjk⟩ := hc
            replace N1 := news_sub (b := (I, itR (0 + ((i + 1 : Nat) : Int)) ((cs.length : Int) - ((i + 1 : Nat) : Int))) :: (RL, W.listOf rvs.toArray epr) :: (D, W.listOf cl.toArray ep) :: (τ' ++ (hl ++ (pl ++ t')))) N1 (ringsSub2 _ _ _ _ _ _ _)
            have apI := ap1.hd
            have apR := ap1.tl.hd
            have apD := ap1.tl.tl.hd
            have apT := ap1.tl.tl.tl
            try dsimp only
            k_steps
            all_goals try unfold Hold
            obtain ⟨ho2, hd2, hod2, sp2, hfd2, n1, n2, n3, n4, n5, n6, ⟨no, nd, n7, n8⟩, ns⟩ := hh.is
            have inH : ∀ (it rl dd : Addr × Obj) (q : Addr × Obj), q ∈ hl → q ∈ it :: rl :: dd :: (τ' ++ (hl ++ (pl ++ t'))) := fun it rl dd q hq => .tail _ (.tail _ (.tail _ (List.mem_append_right _ (List.mem_append_left _ hq))))
            rename_i h5 F5 N5
            refine fn_get FnF.no_span (N5 (f, ho2) (inH _ _ _ _ n1)).1 n2 n3 n4 (n6 _ _ (N5 (hd2, hod2) (inH _ _ _ _ n5)).1) rfl rfl ?_
            try dsimp only
            k_steps
            all_goals try unfold Hold
            refine callWith_meth0 n8 (N5 (sp2, no) (inH _ _ _ _ n7)).1 ?_
            refine Spec.useR ns B (by k_asm) X (by k_asm) T C' (by exact rfl) (by (first | lia | omega)) (by (first | lia | omega)) (fun q hq => inH _ _ _ q hq) ?_
            rintro r own6 h6 tk6 F6 N6 - ⟨tt6, t61, t62, rfl, rfl⟩
            replace N6 := news_sub (b := (tt6, tupO [.int i2 t61, .int j2 t62]) :: (I, itR (0 + ((i + 1 : Nat) : Int)) ((cs.length : Int) - ((i + 1 : Nat) : Int))) :: (RL, W.listOf rvs.toArray epr) :: (D, W.listOf cl.toArray ep) :: (τ' ++ (pl ++ t'))) N6 (ringsSub3 _ _ _ _ _ _ _ _)
            clear F5 N5
            try dsimp only
            k_steps
            all_goals try unfold Hold
            have hjl : j2 - 1 < cl.length := by
              have := (List.getElem?_eq_some_iff.mp e1).1
              (first | lia | omega)
            have qD1' : ∀ q ∈ pl ++ t', q.1 ≠ D := fun q hq => apD q (List.mem_append_right _ hq)
            have qR1 : ∀ q ∈ pl ++ t', q.1 ≠ RL := fun q hq => apR q (List.mem_append_right _ hq)
            have qI1 : ∀ q ∈ pl ++ t', q.1 ≠ I := fun q hq => apI q (List.mem_append_right _ hq)
            have apRing : Apart ((D, W.listOf cl.toArray ep) :: τ') ((I, itR (0 + ((i + 1 : Nat) : Int)) ((cs.length : Int) - ((i + 1 : Nat) : Int))) :: (RL, W.listOf rvs.toArray epr) :: (pl ++ t')) := by
              refine .of fun q hq q' hq' => ?_
              rcases List.mem_cons.mp hq with rfl | hq
              · rcases List.mem_cons.mp hq' with rfl | hq'
                · exact Nat.ne_of_lt hID
                · rcases List.mem_cons.mp hq' with rfl | hq'
                  · exact Nat.ne_of_lt hRD
                  · exact (qD1' q' hq').symm
              · rcases List.mem_cons.mp hq' with rfl | hq'
                · exact qI q (List.mem_append_left _ hq)
                · rcases List.mem_cons.mp hq' with rfl | hq'
                  · exact qR q (List.mem_append_left _ hq)
                  · exact (apT.ne (List.mem_append_right _ hq') hq).symm
            rename_i h7 F7 N7
            refine Spec.useC (lring rows cols (j2 - 1) _ tr tc d D cl ep τ' hT' qD1 (by (first | lia | omega)) (by (first | lia | omega)) hjl) _ B (by k_asm) X (news_sub N7 (ringsSub4 _ _ _ _ _ _)) T C' (by exact rfl) (by (first | lia | omega)) (by (first | lia | omega)) apRing ?_
            intro r own8 h8 tk8 F8 N8 ap8 P8
            obtain ⟨R, rs, epR, τ2, c0', rfl, ec0, hrs, hT2, sD, sR, hRneD, rfl⟩ := P8
            rw [e1] at ec0
            cases ec0
            generalize hring : (ringGo rows cols (j2 - 1) cl.length (j2 - 1) [] c0 cl).1 = ring at hrs hjm hja hjk hgo
            have hcl2 : (ringGo rows cols (j2 - 1) cl.length (j2 - 1) [] c0 cl).2.length = cl.length := ringGo_len _ _ _ _ _
            generalize (ringGo rows cols (j2 - 1) cl.length (j2 - 1) [] c0 cl).2 = cl2 at hcl2 hgo N8 ap8
            have aI := ap8.hd
            have aR := ap8.tl.hd
            have aP := ap8.tl.tl
            have nIR := neN (aI _ (.head _))
            have nRR := neN (aR _ (.head _))
            dsimp only at nIR nRR
            have sI : ∀ q ∈ τ2 ++ (pl ++ t'), q.1 ≠ I := fun q hq => (List.mem_append.mp hq).elim (fun h => aI q (.tail _ (.tail _ h))) (qI1 q)
            have sRL : ∀ q ∈ τ2 ++ (pl ++ t'), q.1 ≠ RL := fun q hq => (List.mem_append.mp hq).elim (fun h => aR q (.tail _ (.tail _ h))) (qR1 q)
            have sPT : Apart τ2 (pl ++ t') := .of fun q hq q' hq' => aP.ne (.tail _ (.tail _ hq)) hq'
            have sRR : ∀ q ∈ τ2 ++ (pl ++ t'), q.1 ≠ R := fun q hq => (List.mem_append.mp hq).elim (sR q) fun h => (aP.ne (.head _) h).symm
            have sDD : ∀ q ∈ τ2 ++ (pl ++ t'), q.1 ≠ D := fun q hq => (List.mem_append.mp hq).elim (sD q) (qD1' q)
            have hrpos : 0 < ring.length := List.length_pos_of_mem hjm
            replace N8 := news_sub (b := (R, W.listOf rs.toArray epR) :: (I, itR (0 + ((i + 1 : Nat) : Int)) ((cs.length : Int) - ((i + 1 : Nat) : Int))) :: (RL, W.listOf rvs.toArray epr) :: (D, W.listOf cl2.toArray ep) :: (τ2 ++ (pl ++ t'))) N8 (ringsSub5 _ _ _ _ _ _)
            clear F7 N7
            try dsimp only
            k_steps
            all_goals try unfold Hold
            · exfalso
              have e : ring = [] := of_decide_eq_true ‹_›
              rw [e] at hrpos; exact absurd hrpos (Nat.lt_irrefl _)
            · rename_i M' _ _ hM1 hM2 hM3 _ _ _ _ _
              exfalso
              have e2 := (hja _ hM1).2
              have e3 := hM2 _ hjm
              (first | lia | omega)
            · exfalso
              exact hjs (eq_of_beq ‹_›)
            rename_i tk9 h9 N9
            have F9 := lF'
            clear lF'
            replace N9 := news_sub (b := (R, W.listOf rs.toArray epR) :: (I, itR (0 + ((i + 1 : Nat) : Int)) ((cs.length : Int) - ((i + 1 : Nat) : Int))) :: (RL, W.listOf (rvs ++ [Value.ref R]).toArray (epr + 1)) :: (D, W.listOf cl2.toArray ep) :: (τ2 ++ (pl ++ t'))) N9 (fun q h => .tail _ h)
            have hx1 : (Str.ofString "x").length = 1 := by decide +kernel
            refine' iter_listUnr (ax := R) (lo := W.listOf rs.toArray epR) (n := epR) rfl F9 N9 (.head _) rfl rfl (fun J hJ => ?rest2)
            let Inv2 : List Int → (Str → Option Value) → Led → Prop := fun ds m news => ∃ (mk : Str) (tm2 tc2 : Tok),
              Knows m [(Str.ofString "cells", .ref D), (Str.ofString "rows", .int rows tr), (Str.ofString "cols", .int cols tc), (Str.ofString "rings", .ref RL), (Str.ofString "col", .int (j2 - 1) tc2), (Str.ofString "marks", .str mk tm2), (Str.ofString "prog", .ref prog)] ∧
              news = (R, W.listOf rs.toArray epR) :: (I, itR (0 + ((i + 1 : Nat) : Int)) ((cs.length : Int) - ((i + 1 : Nat) : Int))) :: (RL, W.listOf (rvs ++ [Value.ref R]).toArray (epr + 1)) :: (D, W.listOf cl2.toArray ep) :: (τ2 ++ (pl ++ t')) ∧
              markAll mk ds = markAll marks ring ∧ marksOk mk ds = true ∧ (∀ a ∈ ds, 0 ≤ a ∧ a ≤ j2 - 1)
            refine' list_loop Inv2 ?turn2 ?done2 hrs _ _ ?start2
            case start2 => exact ⟨marks, tm, _, ⟨rfl, rfl, rfl, rfl, rfl, rfl, rfl, trivial⟩, rfl, rfl, hjk, hja⟩
            case turn2 =>
              intro pp ds tp m news it h tk hI2' hc2 F N
              obtain ⟨mk, tm2, tc2, hK2, hnews, hma, hmo, hds⟩ := hI2'
              subst hnews
              have F2 := (hK2.with (x := Str.ofString "place") (v := .int pp tp) rfl).fr F
              dsimp only [kstB] at F2
              clear F
              rw [marksOk, Bool.and_eq_true, decide_eq_true_eq] at hmo
              obtain ⟨hmo1, hmo2⟩ := hmo
              have hp := hds pp (.head _)
              try dsimp only
              try k_fold
              k_steps
              refine TurnPost.next (by k_asm) (by k_asm) ((R, W.listOf rs.toArray epR) :: (I, itR (0 + ((i + 1 : Nat) : Int)) ((cs.length : Int) - ((i + 1 : Nat) : Int))) :: (RL, W.listOf (rvs ++ [Value.ref R]).toArray (epr + 1)) :: (D, W.listOf cl2.toArray ep) :: (τ2 ++ (pl ++ t'))) (fun p hp => hp) (fun q hq => Nat.ne_of_lt (hJ q hq)) ⟨.head _, ?_⟩
              exact ⟨setMark mk pp, _, tc2, ⟨rfl, rfl, rfl, rfl, rfl, rfl, rfl, trivial⟩, rfl, hma, hmo2, fun x hx => hds x (.tail _ hx)⟩
            case done2 =>
              intro m news h tk hI2' F N
              obtain ⟨mk, tm2, tc2, hK2, hnews, hma, hmo, hds⟩ := hI2'
              subst hnews
              dsimp only
              k_steps
              refine TurnPost.next (by k_asm) (by k_asm) ((RL, W.listOf (rvs ++ [Value.ref R]).toArray (epr + 1)) :: (D, W.listOf cl2.toArray ep) :: (τ2 ++ (pl ++ t'))) (fun p hp => .tail _ hp) ?_ ?_
              · exact List.forall_mem_cons.mpr ⟨Nat.ne_of_lt hIR, List.forall_mem_cons.mpr ⟨Nat.ne_of_lt hID, sI⟩⟩
              · have hma' : mk = markAll marks ring := hma
                refine ⟨j2 - 1, tc2, markAll marks ring, tm2, rvs ++ [Value.ref R], epr + 1, cl2, τ2, t', ?_, rfl, hT2, .inl hf, sD, qD1', sRL, sI, sPT, hcl2.trans hcl, ?_, ?_⟩
                · rw [← hma']; exact hK2
                · simp only [List.length_append, List.length_cons, List.length_nil]; (first | lia | omega)
                · simp only [List.length_append, List.length_cons, List.length_nil]; exact hgo
  case done =>
    intro m news h tk hI' F N
    obtain ⟨col, tcol, marks, tm, rvs, epr, cl, τ', t72, hK, hnews, hT', hL, qD1, qD2, qR, qI, qA, hcl, hrl, hgo⟩ := hI'
    subst hnews
    have F2 := hK.fr F
    dsimp only [kstB] at F2
    clear F
    k_steps
    dsimp only
    k_steps
    rw [Nat.sub_self, ringsGo_zero] at hgo
    cases hgo
    refine End.intro ((RL, W.listOf rvs.toArray epr) :: (D, W.listOf cs'.toArray ep) :: (τ' ++ (pl ++ t72))) (by k_asm) (by k_asm) (fun q h => h) ⟨RL, rvs, epr, τ', pl ++ t72, rfl, rfl, hT', .put (fun q h => qR q (List.mem_append_left _ h)) (.put qD1 qA), (hL.elim (fun h => h.1) fun h => h.1).mem72.imp fun _ h => List.mem_append_right _ h, ⟨p79, List.mem_append_left _ h79p⟩, rfl⟩
end Mine
namespace Mine
open PySem PySem.W PySem.Spec PySem.Calls PyProof.Rows
/-- items that are texts, place by place -/
def SR (vs : List Value) (ds : List Str) : Prop := vs.length = ds.length ∧ ∀ (k : Nat) (v : Value) (d : Str), vs[k]? = some v → ds[k]? = some d → ∃ t, v = .str d t
theorem SR.set {vs : List Value} {ds : List Str} (h : SR vs ds) (k : Nat) {v : Value} {d : Str} (hv : ∃ t, v = .str d t) : SR (vs.set k v) (ds.set k d) := by
  refine ⟨by rw [List.length_set, List.length_set]; exact h.1, fun j w e hw he => ?_⟩
  rw [List.getElem?_set] at hw he
  by_cases hk : k = j
  · subst hk
    rw [if_pos rfl] at hw he
    by_cases hl : k < vs.length
    · rw [if_pos hl] at hw
      rw [if_pos (h.1 ▸ hl)] at he
      cases hw; cases he
      exact hv
    · rw [if_neg hl] at hw; cases hw
  · rw [if_neg hk] at hw he
    exact h.2 j w e hw he
theorem SR.getD {vs : List Value} {ds : List Str} (h : SR vs ds) (k : Nat) {v : Value} {d : Str} (hv : ∃ t, v = .str d t) : ∃ t, vs.getD k v = .str (ds.getD k d) t := by
  rw [List.getD_eq_getElem?_getD, List.getD_eq_getElem?_getD]
  by_cases hl : k < vs.length
  · have hl2 : k < ds.length := h.1 ▸ hl
    have e1 := List.getElem?_eq_getElem hl
    have e2 := List.getElem?_eq_getElem hl2
    rw [e1, e2]
    exact h.2 k _ _ e1 e2
  · rw [List.getElem?_eq_none (by omega), List.getElem?_eq_none (by rw [← h.1]; omega)]
    exact hv
theorem ringGo_rel {rows cols leader : Int} : ∀ (k : Nat) (place : Int) (ring : List Int) {c : Value} {d : Str} {cells : List Value} {ds : List Str}, SR cells ds → (∃ t, c = .str d t) →
    (ringGo rows cols leader k place ring c cells).1 = (ringGo rows cols leader k place ring d ds).1 ∧ SR (ringGo rows cols leader k place ring c cells).2 (ringGo rows cols leader k place ring d ds).2
  | 0, _, _, _, _, _, _, h, _ => ⟨rfl, h⟩
  | k + 1, place, ring, c, d, cells, ds, h, hc => by
    rw [ringGo_succ, ringGo_succ]
    split
    · exact ⟨rfl, h.set _ hc⟩
    · exact ringGo_rel k _ _ (h.set _ hc) (h.getD _ hc)
theorem ringsGo_rel {rows cols : Int} {K : Nat} : ∀ (k : Nat) (marks : Str) (col : Int) {cells : List Value} {ds : List Str} (n : Nat) {m : Nat} {ds' : List Str}, SR cells ds → ringsGo rows cols K k marks col ds n = some (m, ds') →
    ∃ cs', ringsGo rows cols K k marks col cells n = some (m, cs') ∧ SR cs' ds'
  | 0, marks, col, cells, ds, n, m, ds', h, e => by
    rw [ringsGo_zero] at e ⊢
    cases e
    exact ⟨cells, rfl, h⟩
  | k + 1, marks, col, cells, ds, n, m, ds', h, e => by
    rw [ringsGo_succ] at e ⊢
    by_cases hm : marks.length ≤ 100
    · rw [if_pos hm] at e ⊢
      cases e0 : srevRun marks col K with
      | none => rw [e0] at e; cases e
      | some res =>
        rw [e0] at e
        cases res with
        | none => cases e; exact ⟨cells, rfl, h⟩
        | some ij =>
          obtain ⟨i, j⟩ := ij
          dsimp only at e ⊢
          cases e1 : ds[(j - 1).toNat]? with
          | none => rw [e1] at e; cases e
          | some d0 =>
            rw [e1] at e
            have hl : (j - 1).toNat < cells.length := by rw [h.1]; exact (List.getElem?_eq_some_iff.mp e1).1
            have e2 := List.getElem?_eq_getElem hl
            rw [e2]
            have hc := h.2 _ _ _ e2 e1
            have r := ringGo_rel (rows := rows) (cols := cols) (leader := j - 1) cells.length (j - 1) [] h hc
            rw [h.1] at r
            dsimp only at e ⊢
            rw [h.1, r.1]
            split at e
            case isFalse => cases e
            case isTrue hcond =>
              rw [if_pos hcond]
              exact ringsGo_rel k _ _ (n + 1) r.2 e
    · rw [if_neg hm] at e; cases e
theorem SR.strs : ∀ {vs : List Value} {ds : List Str}, SR vs ds → StrsAre vs ds
  | [], [], _ => .nil
  | [], d :: ds, h => by have := h.1; simp at this
  | v :: vs, [], h => by have := h.1; simp at this
  | v :: vs, d :: ds, h => by
    obtain ⟨t, rfl⟩ := h.2 0 v d rfl rfl
    refine .cons d t (SR.strs ⟨by simpa using h.1, fun k w e hw he => h.2 (k + 1) w e (by simpa using hw) (by simpa using he)⟩)
/-- the powers of the rows -/
def burn (last rows : Int) : Nat → Int → Int → Int → Option (Int × Int)
  | 0, _, _, _ => none
  | k + 1, power, count, meas =>
    if 1 ≤ power ∧ power ≤ 64 ∧ 0 ≤ count ∧ count ≤ 64 ∧ 0 ≤ meas ∧ meas ≤ 1000 then
      if count < last ∧ (power > 1 ∨ count = 0) then burn last rows k ((power * rows) % last) (count + 1) (meas + (Nat.gcd last.toNat (power - 1).toNat : Nat))
      else some (count, meas)
    else none
def dots (n : Nat) : Str := Txt.mul (Str.ofString ".") n ++ Str.ofString "x."
def sgn (n : Int) : Str := Txt.slice (Str.ofString "abcdefghijklmnopqrst") none (some n)
end Mine
namespace Mine
open PySem PySem.W PySem.Spec PySem.Calls PyProof.Rows
example : True := by (w_top off; k_with_none; trivial)
def Mark : Prop := True
theorem Tau.recs {τ : Led} (h : Tau τ) : Recs τ := by
  obtain ⟨t1, t2, h1, h2, _, rfl⟩ := h
  exact h1.recs.append h2.recs
theorem Tau.ne_tup {τ news : Led} {h₀ h : Heap} {L t : Addr} {l : List Value} (hT : Tau τ) (N : News h₀ L h news) (ht : (t, tupO l) ∈ news) (sub : ∀ q ∈ τ, q ∈ news) : ∀ q ∈ τ, q.1 ≠ t :=
  apart_by N ht sub fun q hq e => by
    obtain ⟨vs, h'⟩ := hT.recs q hq
    rw [h'] at e; cases e
theorem lawSub1 (a b : Addr × Obj) (τ ρ : Led) : ∀ q ∈ (a :: b :: ρ) ++ τ, q ∈ a :: b :: (τ ++ ρ) := by grind
theorem lawSub2 (a b t : Addr × Obj) (τ ρ : Led) : ∀ q ∈ t :: a :: b :: (τ ++ ρ), q ∈ (t :: τ) ++ (a :: b :: ρ) := by grind
theorem lawSub3 (a b t : Addr × Obj) (τ ρ : Led) : ∀ q ∈ (t :: a :: b :: ρ) ++ τ, q ∈ t :: a :: b :: (τ ++ ρ) := by grind
theorem lawSub4 (a b t u : Addr × Obj) (τ ρ : Led) : ∀ q ∈ u :: t :: a :: b :: (τ ++ ρ), q ∈ (u :: τ) ++ (t :: a :: b :: ρ) := by grind
theorem Tau.mem44 {τ : Led} (h : Tau τ) : ∃ ps, (44, tabObj ps) ∈ τ := by
  obtain ⟨t1, t2, h1, h2, _, rfl⟩ := h
  cases h1 with
  | e => exact ⟨_, List.mem_append_left _ (.head _)⟩
  | f => exact ⟨_, List.mem_append_left _ (.head _)⟩
theorem Tau.mem51 {τ : Led} (h : Tau τ) : ∃ ps, (51, tabObj ps) ∈ τ := by
  obtain ⟨t1, t2, h1, h2, _, rfl⟩ := h
  cases h2 with
  | e => exact ⟨_, List.mem_append_right _ (.head _)⟩
  | f => exact ⟨_, List.mem_append_right _ (.head _)⟩
theorem far_eq (far wd rows : Int) : far * rows - far / wd - far % wd * rows = far / wd * (wd * rows - 1) := by
  have e := Int.emod_add_mul_ediv far wd
  have h : far * rows = (far % wd + wd * (far / wd)) * rows := by rw [e]
  rw [h, Int.add_mul, Int.mul_sub, Int.mul_one, Int.mul_comm wd (far / wd), Int.mul_assoc]
  (first | lia | omega)
theorem far_div {far wd rows : Int} (h : 1 < wd * rows) : (far * rows - far / wd - far % wd * rows) / (wd * rows - 1) = far / wd ∧ (far * rows - far / wd - far % wd * rows) % (wd * rows - 1) = 0 := by
  rw [far_eq]
  exact ⟨Int.mul_ediv_cancel _ (by (first | lia | omega)), Int.mul_emod_left _ _⟩
theorem lawSub5 (a b t u : Addr × Obj) (τ ρ : Led) : ∀ q ∈ (t :: a :: b :: ρ) ++ τ, q ∈ u :: t :: a :: b :: (τ ++ ρ) := by grind
theorem lawSub6 (a b t u : Addr × Obj) (τ ρ : Led) : ∀ q ∈ u :: t :: a :: b :: (τ ++ ρ), q ∈ (u :: τ) ++ (t :: a :: b :: ρ) := by grind
theorem with117D {w : World} {G : Prop} {oc od osl name qual params s1 s2 s3 s4 s5 s6 s7 s8 s9 s10 r scope dV kV doc pm an cdv ct} (h : (hd.heap_39 w.params).lookup 117 = some ⟨oc, od, .func (fnOf name qual params (s1 :: s2 :: s3 :: s4 :: s5 :: s6 :: s7 :: s8 :: s9 :: s10 :: r) scope dV kV doc pm an cdv ct), osl⟩)
    (k : (hd.heap_39 w.params).lookup 117 = some ⟨oc, od, .func (fnOf name qual params (s1 :: s2 :: s3 :: s4 :: s5 :: s6 :: s7 :: s8 :: s9 :: s10 :: r) scope dV kV doc pm an cdv ct), osl⟩ → G) : G := k h
section
variable {prog : Program} {w : World} {A : Around} {E : Value → Shared → Prop} {s : Shared} {h₀ : Heap} {L D : Addr} {news : List (Addr × Obj)} {vs : List Value} {ns : List Int} {n : Nat} {k : Int} {a b : Int} {t u : Tok}
theorem mul_wide {Q : Value → Shared → Prop} (h2 : -1000000000 ≤ b) (h3 : b ≤ 1000000000) (h : ∀ v, v = a * b → Q (.int v s.toks) { s with toks := s.toks + 1 }) : wpAny (model prog w) A (binaryOp .Mult (.int a t) (.int b u)) Q E s :=
  mul_int (h _ rfl) (IntMulOk.of_right (intBits_le_64 (by (first | lia | omega)) (by (first | lia | omega))))
theorem mod_gen {Q : Value → Shared → Prop} (hb : 0 < b) (h : ∀ v, v = a % b → 0 ≤ v → v < b → Q (.int v s.toks) { s with toks := s.toks + 1 }) : wpAny (model prog w) A (binaryOp .Mod (.int a t) (.int b u)) Q E s :=
  mod_int' (by (first | lia | omega)) (h _ (Int.fmod_eq_emod_of_nonneg _ (by (first | lia | omega))) (by rw [Int.fmod_eq_emod_of_nonneg _ (by (first | lia | omega))]; exact Int.emod_nonneg _ (by (first | lia | omega))) (by rw [Int.fmod_eq_emod_of_nonneg _ (by (first | lia | omega))]; exact Int.emod_lt_of_pos _ hb))
theorem pow_six {Q : Value → Shared → Prop} (h : Q (.int 1000000 s.toks) { s with toks := s.toks + 1 }) : wpAny (model prog w) A (binaryOp .Pow (.int 10 t) (.int 6 u)) Q E s :=
  pow_int_small (by decide) (by decide) (by decide) h
theorem ints_get : ∀ {vs : List Value} {ns : List Int}, IntsAre vs ns → ∀ (k : Nat) (v : Value), vs[k]? = some v → ∃ x t, v = .int x t
  | _, _, .nil, _, _, h => by simp at h
  | _, _, .cons i t r, 0, v, h => by
    simp at h; exact ⟨i, t, h.symm⟩
  | _, _, .cons i t r, k + 1, v, h => ints_get r k v (by simpa using h)
theorem subInt {value slice : PySem.Expr} {Q : Value → Shared → Prop} (N : News h₀ L s.heap news) (hm : (D, W.listOf vs.toArray n) ∈ news) (hi : IntsAre vs ns) (h0 : 0 ≤ k) (h1 : k < ns.length) (hfit : k < 2 ^ 63) (h : ∀ x t, Q (.int x t) s)
    (hs : subscripted slice false (.ref D) (.int k u) = operate [.ref D, .int k u] (getItem (.ref D) (.int k u)) := by with_unfolding_all rfl) :
    wpAny (model prog w) A (subscriptTail value slice (.ref D) (.int k u)) Q E s :=
  subAny N hm h0 (by rw [hi.length]; exact h1) hfit (fun v hv => by
    obtain ⟨x, t, rfl⟩ := ints_get hi _ _ hv
    exact h x t) hs
end
local macro_rules | `(tactic| k_all) => `(tactic| assumption)
theorem lawD {w : World} {p : Program} {loose : List Str} {mean : ExcName → Option Value} {mg mb : Str → Option Value}
    {oc1 : Value} {od osl name qual params s1 s2 s3 s4 s5 s6 s7 s8 s9 s10 rest' scope dV kV doc pm an cdv ct}
    (hK : (hd.heap_39 w.params).lookup 117 = some ⟨oc1, od, .func (fnOf name qual params (s1 :: s2 :: s3 :: s4 :: s5 :: s6 :: s7 :: s8 :: s9 :: s10 :: rest') scope dV kV doc pm an cdv ct), osl⟩)
    (rows cols : Int) (d : Dims rows cols) (tr tc : Tok) (ns : List Int) (S RL : Addr) (vs rvs : List Value) (n : Nat) (c mm : Int) (tcn tmm : Tok) (hrv : rvs.length = n) (hn1 : 1 ≤ n) (hn20 : n ≤ 20)
    (hcm : c * ((n : Int) - 1) = mm) (hc0 : 0 ≤ c) (hc20 : c ≤ 64) (hm0 : 0 ≤ mm) (hm1 : mm ≤ 1000)
    {dp un : Nat} {gd : Option (List Code)} {outer : List Env} {fa : Addr} {cd : Value} {A : Around} {base g : Heap} {L : Addr} {s : Shared} {mf : Str → Option Value} {epR : Nat} {oC : Obj} {τ ρ : Led}
    (B : Below A base outer g) (F : Fr g L s.heap mf) (X : (hd.heap_39 w.params).In g) (N : News g L s.heap ((RL, W.listOf rvs.toArray epR) :: (L + 1, oC) :: (τ ++ ρ))) (T : Top p loose mean mg mb g) (C : CodesAt base)
    (hT : Tau τ) (ap : Apart τ ((RL, W.listOf rvs.toArray epR) :: (L + 1, oC) :: ρ)) (h72 : ∃ ps, (72, tabObj ps) ∈ ρ) (h79 : ∃ ps, (79, tabObj ps) ∈ ρ)
    (kn : Knows mf [(Str.ofString "script", .ref S), (Str.ofString "rows", .int rows tr), (Str.ofString "rings", .ref RL), (Str.ofString "count", .int c tcn), (Str.ofString "measures", .int mm tmm)])
    (dC : oC.data = .cell (some (.int cols tc))) (hS : g.IsList S vs.toArray) (hI : IntsAre vs ns) (hlen : ns.length ≤ 63)
    (hdp : dp + 200 < recursionLimit) (hun : un + 1000 < cLine)
    {Q : Flow → Shared → Prop} {E : Value → Shared → Prop}
    (hQ : ∀ h' tk' m' news', Fr g L h' m' → News g L h' news' → (∃ ps, (72, tabObj ps) ∈ news') → (∃ ps, (79, tabObj ps) ∈ news') → (∃ ps, (51, tabObj ps) ∈ news') → (∃ ps, (44, tabObj ps) ∈ news') → Q (.ret (.bool true)) { s with heap := h', toks := tk' }) :
    wpAny (model PySem.Challenge.rw_ph0106_01.row.prog w) (ktrTop dp un gd qual scope L fa cd (cellsFrom (L + 1) scope.names []) outer) (execs rest' (envOfC qual scope L fa cd)) Q E s := by
  k_with_none
  k_with "call ref" => (k_here; refine Hold.out ?_)
  k_with "binaryOp Mult int int" => (k_here; (with_reducible show wpAny _ _ (binaryOp Operator.Mult (Value.int _ _) (Value.int _ _)) _ _ _); first | ((with_reducible refine mul_gen (by (first | lia | omega)) (by (first | lia | omega)) (by (first | lia | omega)) (by (first | lia | omega)) ?_); intro _ _ _ _; (try dsimp only)) | ((with_reducible refine mul_wide (by (first | lia | omega)) (by (first | lia | omega)) ?_); intro _ _; (try dsimp only)))
  k_with "call builtin:len" => (k_here; (with_reducible show wpAny _ _ (call (Value.builtin "len") [Value.ref _]) _ _ _); k_dflt (refine' kst_len (by k_asm) (by k_mem) rfl (by (first | lia | omega)) ?_))
  k_with "binaryOp Add ref ref" => (k_here; (with_reducible show wpAny _ _ (binaryOp _ (Value.ref _) (Value.ref _)) _ _ _); k_dflt (refine' kmk_add_ints (by k_asm) (by k_asm) (by kmk_list) (by kmk_list) (by l_ints) (by l_ints) ?_ (by (simp only [PySem.sizeLine_eq, List.length_cons, List.length_nil]; (first | lia | omega)))); intro _ _ _ _ _ l1 _; (try k_lt l1); (revert l1; intro _); (try k_sweep))
  k_with "subscriptTail BinOp" => (k_here; refine Hold.out ?_)
  k_with "subscriptTail" => (k_here; (with_reducible show wpAny _ _ (subscriptTail (Expr.BinOp _ _ _ _) _ _ _) _ _ _); refine Hold.out ?_)
  k_with "binaryOp Mod int int" => (k_here; (with_reducible refine mod_gen (by (first | lia | omega)) ?_); intro _ _ _ _; (try dsimp only))
  k_with "binaryOp Pow int int" => (k_here; (with_reducible refine pow_six ?_); (try dsimp only))
  k_with "execs cons" => (k_here; (with_reducible show wpAny _ _ (execs (Stmt.Assign [Expr.Name (PySem.Str.ofString "wide") _] _ _ :: _) _) _ _ _); (fail_if_success (with_reducible rename Mark => mkX)); refine Hold.out ?_)
  refine' with117D (w := w) ?pf ?k
  case pf => k_is
  case k =>
    intro e
    rw [hK] at e
    cases e
    clear hK
    subst hrv
    have C' := C
    obtain ⟨C1, C2, C3, C4⟩ := C
    have hDr := d.r0
    have hDr1 := d.r1
    have hDc := d.c0
    have hDc1 := d.c1
    have F2 := kn.fr F
    dsimp only [kstB] at F2
    clear F
    try dsimp only
    try k_fold
    k_steps
    all_goals try unfold Hold
    · exfalso
      (first | lia | omega)
    rename_i vM hM hM0 hM1 hvm lz hz l1z Dz wsz hz2 Fz Nz hIz l2z
    refine subInt (by k_asm) (.head _) hIz (by decide) (by rw [List.length_append, List.length_cons]; (first | lia | omega)) (by decide) ?_
    intro x0 tx0
    replace Nz := news_sub Nz (fun q h => .tail _ (.tail _ h))
    try dsimp only
    k_steps
    all_goals try unfold Hold
    rename_i v2 hv2 vD hD hD0 hD1 hF F5 N5
    obtain ⟨tF, m3, F6, K3⟩ : ∃ tF m3, Fr g L hF m3 ∧ Knows m3 [(Str.ofString "far", .int (vD - 1000000) tF), (Str.ofString "rows", .int rows tr)] := ⟨_, _, F5, rfl, rfl, trivial⟩
    have F7 := K3.fr F6
    dsimp only [kstB] at F7
    clear F5 F6 K3 hvm l1z hIz l2z kn
    obtain ⟨far, hfar⟩ : ∃ far, far = vD - 1000000 := ⟨_, rfl⟩
    rw [← hfar] at F7
    have hf0 : -1000000 ≤ far := by (first | lia | omega)
    have hf1 : far ≤ 1000000 := by (first | lia | omega)
    clear hfar hD hD0 hD1 hv2
    have mark : Mark := trivial
    try dsimp only
    k_steps
    all_goals try unfold Hold
    rename_i tkx wd hwd hG F8 N8
    refine Spec.useC (lread far wd _ _ (by (first | lia | omega)) (by (first | lia | omega)) (by (first | lia | omega)) (by (first | lia | omega)) τ hT) _ B (by k_asm) X (news_sub N8 (lawSub1 _ _ _ _)) T C' (by exact rfl) (by (first | lia | omega)) (by (first | lia | omega)) ap ?_
    intro r9 own9 h9 tk9 F9 N9 ap9 P9
    obtain ⟨t9, t91, t92, τ9, rfl, hT9, rfl⟩ := P9
    replace N9 := news_sub N9 (lawSub2 _ _ _ _ _)
    have ap9' : Apart τ9 ((t9, tupO [.int (far / wd) t91, .int (far % wd) t92]) :: (RL, W.listOf rvs.toArray epR) :: (L + 1, oC) :: ρ) :=
      .put (hT9.ne_tup N9 (.head _) (fun q hq => .tail _ (.tail _ (.tail _ (List.mem_append_left _ hq))))) fun q hq hm => ap9 q hq (by rw [List.map_cons]; exact .tail _ hm)
    clear F8 N8
    try dsimp only
    k_steps
    all_goals try unfold Hold
    rename_i hH F10 N10
    refine Spec.useC (idm far wd _ _ (by (first | lia | omega)) (by (first | lia | omega)) (by (first | lia | omega)) (by (first | lia | omega)) τ9 hT9) _ B (by k_asm) X (news_sub N10 (lawSub3 _ _ _ _ _)) T C' (by exact rfl) (by (first | lia | omega)) (by (first | lia | omega)) ap9' ?_
    intro r11 own11 h11 tk11 F11 N11 ap11 P11
    obtain ⟨t11, t111, t112, τ11, rfl, hT11, rfl⟩ := P11
    replace N11 := news_sub N11 (lawSub4 _ _ _ _ _ _)
    have ap11' : Apart τ11 ((t9, tupO [.int (far / wd) t91, .int (far % wd) t92]) :: (RL, W.listOf rvs.toArray epR) :: (L + 1, oC) :: ρ) := fun q hq hm => ap11 q hq (by rw [List.map_cons]; exact .tail _ hm)
    clear F10 N10
    try dsimp only
    k_steps
    all_goals try unfold Hold
    rename_i hI12 F12 N12 v1 hv1 v3 hv3 v4 hv4
    have hq0 : -1000000 ≤ far / wd := Int.le_ediv_of_mul_le (by (first | lia | omega)) (by (first | lia | omega))
    have hq1 : far / wd ≤ 1000000 := by
      have : far / wd < 1000001 := Int.ediv_lt_of_lt_mul (by (first | lia | omega)) (by (first | lia | omega))
      (first | lia | omega)
    have hr0 := Int.emod_nonneg far (show wd ≠ 0 by (first | lia | omega))
    have hr1 := Int.emod_lt_of_pos far (show 0 < wd by (first | lia | omega))
    have hb : -1000000000000 ≤ v1 - far / wd - v3 ∧ v1 - far / wd - v3 ≤ 1000000000000 ∧ 1 < v4 ∧ v4 ≤ 100000 := by
      have h3 : rows = 2 ∨ rows = 3 ∨ rows = 4 := by (first | lia | omega)
      rcases h3 with h | h | h <;> rw [h] at hv1 hv3 hv4 <;> (first | lia | omega)
    have hd2 := far_div (far := far) (wd := wd) (rows := rows) (by rw [← hv4]; exact hb.2.2.1)
    rw [← hv1, ← hv3, ← hv4] at hd2
    obtain ⟨hb1, hb2, hb3, hb4⟩ := hb
    refine Spec.useC (idm (v1 - far / wd - v3) (v4 - 1) _ _ (by (first | lia | omega)) (by (first | lia | omega)) (by (first | lia | omega)) (by (first | lia | omega)) τ11 hT11) _ B (by k_asm) X (news_sub N12 (lawSub5 _ _ _ _ _ _)) T C' (by exact rfl) (by (first | lia | omega)) (by (first | lia | omega)) ap11' ?_
    intro r13 own13 h13 tk13 F13 N13 ap13 P13
    rw [hd2.1, hd2.2] at P13
    obtain ⟨t13, t131, t132, τ13, rfl, hT13, rfl⟩ := P13
    replace N13 := news_sub N13 (lawSub6 _ _ _ _ _ _)
    clear F12 N12 hd2 hv1 hv3 hv4
    try dsimp only
    k_steps
    all_goals try unfold Hold
    refine hQ _ _ _ _ (by k_asm) (by k_asm) (h72.imp fun _ h => ?_) (h79.imp fun _ h => ?_) (hT13.mem51.imp fun _ h => ?_) (hT13.mem44.imp fun _ h => ?_)
    · exact .tail _ (.tail _ (.tail _ (.tail _ (.tail _ (List.mem_append_right _ h)))))
    · exact .tail _ (.tail _ (.tail _ (.tail _ (.tail _ (List.mem_append_right _ h)))))
    · exact .tail _ (.tail _ (.tail _ (.tail _ (.tail _ (List.mem_append_left _ h)))))
    · exact .tail _ (.tail _ (.tail _ (.tail _ (.tail _ (List.mem_append_left _ h)))))
end Mine
namespace Mine
open PySem PySem.W PySem.Spec PySem.Calls PyProof.Rows
example : True := by (w_top off; k_with_none; trivial)
theorem with117 {w : World} {G : Prop} {oc od osl name qual params s1 s2 s3 s4 s5 s6 s7 r scope dV kV doc pm an cdv ct} (h : (hd.heap_39 w.params).lookup 117 = some ⟨oc, od, .func (fnOf name qual params (s1 :: s2 :: s3 :: s4 :: s5 :: s6 :: s7 :: r) scope dV kV doc pm an cdv ct), osl⟩)
    (k : (hd.heap_39 w.params).lookup 117 = some ⟨oc, od, .func (fnOf name qual params (s1 :: s2 :: s3 :: s4 :: s5 :: s6 :: s7 :: r) scope dV kV doc pm an cdv ct), osl⟩ → G) : G := k h
structure BS where
  power : Int
  count : Int
  meas : Int
  tp : Tok
  tcn : Tok
  tm : Tok
  led : Led
  k : Nat
theorem burn_succ {last rows : Int} {k : Nat} {power count meas : Int} : burn last rows (k + 1) power count meas =
    if 1 ≤ power ∧ power ≤ 64 ∧ 0 ≤ count ∧ count ≤ 64 ∧ 0 ≤ meas ∧ meas ≤ 1000 then
      if count < last ∧ (power > 1 ∨ count = 0) then burn last rows k ((power * rows) % last) (count + 1) (meas + (Nat.gcd last.toNat (power - 1).toNat : Nat))
      else some (count, meas)
    else none := rfl
theorem burn_pos {last rows : Int} {k : Nat} {p c m : Int} {r : Int × Int} (h : burn last rows k p c m = some r) : ∃ k', k = k' + 1 ∧ (1 ≤ p ∧ p ≤ 64 ∧ 0 ≤ c ∧ c ≤ 64 ∧ 0 ≤ m ∧ m ≤ 1000) ∧
    (if c < last ∧ (p > 1 ∨ c = 0) then burn last rows k' ((p * rows) % last) (c + 1) (m + (Nat.gcd last.toNat (p - 1).toNat : Nat)) else some (c, m)) = some r := by
  cases k with
  | zero => cases h
  | succ k' =>
    rw [burn_succ] at h
    by_cases hc : 1 ≤ p ∧ p ≤ 64 ∧ 0 ≤ c ∧ c ≤ 64 ∧ 0 ≤ m ∧ m ≤ 1000
    · rw [if_pos hc] at h
      exact ⟨k', rfl, hc, h⟩
    · rw [if_neg hc] at h; cases h
theorem last_range {rows cols : Int} (d : Dims rows cols) : 3 ≤ rows * cols - 1 ∧ rows * cols - 1 ≤ 19 := by
  obtain ⟨a, b, c, e⟩ := d
  have hr : rows = 2 ∨ rows = 3 ∨ rows = 4 := by (first | lia | omega)
  rcases hr with rfl | rfl | rfl <;> (first | lia | omega)
theorem lawSub7 (a b : Addr × Obj) (τ ρ : Led) : ∀ q ∈ a :: b :: (τ ++ ρ), q ∈ τ ++ (a :: b :: ρ) := by grind
theorem lawC {w : World} {p : Program} {loose : List Str} {mean : ExcName → Option Value} {mg mb : Str → Option Value}
    {oc1 : Value} {od osl name qual params s1 s2 s3 s4 s5 s6 s7 rest' scope dV kV doc pm an cdv ct}
    (hK : (hd.heap_39 w.params).lookup 117 = some ⟨oc1, od, .func (fnOf name qual params (s1 :: s2 :: s3 :: s4 :: s5 :: s6 :: s7 :: rest') scope dV kV doc pm an cdv ct), osl⟩)
    (rows cols : Int) (d : Dims rows cols) (tr tc : Tok) (ns : List Int) (S RL : Addr) (vs rvs : List Value) (n : Nat) (c mm : Int) (hrv : rvs.length = n) (hn1 : 1 ≤ n) (hn20 : n ≤ 20)
    (hburn : burn (rows * cols - 1) rows 30 1 0 0 = some (c, mm)) (hcm : c * ((n : Int) - 1) = mm) (hc0 : 0 ≤ c) (hc20 : c ≤ 64) (hm0 : 0 ≤ mm) (hm1 : mm ≤ 1000)
    {dp un : Nat} {gd : Option (List Code)} {outer : List Env} {fa : Addr} {cd : Value} {A : Around} {base g : Heap} {L : Addr} {s : Shared} {mf : Str → Option Value} {epR : Nat} {oC : Obj} {τ ρ : Led}
    (B : Below A base outer g) (F : Fr g L s.heap mf) (X : (hd.heap_39 w.params).In g) (N : News g L s.heap ((RL, W.listOf rvs.toArray epR) :: (L + 1, oC) :: (τ ++ ρ))) (T : Top p loose mean mg mb g) (C : CodesAt base)
    (hT : Tau τ) (ap : Apart τ ((RL, W.listOf rvs.toArray epR) :: (L + 1, oC) :: ρ)) (h72 : ∃ ps, (72, tabObj ps) ∈ ρ) (h79 : ∃ ps, (79, tabObj ps) ∈ ρ)
    (kn : Knows mf [(Str.ofString "script", .ref S), (Str.ofString "rows", .int rows tr), (Str.ofString "rings", .ref RL)])
    (dC : oC.data = .cell (some (.int cols tc))) (hS : g.IsList S vs.toArray) (hI : IntsAre vs ns) (hlen : ns.length ≤ 63)
    (hdp : dp + 200 < recursionLimit) (hun : un + 1000 < cLine)
    {Q : Flow → Shared → Prop}
    (hQ : ∀ h' tk' m' news', Fr g L h' m' → News g L h' news' → (∃ ps, (72, tabObj ps) ∈ news') → (∃ ps, (79, tabObj ps) ∈ news') → (∃ ps, (51, tabObj ps) ∈ news') → (∃ ps, (44, tabObj ps) ∈ news') → Q (.ret (.bool true)) { s with heap := h', toks := tk' }) :
    wpAny (model PySem.Challenge.rw_ph0106_01.row.prog w) (ktrTop dp un gd qual scope L fa cd (cellsFrom (L + 1) scope.names []) outer) (execs rest' (envOfC qual scope L fa cd)) Q (fun _ _ => False) s := by
  k_with_none
  k_with "exec While BoolOp" => (k_here; refine Hold.out ?_)
  k_with "exec While" => (k_here; refine Hold.out ?_)
  k_with "exec While BoolOp cons cons" => (k_here; refine Hold.out ?_)
  k_with "call ref" => (k_here; refine Hold.out ?_)
  k_with "binaryOp Mult int int" => (k_here; (with_reducible show wpAny _ _ (binaryOp Operator.Mult (Value.int _ _) (Value.int _ _)) _ _ _); ((with_reducible refine mul_gen (by (first | lia | omega)) (by (first | lia | omega)) (by (first | lia | omega)) (by (first | lia | omega)) ?_); intro _ _ _ _; (try dsimp only)))
  k_with "execs cons" => (k_here; (with_reducible show wpAny _ _ (execs (Stmt.If _ _ _ _ :: _) _) _ _ _); refine Hold.out ?_)
  refine' with117 (w := w) ?pf ?k
  case pf => k_is
  case k =>
    intro e
    have hK' := hK
    rw [hK] at e
    cases e
    clear hK
    have hlast := last_range d
    have C' := C
    obtain ⟨C1, C2, C3, C4⟩ := C
    have hDr := d.r0
    have hDr1 := d.r1
    have hDc := d.c0
    have hDc1 := d.c1
    have F2 := kn.fr F
    dsimp only [kstB] at F2
    clear F
    try dsimp only
    try k_fold
    k_steps
    all_goals try unfold Hold
    rename _ = rows * cols => hl0
    rename Fr _ _ _ _ => F5
    rename News _ _ _ _ => N5
    subst hl0
    replace N5 := news_sub N5 (fun q h => .tail _ h)
    obtain ⟨tp0, tc0, tm0, tl0, m3, F6, K3⟩ : ∃ tp0 tc0 tm0 tl0 m3, Fr g L _ m3 ∧ Knows m3 [(Str.ofString "power", .int 1 tp0), (Str.ofString "count", .int 0 tc0), (Str.ofString "measures", .int 0 tm0), (Str.ofString "last", .int (rows * cols - 1) tl0), (Str.ofString "script", .ref S), (Str.ofString "rows", .int rows tr), (Str.ofString "rings", .ref RL)] :=
      ⟨_, _, _, _, _, F5, rfl, rfl, rfl, rfl, rfl, rfl, rfl, trivial⟩
    have F7 := K3.fr F6
    dsimp only [kstB] at F7
    clear F5 F6 K3 kn
    refine' ksw_while (σ := BS) (fun b => (RL, W.listOf rvs.toArray epR) :: (L + 1, oC) :: (b.led ++ ρ)) (fun b => [(Str.ofString "power", .int b.power b.tp), (Str.ofString "count", .int b.count b.tcn), (Str.ofString "measures", .int b.meas b.tm)])
      (fun b => Tau b.led ∧ Apart b.led ((RL, W.listOf rvs.toArray epR) :: (L + 1, oC) :: ρ)) [] (fun b => burn (rows * cols - 1) rows b.k b.power b.count b.meas = some (c, mm)) (fun b => b.k) ⟨1, 0, 0, tp0, tc0, tm0, τ, 30⟩ (by k_asm) (by k_asm) ⟨hT, ap⟩ ?hkn hburn ?turn
    case hkn => exact List.forall_mem_cons.mpr ⟨rfl, List.forall_mem_cons.mpr ⟨rfl, List.forall_mem_cons.mpr ⟨rfl, fun _ h => nomatch h⟩⟩⟩
    case turn =>
      clear F7 N5 hburn hT ap
      intro b u h tk hFb hPb F N
      obtain ⟨power, count, meas, tp, tcn, tm, τb, kb⟩ := b
      obtain ⟨hTb, apb⟩ := hFb
      obtain ⟨k', hk, ⟨b1, b2, b3, b4, b5, b6⟩, hgo⟩ := burn_pos hPb
      dsimp only at hk
      subst hk
      dsimp only [kstB] at *
      obtain ⟨mcur, F0, hmc⟩ : ∃ mm, Fr g L h mm ∧ mm = _ := ⟨_, F, rfl⟩
      clear F
      refine wpAny_mono (Q := fun bb s₂ => (bb = true ↔ (count < rows * cols - 1 ∧ (power > 1 ∨ count = 0))) ∧ ∃ h' tk', s₂ = { s with heap := h', toks := tk' } ∧ Fr g L h' mcur ∧ News g L h' ((RL, W.listOf rvs.toArray epR) :: (L + 1, oC) :: (τb ++ ρ))) ?test (fun bb s₂ hb => ?cont) (fun _ _ hx => hx)
      case test =>
        rw [hmc] at F0
        try k_fold
        k_steps
        all_goals try unfold Hold
        all_goals (first
          | (rw [hmc]; exact F0)
          | exact N
          | exact ⟨fun _ => ⟨by assumption, by first | exact .inl (by assumption) | exact .inr (by assumption)⟩, fun _ => rfl⟩
          | exact ⟨fun q => Bool.noConfusion q, fun q => by (first | lia | omega)⟩)
      case cont =>
        obtain ⟨hiff, h', tk', rfl, F1, N1⟩ := hb
        rw [hmc] at F1
        clear F0 N
        cases bb with
        | false =>
          have hcond : ¬ (count < rows * cols - 1 ∧ (power > 1 ∨ count = 0)) := fun q => Bool.noConfusion (hiff.mpr q)
          rw [if_neg hcond] at hgo
          cases hgo
          rw [if_neg (by decide)]
          try dsimp only
          k_steps
          all_goals try unfold Hold
          exact lawD hK' rows cols d tr tc ns S RL vs rvs n c mm tcn tm hrv hn1 hn20 hcm b3 b4 b5 b6 B (by k_asm) X (by k_asm) T C' hTb apb h72 h79 ⟨rfl, rfl, rfl, rfl, rfl, trivial⟩ dC hS hI hlen hdp hun hQ
        | true =>
          have hcond := hiff.mp rfl
          rw [if_pos hcond] at hgo
          rw [if_pos rfl]
          try dsimp only
          k_steps
          all_goals try unfold Hold
          rename News _ _ _ _ => N
          refine Spec.useC (lmeas (rows * cols - 1) (power - 1) _ _ (by (first | lia | omega)) (by (first | lia | omega)) (by (first | lia | omega)) (by (first | lia | omega)) τb hTb) _ B (by k_asm) X (news_sub N (lawSub1 _ _ _ _)) T C' (by exact rfl) (by (first | lia | omega)) (by (first | lia | omega)) apb ?_
          intro r9 τ9 h9 tk9 F9 N9 ap9 P9
          obtain ⟨hT9, t9, rfl⟩ := P9
          replace N9 := news_sub N9 (lawSub7 _ _ _ _)
          (try clear F1); clear N
          try dsimp only
          k_steps
          all_goals try unfold Hold
          rename _ = power * rows => hvM
          rename News _ _ _ _ => N10
          refine Spec.useC (idm _ (rows * cols - 1) _ _ (by (first | lia | omega)) (by (first | lia | omega)) (by (first | lia | omega)) (by (first | lia | omega)) τ9 hT9) _ B (by k_asm) X (news_sub N10 (lawSub1 _ _ _ _)) T C' (by exact rfl) (by (first | lia | omega)) (by (first | lia | omega)) ap9 ?_
          intro r11 own11 h11 tk11 F11 N11 ap11 P11
          obtain ⟨t11, t111, t112, τ11, rfl, hT11, rfl⟩ := P11
          replace N11 := news_sub N11 (lawSub2 _ _ _ _ _)
          have ap11' : Apart τ11 ((RL, W.listOf rvs.toArray epR) :: (L + 1, oC) :: ρ) := fun q hq hm => ap11 q hq (by rw [List.map_cons]; exact .tail _ hm)
          (try clear N9); clear N10
          try dsimp only
          k_steps
          all_goals try unfold Hold
          rw [← hvM] at hgo
          refine ksw_end ⟨_, count + 1, meas + (Nat.gcd (rows * cols - 1).toNat (power - 1).toNat : Nat), _, _, _, τ11, k'⟩ (by k_asm) (by k_asm) (fun q h => .tail _ h) ⟨hT11, ap11'⟩ (List.forall_mem_cons.mpr ⟨rfl, List.forall_mem_cons.mpr ⟨rfl, List.forall_mem_cons.mpr ⟨rfl, fun _ h => nomatch h⟩⟩⟩) (by ksw_same) hgo (Nat.lt_succ_self _)
end Mine
namespace Mine
open PySem PySem.W PySem.Spec PySem.Calls PyProof.Rows
example : True := by (w_top off; k_with_none; trivial)
theorem with117B {w : World} {G : Prop} {oc od osl name qual params s1 s2 s3 s4 r scope dV kV doc pm an cdv ct} (h : (hd.heap_39 w.params).lookup 117 = some ⟨oc, od, .func (fnOf name qual params (s1 :: s2 :: s3 :: s4 :: r) scope dV kV doc pm an cdv ct), osl⟩)
    (k : (hd.heap_39 w.params).lookup 117 = some ⟨oc, od, .func (fnOf name qual params (s1 :: s2 :: s3 :: s4 :: r) scope dV kV doc pm an cdv ct), osl⟩ → G) : G := k h
section
variable {prog : Program} {w : World} {A : Around} {E : Value → Shared → Prop} {s : Shared} {h₀ : Heap} {L : Addr} {m : Str → Option Value} {news : List (Addr × Obj)} {Q : Value → Shared → Prop}
theorem list_strK {x : Str} {t : Tok} (hh : A.handled = none) (F : Fr h₀ L s.heap m) (N : News h₀ L s.heap news)
    (h : ∀ D (ys : List Value) c h' tk, Fr h₀ L h' m → News h₀ L h' ((D, W.listOf ys.toArray c) :: news) → (∀ q ∈ news, q.1 < D) → SR ys (signs x) → Q (.ref D) { s with heap := h', toks := tk }) (hsz : x.length ≤ sizeLine) :
    wpAny (model prog w) A (call (.type "list") [.str x t]) Q E s := by
  refine call_list_str hh x t (hn := hsz) fun h' tk acc' c' hk hS' hacc => ?_
  refine h _ acc'.toList c' h' tk (F.keeps hk) (news_pushed F N hk (by simpa [W.listOf] using hS') rfl) (fun q hq => Heap.lt_size (N q hq).1) ⟨by simp [hacc.1, signs], fun k v d hv hd => ?_⟩
  obtain ⟨c, u, hc, rfl⟩ := hacc.2 k v (by simpa using hv)
  have : d = ⟨#[c]⟩ := by
    simp only [signs, List.getElem?_map, Array.getElem?_toList, hc, Option.map_some, Option.some.injEq] at hd
    exact hd.symm
  rw [this]; exact ⟨u, rfl⟩
end
def pieces (rows cols : Int) : List Str := (rangeKs 0 cols.toNat).map fun k => Txt.sliceBy (sgn (rows * cols)) (some (k, 0)) none (cols, 0)
def sheetB (rows cols : Int) : Bool :=
  decide ((sgn (rows * cols)).length = (rows * cols).toNat) &&
  match ringsGo rows cols 30 (rows * cols).toNat (dots (rows * cols).toNat) (rows * cols) (signs (sgn (rows * cols))) 0 with
  | none => false
  | some (n, ds') => decide (1 ≤ n) && decide (n ≤ 20) && decide ((ds'.map (·.length)).sum + ds'.length * 64 ≤ 16777216) && decide (((pieces rows cols).map (·.length)).sum + (pieces rows cols).length * 64 ≤ 16777216) && decide (Txt.join (Str.ofString "") ds' = Txt.join (Str.ofString "") (pieces rows cols)) &&
    match burn (rows * cols - 1) rows 30 1 0 0 with
    | none => false
    | some (c, m) => decide (c * ((n : Int) - 1) = m) && decide (0 ≤ c) && decide (c ≤ 64) && decide (0 ≤ m) && decide (m ≤ 1000)
theorem sheetBof2x2 : sheetB 2 2 = true := by decide +kernel
theorem sheetBof2x3 : sheetB 2 3 = true := by decide +kernel
theorem sheetBof2x4 : sheetB 2 4 = true := by decide +kernel
theorem sheetBof2x5 : sheetB 2 5 = true := by decide +kernel
theorem sheetBof3x2 : sheetB 3 2 = true := by decide +kernel
theorem sheetBof3x3 : sheetB 3 3 = true := by decide +kernel
theorem sheetBof3x4 : sheetB 3 4 = true := by decide +kernel
theorem sheetBof3x5 : sheetB 3 5 = true := by decide +kernel
theorem sheetBof4x2 : sheetB 4 2 = true := by decide +kernel
theorem sheetBof4x3 : sheetB 4 3 = true := by decide +kernel
theorem sheetBof4x4 : sheetB 4 4 = true := by decide +kernel
theorem sheetBof4x5 : sheetB 4 5 = true := by decide +kernel
theorem sheetB_all : ∀ r : Int, r ∈ [(2 : Int), 3, 4] → ∀ c : Int, c ∈ [(2 : Int), 3, 4, 5] → sheetB r c = true := by
  intro r hr c hc
  simp only [List.mem_cons, List.not_mem_nil, or_false] at hr hc
  rcases hr with rfl | rfl | rfl <;> rcases hc with rfl | rfl | rfl | rfl
  · exact sheetBof2x2
  · exact sheetBof2x3
  · exact sheetBof2x4
  · exact sheetBof2x5
  · exact sheetBof3x2
  · exact sheetBof3x3
  · exact sheetBof3x4
  · exact sheetBof3x5
  · exact sheetBof4x2
  · exact sheetBof4x3
  · exact sheetBof4x4
  · exact sheetBof4x5
theorem sheet {rows cols : Int} (d : Dims rows cols) : ∃ (n : Nat) (ds' : List Str) (c mm : Int), (sgn (rows * cols)).length = (rows * cols).toNat ∧
    ringsGo rows cols 30 (rows * cols).toNat (dots (rows * cols).toNat) (rows * cols) (signs (sgn (rows * cols))) 0 = some (n, ds') ∧ 1 ≤ n ∧ n ≤ 20 ∧ (ds'.map (·.length)).sum + ds'.length * 64 ≤ 16777216 ∧ ((pieces rows cols).map (·.length)).sum + (pieces rows cols).length * 64 ≤ 16777216 ∧ Txt.join (Str.ofString "") ds' = Txt.join (Str.ofString "") (pieces rows cols) ∧
    burn (rows * cols - 1) rows 30 1 0 0 = some (c, mm) ∧ c * ((n : Int) - 1) = mm ∧ 0 ≤ c ∧ c ≤ 64 ∧ 0 ≤ mm ∧ mm ≤ 1000 := by
  obtain ⟨a, b, c, e⟩ := d
  have h := sheetB_all rows (by simp; (first | lia | omega)) cols (by simp; (first | lia | omega))
  unfold sheetB at h
  rw [Bool.and_eq_true, decide_eq_true_eq] at h
  obtain ⟨h0, h⟩ := h
  split at h
  · cases h
  · rename_i n ds' e1
    rw [Bool.and_eq_true] at h
    obtain ⟨h1, h⟩ := h
    split at h
    · cases h
    · rename_i c m e2
      simp only [Bool.and_eq_true, decide_eq_true_eq] at h h1
      exact ⟨n, ds', c, m, h0, e1, h1.1.1.1.1, h1.1.1.1.2, h1.1.1.2, h1.1.2, h1.2, e2, h.1.1.1.1, h.1.1.1.2, h.1.1.2, h.1.2, h.2⟩
theorem lawSub9 (a b c d : Addr × Obj) (τ ρ : Led) : ∀ q ∈ a :: b :: d :: c :: (τ ++ ρ), q ∈ (a :: b :: (τ ++ ρ)) ++ [c, d] := by grind
theorem lawSub10 (a b c d : Addr × Obj) (τ ρ : Led) : ∀ q ∈ a :: c :: (τ ++ ρ), q ∈ a :: b :: c :: d :: (τ ++ ρ) := by grind
theorem lawSub8 {a b c : Addr × Obj} {e72 e79 e51 e44 : Addr × Obj} : ∀ q ∈ [b, c] ++ (a :: e72 :: e79 :: [e44, e51]), q ∈ [a, b, c, e72, e79, e51, e44] := by grind
theorem sliceBy_tok (x : Str) (i k : Int) (t u t' u' : Tok) : Txt.sliceBy x (some (i, t)) none (k, u) = Txt.sliceBy x (some (i, t')) none (k, u') := rfl
section
variable {prog : Program} {w : World} {A : Around} {E : Value → Shared → Prop} {s : Shared} {h₀ : Heap} {L : Addr} {m : Str → Option Value} {news : List (Addr × Obj)} {Q : Value → Shared → Prop} {value slice : PySem.Expr} {x : Str} {t : Tok}
theorem slice_sn0 {i k : Int} {ui uk : Tok} (hF : Fr h₀ L s.heap m) (hN : News h₀ L s.heap news) (hk : k ≠ 0) (hsz : x.length ≤ sizeLine) (h : ∀ h' t' c, Fr h₀ L h' m → News h₀ L h' news → Q (.str (Txt.sliceBy x (some (i, 0)) none (k, 0)) t') { s with heap := h', toks := c })
    (hs : subscripted slice false (.str x t) (.ref s.heap.objs.size) = operate [.ref s.heap.objs.size, .str x t] (getItem (.str x t) (.ref s.heap.objs.size)) := by with_unfolding_all rfl)
    (ht : ∀ r, letTemporaryGo value (.str x t) r = pure () := by intro _; with_unfolding_all rfl) :
    wpAny (model prog w) A (subscriptTail value slice (.str x t) (.ref s.heap.objs.size)) Q E { s with heap := s.heap.push { cls := .type "slice", data := .fields #[.int i ui, .none, .int k uk] } } :=
  slice_strK_sn (hsz := hsz) hF hN (by simpa using hk) (fun h' t' c a b => by rw [sliceBy_tok x i k ui uk 0 0]; exact h h' t' c a b) hs ht
end
theorem lawB {w : World} {p : Program} {loose : List Str} {mean : ExcName → Option Value} {mg mb : Str → Option Value}
    {oc1 : Value} {od osl name qual params s1 s2 s3 s4 rest' scope dV kV doc pm an cdv ct}
    (hK : (hd.heap_39 w.params).lookup 117 = some ⟨oc1, od, .func (fnOf name qual params (s1 :: s2 :: s3 :: s4 :: rest') scope dV kV doc pm an cdv ct), osl⟩)
    (rows cols : Int) (d : Dims rows cols) (tr tc ts : Tok) (ns : List Int) (S : Addr) (vs : List Value)
    {dp un : Nat} {gd : Option (List Code)} {outer : List Env} {fa : Addr} {cd : Value} {A : Around} {base g : Heap} {L : Addr} {s : Shared} {mf : Str → Option Value} {oC oS : Obj}
    (B : Below A base outer g) (F : Fr g L s.heap mf) (X : (hd.heap_39 w.params).In g) (N : News g L s.heap [(L + 1 + 1, oS), (L + 1, oC), (72, tabObj #[]), (79, tabObj #[]), (51, tabObj #[]), (44, tabObj #[])]) (T : Top p loose mean mg mb g) (C : CodesAt base)
    (kn : Knows mf [(Str.ofString "script", .ref S), (Str.ofString "rows", .int rows tr)])
    (dC : oC.data = .cell (some (.int cols tc))) (dS : oS.data = .cell (some (.str (sgn (rows * cols)) ts))) (hS : g.IsList S vs.toArray) (hI : IntsAre vs ns) (hlen : ns.length ≤ 63) (hL : 79 < L)
    (hdp : dp + 200 < recursionLimit) (hun : un + 1000 < cLine)
    {Q : Flow → Shared → Prop}
    (hQ : ∀ h' tk' m' news', Fr g L h' m' → News g L h' news' → (∃ ps, (72, tabObj ps) ∈ news') → (∃ ps, (79, tabObj ps) ∈ news') → (∃ ps, (51, tabObj ps) ∈ news') → (∃ ps, (44, tabObj ps) ∈ news') → Q (.ret (.bool true)) { s with heap := h', toks := tk' }) :
    wpAny (model PySem.Challenge.rw_ph0106_01.row.prog w) (ktrTop dp un gd qual scope L fa cd (cellsFrom (L + 1) scope.names []) outer) (execs rest' (envOfC qual scope L fa cd)) Q (fun _ _ => False) s := by
  k_with_none
  k_with "call ref" => (k_here; refine Hold.out ?_)
  k_with "call type:list" => (k_here; (with_reducible show wpAny _ _ (call (Value.type "list") [Value.str _ _]) _ _ _); refine Hold.out ?_)
  k_with "call builtin:str.join" => (k_here; refine Hold.out ?_)
  k_with "execs cons" => (k_here; (with_reducible show wpAny _ _ (execs (Stmt.Assign [Expr.Name (PySem.Str.ofString "last") _] _ _ :: _) _) _ _ _); refine Hold.out ?_)
  k_with "subscriptTail Name Slice str ref" => ((with_reducible show wpAny _ _ (subscriptTail _ (Expr.Slice (some _) none (some _) _) (Value.str _ _) (Value.ref _)) _ _ _); (with_reducible rename Fr _ _ _ _ => F'); (with_reducible rename News _ _ _ _ => N'); (refine slice_sn0 (s := ⟨_, _, _, _, _⟩) F' N' (by (first | lia | omega)) (by simp only [PySem.sizeLine_eq]; (first | lia | omega)) ?_); clear F' N'; intro _ _ _ _ _; (try dsimp only))
  k_with "CompSrc" => (k_here; refine Hold.out ?_)
  refine' with117B (w := w) ?pf ?k
  case pf => k_is
  case k =>
    intro e
    have hK' := hK
    rw [hK] at e
    cases e
    clear hK
    have hlast := last_range d
    have C' := C
    obtain ⟨C1, C2, C3, C4⟩ := C
    have hDr := d.r0
    have hDr1 := d.r1
    have hDc := d.c0
    have hDc1 := d.c1
    have F2 := kn.fr F
    dsimp only [kstB] at F2
    clear F
    try dsimp only
    try k_fold
    k_steps
    all_goals try unfold Hold
    obtain ⟨n, ds', c, mm, hsg, hrun, hn1, hn20, hsz, hsz2, hjoin, hburn, hcm, hc0, hc1, hm0, hm1⟩ := sheet d
    refine list_strK rfl (by k_asm) (by k_asm) ?_ (by rw [hsg, PySem.sizeLine_eq]; (first | lia | omega))
    intro D cs ep hA tkA F3 N3 hlt hSR
    try dsimp only
    k_steps
    all_goals try unfold Hold
    have hcl : cs.length = (rows * cols).toNat := by rw [hSR.1, signs_length, hsg]
    have hcl2 : (cs.length : Int) = rows * cols := by (first | lia | omega)
    obtain ⟨cs', hrun', hSR'⟩ := ringsGo_rel _ _ _ _ hSR hrun
    rw [← hcl, ← hcl2] at hrun'
    have hD : ∀ q ∈ [(L + 1 + 1, oS), (L + 1, oC), (72, tabObj #[]), (79, tabObj #[]), (51, tabObj #[]), (44, tabObj #[])], @Ne Nat q.1 D := fun q hq => Nat.ne_of_lt (hlt q hq)
    have hT0 : Tau [(44, tabObj #[]), (51, tabObj #[])] := ⟨_, _, .e, .e, .cons ⟨by decide, trivial⟩ .nil, rfl⟩
    rename_i hB F4 N4
    have hLD := ltN (hlt _ (.head _))
    have hLD2 := ltN (hlt _ (.tail _ (.head _)))
    dsimp only at hLD hLD2
    refine Spec.useC (lrings rows cols tr tc d D cs ep [(44, tabObj #[]), (51, tabObj #[])] hT0 ?_ ?_ ?_ ?_ ?_ hcl2 30 n cs' hrun') [(L + 1 + 1, oS), (L + 1, oC)] B (by k_asm) X (news_sub N4 lawSub8) T C' (by exact rfl) (by (first | lia | omega)) (by (first | lia | omega)) ?_ ?_
    · intro q hq
      rcases List.mem_cons.mp hq with rfl | hq
      · exact hD _ (.tail _ (.tail _ (.tail _ (.tail _ (.tail _ (.head _))))))
      · rw [List.mem_singleton.mp hq]; exact hD _ (.tail _ (.tail _ (.tail _ (.tail _ (.head _)))))
    · intro q hq
      rcases List.mem_cons.mp hq with rfl | hq
      · decide
      · rw [List.mem_singleton.mp hq]; decide
    · intro q hq
      rcases List.mem_cons.mp hq with rfl | hq
      · decide
      · rw [List.mem_singleton.mp hq]; decide
    · exact (hD _ (.tail _ (.tail _ (.head _)))).symm
    · exact (hD _ (.tail _ (.tail _ (.tail _ (.head _))))).symm
    · have hL' : (79 : Nat) < L := hL
      refine .cons ?_ (.cons ?_ .nil)
      · simp only [NotIn, and_true]
        exact ⟨by (first | lia | omega), by (first | lia | omega), by (first | lia | omega), by (first | lia | omega), by (first | lia | omega)⟩
      · simp only [NotIn, and_true]
        exact ⟨by (first | lia | omega), by (first | lia | omega), by (first | lia | omega), by (first | lia | omega), by (first | lia | omega)⟩
    intro r5 own5 h5 tk5 F5 N5 ap5 P5
    obtain ⟨RL, rvs, epR, τ, ρ, rfl, hrv, hT, apT, h72, h79, rfl⟩ := P5
    clear F4 N4
    try dsimp only
    k_steps
    all_goals try unfold Hold
    rename_i tk6 h6 F6 N6
    refine join_listC (items := cs'.toArray) (ys := ds') ⟨_, (N6 (D, _) (.tail _ (.head _))).1, rfl, _, rfl⟩ hSR'.strs (by decide +kernel) hsz ?_
    intro t6 k6
    replace N6 := news_sub N6 (lawSub9 _ _ _ _ _ _)
    try dsimp only
    k_steps
    all_goals try unfold Hold
    have hr := rng20 cols.toNat (by (first | lia | omega))
    rw [Int.toNat_of_nonneg (by (first | lia | omega))] at hr
    refine LCg.CompSrc.range (n := cols.toNat) (by rfl) (by k_asm) (by k_asm) (by assumption) hr.1 (by rw [hr.2]; (first | lia | omega)) (by rw [PySem.sizeLine_eq]; (first | lia | omega)) ?_
    intro g'
    refine' kct_range (fun k => Txt.sliceBy (sgn (rows * cols)) (some (k, 0)) none (cols, 0)) (fun k' t' I' oI' C' oC' D' m' ys' h' tk' E' hlo' hhi' hC' hx' F' N' off' ne' => ?turn) ?fin
    case turn =>
      have off0 := off'
      simp only [LCg.Off3] at off'
      try ((show KPfMark → _); intro hMark')
      try dsimp only
      k_steps
      exact LCg.CompEnd.intro (by k_asm) (by k_asm) _ (fun p h => h) off0 trivial ⟨rfl, _, rfl⟩
    case fin =>
      show ∀ _, _
      intro ys hc hn
      try dsimp only
      k_steps
      all_goals try unfold Hold
      rename Fr _ _ _ _ => F8
      rename News _ _ _ _ => N8
      refine join_listC (items := ys.toArray) (ys := pieces rows cols) ⟨_, (N8 _ (.head _)).1, rfl, _, rfl⟩ (StrsAre.ofCarried (by rw [pieces, List.map_map]; exact hc)) (by decide +kernel) hsz2 ?_
      intro t9 k9
      replace N8 := news_sub N8 (fun q h => .tail _ h)
      rw [hjoin]
      try dsimp only
      k_steps
      all_goals try unfold Hold
      · exfalso
        rename (_ != _) = true => hbad
        simp at hbad
      have apC : Apart τ ((RL, W.listOf rvs.toArray epR) :: (L + 1, oC) :: ρ) := by
        refine .put apT.hd (.put (fun q hq => ?_) apT.tl.tl)
        exact ap5.tl.hd q (.tail _ (.tail _ (List.mem_append_left _ hq)))
      rename News _ _ _ _ => N9
      exact lawC hK' rows cols d tr tc ns S RL vs rvs n c mm hrv hn1 hn20 hburn hcm hc0 hc1 hm0 hm1 B (by k_asm) X (news_sub N9 (lawSub10 _ _ _ _ _ _)) T C' hT apC h72 h79 ⟨rfl, rfl, rfl, trivial⟩ dC hS hI hlen hdp hun hQ
end Mine
namespace Mine
open PySem PySem.W PySem.Spec PySem.Calls PyProof.Rows
example : True := by (w_top off; k_with_none; trivial)
theorem dims_of (T : Int) : Dims (2 + (1 + T).fmod 3) (2 + (2 + T.fdiv 3).fmod 4) := by
  have h1 := Int.fmod_eq_emod_of_nonneg (1 + T) (show (0 : Int) ≤ 3 by decide)
  have h2 := Int.fmod_eq_emod_of_nonneg (2 + T.fdiv 3) (show (0 : Int) ≤ 4 by decide)
  rw [h1, h2]
  exact ⟨by omega, by omega, by omega, by omega⟩
/-- the law's end -/
def LawEnd (g : Heap) (L : Addr) (s : Shared) (fl : Flow) (s' : Shared) : Prop :=
  fl = .ret (.bool true) ∧ ∃ h' tk' m' p72 p79 p51 p44, s' = { s with heap := h', toks := tk' } ∧ Fr g L h' m' ∧ News g L h' [(72, tabObj p72), (79, tabObj p79), (51, tabObj p51), (44, tabObj p44)]
theorem lawE {w : World} {p : Program} {loose : List Str} {mean : ExcName → Option Value} {mg mb : Str → Option Value}
    {oc1 : Value} {od osl name qual params s1 s2 s3 s4 rest' scope dV kV doc pm an cdv ct}
    (hK : (hd.heap_39 w.params).lookup 117 = some ⟨oc1, od, .func (fnOf name qual params (s1 :: s2 :: s3 :: s4 :: rest') scope dV kV doc pm an cdv ct), osl⟩)
    (rows cols : Int) (d : Dims rows cols) {tr tc ts : Tok} {ns : List Int} {S : Addr} {vs : List Value}
    {dp un : Nat} {gd : Option (List Code)} {outer : List Env} {fa : Addr} {cd : Value} {A : Around} {base g : Heap} {L : Addr} {s : Shared} {mf : Str → Option Value} {oC oS : Obj}
    (B : Below A base outer g) (F : Fr g L s.heap mf) (X : (hd.heap_39 w.params).In g) (N : News g L s.heap [(L + 1 + 1, oS), (L + 1, oC), (72, tabObj #[]), (79, tabObj #[]), (51, tabObj #[]), (44, tabObj #[])]) (T : Top p loose mean mg mb g) (C : CodesAt base)
    (kn : Knows mf [(Str.ofString "script", .ref S), (Str.ofString "rows", .int rows tr)])
    (dC : oC.data = .cell (some (.int cols tc))) (dS : oS.data = .cell (some (.str (sgn (rows * cols)) ts))) (hS : g.IsList S vs.toArray) (hI : IntsAre vs ns) (hlen : ns.length ≤ 63) (hL : 79 < L)
    (hdp : dp + 200 < recursionLimit) (hun : un + 1000 < cLine) :
    wpAny (model PySem.Challenge.rw_ph0106_01.row.prog w) (ktrTop dp un gd qual scope L fa cd (cellsFrom (L + 1) scope.names []) outer) (execs rest' (envOfC qual scope L fa cd)) (LawEnd g L s) (fun _ _ => False) s := by
  refine lawB hK rows cols d tr tc ts ns S vs B F X N T C kn dC dS hS hI hlen hL hdp hun ?_
  rintro h' tk' m' news' F' N' ⟨p72, h72⟩ ⟨p79, h79⟩ ⟨p51, h51⟩ ⟨p44, h44⟩
  refine ⟨rfl, h', tk', m', p72, p79, p51, p44, rfl, F', fun q hq => N' q ?_⟩
  simp only [List.mem_cons, List.not_mem_nil, or_false] at hq
  rcases hq with rfl | rfl | rfl | rfl
  · exact h72
  · exact h79
  · exact h51
  · exact h44
local macro_rules | `(tactic| is_list) => `(tactic| ((with_reducible rename News _ _ _ _ => N9); with_reducible exact News.isList N9 (.head _)))
theorem lawX : PySem.Challenge.rw_ph0106_01.Holds := hd (by
  k_with_none
  k_with "execs cons" => (k_here; (with_reducible show wpAny _ _ (execs (Stmt.Assign [Expr.Name (PySem.Str.ofString "cells") _] _ _ :: _) _) _ _ _); refine Hold.out ?_)
  k_go0
  all_goals (try k_fold)
  k_steps
  all_goals try unfold Hold
  rename IntsAre _ (List.take 63 _) => hTk
  clear hTk
  rename Below callerA _ _ _ => B
  rename Top topProg _ _ _ _ _ => T
  rename (hd.heap_39 _).In (ghostOf _ _) => X
  rename Fr _ _ _ _ => F
  rename News _ _ _ _ => N
  rename _ = Data.cell (some (Value.str _ _)) => dS
  rename _ = Data.cell (some (Value.int _ _)) => dC
  rename ¬ _ < _ => hlen
  rename Heap.IsList (ghostOf _ _) _ _ => hS
  rename IntsAre _ _ => hI
  refine' wpAny_mono (lawE ?hK _ _ (dims_of _) B F X (news_sub N (fun q h => .tail _ h)) T ⟨by with_reducible assumption, by with_reducible assumption, by with_reducible assumption, by with_reducible assumption⟩ ⟨rfl, rfl, trivial⟩ dC dS hS hI ?hlen ?hL ?hdp ?hun) ?ret (fun _ _ h => h.elim)
  case hK => k_is
  case hlen => omega
  case hL => exact (‹72 < _ ∧ 79 < _ ∧ _›).2.1
  case hdp => decide +kernel
  case hun => decide +kernel
  case ret =>
    clear dS dC F N hS hlen
    rintro fl s' ⟨rfl, h', tk', m', p72, p79, p51, p44, rfl, F', N'⟩
    try dsimp only
    k_steps)
end Mine
set_option maxRecDepth 100000 in
set_option maxHeartbeats 8000000 in
theorem PySem.Challenge.cw_ph0106_01_holds : PySem.Challenge.rw_ph0106_01.Holds :=
  Mine.lawX
