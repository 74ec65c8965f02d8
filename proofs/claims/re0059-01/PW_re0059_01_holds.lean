import PyProof.Rows.All
import Wide.All
import OpenK.AllK
import Wide.FinOn
import Lean
import PySem.Challenge.RW_re0059_01
set_option Elab.async false
open PySem PySem.W PyProof.Rows
section
set_option maxRecDepth 100000
set_option maxHeartbeats 8000000
namespace Mine
noncomputable def viewQ : Program := { PySem.Challenge.rw_re0059_01.row.toRowW.prog with main := { PySem.Challenge.rw_re0059_01.row.toRowW.prog.main with body := match PySem.Challenge.rw_re0059_01.row.toRowW.prog.main.body with
  | [a0, _, a2, a3, _, a5, a6, _, a8, _, a10, a11, a12, a13] => [a0, a2, a3, a5, a6, a8, a10, a11, a12, a13]
  | l => l } }
noncomputable def looseQ : List PySem.Str := [PySem.Str.ofString "_Accumulator"]
noncomputable def seenQ (s : Shared) : Bool := xlAt Mine.viewQ [] s && recOk (RowW.records PySem.Challenge.rw_re0059_01.row.toRowW) s
theorem headO (H : Hook) {d : DefRec} {kwd : List (PySem.Str × PySem.Expr)} (left : LeftO PySem.Challenge.rw_re0059_01.row.prog viewQ looseQ seenQ H.obs H.val 2254) (hdef : defOf viewQ PySem.Challenge.rw_re0059_01.row.name = some (d, kwd))
    (hp : PySem.Challenge.rw_re0059_01.row.prog.theDef PySem.Challenge.rw_re0059_01.row.name = some (d.params, d.body, d.scope)) (hk : kwWritten? d.params.kwonlyargs d.params.kw_defaults = some kwd) (hw : PySem.Challenge.rw_re0059_01.row.toRowW.promised)
    (call : WalkO viewQ [PySem.Str.ofString "_Accumulator"] (XL viewQ []) H.says PySem.Challenge.rw_re0059_01.row.toRowW d kwd fun f vs => PySem.call f vs) : PySem.Challenge.rw_re0059_01.row.Holds :=
  holds_open left H.of H.keeps (fun s e => xl_of s (Bool.and_eq_true_iff.mp e).1) XL.keeps hdef hp hk (fun s e => recFacts_of (Bool.and_eq_true_iff.mp e).2) (by rfl) (by decide +kernel) (by decide +kernel) ⟨rfl, rfl, rfl, rfl, rfl, by decide +kernel⟩ hw call
set_option hygiene false in
local macro_rules
  | `(tactic| o_head $h) => match h with
    | `(($_ $k $a $e $_)) => `(tactic| (refine headO (kmHook $k $a $e [63, 70, 156]) ?hl (by rfl) (by rfl) (by rfl) ?hw ?hc; (case hl => (intro w; kernel_rfl))))
    | _ => Lean.Macro.throwUnsupported
open_top hd for PySem.Challenge.rw_re0059_01
end Mine
end

section
local macro_rules | `(tactic| walk_at $s:str) => `(tactic| k_extra $s)
local macro_rules | `(tactic| cell_enter) => `(tactic| k_extra "cell_enter")
local macro_rules | `(tactic| ktr_enter) => `(tactic| k_extra "ktr_enter")
local macro_rules | `(tactic| tb_start) => `(tactic| k_extra "tb_start")
local macro_rules | `(tactic| tb_rel) => `(tactic| k_extra "tb_rel")
local macro_rules | `(tactic| k_inst) => `(tactic| k_extra "k_inst")
local macro_rules | `(tactic| k_units) => `(tactic| k_extra "k_units")
local macro_rules | `(tactic| k_ne) => `(tactic| k_extra "k_ne")
namespace Mine
structure Box (P : Prop) : Prop where
  out : P
end Mine

section
set_option maxRecDepth 100000
namespace Mine

/-- all that stood stands still -/
noncomputable def Kp (h h' : Heap) : Prop := ∀ b o, h.get? b = some o → h'.get? b = some o
/-- all that stood stands still, but at the addresses named -/
noncomputable def KpBut (as : List Addr) (h h' : Heap) : Prop := ∀ b o, b ∉ as → h.get? b = some o → h'.get? b = some o
noncomputable def Has (h : Heap) (news : List (Addr × Obj)) : Prop := ∀ p ∈ news, h.get? p.1 = some p.2
noncomputable def Hid (as : List Addr) (h g : Heap) : Prop := ∀ b o, b ∉ as → h.get? b = some o → g.get? b = some o

noncomputable def LeaveG (g : Heap) (R : Result → Shared → Prop) (v : Value) (s' : Shared) : Prop :=
  ∃ L' m' news', Fr g L' s'.heap m' ∧ News g L' s'.heap news' ∧ (Kp g s'.heap → Has s'.heap news' → R (.ok (.ret v)) s')
/-- the end of a call; what is promised there is a variable (it is short in every step's type) -/
noncomputable def LeaveQ (P : Heap → Value → Shared → Prop) (g : Heap) (v : Value) (s' : Shared) : Prop := P g v s'
theorem leaveQ {P : Heap → Value → Shared → Prop} {g : Heap} {L' : Addr} {m' : Str → Option Value} {news' : List (Addr × Obj)} {R : Result → Shared → Prop} {v : Value} {s' : Shared} (hP : ∀ g v s', LeaveG g R v s' → P g v s') (F' : Fr g L' s'.heap m') (N' : News g L' s'.heap news')
    (k : Kp g s'.heap → Has s'.heap news' → R (.ok (.ret v)) s') : LeaveQ P g v s' := hP _ _ _ ⟨L', m', news', F', N', k⟩
theorem LeaveG.out {g : Heap} {R : Result → Shared → Prop} {v : Value} {s' : Shared} (h : LeaveG g R v s') : R (.ok (.ret v)) s' :=
  let ⟨_, _, _, F', N', k⟩ := h; k F'.keep fun p hp => (N' p hp).1

/-- the end of a loop's turn; what is promised there is a variable -/
noncomputable def CiT (T : Flow → Shared → Prop) (f : Flow) (s : Shared) : Prop := T f s
theorem CiT.mk {T W : Flow → Shared → Prop} {f : Flow} {s : Shared} (h : ∀ f s', W f s' → T f s') (w : W f s) : CiT T f s := h f s w
theorem kp_of {h g h' : Heap} (H : Hid [] h g) (k : Kp g h') : Kp h h' := fun b o e => k b o (H b o (by simp) e)
theorem kpBut_of {as : List Addr} {h g h' : Heap} (H : Hid as h g) (k : Kp g h') : KpBut as h h' := fun b o hb e => k b o (H b o hb e)
theorem none_of {as : List Addr} {h g : Heap} {q : Addr} (H : Hid as h g) (e : g.get? q = none) (hq : q ∉ as) : h.get? q = none := by
  cases z : h.get? q with
  | none => rfl
  | some o => have := H q o hq z; rw [e] at this; cases this
theorem Has.get {h : Heap} {l : List (Addr × Obj)} {a : Addr} {o : Obj} (H : Has h l) (hm : (a, o) ∈ l) : h.get? a = some o := H _ hm
theorem kp_back {h g h' : Heap} {fp : List (Addr × Obj)} (H : Hid (fp.map (·.1)) h g) (k : Kp g h') (hs : Has h fp) (hs' : Has h' fp) : Kp h h' := fun b o e => by
  by_cases hb : b ∈ fp.map (·.1)
  · obtain ⟨p, hp, rfl⟩ := List.mem_map.mp hb
    have := hs p hp
    rw [this] at e; cases e
    exact hs' p hp
  · exact k b o (H b o hb e)
theorem News.has {h₀ h : Heap} {L : Addr} {l : List (Addr × Obj)} (N : News h₀ L h l) : Has h l := fun p hp => (N p hp).1
theorem has1 {h : Heap} {a : Addr} {oa : Obj} (ha : h.get? a = some oa) : Has h [(a, oa)] := fun p hp => by rw [List.mem_singleton.mp hp]; exact ha
theorem has_cons {h : Heap} {a : Addr} {oa : Obj} {l : List (Addr × Obj)} (ha : h.get? a = some oa) (hl : Has h l) : Has h ((a, oa) :: l) := fun p hp => by
  rcases List.mem_cons.mp hp with rfl | hp
  · exact ha
  · exact hl p hp
theorem has2 {h : Heap} {a b : Addr} {oa ob : Obj} (ha : h.get? a = some oa) (hb : h.get? b = some ob) : Has h [(a, oa), (b, ob)] := has_cons ha (has1 hb)
theorem has3 {h : Heap} {a b c : Addr} {oa ob oc : Obj} (ha : h.get? a = some oa) (hb : h.get? b = some ob) (hc : h.get? c = some oc) : Has h [(a, oa), (b, ob), (c, oc)] := has_cons ha (has2 hb hc)
theorem Kp.trans {h h' h'' : Heap} (a : Kp h h') (b : Kp h' h'') : Kp h h'' := fun x o e => b x o (a x o e)
theorem Kp.refl (h : Heap) : Kp h h := fun _ _ e => e
theorem Fr.kp {h₀ h h' : Heap} {L : Addr} {m : Str → Option Value} (F : Fr h₀ L h m) (k : Kp h h') : Fr h₀ L h' m := ⟨F.ns.keeps k, fun b o e => k b o (F.keep b o e), F.above⟩
theorem News.kp {h₀ h h' : Heap} {L : Addr} {news : List (Addr × Obj)} (N : News h₀ L h news) (k : Kp h h') : News h₀ L h' news := fun q hq => ⟨k _ _ (N q hq).1, (N q hq).2⟩
theorem Fr.kpBut {h₀ h h' : Heap} {L : Addr} {m : Str → Option Value} {as : List Addr} (F : Fr h₀ L h m) (k : KpBut as h h') (hL : L ∉ as) (h0 : ∀ b ∈ as, h₀.get? b = none) : Fr h₀ L h' m := by
  refine ⟨?_, fun b o e => k b o (fun hb => ?_) (F.keep b o e), F.above⟩
  · obtain ⟨o, es, ep, e, r⟩ := F.ns
    exact ⟨o, es, ep, k _ _ hL e, r⟩
  · have := h0 b hb; rw [e] at this; cases this

section
variable {prog : Program} {w : World} {A₀ A : Around} {s : Shared} {base h₀ : Heap} {outer : List Env} {L : Addr} {m mg mb : Str → Option Value} {env : Env} {fp : List (Addr × Obj)} {K : Frag} {p : Program} {loose : List Str} {mean : ExcName → Option Value}
  {R : Result → Shared → Prop} {name qual : Str} {params : Arguments} {body : List Stmt} {scope : Scope} {cl : List (Str × Addr)} {dV kV doc pm cdv ct oc : Value} {an od : Option Addr} {osl : Array (Option Value)} {f : Addr} {args : Args} {binds : List (Str × Value)}

theorem enterQ (B : Below A₀ base outer h₀) (F : Fr h₀ L s.heap m) (X₀ : K.In h₀) (N : News h₀ L s.heap fp) (T : Top p loose mean mg mb h₀) (hA : A.frames = some (env :: outer)) (hf : env.frame = some L) (hke : env.scope.kind = .function)
    (ho : K.lookup f = some ⟨oc, od, .func (fnX name qual params body scope cl dV kV doc pm an cdv ct), osl⟩) (hcd : codeIn K cdv qual = true) (hroom : A.depth < recursionLimit)
    (hbind : BindsTo s (fnX name qual params body scope cl dV kV doc pm an cdv ct) args binds) (hloc : ∀ y ∈ binds, scope.names.lookup y.1 = some .local)
    (h : ∀ P : Heap → Value → Shared → Prop, (∀ g v s', LeaveG g R v s' → P g v s') → ∀ g L' h₁, Hid (fp.map (·.1)) s.heap g → Fr g L' h₁ (fun y => binds.reverse.lookup y) → News g L' h₁ fp → Below A base (env :: outer) g → K.In g → Top p loose mean mg mb g → (∀ q ∈ fp, q.1 < L') →
      wpAny (model prog w) (A.deeper (envX qual scope L' f cdv cl)) (execs body (envX qual scope L' f cdv cl))
        (fun fl s' => LeaveQ P g (match fl with | .ret v => v | _ => .none) s')
        (fun _ _ => False)
        { s with heap := h₁, toks := s.toks + binds.length })
    (hco : scope.isCoroutine = false) (hgen : scope.isGenerator = false) (hk : scope.kind = .function)
    (hcell : ∀ x ∈ scope.names, x.2 ≠ .cell) : codeAny (model prog w) A (.call (.ref f) args) R s := by
  obtain ⟨FG, BG, st, _⟩ := groundX (R := R) B F N hA hf hke
  refine codeAny_call_def (fd := fnX name qual params body scope cl dV kV doc pm an cdv ct) (body := body) (binds := binds) hroom ((X₀.keeps F.keep) _ _ ho) rfl (T.nolimit.keeps F.keep) (codeRec_of (X₀.keeps F.keep) hcd) rfl hbind hcell hloc (fun h₁ hns hk₁ => ?_) hco hgen hk
  exact wpAny_mono (h (fun g => LeaveG g R) (fun _ _ _ y => y) (hideAll s.heap (fp.map fun q => q.1)) s.heap.objs.size h₁ (fun b o hb e => hideAll_get _ e hb) ⟨hns, fun b o e => hk₁ b o (of_hideAll _ e), Nat.le_of_eq (hideAll_size _ _)⟩
    (fun p hp => ⟨hk₁ _ _ (N p hp).1, Nat.ne_of_lt (Heap.lt_size (N p hp).1), hideAll_none _ (List.mem_map_of_mem hp)⟩) BG (X₀.keeps fun b o e => st b o e) (T.keeps fun b o e => st b o e) (fun p hp => Heap.lt_size (N p hp).1)) (fun fl s' hl => LeaveG.out hl) fun _ _ y => y.elim
end
end Mine
end

section
set_option maxRecDepth 100000
namespace Mine
section
variable {prog : Program} {w : World} {A₀ A : Around} {s : Shared} {base h₀ : Heap} {outer : List Env} {L : Addr} {m mg mb : Str → Option Value} {env : Env} {fp : List (Addr × Obj)} {K : Frag} {p : Program} {loose : List Str} {mean : ExcName → Option Value}
  {R : Result → Shared → Prop} {name qual : Str} {params : Arguments} {body : List Stmt} {scope : Scope} {cl : List (Str × Addr)} {dV kV doc pm cdv ct oc : Value} {an od : Option Addr} {osl : Array (Option Value)} {f : Addr} {args : Args} {binds : List (Str × Value)}

/-- a def with cells, entered; what stood is told by Hid -/
theorem enterQC (B : Below A₀ base outer h₀) (F : Fr h₀ L s.heap m) (X₀ : K.In h₀) (N : News h₀ L s.heap fp) (T : Top p loose mean mg mb h₀) (hA : A.frames = some (env :: outer)) (hf : env.frame = some L) (hke : env.scope.kind = .function)
    (ho : K.lookup f = some ⟨oc, od, .func (fnX name qual params body scope [] dV kV doc pm an cdv ct), osl⟩) (hcd : codeIn K cdv qual = true) (hroom : A.depth < recursionLimit)
    (hbind : BindsTo s (fnX name qual params body scope [] dV kV doc pm an cdv ct) args binds) (hkind : (binds.all fun y => scope.names.lookup y.1 == some .local || scope.names.lookup y.1 == some .cell) = true)
    (hnd : ((cellsFrom 0 scope.names []).map (·.1)).Nodup)
    (h : ∀ P : Heap → Value → Shared → Prop, (∀ g v s', LeaveG g R v s' → P g v s') → ∀ g L' h₁ tk cells, Hid (fp.map (·.1)) s.heap g → Fr g L' h₁ (bindL (envOfC qual scope L' f cdv).kindOf binds fun _ => none) → News g L' h₁ (cells ++ fp) →
      CellsAre (bindC (envOfC qual scope L' f cdv).kindOf binds fun _ => none) (cellsFrom (L' + 1) scope.names []) cells → Below A base (env :: outer) g → K.In g → Top p loose mean mg mb g → (∀ q ∈ fp, q.1 < L') → L' = s.heap.objs.size →
      wpAny (model prog w) (A.deeper (envOfC qual scope L' f cdv)) (execs body (envOfC qual scope L' f cdv))
        (fun fl s' => LeaveQ P g (match fl with | .ret v => v | _ => .none) s')
        (fun _ _ => False)
        { s with heap := h₁, toks := tk })
    (hco : scope.isCoroutine = false) (hgen : scope.isGenerator = false) (hk : scope.kind = .function) : codeAny (model prog w) A (.call (.ref f) args) R s := by
  obtain ⟨FG, BG, st, _⟩ := groundX (R := R) B F N hA hf hke
  refine codeAny_call_function hroom ((X₀.keeps F.keep) _ _ ho) rfl hco hgen rfl (codeRec_of (X₀.keeps F.keep) hcd) (hbind _ _ _ _ ?_)
  refine wpAny_newFunctionEnv_cells hk (kindsX hkind _) fun env' he s' x => ?_
  subst he
  refine ⟨(T.nolimit.keeps F.keep).keeps x.toInCall.keep, codeAny_func ?_⟩
  obtain ⟨h₁, tk, rfl, _⟩ := x.done
  have hk₁ := x.toInCall.keep
  obtain ⟨cells, NC, Y⟩ := Cl.news (h₀ := s.heap) (Nat.le_refl _) fun n c hm => ⟨x.cell n c (lookup_of_mem_nodup (cellsFrom_names scope.names 0 (s.heap.objs.size + 1) [] [] rfl ▸ hnd) hm), x.above n c hm⟩
  refine wpAny_mono (h (fun g => LeaveG g R) (fun _ _ _ y => y) (hideAll s.heap (fp.map fun q => q.1)) s.heap.objs.size h₁ tk cells (fun b o hb e => hideAll_get _ e hb) ⟨x.toInCall.ns, fun b o e => hk₁ b o (of_hideAll _ e), Nat.le_of_eq (hideAll_size _ _)⟩ (fun q hq => ?_) Y BG (X₀.keeps fun b o e => st b o e) (T.keeps fun b o e => st b o e) (fun q hq => Heap.lt_size (N q hq).1) rfl) (fun fl s' hl => LeaveG.out hl) fun _ _ y => y.elim
  rcases List.mem_append.mp hq with hq | hq
  · refine ⟨(NC q hq).1, (NC q hq).2.1, ?_⟩
    cases e : (hideAll s.heap (fp.map (·.1))).get? q.1 with
    | none => rfl
    | some o => have := of_hideAll _ e; rw [(NC q hq).2.2] at this; cases this
  · exact ⟨hk₁ _ _ (N q hq).1, Nat.ne_of_lt (Heap.lt_size (N q hq).1), hideAll_none _ (List.mem_map_of_mem hq)⟩

/-- a def that stands on the ledger (made in a call, with a closure), entered -/
theorem enterQN {c' : Addr} {ctv : Value} (B : Below A₀ base outer h₀) (F : Fr h₀ L s.heap m) (X₀ : K.In h₀) (N : News h₀ L s.heap fp) (T : Top p loose mean mg mb h₀) (hA : A.frames = some (env :: outer)) (hf : env.frame = some L) (hke : env.scope.kind = .function)
    (ho : (f, fnMade name qual params body scope cl doc pm c' ctv) ∈ fp) (hcd : s.heap.CodeRec (.ref c') qual) (hroom : A.depth < recursionLimit)
    (hbind : BindsTo s (fnX name qual params body scope cl .none .none doc pm none (.ref c') ctv) args binds) (hloc : ∀ y ∈ binds, scope.names.lookup y.1 = some .local)
    (h : ∀ P : Heap → Value → Shared → Prop, (∀ g v s', LeaveG g R v s' → P g v s') → ∀ g L' h₁, Hid (fp.map (·.1)) s.heap g → Fr g L' h₁ (fun y => binds.reverse.lookup y) → News g L' h₁ fp → Below A base (env :: outer) g → K.In g → Top p loose mean mg mb g → (∀ q ∈ fp, q.1 < L') → L' = s.heap.objs.size →
      wpAny (model prog w) (A.deeper (envX qual scope L' f (.ref c') cl)) (execs body (envX qual scope L' f (.ref c') cl))
        (fun fl s' => LeaveQ P g (match fl with | .ret v => v | _ => .none) s')
        (fun _ _ => False)
        { s with heap := h₁, toks := s.toks + binds.length })
    (hco : scope.isCoroutine = false) (hgen : scope.isGenerator = false) (hk : scope.kind = .function)
    (hcell : ∀ x ∈ scope.names, x.2 ≠ .cell) : codeAny (model prog w) A (.call (.ref f) args) R s := by
  obtain ⟨FG, BG, st, _⟩ := groundX (R := R) B F N hA hf hke
  refine codeAny_call_def (fd := fnX name qual params body scope cl .none .none doc pm none (.ref c') ctv) (body := body) (binds := binds) hroom (N _ ho).1 rfl (T.nolimit.keeps F.keep) hcd rfl hbind hcell hloc (fun h₁ hns hk₁ => ?_) hco hgen hk
  exact wpAny_mono (h (fun g => LeaveG g R) (fun _ _ _ y => y) (hideAll s.heap (fp.map fun q => q.1)) s.heap.objs.size h₁ (fun b o hb e => hideAll_get _ e hb) ⟨hns, fun b o e => hk₁ b o (of_hideAll _ e), Nat.le_of_eq (hideAll_size _ _)⟩
    (fun p hp => ⟨hk₁ _ _ (N p hp).1, Nat.ne_of_lt (Heap.lt_size (N p hp).1), hideAll_none _ (List.mem_map_of_mem hp)⟩) BG (X₀.keeps fun b o e => st b o e) (T.keeps fun b o e => st b o e) (fun p hp => Heap.lt_size (N p hp).1) rfl) (fun fl s' hl => LeaveG.out hl) fun _ _ y => y.elim
end
end Mine
end

section
set_option maxRecDepth 100000
set_option maxHeartbeats 4000000
namespace Mine
open PySem.Calls PySem.Builtin PySem.Builtin.ObjectAttr

theorem slot_fnset : Slot "function" (Str.ofString "__setattr__") "object.__setattr__" :=
  .of (owner := "object") (n := "__setattr__") (by rw [typeLookup_type, builtinLookup_eq_fast]; kernel_rfl) (by decide +kernel) (by decide +kernel) (by decide +kernel)
    (by first | exact .inl (by decide +kernel) | exact .inr (by decide +kernel)) (by rw [isSubtype_type]; kernel_rfl)
theorem fn_mro : mroOf (.type "function") = pure [.type "function", .type "object"] := by rw [mroOf_type]; kernel_rfl
theorem fn_refuse (self : Value) : refuseLoop self "__setattr__" [.type "function", .type "object"] = pure () := by kernel_rfl
theorem fn_read : typeLookup (.type "function") (Str.ofString "read") = pure none := by rw [typeLookup_type, builtinLookup_eq_fast]; kernel_rfl
theorem fn_hasDict : typeHasDict (.type "function") = true := by decide +kernel

theorem push_at {h : Heap} {o : Obj} (ho : o.isFreed = false) : (h.push o).get? h.objs.size = some o := Heap.get?_push_size _ ho
section
variable {prog : Program} {w : World} {A : Around} {E : Value → Shared → Prop} {s : Shared} {h₀ : Heap} {L f : Addr} {m : Str → Option Value} {fd : FuncData} {sl : Array (Option Value)} {news : List (Addr × Obj)} {g : Obj → List (Addr × Obj)}
noncomputable abbrev fnObj (od : Option Addr) (fd : FuncData) (sl : Array (Option Value)) : Obj := ⟨.type "function", od, .func fd, sl⟩
/-- stream.read = .. : a def's own dict is made -/
theorem set_fn {v : Value} {Q : Unit → Shared → Prop} (F : Fr h₀ L s.heap m) (N : News h₀ L s.heap news) (U : UpdF f (fnObj none fd sl) news g)
    (h : ∀ d h' t, Fr h₀ L h' m → News h₀ L h' ((d, dictOf [⟨PyData.keyHash w.params (Str.ofString "read"), .str (Str.ofString "read") t, v⟩] 1) :: g (fnObj (some d) fd sl)) → (∀ p ∈ news, p.1 < d) → Q () { s with heap := h', toks := s.toks + 1 + 1 }) :
    wpAny (model prog w) A (setAttr (.ref f) (Str.ofString "read") v) Q E s := by
  obtain ⟨pre, post, rfl, hg, u1, u2⟩ := U.split
  have hf := (N (f, fnObj none fd sl) (List.mem_append_right _ (.head _))).1
  have hT : ({ s with toks := s.toks + 1 } : Shared).TypeIs (.ref f) "function" := ⟨_, hf, rfl⟩
  unfold setAttr
  refine wpAny_bind (wpAny_mkText (wpAny_bind (wpAny_callSpecial?_slot hT slot_fnset (wpAny_call_entry slot_fnset hT PySem.F.store_object.entry ?_ (PySem.F.store_object.args _ _ _)))))
  rw [osa_eq, refuse_eq]
  refine wpAny_bind (wpAny_bind (wpAny_typeOf (T := "function") hT (wpAny_bind (wpAny_of_eq fn_mro ?_))))
  rw [fn_refuse]
  refine wpAny_pure (wpAny_bind (wpAny_typeOf (T := "function") hT (wpAny_bind (wpAny_of_eq fn_read ?_))))
  refine wpAny_bind (wpAny_pure ?_)
  show wpAny _ _ (storeInOwnDict (.ref f) (.type "function") _ _ _ _) _ _ _
  unfold storeInOwnDict
  refine wpAny_bind (wpAny_pure ?_)
  show wpAny _ _ (ownDictForStores (.ref f) >>= _) _ _ _
  unfold ownDictForStores instanceDict
  refine wpAny_bind (wpAny_bind (wpAny_loadPart hf ?_))
  show wpAny _ _ (if _ then _ else _) _ _ _
  rw [if_neg (by rw [fn_hasDict]; decide)]
  refine wpAny_bind (wpAny_alloc (wpAny_bind (wpAny_update (o := fnObj none fd sl) (Heap.get?_push_of_some _ hf) ?_)))
  have F1 := F.push emptyDict
  have N1 := N.push F emptyDict
  have hlt : ∀ p ∈ pre ++ (f, fnObj none fd sl) :: post, p.1 < s.heap.objs.size := fun p hp => Heap.lt_size (N p hp).1
  have hne : ∀ p ∈ pre ++ (f, fnObj none fd sl) :: post, p.1 ≠ s.heap.objs.size := fun p hp => Nat.ne_of_lt (hlt p hp)
  obtain ⟨F2, N2⟩ := news_upd (pre := (s.heap.objs.size, emptyDict) :: pre) (post := post) (d := f) (o := fnObj none fd sl) (o' := fnObj (some s.heap.objs.size) fd sl) (f := fun o => { o with dict := some s.heap.objs.size }) F1 N1
    (fun p hp => by rcases List.mem_cons.mp hp with rfl | hp; exact (hne (f, fnObj none fd sl) (List.mem_append_right _ (.head _))).symm; exact u1 p hp) u2 rfl rfl
  show wpAny _ _ (dictMade (.type "function") f s.heap.objs.size) _ _ _
  refine wpAny_bind (wpAny_pure (wpAny_pure ?_))
  show wpAny _ _ (storeInDict s.heap.objs.size _ _ _) _ _ _
  unfold storeInDict
  refine wpAny_bind (wpAny_pure (wpAny_bind ?_))
  unfold nsSet
  have D := (N2 (s.heap.objs.size, emptyDict) (.head _)).1
  refine wpAny_bind (wpAny_bind (wpAny_askSetting (wpAny_pure (wpAny_bind (wpAny_mkText (wpAny_bind (wpAny_loadPart D ?_)))))))
  dsimp only
  rw [if_neg (by decide)]
  refine wpAny_updatePart D ?_
  have hpost : ∀ p ∈ pre ++ (f, fnObj (some s.heap.objs.size) fd sl) :: post, p.1 ≠ s.heap.objs.size := fun p hp => by
    rcases List.mem_append.mp hp with hp | hp
    · exact hne p (List.mem_append_left _ hp)
    · rcases List.mem_cons.mp hp with rfl | hp
      · exact hne (f, fnObj none fd sl) (List.mem_append_right _ (.head _))
      · exact hne p (List.mem_append_right _ (.tail _ hp))
  obtain ⟨F3, N3⟩ := news_upd (pre := []) (post := pre ++ (f, fnObj (some s.heap.objs.size) fd sl) :: post) (d := s.heap.objs.size) (o := emptyDict) (o' := dictOf [⟨PyData.keyHash w.params (Str.ofString "read"), .str (Str.ofString "read") (s.toks + 1), v⟩] 1)
    (f := Obj.putName (Str.ofString "read") (PyData.keyHash w.params (Str.ofString "read")) (.str (Str.ofString "read") (s.toks + 1)) v) F2 N2 (fun p hp => nomatch hp) hpost rfl rfl
  have D' := (N3 (s.heap.objs.size, _) (.head _)).1
  refine wpAny_bind (wpAny_lookBehind D' (by exact pastItsLine_dict (by show 1 ≤ sizeLine + 1; omega)) ?_)
  refine wpAny_pure ⟨_, rfl, wpAny_pure ?_⟩
  exact h _ _ _ F3 (by rw [hg]; exact N3) hlt
end
end Mine
end

section
namespace Mine
open Builtin Builtin.Str StrLaws

noncomputable def S (l : List Nat) : Str := ⟨l.toArray⟩
theorem S_cps (l : List Nat) : (S l).cps.toList = l := rfl
theorem S_len (l : List Nat) : (S l).length = l.length := by simp [S, Str.length]
theorem S_app (a b : List Nat) : S a ++ S b = S (a ++ b) := Str.ext' (by simp [S, Str.cps_append])
theorem S_inj {a b : List Nat} (h : S a = S b) : a = b := by
  have := congrArg (fun x => x.cps.toList) h
  simpa [S] using this
theorem S_beq (a b : List Nat) : (S a == S b) = (a == b) := by
  rw [Bool.eq_iff_iff]; simp only [beq_iff_eq]
  exact ⟨S_inj, fun h => by rw [h]⟩
theorem S_of (x : Str) : x = S x.cps.toList := Str.ext' (by simp [S])
theorem S_nil : S [] = Str.empty := rfl
theorem S_ofString (s : String) (l : List Nat) (h : Str.ofString s = ⟨l.toArray⟩) : Str.ofString s = S l := h
theorem dots_S : Str.ofString "..." = S [46, 46, 46] := by decide +kernel
theorem empty_S : Str.ofString "" = S [] := by decide +kernel

theorem S_startswith (a b : List Nat) : Txt.startswith (S a) (S b) = b.isPrefixOf a := by
  unfold Txt.startswith
  rw [subAt_eq, S_len, S_len, S_cps, S_cps, List.drop_zero, Nat.zero_add]
  rw [Bool.eq_iff_iff]
  simp only [Bool.and_eq_true, decide_eq_true_eq, beq_iff_eq, List.isPrefixOf_iff_prefix]
  constructor
  · rintro ⟨_, h⟩; exact h ▸ List.take_prefix _ _
  · intro h; exact ⟨h.length_le, (List.prefix_iff_eq_take.mp h).symm⟩

theorem dot_at {a : List Nat} (h : ∀ c ∈ a, c ≠ 46) (k : Nat) : At (S (a ++ [46, 46, 46])) (S [46, 46, 46]) (S (a ++ [46, 46, 46])).length k ↔ k = a.length := by
  unfold At
  rw [subAt_eq, S_len, S_len, S_cps, S_cps]
  simp only [List.length_append, List.length_cons, List.length_nil, beq_iff_eq]
  constructor
  · rintro ⟨h1, h2⟩
    have hk : k ≤ a.length := by omega
    rcases Nat.lt_or_eq_of_le hk with hlt | e
    · exfalso
      have e0 : ((a ++ [46, 46, 46]).drop k).take (0+1+1+1) = [46, 46, 46] := h2
      have e1 := congrArg (fun l => l[0]?) e0
      simp only [List.getElem?_take, List.getElem?_drop] at e1
      rw [List.getElem?_append_left (by omega)] at e1
      simp at e1
      obtain ⟨hk', e2⟩ := List.getElem?_eq_some_iff.mp e1
      exact h _ (List.getElem_mem _) e2
    · exact e
  · rintro rfl
    refine ⟨by omega, ?_⟩
    rw [List.drop_left]
    rfl

theorem occ_dots {a : List Nat} (h : ∀ c ∈ a, c ≠ 46) : occurrences (S (a ++ [46, 46, 46])) (S [46, 46, 46]) 0 (S (a ++ [46, 46, 46])).length ((S (a ++ [46, 46, 46])).length + 1) = [a.length] := by
  obtain ⟨f, hc, hn⟩ := occ_tight (S (a ++ [46, 46, 46])) (S [46, 46, 46]) (by rw [S_len]; decide)
  generalize occurrences (S (a ++ [46, 46, 46])) (S [46, 46, 46]) 0 (S (a ++ [46, 46, 46])).length ((S (a ++ [46, 46, 46])).length + 1) = o at hc
  cases o with
  | nil =>
    have e : f = 0 := hc
    subst e
    exact absurd ((dot_at h a.length).mpr rfl) (hn _ (Nat.zero_le _))
  | cons c r =>
    obtain ⟨_, h1, _, h3⟩ := hc
    have e := (dot_at h c).mp h1
    subst e
    cases r with
    | nil => rfl
    | cons d r =>
      obtain ⟨h4, h5, _⟩ := h3
      have e := (dot_at h d).mp h5
      rw [S_len] at h4
      simp at h4
      omega
theorem occ1_dots {a : List Nat} (h : ∀ c ∈ a, c ≠ 46) : (occurrences (S (a ++ [46, 46, 46])) (S [46, 46, 46]) 0 (S (a ++ [46, 46, 46])).length 1).isEmpty = false := by
  have := occ_head (S (a ++ [46, 46, 46])) (S [46, 46, 46]) 1 (Nat.le_refl _)
  rcases this with ⟨h1, h2⟩ | ⟨x, r, h1, _⟩
  · exact absurd ((dot_at h a.length).mpr rfl) (h2 _)
  · rw [h1]; rfl
theorem strKind_dots (a : List Nat) : ¬ strKind (S (a ++ [46, 46, 46])) < strKind (S [46, 46, 46]) := by
  have e : strKind (S [46, 46, 46]) = 1 := by
    unfold Builtin.Str.strKind
    rw [if_pos (by rw [← Array.all_toList, S_cps]; decide)]
  rw [e]
  unfold Builtin.Str.strKind
  split
  · omega
  · split <;> omega
theorem split_dots {a : List Nat} (h : ∀ c ∈ a, c ≠ 46) : Txt.split (S (a ++ [46, 46, 46])) (S [46, 46, 46]) = [S a, S []] := by
  unfold Txt.split
  rw [if_neg, occ_dots h, if_neg (by simp), partsBetween_eq]
  · unfold partsFrom partsFrom
    rw [S_len, S_len]
    congr 1
    · apply Str.ext'; simp [strSub, S]
    · congr 1
      apply Str.ext'; simp [strSub, S]
  · simp only [Bool.or_eq_true, decide_eq_true_eq, S_len, List.length_append, List.length_cons, List.length_nil]
    intro hh
    rcases hh with hh | hh
    · omega
    · exact strKind_dots a hh
end Mine
namespace Mine
open PySem PySem.Builtin PySem.Builtin.Str PySem.StrLaws
theorem occ_empty (x : Str) {a b : Nat} (hab : a ≤ b) : ∃ r, occurrences x (S []) a b 1 = a :: r := by
  rw [occ_eq]
  have hb : b + 1 - a = (b - a) + 1 := Nat.succ_sub hab
  have at_a : At x (S []) b a := ⟨by rw [S_len]; simpa using hab, by rw [subAt_eq, S_len, S_cps]; simp⟩
  rcases occ_first x (S []) b 1 (Nat.le_refl _) (List.range' a (b + 1 - a)) a (fun i hi => (List.mem_range'_1.mp hi).1) with ⟨_, hn⟩ | ⟨pre, c, post, e, h0, _, hn⟩
  · exact absurd at_a (hn a (List.mem_range'_1.mpr ⟨Nat.le_refl _, by rw [Nat.add_sub_cancel' (Nat.le_succ_of_le hab)]; exact Nat.lt_succ_of_le hab⟩))
  · have hc : c = a := by
      rw [hb, List.range'_succ] at e
      cases pre with
      | nil => exact (List.cons.inj e).1.symm
      | cons q pre =>
        have := (List.cons.inj e).1
        exact absurd at_a (hn a (by rw [this]; exact .head _))
    subst hc
    generalize (forIn (List.range' c (b + 1 - c)) ((#[] : Array Nat), c) (occBody x (S []) b 1)).run.fst = arr at h0
    have h1 : arr.toList[0]? = some c := by simpa using h0
    cases hL : arr.toList with
    | nil => rw [hL] at h1; cases h1
    | cons d t => rw [hL] at h1; simp at h1; exact ⟨t, by rw [h1]⟩
theorem from_nat (n a : Nat) : fromIndex n (a : Int) = a := by
  unfold fromIndex
  rw [if_neg (Int.not_lt.mpr (Int.natCast_nonneg a)), Int.max_eq_right (Int.natCast_nonneg a), Int.toNat_natCast]
theorem args_find4 (a b c d : Value) : argsOk "str.find" ⟨[a, b, c, d], []⟩ := by unfold argsOk; kernel_rfl
theorem find4 {prog : Program} {w : World} {A : Around} {E : Value → Shared → Prop} {s : Shared} {x : Str} {t u v v' : Tok} {i j : Int} {Q : Value → Shared → Prop} (h0 : 0 ≤ i) (h1 : i ≤ j) (h2 : j ≤ x.length)
    (hq : Q (.int i s.toks) { s with toks := s.toks + 1 }) : wpAny (model prog w) A (call (.builtin "str.find") [.str x t, .str (S []) u, .int i v, .int j v']) Q E s := by
  refine call_gives F.slot_str_find (typeIs_str _ _ _) F.entry_str_find (args_find4 _ _ _ _) (m := .int i) ?_ hq
  show Gives (match occurrences x (S []) (fromIndex x.length i) (min (fromIndex x.length j) x.length) 1 with | k :: _ => retInt k | [] => (do rule "str.find.not-found"; retInt (-1))) _
  obtain ⟨a, rfl⟩ := Int.eq_ofNat_of_zero_le h0
  obtain ⟨b, rfl⟩ := Int.eq_ofNat_of_zero_le (Int.le_trans h0 h1)
  obtain ⟨r, hr⟩ := occ_empty x (a := a) (b := min b x.length) (Nat.le_min.mpr ⟨Int.ofNat_le.mp h1, Int.ofNat_le.mp (Int.le_trans h1 h2)⟩)
  rw [from_nat, from_nat, hr]
  exact .of_eq rfl
end Mine
end

section
set_option maxRecDepth 100000
set_option maxHeartbeats 4000000
namespace Mine
open PySem.Calls PySem.Builtin PySem.Builtin.ObjectAttr

noncomputable abbrev accObj (dx : Addr) (vs : List Value) (n : Nat) : Obj := ⟨.ref 101, some dx, .seq vs.toArray n, #[]⟩
theorem instAt_acc {h₀ h : Heap} {L x dx : Addr} {vs : List Value} {n : Nat} {od : Obj} {news : List (Addr × Obj)} (N : News h₀ L h news) (h1 : (x, accObj dx vs n) ∈ news) (h2 : (dx, od) ∈ news) :
    InstAt h x (accObj dx vs n) 101 (some od) := ⟨(N _ h1).1, rfl, rfl, (N _ h2).1⟩

section
variable {prog : Program} {w : World} {A : Around} {E : Value → Shared → Prop} {s : Shared} {K : Frag} {x C L : Addr} {h₀ : Heap} {m : Str → Option Value} {ox : Obj} {od : Option Obj}

/-- an object whose class is the text's own: its type looks -/
theorem type_at {M : Model} {h : Heap} {x C : Addr} {o : Obj} (e : h.get? x = some o) (hc : o.cls = .ref C) : Looks M h (typeOf (.ref x)) (.ref C) := hc ▸ (Looks.ld e).andThen .now

/-- a special method that is a built-in slot -/
theorem special_bi {M : Model} {name : Str} {id : String} {args : List Value} {Q : Option Value → Shared → Prop} (X : K.In s.heap) (ht : Looks M s.heap (typeOf (.ref x)) (.ref C)) (hs : findIn K (.ref C) name = some (some (.builtin id)))
    (hb : ∀ self, bindSpecial (.builtin id) self = pure (.builtin id, [self])) (h : wpAny M A (call (.builtin id) (.ref x :: args)) (fun v => Q (some v)) E s) : wpAny M A (callSpecial? (.ref x) name args) Q E s := by
  unfold callSpecial?
  refine wpAny_bind (wpAny_bind (ht.here ((looks_findIn X hs).here (wpAny_holding ?_))))
  rw [hb]
  exact wpAny_bind (wpAny_pure (wpAny_bind (wpAny_mono h (fun _ _ z => wpAny_pure z) fun _ _ z => z)))

/-- a slot of list called on an object of an own subclass -/
theorem call_bi {id n : String} {Bt : Builtin} {rest : List Value} {Q : Value → Shared → Prop} (X : K.In s.heap) (ht : Looks (model prog w) s.heap (typeOf (.ref x)) (.ref C)) (hsub : subIn K (.ref C) (.type "list") = some true)
    (hk : builtinKind id = some .slot) (hsp : splitId id = some ("list", n)) (hp : plainId id = true) (he : entryFor table id = some Bt) (ha : argsOk id ⟨.ref x :: rest, []⟩)
    (h : wpAny (model prog w) A.in1 (Bt ⟨.ref x :: rest, []⟩) (fun fin s' => match fin with | .done (.ret v) => Q v s' | .done _ => False | .again _ => False) E s) : wpAny (model prog w) A (call (.builtin id) (.ref x :: rest)) Q E s := by
  refine wpAny_call (codeAny_call_builtin hp he (check_slot hk hsp (ht.andThen (looks_subIn X hsub)) ha ?_))
  refine wpAny_mono h (fun fin s' z => ?_) fun _ _ z => z
  cases fin with
  | done f => cases f <;> first | exact z | exact z.elim
  | again c => exact z.elim

theorem seqKey_own {M : Model} {name : Str} {i : Value} {Q : Value → Shared → Prop} (X : K.In s.heap) (ht : Looks M s.heap (typeOf (.ref x)) (.ref C)) (hq : noSeq K C = true) (h : Q i s) : wpAny M A (sequenceKey (.ref x) i name) Q E s := by
  unfold sequenceKey
  refine wpAny_bind (ht.here ?_)
  refine wpAny_bind ((anyM_none X hq).here ?_)
  rw [if_pos (show (!false) = true from rfl)]
  exact wpAny_pure h

theorem kind_lsi : builtinKind "list.__setitem__" = some .slot := by decide +kernel
theorem split_lsi : splitId "list.__setitem__" = some ("list", "__setitem__") := by decide +kernel
theorem kind_lgi : builtinKind "list.__getitem__" = some .method := by decide +kernel
theorem split_lgi : splitId "list.__getitem__" = some ("list", "__getitem__") := by decide +kernel

theorem check_meth {M : Model} {i owner n : String} {self : Value} {rest : List Value} {kw : List (Str × Value)} {Q : Unit → Shared → Prop}
    (hk : builtinKind i = some .method) (hs : splitId i = some (owner, n)) (hi : Looks M s.heap (isInstance self (.type owner)) true) (ha : argsOk i ⟨self :: rest, kw⟩) (q : Q () s) :
    wpAny M A (checkBuiltinCall i ⟨self :: rest, kw⟩) Q E s := by
  simp only [checkBuiltinCall, hk, hs]
  refine wpAny_bind (hi.here ?_)
  simp only [Bool.not_true, Bool.false_eq_true, if_false]
  cases hsig : Manifest.signature? i with
  | none => exact wpAny_pure q
  | some sig =>
    simp only [argsOk, hsig] at ha
    have h2 : Bind.checkArgs i sig ⟨self :: rest, kw⟩ = pure () := ha
    show wpAny M A (Bind.checkArgs i sig ⟨self :: rest, kw⟩) Q E s
    rw [h2]; exact wpAny_pure q

/-- the parts of a slice [lo:] -/
theorem slice_head {M : Model} {sl : Addr} {vl : Value} {lo : Option Int} {β : Type} {k : Value × Value × Value → Sem β} {Q : β → Shared → Prop} (hs : s.heap.IsSliceOf sl vl .none .none) (pl : IsPart vl lo)
    (h : wpAny M A (k (rawPart lo, .none, .none)) Q E s) : wpAny M A (Builtin.List.listSliceParts (.ref sl) >>= k) Q E s := by
  obtain ⟨os, hos, hcs, hds⟩ := id hs
  rw [listSliceParts_eq]
  refine wpAny_bind (wpAny_bind (wpAny_field hos hds (x := .none) rfl (wpAny_bind (wpAny_listPart .none ?_))))
  rw [if_neg (by exact Bool.false_ne_true)]
  refine wpAny_bind (wpAny_field hos hds (x := vl) rfl (wpAny_bind (wpAny_listPart pl ?_)))
  exact wpAny_bind (wpAny_field hos hds (x := .none) rfl (wpAny_bind (wpAny_listPart .none (wpAny_pure h))))
theorem slice_sub {M : Model} {sl : Addr} {vl vu vs : Value} {β : Type} {k : Option Int → Sem β} {Q : β → Shared → Prop} (hs : s.heap.IsSliceOf sl vl vu vs) (h : wpAny M A (k none) Q E s) :
    wpAny M A (Builtin.List.listSubscript? (.ref sl) >>= k) Q E s := by
  obtain ⟨os, hos, hcs, hds⟩ := id hs
  have hTs : s.TypeIs (.ref sl) "slice" := ⟨os, hos, hcs⟩
  unfold Builtin.List.listSubscript?
  refine wpAny_bind (wpAny_bind (wpAny_specialOf hTs slice_no_index ?_))
  simp only [Option.isNone_none, if_true]
  exact wpAny_pure h

noncomputable def loNat : Option Int → Nat
  | none => 0
  | some i => i.toNat
theorem bounds_lo {lo : Option Int} {n : Nat} (h : ∀ i, lo = some i → 0 ≤ i ∧ i ≤ n) : sliceBounds lo none none n = ((loNat lo : Int), (n : Int), 1) := by
  unfold sliceBounds
  cases lo with
  | none => rfl
  | some i =>
    have := h i rfl
    simp only [Option.getD_none, loNat]
    rw [if_pos (by decide), if_neg (by omega), if_pos (by decide)]
    rw [Int.min_eq_left this.2, Int.max_eq_right this.1, Int.toNat_of_nonneg this.1]
theorem isList_ne {h : Heap} {x l dx : Addr} {vs : List Value} {n : Nat} {items : Array Value} (hx : h.get? x = some (accObj dx vs n)) (hl : h.IsList l items) : x ≠ l := by
  rintro rfl
  obtain ⟨o, ho, hc, _⟩ := hl
  rw [hx] at ho; cases ho; cases hc

theorem setSlice_acc {Q : Unit → Shared → Prop} {news : List (Addr × Obj)} {g : Obj → List (Addr × Obj)} {l dx : Addr} {vs ys : List Value} {n : Nat} {vl : Value} {lo : Option Int} (F : Fr h₀ L s.heap m) (X₀ : (Mine.hd.heap_39 w.params).In h₀) (N : News h₀ L s.heap news)
    (hi : findIn (Mine.hd.heap_39 w.params) (.ref 101) (Str.ofString "__setitem__") = some (some (.builtin "list.__setitem__"))) (hq : noSeq (Mine.hd.heap_39 w.params) 101 = true) (hsub : subIn (Mine.hd.heap_39 w.params) (.ref 101) (.type "list") = some true)
    (U : UpdF x (accObj dx vs n) news g) (hl : s.heap.IsList l ys.toArray) (pl : IsPart vl lo) (hlo : ∀ i, lo = some i → 0 ≤ i ∧ i ≤ vs.length) (hz : vs.length ≤ 1000) (hz' : ys.length ≤ 1000)
    (h : ∀ h' n', Fr h₀ L h' m → News h₀ L h' (g (accObj dx (vs.take (loNat lo) ++ ys) n')) → Q () { s with heap := h' }) :
    wpAny (model prog w) A (setItem (.ref x) (.ref s.heap.objs.size) (.ref l)) Q E { s with heap := s.heap.push { cls := .type "slice", data := .fields #[vl, .none, .none] } } := by
  obtain ⟨pre, post, rfl, hg, h1, h2⟩ := U.split
  have F1 := F.push { cls := .type "slice", data := .fields #[vl, .none, .none] }
  have N1 : News h₀ L (s.heap.push { cls := .type "slice", data := .fields #[vl, .none, .none] }) (pre ++ (x, accObj dx vs n) :: post) := fun p hp => (N.push F _) p (.tail _ hp)
  have hl1 := hl.push { cls := .type "slice", data := .fields #[vl, .none, .none] }
  have hx := (N1 (x, accObj dx vs n) (by simp)).1
  have hs := Heap.IsSliceOf.new s.heap vl .none .none
  have X := X₀.keeps F1.keep
  generalize hh : s.heap.push { cls := .type "slice", data := .fields #[vl, .none, .none] } = hp at *
  have ht : Looks (model prog w) hp (typeOf (.ref x)) (.ref 101) := type_at hx rfl
  have ne := isList_ne hx hl1
  obtain ⟨ol, hol, hcl, nl, hdl⟩ := id hl1
  obtain ⟨osl, hos, hcs, hds⟩ := id hs
  unfold setItem
  refine wpAny_holding (wpAny_bind (seqKey_own (s := { s with heap := hp }) X ht hq ?_))
  refine wpAny_bind (special_bi (s := { s with heap := hp }) X ht hi PySem.F.slot_list_setitem.bind ?_)
  refine call_bi (s := { s with heap := hp }) X ht hsub kind_lsi split_lsi PySem.F.slot_list_setitem.plain PySem.F.entry_list_setitem (PySem.F.args_list_setitem_3 _ _ _) ?_
  show wpAny _ _ (Builtin.List.listSubscript? (.ref s.heap.objs.size) >>= _) _ _ _
  refine slice_sub (s := { s with heap := hp }) hs ?_
  show wpAny _ _ (typeOf (.ref s.heap.objs.size) >>= _) _ _ _
  refine wpAny_bind (wpAny_typeOf (s := { s with heap := hp }) (T := "slice") ⟨osl, hos, hcs⟩ ?_)
  rw [if_neg (by decide)]
  refine slice_head (s := { s with heap := hp }) hs pl ?_
  dsimp only
  have e1 : Builtin.List.listSameRef (.ref x) (.ref l) = false := by simp [Builtin.List.listSameRef, ne]
  rw [e1, if_neg (by exact Bool.false_ne_true)]
  refine wpAny_bind (m := Builtin.List.listAllItems (.ref l) _) ?_
  unfold Builtin.List.listAllItems
  refine wpAny_bind (wpAny_typeOf (s := { s with heap := hp }) (T := "list") ⟨ol, hol, hcl⟩ ?_)
  rw [if_pos (by decide)]
  unfold Builtin.List.listItems
  refine wpAny_bind (wpAny_seqItems (s := { s with heap := hp }) hol hdl (wpAny_pure ?_))
  refine wpAny_bind (wpAny_bind (wpAny_seqItems (s := { s with heap := hp }) hx rfl (wpAny_pure ?_)))
  have hb := bounds_lo (lo := lo) (n := vs.toArray.size) (fun i hi => by simpa using hlo i hi)
  refine wpAny_bind (wpAny_of_eq (sliceIndices_raw lo none none vs.toArray.size (by simp)) ?_)
  rw [hb]
  dsimp only
  rw [if_pos (by decide)]
  refine wpAny_bind (wpAny_rule ?_)
  have hloN : loNat lo ≤ vs.length := by
    cases lo with
    | none => exact Nat.zero_le _
    | some i => have := hlo i rfl; simp only [loNat]; exact Int.toNat_le.mpr this.2
  rw [if_neg (by simp only [Builtin.List.listTooLong, List.size_toArray, decide_eq_true_eq, sizeLine_eq]; omega)]
  have em : (Max.max ((loNat lo : Nat) : Int) ((vs.toArray.size : Nat) : Int)).toNat = vs.length := by rw [List.size_toArray, Int.max_eq_right (Int.ofNat_le.mpr hloN), Int.toNat_natCast]
  have e0 : ((loNat lo : Nat) : Int).toNat = loNat lo := Int.toNat_natCast _
  rw [em, e0]
  have ef : Obj.mapSeq (fun xs : Array Value => xs.extract 0 (loNat lo) ++ ys.toArray ++ xs.extract vs.length) (accObj dx vs n) = accObj dx (vs.take (loNat lo) ++ ys) (if ((vs.toArray.extract 0 (loNat lo) ++ ys.toArray ++ vs.toArray.extract vs.length).size == vs.toArray.size) = true then n else n + 1) := by
    simp only [Obj.mapSeq]
    congr 2
    apply Array.ext'
    simp
  obtain ⟨U1, U2⟩ := news_upd F1 N1 h1 h2 ef rfl
  refine wpAny_bind (m := Builtin.List.listUpdate (.ref x) _) ?_
  unfold Builtin.List.listUpdate
  refine wpAny_updateSeq (s := { s with heap := hp }) hx rfl ?_ (by simp only [List.size_toArray, sizeLine_eq]; omega) (by simp [sizeLine_eq]; omega)
  refine wpAny_bind (wpAny_letGo ?_)
  refine wpAny_pure ?_
  exact wpAny_pure (h _ _ U1 (by rw [hg]; exact U2))

theorem refuse_acc (self : Value) : refuseLoop self "__setattr__" [.ref 101, .type "list", .type "object"] = pure () := by
  rw [refuseLoop_ref]; kernel_rfl

theorem set_acc {Q : Unit → Shared → Prop} {news : List (Addr × Obj)} {g : Obj → List (Addr × Obj)} {dx : Addr} {vs : List Value} {n k : Nat} {name : Str} {v : Value} {es es' : List DictEntry} {k' : Nat} {cd : ClassData} (F : Fr h₀ L s.heap m) (X₀ : (Mine.hd.heap_39 w.params).In h₀) (N : News h₀ L s.heap news)
    (hx : (x, accObj dx vs n) ∈ news) (U : UpdF dx (dictOf es k) news g)
    (hs : findIn (Mine.hd.heap_39 w.params) (.ref 101) (Str.ofString "__setattr__") = some (some (.builtin "object.__setattr__"))) (hc : clsIn (Mine.hd.heap_39 w.params) 101 = some cd) (hm : cd.mro = [.ref 101, .type "list", .type "object"]) (hh : cd.hasDict = true)
    (ht : takerIn (Mine.hd.heap_39 w.params) 101 name = some none) (hl : (getL name es).isSome = true)
    (e : (putL name (PyData.keyHash w.params name) (.str name (s.toks + 1)) v es, putN name es k) = (es', k')) (hz : es'.length ≤ 1000)
    (h : ∀ h', Fr h₀ L h' m → News h₀ L h' (g (dictOf es' k')) → Q () { s with heap := h', toks := s.toks + 1 + 1 }) :
    wpAny (model prog w) A (setAttr (.ref x) name v) Q E s := by
  obtain ⟨pre, post, rfl, hg, h1, h2⟩ := U.split
  have X := X₀.keeps F.keep
  have D := (N (dx, dictOf es k) (by simp)).1
  have I : InstAt s.heap x (accObj dx vs n) 101 (some (dictOf es k)) := ⟨(N _ hx).1, rfl, rfl, D⟩
  have ed := (Prod.mk.inj e)
  have eo : Obj.putName name (PyData.keyHash w.params name) (.str name (s.toks + 1)) v (dictOf es k) = dictOf es' k' := by rw [putName_dict, ed.1, ed.2]
  obtain ⟨U1, U2⟩ := news_upd (f := Obj.putName name (PyData.keyHash w.params name) (.str name (s.toks + 1)) v) F N h1 h2 eo rfl
  refine set_plain X I hs ?_
  have SF := PySem.F.store_object
  have sub : Looks (model prog w) s.heap (isInstance (.ref x) (.type "object")) true := I.type.andThen (looks_mroIn X (by unfold mroIn; rw [hc, Option.bind_some, hm]; rfl))
  refine codeAny_call_builtin SF.slot.plain SF.entry (@check_slot (model prog w) _ _ { s with toks := s.toks + 1 } "object.__setattr__" "object" "__setattr__" (.ref x) [.str name s.toks, v] [] _ SF.kind SF.split sub (SF.args (.ref x) (.str name s.toks) v) ?_)
  obtain ⟨at0, ha, hr⟩ := Option.bind_eq_some_iff.mp ht
  have hmr : Looks (model prog w) s.heap (mroOf (.ref 101)) cd.mro := (looks_clsIn X hc).andThen .now
  have L3 : Looks (model prog w) s.heap (storeTaker? at0) none := by
    cases at0 with
    | none => exact .now
    | some a =>
      obtain ⟨b, hb, hbe⟩ := Option.map_eq_some_iff.mp hr
      refine (looks_takesIn X hb).andThen ?_
      cases b with
      | true => cases hbe
      | false => exact .now
  rw [osa_eq, refuse_eq]
  refine wpAny_bind (wpAny_bind (I.type.here (s := { s with toks := s.toks + 1 }) (wpAny_bind (hmr.here (s := { s with toks := s.toks + 1 }) ?_))))
  rw [hm, refuse_acc]
  refine wpAny_pure (wpAny_bind (I.type.here (s := { s with toks := s.toks + 1 }) (wpAny_bind ((looks_findIn X ha).here (s := { s with toks := s.toks + 1 }) (wpAny_bind (L3.here (s := { s with toks := s.toks + 1 }) ?_))))))
  refine wpAny_bind (wpAny_pure (wpAny_bind (wpAny_bind (wpAny_loadPart (s := { s with toks := s.toks + 1 }) I.at_ (wpAny_bind ((looks_clsIn X hc).here (s := { s with toks := s.toks + 1 }) ?_))))))
  rw [hh]
  refine wpAny_pure (a := some dx) (wpAny_bind (wpAny_pure (wpAny_bind ?_)))
  unfold nsSet
  refine wpAny_bind (wpAny_bind (wpAny_askSetting (wpAny_pure (wpAny_bind (wpAny_mkText (wpAny_bind (wpAny_loadPart D ?_)))))))
  dsimp only
  have c : (!es.toArray.any (·.key.isStr name) && es.toArray.any (·.refKey)) = false := by
    rw [← Array.any_toList, ← Array.any_toList]
    unfold getL at hl
    split at hl
    · rename_i en he
      rw [List.any_eq_true.mpr ⟨en, List.mem_of_find?_eq_some he, List.find?_some he⟩]; rfl
    · split at hl
      · cases hl
      · rename_i z; rw [Bool.not_eq_true] at z; rw [z, Bool.and_false]
  rw [aRefKeyMayBeTheName_at, c]
  refine wpAny_updatePart D ?_
  have D' := (U2 (dx, dictOf es' k') (by simp)).1
  refine wpAny_bind (wpAny_lookBehind D' (by exact pastItsLine_dict (by rw [List.size_toArray, sizeLine_eq]; omega)) ?_)
  exact wpAny_pure (h _ U1 (by rw [hg]; exact U2))

theorem getSlice_acc {Q : Value → Shared → Prop} {news : List (Addr × Obj)} {value : Expr} {lower upper : Option Expr} {pp : Pos} {dx : Addr} {vs : List Value} {n : Nat} {vl : Value} {lo : Option Int} (F : Fr h₀ L s.heap m) (X₀ : (Mine.hd.heap_39 w.params).In h₀) (N : News h₀ L s.heap news)
    (hi : findIn (Mine.hd.heap_39 w.params) (.ref 101) (Str.ofString "__getitem__") = some (some (.builtin "list.__getitem__"))) (hq : noSeq (Mine.hd.heap_39 w.params) 101 = true) (hsub : subIn (Mine.hd.heap_39 w.params) (.ref 101) (.type "list") = some true)
    (hx : (x, accObj dx vs n) ∈ news) (pl : IsPart vl lo) (hlo : ∀ i, lo = some i → 0 ≤ i ∧ i ≤ vs.length) (hz : vs.length ≤ 1000)
    (h : ∀ q h', Fr h₀ L h' m → News h₀ L h' ((q, listOf (vs.drop (loNat lo)).toArray 0) :: news) → (∀ p ∈ news, p.1 < q) → Q (.ref q) { s with heap := h' }) :
    wpAny (model prog w) A (subscriptTail value (.Slice lower upper none pp) (.ref x) (.ref s.heap.objs.size)) Q E { s with heap := s.heap.push { cls := .type "slice", data := .fields #[vl, .none, .none] } } := by
  have F1 := F.push { cls := .type "slice", data := .fields #[vl, .none, .none] }
  have N1 : News h₀ L (s.heap.push { cls := .type "slice", data := .fields #[vl, .none, .none] }) news := fun p hp => (N.push F _) p (.tail _ hp)
  have hxx := (N1 _ hx).1
  have hs := Heap.IsSliceOf.new s.heap vl .none .none
  have X := X₀.keeps F1.keep
  generalize hh : s.heap.push { cls := .type "slice", data := .fields #[vl, .none, .none] } = hp at *
  have ht : Looks (model prog w) hp (typeOf (.ref x)) (.ref 101) := type_at hxx rfl
  obtain ⟨osl, hos, hcs, hds⟩ := id hs
  have hb := bounds_lo (lo := lo) (n := vs.toArray.size) (fun i hi => by simpa using hlo i hi)
  unfold subscriptTail getitemInPython
  refine wpAny_bind (wpAny_bind (wpAny_bind (ht.here (s := { s with heap := hp }) ((looks_findIn X hi).here (s := { s with heap := hp }) ?_))))
  dsimp only
  refine wpAny_pure ?_
  refine wpAny_bind ?_
  show wpAny _ _ (operate [.ref s.heap.objs.size, .ref x] (getItem (.ref x) (.ref s.heap.objs.size))) _ _ _
  refine wpAny_operate' ?_
  unfold getItem
  refine wpAny_holding (wpAny_bind (seqKey_own (s := { s with heap := hp }) X ht hq ?_))
  refine wpAny_bind (special_bi (s := { s with heap := hp }) X ht hi PySem.F.slot_list_getitem.bind ?_)
  refine wpAny_call (codeAny_call_builtin PySem.F.slot_list_getitem.plain PySem.F.entry_list_getitem (check_meth (s := { s with heap := hp }) kind_lgi split_lgi (ht.andThen (looks_subIn X hsub)) (PySem.F.args_list_getitem_2 _ _) ?_))
  show wpAny _ _ (Builtin.List.listSubscript? (.ref s.heap.objs.size) >>= _) _ _ _
  refine slice_sub (s := { s with heap := hp }) hs ?_
  show wpAny _ _ (typeOf (.ref s.heap.objs.size) >>= _) _ _ _
  refine wpAny_bind (wpAny_typeOf (s := { s with heap := hp }) (T := "slice") ⟨osl, hos, hcs⟩ ?_)
  rw [if_neg (by decide)]
  refine slice_head (s := { s with heap := hp }) hs pl ?_
  dsimp only
  refine wpAny_bind (m := Builtin.List.listItems (.ref x)) ?_
  unfold Builtin.List.listItems
  refine wpAny_bind (wpAny_seqItems (s := { s with heap := hp }) hxx rfl (wpAny_pure ?_))
  refine wpAny_bind (wpAny_of_eq (sliceIndices_raw lo none none vs.toArray.size (by simp)) ?_)
  rw [hb]
  dsimp only
  have hloN : loNat lo ≤ vs.length := by
    cases lo with
    | none => exact Nat.zero_le _
    | some i => have := hlo i rfl; simp only [loNat]; exact Int.toNat_le.mpr this.2
  have ev : ((sliceRange (loNat lo : Int) (vs.toArray.size : Int) 1).filterMap fun k => vs.toArray[k]?) = vs.drop (loNat lo) := by
    rw [sliceRange_one, pick_run, List.take_of_length_le (by simp)]
  rw [ev]
  refine wpAny_bind (wpAny_newObj_type ?_ (by show (vs.drop (loNat lo)).toArray.size ≤ sizeLine; rw [List.size_toArray, List.length_drop, sizeLine_eq]; omega))
  refine wpAny_pure ?_
  refine wpAny_pure ?_
  refine wpAny_bind (wpAny_letTemporaryGo (wpAny_pure ?_))
  have F2 := F1.push (listOf (vs.drop (loNat lo)).toArray 0)
  have N2 := N1.push F1 (listOf (vs.drop (loNat lo)).toArray 0)
  exact h _ _ F2 N2 fun p hp => Heap.lt_size (N1 p hp).1
end
end Mine
end

section
set_option maxRecDepth 100000
set_option maxHeartbeats 4000000
namespace Mine
open PySem.Calls PySem.Builtin PySem.Builtin.ObjectAttr

theorem slot_wd : Slot "wrapper_descriptor" "__get__" "wrapper_descriptor.__get__" :=
  .of (owner := "wrapper_descriptor") (n := "__get__") (by rw [typeLookup_type, builtinLookup_eq_fast]; kernel_rfl) (by decide +kernel) (by decide +kernel) (by decide +kernel)
    (by first | exact .inl (by decide +kernel) | exact .inr (by decide +kernel)) (by rw [isSubtype_type]; kernel_rfl)
theorem entry_wd : entryFor table "wrapper_descriptor.__get__" = some Builtin.«wrapper_descriptor.__get__» := entryFor_of_tree (by kernel_rfl)
theorem args_wd (a b c : Value) : argsOk "wrapper_descriptor.__get__" ⟨[a, b, c], []⟩ := by unfold argsOk; kernel_rfl
theorem wd_type_len : typeOf (.builtin "list.__len__") = pure (.type "wrapper_descriptor") := by kernel_rfl
theorem wd_type_init : typeOf (.builtin "list.__init__") = pure (.type "wrapper_descriptor") := by kernel_rfl
noncomputable abbrev wrapObj (id : String) (x : Addr) : Obj := { cls := .type "method-wrapper", data := .fields #[.builtin id, .ref x] }
section
variable {prog : Program} {w : World} {A : Around} {E : Value → Shared → Prop} {s : Shared} {K : Frag} {x C L : Addr} {h₀ : Heap} {m : Str → Option Value} {ox : Obj} {od : Option Obj}
theorem own_len : ".".intercalate ("list.__len__".cutAt '.').dropLast = "list" := by decide +kernel
theorem own_init : ".".intercalate ("list.__init__".cutAt '.').dropLast = "list" := by decide +kernel
theorem wd_len {Q : PySem.Fin → Shared → Prop} {h : Heap} {g d t os} (hx : h.get? x = some ox) (hc : ox.cls = .ref C) (hi : Looks (model prog w) h (isSubtype (.ref C) (.type "list")) true)
    (hq : Q (.done (.ret (.ref h.objs.size))) ⟨h.push (wrapObj "list.__len__" x), g, d, t, os⟩) : wpAny (model prog w) A (Builtin.«wrapper_descriptor.__get__» ⟨[.builtin "list.__len__", .ref x, .ref C], []⟩) Q E ⟨h, g, d, t, os⟩ := by
  obtain ⟨oc, od', odt, osl⟩ := ox
  dsimp only at hc
  subst hc
  have hi' : Looks (model prog w) h (isSubtype (.ref C) (.type (".".intercalate ("list.__len__".cutAt '.').dropLast))) true := by rw [own_len]; exact hi
  unfold Builtin.«wrapper_descriptor.__get__»
  repeat lk
  exact hq
theorem wd_init {Q : PySem.Fin → Shared → Prop} {h : Heap} {g d t os} (hx : h.get? x = some ox) (hc : ox.cls = .ref C) (hi : Looks (model prog w) h (isSubtype (.ref C) (.type "list")) true)
    (hq : Q (.done (.ret (.ref h.objs.size))) ⟨h.push (wrapObj "list.__init__" x), g, d, t, os⟩) : wpAny (model prog w) A (Builtin.«wrapper_descriptor.__get__» ⟨[.builtin "list.__init__", .ref x, .ref C], []⟩) Q E ⟨h, g, d, t, os⟩ := by
  obtain ⟨oc, od', odt, osl⟩ := ox
  dsimp only at hc
  subst hc
  have hi' : Looks (model prog w) h (isSubtype (.ref C) (.type (".".intercalate ("list.__init__".cutAt '.').dropLast))) true := by rw [own_init]; exact hi
  unfold Builtin.«wrapper_descriptor.__get__»
  repeat lk
  exact hq

/-- super().__len__, super().__init__ : the slot wrapper bound -/
theorem super_ga {Q : PySem.Fin → Shared → Prop} {so D : Addr} {l₀ l : List Value} {id : String} {name : Str} {tk : Tok} {h : Heap} {g : Array GenState} {d : Drawn} {t : Nat} {os : OsState}
    (hso : h.get? so = some (ks_superObj D x C)) (hno : Looks (model prog w) h (opaqueClassAbove (.ref C)) none)
    (hC : Looks (model prog w) h (mroOf (.ref C)) l₀) (hl : (l₀.dropWhile (· != .ref D)).drop 1 = l) (X : K.In h)
    (hf : alongIn K name l = some (some (.builtin id))) (hty : typeOf (.builtin id) = pure (.type "wrapper_descriptor")) (hxC : x ≠ C) (hn : (name == ("__class__" : Str)) = false)
    (hw : ∀ (A : Around) (Q : PySem.Fin → Shared → Prop) (E : Value → Shared → Prop) t, Q (.done (.ret (.ref h.objs.size))) ⟨h.push (wrapObj id x), g, d, t, os⟩ → wpAny (model prog w) A (Builtin.«wrapper_descriptor.__get__» ⟨[.builtin id, .ref x, .ref C], []⟩) Q E ⟨h, g, d, t, os⟩)
    (hq : Q (.done (.ret (.ref h.objs.size))) ⟨h.push (wrapObj id x), g, d, t, os⟩) :
    wpAny (model prog w) A (Builtin.«super.__getattribute__» ⟨[.ref so, .str name tk], []⟩) Q E ⟨h, g, d, t, os⟩ := by
  have hlk := slot_wd.lookup
  have hne : (Value.ref x == Value.ref C) = false := by simp [hxC]
  have hTf : (⟨h, g, d, t, os⟩ : Shared).TypeIs (.builtin id) "wrapper_descriptor" := hty
  have hdt : (ks_superObj D x C).data = .fields #[.ref D, .ref x, .ref C] := rfl
  have f0 : (#[.ref D, .ref x, .ref C] : Array Value)[0]? = some (.ref D) := rfl
  have f1 : (#[.ref D, .ref x, .ref C] : Array Value)[1]? = some (.ref x) := rfl
  have f2 : (#[.ref D, .ref x, .ref C] : Array Value)[2]? = some (.ref C) := rfl
  unfold Builtin.«super.__getattribute__»
  repeat (first
    | (with_reducible refine wpAny_field hso hdt f0 ?_) | (with_reducible refine wpAny_field hso hdt f1 ?_) | (with_reducible refine wpAny_field hso hdt f2 ?_)
    | (with_reducible refine ks_wpAny_notOpaque hno ?_)
    | (with_reducible refine Looks.at hC ?_; rw [hl])
    | (refine ks_forIn_along X (fun _ _ => rfl) rfl ?_ hf)
    | (with_reducible refine wpAny_typeOf hTf ?_)
    | (with_reducible refine wpAny_call_entry slot_wd hTf entry_wd ?_ (args_wd _ _ _))
    | (refine hw _ _ _ _ ?_)
    | (with_reducible refine ⟨_, rfl, ?_⟩)
    | (simp only [hn, hne, Bool.or_false, Bool.false_eq_true, if_false])
    | wp_step
    | dsimp only)
  all_goals exact hq

theorem super_getMethod {so D : Addr} {l₀ l : List Value} {id : String} {name : Str} {pl : Sem Bool} {Q : Value × List Value → Shared → Prop} {h : Heap} {g : Array GenState} {d : Drawn} {t : Nat} {os : OsState}
    (hso : h.get? so = some (ks_superObj D x C)) (hno : Looks (model prog w) h (opaqueClassAbove (.ref C)) none)
    (hC : Looks (model prog w) h (mroOf (.ref C)) l₀) (hl : (l₀.dropWhile (· != .ref D)).drop 1 = l) (X : K.In h)
    (hf : alongIn K name l = some (some (.builtin id))) (hty : typeOf (.builtin id) = pure (.type "wrapper_descriptor")) (hxC : x ≠ C) (hn : (name == ("__class__" : Str)) = false)
    (hw : ∀ (A : Around) (Q : PySem.Fin → Shared → Prop) (E : Value → Shared → Prop) t, Q (.done (.ret (.ref h.objs.size))) ⟨h.push (wrapObj id x), g, d, t, os⟩ → wpAny (model prog w) A (Builtin.«wrapper_descriptor.__get__» ⟨[.builtin id, .ref x, .ref C], []⟩) Q E ⟨h, g, d, t, os⟩)
    (hq : Q (.ref h.objs.size, []) ⟨h.push (wrapObj id x), g, d, t + 1, os⟩) :
    wpAny (model prog w) A (getMethod (.ref so) name pl) Q E ⟨h, g, d, t, os⟩ := by
  have hlk := PySem.F.ks_slot_super_ga.lookup
  have hcan := PySem.F.ks_canon_super_ga
  have hT : ∀ t', (⟨h, g, d, t', os⟩ : Shared).TypeIs (.ref so) "super" := fun _ => ⟨_, hso, rfl⟩
  unfold getMethod
  refine wpAny_bind (wpAny_specialOf (hT _) hlk ?_)
  show wpAny _ _ (if (Manifest.canonical "super.__getattribute__" != "object.__getattribute__") = true then _ else _) _ _ _
  rw [if_pos hcan]
  unfold getAttr getAttrBy
  refine wpAny_bind (wpAny_bind (wpAny_mkText (wpAny_holding (wpAny_bind (wpAny_typeOf (hT _) (wpAny_bind (wpAny_of_eq hlk ?_)))))))
  show wpAny _ _ (getAttrByItsOwn (.ref so) (.str name t) (.type "super") (.builtin "super.__getattribute__") true false) _ _ _
  unfold getAttrByItsOwn hookBefore callGetattribute boundAndCalled
  refine wpAny_bind (wpAny_of_eq (show (if onTheHeap (.type "super") then typeLookup (.type "super") "__getattr__" else pure none) = pure none from rfl) ?_)
  refine wpAny_bind (wpAny_attempt (wpAny_holding ?_))
  show wpAny _ _ (bindSpecial (.builtin "super.__getattribute__") (.ref so) >>= _) _ _ _
  refine wpAny_bind (wpAny_of_eq (PySem.F.ks_slot_super_ga.bind _) ?_)
  refine wpAny_mono (Q := fun v s' => v = .ref h.objs.size ∧ s' = ⟨h.push (wrapObj id x), g, d, t + 1, os⟩) (E := fun _ _ => False)
    (wpAny_call_entry PySem.F.ks_slot_super_ga (hT _) PySem.F.ks_entry_super_ga (super_ga hso hno hC hl X hf hty hxC hn hw ⟨_, rfl, rfl, rfl⟩) (PySem.F.ks_gaArgs_super _ _)) (fun v s' hv => ?_) fun _ _ z => z.elim
  obtain ⟨rfl, rfl⟩ := hv
  exact wpAny_pure (wpAny_pure hq)

theorem super_meth {so D dx : Addr} {vs : List Value} {n : Nat} {id : String} {name : Str} {pl : Sem Bool} {Q : Value × List Value → Shared → Prop} {news : List (Addr × Obj)} (F : Fr h₀ L s.heap m) (X₀ : (Mine.hd.heap_39 w.params).In h₀) (N : News h₀ L s.heap news) (hso : (so, ks_superObj D x 101) ∈ news)
    (hx : (x, accObj dx vs n) ∈ news) (ho : nsIn (Mine.hd.heap_39 w.params) cStatics "thirdparty.any" = some none) (hm : ks_superIn (Mine.hd.heap_39 w.params) 101 D name = some (some (.builtin id))) (hsub : subIn (Mine.hd.heap_39 w.params) (.ref 101) (.type "list") = some true)
    (hid : id = "list.__len__" ∨ id = "list.__init__") (hn : (name == ("__class__" : Str)) = false)
    (h : ∀ q h', Fr h₀ L h' m → News h₀ L h' ((q, wrapObj id x) :: news) → (∀ p ∈ news, p.1 < q) → Q (.ref q, []) { s with heap := h', toks := s.toks + 1 }) : wpAny (model prog w) A (getMethod (.ref so) name pl) Q E s := by
  have X : (Mine.hd.heap_39 w.params).In s.heap := X₀.keeps F.keep
  obtain ⟨hh, g, d, t, os⟩ := s
  have hxx := (N _ hx).1
  cases hc : clsIn (Mine.hd.heap_39 w.params) 101 with
  | none => unfold ks_superIn at hm; rw [hc] at hm; cases hm
  | some cd =>
    unfold ks_superIn at hm
    rw [hc] at hm
    have hxC : x ≠ 101 := by
      rintro rfl
      unfold clsIn at hc
      split at hc
      · rename_i e
        have e' := X _ _ e
        rw [hxx] at e'
        cases e'
      · cases hc
    have hty : typeOf (.builtin id) = pure (.type "wrapper_descriptor") := by rcases hid with rfl | rfl; exact wd_type_len; exact wd_type_init
    refine super_getMethod (N _ hso).1 (looks_opaque X ho) (l₀ := cd.mro) ?_ rfl X hm hty hxC hn (fun A Q E t hq => ?_) ?_
    · exact fun A Q E s k q => wpAny_bind ((looks_clsIn X hc) A _ E s k (wpAny_pure q))
    · rcases hid with rfl | rfl
      · exact wd_len hxx rfl (looks_subIn X hsub) hq
      · exact wd_init hxx rfl (looks_subIn X hsub) hq
    · obtain ⟨F', N', l'⟩ := ks_newsPush (s := ⟨hh, g, d, t, os⟩) (o := wrapObj id x) F N rfl (Heap.get?_push_at rfl rfl) (fun b o e => Heap.get?_push_of_some _ e)
      exact h _ _ F' N' l'

theorem callWith_wrap {M : Model} {env : Env} {pos : Pos} {q : Addr} {id : String} {Q : Value → Shared → Prop} (hq : s.heap.get? q = some (wrapObj id x)) (h : wpAny M A (call (.ref q) []) Q E s) :
    wpAny M A (callWith pos (.ref q) [] (backTo pos (starEach [] env)) []) Q E s :=
  callWith_of (P := fun h => h.get? q = some (wrapObj id x)) rfl (fun h hq => ⟨.machine, .inr (.inl rfl), (Looks.ld (part := none) hq).andThen .now⟩) (evalArgs_nil3 ⟨hq, h⟩)

theorem entry_llen : entryFor table "list.__len__" = some Builtin.«list.__len__» := entryFor_of_tree (by kernel_rfl)
theorem entry_linit : entryFor table "list.__init__" = some Builtin.«list.__init__» := entryFor_of_tree (by kernel_rfl)
theorem bound_len (x : Addr) : checkBoundCall "list.__len__" ⟨[.ref x], []⟩ = pure () := by kernel_rfl
theorem bound_init (x : Addr) : checkBoundCall "list.__init__" ⟨[.ref x], []⟩ = pure () := by kernel_rfl
theorem call_wrap {q : Addr} {id : String} {Bt : Builtin} {Q : Value → Shared → Prop} (hq : s.heap.get? q = some (wrapObj id x)) (hb : checkBoundCall id ⟨[.ref x], []⟩ = pure ()) (he : entryFor table id = some Bt) (hp : plainId id = true)
    (h : wpAny (model prog w) A.in1 (Bt ⟨[.ref x], []⟩) (fun fin s' => match fin with | .done (.ret v) => Q v s' | .done _ => False | .again _ => False) E s) : wpAny (model prog w) A (call (.ref q) []) Q E s := by
  refine wpAny_call (codeAny_of_tree ?_)
  show wpAny _ _ (callAny (.ref q) ⟨[], []⟩) _ _ s
  unfold callAny
  refine wpAny_bind (wpAny_load hq ?_)
  dsimp only
  rw [if_pos (by decide)]
  show wpAny _ _ (if ((wrapObj id x).cls != .type "method") = true then _ else _) _ _ _
  rw [if_pos (show (Value.type "method-wrapper" != Value.type "method") = true by decide)]
  show wpAny _ _ (checkBoundCall id ⟨[.ref x], []⟩ >>= fun _ => again (.builtin id ⟨[.ref x], []⟩)) _ _ _
  rw [hb]
  refine wpAny_bind (wpAny_pure (wpAny_pure ⟨plainId_quiet hp _, codeAny_builtin he ?_⟩))
  rw [Around.under_plainId hp]
  refine wpAny_mono h (fun fin s' z => ?_) fun _ _ z => z
  cases fin with
  | done f => cases f <;> first | exact z | exact z.elim
  | again c => exact z.elim
theorem len_wrap {q dx : Addr} {vs : List Value} {n : Nat} {Q : Value → Shared → Prop} (hq : s.heap.get? q = some (wrapObj "list.__len__" x)) (hx : s.heap.get? x = some (accObj dx vs n)) (h : Q (.int vs.length s.toks) { s with toks := s.toks + 1 }) :
    wpAny (model prog w) A (call (.ref q) []) Q E s := by
  refine call_wrap hq (bound_len x) entry_llen (by decide +kernel) ?_
  obtain ⟨hh, g, d, t, os⟩ := s
  dsimp only at hx
  unfold Builtin.«list.__len__»
  repeat lk
  exact h
theorem init_wrap {q dx : Addr} {n : Nat} {Q : Value → Shared → Prop} {news : List (Addr × Obj)} {g : Obj → List (Addr × Obj)} (F : Fr h₀ L s.heap m) (N : News h₀ L s.heap news) (hq : (q, wrapObj "list.__init__" x) ∈ news) (U : UpdF x (accObj dx [] n) news g)
    (h : ∀ h', Fr h₀ L h' m → News h₀ L h' (g (accObj dx [] n)) → Q .none { s with heap := h' }) : wpAny (model prog w) A (call (.ref q) []) Q E s := by
  refine call_wrap (N _ hq).1 (bound_init x) entry_linit (by decide +kernel) ?_
  obtain ⟨pre, post, rfl, hg, h1, h2⟩ := U.split
  have hx := (N (x, accObj dx [] n) (by simp)).1
  have ef : Obj.mapSeq (fun _ => #[]) (accObj dx [] n) = accObj dx [] n := rfl
  obtain ⟨U1, U2⟩ := news_upd F N h1 h2 ef rfl
  unfold Builtin.«list.__init__»
  dsimp only
  rw [if_neg (by decide), if_neg (by decide)]
  refine wpAny_bind (m := Builtin.List.listItems (.ref x)) ?_
  unfold Builtin.List.listItems
  refine wpAny_bind (wpAny_seqItems hx rfl (wpAny_pure ?_))
  refine wpAny_bind (m := Builtin.List.listUpdate (.ref x) _) ?_
  unfold Builtin.List.listUpdate
  refine wpAny_updateSeq hx rfl ?_ (by decide) (by decide)
  refine wpAny_bind (wpAny_letGo ?_)
  exact wpAny_pure (h _ U1 (by rw [hg]; exact U2))
end
section
variable {prog : Program} {w : World} {A₀ A : Around} {s : Shared} {base h₀ : Heap} {outer : List Env} {L : Addr} {m mg mb : Str → Option Value} {env : Env} {fp : List (Addr × Obj)} {K : Frag} {p : Program} {loose : List Str} {mean : ExcName → Option Value}
  {R : Result → Shared → Prop} {name qual : Str} {params : Arguments} {body : List Stmt} {scope : Scope} {dV kV doc pm cdv ct oc : Value} {an od : Option Addr} {osl : Array (Option Value)} {f cc : Addr} {args : Args} {binds : List (Str × Value)}
theorem enterS (B : Below A₀ base outer h₀) (F : Fr h₀ L s.heap m) (X₀ : K.In h₀) (N : News h₀ L s.heap fp) (T : Top p loose mean mg mb h₀) (hA : A.frames = some (env :: outer)) (hf : env.frame = some L) (hke : env.scope.kind = .function)
    (ho : K.lookup f = some ⟨oc, od, .func (ksFn name qual params body scope dV kV doc pm an cdv ct cc), osl⟩) (hcd : codeIn K cdv qual = true) (hroom : A.depth < recursionLimit)
    (hbind : BindsTo s (ksFn name qual params body scope dV kV doc pm an cdv ct cc) args binds) (hloc : ∀ y ∈ binds, scope.names.lookup y.1 = some .local)
    (h : ∀ P : Heap → Value → Shared → Prop, (∀ g v s', LeaveG g R v s' → P g v s') → ∀ g L' h₁, Hid (fp.map (·.1)) s.heap g → Fr g L' h₁ (fun y => binds.reverse.lookup y) → News g L' h₁ fp → Below A base (env :: outer) g → K.In g → Top p loose mean mg mb g → (∀ q ∈ fp, q.1 < L') →
      _root_.PySem.wpAt (model prog w) (A.deeper (ksEnv qual scope L' f cdv cc)) (.func body (ksEnv qual scope L' f cdv cc)) (execs body (ksEnv qual scope L' f cdv cc))
        (fun fl s' => LeaveQ P g (match fl with | .ret v => v | _ => .none) s')
        (fun _ _ => False)
        { s with heap := h₁, toks := s.toks + binds.length })
    (hcell : ∀ x ∈ scope.names, x.2 ≠ .cell) (hco : scope.isCoroutine = false) (hgen : scope.isGenerator = false) (hk : scope.kind = .function) : codeAny (model prog w) A (.call (.ref f) args) R s := by
  obtain ⟨FG, BG, st, _⟩ := groundX (R := R) B F N hA hf hke
  refine ks_codeAny_call_defAt (fd := ksFn name qual params body scope dV kV doc pm an cdv ct cc) (body := body) (binds := binds) hroom ((X₀.keeps F.keep) _ _ ho) rfl (T.nolimit.keeps F.keep) (codeRec_of (X₀.keeps F.keep) hcd) rfl hbind hcell hloc (fun h₁ hns hk₁ => ?_) hco hgen hk
  exact ks_wpAt_mono (h (fun g => LeaveG g R) (fun _ _ _ y => y) (hideAll s.heap (fp.map fun q => q.1)) s.heap.objs.size h₁ (fun b o hb e => hideAll_get _ e hb) ⟨hns, fun b o e => hk₁ b o (of_hideAll _ e), Nat.le_of_eq (hideAll_size _ _)⟩
    (fun p hp => ⟨hk₁ _ _ (N p hp).1, Nat.ne_of_lt (Heap.lt_size (N p hp).1), hideAll_none _ (List.mem_map_of_mem hp)⟩) BG (X₀.keeps fun b o e => st b o e) (T.keeps fun b o e => st b o e) (fun p hp => Heap.lt_size (N p hp).1)) (fun fl s' hl => LeaveG.out hl) fun _ _ y => y.elim
end
end Mine
end

section
set_option maxRecDepth 100000
set_option maxHeartbeats 4000000
namespace Mine
open PySem.Calls PySem.Builtin PySem.Builtin.ObjectAttr

structure MakesL (M : Model) (h : Heap) : Prop where
  obj : ∃ oc od cd sl, h.get? 101 = some ⟨oc, od, .cls cd, sl⟩ ∧ cd.abstract = false ∧ cd.hasDel = false ∧ cd.mro.isEmpty = false
  made : Looks M h (Bind.madeBy (.ref 101)) (some "list.__new__")
  base : Looks M h (Bind.staticBase (.ref 101)) (.ref 101)
  self : Looks M h (isSubtype (.ref 101) (.ref 101)) true
  top : Looks M h (isSubtype (.ref 101) (.type "list")) true
  call : Looks M h (specialOf (.ref 101) "__call__") (some (.builtin "type.__call__"))
  typ : Looks M h (isInstance (.ref 101) (.type "type")) true
noncomputable def makesInL (K : Frag) : Bool := match K.lookup 101 with
  | some ⟨_, _, .cls cd, sl⟩ => !cd.abstract && !cd.hasDel && (sl.toList[4]?).join == some (.builtin "list.__new__") && !cd.mro.isEmpty && cd.mro.contains (.ref 101) && cd.mro.contains (.type "list") &&
      specialIn K (.ref 101) "__call__" == some (some (.builtin "type.__call__")) && instIn K (.ref 101) (.type "type") == some true
  | _ => false
theorem makesL {K : Frag} {M : Model} {h : Heap} (X : K.In h) (e : makesInL K = true) : MakesL M h := by
  unfold makesInL at e
  split at e
  · rename_i oc od cd sl ho
    simp only [Bool.and_eq_true, Bool.not_eq_true', beq_iff_eq] at e
    obtain ⟨⟨⟨⟨⟨⟨⟨e1, e2⟩, e3⟩, e4⟩, e5⟩, e6⟩, e7⟩, e8⟩ := e
    have hc : clsIn K 101 = some cd := by unfold clsIn; rw [ho]
    have hm : Looks M h (mroOf (.ref 101)) cd.mro := (looks_clsIn X hc).andThen .now
    obtain ⟨c, l, hl⟩ : ∃ c l, cd.mro = c :: l := by cases q : cd.mro with | nil => rw [q] at e4; cases e4 | cons c l => exact ⟨c, l, rfl⟩
    have made : Looks M h (Bind.madeBy (.ref 101)) (some "list.__new__") := by
      intro A Q E s k q
      unfold Bind.madeBy
      refine wpAny_bind (hm A _ E s k ?_)
      rw [hl, List.forIn_cons]
      refine wpAny_bind (wpAny_bind (wpAny_bind (wpAny_bind (wpAny_loadPart (k _ _ (X _ _ ho)) (wpAny_pure ?_)))))
      dsimp only
      rw [← Array.getElem?_toList, e3]
      exact wpAny_pure (wpAny_pure (wpAny_pure q))
    refine ⟨⟨oc, od, cd, sl, X _ _ ho, e1, e2, e4⟩, made, ?_, looks_mroIn X ?_, looks_mroIn X ?_, looks_specialIn X e7, looks_instIn X e8⟩
    · intro A Q E s k q
      unfold Bind.staticBase
      refine wpAny_bind (hm A _ E s k ?_)
      rw [hl, List.forIn_cons]
      exact wpAny_bind (wpAny_bind (wpAny_bind (made A _ E s k (wpAny_pure (wpAny_pure (wpAny_pure q))))))
    · unfold mroIn; rw [hc, Option.bind_some, if_neg (by rw [e4]; decide), e5]
    · unfold mroIn; rw [hc, Option.bind_some, if_neg (by rw [e4]; decide), e6]
  · cases e
theorem kind_ln : builtinKind "list.__new__" = some .builtinFn := by decide +kernel
theorem split_ln : splitId "list.__new__" = some ("list", "__new__") := by decide +kernel
section
variable {prog : Program} {w : World} {A : Around} {R : Result → Shared → Prop} {h : Heap} {g : Array GenState} {d : Drawn} {t : Nat} {os : OsState}
theorem new_L {v : Value} (Y : MakesL (model prog w) h)
    (hq : R (.ok (.ret (.ref (h.objs.size + 1)))) ⟨(h.push emptyDict).push (accObj h.objs.size [] 0), g, d, t, os⟩) :
    codeAny (model prog w) A (.call (.builtin "list.__new__") ⟨[.ref 101, v], []⟩) R ⟨h, g, d, t, os⟩ := by
  obtain ⟨⟨oc, od, cd, sl, hC, e1, e2, e4⟩, made, base, self, top, call, typ⟩ := Y
  have hmi : Manifest.canonical "list.__new__" = Manifest.canonical "list.__new__" := rfl
  refine codeAny_call_builtin_code (plainId_quiet PySem.F.plain_list_new _) ?_
  simp only [checkBuiltinCall, kind_ln, split_ln]
  have isT : Looks (model prog w) h (isType (.ref 101)) true := (Looks.ld hC).andThen .now
  have args : Bind.checkArgs "list.__new__" ⟨.hand, "list.__new__", "__new__", .cls, []⟩ ⟨[.ref 101, v], []⟩ = pure () := by first | kernel_rfl | rfl
  repeat (first | simp only [bne_self_eq_false, Bool.false_eq_true, if_false, beq_self_eq_true, if_true, Bool.not_true] | lk)
  refine codeAny_builtin_stack PySem.F.entry_list_new rfl fun p st => ?_
  rw [Around.under_plainId PySem.F.plain_list_new _]
  have hown := owner_list_new
  simp only [hown]
  have hC' : ((h.push emptyDict).push (accObj h.objs.size [] 0)).get? 101 = some ⟨oc, od, .cls cd, sl⟩ := Heap.get?_push_of_some _ (Heap.get?_push_of_some _ hC)
  repeat (first | simp only [e2, bne_self_eq_false, Bool.false_eq_true, if_false, beq_self_eq_true, if_true, Bool.not_true] | lk)
  show R _ _
  rw [Heap.size_push]
  exact hq
end
section
variable {prog : Program} {w : World} {A : Around} {s : Shared} {h₀ : Heap} {L : Addr} {m : Str → Option Value} {news : List (Addr × Obj)} {R : Result → Shared → Prop} {E : Value → Shared → Prop} {Q : Value → Shared → Prop}
theorem make_L {v : Value} (F : Fr h₀ L s.heap m) (X₀ : (Mine.hd.heap_39 w.params).In h₀) (N : News h₀ L s.heap news) (hm : makesInL (Mine.hd.heap_39 w.params) = true)
    (hi : findIn (Mine.hd.heap_39 w.params) (.ref 101) (Str.ofString "__init__") = some (some (.ref 38))) (hf : isFn (Mine.hd.heap_39 w.params) (.ref 38) = true)
    (h : ∀ x dx h', Fr h₀ L h' m → News h₀ L h' ((x, accObj dx [] 0) :: (dx, dictOf [] 0) :: news) → (∀ p ∈ news, p.1 < dx) → dx < x →
      wpAny (model prog w) (A.under (.builtin "type.__call__" ⟨[.ref 101, v], []⟩)) (PySem.call (.ref 38) [.ref x, v]) (fun r s' => r = .none ∧ Q (.ref x) s') E { s with heap := h' }) :
    wpAny (model prog w) A (PySem.call (.ref 101) [v]) Q E s := by
  have X := X₀.keeps F.keep
  obtain ⟨hh, g, d, t, os⟩ := s
  have N' := (N.push F emptyDict).push (F.push _) (accObj hh.objs.size [] 0)
  rw [Heap.size_push] at N'
  have z := h _ hh.objs.size _ ((F.push _).push _) N' (fun p hp => Heap.lt_size (N p hp).1) (Nat.lt_succ_self _)
  have Y := makesL (M := model prog w) X hm
  have Y' := Y
  obtain ⟨⟨oc, od, cd, sl, hC, e1, e2, e4⟩, made, base, self, top, call, typ⟩ := Y
  have hil : Looks (model prog w) hh (typeLookup (.ref 101) "__init__") (some (.ref 38)) := looks_findIn X hi
  have hb : ∀ self, Looks (model prog w) hh (bindSpecial (.ref 38) self) (.ref 38, [self]) := fun self => bind_fn X self (beq_iff_eq.mp hf)
  refine wpAny_call (codeAny_of_tree ?_)
  show wpAny _ _ (callAny (.ref 101) _) _ _ _
  refine nd_load hC ?_
  show wpAny _ _ (callAny.viaDunder (.ref 101) _) _ _ _
  unfold callAny.viaDunder
  refine wpAny_bind (call.at ?_)
  dsimp only
  rw [tc_bind]
  refine wpAny_bind (wpAny_pure (wpAny_bind (wpAny_pure ?_)))
  refine wpAny_pure (a := Fin.again (.call (.builtin "type.__call__") ⟨[.ref 101, v], []⟩)) (And.intro rfl ?_)
  refine codeAny_call_builtin_at (Code.quiet_builtin _ (by decide +kernel)) entry_typeCall (check_slot tc_kind tc_split typ (tc_args _ _ _) ?_)
  unfold Builtin.«type.__call__»
  have hmr : Looks (model prog w) hh (mroOf (.ref 101)) cd.mro := ((Looks.ld (part := none) hC).andThen .now).andThen .now
  repeat (first | simp only [e4, Bool.false_eq_true, if_false] | with_reducible refine wpAny_call ?_ | lk)
  refine new_L Y' ?_
  have k : ∀ b o, hh.get? b = some o → ((hh.push emptyDict).push (accObj hh.objs.size [] 0)).get? b = some o := fun b o e => Heap.get?_push_of_some _ (Heap.get?_push_of_some _ e)
  have hx : ((hh.push emptyDict).push (accObj hh.objs.size [] 0)).get? (hh.objs.size + 1) = some (accObj hh.objs.size [] 0) := by heap_get
  have t1 : Looks (model prog w) ((hh.push emptyDict).push (accObj hh.objs.size [] 0)) (typeOf (.ref (hh.objs.size + 1))) (.ref 101) := (Looks.ld hx).andThen .now
  have s1 := self.keeps k
  have i1 := hil.keeps k
  have b1 := (hb (.ref (hh.objs.size + 1))).keeps k
  unfold isInstance callSpecial? specialOf
  have ea : ([Value.ref (hh.objs.size + 1)] ++ [v]) = [Value.ref (hh.objs.size + 1), v] := rfl
  repeat (first | (rw [ea]; with_reducible refine wpAny_mono z ?_ ?_) | lk)
  · rintro r s' ⟨rfl, hq⟩
    exact wpAny_pure (wpAny_pure hq)
  · exact fun _ _ e => e
end
end Mine
end

section
set_option maxRecDepth 100000
set_option maxHeartbeats 4000000
namespace Mine
open PySem.Calls PySem.Builtin PySem.Builtin.ObjectAttr

noncomputable def SeqAt (h : Heap) (a : Addr) (items : Array Value) : Prop := ∃ o n, h.get? a = some o ∧ o.data = .seq items n
theorem SeqAt.kp {h h' : Heap} {a : Addr} {items : Array Value} (x : SeqAt h a items) (k : ∀ o, h.get? a = some o → h'.get? a = some o) : SeqAt h' a items := let ⟨o, n, e, d⟩ := x; ⟨o, n, k o e, d⟩

section
variable {prog : Program} {w : World} {A : Around} {E : Value → Shared → Prop} {s : Shared}
theorem next_item {it l : Addr} {i : Nat} {items} {x : Value} {Q : Option Value → Shared → Prop} (hit : s.heap.IsListIter it l i)
    (hl : SeqAt s.heap l items) (hx : items[i]? = some x)
    (hQ : ∀ h', h'.IsListIter it l (i + 1) → Heap.SameBut it s.heap h' → Q (some x) { s with heap := h' }) :
    wpAny (model prog w) A (pyNext (.ref it)) Q E s := by
  obtain ⟨o, ho, hc, hd⟩ := id hit
  obtain ⟨ol, nl, hol, hdl⟩ := hl
  unfold pyNext
  refine wpAny_bind (wpAny_attempt (wpAny_callSpecial?_slot (name := Str.ofString "__next__") hit.typeIs slot_listiter_next
    (wpAny_call_entry slot_listiter_next hit.typeIs entry_listiter_next ?_ (args_listiter_next _))))
  show wpAny _ _ (field (.ref it) 0 >>= _) _ _ s
  refine wpAny_bind (wpAny_field ho hd (x := .ref l) rfl ?_)
  show wpAny _ _ (if (Value.ref l == Value.none) = true then _ else _) _ _ s
  rw [if_neg (show ¬ ((Value.ref l == Value.none) = true) from Bool.false_ne_true)]
  show wpAny _ _ (field (.ref it) 1 >>= _) _ _ s
  refine wpAny_bind (wpAny_field ho hd (x := .int i 0) rfl ?_)
  show wpAny _ _ (seqItems? (.ref l) >>= _) _ _ s
  refine wpAny_bind (wpAny_seqItems hol hdl ?_)
  simp only [Int.toNat_natCast, hx]
  refine wpAny_bind (wpAny_setField ho hd (by simp) (wpAny_pure ⟨x, rfl, wpAny_pure (hQ _ ?_ (Heap.SameBut.update ..))⟩))
  exact ⟨_, Heap.get?_update_self _ ho (Obj.isFreed_of_fields (Obj.data_mapFields hd _)), (Obj.cls_mapFields ..).trans hc, by
    rw [Obj.data_mapFields hd]; simp [rawInt]⟩

theorem next_end {it l : Addr} {i : Nat} {items} {Q : Option Value → Shared → Prop} (hh : A.handled = none)
    (hit : s.heap.IsListIter it l i) (hl : SeqAt s.heap l items) (hx : items[i]? = none)
    (hQ : ∀ h', Heap.ExtBut it s.heap h' → Q none { s with heap := h' }) : wpAny (model prog w) A (pyNext (.ref it)) Q E s := by
  obtain ⟨o, ho, hc, hd⟩ := id hit
  obtain ⟨ol, nl, hol, hdl⟩ := hl
  unfold pyNext
  refine wpAny_bind (wpAny_attempt (wpAny_callSpecial?_slot (name := Str.ofString "__next__") hit.typeIs slot_listiter_next
    (wpAny_call_entry slot_listiter_next hit.typeIs entry_listiter_next ?_ (args_listiter_next _))))
  show wpAny _ _ (field (.ref it) 0 >>= _) _ _ s
  refine wpAny_bind (wpAny_field ho hd (x := .ref l) rfl ?_)
  show wpAny _ _ (if (Value.ref l == Value.none) = true then _ else _) _ _ s
  rw [if_neg (show ¬ ((Value.ref l == Value.none) = true) from Bool.false_ne_true)]
  show wpAny _ _ (field (.ref it) 1 >>= _) _ _ s
  refine wpAny_bind (wpAny_field ho hd (x := .int i 0) rfl ?_)
  show wpAny _ _ (seqItems? (.ref l) >>= _) _ _ s
  refine wpAny_bind (wpAny_seqItems hol hdl ?_)
  simp only [Int.toNat_natCast, hx]
  refine wpAny_bind (wpAny_rule (wpAny_bind (wpAny_setField ho hd (by simp) ?_)))
  show wpAny _ _ (newExc (.type "StopIteration") [] >>= _) _ _ _
  refine wpAny_bind ?_
  simp only [newExc, newTuple]
  refine wpAny_bind (wpAny_newObj_type ?_ (by size_fits))
  refine wpAny_bind (m := firstArgMember _ _) (wpAny_of_eq (a := Value.none) (by first | rfl | (simp only [firstArgMember]; rfl)) ?_)
  refine wpAny_newObj_type ?_ (by size_fits)
  simp only [raiseNew]
  refine wpAny_bind (wpAny_handled ?_)
  rw [show A.in1.handled = none from hh]
  refine wpAny_bind (wpAny_pure (wpAny_throw ?_))
  refine wpAny_bind (wpAny_isInstance (T := "StopIteration") (b := true) ⟨_, Heap.get?_push_size _ rfl, rfl⟩ isSubtype_stop ?_)
  exact wpAny_pure (hQ _ (((Heap.SameBut.update ..).extBut.push _).push _))

/-- the iterator of a pane of pairs -/
theorem walksU_acc (hh : A.handled = none) (I ax : Addr) (hne : ax ≠ I) (items : Array Value) (Ts : Nat → Addr) (vals : Nat → Array Value)
    (hit : ∀ j, j < items.size → items[j]? = some (.ref (Ts j))) (hTI : ∀ j, j < items.size → Ts j ≠ I) :
    WalksU prog w A I (I :: ax :: (List.range items.size).map Ts) [I] items.size (fun j v => j < items.size ∧ v = vals j)
      (fun j h => h.IsListIter I ax j ∧ SeqAt h ax items ∧ ∀ k, k < items.size → h.IsTuple (Ts k) (vals k))
      (fun j T h => (j < items.size ∧ T = Ts j) ∧ h.IsListIter I ax (j + 1) ∧ SeqAt h ax items ∧ ∀ k, k < items.size → h.IsTuple (Ts k) (vals k)) where
  sub := fun b hb => by simp at hb; simp [hb]
  frame := fun _ _ _ st hk => ⟨st.1.at fun o e => hk I (by simp) o e, st.2.1.kp fun o e => hk ax (by simp) o e,
    fun k hk' => (st.2.2 k hk').at fun o e => hk (Ts k) (List.mem_cons_of_mem _ (List.mem_cons_of_mem _ (List.mem_map.mpr ⟨k, List.mem_range.mpr hk', rfl⟩))) o e⟩
  item := fun i s Q E hi st hQ => by
    refine next_item st.1 st.2.1 (x := .ref (Ts i)) (hit i hi) fun h' hit' hs' => ?_
    have tup : ∀ k, k < items.size → h'.IsTuple (Ts k) (vals k) := fun k hk' => (st.2.2 k hk').extBut hs'.extBut (hTI k hk')
    exact hQ (Ts i) (vals i) h' s.toks ⟨hi, rfl⟩ (tup i hi) ⟨⟨hi, rfl⟩, hit', st.2.1.kp fun o e => hs'.extBut _ o hne e, tup⟩ fun b o hb e => hs'.extBut b o (fun h => hb (by simp [h])) e
  go := fun _ _ _ _ _ s Q _ hm hQ => wpAny_letOwnedTupleGo_listiter hm.2.1 (hQ s.heap hm.2 fun _ _ _ e => e)
  apart := fun j T _ hm hmem => by
    rcases List.mem_cons.mp hmem with e | e
    · exact hTI j hm.1.1 (hm.1.2 ▸ e)
    · cases e
  done := fun s Q E st hQ => next_end hh st.1 st.2.1 (by simp) fun h' he' => hQ h' s.toks fun b o hb e => he' b o (fun h => hb (by simp [h])) e
  self := fun _ _ _ _ st hQ => wpAny_pyIter_listiter st.1 hQ

theorem kind_lit : builtinKind "list.__iter__" = some .slot := by decide +kernel
theorem split_lit : splitId "list.__iter__" = some ("list", "__iter__") := by decide +kernel

theorem iter_acc {x C : Addr} {K : Frag} {Q : Value → Shared → Prop} (X : K.In s.heap) (ht : Looks (model prog w) s.heap (typeOf (.ref x)) (.ref C)) (hs : findIn K (.ref C) (Str.ofString "__iter__") = some (some (.builtin "list.__iter__"))) (hsub : subIn K (.ref C) (.type "list") = some true)
    (hQ : Q (.ref s.heap.objs.size) { s with heap := s.heap.push { cls := .type "list_iterator", data := .fields #[.ref x, .int 0 0] } }) :
    wpAny (model prog w) A (pyIter (.ref x)) Q E s := by
  have sp : Looks (model prog w) s.heap (specialOf (.ref x) (Str.ofString "__iter__")) (some (.builtin "list.__iter__")) := ht.andThen (looks_findIn X hs)
  have fin : ∀ R : Option Value → Shared → Prop, (R (some (.ref s.heap.objs.size)) { s with heap := s.heap.push { cls := .type "list_iterator", data := .fields #[.ref x, .int 0 0] } }) → ∀ refuse : Sem Value,
      wpAny (model prog w) A (if (Value.builtin "list.__iter__" == Value.none) = true then (refuse >>= fun v => pure (some v)) else (call (.builtin "list.__iter__") [.ref x] >>= fun v => pure (some v))) R E s := fun R hR refuse => by
    rw [if_neg (by exact Bool.false_ne_true)]
    refine wpAny_bind (call_bi X ht hsub kind_lit split_lit slot_list_iter.plain entry_list_iter (args_list_iter _) ?_)
    show wpAny _ _ (do ret (← newFields "list_iterator" [.ref x, rawInt 0])) _ _ s
    exact wpAny_bind (wpAny_newObj_type (wpAny_pure (wpAny_pure hR)))
  unfold pyIter
  refine wpAny_bind (sp.here ?_)
  show wpAny _ A (callSpecialIfBoundUnlessNone? (.ref x) (Str.ofString "__iter__") _ >>= _) Q E s
  refine wpAny_bind ?_
  simp only [callSpecialIfBoundUnlessNone?, bindSpecialIfBound?]
  refine wpAny_holding (wpAny_bind (wpAny_bind (sp.here ?_)))
  simp only [slot_list_iter.bind]
  refine wpAny_bind (wpAny_askSetting (wpAny_ite ?_))
  have done : Q (.ref s.heap.objs.size) { s with heap := s.heap.push { cls := .type "list_iterator", data := .fields #[.ref x, .int 0 0] } } := hQ
  have rest : ∀ R : Value → Shared → Prop, R (.ref s.heap.objs.size) { s with heap := s.heap.push { cls := .type "list_iterator", data := .fields #[.ref x, .int 0 0] } } → wpAny (model prog w) A (do
      match ← specialOf (.ref s.heap.objs.size) (Str.ofString "__next__") with
      | none => rule "iter.non-iterator"; raiseError "TypeError" s!"iter() returned non-iterator of type '{← typeNameOf (.ref s.heap.objs.size)}'"
      | some _ => pure (.ref s.heap.objs.size)) R E { s with heap := s.heap.push { cls := .type "list_iterator", data := .fields #[.ref x, .int 0 0] } } := fun R hR =>
    wpAny_bind (wpAny_specialOf (T := "list_iterator") ⟨_, Heap.get?_push_size _ rfl, rfl⟩ slot_listiter_next.lookup (wpAny_pure hR))
  split
  · exact wpAny_bind (wpAny_pure (wpAny_pure (fin _ (rest _ done) _)))
  · exact wpAny_tryCatch (wpAny_bind (wpAny_pure (wpAny_pure (fin _ (rest _ done) _))))
end
end Mine
end

section
set_option maxRecDepth 100000
set_option maxHeartbeats 4000000
namespace Mine
open PySem.Calls PySem.Builtin PySem.Builtin.ObjectAttr

/-- a generator at hand, whose run touches nothing below z -/
noncomputable def GenX (prog : Program) (w : World) (A : Around) (z a : Addr) (n : Nat) (F : Nat → Value → Prop) (s : Shared) : Prop :=
  ∃ fp wr g St, WalksS prog w A.in4 a fp wr (GenOnlyQ g) n F St ∧ St 0 s ∧ (∀ i s', St i s' → s'.TypeIs (.ref a) "generator") ∧ a ∈ fp ∧ (∀ b ∈ fp, b < s.heap.objs.size) ∧ ∀ b ∈ wr, z ≤ b

/-- what holds in every heap that keeps all below z -/
noncomputable def Sf (z : Addr) (h : Heap) (P : Heap → Prop) : Prop := ∀ h', (∀ b o, b < z → h.get? b = some o → h'.get? b = some o) → P h'

theorem passing_all (n : Nat) : passing (fun _ => true) n 0 = List.range n := by
  unfold passing; rw [List.drop_zero]; exact List.filter_eq_self.mpr fun _ _ => rfl

section
variable {prog : Program} {w : World} {A : Around} {E : Value → Shared → Prop} {s : Shared} {K : Frag} {h₀ : Heap} {L : Addr} {m mg mb : Str → Option Value} {p : Program} {loose : List Str} {mean : ExcName → Option Value}

theorem genexp_acc {env : Env} {elt : Expr} {xa xb : Str} {pi pa pb pt : Pos} {kt : Nat} {scope : Scope} {pos : Pos} {Q : Value → Shared → Prop} {c P x dx : Addr} {vs : List Value} {n : Nat} {ps : Array Value} {va vb : Nat → Value} {Ts : Nat → Addr} {news : List (Addr × Obj)} {g : Obj → List (Addr × Obj)} 
    (Y : Nat → Value → Prop) (F : Fr h₀ L s.heap m) (X₀ : K.In h₀) (N : News h₀ L s.heap news) (T : Top p loose mean mg mb h₀) (hloc : env.locals = L) (hglob : env.globals = mainGlobals) (hkf : env.scope.kind = .function) (hself : env.kindOf (Str.ofString "self") = some .local) (hm : m (Str.ofString "self") = some (.ref x))
    (hx : (x, accObj dx vs n) ∈ news) (U : UpdF P (tabObj ps) news g) (hC : CodeHd h₀ c P) (htr : TriplesOk ps.toList) (hcode : env.code = .ref c)
    (hi : findIn K (.ref 101) (Str.ofString "__iter__") = some (some (.builtin "list.__iter__"))) (hsub : subIn K (.ref 101) (.type "list") = some true)
    (hTs : ∀ k, k < vs.length → vs[k]? = some (.ref (Ts k))) (hTu : ∀ k, k < vs.length → s.heap.IsTuple (Ts k) #[va k, vb k])
    (hh : A.handled = none) (hco : scope.isCoroutine = false) (hclos : closureFor scope env = pure []) (hcell : ∀ y ∈ scope.names, y.2 ≠ .cell) (h0 : scope.names.lookup (".0" : Str) = some NameKind.local)
    (hxa : scope.names.lookup xa = some .local) (hxb : scope.names.lookup xb = some .local) (hab : xa ≠ xb) (hkind : scope.kind = .function) (hroom : A.depth < recursionLimit)
    (helt : ∀ (c' : Value) (C : Addr) (A' : Around) E' i (t : Shared) m₂, A'.handled = none → A'.depth ≤ A.depth + 1 → A'.units ≤ A.units + 8 → i < vs.length → Fr h₀ C t.heap m₂ → m₂ xa = some (va i) → m₂ xb = some (vb i) →
      wpAny (model prog w) A' (eval elt (genEnv scope [] C c' builtinsNs env)) (fun y s₃ => Y i y ∧ Keeps t s₃) E' t)
    (h : ∀ a s' ps', Fr h₀ L s'.heap m → News h₀ L s'.heap (g (tabObj ps')) → TriplesOk ps'.toList → (AllBare s.gens → AllBare s'.gens) → s'.os = s.os → GenX prog w A s.heap.objs.size a vs.length (fun j y => j < vs.length ∧ Y j y) s' →
      Sf s.heap.objs.size s'.heap (fun h' => Fr h₀ L h' m ∧ News h₀ L h' (g (tabObj ps'))) → Q (.ref a) s') :
    wpAny (model prog w) A (eval (.GeneratorExp elt [⟨.Tuple [.Name xa pa, .Name xb pb] kt pt, .Name (Str.ofString "self") pi, [], 0⟩] scope pos) env) Q E s := by
  refine wpAny_GeneratorExp_walksQTD hh hco hclos hcell h0 hxa hxb hab hkind hroom ?_ (fun _ => rfl)

  have X := X₀.keeps F.keep
  obtain ⟨pre, post, hnews, hg, u1, u2⟩ := U.split
  have hPm : (P, tabObj ps) ∈ news := by rw [hnews]; simp
  have hP : s.heap.get? P = some (tabObj ps) := (N _ hPm).1
  have hPL : P ≠ L := (N _ hPm).2.1
  have hP0 : h₀.get? P = none := (N _ hPm).2.2
  have hxo : s.heap.get? x = some (accObj dx vs n) := (N _ hx).1

  rw [eval_Name env _ _ rfl]
  refine wpAny_bind (wpAny_standAt (wpAny_loadName_local hkf hself (by rw [hloc]; exact F.ns) hm ?_))
  refine iter_acc X (type_at hxo rfl) hi hsub ?_
  have k01 : ∀ b o, s.heap.get? b = some o → (s.heap.push { cls := .type "list_iterator", data := .fields #[.ref x, .int 0 0] }).get? b = some o := fun b o e => Heap.get?_push_of_some _ e
  have hI : (s.heap.push { cls := .type "list_iterator", data := .fields #[.ref x, .int 0 0] }).IsListIter s.heap.objs.size x 0 := ⟨_, Heap.get?_push_size _ rfl, rfl, rfl⟩
  have hsz1 : (s.heap.push { cls := .type "list_iterator", data := .fields #[.ref x, .int 0 0] }).objs.size = s.heap.objs.size + 1 := Heap.size_push ..
  generalize (s.heap.push { cls := .type "list_iterator", data := .fields #[.ref x, .int 0 0] }) = h₁ at *
  have hlim : h₁.NoLimit := T.nolimit.keeps fun b o e => k01 b o (F.keep b o e)
  refine ⟨hlim, ?_⟩
  have hC1 : CodeHd h₁ c P := hC.keeps fun b o e => k01 b o (F.keep b o e)
  have hcase : ∀ (R : Value → Shared → Prop), (∀ code h₃ tk ps', Heap.ExtBut P h₁ h₃ → h₁.objs.size ≤ h₃.objs.size → h₃.get? P = some (tabObj ps') → TriplesOk ps'.toList → R code { s with heap := h₃, toks := tk }) →
      wpAny (model prog w) A (genexprCode env pos (env.qual ++ "<genexpr>") scope) R E { s with heap := h₁ } := fun R hR => by
    cases hnf : codeAmong pos ps.toList with
    | some cv => exact wpAny_genexprCode_hit (s := { s with heap := h₁ }) hcode (hC1.code (k01 _ _ hP) htr) hnf (hR cv h₁ s.toks ps (Heap.ExtBut.refl _ _) (Nat.le_refl _) (k01 _ _ hP) htr)
    | none =>
      refine wpAny_genexprCodeX (s := { s with heap := h₁ }) hcode (hC1.code (k01 _ _ hP) htr) (hC1.tab (k01 _ _ hP)) hnf fun c' h₃ tk₃ hx₃ hge hlt hcode₃ _ htab₃ _ => ?_
      refine hR _ h₃ tk₃ _ hx₃ (Nat.le_trans hge (Nat.le_of_lt hlt)) htab₃.2 ?_
      have : (ps ++ #[rawInt pos.line, rawInt pos.col, .ref c']).toList = ps.toList ++ [rawInt pos.line, rawInt pos.col, .ref c'] := by simp
      rw [this]; exact TriplesOk_snoc _ _ _ _ htr
  refine hcase _ fun code h₃ tk₃ ps' hx₃ hsz3 hP3 htr3 => ?_
  have k03 : ∀ b o, h₀.get? b = some o → h₃.get? b = some o := fun b o e => hx₃ b o (fun q => by rw [q, hP0] at e; cases e) (k01 b o (F.keep b o e))
  have k13 : ∀ b o, b ≠ P → s.heap.get? b = some o → h₃.get? b = some o := fun b o hb e => hx₃ b o hb (k01 b o e)
  have F₃ : Fr h₀ L h₃ m := by
    refine ⟨?_, k03, F.above⟩
    obtain ⟨o, es, ep, e, r⟩ := F.ns
    exact ⟨o, es, ep, k13 _ _ hPL.symm e, r⟩
  have N₃ : News h₀ L h₃ (g (tabObj ps')) := by
    rw [hg]
    intro q hq
    rcases List.mem_append.mp hq with hq | hq
    · have := N q (by rw [hnews]; exact List.mem_append_left _ hq)
      exact ⟨k13 _ _ (u1 q hq) this.1, this.2⟩
    · rcases List.mem_cons.mp hq with rfl | hq
      · exact ⟨hP3, hPL, hP0⟩
      · have := N q (by rw [hnews]; exact List.mem_append_right _ (List.mem_cons_of_mem _ hq))
        exact ⟨k13 _ _ (u2 q hq) this.1, this.2⟩
  obtain ⟨bm, ob, b1, b2, b3, b4, b5, b6⟩ := T.bmain
  rw [hglob]
  refine wpAny_builtinsFor (s := { s with heap := h₃, toks := tk₃ }) (T.g.keeps k03) b1 b2 (k03 _ _ b3) b4 b5 b6 ?_
  have hxs : x < s.heap.objs.size := Heap.lt_size hxo
  have hLs : L < s.heap.objs.size := F.ns.lt
  have hne : ∀ k, k < vs.length → Ts k ≠ s.heap.objs.size := fun k hk => by
    obtain ⟨o, e, _⟩ := hTu k hk
    exact Nat.ne_of_lt (Heap.lt_size e)
  have hPT : ∀ k, k < vs.length → Ts k ≠ P := fun k hk q => by
    obtain ⟨o, e, hc, _⟩ := hTu k hk
    rw [q, hP] at e; cases e; cases hc
  have hPx : x ≠ P := fun q => by rw [q, hP] at hxo; cases hxo
  have hPI : s.heap.objs.size ≠ P := fun q => by
    have := Heap.lt_size hP
    rw [q] at this; exact Nat.lt_irrefl _ this
  have hvs : vs.toArray.size = vs.length := by simp
  refine ⟨s.heap.objs.size, _, _, vs.toArray.size, _, _, _, (fun _ => true), Y, rfl,
    fun A' hA => walksU_acc hA s.heap.objs.size x (Nat.ne_of_lt hxs) vs.toArray Ts (fun k => #[va k, vb k]) (fun j hj => by rw [hvs] at hj; simpa using hTs j hj) (fun j hj => hne j (hvs ▸ hj)),
    (fun i vals hp => ⟨_, _, hp.2⟩), ?_, ?_, ?_, ?_, ?_, ?_⟩
  · refine ⟨hI.at fun o e => hx₃ _ o hPI e, ⟨_, _, k13 _ _ hPx hxo, rfl⟩, fun k hk => ?_⟩
    exact (hTu k (hvs ▸ hk)).at fun o e => k13 _ o (hPT k (hvs ▸ hk)) e
  · intro b hb
    show b < h₃.objs.size
    have hlt1 : s.heap.objs.size < h₃.objs.size := by rw [hsz1] at hsz3; exact hsz3
    rcases List.mem_cons.mp hb with rfl | hb
    · exact hlt1
    · rcases List.mem_cons.mp hb with rfl | hb
      · exact Nat.lt_trans hxs hlt1
      · obtain ⟨k, hk, rfl⟩ := List.mem_map.mp hb
        obtain ⟨o, e, _⟩ := hTu k (by have := List.mem_range.mp hk; rwa [hvs] at this)
        exact Nat.lt_trans (Heap.lt_size e) hlt1
  · exact T.nolimit.keeps k03
  · intro hm
    have h1 : cStatics = s.heap.objs.size := by simpa using hm
    obtain ⟨_, hns, _⟩ := T.nolimit
    have h2 : cStatics < h₀.objs.size := hns.lt
    exact Nat.lt_irrefl _ (Nat.lt_of_lt_of_le (Nat.lt_of_lt_of_le h2 F.above) (by rw [h1]; exact Nat.le_of_lt hLs))
  · intro href hhref
    have hlt1 : s.heap.objs.size < h₃.objs.size := by rw [hsz1] at hsz3; exact hsz3
    refine ⟨fun A' E' i va' vb' s₂ m₂ hA hD hU hp hn hma hmb hkp => wpAny_pure ⟨rfl, ⟨_, _, rfl, fun _ _ e => e⟩⟩, fun A' E' i va' vb' s₂ m₂ hA hD hU hp hpz hn hma hmb hkp => ?_⟩
    obtain ⟨hi', he⟩ := hp
    have e1 : va' = va i ∧ vb' = vb i := by simpa using he
    obtain ⟨rfl, rfl⟩ := e1
    refine helt code h₃.objs.size A' E' i s₂ m₂ hA hD hU (hvs ▸ hi') ⟨hn, fun b o e => ?_, Nat.le_trans F.above (Nat.le_of_lt (Nat.lt_trans hLs hlt1))⟩ hma hmb
    have hb0 : b < s.heap.objs.size := Nat.lt_trans (Nat.lt_of_lt_of_le (Heap.lt_size e) F.above) hLs
    exact hkp b (List.mem_range.mpr (Nat.lt_trans hb0 hlt1)) (by simp; exact Nat.ne_of_lt hb0) o (hhref b o (k03 b o e))
  · intro a h₅ tk gs hgb hag hsz₅ hk₅ W hat
    have hlt1 : s.heap.objs.size < h₃.objs.size := by rw [hsz1] at hsz3; exact hsz3
    have hag' : h₃.objs.size < a := hag
    rw [passing_all, List.length_range, hvs] at W
    have eF : (fun (j : Nat) (y : Value) => ∃ i, (List.range vs.length)[j]? = some i ∧ Y i y) = (fun j y => j < vs.length ∧ Y j y) := by
      funext j y
      apply propext
      constructor
      · rintro ⟨i, e, hy⟩
        obtain ⟨hj, e⟩ := List.getElem?_eq_some_iff.mp e
        rw [List.length_range] at hj
        rw [List.getElem_range] at e
        subst e; exact ⟨hj, hy⟩
      · rintro ⟨hj, hy⟩
        exact ⟨j, by rw [List.getElem?_range hj], hy⟩
    rw [eF] at W
    rw [hvs] at hat
    refine h a _ ps' (F₃.keeps hk₅) (News.kp N₃ hk₅) htr3 (fun hb => hb.push hgb) rfl ⟨_, _, _, _, W, hat, (fun i s' st => st.1.typeIs), List.mem_cons_self, ?_, ?_⟩ ?_
    · intro b hb
      show b < h₅.objs.size
      rw [hsz₅]
      rcases List.mem_cons.mp hb with rfl | hb
      · exact Nat.lt_succ_self _
      · rcases List.mem_cons.mp hb with rfl | hb
        · exact Nat.lt_succ_of_lt hag
        · exact Nat.lt_succ_of_lt (Nat.lt_trans (List.mem_range.mp hb) hag)
    · intro b hb
      rcases List.mem_cons.mp hb with rfl | hb
      · exact Nat.le_of_lt hlt1
      · rw [List.mem_singleton] at hb; rw [hb]; exact Nat.le_refl _
    · intro h' hk'
      refine ⟨⟨?_, fun b o e => hk' b o (Nat.lt_trans (Nat.lt_of_lt_of_le (Heap.lt_size e) F.above) hLs) (hk₅ b o (k03 b o e)), F.above⟩, fun q hq => ?_⟩
      · obtain ⟨o, es, ep, e, r⟩ := F₃.ns
        exact ⟨o, es, ep, hk' _ _ hLs (hk₅ _ _ e), r⟩
      · have := N₃ q hq
        refine ⟨hk' _ _ ?_ (hk₅ _ _ this.1), this.2⟩
        rw [hg] at hq
        rcases List.mem_append.mp hq with hq | hq
        · exact Heap.lt_size (N q (by rw [hnews]; exact List.mem_append_left _ hq)).1
        · rcases List.mem_cons.mp hq with rfl | hq
          · exact Heap.lt_size hP
          · exact Heap.lt_size (N q (by rw [hnews]; exact List.mem_append_right _ (List.mem_cons_of_mem _ hq))).1
end
end Mine
end

section
set_option maxRecDepth 100000
set_option maxHeartbeats 4000000
namespace Mine
open PySem.Calls PySem.Builtin PySem.Builtin.ObjectAttr

theorem join_S : ∀ ls : List (List Nat), Str.join (S []) (ls.map S) = S ls.flatten
  | [] => rfl
  | [x] => by simp [Str.join]
  | x :: y :: r => by
    have ih := join_S (y :: r)
    show S x ++ S [] ++ Str.join (S []) ((y :: r).map S) = _
    rw [ih, S_app, S_app]; simp
theorem txt_join_S (ls : List (List Nat)) : Txt.join (S []) (ls.map S) = S ls.flatten := by
  have : Txt.join (S []) (ls.map S) = Str.join (S []) (ls.map S) := StrLaws.glued_eq_join _ _
  rw [this, join_S]

section
variable {prog : Program} {w : World} {A : Around} {E : Value → Shared → Prop} {s : Shared} {K : Frag} {h₀ : Heap} {C : Addr} {m : Str → Option Value} {mg mb : Str → Option Value} {p : Program} {loose : List Str} {mean : ExcName → Option Value}

theorem elt_str {scope : Scope} {env : Env} {c' : Value} {fa fb : List Nat} {ta tb tE : Tok} {p1 p2 p3 p4 p5 p6 : Pos}
    (X : K.In h₀) (T : Top p loose mean mg mb h₀) (F : Fr h₀ C s.heap m) (hg : env.globals = mainGlobals) (hE : nsIn K mainGlobals (Str.ofString "EMPTYSTRING") = some (some (.str (Str.ofString "") tE)))
    (hk : scope.kind = .function) (k1 : scope.names.lookup (Str.ofString "EMPTYSTRING") = some .globalImplicit) (k2 : scope.names.lookup (Str.ofString "fws") = some .local) (k3 : scope.names.lookup (Str.ofString "part") = some .local)
    (ha : m (Str.ofString "fws") = some (.str (S fa) ta)) (hb : m (Str.ofString "part") = some (.str (S fb) tb)) (hl : (p2.endLine == p6.line) = true) (hz : fa.length + fb.length ≤ 100000) :
    wpAny (model prog w) A (eval ((((Expr.Name (Str.ofString "EMPTYSTRING") p1).Attribute (Str.ofString "join") p2).Call [Expr.Tuple [Expr.Name (Str.ofString "fws") p3, Expr.Name (Str.ofString "part") p4] 0 p5] [] p6)) (genEnv scope [] C c' builtinsNs env))
      (fun y s₃ => (∃ t, y = .str (S (fa ++ fb)) t) ∧ Keeps s s₃) E s := by
  refine Call_method1 rfl rfl hl ?_
  refine Name_function_global hk k1 (loadGlobal_global (env := genEnv scope [] C c' builtinsNs env) (mg := mg) (show s.heap.Ns env.globals mg from hg ▸ (T.g.keeps F.keep)) (mg_of X T.g hE) ?_)
  refine ⟨"str", _, PySem.F.plainAttrs_str, PySem.F.slot_str_join, PySem.F.type_str_join, typeIs_str _ _ _, (fun _ e => nomatch e), ?_⟩
  refine Calls.callWith_builtin rfl (Calls.evalArgs_plain (Calls.spliced_cons (wpAny_Tuple ?_)))
  refine Calls.spliced_cons ?_
  rw [eval_Name _ _ _ rfl]
  refine wpAny_bind (wpAny_standAt (wpAny_loadName_local (env := genEnv scope [] C c' builtinsNs env) hk k2 F.ns ha ?_))
  refine Calls.spliced_cons ?_
  rw [eval_Name _ _ _ rfl]
  refine wpAny_bind (wpAny_standAt (wpAny_loadName_local (env := genEnv scope [] C c' builtinsNs env) hk k3 F.ns hb ?_))
  refine Calls.spliced_nil ⟨by show 2 ≤ sizeLine; rw [sizeLine_eq]; omega, Calls.spliced_nil ?_⟩
  refine join_tuple (items := #[.str (S fa) ta, .str (S fb) tb]) (ys := [S fa, S fb]) ⟨_, Heap.get?_push_size _ rfl, rfl, _, rfl⟩ (.cons _ _ (.cons _ _ .nil)) (by simp only [List.map, List.sum_cons, List.sum_nil, S_len, empty_S, List.length_cons, List.length_nil]; omega) fun t' k => ?_
  refine ⟨⟨t', ?_⟩, _, _, rfl, fun b o e => Heap.get?_push_of_some _ e⟩
  have := txt_join_S [fa, fb]
  simp only [List.map, List.flatten_cons, List.flatten_nil, List.append_nil] at this
  rw [empty_S, this]

theorem elt_len {scope : Scope} {env : Env} {c' : Value} {fa fb : List Nat} {ta tb : Tok} {p1 p2 p3 p4 p5 p6 p7 : Pos}
    (X : K.In h₀) (T : Top p loose mean mg mb h₀) (F : Fr h₀ C s.heap m) (hg : env.globals = mainGlobals) (hE : nsIn K mainGlobals (Str.ofString "len") = some none)
    (hk : scope.kind = .function) (k1 : scope.names.lookup (Str.ofString "len") = some .globalImplicit) (k2 : scope.names.lookup (Str.ofString "fws") = some .local) (k3 : scope.names.lookup (Str.ofString "part") = some .local)
    (ha : m (Str.ofString "fws") = some (.str (S fa) ta)) (hb : m (Str.ofString "part") = some (.str (S fb) tb)) (hz : fa.length + fb.length ≤ 100000) :
    wpAny (model prog w) A (eval ((((Expr.Name (Str.ofString "len") p1).Call [Expr.Name (Str.ofString "fws") p2] [] p3).BinOp Operator.Add ((Expr.Name (Str.ofString "len") p4).Call [Expr.Name (Str.ofString "part") p5] [] p6) p7)) (genEnv scope [] C c' builtinsNs env))
      (fun y s₃ => (∃ t, y = .int ((fa.length + fb.length : Nat) : Int) t) ∧ Keeps s s₃) E s := by
  have name : ∀ {s' : Shared} {Q : Value → Shared → Prop} {pp : Pos}, s'.heap = s.heap → Q (.builtin "len") s' → wpAny (model prog w) A (eval (Expr.Name (Str.ofString "len") pp) (genEnv scope [] C c' builtinsNs env)) Q E s' := fun {s' Q pp} e h => by
    refine Name_function_global hk k1 (loadGlobal_builtin (env := genEnv scope [] C c' builtinsNs env) (mg := mg) (mb := mb) (show s'.heap.Ns env.globals mg from hg ▸ e ▸ (T.g.keeps F.keep)) (mg_none_of X T.g hE) (show s'.heap.Ns builtinsNs mb from e ▸ T.b.keeps F.keep) ((T.builtins _ (by decide)).trans (show _ = some (.builtin "len") from by decide +kernel)) h)
  refine wpAny_BinOp (Call_name1 rfl (name rfl (callWith_builtin1 ?_)))
  rw [eval_Name _ _ _ rfl]
  refine wpAny_bind (wpAny_standAt (wpAny_loadName_local (env := genEnv scope [] C c' builtinsNs env) hk k2 F.ns ha ?_))
  refine len_str (by rw [S_len]; omega) (Call_name1 rfl (name rfl (callWith_builtin1 ?_)))
  rw [eval_Name _ _ _ rfl]
  refine wpAny_bind (wpAny_standAt (wpAny_loadName_local (env := genEnv scope [] C c' builtinsNs env) hk k3 F.ns hb ?_))
  refine len_str (by rw [S_len]; omega) (wpAny_add_int ?_)
  rw [S_len, S_len]
  exact ⟨⟨_, rfl⟩, _, _, rfl, fun _ _ e => e⟩

theorem join_genX {z a L : Addr} {f : Nat → List Nat} {n : Nat} {Q : Value → Shared → Prop} {news : List (Addr × Obj)} {tE : Tok} (hB : AllBare s.gens) (G : GenX prog w A z a n (fun j y => j < n ∧ ∃ t, y = .str (S (f j)) t) s)
    (SF : Sf z s.heap (fun h' => Fr h₀ L h' m ∧ News h₀ L h' news)) (hn : n ≤ 1000) (hw : ((List.range n).map f).flatten.length ≤ 1000000)
    (h : ∀ s' t', Fr h₀ L s'.heap m → News h₀ L s'.heap news → AllBare s'.gens → s'.os = s.os → Q (.str (S ((List.range n).map f).flatten) t') s') :
    wpAny (model prog w) A (call (.builtin "str.join") [.str (Str.ofString "") tE, .ref a]) Q E s := by
  obtain ⟨fp, wr, g, St, W, hst, hT, ha, hfp, hwr⟩ := G
  have W := W.in4_2
  have hlen : ∀ l : List (List Nat), ((l.map S).map (·.length)).sum = l.flatten.length := fun l => by
    induction l with
    | nil => rfl
    | cons x r ih => simp only [List.map_cons, List.sum_cons, List.flatten_cons, List.length_append, S_len, ih]
  rw [empty_S]
  refine SC.joinGen W hT hst hfp ha (fun j v hv => let ⟨u, e⟩ := hv.2; ⟨_, u, e⟩) (fun s' lt hm hacc => ?_) (by rw [sizeLine_eq]; omega)
  have hl : lt.map (·.1) = ((List.range n).map f).map S := by
    apply List.ext_getElem?
    intro j
    have hsz : lt.length = n := by simpa [strValues] using hacc.1
    by_cases hj : j < n
    · have hj' : j < lt.length := hsz ▸ hj
      obtain ⟨_, u, hv⟩ := hacc.2 j (.str lt[j].1 lt[j].2) (by simp [strValues, List.getElem?_eq_getElem hj'])
      injection hv with h1 _
      simp [List.getElem?_eq_getElem hj', hj, h1]
    · rw [List.getElem?_eq_none (by simpa [hsz] using Nat.le_of_not_lt hj), List.getElem?_eq_none (by simpa using Nat.le_of_not_lt hj)]
  rw [hl, txt_join_S]
  obtain ⟨F1, N1⟩ := SF s'.heap fun b o hb e => hm.heap b o (fun hmem => Nat.lt_irrefl _ (Nat.lt_of_lt_of_le hb (hwr b hmem))) e
  have hok : JoinOk (S []) (((List.range n).map f).map S) = true := joinOk_of (by rw [hlen, S_len]; simp only [List.length_nil, Nat.mul_zero, Nat.add_zero]; omega)
  have hb := hB.movedS hm
  have ho := hm.os
  exact ⟨hok, fun t' k => h { s' with toks := k } t' F1 N1 hb ho⟩

theorem args_sum2 (a b : Value) : argsOk "sum" ⟨[a, b], []⟩ := by unfold argsOk; kernel_rfl

theorem sum_genX {z a L : Addr} {f : Nat → Int} {n : Nat} {Q : Value → Shared → Prop} {news : List (Addr × Obj)} {t0 : Tok} (hB : AllBare s.gens) (G : GenX prog w A z a n (fun j y => j < n ∧ ∃ t, y = .int (f j) t) s)
    (SF : Sf z s.heap (fun h' => Fr h₀ L h' m ∧ News h₀ L h' news))
    (h : ∀ s' t', Fr h₀ L s'.heap m → News h₀ L s'.heap news → AllBare s'.gens → s'.os = s.os → Q (.int (preSum f n) t') s') :
    wpAny (model prog w) A (call (.builtin "sum") [.ref a, .int 0 t0]) Q E s := by
  obtain ⟨fp, wr, g, St, W, hst, hT, ha, hfp, hwr⟩ := G
  have W := W.in4_1
  refine call_function_tree PySem.F.kind_sum PySem.F.plain_sum PySem.F.entry_sum (args_sum2 _ _) ?_
  unfold Builtin.«sum»
  simp only [List.length_cons, List.length_nil]
  rw [if_neg (by decide)]
  refine wpAny_bind (wpAny_of_eq (show Builtin.Builtins.bindParams "sum" ["start"] 0 { pos := [.int 0 t0] } = pure [some (.int 0 t0)] from rfl) ?_)
  refine wpAny_bind (W.self 0 _ _ _ hst ?_)
  refine wpAny_bind (wpAny_rule (wpAny_bind (wpAny_mkInt (wpAny_bind (wpAny_pure ?_)))))
  simp only [List.forIn_cons, List.forIn_nil]
  refine wpAny_bind (wpAny_bind (wpAny_bind (wpAny_isInstance (T := "int") (b := false) (typeIs_int _ _ _) PySem.sub_int_str ?_)))
  simp only [Bool.false_eq_true, if_false]
  refine wpAny_pure (wpAny_bind (wpAny_bind (wpAny_isInstance (T := "int") (b := false) (typeIs_int _ _ _) PySem.sub_int_bytes ?_)))
  simp only [Bool.false_eq_true, if_false]
  refine wpAny_pure (wpAny_bind (wpAny_bind (wpAny_isInstance (T := "int") (b := false) (typeIs_int _ _ _) PySem.sub_int_bytearray ?_)))
  simp only [Bool.false_eq_true, if_false]
  refine wpAny_pure (wpAny_pure ?_)
  refine wpAny_bind (wpAny_newObj_type ?_)
  have hSf : s.heap.objs.size ∉ fp := fun hm => Nat.lt_irrefl _ (hfp _ hm)
  refine wpAny_pure ⟨plainId_quiet PySem.F.plain_sum_loop _, codeAny_sum_loopAnyS W f (fun i v hv => hv.2) s.heap.objs.size hSf n 0 _ s.toks 0 0 (.inl rfl) rfl (Nat.zero_le _)
    (W.frame 0 s _ _ hst (by first | exact Nat.le_refl _ | exact Nat.le_succ _ | omega) fun b _ o e => Heap.get?_push_of_some _ e) (Heap.get?_push_size _ rfl) fun s' t' hm => ?_⟩
  have hm' := hm.drop_new (by first | exact Nat.le_refl _ | exact Nat.le_succ _ | omega)
  obtain ⟨F1, N1⟩ := SF s'.heap fun b o hb e => hm'.heap b o (fun hmem => Nat.lt_irrefl _ (Nat.lt_of_lt_of_le hb (hwr b hmem))) e
  exact h s' t' F1 N1 (hB.movedS hm') hm'.os
end
end Mine
end

section
set_option maxRecDepth 100000
set_option maxHeartbeats 4000000
namespace Mine
open PySem.Calls PySem.Builtin PySem.Builtin.ObjectAttr
section
variable {prog : Program} {w : World} {A : Around} {E : Value → Shared → Prop} {s : Shared} {K : Frag} {x C L : Addr} {h₀ : Heap} {m : Str → Option Value} {ox : Obj} {od : Option Obj} {name : Str} {expr : Bool} {Q : Value → Shared → Prop} {es : List DictEntry} {n : Nat} {v : Value}

theorem kind_lga : builtinKind "list.__getattribute__" = some .slot := by decide +kernel
theorem split_lga : splitId "list.__getattribute__" = some ("list", "__getattribute__") := by decide +kernel
theorem get_ownL {attr : Option Value} (F : Fr h₀ L s.heap m) (X₀ : K.In h₀) (I : InstAt s.heap x ox C (some (dictOf es n))) (hga : findIn K (.ref C) (Str.ofString "__getattribute__") = some (some (.builtin "list.__getattribute__"))) (hgb : findIn K (.ref C) (Str.ofString "__getattr__") = some none)
    (hsub : subIn K (.ref C) (.type "list") = some true) (hh : hasDictIn K C = true)
    (ha : findIn K (.ref C) name = some attr) (hn : noGet K attr = true) (hl : getL name es = some (some v)) (hv : handedIn v = true) (h : Q v { s with toks := s.toks + 1 }) :
    wpAny (model prog w) A (getAttr (.ref x) name expr) Q E s := by
  have X := X₀.keeps F.keep
  have hf := findObj_own (K := K) (C := C) (name := name) (od := dictOf es n) hh ha hn hl
  obtain ⟨hp, g, d, t, os⟩ := s
  have L0 := I.type (M := model prog w)
  have L1 := looks_findIn (M := model prog w) X hga
  have L2 := looks_findIn (M := model prog w) X hgb
  have L3 := looks_find (M := model prog w) X I hf
  unfold getAttr getAttrBy
  refine wpAny_bind (wpAny_mkText (wpAny_holding (wpAny_bind (L0.at (wpAny_bind (L1.at ?_))))))
  show wpAny _ _ (getAttrByItsOwn _ _ _ _ _ _) _ _ _
  unfold getAttrByItsOwn
  refine wpAny_bind ((show Looks (model prog w) hp (hookBefore (.ref C)) none from L2).at ?_)
  refine wpAny_bind (wpAny_attempt (wpAny_holding ?_))
  unfold callGetattribute
  rw [if_neg (by cases expr <;> decide)]
  unfold boundAndCalled
  rw [PySem.F.slot_list_getattribute.bind]
  refine wpAny_bind (wpAny_pure ?_)
  refine call_bi (s := ⟨hp, g, d, t + 1, os⟩) X L0 hsub kind_lga split_lga PySem.F.slot_list_getattribute.plain PySem.F.entry_list_ga (PySem.F.args_list_getattribute_2 _ _) ?_
  refine wpAny_bind (wpAny_pure (wpAny_bind (wpAny_pure (wpAny_bind (L0.at (wpAny_bind (L3.at ?_)))))))
  refine wpAny_pure ?_
  show wpAny _ _ (handedOut v) _ _ _
  rw [handedOut_of hv]; exact wpAny_pure h
end
end Mine
end

section
set_option maxRecDepth 100000
set_option maxHeartbeats 4000000
namespace Mine
open PySem.Calls PySem.Builtin PySem.Builtin.ObjectAttr
theorem slot_fnga : Slot "function" (Str.ofString "__getattribute__") "object.__getattribute__" :=
  .of (owner := "object") (n := "__getattribute__") (by rw [typeLookup_type, builtinLookup_eq_fast]; kernel_rfl) (by decide +kernel) (by decide +kernel) (by decide +kernel)
    (by first | exact .inl (by decide +kernel) | exact .inr (by decide +kernel)) (by rw [isSubtype_type]; kernel_rfl)
theorem fn_noga : typeLookup (.type "function") (Str.ofString "__getattr__") = pure none := by rw [typeLookup_type, builtinLookup_eq_fast]; kernel_rfl
theorem entry_oga : entryFor table "object.__getattribute__" = some Builtin.«object.__getattribute__» := entryFor_of_tree (by kernel_rfl)
theorem args_oga (a b : Value) : argsOk "object.__getattribute__" ⟨[a, b], []⟩ := by unfold argsOk; kernel_rfl
theorem canon_oga : (Manifest.canonical "object.__getattribute__" != "object.__getattribute__") = false := by decide +kernel
section
variable {prog : Program} {w : World} {A : Around} {E : Value → Shared → Prop} {s : Shared} {h₀ : Heap} {L f d : Addr} {m : Str → Option Value} {fd : FuncData} {sl : Array (Option Value)} {news : List (Addr × Obj)}
theorem meth_fn {hh : Int} {kt : Tok} {fr : Addr} {pl : Sem Bool} {Q : Value × List Value → Shared → Prop} (N : News h₀ L s.heap news) (hf : (f, fnObj (some d) fd sl) ∈ news) (hd : (d, dictOf [⟨hh, .str (Str.ofString "read") kt, .ref fr⟩] 1) ∈ news)
    (h : Q (.ref fr, []) { s with toks := s.toks + 1 }) : wpAny (model prog w) A (getMethod (.ref f) (Str.ofString "read") pl) Q E s := by
  have hfo := (N _ hf).1
  have hdo := (N _ hd).1
  have hT : s.TypeIs (.ref f) "function" := ⟨_, hfo, rfl⟩
  have hT1 : ({ s with toks := s.toks + 1 } : Shared).TypeIs (.ref f) "function" := ⟨_, hfo, rfl⟩
  unfold getMethod
  refine wpAny_bind (wpAny_specialOf hT slot_fnga.lookup ?_)
  dsimp only
  rw [canon_oga, if_neg (by decide)]
  refine wpAny_bind (wpAny_specialOf hT fn_noga ?_)
  refine wpAny_bind (wpAny_specialOf hT fn_read ?_)
  refine wpAny_bind (m := getAttr (.ref f) (Str.ofString "read") false) ?_
  unfold getAttr getAttrBy
  refine wpAny_bind (wpAny_mkText (wpAny_holding (wpAny_bind (wpAny_typeOf (T := "function") hT1 (wpAny_bind (wpAny_of_eq slot_fnga.lookup ?_))))))
  show wpAny _ _ (getAttrByItsOwn _ _ _ _ _ _) _ _ _
  unfold getAttrByItsOwn
  refine wpAny_bind (wpAny_of_eq (show hookBefore (.type "function") = pure none from rfl) ?_)
  refine wpAny_bind (wpAny_attempt (wpAny_holding ?_))
  unfold callGetattribute
  rw [if_neg (by decide)]
  unfold boundAndCalled
  rw [slot_fnga.bind]
  refine wpAny_bind (wpAny_pure ?_)
  refine wpAny_call_entry slot_fnga hT1 entry_oga ?_ (args_oga _ _)
  refine wpAny_bind (wpAny_pure (wpAny_bind (wpAny_pure (wpAny_bind (wpAny_typeOf (T := "function") hT1 (wpAny_bind ?_))))))
  unfold ObjectAttr.find
  refine wpAny_bind (wpAny_of_eq fn_read (wpAny_bind (wpAny_pure (wpAny_bind (wpAny_pure ?_)))))
  show wpAny _ _ (ownThenClass _ _ _ _) _ _ _
  unfold ownThenClass inOwnDict ObjectAttr.ownDict
  refine wpAny_bind (wpAny_bind (wpAny_bind (wpAny_loadPart (part := some headPart) hfo ?_)))
  show wpAny _ _ (instanceDict f false) _ _ _
  unfold instanceDict
  refine wpAny_bind (wpAny_loadPart hfo (wpAny_pure ?_))
  show wpAny _ _ (nsGet d _) _ _ _
  unfold nsGet
  refine wpAny_bind (wpAny_loadPart hdo ?_)
  rw [nsLook_of (show lookIn (Str.ofString "read") (dictOf [⟨hh, .str (Str.ofString "read") kt, .ref fr⟩] 1) = some (some (.ref fr)) from rfl)]
  refine wpAny_pure ?_
  refine wpAny_bind (wpAny_rule (wpAny_pure ?_))
  refine wpAny_pure ⟨_, rfl, ?_⟩
  exact wpAny_pure (wpAny_pure h)
end
end Mine
end

section
set_option maxRecDepth 100000
set_option maxHeartbeats 4000000
namespace Mine
open PySem.Calls PySem.Builtin PySem.Builtin.ObjectAttr
noncomputable abbrev ciObj (bm : Addr) (t : Tok) : Obj := { cls := .type "callable_iterator", data := .fields #[.ref bm, .str (Str.ofString "") t, .bool false] }
theorem slot_ci : Slot "callable_iterator" (Str.ofString "__next__") "callable_iterator.__next__" :=
  .of (owner := "callable_iterator") (n := "__next__") (by rw [typeLookup_type, builtinLookup_eq_fast]; kernel_rfl) (by decide +kernel) (by decide +kernel) (by decide +kernel)
    (by first | exact .inl (by decide +kernel) | exact .inr (by decide +kernel)) (by rw [isSubtype_type]; kernel_rfl)
theorem entry_ci : entryFor table "callable_iterator.__next__" = some Builtin.«callable_iterator.__next__» := entryFor_of_tree (by kernel_rfl)
theorem args_ci (a : Value) : argsOk "callable_iterator.__next__" ⟨[a], []⟩ := by unfold argsOk; kernel_rfl
section
variable {M : Model} {A : Around} {E : Value → Shared → Prop} {s : Shared}
theorem wpAny_callBorrowed {f : Value} {pos : List Value} {Q : Value → Shared → Prop}
    (hc : codeAny M A (.call f ⟨pos, []⟩) (fun r s' => match r with | .ok (.ret v) => Q v s' | .ok _ => False | .error e => E e s') s) : wpAny M A (callBorrowed f pos) Q E s := fun Γ p hΓ => by
  unfold callBorrowed
  show wpCode M (Γ.enter _ none p) _ p s
  refine wpCode_mono (fun r s' hr => ?_) (hc _ p rfl (hΓ.enter _ none p (by intro x; cases x)))
  cases r with
  | error e => exact hr
  | ok fl => cases fl <;> first | exact hr | exact hr.elim
theorem borrows_meth {bm f : Addr} {self : Value} {fd : FuncData} {oc : Value} {od : Option Addr} {sl : Array (Option Value)} {Q : Bool → Shared → Prop} (hb : s.heap.get? bm = some (methodObj (.ref f) self)) (hf : s.heap.get? f = some ⟨oc, od, .func fd, sl⟩) (h : Q true s) :
    wpAny M A (borrowsExactly (.ref bm)) Q E s := by
  unfold borrowsExactly
  refine wpAny_bind (wpAny_load hb ?_)
  dsimp only
  rw [if_pos (by decide)]
  show wpAny _ _ (load f >>= _) _ _ _
  exact wpAny_bind (wpAny_load hf (wpAny_pure h))
end
section
variable {prog : Program} {w : World} {A : Around} {E : Value → Shared → Prop} {s : Shared}
/-- the next sign of iter(f, '') -/
theorem next_ci {I bm f : Addr} {self : Value} {fd : FuncData} {oc : Value} {od : Option Addr} {sl : Array (Option Value)} {t : Tok} {Q : Option Value → Shared → Prop} (hh : A.handled = none)
    (hI : s.heap.get? I = some (ciObj bm t)) (hb : s.heap.get? bm = some (methodObj (.ref f) self)) (hf : s.heap.get? f = some ⟨oc, od, .func fd, sl⟩)
    (h : codeAny (model prog w) A.in1 (.call (.ref f) ⟨[self], []⟩) (fun r s' => match r with
      | .ok (.ret v) => s'.heap.get? I = some (ciObj bm t) ∧ s'.heap.get? bm = some (methodObj (.ref f) self) ∧ s'.heap.get? f = some ⟨oc, od, .func fd, sl⟩ ∧ ∃ l u, v = .str (S l) u ∧ (l ≠ [] → Q (some v) s') ∧ (l = [] → ∀ h', Heap.ExtBut I s'.heap h' → Q none { s' with heap := h' })
      | _ => False) s) : wpAny (model prog w) A (pyNext (.ref I)) Q E s := by
  have hT : s.TypeIs (.ref I) "callable_iterator" := ⟨_, hI, rfl⟩
  unfold pyNext
  refine wpAny_bind (wpAny_attempt (wpAny_callSpecial?_slot (name := Str.ofString "__next__") hT slot_ci (wpAny_call_entry slot_ci hT entry_ci ?_ (args_ci _))))
  show wpAny _ _ (field (.ref I) 2 >>= _) _ _ s
  refine wpAny_bind (wpAny_field hI rfl (x := .bool false) rfl ?_)
  rw [if_neg (by decide)]
  show wpAny _ _ (field (.ref I) 0 >>= _) _ _ s
  refine wpAny_bind (wpAny_field hI rfl (x := .ref bm) rfl ?_)
  refine wpAny_bind (m := (callOutOfASlot (.ref bm)).attempt) (wpAny_attempt ?_)
  unfold callOutOfASlot
  refine wpAny_bind (borrows_meth hb hf ?_)
  rw [if_pos rfl]
  refine wpAny_callBorrowed (method_call hb (codeAny_mono h fun r s' hr => ?_))
  cases r with
  | error e => exact hr.elim
  | ok fl =>
    cases fl with
    | ret v =>
      obtain ⟨hI', hb', hf', l, u, rfl, hs, he⟩ := hr
      dsimp only
      refine wpAny_bind (wpAny_field hI' rfl (x := .bool false) rfl ?_)
      rw [if_neg (by decide)]
      refine wpAny_bind (wpAny_field hI' rfl (x := .str (Str.ofString "") t) rfl ?_)
      refine wpAny_bind (wpAny_holding (wpAny_eqBool_str ?_))
      rw [empty_S]
      cases l with
      | cons c r =>
        rw [if_pos (by rw [decide_eq_false (fun e => by have := S_inj e; cases this)]; rfl)]
        exact wpAny_bind (wpAny_pure (wpAny_pure ⟨_, rfl, wpAny_pure (hs (by simp))⟩))
      | nil =>
        rw [if_neg (by rw [decide_eq_true rfl]; decide)]
        refine wpAny_bind (wpAny_rule ?_)
        refine wpAny_bind ?_
        refine wpAny_bind (wpAny_field hI' rfl (x := .ref bm) rfl ?_)
        refine wpAny_bind (m := slotLetsGo _ _ _) ?_
        unfold slotLetsGo
        refine wpAny_bind (borrows_meth hb' hf' ?_)
        rw [if_pos rfl]
        refine wpAny_pure (wpAny_bind (wpAny_setField_rec hI' (by simp) fun h1 e1 s1 => wpAny_bind (wpAny_setField_rec e1 (by simp) fun h2 e2 s2 => wpAny_setField_rec e2 (by simp) fun h3 e3 s3 => ?_)))
        show wpAny _ _ (newExc (.type "StopIteration") [] >>= _) _ _ _
        refine wpAny_bind ?_
        simp only [newExc, newTuple]
        refine wpAny_bind (wpAny_newObj_type ?_ (by size_fits))
        refine wpAny_bind (m := firstArgMember _ _) (wpAny_of_eq (a := Value.none) (by first | rfl | (simp only [firstArgMember]; rfl)) ?_)
        refine wpAny_newObj_type ?_ (by size_fits)
        simp only [raiseNew]
        refine wpAny_bind (wpAny_handled ?_)
        rw [show A.in1.handled = none from hh]
        refine wpAny_bind (wpAny_pure (wpAny_throw ?_))
        refine wpAny_bind (wpAny_isInstance (T := "StopIteration") (b := true) ⟨_, Heap.get?_push_size _ rfl, rfl⟩ isSubtype_stop ?_)
        refine wpAny_pure (he rfl _ fun b o hb9 e => ?_)
        exact Heap.get?_push_of_some _ (Heap.get?_push_of_some _ (s3.extBut b o hb9 (s2.extBut b o hb9 (s1.extBut b o hb9 e))))
    | _ => exact hr.elim
end
end Mine
namespace Mine
open PySem.Calls PySem.Builtin PySem.Builtin.ObjectAttr
theorem kind_iter2 : builtinKind "iter" = none := by decide +kernel
theorem plain_iter2 : plainId "iter" = true := by decide +kernel
theorem entry_iter2 : entryFor table "iter" = some Builtin.«iter» := entryFor_of_tree (by kernel_rfl)
theorem args_iter2 (a b : Value) : argsOk "iter" ⟨[a, b], []⟩ := by unfold argsOk; kernel_rfl
theorem meth_call : typeLookup (.type "method") (Str.ofString "__call__") = pure (some (.builtin "method.__call__")) := by rw [typeLookup_type, builtinLookup_eq_fast]; kernel_rfl
section
variable {prog : Program} {w : World} {A : Around} {E : Value → Shared → Prop} {s : Shared} {h₀ : Heap} {L : Addr} {m : Str → Option Value} {news : List (Addr × Obj)}
/-- iter(f, '') -/
theorem iter_two {bm : Addr} {f self : Value} {t : Tok} {Q : Value → Shared → Prop} (F : Fr h₀ L s.heap m) (N : News h₀ L s.heap news) (hm : (bm, methodObj f self) ∈ news)
    (h : ∀ I h', Fr h₀ L h' m → News h₀ L h' ((I, ciObj bm t) :: news) → (∀ p ∈ news, p.1 < I) → Q (.ref I) { s with heap := h' }) :
    wpAny (model prog w) A (call (.builtin "iter") [.ref bm, .str (Str.ofString "") t]) Q E s := by
  have hb := (N _ hm).1
  have hT : s.TypeIs (.ref bm) "method" := ⟨_, hb, rfl⟩
  refine call_function_tree kind_iter2 plain_iter2 entry_iter2 (args_iter2 _ _) ?_
  unfold Builtin.«iter»
  refine wpAny_bind (m := someArgs "iter" 1 2 _) (wpAny_pure ?_)
  refine wpAny_bind (m := specialOf (.ref bm) (Str.ofString "__call__")) (wpAny_specialOf hT meth_call ?_)
  rw [if_neg (by decide)]
  refine wpAny_bind (wpAny_rule ?_)
  refine wpAny_bind (wpAny_newObj_type (wpAny_pure ?_))
  exact h _ _ (F.push _) (N.push F _) fun p hp => Heap.lt_size (N p hp).1
end
end Mine
end

section
set_option maxRecDepth 100000
set_option maxHeartbeats 8000000
namespace Mine
section
variable {w : World} {p : Program} {loose : List Str} {mean : ExcName → Option Value} {mg mb : Str → Option Value} {dp un : Nat} {gd : Option (List Code)} {cn : Str} {cs : Scope} {a : Addr} {ccd : Value} {cl : List (Str × Addr)} {outer : List Env} {A₀ : Around} {base h₀ : Heap} {L : Addr} {m : Str → Option Value} {s : Shared} {Q E : Value → Shared → Prop}

/-- pairs of texts, at the addresses Ts -/
noncomputable def Pairs (h : Heap) (n : Nat) (Ts : Nat → Addr) (fa fb : Nat → List Nat) (ta tb : Nat → Tok) : Prop := ∀ k, k < n → h.IsTuple (Ts k) #[.str (S (fa k)) (ta k), .str (S (fb k)) (tb k)]
theorem Pairs.kp {h h' : Heap} {n : Nat} {Ts : Nat → Addr} {fa fb : Nat → List Nat} {ta tb : Nat → Tok} (P : Pairs h n Ts fa fb ta tb) (k : Kp h h') : Pairs h' n Ts fa fb ta tb := fun i hi => (P i hi).at fun o e => k _ o e
theorem Pairs.ne {h : Heap} {n : Nat} {Ts : Nat → Addr} {fa fb : Nat → List Nat} {ta tb : Nat → Tok} (P : Pairs h n Ts fa fb ta tb) {q : Addr} {o : Obj} (e : h.get? q = some o) (hc : o.cls ≠ .type "tuple") {k : Nat} (hk : k < n) : Ts k ≠ q := fun z => by
  obtain ⟨o', e', hc', _⟩ := P k hk
  rw [z, e] at e'; cases e'; exact hc hc'
theorem Pairs.but {h h' : Heap} {n : Nat} {Ts : Nat → Addr} {fa fb : Nat → List Nat} {ta tb : Nat → Tok} {as : List Addr} (P : Pairs h n Ts fa fb ta tb) (k : KpBut as h h') (hs : ∀ q ∈ as, ∃ o, h.get? q = some o ∧ o.cls ≠ .type "tuple") : Pairs h' n Ts fa fb ta tb := fun i hi => by
  refine (P i hi).at fun o e => k _ o (fun hm => ?_) e
  obtain ⟨o', e', hc⟩ := hs _ hm
  exact P.ne e' hc hi rfl

theorem GenX.toks {prog : Program} {w : World} {A : Around} {z a : Addr} {n : Nat} {F : Nat → Value → Prop} {s : Shared} {tk : Nat} (G : GenX prog w A z a n F s) (h : s.toks ≤ tk) : GenX prog w A z a n F { s with toks := tk } := by
  obtain ⟨fp, wr, g, St, W, hst, hT, ha, hfp, hwr⟩ := G
  exact ⟨fp, wr, g, St, W, W.frame 0 s s.heap tk hst h fun _ _ _ e => e, hT, ha, hfp, hwr⟩
theorem ne_obj {h : Heap} {a b : Addr} {oa ob : Obj} (ea : h.get? a = some oa) (eb : h.get? b = some ob) (hne : oa.cls ≠ ob.cls) : (a : Nat) ≠ b := fun z => by
  have z' : a = b := z
  rw [z', eb] at ea; cases ea; exact hne rfl
theorem kpBut_back {h g h' : Heap} {fp : List (Addr × Obj)} {as : List Addr} (H : Hid (fp.map (·.1)) h g) (k : Kp g h') (hs : Has h fp) (hs' : ∀ p ∈ fp, p.1 ∈ as ∨ h'.get? p.1 = some p.2) : KpBut as h h' := fun b o hb e => by
  by_cases hm : b ∈ fp.map (·.1)
  · obtain ⟨p, hp, rfl⟩ := List.mem_map.mp hm
    have := hs p hp
    rw [this] at e; cases e
    exact (hs' p hp).resolve_left hb
  · exact k b o (H b o hm e)
theorem or3 {P : Addr × Obj → Prop} {a b c : Addr × Obj} (h1 : P a) (h2 : P b) (h3 : P c) : ∀ p ∈ [a, b, c], P p := fun p hp => by
  rcases List.mem_cons.mp hp with rfl | hp
  · exact h1
  · rcases List.mem_cons.mp hp with rfl | hp
    · exact h2
    · rw [List.mem_singleton.mp hp]; exact h3
theorem flat1 {n : Nat} {f : Nat → List Nat} (h : ∀ k, (f k).length ≤ 1) : ((List.range n).map f).flatten.length ≤ n := by
  induction n with
  | zero => simp
  | succ n ih =>
    rw [List.range_succ, List.map_append, List.flatten_append, List.length_append]
    simp only [List.map_cons, List.map_nil, List.flatten_cons, List.flatten_nil, List.append_nil]
    have := h n; omega
theorem str_spec (B : Below A₀ base outer h₀) (F : Fr h₀ L s.heap m) (X : (Mine.hd.heap_39 w.params).In h₀) (T : Top p loose mean mg mb h₀) (hk : cs.kind = .function) (hd : dp + 1 < recursionLimit) (hu : un + 8 < cLine)
    {x dx : Addr} {vs : List Value} {n nd : Nat} {es : List DictEntry} {ps : Array Value} {Ts : Nat → Addr} {fa fb : Nat → List Nat} {ta tb : Nat → Tok} (N : News h₀ L s.heap [(x, accObj dx vs n), (dx, dictOf es nd), (70, tabObj ps)]) (hz : vs.length ≤ 1000)
    (htr : TriplesOk ps.toList) (hB : AllBare s.gens) (hTs : ∀ k, k < vs.length → vs[k]? = some (.ref (Ts k))) (hTu : Pairs s.heap vs.length Ts fa fb ta tb) (hf : ∀ k, (fa k).length + (fb k).length ≤ 1)
    (hret : ∀ s' ps' t, KpBut [70] s.heap s'.heap → s'.heap.get? 70 = some (tabObj ps') → TriplesOk ps'.toList → AllBare s'.gens → s'.os = s.os → Q (.str (S ((List.range vs.length).map fun k => fa k ++ fb k).flatten) t) s') :
    wpAny (model PySem.Challenge.rw_re0059_01.prog w) (ktrTop dp un gd cn cs L a ccd cl outer) (call (.ref 75) [.ref x]) Q E s := by
  k_with_none
  w_top off
  k_with "lt" => (first | (with_reducible assumption) | (apply And.left; (first | (with_reducible assumption) | (apply And.right; (first | (with_reducible assumption) | (apply And.right; (first | (with_reducible assumption) | (apply And.right; (first | (with_reducible assumption) | (apply And.right; (first | (with_reducible assumption) | (apply And.right; (first | (with_reducible assumption) | (apply And.right; (first | (with_reducible assumption) | (apply And.right; (first | (with_reducible assumption) | (apply And.right; (first | (with_reducible assumption) | (apply And.right; (first | (with_reducible assumption) | (apply And.right; (first | (with_reducible assumption) | (apply And.right; (first | (with_reducible assumption) | (apply And.right; (first | (with_reducible assumption) | (apply And.right; (first | (with_reducible assumption) | (apply And.right; (first | (with_reducible assumption) | (apply And.right; (first | (with_reducible assumption) | (apply And.right; (first | (with_reducible assumption) | (apply And.right; (first | (with_reducible assumption) | (apply And.right; (first | (with_reducible assumption) | (apply And.right; (first | (with_reducible assumption) | (apply And.right; (first | (with_reducible assumption) | (apply And.right; (first | (with_reducible assumption) | (apply And.right; (first | (with_reducible assumption) | (apply And.right; (first | (with_reducible assumption) | (apply And.right; (first | (with_reducible assumption) | (apply And.right; (with_reducible assumption)))))))))))))))))))))))))))))))))))))))))))))))))))) | (apply And.right; (first | (with_reducible assumption) | (apply And.right; (first | (with_reducible assumption) | (apply And.right; (first | (with_reducible assumption) | (apply And.right; (first | (with_reducible assumption) | (apply And.right; (first | (with_reducible assumption) | (apply And.right; (first | (with_reducible assumption) | (apply And.right; (first | (with_reducible assumption) | (apply And.right; (first | (with_reducible assumption) | (apply And.right; (first | (with_reducible assumption) | (apply And.right; (first | (with_reducible assumption) | (apply And.right; (first | (with_reducible assumption) | (apply And.right; (first | (with_reducible assumption) | (apply And.right; (first | (with_reducible assumption) | (apply And.right; (first | (with_reducible assumption) | (apply And.right; (first | (with_reducible assumption) | (apply And.right; (first | (with_reducible assumption) | (apply And.right; (first | (with_reducible assumption) | (apply And.right; (first | (with_reducible assumption) | (apply And.right; (first | (with_reducible assumption) | (apply And.right; (first | (with_reducible assumption) | (apply And.right; (first | (with_reducible assumption) | (apply And.right; (first | (with_reducible assumption) | (apply And.right; (first | (with_reducible assumption) | (apply And.right; (first | (with_reducible assumption) | (apply And.right; (first | (with_reducible assumption) | (apply And.right; (with_reducible assumption)))))))))))))))))))))))))))))))))))))))))))))))))))))
  k_with "k_ne" => (refine neN ?_; (try dsimp only); first | k_extra "lt" | (refine Ne.symm ?_; k_extra "lt") | (refine Nat.ne_of_lt ?_; k_extra "lt") | (refine Nat.ne_of_gt ?_; k_extra "lt") | (refine Nat.ne_of_lt (Nat.lt_add_right _ ?_); k_extra "lt") | (refine Nat.ne_of_gt (Nat.lt_add_right _ ?_); k_extra "lt") | (refine Nat.ne_of_lt (Nat.lt_add_right _ (Nat.lt_add_right _ ?_)); k_extra "lt") | (refine Nat.ne_of_gt (Nat.lt_add_right _ (Nat.lt_add_right _ ?_)); k_extra "lt") | (refine cell_ne2 ?_; decide) | (refine cell_ne ?_; k_extra "lt") | (refine Ne.symm (cell_ne ?_); k_extra "lt"))
  k_with "cell_enter" => ((refine' enterQ ?k1 ?k2 ?k3 ?k4 ?k5 ?kA ?kF ?kK ?k6 ?k7 ?k8 ?k9 ?kB ?_ ?c2 ?c3 ?c4 ?c5; (case kA => exact rfl); (case kF => exact rfl); (case kK => assumption); (case k1 => k_asm); (case k2 => k_asm); (case k3 => k_asm); (case k4 => k_asm); (case k5 => k_asm); (case k6 => k_is); (case k7 => k_is); (case k8 => ktr_room); (case k9 => first | exact BindsTo.of_eq rfl | exact binds_K (by k_in) rfl (by k_is) rfl rfl rfl); (case c5 => decide); (case kB => exact locs rfl); (case c2 => exact rfl); (case c3 => exact rfl); (case c4 => exact rfl); k_whole; intro P9 hP9 g' L' h' H' F' N' B' X' T' l'; (try dsimp only); (try k_lt l'); (try k_fold)); (try (revert P9 hP9 g' L' h' H' F' N' B' X' T' l'; set_option tactic.hygienic true in intros)))
  k_with "LeaveQ" => ((k_dflt (refine' leaveQ ?kP ?k1 ?k2 ?_; (case kP => assumption); (case k1 => k_asm); (case k2 => k_asm); k_whole); intro kK kH; (try dsimp only)); (try (revert kK kH; set_option tactic.hygienic true in intros)))
  k_with "k_inst" => ((refine' instAt_acc ?N ?h1 ?h2; (case N => k_asm); (case h1 => k_mem); (case h2 => k_mem)))
  revert X; k_fill; intro X
  refine wpAny_call ?_
  k_dflt cell_enter
  rename Hid _ _ _ => H
  rename_i g1 L1 h1 F1 N1 B1 X1 T1 l1
  have hC := codeHd_of_K (c := 74) (P := 70) X1 (by kernel_rfl)
  have hTg : Pairs g1 vs.length Ts fa fb ta tb := hTu.but H (by
    intro q hq
    simp only [List.map_cons, List.map_nil, List.mem_cons, List.not_mem_nil, or_false] at hq
    rcases hq with rfl | rfl | rfl
    · exact ⟨_, (N (_, _) (.head _)).1, nofun⟩
    · exact ⟨_, (N (_, _) (.tail _ (.head _))).1, fun z => absurd (Value.type.inj z) (by decide)⟩
    · exact ⟨_, (N (_, _) (.tail _ (.tail _ (.head _)))).1, nofun⟩)
  have hx7 := ne_obj (N (_, _) (.head _)).1 (N (_, _) (.tail _ (.tail _ (.head _)))).1 nofun
  have hd7 := ne_obj (N (_, _) (.tail _ (.head _))).1 (N (_, _) (.tail _ (.tail _ (.head _)))).1 nofun
  have hTh := hTg.kp F1.keep
  w_strict (k_steps)
  refine genexp_acc (Ts := Ts) (va := fun k => .str (S (fa k)) (ta k)) (vb := fun k => .str (S (fb k)) (tb k)) (fun k y => ∃ t, y = .str (S (fa k ++ fb k)) t) F1 X1 N1 T1 rfl rfl rfl rfl rfl (by k_mem) (by k_updF) hC htr rfl (by k_is) (by k_is) hTs hTh rfl rfl rfl (by decide) rfl rfl rfl (by decide) rfl (by ktr_room) ?elt ?h
  case elt =>
    intro c' C A' E' i t m₂ hA hD hU hi F2 ha hb
    exact elt_str X1 T1 F2 rfl (by k_is) rfl rfl rfl rfl ha hb rfl (by have := hf i; omega)
  intro a2 s2 ps2 F2 N2 htr2 hb2 ho2 G2 S2
  w_strict (k_steps)
  refine join_genX (hb2 hB) G2 S2 hz (Nat.le_trans (flat1 fun k => by rw [List.length_append]; exact hf k) (by omega)) fun s3 t3 F3 N3 b3 o3 => ?_
  clear G2 S2
  w_strict (k_steps)
  rename Has _ _ => kH
  exact hret _ _ _ (kpBut_back H (by assumption) (News.has N) (or3 (.inr (kH.get (by k_mem))) (.inr (kH.get (by k_mem))) (.inl (.head _)))) (kH.get (by k_mem)) htr2 b3 (o3.trans ho2)
theorem len_spec (B : Below A₀ base outer h₀) (F : Fr h₀ L s.heap m) (X : (Mine.hd.heap_39 w.params).In h₀) (T : Top p loose mean mg mb h₀) (hk : cs.kind = .function) (hd : dp + 1 < recursionLimit) (hu : un + 8 < cLine)
    {x dx : Addr} {vs : List Value} {n : Nat} {hh : Int} {kt it : Tok} {ps : Array Value} {Ts : Nat → Addr} {fa fb : Nat → List Nat} {ta tb : Nat → Tok} (N : News h₀ L s.heap [(x, accObj dx vs n), (dx, dictOf [⟨hh, .str (Str.ofString "_initial_size") kt, .int 0 it⟩] 1), (63, tabObj ps)]) (hz : vs.length ≤ 1000)
    (htr : TriplesOk ps.toList) (hB : AllBare s.gens) (hTs : ∀ k, k < vs.length → vs[k]? = some (.ref (Ts k))) (hTu : Pairs s.heap vs.length Ts fa fb ta tb) (hf : ∀ k, (fa k).length + (fb k).length ≤ 1)
    (hret : ∀ s' ps' t, KpBut [63] s.heap s'.heap → s'.heap.get? 63 = some (tabObj ps') → TriplesOk ps'.toList → AllBare s'.gens → s'.os = s.os → Q (.int (preSum (fun k => (((fa k).length + (fb k).length : Nat) : Int)) vs.length) t) s') :
    wpAny (model PySem.Challenge.rw_re0059_01.prog w) (ktrTop dp un gd cn cs L a ccd cl outer) (call (.ref 68) [.ref x]) Q E s := by
  k_with_none
  w_top off
  k_with "lt" => (first | (with_reducible assumption) | (apply And.left; (first | (with_reducible assumption) | (apply And.right; (first | (with_reducible assumption) | (apply And.right; (first | (with_reducible assumption) | (apply And.right; (first | (with_reducible assumption) | (apply And.right; (first | (with_reducible assumption) | (apply And.right; (first | (with_reducible assumption) | (apply And.right; (first | (with_reducible assumption) | (apply And.right; (first | (with_reducible assumption) | (apply And.right; (first | (with_reducible assumption) | (apply And.right; (first | (with_reducible assumption) | (apply And.right; (first | (with_reducible assumption) | (apply And.right; (first | (with_reducible assumption) | (apply And.right; (first | (with_reducible assumption) | (apply And.right; (first | (with_reducible assumption) | (apply And.right; (first | (with_reducible assumption) | (apply And.right; (first | (with_reducible assumption) | (apply And.right; (first | (with_reducible assumption) | (apply And.right; (first | (with_reducible assumption) | (apply And.right; (first | (with_reducible assumption) | (apply And.right; (first | (with_reducible assumption) | (apply And.right; (first | (with_reducible assumption) | (apply And.right; (first | (with_reducible assumption) | (apply And.right; (first | (with_reducible assumption) | (apply And.right; (first | (with_reducible assumption) | (apply And.right; (first | (with_reducible assumption) | (apply And.right; (with_reducible assumption)))))))))))))))))))))))))))))))))))))))))))))))))))) | (apply And.right; (first | (with_reducible assumption) | (apply And.right; (first | (with_reducible assumption) | (apply And.right; (first | (with_reducible assumption) | (apply And.right; (first | (with_reducible assumption) | (apply And.right; (first | (with_reducible assumption) | (apply And.right; (first | (with_reducible assumption) | (apply And.right; (first | (with_reducible assumption) | (apply And.right; (first | (with_reducible assumption) | (apply And.right; (first | (with_reducible assumption) | (apply And.right; (first | (with_reducible assumption) | (apply And.right; (first | (with_reducible assumption) | (apply And.right; (first | (with_reducible assumption) | (apply And.right; (first | (with_reducible assumption) | (apply And.right; (first | (with_reducible assumption) | (apply And.right; (first | (with_reducible assumption) | (apply And.right; (first | (with_reducible assumption) | (apply And.right; (first | (with_reducible assumption) | (apply And.right; (first | (with_reducible assumption) | (apply And.right; (first | (with_reducible assumption) | (apply And.right; (first | (with_reducible assumption) | (apply And.right; (first | (with_reducible assumption) | (apply And.right; (first | (with_reducible assumption) | (apply And.right; (first | (with_reducible assumption) | (apply And.right; (first | (with_reducible assumption) | (apply And.right; (first | (with_reducible assumption) | (apply And.right; (with_reducible assumption)))))))))))))))))))))))))))))))))))))))))))))))))))))
  k_with "k_ne" => (refine neN ?_; (try dsimp only); first | k_extra "lt" | (refine Ne.symm ?_; k_extra "lt") | (refine Nat.ne_of_lt ?_; k_extra "lt") | (refine Nat.ne_of_gt ?_; k_extra "lt") | (refine Nat.ne_of_lt (Nat.lt_add_right _ ?_); k_extra "lt") | (refine Nat.ne_of_gt (Nat.lt_add_right _ ?_); k_extra "lt") | (refine Nat.ne_of_lt (Nat.lt_add_right _ (Nat.lt_add_right _ ?_)); k_extra "lt") | (refine Nat.ne_of_gt (Nat.lt_add_right _ (Nat.lt_add_right _ ?_)); k_extra "lt") | (refine cell_ne2 ?_; decide) | (refine cell_ne ?_; k_extra "lt") | (refine Ne.symm (cell_ne ?_); k_extra "lt"))
  k_with "cell_enter" => ((refine' enterQ ?k1 ?k2 ?k3 ?k4 ?k5 ?kA ?kF ?kK ?k6 ?k7 ?k8 ?k9 ?kB ?_ ?c2 ?c3 ?c4 ?c5; (case kA => exact rfl); (case kF => exact rfl); (case kK => assumption); (case k1 => k_asm); (case k2 => k_asm); (case k3 => k_asm); (case k4 => k_asm); (case k5 => k_asm); (case k6 => k_is); (case k7 => k_is); (case k8 => ktr_room); (case k9 => first | exact BindsTo.of_eq rfl | exact binds_K (by k_in) rfl (by k_is) rfl rfl rfl); (case c5 => decide); (case kB => exact locs rfl); (case c2 => exact rfl); (case c3 => exact rfl); (case c4 => exact rfl); k_whole; intro P9 hP9 g' L' h' H' F' N' B' X' T' l'; (try dsimp only); (try k_lt l'); (try k_fold)); (try (revert P9 hP9 g' L' h' H' F' N' B' X' T' l'; set_option tactic.hygienic true in intros)))
  k_with "LeaveQ" => ((k_dflt (refine' leaveQ ?kP ?k1 ?k2 ?_; (case kP => assumption); (case k1 => k_asm); (case k2 => k_asm); k_whole); intro kK kH; (try dsimp only)); (try (revert kK kH; set_option tactic.hygienic true in intros)))
  k_with "k_inst" => ((refine' instAt_acc ?N ?h1 ?h2; (case N => k_asm); (case h1 => k_mem); (case h2 => k_mem)))
  revert X; k_fill; intro X
  refine wpAny_call ?_
  k_dflt cell_enter
  rename Hid _ _ _ => H
  rename_i g1 L1 h1 F1 N1 B1 X1 T1 l1
  have hC := codeHd_of_K (c := 67) (P := 63) X1 (by kernel_rfl)
  have hTg : Pairs g1 vs.length Ts fa fb ta tb := hTu.but H (by
    intro q hq
    simp only [List.map_cons, List.map_nil, List.mem_cons, List.not_mem_nil, or_false] at hq
    rcases hq with rfl | rfl | rfl
    · exact ⟨_, (N (_, _) (.head _)).1, nofun⟩
    · exact ⟨_, (N (_, _) (.tail _ (.head _))).1, fun z => absurd (Value.type.inj z) (by decide)⟩
    · exact ⟨_, (N (_, _) (.tail _ (.tail _ (.head _)))).1, nofun⟩)
  have hx7 := ne_obj (N (_, _) (.head _)).1 (N (_, _) (.tail _ (.tail _ (.head _)))).1 nofun
  have hd7 := ne_obj (N (_, _) (.tail _ (.head _))).1 (N (_, _) (.tail _ (.tail _ (.head _)))).1 nofun
  have hTh := hTg.kp F1.keep
  w_strict (k_steps)
  refine genexp_acc (Ts := Ts) (va := fun k => .str (S (fa k)) (ta k)) (vb := fun k => .str (S (fb k)) (tb k)) (fun k y => ∃ t, y = .int (((fa k).length + (fb k).length : Nat) : Int) t) F1 X1 N1 T1 rfl rfl rfl rfl rfl (by k_mem) (by k_updF) hC htr rfl (by k_is) (by k_is) hTs hTh rfl rfl rfl (by decide) rfl rfl rfl (by decide) rfl (by ktr_room) ?elt ?h
  case elt =>
    intro c' C A' E' i t m₂ hA hD hU hi F2 ha hb
    exact elt_len X1 T1 F2 rfl (by k_is) rfl rfl rfl rfl ha hb (by have := hf i; omega)
  intro a2 s2 ps2 F2 N2 htr2 hb2 ho2 G2 S2
  w_strict (k_steps)
  refine' get_ownL F2 X1 (instAt_acc N2 (by k_mem) (by k_mem)) ?e1 ?eb ?es ?e2 ?e3 ?e4 ?e5 ?e6 ?e7
  case e1 => k_is
  case eb => k_is
  case es => k_is
  case e2 => k_is
  case e3 => k_is
  case e4 => k_is
  case e5 => k_get
  case e6 => k_handed
  w_strict (k_steps)
  refine sum_genX (f := fun k => (((fa k).length + (fb k).length : Nat) : Int)) (hb2 hB) (G2.toks (Nat.le_succ _)) S2 fun s3 t3 F3 N3 b3 o3 => ?_
  clear G2 S2
  w_strict (k_steps)
  rename Has _ _ => kH
  exact hret _ _ _ (kpBut_back H (by assumption) (News.has N) (or3 (.inr (kH.get (by k_mem))) (.inr (kH.get (by k_mem))) (.inl (.head _)))) (kH.get (by k_mem)) htr2 b3 (o3.trans ho2)
end
end Mine
end

section
set_option maxRecDepth 100000
set_option maxHeartbeats 4000000
namespace Mine
set_option genInjectivity false in
set_option genSizeOf false in
/-- the lexer's objects: what does not change -/
structure Lx where
  (M dM pb dS fS fR cR atl cA cT : Addr)
  (fdS fdR : FuncData)
  (ocR oA oT : Obj)
  (h1 h2 h3 h4 h5 : Int)
  (k1 k2 k3 k4 k5 kw : Tok)
  (t : List Nat)
noncomputable abbrev Lx.led (x : Lx) (i : Int) (it : Tok) (q : List Value) (nq : Nat) (k : Nat) (kt : Tok) (na : Nat) : List (Addr × Obj) :=
  [(x.pb, W.listOf q.toArray nq), (x.M, instObj 150 x.dM),
   (x.dM, dictOf [⟨x.h1, .str (Str.ofString "lineno") x.k1, .int i it⟩, ⟨x.h2, .str (Str.ofString "instream") x.k2, .ref x.fS⟩, ⟨x.h3, .str (Str.ofString "whitespace") x.k3, .str (Str.ofString "\n\t\r ") x.kw⟩, ⟨x.h4, .str (Str.ofString "pushback") x.k4, .ref x.pb⟩] 4),
   (x.dS, dictOf [⟨x.h5, .str (Str.ofString "read") x.k5, .ref x.fR⟩] 1), (x.fS, fnObj (some x.dS) x.fdS #[]), (x.fR, fnObj none x.fdR #[]), (x.cR, x.ocR), (x.atl, W.listOf #[.int (k : Int) kt] na), (x.cA, x.oA), (x.cT, x.oT)]
noncomputable def Lx.Ord (x : Lx) : Prop := (@LT.lt Nat _ x.cT x.cA) ∧ (@LT.lt Nat _ x.cA x.atl) ∧ (@LT.lt Nat _ x.atl x.cR) ∧ (@LT.lt Nat _ x.cR x.fR) ∧ (@LT.lt Nat _ x.fR x.fS) ∧ (@LT.lt Nat _ x.fS x.dS) ∧ (@LT.lt Nat _ x.dS x.dM) ∧ (@LT.lt Nat _ x.dM x.M) ∧ (@LT.lt Nat _ x.M x.pb)
/-- what stream.read(1) does -/
noncomputable def ReadSpec (w : World) (fR cR atl cA cT : Addr) (fdR : FuncData) (ocR oA oT : Obj) (t : List Nat) : Prop :=
  ∀ {p : Program} {loose : List Str} {mean : ExcName → Option Value} {mg mb : Str → Option Value} {dp un : Nat} {gd : Option (List Code)} {cn : Str} {cs : Scope} {a : Addr} {ccd : Value} {cl : List (Str × Addr)} {outer : List Env} {A₀ : Around} {base h₀ : Heap} {L : Addr} {m : Str → Option Value} {s : Shared} {Q E : Value → Shared → Prop} {k : Nat} {kt ot : Tok} {na : Nat},
    Below A₀ base outer h₀ → Fr h₀ L s.heap m → (Mine.hd.heap_39 w.params).In h₀ → Top p loose mean mg mb h₀ → cs.kind = .function → dp + 1 < recursionLimit → un + 16 < cLine →
    News h₀ L s.heap [(fR, fnObj none fdR #[]), (cR, ocR), (atl, W.listOf #[.int (k : Int) kt] na), (cA, oA), (cT, oT)] → k ≤ t.length →
    (∀ h' tk' kt' na' t', KpBut [atl] s.heap h' → h'.get? atl = some (W.listOf #[.int ((k + ((t.drop k).take 1).length : Nat) : Int) kt'] na') → Q (.str (S ((t.drop k).take 1)) t') { s with heap := h', toks := tk' }) →
    wpAny (model PySem.Challenge.rw_re0059_01.prog w) (ktrTop dp un gd cn cs L a ccd cl outer) (call (.ref fR) [.int 1 ot]) Q E s
structure Lx.Ok (w : World) (x : Lx) : Prop where
  ord : x.Ord
  read : ReadSpec w x.fR x.cR x.atl x.cA x.cT x.fdR x.ocR x.oA x.oT x.t
  len : x.t.length ≤ 100
end Mine
end

section
set_option maxRecDepth 100000
set_option maxHeartbeats 8000000
namespace Mine

section
variable {w : World} {p : Program} {loose : List Str} {mean : ExcName → Option Value} {mg mb : Str → Option Value} {dp un : Nat} {gd : Option (List Code)} {cn : Str} {cs : Scope} {a : Addr} {ccd : Value} {cl : List (Str × Addr)} {outer : List Env} {A₀ : Around} {base h₀ : Heap} {L : Addr} {m : Str → Option Value} {s : Shared} {Q E : Value → Shared → Prop}
theorem reset_spec (B : Below A₀ base outer h₀) (F : Fr h₀ L s.heap m) (X : (Mine.hd.heap_39 w.params).In h₀) (T : Top p loose mean mg mb h₀) (hk : cs.kind = .function) (hd : dp + 1 < recursionLimit) (hu : un + 8 < cLine)
    {x dx l : Addr} {vs vs' : List Value} {n : Nat} {hh : Int} {kt it : Tok} {i : Int} (N : News h₀ L s.heap [(x, accObj dx vs n), (dx, dictOf [⟨hh, .str (Str.ofString "_initial_size") kt, .int i it⟩] 1)])
    (hl : s.heap.IsList l vs'.toArray) (hne : x ≠ dx) (hz : vs.length ≤ 1000) (hz' : vs'.length ≤ 1000)
    (hret : ∀ h' tk' n' it', KpBut [x, dx] s.heap h' → Has h' [(x, accObj dx vs' n'), (dx, dictOf [⟨hh, .str (Str.ofString "_initial_size") kt, .int 0 it'⟩] 1)] → Q .none { s with heap := h', toks := tk' }) :
    wpAny (model PySem.Challenge.rw_re0059_01.prog w) (ktrTop dp un gd cn cs L a ccd cl outer) (call (.ref 83) [.ref x, .ref l]) Q E s := by
  k_with_none
  w_top off
  k_with "lt" => (first | (with_reducible assumption) | (apply And.left; (first | (with_reducible assumption) | (apply And.right; (first | (with_reducible assumption) | (apply And.right; (first | (with_reducible assumption) | (apply And.right; (first | (with_reducible assumption) | (apply And.right; (first | (with_reducible assumption) | (apply And.right; (first | (with_reducible assumption) | (apply And.right; (first | (with_reducible assumption) | (apply And.right; (first | (with_reducible assumption) | (apply And.right; (first | (with_reducible assumption) | (apply And.right; (first | (with_reducible assumption) | (apply And.right; (first | (with_reducible assumption) | (apply And.right; (first | (with_reducible assumption) | (apply And.right; (first | (with_reducible assumption) | (apply And.right; (first | (with_reducible assumption) | (apply And.right; (first | (with_reducible assumption) | (apply And.right; (first | (with_reducible assumption) | (apply And.right; (first | (with_reducible assumption) | (apply And.right; (first | (with_reducible assumption) | (apply And.right; (first | (with_reducible assumption) | (apply And.right; (first | (with_reducible assumption) | (apply And.right; (first | (with_reducible assumption) | (apply And.right; (first | (with_reducible assumption) | (apply And.right; (first | (with_reducible assumption) | (apply And.right; (first | (with_reducible assumption) | (apply And.right; (first | (with_reducible assumption) | (apply And.right; (with_reducible assumption)))))))))))))))))))))))))))))))))))))))))))))))))))) | (apply And.right; (first | (with_reducible assumption) | (apply And.right; (first | (with_reducible assumption) | (apply And.right; (first | (with_reducible assumption) | (apply And.right; (first | (with_reducible assumption) | (apply And.right; (first | (with_reducible assumption) | (apply And.right; (first | (with_reducible assumption) | (apply And.right; (first | (with_reducible assumption) | (apply And.right; (first | (with_reducible assumption) | (apply And.right; (first | (with_reducible assumption) | (apply And.right; (first | (with_reducible assumption) | (apply And.right; (first | (with_reducible assumption) | (apply And.right; (first | (with_reducible assumption) | (apply And.right; (first | (with_reducible assumption) | (apply And.right; (first | (with_reducible assumption) | (apply And.right; (first | (with_reducible assumption) | (apply And.right; (first | (with_reducible assumption) | (apply And.right; (first | (with_reducible assumption) | (apply And.right; (first | (with_reducible assumption) | (apply And.right; (first | (with_reducible assumption) | (apply And.right; (first | (with_reducible assumption) | (apply And.right; (first | (with_reducible assumption) | (apply And.right; (first | (with_reducible assumption) | (apply And.right; (first | (with_reducible assumption) | (apply And.right; (first | (with_reducible assumption) | (apply And.right; (first | (with_reducible assumption) | (apply And.right; (with_reducible assumption)))))))))))))))))))))))))))))))))))))))))))))))))))))
  k_with "k_ne" => (refine neN ?_; (try dsimp only); first | k_extra "lt" | (refine Ne.symm ?_; k_extra "lt") | (refine Nat.ne_of_lt ?_; k_extra "lt") | (refine Nat.ne_of_gt ?_; k_extra "lt") | (refine Nat.ne_of_lt (Nat.lt_add_right _ ?_); k_extra "lt") | (refine Nat.ne_of_gt (Nat.lt_add_right _ ?_); k_extra "lt") | (refine Nat.ne_of_lt (Nat.lt_add_right _ (Nat.lt_add_right _ ?_)); k_extra "lt") | (refine Nat.ne_of_gt (Nat.lt_add_right _ (Nat.lt_add_right _ ?_)); k_extra "lt") | (refine cell_ne2 ?_; decide) | (refine cell_ne ?_; k_extra "lt") | (refine Ne.symm (cell_ne ?_); k_extra "lt"))
  k_with "cell_enter" => ((refine' enterQ ?k1 ?k2 ?k3 ?k4 ?k5 ?kA ?kF ?kK ?k6 ?k7 ?k8 ?k9 ?kB ?_ ?c2 ?c3 ?c4 ?c5; (case kA => exact rfl); (case kF => exact rfl); (case kK => assumption); (case k1 => k_asm); (case k2 => k_asm); (case k3 => k_asm); (case k4 => k_asm); (case k5 => k_asm); (case k6 => k_is); (case k7 => k_is); (case k8 => ktr_room); (case k9 => first | exact BindsTo.of_eq rfl | exact binds_K (by k_in) rfl (by k_is) rfl rfl rfl); (case c5 => decide); (case kB => exact locs rfl); (case c2 => exact rfl); (case c3 => exact rfl); (case c4 => exact rfl); k_whole; intro P9 hP9 g' L' h' H' F' N' B' X' T' l'; (try dsimp only); (try k_lt l'); (try k_fold)); (try (revert P9 hP9 g' L' h' H' F' N' B' X' T' l'; set_option tactic.hygienic true in intros)))
  k_with "LeaveQ" => ((k_dflt (refine' leaveQ ?kP ?k1 ?k2 ?_; (case kP => assumption); (case k1 => k_asm); (case k2 => k_asm); k_whole); intro kK kH; (try dsimp only)); (try (revert kK kH; set_option tactic.hygienic true in intros)))
  k_with "k_inst" => ((refine' instAt_acc ?N ?h1 ?h2; (case N => k_asm); (case h1 => k_mem); (case h2 => k_mem)))
  k_with "setItem ref ref ref" => ((k_here; k_dflt (refine' setSlice_acc ?q9F ?q9X ?q9N ?q9hi ?q9hq ?q9hs ?q9U ?q9l ?q9p ?q9lo ?q9z ?q9zz ?_; (case q9F => k_asm); (case q9X => k_asm); (case q9N => k_asm); (case q9hi => k_is); (case q9hq => k_is); (case q9hs => k_is); (case q9U => k_updF); (case q9l => first | assumption | exact stays_list (Fr.keep (by k_asm)) (by assumption) | exact News.isList (by k_asm) (by k_mem)); (case q9p => first | exact IsPart.none | exact IsPart.int _ _); (case q9lo => (intro i hi; cases hi <;> constructor <;> omega)); (case q9z => first | assumption | omega | decide); (case q9zz => first | assumption | omega | decide); k_whole); intro h' n' F' N'; (try dsimp only [loNat, List.take_zero, List.nil_append, List.append_nil] at N'); (try k_sweep)); (try (revert i hi h' n' F' N'; set_option tactic.hygienic true in intros)))
  k_with "setAttr ref" => ((k_here; k_dflt (refine' set_acc ?q9F ?q9X ?q9N ?q9hx ?q9U ?q9hs ?q9hc ?q9hm ?q9hh ?q9ht ?q9hl ?q9e ?q9z ?_; (case q9F => k_asm); (case q9X => k_asm); (case q9N => k_asm); (case q9hx => k_mem); (case q9U => k_updF); (case q9hs => k_is); (case q9hc => k_is); (case q9hm => rfl); (case q9hh => rfl); (case q9ht => k_is); (case q9hl => k_get); (case q9e => k_put); (case q9z => exact Nat.le_of_ble_eq_true rfl); k_whole); intro h' F' N'; (try dsimp only at N'); (try k_sweep)); (try (revert h' F' N'; set_option tactic.hygienic true in intros)))
  revert X; k_fill; intro X
  replace hne := neN hne
  have hnx : l ≠ x ∧ l ≠ dx := by
    obtain ⟨o, ho, hc, nn, hdd⟩ := id hl
    have e1 := (N (x, _) (.head _)).1
    have e2 := (N (dx, _) (.tail _ (.head _))).1
    constructor
    · rintro rfl; rw [ho] at e1; cases e1; cases hc
    · rintro rfl; rw [ho] at e2; cases e2; exact absurd (Value.type.inj hc) (by decide)
  refine wpAny_call ?_
  k_dflt cell_enter
  rename Hid _ _ _ => H
  have hlg := hl.at (h' := _) (fun o e => H l o (by simp [hnx.1, hnx.2]) e)
  w_strict (k_steps)
  exact hret _ _ _ _ (kpBut_of H (by assumption)) (by assumption)

theorem pop_from_spec (B : Below A₀ base outer h₀) (F : Fr h₀ L s.heap m) (X : (Mine.hd.heap_39 w.params).In h₀) (T : Top p loose mean mg mb h₀) (hk : cs.kind = .function) (hd : dp + 1 < recursionLimit) (hu : un + 8 < cLine)
    {x dx : Addr} {vs : List Value} {n : Nat} {od : Obj} {r : Int} {t : Tok} (N : News h₀ L s.heap [(x, accObj dx vs n), (dx, od)])
    (hne : x ≠ dx) (hz : vs.length ≤ 1000) (hr0 : 0 ≤ r) (hr1 : r ≤ vs.length)
    (hret : ∀ q h' tk', KpBut [x, dx] s.heap h' → (∃ n', Has h' [(x, accObj dx (vs.take r.toNat) n'), (dx, od), (q, listOf (vs.drop r.toNat).toArray 0)]) → s.heap.get? q = none → Q (.ref q) { s with heap := h', toks := tk' }) :
    wpAny (model PySem.Challenge.rw_re0059_01.prog w) (ktrTop dp un gd cn cs L a ccd cl outer) (call (.ref 53) [.ref x, .int r t]) Q E s := by
  k_with_none
  w_top off
  k_with "lt" => (first | (with_reducible assumption) | (apply And.left; (first | (with_reducible assumption) | (apply And.right; (first | (with_reducible assumption) | (apply And.right; (first | (with_reducible assumption) | (apply And.right; (first | (with_reducible assumption) | (apply And.right; (first | (with_reducible assumption) | (apply And.right; (first | (with_reducible assumption) | (apply And.right; (first | (with_reducible assumption) | (apply And.right; (first | (with_reducible assumption) | (apply And.right; (first | (with_reducible assumption) | (apply And.right; (first | (with_reducible assumption) | (apply And.right; (first | (with_reducible assumption) | (apply And.right; (first | (with_reducible assumption) | (apply And.right; (first | (with_reducible assumption) | (apply And.right; (first | (with_reducible assumption) | (apply And.right; (first | (with_reducible assumption) | (apply And.right; (first | (with_reducible assumption) | (apply And.right; (first | (with_reducible assumption) | (apply And.right; (first | (with_reducible assumption) | (apply And.right; (first | (with_reducible assumption) | (apply And.right; (first | (with_reducible assumption) | (apply And.right; (first | (with_reducible assumption) | (apply And.right; (first | (with_reducible assumption) | (apply And.right; (first | (with_reducible assumption) | (apply And.right; (first | (with_reducible assumption) | (apply And.right; (first | (with_reducible assumption) | (apply And.right; (with_reducible assumption)))))))))))))))))))))))))))))))))))))))))))))))))))) | (apply And.right; (first | (with_reducible assumption) | (apply And.right; (first | (with_reducible assumption) | (apply And.right; (first | (with_reducible assumption) | (apply And.right; (first | (with_reducible assumption) | (apply And.right; (first | (with_reducible assumption) | (apply And.right; (first | (with_reducible assumption) | (apply And.right; (first | (with_reducible assumption) | (apply And.right; (first | (with_reducible assumption) | (apply And.right; (first | (with_reducible assumption) | (apply And.right; (first | (with_reducible assumption) | (apply And.right; (first | (with_reducible assumption) | (apply And.right; (first | (with_reducible assumption) | (apply And.right; (first | (with_reducible assumption) | (apply And.right; (first | (with_reducible assumption) | (apply And.right; (first | (with_reducible assumption) | (apply And.right; (first | (with_reducible assumption) | (apply And.right; (first | (with_reducible assumption) | (apply And.right; (first | (with_reducible assumption) | (apply And.right; (first | (with_reducible assumption) | (apply And.right; (first | (with_reducible assumption) | (apply And.right; (first | (with_reducible assumption) | (apply And.right; (first | (with_reducible assumption) | (apply And.right; (first | (with_reducible assumption) | (apply And.right; (first | (with_reducible assumption) | (apply And.right; (first | (with_reducible assumption) | (apply And.right; (with_reducible assumption)))))))))))))))))))))))))))))))))))))))))))))))))))))
  k_with "k_ne" => (refine neN ?_; (try dsimp only); first | k_extra "lt" | (refine Ne.symm ?_; k_extra "lt") | (refine Nat.ne_of_lt ?_; k_extra "lt") | (refine Nat.ne_of_gt ?_; k_extra "lt") | (refine Nat.ne_of_lt (Nat.lt_add_right _ ?_); k_extra "lt") | (refine Nat.ne_of_gt (Nat.lt_add_right _ ?_); k_extra "lt") | (refine Nat.ne_of_lt (Nat.lt_add_right _ (Nat.lt_add_right _ ?_)); k_extra "lt") | (refine Nat.ne_of_gt (Nat.lt_add_right _ (Nat.lt_add_right _ ?_)); k_extra "lt") | (refine cell_ne2 ?_; decide) | (refine cell_ne ?_; k_extra "lt") | (refine Ne.symm (cell_ne ?_); k_extra "lt"))
  k_with "cell_enter" => ((refine' enterQ ?k1 ?k2 ?k3 ?k4 ?k5 ?kA ?kF ?kK ?k6 ?k7 ?k8 ?k9 ?kB ?_ ?c2 ?c3 ?c4 ?c5; (case kA => exact rfl); (case kF => exact rfl); (case kK => assumption); (case k1 => k_asm); (case k2 => k_asm); (case k3 => k_asm); (case k4 => k_asm); (case k5 => k_asm); (case k6 => k_is); (case k7 => k_is); (case k8 => ktr_room); (case k9 => first | exact BindsTo.of_eq rfl | exact binds_K (by k_in) rfl (by k_is) rfl rfl rfl); (case c5 => decide); (case kB => exact locs rfl); (case c2 => exact rfl); (case c3 => exact rfl); (case c4 => exact rfl); k_whole; intro P9 hP9 g' L' h' H' F' N' B' X' T' l'; (try dsimp only); (try k_lt l'); (try k_fold)); (try (revert P9 hP9 g' L' h' H' F' N' B' X' T' l'; set_option tactic.hygienic true in intros)))
  k_with "LeaveQ" => ((k_dflt (refine' leaveQ ?kP ?k1 ?k2 ?_; (case kP => assumption); (case k1 => k_asm); (case k2 => k_asm); k_whole); intro kK kH; (try dsimp only)); (try (revert kK kH; set_option tactic.hygienic true in intros)))
  k_with "k_inst" => ((refine' instAt_acc ?N ?h1 ?h2; (case N => k_asm); (case h1 => k_mem); (case h2 => k_mem)))
  k_with "setItem ref ref ref" => ((k_here; k_dflt (refine' setSlice_acc ?q9F ?q9X ?q9N ?q9hi ?q9hq ?q9hs ?q9U ?q9l ?q9p ?q9lo ?q9z ?q9zz ?_; (case q9F => k_asm); (case q9X => k_asm); (case q9N => k_asm); (case q9hi => k_is); (case q9hq => k_is); (case q9hs => k_is); (case q9U => k_updF); (case q9l => first | assumption | exact stays_list (Fr.keep (by k_asm)) (by assumption) | exact News.isList (by k_asm) (by k_mem)); (case q9p => first | exact IsPart.none | exact IsPart.int _ _); (case q9lo => (intro i hi; cases hi <;> constructor <;> omega)); (case q9z => first | assumption | omega | decide); (case q9zz => first | assumption | omega | decide); k_whole); intro h' n' F' N'; (try dsimp only [loNat, List.take_zero, List.nil_append, List.append_nil] at N'); (try k_sweep)); (try (revert i hi h' n' F' N'; set_option tactic.hygienic true in intros)))
  k_with "setAttr ref" => ((k_here; k_dflt (refine' set_acc ?q9F ?q9X ?q9N ?q9hx ?q9U ?q9hs ?q9hc ?q9hm ?q9hh ?q9ht ?q9hl ?q9e ?q9z ?_; (case q9F => k_asm); (case q9X => k_asm); (case q9N => k_asm); (case q9hx => k_mem); (case q9U => k_updF); (case q9hs => k_is); (case q9hc => k_is); (case q9hm => rfl); (case q9hh => rfl); (case q9ht => k_is); (case q9hl => k_get); (case q9e => k_put); (case q9z => exact Nat.le_of_ble_eq_true rfl); k_whole); intro h' F' N'; (try dsimp only at N'); (try k_sweep)); (try (revert h' F' N'; set_option tactic.hygienic true in intros)))
  k_with "subscriptTail Name Slice ref ref" => ((k_here; k_dflt (refine' getSlice_acc ?q9F ?q9X ?q9N ?q9hi ?q9hq ?q9hs ?q9x ?q9p ?q9lo ?q9z ?_; (case q9F => k_asm); (case q9X => k_asm); (case q9N => k_asm); (case q9hi => k_is); (case q9hq => k_is); (case q9hs => k_is); (case q9x => k_mem); (case q9p => first | exact IsPart.none | exact IsPart.int _ _); (case q9lo => (intro i hi; cases hi <;> constructor <;> omega)); (case q9z => first | assumption | omega | decide); k_whole); intro q' h' F' N' l'; (try k_lt l'); (try dsimp only [loNat, List.drop_zero] at N'); (try k_sweep)); (try (revert i hi q' h' F' N' l'; set_option tactic.hygienic true in intros)))
  revert X; k_fill; intro X
  replace hne := neN hne
  refine wpAny_call ?_
  k_dflt cell_enter
  rename Hid _ _ _ => H
  w_strict (k_steps)
  rename Has _ _ => kH
  rename Kp _ _ => kK
  rename News _ _ _ _ => N9
  simp only [List.append_nil] at kH N9
  refine hret _ _ _ (kpBut_of H kK) ⟨_, has3 (kH.get (by k_mem)) (kH.get (by k_mem)) (kH.get (by k_mem))⟩ ?_
  · refine none_of H (N9.fresh (by k_mem)) ?_
    simp only [List.map_cons, List.map_nil, List.mem_cons, List.not_mem_nil, or_false, not_or]
    constructor <;> k_ne
end
end Mine
end

section
set_option maxRecDepth 100000
set_option maxHeartbeats 8000000
namespace Mine
section
variable {w : World} {p : Program} {loose : List Str} {mean : ExcName → Option Value} {mg mb : Str → Option Value} {dp un : Nat} {gd : Option (List Code)} {cn : Str} {cs : Scope} {a : Addr} {ccd : Value} {cl : List (Str × Addr)} {outer : List Env} {A₀ : Around} {base h₀ : Heap} {L : Addr} {m : Str → Option Value} {s : Shared} {Q E : Value → Shared → Prop}
theorem part_count_spec (B : Below A₀ base outer h₀) (F : Fr h₀ L s.heap m) (X : (Mine.hd.heap_39 w.params).In h₀) (T : Top p loose mean mg mb h₀) (hk : cs.kind = .function) (hd : dp + 1 < recursionLimit) (hu : un + 8 < cLine)
    {x dx : Addr} {vs : List Value} {n : Nat} {od : Obj} (N : News h₀ L s.heap [(x, accObj dx vs n), (dx, od)]) (hz : vs.length ≤ 1000)
    (hret : ∀ h' tk' t, Kp s.heap h' → Q (.int vs.length t) { s with heap := h', toks := tk' }) :
    wpAny (model PySem.Challenge.rw_re0059_01.prog w) (ktrTop dp un gd cn cs L a ccd cl outer) (call (.ref 98) [.ref x]) Q E s := by
  k_with_none
  w_top off
  k_with "lt" => (first | (with_reducible assumption) | (apply And.left; (first | (with_reducible assumption) | (apply And.right; (first | (with_reducible assumption) | (apply And.right; (first | (with_reducible assumption) | (apply And.right; (first | (with_reducible assumption) | (apply And.right; (first | (with_reducible assumption) | (apply And.right; (first | (with_reducible assumption) | (apply And.right; (first | (with_reducible assumption) | (apply And.right; (first | (with_reducible assumption) | (apply And.right; (first | (with_reducible assumption) | (apply And.right; (first | (with_reducible assumption) | (apply And.right; (first | (with_reducible assumption) | (apply And.right; (first | (with_reducible assumption) | (apply And.right; (first | (with_reducible assumption) | (apply And.right; (first | (with_reducible assumption) | (apply And.right; (first | (with_reducible assumption) | (apply And.right; (first | (with_reducible assumption) | (apply And.right; (first | (with_reducible assumption) | (apply And.right; (first | (with_reducible assumption) | (apply And.right; (first | (with_reducible assumption) | (apply And.right; (first | (with_reducible assumption) | (apply And.right; (first | (with_reducible assumption) | (apply And.right; (first | (with_reducible assumption) | (apply And.right; (first | (with_reducible assumption) | (apply And.right; (first | (with_reducible assumption) | (apply And.right; (first | (with_reducible assumption) | (apply And.right; (with_reducible assumption)))))))))))))))))))))))))))))))))))))))))))))))))))) | (apply And.right; (first | (with_reducible assumption) | (apply And.right; (first | (with_reducible assumption) | (apply And.right; (first | (with_reducible assumption) | (apply And.right; (first | (with_reducible assumption) | (apply And.right; (first | (with_reducible assumption) | (apply And.right; (first | (with_reducible assumption) | (apply And.right; (first | (with_reducible assumption) | (apply And.right; (first | (with_reducible assumption) | (apply And.right; (first | (with_reducible assumption) | (apply And.right; (first | (with_reducible assumption) | (apply And.right; (first | (with_reducible assumption) | (apply And.right; (first | (with_reducible assumption) | (apply And.right; (first | (with_reducible assumption) | (apply And.right; (first | (with_reducible assumption) | (apply And.right; (first | (with_reducible assumption) | (apply And.right; (first | (with_reducible assumption) | (apply And.right; (first | (with_reducible assumption) | (apply And.right; (first | (with_reducible assumption) | (apply And.right; (first | (with_reducible assumption) | (apply And.right; (first | (with_reducible assumption) | (apply And.right; (first | (with_reducible assumption) | (apply And.right; (first | (with_reducible assumption) | (apply And.right; (first | (with_reducible assumption) | (apply And.right; (first | (with_reducible assumption) | (apply And.right; (first | (with_reducible assumption) | (apply And.right; (with_reducible assumption)))))))))))))))))))))))))))))))))))))))))))))))))))))
  k_with "k_ne" => (refine neN ?_; (try dsimp only); first | k_extra "lt" | (refine Ne.symm ?_; k_extra "lt") | (refine Nat.ne_of_lt ?_; k_extra "lt") | (refine Nat.ne_of_gt ?_; k_extra "lt") | (refine Nat.ne_of_lt (Nat.lt_add_right _ ?_); k_extra "lt") | (refine Nat.ne_of_gt (Nat.lt_add_right _ ?_); k_extra "lt") | (refine Nat.ne_of_lt (Nat.lt_add_right _ (Nat.lt_add_right _ ?_)); k_extra "lt") | (refine Nat.ne_of_gt (Nat.lt_add_right _ (Nat.lt_add_right _ ?_)); k_extra "lt") | (refine cell_ne2 ?_; decide) | (refine cell_ne ?_; k_extra "lt") | (refine Ne.symm (cell_ne ?_); k_extra "lt"))
  k_with "cell_enter" => ((refine' enterQ ?k1 ?k2 ?k3 ?k4 ?k5 ?kA ?kF ?kK ?k6 ?k7 ?k8 ?k9 ?kB ?_ ?c2 ?c3 ?c4 ?c5; (case kA => exact rfl); (case kF => exact rfl); (case kK => assumption); (case k1 => k_asm); (case k2 => k_asm); (case k3 => k_asm); (case k4 => k_asm); (case k5 => k_asm); (case k6 => k_is); (case k7 => k_is); (case k8 => ktr_room); (case k9 => first | exact BindsTo.of_eq rfl | exact binds_K (by k_in) rfl (by k_is) rfl rfl rfl); (case c5 => decide); (case kB => exact locs rfl); (case c2 => exact rfl); (case c3 => exact rfl); (case c4 => exact rfl); k_whole; intro P9 hP9 g' L' h' H' F' N' B' X' T' l'; (try dsimp only); (try k_lt l'); (try k_fold)); (try (revert P9 hP9 g' L' h' H' F' N' B' X' T' l'; set_option tactic.hygienic true in intros)))
  k_with "LeaveQ" => ((k_dflt (refine' leaveQ ?kP ?k1 ?k2 ?_; (case kP => assumption); (case k1 => k_asm); (case k2 => k_asm); k_whole); intro kK kH; (try dsimp only)); (try (revert kK kH; set_option tactic.hygienic true in intros)))
  k_with "k_inst" => ((refine' instAt_acc ?N ?h1 ?h2; (case N => k_asm); (case h1 => k_mem); (case h2 => k_mem)))
  k_with "setItem ref ref ref" => ((k_here; k_dflt (refine' setSlice_acc ?q9F ?q9X ?q9N ?q9hi ?q9hq ?q9hs ?q9U ?q9l ?q9p ?q9lo ?q9z ?q9zz ?_; (case q9F => k_asm); (case q9X => k_asm); (case q9N => k_asm); (case q9hi => k_is); (case q9hq => k_is); (case q9hs => k_is); (case q9U => k_updF); (case q9l => first | assumption | exact stays_list (Fr.keep (by k_asm)) (by assumption) | exact News.isList (by k_asm) (by k_mem)); (case q9p => first | exact IsPart.none | exact IsPart.int _ _); (case q9lo => (intro i hi; cases hi <;> constructor <;> omega)); (case q9z => first | assumption | omega | decide); (case q9zz => first | assumption | omega | decide); k_whole); intro h' n' F' N'; (try dsimp only [loNat, List.take_zero, List.nil_append, List.append_nil] at N'); (try k_sweep)); (try (revert i hi h' n' F' N'; set_option tactic.hygienic true in intros)))
  k_with "setAttr ref" => ((k_here; k_dflt (refine' set_acc ?q9F ?q9X ?q9N ?q9hx ?q9U ?q9hs ?q9hc ?q9hm ?q9hh ?q9ht ?q9hl ?q9e ?q9z ?_; (case q9F => k_asm); (case q9X => k_asm); (case q9N => k_asm); (case q9hx => k_mem); (case q9U => k_updF); (case q9hs => k_is); (case q9hc => k_is); (case q9hm => rfl); (case q9hh => rfl); (case q9ht => k_is); (case q9hl => k_get); (case q9e => k_put); (case q9z => exact Nat.le_of_ble_eq_true rfl); k_whole); intro h' F' N'; (try dsimp only at N'); (try k_sweep)); (try (revert h' F' N'; set_option tactic.hygienic true in intros)))
  k_with "subscriptTail Name Slice ref ref" => ((k_here; k_dflt (refine' getSlice_acc ?q9F ?q9X ?q9N ?q9hi ?q9hq ?q9hs ?q9x ?q9p ?q9lo ?q9z ?_; (case q9F => k_asm); (case q9X => k_asm); (case q9N => k_asm); (case q9hi => k_is); (case q9hq => k_is); (case q9hs => k_is); (case q9x => k_mem); (case q9p => first | exact IsPart.none | exact IsPart.int _ _); (case q9lo => (intro i hi; cases hi <;> constructor <;> omega)); (case q9z => first | assumption | omega | decide); k_whole); intro q' h' F' N' l'; (try k_lt l'); (try dsimp only [loNat, List.drop_zero] at N'); (try k_sweep)); (try (revert i hi q' h' F' N' l'; set_option tactic.hygienic true in intros)))
  k_with "ktr_enter" => ((refine' enterS ?k1 ?k2 ?k3 ?k4 ?k5 ?kA ?kF ?kK ?k6 ?k7 ?k8 ?k9 ?kB ?_ ?c5 ?c2 ?c3 ?c4; (case kA => exact rfl); (case kF => exact rfl); (case kK => assumption); (case k1 => k_asm); (case k2 => k_asm); (case k3 => k_asm); (case k4 => k_asm); (case k5 => k_asm); (case k6 => k_is); (case k7 => k_is); (case k8 => ktr_room); (case k9 => first | exact BindsTo.of_eq rfl | exact binds_K (by k_in) rfl (by k_is) rfl rfl rfl); (case c5 => decide); (case kB => exact locs rfl); (case c2 => exact rfl); (case c3 => exact rfl); (case c4 => exact rfl); k_whole; intro P9 hP9 g' L' h' H' F' N' B' X' T' l'; (try dsimp only); (try k_lt l')); (try (revert P9 hP9 g' L' h' H' F' N' B' X' T' l'; set_option tactic.hygienic true in intros)))
  k_with "getMethod ref" => ((k_here; k_dflt (refine' super_meth ?q9F ?q9X ?q9N ?q9s ?q9x ?q9o ?q9m ?q9b ?q9i ?q9n ?_; (case q9F => k_asm); (case q9X => k_asm); (case q9N => k_asm); (case q9s => k_mem); (case q9x => k_mem); (case q9o => k_is); (case q9m => ks_is); (case q9b => k_is); (case q9i => first | exact Or.inl rfl | exact Or.inr rfl); (case q9n => decide); k_whole; intro q' h' F' N' l1; (try k_lt l1))); (try (revert q' h' F' N' l1; set_option tactic.hygienic true in intros)))
  k_with "callWith ref" => ((k_here; k_dflt (refine' callWith_wrap ?q9q ?_; (case q9q => exact News.get (by k_asm) (by k_mem)); k_whole)))
  k_with "call ref" => ((k_here; k_dflt (refine' len_wrap ?q9q ?q9x ?_; (case q9q => exact News.get (by k_asm) (by k_mem)); (case q9x => exact News.get (by k_asm) (by k_mem)); k_whole)))
  revert X; k_fill; intro X
  refine wpAny_call ?_
  k_dflt ktr_enter
  rename Hid _ _ _ => H
  w_strict (k_steps)
  rename Has _ _ => kH
  exact hret _ _ _ (kp_back H (by assumption) (News.has N) (has2 (kH.get (by k_mem)) (kH.get (by k_mem))))

theorem acc_init_spec (B : Below A₀ base outer h₀) (F : Fr h₀ L s.heap m) (X : (Mine.hd.heap_39 w.params).In h₀) (T : Top p loose mean mg mb h₀) (hk : cs.kind = .function) (hd : dp + 1 < recursionLimit) (hu : un + 8 < cLine)
    {x dx : Addr} {i : Int} {it : Tok} (N : News h₀ L s.heap [(x, accObj dx [] 0), (dx, dictOf [] 0)]) (hne : x ≠ dx)
    (hret : ∀ h' tk' hh kt, KpBut [x, dx] s.heap h' → Has h' [(x, accObj dx [] 0), (dx, dictOf [⟨hh, .str (Str.ofString "_initial_size") kt, .int i it⟩] 1)] → Q .none { s with heap := h', toks := tk' }) :
    wpAny (model PySem.Challenge.rw_re0059_01.prog w) (ktrTop dp un gd cn cs L a ccd cl outer) (call (.ref 38) [.ref x, .int i it]) Q E s := by
  k_with_none
  w_top off
  k_with "lt" => (first | (with_reducible assumption) | (apply And.left; (first | (with_reducible assumption) | (apply And.right; (first | (with_reducible assumption) | (apply And.right; (first | (with_reducible assumption) | (apply And.right; (first | (with_reducible assumption) | (apply And.right; (first | (with_reducible assumption) | (apply And.right; (first | (with_reducible assumption) | (apply And.right; (first | (with_reducible assumption) | (apply And.right; (first | (with_reducible assumption) | (apply And.right; (first | (with_reducible assumption) | (apply And.right; (first | (with_reducible assumption) | (apply And.right; (first | (with_reducible assumption) | (apply And.right; (first | (with_reducible assumption) | (apply And.right; (first | (with_reducible assumption) | (apply And.right; (first | (with_reducible assumption) | (apply And.right; (first | (with_reducible assumption) | (apply And.right; (first | (with_reducible assumption) | (apply And.right; (first | (with_reducible assumption) | (apply And.right; (first | (with_reducible assumption) | (apply And.right; (first | (with_reducible assumption) | (apply And.right; (first | (with_reducible assumption) | (apply And.right; (first | (with_reducible assumption) | (apply And.right; (first | (with_reducible assumption) | (apply And.right; (first | (with_reducible assumption) | (apply And.right; (first | (with_reducible assumption) | (apply And.right; (first | (with_reducible assumption) | (apply And.right; (with_reducible assumption)))))))))))))))))))))))))))))))))))))))))))))))))))) | (apply And.right; (first | (with_reducible assumption) | (apply And.right; (first | (with_reducible assumption) | (apply And.right; (first | (with_reducible assumption) | (apply And.right; (first | (with_reducible assumption) | (apply And.right; (first | (with_reducible assumption) | (apply And.right; (first | (with_reducible assumption) | (apply And.right; (first | (with_reducible assumption) | (apply And.right; (first | (with_reducible assumption) | (apply And.right; (first | (with_reducible assumption) | (apply And.right; (first | (with_reducible assumption) | (apply And.right; (first | (with_reducible assumption) | (apply And.right; (first | (with_reducible assumption) | (apply And.right; (first | (with_reducible assumption) | (apply And.right; (first | (with_reducible assumption) | (apply And.right; (first | (with_reducible assumption) | (apply And.right; (first | (with_reducible assumption) | (apply And.right; (first | (with_reducible assumption) | (apply And.right; (first | (with_reducible assumption) | (apply And.right; (first | (with_reducible assumption) | (apply And.right; (first | (with_reducible assumption) | (apply And.right; (first | (with_reducible assumption) | (apply And.right; (first | (with_reducible assumption) | (apply And.right; (first | (with_reducible assumption) | (apply And.right; (first | (with_reducible assumption) | (apply And.right; (first | (with_reducible assumption) | (apply And.right; (with_reducible assumption)))))))))))))))))))))))))))))))))))))))))))))))))))))
  k_with "k_ne" => (refine neN ?_; (try dsimp only); first | k_extra "lt" | (refine Ne.symm ?_; k_extra "lt") | (refine Nat.ne_of_lt ?_; k_extra "lt") | (refine Nat.ne_of_gt ?_; k_extra "lt") | (refine Nat.ne_of_lt (Nat.lt_add_right _ ?_); k_extra "lt") | (refine Nat.ne_of_gt (Nat.lt_add_right _ ?_); k_extra "lt") | (refine Nat.ne_of_lt (Nat.lt_add_right _ (Nat.lt_add_right _ ?_)); k_extra "lt") | (refine Nat.ne_of_gt (Nat.lt_add_right _ (Nat.lt_add_right _ ?_)); k_extra "lt") | (refine cell_ne2 ?_; decide) | (refine cell_ne ?_; k_extra "lt") | (refine Ne.symm (cell_ne ?_); k_extra "lt"))
  k_with "cell_enter" => ((refine' enterQ ?k1 ?k2 ?k3 ?k4 ?k5 ?kA ?kF ?kK ?k6 ?k7 ?k8 ?k9 ?kB ?_ ?c2 ?c3 ?c4 ?c5; (case kA => exact rfl); (case kF => exact rfl); (case kK => assumption); (case k1 => k_asm); (case k2 => k_asm); (case k3 => k_asm); (case k4 => k_asm); (case k5 => k_asm); (case k6 => k_is); (case k7 => k_is); (case k8 => ktr_room); (case k9 => first | exact BindsTo.of_eq rfl | exact binds_K (by k_in) rfl (by k_is) rfl rfl rfl); (case c5 => decide); (case kB => exact locs rfl); (case c2 => exact rfl); (case c3 => exact rfl); (case c4 => exact rfl); k_whole; intro P9 hP9 g' L' h' H' F' N' B' X' T' l'; (try dsimp only); (try k_lt l'); (try k_fold)); (try (revert P9 hP9 g' L' h' H' F' N' B' X' T' l'; set_option tactic.hygienic true in intros)))
  k_with "LeaveQ" => ((k_dflt (refine' leaveQ ?kP ?k1 ?k2 ?_; (case kP => assumption); (case k1 => k_asm); (case k2 => k_asm); k_whole); intro kK kH; (try dsimp only)); (try (revert kK kH; set_option tactic.hygienic true in intros)))
  k_with "k_inst" => ((refine' instAt_acc ?N ?h1 ?h2; (case N => k_asm); (case h1 => k_mem); (case h2 => k_mem)))
  k_with "setItem ref ref ref" => ((k_here; k_dflt (refine' setSlice_acc ?q9F ?q9X ?q9N ?q9hi ?q9hq ?q9hs ?q9U ?q9l ?q9p ?q9lo ?q9z ?q9zz ?_; (case q9F => k_asm); (case q9X => k_asm); (case q9N => k_asm); (case q9hi => k_is); (case q9hq => k_is); (case q9hs => k_is); (case q9U => k_updF); (case q9l => first | assumption | exact stays_list (Fr.keep (by k_asm)) (by assumption) | exact News.isList (by k_asm) (by k_mem)); (case q9p => first | exact IsPart.none | exact IsPart.int _ _); (case q9lo => (intro i hi; cases hi <;> constructor <;> omega)); (case q9z => first | assumption | omega | decide); (case q9zz => first | assumption | omega | decide); k_whole); intro h' n' F' N'; (try dsimp only [loNat, List.take_zero, List.nil_append, List.append_nil] at N'); (try k_sweep)); (try (revert i hi h' n' F' N'; set_option tactic.hygienic true in intros)))
  k_with "setAttr ref" => ((k_here; k_dflt (refine' set_acc ?q9F ?q9X ?q9N ?q9hx ?q9U ?q9hs ?q9hc ?q9hm ?q9hh ?q9ht ?q9hl ?q9e ?q9z ?_; (case q9F => k_asm); (case q9X => k_asm); (case q9N => k_asm); (case q9hx => k_mem); (case q9U => k_updF); (case q9hs => k_is); (case q9hc => k_is); (case q9hm => rfl); (case q9hh => rfl); (case q9ht => k_is); (case q9hl => k_get); (case q9e => k_put); (case q9z => exact Nat.le_of_ble_eq_true rfl); k_whole); intro h' F' N'; (try dsimp only at N'); (try k_sweep)); (try (revert h' F' N'; set_option tactic.hygienic true in intros)))
  k_with "subscriptTail Name Slice ref ref" => ((k_here; k_dflt (refine' getSlice_acc ?q9F ?q9X ?q9N ?q9hi ?q9hq ?q9hs ?q9x ?q9p ?q9lo ?q9z ?_; (case q9F => k_asm); (case q9X => k_asm); (case q9N => k_asm); (case q9hi => k_is); (case q9hq => k_is); (case q9hs => k_is); (case q9x => k_mem); (case q9p => first | exact IsPart.none | exact IsPart.int _ _); (case q9lo => (intro i hi; cases hi <;> constructor <;> omega)); (case q9z => first | assumption | omega | decide); k_whole); intro q' h' F' N' l'; (try k_lt l'); (try dsimp only [loNat, List.drop_zero] at N'); (try k_sweep)); (try (revert i hi q' h' F' N' l'; set_option tactic.hygienic true in intros)))
  k_with "ktr_enter" => ((refine' enterS ?k1 ?k2 ?k3 ?k4 ?k5 ?kA ?kF ?kK ?k6 ?k7 ?k8 ?k9 ?kB ?_ ?c5 ?c2 ?c3 ?c4; (case kA => exact rfl); (case kF => exact rfl); (case kK => assumption); (case k1 => k_asm); (case k2 => k_asm); (case k3 => k_asm); (case k4 => k_asm); (case k5 => k_asm); (case k6 => k_is); (case k7 => k_is); (case k8 => ktr_room); (case k9 => first | exact BindsTo.of_eq rfl | exact binds_K (by k_in) rfl (by k_is) rfl rfl rfl); (case c5 => decide); (case kB => exact locs rfl); (case c2 => exact rfl); (case c3 => exact rfl); (case c4 => exact rfl); k_whole; intro P9 hP9 g' L' h' H' F' N' B' X' T' l'; (try dsimp only); (try k_lt l')); (try (revert P9 hP9 g' L' h' H' F' N' B' X' T' l'; set_option tactic.hygienic true in intros)))
  k_with "getMethod ref" => ((k_here; k_dflt (refine' super_meth ?q9F ?q9X ?q9N ?q9s ?q9x ?q9o ?q9m ?q9b ?q9i ?q9n ?_; (case q9F => k_asm); (case q9X => k_asm); (case q9N => k_asm); (case q9s => k_mem); (case q9x => k_mem); (case q9o => k_is); (case q9m => ks_is); (case q9b => k_is); (case q9i => first | exact Or.inl rfl | exact Or.inr rfl); (case q9n => decide); k_whole; intro q' h' F' N' l1; (try k_lt l1))); (try (revert q' h' F' N' l1; set_option tactic.hygienic true in intros)))
  k_with "callWith ref" => ((k_here; k_dflt (refine' callWith_wrap ?q9q ?_; (case q9q => exact News.get (by k_asm) (by k_mem)); k_whole)))
  k_with "call ref" => ((k_here; k_dflt (refine' len_wrap ?q9q ?q9x ?_; (case q9q => exact News.get (by k_asm) (by k_mem)); (case q9x => exact News.get (by k_asm) (by k_mem)); k_whole)))
  k_with "call ref" => ((k_here; k_dflt (refine' init_wrap ?q9F ?q9N ?q9q ?q9U ?_; (case q9F => k_asm); (case q9N => k_asm); (case q9q => k_mem); (case q9U => k_updF); k_whole; intro h' F' N'; (try dsimp only at N'); (try k_sweep))); (try (revert h' F' N'; set_option tactic.hygienic true in intros)))
  k_with "wpAt" => (((try dsimp only); first | refine ks_wpAt_execs_cons ?_ | (ks_step "exec Expr"; with_unfolding_all refine ks_wpAt_Expr_any ?_) | (ks_step "eval Call"; k_dflt (refine ks_wpAt_MethodCall ?_))))
  revert X; k_fill; intro X
  replace hne := neN hne
  refine wpAny_call ?_
  k_dflt ktr_enter
  rename Hid _ _ _ => H
  w_strict (k_steps)
  rename Has _ _ => kH
  exact hret _ _ _ _ (kpBut_of H (by assumption)) (has2 (kH.get (by k_mem)) (kH.get (by k_mem)))
end
end Mine
end

section
set_option maxRecDepth 100000
set_option maxHeartbeats 4000000
namespace Mine
open PySem.Calls PySem.Builtin PySem.Builtin.ObjectAttr

noncomputable abbrev riObj (x left : Int) : Obj := { cls := .type "range_iterator", dict := none, data := .fields #[rawInt x, rawInt left, rawInt 1], slots := #[] }

section
variable {prog : Program} {w : World} {A : Around} {E : Value → Shared → Prop} {s : Shared} {h₀ : Heap} {m : Str → Option Value} {env : Env} {x : Str} {body : List Stmt} {px : Pos} {Q : Flow → Shared → Prop}

/-- a loop over a range, whose turns may change all but the iterator -/
noncomputable def RangeTurns (prog : Program) (w : World) (A : Around) (h₀ : Heap) (env : Env) (x : Str) (body : List Stmt) (Q : Flow → Shared → Prop) (E : Value → Shared → Prop) (it : Value) (s₂ : Shared) : Prop :=
  ∃ (I : Addr) (lo : Int) (n : Nat) (m : Str → Option Value) (news : List (Addr × Obj)) (J : Nat → (Str → Option Value) → List (Addr × Obj) → Shared → Prop),
    it = .ref I ∧ (∀ i m news s h tk, J i m news s → J i m news { s with heap := h, toks := tk }) ∧ Fr h₀ env.locals s₂.heap m ∧ News h₀ env.locals s₂.heap ((I, riObj lo n) :: news) ∧ (∀ q ∈ news, q.1 ≠ I) ∧ J 0 m news s₂ ∧
    (∀ i m news s t, i < n → Fr h₀ env.locals s.heap (fun y => if y = x then some (.int (lo + i) t) else m y) → News h₀ env.locals s.heap ((I, riObj (lo + i + 1) ((n : Int) - i - 1)) :: news) → (∀ q ∈ news, q.1 ≠ I) → J i m news s → ∀ T : Flow → Shared → Prop, (∀ f s₃, (match f with
        | .next | .cont => ∃ m' news', Fr h₀ env.locals s₃.heap m' ∧ News h₀ env.locals s₃.heap ((I, riObj (lo + i + 1) ((n : Int) - i - 1)) :: news') ∧ (∀ q ∈ news', q.1 ≠ I) ∧ J (i + 1) m' news' s₃
        | .brk => Q .next s₃
        | .ret v => Q (.ret v) s₃) → T f s₃) →
      wpAny (model prog w) A (execs body env) (CiT T) E s) ∧
    (∀ m news s, Fr h₀ env.locals s.heap m → News h₀ env.locals s.heap news → J n m news s → Q .next s)

theorem For_range {iter : Expr} {pos : Pos} (_F : Fr h₀ env.locals s.heap m) (hx : env.kindOf x = some .local) (hp : (env.scope.kind == .class || (env.scope.kind == .module && env.locals != env.globals)) = false) (hh : A.handled = none)
    (h : wpAny (model prog w) A (eval iter env) (fun xv s₁ => wpAny (model prog w) A (pyIter xv) (fun it s₂ => RangeTurns prog w A h₀ env x body Q E it s₂) E s₁) E s)
    (hs : ∀ x, foldedSetIterable iter env x = pure x := by intro _; rfl)
    (hE : PassesOwn (model prog w) A env E := by passes_own) :
    wpAny (model prog w) A (exec (.For (.Name x px) iter body [] pos) env) Q E s := by
  refine wpAny_For (wpAny_mono h (fun xv s₁ h₁ => wpAny_mono h₁ (fun it s₂ h₂ => ?_) fun _ _ e => e) fun _ _ e => e) hs
  obtain ⟨I, lo, n, m, news, J, rfl, hJ, F, N, hN, h0, step, done⟩ := h₂
  refine codeAny_forLoop (fun k s => ∃ i m news, k = n - i ∧ i ≤ n ∧ Fr h₀ env.locals s.heap m ∧ News h₀ env.locals s.heap ((I, riObj (lo + i) ((n : Int) - i)) :: news) ∧ (∀ q ∈ news, q.1 ≠ I) ∧ J i m news s) ?_ n
    ⟨0, m, news, rfl, Nat.zero_le _, F, by simpa using N, hN, h0⟩
  rintro k s ⟨i, m, news, rfl, hi, F, N, hN, hJi⟩
  have hIo := (N (I, _) (.head _)).1
  have hIL := (N (I, _) (.head _)).2.1
  have hI0 := (N (I, _) (.head _)).2.2
  have hit : IsRangeIter s.heap I (lo + i) ((n : Int) - i) 1 := hIo
  have fr : ∀ h', (∀ b o, b ≠ I → s.heap.get? b = some o → h'.get? b = some o) → Fr h₀ env.locals h' m ∧ News h₀ env.locals h' news := fun h' hk => by
    refine ⟨⟨?_, fun b o e => hk b o (fun q => by rw [q] at e; rw [hI0] at e; cases e) (F.keep b o e), F.above⟩, fun q hq => ⟨hk _ _ (hN q hq) (N q (.tail _ hq)).1, (N q (.tail _ hq)).2⟩⟩
    obtain ⟨o, es, ep, e, r⟩ := F.ns
    exact ⟨o, es, ep, hk _ _ (fun q => hIL q.symm) e, r⟩
  by_cases hlt : i < n
  · refine wpAny_pyNext_range_item hit (by omega) fun h' hit' hs' => ?_
    obtain ⟨F1, N1⟩ := fr h' fun b o hb e => hs'.extBut b o hb e
    refine wpAny_assign_Name (wpAny_storeName_local hx F1.ns (fun h₂ hn₂ hs₂ => ?_) hp)
    have hkeep : ∀ b o, b ≠ env.locals → h'.get? b = some o → h₂.get? b = some o := fun b o hb e => hs₂.extBut b o hb e
    have F2 : Fr h₀ env.locals h₂ (fun y => if y = x then some (.int (lo + i) s.toks) else m y) := by
      refine ⟨hn₂, fun b o e => hkeep b o (fun q => ?_) (F1.keep b o e), F1.above⟩
      have := Heap.lt_size e
      rw [q] at this
      exact Nat.lt_irrefl _ (Nat.lt_of_lt_of_le this F1.above)
    have N2 : News h₀ env.locals h₂ ((I, riObj (lo + i + 1) ((n : Int) - i - 1)) :: news) := fun q hq => by
      rcases List.mem_cons.mp hq with rfl | hq
      · exact ⟨hkeep _ _ hIL hit', hIL, hI0⟩
      · exact ⟨hkeep _ _ (N1 q hq).2.1 (N1 q hq).1, (N1 q hq).2⟩
    refine wpAny_mono (step i m news { s with heap := h₂, toks := s.toks + 1 + 1 } s.toks hlt F2 N2 hN (hJ _ _ _ _ _ _ hJi) _ fun _ _ z => z) (fun f s₃ h₃ => ?_) hE
    have fin : (∃ m' news', Fr h₀ env.locals s₃.heap m' ∧ News h₀ env.locals s₃.heap ((I, riObj (lo + i + 1) ((n : Int) - i - 1)) :: news') ∧ (∀ q ∈ news', q.1 ≠ I) ∧ J (i + 1) m' news' s₃) →
        ∃ m, m < n - i ∧ ∃ i m_1 news, m = n - i ∧ i ≤ n ∧ Fr h₀ env.locals s₃.heap m_1 ∧ News h₀ env.locals s₃.heap ((I, riObj (lo + i) ((n : Int) - i)) :: news) ∧ (∀ q ∈ news, q.1 ≠ I) ∧ J i m_1 news s₃ := by
      rintro ⟨m', news', F3, N3, hN3, hJ3⟩
      refine ⟨n - (i + 1), by omega, i + 1, m', news', rfl, hlt, F3, ?_, hN3, hJ3⟩
      have e1 : lo + ((i + 1 : Nat) : Int) = lo + i + 1 := by omega
      have e2 : (n : Int) - ((i + 1 : Nat) : Int) = (n : Int) - i - 1 := by omega
      rw [e1, e2]; exact N3
    cases f with
    | next => exact fin h₃
    | cont => exact fin h₃
    | brk => exact h₃
    | ret v => exact h₃
  · have hin : i = n := by omega
    subst hin
    refine wpAny_pyNext_range_end hh hit (by omega) fun h' he' => wpAny_execs_nil ?_
    obtain ⟨F1, N1⟩ := fr h' fun b o hb e => he' b o hb e
    exact done m news { s with heap := h' } F1 N1 (hJ _ _ _ s h' s.toks hJi)
end
end Mine
end

section
set_option maxRecDepth 100000
set_option maxHeartbeats 4000000
namespace Mine

theorem News.step {h₀ h h' : Heap} {L : Addr} {old new : List (Addr × Obj)} {as : List Addr} (N : News h₀ L h old) (k : KpBut as h h') (H : ∀ q ∈ new, (q ∈ old ∧ q.1 ∉ as) ∨ (h'.get? q.1 = some q.2 ∧ ∃ o, (q.1, o) ∈ old)) : News h₀ L h' new := fun q hq => by
  rcases H q hq with ⟨a, b⟩ | ⟨a, o, b⟩
  · exact ⟨k _ _ b (N q a).1, (N q a).2⟩
  · exact ⟨a, (N _ b).2⟩
theorem Fr.step {h₀ h h' : Heap} {L : Addr} {m : Str → Option Value} {old : List (Addr × Obj)} {as : List Addr} (F : Fr h₀ L h m) (N : News h₀ L h old) (k : KpBut as h h') (H : ∀ b ∈ as, ∃ o, (b, o) ∈ old) : Fr h₀ L h' m :=
  Fr.kpBut F k (fun hm => let ⟨_, ho⟩ := H _ hm; (N _ ho).2.1 rfl) fun b hb => let ⟨_, ho⟩ := H _ hb; (N _ ho).2.2
theorem News.sub {h₀ h : Heap} {L : Addr} {old new : List (Addr × Obj)} (N : News h₀ L h old) (H : ∀ q ∈ new, q ∈ old) : News h₀ L h new := fun q hq => N q (H q hq)

/-- the ledger of a pane, behind the iterator of the loop -/
noncomputable abbrev ledO (I x dx : Addr) (oI : Obj) (vs : List Value) (n : Nat) (hh : Int) (kt it : Tok) (i0 : Int) (ps qs : Array Value) : List (Addr × Obj) :=
  [(I, oI), (x, accObj dx vs n), (dx, dictOf [⟨hh, .str (Str.ofString "_initial_size") kt, .int i0 it⟩] 1), (70, tabObj ps), (63, tabObj qs)]

/-- the window of a cut, and the test of the code -/
noncomputable def win (t : List Nat) (c r : Nat) : List Nat := (t.take (c + r)).drop (c - r)
noncomputable def wcond (t : List Nat) (c r : Nat) : Bool := ((win t c r).drop r).isPrefixOf (win t c r)
theorem wcond_all (t : List Nat) (c : Nat) (hc : c < t.length) : wcond t c t.length = true := by
  have e : (win t c t.length).drop t.length = [] := by
    rw [List.drop_eq_nil_iff]; simp only [win, List.length_drop, List.length_take]; omega
  unfold wcond; rw [e]; rfl
end Mine
end

section
set_option maxRecDepth 100000
set_option maxHeartbeats 4000000
namespace Mine
section
variable {prog : Program} {w : World} {A : Around} {E : Value → Shared → Prop} {s : Shared} {K : Frag} {x C L : Addr} {h₀ : Heap} {m : Str → Option Value} {ox : Obj} {name : Str} {es : List DictEntry} {n : Nat}

/-- a method of a list subclass, asked of an object -/
theorem methodL {pl : Sem Bool} {Q : Value × List Value → Shared → Prop} {f : Addr} (F : Fr h₀ L s.heap m) (X₀ : K.In h₀) (I : InstAt s.heap x ox C (some (dictOf es n))) (hga : findIn K (.ref C) (Str.ofString "__getattribute__") = some (some (.builtin "list.__getattribute__"))) (hk : findIn K (.ref C) (Str.ofString "__getattr__") = some none)
    (hf : findIn K (.ref C) name = some (some (.ref f))) (ht : isFn K (.ref f) = true) (hl : getL name es = some none) (h : Q (.ref f, [.ref x]) s) : wpAny (model prog w) A (getMethod (.ref x) name pl) Q E s := by
  have X := X₀.keeps F.keep
  have ht' : typeIn K (.ref f) = some (.type "function") := beq_iff_eq.mp ht
  have hs : shadowIn (some (dictOf es n)) name = some false := by show (lookIn name (dictOf es n)).map _ = _; rw [lookIn_dict, hl]; rfl
  unfold getMethod specialOf
  refine wpAny_bind (wpAny_bind (I.type.here ((looks_findIn X hga).here ?_)))
  dsimp only
  rw [canon_list_getattribute, if_neg (by decide)]
  refine wpAny_bind (wpAny_bind (I.type.here ((looks_findIn X hk).here ?_)))
  refine wpAny_bind (wpAny_bind (I.type.here ((looks_findIn X hf).here (wpAny_bind ((looks_typeIn X ht').here ?_)))))
  rw [if_neg (by decide +kernel)]
  refine wpAny_bind (wpAny_loadPart I.at_ ?_)
  have hd := I.dict
  cases e : ox.dict with
  | none => exact wpAny_bind (wpAny_rule (wpAny_pure h))
  | some dx =>
    rw [e] at hd
    obtain ⟨r, a, b⟩ := Option.map_eq_some_iff.mp hs
    refine wpAny_bind (wpAny_bind (wpAny_loadPart hd ?_))
    rw [nsLook_of a]
    refine wpAny_pure ?_
    rw [b]
    exact wpAny_bind (wpAny_rule (wpAny_pure h))
end
end Mine
end

section
set_option maxRecDepth 100000
set_option maxHeartbeats 4000000
namespace Mine

noncomputable abbrev fam (x dx : Addr) (vs : List Value) (n : Nat) (hh : Int) (kt it : Tok) (i : Int) (ps qs : Array Value) : List (Addr × Obj) :=
  [(x, accObj dx vs n), (dx, dictOf [⟨hh, .str (Str.ofString "_initial_size") kt, .int i it⟩] 1), (70, tabObj ps), (63, tabObj qs)]
noncomputable def PreOk (x dx : Addr) : List (Addr × Obj) → Prop
  | [] => True
  | p :: r => ((@Ne Nat p.1 x) ∧ (@Ne Nat p.1 dx) ∧ (@Ne Nat p.1 70) ∧ (@Ne Nat p.1 63)) ∧ PreOk x dx r
theorem PreOk.mem {x dx : Addr} : ∀ {l : List (Addr × Obj)}, PreOk x dx l → ∀ p ∈ l, p.1 ∉ [x, dx, 70, 63]
  | [], _, _, h => nomatch h
  | _ :: _, y, p, h => by
    rcases List.mem_cons.mp h with rfl | h
    · intro hm
      simp only [List.mem_cons, List.not_mem_nil, or_false] at hm
      rcases hm with e | e | e | e
      · exact y.1.1 e
      · exact y.1.2.1 e
      · exact y.1.2.2.1 e
      · exact y.1.2.2.2 e
    · exact PreOk.mem y.2 p h
theorem KpBut.mono {as bs : List Addr} {h h' : Heap} (k : KpBut as h h') (s : ∀ a ∈ as, a ∈ bs) : KpBut bs h h' := fun b o hb e => k b o (fun hm => hb (s b hm)) e

section
variable {h₀ h h' : Heap} {L x dx : Addr} {m : Str → Option Value} {vs vs' : List Value} {n n' : Nat} {hh : Int} {kt it it' : Tok} {i i' : Int} {ps qs ps' qs' : Array Value} {pre : List (Addr × Obj)}
theorem fam_step (F : Fr h₀ L h m) (N : News h₀ L h (pre ++ fam x dx vs n hh kt it i ps qs)) (P : PreOk x dx pre) (k : KpBut [x, dx, 70, 63] h h') (H : Has h' (fam x dx vs' n' hh kt it' i' ps' qs')) :
    Fr h₀ L h' m ∧ News h₀ L h' (pre ++ fam x dx vs' n' hh kt it' i' ps' qs') := by
  have inn : ∀ b ∈ [x, dx, 70, 63], ∃ o, (b, o) ∈ pre ++ fam x dx vs n hh kt it i ps qs := by
    intro b hb
    simp only [List.mem_cons, List.not_mem_nil, or_false] at hb
    rcases hb with rfl | rfl | rfl | rfl
    · exact ⟨_, List.mem_append_right _ (.head _)⟩
    · exact ⟨_, List.mem_append_right _ (.tail _ (.head _))⟩
    · exact ⟨_, List.mem_append_right _ (.tail _ (.tail _ (.head _)))⟩
    · exact ⟨_, List.mem_append_right _ (.tail _ (.tail _ (.tail _ (.head _))))⟩
  refine ⟨Fr.step F N k inn, News.step N k fun q hq => ?_⟩
  rcases List.mem_append.mp hq with hq | hq
  · exact .inl ⟨List.mem_append_left _ hq, P.mem q hq⟩
  · refine .inr ⟨H q hq, inn q.1 ?_⟩
    simp only [fam, List.mem_cons, List.not_mem_nil, or_false] at hq ⊢
    rcases hq with rfl | rfl | rfl | rfl <;> simp
theorem fam_ne (N : News h₀ L h (pre ++ fam x dx vs n hh kt it i ps qs)) : ((x : Nat) ≠ dx ∧ (x : Nat) ≠ 70 ∧ (x : Nat) ≠ 63) ∧ (dx : Nat) ≠ 70 ∧ (dx : Nat) ≠ 63 := by
  have a := (N (x, _) (List.mem_append_right _ (.head _))).1
  have b := (N (dx, _) (List.mem_append_right _ (.tail _ (.head _)))).1
  have c := (N (70, _) (List.mem_append_right _ (.tail _ (.tail _ (.head _))))).1
  have d := (N (63, _) (List.mem_append_right _ (.tail _ (.tail _ (.tail _ (.head _)))))).1
  exact ⟨⟨ne_obj a b nofun, ne_obj a c nofun, ne_obj a d nofun⟩, ne_obj b c nofun, ne_obj b d nofun⟩
theorem fam_sub (N : News h₀ L h (pre ++ fam x dx vs n hh kt it i ps qs)) : News h₀ L h (fam x dx vs n hh kt it i ps qs) := News.sub N fun _ hq => List.mem_append_right _ hq
theorem fam_two (N : News h₀ L h (fam x dx vs n hh kt it i ps qs)) : News h₀ L h [(x, accObj dx vs n), (dx, dictOf [⟨hh, .str (Str.ofString "_initial_size") kt, .int i it⟩] 1)] :=
  News.sub N fun q hq => by simp only [List.mem_cons, List.not_mem_nil, or_false] at hq; rcases hq with rfl | rfl <;> simp
theorem fam_str (N : News h₀ L h (fam x dx vs n hh kt it i ps qs)) : News h₀ L h [(x, accObj dx vs n), (dx, dictOf [⟨hh, .str (Str.ofString "_initial_size") kt, .int i it⟩] 1), (70, tabObj ps)] :=
  News.sub N fun q hq => by simp only [List.mem_cons, List.not_mem_nil, or_false] at hq; rcases hq with rfl | rfl | rfl <;> simp
theorem fam_len (N : News h₀ L h (fam x dx vs n hh kt it i ps qs)) : News h₀ L h [(x, accObj dx vs n), (dx, dictOf [⟨hh, .str (Str.ofString "_initial_size") kt, .int i it⟩] 1), (63, tabObj qs)] :=
  News.sub N fun q hq => by simp only [List.mem_cons, List.not_mem_nil, or_false] at hq; rcases hq with rfl | rfl | rfl <;> simp
end

/-- the signs at lo, lo + 1, .. -/
noncomputable def pv (Ts : Nat → Addr) (lo n : Nat) : List Value := (List.range n).map fun k => Value.ref (Ts (lo + k))
theorem pv_len (Ts : Nat → Addr) (lo n : Nat) : (pv Ts lo n).length = n := by simp [pv]
theorem pv_get (Ts : Nat → Addr) (lo n k : Nat) (hk : k < n) : (pv Ts lo n)[k]? = some (.ref (Ts (lo + k))) := by simp [pv, hk]
theorem pv_take (Ts : Nat → Addr) (lo n r : Nat) (h : r ≤ n) : (pv Ts lo n).take r = pv Ts lo r := by
  unfold pv; rw [← List.map_take, List.take_range, Nat.min_eq_left h]
theorem pv_drop (Ts : Nat → Addr) (lo n r : Nat) : (pv Ts lo n).drop r = pv Ts (lo + r) (n - r) := by
  apply List.ext_getElem?
  intro k
  rw [List.getElem?_drop]
  by_cases hk : k < n - r
  · rw [pv_get _ _ _ _ hk, pv_get _ _ _ _ (by omega)]; congr 3; omega
  · rw [List.getElem?_eq_none (by rw [pv_len]; omega), List.getElem?_eq_none (by rw [pv_len]; omega)]
theorem flat_sub {t : List Nat} {f : Nat → List Nat} (hf : ∀ k, k < t.length → f k = [t.getD k 0]) : ∀ (n lo : Nat), lo + n ≤ t.length → ((List.range n).map fun k => f (lo + k)).flatten = (t.drop lo).take n := by
  intro n
  induction n with
  | zero => intro lo _; simp
  | succ n ih =>
    intro lo h
    rw [List.range_succ, List.map_append, List.flatten_append, ih lo (by omega)]
    simp only [List.map_cons, List.map_nil, List.flatten_cons, List.flatten_nil, List.append_nil]
    rw [hf (lo + n) (by omega), List.take_add_one, List.getElem?_drop, List.getElem?_eq_getElem (by omega), List.getD_eq_getElem?_getD, List.getElem?_eq_getElem (by omega)]
    rfl
theorem sum_ones {f : Nat → Int} : ∀ n, (∀ k, k < n → f k = 1) → preSum f n = n := by
  intro n
  induction n with
  | zero => intro _; rfl
  | succ n ih =>
    intro h
    rw [preSum, ih fun k hk => h k (by omega), h n (by omega)]; omega

section
variable {w : World} {p : Program} {loose : List Str} {mean : ExcName → Option Value} {mg mb : Str → Option Value} {dp un : Nat} {gd : Option (List Code)} {cn : Str} {cs : Scope} {a : Addr} {ccd : Value} {cl : List (Str × Addr)} {outer : List Env} {A₀ : Around} {base h₀ : Heap} {L : Addr} {m : Str → Option Value} {s : Shared} {Q E : Value → Shared → Prop}
  {x dx : Addr} {vs : List Value} {n : Nat} {hh : Int} {kt it : Tok} {i : Int} {ps qs : Array Value} {pre : List (Addr × Obj)}
theorem reset_led {l : Addr} {vs' : List Value} (pre : List (Addr × Obj)) (B : Below A₀ base outer h₀) (F : Fr h₀ L s.heap m) (X : (Mine.hd.heap_39 w.params).In h₀) (N : News h₀ L s.heap (pre ++ fam x dx vs n hh kt it i ps qs)) (T : Top p loose mean mg mb h₀) (P : PreOk x dx pre) (hk : cs.kind = .function) (hd : dp + 1 < recursionLimit) (hu : un + 8 < cLine)
    (hl : s.heap.IsList l vs'.toArray) (hz : vs.length ≤ 1000) (hz' : vs'.length ≤ 1000)
    (hret : ∀ h' tk' n' it', Fr h₀ L h' m → News h₀ L h' (pre ++ fam x dx vs' n' hh kt it' 0 ps qs) → Q .none { s with heap := h', toks := tk' }) :
    wpAny (model PySem.Challenge.rw_re0059_01.prog w) (ktrTop dp un gd cn cs L a ccd cl outer) (call (.ref 83) [.ref x, .ref l]) Q E s := by
  have ne := fam_ne N
  have N0 := fam_sub N
  refine reset_spec B F X T hk hd hu (fam_two N0) hl ne.1.1 hz hz' fun h' tk' n' it' k H => ?_
  · have k7 : h'.get? 70 = some (tabObj ps) := k 70 _ (by simp only [List.mem_cons, List.not_mem_nil, or_false, not_or]; exact ⟨fun e => ne.1.2.1 e.symm, fun e => ne.2.1 e.symm⟩) (N0 (70, _) (by simp)).1
    have k6 : h'.get? 63 = some (tabObj qs) := k 63 _ (by simp only [List.mem_cons, List.not_mem_nil, or_false, not_or]; exact ⟨fun e => ne.1.2.2 e.symm, fun e => ne.2.2 e.symm⟩) (N0 (63, _) (by simp)).1
    obtain ⟨F', N'⟩ := fam_step (n' := n') (it' := it') F N P (k.mono (by simp)) (has_cons (H.get (.head _)) (has_cons (H.get (.tail _ (.head _))) (has2 k7 k6)))
    exact hret _ _ _ _ F' N'
theorem pop_led {r : Int} {t : Tok} (pre : List (Addr × Obj)) (B : Below A₀ base outer h₀) (F : Fr h₀ L s.heap m) (X : (Mine.hd.heap_39 w.params).In h₀) (N : News h₀ L s.heap (pre ++ fam x dx vs n hh kt it i ps qs)) (T : Top p loose mean mg mb h₀) (P : PreOk x dx pre) (hk : cs.kind = .function) (hd : dp + 1 < recursionLimit) (hu : un + 8 < cLine)
    (hz : vs.length ≤ 1000) (hr0 : 0 ≤ r) (hr1 : r ≤ vs.length)
    (hret : ∀ q h' tk' n', Fr h₀ L h' m → News h₀ L h' (pre ++ fam x dx (vs.take r.toNat) n' hh kt it i ps qs) → h'.IsList q (vs.drop r.toNat).toArray → Q (.ref q) { s with heap := h', toks := tk' }) :
    wpAny (model PySem.Challenge.rw_re0059_01.prog w) (ktrTop dp un gd cn cs L a ccd cl outer) (call (.ref 53) [.ref x, .int r t]) Q E s := by
  have ne := fam_ne N
  have N0 := fam_sub N
  refine pop_from_spec B F X T hk hd hu (fam_two N0) ne.1.1 hz hr0 hr1 fun q h' tk' k H hq => ?_
  · obtain ⟨n', H⟩ := H
    have k7 : h'.get? 70 = some (tabObj ps) := k 70 _ (by simp only [List.mem_cons, List.not_mem_nil, or_false, not_or]; exact ⟨fun e => ne.1.2.1 e.symm, fun e => ne.2.1 e.symm⟩) (N0 (70, _) (by simp)).1
    have k6 : h'.get? 63 = some (tabObj qs) := k 63 _ (by simp only [List.mem_cons, List.not_mem_nil, or_false, not_or]; exact ⟨fun e => ne.1.2.2 e.symm, fun e => ne.2.2 e.symm⟩) (N0 (63, _) (by simp)).1
    obtain ⟨F', N'⟩ := fam_step (n' := n') (it' := it) F N P (k.mono (by simp)) (has_cons (H.get (.head _)) (has_cons (H.get (.tail _ (.head _))) (has2 k7 k6)))
    exact hret _ _ _ _ F' N' ⟨_, H.get (.tail _ (.tail _ (.head _))), rfl, _, rfl⟩
theorem part_led (pre : List (Addr × Obj)) (B : Below A₀ base outer h₀) (F : Fr h₀ L s.heap m) (X : (Mine.hd.heap_39 w.params).In h₀) (N : News h₀ L s.heap (pre ++ fam x dx vs n hh kt it i ps qs)) (T : Top p loose mean mg mb h₀) (hk : cs.kind = .function) (hd : dp + 1 < recursionLimit) (hu : un + 8 < cLine)
    (hz : vs.length ≤ 1000)
    (hret : ∀ h' tk' t, Fr h₀ L h' m → News h₀ L h' (pre ++ fam x dx vs n hh kt it i ps qs) → Q (.int vs.length t) { s with heap := h', toks := tk' }) :
    wpAny (model PySem.Challenge.rw_re0059_01.prog w) (ktrTop dp un gd cn cs L a ccd cl outer) (call (.ref 98) [.ref x]) Q E s := by
  have N0 := fam_sub N
  refine part_count_spec B F X T hk hd hu (fam_two N0) hz fun h' tk' t k => ?_
  · exact hret _ _ _ (Fr.kp F k) (News.kp N k)
variable {Ts : Nat → Addr} {fa fb : Nat → List Nat} {ta tb : Nat → Tok} {t : List Nat} {lo z : Nat}
theorem Pairs.sub {h : Heap} (P : Pairs h t.length Ts fa fb ta tb) (hz : lo + z ≤ t.length) : Pairs h (pv Ts lo z).length (fun k => Ts (lo + k)) (fun k => fa (lo + k)) (fun k => fb (lo + k)) (fun k => ta (lo + k)) (fun k => tb (lo + k)) :=
  fun k hk => P (lo + k) (by rw [pv_len] at hk; omega)
theorem str_led (pre : List (Addr × Obj)) (B : Below A₀ base outer h₀) (F : Fr h₀ L s.heap m) (X : (Mine.hd.heap_39 w.params).In h₀) (N : News h₀ L s.heap (pre ++ fam x dx (pv Ts lo z) n hh kt it i ps qs)) (T : Top p loose mean mg mb h₀) (P : PreOk x dx pre) (hk : cs.kind = .function) (hd : dp + 1 < recursionLimit) (hu : un + 8 < cLine)
    (htr : TriplesOk ps.toList) (hB : AllBare s.gens) (hTu : Pairs h₀ t.length Ts fa fb ta tb) (hf : ∀ k, (fa k).length + (fb k).length ≤ 1) (hft : ∀ k, k < t.length → fa k ++ fb k = [t.getD k 0]) (hz : lo + z ≤ t.length) (h8 : t.length ≤ 8)
    (hret : ∀ s' ps' t', Fr h₀ L s'.heap m → News h₀ L s'.heap (pre ++ fam x dx (pv Ts lo z) n hh kt it i ps' qs) → TriplesOk ps'.toList → AllBare s'.gens → s'.os = s.os → Q (.str (S ((t.drop lo).take z)) t') s') :
    wpAny (model PySem.Challenge.rw_re0059_01.prog w) (ktrTop dp un gd cn cs L a ccd cl outer) (call (.ref 75) [.ref x]) Q E s := by
  have ne := fam_ne N
  have N0 := fam_sub N
  refine str_spec (Ts := fun k => Ts (lo + k)) (fa := fun k => fa (lo + k)) (fb := fun k => fb (lo + k)) (ta := fun k => ta (lo + k)) (tb := fun k => tb (lo + k)) B F X T hk hd hu (fam_str N0) (by rw [pv_len]; omega) htr hB (fun k hk => pv_get _ _ _ _ (by rw [pv_len] at hk; exact hk)) (Pairs.sub (hTu.kp F.keep) hz) (fun k => hf _) fun s' ps' t' k e7 tr' b' o' => ?_
  · have kx : s'.heap.get? x = some (accObj dx (pv Ts lo z) n) := k x _ (by simp only [List.mem_cons, List.not_mem_nil, or_false]; exact ne.1.2.1) (N0 (x, _) (by simp)).1
    have kd := k dx _ (by simp only [List.mem_cons, List.not_mem_nil, or_false]; exact ne.2.1) (N0 (dx, _) (.tail _ (.head _))).1
    have k6 : s'.heap.get? 63 = some (tabObj qs) := k 63 _ (by simp) (N0 (63, _) (by simp)).1
    obtain ⟨F', N'⟩ := fam_step F N P (k.mono (by simp)) (has_cons kx (has_cons kd (has2 e7 k6)))
    have e : ((List.range (pv Ts lo z).length).map fun k => fa (lo + k) ++ fb (lo + k)).flatten = (t.drop lo).take z := by
      rw [pv_len]; exact flat_sub (f := fun k => fa k ++ fb k) hft z lo hz
    have h2 := hret s' ps' t' F' N' tr' b' o'
    rw [← e] at h2; exact h2
theorem len_led (pre : List (Addr × Obj)) (B : Below A₀ base outer h₀) (F : Fr h₀ L s.heap m) (X : (Mine.hd.heap_39 w.params).In h₀) (N : News h₀ L s.heap (pre ++ fam x dx (pv Ts lo z) n hh kt it 0 ps qs)) (T : Top p loose mean mg mb h₀) (P : PreOk x dx pre) (hk : cs.kind = .function) (hd : dp + 1 < recursionLimit) (hu : un + 8 < cLine)
    (htr : TriplesOk qs.toList) (hB : AllBare s.gens) (hTu : Pairs h₀ t.length Ts fa fb ta tb) (hf : ∀ k, (fa k).length + (fb k).length ≤ 1) (hft : ∀ k, k < t.length → fa k ++ fb k = [t.getD k 0]) (hz : lo + z ≤ t.length) (h8 : t.length ≤ 8)
    (hret : ∀ s' qs' t', Fr h₀ L s'.heap m → News h₀ L s'.heap (pre ++ fam x dx (pv Ts lo z) n hh kt it 0 ps qs') → TriplesOk qs'.toList → AllBare s'.gens → s'.os = s.os → Q (.int z t') s') :
    wpAny (model PySem.Challenge.rw_re0059_01.prog w) (ktrTop dp un gd cn cs L a ccd cl outer) (call (.ref 68) [.ref x]) Q E s := by
  have ne := fam_ne N
  have N0 := fam_sub N
  refine len_spec (Ts := fun k => Ts (lo + k)) (fa := fun k => fa (lo + k)) (fb := fun k => fb (lo + k)) (ta := fun k => ta (lo + k)) (tb := fun k => tb (lo + k)) B F X T hk hd hu (fam_len N0) (by rw [pv_len]; omega) htr hB (fun k hk => pv_get _ _ _ _ (by rw [pv_len] at hk; exact hk)) (Pairs.sub (hTu.kp F.keep) hz) (fun k => hf _) fun s' ps' t' k e7 tr' b' o' => ?_
  · have kx : s'.heap.get? x = some (accObj dx (pv Ts lo z) n) := k x _ (by simp only [List.mem_cons, List.not_mem_nil, or_false]; exact ne.1.2.2) (N0 (x, _) (by simp)).1
    have kd := k dx _ (by simp only [List.mem_cons, List.not_mem_nil, or_false]; exact ne.2.2) (N0 (dx, _) (.tail _ (.head _))).1
    have k6 : s'.heap.get? 70 = some (tabObj ps) := k 70 _ (by simp) (N0 (70, _) (by simp)).1
    obtain ⟨F', N'⟩ := fam_step F N P (k.mono (by simp)) (has_cons kx (has_cons kd (has2 k6 e7)))
    have e : preSum (fun k => (((fa (lo + k)).length + (fb (lo + k)).length : Nat) : Int)) (pv Ts lo z).length = z := by
      rw [pv_len]
      refine sum_ones z fun k hk => ?_
      have := congrArg List.length (hft (lo + k) (by omega))
      rw [List.length_append] at this
      simp only [List.length_singleton] at this
      omega
    have h2 := hret s' ps' t' F' N' tr' b' o'
    rw [← e] at h2; exact h2
end
end Mine
end

section
namespace Mine
open Builtin Builtin.Str StrLaws
theorem clip_some (i : Int) (n : Nat) : max 0 (min (if i < 0 then i + n else i) (n : Int)) = (((if i < 0 then n - (-i).toNat else min i.toNat n) : Nat) : Int) := by
  by_cases h : i < 0
  · rw [if_pos h, if_pos h, Int.min_eq_left (Int.add_le_of_le_sub_right (by rw [Int.sub_self]; exact Int.le_of_lt h))]
    obtain ⟨k, e⟩ := Int.eq_ofNat_of_zero_le (Int.neg_nonneg_of_nonpos (Int.le_of_lt h))
    rw [e, show i = -(k : Int) by rw [← e, Int.neg_neg], Int.add_comm, ← Int.sub_eq_add_neg]
    show max 0 ((n : Int) - k) = ((n - k : Nat) : Int)
    omega
  · rw [if_neg h, if_neg h]
    obtain ⟨k, rfl⟩ := Int.eq_ofNat_of_zero_le (Int.not_lt.mp h)
    rw [Int.toNat_natCast]
    rcases Nat.le_total k n with h | h
    · rw [Nat.min_eq_left h, Int.min_eq_left (Int.ofNat_le.mpr h)]
      exact Int.max_eq_right (Int.natCast_nonneg _)
    · rw [Nat.min_eq_right h, Int.min_eq_right (Int.ofNat_le.mpr h)]
      exact Int.max_eq_right (Int.natCast_nonneg _)
theorem clip_le (i : Int) (n : Nat) : (if i < 0 then n - (-i).toNat else min i.toNat n) ≤ n := by
  split
  · exact Nat.sub_le _ _
  · exact Nat.min_le_right _ _
theorem clip_lo (l : Option Int) (n : Nat) : (match l with | none => (0 : Int) | some i => max 0 (min (if i < 0 then i + n else i) (n : Int))) = ((kms_lo l n : Nat) : Int) := by
  cases l with
  | none => rfl
  | some i => exact clip_some i n
theorem clip_hi (l : Option Int) (n : Nat) : (match l with | none => (n : Int) | some i => max 0 (min (if i < 0 then i + n else i) (n : Int))) = ((kms_hi l n : Nat) : Int) := by
  cases l with
  | none => rfl
  | some i => exact clip_some i n
theorem kms_hi_le (l : Option Int) (n : Nat) : kms_hi l n ≤ n := by
  cases l with
  | none => exact Nat.le_refl _
  | some i => exact clip_le i n
theorem kms_lo_le (l : Option Int) (n : Nat) : kms_lo l n ≤ n := by
  cases l with
  | none => exact Nat.zero_le _
  | some i => exact clip_le i n
theorem idx_S (l u : Option Int) (n : Nat) : strSliceIndices l u 1 n = (List.range (kms_hi u n - kms_lo l n)).map (fun k => kms_lo l n + k) := by
  have e : strSliceIndices l u 1 n = sliceRange ((kms_lo l n : Nat) : Int) ((kms_hi u n : Nat) : Int) 1 := by
    rw [← clip_lo, ← clip_hi]
    unfold strSliceIndices
    simp only [show (1 : Int) > 0 from by decide, if_true]
    cases l <;> cases u <;> rfl
  rw [e, sliceRange_one]
theorem slice_S (t : List Nat) (l u : Option Int) : Txt.slice (S t) l u = S ((t.drop (kms_lo l t.length)).take (kms_hi u t.length - kms_lo l t.length)) := by
  have h1 := kms_hi_le u t.length
  have h2 := kms_lo_le l t.length
  unfold Txt.slice
  rw [S_len, idx_S]
  split
  · rename_i h
    simp only [List.length_map, List.length_range, beq_self_eq_true, Bool.true_and, beq_iff_eq] at h
    have e1 : kms_lo l t.length = 0 ∧ kms_hi u t.length = t.length ∨ t = [] := by
      cases t with
      | nil => exact .inr rfl
      | cons a r => left; simp only [List.length_cons] at *; omega
    rcases e1 with ⟨e1, e2⟩ | rfl
    · rw [e1, e2]; simp
    · simp
  · congr 1
    exact congrArg List.toArray (pick_run (S t).cps (kms_lo l t.length) (kms_hi u t.length - kms_lo l t.length))
/-- slices by bounds that are not negative -/
theorem lo_pos (a n : Nat) : kms_lo (some (a : Int)) n = min a n := by
  dsimp only [kms_lo]; rw [if_neg (Int.not_lt.mpr (Int.natCast_nonneg a)), Int.toNat_natCast]
theorem hi_pos (a n : Nat) : kms_hi (some (a : Int)) n = min a n := by
  dsimp only [kms_hi]; rw [if_neg (Int.not_lt.mpr (Int.natCast_nonneg a)), Int.toNat_natCast]
theorem drop_min (t : List Nat) (a : Nat) : t.drop (min a t.length) = t.drop a := by
  rcases Nat.le_total a t.length with h | h
  · rw [Nat.min_eq_left h]
  · rw [Nat.min_eq_right h, List.drop_length, List.drop_eq_nil_of_le h]
theorem take_min (t : List Nat) (b : Nat) : t.take (min b t.length) = t.take b := by
  rcases Nat.le_total b t.length with h | h
  · rw [Nat.min_eq_left h]
  · rw [Nat.min_eq_right h, List.take_length, List.take_of_length_le h]
theorem slice_ss (t : List Nat) {a b : Int} (ha : 0 ≤ a) (hb : 0 ≤ b) : Txt.slice (S t) (some a) (some b) = S ((t.take b.toNat).drop a.toNat) := by
  obtain ⟨a, rfl⟩ := Int.eq_ofNat_of_zero_le ha
  obtain ⟨b, rfl⟩ := Int.eq_ofNat_of_zero_le hb
  rw [slice_S, lo_pos, hi_pos, Int.toNat_natCast, Int.toNat_natCast, ← List.drop_take, take_min]
  rcases Nat.le_total a t.length with h | h
  · rw [Nat.min_eq_left h]
  · rw [Nat.min_eq_right h, List.drop_eq_nil_of_le (List.length_take_le' _ _), List.drop_eq_nil_of_le (Nat.le_trans (List.length_take_le' _ _) h)]
theorem slice_sn (t : List Nat) {a : Int} (ha : 0 ≤ a) : Txt.slice (S t) (some a) none = S (t.drop a.toNat) := by
  obtain ⟨a, rfl⟩ := Int.eq_ofNat_of_zero_le ha
  rw [slice_S, lo_pos, Int.toNat_natCast, ← List.drop_take]
  show S ((t.take t.length).drop _) = _
  rw [List.take_length, drop_min]
theorem slice_ns (t : List Nat) {b : Int} (hb : 0 ≤ b) : Txt.slice (S t) none (some b) = S (t.take b.toNat) := by
  obtain ⟨b, rfl⟩ := Int.eq_ofNat_of_zero_le hb
  rw [slice_S, hi_pos, Int.toNat_natCast]
  show S ((t.drop 0).take (_ - 0)) = _
  rw [Nat.sub_zero, List.drop_zero, take_min]
end Mine
end

section
set_option maxRecDepth 100000
set_option maxHeartbeats 4000000
namespace Mine
theorem nl_S : Str.ofString "\n" = S [10] := by decide +kernel
/-- no entry of the list lies at one of the lexer's three turning objects -/
noncomputable def PreL (x : Lx) : List (Addr × Obj) → Prop
  | [] => True
  | p :: r => ((@Ne Nat p.1 x.pb) ∧ (@Ne Nat p.1 x.dM) ∧ (@Ne Nat p.1 x.atl)) ∧ PreL x r
theorem PreL.mem {x : Lx} : ∀ {l : List (Addr × Obj)}, PreL x l → ∀ p ∈ l, p.1 ∉ [x.pb, x.dM, x.atl]
  | [], _, _, h => nomatch h
  | _ :: _, y, p, h => by
    rcases List.mem_cons.mp h with rfl | h
    · intro hm
      simp only [List.mem_cons, List.not_mem_nil, or_false] at hm
      rcases hm with e | e | e
      · exact y.1.1 e
      · exact y.1.2.1 e
      · exact y.1.2.2 e
    · exact PreL.mem y.2 p h
section
variable {h₀ h h' : Heap} {L : Addr} {m : Str → Option Value} {x : Lx} {i i' : Int} {it it' kt kt' : Tok} {q q' : List Value} {nq nq' k k' na na' : Nat} {pre : List (Addr × Obj)}
theorem lx_step (F : Fr h₀ L h m) (N : News h₀ L h (pre ++ x.led i it q nq k kt na)) (P : PreL x pre) (kp : KpBut [x.pb, x.dM, x.atl] h h') (H : Has h' (x.led i' it' q' nq' k' kt' na')) :
    Fr h₀ L h' m ∧ News h₀ L h' (pre ++ x.led i' it' q' nq' k' kt' na') := by
  have inn : ∀ b ∈ [x.pb, x.dM, x.atl], ∃ o, (b, o) ∈ pre ++ x.led i it q nq k kt na := by
    intro b hb
    simp only [List.mem_cons, List.not_mem_nil, or_false] at hb
    rcases hb with rfl | rfl | rfl
    · exact ⟨_, List.mem_append_right _ (.head _)⟩
    · exact ⟨_, List.mem_append_right _ (.tail _ (.tail _ (.head _)))⟩
    · exact ⟨_, List.mem_append_right _ (.tail _ (.tail _ (.tail _ (.tail _ (.tail _ (.tail _ (.tail _ (.head _))))))))⟩
  have inL : ∀ p ∈ x.led i' it' q' nq' k' kt' na', ∃ o, (p.1, o) ∈ x.led i it q nq k kt na := by
    intro p hp
    simp only [Lx.led, List.mem_cons, List.not_mem_nil, or_false] at hp
    rcases hp with rfl | rfl | rfl | rfl | rfl | rfl | rfl | rfl | rfl | rfl
    · exact ⟨_, .head _⟩
    · exact ⟨_, .tail _ (.head _)⟩
    · exact ⟨_, .tail _ (.tail _ (.head _))⟩
    · exact ⟨_, .tail _ (.tail _ (.tail _ (.head _)))⟩
    · exact ⟨_, .tail _ (.tail _ (.tail _ (.tail _ (.head _))))⟩
    · exact ⟨_, .tail _ (.tail _ (.tail _ (.tail _ (.tail _ (.head _)))))⟩
    · exact ⟨_, .tail _ (.tail _ (.tail _ (.tail _ (.tail _ (.tail _ (.head _))))))⟩
    · exact ⟨_, .tail _ (.tail _ (.tail _ (.tail _ (.tail _ (.tail _ (.tail _ (.head _)))))))⟩
    · exact ⟨_, .tail _ (.tail _ (.tail _ (.tail _ (.tail _ (.tail _ (.tail _ (.tail _ (.head _))))))))⟩
    · exact ⟨_, .tail _ (.tail _ (.tail _ (.tail _ (.tail _ (.tail _ (.tail _ (.tail _ (.tail _ (.head _)))))))))⟩
  refine ⟨Fr.step F N kp inn, News.step N kp fun p hp => ?_⟩
  rcases List.mem_append.mp hp with hp | hp
  · exact .inl ⟨List.mem_append_left _ hp, P.mem p hp⟩
  · obtain ⟨o, ho⟩ := inL p hp
    exact .inr ⟨H p hp, o, List.mem_append_right _ ho⟩
theorem lx_back {g : Heap} (H : Hid ((x.led i it q nq k kt na).map (·.1)) h g) (kK : Kp g h') (hs : Has h (x.led i it q nq k kt na)) (hs' : Has h' (x.led i' it' q' nq' k' kt' na')) : KpBut [x.pb, x.dM, x.atl] h h' := by
  refine kpBut_back H kK hs fun p hp => ?_
  simp only [Lx.led, List.mem_cons, List.not_mem_nil, or_false] at hp
  rcases hp with rfl | rfl | rfl | rfl | rfl | rfl | rfl | rfl | rfl | rfl
  · exact .inl (.head _)
  · exact .inr (hs'.get (.tail _ (.head _)))
  · exact .inl (.tail _ (.head _))
  · exact .inr (hs'.get (.tail _ (.tail _ (.tail _ (.head _)))))
  · exact .inr (hs'.get (.tail _ (.tail _ (.tail _ (.tail _ (.head _))))))
  · exact .inr (hs'.get (.tail _ (.tail _ (.tail _ (.tail _ (.tail _ (.head _)))))))
  · exact .inr (hs'.get (.tail _ (.tail _ (.tail _ (.tail _ (.tail _ (.tail _ (.head _))))))))
  · exact .inl (.tail _ (.tail _ (.head _)))
  · exact .inr (hs'.get (.tail _ (.tail _ (.tail _ (.tail _ (.tail _ (.tail _ (.tail _ (.tail _ (.head _))))))))))
  · exact .inr (hs'.get (.tail _ (.tail _ (.tail _ (.tail _ (.tail _ (.tail _ (.tail _ (.tail _ (.tail _ (.head _)))))))))))
theorem has_led {i : Int} {it : Tok} {q : List Value} {nq k : Nat} {kt : Tok} {na : Nat} (a1 : h.get? x.pb = some (W.listOf q.toArray nq)) (a2 : h.get? x.M = some (instObj 150 x.dM))
    (a3 : h.get? x.dM = some (dictOf [⟨x.h1, .str (Str.ofString "lineno") x.k1, .int i it⟩, ⟨x.h2, .str (Str.ofString "instream") x.k2, .ref x.fS⟩, ⟨x.h3, .str (Str.ofString "whitespace") x.k3, .str (Str.ofString "\n\t\r ") x.kw⟩, ⟨x.h4, .str (Str.ofString "pushback") x.k4, .ref x.pb⟩] 4))
    (a4 : h.get? x.dS = some (dictOf [⟨x.h5, .str (Str.ofString "read") x.k5, .ref x.fR⟩] 1)) (a5 : h.get? x.fS = some (fnObj (some x.dS) x.fdS #[])) (a6 : h.get? x.fR = some (fnObj none x.fdR #[])) (a7 : h.get? x.cR = some x.ocR) (a8 : h.get? x.atl = some (W.listOf #[.int (k : Int) kt] na))
    (a9 : h.get? x.cA = some x.oA) (a10 : h.get? x.cT = some x.oT) : Has h (x.led i it q nq k kt na) :=
  has_cons a1 (has_cons a2 (has_cons a3 (has_cons a4 (has_cons a5 (has_cons a6 (has_cons a7 (has_cons a8 (has2 a9 a10))))))))
end
section
variable {w : World} {p : Program} {loose : List Str} {mean : ExcName → Option Value} {mg mb : Str → Option Value} {dp un : Nat} {gd : Option (List Code)} {cn : Str} {cs : Scope} {a : Addr} {ccd : Value} {cl : List (Str × Addr)} {outer : List Env} {A₀ : Around} {base h₀ : Heap} {L : Addr} {m : Str → Option Value} {s : Shared} {Q E : Value → Shared → Prop}
  {x : Lx} {i : Int} {it kt ot : Tok} {q : List Value} {nq k na : Nat}
theorem read_led (B : Below A₀ base outer h₀) (F : Fr h₀ L s.heap m) (X : (Mine.hd.heap_39 w.params).In h₀) (N : News h₀ L s.heap (x.led i it q nq k kt na)) (T : Top p loose mean mg mb h₀) (O : x.Ok w) (hk : cs.kind = .function) (hd : dp + 1 < recursionLimit) (hu : un + 16 < cLine) (hkt : k ≤ x.t.length)
    (hret : ∀ h' tk' kt' na' t', Fr h₀ L h' m → News h₀ L h' (x.led i it q nq (k + ((x.t.drop k).take 1).length) kt' na') → Q (.str (S ((x.t.drop k).take 1)) t') { s with heap := h', toks := tk' }) :
    wpAny (model PySem.Challenge.rw_re0059_01.prog w) (ktrTop dp un gd cn cs L a ccd cl outer) (call (.ref x.fR) [.int 1 ot]) Q E s := by
  have NR : News h₀ L s.heap [(x.fR, fnObj none x.fdR #[]), (x.cR, x.ocR), (x.atl, W.listOf #[.int (k : Int) kt] na), (x.cA, x.oA), (x.cT, x.oT)] := News.sub N fun p hp => by
    simp only [List.mem_cons, List.not_mem_nil, or_false] at hp
    rcases hp with rfl | rfl | rfl | rfl | rfl
    · exact .tail _ (.tail _ (.tail _ (.tail _ (.tail _ (.head _)))))
    · exact .tail _ (.tail _ (.tail _ (.tail _ (.tail _ (.tail _ (.head _))))))
    · exact .tail _ (.tail _ (.tail _ (.tail _ (.tail _ (.tail _ (.tail _ (.head _)))))))
    · exact .tail _ (.tail _ (.tail _ (.tail _ (.tail _ (.tail _ (.tail _ (.tail _ (.head _))))))))
    · exact .tail _ (.tail _ (.tail _ (.tail _ (.tail _ (.tail _ (.tail _ (.tail _ (.tail _ (.head _)))))))))
  refine O.read B F X T hk hd hu NR hkt fun h' tk' kt' na' t' kp e => ?_
  have o := O.ord
  unfold Lx.Ord at o
  have nw : ∀ {b : Addr} {ob : Obj}, (b, ob) ∈ x.led i it q nq k kt na → (@Ne Nat b x.atl) → h'.get? b = some ob := fun {b ob} hm hne => kp b ob (by simp only [List.mem_singleton]; exact hne) (N _ hm).1
  obtain ⟨F', N'⟩ := lx_step (pre := []) (i' := i) (it' := it) (q' := q) (nq' := nq) (k' := k + ((x.t.drop k).take 1).length) (kt' := kt') (na' := na') F N trivial (kp.mono (by simp)) (has_led (nw (.head _) (neN (by omega))) (nw (.tail _ (.head _)) (neN (by omega))) (nw (.tail _ (.tail _ (.head _))) (neN (by omega))) (nw (.tail _ (.tail _ (.tail _ (.head _)))) (neN (by omega)))
      (nw (.tail _ (.tail _ (.tail _ (.tail _ (.head _))))) (neN (by omega))) (nw (.tail _ (.tail _ (.tail _ (.tail _ (.tail _ (.head _)))))) (neN (by omega))) (nw (.tail _ (.tail _ (.tail _ (.tail _ (.tail _ (.tail _ (.head _))))))) (neN (by omega))) e
      (nw (.tail _ (.tail _ (.tail _ (.tail _ (.tail _ (.tail _ (.tail _ (.tail _ (.head _))))))))) (neN (by omega))) (nw (.tail _ (.tail _ (.tail _ (.tail _ (.tail _ (.tail _ (.tail _ (.tail _ (.tail _ (.head _)))))))))) (neN (by omega))))
  exact hret h' tk' kt' na' t' F' N'
end
end Mine
end

section
set_option maxRecDepth 100000
set_option maxHeartbeats 8000000
namespace Mine
section
variable {w : World} {p : Program} {loose : List Str} {mean : ExcName → Option Value} {mg mb : Str → Option Value} {dp un : Nat} {gd : Option (List Code)} {cn : Str} {cs : Scope} {a : Addr} {ccd : Value} {cl : List (Str × Addr)} {outer : List Env} {A₀ : Around} {base h₀ : Heap} {L : Addr} {m : Str → Option Value} {s : Shared} {Q E : Value → Shared → Prop}
theorem rc_code (B : Below A₀ base outer h₀) (F : Fr h₀ L s.heap m) (X : (Mine.hd.heap_39 w.params).In h₀) (T : Top p loose mean mg mb h₀) (hk : cs.kind = .function) (hd : dp + 2 < recursionLimit) (hu : un + 40 < cLine)
    {x : Lx} {i : Int} {it kt : Tok} {q : List Value} {nq k na : Nat} (N : News h₀ L s.heap (x.led i it q nq k kt na)) (O : x.Ok w) (hkt : k ≤ x.t.length)
    (hret : ∀ h' tk' it' kt' na' t', KpBut [x.pb, x.dM, x.atl] s.heap h' → Has h' (x.led (if (x.t.drop k).take 1 = [10] then i + 1 else i) it' q nq (k + ((x.t.drop k).take 1).length) kt' na') → Q (.str (S ((x.t.drop k).take 1)) t') { s with heap := h', toks := tk' }) :
    codeAny (model PySem.Challenge.rw_re0059_01.prog w) (ktrTop dp un gd cn cs L a ccd cl outer) (.call (.ref 133) ⟨[.ref x.M], []⟩) (fun r s' => match r with | .ok (.ret v) => Q v s' | .ok _ => False | .error e => E e s') s := by
  k_with_none
  w_top off
  k_with "lt" => (first | (with_reducible assumption) | (apply And.left; (first | (with_reducible assumption) | (apply And.right; (first | (with_reducible assumption) | (apply And.right; (first | (with_reducible assumption) | (apply And.right; (first | (with_reducible assumption) | (apply And.right; (first | (with_reducible assumption) | (apply And.right; (first | (with_reducible assumption) | (apply And.right; (first | (with_reducible assumption) | (apply And.right; (first | (with_reducible assumption) | (apply And.right; (first | (with_reducible assumption) | (apply And.right; (first | (with_reducible assumption) | (apply And.right; (first | (with_reducible assumption) | (apply And.right; (first | (with_reducible assumption) | (apply And.right; (first | (with_reducible assumption) | (apply And.right; (first | (with_reducible assumption) | (apply And.right; (first | (with_reducible assumption) | (apply And.right; (first | (with_reducible assumption) | (apply And.right; (first | (with_reducible assumption) | (apply And.right; (first | (with_reducible assumption) | (apply And.right; (first | (with_reducible assumption) | (apply And.right; (first | (with_reducible assumption) | (apply And.right; (first | (with_reducible assumption) | (apply And.right; (first | (with_reducible assumption) | (apply And.right; (first | (with_reducible assumption) | (apply And.right; (first | (with_reducible assumption) | (apply And.right; (first | (with_reducible assumption) | (apply And.right; (with_reducible assumption)))))))))))))))))))))))))))))))))))))))))))))))))))) | (apply And.right; (first | (with_reducible assumption) | (apply And.right; (first | (with_reducible assumption) | (apply And.right; (first | (with_reducible assumption) | (apply And.right; (first | (with_reducible assumption) | (apply And.right; (first | (with_reducible assumption) | (apply And.right; (first | (with_reducible assumption) | (apply And.right; (first | (with_reducible assumption) | (apply And.right; (first | (with_reducible assumption) | (apply And.right; (first | (with_reducible assumption) | (apply And.right; (first | (with_reducible assumption) | (apply And.right; (first | (with_reducible assumption) | (apply And.right; (first | (with_reducible assumption) | (apply And.right; (first | (with_reducible assumption) | (apply And.right; (first | (with_reducible assumption) | (apply And.right; (first | (with_reducible assumption) | (apply And.right; (first | (with_reducible assumption) | (apply And.right; (first | (with_reducible assumption) | (apply And.right; (first | (with_reducible assumption) | (apply And.right; (first | (with_reducible assumption) | (apply And.right; (first | (with_reducible assumption) | (apply And.right; (first | (with_reducible assumption) | (apply And.right; (first | (with_reducible assumption) | (apply And.right; (first | (with_reducible assumption) | (apply And.right; (first | (with_reducible assumption) | (apply And.right; (first | (with_reducible assumption) | (apply And.right; (with_reducible assumption)))))))))))))))))))))))))))))))))))))))))))))))))))))
  k_with "k_ne" => (refine neN ?_; (try dsimp only); first | k_extra "lt" | (refine Ne.symm ?_; k_extra "lt") | (refine Nat.ne_of_lt ?_; k_extra "lt") | (refine Nat.ne_of_gt ?_; k_extra "lt") | (refine Nat.ne_of_lt (Nat.lt_add_right _ ?_); k_extra "lt") | (refine Nat.ne_of_gt (Nat.lt_add_right _ ?_); k_extra "lt") | (refine Nat.ne_of_lt (Nat.lt_add_right _ (Nat.lt_add_right _ ?_)); k_extra "lt") | (refine Nat.ne_of_gt (Nat.lt_add_right _ (Nat.lt_add_right _ ?_)); k_extra "lt") | (refine cell_ne2 ?_; decide) | (refine cell_ne ?_; k_extra "lt") | (refine Ne.symm (cell_ne ?_); k_extra "lt"))
  k_with "cell_enter" => ((refine' enterQ ?k1 ?k2 ?k3 ?k4 ?k5 ?kA ?kF ?kK ?k6 ?k7 ?k8 ?k9 ?kB ?_ ?c2 ?c3 ?c4 ?c5; (case kA => exact rfl); (case kF => exact rfl); (case kK => assumption); (case k1 => k_asm); (case k2 => k_asm); (case k3 => k_asm); (case k4 => k_asm); (case k5 => k_asm); (case k6 => k_is); (case k7 => k_is); (case k8 => ktr_room); (case k9 => first | exact BindsTo.of_eq rfl | exact binds_K (by k_in) rfl (by k_is) rfl rfl rfl); (case c5 => decide); (case kB => exact locs rfl); (case c2 => exact rfl); (case c3 => exact rfl); (case c4 => exact rfl); k_whole; intro P9 hP9 g' L' h' H' F' N' B' X' T' l'; (try dsimp only); (try k_lt l'); (try k_fold)); (try (revert P9 hP9 g' L' h' H' F' N' B' X' T' l'; set_option tactic.hygienic true in intros)))
  k_with "LeaveQ" => ((k_dflt (refine' leaveQ ?kP ?k1 ?k2 ?_; (case kP => assumption); (case k1 => k_asm); (case k2 => k_asm); k_whole); intro kK kH; (try dsimp only)); (try (revert kK kH; set_option tactic.hygienic true in intros)))
  k_with "getMethod ref" => ((k_here; k_dflt (refine' meth_fn ?q9N ?q9a ?q9b ?_; (case q9N => k_asm); (case q9a => k_mem); (case q9b => k_mem); k_whole)))
  k_with "callWith ref" => ((k_here; k_dflt (refine' callWith_F ?q9a ?_; (case q9a => exact FnAt.of (by k_asm) (by k_mem)); k_whole)))
  k_with "call ref" => ((k_here; (try dsimp only [List.cons_append, List.nil_append, List.append_nil]); (with_reducible show wpAny _ _ (call (Value.ref (Lx.fR _)) _) _ _ _); k_dflt (refine' read_led ?q9B ?q9F ?q9X ?q9N ?q9T ?q9O ?q9k ?q9d ?q9u ?q9z ?_; (case q9B => k_asm); (case q9F => k_asm); (case q9X => k_asm); (case q9N => k_asm); (case q9T => k_asm); (case q9O => assumption); (case q9k => exact rfl); (case q9d => ktr_room); (case q9u => ktr_units); (case q9z => assumption); k_whole); intro h' tk' kt' na' t' F' N'; (try dsimp only [Lx.led] at N'); (try k_sweep)); (try (revert h' tk' kt' na' t' F' N'; set_option tactic.hygienic true in intros)))
  revert X; k_fill; intro X
  have o := O.ord
  unfold Lx.Ord at o
  k_dflt cell_enter
  rename Hid _ _ _ => H
  w_strict (k_steps)
  all_goals (rename Kp _ _ => kK; rename Has _ _ => kH)
  · have hc : (S ((x.t.drop k).take 1) == Str.ofString "\n") = true := by assumption
    rw [nl_S, S_beq, beq_iff_eq] at hc
    simp only [if_pos hc] at hret
    have h9 := has_led (x := x) (kH.get (by k_mem)) (kH.get (by k_mem)) (kH.get (by k_mem)) (kH.get (by k_mem)) (kH.get (by k_mem)) (kH.get (by k_mem)) (kH.get (by k_mem)) (kH.get (by k_mem)) (kH.get (by k_mem)) (kH.get (by k_mem))
    exact hret _ _ _ _ _ _ (lx_back H kK (News.has N) h9) h9
  · have hc : (S ((x.t.drop k).take 1) == Str.ofString "\n") = false := by assumption
    rw [nl_S, S_beq, beq_eq_false_iff_ne] at hc
    simp only [if_neg hc] at hret
    have h9 := has_led (x := x) (kH.get (by k_mem)) (kH.get (by k_mem)) (kH.get (by k_mem)) (kH.get (by k_mem)) (kH.get (by k_mem)) (kH.get (by k_mem)) (kH.get (by k_mem)) (kH.get (by k_mem)) (kH.get (by k_mem)) (kH.get (by k_mem))
    exact hret _ _ _ _ _ _ (lx_back H kK (News.has N) h9) h9
theorem rc_spec (B : Below A₀ base outer h₀) (F : Fr h₀ L s.heap m) (X : (Mine.hd.heap_39 w.params).In h₀) (T : Top p loose mean mg mb h₀) (hk : cs.kind = .function) (hd : dp + 2 < recursionLimit) (hu : un + 40 < cLine)
    {x : Lx} {i : Int} {it kt : Tok} {q : List Value} {nq k na : Nat} (N : News h₀ L s.heap (x.led i it q nq k kt na)) (O : x.Ok w) (hkt : k ≤ x.t.length)
    (hret : ∀ h' tk' it' kt' na' t', KpBut [x.pb, x.dM, x.atl] s.heap h' → Has h' (x.led (if (x.t.drop k).take 1 = [10] then i + 1 else i) it' q nq (k + ((x.t.drop k).take 1).length) kt' na') → Q (.str (S ((x.t.drop k).take 1)) t') { s with heap := h', toks := tk' }) :
    wpAny (model PySem.Challenge.rw_re0059_01.prog w) (ktrTop dp un gd cn cs L a ccd cl outer) (call (.ref 133) [.ref x.M]) Q E s := wpAny_call (rc_code B F X T hk hd hu N O hkt hret)
end
end Mine
end

section
set_option maxRecDepth 100000
set_option maxHeartbeats 4000000
namespace Mine
open PySem.Calls PySem.Builtin PySem.Builtin.ObjectAttr
theorem slot_ciit : Slot "callable_iterator" (Str.ofString "__iter__") "callable_iterator.__iter__" :=
  .of (owner := "callable_iterator") (n := "__iter__") (by rw [typeLookup_type, builtinLookup_eq_fast]; kernel_rfl) (by decide +kernel) (by decide +kernel) (by decide +kernel)
    (by first | exact .inl (by decide +kernel) | exact .inr (by decide +kernel)) (by rw [isSubtype_type]; kernel_rfl)
theorem entry_ciit : entryFor table "callable_iterator.__iter__" = some Builtin.«dict_keyiterator.__iter__» := entryFor_alias (id' := "dict_keyiterator.__iter__") (by kernel_rfl) rfl (by decide +kernel) (by kernel_rfl)
theorem args_ciit (a : Value) : argsOk "callable_iterator.__iter__" ⟨[a], []⟩ := by unfold argsOk; kernel_rfl
section
variable {prog : Program} {w : World} {A : Around} {E : Value → Shared → Prop} {s : Shared}
theorem iter_ci {I bm : Addr} {t : Tok} {Q : Value → Shared → Prop} (hI : s.heap.get? I = some (ciObj bm t)) (h : Q (.ref I) s) : wpAny (model prog w) A (pyIter (.ref I)) Q E s := by
  have hT : s.TypeIs (.ref I) "callable_iterator" := ⟨_, hI, rfl⟩
  refine wpAny_pyIter_slot hT slot_ciit (wpAny_call_entry slot_ciit hT entry_ciit ?_ (args_ciit _))
  show wpAny _ _ (ret (.ref I)) _ _ s
  exact wpAny_pure ⟨_, rfl, "callable_iterator", _, hT, slot_ci.lookup, h⟩

/-- the turns of «for x in fiter» -/
noncomputable def CiTurns (prog : Program) (w : World) (A : Around) (env : Env) (x : Str) (body : List Stmt) (Q : Flow → Shared → Prop) (E : Value → Shared → Prop) (xv : Value) (s₁ : Shared) : Prop :=
  ∃ (I bm : Addr) (t : Tok) (J : Nat → Shared → Prop) (n : Nat), xv = .ref I ∧ s₁.heap.get? I = some (ciObj bm t) ∧ J n s₁ ∧
    ∀ k s, J k s → ∀ T : Flow → Shared → Prop, (∀ f s₃, (match f with
          | .next | .cont => ∃ m, m < k ∧ J m s₃
          | .brk => Q .next s₃
          | .ret v => Q (.ret v) s₃) → T f s₃) → wpAny (model prog w) A (pyNext (.ref I)) (fun r s₁ => match r with
      | none => Q .next s₁
      | some v => wpAny (model prog w) A (storeName env x v) (fun _ s₂ => wpAny (model prog w) A (execs body env) (CiT T) E s₂) E s₁) E s
theorem For_ci {x : Str} {px pos : Pos} {iter : Expr} {body : List Stmt} {env : Env} {Q : Flow → Shared → Prop}
    (h : wpAny (model prog w) A (eval iter env) (CiTurns prog w A env x body Q E) E s)
    (hs : ∀ x, foldedSetIterable iter env x = pure x := by intro _; rfl)
    (hE : PassesOwn (model prog w) A env E := by passes_own) :
    wpAny (model prog w) A (exec (.For (.Name x px) iter body [] pos) env) Q E s := by
  refine wpAny_For (wpAny_mono h (fun xv s₁ h₁ => ?_) fun _ _ e => e) hs
  obtain ⟨I, bm, t, J, n, rfl, hI, h0, step⟩ := h₁
  refine iter_ci hI ?_
  refine codeAny_forLoop J (fun k s hk => wpAny_mono (step k s hk _ fun _ _ z => z) (fun r s₁ hr => ?_) hE) n h0
  cases r with
  | none => exact wpAny_execs_nil hr
  | some v =>
    refine wpAny_assign_Name (wpAny_mono hr (fun _ s₂ h₂ => wpAny_mono h₂ (fun f s₃ h₃ => ?_) hE) hE)
    cases f <;> exact h₃
end
section
variable {w : World} {p : Program} {loose : List Str} {mean : ExcName → Option Value} {mg mb : Str → Option Value} {dp un : Nat} {gd : Option (List Code)} {cn : Str} {cs : Scope} {a : Addr} {ccd : Value} {cl : List (Str × Addr)} {outer : List Env} {A₀ : Around} {base h₀ : Heap} {L : Addr} {m : Str → Option Value} {s : Shared} {E : Value → Shared → Prop}
/-- the lexer's next sign, by the ledger -/
theorem next_lex {x : Lx} {i : Int} {it kt t : Tok} {q : List Value} {nq k na : Nat} {I bm : Addr} {rest : List (Addr × Obj)} {Q : Option Value → Shared → Prop}
    (B : Below A₀ base outer h₀) (F : Fr h₀ L s.heap m) (X : (Mine.hd.heap_39 w.params).In h₀) (N : News h₀ L s.heap ((I, ciObj bm t) :: (bm, methodObj (.ref 133) (.ref x.M)) :: rest ++ x.led i it q nq k kt na)) (T : Top p loose mean mg mb h₀) (O : x.Ok w) (P : PreL x ((I, ciObj bm t) :: (bm, methodObj (.ref 133) (.ref x.M)) :: rest)) (hne : ∀ p ∈ (bm, methodObj (.ref 133) (.ref x.M)) :: rest ++ x.led i it q nq k kt na, p.1 ≠ I) (hk : cs.kind = .function) (hd : dp + 2 < recursionLimit) (hu : un + 50 < cLine)
    (hf : fnIn (Mine.hd.heap_39 w.params) 133 = true) (hkt : k ≤ x.t.length)
    (hsome : ∀ c r h' tk' it' kt' na' t', x.t.drop k = c :: r → Fr h₀ L h' m → News h₀ L h' ((I, ciObj bm t) :: (bm, methodObj (.ref 133) (.ref x.M)) :: rest ++ x.led (if c = 10 then i + 1 else i) it' q nq (k + 1) kt' na') → Q (some (.str (S [c]) t')) { s with heap := h', toks := tk' })
    (hnone : x.t.drop k = [] → ∀ h' tk' it' kt' na', Fr h₀ L h' m → News h₀ L h' ((bm, methodObj (.ref 133) (.ref x.M)) :: rest ++ x.led i it' q nq k kt' na') → Q none { s with heap := h', toks := tk' }) :
    wpAny (model PySem.Challenge.rw_re0059_01.prog w) (ktrTop dp un gd cn cs L a ccd cl outer) (pyNext (.ref I)) Q E s := by
  obtain ⟨oc, od, fd, sl, e133⟩ : ∃ oc od fd sl, (Mine.hd.heap_39 w.params).lookup 133 = some ⟨oc, od, .func fd, sl⟩ := by
    unfold fnIn at hf
    split at hf
    · rename_i oc od fd sl e; exact ⟨oc, od, fd, sl, e⟩
    · cases hf
  have hI := (N _ (.head _)).1
  have hIL := (N _ (.head _)).2.1
  have hI0 := (N _ (.head _)).2.2
  have hb := (N _ (.tail _ (.head _))).1
  have h133 : s.heap.get? 133 = some ⟨oc, od, .func fd, sl⟩ := F.keep _ _ (X _ _ e133)
  refine next_ci rfl hI hb h133 ?_
  refine codeAny_mono (rc_code (E := fun _ _ => False) (dp := dp) (un := un + 1) (gd := gd) (cn := cn) (cs := cs) (L := L) (a := a) (ccd := ccd) (cl := cl) (outer := outer) (Q := fun v s' => s'.heap.get? I = some (ciObj bm t) ∧ s'.heap.get? bm = some (methodObj (.ref 133) (.ref x.M)) ∧ s'.heap.get? 133 = some ⟨oc, od, .func fd, sl⟩ ∧ ∃ l u, v = .str (S l) u ∧ (l ≠ [] → Q (some v) s') ∧ (l = [] → ∀ h', Heap.ExtBut I s'.heap h' → Q none { s' with heap := h' })) B F X T hk hd (by omega) (News.sub N fun q hq => List.mem_append_right _ hq) O hkt fun h' tk' it' kt' na' t' kp H => ?_) fun r s' hr => ?_
  rotate_left
  · rcases r with e | (v | _ | _ | _) <;> first | exact hr | exact hr.elim
  obtain ⟨F', N'⟩ := lx_step F N P kp H
  refine ⟨(N' _ (.head _)).1, (N' _ (.tail _ (.head _))).1, F'.keep _ _ (X _ _ e133), (x.t.drop k).take 1, t', rfl, fun hl => ?_, fun hl h2 hx => ?_⟩
  · cases e : x.t.drop k with
    | nil => rw [e] at hl; exact absurd rfl hl
    | cons c r =>
      rw [e] at N'
      have e1 : (List.take 1 (c :: r)) = [c] := rfl
      rw [e1] at N' ⊢
      have N2 : News h₀ L h' ((I, ciObj bm t) :: (bm, methodObj (.ref 133) (.ref x.M)) :: rest ++ x.led (if c = 10 then i + 1 else i) it' q nq (k + 1) kt' na') := by
        have e2 : (if ([c] : List Nat) = [10] then i + 1 else i) = (if c = 10 then i + 1 else i) := by
          by_cases hc : c = 10
          · rw [if_pos hc, if_pos (by rw [hc])]
          · rw [if_neg hc, if_neg (fun h => hc (List.cons.inj h).1)]
        rw [e2] at N'; exact N'
      exact hsome c r h' tk' it' kt' na' t' e F' N2
  · have e : x.t.drop k = [] := by
      cases e : x.t.drop k with
      | nil => rfl
      | cons c r => rw [e] at hl; cases hl
    rw [e] at N'
    have e2 : ((if (List.take 1 ([] : List Nat)) = [10] then i + 1 else i)) = i := if_neg (by simp)
    rw [e2] at N'
    have N3 : News h₀ L h' ((bm, methodObj (.ref 133) (.ref x.M)) :: rest ++ x.led i it' q nq k kt' na') := fun p hp => N' p (.tail _ hp)
    have hne' : ∀ p ∈ (bm, methodObj (.ref 133) (.ref x.M)) :: rest ++ x.led i it' q nq k kt' na', p.1 ≠ I := fun p hp => by
      rcases List.mem_append.mp hp with hp | hp
      · exact hne p (List.mem_append_left _ hp)
      · have hx : ∃ o, (p.1, o) ∈ x.led i it q nq k kt na := by
          simp only [Lx.led, List.mem_cons, List.not_mem_nil, or_false] at hp
          rcases hp with rfl | rfl | rfl | rfl | rfl | rfl | rfl | rfl | rfl | rfl
          · exact ⟨_, .head _⟩
          · exact ⟨_, .tail _ (.head _)⟩
          · exact ⟨_, .tail _ (.tail _ (.head _))⟩
          · exact ⟨_, .tail _ (.tail _ (.tail _ (.head _)))⟩
          · exact ⟨_, .tail _ (.tail _ (.tail _ (.tail _ (.head _))))⟩
          · exact ⟨_, .tail _ (.tail _ (.tail _ (.tail _ (.tail _ (.head _)))))⟩
          · exact ⟨_, .tail _ (.tail _ (.tail _ (.tail _ (.tail _ (.tail _ (.head _))))))⟩
          · exact ⟨_, .tail _ (.tail _ (.tail _ (.tail _ (.tail _ (.tail _ (.tail _ (.head _)))))))⟩
          · exact ⟨_, .tail _ (.tail _ (.tail _ (.tail _ (.tail _ (.tail _ (.tail _ (.tail _ (.head _))))))))⟩
          · exact ⟨_, .tail _ (.tail _ (.tail _ (.tail _ (.tail _ (.tail _ (.tail _ (.tail _ (.tail _ (.head _)))))))))⟩
        obtain ⟨o, ho⟩ := hx
        exact hne (p.1, o) (List.mem_append_right _ ho)
    refine hnone e h2 tk' it' kt' na' ⟨?_, fun b o eb => hx b o (fun z => by rw [z, hI0] at eb; cases eb) (F'.keep b o eb), F'.above⟩ fun p hp => ⟨hx _ _ (hne' p hp) (N3 p hp).1, (N3 p hp).2⟩
    obtain ⟨o, es, ep, eL, r⟩ := F'.ns
    exact ⟨o, es, ep, hx _ _ (fun z => hIL z.symm) eL, r⟩
end
end Mine
end

section
set_option maxRecDepth 100000
set_option maxHeartbeats 4000000
namespace Mine
structure EBox (P : Prop) : Prop where
  out : P
open PySem.Calls PySem.Builtin
noncomputable def wsb (c : Nat) : Bool := c == 10 || c == 9 || c == 13 || c == 32
/-- a quoted token's rest -/
inductive InQ : List Nat → List Nat → List Nat → List Nat → Prop
  | stop (acc r : List Nat) : InQ acc (34 :: r) acc r
  | esc (acc r out rest : List Nat) (c : Nat) : InQ (acc ++ [c]) r out rest → InQ acc (92 :: c :: r) out rest
  | sign (acc r out rest : List Nat) (c : Nat) : c ≠ 34 → c ≠ 92 → InQ (acc ++ [c]) r out rest → InQ acc (c :: r) out rest
/-- a bare token's rest -/
inductive InB : List Nat → List Nat → List Nat → List Nat → Prop
  | stop (acc r : List Nat) (c : Nat) : wsb c = true → InB acc (c :: r) acc r
  | esc (acc r out rest : List Nat) (c : Nat) : InB (acc ++ [c]) r out rest → InB acc (92 :: c :: r) out rest
  | sign (acc r out rest : List Nat) (c : Nat) : wsb c = false → c ≠ 92 → InB (acc ++ [c]) r out rest → InB acc (c :: r) out rest
/-- a token, from its head -/
inductive Out : List Nat → List Nat → List Nat → Prop
  | eof : Out [] [] []
  | ws (r out rest : List Nat) (c : Nat) : wsb c = true → Out r out rest → Out (c :: r) out rest
  | quote (r out rest : List Nat) : InQ [] r out rest → Out (34 :: r) out rest
  | esc (r out rest : List Nat) (c : Nat) : InB [c] r out rest → Out (92 :: c :: r) out rest
  | sign (r out rest : List Nat) (c : Nat) : wsb c = false → c ≠ 34 → c ≠ 92 → InB [c] r out rest → Out (c :: r) out rest
noncomputable def nl (r : List Nat) : Int := (r.count 10 : Nat)
theorem nl_1 {i a b C : Int} (h : i + a = C) : i + a - b + b = C := by omega
theorem nl_2 {i a b c C : Int} (h : i + a = C) : i + a - b + b - c + c = C := by omega
theorem ms_1 {n k : Nat} (h : k + 1 ≤ n) : n + 1 - (k + 1) < n + 1 - k := by omega
theorem ms_2 {n k : Nat} (h : k + 1 + 1 ≤ n) : n + 1 - (k + 1 + 1) < n + 1 - k := by omega
theorem nl_cons (c : Nat) (r : List Nat) (i : Int) : (if c = 10 then i + 1 else i) = i + nl (c :: r) - nl r := by
  unfold nl
  rw [List.count_cons]
  split
  · rename_i h; subst h; simp; omega
  · rename_i h; simp [h]
theorem drop_next {t : List Nat} {k c : Nat} {r : List Nat} (h : t.drop k = c :: r) : t.drop (k + 1) = r ∧ k + 1 ≤ t.length := by
  constructor
  · have := congrArg List.tail h
    rw [List.tail_drop] at this
    exact this
  · have := congrArg List.length h
    rw [List.length_drop, List.length_cons] at this
    omega
theorem lit34 : Str.ofString "\"" = S [34] := by decide +kernel
theorem lit92 : Str.ofString "\\" = S [92] := by decide +kernel
theorem litws : Str.ofString "\n\t\r " = S [10, 9, 13, 32] := by decide +kernel
theorem S1_ne {c d : Nat} (h : c ≠ d) : S [c] ≠ S [d] := fun e => h (List.cons.inj (S_inj e)).1
noncomputable abbrev gtM (vch vtok : Option Value) (I M : Addr) : Str → Option Value := fun y => if y = Str.ofString "ch" then vch else if y = Str.ofString "token" then vtok else if y = Str.ofString "fiter" then some (.ref I) else List.lookup y [(Str.ofString "self", Value.ref M)]
theorem Fr.as {h₀ h : Heap} {L : Addr} {m m' : Str → Option Value} (F : Fr h₀ L h m) (e : m = m') : Fr h₀ L h m' := e ▸ F
section
variable {prog : Program} {w : World} {A : Around} {E : Value → Shared → Prop} {s : Shared} {t u : Tok} {x y : Str}
theorem eq_t {Q : Value → Shared → Prop} (e : x = y) (h : Q (.bool true) s) : wpAny (model prog w) A (compareOp .Eq (.str x t) (.str y u)) Q E s :=
  PyProof.Rows.eq_str (by rw [e, beq_self_eq_true]; exact h)
theorem eq_f {Q : Value → Shared → Prop} (e : x ≠ y) (h : Q (.bool false) s) : wpAny (model prog w) A (compareOp .Eq (.str x t) (.str y u)) Q E s :=
  PyProof.Rows.eq_str (by rw [beq_eq_false_iff_ne.mpr e]; exact h)
theorem iadd_S {a b : List Nat} {Q : Value → Shared → Prop} (h : a.length + b.length ≤ 1000) (hq : ∀ t' k', Q (.str (S (a ++ b)) t') { s with toks := k' }) : wpAny (model prog w) A (inplaceOp .Add (.str (S a) t) (.str (S b) u)) Q E s :=
  PyProof.Rows.iadd_str (hsz := by rw [S_len, S_len, sizeLine_eq]; omega) (by intro t' k'; rw [S_app]; exact hq t' k')
end
end Mine
namespace Mine
section
variable {prog : Program} {w : World} {A : Around} {E : Value → Shared → Prop} {s : Shared} {t u : Tok} {c : Nat}
theorem in_lit {l : List Nat} {y : Str} {Q : Value → Shared → Prop} (e : y = S l) (h : Q (.bool (decide (c ∈ l))) s) : wpAny (model prog w) A (compareOp .In (.str (S [c]) t) (.str y u)) Q E s := by
  refine PyProof.Rows.in_str ?_
  have := StrLaws.found_one y c
  rw [e] at this ⊢
  rw [show S [c] = ⟨#[c]⟩ from rfl, this]
  exact h
theorem ws_mem : decide (c ∈ [10, 9, 13, 32]) = wsb c := by
  unfold wsb
  rw [Bool.eq_iff_iff]
  simp [or_assoc]
theorem in_wsT {Q : Value → Shared → Prop} (hc : wsb c = true) (h : Q (.bool true) s) : wpAny (model prog w) A (compareOp .In (.str (S [c]) t) (.str (Str.ofString "\n\t\r ") u)) Q E s :=
  in_lit litws (by rw [ws_mem, hc]; exact h)
theorem in_wsF {Q : Value → Shared → Prop} (hc : wsb c = false) (h : Q (.bool false) s) : wpAny (model prog w) A (compareOp .In (.str (S [c]) t) (.str (Str.ofString "\n\t\r ") u)) Q E s :=
  in_lit litws (by rw [ws_mem, hc]; exact h)
end
section
variable {w : World} {p : Program} {loose : List Str} {mean : ExcName → Option Value} {mg mb : Str → Option Value} {dp un : Nat} {gd : Option (List Code)} {cn : Str} {cs : Scope} {a : Addr} {ccd : Value} {cl : List (Str × Addr)} {outer : List Env} {A₀ : Around} {base h₀ : Heap} {L : Addr} {m : Str → Option Value} {s : Shared} {Q E : Value → Shared → Prop}
/-- _read_char where a sign is left -/
theorem rc_led {x : Lx} {i : Int} {it kt : Tok} {q : List Value} {nq k na : Nat} {c : Nat} {r : List Nat} (pre : List (Addr × Obj)) (B : Below A₀ base outer h₀) (F : Fr h₀ L s.heap m) (X : (Mine.hd.heap_39 w.params).In h₀) (N : News h₀ L s.heap (pre ++ x.led i it q nq k kt na)) (T : Top p loose mean mg mb h₀) (O : x.Ok w) (P : PreL x pre) (hk : cs.kind = .function) (hd : dp + 2 < recursionLimit) (hu : un + 40 < cLine)
    (hdr : x.t.drop k = c :: r)
    (hret : ∀ h' tk' it' kt' na' t', Fr h₀ L h' m → News h₀ L h' (pre ++ x.led (i + nl (c :: r) - nl r) it' q nq (k + 1) kt' na') → Q (.str (S [c]) t') { s with heap := h', toks := tk' }) :
    wpAny (model PySem.Challenge.rw_re0059_01.prog w) (ktrTop dp un gd cn cs L a ccd cl outer) (call (.ref 133) [.ref x.M]) Q E s := by
  have hkt : k ≤ x.t.length := by have := (drop_next hdr).2; omega
  refine rc_spec B F X T hk hd hu (News.sub N fun q hq => List.mem_append_right _ hq) O hkt fun h' tk' it' kt' na' t' kp H => ?_
  rw [hdr] at H ⊢
  have e1 : (List.take 1 (c :: r)) = [c] := rfl
  rw [e1] at H ⊢
  have e2 : (if ([c] : List Nat) = [10] then i + 1 else i) = i + nl (c :: r) - nl r := by
    rw [← nl_cons]
    by_cases hc : c = 10
    · rw [if_pos hc, if_pos (by rw [hc])]
    · rw [if_neg hc, if_neg (fun h => hc (List.cons.inj h).1)]
  rw [e2] at H
  obtain ⟨F', N'⟩ := lx_step F N P kp H
  exact hret h' tk' it' kt' na' t' F' N'
end
end Mine
namespace Mine
/-- between the turns of the loop over all signs -/
noncomputable def GtO (x : Lx) (g : Heap) (L I bm : Addr) (t9 : Tok) (C : Int) (out rest : List Nat) (s0 : Shared) (nq : Nat) (n : Nat) (s' : Shared) : Prop :=
  ∃ h1 tk1 vch tt i1 it1 kt1 na1 k1, s' = { s0 with heap := h1, toks := tk1 } ∧ Fr g L h1 (gtM vch (some (.str (S []) tt)) I x.M) ∧ News g L h1 ((I, ciObj bm t9) :: (bm, methodObj (.ref 133) (.ref x.M)) :: [] ++ x.led i1 it1 [] nq k1 kt1 na1) ∧
    Out (x.t.drop k1) out rest ∧ k1 ≤ x.t.length ∧ i1 + nl (x.t.drop k1) = C ∧ n = x.t.length + 1 - k1
/-- between the turns of an inner loop -/
noncomputable def GtI (R : List Nat → List Nat → List Nat → List Nat → Prop) (x : Lx) (g : Heap) (L I bm : Addr) (t9 : Tok) (C : Int) (out rest : List Nat) (s0 : Shared) (nq : Nat) (n : Nat) (s' : Shared) : Prop :=
  ∃ h1 tk1 vch tt i1 it1 kt1 na1 k1 acc, s' = { s0 with heap := h1, toks := tk1 } ∧ Fr g L h1 (gtM vch (some (.str (S acc) tt)) I x.M) ∧ News g L h1 ((I, ciObj bm t9) :: (bm, methodObj (.ref 133) (.ref x.M)) :: [] ++ x.led i1 it1 [] nq k1 kt1 na1) ∧
    R acc (x.t.drop k1) out rest ∧ k1 ≤ x.t.length ∧ i1 + nl (x.t.drop k1) = C ∧ n = x.t.length + 1 - k1 ∧ acc.length ≤ k1
section
variable {x : Lx} {g : Heap} {L I bm : Addr} {t9 : Tok} {C : Int} {out rest : List Nat} {s0 : Shared} {nq n : Nat} {R : List Nat → List Nat → List Nat → List Nat → Prop} {h1 : Heap} {tk1 : Nat} {vch : Option Value} {tt it1 kt1 : Tok} {i1 : Int} {na1 k1 : Nat} {m : Str → Option Value} {acc r : List Nat}
theorem gto_end (F : Fr g L h1 m) (e : m = gtM vch (some (.str (S []) tt)) I x.M) (N : News g L h1 ((I, ciObj bm t9) :: (bm, methodObj (.ref 133) (.ref x.M)) :: x.led i1 it1 [] nq k1 kt1 na1)) (hd : x.t.drop k1 = r) (ho : Out r out rest) (hk : k1 ≤ x.t.length) (hi : i1 + nl r = C) (hl : x.t.length + 1 - k1 < n) :
    ∃ n', n' < n ∧ GtO x g L I bm t9 C out rest s0 nq n' { s0 with heap := h1, toks := tk1 } :=
  ⟨_, hl, h1, tk1, vch, tt, i1, it1, kt1, na1, k1, rfl, e ▸ F, N, hd ▸ ho, hk, hd ▸ hi, rfl⟩
theorem gti_end (F : Fr g L h1 m) (e : m = gtM vch (some (.str (S acc) tt)) I x.M) (N : News g L h1 ((I, ciObj bm t9) :: (bm, methodObj (.ref 133) (.ref x.M)) :: x.led i1 it1 [] nq k1 kt1 na1)) (hd : x.t.drop k1 = r) (ho : R acc r out rest) (hk : k1 ≤ x.t.length) (hi : i1 + nl r = C) (ha : acc.length ≤ k1) (hl : x.t.length + 1 - k1 < n) :
    ∃ n', n' < n ∧ GtI R x g L I bm t9 C out rest s0 nq n' { s0 with heap := h1, toks := tk1 } :=
  ⟨_, hl, h1, tk1, vch, tt, i1, it1, kt1, na1, k1, acc, rfl, e ▸ F, N, hd ▸ ho, hk, hd ▸ hi, rfl, ha⟩
end
end Mine
namespace Mine
theorem gtM_start {b : Option Value} {I M : Addr} {l : List (Str × Value)} (hl : l = [(Str.ofString "self", Value.ref M)]) :
    (fun y => if y = Str.ofString "fiter" then some (Value.ref I) else if y = Str.ofString "token" then b else List.lookup y l) = gtM none b I M := by
  subst hl
  funext y
  simp only [gtM]
  by_cases h1 : y = Str.ofString "ch"
  · subst h1; rfl
  · rw [if_neg h1]
    by_cases h2 : y = Str.ofString "fiter"
    · subst h2; rfl
    · rw [if_neg h2, if_neg h2]
end Mine
namespace Mine
section
variable {a b c v t : Option Value} {I M : Addr}
theorem gtM_c : (fun y => if y = Str.ofString "ch" then a else gtM v t I M y) = gtM a t I M := by
  funext y; simp only [gtM]; split <;> rfl
theorem gtM_t : (fun y => if y = Str.ofString "token" then a else gtM v t I M y) = gtM v a I M := by
  funext y; simp only [gtM]
  by_cases h : y = Str.ofString "ch"
  · subst h; rfl
  · rw [if_neg h, if_neg h]; split <;> rfl
theorem gtM_cc : (fun y => if y = Str.ofString "ch" then a else if y = Str.ofString "ch" then b else gtM v t I M y) = gtM a t I M := by
  funext y; simp only [gtM]; split <;> rfl
theorem gtM_tc : (fun y => if y = Str.ofString "token" then a else if y = Str.ofString "ch" then b else gtM v t I M y) = gtM b a I M :=
  (congrArg (fun f : Str → Option Value => fun y => if y = Str.ofString "token" then a else f y) gtM_c).trans gtM_t
theorem gtM_tcc : (fun y => if y = Str.ofString "token" then a else if y = Str.ofString "ch" then b else if y = Str.ofString "ch" then c else gtM v t I M y) = gtM b a I M :=
  (congrArg (fun f : Str → Option Value => fun y => if y = Str.ofString "token" then a else f y) gtM_cc).trans gtM_t
end
end Mine
namespace Mine
section
variable {x : Lx} {g : Heap} {L I bm : Addr} {t9 : Tok} {C : Int} {out rest : List Nat} {s0 : Shared} {nq : Nat} {R : List Nat → List Nat → List Nat → List Nat → Prop} {h1 : Heap} {tk1 : Nat} {vch : Option Value} {tt it1 kt1 : Tok} {i1 : Int} {na1 k1 : Nat} {m : Str → Option Value} {acc r : List Nat}
theorem gti_start (F : Fr g L h1 m) (e : m = gtM vch (some (.str (S acc) tt)) I x.M) (N : News g L h1 ((I, ciObj bm t9) :: (bm, methodObj (.ref 133) (.ref x.M)) :: x.led i1 it1 [] nq k1 kt1 na1)) (hd : x.t.drop k1 = r) (ho : R acc r out rest) (hk : k1 ≤ x.t.length) (hi : i1 + nl r = C) (ha : acc.length ≤ k1) :
    GtI R x g L I bm t9 C out rest s0 nq (x.t.length + 1 - k1) { s0 with heap := h1, toks := tk1 } :=
  ⟨h1, tk1, vch, tt, i1, it1, kt1, na1, k1, acc, rfl, e ▸ F, N, hd ▸ ho, hk, hd ▸ hi, rfl, ha⟩
end
end Mine
end

section
set_option maxRecDepth 100000
set_option maxHeartbeats 8000000
namespace Mine
section
variable {w : World} {p : Program} {loose : List Str} {mean : ExcName → Option Value} {mg mb : Str → Option Value} {dp un : Nat} {gd : Option (List Code)} {cn : Str} {cs : Scope} {a : Addr} {ccd : Value} {cl : List (Str × Addr)} {outer : List Env} {A₀ : Around} {base h₀ : Heap} {L : Addr} {m : Str → Option Value} {s : Shared} {Q E : Value → Shared → Prop}
theorem gt_spec (B : Below A₀ base outer h₀) (F : Fr h₀ L s.heap m) (X : (Mine.hd.heap_39 w.params).In h₀) (T : Top p loose mean mg mb h₀) (hk : cs.kind = .function) (hd : dp + 3 < recursionLimit) (hu : un + 80 < cLine)
    {x : Lx} {i : Int} {it kt : Tok} {nq k na : Nat} (N : News h₀ L s.heap (x.led i it [] nq k kt na)) (O : x.Ok w) (hkt : k ≤ x.t.length) {out rest : List Nat} (hO : Out (x.t.drop k) out rest)
    (hret : ∀ h' tk' it' kt' na' k' t', x.t.drop k' = rest → k' ≤ x.t.length → KpBut [x.pb, x.dM, x.atl] s.heap h' → Has h' (x.led (i + nl (x.t.drop k) - nl rest) it' [] nq k' kt' na') → Q (.str (S out) t') { s with heap := h', toks := tk' }) :
    wpAny (model PySem.Challenge.rw_re0059_01.prog w) (ktrTop dp un gd cn cs L a ccd cl outer) (call (.ref 140) [.ref x.M]) Q E s := by
  k_with_none
  w_top off
  k_with "lt" => (first | (with_reducible assumption) | (apply And.left; (first | (with_reducible assumption) | (apply And.right; (first | (with_reducible assumption) | (apply And.right; (first | (with_reducible assumption) | (apply And.right; (first | (with_reducible assumption) | (apply And.right; (first | (with_reducible assumption) | (apply And.right; (first | (with_reducible assumption) | (apply And.right; (first | (with_reducible assumption) | (apply And.right; (first | (with_reducible assumption) | (apply And.right; (first | (with_reducible assumption) | (apply And.right; (first | (with_reducible assumption) | (apply And.right; (first | (with_reducible assumption) | (apply And.right; (first | (with_reducible assumption) | (apply And.right; (first | (with_reducible assumption) | (apply And.right; (first | (with_reducible assumption) | (apply And.right; (first | (with_reducible assumption) | (apply And.right; (first | (with_reducible assumption) | (apply And.right; (first | (with_reducible assumption) | (apply And.right; (first | (with_reducible assumption) | (apply And.right; (first | (with_reducible assumption) | (apply And.right; (first | (with_reducible assumption) | (apply And.right; (first | (with_reducible assumption) | (apply And.right; (first | (with_reducible assumption) | (apply And.right; (first | (with_reducible assumption) | (apply And.right; (first | (with_reducible assumption) | (apply And.right; (first | (with_reducible assumption) | (apply And.right; (with_reducible assumption)))))))))))))))))))))))))))))))))))))))))))))))))))) | (apply And.right; (first | (with_reducible assumption) | (apply And.right; (first | (with_reducible assumption) | (apply And.right; (first | (with_reducible assumption) | (apply And.right; (first | (with_reducible assumption) | (apply And.right; (first | (with_reducible assumption) | (apply And.right; (first | (with_reducible assumption) | (apply And.right; (first | (with_reducible assumption) | (apply And.right; (first | (with_reducible assumption) | (apply And.right; (first | (with_reducible assumption) | (apply And.right; (first | (with_reducible assumption) | (apply And.right; (first | (with_reducible assumption) | (apply And.right; (first | (with_reducible assumption) | (apply And.right; (first | (with_reducible assumption) | (apply And.right; (first | (with_reducible assumption) | (apply And.right; (first | (with_reducible assumption) | (apply And.right; (first | (with_reducible assumption) | (apply And.right; (first | (with_reducible assumption) | (apply And.right; (first | (with_reducible assumption) | (apply And.right; (first | (with_reducible assumption) | (apply And.right; (first | (with_reducible assumption) | (apply And.right; (first | (with_reducible assumption) | (apply And.right; (first | (with_reducible assumption) | (apply And.right; (first | (with_reducible assumption) | (apply And.right; (first | (with_reducible assumption) | (apply And.right; (first | (with_reducible assumption) | (apply And.right; (with_reducible assumption)))))))))))))))))))))))))))))))))))))))))))))))))))))
  k_with "k_ne" => (refine neN ?_; (try dsimp only); first | k_extra "lt" | (refine Ne.symm ?_; k_extra "lt") | (refine Nat.ne_of_lt ?_; k_extra "lt") | (refine Nat.ne_of_gt ?_; k_extra "lt") | (refine Nat.ne_of_lt (Nat.lt_add_right _ ?_); k_extra "lt") | (refine Nat.ne_of_gt (Nat.lt_add_right _ ?_); k_extra "lt") | (refine Nat.ne_of_lt (Nat.lt_add_right _ (Nat.lt_add_right _ ?_)); k_extra "lt") | (refine Nat.ne_of_gt (Nat.lt_add_right _ (Nat.lt_add_right _ ?_)); k_extra "lt") | (refine cell_ne2 ?_; decide) | (refine cell_ne ?_; k_extra "lt") | (refine Ne.symm (cell_ne ?_); k_extra "lt"))
  k_with "CiT" => ((k_here; (refine' CiT.mk ?kP ?_; (case kP => assumption)); (try dsimp only)))
  k_with "cell_enter" => ((refine' enterQ ?k1 ?k2 ?k3 ?k4 ?k5 ?kA ?kF ?kK ?k6 ?k7 ?k8 ?k9 ?kB ?_ ?c2 ?c3 ?c4 ?c5; (case kA => exact rfl); (case kF => exact rfl); (case kK => assumption); (case k1 => k_asm); (case k2 => k_asm); (case k3 => k_asm); (case k4 => k_asm); (case k5 => k_asm); (case k6 => k_is); (case k7 => k_is); (case k8 => ktr_room); (case k9 => first | exact BindsTo.of_eq rfl | exact binds_K (by k_in) rfl (by k_is) rfl rfl rfl); (case c5 => decide); (case kB => exact locs rfl); (case c2 => exact rfl); (case c3 => exact rfl); (case c4 => exact rfl); k_whole; intro P9 hP9 g' L' h' H' F' N' B' X' T' l'; (try dsimp only); (try k_lt l'); (try k_fold)); (try (revert P9 hP9 g' L' h' H' F' N' B' X' T' l'; set_option tactic.hygienic true in intros)))
  k_with "LeaveQ" => ((k_dflt (refine' leaveQ ?kP ?k1 ?k2 ?_; (case kP => assumption); (case k1 => k_asm); (case k2 => k_asm); k_whole); intro kK kH; (try dsimp only)); (try (revert kK kH; set_option tactic.hygienic true in intros)))
  k_with "call builtin:iter" => ((k_here; k_dflt (refine' iter_two ?q9F ?q9N ?q9m ?_; (case q9F => k_asm); (case q9N => k_asm); (case q9m => k_mem); k_whole); intro I' h' F' N' l1; (try k_lt l1); (try k_sweep)); (try (revert I' h' F' N' l1; set_option tactic.hygienic true in intros)))
  k_with "exec For Name Name cons nil" => ((k_here; (with_unfolding_all refine' For_ci ?_); k_whole))
  k_with "compareOp In str str" => ((k_here; first | (refine in_wsT (by first | assumption | decide) ?_) | (refine in_wsF (by first | assumption | decide) ?_)))
  k_with "compareOp Eq str str" => ((k_here; first | (refine eq_t (by first | exact lit34.symm | exact lit92.symm) ?_) | (refine eq_f (by first | (rw [lit34]; exact S1_ne (by first | assumption | decide)) | (rw [lit92]; exact S1_ne (by first | assumption | decide))) ?_)))
  k_with "inplaceOp Add str str" => ((k_here; (refine' iadd_S ?q9h ?_; (case q9h => (simp only [List.length_cons, List.length_nil]; omega))); intro t' k'); (try (revert t' k'; set_option tactic.hygienic true in intros)))
  k_with "call ref" => ((k_here; (try dsimp only [List.cons_append, List.nil_append, List.append_nil]); (with_reducible show wpAny _ _ (call (Value.ref 133) _) _ _ _); k_dflt (refine' rc_led [_, _] ?q9B ?q9F ?q9X ?q9N ?q9T ?q9O ?q9P ?q9k ?q9d ?q9u ?q9z ?_; (case q9B => k_asm); (case q9F => k_asm); (case q9X => k_asm); (case q9N => k_asm); (case q9T => k_asm); (case q9O => assumption); (case q9P => ((dsimp only [PreL]); (repeat' refine And.intro ?_ ?_) <;> first | exact True.intro | k_ne)); (case q9k => exact rfl); (case q9d => ktr_room); (case q9u => ktr_units); (case q9z => assumption); k_whole); intro h' tk' it' kt' na' t' F' N'; (try dsimp only [Lx.led, List.cons_append, List.nil_append] at N'); (try k_sweep)); (try (revert h' tk' it' kt' na' t' F' N'; set_option tactic.hygienic true in intros)))
  k_with "tb_rel" => ((first | exact gtM_c | exact gtM_tc | exact gtM_tcc | exact gtM_cc | exact gtM_t | exact rfl))
  k_with "Exists" => ((k_here; k_dflt (first
      | (refine' gto_end ?q9F ?q9e ?q9N ?q9d ?q9o ?q9k ?q9i ?q9l; (case q9F => k_asm); (case q9N => k_asm); (case q9e => tb_rel); (case q9d => assumption); (case q9o => assumption); (case q9k => omega); (case q9i => first | exact nl_1 (by assumption) | exact nl_2 (by assumption) | omega); (case q9l => first | exact ms_1 (by assumption) | exact ms_2 (by assumption) | omega))
      | (refine' gti_end ?q9F ?q9e ?q9N ?q9d ?q9o ?q9k ?q9i ?q9a ?q9l; (case q9F => k_asm); (case q9N => k_asm); (case q9e => tb_rel); (case q9d => assumption); (case q9o => assumption); (case q9k => omega); (case q9i => first | exact nl_1 (by assumption) | exact nl_2 (by assumption) | omega); (case q9a => (simp only [List.length_append, List.length_cons, List.length_nil]; omega)); (case q9l => first | exact ms_1 (by assumption) | exact ms_2 (by assumption) | omega)))))
  revert X; k_fill; intro X
  have o := O.ord
  unfold Lx.Ord at o
  refine wpAny_call ?_
  k_dflt cell_enter
  rename Hid _ _ _ => H
  w_strict (k_steps)
  rename_i g' L' h' B' X' T' l' tk0 h'_1 q' h'_2 l1 I' h'_3 l1_1 h'_4 F' N'
  have hlen := O.len
  rw [empty_S] at F'
  generalize hT9 : tk0 + 1 + 1 + 1 = t9 at N'
  refine ⟨I', q', _, GtO x g' L' I' q' t9 (i + nl (x.t.drop k)) out rest s nq, x.t.length + 1 - k, rfl, (N' _ (.head _)).1, ⟨_, _, none, _, i, it, kt, na, k, rfl, Fr.as F' (gtM_start rfl), N', hO, hkt, rfl, rfl⟩, ?_⟩
  clear F' N'
  refine' (fun (hP9 : EBox _) => ?main) ⟨?pf⟩
  case main =>
    intro n s9 hJ T9 hT9
    obtain ⟨h1, tk1, vch, tt, i1, it1, kt1, na1, k1, rfl, F1, N1, hO1, hk1, hC, rfl⟩ := hJ
    k_dflt (refine' next_lex (rest := []) B' F1 X' N1 T' O ?P ?hne rfl ?hd ?hu ?hf hk1 (fun c r h2 tk2 it2 kt2 na2 t2 hdr F2 N2 => ?some) (fun hdr h2 tk2 it2 kt2 na2 F2 N2 => ?none))
    case P => (dsimp only [PreL]); (repeat' refine And.intro ?_ ?_) <;> first | exact True.intro | k_ne
    case hne =>
      intro p hp
      simp only [Lx.led, List.cons_append, List.nil_append, List.mem_cons, List.not_mem_nil, or_false] at hp
      rcases hp with rfl | rfl | rfl | rfl | rfl | rfl | rfl | rfl | rfl | rfl | rfl <;> (refine neN ?_; dsimp only; omega)
    case hd => ktr_room
    case hu => ktr_units
    case hf => k_is
    case none =>
      rw [hdr] at hO1 hC
      cases hO1
      clear N1 F1
      w_strict (k_steps)
      rename Kp _ _ => kK
      rename Has _ _ => kH
      have h9 := has_led (x := x) (kH.get (by k_mem)) (kH.get (by k_mem)) (kH.get (by k_mem)) (kH.get (by k_mem)) (kH.get (by k_mem)) (kH.get (by k_mem)) (kH.get (by k_mem)) (kH.get (by k_mem)) (kH.get (by k_mem)) (kH.get (by k_mem))
      rw [show i1 = i + nl (x.t.drop k) - nl [] by omega] at h9
      exact hret _ _ _ _ _ k1 _ hdr hk1 (lx_back H kK (News.has N) h9) h9
    case some =>
      obtain ⟨hnx1, hnx2⟩ := drop_next hdr
      rw [nl_cons c r] at N2
      rw [hdr] at hO1 hC
      clear N1 F1
      dsimp only [Lx.led, List.cons_append, List.nil_append] at N2
      cases hO1 with
      | ws _ _ _ _ hc ho =>
        w_strict (k_steps)
      | quote _ _ _ ho =>
        w_strict (k_steps)
        rename Fr _ _ _ _ => F4
        rename News _ _ _ _ => N4
        refine ⟨I', q', _, GtI InQ x g' L' I' q' t9 (i + nl (x.t.drop k)) out rest s nq, x.t.length + 1 - (k1 + 1), rfl, (N4 _ (.head _)).1, ?st, ?_⟩
        case st =>
          refine' gti_start F4 ?q9e N4 ?q9d ?q9o ?q9k ?q9i ?q9a
          case q9e => tb_rel
          case q9d => assumption
          case q9o => assumption
          case q9k => omega
          case q9i => first | exact nl_1 (by assumption) | exact nl_2 (by assumption) | omega
          case q9a => (simp only [List.nil_append, List.length_cons, List.length_nil]; omega)
        clear F4 N4
        intro n9 s9 hJ9 T8 hT8
        obtain ⟨h3, tk3, vch3, tt3, i3, it3, kt3, na3, k3, acc, rfl, F3, N3, hR3, hk3, hC3, rfl, ha3⟩ := hJ9
        k_dflt (refine' next_lex (rest := []) B' F3 X' N3 T' O ?P ?hne rfl ?hd ?hu ?hf hk3 (fun c5 r5 h5 tk5 it5 kt5 na5 t5 hdr5 F5 N5 => ?some) (fun hdr5 h5 tk5 it5 kt5 na5 F5 N5 => ?none))
        case P => (dsimp only [PreL]); (repeat' refine And.intro ?_ ?_) <;> first | exact True.intro | k_ne
        case hne =>
          intro p hp
          simp only [Lx.led, List.cons_append, List.nil_append, List.mem_cons, List.not_mem_nil, or_false] at hp
          rcases hp with rfl | rfl | rfl | rfl | rfl | rfl | rfl | rfl | rfl | rfl | rfl <;> (refine neN ?_; dsimp only; omega)
        case hd => ktr_room
        case hu => ktr_units
        case hf => k_is
        case none =>
          rw [hdr5] at hR3
          cases hR3
        case some =>
          obtain ⟨hnx5, hnx6⟩ := drop_next hdr5
          rw [nl_cons c5 r5] at N5
          rw [hdr5] at hR3 hC3
          clear N3 F3
          dsimp only [Lx.led, List.cons_append, List.nil_append] at N5
          cases hR3 with
          | stop  =>
            w_strict (k_steps)
            rename Kp _ _ => kK
            rename Has _ _ => kH
            have h9 := has_led (x := x) (kH.get (by k_mem)) (kH.get (by k_mem)) (kH.get (by k_mem)) (kH.get (by k_mem)) (kH.get (by k_mem)) (kH.get (by k_mem)) (kH.get (by k_mem)) (kH.get (by k_mem)) (kH.get (by k_mem)) (kH.get (by k_mem))
            rw [show i3 + nl (34 :: rest) - nl rest = i + nl (x.t.drop k) - nl rest by omega] at h9
            exact hret _ _ _ _ _ (k3 + 1) _ hnx5 hnx6 (lx_back H kK (News.has N) h9) h9
          | esc _ r6 _ _ c6 ho6 =>
            obtain ⟨hnx7, hnx8⟩ := drop_next hnx5
            w_strict (k_steps)
          | sign _ _ _ _ _ hc6 hc7 ho6 =>
            w_strict (k_steps)
      | esc r2 _ _ c2 ho =>
        obtain ⟨hnx3, hnx4⟩ := drop_next hnx1
        w_strict (k_steps)
        rename Fr _ _ _ _ => F4
        rename News _ _ _ _ => N4
        refine ⟨I', q', _, GtI InB x g' L' I' q' t9 (i + nl (x.t.drop k)) out rest s nq, x.t.length + 1 - (k1 + 1 + 1), rfl, (N4 _ (.head _)).1, ?st, ?_⟩
        case st =>
          refine' gti_start F4 ?q9e N4 ?q9d ?q9o ?q9k ?q9i ?q9a
          case q9e => tb_rel
          case q9d => assumption
          case q9o => assumption
          case q9k => omega
          case q9i => first | exact nl_1 (by assumption) | exact nl_2 (by assumption) | omega
          case q9a => (simp only [List.nil_append, List.length_cons, List.length_nil]; omega)
        generalize x.t.length + 1 - k1 = n8 at hT9
        revert hT9
        revert n8
        revert T9
        exact hP9.out
      | sign _ _ _ _ hc1 hc2 hc3 ho =>
        w_strict (k_steps)
        rename Fr _ _ _ _ => F4
        rename News _ _ _ _ => N4
        refine ⟨I', q', _, GtI InB x g' L' I' q' t9 (i + nl (x.t.drop k)) out rest s nq, x.t.length + 1 - (k1 + 1), rfl, (N4 _ (.head _)).1, ?st, ?_⟩
        case st =>
          refine' gti_start F4 ?q9e N4 ?q9d ?q9o ?q9k ?q9i ?q9a
          case q9e => tb_rel
          case q9d => assumption
          case q9o => assumption
          case q9k => omega
          case q9i => first | exact nl_1 (by assumption) | exact nl_2 (by assumption) | omega
          case q9a => (simp only [List.nil_append, List.length_cons, List.length_nil]; omega)
        exact hP9.out _ _ hT9
  case pf =>
    intro T9 n8 hT9 n9 s9 hJ9 T8 hT8
    obtain ⟨h3, tk3, vch3, tt3, i3, it3, kt3, na3, k3, acc, rfl, F3, N3, hR3, hk3, hC3, rfl, ha3⟩ := hJ9
    k_dflt (refine' next_lex (rest := []) B' F3 X' N3 T' O ?P ?hne rfl ?hd ?hu ?hf hk3 (fun c5 r5 h5 tk5 it5 kt5 na5 t5 hdr5 F5 N5 => ?some) (fun hdr5 h5 tk5 it5 kt5 na5 F5 N5 => ?none))
    case P => (dsimp only [PreL]); (repeat' refine And.intro ?_ ?_) <;> first | exact True.intro | k_ne
    case hne =>
      intro p hp
      simp only [Lx.led, List.cons_append, List.nil_append, List.mem_cons, List.not_mem_nil, or_false] at hp
      rcases hp with rfl | rfl | rfl | rfl | rfl | rfl | rfl | rfl | rfl | rfl | rfl <;> (refine neN ?_; dsimp only; omega)
    case hd => ktr_room
    case hu => ktr_units
    case hf => k_is
    case none =>
      rw [hdr5] at hR3
      cases hR3
    case some =>
      obtain ⟨hnx5, hnx6⟩ := drop_next hdr5
      rw [nl_cons c5 r5] at N5
      rw [hdr5] at hR3 hC3
      clear N3 F3
      dsimp only [Lx.led, List.cons_append, List.nil_append] at N5
      cases hR3 with
      | stop _ _ _ hc5 =>
        w_strict (k_steps)
        rename Kp _ _ => kK
        rename Has _ _ => kH
        have h9 := has_led (x := x) (kH.get (by k_mem)) (kH.get (by k_mem)) (kH.get (by k_mem)) (kH.get (by k_mem)) (kH.get (by k_mem)) (kH.get (by k_mem)) (kH.get (by k_mem)) (kH.get (by k_mem)) (kH.get (by k_mem)) (kH.get (by k_mem))
        rw [show i3 + nl (c5 :: rest) - nl rest = i + nl (x.t.drop k) - nl rest by omega] at h9
        exact hret _ _ _ _ _ (k3 + 1) _ hnx5 hnx6 (lx_back H kK (News.has N) h9) h9
      | esc _ r6 _ _ c6 ho6 =>
        obtain ⟨hnx7, hnx8⟩ := drop_next hnx5
        w_strict (k_steps)
      | sign _ _ _ _ _ hc6 hc7 ho6 =>
        w_strict (k_steps)
end
end Mine
end

section
set_option maxRecDepth 100000
set_option maxHeartbeats 8000000
namespace Mine
theorem seq0 (v : Value) (q : List Value) : seqIndex? 0 (v :: q).toArray.size = some 0 := by
  unfold seqIndex?
  simp
section
variable {w : World} {p : Program} {loose : List Str} {mean : ExcName → Option Value} {mg mb : Str → Option Value} {dp un : Nat} {gd : Option (List Code)} {cn : Str} {cs : Scope} {a : Addr} {ccd : Value} {cl : List (Str × Addr)} {outer : List Env} {A₀ : Around} {base h₀ : Heap} {L : Addr} {m : Str → Option Value} {s : Shared} {Q E : Value → Shared → Prop}
theorem gp_spec (B : Below A₀ base outer h₀) (F : Fr h₀ L s.heap m) (X : (Mine.hd.heap_39 w.params).In h₀) (T : Top p loose mean mg mb h₀) (hk : cs.kind = .function) (hd : dp + 3 < recursionLimit) (hu : un + 80 < cLine)
    {x : Lx} {i : Int} {it kt : Tok} {v : Value} {q : List Value} {nq k na : Nat} (N : News h₀ L s.heap (x.led i it (v :: q) nq k kt na)) (O : x.Ok w) (hz : q.length ≤ 1000)
    (hret : ∀ h' tk' nq', KpBut [x.pb, x.dM, x.atl] s.heap h' → Has h' (x.led i it q nq' k kt na) → Q v { s with heap := h', toks := tk' }) :
    wpAny (model PySem.Challenge.rw_re0059_01.prog w) (ktrTop dp un gd cn cs L a ccd cl outer) (call (.ref 140) [.ref x.M]) Q E s := by
  k_with_none
  w_top off
  k_with "lt" => (first | (with_reducible assumption) | (apply And.left; (first | (with_reducible assumption) | (apply And.right; (first | (with_reducible assumption) | (apply And.right; (first | (with_reducible assumption) | (apply And.right; (first | (with_reducible assumption) | (apply And.right; (first | (with_reducible assumption) | (apply And.right; (first | (with_reducible assumption) | (apply And.right; (first | (with_reducible assumption) | (apply And.right; (first | (with_reducible assumption) | (apply And.right; (first | (with_reducible assumption) | (apply And.right; (first | (with_reducible assumption) | (apply And.right; (first | (with_reducible assumption) | (apply And.right; (first | (with_reducible assumption) | (apply And.right; (first | (with_reducible assumption) | (apply And.right; (first | (with_reducible assumption) | (apply And.right; (first | (with_reducible assumption) | (apply And.right; (first | (with_reducible assumption) | (apply And.right; (first | (with_reducible assumption) | (apply And.right; (first | (with_reducible assumption) | (apply And.right; (first | (with_reducible assumption) | (apply And.right; (first | (with_reducible assumption) | (apply And.right; (first | (with_reducible assumption) | (apply And.right; (first | (with_reducible assumption) | (apply And.right; (first | (with_reducible assumption) | (apply And.right; (first | (with_reducible assumption) | (apply And.right; (first | (with_reducible assumption) | (apply And.right; (with_reducible assumption)))))))))))))))))))))))))))))))))))))))))))))))))))) | (apply And.right; (first | (with_reducible assumption) | (apply And.right; (first | (with_reducible assumption) | (apply And.right; (first | (with_reducible assumption) | (apply And.right; (first | (with_reducible assumption) | (apply And.right; (first | (with_reducible assumption) | (apply And.right; (first | (with_reducible assumption) | (apply And.right; (first | (with_reducible assumption) | (apply And.right; (first | (with_reducible assumption) | (apply And.right; (first | (with_reducible assumption) | (apply And.right; (first | (with_reducible assumption) | (apply And.right; (first | (with_reducible assumption) | (apply And.right; (first | (with_reducible assumption) | (apply And.right; (first | (with_reducible assumption) | (apply And.right; (first | (with_reducible assumption) | (apply And.right; (first | (with_reducible assumption) | (apply And.right; (first | (with_reducible assumption) | (apply And.right; (first | (with_reducible assumption) | (apply And.right; (first | (with_reducible assumption) | (apply And.right; (first | (with_reducible assumption) | (apply And.right; (first | (with_reducible assumption) | (apply And.right; (first | (with_reducible assumption) | (apply And.right; (first | (with_reducible assumption) | (apply And.right; (first | (with_reducible assumption) | (apply And.right; (first | (with_reducible assumption) | (apply And.right; (first | (with_reducible assumption) | (apply And.right; (with_reducible assumption)))))))))))))))))))))))))))))))))))))))))))))))))))))
  k_with "k_ne" => (refine neN ?_; (try dsimp only); first | k_extra "lt" | (refine Ne.symm ?_; k_extra "lt") | (refine Nat.ne_of_lt ?_; k_extra "lt") | (refine Nat.ne_of_gt ?_; k_extra "lt") | (refine Nat.ne_of_lt (Nat.lt_add_right _ ?_); k_extra "lt") | (refine Nat.ne_of_gt (Nat.lt_add_right _ ?_); k_extra "lt") | (refine Nat.ne_of_lt (Nat.lt_add_right _ (Nat.lt_add_right _ ?_)); k_extra "lt") | (refine Nat.ne_of_gt (Nat.lt_add_right _ (Nat.lt_add_right _ ?_)); k_extra "lt") | (refine cell_ne2 ?_; decide) | (refine cell_ne ?_; k_extra "lt") | (refine Ne.symm (cell_ne ?_); k_extra "lt"))
  k_with "cell_enter" => ((refine' enterQ ?k1 ?k2 ?k3 ?k4 ?k5 ?kA ?kF ?kK ?k6 ?k7 ?k8 ?k9 ?kB ?_ ?c2 ?c3 ?c4 ?c5; (case kA => exact rfl); (case kF => exact rfl); (case kK => assumption); (case k1 => k_asm); (case k2 => k_asm); (case k3 => k_asm); (case k4 => k_asm); (case k5 => k_asm); (case k6 => k_is); (case k7 => k_is); (case k8 => ktr_room); (case k9 => first | exact BindsTo.of_eq rfl | exact binds_K (by k_in) rfl (by k_is) rfl rfl rfl); (case c5 => decide); (case kB => exact locs rfl); (case c2 => exact rfl); (case c3 => exact rfl); (case c4 => exact rfl); k_whole; intro P9 hP9 g' L' h' H' F' N' B' X' T' l'; (try dsimp only); (try k_lt l'); (try k_fold)); (try (revert P9 hP9 g' L' h' H' F' N' B' X' T' l'; set_option tactic.hygienic true in intros)))
  k_with "LeaveQ" => ((k_dflt (refine' leaveQ ?kP ?k1 ?k2 ?_; (case kP => assumption); (case k1 => k_asm); (case k2 => k_asm); k_whole); intro kK kH; (try dsimp only)); (try (revert kK kH; set_option tactic.hygienic true in intros)))
  k_with "call builtin:list.pop" => ((k_here; k_dflt (refine' kl_popAt (k := 0) ?q9F ?q9N ?q9f ?q9k ?q9e ?q9U ?q9z ?_; (case q9F => k_asm); (case q9N => k_asm); (case q9U => k_upd); (case q9f => rfl); (case q9k => exact seq0 _ _); (case q9e => rfl); (case q9z => (simp only [List.length_cons, sizeLine_eq]; omega))); intro h' F' N'; (try dsimp only [List.nil_append, List.cons_append] at N')); (try (revert h' F' N'; set_option tactic.hygienic true in intros)))
  revert X; k_fill; intro X
  have o := O.ord
  unfold Lx.Ord at o
  refine wpAny_call ?_
  k_dflt cell_enter
  rename Hid _ _ _ => H
  w_strict (k_steps)
  rename Kp _ _ => kK
  rename Has _ _ => kH
  have h9 := has_led (x := x) (kH.get (by k_mem)) (kH.get (by k_mem)) (kH.get (by k_mem)) (kH.get (by k_mem)) (kH.get (by k_mem)) (kH.get (by k_mem)) (kH.get (by k_mem)) (kH.get (by k_mem)) (kH.get (by k_mem)) (kH.get (by k_mem))
  exact hret _ _ _ (lx_back H kK (News.has N) h9) h9
theorem push_spec (B : Below A₀ base outer h₀) (F : Fr h₀ L s.heap m) (X : (Mine.hd.heap_39 w.params).In h₀) (T : Top p loose mean mg mb h₀) (hk : cs.kind = .function) (hd : dp + 3 < recursionLimit) (hu : un + 80 < cLine)
    {x : Lx} {i : Int} {it kt : Tok} {l : List Nat} {tv : Tok} {q : List Value} {nq k na : Nat} (N : News h₀ L s.heap (x.led i it q nq k kt na)) (O : x.Ok w) (hz : q.length ≤ 1000)
    (hret : ∀ h' tk' nq', KpBut [x.pb, x.dM, x.atl] s.heap h' → Has h' (x.led i it (q ++ [.str (S l) tv]) nq' k kt na) → Q .none { s with heap := h', toks := tk' }) :
    wpAny (model PySem.Challenge.rw_re0059_01.prog w) (ktrTop dp un gd cn cs L a ccd cl outer) (call (.ref 147) [.ref x.M, .str (S l) tv]) Q E s := by
  k_with_none
  w_top off
  k_with "lt" => (first | (with_reducible assumption) | (apply And.left; (first | (with_reducible assumption) | (apply And.right; (first | (with_reducible assumption) | (apply And.right; (first | (with_reducible assumption) | (apply And.right; (first | (with_reducible assumption) | (apply And.right; (first | (with_reducible assumption) | (apply And.right; (first | (with_reducible assumption) | (apply And.right; (first | (with_reducible assumption) | (apply And.right; (first | (with_reducible assumption) | (apply And.right; (first | (with_reducible assumption) | (apply And.right; (first | (with_reducible assumption) | (apply And.right; (first | (with_reducible assumption) | (apply And.right; (first | (with_reducible assumption) | (apply And.right; (first | (with_reducible assumption) | (apply And.right; (first | (with_reducible assumption) | (apply And.right; (first | (with_reducible assumption) | (apply And.right; (first | (with_reducible assumption) | (apply And.right; (first | (with_reducible assumption) | (apply And.right; (first | (with_reducible assumption) | (apply And.right; (first | (with_reducible assumption) | (apply And.right; (first | (with_reducible assumption) | (apply And.right; (first | (with_reducible assumption) | (apply And.right; (first | (with_reducible assumption) | (apply And.right; (first | (with_reducible assumption) | (apply And.right; (first | (with_reducible assumption) | (apply And.right; (first | (with_reducible assumption) | (apply And.right; (with_reducible assumption)))))))))))))))))))))))))))))))))))))))))))))))))))) | (apply And.right; (first | (with_reducible assumption) | (apply And.right; (first | (with_reducible assumption) | (apply And.right; (first | (with_reducible assumption) | (apply And.right; (first | (with_reducible assumption) | (apply And.right; (first | (with_reducible assumption) | (apply And.right; (first | (with_reducible assumption) | (apply And.right; (first | (with_reducible assumption) | (apply And.right; (first | (with_reducible assumption) | (apply And.right; (first | (with_reducible assumption) | (apply And.right; (first | (with_reducible assumption) | (apply And.right; (first | (with_reducible assumption) | (apply And.right; (first | (with_reducible assumption) | (apply And.right; (first | (with_reducible assumption) | (apply And.right; (first | (with_reducible assumption) | (apply And.right; (first | (with_reducible assumption) | (apply And.right; (first | (with_reducible assumption) | (apply And.right; (first | (with_reducible assumption) | (apply And.right; (first | (with_reducible assumption) | (apply And.right; (first | (with_reducible assumption) | (apply And.right; (first | (with_reducible assumption) | (apply And.right; (first | (with_reducible assumption) | (apply And.right; (first | (with_reducible assumption) | (apply And.right; (first | (with_reducible assumption) | (apply And.right; (first | (with_reducible assumption) | (apply And.right; (first | (with_reducible assumption) | (apply And.right; (with_reducible assumption)))))))))))))))))))))))))))))))))))))))))))))))))))))
  k_with "k_ne" => (refine neN ?_; (try dsimp only); first | k_extra "lt" | (refine Ne.symm ?_; k_extra "lt") | (refine Nat.ne_of_lt ?_; k_extra "lt") | (refine Nat.ne_of_gt ?_; k_extra "lt") | (refine Nat.ne_of_lt (Nat.lt_add_right _ ?_); k_extra "lt") | (refine Nat.ne_of_gt (Nat.lt_add_right _ ?_); k_extra "lt") | (refine Nat.ne_of_lt (Nat.lt_add_right _ (Nat.lt_add_right _ ?_)); k_extra "lt") | (refine Nat.ne_of_gt (Nat.lt_add_right _ (Nat.lt_add_right _ ?_)); k_extra "lt") | (refine cell_ne2 ?_; decide) | (refine cell_ne ?_; k_extra "lt") | (refine Ne.symm (cell_ne ?_); k_extra "lt"))
  k_with "cell_enter" => ((refine' enterQ ?k1 ?k2 ?k3 ?k4 ?k5 ?kA ?kF ?kK ?k6 ?k7 ?k8 ?k9 ?kB ?_ ?c2 ?c3 ?c4 ?c5; (case kA => exact rfl); (case kF => exact rfl); (case kK => assumption); (case k1 => k_asm); (case k2 => k_asm); (case k3 => k_asm); (case k4 => k_asm); (case k5 => k_asm); (case k6 => k_is); (case k7 => k_is); (case k8 => ktr_room); (case k9 => first | exact BindsTo.of_eq rfl | exact binds_K (by k_in) rfl (by k_is) rfl rfl rfl); (case c5 => decide); (case kB => exact locs rfl); (case c2 => exact rfl); (case c3 => exact rfl); (case c4 => exact rfl); k_whole; intro P9 hP9 g' L' h' H' F' N' B' X' T' l'; (try dsimp only); (try k_lt l'); (try k_fold)); (try (revert P9 hP9 g' L' h' H' F' N' B' X' T' l'; set_option tactic.hygienic true in intros)))
  k_with "LeaveQ" => ((k_dflt (refine' leaveQ ?kP ?k1 ?k2 ?_; (case kP => assumption); (case k1 => k_asm); (case k2 => k_asm); k_whole); intro kK kH; (try dsimp only)); (try (revert kK kH; set_option tactic.hygienic true in intros)))
  k_with "call builtin:list.pop" => ((k_here; k_dflt (refine' kl_popAt (k := 0) ?q9F ?q9N ?q9f ?q9k ?q9e ?q9U ?q9z ?_; (case q9F => k_asm); (case q9N => k_asm); (case q9U => k_upd); (case q9f => rfl); (case q9k => exact seq0 _ _); (case q9e => rfl); (case q9z => (simp only [List.length_cons, sizeLine_eq]; omega))); intro h' F' N'; (try dsimp only [List.nil_append, List.cons_append] at N')); (try (revert h' F' N'; set_option tactic.hygienic true in intros)))
  revert X; k_fill; intro X
  have o := O.ord
  unfold Lx.Ord at o
  refine wpAny_call ?_
  k_dflt cell_enter
  rename Hid _ _ _ => H
  w_strict (k_steps)
  rename Kp _ _ => kK
  rename Has _ _ => kH
  have h9 := has_led (x := x) (kH.get (by k_mem)) (kH.get (by k_mem)) (kH.get (by k_mem)) (kH.get (by k_mem)) (kH.get (by k_mem)) (kH.get (by k_mem)) (kH.get (by k_mem)) (kH.get (by k_mem)) (kH.get (by k_mem)) (kH.get (by k_mem))
  rw [List.concat_eq_append] at h9
  exact hret _ _ _ (lx_back H kK (News.has N) h9) h9
end
end Mine
end

section
set_option maxRecDepth 100000
set_option maxHeartbeats 4000000
namespace Mine
section
variable {h₀ h h' : Heap} {L : Addr} {m : Str → Option Value} {x : Lx} {i i' : Int} {it it' kt kt' : Tok} {q q' : List Value} {nq nq' k k' na na' : Nat} {pre post : List (Addr × Obj)}
theorem lx_stepP (F : Fr h₀ L h m) (N : News h₀ L h (pre ++ (x.led i it q nq k kt na ++ post))) (P : PreL x pre) (P' : PreL x post) (kp : KpBut [x.pb, x.dM, x.atl] h h') (H : Has h' (x.led i' it' q' nq' k' kt' na')) :
    Fr h₀ L h' m ∧ News h₀ L h' (pre ++ (x.led i' it' q' nq' k' kt' na' ++ post)) := by
  obtain ⟨F', N'⟩ := lx_step (pre := []) F (News.sub N fun p hp => List.mem_append_right _ (List.mem_append_left _ hp)) trivial kp H
  refine ⟨F', fun p hp => ?_⟩
  rcases List.mem_append.mp hp with hp | hp
  · have n := N p (List.mem_append_left _ hp)
    exact ⟨kp _ _ (P.mem p hp) n.1, n.2⟩
  · rcases List.mem_append.mp hp with hp | hp
    · exact N' p hp
    · have n := N p (List.mem_append_right _ (List.mem_append_right _ hp))
      exact ⟨kp _ _ (P'.mem p hp) n.1, n.2⟩
end
section
variable {w : World} {p : Program} {loose : List Str} {mean : ExcName → Option Value} {mg mb : Str → Option Value} {dp un : Nat} {gd : Option (List Code)} {cn : Str} {cs : Scope} {a : Addr} {ccd : Value} {cl : List (Str × Addr)} {outer : List Env} {A₀ : Around} {base h₀ : Heap} {L : Addr} {m : Str → Option Value} {s : Shared} {Q E : Value → Shared → Prop}
  {x : Lx} {i : Int} {it kt : Tok} {q : List Value} {nq k na : Nat} {post : List (Addr × Obj)}
theorem gt_led {out rest : List Nat} (pre : List (Addr × Obj)) (B : Below A₀ base outer h₀) (F : Fr h₀ L s.heap m) (X : (Mine.hd.heap_39 w.params).In h₀) (N : News h₀ L s.heap (pre ++ (x.led i it [] nq k kt na ++ post))) (T : Top p loose mean mg mb h₀) (O : x.Ok w) (P : PreL x pre) (P' : PreL x post) (hk : cs.kind = .function) (hd : dp + 3 < recursionLimit) (hu : un + 80 < cLine)
    (hkt : k ≤ x.t.length) (hO : Out (x.t.drop k) out rest)
    (hret : ∀ h' tk' it' kt' na' k' t', x.t.drop k' = rest → k' ≤ x.t.length → Fr h₀ L h' m → News h₀ L h' (pre ++ (x.led (i + nl (x.t.drop k) - nl rest) it' [] nq k' kt' na' ++ post)) → Q (.str (S out) t') { s with heap := h', toks := tk' }) :
    wpAny (model PySem.Challenge.rw_re0059_01.prog w) (ktrTop dp un gd cn cs L a ccd cl outer) (call (.ref 140) [.ref x.M]) Q E s :=
  gt_spec B F X T hk hd hu (News.sub N fun p hp => List.mem_append_right _ (List.mem_append_left _ hp)) O hkt hO fun h' tk' it' kt' na' k' t' e1 e2 kp H => by
    obtain ⟨F', N'⟩ := lx_stepP F N P P' kp H
    exact hret h' tk' it' kt' na' k' t' e1 e2 F' N'
theorem gp_led {v : Value} (pre : List (Addr × Obj)) (B : Below A₀ base outer h₀) (F : Fr h₀ L s.heap m) (X : (Mine.hd.heap_39 w.params).In h₀) (N : News h₀ L s.heap (pre ++ (x.led i it (v :: q) nq k kt na ++ post))) (T : Top p loose mean mg mb h₀) (O : x.Ok w) (P : PreL x pre) (P' : PreL x post) (hk : cs.kind = .function) (hd : dp + 3 < recursionLimit) (hu : un + 80 < cLine) (hz : q.length ≤ 1000)
    (hret : ∀ h' tk' nq', Fr h₀ L h' m → News h₀ L h' (pre ++ (x.led i it q nq' k kt na ++ post)) → Q v { s with heap := h', toks := tk' }) :
    wpAny (model PySem.Challenge.rw_re0059_01.prog w) (ktrTop dp un gd cn cs L a ccd cl outer) (call (.ref 140) [.ref x.M]) Q E s :=
  gp_spec B F X T hk hd hu (News.sub N fun p hp => List.mem_append_right _ (List.mem_append_left _ hp)) O hz fun h' tk' nq' kp H => by
    obtain ⟨F', N'⟩ := lx_stepP F N P P' kp H
    exact hret h' tk' nq' F' N'
theorem push_led {l : List Nat} {tv : Tok} (pre : List (Addr × Obj)) (B : Below A₀ base outer h₀) (F : Fr h₀ L s.heap m) (X : (Mine.hd.heap_39 w.params).In h₀) (N : News h₀ L s.heap (pre ++ (x.led i it q nq k kt na ++ post))) (T : Top p loose mean mg mb h₀) (O : x.Ok w) (P : PreL x pre) (P' : PreL x post) (hk : cs.kind = .function) (hd : dp + 3 < recursionLimit) (hu : un + 80 < cLine) (hz : q.length ≤ 1000)
    (hret : ∀ h' tk' nq', Fr h₀ L h' m → News h₀ L h' (pre ++ (x.led i it (q ++ [.str (S l) tv]) nq' k kt na ++ post)) → Q .none { s with heap := h', toks := tk' }) :
    wpAny (model PySem.Challenge.rw_re0059_01.prog w) (ktrTop dp un gd cn cs L a ccd cl outer) (call (.ref 147) [.ref x.M, .str (S l) tv]) Q E s :=
  push_spec B F X T hk hd hu (News.sub N fun p hp => List.mem_append_right _ (List.mem_append_left _ hp)) O hz fun h' tk' nq' kp H => by
    obtain ⟨F', N'⟩ := lx_stepP F N P P' kp H
    exact hret h' tk' nq' F' N'
end

section
variable {prog : Program} {w : World} {A : Around} {E : Value → Shared → Prop} {s : Shared} {h₀ : Heap} {m : Str → Option Value} {env : Env} {x : Str} {body : List Stmt} {Q : Flow → Shared → Prop}
/-- a loop over a small range, begun -/
theorem iter_turns {r : Addr} {lo hi : Int} {t u v : Tok} {n : Nat} {news : List (Addr × Obj)} (hR : IsRange s.heap r lo hi 1 t u v) (hs : Builtin.Range.small lo hi 1 = true) (hn : Builtin.Range.rangeSize lo hi 1 = (n : Int)) (F : Fr h₀ env.locals s.heap m) (N : News h₀ env.locals s.heap news)
    (J : Nat → (Str → Option Value) → List (Addr × Obj) → Shared → Prop) (hJ : ∀ i m news s h tk, J i m news s → J i m news { s with heap := h, toks := tk }) (h0 : J 0 m news s)
    (step : ∀ I : Addr, (∀ q ∈ news, @LT.lt Nat _ q.1 I) → (@LT.lt Nat _ env.locals I) → ∀ i m news s t, i < n → Fr h₀ env.locals s.heap (fun y => if y = x then some (.int (lo + i) t) else m y) → News h₀ env.locals s.heap ((I, riObj (lo + i + 1) ((n : Int) - i - 1)) :: news) → (∀ q ∈ news, q.1 ≠ I) → J i m news s → ∀ T : Flow → Shared → Prop, (∀ f s₃, (match f with
        | .next | .cont => ∃ m' news', Fr h₀ env.locals s₃.heap m' ∧ News h₀ env.locals s₃.heap ((I, riObj (lo + i + 1) ((n : Int) - i - 1)) :: news') ∧ (∀ q ∈ news', q.1 ≠ I) ∧ J (i + 1) m' news' s₃
        | .brk => Q .next s₃
        | .ret v => Q (.ret v) s₃) → T f s₃) →
      wpAny (model prog w) A (execs body env) (CiT T) E s)
    (done : ∀ m news s, Fr h₀ env.locals s.heap m → News h₀ env.locals s.heap news → J n m news s → Q .next s) :
    wpAny (model prog w) A (pyIter (.ref r)) (fun it s₂ => RangeTurns prog w A h₀ env x body Q E it s₂) E s := by
  refine wpAny_pyIter_range hR hs ?_
  rw [hn]
  have hlt : ∀ q ∈ news, @LT.lt Nat _ q.1 s.heap.objs.size := fun q hq => Heap.lt_size (N q hq).1
  exact ⟨s.heap.objs.size, lo, n, m, news, J, rfl, hJ, F.push _, N.push F _, fun q hq => Nat.ne_of_lt (hlt q hq), hJ _ _ _ _ _ s.toks h0, step _ hlt F.ns.lt, done⟩
end
end Mine
end

section
set_option maxRecDepth 100000
set_option maxHeartbeats 4000000
namespace Mine
theorem small8 {n : Nat} (h : n ≤ 8) : Builtin.Range.small 0 (n : Int) 1 = true ∧ Builtin.Range.rangeSize 0 (n : Int) 1 = (n : Int) := by
  revert n
  decide +kernel
/-- values that are the texts told -/
inductive Strs : List Value → List (List Nat) → Prop
  | nil : Strs [] []
  | cons (l : List Nat) (t : Tok) {vs : List Value} {ls : List (List Nat)} : Strs vs ls → Strs (.str (S l) t :: vs) (l :: ls)
theorem Strs.snoc {vs : List Value} {ls : List (List Nat)} {l : List Nat} {t : Tok} (h : Strs vs ls) : Strs (vs ++ [.str (S l) t]) (ls ++ [l]) := by
  induction h with
  | nil => exact .cons l t .nil
  | cons a u _ ih => exact .cons a u ih
theorem Strs.len {vs : List Value} {ls : List (List Nat)} (h : Strs vs ls) : vs.length = ls.length := by
  induction h with
  | nil => rfl
  | cons a u _ ih => rw [List.length_cons, List.length_cons, ih]
noncomputable abbrev geM (vk vo1 vo2 : Option Value) (M : Addr) (t : List Nat) (tt : Tok) : Str → Option Value := fun y => if y = Str.ofString "other" then vo2 else if y = Str.ofString "one" then vo1 else if y = Str.ofString "k" then vk else if y = Str.ofString "text" then some (.str (S t) tt) else if y = Str.ofString "machine" then some (.ref M) else none
section
variable {a b c v1 v2 v3 : Option Value} {M : Addr} {t : List Nat} {tt : Tok}
theorem geM_start : (fun y => if y = Str.ofString "text" then some (Value.str (S t) tt) else if y = Str.ofString "machine" then some (.ref M) else none) = geM none none none M t tt := by
  funext y
  simp only [geM]
  by_cases h1 : y = Str.ofString "other"
  · subst h1; rfl
  · rw [if_neg h1]
    by_cases h2 : y = Str.ofString "one"
    · subst h2; rfl
    · rw [if_neg h2]
      by_cases h3 : y = Str.ofString "k"
      · subst h3; rfl
      · rw [if_neg h3]
theorem geM_k : (fun y => if y = Str.ofString "k" then a else geM v1 v2 v3 M t tt y) = geM a v2 v3 M t tt := by
  funext y
  simp only [geM]
  by_cases h1 : y = Str.ofString "other"
  · subst h1; rfl
  · by_cases h2 : y = Str.ofString "one"
    · subst h2; rfl
    · rw [if_neg h1, if_neg h2, if_neg h1, if_neg h2]; split <;> rfl
theorem geM_all : (fun y => if y = Str.ofString "other" then c else if y = Str.ofString "one" then b else if y = Str.ofString "k" then a else geM v1 v2 v3 M t tt y) = geM a b c M t tt := by
  funext y
  simp only [geM]
  by_cases h1 : y = Str.ofString "other"
  · subst h1; rfl
  · by_cases h2 : y = Str.ofString "one"
    · subst h2; rfl
    · by_cases h3 : y = Str.ofString "k"
      · subst h3; rfl
      · rw [if_neg h1, if_neg h2, if_neg h3, if_neg h1, if_neg h2, if_neg h3, if_neg h1, if_neg h2, if_neg h3]
end
/-- the knock-out -/
noncomputable def gtu (up : Int) (a b : List Nat) : Bool := decide (b.map (fun c : Nat => up * (c : Int)) < a.map (fun c : Nat => up * (c : Int)))
noncomputable def koStep (up : Int) : List (List Nat) → List (List Nat)
  | a :: b :: r => r ++ [if gtu up a b then a else b]
  | q => q
noncomputable def koRun (up : Int) : Nat → List (List Nat) → List (List Nat)
  | 0, q => q
  | n + 1, q => koRun up n (koStep up q)
theorem koRun_succ (up : Int) : ∀ (n : Nat) (q : List (List Nat)), koRun up (n + 1) q = koStep up (koRun up n q)
  | 0, _ => rfl
  | n + 1, q => koRun_succ up n (koStep up q)
noncomputable def sufs (t : List Nat) : List (List Nat) := (List.range t.length).map t.drop
noncomputable def koEnd (up : Int) (t : List Nat) : List Nat := (koRun up (t.length - 1) (sufs t)).headD []
theorem koStep_len {up : Int} {q : List (List Nat)} (h : 2 ≤ q.length) : (koStep up q).length = q.length - 1 := by
  match q, h with
  | a :: b :: r, _ => simp [koStep]
theorem koRun_len {up : Int} (t : List Nat) : ∀ n, n + 1 ≤ t.length → (koRun up n (sufs t)).length = t.length - n := by
  intro n
  induction n with
  | zero => intro _; simp [koRun, sufs]
  | succ n ih =>
    intro h
    rw [koRun_succ, koStep_len (by rw [ih (by omega)]; omega), ih (by omega)]
    omega
end Mine
namespace Mine
/-- between the turns of the two loops -/
noncomputable def Ge1 (x : Lx) (t : List Nat) (tt : Tok) (L1 : Addr) (oU : Obj) (i : Int) (it : Tok) (k : Nat) (kt : Tok) (na : Nat) (s : Shared) (n : Nat) (m' : Str → Option Value) (news' : List (Addr × Obj)) (s' : Shared) : Prop :=
  ∃ vk q nq', m' = geM vk none none x.M t tt ∧ news' = (L1 + 1, oU) :: x.led i it q nq' k kt na ∧ Strs q ((List.range n).map t.drop) ∧ ∃ h tk, s' = { s with heap := h, toks := tk }
noncomputable def Ge2 (up : Int) (x : Lx) (t : List Nat) (tt : Tok) (L1 : Addr) (oU : Obj) (i : Int) (it : Tok) (k : Nat) (kt : Tok) (na : Nat) (s : Shared) (n : Nat) (m' : Str → Option Value) (news' : List (Addr × Obj)) (s' : Shared) : Prop :=
  ∃ vk v1 v2 q nq', m' = geM vk v1 v2 x.M t tt ∧ news' = (L1 + 1, oU) :: x.led i it q nq' k kt na ∧ Strs q (koRun up n (sufs t)) ∧ ∃ h tk, s' = { s with heap := h, toks := tk }
section
variable {up : Int} {x : Lx} {g : Heap} {t : List Nat} {tt : Tok} {L1 I : Addr} {oI oU : Obj} {i : Int} {it : Tok} {k : Nat} {kt : Tok} {na nq' : Nat} {s : Shared} {n : Nat} {h : Heap} {tk : Nat} {m : Str → Option Value} {vk v1 v2 : Option Value} {q q' : List Value} {l a b : List Nat} {r : List (List Nat)} {tv : Tok}
theorem led_off (hI : ∀ p ∈ (L1 + 1, oU) :: x.led i it q' nq' k kt na, p.1 ≠ I) {q : List Value} {nq : Nat} : ∀ p ∈ (L1 + 1, oU) :: x.led i it q nq k kt na, p.1 ≠ I := fun p hp => by
  rcases List.mem_cons.mp hp with rfl | hp
  · exact hI _ (.head _)
  · rcases List.mem_cons.mp hp with rfl | hp
    · exact hI (x.pb, W.listOf q'.toArray nq') (.tail _ (.head _))
    · exact hI p (.tail _ (.tail _ hp))
theorem ge1_end (F : Fr g L1 h m) (e : m = geM vk none none x.M t tt) (N : News g L1 h ((I, oI) :: (L1 + 1, oU) :: x.led i it (q ++ [.str (S l) tv]) nq' k kt na)) {q0 : List Value} {nq0 : Nat} (hI : ∀ p ∈ (L1 + 1, oU) :: x.led i it q0 nq0 k kt na, p.1 ≠ I) (hq : Strs q ((List.range n).map t.drop)) (hl : l = t.drop n) :
    ∃ m' news', Fr g L1 h m' ∧ News g L1 h ((I, oI) :: news') ∧ (∀ p ∈ news', p.1 ≠ I) ∧ Ge1 x t tt L1 oU i it k kt na s (n + 1) m' news' { s with heap := h, toks := tk } :=
  ⟨_, _, e ▸ F, N, led_off hI, vk, _, nq', rfl, rfl, by subst hl; rw [List.range_succ, List.map_append]; exact hq.snoc, h, tk, rfl⟩
end
end Mine
namespace Mine
theorem drop_eq {t : List Nat} {a b : Nat} (h : a = b) : t.drop a = t.drop b := by rw [h]
end Mine
namespace Mine
theorem koStep_all {up : Int} {P : List Nat → Prop} {q : List (List Nat)} (h : ∀ l ∈ q, P l) : ∀ l ∈ koStep up q, P l := by
  match q, h with
  | [], h => exact h
  | [a], h => exact h
  | a :: b :: r, h =>
    intro l hl
    simp only [koStep, List.mem_append, List.mem_cons, List.not_mem_nil, or_false] at hl
    rcases hl with hl | rfl
    · exact h l (.tail _ (.tail _ hl))
    · split
      · exact h a (.head _)
      · exact h b (.tail _ (.head _))
theorem koRun_all {up : Int} {P : List Nat → Prop} : ∀ (n : Nat) {q : List (List Nat)}, (∀ l ∈ q, P l) → ∀ l ∈ koRun up n q, P l
  | 0, _, h => h
  | n + 1, _, h => koRun_all n (koStep_all h)
theorem sufs_len (t : List Nat) : ∀ l ∈ sufs t, l.length ≤ t.length := by
  intro l hl
  obtain ⟨k, _, rfl⟩ := List.mem_map.mp hl
  rw [List.length_drop]; omega
end Mine
namespace Mine
section
variable {up : Int} {x : Lx} {g : Heap} {t : List Nat} {tt : Tok} {L1 I : Addr} {oI oU : Obj} {i : Int} {it : Tok} {k : Nat} {kt : Tok} {na nq' : Nat} {s : Shared} {n : Nat} {h : Heap} {tk : Nat} {m : Str → Option Value} {vk v1 v2 : Option Value} {q q' : List Value} {l a b : List Nat} {r : List (List Nat)} {tv : Tok}
theorem gtu_eq : gtu up a b = decide (b.map (fun c : Nat => up * (c : Int)) < a.map (fun c : Nat => up * (c : Int))) := rfl
theorem ge2_end {sh : List (Addr × Obj)} (F : Fr g L1 h m) (e : m = geM vk v1 v2 x.M t tt) (N : News g L1 h (sh ++ ((I, oI) :: (L1 + 1, oU) :: x.led i it (q ++ [.str (S l) tv]) nq' k kt na))) {q0 : List Value} {nq0 : Nat} (hI : ∀ p ∈ (L1 + 1, oU) :: x.led i it q0 nq0 k kt na, p.1 ≠ I) (hq : Strs q r) (hs : koRun up (n + 1) (sufs t) = koStep up (a :: b :: r)) (hl : (if gtu up a b then a else b) = l) :
    ∃ m' news', Fr g L1 h m' ∧ News g L1 h ((I, oI) :: news') ∧ (∀ p ∈ news', p.1 ≠ I) ∧ Ge2 up x t tt L1 oU i it k kt na s (n + 1) m' news' { s with heap := h, toks := tk } :=
  ⟨_, _, e ▸ F, News.sub N fun p hp => List.mem_append_right _ hp, led_off hI, vk, v1, v2, _, nq', rfl, rfl, by rw [hs]; simp only [koStep]; rw [hl]; exact hq.snoc, h, tk, rfl⟩
end
end Mine
namespace Mine
theorem gtu_t {up : Int} {a b : List Nat} (h : gtu up a b = true) : (if gtu up a b then a else b) = a := by rw [h]; rfl
theorem gtu_f {up : Int} {a b : List Nat} (h : gtu up a b = false) : (if gtu up a b then a else b) = b := by rw [h]; rfl
end Mine
namespace Mine
theorem gtu_t' {up : Int} {a b : List Nat} (h : b.map (fun c : Nat => up * (c : Int)) < a.map (fun c : Nat => up * (c : Int))) : (if gtu up a b then a else b) = a := gtu_t (decide_eq_true h)
theorem gtu_f' {up : Int} {a b : List Nat} (h : ¬ b.map (fun c : Nat => up * (c : Int)) < a.map (fun c : Nat => up * (c : Int))) : (if gtu up a b then a else b) = b := gtu_f (decide_eq_false h)
end Mine
end

section
set_option maxRecDepth 100000
set_option maxHeartbeats 4000000
namespace Mine
section
variable {prog : Program} {w : World} {A : Around} {E : Value → Shared → Prop} {s : Shared} {h₀ : Heap} {L : Addr} {m : Str → Option Value} {news : List (Addr × Obj)} {value slice : PySem.Expr} {l : List Nat} {t ui uj : Tok} {i j : Int} {Q : Value → Shared → Prop}
theorem sub_S_sn (F : Fr h₀ L s.heap m) (N : News h₀ L s.heap news) (h0 : 0 ≤ i) (hz : l.length ≤ 1000) (h : ∀ h' t' k, Fr h₀ L h' m → News h₀ L h' news → Q (.str (S (l.drop i.toNat)) t') { s with heap := h', toks := k })
    (hs : subscripted slice false (.str (S l) t) (.ref s.heap.objs.size) = operate [.ref s.heap.objs.size, .str (S l) t] (getItem (.str (S l) t) (.ref s.heap.objs.size))) (ht : ∀ r, letTemporaryGo value (.str (S l) t) r = pure ()) :
    wpAny (model prog w) A (subscriptTail value slice (.str (S l) t) (.ref s.heap.objs.size)) Q E { s with heap := s.heap.push { cls := .type "slice", data := .fields #[.int i ui, .none, .none] } } :=
  slice_strN_sn_len F N (fun h' t' k a b _ => by rw [slice_sn l h0]; exact h h' t' k a b) hs ht (by rw [S_len, sizeLine_eq]; omega)
theorem sub_S_ns (F : Fr h₀ L s.heap m) (N : News h₀ L s.heap news) (h0 : 0 ≤ j) (hz : l.length ≤ 1000) (h : ∀ h' t' k, Fr h₀ L h' m → News h₀ L h' news → Q (.str (S (l.take j.toNat)) t') { s with heap := h', toks := k })
    (hs : subscripted slice false (.str (S l) t) (.ref s.heap.objs.size) = operate [.ref s.heap.objs.size, .str (S l) t] (getItem (.str (S l) t) (.ref s.heap.objs.size))) (ht : ∀ r, letTemporaryGo value (.str (S l) t) r = pure ()) :
    wpAny (model prog w) A (subscriptTail value slice (.str (S l) t) (.ref s.heap.objs.size)) Q E { s with heap := s.heap.push { cls := .type "slice", data := .fields #[.none, .int j uj, .none] } } :=
  slice_strN_ns_len F N (fun h' t' k a b _ => by rw [slice_ns l h0]; exact h h' t' k a b) hs ht (by rw [S_len, sizeLine_eq]; omega)
end
end Mine
end

section
set_option maxRecDepth 100000
set_option maxHeartbeats 4000000
namespace Mine
open PySem.Calls PySem.Builtin
section
variable {prog : Program} {w : World} {A : Around} {E : Value → Shared → Prop} {s : Shared} {h₀ : Heap} {L : Addr} {m : Str → Option Value} {env : Env}
noncomputable def StrSrc (prog : Program) (w : World) (A : Around) (h₀ : Heap) (L : Addr) (m : Str → Option Value) (env : Env) (elt : Expr) (x : Str) (scope : Scope) (cl : List (Str × Addr)) (Q : Value → Shared → Prop) (xv : Value) (s₁ : Shared) : Prop :=
  ∃ l t news, xv = .str (S l) t ∧ A.handled = none ∧ Fr h₀ L s₁.heap m ∧ News h₀ L s₁.heap news ∧ l.length ≤ 1000 ∧
    ∀ g, LCg.CompRest prog w A h₀ L m env elt x scope cl { s₁ with heap := g } (fun _ => True) (SignAt (S l)) (LCg.FinE h₀ L m { s₁ with heap := g } Q) l.length 0 [] news
theorem striter_st {I : Addr} {ty : String} {x : Str} {t : Tok} : ∀ (i : Nat) (h h' : Heap) (o : Obj) (nw : List (Addr × Obj)), h.IsStrIter I ty x t i → h.get? I = some o → h'.get? I = some o → (∀ b o, h₀.get? b = some o → h'.get? b = some o) → News h₀ L h' nw → True → h'.IsStrIter I ty x t i :=
  fun i h h' o nw st e e' _ _ _ => by obtain ⟨o', q, r⟩ := st; rw [e] at q; cases q; exact ⟨o, e', r⟩
/-- [.. for x in text] -/
theorem ListComp_S {elt iter : Expr} {x : Str} {px : Pos} {scope : Scope} {cl : List (Str × Addr)} {pos : Pos} {Q : Value → Shared → Prop} (_F₀ : Fr h₀ L s.heap m)
    (hclos : closureFor scope env = pure cl) (hcell : ∀ y ∈ scope.names, y.2 ≠ .cell) (hkind : scope.kind = .function)
    (hnames : ∀ y ∈ scope.names, y.2 = .local → scope.names.lookup y.1 = some .local) (hx : scope.names.lookup x = some .local)
    (h : wpAny (model prog w) A (eval iter env) (StrSrc prog w A h₀ L m env elt x scope cl Q) E s)
    (hs : ∀ x, foldedSetIterable iter env x = pure x := by intro _; rfl) :
    wpAny (model prog w) A (eval (.ListComp elt [⟨.Name x px, iter, [], 0⟩] scope pos) env) Q E s := by
  rw [eval_ListComp]
  refine wpAny_comprehension_free (use := none) rfl hs hclos hkind hnames (wpAny_mono h (fun xv s₁ h₁ => ?_) fun _ _ e => e)
  obtain ⟨l, t, news, rfl, hh, F, N, hsz, R⟩ := h₁
  refine wpAny_pyIter_strU ?_
  have up : ∀ b o, s₁.heap.get? b = some o → (s₁.heap.push { cls := .type (strIterType (S l)), data := .fields #[.str (S l) t, .int 0 0] }).get? b = some o := fun b o e => Heap.get?_push_of_some _ e
  have hsize : (S l).cps.size = l.length := by simp [S]
  have W : Walks prog w A s₁.heap.objs.size [s₁.heap.objs.size] [s₁.heap.objs.size] (S l).cps.size (SignAt (S l)) (fun i h => h.IsStrIter s₁.heap.objs.size (strIterType (S l)) (S l) t i) := by
    unfold strIterType
    split
    · exact Walks.strAscii hh _ _ _
    · exact Walks.strWide hh _ _ _
  refine LCg.block_U (S := fun _ => True) (news := news) W (by rw [hsize, sizeLine_eq]; omega) (fun i h st => by obtain ⟨o, e, _⟩ := st; exact ⟨o, e⟩) striter_st hcell hkind hx ⟨_, Heap.get?_push_size _ rfl, rfl, rfl⟩
      (fun b hb => by rw [List.mem_singleton.mp hb]; show s₁.heap.objs.size < (s₁.heap.push _).objs.size; rw [Heap.size_push]; exact Nat.lt_succ_self _)
      (F.keeps up) (N.grown up) (Nat.ne_of_lt F.ns.lt) (next_is_new F) (fun p hp => Nat.ne_of_lt (Heap.lt_size (N p hp).1)) trivial (by rw [hsize]; exact R _) ?_
  intro D C h tk m' ys news' F' N' o1 hn hC₀ hD₀ hCL hDL hCD offC fin
  refine ⟨m', hn, fun h'' hs'' => fin D h'' tk (F'.change hs'' hCL hC₀) (fun p hp => ?_) o1⟩
  refine ⟨hs''.extBut _ _ ?_ (N' p hp).1, (N' p hp).2⟩
  rcases List.mem_cons.mp hp with rfl | hp
  · exact Ne.symm hCD
  · exact offC p hp

/-- the turns, where each sign gives an int and the ledger stays -/
theorem cfs_rest {elt : Expr} {x : Str} {scope : Scope} {cl : List (Str × Addr)} {Fin : List Value → List (Addr × Obj) → Prop} {news : List (Addr × Obj)} {l : List Nat} (g : Nat → Int)
    (turn : ∀ c t I oI C oC D m₂ ys h tk (E' : Value → Shared → Prop), c ∈ l → LCg.NsObj oC m₂ → m₂ x = some (.str (S [c]) t) → Fr h₀ L h m → News h₀ L h ((I, oI) :: (C, oC) :: (D, LCg.lst ys) :: news) → LCg.Off3 I C D news → ((@Ne Nat I C) ∧ (@Ne Nat I D) ∧ (@Ne Nat C D)) →
      wpAny (model prog w) A (eval elt (compEnvC scope cl C env)) (LCg.CompEnd h₀ L m { s with heap := h, toks := tk } I oI C oC D (LCg.lst ys) (fun _ => True) (fun y news' => KCfEl news (g c) y news')) E' { s with heap := h, toks := tk })
    (fin : ∀ ys, IntsAre ys (l.map g) → Fin ys news) : LCg.CompRest prog w A h₀ L m env elt x scope cl s (fun _ => True) (SignAt (S l)) Fin l.length 0 [] news := by
  have key : ∀ (j i : Nat) (ys : List Value), i + j = l.length → IntsAre ys ((l.take i).map g) → LCg.CompRest prog w A h₀ L m env elt x scope cl s (fun _ => True) (SignAt (S l)) Fin j i ys news := by
    intro j
    induction j with
    | zero =>
      intro i ys hi hy
      have e : i = l.length := by omega
      subst e
      rw [List.take_length] at hy
      exact LCg.CompRest.zero (fin ys hy)
    | succ j ih =>
      intro i ys hi hy
      refine LCg.CompRest.succ ?_
      intro v I oI C oC D m₂ h tk E' hv hC hx F N off ne
      obtain ⟨c, u, hc, rfl⟩ := hv
      have hc' : l[i]? = some c := by simpa [S] using hc
      refine wpAny_mono (turn c u I oI C oC D m₂ ys h tk E' (List.mem_of_getElem? hc') hC hx F N off ne) (fun y s₂ hq => ?_) fun _ _ e => e
      obtain ⟨h', tk', nw, e, F', N', off', hS, hn, t', hy'⟩ := hq
      rw [hn] at N' off'
      refine ⟨h', tk', news, e, F', N', off', hS, ?_⟩
      rw [hy']
      refine ih (i + 1) _ (by omega) ?_
      rw [List.take_add_one, hc']
      simpa using IntsAre.append hy (.cons (g c) t' .nil)
  exact key l.length 0 [] (by omega) (by simp only [List.take_zero, List.map_nil]; exact .nil)
end
end Mine
end

section
set_option maxRecDepth 100000
set_option maxHeartbeats 4000000
namespace Mine
open PySem.SeqAt PySem.MeetsSeq PySem.MeetsSeq2 PySem.MeetsSeq3
open AutoSeq1 (wpAny_loadPart')
theorem drop_two {ks ms : List Int} {i : Nat} {x y : Int} (hx : ks[i]? = some x) (hy : ms[i]? = some y) : decide (ms.drop i < ks.drop i) = (decide (y < x) || (y == x && decide (ms.drop (i + 1) < ks.drop (i + 1)))) := by
  obtain ⟨h1, e1⟩ := List.getElem?_eq_some_iff.mp hx
  obtain ⟨h2, e2⟩ := List.getElem?_eq_some_iff.mp hy
  rw [List.drop_eq_getElem_cons h1, List.drop_eq_getElem_cons h2, e1, e2, Bool.eq_iff_iff]
  simp [List.cons_lt_cons_iff]
theorem gt_loop (l b : Addr) (items items2 : Array Value) (n n2 : Nat) (ks ms : List Int) (hk : IntsAre items.toList ks) (hm : IntsAre items2.toList ms) (z : Nat) :
    ∀ i : Nat, items.size - i = z → i ≤ items.size → i ≤ items2.size → Meets (Builtin.«list.__eq__.loop» ⟨[.ref l, .ref b, rawInt i, rawInt 4], []⟩)
      (fun _ R s => s.heap.get? l = some { cls := .type "list", dict := none, data := .seq items n, slots := #[] } ∧ s.heap.get? b = some { cls := .type "list", dict := none, data := .seq items2 n2, slots := #[] } ∧
        R (.ok (.ret (.bool (decide (ms.drop i < ks.drop i))))) s) := by
  have lk : items.size = ks.length := by rw [← hk.length, Array.length_toList]
  have lm : items2.size = ms.length := by rw [← hm.length, Array.length_toList]
  induction z with
  | zero =>
    intro i hz hi1 hi2 prog w A R s h
    obtain ⟨hp, g, d, tk, os⟩ := s; obtain ⟨hl, hb, h⟩ := h
    wp_walk using wpAny_loadPart' hl, wpAny_loadPart' hb
    have e1 : items[((i : Nat) : Int).toNat]? = none := by simp; omega
    have ed : ks.drop i = [] := by simp; omega
    rw [e1]
    wp_walk using wpAny_loadPart' hl, wpAny_loadPart' hb
    show R (.ok (.ret (.bool (decide (items.size > items2.size))))) _
    rw [ed] at h
    have e2 : decide (items.size > items2.size) = decide (ms.drop i < ([] : List Int)) := by
      rw [decide_eq_false (by omega), decide_eq_false (by simp)]
    rw [e2]; exact h
  | succ z ih =>
    intro i hz hi1 hi2 prog w A R s h
    obtain ⟨hp, g, d, tk, os⟩ := s; obtain ⟨hl, hb, h⟩ := h
    wp_walk using wpAny_loadPart' hl, wpAny_loadPart' hb
    have hlt : i < items.size := by omega
    have e1 : items[((i : Nat) : Int).toNat]? = some items[i] := by simp [hlt]
    obtain ⟨x, tx, ex, kx⟩ := IntsAre.at hk i items[i] (by simp [hlt])
    by_cases hlt2 : i < items2.size
    · have e2 : items2[((i : Nat) : Int).toNat]? = some items2[i] := by simp [hlt2]
      obtain ⟨y, ty, ey, ky⟩ := IntsAre.at hm i items2[i] (by simp [hlt2])
      have hc : ((i : Int) + 1) = ((i + 1 : Nat) : Int) := by push_cast; rfl
      have hx : ks[i]? = some x := by first | exact ex | exact kx
      have hy : ms[i]? = some y := by first | exact ey | exact ky
      have vx : items[i] = .int x tx := by first | exact ex | exact kx
      have vy : items2[i] = .int y ty := by first | exact ey | exact ky
      rw [drop_two hx hy] at h
      rw [e1, e2]
      rw [vx, vy]
      refine wpAny_bind (wpAny_eqBool_int ?_)
      by_cases hxy : x = y
      · subst hxy
        have hb1 : (decide (x < x) || (x == x && decide (List.drop (i + 1) ms < List.drop (i + 1) ks))) = decide (List.drop (i + 1) ms < List.drop (i + 1) ks) := by simp
        rw [hb1] at h
        rw [beq_self_eq_true]
        wp_walk
        rw [hc]
        exact ⟨plainId_quiet plain_eq_loop _, codeAny_builtin entry_eq_loop (by
          rw [Around.under_plainId plain_eq_loop _]
          exact ih (i + 1) (by omega) (by omega) (by omega) prog w A R _ ⟨hl, hb, h⟩)⟩
      · have hb1 : (decide (y < x) || (y == x && decide (List.drop (i + 1) ms < List.drop (i + 1) ks))) = decide (y < x) := by
          rw [beq_eq_false_iff_ne.mpr (fun e => hxy e.symm)]; simp
        rw [hb1] at h
        rw [beq_eq_false_iff_ne.mpr hxy]
        wp_walk using wpAny_loadPart' hl, wpAny_loadPart' hb
        rw [e1, e2]
        dsimp only
        rw [vx, vy]
        refine wpAny_bind ?_
        exact PyProof.Rows.gt_int (wpAny_pure h)
    · have e2 : items2[((i : Nat) : Int).toNat]? = none := by simp; omega
      have ed : ms.drop i = [] := by simp; omega
      have hkd : ∃ a r, ks.drop i = a :: r := ⟨_, _, List.drop_eq_getElem_cons (by omega)⟩
      obtain ⟨ha, hr, ek⟩ := hkd
      rw [e1, e2]
      wp_walk using wpAny_loadPart' hl, wpAny_loadPart' hb
      show R (.ok (.ret (.bool (decide (items.size > items2.size))))) _
      rw [ed, ek] at h
      have e3 : decide (items.size > items2.size) = decide (([] : List Int) < ha :: hr) := by
        rw [decide_eq_true (by omega), decide_eq_true (by simp)]
      rw [e3]; exact h
theorem list_gt (l b : Addr) (items items2 : Array Value) (n n2 : Nat) (ks ms : List Int) (hk : IntsAre items.toList ks) (hm : IntsAre items2.toList ms) :
    Meets (Builtin.«list.__gt__» ⟨[.ref l, .ref b], []⟩)
      (fun _ R s => s.heap.get? l = some { cls := .type "list", dict := none, data := .seq items n, slots := #[] } ∧ s.heap.get? b = some { cls := .type "list", dict := none, data := .seq items2 n2, slots := #[] } ∧
        R (.ok (.ret (.bool (decide (ms < ks))))) s) := by
  intro prog w A R s h
  obtain ⟨hp, g, d, tk, os⟩ := s; obtain ⟨hl, hb, h⟩ := h
  have f3 := AutoSeq1.sub_list_list
  wp_walk using wpAny_loadPart' hl, wpAny_loadPart' hb
  exact ⟨plainId_quiet plain_eq_loop _, codeAny_builtin entry_eq_loop (by
    rw [Around.under_plainId plain_eq_loop _]
    exact gt_loop l b items items2 n n2 ks ms hk hm _ 0 rfl (Nat.zero_le _) (Nat.zero_le _) prog w A R _ ⟨hl, hb, by simpa using h⟩)⟩
section
variable {prog : Program} {w : World} {A : Around} {E : Value → Shared → Prop} {s : Shared} {h₀ : Heap} {L : Addr} {news : List (Addr × Obj)}
/-- two lists of ints of the ledger: > -/
theorem gt_lists {l b : Addr} {vs ws : List Value} {n n2 : Nat} {ks ms : List Int} {Q : Value → Shared → Prop} (N : News h₀ L s.heap news) (h1 : (l, W.listOf vs.toArray n) ∈ news) (h2 : (b, W.listOf ws.toArray n2) ∈ news) (hk : IntsAre vs ks) (hm : IntsAre ws ms) (hu : A.units < cLine)
    (h : Q (.bool (decide (ms < ks))) s) : wpAny (model prog w) A (compareOp .Gt (.ref l) (.ref b)) Q E s := by
  have e1 := (N _ h1).1
  have e2 := (N _ h2).1
  show wpAny _ _ (richCompare .Gt _ _) _ _ _
  exact richCompare_meets_room ⟨_, e1, rfl⟩ ⟨_, e2, rfl⟩ PySem.F.slot_list_gt PySem.F.entry_list_gt (PySem.F.args_list_gt_2 _ _) (list_gt l b vs.toArray ws.toArray n n2 ks ms hk hm) ⟨e1, e2, nofun, h⟩ hu
end
end Mine
end

section
set_option maxRecDepth 100000
set_option maxHeartbeats 8000000
namespace Mine
section
variable {w : World} {p : Program} {loose : List Str} {mean : ExcName → Option Value} {mg mb : Str → Option Value} {dp un : Nat} {gd : Option (List Code)} {cn : Str} {cs : Scope} {a : Addr} {ccd : Value} {cl : List (Str × Addr)} {outer : List Env} {A₀ : Around} {base h₀ : Heap} {L : Addr} {m : Str → Option Value} {s : Shared} {Q E : Value → Shared → Prop}
theorem ge_spec (B : Below A₀ base outer h₀) (F : Fr h₀ L s.heap m) (X : (Mine.hd.heap_39 w.params).In h₀) (T : Top p loose mean mg mb h₀) (hk : cs.kind = .function) (hd : dp + 4 < recursionLimit) (hu : un + 120 < cLine)
    {x : Lx} {i : Int} {it kt : Tok} {nq k na : Nat} (N : News h₀ L s.heap (x.led i it [] nq k kt na)) (O : x.Ok w) {t : List Nat} {tt ut : Tok} {up : Int} (ht1 : 1 ≤ t.length) (ht8 : t.length ≤ 8) (hup : up = 1 ∨ up = -1)
    (hret : ∀ h' tk' nq' tv, KpBut [x.pb, x.dM, x.atl] s.heap h' → Has h' (x.led i it [] nq' k kt na) → Q (.str (S (koEnd up t)) tv) { s with heap := h', toks := tk' }) :
    wpAny (model PySem.Challenge.rw_re0059_01.prog w) (ktrTop dp un gd cn cs L a ccd cl outer) (call (.ref 166) [.ref x.M, .str (S t) tt, .int up ut]) Q E s := by
  k_with_none
  w_top off
  k_with "lt" => (first | (with_reducible assumption) | (apply And.left; (first | (with_reducible assumption) | (apply And.right; (first | (with_reducible assumption) | (apply And.right; (first | (with_reducible assumption) | (apply And.right; (first | (with_reducible assumption) | (apply And.right; (first | (with_reducible assumption) | (apply And.right; (first | (with_reducible assumption) | (apply And.right; (first | (with_reducible assumption) | (apply And.right; (first | (with_reducible assumption) | (apply And.right; (first | (with_reducible assumption) | (apply And.right; (first | (with_reducible assumption) | (apply And.right; (first | (with_reducible assumption) | (apply And.right; (first | (with_reducible assumption) | (apply And.right; (first | (with_reducible assumption) | (apply And.right; (first | (with_reducible assumption) | (apply And.right; (first | (with_reducible assumption) | (apply And.right; (first | (with_reducible assumption) | (apply And.right; (first | (with_reducible assumption) | (apply And.right; (first | (with_reducible assumption) | (apply And.right; (first | (with_reducible assumption) | (apply And.right; (first | (with_reducible assumption) | (apply And.right; (first | (with_reducible assumption) | (apply And.right; (first | (with_reducible assumption) | (apply And.right; (first | (with_reducible assumption) | (apply And.right; (first | (with_reducible assumption) | (apply And.right; (first | (with_reducible assumption) | (apply And.right; (with_reducible assumption)))))))))))))))))))))))))))))))))))))))))))))))))))) | (apply And.right; (first | (with_reducible assumption) | (apply And.right; (first | (with_reducible assumption) | (apply And.right; (first | (with_reducible assumption) | (apply And.right; (first | (with_reducible assumption) | (apply And.right; (first | (with_reducible assumption) | (apply And.right; (first | (with_reducible assumption) | (apply And.right; (first | (with_reducible assumption) | (apply And.right; (first | (with_reducible assumption) | (apply And.right; (first | (with_reducible assumption) | (apply And.right; (first | (with_reducible assumption) | (apply And.right; (first | (with_reducible assumption) | (apply And.right; (first | (with_reducible assumption) | (apply And.right; (first | (with_reducible assumption) | (apply And.right; (first | (with_reducible assumption) | (apply And.right; (first | (with_reducible assumption) | (apply And.right; (first | (with_reducible assumption) | (apply And.right; (first | (with_reducible assumption) | (apply And.right; (first | (with_reducible assumption) | (apply And.right; (first | (with_reducible assumption) | (apply And.right; (first | (with_reducible assumption) | (apply And.right; (first | (with_reducible assumption) | (apply And.right; (first | (with_reducible assumption) | (apply And.right; (first | (with_reducible assumption) | (apply And.right; (first | (with_reducible assumption) | (apply And.right; (first | (with_reducible assumption) | (apply And.right; (with_reducible assumption)))))))))))))))))))))))))))))))))))))))))))))))))))))
  k_with "k_ne" => (refine neN ?_; (try dsimp only); first | k_extra "lt" | (refine Ne.symm ?_; k_extra "lt") | (refine Nat.ne_of_lt ?_; k_extra "lt") | (refine Nat.ne_of_gt ?_; k_extra "lt") | (refine Nat.ne_of_lt (Nat.lt_add_right _ ?_); k_extra "lt") | (refine Nat.ne_of_gt (Nat.lt_add_right _ ?_); k_extra "lt") | (refine Nat.ne_of_lt (Nat.lt_add_right _ (Nat.lt_add_right _ ?_)); k_extra "lt") | (refine Nat.ne_of_gt (Nat.lt_add_right _ (Nat.lt_add_right _ ?_)); k_extra "lt") | (refine cell_ne2 ?_; decide) | (refine cell_ne ?_; k_extra "lt") | (refine Ne.symm (cell_ne ?_); k_extra "lt"))
  k_with "CiT" => ((k_here; (refine' CiT.mk ?kP ?_; (case kP => assumption)); (try dsimp only)))
  k_with "cell_enter" => ((refine' enterQC ?k1 ?k2 ?k3 ?k4 ?k5 ?kA ?kF ?kK ?k6 ?k7 ?k8 ?k9 ?kB ?kD ?_ ?c2 ?c3 ?c4; (case kA => exact rfl); (case kF => exact rfl); (case kK => assumption); (case k1 => k_asm); (case k2 => k_asm); (case k3 => k_asm); (case k4 => k_asm); (case k5 => k_asm); (case k6 => k_is); (case k7 => k_is); (case k8 => ktr_room); (case k9 => first | exact BindsTo.of_eq rfl | exact binds_K (by k_in) rfl (by k_is) rfl rfl rfl); (case kB => exact rfl); (case kD => decide +kernel); (case c2 => exact rfl); (case c3 => exact rfl); (case c4 => exact rfl); k_whole; intro P9 hP9 g' L' h' tk' cells' H' F' N' Y' B' X' T' l' e'; (try k_lt l'); k_cells Y'; (try simp only [List.cons_append, List.nil_append] at N'); (try dsimp only); (try k_fold)))
  k_with "LeaveQ" => ((k_dflt (refine' leaveQ ?kP ?k1 ?k2 ?_; (case kP => assumption); (case k1 => k_asm); (case k2 => k_asm); k_whole); intro kK kH; (try dsimp only)); (try (revert kK kH; set_option tactic.hygienic true in intros)))
  k_with "exec For Name Call cons nil" => ((k_here; (rename Fr _ _ _ _ => lF'); (with_unfolding_all refine' For_range lF' ?q9x ?q9p ?q9h ?_; (case q9x => exact rfl); (case q9p => exact rfl); (case q9h => exact rfl); k_whole)))
  k_with "tb_rel" => (((dsimp only [PreL]); (repeat' refine And.intro ?_ ?_) <;> first | exact True.intro | k_ne))
  k_with "call ref" => ((k_here; (try dsimp only [List.cons_append, List.nil_append, List.append_nil]); (with_reducible show wpAny _ _ (call (Value.ref 147) _) _ _ _); k_dflt (first
      | (refine' push_led (post := []) [_, _] ?q9B ?q9F ?q9X ?q9N ?q9T ?q9O ?q9P ?q9Q ?q9k ?q9d ?q9u ?q9z ?_; (case q9B => k_asm); (case q9F => k_asm); (case q9X => k_asm); (case q9N => k_asm); (case q9T => k_asm); (case q9O => assumption); (case q9P => tb_rel); (case q9Q => exact True.intro); (case q9k => exact rfl); (case q9d => ktr_room); (case q9u => ktr_units); (case q9z => ((try simp only [List.length_cons, List.length_append, List.length_nil]); omega)); k_whole)
      | (refine' push_led (post := []) [_, _, _, _] ?q9B ?q9F ?q9X ?q9N ?q9T ?q9O ?q9P ?q9Q ?q9k ?q9d ?q9u ?q9z ?_; (case q9B => k_asm); (case q9F => k_asm); (case q9X => k_asm); (case q9N => k_asm); (case q9T => k_asm); (case q9O => assumption); (case q9P => tb_rel); (case q9Q => exact True.intro); (case q9k => exact rfl); (case q9d => ktr_room); (case q9u => ktr_units); (case q9z => ((try simp only [List.length_cons, List.length_append, List.length_nil]); omega)); k_whole)); intro h' tk' nq' F' N'; (try dsimp only [Lx.led, List.cons_append, List.nil_append] at N'); (try k_sweep)); (try (revert h' tk' nq' F' N'; set_option tactic.hygienic true in intros)))
  k_with "call ref" => ((k_here; (try dsimp only [List.cons_append, List.nil_append, List.append_nil]); (with_reducible show wpAny _ _ (call (Value.ref 140) _) _ _ _); k_dflt (first
      | (refine' gp_led (post := []) [_] ?q9B ?q9F ?q9X ?q9N ?q9T ?q9O ?q9P ?q9Q ?q9k ?q9d ?q9u ?q9z ?_; (case q9B => k_asm); (case q9F => k_asm); (case q9X => k_asm); (case q9N => k_asm); (case q9T => k_asm); (case q9O => assumption); (case q9P => tb_rel); (case q9Q => exact True.intro); (case q9k => exact rfl); (case q9d => ktr_room); (case q9u => ktr_units); (case q9z => ((try simp only [List.length_cons, List.length_append, List.length_nil]); omega)); k_whole)
      | (refine' gp_led (post := []) [_, _] ?q9B ?q9F ?q9X ?q9N ?q9T ?q9O ?q9P ?q9Q ?q9k ?q9d ?q9u ?q9z ?_; (case q9B => k_asm); (case q9F => k_asm); (case q9X => k_asm); (case q9N => k_asm); (case q9T => k_asm); (case q9O => assumption); (case q9P => tb_rel); (case q9Q => exact True.intro); (case q9k => exact rfl); (case q9d => ktr_room); (case q9u => ktr_units); (case q9z => ((try simp only [List.length_cons, List.length_append, List.length_nil]); omega)); k_whole)); intro h' tk' nq' F' N'; (try dsimp only [Lx.led, List.cons_append, List.nil_append] at N'); (try k_sweep)); (try (revert h' tk' nq' F' N'; set_option tactic.hygienic true in intros)))
  k_with "subscriptTail Name Slice str ref" => ((k_here; (with_reducible show wpAny _ _ (subscriptTail _ (PySem.Expr.Slice (some _) none none _) _ _) _ _ _); k_dflt (refine' sub_S_sn ?q9F ?q9N ?q9h ?q9z ?_ ?q9s ?q9t; (case q9F => k_asm); (case q9N => k_asm); (case q9h => omega); (case q9z => omega); (case q9s => with_unfolding_all rfl); (case q9t => first | (intro _; with_unfolding_all rfl))); intro h' t' k' F' N'); (try (revert h' t' k' F' N'; set_option tactic.hygienic true in intros)))
  k_with "Exists" => ((k_here; k_dflt (first
      | (refine' ge1_end ?q9F ?q9e ?q9N ?q9I ?q9q ?q9l; (case q9F => k_asm); (case q9N => k_asm); (case q9e => exact geM_k); (case q9I => assumption); (case q9q => assumption); (case q9l => exact drop_eq (by omega)))
      | (refine' ge2_end (sh := [_, _]) ?q9F ?q9e ?q9N ?q9I ?q9q ?q9s ?q9l; (case q9F => k_asm); (case q9N => k_asm); (case q9e => exact geM_all); (case q9I => assumption); (case q9q => assumption); (case q9s => assumption); (case q9l => first | exact gtu_t' (by assumption) | exact gtu_f' (by assumption))))))
  k_with "eval ListComp" => ((k_here; (rename Fr _ _ _ _ => lF'); k_dflt (refine' ListComp_S lF' ?q9c ?q9l ?q9k ?q9n ?q9x ?_; (case q9c => exact rfl); (case q9l => decide); (case q9k => exact rfl); (case q9n => decide); (case q9x => exact rfl)); k_whole))
  k_with "eval Name" => ((k_here; (with_reducible show wpAny _ _ (eval (Expr.Name _ _) (compEnvC _ _ _ _)) _ _ _); k_dflt (refine' LCgL.ld_built ?q9a ?q9b ?q9c ?q9d ?q9e ?q9f ?_; (case q9a => k_asm); (case q9b => k_asm); (case q9c => k_asm); (case q9d => k_is); (case q9e => boot_by_name); (case q9f => decide))))
  k_with "compareOp Gt ref ref" => ((k_here; k_dflt (refine' gt_lists ?q9N ?q9a ?q9b ?q9c ?q9d ?q9u ?_; (case q9N => k_asm); (case q9a => k_mem); (case q9b => k_mem); (case q9c => assumption); (case q9d => assumption); (case q9u => ktr_units))))
  revert X; k_fill; intro X
  have o := O.ord
  unfold Lx.Ord at o
  refine wpAny_call ?_
  k_dflt cell_enter
  rename Hid _ _ _ => H
  have htl : (S t).length = t.length := S_len t
  w_strict (k_steps)
  rename_i F1 oU dU N1 h2 tk2 t₁ u₁ v₁ hR F2 N2 k2
  have hu64 : up < 2 ^ 64 := by clear o l' htl; omega
  have hv64 : -2 ^ 64 < up := by clear o l' htl; omega
  obtain ⟨sm, sz⟩ := small8 ht8
  rw [htl] at hR
  have hU : oU.data = Data.cell (some (.int up ut)) := dU
  have F3 : Fr g' L' h2 (geM none none none x.M t tt) := Fr.as F2 geM_start
  refine iter_turns hR sm sz F3 N2 (Ge1 x t tt L' oU i it k kt na s) ?_ ⟨none, [], nq, rfl, rfl, .nil, _, _, rfl⟩ ?_ ?_
  · rintro n m' news' s' h tk ⟨vk, q, nq', e1, e2, e3, h9, tk9, rfl⟩
    exact ⟨vk, q, nq', e1, e2, e3, h, tk, rfl⟩
  · intro I lI lL n m' news' s' t' hn F4 N4 hN4 hJ T9 hT9
    obtain ⟨vk, q, nq', rfl, rfl, hq, h9, tk9, rfl⟩ := hJ
    replace lI := allLt_of lI
    simp only [AllLt, and_true] at lI
    have hql := hq.len
    rw [List.length_map, List.length_range] at hql
    clear F3 F2 N2 F1 N1
    w_strict (k_steps)
  · rintro m' news' s' F4 N4 ⟨vk, q, nq', rfl, rfl, hq, h9, tk9, rfl⟩
    clear F3 F2 N2 F1 N1 hR k2
    w_strict (k_steps)
    rename_i F6 N6 h6 tk6 t₆ u₆ v₆ hR6 F7 N7 k7
    obtain ⟨sm6, sz6⟩ := small8 (n := t.length - 1) (by omega)
    rw [htl, show ((t.length : Int) - 1) = ((t.length - 1 : Nat) : Int) by omega] at hR6
    refine iter_turns hR6 sm6 sz6 F7 N7 (Ge2 up x t tt L' oU i it k kt na s) ?_ ⟨vk, none, none, q, nq', rfl, rfl, hq, _, _, rfl⟩ ?_ ?_
    · rintro n m' news' s' h tk ⟨vk, v1, v2, q, nq', e1, e2, e3, h9, tk9, rfl⟩
      exact ⟨vk, v1, v2, q, nq', e1, e2, e3, h, tk, rfl⟩
    · intro I lI lL n m' news' s' t' hn F8 N8 hN8 hJ T9 hT9
      obtain ⟨vk2, v1, v2, q2, nq2, rfl, rfl, hq2, h9, tk9, rfl⟩ := hJ
      replace lI := allLt_of lI
      simp only [AllLt, and_true] at lI
      have hln := koRun_len (up := up) t n (by omega)
      have hstep := koRun_succ up n (sufs t)
      have hall := koRun_all (up := up) n (sufs_len t)
      clear F7 N7 F6 N6 hR6 k7
      generalize koRun up n (sufs t) = Z at hq2 hln hstep hall
      cases hq2 with
      | nil => simp at hln; omega
      | cons la ta hq3 =>
        cases hq3 with
        | nil => simp at hln; omega
        | cons lb tb hq4 =>
          have hql := hq4.len
          simp only [List.length_cons] at hln
          have hz8 := Nat.le_trans (Nat.le_of_eq hql) (show _ ≤ 6 by clear lI; omega)
          dsimp only [Lx.led] at N8
          have hla : la.length ≤ t.length := hall _ (.head _)
          have hlb : lb.length ≤ t.length := hall _ (.tail _ (.head _))
          w_strict (k_steps)
          refine ⟨_, _, _, rfl, rfl, (by k_asm), (by k_asm), (by omega), fun gh9 => ?_⟩
          refine cfs_rest (fun c : Nat => up * (c : Int)) (fun c tc I9 oI9 C9 oC9 D9 m9 ys9 hh9 tk9 E9 hc hoC hm9 F9 N9 off9 ne9 => ?turn) (fun ys9 hy9 => ?fin)
          case turn =>
            w_strict (k_steps)
            exact kcf_el rfl rfl rfl
          case fin =>
            intro D9 hh9 tk9 F9 N9 off9
            simp only [LCg.Off1, and_true] at off9
            w_strict (k_steps)
            refine ⟨_, _, _, rfl, rfl, (by k_asm), (by k_asm), (by omega), fun gh5 => ?_⟩
            refine cfs_rest (fun c : Nat => up * (c : Int)) (fun c tc I5 oI5 C5 oC5 D5 m5 ys5 hh5 tk5 E5 hc hoC hm5 F5 N5 off5 ne5 => ?turn) (fun ys5 hy5 => ?fin)
            case turn =>
              w_strict (k_steps)
              exact kcf_el rfl rfl rfl
            case fin =>
              intro D5 hh5 tk5 F5 N5 off5
              simp only [LCg.Off1, and_true] at off5
              w_strict (k_steps)
    · rintro m' news' s' F8 N8 ⟨vk2, v1, v2, q2, nq2, rfl, rfl, hq2, h9, tk9, rfl⟩
      have hln := koRun_len (up := up) t (t.length - 1) (by omega)
      clear F7 N7 F6 N6 hR6 k7
      unfold koEnd at hret
      generalize koRun up (t.length - 1) (sufs t) = Z at hq2 hln hret
      cases hq2 with
      | nil => simp at hln; omega
      | cons la ta hq3 =>
        cases hq3 with
        | cons lb tb hq4 => simp only [List.length_cons] at hln; omega
        | nil =>
          dsimp only [Lx.led] at N8
          w_strict (k_steps)
          rename Kp _ _ => kK
          rename Has _ _ => kH
          have h9 := has_led (x := x) (kH.get (by k_mem)) (kH.get (by k_mem)) (kH.get (by k_mem)) (kH.get (by k_mem)) (kH.get (by k_mem)) (kH.get (by k_mem)) (kH.get (by k_mem)) (kH.get (by k_mem)) (kH.get (by k_mem)) (kH.get (by k_mem))
          exact hret _ _ _ _ (lx_back H kK (News.has N) h9) h9
end
end Mine
end

section
set_option maxRecDepth 100000
set_option maxHeartbeats 8000000
namespace Mine

section
variable {w : World} {p : Program} {loose : List Str} {mean : ExcName → Option Value} {mg mb : Str → Option Value} {dp un : Nat} {gd : Option (List Code)} {cn : Str} {cs : Scope} {a : Addr} {ccd : Value} {cl : List (Str × Addr)} {outer : List Env} {A₀ : Around} {base h₀ : Heap} {L : Addr} {m : Str → Option Value} {s : Shared} {Q E : Value → Shared → Prop}
theorem ell_spec (B : Below A₀ base outer h₀) (F : Fr h₀ L s.heap m) (X : (Mine.hd.heap_39 w.params).In h₀) (T : Top p loose mean mg mb h₀) (hk : cs.kind = .function) (hd : dp + 1 < recursionLimit) (hu : un + 8 < cLine)
    {wd gt : List Nat} {t1 t2 : Tok} (hw : wd.length < 100) (hg : gt.length < 100) (hdots : ∀ c ∈ wd, c ≠ 46)
    (hret : ∀ h' tk', Kp s.heap h' → Q (.bool (wd.isPrefixOf gt)) { s with heap := h', toks := tk' }) :
    wpAny (model PySem.Challenge.rw_re0059_01.prog w) (ktrTop dp un gd cn cs L a ccd cl outer) (call (.ref 112) [.str (S wd ++ Str.ofString "...") t1, .str (S gt) t2]) Q E s := by
  k_with_none
  w_top off
  k_with "lt" => (first | (with_reducible assumption) | (apply And.left; (first | (with_reducible assumption) | (apply And.right; (first | (with_reducible assumption) | (apply And.right; (first | (with_reducible assumption) | (apply And.right; (first | (with_reducible assumption) | (apply And.right; (first | (with_reducible assumption) | (apply And.right; (first | (with_reducible assumption) | (apply And.right; (first | (with_reducible assumption) | (apply And.right; (first | (with_reducible assumption) | (apply And.right; (first | (with_reducible assumption) | (apply And.right; (first | (with_reducible assumption) | (apply And.right; (first | (with_reducible assumption) | (apply And.right; (first | (with_reducible assumption) | (apply And.right; (first | (with_reducible assumption) | (apply And.right; (first | (with_reducible assumption) | (apply And.right; (first | (with_reducible assumption) | (apply And.right; (first | (with_reducible assumption) | (apply And.right; (first | (with_reducible assumption) | (apply And.right; (first | (with_reducible assumption) | (apply And.right; (first | (with_reducible assumption) | (apply And.right; (first | (with_reducible assumption) | (apply And.right; (first | (with_reducible assumption) | (apply And.right; (first | (with_reducible assumption) | (apply And.right; (first | (with_reducible assumption) | (apply And.right; (first | (with_reducible assumption) | (apply And.right; (first | (with_reducible assumption) | (apply And.right; (with_reducible assumption)))))))))))))))))))))))))))))))))))))))))))))))))))) | (apply And.right; (first | (with_reducible assumption) | (apply And.right; (first | (with_reducible assumption) | (apply And.right; (first | (with_reducible assumption) | (apply And.right; (first | (with_reducible assumption) | (apply And.right; (first | (with_reducible assumption) | (apply And.right; (first | (with_reducible assumption) | (apply And.right; (first | (with_reducible assumption) | (apply And.right; (first | (with_reducible assumption) | (apply And.right; (first | (with_reducible assumption) | (apply And.right; (first | (with_reducible assumption) | (apply And.right; (first | (with_reducible assumption) | (apply And.right; (first | (with_reducible assumption) | (apply And.right; (first | (with_reducible assumption) | (apply And.right; (first | (with_reducible assumption) | (apply And.right; (first | (with_reducible assumption) | (apply And.right; (first | (with_reducible assumption) | (apply And.right; (first | (with_reducible assumption) | (apply And.right; (first | (with_reducible assumption) | (apply And.right; (first | (with_reducible assumption) | (apply And.right; (first | (with_reducible assumption) | (apply And.right; (first | (with_reducible assumption) | (apply And.right; (first | (with_reducible assumption) | (apply And.right; (first | (with_reducible assumption) | (apply And.right; (first | (with_reducible assumption) | (apply And.right; (first | (with_reducible assumption) | (apply And.right; (with_reducible assumption)))))))))))))))))))))))))))))))))))))))))))))))))))))
  k_with "k_ne" => (refine neN ?_; (try dsimp only); first | k_extra "lt" | (refine Ne.symm ?_; k_extra "lt") | (refine Nat.ne_of_lt ?_; k_extra "lt") | (refine Nat.ne_of_gt ?_; k_extra "lt") | (refine Nat.ne_of_lt (Nat.lt_add_right _ ?_); k_extra "lt") | (refine Nat.ne_of_gt (Nat.lt_add_right _ ?_); k_extra "lt") | (refine Nat.ne_of_lt (Nat.lt_add_right _ (Nat.lt_add_right _ ?_)); k_extra "lt") | (refine Nat.ne_of_gt (Nat.lt_add_right _ (Nat.lt_add_right _ ?_)); k_extra "lt") | (refine cell_ne2 ?_; decide) | (refine cell_ne ?_; k_extra "lt") | (refine Ne.symm (cell_ne ?_); k_extra "lt"))
  k_with "cell_enter" => ((refine' enterQ ?k1 ?k2 ?k3 ?k4 ?k5 ?kA ?kF ?kK ?k6 ?k7 ?k8 ?k9 ?kB ?_ ?c2 ?c3 ?c4 ?c5; (case kA => exact rfl); (case kF => exact rfl); (case kK => assumption); (case k1 => k_asm); (case k2 => k_asm); (case k3 => k_asm); (case k4 => k_asm); (case k5 => k_asm); (case k6 => k_is); (case k7 => k_is); (case k8 => ktr_room); (case k9 => first | exact BindsTo.of_eq rfl | exact binds_K (by k_in) rfl (by k_is) rfl rfl rfl); (case c5 => decide); (case kB => exact locs rfl); (case c2 => exact rfl); (case c3 => exact rfl); (case c4 => exact rfl); k_whole; intro P9 hP9 g' L' h' H' F' N' B' X' T' l'; (try dsimp only); (try k_lt l'); (try k_fold)); (try (revert P9 hP9 g' L' h' H' F' N' B' X' T' l'; set_option tactic.hygienic true in intros)))
  k_with "LeaveQ" => ((k_dflt (refine' leaveQ ?kP ?k1 ?k2 ?_; (case kP => assumption); (case k1 => k_asm); (case k2 => k_asm); k_whole); intro kK kH; (try dsimp only)); (try (revert kK kH; set_option tactic.hygienic true in intros)))
  k_with "call builtin:str.find" => (((with_reducible show wpAny _ _ (call (Value.builtin "str.find") [Value.str _ _, Value.str (S []) _, Value.int _ _, Value.int _ _]) _ _ _); refine find4 (by omega) (by omega) (by omega) ?_))
  revert X; k_fill; intro X
  have hwl : (S wd).length < 100 := by rw [S_len]; exact hw
  have hgl : (S gt).length < 100 := by rw [S_len]; exact hg
  have N : News h₀ L s.heap [] := News.nil
  refine wpAny_call ?_
  k_dflt cell_enter
  w_strict (k_steps)
  · exfalso
    rename (Builtin.Str.occurrences _ _ _ _ _).isEmpty = true => ho
    rw [dots_S, S_app, occ1_dots hdots] at ho
    cases ho
  · rename (List.map _ _ = Txt.split _ _) => hsp
    rename StrsAre _ _ => hsa
    rw [dots_S, S_app, split_dots hdots] at hsp
    rename List (Str × Tok) => l
    match l, hsp with
    | [(x, tx), (y, ty)], hsp =>
      simp only [List.map_cons, List.map_nil, List.cons.injEq, and_true] at hsp
      obtain ⟨e1, e2⟩ := hsp
      subst e1 e2
      simp only [strValues, List.map_cons, List.map_nil] at *
      have hel : (S []).length = 0 := rfl
      cases wd with
      | nil =>
        w_strict (k_steps)
        all_goals first
          | (exfalso; omega)
          | exact hret _ _ (kp_of (by assumption) (by assumption))
      | cons c0 wd =>
        have hne : (S (c0 :: wd)).length = wd.length + 1 := S_len _
        w_strict (k_steps)
        all_goals first
          | (exfalso; omega)
          | (exfalso; rename (Txt.startswith _ _ = true) => hs; rw [S_startswith, List.isPrefixOf_iff_prefix] at hs; have hl := hs.length_le; have e1 := S_len gt; simp only [List.length_cons] at hl; omega)
          | (rename (Txt.startswith _ _ = _) => hs; rw [S_startswith] at hs; rw [hs] at hret; exact hret _ _ (kp_of (by assumption) (by assumption)))
end
end Mine
end

section
set_option maxRecDepth 100000
set_option maxHeartbeats 4000000
namespace Mine
theorem pick_pv {Ts : Nat → Addr} {n a b : Nat} {lo hi : Int} (h0 : lo = (a : Int)) (h1 : hi = (b : Int)) (ha : a ≤ n) : kms_pick (pv Ts 0 n).toArray.toList (some lo) (some hi) = pv Ts a (min b n - a) := by
  subst h0 h1
  unfold kms_pick
  rw [pv_len, pv_drop]
  simp only [kms_lo, kms_hi, if_neg (show ¬ ((a : Nat) : Int) < 0 by omega), if_neg (show ¬ ((b : Nat) : Int) < 0 by omega), Int.toNat_natCast]
  rw [Nat.min_eq_left ha, pv_take _ _ _ _ (by omega)]
  congr 1; omega
theorem pv_ne {h : Heap} {L x : Addr} {h₀ : Heap} {news : List (Addr × Obj)} {o : Obj} {pl : Addr} {items : Array Value} (N : News h₀ L h news) (hm : (x, o) ∈ news) (hl : h.IsList pl items) (hc : o.cls ≠ .type "list") : pl ≠ x := by
  rintro rfl
  obtain ⟨o', ho, hc', _⟩ := hl
  have := (N _ hm).1
  rw [ho] at this; cases this
  exact hc hc'
theorem own_base {h g h₀ : Heap} {L x dx : Addr} {vs : List Value} {n : Nat} {hh : Int} {kt it : Tok} {i : Int} {ps qs : Array Value} {pl : Addr} {items : Array Value} {k : Nat} {Ts : Nat → Addr} {fa fb : Nat → List Nat} {ta tb : Nat → Tok}
    (N : News h₀ L h (fam x dx vs n hh kt it i ps qs)) (H : Hid ((fam x dx vs n hh kt it i ps qs).map (·.1)) h g) (hl : h.IsList pl items) (hT : Pairs h k Ts fa fb ta tb) : g.IsList pl items ∧ Pairs g k Ts fa fb ta tb := by
  constructor
  · refine hl.at fun o e => H pl o ?_ e
    have a := pv_ne N (.head _) hl nofun
    have b := pv_ne N (.tail _ (.head _)) hl (fun z => absurd (Value.type.inj z) (by decide))
    have c := pv_ne N (.tail _ (.tail _ (.head _))) hl nofun
    have d := pv_ne N (.tail _ (.tail _ (.tail _ (.head _)))) hl nofun
    simp only [List.map_cons, List.map_nil, List.mem_cons, List.not_mem_nil, or_false, not_or]
    exact ⟨a, b, c, d⟩
  · refine hT.but H fun q hq => ?_
    simp only [List.map_cons, List.map_nil, List.mem_cons, List.not_mem_nil, or_false] at hq
    rcases hq with rfl | rfl | rfl | rfl
    · exact ⟨_, (N (_, _) (.head _)).1, nofun⟩
    · exact ⟨_, (N (_, _) (.tail _ (.head _))).1, fun z => absurd (Value.type.inj z) (by decide)⟩
    · exact ⟨_, (N (_, _) (.tail _ (.tail _ (.head _)))).1, nofun⟩
    · exact ⟨_, (N (_, _) (.tail _ (.tail _ (.tail _ (.head _))))).1, nofun⟩
end Mine
namespace Mine
section
variable {w : World} {p : Program} {loose : List Str} {mean : ExcName → Option Value} {mg mb : Str → Option Value} {dp un : Nat} {gd : Option (List Code)} {cn : Str} {cs : Scope} {a : Addr} {ccd : Value} {cl : List (Str × Addr)} {outer : List Env} {A₀ : Around} {base h₀ : Heap} {L : Addr} {m : Str → Option Value} {s : Shared} {Q E : Value → Shared → Prop}
  {x dx : Addr} {vs : List Value} {n : Nat} {hh : Int} {kt it : Tok} {i : Int} {ps qs : Array Value} {pre : List (Addr × Obj)} {Ts : Nat → Addr} {lo z : Nat}
theorem pop_pv {r : Int} {t : Tok} (pre : List (Addr × Obj)) (B : Below A₀ base outer h₀) (F : Fr h₀ L s.heap m) (X : (Mine.hd.heap_39 w.params).In h₀) (N : News h₀ L s.heap (pre ++ fam x dx (pv Ts lo z) n hh kt it i ps qs)) (T : Top p loose mean mg mb h₀) (P : PreOk x dx pre) (hk : cs.kind = .function) (hd : dp + 1 < recursionLimit) (hu : un + 8 < cLine)
    (hz : z ≤ 1000) (hr0 : 0 ≤ r) (hr1 : r ≤ (z : Int))
    (hret : ∀ q h' tk' n', Fr h₀ L h' m → News h₀ L h' (pre ++ fam x dx (pv Ts lo r.toNat) n' hh kt it i ps qs) → h'.IsList q (pv Ts (lo + r.toNat) (z - r.toNat)).toArray → Q (.ref q) { s with heap := h', toks := tk' }) :
    wpAny (model PySem.Challenge.rw_re0059_01.prog w) (ktrTop dp un gd cn cs L a ccd cl outer) (call (.ref 53) [.ref x, .int r t]) Q E s :=
  pop_led pre B F X N T P hk hd hu (by rw [pv_len]; exact hz) hr0 (by rw [pv_len]; exact hr1) fun q h' tk' n' F' N' l => by
    rw [pv_take _ _ _ _ (by omega)] at N'
    rw [pv_drop] at l
    exact hret q h' tk' n' F' N' l
theorem part_pv (pre : List (Addr × Obj)) (B : Below A₀ base outer h₀) (F : Fr h₀ L s.heap m) (X : (Mine.hd.heap_39 w.params).In h₀) (N : News h₀ L s.heap (pre ++ fam x dx (pv Ts lo z) n hh kt it i ps qs)) (T : Top p loose mean mg mb h₀) (hk : cs.kind = .function) (hd : dp + 1 < recursionLimit) (hu : un + 8 < cLine)
    (hz : z ≤ 1000)
    (hret : ∀ h' tk' t, Fr h₀ L h' m → News h₀ L h' (pre ++ fam x dx (pv Ts lo z) n hh kt it i ps qs) → Q (.int z t) { s with heap := h', toks := tk' }) :
    wpAny (model PySem.Challenge.rw_re0059_01.prog w) (ktrTop dp un gd cn cs L a ccd cl outer) (call (.ref 98) [.ref x]) Q E s :=
  part_led pre B F X N T hk hd hu (by rw [pv_len]; exact hz) fun h' tk' t F' N' => by
    rw [pv_len]; exact hret h' tk' t F' N'
end
/-- the window, as the pane has it -/
theorem win_eq (t : List Nat) (c r : Nat) : win t c r = (t.drop (c - r)).take (min (c + r) t.length - (c - r)) := by
  unfold win
  rw [← List.drop_take, take_min]
end Mine
namespace Mine
section
variable {prog : Program} {w : World} {A : Around} {E : Value → Shared → Prop} {s : Shared}
theorem ne_str_same {x y : Str} {t u : Tok} {Q : Value → Shared → Prop} (e : x = y) (h : Q (.bool false) s) : wpAny (model prog w) A (compareOp .NotEq (.str x t) (.str y u)) Q E s :=
  PyProof.Rows.ne_str (by rw [e, bne_self_eq_false]; exact h)
end
theorem low_eq (c i : Nat) : (if (c : Int) - (1 + (i : Int)) > 0 then (c : Int) - (1 + (i : Int)) else 0) = ((c - (i + 1) : Nat) : Int) := by split <;> omega
theorem hi_eq (c i : Nat) : (c : Int) + (1 + (i : Int)) = ((c + (i + 1) : Nat) : Int) := by omega
theorem own_eq1 (t : List Nat) (c i : Nat) : S ((t.drop (c - (i + 1))).take (min (c + (i + 1)) t.length - (c - (i + 1)))) = Txt.slice (S t) (some (if (c : Int) - (1 + (i : Int)) > 0 then (c : Int) - (1 + (i : Int)) else 0)) (some ((c : Int) + (1 + (i : Int)))) := by
  rw [low_eq, hi_eq, slice_ss _ (Int.natCast_nonneg _) (Int.natCast_nonneg _), ← win_eq, Int.toNat_natCast, Int.toNat_natCast]
  rfl
theorem own_eq2 (t : List Nat) (lo z i : Nat) : S ((t.drop (lo + (1 + (i : Int)).toNat)).take (z - (1 + (i : Int)).toNat)) = Txt.slice (S ((t.drop lo).take z)) (some (1 + (i : Int))) none := by
  rw [slice_sn _ (by omega), List.drop_take, List.drop_drop]
theorem own_slen (t : List Nat) (lo z : Nat) (h : lo + z ≤ t.length) : (S ((t.drop lo).take z)).length = z := by
  rw [S_len, List.length_take, List.length_drop]
  exact Nat.min_eq_left (Nat.le_sub_of_add_le (Nat.add_comm lo z ▸ h))
theorem wl8 (t : List Nat) (a b : Nat) (h : t.length ≤ 8) : ((t.drop a).take b).length ≤ 8 :=
  Nat.le_trans (List.length_take_le' _ _) (by rw [List.length_drop]; exact Nat.le_trans (Nat.sub_le _ _) h)
end Mine
namespace Mine
section
variable {prog : Program} {w : World} {A : Around} {E : Value → Shared → Prop} {s : Shared}
theorem ne_int_same {x y : Int} {t u : Tok} {Q : Value → Shared → Prop} (e : x = y) (h : Q (.bool false) s) : wpAny (model prog w) A (compareOp .NotEq (.int x t) (.int y u)) Q E s :=
  PyProof.Rows.ne_int (by rw [e, bne_self_eq_false]; exact h)
end
end Mine
namespace Mine
section
variable {prog : Program} {w : World} {A : Around} {E : Value → Shared → Prop} {s : Shared}
theorem add_S {l : List Nat} {y : Str} {t u : Tok} {Q : Value → Shared → Prop} (h : l.length ≤ 1000) (hy : y.length ≤ 1000) (hq : ∀ t' tk, Q (.str (S l ++ y) t') { s with toks := tk }) : wpAny (model prog w) A (binaryOp .Add (.str (S l) t) (.str y u)) Q E s :=
  PyProof.Rows.add_str (hsz := by rw [S_len, sizeLine_eq]; omega) hq
theorem wlen (t : List Nat) (a b : Nat) (h : t.length ≤ 8) : ((t.drop a).take b).length ≤ 1000 := Nat.le_trans (wl8 t a b h) (by decide)
end
end Mine
namespace Mine
theorem own_wc (t : List Nat) (c i : Nat) : ((t.drop (c - (i + 1) + (1 + (i : Int)).toNat)).take (min (c + (i + 1)) t.length - (c - (i + 1)) - (1 + (i : Int)).toNat)).isPrefixOf ((t.drop (c - (i + 1))).take (min (c + (i + 1)) t.length - (c - (i + 1)))) = wcond t c (i + 1) := by
  unfold wcond
  rw [win_eq, List.drop_take, List.drop_drop, show (1 + (i : Int)).toNat = i + 1 by omega]
section
variable {w : World} {p : Program} {loose : List Str} {mean : ExcName → Option Value} {mg mb : Str → Option Value} {dp un : Nat} {gd : Option (List Code)} {cn : Str} {cs : Scope} {a : Addr} {ccd : Value} {cl : List (Str × Addr)} {outer : List Env} {A₀ : Around} {base h₀ : Heap} {L : Addr} {m : Str → Option Value} {s : Shared} {Q E : Value → Shared → Prop}
theorem own_ell {news : List (Addr × Obj)} {t : List Nat} {c i : Nat} {t1 t2 : Tok} (B : Below A₀ base outer h₀) (F : Fr h₀ L s.heap m) (X : (Mine.hd.heap_39 w.params).In h₀) (N : News h₀ L s.heap news) (T : Top p loose mean mg mb h₀) (hk : cs.kind = .function) (hd : dp + 1 < recursionLimit) (hu : un + 8 < cLine)
    (h8 : t.length ≤ 8) (hdot : ∀ y ∈ t, y ≠ 46) (hret : ∀ h' tk', Fr h₀ L h' m → News h₀ L h' news → Q (.bool (wcond t c (i + 1))) { s with heap := h', toks := tk' }) :
    wpAny (model PySem.Challenge.rw_re0059_01.prog w) (ktrTop dp un gd cn cs L a ccd cl outer) (call (.ref 112) [.str (S ((t.drop (c - (i + 1) + (1 + (i : Int)).toNat)).take (min (c + (i + 1)) t.length - (c - (i + 1)) - (1 + (i : Int)).toNat)) ++ Str.ofString "...") t1, .str (S ((t.drop (c - (i + 1))).take (min (c + (i + 1)) t.length - (c - (i + 1))))) t2]) Q E s := by
  refine ell_spec B F X T hk hd hu ?_ ?_ ?_ fun h' tk' k => ?_
  · exact Nat.lt_of_le_of_lt (wl8 _ _ _ h8) (by decide)
  · exact Nat.lt_of_le_of_lt (wl8 _ _ _ h8) (by decide)
  · exact fun y hy => hdot y (List.mem_of_mem_drop (List.mem_of_mem_take hy))
  · rw [own_wc]; exact hret h' tk' (Fr.kp F k) (News.kp N k)
end
end Mine
end

section
set_option maxRecDepth 100000
set_option maxHeartbeats 8000000
namespace Mine
noncomputable def ownBase (x pl : Addr) (t : List Nat) (tt : Tok) (c : Nat) (tc : Tok) : Str → Option Value := fun y => List.lookup y [(Str.ofString "cut", .int c tc), (Str.ofString "text", .str (S t) tt), (Str.ofString "pieces", .ref pl), (Str.ofString "pane", .ref x)]
noncomputable abbrev ownM (vsn vl vr : Option Value) (x pl : Addr) (t : List Nat) (tt : Tok) (c : Nat) (tc : Tok) : Str → Option Value := fun y => if y = Str.ofString "seen" then vsn else if y = Str.ofString "low" then vl else if y = Str.ofString "r" then vr else ownBase x pl t tt c tc y
theorem ownM0 (x pl : Addr) (t : List Nat) (tt : Tok) (c : Nat) (tc : Tok) : ownBase x pl t tt c tc = ownM none none none x pl t tt c tc := by
  funext y
  show _ = ite _ _ _
  split
  · next h => subst h; rfl
  · split
    · next h => subst h; rfl
    · split
      · next h => subst h; rfl
      · rfl
noncomputable def OwnJ (x dx pl : Addr) (t : List Nat) (tt : Tok) (c : Nat) (tc : Tok) (hh : Int) (kt : Tok) (os : OsState) (i : Nat) (m' : Str → Option Value) (news' : List (Addr × Obj)) (s' : Shared) : Prop :=
  ∃ vr vl vsn vs' n' it' i' ps' qs', m' = ownM vsn vl vr x pl t tt c tc ∧ news' = fam x dx vs' n' hh kt it' i' ps' qs' ∧ vs'.length ≤ 1000 ∧ TriplesOk ps'.toList ∧ TriplesOk qs'.toList ∧ AllBare s'.gens ∧ s'.os = os ∧ ∀ q, 1 ≤ q → q ≤ i → wcond t c q = false
theorem ownM_upd {vsn vl vr a b r : Option Value} {x pl : Addr} {t : List Nat} {tt : Tok} {c : Nat} {tc : Tok} : (fun y => if y = Str.ofString "seen" then a else if y = Str.ofString "low" then b else if y = Str.ofString "r" then r else ownM vsn vl vr x pl t tt c tc y) = ownM a b r x pl t tt c tc := by
  funext y
  simp only [ownM]
  split
  · rfl
  · split
    · rfl
    · split <;> rfl
theorem own_end {h₀ : Heap} {L I D' x dx pl : Addr} {oD oI : Obj} {vsn vl vr a b r : Option Value} {t : List Nat} {tt : Tok} {c : Nat} {tc kt it' : Tok} {hh i' : Int} {os : OsState} {i : Nat} {s₃ : Shared} {vs' : List Value} {n' : Nat} {ps' qs' : Array Value}
    (F : Fr h₀ L s₃.heap (fun y => if y = Str.ofString "seen" then a else if y = Str.ofString "low" then b else if y = Str.ofString "r" then r else ownM vsn vl vr x pl t tt c tc y)) (N : News h₀ L s₃.heap ((D', oD) :: (I, oI) :: fam x dx vs' n' hh kt it' i' ps' qs'))
    (ne : (@Ne Nat x I) ∧ (@Ne Nat dx I) ∧ (@Ne Nat 70 I) ∧ (@Ne Nat 63 I)) (hz : vs'.length ≤ 1000) (tr : TriplesOk ps'.toList) (tq : TriplesOk qs'.toList) (hb : AllBare s₃.gens) (ho : s₃.os = os) (hno : ∀ q, 1 ≤ q → q ≤ i → wcond t c q = false) (hw : wcond t c (i + 1) = false) :
    ∃ m' news', Fr h₀ L s₃.heap m' ∧ News h₀ L s₃.heap ((I, oI) :: news') ∧ (∀ q ∈ news', q.1 ≠ I) ∧ OwnJ x dx pl t tt c tc hh kt os (i + 1) m' news' s₃ := by
  rw [ownM_upd] at F
  refine ⟨_, _, F, News.sub N fun q hq => .tail _ hq, ?_, _, _, _, _, _, _, _, _, _, rfl, rfl, hz, tr, tq, hb, ho, ?_⟩
  · intro q hq
    simp only [fam, List.mem_cons, List.not_mem_nil, or_false] at hq
    rcases hq with rfl | rfl | rfl | rfl
    · exact ne.1
    · exact ne.2.1
    · exact ne.2.2.1
    · exact ne.2.2.2
  · intro q h1 h2
    rcases Nat.lt_or_eq_of_le h2 with h | rfl
    · exact hno q h1 (by omega)
    · exact hw
theorem small9 {n : Nat} (h : n ≤ 8) : Builtin.Range.small 1 ((n : Int) + 1) 1 = true ∧ Builtin.Range.rangeSize 1 ((n : Int) + 1) 1 = (n : Int) := by
  revert n
  decide +kernel
theorem own_bounds {c i n : Nat} (hc : c < n) (hi : i < n) (hn : n ≤ 8) : c - (i + 1) + (min (c + (i + 1)) n - (c - (i + 1))) ≤ n ∧ min (c + (i + 1)) n - (c - (i + 1)) ≤ 8 ∧ (1 + (i : Int)).toNat = i + 1 ∧ 1 + (i : Int) ≤ ((min (c + (i + 1)) n - (c - (i + 1)) : Nat) : Int) ∧
    c - (i + 1) + (1 + (i : Int)).toNat + (min (c + (i + 1)) n - (c - (i + 1)) - (1 + (i : Int)).toNat) ≤ n ∧ min (c + (i + 1)) n - (c - (i + 1)) - (1 + (i : Int)).toNat ≤ 8 := by
  have e : (1 + (i : Int)).toNat = i + 1 := by omega
  have h0 : c - (i + 1) ≤ c := Nat.sub_le _ _
  have h1 : c - (i + 1) + (min (c + (i + 1)) n - (c - (i + 1))) = min (c + (i + 1)) n :=
    Nat.add_sub_cancel' (Nat.le_min.mpr ⟨Nat.le_trans h0 (Nat.le_add_right _ _), Nat.le_trans h0 (Nat.le_of_lt hc)⟩)
  have h2 : min (c + (i + 1)) n - (c - (i + 1)) ≤ 8 := Nat.le_trans (Nat.sub_le _ _) (Nat.le_trans (Nat.min_le_right _ _) hn)
  have h3 : i + 1 ≤ min (c + (i + 1)) n - (c - (i + 1)) := Nat.le_sub_of_add_le (Nat.le_min.mpr ⟨by rw [Nat.add_comm]; exact Nat.add_le_add_right h0 _, by
    rcases Nat.le_total (i + 1) c with h | h
    · rw [Nat.add_sub_cancel' h]; exact Nat.le_of_lt hc
    · rw [Nat.sub_eq_zero_of_le h]; exact hi⟩)
  refine ⟨Nat.le_trans (Nat.le_of_eq h1) (Nat.min_le_right _ _), h2, e, by rw [Int.add_comm]; exact Int.ofNat_le.mpr h3, ?_, Nat.le_trans (Nat.sub_le _ _) h2⟩
  rw [e, Nat.add_assoc, Nat.add_sub_cancel' h3, h1]
  exact Nat.min_le_right _ _
section
variable {w : World} {p : Program} {loose : List Str} {mean : ExcName → Option Value} {mg mb : Str → Option Value} {dp un : Nat} {gd : Option (List Code)} {cn : Str} {cs : Scope} {a : Addr} {ccd : Value} {cl : List (Str × Addr)} {outer : List Env} {A₀ : Around} {base h₀ : Heap} {L : Addr} {m : Str → Option Value} {s : Shared} {Q E : Value → Shared → Prop}
theorem own_spec (B : Below A₀ base outer h₀) (F : Fr h₀ L s.heap m) (X : (Mine.hd.heap_39 w.params).In h₀) (T : Top p loose mean mg mb h₀) (hk : cs.kind = .function) (hd : dp + 2 < recursionLimit) (hu : un + 40 < cLine)
    {x dx pl : Addr} {vs : List Value} {n : Nat} {hh : Int} {kt it tt tc : Tok} {i0 : Int} {ps qs : Array Value} {Ts : Nat → Addr} {fa fb : Nat → List Nat} {ta tb : Nat → Tok} {t : List Nat} {c : Nat}
    (N : News h₀ L s.heap [(x, accObj dx vs n), (dx, dictOf [⟨hh, .str (Str.ofString "_initial_size") kt, .int i0 it⟩] 1), (70, tabObj ps), (63, tabObj qs)]) (hne : x ≠ dx) (hz : vs.length ≤ 1000)
    (htr : TriplesOk ps.toList) (htq : TriplesOk qs.toList) (hB : AllBare s.gens) (hl : s.heap.IsList pl (pv Ts 0 t.length).toArray) (hTu : Pairs s.heap t.length Ts fa fb ta tb) (hf1 : ∀ k, (fa k).length + (fb k).length ≤ 1) (hf : ∀ k, k < t.length → fa k ++ fb k = [t.getD k 0])
    (hdot : ∀ y ∈ t, y ≠ 46) (hc : c < t.length) (ht : t.length ≤ 8)
    (hret : ∀ s' r t' vs' n' i' it' ps' qs', 1 ≤ r → r ≤ t.length → wcond t c r = true → (∀ q, 1 ≤ q → q < r → wcond t c q = false) → KpBut [x, dx, 70, 63] s.heap s'.heap →
      Has s'.heap [(x, accObj dx vs' n'), (dx, dictOf [⟨hh, .str (Str.ofString "_initial_size") kt, .int i' it'⟩] 1), (70, tabObj ps'), (63, tabObj qs')] → vs'.length ≤ 1000 → TriplesOk ps'.toList → TriplesOk qs'.toList → AllBare s'.gens → s'.os = s.os → Q (.int (r : Nat) t') s') :
    wpAny (model PySem.Challenge.rw_re0059_01.prog w) (ktrTop dp un gd cn cs L a ccd cl outer) (call (.ref 173) [.ref x, .ref pl, .str (S t) tt, .int c tc]) Q E s := by
  k_with_none
  w_top off
  k_with "lt" => (first | (with_reducible assumption) | (apply And.left; (first | (with_reducible assumption) | (apply And.right; (first | (with_reducible assumption) | (apply And.right; (first | (with_reducible assumption) | (apply And.right; (first | (with_reducible assumption) | (apply And.right; (first | (with_reducible assumption) | (apply And.right; (first | (with_reducible assumption) | (apply And.right; (first | (with_reducible assumption) | (apply And.right; (first | (with_reducible assumption) | (apply And.right; (first | (with_reducible assumption) | (apply And.right; (first | (with_reducible assumption) | (apply And.right; (first | (with_reducible assumption) | (apply And.right; (first | (with_reducible assumption) | (apply And.right; (first | (with_reducible assumption) | (apply And.right; (first | (with_reducible assumption) | (apply And.right; (first | (with_reducible assumption) | (apply And.right; (first | (with_reducible assumption) | (apply And.right; (first | (with_reducible assumption) | (apply And.right; (first | (with_reducible assumption) | (apply And.right; (first | (with_reducible assumption) | (apply And.right; (first | (with_reducible assumption) | (apply And.right; (first | (with_reducible assumption) | (apply And.right; (first | (with_reducible assumption) | (apply And.right; (first | (with_reducible assumption) | (apply And.right; (first | (with_reducible assumption) | (apply And.right; (first | (with_reducible assumption) | (apply And.right; (with_reducible assumption)))))))))))))))))))))))))))))))))))))))))))))))))))) | (apply And.right; (first | (with_reducible assumption) | (apply And.right; (first | (with_reducible assumption) | (apply And.right; (first | (with_reducible assumption) | (apply And.right; (first | (with_reducible assumption) | (apply And.right; (first | (with_reducible assumption) | (apply And.right; (first | (with_reducible assumption) | (apply And.right; (first | (with_reducible assumption) | (apply And.right; (first | (with_reducible assumption) | (apply And.right; (first | (with_reducible assumption) | (apply And.right; (first | (with_reducible assumption) | (apply And.right; (first | (with_reducible assumption) | (apply And.right; (first | (with_reducible assumption) | (apply And.right; (first | (with_reducible assumption) | (apply And.right; (first | (with_reducible assumption) | (apply And.right; (first | (with_reducible assumption) | (apply And.right; (first | (with_reducible assumption) | (apply And.right; (first | (with_reducible assumption) | (apply And.right; (first | (with_reducible assumption) | (apply And.right; (first | (with_reducible assumption) | (apply And.right; (first | (with_reducible assumption) | (apply And.right; (first | (with_reducible assumption) | (apply And.right; (first | (with_reducible assumption) | (apply And.right; (first | (with_reducible assumption) | (apply And.right; (first | (with_reducible assumption) | (apply And.right; (first | (with_reducible assumption) | (apply And.right; (with_reducible assumption)))))))))))))))))))))))))))))))))))))))))))))))))))))
  k_with "k_ne" => (refine neN ?_; (try dsimp only); first | k_extra "lt" | (refine Ne.symm ?_; k_extra "lt") | (refine Nat.ne_of_lt ?_; k_extra "lt") | (refine Nat.ne_of_gt ?_; k_extra "lt") | (refine Nat.ne_of_lt (Nat.lt_add_right _ ?_); k_extra "lt") | (refine Nat.ne_of_gt (Nat.lt_add_right _ ?_); k_extra "lt") | (refine Nat.ne_of_lt (Nat.lt_add_right _ (Nat.lt_add_right _ ?_)); k_extra "lt") | (refine Nat.ne_of_gt (Nat.lt_add_right _ (Nat.lt_add_right _ ?_)); k_extra "lt") | (refine cell_ne2 ?_; decide) | (refine cell_ne ?_; k_extra "lt") | (refine Ne.symm (cell_ne ?_); k_extra "lt"))
  k_with "CiT" => ((k_here; (refine' CiT.mk ?kP ?_; (case kP => assumption)); (try dsimp -proj only)))
  k_with "cell_enter" => ((refine' enterQ ?k1 ?k2 ?k3 ?k4 ?k5 ?kA ?kF ?kK ?k6 ?k7 ?k8 ?k9 ?kB ?_ ?c2 ?c3 ?c4 ?c5; (case kA => exact rfl); (case kF => exact rfl); (case kK => assumption); (case k1 => k_asm); (case k2 => k_asm); (case k3 => k_asm); (case k4 => k_asm); (case k5 => k_asm); (case k6 => k_is); (case k7 => k_is); (case k8 => ktr_room); (case k9 => first | exact BindsTo.of_eq rfl | exact binds_K (by k_in) rfl (by k_is) rfl rfl rfl); (case c5 => decide); (case kB => exact locs rfl); (case c2 => exact rfl); (case c3 => exact rfl); (case c4 => exact rfl); k_whole; intro P9 hP9 g' L' h' H' F' N' B' X' T' l'; (try dsimp only); (try k_lt l'); (try k_fold)); (try (revert P9 hP9 g' L' h' H' F' N' B' X' T' l'; set_option tactic.hygienic true in intros)))
  k_with "LeaveQ" => ((k_dflt (refine' leaveQ ?kP ?k1 ?k2 ?_; (case kP => assumption); (case k1 => k_asm); (case k2 => k_asm); k_whole); intro kK kH; (try dsimp only)); (try (revert kK kH; set_option tactic.hygienic true in intros)))
  k_with "k_inst" => ((refine' instAt_acc ?N ?h1 ?h2; (case N => k_asm); (case h1 => k_mem); (case h2 => k_mem)))
  k_with "exec For Name Call cons nil" => ((k_here; (rename Fr _ _ _ _ => lF'); (with_unfolding_all refine' For_range lF' ?q9x ?q9p ?q9h ?_; (case q9x => exact rfl); (case q9p => exact rfl); (case q9h => exact rfl); k_whole)))
  k_with "getMethod ref" => ((k_here; k_dflt (refine' methodL ?q9F ?q9X ?q9I ?q9a ?q9b ?q9f ?q9t ?q9l ?_; (case q9F => k_asm); (case q9X => k_asm); (case q9I => k_inst); (case q9a => k_is); (case q9b => k_is); (case q9f => k_is); (case q9t => k_is); (case q9l => k_get); k_whole)))
  k_with "compareOp NotEq str str" => ((k_here; (refine' ne_str_same ?q9e ?_; (case q9e => first | exact own_eq1 _ _ _ | exact own_eq2 _ _ _ _))))
  k_with "compareOp NotEq int int" => ((k_here; (refine' ne_int_same ?q9e ?_; (case q9e => omega))))
  k_with "binaryOp Add str str" => ((k_here; (refine' add_S ?q9h ?q9y ?_; (case q9h => exact wlen _ _ _ (by assumption)); (case q9y => decide +kernel)); intro t' k'); (try (revert t' k'; set_option tactic.hygienic true in intros)))
  k_with "call ref" => ((k_here; (try dsimp only [List.cons_append, List.nil_append, List.append_nil]); (with_reducible show wpAny _ _ (call (Value.ref 83) _) _ _ _); k_dflt (first | (refine' reset_led [_] ?q9B ?q9F ?q9X ?q9N ?q9T ?q9P ?q9k ?q9d ?q9u ?q9l ?q9z ?q9zz ?_; (case q9B => k_asm); (case q9F => k_asm); (case q9X => k_asm); (case q9N => k_asm); (case q9T => k_asm); (case q9P => ((dsimp only [PreOk]); (repeat' refine And.intro ?_ ?_) <;> first | exact True.intro | k_ne)); (case q9k => exact rfl); (case q9d => ktr_room); (case q9u => ktr_units); (case q9l => first | assumption | exact News.isList (by k_asm) (by k_mem)); (case q9z => first | assumption | omega | (rw [pv_len]; omega)); (case q9zz => first | assumption | omega | (rw [pv_len]; omega)); k_whole) | (refine' reset_led [_, _] ?q9B ?q9F ?q9X ?q9N ?q9T ?q9P ?q9k ?q9d ?q9u ?q9l ?q9z ?q9zz ?_; (case q9B => k_asm); (case q9F => k_asm); (case q9X => k_asm); (case q9N => k_asm); (case q9T => k_asm); (case q9P => ((dsimp only [PreOk]); (repeat' refine And.intro ?_ ?_) <;> first | exact True.intro | k_ne)); (case q9k => exact rfl); (case q9d => ktr_room); (case q9u => ktr_units); (case q9l => first | assumption | exact News.isList (by k_asm) (by k_mem)); (case q9z => first | assumption | omega | (rw [pv_len]; omega)); (case q9zz => first | assumption | omega | (rw [pv_len]; omega)); k_whole) | (refine' reset_led [_, _, _] ?q9B ?q9F ?q9X ?q9N ?q9T ?q9P ?q9k ?q9d ?q9u ?q9l ?q9z ?q9zz ?_; (case q9B => k_asm); (case q9F => k_asm); (case q9X => k_asm); (case q9N => k_asm); (case q9T => k_asm); (case q9P => ((dsimp only [PreOk]); (repeat' refine And.intro ?_ ?_) <;> first | exact True.intro | k_ne)); (case q9k => exact rfl); (case q9d => ktr_room); (case q9u => ktr_units); (case q9l => first | assumption | exact News.isList (by k_asm) (by k_mem)); (case q9z => first | assumption | omega | (rw [pv_len]; omega)); (case q9zz => first | assumption | omega | (rw [pv_len]; omega)); k_whole)); intro h' tk' n' it' F' N'; (try dsimp only [List.cons_append, List.nil_append, fam] at N'); (try k_sweep); (try (unfold W.StrBack)); (try (unfold W.LenBack)); (try dsimp only); (try (refine ⟨⟨by omega, by omega⟩, ?_⟩))); (try (revert h' tk' n' it' F' N'; set_option tactic.hygienic true in intros)))
  k_with "call ref" => ((k_here; (try dsimp only [List.cons_append, List.nil_append, List.append_nil]); (with_reducible show wpAny _ _ (call (Value.ref 53) _) _ _ _); k_dflt (first | (refine' pop_pv [_] ?q9B ?q9F ?q9X ?q9N ?q9T ?q9P ?q9k ?q9d ?q9u ?q9z ?q9r0 ?q9r1 ?_; (case q9B => k_asm); (case q9F => k_asm); (case q9X => k_asm); (case q9N => k_asm); (case q9T => k_asm); (case q9P => ((dsimp only [PreOk]); (repeat' refine And.intro ?_ ?_) <;> first | exact True.intro | k_ne)); (case q9k => exact rfl); (case q9d => ktr_room); (case q9u => ktr_units); (case q9z => omega); (case q9r0 => omega); (case q9r1 => omega); k_whole) | (refine' pop_pv [_, _] ?q9B ?q9F ?q9X ?q9N ?q9T ?q9P ?q9k ?q9d ?q9u ?q9z ?q9r0 ?q9r1 ?_; (case q9B => k_asm); (case q9F => k_asm); (case q9X => k_asm); (case q9N => k_asm); (case q9T => k_asm); (case q9P => ((dsimp only [PreOk]); (repeat' refine And.intro ?_ ?_) <;> first | exact True.intro | k_ne)); (case q9k => exact rfl); (case q9d => ktr_room); (case q9u => ktr_units); (case q9z => omega); (case q9r0 => omega); (case q9r1 => omega); k_whole) | (refine' pop_pv [_, _, _] ?q9B ?q9F ?q9X ?q9N ?q9T ?q9P ?q9k ?q9d ?q9u ?q9z ?q9r0 ?q9r1 ?_; (case q9B => k_asm); (case q9F => k_asm); (case q9X => k_asm); (case q9N => k_asm); (case q9T => k_asm); (case q9P => ((dsimp only [PreOk]); (repeat' refine And.intro ?_ ?_) <;> first | exact True.intro | k_ne)); (case q9k => exact rfl); (case q9d => ktr_room); (case q9u => ktr_units); (case q9z => omega); (case q9r0 => omega); (case q9r1 => omega); k_whole)); intro q' h' tk' n' F' N' l'; (try dsimp only [List.cons_append, List.nil_append, fam] at N'); (try k_sweep); (try (unfold W.StrBack)); (try (unfold W.LenBack)); (try dsimp only); (try (refine ⟨⟨by omega, by omega⟩, ?_⟩))); (try (revert q' h' tk' n' F' N' l'; set_option tactic.hygienic true in intros)))
  k_with "call ref" => ((k_here; (try dsimp only [List.cons_append, List.nil_append, List.append_nil]); (with_reducible show wpAny _ _ (call (Value.ref 98) _) _ _ _); k_dflt (first | (refine' part_pv [_] ?q9B ?q9F ?q9X ?q9N ?q9T ?q9k ?q9d ?q9u ?q9z ?_; (case q9B => k_asm); (case q9F => k_asm); (case q9X => k_asm); (case q9N => k_asm); (case q9T => k_asm); (case q9k => exact rfl); (case q9d => ktr_room); (case q9u => ktr_units); (case q9z => omega); k_whole) | (refine' part_pv [_, _] ?q9B ?q9F ?q9X ?q9N ?q9T ?q9k ?q9d ?q9u ?q9z ?_; (case q9B => k_asm); (case q9F => k_asm); (case q9X => k_asm); (case q9N => k_asm); (case q9T => k_asm); (case q9k => exact rfl); (case q9d => ktr_room); (case q9u => ktr_units); (case q9z => omega); k_whole) | (refine' part_pv [_, _, _] ?q9B ?q9F ?q9X ?q9N ?q9T ?q9k ?q9d ?q9u ?q9z ?_; (case q9B => k_asm); (case q9F => k_asm); (case q9X => k_asm); (case q9N => k_asm); (case q9T => k_asm); (case q9k => exact rfl); (case q9d => ktr_room); (case q9u => ktr_units); (case q9z => omega); k_whole)); intro h' tk' t' F' N'; (try dsimp only [List.cons_append, List.nil_append, fam] at N'); (try k_sweep); (try (unfold W.StrBack)); (try (unfold W.LenBack)); (try dsimp only); (try (refine ⟨⟨by omega, by omega⟩, ?_⟩))); (try (revert h' tk' t' F' N'; set_option tactic.hygienic true in intros)))
  k_with "call ref" => ((k_here; (try dsimp only [List.cons_append, List.nil_append, List.append_nil]); (with_reducible show wpAny _ _ (call (Value.ref 75) _) _ _ _); k_dflt (first | (refine' str_led [_] ?q9B ?q9F ?q9X ?q9N ?q9T ?q9P ?q9k ?q9d ?q9u ?q9tr ?q9b ?q9uu ?q9f1 ?q9ff ?q9z ?q9e8 ?_; (case q9B => k_asm); (case q9F => k_asm); (case q9X => k_asm); (case q9N => k_asm); (case q9T => k_asm); (case q9P => ((dsimp only [PreOk]); (repeat' refine And.intro ?_ ?_) <;> first | exact True.intro | k_ne)); (case q9k => exact rfl); (case q9d => ktr_room); (case q9u => ktr_units); (case q9tr => assumption); (case q9b => assumption); (case q9uu => assumption); (case q9f1 => assumption); (case q9ff => assumption); (case q9z => omega); (case q9e8 => assumption); k_whole) | (refine' str_led [_, _] ?q9B ?q9F ?q9X ?q9N ?q9T ?q9P ?q9k ?q9d ?q9u ?q9tr ?q9b ?q9uu ?q9f1 ?q9ff ?q9z ?q9e8 ?_; (case q9B => k_asm); (case q9F => k_asm); (case q9X => k_asm); (case q9N => k_asm); (case q9T => k_asm); (case q9P => ((dsimp only [PreOk]); (repeat' refine And.intro ?_ ?_) <;> first | exact True.intro | k_ne)); (case q9k => exact rfl); (case q9d => ktr_room); (case q9u => ktr_units); (case q9tr => assumption); (case q9b => assumption); (case q9uu => assumption); (case q9f1 => assumption); (case q9ff => assumption); (case q9z => omega); (case q9e8 => assumption); k_whole) | (refine' str_led [_, _, _] ?q9B ?q9F ?q9X ?q9N ?q9T ?q9P ?q9k ?q9d ?q9u ?q9tr ?q9b ?q9uu ?q9f1 ?q9ff ?q9z ?q9e8 ?_; (case q9B => k_asm); (case q9F => k_asm); (case q9X => k_asm); (case q9N => k_asm); (case q9T => k_asm); (case q9P => ((dsimp only [PreOk]); (repeat' refine And.intro ?_ ?_) <;> first | exact True.intro | k_ne)); (case q9k => exact rfl); (case q9d => ktr_room); (case q9u => ktr_units); (case q9tr => assumption); (case q9b => assumption); (case q9uu => assumption); (case q9f1 => assumption); (case q9ff => assumption); (case q9z => omega); (case q9e8 => assumption); k_whole)); intro s' ps' t' F' N' tr' b' o'; (try dsimp only [List.cons_append, List.nil_append, fam] at N'); (try k_sweep); (try (unfold W.StrBack)); (try (unfold W.LenBack)); (try dsimp only); (try (refine ⟨⟨by omega, by omega⟩, ?_⟩))); (try (revert s' ps' t' F' N' tr' b' o'; set_option tactic.hygienic true in intros)))
  k_with "call ref" => ((k_here; (try dsimp only [List.cons_append, List.nil_append, List.append_nil]); (with_reducible show wpAny _ _ (call (Value.ref 68) _) _ _ _); k_dflt (first | (refine' len_led [_] ?q9B ?q9F ?q9X ?q9N ?q9T ?q9P ?q9k ?q9d ?q9u ?q9tr ?q9b ?q9uu ?q9f1 ?q9ff ?q9z ?q9e8 ?_; (case q9B => k_asm); (case q9F => k_asm); (case q9X => k_asm); (case q9N => k_asm); (case q9T => k_asm); (case q9P => ((dsimp only [PreOk]); (repeat' refine And.intro ?_ ?_) <;> first | exact True.intro | k_ne)); (case q9k => exact rfl); (case q9d => ktr_room); (case q9u => ktr_units); (case q9tr => assumption); (case q9b => assumption); (case q9uu => assumption); (case q9f1 => assumption); (case q9ff => assumption); (case q9z => omega); (case q9e8 => assumption); k_whole) | (refine' len_led [_, _] ?q9B ?q9F ?q9X ?q9N ?q9T ?q9P ?q9k ?q9d ?q9u ?q9tr ?q9b ?q9uu ?q9f1 ?q9ff ?q9z ?q9e8 ?_; (case q9B => k_asm); (case q9F => k_asm); (case q9X => k_asm); (case q9N => k_asm); (case q9T => k_asm); (case q9P => ((dsimp only [PreOk]); (repeat' refine And.intro ?_ ?_) <;> first | exact True.intro | k_ne)); (case q9k => exact rfl); (case q9d => ktr_room); (case q9u => ktr_units); (case q9tr => assumption); (case q9b => assumption); (case q9uu => assumption); (case q9f1 => assumption); (case q9ff => assumption); (case q9z => omega); (case q9e8 => assumption); k_whole) | (refine' len_led [_, _, _] ?q9B ?q9F ?q9X ?q9N ?q9T ?q9P ?q9k ?q9d ?q9u ?q9tr ?q9b ?q9uu ?q9f1 ?q9ff ?q9z ?q9e8 ?_; (case q9B => k_asm); (case q9F => k_asm); (case q9X => k_asm); (case q9N => k_asm); (case q9T => k_asm); (case q9P => ((dsimp only [PreOk]); (repeat' refine And.intro ?_ ?_) <;> first | exact True.intro | k_ne)); (case q9k => exact rfl); (case q9d => ktr_room); (case q9u => ktr_units); (case q9tr => assumption); (case q9b => assumption); (case q9uu => assumption); (case q9f1 => assumption); (case q9ff => assumption); (case q9z => omega); (case q9e8 => assumption); k_whole)); intro s' ps' t' F' N' tr' b' o'; (try dsimp only [List.cons_append, List.nil_append, fam] at N'); (try k_sweep); (try (unfold W.StrBack)); (try (unfold W.LenBack)); (try dsimp only); (try (refine ⟨⟨by omega, by omega⟩, ?_⟩))); (try (revert s' ps' t' F' N' tr' b' o'; set_option tactic.hygienic true in intros)))
  k_with "call ref" => ((k_here; (try dsimp only [List.cons_append, List.nil_append, List.append_nil]); (with_reducible show wpAny _ _ (call (Value.ref 112) _) _ _ _); k_dflt (refine' own_ell ?q9B ?q9F ?q9X ?q9N ?q9T ?q9k ?q9d ?q9u ?q9z ?q9o ?_; (case q9B => k_asm); (case q9F => k_asm); (case q9X => k_asm); (case q9N => k_asm); (case q9T => k_asm); (case q9k => exact rfl); (case q9d => ktr_room); (case q9u => ktr_units); (case q9z => assumption); (case q9o => assumption); k_whole); intro h' tk' F' N'); (try (revert h' tk' F' N'; set_option tactic.hygienic true in intros)))
  k_with "Exists" => ((k_here; k_dflt (refine' own_end ?q9F ?q9N ?q9ne ?q9z ?q9tr ?q9tq ?q9b ?q9o ?q9no ?q9w; (case q9F => k_asm); (case q9N => k_asm); (case q9ne => (refine ⟨?_, ?_, ?_, ?_⟩ <;> k_ne)); (case q9z => (rw [pv_len]; omega)); (case q9tr => assumption); (case q9tq => assumption); (case q9b => assumption); (case q9o => (repeat (first | assumption | refine Eq.trans (by assumption) ?_))); (case q9no => assumption); (case q9w => assumption))))
  k_with "k_units" => (ktr_units)
  revert X; k_fill; intro X
  replace hne := neN hne
  refine wpAny_call ?_
  k_dflt cell_enter
  rename Hid _ _ _ => H
  rename_i g1 L1 h1 F1 N1 B1 X1 T1 l1
  have htl : (S t).length = t.length := S_len t
  obtain ⟨hlg, hTg⟩ := own_base N H hl hTu
  w_strict (k_steps)
  rename IsRange _ _ _ _ _ _ _ _ => hR
  rename_i h2 tk2 t1 u1 v1 F2 N2 k2
  refine wpAny_pyIter_range hR ?sm ?_
  case sm =>
    rw [htl]
    exact (small9 ht).1
  have hsz : Builtin.Range.rangeSize 1 (↑(S t).length + 1) 1 = (t.length : Int) := by
    rw [htl]
    exact (small9 ht).2
  rw [hsz]
  have F3 := F2.push { cls := .type "range_iterator", data := .fields #[rawInt 1, rawInt (t.length : Int), rawInt 1] }
  have N3 := N2.push F2 { cls := .type "range_iterator", data := .fields #[rawInt 1, rawInt (t.length : Int), rawInt 1] }
  have hI : @LT.lt Nat _ L1 h2.objs.size := F2.ns.lt
  generalize hgI : h2.objs.size = I at *
  generalize (h2.push { cls := .type "range_iterator", data := .fields #[rawInt 1, rawInt (t.length : Int), rawInt 1] }) = h3 at *
  replace F3 : Fr g1 L1 h3 (ownM none none none x pl t tt c tc) := ownM0 x pl t tt c tc ▸ F3
  refine ⟨I, 1, t.length, _, _, OwnJ x dx pl t tt c tc hh kt s.os, rfl, ?_, F3, N3, ?_, ?_, ?_, ?_⟩
  · exact fun i m news s h tk hj => hj
  · intro q hq
    simp only [List.mem_cons, List.not_mem_nil, or_false] at hq
    rcases hq with rfl | rfl | rfl | rfl <;> (show (_ : Nat) ≠ I; omega)
  · exact ⟨none, none, none, vs, n, it, i0, ps, qs, rfl, rfl, hz, htr, htq, hB, rfl, fun q h1 h2 => absurd h2 (by omega)⟩
  · intro i m' news' s' t' hi F4 N4 hN4 hJ T9 hT9
    obtain ⟨vr, vl, vsn, vs', n', it', i', ps', qs', rfl, rfl, hz', htr', htq', hB', ho', hno⟩ := hJ
    have hdx : x < L1 ∧ dx < L1 := ⟨l1.1, l1.2.1⟩
    obtain ⟨b1, b2, b3, b4, b5, b6⟩ := own_bounds hc hi ht
    dsimp only at F4
    w_strict (k_steps)
    rename Fr _ _ _ _ => F5
    rename News _ _ _ _ => N5
    have hsl := own_slen t (c - (i + 1)) (min (c + (i + 1)) t.length - (c - (i + 1))) b1
    refine kms_slice_lit (lo := some (if (c : Int) - (1 + i) > 0 then (c : Int) - (1 + i) else 0)) (hi := some ((c : Int) + (1 + i))) F5 N5 (hlg.at fun o e => F5.keep _ _ e) (IsPart.int _ _) (IsPart.int _ _) (pick_pv (a := c - (i + 1)) (b := c + (i + 1)) (low_eq c i) (hi_eq c i) (Nat.le_trans (Nat.sub_le _ _) (Nat.le_of_lt hc))) ?_ (by with_unfolding_all rfl) (by first | (intro r; rfl) | kmk_pure) (by rw [List.size_toArray, pv_len, sizeLine_eq]; omega)
    clear F5 N5
    intro D5 h5 F5 N5 l5
    k_lt l5
    w_strict (k_steps)
    rename Kp _ _ => kK
    rename Has _ _ => kH
    have hwc : wcond t c (i + 1) = true := by assumption
    rw [show (1 + (i : Int)) = ((i + 1 : Nat) : Int) by omega]
    refine hret _ (i + 1) _ _ _ _ _ _ _ (by omega) (by omega) hwc (fun q h1 h2 => hno q h1 (by omega)) (kpBut_of H kK) (has_cons (kH.get (by k_mem)) (has_cons (kH.get (by k_mem)) (has2 (kH.get (by k_mem)) (kH.get (by k_mem))))) (by rw [pv_len]; omega) (by assumption) (by assumption) (by assumption) ?_
    repeat (first | assumption | refine Eq.trans (by assumption) ?_)
  · rintro m' news' s' F4 N4 ⟨vr, vl, vsn, vs', n', it', i', ps', qs', rfl, rfl, hz', htr', htq', hB', ho', hno⟩
    have := hno t.length (by omega) (Nat.le_refl _)
    rw [wcond_all t c hc] at this; cases this
end
end Mine
end

section
set_option maxRecDepth 100000
set_option maxHeartbeats 8000000
namespace Mine
section
variable {w : World} {p : Program} {loose : List Str} {mean : ExcName → Option Value} {mg mb : Str → Option Value} {dp un : Nat} {gd : Option (List Code)} {cn : Str} {cs : Scope} {a : Addr} {ccd : Value} {cl : List (Str × Addr)} {outer : List Env} {A₀ : Around} {base h₀ : Heap} {L : Addr} {m : Str → Option Value} {s : Shared} {Q E : Value → Shared → Prop}
theorem lexer_spec (B : Below A₀ base outer h₀) (F : Fr h₀ L s.heap m) (X : (Mine.hd.heap_39 w.params).In h₀) (T : Top p loose mean mg mb h₀) (hk : cs.kind = .function) (hd : dp + 2 < recursionLimit) (hu : un + 40 < cLine)
    {t : List Nat} {tt : Tok} (htl : t.length ≤ 100) (N : News h₀ L s.heap [(156, tabObj #[])])
    (hret : ∀ (x : Lx) h' tk' it kt ps', x.t = t → x.Ord → ReadSpec w x.fR x.cR x.atl x.cA x.cT x.fdR x.ocR x.oA x.oT x.t → (@LE.le Nat _ s.heap.objs.size x.cT) → KpBut [156] s.heap h' → Has h' (x.led 1 it [] 0 0 kt 0) → h'.get? 156 = some (tabObj ps') → Q (.ref x.M) { s with heap := h', toks := tk' }) :
    wpAny (model PySem.Challenge.rw_re0059_01.prog w) (ktrTop dp un gd cn cs L a ccd cl outer) (call (.ref 161) [.str (S t) tt]) Q E s := by
  k_with_none
  w_top off
  k_with "lt" => (first | (with_reducible assumption) | (apply And.left; (first | (with_reducible assumption) | (apply And.right; (first | (with_reducible assumption) | (apply And.right; (first | (with_reducible assumption) | (apply And.right; (first | (with_reducible assumption) | (apply And.right; (first | (with_reducible assumption) | (apply And.right; (first | (with_reducible assumption) | (apply And.right; (first | (with_reducible assumption) | (apply And.right; (first | (with_reducible assumption) | (apply And.right; (first | (with_reducible assumption) | (apply And.right; (first | (with_reducible assumption) | (apply And.right; (first | (with_reducible assumption) | (apply And.right; (first | (with_reducible assumption) | (apply And.right; (first | (with_reducible assumption) | (apply And.right; (first | (with_reducible assumption) | (apply And.right; (first | (with_reducible assumption) | (apply And.right; (first | (with_reducible assumption) | (apply And.right; (first | (with_reducible assumption) | (apply And.right; (first | (with_reducible assumption) | (apply And.right; (first | (with_reducible assumption) | (apply And.right; (first | (with_reducible assumption) | (apply And.right; (first | (with_reducible assumption) | (apply And.right; (first | (with_reducible assumption) | (apply And.right; (first | (with_reducible assumption) | (apply And.right; (first | (with_reducible assumption) | (apply And.right; (first | (with_reducible assumption) | (apply And.right; (with_reducible assumption)))))))))))))))))))))))))))))))))))))))))))))))))))) | (apply And.right; (first | (with_reducible assumption) | (apply And.right; (first | (with_reducible assumption) | (apply And.right; (first | (with_reducible assumption) | (apply And.right; (first | (with_reducible assumption) | (apply And.right; (first | (with_reducible assumption) | (apply And.right; (first | (with_reducible assumption) | (apply And.right; (first | (with_reducible assumption) | (apply And.right; (first | (with_reducible assumption) | (apply And.right; (first | (with_reducible assumption) | (apply And.right; (first | (with_reducible assumption) | (apply And.right; (first | (with_reducible assumption) | (apply And.right; (first | (with_reducible assumption) | (apply And.right; (first | (with_reducible assumption) | (apply And.right; (first | (with_reducible assumption) | (apply And.right; (first | (with_reducible assumption) | (apply And.right; (first | (with_reducible assumption) | (apply And.right; (first | (with_reducible assumption) | (apply And.right; (first | (with_reducible assumption) | (apply And.right; (first | (with_reducible assumption) | (apply And.right; (first | (with_reducible assumption) | (apply And.right; (first | (with_reducible assumption) | (apply And.right; (first | (with_reducible assumption) | (apply And.right; (first | (with_reducible assumption) | (apply And.right; (first | (with_reducible assumption) | (apply And.right; (first | (with_reducible assumption) | (apply And.right; (with_reducible assumption)))))))))))))))))))))))))))))))))))))))))))))))))))))
  k_with "k_ne" => (refine neN ?_; (try dsimp only); first | k_extra "lt" | (refine Ne.symm ?_; k_extra "lt") | (refine Nat.ne_of_lt ?_; k_extra "lt") | (refine Nat.ne_of_gt ?_; k_extra "lt") | (refine Nat.ne_of_lt (Nat.lt_add_right _ ?_); k_extra "lt") | (refine Nat.ne_of_gt (Nat.lt_add_right _ ?_); k_extra "lt") | (refine Nat.ne_of_lt (Nat.lt_add_right _ (Nat.lt_add_right _ ?_)); k_extra "lt") | (refine Nat.ne_of_gt (Nat.lt_add_right _ (Nat.lt_add_right _ ?_)); k_extra "lt") | (refine cell_ne2 ?_; decide) | (refine cell_ne ?_; k_extra "lt") | (refine Ne.symm (cell_ne ?_); k_extra "lt"))
  k_with "cell_enter" => ((refine' enterQC ?k1 ?k2 ?k3 ?k4 ?k5 ?kA ?kF ?kK ?k6 ?k7 ?k8 ?k9 ?kB ?kD ?_ ?c2 ?c3 ?c4; (case kA => exact rfl); (case kF => exact rfl); (case kK => assumption); (case k1 => k_asm); (case k2 => k_asm); (case k3 => k_asm); (case k4 => k_asm); (case k5 => k_asm); (case k6 => k_is); (case k7 => k_is); (case k8 => ktr_room); (case k9 => first | exact BindsTo.of_eq rfl | exact binds_K (by k_in) rfl (by k_is) rfl rfl rfl); (case kB => exact rfl); (case kD => decide +kernel); (case c2 => exact rfl); (case c3 => exact rfl); (case c4 => exact rfl); k_whole; intro P9 hP9 g' L' h' tk' cells' H' F' N' Y' B' X' T' l' e'; (try k_lt l'); k_cells Y'; (try simp only [List.cons_append, List.nil_append] at N'); (try dsimp only); (try k_fold)))
  k_with "tb_start" => ((refine' enterQN ?k1 ?k2 ?k3 ?k4 ?k5 ?kA ?kF ?kK ?k6 ?k7 ?k8 ?k9 ?kB ?_ ?c2 ?c3 ?c4 ?c5; (case kA => exact rfl); (case kF => exact rfl); (case kK => assumption); (case k1 => k_asm); (case k2 => k_asm); (case k3 => k_asm); (case k4 => k_asm); (case k5 => k_asm); (case k6 => k_mem); (case k7 => exact codeRec_news (by k_asm) (by k_mem) (by assumption) (by assumption)); (case k8 => ktr_room); (case k9 => exact BindsTo.of_eq rfl); (case c5 => decide); (case kB => exact locs rfl); (case c2 => exact rfl); (case c3 => exact rfl); (case c4 => exact rfl); k_whole; intro P9 hP9 g' L' h' H' F' N' B' X' T' l' e'; (try dsimp only); (try k_lt l'); (try k_fold)); (try (revert P9 hP9 g' L' h' H' F' N' B' X' T' l' e'; set_option tactic.hygienic true in intros)))
  k_with "LeaveQ" => ((k_dflt (refine' leaveQ ?kP ?k1 ?k2 ?_; (case kP => assumption); (case k1 => k_asm); (case k2 => k_asm); k_whole); intro kK kH; (try dsimp only)); (try (revert kK kH; set_option tactic.hygienic true in intros)))
  k_with "setAttr ref" => ((k_here; k_dflt (refine' set_fn ?q9F ?q9N ?q9U ?_; (case q9F => k_asm); (case q9N => k_asm); (case q9U => k_updF); k_whole); intro d' h' t' F' N' l1; (try dsimp only at N'); (try k_lt l1); (try k_sweep)); (try (revert d' h' t' F' N' l1; set_option tactic.hygienic true in intros)))
  k_with "ktr_enter" => ((refine' code_def ?k1 ?k2 ?k3 ?k4 ?k5 ?kA ?kF ?kK ?k6 ?k7 ?k8 ?k9 ?kB ?_ ?c2 ?c3 ?c4 ?c5; (case kA => exact rfl); (case kF => exact rfl); (case kK => exact rfl); (case k1 => k_asm); (case k2 => k_asm); (case k3 => k_asm); (case k4 => k_asm); (case k5 => k_asm); (case k6 => k_is); (case k7 => k_is); (case k8 => ktr_room); (case k9 => exact BindsTo.of_eq rfl); (case c5 => decide); (case kB => exact locs rfl); (case c2 => exact rfl); (case c3 => exact rfl); (case c4 => exact rfl); k_whole; intro g' L' h' FG' F' N' B' X' T'; (try dsimp only); (try k_fold)); (try (revert g' L' h' FG' F' N' B' X' T'; set_option tactic.hygienic true in intros)))
  k_with "call ref" => ((k_here; (with_reducible show wpAny _ _ (call (Value.ref 150) _) _ _ _); k_dflt (refine' call_cls ?q9F ?q9X ?q9N ?q9m ?q9i ?q9f ?_; (case q9F => k_asm); (case q9X => k_asm); (case q9N => k_asm); (case q9m => k_is); (case q9i => k_is); (case q9f => k_is); k_whole); intro x' d' h' F' N' l1 l2; (try k_lt l1); (try k_lt2 l2); (try k_sweep); k_dflt ktr_enter); (try (revert x' d' h' F' N' l1 l2; set_option tactic.hygienic true in intros)))
  revert X; k_fill; intro X
  refine wpAny_call ?_
  k_dflt cell_enter
  rename Hid _ _ _ => H
  rename Frag.In _ _ => X1
  have hC := codeHd_of_K (c := 160) (P := 156) X1 (by kernel_rfl)
  w_strict (k_steps)

  rename_i o' o2' d1' d2' l'_1 h'_1 l1 h'_2 o'_1 d' tk f' c' oc' vs' t' ct' dc' h'_3 tk'_1 d1'_1 d2'_1 l1_1 l2 h'_4 f'_1 c'_1 oc'_1 vs'_1 t'_1 ct'_1 h'_5 tk'_2 d1'_2 d2'_2 l1_2 l2_1 h'_6 d'_1 h'_7 t'_2 l1_3 g'_1 L'_1 h'_9 FG' B'_1 X' T'_1 x' d'_2 h'_8 F' N' l1_4 l2_2 qk_9 ek_9 tk_1 h'_10 h'_11 h'_12 l'_2 h'_13 l1_5 h'_14 F'_1 N'_1 kF kN Tc' kX kK kH
  rename Has _ _ => kH9
  rename Kp _ _ => kK9
  have hoA : o'_1.data = Data.cell (some (.ref l'_1)) := by assumption
  have hoT : o2'.data = Data.cell (some (.str (S t) tt)) := d2'
  refine' hret ⟨x', d'_2, l'_2, d'_1, f'_1, f', c', l'_1, L' + 1 + 1, L' + 1, _, _, oc', o'_1, o2', _, _, _, _, _, _, _, _, _, _, _, t⟩ _ _ _ _ _ rfl ?ord ?read ?ge ?kp ?has ?tab
  case has =>
    refine' has_cons ?a1 (has_cons ?a2 (has_cons ?a3 (has_cons ?a4 (has_cons ?a5 (has_cons ?a6 (has_cons ?a7 (has_cons ?a8 (has2 ?a9 ?a10))))))))
    all_goals exact kH9.get (by k_mem)
  case tab => exact kH9.get (by k_mem)
  case kp => exact kpBut_of H kK9
  case ge => show @LE.le Nat _ s.heap.objs.size (L' + 1); rw [e']; exact Nat.le_succ _
  case ord =>
    unfold Lx.Ord
    dsimp only
    refine ⟨?_, ?_, ?_, ?_, ?_, ?_, ?_, ?_, ?_⟩ <;> (refine ltN ?_; omega)
  case read =>
    clear B F T hk N H d1' d2' kH9 kK9
    unfold ReadSpec
    intro p loose mean mg mb dp un gd cn cs a ccd cl outer A₀ base h₀ L m s Q E k kt ot na B F X T hk hd hu N hkt hret
    revert X; k_fill; intro X
    have hSl : (S t).length ≤ 100 := by rw [S_len]; exact htl
    have hsl : Txt.slice (S t) (some (k : Int)) (some ((k : Int) + 1)) = S ((t.drop k).take 1) := by rw [slice_ss _ (by omega) (by omega), List.drop_take, show ((k : Int) + 1).toNat = k + 1 by omega, Int.toNat_natCast, show k + 1 - k = 1 by omega]
    refine wpAny_call ?_
    k_dflt tb_start
    w_strict (k_steps)
    rename Kp _ _ => kK
    rename Has _ _ => kH
    rename Hid _ _ _ => H1
    show Q (Value.str (Txt.slice (S t) (some (k : Int)) (some ((k : Int) + 1))) _) _
    have hA := kH.get (.tail _ (.tail _ (.head _)))
    have hA2 : _ = some (W.listOf #[Value.int ((k : Int) + ((Txt.slice (S t) (some (k : Int)) (some ((k : Int) + 1))).length : Int)) _] _) := hA
    rw [hsl, S_len] at hA2
    rw [hsl]
    rw [show (k : Int) + (((t.drop k).take 1).length : Nat) = (((k + ((t.drop k).take 1).length : Nat) : Int)) by omega] at hA2
    refine hret _ _ _ _ _ (kpBut_back H1 kK (News.has N) fun q hq => ?_) hA2
    · simp only [List.mem_cons, List.not_mem_nil, or_false] at hq
      rcases hq with rfl | rfl | rfl | rfl | rfl
      · exact .inr (kH.get (by k_mem))
      · exact .inr (kH.get (by k_mem))
      · exact .inl (.head _)
      · exact .inr (kH.get (by k_mem))
      · exact .inr (kH.get (by k_mem))
end
end Mine
end

section
set_option maxRecDepth 100000
set_option maxHeartbeats 4000000
namespace Mine
end Mine
end

section
set_option maxRecDepth 100000
set_option maxHeartbeats 4000000
namespace Mine
/-- what is to be shown at the end of law -/
noncomputable def PP (tabs : List (Addr × Addr)) (g : Heap) (os : OsState) (r : Result) (s' : Shared) : Prop :=
  r = .ok (.ret (.bool true)) ∧ (∀ b o, g.get? b = some o → s'.heap.get? b = some o) ∧ s'.os = os ∧ AllBare s'.gens ∧ GrownAll tabs s'.heap
theorem PP.intro {g h : Heap} {os : OsState} {L : Addr} {m : Str → Option Value} {news : List (Addr × Obj)} {ge : Array GenState} {d : Drawn} {tk : Nat} {v : Value} {ps qs rs : Array Value} (hv : v = .bool true) (F : Fr g L h m) (N : News g L h news) (h1 : (156, tabObj ps) ∈ news) (h2 : (70, tabObj qs) ∈ news) (h3 : (63, tabObj rs) ∈ news) (hb : AllBare ge) :
    PP [(160, 156), (74, 70), (67, 63)] g os (.ok (.ret v)) ⟨h, ge, d, tk, os⟩ :=
  ⟨by rw [hv], F.keep, rfl, hb, ⟨ps, (N _ h1).1⟩, ⟨qs, (N _ h2).1⟩, ⟨rs, (N _ h3).1⟩, trivial⟩
theorem post_PP {M : Model} {A : Around} {cd : Code} {s s₁ : Shared} {cw : ClaimW} {cl : Str → Option Addr} {mean : ExcName → Option Value} {args : List WData} {tabs : List (Addr × Addr)} (hT : TabsAt tabs s₁.heap) (hr : ∀ a x, cw.raises a x = false) (hp : cw.post args (.bool true) args = true)
    (h : codeAny M A cd (PP tabs (ghostOf s₁.heap tabs) s₁.os) s) : codeAny M A cd (GoodWG cw cl mean args s₁) s :=
  codeAny_mono h fun r s' ⟨h0, hk, hos, hb, hgr⟩ => by
    subst h0
    have keep : ∀ b o, b ∉ tabs.map (·.2) → s₁.heap.get? b = some o → s'.heap.get? b = some o := fun b o hb e => hk b o (ghost_ne e hb)
    have grown : ∀ b o, b ∈ tabs.map (·.2) → s₁.heap.get? b = some o → isCodeTable s₁.heap b ∧ o = tabObj #[] ∧ ∃ ps, s'.heap.get? b = some (tabObj ps) := fun b o hb e => by
      obtain ⟨q, hq, rfl⟩ := List.mem_map.mp hb
      have e2 := (hT q hq).2
      rw [e] at e2
      exact ⟨((hT q hq).1.tab (hT q hq).2).isCodeTable, Option.some.inj e2, hgr.get q hq⟩
    refine ⟨.inl ⟨_, _, [], rfl, hr _, ReadsW.bool true, hp, fun _ => ⟨List.nodup_nil, fun _ hm => (nomatch hm)⟩⟩, ⟨fun b o e => ?_, fun b o e => ?_⟩, hos, hb⟩
    · by_cases hb : b ∈ tabs.map (·.2)
      · obtain ⟨ht, rfl, ps, hP⟩ := grown b o hb e
        exact .inr (.inl ⟨ht, rfl, #[], ps, rfl, by rw [Array.empty_append]; exact hP⟩)
      · exact .inl (keep b o hb e)
    · by_cases hb : b ∈ tabs.map (·.2)
      · obtain ⟨_, _, ps, hP⟩ := grown b o hb e
        exact ⟨_, hP⟩
      · exact ⟨o, keep b o hb e⟩
end Mine
end

section
set_option maxRecDepth 100000
set_option maxHeartbeats 8000000
namespace Mine
noncomputable def st1 : { P : Prop // Box P → PySem.Challenge.rw_re0059_01.Holds } := ⟨_, fun hP9 => by
  refine Mine.hd ?_
  k_fill
  intro w s₀ s₁ mg mb G Y fa o pm cd doc dV kV ho hd hcd hD hmg hg args vals as hpre hlay hrd hwl hlo
  have KX := km_in_of Y
  km_tabs Y
  have X := (Ground.X G).1
  have V := (Ground.X G).2
  refine Ground.open G ?_
  intro T B D TE TW
  try (refine guard_noD D (by decide +kernel) ?_; clear D)
  have hT9 : TabsAt ([(160, 156), (74, 70), (67, 63)] : List (Addr × Addr)) s₁.heap := List.forall_mem_cons.mpr ⟨⟨codeHd_of_K (c := 160) (P := 156) KX (by kernel_rfl), hT8 156 (by k_mem)⟩, List.forall_mem_cons.mpr ⟨⟨codeHd_of_K (c := 74) (P := 70) KX (by kernel_rfl), hT8 70 (by k_mem)⟩, List.forall_mem_cons.mpr ⟨⟨codeHd_of_K (c := 67) (P := 63) KX (by kernel_rfl), hT8 63 (by k_mem)⟩, fun _ h => nomatch h⟩⟩⟩
  clear hmg
  wrow_args hpre hlay hrd hwl hlo

  first | refine callC_kw (enter_call ?_) | refine enter_call ?_
  w_top on
  refine post_PP hT9 (fun _ _ => rfl) ?hp ?_
  case hp => first | rfl | wrow_post | (with_unfolding_all rfl)
  w_call any ho hd hcd hD T F
  clear hd
  kn_ghosts F T
  k_drop
  refine wpAny_noRaise ?_
  (rename_i zz1 zz2 zz3 zz4 zz5 zz6 zz7 zz8 zz9 zz10 zz11 zz12 zz13 zz14 zz15 zz16 zz17 zz18 zz19 zz20 zz21 zz22 zz23 zz24 zz25 zz26 zz27 zz28 zz29 zz30 zz31 zz32 zz33 zz34 zz35 zz36 zz37 zz38 zz39 zz40 zz41 zz42; revert w s₀ s₁ mg mb G Y fa o pm cd doc ho hcd hg hT8 X V T B TE TW hT9 zz1 zz2 zz3 zz4 zz5 zz6 zz7 zz8 zz9 zz10 zz11 zz12 zz13 zz14 zz15 zz16 zz17 zz18 zz19 hD zz20 zz21 zz22 zz23 zz24 zz25 zz26 zz27 zz28 zz29 zz30 zz31 zz32 zz33 zz34 zz35 zz36 zz37 zz38 lifted zz39 zz40 codeHd zz41 zz42; exact hP9.out)⟩
end Mine
end

section
set_option maxRecDepth 100000
set_option maxHeartbeats 8000000
set_option tactic.hygienic false
namespace Mine
noncomputable def st2 : { P : Prop // Box P → st1.1 } := ⟨_, fun hP9 => by
  k_with_none
  w_top off
  k_with "lt" => (first | (with_reducible assumption) | (apply And.left; (first | (with_reducible assumption) | (apply And.right; (first | (with_reducible assumption) | (apply And.right; (first | (with_reducible assumption) | (apply And.right; (first | (with_reducible assumption) | (apply And.right; (first | (with_reducible assumption) | (apply And.right; (first | (with_reducible assumption) | (apply And.right; (first | (with_reducible assumption) | (apply And.right; (first | (with_reducible assumption) | (apply And.right; (first | (with_reducible assumption) | (apply And.right; (first | (with_reducible assumption) | (apply And.right; (first | (with_reducible assumption) | (apply And.right; (first | (with_reducible assumption) | (apply And.right; (first | (with_reducible assumption) | (apply And.right; (first | (with_reducible assumption) | (apply And.right; (first | (with_reducible assumption) | (apply And.right; (first | (with_reducible assumption) | (apply And.right; (first | (with_reducible assumption) | (apply And.right; (first | (with_reducible assumption) | (apply And.right; (first | (with_reducible assumption) | (apply And.right; (first | (with_reducible assumption) | (apply And.right; (first | (with_reducible assumption) | (apply And.right; (first | (with_reducible assumption) | (apply And.right; (first | (with_reducible assumption) | (apply And.right; (first | (with_reducible assumption) | (apply And.right; (first | (with_reducible assumption) | (apply And.right; (with_reducible assumption)))))))))))))))))))))))))))))))))))))))))))))))))))) | (apply And.right; (first | (with_reducible assumption) | (apply And.right; (first | (with_reducible assumption) | (apply And.right; (first | (with_reducible assumption) | (apply And.right; (first | (with_reducible assumption) | (apply And.right; (first | (with_reducible assumption) | (apply And.right; (first | (with_reducible assumption) | (apply And.right; (first | (with_reducible assumption) | (apply And.right; (first | (with_reducible assumption) | (apply And.right; (first | (with_reducible assumption) | (apply And.right; (first | (with_reducible assumption) | (apply And.right; (first | (with_reducible assumption) | (apply And.right; (first | (with_reducible assumption) | (apply And.right; (first | (with_reducible assumption) | (apply And.right; (first | (with_reducible assumption) | (apply And.right; (first | (with_reducible assumption) | (apply And.right; (first | (with_reducible assumption) | (apply And.right; (first | (with_reducible assumption) | (apply And.right; (first | (with_reducible assumption) | (apply And.right; (first | (with_reducible assumption) | (apply And.right; (first | (with_reducible assumption) | (apply And.right; (first | (with_reducible assumption) | (apply And.right; (first | (with_reducible assumption) | (apply And.right; (first | (with_reducible assumption) | (apply And.right; (first | (with_reducible assumption) | (apply And.right; (first | (with_reducible assumption) | (apply And.right; (with_reducible assumption)))))))))))))))))))))))))))))))))))))))))))))))))))))
  k_with "k_ne" => (refine neN ?_; (try dsimp only); first | k_extra "lt" | (refine Ne.symm ?_; k_extra "lt") | (refine Nat.ne_of_lt ?_; k_extra "lt") | (refine Nat.ne_of_gt ?_; k_extra "lt") | (refine Nat.ne_of_lt (Nat.lt_add_right _ ?_); k_extra "lt") | (refine Nat.ne_of_gt (Nat.lt_add_right _ ?_); k_extra "lt") | (refine Nat.ne_of_lt (Nat.lt_add_right _ (Nat.lt_add_right _ ?_)); k_extra "lt") | (refine Nat.ne_of_gt (Nat.lt_add_right _ (Nat.lt_add_right _ ?_)); k_extra "lt") | (refine cell_ne2 ?_; decide) | (refine cell_ne ?_; k_extra "lt") | (refine Ne.symm (cell_ne ?_); k_extra "lt"))
  k_with "exec Assign cons ListComp" => (((with_reducible show wpAny _ _ (exec (Stmt.Assign [Expr.Name (Str.ofString "words") _] _ _) _) _ _ _); (rename_i zz1 zz2 zz3 zz4 zz5 zz6 zz7 zz8 zz9 zz10 zz11 zz12 zz13 zz14 zz15 zz16 zz17 zz18 zz19 zz20 zz21 zz22 zz23 zz24 zz25 zz26 zz27 zz28 zz29 zz30 zz31 zz32 zz33 zz34 zz35 zz36 zz37 zz38 zz39 zz40 zz41 zz42 zz43 zz44; revert w mg mb fa pm cd doc w_1 w_4 w_5 hI hcond' h₁ tk₁ w_7 w_8 w_9 w_10 w_11 w_12 p9 loose9 mean9 dr os0 g0 K' lifted T9 L0 left left_1 left_2 left_3 left_4 right l0 X' zz1 zz2 zz3 zz4 zz5 zz6 zz7 zz8 zz9 zz10 ys zz11 zz12 zz13 zz14 zz15 zz16 zz17 zz18 zz19 zz20 zz21 zz22 zz23 zz24 zz25 zz26 zz27 zz28 zz29 zz30 zz31 zz32 zz33 zz34 zz35 zz36 zz37 zz38 zz39 tk zz40 zz41 zz42 zz43 zz44; exact hP9.out)))
  k_with "subscriptTail Name Slice ref ref" => ((k_here; (with_reducible show wpAny _ _ (subscriptTail _ (PySem.Expr.Slice (some _) none none _) (Value.ref _) (Value.ref _)) _ _ _); k_dflt (refine' kmk_slice_ints (ns := [0, 1, 0, 0, 1, 0]) ?q9F ?q9N ?q9l ?q9p ?q9q ?q9i ?q9m ?q9c ?_ ?q9s ?q9t ?q9z; (case q9F => k_asm); (case q9N => k_asm); (case q9l => exact News.isList (by k_asm) (by k_mem)); (case q9p => exact IsPart.int _ _); (case q9q => exact IsPart.none); (case q9i => (repeat (first | exact IntsAre.nil | refine IntsAre.cons _ _ ?_))); (case q9m => exact kmk_from (ns := [0, 1, 0, 0, 1, 0]) (by repeat (first | exact IntsAre.nil | refine IntsAre.cons _ _ ?_)) (by omega)); (case q9c => rfl); (case q9s => with_unfolding_all rfl); (case q9t => kmk_pure); (case q9z => exact Nat.le_of_ble_eq_true rfl); k_whole); intro D' ws' h' F' N' l1 hI' hC' hL'; (try k_lt l1)); (try (revert D' ws' h' F' N' l1 hI' hC' hL'; set_option tactic.hygienic true in intros)))
  intro w; revert w; (set_option tactic.hygienic true in intros)
  rename_i w s₀ s₁ mg mb G Y fa o pm cd doc ho hcd hg hT8 X V T B TE TW hT9 w_1 hs hlay0 hL hr hl2 w_2 w_3 w_4 w_5 w_6 hL_1 ra w1 r0 hI hr_1 hcond' hcond'_1 hD h₁ tk₁ w_7 w_8 w_9 w_10 w_11 w_12 left left_1 left_2 left_3 left_4 right X0 X' T' K' F' lifted codeHd codeHd_1 codeHd_2 N' l0
  clear G Y ho hcd hT8 hT9 V X T B TE TW hD w1 r0 hr_1 hs hlay0 hL hr hl2 ra hL_1 hcond'_1 X0 codeHd codeHd_1 codeHd_2
  have T9 : ∃ p loose mean, Top p loose mean mg mb (ghostOf s₁.heap [(160, 156), (74, 70), (67, 63)]) := ⟨_, _, _, T'⟩
  clear T'
  obtain ⟨p9, loose9, mean9, T9⟩ := T9
  obtain ⟨hp, ge, dr, tk0, os0⟩ := s₁
  dsimp only at *
  subst hg
  generalize ghostOf hp _ = g0 at *
  generalize hp.objs.size = L0 at *
  clear hp tk0 w_2 w_3 w_6 s₀ o
  revert X'; k_fill; intro X'
  (try k_fold)
  w_strict (k_steps)⟩
end Mine
end

section
set_option maxRecDepth 100000
set_option maxHeartbeats 4000000
namespace Mine
section
variable {prog : Program} {w : World} {A : Around} {h₀ : Heap} {L : Addr} {m : Str → Option Value} {env : Env} {elt : Expr} {x : Str} {scope : Scope} {cl : List (Str × Addr)} {s : Shared} {SS : List (Addr × Obj) → Prop} {P : Nat → Value → Prop} {Fin : List Value → List (Addr × Obj) → Prop} {news : List (Addr × Obj)}
/-- the turns of a comprehension, by what holds between them -/
theorem comp_inv {n : Nat} (J : Nat → List Value → List (Addr × Obj) → Prop) (h0 : J 0 [] news)
    (turn : ∀ i v I oI C oC D m₂ ys nw h tk (E' : Value → Shared → Prop), i < n → P i v → J i ys nw → LCg.NsObj oC m₂ → m₂ x = some v → Fr h₀ L h m → News h₀ L h ((I, oI) :: (C, oC) :: (D, LCg.lst ys) :: nw) → LCg.Off3 I C D nw → ((@Ne Nat I C) ∧ (@Ne Nat I D) ∧ (@Ne Nat C D)) →
      wpAny (model prog w) A (eval elt (compEnvC scope cl C env)) (LCg.CompEnd h₀ L m { s with heap := h, toks := tk } I oI C oC D (LCg.lst ys) SS (fun y nw' => J (i + 1) (ys ++ [y]) nw')) E' { s with heap := h, toks := tk })
    (fin : ∀ ys nw, J n ys nw → Fin ys nw) : LCg.CompRest prog w A h₀ L m env elt x scope cl s SS P Fin n 0 [] news := by
  have key : ∀ (j i : Nat) (ys : List Value) nw, i + j = n → J i ys nw → LCg.CompRest prog w A h₀ L m env elt x scope cl s SS P Fin j i ys nw := by
    intro j
    induction j with
    | zero =>
      intro i ys nw hi hy
      have e : i = n := by omega
      subst e
      exact LCg.CompRest.zero (fin ys nw hy)
    | succ j ih =>
      intro i ys nw hi hy
      refine LCg.CompRest.succ ?_
      intro v I oI C oC D m₂ h tk E' hv hC hx F N off ne
      refine wpAny_mono (turn i v I oI C oC D m₂ ys nw h tk E' (by omega) hv hy hC hx F N off ne) (fun y s₂ hq => ?_) fun _ _ e => e
      obtain ⟨h', tk', nw', e, F', N', off', hS, hn⟩ := hq
      exact ⟨h', tk', nw', e, F', N', off', hS, ih (i + 1) _ _ (by omega) hn⟩
  exact key n 0 [] news (by omega) h0
/-- each turn gives a text, the ledger stays -/
noncomputable def CStr (news : List (Addr × Obj)) (l : List Nat) (y : Value) (news' : List (Addr × Obj)) : Prop := news' = news ∧ ∃ t : Tok, y = .str (S l) t
theorem cstr_rest {vs : List Value} {ks : List Int} (g : Int → List Nat) (hi : IntsAre vs ks)
    (turn : ∀ k t I oI C oC D m₂ ys h tk (E' : Value → Shared → Prop), k ∈ ks → LCg.NsObj oC m₂ → m₂ x = some (.int k t) → Fr h₀ L h m → News h₀ L h ((I, oI) :: (C, oC) :: (D, LCg.lst ys) :: news) → LCg.Off3 I C D news → ((@Ne Nat I C) ∧ (@Ne Nat I D) ∧ (@Ne Nat C D)) →
      wpAny (model prog w) A (eval elt (compEnvC scope cl C env)) (LCg.CompEnd h₀ L m { s with heap := h, toks := tk } I oI C oC D (LCg.lst ys) SS (fun y news' => CStr news (g k) y news')) E' { s with heap := h, toks := tk })
    (fin : ∀ ys, Strs ys (ks.map g) → Fin ys news) : LCg.CompRest prog w A h₀ L m env elt x scope cl s SS (fun i v => vs.toArray[i]? = some v) Fin vs.toArray.size 0 [] news := by
  refine comp_inv (fun i ys nw => nw = news ∧ Strs ys ((ks.take i).map g)) ⟨rfl, by simpa using Strs.nil⟩ ?_ ?_
  · rintro i v I oI C oC D m₂ ys nw h tk E' hn hv ⟨rfl, hy⟩ hC hx F N off ne
    obtain ⟨k, t, e, hk⟩ := IntsAre.at hi i v (by simpa using hv)
    subst e
    refine wpAny_mono (turn k t I oI C oC D m₂ ys h tk E' (List.mem_of_getElem? hk) hC hx F N off ne) (fun y s₂ hq => ?_) fun _ _ e => e
    obtain ⟨h', tk', nw', e, F', N', off', hS, rfl, t', rfl⟩ := hq
    refine ⟨h', tk', _, e, F', N', off', hS, rfl, ?_⟩
    rw [List.take_add_one, hk, Option.toList_some, List.map_append]
    exact hy.snoc
  · rintro ys nw ⟨rfl, hy⟩
    rw [List.size_toArray, hi.length, List.take_length] at hy
    exact fin ys hy
end
/-- the ring -/
noncomputable def ringL : List Nat := [97, 35, 34, 92, 32, 10]
theorem ring_S : Str.ofString "a#\"\\ \n" = S ringL := by decide +kernel
theorem item_S {l : List Nat} {i : Int} (h0 : 0 ≤ i) (h1 : i < (l.length : Int)) : Txt.item (S l) i = S [l.getD i.toNat 0] := by
  rw [item_meets ⟨h0, by rw [S_len]; exact h1⟩]
  simp [S, Array.getD_eq_getD_getElem?, List.getD_eq_getElem?_getD]
/-- the sign of a number -/
theorem fmod_nat (a : Int) {m : Nat} (h : 0 < m) : ∃ n : Nat, n < m ∧ a.fmod m = (n : Int) := by
  obtain ⟨n, e⟩ := Int.eq_ofNat_of_zero_le (fmod_lo a (n := (m : Int)) (Int.ofNat_lt.mpr h))
  exact ⟨n, Int.ofNat_lt.mp (e ▸ fmod_hi a (n := (m : Int)) (Int.ofNat_lt.mpr h)), e⟩
noncomputable def sg (T k : Int) : Nat := ringL.getD ((T + k.fmod 3).fmod 6).toNat 0
end Mine
end

section
set_option maxRecDepth 100000
set_option maxHeartbeats 8000000
set_option tactic.hygienic false
namespace Mine
theorem ks_len {ks : List Int} (h : ks.length ≤ 8) : 6 ≤ (ks ++ List.drop ((ks.length : Int)).toNat [(0:Int), 1, 0, 0, 1, 0]).length ∧ (ks ++ List.drop ((ks.length : Int)).toNat [(0:Int), 1, 0, 0, 1, 0]).length ≤ 8 := by
  simp only [List.length_append, List.length_drop, List.length_cons, List.length_nil, Int.toNat_natCast]; omega
theorem ks_bnd {ks : List Int} {n : Nat} (h : ∀ k ∈ ks, 0 ≤ k ∧ k < 729) : ∀ k ∈ ks ++ List.drop n [(0:Int), 1, 0, 0, 1, 0], 0 ≤ k ∧ k < 729 := by
  intro k hk
  rcases List.mem_append.mp hk with hk | hk
  · exact h k hk
  · have hk := List.mem_of_mem_drop hk
    simp only [List.mem_cons, List.not_mem_nil, or_false] at hk
    omega
noncomputable def st3 : { P : Prop // Box P → st2.1 } := ⟨_, fun hP9 => by
  intro w; revert w; (set_option tactic.hygienic true in intros)
  rename_i w mg mb fa pm cd doc w_1 w_4 w_5 hI hcond' h₁ tk₁ w_7 w_8 w_9 w_10 w_11 w_12 p9 loose9 mean9 dr os0 g0 K' lifted T9 L0 left left_1 left_2 left_3 left_4 right l0 X' D' ws' h' hI' hC' hL' l1 hkl hkl_1 g' ys hI8 hL8 D'_1 h'_1 tk' o1' h'_2 tk'_1 t' h'_3 o' d' tk l' h'_4 l1_1 D'_2 ws'_1 h'_5 hI'_1 hC'_1 hL'_1 l1_2 D'_3 ws'_2 h'_6 hI'_2 l1_3 h'_7 tk_1 h'_8 o'_1 F' N' d'_1
  have hk8 : 6 ≤ (List.map (fun k' => k'.fmod 729) (List.take 8 w_1) ++ List.drop ((List.map (fun k' => k'.fmod 729) (List.take 8 w_1)).length : Int).toNat [(0:Int), 1, 0, 0, 1, 0]).length ∧ _ := ks_len (by rw [List.length_map, List.length_take]; exact Nat.min_le_left _ _)
  have hkb : ∀ k ∈ (List.map (fun k' => k'.fmod 729) (List.take 8 w_1) ++ List.drop ((List.map (fun k' => k'.fmod 729) (List.take 8 w_1)).length : Int).toNat [(0:Int), 1, 0, 0, 1, 0]), 0 ≤ k ∧ k < 729 := ks_bnd (by
    intro k hk
    obtain ⟨a, _, rfl⟩ := List.mem_map.mp hk
    exact ⟨fmod_lo a (by decide), fmod_hi a (by decide)⟩)
  generalize (List.map (fun k' => k'.fmod 729) (List.take 8 w_1) ++ List.drop ((List.map (fun k' => k'.fmod 729) (List.take 8 w_1)).length : Int).toNat [(0:Int), 1, 0, 0, 1, 0]) = ks at hI'_2 hk8 hkb
  generalize (List.map (fun k' => k'.fmod 729) (List.take 8 w_1)).sum = T at d'
  replace N' := News.sub (new := [(D'_3, W.listOf ws'_2.toArray 0), (L0 + 1, o'), (L0 + 2, o'_1), (L0 + 3, w_10), (L0 + 4, w_9), (L0 + 5, w_8), (L0 + 6, w_7), (156, tabObj #[]), (70, tabObj #[]), (63, tabObj #[])]) N' (by
    (repeat' (first | exact List.forall_mem_nil _ | refine List.forall_mem_cons.mpr ⟨?_, ?_⟩))
    all_goals k_mem)
  have d0 : o'_1.data = Data.cell (some (.str (S ringL) _)) := ring_S ▸ d'_1
  clear d'_1
  have lD : L0 + 6 < D'_3 := by omega
  have m9 : ∃ mB : Str → Option Value, Fr g0 L0 h'_8 (fun y => if y = Str.ofString "numbers" then some (Value.ref D'_3) else mB y) := ⟨_, F'⟩
  have c7 : ∃ v, w_7.data = .cell v := ⟨_, left⟩
  have c8 : ∃ v, w_8.data = .cell v := ⟨_, left_1⟩
  have c9 : ∃ v, w_9.data = .cell v := ⟨_, left_2⟩
  have c10 : ∃ v, w_10.data = .cell v := ⟨_, left_3⟩
  clear left left_1 left_2 left_3
  clear F' l1 l1_1 l1_2 l1_3 hI' hC' hL' hkl hkl_1 hI8 hL8 o1' hI'_1 hC'_1 hL'_1 left_4 right hI lifted hcond' w_11 w_12 w_4 w_5
  obtain ⟨mB, F'⟩ := m9
  clear w_1
  obtain ⟨v7, c7⟩ := c7
  obtain ⟨v8, c8⟩ := c8
  obtain ⟨v9, c9⟩ := c9
  obtain ⟨v10, c10⟩ := c10
  generalize Shared.toks _ = tk9 at d0
  clear h' g' h'_1 tk' h'_2 tk'_1 h'_3 h'_4 h'_5 h'_6 h'_7 ws' ys D' D'_1 D'_2 l' ws'_1 h₁ tk₁ tk
  (revert w mg mb fa pm cd doc w_7 w_8 w_9 w_10 p9 loose9 mean9 dr os0 g0 K' T9 L0 l0 X' t' o' D'_3 ws'_2 tk_1 h'_8 o'_1 ks hI'_2 hk8 hkb T d' N' lD mB F' v7 c7 v8 c8 v9 c9 v10 c10 tk9 d0; exact hP9.out)⟩
end Mine
end

section
set_option maxRecDepth 100000
set_option maxHeartbeats 4000000
namespace Mine
theorem AllObj.mono : ∀ {ws : List (Addr × String)} {k k' : List (Addr × Obj) → Prop}, (∀ its, k its → k' its) → AllObj ws k → AllObj ws k'
  | [], _, _, h, x => h _ x
  | _ :: _, _, _, h, x => fun o ho => AllObj.mono (fun _ => h _) (x o ho)
section
variable {prog : Program} {w : World} {A : Around} {E : Value → Shared → Prop} {h₀ : Heap} {env : Env} {target : Expr} {body : List Stmt} {Q : Flow → Shared → Prop} {s : Shared} {ws : List (Addr × String)} {keep news : List (Addr × Obj)}
/-- the turns of a loop over a zip of two lists, by what holds between them; the ledger stays -/
theorem zip_inv (J : Nat → (Str → Option Value) → Prop) (hk : SubL keep news) : ∀ (xs ys : List Value) (i : Nat) (m : Str → Option Value), xs.length = ys.length → J i m →
    (∀ j x y T h tk m, xs[j]? = some x → ys[j]? = some y → J (i + j) m → IsTup h T #[x, y] → Fr h₀ env.locals h m → AllObj ws (fun its => News h₀ env.locals h (its ++ news) →
      wpAny (model prog w) A (assign target env (.ref T)) (fun _ s₂ => wpAny (model prog w) A (execs body env) (UnrPostW h₀ env.locals { s with heap := h, toks := tk } its (fun m' n' => n' = news ∧ J (i + j + 1) m') Q) E s₂) E { s with heap := h, toks := tk })) →
    (∀ m h tk, J (i + xs.length) m → Fr h₀ env.locals h m → News h₀ env.locals h news → Q .next { s with heap := h, toks := tk }) →
    ItemsRest prog w A E h₀ env target body Q s ws keep (zipItems xs ys) m news
  | [], _, i, m, _, hJ, _, fin => ItemsRest.zero fun h tk F N => fin m h tk hJ F N
  | _ :: _, [], _, _, e, _, _, _ => by cases e
  | x :: xs, y :: ys, i, m, e, hJ, turn, fin => by
    refine ItemsRest.pair fun T t h tk hT F => AllObj.mono (fun its f N => ?_) (turn 0 x y T h tk m rfl rfl hJ hT F)
    refine wpAny_mono (f N) (fun _ s₂ h₂ => wpAny_mono h₂ (fun fl s₃ h₃ => ?_) fun _ _ e => e) fun _ _ e => e
    have fin' : UnrEndW h₀ env.locals { s with heap := h, toks := tk } its (fun m' n' => n' = news ∧ J (i + 0 + 1) m') s₃ → UnrEndW h₀ env.locals { s with heap := h, toks := tk } its (fun m' n' => SubL keep n' ∧ ItemsRest prog w A E h₀ env target body Q s ws keep (zipItems xs ys) m' n') s₃ := by
      rintro ⟨h', tk', m', n', e1, F', N', off, hn', hJ'⟩
      rw [hn'] at N' off
      refine ⟨h', tk', m', _, e1, F', N', off, hk, zip_inv J hk xs ys (i + 1) m' (by simpa using e) hJ' ?_ ?_⟩
      · intro j x y T h tk m hx hy hJ hT F
        have := turn (j + 1) x y T h tk m (by simpa using hx) (by simpa using hy) (by rw [show i + (j + 1) = i + 1 + j by omega]; exact hJ) hT F
        rw [show i + (j + 1) = i + 1 + j by omega] at this
        exact this
      · intro m h tk hJ F N
        exact fin m h tk (by rw [List.length_cons, show i + (xs.length + 1) = i + 1 + xs.length by omega]; exact hJ) F N
    cases fl with
    | ret v => exact h₃
    | brk => exact h₃
    | next => exact fin' h₃
    | cont => exact fin' h₃
end
/-- the token that is written for a number -/
noncomputable def wtok (k : Int) (c : Nat) : List Nat := if (k.fdiv 3).fmod 2 = 1 then [92, c, 32] else [34] ++ (if c = 34 ∨ c = 92 then [92, c] else [c]) ++ [34, 32]
noncomputable def wr (T : Int) (ks : List Int) : List Nat := (ks.map fun k => wtok k (sg T k)).flatten
theorem wtok_len (k : Int) (c : Nat) : (wtok k c).length ≤ 5 := by
  unfold wtok
  split
  · simp
  · split <;> simp
theorem wr_len (T : Int) : ∀ ks : List Int, (wr T ks).length ≤ 5 * ks.length
  | [] => by simp [wr]
  | k :: r => by
    have h1 := wtok_len k (sg T k)
    have h2 := wr_len T r
    have e : wr T (k :: r) = wtok k (sg T k) ++ wr T r := rfl
    rw [e, List.length_append, List.length_cons]; omega
theorem wr_snoc (T : Int) (ks : List Int) (k : Int) : wr T (ks ++ [k]) = wr T ks ++ wtok k (sg T k) := by simp [wr]
theorem wr_take (T : Int) (ks : List Int) (i : Nat) (k : Int) (h : ks[i]? = some k) : wr T (ks.take (i + 1)) = wr T (ks.take i) ++ wtok k (sg T k) := by
  rw [List.take_add_one, h, Option.toList_some, wr_snoc]
theorem sg_mem (T k : Int) : sg T k ∈ ringL := by
  obtain ⟨n, hn, e⟩ := fmod_nat (T + k.fmod 3) (m := 6) (by decide)
  unfold sg
  rw [show (T + k.fmod 3).fmod 6 = (n : Int) from e, Int.toNat_natCast]
  exact (by decide : ∀ n : Nat, n < 6 → ringL.getD n 0 ∈ ringL) n hn
/-- reading one token -/
theorem out_wtok (k : Int) (c : Nat) (r : List Nat) : ∃ b, (b = [32] ∨ b = []) ∧ Out (wtok k c ++ r) [c] (b ++ r) := by
  unfold wtok
  split
  · exact ⟨[], .inr rfl, .esc _ _ _ _ (.stop _ _ _ (by decide))⟩
  · refine ⟨[32], .inl rfl, ?_⟩
    split
    · exact .quote _ _ _ (.esc _ _ _ _ _ (.stop _ _))
    · rename_i h
      exact .quote _ _ _ (.sign _ _ _ _ _ (fun e => h (.inl e)) (fun e => h (.inr e)) (.stop _ _))
theorem out_skip {b l out rest : List Nat} (hb : b = [32] ∨ b = []) (h : Out l out rest) : Out (b ++ l) out rest := by
  rcases hb with rfl | rfl
  · exact .ws _ _ _ _ (by decide) h
  · exact h
/-- what is left of the file after i tokens -/
noncomputable def Left (T : Int) (ks : List Int) (r : List Nat) : Prop := ∃ b, (b = [32] ∨ b = []) ∧ r = b ++ wr T ks
theorem Left.next {T k : Int} {ks : List Int} {r : List Nat} (h : Left T (k :: ks) r) : ∃ rest, Out r [sg T k] rest ∧ Left T ks rest := by
  obtain ⟨b, hb, rfl⟩ := h
  obtain ⟨b', hb', ho⟩ := out_wtok k (sg T k) (wr T ks)
  exact ⟨_, out_skip hb ho, b', hb', rfl⟩
theorem Left.last {T : Int} {r : List Nat} (h : Left T [] r) : Out r [] [] := by
  obtain ⟨b, hb, rfl⟩ := h
  exact out_skip hb .eof
theorem nl_wtok (k : Int) (c : Nat) (r : List Nat) : nl (wtok k c ++ r) = nl [c] + nl r := by
  unfold wtok nl
  split
  · simp [List.count_cons]; split <;> omega
  · split
    · simp [List.count_cons]; split <;> omega
    · simp [List.count_cons]; split <;> omega
theorem nl_wr (T : Int) : ∀ ks : List Int, nl (wr T ks) = ((ks.map (sg T)).count 10 : Nat)
  | [] => rfl
  | k :: r => by
    have e : wr T (k :: r) = wtok k (sg T k) ++ wr T r := rfl
    rw [e, nl_wtok, nl_wr T r, List.map_cons, List.count_cons]
    unfold nl
    rw [List.count_singleton]
    split <;> push_cast <;> omega
end Mine
end

section
set_option maxRecDepth 100000
set_option maxHeartbeats 4000000
namespace Mine
theorem Strs.at {vs : List Value} {ls : List (List Nat)} (h : Strs vs ls) : ∀ (i : Nat) (v : Value), vs[i]? = some v → ∃ l t, v = .str (S l) t ∧ ls[i]? = some l := by
  induction h with
  | nil => intro i v hv; simp at hv
  | cons l t _ ih =>
    intro i v hv
    cases i with
    | zero => exact ⟨l, t, by simpa using hv.symm, rfl⟩
    | succ i => exact ih i v (by simpa using hv)
theorem cstr_end {h₀ : Heap} {L I C D : Addr} {m : Str → Option Value} {s₁ : Shared} {oI oC oD : Obj} {SS : List (Addr × Obj) → Prop} {y : Value} {t : Tok} {l : List Nat} {h' : Heap} {tk : Nat} {news all : List (Addr × Obj)}
    (F : Fr h₀ L h' m) (N : News h₀ L h' all) (sub : ∀ p ∈ (I, oI) :: (C, oC) :: (D, oD) :: news, p ∈ all) (off : LCg.Off3 I C D news) (hS : SS news) (hy : y = .str (S l) t) :
    LCg.CompEnd h₀ L m s₁ I oI C oC D oD SS (fun y n' => CStr news l y n') y { s₁ with heap := h', toks := tk } := ⟨h', tk, news, rfl, F, fun p hp => N p (sub p hp), off, hS, rfl, t, hy⟩
theorem item_sg (T k : Int) : Txt.item (S ringL) ((T + k.fmod 3).fmod 6) = S [sg T k] :=
  item_S (fmod_lo _ (by decide)) (fmod_hi _ (by decide))
theorem str_of {x y : Str} {t : Tok} (h : x = y) : Value.str x t = .str y t := by rw [h]
/-- the locals of the loop that writes the file -/
noncomputable abbrev lawM (vs vn vw : Option Value) (mB : Str → Option Value) : Str → Option Value := fun y => if y = Str.ofString "sign" then vs else if y = Str.ofString "n" then vn else if y = Str.ofString "written" then vw else mB y
section
variable {a b c v1 v2 v3 : Option Value} {mB : Str → Option Value}
theorem lawM_start : (fun y => if y = Str.ofString "written" then a else mB y) = lawM (mB (Str.ofString "sign")) (mB (Str.ofString "n")) a mB := by
  funext y
  simp only [lawM]
  by_cases h1 : y = Str.ofString "sign"
  · subst h1; rfl
  · rw [if_neg h1]
    by_cases h2 : y = Str.ofString "n"
    · subst h2; rfl
    · rw [if_neg h2]
theorem lawM_turn : (fun y => if y = Str.ofString "written" then a else if y = Str.ofString "sign" then b else if y = Str.ofString "n" then c else lawM v1 v2 v3 mB y) = lawM b c a mB := by
  funext y
  simp only [lawM]
  by_cases h1 : y = Str.ofString "sign"
  · subst h1; rfl
  · by_cases h2 : y = Str.ofString "n"
    · subst h2; rfl
    · rw [if_neg h1, if_neg h2, if_neg h1, if_neg h2]; split <;> rfl
end
end Mine
namespace Mine
theorem lit32 : Str.ofString " " = S [32] := by decide +kernel
theorem lit3432 : Str.ofString "\" " = S [34, 32] := by decide +kernel
theorem lit3492 : Str.ofString "\"\\" = S [34, 92] := by decide +kernel
section
variable {prog : Program} {w : World} {A : Around} {E : Value → Shared → Prop} {s : Shared}
theorem add_LL {x y : Str} {a b : List Nat} {t u : Tok} {Q : Value → Shared → Prop} (e1 : x = S a) (e2 : y = S b) (h : a.length + b.length ≤ 1000) (hq : ∀ t' tk, Q (.str (S (a ++ b)) t') { s with toks := tk }) : wpAny (model prog w) A (binaryOp .Add (.str x t) (.str y u)) Q E s := by
  subst e1 e2
  refine add_S (by omega) (by rw [S_len]; omega) fun t' tk => ?_
  rw [S_app]; exact hq t' tk
theorem in_litT {c : Nat} {l : List Nat} {t u : Tok} {y : Str} {Q : Value → Shared → Prop} (e : y = S l) (hc : c ∈ l) (h : Q (.bool true) s) : wpAny (model prog w) A (compareOp .In (.str (S [c]) t) (.str y u)) Q E s :=
  in_lit e (by rw [decide_eq_true hc]; exact h)
theorem in_litF {c : Nat} {l : List Nat} {t u : Tok} {y : Str} {Q : Value → Shared → Prop} (e : y = S l) (hc : c ∉ l) (h : Q (.bool false) s) : wpAny (model prog w) A (compareOp .In (.str (S [c]) t) (.str y u)) Q E s :=
  in_lit e (by rw [decide_eq_false hc]; exact h)
end
theorem unr_end {h₀ : Heap} {L : Addr} {its news all : List (Addr × Obj)} {J : (Str → Option Value) → Prop} {s₁ : Shared} {h' : Heap} {tk : Nat} {m' : Str → Option Value} (F : Fr h₀ L h' m') (N : News h₀ L h' all)
    (hI : SubL its all) (sub : SubL news all) (off : OffW its news) (hJ : J m') : UnrEndW h₀ L s₁ its (fun m' n' => n' = news ∧ J m') { s₁ with heap := h', toks := tk } :=
  UnrEndW.intro F N news hI sub off ⟨rfl, hJ⟩
end Mine
namespace Mine
theorem tok_b {k : Int} {c : Nat} (h : (k.fdiv 3).fmod 2 = 1) : wtok k c = [92, c, 32] := by unfold wtok; rw [if_pos h]
theorem tok_q {k : Int} {c : Nat} (h : ¬ (k.fdiv 3).fmod 2 = 1) (h' : c ∈ [34, 92]) : wtok k c = [34, 92, c, 34, 32] := by
  unfold wtok; rw [if_neg h, if_pos (by simpa using h')]; rfl
theorem tok_s {k : Int} {c : Nat} (h : ¬ (k.fdiv 3).fmod 2 = 1) (h' : ¬ c ∈ [34, 92]) : wtok k c = [34, c, 34, 32] := by
  unfold wtok; rw [if_neg h, if_neg (by simpa using h')]; rfl
theorem lawM_end {b c v1 v2 v3 : Option Value} {mB : Str → Option Value} {x y : List Nat} {t : Tok} (h : x = y) : (fun z => if z = Str.ofString "written" then some (.str (S x) t) else if z = Str.ofString "sign" then b else if z = Str.ofString "n" then c else lawM v1 v2 v3 mB z) = lawM b c (some (.str (S y) t)) mB := h ▸ lawM_turn
end Mine
end

section
set_option maxRecDepth 100000
set_option maxHeartbeats 8000000
set_option tactic.hygienic false
namespace Mine
noncomputable def st4 : { P : Prop // Box P → st3.1 } := ⟨_, fun hP9 => by
  k_with_none
  w_top off
  k_with "lt" => (first | (with_reducible assumption) | (apply And.left; (first | (with_reducible assumption) | (apply And.right; (first | (with_reducible assumption) | (apply And.right; (first | (with_reducible assumption) | (apply And.right; (first | (with_reducible assumption) | (apply And.right; (first | (with_reducible assumption) | (apply And.right; (first | (with_reducible assumption) | (apply And.right; (first | (with_reducible assumption) | (apply And.right; (first | (with_reducible assumption) | (apply And.right; (first | (with_reducible assumption) | (apply And.right; (first | (with_reducible assumption) | (apply And.right; (first | (with_reducible assumption) | (apply And.right; (first | (with_reducible assumption) | (apply And.right; (first | (with_reducible assumption) | (apply And.right; (first | (with_reducible assumption) | (apply And.right; (first | (with_reducible assumption) | (apply And.right; (first | (with_reducible assumption) | (apply And.right; (first | (with_reducible assumption) | (apply And.right; (first | (with_reducible assumption) | (apply And.right; (first | (with_reducible assumption) | (apply And.right; (first | (with_reducible assumption) | (apply And.right; (first | (with_reducible assumption) | (apply And.right; (first | (with_reducible assumption) | (apply And.right; (first | (with_reducible assumption) | (apply And.right; (first | (with_reducible assumption) | (apply And.right; (first | (with_reducible assumption) | (apply And.right; (with_reducible assumption)))))))))))))))))))))))))))))))))))))))))))))))))))) | (apply And.right; (first | (with_reducible assumption) | (apply And.right; (first | (with_reducible assumption) | (apply And.right; (first | (with_reducible assumption) | (apply And.right; (first | (with_reducible assumption) | (apply And.right; (first | (with_reducible assumption) | (apply And.right; (first | (with_reducible assumption) | (apply And.right; (first | (with_reducible assumption) | (apply And.right; (first | (with_reducible assumption) | (apply And.right; (first | (with_reducible assumption) | (apply And.right; (first | (with_reducible assumption) | (apply And.right; (first | (with_reducible assumption) | (apply And.right; (first | (with_reducible assumption) | (apply And.right; (first | (with_reducible assumption) | (apply And.right; (first | (with_reducible assumption) | (apply And.right; (first | (with_reducible assumption) | (apply And.right; (first | (with_reducible assumption) | (apply And.right; (first | (with_reducible assumption) | (apply And.right; (first | (with_reducible assumption) | (apply And.right; (first | (with_reducible assumption) | (apply And.right; (first | (with_reducible assumption) | (apply And.right; (first | (with_reducible assumption) | (apply And.right; (first | (with_reducible assumption) | (apply And.right; (first | (with_reducible assumption) | (apply And.right; (first | (with_reducible assumption) | (apply And.right; (first | (with_reducible assumption) | (apply And.right; (with_reducible assumption)))))))))))))))))))))))))))))))))))))))))))))))))))))
  k_with "k_ne" => (refine neN ?_; (try dsimp only); first | k_extra "lt" | (refine Ne.symm ?_; k_extra "lt") | (refine Nat.ne_of_lt ?_; k_extra "lt") | (refine Nat.ne_of_gt ?_; k_extra "lt") | (refine Nat.ne_of_lt (Nat.lt_add_right _ ?_); k_extra "lt") | (refine Nat.ne_of_gt (Nat.lt_add_right _ ?_); k_extra "lt") | (refine Nat.ne_of_lt (Nat.lt_add_right _ (Nat.lt_add_right _ ?_)); k_extra "lt") | (refine Nat.ne_of_gt (Nat.lt_add_right _ (Nat.lt_add_right _ ?_)); k_extra "lt") | (refine cell_ne2 ?_; decide) | (refine cell_ne ?_; k_extra "lt") | (refine Ne.symm (cell_ne ?_); k_extra "lt"))
  k_with "exec Assign cons ListComp" => ((k_here; k_dflt (refine LCg.Assign_ListComp_U (F₀ := by k_asm) (by rfl) (by with_unfolding_all rfl) (by with_unfolding_all rfl) (by decide) (by rfl) (by decide) (by rfl) (by rfl) (by rfl) ?_)))
  k_with "exec For Tuple Call cons nil" => ((k_here; (rename Fr _ _ _ _ => lF'); (with_unfolding_all refine' For_turns lF' ?_; k_whole)))
  k_with "call type:zip" => ((k_here; (rename Fr _ _ _ _ => lF'); (with_unfolding_all refine' ktu_zip ?q9h lF' ?q9N ?q9a ?q9b ?q9c ?q9d ?q9e ?q9f ?_; (case q9h => rfl); (case q9N => k_asm); (case q9a => k_mem); (case q9b => rfl); (case q9c => rfl); (case q9d => k_mem); (case q9e => rfl); (case q9f => rfl)); clear lF'; intro i' l1; (try k_lt l1)); (try (revert i' l1; set_option tactic.hygienic true in intros)))
  k_with "ItemsRest" => ((k_here; (rename_i zz1 zz2 zz3 zz4 zz5 zz6 zz7 zz8; revert w mg mb fa pm cd doc w_7 w_8 w_9 w_10 p9 loose9 mean9 dr os0 g0 K' T9 L0 l0 t' o' D'_3 ws'_2 tk_1 h'_8 o'_1 ks hI'_2 hk8 hkb T d' lD mB v7 c7 v8 c8 v9 c9 v10 c10 tk9 d0 X' g' ys a zz1 zz2 zz3 zz4 zz5 zz6 zz7 zz8; exact hP9.out)))
  k_with "CompSrc" => ((k_here; k_dflt (refine LCg.CompSrc.ledger (by rfl) (by k_asm) (by k_asm) (by k_mem) (by rw [PySem.sizeLine_eq, List.size_toArray, hI'_2.length]; omega) ?_; intro g'; (refine' cstr_rest (fun k => [sg T k]) hI'_2 (fun k' t' I' oI' C' oC' D' m' ys' h' tk' E' hk' hC' hx' F' N' off' ne' => ?_) ?_); (all_goals (try (simp only [LCg.Off3, and_true] at off'))))))
  k_with "CompEnd" => ((k_here; k_dflt (refine' cstr_end ?q9F ?q9N ?q9s ?q9o ?q9S ?q9y; (case q9F => k_asm); (case q9N => k_asm); (case q9s => kcf_all); (case q9o => first | assumption | (simp only [LCg.Off3, and_true]; assumption)); (case q9S => first | lcg_src | assumption); (case q9y => exact str_of (item_sg _ _)))))
  intro w; revert w; (set_option tactic.hygienic true in intros)
  rename_i w mg mb fa pm cd doc w_7 w_8 w_9 w_10 p9 loose9 mean9 dr os0 g0 K' T9 L0 l0 X' t' o' D'_3 ws'_2 tk_1 h'_8 o'_1 ks hI'_2 hk8 hkb T d' N' lD mB F' v7 c7 v8 c8 v9 c9 v10 c10 tk9 d0
  revert X'; k_fill; intro X'
  w_strict (k_steps)⟩
end Mine
end

section
set_option maxRecDepth 100000
set_option maxHeartbeats 8000000
set_option tactic.hygienic false
namespace Mine
noncomputable def st5 : { P : Prop // Box P → st4.1 } := ⟨_, fun hP9 => by
  k_with_none
  w_top off
  k_with "lt" => (first | (with_reducible assumption) | (apply And.left; (first | (with_reducible assumption) | (apply And.right; (first | (with_reducible assumption) | (apply And.right; (first | (with_reducible assumption) | (apply And.right; (first | (with_reducible assumption) | (apply And.right; (first | (with_reducible assumption) | (apply And.right; (first | (with_reducible assumption) | (apply And.right; (first | (with_reducible assumption) | (apply And.right; (first | (with_reducible assumption) | (apply And.right; (first | (with_reducible assumption) | (apply And.right; (first | (with_reducible assumption) | (apply And.right; (first | (with_reducible assumption) | (apply And.right; (first | (with_reducible assumption) | (apply And.right; (first | (with_reducible assumption) | (apply And.right; (first | (with_reducible assumption) | (apply And.right; (first | (with_reducible assumption) | (apply And.right; (first | (with_reducible assumption) | (apply And.right; (first | (with_reducible assumption) | (apply And.right; (first | (with_reducible assumption) | (apply And.right; (first | (with_reducible assumption) | (apply And.right; (first | (with_reducible assumption) | (apply And.right; (first | (with_reducible assumption) | (apply And.right; (first | (with_reducible assumption) | (apply And.right; (first | (with_reducible assumption) | (apply And.right; (first | (with_reducible assumption) | (apply And.right; (first | (with_reducible assumption) | (apply And.right; (with_reducible assumption)))))))))))))))))))))))))))))))))))))))))))))))))))) | (apply And.right; (first | (with_reducible assumption) | (apply And.right; (first | (with_reducible assumption) | (apply And.right; (first | (with_reducible assumption) | (apply And.right; (first | (with_reducible assumption) | (apply And.right; (first | (with_reducible assumption) | (apply And.right; (first | (with_reducible assumption) | (apply And.right; (first | (with_reducible assumption) | (apply And.right; (first | (with_reducible assumption) | (apply And.right; (first | (with_reducible assumption) | (apply And.right; (first | (with_reducible assumption) | (apply And.right; (first | (with_reducible assumption) | (apply And.right; (first | (with_reducible assumption) | (apply And.right; (first | (with_reducible assumption) | (apply And.right; (first | (with_reducible assumption) | (apply And.right; (first | (with_reducible assumption) | (apply And.right; (first | (with_reducible assumption) | (apply And.right; (first | (with_reducible assumption) | (apply And.right; (first | (with_reducible assumption) | (apply And.right; (first | (with_reducible assumption) | (apply And.right; (first | (with_reducible assumption) | (apply And.right; (first | (with_reducible assumption) | (apply And.right; (first | (with_reducible assumption) | (apply And.right; (first | (with_reducible assumption) | (apply And.right; (first | (with_reducible assumption) | (apply And.right; (first | (with_reducible assumption) | (apply And.right; (with_reducible assumption)))))))))))))))))))))))))))))))))))))))))))))))))))))
  k_with "k_ne" => (refine neN ?_; (try dsimp only); first | k_extra "lt" | (refine Ne.symm ?_; k_extra "lt") | (refine Nat.ne_of_lt ?_; k_extra "lt") | (refine Nat.ne_of_gt ?_; k_extra "lt") | (refine Nat.ne_of_lt (Nat.lt_add_right _ ?_); k_extra "lt") | (refine Nat.ne_of_gt (Nat.lt_add_right _ ?_); k_extra "lt") | (refine Nat.ne_of_lt (Nat.lt_add_right _ (Nat.lt_add_right _ ?_)); k_extra "lt") | (refine Nat.ne_of_gt (Nat.lt_add_right _ (Nat.lt_add_right _ ?_)); k_extra "lt") | (refine cell_ne2 ?_; decide) | (refine cell_ne ?_; k_extra "lt") | (refine Ne.symm (cell_ne ?_); k_extra "lt"))
  k_with "binaryOp Add str str" => ((k_here; k_dflt (refine' add_LL ?q9a ?q9b ?q9h ?_; (case q9a => with_reducible first | exact lit92 | exact lit34 | exact rfl); (case q9b => with_reducible first | exact lit92 | exact lit34 | exact lit32 | exact lit3432 | exact rfl); (case q9h => (simp only [List.length_append, List.length_cons, List.length_nil]; omega))); intro t' tk'); (try (revert t' tk'; set_option tactic.hygienic true in intros)))
  k_with "UnrEndW" => ((k_here; k_dflt (refine' unr_end ?q9F ?q9N ?q9I ?q9s ?q9o ⟨_, _, _, lawM_end ?q9e⟩; (case q9F => k_asm); (case q9N => k_asm); (case q9I => k_subL); (case q9s => k_subL); (case q9o => ktu_offL); (case q9e => (rw [wr_take _ _ _ _ hk0]; first | rw [tok_b (by assumption)] | rw [tok_q (by assumption) (by assumption)] | rw [tok_s (by assumption) (by assumption)]); (simp only [List.append_assoc, List.cons_append, List.nil_append])))))
  k_with "compareOp In str str" => ((k_here; first | exact in_litT lit3492 (by assumption) ?_ | exact in_litF lit3492 (by assumption) ?_ | refine in_litT lit3492 (by assumption) ?_ | refine in_litF lit3492 (by assumption) ?_))
  intro w; revert w; (set_option tactic.hygienic true in intros)
  rename_i w mg mb fa pm cd doc w_7 w_8 w_9 w_10 p9 loose9 mean9 dr os0 g0 K' T9 L0 l0 t' o' D'_3 ws'_2 tk_1 h'_8 o'_1 ks hI'_2 hk8 hkb T d' lD mB v7 c7 v8 c8 v9 c9 v10 c10 tk9 d0 X' g' ys a D' h' tk' o1' h'_1 N' i' l1
  revert X'; k_fill; intro X'
  have hl : ws'_2.length = ys.length := by rw [hI'_2.length, a.len, List.length_map]
  refine zip_inv (fun i m => ∃ vn vs t, m = lawM vs vn (some (.str (S (wr T (ks.take i))) t)) (fun y => if y = Str.ofString "words" then some (Value.ref D') else if y = Str.ofString "numbers" then some (Value.ref D'_3) else mB y)) (by k_subL) ws'_2 ys 0 _ hl ⟨_, _, _, (by rw [empty_S]; exact lawM_start)⟩ ?_ ?_
  · rintro j x y Tp h tk m hx hy ⟨vn, vs, t9, rfl⟩ hT F
    obtain ⟨k, t1, rfl, hk⟩ := IntsAre.at hI'_2 j x hx
    obtain ⟨l, u, rfl, hl'⟩ := Strs.at a j y hy
    rw [List.getElem?_map, hk] at hl'
    have e : l = [sg T k] := by simpa using hl'.symm
    subst e
    clear hl'
    have hkk := hkb k (List.mem_of_getElem? hk)
    have hwl : (wr T (List.take (0 + j) ks)).length ≤ 40 := by
      have h1 := wr_len T (List.take (0 + j) ks)
      have h2 : (List.take (0 + j) ks).length ≤ 8 := by rw [List.length_take]; omega
      omega
    have hk0 : ks[0 + j]? = some k := by rw [Nat.zero_add]; exact hk
    clear N'
    by_cases h34 : sg T k ∈ [34, 92]
    · ktu_objs
      w_strict (k_steps)
    · ktu_objs
      w_strict (k_steps)
  · rintro m h tk ⟨vn, vs, t9, rfl⟩ F N
    (revert w mg mb fa pm cd doc w_7 w_8 w_9 w_10 p9 loose9 mean9 dr os0 g0 K' T9 L0 l0 t' o' D'_3 ws'_2 tk_1 h'_8 o'_1 ks hI'_2 hk8 hkb T d' lD mB v7 c7 v8 c8 v9 c9 v10 c10 tk9 d0 g' ys a D' h' tk' o1' h'_1 N' i' l1 X' hl h tk vn vs t9 F N; exact hP9.out)⟩
end Mine
end

section
set_option maxRecDepth 100000
set_option maxHeartbeats 4000000
namespace Mine
theorem Lx.Ord.ge {x : Lx} (o : x.Ord) {i : Int} {it kt : Tok} {q : List Value} {nq k na : Nat} : ∀ p ∈ x.led i it q nq k kt na, @LE.le Nat _ x.cT p.1 := by
  unfold Lx.Ord at o
  intro p hp
  simp only [Lx.led, List.mem_cons, List.not_mem_nil, or_false] at hp
  rcases hp with rfl | rfl | rfl | rfl | rfl | rfl | rfl | rfl | rfl | rfl <;> (show @LE.le Nat _ x.cT _; omega)
section
variable {w : World} {p : Program} {loose : List Str} {mean : ExcName → Option Value} {mg mb : Str → Option Value} {dp un : Nat} {gd : Option (List Code)} {cn : Str} {cs : Scope} {a : Addr} {ccd : Value} {cl : List (Str × Addr)} {outer : List Env} {A₀ : Around} {base h₀ : Heap} {L : Addr} {m : Str → Option Value} {s : Shared} {Q E : Value → Shared → Prop}
theorem lexer_led (pre : List (Addr × Obj)) {post : List (Addr × Obj)} (B : Below A₀ base outer h₀) (F : Fr h₀ L s.heap m) (X : (Mine.hd.heap_39 w.params).In h₀) (T : Top p loose mean mg mb h₀) (hk : cs.kind = .function) (hd : dp + 2 < recursionLimit) (hu : un + 40 < cLine)
    {t : List Nat} {tt : Tok} (htl : t.length ≤ 100) (N : News h₀ L s.heap (pre ++ (156, tabObj #[]) :: post)) (hne : ∀ p ∈ pre ++ post, @Ne Nat p.1 156)
    (hret : ∀ (x : Lx) h' tk' it kt ps', x.t = t → x.Ok w → (∀ p ∈ pre ++ (156, tabObj ps') :: post, @LT.lt Nat _ p.1 x.cT) → Fr h₀ L h' m → News h₀ L h' (x.led 1 it [] 0 0 kt 0 ++ (pre ++ (156, tabObj ps') :: post)) → Q (.ref x.M) { s with heap := h', toks := tk' }) :
    wpAny (model PySem.Challenge.rw_re0059_01.prog w) (ktrTop dp un gd cn cs L a ccd cl outer) (call (.ref 161) [.str (S t) tt]) Q E s := by
  have m156 : ((156, tabObj #[]) : Addr × Obj) ∈ pre ++ (156, tabObj #[]) :: post := List.mem_append_right _ (.head _)
  refine lexer_spec B F X T hk hd hu htl (News.sub N fun p hp => by rw [List.mem_singleton.mp hp]; exact m156) ?_
  intro x h' tk' it kt ps' ht ho hr hc kp H h156
  have F' : Fr h₀ L h' m := Fr.step F N kp fun b hb => ⟨tabObj #[], by rw [List.mem_singleton.mp hb]; exact m156⟩
  have lt : ∀ p ∈ pre ++ (156, tabObj ps') :: post, @LT.lt Nat _ p.1 x.cT := by
    intro p hp
    refine Nat.lt_of_lt_of_le ?_ hc
    rcases List.mem_append.mp hp with h | h
    · exact Heap.lt_size (N p (List.mem_append_left _ h)).1
    · rcases List.mem_cons.mp h with rfl | h
      · exact Heap.lt_size (N _ m156).1
      · exact Heap.lt_size (N p (List.mem_append_right _ (.tail _ h))).1
  refine hret x h' tk' it kt ps' ht ⟨ho, fun {_ _ _ _ _ _ _ _ _ _ _ _ _ _ _ _ _ _ _ _ _ _ _ _ _} => hr, by rw [ht]; exact htl⟩ lt F' fun p hp => ?_
  rcases List.mem_append.mp hp with hp | hp
  · have hge := Nat.le_trans hc (ho.ge p hp)
    exact ⟨H p hp, fun e => absurd (F.ns.lt) (Nat.not_lt.mpr (by rw [← e]; exact hge)), ktu_new F hge⟩
  · rcases List.mem_append.mp hp with h | h
    · have n := N p (List.mem_append_left _ h)
      exact ⟨kp _ _ (fun hm => hne p (List.mem_append_left _ h) (List.mem_singleton.mp hm)) n.1, n.2⟩
    · rcases List.mem_cons.mp h with rfl | h
      · exact ⟨h156, (N _ m156).2⟩
      · have n := N p (List.mem_append_right _ (.tail _ h))
        exact ⟨kp _ _ (fun hm => hne p (List.mem_append_right _ h) (List.mem_singleton.mp hm)) n.1, n.2⟩
end
end Mine
end

section
set_option maxRecDepth 100000
set_option maxHeartbeats 8000000
set_option tactic.hygienic false
namespace Mine
noncomputable def st6 : { P : Prop // Box P → st5.1 } := ⟨_, fun hP9 => by
  k_with_none
  w_top off
  k_with "lt" => (first | (with_reducible assumption) | (apply And.left; (first | (with_reducible assumption) | (apply And.right; (first | (with_reducible assumption) | (apply And.right; (first | (with_reducible assumption) | (apply And.right; (first | (with_reducible assumption) | (apply And.right; (first | (with_reducible assumption) | (apply And.right; (first | (with_reducible assumption) | (apply And.right; (first | (with_reducible assumption) | (apply And.right; (first | (with_reducible assumption) | (apply And.right; (first | (with_reducible assumption) | (apply And.right; (first | (with_reducible assumption) | (apply And.right; (first | (with_reducible assumption) | (apply And.right; (first | (with_reducible assumption) | (apply And.right; (first | (with_reducible assumption) | (apply And.right; (first | (with_reducible assumption) | (apply And.right; (first | (with_reducible assumption) | (apply And.right; (first | (with_reducible assumption) | (apply And.right; (first | (with_reducible assumption) | (apply And.right; (first | (with_reducible assumption) | (apply And.right; (first | (with_reducible assumption) | (apply And.right; (first | (with_reducible assumption) | (apply And.right; (first | (with_reducible assumption) | (apply And.right; (first | (with_reducible assumption) | (apply And.right; (first | (with_reducible assumption) | (apply And.right; (first | (with_reducible assumption) | (apply And.right; (first | (with_reducible assumption) | (apply And.right; (with_reducible assumption)))))))))))))))))))))))))))))))))))))))))))))))))))) | (apply And.right; (first | (with_reducible assumption) | (apply And.right; (first | (with_reducible assumption) | (apply And.right; (first | (with_reducible assumption) | (apply And.right; (first | (with_reducible assumption) | (apply And.right; (first | (with_reducible assumption) | (apply And.right; (first | (with_reducible assumption) | (apply And.right; (first | (with_reducible assumption) | (apply And.right; (first | (with_reducible assumption) | (apply And.right; (first | (with_reducible assumption) | (apply And.right; (first | (with_reducible assumption) | (apply And.right; (first | (with_reducible assumption) | (apply And.right; (first | (with_reducible assumption) | (apply And.right; (first | (with_reducible assumption) | (apply And.right; (first | (with_reducible assumption) | (apply And.right; (first | (with_reducible assumption) | (apply And.right; (first | (with_reducible assumption) | (apply And.right; (first | (with_reducible assumption) | (apply And.right; (first | (with_reducible assumption) | (apply And.right; (first | (with_reducible assumption) | (apply And.right; (first | (with_reducible assumption) | (apply And.right; (first | (with_reducible assumption) | (apply And.right; (first | (with_reducible assumption) | (apply And.right; (first | (with_reducible assumption) | (apply And.right; (first | (with_reducible assumption) | (apply And.right; (first | (with_reducible assumption) | (apply And.right; (with_reducible assumption)))))))))))))))))))))))))))))))))))))))))))))))))))))
  k_with "k_ne" => (refine neN ?_; (try dsimp only); first | k_extra "lt" | (refine Ne.symm ?_; k_extra "lt") | (refine Nat.ne_of_lt ?_; k_extra "lt") | (refine Nat.ne_of_gt ?_; k_extra "lt") | (refine Nat.ne_of_lt (Nat.lt_add_right _ ?_); k_extra "lt") | (refine Nat.ne_of_gt (Nat.lt_add_right _ ?_); k_extra "lt") | (refine Nat.ne_of_lt (Nat.lt_add_right _ (Nat.lt_add_right _ ?_)); k_extra "lt") | (refine Nat.ne_of_gt (Nat.lt_add_right _ (Nat.lt_add_right _ ?_)); k_extra "lt") | (refine cell_ne2 ?_; decide) | (refine cell_ne ?_; k_extra "lt") | (refine Ne.symm (cell_ne ?_); k_extra "lt"))
  k_with "call ref" => ((k_here; (try dsimp only [List.cons_append, List.nil_append, List.append_nil]); (with_reducible show wpAny _ _ (call (Value.ref 161) _) _ _ _); k_dflt (refine' lexer_led [_, _, _, _, _, _, _, _] ?q9B ?q9F ?q9X ?q9T ?q9k ?q9d ?q9u ?q9l ?q9N ?q9n ?_; (case q9B => k_asm); (case q9F => k_asm); (case q9X => k_asm); (case q9T => k_asm); (case q9k => exact rfl); (case q9d => ktr_room); (case q9u => ktr_units); (case q9l => exact hwl); (case q9N => k_asm); (case q9n => (simp only [List.cons_append, List.nil_append, List.forall_mem_cons]; (repeat' refine And.intro ?_ ?_) <;> first | exact List.forall_mem_nil _ | k_ne | (show @Ne Nat _ _; omega))); k_whole); intro x h' tk' it kt ps' ht O lx F' N'; (have ox := O.ord); (unfold Lx.Ord at ox); (replace lx := allLt_of lx); (simp only [List.cons_append, List.nil_append, AllLt, and_true] at lx); (try dsimp only [Lx.led, List.cons_append, List.nil_append] at N'); (try k_sweep)))
  k_with "exec Assign cons ListComp" => (((rename_i zz1 zz2 zz3 zz4 zz5 zz6 zz7 zz8; revert w mg mb fa pm cd doc w_7 w_8 w_9 w_10 p9 loose9 mean9 dr os0 g0 K' T9 L0 l0 t' o' D'_3 ws'_2 tk_1 h'_8 o'_1 ks hI'_2 hk8 hkb T d' lD mB v7 c7 v8 c8 v9 c9 v10 c10 tk9 d0 g' ys a D' zz1 zz2 o1' h'_1 i' l1 hl h zz3 vn vs t9 F N X' hwl x h' tk' it kt ps' ht O ox lx zz4 zz5 zz6 zz7 zz8 tk; exact hP9.out)))
  intro w; revert w; (set_option tactic.hygienic true in intros)
  rename_i w mg mb fa pm cd doc w_7 w_8 w_9 w_10 p9 loose9 mean9 dr os0 g0 K' T9 L0 l0 t' o' D'_3 ws'_2 tk_1 h'_8 o'_1 ks hI'_2 hk8 hkb T d' lD mB v7 c7 v8 c8 v9 c9 v10 c10 tk9 d0 g' ys a D' h' tk' o1' h'_1 N' i' l1 X' hl h tk vn vs t9 F N
  revert X'; k_fill; intro X'
  rw [Nat.zero_add, hl, a.len, List.length_map, List.take_length] at F
  have hwl : (wr T ks).length ≤ 100 := by
    have h1 := wr_len T ks
    omega
  w_strict (k_steps)⟩
end Mine
end

section
set_option maxRecDepth 100000
set_option maxHeartbeats 4000000
namespace Mine
/-- between the turns of `heard` -/
noncomputable def HJ (x : Lx) (T : Int) (ks : List Int) (post : List (Addr × Obj)) (i : Nat) (ys : List Value) (nw : List (Addr × Obj)) : Prop :=
  ∃ it na k kt, nw = x.led (1 + nl x.t - nl (x.t.drop k)) it [] 0 k kt na ++ post ∧ k ≤ x.t.length ∧ Left T (ks.drop i) (x.t.drop k) ∧ Strs ys ((ks.take i).map fun k => [sg T k])
theorem HJ.start {x : Lx} {T : Int} {ks : List Int} {post : List (Addr × Obj)} {it kt : Tok} {na : Nat} (ht : x.t = wr T ks) : HJ x T ks post 0 [] (x.led 1 it [] 0 0 kt na ++ post) :=
  ⟨it, na, 0, kt, by rw [List.drop_zero, Int.add_sub_cancel], Nat.zero_le _, ⟨[], .inr rfl, by rw [List.drop_zero, ht]; rfl⟩, .nil⟩
theorem heard_end {x : Lx} {T : Int} {ks : List Int} {post : List (Addr × Obj)} {i : Nat} {li : Int} {it kt : Tok} {k na : Nat} {ys : List Value} {h₀ : Heap} {L I C D : Addr} {m : Str → Option Value} {s₁ : Shared} {oI oC oD : Obj} {t : Tok} {h' : Heap} {tk : Nat} {ax : Addr} {its : Array Value} {nx : Nat} {rest : List Nat} {kn : Int}
    (F : Fr h₀ L h' m) (N : News h₀ L h' ((I, oI) :: (C, oC) :: (D, oD) :: (x.led li it [] 0 k kt na ++ post))) (off : LCg.Off3 I C D (x.led li it [] 0 k kt na ++ post)) (hm : (ax, ({ cls := .type "list", data := .seq its nx } : Obj)) ∈ post)
    (hr : x.t.drop k = rest) (hi : li = 1 + nl x.t - nl rest) (hk : k ≤ x.t.length) (hL : Left T (ks.drop (i + 1)) rest) (hS : Strs ys ((ks.take i).map fun k => [sg T k])) (hkn : ks[i]? = some kn) :
    LCg.CompEnd h₀ L m s₁ I oI C oC D oD (LCg.SrcAt h₀ ax its) (fun y nw' => HJ x T ks post (i + 1) (ys ++ [y]) nw') (.str (S [sg T kn]) t) { s₁ with heap := h', toks := tk } := by
  refine ⟨h', tk, _, rfl, F, N, off, .inr ⟨_, List.mem_append_right _ hm, rfl, _, rfl⟩, it, na, k, kt, ?_, hk, ?_, ?_⟩
  · rw [hr, hi]
  · rw [hr]; exact hL
  · rw [List.take_add_one, hkn, Option.toList_some, List.map_append]
    exact hS.snoc
theorem HJ.step {x : Lx} {T : Int} {ks : List Int} {i k : Nat} {kn : Int} (hL : Left T (ks.drop i) (x.t.drop k)) (hkn : ks[i]? = some kn) : ∃ rest, Out (x.t.drop k) [sg T kn] rest ∧ Left T (ks.drop (i + 1)) rest := by
  obtain ⟨h, e⟩ := List.getElem?_eq_some_iff.mp hkn
  rw [List.drop_eq_getElem_cons h, e] at hL
  exact hL.next
end Mine
end

section
set_option maxRecDepth 100000
set_option maxHeartbeats 8000000
set_option tactic.hygienic false
namespace Mine
noncomputable def st7 : { P : Prop // Box P → st6.1 } := ⟨_, fun hP9 => by
  k_with_none
  w_top off
  k_with "lt" => (first | (with_reducible assumption) | (apply And.left; (first | (with_reducible assumption) | (apply And.right; (first | (with_reducible assumption) | (apply And.right; (first | (with_reducible assumption) | (apply And.right; (first | (with_reducible assumption) | (apply And.right; (first | (with_reducible assumption) | (apply And.right; (first | (with_reducible assumption) | (apply And.right; (first | (with_reducible assumption) | (apply And.right; (first | (with_reducible assumption) | (apply And.right; (first | (with_reducible assumption) | (apply And.right; (first | (with_reducible assumption) | (apply And.right; (first | (with_reducible assumption) | (apply And.right; (first | (with_reducible assumption) | (apply And.right; (first | (with_reducible assumption) | (apply And.right; (first | (with_reducible assumption) | (apply And.right; (first | (with_reducible assumption) | (apply And.right; (first | (with_reducible assumption) | (apply And.right; (first | (with_reducible assumption) | (apply And.right; (first | (with_reducible assumption) | (apply And.right; (first | (with_reducible assumption) | (apply And.right; (first | (with_reducible assumption) | (apply And.right; (first | (with_reducible assumption) | (apply And.right; (first | (with_reducible assumption) | (apply And.right; (first | (with_reducible assumption) | (apply And.right; (first | (with_reducible assumption) | (apply And.right; (first | (with_reducible assumption) | (apply And.right; (with_reducible assumption)))))))))))))))))))))))))))))))))))))))))))))))))))) | (apply And.right; (first | (with_reducible assumption) | (apply And.right; (first | (with_reducible assumption) | (apply And.right; (first | (with_reducible assumption) | (apply And.right; (first | (with_reducible assumption) | (apply And.right; (first | (with_reducible assumption) | (apply And.right; (first | (with_reducible assumption) | (apply And.right; (first | (with_reducible assumption) | (apply And.right; (first | (with_reducible assumption) | (apply And.right; (first | (with_reducible assumption) | (apply And.right; (first | (with_reducible assumption) | (apply And.right; (first | (with_reducible assumption) | (apply And.right; (first | (with_reducible assumption) | (apply And.right; (first | (with_reducible assumption) | (apply And.right; (first | (with_reducible assumption) | (apply And.right; (first | (with_reducible assumption) | (apply And.right; (first | (with_reducible assumption) | (apply And.right; (first | (with_reducible assumption) | (apply And.right; (first | (with_reducible assumption) | (apply And.right; (first | (with_reducible assumption) | (apply And.right; (first | (with_reducible assumption) | (apply And.right; (first | (with_reducible assumption) | (apply And.right; (first | (with_reducible assumption) | (apply And.right; (first | (with_reducible assumption) | (apply And.right; (first | (with_reducible assumption) | (apply And.right; (first | (with_reducible assumption) | (apply And.right; (with_reducible assumption)))))))))))))))))))))))))))))))))))))))))))))))))))))
  k_with "k_ne" => (refine neN ?_; (try dsimp only); first | k_extra "lt" | (refine Ne.symm ?_; k_extra "lt") | (refine Nat.ne_of_lt ?_; k_extra "lt") | (refine Nat.ne_of_gt ?_; k_extra "lt") | (refine Nat.ne_of_lt (Nat.lt_add_right _ ?_); k_extra "lt") | (refine Nat.ne_of_gt (Nat.lt_add_right _ ?_); k_extra "lt") | (refine Nat.ne_of_lt (Nat.lt_add_right _ (Nat.lt_add_right _ ?_)); k_extra "lt") | (refine Nat.ne_of_gt (Nat.lt_add_right _ (Nat.lt_add_right _ ?_)); k_extra "lt") | (refine cell_ne2 ?_; decide) | (refine cell_ne ?_; k_extra "lt") | (refine Ne.symm (cell_ne ?_); k_extra "lt"))
  k_with "CompSrc" => (((revert w mg mb fa pm cd doc w_7 w_8 w_9 w_10 p9 loose9 mean9 dr os0 g0 K' T9 L0 l0 t' o' D'_3 ws'_2 tk_1 h'_8 o'_1 ks hI'_2 hk8 hkb T d' lD mB v7 c7 v8 c8 v9 c9 v10 c10 tk9 d0 g' ys a D' h' tk' o1' h'_1 i' hl h tk vn vs t9 hwl x h'_2 tk'_1 it kt ps' ht O ox lx h'_3 o'_2 F' N' d'_1 tk_2 X'; exact hP9.out)))
  intro w; revert w; (set_option tactic.hygienic true in intros)
  rename_i w mg mb fa pm cd doc w_7 w_8 w_9 w_10 p9 loose9 mean9 dr os0 g0 K' T9 L0 l0 t' o' D'_3 ws'_2 tk_1 h'_8 o'_1 ks hI'_2 hk8 hkb T d' lD mB v7 c7 v8 c8 v9 c9 v10 c10 tk9 d0 g' ys a D' h' tk' o1' h'_1 i' l1 hl h tk vn vs t9 F N X' hwl x h'_2 tk'_1 it kt ps' ht O ox lx h'_3 o'_2 F' N' d'_1 tk_2
  clear F N l1
  revert X'; k_fill; intro X'
  k_dflt (refine LCg.Assign_ListComp_U (F₀ := by k_asm) (by rfl) (by with_unfolding_all rfl) (by with_unfolding_all rfl) (by decide) (by rfl) (by decide) (by rfl) (by rfl) (by rfl) ?_)
  w_strict (k_steps)⟩
end Mine
end

section
set_option maxRecDepth 100000
set_option maxHeartbeats 4000000
namespace Mine
theorem PreL.of {x : Lx} : ∀ {l : List (Addr × Obj)}, (∀ p ∈ l, p.1 ≠ x.pb ∧ p.1 ≠ x.dM ∧ p.1 ≠ x.atl) → PreL x l
  | [], _ => trivial
  | _ :: _, h => ⟨h _ (.head _), PreL.of fun p hp => h p (.tail _ hp)⟩
/-- the comprehension's own objects lie elsewhere -/
theorem prel3 {x : Lx} {I C D : Addr} {oI oC oD : Obj} {i : Int} {it kt : Tok} {q : List Value} {nq k na : Nat} {post : List (Addr × Obj)} (off : LCg.Off3 I C D (x.led i it q nq k kt na ++ post)) : PreL x [(I, oI), (C, oC), (D, oD)] := by
  have o := off.mem
  have h1 := o (x.pb, _) (List.mem_append_left _ (.head _))
  have h2 := o (x.dM, _) (List.mem_append_left _ (.tail _ (.tail _ (.head _))))
  have h3 := o (x.atl, _) (List.mem_append_left _ (.tail _ (.tail _ (.tail _ (.tail _ (.tail _ (.tail _ (.tail _ (.head _)))))))))
  exact ⟨⟨h1.1.symm, h2.1.symm, h3.1.symm⟩, ⟨h1.2.1.symm, h2.2.1.symm, h3.2.1.symm⟩, ⟨h1.2.2.symm, h2.2.2.symm, h3.2.2.symm⟩, trivial⟩
theorem prel1 {x : Lx} {D : Addr} {oD : Obj} {i : Int} {it kt : Tok} {q : List Value} {nq k na : Nat} {post : List (Addr × Obj)} (off : LCg.Off1 D (x.led i it q nq k kt na ++ post)) : PreL x [(D, oD)] :=
  ⟨⟨Ne.symm off.1, Ne.symm off.2.2.1, Ne.symm off.2.2.2.2.2.2.2.1⟩, trivial⟩
/-- what stood ahead of the lexer -/
theorem prel_lt {x : Lx} (o : x.Ord) {l : List (Addr × Obj)} (h : ∀ p ∈ l, @LT.lt Nat _ p.1 x.cT) : PreL x l := PreL.of fun p hp => by
  have h1 := h p hp
  unfold Lx.Ord at o
  exact ⟨Nat.ne_of_lt (by omega), Nat.ne_of_lt (by omega), Nat.ne_of_lt (by omega)⟩
theorem led_ne {x : Lx} (o : x.Ord) {c : Nat} (h : @LT.lt Nat _ c x.cT) {i : Int} {it kt : Tok} {q : List Value} {nq k na : Nat} : ∀ p ∈ x.led i it q nq k kt na, @Ne Nat p.1 c :=
  fun p hp => Nat.ne_of_gt (Nat.lt_of_lt_of_le h (o.ge p hp))
theorem led_ne_all {x : Lx} (o : x.Ord) {c : Nat} (h : @LT.lt Nat _ c x.cT) : (@Ne Nat x.pb c) ∧ (@Ne Nat x.M c) ∧ (@Ne Nat x.dM c) ∧ (@Ne Nat x.dS c) ∧ (@Ne Nat x.fS c) ∧ (@Ne Nat x.fR c) ∧ (@Ne Nat x.cR c) ∧ (@Ne Nat x.atl c) ∧ (@Ne Nat x.cA c) ∧ (@Ne Nat x.cT c) := by
  have g := led_ne o h (i := 0) (it := 0) (kt := 0) (q := []) (nq := 0) (k := 0) (na := 0)
  unfold Lx.led at g
  obtain ⟨a1, g⟩ := List.forall_mem_cons.mp g
  obtain ⟨a2, g⟩ := List.forall_mem_cons.mp g
  obtain ⟨a3, g⟩ := List.forall_mem_cons.mp g
  obtain ⟨a4, g⟩ := List.forall_mem_cons.mp g
  obtain ⟨a5, g⟩ := List.forall_mem_cons.mp g
  obtain ⟨a6, g⟩ := List.forall_mem_cons.mp g
  obtain ⟨a7, g⟩ := List.forall_mem_cons.mp g
  obtain ⟨a8, g⟩ := List.forall_mem_cons.mp g
  obtain ⟨a9, g⟩ := List.forall_mem_cons.mp g
  obtain ⟨a10, g⟩ := List.forall_mem_cons.mp g
  exact ⟨a1, a2, a3, a4, a5, a6, a7, a8, a9, a10⟩
theorem cell_ne {L c k : Nat} (h : c < L) : @Ne Nat (L + k) c := by omega
theorem cell_ne2 {L j k : Nat} (h : j ≠ k) : @Ne Nat (L + j) (L + k) := by omega
end Mine
end

section
set_option maxRecDepth 100000
set_option maxHeartbeats 8000000
set_option tactic.hygienic false
namespace Mine
noncomputable def st8 : { P : Prop // Box P → st7.1 } := ⟨_, fun hP9 => by
  k_with_none
  w_top off
  k_with "lt" => (first | (with_reducible assumption) | (apply And.left; (first | (with_reducible assumption) | (apply And.right; (first | (with_reducible assumption) | (apply And.right; (first | (with_reducible assumption) | (apply And.right; (first | (with_reducible assumption) | (apply And.right; (first | (with_reducible assumption) | (apply And.right; (first | (with_reducible assumption) | (apply And.right; (first | (with_reducible assumption) | (apply And.right; (first | (with_reducible assumption) | (apply And.right; (first | (with_reducible assumption) | (apply And.right; (first | (with_reducible assumption) | (apply And.right; (first | (with_reducible assumption) | (apply And.right; (first | (with_reducible assumption) | (apply And.right; (first | (with_reducible assumption) | (apply And.right; (first | (with_reducible assumption) | (apply And.right; (first | (with_reducible assumption) | (apply And.right; (first | (with_reducible assumption) | (apply And.right; (first | (with_reducible assumption) | (apply And.right; (first | (with_reducible assumption) | (apply And.right; (first | (with_reducible assumption) | (apply And.right; (first | (with_reducible assumption) | (apply And.right; (first | (with_reducible assumption) | (apply And.right; (first | (with_reducible assumption) | (apply And.right; (first | (with_reducible assumption) | (apply And.right; (first | (with_reducible assumption) | (apply And.right; (first | (with_reducible assumption) | (apply And.right; (with_reducible assumption)))))))))))))))))))))))))))))))))))))))))))))))))))) | (apply And.right; (first | (with_reducible assumption) | (apply And.right; (first | (with_reducible assumption) | (apply And.right; (first | (with_reducible assumption) | (apply And.right; (first | (with_reducible assumption) | (apply And.right; (first | (with_reducible assumption) | (apply And.right; (first | (with_reducible assumption) | (apply And.right; (first | (with_reducible assumption) | (apply And.right; (first | (with_reducible assumption) | (apply And.right; (first | (with_reducible assumption) | (apply And.right; (first | (with_reducible assumption) | (apply And.right; (first | (with_reducible assumption) | (apply And.right; (first | (with_reducible assumption) | (apply And.right; (first | (with_reducible assumption) | (apply And.right; (first | (with_reducible assumption) | (apply And.right; (first | (with_reducible assumption) | (apply And.right; (first | (with_reducible assumption) | (apply And.right; (first | (with_reducible assumption) | (apply And.right; (first | (with_reducible assumption) | (apply And.right; (first | (with_reducible assumption) | (apply And.right; (first | (with_reducible assumption) | (apply And.right; (first | (with_reducible assumption) | (apply And.right; (first | (with_reducible assumption) | (apply And.right; (first | (with_reducible assumption) | (apply And.right; (first | (with_reducible assumption) | (apply And.right; (first | (with_reducible assumption) | (apply And.right; (with_reducible assumption)))))))))))))))))))))))))))))))))))))))))))))))))))))
  k_with "k_ne" => (refine neN ?_; (try dsimp only); first | k_extra "lt" | (refine Ne.symm ?_; k_extra "lt") | (refine Nat.ne_of_lt ?_; k_extra "lt") | (refine Nat.ne_of_gt ?_; k_extra "lt") | (refine Nat.ne_of_lt (Nat.lt_add_right _ ?_); k_extra "lt") | (refine Nat.ne_of_gt (Nat.lt_add_right _ ?_); k_extra "lt") | (refine Nat.ne_of_lt (Nat.lt_add_right _ (Nat.lt_add_right _ ?_)); k_extra "lt") | (refine Nat.ne_of_gt (Nat.lt_add_right _ (Nat.lt_add_right _ ?_)); k_extra "lt") | (refine cell_ne2 ?_; decide) | (refine cell_ne ?_; k_extra "lt") | (refine Ne.symm (cell_ne ?_); k_extra "lt"))
  k_with "call ref" => ((k_here; (try dsimp only [List.cons_append, List.nil_append, List.append_nil]); (with_reducible show wpAny _ _ (call (Value.ref 140) _) _ _ _); k_dflt (refine' gt_led [_, _, _] ?q9B ?q9F ?q9X ?q9N ?q9T ?q9O ?q9P ?q9Q ?q9k ?q9d ?q9u ?q9l ?q9o ?_; (case q9B => k_asm); (case q9F => k_asm); (case q9X => k_asm); (case q9N => k_asm); (case q9T => k_asm); (case q9O => assumption); (case q9P => exact prel3 off); (case q9Q => exact hPo); (case q9k => exact rfl); (case q9d => ktr_room); (case q9u => ktr_units); (case q9l => assumption); (case q9o => assumption); k_whole); intro h' tk' it' kt' na' k' t' hr' hk' F' N'; (try dsimp only [Lx.led, List.cons_append, List.nil_append] at N'); (try k_sweep)))
  k_with "CompEnd" => ((k_here; k_dflt (refine' heard_end ?q9F ?q9N ?q9o ?q9m ?q9r ?q9i ?q9k ?q9L ?q9S ?q9n; (case q9F => k_asm); (case q9N => k_asm); (case q9o => exact off); (case q9m => k_mem); (case q9r => assumption); (case q9i => omega); (case q9k => assumption); (case q9L => assumption); (case q9S => assumption); (case q9n => assumption))))
  intro w; revert w; (set_option tactic.hygienic true in intros)
  rename_i w mg mb fa pm cd doc w_7 w_8 w_9 w_10 p9 loose9 mean9 dr os0 g0 K' T9 L0 l0 t' o' D'_3 ws'_2 tk_1 h'_8 o'_1 ks hI'_2 hk8 hkb T d' lD mB v7 c7 v8 c8 v9 c9 v10 c10 tk9 d0 g' ys a D' h' tk' o1' h'_1 i' hl h tk vn vs t9 hwl x h'_2 tk'_1 it kt ps' ht O ox lx h'_3 o'_2 F' N' d'_1 tk_2 X'
  revert X'; k_fill; intro X'
  have hw5 := hI'_2.length
  have hPo : PreL x [(D', LCg.lst ys), (D'_3, W.listOf ws'_2.toArray 0), (L0 + 1, o'), (L0 + 2, o'_1), (L0 + 3, o'_2), (L0 + 4, w_9), (L0 + 5, w_8), (L0 + 6, w_7), (156, tabObj ps'), (70, tabObj #[]), (63, tabObj #[])] := by
    clear o1'
    refine prel_lt O.ord ?_
    simp only [List.forall_mem_cons]
    refine ⟨?_, ?_, ?_, ?_, ?_, ?_, ?_, ?_, ?_, ?_, ?_, List.forall_mem_nil _⟩ <;> (refine ltN ?_; omega)
  refine LCg.CompSrc.ledger (by rfl) (by k_asm) (by k_asm) (by k_mem) (by rw [PySem.sizeLine_eq, List.size_toArray, hI'_2.length]; omega) ?_
  intro g9
  refine comp_inv (HJ x T ks [(D', LCg.lst ys), (D'_3, W.listOf ws'_2.toArray 0), (L0 + 1, o'), (L0 + 2, o'_1), (L0 + 3, o'_2), (L0 + 4, w_9), (L0 + 5, w_8), (L0 + 6, w_7), (156, tabObj ps'), (70, tabObj #[]), (63, tabObj #[])]) (HJ.start ht) ?_ ?_
  · rintro i v I oI C oC D m₂ ys1 nw h tk E' hi hv ⟨it1, na1, k, kt1, rfl, hk, hL, hS⟩ hC hx F N off ne
    obtain ⟨kn, hkn⟩ : ∃ kn, ks[i]? = some kn := ⟨ks[i]'(by rw [List.size_toArray] at hi; omega), List.getElem?_eq_getElem _⟩
    obtain ⟨rest, hO, hL'⟩ := HJ.step hL hkn
    clear N'
    dsimp only [Lx.led, List.cons_append, List.nil_append] at N
    have off' := off
    simp only [Lx.led, List.cons_append, List.nil_append, LCg.Off3, and_true] at off'
    w_strict (k_steps)
  · rintro ys1 nw ⟨it1, na1, k, kt1, rfl, hk, hL, hS⟩ D h tk F N off
    rw [List.size_toArray, hw5, List.drop_length] at hL
    rw [List.size_toArray, hw5, List.take_length] at hS
    clear F' N'
    (rename_i zz1 zz2; revert w mg mb fa pm cd doc w_7 w_8 w_9 w_10 p9 loose9 mean9 dr os0 g0 K' T9 L0 l0 t' o' D'_3 ws'_2 tk_1 h'_8 o'_1 ks hI'_2 hk8 hkb T d' lD mB v7 c7 v8 c8 v9 c9 v10 c10 tk9 d0 g' ys a D' h' tk' o1' h'_1 i' hl zz1 zz2 vn vs t9 hwl x h'_2 tk'_1 it kt ps' ht O ox lx h'_3 o'_2 d'_1 tk_2 X' hw5 hPo g9 ys1 it1 na1 k kt1 hk hL hS D h tk F N off; exact hP9.out)⟩
end Mine
end

section
set_option maxRecDepth 100000
set_option maxHeartbeats 4000000
namespace Mine
open PySem.SeqAt
theorem Strs.strsAre {vs : List Value} {ls : List (List Nat)} (h : Strs vs ls) : StrsAre vs (ls.map S) := by
  induction h with
  | nil => exact .nil
  | cons l t _ ih => exact .cons _ t ih
theorem countIn_S (d : Nat) : ∀ l : List Nat, PySem.Spec.countIn (.str (S [d])) ((l.map fun c => S [c]).map PyData.str) = (l.count d : Nat)
  | [] => rfl
  | c :: r => by
    have h : PySem.Spec.same (PyData.str (S [c])) (PyData.str (S [d])) = (c == d) := by
      show (S [c] == S [d]) = _
      rw [S_beq, Bool.eq_iff_iff]
      simp
    rw [List.map_cons, List.map_cons, PySem.Spec.countIn, countIn_S d r, h, List.count_cons]
    push_cast
    split <;> simp_all <;> omega
section
variable {prog : Program} {w : World} {A : Around} {E : Value → Shared → Prop} {s : Shared}
theorem ne_strs {l b : Addr} {vs ws : List Value} {ls ls' : List (List Nat)} {Q : Value → Shared → Prop} (h1 : s.heap.IsList l vs.toArray) (h2 : s.heap.IsList b ws.toArray) (e1 : Strs vs ls) (e2 : Strs ws ls') (e : ls = ls') (hu : A.units < cLine) (h : Q (.bool false) s) :
    wpAny (model prog w) A (compareOp .NotEq (.ref l) (.ref b)) Q E s := by
  subst e
  refine RcNeAt.lists (e := fun _ => true) h1 h2 (by simp [e1.len, e2.len]) hu (fun j h3 h4 => ?_) prog w E Q ((show (!(List.range vs.toArray.size).all fun _ => true) = false by simp) ▸ h)
  obtain ⟨a, t, ea, ha⟩ := e1.at j vs.toArray[j] (by simp)
  obtain ⟨a', t', ea', ha'⟩ := e2.at j ws.toArray[j] (by simp)
  rw [ha] at ha'
  cases ha'
  rw [ea, ea']
  have := EqAt.str_str (A := A.in1) (s := s) (S a) t (S a) t'
  rwa [beq_self_eq_true] at this
theorem count_S {l : Addr} {vs : List Value} {cs : List Nat} {y : Str} {d : Nat} {t : Tok} {Q : Value → Shared → Prop} (hl : s.heap.IsList l vs.toArray) (hi : Strs vs (cs.map fun c => [c])) (hy : y = S [d])
    (h : ∀ t' tk, Q (.int (cs.count d : Nat) t') { s with toks := tk }) : wpAny (model prog w) A (call (.builtin "list.count") [.ref l, .str y t]) Q E s := by
  subst hy
  refine count_list_strs hl hi.strsAre ?_
  have e : (cs.map fun c => [c]).map S = cs.map fun c => S [c] := by rw [List.map_map]; rfl
  rw [e, countIn_S]
  exact h _ _
end
theorem lit10 : Str.ofString "\n" = S [10] := by decide +kernel
theorem nl_nil : nl [] = 0 := rfl
theorem line_eq {a b c d : Int} (h1 : a = c) (h2 : d = 0) : 1 + a - b + b - d = 1 + c := by omega
end Mine
end

section
set_option maxRecDepth 100000
set_option maxHeartbeats 8000000
set_option tactic.hygienic false
namespace Mine
noncomputable def st9 : { P : Prop // Box P → st8.1 } := ⟨_, fun hP9 => by
  k_with_none
  w_top off
  k_with "lt" => (first | (with_reducible assumption) | (apply And.left; (first | (with_reducible assumption) | (apply And.right; (first | (with_reducible assumption) | (apply And.right; (first | (with_reducible assumption) | (apply And.right; (first | (with_reducible assumption) | (apply And.right; (first | (with_reducible assumption) | (apply And.right; (first | (with_reducible assumption) | (apply And.right; (first | (with_reducible assumption) | (apply And.right; (first | (with_reducible assumption) | (apply And.right; (first | (with_reducible assumption) | (apply And.right; (first | (with_reducible assumption) | (apply And.right; (first | (with_reducible assumption) | (apply And.right; (first | (with_reducible assumption) | (apply And.right; (first | (with_reducible assumption) | (apply And.right; (first | (with_reducible assumption) | (apply And.right; (first | (with_reducible assumption) | (apply And.right; (first | (with_reducible assumption) | (apply And.right; (first | (with_reducible assumption) | (apply And.right; (first | (with_reducible assumption) | (apply And.right; (first | (with_reducible assumption) | (apply And.right; (first | (with_reducible assumption) | (apply And.right; (first | (with_reducible assumption) | (apply And.right; (first | (with_reducible assumption) | (apply And.right; (first | (with_reducible assumption) | (apply And.right; (first | (with_reducible assumption) | (apply And.right; (first | (with_reducible assumption) | (apply And.right; (with_reducible assumption)))))))))))))))))))))))))))))))))))))))))))))))))))) | (apply And.right; (first | (with_reducible assumption) | (apply And.right; (first | (with_reducible assumption) | (apply And.right; (first | (with_reducible assumption) | (apply And.right; (first | (with_reducible assumption) | (apply And.right; (first | (with_reducible assumption) | (apply And.right; (first | (with_reducible assumption) | (apply And.right; (first | (with_reducible assumption) | (apply And.right; (first | (with_reducible assumption) | (apply And.right; (first | (with_reducible assumption) | (apply And.right; (first | (with_reducible assumption) | (apply And.right; (first | (with_reducible assumption) | (apply And.right; (first | (with_reducible assumption) | (apply And.right; (first | (with_reducible assumption) | (apply And.right; (first | (with_reducible assumption) | (apply And.right; (first | (with_reducible assumption) | (apply And.right; (first | (with_reducible assumption) | (apply And.right; (first | (with_reducible assumption) | (apply And.right; (first | (with_reducible assumption) | (apply And.right; (first | (with_reducible assumption) | (apply And.right; (first | (with_reducible assumption) | (apply And.right; (first | (with_reducible assumption) | (apply And.right; (first | (with_reducible assumption) | (apply And.right; (first | (with_reducible assumption) | (apply And.right; (first | (with_reducible assumption) | (apply And.right; (first | (with_reducible assumption) | (apply And.right; (with_reducible assumption)))))))))))))))))))))))))))))))))))))))))))))))))))))
  k_with "k_ne" => (refine neN ?_; (try dsimp only); first | k_extra "lt" | (refine Ne.symm ?_; k_extra "lt") | (refine Nat.ne_of_lt ?_; k_extra "lt") | (refine Nat.ne_of_gt ?_; k_extra "lt") | (refine Nat.ne_of_lt (Nat.lt_add_right _ ?_); k_extra "lt") | (refine Nat.ne_of_gt (Nat.lt_add_right _ ?_); k_extra "lt") | (refine Nat.ne_of_lt (Nat.lt_add_right _ (Nat.lt_add_right _ ?_)); k_extra "lt") | (refine Nat.ne_of_gt (Nat.lt_add_right _ (Nat.lt_add_right _ ?_)); k_extra "lt") | (refine cell_ne2 ?_; decide) | (refine cell_ne ?_; k_extra "lt") | (refine Ne.symm (cell_ne ?_); k_extra "lt"))
  k_with "call ref" => ((k_here; (try dsimp only [List.cons_append, List.nil_append, List.append_nil]); (with_reducible show wpAny _ _ (call (Value.ref 140) _) _ _ _); k_dflt (refine' gt_led [_] ?q9B ?q9F ?q9X ?q9N ?q9T ?q9O ?q9P ?q9Q ?q9k ?q9d ?q9u ?q9l ?q9o ?_; (case q9B => k_asm); (case q9F => k_asm); (case q9X => k_asm); (case q9N => k_asm); (case q9T => k_asm); (case q9O => assumption); (case q9P => exact hP1); (case q9Q => exact hPo); (case q9k => exact rfl); (case q9d => ktr_room); (case q9u => ktr_units); (case q9l => assumption); (case q9o => assumption); k_whole); intro h' tk' it' kt' na' k' t' hr' hk' F' N'; (try dsimp only [Lx.led, List.cons_append, List.nil_append] at N'); (try k_sweep)))
  k_with "compareOp NotEq ref ref" => ((k_here; (refine' ne_strs ?q9a ?q9b ?q9c ?q9d ?q9e ?q9u ?_; (case q9a => exact News.isList (by k_asm) (by k_mem)); (case q9b => exact News.isList (by k_asm) (by k_mem)); (case q9c => exact hS); (case q9d => exact a); (case q9e => rfl); (case q9u => exact (show _ < cLine from Nat.le_of_ble_eq_true rfl)))))
  k_with "compareOp NotEq str str" => ((k_here; (refine' ne_str_same ?q9e ?_; (case q9e => exact empty_S.symm))))
  k_with "compareOp NotEq int int" => ((k_here; (refine' ne_int_same ?q9e ?_; (case q9e => first | exact line_eq hn hn0 | omega))))
  k_with "call builtin:list.count" => ((k_here; k_dflt (refine' count_S (cs := ks.map (sg T)) ?q9l ?q9s ?q9y ?_; (case q9l => exact News.isList (by k_asm) (by k_mem)); (case q9s => (rw [List.map_map]; exact a)); (case q9y => exact lit10)); intro t' tk'))
  k_with "call str.join" => (((revert w mg mb fa pm cd doc w_7 w_8 w_9 w_10 p9 loose9 mean9 dr os0 g0 K' T9 L0 l0 t' o' D'_3 ws'_2 tk_1 h'_8 o'_1 ks hI'_2 hk8 hkb T d' lD mB v7 c7 v8 c8 v9 c9 v10 c10 tk9 d0 g' ys a D' h' tk' o1' h'_1 i' hl h tk vn vs t9 hwl x h'_2 tk'_1 it kt ps' ht O ox lx h'_3 o'_2 d'_1 tk_2 hw5 hPo g9 ys1 it1 na1 k kt1 hk hL hS D h_1 tk_3 F N X' hO hn hn0 hP1 off; exact hP9.out)))
  k_with "compareOp NotEq ref ref" => (((revert w mg mb fa pm cd doc w_7 w_8 w_9 w_10 p9 loose9 mean9 dr os0 g0 K' T9 L0 l0 t' o' D'_3 ws'_2 tk_1 h'_8 o'_1 ks hI'_2 hk8 hkb T d' lD mB v7 c7 v8 c8 v9 c9 v10 c10 tk9 d0 g' ys a D' h' tk' o1' h'_1 i' hl h tk vn vs t9 hwl x h'_2 tk'_1 it kt ps' ht O ox lx h'_3 o'_2 d'_1 tk_2 hw5 hPo g9 ys1 it1 na1 k kt1 hk hL hS D h_1 tk_3 F N X' hO hn hn0 hP1 off; exact hP9.out)))
  intro w; revert w; (set_option tactic.hygienic true in intros)
  rename_i w mg mb fa pm cd doc w_7 w_8 w_9 w_10 p9 loose9 mean9 dr os0 g0 K' T9 L0 l0 t' o' D'_3 ws'_2 tk_1 h'_8 o'_1 ks hI'_2 hk8 hkb T d' lD mB v7 c7 v8 c8 v9 c9 v10 c10 tk9 d0 g' ys a D' h' tk' o1' h'_1 i' hl h tk vn vs t9 hwl x h'_2 tk'_1 it kt ps' ht O ox lx h'_3 o'_2 d'_1 tk_2 X' hw5 hPo g9 ys1 it1 na1 k kt1 hk hL hS D h_1 tk_3 F N off
  revert X'; k_fill; intro X'
  have hO := hL.last
  have hn : nl x.t = ((ks.map (sg T)).count 10 : Nat) := by rw [ht]; exact nl_wr T ks
  have hn0 := nl_nil
  have hP1 : PreL x [(D, LCg.lst ys1)] := prel1 off
  dsimp only [Lx.led, List.cons_append, List.nil_append] at N
  simp only [Lx.led, List.cons_append, List.nil_append, LCg.Off1, and_true] at off
  dsimp only
  w_strict (k_steps)⟩
end Mine
end

section
set_option maxRecDepth 100000
set_option maxHeartbeats 8000000
set_option tactic.hygienic false
namespace Mine
noncomputable def st10 : { P : Prop // Box P → st9.1 } := ⟨_, fun hP9 => by
  k_with_none
  w_top off
  k_with "lt" => (first | (with_reducible assumption) | (apply And.left; (first | (with_reducible assumption) | (apply And.right; (first | (with_reducible assumption) | (apply And.right; (first | (with_reducible assumption) | (apply And.right; (first | (with_reducible assumption) | (apply And.right; (first | (with_reducible assumption) | (apply And.right; (first | (with_reducible assumption) | (apply And.right; (first | (with_reducible assumption) | (apply And.right; (first | (with_reducible assumption) | (apply And.right; (first | (with_reducible assumption) | (apply And.right; (first | (with_reducible assumption) | (apply And.right; (first | (with_reducible assumption) | (apply And.right; (first | (with_reducible assumption) | (apply And.right; (first | (with_reducible assumption) | (apply And.right; (first | (with_reducible assumption) | (apply And.right; (first | (with_reducible assumption) | (apply And.right; (first | (with_reducible assumption) | (apply And.right; (first | (with_reducible assumption) | (apply And.right; (first | (with_reducible assumption) | (apply And.right; (first | (with_reducible assumption) | (apply And.right; (first | (with_reducible assumption) | (apply And.right; (first | (with_reducible assumption) | (apply And.right; (first | (with_reducible assumption) | (apply And.right; (first | (with_reducible assumption) | (apply And.right; (first | (with_reducible assumption) | (apply And.right; (first | (with_reducible assumption) | (apply And.right; (with_reducible assumption)))))))))))))))))))))))))))))))))))))))))))))))))))) | (apply And.right; (first | (with_reducible assumption) | (apply And.right; (first | (with_reducible assumption) | (apply And.right; (first | (with_reducible assumption) | (apply And.right; (first | (with_reducible assumption) | (apply And.right; (first | (with_reducible assumption) | (apply And.right; (first | (with_reducible assumption) | (apply And.right; (first | (with_reducible assumption) | (apply And.right; (first | (with_reducible assumption) | (apply And.right; (first | (with_reducible assumption) | (apply And.right; (first | (with_reducible assumption) | (apply And.right; (first | (with_reducible assumption) | (apply And.right; (first | (with_reducible assumption) | (apply And.right; (first | (with_reducible assumption) | (apply And.right; (first | (with_reducible assumption) | (apply And.right; (first | (with_reducible assumption) | (apply And.right; (first | (with_reducible assumption) | (apply And.right; (first | (with_reducible assumption) | (apply And.right; (first | (with_reducible assumption) | (apply And.right; (first | (with_reducible assumption) | (apply And.right; (first | (with_reducible assumption) | (apply And.right; (first | (with_reducible assumption) | (apply And.right; (first | (with_reducible assumption) | (apply And.right; (first | (with_reducible assumption) | (apply And.right; (first | (with_reducible assumption) | (apply And.right; (first | (with_reducible assumption) | (apply And.right; (with_reducible assumption)))))))))))))))))))))))))))))))))))))))))))))))))))))
  k_with "k_ne" => (refine neN ?_; (try dsimp only); first | k_extra "lt" | (refine Ne.symm ?_; k_extra "lt") | (refine Nat.ne_of_lt ?_; k_extra "lt") | (refine Nat.ne_of_gt ?_; k_extra "lt") | (refine Nat.ne_of_lt (Nat.lt_add_right _ ?_); k_extra "lt") | (refine Nat.ne_of_gt (Nat.lt_add_right _ ?_); k_extra "lt") | (refine Nat.ne_of_lt (Nat.lt_add_right _ (Nat.lt_add_right _ ?_)); k_extra "lt") | (refine Nat.ne_of_gt (Nat.lt_add_right _ (Nat.lt_add_right _ ?_)); k_extra "lt") | (refine cell_ne2 ?_; decide) | (refine cell_ne ?_; k_extra "lt") | (refine Ne.symm (cell_ne ?_); k_extra "lt"))
  k_with "call ref" => ((k_here; (try dsimp only [List.cons_append, List.nil_append, List.append_nil]); (with_reducible show wpAny _ _ (call (Value.ref 140) _) _ _ _); k_dflt (refine' gt_led [_] ?q9B ?q9F ?q9X ?q9N ?q9T ?q9O ?q9P ?q9Q ?q9k ?q9d ?q9u ?q9l ?q9o ?_; (case q9B => k_asm); (case q9F => k_asm); (case q9X => k_asm); (case q9N => k_asm); (case q9T => k_asm); (case q9O => assumption); (case q9P => exact hP1); (case q9Q => exact hPo); (case q9k => exact rfl); (case q9d => ktr_room); (case q9u => ktr_units); (case q9l => assumption); (case q9o => assumption); k_whole); intro h' tk' it' kt' na' k' t' hr' hk' F' N'; (try dsimp only [Lx.led, List.cons_append, List.nil_append] at N'); (try k_sweep)))
  k_with "compareOp NotEq str str" => ((k_here; (refine' ne_str_same ?q9e ?_; (case q9e => exact empty_S.symm))))
  k_with "compareOp NotEq int int" => ((k_here; (refine' ne_int_same ?q9e ?_; (case q9e => first | exact line_eq hn hn0 | omega))))
  k_with "call builtin:list.count" => ((k_here; k_dflt (refine' count_S (cs := ks.map (sg T)) ?q9l ?q9s ?q9y ?_; (case q9l => exact News.isList (by k_asm) (by k_mem)); (case q9s => (rw [List.map_map]; exact a)); (case q9y => exact lit10)); intro t' tk'))
  k_with "call builtin:str.join" => (((rename_i zz1 zz2 zz3 zz4 zz5 zz6; revert w mg mb fa pm cd doc w_7 w_8 w_9 w_10 p9 loose9 mean9 dr os0 g0 K' T9 L0 l0 zz1 o' D'_3 ws'_2 tk_1 h'_8 o'_1 ks hI'_2 hk8 hkb T d' lD mB v7 c7 v8 c8 v9 c9 v10 c10 tk9 d0 g' ys a D' zz2 zz3 o1' h'_1 i' hl h zz4 vn vs t9 hwl x h'_2 tk'_1 it kt ps' ht O ox lx h'_3 o'_2 d'_1 tk_2 hw5 hPo g9 ys1 it1 na1 k kt1 hk hL hS D h_1 tk_3 hO hn hn0 hP1 off X' h' zz5 it' kt' na' k' zz6 hr' hk' F' N' t' tk' tk; exact hP9.out)))
  intro w; revert w; (set_option tactic.hygienic true in intros)
  rename_i w mg mb fa pm cd doc w_7 w_8 w_9 w_10 p9 loose9 mean9 dr os0 g0 K' T9 L0 l0 t' o' D'_3 ws'_2 tk_1 h'_8 o'_1 ks hI'_2 hk8 hkb T d' lD mB v7 c7 v8 c8 v9 c9 v10 c10 tk9 d0 g' ys a D' h' tk' o1' h'_1 i' hl h tk vn vs t9 hwl x h'_2 tk'_1 it kt ps' ht O ox lx h'_3 o'_2 d'_1 tk_2 hw5 hPo g9 ys1 it1 na1 k kt1 hk hL hS D h_1 tk_3 F N X' hO hn hn0 hP1 off
  revert X'; k_fill; intro X'
  refine ne_strs (vs := ys1) (ws := ys) (ls := List.map (fun k => [sg T k]) ks) ?q9a ?q9b hS a rfl ?q9u ?_
  case q9a => exact News.isList (n := ys1.length) N (by k_mem)
  case q9b => exact News.isList (n := ys.length) N (by k_mem)
  case q9u => exact Nat.le_of_ble_eq_true rfl
  w_strict (k_steps)⟩
end Mine
end

section
set_option maxRecDepth 100000
set_option maxHeartbeats 4000000
namespace Mine
/-- p is a period of t -/
noncomputable def PerOf (t : List Nat) (p : Nat) : Prop := ∀ i, i + p < t.length → t[i]? = t[i + p]?
theorem win_get (t : List Nat) (c r j : Nat) : (win t c r)[j]? = if (c - r) + j < c + r then t[(c - r) + j]? else none := by
  unfold win
  rw [List.getElem?_drop, List.getElem?_take]
theorem wcond_iff {t : List Nat} {c r : Nat} (hc : c ≤ t.length) (hr : 1 ≤ r) : wcond t c r = true ↔ ∀ i, c ≤ i + r → i < c → i + r < t.length → t[i]? = t[i + r]? := by
  unfold wcond
  rw [List.isPrefixOf_iff_prefix, List.prefix_iff_getElem?]
  have hl : ((win t c r).drop r).length = min (c + r) t.length - (c - r) - r := by
    simp only [win, List.length_drop, List.length_take]
  constructor
  · intro h i h1 h2 h3
    obtain ⟨j, rfl⟩ := Nat.le.dest (Nat.sub_le_of_le_add h1 : c - r ≤ i)
    have wg := win_get t c r
    generalize c - r = d at hl wg h1 h2 h3 ⊢
    have hi : j < ((win t c r).drop r).length := by rw [hl]; exact Nat.lt_sub_of_add_lt (Nat.lt_sub_of_add_lt (Nat.lt_min.mpr ⟨by omega, by omega⟩))
    have := h j hi
    rw [← List.getElem?_eq_getElem, List.getElem?_drop, wg, wg, if_pos (by omega), if_pos (by omega)] at this
    rw [show d + (r + j) = d + j + r by omega] at this
    exact this
  · intro h j hj
    rw [hl] at hj
    have hcr : c ≤ c - r + r := Nat.le_add_of_sub_le (Nat.le_refl _)
    have wg := win_get t c r
    generalize c - r = d at hl wg hj hcr
    obtain ⟨h1, h2⟩ := Nat.lt_min.mp (Nat.add_lt_of_lt_sub (Nat.add_lt_of_lt_sub hj))
    rw [← List.getElem?_eq_getElem, List.getElem?_drop, wg, wg, if_pos (by omega), if_pos (by omega)]
    rw [show d + (r + j) = (d + j) + r by omega]
    exact h (d + j) (by omega) (by omega) (by omega)
/-- the order of the ends -/
noncomputable def ltu (up : Int) (a b : List Nat) : Prop := a.map (fun c : Nat => up * (c : Int)) < b.map (fun c : Nat => up * (c : Int))
theorem gtu_ltu {up : Int} {a b : List Nat} : gtu up a b = true ↔ ltu up b a := by unfold gtu ltu; exact decide_eq_true_iff
theorem ltu_nil {up : Int} {x : Nat} {a : List Nat} : ltu up [] (x :: a) := by unfold ltu; simp [List.nil_lt_cons]
theorem not_ltu_nil {up : Int} {a : List Nat} : ¬ ltu up a [] := by unfold ltu; simp
theorem ltu_cons {up : Int} (hu : up = 1 ∨ up = -1) {x y : Nat} {a b : List Nat} : ltu up (x :: a) (y :: b) ↔ up * (x : Int) < up * (y : Int) ∨ (x = y ∧ ltu up a b) := by
  unfold ltu
  rw [List.map_cons, List.map_cons, List.cons_lt_cons_iff]
  have : (up * (x : Int) = up * (y : Int)) ↔ x = y := by
    rcases hu with rfl | rfl <;> omega
  rw [this]
theorem ltu_app {up : Int} (hu : up = 1 ∨ up = -1) (z : List Nat) {a b : List Nat} : ltu up (z ++ a) (z ++ b) ↔ ltu up a b := by
  induction z with
  | nil => rfl
  | cons x z ih =>
    rw [List.cons_append, List.cons_append, ltu_cons hu, ih]
    constructor
    · rintro (h | h)
      · omega
      · exact h.2
    · exact fun h => .inr ⟨rfl, h⟩
theorem ltu_pre {up : Int} {a : List Nat} {x : Nat} {b : List Nat} (hu : up = 1 ∨ up = -1) : ltu up a (a ++ x :: b) := by
  have := (ltu_app hu a (a := []) (b := x :: b)).mpr ltu_nil
  rwa [List.append_nil] at this
theorem ltu_irrefl {up : Int} (a : List Nat) : ¬ ltu up a a := List.lt_irrefl _
theorem ltu_trans {up : Int} {a b c : List Nat} (h1 : ltu up a b) (h2 : ltu up b c) : ltu up a c := List.lt_trans h1 h2
theorem ltu_tri {up : Int} (hu : up = 1 ∨ up = -1) : ∀ a b : List Nat, ltu up a b ∨ a = b ∨ ltu up b a
  | [], [] => .inr (.inl rfl)
  | [], _ :: _ => .inl ltu_nil
  | _ :: _, [] => .inr (.inr ltu_nil)
  | x :: a, y :: b => by
    rw [ltu_cons hu, ltu_cons hu]
    rcases Nat.lt_trichotomy x y with h | h | h
    · rcases hu with rfl | rfl
      · exact .inl (.inl (by omega))
      · exact .inr (.inr (.inl (by omega)))
    · subst h
      rcases ltu_tri hu a b with h | h | h
      · exact .inl (.inr ⟨rfl, h⟩)
      · exact .inr (.inl (by rw [h]))
      · exact .inr (.inr (.inr ⟨rfl, h⟩))
    · rcases hu with rfl | rfl
      · exact .inr (.inr (.inl (by omega)))
      · exact .inl (.inl (by omega))
theorem both_pre : ∀ {a b : List Nat}, ¬ ltu 1 b a → ¬ ltu (-1) b a → a <+: b
  | [], b, _, _ => List.nil_prefix
  | x :: a, [], h, _ => absurd ltu_nil h
  | x :: a, y :: b, h1, h2 => by
    rw [ltu_cons (.inl rfl)] at h1
    rw [ltu_cons (.inr rfl)] at h2
    have e : x = y := by
      rcases Nat.lt_trichotomy x y with h | h | h
      · exact absurd (.inl (by omega)) h2
      · exact h
      · exact absurd (.inl (by omega)) h1
    subst e
    have := both_pre (a := a) (b := b) (fun h => h1 (.inr ⟨rfl, h⟩)) (fun h => h2 (.inr ⟨rfl, h⟩))
    obtain ⟨z, rfl⟩ := this
    exact ⟨z, rfl⟩
theorem both_pre' {up : Int} (hu : up = 1 ∨ up = -1) {a b : List Nat} (h1 : ¬ ltu up b a) (h2 : ¬ ltu (-up) b a) : a <+: b := by
  rcases hu with rfl | rfl
  · exact both_pre h1 h2
  · exact both_pre h2 h1
/-- the end from k on is the greatest -/
noncomputable def MaxSuf (up : Int) (t : List Nat) (k : Nat) : Prop := k < t.length ∧ ∀ j, ¬ ltu up (t.drop k) (t.drop j)
theorem drop_split {t : List Nat} {c r : Nat} (h : r ≤ c) : t.drop (c - r) = (t.drop (c - r)).take r ++ t.drop c := by
  have := (List.take_append_drop r (t.drop (c - r))).symm
  rwa [List.drop_drop, show c - r + r = c by omega] at this
/-- two pieces of t that are alike -/
theorem alike {t : List Nat} {a b z : Nat} (h : ∀ i, i < z → t[a + i]? = t[b + i]?) : (t.drop a).take z = (t.drop b).take z := by
  apply List.ext_getElem?
  intro i
  rw [List.getElem?_take, List.getElem?_take]
  split
  · rw [List.getElem?_drop, List.getElem?_drop]; exact h i (by assumption)
  · rfl
/-- a repetition at the cut ahead of the greatest end is longer than what stands ahead -/
theorem max_left {up : Int} (hu : up = 1 ∨ up = -1) {t : List Nat} {c r : Nat} (h : MaxSuf up t c) (hr : 1 ≤ r) (hw : wcond t c r = true) : c < r := by
  apply Nat.lt_of_not_le
  intro hle
  obtain ⟨hc, hm⟩ := h
  rw [wcond_iff (Nat.le_of_lt hc) hr] at hw
  have m1 := hm (c - r)
  rw [drop_split hle] at m1
  by_cases h2 : c + r ≤ t.length
  · -- y = z y'
    have e : (t.drop (c - r)).take r = (t.drop c).take r := alike fun i hi => by
      have := hw (c - r + i) (by omega) (by omega) (by omega)
      rwa [show c - r + i + r = c + i by omega] at this
    have e2 : t.drop c = (t.drop c).take r ++ t.drop (c + r) := by
      have := (List.take_append_drop r (t.drop c)).symm
      rwa [List.drop_drop] at this
    rw [e] at m1
    have m2 := hm (c + r)
    rcases ltu_tri hu (t.drop c) (t.drop (c + r)) with h | h | h
    · exact m2 h
    · have := congrArg List.length h
      simp only [List.length_drop] at this
      omega
    · refine m1 ?_
      conv => lhs; rw [e2]
      exact (ltu_app hu _).mpr h
  · -- y is the start of z
    have e : t.drop c = (t.drop (c - r)).take (t.length - c) := by
      have := alike (t := t) (a := c) (b := c - r) (z := t.length - c) fun i hi => by
        have := hw (c - r + i) (by omega) (by omega) (by omega)
        rw [show c - r + i + r = c + i by omega] at this
        exact this.symm
      rw [← this, List.take_of_length_le (by rw [List.length_drop]; omega)]
    rw [← drop_split hle] at m1
    have e3 : t.drop (c - r) = t.drop c ++ t.drop (c - r + (t.length - c)) := by
      conv => rhs; rw [e]
      have := (List.take_append_drop (t.length - c) (t.drop (c - r))).symm
      rwa [List.drop_drop] at this
    rw [e3] at m1
    have hlt : c - r + (t.length - c) < t.length := by omega
    rw [List.drop_eq_getElem_cons hlt] at m1
    exact m1 (ltu_pre hu)
/-- .. and it is a period, if the other greatest end is no shorter -/
theorem crit_per {up : Int} (hu : up = 1 ∨ up = -1) {t : List Nat} {c d r : Nat} (h1 : MaxSuf up t c) (h2 : MaxSuf (-up) t d) (hd : d ≤ c) (hr : 1 ≤ r) (hw : wcond t c r = true) : PerOf t r := by
  have hcr := max_left hu h1 hr hw
  obtain ⟨hc, hm⟩ := h1
  rw [wcond_iff (Nat.le_of_lt hc) hr] at hw
  have hu' : -up = 1 ∨ -up = -1 := by rcases hu with rfl | rfl <;> simp
  have hp : t.drop (c + r) <+: t.drop c := by
    by_cases h3 : c + r < t.length
    · refine both_pre' hu (hm (c + r)) fun hl => h2.2 (d + r) ?_
      have e1 : t.drop d = (t.drop d).take (c - d) ++ t.drop c := by
        have := (List.take_append_drop (c - d) (t.drop d)).symm
        rwa [List.drop_drop, show d + (c - d) = c by omega] at this
      have e2 : t.drop (d + r) = (t.drop (d + r)).take (c - d) ++ t.drop (c + r) := by
        have := (List.take_append_drop (c - d) (t.drop (d + r))).symm
        rwa [List.drop_drop, show d + r + (c - d) = c + r by omega] at this
      have e3 : (t.drop d).take (c - d) = (t.drop (d + r)).take (c - d) := alike fun i hi => by
        have := hw (d + i) (by omega) (by omega) (by omega)
        rwa [show d + i + r = d + r + i by omega] at this
      rw [e1, e2, e3]
      exact (ltu_app hu' _).mpr hl
    · rw [List.drop_eq_nil_of_le (by omega)]; exact List.nil_prefix
  intro i hi
  by_cases h4 : i < c
  · exact hw i (by omega) h4 hi
  · rw [List.prefix_iff_getElem?] at hp
    have := hp (i - c) (by rw [List.length_drop]; omega)
    rw [← List.getElem?_eq_getElem, List.getElem?_drop, List.getElem?_drop, show c + (i - c) = i by omega, show c + r + (i - c) = i + r by omega] at this
    exact this
theorem per_wcond {t : List Nat} {p c : Nat} (h : PerOf t p) (hc : c ≤ t.length) (hp : 1 ≤ p) : wcond t c p = true :=
  (wcond_iff hc hp).mpr fun i _ _ h3 => h i h3
theorem crit_lt {up : Int} (hu : up = 1 ∨ up = -1) {t : List Nat} {c p : Nat} (h1 : MaxSuf up t c) (hp : 1 ≤ p) (h : PerOf t p) : c < p :=
  max_left hu h1 hp (per_wcond h (Nat.le_of_lt h1.1) hp)
end Mine
end

section
set_option maxRecDepth 100000
set_option maxHeartbeats 4000000
namespace Mine
/-- somebody on the line is no less than each end -/
noncomputable def Dom (up : Int) (t : List Nat) (q : List (List Nat)) : Prop := ∀ j, j < t.length → ∃ e ∈ q, ¬ ltu up e (t.drop j)
theorem le_tr {up : Int} (hu : up = 1 ∨ up = -1) {a b c : List Nat} (h1 : ¬ ltu up b a) (h2 : ¬ ltu up c b) : ¬ ltu up c a := by
  intro h
  rcases ltu_tri hu a b with h3 | h3 | h3
  · exact h2 (ltu_trans h h3)
  · subst h3; exact h2 h
  · exact h1 h3
theorem dom_step {up : Int} (hu : up = 1 ∨ up = -1) {t : List Nat} {q : List (List Nat)} (h : Dom up t q) : Dom up t (koStep up q) := by
  match q, h with
  | [], h => exact h
  | [a], h => exact h
  | a :: b :: r, h =>
    intro j hj
    obtain ⟨e, he, hl⟩ := h j hj
    have hm : (if gtu up a b then a else b) ∈ koStep up (a :: b :: r) := by simp [koStep]
    rcases List.mem_cons.mp he with rfl | he
    · refine ⟨_, hm, ?_⟩
      split
      · exact hl
      · rename_i h1
        rw [gtu_ltu] at h1
        exact le_tr hu hl h1
    · rcases List.mem_cons.mp he with rfl | he
      · refine ⟨_, hm, ?_⟩
        split
        · rename_i h1
          rw [gtu_ltu] at h1
          exact fun h2 => hl (ltu_trans h1 h2)
        · exact hl
      · exact ⟨e, by simp [koStep, he], hl⟩
theorem dom_run {up : Int} (hu : up = 1 ∨ up = -1) {t : List Nat} : ∀ (n : Nat) {q : List (List Nat)}, Dom up t q → Dom up t (koRun up n q)
  | 0, _, h => h
  | n + 1, _, h => dom_run hu n (dom_step hu h)
theorem koEnd_max {up : Int} (hu : up = 1 ∨ up = -1) {t : List Nat} (ht : 1 ≤ t.length) : ∃ k, koEnd up t = t.drop k ∧ MaxSuf up t k := by
  have hd : Dom up t (koRun up (t.length - 1) (sufs t)) := dom_run hu _ fun j hj => ⟨t.drop j, List.mem_map.mpr ⟨j, List.mem_range.mpr hj, rfl⟩, ltu_irrefl _⟩
  have hl := koRun_len (up := up) t (t.length - 1) (by omega)
  have hs : ∀ l ∈ koRun up (t.length - 1) (sufs t), ∃ k, k < t.length ∧ l = t.drop k := koRun_all _ fun l h => by
    obtain ⟨k, hk, rfl⟩ := List.mem_map.mp h
    exact ⟨k, List.mem_range.mp hk, rfl⟩
  unfold koEnd
  generalize koRun up (t.length - 1) (sufs t) = q at hd hl hs
  match q, hd, hl, hs with
  | [], _, hl, _ => simp at hl; omega
  | _ :: _ :: _, _, hl, _ => simp at hl; omega
  | [e], hd, _, hs =>
    obtain ⟨k, hk, rfl⟩ := hs e (.head _)
    refine ⟨k, rfl, hk, fun j => ?_⟩
    by_cases hj : j < t.length
    · obtain ⟨e, he, h⟩ := hd j hj
      rw [List.mem_singleton] at he
      subst he; exact h
    · rw [List.drop_eq_nil_of_le (i := j) (by omega)]; exact not_ltu_nil
/-- the cut's own -/
noncomputable def Own (t : List Nat) (c r : Nat) : Prop := 1 ≤ r ∧ r ≤ t.length ∧ wcond t c r = true ∧ ∀ q, 1 ≤ q → q < r → wcond t c q = false
/-- the least period -/
noncomputable def LeastPer (t : List Nat) (p : Nat) : Prop := 1 ≤ p ∧ p ≤ t.length ∧ PerOf t p ∧ ∀ q, 1 ≤ q → q < p → ¬ PerOf t q
theorem Own.le {t : List Nat} {c r p : Nat} (h : Own t c r) (hp : LeastPer t p) (hc : c ≤ t.length) : r ≤ p := by
  apply Nat.le_of_not_lt
  intro hl
  have := h.2.2.2 p hp.1 hl
  rw [per_wcond hp.2.2.1 hc hp.1] at this
  cases this
theorem Own.eq {t : List Nat} {c r p : Nat} (h : Own t c r) (hp : LeastPer t p) (hc : c ≤ t.length) (hq : ∀ q, 1 ≤ q → wcond t c q = true → PerOf t q) : r = p := by
  have h1 := h.le hp hc
  have h2 := hq r h.1 h.2.2.1
  rcases Nat.lt_or_eq_of_le h1 with h3 | h3
  · exact absurd h2 (hp.2.2.2 r h.1 h3)
  · exact h3
/-- the cut ahead of the shorter end -/
theorem ends_crit {t : List Nat} {p : Nat} (ht : 1 ≤ t.length) (hp : LeastPer t p) : ∃ k1 k2, koEnd 1 t = t.drop k1 ∧ koEnd (-1) t = t.drop k2 ∧ k1 < t.length ∧ k2 < t.length ∧ max k1 k2 < p ∧ ∀ r, Own t (max k1 k2) r → r = p := by
  obtain ⟨k1, e1, m1⟩ := koEnd_max (.inl rfl : (1 : Int) = 1 ∨ (1 : Int) = -1) ht
  obtain ⟨k2, e2, m2⟩ := koEnd_max (.inr rfl : (-1 : Int) = 1 ∨ (-1 : Int) = -1) ht
  refine ⟨k1, k2, e1, e2, m1.1, m2.1, ?_⟩
  rcases Nat.le_total k1 k2 with h | h
  · rw [Nat.max_eq_right h]
    exact ⟨crit_lt (.inr rfl) m2 hp.1 hp.2.2.1, fun r hr => hr.eq hp (Nat.le_of_lt m2.1) fun q h1 h2 => crit_per (up := -1) (.inr rfl) m2 m1 h h1 h2⟩
  · rw [Nat.max_eq_left h]
    exact ⟨crit_lt (.inl rfl) m1 hp.1 hp.2.2.1, fun r hr => hr.eq hp (Nat.le_of_lt m1.1) fun q h1 h2 => crit_per (up := 1) (.inl rfl) m1 m2 h h1 h2⟩
/-- the test of the loop that seeks the period -/
theorem per_test {t : List Nat} {p : Nat} : t.drop p = t.take (t.length - p) ↔ PerOf t p := by
  constructor
  · intro h i hi
    have := congrArg (fun l => l[i]?) h
    simp only [List.getElem?_drop, List.getElem?_take] at this
    rw [if_pos (by omega)] at this
    rw [← this, Nat.add_comm]
  · intro h
    apply List.ext_getElem?
    intro i
    rw [List.getElem?_drop, List.getElem?_take]
    split
    · rw [h i (by omega), Nat.add_comm]
    · rw [List.getElem?_eq_none (by omega)]
theorem per_len (t : List Nat) : PerOf t t.length := fun i hi => by omega
end Mine
end

section
set_option maxRecDepth 100000
set_option maxHeartbeats 4000000
namespace Mine
/-- f at x, x reckoned first -/
noncomputable def forced {α : Type} (x : Nat) (f : Nat → α) : α := Nat.rec (motive := fun _ => α) (f 0) (fun n _ => f (Nat.succ n)) x
theorem forced_eq {α : Type} (x : Nat) (f : Nat → α) : forced x f = f x := by cases x <;> rfl
noncomputable def spread (r m : Nat) : Nat := Nat.rec (motive := fun _ => Nat) 0 (fun j z => Nat.lor z (Nat.shiftLeft m (Nat.succ j))) r
noncomputable def wins (C side a : Nat) : Bool := Nat.rec (motive := fun _ => Bool) true (fun j z => cond (Nat.beq (Nat.land C (Nat.shiftLeft (Nat.sub (Nat.pow 2 side) 1) (Nat.succ j))) 0) false z) a
noncomputable def mism (n p0 p1 p2 r : Nat) : Nat := Nat.xor (Nat.sub (Nat.pow 2 (Nat.sub n r)) 1) (Nat.lor (Nat.land p0 (Nat.shiftRight p0 r)) (Nat.lor (Nat.land p1 (Nat.shiftRight p1 r)) (Nat.land p2 (Nat.shiftRight p2 r))))
noncomputable def goB (n p0 p1 p2 : Nat) (f : Nat) : Nat → Nat → Bool := Nat.rec (motive := fun _ => Nat → Nat → Bool) (fun _ _ => false) (fun _ ih r C => forced (mism n p0 p1 p2 r) fun m =>
  cond (Nat.beq m 0) (forced (cond (Nat.beq r 1) 1 (Nat.sub r 1)) fun sd => wins C sd (Nat.sub n sd)) (forced (Nat.land C (spread r m)) fun c => forced (Nat.succ r) fun r' => ih r' c)) f
noncomputable def allT (n k : Nat) : Nat → Nat → Nat → Bool := Nat.rec (motive := fun _ => Nat → Nat → Nat → Bool) (fun p0 p1 p2 => goB n p0 p1 p2 n 1 (Nat.sub (Nat.pow 2 n) 1))
  (fun _ ih p0 p1 p2 => forced (Nat.add p0 p0) fun q0 => forced (Nat.add p1 p1) fun q1 => forced (Nat.add p2 p2) fun q2 =>
    cond (forced (Nat.succ q0) fun z => ih z q1 q2) (cond (forced (Nat.succ q1) fun z => ih q0 z q2) (forced (Nat.succ q2) fun z => ih q0 q1 z) false) false) k
theorem all6 : allT 6 5 1 0 0 = true := by decide +kernel
end Mine
end

section
set_option maxRecDepth 100000
set_option maxHeartbeats 4000000
namespace Mine
theorem all7 : allT 7 6 1 0 0 = true := by decide +kernel
theorem all8 : allT 8 7 1 0 0 = true := by decide +kernel
theorem spread_succ (j m : Nat) : spread (j + 1) m = spread j m ||| (m <<< (j + 1)) := rfl
theorem wins_succ (C sd j : Nat) : wins C sd (j + 1) = cond (Nat.beq (C &&& ((2 ^ sd - 1) <<< (j + 1))) 0) false (wins C sd j) := rfl
theorem goB_succ (n p0 p1 p2 f r C : Nat) : goB n p0 p1 p2 (f + 1) r C = cond (Nat.beq (mism n p0 p1 p2 r) 0) (wins C (cond (Nat.beq r 1) 1 (r - 1)) (n - cond (Nat.beq r 1) 1 (r - 1))) (goB n p0 p1 p2 f (r + 1) (C &&& spread r (mism n p0 p1 p2 r))) := by
  have e : goB n p0 p1 p2 (f + 1) r C = forced (mism n p0 p1 p2 r) (fun m => cond (Nat.beq m 0) (forced (cond (Nat.beq r 1) 1 (Nat.sub r 1)) fun sd => wins C sd (Nat.sub n sd)) (forced (Nat.land C (spread r m)) fun c => forced (Nat.succ r) fun r' => goB n p0 p1 p2 f r' c)) := rfl
  rw [e]
  simp only [forced_eq]
  rfl
theorem allT_succ (n k p0 p1 p2 : Nat) : allT n (k + 1) p0 p1 p2 = (allT n k (2 * p0 + 1) (2 * p1) (2 * p2) && allT n k (2 * p0) (2 * p1 + 1) (2 * p2) && allT n k (2 * p0) (2 * p1) (2 * p2 + 1)) := by
  have e : allT n (k + 1) p0 p1 p2 = forced (Nat.add p0 p0) (fun q0 => forced (Nat.add p1 p1) fun q1 => forced (Nat.add p2 p2) fun q2 =>
    cond (forced (Nat.succ q0) fun z => allT n k z q1 q2) (cond (forced (Nat.succ q1) fun z => allT n k q0 z q2) (forced (Nat.succ q2) fun z => allT n k q0 q1 z) false) false) := rfl
  rw [e]
  simp only [forced_eq]
  rw [Nat.two_mul, Nat.two_mul, Nat.two_mul]
  show cond (allT n k (p0 + p0 + 1) (p1 + p1) (p2 + p2)) (cond (allT n k (p0 + p0) (p1 + p1 + 1) (p2 + p2)) (allT n k (p0 + p0) (p1 + p1) (p2 + p2 + 1)) false) false = _
  cases allT n k (p0 + p0 + 1) (p1 + p1) (p2 + p2) <;> cases allT n k (p0 + p0) (p1 + p1 + 1) (p2 + p2) <;> rfl
theorem mism_eq (n p0 p1 p2 r : Nat) : mism n p0 p1 p2 r = (2 ^ (n - r) - 1) ^^^ ((p0 &&& p0 >>> r) ||| ((p1 &&& p1 >>> r) ||| (p2 &&& p2 >>> r))) := rfl
/-- the places of a sign -/
noncomputable def pm (d : Nat) : List Nat → Nat
  | [] => 0
  | x :: w => 2 * pm d w + (if x = d then 1 else 0)
theorem pm_bit (d : Nat) : ∀ (w : List Nat) (i : Nat), (pm d w).testBit i = true ↔ w[i]? = some d
  | [], i => by simp [pm]
  | x :: w, 0 => by
    rw [pm, Nat.testBit_zero, List.getElem?_cons_zero]
    split
    · simp_all
    · simp_all
  | x :: w, i + 1 => by
    rw [pm, Nat.testBit_succ, List.getElem?_cons_succ, ← pm_bit d w i]
    have : (2 * pm d w + (if x = d then 1 else 0)) / 2 = pm d w := by split <;> omega
    rw [this]
noncomputable abbrev Dig (w : List Nat) : Prop := ∀ x ∈ w, x = 0 ∨ x = 1 ∨ x = 2
theorem all_words {n : Nat} : ∀ (k : Nat) (w u : List Nat), u.length = k → Dig u → allT n k (pm 0 w) (pm 1 w) (pm 2 w) = true → goB n (pm 0 (u.reverse ++ w)) (pm 1 (u.reverse ++ w)) (pm 2 (u.reverse ++ w)) n 1 (2 ^ n - 1) = true
  | 0, w, u, hk, _, h => by
    rw [List.length_eq_zero_iff] at hk
    subst hk
    exact h
  | k + 1, w, x :: u, hk, hd, h => by
    rw [allT_succ, Bool.and_eq_true, Bool.and_eq_true] at h
    rw [List.reverse_cons, List.append_assoc, List.singleton_append]
    refine all_words k (x :: w) u (by simpa using hk) (fun y hy => hd y (.tail _ hy)) ?_
    rcases hd x (.head _) with rfl | rfl | rfl
    · simpa [pm] using h.1.1
    · simpa [pm] using h.1.2
    · simpa [pm] using h.2
theorem pm_dec (d : Nat) (w : List Nat) (i : Nat) : (pm d w).testBit i = decide (w[i]? = some d) := by
  rw [Bool.eq_iff_iff, pm_bit, decide_eq_true_iff]
theorem dig3 {a : Nat} (h : a = 0 ∨ a = 1 ∨ a = 2) : a < 3 := by rcases h with rfl | rfl | rfl <;> decide
theorem dig2 : ∀ a : Nat, a < 3 → ∀ b : Nat, b < 3 → ((true ^^ ((decide (some a = some 0) && decide (some b = some 0)) || ((decide (some a = some 1) && decide (some b = some 1)) || (decide (some a = some 2) && decide (some b = some 2))))) = true ↔ some a ≠ some b) := by decide +kernel
theorem mism_bit {n r i : Nat} {w : List Nat} (hw : Dig w) (hn : w.length = n) (hr : r ≤ n) : (mism n (pm 0 w) (pm 1 w) (pm 2 w) r).testBit i = true ↔ i + r < n ∧ w[i]? ≠ w[i + r]? := by
  rw [mism_eq, Nat.testBit_xor, Nat.testBit_two_pow_sub_one, Nat.testBit_or, Nat.testBit_or, Nat.testBit_and, Nat.testBit_and, Nat.testBit_and, Nat.testBit_shiftRight, Nat.testBit_shiftRight, Nat.testBit_shiftRight]
  rw [Nat.add_comm r i, pm_dec, pm_dec, pm_dec, pm_dec, pm_dec, pm_dec]
  by_cases h : i + r < n
  · rw [decide_eq_true (show i < n - r by omega)]
    have e1 := List.getElem?_eq_getElem (l := w) (i := i) (by omega)
    have e2 := List.getElem?_eq_getElem (l := w) (i := i + r) (by omega)
    have d1 := hw _ (List.getElem_mem (l := w) (n := i) (by omega))
    have d2 := hw _ (List.getElem_mem (l := w) (n := i + r) (by omega))
    rw [e1, e2]
    generalize w[i] = a at d1
    generalize w[i + r] = b at d2
    rw [and_iff_right h]
    exact dig2 a (dig3 d1) b (dig3 d2)
  · rw [decide_eq_false (show ¬ i < n - r by omega)]
    have e2 := List.getElem?_eq_none (l := w) (i := i + r) (by omega)
    rw [e2]
    simp only [h, false_and, iff_false, Bool.false_xor, reduceCtorEq, decide_false, Bool.and_false, Bool.or_false, Bool.false_eq_true, not_false_eq_true]
theorem spread_bit (m c : Nat) : ∀ r, (spread r m).testBit c = true ↔ ∃ i, i < c ∧ c ≤ i + r ∧ m.testBit i = true
  | 0 => by
    constructor
    · intro h; rw [show spread 0 m = 0 from rfl, Nat.zero_testBit] at h; cases h
    · rintro ⟨i, h1, h2, _⟩; omega
  | r + 1 => by
    rw [spread_succ, Nat.testBit_or, Bool.or_eq_true, spread_bit m c r, Nat.testBit_shiftLeft, Bool.and_eq_true, decide_eq_true_iff]
    constructor
    · rintro (⟨i, h1, h2, h3⟩ | ⟨h1, h2⟩)
      · exact ⟨i, h1, by omega, h3⟩
      · exact ⟨c - (r + 1), by omega, by omega, h2⟩
    · rintro ⟨i, h1, h2, h3⟩
      by_cases h : c ≤ i + r
      · exact .inl ⟨i, h1, h, h3⟩
      · have e : i = c - (r + 1) := by omega
        exact .inr ⟨by omega, e ▸ h3⟩
theorem wins_bit (C sd : Nat) : ∀ k, wins C sd k = true → ∀ a, 1 ≤ a → a ≤ k → ∃ c, a ≤ c ∧ c < a + sd ∧ C.testBit c = true
  | 0, _, a, h1, h2 => by omega
  | k + 1, h, a, h1, h2 => by
    rw [wins_succ] at h
    cases hb : Nat.beq (C &&& ((2 ^ sd - 1) <<< (k + 1))) 0 with
    | true => rw [hb] at h; cases h
    | false =>
      rw [hb] at h
      rcases Nat.lt_or_eq_of_le h2 with h3 | h3
      · exact wins_bit C sd k h a h1 (by omega)
      · subst h3
        have hne : C &&& ((2 ^ sd - 1) <<< (k + 1)) ≠ 0 := Nat.ne_of_beq_eq_false hb
        obtain ⟨c, hc⟩ := Nat.exists_testBit_of_ne_zero hne
        rw [Nat.testBit_and, Nat.testBit_shiftLeft, Nat.testBit_two_pow_sub_one, Bool.and_eq_true, Bool.and_eq_true, decide_eq_true_iff, decide_eq_true_iff] at hc
        exact ⟨c, hc.2.1, by omega, hc.1⟩
theorem goB_all {n : Nat} {w : List Nat} (hw : Dig w) (hn : w.length = n) : ∀ (f r C : Nat), 1 ≤ r → r + f ≤ n + 1 → (∀ q, 1 ≤ q → q < r → ¬ PerOf w q) → (∀ c, C.testBit c = true → c < n ∧ ∀ q, 1 ≤ q → q < r → wcond w c q = false) →
    goB n (pm 0 w) (pm 1 w) (pm 2 w) f r C = true → ∃ p, LeastPer w p ∧ ∀ a, 1 ≤ a → a + max 1 (p - 1) ≤ n → ∃ c, a ≤ c ∧ c < a + max 1 (p - 1) ∧ ∀ q, 1 ≤ q → q < p → wcond w c q = false
  | 0, r, C, _, _, _, _, h => by cases h
  | f + 1, r, C, h1, hf, hp, hC, h => by
    rw [goB_succ] at h
    cases hb : Nat.beq (mism n (pm 0 w) (pm 1 w) (pm 2 w) r) 0 with
    | true =>
      rw [hb] at h
      have hm := Nat.eq_of_beq_eq_true hb
      have per : PerOf w r := by
        intro i hi
        apply Classical.byContradiction
        intro hne
        have := (mism_bit (i := i) hw hn (by omega)).mpr ⟨by omega, hne⟩
        rw [hm] at this
        simp at this
      have hs : cond (Nat.beq r 1) 1 (r - 1) = max 1 (r - 1) := by
        cases h9 : Nat.beq r 1 with
        | true => rw [Nat.eq_of_beq_eq_true h9]; rfl
        | false =>
          have := Nat.ne_of_beq_eq_false h9
          show r - 1 = _
          omega
      rw [hs] at h
      refine ⟨r, ⟨h1, by omega, per, hp⟩, fun a ha hs => ?_⟩
      obtain ⟨c, c1, c2, c3⟩ := wins_bit _ _ _ h a ha (by omega)
      exact ⟨c, c1, c2, (hC c c3).2⟩
    | false =>
      rw [hb] at h
      have hm : mism n (pm 0 w) (pm 1 w) (pm 2 w) r ≠ 0 := Nat.ne_of_beq_eq_false hb
      have nper : ¬ PerOf w r := by
        intro per
        obtain ⟨i, hi⟩ := Nat.exists_testBit_of_ne_zero hm
        obtain ⟨h3, h4⟩ := (mism_bit hw hn (by omega)).mp hi
        exact h4 (per i (by omega))
      refine goB_all hw hn f (r + 1) _ (by omega) (by omega) (fun q h3 h4 => ?_) (fun c hc => ?_) h
      · rcases Nat.lt_or_eq_of_le (Nat.le_of_lt_succ h4) with h5 | h5
        · exact hp q h3 h5
        · exact h5 ▸ nper
      · rw [Nat.testBit_and, Bool.and_eq_true, spread_bit] at hc
        obtain ⟨hc1, i, h5, h6, h7⟩ := hc
        have hcn := (hC c hc1).1
        refine ⟨hcn, fun q h3 h4 => ?_⟩
        rcases Nat.lt_or_eq_of_le (Nat.le_of_lt_succ h4) with h8 | h8
        · exact (hC c hc1).2 q h3 h8
        · subst h8
          obtain ⟨h9, h10⟩ := (mism_bit hw hn (by omega)).mp h7
          apply Bool.eq_false_iff.mpr
          intro hwc
          exact h10 ((wcond_iff (by omega) h1).mp hwc i h6 h5 (by omega))
/-- of as many cuts side by side as the period less one some cut is critical -/
theorem windows {w : List Nat} (hw : Dig w) (h6 : 6 ≤ w.length) (h8 : w.length ≤ 8) (hl : w[w.length - 1]? = some 0) : ∃ p, LeastPer w p ∧ ∀ a, 1 ≤ a → a + max 1 (p - 1) ≤ w.length → ∃ c, a ≤ c ∧ c < a + max 1 (p - 1) ∧ ∀ q, 1 ≤ q → q < p → wcond w c q = false := by
  have e : w = (w.take (w.length - 1)).reverse.reverse ++ [0] := by
    rw [List.reverse_reverse]
    conv => lhs; rw [← List.take_append_drop (w.length - 1) w]
    rw [List.drop_eq_getElem_cons (by omega), List.drop_eq_nil_of_le (by omega)]
    rw [List.getElem?_eq_getElem (by omega)] at hl
    rw [Option.some.inj hl]
  have hd : Dig (w.take (w.length - 1)).reverse := fun x hx => hw x (List.mem_of_mem_take (List.mem_reverse.mp hx))
  have hk : (w.take (w.length - 1)).reverse.length = w.length - 1 := by rw [List.length_reverse, List.length_take]; omega
  have key : ∀ n, w.length = n → allT n (n - 1) 1 0 0 = true → goB n (pm 0 w) (pm 1 w) (pm 2 w) n 1 (2 ^ n - 1) = true := by
    intro n hn h
    have := all_words (n := n) (n - 1) [0] _ (hn ▸ hk) hd h
    rwa [← e] at this
  have fin : ∀ n, w.length = n → goB n (pm 0 w) (pm 1 w) (pm 2 w) n 1 (2 ^ n - 1) = true → ∃ p, LeastPer w p ∧ ∀ a, 1 ≤ a → a + max 1 (p - 1) ≤ n → ∃ c, a ≤ c ∧ c < a + max 1 (p - 1) ∧ ∀ q, 1 ≤ q → q < p → wcond w c q = false := by
    intro n hn h
    refine goB_all hw hn n 1 _ (Nat.le_refl _) (by omega) (fun q h1 h2 => by omega) (fun c hc => ⟨?_, fun q h1 h2 => by omega⟩) h
    rw [Nat.testBit_two_pow_sub_one, decide_eq_true_iff] at hc
    exact hc
  have : w.length = 6 ∨ w.length = 7 ∨ w.length = 8 := by omega
  rcases this with h | h | h
  · exact h ▸ fin 6 h (key 6 h all6)
  · exact h ▸ fin 7 h (key 7 h all7)
  · exact h ▸ fin 8 h (key 8 h all8)
end Mine
end

section
set_option maxRecDepth 100000
set_option maxHeartbeats 4000000
namespace Mine
/-- the same pattern -/
noncomputable def Sim (t w : List Nat) : Prop := t.length = w.length ∧ ∀ i j, i < t.length → j < t.length → (t[i]? = t[j]? ↔ w[i]? = w[j]?)
theorem Sim.per {t w : List Nat} (s : Sim t w) (p : Nat) : PerOf t p ↔ PerOf w p := by
  unfold PerOf
  constructor
  · intro h i hi
    exact (s.2 i (i + p) (by rw [s.1]; omega) (by rw [s.1]; omega)).mp (h i (by rw [s.1]; omega))
  · intro h i hi
    exact (s.2 i (i + p) (by omega) (by omega)).mpr (h i (by rw [← s.1]; omega))
theorem Sim.wc {t w : List Nat} (s : Sim t w) {c r : Nat} (hc : c ≤ t.length) (hr : 1 ≤ r) : wcond t c r = wcond w c r := by
  rw [Bool.eq_iff_iff, wcond_iff hc hr, wcond_iff (s.1 ▸ hc) hr]
  constructor
  · intro h i h1 h2 h3
    exact (s.2 i (i + r) (by rw [s.1]; omega) (by rw [s.1]; omega)).mp (h i h1 h2 (by rw [s.1]; omega))
  · intro h i h1 h2 h3
    exact (s.2 i (i + r) (by omega) (by omega)).mpr (h i h1 h2 (by rw [← s.1]; omega))
theorem Sim.least {t w : List Nat} (s : Sim t w) {p : Nat} (h : LeastPer w p) : LeastPer t p :=
  ⟨h.1, s.1 ▸ h.2.1, (s.per p).mpr h.2.2.1, fun q h1 h2 h3 => h.2.2.2 q h1 h2 ((s.per q).mp h3)⟩
/-- the digit of a number, that of the last one being 0 -/
noncomputable def dg (z k : Int) : Nat := (k.fmod 3 - z.fmod 3).fmod 3 |>.toNat
theorem dg_dig (z k : Int) : dg z k = 0 ∨ dg z k = 1 ∨ dg z k = 2 := by
  obtain ⟨n, hn, e⟩ := fmod_nat (k.fmod 3 - z.fmod 3) (m := 3) (by decide)
  unfold dg
  rw [show (k.fmod 3 - z.fmod 3).fmod 3 = (n : Int) from e, Int.toNat_natCast]
  exact (by decide : ∀ n : Nat, n < 3 → n = 0 ∨ n = 1 ∨ n = 2) n hn
theorem dg_self (z : Int) : dg z z = 0 := by
  unfold dg
  rw [Int.sub_self]; rfl
theorem dg_inj (z k k' : Int) : dg z k = dg z k' ↔ k.fmod 3 = k'.fmod 3 := by
  unfold dg
  obtain ⟨a, ha, e1⟩ := fmod_nat z (m := 3) (by decide)
  obtain ⟨b, hb, e2⟩ := fmod_nat k (m := 3) (by decide)
  obtain ⟨c, hc, e3⟩ := fmod_nat k' (m := 3) (by decide)
  rw [show z.fmod 3 = (a : Int) from e1, show k.fmod 3 = (b : Int) from e2, show k'.fmod 3 = (c : Int) from e3]
  exact (by decide +kernel : ∀ a : Nat, a < 3 → ∀ b : Nat, b < 3 → ∀ c : Nat, c < 3 → ((((b : Int) - (a : Int)).fmod 3).toNat = (((c : Int) - (a : Int)).fmod 3).toNat ↔ (b : Int) = (c : Int))) a ha b hb c hc
theorem sg_of (T k : Int) : sg T k = ringL.getD ((T.fmod 6 + k.fmod 3).fmod 6).toNat 0 := by
  unfold sg
  congr 2
  rw [Int.fmod_eq_emod_of_nonneg (T + k.fmod 3) (by decide : (0 : Int) ≤ 6), Int.fmod_eq_emod_of_nonneg (T.fmod 6 + k.fmod 3) (by decide : (0 : Int) ≤ 6), Int.fmod_eq_emod_of_nonneg T (by decide : (0 : Int) ≤ 6)]
  exact (Int.emod_add_emod _ _ _).symm
theorem sg_inj (T k k' : Int) : sg T k = sg T k' ↔ k.fmod 3 = k'.fmod 3 := by
  rw [sg_of, sg_of]
  obtain ⟨a, ha, e1⟩ := fmod_nat T (m := 6) (by decide)
  obtain ⟨b, hb, e2⟩ := fmod_nat k (m := 3) (by decide)
  obtain ⟨c, hc, e3⟩ := fmod_nat k' (m := 3) (by decide)
  rw [show T.fmod 6 = (a : Int) from e1, show k.fmod 3 = (b : Int) from e2, show k'.fmod 3 = (c : Int) from e3]
  exact (by decide +kernel : ∀ a : Nat, a < 6 → ∀ b : Nat, b < 3 → ∀ c : Nat, c < 3 → (ringL.getD (((a : Int) + (b : Int)).fmod 6).toNat 0 = ringL.getD (((a : Int) + (c : Int)).fmod 6).toNat 0 ↔ (b : Int) = (c : Int))) a ha b hb c hc
theorem sim_sg (T z : Int) (ks : List Int) : Sim (ks.map (sg T)) (ks.map (dg z)) := by
  refine ⟨by rw [List.length_map, List.length_map], fun i j hi hj => ?_⟩
  rw [List.length_map] at hi hj
  rw [List.getElem?_map, List.getElem?_map, List.getElem?_map, List.getElem?_map, List.getElem?_eq_getElem hi, List.getElem?_eq_getElem hj]
  simp only [Option.map_some, Option.some.injEq, sg_inj, dg_inj]
theorem windows_t {T : Int} {ks : List Int} (h6 : 6 ≤ ks.length) (h8 : ks.length ≤ 8) : ∃ p, LeastPer (ks.map (sg T)) p ∧ ∀ a, 1 ≤ a → a + max 1 (p - 1) ≤ ks.length → ∃ c, a ≤ c ∧ c < a + max 1 (p - 1) ∧ ∀ q, 1 ≤ q → q < p → wcond (ks.map (sg T)) c q = false := by
  have hz : ∃ z, ks[ks.length - 1]? = some z := ⟨_, List.getElem?_eq_getElem (by omega)⟩
  obtain ⟨z, hz⟩ := hz
  have s := sim_sg T z ks
  obtain ⟨p, hp, hw⟩ := windows (w := ks.map (dg z)) (fun x hx => by obtain ⟨k, _, rfl⟩ := List.mem_map.mp hx; exact dg_dig z k) (by rw [List.length_map]; exact h6) (by rw [List.length_map]; exact h8)
    (by rw [List.length_map, List.getElem?_map, hz, Option.map_some, dg_self])
  rw [List.length_map] at hw
  refine ⟨p, s.least hp, fun a h1 h2 => ?_⟩
  obtain ⟨c, c1, c2, c3⟩ := hw a h1 h2
  exact ⟨c, c1, c2, fun q h3 h4 => by rw [s.wc (by rw [List.length_map]; omega) h3]; exact c3 q h3 h4⟩
/-- the owns of all cuts -/
noncomputable def OwnL (t : List Nat) (rs : List Nat) : Prop := rs.length = t.length ∧ ∀ c r, rs[c]? = some r → Own t c r
/-- what the law asks of the owns -/
structure Asked (t : List Nat) (rs : List Nat) (p : Nat) : Prop where
  least : LeastPer t p
  pos : ∀ r ∈ rs, 1 ≤ r
  le : ∀ r ∈ rs, r ≤ p
  has : p ∈ rs
  win : ∀ a, 1 ≤ a → a + max 1 (p - 1) ≤ t.length → p ∈ (rs.drop a).take (max 1 (p - 1))
  ends : ∃ k1 k2, koEnd 1 t = t.drop k1 ∧ koEnd (-1) t = t.drop k2 ∧ k1 < t.length ∧ k2 < t.length ∧ max k1 k2 < p ∧ rs[max k1 k2]? = some p
theorem asked {T : Int} {ks : List Int} (h6 : 6 ≤ ks.length) (h8 : ks.length ≤ 8) {rs : List Nat} (h : OwnL (ks.map (sg T)) rs) : ∃ p, Asked (ks.map (sg T)) rs p := by
  obtain ⟨p, hp, hw⟩ := windows_t (T := T) h6 h8
  have hl : (ks.map (sg T)).length = ks.length := List.length_map ..
  generalize ks.map (sg T) = t at h hp hw hl
  obtain ⟨hlen, hown⟩ := h
  obtain ⟨k1, k2, e1, e2, l1, l2, hc, hr⟩ := ends_crit (by omega) hp
  have hcrit : rs[max k1 k2]? = some p := by
    have hx : max k1 k2 < rs.length := by omega
    have := List.getElem?_eq_getElem hx
    rw [this, hr _ (hown _ _ this)]
  refine ⟨p, hp, fun r hr => ?_, fun r hr => ?_, List.mem_of_getElem? hcrit, fun a h1 h2 => ?_, k1, k2, e1, e2, l1, l2, hc, hcrit⟩
  · obtain ⟨c, hc⟩ := List.mem_iff_getElem?.mp hr
    exact (hown c r hc).1
  · obtain ⟨c, hc⟩ := List.mem_iff_getElem?.mp hr
    have : c < rs.length := (List.getElem?_eq_some_iff.mp hc).1
    exact (hown c r hc).le hp (by omega)
  · obtain ⟨c, c1, c2, c3⟩ := hw a h1 (by omega)
    have hx : c < rs.length := by omega
    have e := List.getElem?_eq_getElem hx
    have o := hown _ _ e
    have hle := o.le hp (by omega)
    have : rs[c] = p := by
      rcases Nat.lt_or_eq_of_le hle with h9 | h9
      · have := c3 _ o.1 h9
        rw [o.2.2.1] at this; cases this
      · exact h9
    rw [this] at e
    refine List.mem_of_getElem? (i := c - a) ?_
    rw [List.getElem?_take, if_pos (by omega), List.getElem?_drop, show a + (c - a) = c by omega, e]
end Mine
end

section
set_option maxRecDepth 100000
set_option maxHeartbeats 4000000
namespace Mine
section
variable {prog : Program} {w : World} {A : Around} {E : Value → Shared → Prop} {s : Shared}
theorem sum_ones_S (cs : List Nat) : (((cs.map fun c => [c]).map S).map (·.length)).sum = cs.length := by
  induction cs with
  | nil => rfl
  | cons c r ih => simp only [List.map_cons, List.sum_cons, S_len, List.length_cons, List.length_nil, ih]; omega
theorem flat_ones (cs : List Nat) : (cs.map fun c => [c]).flatten = cs := by
  induction cs with
  | nil => rfl
  | cons c r ih => simp only [List.map_cons, List.flatten_cons, List.singleton_append, ih]
theorem join_ones {l : Addr} {vs : List Value} {cs : List Nat} {x : Str} {t : Tok} {Q : Value → Shared → Prop} (hl : s.heap.IsList l vs.toArray) (hi : Strs vs (cs.map fun c => [c])) (hx : x = S []) (hc : cs.length ≤ 1000)
    (h : ∀ t' tk, Q (.str (S cs) t') { s with toks := tk }) : wpAny (model prog w) A (call (.builtin "str.join") [.str x t, .ref l]) Q E s := by
  subst hx
  refine join_list hl hi.strsAre ?_ ?_
  · rw [sum_ones_S, S_len]; simp only [List.length_nil, Nat.mul_zero]; omega
  · rw [txt_join_S, flat_ones]; exact h
end
end Mine
end

section
set_option maxRecDepth 100000
set_option maxHeartbeats 8000000
set_option tactic.hygienic false
namespace Mine
noncomputable def st11 : { P : Prop // Box P → st10.1 } := ⟨_, fun hP9 => by
  k_with_none
  w_top off
  k_with "lt" => (first | (with_reducible assumption) | (apply And.left; (first | (with_reducible assumption) | (apply And.right; (first | (with_reducible assumption) | (apply And.right; (first | (with_reducible assumption) | (apply And.right; (first | (with_reducible assumption) | (apply And.right; (first | (with_reducible assumption) | (apply And.right; (first | (with_reducible assumption) | (apply And.right; (first | (with_reducible assumption) | (apply And.right; (first | (with_reducible assumption) | (apply And.right; (first | (with_reducible assumption) | (apply And.right; (first | (with_reducible assumption) | (apply And.right; (first | (with_reducible assumption) | (apply And.right; (first | (with_reducible assumption) | (apply And.right; (first | (with_reducible assumption) | (apply And.right; (first | (with_reducible assumption) | (apply And.right; (first | (with_reducible assumption) | (apply And.right; (first | (with_reducible assumption) | (apply And.right; (first | (with_reducible assumption) | (apply And.right; (first | (with_reducible assumption) | (apply And.right; (first | (with_reducible assumption) | (apply And.right; (first | (with_reducible assumption) | (apply And.right; (first | (with_reducible assumption) | (apply And.right; (first | (with_reducible assumption) | (apply And.right; (first | (with_reducible assumption) | (apply And.right; (first | (with_reducible assumption) | (apply And.right; (first | (with_reducible assumption) | (apply And.right; (with_reducible assumption)))))))))))))))))))))))))))))))))))))))))))))))))))) | (apply And.right; (first | (with_reducible assumption) | (apply And.right; (first | (with_reducible assumption) | (apply And.right; (first | (with_reducible assumption) | (apply And.right; (first | (with_reducible assumption) | (apply And.right; (first | (with_reducible assumption) | (apply And.right; (first | (with_reducible assumption) | (apply And.right; (first | (with_reducible assumption) | (apply And.right; (first | (with_reducible assumption) | (apply And.right; (first | (with_reducible assumption) | (apply And.right; (first | (with_reducible assumption) | (apply And.right; (first | (with_reducible assumption) | (apply And.right; (first | (with_reducible assumption) | (apply And.right; (first | (with_reducible assumption) | (apply And.right; (first | (with_reducible assumption) | (apply And.right; (first | (with_reducible assumption) | (apply And.right; (first | (with_reducible assumption) | (apply And.right; (first | (with_reducible assumption) | (apply And.right; (first | (with_reducible assumption) | (apply And.right; (first | (with_reducible assumption) | (apply And.right; (first | (with_reducible assumption) | (apply And.right; (first | (with_reducible assumption) | (apply And.right; (first | (with_reducible assumption) | (apply And.right; (first | (with_reducible assumption) | (apply And.right; (first | (with_reducible assumption) | (apply And.right; (first | (with_reducible assumption) | (apply And.right; (with_reducible assumption)))))))))))))))))))))))))))))))))))))))))))))))))))))
  k_with "k_ne" => (refine neN ?_; (try dsimp only); first | k_extra "lt" | (refine Ne.symm ?_; k_extra "lt") | (refine Nat.ne_of_lt ?_; k_extra "lt") | (refine Nat.ne_of_gt ?_; k_extra "lt") | (refine Nat.ne_of_lt (Nat.lt_add_right _ ?_); k_extra "lt") | (refine Nat.ne_of_gt (Nat.lt_add_right _ ?_); k_extra "lt") | (refine Nat.ne_of_lt (Nat.lt_add_right _ (Nat.lt_add_right _ ?_)); k_extra "lt") | (refine Nat.ne_of_gt (Nat.lt_add_right _ (Nat.lt_add_right _ ?_)); k_extra "lt") | (refine cell_ne2 ?_; decide) | (refine cell_ne ?_; k_extra "lt") | (refine Ne.symm (cell_ne ?_); k_extra "lt"))
  k_with "exec While Compare cons nil" => (((rename_i zz1 zz2 zz3 zz4 zz5 zz6 zz7 zz8 zz9; revert w mg mb fa pm cd doc w_7 w_8 w_9 w_10 p9 loose9 mean9 dr os0 g0 K' T9 L0 l0 zz1 o' D'_3 ws'_2 tk_1 h'_8 o'_1 ks hI'_2 hk8 hkb T d' lD mB v7 c7 v8 c8 v9 c9 v10 c10 tk9 d0 g' ys a D' h' zz2 o1' h'_1 i' hl h zz3 vn vs t9 hwl x h'_2 tk'_1 it kt ps' ht O ox lx h'_3 o'_2 d'_1 tk_2 hw5 hPo g9 ys1 it1 na1 k kt1 hk hL hS D h_1 tk_3 hO hn hn0 off h'_4 tk'_2 it' kt' na' k' t'_1 hr' hk' t'_2 tk'_3 tk_4 hLT hN4 hD4 X' t' tk' zz4 zz5 zz6 tk zz7 zz8 zz9; exact hP9.out)))
  intro w; revert w; (set_option tactic.hygienic true in intros)
  rename_i w mg mb fa pm cd doc w_7 w_8 w_9 w_10 p9 loose9 mean9 dr os0 g0 K' T9 L0 l0 t' o' D'_3 ws'_2 tk_1 h'_8 o'_1 ks hI'_2 hk8 hkb T d' lD mB v7 c7 v8 c8 v9 c9 v10 c10 tk9 d0 g' ys a D' h' tk' o1' h'_1 i' hl h tk vn vs t9 hwl x h'_2 tk'_1 it kt ps' ht O ox lx h'_3 o'_2 d'_1 tk_2 hw5 hPo g9 ys1 it1 na1 k kt1 hk hL hS D h_1 tk_3 hO hn hn0 hP1 off X' h'_4 tk'_2 it' kt' na' k' t'_1 hr' hk' F' N' t'_2 tk'_3 tk_4
  have hLT : @LT.lt Nat _ (L0 + 4) x.cT := by clear off o1'; omega
  have hN4 := led_ne_all O.ord hLT
  have hD4 : @Ne Nat (L0 + 4) D := by
    obtain ⟨e1, e2, e3, e4, e5, e6, e7, e8, e9, e10, e11, e12, e13, e14, e15, e16, e17, e18, e19, e20, e21⟩ := off
    exact e16
  clear hP1
  revert X'; k_fill; intro X'
  refine join_ones (cs := ks.map (sg T)) (News.isList (n := ys1.length) (by assumption) (by k_mem)) (by rw [List.map_map]; exact hS) empty_S (by rw [List.length_map]; omega) ?_
  intro t' tk'
  w_strict (k_steps)⟩
end Mine
end

section
set_option maxRecDepth 100000
set_option maxHeartbeats 4000000
namespace Mine
section
variable {w : World} {p : Program} {loose : List Str} {mean : ExcName → Option Value} {mg mb : Str → Option Value} {dp un : Nat} {gd : Option (List Code)} {cn : Str} {cs : Scope} {a : Addr} {ccd : Value} {cl : List (Str × Addr)} {outer : List Env} {A₀ : Around} {base h₀ : Heap} {L : Addr} {m : Str → Option Value} {s : Shared} {Q E : Value → Shared → Prop}
theorem under_tc (v : Value) : (ktrTop dp un gd cn cs L a ccd cl outer).under (.builtin "type.__call__" ⟨[.ref 101, v], []⟩) = ktrTop (dp + 1) (un + 1) gd cn cs L a ccd cl outer := by
  unfold Around.under
  have h1 : (Code.builtin "type.__call__" ⟨[.ref 101, v], []⟩).guards = [] := rfl
  have h2 : (Code.builtin "type.__call__" ⟨[.ref 101, v], []⟩).envs = [] := rfl
  rw [h1, h2]
  rfl
/-- _Accumulator(i) -/
theorem acc_led (B : Below A₀ base outer h₀) (F : Fr h₀ L s.heap m) (X : (Mine.hd.heap_39 w.params).In h₀) (T : Top p loose mean mg mb h₀) (hk : cs.kind = .function) (hd : dp + 2 < recursionLimit) (hu : un + 9 < cLine)
    {news : List (Addr × Obj)} {i : Int} {it : Tok} (N : News h₀ L s.heap news) (hm : makesInL (Mine.hd.heap_39 w.params) = true)
    (hi : findIn (Mine.hd.heap_39 w.params) (.ref 101) (Str.ofString "__init__") = some (some (.ref 38))) (hf : isFn (Mine.hd.heap_39 w.params) (.ref 38) = true)
    (hret : ∀ x dx h' tk' hh kt, Fr h₀ L h' m → News h₀ L h' ((x, accObj dx [] 0) :: (dx, dictOf [⟨hh, .str (Str.ofString "_initial_size") kt, .int i it⟩] 1) :: news) → (∀ p ∈ news, @LT.lt Nat _ p.1 dx) → @LT.lt Nat _ dx x → Q (.ref x) { s with heap := h', toks := tk' }) :
    wpAny (model PySem.Challenge.rw_re0059_01.prog w) (ktrTop dp un gd cn cs L a ccd cl outer) (call (.ref 101) [.int i it]) Q E s := by
  refine make_L F X N hm hi hf fun x dx h' F' N' l1 l2 => ?_
  rw [under_tc]
  refine acc_init_spec (s := { s with heap := h' }) B F' X T hk (by omega) (by omega) (News.sub N' fun q hq => ?_) (Nat.ne_of_gt l2) ?_
  · simp only [List.mem_cons, List.not_mem_nil, or_false] at hq ⊢
    rcases hq with h | h
    · exact .inl h
    · exact .inr (.inl h)
  · intro h2 tk' hh kt k H
    refine ⟨rfl, hret x dx h2 tk' hh kt ?_ ?_ l1 l2⟩
    · refine Fr.step F' N' k fun b hb => ?_
      simp only [List.mem_cons, List.not_mem_nil, or_false] at hb
      rcases hb with rfl | rfl
      · exact ⟨_, .head _⟩
      · exact ⟨_, .tail _ (.head _)⟩
    · refine News.step N' k fun q hq => ?_
      rcases List.mem_cons.mp hq with rfl | hq
      · exact .inr ⟨H.get (.head _), _, .head _⟩
      · rcases List.mem_cons.mp hq with rfl | hq
        · exact .inr ⟨H.get (.tail _ (.head _)), _, .tail _ (.head _)⟩
        · refine .inl ⟨.tail _ (.tail _ hq), ?_⟩
          have := l1 q hq
          simp only [List.mem_cons, List.not_mem_nil, or_false, not_or]
          exact ⟨Nat.ne_of_lt (Nat.lt_trans this l2), Nat.ne_of_lt this⟩
end
end Mine
end

section
set_option maxRecDepth 100000
set_option maxHeartbeats 8000000
set_option tactic.hygienic false
namespace Mine
theorem ring_dot {T : Int} {ks : List Int} : ∀ y ∈ ks.map (sg T), y ≠ 46 := by
  intro y hy
  obtain ⟨k, _, rfl⟩ := List.mem_map.mp hy
  have := sg_mem T k
  intro e
  rw [e] at this
  revert this; decide
noncomputable def st12 : { P : Prop // Box P → st11.1 } := ⟨_, fun hP9 => by
  intro w; revert w; (set_option tactic.hygienic true in intros)
  rename_i w mg mb fa pm cd doc w_7 w_8 w_9 w_10 p9 loose9 mean9 dr os0 g0 K' T9 L0 l0 t' o' D'_3 ws'_2 tk_1 h'_8 o'_1 ks hI'_2 hk8 hkb T d' lD mB v7 c7 v8 c8 v9 c9 v10 c10 tk9 d0 g' ys a D' h' tk' o1' h'_1 i' hl h tk vn vs t9 hwl x h'_2 tk'_1 it kt ps' ht O ox lx h'_3 o'_2 d'_1 tk_2 hw5 hPo g9 ys1 it1 na1 k kt1 hk hL hS D h_1 tk_3 hO hn hn0 off h'_4 tk'_2 it' kt' na' k' t'_1 hr' hk' t'_2 tk'_3 tk_4 hLT hN4 hD4 X' t'_3 tk'_4 h'_5 o'_3 d'_2 tk_5 h'_6 F' N'
  have ht8 : 6 ≤ (ks.map (sg T)).length ∧ (ks.map (sg T)).length ≤ 8 := by rw [List.length_map]; exact hk8
  have hAsk : ∀ rs, OwnL (ks.map (sg T)) rs → ∃ p, Asked (ks.map (sg T)) rs p := fun rs h => asked hk8.1 hk8.2 h
  have hPer : ∃ p, LeastPer (ks.map (sg T)) p := let ⟨p, h, _⟩ := windows_t (T := T) hk8.1 hk8.2; ⟨p, h⟩
  have hdot : ∀ y ∈ ks.map (sg T), y ≠ 46 := ring_dot
  replace hS : Strs ys1 ((ks.map (sg T)).map fun c => [c]) := by rw [List.map_map]; exact hS
  have hO2 : Out (List.drop k' x.t) [] [] := by rw [hr']; exact .eof
  have N2 := News.sub (new := (D, LCg.lst ys1) :: (x.led (1 + nl x.t - nl (List.drop k x.t) + nl (List.drop k x.t) - nl []) it' [] 0 k' kt' na' ++ [(L0 + 1, o'), (L0 + 3, o'_2), (L0 + 4, o'_3), (L0 + 5, w_8), (L0 + 6, w_7), (156, tabObj ps'), (70, tabObj #[]), (63, tabObj #[])])) N' (by
    dsimp only [Lx.led, List.cons_append, List.nil_append]
    (repeat' (first | exact List.forall_mem_nil _ | refine List.forall_mem_cons.mpr ⟨?_, ?_⟩))
    all_goals k_mem)
  have hPo2 : PreL x [(L0 + 1, o'), (L0 + 3, o'_2), (L0 + 4, o'_3), (L0 + 5, w_8), (L0 + 6, w_7), (156, tabObj ps'), (70, tabObj #[]), (63, tabObj #[])] := by
    clear o1' off N' N2 F'
    refine prel_lt O.ord ?_
    simp only [List.forall_mem_cons]
    refine ⟨?_, ?_, ?_, ?_, ?_, ?_, ?_, ?_, List.forall_mem_nil _⟩ <;> (refine ltN ?_; omega)
  have mD : ∃ mC : Str → Option Value, Fr g0 L0 h'_6 (fun y => if y = Str.ofString "period" then some (Value.int 1 tk_5) else if y = Str.ofString "heard" then some (Value.ref D) else mC y) := ⟨_, F'⟩
  have lT : @LT.lt Nat _ (L0 + 6) x.cT := by omega
  have off2 : LCg.Off1 D (x.led (1 + nl x.t - nl (List.drop k x.t) + nl (List.drop k x.t) - nl []) it' [] 0 k' kt' na' ++ [(L0 + 1, o'), (L0 + 3, o'_2), (L0 + 4, o'_3), (L0 + 5, w_8), (L0 + 6, w_7), (156, tabObj ps'), (70, tabObj #[]), (63, tabObj #[])]) := by
    obtain ⟨e1, e2, e3, e4, e5, e6, e7, e8, e9, e10, e11, e12, e13, e14, e15, e16, e17, e18, e19, e20, e21⟩ := off
    exact ⟨e1, e2, e3, e4, e5, e6, e7, e8, e9, e10, e13, e15, e16, e17, e18, e19, e20, e21, trivial⟩
  generalize (1 + nl x.t - nl (List.drop k x.t) + nl (List.drop k x.t) - nl []) = li at N2 off2
  clear F' N' hPo off hn hO hL hk8 hI'_2 hkb hk hl hw5 o1' lx a hwl ht hr' lD hn0 c9 c10 d0
  generalize ks.map (sg T) = t at *
  obtain ⟨mC, F⟩ := mD
  clear h' tk' h'_1 i' h_1 tk h'_2 tk'_1 it kt h'_3 tk_2 g9 tk_3 h'_4 tk'_2 t'_1 t'_2 tk'_3 tk_4 tk'_4 h'_5 g' ks ws'_2 D'_3 tk_1 h'_8 o'_1 w_9 w_10 v9 v10 tk9 ys D' vn vs t9 h it1 na1 k kt1
  (revert w mg mb fa pm cd doc w_7 w_8 p9 loose9 mean9 dr os0 g0 K' T9 L0 l0 t' o' T d' mB v7 c7 v8 c8 x ps' O ox o'_2 d'_1 ys1 D it' kt' na' k' hk' hLT hN4 hD4 X' t'_3 o'_3 tk_5 h'_6 hO2 hPo2 lT li N2 off2 t d'_2 ht8 hAsk hPer hdot hS mC F; exact hP9.out)⟩
end Mine
end

section
set_option maxRecDepth 100000
set_option maxHeartbeats 4000000
namespace Mine
theorem makes101 (w : World) : makesInL (Mine.hd.heap_39 w.params) = true := by kernel_rfl
end Mine
end

section
set_option maxRecDepth 100000
set_option maxHeartbeats 8000000
set_option tactic.hygienic false
namespace Mine
theorem per_eq {t : List Nat} {p : Nat} (h : PerOf t p) : S (t.drop (p : Int).toNat) = S (t.take (((S t).length : Int) - (p : Int)).toNat) := by
  rw [S_len, show ((t.length : Int) - (p : Int)).toNat = t.length - p by omega, Int.toNat_natCast, per_test.mpr h]
theorem per_ne {t : List Nat} {p : Nat} (h : ¬ PerOf t p) : S (t.drop (p : Int).toNat) ≠ S (t.take (((S t).length : Int) - (p : Int)).toNat) := by
  rw [S_len, show ((t.length : Int) - (p : Int)).toNat = t.length - p by omega, Int.toNat_natCast]
  exact fun e => h (per_test.mp (S_inj e))
section
variable {prog : Program} {w : World} {A : Around} {E : Value → Shared → Prop} {s : Shared}
theorem ne_str_diff {x y : Str} {t u : Tok} {Q : Value → Shared → Prop} (e : x ≠ y) (h : Q (.bool true) s) : wpAny (model prog w) A (compareOp .NotEq (.str x t) (.str y u)) Q E s :=
  PyProof.Rows.ne_str (by rw [bne_iff_ne.mpr e]; exact h)
end
noncomputable abbrev perM (p : Nat) (tok : Tok) (mC : Str → Option Value) : Str → Option Value := fun y => if y = Str.ofString "period" then some (Value.int (p : Int) tok) else mC y
theorem perM_upd {p q : Nat} {tok u : Tok} {mC : Str → Option Value} : (fun y => if y = Str.ofString "period" then some (Value.int (q : Int) u) else perM p tok mC y) = perM q u mC := by
  funext y
  simp only [perM]
  split <;> rfl
noncomputable def st13 : { P : Prop // Box P → st12.1 } := ⟨_, fun hP9 => by
  k_with_none
  w_top off
  k_with "lt" => (first | (with_reducible assumption) | (apply And.left; (first | (with_reducible assumption) | (apply And.right; (first | (with_reducible assumption) | (apply And.right; (first | (with_reducible assumption) | (apply And.right; (first | (with_reducible assumption) | (apply And.right; (first | (with_reducible assumption) | (apply And.right; (first | (with_reducible assumption) | (apply And.right; (first | (with_reducible assumption) | (apply And.right; (first | (with_reducible assumption) | (apply And.right; (first | (with_reducible assumption) | (apply And.right; (first | (with_reducible assumption) | (apply And.right; (first | (with_reducible assumption) | (apply And.right; (first | (with_reducible assumption) | (apply And.right; (first | (with_reducible assumption) | (apply And.right; (first | (with_reducible assumption) | (apply And.right; (first | (with_reducible assumption) | (apply And.right; (first | (with_reducible assumption) | (apply And.right; (first | (with_reducible assumption) | (apply And.right; (first | (with_reducible assumption) | (apply And.right; (first | (with_reducible assumption) | (apply And.right; (first | (with_reducible assumption) | (apply And.right; (first | (with_reducible assumption) | (apply And.right; (first | (with_reducible assumption) | (apply And.right; (first | (with_reducible assumption) | (apply And.right; (first | (with_reducible assumption) | (apply And.right; (first | (with_reducible assumption) | (apply And.right; (with_reducible assumption)))))))))))))))))))))))))))))))))))))))))))))))))))) | (apply And.right; (first | (with_reducible assumption) | (apply And.right; (first | (with_reducible assumption) | (apply And.right; (first | (with_reducible assumption) | (apply And.right; (first | (with_reducible assumption) | (apply And.right; (first | (with_reducible assumption) | (apply And.right; (first | (with_reducible assumption) | (apply And.right; (first | (with_reducible assumption) | (apply And.right; (first | (with_reducible assumption) | (apply And.right; (first | (with_reducible assumption) | (apply And.right; (first | (with_reducible assumption) | (apply And.right; (first | (with_reducible assumption) | (apply And.right; (first | (with_reducible assumption) | (apply And.right; (first | (with_reducible assumption) | (apply And.right; (first | (with_reducible assumption) | (apply And.right; (first | (with_reducible assumption) | (apply And.right; (first | (with_reducible assumption) | (apply And.right; (first | (with_reducible assumption) | (apply And.right; (first | (with_reducible assumption) | (apply And.right; (first | (with_reducible assumption) | (apply And.right; (first | (with_reducible assumption) | (apply And.right; (first | (with_reducible assumption) | (apply And.right; (first | (with_reducible assumption) | (apply And.right; (first | (with_reducible assumption) | (apply And.right; (first | (with_reducible assumption) | (apply And.right; (first | (with_reducible assumption) | (apply And.right; (with_reducible assumption)))))))))))))))))))))))))))))))))))))))))))))))))))))
  k_with "k_ne" => (refine neN ?_; (try dsimp only); first | k_extra "lt" | (refine Ne.symm ?_; k_extra "lt") | (refine Nat.ne_of_lt ?_; k_extra "lt") | (refine Nat.ne_of_gt ?_; k_extra "lt") | (refine Nat.ne_of_lt (Nat.lt_add_right _ ?_); k_extra "lt") | (refine Nat.ne_of_gt (Nat.lt_add_right _ ?_); k_extra "lt") | (refine Nat.ne_of_lt (Nat.lt_add_right _ (Nat.lt_add_right _ ?_)); k_extra "lt") | (refine Nat.ne_of_gt (Nat.lt_add_right _ (Nat.lt_add_right _ ?_)); k_extra "lt") | (refine cell_ne2 ?_; decide) | (refine cell_ne ?_; k_extra "lt") | (refine Ne.symm (cell_ne ?_); k_extra "lt"))
  k_with "subscriptTail Name Slice str ref" => ((k_here; (with_reducible show wpAny _ _ (subscriptTail _ (PySem.Expr.Slice (some _) none none _) _ _) _ _ _); k_dflt (refine' sub_S_sn ?q9F ?q9N ?q9h ?q9z ?_ ?q9s ?q9t; (case q9F => k_asm); (case q9N => k_asm); (case q9h => omega); (case q9z => omega); (case q9s => with_unfolding_all rfl); (case q9t => first | (intro _; with_unfolding_all rfl))); intro h' t' k' F' N'); (try (revert h' t' k' F' N'; set_option tactic.hygienic true in intros)))
  k_with "subscriptTail Name Slice str ref" => ((k_here; (with_reducible show wpAny _ _ (subscriptTail _ (PySem.Expr.Slice none (some _) none _) _ _) _ _ _); k_dflt (refine' sub_S_ns ?q9F ?q9N ?q9h ?q9z ?_ ?q9s ?q9t; (case q9F => k_asm); (case q9N => k_asm); (case q9h => omega); (case q9z => omega); (case q9s => with_unfolding_all rfl); (case q9t => first | (intro _; with_unfolding_all rfl))); intro h' t' k' F' N'); (try (revert h' t' k' F' N'; set_option tactic.hygienic true in intros)))
  k_with "compareOp NotEq str str" => ((k_here; first | exact ne_str_same (per_eq hper) ?_ | exact ne_str_diff (per_ne hper) ?_ | refine ne_str_same (per_eq hper) ?_ | refine ne_str_diff (per_ne hper) ?_))
  k_with "WhileStep" => ((k_here; k_dflt (refine' WhileStep.intro ?q9F ?q9N ?q9n ⟨rfl, p + 1, _, ?q9a, ?q9b, ?q9c, perM_upd⟩; (case q9F => k_asm); (case q9N => k_asm); (case q9a => exact rfl); (case q9n => omega); (case q9b => omega); (case q9c => exact hlt))))
  k_with "call ref" => ((k_here; (try dsimp only [List.cons_append, List.nil_append, List.append_nil]); (with_reducible show wpAny _ _ (call (Value.ref 101) _) _ _ _); k_dflt (refine' acc_led ?q9B ?q9F ?q9X ?q9T ?q9k ?q9d ?q9u ?q9N ?q9m ?q9i ?q9f ?_; (case q9B => k_asm); (case q9F => k_asm); (case q9X => k_asm); (case q9T => k_asm); (case q9k => exact rfl); (case q9d => ktr_room); (case q9u => ktr_units); (case q9N => k_asm); (case q9m => exact makes101 _); (case q9i => k_is); (case q9f => k_is); k_whole); intro x' d' h' tk' hh' kt' F' N' l1 l2; (try k_lt l1); (try k_lt2 l2); (try k_sweep)); (try (revert x' d' h' tk' hh' kt' F' N' l1 l2; set_option tactic.hygienic true in intros)))
  k_with "exec Assign cons ListComp" => (((rename_i zz1 zz2 zz3 zz4 zz5 zz6 zz7 zz8 zz9 zz10 zz11 zz12 zz13 zz14 zz15 zz16 zz17 zz18 zz19; revert w mg mb fa pm cd doc w_7 w_8 p9 loose9 mean9 dr os0 g0 K' T9 L0 l0 t' o' T d' mB v7 c7 v8 c8 x ps' O ox o'_2 d'_1 ys1 D it' kt' na' k' hk' hLT hN4 hD4 t'_3 o'_3 tk_5 h'_6 hO2 hPo2 lT li off2 t d'_2 ht8 hAsk hdot hS mC htl nD hN5 X' h₁ tk₁ p tok hp1 hpl hper hP hpP zz1 zz2 zz3 zz4 zz5 zz6 zz7 zz8 zz9 zz10 zz11 zz12 zz13 zz14 zz15 zz16 zz17 zz18 zz19 tk; exact hP9.out)))
  intro w; revert w; (set_option tactic.hygienic true in intros)
  rename_i w mg mb fa pm cd doc w_7 w_8 p9 loose9 mean9 dr os0 g0 K' T9 L0 l0 t' o' T d' mB v7 c7 v8 c8 x ps' O ox o'_2 d'_1 ys1 D it' kt' na' k' hk' hLT hN4 hD4 X' t'_3 o'_3 tk_5 h'_6 hO2 hPo2 lT li N2 off2 t d'_2 ht8 hAsk hPer hdot hS mC F
  obtain ⟨P, hP⟩ := hPer
  have htl : (S t).length = t.length := S_len t
  have nD : (@Ne Nat (L0 + 5) D) ∧ (@Ne Nat (L0 + 6) D) := by
    obtain ⟨e1, e2, e3, e4, e5, e6, e7, e8, e9, e10, e13, e15, e16, e17, e18, e19, e20, e21, _⟩ := off2
    exact ⟨e17, e18⟩
  have hN5 := led_ne_all O.ord (c := L0 + 5) (Nat.lt_trans (Nat.lt_succ_self (L0 + 5)) lT)
  revert X'; k_fill; intro X'
  refine While_inv (fun n m news => news = (D, LCg.lst ys1) :: (x.led li it' [] 0 k' kt' na' ++ [(L0 + 1, o'), (L0 + 3, o'_2), (L0 + 4, o'_3), (L0 + 5, w_8), (L0 + 6, w_7), (156, tabObj ps'), (70, tabObj #[]), (63, tabObj #[])]) ∧ ∃ (p : Nat) (tok : Tok), n = P - p ∧ 1 ≤ p ∧ p ≤ P ∧ m = perM p tok (fun y => if y = Str.ofString "heard" then some (Value.ref D) else mC y)) F N2 ⟨rfl, 1, _, rfl, Nat.le_refl _, hP.1, rfl⟩ ?_
  rintro n m₁ news₁ h₁ tk₁ F₁ N₁ ⟨rfl, p, tok, rfl, hp1, hpP, rfl⟩
  have hpl : p ≤ t.length := Nat.le_trans hpP hP.2.1
  clear F N2
  by_cases hper : PerOf t p
  · have e : p = P := by
      rcases Nat.lt_or_eq_of_le hpP with h | h
      · exact absurd hper (hP.2.2.2 p hp1 h)
      · exact h
    subst e
    dsimp only [Lx.led, List.cons_append, List.nil_append] at N₁
    w_strict (k_steps)
  · have hlt : p + 1 ≤ P := by
      rcases Nat.lt_or_eq_of_le hpP with h | h
      · exact h
      · exact absurd (h ▸ hP.2.2.1) hper
    dsimp only [Lx.led, List.cons_append, List.nil_append] at N₁
    w_strict (k_steps)⟩
end Mine
end

section
set_option maxRecDepth 100000
set_option maxHeartbeats 4000000
namespace Mine
/-- the pieces: their tuples on the ledger, the list's values, the signs -/
inductive PieceL : List (Addr × Obj) → List Value → List Nat → Prop
  | nil : PieceL [] [] []
  | snoc {Tl : List (Addr × Obj)} {ys : List Value} {cs : List Nat} (T : Addr) (o : Obj) (c : Nat) (fa fb : List Nat) (ta tb : Tok) (n : Nat) : PieceL Tl ys cs → o.cls = .type "tuple" → o.data = .seq #[.str (S fa) ta, .str (S fb) tb] n → fa ++ fb = [c] → PieceL (Tl ++ [(T, o)]) (ys ++ [.ref T]) (cs ++ [c])
end Mine
namespace Mine
theorem piece_end {h₀ h' : Heap} {L I C D T ax : Addr} {m : Str → Option Value} {s₁ : Shared} {oI oC oD o : Obj} {base Tl : List (Addr × Obj)} {ys vs : List Value} {t : List Nat} {i c n tk : Nat} {fa fb : List Nat} {xa xb : Str} {ta tb : Tok}
    (F : Fr h₀ L h' m) (N : News h₀ L h' ((T, o) :: (I, oI) :: (C, oC) :: (D, oD) :: (base ++ Tl))) (off : LCg.Off3 I C D (base ++ Tl)) (lt : (@LT.lt Nat _ I T) ∧ (@LT.lt Nat _ C T) ∧ (@LT.lt Nat _ D T)) (hm : (ax, LCg.lst vs) ∈ base) (hP : PieceL Tl ys (t.take i)) (hc : t[i]? = some c)
    (ho : o.cls = .type "tuple") (hd : o.data = .seq #[.str xa ta, .str xb tb] n) (ea : xa = S fa) (eb : xb = S fb) (hf : fa ++ fb = [c]) :
    LCg.CompEnd h₀ L m s₁ I oI C oC D oD (LCg.SrcAt h₀ ax vs.toArray) (fun y nw' => ∃ Tl', PieceL Tl' (ys ++ [y]) (t.take (i + 1)) ∧ nw' = base ++ Tl') (.ref T) { s₁ with heap := h', toks := tk } := by
  subst ea eb
  refine LCg.CompEnd.intro F N (base ++ (Tl ++ [(T, o)])) ?_ ?_ ?_ ⟨_, ?_, rfl⟩
  · intro p hp
    simp only [List.mem_cons, List.mem_append, List.not_mem_nil, or_false] at hp ⊢
    rcases hp with h | h | h | h | h | h
    · exact .inr (.inl h)
    · exact .inr (.inr (.inl h))
    · exact .inr (.inr (.inr (.inl h)))
    · exact .inr (.inr (.inr (.inr (.inl h))))
    · exact .inr (.inr (.inr (.inr (.inr h))))
    · exact .inl h
  · refine LCg.Off3.of fun p hp => ?_
    simp only [List.mem_append, List.mem_singleton] at hp
    rcases hp with h | h | h
    · exact off.mem p (List.mem_append_left _ h)
    · exact off.mem p (List.mem_append_right _ h)
    · subst h; exact ⟨Nat.ne_of_gt lt.1, Nat.ne_of_gt lt.2.1, Nat.ne_of_gt lt.2.2⟩
  · exact .inr ⟨_, List.mem_append_left _ hm, rfl, _, rfl⟩
  · rw [List.take_add_one, hc, Option.toList_some]
    exact hP.snoc T o c fa fb ta tb n ho hd hf
end Mine
end

section
set_option maxRecDepth 100000
set_option maxHeartbeats 8000000
set_option tactic.hygienic false
namespace Mine
noncomputable def st14 : { P : Prop // Box P → st13.1 } := ⟨_, fun hP9 => by
  k_with_none
  w_top off
  k_with "lt" => (first | (with_reducible assumption) | (apply And.left; (first | (with_reducible assumption) | (apply And.right; (first | (with_reducible assumption) | (apply And.right; (first | (with_reducible assumption) | (apply And.right; (first | (with_reducible assumption) | (apply And.right; (first | (with_reducible assumption) | (apply And.right; (first | (with_reducible assumption) | (apply And.right; (first | (with_reducible assumption) | (apply And.right; (first | (with_reducible assumption) | (apply And.right; (first | (with_reducible assumption) | (apply And.right; (first | (with_reducible assumption) | (apply And.right; (first | (with_reducible assumption) | (apply And.right; (first | (with_reducible assumption) | (apply And.right; (first | (with_reducible assumption) | (apply And.right; (first | (with_reducible assumption) | (apply And.right; (first | (with_reducible assumption) | (apply And.right; (first | (with_reducible assumption) | (apply And.right; (first | (with_reducible assumption) | (apply And.right; (first | (with_reducible assumption) | (apply And.right; (first | (with_reducible assumption) | (apply And.right; (first | (with_reducible assumption) | (apply And.right; (first | (with_reducible assumption) | (apply And.right; (first | (with_reducible assumption) | (apply And.right; (first | (with_reducible assumption) | (apply And.right; (first | (with_reducible assumption) | (apply And.right; (first | (with_reducible assumption) | (apply And.right; (with_reducible assumption)))))))))))))))))))))))))))))))))))))))))))))))))))) | (apply And.right; (first | (with_reducible assumption) | (apply And.right; (first | (with_reducible assumption) | (apply And.right; (first | (with_reducible assumption) | (apply And.right; (first | (with_reducible assumption) | (apply And.right; (first | (with_reducible assumption) | (apply And.right; (first | (with_reducible assumption) | (apply And.right; (first | (with_reducible assumption) | (apply And.right; (first | (with_reducible assumption) | (apply And.right; (first | (with_reducible assumption) | (apply And.right; (first | (with_reducible assumption) | (apply And.right; (first | (with_reducible assumption) | (apply And.right; (first | (with_reducible assumption) | (apply And.right; (first | (with_reducible assumption) | (apply And.right; (first | (with_reducible assumption) | (apply And.right; (first | (with_reducible assumption) | (apply And.right; (first | (with_reducible assumption) | (apply And.right; (first | (with_reducible assumption) | (apply And.right; (first | (with_reducible assumption) | (apply And.right; (first | (with_reducible assumption) | (apply And.right; (first | (with_reducible assumption) | (apply And.right; (first | (with_reducible assumption) | (apply And.right; (first | (with_reducible assumption) | (apply And.right; (first | (with_reducible assumption) | (apply And.right; (first | (with_reducible assumption) | (apply And.right; (first | (with_reducible assumption) | (apply And.right; (with_reducible assumption)))))))))))))))))))))))))))))))))))))))))))))))))))))
  k_with "k_ne" => (refine neN ?_; (try dsimp only); first | k_extra "lt" | (refine Ne.symm ?_; k_extra "lt") | (refine Nat.ne_of_lt ?_; k_extra "lt") | (refine Nat.ne_of_gt ?_; k_extra "lt") | (refine Nat.ne_of_lt (Nat.lt_add_right _ ?_); k_extra "lt") | (refine Nat.ne_of_gt (Nat.lt_add_right _ ?_); k_extra "lt") | (refine Nat.ne_of_lt (Nat.lt_add_right _ (Nat.lt_add_right _ ?_)); k_extra "lt") | (refine Nat.ne_of_gt (Nat.lt_add_right _ (Nat.lt_add_right _ ?_)); k_extra "lt") | (refine cell_ne2 ?_; decide) | (refine cell_ne ?_; k_extra "lt") | (refine Ne.symm (cell_ne ?_); k_extra "lt"))
  k_with "eval ListComp" => ((k_here; k_dflt (refine LCg.ListComp_U (F₀ := by k_asm) (by with_unfolding_all rfl) (by decide) (by rfl) (by decide) (by rfl) ?_)))
  k_with "CompSrc" => (((revert w mg mb fa pm cd doc w_7 w_8 p9 loose9 mean9 dr os0 g0 K' T9 L0 l0 t' o' T d' mB v7 c7 v8 x ps' O ox o'_2 d'_1 ys1 D it' kt' na' k' hk' hLT hN4 hD4 t'_3 o'_3 tk_5 h'_6 hO2 lT li off2 t d'_2 ht8 hAsk hdot hS mC htl hN5 h₁ tk₁ p tok hp1 hpl hper hP hpP h' t'_1 k'_1 h'_1 t'_2 k'_2 x' d'_3 h'_2 tk' hh' kt'_1 l1 l2 h'_3 o'_1 F' N' d'_4 tk X'; exact hP9.out)))
  intro w; revert w; (set_option tactic.hygienic true in intros)
  rename_i w mg mb fa pm cd doc w_7 w_8 p9 loose9 mean9 dr os0 g0 K' T9 L0 l0 t' o' T d' mB v7 c7 v8 c8 x ps' O ox o'_2 d'_1 ys1 D it' kt' na' k' hk' hLT hN4 hD4 t'_3 o'_3 tk_5 h'_6 hO2 hPo2 lT li off2 t d'_2 ht8 hAsk hdot hS mC htl nD hN5 X' h₁ tk₁ p tok hp1 hpl hper hP hpP h' t'_1 k'_1 h'_1 t'_2 k'_2 x' d'_3 h'_2 tk' hh' kt'_1 l1 l2 h'_3 o'_1 F' N' d'_4 tk
  clear nD c8 hPo2
  revert X'; k_fill; intro X'
  w_strict (k_steps)⟩
end Mine
end

section
set_option maxRecDepth 100000
set_option maxHeartbeats 8000000
set_option tactic.hygienic false
namespace Mine
theorem litWs : Str.ofString " \n" = S [32, 10] := by decide +kernel
noncomputable def st15 : { P : Prop // Box P → st14.1 } := ⟨_, fun hP9 => by
  k_with_none
  w_top off
  k_with "lt" => (first | (with_reducible assumption) | (apply And.left; (first | (with_reducible assumption) | (apply And.right; (first | (with_reducible assumption) | (apply And.right; (first | (with_reducible assumption) | (apply And.right; (first | (with_reducible assumption) | (apply And.right; (first | (with_reducible assumption) | (apply And.right; (first | (with_reducible assumption) | (apply And.right; (first | (with_reducible assumption) | (apply And.right; (first | (with_reducible assumption) | (apply And.right; (first | (with_reducible assumption) | (apply And.right; (first | (with_reducible assumption) | (apply And.right; (first | (with_reducible assumption) | (apply And.right; (first | (with_reducible assumption) | (apply And.right; (first | (with_reducible assumption) | (apply And.right; (first | (with_reducible assumption) | (apply And.right; (first | (with_reducible assumption) | (apply And.right; (first | (with_reducible assumption) | (apply And.right; (first | (with_reducible assumption) | (apply And.right; (first | (with_reducible assumption) | (apply And.right; (first | (with_reducible assumption) | (apply And.right; (first | (with_reducible assumption) | (apply And.right; (first | (with_reducible assumption) | (apply And.right; (first | (with_reducible assumption) | (apply And.right; (first | (with_reducible assumption) | (apply And.right; (first | (with_reducible assumption) | (apply And.right; (first | (with_reducible assumption) | (apply And.right; (with_reducible assumption)))))))))))))))))))))))))))))))))))))))))))))))))))) | (apply And.right; (first | (with_reducible assumption) | (apply And.right; (first | (with_reducible assumption) | (apply And.right; (first | (with_reducible assumption) | (apply And.right; (first | (with_reducible assumption) | (apply And.right; (first | (with_reducible assumption) | (apply And.right; (first | (with_reducible assumption) | (apply And.right; (first | (with_reducible assumption) | (apply And.right; (first | (with_reducible assumption) | (apply And.right; (first | (with_reducible assumption) | (apply And.right; (first | (with_reducible assumption) | (apply And.right; (first | (with_reducible assumption) | (apply And.right; (first | (with_reducible assumption) | (apply And.right; (first | (with_reducible assumption) | (apply And.right; (first | (with_reducible assumption) | (apply And.right; (first | (with_reducible assumption) | (apply And.right; (first | (with_reducible assumption) | (apply And.right; (first | (with_reducible assumption) | (apply And.right; (first | (with_reducible assumption) | (apply And.right; (first | (with_reducible assumption) | (apply And.right; (first | (with_reducible assumption) | (apply And.right; (first | (with_reducible assumption) | (apply And.right; (first | (with_reducible assumption) | (apply And.right; (first | (with_reducible assumption) | (apply And.right; (first | (with_reducible assumption) | (apply And.right; (first | (with_reducible assumption) | (apply And.right; (with_reducible assumption)))))))))))))))))))))))))))))))))))))))))))))))))))))
  k_with "k_ne" => (refine neN ?_; (try dsimp only); first | k_extra "lt" | (refine Ne.symm ?_; k_extra "lt") | (refine Nat.ne_of_lt ?_; k_extra "lt") | (refine Nat.ne_of_gt ?_; k_extra "lt") | (refine Nat.ne_of_lt (Nat.lt_add_right _ ?_); k_extra "lt") | (refine Nat.ne_of_gt (Nat.lt_add_right _ ?_); k_extra "lt") | (refine Nat.ne_of_lt (Nat.lt_add_right _ (Nat.lt_add_right _ ?_)); k_extra "lt") | (refine Nat.ne_of_gt (Nat.lt_add_right _ (Nat.lt_add_right _ ?_)); k_extra "lt") | (refine cell_ne2 ?_; decide) | (refine cell_ne ?_; k_extra "lt") | (refine Ne.symm (cell_ne ?_); k_extra "lt"))
  k_with "compareOp In str str" => ((k_here; first | exact in_litT litWs (by assumption) ?_ | exact in_litF litWs (by assumption) ?_ | refine in_litT litWs (by assumption) ?_ | refine in_litF litWs (by assumption) ?_))
  k_with "CompEnd" => ((k_here; k_dflt (refine' piece_end ?q9F ?q9N off ?q9t ?q9m hPL hc ?q9o ?q9d ?q9a ?q9b ?q9f; (case q9F => k_asm); (case q9N => k_asm); (case q9t => (refine ⟨?_, ?_, ?_⟩ <;> (refine ltN ?_; omega))); (case q9m => exact .tail _ (.tail _ (.head _))); (case q9o => exact rfl); (case q9d => exact rfl); (case q9a => with_reducible first | exact empty_S | exact rfl); (case q9b => with_reducible first | exact empty_S | exact rfl); (case q9f => exact rfl))))
  intro w; revert w; (set_option tactic.hygienic true in intros)
  rename_i w mg mb fa pm cd doc w_7 w_8 p9 loose9 mean9 dr os0 g0 K' T9 L0 l0 t' o' T d' mB v7 c7 v8 x ps' O ox o'_2 d'_1 ys1 D it' kt' na' k' hk' hLT hN4 hD4 t'_3 o'_3 tk_5 h'_6 hO2 lT li off2 t d'_2 ht8 hAsk hdot hS mC htl hN5 h₁ tk₁ p tok hp1 hpl hper hP hpP h' t'_1 k'_1 h'_1 t'_2 k'_2 x' d'_3 h'_2 tk' hh' kt'_1 l1 l2 h'_3 o'_1 F' N' d'_4 tk X'
  revert X'; k_fill; intro X'
  have hl1 : ys1.length = t.length := by rw [hS.len, List.length_map]
  refine LCg.CompSrc.ledger (by rfl) (by k_asm) (by k_asm) (by k_mem) (by rw [PySem.sizeLine_eq, List.size_toArray, hl1]; omega) ?_
  intro g9
  refine comp_inv (fun i ys nw => ∃ Tl, PieceL Tl ys (t.take i) ∧ nw = [(x', accObj d'_3 [] 0), (d'_3, dictOf [⟨hh', .str (Str.ofString "_initial_size") kt'_1, .int (T.fmod 3) _⟩] 1), (D, LCg.lst ys1)] ++ x.led li it' [] 0 k' kt' na' ++ [(L0 + 1, o'), (L0 + 3, o'_2), (L0 + 4, o'_3), (L0 + 5, o'_1), (L0 + 6, w_7), (156, tabObj ps'), (70, tabObj #[]), (63, tabObj #[])] ++ Tl) ⟨[], .nil, rfl⟩ ?_ ?_
  · rintro i v I oI C oC D m₂ ys2 nw h tk E' hi hv ⟨Tl, hPL, rfl⟩ hC hx F N off ne
    obtain ⟨l, u, rfl, hl⟩ := Strs.at hS i v (by simpa using hv)
    rw [List.getElem?_map] at hl
    obtain ⟨c, hc, rfl⟩ := Option.map_eq_some_iff.mp hl
    clear N'
    dsimp only [Lx.led, List.cons_append, List.nil_append] at N
    by_cases hw : c ∈ [32, 10]
    · w_strict (k_steps)
    · w_strict (k_steps)
  · rintro ys2 nw ⟨Tl, hPL, rfl⟩ D2 h tk F N off
    clear F' N'
    rw [List.size_toArray, hl1, List.take_length] at hPL
    (rename_i zz1; revert w mg mb fa pm cd doc w_7 w_8 p9 loose9 mean9 dr os0 g0 K' T9 L0 l0 t' o' T d' mB v7 c7 v8 x ps' O ox o'_2 d'_1 ys1 D it' kt' na' k' hk' hLT hN4 hD4 t'_3 o'_3 tk_5 h'_6 hO2 lT li off2 t d'_2 ht8 hAsk hdot hS mC htl hN5 h₁ tk₁ p tok hp1 hpl hper hP hpP h' t'_1 k'_1 h'_1 t'_2 k'_2 x' d'_3 h'_2 tk' hh' kt'_1 l1 l2 h'_3 o'_1 d'_4 zz1 X' hl1 g9 ys2 Tl hPL D2 h tk F N off; exact hP9.out)⟩
end Mine
end

section
set_option maxRecDepth 100000
set_option maxHeartbeats 4000000
namespace Mine
open PySem.Calls PySem.Builtin
section
variable {prog : Program} {w : World} {A : Around} {E : Value → Shared → Prop} {s : Shared} {h₀ : Heap} {L : Addr} {m : Str → Option Value} {env : Env}
/-- what stands between two turns of a comprehension over a range whose turns may make generators -/
structure CgAt (h₀ : Heap) (L : Addr) (m : Str → Option Value) (os : OsState) (I C D : Addr) (n i : Nat) (ys : List Value) (nw : List (Addr × Obj)) (s' : Shared) : Prop where
  le : i ≤ n
  len : ys.length = i
  iter : IsRangeIter s'.heap I (0 + (i : Nat) * 1) ((n : Int) - (i : Nat)) 1
  fr : Fr h₀ L s'.heap m
  ns : ∃ m', s'.heap.Ns C m'
  news : News h₀ L s'.heap ((D, LCg.lst ys) :: nw)
  off : LCg.Off3 I C D nw
  bare : AllBare s'.gens
  os : s'.os = os
/-- a turn's end -/
noncomputable def CgEnd (h₀ : Heap) (L : Addr) (m : Str → Option Value) (os : OsState) (I : Addr) (oI : Obj) (C : Addr) (oC : Obj) (D : Addr) (oD : Obj) (rest : Value → List (Addr × Obj) → Prop) (y : Value) (s₂ : Shared) : Prop :=
  ∃ nw', Fr h₀ L s₂.heap m ∧ News h₀ L s₂.heap ((I, oI) :: (C, oC) :: (D, oD) :: nw') ∧ LCg.Off3 I C D nw' ∧ AllBare s₂.gens ∧ s₂.os = os ∧ rest y nw'
noncomputable def CgTurn (prog : Program) (w : World) (A : Around) (h₀ : Heap) (L : Addr) (m : Str → Option Value) (os : OsState) (env : Env) (elt : Expr) (x : Str) (scope : Scope) (cl : List (Str × Addr)) (n : Nat) (J : Nat → List Value → List (Addr × Obj) → Prop) : Prop :=
  ∀ i t I oI C oC D m₂ ys nw (s' : Shared) (E' : Value → Shared → Prop), i < n → J i ys nw → LCg.NsObj oC m₂ → m₂ x = some (.int (i : Nat) t) → Fr h₀ L s'.heap m → News h₀ L s'.heap ((I, oI) :: (C, oC) :: (D, LCg.lst ys) :: nw) → LCg.Off3 I C D nw → ((@Ne Nat I C) ∧ (@Ne Nat I D) ∧ (@Ne Nat C D)) → AllBare s'.gens → s'.os = os →
    wpAny (model prog w) A (eval elt (compEnvC scope cl C env)) (CgEnd h₀ L m os I oI C oC D (LCg.lst ys) (fun y nw' => J (i + 1) (ys ++ [y]) nw')) E' s'
theorem cg_loop {elt iter : Expr} {x : Str} {px : Pos} {scope : Scope} {cl : List (Str × Addr)} {pos : Pos} {n : Nat} {os : OsState} {J : Nat → List Value → List (Addr × Obj) → Prop} {R : Result → Shared → Prop} {I C D : Addr}
    (hh : A.handled = none) (hsz : n ≤ sizeLine) (hkind : scope.kind = .function) (hx : scope.names.lookup x = some .local)
    (hI : I ≠ C ∧ I ≠ D ∧ C ≠ D) (nL : L ≠ I ∧ C ≠ L ∧ D ≠ L) (new : h₀.get? I = none ∧ h₀.get? C = none ∧ h₀.get? D = none)
    (turn : CgTurn prog w A h₀ L m os env elt x scope cl n J)
    (fin : ∀ ys nw s', CgAt h₀ L m os I C D n n ys nw s' → J n ys nw → ∀ h', (∀ b o, b ≠ I → s'.heap.get? b = some o → h'.get? b = some o) → ∀ tk, R (.ok .next) { s' with heap := h', toks := tk })
    {nw : List (Addr × Obj)} {s' : Shared} (at0 : CgAt h₀ L m os I C D n 0 [] nw s') (h0 : J 0 [] nw) :
    codeAny (model prog w) A (.compLoop (.ListComp elt [⟨.Name x px, iter, [], 0⟩] scope pos) 0 (.ref I) (.ref D) (compEnvC scope cl C env)) R s' := by
  have W := LCg.range_walks (prog := prog) (w := w) (I := I) hh 0 n
  refine codeAny_compLoop_tests (fun k s₁ => ∃ i ys nw, k = n - i ∧ CgAt h₀ L m os I C D n i ys nw s₁ ∧ J i ys nw) ?_ n ⟨0, [], nw, rfl, at0, h0⟩
  rintro k s₁ ⟨i, ys, nw, rfl, a, hJ⟩
  by_cases hlt : i < n
  · refine W.item i _ _ _ hlt a.iter fun v h₂ tk₂ hP st₂ k₂ => ?_
    obtain ⟨t, rfl⟩ := hP
    have k2 : ∀ b o, b ≠ I → s₁.heap.get? b = some o → h₂.get? b = some o := fun b o hb e => k₂ b o (by simpa using hb) e
    obtain ⟨m', hn⟩ := a.ns
    refine wpAny_assign_Name (wpAny_storeName_local (lookup_relabel_local hx) (hn.at' fun o e => k2 C o hI.1.symm e) (fun h₃ hn₃ hs₃ => ?_) (by simp [compEnvC, relabel, hkind]))
    refine wpAny_tests_nil ?_
    simp only [if_true]
    have k3 : ∀ b o, b ≠ C → h₂.get? b = some o → h₃.get? b = some o := fun b o hb e => hs₃.extBut b o hb e
    have it₃ : h₃.get? I = some _ := k3 I _ hI.1 st₂
    obtain ⟨oC, heC, hoC⟩ := LCg.ns_obj hn₃
    have F₃ : Fr h₀ L h₃ m := (LCg.fr_but a.fr (fun b o hb e => k2 b o (by simpa using hb) e) nL.1 new.1).change hs₃ nL.2.1 new.2.1
    have N₃ : News h₀ L h₃ ((I, _) :: (C, oC) :: (D, LCg.lst ys) :: nw) := fun p hp => by
      rcases List.mem_cons.mp hp with rfl | hp
      · exact ⟨it₃, nL.1.symm, new.1⟩
      rcases List.mem_cons.mp hp with rfl | hp
      · exact ⟨heC, nL.2.1, new.2.1⟩
      have z := a.news p hp
      have ne : p.1 ≠ I ∧ p.1 ≠ C := by
        rcases List.mem_cons.mp hp with rfl | hp
        · exact ⟨hI.2.1.symm, hI.2.2.symm⟩
        · exact ⟨(a.off.mem p hp).1, (a.off.mem p hp).2.1⟩
      exact ⟨k3 _ _ ne.2 (k2 _ _ ne.1 z.1), z.2⟩
    have hv : (fun y => if y = x then some (Value.int (0 + (i : Int)) t) else m' y) x = some (.int (i : Nat) t) := by show (if x = x then some (Value.int (0 + (i : Int)) t) else m' x) = _; rw [if_pos rfl, Int.zero_add]
    refine wpAny_mono (turn i t I _ C oC D _ ys nw _ _ hlt hJ hoC hv F₃ N₃ a.off hI a.bare a.os) (fun y s₄ h₄ => ?_) fun _ _ e => e
    obtain ⟨nw', F₄, N₄, off₄, b₄, o₄, J₄⟩ := h₄
    have zI := (N₄ (I, _) (.head _)).1
    have zC := (N₄ (C, oC) (.tail _ (.head _))).1
    have zD := (N₄ (D, LCg.lst ys) (.tail _ (.tail _ (.head _)))).1
    refine append_at (hsz := by show ys.toArray.size ≤ sizeLine; rw [List.size_toArray, a.len]; exact Nat.le_trans a.le hsz) zD fun h₅ hs₅ hD₅ => ?_
    have k5 : ∀ b o, b ≠ D → s₄.heap.get? b = some o → h₅.get? b = some o := fun b o hb e => hs₅.extBut b o hb e
    refine ⟨n - (i + 1), by omega, i + 1, ys ++ [y], nw', rfl, ⟨hlt, by rw [List.length_append, List.length_singleton, a.len], k5 I _ hI.2.1 zI, F₄.change hs₅ nL.2.2 new.2.2, ⟨_, (hoC.ns zC).sameBut hs₅ hI.2.2⟩, fun p hp => ?_, off₄, b₄, o₄⟩, J₄⟩
    rcases List.mem_cons.mp hp with rfl | hp
    · exact ⟨hD₅.trans (congrArg some (LCg.lst_snoc ys y)), nL.2.2, new.2.2⟩
    · have z := N₄ p (.tail _ (.tail _ (.tail _ hp)))
      exact ⟨k5 _ _ (off₄.mem p hp).2.2 z.1, z.2⟩
  · have e : i = n := Nat.le_antisymm a.le (Nat.not_lt.mp hlt)
    subst e
    exact W.done _ _ _ a.iter fun h₂ tk₂ k₂ => fin ys nw s₁ a hJ h₂ (fun b o hb e => k₂ b o (by simpa using hb) e) tk₂
noncomputable def CgSrc (prog : Program) (w : World) (A : Around) (h₀ : Heap) (L : Addr) (m : Str → Option Value) (os : OsState) (env : Env) (elt : Expr) (x y : Str) (scope : Scope) (cl : List (Str × Addr)) (n : Nat) (J : Nat → List Value → List (Addr × Obj) → Prop) (Q : Flow → Shared → Prop) (xv : Value) (s₁ : Shared) : Prop :=
  ∃ r b t u v nw, xv = .ref r ∧ A.handled = none ∧ Fr h₀ L s₁.heap m ∧ News h₀ L s₁.heap nw ∧ IsRange s₁.heap r 0 b 1 t u v ∧ Builtin.Range.small 0 b 1 = true ∧ Builtin.Range.rangeSize 0 b 1 = ((n : Nat) : Int) ∧ n ≤ sizeLine ∧ AllBare s₁.gens ∧ s₁.os = os ∧ J 0 [] nw ∧
      CgTurn prog w A h₀ L m os env elt x scope cl n J ∧
      ∀ D ys nw s', J n ys nw → Fr h₀ L s'.heap (fun z => if z = y then some (.ref D) else m z) → News h₀ L s'.heap ((D, LCg.lst ys) :: nw) → LCg.Off1 D nw → AllBare s'.gens → s'.os = os → Q .next s'
/-- y = [.. for x in range(n)], whose turns may make generators -/
theorem Assign_range_G {elt iter : Expr} {x y : Str} {px py : Pos} {scope : Scope} {cl : List (Str × Addr)} {pos spos : Pos} {Q : Flow → Shared → Prop} {n : Nat} {os : OsState} {J : Nat → List Value → List (Addr × Obj) → Prop} (hLe : env.locals = L)
    (hsw : swapsWith (.ListComp elt [⟨.Name x px, iter, [], 0⟩] scope pos) (some (.Name y py)) spos.line env = pure true)
    (hclos : closureFor scope env = pure cl) (hcell : ∀ z ∈ scope.names, z.2 ≠ .cell) (hkind : scope.kind = .function)
    (hnames : ∀ z ∈ scope.names, z.2 = .local → scope.names.lookup z.1 = some .local) (hx : scope.names.lookup x = some .local)
    (hy : env.kindOf y = some .local) (hp : (env.scope.kind == .class || (env.scope.kind == .module && env.locals != env.globals)) = false)
    (h : wpAny (model prog w) A (eval iter env) (CgSrc prog w A h₀ L m os env elt x y scope cl n J Q) E s)
    (hs : ∀ x, foldedSetIterable iter env x = pure x := by intro _; rfl) :
    wpAny (model prog w) A (exec (.Assign [.Name y py] (.ListComp elt [⟨.Name x px, iter, [], 0⟩] scope pos) spos) env) Q E s := by
  subst hLe
  rw [exec_Assign_Name_used _ _ _ _ hsw]
  refine wpAny_bind (wpAny_standAt (wpAny_bind ?_))
  show wpAny _ A (do let _ ← comprehension (.ListComp elt [⟨.Name x px, iter, [], 0⟩] scope pos) scope env _ (newList []) false (eval iter env) (some (assign (.Name y py) env))) _ _ s
  refine wpAny_bind (wpAny_mono (wpAny_comprehension_free (use := some (assign (.Name y py) env)) (Q := fun _ s' => Q .next s') rfl hs hclos hkind hnames
    (wpAny_mono h (fun xv s₁ h₁ => ?_) fun _ _ e => e)) (fun _ s' hq => wpAny_pure (wpAny_pure hq)) fun _ _ e => e)
  obtain ⟨r, b, t, u, v, nw, rfl, hh, F, N, hr, hsm, hn, hsz, hb, ho, hJ, turn, fin⟩ := h₁
  refine wpAny_pyIter_range hr hsm ?_
  rw [hn]
  -- the three new objects
  generalize hI : s₁.heap.objs.size = I
  have it1 : (s₁.heap.push (riObj 0 n)).get? I = some (riObj 0 n) := hI ▸ Heap.get?_push_size _ rfl
  have FI : Fr h₀ env.locals (s₁.heap.push (riObj 0 n)) m := F.push _
  have NI : News h₀ env.locals (s₁.heap.push (riObj 0 n)) nw := N.grown fun _ _ e => Heap.get?_push_of_some _ e
  have ltI : ∀ p ∈ nw, p.1 < I := fun p hp => hI ▸ Heap.lt_size (N p hp).1
  have LI : env.locals < I := hI ▸ F.ns.lt
  show wpAny _ _ (newList []) _ _ { s₁ with heap := s₁.heap.push (riObj 0 n) }
  generalize hH : s₁.heap.push (riObj 0 n) = H at it1 FI NI ⊢
  have sH : H.objs.size = I + 1 := by rw [← hH, Heap.size_push, hI]
  refine wpAny_newObj_type (wpAny_newFunctionEnv hcell (by intro y hy; simp at hy) (fun h₁ hns₁ hsb₁ => ?_) hkind)
  dsimp only at hns₁ hsb₁ ⊢
  generalize hD : H.objs.size = D at hns₁ hsb₁ ⊢
  have eD : D = I + 1 := hD ▸ sH
  generalize hH2 : H.push { cls := .type "list", dict := none, data := .seq ([] : List Value).toArray } = H2 at hns₁ hsb₁ ⊢
  generalize hC : H2.objs.size = C at hns₁ hsb₁ ⊢
  have eC : C = D + 1 := by rw [← hC, ← hH2, Heap.size_push, hD]
  have up2 : ∀ b o, H.get? b = some o → H2.get? b = some o := fun b o e => hH2 ▸ Heap.get?_push_of_some _ e
  have up : ∀ b o, b ≠ C → H2.get? b = some o → h₁.get? b = some o := fun b o hb e => hsb₁.extBut b o hb (Heap.get?_push_of_some _ e)
  have upH : ∀ b o, H.get? b = some o → h₁.get? b = some o := fun b o e => up b o (by have t9 : @LT.lt Nat _ b D := hD ▸ Heap.lt_size e; exact Nat.ne_of_lt (by omega)) (up2 b o e)
  have fresh : ∀ a, env.locals ≤ a → h₀.get? a = none := fun a ha => by
    cases e : h₀.get? a with
    | none => rfl
    | some o => exact absurd (Nat.lt_of_lt_of_le (Heap.lt_size e) F.above) (Nat.not_lt.mpr ha)
  have LI' : @LT.lt Nat _ env.locals I := LI
  have neICD : I ≠ C ∧ I ≠ D ∧ C ≠ D := ⟨Nat.ne_of_lt (by omega), Nat.ne_of_lt (by omega), Nat.ne_of_gt (by omega)⟩
  have neL : env.locals ≠ I ∧ C ≠ env.locals ∧ D ≠ env.locals := ⟨Nat.ne_of_lt LI', Nat.ne_of_gt (by omega), Nat.ne_of_gt (by omega)⟩
  have new : h₀.get? I = none ∧ h₀.get? C = none ∧ h₀.get? D = none := ⟨fresh _ (Nat.le_of_lt LI'), fresh _ (by show @LE.le Nat _ _ _; omega), fresh _ (by show @LE.le Nat _ _ _; omega)⟩
  have hacc : h₁.get? D = some (LCg.lst []) := up D _ neICD.2.2.symm (hH2 ▸ hD ▸ Heap.get?_push_size _ rfl)
  have off0 : LCg.Off3 I C D nw := LCg.Off3.of fun p hp => by
    have := ltI p hp
    have : @LT.lt Nat _ p.1 I := this
    exact ⟨Nat.ne_of_lt (by omega), Nat.ne_of_lt (by omega), Nat.ne_of_lt (by omega)⟩
  have start : CgAt h₀ env.locals m os I C D n 0 [] nw { s₁ with heap := h₁, toks := s₁.toks + ([] : List (Str × Value)).length } := by
    refine ⟨Nat.zero_le _, rfl, ?_, FI.keeps upH, ⟨_, hns₁⟩, fun p hp => ?_, off0, hb, ho⟩
    · show h₁.get? I = _
      rw [upH I _ it1]
      simp [riObj]
    · rcases List.mem_cons.mp hp with rfl | hp
      · exact ⟨hacc, neL.2.2, new.2.2⟩
      · exact ⟨upH _ _ (NI p hp).1, (NI p hp).2⟩
  have loop := fun R (fin' : ∀ ys nw s', CgAt h₀ env.locals m os I C D n n ys nw s' → J n ys nw → ∀ h', (∀ b o, b ≠ I → s'.heap.get? b = some o → h'.get? b = some o) → ∀ tk, R (.ok .next) { s' with heap := h', toks := tk }) =>
    cg_loop (prog := prog) (w := w) (elt := elt) (iter := iter) (px := px) (pos := pos) (R := R) hh hsz hkind hx neICD neL new turn fin' start hJ
  have W := LCg.range_walks (prog := prog) (w := w) (I := I) hh 0 n
  refine codeAny_compStart_list (loop _ ?fin) (W.self 0 _ _ _ start.iter (loop _ ?fin))
  intro ys nw' s' a hJ' h' k tk
  obtain ⟨m', hn'⟩ := a.ns
  have hnC := hn'.at' fun o e => k C o neICD.1.symm e
  have F' : Fr h₀ env.locals h' m := LCg.fr_but a.fr (fun b o hb e => k b o (by simpa using hb) e) neL.1 new.1
  have N' : News h₀ env.locals h' ((D, LCg.lst ys) :: nw') := LCg.news_but a.news (fun b o hb e => k b o (by simpa using hb) e) fun p hp => by
    rcases List.mem_cons.mp hp with rfl | hp
    · exact neICD.2.1.symm
    · exact (a.off.mem p hp).1
  show wpAny _ A (assign (.Name y py) env (.ref D)) _ _ _
  refine wpAny_assign_Name (wpAny_storeName_local hy F'.ns (fun h₂ hn₂ hs₂ => ?_) hp)
  have F₂ : Fr h₀ env.locals h₂ (fun z => if z = y then some (.ref D) else m z) := ⟨hn₂, fun b o e => hs₂.extBut b o (fun q => by rw [q, fresh _ (Nat.le_refl _)] at e; cases e) (F'.keep b o e), F'.above⟩
  refine ⟨m', hnC.sameBut hs₂ neL.2.1, fun h'' hs'' => fin D ys nw' _ hJ' (F₂.change hs'' neL.2.1 new.2.1) (fun p hp => ?_) a.off.one a.bare a.os⟩
  have z : h₂.get? p.1 = some p.2 := hs₂.extBut _ _ (N' p hp).2.1 (N' p hp).1
  refine ⟨hs''.extBut _ _ ?_ z, (N' p hp).2⟩
  rcases List.mem_cons.mp hp with rfl | hp
  · exact neICD.2.2.symm
  · exact (a.off.mem p hp).2.1
end
end Mine
end

section
set_option maxRecDepth 100000
set_option maxHeartbeats 4000000
namespace Mine
theorem PreOk.of {x dx : Addr} : ∀ {l : List (Addr × Obj)}, (∀ p ∈ l, p.1 ≠ x ∧ p.1 ≠ dx ∧ p.1 ≠ 70 ∧ p.1 ≠ 63) → PreOk x dx l
  | [], _ => trivial
  | _ :: _, h => ⟨h _ (.head _), PreOk.of fun p hp => h p (.tail _ hp)⟩
theorem PreOk.app {x dx : Addr} {l r : List (Addr × Obj)} (h1 : PreOk x dx l) (h2 : PreOk x dx r) : PreOk x dx (l ++ r) := PreOk.of fun p hp => by
  have key : p.1 ∉ [x, dx, 70, 63] := by
    rcases List.mem_append.mp hp with h | h
    · exact h1.mem p h
    · exact h2.mem p h
  simpa only [List.mem_cons, List.not_mem_nil, or_false, not_or] using key
/-- the facts of the pieces -/
structure PieceF (Tl : List (Addr × Obj)) (ys : List Value) (cs : List Nat) (Ts : Nat → Addr) (fa fb : Nat → List Nat) (ta tb : Nat → Tok) : Prop where
  vals : ys = pv Ts 0 cs.length
  pairs : ∀ h : Heap, (∀ p ∈ Tl, h.get? p.1 = some p.2) → Pairs h cs.length Ts fa fb ta tb
  one : ∀ k, (fa k).length + (fb k).length ≤ 1
  sign : ∀ k, k < cs.length → fa k ++ fb k = [cs.getD k 0]
theorem PieceL.cls {Tl : List (Addr × Obj)} {ys : List Value} {cs : List Nat} (h : PieceL Tl ys cs) : ∀ p ∈ Tl, p.2.cls = .type "tuple" := by
  induction h with
  | nil => intro p hp; cases hp
  | snoc T o c fa fb ta tb n _ ho hd hf ih =>
    intro p hp
    rcases List.mem_append.mp hp with h | h
    · exact ih p h
    · rw [List.mem_singleton.mp h]; exact ho
theorem PieceL.facts {Tl : List (Addr × Obj)} {ys : List Value} {cs : List Nat} (h : PieceL Tl ys cs) : ∃ Ts fa fb ta tb, PieceF Tl ys cs Ts fa fb ta tb := by
  induction h with
  | nil => exact ⟨fun _ => 0, fun _ => [], fun _ => [], fun _ => 0, fun _ => 0, rfl, fun h _ k hk => absurd hk (Nat.not_lt_zero _), fun _ => by simp, fun k hk => absurd hk (Nat.not_lt_zero _)⟩
  | @snoc Tl ys cs T o c fa fb ta tb n _ ho hd hf ih =>
    obtain ⟨Ts, Fa, Fb, Ta, Tb, hv, hp, h1, hs⟩ := ih
    refine ⟨fun k => if k = cs.length then T else Ts k, fun k => if k = cs.length then fa else Fa k, fun k => if k = cs.length then fb else Fb k, fun k => if k = cs.length then ta else Ta k, fun k => if k = cs.length then tb else Tb k, ?_, ?_, ?_, ?_⟩
    · rw [hv]
      unfold pv
      rw [List.length_append, List.length_singleton, List.range_succ, List.map_append]
      congr 1
      · apply List.map_congr_left
        intro k hk
        simp only [Nat.zero_add]
        rw [if_neg (Nat.ne_of_lt (List.mem_range.mp hk))]
      · simp
    · intro h hT k hk
      rw [List.length_append, List.length_singleton] at hk
      by_cases e : k = cs.length
      · subst e
        simp only [if_pos]
        exact ⟨o, hT (T, o) (List.mem_append_right _ (.head _)), ho, n, hd⟩
      · simp only [if_neg e]
        exact hp h (fun p hp => hT p (List.mem_append_left _ hp)) k (by omega)
    · intro k
      by_cases e : k = cs.length
      · simp only [if_pos e]
        have := congrArg List.length hf
        simp only [List.length_append, List.length_singleton] at this
        omega
      · simp only [if_neg e]; exact h1 k
    · intro k hk
      rw [List.length_append, List.length_singleton] at hk
      by_cases e : k = cs.length
      · simp only [if_pos e]
        rw [hf, e, List.getD_eq_getElem?_getD, List.getElem?_append_right (Nat.le_refl _), Nat.sub_self]; rfl
      · simp only [if_neg e]
        rw [hs k (by omega), List.getD_eq_getElem?_getD, List.getD_eq_getElem?_getD, List.getElem?_append_left (by omega)]
section
variable {w : World} {p : Program} {loose : List Str} {mean : ExcName → Option Value} {mg mb : Str → Option Value} {dp un : Nat} {gd : Option (List Code)} {cn : Str} {cs : Scope} {a : Addr} {ccd : Value} {cl : List (Str × Addr)} {outer : List Env} {A₀ : Around} {base h₀ : Heap} {L : Addr} {m : Str → Option Value} {s : Shared} {Q E : Value → Shared → Prop}
/-- _law_own on the ledger -/
theorem own_led (pre : List (Addr × Obj)) {rest : List (Addr × Obj)} (B : Below A₀ base outer h₀) (F : Fr h₀ L s.heap m) (X : (Mine.hd.heap_39 w.params).In h₀) (T : Top p loose mean mg mb h₀) (hk : cs.kind = .function) (hd : dp + 2 < recursionLimit) (hu : un + 40 < cLine)
    {x dx pl : Addr} {vs ys : List Value} {n : Nat} {hh : Int} {kt it tt tc : Tok} {i0 : Int} {ps qs : Array Value} {t : List Nat} {c : Nat} {Tl : List (Addr × Obj)} {Ts : Nat → Addr} {fa fb : Nat → List Nat} {ta tb : Nat → Tok}
    (N : News h₀ L s.heap (pre ++ (fam x dx vs n hh kt it i0 ps qs ++ rest))) (P : PreOk x dx pre) (P' : PreOk x dx rest) (hpl : (pl, LCg.lst ys) ∈ rest) (hTl : ∀ p ∈ Tl, p ∈ rest) (PF : PieceF Tl ys t Ts fa fb ta tb)
    (hz : vs.length ≤ 1000) (htr : TriplesOk ps.toList) (htq : TriplesOk qs.toList) (hB : AllBare s.gens) (hdot : ∀ y ∈ t, y ≠ 46) (hc : c < t.length) (ht : t.length ≤ 8)
    (hret : ∀ s' r t' vs' n' i' it' ps' qs', Own t c r → Fr h₀ L s'.heap m → News h₀ L s'.heap (pre ++ (fam x dx vs' n' hh kt it' i' ps' qs' ++ rest)) → vs'.length ≤ 1000 → TriplesOk ps'.toList → TriplesOk qs'.toList → AllBare s'.gens → s'.os = s.os → Q (.int (r : Nat) t') s') :
    wpAny (model PySem.Challenge.rw_re0059_01.prog w) (ktrTop dp un gd cn cs L a ccd cl outer) (call (.ref 173) [.ref x, .ref pl, .str (S t) tt, .int c tc]) Q E s := by
  have sub : ∀ {f : List (Addr × Obj)}, ∀ q ∈ (pre ++ rest) ++ f, q ∈ pre ++ (f ++ rest) := fun q hq => by
    simp only [List.mem_append] at hq ⊢
    rcases hq with (h | h) | h
    · exact .inl h
    · exact .inr (.inr h)
    · exact .inr (.inl h)
  have sub' : ∀ {f : List (Addr × Obj)}, ∀ q ∈ pre ++ (f ++ rest), q ∈ (pre ++ rest) ++ f := fun q hq => by
    simp only [List.mem_append] at hq ⊢
    rcases hq with h | h | h
    · exact .inl (.inl h)
    · exact .inr h
    · exact .inl (.inr h)
  have N1 := News.sub N sub
  have P1 := P.app P'
  have ne := fam_ne N1
  have inR : ∀ q ∈ rest, s.heap.get? q.1 = some q.2 := fun q hq => (N q (List.mem_append_right _ (List.mem_append_right _ hq))).1
  have hL : s.heap.IsList pl (pv Ts 0 t.length).toArray := by
    rw [← PF.vals]
    exact ⟨_, inR _ hpl, rfl, _, rfl⟩
  refine own_spec B F X T hk hd hu (fam_sub N1) ne.1.1 hz htr htq hB hL (PF.pairs _ fun q hq => inR q (hTl q hq)) PF.one PF.sign hdot hc ht ?_
  · intro s' r t' vs' n' i' it' ps' qs' h1 h2 h3 h4 k H z tr tq b o
    obtain ⟨F', N'⟩ := fam_step F N1 P1 k H
    exact hret s' r t' vs' n' i' it' ps' qs' ⟨h1, h2, h3, h4⟩ F' (News.sub N' sub') z tr tq b o
/-- between the turns of owns -/
noncomputable def OwnsJ (t : List Nat) (x dx : Addr) (hh : Int) (kt : Tok) (rest : List (Addr × Obj)) (i : Nat) (ys : List Value) (nw : List (Addr × Obj)) : Prop :=
  ∃ (vs : List Value) (n : Nat) (it : Tok) (i0 : Int) (ps qs : Array Value) (rs : List Nat), nw = fam x dx vs n hh kt it i0 ps qs ++ rest ∧ vs.length ≤ 1000 ∧ TriplesOk ps.toList ∧ TriplesOk qs.toList ∧ rs.length = i ∧ IntsAre ys (rs.map fun r : Nat => (r : Int)) ∧ ∀ c r, rs[c]? = some r → Own t c r
theorem pre3 {I C D x dx : Addr} {oI oC oD : Obj} {vs : List Value} {n : Nat} {hh : Int} {kt it : Tok} {i0 : Int} {ps qs : Array Value} {rest : List (Addr × Obj)} (off : LCg.Off3 I C D (fam x dx vs n hh kt it i0 ps qs ++ rest)) : PreOk x dx [(I, oI), (C, oC), (D, oD)] := by
  have o := off.mem
  have h1 := o (x, _) (List.mem_append_left _ (.head _))
  have h2 := o (dx, _) (List.mem_append_left _ (.tail _ (.head _)))
  have h3 := o (70, _) (List.mem_append_left _ (.tail _ (.tail _ (.head _))))
  have h4 := o (63, _) (List.mem_append_left _ (.tail _ (.tail _ (.tail _ (.head _)))))
  exact ⟨⟨h1.1.symm, h2.1.symm, h3.1.symm, h4.1.symm⟩, ⟨h1.2.1.symm, h2.2.1.symm, h3.2.1.symm, h4.2.1.symm⟩, ⟨h1.2.2.symm, h2.2.2.symm, h3.2.2.symm, h4.2.2.symm⟩, trivial⟩
theorem owns_end {I C D x dx : Addr} {oI oC oD : Obj} {vs vs' : List Value} {n n' : Nat} {hh : Int} {kt it it' : Tok} {i0 i' : Int} {ps qs ps' qs' : Array Value} {rest : List (Addr × Obj)} {os : OsState} {t : List Nat} {rs : List Nat} {i r : Nat} {ys : List Value} {tr : Tok} {s' : Shared}
    (F : Fr h₀ L s'.heap m) (N : News h₀ L s'.heap ([(I, oI), (C, oC), (D, oD)] ++ (fam x dx vs' n' hh kt it' i' ps' qs' ++ rest))) (off : LCg.Off3 I C D (fam x dx vs n hh kt it i0 ps qs ++ rest)) (hz : vs'.length ≤ 1000) (htr : TriplesOk ps'.toList) (htq : TriplesOk qs'.toList)
    (hb : AllBare s'.gens) (ho : s'.os = os) (hl : rs.length = i) (hI : IntsAre ys (rs.map fun r : Nat => (r : Int))) (hO : ∀ c r, rs[c]? = some r → Own t c r) (hr : Own t i r) :
    CgEnd h₀ L m os I oI C oC D oD (fun y nw' => OwnsJ t x dx hh kt rest (i + 1) (ys ++ [y]) nw') (.int (r : Nat) tr) s' := by
  refine ⟨_, F, N, LCg.Off3.of fun p hp => ?_, hb, ho, vs', n', it', i', ps', qs', rs ++ [r], rfl, hz, htr, htq, by rw [List.length_append, hl]; rfl, ?_, ?_⟩
  · have hp : p ∈ fam x dx vs' n' hh kt it' i' ps' qs' ++ rest := hp
    rcases List.mem_append.mp hp with h | h
    · simp only [fam, List.mem_cons, List.not_mem_nil, or_false] at h
      have h1 := off.mem (x, accObj dx vs n) (List.mem_append_left _ (.head _))
      have h2 := off.mem (dx, dictOf [⟨hh, .str (Str.ofString "_initial_size") kt, .int i0 it⟩] 1) (List.mem_append_left _ (.tail _ (.head _)))
      have h3 := off.mem (70, tabObj ps) (List.mem_append_left _ (.tail _ (.tail _ (.head _))))
      have h4 := off.mem (63, tabObj qs) (List.mem_append_left _ (.tail _ (.tail _ (.tail _ (.head _)))))
      rcases h with rfl | rfl | rfl | rfl
      · exact h1
      · exact h2
      · exact h3
      · exact h4
    · exact off.mem p (List.mem_append_right _ h)
  · rw [List.map_append]
    exact IntsAre.append hI (.cons (r : Int) tr .nil)
  · intro c r' hc
    rw [List.getElem?_append] at hc
    split at hc
    · exact hO c r' hc
    · rename_i h
      have : c = i := by
        have := (List.getElem?_eq_some_iff.mp hc).1
        simp only [List.length_singleton] at this
        omega
      subst this
      rw [hl, Nat.sub_self] at hc
      simp only [List.getElem?_cons_zero, Option.some.injEq] at hc
      exact hc ▸ hr
end
end Mine
end

section
set_option maxRecDepth 100000
set_option maxHeartbeats 4000000
namespace Mine
/-- the pieces' tuples lie at no object of another kind -/
theorem PieceL.apart {h₀ h : Heap} {L : Addr} {all Tl : List (Addr × Obj)} {ys : List Value} {cs : List Nat} {a : Addr} {o : Obj} (hP : PieceL Tl ys cs) (N : News h₀ L h all) (hT : ∀ p ∈ Tl, p ∈ all) (hm : (a, o) ∈ all) (hc : o.cls ≠ .type "tuple") : ∀ p ∈ Tl, p.1 ≠ a := by
  intro p hp e
  have h1 := (N p (hT p hp)).1
  have h2 := (N (a, o) hm).1
  rw [e, h2] at h1
  have h3 := Option.some.inj h1
  have h4 := hP.cls p hp
  rw [← h3] at h4
  exact hc h4
theorem PieceL.seq {Tl : List (Addr × Obj)} {ys : List Value} {cs : List Nat} (h : PieceL Tl ys cs) : ∀ p ∈ Tl, ∃ vs n, p.2.data = .seq vs n := by
  induction h with
  | nil => intro p hp; cases hp
  | snoc T o c fa fb ta tb n _ ho hd hf ih =>
    intro p hp
    rcases List.mem_append.mp hp with h | h
    · exact ih p h
    · rw [List.mem_singleton.mp h]; exact ⟨_, _, hd⟩
theorem PieceL.apartC {h₀ h : Heap} {L : Addr} {all Tl : List (Addr × Obj)} {ys : List Value} {cs : List Nat} {a : Addr} {o : Obj} {v : Option Value} (hP : PieceL Tl ys cs) (N : News h₀ L h all) (hT : ∀ p ∈ Tl, p ∈ all) (hm : (a, o) ∈ all) (hc : o.data = .cell v) : ∀ p ∈ Tl, p.1 ≠ a := by
  intro p hp e
  have h1 := (N p (hT p hp)).1
  have h2 := (N (a, o) hm).1
  rw [e, h2] at h1
  have h3 := Option.some.inj h1
  obtain ⟨vs, n, h4⟩ := hP.seq p hp
  rw [← h3, hc] at h4
  cases h4
end Mine
end

section
set_option maxRecDepth 100000
set_option maxHeartbeats 4000000
namespace Mine
theorem fm2 {a : Addr × Obj} {l : List (Addr × Obj)} {P : Addr × Obj → Prop} (h : P a) (h2 : ∀ q ∈ l, P q) : ∀ q ∈ a :: l, P q := List.forall_mem_cons.mpr ⟨h, h2⟩
theorem preOk_lt {x dx : Addr} {l : List (Addr × Obj)} (h : ∀ p ∈ l, @LT.lt Nat _ p.1 dx) (hx : @LT.lt Nat _ dx x) (h7 : ∀ p ∈ l, @Ne Nat p.1 70) (h6 : ∀ p ∈ l, @Ne Nat p.1 63) : PreOk x dx l :=
  PreOk.of fun p hp => ⟨Nat.ne_of_lt (Nat.lt_trans (h p hp) hx), Nat.ne_of_lt (h p hp), h7 p hp, h6 p hp⟩
end Mine
end

section
set_option maxRecDepth 100000
set_option maxHeartbeats 8000000
set_option tactic.hygienic false
namespace Mine
noncomputable def st16 : { P : Prop // Box P → st15.1 } := ⟨_, fun hP9 => by
  k_with_none
  w_top off
  k_with "lt" => (first | (with_reducible assumption) | (apply And.left; (first | (with_reducible assumption) | (apply And.right; (first | (with_reducible assumption) | (apply And.right; (first | (with_reducible assumption) | (apply And.right; (first | (with_reducible assumption) | (apply And.right; (first | (with_reducible assumption) | (apply And.right; (first | (with_reducible assumption) | (apply And.right; (first | (with_reducible assumption) | (apply And.right; (first | (with_reducible assumption) | (apply And.right; (first | (with_reducible assumption) | (apply And.right; (first | (with_reducible assumption) | (apply And.right; (first | (with_reducible assumption) | (apply And.right; (first | (with_reducible assumption) | (apply And.right; (first | (with_reducible assumption) | (apply And.right; (first | (with_reducible assumption) | (apply And.right; (first | (with_reducible assumption) | (apply And.right; (first | (with_reducible assumption) | (apply And.right; (first | (with_reducible assumption) | (apply And.right; (first | (with_reducible assumption) | (apply And.right; (first | (with_reducible assumption) | (apply And.right; (first | (with_reducible assumption) | (apply And.right; (first | (with_reducible assumption) | (apply And.right; (first | (with_reducible assumption) | (apply And.right; (first | (with_reducible assumption) | (apply And.right; (first | (with_reducible assumption) | (apply And.right; (first | (with_reducible assumption) | (apply And.right; (with_reducible assumption)))))))))))))))))))))))))))))))))))))))))))))))))))) | (apply And.right; (first | (with_reducible assumption) | (apply And.right; (first | (with_reducible assumption) | (apply And.right; (first | (with_reducible assumption) | (apply And.right; (first | (with_reducible assumption) | (apply And.right; (first | (with_reducible assumption) | (apply And.right; (first | (with_reducible assumption) | (apply And.right; (first | (with_reducible assumption) | (apply And.right; (first | (with_reducible assumption) | (apply And.right; (first | (with_reducible assumption) | (apply And.right; (first | (with_reducible assumption) | (apply And.right; (first | (with_reducible assumption) | (apply And.right; (first | (with_reducible assumption) | (apply And.right; (first | (with_reducible assumption) | (apply And.right; (first | (with_reducible assumption) | (apply And.right; (first | (with_reducible assumption) | (apply And.right; (first | (with_reducible assumption) | (apply And.right; (first | (with_reducible assumption) | (apply And.right; (first | (with_reducible assumption) | (apply And.right; (first | (with_reducible assumption) | (apply And.right; (first | (with_reducible assumption) | (apply And.right; (first | (with_reducible assumption) | (apply And.right; (first | (with_reducible assumption) | (apply And.right; (first | (with_reducible assumption) | (apply And.right; (first | (with_reducible assumption) | (apply And.right; (first | (with_reducible assumption) | (apply And.right; (with_reducible assumption)))))))))))))))))))))))))))))))))))))))))))))))))))))
  k_with "k_ne" => (refine neN ?_; (try dsimp only); first | k_extra "lt" | (refine Ne.symm ?_; k_extra "lt") | (refine Nat.ne_of_lt ?_; k_extra "lt") | (refine Nat.ne_of_gt ?_; k_extra "lt") | (refine Nat.ne_of_lt (Nat.lt_add_right _ ?_); k_extra "lt") | (refine Nat.ne_of_gt (Nat.lt_add_right _ ?_); k_extra "lt") | (refine Nat.ne_of_lt (Nat.lt_add_right _ (Nat.lt_add_right _ ?_)); k_extra "lt") | (refine Nat.ne_of_gt (Nat.lt_add_right _ (Nat.lt_add_right _ ?_)); k_extra "lt") | (refine cell_ne2 ?_; decide) | (refine cell_ne ?_; k_extra "lt") | (refine Ne.symm (cell_ne ?_); k_extra "lt"))
  k_with "exec Assign cons ListComp" => (((revert w mg mb fa pm cd doc p9 loose9 mean9 dr os0 g0 K' T9 L0 l0 t' o' T d' x ps' O ox o'_2 d'_1 D it' kt' na' k' hk' hLT hN4 hD4 t'_3 o'_3 hO2 lT li t d'_2 ht8 hAsk hdot htl hN5 p tok hp1 hper hP x' d'_3 hh' kt'_1 l2 h'_3 o'_1 d'_4 tk X' g9 ys2 Tl hPL D2 h tk_1 tkI eD mE h6 o6 F6 d6 N7 P7; exact hP9.out)))
  intro w; revert w; (set_option tactic.hygienic true in intros)
  rename_i w mg mb fa pm cd doc w_7 w_8 p9 loose9 mean9 dr os0 g0 K' T9 L0 l0 t' o' T d' mB v7 c7 v8 x ps' O ox o'_2 d'_1 ys1 D it' kt' na' k' hk' hLT hN4 hD4 t'_3 o'_3 tk_5 h'_6 hO2 lT li off2 t d'_2 ht8 hAsk hdot hS mC htl hN5 h₁ tk₁ p tok hp1 hpl hper hP hpP h' t'_1 k'_1 h'_1 t'_2 k'_2 x' d'_3 h'_2 tk' hh' kt'_1 l1 l2 h'_3 o'_1 d'_4 tk X' hl1 g9 ys2 Tl hPL D2 h tk_1 F N off
  have Nold := N
  clear N
  obtain ⟨tkI, N⟩ : ∃ tkI : Tok, News g0 L0 h ((D2, LCg.lst ys2) :: ([(x', accObj d'_3 [] 0), (d'_3, dictOf [⟨hh', .str (Str.ofString "_initial_size") kt'_1, .int (T.fmod 3) tkI⟩] 1), (D, LCg.lst ys1)] ++ x.led li it' [] 0 k' kt' na' ++ [(L0 + 1, o'), (L0 + 3, o'_2), (L0 + 4, o'_3), (L0 + 5, o'_1), (L0 + 6, w_7), (156, tabObj ps'), (70, tabObj #[]), (63, tabObj #[])] ++ Tl)) := ⟨_, Nold⟩
  clear Nold
  have hT : ∀ q ∈ Tl, q ∈ (D2, LCg.lst ys2) :: ([(x', accObj d'_3 [] 0), (d'_3, dictOf [⟨hh', .str (Str.ofString "_initial_size") kt'_1, .int (T.fmod 3) tkI⟩] 1), (D, LCg.lst ys1)] ++ x.led li it' [] 0 k' kt' na' ++ [(L0 + 1, o'), (L0 + 3, o'_2), (L0 + 4, o'_3), (L0 + 5, o'_1), (L0 + 6, w_7), (156, tabObj ps'), (70, tabObj #[]), (63, tabObj #[])] ++ Tl) := fun q hq => .tail _ (List.mem_append_right _ hq)
  have t1 := hPL.apart N hT (.tail _ (.head _)) (by nofun)
  have t2 := hPL.apart N hT (.tail _ (.tail _ (.head _))) (by intro h; exact absurd (Value.type.inj h) (by decide))
  have t3 := hPL.apart N hT (a := 70) (o := tabObj #[]) (.tail _ (List.mem_append_left _ (List.mem_append_right _ (by k_mem)))) (by nofun)
  have t4 := hPL.apart N hT (a := 63) (o := tabObj #[]) (.tail _ (List.mem_append_left _ (List.mem_append_right _ (by k_mem)))) (by nofun)
  have t5 := hPL.apartC N hT (a := L0 + 6) (o := w_7) (.tail _ (List.mem_append_left _ (List.mem_append_right _ (by k_mem)))) c7
  obtain ⟨e1, e2, e3, e4, e5, e6, e7, e8, e9, e10, e11, e12, e13, e14, e15, e16, e17, e18, e19, e20, e21, offT⟩ := off
  have eD : (@Ne Nat x' D2) ∧ (@Ne Nat d'_3 D2) ∧ (@Ne Nat 70 D2) ∧ (@Ne Nat 63 D2) ∧ (@Ne Nat (L0 + 6) D2) := ⟨e1, e2, e20, e21, e18⟩
  have N6 := News.sub (new := (L0 + 6, w_7) :: (fam x' d'_3 [] 0 hh' kt'_1 tkI (T.fmod 3) #[] #[] ++ ((D2, LCg.lst ys2) :: (x.led li it' [] 0 k' kt' na' ++ [(L0 + 1, o'), (L0 + 3, o'_2), (L0 + 4, o'_3), (L0 + 5, o'_1), (156, tabObj ps')] ++ Tl)))) N (by
    dsimp only [fam, Lx.led, List.cons_append, List.nil_append]
    (repeat' (first | exact List.forall_mem_nil _ | refine List.forall_mem_cons.mpr ⟨?_, ?_⟩))
    all_goals first | k_mem | (intro q hq; repeat (first | exact hq | refine List.Mem.tail _ ?_)))
  clear e1 e2 e3 e4 e5 e6 e7 e8 e9 e10 e11 e12 e13 e14 e15 e16 e17 e18 e19 e20 e21 offT hT
  obtain ⟨a1, a2, a3, a4, a5, a6, a7, a8, a9, a10, a11, a12, a13, a14, a15, a16, a17, a18, a19⟩ := l1
  have hLT : @LT.lt Nat _ L0 x.cT := Nat.lt_of_le_of_lt (Nat.le_add_right L0 6) lT
  have P6 : ∀ o6 : Obj, PreOk x' d'_3 ((L0 + 6, o6) :: (D2, LCg.lst ys2) :: (x.led li it' [] 0 k' kt' na' ++ [(L0 + 1, o'), (L0 + 3, o'_2), (L0 + 4, o'_3), (L0 + 5, o'_1), (156, tabObj ps')] ++ Tl)) := by
    intro o6
    refine PreOk.app (l := (L0 + 6, o6) :: (D2, LCg.lst ys2) :: (x.led li it' [] 0 k' kt' na' ++ [(L0 + 1, o'), (L0 + 3, o'_2), (L0 + 4, o'_3), (L0 + 5, o'_1), (156, tabObj ps')])) ?_ (PreOk.of fun q hq => ⟨t1 q hq, t2 q hq, t3 q hq, t4 q hq⟩)
    refine ⟨⟨Nat.ne_of_lt (Nat.lt_trans a16 l2), Nat.ne_of_lt a16, cell_ne l0.2.1, cell_ne l0.2.2⟩, ⟨eD.1.symm, eD.2.1.symm, eD.2.2.1.symm, eD.2.2.2.1.symm⟩, preOk_lt ?_ l2 ?_ ?_⟩
    · exact List.forall_mem_append.mpr ⟨fm2 a2 (fm2 a3 (fm2 a4 (fm2 a5 (fm2 a6 (fm2 a7 (fm2 a8 (fm2 a9 (fm2 a10 (fm2 a11 (List.forall_mem_nil _)))))))))), fm2 a12 (fm2 a13 (fm2 a14 (fm2 a15 (fm2 a17 (List.forall_mem_nil _)))))⟩
    · exact List.forall_mem_append.mpr ⟨led_ne O.ord (Nat.lt_trans l0.2.1 hLT), fm2 (cell_ne l0.2.1) (fm2 (cell_ne l0.2.1) (fm2 (cell_ne l0.2.1) (fm2 (cell_ne l0.2.1) (fm2 (show (156 : Nat) ≠ 70 by decide) (List.forall_mem_nil _)))))⟩
    · exact List.forall_mem_append.mpr ⟨led_ne O.ord (Nat.lt_trans l0.2.2 hLT), fm2 (cell_ne l0.2.2) (fm2 (cell_ne l0.2.2) (fm2 (cell_ne l0.2.2) (fm2 (cell_ne l0.2.2) (fm2 (show (156 : Nat) ≠ 63 by decide) (List.forall_mem_nil _)))))⟩
  have U6 : ∀ q ∈ fam x' d'_3 [] 0 hh' kt'_1 tkI (T.fmod 3) #[] #[] ++ ((D2, LCg.lst ys2) :: (x.led li it' [] 0 k' kt' na' ++ [(L0 + 1, o'), (L0 + 3, o'_2), (L0 + 4, o'_3), (L0 + 5, o'_1), (156, tabObj ps')] ++ Tl)), q.1 ≠ L0 + 6 := by
    exact List.forall_mem_append.mpr ⟨fm2 (Nat.ne_of_gt (Nat.lt_trans a16 l2)) (fm2 (Nat.ne_of_gt a16) (fm2 (cell_ne l0.2.1).symm (fm2 (cell_ne l0.2.2).symm (List.forall_mem_nil _)))), fm2 eD.2.2.2.2.symm (List.forall_mem_append.mpr ⟨List.forall_mem_append.mpr ⟨led_ne O.ord lT, fm2 (cell_ne2 (by decide)) (fm2 (cell_ne2 (by decide)) (fm2 (cell_ne2 (by decide)) (fm2 (cell_ne2 (by decide)) (fm2 (cell_ne l0.1).symm (List.forall_mem_nil _)))))⟩, t5⟩)⟩
  have mE : ∃ mE : Str → Option Value, Fr g0 L0 h (perM p tok mE) := ⟨_, F⟩
  obtain ⟨mE, F6⟩ := mE
  clear F N
  refine storeX_C F6 N6 rfl (UpdF.head U6) c7 ?_
  clear F6 N6 U6 c7 t1 t2 t3 t4 t5
  intro h6 o6 F6 N6 d6
  have N7 := News.sub (new := fam x' d'_3 [] 0 hh' kt'_1 tkI (T.fmod 3) #[] #[] ++ ((L0 + 6, o6) :: (D2, LCg.lst ys2) :: (x.led li it' [] 0 k' kt' na' ++ [(L0 + 1, o'), (L0 + 3, o'_2), (L0 + 4, o'_3), (L0 + 5, o'_1), (156, tabObj ps')] ++ Tl))) N6 (by
    dsimp only [fam, Lx.led, List.cons_append, List.nil_append]
    (repeat' (first | exact List.forall_mem_nil _ | refine List.forall_mem_cons.mpr ⟨?_, ?_⟩))
    all_goals first | k_mem | (intro q hq; repeat (first | exact hq | refine List.Mem.tail _ ?_)))
  have P7 := P6 o6
  clear P6 N6 a1 a2 a3 a4 a5 a6 a7 a8 a9 a10 a11 a12 a13 a14 a15 a16 a17 a18 a19 hLT
  clear off2 w_8 v8 h'_1 h' h'_2 h'_6 h₁ tk₁ t'_1 k'_1 t'_2 k'_2 w_7 v7 mB hS hpl hpP mC ys1 hl1 tk_5 tk'
  w_strict (k_steps)⟩
end Mine
end

section
set_option maxRecDepth 100000
set_option maxHeartbeats 8000000
set_option tactic.hygienic false
namespace Mine
theorem LeastPer.uniq {t : List Nat} {p q : Nat} (h1 : LeastPer t p) (h2 : LeastPer t q) : p = q := by
  rcases Nat.lt_trichotomy p q with h | h | h
  · exact absurd h1.2.2.1 (h2.2.2.2 p h1.1 h)
  · exact h
  · exact absurd h2.2.2.1 (h1.2.2.2 q h2.1 h)
noncomputable def st17 : { P : Prop // Box P → st16.1 } := ⟨_, fun hP9 => by
  k_with_none
  w_top off
  k_with "lt" => (first | (with_reducible assumption) | (apply And.left; (first | (with_reducible assumption) | (apply And.right; (first | (with_reducible assumption) | (apply And.right; (first | (with_reducible assumption) | (apply And.right; (first | (with_reducible assumption) | (apply And.right; (first | (with_reducible assumption) | (apply And.right; (first | (with_reducible assumption) | (apply And.right; (first | (with_reducible assumption) | (apply And.right; (first | (with_reducible assumption) | (apply And.right; (first | (with_reducible assumption) | (apply And.right; (first | (with_reducible assumption) | (apply And.right; (first | (with_reducible assumption) | (apply And.right; (first | (with_reducible assumption) | (apply And.right; (first | (with_reducible assumption) | (apply And.right; (first | (with_reducible assumption) | (apply And.right; (first | (with_reducible assumption) | (apply And.right; (first | (with_reducible assumption) | (apply And.right; (first | (with_reducible assumption) | (apply And.right; (first | (with_reducible assumption) | (apply And.right; (first | (with_reducible assumption) | (apply And.right; (first | (with_reducible assumption) | (apply And.right; (first | (with_reducible assumption) | (apply And.right; (first | (with_reducible assumption) | (apply And.right; (first | (with_reducible assumption) | (apply And.right; (first | (with_reducible assumption) | (apply And.right; (first | (with_reducible assumption) | (apply And.right; (with_reducible assumption)))))))))))))))))))))))))))))))))))))))))))))))))))) | (apply And.right; (first | (with_reducible assumption) | (apply And.right; (first | (with_reducible assumption) | (apply And.right; (first | (with_reducible assumption) | (apply And.right; (first | (with_reducible assumption) | (apply And.right; (first | (with_reducible assumption) | (apply And.right; (first | (with_reducible assumption) | (apply And.right; (first | (with_reducible assumption) | (apply And.right; (first | (with_reducible assumption) | (apply And.right; (first | (with_reducible assumption) | (apply And.right; (first | (with_reducible assumption) | (apply And.right; (first | (with_reducible assumption) | (apply And.right; (first | (with_reducible assumption) | (apply And.right; (first | (with_reducible assumption) | (apply And.right; (first | (with_reducible assumption) | (apply And.right; (first | (with_reducible assumption) | (apply And.right; (first | (with_reducible assumption) | (apply And.right; (first | (with_reducible assumption) | (apply And.right; (first | (with_reducible assumption) | (apply And.right; (first | (with_reducible assumption) | (apply And.right; (first | (with_reducible assumption) | (apply And.right; (first | (with_reducible assumption) | (apply And.right; (first | (with_reducible assumption) | (apply And.right; (first | (with_reducible assumption) | (apply And.right; (first | (with_reducible assumption) | (apply And.right; (first | (with_reducible assumption) | (apply And.right; (with_reducible assumption)))))))))))))))))))))))))))))))))))))))))))))))))))))
  k_with "k_ne" => (refine neN ?_; (try dsimp only); first | k_extra "lt" | (refine Ne.symm ?_; k_extra "lt") | (refine Nat.ne_of_lt ?_; k_extra "lt") | (refine Nat.ne_of_gt ?_; k_extra "lt") | (refine Nat.ne_of_lt (Nat.lt_add_right _ ?_); k_extra "lt") | (refine Nat.ne_of_gt (Nat.lt_add_right _ ?_); k_extra "lt") | (refine Nat.ne_of_lt (Nat.lt_add_right _ (Nat.lt_add_right _ ?_)); k_extra "lt") | (refine Nat.ne_of_gt (Nat.lt_add_right _ (Nat.lt_add_right _ ?_)); k_extra "lt") | (refine cell_ne2 ?_; decide) | (refine cell_ne ?_; k_extra "lt") | (refine Ne.symm (cell_ne ?_); k_extra "lt"))
  k_with "call ref" => ((k_here; (try dsimp only [List.cons_append, List.nil_append, List.append_nil]); (with_reducible show wpAny _ _ (call (Value.ref 173) _) _ _ _); k_dflt (refine' own_led [_, _, _] ?q9B ?q9F ?q9X ?q9T ?q9k ?q9d ?q9u ?q9N ?q9P P7 ?q9p ?q9l hPF ?q9z ?q9r ?q9q ?q9b hdot ?q9c ?q9t ?_; (case q9B => k_asm); (case q9F => k_asm); (case q9X => k_asm); (case q9T => k_asm); (case q9k => exact rfl); (case q9d => ktr_room); (case q9u => ktr_units); (case q9N => k_asm); (case q9P => exact pre3 off); (case q9p => exact .tail _ (.head _)); (case q9l => exact fun q hq => .tail _ (.tail _ (List.mem_append_right _ hq))); (case q9z => assumption); (case q9r => assumption); (case q9q => assumption); (case q9b => assumption); (case q9c => omega); (case q9t => exact ht8.2); k_whole); intro s9 r9 t9 vs9 n9 i9 it9 ps9 qs9 hOwn F' N' z9 tr9 tq9 b9 o9))
  k_with "CgEnd" => ((k_here; k_dflt (exact owns_end F' N' off z9 tr9 tq9 b9 o9 hrs hIr hOr hOwn)))
  intro w; revert w; (set_option tactic.hygienic true in intros)
  rename_i w mg mb fa pm cd doc p9 loose9 mean9 dr os0 g0 K' T9 L0 l0 t' o' T d' x ps' O ox o'_2 d'_1 D it' kt' na' k' hk' hLT hN4 hD4 t'_3 o'_3 hO2 lT li t d'_2 ht8 hAsk hdot htl hN5 p tok hp1 hper hP x' d'_3 hh' kt'_1 l2 h'_3 o'_1 d'_4 tk X' g9 ys2 Tl hPL D2 h tk_1 tkI eD mE h6 o6 F6 d6 N7 P7
  revert X'; k_fill; intro X'
  obtain ⟨Ts, pa, pb, pta, ptb, hPF⟩ := hPL.facts
  refine Assign_range_G (h₀ := g0) (L := L0) (J := OwnsJ t x' d'_3 hh' kt'_1 ((L0 + 6, o6) :: (D2, LCg.lst ys2) :: (x.led li it' [] 0 k' kt' na' ++ [(L0 + 1, o'), (L0 + 3, o'_2), (L0 + 4, o'_3), (L0 + 5, o'_1), (156, tabObj ps')] ++ Tl))) (n := t.length) (os := os0) (m := perM p tok mE) (by rfl) (by rfl) (by with_unfolding_all rfl) (by decide) (by rfl) (by decide) (by rfl) (by rfl) (by rfl) ?_
  have N8 := N7
  dsimp only [fam, Lx.led, List.cons_append, List.nil_append] at N8
  w_strict (k_steps)
  rename IsRange _ _ _ _ _ _ _ _ => hR
  rename Fr _ _ _ _ => F9
  rename News _ _ _ _ => N9
  rw [htl] at hR
  have bare0 : AllBare (#[] : Array GenState) := fun _ h => by simp at h
  have tri0 : TriplesOk (#[] : Array Value).toList := by trivial
  refine ⟨_, _, _, _, _, _, rfl, rfl, F9, N9, hR, (small8 ht8.2).1, (small8 ht8.2).2, (by rw [sizeLine_eq]; omega), bare0, rfl, ⟨[], 0, tkI, _, #[], #[], [], rfl, Nat.zero_le _, tri0, tri0, rfl, .nil, fun c r h => by simp at h⟩, ?turn, ?fin⟩
  case turn =>
    intro i ti I oI C oC D3 m₂ ys nw s' E' hi hJ hC hx F N off ne hb ho
    obtain ⟨vs1, n1, it1, i1, ps1, qs1, rs, rfl, hz1, htr1, htq1, hrs, hIr, hOr⟩ := hJ
    clear F9 N9 N7 hR
    obtain ⟨hp, ge, dr1, tkn, os1⟩ := s'
    dsimp only at F N hb ho
    subst ho
    have N2 := N
    dsimp only [fam, Lx.led, List.cons_append, List.nil_append] at N2
    clear N
    w_strict (k_steps)
  case fin =>
    intro D3 ys nw s' hJ F N off hb ho
    obtain ⟨vs1, n1, it1, i1, ps1, qs1, rs, rfl, hz1, htr1, htq1, hrs, hIr, hOr⟩ := hJ
    clear F9 N9 N7 hR
    obtain ⟨hp, ge, dr1, tkn, os1⟩ := s'
    dsimp only at F N hb ho
    subst ho
    obtain ⟨pp, hA⟩ := hAsk rs ⟨hrs, hOr⟩
    have epp : pp = p := hA.least.uniq hP
    subst epp
    have N2 := News.sub (new := (D3, LCg.lst ys) :: (x.led li it' [] 0 k' kt' na' ++ [(L0 + 3, o'_2), (L0 + 4, o'_3), (156, tabObj ps'), (70, tabObj ps1), (63, tabObj qs1)])) N (by
      dsimp only [fam, Lx.led, List.cons_append, List.nil_append]
      (repeat' (first | exact List.forall_mem_nil _ | refine List.forall_mem_cons.mpr ⟨?_, ?_⟩))
      all_goals k_mem)
    have off9 : LCg.Off1 D3 (x.led li it' [] 0 k' kt' na' ++ [(L0 + 3, o'_2), (L0 + 4, o'_3), (156, tabObj ps'), (70, tabObj ps1), (63, tabObj qs1)]) := by
      obtain ⟨e1, e2, e3, e4, e5, e6, e7, e8, e9, e10, e11, e12, e13, e14, e15, e16, e17, e18, e19, e20, e21, _⟩ := off
      exact ⟨e7, e8, e9, e10, e11, e12, e13, e14, e15, e16, e18, e19, e21, e3, e4, trivial⟩
    clear N off
    have hPo : PreL x [(L0 + 3, o'_2), (L0 + 4, o'_3), (156, tabObj ps'), (70, tabObj ps1), (63, tabObj qs1)] := by
      clear N2 off9 F eD P7
      refine prel_lt O.ord ?_
      simp only [List.forall_mem_cons]
      refine ⟨?_, ?_, ?_, ?_, ?_, List.forall_mem_nil _⟩ <;> (refine ltN ?_; omega)
    clear P7 eD hPF hPL l2 hAsk
    (rename_i zz1 zz2; revert w mg mb fa pm cd doc p9 loose9 mean9 dr g0 K' T9 L0 l0 t' o' T d' x ps' O ox o'_2 d'_1 D it' kt' na' k' hk' hLT hN4 hD4 t'_3 o'_3 hO2 lT li t d'_2 ht8 hdot htl hN5 tok x' d'_3 hh' kt'_1 h'_3 o'_1 d'_4 tk g9 ys2 Tl D2 h tk_1 tkI mE h6 o6 d6 X' Ts pa pb pta ptb zz1 h' tk_2 t₁ u₁ v₁ bare0 tri0 D3 ys vs1 n1 it1 i1 ps1 qs1 rs hz1 htr1 htq1 hrs hIr hOr hp ge dr1 tkn os1 hb a_3 pp hA hp1 hper hP zz2 F N2 off9 hPo; exact hP9.out)⟩
end Mine
end

section
set_option maxRecDepth 100000
set_option maxHeartbeats 4000000
namespace Mine
section
variable {prog : Program} {w : World} {A : Around} {E : Value → Shared → Prop} {s : Shared} {h₀ : Heap} {L : Addr} {m : Str → Option Value} {news : List (Addr × Obj)}
theorem in_no {l : Addr} {vs : List Value} {ns : List Int} {k : Int} {t : Tok} {Q : Value → Shared → Prop} (hl : s.heap.IsList l vs.toArray) (hi : IntsAre vs ns) (hk : k ∉ ns)
    (h : Q (.bool false) s) : wpAny (model prog w) A (compareOp .In (.int k t) (.ref l)) Q E s := by
  refine in_list_ints hl hi ?_
  have : ns.any (· == k) = false := by
    rw [List.any_eq_false]
    intro x hx e
    exact hk (beq_iff_eq.mp e ▸ hx)
  rw [this]; exact h
theorem notin_yes {l : Addr} {vs : List Value} {ns : List Int} {k : Int} {t : Tok} {Q : Value → Shared → Prop} (hl : s.heap.IsList l vs.toArray) (hi : IntsAre vs ns) (hk : k ∈ ns)
    (h : Q (.bool false) s) : wpAny (model prog w) A (compareOp .NotIn (.int k t) (.ref l)) Q E s := by
  refine notin_list_ints hl hi ?_
  have : ns.any (· == k) = true := List.any_eq_true.mpr ⟨k, hk, beq_self_eq_true k⟩
  rw [this]; exact h
theorem max_is {l : Addr} {vs : List Value} {ns : List Int} {P : Int} {Q : Value → Shared → Prop} (F : Fr h₀ L s.heap m) (N : News h₀ L s.heap news) (hl : s.heap.IsList l vs.toArray) (hi : IntsAre vs ns) (hP : P ∈ ns) (hle : ∀ a, a ∈ ns → a ≤ P) (hh : A.handled = none)
    (h : ∀ h' (t : Tok) tk, Fr h₀ L h' m → News h₀ L h' news → Q (.int P t) { s with heap := h', toks := tk }) : wpAny (model prog w) A (call (.builtin "max") [.ref l]) Q E s :=
  kso_max F N hl hi (List.length_pos_of_mem hP) hh fun h' M t tk F' N' a b => by
    have e : M = P := by have h1 := b P hP; have h2 := hle M a; omega
    exact e ▸ h h' t tk F' N'
end
theorem Asked.zero {t rs : List Nat} {p : Nat} (h : Asked t rs p) : (0 : Int) ∉ rs.map fun r : Nat => (r : Int) := by
  intro hm
  obtain ⟨r, hr, e⟩ := List.mem_map.mp hm
  have := h.pos r hr
  omega
theorem Asked.mem {t rs : List Nat} {p : Nat} (h : Asked t rs p) : (p : Int) ∈ rs.map fun r : Nat => (r : Int) := List.mem_map.mpr ⟨p, h.has, rfl⟩
theorem Asked.max {t rs : List Nat} {p : Nat} (h : Asked t rs p) : ∀ a, a ∈ (rs.map fun r : Nat => (r : Int)) → a ≤ (p : Int) := by
  intro a ha
  obtain ⟨r, hr, rfl⟩ := List.mem_map.mp ha
  have := h.le r hr
  omega
end Mine
end

section
set_option maxRecDepth 100000
set_option maxHeartbeats 8000000
set_option tactic.hygienic false
namespace Mine
noncomputable def st18 : { P : Prop // Box P → st17.1 } := ⟨_, fun hP9 => by
  k_with_none
  w_top off
  k_with "lt" => (first | (with_reducible assumption) | (apply And.left; (first | (with_reducible assumption) | (apply And.right; (first | (with_reducible assumption) | (apply And.right; (first | (with_reducible assumption) | (apply And.right; (first | (with_reducible assumption) | (apply And.right; (first | (with_reducible assumption) | (apply And.right; (first | (with_reducible assumption) | (apply And.right; (first | (with_reducible assumption) | (apply And.right; (first | (with_reducible assumption) | (apply And.right; (first | (with_reducible assumption) | (apply And.right; (first | (with_reducible assumption) | (apply And.right; (first | (with_reducible assumption) | (apply And.right; (first | (with_reducible assumption) | (apply And.right; (first | (with_reducible assumption) | (apply And.right; (first | (with_reducible assumption) | (apply And.right; (first | (with_reducible assumption) | (apply And.right; (first | (with_reducible assumption) | (apply And.right; (first | (with_reducible assumption) | (apply And.right; (first | (with_reducible assumption) | (apply And.right; (first | (with_reducible assumption) | (apply And.right; (first | (with_reducible assumption) | (apply And.right; (first | (with_reducible assumption) | (apply And.right; (first | (with_reducible assumption) | (apply And.right; (first | (with_reducible assumption) | (apply And.right; (first | (with_reducible assumption) | (apply And.right; (first | (with_reducible assumption) | (apply And.right; (with_reducible assumption)))))))))))))))))))))))))))))))))))))))))))))))))))) | (apply And.right; (first | (with_reducible assumption) | (apply And.right; (first | (with_reducible assumption) | (apply And.right; (first | (with_reducible assumption) | (apply And.right; (first | (with_reducible assumption) | (apply And.right; (first | (with_reducible assumption) | (apply And.right; (first | (with_reducible assumption) | (apply And.right; (first | (with_reducible assumption) | (apply And.right; (first | (with_reducible assumption) | (apply And.right; (first | (with_reducible assumption) | (apply And.right; (first | (with_reducible assumption) | (apply And.right; (first | (with_reducible assumption) | (apply And.right; (first | (with_reducible assumption) | (apply And.right; (first | (with_reducible assumption) | (apply And.right; (first | (with_reducible assumption) | (apply And.right; (first | (with_reducible assumption) | (apply And.right; (first | (with_reducible assumption) | (apply And.right; (first | (with_reducible assumption) | (apply And.right; (first | (with_reducible assumption) | (apply And.right; (first | (with_reducible assumption) | (apply And.right; (first | (with_reducible assumption) | (apply And.right; (first | (with_reducible assumption) | (apply And.right; (first | (with_reducible assumption) | (apply And.right; (first | (with_reducible assumption) | (apply And.right; (first | (with_reducible assumption) | (apply And.right; (first | (with_reducible assumption) | (apply And.right; (with_reducible assumption)))))))))))))))))))))))))))))))))))))))))))))))))))))
  k_with "k_ne" => (refine neN ?_; (try dsimp only); first | k_extra "lt" | (refine Ne.symm ?_; k_extra "lt") | (refine Nat.ne_of_lt ?_; k_extra "lt") | (refine Nat.ne_of_gt ?_; k_extra "lt") | (refine Nat.ne_of_lt (Nat.lt_add_right _ ?_); k_extra "lt") | (refine Nat.ne_of_gt (Nat.lt_add_right _ ?_); k_extra "lt") | (refine Nat.ne_of_lt (Nat.lt_add_right _ (Nat.lt_add_right _ ?_)); k_extra "lt") | (refine Nat.ne_of_gt (Nat.lt_add_right _ (Nat.lt_add_right _ ?_)); k_extra "lt") | (refine cell_ne2 ?_; decide) | (refine cell_ne ?_; k_extra "lt") | (refine Ne.symm (cell_ne ?_); k_extra "lt"))
  k_with "compareOp In int ref" => ((k_here; k_dflt (refine' in_no ?q9l hIr hA.zero ?_; (case q9l => exact News.isList (n := ys.length) (by k_asm) (by k_mem)))))
  k_with "call builtin:max" => ((k_here; (with_reducible show wpAny _ _ (call (Value.builtin _) [Value.ref _]) _ _ _); k_dflt (refine' max_is ?q9F ?q9N ?q9l hIr hA.mem hA.max rfl ?_; (case q9F => k_asm); (case q9N => k_asm); (case q9l => exact News.isList (n := ys.length) (by k_asm) (by k_mem))); intro h' t' tk' F' N'))
  k_with "compareOp NotEq int int" => ((k_here; (refine' ne_int_same ?q9e ?_; (case q9e => exact rfl))))
  k_with "exec For Name Call cons nil" => (((rename_i zz1 zz2 zz3 zz4 zz5 zz6; revert w mg mb fa pm cd doc p9 loose9 mean9 dr g0 K' T9 L0 l0 zz1 o' T d' x ps' O ox o'_2 d'_1 D it' kt' na' k' hk' hLT hN4 hD4 t'_3 o'_3 hO2 lT li t d'_2 ht8 htl hN5 tok x' d'_3 hh' kt'_1 h'_3 o'_1 zz2 g9 ys2 Tl D2 h tk_1 tkI mE h6 o6 Ts pa pb pta ptb zz3 tk_2 t₁ u₁ v₁ bare0 tri0 D3 ys vs1 n1 it1 i1 ps1 qs1 rs hrs hIr hp ge dr1 tkn os1 hb pp hA hp1 hper hP off9 hPo X' h' t' tk' h'_1 tk_3 zz4 zz5 zz6 tk; exact hP9.out)))
  intro w; revert w; (set_option tactic.hygienic true in intros)
  rename_i w mg mb fa pm cd doc p9 loose9 mean9 dr g0 K' T9 L0 l0 t' o' T d' x ps' O ox o'_2 d'_1 D it' kt' na' k' hk' hLT hN4 hD4 t'_3 o'_3 hO2 lT li t d'_2 ht8 hdot htl hN5 tok x' d'_3 hh' kt'_1 h'_3 o'_1 d'_4 tk g9 ys2 Tl D2 h tk_1 tkI mE h6 o6 d6 X' Ts pa pb pta ptb N' h' tk_2 t₁ u₁ v₁ bare0 tri0 D3 ys vs1 n1 it1 i1 ps1 qs1 rs hz1 htr1 htq1 hrs hIr hOr hp ge dr1 tkn os1 hb a_3 pp hA hp1 hper hP F' F N2 off9 hPo
  clear a_3 hOr hz1 htr1 htq1 d6 d'_4 hdot
  clear F' N'
  revert X'; k_fill; intro X'
  dsimp only [Lx.led, List.cons_append, List.nil_append] at N2
  w_strict (k_steps)⟩
end Mine
end

section
set_option maxRecDepth 100000
set_option maxHeartbeats 4000000
namespace Mine
theorem pick_mid {ys : List Value} {a b : Nat} {lo hi : Int} (h0 : lo = (a : Int)) (h1 : hi = ((a + b : Nat) : Int)) (ha : a + b ≤ ys.length) : kms_pick ys.toArray.toList (some lo) (some hi) = (ys.drop a).take b := by
  subst h0 h1
  unfold kms_pick
  simp only [kms_lo, kms_hi, if_neg (show ¬ ((a : Nat) : Int) < 0 by omega), if_neg (show ¬ ((a + b : Nat) : Int) < 0 by omega), Int.toNat_natCast]
  rw [Nat.min_eq_left ha, Nat.min_eq_left (show a ≤ ys.length by omega)]
  congr 1; omega
theorem side_eq {p : Nat} : (if (p : Int) - 1 > 1 then (p : Int) - 1 else 1) = ((max 1 (p - 1) : Nat) : Int) := by
  split <;> omega
theorem win_mem {t rs : List Nat} {p a : Nat} (h : Asked t rs p) (h1 : 1 ≤ a) (h2 : a + max 1 (p - 1) ≤ t.length) : (p : Int) ∈ ((rs.map fun r : Nat => (r : Int)).drop a).take (max 1 (p - 1)) := by
  rw [← List.map_drop, ← List.map_take]
  exact List.mem_map.mpr ⟨p, h.win a h1 h2, rfl⟩
/-- between the turns of the loop over the windows -/
noncomputable def WinJ (mF : Str → Option Value) (base : List (Addr × Obj)) (os : OsState) (_i : Nat) (m' : Str → Option Value) (news' : List (Addr × Obj)) (s' : Shared) : Prop :=
  ∃ vc, m' = (fun y => if y = Str.ofString "cut" then vc else mF y) ∧ news' = base ∧ AllBare s'.gens ∧ s'.os = os
theorem cut_upd {a b : Option Value} {mF : Str → Option Value} : (fun y => if y = Str.ofString "cut" then a else (fun z => if z = Str.ofString "cut" then b else mF z) y) = (fun y => if y = Str.ofString "cut" then a else mF y) := by
  funext y
  dsimp only
  split <;> rfl
theorem cut_none {mF : Str → Option Value} : mF = (fun y => if y = Str.ofString "cut" then mF (Str.ofString "cut") else mF y) := by
  funext y
  split
  · next h => rw [h]
  · rfl
theorem win_end {h₀ : Heap} {L I D : Addr} {oD oI : Obj} {mF : Str → Option Value} {v : Option Value} {base : List (Addr × Obj)} {os : OsState} {i : Nat} {s₃ : Shared}
    (F : Fr h₀ L s₃.heap (fun y => if y = Str.ofString "cut" then v else mF y)) (N : News h₀ L s₃.heap ((D, oD) :: (I, oI) :: base)) (ne : ∀ q ∈ base, q.1 ≠ I) (hb : AllBare s₃.gens) (ho : s₃.os = os) :
    ∃ m' news', Fr h₀ L s₃.heap m' ∧ News h₀ L s₃.heap ((I, oI) :: news') ∧ (∀ q ∈ news', q.1 ≠ I) ∧ WinJ mF base os (i + 1) m' news' s₃ :=
  ⟨_, _, F, News.sub N fun q hq => .tail _ hq, ne, _, rfl, rfl, hb, ho⟩
end Mine
end

section
set_option maxRecDepth 100000
set_option maxHeartbeats 8000000
set_option tactic.hygienic false
namespace Mine
noncomputable def st19 : { P : Prop // Box P → st18.1 } := ⟨_, fun hP9 => by
  k_with_none
  w_top off
  k_with "lt" => (first | (with_reducible assumption) | (apply And.left; (first | (with_reducible assumption) | (apply And.right; (first | (with_reducible assumption) | (apply And.right; (first | (with_reducible assumption) | (apply And.right; (first | (with_reducible assumption) | (apply And.right; (first | (with_reducible assumption) | (apply And.right; (first | (with_reducible assumption) | (apply And.right; (first | (with_reducible assumption) | (apply And.right; (first | (with_reducible assumption) | (apply And.right; (first | (with_reducible assumption) | (apply And.right; (first | (with_reducible assumption) | (apply And.right; (first | (with_reducible assumption) | (apply And.right; (first | (with_reducible assumption) | (apply And.right; (first | (with_reducible assumption) | (apply And.right; (first | (with_reducible assumption) | (apply And.right; (first | (with_reducible assumption) | (apply And.right; (first | (with_reducible assumption) | (apply And.right; (first | (with_reducible assumption) | (apply And.right; (first | (with_reducible assumption) | (apply And.right; (first | (with_reducible assumption) | (apply And.right; (first | (with_reducible assumption) | (apply And.right; (first | (with_reducible assumption) | (apply And.right; (first | (with_reducible assumption) | (apply And.right; (first | (with_reducible assumption) | (apply And.right; (first | (with_reducible assumption) | (apply And.right; (first | (with_reducible assumption) | (apply And.right; (with_reducible assumption)))))))))))))))))))))))))))))))))))))))))))))))))))) | (apply And.right; (first | (with_reducible assumption) | (apply And.right; (first | (with_reducible assumption) | (apply And.right; (first | (with_reducible assumption) | (apply And.right; (first | (with_reducible assumption) | (apply And.right; (first | (with_reducible assumption) | (apply And.right; (first | (with_reducible assumption) | (apply And.right; (first | (with_reducible assumption) | (apply And.right; (first | (with_reducible assumption) | (apply And.right; (first | (with_reducible assumption) | (apply And.right; (first | (with_reducible assumption) | (apply And.right; (first | (with_reducible assumption) | (apply And.right; (first | (with_reducible assumption) | (apply And.right; (first | (with_reducible assumption) | (apply And.right; (first | (with_reducible assumption) | (apply And.right; (first | (with_reducible assumption) | (apply And.right; (first | (with_reducible assumption) | (apply And.right; (first | (with_reducible assumption) | (apply And.right; (first | (with_reducible assumption) | (apply And.right; (first | (with_reducible assumption) | (apply And.right; (first | (with_reducible assumption) | (apply And.right; (first | (with_reducible assumption) | (apply And.right; (first | (with_reducible assumption) | (apply And.right; (first | (with_reducible assumption) | (apply And.right; (first | (with_reducible assumption) | (apply And.right; (first | (with_reducible assumption) | (apply And.right; (with_reducible assumption)))))))))))))))))))))))))))))))))))))))))))))))))))))
  k_with "k_ne" => (refine neN ?_; (try dsimp only); first | k_extra "lt" | (refine Ne.symm ?_; k_extra "lt") | (refine Nat.ne_of_lt ?_; k_extra "lt") | (refine Nat.ne_of_gt ?_; k_extra "lt") | (refine Nat.ne_of_lt (Nat.lt_add_right _ ?_); k_extra "lt") | (refine Nat.ne_of_gt (Nat.lt_add_right _ ?_); k_extra "lt") | (refine Nat.ne_of_lt (Nat.lt_add_right _ (Nat.lt_add_right _ ?_)); k_extra "lt") | (refine Nat.ne_of_gt (Nat.lt_add_right _ (Nat.lt_add_right _ ?_)); k_extra "lt") | (refine cell_ne2 ?_; decide) | (refine cell_ne ?_; k_extra "lt") | (refine Ne.symm (cell_ne ?_); k_extra "lt"))
  k_with "CiT" => ((k_here; (refine' CiT.mk ?kP ?_; (case kP => assumption)); (try dsimp -proj only)))
  k_with "exec For Name Call cons nil" => ((k_here; (rename Fr _ _ _ _ => lF'); (with_unfolding_all refine' For_range lF' ?q9x ?q9p ?q9h ?_; (case q9x => exact rfl); (case q9p => exact rfl); (case q9h => exact rfl); k_whole)))
  k_with "subscriptTail Name Slice ref ref" => ((k_here; k_dflt (refine' kms_slice_lit (zs := (ys.drop (1 + i)).take sd) ?q9F ?q9N ?q9l ?q9p ?q9q ?q9e ?_ ?q9s ?q9t ?q9z; (case q9F => k_asm); (case q9N => k_asm); (case q9l => exact News.isList (n := ys.length) (by k_asm) (by k_mem)); (case q9p => exact IsPart.int _ _); (case q9q => exact IsPart.int _ _); (case q9e => exact pick_mid (by omega) (by omega) (by omega)); (case q9s => with_unfolding_all rfl); (case q9t => kmk_pure); (case q9z => (rw [List.size_toArray, sizeLine_eq]; omega))); intro D' h' F' N' l1; (try k_lt l1); (try k_sweep)))
  k_with "compareOp NotIn int ref" => ((k_here; k_dflt (refine' notin_yes (vs := (ys.drop (1 + i)).take sd) ?q9l ((hIr.drop (1 + i)).take sd) (hWin (1 + i) (by omega) (by omega)) ?_; (case q9l => exact News.isList (n := 0) (by k_asm) (by k_mem)))))
  k_with "Exists" => ((k_here; k_dflt (exact win_end (by k_asm) (by k_asm) hN4 hb4 rfl)))
  intro w; revert w; (set_option tactic.hygienic true in intros)
  rename_i w mg mb fa pm cd doc p9 loose9 mean9 dr g0 K' T9 L0 l0 t' o' T d' x ps' O ox o'_2 d'_1 D it' kt' na' k' hk' hLT hN4 hD4 t'_3 o'_3 hO2 lT li t d'_2 ht8 htl hN5 tok x' d'_3 hh' kt'_1 h'_3 o'_1 tk g9 ys2 Tl D2 h tk_1 tkI mE h6 o6 Ts pa pb pta ptb h' tk_2 t₁ u₁ v₁ bare0 tri0 D3 ys vs1 n1 it1 i1 ps1 qs1 rs hrs hIr hp ge dr1 tkn os1 hb pp hA hp1 hper hP off9 hPo X' h'_1 t'_1 tk' h'_1_1 tk_3 h'_2 F' N' tk_4
  have hyl : ys.length = t.length := by rw [hIr.length, List.length_map, hrs]
  have hpl : pp ≤ t.length := hP.2.1
  rename Fr _ _ _ _ => F
  rename News _ _ _ _ => N
  rw [side_eq] at F
  have Fo := F
  clear F
  have hWin : ∀ a, 1 ≤ a → a + max 1 (pp - 1) ≤ t.length → (pp : Int) ∈ ((rs.map fun r : Nat => (r : Int)).drop a).take (max 1 (pp - 1)) := fun a h1 h2 => win_mem hA h1 h2
  obtain ⟨tkS, F⟩ : ∃ tkS : Tok, Fr g0 L0 h'_2 (fun y => if y = Str.ofString "side" then some (Value.int ((max 1 (pp - 1) : Nat) : Int) tkS) else if y = Str.ofString "owns" then some (Value.ref D3) else perM pp tok mE y) := ⟨_, Fo⟩
  clear Fo
  have hsd : 1 ≤ max 1 (pp - 1) ∧ max 1 (pp - 1) ≤ t.length := ⟨Nat.le_max_left _ _, Nat.max_le.mpr ⟨Nat.le_trans hP.1 hpl, Nat.le_trans (Nat.sub_le _ _) hpl⟩⟩
  generalize max 1 (pp - 1) = sd at hWin F hsd
  revert X'; k_fill; intro X'
  w_strict (k_steps)
  rename IsRange _ _ _ _ _ _ _ _ => hR
  rename Fr _ _ _ _ => F9
  rename News _ _ _ _ => N9
  obtain ⟨sm, sz⟩ := small9 (n := t.length - sd) (by omega)
  rw [htl, show ((t.length : Int) - (sd : Int) + 1) = ((t.length - sd : Nat) : Int) + 1 from congrArg (· + 1) (Int.ofNat_sub hsd.2).symm] at hR
  have F9 := Fr.as F9 cut_none
  refine iter_turns hR sm sz F9 N9 (WinJ _ _ os1) ?_ ⟨_, rfl, rfl, hb, rfl⟩ ?_ ?_
  · rintro n m' news' s' h tk ⟨vk, e1, e2, e3, e4⟩
    exact ⟨vk, e1, e2, e3, e4⟩
  · intro I lI lL i m' news' s' t5 hi F4 N4 hN4 hJ T9 hT9
    obtain ⟨vk, rfl, rfl, hb4, ho4⟩ := hJ
    replace lI := allLt_of lI
    simp only [AllLt, and_true] at lI
    clear F9 N9 hR
    obtain ⟨hp5, ge5, dr5, tk5, os5⟩ := s'
    dsimp only at F4 N4 hb4 ho4
    subst ho4
    have F4 := Fr.as F4 cut_upd
    have h9s : 1 + i + sd ≤ t.length := by rw [Nat.add_assoc, Nat.add_comm]; exact Nat.add_lt_of_lt_sub hi
    have h8s : sd ≤ 8 := Nat.le_trans hsd.2 ht8.2
    w_strict (k_steps)
  · rintro m' news' s' F4 N4 ⟨vk, rfl, rfl, hb4, ho4⟩
    clear F9 N9 hR hWin sm sz
    obtain ⟨hp5, ge5, dr5, tk5, os5⟩ := s'
    dsimp only at F4 N4 hb4 ho4
    subst ho4
    (rename_i zz1 zz2; revert w mg mb fa pm cd doc p9 loose9 mean9 dr g0 K' T9 L0 l0 t' o' T d' x ps' O ox o'_2 d'_1 D it' kt' na' k' hk' hLT hN4 hD4 t'_3 o'_3 hO2 lT li t d'_2 ht8 htl hN5 tok x' d'_3 hh' kt'_1 h'_3 o'_1 tk g9 ys2 Tl D2 h tk_1 tkI mE h6 o6 Ts pa pb pta ptb h' tk_2 t₁ u₁ v₁ bare0 tri0 D3 ys vs1 n1 it1 i1 ps1 qs1 rs hrs hIr hp ge dr1 tkn hb pp hA hp1 hper hP off9 hPo h'_1 t'_1 tk' h'_1_1 tk_3 h'_2 zz1 tk_4 hyl hpl tkS sd zz2 hsd X' h'_4 tk_5 t₁_1 u₁_1 v₁_1 F9 vk hp5 ge5 dr5 tk5 os5 F4 N4 hb4 a_3; exact hP9.out)⟩
end Mine
end

section
set_option maxRecDepth 100000
set_option maxHeartbeats 4000000
namespace Mine
section
variable {w : World} {p : Program} {loose : List Str} {mean : ExcName → Option Value} {mg mb : Str → Option Value} {dp un : Nat} {gd : Option (List Code)} {cn : Str} {cs : Scope} {a : Addr} {ccd : Value} {cl : List (Str × Addr)} {outer : List Env} {A₀ : Around} {base h₀ : Heap} {L : Addr} {m : Str → Option Value} {s : Shared} {Q E : Value → Shared → Prop}
  {x : Lx} {i : Int} {it kt : Tok} {nq k na : Nat} {post : List (Addr × Obj)}
/-- _law_greatest_end on the ledger -/
theorem ge_led (pre : List (Addr × Obj)) {t : List Nat} {tt ut : Tok} {up : Int} {j : Nat} (e : koEnd up t = t.drop j) (B : Below A₀ base outer h₀) (F : Fr h₀ L s.heap m) (X : (Mine.hd.heap_39 w.params).In h₀) (N : News h₀ L s.heap (pre ++ (x.led i it [] nq k kt na ++ post))) (T : Top p loose mean mg mb h₀) (O : x.Ok w) (P : PreL x pre) (P' : PreL x post) (hk : cs.kind = .function) (hd : dp + 4 < recursionLimit) (hu : un + 120 < cLine)
    (ht1 : 1 ≤ t.length) (ht8 : t.length ≤ 8) (hup : up = 1 ∨ up = -1)
    (hret : ∀ h' tk' nq' tv, Fr h₀ L h' m → News h₀ L h' (pre ++ (x.led i it [] nq' k kt na ++ post)) → Q (.str (S (t.drop j)) tv) { s with heap := h', toks := tk' }) :
    wpAny (model PySem.Challenge.rw_re0059_01.prog w) (ktrTop dp un gd cn cs L a ccd cl outer) (call (.ref 166) [.ref x.M, .str (S t) tt, .int up ut]) Q E s :=
  ge_spec B F X T hk hd hu (News.sub N fun p hp => List.mem_append_right _ (List.mem_append_left _ hp)) O ht1 ht8 hup fun h' tk' nq' tv kp H => by
    obtain ⟨F', N'⟩ := lx_stepP F N P P' kp H
    rw [e]
    exact hret h' tk' nq' tv F' N'
end
section
variable {prog : Program} {w : World} {A : Around} {E : Value → Shared → Prop} {s : Shared}
theorem eq_str_diff {x y : Str} {t u : Tok} {Q : Value → Shared → Prop} (e : x ≠ y) (h : Q (.bool false) s) : wpAny (model prog w) A (compareOp .Eq (.str x t) (.str y u)) Q E s :=
  PyProof.Rows.eq_str (by rw [beq_eq_false_iff_ne.mpr e]; exact h)
end
theorem end_eq {t : List Nat} {k : Nat} (hk : k < t.length) : S (t.drop (((S t).length : Int) - ((S (t.drop k)).length : Int)).toNat) = S (t.drop k) := by
  rw [S_len, S_len, List.length_drop, show ((t.length : Int) - ((t.length - k : Nat) : Int)).toNat = k by omega]
theorem end_ne {t : List Nat} {k : Nat} (hk : k < t.length) : S (t.drop k) ≠ Str.ofString "" := by
  rw [empty_S]
  intro e
  have := congrArg List.length (S_inj e)
  rw [List.length_drop, List.length_nil] at this
  omega
end Mine
end

section
set_option maxRecDepth 100000
set_option maxHeartbeats 8000000
set_option tactic.hygienic false
namespace Mine
noncomputable def st20 : { P : Prop // Box P → st19.1 } := ⟨_, fun hP9 => by
  k_with_none
  w_top off
  k_with "lt" => (first | (with_reducible assumption) | (apply And.left; (first | (with_reducible assumption) | (apply And.right; (first | (with_reducible assumption) | (apply And.right; (first | (with_reducible assumption) | (apply And.right; (first | (with_reducible assumption) | (apply And.right; (first | (with_reducible assumption) | (apply And.right; (first | (with_reducible assumption) | (apply And.right; (first | (with_reducible assumption) | (apply And.right; (first | (with_reducible assumption) | (apply And.right; (first | (with_reducible assumption) | (apply And.right; (first | (with_reducible assumption) | (apply And.right; (first | (with_reducible assumption) | (apply And.right; (first | (with_reducible assumption) | (apply And.right; (first | (with_reducible assumption) | (apply And.right; (first | (with_reducible assumption) | (apply And.right; (first | (with_reducible assumption) | (apply And.right; (first | (with_reducible assumption) | (apply And.right; (first | (with_reducible assumption) | (apply And.right; (first | (with_reducible assumption) | (apply And.right; (first | (with_reducible assumption) | (apply And.right; (first | (with_reducible assumption) | (apply And.right; (first | (with_reducible assumption) | (apply And.right; (first | (with_reducible assumption) | (apply And.right; (first | (with_reducible assumption) | (apply And.right; (first | (with_reducible assumption) | (apply And.right; (first | (with_reducible assumption) | (apply And.right; (with_reducible assumption)))))))))))))))))))))))))))))))))))))))))))))))))))) | (apply And.right; (first | (with_reducible assumption) | (apply And.right; (first | (with_reducible assumption) | (apply And.right; (first | (with_reducible assumption) | (apply And.right; (first | (with_reducible assumption) | (apply And.right; (first | (with_reducible assumption) | (apply And.right; (first | (with_reducible assumption) | (apply And.right; (first | (with_reducible assumption) | (apply And.right; (first | (with_reducible assumption) | (apply And.right; (first | (with_reducible assumption) | (apply And.right; (first | (with_reducible assumption) | (apply And.right; (first | (with_reducible assumption) | (apply And.right; (first | (with_reducible assumption) | (apply And.right; (first | (with_reducible assumption) | (apply And.right; (first | (with_reducible assumption) | (apply And.right; (first | (with_reducible assumption) | (apply And.right; (first | (with_reducible assumption) | (apply And.right; (first | (with_reducible assumption) | (apply And.right; (first | (with_reducible assumption) | (apply And.right; (first | (with_reducible assumption) | (apply And.right; (first | (with_reducible assumption) | (apply And.right; (first | (with_reducible assumption) | (apply And.right; (first | (with_reducible assumption) | (apply And.right; (first | (with_reducible assumption) | (apply And.right; (first | (with_reducible assumption) | (apply And.right; (first | (with_reducible assumption) | (apply And.right; (with_reducible assumption)))))))))))))))))))))))))))))))))))))))))))))))))))))
  k_with "k_ne" => (refine neN ?_; (try dsimp only); first | k_extra "lt" | (refine Ne.symm ?_; k_extra "lt") | (refine Nat.ne_of_lt ?_; k_extra "lt") | (refine Nat.ne_of_gt ?_; k_extra "lt") | (refine Nat.ne_of_lt (Nat.lt_add_right _ ?_); k_extra "lt") | (refine Nat.ne_of_gt (Nat.lt_add_right _ ?_); k_extra "lt") | (refine Nat.ne_of_lt (Nat.lt_add_right _ (Nat.lt_add_right _ ?_)); k_extra "lt") | (refine Nat.ne_of_gt (Nat.lt_add_right _ (Nat.lt_add_right _ ?_)); k_extra "lt") | (refine cell_ne2 ?_; decide) | (refine cell_ne ?_; k_extra "lt") | (refine Ne.symm (cell_ne ?_); k_extra "lt"))
  k_with "call ref" => ((k_here; (try dsimp only [List.cons_append, List.nil_append, List.append_nil]); (with_reducible show wpAny _ _ (call (Value.ref 166) _) _ _ _); k_dflt (first
      | (refine' ge_led [_] e1 ?q9B ?q9F ?q9X ?q9N ?q9T ?q9O ?q9P ?q9Q ?q9k ?q9d ?q9u ?q91 ?q98 ?q9p ?_; (case q9B => k_asm); (case q9F => k_asm); (case q9X => k_asm); (case q9N => k_asm); (case q9T => k_asm); (case q9O => assumption); (case q9P => exact ⟨hD3, trivial⟩); (case q9Q => exact hPo); (case q9k => exact rfl); (case q9d => ktr_room); (case q9u => ktr_units); (case q91 => omega); (case q98 => omega); (case q9p => exact .inl rfl); k_whole)
      | (refine' ge_led [_] e2 ?q9B ?q9F ?q9X ?q9N ?q9T ?q9O ?q9P ?q9Q ?q9k ?q9d ?q9u ?q91 ?q98 ?q9p ?_; (case q9B => k_asm); (case q9F => k_asm); (case q9X => k_asm); (case q9N => k_asm); (case q9T => k_asm); (case q9O => assumption); (case q9P => exact ⟨hD3, trivial⟩); (case q9Q => exact hPo); (case q9k => exact rfl); (case q9d => ktr_room); (case q9u => ktr_units); (case q91 => omega); (case q98 => omega); (case q9p => exact .inr rfl); k_whole)); intro h' tk' nq' tv' F' N'; (try dsimp only [Lx.led, List.cons_append, List.nil_append] at N'); (try k_sweep)))
  k_with "call ref" => ((k_here; (try dsimp only [List.cons_append, List.nil_append, List.append_nil]); (with_reducible show wpAny _ _ (call (Value.ref 140) _) _ _ _); k_dflt (refine' gt_led [_, _] ?q9B ?q9F ?q9X ?q9N ?q9T ?q9O ?q9P ?q9Q ?q9k ?q9d ?q9u ?q9l ?q9o ?_; (case q9B => k_asm); (case q9F => k_asm); (case q9X => k_asm); (case q9N => k_asm); (case q9T => k_asm); (case q9O => assumption); (case q9P => (refine ⟨⟨?_, ?_, ?_⟩, hD3, trivial⟩ <;> k_ne)); (case q9Q => exact hPo); (case q9k => exact rfl); (case q9d => ktr_room); (case q9u => ktr_units); (case q9l => assumption); (case q9o => assumption); k_whole); intro h' tk' it' kt' na' k' t' hr' hk' F' N'; (try dsimp only [Lx.led, List.cons_append, List.nil_append] at N'); (try k_sweep)))
  k_with "compareOp NotEq str str" => ((k_here; (refine' ne_str_same ?q9e ?_; (case q9e => exact empty_S.symm))))
  k_with "exec For Name Name cons nil" => (((rename_i zz1 zz2 zz3 zz4 zz5 zz6 zz7 zz8 zz9 zz10 zz11 zz12 zz13 zz14 zz15 zz16 zz17 zz18 zz19 zz20; revert w mg mb fa pm cd doc p9 loose9 mean9 dr g0 K' T9 L0 l0 zz1 o' T d' x ps' O ox o'_2 d'_1 D zz2 zz3 zz4 zz5 zz6 hLT hN4 hD4 t'_3 o'_3 hO2 lT li t d'_2 ht8 htl hN5 tok x' d'_3 hh' kt'_1 h'_3 o'_1 zz7 g9 ys2 Tl D2 h tk_1 tkI mE h6 o6 Ts pa pb pta ptb zz8 tk_2 t₁ u₁ v₁ bare0 tri0 D3 ys vs1 n1 it1 i1 ps1 qs1 rs hrs hIr hp ge dr1 tkn hb pp hA hp1 hper hP off9 hPo h'_1 t'_1 zz9 h'_1_1 tk_3 h'_2 tk_4 hyl hpl tkS sd hsd h'_4 tk_5 t₁_1 u₁_1 v₁_1 vk hp5 ge5 dr5 tk5 os5 hb4 N hD3 k1 k2 e1 e2 hk1 hk2 hkp hkr X' zz10 zz11 zz12 zz13 zz14 zz15 nq' tv' zz16 zz17 zz18 zz19 zz20 h' tk' it' kt' na' k' t' hr' hk' F' N' tk; exact hP9.out)))
  intro w; revert w; (set_option tactic.hygienic true in intros)
  rename_i w mg mb fa pm cd doc p9 loose9 mean9 dr g0 K' T9 L0 l0 t' o' T d' x ps' O ox o'_2 d'_1 D it' kt' na' k' hk' hLT hN4 hD4 t'_3 o'_3 hO2 lT li t d'_2 ht8 htl hN5 tok x' d'_3 hh' kt'_1 h'_3 o'_1 tk g9 ys2 Tl D2 h tk_1 tkI mE h6 o6 Ts pa pb pta ptb h' tk_2 t₁ u₁ v₁ bare0 tri0 D3 ys vs1 n1 it1 i1 ps1 qs1 rs hrs hIr hp ge dr1 tkn hb pp hA hp1 hper hP off9 hPo h'_1 t'_1 tk' h'_1_1 tk_3 h'_2 N' tk_4 hyl hpl tkS sd F' hsd X' h'_4 tk_5 t₁_1 u₁_1 v₁_1 F9 vk hp5 ge5 dr5 tk5 os5 F4 N4 hb4 a_3
  have F : Fr g0 L0 hp5 (fun y => if y = Str.ofString "cut" then vk else if y = Str.ofString "side" then some (Value.int (sd : Int) tkS) else if y = Str.ofString "owns" then some (Value.ref D3) else perM pp tok mE y) := F4
  have N := N4
  clear F4 N4 a_3 F'
  have hD3 : (@Ne Nat D3 x.pb) ∧ (@Ne Nat D3 x.dM) ∧ (@Ne Nat D3 x.atl) := (prel1 (oD := LCg.lst ys) off9).1
  obtain ⟨k1, k2, e1, e2, hk1, hk2, hkp, hkr⟩ := hA.ends
  revert X'; k_fill; intro X'
  w_strict (k_steps)⟩
end Mine
end

section
set_option maxRecDepth 100000
set_option maxHeartbeats 8000000
set_option tactic.hygienic false
namespace Mine
noncomputable def st21 : { P : Prop // Box P → st20.1 } := ⟨_, fun hP9 => by
  k_with_none
  w_top off
  k_with "lt" => (first | (with_reducible assumption) | (apply And.left; (first | (with_reducible assumption) | (apply And.right; (first | (with_reducible assumption) | (apply And.right; (first | (with_reducible assumption) | (apply And.right; (first | (with_reducible assumption) | (apply And.right; (first | (with_reducible assumption) | (apply And.right; (first | (with_reducible assumption) | (apply And.right; (first | (with_reducible assumption) | (apply And.right; (first | (with_reducible assumption) | (apply And.right; (first | (with_reducible assumption) | (apply And.right; (first | (with_reducible assumption) | (apply And.right; (first | (with_reducible assumption) | (apply And.right; (first | (with_reducible assumption) | (apply And.right; (first | (with_reducible assumption) | (apply And.right; (first | (with_reducible assumption) | (apply And.right; (first | (with_reducible assumption) | (apply And.right; (first | (with_reducible assumption) | (apply And.right; (first | (with_reducible assumption) | (apply And.right; (first | (with_reducible assumption) | (apply And.right; (first | (with_reducible assumption) | (apply And.right; (first | (with_reducible assumption) | (apply And.right; (first | (with_reducible assumption) | (apply And.right; (first | (with_reducible assumption) | (apply And.right; (first | (with_reducible assumption) | (apply And.right; (first | (with_reducible assumption) | (apply And.right; (first | (with_reducible assumption) | (apply And.right; (with_reducible assumption)))))))))))))))))))))))))))))))))))))))))))))))))))) | (apply And.right; (first | (with_reducible assumption) | (apply And.right; (first | (with_reducible assumption) | (apply And.right; (first | (with_reducible assumption) | (apply And.right; (first | (with_reducible assumption) | (apply And.right; (first | (with_reducible assumption) | (apply And.right; (first | (with_reducible assumption) | (apply And.right; (first | (with_reducible assumption) | (apply And.right; (first | (with_reducible assumption) | (apply And.right; (first | (with_reducible assumption) | (apply And.right; (first | (with_reducible assumption) | (apply And.right; (first | (with_reducible assumption) | (apply And.right; (first | (with_reducible assumption) | (apply And.right; (first | (with_reducible assumption) | (apply And.right; (first | (with_reducible assumption) | (apply And.right; (first | (with_reducible assumption) | (apply And.right; (first | (with_reducible assumption) | (apply And.right; (first | (with_reducible assumption) | (apply And.right; (first | (with_reducible assumption) | (apply And.right; (first | (with_reducible assumption) | (apply And.right; (first | (with_reducible assumption) | (apply And.right; (first | (with_reducible assumption) | (apply And.right; (first | (with_reducible assumption) | (apply And.right; (first | (with_reducible assumption) | (apply And.right; (first | (with_reducible assumption) | (apply And.right; (first | (with_reducible assumption) | (apply And.right; (with_reducible assumption)))))))))))))))))))))))))))))))))))))))))))))))))))))
  k_with "k_ne" => (refine neN ?_; (try dsimp only); first | k_extra "lt" | (refine Ne.symm ?_; k_extra "lt") | (refine Nat.ne_of_lt ?_; k_extra "lt") | (refine Nat.ne_of_gt ?_; k_extra "lt") | (refine Nat.ne_of_lt (Nat.lt_add_right _ ?_); k_extra "lt") | (refine Nat.ne_of_gt (Nat.lt_add_right _ ?_); k_extra "lt") | (refine Nat.ne_of_lt (Nat.lt_add_right _ (Nat.lt_add_right _ ?_)); k_extra "lt") | (refine Nat.ne_of_gt (Nat.lt_add_right _ (Nat.lt_add_right _ ?_)); k_extra "lt") | (refine cell_ne2 ?_; decide) | (refine cell_ne ?_; k_extra "lt") | (refine Ne.symm (cell_ne ?_); k_extra "lt"))
  k_with "subscriptTail Name Slice str ref" => ((k_here; (with_reducible show wpAny _ _ (subscriptTail _ (PySem.Expr.Slice (some _) none none _) _ _) _ _ _); k_dflt (refine' sub_S_sn ?q9F ?q9N ?q9h ?q9z ?_ ?q9s ?q9t; (case q9F => k_asm); (case q9N => k_asm); (case q9h => (simp only [S_len, List.length_drop]; omega)); (case q9z => omega); (case q9s => with_unfolding_all rfl); (case q9t => first | (intro _; with_unfolding_all rfl))); intro h' t' k' F' N'); (try (revert h' t' k' F' N'; set_option tactic.hygienic true in intros)))
  k_with "compareOp NotEq str str" => ((k_here; first | exact ne_str_same (end_eq hk1) ?_ | exact ne_str_same (end_eq hk2) ?_ | refine ne_str_same (end_eq hk1) ?_ | refine ne_str_same (end_eq hk2) ?_))
  k_with "compareOp Eq str str" => ((k_here; first | refine eq_str_diff (end_ne hk1) ?_ | refine eq_str_diff (end_ne hk2) ?_))
  k_with "exec Return some" => (((rename_i zz1 zz2 zz3 zz4 zz5 zz6 zz7 zz8 zz9 zz10 zz11 zz12 zz13 zz14 zz15 zz16 zz17 zz18 zz19 zz20 zz21 zz22 zz23 zz24 zz25 zz26 zz27 zz28 zz29 zz30 zz31 zz32 zz33; revert w mg mb fa pm cd doc p9 loose9 mean9 dr g0 K' T9 L0 l0 t' o' T d' x ps' O ox o'_2 d'_1 D it' kt' na' k' hk' hLT hN4 hD4 t'_3 o'_3 hO2 lT li t d'_2 ht8 htl hN5 tok x' d'_3 hh' kt'_1 h'_3 o'_1 zz1 g9 ys2 Tl D2 h tk_1 tkI mE h6 o6 Ts pa pb pta ptb h' tk_2 t₁ u₁ v₁ bare0 tri0 D3 ys vs1 n1 it1 i1 ps1 qs1 rs hrs hIr hp ge dr1 tkn hb pp hA hp1 hper hP off9 hPo h'_1 t'_1 tk' h'_1_1 tk_3 h'_2 tk_4 hyl hpl tkS sd hsd h'_4 tk_5 t₁_1 u₁_1 v₁_1 vk hp5 ge5 dr5 tk5 os5 hb4 N hD3 k1 k2 e1 e2 hk1 hk2 hkp hkr h'_5 tk'_1 nq' tv' h'_6 tk'_2 nq'_1 tv'_1 l' h'_7 l1 h'_8 tk_6 h'_9 tk'_3 it'_1 kt'_2 na'_1 k'_1 t'_2 hr' hk'_1 tk_7 hl1 hl2 hs1 hs2 hd1 hd2 X' zz2 zz3 zz4 zz5 zz6 zz7 zz8 zz9 zz10 zz11 zz12 zz13 zz14 zz15 zz16 zz17 zz18 zz19 zz20 zz21 zz22 zz23 zz24 zz25 zz26 zz27 zz28 zz29 zz30 h'_10 tk_8 a a_1 zz31 zz32 zz33 tk; exact hP9.out)))
  intro w; revert w; (set_option tactic.hygienic true in intros)
  rename_i w mg mb fa pm cd doc p9 loose9 mean9 dr g0 K' T9 L0 l0 t' o' T d' x ps' O ox o'_2 d'_1 D it' kt' na' k' hk' hLT hN4 hD4 t'_3 o'_3 hO2 lT li t d'_2 ht8 htl hN5 tok x' d'_3 hh' kt'_1 h'_3 o'_1 tk g9 ys2 Tl D2 h tk_1 tkI mE h6 o6 Ts pa pb pta ptb h' tk_2 t₁ u₁ v₁ bare0 tri0 D3 ys vs1 n1 it1 i1 ps1 qs1 rs hrs hIr hp ge dr1 tkn hb pp hA hp1 hper hP off9 hPo h'_1 t'_1 tk' h'_1_1 tk_3 h'_2 tk_4 hyl hpl tkS sd hsd h'_4 tk_5 t₁_1 u₁_1 v₁_1 vk hp5 ge5 dr5 tk5 os5 hb4 N hD3 k1 k2 e1 e2 hk1 hk2 hkp hkr X' h'_5 tk'_1 nq' tv' h'_6 tk'_2 nq'_1 tv'_1 l' h'_7 l1 h'_8 tk_6 h'_9 tk'_3 it'_1 kt'_2 na'_1 k'_1 t'_2 hr' hk'_1 F' N' tk_7
  have hl1 : (S (t.drop k1)).length = t.length - k1 := by rw [S_len, List.length_drop]
  have hl2 : (S (t.drop k2)).length = t.length - k2 := by rw [S_len, List.length_drop]
  have hs1 : (S (t.drop k1)).length ≤ 8 := by rw [hl1]; exact Nat.le_trans (Nat.sub_le _ _) ht8.2
  have hs2 : (S (t.drop k2)).length ≤ 8 := by rw [hl2]; exact Nat.le_trans (Nat.sub_le _ _) ht8.2
  have hd1 := Nat.sub_le t.length k1
  have hd2 := Nat.sub_le t.length k2
  revert X'; k_fill; intro X'
  w_strict (k_steps)⟩
end Mine
end

section
set_option maxRecDepth 100000
set_option maxHeartbeats 4000000
namespace Mine
section
variable {prog : Program} {w : World} {A : Around} {E : Value → Shared → Prop} {s : Shared}
theorem lt_yes {x y : Int} {t u : Tok} {Q : Value → Shared → Prop} (e : x < y) (h : Q (.bool true) s) : wpAny (model prog w) A (compareOp .Lt (.int x t) (.int y u)) Q E s :=
  PyProof.Rows.lt_int (by rw [decide_eq_true e]; exact h)
theorem eq_int_same {x y : Int} {t u : Tok} {Q : Value → Shared → Prop} (e : x = y) (h : Q (.bool true) s) : wpAny (model prog w) A (compareOp .Eq (.int x t) (.int y u)) Q E s :=
  PyProof.Rows.eq_int (by rw [e, beq_self_eq_true]; exact h)
theorem list_item {value slice : PySem.Expr} {l : Addr} {vs : List Value} {k : Nat} {u : Tok} {v : Value} {Q : Value → Shared → Prop} (hl : s.heap.IsList l vs.toArray) (hx : vs[k]? = some v) (hk : k < 1000) (h : Q v s)
    (hs : subscripted slice false (.ref l) (.int (k : Int) u) = operate [.ref l, .int (k : Int) u] (getItem (.ref l) (.int (k : Int) u))) :
    wpAny (model prog w) A (subscriptTail value slice (.ref l) (.int (k : Int) u)) Q E s :=
  tail_any hl.typeIs slot_list_getitem.lookup (wpAny_getItem_list hl (by omega) (by omega) (by simpa using hx) h) hs
end
theorem own_at {ys : List Value} {rs : List Nat} {k p : Nat} (hI : IntsAre ys (rs.map fun r : Nat => (r : Int))) (h : rs[k]? = some p) : ∃ t, ys[k]? = some (.int (p : Int) t) := by
  have hlt : k < ys.length := by
    rw [hI.length, List.length_map]
    exact (List.getElem?_eq_some_iff.mp h).1
  obtain ⟨n, t, e, hn⟩ := IntsAre.at hI k ys[k] (List.getElem?_eq_getElem hlt)
  rw [List.getElem?_map, h] at hn
  have : (p : Int) = n := by simpa using hn
  exact ⟨t, by rw [List.getElem?_eq_getElem hlt, e, this]⟩
theorem cut_eq {t : List Nat} {k1 k2 : Nat} (h1 : k1 < t.length) (h2 : k2 < t.length) : ((S t).length : Int) - (if ((S (t.drop k2)).length : Int) < ((S (t.drop k1)).length : Int) then ((S (t.drop k2)).length : Int) else ((S (t.drop k1)).length : Int)) = ((max k1 k2 : Nat) : Int) := by
  rw [S_len, S_len, S_len, List.length_drop, List.length_drop, Int.ofNat_sub (Nat.le_of_lt h1), Int.ofNat_sub (Nat.le_of_lt h2)]
  rcases Nat.le_total k1 k2 with h | h
  · rw [Nat.max_eq_right h]; split <;> omega
  · rw [Nat.max_eq_left h]; split <;> omega
end Mine
end

section
set_option maxRecDepth 100000
set_option maxHeartbeats 8000000
set_option tactic.hygienic false
namespace Mine
theorem st22 : st21.1 := by
  k_with_none
  w_top off
  k_with "lt" => (first | (with_reducible assumption) | (apply And.left; (first | (with_reducible assumption) | (apply And.right; (first | (with_reducible assumption) | (apply And.right; (first | (with_reducible assumption) | (apply And.right; (first | (with_reducible assumption) | (apply And.right; (first | (with_reducible assumption) | (apply And.right; (first | (with_reducible assumption) | (apply And.right; (first | (with_reducible assumption) | (apply And.right; (first | (with_reducible assumption) | (apply And.right; (first | (with_reducible assumption) | (apply And.right; (first | (with_reducible assumption) | (apply And.right; (first | (with_reducible assumption) | (apply And.right; (first | (with_reducible assumption) | (apply And.right; (first | (with_reducible assumption) | (apply And.right; (first | (with_reducible assumption) | (apply And.right; (first | (with_reducible assumption) | (apply And.right; (first | (with_reducible assumption) | (apply And.right; (first | (with_reducible assumption) | (apply And.right; (first | (with_reducible assumption) | (apply And.right; (first | (with_reducible assumption) | (apply And.right; (first | (with_reducible assumption) | (apply And.right; (first | (with_reducible assumption) | (apply And.right; (first | (with_reducible assumption) | (apply And.right; (first | (with_reducible assumption) | (apply And.right; (first | (with_reducible assumption) | (apply And.right; (first | (with_reducible assumption) | (apply And.right; (with_reducible assumption)))))))))))))))))))))))))))))))))))))))))))))))))))) | (apply And.right; (first | (with_reducible assumption) | (apply And.right; (first | (with_reducible assumption) | (apply And.right; (first | (with_reducible assumption) | (apply And.right; (first | (with_reducible assumption) | (apply And.right; (first | (with_reducible assumption) | (apply And.right; (first | (with_reducible assumption) | (apply And.right; (first | (with_reducible assumption) | (apply And.right; (first | (with_reducible assumption) | (apply And.right; (first | (with_reducible assumption) | (apply And.right; (first | (with_reducible assumption) | (apply And.right; (first | (with_reducible assumption) | (apply And.right; (first | (with_reducible assumption) | (apply And.right; (first | (with_reducible assumption) | (apply And.right; (first | (with_reducible assumption) | (apply And.right; (first | (with_reducible assumption) | (apply And.right; (first | (with_reducible assumption) | (apply And.right; (first | (with_reducible assumption) | (apply And.right; (first | (with_reducible assumption) | (apply And.right; (first | (with_reducible assumption) | (apply And.right; (first | (with_reducible assumption) | (apply And.right; (first | (with_reducible assumption) | (apply And.right; (first | (with_reducible assumption) | (apply And.right; (first | (with_reducible assumption) | (apply And.right; (first | (with_reducible assumption) | (apply And.right; (first | (with_reducible assumption) | (apply And.right; (with_reducible assumption)))))))))))))))))))))))))))))))))))))))))))))))))))))
  k_with "k_ne" => (refine neN ?_; (try dsimp only); first | k_extra "lt" | (refine Ne.symm ?_; k_extra "lt") | (refine Nat.ne_of_lt ?_; k_extra "lt") | (refine Nat.ne_of_gt ?_; k_extra "lt") | (refine Nat.ne_of_lt (Nat.lt_add_right _ ?_); k_extra "lt") | (refine Nat.ne_of_gt (Nat.lt_add_right _ ?_); k_extra "lt") | (refine Nat.ne_of_lt (Nat.lt_add_right _ (Nat.lt_add_right _ ?_)); k_extra "lt") | (refine Nat.ne_of_gt (Nat.lt_add_right _ (Nat.lt_add_right _ ?_)); k_extra "lt") | (refine cell_ne2 ?_; decide) | (refine cell_ne ?_; k_extra "lt") | (refine Ne.symm (cell_ne ?_); k_extra "lt"))
  k_with "compareOp Lt int int" => ((k_here; k_dflt (refine' lt_yes hlt9 ?_)))
  k_with "subscriptTail Name Name ref int" => ((k_here; k_dflt (refine' list_item (k := kc) ?q9l hy9 (by omega) ?_ ?q9s; (case q9l => exact News.isList (n := ys.length) (by k_asm) (by k_mem)); (case q9s => with_unfolding_all rfl))))
  k_with "compareOp Eq int int" => ((k_here; (refine' eq_int_same rfl ?_)))
  k_with "PP" => ((k_here; k_dflt (refine' PP.intro rfl ?q9F ?q9N ?q91 ?q92 ?q93 hb4; (case q9F => k_asm); (case q9N => k_asm); (case q91 => k_mem); (case q92 => k_mem); (case q93 => k_mem))))
  intro w; revert w; (set_option tactic.hygienic true in intros)
  rename_i w mg mb fa pm cd doc p9 loose9 mean9 dr g0 K' T9 L0 l0 t' o' T d' x ps' O ox o'_2 d'_1 D it' kt' na' k' hk' hLT hN4 hD4 t'_3 o'_3 hO2 lT li t d'_2 ht8 htl hN5 tok x' d'_3 hh' kt'_1 h'_3 o'_1 tk g9 ys2 Tl D2 h tk_1 tkI mE h6 o6 Ts pa pb pta ptb h' tk_2 t₁ u₁ v₁ bare0 tri0 D3 ys vs1 n1 it1 i1 ps1 qs1 rs hrs hIr hp ge dr1 tkn hb pp hA hp1 hper hP off9 hPo h'_1 t'_1 tk' h'_1_1 tk_3 h'_2 tk_4 hyl hpl tkS sd hsd h'_4 tk_5 t₁_1 u₁_1 v₁_1 vk hp5 ge5 dr5 tk5 os5 hb4 N hD3 k1 k2 e1 e2 hk1 hk2 hkp hkr h'_5 tk'_1 nq' tv' h'_6 tk'_2 nq'_1 tv'_1 l' h'_7 l1 h'_8 tk_6 h'_9 tk'_3 it'_1 kt'_2 na'_1 k'_1 t'_2 hr' hk'_1 tk_7 hl1 hl2 hs1 hs2 hd1 hd2 X' i' l1_1 it'_2 h'_10 tk'_4 hit' F' N' h'_11 t'_4 k'_2 F'_1 N'_1 tk_8 it'_3 h'_12 tk'_5 hit'_1 F'_2 N'_2 h'_13 t'_5 k'_3 F'_3 N'_3 tk_9 h'_14 tk'_6 F'_4 h'_10_1 tk_8_1 a a_1 h'_15 F'_5 N'_4 tk_10
  rename Fr _ _ _ _ => F9
  rename News _ _ _ _ => N9
  obtain ⟨c, tkc, F, hc⟩ : ∃ (c : Int) (tkc : Tok), Fr g0 L0 _ (fun y => if y = Str.ofString "cut" then some (Value.int c tkc) else if y = Str.ofString "end" then some (.str (S (t.drop k2)) tv'_1) else if y = Str.ofString "end" then some (.str (S (t.drop k1)) tv') else if y = Str.ofString "ends" then some (.ref l') else if y = Str.ofString "cut" then vk else if y = Str.ofString "side" then some (Value.int (sd : Int) tkS) else if y = Str.ofString "owns" then some (Value.ref D3) else perM pp tok mE y) ∧ c = ((max k1 k2 : Nat) : Int) := ⟨_, _, F9, cut_eq hk1 hk2⟩
  subst hc
  clear F9
  obtain ⟨t9, hy9⟩ := own_at hIr hkr
  have hlt9 : ((max k1 k2 : Nat) : Int) < (pp : Int) := by omega
  have hkc : max k1 k2 < 1000 := by omega
  generalize max k1 k2 = kc at *
  revert X'; k_fill; intro X'
  w_strict (k_steps)
end Mine
end

set_option maxRecDepth 100000 in
theorem PySem.Challenge.cw_re0059_01_holds : PySem.Challenge.rw_re0059_01.Holds :=
  Mine.st1.2 ⟨Mine.st2.2 ⟨Mine.st3.2 ⟨Mine.st4.2 ⟨Mine.st5.2 ⟨Mine.st6.2 ⟨Mine.st7.2 ⟨Mine.st8.2 ⟨Mine.st9.2 ⟨Mine.st10.2 ⟨Mine.st11.2 ⟨Mine.st12.2 ⟨Mine.st13.2 ⟨Mine.st14.2 ⟨Mine.st15.2 ⟨Mine.st16.2 ⟨Mine.st17.2 ⟨Mine.st18.2 ⟨Mine.st19.2 ⟨Mine.st20.2 ⟨Mine.st21.2 ⟨Mine.st22⟩⟩⟩⟩⟩⟩⟩⟩⟩⟩⟩⟩⟩⟩⟩⟩⟩⟩⟩⟩⟩

end
