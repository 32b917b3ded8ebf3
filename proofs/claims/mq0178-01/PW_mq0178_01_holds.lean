import PyProof.Rows.All
import Wide.All
import OpenK.AllK
import Wide.FinOn
import PySem.Challenge.RW_mq0178_01
set_option Elab.async false
section
namespace Mine
/-- the goal behind a name while what stands is taken apart -/
theorem hide {T : Prop} (h : ∀ G : Prop, (T → G) → G) : T := h T id
end Mine
end
section
open PySem PySem.W PyProof.Rows
set_option maxRecDepth 100000
set_option maxHeartbeats 8000000
namespace Mine
theorem well : PySem.Challenge.rw_mq0178_01.wellSaid = true := by kernel_rfl
noncomputable def vw : Program := { PySem.Challenge.pw_mq0178_01 with main := { PySem.Challenge.pw_mq0178_01.main with body := (PySem.Challenge.pw_mq0178_01.main.body.drop 1).take 2 ++ (PySem.Challenge.pw_mq0178_01.main.body.drop 5).take 3 ++ PySem.Challenge.pw_mq0178_01.main.body.drop 9 } }
local macro_rules | `(tactic| o_law) => `(tactic| refine holds_law well fun said => ?_)
local macro_rules | `(tactic| o_head $H) => `(tactic| (
  refine holds_open (q := vw) (loose := [PySem.Str.ofString "_initial_missing", PySem.Str.ofString "reduce"]) (Xt := fun s => xlAt vw [] s && recOk (RowW.records (OpenRow.toRowW (OpenLaw.row PySem.Challenge.rw_mq0178_01))) s) (XP := XL vw []) (Yf := Hook.obs $H) (Ya := Hook.val $H) (YP := Hook.says $H) (N := 1288) ?hl (Hook.of $H) (Hook.keeps $H) (fun s e => xl_of s (Bool.and_eq_true_iff.mp e).1) XL.keeps (by rfl) (by rfl) (by rfl) (fun s e => recFacts_of (Bool.and_eq_true_iff.mp e).2) (by rfl) (by first | assumption | decide +kernel) (by decide +kernel) ⟨rfl, rfl, rfl, rfl, rfl, by decide +kernel⟩ ?hw ?hc
  case hl => (intro w; kernel_rfl)))
open_top hd for PySem.Challenge.rw_mq0178_01
end Mine
end
section
open PySem PySem.W PySem.Calls PyProof.Rows
set_option maxRecDepth 100000
set_option maxHeartbeats 8000000
namespace Mine
/-- what stood stands -/
def Keeps (h h' : Heap) : Prop := ∀ b o, h.get? b = some o → h'.get? b = some o
theorem Keeps.refl (h : Heap) : Keeps h h := fun _ _ e => e
theorem Keeps.trans {a b c : Heap} (x : Keeps a b) (y : Keeps b c) : Keeps a c := fun _ _ e => y _ _ (x _ _ e)
/-- made between the two -/
structure New (h h' : Heap) (D : Addr) (o : Obj) : Prop where
  there : h'.get? D = some o
  fresh : h.get? D = none
theorem New.mono {h h' h'' : Heap} {D : Addr} {o : Obj} (x : New h h' D o) (k : Keeps h' h'') : New h h'' D o := ⟨k _ _ x.there, x.fresh⟩
theorem New.older {h₁ h h' : Heap} {D : Addr} {o : Obj} (x : New h h' D o) (k : Keeps h₁ h) : New h₁ h' D o := ⟨x.there, by
  cases q : h₁.get? D with
  | none => rfl
  | some o' => have := k _ _ q; rw [x.fresh] at this; cases this⟩

/-- the base of a callee: the caller's heap, what stands in the callee's ledger hidden -/
structure Hid (h : Heap) (news : List (Addr × Obj)) (g : Heap) : Prop where
  rest : ∀ b o, h.get? b = some o → (∀ p ∈ news, p.1 ≠ b) → g.get? b = some o
  own : ∀ p ∈ news, h.get? p.1 = some p.2
theorem Hid.keeps {h g h' : Heap} {news news' : List (Addr × Obj)} {L : Addr} {m : Str → Option Value} (H : Hid h news g) (F : Fr g L h' m) (N : News g L h' news') (hs : ∀ p ∈ news, p ∈ news') : Keeps h h' := fun b o e => by
  by_cases hb : ∀ p ∈ news, p.1 ≠ b
  · exact F.keep b o (H.rest b o e hb)
  · refine hide fun hideG hideH => ?_
    obtain ⟨p, hq⟩ := Classical.not_forall.mp hb
    obtain ⟨hp, hpb⟩ := Classical.not_imp.mp hq
    refine hideH ?_; clear hideH hideG
    have hpb := Classical.not_not.mp hpb
    subst hpb
    have := H.own p hp
    rw [e] at this
    cases this
    exact (N p (hs p hp)).1
theorem Hid.fresh {h g h' : Heap} {news news' : List (Addr × Obj)} {L D : Addr} {o : Obj} (H : Hid h news g) (N : News g L h' news') (hm : (D, o) ∈ news') (hne : ∀ p ∈ news, p.1 ≠ D) : New h h' D o := ⟨(N _ hm).1, by
  cases q : h.get? D with
  | none => rfl
  | some o' => have := H.rest D o' q hne; rw [(N _ hm).2.2] at this; cases this⟩
theorem news_more {h₀ h h' : Heap} {L : Addr} {m : Str → Option Value} {news : List (Addr × Obj)} {D : Addr} {o : Obj} (F : Fr h₀ L h m) (x : New h h' D o) (N : News h₀ L h' news) : News h₀ L h' ((D, o) :: news) := fun p hp => by
  rcases List.mem_cons.mp hp with rfl | hp
  · refine ⟨x.there, fun q => ?_, ?_⟩
    · refine hide fun hideG hideH => ?_
      obtain ⟨oL, _, _, hL, _⟩ := F.ns
      refine hideH ?_; clear hideH hideG
      have := x.fresh
      dsimp only at q
      rw [q, hL] at this; cases this
    · cases q : h₀.get? D with
      | none => rfl
      | some o' => have := F.keep _ _ q; rw [x.fresh] at this; cases this
  · exact N p hp
theorem news_ne {h₀ h h' : Heap} {L : Addr} {news : List (Addr × Obj)} {D : Addr} {o : Obj} (N : News h₀ L h news) (x : New h h' D o) : ∀ p ∈ news, p.1 ≠ D := fun p hp q => by
  have := (N p hp).1
  rw [q, x.fresh] at this; cases this

section
variable {prog : Program} {w : World} {A A₀ : Around} {E : Value → Shared → Prop} {s : Shared} {K : Frag} {C L : Addr} {h₀ base : Heap} {m mg mb : Str → Option Value} {news : List (Addr × Obj)} {p : Program} {loose : List Str} {mean : ExcName → Option Value} {Q : Value → Shared → Prop}
/-- a call of a def of the text: the caller's objects stand in the base, but for those of the ledger named -/
theorem code_defG {env : Env} {outer : List Env} {R : Result → Shared → Prop} {name qual : Str} {params : Arguments} {body : List Stmt} {scope : Scope} {dV kV doc pm cdv ct oc : Value} {an od : Option Addr} {osl : Array (Option Value)} {f : Addr} {args : Args} {binds : List (Str × Value)}
    (B : Below A₀ base outer h₀) (F : Fr h₀ L s.heap m) (X₀ : K.In h₀) (N : News h₀ L s.heap news) (T : Top p loose mean mg mb h₀) (hA : A.frames = some (env :: outer)) (hf : env.frame = some L) (hke : env.scope.kind = .function)
    (ho : K.lookup f = some ⟨oc, od, .func (fnOf name qual params body scope dV kV doc pm an cdv ct), osl⟩) (hcd : codeIn K cdv qual = true) (hroom : A.depth < recursionLimit)
    (hbind : BindsTo s (fnOf name qual params body scope dV kV doc pm an cdv ct) args binds) (hloc : ∀ y ∈ binds, scope.names.lookup y.1 = some .local)
    (h : ∀ g L' h₁, Fr h₀ L g m → Fr g L' h₁ (fun y => binds.reverse.lookup y) → News g L' h₁ news → Below A base (env :: outer) g → K.In g → Top p loose mean mg mb g → Hid s.heap news g →
      wpAny (model prog w) (A.deeper (envOf qual scope L' f cdv)) (execs body (envOf qual scope L' f cdv))
        (fun fl s' => LeaveK h₀ L m g R (match fl with | .ret v => v | _ => .none) s')
        (fun e s' => wpAny (model prog w) (A.deeper (envOf qual scope L' f cdv)) (leaving (envOf qual scope L' f cdv) e) (fun _ s'' => R (.error e) s'') (fun e' s'' => R (.error e') s'') s')
        { s with heap := h₁, toks := s.toks + binds.length })
    (hco : scope.isCoroutine = false) (hgen : scope.isGenerator = false) (hk : scope.kind = .function)
    (hcell : ∀ x ∈ scope.names, x.2 ≠ .cell) : codeAny (model prog w) A (.call (.ref f) args) R s := by
  refine hide fun hideG hideH => ?_
  obtain ⟨FG, BG, st, lv⟩ := groundX (R := R) B F N hA hf hke
  refine hideH ?_; clear hideH hideG
  refine codeAny_call_def (fd := fnOf name qual params body scope dV kV doc pm an cdv ct) (body := body) (binds := binds) hroom ((X₀.keeps F.keep) _ _ ho) rfl (T.nolimit.keeps F.keep) (codeRec_of (X₀.keeps F.keep) hcd) rfl hbind hcell hloc (fun h₁ hns hk₁ => ?_) hco hgen hk
  have H : Hid s.heap news (hideAll s.heap (news.map (·.1))) := ⟨fun b o e hb => hideAll_get _ e fun q => by
    refine hide fun hideG hideH => ?_
    obtain ⟨p, hp, e⟩ := List.mem_map.mp q
    refine hideH ?_; clear hideH hideG
    exact hb p hp e, fun p hp => (N p hp).1⟩
  exact wpAny_mono (h _ s.heap.objs.size h₁ FG ⟨hns, fun b o e => hk₁ b o (of_hideAll _ e), Nat.le_of_eq (hideAll_size _ _)⟩
    (fun p hp => ⟨hk₁ _ _ (N p hp).1, Nat.ne_of_lt (Heap.lt_size (N p hp).1), hideAll_none _ (List.mem_map_of_mem hp)⟩) BG (X₀.keeps st) (T.keeps st) H) (fun fl s' hl => lv _ _ hl) fun _ _ y => y
end
end Mine
end
section
open PySem PySem.W PySem.W.X PySem.Calls PyProof.Rows
set_option maxRecDepth 100000
set_option maxHeartbeats 4000000
namespace Mine
section
variable {prog : Program} {w : World} {A A₀ : Around} {s : Shared} {K : Frag} {L : Addr} {h₀ base : Heap} {m mg mb : Str → Option Value} {news : List (Addr × Obj)} {p : Program} {loose : List Str} {mean : ExcName → Option Value}
/-- a call of a def of the text whose names are captured -/
theorem code_cellsG {env : Env} {outer : List Env} {R : Result → Shared → Prop} {name qual : Str} {params : Arguments} {body : List Stmt} {scope : Scope} {dV kV doc pm cdv ct oc : Value} {an od : Option Addr} {osl : Array (Option Value)} {f : Addr} {args : Args} {binds : List (Str × Value)}
    (B : Below A₀ base outer h₀) (F : Fr h₀ L s.heap m) (X₀ : K.In h₀) (N : News h₀ L s.heap news) (T : Top p loose mean mg mb h₀) (hA : A.frames = some (env :: outer)) (hf : env.frame = some L) (hke : env.scope.kind = .function)
    (ho : K.lookup f = some ⟨oc, od, .func (fnOf name qual params body scope dV kV doc pm an cdv ct), osl⟩) (hcd : codeIn K cdv qual = true) (hroom : A.depth < recursionLimit)
    (hbind : BindsTo s (fnOf name qual params body scope dV kV doc pm an cdv ct) args binds) (hkind : (binds.all fun y => scope.names.lookup y.1 == some .local || scope.names.lookup y.1 == some .cell) = true)
    (hnd : ((cellsFrom 0 scope.names []).map (·.1)).Nodup)
    (h : ∀ g L' h₁ tk cells, Fr h₀ L g m → Fr g L' h₁ (bindL (envOfC qual scope L' f cdv).kindOf binds fun _ => none) → News g L' h₁ (cells ++ news) →
      CellsAre (bindC (envOfC qual scope L' f cdv).kindOf binds fun _ => none) (cellsFrom (L' + 1) scope.names []) cells → Below A base (env :: outer) g → K.In g → Top p loose mean mg mb g → Hid s.heap news g → (∀ q ∈ cells, s.heap.get? q.1 = none) →
      wpAny (model prog w) (A.deeper (envOfC qual scope L' f cdv)) (execs body (envOfC qual scope L' f cdv))
        (fun fl s' => LeaveK h₀ L m g R (match fl with | .ret v => v | _ => .none) s')
        (fun e s' => wpAny (model prog w) (A.deeper (envOfC qual scope L' f cdv)) (leaving (envOfC qual scope L' f cdv) e) (fun _ s'' => R (.error e) s'') (fun e' s'' => R (.error e') s'') s')
        { s with heap := h₁, toks := tk })
    (hco : scope.isCoroutine = false) (hgen : scope.isGenerator = false) (hk : scope.kind = .function) : codeAny (model prog w) A (.call (.ref f) args) R s := by
  refine hide fun hideG hideH => ?_
  obtain ⟨FG, BG, st, lv⟩ := groundX (R := R) B F N hA hf hke
  refine hideH ?_; clear hideH hideG
  refine codeAny_call_function hroom ((X₀.keeps F.keep) _ _ ho) rfl hco hgen rfl (codeRec_of (X₀.keeps F.keep) hcd) (hbind _ _ _ _ ?_)
  refine wpAny_newFunctionEnv_cells hk (kindsX hkind _) fun env' he s' x => ?_
  subst he
  refine ⟨(T.nolimit.keeps F.keep).keeps x.toInCall.keep, codeAny_func ?_⟩
  refine hide fun hideG hideH => ?_
  obtain ⟨h₁, tk, rfl, _⟩ := x.done
  refine hideH ?_; clear hideH hideG
  have hk₁ := x.toInCall.keep
  refine hide fun hideG hideH => ?_
  obtain ⟨cells, NC, Y⟩ := Cl.news (h₀ := s.heap) (Nat.le_refl _) fun n c hm => ⟨x.cell n c (lookup_of_mem_nodup (cellsFrom_names scope.names 0 (s.heap.objs.size + 1) [] [] rfl ▸ hnd) hm), x.above n c hm⟩
  refine hideH ?_; clear hideH hideG
  have H : Hid s.heap news (hideAll s.heap (news.map (·.1))) := ⟨fun b o e hb => hideAll_get _ e fun q => by
    refine hide fun hideG hideH => ?_
    obtain ⟨p, hp, e⟩ := List.mem_map.mp q
    refine hideH ?_; clear hideH hideG
    exact hb p hp e, fun p hp => (N p hp).1⟩
  refine wpAny_mono (h _ s.heap.objs.size h₁ tk cells FG ⟨x.toInCall.ns, fun b o e => hk₁ b o (of_hideAll _ e), Nat.le_of_eq (hideAll_size _ _)⟩ (fun p hp => ?_) Y BG (X₀.keeps st) (T.keeps st) H (fun q hq => (NC q hq).2.2)) (fun fl s' hl => lv _ _ hl) fun _ _ y => y
  rcases List.mem_append.mp hp with hp | hp
  · refine ⟨(NC p hp).1, (NC p hp).2.1, ?_⟩
    cases q : (hideAll s.heap (news.map (·.1))).get? p.1 with
    | none => rfl
    | some o => have := of_hideAll _ q; rw [(NC p hp).2.2] at this; cases this
  · exact ⟨hk₁ _ _ (N p hp).1, Nat.ne_of_lt (Heap.lt_size (N p hp).1), hideAll_none _ (List.mem_map_of_mem hp)⟩
end
end Mine
end
section
open PySem PySem.W PySem.Calls PyProof.Rows
set_option maxRecDepth 100000
set_option maxHeartbeats 4000000
namespace Mine
/-- two states alike beside heap and toks -/
def SameB (s s' : Shared) : Prop := s'.gens = s.gens ∧ s'.drawn = s.drawn ∧ s'.os = s.os
theorem SameB.refl (s : Shared) : SameB s s := ⟨rfl, rfl, rfl⟩
/-- a sign for a line to stop once -/
def Mark : Prop := True
theorem Mark.yes : Mark := trivial
def HaltC (P : Prop) : Prop := P
theorem HaltC.mk {P : Prop} (h : HaltC P) : P := h
theorem HaltC.get {P : Prop} (h : P) : HaltC P := h
/-- a sign: new lists need no place above the ledger -/
def LedOk : Prop := True
theorem LedOk.yes : LedOk := trivial
section
variable {M : Model} {A : Around} {E : Value → Shared → Prop} {s s₀ s₁ : Shared} {h₀ : Heap} {L a : Addr} {m : Str → Option Value} {cn : Str} {cs : Scope} {ccd : Value} {cl : List (Str × Addr)} {x : Str} {v : Value} {news : List (Addr × Obj)}
theorem gen_state {α : Type} {c : Sem α} {Q : α → Shared → Prop} {h : Heap} {g d t o} (S₁ : SameB s₀ s₁)
    (eg : g = s₁.gens) (ed : d = s₁.drawn) (eo : o = s₁.os) (H : ∀ s', SameB s₀ s' → s'.heap = h → wpAny M A c Q E s') : wpAny M A c Q E (Shared.mk h g d t o) :=
  H _ ⟨eg.trans S₁.1, ed.trans S₁.2.1, eo.trans S₁.2.2⟩ rfl
theorem gen_FN {α : Type} {c : Sem α} {Q : α → Shared → Prop} {h : Heap} {g d t o} (S₁ : SameB s₀ s₁)
    (eg : g = s₁.gens) (ed : d = s₁.drawn) (eo : o = s₁.os) (F : Fr h₀ L h m) (N : News h₀ L h news) (H : ∀ s', SameB s₀ s' → s'.heap = h → Fr h₀ L s'.heap m → News h₀ L s'.heap news → wpAny M A c Q E s') : wpAny M A c Q E (Shared.mk h g d t o) :=
  H _ ⟨eg.trans S₁.1, ed.trans S₁.2.1, eo.trans S₁.2.2⟩ rfl F N
theorem gen_tk {α : Type} {c : Sem α} {Q : α → Shared → Prop} {h : Heap} {g d t o} (S₁ : SameB s₀ s₁)
    (eh : h = s₁.heap) (eg : g = s₁.gens) (ed : d = s₁.drawn) (eo : o = s₁.os) (H : ∀ t', wpAny M A c Q E (Shared.mk s₁.heap s₁.gens s₁.drawn t' s₁.os)) : wpAny M A c Q E (Shared.mk h g d (t + 1) o) := by
  rw [eh, eg, ed, eo]
  exact H _
theorem same_end {Q : Value → Shared → Prop} {v : Value} {h : Heap} {g d t o} (S₁ : SameB s₀ s₁)
    (eg : g = s₁.gens) (ed : d = s₁.drawn) (eo : o = s₁.os) (H : Q v { s₀ with heap := h, toks := t }) : Q v (Shared.mk h g d t o) := by
  obtain ⟨a, b, c⟩ := S₁
  rw [eg, ed, eo, a, b, c]
  exact H
/-- where a turn ends -/
theorem turn_eq {sL : Shared} {h : Heap} {g d t o} (S₁ : SameB s₀ s₁) (S : SameB s₀ sL) (eg : g = s₁.gens) (ed : d = s₁.drawn) (eo : o = s₁.os) : Shared.mk h g d t o = { sL with heap := h, toks := t } := by
  obtain ⟨a, b, c⟩ := S₁
  obtain ⟨a', b', c'⟩ := S
  rw [eg, ed, eo, a, b, c, a', b', c']
theorem storeX_G {Q : Unit → Shared → Prop} (S₁ : SameB s₀ s₁) (eg : s.gens = s₁.gens) (ed : s.drawn = s₁.drawn) (eo : s.os = s₁.os) (F : Fr h₀ L s.heap m) (N : News h₀ L s.heap news)
    (h : ∀ s', SameB s₀ s' → let m' := fun y => if y = x then some v else m y; Fr h₀ L s'.heap m' → News h₀ L s'.heap news → Q () s')
    (hk : cs.kind = .function := by rfl) (hx : (envX cn cs L a ccd cl).kindOf x = some .local := by rfl) : wpAny M A (storeName (envX cn cs L a ccd cl) x v) Q E s :=
  storeX_L F N (fun _ F' N' => h _ ⟨eg.trans S₁.1, ed.trans S₁.2.1, eo.trans S₁.2.2⟩ F' N') hk hx
theorem newList_G {vs : List Value} {Q : Value → Shared → Prop} (S₁ : SameB s₀ s₁) (eg : s.gens = s₁.gens) (ed : s.drawn = s₁.drawn) (eo : s.os = s₁.os) (F : Fr h₀ L s.heap m) (N : News h₀ L s.heap news)
    (h : ∀ l s', let led := (l, W.listOf vs.toArray 0) :: news; SameB s₀ s' → Fr h₀ L s'.heap m → News h₀ L s'.heap led → Q (.ref l) s') (hsz : vs.length ≤ sizeLine := by size_fits) : wpAny M A (newList vs) Q E s :=
  newList_K F N (fun _ _ F' N' _ => h _ _ ⟨eg.trans S₁.1, ed.trans S₁.2.1, eo.trans S₁.2.2⟩ F' N') hsz
theorem newList_L {vs : List Value} {Q : Value → Shared → Prop} (S₁ : SameB s₀ s₁) (eg : s.gens = s₁.gens) (ed : s.drawn = s₁.drawn) (eo : s.os = s₁.os) (F : Fr h₀ L s.heap m) (N : News h₀ L s.heap news)
    (h : ∀ l s', let led := (l, W.listOf vs.toArray 0) :: news; SameB s₀ s' → Fr h₀ L s'.heap m → News h₀ L s'.heap led → (∀ p ∈ news, p.1 < l) → Q (.ref l) s') (hsz : vs.length ≤ sizeLine := by size_fits) : wpAny M A (newList vs) Q E s :=
  newList_K F N (fun _ _ F' N' l1 => h _ _ ⟨eg.trans S₁.1, ed.trans S₁.2.1, eo.trans S₁.2.2⟩ F' N' l1) hsz
end
end Mine
end
section
open PySem PySem.W PySem.W.X PySem.Calls PyProof.Rows
set_option maxRecDepth 100000
set_option maxHeartbeats 4000000
namespace Mine
theorem fr_known {g h : Heap} {L : Addr} {m : Str → Option Value} {n : Str} {v : Value} (F : Fr g L h m) (e : m n = some v) : Fr g L h (fun z => if z = n then some v else m z) := by
  have : m = fun z => if z = n then some v else m z := by
    funext z
    by_cases q : z = n
    · rw [if_pos q, q, e]
    · rw [if_neg q]
  rw [← this]
  exact F
theorem fr_known2 {g h : Heap} {L : Addr} {m : Str → Option Value} {n0 : Str} {v0 : Value} {n1 : Str} {v1 : Value} (F : Fr g L h m) (e0 : m n0 = some v0) (e1 : m n1 = some v1) : Fr g L h (fun z => if z = n0 then some v0 else if z = n1 then some v1 else m z) := by
  have : m = fun z => if z = n0 then some v0 else if z = n1 then some v1 else m z := by
    funext z
    by_cases q0 : z = n0
    · simp only [ if_pos q0]; rw [q0, e0]
    by_cases q1 : z = n1
    · simp only [if_neg q0,  if_pos q1]; rw [q1, e1]
    simp only [if_neg q0, if_neg q1]
  rw [← this]
  exact F
theorem fr_known3 {g h : Heap} {L : Addr} {m : Str → Option Value} {n0 : Str} {v0 : Value} {n1 : Str} {v1 : Value} {n2 : Str} {v2 : Value} (F : Fr g L h m) (e0 : m n0 = some v0) (e1 : m n1 = some v1) (e2 : m n2 = some v2) : Fr g L h (fun z => if z = n0 then some v0 else if z = n1 then some v1 else if z = n2 then some v2 else m z) := by
  have : m = fun z => if z = n0 then some v0 else if z = n1 then some v1 else if z = n2 then some v2 else m z := by
    funext z
    by_cases q0 : z = n0
    · simp only [ if_pos q0]; rw [q0, e0]
    by_cases q1 : z = n1
    · simp only [if_neg q0,  if_pos q1]; rw [q1, e1]
    by_cases q2 : z = n2
    · simp only [if_neg q0, if_neg q1,  if_pos q2]; rw [q2, e2]
    simp only [if_neg q0, if_neg q1, if_neg q2]
  rw [← this]
  exact F
theorem fr_known4 {g h : Heap} {L : Addr} {m : Str → Option Value} {n0 : Str} {v0 : Value} {n1 : Str} {v1 : Value} {n2 : Str} {v2 : Value} {n3 : Str} {v3 : Value} (F : Fr g L h m) (e0 : m n0 = some v0) (e1 : m n1 = some v1) (e2 : m n2 = some v2) (e3 : m n3 = some v3) : Fr g L h (fun z => if z = n0 then some v0 else if z = n1 then some v1 else if z = n2 then some v2 else if z = n3 then some v3 else m z) := by
  have : m = fun z => if z = n0 then some v0 else if z = n1 then some v1 else if z = n2 then some v2 else if z = n3 then some v3 else m z := by
    funext z
    by_cases q0 : z = n0
    · simp only [ if_pos q0]; rw [q0, e0]
    by_cases q1 : z = n1
    · simp only [if_neg q0,  if_pos q1]; rw [q1, e1]
    by_cases q2 : z = n2
    · simp only [if_neg q0, if_neg q1,  if_pos q2]; rw [q2, e2]
    by_cases q3 : z = n3
    · simp only [if_neg q0, if_neg q1, if_neg q2,  if_pos q3]; rw [q3, e3]
    simp only [if_neg q0, if_neg q1, if_neg q2, if_neg q3]
  rw [← this]
  exact F
theorem fr_known5 {g h : Heap} {L : Addr} {m : Str → Option Value} {n0 : Str} {v0 : Value} {n1 : Str} {v1 : Value} {n2 : Str} {v2 : Value} {n3 : Str} {v3 : Value} {n4 : Str} {v4 : Value} (F : Fr g L h m) (e0 : m n0 = some v0) (e1 : m n1 = some v1) (e2 : m n2 = some v2) (e3 : m n3 = some v3) (e4 : m n4 = some v4) : Fr g L h (fun z => if z = n0 then some v0 else if z = n1 then some v1 else if z = n2 then some v2 else if z = n3 then some v3 else if z = n4 then some v4 else m z) := by
  have : m = fun z => if z = n0 then some v0 else if z = n1 then some v1 else if z = n2 then some v2 else if z = n3 then some v3 else if z = n4 then some v4 else m z := by
    funext z
    by_cases q0 : z = n0
    · simp only [ if_pos q0]; rw [q0, e0]
    by_cases q1 : z = n1
    · simp only [if_neg q0,  if_pos q1]; rw [q1, e1]
    by_cases q2 : z = n2
    · simp only [if_neg q0, if_neg q1,  if_pos q2]; rw [q2, e2]
    by_cases q3 : z = n3
    · simp only [if_neg q0, if_neg q1, if_neg q2,  if_pos q3]; rw [q3, e3]
    by_cases q4 : z = n4
    · simp only [if_neg q0, if_neg q1, if_neg q2, if_neg q3,  if_pos q4]; rw [q4, e4]
    simp only [if_neg q0, if_neg q1, if_neg q2, if_neg q3, if_neg q4]
  rw [← this]
  exact F
theorem fr_known6 {g h : Heap} {L : Addr} {m : Str → Option Value} {n0 : Str} {v0 : Value} {n1 : Str} {v1 : Value} {n2 : Str} {v2 : Value} {n3 : Str} {v3 : Value} {n4 : Str} {v4 : Value} {n5 : Str} {v5 : Value} (F : Fr g L h m) (e0 : m n0 = some v0) (e1 : m n1 = some v1) (e2 : m n2 = some v2) (e3 : m n3 = some v3) (e4 : m n4 = some v4) (e5 : m n5 = some v5) : Fr g L h (fun z => if z = n0 then some v0 else if z = n1 then some v1 else if z = n2 then some v2 else if z = n3 then some v3 else if z = n4 then some v4 else if z = n5 then some v5 else m z) := by
  have : m = fun z => if z = n0 then some v0 else if z = n1 then some v1 else if z = n2 then some v2 else if z = n3 then some v3 else if z = n4 then some v4 else if z = n5 then some v5 else m z := by
    funext z
    by_cases q0 : z = n0
    · simp only [ if_pos q0]; rw [q0, e0]
    by_cases q1 : z = n1
    · simp only [if_neg q0,  if_pos q1]; rw [q1, e1]
    by_cases q2 : z = n2
    · simp only [if_neg q0, if_neg q1,  if_pos q2]; rw [q2, e2]
    by_cases q3 : z = n3
    · simp only [if_neg q0, if_neg q1, if_neg q2,  if_pos q3]; rw [q3, e3]
    by_cases q4 : z = n4
    · simp only [if_neg q0, if_neg q1, if_neg q2, if_neg q3,  if_pos q4]; rw [q4, e4]
    by_cases q5 : z = n5
    · simp only [if_neg q0, if_neg q1, if_neg q2, if_neg q3, if_neg q4,  if_pos q5]; rw [q5, e5]
    simp only [if_neg q0, if_neg q1, if_neg q2, if_neg q3, if_neg q4, if_neg q5]
  rw [← this]
  exact F
/-- all but L stands -/
def ExtL (L : Addr) (h h' : Heap) : Prop := ∀ b o, b ≠ L → h.get? b = some o → h'.get? b = some o
theorem ExtL.refl (L : Addr) (h : Heap) : ExtL L h h := fun _ _ _ e => e
theorem ExtL.trans {L : Addr} {a b c : Heap} (x : ExtL L a b) (y : ExtL L b c) : ExtL L a c := fun q o hq e => y q o hq (x q o hq e)
theorem Keeps.ext {L : Addr} {h h' : Heap} (k : Keeps h h') : ExtL L h h' := fun b o _ e => k b o e
theorem ext_same {L : Addr} {h h' : Heap} (s : Heap.SameBut L h h') : ExtL L h h' := fun b o hb e => (s.2 b hb).trans e
section
variable {prog : Program} {w : World} {A : Around} {E : Value → Shared → Prop} {s : Shared} {env : Env} {g : Heap} {target iter : Expr} {body : List Stmt} {Q : Flow → Shared → Prop} {m : Str → Option Value} {pos : Pos}
/-- how a turn of a while ends -/
def WEnd (J : Nat → Shared → Prop) (n : Nat) (f : Flow) (s₃ : Shared) : Prop := f = .next ∧ ∃ k, k < n ∧ J k s₃
/-- where a while leaves off -/
def WExit (X : Shared → Prop) (s : Shared) : Prop := X s
theorem while_any {test : Expr} (J : Nat → Shared → Prop) (X : Shared → Prop) {n₀ : Nat} (hJ : J n₀ s)
    (turn : ∀ n s₁, J n s₁ → wpAny (model prog w) A (isTrue test env (eval test env)) (fun b s₂ =>
      if b = true then wpAny (model prog w) A (execs body env) (WEnd J n) E s₂ else WExit X s₂) E s₁)
    (hX : ∀ s', X s' → Q .next s')
    (hE : PassesOwn (model prog w) A env E := by passes_own) :
    wpAny (model prog w) A (exec (.While test body [] pos) env) Q E s := by
  refine wpAny_While (codeAny_whileLoop J ?_ n₀ hJ)
  intro n s' J₁
  refine wpAny_mono (turn n s' J₁) (fun b s₂ h₂ => ?_) hE
  cases b with
  | false =>
    simp only [Bool.false_eq_true, if_false] at h₂ ⊢
    exact wpAny_execs_nil (hX _ h₂)
  | true =>
    simp only [if_true] at h₂ ⊢
    refine wpAny_mono h₂ (fun f s₃ h₃ => ?_) hE
    refine hide fun hideG hideH => ?_
    obtain ⟨rfl, k, hk, J₂⟩ := h₃
    refine hideH ?_; clear hideH hideG
    exact ⟨k, hk, J₂⟩
theorem fresh_ne {g h : Heap} {L I : Addr} {m : Str → Option Value} (F : Fr g L h m) (hI : h.get? I = none) : I ≠ L ∧ g.get? I = none := by
  refine ⟨fun q => ?_, ?_⟩
  · refine hide fun hideG hideH => ?_
    obtain ⟨o, _, _, e, _⟩ := F.ns
    refine hideH ?_; clear hideH hideG
    rw [q, e] at hI; cases hI
  · cases q : g.get? I with
    | none => rfl
    | some o => have := F.keep _ _ q; rw [hI] at this; cases this
/-- how a turn of a for may end -/
def TurnEnd (g : Heap) (L : Addr) (s : Shared) (I : Addr) (oI : Obj) (J : (Str → Option Value) → Heap → Prop) (Q : Flow → Shared → Prop) (f : Flow) (s₃ : Shared) : Prop :=
  match f with
  | .ret v => Q (.ret v) s₃
  | .brk => Q .next s₃
  | _ => ∃ h3 tk3 m3, s₃ = { s with heap := h3, toks := tk3 } ∧ Fr g L h3 m3 ∧ News g L h3 [(I, oI)] ∧ J m3 h3
theorem for_walk {n : Nat} {P : Nat → Value → Prop} (J : Addr → Nat → (Str → Option Value) → Heap → Prop)
    (hev : wpAny (model prog w) A (eval iter env) (fun xv s₁ => wpAny (model prog w) A (pyIter xv) (fun it s₂ => ∃ I fp St h₂ tk₂ m₁, it = .ref I ∧ s₂ = { s with heap := h₂, toks := tk₂ } ∧ I ≠ env.locals ∧ g.get? I = none ∧ Fr g env.locals h₂ m₁ ∧ J I 0 m₁ h₂ ∧ (∀ i h, St i h → ∃ o, h.get? I = some o) ∧ Walks prog w A I fp [I] n P St ∧ (∀ b ∈ fp, b = I ∨ ∃ o, g.get? b = some o) ∧ St 0 h₂ ∧
      (∀ i (s' : Shared) v (Q' : Unit → Shared → Prop), St i s'.heap → Q' () s' → wpAny (model prog w) A (letOwnedTupleGo target (.ref I) v) Q' E s')) E s₁) E s)
    (stab : ∀ I i m h h', I ≠ env.locals → (∀ b o, b ≠ I → h.get? b = some o → h'.get? b = some o) → J I i m h → J I i m h')
    (turn : ∀ I oI i v m₁ h₁ tk₁, I ≠ env.locals → News g env.locals h₁ [(I, oI)] → i < n → P i v → J I i m₁ h₁ → Fr g env.locals h₁ m₁ →
      wpAny (model prog w) A (assign target env v) (fun _ s₂ => wpAny (model prog w) A (execs body env) (TurnEnd g env.locals s I oI (J I (i + 1)) Q) E s₂) E { s with heap := h₁, toks := tk₁ })
    (done : ∀ I m₁ h₁ tk₁, I ≠ env.locals → J I n m₁ h₁ → Fr g env.locals h₁ m₁ → Q .next { s with heap := h₁, toks := tk₁ })
    (hs : ∀ x, foldedSetIterable iter env x = pure x := by intro _; rfl)
    (hE : PassesOwn (model prog w) A env E := by passes_own) :
    wpAny (model prog w) A (exec (.For target iter body [] pos) env) Q E s := by
  refine wpAny_For (wpAny_mono hev (fun xv s₁ h₁ => wpAny_mono h₁ (fun it s₂ h₂ => ?_) fun _ _ e => e) fun _ _ e => e) hs
  refine hide fun hideG hideH => ?_
  obtain ⟨I, fp, St, h₂, tk₂, mz, rfl, rfl, hIL, hgI, F, J0, hIo, W, hfp, hst, hgo⟩ := h₂
  refine hideH ?_; clear hideH hideG
  refine codeAny_forLoop_any (R := fun r s' => match r with | .ok f => Q f s' | .error e => cameBackBy (model prog w) A env E e s')
    (fun k s' => ∃ h' tk m' i, s' = { s with heap := h', toks := tk } ∧ St i h' ∧ Fr g env.locals h' m' ∧ J I i m' h' ∧ i ≤ n ∧ k = n + 1 - i) ?_ (n + 1)
    ⟨h₂, tk₂, mz, 0, rfl, hst, F, J0, Nat.zero_le _, rfl⟩
  intro k s' rip2
  refine hide fun hideG hideH => ?_
  obtain ⟨h', tk, m', i, rfl, hst', F', hJ, hi, rfl⟩ := rip2
  refine hideH ?_; clear hideH hideG
  have next : ∀ h₁ : Heap, (∀ b o, b ∉ [I] → h'.get? b = some o → h₁.get? b = some o) → Fr g env.locals h₁ m' ∧ J I i m' h₁ := fun h₁ hk₁ => by
    have hk : ∀ b o, b ≠ I → h'.get? b = some o → h₁.get? b = some o := fun b o hb e => hk₁ b o (by simpa using hb) e
    exact ⟨⟨F'.ns.at' fun o e => hk _ o hIL.symm e, fun b o e => hk b o (fun q => by rw [q, hgI] at e; cases e) (F'.keep b o e), F'.above⟩, stab _ _ _ _ _ hIL hk hJ⟩
  by_cases hlt : i < n
  · refine W.item i _ _ _ hlt hst' fun v h₁ tk₁ hP hst₁ hk₁ => ?_
    refine hide fun hideG hideH => ?_
    obtain ⟨F₁, J₁⟩ := next h₁ hk₁
    obtain ⟨oI, hIo₁⟩ := hIo _ _ hst₁
    refine hideH ?_; clear hideH hideG
    have N₁ : News g env.locals h₁ [(I, oI)] := fun p hp => by cases List.mem_singleton.mp hp; exact ⟨hIo₁, hIL, hgI⟩
    dsimp only
    refine wpAny_passesOwn hE (hgo (i + 1) _ v _ hst₁ ?_)
    refine wpAny_mono (turn I oI i v m' h₁ tk₁ hIL N₁ hlt hP J₁ F₁) (fun _ s₂ h₂ => wpAny_mono h₂ (fun f s₃ h₃ => ?_) hE) hE
    have fin : (∃ h3 tk3 m3, s₃ = { s with heap := h3, toks := tk3 } ∧ Fr g env.locals h3 m3 ∧ News g env.locals h3 [(I, oI)] ∧ J I (i + 1) m3 h3) → ∃ q, q < n + 1 - i ∧ ∃ h' tk m' j, s₃ = { s with heap := h', toks := tk } ∧ St j h' ∧ Fr g env.locals h' m' ∧ J I j m' h' ∧ j ≤ n ∧ q = n + 1 - j := by
      intro rip0
      refine hide fun hideG hideH => ?_
      obtain ⟨h3, tk3, m3, rfl, F3, N3, J3⟩ := rip0
      refine hideH ?_; clear hideH hideG
      refine ⟨n + 1 - (i + 1), by lia, h3, tk3, m3, i + 1, rfl, W.frame _ _ _ hst₁ fun b hb o e => ?_, F3, J3, hlt, rfl⟩
      rcases hfp b hb with rfl | ⟨o2, e2⟩
      · rw [hIo₁] at e
        cases e
        exact (N3 _ (.head _)).1
      · have e3 := F₁.keep _ _ e2
        rw [e] at e3
        cases e3
        exact F3.keep _ _ e2
    cases f with
    | ret v => exact h₃
    | brk => exact h₃
    | cont => exact fin h₃
    | next => exact fin h₃
  · have hin : i = n := by lia
    subst hin
    refine W.done _ _ _ hst' fun h₁ tk₁ hk₁ => wpAny_execs_nil ?_
    refine hide fun hideG hideH => ?_
    obtain ⟨F₁, J₁⟩ := next h₁ hk₁
    refine hideH ?_; clear hideH hideG
    exact done I m' h₁ tk₁ hIL J₁ F₁
/-- a for over a list of the base -/
theorem for_list {l : Addr} {vs : List Value} (J : Addr → Nat → (Str → Option Value) → Heap → Prop)
    (hh : A.handled = none) (hl : g.IsList l vs.toArray)
    (hev : ∀ Q' : Value → Shared → Prop, Q' (.ref l) s → wpAny (model prog w) A (eval iter env) Q' E s)
    (F : Fr g env.locals s.heap m)
    (stab : ∀ I i m h h', I ≠ env.locals → (∀ b o, b ≠ I → h.get? b = some o → h'.get? b = some o) → J I i m h → J I i m h')
    (h0 : ∀ I h', s.heap.get? I = none → Keeps s.heap h' → J I 0 m h')
    (turn : ∀ I oI i v m₁ h₁ tk₁, I ≠ env.locals → News g env.locals h₁ [(I, oI)] → i < vs.length → vs[i]? = some v → J I i m₁ h₁ → Fr g env.locals h₁ m₁ →
      wpAny (model prog w) A (assign target env v) (fun _ s₂ => wpAny (model prog w) A (execs body env) (TurnEnd g env.locals s I oI (J I (i + 1)) Q) E s₂) E { s with heap := h₁, toks := tk₁ })
    (done : ∀ I m₁ h₁ tk₁, I ≠ env.locals → J I vs.length m₁ h₁ → Fr g env.locals h₁ m₁ → Q .next { s with heap := h₁, toks := tk₁ })
    (hs : ∀ x, foldedSetIterable iter env x = pure x := by intro _; rfl)
    (hE : PassesOwn (model prog w) A env E := by passes_own) :
    wpAny (model prog w) A (exec (.For target iter body [] pos) env) Q E s := by
  have hl' : s.heap.IsList l vs.toArray := hl.at fun o e => F.keep _ _ e
  refine hide fun hideG hideH => ?_
  obtain ⟨ol, hol, _⟩ := id hl
  refine hideH ?_; clear hideH hideG
  have hne : l ≠ s.heap.objs.size := Nat.ne_of_lt (Heap.lt_size (F.keep _ _ hol))
  refine for_walk (n := vs.length) (P := fun i v => vs[i]? = some v) J (hev _ (wpAny_pyIter_list hl' ?_)) stab turn done hs hE
  have W := Walks.list (prog := prog) (w := w) hh s.heap.objs.size l hne vs.toArray
  have hsz : vs.toArray.size = vs.length := by simp
  rw [hsz] at W
  have hP : (fun (i : Nat) (v : Value) => vs.toArray[i]? = some v) = fun i v => vs[i]? = some v := by funext i v; simp
  rw [hP] at W
  refine ⟨_, _, _, _, _, m, rfl, rfl, (fresh_ne F (Heap.get?_none_of_le (Nat.le_refl _))).1, (fresh_ne F (Heap.get?_none_of_le (Nat.le_refl _))).2, F.push _, h0 _ _ (Heap.get?_none_of_le (Nat.le_refl _)) (fun b o e => Heap.get?_push_of_some _ e), ?_, W, ?_, ⟨⟨_, Heap.get?_push_size _ rfl, rfl, rfl⟩, hl'.at fun o e => Heap.get?_push_of_some _ e⟩, ?_⟩
  · intro i h rip2
    refine hide fun hideG hideH => ?_
    obtain ⟨⟨o, e, _⟩, _⟩ := rip2
    refine hideH ?_; clear hideH hideG
    exact ⟨o, e⟩
  · intro b hm
    rcases List.mem_cons.mp hm with e | hm
    · exact .inl e
    · rw [List.mem_singleton.mp hm]
      exact .inr ⟨_, hol⟩
  · intro i s' v Q' hst hq
    exact letGo_listiter hst.1 hq
/-- a range made, and what holds ahead of the loop -/
def RangeStart (g : Heap) (L : Addr) (s : Shared) (n : Nat) (J : Addr → Nat → (Str → Option Value) → Heap → Prop) (xv : Value) (s₁ : Shared) : Prop :=
  ∃ r b t u v h₁ tk₁, xv = .ref r ∧ s₁ = { s with heap := h₁, toks := tk₁ } ∧ IsRange h₁ r 0 b 1 t u v ∧ b = (n : Int) ∧ ∃ m₁, Fr g L h₁ m₁ ∧ ∀ I h', h₁.get? I = none → Keeps h₁ h' → J I 0 m₁ h'
/-- a for over range(n) -/
theorem for_range {n : Nat} (J : Addr → Nat → (Str → Option Value) → Heap → Prop)
    (hh : A.handled = none) (hn : n < 64)
    (hev : wpAny (model prog w) A (eval iter env) (RangeStart g env.locals s n J) E s)
    (hgo : ∀ I (s' : Shared) v, letOwnedTupleGo target (.ref I) v = pure ())
    (stab : ∀ I i m h h', I ≠ env.locals → (∀ b o, b ≠ I → h.get? b = some o → h'.get? b = some o) → J I i m h → J I i m h')
    (turn : ∀ I oI i v m₁ h₁ tk₁, I ≠ env.locals → News g env.locals h₁ [(I, oI)] → i < n → (∃ t, v = .int (i : Int) t) → J I i m₁ h₁ → Fr g env.locals h₁ m₁ →
      wpAny (model prog w) A (assign target env v) (fun _ s₂ => wpAny (model prog w) A (execs body env) (TurnEnd g env.locals s I oI (J I (i + 1)) Q) E s₂) E { s with heap := h₁, toks := tk₁ })
    (done : ∀ I m₁ h₁ tk₁, I ≠ env.locals → J I n m₁ h₁ → Fr g env.locals h₁ m₁ → Q .next { s with heap := h₁, toks := tk₁ })
    (hs : ∀ x, foldedSetIterable iter env x = pure x := by intro _; rfl)
    (hE : PassesOwn (model prog w) A env E := by passes_own) :
    wpAny (model prog w) A (exec (.For target iter body [] pos) env) Q E s := by
  refine for_walk (n := n) (P := fun i v => ∃ t, v = .int (i : Int) t) J (wpAny_mono hev (fun xv s₁ h => ?_) fun _ _ e => e) stab turn done hs hE
  refine hide fun hideG hideH => ?_
  obtain ⟨r, b, t, u, v, h₁, tk₁, rfl, rfl, hr, rfl, m₁, F, J0⟩ := h
  refine hideH ?_; clear hideH hideG
  refine wpAny_pyIter_range hr (small_one (by lia) (by lia) (by lia) (by lia)) ?_
  have W : Walks prog w A _ _ _ _ _ _ := LCg.range_walks (prog := prog) (w := w) (I := h₁.objs.size) hh 0 n
  have hP : (fun (i : Nat) (v : Value) => ∃ t, v = .int ((0 : Int) + (i : Int)) t) = fun i v => ∃ t, v = .int (i : Int) t := by funext i v; rw [Int.zero_add]
  rw [hP] at W
  refine ⟨h₁.objs.size, _, _, _, _, m₁, rfl, rfl, (fresh_ne F (Heap.get?_none_of_le (Nat.le_refl _))).1, (fresh_ne F (Heap.get?_none_of_le (Nat.le_refl _))).2, F.push _, J0 _ _ (Heap.get?_none_of_le (Nat.le_refl _)) (fun b o e => Heap.get?_push_of_some _ e), fun i h st => ⟨_, st⟩, W, fun b hb => .inl (List.mem_singleton.mp hb), ?_, fun i s' v Q' _ hq => by rw [hgo _ s' v]; exact wpAny_pure hq⟩
  show IsRangeIter _ _ _ _ _
  have e1 : Builtin.Range.rangeSize 0 (n : Int) 1 = (n : Int) := by
    have := rangeSize_nat 0 (n : Int)
    lia
  rw [e1]
  simpa using Heap.get?_push_size _ rfl
end
/-- pairs of ints, each in a list of its own -/
inductive Cells (at' : Addr → Obj → Prop) : List Value → List (Int × Int) → Prop
  | nil : Cells at' [] []
  | cons {d : Addr} {x y : Int} {t u : Tok} {e : Nat} {vs : List Value} {xs : List (Int × Int)} : at' d (W.listOf #[.int x t, .int y u] e) → Cells at' vs xs → Cells at' (.ref d :: vs) ((x, y) :: xs)
def Pairs (at' : Addr → Obj → Prop) (D : Addr) (xs : List (Int × Int)) : Prop := ∃ vs e, at' D (W.listOf (List.toArray vs) e) ∧ Cells at' vs xs
theorem Cells.mono {P R : Addr → Obj → Prop} (h : ∀ d o, P d o → R d o) : ∀ {vs : List Value} {xs : List (Int × Int)}, Cells P vs xs → Cells R vs xs
  | _, _, .nil => .nil
  | _, _, .cons hd r => .cons (h _ _ hd) (Cells.mono h r)
theorem Pairs.mono {P R : Addr → Obj → Prop} (h : ∀ d o, P d o → R d o) {D : Addr} {xs : List (Int × Int)} : Pairs P D xs → Pairs R D xs := fun ⟨vs, e, a, b⟩ => ⟨vs, e, h _ _ a, b.mono h⟩
theorem Cells.len {P : Addr → Obj → Prop} : ∀ {vs : List Value} {xs : List (Int × Int)}, Cells P vs xs → vs.length = xs.length
  | _, _, .nil => rfl
  | _, _, .cons _ r => congrArg (· + 1) r.len
theorem Cells.at {P : Addr → Obj → Prop} : ∀ {vs : List Value} {xs : List (Int × Int)}, Cells P vs xs → ∀ {k : Nat} {p : Int × Int}, xs[k]? = some p → ∃ d t u e, vs[k]? = some (.ref d) ∧ P d (W.listOf #[.int p.1 t, .int p.2 u] e)
  | _, _, .cons hd r, 0, p, h => by cases h; exact ⟨_, _, _, _, rfl, hd⟩
  | _, _, .cons hd r, k + 1, p, h => r.at (k := k) h
theorem Cells.back {P : Addr → Obj → Prop} : ∀ {vs : List Value} {xs : List (Int × Int)}, Cells P vs xs → ∀ {k : Nat} {v : Value}, vs[k]? = some v → ∃ p d t u e, xs[k]? = some p ∧ v = .ref d ∧ P d (W.listOf #[.int p.1 t, .int p.2 u] e)
  | _, _, .cons hd r, 0, p, h => by cases h; exact ⟨_, _, _, _, _, rfl, rfl, hd⟩
  | _, _, .cons hd r, k + 1, p, h => r.back (k := k) h
abbrev AtH (h : Heap) : Addr → Obj → Prop := fun d o => h.get? d = some o
section
variable {prog : Program} {w : World} {A : Around} {E : Value → Shared → Prop} {s : Shared} {g : Heap} {L : Addr} {m : Str → Option Value}
theorem lst_of {h : Heap} {l : Addr} {vs : List Value} {e : Nat} (hl : h.get? l = some (W.listOf (List.toArray vs) e)) : h.IsList l (List.toArray vs) := ⟨_, hl, rfl, e, rfl⟩
theorem item_base {value slice : PySem.Expr} {l : Addr} {vs : List Value} {e : Nat} {k : Int} {u : Tok} {v : Value} {Q : Value → Shared → Prop}
    (F : Fr g L s.heap m) (hg : g.get? l = some (W.listOf (List.toArray vs) e)) (h0 : 0 ≤ k) (hhi : k < 2 ^ 63) (hx : vs[k.toNat]? = some v) (h : Q v s)
    (hs : subscripted slice false (.ref l) (.int k u) = operate [.ref l, .int k u] (getItem (.ref l) (.int k u))) :
    wpAny (model prog w) A (subscriptTail value slice (.ref l) (.int k u)) Q E s :=
  tail_any (lst_of (F.keep _ _ hg)).typeIs slot_list_getitem.lookup (wpAny_getItem_list (lst_of (F.keep _ _ hg)) h0 hhi (by simpa using hx) h) hs
theorem len_base {l : Addr} {vs : List Value} {e : Nat} {Q : Value → Shared → Prop} (F : Fr g L s.heap m) (hg : g.get? l = some (W.listOf (List.toArray vs) e)) (hs : vs.length < 2 ^ 63)
    (h : Q (.int (vs.length : Int) (s.toks + 1)) { s with toks := s.toks + 1 + 1 }) : wpAny (model prog w) A (call (.builtin "len") [.ref l]) Q E s :=
  Calls.call_len_list (lst_of (F.keep _ _ hg)) (by simp; lia) (by simpa using h)
theorem len_news {l : Addr} {vs : List Value} {e : Nat} {Q : Value → Shared → Prop} {news : List (Addr × Obj)} (N : News g L s.heap news) (hm : (l, W.listOf (List.toArray vs) e) ∈ news) (hs : vs.length < 2 ^ 63)
    (h : Q (.int (vs.length : Int) (s.toks + 1)) { s with toks := s.toks + 1 + 1 }) : wpAny (model prog w) A (call (.builtin "len") [.ref l]) Q E s :=
  Calls.call_len_list (lst_of (N _ hm).1) (by simp; lia) (by simpa using h)
theorem item_news {value slice : PySem.Expr} {l : Addr} {vs : List Value} {e : Nat} {k : Int} {u : Tok} {v : Value} {Q : Value → Shared → Prop} {news : List (Addr × Obj)}
    (N : News g L s.heap news) (hm : (l, W.listOf (List.toArray vs) e) ∈ news) (h0 : 0 ≤ k) (hhi : k < 2 ^ 63) (hx : vs[k.toNat]? = some v) (h : Q v s)
    (hs : subscripted slice false (.ref l) (.int k u) = operate [.ref l, .int k u] (getItem (.ref l) (.int k u))) :
    wpAny (model prog w) A (subscriptTail value slice (.ref l) (.int k u)) Q E s :=
  tail_any (lst_of (N _ hm).1).typeIs slot_list_getitem.lookup (wpAny_getItem_list (lst_of (N _ hm).1) h0 hhi (by simpa using hx) h) hs
end
end Mine
end
section
open PySem PySem.W PySem.Calls PyProof.Rows PySem.Flt
set_option maxRecDepth 100000
namespace Mine
/-- the greater of two as max keeps it: the later one only where it is greater -/
def fmx (x y : UInt64) : UInt64 := if (Float64.cmp x y == some .lt) = true then y else x
def fmn (x y : UInt64) : UInt64 := if (Float64.cmp y x == some .lt) = true then y else x
/-- is it the same number -/
def feq (x y : UInt64) : Bool := Float64.cmp x y == some Ordering.eq
def fle (x y : UInt64) : Bool := Float64.cmp x y == some Ordering.lt || Float64.cmp x y == some Ordering.eq

/-- the hue, as both texts reckon it -/
def hueF (r g b mx mn : UInt64) : UInt64 :=
  let rc := Float64.div (Float64.sub mx r) (Float64.sub mx mn)
  let gc := Float64.div (Float64.sub mx g) (Float64.sub mx mn)
  let bc := Float64.div (Float64.sub mx b) (Float64.sub mx mn)
  let h := if feq r mx = true then Float64.sub bc gc else if feq g mx = true then Float64.sub (Float64.add 4611686018427387904 rc) bc else Float64.sub (Float64.add 4616189618054758400 gc) rc
  (Float64.divmod (Float64.div h 4618441417868443648) 4607182418800017408).2
def satF (mx mn : UInt64) : UInt64 :=
  if fle (Float64.div (Float64.add mx mn) 4611686018427387904) 4602678819172646912 = true then Float64.div (Float64.sub mx mn) (Float64.add mx mn)
  else Float64.div (Float64.sub mx mn) (Float64.sub (Float64.sub 4611686018427387904 mx) mn)
def hls3 (r g b mx mn : UInt64) : UInt64 × UInt64 × UInt64 :=
  if feq mn mx = true then (0, Float64.div (Float64.add mx mn) 4611686018427387904, 0)
  else (hueF r g b mx mn, Float64.div (Float64.add mx mn) 4611686018427387904, satF mx mn)
def hsv3 (r g b mx mn : UInt64) : UInt64 × UInt64 × UInt64 :=
  if feq mn mx = true then (0, 0, mx)
  else (hueF r g b mx mn, Float64.div (Float64.sub mx mn) mx, mx)
/-- no division by nought comes up -/
def divs (mx mn : UInt64) : Bool := feq mn mx || (!Float64.isZero (Float64.sub mx mn) && !Float64.isZero (Float64.add mx mn) && !Float64.isZero (Float64.sub (Float64.sub 4611686018427387904 mx) mn) && !Float64.isZero mx)
def lumaF (r g b : UInt64) : UInt64 :=
  Float64.add (Float64.add (Float64.mul 4599075939470750515 r) (Float64.mul 4603489467105573601 g)) (Float64.mul 4592590756007337001 b)
def e8 (k : Nat) : UInt64 := Float64.ofFrac false k 8
/-- what the text asks int() of -/
def luma8 (r g b : UInt64) : UInt64 := Float64.add (Float64.mul (lumaF r g b) (Float64.ofInt 800)) 4602678819172646912
def lumaI (r g b : UInt64) : Int := toInt Float64.truncOf (luma8 r g b)
end Mine
end
section
open PySem PySem.W PySem.Calls PyProof.Rows PySem.Flt
set_option maxRecDepth 100000
set_option maxHeartbeats 8000000
namespace Mine
section
variable {prog : Program} {w : World} {A : Around} {E : Value → Shared → Prop} {s : Shared} {Q : Value → Shared → Prop} {a b c : Value}
theorem max_three_num (hh : A.handled = none) (ha : NumV a) (hb : NumV b) (hc : NumV c)
    (h : ∀ h' tk, (∀ d o, s.heap.get? d = some o → h'.get? d = some o) → Q (if ltV (if ltV a b then b else a) c then c else (if ltV a b then b else a)) { s with heap := h', toks := tk }) :
    wpAny (model prog w) A (call (.builtin "max") [a, b, c]) Q E s := by
  have hT : (s.heap.push { cls := .type "tuple", data := .seq #[a, b, c] }).IsTuple s.heap.objs.size #[a, b, c] := ⟨_, Heap.get?_push_size _ rfl, rfl, 0, rfl⟩
  refine call_max_three (wpAny_pyIter_tuple hT ?_)
  have hsz : (s.heap.push { cls := .type "tuple", data := .seq #[a, b, c] }).objs.size = s.heap.objs.size + 1 := Heap.size_push ..
  refine ⟨_, [_, s.heap.objs.size], [_], _, _, _, _, rfl, Walks.tuple (A := A.in1) hh _ s.heap.objs.size (by rw [hsz]; exact Nat.ne_of_lt (Nat.lt_succ_self _)) #[a, b, c],
    ⟨⟨_, Heap.get?_push_size _ rfl, rfl, rfl⟩, hT.push _⟩, fun d hd => ?_, by simp, cmpOf_gt #[a, b, c] (by simp [ha, hb, hc]), fun v h' tk hP hk => ?_⟩
  · show d < ((s.heap.push _).push _).objs.size
    rw [Heap.size_push, hsz]
    rcases List.mem_cons.mp hd with rfl | hd
    · rw [hsz]; exact Nat.lt_succ_self _
    · rcases List.mem_cons.mp hd with rfl | hd
      · exact Nat.lt_succ_of_lt (Nat.lt_succ_self _)
      · cases hd
  · have hold : ∀ d o, s.heap.get? d = some o → h'.get? d = some o := fun d o e => by
      refine hk d o (fun hm => ?_) (Heap.get?_push_of_some _ (Heap.get?_push_of_some _ e))
      rcases List.mem_cons.mp hm with e1 | hm
      · have := Heap.lt_size e; rw [e1, hsz] at this; exact Nat.lt_irrefl _ (Nat.lt_of_succ_lt this)
      · cases hm
    have := h h' tk hold
    have hv : v = if ltV (if ltV a b then b else a) c then c else (if ltV a b then b else a) := by
      clear this h
      cases h1 : ltV a b <;> cases h2 : ltV a c <;> cases h3 : ltV b c <;> simp [argBest, h1, h2, h3] at hP ⊢ <;> simp [hP]
    rw [hv]; exact this
theorem min_three_num (hh : A.handled = none) (ha : NumV a) (hb : NumV b) (hc : NumV c)
    (h : ∀ h' tk, (∀ d o, s.heap.get? d = some o → h'.get? d = some o) → Q (if ltV c (if ltV b a then b else a) then c else (if ltV b a then b else a)) { s with heap := h', toks := tk }) :
    wpAny (model prog w) A (call (.builtin "min") [a, b, c]) Q E s := by
  have hT : (s.heap.push { cls := .type "tuple", data := .seq #[a, b, c] }).IsTuple s.heap.objs.size #[a, b, c] := ⟨_, Heap.get?_push_size _ rfl, rfl, 0, rfl⟩
  refine call_min_three (wpAny_pyIter_tuple hT ?_)
  have hsz : (s.heap.push { cls := .type "tuple", data := .seq #[a, b, c] }).objs.size = s.heap.objs.size + 1 := Heap.size_push ..
  refine ⟨_, [_, s.heap.objs.size], [_], _, _, _, _, rfl, Walks.tuple (A := A.in1) hh _ s.heap.objs.size (by rw [hsz]; exact Nat.ne_of_lt (Nat.lt_succ_self _)) #[a, b, c],
    ⟨⟨_, Heap.get?_push_size _ rfl, rfl, rfl⟩, hT.push _⟩, fun d hd => ?_, by simp, cmpOf_lt #[a, b, c] (by simp [ha, hb, hc]), fun v h' tk hP hk => ?_⟩
  · show d < ((s.heap.push _).push _).objs.size
    rw [Heap.size_push, hsz]
    rcases List.mem_cons.mp hd with rfl | hd
    · rw [hsz]; exact Nat.lt_succ_self _
    · rcases List.mem_cons.mp hd with rfl | hd
      · exact Nat.lt_succ_of_lt (Nat.lt_succ_self _)
      · cases hd
  · have hold : ∀ d o, s.heap.get? d = some o → h'.get? d = some o := fun d o e => by
      refine hk d o (fun hm => ?_) (Heap.get?_push_of_some _ (Heap.get?_push_of_some _ e))
      rcases List.mem_cons.mp hm with e1 | hm
      · have := Heap.lt_size e; rw [e1, hsz] at this; exact Nat.lt_irrefl _ (Nat.lt_of_succ_lt this)
      · cases hm
    have := h h' tk hold
    have hv : v = if ltV c (if ltV b a then b else a) then c else (if ltV b a then b else a) := by
      clear this h
      cases h1 : ltV b a <;> cases h2 : ltV c a <;> cases h3 : ltV c b <;> simp [argBest, h1, h2, h3] at hP ⊢ <;> simp [hP]
    rw [hv]; exact this
end
section
variable {prog : Program} {w : World} {A : Around} {E : Value → Shared → Prop} {s : Shared} {Q : Value → Shared → Prop} {x y z : UInt64} {t u v : Tok} {h₀ : Heap} {L : Addr} {m : Str → Option Value} {news : List (Addr × Obj)}
theorem max_three_ff (hh : A.handled = none) (F : Fr h₀ L s.heap m) (N : News h₀ L s.heap news)
    (h : ∀ h' tk r, Fr h₀ L h' m → News h₀ L h' news → Q (.float (fmx (fmx x y) z) r) { s with heap := h', toks := tk }) :
    wpAny (model prog w) A (call (.builtin "max") [.float x t, .float y u, .float z v]) Q E s :=
  max_three_num hh (.float x t) (.float y u) (.float z v) fun h' tk kp => by
    have F' := F.grownK kp
    have N' := N.grown kp
    unfold fmx at h
    show Q (if ltV (if (Float64.cmp x y == some .lt) = true then Value.float y u else Value.float x t) (Value.float z v) = true then Value.float z v else (if (Float64.cmp x y == some .lt) = true then Value.float y u else Value.float x t)) _
    cases h1 : (Float64.cmp x y == some .lt) <;> simp only [h1, if_true, if_false, Bool.false_eq_true] at h ⊢ <;> (unfold ltV; dsimp only) <;> split
    all_goals first | (have := h h' tk v F' N'; rename_i hc; rw [if_pos hc] at this; exact this) | (have := h h' tk t F' N'; rename_i hc; rw [if_neg hc] at this; exact this) | (have := h h' tk u F' N'; rename_i hc; rw [if_neg hc] at this; exact this)
theorem min_three_ff (hh : A.handled = none) (F : Fr h₀ L s.heap m) (N : News h₀ L s.heap news)
    (h : ∀ h' tk r, Fr h₀ L h' m → News h₀ L h' news → Q (.float (fmn (fmn x y) z) r) { s with heap := h', toks := tk }) :
    wpAny (model prog w) A (call (.builtin "min") [.float x t, .float y u, .float z v]) Q E s :=
  min_three_num hh (.float x t) (.float y u) (.float z v) fun h' tk kp => by
    have F' := F.grownK kp
    have N' := N.grown kp
    unfold fmn at h
    show Q (if ltV (Value.float z v) (if (Float64.cmp y x == some .lt) = true then Value.float y u else Value.float x t) = true then Value.float z v else (if (Float64.cmp y x == some .lt) = true then Value.float y u else Value.float x t)) _
    cases h1 : (Float64.cmp y x == some .lt) <;> simp only [h1, if_true, if_false, Bool.false_eq_true] at h ⊢ <;> (unfold ltV; dsimp only) <;> split
    all_goals first | (have := h h' tk v F' N'; rename_i hc; rw [if_pos hc] at this; exact this) | (have := h h' tk t F' N'; rename_i hc; rw [if_neg hc] at this; exact this) | (have := h h' tk u F' N'; rename_i hc; rw [if_neg hc] at this; exact this)
end
end Mine
end
section
open PySem PySem.W PySem.Calls PyProof.Rows
set_option maxRecDepth 100000
namespace Mine
local macro_rules | `(tactic| k_unfold) => `(tactic| (rename SameB _ _ => SQ; rename Fr _ _ _ _ => FQ; rename News _ _ _ _ => NQ; (with_reducible refine gen_FN SQ ?g1 ?g2 ?g3 FQ NQ ?_); (case g1 => exact rfl); (case g2 => exact rfl); (case g3 => exact rfl); clear SQ FQ NQ; intro sN SN eN FN NN; subst eN))
local macro_rules | `(tactic| walk_at "storeName") => `(tactic| (k_here; (rename SameB _ _ => SQ); k_dflt (refine' storeX_G SQ rfl rfl rfl ?F ?N ?_ ?a ?b; (case F => k_asm); (case N => k_asm); (case a => rfl); (case b => rfl); k_whole; clear SQ; intro sN SN mN FN NN; (try k_sweep))))
local macro_rules | `(tactic| walk_at "newList") => `(tactic| (k_here; (rename LedOk => LK); (rename SameB _ _ => SQ); k_dflt (refine' newList_G SQ rfl rfl rfl ?k1 ?k2 ?_; (case k1 => k_asm); (case k2 => k_asm); k_whole); clear SQ; intro lN sN led SN FN NN; (try k_sweep)))
local macro_rules | `(tactic| walk_at "subscriptTail") => `(tactic| (k_here; (with_reducible show wpAny _ _ (subscriptTail _ _ (Value.ref _) (Value.int _ _)) _ _ _); k_dflt (refine' item_base ?F ?hg ?h0 ?hk ?hx ?_ ?hs; (case F => k_asm); (case hg => assumption); (case h0 => lia); (case hk => lia); (case hx => first | assumption | rfl); (case hs => with_unfolding_all rfl); k_whole)))

section
open PySem PySem.W PySem.Calls PyProof.Rows
set_option maxRecDepth 100000
set_option maxHeartbeats 8000000
local macro_rules | `(tactic| walk_at "call builtin:list.append") => `(tactic| (k_here; (show wpAny _ _ (call (Value.builtin _) [Value.ref _, _]) _ _ _); k_dflt (refine' append_K ?k1 ?k2 ?k3 ?_ ?z; (case k1 => k_asm); (case k2 => k_asm); (case k3 => k_upd); (case z => size_fits); k_whole); intro h' F' N'; (try k_sweep)))

def partF (n m p c : Int) : Int :=
  if n = 0 then m else m + min n (max 0 (2 * n - min (Int.fmod (p - 2 * n * c) (6 * n)) (6 * n - Int.fmod (p - 2 * n * c) (6 * n))))
def nameN (d : Int) : Int := Int.fmod d 9
def nameM (d : Int) : Int := Int.fmod (Int.fdiv d 9) (9 - nameN d)
/-- max(1, x) as the text's max tells it -/
abbrev mx1 (x : Int) : Int := if x > 1 then x else 1
def nameP (d : Int) : Int := Int.fmod (Int.fdiv d 81) (mx1 (6 * nameN d))
theorem lst3 {h : Heap} {l : Addr} {x y z : Value} {e : Nat} (hl : h.get? l = some (W.listOf #[x, y, z] e)) : h.IsList l #[x, y, z] := ⟨_, hl, rfl, e, rfl⟩
theorem min_if (a b : Int) : (if b < a then b else a) = min a b := by
  rw [Int.min_def]; split <;> split <;> lia
theorem max_if (a : Int) : (if a > 0 then a else 0) = max 0 a := by
  rw [Int.max_def]; split <;> split <;> lia
theorem part_v {n m a : Int} (h : ¬ n = 0) : (m + if (if (2 * n - if 6 * n - a < a then 6 * n - a else a) > 0 then 2 * n - if 6 * n - a < a then 6 * n - a else a else 0) < n then if (2 * n - if 6 * n - a < a then 6 * n - a else a) > 0 then 2 * n - if 6 * n - a < a then 6 * n - a else a else 0 else n)
    = if n = 0 then m else m + min n (max 0 (2 * n - min a (6 * n - a))) := by
  rw [if_neg h, min_if, max_if, min_if]
theorem part_z {n m a : Int} (h : n = 0) : m = if n = 0 then m else m + min n (max 0 (2 * n - min a (6 * n - a))) := (if_pos h).symm
section
variable {w : World} {prg : Program} {loose : List Str} {mean : ExcName → Option Value} {mg mb : Str → Option Value}
    {dp un : Nat} {gd : Option (List Code)} {cn : Str} {cs : Scope} {a : Addr} {ccd : Value} {cl : List (Str × Addr)} {outer : List Env} {A₀ : Around} {base h₀ : Heap} {L : Addr} {m : Str → Option Value} {s : Shared} {Q E : Value → Shared → Prop}

theorem part_tells {l : Addr} {n mm p c : Int} {tn tm tp tc : Tok} {e : Nat}
    (B : Below A₀ base outer h₀) (F : Fr h₀ L s.heap m) (X : (hd.heap_1 w.params).In h₀) (T : Top prg loose mean mg mb h₀) (hk : cs.kind = .function)
    (hdp : dp + 1 < recursionLimit) (hun : un + 8 < cLine)
    (hl : s.heap.get? l = some (W.listOf #[.int n tn, .int mm tm, .int p tp] e)) (hn0 : 0 ≤ n) (hn8 : n ≤ 8) (hm0 : 0 ≤ mm) (hm8 : mm ≤ 8) (hp0 : 0 ≤ p) (hp : p < 48) (hc0 : 0 ≤ c) (hc2 : c ≤ 2)
    (hret : ∀ t h' tk', Keeps s.heap h' → Q (.int (partF n mm p c) t) { s with heap := h', toks := tk' }) :
    wpAny (model PySem.Challenge.rw_mq0178_01.row.prog w) (ktrTop dp un gd cn cs L a ccd cl outer) (call (.ref 79) [.ref l, .int c tc]) Q E s := by
  have N : News h₀ L s.heap [] := fun _ hp => nomatch hp
  have S₀ := SameB.refl s
  have LK := LedOk.yes
  w_on
  (refine wpAny_call ?_; k_dflt (refine' code_defG ?k1 ?k2 ?k3 ?k4 ?k5 ?kA ?kF ?kK ?k6 ?k7 ?k8 ?k9 ?kB ?_ ?c2 ?c3 ?c4 ?c5; (case kA => exact rfl); (case kF => exact rfl); (case kK => assumption); (case k1 => k_asm); (case k2 => k_asm); (case k3 => k_asm); (case k4 => k_asm); (case k5 => k_asm); (case k6 => k_is); (case k7 => k_is); (case k8 => ktr_room); (case k9 => exact BindsTo.of_eq rfl); (case c5 => decide); (case kB => exact locs rfl); (case c2 => exact rfl); (case c3 => exact rfl); (case c4 => exact rfl); k_whole; intro g' L' h' FG' F' N' B' X' T' H'; (try dsimp only); (try k_lift B'); (try k_fold)))
  rename Hid _ _ _ => HH
  rename Fr _ _ _ (fun _ => List.lookup _ _) => FF
  have gl := lst3 (FF.keep _ _ (HH.rest _ _ hl fun _ hp => nomatch hp))
  k_steps
  all_goals (
    have e1 : ∀ {x y : Int} {t h' tk'}, y = x → (∀ t h' tk', Keeps s.heap h' → Q (.int x t) { s with heap := h', toks := tk' }) → Keeps s.heap h' → Q (.int y t) { s with heap := h', toks := tk' } := fun e h k => e ▸ h _ _ _ k
    refine same_end (by assumption) rfl rfl rfl ?_
    refine e1 ?_ hret (Hid.keeps (news := []) (news' := []) HH (by assumption) (by assumption) (fun p hp => nomatch hp))
    unfold partF
    first
    | exact part_z (by assumption)
    | exact part_v (by assumption))
end
end
section
open PySem PySem.W PySem.Calls PyProof.Rows
set_option maxRecDepth 100000
set_option maxHeartbeats 8000000
local macro_rules | `(tactic| walk_at "no such key") => `(tactic| fail)

theorem fresh1 {h g h' : Heap} {L' l D : Addr} {o o' : Obj} {news' : List (Addr × Obj)} (H : Hid h [(l, o)] g) (N' : News g L' h' news') (hl : (l, o) ∈ news') (hm : (D, o') ∈ news') (hne : o ≠ o') : New h h' D o' :=
  H.fresh N' hm fun p hp q => by
    cases List.mem_singleton.mp hp
    have e1 := (N' _ hl).1
    have e2 := (N' _ hm).1
    dsimp only at q e1 e2
    rw [q, e2] at e1
    exact hne (Option.some.inj e1).symm
theorem fresh2 {h g h' : Heap} {L' l l2 D : Addr} {o o2 o' : Obj} {news' : List (Addr × Obj)} (H : Hid h [(l, o), (l2, o2)] g) (N' : News g L' h' news') (hl : (l, o) ∈ news') (hl2 : (l2, o2) ∈ news') (hm : (D, o') ∈ news') (hne : o ≠ o') (hne2 : o2 ≠ o') : New h h' D o' :=
  H.fresh N' hm fun p hp q => by
    have e2 := (N' _ hm).1
    rcases List.mem_cons.mp hp with rfl | hp
    · have e1 := (N' _ hl).1
      dsimp only at q e1 e2
      rw [q, e2] at e1
      exact hne (Option.some.inj e1).symm
    · cases List.mem_singleton.mp hp
      have e1 := (N' _ hl2).1
      dsimp only at q e1 e2
      rw [q, e2] at e1
      exact hne2 (Option.some.inj e1).symm
theorem fresh0 {h g h' : Heap} {L' D : Addr} {o' : Obj} {news' : List (Addr × Obj)} (H : Hid h [] g) (N' : News g L' h' news') (hm : (D, o') ∈ news') : New h h' D o' :=
  H.fresh N' hm fun p hp => nomatch hp
theorem news_one {h₀ h : Heap} {L : Addr} {news : List (Addr × Obj)} {p : Addr × Obj} (N : News h₀ L h news) (hp : p ∈ news) : News h₀ L h [p] := fun q hq => N q (by cases List.mem_singleton.mp hq; exact hp)
theorem size_ne {xs ys : Array Value} {n k : Nat} (h : xs.size ≠ ys.size) : W.listOf xs n ≠ W.listOf ys k := fun q => h (by injection q with _ _ q; injection q with q; rw [q])
def colsL (n m p n0 p0 : Int) : List (Int × Int) :=
  [(Int.fmod (p * mx1 (6 * n0) - p0 * mx1 (6 * n)) (mx1 (6 * n) * mx1 (6 * n0)), mx1 (6 * n) * mx1 (6 * n0)),
   (n, mx1 (n + m)), (n + m, 1), (2 * m + n, 1), (n, mx1 (min (2 * m + n) (16 - 2 * m - n))),
   (30 * partF n m p 0 + 59 * partF n m p 1 + 11 * partF n m p 2, 1)]
theorem row6 {h g h' : Heap} {L' D d0 d1 d2 d3 d4 d5 : Addr} {n n0 n1 n2 n3 n4 n5 : Nat} {x0 x1 x2 x3 x4 x5 y0 y1 y2 y3 y4 y5 : Int} {t0 t1 t2 t3 t4 t5 u0 u1 u2 u3 u4 u5 : Tok}
    (H : Hid h [] g)
    (N : News g L' h' [(D, W.listOf #[.ref d0, .ref d1, .ref d2, .ref d3, .ref d4, .ref d5] n), (d5, W.listOf #[.int x5 t5, .int y5 u5] n5), (d4, W.listOf #[.int x4 t4, .int y4 u4] n4), (d3, W.listOf #[.int x3 t3, .int y3 u3] n3), (d2, W.listOf #[.int x2 t2, .int y2 u2] n2), (d1, W.listOf #[.int x1 t1, .int y1 u1] n1), (d0, W.listOf #[.int x0 t0, .int y0 u0] n0)])
    : Pairs (New h h') D [(x0, y0), (x1, y1), (x2, y2), (x3, y3), (x4, y4), (x5, y5)] := by
  refine ⟨_, n, fresh0 H N (.head _), ?_⟩
  refine .cons (fresh0 H N (.tail _ (.tail _ (.tail _ (.tail _ (.tail _ (.tail _ (.head _)))))))) ?_
  refine .cons (fresh0 H N (.tail _ (.tail _ (.tail _ (.tail _ (.tail _ (.head _))))))) ?_
  refine .cons (fresh0 H N (.tail _ (.tail _ (.tail _ (.tail _ (.head _)))))) ?_
  refine .cons (fresh0 H N (.tail _ (.tail _ (.tail _ (.head _))))) ?_
  refine .cons (fresh0 H N (.tail _ (.tail _ (.head _)))) ?_
  exact .cons (fresh0 H N (.tail _ (.head _))) .nil
theorem Pairs.eq {P : Addr → Obj → Prop} {D : Addr} {xs ys : List (Int × Int)} (r : Pairs P D xs) (e : xs = ys) : Pairs P D ys := e ▸ r
local macro_rules | `(tactic| walk_at "call ref") => `(tactic| (k_here; refine HaltC.mk ?_))
section
variable {w : World} {prg : Program} {loose : List Str} {mean : ExcName → Option Value} {mg mb : Str → Option Value}
    {dp un : Nat} {gd : Option (List Code)} {cn : Str} {cs : Scope} {a : Addr} {ccd : Value} {cl : List (Str × Addr)} {outer : List Env} {A₀ : Around} {base h₀ : Heap} {L : Addr} {m : Str → Option Value} {s : Shared} {Q E : Value → Shared → Prop}

theorem name_tells {d : Int} {td : Tok}
    (B : Below A₀ base outer h₀) (F : Fr h₀ L s.heap m) (X : (hd.heap_1 w.params).In h₀) (T : Top prg loose mean mg mb h₀) (hk : cs.kind = .function)
    (hdp : dp + 1 < recursionLimit) (hun : un + 8 < cLine)
    (hret : ∀ D t u v e h' tk', Keeps s.heap h' → New s.heap h' D (W.listOf #[.int (nameN d) t, .int (nameM d) u, .int (nameP d) v] e) → Q (.ref D) { s with heap := h', toks := tk' }) :
    wpAny (model PySem.Challenge.rw_mq0178_01.row.prog w) (ktrTop dp un gd cn cs L a ccd cl outer) (call (.ref 72) [.int d td]) Q E s := by
  have N : News h₀ L s.heap [] := fun _ hp => nomatch hp
  have S₀ := SameB.refl s
  have LK := LedOk.yes
  w_on
  (refine wpAny_call ?_; k_dflt (refine' code_defG ?k1 ?k2 ?k3 ?k4 ?k5 ?kA ?kF ?kK ?k6 ?k7 ?k8 ?k9 ?kB ?_ ?c2 ?c3 ?c4 ?c5; (case kA => exact rfl); (case kF => exact rfl); (case kK => assumption); (case k1 => k_asm); (case k2 => k_asm); (case k3 => k_asm); (case k4 => k_asm); (case k5 => k_asm); (case k6 => k_is); (case k7 => k_is); (case k8 => ktr_room); (case k9 => exact BindsTo.of_eq rfl); (case c5 => decide); (case kB => exact locs rfl); (case c2 => exact rfl); (case c3 => exact rfl); (case c4 => exact rfl); k_whole; intro g' L' h' FG' F' N' B' X' T' H'; (try dsimp only); (try k_lift B'); (try k_fold)))
  k_steps
  · exfalso
    have := Int.fmod_nonneg_of_pos d (show (0:Int) < 9 by decide)
    have := Int.fmod_lt_of_pos d (show (0:Int) < 9 by decide)
    lia
  · rename Hid _ _ _ => HH
    unfold nameP nameM nameN at hret
    refine same_end (by assumption) rfl rfl rfl ?_
    exact hret _ _ _ _ _ _ _ (HH.keeps (by assumption) (by assumption) (fun p hp => nomatch hp)) (fresh0 HH (by assumption) (by news_mem))

theorem cols_tells {l f : Addr} {n mm p n0 m0 p0 : Int} {tn tm tp un0 um0 up0 : Tok} {e e0 : Nat}
    (B : Below A₀ base outer h₀) (F : Fr h₀ L s.heap m) (X : (hd.heap_1 w.params).In h₀) (T : Top prg loose mean mg mb h₀) (hk : cs.kind = .function)
    (hdp : dp + 2 < recursionLimit) (hun : un + 16 < cLine)
    (hl : s.heap.get? l = some (W.listOf #[.int n tn, .int mm tm, .int p tp] e)) (hf : s.heap.get? f = some (W.listOf #[.int n0 un0, .int m0 um0, .int p0 up0] e0)) (hn0 : 0 ≤ n) (hn8 : n ≤ 8) (hm0 : 0 ≤ mm) (hm8 : mm ≤ 8) (hp0 : 0 ≤ p) (hp : p < 48)
    (hn00 : 0 ≤ n0) (hn08 : n0 ≤ 8) (hp00 : 0 ≤ p0) (hp08 : p0 < 48)
    (hret : ∀ D h' tk', Keeps s.heap h' → Pairs (New s.heap h') D (colsL n mm p n0 p0) → Q (.ref D) { s with heap := h', toks := tk' }) :
    wpAny (model PySem.Challenge.rw_mq0178_01.row.prog w) (ktrTop dp un gd cn cs L a ccd cl outer) (call (.ref 86) [.ref l, .ref f]) Q E s := by
  have N : News h₀ L s.heap [] := fun _ hp => nomatch hp
  have S₀ := SameB.refl s
  have LK := LedOk.yes
  w_on
  (refine wpAny_call ?_; k_dflt (refine' code_defG ?k1 ?k2 ?k3 ?k4 ?k5 ?kA ?kF ?kK ?k6 ?k7 ?k8 ?k9 ?kB ?_ ?c2 ?c3 ?c4 ?c5; (case kA => exact rfl); (case kF => exact rfl); (case kK => assumption); (case k1 => k_asm); (case k2 => k_asm); (case k3 => k_asm); (case k4 => k_asm); (case k5 => k_asm); (case k6 => k_is); (case k7 => k_is); (case k8 => ktr_room); (case k9 => exact BindsTo.of_eq rfl); (case c5 => decide); (case kB => exact locs rfl); (case c2 => exact rfl); (case c3 => exact rfl); (case c4 => exact rfl); k_whole; intro g' L' h' FG' F' N' B' X' T' H'; (try dsimp only); (try k_lift B'); (try k_fold)))
  rename Hid _ _ _ => HH
  rename Fr _ _ _ (fun _ => List.lookup _ _) => FF
  have hl' := HH.rest _ _ hl fun _ hp => nomatch hp
  have hf' := HH.rest _ _ hf fun _ hp => nomatch hp
  have gl := lst3 (FF.keep _ _ hl')
  k_steps
  iterate 3 (refine HaltC.get ?_; k_dflt (refine' part_tells ?k1 ?k2 ?k3 ?k4 ?k5 ?k6 ?k7 ?k8 ?b1 ?b2 ?b3 ?b4 ?b5 ?b6 ?b7 ?b8 ?_; (case k1 => k_asm); (case k2 => k_asm); (case k3 => k_asm); (case k4 => k_asm); (case k5 => exact rfl); (case k6 => ktr_room); (case k7 => ktr_units); (case k8 => (rename Fr _ _ _ _ => FQ; exact FQ.keep _ _ (by assumption))); (case b1 => lia); (case b2 => lia); (case b3 => lia); (case b4 => lia); (case b5 => lia); (case b6 => lia); (case b7 => lia); (case b8 => lia); k_whole); intro t' h' tk' kp'; (rename Fr _ _ _ _ => FQ; have F' := FQ.keeps kp'; clear FQ); (rename News _ _ _ _ => NQ; have N' := NQ.grown kp'; clear NQ); clear kp'; k_steps)
  · exfalso
    have hz : mx1 (6 * n) * mx1 (6 * n0) = 0 := by assumption
    have h1 : ∀ z, 0 < mx1 z := fun z => by unfold mx1; split <;> lia
    exact absurd hz (Int.ne_of_gt (Int.mul_pos (h1 _) (h1 _)))
  · have KK := HH.keeps (news := []) (news' := []) (by assumption) (fun _ hp => nomatch hp) (fun p hp => nomatch hp)
    refine same_end (by assumption) rfl rfl rfl ?_
    refine hret _ _ _ KK ((row6 HH (by assumption)).eq ?_)
    clear KK hret
    have hm : min (2 * mm + n) (16 - 2 * mm - n) = if 16 - 2 * mm - n < 2 * mm + n then 16 - 2 * mm - n else 2 * mm + n := by
      rw [Int.min_def]; split <;> split <;> lia
    unfold colsL
    rw [hm]
end
end
section
open PySem PySem.W PySem.Calls PyProof.Rows
set_option maxRecDepth 100000
set_option maxHeartbeats 8000000
/-- the statement's own comparison of two rows -/
def standsI (cx cy : List (Int × Int)) : List (Int × Int) → Int
  | [] => 0
  | (c, sg) :: rs => if (cx.getD c.toNat (0, 0)).1 * (cy.getD c.toNat (0, 0)).2 - (cy.getD c.toNat (0, 0)).1 * (cx.getD c.toNat (0, 0)).2 = 0 then standsI cx cy rs
    else ((cx.getD c.toNat (0, 0)).1 * (cy.getD c.toNat (0, 0)).2 - (cy.getD c.toNat (0, 0)).1 * (cx.getD c.toNat (0, 0)).2) * sg
theorem standsI_cons (cx cy rs : List (Int × Int)) (c sg : Int) : standsI cx cy ((c, sg) :: rs) = if (cx.getD c.toNat (0, 0)).1 * (cy.getD c.toNat (0, 0)).2 - (cy.getD c.toNat (0, 0)).1 * (cx.getD c.toNat (0, 0)).2 = 0 then standsI cx cy rs
    else ((cx.getD c.toNat (0, 0)).1 * (cy.getD c.toNat (0, 0)).2 - (cy.getD c.toNat (0, 0)).1 * (cx.getD c.toNat (0, 0)).2) * sg := rfl
section
variable {w : World} {prg : Program} {loose : List Str} {mean : ExcName → Option Value} {mg mb : Str → Option Value}
    {dp un : Nat} {gd : Option (List Code)} {cn : Str} {cs : Scope} {a : Addr} {ccd : Value} {cl : List (Str × Addr)} {outer : List Env} {A₀ : Around} {base h₀ : Heap} {L : Addr} {m : Str → Option Value} {s : Shared} {Q E : Value → Shared → Prop}
theorem stands_tells {x y l : Addr} {cx cy rs : List (Int × Int)}
    (B : Below A₀ base outer h₀) (F : Fr h₀ L s.heap m) (X : (hd.heap_1 w.params).In h₀) (T : Top prg loose mean mg mb h₀) (hk : cs.kind = .function)
    (hdp : dp + 1 < recursionLimit) (hun : un + 8 < cLine)
    (hx : Pairs (AtH s.heap) x cx) (hy : Pairs (AtH s.heap) y cy) (hr : Pairs (AtH s.heap) l rs)
    (hok : ∀ p ∈ rs, 0 ≤ p.1 ∧ p.1 < 6 ∧ -16 ≤ p.2 ∧ p.2 ≤ 16) (hlx : cx.length = 6) (hly : cy.length = 6) (hbx : ∀ p ∈ cx, -1000000 ≤ p.1 ∧ p.1 ≤ 1000000 ∧ -1000000 ≤ p.2 ∧ p.2 ≤ 1000000) (hby : ∀ p ∈ cy, -1000000 ≤ p.1 ∧ p.1 ≤ 1000000 ∧ -1000000 ≤ p.2 ∧ p.2 ≤ 1000000)
    (hret : ∀ t h' tk', Keeps s.heap h' → Q (.int (standsI cx cy rs) t) { s with heap := h', toks := tk' }) :
    wpAny (model PySem.Challenge.rw_mq0178_01.row.prog w) (ktrTop dp un gd cn cs L a ccd cl outer) (call (.ref 105) [.ref x, .ref y, .ref l]) Q E s := by
  have N : News h₀ L s.heap [] := fun _ hp => nomatch hp
  have S₀ := SameB.refl s
  have LK := LedOk.yes
  w_on
  (refine wpAny_call ?_; k_dflt (refine' code_defG ?k1 ?k2 ?k3 ?k4 ?k5 ?kA ?kF ?kK ?k6 ?k7 ?k8 ?k9 ?kB ?_ ?c2 ?c3 ?c4 ?c5; (case kA => exact rfl); (case kF => exact rfl); (case kK => assumption); (case k1 => k_asm); (case k2 => k_asm); (case k3 => k_asm); (case k4 => k_asm); (case k5 => k_asm); (case k6 => k_is); (case k7 => k_is); (case k8 => ktr_room); (case k9 => exact BindsTo.of_eq rfl); (case c5 => decide); (case kB => exact locs rfl); (case c2 => exact rfl); (case c3 => exact rfl); (case c4 => exact rfl); k_whole; intro gg Lg hg FG' FF NN B' X' T' HH; (try dsimp only); (try k_lift B'); (try k_fold)))
  walk1
  have up : ∀ d o, s.heap.get? d = some o → gg.get? d = some o := fun d o e => HH.rest d o e fun _ hp => nomatch hp
  refine hide fun hideG hideH => ?_
  obtain ⟨vx, ex, gx, Cx⟩ := hx.mono (R := AtH gg) up
  obtain ⟨vy, ey, gy, Cy⟩ := hy.mono (R := AtH gg) up
  obtain ⟨vr, er, gr, Cr⟩ := hr.mono (R := AtH gg) up
  refine hideH ?_; clear hideH hideG
  refine wpAny_execs_cons (for_list (l := l) (vs := vr) (fun I i m' h' => m' "x" = some (.ref x) ∧ m' "y" = some (.ref y) ∧ standsI cx cy rs = standsI cx cy (rs.drop i)) rfl (lst_of gr) ?_ FF (fun I i m h h' _ _ J => J) (fun I h' _ _ => ⟨by with_unfolding_all rfl, by with_unfolding_all rfl, rfl⟩) ?_ ?_)
  · intro Q' hq
    exact wpAny_Name (wpAny_loadName_local rfl rfl FF.ns (by with_unfolding_all rfl) hq) (by decide)
  · intro I oI i v m₁ h₁ tk₁ hI N₁ hi hv rip11 F₁
    refine hide fun hideG hideH => ?_
    obtain ⟨mx, my, hst⟩ := rip11
    refine hideH ?_; clear hideH hideG
    refine hide fun hideG hideH => ?_
    obtain ⟨⟨c, sg⟩, d, t, u, e, hp, rfl, hd⟩ := Cr.back hv
    obtain ⟨hc0, hc6, hs0, hs1⟩ := hok _ (List.mem_of_getElem? hp)
    refine hideH ?_; clear hideH hideG
    dsimp only at hc0 hc6 hs0 hs1 hd
    have hcx : c.toNat < cx.length := by lia
    have hcy : c.toNat < cy.length := by lia
    refine hide fun hideG hideH => ?_
    obtain ⟨dx, tx, ux, fx, hdx, hgx⟩ := Cx.at (List.getElem?_eq_getElem hcx)
    obtain ⟨dy, ty, uy, fy, hdy, hgy⟩ := Cy.at (List.getElem?_eq_getElem hcy)
    obtain ⟨bx1, bx2, bx3, bx4⟩ := hbx _ (List.getElem_mem hcx)
    obtain ⟨by1, by2, by3, by4⟩ := hby _ (List.getElem_mem hcy)
    refine hideH ?_; clear hideH hideG
    have F₂ : Fr gg Lg h₁ _ := fr_known2 F₁ mx my
    have N₂ : News gg Lg h₁ [(I, oI)] := N₁
    have hdl : h₁.IsList d #[.int c t, .int sg u] := lst_of (F₂.keep _ _ hd)
    have hdr : rs.drop i = (c, sg) :: rs.drop (i + 1) := by
      refine hide fun hideG hideH => ?_
      obtain ⟨hlt, he⟩ := List.getElem?_eq_some_iff.mp hp
      refine hideH ?_; clear hideH hideG
      rw [List.drop_eq_getElem_cons hlt, he]
    have ex : cx.getD c.toNat (0, 0) = cx[c.toNat] := by rw [List.getD_eq_getElem?_getD, List.getElem?_eq_getElem hcx]; rfl
    have ey : cy.getD c.toNat (0, 0) = cy[c.toNat] := by rw [List.getD_eq_getElem?_getD, List.getElem?_eq_getElem hcy]; rfl
    rw [hdr, standsI_cons, ex, ey] at hst
    clear F₁ N₁ FF NN
    have S₁ := SameB.refl s
    k_steps
    · dsimp only [TurnEnd]
      have e : standsI cx cy rs = (cx[c.toNat].fst * cy[c.toNat].snd - cy[c.toNat].fst * cx[c.toNat].snd) * sg := by rw [hst, if_neg (by assumption)]
      rw [e] at hret
      k_steps
      refine same_end (by assumption) rfl rfl rfl ?_
      exact hret _ _ _ (HH.keeps (by assumption) (news := []) (news' := []) (fun _ hp => nomatch hp) (fun p hp => nomatch hp))
    · rw [if_pos (by assumption)] at hst
      refine ⟨_, _, _, turn_eq (by assumption) (SameB.refl s) rfl rfl rfl, by assumption, by assumption, by with_unfolding_all rfl, by with_unfolding_all rfl, hst⟩
  · intro I m₁ h₁ tk₁ hI rip5 F₁
    refine hide fun hideG hideH => ?_
    obtain ⟨mx, my, hst⟩ := rip5
    refine hideH ?_; clear hideH hideG
    have N₁ : News gg Lg h₁ [] := fun _ hp => nomatch hp
    have F₂ : Fr gg Lg h₁ _ := F₁
    clear FF NN F₁
    dsimp only
    k_steps
    have e : standsI cx cy rs = 0 := by rw [hst, show rs.drop vr.length = [] from List.drop_eq_nil_of_le (Nat.le_of_eq Cr.len.symm)]; rfl
    rw [e] at hret
    refine same_end (by assumption) rfl rfl rfl ?_
    exact hret _ _ _ (HH.keeps (by assumption) (news := []) (news' := []) (fun _ hp => nomatch hp) (fun p hp => nomatch hp))
end
end
section
open PySem PySem.W PySem.Calls PyProof.Rows
set_option maxRecDepth 100000
set_option maxHeartbeats 8000000
local macro_rules | `(tactic| walk_at "call builtin:max") => `(tactic| (k_here; refine HaltC.mk ?_))
local macro_rules | `(tactic| walk_at "call builtin:min") => `(tactic| (k_here; refine HaltC.mk ?_))

abbrev tup3 (x y z : UInt64) (t u v : Tok) : Obj := { cls := .type "tuple", data := .seq #[.float x t, .float y u, .float z v] }
section
variable {w : World} {prg : Program} {loose : List Str} {mean : ExcName → Option Value} {mg mb : Str → Option Value}
    {dp un : Nat} {gd : Option (List Code)} {cn : Str} {cs : Scope} {a : Addr} {ccd : Value} {cl : List (Str × Addr)} {outer : List Env} {A₀ : Around} {base h₀ : Heap} {L : Addr} {m : Str → Option Value} {s : Shared} {Q E : Value → Shared → Prop} 
theorem hls_tells {r g b : UInt64} {tr tg tb : Tok}
    (B : Below A₀ base outer h₀) (F : Fr h₀ L s.heap m) (X : (hd.heap_1 w.params).In h₀) (T : Top prg loose mean mg mb h₀) (hk : cs.kind = .function)
    (hdp : dp + 1 < recursionLimit) (hun : un + 8 < cLine) (hz : divs (fmx (fmx r g) b) (fmn (fmn r g) b) = true)
    (hret : ∀ D x y z t u v h' tk', (x, y, z) = hls3 r g b (fmx (fmx r g) b) (fmn (fmn r g) b) → Keeps s.heap h' → New s.heap h' D (tup3 x y z t u v) → Q (.ref D) { s with heap := h', toks := tk' }) :
    wpAny (model PySem.Challenge.rw_mq0178_01.row.prog w) (ktrTop dp un gd cn cs L a ccd cl outer) (call (.ref 44) [.float r tr, .float g tg, .float b tb]) Q E s := by
  have N : News h₀ L s.heap [] := fun _ hp => nomatch hp
  have S₀ := SameB.refl s
  have LK := LedOk.yes
  w_on
  (refine wpAny_call ?_; k_dflt (refine' code_defG ?k1 ?k2 ?k3 ?k4 ?k5 ?kA ?kF ?kK ?k6 ?k7 ?k8 ?k9 ?kB ?_ ?c2 ?c3 ?c4 ?c5; (case kA => exact rfl); (case kF => exact rfl); (case kK => assumption); (case k1 => k_asm); (case k2 => k_asm); (case k3 => k_asm); (case k4 => k_asm); (case k5 => k_asm); (case k6 => k_is); (case k7 => k_is); (case k8 => ktr_room); (case k9 => exact BindsTo.of_eq rfl); (case c5 => decide); (case kB => exact locs rfl); (case c2 => exact rfl); (case c3 => exact rfl); (case c4 => exact rfl); k_whole; intro g' L' h' FG' F' N' B' X' T' H'; (try dsimp only); (try k_lift B'); (try k_fold)))
  k_steps
  refine HaltC.get ?_
  (refine' max_three_ff ?k0 ?k1 ?k2 ?_; (case k0 => with_unfolding_all rfl); (case k1 => k_asm); (case k2 => k_asm); k_whole); intro h' tk' r' F' N'; (try dsimp only)
  k_steps
  refine HaltC.get ?_
  (refine' min_three_ff ?k0 ?k1 ?k2 ?_; (case k0 => with_unfolding_all rfl); (case k1 => k_asm); (case k2 => k_asm); k_whole); intro h' tk' r' F' N'; (try dsimp only)
  k_steps
  all_goals first
    | (rename Hid _ _ _ => HH; refine same_end (by assumption) rfl rfl rfl ?_; refine hret _ _ _ _ _ _ _ _ _ ?_ (HH.keeps (by assumption) (by assumption) (fun p hp => nomatch hp)) (fresh0 HH (by assumption) (by news_mem)); clear HH; simp only [hls3, hueF, satF, feq, fle, *]; simp only [if_true, if_false, Bool.false_eq_true])
    | (exfalso; simp only [divs, feq, Bool.or_eq_true, Bool.and_eq_true, Bool.not_eq_true'] at hz; simp_all; done)

theorem hsv_tells {r g b : UInt64} {tr tg tb : Tok}
    (B : Below A₀ base outer h₀) (F : Fr h₀ L s.heap m) (X : (hd.heap_1 w.params).In h₀) (T : Top prg loose mean mg mb h₀) (hk : cs.kind = .function)
    (hdp : dp + 1 < recursionLimit) (hun : un + 8 < cLine) (hz : divs (fmx (fmx r g) b) (fmn (fmn r g) b) = true)
    (hret : ∀ D x y z t u v h' tk', (x, y, z) = hsv3 r g b (fmx (fmx r g) b) (fmn (fmn r g) b) → Keeps s.heap h' → New s.heap h' D (tup3 x y z t u v) → Q (.ref D) { s with heap := h', toks := tk' }) :
    wpAny (model PySem.Challenge.rw_mq0178_01.row.prog w) (ktrTop dp un gd cn cs L a ccd cl outer) (call (.ref 51) [.float r tr, .float g tg, .float b tb]) Q E s := by
  have N : News h₀ L s.heap [] := fun _ hp => nomatch hp
  have S₀ := SameB.refl s
  have LK := LedOk.yes
  w_on
  (refine wpAny_call ?_; k_dflt (refine' code_defG ?k1 ?k2 ?k3 ?k4 ?k5 ?kA ?kF ?kK ?k6 ?k7 ?k8 ?k9 ?kB ?_ ?c2 ?c3 ?c4 ?c5; (case kA => exact rfl); (case kF => exact rfl); (case kK => assumption); (case k1 => k_asm); (case k2 => k_asm); (case k3 => k_asm); (case k4 => k_asm); (case k5 => k_asm); (case k6 => k_is); (case k7 => k_is); (case k8 => ktr_room); (case k9 => exact BindsTo.of_eq rfl); (case c5 => decide); (case kB => exact locs rfl); (case c2 => exact rfl); (case c3 => exact rfl); (case c4 => exact rfl); k_whole; intro g' L' h' FG' F' N' B' X' T' H'; (try dsimp only); (try k_lift B'); (try k_fold)))
  k_steps
  refine HaltC.get ?_
  (refine' max_three_ff ?k0 ?k1 ?k2 ?_; (case k0 => with_unfolding_all rfl); (case k1 => k_asm); (case k2 => k_asm); k_whole); intro h' tk' r' F' N'; (try dsimp only)
  k_steps
  refine HaltC.get ?_
  (refine' min_three_ff ?k0 ?k1 ?k2 ?_; (case k0 => with_unfolding_all rfl); (case k1 => k_asm); (case k2 => k_asm); k_whole); intro h' tk' r' F' N'; (try dsimp only)
  k_steps
  all_goals first
    | (rename Hid _ _ _ => HH; refine same_end (by assumption) rfl rfl rfl ?_; refine hret _ _ _ _ _ _ _ _ _ ?_ (HH.keeps (by assumption) (by assumption) (fun p hp => nomatch hp)) (fresh0 HH (by assumption) (by news_mem)); clear HH; simp only [hsv3, hueF, satF, feq, fle, *]; simp only [if_true, if_false, Bool.false_eq_true])
    | (exfalso; simp only [divs, feq, Bool.or_eq_true, Bool.and_eq_true, Bool.not_eq_true'] at hz; simp_all; done)

theorem yiq_tells {r g b : UInt64} {tr tg tb : Tok}
    (B : Below A₀ base outer h₀) (F : Fr h₀ L s.heap m) (X : (hd.heap_1 w.params).In h₀) (T : Top prg loose mean mg mb h₀) (hk : cs.kind = .function)
    (hdp : dp + 1 < recursionLimit) (hun : un + 8 < cLine)
    (hret : ∀ D y z t u v h' tk', Keeps s.heap h' → New s.heap h' D (tup3 (lumaF r g b) y z t u v) → Q (.ref D) { s with heap := h', toks := tk' }) :
    wpAny (model PySem.Challenge.rw_mq0178_01.row.prog w) (ktrTop dp un gd cn cs L a ccd cl outer) (call (.ref 37) [.float r tr, .float g tg, .float b tb]) Q E s := by
  have N : News h₀ L s.heap [] := fun _ hp => nomatch hp
  have S₀ := SameB.refl s
  have LK := LedOk.yes
  w_on
  (refine wpAny_call ?_; k_dflt (refine' code_defG ?k1 ?k2 ?k3 ?k4 ?k5 ?kA ?kF ?kK ?k6 ?k7 ?k8 ?k9 ?kB ?_ ?c2 ?c3 ?c4 ?c5; (case kA => exact rfl); (case kF => exact rfl); (case kK => assumption); (case k1 => k_asm); (case k2 => k_asm); (case k3 => k_asm); (case k4 => k_asm); (case k5 => k_asm); (case k6 => k_is); (case k7 => k_is); (case k8 => ktr_room); (case k9 => exact BindsTo.of_eq rfl); (case c5 => decide); (case kB => exact locs rfl); (case c2 => exact rfl); (case c3 => exact rfl); (case c4 => exact rfl); k_whole; intro g' L' h' FG' F' N' B' X' T' H'; (try dsimp only); (try k_lift B'); (try k_fold)))
  k_steps
  rename Hid _ _ _ => HH
  refine same_end (by assumption) rfl rfl rfl ?_
  exact hret _ _ _ _ _ _ _ _ (HH.keeps (by assumption) (by assumption) (fun p hp => nomatch hp)) (fresh0 HH (by assumption) (by news_mem))
end
end
section
open PySem PySem.W PySem.Calls PyProof.Rows
set_option maxRecDepth 100000
set_option maxHeartbeats 8000000
theorem news_add {h₀ h h' : Heap} {L : Addr} {m : Str → Option Value} {news : List (Addr × Obj)} {D : Addr} {o : Obj} (F : Fr h₀ L h m) (N : News h₀ L h news) (k : Keeps h h') (x : New h h' D o) : News h₀ L h' ((D, o) :: news) := news_more F x (N.grown k)
local macro_rules | `(tactic| walk_at "call ref") => `(tactic| (k_here; refine HaltC.mk ?_))
local macro_rules | `(tactic| walk_at "CompSrc") => `(tactic| (k_here; k_dflt (refine LCg.CompSrc.range (by rfl) (by k_asm) (by k_asm) (by assumption) (by first | decide | rfl) (by first | rfl | decide) (by first | size_fits | exact Nat.le_of_ble_eq_true rfl) ?_; intro g'; lcg_lit)))
theorem div8 {prog : Program} {w : World} {A : Around} {E : Value → Shared → Prop} {s : Shared} {Q : Value → Shared → Prop} {k : Int} {t u : Tok} (hA : A.handled = none) (h0 : 0 ≤ k) (h8 : k ≤ 8) (h : Q (.float (e8 k.toNat) s.toks) { s with toks := s.toks + 1 }) :
    wpAny (model prog w) A (binaryOp .Div (.int k t) (.int 8 u)) Q E s := by
  refine PySem.Flt.div_ii_fits hA (Nat.lt_of_le_of_lt (show k.natAbs ≤ 8 by lia) (by decide +kernel)) (fun q => absurd q (by decide)) fun _ _ => ?_
  have e : (decide (k < 0) != decide ((8:Int) < 0)) = false := by simp; lia
  have e2 : k.natAbs = k.toNat := by lia
  rw [e, e2]
  exact h
theorem part_lo {n m p c : Int} (hn0 : 0 ≤ n) (hm0 : 0 ≤ m) : 0 ≤ partF n m p c := by
  unfold partF
  split
  · exact hm0
  · exact Int.add_nonneg hm0 (Int.le_min.mpr ⟨hn0, Int.le_max_left _ _⟩)
theorem part_hi {n m p c : Int} (hn0 : 0 ≤ n) (hm0 : m + n ≤ 8) : partF n m p c ≤ 8 := by
  unfold partF
  split
  · exact Int.le_trans (Int.le_add_of_nonneg_right hn0) hm0
  · exact Int.le_trans (Int.add_le_add_left (Int.min_le_left _ _) m) hm0
/-- a part as the eighth that it is -/
def pe (n m p c : Int) : UInt64 := e8 (partF n m p c).toNat
local macro_rules | `(tactic| walk_at "binaryOp Div int int") => `(tactic| (k_here; (with_reducible show wpAny _ _ (binaryOp Operator.Div (Value.int (partF _ _ _ _) _) _) _ _ _); refine div8 rfl (part_lo (by assumption) (by assumption)) (part_hi (by assumption) (by assumption)) ?_; (try dsimp only)))
local macro_rules | `(tactic| walk_at "execs cons") => `(tactic| (k_here; (rename Mark => MK); clear MK; refine HaltC.mk ?_))
section
variable {w : World} {prg : Program} {loose : List Str} {mean : ExcName → Option Value} {mg mb : Str → Option Value}
    {dp un : Nat} {gd : Option (List Code)} {cn : Str} {cs : Scope} {a : Addr} {ccd : Value} {cl : List (Str × Addr)} {outer : List Env} {A₀ : Around} {base h₀ : Heap} {L : Addr} {m : Str → Option Value} {s : Shared} {Q E : Value → Shared → Prop}

theorem told_tells {l : Addr} {n mm p : Int} {tn tm tp : Tok} {og : UInt64} {to : Tok} {e : Nat}
    (B : Below A₀ base outer h₀) (F : Fr h₀ L s.heap m) (X : (hd.heap_1 w.params).In h₀) (T : Top prg loose mean mg mb h₀) (hk : cs.kind = .function)
    (hdp : dp + 2 < recursionLimit) (hun : un + 24 < cLine)
    (hl : s.heap.get? l = some (W.listOf #[.int n tn, .int mm tm, .int p tp] e)) (hn0 : 0 ≤ n) (hn8 : n ≤ 8) (hm0 : 0 ≤ mm) (hm8 : mm + n ≤ 8) (hp0 : 0 ≤ p) (hp : p < 48)
    (hz : divs (fmx (fmx (e8 (partF n mm p 0).toNat) (e8 (partF n mm p 1).toNat)) (e8 (partF n mm p 2).toNat)) (fmn (fmn (e8 (partF n mm p 0).toNat) (e8 (partF n mm p 1).toNat)) (e8 (partF n mm p 2).toNat)) = true)
    (hfin : Float64.isFinite (luma8 (e8 (partF n mm p 0).toNat) (e8 (partF n mm p 1).toNat) (e8 (partF n mm p 2).toNat)) = true)
    (hret : ∀ D x y z x2 y2 z2 t0 t1 t2 t3 t4 t5 e h' tk', (x, y, z) = hls3 (e8 (partF n mm p 0).toNat) (e8 (partF n mm p 1).toNat) (e8 (partF n mm p 2).toNat) (fmx (fmx (e8 (partF n mm p 0).toNat) (e8 (partF n mm p 1).toNat)) (e8 (partF n mm p 2).toNat)) (fmn (fmn (e8 (partF n mm p 0).toNat) (e8 (partF n mm p 1).toNat)) (e8 (partF n mm p 2).toNat)) →
      (x2, y2, z2) = hsv3 (e8 (partF n mm p 0).toNat) (e8 (partF n mm p 1).toNat) (e8 (partF n mm p 2).toNat) (fmx (fmx (e8 (partF n mm p 0).toNat) (e8 (partF n mm p 1).toNat)) (e8 (partF n mm p 2).toNat)) (fmn (fmn (e8 (partF n mm p 0).toNat) (e8 (partF n mm p 1).toNat)) (e8 (partF n mm p 2).toNat)) →
      Keeps s.heap h' → New s.heap h' D (W.listOf #[.float (Float64.divmod (Float64.sub x og) 4607182418800017408).2 t0, .float y2 t1, .float z2 t2, .float y t3, .float z t4, .int (lumaI (e8 (partF n mm p 0).toNat) (e8 (partF n mm p 1).toNat) (e8 (partF n mm p 2).toNat)) t5] e) → Q (.ref D) { s with heap := h', toks := tk' }) :
    wpAny (model PySem.Challenge.rw_mq0178_01.row.prog w) (ktrTop dp un gd cn cs L a ccd cl outer) (call (.ref 91) [.ref l, .float og to]) Q E s := by
  have N : News h₀ L s.heap [] := fun _ hp => nomatch hp
  w_on
  (refine wpAny_call ?_; k_dflt (refine' code_cellsG ?k1 ?k2 ?k3 ?k4 ?k5 ?kA ?kF ?kK ?k6 ?k7 ?k8 ?k9 ?kB ?kD ?_ ?c2 ?c3 ?c4; (case kA => exact rfl); (case kF => exact rfl); (case kK => assumption); (case k1 => k_asm); (case k2 => k_asm); (case k3 => k_asm); (case k4 => k_asm); (case k5 => k_asm); (case k6 => k_is); (case k7 => k_is); (case k8 => ktr_room); (case k9 => exact BindsTo.of_eq rfl); (case kB => exact rfl); (case kD => decide +kernel); (case c2 => exact rfl); (case c3 => exact rfl); (case c4 => exact rfl); k_whole; intro g' L' h' tk' cells' FG' F' N' Y' B' X' T' H' C'; k_cells Y'; (try simp only [List.cons_append, List.nil_append] at N'); (try dsimp only); (try k_lift B'); (try k_fold)))
  rename Hid _ _ _ => HH
  have hl' := HH.rest _ _ hl fun _ hp => nomatch hp
  refine wpAny_execs_cons ?_
  have MK := Mark.yes
  k_steps
  iterate 3 (refine HaltC.get ?_; k_dflt (refine' part_tells ?k1 ?k2 ?k3 ?k4 ?k5 ?k6 ?k7 ?k8 ?b1 ?b2 ?b3 ?b4 ?b5 ?b6 ?b7 ?b8 ?_; (case k1 => k_asm); (case k2 => k_asm); (case k3 => k_asm); (case k4 => k_asm); (case k5 => exact rfl); (case k6 => ktr_room); (case k7 => ktr_units); (case k8 => (rename Fr _ _ _ _ => FQ; exact FQ.keep _ _ (by assumption))); (case b1 => lia); (case b2 => lia); (case b3 => lia); (case b4 => lia); (case b5 => lia); (case b6 => lia); (case b7 => lia); (case b8 => lia); k_whole); intro t' h' tk' kp'; (rename Fr _ _ _ _ => FQ; have F' := FQ.keeps kp'; clear FQ); (rename News _ _ _ _ => NQ; have N' := NQ.grown kp'; clear NQ); clear kp'; k_steps)
  refine HaltC.get ?_
  have S₀ := SameB.refl s
  have LK := LedOk.yes
  k_steps
  refine HaltC.get ?_
  k_dflt (refine' hls_tells ?k1 ?k2 ?k3 ?k4 ?k5 ?k6 ?k7 ?kz ?_; (case k1 => k_asm); (case k2 => k_asm); (case k3 => k_asm); (case k4 => k_asm); (case k5 => exact rfl); (case k6 => ktr_room); (case k7 => ktr_units); (case kz => assumption); k_whole); intro D' x' y' z' t' u' v' h' tk' e' kp' nw'; (rename News _ _ _ _ => NQ; rename Fr _ _ _ _ => FQ; have N' := news_add FQ NQ kp' nw'; have F' := FQ.keeps kp'; clear FQ NQ); clear kp' nw'
  k_steps
  refine HaltC.get ?_
  k_dflt (refine' hsv_tells ?k1 ?k2 ?k3 ?k4 ?k5 ?k6 ?k7 ?kz ?_; (case k1 => k_asm); (case k2 => k_asm); (case k3 => k_asm); (case k4 => k_asm); (case k5 => exact rfl); (case k6 => ktr_room); (case k7 => ktr_units); (case kz => assumption); k_whole); intro D' x' y' z' t' u' v' h' tk' e' kp' nw'; (rename News _ _ _ _ => NQ; rename Fr _ _ _ _ => FQ; have N' := news_add FQ NQ kp' nw'; have F' := FQ.keeps kp'; clear FQ NQ); clear kp' nw'
  k_steps
  refine HaltC.get ?_
  k_dflt (refine' yiq_tells ?k1 ?k2 ?k3 ?k4 ?k5 ?k6 ?k7 ?_; (case k1 => k_asm); (case k2 => k_asm); (case k3 => k_asm); (case k4 => k_asm); (case k5 => exact rfl); (case k6 => ktr_room); (case k7 => ktr_units); k_whole); intro D' y' z' t' u' v' h' tk' kp' nw'; (rename News _ _ _ _ => NQ; rename Fr _ _ _ _ => FQ; have N' := news_add FQ NQ kp' nw'; have F' := FQ.keeps kp'; clear FQ NQ); clear kp' nw'
  k_steps
  · exfalso
    have hn : Float64.isNaN (luma8 (e8 (partF n mm p 0).toNat) (e8 (partF n mm p 1).toNat) (e8 (partF n mm p 2).toNat)) = true := by assumption
    rw [PySem.Flt.not_nan_of_finite hfin] at hn
    cases hn
  · exfalso
    have hn : Float64.isInf (luma8 (e8 (partF n mm p 0).toNat) (e8 (partF n mm p 1).toNat) (e8 (partF n mm p 2).toNat)) = true := by assumption
    rw [PySem.Flt.not_inf_of_finite hfin] at hn
    cases hn
  · refine same_end (by assumption) rfl rfl rfl ?_
    refine hret _ _ _ _ _ _ _ _ _ _ _ _ _ _ _ _ (by assumption) (by assumption) (HH.keeps (by assumption) (by assumption) (fun p hp => nomatch hp)) (fresh0 HH (by assumption) (.head _))
end
end
section
open PySem PySem.W PySem.Calls PyProof.Rows
set_option maxRecDepth 100000
set_option maxHeartbeats 8000000
def Halt2 (P : Prop) : Prop := P
theorem Halt2.mk {P : Prop} (h : Halt2 P) : P := h
theorem Halt2.get {P : Prop} (h : P) : Halt2 P := h
local macro_rules | `(tactic| walk_at "exec For Name Call cons nil") => `(tactic| (k_here; refine Halt2.mk ?_))
local macro_rules | `(tactic| walk_at "call builtin:list.append") => `(tactic| (k_here; (show wpAny _ _ (call (Value.builtin _) [Value.ref _, _]) _ _ _); k_dflt (refine append_K (by k_asm) (by k_asm) (.tail (by k_ne) (.tail (by k_ne) (.head (by assumption)))) ?_ (by rw [sizeLine_eq]; simp; lia)); intro h' F' N'; (try k_sweep)))
def sizeR (d : Int) : Int := 1 + Int.fmod (Int.fdiv d 1728) 3
theorem sizeR_lo (d : Int) : 1 ≤ sizeR d ∧ sizeR d ≤ 3 := by
  have := Int.fmod_nonneg_of_pos (Int.fdiv d 1728) (show (0:Int) < 3 by decide)
  have := Int.fmod_lt_of_pos (Int.fdiv d 1728) (show (0:Int) < 3 by decide)
  unfold sizeR
  lia
/-- a pair made: its place, its two ints -/
structure Cel where
  d : Addr
  x : Int
  y : Int
  t : Tok
  u : Tok
  e : Nat
def Cel.ref (c : Cel) : Value := .ref c.d
def Cel.pair (c : Cel) : Addr × Obj := (c.d, W.listOf #[.int c.x c.t, .int c.y c.u] c.e)
theorem cells_of {P : Addr → Obj → Prop} : ∀ (cs : List Cel), (∀ c ∈ cs, P c.d (W.listOf #[.int c.x c.t, .int c.y c.u] c.e)) → Cells P (cs.map Cel.ref) (cs.map fun c => (c.x, c.y))
  | [], _ => .nil
  | c :: cs, h => .cons (h c List.mem_cons_self) (cells_of cs fun c hc => h c (List.mem_cons_of_mem _ hc))
/-- what holds ahead of a turn -/
inductive RuleJ (gg : Heap) (Lg : Addr) (d : Int) (td : Tok) (I : Addr) (i : Nat) (m' : Str → Option Value) (h' : Heap) : Prop
  | mk (ts : Tok) (o : Addr) (e : Nat) (cs : List Cel) (vs : List Value) (tl : List (Addr × Obj)) (hvs : vs = cs.map Cel.ref) (htl : tl = cs.map Cel.pair)
      (a1 : m' "d" = some (.int d td)) (a2 : m' "size" = some (.int (sizeR d) ts)) (a3 : m' "rules" = some (.ref o)) (a4 : o ≠ I) (a5 : cs.length = i) (a6 : ∀ c ∈ cs, Cel.d c ≠ I ∧ Cel.d c ≠ o)
      (a7 : News gg Lg h' ((o, W.listOf (List.toArray vs) e) :: tl)) (a8 : ∀ c ∈ cs, 0 ≤ c.x ∧ c.x < 6 ∧ (c.y = sizeR d ∨ c.y = -sizeR d))
theorem RuleJ.next {gg h : Heap} {Lg D o I : Addr} {oI : Obj} {d x y : Int} {td ts t u : Tok} {i e n : Nat} {m : Str → Option Value} {cs : List Cel} {vs : List Value} {tl : List (Addr × Obj)} (hvs : vs = cs.map Cel.ref) (htl : tl = cs.map Cel.pair)
    (a1 : m "d" = some (.int d td)) (a2 : m "size" = some (.int (sizeR d) ts)) (a3 : m "rules" = some (.ref o)) (a4 : o ≠ I) (a5 : cs.length = i) (a6 : ∀ c ∈ cs, Cel.d c ≠ I ∧ Cel.d c ≠ o)
    (N : News gg Lg h ((D, W.listOf #[.int x t, .int y u] n) :: (I, oI) :: (o, W.listOf ((List.toArray vs).push (.ref D)) e) :: tl)) (a8 : ∀ c ∈ cs, 0 ≤ c.x ∧ c.x < 6 ∧ (c.y = sizeR d ∨ c.y = -sizeR d))
    (hDI : D ≠ I) (hDo : D ≠ o) (hx : 0 ≤ x) (hx6 : x < 6) (hy : y = sizeR d ∨ y = -sizeR d) : RuleJ gg Lg d td I (i + 1) m h := by
  refine ⟨ts, o, e, cs ++ [⟨D, x, y, t, u, n⟩], vs ++ [.ref D], tl ++ [(D, W.listOf #[.int x t, .int y u] n)], by rw [List.map_append, hvs]; rfl, by rw [List.map_append, htl]; rfl, a1, a2, a3, a4, by rw [List.length_append, a5]; rfl, fun c hc => ?_, fun p hp => ?_, fun c hc => ?_⟩
  · rcases List.mem_append.mp hc with hc | hc
    · exact a6 c hc
    · cases List.mem_singleton.mp hc; exact ⟨hDI, hDo⟩
  · rw [List.push_toArray] at N
    rcases List.mem_cons.mp hp with rfl | hp
    · exact N _ (.tail _ (.tail _ (.head _)))
    · rcases List.mem_append.mp hp with hp | hp
      · exact N _ (.tail _ (.tail _ (.tail _ hp)))
      · cases List.mem_singleton.mp hp; exact N _ (.head _)
  · rcases List.mem_append.mp hc with hc | hc
    · exact a8 c hc
    · cases List.mem_singleton.mp hc; exact ⟨hx, hx6, hy⟩
theorem pow_some {w : World} {prog : Program} {A : Around} {E : Value → Shared → Prop} {Q : Value → Shared → Prop} {s : Shared} {a : Int} {k : Nat} {t u : Tok} (ha : 0 < a) (ha6 : a ≤ 6) (hk : k < 3) (hsz : (Builtin.Int.intBits a : Int) * (k : Int) ≤ 2 ^ 27) (h : ∀ X : Int, 0 < X → X ≤ 36 → Q (.int X s.toks) { s with toks := s.toks + 1 }) :
    wpAny (model prog w) A (binaryOp .Pow (.int a t) (.int (k : Int) u)) Q E s := by
  refine pow_int (by lia) hsz (h _ (Int.pow_pos ha) ?_)
  have h1 : a = 1 ∨ a = 2 ∨ a = 3 ∨ a = 4 ∨ a = 5 ∨ a = 6 := by lia
  have h2 : k = 0 ∨ k = 1 ∨ k = 2 := by lia
  rcases h1 with rfl | rfl | rfl | rfl | rfl | rfl <;> rcases h2 with rfl | rfl | rfl <;> decide
theorem bits2 : Builtin.Int.intBits 2 ≤ 3 := by decide +kernel
theorem bits6 : Builtin.Int.intBits 6 ≤ 3 := by decide +kernel
theorem bits_n {a k : Nat} (h : a ≤ 3) (hk : k < 3) : (a : Int) * (k : Int) ≤ 2 ^ 27 := by
  have := Nat.mul_le_mul h (Nat.le_of_lt hk)
  have e : (a : Int) * (k : Int) = ((a * k : Nat) : Int) := by simp
  rw [e]; lia
local macro_rules | `(tactic| walk_at "binaryOp FloorDiv int int") => `(tactic| (k_here; k_dflt (refine floordiv_int (by lia) ?_ (Or.inl (PyProof.noPylong_small (by omega))))))
local macro_rules | `(tactic| walk_at "binaryOp Pow int int") => `(tactic| (k_here; k_dflt (refine pow_some (by decide) (by decide) (by assumption) (bits_n (by first | exact bits2 | exact bits6) (by assumption)) ?_); intro X hX hX36))
local macro_rules | `(tactic| walk_at "newList") => `(tactic| (k_here; (rename SameB _ _ => SQ); k_dflt (refine' newList_L SQ rfl rfl rfl ?k1 ?k2 ?_; (case k1 => k_asm); (case k2 => k_asm); k_whole); clear SQ; intro lN sN led SN FN NN lN1; (try k_lt lN1); (try k_sweep)))
section
variable {w : World} {prg : Program} {loose : List Str} {mean : ExcName → Option Value} {mg mb : Str → Option Value}
    {dp un : Nat} {gd : Option (List Code)} {cn : Str} {cs : Scope} {a : Addr} {ccd : Value} {cl : List (Str × Addr)} {outer : List Env} {A₀ : Around} {base h₀ : Heap} {L : Addr} {m : Str → Option Value} {s : Shared} {Q E : Value → Shared → Prop}
theorem rules_tells {d : Int} {td : Tok}
    (B : Below A₀ base outer h₀) (F : Fr h₀ L s.heap m) (X : (hd.heap_1 w.params).In h₀) (T : Top prg loose mean mg mb h₀) (hk : cs.kind = .function)
    (hdp : dp + 2 < recursionLimit) (hun : un + 16 < cLine)
    (hret : ∀ D rs h' tk', Keeps s.heap h' → Pairs (New s.heap h') D rs → rs.length = 3 → (∀ p ∈ rs, 0 ≤ p.1 ∧ p.1 < 6 ∧ (p.2 = sizeR d ∨ p.2 = -sizeR d)) → Q (.ref D) { s with heap := h', toks := tk' }) :
    wpAny (model PySem.Challenge.rw_mq0178_01.row.prog w) (ktrTop dp un gd cn cs L a ccd cl outer) (call (.ref 65) [.int d td]) Q E s := by
  have N : News h₀ L s.heap [] := fun _ hp => nomatch hp
  have S₀ := SameB.refl s
  w_on
  (refine wpAny_call ?_; k_dflt (refine' code_defG ?k1 ?k2 ?k3 ?k4 ?k5 ?kA ?kF ?kK ?k6 ?k7 ?k8 ?k9 ?kB ?_ ?c2 ?c3 ?c4 ?c5; (case kA => exact rfl); (case kF => exact rfl); (case kK => assumption); (case k1 => k_asm); (case k2 => k_asm); (case k3 => k_asm); (case k4 => k_asm); (case k5 => k_asm); (case k6 => k_is); (case k7 => k_is); (case k8 => ktr_room); (case k9 => exact BindsTo.of_eq rfl); (case c5 => decide); (case kB => exact locs rfl); (case c2 => exact rfl); (case c3 => exact rfl); (case c4 => exact rfl); k_whole; intro gg Lg hg FG' FF NN B' X' T' HH; (try dsimp only); (try k_lift B'); (try k_fold)))
  k_steps
  refine Halt2.get ?_
  rename SameB s _ => SL
  have SM := SL
  rename Fr gg Lg _ _ => F1
  rename News gg Lg _ _ => N1
  refine for_range (g := gg) (n := 3) (RuleJ gg Lg d td) rfl (by decide) ?_ (fun _ _ _ => rfl) (fun I i m h h' hI hk J => ?_) ?_ ?_
  · k_steps
    rename News gg Lg _ _ => N2
    refine ⟨_, _, _, _, _, _, _, rfl, turn_eq (by assumption) (by first | exact SameB.refl _ | assumption) rfl rfl rfl, by assumption, rfl, _, by assumption, fun I h' hI hk' => ⟨_, _, 0, [], [], [], rfl, rfl, by with_unfolding_all rfl, by with_unfolding_all rfl, by with_unfolding_all rfl, fun q => ?_, rfl, ?_, ?_, ?_⟩⟩
    · have e := (N2 _ (.head _)).1
      dsimp only at e
      rw [q, hI] at e
      cases e
    · intro c hc; cases hc
    · exact fun p hp => N2.grown hk' p hp
    · intro c hc; cases hc
  · obtain ⟨ts, o, e, cs, vs, tl, hvs, htl, a1, a2, a3, a4, a5, a6, a7, a8⟩ := J
    refine ⟨ts, o, e, cs, vs, tl, hvs, htl, a1, a2, a3, a4, a5, a6, fun p hp => ⟨hk _ _ ?_ (a7 p hp).1, (a7 p hp).2⟩, a8⟩
    rcases List.mem_cons.mp hp with rfl | hp
    · exact a4
    · rw [htl] at hp
      obtain ⟨c, hc, rfl⟩ := List.mem_map.mp hp
      show c.d ≠ I
      exact (a6 c hc).1
  · intro I oI i v m₁ h₁ tk₁ hI N₁ hi hv J F₁
    refine hide fun hideG hideH => ?_
    obtain ⟨ti, rfl⟩ := hv
    obtain ⟨ts, o, e, cs, vs, tl, hvs, htl, a1, a2, a3, a4, a5, a6, a7, a8⟩ := J
    refine hideH ?_; clear hideH hideG
    have F₂ : Fr gg Lg h₁ _ := fr_known3 F₁ a1 a2 a3
    have N₂ : News gg Lg h₁ ((I, oI) :: (o, W.listOf (List.toArray vs) e) :: tl) := fun p hp => by
      rcases List.mem_cons.mp hp with rfl | hp
      · exact N₁ _ (.head _)
      · exact a7 _ hp
    have hT : ∀ p ∈ tl, p.1 ≠ o := fun p hp => by
      rw [htl] at hp
      obtain ⟨c, hc, rfl⟩ := List.mem_map.mp hp
      exact (a6 c hc).2
    have hvl : vs.length = i := by rw [hvs, List.length_map, a5]
    clear F₁ N₁ a7
    have hI4 : ¬ (@Eq Nat o I) := a4
    try dsimp only
    k_steps
    all_goals (
      rename News gg Lg _ _ => N5
      exact ⟨_, _, _, turn_eq (by assumption) (by first | exact SameB.refl _ | assumption) rfl rfl rfl, by assumption, news_one N5 (by k_mem), RuleJ.next hvs htl (by with_unfolding_all rfl) (by with_unfolding_all rfl) (by with_unfolding_all rfl) a4 a5 a6 N5 a8 (by k_ne) (by k_ne) (Int.fmod_nonneg_of_pos _ (by decide)) (Int.fmod_lt_of_pos _ (by decide)) (by first | exact .inl rfl | exact .inr rfl)⟩)
  · intro I m₁ h₁ tk₁ hI J F₁
    refine hide fun hideG hideH => ?_
    obtain ⟨ts, o, e, cs, vs, tl, hvs, htl, a1, a2, a3, a4, a5, a6, a7, a8⟩ := J
    refine hideH ?_; clear hideH hideG
    have F₂ : Fr gg Lg h₁ _ := fr_known F₁ a3
    subst hvs htl
    clear F₁
    dsimp only
    k_steps
    rename Fr gg Lg _ _ => F9
    rename News gg Lg _ _ => N9
    refine same_end (by assumption) rfl rfl rfl ?_
    refine hret o (cs.map fun c => (c.x, c.y)) _ _ (HH.keeps F9 N9 (fun p hp => nomatch hp)) ⟨_, e, fresh0 HH N9 (.head _), cells_of cs fun c hc => fresh0 HH N9 (List.mem_cons_of_mem _ (List.mem_map_of_mem hc))⟩ (by rw [List.length_map]; exact a5) fun p hp => ?_
    obtain ⟨c, hc, rfl⟩ := List.mem_map.mp hp
    exact a8 c hc
end
end
section
open PySem PySem.W PySem.Calls PyProof.Rows
set_option maxRecDepth 100000
set_option maxHeartbeats 8000000
def Halt3 (P : Prop) : Prop := P
theorem Halt3.mk {P : Prop} (h : Halt3 P) : P := h
theorem Halt3.get {P : Prop} (h : P) : Halt3 P := h
local macro_rules | `(tactic| walk_at "exec For Name Call cons nil") => `(tactic| (k_here; refine Halt3.mk ?_))
local macro_rules | `(tactic| walk_at "newList") => `(tactic| (k_here; (rename SameB _ _ => SQ); k_dflt (refine' newList_L SQ rfl rfl rfl ?k1 ?k2 ?_; (case k1 => k_asm); (case k2 => k_asm); k_whole); clear SQ; intro lN sN led SN FN NN lN1; (try k_lt lN1); (try k_sweep)))
/-- ahead of a turn -/
inductive DrawJ (gg : Heap) (Lg l : Addr) (I : Addr) (i : Nat) (m' : Str → Option Value) (h' : Heap) : Prop
  | mk (o : Addr) (e : Nat) (ws : List Value) (ds : List Int) (a1 : m' "script" = some (.ref l)) (a3 : m' "draws" = some (.ref o)) (a4 : o ≠ I) (a5 : News gg Lg h' [(o, W.listOf (List.toArray ws) e)]) (a6 : IntsAre ws ds) (a7 : ds.length = 9)
section
variable {w : World} {prg : Program} {loose : List Str} {mean : ExcName → Option Value} {mg mb : Str → Option Value}
    {dp un : Nat} {gd : Option (List Code)} {cn : Str} {cs : Scope} {a : Addr} {ccd : Value} {cl : List (Str × Addr)} {outer : List Env} {A₀ : Around} {base h₀ : Heap} {L : Addr} {m : Str → Option Value} {s : Shared} {Q E : Value → Shared → Prop}
theorem draws_tells {l : Addr} {vs : List Value} {ns : List Int}
    (B : Below A₀ base outer h₀) (F : Fr h₀ L s.heap m) (X : (hd.heap_1 w.params).In h₀) (T : Top prg loose mean mg mb h₀) (hk : cs.kind = .function)
    (hdp : dp + 2 < recursionLimit) (hun : un + 16 < cLine) (hl : s.heap.IsList l vs.toArray) (hi : IntsAre vs ns) (h63 : ns.length ≤ 63)
    (hret : ∀ D ws ds e h' tk', Keeps s.heap h' → New s.heap h' D (W.listOf (List.toArray ws) e) → IntsAre ws ds → ds.length = 9 → Q (.ref D) { s with heap := h', toks := tk' }) :
    wpAny (model PySem.Challenge.rw_mq0178_01.row.prog w) (ktrTop dp un gd cn cs L a ccd cl outer) (call (.ref 58) [.ref l]) Q E s := by
  have N : News h₀ L s.heap [] := fun _ hp => nomatch hp
  have S₀ := SameB.refl s
  w_on
  (refine wpAny_call ?_; k_dflt (refine' code_defG ?k1 ?k2 ?k3 ?k4 ?k5 ?kA ?kF ?kK ?k6 ?k7 ?k8 ?k9 ?kB ?_ ?c2 ?c3 ?c4 ?c5; (case kA => exact rfl); (case kF => exact rfl); (case kK => assumption); (case k1 => k_asm); (case k2 => k_asm); (case k3 => k_asm); (case k4 => k_asm); (case k5 => k_asm); (case k6 => k_is); (case k7 => k_is); (case k8 => ktr_room); (case k9 => exact BindsTo.of_eq rfl); (case c5 => decide); (case kB => exact locs rfl); (case c2 => exact rfl); (case c3 => exact rfl); (case c4 => exact rfl); k_whole; intro gg Lg hg FG' FF NN B' X' T' HH; (try dsimp only); (try k_lift B'); (try k_fold)))
  have gl : gg.IsList l vs.toArray := hl.at fun o e => HH.rest _ _ e fun _ hp => nomatch hp
  k_steps
  refine Halt3.get ?_
  rename SameB s _ => SL
  have SM := SL
  rename Fr gg Lg _ _ => F1
  rename News gg Lg _ _ => N1
  refine for_range (g := gg) (n := min 63 ns.length) (DrawJ gg Lg l) rfl (by lia) ?_ (fun _ _ _ => rfl) (fun I i m h h' hI hk J => ?_) ?_ ?_
  · k_steps
    rename News gg Lg _ _ => N2
    refine ⟨_, _, _, _, _, _, _, rfl, turn_eq (by assumption) (by first | exact SameB.refl _ | assumption) rfl rfl rfl, by assumption, by split <;> lia, _, by assumption, fun I h' hI hk' => ⟨_, _, _, [2060, 427, 92, 818, 45, 1399, 1, 247, 759], by with_unfolding_all rfl, by with_unfolding_all rfl, fun q => ?_, N2.grown hk', .cons _ _ (.cons _ _ (.cons _ _ (.cons _ _ (.cons _ _ (.cons _ _ (.cons _ _ (.cons _ _ (.cons _ _ .nil)))))))), rfl⟩⟩
    have e := (N2 _ (.head _)).1
    dsimp only at e
    rw [q, hI] at e
    cases e
  · refine hide fun hideG hideH => ?_
    obtain ⟨o, e, ws, ds, a1, a3, a4, a5, a6, a7⟩ := J
    refine hideH ?_; clear hideH hideG
    exact ⟨o, e, ws, ds, a1, a3, a4, fun p hp => by cases List.mem_singleton.mp hp; exact ⟨hk _ _ a4 (a5 _ (.head _)).1, (a5 _ (.head _)).2⟩, a6, a7⟩
  · intro I oI i v m₁ h₁ tk₁ rip7 N₁ hi' rip10 rip11 F₁
    clear rip7
    refine hide fun hideG hideH => ?_
    obtain ⟨ti, rfl⟩ := rip10
    obtain ⟨o, e, ws, ds, a1, a3, a4, a5, a6, a7⟩ := rip11
    refine hideH ?_; clear hideH hideG
    have F₂ : Fr gg Lg h₁ _ := fr_known2 F₁ a1 a3
    have N₂ : News gg Lg h₁ [(I, oI), (o, W.listOf (List.toArray ws) e)] := fun p hp => by
      rcases List.mem_cons.mp hp with rfl | hp
      · exact N₁ _ (.head _)
      · exact a5 _ hp
    clear F₁ N₁ a5
    have hI4 : ¬ (@Eq Nat o I) := a4
    have hi2 : i < ns.length := by lia
    have hi0 : (0 : Int) ≤ (i : Int) := by lia
    have hi3 : ((i : Nat) : Int) < (ns.length : Int) := by lia
    k_steps
    rename News gg Lg _ _ => N5
    exact ⟨_, _, _, turn_eq (by assumption) (by first | exact SameB.refl _ | assumption) rfl rfl rfl, by assumption, news_one N5 (by k_mem), o, _, _, _, by with_unfolding_all rfl, by with_unfolding_all rfl, hI4, news_one N5 (by k_mem), by assumption, Eq.trans (by assumption) a7⟩
  · intro I m₁ h₁ tk₁ hI rip5 F₁
    refine hide fun hideG hideH => ?_
    obtain ⟨o, e, ws, ds, a1, a3, a4, a5, a6, a7⟩ := rip5
    refine hideH ?_; clear hideH hideG
    have F₂ : Fr gg Lg h₁ _ := fr_known F₁ a3
    have N₂ : News gg Lg h₁ [(o, W.listOf (List.toArray ws) e)] := a5
    clear F₁
    dsimp only
    k_steps
    rename Fr gg Lg _ _ => F9
    rename News gg Lg _ _ => N9
    refine same_end (by assumption) rfl rfl rfl ?_
    exact hret o ws ds _ _ _ (HH.keeps F9 N9 (fun p hp => nomatch hp)) (fresh0 HH N9 (.head _)) a6 a7
end
end
section
open PySem PySem.W PySem.Calls PyProof.Rows
set_option maxRecDepth 100000
set_option maxHeartbeats 8000000
inductive PRows (at' : Addr → Obj → Prop) : List Value → List (List (Int × Int)) → Prop
  | nil : PRows at' [] []
  | cons {D : Addr} {xs : List (Int × Int)} {vs : List Value} {r : List (List (Int × Int))} : Pairs at' D xs → PRows at' vs r → PRows at' (.ref D :: vs) (xs :: r)
theorem PRows.at {P : Addr → Obj → Prop} : ∀ {vs : List Value} {r : List (List (Int × Int))}, PRows P vs r → ∀ {k : Nat} {xs : List (Int × Int)}, r[k]? = some xs → ∃ D, vs[k]? = some (.ref D) ∧ Pairs P D xs
  | _, _, .cons h r, 0, xs, e => by cases e; exact ⟨_, rfl, h⟩
  | _, _, .cons h r, k + 1, xs, e => r.at (k := k) e
theorem PRows.len {P : Addr → Obj → Prop} : ∀ {vs : List Value} {r : List (List (Int × Int))}, PRows P vs r → vs.length = r.length
  | _, _, .nil => rfl
  | _, _, .cons _ r => congrArg (· + 1) r.len
theorem PRows.mono {P R : Addr → Obj → Prop} (h : ∀ d o, P d o → R d o) : ∀ {vs : List Value} {r : List (List (Int × Int))}, PRows P vs r → PRows R vs r
  | _, _, .nil => .nil
  | _, _, .cons hd r => .cons (hd.mono h) (PRows.mono h r)
def PTab (at' : Addr → Obj → Prop) (D : Addr) (r : List (List (Int × Int))) : Prop := ∃ vs e, at' D (W.listOf (List.toArray vs) e) ∧ PRows at' vs r
theorem PTab.mono {P R : Addr → Obj → Prop} (h : ∀ d o, P d o → R d o) {D : Addr} {r : List (List (Int × Int))} : PTab P D r → PTab R D r := fun ⟨vs, e, a, b⟩ => ⟨vs, e, h _ _ a, b.mono h⟩
/-- put a behind those that p holds of -/
def insP (p : Int → Bool) (a : Int) : List Int → List Int
  | [] => [a]
  | x :: xs => if p x = true then x :: insP p a xs else a :: x :: xs
/-- does x stay ahead of a -/
def aheadP (rows : List (List (Int × Int))) (rs : List (Int × Int)) (way a : Int) (x : Int) : Bool := decide (way * standsI (rows.getD x.toNat []) (rows.getD a.toNat []) rs ≤ 0)
def ordI (rows : List (List (Int × Int))) (rs : List (Int × Int)) (way : Int) : Nat → List Int
  | 0 => []
  | i + 1 => insP (aheadP rows rs way i) i (ordI rows rs way i)
def Halt (P : Prop) : Prop := P
theorem Halt.mk {P : Prop} (h : Halt P) : P := h
theorem Halt.get {P : Prop} (h : P) : Halt P := h
local macro_rules | `(tactic| walk_at "exec For Name Call cons nil") => `(tactic| (k_here; refine Halt.mk ?_))
local macro_rules | `(tactic| walk_at "exec While BoolOp cons nil") => `(tactic| (k_here; refine Halt.mk ?_))
local macro_rules | `(tactic| walk_at "call builtin:len") => `(tactic| (k_here; (with_reducible show wpAny _ _ (call (Value.builtin "len") [Value.ref _]) _ _ _); first
  | (k_dflt (refine' len_base ?F ?hg ?hs ?_; (case F => k_asm); (case hg => assumption); (case hs => lia); k_whole))
  | (k_dflt (refine' len_news ?N ?hm ?hs ?_; (case N => k_asm); (case hm => k_mem); (case hs => lia); k_whole))))
local macro_rules | `(tactic| walk_at "subscriptTail") => `(tactic| (k_here; (with_reducible show wpAny _ _ (subscriptTail _ _ (Value.ref _) (Value.int _ _)) _ _ _); first
  | (k_dflt (refine' item_base ?F ?hg ?h0 ?hk ?hx ?_ ?hs; (case F => k_asm); (case hg => assumption); (case h0 => lia); (case hk => lia); (case hx => first | assumption | rfl); (case hs => with_unfolding_all rfl); k_whole))
  | (k_dflt (refine' item_news ?N ?hm ?h0 ?hk ?hx ?_ ?hs; (case N => k_asm); (case hm => k_mem); (case h0 => lia); (case hk => lia); (case hx => first | assumption | rfl); (case hs => with_unfolding_all rfl); k_whole))))
local macro_rules | `(tactic| walk_at "call ref") => `(tactic| (k_here; refine HaltC.mk ?_))
local macro_rules | `(tactic| walk_at "subscriptTail Name Slice ref ref") => `(tactic| (k_here; refine HaltC.mk ?_))
local macro_rules | `(tactic| walk_at "binaryOp Add ref ref") => `(tactic| (k_here; refine HaltC.mk ?_))
theorem insP_mem {p : Int → Bool} {a : Int} : ∀ {l : List Int} {x : Int}, x ∈ insP p a l → x = a ∨ x ∈ l
  | [], x, h => .inl (List.mem_singleton.mp h)
  | y :: l, x, h => by
    unfold insP at h
    split at h
    · rcases List.mem_cons.mp h with h | h
      · exact .inr (h ▸ List.mem_cons_self)
      · exact (insP_mem h).imp id (List.mem_cons_of_mem _)
    · rcases List.mem_cons.mp h with h | h
      · exact .inl h
      · exact .inr h
theorem ordI_mem {rows : List (List (Int × Int))} {rs : List (Int × Int)} {way : Int} : ∀ {i : Nat} {x : Int}, x ∈ ordI rows rs way i → 0 ≤ x ∧ x < i
  | 0, x, h => nomatch h
  | i + 1, x, h => by
    rcases insP_mem h with rfl | h
    · lia
    · have := ordI_mem h; lia
theorem insP_len {p : Int → Bool} {a : Int} : ∀ {l : List Int}, (insP p a l).length = l.length + 1
  | [] => rfl
  | y :: l => by
    unfold insP
    split
    · simp [insP_len (l := l)]
    · simp
theorem ordI_len {rows : List (List (Int × Int))} {rs : List (Int × Int)} {way : Int} : ∀ {i : Nat}, (ordI rows rs way i).length = i
  | 0 => rfl
  | i + 1 => by rw [ordI, insP_len, ordI_len]
theorem insP_at {p : Int → Bool} {a : Int} : ∀ {ns : List Int} {j : Nat}, j ≤ ns.length → (∀ q, q < j → p (ns.getD q 0) = true) → (j < ns.length → p (ns.getD j 0) = false) → insP p a ns = ns.take j ++ [a] ++ ns.drop j
  | [], j, _, _, _ => by cases j <;> rfl
  | x :: ns, 0, _, _, h => by
    have h1 : p x = false := h (Nat.zero_lt_succ _)
    unfold insP
    rw [if_neg (by rw [h1]; exact Bool.false_ne_true)]
    rfl
  | x :: ns, j + 1, hj, h1, h2 => by
    have h3 : p x = true := h1 0 (Nat.zero_lt_succ _)
    have := insP_at (p := p) (a := a) (ns := ns) (j := j) (Nat.le_of_succ_le_succ hj) (fun q hq => h1 (q + 1) (Nat.succ_lt_succ hq)) (fun hq => h2 (Nat.succ_lt_succ hq))
    unfold insP
    rw [if_pos h3, this]
    rfl
/-- ahead of a turn of the for -/
inductive OrdI (gg : Heap) (Lg x l : Addr) (way : Int) (tw : Tok) (rows : List (List (Int × Int))) (rs : List (Int × Int)) (I : Addr) (i : Nat) (m' : Str → Option Value) (h' : Heap) : Prop
  | mk (o : Addr) (vs : List Value) (e : Nat) (a1 : m' "rows" = some (.ref x)) (a2 : m' "rules" = some (.ref l)) (a3 : m' "way" = some (.int way tw)) (a4 : m' "order" = some (.ref o)) (a5 : o ≠ I)
      (a6 : News gg Lg h' [(o, W.listOf (List.toArray vs) e)]) (a7 : IntsAre vs (ordI rows rs way i))
/-- ahead of a turn of the while, and behind it -/
inductive OrdJ (gg : Heap) (Lg x l : Addr) (way : Int) (tw : Tok) (s : Shared) (I : Addr) (oI : Obj) (o : Addr) (vs : List Value) (e i : Nat) (ti : Tok) (P : Nat → Prop) (s₁ : Shared) : Prop
  | mk (m' : Str → Option Value) (j : Nat) (tj : Tok) (S : SameB s s₁) (F : Fr gg Lg s₁.heap m') (N : News gg Lg s₁.heap [(I, oI), (o, W.listOf (List.toArray vs) e)])
      (b1 : m' "rows" = some (.ref x)) (b2 : m' "rules" = some (.ref l)) (b3 : m' "way" = some (.int way tw)) (b4 : m' "order" = some (.ref o)) (b5 : m' "a" = some (.int (i : Int) ti)) (b6 : m' "k" = some (.int ((j : Nat) : Int) tj))
      (hj : j ≤ vs.length) (hP : P j)
theorem OrdJ.of {gg : Heap} {Lg x l : Addr} {way : Int} {tw : Tok} {s s₁ : Shared} {I : Addr} {oI : Obj} {o : Addr} {vs : List Value} {e i : Nat} {ti : Tok} {P : Nat → Prop} {h : Heap} {g d t os} (S : SameB s s₁) (eg : g = s₁.gens) (ed : d = s₁.drawn) (eo : os = s₁.os)
    {m' : Str → Option Value} {tj : Tok} {z : Int} (F : Fr gg Lg h m') (N : News gg Lg h [(I, oI), (o, W.listOf (List.toArray vs) e)])
    (b1 : m' "rows" = some (.ref x)) (b2 : m' "rules" = some (.ref l)) (b3 : m' "way" = some (.int way tw)) (b4 : m' "order" = some (.ref o)) (b5 : m' "a" = some (.int (i : Int) ti)) (j : Nat) (hz : z = (j : Int)) (b6 : m' "k" = some (.int z tj))
    (hj : j ≤ vs.length) (hP : P j) : OrdJ gg Lg x l way tw s I oI o vs e i ti P (Shared.mk h g d t os) :=
  ⟨m', j, tj, ⟨eg.trans S.1, ed.trans S.2.1, eo.trans S.2.2⟩, F, N, b1, b2, b3, b4, b5, hz ▸ b6, hj, hP⟩
section
variable {w : World} {prg : Program} {loose : List Str} {mean : ExcName → Option Value} {mg mb : Str → Option Value}
    {dp un : Nat} {gd : Option (List Code)} {cn : Str} {cs : Scope} {a : Addr} {ccd : Value} {cl : List (Str × Addr)} {outer : List Env} {A₀ : Around} {base h₀ : Heap} {L : Addr} {m : Str → Option Value} {s : Shared} {Q E : Value → Shared → Prop}
theorem order_tells {x l : Addr} {rows : List (List (Int × Int))} {rs : List (Int × Int)} {way : Int} {tw : Tok}
    (B : Below A₀ base outer h₀) (F : Fr h₀ L s.heap m) (X : (hd.heap_1 w.params).In h₀) (T : Top prg loose mean mg mb h₀) (hk : cs.kind = .function)
    (hdp : dp + 2 < recursionLimit) (hun : un + 16 < cLine)
    (hx : PTab (AtH s.heap) x rows) (hr : Pairs (AtH s.heap) l rs)
    (hok : ∀ p ∈ rs, 0 ≤ p.1 ∧ p.1 < 6 ∧ -16 ≤ p.2 ∧ p.2 ≤ 16) (h63 : rows.length < 64) (hl6 : ∀ r ∈ rows, r.length = 6) (hb : ∀ r ∈ rows, ∀ p ∈ r, -1000000 ≤ p.1 ∧ p.1 ≤ 1000000 ∧ -1000000 ≤ p.2 ∧ p.2 ≤ 1000000)
    (hw : way = 1 ∨ way = -1)
    (hret : ∀ D vs e h' tk', Keeps s.heap h' → New s.heap h' D (W.listOf (List.toArray vs) e) → IntsAre vs (ordI rows rs way rows.length) → Q (.ref D) { s with heap := h', toks := tk' }) :
    wpAny (model PySem.Challenge.rw_mq0178_01.row.prog w) (ktrTop dp un gd cn cs L a ccd cl outer) (call (.ref 112) [.ref x, .ref l, .int way tw]) Q E s := by
  have N : News h₀ L s.heap [] := fun _ hp => nomatch hp
  have S₀ := SameB.refl s
  w_on
  (refine wpAny_call ?_; k_dflt (refine' code_defG ?k1 ?k2 ?k3 ?k4 ?k5 ?kA ?kF ?kK ?k6 ?k7 ?k8 ?k9 ?kB ?_ ?c2 ?c3 ?c4 ?c5; (case kA => exact rfl); (case kF => exact rfl); (case kK => assumption); (case k1 => k_asm); (case k2 => k_asm); (case k3 => k_asm); (case k4 => k_asm); (case k5 => k_asm); (case k6 => k_is); (case k7 => k_is); (case k8 => ktr_room); (case k9 => exact BindsTo.of_eq rfl); (case c5 => decide); (case kB => exact locs rfl); (case c2 => exact rfl); (case c3 => exact rfl); (case c4 => exact rfl); k_whole; intro gg Lg hg FG' FF NN B' X' T' HH; (try dsimp only); (try k_lift B'); (try k_fold)))
  have up : ∀ d o, s.heap.get? d = some o → gg.get? d = some o := fun d o e => HH.rest d o e fun _ hp => nomatch hp
  refine hide fun hideG hideH => ?_
  obtain ⟨vx, ex, gx, Cx⟩ := hx.mono (R := AtH gg) up
  refine hideH ?_; clear hideH hideG
  have PR := hr.mono (R := AtH gg) up
  k_steps
  refine Halt.get ?_
  rename SameB s _ => SL
  have SM := SL
  rename Fr gg Lg _ _ => F1
  rename News gg Lg _ _ => N1
  refine for_range (g := gg) (n := rows.length) (OrdI gg Lg x l way tw rows rs) rfl h63 ?_ (fun _ _ _ => rfl) (fun I i m h h' hI hk J => ?_) ?_ ?_
  · have hvl : vx.length = rows.length := Cx.len
    k_steps
    rename News gg Lg _ _ => N2
    refine ⟨_, _, _, _, _, _, _, rfl, turn_eq (by assumption) (by first | exact SameB.refl _ | assumption) rfl rfl rfl, by assumption, by rw [hvl], _, by assumption, fun I h' hI hk' => ⟨_, [], _, by with_unfolding_all rfl, by with_unfolding_all rfl, by with_unfolding_all rfl, by with_unfolding_all rfl, fun q => ?_, N2.grown hk', .nil⟩⟩
    have e := (N2 _ (.head _)).1
    dsimp only at e
    rw [q, hI] at e
    cases e
  · obtain ⟨o, vs, e, a1, a2, a3, a4, a5, a6, a7⟩ := J
    exact ⟨o, vs, e, a1, a2, a3, a4, a5, fun p hp => by cases List.mem_singleton.mp hp; exact ⟨hk _ _ a5 (a6 _ (.head _)).1, (a6 _ (.head _)).2⟩, a7⟩
  · intro I oI i v m₁ h₁ tk₁ hI N₁ hi hv J F₁
    refine hide fun hideG hideH => ?_
    obtain ⟨ti, rfl⟩ := hv
    obtain ⟨o, vs, e, a1, a2, a3, a4, a5, a6, a7⟩ := J
    have hia : i < rows.length := hi
    obtain ⟨Da, hDa, Pa⟩ := Cx.at (List.getElem?_eq_getElem hia)
    refine hideH ?_; clear hideH hideG
    have F₂ : Fr gg Lg h₁ _ := fr_known4 F₁ a1 a2 a3 a4
    have N₂ : News gg Lg h₁ [(I, oI), (o, W.listOf (List.toArray vs) e)] := fun p hp => by
      rcases List.mem_cons.mp hp with rfl | hp
      · exact N₁ _ (.head _)
      · cases List.mem_singleton.mp hp
        exact a6 _ (.head _)
    clear F₁ N₁ F1 N1 a6
    k_steps
    refine Halt.get ?_
    rename Fr gg Lg _ _ => F3
    rename News gg Lg _ _ => N3
    have hvn : vs.length = i := by rw [a7.length, ordI_len]
    have l6a := hl6 _ (List.getElem_mem hia)
    have ba := hb _ (List.getElem_mem hia)
    have era : rows.getD ((i : Nat) : Int).toNat [] = rows[i] := by rw [Int.toNat_natCast, List.getD_eq_getElem?_getD, List.getElem?_eq_getElem hia]; rfl
    have hvl : vx.length = rows.length := Cx.len
    have hmem : ∀ q ∈ ordI rows rs way i, 0 ≤ q ∧ q < i := fun q hq => ordI_mem hq
    have hol : (ordI rows rs way i).length = i := ordI_len
    have hnext : ordI rows rs way (i + 1) = insP (aheadP rows rs way i) i (ordI rows rs way i) := rfl
    generalize ordI rows rs way i = ns at a7 hmem hol hnext
    refine while_any (n₀ := vs.length) (fun n => OrdJ gg Lg x l way tw s I oI o vs e i ti fun j => n = vs.length - j ∧ ∀ q, q < j → aheadP rows rs way i (ns.getD q 0) = true)
      (OrdJ gg Lg x l way tw s I oI o vs e i ti fun j => insP (aheadP rows rs way i) i ns = ns.take j ++ [(i : Int)] ++ ns.drop j)
      (OrdJ.of (by assumption) rfl rfl rfl F3 N3 (by with_unfolding_all rfl) (by with_unfolding_all rfl) (by with_unfolding_all rfl) (by with_unfolding_all rfl) (by with_unfolding_all rfl) 0 rfl (by with_unfolding_all rfl) (Nat.zero_le _) ⟨rfl, fun q hq => absurd hq (Nat.not_lt_zero _)⟩) ?_ ?_
    · intro n s₁ J
      refine hide fun hideG hideH => ?_
      obtain ⟨m', j, tj, SX, F₁, N₁, b1, b2, b3, b4, b5, b6, hj, hn, hall⟩ := J
      refine hideH ?_; clear hideH hideG
      have F₂ : Fr gg Lg s₁.heap _ := fr_known6 F₁ b1 b2 b3 b4 b5 b6
      clear F₁ F3 N3
      by_cases hlt : j < vs.length
      · have hjn : j < ns.length := by lia
        have hqm := hmem _ (List.getElem_mem hjn)
        have egd : ns.getD ((j : Nat) : Int).toNat 0 = ns[j] := by rw [Int.toNat_natCast, List.getD_eq_getElem?_getD, List.getElem?_eq_getElem hjn]; rfl
        have egd2 : ns.getD j 0 = ns.getD ((j : Nat) : Int).toNat 0 := by rw [Int.toNat_natCast]
        rw [← egd] at hqm
        have hq2 : (ns.getD ((j : Nat) : Int).toNat 0).toNat < rows.length := by lia
        refine hide fun hideG hideH => ?_
        obtain ⟨Dq, hDq, Pq⟩ := Cx.at (List.getElem?_eq_getElem hq2)
        refine hideH ?_; clear hideH hideG
        have l6q := hl6 _ (List.getElem_mem hq2)
        have bq := hb _ (List.getElem_mem hq2)
        have erq : rows.getD (ns.getD ((j : Nat) : Int).toNat 0).toNat [] = rows[(ns.getD ((j : Nat) : Int).toNat 0).toNat] := by rw [List.getD_eq_getElem?_getD, List.getElem?_eq_getElem hq2]; rfl
        have hDa' : vx[((i : Nat) : Int).toNat]? = some (.ref Da) := by rw [Int.toNat_natCast]; exact hDa
        have hltI : ((j : Nat) : Int) < (vs.length : Int) := Int.ofNat_lt.mpr hlt
        have hah : aheadP rows rs way i (ns.getD j 0) = decide (way * standsI rows[(ns.getD ((j : Nat) : Int).toNat 0).toNat] rows[i] rs ≤ 0) := by
          unfold aheadP
          rw [egd2, erq, era]
        k_steps
        refine HaltC.get ?_
        k_dflt (refine' stands_tells ?k1 ?k2 ?k3 ?k4 ?k5 ?k6 ?k7 ?u1x ?u1y ?u1r ?ok ?l1 ?l2 ?b1 ?b2 ?_; (case k1 => k_asm); (case k2 => k_asm); (case k3 => k_asm); (case k4 => k_asm); (case k5 => exact rfl); (case k6 => ktr_room); (case k7 => ktr_units); (case u1x => (rename Fr _ _ _ _ => FQ; exact Pairs.mono FQ.keep (by assumption))); (case u1y => (rename Fr _ _ _ _ => FQ; exact Pairs.mono FQ.keep (by assumption))); (case u1r => (rename Fr _ _ _ _ => FQ; exact Pairs.mono FQ.keep (by assumption))); (case ok => assumption); (case l1 => assumption); (case l2 => assumption); (case b1 => assumption); (case b2 => assumption); k_whole); intro t' h' tk' kp'; (rename Fr _ _ _ _ => FQ; have F' := FQ.keeps kp'; clear FQ); (rename News _ _ _ _ => NQ; have N' := NQ.grown kp'; clear NQ); clear kp'
        k_steps
        · refine ⟨rfl, vs.length - (j + 1), by rw [hn]; exact Nat.sub_lt_sub_left hlt (Nat.lt_succ_self j), OrdJ.of (by assumption) rfl rfl rfl (by assumption) (by assumption) (by with_unfolding_all rfl) (by with_unfolding_all rfl) (by with_unfolding_all rfl) (by with_unfolding_all rfl) (by with_unfolding_all rfl) (j + 1) rfl (by with_unfolding_all rfl) hlt ⟨rfl, fun q hq => ?_⟩⟩
          by_cases hqj : q < j
          · exact hall q hqj
          · obtain rfl : q = j := Nat.le_antisymm (Nat.le_of_lt_succ hq) (Nat.not_lt.mp hqj)
            rw [hah]
            exact decide_eq_true (by assumption)
        · exact OrdJ.of (by assumption) rfl rfl rfl (by assumption) (by assumption) (by with_unfolding_all rfl) (by with_unfolding_all rfl) (by with_unfolding_all rfl) (by with_unfolding_all rfl) (by with_unfolding_all rfl) j rfl (by with_unfolding_all rfl) hj (insP_at (Nat.le_of_lt hjn) hall fun _ => by rw [hah]; exact decide_eq_false (by assumption))
      · have hltI : ¬ ((j : Nat) : Int) < (vs.length : Int) := fun q => hlt (Int.ofNat_lt.mp q)
        have hjn : j = ns.length := by lia
        k_steps
        exact OrdJ.of (by assumption) rfl rfl rfl (by assumption) (by assumption) (by with_unfolding_all rfl) (by with_unfolding_all rfl) (by with_unfolding_all rfl) (by with_unfolding_all rfl) (by with_unfolding_all rfl) j rfl (by with_unfolding_all rfl) hj (insP_at (Nat.le_of_eq hjn) hall fun q => absurd hjn (Nat.ne_of_lt q))
    · intro s₁ J
      refine hide fun hideG hideH => ?_
      obtain ⟨m', j, tj, SX, F₁, N₁, b1, b2, b3, b4, b5, b6, hj, hins⟩ := J
      refine hideH ?_; clear hideH hideG
      have F₂ : Fr gg Lg s₁.heap _ := fr_known6 F₁ b1 b2 b3 b4 b5 b6
      clear F₁ F3 N3
      rw [hins] at hnext
      dsimp only
      k_steps
      refine HaltC.get ?_
      (with_reducible refine' kmk_slice_ints ?u2F ?u2N ?u2l ?u2p ?u2q ?u2i ?u2m ?u2c ?_ ?u2s ?u2t ?u2z); k_dflt ((case u2F => k_asm); (case u2N => k_asm); (case u2l => kmk_list); (case u2p => kmk_part); (case u2q => kmk_part); (case u2i => first | (with_reducible assumption) | l_ints); (case u2m => first | ((with_reducible refine kmk_upto (by assumption) ?_); lia) | ((with_reducible refine kmk_from (by assumption) ?_); lia)); (case u2c => kmk_len); (case u2s => with_unfolding_all rfl); (case u2t => kmk_pure); (case u2z => (simp only [List.size_toArray, sizeLine_eq]; lia))); intro D' ws' h' F' N' l1 hI' hC' hL'; (try simp only [Int.reduceNeg, Int.neg_neg, Int.reduceToNat] at hI' hC' hL'); (try k_lt l1); (try k_sweep)
      k_steps
      refine HaltC.get ?_
      (with_reducible refine' kmk_add_ints ?u3F ?u3N ?u3a ?u3b ?u3i ?u3j ?_ ?u3z); k_dflt ((case u3F => k_asm); (case u3N => k_asm); (case u3a => kmk_list); (case u3b => kmk_list); (case u3i => first | (with_reducible assumption) | l_ints); (case u3j => first | (with_reducible assumption) | l_ints); (case u3z => (simp only [sizeLine_eq, List.length_append, List.length_cons, List.length_nil, List.length_take, List.length_drop]; lia))); intro D' ws' h' F' N' l1 hI'; (try k_lt l1); (try k_sweep)
      k_steps
      refine HaltC.get ?_
      (with_reducible refine' kmk_slice_ints ?u4F ?u4N ?u4l ?u4p ?u4q ?u4i ?u4m ?u4c ?_ ?u4s ?u4t ?u4z); k_dflt ((case u4F => k_asm); (case u4N => k_asm); (case u4l => kmk_list); (case u4p => kmk_part); (case u4q => kmk_part); (case u4i => first | (with_reducible assumption) | l_ints); (case u4m => first | ((with_reducible refine kmk_upto (by assumption) ?_); lia) | ((with_reducible refine kmk_from (by assumption) ?_); lia)); (case u4c => kmk_len); (case u4s => with_unfolding_all rfl); (case u4t => kmk_pure); (case u4z => (simp only [List.size_toArray, sizeLine_eq]; lia))); intro D' ws' h' F' N' l1 hI' hC' hL'; (try simp only [Int.reduceNeg, Int.neg_neg, Int.reduceToNat] at hI' hC' hL'); (try k_lt l1); (try k_sweep)
      k_steps
      refine HaltC.get ?_
      (with_reducible refine' kmk_add_ints ?u5F ?u5N ?u5a ?u5b ?u5i ?u5j ?_ ?u5z); k_dflt ((case u5F => k_asm); (case u5N => k_asm); (case u5a => kmk_list); (case u5b => kmk_list); (case u5i => first | (with_reducible assumption) | l_ints); (case u5j => first | (with_reducible assumption) | l_ints); (case u5z => (simp only [sizeLine_eq, List.length_append, List.length_cons, List.length_nil, List.length_take, List.length_drop]; lia))); intro D' ws' h' F' N' l1 hI'; (try k_lt l1); (try k_sweep)
      k_steps
      rename News gg Lg _ _ => N5
      refine ⟨_, _, _, turn_eq (by assumption) (by first | exact SameB.refl _ | assumption) rfl rfl rfl, by assumption, news_one N5 (by k_mem), _, _, _, by with_unfolding_all rfl, by with_unfolding_all rfl, by with_unfolding_all rfl, by with_unfolding_all rfl, ?_, news_one N5 (.head _), ?_⟩
      · k_ne
      · rw [hnext, ← Int.toNat_natCast j]
        assumption
  · intro I m₁ h₁ tk₁ hI J F₁
    refine hide fun hideG hideH => ?_
    obtain ⟨o, vs, e, a1, a2, a3, a4, a5, a6, a7⟩ := J
    refine hideH ?_; clear hideH hideG
    have F₂ : Fr gg Lg h₁ _ := fr_known4 F₁ a1 a2 a3 a4
    have N₂ : News gg Lg h₁ [(o, W.listOf (List.toArray vs) e)] := a6
    clear F₁ F1 N1 a6
    have SX := SameB.refl s
    dsimp only
    k_steps
    refine same_end (by assumption) rfl rfl rfl ?_
    exact hret o vs e _ _ (HH.keeps (news' := [(o, W.listOf (List.toArray vs) e)]) (by assumption) (by assumption) (fun p hp => nomatch hp)) (fresh0 HH (news' := [(o, W.listOf (List.toArray vs) e)]) (by assumption) (.head _)) a7
end
end
end Mine
end
section
open PySem PySem.W PySem.W.X PySem.Calls PyProof.Rows
set_option maxRecDepth 100000
set_option maxHeartbeats 4000000
namespace Mine
/-- what stood stands, but for some places -/
def Ext (X : List Addr) (h h' : Heap) : Prop := ∀ b o, b ∉ X → h.get? b = some o → h'.get? b = some o
theorem Ext.refl (X : List Addr) (h : Heap) : Ext X h h := fun _ _ _ e => e
theorem Ext.trans {X : List Addr} {a b c : Heap} (x : Ext X a b) (y : Ext X b c) : Ext X a c := fun q o hq e => y q o hq (x q o hq e)
theorem Keeps.exts {X : List Addr} {h h' : Heap} (k : Keeps h h') : Ext X h h' := fun b o _ e => k b o e
/-- there, and off the places -/
def AtX (X : List Addr) (h : Heap) (d : Addr) (o : Obj) : Prop := h.get? d = some o ∧ d ∉ X
theorem AtX.ext {X : List Addr} {h h' : Heap} (e : Ext X h h') : ∀ d o, AtX X h d o → AtX X h' d o := fun d o x => ⟨e d o x.2 x.1, x.2⟩
theorem AtX.at {X : List Addr} {h : Heap} : ∀ d o, AtX X h d o → AtH h d o := fun d o x => x.1
theorem new_atx {X : List Addr} {h h' : Heap} (hX : ∀ c ∈ X, ∃ o, h.get? c = some o) : ∀ d o, New h h' d o → AtX X h' d o := fun d o x => ⟨x.there, fun q => by
  refine hide fun hideG hideH => ?_
  obtain ⟨o', e⟩ := hX d q
  refine hideH ?_; clear hideH hideG
  rw [x.fresh] at e; cases e⟩
/-- what is in the second heap and not in the first -/
def freshL (h h' : Heap) : List (Addr × Obj) := (List.range h'.objs.size).filterMap fun d => match h.get? d with
  | some _ => none
  | none => (h'.get? d).map fun o => (d, o)
theorem freshL_mem {h h' : Heap} {p : Addr × Obj} : p ∈ freshL h h' ↔ New h h' p.1 p.2 := by
  unfold freshL
  rw [List.mem_filterMap]
  constructor
  · intro rip0
    refine hide fun hideG hideH => ?_
    obtain ⟨d, hd, e⟩ := rip0
    refine hideH ?_; clear hideH hideG
    cases q : h.get? d with
    | some o => rw [q] at e; cases e
    | none =>
      rw [q] at e
      cases q2 : h'.get? d with
      | none => rw [q2] at e; cases e
      | some o =>
        rw [q2] at e
        cases e
        exact ⟨q2, q⟩
  · intro x
    refine ⟨p.1, List.mem_range.mpr (Heap.lt_size x.there), ?_⟩
    rw [x.fresh]
    dsimp only
    rw [x.there]
    rfl
/-- all that stands beside the base and some places, as a ledger -/
theorem snap {h₀ h : Heap} {L : Addr} {m : Str → Option Value} (F : Fr h₀ L h m) (X : List Addr) (hL : L ∈ X) :
    ∃ sym, News h₀ L h sym ∧ (∀ p ∈ sym, p.1 ∉ X) ∧ ∀ h' m', Fr h₀ L h' m' → News h₀ L h' sym → Ext X h h' := by
  classical
  refine ⟨(freshL h₀ h).filter fun p => decide (p.1 ∉ X), fun p hp => ?_, fun p hp => ?_, fun h' m' F' N' b o hb e => ?_⟩
  · refine hide fun hideG hideH => ?_
    obtain ⟨h1, h2⟩ := List.mem_filter.mp hp
    refine hideH ?_; clear hideH hideG
    have x := freshL_mem.mp h1
    exact ⟨x.there, fun q => of_decide_eq_true h2 (q ▸ hL), x.fresh⟩
  · exact of_decide_eq_true (List.mem_filter.mp hp).2
  · cases q : h₀.get? b with
    | some o' =>
      have e1 := F.keep _ _ q
      rw [e] at e1
      cases e1
      exact F'.keep _ _ q
    | none => exact (N' (b, o) (List.mem_filter.mpr ⟨freshL_mem.mpr ⟨e, q⟩, decide_eq_true hb⟩)).1
theorem news_app {h₀ h : Heap} {L : Addr} {a b : List (Addr × Obj)} (x : News h₀ L h a) (y : News h₀ L h b) : News h₀ L h (a ++ b) := fun p hp => by
  rcases List.mem_append.mp hp with hp | hp
  · exact x p hp
  · exact y p hp
theorem news_fresh {h₀ h h' : Heap} {L : Addr} {m : Str → Option Value} (F : Fr h₀ L h m) (k : Keeps h h') : News h₀ L h' (freshL h h') := fun p hp => by
  have x := freshL_mem.mp hp
  refine ⟨x.there, fun q => ?_, ?_⟩
  · refine hide fun hideG hideH => ?_
    obtain ⟨oL, _, _, hL, _⟩ := F.ns
    refine hideH ?_; clear hideH hideG
    have := x.fresh
    rw [q, hL] at this; cases this
  · cases q : h₀.get? p.1 with
    | none => rfl
    | some o' => have := F.keep _ _ q; rw [x.fresh] at this; cases this
theorem off1_mem {D : Addr} : ∀ {l : List (Addr × Obj)}, LCg.Off1 D l → ∀ p ∈ l, p.1 ≠ D
  | [], _, _, h => nomatch h
  | _ :: _, x, p, h => by
    rcases List.mem_cons.mp h with rfl | h
    · exact x.1
    · exact off1_mem x.2 p h
section
variable {prog : Program} {w : World} {A : Around} {h₀ : Heap} {L : Addr} {m : Str → Option Value} {env : Env} {elt : Expr} {x : Str} {scope : Scope} {cl : List (Str × Addr)} {s : Shared} {S : List (Addr × Obj) → Prop} {P : Nat → Value → Prop} {Fin : List Value → List (Addr × Obj) → Prop} {news₀ : List (Addr × Obj)}
theorem comp_rest {n : Nat} (R : Nat → Addr → (Addr → Obj → Prop) → Prop) (hR : ∀ i b (P P' : Addr → Obj → Prop), (∀ d o, P d o → P' d o) → R i b P → R i b P') (hS : ∀ sym, S (sym ++ news₀))
    (turn : ∀ i v I oI C oC D ys m₂ h tk sym (E' : Value → Shared → Prop), i < n → P i v → LCg.NsObj oC m₂ → m₂ x = some v → Fr h₀ L h m → News h₀ L h ((I, oI) :: (C, oC) :: (D, LCg.lst ys) :: (sym ++ news₀)) →
      wpAny (model prog w) A (eval elt (compEnvC scope cl C env)) (fun y s₂ => ∃ b h' tk', y = .ref b ∧ s₂ = { s with heap := h', toks := tk' } ∧ Keeps h h' ∧ R i b (New h h')) E' { s with heap := h, toks := tk })
    (fin : ∀ ys sym, (∀ p ∈ sym, ∀ q ∈ news₀, p.1 ≠ q.1) → ys.length = n → (∀ i, i < n → ∃ b, ys[i]? = some (.ref b) ∧ R i b (fun d o => (d, o) ∈ sym)) → Fin ys (sym ++ news₀)) :
    ∀ (k i : Nat) (ys : List Value) (sym : List (Addr × Obj)), (∀ p ∈ sym, ∀ q ∈ news₀, p.1 ≠ q.1) → i + k = n → ys.length = i → (∀ j, j < i → ∃ b, ys[j]? = some (.ref b) ∧ R j b (fun d o => (d, o) ∈ sym)) → LCg.CompRest prog w A h₀ L m env elt x scope cl s S P Fin k i ys (sym ++ news₀)
  | 0, i, ys, sym, hd, hi, hl, hj => LCg.CompRest.zero (fin ys sym hd (by lia) (by rw [← (show i = n by lia)]; exact hj))
  | k + 1, i, ys, sym, hd, hi, hl, hj => LCg.CompRest.succ fun v I oI C oC D m₂ h tk E' hp hC hx F N off hne => by
    refine wpAny_mono (turn i v I oI C oC D ys m₂ h tk sym E' (by lia) hp hC hx F N) (fun y s₂ hy => ?_) fun _ _ e => e
    refine hide fun hideG hideH => ?_
    obtain ⟨b, h', tk', rfl, rfl, kp, r⟩ := hy
    refine hideH ?_; clear hideH hideG
    refine ⟨h', tk', (freshL h h' ++ sym) ++ news₀, rfl, F.keeps kp, fun p hp => ?_, ?_, hS _, ?_⟩
    · have N' := N.grown kp
      rcases List.mem_cons.mp hp with rfl | hp
      · exact N' _ (.head _)
      rcases List.mem_cons.mp hp with rfl | hp
      · exact N' _ (.tail _ (.head _))
      rcases List.mem_cons.mp hp with rfl | hp
      · exact N' _ (.tail _ (.tail _ (.head _)))
      rw [List.append_assoc] at hp
      rcases List.mem_append.mp hp with hp | hp
      · exact news_fresh F kp p hp
      · exact N' _ (.tail _ (.tail _ (.tail _ hp)))
    · rw [List.append_assoc]
      refine LCg.Off3.of fun p hp => ?_
      rcases List.mem_append.mp hp with hp | hp
      · have x := (freshL_mem.mp hp).fresh
        refine ⟨fun q => ?_, fun q => ?_, fun q => ?_⟩
        · have := (N (I, oI) (.head _)).1; dsimp only at this; rw [← q, x] at this; cases this
        · have := (N (C, oC) (.tail _ (.head _))).1; dsimp only at this; rw [← q, x] at this; cases this
        · have := (N (D, LCg.lst ys) (.tail _ (.tail _ (.head _)))).1; dsimp only at this; rw [← q, x] at this; cases this
      · exact off.mem p hp
    · refine comp_rest R hR hS turn fin k (i + 1) (ys ++ [.ref b]) (freshL h h' ++ sym) (fun p hp q hq e => ?_) (by lia) (by rw [List.length_append, hl]; rfl) (fun j hj' => ?_)
      · rcases List.mem_append.mp hp with hp | hp
        · have x := (freshL_mem.mp hp).fresh
          have y := (N q (.tail _ (.tail _ (.tail _ (List.mem_append_right _ hq))))).1
          rw [e, y] at x
          cases x
        · exact hd p hp q hq e
      by_cases q : j < i
      · refine hide fun hideG hideH => ?_
        obtain ⟨b', e, r'⟩ := hj j q
        refine hideH ?_; clear hideH hideG
        exact ⟨b', by rw [List.getElem?_append_left (by lia)]; exact e, hR _ _ _ _ (fun d o hm => List.mem_append_right _ hm) r'⟩
      · have : j = i := by lia
        subst this
        exact ⟨b, by rw [List.getElem?_append_right (by lia), hl, Nat.sub_self]; rfl, hR _ _ _ _ (fun d o hm => List.mem_append_left _ (freshL_mem.mpr hm)) r⟩
end
section
variable {M : Model} {A : Around} {E : Value → Shared → Prop} {s : Shared} {h₀ : Heap} {L a : Addr} {m : Str → Option Value} {cn : Str} {cs : Scope} {ccd : Value} {cl : List (Str × Addr)}
  {x : Str} {v : Value} {news : List (Addr × Obj)} {g : Obj → List (Addr × Obj)} {c : Addr} {o : Obj} {v₀ : Option Value}
/-- a captured name stored -/
theorem store_cell {Q : Unit → Shared → Prop} (F : Fr h₀ L s.heap m) (N : News h₀ L s.heap news) (hc : cl.lookup x = some c) (U : UpdF c o news g) (hd : o.data = .cell v₀)
    (h : ∀ h' o', Fr h₀ L h' m → News h₀ L h' (g o') → o'.data = .cell (some v) → Q () { s with heap := h' })
    (hk : cs.kind = .function) (hx : (envX cn cs L a ccd cl).kindOf x = some .cell) : wpAny M A (storeName (envX cn cs L a ccd cl) x v) Q E s := by
  refine hide fun hideG hideH => ?_
  obtain ⟨own, rest, rfl, hg, h1, h2⟩ := U.split
  refine hideH ?_; clear hideH hideG
  have hmem := N (c, o) (List.mem_append_right _ (.head _))
  refine wpAny_storeName_cell hk hx hc ⟨o, hmem.1, hd⟩ fun h' hv hs => ?_
  refine hide fun hideG hideH => ?_
  obtain ⟨o', ho', hd'⟩ := hv
  refine hideH ?_; clear hideH hideG
  refine h h' o' ⟨F.ns.sameBut hs (Ne.symm hmem.2.1), fun b ob e => (hs.2 b (fun q => ?_)).trans (F.keep b ob e), F.above⟩ (hg o' ▸ N.setAt h1 h2 hs ho') hd'
  rw [q, hmem.2.2] at e; cases e
end
end Mine
end
section
open PySem PySem.W PySem.W.X PySem.Calls PyProof.Rows
set_option maxRecDepth 100000
set_option maxHeartbeats 4000000
namespace Mine
section
variable {α β : Type} {prog : Program} {w : World} {A : Around} {E : Value → Shared → Prop} {h : Heap} {g : Array GenState} {dr : Drawn} {tk : Nat} {os : OsState} {Q : β → Shared → Prop} {h₀ : Heap} {chg news : List (Addr × Obj)}
theorem mw_closed {m : Sem α} {k : α → Sem β} (v : α) (e : m = pure v) (hq : wpAny (model prog w) A (k v) Q E ⟨h, g, dr, tk, os⟩) : wpAny (model prog w) A (m >>= k) Q E ⟨h, g, dr, tk, os⟩ := wpAny_bind (by rw [e]; exact wpAny_pure hq)
theorem mw_if_f {c : Prop} [Decidable c] {a b : Sem β} (hc : ¬ c) (hq : wpAny (model prog w) A b Q E ⟨h, g, dr, tk, os⟩) : wpAny (model prog w) A (if c then a else b) Q E ⟨h, g, dr, tk, os⟩ := by rw [if_neg hc]; exact hq
theorem mw_if_t {c : Prop} [Decidable c] {a b : Sem β} (hc : c) (hq : wpAny (model prog w) A a Q E ⟨h, g, dr, tk, os⟩) : wpAny (model prog w) A (if c then a else b) Q E ⟨h, g, dr, tk, os⟩ := by rw [if_pos hc]; exact hq
theorem mw_if_b {c : Bool} {a b : Sem β} (hc : c = false) (hq : wpAny (model prog w) A b Q E ⟨h, g, dr, tk, os⟩) : wpAny (model prog w) A (if c = true then a else b) Q E ⟨h, g, dr, tk, os⟩ := by rw [hc, if_neg Bool.false_ne_true]; exact hq
theorem mw_if_B {c : Bool} {a b : Sem β} (hc : c = true) (hq : wpAny (model prog w) A a Q E ⟨h, g, dr, tk, os⟩) : wpAny (model prog w) A (if c = true then a else b) Q E ⟨h, g, dr, tk, os⟩ := by rw [hc, if_pos rfl]; exact hq
theorem mw_rule {tag : String} {k : Unit → Sem β} (hq : wpAny (model prog w) A (k ()) Q E ⟨h, g, dr, tk, os⟩) : wpAny (model prog w) A (rule tag >>= k) Q E ⟨h, g, dr, tk, os⟩ := wpAny_bind (wpAny_rule hq)
theorem mw_at {p : Pos} {k : Unit → Sem β} (hq : wpAny (model prog w) A (k ()) Q E ⟨h, g, dr, tk, os⟩) : wpAny (model prog w) A (standAt p >>= k) Q E ⟨h, g, dr, tk, os⟩ := wpAny_bind (wpAny_standAt hq)
theorem mw_text {x : Str} {k : Value → Sem β} (hq : wpAny (model prog w) A (k (.str x tk)) Q E ⟨h, g, dr, tk + 1, os⟩) : wpAny (model prog w) A (mkText x >>= k) Q E ⟨h, g, dr, tk, os⟩ := wpAny_bind (wpAny_mkText hq)
theorem mw_str {x : Str} {k : Value → Sem β} (hx : x.length ≤ sizeLine) (hq : wpAny (model prog w) A (k (.str x tk)) Q E ⟨h, g, dr, tk + 1, os⟩) : wpAny (model prog w) A (mkStr x >>= k) Q E ⟨h, g, dr, tk, os⟩ := wpAny_bind (wpAny_mkStr hq hx)
theorem mw_load {a : Addr} {o : Obj} {k : Obj → Sem β} (ho : h.get? a = some o) (hq : wpAny (model prog w) A (k o) Q E ⟨h, g, dr, tk, os⟩) : wpAny (model prog w) A (load a >>= k) Q E ⟨h, g, dr, tk, os⟩ := wpAny_bind (wpAny_load ho hq)
theorem mw_loadPart {a : Addr} {p : Option Value} {o : Obj} {k : Obj → Sem β} (ho : h.get? a = some o) (hq : wpAny (model prog w) A (k o) Q E ⟨h, g, dr, tk, os⟩) : wpAny (model prog w) A (loadPart a p >>= k) Q E ⟨h, g, dr, tk, os⟩ := wpAny_bind (wpAny_loadPart ho hq)
theorem mw_alloc {o : Obj} {k : Addr → Sem β} (D : Mem h₀ h chg news) (hf : o.isFreed = false) (hq : ∀ a h', Mem h₀ h' chg ((a, o) :: news) → wpAny (model prog w) A (k a) Q E ⟨h', g, dr, tk, os⟩) : wpAny (model prog w) A (alloc o >>= k) Q E ⟨h, g, dr, tk, os⟩ :=
  wpAny_bind (wpAny_alloc (hq _ _ (D.alloc hf)))
theorem mw_updatePart {a : Addr} {p : Option Value} {f : Obj → Obj} {o : Obj} {k : Unit → Sem β} (D : Mem h₀ h chg news) (i : Nat) (hi : news[i]? = some (a, o)) (hf : (f o).isFreed = false)
    (hq : ∀ h', Mem h₀ h' chg (news.set i (a, f o)) → wpAny (model prog w) A (k ()) Q E ⟨h', g, dr, tk, os⟩) : wpAny (model prog w) A (updatePart a p f >>= k) Q E ⟨h, g, dr, tk, os⟩ :=
  wpAny_bind (wpAny_updatePart (D.at i a o hi) (hq _ (D.update hi hf)))
theorem mw_update {a : Addr} {f : Obj → Obj} {o : Obj} {k : Unit → Sem β} (D : Mem h₀ h chg news) (i : Nat) (hi : news[i]? = some (a, o)) (hf : (f o).isFreed = false)
    (hq : ∀ h', Mem h₀ h' chg (news.set i (a, f o)) → wpAny (model prog w) A (k ()) Q E ⟨h', g, dr, tk, os⟩) : wpAny (model prog w) A (update a f >>= k) Q E ⟨h, g, dr, tk, os⟩ :=
  wpAny_bind (wpAny_update (D.at i a o hi) (hq _ (D.update hi hf)))
theorem mw_newObj {c : String} {dt : Data} {k : Value → Sem β} (D : Mem h₀ h chg news) (hp : newObj (.type c) dt = (do let a ← alloc { cls := .type c, data := dt }; pure (.ref a))) (hf : ({ cls := .type c, data := dt } : Obj).isFreed = false)
    (hq : ∀ a h', Mem h₀ h' chg ((a, { cls := .type c, data := dt }) :: news) → wpAny (model prog w) A (k (.ref a)) Q E ⟨h', g, dr, tk, os⟩) : wpAny (model prog w) A (newObj (.type c) dt >>= k) Q E ⟨h, g, dr, tk, os⟩ := by
  refine wpAny_bind ?_
  rw [hp]
  exact mw_alloc D hf fun a h' D' => wpAny_pure (hq a h' D')
theorem mem_cast {news' : List (Addr × Obj)} (D : Mem h₀ h chg news) (e : news = news') : Mem h₀ h chg news' := e ▸ D
theorem mw_for_nil {γ σ : Type} {b : σ} {f : γ → σ → Sem (ForInStep σ)} {k : σ → Sem β} (hq : wpAny (model prog w) A (k b) Q E ⟨h, g, dr, tk, os⟩) : wpAny (model prog w) A (forIn ([] : List γ) b f >>= k) Q E ⟨h, g, dr, tk, os⟩ := by
  rw [List.forIn_nil]; exact wpAny_bind (wpAny_pure hq)
theorem mw_for_cons {γ σ : Type} {x : γ} {l : List γ} {b : σ} {f : γ → σ → Sem (ForInStep σ)} {k : σ → Sem β}
    (hq : wpAny (model prog w) A (f x b) (fun r s' => match r with | .yield b' => wpAny (model prog w) A (forIn l b' f >>= k) Q E s' | .done b' => wpAny (model prog w) A (k b') Q E s') E ⟨h, g, dr, tk, os⟩) : wpAny (model prog w) A (forIn (x :: l) b f >>= k) Q E ⟨h, g, dr, tk, os⟩ := by
  rw [List.forIn_cons, bind_assoc]
  refine wpAny_bind (wpAny_mono hq (fun r s' hr => ?_) fun _ _ e => e)
  cases r with
  | done b' => exact wpAny_bind (wpAny_pure hr)
  | yield b' => exact hr
/-- the last step of a block -/
theorem mw_last {m : Sem β} (hq : wpAny (model prog w) A (m >>= pure) Q E ⟨h, g, dr, tk, os⟩) : wpAny (model prog w) A m Q E ⟨h, g, dr, tk, os⟩ := by rwa [bind_pure] at hq
/-- a namespace is read -/
theorem mw_nsGet {a : Addr} {x : Str} {o : Obj} {r : Option Value} {k : Option Value → Sem β} (ho : h.get? a = some o) (hl : nsLook x o = pure r) (hq : wpAny (model prog w) A (k r) Q E ⟨h, g, dr, tk, os⟩) : wpAny (model prog w) A (nsGet a x >>= k) Q E ⟨h, g, dr, tk, os⟩ := by
  refine wpAny_bind ?_
  unfold nsGet
  refine mw_loadPart ho ?_
  rw [hl]
  exact wpAny_pure hq
/-- a namespace is written -/
theorem mw_nsSet {a : Addr} {x : Str} {v : Value} {c : Value} {d : Option Addr} {es : Array DictEntry} {n : Nat} {sl : Array (Option Value)} {k : Unit → Sem β} (D : Mem h₀ h chg news) (i : Nat) (hi : news[i]? = some (a, ⟨c, d, .dict es n, sl⟩)) (hk : aRefKeyMayBeTheName x es = false)
    (hq : ∀ hash t h' tk', Mem h₀ h' chg (news.set i (a, Obj.putName x hash (.str x t) v ⟨c, d, .dict es n, sl⟩)) → wpAny (model prog w) A (k ()) Q E ⟨h', g, dr, tk', os⟩) : wpAny (model prog w) A (nsSet a x v >>= k) Q E ⟨h, g, dr, tk, os⟩ := by
  refine wpAny_bind ?_
  unfold nsSet
  refine wpAny_bind ?_
  unfold strHash
  refine wpAny_bind (wpAny_askSetting (wpAny_pure ?_))
  refine mw_text ?_
  refine mw_loadPart (D.at i _ _ hi) ?_
  dsimp only
  rw [hk]
  refine mw_if_f Bool.false_ne_true ?_
  refine wpAny_updatePart (D.at i _ _ hi) ?_
  refine hq _ _ _ _ (D.update hi ?_)
  unfold Obj.putName
  dsimp only
  split <;> rfl
theorem mw_nsSetByValue {a : Addr} {x : Str} {v : Value} {c : Value} {d : Option Addr} {es : Array DictEntry} {n : Nat} {sl : Array (Option Value)} {k : Unit → Sem β} (D : Mem h₀ h chg news) (i : Nat) (hi : news[i]? = some (a, ⟨c, d, .dict es n, sl⟩)) (hk : aRefKeyMayBeTheName x es = false) (hsz : es.size ≤ sizeLine)
    (hq : ∀ hash t h' tk', Mem h₀ h' chg (news.set i (a, Obj.putName x hash (.str x t) v ⟨c, d, .dict es n, sl⟩)) → wpAny (model prog w) A (k ()) Q E ⟨h', g, dr, tk', os⟩) : wpAny (model prog w) A (nsSetByValue a x v >>= k) Q E ⟨h, g, dr, tk, os⟩ := by
  refine wpAny_bind ?_
  unfold nsSetByValue
  refine mw_loadPart (D.at i _ _ hi) ?_
  refine mw_if_b (by rw [decide_eq_false (Nat.not_lt.mpr hsz)]; rfl) ?_
  have z := mw_nsSet (prog := prog) (w := w) (A := A) (tk := tk) (k := pure) (Q := fun u s' => wpAny (model prog w) A (k u) Q E s') (E := E) D i hi hk fun hash t h' tk' D' => wpAny_pure (hq hash t h' tk' D')
  rwa [bind_pure] at z
theorem mw_newFields {c : String} {vs : List Value} {k : Value → Sem β} (D : Mem h₀ h chg news) (hl : vs.length ≤ 1000)
    (hq : ∀ a h', Mem h₀ h' chg ((a, { cls := .type c, data := .fields vs.toArray }) :: news) → wpAny (model prog w) A (k (.ref a)) Q E ⟨h', g, dr, tk, os⟩) : wpAny (model prog w) A (newFields c vs >>= k) Q E ⟨h, g, dr, tk, os⟩ := by
  unfold newFields
  refine wpAny_bind ?_
  unfold newObj
  dsimp only
  refine mw_if_f (by rw [sizeLine_eq, List.size_toArray]; lia) ?_
  exact mw_alloc D rfl fun a h' D' => wpAny_pure (hq a h' D')
theorem mw_nsDel {a : Addr} {x : Str} {o : Obj} {k : Bool → Sem β} (D : Mem h₀ h chg news) (i : Nat) (hi : news[i]? = some (a, o)) (hk : nsHas x o = pure true) (hf : (Obj.dropName x o).isFreed = false)
    (hq : ∀ h', Mem h₀ h' chg (news.set i (a, Obj.dropName x o)) → wpAny (model prog w) A (k true) Q E ⟨h', g, dr, tk, os⟩) : wpAny (model prog w) A (nsDel a x >>= k) Q E ⟨h, g, dr, tk, os⟩ := by
  refine wpAny_bind ?_
  unfold nsDel
  refine mw_loadPart (D.at i _ _ hi) ?_
  rw [hk]
  refine mw_closed true rfl ?_
  refine mw_if_t rfl ?_
  refine wpAny_bind (wpAny_updatePart (D.at i _ _ hi) (wpAny_pure (hq _ (D.update hi hf))))
theorem mw_setSlot {a : Addr} {n : Nat} {v : Option Value} {c : Value} {d : Option Addr} {dt : Data} {sl : Array (Option Value)} {k : Unit → Sem β} (D : Mem h₀ h chg news) (i : Nat) (hi : news[i]? = some (a, ⟨c, d, dt, sl⟩)) (hn : n < 16) (hf : (⟨c, d, dt, sl⟩ : Obj).isFreed = false)
    (hq : ∀ h', Mem h₀ h' chg (news.set i (a, ⟨c, d, dt, (sl ++ Array.replicate (n + 1 - sl.size) none).setIfInBounds n v⟩)) → wpAny (model prog w) A (k ()) Q E ⟨h', g, dr, tk, os⟩) : wpAny (model prog w) A (setSlotAt a n v >>= k) Q E ⟨h, g, dr, tk, os⟩ := by
  refine wpAny_bind ?_
  unfold setSlotAt
  refine mw_if_f (by rw [sizeLine_eq]; lia) ?_
  refine wpAny_updatePart (D.at i _ _ hi) ?_
  refine hq _ (D.update hi ?_)
  cases dt <;> first | rfl | exact hf
theorem mw_updateCls {a : Addr} {f : ClassData → ClassData} {c : Value} {d : Option Addr} {cd : ClassData} {sl : Array (Option Value)} {k : Unit → Sem β} (D : Mem h₀ h chg news) (i : Nat) (hi : news[i]? = some (a, ⟨c, d, .cls cd, sl⟩)) (hp : (Data.cls (f cd)).pastItsLine = none)
    (hq : ∀ h', Mem h₀ h' chg (news.set i (a, ⟨c, d, .cls (f cd), sl⟩)) → wpAny (model prog w) A (k ()) Q E ⟨h', g, dr, tk, os⟩) : wpAny (model prog w) A (updateCls a f >>= k) Q E ⟨h, g, dr, tk, os⟩ := by
  refine wpAny_bind ?_
  unfold updateCls
  refine mw_load (D.at i _ _ hi) ?_
  refine wpAny_bind (wpAny_update (D.at i _ _ hi) ?_)
  have D' := D.update (f := Obj.mapCls f) hi rfl
  have hl : i < news.length := (List.getElem?_eq_some_iff.mp hi).1
  have g : (h.update a (Obj.mapCls f)).get? a = some ⟨c, d, .cls (f cd), sl⟩ := D'.at i _ _ (by rw [List.getElem?_set_self hl]; rfl)
  unfold lookBehind
  refine mw_loadPart g ?_
  rw [hp]
  exact wpAny_pure (hq _ D')
end
end Mine
end
section
open PySem PySem.W PySem.W.X PySem.Calls PyProof.Rows
set_option maxRecDepth 100000
set_option maxHeartbeats 0
namespace Mine
/-- a wide surrounding: any that is no deeper lies within -/
abbrev wideA : Around := { handled := none, depth := 900, frames := none, guards := none, units := 600 }
structure Small (A : Around) : Prop where
  handled : A.handled = none
  depth : A.depth ≤ 900
  units : A.units ≤ 600
theorem Small.of_in1 {A : Around} (h : Small A.in1) : Small A := ⟨h.handled, h.depth, Nat.le_of_succ_le h.units⟩
theorem wide_of {α : Type} {M : Model} {A : Around} {t : Sem α} {Q : α → Shared → Prop} {E : Value → Shared → Prop} {s : Shared} (hA : Small A) (h : wpAny M wideA t Q E s) : wpAny M A t Q E s := fun Γ p hΓ =>
  h Γ p ⟨hΓ.1.trans hA.handled, Nat.le_trans hΓ.2.1 hA.depth, fun _ q => (nomatch q), fun _ q => (nomatch q), Nat.le_trans hΓ.2.2.2.2 hA.units⟩
theorem mem_keeps {h₀ h : Heap} {news : List (Addr × Obj)} (D : Mem h₀ h [] news) : Keeps h₀ h := fun b o e => D.keep b o e (by simp [away])
theorem mem_new {h₀ h : Heap} {chg news : List (Addr × Obj)} {a : Addr} {o : Obj} (D : Mem h₀ h chg news) (hm : (a, o) ∈ news) : New h₀ h a o := ⟨(D.nw _ hm).1, (D.nw _ hm).2⟩
def superO (C : Addr) : Obj := { cls := .type "super", data := .fields #[.ref C, .ref C, .ref C] }
local macro_rules | `(tactic| x_close) => do
  let i := Lean.mkIdent `hret
  `(tactic| (refine $i _ _ _ _ (by assumption) (by kernel_rfl)))
theorem x_super {w : World} {prog : Program} {h : Heap} {g : Array GenState} {dr : Drawn} {tk : Nat} {os : OsState} {Q E : Value → Shared → Prop} {C ns : Addr} {sl : Array (Option Value)} {nm : List Str}
  (hC : h.get? C = some ⟨.type "type", none, .cls { name := "K", bases := [.type "object"], mro := [.ref C, .type "object"], ns := ns, qualname := "cmp_to_key.<locals>.K", hasDict := false, slotNames := nm }, sl⟩)
  (hret : ∀ a o h' tk', Mem h h' [] [(a, o)] → o = superO C → Q (.ref a) ⟨h', g, dr, tk', os⟩) :
  wpAny (model prog w) wideA (call (.type "super") [.ref C, .ref C]) Q E ⟨h, g, dr, tk, os⟩ := by
  x_run
end Mine
end
section
open PySem PySem.W PySem.W.X PySem.Calls PyProof.Rows
set_option maxRecDepth 100000
set_option maxHeartbeats 4000000
namespace Mine
local macro_rules | `(tactic| walk_at "no such key") => `(tactic| fail)
theorem slot_super_ga : Slot "super" "__getattribute__" "super.__getattribute__" :=
  .of (owner := "super") (n := "__getattribute__") (by rw [typeLookup_type, builtinLookup_eq_fast]; kernel_rfl) (by decide +kernel) (by decide +kernel) (by decide +kernel)
    (by first | exact .inl (by decide +kernel) | exact .inr (by decide +kernel)) (by rw [isSubtype_type]; kernel_rfl)
theorem entry_super_ga : entryFor table "super.__getattribute__" = some Builtin.«super.__getattribute__» := entryFor_of_fast (by kernel_rfl)
theorem args_super_ga (a b : Value) : argsOk "super.__getattribute__" ⟨[a, b], []⟩ := by unfold argsOk; kernel_rfl
theorem cl_super_ga : typeLookup (.type "super") "__getattribute__" = pure (some (.builtin "super.__getattribute__")) := by kernel_rfl
theorem cl_initsub : classOwn (.type "object") "__init_subclass__" = pure (some (.builtin "object.__init_subclass__")) := by kernel_rfl
theorem cl_initsub_get : (typeOf (.builtin "object.__init_subclass__") >>= fun t => typeLookup t "__get__") = pure (some (.builtin "classmethod_descriptor.__get__")) := by kernel_rfl
theorem cl_bind_ga (u : Addr) : bindSpecial (.builtin "super.__getattribute__") (.ref u) = pure (.builtin "super.__getattribute__", [.ref u]) := by kernel_rfl
def initSubO (C : Addr) : Obj := { cls := .type "builtin_function_or_method", data := .fields #[.builtin "object.__init_subclass__", .ref C] }
section
local macro_rules | `(tactic| x_close) => do
  let i := Lean.mkIdent `hret
  `(tactic| (refine $i _ _ _ _ (by assumption) (by kernel_rfl)))
theorem x_get {w : World} {prog : Program} {h : Heap} {g : Array GenState} {dr : Drawn} {tk : Nat} {os : OsState} {Q E : Value → Shared → Prop} {C ns : Addr} {sl : Array (Option Value)} {nm : List Str}
  (hC : h.get? C = some ⟨.type "type", none, .cls { name := "K", bases := [.type "object"], mro := [.ref C, .type "object"], ns := ns, qualname := "cmp_to_key.<locals>.K", hasDict := false, slotNames := nm }, sl⟩)
  (hret : ∀ a o h' tk', Mem h h' [] [(a, o)] → o = initSubO C → Q (.ref a) ⟨h', g, dr, tk', os⟩) :
  wpAny (model prog w) wideA (call (.builtin "classmethod_descriptor.__get__") [.builtin "object.__init_subclass__", .none, .ref C]) Q E ⟨h, g, dr, tk, os⟩ := by
  x_run
local macro_rules | `(tactic| x_close) => do
  let i := Lean.mkIdent `hret
  `(tactic| (refine $i _ _ (by first | assumption | exact Mem.start _)))
theorem x_initsub {w : World} {prog : Program} {h : Heap} {g : Array GenState} {dr : Drawn} {tk : Nat} {os : OsState} {Q E : Value → Shared → Prop} {C u ns : Addr} {sl : Array (Option Value)} {nm : List Str}
  (hC : h.get? C = some ⟨.type "type", none, .cls { name := "K", bases := [.type "object"], mro := [.ref C, .type "object"], ns := ns, qualname := "cmp_to_key.<locals>.K", hasDict := false, slotNames := nm }, sl⟩)
  (hu : h.get? u = some ⟨.type "builtin_function_or_method", none, .fields #[.builtin "object.__init_subclass__", .ref C], #[]⟩)
  (hret : ∀ h' tk', Mem h h' [] [] → Q .none ⟨h', g, dr, tk', os⟩) :
  wpAny (model prog w) wideA (call (.ref u) []) Q E ⟨h, g, dr, tk, os⟩ := by
  x_run
end
theorem getInit {w : World} {prog : Program} {A : Around} (hA : Small A.in1) {h : Heap} {g : Array GenState} {dr : Drawn} {tk : Nat} {os : OsState} {Q E : Value → Shared → Prop} {C ns u : Addr} {sl : Array (Option Value)} {nm : List Str} {o2 : Obj}
  (h2 : h.get? cStatics = some o2) (hl2 : nsLook "thirdparty.any" o2 = pure none)
  (hC : h.get? C = some ⟨.type "type", none, .cls { name := "K", bases := [.type "object"], mro := [.ref C, .type "object"], ns := ns, qualname := "cmp_to_key.<locals>.K", hasDict := false, slotNames := nm }, sl⟩)
  (hu : h.get? u = some (superO C))
  (hret : ∀ a h' tk', Mem h h' [] [(a, initSubO C)] → Q (.ref a) ⟨h', g, dr, tk', os⟩) :
  wpAny (model prog w) A (getAttr (.ref u) "__init_subclass__") Q E ⟨h, g, dr, tk, os⟩ := by
  unfold getAttr
  refine mw_text ?_
  unfold getAttrBy
  refine wpAny_holding ?_
  refine wpAny_bind ?_
  unfold typeOf
  refine mw_loadPart hu (wpAny_pure ?_)
  refine mw_closed _ cl_super_ga ?_
  refine mw_if_b (by rfl) ?_
  unfold getAttrByItsOwn
  refine mw_closed none rfl ?_
  refine wpAny_bind (wpAny_attempt (wpAny_holding ?_))
  unfold callGetattribute
  refine mw_if_b rfl ?_
  unfold boundAndCalled
  refine mw_closed _ (cl_bind_ga u) ?_
  show wpAny _ _ (call (.builtin "super.__getattribute__") [.ref u, _]) _ _ _
  refine wpAny_call_entry slot_super_ga ⟨_, hu, rfl⟩ entry_super_ga ?_ (args_super_ga _ _)
  unfold Builtin.«super.__getattribute__»
  refine mw_closed _ rfl ?_
  refine mw_if_b rfl ?_
  refine mw_closed _ rfl ?_
  have hfld : ∀ {β : Type} {Q : β → Shared → Prop} {k : Value → Sem β} {E : Value → Shared → Prop} {A : Around} {tk : Nat} (i : Nat) (v : Value), (#[Value.ref C, Value.ref C, Value.ref C] : Array Value)[i]? = some v → wpAny (model prog w) A (k v) Q E ⟨h, g, dr, tk, os⟩ → wpAny (model prog w) A (field (.ref u) i >>= k) Q E ⟨h, g, dr, tk, os⟩ := fun i v e z => by
    refine wpAny_bind ?_
    unfold field fieldsOf
    refine wpAny_bind (mw_load hu (wpAny_pure ?_))
    rw [e]
    exact wpAny_pure z
  refine hfld 0 (.ref C) rfl ?_
  refine hfld 1 (.ref C) rfl ?_
  refine hfld 2 (.ref C) rfl ?_
  refine mw_if_b (by kernel_rfl) ?_
  have hopq : ∀ {β : Type} {Q : β → Shared → Prop} {k : Unit → Sem β} {E : Value → Shared → Prop} {A : Around} {tk : Nat} {x y : String}, wpAny (model prog w) A (k ()) Q E ⟨h, g, dr, tk, os⟩ → wpAny (model prog w) A (notOfAnOpaqueClass x y (.ref C) >>= k) Q E ⟨h, g, dr, tk, os⟩ := fun z => by
    refine wpAny_bind ?_
    unfold notOfAnOpaqueClass
    refine wpAny_bind ?_
    unfold opaqueClassAbove
    refine wpAny_bind ?_
    unfold anyOpaqueLoaded
    refine mw_nsGet h2 hl2 (wpAny_pure ?_)
    exact mw_if_B rfl (wpAny_pure (wpAny_pure z))
  refine hopq ?_
  refine mw_if_b (by kernel_rfl) ?_
  refine wpAny_bind ?_
  unfold mroOf classData
  refine wpAny_bind (mw_load hC (wpAny_pure (wpAny_pure ?_)))
  have hdrop : List.drop 1 (List.dropWhile (fun x => x != Value.ref C) [Value.ref C, Value.type "object"]) = [Value.type "object"] := by simp
  rw [hdrop]
  refine mw_for_cons ?_
  refine mw_closed _ cl_initsub ?_
  refine mw_closed _ (by kernel_rfl : typeOf (.builtin "object.__init_subclass__") = pure (.type "classmethod_descriptor")) ?_
  refine mw_closed _ (by kernel_rfl : typeLookup (.type "classmethod_descriptor") "__get__" = pure (some (.builtin "classmethod_descriptor.__get__"))) ?_
  have hsame : (if (Value.ref C == Value.ref C) = true then Value.none else Value.ref C) = Value.none := by simp
  rw [hsame]
  refine wpAny_bind (wpAny_holding (wide_of hA (x_get hC fun a o h' tk' D e => ?_)))
  subst e
  refine wpAny_bind (wpAny_pure (wpAny_pure ?_))
  refine wpAny_pure ⟨_, rfl, ?_⟩
  exact wpAny_pure (hret a h' tk' D)
end Mine
end
section
open PySem PySem.W PySem.W.X PySem.Calls PyProof.Rows
set_option maxRecDepth 100000
set_option maxHeartbeats 4000000
namespace Mine
theorem cl_ext : Builtin.extendedBase [.type "object"] = pure (.type "object") := by kernel_rfl
theorem cl_turned : Builtin.notOverATurnedClass [.type "object"] = pure () := by kernel_rfl
theorem cl_lin : Builtin.linearize [.type "object"] mroOf = pure [.type "object"] := by kernel_rfl
theorem cl_hook : Builtin.mroHook? (.type "type") = pure none := by kernel_rfl
theorem cl_made : Bind.madeBy (.type "object") = pure (some "object.__new__") := by kernel_rfl
theorem cl_weak : Builtin.Slots.givesWeak (.type "object") = pure false := by kernel_rfl
theorem cl_note (a : Addr) : Builtin.noteSubclassOfBuiltin "object" a = pure () := by kernel_rfl
theorem cl_sub_tuple : isSubtype (.type "tuple") (.type "tuple") = pure true := by kernel_rfl
theorem cl_sub_dict : isSubtype (.type "dict") (.type "dict") = pure true := by kernel_rfl
theorem cl_iter : typeLookup (.type "dict") "__iter__" = pure (some (.builtin "dict.__iter__")) := by kernel_rfl

/-- the namespace behind the class's body -/
def kEs (hs : Nat → Int) (ts : Nat → Tok) (lS fI fL fG fE fLe fGe tS : Addr) : List DictEntry :=
  [⟨hs 0, .str "__module__" (ts 0), .str "cpy313.functools" (ts 20)⟩, ⟨hs 1, .str "__qualname__" (ts 1), .str "cmp_to_key.<locals>.K" (ts 21)⟩, ⟨hs 2, .str "__firstlineno__" (ts 2), .int 4 (ts 22)⟩,
   ⟨hs 3, .str "__slots__" (ts 3), .ref lS⟩, ⟨hs 4, .str "__init__" (ts 4), .ref fI⟩, ⟨hs 5, .str "__lt__" (ts 5), .ref fL⟩, ⟨hs 6, .str "__gt__" (ts 6), .ref fG⟩, ⟨hs 7, .str "__eq__" (ts 7), .ref fE⟩,
   ⟨hs 8, .str "__le__" (ts 8), .ref fLe⟩, ⟨hs 9, .str "__ge__" (ts 9), .ref fGe⟩, ⟨hs 10, .str "__hash__" (ts 10), .none⟩, ⟨hs 11, .str "__static_attributes__" (ts 11), .ref tS⟩]
/-- the namespace of the class made: no __qualname__; behind it the slot's descriptor and __doc__ -/
def kNs (hs : Nat → Int) (ts : Nat → Tok) (lS fI fL fG fE fLe fGe tS : Addr) : List DictEntry :=
  [⟨hs 0, .str "__module__" (ts 0), .str "cpy313.functools" (ts 20)⟩, ⟨hs 2, .str "__firstlineno__" (ts 2), .int 4 (ts 22)⟩,
   ⟨hs 3, .str "__slots__" (ts 3), .ref lS⟩, ⟨hs 4, .str "__init__" (ts 4), .ref fI⟩, ⟨hs 5, .str "__lt__" (ts 5), .ref fL⟩, ⟨hs 6, .str "__gt__" (ts 6), .ref fG⟩, ⟨hs 7, .str "__eq__" (ts 7), .ref fE⟩,
   ⟨hs 8, .str "__le__" (ts 8), .ref fLe⟩, ⟨hs 9, .str "__ge__" (ts 9), .ref fGe⟩, ⟨hs 10, .str "__hash__" (ts 10), .none⟩, ⟨hs 11, .str "__static_attributes__" (ts 11), .ref tS⟩]
def kClsO (ns : Addr) (mro : List Value) (hd : Bool) (names : List Str) (sl : Array (Option Value)) : Obj :=
  { cls := .type "type", data := .cls { name := "K", bases := [.type "object"], mro := mro, ns := ns, qualname := "cmp_to_key.<locals>.K", hasDict := hd, slotNames := names }, slots := sl }
section
variable {β : Type} {prog : Program} {w : World} {A : Around} {E : Value → Shared → Prop} {h : Heap} {g : Array GenState} {dr : Drawn} {tk : Nat} {os : OsState} {Q : β → Shared → Prop} {h₀ : Heap} {chg news : List (Addr × Obj)}
theorem mw_isInst {a : Addr} {c base : Value} {o : Obj} {k : Bool → Sem β} (r : Bool) (ho : h.get? a = some o) (hc : o.cls = c) (he : isSubtype c base = pure r) (hq : wpAny (model prog w) A (k r) Q E ⟨h, g, dr, tk, os⟩) : wpAny (model prog w) A (isInstance (.ref a) base >>= k) Q E ⟨h, g, dr, tk, os⟩ := by
  refine wpAny_bind ?_
  unfold isInstance
  unfold typeOf
  refine wpAny_bind (mw_loadPart ho (wpAny_pure ?_))
  rw [hc, he]
  exact wpAny_pure hq
theorem mw_special {a : Addr} {c : Value} {o : Obj} {x : Str} {k : Option Value → Sem β} (r : Option Value) (ho : h.get? a = some o) (hc : o.cls = c) (he : typeLookup c x = pure r) (hq : wpAny (model prog w) A (k r) Q E ⟨h, g, dr, tk, os⟩) : wpAny (model prog w) A (specialOf (.ref a) x >>= k) Q E ⟨h, g, dr, tk, os⟩ := by
  refine wpAny_bind ?_
  unfold specialOf
  unfold typeOf
  refine wpAny_bind (mw_loadPart ho (wpAny_pure ?_))
  rw [hc, he]
  exact wpAny_pure hq
theorem mw_entries {a : Addr} {c : Value} {d : Option Addr} {es : Array DictEntry} {n : Nat} {sl : Array (Option Value)} {p : Option Value} {k : Array DictEntry → Sem β} (ho : h.get? a = some ⟨c, d, .dict es n, sl⟩) (hq : wpAny (model prog w) A (k es) Q E ⟨h, g, dr, tk, os⟩) : wpAny (model prog w) A (dictEntries a p >>= k) Q E ⟨h, g, dr, tk, os⟩ := by
  refine wpAny_bind ?_
  unfold dictEntries
  refine mw_loadPart ho ?_
  exact wpAny_pure hq
theorem mw_seqItems {a : Addr} {c : Value} {d : Option Addr} {xs : Array Value} {n : Nat} {sl : Array (Option Value)} {k : Option (Array Value) → Sem β} (ho : h.get? a = some ⟨c, d, .seq xs n, sl⟩) (hq : wpAny (model prog w) A (k (some xs)) Q E ⟨h, g, dr, tk, os⟩) : wpAny (model prog w) A (seqItems? (.ref a) >>= k) Q E ⟨h, g, dr, tk, os⟩ := by
  refine wpAny_bind ?_
  unfold seqItems?
  refine mw_load ho ?_
  exact wpAny_pure hq
end

theorem look_own {β : Type} {prog : Program} {w : World} {A : Around} {E : Value → Shared → Prop} {h : Heap} {g : Array GenState} {dr : Drawn} {tk : Nat} {os : OsState} {Q : β → Shared → Prop} {C ns : Addr} {o : Obj} {hd : Bool} {nm : List Str} {sl : Array (Option Value)} {x : Str} {v : Value} {k : Option Value → Sem β}
    (hC : h.get? C = some (kClsO ns [.ref C, .type "object"] hd nm sl)) (hN : h.get? ns = some o) (hl : nsLook x o = pure (some v)) (hq : wpAny (model prog w) A (k (some v)) Q E ⟨h, g, dr, tk, os⟩) : wpAny (model prog w) A (typeLookup (.ref C) x >>= k) Q E ⟨h, g, dr, tk, os⟩ := by
  refine wpAny_bind ?_
  unfold typeLookup
  refine wpAny_bind ?_
  unfold mroOf classData
  refine wpAny_bind (mw_load hC (wpAny_pure (wpAny_pure ?_)))
  refine mw_for_cons ?_
  refine wpAny_bind ?_
  unfold classOwn classData
  refine wpAny_bind (mw_load hC (wpAny_pure ?_))
  unfold nsGet
  refine mw_loadPart hN ?_
  rw [hl]
  exact wpAny_pure (wpAny_pure (wpAny_pure hq))
theorem look_object {β : Type} {prog : Program} {w : World} {A : Around} {E : Value → Shared → Prop} {h : Heap} {g : Array GenState} {dr : Drawn} {tk : Nat} {os : OsState} {Q : β → Shared → Prop} {C ns : Addr} {o : Obj} {hd : Bool} {nm : List Str} {sl : Array (Option Value)} {x : Str} {r : Option Value} {k : Option Value → Sem β}
    (hC : h.get? C = some (kClsO ns [.ref C, .type "object"] hd nm sl)) (hN : h.get? ns = some o) (hl : nsLook x o = pure none) (hr : builtinOwn "object" x = r) (hq : wpAny (model prog w) A (k r) Q E ⟨h, g, dr, tk, os⟩) : wpAny (model prog w) A (typeLookup (.ref C) x >>= k) Q E ⟨h, g, dr, tk, os⟩ := by
  refine wpAny_bind ?_
  unfold typeLookup
  refine wpAny_bind ?_
  unfold mroOf classData
  refine wpAny_bind (mw_load hC (wpAny_pure (wpAny_pure ?_)))
  refine mw_for_cons ?_
  refine wpAny_bind ?_
  unfold classOwn classData
  refine wpAny_bind (mw_load hC (wpAny_pure ?_))
  unfold nsGet
  refine mw_loadPart hN ?_
  rw [hl]
  refine wpAny_pure (wpAny_pure ?_)
  refine mw_for_cons ?_
  refine wpAny_bind (wpAny_pure ?_)
  rw [hr]
  cases r with
  | none => exact wpAny_pure (mw_for_nil (wpAny_pure hq))
  | some v => exact wpAny_pure (wpAny_pure hq)
theorem mw_collect {β : Type} {prog : Program} {w : World} {A : Around} {E : Value → Shared → Prop} {h : Heap} {g : Array GenState} {dr : Drawn} {tk : Nat} {os : OsState} {Q : β → Shared → Prop} {h₀ : Heap} {chg news : List (Addr × Obj)} {l : Addr} {xs : Array Value} {n : Nat} {k : List Value → Sem β}
    (D : Mem h₀ h chg news) (hl : h.get? l = some { cls := .type "list", data := .seq xs n }) (hsz : xs.toList.length ≤ sizeLine)
    (hq : ∀ a o h', Mem h₀ h' chg ((a, o) :: news) → wpAny (model prog w) A (k xs.toList) Q E ⟨h', g, dr, tk, os⟩) : wpAny (model prog w) A (collect (.ref l) >>= k) Q E ⟨h, g, dr, tk, os⟩ := by
  refine wpAny_bind (collect_list (vs := xs.toList) ⟨_, hl, rfl, n, by simp⟩ ?_ hsz)
  have D1 := D.alloc (o := seqObj "list" #[] 0) rfl
  have D2 := D1.update (i := 0) (f := Obj.mapSeq (· ++ xs.toList.toArray)) rfl rfl
  exact hq _ _ _ D2
theorem slots_read {β : Type} {prog : Program} {w : World} {A : Around} {E : Value → Shared → Prop} {h : Heap} {g : Array GenState} {dr : Drawn} {tk : Nat} {os : OsState} {Q : β → Shared → Prop} {h₀ : Heap} {chg news : List (Addr × Obj)} {k : Builtin.Slots.Plan → Sem β}
    {hs : Nat → Int} {ts : Nat → Tok} {lS fI fL fG fE fLe fGe tS : Addr} {u : Tok} {m : Nat} (D : Mem h₀ h chg news)
    (hl : h.get? lS = some { cls := .type "list", data := .seq #[.str "obj" u] m })
    (hq : ∀ a o h', Mem h₀ h' chg ((a, o) :: news) → wpAny (model prog w) A (k { names := ["obj"], dict := false, weak := false, inherited := [] }) Q E ⟨h', g, dr, tk, os⟩) :
    wpAny (model prog w) A (Builtin.Slots.read "K" [.type "object"] (kEs hs ts lS fI fL fG fE fLe fGe tS).toArray >>= k) Q E ⟨h, g, dr, tk, os⟩ := by
  refine wpAny_bind ?_
  unfold Builtin.Slots.read
  refine mw_closed (.type "object") (by kernel_rfl) ?_
  refine mw_closed [] (by kernel_rfl) ?_
  refine mw_closed false (by kernel_rfl) ?_
  refine mw_closed false (by kernel_rfl) ?_
  refine mw_closed false (by kernel_rfl) ?_
  have hf : (kEs hs ts lS fI fL fG fE fLe fGe tS).toArray.find? (fun x => x.key.isStr "__slots__") = some ⟨hs 3, .str "__slots__" (ts 3), .ref lS⟩ := by kernel_rfl
  simp only [hf]
  refine mw_rule ?_
  have ha : ∀ {β : Type} {Q : β → Shared → Prop} {k : Option Str → Sem β}, wpAny (model prog w) A (k none) Q E ⟨h, g, dr, tk, os⟩ → wpAny (model prog w) A (asStr? (.ref lS) >>= k) Q E ⟨h, g, dr, tk, os⟩ := fun z => wpAny_bind (mw_load hl (wpAny_pure z))
  refine ha ?_
  refine mw_if_f (by decide) ?_
  refine mw_collect D hl (by rw [sizeLine_eq]; simp) fun a o h' D' => ?_
  refine wpAny_of_eq (?_ : _ = pure { names := ["obj"], dict := false, weak := false, inherited := [] }) (hq a o h' D')
  kernel_rfl
/-- what stands of a class made by this text: the class, its namespace, its slot's descriptor -/
def kNsO (hs : Nat → Int) (ts : Nat → Tok) (lS fI fL fG fE fLe fGe tS md : Addr) (x y : Int) (u v : Tok) : Obj :=
  { cls := .type "dict", data := .dict (kNs hs ts lS fI fL fG fE fLe fGe tS ++ [(⟨x, .str "obj" u, .ref md⟩ : DictEntry), ⟨y, .str "__doc__" v, .none⟩]).toArray 3 }
def kMdO (C : Addr) (t : Tok) : Obj := { cls := .type "member_descriptor", data := .fields #[.str "obj" t, .ref C, .builtin "proto.slot", .builtin "proto.slot#set", .int 0 0] }
def kSl (b : Addr) (t q : Tok) : Array (Option Value) := #[some (.ref b), none, some (.str "K" t), some (.str "cmp_to_key.<locals>.K" q), some (.builtin "object.__new__"), some (.bool false)]
theorem hasCls_of {o : Obj} {c : String} (hc : o.cls = .type c) : hasCls o = true := by unfold hasCls; rw [hc]
theorem cl_sn_function : typeLookup (.type "function") "__set_name__" = pure none := by kernel_rfl
theorem cl_sn_list : typeLookup (.type "list") "__set_name__" = pure none := by kernel_rfl
theorem cl_sn_tuple : typeLookup (.type "tuple") "__set_name__" = pure none := by kernel_rfl
theorem cl_sn_member : typeLookup (.type "member_descriptor") "__set_name__" = pure none := by kernel_rfl
theorem type_new {prog : Program} {w : World} {A : Around} (hA : Small A.in1) {E : Value → Shared → Prop} {h : Heap} {g : Array GenState} {dr : Drawn} {tk : Nat} {os : OsState} {Q : Fin → Shared → Prop} {t : Tok} {b n : Addr} {e : Nat}
    {hs : Nat → Int} {ts : Nat → Tok} {lS fI fL fG fE fLe fGe tS : Addr} {o2 oI oL oG oE oLe oGe oT : Obj}
    (h2 : h.get? cStatics = some o2) (hl2 : nsLook "thirdparty.any" o2 = pure none)
    (hI : h.get? fI = some oI) (cI : oI.cls = .type "function") (hL : h.get? fL = some oL) (cL : oL.cls = .type "function") (hG : h.get? fG = some oG) (cG : oG.cls = .type "function") (hE : h.get? fE = some oE) (cE : oE.cls = .type "function")
    (hLe : h.get? fLe = some oLe) (cLe : oLe.cls = .type "function") (hGe : h.get? fGe = some oGe) (cGe : oGe.cls = .type "function") (hT : h.get? tS = some oT) (cT : oT.cls = .type "tuple")
    (hb : h.get? b = some { cls := .type "tuple", data := .seq #[.type "object"] 0 })
    (hn : h.get? n = some { cls := .type "dict", data := .dict (kEs hs ts lS fI fL fG fE fLe fGe tS).toArray e }) (hn1 : n ≠ sysModules) {u : Tok} {m : Nat} (hl : h.get? lS = some { cls := .type "list", data := .seq #[.str "obj" u] m })
    (hret : ∀ C ns md x y u v h' tk', Keeps h h' → New h h' C (kClsO ns [.ref C, .type "object"] false ["obj"] (kSl b t (ts 21))) → New h h' ns (kNsO hs ts lS fI fL fG fE fLe fGe tS md x y u v) → New h h' md (kMdO C tk) → Q (.done (.ret (.ref C))) ⟨h', g, dr, tk', os⟩) :
   wpAny (model prog w) A (Builtin.«type.__new__» ⟨[.type "type", .str "K" t, .ref b, .ref n], []⟩) Q E ⟨h, g, dr, tk, os⟩ := by
  unfold Builtin.«type.__new__»
  refine mw_closed (some "K") rfl ?_
  refine mw_isInst true hb rfl cl_sub_tuple ?_
  refine mw_if_f (by decide) ?_
  refine mw_isInst true hn rfl cl_sub_dict ?_
  refine mw_if_f (by decide) ?_
  refine mw_seqItems hb ?_
  refine mw_if_f (by decide) ?_
  refine mw_closed PUnit.unit (by kernel_rfl) ?_
  refine mw_closed (.type "type") (by kernel_rfl) ?_
  refine mw_if_f (by decide) ?_
  refine mw_closed () cl_turned ?_
  refine mw_closed (.type "object") cl_ext ?_
  refine mw_if_f (by simpa using hn1) ?_
  refine mw_entries hn ?_
  refine mw_special _ hn rfl cl_iter ?_
  refine mw_if_t (by simp) ?_
  refine mw_closed _ rfl ?_
  show wpAny _ _ (holding [] (Builtin.Slots.read "K" [.type "object"] _) >>= _) _ _ _
  refine slots_read (Mem.start h) hl fun a0 o0 h' D => ?_
  refine mw_newObj D (by kernel_rfl) rfl fun ns h' D => ?_
  refine mw_if_b (by kernel_rfl) ?_
  refine mw_closed () (by kernel_rfl) ?_
  refine mw_if_b (by kernel_rfl) ?_
  refine mw_nsGet (r := some (.str "cmp_to_key.<locals>.K" (ts 21))) (D.at 0 _ _ rfl) (by kernel_rfl) ?_
  refine mw_nsGet (r := some (.str "cmp_to_key.<locals>.K" (ts 21))) (D.at 0 _ _ rfl) (by kernel_rfl) ?_
  refine mw_closed (some "cmp_to_key.<locals>.K") rfl ?_
  refine mw_closed _ rfl ?_
  refine mw_nsGet (r := none) (D.at 0 _ _ rfl) (by kernel_rfl) ?_
  refine mw_alloc D rfl fun C h' D => ?_
  refine mw_if_B rfl ?_
  refine mw_setSlot (n := 0) D 0 rfl (by decide) rfl fun h' D => ?_
  refine mw_setSlot (n := 2) D 0 rfl (by decide) rfl fun h' D => ?_
  refine mw_setSlot (n := 3) D 0 rfl (by decide) rfl fun h' D => ?_
  refine mw_nsDel D 1 rfl (by kernel_rfl) (by kernel_rfl) fun h' D => ?_
  have D := mem_cast (news' := [(C, kClsO ns [] true [] #[some (.ref b), none, some (.str "K" t), some (.str "cmp_to_key.<locals>.K" (ts 21))]),
    (ns, { cls := .type "dict", data := .dict (kNs hs ts lS fI fL fG fE fLe fGe tS).toArray 1 }), (a0, o0)]) D (by kernel_rfl)
  refine mw_nsGet (r := none) (D.at 1 _ _ rfl) (by kernel_rfl) ?_
  refine mw_for_cons (mw_nsGet (r := none) (D.at 1 _ _ rfl) (by kernel_rfl) (wpAny_pure ?_))
  refine mw_for_cons (mw_nsGet (r := none) (D.at 1 _ _ rfl) (by kernel_rfl) (wpAny_pure ?_))
  refine mw_for_nil ?_
  refine mw_nsGet (r := none) (D.at 1 _ _ rfl) (by kernel_rfl) ?_
  refine mw_nsGet (r := none) (D.at 1 _ _ rfl) (by kernel_rfl) ?_
  refine mw_closed none cl_hook ?_
  refine mw_closed [.type "object"] cl_lin ?_
  refine mw_closed _ rfl ?_
  have hfil : List.filter (fun x => x != Value.ref C) [Value.ref C, Value.type "object"] = [Value.type "object"] := by simp
  refine wpAny_bind ?_
  rw [hfil]
  refine wpAny_of_eq (?_ : _ = pure false) ?_
  · kernel_rfl
  refine mw_updateCls D 0 rfl rfl fun h' D => ?_
  refine mw_closed (some "object.__new__") cl_made ?_
  refine mw_setSlot (n := 4) D 0 rfl (by decide) rfl fun h' D => ?_
  have D := mem_cast (news' := [(C, kClsO ns [.ref C, .type "object"] true [] #[some (.ref b), none, some (.str "K" t), some (.str "cmp_to_key.<locals>.K" (ts 21)), some (.builtin "object.__new__")]),
    (ns, { cls := .type "dict", data := .dict (kNs hs ts lS fI fL fG fE fLe fGe tS).toArray 1 }), (a0, o0)]) D (by kernel_rfl)
  refine wpAny_bind ?_
  unfold Bind.refreshMaker
  refine wpAny_bind ?_
  unfold slotAt
  refine mw_loadPart (D.at 0 _ _ rfl) (wpAny_pure ?_)
  refine mw_if_b (by kernel_rfl) ?_
  refine look_object (D.at 0 _ _ rfl) (D.at 1 _ _ rfl) (by kernel_rfl) (by kernel_rfl : _ = some (.builtin "object.__new__")) ?_
  refine mw_if_b (by kernel_rfl) (wpAny_pure ?_)
  refine wpAny_bind ?_
  unfold Builtin.Slots.install
  refine mw_for_cons ?_
  refine mw_nsGet (r := none) (D.at 1 _ _ rfl) (by kernel_rfl) ?_
  refine mw_if_B rfl ?_
  refine mw_str (by rw [sizeLine_eq]; decide) ?_
  refine mw_newFields D (by simp) fun md h' D => ?_
  refine mw_nsSetByValue D 2 rfl (by kernel_rfl) (by rw [sizeLine_eq]; simp [kNs]) fun hash1 t1 h' tk1 D => ?_
  refine wpAny_pure ?_
  refine mw_for_nil ?_
  refine mw_closed false (by kernel_rfl) ?_
  refine mw_if_f (by rw [sizeLine_eq]; decide) ?_
  refine mw_last (mw_updateCls D 1 rfl rfl fun h' D => wpAny_pure ?_)
  refine mw_closed false cl_weak ?_
  refine mw_setSlot (n := 5) D 1 rfl (by decide) rfl fun h' D => ?_
  have D := mem_cast (news' := [(md, { cls := .type "member_descriptor", data := .fields #[.str "obj" tk, .ref C, .builtin "proto.slot", .builtin "proto.slot#set", .int 0 0] }),
    (C, kClsO ns [.ref C, .type "object"] false ["obj"] #[some (.ref b), none, some (.str "K" t), some (.str "cmp_to_key.<locals>.K" (ts 21)), some (.builtin "object.__new__"), some (.bool false)]),
    (ns, { cls := .type "dict", data := .dict ((kNs hs ts lS fI fL fG fE fLe fGe tS) ++ [(⟨hash1, .str "obj" t1, .ref md⟩ : DictEntry)]).toArray 2 }), (a0, o0)]) D (by kernel_rfl)
  refine mw_if_b rfl ?_
  refine mw_if_b rfl ?_
  refine mw_nsGet (r := none) (D.at 2 _ _ rfl) (by kernel_rfl) ?_
  refine mw_if_B rfl ?_
  refine mw_nsSet D 2 rfl (by kernel_rfl) fun hash2 t2 h' tk2 D => ?_
  have D := mem_cast (news' := [(md, { cls := .type "member_descriptor", data := .fields #[.str "obj" tk, .ref C, .builtin "proto.slot", .builtin "proto.slot#set", .int 0 0] }),
    (C, kClsO ns [.ref C, .type "object"] false ["obj"] #[some (.ref b), none, some (.str "K" t), some (.str "cmp_to_key.<locals>.K" (ts 21)), some (.builtin "object.__new__"), some (.bool false)]),
    (ns, { cls := .type "dict", data := .dict ((kNs hs ts lS fI fL fG fE fLe fGe tS) ++ [(⟨hash1, .str "obj" t1, .ref md⟩ : DictEntry), ⟨hash2, .str "__doc__" t2, .none⟩]).toArray 3 }), (a0, o0)]) D (by kernel_rfl)
  refine mw_nsGet (r := some (.ref fE)) (D.at 2 _ _ rfl) (by kernel_rfl) ?_
  refine mw_if_B rfl ?_
  refine mw_nsGet (r := some .none) (D.at 2 _ _ rfl) (by kernel_rfl) ?_
  refine mw_if_b rfl ?_
  refine mw_closed PUnit.unit (by kernel_rfl) ?_
  refine wpAny_bind (wpAny_tryCatch (wpAny_holding ?_))
  refine mw_entries (D.at 2 _ _ rfl) ?_
  refine mw_closed false (by kernel_rfl) ?_
  refine mw_if_b rfl ?_
  refine mw_entries (D.at 2 _ _ rfl) ?_
  rw [List.forIn_toArray]
  have old : ∀ {a : Addr} {o : Obj} {c : String}, h.get? a = some o → o.cls = .type c → h'.get? a = some o := fun e hc => D.old _ _ e (by rw [hasCls_of hc]; rfl)
  unfold kNs
  refine mw_for_cons (mw_if_b (by kernel_rfl) (mw_closed none (by kernel_rfl) (wpAny_pure ?_)))
  refine mw_for_cons (mw_if_b (by kernel_rfl) (mw_closed none (by kernel_rfl) (wpAny_pure ?_)))
  refine mw_for_cons (mw_if_b (by kernel_rfl) (mw_special none (old hl rfl) rfl cl_sn_list (wpAny_pure ?_)))
  refine mw_for_cons (mw_if_b (by kernel_rfl) (mw_special none (old hI cI) cI cl_sn_function (wpAny_pure ?_)))
  refine mw_for_cons (mw_if_b (by kernel_rfl) (mw_special none (old hL cL) cL cl_sn_function (wpAny_pure ?_)))
  refine mw_for_cons (mw_if_b (by kernel_rfl) (mw_special none (old hG cG) cG cl_sn_function (wpAny_pure ?_)))
  refine mw_for_cons (mw_if_b (by kernel_rfl) (mw_special none (old hE cE) cE cl_sn_function (wpAny_pure ?_)))
  refine mw_for_cons (mw_if_b (by kernel_rfl) (mw_special none (old hLe cLe) cLe cl_sn_function (wpAny_pure ?_)))
  refine mw_for_cons (mw_if_b (by kernel_rfl) (mw_special none (old hGe cGe) cGe cl_sn_function (wpAny_pure ?_)))
  refine mw_for_cons (mw_if_b (by kernel_rfl) (mw_closed none (by kernel_rfl) (wpAny_pure ?_)))
  refine mw_for_cons (mw_if_b (by kernel_rfl) (mw_special none (old hT cT) cT cl_sn_tuple (wpAny_pure ?_)))
  refine mw_for_cons (mw_if_b (by kernel_rfl) (mw_special none (D.at 0 _ _ rfl) rfl cl_sn_member (wpAny_pure ?_)))
  refine mw_for_cons (mw_if_b (by kernel_rfl) (mw_closed none (by kernel_rfl) (wpAny_pure ?_)))
  refine mw_for_nil ?_
  have hC1 := D.at 1 _ _ rfl
  refine wpAny_bind (wide_of ?_ (x_super hC1 fun su so h3 tk3 D3 e3 => ?_))
  · exact hA.of_in1
  subst e3
  refine wpAny_bind (wpAny_holding (getInit hA (o2 := o2) ?_ hl2 (mem_keeps D3 _ _ hC1) (D3.at 0 _ _ rfl) fun q4 h4 tk4 D4 => ?_))
  · exact mem_keeps D3 _ _ (mem_keeps D _ _ h2)
  refine wpAny_bind (wide_of ?_ (x_initsub (mem_keeps D4 _ _ (mem_keeps D3 _ _ hC1)) (D4.at 0 _ _ rfl) fun h5 tk5 D5 => wpAny_pure ?_))
  · exact hA.of_in1
  refine wpAny_pure ?_
  have k3 : Keeps h' h5 := ((mem_keeps D3).trans (mem_keeps D4)).trans (mem_keeps D5)
  refine hret C ns md hash1 hash2 t1 t2 h5 tk5 ((mem_keeps D).trans k3) ?_ ?_ ?_
  · exact (mem_new D (.tail _ (.head _))).mono k3
  · exact (mem_new D (.tail _ (.tail _ (.head _)))).mono k3
  · exact (mem_new D (.head _)).mono k3
end Mine
end
section
open PySem PySem.W PySem.W.X PySem.Calls PyProof.Rows
set_option maxRecDepth 100000
set_option maxHeartbeats 4000000
namespace Mine
theorem entry_tn : entryFor table "type.__new__" = some Builtin.«type.__new__» := entryFor_of_fast (by kernel_rfl)
theorem entry_ti : entryFor table "type.__init__" = some Builtin.«type.__init__» := entryFor_of_fast (by kernel_rfl)
theorem plain_tn : plainId "type.__new__" = true := by decide +kernel
theorem cl_tn_check (t : Tok) (b n : Addr) : checkBuiltinCall "type.__new__" ⟨[.type "type", .str "K" t, .ref b, .ref n], []⟩ = pure () := by kernel_rfl
theorem cl_tt_check (t : Tok) (b n : Addr) : checkTypeCall "type" ⟨[.str "K" t, .ref b, .ref n], []⟩ = pure () := by kernel_rfl
theorem slot_ti : Slot "type" "__init__" "type.__init__" :=
  .of (owner := "type") (n := "__init__") (by rw [typeLookup_type, builtinLookup_eq_fast]; kernel_rfl) (by decide +kernel) (by decide +kernel) (by decide +kernel)
    (by first | exact .inl (by decide +kernel) | exact .inr (by decide +kernel)) (by rw [isSubtype_type]; kernel_rfl)
theorem args_ti (c : Value) (t : Tok) (b n : Addr) : argsOk "type.__init__" ⟨[c, .str "K" t, .ref b, .ref n], []⟩ := by unfold argsOk; kernel_rfl
theorem mk_class {prog : Program} {w : World} {A : Around} (hA : Small A.in1.in1.in1) {E : Value → Shared → Prop} {h : Heap} {g : Array GenState} {dr : Drawn} {tk : Nat} {os : OsState} {Q : Value → Shared → Prop} {t : Tok} {b n : Addr} {e : Nat}
    {hs : Nat → Int} {ts : Nat → Tok} {lS fI fL fG fE fLe fGe tS : Addr} {o2 oI oL oG oE oLe oGe oT : Obj}
    (h2 : h.get? cStatics = some o2) (hl2 : nsLook "thirdparty.any" o2 = pure none)
    (hI : h.get? fI = some oI) (cI : oI.cls = .type "function") (hL : h.get? fL = some oL) (cL : oL.cls = .type "function") (hG : h.get? fG = some oG) (cG : oG.cls = .type "function") (hE : h.get? fE = some oE) (cE : oE.cls = .type "function")
    (hLe : h.get? fLe = some oLe) (cLe : oLe.cls = .type "function") (hGe : h.get? fGe = some oGe) (cGe : oGe.cls = .type "function") (hT : h.get? tS = some oT) (cT : oT.cls = .type "tuple")
    (hb : h.get? b = some { cls := .type "tuple", data := .seq #[.type "object"] 0 })
    (hn : h.get? n = some { cls := .type "dict", data := .dict (kEs hs ts lS fI fL fG fE fLe fGe tS).toArray e }) (hn1 : n ≠ sysModules) {u : Tok} {m : Nat} (hl : h.get? lS = some { cls := .type "list", data := .seq #[.str "obj" u] m })
    (hret : ∀ C ns md x y u v h' tk', Keeps h h' → New h h' C (kClsO ns [.ref C, .type "object"] false ["obj"] (kSl b t (ts 21))) → New h h' ns (kNsO hs ts lS fI fL fG fE fLe fGe tS md x y u v) → New h h' md (kMdO C tk) → Q (.ref C) ⟨h', g, dr, tk', os⟩) :
   wpAny (model prog w) A (call (.type "type") [.str "K" t, .ref b, .ref n]) Q E ⟨h, g, dr, tk, os⟩ := by
  refine wpAny_call ?_
  refine codeAny_of_tree ?_
  show wpAny _ _ (callAny (.type "type") ⟨_, _⟩) _ _ _
  refine wpAny_pure ⟨Code.quiet_builtin _ (by decide +kernel), codeAny_builtin F.entry_type_call ?_⟩
  rw [Around.under_plain (weight_type_call_type _ _ []) (units_type_call_type _ _ [])]
  unfold Builtin.«type.__call__»
  refine mw_if_B (by rfl) ?_
  refine mw_if_b (by rfl) ?_
  refine mw_if_b (by rfl) ?_
  refine mw_if_b (by kernel_rfl) ?_
  refine mw_closed () (cl_tt_check t b n) ?_
  refine mw_closed [.type "type", .type "object"] (by kernel_rfl) ?_
  refine mw_if_b (by rfl) ?_
  refine mw_closed (some "type.__new__") (by kernel_rfl) ?_
  refine mw_closed _ rfl ?_
  refine wpAny_bind (wpAny_holding (wpAny_call ?_))
  refine codeAny_call_builtin plain_tn entry_tn (wpAny_of_eq (cl_tn_check t b n) ?_)
  refine type_new (hA) h2 hl2 hI cI hL cL hG cG hE cE hLe cLe hGe cGe hT cT hb hn hn1 hl fun C ns md x y u v h' tk' k NC NN NM => ?_
  refine mw_isInst true NC.there rfl (by kernel_rfl) ?_
  refine mw_if_b rfl ?_
  refine wpAny_bind (wpAny_holding ?_)
  unfold callSpecial?
  refine mw_special _ NC.there rfl slot_ti.lookup ?_
  refine wpAny_holding ?_
  refine mw_closed _ (slot_ti.bind _) ?_
  refine wpAny_bind ?_
  show wpAny _ _ (call (.builtin "type.__init__") [.ref C, .str "K" t, .ref b, .ref n]) _ _ _
  refine wpAny_call_entry slot_ti ⟨_, NC.there, rfl⟩ entry_ti ?_ (args_ti _ _ _ _)
  unfold Builtin.«type.__init__»
  refine mw_if_b (by rfl) ?_
  refine mw_if_b (by rfl) ?_
  refine wpAny_pure ⟨_, rfl, wpAny_pure ?_⟩
  refine mw_if_b (by rfl) ?_
  exact wpAny_pure (hret C ns md x y u v h' tk' k NC NN NM)
end Mine
end
section
open PySem PySem.W PySem.W.X PySem.Calls PyProof.Rows
set_option maxRecDepth 100000
set_option maxHeartbeats 4000000
namespace Mine
/-- all but two objects stand as they stood -/
def But (a b : Addr) (h h' : Heap) : Prop := ∀ x o, x ≠ a → x ≠ b → h.get? x = some o → h'.get? x = some o
theorem But.refl (a b : Addr) (h : Heap) : But a b h h := fun _ _ _ _ e => e
theorem But.trans {a b : Addr} {h h' h'' : Heap} (x : But a b h h') (y : But a b h' h'') : But a b h h'' := fun _ _ p q e => y _ _ p q (x _ _ p q e)
theorem ne_get {h : Heap} {a b : Addr} {o o' : Obj} (e : h.get? a = some o) (e' : h.get? b = some o') (hne : o ≠ o') : a ≠ b := fun q => hne (by rw [q, e'] at e; exact (Option.some.inj e).symm)
theorem ne_new {h : Heap} {a b : Addr} {o : Obj} (e : h.get? a = some o) (e' : h.get? b = none) : a ≠ b := fun q => by rw [q, e'] at e; cases e
section
variable {β : Type} {prog : Program} {w : World} {A : Around} {E : Value → Shared → Prop} {h : Heap} {g : Array GenState} {dr : Drawn} {tk : Nat} {os : OsState} {env : Env}
theorem nsSet_plain {a : Addr} {x : Str} {v : Value} {c : Value} {d : Option Addr} {es : Array DictEntry} {n : Nat} {sl : Array (Option Value)} {Q : Unit → Shared → Prop} (ho : h.get? a = some ⟨c, d, .dict es n, sl⟩) (hk : aRefKeyMayBeTheName x es = false)
    (hq : ∀ hash t h' tk', Heap.SameBut a h h' → h'.get? a = some (Obj.putName x hash (.str x t) v ⟨c, d, .dict es n, sl⟩) → Q () ⟨h', g, dr, tk', os⟩) : wpAny (model prog w) A (nsSet a x v) Q E ⟨h, g, dr, tk, os⟩ := by
  unfold nsSet
  refine wpAny_bind ?_
  unfold strHash
  refine wpAny_bind (wpAny_askSetting (wpAny_pure ?_))
  refine mw_text ?_
  refine mw_loadPart ho ?_
  dsimp only
  rw [hk]
  refine mw_if_f Bool.false_ne_true ?_
  refine wpAny_updatePart ho ?_
  refine hq _ _ _ _ (Heap.SameBut.update ..) (Heap.get?_update_self _ ho ?_)
  unfold Obj.putName
  dsimp only
  split <;> rfl
/-- a name is stored in a class's body -/
theorem store_cls {x : Str} {v : Value} {es : Array DictEntry} {n : Nat} {Q : Unit → Shared → Prop} (hkd : env.scope.kind = .class) (hx : env.kindOf x = some .local ∨ (env.kindOf x = none ∧ compilersOwnNames.contains x = true))
    (ho : h.get? env.locals = some { cls := .type "dict", data := .dict es n }) (hk : aRefKeyMayBeTheName x es = false)
    (hq : ∀ hash t h' tk', Heap.SameBut env.locals h h' → h'.get? env.locals = some (Obj.putName x hash (.str x t) v { cls := .type "dict", data := .dict es n }) → Q () ⟨h', g, dr, tk', os⟩) : wpAny (model prog w) A (storeName env x v) Q E ⟨h, g, dr, tk, os⟩ := by
  have hl : wpAny (model prog w) A (localSet env x v) Q E ⟨h, g, dr, tk, os⟩ := by
    unfold localSet
    refine mw_load ho ?_
    exact mw_if_B rfl (nsSet_plain ho hk hq)
  have hb : env.blockKind = .class := by unfold Env.blockKind; rw [hkd]; rfl
  unfold storeName
  rcases hx with hx | ⟨hx, hc⟩
  · rw [hx, hkd]
    exact hl
  · rw [hx, hkd, hb, hc]
    exact hl
/-- a def in a class's body -/
theorem def_cls {name : Str} {args : Arguments} {body : List Stmt} {scope : Scope} {pos : Pos} {clos : List (Str × Addr)} {mg : Str → Option Value} {cc P : Addr} {ps : Array Value} {es : Array DictEntry} {n : Nat} {Q : Flow → Shared → Prop}
    (hdf : defaultsOf args env = ([], [])) (han : annTrees args none env = []) (hcl : closureFor scope env = pure clos) (hgl : env.globals = mainGlobals) (hcode : env.code = .ref cc)
    (hkd : env.scope.kind = .class) (hx : env.kindOf name = some .local)
    (hg : h.Ns mainGlobals mg) (C : CodeHd h cc P) (hP : h.get? P = some (tabObj ps)) (ht : TriplesOk ps.toList) (hnf : codeAmong pos ps.toList = none) (hb : h.BuiltinsAt mg P)
    (ho : h.get? env.locals = some { cls := .type "dict", data := .dict es n }) (hk : aRefKeyMayBeTheName name es = false)
    (hq : ∀ f c' ctv doc hash t h' tk', But env.locals P h h' → h.get? f = none → h.get? c' = none → h'.get? f = some (fnMade name (qualnameIn env name name) args body scope clos doc ((mg "__name__").getD .none) c' ctv) → h'.CodeRec (.ref c') (qualnameIn env name name) →
      h'.get? P = some (tabObj (ps ++ #[rawInt pos.line, rawInt pos.col, .ref c'])) → h'.get? env.locals = some (Obj.putName name hash (.str name t) (.ref f) { cls := .type "dict", data := .dict es n }) → Q .next ⟨h', g, dr, tk', os⟩) :
    wpAny (model prog w) A (exec (.FunctionDef name args body [] none [] scope none name pos) env) Q E ⟨h, g, dr, tk, os⟩ := by
  rw [exec_def]
  refine mw_at ?_
  have hgP : mainGlobals ≠ P := by
    refine hide fun hideG hideH => ?_
    obtain ⟨o, es', ep, e, hd, _⟩ := hg
    refine hideH ?_; clear hideH hideG
    exact ne_get e hP fun q => by rw [q] at hd; cases hd
  have hlP : env.locals ≠ P := ne_get ho hP fun q => by cases q
  rw [hdf, han]
  refine wpAny_bind (wpAny_holding ?_)
  refine mw_closed [] rfl ?_
  refine wpAny_bind (wpAny_holding (wpAny_pure ?_))
  refine wpAny_holding ?_
  refine mw_closed [] rfl ?_
  refine makeFunction_K hcl hgl hg hcode C hP ht hnf hgP hb fun c' ctv doc h1 tk1 hx1 hge hlt hrec hP1 => ?_
  refine mw_at ?_
  refine wpAny_bind (wpAny_bindName ?_)
  have ho1 : h1.get? env.locals = some { cls := .type "dict", data := .dict es n } := hx1 _ _ hlP ho
  have hlt1 : env.locals < h1.objs.size := Heap.lt_size ho1
  refine store_cls hkd (.inl hx) (Heap.get?_push_of_some _ ho1) hk fun hash t h2 tk2 sb ho2 => wpAny_pure ?_
  have hf1 : (h1.push (fnMade name (qualnameIn env name name) args body scope clos doc ((mg "__name__").getD .none) c' ctv)).get? h1.objs.size = some _ := Heap.get?_push_size _ rfl
  have hsz : h.objs.size ≤ h1.objs.size := Nat.le_trans hge (Nat.le_of_lt hlt)
  refine hq h1.objs.size c' ctv doc hash t h2 tk2 ?_ ?_ (Heap.get?_none_of_le hge) ?_ ?_ ?_ ho2
  · intro x o hxl hxP e
    exact (sb.2 x hxl).trans (Heap.get?_push_of_some _ (hx1 x o hxP e))
  · cases q : h.get? h1.objs.size with
    | none => rfl
    | some o' => exact absurd (Heap.lt_size q) (Nat.not_lt.mpr hsz)
  · exact (sb.2 _ (Nat.ne_of_gt hlt1)).trans hf1
  · refine hide fun hideG hideH => ?_
    obtain ⟨c2, o2, vs, t2, e2, g2, r2⟩ := hrec
    refine hideH ?_; clear hideH hideG
    cases e2
    refine ⟨_, o2, vs, t2, rfl, (sb.2 _ ?_).trans (Heap.get?_push_of_some _ g2), r2⟩
    exact fun q => by
      have := Heap.lt_size ho
      rw [← q] at this
      exact absurd (Nat.lt_of_lt_of_le this hge) (Nat.lt_irrefl _)
  · exact (sb.2 _ hlP.symm).trans (Heap.get?_push_of_some _ hP1)
end
end Mine
end
section
open PySem PySem.W PySem.W.X PySem.Calls PyProof.Rows
set_option maxRecDepth 100000
set_option maxHeartbeats 4000000
namespace Mine
section
local macro_rules | `(tactic| x_close) => do
  let i := Lean.mkIdent `hret
  `(tactic| (refine $i _ _ _ (by assumption)))
theorem x_prep1 {w : World} {prog : Program} {h : Heap} {g : Array GenState} {dr : Drawn} {tk : Nat} {os : OsState} {Q E : Value → Shared → Prop} {t : Tok}
  (hret : ∀ a h' tk', Mem h h' [] [(a, { cls := .type "builtin_function_or_method", data := .fields #[.builtin "type.__prepare__", .type "type"] })] → Q (.ref a) ⟨h', g, dr, tk', os⟩) :
  wpAny (model prog w) wideA (call (.builtin "type.__getattribute__") [.type "type", .str "__prepare__" t]) Q E ⟨h, g, dr, tk, os⟩ := by
  x_run
theorem x_prep2 {w : World} {prog : Program} {h : Heap} {g : Array GenState} {dr : Drawn} {tk : Nat} {os : OsState} {Q E : Value → Shared → Prop} {t : Tok} {p b : Addr}
  (hp : h.get? p = some ⟨.type "builtin_function_or_method", none, .fields #[.builtin "type.__prepare__", .type "type"], #[]⟩)
  (hb : h.get? b = some ⟨.type "tuple", none, .seq #[.type "object"] 0, #[]⟩)
  (hret : ∀ a h' tk', Mem h h' [] [(a, { cls := .type "dict", data := .dict #[] 0 })] → Q (.ref a) ⟨h', g, dr, tk', os⟩) :
  wpAny (model prog w) wideA (call (.ref p) [.str "K" t, .ref b]) Q E ⟨h, g, dr, tk, os⟩ := by
  x_run
end
end Mine
end
section
open PySem PySem.W PySem.W.X PySem.Calls PyProof.Rows
set_option maxRecDepth 100000
set_option maxHeartbeats 4000000
namespace Mine
section
variable {β : Type} {prog : Program} {w : World} {A : Around} {E : Value → Shared → Prop} {h : Heap} {g : Array GenState} {dr : Drawn} {tk : Nat} {os : OsState} {env : Env}
/-- the code object of a class's body -/
theorem class_code {pos : Pos} {fl : Nat} {name qual : Str} {scope : Scope} {c P : Addr} {ps : Array Value} {Q : Value → Shared → Prop}
    (hcode : env.code = .ref c) (C : CodeHd h c P) (hP : h.get? P = some (tabObj ps)) (ht : TriplesOk ps.toList) (hnf : codeAmong pos ps.toList = none)
    (hq : ∀ cc P' h' tk', Heap.ExtBut P h h' → CodeHd h' cc P' → h'.get? P' = some (tabObj #[]) → h.get? P' = none → h.get? cc = none → h'.get? P = some (tabObj (ps ++ #[rawInt pos.line, rawInt pos.col, .ref cc])) → Q (.ref cc) ⟨h', g, dr, tk', os⟩) :
    wpAny (model prog w) A (classCode env pos fl name qual scope) Q E ⟨h, g, dr, tk, os⟩ := by
  refine hide fun hideG hideH => ?_
  obtain ⟨o, vs, file, tf, flags, tg, inF, text, tt, e1, e2, e3, e4, e5, e6, e7, e8, e9, e10⟩ := id C
  refine hideH ?_; clear hideH hideG
  unfold classCode codeAt
  rw [hcode]
  refine mw_if_b (by rfl) ?_
  refine wpAny_bind ?_
  unfold fieldsOf
  refine mw_load e1 ?_
  rw [e3]
  refine wpAny_pure ?_
  rw [e5, e6, e7, e8, e9]
  refine wpAny_bind ?_
  refine mw_load hP (wpAny_pure ?_)
  dsimp only
  rw [hnf]
  dsimp only
  refine wpAny_bind (wpAny_newCodeX fun cc P' h' tk' k sc sP ic ta cr => ?_)
  have hP' : h'.get? P = some (tabObj ps) := k _ _ hP
  refine wpAny_bind (wpAny_updateFieldsOfTheText hP' rfl ?_)
  have hn : codeAmong pos (ps ++ #[rawInt pos.line, rawInt pos.col, .ref cc]).toList = some (.ref cc) := by
    rw [Array.toList_append]
    exact codeAmong_snoc _ ht hnf
  have hu : (h'.update P (Obj.mapFields fun vs => if (codeAmong pos vs.toList).isSome then vs else vs ++ #[rawInt pos.line, rawInt pos.col, .ref cc])).get? P = some (tabObj (ps ++ #[rawInt pos.line, rawInt pos.col, .ref cc])) := by
    rw [Heap.get?_update_self _ hP' rfl]
    show some (⟨_, _, Data.fields _, _⟩ : Obj) = _
    dsimp only
    rw [hnf]
    rfl
  refine wpAny_bind ?_
  refine mw_load hu (wpAny_pure ?_)
  rw [hn]
  have hPl := Heap.lt_size hP
  have sc' : h.objs.size ≤ cc := sc
  have sP' : h.objs.size ≤ P' := sP
  have sb := Heap.SameBut.update h' P (Obj.mapFields fun vs => if (codeAmong pos vs.toList).isSome then vs else vs ++ #[rawInt pos.line, rawInt pos.col, .ref cc])
  refine wpAny_pure (hq cc P' _ _ (fun b o hb e => (sb.2 b hb).trans (k _ _ e)) ?_ ?_ (Heap.get?_none_of_le sP) (Heap.get?_none_of_le sc) hu)
  · refine hide fun hideG hideH => ?_
    obtain ⟨o, vs, file, tf, flags, tg, inF, text, tt, f1, f2⟩ := CodeHd.of ic ta
    refine hideH ?_; clear hideH hideG
    exact ⟨o, vs, file, tf, flags, tg, inF, text, tt, (sb.2 cc (Nat.ne_of_gt (Nat.lt_of_lt_of_le hPl sc))).trans f1, f2⟩
  · exact (sb.2 P' (Nat.ne_of_gt (Nat.lt_of_lt_of_le hPl sP))).trans ta.2
theorem slot_type_ga : typeLookup (.type "type") "__getattribute__" = pure (some (.builtin "type.__getattribute__")) := by kernel_rfl
theorem cl_bind_tga : bindSpecial (.builtin "type.__getattribute__") (.type "type") = pure (.builtin "type.__getattribute__", [.type "type"]) := by kernel_rfl
theorem get_prep (hA : Small A) {Q : Option Value → Shared → Prop}
    (hret : ∀ a h' tk', Mem h h' [] [(a, { cls := .type "builtin_function_or_method", data := .fields #[.builtin "type.__prepare__", .type "type"] })] → Q (some (.ref a)) ⟨h', g, dr, tk', os⟩) :
    wpAny (model prog w) A (getAttr? (.type "type") "__prepare__") Q E ⟨h, g, dr, tk, os⟩ := by
  unfold getAttr?
  refine mw_text ?_
  unfold getAttrBy?
  refine wpAny_bind (wpAny_attempt ?_)
  unfold getAttrBy
  refine wpAny_holding ?_
  refine mw_closed (.type "type") rfl ?_
  refine mw_closed _ slot_type_ga ?_
  refine mw_if_b (by rfl) ?_
  unfold getAttrByItsOwn
  refine mw_closed none rfl ?_
  refine wpAny_bind (wpAny_attempt (wpAny_holding ?_))
  unfold callGetattribute
  refine mw_if_b rfl ?_
  unfold boundAndCalled
  refine mw_closed _ cl_bind_tga ?_
  show wpAny _ _ (call (.builtin "type.__getattribute__") [.type "type", _]) _ _ _
  refine wide_of hA (x_prep1 fun a h' tk' D => ?_)
  exact wpAny_pure (wpAny_pure (hret a h' tk' D))
theorem cl_bases : (do
    let mut bases : List Value := []
    let mut replaced := false
    pure (bases, replaced) : Sem (List Value × Bool)) = pure ([], false) := rfl
theorem entry_prep : entryFor table "type.__prepare__" = some Builtin.«type.__prepare__» := entryFor_of_fast (by kernel_rfl)
theorem prep2 {Q : Value → Shared → Prop} {t : Tok} {p b : Addr}
  (hp : h.get? p = some ⟨.type "builtin_function_or_method", none, .fields #[.builtin "type.__prepare__", .type "type"], #[]⟩)
  (hret : Q (.ref h.objs.size) ⟨h.push { cls := .type "dict", data := .dict #[] 0 }, g, dr, tk, os⟩) :
  wpAny (model prog w) A (call (.ref p) [.str "K" t, .ref b]) Q E ⟨h, g, dr, tk, os⟩ := by
  refine wpAny_call ?_
  refine codeAny_of_tree ?_
  show wpAny _ _ (callAny (.ref p) ⟨_, _⟩) _ _ _
  unfold callAny
  refine mw_load hp ?_
  refine mw_if_B (by rfl) ?_
  refine mw_if_B (by rfl) ?_
  refine mw_closed () (by kernel_rfl) ?_
  refine wpAny_pure ⟨Code.quiet_builtin _ (by decide +kernel), codeAny_builtin entry_prep ?_⟩
  unfold Builtin.«type.__prepare__»
  refine wpAny_bind ?_
  unfold newDict newObj
  dsimp only
  refine mw_if_f (by decide) ?_
  refine wpAny_bind (wpAny_alloc (wpAny_pure (wpAny_pure hret)))
def dictO (es : List DictEntry) (n : Nat) : Obj := { cls := .type "dict", data := .dict es.toArray n }
structure Rest where
  g : Array GenState
  dr : Drawn
  os : OsState
/-- where the class's body ends -/
inductive BodyDone (R : Heap → Addr → Addr → Addr → Addr → Addr → Addr → Prop) (P' n : Addr) (h5 : Heap) (r : Rest) (s' : Shared) : Prop
  | mk (h6 : Heap) (tk6 : Nat) (hs : Nat → Int) (ts : Nat → Tok) (lS fI fL fG fE fLe fGe : Addr) (e : Nat) (u : Tok) (m : Nat) (b1 : s' = ⟨h6, r.g, r.dr, tk6, r.os⟩) (b2 : But n P' h5 h6)
    (b3 : h6.get? n = some (dictO ((kEs hs ts lS fI fL fG fE fLe fGe 0).take 11) e)) (b4 : h6.get? lS = some { cls := .type "list", data := .seq #[.str "obj" u] m })
    (b5 : ∃ o, h6.get? fI = some o ∧ o.cls = .type "function") (b6 : ∃ o, h6.get? fL = some o ∧ o.cls = .type "function") (b7 : ∃ o, h6.get? fG = some o ∧ o.cls = .type "function") (b8 : ∃ o, h6.get? fE = some o ∧ o.cls = .type "function")
    (b9 : ∃ o, h6.get? fLe = some o ∧ o.cls = .type "function") (b10 : ∃ o, h6.get? fGe = some o ∧ o.cls = .type "function") (b11 : ∀ h', (∀ x o, x ≠ n → h6.get? x = some o → h'.get? x = some o) → R h' fI fL fG fE fLe fGe)
def cEnv (scope : Scope) (n cc fr : Addr) (clos : List (Str × Addr)) : Env := { scope, locals := n, globals := mainGlobals, cells := clos, qual := ("cmp_to_key.<locals>.K" : Str) ++ ("." : Str), code := .ref cc, frame := some fr, builtins := builtinsNs }
/-- the class statement's work, from the text's point of view: the body's run is a premise -/
theorem build_cls (hA : Small A.in1.in1.in1) (hdp : A.depth < recursionLimit) {body : List Stmt} {scope : Scope} {pos : Pos} {c P : Addr} {ps : Array Value} {mg : Str → Option Value} {clos : List (Str × Addr)} {Q : Value → Shared → Prop} {o2 : Obj}
    (h2' : h.get? cStatics = some o2) (hl2 : nsLook "thirdparty.any" o2 = pure none)
    (hs1 : (scope.names.lookup ("__class__" : Str) == some NameKind.cell) = false) (hs2 : (scope.names.lookup ("__classdict__" : Str) == some NameKind.cell) = false) (hkd : scope.kind = .class)
    (hcode : env.code = .ref c) (C : CodeHd h c P) (hP : h.get? P = some (tabObj ps)) (ht : TriplesOk ps.toList) (hnf : codeAmong pos ps.toList = none)
    (hgl : env.globals = mainGlobals) (hg : h.Ns mainGlobals mg) (hb : h.BuiltinsAt mg P) (hnl : h.NoLimit) (hcl : closureFor scope env = pure clos) {v0 : Value} (hv0 : mg "__name__" = some v0)
    (hkn : ∀ x ∈ (["__name__", "__qualname__", "__firstlineno__", "__static_attributes__"] : List Str), scope.names.lookup x = none) (hkm : scope.names.lookup ("__module__" : Str) = some .local)
    {R : Heap → Addr → Addr → Addr → Addr → Addr → Addr → Prop}
    (hbody : ∀ n cc P' fr h5 tk5 k0 k1 k2 t0 t1 t2 t3 t4, (∀ x o, x ≠ P → h.get? x = some o → h5.get? x = some o) → h5.get? P = some (tabObj (ps ++ #[rawInt pos.line, rawInt pos.col, .ref cc])) → CodeHd h5 cc P' → h5.get? P' = some (tabObj #[]) → h.get? P' = none → h.get? n = none →
      h5.get? n = some (dictO [⟨k0, .str "__module__" t0, v0⟩, ⟨k1, .str "__qualname__" t1, .str "cmp_to_key.<locals>.K" t3⟩, ⟨k2, .str "__firstlineno__" t2, .int 4 t4⟩] 3) →
      wpAny (model prog w) A (run (.body body (cEnv scope n cc fr clos))) (fun _ s' => BodyDone R P' n h5 ⟨g, dr, os⟩ s') E ⟨h5, g, dr, tk5, os⟩)
    (hret : ∀ C ns md hs ts lS fI fL fG fE fLe fGe tS b t x y u v q h' tk', R h' fI fL fG fE fLe fGe → (∀ x o, x ≠ P → h.get? x = some o → h'.get? x = some o) → (∃ ps', h'.get? P = some (tabObj ps')) → New h h' C (kClsO ns [.ref C, .type "object"] false ["obj"] (kSl b t (ts 21))) → New h h' ns (kNsO hs ts lS fI fL fG fE fLe fGe tS md x y u v) → New h h' md (kMdO C q) → Q (.ref C) ⟨h', g, dr, tk', os⟩) :
    wpAny (model prog w) A (buildClass "K" "cmp_to_key.<locals>.K" [.type "object"] [] body scope ["obj"] 4 env pos none) Q E ⟨h, g, dr, tk, os⟩ := by
  unfold buildClass
  refine wpAny_bind ?_
  unfold newTuple newObj
  dsimp only
  refine mw_if_f (by decide) ?_
  refine mw_alloc (Mem.start _) rfl fun b h1 D1 => wpAny_pure ?_
  refine mw_closed ([.type "object"], false) (by kernel_rfl) ?_
  refine mw_closed (.type "type") rfl ?_
  refine mw_closed true rfl ?_
  refine mw_if_B rfl ?_
  refine mw_closed (.type "type") (by kernel_rfl) ?_
  refine mw_text ?_
  refine mw_closed (.ref b) rfl ?_
  refine wpAny_holding ?_
  refine wpAny_bind (get_prep (Small.of_in1 (Small.of_in1 (Small.of_in1 hA))) fun p h2 tk2 D2 => ?_)
  have k1 : Keeps h h1 := mem_keeps D1
  have k2 : Keeps h1 h2 := mem_keeps D2
  have hb1 : h1.get? b = some _ := D1.at 0 _ _ rfl
  refine wpAny_bind ?_
  show wpAny _ _ (call (.ref p) [.str "K" _, .ref b]) _ _ _
  refine prep2 (D2.at 0 _ _ rfl) ?_
  generalize hn : h2.objs.size = n
  have D3 : Mem h2 (h2.push { cls := .type "dict", data := .dict #[] 0 }) [] [(n, _)] := hn ▸ (Mem.start h2).alloc rfl
  generalize h2.push { cls := .type "dict", data := .dict #[] 0 } = h3 at D3 ⊢
  have k3 : Keeps h2 h3 := mem_keeps D3
  have k03 : Keeps h h3 := fun x o e => k3 _ _ (k2 _ _ (k1 _ _ e))
  have hn3 : h3.get? n = some _ := D3.at 0 _ _ rfl
  have hn1 : n ≠ sysModules := fun q => by
    have e := Heap.lt_size (k2 _ _ (k1 _ _ h2'))
    rw [hn, q] at e
    exact absurd e (by decide)
  dsimp only
  refine mw_closed () (by unfold notTheModulesDict; rw [if_neg (by rw [beq_iff_eq]; exact hn1)]) ?_
  refine mw_special _ hn3 rfl (by kernel_rfl : typeLookup (.type "dict") "__getitem__" = pure (some (.builtin "dict.__getitem__"))) ?_
  refine mw_if_f (by decide) ?_
  refine wpAny_holding ?_
  rw [hs1]
  refine mw_if_f Bool.false_ne_true ?_
  refine mw_closed none rfl ?_
  rw [hs2]
  refine mw_if_f Bool.false_ne_true ?_
  refine mw_closed none rfl ?_
  refine wpAny_bind (class_code hcode (C.keeps k03) (k03 _ _ hP) ht hnf fun cc P' h4 tk4 x4 C4 hP4 nP nc hPP => ?_)
  have hP0 : ∀ x o, x ≠ P → h.get? x = some o → h4.get? x = some o := fun x o hx e => x4 x o hx (k03 x o e)
  refine hide fun hideG hideH => ?_
  obtain ⟨bm, ob, b1, b2, b3, b4, b5, b6, b7, b8⟩ := hb
  refine hideH ?_; clear hideH hideG
  have hgP : mainGlobals ≠ P := by
    refine hide fun hideG hideH => ?_
    obtain ⟨o, es', ep, e, hd, _⟩ := hg
    refine hideH ?_; clear hideH hideG
    exact ne_get e hP fun q => by rw [q] at hd; cases hd
  have hg4 : h4.Ns mainGlobals mg := (hg.keeps k03).extBut x4 hgP
  rw [hgl]
  refine wpAny_bind (wpAny_builtinsFor hg4 b1 b2 (hP0 _ _ b4 b5) b6 b7 b8 ?_)
  refine wpAny_bind ?_
  unfold newBodyFrame
  refine wpAny_bind (wpAny_nsGet hg4 ?_)
  refine wpAny_alloc ?_
  rw [hcl]
  refine wpAny_bind (wpAny_pure ?_)
  refine wpAny_holding ?_
  refine wpAny_bind (wpAny_enterFrame ?_ hdp ?_)
  · have hcP : cStatics ≠ P := by
      refine hide fun hideG hideH => ?_
      obtain ⟨mc, hm, _⟩ := id hnl
      obtain ⟨o, es', ep, e, hd, _⟩ := hm
      refine hideH ?_; clear hideH hideG
      exact ne_get e hP fun q => by rw [q] at hd; cases hd
    exact ((hnl.keeps k03).extBut x4 hcP).push _
  refine wpAny_bind (wpAny_onRaise ?_)
  generalize hfr : h4.objs.size = fr
  have hnP : n ≠ P := ne_get hn3 (k03 _ _ hP) fun q => by cases q
  have hn4 : h4.get? n = some _ := x4 _ _ hnP hn3
  generalize hh5 : h4.push _ = h5
  have k45 : Keeps h4 h5 := fun x o e => hh5 ▸ Heap.get?_push_of_some _ e
  have hn5 : h5.get? n = some _ := k45 _ _ hn4
  have hg5 : h5.Ns mainGlobals mg := hg4.keeps k45
  clear hh5
  show wpAny _ _ (loadName (cEnv scope n cc fr clos) "__name__" >>= _) _ _ _
  have hki : ∀ x, (cEnv scope n cc fr clos).kindOf x = scope.names.lookup x := fun x => rfl
  refine wpAny_bind ?_
  unfold loadName
  have hbk : (cEnv scope n cc fr clos).blockKind = .class := by unfold Env.blockKind; show (if scope.kind.isAnnotationScope = true then _ else scope.kind) = _; rw [hkd]; rfl
  have hsk : (cEnv scope n cc fr clos).scope.kind = .class := hkd
  rw [hbk, hki, hkn "__name__" (by decide), hsk]
  refine mw_if_b (by rfl) ?_
  dsimp only
  refine mw_if_b (by rfl) ?_
  refine wpAny_bind ?_
  unfold localGet
  refine mw_load hn5 ?_
  refine mw_if_B (by rfl) ?_
  refine mw_last ?_
  refine mw_nsGet hn5 (r := none) (by rfl) (wpAny_pure ?_)
  dsimp only
  refine loadGlobal_global hg5 hv0 ?_
  refine wpAny_bind (store_cls (env := cEnv scope n cc fr clos) hkd (.inl ((hki _).trans hkm)) hn5 (by rfl) fun q0 t0 h6 tk6 sb6 hn6 => ?_)
  refine mw_text ?_
  refine wpAny_bind (store_cls (env := cEnv scope n cc fr clos) hkd (.inr ⟨(hki _).trans (hkn _ (by decide)), by decide⟩) (es := #[⟨q0, .str "__module__" t0, v0⟩]) (n := 1) hn6 (by rfl) fun q1 t1 h7 tk7 sb7 hn7 => ?_)
  refine wpAny_bind (wpAny_mkInt ?_)
  refine wpAny_bind (store_cls (env := cEnv scope n cc fr clos) hkd (.inr ⟨(hki _).trans (hkn _ (by decide)), by decide⟩) (es := #[⟨q0, .str "__module__" t0, v0⟩, ⟨q1, .str "__qualname__" t1, .str "cmp_to_key.<locals>.K" tk6⟩]) (n := 2) hn7 (by rfl) fun q2 t2 h8 tk8 sb8 hn8 => ?_)
  refine wpAny_pure ?_
  dsimp only
  have kb : ∀ x o, x ≠ n → h5.get? x = some o → h8.get? x = some o := fun x o hx e => (sb8.2 x hx).trans ((sb7.2 x hx).trans ((sb6.2 x hx).trans e))
  have k38 : ∀ x o, x ≠ P → x ≠ n → h3.get? x = some o → h8.get? x = some o := fun x o hx hy e => kb x o hy (k45 x o (x4 x o hx e))
  have hnew : ∀ x o, h.get? x = some o → x ≠ n := fun x o e => Nat.ne_of_lt (hn ▸ Heap.lt_size (k2 _ _ (k1 _ _ e)))
  have hnn : h.get? n = none := by
    cases q : h.get? n with
    | none => rfl
    | some o => exact absurd rfl (hnew n o q)
  have hnP' : P' ≠ n := fun q => by rw [q, hn3] at nP; cases nP
  have hnc' : cc ≠ n := fun q => by rw [q, hn3] at nc; cases nc
  have none0 : ∀ x, h3.get? x = none → h.get? x = none := fun x e => by
    cases q : h.get? x with
    | none => rfl
    | some o => rw [k03 _ _ q] at e; cases e
  have C8 : CodeHd h8 cc P' := by
    refine hide fun hideG hideH => ?_
    obtain ⟨o, vs, file, tf, flags, tg, inF, text, tt, e1, er⟩ := C4
    refine hideH ?_; clear hideH hideG
    exact ⟨o, vs, file, tf, flags, tg, inF, text, tt, kb _ _ hnc' (k45 _ _ e1), er⟩
  refine wpAny_bind (wpAny_mono (hbody n cc P' fr h8 tk8 q0 q1 q2 t0 t1 t2 _ _ (fun x o hx e => k38 x o hx (hnew x o e) (k03 _ _ e)) (kb _ _ hnP.symm (k45 _ _ hPP)) C8 (kb _ _ hnP' (k45 _ _ hP4)) (none0 _ nP) hnn hn8) (fun _ s9 hs9 => ?_) fun _ _ z => z)
  refine hide fun hideG hideH => ?_
  obtain ⟨h9, tk9, hs, ts, lS, fI, fL, fG, fE, fLe, fGe, e9, u, m, rfl, bt, hn9, hlS, ⟨oI, eI, cI⟩, ⟨oL, eL, cL⟩, ⟨oG, eG, cG⟩, ⟨oE, eE, cE⟩, ⟨oLe, eLe, cLe⟩, ⟨oGe, eGe, cGe⟩, hR⟩ := hs9
  refine hideH ?_; clear hideH hideG
  refine wpAny_bind (wpAny_onRaise ?_)
  refine wpAny_bind (wpAny_mkStrs fun us => ?_)
  refine wpAny_bind (wpAny_newTextTuple ?_)
  have hn10 := Heap.get?_push_of_some { cls := .type "tuple", data := .seq us.toArray } hn9
  refine wpAny_bind (store_cls (env := cEnv scope n cc fr clos) hkd (.inr ⟨(hki _).trans (hkn _ (by decide)), by decide⟩) (h := h9.push _) hn10 (by rfl) fun q11 t11 h11 tk11 sb11 hn11 => ?_)
  refine wpAny_pure ?_
  dsimp only
  have k911 : ∀ x o, x ≠ n → h9.get? x = some o → h11.get? x = some o := fun x o hx e => (sb11.2 x hx).trans (Heap.get?_push_of_some _ e)
  have hb11 : h11.get? b = some { cls := .type "tuple", data := .seq #[.type "object"] 0 } := by
    have hbn : b ≠ n := ne_get (k3 _ _ (k2 _ _ hb1)) hn3 fun q => absurd (Value.type.inj (congrArg Obj.cls q)) (by decide)
    have hbP : b ≠ P := ne_get (k3 _ _ (k2 _ _ hb1)) (k03 _ _ hP) fun q => by cases q
    have hbP' : b ≠ P' := fun q => by
      rw [← q, k3 _ _ (k2 _ _ hb1)] at nP
      cases nP
    exact k911 _ _ hbn (bt _ _ hbn hbP' (k38 _ _ hbP hbn (k3 _ _ (k2 _ _ hb1))))
  have fnn : ∀ f o, h9.get? f = some o → o.cls = .type "function" → f ≠ n := fun f o e c => ne_get e hn9 fun q => by rw [q] at c; exact absurd (Value.type.inj c) (by decide)
  have hlSn : lS ≠ n := ne_get hlS hn9 fun q => absurd (Value.type.inj (congrArg Obj.cls q)) (by decide)
  have old : ∀ x o, x ≠ P → h.get? x = some o → h11.get? x = some o := fun x o hx e => by
    have hxP' : x ≠ P' := fun q => by rw [q, none0 _ nP] at e; cases e
    exact k911 _ _ (hnew _ _ e) (bt _ _ (hnew _ _ e) hxP' (k38 _ _ hx (hnew _ _ e) (k03 _ _ e)))
  have hcP : cStatics ≠ P := by
    refine hide fun hideG hideH => ?_
    obtain ⟨mc, hm, _⟩ := id hnl
    obtain ⟨o, es', ep, e, hd, _⟩ := hm
    refine hideH ?_; clear hideH hideG
    exact ne_get e hP fun q => by rw [q] at hd; cases hd
  have hszn : h9.objs.size ≠ n := Nat.ne_of_gt (Heap.lt_size hn9)
  have hT : h11.get? h9.objs.size = some { cls := .type "tuple", data := .seq us.toArray } := (sb11.2 _ hszn).trans (Heap.get?_push_size _ rfl)
  have hPP' : P ≠ P' := fun q => by
    rw [← q, k03 _ _ hP] at nP
    cases nP
  have hP11 : h11.get? P = some (tabObj (ps ++ #[rawInt pos.line, rawInt pos.col, .ref cc])) := k911 _ _ hnP.symm (bt _ _ hnP.symm hPP' (kb _ _ hnP.symm (k45 _ _ hPP)))
  refine wpAny_bind ?_
  show wpAny _ _ (call (.type "type") [.str "K" _, .ref b, .ref n]) _ _ _
  refine mk_class hA (old _ _ hcP h2') hl2 (k911 _ _ (fnn _ _ eI cI) eI) cI (k911 _ _ (fnn _ _ eL cL) eL) cL (k911 _ _ (fnn _ _ eG cG) eG) cG (k911 _ _ (fnn _ _ eE cE) eE) cE (k911 _ _ (fnn _ _ eLe cLe) eLe) cLe (k911 _ _ (fnn _ _ eGe cGe) eGe) cGe hT rfl hb11
    (hs := fun i => if i = 11 then q11 else hs i) (ts := fun i => if i = 11 then t11 else ts i) (e := e9 + 1) hn11 hn1 (k911 _ _ hlSn hlS) fun C ns md x y u v h12 tk12 k12 NC NN NM => ?_
  have fresh : ∀ x, h11.get? x = none → h.get? x = none := fun x e => by
    cases q : h.get? x with
    | none => rfl
    | some o =>
      by_cases hx : x = P
      · rw [hx, hP11] at e; cases e
      · rw [old x o hx q] at e; cases e
  refine wpAny_pure (hret C ns md (fun i => if i = 11 then q11 else hs i) (fun i => if i = 11 then t11 else ts i) lS fI fL fG fE fLe fGe _ b _ x y u v _ h12 tk12 (hR h12 fun x o hx e => k12 _ _ (k911 x o hx e)) (fun x o hx e => k12 _ _ (old x o hx e)) ⟨_, k12 _ _ hP11⟩ ⟨NC.there, fresh _ NC.fresh⟩ ⟨NN.there, fresh _ NN.fresh⟩ ⟨NM.there, fresh _ NM.fresh⟩)
end
end Mine
end
section
open PySem PySem.W PySem.W.X PySem.Calls PyProof.Rows
set_option maxRecDepth 100000
set_option maxHeartbeats 4000000
namespace Mine
theorem fr_but {g h h' : Heap} {L P : Addr} {m : Str → Option Value} (F : Fr g L h m) (old : ∀ b o, b ≠ P → h.get? b = some o → h'.get? b = some o) (hL : L ≠ P) (hP : g.get? P = none) : Fr g L h' m := by
  refine ⟨?_, fun b o e => old _ _ (fun q => by rw [q, hP] at e; cases e) (F.keep _ _ e), F.above⟩
  refine hide fun hideG hideH => ?_
  obtain ⟨o, es, ep, e, r⟩ := F.ns
  refine hideH ?_; clear hideH hideG
  exact ⟨o, es, ep, old _ _ hL e, r⟩
/-- a def of the class's body, as the text has it -/
noncomputable def kFn (p : Params) (i : Nat) : Option (Arguments × List Stmt × Scope) :=
  match (hd.heap_1 p).lookup 21 with
  | some ⟨_, _, .func fd, _⟩ => match fd.body with
    | .stmts (.ClassDef _ _ _ body .. :: _) => match body[i]? with
      | some (.FunctionDef _ a b _ _ _ sc ..) => some (a, b, sc)
      | _ => none
    | _ => none
  | _ => none
inductive MethAt (p : Params) (h : Heap) (i : Nat) (f : Addr) (name : Str) (clos : List (Str × Addr)) : Prop
  | mk (a : Arguments) (b : List Stmt) (sc : Scope) (doc pm : Value) (c' : Addr) (ctv : Value) (e1 : kFn p i = some (a, b, sc)) (e2 : h.get? f = some (fnMade name (("cmp_to_key.<locals>.K." : Str) ++ name) a b sc clos doc pm c' ctv)) (e3 : h.CodeRec (.ref c') (("cmp_to_key.<locals>.K." : Str) ++ name))
theorem MethAt.mono {p : Params} {h h' : Heap} {i : Nat} {f : Addr} {name : Str} {clos : List (Str × Addr)} (x : MethAt p h i f name clos) (k : ∀ x o, h.get? x = some o → (∀ es n, o.data ≠ .dict es n) → h'.get? x = some o) : MethAt p h' i f name clos := by
  refine hide fun hideG hideH => ?_
  obtain ⟨a, b, sc, doc, pm, c', ctv, e1, e2, c2, o2, vs, t2, e3, g2, d2, r2⟩ := x
  refine hideH ?_; clear hideH hideG
  cases e3
  exact ⟨a, b, sc, doc, pm, _, ctv, e1, k _ _ e2 (fun _ _ q => by cases q), _, o2, vs, t2, rfl, k _ _ g2 (fun _ _ q => by rw [d2] at q; cases q), d2, r2⟩
inductive MethW (n P : Addr) (p : Params) (h : Heap) (i : Nat) (f : Addr) (name : Str) (clos : List (Str × Addr)) : Prop
  | mk (n1 : f ≠ n) (n2 : f ≠ P) (a : Arguments) (b : List Stmt) (sc : Scope) (doc pm : Value) (c' : Addr) (ctv : Value) (n3 : c' ≠ n) (n4 : c' ≠ P) (e1 : kFn p i = some (a, b, sc)) (e2 : h.get? f = some (fnMade name (("cmp_to_key.<locals>.K." : Str) ++ name) a b sc clos doc pm c' ctv)) (e3 : h.CodeRec (.ref c') (("cmp_to_key.<locals>.K." : Str) ++ name))
theorem codeRec_but {n : Addr} {h h' : Heap} {c : Addr} {q : Str} (x : h.CodeRec (.ref c) q) (k : ∀ o, h.get? c = some o → h'.get? c = some o) : h'.CodeRec (.ref c) q := by
  refine hide fun hideG hideH => ?_
  obtain ⟨c2, o2, vs, t2, e2, g2, r2⟩ := x
  refine hideH ?_; clear hideH hideG
  cases e2
  exact ⟨_, o2, vs, t2, rfl, k _ g2, r2⟩
theorem MethW.but {n P : Addr} {p : Params} {h h' : Heap} {i : Nat} {f : Addr} {name : Str} {clos : List (Str × Addr)} (x : MethW n P p h i f name clos) (b : But n P h h') : MethW n P p h' i f name clos := by
  refine hide fun hideG hideH => ?_
  obtain ⟨e1, e2, a, b', sc, doc, pm, c', ctv, e3, e4, e5, e6, e7⟩ := x
  refine hideH ?_; clear hideH hideG
  exact ⟨e1, e2, a, b', sc, doc, pm, c', ctv, e3, e4, e5, b _ _ e1 e2 e6, codeRec_but (n := n) e7 fun o e => b _ _ e3 e4 e⟩
theorem MethW.meth {n P : Addr} {p : Params} {h h' : Heap} {i : Nat} {f : Addr} {name : Str} {clos : List (Str × Addr)} (x : MethW n P p h i f name clos) (b : ∀ x o, x ≠ n → h.get? x = some o → h'.get? x = some o) : MethAt p h' i f name clos := by
  refine hide fun hideG hideH => ?_
  obtain ⟨e1, e2, a, b', sc, doc, pm, c', ctv, e3, e4, e5, e6, e7⟩ := x
  refine hideH ?_; clear hideH hideG
  exact ⟨a, b', sc, doc, pm, c', ctv, e5, b _ _ e1 e6, codeRec_but (n := n) e7 fun o e => b _ _ e3 e⟩
theorem MethW.fn {n P : Addr} {p : Params} {h : Heap} {i : Nat} {f : Addr} {name : Str} {clos : List (Str × Addr)} (x : MethW n P p h i f name clos) : ∃ o, h.get? f = some o ∧ o.cls = .type "function" := by
  refine hide fun hideG hideH => ?_
  obtain ⟨e1, e2, a, b', sc, doc, pm, c', ctv, e3, e4, e5, e6, e7⟩ := x
  refine hideH ?_; clear hideH hideG
  exact ⟨_, e6, rfl⟩
structure Inv (h5 : Heap) (mg : Str → Option Value) (n cc P : Addr) (ps : Array Value) (es : List DictEntry) (k : Nat) (h : Heap) : Prop where
  g : h.Ns mainGlobals mg
  C : CodeHd h cc P
  tab : h.get? P = some (tabObj ps)
  b : h.BuiltinsAt mg P
  ns : h.get? n = some (dictO es k)
  keep : But n P h5 h
  gn : mainGlobals ≠ n
  tri : TriplesOk ps.toList
theorem Inv.next {h5 h h' : Heap} {mg : Str → Option Value} {n cc P : Addr} {ps ps' : Array Value} {es es' : List DictEntry} {k k' : Nat} (I : Inv h5 mg n cc P ps es k h) (b : But n P h h') (ht : h'.get? P = some (tabObj ps')) (hn : h'.get? n = some (dictO es' k')) (tr : TriplesOk ps'.toList) : Inv h5 mg n cc P ps' es' k' h' := by
  refine hide fun hideG hideH => ?_
  obtain ⟨g, C, tab, bb, ns, keep, hgn, _⟩ := I
  refine hideH ?_; clear hideH hideG
  have gn : ∀ x o, h.get? x = some o → (∀ es n, o.data ≠ .dict es n) → x ≠ n := fun x o e hd => ne_get e ns fun q => hd es.toArray k (congrArg Obj.data q)
  refine ⟨?_, ?_, ht, ?_, hn, keep.trans b, hgn, tr⟩
  · refine hide fun hideG hideH => ?_
    obtain ⟨o, es, ep, e, hd, r⟩ := g
    refine hideH ?_; clear hideH hideG
    refine ⟨o, es, ep, b _ _ ?_ ?_ e, hd, r⟩
    · exact hgn
    · exact ne_get e tab fun q => by rw [q] at hd; cases hd
  · refine hide fun hideG hideH => ?_
    obtain ⟨o, vs, file, tf, flags, tg, inF, text, tt, e1, e2, e3, er⟩ := C
    refine hideH ?_; clear hideH hideG
    exact ⟨o, vs, file, tf, flags, tg, inF, text, tt, b _ _ (gn _ _ e1 fun _ _ q => by rw [e3] at q; cases q) er.2.2.2.2.2.2 e1, e2, e3, er⟩
  · refine hide fun hideG hideH => ?_
    obtain ⟨bm, ob, b1, b2, b3, b4, b5, b6, b7, b8⟩ := bb
    refine hideH ?_; clear hideH hideG
    exact ⟨bm, ob, b1, b2, b3, b4, b _ _ (gn _ _ b5 fun _ _ q => by rw [b8] at q; cases q) b4 b5, b6, b7, b8⟩
section
variable {prog : Program} {w : World} {A : Around} {E : Value → Shared → Prop} {h h5 : Heap} {g : Array GenState} {dr : Drawn} {tk : Nat} {os : OsState} {scope₀ : Scope} {n cc fr P : Addr} {clos₀ : List (Str × Addr)} {mg : Str → Option Value} {ps : Array Value} {es : List DictEntry} {k : Nat}
theorem def_inv {name : Str} {args : Arguments} {body : List Stmt} {scope : Scope} {pos : Pos} {clos : List (Str × Addr)} {Q : Flow → Shared → Prop} (i : Nat) (es' : Int → Tok → Addr → List DictEntry)
    (I : Inv h5 mg n cc P ps es k h)
    (hfn : kFn w.params i = some (args, body, scope))
    (hdf : defaultsOf args (cEnv scope₀ n cc fr clos₀) = ([], [])) (han : annTrees args none (cEnv scope₀ n cc fr clos₀) = []) (hcl : closureFor scope (cEnv scope₀ n cc fr clos₀) = pure clos)
    (hkd : scope₀.kind = .class) (hx : (cEnv scope₀ n cc fr clos₀).kindOf name = some .local) (hqn : qualnameIn (cEnv scope₀ n cc fr clos₀) name name = ("cmp_to_key.<locals>.K." : Str) ++ name)
    (hnf : codeAmong pos ps.toList = none) (hk : aRefKeyMayBeTheName name es.toArray = false)
    (hes : ∀ hash t f, Obj.putName name hash (.str name t) (.ref f) (dictO es k) = dictO (es' hash t f) (k + 1))
    (hq : ∀ f c' hash t h' tk', But n P h h' → Inv h5 mg n cc P (ps ++ #[rawInt pos.line, rawInt pos.col, .ref c']) (es' hash t f) (k + 1) h' → MethW n P w.params h' i f name clos → Q .next ⟨h', g, dr, tk', os⟩) :
    wpAny (model prog w) A (exec (.FunctionDef name args body [] none [] scope none name pos) (cEnv scope₀ n cc fr clos₀)) Q E ⟨h, g, dr, tk, os⟩ := by
  refine def_cls (env := cEnv scope₀ n cc fr clos₀) hdf han hcl rfl rfl hkd hx I.g I.C I.tab I.tri hnf I.b I.ns hk fun f c' ctv doc hash t h' tk' bt nf nc hf hrec hP' hn' => ?_
  rw [hqn] at hf hrec
  refine hq f c' hash t h' tk' bt (I.next bt hP' ?_ (by rw [Array.toList_append]; exact TriplesOk_snoc _ _ _ _ I.tri)) ⟨fun q => ?_, fun q => ?_, args, body, scope, doc, _, c', ctv, fun q => ?_, fun q => ?_, hfn, hf, hrec⟩
  · exact hn'.trans (congrArg some (hes hash t f))
  · rw [q, I.ns] at nf; cases nf
  · rw [q, I.tab] at nf; cases nf
  · rw [q, I.ns] at nc; cases nc
  · rw [q, I.tab] at nc; cases nc
theorem list1 {env : Env} {x : Str} {k : Nat} {p1 p2 : Pos} {Q : Value → Shared → Prop} (hq : ∀ l t h' tk', h'.get? l = some { cls := .type "list", data := .seq #[.str x t] 0 } → Keeps h h' → Q (.ref l) ⟨h', g, dr, tk', os⟩) :
    wpAny (model prog w) A (eval (.List [.Constant (.str x) k p1] p2) env) Q E ⟨h, g, dr, tk, os⟩ := by
  refine wpAny_List_spliced ?_
  show wpAny _ _ (spliced [(false, _)]) _ _ _
  unfold spliced
  refine wpAny_bind (mw_if_f (by decide) (wpAny_Constant_str ?_))
  dsimp only
  refine mw_if_f (by decide) ?_
  refine wpAny_bind (wpAny_pure ?_)
  refine wpAny_bind (wpAny_holding (wpAny_pure (wpAny_pure ⟨(by show 1 ≤ _; decide), ?_⟩)))
  exact hq _ _ _ _ (Heap.get?_push_size _ rfl) fun x o e => Heap.get?_push_of_some _ e
/-- an assignment in the class's body -/
theorem asg_inv {x : Str} {value : Expr} {p1 p2 : Pos} {Q : Flow → Shared → Prop} (es' : Value → Int → Tok → List DictEntry) {k' : Nat} {V : Value → Heap → Prop}
    (I : Inv h5 mg n cc P ps es k h)
    (hev : ∀ {T : Value → Shared → Prop}, (∀ v h' tk', V v h' → Keeps h h' → T v ⟨h', g, dr, tk', os⟩) → wpAny (model prog w) A (eval value (cEnv scope₀ n cc fr clos₀)) T E ⟨h, g, dr, tk, os⟩)
    (hsw : swapsWith value (some (.Name x p1)) p2.line (cEnv scope₀ n cc fr clos₀) = pure false)
    (hkd : scope₀.kind = .class) (hx : (cEnv scope₀ n cc fr clos₀).kindOf x = some .local) (hk : aRefKeyMayBeTheName x es.toArray = false)
    (hes : ∀ hash t v, Obj.putName x hash (.str x t) v (dictO es k) = dictO (es' v hash t) k')
    (hq : ∀ v hash t h1 h' tk', Keeps h h1 → V v h1 → Heap.SameBut n h1 h' → But n P h h' → Inv h5 mg n cc P ps (es' v hash t) k' h' → Q .next ⟨h', g, dr, tk', os⟩) :
    wpAny (model prog w) A (exec (.Assign [.Name x p1] value p2) (cEnv scope₀ n cc fr clos₀)) Q E ⟨h, g, dr, tk, os⟩ := by
  refine wpAny_Assign_Name (hev fun v h1 tk1 hv kp => ?_) hsw
  refine store_cls (env := cEnv scope₀ n cc fr clos₀) hkd (.inl hx) (kp _ _ I.ns) hk fun hash t h2 tk2 sb hn2 => ?_
  have bt : But n P h h2 := fun x o hx _ e => (sb.2 x hx).trans (kp _ _ e)
  refine hq v hash t h1 h2 tk2 kp hv sb bt (I.next bt ((sb.2 P fun q => by
    have e1 := I.tab
    rw [q] at e1
    exact absurd (e1.symm.trans I.ns) (by unfold dictO; intro z; cases z)).trans (kp _ _ I.tab)) ?_ I.tri)
  exact hn2.trans (congrArg some (hes hash t v))
end
section
variable {w : World} {prg : Program} {loose : List Str} {mean : ExcName → Option Value} {mg mb : Str → Option Value}
    {dp un : Nat} {gd : Option (List Code)} {cn : Str} {cs : Scope} {a : Addr} {ccd : Value} {cl : List (Str × Addr)} {outer : List Env} {A₀ : Around} {base h₀ : Heap} {L : Addr} {m : Str → Option Value} {s : Shared} {Q E : Value → Shared → Prop}
theorem cmp_tells {f : Addr}
    (B : Below A₀ base outer h₀) (F : Fr h₀ L s.heap m) (X : (hd.heap_1 w.params).In h₀) (T : Top prg loose mean mg mb h₀) (hk : cs.kind = .function)
    (hdp : dp + 20 < 900) (hun : un + 40 < 600)
    (N : News h₀ L s.heap [(16, tabObj #[])]) (CH : CodeHd h₀ 20 16)
    (hret : ∀ C ns md hs ts lS fI fL fG fE fLe fGe tS b t x y u v q cell oc hE tkE, (∀ b o, b ≠ 16 → s.heap.get? b = some o → hE.get? b = some o) → (∃ ps', hE.get? 16 = some (tabObj ps')) → New s.heap hE C (kClsO ns [.ref C, .type "object"] false ["obj"] (kSl b t (ts 21))) → New s.heap hE ns (kNsO hs ts lS fI fL fG fE fLe fGe tS md x y u v) → New s.heap hE md (kMdO C q) →
      MethAt w.params hE 2 fI "__init__" [] → MethAt w.params hE 3 fL "__lt__" [("mycmp", cell)] → MethAt w.params hE 4 fG "__gt__" [("mycmp", cell)] → MethAt w.params hE 5 fE "__eq__" [("mycmp", cell)] → New s.heap hE cell oc → oc.data = .cell (some (.ref f)) → Q (.ref C) { s with heap := hE, toks := tkE }) :
    wpAny (model PySem.Challenge.rw_mq0178_01.row.prog w) (ktrTop dp un gd cn cs L a ccd cl outer) (call (.ref 21) [.ref f]) Q E s := by
  w_on
  refine wpAny_call ?_
  k_dflt (refine' code_cellsG ?k1 ?k2 ?k3 ?k4 ?k5 ?kA ?kF ?kK ?k6 ?k7 ?k8 ?k9 ?kB ?kn ?_ ?c2 ?c3 ?c4; (case kA => exact rfl); (case kF => exact rfl); (case kK => assumption); (case k1 => k_asm); (case k2 => k_asm); (case k3 => k_asm); (case k4 => k_asm); (case k5 => k_asm); (case k6 => k_is); (case k7 => k_is); (case k8 => (show dp < 1000; lia)); (case k9 => exact BindsTo.of_eq rfl); (case kB => exact rfl); (case kn => decide); (case c2 => exact rfl); (case c3 => exact rfl); (case c4 => exact rfl); k_whole; intro g' L' h' tk' cells' FG' F' N' Y' B' X' T' H' hc')
  refine hide fun hideG hideH => ?_
  obtain ⟨hS, gS, dS, tS, oS⟩ := s
  refine hideH ?_; clear hideH hideG
  have hg : h'.Ns mainGlobals mg := T'.g.keeps F'.keep
  have hb : h'.Ns builtinsNs mb := T'.b.keeps F'.keep
  refine wpAny_execs_cons ?_
  rw [arm_exec_ClassDef]
  refine mw_closed [] rfl ?_
  refine mw_at ?_
  refine wpAny_bind ?_
  unfold buildClassGuard
  refine wpAny_bind (wpAny_nsGet hb ?_)
  rw [T'.builtins "__build_class__" (by decide)]
  refine wpAny_of_eq (a := ()) (by kernel_rfl) ?_
  refine wpAny_bind (wpAny_holding ?_)
  refine wpAny_bind ?_
  unfold evalArgs
  show wpAny _ _ (spliced [(false, eval (.Name "object" _) _)] >>= _) _ _ _
  refine wpAny_bind ?_
  unfold spliced
  refine wpAny_bind (Name_function_global rfl rfl (loadGlobal_builtin hg (mg_none_of X' T'.g (by kernel_rfl)) hb ((T'.builtins _ (by decide)).trans (by kernel_rfl : bootBuiltins "object" = some (.type "object"))) ?_) (by decide))
  refine mw_closed _ rfl ?_
  refine wpAny_bind (wpAny_holding (wpAny_pure (wpAny_pure ?_)))
  refine mw_closed _ rfl ?_
  refine wpAny_holding ?_
  refine mw_if_B rfl ?_
  refine mw_closed [] rfl ?_
  refine wpAny_bind (wpAny_pure (wpAny_pure ?_))
  refine mw_at ?_
  refine wpAny_holding ?_
  have hPn := N' (16, tabObj #[]) (by simp)
  have hst : ∃ o2, h'.get? cStatics = some o2 ∧ nsLook "thirdparty.any" o2 = pure none := by
    have e : nsIn (hd.heap_1 w.params) cStatics "thirdparty.any" = some none := by kernel_rfl
    refine ⟨_, F'.keep _ _ (X' cStatics _ (by with_unfolding_all rfl)), by kernel_rfl⟩
  refine hide fun hideG hideH => ?_
  obtain ⟨o2, h2', hl2⟩ := hst
  refine hideH ?_; clear hideH hideG
  have hbt : h'.BuiltinsAt mg 16 := by
    refine hide fun hideG hideH => ?_
    obtain ⟨bm, ob, b1, b2, b3, b4, b5, b6⟩ := T'.bmain
    refine hideH ?_; clear hideH hideG
    have b3' := F'.keep _ _ b3
    refine ⟨bm, ob, b1, b2, ?_, ?_, b3', b4, b5, b6⟩
    · refine hide fun hideG hideH => ?_
      obtain ⟨o, es, ep, e, hd, _⟩ := hg
      refine hideH ?_; clear hideH hideG
      exact ne_get b3' e fun q => by rw [q, hd] at b6; cases b6
    · exact ne_get b3' hPn.1 fun q => by rw [q] at b4; cases b4
  have hk0 : ∀ b o, h₀.get? b = some o → h'.get? b = some o := fun b o e => F'.keep _ _ (FG'.keep _ _ e)
  have hv0 := mg_of (n := "__name__") X' T'.g (by with_unfolding_all rfl)
  refine build_cls ⟨rfl, by show dp + 1 ≤ 900; lia, by show un + 3 + 1 + 1 + 1 ≤ 600; lia⟩ (by show dp + 1 < 1000; lia) h2' hl2 rfl rfl rfl rfl (CH.keeps hk0) hPn.1 trivial rfl rfl hg hbt (T'.nolimit.keeps F'.keep) (clos := [("mycmp", L' + 1)]) (by kernel_rfl) hv0 (by decide) rfl
    (R := fun h fI fL fG fE fLe fGe => MethAt w.params h 2 fI "__init__" [] ∧ MethAt w.params h 3 fL "__lt__" [("mycmp", L' + 1)] ∧ MethAt w.params h 4 fG "__gt__" [("mycmp", L' + 1)] ∧ MethAt w.params h 5 fE "__eq__" [("mycmp", L' + 1)]) ?_ ?_
  · intro n cc P' fr h5 tk5 k0 k1 k2 t0 t1 t2 t3 t4 kh hP5 C5 hPt nP' nn hn5
    refine wpAny_run (codeAny_body rfl rfl ?_)
    have hmg : mainGlobals ≠ 16 := by decide
    have hnew : ∀ x o, h'.get? x = some o → x ≠ n := fun x o e q => by rw [q, nn] at e; cases e
    have hnewP : ∀ x o, h'.get? x = some o → x ≠ P' := fun x o e q => by rw [q, nP'] at e; cases e
    have hbt5 : h5.BuiltinsAt mg P' := by
      refine hide fun hideG hideH => ?_
      obtain ⟨bm, ob, b1, b2, b3, b4, b5, b6, b7, b8⟩ := hbt
      refine hideH ?_; clear hideH hideG
      exact ⟨bm, ob, b1, b2, b3, hnewP _ _ b5, kh _ _ b4 b5, b6, b7, b8⟩
    have hgn : mainGlobals ≠ n := by
      refine hide fun hideG hideH => ?_
      obtain ⟨o, es, ep, e, _⟩ := hg
      refine hideH ?_; clear hideH hideG
      exact hnew _ _ e
    have I5 : Inv h5 mg n cc P' #[] _ _ h5 := ⟨hg.extBut (fun x o hx e => kh x o hx e) hmg, C5, hPt, hbt5, hn5, But.refl _ _ _, hgn, trivial⟩
    refine wpAny_execs_cons (asg_inv (fun v hash t => [⟨k0, .str "__module__" t0, v⟩, ⟨k1, .str "__qualname__" t1, .str "cmp_to_key.<locals>.K" t3⟩, ⟨k2, .str "__firstlineno__" t2, .int 4 t4⟩]) (k' := 3) (V := fun v _ => ∃ t, v = .str "cpy313.functools" t) I5 (fun hT => wpAny_Constant_str (hT _ _ _ ⟨_, rfl⟩ (Keeps.refl _))) rfl rfl rfl rfl (fun _ _ _ => rfl) fun v _ _ h1 h6 tk6 _ hv sb bt I6 => ?_)
    refine hide fun hideG hideH => ?_
    obtain ⟨t20, rfl⟩ := hv
    refine hideH ?_; clear hideH hideG
    clear sb
    refine wpAny_execs_cons (asg_inv (fun v hash t => [⟨k0, .str "__module__" t0, .str "cpy313.functools" t20⟩, ⟨k1, .str "__qualname__" t1, .str "cmp_to_key.<locals>.K" t3⟩, ⟨k2, .str "__firstlineno__" t2, .int 4 t4⟩, ⟨hash, .str "__slots__" t, v⟩]) (k' := 4) (V := fun v h => ∃ l t, v = .ref l ∧ h.get? l = some { cls := .type "list", data := .seq #[.str "obj" t] 0 }) I6
      (fun hT => list1 fun l t h'' tk'' N kp => hT _ _ _ ⟨l, t, rfl, N⟩ kp) rfl rfl rfl rfl (fun _ _ _ => rfl) fun v k3 t5 h1 h7 tk7 kp hv sb bt I7 => ?_)
    refine hide fun hideG hideH => ?_
    obtain ⟨lS, t6, rfl, hl1⟩ := hv
    refine hideH ?_; clear hideH hideG
    have hln : lS ≠ n := ne_get hl1 (kp _ _ I6.ns) fun q => absurd (Value.type.inj (congrArg Obj.cls q)) (by decide)
    have hl7 := (sb.2 lS hln).trans hl1
    have hlP : lS ≠ P' := ne_get hl7 I7.tab fun q => by cases q
    clear sb bt
    refine wpAny_execs_cons (def_inv 2 (fun hash t f => [⟨k0, .str "__module__" t0, .str "cpy313.functools" t20⟩, ⟨k1, .str "__qualname__" t1, .str "cmp_to_key.<locals>.K" t3⟩, ⟨k2, .str "__firstlineno__" t2, .int 4 t4⟩, ⟨k3, .str "__slots__" t5, .ref lS⟩, ⟨hash, .str "__init__" t, .ref f⟩]) I7 (by kernel_rfl) rfl rfl (clos := []) (by kernel_rfl) rfl rfl (by kernel_rfl) (by kernel_rfl) (by kernel_rfl) (fun _ _ _ => by kernel_rfl) fun f0 c0 k4 t7 h8 tk8 bt I8 M0 => ?_)
    replace hl7 := bt _ _ hln hlP hl7
    refine wpAny_execs_cons (def_inv 3 (fun hash t f => [⟨k0, .str "__module__" t0, .str "cpy313.functools" t20⟩, ⟨k1, .str "__qualname__" t1, .str "cmp_to_key.<locals>.K" t3⟩, ⟨k2, .str "__firstlineno__" t2, .int 4 t4⟩, ⟨k3, .str "__slots__" t5, .ref lS⟩, ⟨k4, .str "__init__" t7, .ref f0⟩, ⟨hash, .str "__lt__" t, .ref f⟩]) I8 (by kernel_rfl) rfl rfl (clos := [("mycmp", L' + 1)]) (by kernel_rfl) rfl rfl (by kernel_rfl) (by kernel_rfl) (by kernel_rfl) (fun _ _ _ => by kernel_rfl) fun f1 c1 k5 t8 h9 tk9 bt I9 M1 => ?_)
    replace M0 := M0.but bt
    replace hl7 := bt _ _ hln hlP hl7
    refine wpAny_execs_cons (def_inv 4 (fun hash t f => [⟨k0, .str "__module__" t0, .str "cpy313.functools" t20⟩, ⟨k1, .str "__qualname__" t1, .str "cmp_to_key.<locals>.K" t3⟩, ⟨k2, .str "__firstlineno__" t2, .int 4 t4⟩, ⟨k3, .str "__slots__" t5, .ref lS⟩, ⟨k4, .str "__init__" t7, .ref f0⟩, ⟨k5, .str "__lt__" t8, .ref f1⟩, ⟨hash, .str "__gt__" t, .ref f⟩]) I9 (by kernel_rfl) rfl rfl (clos := [("mycmp", L' + 1)]) (by kernel_rfl) rfl rfl (by kernel_rfl) (by kernel_rfl) (by kernel_rfl) (fun _ _ _ => by kernel_rfl) fun f2 c2 k6 t9 h10 tk10 bt I10 M2 => ?_)
    replace M0 := M0.but bt
    replace M1 := M1.but bt
    replace hl7 := bt _ _ hln hlP hl7
    refine wpAny_execs_cons (def_inv 5 (fun hash t f => [⟨k0, .str "__module__" t0, .str "cpy313.functools" t20⟩, ⟨k1, .str "__qualname__" t1, .str "cmp_to_key.<locals>.K" t3⟩, ⟨k2, .str "__firstlineno__" t2, .int 4 t4⟩, ⟨k3, .str "__slots__" t5, .ref lS⟩, ⟨k4, .str "__init__" t7, .ref f0⟩, ⟨k5, .str "__lt__" t8, .ref f1⟩, ⟨k6, .str "__gt__" t9, .ref f2⟩, ⟨hash, .str "__eq__" t, .ref f⟩]) I10 (by kernel_rfl) rfl rfl (clos := [("mycmp", L' + 1)]) (by kernel_rfl) rfl rfl (by kernel_rfl) (by kernel_rfl) (by kernel_rfl) (fun _ _ _ => by kernel_rfl) fun f3 c3 k7 t10 h11 tk11 bt I11 M3 => ?_)
    replace M0 := M0.but bt
    replace M1 := M1.but bt
    replace M2 := M2.but bt
    replace hl7 := bt _ _ hln hlP hl7
    refine wpAny_execs_cons (def_inv 6 (fun hash t f => [⟨k0, .str "__module__" t0, .str "cpy313.functools" t20⟩, ⟨k1, .str "__qualname__" t1, .str "cmp_to_key.<locals>.K" t3⟩, ⟨k2, .str "__firstlineno__" t2, .int 4 t4⟩, ⟨k3, .str "__slots__" t5, .ref lS⟩, ⟨k4, .str "__init__" t7, .ref f0⟩, ⟨k5, .str "__lt__" t8, .ref f1⟩, ⟨k6, .str "__gt__" t9, .ref f2⟩, ⟨k7, .str "__eq__" t10, .ref f3⟩, ⟨hash, .str "__le__" t, .ref f⟩]) I11 (by kernel_rfl) rfl rfl (clos := [("mycmp", L' + 1)]) (by kernel_rfl) rfl rfl (by kernel_rfl) (by kernel_rfl) (by kernel_rfl) (fun _ _ _ => by kernel_rfl) fun f4 c4 k8 t11 h12 tk12 bt I12 M4 => ?_)
    replace M0 := M0.but bt
    replace M1 := M1.but bt
    replace M2 := M2.but bt
    replace M3 := M3.but bt
    replace hl7 := bt _ _ hln hlP hl7
    refine wpAny_execs_cons (def_inv 7 (fun hash t f => [⟨k0, .str "__module__" t0, .str "cpy313.functools" t20⟩, ⟨k1, .str "__qualname__" t1, .str "cmp_to_key.<locals>.K" t3⟩, ⟨k2, .str "__firstlineno__" t2, .int 4 t4⟩, ⟨k3, .str "__slots__" t5, .ref lS⟩, ⟨k4, .str "__init__" t7, .ref f0⟩, ⟨k5, .str "__lt__" t8, .ref f1⟩, ⟨k6, .str "__gt__" t9, .ref f2⟩, ⟨k7, .str "__eq__" t10, .ref f3⟩, ⟨k8, .str "__le__" t11, .ref f4⟩, ⟨hash, .str "__ge__" t, .ref f⟩]) I12 (by kernel_rfl) rfl rfl (clos := [("mycmp", L' + 1)]) (by kernel_rfl) rfl rfl (by kernel_rfl) (by kernel_rfl) (by kernel_rfl) (fun _ _ _ => by kernel_rfl) fun f5 c5 k9 t12 h13 tk13 bt I13 M5 => ?_)
    replace M0 := M0.but bt
    replace M1 := M1.but bt
    replace M2 := M2.but bt
    replace M3 := M3.but bt
    replace M4 := M4.but bt
    replace hl7 := bt _ _ hln hlP hl7
    refine wpAny_execs_cons (asg_inv (fun v hash t => [⟨k0, .str "__module__" t0, .str "cpy313.functools" t20⟩, ⟨k1, .str "__qualname__" t1, .str "cmp_to_key.<locals>.K" t3⟩, ⟨k2, .str "__firstlineno__" t2, .int 4 t4⟩, ⟨k3, .str "__slots__" t5, .ref lS⟩, ⟨k4, .str "__init__" t7, .ref f0⟩, ⟨k5, .str "__lt__" t8, .ref f1⟩, ⟨k6, .str "__gt__" t9, .ref f2⟩, ⟨k7, .str "__eq__" t10, .ref f3⟩, ⟨k8, .str "__le__" t11, .ref f4⟩, ⟨k9, .str "__ge__" t12, .ref f5⟩, ⟨hash, .str "__hash__" t, v⟩]) (k' := 11) (V := fun v _ => v = .none) I13 (fun hT => wpAny_Constant_none (hT _ _ _ rfl (Keeps.refl _))) rfl rfl (by kernel_rfl) (by kernel_rfl) (fun _ _ _ => by kernel_rfl) fun v k10 t13 h1 h14 tk14 _ hv sb bt I14 => ?_)
    subst hv
    replace M0 := M0.but bt
    replace M1 := M1.but bt
    replace M2 := M2.but bt
    replace M3 := M3.but bt
    replace M4 := M4.but bt
    replace M5 := M5.but bt
    replace hl7 := bt _ _ hln hlP hl7
    refine wpAny_execs_nil ?_
    have hn14 : h14.get? n = some (dictO ((kEs (fun i => [k0, k1, k2, k3, k4, k5, k6, k7, k8, k9, k10].getD i 0) (fun i => if i = 20 then t20 else if i = 21 then t3 else if i = 22 then t4 else [t0, t1, t2, t5, t7, t8, t9, t10, t11, t12, t13].getD i 0) lS f0 f1 f2 f3 f4 f5 0).take 11) 11) := I14.ns.trans (congrArg some (by kernel_rfl))
    exact ⟨h14, tk14, _, _, lS, f0, f1, f2, f3, f4, f5, 11, t6, 0, rfl, I14.keep, hn14, hl7, M0.fn, M1.fn, M2.fn, M3.fn, M4.fn, M5.fn, fun hE hk => ⟨M0.meth hk, M1.meth hk, M2.meth hk, M3.meth hk⟩⟩
  · intro C ns md hs ts lS fI fL fG fE fLe fGe tS b t x y u v q hE tkE hR old hP NC NN NM
    refine mw_closed (.ref C) (by kernel_rfl) ?_
    refine mw_at ?_
    refine hide fun hideG hideH => ?_
    obtain ⟨oc, he, hoc⟩ := CellsAre.one Y'
    refine hideH ?_; clear hideH hideG
    subst he
    have hcell := N' (L' + 1, oc) (by simp)
    have FE := fr_but F' old hPn.2.1.symm hPn.2.2
    have NE : News g' L' hE [] := fun _ hp => nomatch hp
    refine wpAny_bind (wpAny_bindName ?_)
    refine wpAny_storeName_local rfl FE.ns (fun hF hn hs => wpAny_pure ?_) rfl
    have FF := FE.set hn hs
    dsimp only
    refine wpAny_execs_cons (wpAny_Return_some (wpAny_Name (wpAny_loadName_local rfl rfl FF.ns rfl ?_)))
    refine hide fun hideG hideH => ?_
    obtain ⟨oL, esL, epL, eL', hdL, _⟩ := F'.ns
    refine hideH ?_; clear hideH hideG
    have hLE : hE.get? L' = some oL := old _ _ hPn.2.1.symm eL'
    have hEF : ∀ x o, hE.get? x = some o → (∀ es n, o.data ≠ .dict es n) → hF.get? x = some o := fun x o e hd => (hs.2 x (ne_get e hLE fun q => hd _ _ (q ▸ hdL))).trans e
    have hSF : ∀ b o, b ≠ 16 → hS.get? b = some o → hF.get? b = some o := fun b o hb e => FF.keep _ _ (H'.rest _ _ e fun p hp => by
      cases List.mem_singleton.mp hp
      exact hb.symm)
    have hS' : ∀ b o, hS.get? b = some o → ∃ o', h'.get? b = some o' := fun b o e => by
      by_cases hb : b = 16
      · exact ⟨_, hb ▸ hPn.1⟩
      · exact ⟨o, F'.keep _ _ (H'.rest _ _ e fun p hp => by
          cases List.mem_singleton.mp hp
          exact fun q => hb q.symm)⟩
    have hnn : ∀ x o, New h' hE x o → New hS hF x o := fun x o N => ⟨(hs.2 x (ne_new eL' N.fresh).symm).trans N.there, by
      cases q : hS.get? x with
      | none => rfl
      | some o' =>
        refine hide fun hideG hideH => ?_
        obtain ⟨o2, e2⟩ := hS' _ _ q
        refine hideH ?_; clear hideH hideG
        rw [N.fresh] at e2; cases e2⟩
    have h16 : ∃ ps', hF.get? 16 = some (tabObj ps') := by
      refine hide fun hideG hideH => ?_
      obtain ⟨ps', e⟩ := hP
      refine hideH ?_; clear hideH hideG
      exact ⟨ps', hEF _ _ e fun _ _ q => by cases q⟩
    have hcE : hF.get? (L' + 1) = some oc := by
      have hne : (L' + 1) ≠ 16 := ne_get hcell.1 hPn.1 fun q => by have q' : oc = _ := q; subst q'; cases hoc
      exact (hs.2 _ (Nat.succ_ne_self _)).trans (old _ _ hne hcell.1)
    have NF : News g' L' hF [] := fun _ hp => nomatch hp
    exact ⟨L', _, [], FF, NF, fun FH NH => hret C ns md _ ts lS fI fL fG fE fLe fGe tS b t x y u v q (L' + 1) oc hF _ hSF h16 (hnn _ _ NC) (hnn _ _ NN) (hnn _ _ NM) (hR.1.mono hEF) (hR.2.1.mono hEF) (hR.2.2.1.mono hEF) (hR.2.2.2.mono hEF) ⟨hcE, hc' (L' + 1, oc) (.head _)⟩ hoc⟩
end
end Mine
end
section
open PySem PySem.W PySem.W.X PySem.Calls PyProof.Rows
set_option maxRecDepth 100000
set_option maxHeartbeats 4000000
namespace Mine
/-- what the class's own fragment holds -/
structure KIn (K : Frag) (C ns md fI fL fG fE : Addr) (sl : Array (Option Value)) : Prop where
  cl : K.lookup C = some (kClsO ns [.ref C, .type "object"] false ["obj"] sl)
  new : (sl.toList[4]?).join = some (.builtin "object.__new__")
  nsp : ∃ hs ts lS fLe fGe tS x y u v, K.lookup ns = some (kNsO hs ts lS fI fL fG fE fLe fGe tS md x y u v)
  mem : ∃ q, K.lookup md = some (kMdO C q)
  tI : (K.lookup fI).map (·.cls) = some (.type "function")
  tL : (K.lookup fL).map (·.cls) = some (.type "function")
  tG : (K.lookup fG).map (·.cls) = some (.type "function")
  tE : (K.lookup fE).map (·.cls) = some (.type "function")
section
variable {K : Frag} {C ns md fI fL fG fE : Addr} {sl : Array (Option Value)}
theorem KIn.find (I : KIn K C ns md fI fL fG fE sl) {name : Str} {v : Value} (e : nsIn K ns name = some (some v)) : findIn K (.ref C) name = some (some v) := by
  have o : ownIn K name (.ref C) = some (some v) := by
    unfold ownIn
    dsimp only
    rw [I.cl]
    exact e
  unfold findIn
  dsimp only
  rw [I.cl]
  show alongIn K name [.ref C, .type "object"] = _
  unfold alongIn
  rw [o]
theorem KIn.findO (I : KIn K C ns md fI fL fG fE sl) {name : Str} {r : Option Value} (e : nsIn K ns name = some none) (h : alongIn K name [.type "object"] = some r) : findIn K (.ref C) name = some r := by
  have o : ownIn K name (.ref C) = some none := by
    unfold ownIn
    dsimp only
    rw [I.cl]
    exact e
  unfold findIn
  dsimp only
  rw [I.cl]
  show alongIn K name [.ref C, .type "object"] = _
  unfold alongIn
  rw [o]
  exact h
theorem KIn.init (I : KIn K C ns md fI fL fG fE sl) : findIn K (.ref C) "__init__" = some (some (.ref fI)) := I.find (by
  refine hide fun hideG hideH => ?_
  obtain ⟨hs, ts, lS, fLe, fGe, tS, x, y, u, v, e⟩ := I.nsp
  refine hideH ?_; clear hideH hideG
  unfold nsIn
  rw [e]
  kernel_rfl)
theorem KIn.lt (I : KIn K C ns md fI fL fG fE sl) : findIn K (.ref C) "__lt__" = some (some (.ref fL)) := I.find (by
  refine hide fun hideG hideH => ?_
  obtain ⟨hs, ts, lS, fLe, fGe, tS, x, y, u, v, e⟩ := I.nsp
  refine hideH ?_; clear hideH hideG
  unfold nsIn
  rw [e]
  kernel_rfl)
theorem KIn.gt (I : KIn K C ns md fI fL fG fE sl) : findIn K (.ref C) "__gt__" = some (some (.ref fG)) := I.find (by
  refine hide fun hideG hideH => ?_
  obtain ⟨hs, ts, lS, fLe, fGe, tS, x, y, u, v, e⟩ := I.nsp
  refine hideH ?_; clear hideH hideG
  unfold nsIn
  rw [e]
  kernel_rfl)
theorem KIn.eq (I : KIn K C ns md fI fL fG fE sl) : findIn K (.ref C) "__eq__" = some (some (.ref fE)) := I.find (by
  refine hide fun hideG hideH => ?_
  obtain ⟨hs, ts, lS, fLe, fGe, tS, x, y, u, v, e⟩ := I.nsp
  refine hideH ?_; clear hideH hideG
  unfold nsIn
  rw [e]
  kernel_rfl)
theorem KIn.obj (I : KIn K C ns md fI fL fG fE sl) : findIn K (.ref C) "obj" = some (some (.ref md)) := I.find (by
  refine hide fun hideG hideH => ?_
  obtain ⟨hs, ts, lS, fLe, fGe, tS, x, y, u, v, e⟩ := I.nsp
  refine hideH ?_; clear hideH hideG
  unfold nsIn
  rw [e]
  kernel_rfl)
theorem KIn.none' (I : KIn K C ns md fI fL fG fE sl) {name : Str} (hn : ∀ hs ts lS fI fL fG fE fLe fGe tS md x y u v, nsIn [(0, kNsO hs ts lS fI fL fG fE fLe fGe tS md x y u v)] 0 name = some none) : nsIn K ns name = some none := by
  refine hide fun hideG hideH => ?_
  obtain ⟨hs, ts, lS, fLe, fGe, tS, x, y, u, v, e⟩ := I.nsp
  refine hideH ?_; clear hideH hideG
  have := hn hs ts lS fI fL fG fE fLe fGe tS md x y u v
  unfold nsIn at this ⊢
  rw [e]
  exact this
theorem KIn.ga (I : KIn K C ns md fI fL fG fE sl) : findIn K (.ref C) "__getattribute__" = some (some (.builtin "object.__getattribute__")) := I.findO (I.none' fun _ _ _ _ _ _ _ _ _ _ _ _ _ _ _ => by kernel_rfl) (by kernel_rfl)
theorem KIn.gattr (I : KIn K C ns md fI fL fG fE sl) : findIn K (.ref C) "__getattr__" = some none := I.findO (I.none' fun _ _ _ _ _ _ _ _ _ _ _ _ _ _ _ => by kernel_rfl) (by kernel_rfl)
theorem KIn.sa (I : KIn K C ns md fI fL fG fE sl) : findIn K (.ref C) "__setattr__" = some (some (.builtin "object.__setattr__")) := I.findO (I.none' fun _ _ _ _ _ _ _ _ _ _ _ _ _ _ _ => by kernel_rfl) (by kernel_rfl)
theorem KIn.typ (I : KIn K C ns md fI fL fG fE sl) : typeIn K (.ref C) = some (.type "type") := by unfold typeIn; dsimp only; rw [I.cl]; rfl
theorem KIn.call (I : KIn K C ns md fI fL fG fE sl) : specialIn K (.ref C) "__call__" = some (some (.builtin "type.__call__")) := by
  unfold specialIn
  rw [I.typ]
  kernel_rfl
theorem KIn.inst (I : KIn K C ns md fI fL fG fE sl) : instIn K (.ref C) (.type "type") = some true := by
  unfold instIn
  rw [I.typ]
  kernel_rfl
theorem has_ref (C : Addr) (l : List Value) : (Value.ref C :: l).contains (.ref C) = true := by
  rw [List.contains_cons, beq_self_eq_true, Bool.true_or]
theorem KIn.makes (I : KIn K C ns md fI fL fG fE sl) : makesIn K C = true := by
  unfold makesIn
  rw [I.cl]
  dsimp only [kClsO]
  rw [I.new, I.call, I.inst, has_ref]
  kernel_rfl
theorem KIn.plain (I : KIn K C ns md fI fL fG fE sl) (x : Str) : plainGet K C x = true := by unfold plainGet; rw [I.ga, I.gattr]; kernel_rfl
theorem KIn.cls (I : KIn K C ns md fI fL fG fE sl) : clsIn K C = some { name := "K", bases := [.type "object"], mro := [.ref C, .type "object"], ns := ns, qualname := "cmp_to_key.<locals>.K", hasDict := false, slotNames := ["obj"] } := by unfold clsIn; rw [I.cl]; rfl
theorem KIn.slot (I : KIn K C ns md fI fL fG fE sl) : slotIn K md C = some 0 := by
  refine hide fun hideG hideH => ?_
  obtain ⟨q, e⟩ := I.mem
  refine hideH ?_; clear hideH hideG
  unfold slotIn recIn
  rw [I.cls, e]
  dsimp only [kMdO]
  rw [if_pos (by rfl)]
  dsimp only
  rw [if_pos]
  · rfl
  · rw [has_ref]; rfl
theorem KIn.over (I : KIn K C ns md fI fL fG fE sl) : plainOver K C = true := by
  unfold plainOver
  rw [I.cls]
  rfl
theorem KIn.mdT (I : KIn K C ns md fI fL fG fE sl) : typeIn K (.ref md) = some (.type "member_descriptor") := by
  refine hide fun hideG hideH => ?_
  obtain ⟨q, e⟩ := I.mem
  refine hideH ?_; clear hideH hideG
  unfold typeIn
  dsimp only
  rw [e]; rfl
theorem KIn.takes (I : KIn K C ns md fI fL fG fE sl) : takesIn K (.ref md) = some true := by
  have e : specialIn K (.ref md) "__set__" = some (some (.builtin "member_descriptor.__set__")) := by
    unfold specialIn
    rw [I.mdT]
    kernel_rfl
  unfold takesIn
  rw [e]
theorem KIn.taker (I : KIn K C ns md fI fL fG fE sl) : takerIn K C "obj" = some (some (.ref md)) := by
  unfold takerIn
  rw [I.obj]
  show (takesIn K (.ref md)).map _ = _
  rw [I.takes]
  rfl
end
end Mine
end
section
open PySem PySem.W PySem.W.X PySem.Calls PyProof.Rows
set_option maxRecDepth 100000
set_option maxHeartbeats 4000000
namespace Mine
/-- a key: an object of the class with its one slot filled -/
abbrev keyO (C dx : Addr) (v : Value) : Obj := { cls := .ref C, dict := some dx, data := .plain, slots := #[some v] }
section
variable {prog : Program} {w : World} {A A₀ : Around} {s : Shared} {L : Addr} {h₀ base : Heap} {m mg mb : Str → Option Value} {news : List (Addr × Obj)} {p : Program} {loose : List Str} {mean : ExcName → Option Value}
/-- a call of a function of the heap (a def within a def): the caller's objects stand in the base, but for those of the ledger named -/
theorem callG {env : Env} {outer : List Env} {R : Result → Shared → Prop} {name qual : Str} {params : Arguments} {body : List Stmt} {scope : Scope} {clos : List (Str × Addr)} {dV kV doc pm cdv ct : Value} {an : Option Addr} {fo : Obj} {f : Addr} {args : Args} {binds : List (Str × Value)}
    (B : Below A₀ base outer h₀) (F : Fr h₀ L s.heap m) (N : News h₀ L s.heap news) (T : Top p loose mean mg mb h₀) (hA : A.frames = some (env :: outer)) (hf : env.frame = some L) (hke : env.scope.kind = .function)
    (ho : s.heap.get? f = some fo) (hd : fo.data = .func (fnX name qual params body scope clos dV kV doc pm an cdv ct)) (hcd : s.heap.CodeRec cdv qual) (hroom : A.depth < recursionLimit)
    (hbind : BindsTo s (fnX name qual params body scope clos dV kV doc pm an cdv ct) args binds) (hloc : ∀ y ∈ binds, scope.names.lookup y.1 = some .local)
    (h : ∀ g L' h₁, Fr h₀ L g m → Fr g L' h₁ (fun y => binds.reverse.lookup y) → News g L' h₁ news → Below A base (env :: outer) g → (∀ b o, h₀.get? b = some o → g.get? b = some o) → Top p loose mean mg mb g → Hid s.heap news g →
      wpAny (model prog w) (A.deeper (envX qual scope L' f cdv clos)) (execs body (envX qual scope L' f cdv clos))
        (fun fl s' => LeaveK h₀ L m g R (match fl with | .ret v => v | _ => .none) s')
        (fun e s' => wpAny (model prog w) (A.deeper (envX qual scope L' f cdv clos)) (leaving (envX qual scope L' f cdv clos) e) (fun _ s'' => R (.error e) s'') (fun e' s'' => R (.error e') s'') s')
        { s with heap := h₁, toks := s.toks + binds.length })
    (hco : scope.isCoroutine = false) (hgen : scope.isGenerator = false) (hk : scope.kind = .function)
    (hcell : ∀ x ∈ scope.names, x.2 ≠ .cell) : codeAny (model prog w) A (.call (.ref f) args) R s := by
  refine hide fun hideG hideH => ?_
  obtain ⟨FG, BG, st, lv⟩ := groundX (R := R) B F N hA hf hke
  refine hideH ?_; clear hideH hideG
  refine codeAny_call_def (fd := fnX name qual params body scope clos dV kV doc pm an cdv ct) (body := body) (binds := binds) hroom ho hd (T.nolimit.keeps F.keep) hcd rfl hbind hcell hloc (fun h₁ hns hk₁ => ?_) hco hgen hk
  have H : Hid s.heap news (hideAll s.heap (news.map (·.1))) := ⟨fun b o e hb => hideAll_get _ e fun q => by
    refine hide fun hideG hideH => ?_
    obtain ⟨p, hp, e⟩ := List.mem_map.mp q
    refine hideH ?_; clear hideH hideG
    exact hb p hp e, fun p hp => (N p hp).1⟩
  exact wpAny_mono (h _ s.heap.objs.size h₁ FG ⟨hns, fun b o e => hk₁ b o (of_hideAll _ e), Nat.le_of_eq (hideAll_size _ _)⟩
    (fun p hp => ⟨hk₁ _ _ (N p hp).1, Nat.ne_of_lt (Heap.lt_size (N p hp).1), hideAll_none _ (List.mem_map_of_mem hp)⟩) BG st (T.keeps st) H) (fun fl s' hl => lv _ _ hl) fun _ _ y => y
end
section
variable {w : World} {prg : Program} {loose : List Str} {mean : ExcName → Option Value} {mg mb : Str → Option Value}
    {dp un : Nat} {gd : Option (List Code)} {cn : Str} {cs : Scope} {a : Addr} {ccd : Value} {cl : List (Str × Addr)} {outer : List Env} {A₀ : Around} {base h₀ : Heap} {L : Addr} {m : Str → Option Value} {s : Shared} {Q E : Value → Shared → Prop}
    {K : Frag} {C ns md fI fL fG fE : Addr} {sl : Array (Option Value)}
theorem loc_all {binds : List (Str × Value)} {scope : Scope} (e : (binds.all fun y => scope.names.lookup y.1 == some .local) = true) : ∀ y ∈ binds, scope.names.lookup y.1 = some .local := fun y hy => eq_of_beq (List.all_eq_true.mp e y hy)
theorem key_new {v : Value}
    (B : Below A₀ base outer h₀) (F : Fr h₀ L s.heap m) (T : Top prg loose mean mg mb h₀) (hk : cs.kind = .function) (hdp : dp + 20 < 900) (hun : un + 40 < 600)
    (KI : KIn K C ns md fI fL fG fE sl) (X : K.In s.heap) (MI : MethAt w.params s.heap 2 fI "__init__" [])
    (hret : ∀ x dx h' tk', Keeps s.heap h' → New s.heap h' x (keyO C dx v) → New s.heap h' dx emptyDict → dx < x → Q (.ref x) { s with heap := h', toks := tk' }) :
    wpAny (model PySem.Challenge.rw_mq0178_01.row.prog w) (ktrTop dp un gd cn cs L a ccd cl outer) (call (.ref C) [v]) Q E s := by
  refine hide fun hideG hideH => ?_
  obtain ⟨hh, gg, dr, tk, os⟩ := s
  obtain ⟨pa, pb, sc, doc, pm, c', ctv, e, ho, hrec⟩ := MI
  refine hideH ?_; clear hideH hideG
  have e' : kFn w.params 2 = some (_, _, _) := rfl
  rw [e'] at e
  cases e
  refine wpAny_call ?_
  have hXh : K.In hh := X
  refine make_core (makes_of hXh KI.makes) (looks_findIn hXh KI.init) (fun self => bind_fn hXh self KI.tI) (.inl rfl) ?_
  have N0 : News h₀ L hh [] := fun _ hp => nomatch hp
  have F' := (F.push emptyDict).push (instObj C hh.objs.size)
  have N' := (N0.push F emptyDict).push (F.push _) (instObj C hh.objs.size)
  have k' : Keeps hh ((hh.push emptyDict).push (instObj C hh.objs.size)) := fun b o e => Heap.get?_push_of_some _ (Heap.get?_push_of_some _ e)
  rw [Heap.size_push] at N'
  have hfr1 : hh.get? hh.objs.size = none := Heap.get?_none_of_le (Nat.le_refl _)
  have hfr2 : hh.get? (hh.objs.size + 1) = none := Heap.get?_none_of_le (Nat.le_succ _)
  have hlt : hh.objs.size < hh.objs.size + 1 := Nat.lt_succ_self _
  generalize hh.objs.size + 1 = x at N' F' hlt k' hfr2 ⊢
  generalize hh.objs.size = dx at N' F' hlt k' hfr1 ⊢
  generalize (hh.push emptyDict).push (instObj C dx) = h' at N' F' k' ⊢
  refine callG B F' N' T rfl rfl hk (k' _ _ ho) rfl (codeRec_but (n := 0) hrec fun o e => k' _ _ e) (by show dp + 1 < 1000; lia) (BindsTo.of_eq rfl) (loc_all rfl) (fun g' L' h₁ FG F₁ N₁ BG st TG HG => ?_) rfl rfl rfl (by decide)
  have hX₁ : K.In h₁ := (hXh.keeps k').keeps (HG.keeps F₁ N₁ fun p hp => hp)
  have hx := N₁ (x, instObj C dx) (.head _)
  have hdx := N₁ (dx, emptyDict) (.tail _ (.head _))
  have IA : InstAt h₁ x (instObj C dx) C (some emptyDict) := ⟨hx.1, rfl, rfl, hdx.1⟩
  refine wpAny_execs_cons (plainObj_wpAny_Assign_Attribute (wpAny_Name (wpAny_loadName_local rfl rfl F₁.ns rfl (wpAny_Name (wpAny_loadName_local rfl rfl F₁.ns rfl ?_)))))
  refine set_plain hX₁ IA KI.sa ?_
  refine osa_descr KF.slot_mset hX₁ IA KI.over KI.taker KI.mdT ?_
  refine slot_set (pre := []) F₁ N₁ hX₁ IA KI.slot (by decide) (fun _ hp => nomatch hp) (fun p hp => ?_) (ox' := keyO C dx v) rfl rfl fun h₂ F₂ N₂ => ?_
  · cases List.mem_singleton.mp hp
    exact Nat.ne_of_lt hlt
  refine wpAny_execs_nil ?_
  refine ⟨L', _, _, F₂, N₂, fun FH NH => ⟨rfl, ?_⟩⟩
  refine hret x dx h₂ _ (fun b o e => ?_) ⟨(N₂ _ (.head _)).1, hfr2⟩ ⟨(N₂ _ (.tail _ (.head _))).1, hfr1⟩ hlt
  refine F₂.keep _ _ (HG.rest b o (k' _ _ e) fun p hp q => ?_)
  rcases List.mem_cons.mp hp with rfl | hp
  · rw [← q, hfr2] at e; cases e
  · cases List.mem_singleton.mp hp
    rw [← q, hfr1] at e; cases e
end
end Mine
end
section
open PySem PySem.W PySem.W.X PySem.Calls PyProof.Rows
set_option maxRecDepth 100000
set_option maxHeartbeats 4000000
namespace Mine
/-- the contract of a comparison function: two places in, a number out, nothing old touched -/
def AskTells (prog : Program) (w : World) (prg : Program) (loose : List Str) (mean : ExcName → Option Value) (mg mb : Str → Option Value) (f : Addr) (hb : Heap) (ok : Int → Prop) (ask : Int → Int → Int) : Prop :=
  ∀ (dp un : Nat) (gd : Option (List Code)) (cn : Str) (cs : Scope) (a : Addr) (ccd : Value) (cl : List (Str × Addr)) (outer : List Env) (A₀ : Around) (base h₀ : Heap) (L : Addr) (m : Str → Option Value) (s : Shared) (Q E : Value → Shared → Prop) (i j : Int) (ti tj : Tok),
    Below A₀ base outer h₀ → Fr h₀ L s.heap m → Keeps hb h₀ → Top prg loose mean mg mb h₀ → cs.kind = .function → dp + 10 < 900 → un + 20 < 600 → ok i → ok j →
    (∀ t h' tk', Keeps s.heap h' → Q (.int (ask i j) t) { s with heap := h', toks := tk' }) →
    wpAny (model prog w) (ktrTop dp un gd cn cs L a ccd cl outer) (call (.ref f) [.int i ti, .int j tj]) Q E s
section
variable {w : World} {prg : Program} {loose : List Str} {mean : ExcName → Option Value} {mg mb : Str → Option Value}
    {dp un : Nat} {gd : Option (List Code)} {cn : Str} {cs : Scope} {a : Addr} {ccd : Value} {cl : List (Str × Addr)} {outer : List Env} {A₀ : Around} {base h₀ : Heap} {L : Addr} {m : Str → Option Value} {s : Shared} {Q E : Value → Shared → Prop}
    {K : Frag} {C ns md fI fL fG fE : Addr} {sl : Array (Option Value)}
theorem attr_obj {env : Env} {A : Around} {x : Addr} {v : Value} {b : Str} {p1 p2 : Pos} {dx : Addr} {h₁ : Heap} {m' : Str → Option Value} {tk : Nat} (hv : handedIn v = true)
    (KI : KIn K C ns md fI fL fG fE sl) (X : K.In h₁) (hx : h₁.get? x = some (keyO C dx v)) (hdx : h₁.get? dx = some emptyDict)
    (hk : env.scope.kind = .function) (hl : env.kindOf b = some .local) (hn : h₁.Ns env.locals m') (hb : m' b = some (.ref x)) (hdb : (b == ("__debug__" : Str)) = false)
    (h : ∀ tk', Q v ⟨h₁, s.gens, s.drawn, tk', s.os⟩) :
    wpAny (model PySem.Challenge.rw_mq0178_01.row.prog w) A (eval (.Attribute (.Name b p1) "obj" p2) env) Q E ⟨h₁, s.gens, s.drawn, tk, s.os⟩ := by
  have I : InstAt h₁ x (keyO C dx v) C (some emptyDict) := ⟨hx, rfl, rfl, hdx⟩
  have hsp : specialIn K (.ref md) "__get__" = some (some (.builtin "member_descriptor.__get__")) := by
    unfold specialIn
    rw [KI.mdT]
    kernel_rfl
  have hic : isClsIn K C = true := by unfold isClsIn; rw [KI.cls]; rfl
  rw [arm_eval_Attribute]
  refine wpAny_bind ?_
  show wpAny _ _ (eval (.Name b p1) env) _ _ _
  refine wpAny_Name (wpAny_loadName_local hk hl hn hb ?_) hdb
  refine wpAny_bind (wpAny_standAt (wpAny_bind (wpAny_holding ?_)))
  refine get_bind X I (plainGet_of (KI.plain "obj")).1 (findObj_data hic KI.obj hsp KI.takes) (plainGet_of (KI.plain "obj")).2 ?_
  refine wpAny_call (slot_get (s := ⟨h₁, s.gens, s.drawn, tk + 1, s.os⟩) X I KI.slot rfl (handed_on hv ?_))
  exact wpAny_bind (wpAny_letTemporaryGo (wpAny_pure (h _)))
theorem news_nil {h₀ h : Heap} {L : Addr} : News h₀ L h [] := fun _ hp => nomatch hp
def cmpR (op : CmpOp) (r : Int) : Bool := match op with
  | .Lt => decide (r < 0)
  | .Gt => decide (0 < r)
  | .Eq => r == 0
  | _ => false
def methOf (op : CmpOp) (fL fG fE : Addr) : Addr := match op with
  | .Lt => fL
  | .Gt => fG
  | _ => fE
theorem meth_call {op : CmpOp} {x dx y dy : Addr} {i j : Int} {ti tj : Tok} {f cell : Addr} {oc fo : Obj} {fd : FuncData} {hb : Heap} {ok : Int → Prop} {ask : Int → Int → Int}
    (hop : op = .Lt ∨ op = .Gt ∨ op = .Eq)
    (B : Below A₀ base outer h₀) (F : Fr h₀ L s.heap m) (T : Top prg loose mean mg mb h₀) (hk : cs.kind = .function) (hdp : dp + 20 < 900) (hun : un + 40 < 600)
    (KI : KIn K C ns md fI fL fG fE sl) (X : K.In s.heap) (ML : MethAt w.params s.heap 3 fL "__lt__" [("mycmp", cell)]) (MG : MethAt w.params s.heap 4 fG "__gt__" [("mycmp", cell)]) (ME : MethAt w.params s.heap 5 fE "__eq__" [("mycmp", cell)])
    (hc : s.heap.get? cell = some oc) (hoc : oc.data = .cell (some (.ref f))) (hf : s.heap.get? f = some fo) (hfd : fo.data = .func fd) (hkb : Keeps hb s.heap)
    (hx : s.heap.get? x = some (keyO C dx (.int i ti))) (hdx : s.heap.get? dx = some emptyDict) (hy : s.heap.get? y = some (keyO C dy (.int j tj))) (hdy : s.heap.get? dy = some emptyDict)
    (AT : AskTells PySem.Challenge.rw_mq0178_01.row.prog w prg loose mean mg mb f hb ok ask) (hi : ok i) (hj : ok j)
    (hret : ∀ h' tk', Keeps s.heap h' → Q (.bool (cmpR op (ask i j))) { s with heap := h', toks := tk' }) :
    wpAny (model PySem.Challenge.rw_mq0178_01.row.prog w) (ktrTop dp un gd cn cs L a ccd cl outer) (call (.ref (methOf op fL fG fE)) [.ref x, .ref y]) Q E s := by
  have hcl : 600 ≤ cLine := by decide
  have hKf : Frag.In [(f, fo)] s.heap := Frag.in_of (as := [f]) rfl (by simp [hf])
  have hkf : keepIn [(f, fo)] (.ref f) = true := by
    refine hide fun hideG hideH => ?_
    obtain ⟨c0, d0, dt0, sl0⟩ := fo
    refine hideH ?_; clear hideH hideG
    cases hfd
    unfold keepIn
    simp [List.lookup]
  rcases hop with rfl | rfl | rfl
  · refine hide fun hideG hideH => ?_
    obtain ⟨pa, pb, sc, doc, pm, c', ctv, e, ho, hrec⟩ := ML
    refine hideH ?_; clear hideH hideG
    have e' : kFn w.params 3 = some (_, _, _) := rfl
    rw [e'] at e
    cases e
    refine wpAny_call ?_
    refine callG B F (news := []) (fun _ hp => nomatch hp) T rfl rfl hk ho rfl (codeRec_but (n := 0) hrec fun o e => e) (by show dp < 1000; lia) (BindsTo.of_eq rfl) (loc_all rfl) (fun g' L' h₁ FG F₁ N₁ BG st TG HG => ?_) rfl rfl rfl (by decide)
    have up : ∀ b o, s.heap.get? b = some o → h₁.get? b = some o := fun b o e => F₁.keep _ _ (HG.rest _ _ e fun _ hp => nomatch hp)
    have X₁ : K.In h₁ := X.keeps up
    refine wpAny_execs_cons (wpAny_Return_some (wpAny_Compare1 (wpAny_Call_NameR (wpAny_Name (wpAny_loadName_free rfl rfl rfl ⟨oc, up _ _ hc, hoc⟩ ?_)))))
    refine callWith_K (K := [(f, fo)]) (h₀ := s.heap) hKf hkf ?_
    refine spliced_cons (attr_obj rfl KI X₁ (up _ _ hx) (up _ _ hdx) rfl rfl F₁.ns rfl (by decide) fun tk1 => ?_)
    refine spliced_cons (attr_obj rfl KI X₁ (up _ _ hy) (up _ _ hdy) rfl rfl F₁.ns rfl (by decide) fun tk2 => spliced_nil ⟨hKf.keeps up, ?_⟩)
    refine AT (dp + 1) (un + 3) _ _ _ _ _ _ _ _ _ _ _ _ _ _ _ i j _ _ BG F₁ (fun b o e => HG.rest _ _ (hkb _ _ e) fun _ hp => nomatch hp) TG rfl (by lia) (by lia) hi hj fun t h' tk' k' => ?_
    refine wpAny_Constant_int ?_
    refine PyProof.Rows.lt_int ?_
    refine ⟨L', _, [], F₁.keeps k', news_nil, fun FH NH => ?_⟩
    exact hret h' _ fun b o e => k' _ _ (up _ _ e)
  · refine hide fun hideG hideH => ?_
    obtain ⟨pa, pb, sc, doc, pm, c', ctv, e, ho, hrec⟩ := MG
    refine hideH ?_; clear hideH hideG
    have e' : kFn w.params 4 = some (_, _, _) := rfl
    rw [e'] at e
    cases e
    refine wpAny_call ?_
    refine callG B F (news := []) (fun _ hp => nomatch hp) T rfl rfl hk ho rfl (codeRec_but (n := 0) hrec fun o e => e) (by show dp < 1000; lia) (BindsTo.of_eq rfl) (loc_all rfl) (fun g' L' h₁ FG F₁ N₁ BG st TG HG => ?_) rfl rfl rfl (by decide)
    have up : ∀ b o, s.heap.get? b = some o → h₁.get? b = some o := fun b o e => F₁.keep _ _ (HG.rest _ _ e fun _ hp => nomatch hp)
    have X₁ : K.In h₁ := X.keeps up
    refine wpAny_execs_cons (wpAny_Return_some (wpAny_Compare1 (wpAny_Call_NameR (wpAny_Name (wpAny_loadName_free rfl rfl rfl ⟨oc, up _ _ hc, hoc⟩ ?_)))))
    refine callWith_K (K := [(f, fo)]) (h₀ := s.heap) hKf hkf ?_
    refine spliced_cons (attr_obj rfl KI X₁ (up _ _ hx) (up _ _ hdx) rfl rfl F₁.ns rfl (by decide) fun tk1 => ?_)
    refine spliced_cons (attr_obj rfl KI X₁ (up _ _ hy) (up _ _ hdy) rfl rfl F₁.ns rfl (by decide) fun tk2 => spliced_nil ⟨hKf.keeps up, ?_⟩)
    refine AT (dp + 1) (un + 3) _ _ _ _ _ _ _ _ _ _ _ _ _ _ _ i j _ _ BG F₁ (fun b o e => HG.rest _ _ (hkb _ _ e) fun _ hp => nomatch hp) TG rfl (by lia) (by lia) hi hj fun t h' tk' k' => ?_
    refine wpAny_Constant_int ?_
    refine PyProof.Rows.gt_int ?_
    refine ⟨L', _, [], F₁.keeps k', news_nil, fun FH NH => ?_⟩
    exact hret h' _ fun b o e => k' _ _ (up _ _ e)
  · refine hide fun hideG hideH => ?_
    obtain ⟨pa, pb, sc, doc, pm, c', ctv, e, ho, hrec⟩ := ME
    refine hideH ?_; clear hideH hideG
    have e' : kFn w.params 5 = some (_, _, _) := rfl
    rw [e'] at e
    cases e
    refine wpAny_call ?_
    refine callG B F (news := []) (fun _ hp => nomatch hp) T rfl rfl hk ho rfl (codeRec_but (n := 0) hrec fun o e => e) (by show dp < 1000; lia) (BindsTo.of_eq rfl) (loc_all rfl) (fun g' L' h₁ FG F₁ N₁ BG st TG HG => ?_) rfl rfl rfl (by decide)
    have up : ∀ b o, s.heap.get? b = some o → h₁.get? b = some o := fun b o e => F₁.keep _ _ (HG.rest _ _ e fun _ hp => nomatch hp)
    have X₁ : K.In h₁ := X.keeps up
    refine wpAny_execs_cons (wpAny_Return_some (wpAny_Compare1 (wpAny_Call_NameR (wpAny_Name (wpAny_loadName_free rfl rfl rfl ⟨oc, up _ _ hc, hoc⟩ ?_)))))
    refine callWith_K (K := [(f, fo)]) (h₀ := s.heap) hKf hkf ?_
    refine spliced_cons (attr_obj rfl KI X₁ (up _ _ hx) (up _ _ hdx) rfl rfl F₁.ns rfl (by decide) fun tk1 => ?_)
    refine spliced_cons (attr_obj rfl KI X₁ (up _ _ hy) (up _ _ hdy) rfl rfl F₁.ns rfl (by decide) fun tk2 => spliced_nil ⟨hKf.keeps up, ?_⟩)
    refine AT (dp + 1) (un + 3) _ _ _ _ _ _ _ _ _ _ _ _ _ _ _ i j _ _ BG F₁ (fun b o e => HG.rest _ _ (hkb _ _ e) fun _ hp => nomatch hp) TG rfl (by lia) (by lia) hi hj fun t h' tk' k' => ?_
    refine wpAny_Constant_int ?_
    refine PyProof.Rows.eq_int ?_
    refine ⟨L', _, [], F₁.keeps k', news_nil, fun FH NH => ?_⟩
    exact hret h' _ fun b o e => k' _ _ (up _ _ e)
theorem rc_inst {op : CmpOp} {x y f : Addr} {ox oy : Obj} {dx dy : Option Obj} {A : Around} {K : Frag} (hu : A.units < cLine) (X : K.In s.heap) (I : InstAt s.heap x ox C dx) (J : InstAt s.heap y oy C dy)
    (hs : findIn K (.ref C) (cmpInfo op).2.1 = some (some (.ref f))) (hf : isFn K (.ref f) = true)
    (h : wpAny (model PySem.Challenge.rw_mq0178_01.row.prog w) A (call (.ref f) [.ref x, .ref y]) (W.CmpBack Q) E s) : wpAny (model PySem.Challenge.rw_mq0178_01.row.prog w) A (richCompare op (.ref x) (.ref y)) Q E s := by
  have one : wpAny (model PySem.Challenge.rw_mq0178_01.row.prog w) A (tryCompare (.ref x) (cmpInfo op).2.1 (.ref y)) (fun r s' => ∃ v, r = some v ∧ Q v s') E s := by
    unfold tryCompare
    refine wpAny_bind (ifBound_K X I hs hf (wpAny_mono h (fun v s' hv => ?_) fun _ _ e => e))
    cases v <;> first | exact hv.elim | exact wpAny_pure ⟨_, rfl, hv⟩
  unfold richCompare
  simp only [oneThing_ref]
  refine wpAny_holding (wpAny_bind (wpAny_cRoomFor hu (wpAny_bind (I.type.here (wpAny_bind (J.type.here ?_))))))
  split
  · rename_i q
    simp at q
  · refine wpAny_bind (wpAny_pure ?_)
    simp only [Bool.false_eq_true, if_false]
    refine wpAny_bind (wpAny_mono one (fun r s' z => ?_) fun _ _ e => e)
    refine hide fun hideG hideH => ?_
    obtain ⟨v, rfl, hq⟩ := z
    refine hideH ?_; clear hideH hideG
    exact wpAny_pure hq
theorem lt_inst {x f : Addr} {ox : Obj} {dx : Option Obj} {A : Around} {K : Frag} {b : Value} {Q' : Bool → Shared → Prop} (hu : A.units < cLine) (X : K.In s.heap) (I : InstAt s.heap x ox C dx)
    (hs : findIn K (.ref C) "__lt__" = some (some (.ref f))) (hf : isFn K (.ref f) = true)
    (h : wpAny (model PySem.Challenge.rw_mq0178_01.row.prog w) A (call (.ref f) [.ref x, b]) (W.BoolBack Q') E s) : wpAny (model PySem.Challenge.rw_mq0178_01.row.prog w) A (keyLt' oneType' (.ref x) b) Q' E s := by
  rw [keyLt'_oneType, oneLt'_eq, if_pos rfl]
  refine wpAny_bind (wpAny_cRoomFor hu (wpAny_bind (ifBound_K X I hs hf (wpAny_mono h (fun v s' hv => ?_) fun _ _ e => e))))
  cases v <;> first | exact hv.elim | skip
  exact wpAny_truthy_bool hv
theorem key_cmp {op : CmpOp} {x dx y dy : Addr} {i j : Int} {ti tj : Tok} {f cell : Addr} {oc fo : Obj} {fd : FuncData} {hb : Heap} {ok : Int → Prop} {ask : Int → Int → Int}
    (hop : op = .Lt ∨ op = .Gt ∨ op = .Eq)
    (B : Below A₀ base outer h₀) (F : Fr h₀ L s.heap m) (T : Top prg loose mean mg mb h₀) (hk : cs.kind = .function) (hdp : dp + 20 < 900) (hun : un + 40 < 600)
    (KI : KIn K C ns md fI fL fG fE sl) (X : K.In s.heap) (ML : MethAt w.params s.heap 3 fL "__lt__" [("mycmp", cell)]) (MG : MethAt w.params s.heap 4 fG "__gt__" [("mycmp", cell)]) (ME : MethAt w.params s.heap 5 fE "__eq__" [("mycmp", cell)])
    (hc : s.heap.get? cell = some oc) (hoc : oc.data = .cell (some (.ref f))) (hf : s.heap.get? f = some fo) (hfd : fo.data = .func fd) (hkb : Keeps hb s.heap)
    (hx : s.heap.get? x = some (keyO C dx (.int i ti))) (hdx : s.heap.get? dx = some emptyDict) (hy : s.heap.get? y = some (keyO C dy (.int j tj))) (hdy : s.heap.get? dy = some emptyDict)
    (AT : AskTells PySem.Challenge.rw_mq0178_01.row.prog w prg loose mean mg mb f hb ok ask) (hi : ok i) (hj : ok j)
    (hret : ∀ h' tk', Keeps s.heap h' → Q (.bool (cmpR op (ask i j))) { s with heap := h', toks := tk' }) :
    wpAny (model PySem.Challenge.rw_mq0178_01.row.prog w) (ktrTop dp un gd cn cs L a ccd cl outer) (richCompare op (.ref x) (.ref y)) Q E s := by
  have IX : InstAt s.heap x (keyO C dx (.int i ti)) C (some emptyDict) := ⟨hx, rfl, rfl, hdx⟩
  have IY : InstAt s.heap y (keyO C dy (.int j tj)) C (some emptyDict) := ⟨hy, rfl, rfl, hdy⟩
  have hcl : 600 ≤ cLine := by decide
  have z := meth_call (Q := W.CmpBack Q) (E := E) (a := a) (ccd := ccd) (cl := cl) (gd := gd) (cn := cn) hop B F T hk hdp hun KI X ML MG ME hc hoc hf hfd hkb hx hdx hy hdy AT hi hj fun h' tk' k => hret h' tk' k
  rcases hop with rfl | rfl | rfl
  · exact rc_inst (by show un < cLine; lia) X IX IY KI.lt (by unfold isFn; rw [show typeIn K (.ref fL) = _ from KI.tL]; rfl) z
  · exact rc_inst (by show un < cLine; lia) X IX IY KI.gt (by unfold isFn; rw [show typeIn K (.ref fG) = _ from KI.tG]; rfl) z
  · exact rc_inst (by show un < cLine; lia) X IX IY KI.eq (by unfold isFn; rw [show typeIn K (.ref fE) = _ from KI.tE]; rfl) z
theorem key_lt {x dx y dy : Addr} {i j : Int} {ti tj : Tok} {f cell : Addr} {oc fo : Obj} {fd : FuncData} {Q' : Bool → Shared → Prop} {hb : Heap} {ok : Int → Prop} {ask : Int → Int → Int}
    (B : Below A₀ base outer h₀) (F : Fr h₀ L s.heap m) (T : Top prg loose mean mg mb h₀) (hk : cs.kind = .function) (hdp : dp + 20 < 900) (hun : un + 40 < 600)
    (KI : KIn K C ns md fI fL fG fE sl) (X : K.In s.heap) (ML : MethAt w.params s.heap 3 fL "__lt__" [("mycmp", cell)]) (MG : MethAt w.params s.heap 4 fG "__gt__" [("mycmp", cell)]) (ME : MethAt w.params s.heap 5 fE "__eq__" [("mycmp", cell)])
    (hc : s.heap.get? cell = some oc) (hoc : oc.data = .cell (some (.ref f))) (hf : s.heap.get? f = some fo) (hfd : fo.data = .func fd) (hkb : Keeps hb s.heap)
    (hx : s.heap.get? x = some (keyO C dx (.int i ti))) (hdx : s.heap.get? dx = some emptyDict) (hy : s.heap.get? y = some (keyO C dy (.int j tj))) (hdy : s.heap.get? dy = some emptyDict)
    (AT : AskTells PySem.Challenge.rw_mq0178_01.row.prog w prg loose mean mg mb f hb ok ask) (hi : ok i) (hj : ok j)
    (hret : ∀ h' tk', Keeps s.heap h' → Q' (decide (ask i j < 0)) { s with heap := h', toks := tk' }) :
    wpAny (model PySem.Challenge.rw_mq0178_01.row.prog w) (ktrTop dp un gd cn cs L a ccd cl outer) (keyLt' oneType' (.ref x) (.ref y)) Q' E s := by
  have IX : InstAt s.heap x (keyO C dx (.int i ti)) C (some emptyDict) := ⟨hx, rfl, rfl, hdx⟩
  have hcl : 600 ≤ cLine := by decide
  exact lt_inst (by show un < cLine; lia) X IX KI.lt (by unfold isFn; rw [show typeIn K (.ref fL) = _ from KI.tL]; rfl)
    (meth_call (op := .Lt) (Q := W.BoolBack Q') (E := E) (a := a) (ccd := ccd) (cl := cl) (gd := gd) (cn := cn) (.inl rfl) B F T hk hdp hun KI X ML MG ME hc hoc hf hfd hkb hx hdx hy hdy AT hi hj fun h' tk' k => hret h' tk' k)
end
end Mine
end
section
open PySem PySem.W PySem.Calls PyProof.Rows
set_option maxRecDepth 100000
set_option maxHeartbeats 8000000
namespace Mine
local macro_rules | `(tactic| walk_at "no such key") => `(tactic| fail)
/-- the comparison's own text -/
noncomputable def aFn (p : Params) : Option (Arguments × List Stmt × Scope) :=
  match (hd.heap_1 p).lookup 98 with
  | some ⟨_, _, .func fd, _⟩ => match fd.body with
    | .stmts (.FunctionDef _ a b _ _ _ sc .. :: _) => some (a, b, sc)
    | _ => none
  | _ => none
inductive AskFn (p : Params) (at' : Addr → Obj → Prop) (f x l : Addr) : Prop
  | mk (a : Arguments) (b : List Stmt) (sc : Scope) (doc pm : Value) (c' : Addr) (ctv : Value) (cR cU : Addr) (oc oR oU : Obj) (vs : Array Value) (t : Tok) (e : aFn p = some (a, b, sc)) (h1 : at' f (fnMade "_law_asked" "_law_comparison.<locals>._law_asked" a b sc [("rules", cU), ("rows", cR)] doc pm c' ctv))
    (h2 : at' c' oc) (h3 : oc.data = .fields vs) (h4 : vs[1]? = some (.str "_law_comparison.<locals>._law_asked" t)) (h5 : at' cR oR) (h6 : oR.data = .cell (some (.ref x))) (h7 : at' cU oU) (h8 : oU.data = .cell (some (.ref l)))
section
variable {w : World} {prg : Program} {loose : List Str} {mean : ExcName → Option Value} {mg mb : Str → Option Value}
    {dp un : Nat} {gd : Option (List Code)} {cn : Str} {cs : Scope} {a : Addr} {ccd : Value} {cl : List (Str × Addr)} {outer : List Env} {A₀ : Around} {base h₀ : Heap} {L : Addr} {m : Str → Option Value} {s : Shared} {Q E : Value → Shared → Prop}
theorem comp_tells {x l : Addr}
    (B : Below A₀ base outer h₀) (F : Fr h₀ L s.heap m) (X : (hd.heap_1 w.params).In h₀) (T : Top prg loose mean mg mb h₀) (hk : cs.kind = .function)
    (N : News h₀ L s.heap [(93, tabObj #[])])
    (hdp : dp + 1 < recursionLimit) (hun : un + 8 < cLine)
    (hret : ∀ f h' tk', (∀ b o, b ≠ 93 → s.heap.get? b = some o → h'.get? b = some o) → AskFn w.params (New s.heap h') f x l → (∃ ps', h'.get? 93 = some (tabObj ps')) → Q (.ref f) { s with heap := h', toks := tk' }) :
    wpAny (model PySem.Challenge.rw_mq0178_01.row.prog w) (ktrTop dp un gd cn cs L a ccd cl outer) (call (.ref 98) [.ref x, .ref l]) Q E s := by
  w_on
  (refine wpAny_call ?_; k_dflt (refine' code_cellsG ?k1 ?k2 ?k3 ?k4 ?k5 ?kA ?kF ?kK ?k6 ?k7 ?k8 ?k9 ?kB ?kD ?_ ?c2 ?c3 ?c4; (case kA => exact rfl); (case kF => exact rfl); (case kK => assumption); (case k1 => k_asm); (case k2 => k_asm); (case k3 => k_asm); (case k4 => k_asm); (case k5 => k_asm); (case k6 => k_is); (case k7 => k_is); (case k8 => ktr_room); (case k9 => exact BindsTo.of_eq rfl); (case kB => exact rfl); (case kD => decide +kernel); (case c2 => exact rfl); (case c3 => exact rfl); (case c4 => exact rfl); k_whole; intro gg Lg hg tkg cells FG' FF NN Y' B' X' T' HH CC; obtain ⟨o1, o2, hE, d1, d2⟩ := PyProof.Rows.CellsAre.two Y'; subst hE; (try simp only [List.cons_append, List.nil_append] at NN CC); (try dsimp only); (try k_lift B'); (try k_fold)))
  have CH : CodeHd gg 97 93 := codeHd_of_K X' (by kernel_rfl)
  have h1 : ¬ ((93 : Nat) = Lg + 1) := fun q => by
    have e1 := (NN (93, tabObj #[]) (by simp)).1
    have e2 := (NN (Lg + 1, o2) (by simp)).1
    dsimp only at e1 e2
    rw [← q, e1] at e2
    have := congrArg Obj.data (Option.some.inj e2)
    rw [d2] at this
    cases this
  have h2 : ¬ ((93 : Nat) = Lg + 1 + 1) := fun q => by
    have e1 := (NN (93, tabObj #[]) (by simp)).1
    have e2 := (NN (Lg + 1 + 1, o1) (by simp)).1
    dsimp only at e1 e2
    rw [← q, e1] at e2
    have := congrArg Obj.data (Option.some.inj e2)
    rw [d1] at this
    cases this
  clear Y'
  k_steps
  refine hret _ _ _ (fun b o hb e => ?_) ?_ ?_
  · rename Fr gg Lg _ _ => F2
    exact F2.keep _ _ (HH.rest b o e fun p hp => by cases List.mem_singleton.mp hp; exact fun q => hb q.symm)
  · rename News gg Lg _ _ => N2
    have FR := fun D o hm (hne : ¬ ((93 : Nat) = D)) => HH.fresh (D := D) (o := o) N2 hm (fun p hp q => by cases List.mem_singleton.mp hp; exact hne q)
    refine ⟨_, _, _, _, _, _, _, _, _, _, _, _, _, _, ?_, FR _ _ (.head _) (by lia), FR _ _ (.tail _ (.head _)) (by lia), by assumption, by assumption, FR _ _ (.tail _ (.tail _ (.tail _ (.head _)))) h1, d2, FR _ _ (.tail _ (.tail _ (.head _))) h2, d1⟩
    rfl
  · rename News gg Lg _ _ => N2
    exact ⟨_, (N2 _ (.tail _ (.tail _ (.tail _ (.tail _ (.head _)))))).1⟩
end
end Mine
end
section
open PySem PySem.W PySem.Calls PyProof.Rows
set_option maxRecDepth 100000
set_option maxHeartbeats 8000000
namespace Mine
/-- a told value: a float or an int -/
inductive TV where
  | f (x : UInt64)
  | i (k : Int)
def TV.is : TV → Value → Prop
  | .f x, v => ∃ t, v = .float x t
  | .i k, v => ∃ t, v = .int k t
def TV.same : TV → TV → Prop
  | .f _, .f _ => True
  | .i _, .i _ => True
  | _, _ => False
def tlt : TV → TV → Bool
  | .f x, .f y => Float64.cmp x y == some .lt
  | .i a, .i b => decide (a < b)
  | _, _ => false
def tgt : TV → TV → Bool
  | .f x, .f y => Float64.cmp x y == some .gt
  | .i a, .i b => decide (b < a)
  | _, _ => false
inductive Vals : List TV → List Value → Prop
  | nil : Vals [] []
  | cons {t : TV} {v : Value} {ts : List TV} {vs : List Value} : t.is v → Vals ts vs → Vals (t :: ts) (v :: vs)
theorem Vals.at : ∀ {ts : List TV} {vs : List Value}, Vals ts vs → ∀ {k : Nat} {t : TV}, ts[k]? = some t → ∃ v, vs[k]? = some v ∧ t.is v
  | _, _, .cons h r, 0, t, e => by cases e; exact ⟨_, rfl, h⟩
  | _, _, .cons h r, k + 1, t, e => r.at (k := k) e
def VRow (at' : Addr → Obj → Prop) (D : Addr) (ts : List TV) : Prop := ∃ vs e, at' D (W.listOf (List.toArray vs) e) ∧ Vals ts vs
inductive VRows (at' : Addr → Obj → Prop) : List Value → List (List TV) → Prop
  | nil : VRows at' [] []
  | cons {D : Addr} {ts : List TV} {vs : List Value} {r : List (List TV)} : VRow at' D ts → VRows at' vs r → VRows at' (.ref D :: vs) (ts :: r)
theorem VRows.at {P : Addr → Obj → Prop} : ∀ {vs : List Value} {r : List (List TV)}, VRows P vs r → ∀ {k : Nat} {ts : List TV}, r[k]? = some ts → ∃ D, vs[k]? = some (.ref D) ∧ VRow P D ts
  | _, _, .cons h r, 0, t, e => by cases e; exact ⟨_, rfl, h⟩
  | _, _, .cons h r, k + 1, t, e => r.at (k := k) e
theorem VRows.len {P : Addr → Obj → Prop} : ∀ {vs : List Value} {r : List (List TV)}, VRows P vs r → vs.length = r.length
  | _, _, .nil => rfl
  | _, _, .cons _ r => congrArg (· + 1) r.len
theorem VRow.mono {P R : Addr → Obj → Prop} (h : ∀ d o, P d o → R d o) {D : Addr} {ts : List TV} : VRow P D ts → VRow R D ts := fun ⟨vs, e, a, b⟩ => ⟨vs, e, h _ _ a, b⟩
theorem VRows.mono {P R : Addr → Obj → Prop} (h : ∀ d o, P d o → R d o) : ∀ {vs : List Value} {r : List (List TV)}, VRows P vs r → VRows R vs r
  | _, _, .nil => .nil
  | _, _, .cons hd r => .cons (hd.mono h) (VRows.mono h r)
def VTab (at' : Addr → Obj → Prop) (D : Addr) (r : List (List TV)) : Prop := ∃ vs e, at' D (W.listOf (List.toArray vs) e) ∧ VRows at' vs r
theorem VTab.mono {P R : Addr → Obj → Prop} (h : ∀ d o, P d o → R d o) {D : Addr} {r : List (List TV)} : VTab P D r → VTab R D r := fun ⟨vs, e, a, b⟩ => ⟨vs, e, h _ _ a, b.mono h⟩
theorem AskFn.mono {p : Params} {P R : Addr → Obj → Prop} (h : ∀ d o, P d o → R d o) {f x l : Addr} : AskFn p P f x l → AskFn p R f x l := fun z => by
  obtain ⟨a, b, sc, doc, pm, c', ctv, cR, cU, oc, oR, oU, vs, t, e, h1, h2, h3, h4, h5, h6, h7, h8⟩ := z
  exact ⟨a, b, sc, doc, pm, c', ctv, cR, cU, oc, oR, oU, vs, t, e, h _ _ h1, h _ _ h2, h3, h4, h _ _ h5, h6, h _ _ h7, h8⟩
/-- what the comparison answers -/
def askI (x y : List TV) : List (Int × Int) → Int
  | [] => 0
  | (c, sg) :: rs => if tlt (x.getD c.toNat (.i 0)) (y.getD c.toNat (.i 0)) = true then -sg else if tgt (x.getD c.toNat (.i 0)) (y.getD c.toNat (.i 0)) = true then sg else askI x y rs
theorem askI_cons (x y : List TV) (c sg : Int) (rs : List (Int × Int)) : askI x y ((c, sg) :: rs) = if tlt (x.getD c.toNat (.i 0)) (y.getD c.toNat (.i 0)) = true then -sg else if tgt (x.getD c.toNat (.i 0)) (y.getD c.toNat (.i 0)) = true then sg else askI x y rs := rfl
section
variable {M : Model} {A : Around} {E : Value → Shared → Prop} {s : Shared} {g : Heap} {L a c : Addr} {m : Str → Option Value} {cn : Str} {cs : Scope} {ccd : Value} {cl : List (Str × Addr)} {x : Str} {pos : Pos} {v : Value} {Q : Value → Shared → Prop} {oc : Obj}
theorem name_free (F : Fr g L s.heap m) (hc : cl.lookup x = some c) (hg : g.get? c = some oc) (hd : oc.data = .cell (some v)) (h : Q v s)
    (hk : cs.kind = .function) (hx : (envX cn cs L a ccd cl).kindOf x = some .free) (hb : (x == ("__debug__" : Str)) = false) (hn : (x == ("__classdict__" : Str)) = false) :
    wpAny M A (eval (.Name x pos) (envX cn cs L a ccd cl)) Q E s := wpAny_Name (wpAny_loadName_free hk hx hc ⟨_, F.keep _ _ hg, hd⟩ h hn) hb
end
local macro_rules | `(tactic| walk_at "subscriptTail") => `(tactic| (k_here; (with_reducible show wpAny _ _ (subscriptTail _ _ (Value.ref _) (Value.int _ _)) _ _ _); k_dflt (refine' item_base ?F ?hg ?h0 ?hk ?hx ?_ ?hs; (case F => k_asm); (case hg => assumption); (case h0 => lia); (case hk => lia); (case hx => first | assumption | rfl); (case hs => with_unfolding_all rfl); k_whole)))
local macro_rules | `(tactic| walk_at "eval Name") => `(tactic| (k_here; kc_free; k_dflt (refine' name_free ?F ?c ?g ?d ?_ ?k ?x ?b ?n; (case k => exact rfl); (case x => exact rfl); (case F => k_asm); (case c => exact rfl); (case g => assumption); (case d => assumption); (case b => decide); (case n => decide); k_whole)))
theorem asked_tells {w : World} {prg : Program} {loose : List Str} {mean : ExcName → Option Value} {mg mb : Str → Option Value} {hb : Heap} {f x l : Addr} {rows : List (List TV)} {rs : List (Int × Int)}
    (X : (hd.heap_1 w.params).In hb) (AF : AskFn w.params (AtH hb) f x l) (VT : VTab (AtH hb) x rows) (PR : Pairs (AtH hb) l rs)
    (hok : ∀ p ∈ rs, 0 ≤ p.1 ∧ p.1 < 6 ∧ -16 ≤ p.2 ∧ p.2 ≤ 16) (h63 : rows.length < 64) (hl6 : ∀ r ∈ rows, r.length = 6) (hsame : ∀ r ∈ rows, ∀ q ∈ rows, ∀ k, (r.getD k (.i 0)).same (q.getD k (.i 0))) :
    AskTells PySem.Challenge.rw_mq0178_01.row.prog w prg loose mean mg mb f hb (fun i => 0 ≤ i ∧ i < rows.length) (fun i j => askI (rows.getD i.toNat []) (rows.getD j.toNat []) rs) := by
  intro dp un gd cn cs a ccd cl outer A₀ base h₀ L m s Q E i j ti tj B F kb T hk hdp hun hi hj hret
  have hcl : 600 ≤ cLine := by decide
  refine hide fun hideG hideH => ?_
  obtain ⟨pa, pb, sc, doc, pm, c', ctv, cR, cU, oc, oR, oU, cvs, ct, e, hf, hc, hcd, hc1, hR, dR, hU, dU⟩ := AF.mono (R := AtH h₀) (fun d o e => kb _ _ e)
  refine hideH ?_; clear hideH hideG
  have e' : aFn w.params = some (_, _, _) := rfl
  rw [e'] at e
  cases e
  w_on
  refine wpAny_call ?_
  refine callG B F (news := []) (fun _ hp => nomatch hp) T rfl rfl hk (F.keep _ _ hf) rfl ⟨_, _, _, _, rfl, F.keep _ _ hc, hcd, hc1⟩ (by show dp < 1000; lia) (BindsTo.of_eq rfl) (loc_all rfl) (fun gg Lg hg FG' FF NN B' st T' HH => ?_) rfl rfl rfl (by decide)
  have X' : (hd.heap_1 w.params).In gg := (X.keeps kb).keeps st
  try dsimp only
  try k_lift B'
  try k_fold
  have up : ∀ d o, hb.get? d = some o → gg.get? d = some o := fun d o e => st _ _ (kb _ _ e)
  refine hide fun hideG hideH => ?_
  obtain ⟨vx, ex, gx, Cx⟩ := VT.mono (R := AtH gg) up
  obtain ⟨vr, er, gr, Cr⟩ := PR.mono (R := AtH gg) up
  refine hideH ?_; clear hideH hideG
  have hR' := st _ _ hR
  have hU' := st _ _ hU
  refine hide fun hideG hideH => ?_
  obtain ⟨hi0, hi1⟩ := hi
  obtain ⟨hj0, hj1⟩ := hj
  refine hideH ?_; clear hideH hideG
  have hi2 : i.toNat < rows.length := by lia
  have hj2 : j.toNat < rows.length := by lia
  refine hide fun hideG hideH => ?_
  obtain ⟨Di, hDi, vi, fi, gi, Vi⟩ := Cx.at (List.getElem?_eq_getElem hi2)
  obtain ⟨Dj, hDj, vj, fj, gj, Vj⟩ := Cx.at (List.getElem?_eq_getElem hj2)
  refine hideH ?_; clear hideH hideG
  have exi : rows.getD i.toNat [] = rows[i.toNat] := by rw [List.getD_eq_getElem?_getD, List.getElem?_eq_getElem hi2]; rfl
  have exj : rows.getD j.toNat [] = rows[j.toNat] := by rw [List.getD_eq_getElem?_getD, List.getElem?_eq_getElem hj2]; rfl
  dsimp only at hret
  rw [exi, exj] at hret
  have l6i := hl6 _ (List.getElem_mem hi2)
  have l6j := hl6 _ (List.getElem_mem hj2)
  have sij := hsame _ (List.getElem_mem hi2) _ (List.getElem_mem hj2)
  have hi63 : i < 2 ^ 63 := by lia
  have hj63 : j < 2 ^ 63 := by lia
  generalize rows[i.toNat] = ra at Vi exi hret l6i sij
  generalize rows[j.toNat] = rb at Vj exj hret l6j sij
  refine wpAny_execs_cons (for_list (l := l) (vs := vr) (fun I k m' h' => m' "a" = some (.int i ti) ∧ m' "b" = some (.int j tj) ∧ askI ra rb rs = askI ra rb (rs.drop k)) rfl (lst_of gr) ?_ FF (fun I i m h h' _ _ J => J) (fun I h' _ _ => ⟨by with_unfolding_all rfl, by with_unfolding_all rfl, rfl⟩) ?_ ?_)
  · intro Q' hq
    exact name_free FF rfl hU' dU hq rfl rfl (by decide) (by decide)
  · intro I oI k v m₁ h₁ tk₁ hI N₁ hk' hv rip11 F₁
    refine hide fun hideG hideH => ?_
    obtain ⟨ma, mb', hst⟩ := rip11
    refine hideH ?_; clear hideH hideG
    refine hide fun hideG hideH => ?_
    obtain ⟨⟨c, sg⟩, d, t, u, e, hp, rfl, hd⟩ := Cr.back hv
    obtain ⟨hc0, hc6, hs0, hs1⟩ := hok _ (List.mem_of_getElem? hp)
    refine hideH ?_; clear hideH hideG
    dsimp only at hc0 hc6 hs0 hs1 hd
    have hca : c.toNat < ra.length := by lia
    have hcb : c.toNat < rb.length := by lia
    refine hide fun hideG hideH => ?_
    obtain ⟨va, hva, tva⟩ := Vi.at (List.getElem?_eq_getElem hca)
    obtain ⟨vb, hvb, tvb⟩ := Vj.at (List.getElem?_eq_getElem hcb)
    refine hideH ?_; clear hideH hideG
    have F₂ : Fr gg Lg h₁ _ := fr_known2 F₁ ma mb'
    have N₂ : News gg Lg h₁ [(I, oI)] := N₁
    have hdl : h₁.IsList d #[.int c t, .int sg u] := lst_of (F₂.keep _ _ hd)
    have hdr : rs.drop k = (c, sg) :: rs.drop (k + 1) := by
      refine hide fun hideG hideH => ?_
      obtain ⟨hlt, he⟩ := List.getElem?_eq_some_iff.mp hp
      refine hideH ?_; clear hideH hideG
      rw [List.drop_eq_getElem_cons hlt, he]
    have ea : ra.getD c.toNat (.i 0) = ra[c.toNat] := by rw [List.getD_eq_getElem?_getD, List.getElem?_eq_getElem hca]; rfl
    have eb : rb.getD c.toNat (.i 0) = rb[c.toNat] := by rw [List.getD_eq_getElem?_getD, List.getElem?_eq_getElem hcb]; rfl
    have sab := sij c.toNat
    rw [ea, eb] at sab
    rw [hdr, askI_cons, ea, eb] at hst
    clear F₁ N₁ FF NN
    generalize ra[c.toNat] = xa at tva hst sab
    generalize rb[c.toNat] = xb at tvb hst sab
    cases xa <;> cases xb <;> first | exact sab.elim | skip
    all_goals (
      refine hide fun hideG hideH => ?_
      obtain ⟨tta, rfl⟩ := tva
      obtain ⟨ttb, rfl⟩ := tvb
      refine hideH ?_; clear hideH hideG
      k_steps)
    · rw [if_pos (by assumption)] at hst
      dsimp only [TurnEnd]
      rw [hst] at hret
      k_steps
      exact (show LeaveK _ _ _ _ _ _ _ from ⟨Lg, _, [], by assumption, news_nil, fun _ _ => hret _ _ _ (HH.keeps (by assumption) (news := []) (news' := []) (fun _ hp => nomatch hp) (fun p hp => nomatch hp))⟩)
    · rw [if_neg (by first | exact Bool.eq_false_iff.mp (show tlt _ _ = false from by assumption) | exact Bool.eq_false_iff.mp (show tgt _ _ = false from by assumption)), if_pos (by assumption)] at hst
      dsimp only [TurnEnd]
      rw [hst] at hret
      k_steps
      exact (show LeaveK _ _ _ _ _ _ _ from ⟨Lg, _, [], by assumption, news_nil, fun _ _ => hret _ _ _ (HH.keeps (by assumption) (news := []) (news' := []) (fun _ hp => nomatch hp) (fun p hp => nomatch hp))⟩)
    · rw [if_neg (by first | exact Bool.eq_false_iff.mp (show tlt _ _ = false from by assumption) | exact Bool.eq_false_iff.mp (show tgt _ _ = false from by assumption)), if_neg (by first | exact Bool.eq_false_iff.mp (show tlt _ _ = false from by assumption) | exact Bool.eq_false_iff.mp (show tgt _ _ = false from by assumption))] at hst
      exact ⟨_, _, _, rfl, by assumption, by assumption, by with_unfolding_all rfl, by with_unfolding_all rfl, hst⟩
    · rw [if_pos (by first | exact (show tlt _ _ = true from decide_eq_true (by assumption)) | exact (show tgt _ _ = true from decide_eq_true (by assumption)))] at hst
      dsimp only [TurnEnd]
      rw [hst] at hret
      k_steps
      exact (show LeaveK _ _ _ _ _ _ _ from ⟨Lg, _, [], by assumption, news_nil, fun _ _ => hret _ _ _ (HH.keeps (by assumption) (news := []) (news' := []) (fun _ hp => nomatch hp) (fun p hp => nomatch hp))⟩)
    · rw [if_neg (by first | exact fun q => absurd (of_decide_eq_true (show decide (_ < _) = true from q)) (by assumption)), if_pos (by first | exact (show tlt _ _ = true from decide_eq_true (by assumption)) | exact (show tgt _ _ = true from decide_eq_true (by assumption)))] at hst
      dsimp only [TurnEnd]
      rw [hst] at hret
      k_steps
      exact (show LeaveK _ _ _ _ _ _ _ from ⟨Lg, _, [], by assumption, news_nil, fun _ _ => hret _ _ _ (HH.keeps (by assumption) (news := []) (news' := []) (fun _ hp => nomatch hp) (fun p hp => nomatch hp))⟩)
    · rw [if_neg (by first | exact fun q => absurd (of_decide_eq_true (show decide (_ < _) = true from q)) (by assumption)), if_neg (by first | exact fun q => absurd (of_decide_eq_true (show decide (_ < _) = true from q)) (by assumption))] at hst
      exact ⟨_, _, _, rfl, by assumption, by assumption, by with_unfolding_all rfl, by with_unfolding_all rfl, hst⟩
  · intro I m₁ h₁ tk₁ hI rip5 F₁
    refine hide fun hideG hideH => ?_
    obtain ⟨ma, mb', hst⟩ := rip5
    refine hideH ?_; clear hideH hideG
    have N₁ : News gg Lg h₁ [] := fun _ hp => nomatch hp
    have F₂ : Fr gg Lg h₁ _ := F₁
    clear FF NN F₁
    dsimp only
    k_steps
    have e : askI ra rb rs = 0 := by rw [hst, show rs.drop vr.length = [] from List.drop_eq_nil_of_le (Nat.le_of_eq Cr.len.symm)]; rfl
    rw [e] at hret
    exact (show LeaveK _ _ _ _ _ _ _ from ⟨Lg, _, [], by assumption, news_nil, fun _ _ => hret _ _ _ (HH.keeps (by assumption) (news := []) (news' := []) (fun _ hp => nomatch hp) (fun p hp => nomatch hp))⟩)
end Mine
end
section
open PySem PySem.W PySem.Calls PyProof.Rows
set_option maxRecDepth 100000
set_option maxHeartbeats 8000000
namespace Mine
/-- the contract of a step of reduce: two places in, a place out, nothing old touched -/
def StepTells (prog : Program) (w : World) (prg : Program) (loose : List Str) (mean : ExcName → Option Value) (mg mb : Str → Option Value) (f : Addr) (hb : Heap) (ok : Int → Prop) (ask : Int → Int → Int) : Prop :=
  ∀ (dp un : Nat) (gd : Option (List Code)) (cn : Str) (cs : Scope) (a : Addr) (ccd : Value) (cl : List (Str × Addr)) (outer : List Env) (A₀ : Around) (base h₀ : Heap) (L : Addr) (m : Str → Option Value) (s : Shared) (Q E : Value → Shared → Prop) (i j : Int) (ti tj : Tok),
    Below A₀ base outer h₀ → Fr h₀ L s.heap m → Keeps hb h₀ → Top prg loose mean mg mb h₀ → cs.kind = .function → dp + 30 < 900 → un + 60 < 600 → ok i → ok j →
    (∀ t h' tk', Keeps s.heap h' → Q (.int (ask i j) t) { s with heap := h', toks := tk' }) →
    wpAny (model prog w) (ktrTop dp un gd cn cs L a ccd cl outer) (call (.ref f) [.int i ti, .int j tj]) Q E s
def Halt4 (P : Prop) : Prop := P
theorem Halt4.mk {P : Prop} (h : Halt4 P) : P := h
theorem Halt4.get {P : Prop} (h : P) : Halt4 P := h
local macro_rules | `(tactic| walk_at "exec For Name Name cons nil") => `(tactic| (k_here; refine Halt4.mk ?_))
/-- a list's iterator -/
abbrev itL (l : Addr) (i : Nat) : Obj := { cls := .type "list_iterator", data := .fields #[.ref l, .int i 0] }
section
variable {prog : Program} {w : World} {A : Around} {E : Value → Shared → Prop} {s : Shared} {h₀ : Heap} {L l it : Addr} {m : Str → Option Value} {news : List (Addr × Obj)} {items : Array Value} {x : Value}
theorem iter_call {Q : Value → Shared → Prop} (F : Fr h₀ L s.heap m) (N : News h₀ L s.heap news) (hl : s.heap.IsList l items)
    (h : ∀ I h', Fr h₀ L h' m → News h₀ L h' ((I, itL l 0) :: news) → (∀ p ∈ news, p.1 < I) → Q (.ref I) { s with heap := h' }) :
    wpAny (model prog w) A (call (.builtin "iter") [.ref l]) Q E s := by
  refine call_function_entry (by decide +kernel) (by decide +kernel) kdk_entry_iter (kdk_args_iter _) ?_
  unfold Builtin.«iter»
  refine wpAny_bind (m := someArgs "iter" 1 2 _) (wpAny_of_eq (a := [Value.ref l]) (by first | rfl | kernel_rfl!) ?_)
  show wpAny _ _ (pyIter (.ref l) >>= _) _ _ _
  refine wpAny_bind (wpAny_pyIter_list hl ?_)
  exact wpAny_pure ⟨_, rfl, h _ _ (F.push _) (News.push F N _ rfl) (fun q hq => Heap.lt_size (N q hq).1)⟩
theorem list_special {i : Nat} {Q : Option Value → Shared → Prop} (hit : s.heap.IsListIter it l i) (hl : s.heap.IsList l items) (hx : items[i]? = some x)
    (hQ : ∀ h', h'.IsListIter it l (i + 1) → Heap.SameBut it s.heap h' → Q (some x) { s with heap := h' }) :
    wpAny (model prog w) A (callSpecial? (.ref it) (Str.ofString "__next__")) Q E s := by
  refine hide fun hideG hideH => ?_
  obtain ⟨o, ho, hc, hd⟩ := id hit
  obtain ⟨ol, hol, _, nl, hdl⟩ := hl
  refine hideH ?_; clear hideH hideG
  refine wpAny_callSpecial?_slot (name := Str.ofString "__next__") hit.typeIs slot_listiter_next
    (wpAny_call_entry slot_listiter_next hit.typeIs entry_listiter_next ?_ (args_listiter_next _))
  show wpAny _ _ (field (.ref it) 0 >>= _) _ _ s
  refine wpAny_bind (wpAny_field ho hd (x := .ref l) rfl ?_)
  show wpAny _ _ (if (Value.ref l == Value.none) = true then _ else _) _ _ s
  rw [if_neg (show ¬ ((Value.ref l == Value.none) = true) from Bool.false_ne_true)]
  show wpAny _ _ (field (.ref it) 1 >>= _) _ _ s
  refine wpAny_bind (wpAny_field ho hd (x := .int i 0) rfl ?_)
  show wpAny _ _ (seqItems? (.ref l) >>= _) _ _ s
  refine wpAny_bind (wpAny_seqItems hol hdl ?_)
  simp only [Int.toNat_natCast, hx]
  refine wpAny_bind (wpAny_setField ho hd (by simp) (wpAny_pure ⟨x, rfl, hQ _ ?_ (Heap.SameBut.update ..)⟩))
  exact ⟨_, Heap.get?_update_self _ ho (Obj.isFreed_of_fields (Obj.data_mapFields hd _)), (Obj.cls_mapFields ..).trans hc, by
    rw [Obj.data_mapFields hd]; simp [rawInt]⟩
theorem next_call {i : Nat} {Q : Value → Shared → Prop} {g : Obj → List (Addr × Obj)} (F : Fr h₀ L s.heap m) (N : News h₀ L s.heap news) (U : UpdF it (itL l i) news g) (hl : s.heap.IsList l items) (hx : items[i]? = some x)
    (h : ∀ h' o', Fr h₀ L h' m → News h₀ L h' (g o') → o'.cls = .type "list_iterator" → o'.data = .fields #[.ref l, .int ((i + 1 : Nat) : Int) 0] → Q x { s with heap := h' }) :
    wpAny (model prog w) A (call (.builtin "next") [.ref it]) Q E s := by
  refine hide fun hideG hideH => ?_
  obtain ⟨pre, post, hl', hg, a, b⟩ := U.split
  refine hideH ?_; clear hideH hideG
  have hm := N (it, itL l i) (by rw [hl']; exact List.mem_append_right _ (.head _))
  have hit : s.heap.IsListIter it l i := ⟨_, hm.1, rfl, rfl⟩
  refine call_function_entry (by decide +kernel) (by decide +kernel) kdk_entry_next (kdk_args_next _) ?_
  unfold Builtin.«next»
  refine wpAny_bind (m := someArgs "next" 1 2 _) (wpAny_of_eq (a := [Value.ref it]) (by first | rfl | kernel_rfl!) ?_)
  dsimp only
  refine wpAny_bind (wpAny_specialOf (name := Str.ofString "__next__") hit.typeIs slot_listiter_next.lookup ?_)
  refine wpAny_ite_split (fun hab => absurd hab (by decide)) (fun _ => ?_)
  refine wpAny_bind (list_special hit hl hx fun h' hit' hs => ?_)
  refine hide fun hideG hideH => ?_
  obtain ⟨o', ho', hc', hd'⟩ := id hit'
  refine hideH ?_; clear hideH hideG
  exact wpAny_pure ⟨_, rfl, h h' o' (F.change hs hm.2.1 hm.2.2) (hg o' ▸ (show News h₀ L s.heap (pre ++ (it, itL l i) :: post) from hl' ▸ N).setIn a b hs ho') hc' hd'⟩
end
local macro_rules | `(tactic| walk_at "call builtin:iter") => `(tactic| (k_here; refine HaltC.mk ?_))
local macro_rules | `(tactic| walk_at "call builtin:next") => `(tactic| (k_here; refine HaltC.mk ?_))
theorem ok_fold {ok : Int → Prop} {step : Int → Int → Int} (hst : ∀ a b, ok a → ok b → ok (step a b)) : ∀ (l : List Int) (a : Int), ok a → (∀ n ∈ l, ok n) → ok (l.foldl step a)
  | [], a, h, _ => h
  | b :: l, a, h, hl => ok_fold hst l _ (hst _ _ h (hl b List.mem_cons_self)) fun n hn => hl n (List.mem_cons_of_mem _ hn)
theorem walks_from1 {prog : Program} {w : World} {A : Around} (hh : A.handled = none) (I l : Addr) (hne : l ≠ I) (vs : List Value) (h1 : 1 ≤ vs.length) :
    Walks prog w A I [I, l] [I] (vs.length - 1) (fun i v => vs[i + 1]? = some v) (fun i h => h.IsListIter I l (i + 1) ∧ h.IsList l vs.toArray) := by
  have W := Walks.list (prog := prog) (w := w) hh I l hne vs.toArray
  have hsz : vs.toArray.size = vs.length := by simp
  rw [hsz] at W
  have hn : vs.length - 1 + 1 = vs.length := by lia
  exact { sub := W.sub, frame := fun i => W.frame (i + 1), item := fun i s Q E hi st hQ => W.item (i + 1) s Q E (by lia) st fun v h' tk hP => hQ v h' tk (by simpa using hP),
          done := fun s Q E st hQ => W.done s Q E (by rw [← hn]; exact st) hQ, self := fun i s Q E st hQ => W.self (i + 1) s Q E st hQ }
section
variable {w : World} {prg : Program} {loose : List Str} {mean : ExcName → Option Value} {mg mb : Str → Option Value}
    {dp un : Nat} {gd : Option (List Code)} {cn : Str} {cs : Scope} {a : Addr} {ccd : Value} {cl : List (Str × Addr)} {outer : List Env} {A₀ : Around} {base h₀ : Heap} {L : Addr} {m : Str → Option Value} {s : Shared} {Q E : Value → Shared → Prop}
theorem reduce_tells {f l : Addr} {vs : List Value} {ns : List Int} {hb : Heap} {ok : Int → Prop} {step : Int → Int → Int} {fo : Obj} {fd : FuncData}
    (B : Below A₀ base outer h₀) (F : Fr h₀ L s.heap m) (X : (hd.heap_1 w.params).In h₀) (T : Top prg loose mean mg mb h₀) (hk : cs.kind = .function)
    (hdp : dp + 40 < 900) (hun : un + 80 < 600) (hl : s.heap.IsList l vs.toArray) (hi : IntsAre vs ns) (h63 : ns.length ≤ 63) (h0 : 0 < ns.length)
    (AT : StepTells PySem.Challenge.rw_mq0178_01.row.prog w prg loose mean mg mb f hb ok step) (hkb : Keeps hb s.heap)
    (hf : s.heap.get? f = some fo) (hfd : fo.data = .func fd) (hok : ∀ n ∈ ns, ok n) (hst : ∀ a b, ok a → ok b → ok (step a b))
    (hret : ∀ t h' tk', Keeps s.heap h' → Q (.int (ns.tail.foldl step (ns.headD 0)) t) { s with heap := h', toks := tk' }) :
    wpAny (model PySem.Challenge.rw_mq0178_01.row.prog w) (ktrTop dp un gd cn cs L a ccd cl outer) (call (.ref 30) [.ref f, .ref l]) Q E s := by
  have N : News h₀ L s.heap [] := fun _ hp => nomatch hp
  have hcl : 600 ≤ cLine := by decide
  have hrl : 900 ≤ recursionLimit := by decide
  w_on
  (refine wpAny_call ?_; k_dflt (refine' code_defG ?k1 ?k2 ?k3 ?k4 ?k5 ?kA ?kF ?kK ?k6 ?k7 ?k8 ?k9 ?kB ?_ ?c2 ?c3 ?c4 ?c5; (case kA => exact rfl); (case kF => exact rfl); (case kK => assumption); (case k1 => k_asm); (case k2 => k_asm); (case k3 => k_asm); (case k4 => k_asm); (case k5 => k_asm); (case k6 => k_is); (case k7 => k_is); (case k8 => ktr_room); (case k9 => first | exact BindsTo.of_eq rfl | exact binds_K (by k_in) rfl (by k_is) rfl rfl rfl); (case c5 => decide); (case kB => exact locs rfl); (case c2 => exact rfl); (case c3 => exact rfl); (case c4 => exact rfl); k_whole; intro gg Lg hg FG' FF NN B' X' T' HH; (try dsimp only); (try k_lift B'); (try k_fold)))
  have hfg : gg.get? f = some fo := HH.rest _ _ hf fun _ hp => nomatch hp
  have hfold : ∀ i, i < vs.length - 1 → ok ((ns.tail.take i).foldl step ns[0]) := fun i _ => ok_fold hst _ _ (hok _ (List.getElem_mem _)) fun n hn => hok n (List.mem_of_mem_tail (List.mem_of_mem_take hn))
  have gl : gg.IsList l vs.toArray := hl.at fun o e => HH.rest _ _ e fun _ hp => nomatch hp
  refine hide fun hideG hideH => ?_
  obtain ⟨t0, hv0⟩ := hi.get 0 ns[0] (List.getElem?_eq_getElem h0)
  refine hideH ?_; clear hideH hideG
  have hx0 : vs.toArray[0]? = some (.int ns[0] t0) := by simpa using hv0
  k_steps
  refine HaltC.get ?_
  k_dflt (refine' iter_call ?itF ?itN ?itl ?_; (case itF => k_asm); (case itN => k_asm); (case itl => is_list); k_whole); intro I' h' F' N' l1; (try k_lt l1)
  k_steps
  refine HaltC.get ?_
  k_dflt (refine' next_call (i := 0) ?nxF ?nxN ?nxU ?nxl ?nxx ?_; (case nxF => k_asm); (case nxN => k_asm); (case nxU => k_updF); (case nxl => is_list); (case nxx => assumption); k_whole); intro h' o' F' N' hc' hd'; (try dsimp only at N')
  k_steps
  refine Halt4.get ?_
  rename Fr gg Lg _ _ => F1
  rename News gg Lg _ _ => N1
  rename (Obj.data _ = Data.fields _) => hd1
  rename (Obj.cls _ = Value.type "list_iterator") => hc1
  have hin := N1 _ (.head _)
  dsimp only at hin
  have hil : ns.length = vs.length := hi.length.symm
  refine for_walk (g := gg) (n := vs.length - 1) (P := fun i v => vs[i + 1]? = some v) (fun I i m' h' => m' "function" = some (.ref f) ∧ ∃ tv, m' "value" = some (.int ((ns.tail.take i).foldl step ns[0]) tv)) ?_ (fun I i m h h' _ _ J => J) ?_ ?_
  · refine wpAny_Name (wpAny_loadName_local rfl rfl F1.ns (by with_unfolding_all rfl) ?_) (by decide)
    refine hide fun hideG hideH => ?_
    obtain ⟨ol, hol, _⟩ := id gl
    refine hideH ?_; clear hideH hideG
    have hne : l ≠ _ := fun q => by rw [q] at hol; rw [hin.2.2] at hol; cases hol
    have W := fun A hh => walks_from1 (prog := PySem.Challenge.rw_mq0178_01.row.prog) (w := w) (A := A) hh _ l hne vs (by lia)
    have hst : Heap.IsListIter _ _ l (0 + 1) := ⟨_, hin.1, hc1, hd1⟩
    have hlst : Heap.IsList _ l vs.toArray := gl.at fun o e => F1.keep _ _ e
    refine (W _ rfl).self 0 _ _ _ ⟨hst, hlst⟩ ?_
    refine ⟨_, _, _, _, _, _, rfl, rfl, hin.2.1, hin.2.2, F1, ⟨by with_unfolding_all rfl, _, by with_unfolding_all rfl⟩, fun i h st => ?_, W _ rfl, fun b hb => ?_, ⟨hst, hlst⟩, fun i s' v Q' st hq => letGo_listiter st.1 hq⟩
    · refine hide fun hideG hideH => ?_
      obtain ⟨⟨o, e, _⟩, _⟩ := st
      refine hideH ?_; clear hideH hideG
      exact ⟨o, e⟩
    · rcases List.mem_cons.mp hb with e | hb
      · exact .inl e
      · rw [List.mem_singleton.mp hb]
        exact .inr ⟨_, hol⟩
  · intro I oI i v m₁ h₁ tk₁ rip7 N₁ hi' hv rip11 F₁
    clear rip7
    refine hide fun hideG hideH => ?_
    obtain ⟨a1, tv, a2⟩ := rip11
    refine hideH ?_; clear hideH hideG
    refine hide fun hideG hideH => ?_
    obtain ⟨t1, hv1⟩ := hi.get (i + 1) (ns[i + 1]'(by lia)) (List.getElem?_eq_getElem (by lia))
    refine hideH ?_; clear hideH hideG
    rw [hv1] at hv
    cases hv
    have F₂ : Fr gg Lg h₁ _ := fr_known2 F₁ a1 a2
    have N₂ : News gg Lg h₁ [(I, oI)] := N₁
    clear F₁ N₁ F1 N1
    k_steps
    rename Fr gg Lg _ _ => F3
    rename News gg Lg _ _ => N3
    refine AT _ _ _ _ _ _ _ _ _ _ _ _ _ _ _ _ _ _ _ _ _ B' F3 (fun b o e => HH.rest _ _ (hkb _ _ e) fun _ hp => nomatch hp) T' rfl (by show dp + 1 + 30 < 900; lia) (by first | (show un + 1 + 60 < 600; lia) | (show un + 2 + 60 < 600; lia) | (show un + 3 + 60 < 600; lia) | (show un + 4 + 60 < 600; lia)) ?_ ?_ fun t h' tk' k' => ?_
    · exact hfold i (by lia)
    · exact hok _ (List.getElem_mem _)
    have F4 := F3.keeps k'
    have N4 := N3.grown k'
    clear F3 N3
    k_steps
    rename News gg Lg _ _ => N5
    have htl : ns.tail[i]? = some (ns[i + 1]'(by lia)) := by
      rw [List.getElem?_tail]
      exact List.getElem?_eq_getElem (by lia)
    have he : (ns.tail.take (i + 1)).foldl step ns[0] = step ((ns.tail.take i).foldl step ns[0]) (ns[i + 1]'(by lia)) := by
      rw [List.take_add_one, htl, List.foldl_append]
      rfl
    exact ⟨_, _, _, rfl, by assumption, N5, by with_unfolding_all rfl, _, by rw [he]; with_unfolding_all rfl⟩
  · intro I m₁ h₁ tk₁ rip4 rip5 F₁
    clear rip4
    refine hide fun hideG hideH => ?_
    obtain ⟨a1, tv, a2⟩ := rip5
    refine hideH ?_; clear hideH hideG
    have F₂ : Fr gg Lg h₁ _ := fr_known2 F₁ a1 a2
    have N₂ : News gg Lg h₁ [] := fun _ hp => nomatch hp
    clear F₁ F1 N1
    dsimp only
    k_steps
    have e1 : ns.tail.take (vs.length - 1) = ns.tail := List.take_of_length_le (by rw [List.length_tail]; lia)
    have e2 : ns.headD 0 = ns[0] := by
      cases ns with
      | nil => exact absurd h0 (Nat.lt_irrefl _)
      | cons n r => rfl
    rw [e1]
    rw [e2] at hret
    exact hret tv _ _ (HH.keeps F₂ N₂ (fun p hp => nomatch hp))
end
end Mine
end
section
open PySem PySem.W PySem.Calls PyProof.Rows
set_option maxRecDepth 100000
namespace Mine
/-- a question tree with all its questions answered -/
def kev {α : Type} (lt : Nat → Nat → Bool) : KasT α → α
  | .ret a => a
  | .ask i j k => kev lt (k (lt i j))
theorem kev_bind {α β : Type} (lt : Nat → Nat → Bool) (f : α → KasT β) : ∀ t : KasT α, kev lt (t.bind f) = kev lt (f (kev lt t))
  | .ret _ => rfl
  | .ask i j k => kev_bind lt f (k (lt i j))
/-- where each question is answered as lt says, and an invariant is kept, the tree ends where kev says -/
theorem kev_wp {α : Type} {cmp : Nat → Nat → (Bool → Shared → Prop) → Shared → Prop} {lt : Nat → Nat → Bool} {I : Shared → Prop} {Q : α → Shared → Prop}
    (hc : ∀ i j (C : Bool → Shared → Prop) s, I s → (∀ s', I s' → C (lt i j) s') → cmp i j C s) : ∀ (t : KasT α) (s : Shared), I s → (∀ s', I s' → Q (kev lt t) s') → t.kasWp cmp Q s
  | .ret a, s, hi, hq => hq s hi
  | .ask i j k, s, hi, hq => hc i j _ s hi fun s' hi' => kev_wp hc (k (lt i j)) s' hi' hq

section
variable {r : Nat → Int} {n : Nat}
/-- the strict order of the places: by rank, then by place -/
def bef (r : Nat → Int) (i j : Nat) : Prop := r i < r j ∨ (r i = r j ∧ i < j)
def ltOf (r : Nat → Int) (i j : Nat) : Bool := decide (r i < r j)
abbrev G (p : Array Nat) (k : Nat) : Nat := p.getD k 0
theorem G_of (p : Array Nat) (k : Nat) : G p k = (p[k]?).getD 0 := by
  simp only [G, Array.getD_eq_getD_getElem?]
theorem G_rev {p : Array Nat} {i j : Nat} (hj : j ≤ p.size) (hij : i ≤ j) (k : Nat) : G (kas_rev p i j) k = if i ≤ k ∧ k < j then G p (i + j - 1 - k) else G p k := by
  rw [G_of, G_of, G_of]
  unfold kas_rev
  rw [getElem?_mirror hj _ (by lia)]
  by_cases h : i ≤ k ∧ k < j
  · rw [if_pos h]
    by_cases h2 : (i ≤ k ∧ k < i + (j - i) / 2) ∨ (j - (j - i) / 2 ≤ k ∧ k < j)
    · rw [if_pos h2]
    · rw [if_neg h2]
      have : i + j - 1 - k = k := by lia
      rw [this]
  · rw [if_neg h, if_neg (by lia)]
theorem G_bub {p : Array Nat} {k d : Nat} (hk : k < p.size) (hd : d ≤ k) (a : Nat) : G (bubble p k d) a = if a = k - d then G p k else if k - d < a ∧ a ≤ k then G p (a - 1) else G p a := by
  rw [G_of, getElem?_bubble hk d hd]
  by_cases h : a = k - d
  · rw [if_pos h, if_pos h, G_of]
  · rw [if_neg h, if_neg h]
    by_cases h2 : k - d < a ∧ a ≤ k
    · rw [if_pos h2, if_pos h2, G_of]
    · rw [if_neg h2, if_neg h2, G_of]
structure Srt (r : Nat → Int) (n : Nat) (p : Array Nat) (m : Nat) : Prop where
  size : p.size = n
  le : m ≤ n
  srt : ∀ a b, a < b → b < m → bef r (G p a) (G p b)
  pre : ∀ a, a < m → G p a < m
  suf : ∀ a, m ≤ a → a < n → G p a = a
theorem asc_srt {p : Array Nat} : ∀ (f k : Nat), f + k = n → 1 ≤ k → Srt r n p k → Srt r n p (kev (ltOf r) (kas_asc p f k)) ∧ k ≤ kev (ltOf r) (kas_asc p f k) ∧ (kev (ltOf r) (kas_asc p f k) < n → r (G p (kev (ltOf r) (kas_asc p f k))) < r (G p (kev (ltOf r) (kas_asc p f k) - 1)))
  | 0, k, hf, h1, S => ⟨S, Nat.le_refl _, fun h => absurd h (by show ¬ k < n; lia)⟩
  | f + 1, k, hf, h1, S => by
    have e : kev (ltOf r) (kas_asc p (f + 1) k) = kev (ltOf r) (if ltOf r (G p k) (G p (k - 1)) = true then .ret k else kas_asc p f (k + 1)) := rfl
    rw [e]
    by_cases hl : ltOf r (G p k) (G p (k - 1)) = true
    · rw [if_pos hl]
      exact ⟨S, Nat.le_refl _, fun _ => of_decide_eq_true hl⟩
    · rw [if_neg hl]
      have hl' : ¬ r (G p k) < r (G p (k - 1)) := fun q => hl (decide_eq_true q)
      have hk : G p k = k := S.suf k (Nat.le_refl _) (by lia)
      have S' : Srt r n p (k + 1) := by
        refine ⟨S.size, by lia, fun a b hab hb => ?_, fun a ha => ?_, fun a ha hn => S.suf a (by lia) hn⟩
        · by_cases hbk : b < k
          · exact S.srt a b hab hbk
          · have hb' : b = k := by lia
            subst hb'
            have hpa := S.pre a hab
            rw [hk] at hl' ⊢
            by_cases ha : a = b - 1
            · subst ha
              rcases Int.lt_or_eq_of_le (Int.not_lt.mp hl') with q | q
              · exact .inl q
              · exact .inr ⟨q, hpa⟩
            · have := S.srt a (b - 1) (by lia) (by lia)
              rcases this with q | ⟨q, _⟩
              · exact .inl (Int.lt_of_lt_of_le q (Int.not_lt.mp hl'))
              · rcases Int.lt_or_eq_of_le (Int.not_lt.mp hl') with q2 | q2
                · exact .inl (q ▸ q2)
                · exact .inr ⟨q.trans q2, hpa⟩
        · by_cases h : a < k
          · exact Nat.lt_succ_of_lt (S.pre a h)
          · have : a = k := by lia
            subst this
            lia
      refine hide fun hideG hideH => ?_
      obtain ⟨A, B, C⟩ := asc_srt f (k + 1) (by lia) (by lia) S'
      refine hideH ?_; clear hideH hideG
      exact ⟨A, by lia, C⟩

/-- a falling run whose last q + 1 are alike and still rise in place -/
structure Dsc (r : Nat → Int) (n : Nat) (p : Array Nat) (k q : Nat) : Prop where
  size : p.size = n
  le : k ≤ n
  lt : q < k
  blk : ∀ a b, k ≤ a + (q + 1) → a < b → b < k → r (G p a) = r (G p b) ∧ G p a < G p b
  fal : ∀ a b, a + (q + 1) < k → a < b → b < k → bef r (G p b) (G p a)
  str : ∀ a b, a + (q + 1) < k → k ≤ b + (q + 1) → b < k → r (G p b) < r (G p a)
  pre : ∀ a, a < k → G p a < k
  suf : ∀ a, k ≤ a → a < n → G p a = a
/-- a run that falls -/
structure Fal (r : Nat → Int) (n : Nat) (p : Array Nat) (k : Nat) : Prop where
  size : p.size = n
  le : k ≤ n
  pos : 0 < k
  fal : ∀ a b, a < b → b < k → bef r (G p b) (G p a)
  pre : ∀ a, a < k → G p a < k
  suf : ∀ a, k ≤ a → a < n → G p a = a
/-- the last block turned round: the whole run falls -/
theorem Dsc.flip {p : Array Nat} {k q : Nat} (D : Dsc r n p k q) : Fal r n (kas_rev p (k - (q + 1)) k) k := by
  have hk := D.lt
  have hs : k ≤ p.size := D.size ▸ D.le
  have g := fun a => G_rev (p := p) (i := k - (q + 1)) (j := k) hs (by lia) a
  refine ⟨by unfold kas_rev; rw [mirror_size]; exact D.size, D.le, by lia, fun a b h2 h3 => ?_, fun a ha => ?_, fun a ha hn => ?_⟩
  · rw [g a, g b]
    by_cases ha : k - (q + 1) ≤ a
    · rw [if_pos ⟨by lia, h3⟩, if_pos ⟨ha, by lia⟩]
      have := D.blk (k - (q + 1) + k - 1 - b) (k - (q + 1) + k - 1 - a) (by lia) (by lia) (by lia)
      exact .inr ⟨this.1, this.2⟩
    · rw [if_neg (show ¬ (k - (q + 1) ≤ a ∧ a < k) from fun h => ha h.1)]
      by_cases hb : k - (q + 1) ≤ b
      · rw [if_pos ⟨hb, h3⟩]
        exact D.fal a _ (by lia) (by lia) (by lia)
      · rw [if_neg fun h => hb h.1]
        exact D.fal a b (by lia) h2 h3
  · rw [g a]
    split
    · exact D.pre _ (by lia)
    · exact D.pre _ ha
  · rw [g a, if_neg (by lia)]
    exact D.suf a ha hn
theorem Dsc.zero {p : Array Nat} {k : Nat} (D : Dsc r n p k 0) : Fal r n p k := ⟨D.size, D.le, D.lt, fun a b h2 h3 => D.fal a b (by lia) h2 h3, D.pre, D.suf⟩
theorem Fal.last {p : Array Nat} {k : Nat} (D : Fal r n p k) (a : Nat) (ha : a < k) : r (G p (k - 1)) ≤ r (G p a) := by
  by_cases h : a = k - 1
  · subst h; exact Int.le_refl _
  · rcases D.fal a (k - 1) (by lia) (by lia) with q | ⟨q, _⟩
    · exact Int.le_of_lt q
    · exact Int.le_of_eq q
/-- one lower comes behind a run that falls -/
theorem Fal.down {p : Array Nat} {k : Nat} (D : Fal r n p k) (hk : k < n) (hl : r (G p k) < r (G p (k - 1))) : Dsc r n p (k + 1) 0 := by
  have low : ∀ a, a < k → r (G p k) < r (G p a) := fun a ha => Int.lt_of_lt_of_le hl (D.last a ha)
  refine ⟨D.size, hk, by lia, fun a b h1 h2 h3 => absurd h2 (by lia), fun a b h1 h2 h3 => ?_, fun a b h1 h2 h3 => ?_, fun a ha => ?_, fun a ha hn => D.suf a (by lia) hn⟩
  · by_cases hb : b < k
    · exact D.fal a b h2 hb
    · have : b = k := by lia
      subst this
      exact .inl (low a (by lia))
  · have : b = k := by lia
    subst this
    exact low a (by lia)
  · by_cases h : a < k
    · exact Nat.lt_succ_of_lt (D.pre a h)
    · have : a = k := by lia
      subst this
      rw [D.suf a (Nat.le_refl _) hk]; lia
/-- one alike comes behind -/
theorem Dsc.same {p : Array Nat} {k q : Nat} (D : Dsc r n p k q) (hk : k < n) (hl : r (G p k) = r (G p (k - 1))) : Dsc r n p (k + 1) (q + 1) := by
  have hkk : G p k = k := D.suf k (Nat.le_refl _) hk
  have hlt := D.lt
  refine ⟨D.size, hk, by lia, fun a b h1 h2 h3 => ?_, fun a b h1 h2 h3 => ?_, fun a b h1 h2 h3 => ?_, fun a ha => ?_, fun a ha hn => D.suf a (by lia) hn⟩
  · by_cases hb : b < k
    · exact D.blk a b (by lia) h2 hb
    · have : b = k := by lia
      subst this
      refine ⟨?_, by rw [hkk]; exact D.pre a h2⟩
      by_cases ha : a = b - 1
      · subst ha; exact hl.symm
      · exact (D.blk a (b - 1) (by lia) (by lia) (by lia)).1.trans hl.symm
  · by_cases hb : b < k
    · exact D.fal a b (by lia) h2 hb
    · have : b = k := by lia
      subst this
      exact .inl (hl ▸ D.str a (b - 1) (by lia) (by lia) (by lia))
  · by_cases hb : b < k
    · exact D.str a b (by lia) (by lia) hb
    · have : b = k := by lia
      subst this
      exact hl ▸ D.str a (b - 1) (by lia) (by lia) (by lia)
  · by_cases h : a < k
    · exact Nat.lt_succ_of_lt (D.pre a h)
    · have : a = k := by lia
      subst this
      rw [hkk]; lia

theorem desc_dsc : ∀ (f : Nat) (p : Array Nat) (k q : Nat), f + k = n → Dsc r n p k q → Dsc r n (kev (ltOf r) (kas_desc f p k q)).1 (kev (ltOf r) (kas_desc f p k q)).2.1 (kev (ltOf r) (kas_desc f p k q)).2.2
  | 0, p, k, q, hf, D => D
  | f + 1, p, k, q, hf, D => by
    have e : kev (ltOf r) (kas_desc (f + 1) p k q) = kev (ltOf r) (if ltOf r (G p k) (G p (k - 1)) = true then (if q > 0 then kas_desc f (kas_rev p (k - (q + 1)) k) (k + 1) 0 else kas_desc f p (k + 1) 0)
        else .ask (G p (k - 1)) (G p k) fun d => if d = true then .ret (p, k, q) else kas_desc f p (k + 1) (q + 1)) := rfl
    rw [e]
    have hkk : G p k = k := D.suf k (Nat.le_refl _) (by lia)
    have hkp := D.lt
    by_cases hl : ltOf r (G p k) (G p (k - 1)) = true
    · rw [if_pos hl]
      have hl' : r (G p k) < r (G p (k - 1)) := of_decide_eq_true hl
      by_cases hq : q > 0
      · rw [if_pos hq]
        have hs : k ≤ p.size := D.size ▸ D.le
        have g := fun a => G_rev (p := p) (i := k - (q + 1)) (j := k) hs (by lia) a
        refine desc_dsc f _ (k + 1) 0 (by lia) (D.flip.down (by lia) ?_)
        rw [g k, g (k - 1), if_neg (by lia), if_pos (by lia)]
        rw [← (D.blk (k - (q + 1) + k - 1 - (k - 1)) (k - 1) (by lia) (by lia) (by lia)).1] at hl'
        exact hl'
      · rw [if_neg hq]
        have : q = 0 := by lia
        subst this
        exact desc_dsc f p (k + 1) 0 (by lia) (D.zero.down (by lia) hl')
    · rw [if_neg hl]
      have hl' : ¬ r (G p k) < r (G p (k - 1)) := fun q => hl (decide_eq_true q)
      show Dsc r n (kev (ltOf r) (if ltOf r (G p (k - 1)) (G p k) = true then .ret (p, k, q) else kas_desc f p (k + 1) (q + 1))).1 (kev (ltOf r) (if ltOf r (G p (k - 1)) (G p k) = true then .ret (p, k, q) else kas_desc f p (k + 1) (q + 1))).2.1 (kev (ltOf r) (if ltOf r (G p (k - 1)) (G p k) = true then .ret (p, k, q) else kas_desc f p (k + 1) (q + 1))).2.2
      by_cases hm : ltOf r (G p (k - 1)) (G p k) = true
      · rw [if_pos hm]; exact D
      · rw [if_neg hm]
        have hm' : ¬ r (G p (k - 1)) < r (G p k) := fun q => hm (decide_eq_true q)
        exact desc_dsc f p (k + 1) (q + 1) (by lia) (D.same (by lia) (by lia))
/-- a falling run turned round rises -/
theorem Fal.turn {p : Array Nat} {k : Nat} (D : Fal r n p k) : Srt r n (kas_rev p 0 k) k := by
  have hs : k ≤ p.size := D.size ▸ D.le
  have g := fun a => G_rev (p := p) (i := 0) (j := k) hs (by lia) a
  refine ⟨by unfold kas_rev; rw [mirror_size]; exact D.size, D.le, fun a b hab hb => ?_, fun a ha => ?_, fun a ha hn => ?_⟩
  · rw [g a, g b, if_pos (by lia), if_pos (by lia)]
    exact D.fal _ _ (by lia) (by lia)
  · rw [g a, if_pos (by lia)]
    exact D.pre _ (by lia)
  · rw [g a, if_neg (by lia)]
    exact D.suf a ha hn
theorem tail3_srt {p : Array Nat} {k : Nat} (D : Fal r n p k) : Srt r n (kev (ltOf r) (kas_tail3 k n p)).2 (kev (ltOf r) (kas_tail3 k n p)).1 ∧ 1 ≤ (kev (ltOf r) (kas_tail3 k n p)).1 := by
  unfold kas_tail3
  rw [kev_bind]
  have hp := D.pos
  have hl := D.le
  refine hide fun hideG hideH => ?_
  obtain ⟨A, B, _⟩ := asc_srt (r := r) (n := n) (n - k) k (by lia) D.pos D.turn
  refine hideH ?_; clear hideH hideG
  exact ⟨A, by show 1 ≤ kev (ltOf r) (kas_asc (kas_rev p 0 k) (n - k) k); lia⟩
theorem descPart_srt {p : Array Nat} {k : Nat} (D : Dsc r n p (k + 1) 0) : Srt r n (kev (ltOf r) (kas_descPart k n p)).2 (kev (ltOf r) (kas_descPart k n p)).1 ∧ 1 ≤ (kev (ltOf r) (kas_descPart k n p)).1 := by
  unfold kas_descPart
  rw [kev_bind]
  have hl := D.le
  have D' := desc_dsc (r := r) (n - (k + 1)) p (k + 1) 0 (by lia) D
  generalize kev (ltOf r) (kas_desc (n - (k + 1)) p (k + 1) 0) = x at D' ⊢
  refine hide fun hideG hideH => ?_
  obtain ⟨p', k', q'⟩ := x
  refine hideH ?_; clear hideH hideG
  by_cases hq : q' > 0
  · rw [if_pos hq]
    exact tail3_srt D'.flip
  · rw [if_neg hq]
    have : q' = 0 := Nat.eq_zero_of_not_pos hq
    subst this
    exact tail3_srt D'.zero

theorem G_range {n k : Nat} (h : k < n) : G (List.toArray (List.range n)) k = k := by
  rw [G_of]
  simp [h]
theorem start_srt (h1 : 1 ≤ n) : Srt r n (List.toArray (List.range n)) 1 :=
  ⟨by simp, h1, fun a b h2 h3 => absurd h2 (by lia), fun a ha => by rw [G_range (by lia)]; exact ha, fun a _ hn => G_range hn⟩
theorem count_srt (h1 : 1 ≤ n) : Srt r n (kev (ltOf r) (kas_count n (List.toArray (List.range n)))).2 (kev (ltOf r) (kas_count n (List.toArray (List.range n)))).1 ∧ 1 ≤ (kev (ltOf r) (kas_count n (List.toArray (List.range n)))).1 := by
  unfold kas_count
  rw [kev_bind]
  refine hide fun hideG hideH => ?_
  obtain ⟨A, B, C⟩ := asc_srt (r := r) (n := n) (p := List.toArray (List.range n)) (n - 1) 1 (by lia) (Nat.le_refl _) (start_srt h1)
  refine hideH ?_; clear hideH hideG
  generalize kev (ltOf r) (kas_asc (List.toArray (List.range n)) (n - 1) 1) = m at A B C ⊢
  generalize List.toArray (List.range n) = p at A C ⊢
  by_cases hm : (m == n) = true
  · rw [if_pos hm]
    exact ⟨A, B⟩
  · rw [if_neg hm]
    have hmn : m < n := by
      have := A.le
      have : m ≠ n := fun q => hm (beq_iff_eq.mpr q)
      lia
    have C' := C hmn
    by_cases h2 : m > 1
    · rw [if_pos h2]
      show Srt r n (kev (ltOf r) (if ltOf r (G p 0) (G p (m - 1)) = true then .ret (m, p) else kas_descPart m n (kas_rev p 0 m))).2 (kev (ltOf r) (if ltOf r (G p 0) (G p (m - 1)) = true then .ret (m, p) else kas_descPart m n (kas_rev p 0 m))).1 ∧ 1 ≤ (kev (ltOf r) (if ltOf r (G p 0) (G p (m - 1)) = true then .ret (m, p) else kas_descPart m n (kas_rev p 0 m))).1
      by_cases hl : ltOf r (G p 0) (G p (m - 1)) = true
      · rw [if_pos hl]
        exact ⟨A, B⟩
      · rw [if_neg hl]
        have hl' : ¬ r (G p 0) < r (G p (m - 1)) := fun q => hl (decide_eq_true q)
        have hs : m ≤ p.size := A.size ▸ A.le
        have g := fun a => G_rev (p := p) (i := 0) (j := m) hs (by lia) a
        have F : Fal r n (kas_rev p 0 m) m := by
          refine ⟨by unfold kas_rev; rw [mirror_size]; exact A.size, A.le, by lia, fun a b hab hb => ?_, fun a ha => ?_, fun a ha hn => ?_⟩
          · rw [g a, g b, if_pos (by lia), if_pos (by lia)]
            exact A.srt _ _ (by lia) (by lia)
          · rw [g a, if_pos (by lia)]
            exact A.pre _ (by lia)
          · rw [g a, if_neg (by lia)]
            exact A.suf a ha hn
        refine descPart_srt (F.down hmn ?_)
        rw [g m, g (m - 1), if_neg (by lia), if_pos (by lia)]
        have e0 : 0 + m - 1 - (m - 1) = 0 := by lia
        rw [e0]
        exact Int.lt_of_lt_of_le C' (Int.not_lt.mp hl')
    · rw [if_neg h2]
      have hm1 : m = 1 := by lia
      subst hm1
      refine descPart_srt (Fal.down ⟨A.size, A.le, by lia, fun a b h1 h2 => absurd h1 (by lia), A.pre, A.suf⟩ hmn C')
theorem place_at {p : Array Nat} {k : Nat} (S : Srt r n p k) (hk : k < n) : ∀ (f l u : Nat), l ≤ u → u ≤ k → u - l ≤ f → (∀ a, a < l → ¬ r (G p k) < r (G p a)) → (∀ a, u ≤ a → a < k → r (G p k) < r (G p a)) →
    kev (ltOf r) (kas_place p k f l u) ≤ k ∧ (∀ a, a < kev (ltOf r) (kas_place p k f l u) → ¬ r (G p k) < r (G p a)) ∧ (∀ a, kev (ltOf r) (kas_place p k f l u) ≤ a → a < k → r (G p k) < r (G p a))
  | 0, l, u, h1, h2, h3, h4, h5 => ⟨by show l ≤ k; lia, h4, fun a ha hk => h5 a (by have : l ≤ a := ha; lia) hk⟩
  | f + 1, l, u, h1, h2, h3, h4, h5 => by
    unfold kas_place
    by_cases hlu : l ≥ u
    · rw [if_pos hlu]
      exact ⟨by show l ≤ k; lia, h4, fun a ha hk => h5 a (by have : l ≤ a := ha; lia) hk⟩
    · rw [if_neg hlu]
      have mono : ∀ a b, a ≤ b → b < k → r (G p a) ≤ r (G p b) := fun a b hab hb => by
        by_cases q : a = b
        · subst q; exact Int.le_refl _
        · rcases S.srt a b (by lia) hb with q | ⟨q, _⟩
          · exact Int.le_of_lt q
          · exact Int.le_of_eq q
      show kev (ltOf r) (if ltOf r (G p k) (G p ((l + u) / 2)) = true then kas_place p k f l ((l + u) / 2) else kas_place p k f ((l + u) / 2 + 1) u) ≤ k ∧ (∀ a, a < kev (ltOf r) (if ltOf r (G p k) (G p ((l + u) / 2)) = true then kas_place p k f l ((l + u) / 2) else kas_place p k f ((l + u) / 2 + 1) u) → ¬ r (G p k) < r (G p a)) ∧ (∀ a, kev (ltOf r) (if ltOf r (G p k) (G p ((l + u) / 2)) = true then kas_place p k f l ((l + u) / 2) else kas_place p k f ((l + u) / 2 + 1) u) ≤ a → a < k → r (G p k) < r (G p a))
      by_cases hl : ltOf r (G p k) (G p ((l + u) / 2)) = true
      · rw [if_pos hl]
        exact place_at S hk f l ((l + u) / 2) (by lia) (by lia) (by lia) h4 fun a ha hak => Int.lt_of_lt_of_le (of_decide_eq_true hl) (mono _ _ ha hak)
      · rw [if_neg hl]
        have hl' : ¬ r (G p k) < r (G p ((l + u) / 2)) := fun q => hl (decide_eq_true q)
        exact place_at S hk f ((l + u) / 2 + 1) u (by lia) h2 (by lia) (fun a ha q => hl' (Int.lt_of_lt_of_le q (mono a _ (by lia) (by lia)))) h5
theorem bin_srt : ∀ (f : Nat) (p : Array Nat) (k : Nat), f + k = n → Srt r n p k → Srt r n (kev (ltOf r) (kas_bin f p k)) n
  | 0, p, k, hf, S => by
    have : k = n := by lia
    subst this
    exact S
  | f + 1, p, k, hf, S => by
    unfold kas_bin
    rw [kev_bind]
    have hk : k < n := by lia
    refine hide fun hideG hideH => ?_
    obtain ⟨A, B, C⟩ := place_at S hk k 0 k (by lia) (Nat.le_refl _) (by lia) (fun a ha => absurd ha (by lia)) (fun a ha hk => absurd ha (by lia))
    refine hideH ?_; clear hideH hideG
    generalize kev (ltOf r) (kas_place p k k 0 k) = l at A B C ⊢
    have hkk : G p k = k := S.suf k (Nat.le_refl _) hk
    have g := fun a => G_bub (p := p) (k := k) (d := k - l) (by rw [S.size]; exact hk) (by lia) a
    have e : k - (k - l) = l := by lia
    rw [e] at g
    refine bin_srt f _ (k + 1) (by lia) ⟨by rw [bubble_size]; exact S.size, hk, fun a b hab hb => ?_, fun a ha => ?_, fun a ha hn => ?_⟩
    · rw [g a, g b]
      by_cases ha : a = l
      · subst ha
        rw [if_pos rfl, if_neg (by lia), if_pos (by lia)]
        exact .inl (C (b - 1) (by lia) (by lia))
      · rw [if_neg ha]
        by_cases hb' : b = l
        · subst hb'
          rw [if_neg (by lia), if_pos rfl, hkk]
          have q := B a hab
          rw [hkk] at q
          rcases Int.lt_or_eq_of_le (Int.not_lt.mp q) with q | q
          · exact .inl q
          · exact .inr ⟨q, S.pre a (by lia)⟩
        · rw [if_neg hb']
          by_cases ha2 : l < a
          · rw [if_pos ⟨ha2, by lia⟩, if_pos ⟨by lia, by lia⟩]
            exact S.srt _ _ (by lia) (by lia)
          · rw [if_neg (fun h => ha2 h.1)]
            by_cases hb2 : l < b
            · rw [if_pos ⟨hb2, by lia⟩]
              exact S.srt _ _ (by lia) (by lia)
            · rw [if_neg (fun h => hb2 h.1)]
              exact S.srt _ _ hab (by lia)
    · rw [g a]
      split
      · rw [hkk]; lia
      · split
        · exact Nat.lt_succ_of_lt (S.pre _ (by lia))
        · by_cases h : a < k
          · exact Nat.lt_succ_of_lt (S.pre _ h)
          · lia
    · rw [g a, if_neg (by lia), if_neg (by lia)]
      exact S.suf a (by lia) hn
/-- the sort's question tree, answered by a rank, ends with the places in order -/
theorem sort_srt (h1 : 1 ≤ n) : Srt r n (kev (ltOf r) (kas_sort n)) n := by
  unfold kas_sort
  rw [kev_bind]
  refine hide fun hideG hideH => ?_
  obtain ⟨S, h⟩ := count_srt (r := r) h1
  refine hideH ?_; clear hideH hideG
  generalize kev (ltOf r) (kas_count n (List.toArray (List.range n))) = x at S h ⊢
  refine hide fun hideG hideH => ?_
  obtain ⟨m, p⟩ := x
  refine hideH ?_; clear hideH hideG
  have hl := S.le
  by_cases hm : m < n
  · rw [if_pos hm]
    have e : max m 1 = m := Nat.max_eq_left h
    rw [e]
    exact bin_srt (n - m) p m (by lia) S
  · rw [if_neg hm]
    have : m = n := by
      have : m ≤ n := hl
      lia
    subst this
    exact S
end
end Mine
end
section
open PySem PySem.W PySem.Calls PyProof.Rows
set_option maxRecDepth 100000
namespace Mine
/-- every question asks for two places that are there, every end is a P -/
def KOk {α : Type} (n : Nat) (P : α → Prop) : KasT α → Prop
  | .ret a => P a
  | .ask i j k => i < n ∧ j < n ∧ ∀ b, KOk n P (k b)
theorem KOk.bind {α β : Type} {n : Nat} {P : α → Prop} {R : β → Prop} {f : α → KasT β} (hf : ∀ a, P a → KOk n R (f a)) : ∀ t : KasT α, KOk n P t → KOk n R (t.bind f)
  | .ret a, h => hf a h
  | .ask i j k, h => ⟨h.1, h.2.1, fun b => KOk.bind hf (k b) (h.2.2 b)⟩
theorem kok_wp {α : Type} {n : Nat} {P : α → Prop} {cmp : Nat → Nat → (Bool → Shared → Prop) → Shared → Prop} {lt : Nat → Nat → Bool} {I : Shared → Prop} {Q : α → Shared → Prop}
    (hc : ∀ i j (C : Bool → Shared → Prop) s, i < n → j < n → I s → (∀ s', I s' → C (lt i j) s') → cmp i j C s) : ∀ (t : KasT α) (s : Shared), KOk n P t → I s → (∀ s', I s' → Q (kev lt t) s') → t.kasWp cmp Q s
  | .ret a, s, _, hi, hq => hq s hi
  | .ask i j k, s, h, hi, hq => hc i j _ s h.1 h.2.1 hi fun s' hi' => kok_wp hc (k (lt i j)) s' (h.2.2 _) hi' hq
theorem kok_kev {α : Type} {n : Nat} {P : α → Prop} (lt : Nat → Nat → Bool) : ∀ t : KasT α, KOk n P t → P (kev lt t)
  | .ret a, h => h
  | .ask i j k, h => kok_kev lt (k (lt i j)) (h.2.2 _)
def Ent (n : Nat) (p : Array Nat) : Prop := ∀ x ∈ p, x < n
theorem Ent.at {n : Nat} {p : Array Nat} (h : Ent n p) (h0 : 0 < n) (k : Nat) : p.getD k 0 < n := by
  rw [Array.getD_eq_getD_getElem?]
  cases q : p[k]? with
  | none => exact h0
  | some x => exact h x (Array.mem_of_getElem? q)
theorem Ent.perm {n : Nat} {p q : Array Nat} (h : Ent n p) (e : q.Perm p) : Ent n q := fun x hx => h x (e.mem_iff.mp hx)
theorem Ent.rev {n : Nat} {p : Array Nat} (h : Ent n p) (i j : Nat) : Ent n (kas_rev p i j) := h.perm (mirror_perm _ _ _ _)
theorem Ent.bub {n : Nat} {p : Array Nat} (h : Ent n p) (i j : Nat) : Ent n (bubble p i j) := h.perm (bubble_perm _ _ _)
section
variable {n : Nat} (h0 : 0 < n)
include h0
theorem ok_asc {p : Array Nat} (h : Ent n p) : ∀ (f k : Nat), KOk n (fun _ => True) (kas_asc p f k)
  | 0, k => trivial
  | f + 1, k => ⟨h.at h0 _, h.at h0 _, fun b => by cases b; exact ok_asc h f (k + 1); exact trivial⟩
theorem ok_desc : ∀ (f : Nat) (p : Array Nat) (k q : Nat), Ent n p → KOk n (fun r => Ent n r.1) (kas_desc f p k q)
  | 0, p, k, q, h => h
  | f + 1, p, k, q, h => ⟨h.at h0 _, h.at h0 _, fun b => by
    cases b
    · exact ⟨h.at h0 _, h.at h0 _, fun d => by cases d; exact ok_desc f p _ _ h; exact h⟩
    · show KOk n _ (if q > 0 then kas_desc f (kas_rev p (k - (q + 1)) k) (k + 1) 0 else kas_desc f p (k + 1) 0)
      split
      · exact ok_desc f _ _ _ (h.rev _ _)
      · exact ok_desc f p _ _ h⟩
theorem ok_tail3 {p : Array Nat} (k m : Nat) (h : Ent n p) : KOk n (fun r => Ent n r.2) (kas_tail3 k m p) := by
  unfold kas_tail3
  refine KOk.bind (P := fun _ => True) (fun m _ => ?_) _ (ok_asc h0 (h.rev _ _) _ _)
  exact h.rev _ _
theorem ok_descPart {p : Array Nat} (k m : Nat) (h : Ent n p) : KOk n (fun r => Ent n r.2) (kas_descPart k m p) :=
  KOk.bind (fun a ha => by
    split
    · exact ok_tail3 h0 _ _ (ha.rev _ _)
    · exact ok_tail3 h0 _ _ ha) _ (ok_desc h0 _ _ _ _ h)
theorem ok_count {p : Array Nat} (m : Nat) (h : Ent n p) : KOk n (fun r => Ent n r.2) (kas_count m p) :=
  KOk.bind (fun a _ => by
    split
    · exact h
    · split
      · refine ⟨h.at h0 _, h.at h0 _, fun b => ?_⟩
        cases b
        · exact ok_descPart h0 _ _ (h.rev _ _)
        · exact h
      · exact ok_descPart h0 _ _ h) _ (ok_asc h0 h _ _)
theorem ok_place {p : Array Nat} (k : Nat) (h : Ent n p) : ∀ (f l r : Nat), KOk n (fun _ => True) (kas_place p k f l r)
  | 0, l, r => trivial
  | f + 1, l, r => by
    unfold kas_place
    split
    · trivial
    · refine ⟨h.at h0 _, h.at h0 _, fun b => ?_⟩
      cases b
      · exact ok_place k h f _ _
      · exact ok_place k h f _ _
theorem ok_bin : ∀ (f : Nat) (p : Array Nat) (k : Nat), Ent n p → KOk n (Ent n) (kas_bin f p k)
  | 0, p, k, h => h
  | f + 1, p, k, h => KOk.bind (fun a _ => ok_bin f _ _ (h.bub _ _)) _ (ok_place h0 k h _ _ _)
theorem ok_sort : KOk n (Ent n) (kas_sort n) :=
  KOk.bind (fun a ha => by
    split
    · exact ok_bin h0 _ _ _ ha
    · exact ha) _ (ok_count h0 n fun x hx => by simpa using hx)
end
end Mine
end
section
open PySem PySem.W PySem.W.X PySem.Calls PyProof.Rows
set_option maxRecDepth 100000
set_option maxHeartbeats 4000000
namespace Mine
def KeyOk (C : Addr) (h : Heap) (x : Addr) (v : Value) : Prop := ∃ dx, h.get? x = some (keyO C dx v) ∧ h.get? dx = some emptyDict
theorem KeyOk.keeps {C : Addr} {h h' : Heap} {x : Addr} {v : Value} (k : KeyOk C h x v) (hk : Keeps h h') : KeyOk C h' x v := let ⟨dx, a, b⟩ := k; ⟨dx, hk _ _ a, hk _ _ b⟩
section
variable {prog : Program} {w : World} {A : Around} {E : Value → Shared → Prop} {g : Array GenState} {dr : Drawn} {os : OsState} {C a : Addr} {f : Value} {vs : List Value} {h0 : Heap} {lt : Nat → Nat → Bool} {b : Bool}
/-- what the sort needs of its keys -/
structure SortEnv (prog : Program) (w : World) (A : Around) (g : Array GenState) (dr : Drawn) (os : OsState) (C : Addr) (f : Value) (vs : List Value) (h0 : Heap) (lt : Nat → Nat → Bool) : Prop where
  key : ∀ h tk (i : Nat) v (Q : Value → Shared → Prop), vs[i]? = some v → Keeps h0 h → (∀ x h' tk', Keeps h h' → KeyOk C h' x v → Q (.ref x) ⟨h', g, dr, tk', os⟩) → wpAny (model prog w) A (call f [v]) Q (fun _ _ => False) ⟨h, g, dr, tk, os⟩
  cmp : ∀ h tk (i j : Nat) v u x y (Q : Bool → Shared → Prop), vs[i]? = some v → vs[j]? = some u → Keeps h0 h → KeyOk C h x v → KeyOk C h y u → (∀ h' tk', Keeps h h' → Q (lt i j) ⟨h', g, dr, tk', os⟩) → wpAny (model prog w) A (keyLt' oneType' (.ref x) (.ref y)) Q (fun _ _ => False) ⟨h, g, dr, tk, os⟩
/-- the keys made so far -/
def KeysAt (C : Addr) (h : Heap) (vs : List Value) (xs : List Addr) : Prop := xs.length ≤ vs.length ∧ ∀ (i : Nat) x, xs[i]? = some x → ∃ v, vs[i]? = some v ∧ KeyOk C h x v
theorem KeysAt.keeps {h h' : Heap} {xs : List Addr} (k : KeysAt C h vs xs) (hk : Keeps h h') : KeysAt C h' vs xs := ⟨k.1, fun i x e => let ⟨v, e1, e2⟩ := k.2 i x e; ⟨v, e1, e2.keeps hk⟩⟩
def turnI (b : Bool) (n i : Nat) : Nat := if b then n - 1 - i else i
/-- the sorted items -/
def sortOut (b : Bool) (vs : List Value) (lt : Nat → Nat → Bool) : Array Value :=
  let p := kev (fun i j => lt (turnI b vs.length i) (turnI b vs.length j)) (kas_sort vs.length)
  let o := p.map fun i => vs.getD (turnI b vs.length i) .none
  if b then o.reverse else o
theorem sk_tail {st : SortSt} {h : Heap} {tk e e1 : Nat} {kS : Addr} {keys : Array Value} {P : PySem.Fin → Shared → Prop} (k0 : Keeps h0 h) (hk : h.get? kS = some (seqObj "list" keys e)) (ha : h.get? a = some (seqObj "list" #[] e1)) (hka : kS ≠ a) (hk0 : h0.get? kS = none) (ha0 : h0.get? a = none)
    (hsz : keys.size < 64) (hs2 : (arrOf st).size < 64) (hfl : failedOf st = none)
    (hq : ∀ h' c, Keeps h0 h' → h'.get? a = some (seqObj "list" (if b then ((arrOf st).map (·.2)).reverse else (arrOf st).map (·.2)) c) → P (.done (.ret .none)) ⟨h', g, dr, tk, os⟩) :
    wpAny (model prog w) A (ksk_tail a b e1 (.ref kS) st) P E ⟨h, g, dr, tk, os⟩ := by
  have hout : (if b then ((arrOf st).map (·.2)).reverse else (arrOf st).map (·.2)).size = (arrOf st).size := by
    cases b <;> simp
  have s1 := Heap.SameBut.update h kS (Obj.mapSeq fun _ => (#[] : Array Value))
  have na1 : (h.update kS (Obj.mapSeq fun _ => (#[] : Array Value))).get? a = some (seqObj "list" #[] e1) := (s1.2 a hka.symm).trans ha
  have s2 := Heap.SameBut.update (h.update kS (Obj.mapSeq fun _ => (#[] : Array Value))) a (Obj.mapSeq fun _ => if b then ((arrOf st).map (·.2)).reverse else (arrOf st).map (·.2))
  have up : ∀ (hh : Heap) (o : Array Value), hh.get? a = some (seqObj "list" #[] e1) → ∃ c2, (hh.update a (Obj.mapSeq fun _ => o)).get? a = some (seqObj "list" o c2) := fun hh o e => ⟨_, get?_update_seq e fun _ => o⟩
  refine hide fun hideG hideH => ?_
  obtain ⟨c2, hc2⟩ := up _ (if b then ((arrOf st).map (·.2)).reverse else (arrOf st).map (·.2)) na1
  refine hideH ?_; clear hideH hideG
  unfold ksk_tail
  try dsimp only
  refine wpAny_bind (listUpdate_at hk rfl ?_ (by rw [sizeLine_eq]; lia) (Nat.zero_le _))
  refine wpAny_bind (wpAny_letGo ?_)
  refine wpAny_bind (seqEpoch_at na1 rfl ?_)
  refine wpAny_bind (listUpdate_at na1 rfl ?_ (Nat.zero_le _) (Nat.le_trans (Nat.le_of_eq hout) (by rw [sizeLine_eq]; lia)))
  rw [hfl]
  simp only [bne_self_eq_false, Bool.false_eq_true, if_false]
  refine wpAny_pure (hq _ c2 (fun x o e => ?_) hc2)
  have h1 : x ≠ kS := fun q => by rw [q, hk0] at e; cases e
  have h2 : x ≠ a := fun q => by rw [q, ha0] at e; cases e
  exact (s2.2 x h2).trans ((s1.2 x h1).trans (k0 _ _ e))
theorem KeysAt.push {h : Heap} {xs : List Addr} {x : Addr} {v : Value} (k : KeysAt C h vs xs) (hv : vs[xs.length]? = some v) (kx : KeyOk C h x v) : KeysAt C h vs (xs ++ [x]) := by
  refine ⟨?_, fun i y e => ?_⟩
  · rw [List.length_append]
    have := (List.getElem?_eq_some_iff.mp hv).1
    simp only [List.length_cons, List.length_nil]
    lia
  · by_cases hi : i < xs.length
    · rw [List.getElem?_append_left hi] at e
      exact k.2 i y e
    · rw [List.getElem?_append_right (by lia)] at e
      have h2 := (List.getElem?_eq_some_iff.mp e).1
      simp only [List.length_cons, List.length_nil] at h2
      have : i = xs.length := by lia
      subst this
      rw [Nat.sub_self] at e
      cases e
      exact ⟨v, hv, kx⟩
theorem sk_end {h : Heap} {tk e e1 : Nat} {kS : Addr} {xs : List Addr} {P : PySem.Fin → Shared → Prop} (SE : SortEnv prog w A g dr os C f vs h0 lt) (k0 : Keeps h0 h) (hk : h.get? kS = some (seqObj "list" (List.toArray (xs.map Value.ref)) e)) (ha : h.get? a = some (seqObj "list" #[] e1)) (hka : kS ≠ a) (hk0 : h0.get? kS = none) (ha0 : h0.get? a = none)
    (KA : KeysAt C h vs xs) (hlen : xs.length = vs.length) (h2 : 2 ≤ vs.length) (h64 : vs.length < 64) (hne : ∀ h' x v, KeyOk C h' x v → Looks (model prog w) h' (typeOf (.ref x)) (.ref C))
    (hq : ∀ h' tk' c, Keeps h0 h' → h'.get? a = some (seqObj "list" (sortOut b vs lt) c) → P (.done (.ret .none)) ⟨h', g, dr, tk', os⟩) :
    wpAny (model prog w) A (ksk_end a b vs.toArray e1 (.ref kS) (List.toArray (xs.map Value.ref))) P E ⟨h, g, dr, tk, os⟩ := by
  have step : ∀ t : Sem PySem.Fin, wpAny (model prog w) A t P E ⟨h, g, dr, tk, os⟩ → wpAny (model prog w) A (if b = true then (do let _ ← rule "list.sort.reverse"; t) else t) P E ⟨h, g, dr, tk, os⟩ := by
    intro t ht
    split
    · exact wpAny_bind (wpAny_rule ht)
    · exact ht
  have hzl : ((List.toArray (xs.map Value.ref)).zip vs.toArray).size = vs.length := by simp [hlen]
  obtain ⟨it, hit⟩ : ∃ it, it = if b = true then ((List.toArray (xs.map Value.ref)).zip vs.toArray).reverse else (List.toArray (xs.map Value.ref)).zip vs.toArray := ⟨_, rfl⟩
  have hsz : it.size = vs.length := by rw [hit]; cases b <;> simp [hlen]
  have hat : ∀ i, i < vs.length → ∃ x v, xs[turnI b vs.length i]? = some x ∧ vs[turnI b vs.length i]? = some v ∧ kas_item it i = (.ref x, v) := by
    intro i hi
    have ht : turnI b vs.length i < vs.length := by unfold turnI; split <;> lia
    refine ⟨_, _, List.getElem?_eq_getElem (by lia), List.getElem?_eq_getElem ht, ?_⟩
    have hi' : i < it.size := by lia
    have e : kas_item it i = it[i] := by simp [kas_item, Array.getD, hi']
    rw [e]
    subst hit
    cases b
    · simp [turnI]
    · simp [turnI, hlen]
  unfold ksk_end
  try dsimp only
  refine step _ ?_
  have hn2 : ¬ vs.toArray.size < 2 := by rw [List.size_toArray]; lia
  rw [if_neg hn2, if_neg hn2]
  refine wpAny_bind (kas_kind (T := .ref C) (by rw [List.length_map]; lia) (fun v hv => ?_) rfl (by simp) ?_)
  · refine hide fun hideG hideH => ?_
    obtain ⟨x, hx, rfl⟩ := List.mem_map.mp hv
    obtain ⟨i, hi⟩ := List.getElem?_of_mem hx
    obtain ⟨v, _, kx⟩ := KA.2 i x hi
    refine hideH ?_; clear hideH hideG
    exact hne _ _ _ kx
  rw [← hit]
  have est : SortSt.mk' oneType' it #[] 7 none = kas_st oneType' it (List.toArray (List.range vs.length)) := by
    have e := kas_range it
    rw [hsz] at e
    unfold kas_st
    rw [e]
  have hn0 : 0 < vs.length := by lia
  have run := kas_runs (prog := prog) (w := w) (A := A) (κ := oneType') (it := it) (E := E) (s := ⟨h, g, dr, tk, os⟩) (G := fun p s' => p = kev (fun i j => lt (turnI b vs.length i) (turnI b vs.length j)) (kas_sort vs.length) ∧ ∃ h' tk', s' = ⟨h', g, dr, tk', os⟩ ∧ Keeps h h')
    (Q := fun _ st' s' => ∃ p : Array Nat, p.size = vs.length ∧ arrOf st' = p.map (kas_item it) ∧ failedOf st' = none ∧ p = kev (fun i j => lt (turnI b vs.length i) (turnI b vs.length j)) (kas_sort vs.length) ∧ ∃ h' tk', s' = ⟨h', g, dr, tk', os⟩ ∧ Keeps h h')
    h2 h64 (fun p' st' s' a1 a2 a3 a4 => ⟨p', a1, a2, a3, a4⟩)
    (kok_wp (I := fun s' => ∃ h' tk', s' = ⟨h', g, dr, tk', os⟩ ∧ Keeps h h') (fun i j D s hi hj hI hD => ?_) _ _ (ok_sort hn0) ⟨h, tk, rfl, Keeps.refl _⟩ fun s' hI => ⟨rfl, hI⟩)
  · rw [← est] at run
    refine wpAny_bind (wpAny_mono run ?_ fun _ _ e => e)
    intro rip0 s' rip2
    refine hide fun hideG hideH => ?_
    obtain ⟨⟨⟩, st'⟩ := rip0
    obtain ⟨p, hp, har, hf, hpe, h', tk', rfl, k'⟩ := rip2
    refine hideH ?_; clear hideH hideG
    dsimp only
    have hent : Ent vs.length p := by rw [hpe]; exact kok_kev _ _ (ok_sort hn0)
    have hout : (if b then ((arrOf st').map (·.2)).reverse else (arrOf st').map (·.2)) = sortOut b vs lt := by
      have e1 : (arrOf st').map (·.2) = p.map fun i => vs.getD (turnI b vs.length i) .none := by
        rw [har, Array.map_map]
        apply Array.map_congr_left
        intro i hi
        refine hide fun hideG hideH => ?_
        obtain ⟨x, v, _, hv, e⟩ := hat i (hent i hi)
        refine hideH ?_; clear hideH hideG
        show (kas_item it i).2 = _
        rw [e, List.getD_eq_getElem?_getD, hv]
        rfl
      unfold sortOut
      rw [e1, hpe]
    refine sk_tail (k0.trans k') (k' _ _ hk) (k' _ _ ha) hka hk0 ha0 (by simp; lia) (by rw [har, Array.size_map]; lia) hf fun h'' c k'' ho => ?_
    rw [hout] at ho
    exact hq h'' _ c k'' ho
  · refine hide fun hideG hideH => ?_
    obtain ⟨h', tk', rfl, k'⟩ := hI
    obtain ⟨x, v, hx, hv, ei⟩ := hat i hi
    obtain ⟨y, u, hy, hu, ej⟩ := hat j hj
    obtain ⟨v', hv', kx⟩ := KA.2 _ x hx
    obtain ⟨u', hu', ky⟩ := KA.2 _ y hy
    refine hideH ?_; clear hideH hideG
    rw [hv] at hv'; cases hv'
    rw [hu] at hu'; cases hu'
    unfold kas_cmp
    rw [ei, ej]
    exact SE.cmp h' tk' _ _ v u x y D hv hu (k0.trans k') (kx.keeps k') (ky.keeps k') fun h'' tk'' k'' => hD _ ⟨h'', tk'', rfl, k'.trans k''⟩
theorem sk_rest {h : Heap} {tk e1 : Nat} {kS : Addr} {P : PySem.Fin → Shared → Prop} (SE : SortEnv prog w A g dr os C f vs h0 lt) (k0 : Keeps h0 h) (hk : h.get? kS = some (seqObj "list" #[] 0)) (ha : h.get? a = some (seqObj "list" #[] e1)) (hka : kS ≠ a) (hk0 : h0.get? kS = none) (ha0 : h0.get? a = none)
    (h2 : 2 ≤ vs.length) (h64 : vs.length < 64) (hne : ∀ h' x v, KeyOk C h' x v → Looks (model prog w) h' (typeOf (.ref x)) (.ref C))
    (hq : ∀ h' tk' c, Keeps h0 h' → h'.get? a = some (seqObj "list" (sortOut b vs lt) c) → P (.done (.ret .none)) ⟨h', g, dr, tk', os⟩) :
    wpAny (model prog w) A (ksk_rest a f b vs.toArray e1 (.ref kS)) P E ⟨h, g, dr, tk, os⟩ := by
  unfold ksk_rest
  refine wpAny_bind (wpAny_rule ?_)
  first
    | rw [List.forIn_toArray]
    | (rw [← Array.forIn_toList]; simp only [List.toList_toArray])
    | rw [← Array.forIn_toList]
  refine wpAny_bind (ksk_fold (fun i s' => ∃ h' tk' xs c, s' = ⟨h', g, dr, tk', os⟩ ∧ Keeps h0 h' ∧ h'.get? kS = some (seqObj "list" (List.toArray (xs.map Value.ref)) c) ∧ h'.get? a = some (seqObj "list" #[] e1) ∧ KeysAt C h' vs xs ∧ xs.length = i) vs 0 _
    ⟨h, tk, [], 0, rfl, k0, hk, ha, ⟨Nat.zero_le _, fun i x e => by simp at e⟩, rfl⟩ ?step ?done)
  case step =>
    intro j x s' hx rip4
    refine hide fun hideG hideH => ?_
    obtain ⟨h', tk', xs, c, rfl, k', hk', ha', KA, hl⟩ := rip4
    refine hideH ?_; clear hideH hideG
    rw [Nat.zero_add] at hl ⊢
    have hj : j < vs.length := (List.getElem?_eq_some_iff.mp hx).1
    refine wpAny_bind (wpAny_attempt (wpAny_mono (SE.key h' tk' j x (fun r s2 => ∃ y h2 tk2, r = .ref y ∧ s2 = ⟨h2, g, dr, tk2, os⟩ ∧ Keeps h' h2 ∧ KeyOk C h2 y x) hx k' fun y h2 tk2 k2 ky => ⟨y, h2, tk2, rfl, rfl, k2, ky⟩) (fun v s'' he => ?_) fun _ _ hF => hF.elim))
    refine hide fun hideG hideH => ?_
    obtain ⟨y, h2, tk2, rfl, rfl, k2, ky⟩ := he
    refine hideH ?_; clear hideH hideG
    try dsimp only
    have s1 := Heap.SameBut.update h2 kS (Obj.mapSeq (·.push (.ref y)))
    have nk := k2 _ _ hk'
    have up : ∀ (kA : Array Value), h2.get? kS = some (seqObj "list" kA c) → ∃ c2, (h2.update kS (Obj.mapSeq (·.push (.ref y)))).get? kS = some (seqObj "list" (kA.push (.ref y)) c2) := fun kA e => ⟨_, get?_update_seq e (·.push (.ref y))⟩
    refine hide fun hideG hideH => ?_
    obtain ⟨c2, hc2⟩ := up _ nk
    refine hideH ?_; clear hideH hideG
    have kk : ∀ q o, q ≠ kS → h2.get? q = some o → (h2.update kS (Obj.mapSeq (·.push (.ref y)))).get? q = some o := fun q o hn e => (s1.2 q hn).trans e
    have kq : ∀ {z u}, KeyOk C h2 z u → KeyOk C (h2.update kS (Obj.mapSeq (·.push (.ref y)))) z u := by
      intro z u rip2
      refine hide fun hideG hideH => ?_
      obtain ⟨dx, e1, e2⟩ := rip2
      refine hideH ?_; clear hideH hideG
      refine ⟨dx, kk _ _ (fun q => ?_) e1, kk _ _ (fun q => ?_) e2⟩
      · rw [q, nk] at e1
        exact absurd (congrArg Obj.cls (Option.some.inj e1)) (by intro z; cases z)
      · rw [q, nk] at e2
        exact absurd (congrArg Obj.cls (Option.some.inj e2)) (by intro z; injection z with z; exact absurd z (by decide))
    have ea : (List.toArray (xs.map Value.ref)).push (Value.ref y) = List.toArray ((xs ++ [y]).map Value.ref) := by simp
    refine wpAny_bind (listUpdate_at nk rfl ?_ (by simp; rw [sizeLine_eq]; lia) (by simp; rw [sizeLine_eq]; lia))
    refine wpAny_pure ⟨rfl, _, _, xs ++ [y], c2, rfl, fun q o e => kk _ _ (fun z => by rw [z, hk0] at e; cases e) (k2 _ _ (k' _ _ e)), by rw [← ea]; exact hc2, kk _ _ hka.symm (k2 _ _ ha'), ?_, by rw [List.length_append, hl]; rfl⟩
    have KA2 : KeysAt C h2 vs (xs ++ [y]) := (KA.keeps k2).push (by rw [hl]; exact hx) ky
    exact ⟨KA2.1, fun i z e => let ⟨u, e1, e2⟩ := KA2.2 i z e; ⟨u, e1, kq e2⟩⟩
  case done =>
    intro s' rip1
    refine hide fun hideG hideH => ?_
    obtain ⟨h', tk', xs, c, rfl, k', hk', ha', KA, hl⟩ := rip1
    refine hideH ?_; clear hideH hideG
    rw [Nat.zero_add] at hl
    try dsimp only
    refine wpAny_bind (listItems_at hk' rfl ?_)
    exact sk_end SE k' hk' ha' hka hk0 ha0 KA hl h2 h64 hne hq
theorem sk_sort {h : Heap} {tk n : Nat} {P : PySem.Fin → Shared → Prop} (SE : SortEnv prog w A g dr os C f vs h0 lt) (k0 : Keeps h0 h) (ho : h.get? a = some (seqObj "list" vs.toArray n)) (ha0 : h0.get? a = none) (hs0 : h0.objs.size ≤ h.objs.size)
    (h2 : 2 ≤ vs.length) (h64 : vs.length < 64) (hne : ∀ h' x v, KeyOk C h' x v → Looks (model prog w) h' (typeOf (.ref x)) (.ref C))
    (hq : ∀ h' tk' c, Keeps h0 h' → h'.get? a = some (seqObj "list" (sortOut b vs lt) c) → P (.done (.ret .none)) ⟨h', g, dr, tk', os⟩) :
    wpAny (model prog w) A (ksk_tree a f b) P E ⟨h, g, dr, tk, os⟩ := by
  have hal : a < h.objs.size := Heap.lt_size ho
  have s1 := Heap.SameBut.update h a (Obj.mapSeq fun _ => (#[] : Array Value))
  obtain ⟨e1, ho1⟩ : ∃ e1, (h.update a (Obj.mapSeq fun _ => (#[] : Array Value))).get? a = some (seqObj "list" #[] e1) := ⟨_, get?_update_seq ho fun _ => #[]⟩
  have hkS : ((h.update a (Obj.mapSeq fun _ => (#[] : Array Value))).push (seqObj "tuple" vs.toArray 0)).objs.size = h.objs.size + 1 := by rw [size_push', Heap.size_update]
  unfold ksk_tree
  refine wpAny_bind (listItems_at ho rfl ?_)
  refine wpAny_bind (listUpdate_at ho rfl ?_ (by rw [List.size_toArray, sizeLine_eq]; lia) (Nat.zero_le _))
  refine wpAny_bind (seqEpoch_at ho1 rfl ?_)
  refine wpAny_bind (wpAny_newTuple ?_ (by show vs.length ≤ _; rw [sizeLine_eq]; lia))
  refine wpAny_bind (wpAny_newList ?_ (Nat.zero_le _))
  refine wpAny_holding ?_
  refine sk_rest (h := ((h.update a (Obj.mapSeq fun _ => (#[] : Array Value))).push (seqObj "tuple" vs.toArray 0)).push (seqObj "list" #[] 0)) (kS := ((h.update a (Obj.mapSeq fun _ => (#[] : Array Value))).push (seqObj "tuple" vs.toArray 0)).objs.size) SE (fun x o e => ?_) (Heap.get?_push_size _ rfl) (Heap.get?_push_of_some _ (Heap.get?_push_of_some _ ho1)) (by rw [hkS]; exact Nat.ne_of_gt (Nat.lt_succ_of_lt hal)) (by rw [hkS]; exact Heap.get?_none_of_le (Nat.le_succ_of_le hs0)) ha0 h2 h64 hne hq
  have h1 : x ≠ a := fun q => by rw [q, ha0] at e; cases e
  exact Heap.get?_push_of_some _ (Heap.get?_push_of_some _ ((s1.2 x h1).trans (k0 _ _ e)))
end
section
variable {prog : Program} {w : World} {A : Around} {E : Value → Shared → Prop} {s : Shared} {l C : Addr} {b : Bool} {vs : List Value} {Q : Value → Shared → Prop} {lt : Nat → Nat → Bool}
theorem sk_sorted {f : Value} {kw : List (Str × Value)} (hl : s.heap.IsList l vs.toArray) (h2 : 2 ≤ vs.length) (h64 : vs.length < 64)
    (ha1 : argsOk "sorted" ⟨[.ref l], kw⟩) (ha2 : ∀ x, argsOk "list.sort" ⟨[.ref x], kw⟩) (ht : ∀ x, Builtin.«list.sort» ⟨[.ref x], kw⟩ = ksk_tree x f b)
    (SE : SortEnv prog w A.in1.in1 s.gens s.drawn s.os C f vs s.heap lt) (hne : ∀ h' x v, KeyOk C h' x v → Looks (model prog w) h' (typeOf (.ref x)) (.ref C))
    (h : ∀ D h' tk c, Keeps s.heap h' → New s.heap h' D (seqObj "list" (sortOut b vs lt) c) → Q (.ref D) { s with heap := h', toks := tk }) :
    wpAny (model prog w) A (call (.builtin "sorted") [.ref l] kw) Q E s := by
  refine hide fun hideG hideH => ?_
  obtain ⟨hh, g, dr, tk, os⟩ := s
  refine hideH ?_; clear hideH hideG
  refine call_function_entry_kw kind_sorted plain_sorted entry_sorted ha1 ?_
  unfold Builtin.«sorted»
  refine wpAny_bind (m := checkCount "sorted" 1 1 _) (wpAny_pure ?_)
  refine wpAny_bind (collect_list hl ?_ (by rw [sizeLine_eq]; lia))
  refine wpAny_bind (wpAny_newList ?_ (by rw [sizeLine_eq]; lia))
  have hsz : ((hh.push (seqObj "list" #[] 0)).update hh.objs.size (Obj.mapSeq (· ++ vs.toArray))).objs.size = hh.objs.size + 1 := by
    rw [Heap.size_update, size_push']
  have hoL : (((hh.push (seqObj "list" #[] 0)).update hh.objs.size (Obj.mapSeq (· ++ vs.toArray))).push (seqObj "list" vs.toArray 0)).get? (hh.objs.size + 1) = some (seqObj "list" vs.toArray 0) := by
    rw [← hsz]; exact Heap.get?_push_size _ rfl
  have keep : ∀ b o, hh.get? b = some o → (((hh.push (seqObj "list" #[] 0)).update hh.objs.size (Obj.mapSeq (· ++ vs.toArray))).push (seqObj "list" vs.toArray 0)).get? b = some o := fun b o q => by
    have hlt : b < hh.objs.size := Heap.lt_size q
    rw [Heap.get?_push_ne _ _ _ (by rw [hsz]; exact Nat.ne_of_lt (Nat.lt_succ_of_lt hlt)), Heap.get?_update_ne _ _ _ _ (Nat.ne_of_lt hlt), Heap.get?_push_ne _ _ _ (Nat.ne_of_lt hlt)]
    exact q
  show wpAny _ _ _ _ _ ⟨((hh.push (seqObj "list" #[] 0)).update hh.objs.size (Obj.mapSeq (· ++ vs.toArray))).push (seqObj "list" vs.toArray 0), g, dr, tk, os⟩
  rw [hsz]
  refine wpAny_bind (wpAny_holding (wpAny_call_entry_kw slot_list_sort ⟨_, hoL, rfl⟩ entry_list_sort ?body (ha2 _)))
  case body =>
    have ht' := ht (hh.objs.size + 1)
    show wpAny (model prog w) A.in1.in1 (Builtin.«list.sort» ⟨[.ref (hh.objs.size + 1)], kw⟩) _ _ _
    rw [ht']
    refine sk_sort SE keep hoL (Heap.get?_none_of_le (Nat.le_succ _)) (by rw [size_push', hsz]; exact Nat.le_succ_of_le (Nat.le_succ _)) h2 h64 hne fun h' tk' c k' ho => ⟨_, rfl, ?_⟩
    exact wpAny_pure ⟨_, rfl, h _ h' tk' c k' ⟨ho, Heap.get?_none_of_le (Nat.le_succ _)⟩⟩
end
end Mine
end
section
open PySem PySem.W PySem.Calls PyProof.Rows
set_option maxRecDepth 100000
set_option maxHeartbeats 8000000
namespace Mine
/-- names: each a list of three ints -/
inductive NRows (at' : Addr → Obj → Prop) : List Value → List (Int × Int × Int) → Prop
  | nil : NRows at' [] []
  | cons {D : Addr} {n m p : Int} {tn tm tp : Tok} {e : Nat} {vs : List Value} {r : List (Int × Int × Int)} : at' D (W.listOf #[.int n tn, .int m tm, .int p tp] e) → NRows at' vs r → NRows at' (.ref D :: vs) ((n, m, p) :: r)
theorem NRows.at {P : Addr → Obj → Prop} : ∀ {vs : List Value} {r : List (Int × Int × Int)}, NRows P vs r → ∀ {k : Nat} {q : Int × Int × Int}, r[k]? = some q → ∃ D tn tm tp e, vs[k]? = some (.ref D) ∧ P D (W.listOf #[.int q.1 tn, .int q.2.1 tm, .int q.2.2 tp] e)
  | _, _, .cons h r, 0, t, e => by cases e; exact ⟨_, _, _, _, _, rfl, h⟩
  | _, _, .cons h r, k + 1, t, e => r.at (k := k) e
theorem NRows.len {P : Addr → Obj → Prop} : ∀ {vs : List Value} {r : List (Int × Int × Int)}, NRows P vs r → vs.length = r.length
  | _, _, .nil => rfl
  | _, _, .cons _ r => congrArg (· + 1) r.len
theorem NRows.mono {P R : Addr → Obj → Prop} (h : ∀ d o, P d o → R d o) : ∀ {vs : List Value} {r : List (Int × Int × Int)}, NRows P vs r → NRows R vs r
  | _, _, .nil => .nil
  | _, _, .cons hd r => .cons (h _ _ hd) (NRows.mono h r)
def NTab (at' : Addr → Obj → Prop) (D : Addr) (r : List (Int × Int × Int)) : Prop := ∃ vs e, at' D (W.listOf (List.toArray vs) e) ∧ NRows at' vs r
theorem NTab.mono {P R : Addr → Obj → Prop} (h : ∀ d o, P d o → R d o) {D : Addr} {r : List (Int × Int × Int)} : NTab P D r → NTab R D r := fun ⟨vs, e, a, b⟩ => ⟨vs, e, h _ _ a, b.mono h⟩
structure NameOk (q : Int × Int × Int) : Prop where
  n0 : 0 ≤ q.1
  m0 : 0 ≤ q.2.1
  mn : q.2.1 + q.1 ≤ 8
  p0 : 0 ≤ q.2.2
  p1 : q.2.2 < mx1 (6 * q.1)
/-- the statements of _law_agrees, by their numbers -/
noncomputable def agSt (p : Params) (k : Nat) : Option (Stmt × Scope) :=
  match (hd.heap_1 p).lookup 117 with
  | some ⟨_, _, .func fd, _⟩ => match fd.body with
    | .stmts b => (b[k]?).map fun st => (st, fd.scope)
    | _ => none
  | _ => none
abbrev agCl (c1 c2 c3 : Addr) : List (Str × Addr) := [("keyed", c3), ("origin", c2), ("names", c1)]
abbrev agX (L c1 c2 c3 : Addr) : List Addr := [L, c1, c2, c3, 16, 93, 114]
/-- what is told of a name -/
def toldTV (q : Int × Int × Int) (og : UInt64) : List TV :=
  let r := e8 (partF q.1 q.2.1 q.2.2 0).toNat
  let g := e8 (partF q.1 q.2.1 q.2.2 1).toNat
  let b := e8 (partF q.1 q.2.1 q.2.2 2).toNat
  let hl := hls3 r g b (fmx (fmx r g) b) (fmn (fmn r g) b)
  let hs := hsv3 r g b (fmx (fmx r g) b) (fmn (fmn r g) b)
  [.f (Float64.divmod (Float64.sub hl.1 og) 4607182418800017408).2, .f hs.2.1, .f hs.2.2, .f hl.2.1, .f hl.2.2, .i (lumaI r g b)]
/-- the name's floats are sound -/
structure ToldOk (q : Int × Int × Int) : Prop where
  z : divs (fmx (fmx (e8 (partF q.1 q.2.1 q.2.2 0).toNat) (e8 (partF q.1 q.2.1 q.2.2 1).toNat)) (e8 (partF q.1 q.2.1 q.2.2 2).toNat)) (fmn (fmn (e8 (partF q.1 q.2.1 q.2.2 0).toNat) (e8 (partF q.1 q.2.1 q.2.2 1).toNat)) (e8 (partF q.1 q.2.1 q.2.2 2).toNat)) = true
  fin : Float64.isFinite (luma8 (e8 (partF q.1 q.2.1 q.2.2 0).toNat) (e8 (partF q.1 q.2.1 q.2.2 1).toNat) (e8 (partF q.1 q.2.1 q.2.2 2).toNat)) = true
/-- there, and none of the three tables -/
def OffT (h : Heap) (d : Addr) (o : Obj) : Prop := h.get? d = some o ∧ d ≠ 16 ∧ d ≠ 93 ∧ d ≠ 114
end Mine
end
section
open PySem PySem.W PySem.Calls PyProof.Rows
set_option maxRecDepth 100000
namespace Mine
local macro_rules | `(tactic| walk_at "CompSrc") => `(tactic| (k_here; refine HaltC.mk ?_))
local macro_rules | `(tactic| walk_at "call ref") => `(tactic| (k_here; refine HaltC.mk ?_))

section
open PySem PySem.W PySem.Calls PyProof.Rows
set_option maxRecDepth 100000
set_option maxHeartbeats 8000000
local macro_rules | `(tactic| walk_at "no such key") => `(tactic| fail)
theorem pt_ext {P : Addr → Obj → Prop} {rows : List (List (Int × Int))} : ∀ {vs : List Value} , vs.length = rows.length → (∀ i, i < rows.length → ∃ b, vs[i]? = some (.ref b) ∧ ∃ ts, rows[i]? = some ts ∧ Pairs P b ts) → PRows P vs rows := by
  induction rows with
  | nil => intro vs h _; cases vs with
    | nil => exact .nil
    | cons v vs => cases h
  | cons r rs ih => intro vs h hi; cases vs with
    | nil => cases h
    | cons v vs =>
      refine hide fun hideG hideH => ?_
      obtain ⟨b, e1, ts, e2, hv⟩ := hi 0 (Nat.zero_lt_succ _)
      refine hideH ?_; clear hideH hideG
      cases e1
      cases e2
      exact .cons hv (ih (Nat.succ.inj h) fun i hl => hi (i + 1) (Nat.succ_lt_succ hl))
local macro_rules | `(tactic| walk_at "subscriptTail") => `(tactic| (k_here; (with_reducible show wpAny _ _ (subscriptTail _ _ (Value.ref _) (Value.int _ _)) _ _ _); k_dflt (refine' item_base ?F ?hg ?h0 ?hk ?hx ?_ ?hs; (case F => k_asm); (case hg => assumption); (case h0 => lia); (case hk => lia); (case hx => first | assumption | rfl); (case hs => with_unfolding_all rfl); k_whole)))
section
variable {w : World} {prg : Program} {loose : List Str} {mean : ExcName → Option Value} {mg mb : Str → Option Value}
    {dp un : Nat} {gd : Option (List Code)} {outer : List Env} {A₀ : Around} {base h₀ : Heap} {L : Addr} {m : Str → Option Value} {s : Shared} {E : Value → Shared → Prop} {Q : Flow → Shared → Prop} {x l c1 c2 c3 : Addr} {o1 o2 o3 : Obj} {st : Stmt} {sc : Scope}
theorem ag_due {names : List (Int × Int × Int)} {t1 t2 t3 : Obj} (hst : agSt w.params 2 = some (st, sc))
    (B : Below A₀ base outer h₀) (F : Fr h₀ L s.heap m) (X : (hd.heap_1 w.params).In h₀) (T : Top prg loose mean mg mb h₀) (hdp : dp + 40 < 900) (hun : un + 80 < 600)
    (N : News h₀ L s.heap [(c3, o1), (c2, o2), (c1, o3), (16, t1), (93, t2), (114, t3)]) (d3 : o3.data = .cell (some (.ref x)))
    (hx : NTab (AtH h₀) x names) (h8 : names.length = 8) (hn : ∀ q ∈ names, NameOk q)
    (hQ : ∀ Dt h' tk', Fr h₀ L h' (fun z => if z = "due" then some (.ref Dt) else m z) → News h₀ L h' [(c3, o1), (c2, o2), (c1, o3), (16, t1), (93, t2), (114, t3)] → Ext (agX L c1 c2 c3) s.heap h' → PTab (AtX (agX L c1 c2 c3) h') Dt (names.map fun q => colsL q.1 q.2.1 q.2.2 (names.getD 0 (0, 0, 0)).1 (names.getD 0 (0, 0, 0)).2.2) → Q .next { s with heap := h', toks := tk' }) :
    wpAny (model PySem.Challenge.rw_mq0178_01.row.prog w) (ktrTop dp un gd "_law_agrees" sc L 117 (.ref 116) (agCl c1 c2 c3) outer) (exec st (envX "_law_agrees" sc L 117 (.ref 116) (agCl c1 c2 c3))) Q E s := by
  have e' : agSt w.params 2 = some (_, _) := rfl
  rw [e'] at hst
  cases hst
  clear e'
  have hcl : 600 ≤ cLine := by decide
  have hrl : 900 ≤ recursionLimit := by decide
  dsimp only [agCl]
  w_on
  show wpAny _ _ _ _ _ _
  k_steps
  refine HaltC.get ?_
  refine hide fun hideG hideH => ?_
  obtain ⟨vx, ex, gx, Cx⟩ := hx
  refine hideH ?_; clear hideH hideG
  have hlx : vx.length = 8 := Cx.len.trans h8
  have hsx : vx.toArray.size = 8 := by simpa using hlx
  refine hide fun hideG hideH => ?_
  obtain ⟨sym0, NS, offS, snapS⟩ := snap F (agX L c1 c2 c3) (.head _)
  refine hideH ?_; clear hideH hideG
  refine LCg.CompSrc.base rfl F (news_app N NS) (lst_of gx) (by rw [hsx, sizeLine_eq]; decide) (fun g' => ?_)
  rw [hsx]
  refine comp_rest (n := 8) (news₀ := [(c3, o1), (c2, o2), (c1, o3), (16, t1), (93, t2), (114, t3)] ++ sym0) (fun i b P => ∃ q, names[i]? = some q ∧ Pairs P b (colsL q.1 q.2.1 q.2.2 (names.getD 0 (0, 0, 0)).1 (names.getD 0 (0, 0, 0)).2.2)) (fun i b P P' hp r => ⟨r.choose, r.choose_spec.1, r.choose_spec.2.mono hp⟩) (fun sym => .inl (lst_of gx)) ?_ ?_ 8 0 [] [] (fun p hp => nomatch hp) rfl rfl (fun j hj => absurd hj (Nat.not_lt_zero _))
  · intro i v I oI C oC D ys m₂ h tk sym E' hi hP hC hm F₁ N₁
    have hiq : i < names.length := by lia
    refine hide fun hideG hideH => ?_
    obtain ⟨Di, tn, tm, tp, ei, hv, hD⟩ := Cx.at (List.getElem?_eq_getElem hiq)
    refine hideH ?_; clear hideH hideG
    have hv' : vx.toArray[i]? = some (.ref Di) := by simpa using hv
    rw [hv'] at hP
    cases hP
    have hq := hn _ (List.getElem_mem hiq)
    have h0q : 0 < names.length := by lia
    refine hide fun hideG hideH => ?_
    obtain ⟨D0, tn0, tm0, tp0, ei0, hv0, hD0⟩ := Cx.at (List.getElem?_eq_getElem h0q)
    refine hideH ?_; clear hideH hideG
    have hq0 := hn _ (List.getElem_mem h0q)
    have eg0 : names.getD 0 (0, 0, 0) = names[0] := by rw [List.getD_eq_getElem?_getD, List.getElem?_eq_getElem h0q]; rfl
    rw [eg0]
    generalize names[0] = q0 at *
    refine hide fun hideG hideH => ?_
    obtain ⟨n0, m0, p0⟩ := q0
    obtain ⟨z1, z2, z3, z4, z5⟩ := hq0
    refine hideH ?_; clear hideH hideG
    dsimp only at z1 z2 z3 z4 z5 hD0
    have z6 : p0 < 48 := by unfold mx1 at z5; split at z5 <;> lia
    have hgq : names[i]? = some names[i] := List.getElem?_eq_getElem hiq
    generalize names[i] = q at *
    refine hide fun hideG hideH => ?_
    obtain ⟨qn, qm, qp⟩ := q
    obtain ⟨a1, a2, a3, a4, a5⟩ := hq
    refine hideH ?_; clear hideH hideG
    dsimp only at a1 a2 a3 a4 a5 hD
    have a6 : qp < 48 := by unfold mx1 at a5; split at a5 <;> lia
    have N₂ : News h₀ L h [(C, oC), (c1, o3)] := fun p hp => by
      rcases List.mem_cons.mp hp with rfl | hp
      · exact N₁ _ (.tail _ (.head _))
      · cases List.mem_singleton.mp hp
        exact N₁ _ (.tail _ (.tail _ (.tail _ (List.mem_append_right _ (.tail _ (.tail _ (.head _)))))))
    clear F N N₁
    show wpAny _ _ _ _ _ _
    k_steps
    refine HaltC.get ?_
    refine cols_tells B F₁ X T rfl (by lia) (by lia) (F₁.keep _ _ hD) (F₁.keep _ _ hD0) a1 (by lia) a2 (by lia) a4 a6 z1 (by lia) z4 z6 fun D h' tk' kp nw => ?_
    exact ⟨D, h', _, rfl, rfl, kp, (qn, qm, qp), hgq, nw⟩
  · intro ys sym hne hl hj
    intro Dt h' tk' F' N' off
    have Nb : News h₀ L h' ([(c3, o1), (c2, o2), (c1, o3), (16, t1), (93, t2), (114, t3)] ++ sym0) := fun p hp => N' p (.tail _ (List.mem_append_right _ hp))
    have Nc : News h₀ L h' [(c3, o1), (c2, o2), (c1, o3), (16, t1), (93, t2), (114, t3)] := fun p hp => Nb p (List.mem_append_left _ hp)
    have nx : ∀ d, d ≠ L → (∀ q ∈ [(c3, o1), (c2, o2), (c1, o3), (16, t1), (93, t2), (114, t3)], d ≠ q.1) → d ∉ agX L c1 c2 c3 := fun d h1 h2 hm => by
      simp only [agX, List.mem_cons, List.not_mem_nil, or_false] at hm
      rcases hm with q | q | q | q | q | q | q
      · exact h1 q
      · exact h2 (c1, o3) (by simp) q
      · exact h2 (c2, o2) (by simp) q
      · exact h2 (c3, o1) (by simp) q
      · exact h2 (16, t1) (by simp) q
      · exact h2 (93, t2) (by simp) q
      · exact h2 (114, t3) (by simp) q
    refine hQ Dt h' tk' F' Nc (snapS _ _ F' fun p hp => Nb p (List.mem_append_right _ hp)) ⟨ys, ys.length, ⟨(N' _ (.head _)).1, nx _ (N' _ (.head _)).2.1 fun q hq => ?_⟩, ?_⟩
    · have hm := off1_mem off q (List.mem_append_right _ (List.mem_append_left _ hq))
      exact fun e => hm e.symm
    · refine pt_ext (by rw [List.length_map, hl, h8]) fun i hi => ?_
      rw [List.length_map, h8] at hi
      refine hide fun hideG hideH => ?_
      obtain ⟨b, e1, q, e2, r⟩ := hj i hi
      refine hideH ?_; clear hideH hideG
      refine ⟨b, e1, _, by rw [List.getElem?_map, e2]; rfl, r.mono fun d o hm => ⟨(N' _ (.tail _ (List.mem_append_left _ hm))).1, nx d (N' _ (.tail _ (List.mem_append_left _ hm))).2.1 fun q hq => hne _ hm q (List.mem_append_left _ hq)⟩⟩
end
end
section
open PySem PySem.W PySem.Calls PyProof.Rows
set_option maxRecDepth 100000
set_option maxHeartbeats 8000000
theorem vt_ext {P : Addr → Obj → Prop} {rows : List (List TV)} : ∀ {vs : List Value} , vs.length = rows.length → (∀ i, i < rows.length → ∃ b, vs[i]? = some (.ref b) ∧ ∃ ts, rows[i]? = some ts ∧ VRow P b ts) → VRows P vs rows := by
  induction rows with
  | nil => intro vs h _; cases vs with
    | nil => exact .nil
    | cons v vs => cases h
  | cons r rs ih => intro vs h hi; cases vs with
    | nil => cases h
    | cons v vs =>
      refine hide fun hideG hideH => ?_
      obtain ⟨b, e1, ts, e2, hv⟩ := hi 0 (Nat.zero_lt_succ _)
      refine hideH ?_; clear hideH hideG
      cases e1
      cases e2
      exact .cons hv (ih (Nat.succ.inj h) fun i hl => hi (i + 1) (Nat.succ_lt_succ hl))
section
variable {w : World} {prg : Program} {loose : List Str} {mean : ExcName → Option Value} {mg mb : Str → Option Value}
    {dp un : Nat} {gd : Option (List Code)} {outer : List Env} {A₀ : Around} {base h₀ : Heap} {L : Addr} {m : Str → Option Value} {s : Shared} {E : Value → Shared → Prop} {Q : Flow → Shared → Prop} {x l c1 c2 c3 : Addr} {o1 o2 o3 : Obj} {st : Stmt} {sc : Scope}
theorem ag_told {names : List (Int × Int × Int)} {og : UInt64} {tog : Tok} {t1 t2 t3 : Obj} (hst : agSt w.params 1 = some (st, sc))
    (B : Below A₀ base outer h₀) (F : Fr h₀ L s.heap m) (X : (hd.heap_1 w.params).In h₀) (T : Top prg loose mean mg mb h₀) (hdp : dp + 40 < 900) (hun : un + 80 < 600)
    (N : News h₀ L s.heap [(c3, o1), (c2, o2), (c1, o3), (16, t1), (93, t2), (114, t3)]) (d2 : o2.data = .cell (some (.float og tog))) (d3 : o3.data = .cell (some (.ref x)))
    (hx : NTab (AtH h₀) x names) (h8 : names.length = 8) (hn : ∀ q ∈ names, NameOk q) (ht : ∀ q ∈ names, ToldOk q)
    (hQ : ∀ Dt h' tk', Fr h₀ L h' (fun z => if z = "told" then some (.ref Dt) else m z) → News h₀ L h' [(c3, o1), (c2, o2), (c1, o3), (16, t1), (93, t2), (114, t3)] → Ext (agX L c1 c2 c3) s.heap h' → VTab (AtX (agX L c1 c2 c3) h') Dt (names.map fun q => toldTV q og) → Q .next { s with heap := h', toks := tk' }) :
    wpAny (model PySem.Challenge.rw_mq0178_01.row.prog w) (ktrTop dp un gd "_law_agrees" sc L 117 (.ref 116) (agCl c1 c2 c3) outer) (exec st (envX "_law_agrees" sc L 117 (.ref 116) (agCl c1 c2 c3))) Q E s := by
  have e' : agSt w.params 1 = some (_, _) := rfl
  rw [e'] at hst
  cases hst
  clear e'
  have hcl : 600 ≤ cLine := by decide
  have hrl : 900 ≤ recursionLimit := by decide
  dsimp only [agCl]
  w_on
  show wpAny _ _ _ _ _ _
  k_steps
  refine HaltC.get ?_
  refine hide fun hideG hideH => ?_
  obtain ⟨vx, ex, gx, Cx⟩ := hx
  refine hideH ?_; clear hideH hideG
  have hlx : vx.length = 8 := Cx.len.trans h8
  have hsx : vx.toArray.size = 8 := by simpa using hlx
  refine hide fun hideG hideH => ?_
  obtain ⟨sym0, NS, offS, snapS⟩ := snap F (agX L c1 c2 c3) (.head _)
  refine hideH ?_; clear hideH hideG
  refine LCg.CompSrc.base rfl F (news_app N NS) (lst_of gx) (by rw [hsx, sizeLine_eq]; decide) (fun g' => ?_)
  rw [hsx]
  refine comp_rest (n := 8) (news₀ := [(c3, o1), (c2, o2), (c1, o3), (16, t1), (93, t2), (114, t3)] ++ sym0) (fun i b P => ∃ q, names[i]? = some q ∧ VRow P b (toldTV q og)) (fun i b P P' hp r => ⟨r.choose, r.choose_spec.1, r.choose_spec.2.mono hp⟩) (fun sym => .inl (lst_of gx)) ?_ ?_ 8 0 [] [] (fun p hp => nomatch hp) rfl rfl (fun j hj => absurd hj (Nat.not_lt_zero _))
  · intro i v I oI C oC D ys m₂ h tk sym E' hi hP hC hm F₁ N₁
    have hiq : i < names.length := by lia
    refine hide fun hideG hideH => ?_
    obtain ⟨Di, tn, tm, tp, ei, hv, hD⟩ := Cx.at (List.getElem?_eq_getElem hiq)
    refine hideH ?_; clear hideH hideG
    have hv' : vx.toArray[i]? = some (.ref Di) := by simpa using hv
    rw [hv'] at hP
    cases hP
    have hq := hn _ (List.getElem_mem hiq)
    have hq2 := ht _ (List.getElem_mem hiq)
    have hgq : names[i]? = some names[i] := List.getElem?_eq_getElem hiq
    generalize names[i] = q at *
    refine hide fun hideG hideH => ?_
    obtain ⟨qn, qm, qp⟩ := q
    obtain ⟨a1, a2, a3, a4, a5⟩ := hq
    obtain ⟨b1, b2⟩ := hq2
    refine hideH ?_; clear hideH hideG
    dsimp only at a1 a2 a3 a4 a5 b1 b2 hD
    have a6 : qp < 48 := by unfold mx1 at a5; split at a5 <;> lia
    have N₂ : News h₀ L h [(C, oC), (c2, o2)] := fun p hp => by
      rcases List.mem_cons.mp hp with rfl | hp
      · exact N₁ _ (.tail _ (.head _))
      · cases List.mem_singleton.mp hp
        exact N₁ _ (.tail _ (.tail _ (.tail _ (List.mem_append_right _ (.tail _ (.head _))))))
    clear F N N₁
    show wpAny _ _ _ _ _ _
    k_steps
    refine HaltC.get ?_
    refine told_tells B F₁ X T rfl (by lia) (by lia) (F₁.keep _ _ hD) a1 (by lia) a2 a3 a4 a6 b1 b2 fun D x y z x2 y2 z2 t0 t1 t2 t3 t4 t5 e h' tk' e1 e2 kp nw => ?_
    refine ⟨D, h', _, rfl, rfl, kp, (qn, qm, qp), hgq, _, e, nw, ?_⟩
    unfold toldTV
    dsimp only
    rw [← e1, ← e2]
    exact .cons ⟨_, rfl⟩ (.cons ⟨_, rfl⟩ (.cons ⟨_, rfl⟩ (.cons ⟨_, rfl⟩ (.cons ⟨_, rfl⟩ (.cons ⟨_, rfl⟩ .nil)))))
  · intro ys sym hne hl hj
    intro Dt h' tk' F' N' off
    have Nb : News h₀ L h' ([(c3, o1), (c2, o2), (c1, o3), (16, t1), (93, t2), (114, t3)] ++ sym0) := fun p hp => N' p (.tail _ (List.mem_append_right _ hp))
    have Nc : News h₀ L h' [(c3, o1), (c2, o2), (c1, o3), (16, t1), (93, t2), (114, t3)] := fun p hp => Nb p (List.mem_append_left _ hp)
    have nx : ∀ d, d ≠ L → (∀ q ∈ [(c3, o1), (c2, o2), (c1, o3), (16, t1), (93, t2), (114, t3)], d ≠ q.1) → d ∉ agX L c1 c2 c3 := fun d h1 h2 hm => by
      simp only [agX, List.mem_cons, List.not_mem_nil, or_false] at hm
      rcases hm with q | q | q | q | q | q | q
      · exact h1 q
      · exact h2 (c1, o3) (by simp) q
      · exact h2 (c2, o2) (by simp) q
      · exact h2 (c3, o1) (by simp) q
      · exact h2 (16, t1) (by simp) q
      · exact h2 (93, t2) (by simp) q
      · exact h2 (114, t3) (by simp) q
    refine hQ Dt h' tk' F' Nc (snapS _ _ F' fun p hp => Nb p (List.mem_append_right _ hp)) ⟨ys, ys.length, ⟨(N' _ (.head _)).1, nx _ (N' _ (.head _)).2.1 fun q hq => ?_⟩, ?_⟩
    · have hm := off1_mem off q (List.mem_append_right _ (List.mem_append_left _ hq))
      exact fun e => hm e.symm
    · refine vt_ext (by rw [List.length_map, hl, h8]) fun i hi => ?_
      rw [List.length_map, h8] at hi
      refine hide fun hideG hideH => ?_
      obtain ⟨b, e1, q, e2, r⟩ := hj i hi
      refine hideH ?_; clear hideH hideG
      refine ⟨b, e1, toldTV q og, by rw [List.getElem?_map, e2]; rfl, r.mono fun d o hm => ⟨(N' _ (.tail _ (List.mem_append_left _ hm))).1, nx d (N' _ (.tail _ (List.mem_append_left _ hm))).2.1 fun q hq => hne _ hm q (List.mem_append_left _ hq)⟩⟩
end
end
end Mine
end
section
open PySem PySem.W PySem.Calls PyProof.Rows
set_option maxRecDepth 100000
set_option maxHeartbeats 8000000
namespace Mine
local macro_rules | `(tactic| walk_at "subscriptTail") => `(tactic| (k_here; (with_reducible show wpAny _ _ (subscriptTail _ _ (Value.ref _) (Value.int _ _)) _ _ _); k_dflt (refine' item_base ?F ?hg ?h0 ?hk ?hx ?_ ?hs; (case F => k_asm); (case hg => assumption); (case h0 => lia); (case hk => lia); (case hx => first | assumption | rfl); (case hs => with_unfolding_all rfl); k_whole)))
local macro_rules | `(tactic| walk_at "call ref") => `(tactic| (k_here; refine HaltC.mk ?_))
local macro_rules | `(tactic| walk_at "binaryOp Div int int") => `(tactic| (k_here; (with_reducible show wpAny _ _ (binaryOp Operator.Div (Value.int (partF _ _ _ _) _) _) _ _ _); refine div8 rfl (part_lo (by lia) (by lia)) (part_hi (by lia) (by lia)) ?_; (try dsimp only)))
local macro_rules | `(tactic| walk_at "storeName") => `(tactic| (k_here; refine HaltC.mk ?_))
section
variable {w : World} {prg : Program} {loose : List Str} {mean : ExcName → Option Value} {mg mb : Str → Option Value}
    {dp un : Nat} {gd : Option (List Code)} {outer : List Env} {A₀ : Around} {base h₀ : Heap} {L : Addr} {m : Str → Option Value} {s : Shared} {E : Value → Shared → Prop} {Q : Flow → Shared → Prop} {x l c1 c2 c3 : Addr} {o1 o2 o3 : Obj} {st : Stmt} {sc : Scope}
/-- the three captured names stand apart -/
structure Apart (c1 c2 c3 : Addr) : Prop where
  a12 : c1 ≠ c2
  a13 : c1 ≠ c3
  a23 : c2 ≠ c3
  t1 : c1 ≠ 16 ∧ c1 ≠ 93 ∧ c1 ≠ 114
  t2 : c2 ≠ 16 ∧ c2 ≠ 93 ∧ c2 ≠ 114
  t3 : c3 ≠ 16 ∧ c3 ≠ 93 ∧ c3 ≠ 114
theorem upd_end {d : Addr} {o : Obj} {r : List (Addr × Obj)} (h : ∀ p ∈ r, p.1 ≠ d) : UpdF d o ((d, o) :: r) (fun o' => (d, o') :: r) := .head h
theorem ag_origin {n0 m0 p0 : Int} {tn0 tm0 tp0 : Tok} {D0 : Addr} {vx : List Value} {t1 t2 t3 : Obj} {e0 ex : Nat} (hst : agSt w.params 0 = some (st, sc))
    (B : Below A₀ base outer h₀) (F : Fr h₀ L s.heap m) (X : (hd.heap_1 w.params).In h₀) (T : Top prg loose mean mg mb h₀) (hdp : dp + 40 < 900) (hun : un + 80 < 600) (AP : Apart c1 c2 c3)
    (N : News h₀ L s.heap [(c3, o1), (c2, o2), (c1, o3), (16, t1), (93, t2), (114, t3)]) (d2 : o2.data = .cell none) (d3 : o3.data = .cell (some (.ref x)))
    (gx : h₀.get? x = some (W.listOf (List.toArray vx) ex)) (hv0 : vx[0]? = some (.ref D0)) (hD0 : h₀.get? D0 = some (W.listOf #[.int n0 tn0, .int m0 tm0, .int p0 tp0] e0)) (n0a : 0 ≤ n0) (n0b : 0 ≤ m0) (n0c : m0 + n0 ≤ 8) (n0d : 0 ≤ p0) (n0h : p0 < 48)
    (hz0 : divs (fmx (fmx (e8 (partF n0 m0 p0 0).toNat) (e8 (partF n0 m0 p0 1).toNat)) (e8 (partF n0 m0 p0 2).toNat)) (fmn (fmn (e8 (partF n0 m0 p0 0).toNat) (e8 (partF n0 m0 p0 1).toNat)) (e8 (partF n0 m0 p0 2).toNat)) = true)
    (hQ : ∀ og tog o2' h' tk', Fr h₀ L h' m → News h₀ L h' [(c3, o1), (c2, o2'), (c1, o3), (16, t1), (93, t2), (114, t3)] → o2'.data = .cell (some (.float og tog)) → Ext (agX L c1 c2 c3) s.heap h' →
      og = (hsv3 (e8 (partF n0 m0 p0 0).toNat) (e8 (partF n0 m0 p0 1).toNat) (e8 (partF n0 m0 p0 2).toNat) (fmx (fmx (e8 (partF n0 m0 p0 0).toNat) (e8 (partF n0 m0 p0 1).toNat)) (e8 (partF n0 m0 p0 2).toNat)) (fmn (fmn (e8 (partF n0 m0 p0 0).toNat) (e8 (partF n0 m0 p0 1).toNat)) (e8 (partF n0 m0 p0 2).toNat))).1 → Q .next { s with heap := h', toks := tk' }) :
    wpAny (model PySem.Challenge.rw_mq0178_01.row.prog w) (ktrTop dp un gd "_law_agrees" sc L 117 (.ref 116) (agCl c1 c2 c3) outer) (exec st (envX "_law_agrees" sc L 117 (.ref 116) (agCl c1 c2 c3))) Q E s := by
  have e' : agSt w.params 0 = some (_, _) := rfl
  rw [e'] at hst
  cases hst
  clear e'
  have hcl : 600 ≤ cLine := by decide
  have hrl : 900 ≤ recursionLimit := by decide
  have n0f : n0 ≤ 8 := by lia
  have n0g : m0 ≤ 8 := by lia
  dsimp only [agCl]
  refine hide fun hideG hideH => ?_
  obtain ⟨sym0, NS, offS, snapS⟩ := snap F (agX L c1 c2 c3) (.head _)
  refine hideH ?_; clear hideH hideG
  have N₁ : News h₀ L s.heap ([(c3, o1), (c2, o2), (c1, o3), (16, t1), (93, t2), (114, t3)] ++ sym0) := news_app N NS
  dsimp only [List.cons_append, List.nil_append] at N₁
  clear N NS
  w_on
  show wpAny _ _ _ _ _ _
  k_steps
  iterate 3 (refine HaltC.get ?_; k_dflt (refine' part_tells ?k1 ?k2 ?k3 ?k4 ?k5 ?k6 ?k7 ?k8 ?b1 ?b2 ?b3 ?b4 ?b5 ?b6 ?b7 ?b8 ?_; (case k1 => k_asm); (case k2 => k_asm); (case k3 => k_asm); (case k4 => k_asm); (case k5 => exact rfl); (case k6 => ktr_room); (case k7 => ktr_units); (case k8 => (rename Fr _ _ _ _ => FQ; exact FQ.keep _ _ (by assumption))); (case b1 => lia); (case b2 => lia); (case b3 => lia); (case b4 => lia); (case b5 => lia); (case b6 => lia); (case b7 => lia); (case b8 => lia); k_whole); intro t' h' tk' kp'; (rename Fr _ _ _ _ => FQ; have F' := FQ.keeps kp'; clear FQ); (rename News _ _ _ _ => NQ; have N' := NQ.grown kp'; clear NQ); clear kp'; k_steps)
  refine HaltC.get ?_
  k_dflt (refine' hsv_tells ?k1 ?k2 ?k3 ?k4 ?k5 ?k6 ?k7 ?kz ?_; (case k1 => k_asm); (case k2 => k_asm); (case k3 => k_asm); (case k4 => k_asm); (case k5 => exact rfl); (case k6 => ktr_room); (case k7 => ktr_units); (case kz => assumption); k_whole); intro D' x' y' z' t' u' v' h' tk' e' kp' nw'; (rename News _ _ _ _ => NQ; rename Fr _ _ _ _ => FQ; have N' := news_add FQ NQ kp' nw'; have F' := FQ.keeps kp'; clear FQ NQ); clear kp' nw'
  k_steps
  refine HaltC.get ?_
  rename Fr h₀ L _ _ => F'
  rename News h₀ L _ _ => N'
  rename (_, _, _) = hsv3 _ _ _ _ _ => e'
  have N2 := fun p hp => N' p (List.mem_cons_of_mem _ hp)
  have oS : ∀ p ∈ sym0, p.1 ≠ c2 := fun p hp q => offS p hp (q ▸ .tail _ (.tail _ (.head _)))
  refine hide fun hideG hideH => ?_
  obtain ⟨a12, a13, a23, ⟨b1, b2, b3⟩, ⟨b4, b5, b6⟩, b7, b8, b9⟩ := AP
  refine hideH ?_; clear hideH hideG
  refine store_cell F' N2 rfl (.tail (Ne.symm a23) (.head fun p hp => ?_)) d2 (fun h' o' F2 N3 dd => ?_) rfl rfl
  · rcases List.mem_cons.mp hp with rfl | hp
    · exact a12
    rcases List.mem_cons.mp hp with rfl | hp
    · exact Ne.symm b4
    rcases List.mem_cons.mp hp with rfl | hp
    · exact Ne.symm b5
    rcases List.mem_cons.mp hp with rfl | hp
    · exact Ne.symm b6
    exact oS p hp
  · refine hQ _ _ o' h' _ F2 (fun p hp => N3 p ?_) dd (snapS _ _ F2 fun p hp => N3 p ?_) (congrArg Prod.fst e')
    · exact List.mem_append_left sym0 hp
    · exact .tail _ (.tail _ (.tail _ (.tail _ (.tail _ (.tail _ hp)))))
end
end Mine
end
section
open PySem PySem.W PySem.W.X PySem.Calls PyProof.Rows
set_option maxRecDepth 100000
set_option maxHeartbeats 4000000
namespace Mine
theorem AtX.sub {X Y : List Addr} {h : Heap} (hs : ∀ c ∈ Y, c ∈ X) : ∀ d o, AtX X h d o → AtX Y h d o := fun d o x => ⟨x.1, fun q => x.2 (hs d q)⟩
/-- the part of a heap at some places -/
def fragOf (h : Heap) : List Addr → Frag
  | [] => []
  | a :: as => match h.get? a with
    | some o => (a, o) :: fragOf h as
    | none => fragOf h as
theorem fragOf_in {h : Heap} : ∀ (as : List Addr), (fragOf h as).In h
  | [], a, o, e => by cases e
  | b :: as, a, o, e => by
    unfold fragOf at e
    cases q : h.get? b with
    | none => rw [q] at e; exact fragOf_in as a o e
    | some ob =>
      rw [q] at e
      dsimp only at e
      rw [List.lookup_cons] at e
      by_cases c : a == b
      · rw [c] at e
        cases e
        rw [eq_of_beq c]
        exact q
      · rw [Bool.eq_false_iff.mpr c] at e
        exact fragOf_in as a o e
theorem fragOf_lk {h : Heap} {a : Addr} {o : Obj} (e : h.get? a = some o) : ∀ (as : List Addr), a ∈ as → (fragOf h as).lookup a = some o
  | [], hm => nomatch hm
  | b :: as, hm => by
    unfold fragOf
    by_cases c : a = b
    · subst c
      rw [e]
      dsimp only
      rw [List.lookup_cons_self]
    · have hm' : a ∈ as := by
        rcases List.mem_cons.mp hm with q | q
        · exact absurd q c
        · exact q
      cases q : h.get? b with
      | none => exact fragOf_lk e as hm'
      | some ob =>
        dsimp only
        rw [List.lookup_cons, beq_eq_false_iff_ne.mpr c]
        exact fragOf_lk e as hm'
theorem fragOf_mem {h : Heap} : ∀ (as : List Addr) {a : Addr} {o : Obj}, (fragOf h as).lookup a = some o → a ∈ as
  | [], a, o, e => by cases e
  | b :: as, a, o, e => by
    unfold fragOf at e
    cases q : h.get? b with
    | none => rw [q] at e; exact List.mem_cons_of_mem _ (fragOf_mem as e)
    | some ob =>
      rw [q] at e
      dsimp only at e
      rw [List.lookup_cons] at e
      by_cases c : a == b
      · rw [eq_of_beq c]; exact List.mem_cons_self
      · rw [Bool.eq_false_iff.mpr c] at e
        exact List.mem_cons_of_mem _ (fragOf_mem as e)
inductive MethX (Y : List Addr) (p : Params) (h : Heap) (i : Nat) (f : Addr) (name : Str) (clos : List (Str × Addr)) : Prop
  | mk (a : Arguments) (b : List Stmt) (sc : Scope) (doc pm : Value) (c' : Addr) (ctv : Value) (oc : Obj) (vs : Array Value) (t : Tok) (h1 : kFn p i = some (a, b, sc)) (h2 : AtX Y h f (fnMade name (("cmp_to_key.<locals>.K." : Str) ++ name) a b sc clos doc pm c' ctv)) (h3 : AtX Y h c' oc) (h4 : oc.data = .fields vs) (h5 : vs[1]? = some (.str (("cmp_to_key.<locals>.K." : Str) ++ name) t))
theorem MethX.ext {Y : List Addr} {p : Params} {h h' : Heap} {i : Nat} {f : Addr} {name : Str} {clos : List (Str × Addr)} (e : Ext Y h h') : MethX Y p h i f name clos → MethX Y p h' i f name clos :=
  fun x => by
  obtain ⟨a, b, sc, doc, pm, c', ctv, oc, vs, t, h1, h2, h3, h4, h5⟩ := x
  exact ⟨a, b, sc, doc, pm, c', ctv, oc, vs, t, h1, AtX.ext e _ _ h2, AtX.ext e _ _ h3, h4, h5⟩
theorem MethX.at {Y : List Addr} {p : Params} {h : Heap} {i : Nat} {f : Addr} {name : Str} {clos : List (Str × Addr)} : MethX Y p h i f name clos → MethAt p h i f name clos :=
  fun x => by
  obtain ⟨a, b, sc, doc, pm, c', ctv, oc, vs, t, h1, h2, h3, h4, h5⟩ := x
  exact ⟨a, b, sc, doc, pm, c', ctv, h1, h2.1, c', oc, vs, t, rfl, h3.1, h4, h5⟩
theorem MethX.cls {Y : List Addr} {p : Params} {h : Heap} {i : Nat} {f : Addr} {name : Str} {clos : List (Str × Addr)} : MethX Y p h i f name clos → ∃ o, h.get? f = some o ∧ o.cls = .type "function" ∧ f ∉ Y :=
  fun x => by
  obtain ⟨a, b, sc, doc, pm, c', ctv, oc, vs, t, h1, h2, h3, h4, h5⟩ := x
  exact ⟨_, h2.1, rfl, h2.2⟩
/-- no function and no code record stands at the places -/
structure Plain (Y : List Addr) (h : Heap) : Prop where
  no : ∀ c ∈ Y, ∀ o, h.get? c = some o → (∀ fd, o.data ≠ .func fd) ∧ ∀ vs v, o.data = .fields vs → vs[1]? = some v → False
theorem MethAt.x {Y : List Addr} {p : Params} {h : Heap} {i : Nat} {f : Addr} {name : Str} {clos : List (Str × Addr)} (P : Plain Y h) : MethAt p h i f name clos → MethX Y p h i f name clos := fun x => by
  refine hide fun hideG hideH => ?_
  obtain ⟨a, b, sc, doc, pm, c', ctv, e1, e2, c2, o2, vs, t2, e3, g2, d2, r2⟩ := x
  refine hideH ?_; clear hideH hideG
  cases e3
  exact ⟨a, b, sc, doc, pm, _, ctv, o2, vs, t2, e1, ⟨e2, fun q => (P.no _ q _ e2).1 _ rfl⟩, ⟨g2, fun q => (P.no _ q _ g2).2 _ _ d2 r2⟩, d2, r2⟩
/-- the class of keys, whole: at a heap, off some places -/
inductive KeyEx (p : Params) (Y : List Addr) (h : Heap) (C f : Addr) : Prop
  | mk (K : Frag) (ns md fI fL fG fE : Addr) (sl : Array (Option Value)) (cell : Addr) (oc : Obj) (a1 : KIn K C ns md fI fL fG fE sl) (a2 : ∀ d o, K.lookup d = some o → AtX Y h d o) (a3 : MethX Y p h 2 fI "__init__" []) (a4 : MethX Y p h 3 fL "__lt__" [("mycmp", cell)]) (a5 : MethX Y p h 4 fG "__gt__" [("mycmp", cell)]) (a6 : MethX Y p h 5 fE "__eq__" [("mycmp", cell)])
    (a7 : AtX Y h cell oc) (a8 : oc.data = .cell (some (.ref f)))
structure KeyEnv (p : Params) (Y : List Addr) (h : Heap) (C f Dt l : Addr) : Prop where
  of ::
  ex : KeyEx p Y h C f
  ask : AskFn p (AtX Y h) f Dt l
theorem KeyEnv.ext {p : Params} {Y : List Addr} {h h' : Heap} {C f Dt l : Addr} (e : Ext Y h h') (x : KeyEnv p Y h C f Dt l) : KeyEnv p Y h' C f Dt l := by
  refine hide fun hideG hideH => ?_
  obtain ⟨⟨K, ns, md, fI, fL, fG, fE, sl, cell, oc, a1, a2, a3, a4, a5, a6, a7, a8⟩, b⟩ := x
  refine hideH ?_; clear hideH hideG
  exact ⟨⟨K, ns, md, fI, fL, fG, fE, sl, cell, oc, a1, fun d o q => AtX.ext e _ _ (a2 d o q), a3.ext e, a4.ext e, a5.ext e, a6.ext e, AtX.ext e _ _ a7, a8⟩, b.mono (AtX.ext e)⟩
theorem KeyEnv.make {p : Params} {Y : List Addr} {h : Heap} {C f Dt l ns md fI fL fG fE cell : Addr} {hs ts lS fLe fGe tS b t x y u v q} {oc : Obj} (P : Plain Y h)
    (hC : AtX Y h C (kClsO ns [.ref C, .type "object"] false ["obj"] (kSl b t (ts 21)))) (hN : AtX Y h ns (kNsO hs ts lS fI fL fG fE fLe fGe tS md x y u v)) (hM : AtX Y h md (kMdO C q))
    (MI : MethAt p h 2 fI "__init__" []) (ML : MethAt p h 3 fL "__lt__" [("mycmp", cell)]) (MG : MethAt p h 4 fG "__gt__" [("mycmp", cell)]) (ME : MethAt p h 5 fE "__eq__" [("mycmp", cell)]) (hc : AtX Y h cell oc) (hoc : oc.data = .cell (some (.ref f))) (AF : AskFn p (AtX Y h) f Dt l) : KeyEnv p Y h C f Dt l := by
  have XI := MI.x P
  have XL := ML.x P
  have XG := MG.x P
  have XE := ME.x P
  refine hide fun hideG hideH => ?_
  obtain ⟨oI, eI, cI, nI⟩ := XI.cls
  obtain ⟨oL, eL, cL, nL⟩ := XL.cls
  obtain ⟨oG, eG, cG, nG⟩ := XG.cls
  obtain ⟨oE, eE, cE, nE⟩ := XE.cls
  refine hideH ?_; clear hideH hideG
  refine ⟨⟨fragOf h [C, ns, md, fI, fL, fG, fE], ns, md, fI, fL, fG, fE, _, cell, oc, ⟨fragOf_lk hC.1 _ (by simp), rfl, ⟨hs, ts, lS, fLe, fGe, tS, x, y, u, v, fragOf_lk hN.1 _ (by simp)⟩, ⟨q, fragOf_lk hM.1 _ (by simp)⟩, by rw [fragOf_lk eI _ (by simp)]; exact congrArg some cI, by rw [fragOf_lk eL _ (by simp)]; exact congrArg some cL, by rw [fragOf_lk eG _ (by simp)]; exact congrArg some cG, by rw [fragOf_lk eE _ (by simp)]; exact congrArg some cE⟩, fun d o e => ⟨fragOf_in _ d o e, fun hd => ?_⟩, XI, XL, XG, XE, hc, hoc⟩, AF⟩
  have hm := fragOf_mem _ e
  simp only [List.mem_cons, List.not_mem_nil, or_false] at hm
  rcases hm with rfl | rfl | rfl | rfl | rfl | rfl | rfl
  · exact hC.2 hd
  · exact hN.2 hd
  · exact hM.2 hd
  · exact nI hd
  · exact nL hd
  · exact nG hd
  · exact nE hd
end Mine
end
section
open PySem PySem.W PySem.Calls PyProof.Rows
set_option maxRecDepth 100000
set_option maxHeartbeats 8000000
namespace Mine
local macro_rules | `(tactic| walk_at "storeName") => `(tactic| (k_here; refine HaltC.mk ?_))
local macro_rules | `(tactic| walk_at "call ref") => `(tactic| (k_here; refine HaltC.mk ?_))
abbrev agY (L c1 c2 c3 : Addr) : List Addr := [L, c1, c2, c3, 114]
theorem agY_sub {L c1 c2 c3 : Addr} : ∀ c ∈ agY L c1 c2 c3, c ∈ agX L c1 c2 c3 := fun c h => by
  simp only [agY, agX, List.mem_cons, List.not_mem_nil, or_false] at h ⊢
  rcases h with h | h | h | h | h <;> simp [h]
theorem fr_exb {h₀ h h' : Heap} {L P : Addr} {m : Str → Option Value} (F : Fr h₀ L h m) (k : ∀ b o, b ≠ P → h.get? b = some o → h'.get? b = some o) (hL : L ≠ P) (hP : h₀.get? P = none) : Fr h₀ L h' m :=
  ⟨F.ns.at' fun o e => k L o hL e, fun b o e => k b o (fun q => by rw [q, hP] at e; cases e) (F.keep b o e), F.above⟩
section
variable {w : World} {prg : Program} {loose : List Str} {mean : ExcName → Option Value} {mg mb : Str → Option Value}
    {dp un : Nat} {gd : Option (List Code)} {outer : List Env} {A₀ : Around} {base h₀ : Heap} {L : Addr} {m : Str → Option Value} {s : Shared} {E : Value → Shared → Prop} {Q : Flow → Shared → Prop} {x l c1 c2 c3 : Addr} {o1 o2 o3 : Obj} {st : Stmt} {sc : Scope}
theorem ag_keyed {Dt : Addr} (hst : agSt w.params 3 = some (st, sc))
    (B : Below A₀ base outer h₀) (F : Fr h₀ L s.heap m) (X : (hd.heap_1 w.params).In h₀) (T : Top prg loose mean mg mb h₀) (hdp : dp + 40 < 900) (hun : un + 80 < 600) (AP : Apart c1 c2 c3)
    (N : News h₀ L s.heap [(c3, o1), (c2, o2), (c1, o3), (16, tabObj #[]), (93, tabObj #[]), (114, tabObj #[])]) (d1 : o1.data = .cell none) {v2 v3 : Option Value} (d2 : o2.data = .cell v2) (d3 : o3.data = .cell v3)
    (m1 : m "told" = some (.ref Dt)) (m2 : m "rules" = some (.ref l))
    (hQ : ∀ C f o1' h' tk', Fr h₀ L h' m → News h₀ L h' [(c3, o1'), (c2, o2), (c1, o3), (114, tabObj #[])] → o1'.data = .cell (some (.ref C)) → Ext (agX L c1 c2 c3) s.heap h' → KeyEnv w.params (agY L c1 c2 c3) h' C f Dt l → (∃ ps, h'.get? 93 = some (tabObj ps)) → (∃ ps, h'.get? 16 = some (tabObj ps)) → Q .next { s with heap := h', toks := tk' }) :
    wpAny (model PySem.Challenge.rw_mq0178_01.row.prog w) (ktrTop dp un gd "_law_agrees" sc L 117 (.ref 116) (agCl c1 c2 c3) outer) (exec st (envX "_law_agrees" sc L 117 (.ref 116) (agCl c1 c2 c3))) Q E s := by
  have e' : agSt w.params 3 = some (_, _) := rfl
  rw [e'] at hst
  cases hst
  clear e'
  have hcl : 600 ≤ cLine := by decide
  have hrl : 900 ≤ recursionLimit := by decide
  dsimp only [agCl]
  have F₁ : Fr h₀ L s.heap _ := fr_known2 F m1 m2
  have hmm : (fun z => if z = ("told" : Str) then some (Value.ref Dt) else if z = ("rules" : Str) then some (.ref l) else m z) = m := by
    funext z
    by_cases q0 : z = ("told" : Str)
    · simp only [if_pos q0]; rw [q0, m1]
    by_cases q1 : z = ("rules" : Str)
    · simp only [if_neg q0, if_pos q1]; rw [q1, m2]
    simp only [if_neg q0, if_neg q1]
  clear F
  w_on
  show wpAny _ _ _ _ _ _
  k_steps
  refine HaltC.get ?_
  have hexX : ∀ c ∈ agX L c1 c2 c3, ∃ o, s.heap.get? c = some o := fun c hm => by
    simp only [agX, List.mem_cons, List.not_mem_nil, or_false] at hm
    rcases hm with q | q | q | q | q | q | q
    · refine hide fun hideG hideH => ?_
      obtain ⟨o, _, _, e, _⟩ := F₁.ns
      refine hideH ?_; clear hideH hideG
      exact ⟨o, q ▸ e⟩
    · exact ⟨_, q ▸ (N (c1, o3) (by simp)).1⟩
    · exact ⟨_, q ▸ (N (c2, o2) (by simp)).1⟩
    · exact ⟨_, q ▸ (N (c3, o1) (by simp)).1⟩
    · exact ⟨_, q ▸ (N (16, tabObj #[]) (by simp)).1⟩
    · exact ⟨_, q ▸ (N (93, tabObj #[]) (by simp)).1⟩
    · exact ⟨_, q ▸ (N (114, tabObj #[]) (by simp)).1⟩
  refine hide fun hideG hideH => ?_
  obtain ⟨a12, a13, a23, ⟨b1, b2, b3⟩, ⟨b4, b5, b6⟩, b7, b8, b9⟩ := AP
  refine hideH ?_; clear hideH hideG
  have n93 := N (93, tabObj #[]) (by simp)
  refine comp_tells B F₁ X T rfl (news_one N (by simp)) (by lia) (by lia) fun f h1 tk1 k93 AF g93 => ?_
  have F₂ := fr_exb F₁ k93 (Ne.symm n93.2.1) n93.2.2
  have N₂ : News h₀ L h1 [(c3, o1), (c2, o2), (c1, o3), (16, tabObj #[]), (114, tabObj #[])] := fun p hp => by
    simp only [List.mem_cons, List.not_mem_nil, or_false] at hp
    rcases hp with rfl | rfl | rfl | rfl | rfl
    · exact ⟨k93 _ _ b8 (N _ (by simp)).1, (N (c3, o1) (by simp)).2⟩
    · exact ⟨k93 _ _ b5 (N _ (by simp)).1, (N (c2, o2) (by simp)).2⟩
    · exact ⟨k93 _ _ b2 (N _ (by simp)).1, (N (c1, o3) (by simp)).2⟩
    · exact ⟨k93 _ _ (by decide) (N _ (by simp)).1, (N (16, tabObj #[]) (by simp)).2⟩
    · exact ⟨k93 _ _ (by decide) (N _ (by simp)).1, (N (114, tabObj #[]) (by simp)).2⟩
  refine hide fun hideG hideH => ?_
  obtain ⟨pa, pb, psc, pdoc, ppm, pc', pctv, pcR, pcU, poc, poR, poU, pvs, pt, pe, pf, prest⟩ := id AF
  refine hideH ?_; clear hideH hideG
  have hkf : Frag.In [(f, fnMade "_law_asked" "_law_comparison.<locals>._law_asked" pa pb psc [("rules", pcU), ("rows", pcR)] pdoc ppm pc' pctv)] h1 := Frag.in_of (as := [f]) rfl (by simp [pf.there])
  clear N F₁
  k_steps
  refine HaltC.get ?_
  have n16 := N₂ (16, tabObj #[]) (by simp)
  refine cmp_tells B F₂ X T rfl (by lia) (by lia) (news_one N₂ (by simp)) (codeHd_of_K X (by kernel_rfl)) fun C ns md hs ts lS fI fL fG fE fLe fGe tS b t x y u v q cell oc hE tkE k16 h16 NC NS NM MI ML MG ME Nc hoc => ?_
  have F₃ := fr_exb F₂ k16 (Ne.symm n16.2.1) n16.2.2
  have N₃ : News h₀ L hE [(c3, o1), (c2, o2), (c1, o3), (114, tabObj #[])] := fun p hp => by
    simp only [List.mem_cons, List.not_mem_nil, or_false] at hp
    rcases hp with rfl | rfl | rfl | rfl
    · exact ⟨k16 _ _ b7 (N₂ _ (by simp)).1, (N₂ (c3, o1) (by simp)).2⟩
    · exact ⟨k16 _ _ b4 (N₂ _ (by simp)).1, (N₂ (c2, o2) (by simp)).2⟩
    · exact ⟨k16 _ _ b1 (N₂ _ (by simp)).1, (N₂ (c1, o3) (by simp)).2⟩
    · exact ⟨k16 _ _ (by decide) (N₂ _ (by simp)).1, (N₂ (114, tabObj #[]) (by simp)).2⟩
  clear N₂
  refine hide fun hideG hideH => ?_
  obtain ⟨sym1, NS1, offS, snapS⟩ := snap F₃ (agY L c1 c2 c3) (.head _)
  refine hideH ?_; clear hideH hideG
  have N₄ : News h₀ L hE ([(c3, o1), (c2, o2), (c1, o3), (114, tabObj #[])] ++ sym1) := news_app N₃ NS1
  dsimp only [List.cons_append, List.nil_append] at N₄
  have ex93 : Ext (agX L c1 c2 c3) s.heap h1 := fun b o hb e => k93 b o (fun q => hb (q ▸ by simp [agX])) e
  have ex16 : Ext (agX L c1 c2 c3) h1 hE := fun b o hb e => k16 b o (fun q => hb (q ▸ by simp [agX])) e
  have hexY : ∀ c ∈ agY L c1 c2 c3, ∃ o, h1.get? c = some o := fun c hm => by
    refine hide fun hideG hideH => ?_
    obtain ⟨o, e⟩ := hexX c (agY_sub c hm)
    refine hideH ?_; clear hideH hideG
    refine ⟨o, k93 _ _ (fun q => ?_) e⟩
    subst q
    simp only [agY, List.mem_cons, List.not_mem_nil, or_false] at hm
    rcases hm with q | q | q | q | q
    · exact n93.2.1 q
    · exact b2 q.symm
    · exact b5 q.symm
    · exact b8 q.symm
    · exact absurd q (by decide)
  have PL : Plain (agY L c1 c2 c3) hE := ⟨fun c hm o e => by
    simp only [agY, List.mem_cons, List.not_mem_nil, or_false] at hm
    rcases hm with q | q | q | q | q
    · refine hide fun hideG hideH => ?_
      obtain ⟨oL, es, ep, eL, hdL, _⟩ := F₃.ns
      refine hideH ?_; clear hideH hideG
      subst q
      rw [eL] at e
      cases e
      exact ⟨fun _ z => (by rw [hdL] at z; cases z), fun _ _ z => (by rw [hdL] at z; cases z)⟩
    · subst q
      have z := (N₃ (c, o3) (by simp)).1
      rw [z] at e
      cases e
      exact ⟨fun _ z => (by rw [d3] at z; cases z), fun _ _ z => (by rw [d3] at z; cases z)⟩
    · subst q
      have z := (N₃ (c, o2) (by simp)).1
      rw [z] at e
      cases e
      exact ⟨fun _ z => (by rw [d2] at z; cases z), fun _ _ z => (by rw [d2] at z; cases z)⟩
    · subst q
      have z := (N₃ (c, o1) (by simp)).1
      rw [z] at e
      cases e
      exact ⟨fun _ z => (by rw [d1] at z; cases z), fun _ _ z => (by rw [d1] at z; cases z)⟩
    · subst q
      have z := (N₃ (114, tabObj #[]) (by simp)).1
      rw [z] at e
      cases e
      exact ⟨fun _ z => (by cases z), fun vs v z zz => (by cases z; cases zz)⟩⟩
  have KE : KeyEnv w.params (agY L c1 c2 c3) hE C f Dt l := KeyEnv.make PL (new_atx hexY _ _ NC) (new_atx hexY _ _ NS) (new_atx hexY _ _ NM) MI ML MG ME (new_atx hexY _ _ Nc) hoc
    (AF.mono fun d o z => AtX.sub agY_sub _ _ (AtX.ext ex16 _ _ (new_atx hexX _ _ z)))
  clear N₃ NS1
  k_steps
  refine HaltC.get ?_
  refine store_cell F₃ N₄ rfl (.head fun p hp => ?_) d1 (fun h' o' F5 N5 dd => ?_) rfl rfl
  · rcases List.mem_cons.mp hp with rfl | hp
    · exact a23
    rcases List.mem_cons.mp hp with rfl | hp
    · exact a13
    rcases List.mem_cons.mp hp with rfl | hp
    · exact Ne.symm b9
    exact fun q => offS p hp (q ▸ by simp [agY])
  · have eY := snapS _ _ F5 fun p hp => N5 p (.tail _ (.tail _ (.tail _ (.tail _ hp))))
    refine hQ C f o' h' _ (by rw [hmm] at F5; exact F5) (fun p hp => N5 p ?_) dd (ex93.trans (ex16.trans fun b o hb e => eY b o (fun q => hb (agY_sub b q)) e)) (KE.ext eY) ?_ ?_
    · exact List.mem_append_left sym1 hp
    · refine hide fun hideG hideH => ?_
      obtain ⟨ps, e⟩ := g93
      refine hideH ?_; clear hideH hideG
      refine ⟨ps, eY 93 _ (fun hm => ?_) (k16 _ _ (by decide) e)⟩
      simp only [agY, List.mem_cons, List.not_mem_nil, or_false] at hm
      rcases hm with q | q | q | q | q
      · exact n93.2.1 q
      · exact b2 q.symm
      · exact b5 q.symm
      · exact b8 q.symm
      · exact absurd q (by decide)
    · refine hide fun hideG hideH => ?_
      obtain ⟨ps, e⟩ := h16
      refine hideH ?_; clear hideH hideG
      refine ⟨ps, eY 16 _ (fun hm => ?_) e⟩
      simp only [agY, List.mem_cons, List.not_mem_nil, or_false] at hm
      rcases hm with q | q | q | q | q
      · exact n16.2.1 q
      · exact b1 q.symm
      · exact b4 q.symm
      · exact b7 q.symm
      · exact absurd q (by decide)
end
end Mine
end
section
open PySem PySem.W PySem.Calls PyProof.Rows
set_option maxRecDepth 100000
set_option maxHeartbeats 8000000
namespace Mine
local macro_rules | `(tactic| walk_at "call ref") => `(tactic| (k_here; refine HaltC.mk ?_))
theorem fr_eq {h₀ h : Heap} {L : Addr} {m m' : Str → Option Value} (F : Fr h₀ L h m) (e : ∀ z, m z = m' z) : Fr h₀ L h m' := (funext e : m = m') ▸ F
section
variable {w : World} {prg : Program} {loose : List Str} {mean : ExcName → Option Value} {mg mb : Str → Option Value}
    {dp un : Nat} {gd : Option (List Code)} {outer : List Env} {A₀ : Around} {base h₀ : Heap} {L : Addr} {m : Str → Option Value} {s : Shared} {E : Value → Shared → Prop} {Q : Flow → Shared → Prop} {x l c1 c2 c3 : Addr} {o1 o2 o3 : Obj} {st : Stmt} {sc : Scope}
theorem ag_forth {Dd : Addr} {rows : List (List (Int × Int))} {rs : List (Int × Int)} {t3 : Obj} (hst : agSt w.params 4 = some (st, sc))
    (B : Below A₀ base outer h₀) (F : Fr h₀ L s.heap m) (X : (hd.heap_1 w.params).In h₀) (T : Top prg loose mean mg mb h₀) (hdp : dp + 40 < 900) (hun : un + 80 < 600)
    (N : News h₀ L s.heap [(c3, o1), (c2, o2), (c1, o3), (114, t3)])
    (m1 : m "due" = some (.ref Dd)) (m2 : m "rules" = some (.ref l)) (hx : PTab (AtX (agY L c1 c2 c3) s.heap) Dd rows) (hr : Pairs (AtH h₀) l rs) (h8 : rows.length = 8)
    (hok : ∀ p ∈ rs, 0 ≤ p.1 ∧ p.1 < 6 ∧ -16 ≤ p.2 ∧ p.2 ≤ 16) (hl6 : ∀ r ∈ rows, r.length = 6) (hb : ∀ r ∈ rows, ∀ p ∈ r, -1000000 ≤ p.1 ∧ p.1 ≤ 1000000 ∧ -1000000 ≤ p.2 ∧ p.2 ≤ 1000000)
    (hQ : ∀ D vs e h' tk', Fr h₀ L h' (fun z => if z = "forth" then some (.ref D) else m z) → News h₀ L h' [(c3, o1), (c2, o2), (c1, o3), (114, t3)] → Ext (agY L c1 c2 c3) s.heap h' → AtX (agY L c1 c2 c3) h' D (W.listOf (List.toArray vs) e) → IntsAre vs (ordI rows rs (1) 8) → Q .next { s with heap := h', toks := tk' }) :
    wpAny (model PySem.Challenge.rw_mq0178_01.row.prog w) (ktrTop dp un gd "_law_agrees" sc L 117 (.ref 116) (agCl c1 c2 c3) outer) (exec st (envX "_law_agrees" sc L 117 (.ref 116) (agCl c1 c2 c3))) Q E s := by
  have e' : agSt w.params 4 = some (_, _) := rfl
  rw [e'] at hst
  cases hst
  clear e'
  have hcl : 600 ≤ cLine := by decide
  have hrl : 900 ≤ recursionLimit := by decide
  dsimp only [agCl]
  refine hide fun hideG hideH => ?_
  obtain ⟨sym1, NS1, offS, snapS⟩ := snap F (agY L c1 c2 c3) (.head _)
  refine hideH ?_; clear hideH hideG
  have F₁ : Fr h₀ L s.heap _ := fr_known2 F m1 m2
  have N₄ : News h₀ L s.heap ([(c3, o1), (c2, o2), (c1, o3), (114, t3)] ++ sym1) := news_app N NS1
  dsimp only [List.cons_append, List.nil_append] at N₄
  have hexY : ∀ c ∈ agY L c1 c2 c3, ∃ o, s.heap.get? c = some o := fun c hm => by
    simp only [agY, List.mem_cons, List.not_mem_nil, or_false] at hm
    rcases hm with q | q | q | q | q
    · refine hide fun hideG hideH => ?_
      obtain ⟨o, _, _, e, _⟩ := F.ns
      refine hideH ?_; clear hideH hideG
      exact ⟨o, q ▸ e⟩
    · exact ⟨_, q ▸ (N (c1, o3) (by simp)).1⟩
    · exact ⟨_, q ▸ (N (c2, o2) (by simp)).1⟩
    · exact ⟨_, q ▸ (N (c3, o1) (by simp)).1⟩
    · exact ⟨_, q ▸ (N (114, t3) (by simp)).1⟩
  clear F N NS1
  w_on
  show wpAny _ _ _ _ _ _
  k_steps
  refine HaltC.get ?_
  refine order_tells B F₁ X T rfl (by lia) (by lia) (hx.mono AtX.at) (hr.mono fun d o z => F₁.keep _ _ z) hok (by lia) hl6 hb (by decide) fun D vs e h' tk' kp nw hi => ?_
  have nD := (new_atx hexY _ _ nw).2
  have N₅ := news_add F₁ N₄ kp nw
  have F₂ := F₁.keeps kp
  clear N₄ F₁
  rw [h8] at hi
  k_steps
  rename Fr h₀ L _ _ => F₃
  rename News h₀ L _ _ => N₆
  refine hQ D vs e _ _ (fr_eq F₃ fun z => ?_) (fun p hp => N₆ p ?_) (snapS _ _ F₃ fun p hp => N₆ p ?_) ⟨(N₆ (D, W.listOf (List.toArray vs) e) (.head _)).1, nD⟩ hi
  · split
    · rfl
    · split
      · next q => rw [q, m1]
      · split
        · next q => rw [q, m2]
        · rfl
  · exact .tail _ (List.mem_append_left sym1 hp)
  · exact .tail _ (.tail _ (.tail _ (.tail _ (.tail _ hp))))
theorem ag_back {Dd : Addr} {rows : List (List (Int × Int))} {rs : List (Int × Int)} {t3 : Obj} (hst : agSt w.params 5 = some (st, sc))
    (B : Below A₀ base outer h₀) (F : Fr h₀ L s.heap m) (X : (hd.heap_1 w.params).In h₀) (T : Top prg loose mean mg mb h₀) (hdp : dp + 40 < 900) (hun : un + 80 < 600)
    (N : News h₀ L s.heap [(c3, o1), (c2, o2), (c1, o3), (114, t3)])
    (m1 : m "due" = some (.ref Dd)) (m2 : m "rules" = some (.ref l)) (hx : PTab (AtX (agY L c1 c2 c3) s.heap) Dd rows) (hr : Pairs (AtH h₀) l rs) (h8 : rows.length = 8)
    (hok : ∀ p ∈ rs, 0 ≤ p.1 ∧ p.1 < 6 ∧ -16 ≤ p.2 ∧ p.2 ≤ 16) (hl6 : ∀ r ∈ rows, r.length = 6) (hb : ∀ r ∈ rows, ∀ p ∈ r, -1000000 ≤ p.1 ∧ p.1 ≤ 1000000 ∧ -1000000 ≤ p.2 ∧ p.2 ≤ 1000000)
    (hQ : ∀ D vs e h' tk', Fr h₀ L h' (fun z => if z = "back" then some (.ref D) else m z) → News h₀ L h' [(c3, o1), (c2, o2), (c1, o3), (114, t3)] → Ext (agY L c1 c2 c3) s.heap h' → AtX (agY L c1 c2 c3) h' D (W.listOf (List.toArray vs) e) → IntsAre vs (ordI rows rs (-1) 8) → Q .next { s with heap := h', toks := tk' }) :
    wpAny (model PySem.Challenge.rw_mq0178_01.row.prog w) (ktrTop dp un gd "_law_agrees" sc L 117 (.ref 116) (agCl c1 c2 c3) outer) (exec st (envX "_law_agrees" sc L 117 (.ref 116) (agCl c1 c2 c3))) Q E s := by
  have e' : agSt w.params 5 = some (_, _) := rfl
  rw [e'] at hst
  cases hst
  clear e'
  have hcl : 600 ≤ cLine := by decide
  have hrl : 900 ≤ recursionLimit := by decide
  dsimp only [agCl]
  refine hide fun hideG hideH => ?_
  obtain ⟨sym1, NS1, offS, snapS⟩ := snap F (agY L c1 c2 c3) (.head _)
  refine hideH ?_; clear hideH hideG
  have F₁ : Fr h₀ L s.heap _ := fr_known2 F m1 m2
  have N₄ : News h₀ L s.heap ([(c3, o1), (c2, o2), (c1, o3), (114, t3)] ++ sym1) := news_app N NS1
  dsimp only [List.cons_append, List.nil_append] at N₄
  have hexY : ∀ c ∈ agY L c1 c2 c3, ∃ o, s.heap.get? c = some o := fun c hm => by
    simp only [agY, List.mem_cons, List.not_mem_nil, or_false] at hm
    rcases hm with q | q | q | q | q
    · refine hide fun hideG hideH => ?_
      obtain ⟨o, _, _, e, _⟩ := F.ns
      refine hideH ?_; clear hideH hideG
      exact ⟨o, q ▸ e⟩
    · exact ⟨_, q ▸ (N (c1, o3) (by simp)).1⟩
    · exact ⟨_, q ▸ (N (c2, o2) (by simp)).1⟩
    · exact ⟨_, q ▸ (N (c3, o1) (by simp)).1⟩
    · exact ⟨_, q ▸ (N (114, t3) (by simp)).1⟩
  clear F N NS1
  w_on
  show wpAny _ _ _ _ _ _
  k_steps
  refine HaltC.get ?_
  refine order_tells B F₁ X T rfl (by lia) (by lia) (hx.mono AtX.at) (hr.mono fun d o z => F₁.keep _ _ z) hok (by lia) hl6 hb (by decide) fun D vs e h' tk' kp nw hi => ?_
  have nD := (new_atx hexY _ _ nw).2
  have N₅ := news_add F₁ N₄ kp nw
  have F₂ := F₁.keeps kp
  clear N₄ F₁
  rw [h8] at hi
  k_steps
  rename Fr h₀ L _ _ => F₃
  rename News h₀ L _ _ => N₆
  refine hQ D vs e _ _ (fr_eq F₃ fun z => ?_) (fun p hp => N₆ p ?_) (snapS _ _ F₃ fun p hp => N₆ p ?_) ⟨(N₆ (D, W.listOf (List.toArray vs) e) (.head _)).1, nD⟩ hi
  · split
    · rfl
    · split
      · next q => rw [q, m1]
      · split
        · next q => rw [q, m2]
        · rfl
  · exact .tail _ (List.mem_append_left sym1 hp)
  · exact .tail _ (.tail _ (.tail _ (.tail _ (.tail _ hp))))
end
end Mine
end
section
open PySem PySem.W PySem.Calls PyProof.Rows
set_option maxRecDepth 100000
set_option maxHeartbeats 8000000
namespace Mine
section
variable {w : World} {prg : Program} {loose : List Str} {mean : ExcName → Option Value} {mg mb : Str → Option Value}
    {dp un : Nat} {gd : Option (List Code)} {outer : List Env} {A₀ : Around} {base h₀ : Heap} {L : Addr} {m : Str → Option Value} {s : Shared} {E : Value → Shared → Prop} {Q : Flow → Shared → Prop} {x l c1 c2 c3 : Addr} {o1 o2 o3 : Obj} {st : Stmt} {sc : Scope}
theorem ag_places {v1 v2 v3 : Option Value} (hst : agSt w.params 6 = some (st, sc))
    (B : Below A₀ base outer h₀) (F : Fr h₀ L s.heap m) (X : (hd.heap_1 w.params).In h₀) (T : Top prg loose mean mg mb h₀) (hdp : dp + 40 < 900) (hun : un + 80 < 600)
    (N : News h₀ L s.heap [(c3, o1), (c2, o2), (c1, o3), (114, tabObj #[])]) (d1 : o1.data = .cell v1) (d2 : o2.data = .cell v2) (d3 : o3.data = .cell v3)
    (hQ : ∀ D vs e h' tk', Fr h₀ L h' (fun z => if z = "places" then some (.ref D) else m z) → News h₀ L h' [(c3, o1), (c2, o2), (c1, o3), (114, tabObj #[])] → Ext (agY L c1 c2 c3) s.heap h' → AtX (agY L c1 c2 c3) h' D (W.listOf (List.toArray vs) e) → IntsAre vs [0, 1, 2, 3, 4, 5, 6, 7] → Q .next { s with heap := h', toks := tk' }) :
    wpAny (model PySem.Challenge.rw_mq0178_01.row.prog w) (ktrTop dp un gd "_law_agrees" sc L 117 (.ref 116) (agCl c1 c2 c3) outer) (exec st (envX "_law_agrees" sc L 117 (.ref 116) (agCl c1 c2 c3))) Q E s := by
  have e' : agSt w.params 6 = some (_, _) := rfl
  rw [e'] at hst
  cases hst
  clear e'
  have hcl : 600 ≤ cLine := by decide
  have hrl : 900 ≤ recursionLimit := by decide
  dsimp only [agCl]
  refine hide fun hideG hideH => ?_
  obtain ⟨sym1, NS1, offS, snapS⟩ := snap F (agY L c1 c2 c3) (.head _)
  refine hideH ?_; clear hideH hideG
  have N₄ : News h₀ L s.heap ([(c3, o1), (c2, o2), (c1, o3), (114, tabObj #[])] ++ sym1) := news_app N NS1
  dsimp only [List.cons_append, List.nil_append] at N₄
  clear N NS1
  w_on
  show wpAny _ _ _ _ _ _
  k_steps
  rename Fr h₀ L _ _ => F₃
  rename News h₀ L _ _ => N₆
  refine hQ _ _ _ _ _ F₃ (fun p hp => N₆ p (.tail _ (List.mem_append_left sym1 hp))) (snapS _ _ F₃ fun p hp => N₆ p (.tail _ (.tail _ (.tail _ (.tail _ (.tail _ hp)))))) ⟨(N₆ _ (.head _)).1, fun hm => ?_⟩ (.cons _ _ (.cons _ _ (.cons _ _ (.cons _ _ (.cons _ _ (.cons _ _ (.cons _ _ (.cons _ _ .nil))))))))
  have zD := N₆ _ (.head _)
  have z3 := (N₆ _ (.tail _ (.head _))).1
  have z2 := (N₆ _ (.tail _ (.tail _ (.head _)))).1
  have z1 := (N₆ _ (.tail _ (.tail _ (.tail _ (.head _))))).1
  have z0 := (N₆ _ (.tail _ (.tail _ (.tail _ (.tail _ (.head _)))))).1
  dsimp only at zD z3 z2 z1 z0
  simp only [agY, List.mem_cons, List.not_mem_nil, or_false] at hm
  rcases hm with q | q | q | q | q
  · exact zD.2.1 q
  · rw [← q, zD.1] at z1
    cases z1
    cases d3
  · rw [← q, zD.1] at z2
    cases z2
    cases d2
  · rw [← q, zD.1] at z3
    cases z3
    cases d1
  · rw [← q, zD.1] at z0
    cases z0
end
end Mine
end
section
open PySem PySem.W PySem.Calls PyProof.Rows
set_option maxRecDepth 100000
set_option maxHeartbeats 8000000
namespace Mine
section
variable {w : World} {prg : Program} {loose : List Str} {mean : ExcName → Option Value} {mg mb : Str → Option Value}
    {dp un : Nat} {gd : Option (List Code)} {cn : Str} {cs : Scope} {a : Addr} {ccd : Value} {cl : List (Str × Addr)} {outer : List Env} {A₀ : Around} {base h₀ : Heap} {L : Addr} {m : Str → Option Value} {s : Shared} {Q E : Value → Shared → Prop}
theorem ints_at {vs : List Value} {i : Nat} {v : Value} (hi : IntsAre vs [0, 1, 2, 3, 4, 5, 6, 7]) (hv : vs[i]? = some v) : i < 8 ∧ ∃ t, v = .int (i : Int) t := by
  have hlt : i < vs.length := (List.getElem?_eq_some_iff.mp hv).1
  have hl : vs.length = 8 := hi.length
  have h8 : i < 8 := by lia
  refine ⟨h8, ?_⟩
  have e : ([0, 1, 2, 3, 4, 5, 6, 7] : List Int)[i]? = some (i : Int) := by
    match i, h8 with
    | 0, _ => rfl
    | 1, _ => rfl
    | 2, _ => rfl
    | 3, _ => rfl
    | 4, _ => rfl
    | 5, _ => rfl
    | 6, _ => rfl
    | 7, _ => rfl
  refine hide fun hideG hideH => ?_
  obtain ⟨t, q⟩ := hi.get i _ e
  refine hideH ?_; clear hideH hideG
  rw [hv] at q
  exact ⟨t, Option.some.inj q⟩
theorem sort_tells {C f Dt l lp : Addr} {Y : List Addr} {b : Bool} {vs : List Value} {ns : List Int} {kw : List (Str × Value)} {ask : Int → Int → Int}
    (B : Below A₀ base outer h₀) (F : Fr h₀ L s.heap m) (T : Top prg loose mean mg mb h₀) (hk : cs.kind = .function) (hdp : dp + 30 < 900) (hun : un + 60 < 600)
    (KE : KeyEnv w.params Y s.heap C f Dt l) (AT : AskTells PySem.Challenge.rw_mq0178_01.row.prog w prg loose mean mg mb f s.heap (fun i => 0 ≤ i ∧ i < 8) ask)
    (hl : s.heap.IsList lp vs.toArray) (hi : IntsAre vs [0, 1, 2, 3, 4, 5, 6, 7])
    (ha1 : argsOk "sorted" ⟨[.ref lp], kw⟩) (ha2 : ∀ x, argsOk "list.sort" ⟨[.ref x], kw⟩) (ht : ∀ x, Builtin.«list.sort» ⟨[.ref x], kw⟩ = ksk_tree x (.ref C) b)
    (hso : IntsAre (sortOut b vs fun i j => decide (ask i j < 0)).toList ns)
    (hret : ∀ D ws h' tk' c, Keeps s.heap h' → New s.heap h' D (W.listOf (List.toArray ws) c) → IntsAre ws ns → Q (.ref D) { s with heap := h', toks := tk' }) :
    wpAny (model PySem.Challenge.rw_mq0178_01.row.prog w) (ktrTop dp un gd cn cs L a ccd cl outer) (call (.builtin "sorted") [.ref lp] kw) Q E s := by
  refine hide fun hideG hideH => ?_
  obtain ⟨⟨K, ns', md, fI, fL, fG, fE, sl, cell, oc, KI, hK, MI, ML, MG, ME, hc, hoc⟩, AF⟩ := KE
  obtain ⟨pa, pb, psc, pdoc, ppm, pc', pctv, pcR, pcU, poc, poR, poU, pvs, pt, pe, pf, prest⟩ := AF
  refine hideH ?_; clear hideH hideG
  have XK : K.In s.heap := fun d o e => (hK d o e).1
  have hl8 : vs.length = 8 := hi.length
  refine sk_sorted (C := C) (lt := fun i j => decide (ask i j < 0)) hl (by lia) (by lia) ha1 ha2 ht ⟨fun h tk i v Q' hv kp hq => ?_, fun h tk i j v u x y Q' hv hu kp kx ky hq => ?_⟩ (fun h' x v kx => ?_) fun D h' tk c kp nw => ?_
  · exact key_new (s := ⟨h, s.gens, s.drawn, tk, s.os⟩) (dp := dp) (un := un + 2) B (F.keeps kp) T hk (by lia) (by lia) KI (XK.keeps kp) (MI.at.mono fun d o e _ => kp d o e) fun x dx h' tk' k1 n1 n2 _ => hq x h' tk' k1 ⟨dx, n1.there, n2.there⟩
  · refine hide fun hideG hideH => ?_
    obtain ⟨hi8, ti, rfl⟩ := ints_at hi hv
    obtain ⟨hj8, tj, rfl⟩ := ints_at hi hu
    obtain ⟨dx, x1, x2⟩ := kx
    obtain ⟨dy, y1, y2⟩ := ky
    refine hideH ?_; clear hideH hideG
    exact key_lt (s := ⟨h, s.gens, s.drawn, tk, s.os⟩) (dp := dp) (un := un + 2) B (F.keeps kp) T hk (by lia) (by lia) KI (XK.keeps kp) (ML.at.mono fun d o e _ => kp d o e) (MG.at.mono fun d o e _ => kp d o e) (ME.at.mono fun d o e _ => kp d o e) (kp _ _ hc.1) hoc (kp _ _ pf.1) rfl kp x1 x2 y1 y2 AT
      ⟨by lia, by lia⟩ ⟨by lia, by lia⟩ hq
  · refine hide fun hideG hideH => ?_
    obtain ⟨dx, x1, x2⟩ := kx
    refine hideH ?_; clear hideH hideG
    have I : InstAt h' x (keyO C dx v) C (some emptyDict) := ⟨x1, rfl, rfl, x2⟩
    exact I.type
  · exact hret D (sortOut b vs fun i j => decide (ask i j < 0)).toList h' tk c kp nw hso
end
end Mine
end
section
open PySem PySem.W PySem.Calls PyProof.Rows
set_option maxRecDepth 100000
set_option maxHeartbeats 8000000
namespace Mine
local macro_rules | `(tactic| walk_at "call builtin:sorted") => `(tactic| (k_here; refine HaltC.mk ?_))
local macro_rules | `(tactic| walk_at "call builtin:sorted kw") => `(tactic| (k_here; refine HaltC.mk ?_))
section
variable {w : World} {prg : Program} {loose : List Str} {mean : ExcName → Option Value} {mg mb : Str → Option Value}
    {dp un : Nat} {gd : Option (List Code)} {outer : List Env} {A₀ : Around} {base h₀ : Heap} {L : Addr} {m : Str → Option Value} {s : Shared} {E : Value → Shared → Prop} {Q : Flow → Shared → Prop} {x l c1 c2 c3 : Addr} {o1 o2 o3 : Obj} {st : Stmt} {sc : Scope}
theorem ag_if {C f Dt lp Df Db : Addr} {vp vf vb : List Value} {ep ef eb : Nat} {nf nb : List Int} {ask : Int → Int → Int} {v2 v3 : Option Value} (hst : agSt w.params 7 = some (st, sc))
    (B : Below A₀ base outer h₀) (F : Fr h₀ L s.heap m) (X : (hd.heap_1 w.params).In h₀) (T : Top prg loose mean mg mb h₀) (hdp : dp + 40 < 900) (hun : un + 80 < 600)
    (N : News h₀ L s.heap [(c3, o1), (c2, o2), (c1, o3), (114, tabObj #[])]) (d1 : o1.data = .cell (some (.ref C)))
    (m1 : m "places" = some (.ref lp)) (m2 : m "forth" = some (.ref Df)) (m3 : m "back" = some (.ref Db))
    (KE : KeyEnv w.params (agY L c1 c2 c3) s.heap C f Dt l)
    (AT : ∀ h, Ext (agY L c1 c2 c3) s.heap h → Keeps h₀ h → AskTells PySem.Challenge.rw_mq0178_01.row.prog w prg loose mean mg mb f h (fun i => 0 ≤ i ∧ i < 8) ask)
    (hlp : AtX (agY L c1 c2 c3) s.heap lp (W.listOf (List.toArray vp) ep)) (hip : IntsAre vp [0, 1, 2, 3, 4, 5, 6, 7])
    (hlf : AtX (agY L c1 c2 c3) s.heap Df (W.listOf (List.toArray vf) ef)) (hif : IntsAre vf nf)
    (hlb : AtX (agY L c1 c2 c3) s.heap Db (W.listOf (List.toArray vb) eb)) (hib : IntsAre vb nb) (hlf8 : nf.length = 8) (hlb8 : nb.length = 8)
    (hsf : ∀ vs, IntsAre vs [0, 1, 2, 3, 4, 5, 6, 7] → IntsAre (sortOut false vs fun i j => decide (ask i j < 0)).toList nf)
    (hsb : ∀ vs, IntsAre vs [0, 1, 2, 3, 4, 5, 6, 7] → IntsAre (sortOut true vs fun i j => decide (ask i j < 0)).toList nb)
    (hQ : ∀ h' tk', Fr h₀ L h' m → News h₀ L h' [(c3, o1), (c2, o2), (c1, o3), (114, tabObj #[])] → Ext (agY L c1 c2 c3) s.heap h' → Q .next { s with heap := h', toks := tk' }) :
    wpAny (model PySem.Challenge.rw_mq0178_01.row.prog w) (ktrTop dp un gd "_law_agrees" sc L 117 (.ref 116) (agCl c1 c2 c3) outer) (exec st (envX "_law_agrees" sc L 117 (.ref 116) (agCl c1 c2 c3))) Q E s := by
  have e' : agSt w.params 7 = some (_, _) := rfl
  rw [e'] at hst
  cases hst
  clear e'
  have hcl : 600 ≤ cLine := by decide
  have hrl : 900 ≤ recursionLimit := by decide
  dsimp only [agCl]
  refine hide fun hideG hideH => ?_
  obtain ⟨sym1, NS1, offS, snapS⟩ := snap F (agY L c1 c2 c3) (.head _)
  refine hideH ?_; clear hideH hideG
  have F₁ : Fr h₀ L s.heap _ := fr_known3 F m1 m2 m3
  have Nc : News h₀ L s.heap ([(c3, o1), (c2, o2), (c1, o3), (114, tabObj #[])] ++ sym1) := news_app N NS1
  dsimp only [List.cons_append, List.nil_append] at Nc
  clear F N NS1
  w_on
  show wpAny _ _ _ _ _ _
  k_steps
  refine HaltC.get ?_
  have ATs := AT s.heap (Ext.refl _ _) F₁.keep
  refine sort_tells (kw := [(Str.ofString "key", .ref C)]) B F₁ T rfl (by lia) (by lia) KE ATs (lst_of hlp.1) hip (ksk_s1 _ _) (fun _ => ksk_l1 _ _) (fun _ => ksk_t1 _ _) (hsf _ hip) fun D1 ws1 h1 tk1 e1 k1 w1 i1 => ?_
  have N₂ := news_add F₁ Nc k1 w1
  have F₂ := F₁.keeps k1
  have g1 : h1.IsList D1 ws1.toArray := lst_of w1.there
  have g2 : h1.IsList Df vf.toArray := lst_of (k1 _ _ hlf.1)
  clear Nc
  k_steps
  refine HaltC.get ?_
  rename Fr h₀ L _ _ => F₃
  rename News h₀ L _ _ => N₃
  have x3 := snapS _ _ F₃ fun p hp => N₃ p (by simp only [List.mem_cons]; right; right; right; right; right; exact hp)
  refine sort_tells (kw := [(Str.ofString "key", .ref C), (Str.ofString "reverse", .bool true)]) B F₃ T rfl (by lia) (by lia) (KE.ext x3) (AT _ x3 F₃.keep) (lst_of (x3 _ _ hlp.2 hlp.1)) hip (ksk_s2 _ _ _) (fun _ => ksk_l2 _ _ _) (fun _ => ksk_t2 _ _ _) (hsb _ hip) fun D2 ws2 h2 tk2 e2 k2 w2 i2 => ?_
  have N₄ := news_add F₃ N₃ k2 w2
  have F₄ := F₃.keeps k2
  have g3 : h2.IsList D2 ws2.toArray := lst_of w2.there
  have g4 : h2.IsList Db vb.toArray := lst_of (k2 _ _ (x3 _ _ hlb.2 hlb.1))
  clear N₃ F₃
  k_steps
  refine hQ _ _ (fr_eq F₄ fun z => ?_) (fun p hp => N₄ p (.tail _ (.tail _ (List.mem_append_left sym1 hp)))) (snapS _ _ F₄ fun p hp => N₄ p (by simp only [List.mem_cons]; right; right; right; right; right; right; exact hp))
  split
  · next q => rw [q, m1]
  · split
    · next q => rw [q, m2]
    · split
      · next q => rw [q, m3]
      · rfl
end
end Mine
end
section
open PySem PySem.W PySem.Calls PyProof.Rows
set_option maxRecDepth 100000
set_option maxHeartbeats 8000000
namespace Mine
/-- a ledger that carries a whole heap, but for some places -/
def Snap (h₀ : Heap) (L : Addr) (Y : List Addr) (sym : List (Addr × Obj)) (h : Heap) : Prop := ∀ h' m', Fr h₀ L h' m' → News h₀ L h' sym → Ext Y h h'
section
variable {prog : Program} {w : World} {A : Around} {E : Value → Shared → Prop} {s : Shared} {g : Heap} {L : Addr} {m : Str → Option Value}
theorem item_snap {value slice : PySem.Expr} {l : Addr} {vs : List Value} {e : Nat} {k : Int} {u : Tok} {v : Value} {Q : Value → Shared → Prop} {Y : List Addr} {sym news : List (Addr × Obj)} {h : Heap}
    (SN : Snap g L Y sym h) (F : Fr g L s.heap m) (N : News g L s.heap news) (hs : ∀ p ∈ sym, p ∈ news) (hg : AtX Y h l (W.listOf (List.toArray vs) e)) (h0 : 0 ≤ k) (hhi : k < 2 ^ 63) (hx : vs[k.toNat]? = some v) (hq : Q v s)
    (hs' : subscripted slice false (.ref l) (.int k u) = operate [.ref l, .int k u] (getItem (.ref l) (.int k u))) :
    wpAny (model prog w) A (subscriptTail value slice (.ref l) (.int k u)) Q E s :=
  have hl := lst_of (SN _ _ F (fun p hp => N p (hs p hp)) _ _ hg.2 hg.1)
  tail_any hl.typeIs slot_list_getitem.lookup (wpAny_getItem_list hl h0 hhi (by simpa using hx) hq) hs'
end
local macro_rules | `(tactic| walk_at "subscriptTail") => `(tactic| (k_here; (with_reducible show wpAny _ _ (subscriptTail _ _ (Value.ref _) (Value.int _ _)) _ _ _); k_dflt (refine' item_snap ?SN ?F ?N ?hs ?hg ?h0 ?hk ?hx ?_ ?hs'; (case SN => assumption); (case F => k_asm); (case N => k_asm); (case hs => (intro p hp; repeat (first | exact hp | apply List.Mem.tail))); (case hg => assumption); (case h0 => lia); (case hk => lia); (case hx => assumption); (case hs' => with_unfolding_all rfl); k_whole)))
local macro_rules | `(tactic| walk_at "call ref") => `(tactic| (k_here; refine HaltC.mk ?_))
local macro_rules | `(tactic| walk_at "exec For Name Call cons nil") => `(tactic| (k_here; refine HaltC.mk ?_))
local macro_rules | `(tactic| walk_at "callWith ref") => `(tactic| (k_here; k_dflt (refine' callWith_K ?k1 ?k2 ?_; (case k2 => assumption); (case k1 => assumption); k_whole)))
theorem keep_cls {K : Frag} {C ns md fI fL fG fE : Addr} {sl : Array (Option Value)} (I : KIn K C ns md fI fL fG fE sl) : keepIn K (.ref C) = true := by
  have e := I.call
  unfold keepIn
  dsimp only
  rw [I.cl]
  dsimp only [kClsO]
  rw [e]
  rfl
local macro_rules | `(tactic| walk_at "compareOp Eq ref ref") => `(tactic| (k_here; refine HaltC.mk ?_))
section
variable {w : World} {prg : Program} {loose : List Str} {mean : ExcName → Option Value} {mg mb : Str → Option Value}
    {dp un : Nat} {gd : Option (List Code)} {outer : List Env} {A₀ : Around} {base h₀ : Heap} {L : Addr} {m : Str → Option Value} {s : Shared} {E : Value → Shared → Prop} {Q : Flow → Shared → Prop} {x l c1 c2 c3 : Addr} {o1 o2 o3 : Obj} {st : Stmt} {sc : Scope}
theorem ag_for {C f Dt lp Df Db Dd : Addr} {vf vd : List Value} {ef ed : Nat} {nf : List Int} {rows : List (List (Int × Int))} {rs : List (Int × Int)} {ask : Int → Int → Int} (hst : agSt w.params 8 = some (st, sc))
    (B : Below A₀ base outer h₀) (F : Fr h₀ L s.heap m) (X : (hd.heap_1 w.params).In h₀) (T : Top prg loose mean mg mb h₀) (hdp : dp + 40 < 900) (hun : un + 80 < 600)
    (N : News h₀ L s.heap [(c3, o1), (c2, o2), (c1, o3), (114, tabObj #[])]) (d1 : o1.data = .cell (some (.ref C)))
    (m1 : m "places" = some (.ref lp)) (m2 : m "forth" = some (.ref Df)) (m3 : m "back" = some (.ref Db)) (m4 : m "due" = some (.ref Dd)) (m5 : m "rules" = some (.ref l))
    (KE : KeyEnv w.params (agY L c1 c2 c3) s.heap C f Dt l)
    (AT : ∀ h, Ext (agY L c1 c2 c3) s.heap h → Keeps h₀ h → AskTells PySem.Challenge.rw_mq0178_01.row.prog w prg loose mean mg mb f h (fun i => 0 ≤ i ∧ i < 8) ask)
    (hlf : AtX (agY L c1 c2 c3) s.heap Df (W.listOf (List.toArray vf) ef)) (hif : IntsAre vf nf) (hlf8 : nf.length = 8) (hnf : ∀ n ∈ nf, 0 ≤ n ∧ n < 8)
    (hld : AtX (agY L c1 c2 c3) s.heap Dd (W.listOf (List.toArray vd) ed)) (hR : PRows (AtX (agY L c1 c2 c3) s.heap) vd rows) (hr : Pairs (AtH h₀) l rs) (h8 : rows.length = 8)
    (hok : ∀ p ∈ rs, 0 ≤ p.1 ∧ p.1 < 6 ∧ -16 ≤ p.2 ∧ p.2 ≤ 16) (hl6 : ∀ r ∈ rows, r.length = 6) (hb : ∀ r ∈ rows, ∀ p ∈ r, -1000000 ≤ p.1 ∧ p.1 ≤ 1000000 ∧ -1000000 ≤ p.2 ∧ p.2 ≤ 1000000)
    (hal : ∀ i j : Int, 0 ≤ i → i < 8 → 0 ≤ j → j < 8 → (ask i j = 0 ↔ standsI (rows.getD i.toNat []) (rows.getD j.toNat []) rs = 0))
    (hQ : ∀ h' tk' m', Fr h₀ L h' m' → News h₀ L h' [(c3, o1), (c2, o2), (c1, o3), (114, tabObj #[])] → Ext (agY L c1 c2 c3) s.heap h' → m' "places" = some (.ref lp) → m' "forth" = some (.ref Df) → m' "back" = some (.ref Db) → Q .next { s with heap := h', toks := tk' })
    (hE : PassesOwn (model PySem.Challenge.rw_mq0178_01.row.prog w) (ktrTop dp un gd "_law_agrees" sc L 117 (.ref 116) (agCl c1 c2 c3) outer) (envX "_law_agrees" sc L 117 (.ref 116) (agCl c1 c2 c3)) E) :
    wpAny (model PySem.Challenge.rw_mq0178_01.row.prog w) (ktrTop dp un gd "_law_agrees" sc L 117 (.ref 116) (agCl c1 c2 c3) outer) (exec st (envX "_law_agrees" sc L 117 (.ref 116) (agCl c1 c2 c3))) Q E s := by
  have e' : agSt w.params 8 = some (_, _) := rfl
  rw [e'] at hst
  cases hst
  clear e'
  have hcl : 600 ≤ cLine := by decide
  have hrl : 900 ≤ recursionLimit := by decide
  dsimp only [agCl] at hE ⊢
  refine hide fun hideG hideH => ?_
  obtain ⟨sym1, NS1, offS, snapS⟩ := snap F (agY L c1 c2 c3) (.head _)
  refine hideH ?_; clear hideH hideG
  have SN : Snap h₀ L (agY L c1 c2 c3) sym1 s.heap := snapS
  clear snapS
  have Nc : News h₀ L s.heap ([(c3, o1), (c2, o2), (c1, o3), (114, tabObj #[])] ++ sym1) := news_app N NS1
  dsimp only [List.cons_append, List.nil_append] at Nc
  clear N NS1
  w_on
  refine for_range (g := h₀) (n := 7) (fun I i m' h' => m' "places" = some (.ref lp) ∧ m' "forth" = some (.ref Df) ∧ m' "back" = some (.ref Db) ∧ m' "due" = some (.ref Dd) ∧ m' "rules" = some (.ref l) ∧ News h₀ L h' ((c3, o1) :: (c2, o2) :: (c1, o3) :: (114, tabObj #[]) :: sym1) ∧ ∀ p ∈ ((c3, o1) :: (c2, o2) :: (c1, o3) :: (114, tabObj #[]) :: sym1), p.1 ≠ I) rfl (by decide) ?_ (fun _ _ _ => rfl) (fun I i m h h' hI hk J => ?_) ?_ ?_ (hE := hE)
  · show wpAny _ _ _ _ _ _
    k_steps
    rename News h₀ L _ _ => N2
    refine ⟨_, _, _, _, _, _, _, rfl, rfl, by assumption, rfl, _, by assumption, fun I h' hI hk' => ⟨m1, m2, m3, m4, m5, N2.grown hk', fun p hp q => ?_⟩⟩
    have e := (N2 p hp).1
    rw [q, hI] at e
    cases e
  · refine hide fun hideG hideH => ?_
    obtain ⟨a1, a2, a3, a4, a5, a6, a7⟩ := J
    refine hideH ?_; clear hideH hideG
    exact ⟨a1, a2, a3, a4, a5, fun p hp => ⟨hk _ _ (a7 p hp) (a6 p hp).1, (a6 p hp).2⟩, a7⟩
  · intro I oI i v m₁ h₁ tk₁ hI N₁ hi' rip10 rip11 F₁
    refine hide fun hideG hideH => ?_
    obtain ⟨ti, rfl⟩ := rip10
    obtain ⟨a1, a2, a3, a4, a5, a6, a7⟩ := rip11
    refine hideH ?_; clear hideH hideG
    have F₂ : Fr h₀ L h₁ _ := fr_known5 F₁ a1 a2 a3 a4 a5
    have N₂ : News h₀ L h₁ ((I, oI) :: (c3, o1) :: (c2, o2) :: (c1, o3) :: (114, tabObj #[]) :: sym1) := fun p hp => by
      rcases List.mem_cons.mp hp with rfl | hp
      · exact N₁ _ (.head _)
      · exact a6 _ hp
    clear F₁ N₁ a6 F Nc
    have hia : i < nf.length := by lia
    have hib : i + 1 < nf.length := by lia
    refine hide fun hideG hideH => ?_
    obtain ⟨ta, va⟩ := hif.get i nf[i] (List.getElem?_eq_getElem hia)
    obtain ⟨tb, vb⟩ := hif.get (i + 1) nf[i + 1] (List.getElem?_eq_getElem hib)
    obtain ⟨ba0, ba1⟩ := hnf _ (List.getElem_mem hia)
    obtain ⟨bb0, bb1⟩ := hnf _ (List.getElem_mem hib)
    refine hideH ?_; clear hideH hideG
    generalize nf[i] = na at *
    generalize nf[i + 1] = nb at *
    have qa : vf[((i : Nat) : Int).toNat]? = some (.int na ta) := va
    have qb : vf[(((i : Nat) : Int) + 1).toNat]? = some (.int nb tb) := vb
    have hra : na.toNat < rows.length := by lia
    have hrb : nb.toNat < rows.length := by lia
    refine hide fun hideG hideH => ?_
    obtain ⟨Da, ra, Pa⟩ := hR.at (List.getElem?_eq_getElem hra)
    obtain ⟨De, rb, Pb⟩ := hR.at (List.getElem?_eq_getElem hrb)
    refine hideH ?_; clear hideH hideG
    have hi0 : (0 : Int) ≤ (i : Int) := by lia
    have hi63 : ((i : Nat) : Int) < 7 := by lia
    show wpAny _ _ _ _ _ _
    k_steps
    refine HaltC.get ?_
    rename Fr h₀ L _ _ => F3
    rename News h₀ L _ _ => N3
    have x3 := SN _ _ F3 fun p hp => N3 p (.tail _ (.tail _ (.tail _ (.tail _ (.tail _ hp)))))
    refine stands_tells B F3 X T rfl (by lia) (by lia) (Pa.mono fun d o z => (AtX.ext x3 _ _ z).1) (Pb.mono fun d o z => (AtX.ext x3 _ _ z).1) (hr.mono fun d o z => F3.keep _ _ z) hok (hl6 _ (List.getElem_mem hra)) (hl6 _ (List.getElem_mem hrb)) (hb _ (List.getElem_mem hra)) (hb _ (List.getElem_mem hrb)) fun t h4 tk4 k4 => ?_
    have N4 := N3.grown k4
    have F4 := F3.keeps k4
    clear N3 F3
    have era : rows.getD na.toNat [] = rows[na.toNat] := by rw [List.getD_eq_getElem?_getD, List.getElem?_eq_getElem hra]; rfl
    have erb : rows.getD nb.toNat [] = rows[nb.toNat] := by rw [List.getD_eq_getElem?_getD, List.getElem?_eq_getElem hrb]; rfl
    have al := hal na nb ba0 ba1 bb0 bb1
    rw [era, erb] at al
    generalize standsI rows[na.toNat] rows[nb.toNat] rs = sv at *
    refine hide fun hideG hideH => ?_
    obtain ⟨⟨K, ns', md, fI, fL, fG, fE, sl, cell, oc, KI, hK, MI, ML, MG, ME, hc, hoc⟩, AF⟩ := id KE
    refine hideH ?_; clear hideH hideG
    have x4 := x3.trans (Keeps.exts k4)
    have XK4 : K.In h4 := fun d o e => (AtX.ext x4 _ _ (hK d o e)).1
    have hkC := keep_cls KI
    k_steps
    · rename Fr h₀ L _ _ => F5
      rename News h₀ L _ _ => N5
      exact fun d o e => (AtX.ext (SN _ _ F5 fun p hp => N5 p (by repeat (first | exact hp | apply List.Mem.tail))) _ _ (hK d o e)).1
    refine HaltC.get ?_
    rename Fr h₀ L _ _ => F5
    rename News h₀ L _ _ => N5
    have x5 := SN _ _ F5 fun p hp => N5 p (.tail _ (.tail _ (.tail _ (.tail _ (.tail _ hp)))))
    refine key_new (s := ⟨_, _, _, _, _⟩) B F5 T rfl (by lia) (by lia) KI (fun d o e => (AtX.ext x5 _ _ (hK d o e)).1) (MI.ext x5).at fun xa da h6 tk6 k6 na1 na2 _ => ?_
    have N6 := news_more F5 na2 (news_add F5 N5 k6 na1)
    have F6 := F5.keeps k6
    have XK6 : K.In h6 := fun d o e => (AtX.ext (x5.trans (Keeps.exts k6)) _ _ (hK d o e)).1
    clear N5 F5
    k_steps
    refine HaltC.get ?_
    rename Fr h₀ L _ _ => F7
    rename News h₀ L _ _ => N7
    have x7 := SN _ _ F7 fun p hp => N7 p (by repeat (first | exact hp | apply List.Mem.tail))
    refine key_new (s := ⟨_, _, _, _, _⟩) B F7 T rfl (by lia) (by lia) KI (fun d o e => (AtX.ext x7 _ _ (hK d o e)).1) (MI.ext x7).at fun xb db h8 tk8 k8 nb1 nb2 _ => ?_
    have N8 := news_more F7 nb2 (news_add F7 N7 k8 nb1)
    have F8 := F7.keeps k8
    clear N7 F7
    k_steps
    refine HaltC.get ?_
    show wpAny _ _ (richCompare .Eq (.ref xa) (.ref xb)) _ _ _
    refine hide fun hideG hideH => ?_
    obtain ⟨pa, pb, psc, pdoc, ppm, pc', pctv, pcR, pcU, poc, poR, poU, pvs, pt, pe, pf, prest⟩ := AF
    refine hideH ?_; clear hideH hideG
    have x8 := SN _ _ F8 fun p hp => N8 p (by repeat (first | exact hp | apply List.Mem.tail))
    have up8 : ∀ d o, AtX (agY L c1 c2 c3) s.heap d o → h8.get? d = some o := fun d o z => (AtX.ext x8 _ _ z).1
    have hbb : cmpR .Eq (ask na nb) = (sv == 0) := by
      unfold cmpR
      by_cases z : ask na nb = 0
      · rw [z, al.mp z]
      · rw [beq_eq_false_iff_ne.mpr (fun q => z (al.mpr q))]
        exact beq_eq_false_iff_ne.mpr z
    refine key_cmp (s := ⟨_, _, _, _, _⟩) (.inr (.inr rfl)) B F8 T rfl (by lia) (by lia) KI (fun d o e => up8 _ _ (hK d o e)) (ML.ext x8).at (MG.ext x8).at (ME.ext x8).at (up8 _ _ hc) hoc (up8 _ _ pf) rfl (Keeps.refl h8) (N8 _ (.tail _ (.tail _ (.tail _ (.head _))))).1 (N8 _ (.tail _ (.tail _ (.head _)))).1 (N8 _ (.tail _ (.head _))).1 (N8 _ (.head _)).1
      (AT h8 x8 F8.keep) ⟨ba0, ba1⟩ ⟨bb0, bb1⟩ fun h9 tk9 k9 => ?_
    rw [hbb]
    have N9 := N8.grown k9
    have F9 := F8.keeps k9
    clear N8 F8
    k_steps
    · exfalso
      rename (_ != _) = true => hz
      simp at hz
    · exact ⟨h9, tk9, _, rfl, F9, news_one N9 (.tail _ (.tail _ (.tail _ (.tail _ (.head _))))), by with_unfolding_all rfl, by with_unfolding_all rfl, by with_unfolding_all rfl, by with_unfolding_all rfl, by with_unfolding_all rfl, fun p hp => N9 p (.tail _ (.tail _ (.tail _ (.tail _ (.tail _ hp))))), a7⟩
  · intro I m₁ h₁ tk₁ hI rip5 F₁
    refine hide fun hideG hideH => ?_
    obtain ⟨a1, a2, a3, a4, a5, a6, a7⟩ := rip5
    refine hideH ?_; clear hideH hideG
    exact hQ h₁ tk₁ m₁ F₁ (fun p hp => a6 p (List.mem_append_left sym1 hp)) (SN _ _ F₁ fun p hp => a6 p (by repeat (first | exact hp | apply List.Mem.tail))) a1 a2 a3
end
end Mine
end
section
open PySem PySem.W PySem.Calls PyProof.Rows
set_option maxRecDepth 100000
set_option maxHeartbeats 8000000
namespace Mine
local macro_rules | `(tactic| walk_at "subscriptTail") => `(tactic| (k_here; (with_reducible show wpAny _ _ (subscriptTail _ _ (Value.ref _) (Value.int _ _)) _ _ _); k_dflt (refine' item_snap ?SN ?F ?N ?hs ?hg ?h0 ?hk ?hx ?_ ?hs'; (case SN => assumption); (case F => k_asm); (case N => k_asm); (case hs => (intro p hp; repeat (first | exact hp | apply List.Mem.tail))); (case hg => assumption); (case h0 => lia); (case hk => lia); (case hx => assumption); (case hs' => with_unfolding_all rfl); k_whole)))
section
variable {w : World} {prg : Program} {loose : List Str} {mean : ExcName → Option Value} {mg mb : Str → Option Value}
    {dp un : Nat} {gd : Option (List Code)} {outer : List Env} {A₀ : Around} {base h₀ : Heap} {L : Addr} {m : Str → Option Value} {s : Shared} {E : Value → Shared → Prop} {Q : Flow → Shared → Prop} {x l c1 c2 c3 : Addr} {o1 o2 o3 : Obj} {st : Stmt} {sc : Scope}
theorem ag_ret {Df Db : Addr} {vf vb : List Value} {ef eb : Nat} {nf nb : List Int} {z1 z2 : Int} {t1 t2 : Tok} {t3 : Obj} (hst : agSt w.params 11 = some (st, sc))
    (B : Below A₀ base outer h₀) (F : Fr h₀ L s.heap m) (X : (hd.heap_1 w.params).In h₀) (T : Top prg loose mean mg mb h₀) (hdp : dp + 40 < 900) (hun : un + 80 < 600)
    (N : News h₀ L s.heap [(c3, o1), (c2, o2), (c1, o3), (114, t3)])
    (m1 : m "least" = some (.int z1 t1)) (m2 : m "most" = some (.int z2 t2)) (m3 : m "forth" = some (.ref Df)) (m4 : m "back" = some (.ref Db))
    (hlf : AtX (agY L c1 c2 c3) s.heap Df (W.listOf (List.toArray vf) ef)) (hif : IntsAre vf nf)
    (hlb : AtX (agY L c1 c2 c3) s.heap Db (W.listOf (List.toArray vb) eb)) (hib : IntsAre vb nb) (hf0 : nf[0]? = some z1) (hb0 : nb[0]? = some z2)
    (hQ : ∀ h' tk' m', Fr h₀ L h' m' → Ext (agY L c1 c2 c3) s.heap h' → h'.get? 114 = some t3 → Q (.ret (.bool true)) { s with heap := h', toks := tk' }) :
    wpAny (model PySem.Challenge.rw_mq0178_01.row.prog w) (ktrTop dp un gd "_law_agrees" sc L 117 (.ref 116) (agCl c1 c2 c3) outer) (exec st (envX "_law_agrees" sc L 117 (.ref 116) (agCl c1 c2 c3))) Q E s := by
  have e' : agSt w.params 11 = some (_, _) := rfl
  rw [e'] at hst
  cases hst
  clear e'
  have hcl : 600 ≤ cLine := by decide
  have hrl : 900 ≤ recursionLimit := by decide
  dsimp only [agCl]
  refine hide fun hideG hideH => ?_
  obtain ⟨sym1, NS1, offS, snapS⟩ := snap F (agY L c1 c2 c3) (.head _)
  refine hideH ?_; clear hideH hideG
  have SN : Snap h₀ L (agY L c1 c2 c3) sym1 s.heap := snapS
  clear snapS
  have F₁ : Fr h₀ L s.heap _ := fr_known4 F m1 m2 m3 m4
  have Nc : News h₀ L s.heap ([(c3, o1), (c2, o2), (c1, o3), (114, t3)] ++ sym1) := news_app N NS1
  dsimp only [List.cons_append, List.nil_append] at Nc
  clear F N NS1
  refine hide fun hideG hideH => ?_
  obtain ⟨tf, qf⟩ := hif.get 0 _ hf0
  obtain ⟨tb, qb⟩ := hib.get 0 _ hb0
  refine hideH ?_; clear hideH hideG
  have qf' : vf[((0 : Int)).toNat]? = some (.int z1 tf) := qf
  have qb' : vb[((0 : Int)).toNat]? = some (.int z2 tb) := qb
  w_on
  show wpAny _ _ _ _ _ _
  k_steps
  rename Fr h₀ L _ _ => F₅
  rename News h₀ L _ _ => N₅
  exact hQ _ _ _ F₅ (SN _ _ F₅ fun p hp => N₅ p (by repeat (first | exact hp | apply List.Mem.tail))) (N₅ (114, t3) (by simp)).1
end
end Mine
end
section
open PySem PySem.W PySem.W.X PySem.Calls PyProof.Rows
set_option maxRecDepth 100000
set_option maxHeartbeats 4000000
namespace Mine
section
variable {prog : Program} {w : World} {A A₀ : Around} {s : Shared} {L : Addr} {h₀ base : Heap} {m mg mb : Str → Option Value} {p : Program} {loose : List Str} {mean : ExcName → Option Value}
/-- a call of a lambda that the heap holds: all of the caller's heap stands in the base -/
theorem callL {env : Env} {outer : List Env} {R : Result → Shared → Prop} {name qual : Str} {params : Arguments} {body : Expr} {scope : Scope} {clos : List (Str × Addr)} {pm ctv : Value} {c' : Addr} {f : Addr} {args : Args} {binds : List (Str × Value)}
    (B : Below A₀ base outer h₀) (F : Fr h₀ L s.heap m) (T : Top p loose mean mg mb h₀) (hA : A.frames = some (env :: outer)) (hf : env.frame = some L) (hke : env.scope.kind = .function)
    (ho : s.heap.get? f = some (kla_obj name qual params body scope clos pm c' ctv)) (hcd : s.heap.CodeRec (.ref c') qual) (hroom : A.depth < recursionLimit)
    (hbind : bindArgs (kla_fn name qual params body scope clos pm (.ref c') ctv) args = pure binds) (hloc : ∀ y ∈ binds, scope.names.lookup y.1 = some .local)
    (h : ∀ g L' h₁, Fr h₀ L g m → Fr g L' h₁ (fun y => binds.reverse.lookup y) → Below A base (env :: outer) g → (∀ b o, h₀.get? b = some o → g.get? b = some o) → Top p loose mean mg mb g → Hid s.heap [] g →
      wpAny (model prog w) (A.deeper (envX qual scope L' f (.ref c') clos)) (eval body (envX qual scope L' f (.ref c') clos)) (fun v s' => LeaveK h₀ L m g R v s')
        (fun e s' => wpAny (model prog w) (A.deeper (envX qual scope L' f (.ref c') clos)) (leaving (envX qual scope L' f (.ref c') clos) e) (fun _ s'' => R (.error e) s'') (fun e' s'' => R (.error e') s'') s')
        { s with heap := h₁, toks := s.toks + binds.length })
    (hco : scope.isCoroutine = false) (hgen : scope.isGenerator = false) (hk : scope.kind = .function)
    (hcell : ∀ x ∈ scope.names, x.2 ≠ .cell) : codeAny (model prog w) A (.call (.ref f) args) R s := by
  refine hide fun hideG hideH => ?_
  obtain ⟨FG, BG, st, lv⟩ := groundX (news := []) (R := R) B F (fun _ hp => nomatch hp) hA hf hke
  refine hideH ?_; clear hideH hideG
  have H : Hid s.heap [] (hideAll s.heap []) := ⟨fun b o e _ => hideAll_get _ e (fun q => nomatch q), fun p hp => nomatch hp⟩
  refine kla_callFunE hroom ho rfl hco hgen rfl hcd ?_
  rw [hbind]
  refine wpAny_pure (wpAny_newFunctionEnv hcell hloc (fun h₁ hns hsb => ⟨(T.nolimit.keeps F.keep).fresh _ hsb, ?_⟩) hk)
  have keep : ∀ b o, s.heap.get? b = some o → h₁.get? b = some o := fun b o e => hsb.extBut b o (Nat.ne_of_lt (Heap.lt_size e)) (Heap.get?_push_of_some _ e)
  have F₁ : Fr (hideAll s.heap []) s.heap.objs.size h₁ (fun y => binds.reverse.lookup y) := ⟨hns, fun b o e => keep b o (of_hideAll _ e), Nat.le_of_eq (hideAll_size _ _)⟩
  have z := h (hideAll s.heap []) s.heap.objs.size h₁ FG F₁ BG st (T.keeps st) H
  show codeAny _ _ (.expr body (envX qual scope s.heap.objs.size f (.ref c') clos)) _ _
  exact kla_codeExpr (wpAny_mono z (fun v s' hl => lv _ _ hl) fun _ _ y => y)
end
/-- the lambdas' own texts -/
noncomputable def agLam (p : Params) (k : Nat) : Option (Arguments × Expr × Scope) := match agSt p k with
  | some (.Assign _ (.Call _ (.Lambda a b sc _ :: _) _ _) _, _) => some (a, b, sc)
  | _ => none
inductive LamAt (p : Params) (k : Nat) (P : Addr → Obj → Prop) (f c3 : Addr) : Prop
  | mk (a : Arguments) (b : Expr) (sc : Scope) (qual : Str) (pm : Value) (c' : Addr) (ctv : Value) (oc : Obj) (vs : Array Value) (t : Tok) (h1 : agLam p k = some (a, b, sc)) (h2 : P f (kla_obj "<lambda>" qual a b sc [("keyed", c3)] pm c' ctv)) (h3 : P c' oc) (h4 : oc.data = .fields vs) (h5 : vs[1]? = some (.str qual t))
end Mine
end
section
open PySem PySem.W PySem.Calls PyProof.Rows
set_option maxRecDepth 100000
set_option maxHeartbeats 8000000
namespace Mine
local macro_rules | `(tactic| walk_at "callWith ref") => `(tactic| (k_here; k_dflt (refine' callWith_K ?k1 ?k2 ?_; (case k2 => assumption); (case k1 => assumption); k_whole)))
local macro_rules | `(tactic| walk_at "call ref") => `(tactic| (k_here; refine HaltC.mk ?_))
local macro_rules | `(tactic| walk_at "compareOp Lt ref ref") => `(tactic| (k_here; refine HaltC.mk ?_))
local macro_rules | `(tactic| walk_at "compareOp Gt ref ref") => `(tactic| (k_here; refine HaltC.mk ?_))
local macro_rules | `(tactic| walk_at "eval Name") => `(tactic| (k_here; kc_free; k_dflt (refine' name_free ?F ?c ?g ?d ?_ ?k ?x ?b ?n; (case k => exact rfl); (case x => exact rfl); (case F => k_asm); (case c => exact rfl); (case g => assumption); (case d => assumption); (case b => decide); (case n => decide); k_whole)))
section
variable {w : World} {prg : Program} {loose : List Str} {mean : ExcName → Option Value} {mg mb : Str → Option Value}
theorem lam_least {hb : Heap} {f C fq Dt l c3 : Addr} {o1 : Obj} {ask : Int → Int → Int}
    (LA : LamAt w.params 9 (AtH hb) f c3) (h3 : hb.get? c3 = some o1) (d1 : o1.data = .cell (some (.ref C))) (KE : KeyEnv w.params [] hb C fq Dt l)
    (AT : AskTells PySem.Challenge.rw_mq0178_01.row.prog w prg loose mean mg mb fq hb (fun i => 0 ≤ i ∧ i < 8) ask) (X : (hd.heap_1 w.params).In hb) :
    StepTells PySem.Challenge.rw_mq0178_01.row.prog w prg loose mean mg mb f hb (fun i => 0 ≤ i ∧ i < 8) (fun kept one => if ask one kept < 0 then one else kept) := by
  intro dp un gd cn cs a ccd cl outer A₀ base h₀ L m s Q E i j ti tj B F kb T hk hdp hun hi hj hret
  have hcl : 600 ≤ cLine := by decide
  have hrl : 900 ≤ recursionLimit := by decide
  refine hide fun hideG hideH => ?_
  obtain ⟨la, lb, lsc, qual, pm, c', ctv, oc', vs, t, e, hf, hc, hcd, hc1⟩ := LA
  refine hideH ?_; clear hideH hideG
  have e' : agLam w.params 9 = some (_, _, _) := rfl
  rw [e'] at e
  cases e
  have kh : Keeps hb s.heap := fun b o e => F.keep _ _ (kb _ _ e)
  w_on
  refine wpAny_call ?_
  refine callL B F T rfl rfl hk (kh _ _ hf) ⟨c', oc', vs, t, rfl, kh _ _ hc, hcd, hc1⟩ (by show dp < 1000; lia) rfl (loc_all rfl) (fun gg Lg hg FG' FF B' st T' HH => ?_) rfl rfl rfl (by decide)
  have up : ∀ d o, hb.get? d = some o → gg.get? d = some o := fun d o e => HH.rest _ _ (kh _ _ e) (fun _ hp => nomatch hp)
  have X' : (hd.heap_1 w.params).In gg := X.keeps up
  try dsimp only
  try k_lift B'
  try k_fold
  refine hide fun hideG hideH => ?_
  obtain ⟨⟨K, ns', md, fI, fL, fG, fE, sl, cell, oc, KI, hK, MI, ML, MG, ME, hcc, hoc⟩, AF⟩ := id KE
  obtain ⟨pa, pb, psc, pdoc, ppm, pc', pctv, pcR, pcU, poc, poR, poU, pvs, pt, pe, pf, prest⟩ := AF
  refine hideH ?_; clear hideH hideG
  have hkC := keep_cls KI
  have XKg : K.In gg := fun d o e => up _ _ (hK d o e).1
  have hg3 := up _ _ h3
  have NN : News gg Lg hg [] := fun _ hp => nomatch hp
  show wpAny _ _ _ _ _ _
  k_steps
  refine HaltC.get ?_
  have e1 : Ext [] hb hg := fun b o _ e => FF.keep _ _ (up _ _ e)
  refine key_new (s := ⟨_, _, _, _, _⟩) B' FF T' rfl (by show dp + 1 + 20 < 900; lia) (by first | (show un + 1 + 40 < 600; lia) | (show un + 2 + 40 < 600; lia) | (show un + 3 + 40 < 600; lia) | (show un + 4 + 40 < 600; lia) | (show un + 5 + 40 < 600; lia)) KI (XKg.keeps FF.keep) (MI.ext e1).at fun xa da h6 tk6 k6 na1 na2 _ => ?_
  have N6 := news_more FF na2 (news_add FF NN k6 na1)
  have F6 := FF.keeps k6
  have e6 : Ext [] hb h6 := e1.trans (Keeps.exts k6)
  clear NN FF
  k_steps
  refine HaltC.get ?_
  refine key_new (s := ⟨_, _, _, _, _⟩) B' F6 T' rfl (by show dp + 1 + 20 < 900; lia) (by first | (show un + 1 + 40 < 600; lia) | (show un + 2 + 40 < 600; lia) | (show un + 3 + 40 < 600; lia) | (show un + 4 + 40 < 600; lia) | (show un + 5 + 40 < 600; lia)) KI (XKg.keeps F6.keep) (MI.ext e6).at fun xb db h8 tk8 k8 nb1 nb2 _ => ?_
  have N8 := news_more F6 nb2 (news_add F6 N6 k8 nb1)
  have F8 := F6.keeps k8
  have e8' : Ext [] hb h8 := e6.trans (Keeps.exts k8)
  have up8 : ∀ d o, AtX [] hb d o → h8.get? d = some o := fun d o z => (AtX.ext e8' _ _ z).1
  clear N6 F6
  k_steps
  refine HaltC.get ?_
  show wpAny _ _ (richCompare .Lt (.ref xa) (.ref xb)) _ _ _
  refine key_cmp (s := ⟨_, _, _, _, _⟩) (.inl rfl) B' F8 T' rfl (by show dp + 1 + 20 < 900; lia) (by first | (show un + 1 + 40 < 600; lia) | (show un + 2 + 40 < 600; lia) | (show un + 3 + 40 < 600; lia) | (show un + 4 + 40 < 600; lia) | (show un + 5 + 40 < 600; lia)) KI (fun d o e => up8 _ _ (hK d o e)) (ML.ext e8').at (MG.ext e8').at (ME.ext e8').at (up8 _ _ hcc) hoc (up8 _ _ pf) rfl (fun b o e => up8 _ _ ⟨e, fun q => nomatch q⟩) (N8 _ (.tail _ (.tail _ (.tail _ (.head _))))).1 (N8 _ (.tail _ (.tail _ (.head _)))).1 (N8 _ (.tail _ (.head _))).1 (N8 _ (.head _)).1
    AT hj hi fun h9 tk9 k9 => ?_
  have N9 := N8.grown k9
  have F9 := F8.keeps k9
  clear N8 F8
  dsimp only [cmpR]
  have kq : Keeps s.heap h9 := HH.keeps (news := []) (news' := []) F9 (fun _ hp => nomatch hp) (fun p hp => nomatch hp)
  k_steps
  · have hr := hret tj h9 tk9 kq
    dsimp only at hr
    rw [if_pos (by assumption)] at hr
    exact (show LeaveK _ _ _ _ _ _ _ from ⟨Lg, _, [], F9, news_nil, fun _ _ => hr⟩)
  · have hr := hret ti h9 tk9 kq
    dsimp only at hr
    rw [if_neg (by assumption)] at hr
    exact (show LeaveK _ _ _ _ _ _ _ from ⟨Lg, _, [], F9, news_nil, fun _ _ => hr⟩)
theorem lam_most {hb : Heap} {f C fq Dt l c3 : Addr} {o1 : Obj} {ask : Int → Int → Int}
    (LA : LamAt w.params 10 (AtH hb) f c3) (h3 : hb.get? c3 = some o1) (d1 : o1.data = .cell (some (.ref C))) (KE : KeyEnv w.params [] hb C fq Dt l)
    (AT : AskTells PySem.Challenge.rw_mq0178_01.row.prog w prg loose mean mg mb fq hb (fun i => 0 ≤ i ∧ i < 8) ask) (X : (hd.heap_1 w.params).In hb) :
    StepTells PySem.Challenge.rw_mq0178_01.row.prog w prg loose mean mg mb f hb (fun i => 0 ≤ i ∧ i < 8) (fun kept one => if 0 < ask one kept then one else kept) := by
  intro dp un gd cn cs a ccd cl outer A₀ base h₀ L m s Q E i j ti tj B F kb T hk hdp hun hi hj hret
  have hcl : 600 ≤ cLine := by decide
  have hrl : 900 ≤ recursionLimit := by decide
  refine hide fun hideG hideH => ?_
  obtain ⟨la, lb, lsc, qual, pm, c', ctv, oc', vs, t, e, hf, hc, hcd, hc1⟩ := LA
  refine hideH ?_; clear hideH hideG
  have e' : agLam w.params 10 = some (_, _, _) := rfl
  rw [e'] at e
  cases e
  have kh : Keeps hb s.heap := fun b o e => F.keep _ _ (kb _ _ e)
  w_on
  refine wpAny_call ?_
  refine callL B F T rfl rfl hk (kh _ _ hf) ⟨c', oc', vs, t, rfl, kh _ _ hc, hcd, hc1⟩ (by show dp < 1000; lia) rfl (loc_all rfl) (fun gg Lg hg FG' FF B' st T' HH => ?_) rfl rfl rfl (by decide)
  have up : ∀ d o, hb.get? d = some o → gg.get? d = some o := fun d o e => HH.rest _ _ (kh _ _ e) (fun _ hp => nomatch hp)
  have X' : (hd.heap_1 w.params).In gg := X.keeps up
  try dsimp only
  try k_lift B'
  try k_fold
  refine hide fun hideG hideH => ?_
  obtain ⟨⟨K, ns', md, fI, fL, fG, fE, sl, cell, oc, KI, hK, MI, ML, MG, ME, hcc, hoc⟩, AF⟩ := id KE
  obtain ⟨pa, pb, psc, pdoc, ppm, pc', pctv, pcR, pcU, poc, poR, poU, pvs, pt, pe, pf, prest⟩ := AF
  refine hideH ?_; clear hideH hideG
  have hkC := keep_cls KI
  have XKg : K.In gg := fun d o e => up _ _ (hK d o e).1
  have hg3 := up _ _ h3
  have NN : News gg Lg hg [] := fun _ hp => nomatch hp
  show wpAny _ _ _ _ _ _
  k_steps
  refine HaltC.get ?_
  have e1 : Ext [] hb hg := fun b o _ e => FF.keep _ _ (up _ _ e)
  refine key_new (s := ⟨_, _, _, _, _⟩) B' FF T' rfl (by show dp + 1 + 20 < 900; lia) (by first | (show un + 1 + 40 < 600; lia) | (show un + 2 + 40 < 600; lia) | (show un + 3 + 40 < 600; lia) | (show un + 4 + 40 < 600; lia) | (show un + 5 + 40 < 600; lia)) KI (XKg.keeps FF.keep) (MI.ext e1).at fun xa da h6 tk6 k6 na1 na2 _ => ?_
  have N6 := news_more FF na2 (news_add FF NN k6 na1)
  have F6 := FF.keeps k6
  have e6 : Ext [] hb h6 := e1.trans (Keeps.exts k6)
  clear NN FF
  k_steps
  refine HaltC.get ?_
  refine key_new (s := ⟨_, _, _, _, _⟩) B' F6 T' rfl (by show dp + 1 + 20 < 900; lia) (by first | (show un + 1 + 40 < 600; lia) | (show un + 2 + 40 < 600; lia) | (show un + 3 + 40 < 600; lia) | (show un + 4 + 40 < 600; lia) | (show un + 5 + 40 < 600; lia)) KI (XKg.keeps F6.keep) (MI.ext e6).at fun xb db h8 tk8 k8 nb1 nb2 _ => ?_
  have N8 := news_more F6 nb2 (news_add F6 N6 k8 nb1)
  have F8 := F6.keeps k8
  have e8' : Ext [] hb h8 := e6.trans (Keeps.exts k8)
  have up8 : ∀ d o, AtX [] hb d o → h8.get? d = some o := fun d o z => (AtX.ext e8' _ _ z).1
  clear N6 F6
  k_steps
  refine HaltC.get ?_
  show wpAny _ _ (richCompare .Gt (.ref xa) (.ref xb)) _ _ _
  refine key_cmp (s := ⟨_, _, _, _, _⟩) (.inr (.inl rfl)) B' F8 T' rfl (by show dp + 1 + 20 < 900; lia) (by first | (show un + 1 + 40 < 600; lia) | (show un + 2 + 40 < 600; lia) | (show un + 3 + 40 < 600; lia) | (show un + 4 + 40 < 600; lia) | (show un + 5 + 40 < 600; lia)) KI (fun d o e => up8 _ _ (hK d o e)) (ML.ext e8').at (MG.ext e8').at (ME.ext e8').at (up8 _ _ hcc) hoc (up8 _ _ pf) rfl (fun b o e => up8 _ _ ⟨e, fun q => nomatch q⟩) (N8 _ (.tail _ (.tail _ (.tail _ (.head _))))).1 (N8 _ (.tail _ (.tail _ (.head _)))).1 (N8 _ (.tail _ (.head _))).1 (N8 _ (.head _)).1
    AT hj hi fun h9 tk9 k9 => ?_
  have N9 := N8.grown k9
  have F9 := F8.keeps k9
  clear N8 F8
  dsimp only [cmpR]
  have kq : Keeps s.heap h9 := HH.keeps (news := []) (news' := []) F9 (fun _ hp => nomatch hp) (fun p hp => nomatch hp)
  k_steps
  · have hr := hret tj h9 tk9 kq
    dsimp only at hr
    rw [if_pos (by assumption)] at hr
    exact (show LeaveK _ _ _ _ _ _ _ from ⟨Lg, _, [], F9, news_nil, fun _ _ => hr⟩)
  · have hr := hret ti h9 tk9 kq
    dsimp only at hr
    rw [if_neg (by assumption)] at hr
    exact (show LeaveK _ _ _ _ _ _ _ from ⟨Lg, _, [], F9, news_nil, fun _ _ => hr⟩)
end
end Mine
end
section
open PySem PySem.W PySem.Calls PyProof.Rows
set_option maxRecDepth 100000
set_option maxHeartbeats 8000000
namespace Mine
local macro_rules | `(tactic| walk_at "eval Lambda") => `(tactic| (k_here; refine HaltC.mk ?_))
local macro_rules | `(tactic| walk_at "call ref") => `(tactic| (k_here; refine HaltC.mk ?_))
theorem MethX.sub {X Y : List Addr} {p : Params} {h : Heap} {i : Nat} {f : Addr} {name : Str} {clos : List (Str × Addr)} (e : ∀ c ∈ Y, c ∈ X) : MethX X p h i f name clos → MethX Y p h i f name clos :=
  fun x => by
  obtain ⟨a, b, sc, doc, pm, c', ctv, oc, vs, t, h1, h2, h3, h4, h5⟩ := x
  exact ⟨a, b, sc, doc, pm, c', ctv, oc, vs, t, h1, AtX.sub e _ _ h2, AtX.sub e _ _ h3, h4, h5⟩
theorem KeyEnv.sub {p : Params} {X Y : List Addr} {h : Heap} {C f Dt l : Addr} (x : KeyEnv p X h C f Dt l) (e : ∀ c ∈ Y, c ∈ X) : KeyEnv p Y h C f Dt l := by
  refine hide fun hideG hideH => ?_
  obtain ⟨⟨K, ns, md, fI, fL, fG, fE, sl, cell, oc, a1, a2, a3, a4, a5, a6, a7, a8⟩, b⟩ := x
  refine hideH ?_; clear hideH hideG
  exact ⟨⟨K, ns, md, fI, fL, fG, fE, sl, cell, oc, a1, fun d o q => AtX.sub e _ _ (a2 d o q), a3.sub e, a4.sub e, a5.sub e, a6.sub e, AtX.sub e _ _ a7, a8⟩, b.mono (AtX.sub e)⟩
abbrev tabA (c : Addr) : Array Value := #[] ++ #[rawInt 163, rawInt 19, .ref c]
abbrev tabB (c d : Addr) : Array Value := tabA c ++ #[rawInt 164, rawInt 18, .ref d]
section
variable {w : World} {prg : Program} {loose : List Str} {mean : ExcName → Option Value} {mg mb : Str → Option Value}
    {dp un : Nat} {gd : Option (List Code)} {outer : List Env} {A₀ : Around} {base h₀ : Heap} {L : Addr} {m : Str → Option Value} {s : Shared} {E : Value → Shared → Prop} {Q : Flow → Shared → Prop} {x l c1 c2 c3 : Addr} {o1 o2 o3 : Obj} {st : Stmt} {sc : Scope}
theorem ag_least {C f Dt lp : Addr} {vp : List Value} {ep : Nat} {ask : Int → Int → Int}  (hst : agSt w.params 9 = some (st, sc))
    (B : Below A₀ base outer h₀) (F : Fr h₀ L s.heap m) (X : (hd.heap_1 w.params).In h₀) (T : Top prg loose mean mg mb h₀) (hdp : dp + 40 < 900) (hun : un + 80 < 600) (AP : Apart c1 c2 c3)
    (N : News h₀ L s.heap [(c3, o1), (c2, o2), (c1, o3), (114, tabObj #[])]) (d1 : o1.data = .cell (some (.ref C)))
    (m1 : m "places" = some (.ref lp)) (KE : KeyEnv w.params (agY L c1 c2 c3) s.heap C f Dt l)
    (AT : ∀ h, Ext (agY L c1 c2 c3) s.heap h → Keeps h₀ h → AskTells PySem.Challenge.rw_mq0178_01.row.prog w prg loose mean mg mb f h (fun i => 0 ≤ i ∧ i < 8) ask)
    (hlp : AtX (agY L c1 c2 c3) s.heap lp (W.listOf (List.toArray vp) ep)) (hip : IntsAre vp [0, 1, 2, 3, 4, 5, 6, 7])
    (hQ : ∀ t c' h' tk', Fr h₀ L h' (fun z => if z = "least" then some (.int (([1, 2, 3, 4, 5, 6, 7] : List Int).foldl (fun kept one => if ask one kept < 0 then one else kept) 0) t) else m z) → News h₀ L h' [(c3, o1), (c2, o2), (c1, o3), (114, tabObj (tabA c'))] → Ext (agY L c1 c2 c3) s.heap h' → Q .next { s with heap := h', toks := tk' }) :
    wpAny (model PySem.Challenge.rw_mq0178_01.row.prog w) (ktrTop dp un gd "_law_agrees" sc L 117 (.ref 116) (agCl c1 c2 c3) outer) (exec st (envX "_law_agrees" sc L 117 (.ref 116) (agCl c1 c2 c3))) Q E s := by
  have e' : agSt w.params 9 = some (_, _) := rfl
  rw [e'] at hst
  cases hst
  clear e'
  have hcl : 600 ≤ cLine := by decide
  have hrl : 900 ≤ recursionLimit := by decide
  dsimp only [agCl]
  refine hide fun hideG hideH => ?_
  obtain ⟨sym1, NS1, offS, snapS⟩ := snap F (agY L c1 c2 c3) (.head _)
  refine hideH ?_; clear hideH hideG
  have F₁ : Fr h₀ L s.heap _ := fr_known F m1
  have Nc : News h₀ L s.heap ([(c3, o1), (c2, o2), (c1, o3), (114, tabObj #[])] ++ sym1) := news_app N NS1
  dsimp only [List.cons_append, List.nil_append] at Nc
  clear F N NS1
  refine hide fun hideG hideH => ?_
  obtain ⟨a12, a13, a23, ⟨b1, b2, b3⟩, ⟨b4, b5, b6⟩, b7, b8, b9⟩ := AP
  refine hideH ?_; clear hideH hideG
  have oS : ∀ p ∈ sym1, p.1 ≠ 114 := fun p hp q => offS p hp (q ▸ by simp [agY])
  w_on
  show wpAny _ _ _ _ _ _
  k_steps
  refine HaltC.get ?_
  refine kla_eval rfl (kla_nest F₁ Nc T (codeHd_of_K X (by kernel_rfl)) rfl (.tail b9 (.tail b6 (.tail b3 (.head oS)))) trivial rfl rfl fun fl c' oc vs t ctv h1 tk1 F₂ N₂ dd1 dd2 l1 l2 => ?_)
  dsimp only at N₂
  k_steps
  refine HaltC.get ?_
  rename Fr h₀ L _ _ => F₃
  rename News h₀ L _ _ => N₃
  have x3 := snapS _ _ F₃ fun p hp => N₃ p (by repeat (first | exact hp | apply List.Mem.tail))
  refine reduce_tells (s := ⟨_, _, _, _, _⟩) B F₃ X T rfl (by lia) (by lia) (lst_of (x3 _ _ hlp.2 hlp.1)) hip (by decide) (by decide)
    (lam_least ⟨_, _, _, _, _, c', ctv, oc, vs, t, rfl, (N₃ _ (.head _)).1, (N₃ _ (.tail _ (.head _))).1, dd1, dd2⟩ (N₃ _ (.tail _ (.tail _ (.head _)))).1 d1 ((KE.ext x3).sub fun c hc => nomatch hc) (AT _ x3 F₃.keep) (X.keeps F₃.keep)) (Keeps.refl _) (N₃ _ (.head _)).1 rfl
    (fun n hn => by simp only [List.mem_cons, List.not_mem_nil, or_false] at hn; lia) (fun a b ha hb => by split <;> assumption) fun t' h4 tk4 k4 => ?_
  have N₄ := N₃.grown k4
  have F₄ := F₃.keeps k4
  clear N₃ F₃
  k_steps
  rename Fr h₀ L _ _ => F₅
  rename News h₀ L _ _ => N₅
  refine hQ t' c' _ _ (fr_eq F₅ fun z => ?_) (fun p hp => N₅ p (.tail _ (.tail _ (List.mem_append_left sym1 hp)))) (snapS _ _ F₅ fun p hp => N₅ p (by repeat (first | exact hp | apply List.Mem.tail)))
  split
  · rfl
  · split
    · next q => rw [q, m1]
    · rfl
theorem ag_most {C f Dt lp : Addr} {vp : List Value} {ep : Nat} {ask : Int → Int → Int} {cA : Addr} (hst : agSt w.params 10 = some (st, sc))
    (B : Below A₀ base outer h₀) (F : Fr h₀ L s.heap m) (X : (hd.heap_1 w.params).In h₀) (T : Top prg loose mean mg mb h₀) (hdp : dp + 40 < 900) (hun : un + 80 < 600) (AP : Apart c1 c2 c3)
    (N : News h₀ L s.heap [(c3, o1), (c2, o2), (c1, o3), (114, tabObj (tabA cA))]) (d1 : o1.data = .cell (some (.ref C)))
    (m1 : m "places" = some (.ref lp)) (KE : KeyEnv w.params (agY L c1 c2 c3) s.heap C f Dt l)
    (AT : ∀ h, Ext (agY L c1 c2 c3) s.heap h → Keeps h₀ h → AskTells PySem.Challenge.rw_mq0178_01.row.prog w prg loose mean mg mb f h (fun i => 0 ≤ i ∧ i < 8) ask)
    (hlp : AtX (agY L c1 c2 c3) s.heap lp (W.listOf (List.toArray vp) ep)) (hip : IntsAre vp [0, 1, 2, 3, 4, 5, 6, 7])
    (hQ : ∀ t c' h' tk', Fr h₀ L h' (fun z => if z = "most" then some (.int (([1, 2, 3, 4, 5, 6, 7] : List Int).foldl (fun kept one => if 0 < ask one kept then one else kept) 0) t) else m z) → News h₀ L h' [(c3, o1), (c2, o2), (c1, o3), (114, tabObj (tabB cA c'))] → Ext (agY L c1 c2 c3) s.heap h' → Q .next { s with heap := h', toks := tk' }) :
    wpAny (model PySem.Challenge.rw_mq0178_01.row.prog w) (ktrTop dp un gd "_law_agrees" sc L 117 (.ref 116) (agCl c1 c2 c3) outer) (exec st (envX "_law_agrees" sc L 117 (.ref 116) (agCl c1 c2 c3))) Q E s := by
  have e' : agSt w.params 10 = some (_, _) := rfl
  rw [e'] at hst
  cases hst
  clear e'
  have hcl : 600 ≤ cLine := by decide
  have hrl : 900 ≤ recursionLimit := by decide
  dsimp only [agCl]
  refine hide fun hideG hideH => ?_
  obtain ⟨sym1, NS1, offS, snapS⟩ := snap F (agY L c1 c2 c3) (.head _)
  refine hideH ?_; clear hideH hideG
  have F₁ : Fr h₀ L s.heap _ := fr_known F m1
  have Nc : News h₀ L s.heap ([(c3, o1), (c2, o2), (c1, o3), (114, tabObj (tabA cA))] ++ sym1) := news_app N NS1
  dsimp only [List.cons_append, List.nil_append] at Nc
  clear F N NS1
  refine hide fun hideG hideH => ?_
  obtain ⟨a12, a13, a23, ⟨b1, b2, b3⟩, ⟨b4, b5, b6⟩, b7, b8, b9⟩ := AP
  refine hideH ?_; clear hideH hideG
  have oS : ∀ p ∈ sym1, p.1 ≠ 114 := fun p hp q => offS p hp (q ▸ by simp [agY])
  w_on
  show wpAny _ _ _ _ _ _
  k_steps
  refine HaltC.get ?_
  refine kla_eval rfl (kla_nest F₁ Nc T (codeHd_of_K X (by kernel_rfl)) rfl (.tail b9 (.tail b6 (.tail b3 (.head oS)))) trivial rfl rfl fun fl c' oc vs t ctv h1 tk1 F₂ N₂ dd1 dd2 l1 l2 => ?_)
  dsimp only at N₂
  k_steps
  refine HaltC.get ?_
  rename Fr h₀ L _ _ => F₃
  rename News h₀ L _ _ => N₃
  have x3 := snapS _ _ F₃ fun p hp => N₃ p (by repeat (first | exact hp | apply List.Mem.tail))
  refine reduce_tells (s := ⟨_, _, _, _, _⟩) B F₃ X T rfl (by lia) (by lia) (lst_of (x3 _ _ hlp.2 hlp.1)) hip (by decide) (by decide)
    (lam_most ⟨_, _, _, _, _, c', ctv, oc, vs, t, rfl, (N₃ _ (.head _)).1, (N₃ _ (.tail _ (.head _))).1, dd1, dd2⟩ (N₃ _ (.tail _ (.tail _ (.head _)))).1 d1 ((KE.ext x3).sub fun c hc => nomatch hc) (AT _ x3 F₃.keep) (X.keeps F₃.keep)) (Keeps.refl _) (N₃ _ (.head _)).1 rfl
    (fun n hn => by simp only [List.mem_cons, List.not_mem_nil, or_false] at hn; lia) (fun a b ha hb => by split <;> assumption) fun t' h4 tk4 k4 => ?_
  have N₄ := N₃.grown k4
  have F₄ := F₃.keeps k4
  clear N₃ F₃
  k_steps
  rename Fr h₀ L _ _ => F₅
  rename News h₀ L _ _ => N₅
  refine hQ t' c' _ _ (fr_eq F₅ fun z => ?_) (fun p hp => N₅ p (.tail _ (.tail _ (List.mem_append_left sym1 hp)))) (snapS _ _ F₅ fun p hp => N₅ p (by repeat (first | exact hp | apply List.Mem.tail)))
  split
  · rfl
  · split
    · next q => rw [q, m1]
    · rfl
end
end Mine
end
section
open PySem PySem.W PySem.Calls PyProof.Rows
set_option maxRecDepth 100000
namespace Mine
/-- the first colour's hue -/
def ogOf (q : Int × Int × Int) : UInt64 :=
  (hsv3 (e8 (partF q.1 q.2.1 q.2.2 0).toNat) (e8 (partF q.1 q.2.1 q.2.2 1).toNat) (e8 (partF q.1 q.2.1 q.2.2 2).toNat) (fmx (fmx (e8 (partF q.1 q.2.1 q.2.2 0).toNat) (e8 (partF q.1 q.2.1 q.2.2 1).toNat)) (e8 (partF q.1 q.2.1 q.2.2 2).toNat)) (fmn (fmn (e8 (partF q.1 q.2.1 q.2.2 0).toNat) (e8 (partF q.1 q.2.1 q.2.2 1).toNat)) (e8 (partF q.1 q.2.1 q.2.2 2).toNat))).1
def toldRows (names : List (Int × Int × Int)) : List (List TV) := names.map fun q => toldTV q (ogOf (names.getD 0 (0, 0, 0)))
def dueRows (names : List (Int × Int × Int)) : List (List (Int × Int)) := names.map fun q => colsL q.1 q.2.1 q.2.2 (names.getD 0 (0, 0, 0)).1 (names.getD 0 (0, 0, 0)).2.2
def askL (names : List (Int × Int × Int)) (rs : List (Int × Int)) (i j : Int) : Int := askI ((toldRows names).getD i.toNat []) ((toldRows names).getD j.toNat []) rs
/-- what _law_agrees finds, if it is to say True -/
structure AgreeLaw (names : List (Int × Int × Int)) (rs : List (Int × Int)) : Prop where
  told : ∀ q ∈ names, ToldOk q
  hsf : ∀ vs, IntsAre vs [0, 1, 2, 3, 4, 5, 6, 7] → IntsAre (sortOut false vs fun i j => decide (askL names rs i j < 0)).toList (ordI (dueRows names) rs 1 8)
  hsb : ∀ vs, IntsAre vs [0, 1, 2, 3, 4, 5, 6, 7] → IntsAre (sortOut true vs fun i j => decide (askL names rs i j < 0)).toList (ordI (dueRows names) rs (-1) 8)
  hal : ∀ i j : Int, 0 ≤ i → i < 8 → 0 ≤ j → j < 8 → (askL names rs i j = 0 ↔ standsI ((dueRows names).getD i.toNat []) ((dueRows names).getD j.toNat []) rs = 0)
  least : (ordI (dueRows names) rs 1 8)[0]? = some (([1, 2, 3, 4, 5, 6, 7] : List Int).foldl (fun kept one => if askL names rs one kept < 0 then one else kept) 0)
  most : (ordI (dueRows names) rs (-1) 8)[0]? = some (([1, 2, 3, 4, 5, 6, 7] : List Int).foldl (fun kept one => if 0 < askL names rs one kept then one else kept) 0)
  hb : ∀ r ∈ dueRows names, ∀ p ∈ r, -1000000 ≤ p.1 ∧ p.1 ≤ 1000000 ∧ -1000000 ≤ p.2 ∧ p.2 ≤ 1000000
theorem told_same (names : List (Int × Int × Int)) : ∀ r ∈ toldRows names, ∀ q ∈ toldRows names, ∀ k, (r.getD k (.i 0)).same (q.getD k (.i 0)) := by
  intro r hr q hq k
  refine hide fun hideG hideH => ?_
  obtain ⟨x, _, rfl⟩ := List.mem_map.mp hr
  obtain ⟨y, _, rfl⟩ := List.mem_map.mp hq
  refine hideH ?_; clear hideH hideG
  unfold toldTV
  match k with
  | 0 => exact trivial
  | 1 => exact trivial
  | 2 => exact trivial
  | 3 => exact trivial
  | 4 => exact trivial
  | 5 => exact trivial
  | k + 6 => exact trivial
theorem told_len (names : List (Int × Int × Int)) : ∀ r ∈ toldRows names, r.length = 6 := by
  intro r hr
  refine hide fun hideG hideH => ?_
  obtain ⟨x, _, rfl⟩ := List.mem_map.mp hr
  refine hideH ?_; clear hideH hideG
  rfl
theorem due_len (names : List (Int × Int × Int)) : ∀ r ∈ dueRows names, r.length = 6 := by
  intro r hr
  refine hide fun hideG hideH => ?_
  obtain ⟨x, _, rfl⟩ := List.mem_map.mp hr
  refine hideH ?_; clear hideH hideG
  rfl
end Mine
end
section
open PySem PySem.W PySem.Calls PyProof.Rows
set_option maxRecDepth 100000
set_option maxHeartbeats 8000000
namespace Mine
section
variable {w : World} {prg : Program} {loose : List Str} {mean : ExcName → Option Value} {mg mb : Str → Option Value}
    {dp un : Nat} {gd : Option (List Code)} {cn : Str} {cs : Scope} {a : Addr} {ccd : Value} {cl : List (Str × Addr)} {outer : List Env} {A₀ : Around} {base h₀ : Heap} {L : Addr} {m : Str → Option Value} {s : Shared} {Q E : Value → Shared → Prop}
theorem agrees_tells {x l : Addr} {names : List (Int × Int × Int)} {rs : List (Int × Int)}
    (B : Below A₀ base outer h₀) (F : Fr h₀ L s.heap m) (X : (hd.heap_1 w.params).In h₀) (T : Top prg loose mean mg mb h₀) (hk : cs.kind = .function)
    (hdp : dp + 50 < 900) (hun : un + 100 < 600)
    (N : News h₀ L s.heap [(16, tabObj #[]), (93, tabObj #[]), (114, tabObj #[])])
    (hx : NTab (OffT s.heap) x names) (h8 : names.length = 8) (hn : ∀ q ∈ names, NameOk q)
    (hr : Pairs (OffT s.heap) l rs) (hok : ∀ p ∈ rs, 0 ≤ p.1 ∧ p.1 < 6 ∧ -16 ≤ p.2 ∧ p.2 ≤ 16) (AL : AgreeLaw names rs)
    (hret : ∀ h' tk', (∀ b o, b ≠ 16 → b ≠ 93 → b ≠ 114 → s.heap.get? b = some o → h'.get? b = some o) → (∃ ps, h'.get? 93 = some (tabObj ps)) → (∃ ps, h'.get? 16 = some (tabObj ps)) → (∃ ps, h'.get? 114 = some (tabObj ps)) → Q (.bool true) { s with heap := h', toks := tk' }) :
    wpAny (model PySem.Challenge.rw_mq0178_01.row.prog w) (ktrTop dp un gd cn cs L a ccd cl outer) (call (.ref 117) [.ref x, .ref l]) Q E s := by
  have hcl : 600 ≤ cLine := by decide
  have hrl : 900 ≤ recursionLimit := by decide
  w_on
  (refine wpAny_call ?_; k_dflt (refine' code_cellsG ?k1 ?k2 ?k3 ?k4 ?k5 ?kA ?kF ?kK ?k6 ?k7 ?k8 ?k9 ?kB ?kD ?_ ?c2 ?c3 ?c4; (case kA => exact rfl); (case kF => exact rfl); (case kK => assumption); (case k1 => k_asm); (case k2 => k_asm); (case k3 => k_asm); (case k4 => k_asm); (case k5 => k_asm); (case k6 => k_is); (case k7 => k_is); (case k8 => ktr_room); (case k9 => first | exact BindsTo.of_eq rfl | exact binds_K (by k_in) rfl (by k_is) rfl rfl rfl); (case kB => exact rfl); (case kD => decide +kernel); (case c2 => exact rfl); (case c3 => exact rfl); (case c4 => exact rfl); k_whole; intro gg Lg hg tkg cells FG' FF NN Y' B' X' T' HH CC; obtain ⟨o1, o2, o3, hE, d1, d2, d3⟩ := PyProof.Rows.CellsAre.three Y'; subst hE; (try simp only [List.cons_append, List.nil_append] at NN CC); (try dsimp only); (try k_lift B'); (try k_fold)))
  have up : ∀ d o, OffT s.heap d o → gg.get? d = some o := fun d o e => HH.rest d o e.1 fun p hp => by
    rcases List.mem_cons.mp hp with rfl | hp
    · exact Ne.symm e.2.1
    rcases List.mem_cons.mp hp with rfl | hp
    · exact Ne.symm e.2.2.1
    cases List.mem_singleton.mp hp
    exact Ne.symm e.2.2.2
  have NT := hx.mono (R := AtH gg) up
  have PR := hr.mono (R := AtH gg) up
  refine hide fun hideG hideH => ?_
  obtain ⟨vx, ex, gx, Cx⟩ := id NT
  refine hideH ?_; clear hideH hideG
  have h0q : 0 < names.length := by lia
  refine hide fun hideG hideH => ?_
  obtain ⟨D0, tn0, tm0, tp0, e0, hv0, hD0⟩ := Cx.at (List.getElem?_eq_getElem h0q)
  refine hideH ?_; clear hideH hideG
  have q0ok := hn _ (List.getElem_mem h0q)
  have q0t := AL.told _ (List.getElem_mem h0q)
  have eg0 : names.getD 0 (0, 0, 0) = names[0] := by rw [List.getD_eq_getElem?_getD, List.getElem?_eq_getElem h0q]; rfl
  have p48 : names[0].2.2 < 48 := by
    have z := q0ok.p1
    have z1 := q0ok.mn
    have z2 := q0ok.m0
    unfold mx1 at z
    split at z <;> lia
  have d1' : o1.data = .cell none := d1
  have d2' : o2.data = .cell none := d2
  have d3' : o3.data = .cell (some (.ref x)) := d3
  have ap : ∀ {c : Addr} {o : Obj} {v : Option Value} {t : Addr}, (c, o) ∈ [(Lg + 1 + 1 + 1, o1), (Lg + 1 + 1, o2), (Lg + 1, o3), (16, tabObj #[]), (93, tabObj #[]), (114, tabObj #[])] → o.data = .cell v → (t, tabObj #[]) ∈ [(Lg + 1 + 1 + 1, o1), (Lg + 1 + 1, o2), (Lg + 1, o3), (16, tabObj #[]), (93, tabObj #[]), (114, tabObj #[])] → c ≠ t := fun h1 h2 h3 q => by
    have z1 := (NN _ h1).1
    have z2 := (NN _ h3).1
    dsimp only at z1 z2
    rw [q, z2] at z1
    cases z1
    cases h2
  have AP : Apart (Lg + 1) (Lg + 1 + 1) (Lg + 1 + 1 + 1) := ⟨by show @Ne Nat _ _; lia, by show @Ne Nat _ _; lia, by show @Ne Nat _ _; lia, ⟨ap (by simp) d3' (by simp), ap (by simp) d3' (by simp), ap (by simp) d3' (by simp)⟩, ⟨ap (by simp) d2' (by simp), ap (by simp) d2' (by simp), ap (by simp) d2' (by simp)⟩, ⟨ap (by simp) d1' (by simp), ap (by simp) d1' (by simp), ap (by simp) d1' (by simp)⟩⟩
  have n93 : (93 : Addr) ∉ agY Lg (Lg + 1) (Lg + 1 + 1) (Lg + 1 + 1 + 1) := fun hm => by
    simp only [agY, List.mem_cons, List.not_mem_nil, or_false] at hm
    rcases hm with q | q | q | q | q
    · exact (NN (93, tabObj #[]) (by simp)).2.1 q
    · exact AP.t1.2.1 q.symm
    · exact AP.t2.2.1 q.symm
    · exact AP.t3.2.1 q.symm
    · exact absurd q (by decide)
  have n16 : (16 : Addr) ∉ agY Lg (Lg + 1) (Lg + 1 + 1) (Lg + 1 + 1 + 1) := fun hm => by
    simp only [agY, List.mem_cons, List.not_mem_nil, or_false] at hm
    rcases hm with q | q | q | q | q
    · exact (NN (16, tabObj #[]) (by simp)).2.1 q
    · exact AP.t1.1 q.symm
    · exact AP.t2.1 q.symm
    · exact AP.t3.1 q.symm
    · exact absurd q (by decide)
  clear d1 d2 d3 ap
  refine wpAny_execs_cons (ag_origin (c1 := Lg + 1) (c2 := Lg + 1 + 1) (c3 := Lg + 1 + 1 + 1) (dp := dp + 1) (by exact rfl) B' FF X' T' (by lia) (by show un + 3 + 80 < 600; lia) AP NN d2' d3' gx hv0 hD0 q0ok.n0 q0ok.m0 q0ok.mn q0ok.p0 p48 q0t.z fun og tog o2' ha tka F1 N1 d2'' x1 hog => ?_)
  have hog' : og = ogOf (names.getD 0 (0, 0, 0)) := by rw [eg0]; exact hog
  subst hog'
  clear hog NN FF
  dsimp only
  refine wpAny_execs_cons (ag_told (c1 := Lg + 1) (c2 := Lg + 1 + 1) (c3 := Lg + 1 + 1 + 1) (dp := dp + 1) (by exact rfl) B' F1 X' T' (by lia) (by show un + 3 + 80 < 600; lia) N1 d2'' d3' NT h8 hn AL.told fun Dt hb tkb F2 N2 x2 VT => ?_)
  dsimp only
  clear F1 N1
  refine wpAny_execs_cons (ag_due (c1 := Lg + 1) (c2 := Lg + 1 + 1) (c3 := Lg + 1 + 1 + 1) (dp := dp + 1) (by exact rfl) B' F2 X' T' (by lia) (by show un + 3 + 80 < 600; lia) N2 d3' NT h8 hn fun Dd hc tkc F3 N3 x3 PT => ?_)
  dsimp only
  clear F2 N2
  refine wpAny_execs_cons (ag_keyed (c1 := Lg + 1) (c2 := Lg + 1 + 1) (c3 := Lg + 1 + 1 + 1) (dp := dp + 1) (by exact rfl) B' F3 X' T' (by lia) (by show un + 3 + 80 < 600; lia) AP N3 d1' d2'' d3' (by with_unfolding_all rfl) (by with_unfolding_all rfl) fun C f o1' hd' tkd F4 N4 d1'' x4 KE g93 g16 => ?_)
  dsimp only
  have VT4 : VTab (AtX (agY Lg (Lg + 1) (Lg + 1 + 1) (Lg + 1 + 1 + 1)) hd') Dt (toldRows names) := (VT.mono (AtX.ext (x3.trans x4))).mono (AtX.sub agY_sub)
  have PT4 : PTab (AtX (agY Lg (Lg + 1) (Lg + 1 + 1) (Lg + 1 + 1 + 1)) hd') Dd (dueRows names) := (PT.mono (AtX.ext x4)).mono (AtX.sub agY_sub)
  have x14 := x1.trans (x2.trans (x3.trans x4))
  clear F3 N3 VT PT x1 x2 x3 x4
  have rl8 : (dueRows names).length = 8 := (List.length_map _).trans h8
  have tl8 : (toldRows names).length = 8 := (List.length_map _).trans h8
  refine wpAny_execs_cons (ag_forth (rs := rs) (c1 := Lg + 1) (c2 := Lg + 1 + 1) (c3 := Lg + 1 + 1 + 1) (dp := dp + 1) (by exact rfl) B' F4 X' T' (by lia) (by show un + 3 + 80 < 600; lia) N4 (by with_unfolding_all rfl) (by with_unfolding_all rfl) PT4 PR rl8 hok (due_len names) AL.hb fun Df vf ef he tke F5 N5 x5 hlf hif => ?_)
  dsimp only
  clear F4 N4
  refine wpAny_execs_cons (ag_back (rs := rs) (c1 := Lg + 1) (c2 := Lg + 1 + 1) (c3 := Lg + 1 + 1 + 1) (dp := dp + 1) (by exact rfl) B' F5 X' T' (by lia) (by show un + 3 + 80 < 600; lia) N5 (by with_unfolding_all rfl) (by with_unfolding_all rfl) (PT4.mono (AtX.ext x5)) PR rl8 hok (due_len names) AL.hb fun Db vb eb hf tkf F6 N6 x6 hlb hib => ?_)
  dsimp only
  clear F5 N5
  refine wpAny_execs_cons ?_
  refine ag_places (c1 := Lg + 1) (c2 := Lg + 1 + 1) (c3 := Lg + 1 + 1 + 1) (dp := dp + 1) (by exact rfl) B' F6 X' T' (by lia) (by show un + 3 + 80 < 600; lia) N6 d1'' d2'' d3' fun lp vp ep hp tkp F7 N7 x7 hlp hip => ?_
  dsimp only
  clear F6 N6
  have x57 := x5.trans (x6.trans x7)
  have KE7 := KE.ext x57
  have ATg : ∀ h, Ext (agY Lg (Lg + 1) (Lg + 1 + 1) (Lg + 1 + 1 + 1)) hd' h → Keeps gg h → AskTells PySem.Challenge.rw_mq0178_01.row.prog w prg loose mean mg mb f h (fun i => 0 ≤ i ∧ i < 8) (askL names rs) := fun h e k => by
    have z := asked_tells (w := w) (prg := prg) (loose := loose) (mean := mean) (mg := mg) (mb := mb) (hb := h) (f := f) (x := Dt) (l := l) (rows := toldRows names) (rs := rs) (X'.keeps k) ((KE.ext e).ask.mono AtX.at) ((VT4.mono (AtX.ext e)).mono AtX.at) (PR.mono fun d o q => k _ _ q) hok (by lia) (told_len names) (told_same names)
    rw [tl8] at z
    exact z
  have hlf7 := AtX.ext (x6.trans x7) _ _ hlf
  have hlb7 := AtX.ext x7 _ _ hlb
  refine wpAny_execs_cons (ag_if (v2 := none) (v3 := none) (c1 := Lg + 1) (c2 := Lg + 1 + 1) (c3 := Lg + 1 + 1 + 1) (dp := dp + 1) (by exact rfl) B' F7 X' T' (by lia) (by show un + 3 + 80 < 600; lia) N7 d1'' (by with_unfolding_all rfl) (by with_unfolding_all rfl) (by with_unfolding_all rfl) KE7 (fun h e k => ATg h (x57.trans e) k) hlp hip hlf7 hif hlb7 hib ordI_len ordI_len AL.hsf AL.hsb fun hi' tki F8 N8 x8 => ?_)
  dsimp only
  clear F7 N7
  refine hide fun hideG hideH => ?_
  obtain ⟨vd, ed, gd', Rd⟩ := PT4.mono (AtX.ext (x57.trans x8))
  refine hideH ?_; clear hideH hideG
  refine wpAny_execs_cons (ag_for (nf := ordI (dueRows names) rs 1 8) (c1 := Lg + 1) (c2 := Lg + 1 + 1) (c3 := Lg + 1 + 1 + 1) (dp := dp + 1) (by exact rfl) B' F8 X' T' (by lia) (by show un + 3 + 80 < 600; lia) N8 d1'' (by with_unfolding_all rfl) (by with_unfolding_all rfl) (by with_unfolding_all rfl) (by with_unfolding_all rfl) (by with_unfolding_all rfl) (KE7.ext x8) (fun h e k => ATg h ((x57.trans x8).trans e) k) (AtX.ext x8 _ _ hlf7) hif ordI_len (fun n hn => ordI_mem hn) gd' Rd PR rl8 hok (due_len names) AL.hb AL.hal (fun hj tkj m9 F9 N9 x9 p1 p2 p3 => ?_) (by passes_own))
  dsimp only
  clear F8 N8
  have x89 := x8.trans x9
  refine wpAny_execs_cons (ag_least (c1 := Lg + 1) (c2 := Lg + 1 + 1) (c3 := Lg + 1 + 1 + 1) (dp := dp + 1) (by exact rfl) B' F9 X' T' (by lia) (by show un + 3 + 80 < 600; lia) AP N9 d1'' p1 (KE7.ext x89) (fun h e k => ATg h ((x57.trans x89).trans e) k) (AtX.ext x89 _ _ hlp) hip fun tz cA hk' tkk F10 N10 x10 => ?_)
  dsimp only
  clear F9 N9
  have x810 := x89.trans x10
  refine wpAny_execs_cons (ag_most (c1 := Lg + 1) (c2 := Lg + 1 + 1) (c3 := Lg + 1 + 1 + 1) (dp := dp + 1) (by exact rfl) B' F10 X' T' (by lia) (by show un + 3 + 80 < 600; lia) AP N10 d1'' (by first | exact p1 | (show (if _ then _ else _) = _; rw [if_neg (by decide)]; exact p1)) (KE7.ext x810) (fun h e k => ATg h ((x57.trans x810).trans e) k) (AtX.ext x810 _ _ hlp) hip fun tw' cB hl' tkl F11 N11 x11 => ?_)
  dsimp only
  clear F10 N10
  have x811 := x810.trans x11
  refine wpAny_execs_cons (ag_ret (c1 := Lg + 1) (c2 := Lg + 1 + 1) (c3 := Lg + 1 + 1 + 1) (dp := dp + 1) (by exact rfl) B' F11 X' T' (by lia) (by show un + 3 + 80 < 600; lia) N11 (by with_unfolding_all rfl) (by with_unfolding_all rfl) (by first | exact p2 | (show (if _ then _ else _) = _; rw [if_neg (by decide)]; exact p2)) (by first | exact p3 | (show (if _ then _ else _) = _; rw [if_neg (by decide)]; exact p3)) (AtX.ext x811 _ _ hlf7) hif (AtX.ext x811 _ _ hlb7) hib AL.least AL.most fun hm tkm m12 F12 x12 g114 => ?_)
  have fin : ∀ b o, b ≠ 16 → b ≠ 93 → b ≠ 114 → s.heap.get? b = some o → hm.get? b = some o := fun b o n1 n2 n3 e => F12.keep _ _ (HH.rest _ _ e fun p hp => by
    rcases List.mem_cons.mp hp with rfl | hp
    · exact Ne.symm n1
    rcases List.mem_cons.mp hp with rfl | hp
    · exact Ne.symm n2
    cases List.mem_singleton.mp hp
    exact Ne.symm n3)
  have xend := x57.trans (x811.trans x12)
  have gk : ∀ c : Addr, c ∉ agY Lg (Lg + 1) (Lg + 1 + 1) (Lg + 1 + 1 + 1) → (∃ ps, hd'.get? c = some (tabObj ps)) → ∃ ps, hm.get? c = some (tabObj ps) := fun c hc ⟨ps, e⟩ => ⟨ps, xend _ _ hc e⟩
  exact (show LeaveK _ _ _ _ _ _ _ from ⟨Lg, m12, [], F12, news_nil, fun _ _ => hret _ _ fin (gk _ n93 g93) (gk _ n16 g16) ⟨_, g114⟩⟩)
end
end Mine
end
section
open PySem PySem.W PySem.Calls PyProof.Rows
set_option maxRecDepth 100000
set_option maxHeartbeats 8000000
namespace Mine
local macro_rules | `(tactic| walk_at "call ref") => `(tactic| (k_here; refine HaltC.mk ?_))
local macro_rules | `(tactic| walk_at "CompSrc") => `(tactic| (k_here; refine HaltC.mk ?_))
local macro_rules | `(tactic| walk_at "eval ListComp") => `(tactic| (k_here; k_dflt (refine LCg.ListComp_U (F₀ := by k_asm) (by with_unfolding_all rfl) (by decide) (by rfl) (by decide) (by rfl) ?_)))
theorem nt_ext {P : Addr → Obj → Prop} {f : Int → Int × Int × Int} {ds : List Int} : ∀ {vs : List Value} , vs.length = ds.length → (∀ i, i < ds.length → ∃ b, vs[i]? = some (.ref b) ∧ ∃ d t u v e, ds[i]? = some d ∧ P b (W.listOf #[.int (f d).1 t, .int (f d).2.1 u, .int (f d).2.2 v] e)) → NRows P vs (ds.map f) := by
  induction ds with
  | nil => intro vs h _; cases vs with
    | nil => exact .nil
    | cons v vs => cases h
  | cons r rs ih => intro vs h hi; cases vs with
    | nil => cases h
    | cons v vs =>
      refine hide fun hideG hideH => ?_
      obtain ⟨b, e1, d, t, u, v, e, e2, hv⟩ := hi 0 (Nat.zero_lt_succ _)
      refine hideH ?_; clear hideH hideG
      cases e1
      cases e2
      exact .cons hv (ih (Nat.succ.inj h) fun i hl => hi (i + 1) (Nat.succ_lt_succ hl))
def nameL (d : Int) : Int × Int × Int := (nameN d, nameM d, nameP d)
theorem name_ok (d : Int) : NameOk (nameL d) := by
  have a1 := Int.fmod_nonneg_of_pos d (show (0 : Int) < 9 by decide)
  have a2 := Int.fmod_lt_of_pos d (show (0 : Int) < 9 by decide)
  have hn : nameN d = Int.fmod d 9 := rfl
  have a3 := Int.fmod_nonneg_of_pos (Int.fdiv d 9) (show (0 : Int) < 9 - nameN d by lia)
  have a4 := Int.fmod_lt_of_pos (Int.fdiv d 9) (show (0 : Int) < 9 - nameN d by lia)
  have h1 : (0 : Int) < mx1 (6 * nameN d) := by unfold mx1; split <;> lia
  have a5 := Int.fmod_nonneg_of_pos (Int.fdiv d 81) h1
  have a6 := Int.fmod_lt_of_pos (Int.fdiv d 81) h1
  refine ⟨?_, ?_, ?_, ?_, ?_⟩
  · exact a1
  · exact a3
  · show nameM d + nameN d ≤ 8
    unfold nameM
    lia
  · exact a5
  · exact a6
theorem lawX (AG : ∀ names rs (sz : Int), names.length = 8 → (∀ q ∈ names, NameOk q) → rs.length = 3 → 1 ≤ sz → sz ≤ 3 → (∀ p ∈ rs, 0 ≤ p.1 ∧ p.1 < 6 ∧ (p.2 = sz ∨ p.2 = -sz)) → AgreeLaw names rs) : PySem.Challenge.rw_mq0178_01.Holds := by
  refine hd ?_
  w_strict (k_go0; (all_goals try k_fold))
  have hcl : 600 ≤ cLine := by decide
  have hrl : 900 ≤ recursionLimit := by decide
  k_steps
  refine HaltC.get ?_
  rename Below _ _ _ _ => B'
  rename Fr _ _ _ _ => F'
  rename News _ _ _ _ => N'
  rename Frag.In _ _ => X'
  rename Top _ _ _ _ _ _ => T'
  rename IntsAre _ _ => I'
  rename Heap.IsList (ghostOf _ _) _ _ => L'
  refine draws_tells B' F' X' T' rfl (by decide) (by decide) (L'.at fun o e => F'.keep _ _ e) I' (by lia) fun D1 ws1 ds1 e1 h1 tk1 kp1 nw1 i1 n1 => ?_
  have N1 := news_add F' N' kp1 nw1
  have F1 := F'.keeps kp1
  clear N' F'
  k_steps
  refine HaltC.get ?_
  rename IntsAre _ (List.drop 1 ds1) => I2
  rename Fr _ _ _ _ => F2
  rename News _ _ _ _ => N2
  have hd8 : (ds1.drop 1).length = 8 := by rw [List.length_drop, n1]
  have hsz : ∀ (l : List Value), IntsAre l (ds1.drop 1) → l.toArray.size = 8 := fun l i => by simpa using (i.length.trans hd8)
  refine LCg.CompSrc.ledger rfl F2 N2 (.head _) (by rw [hsz _ I2, sizeLine_eq]; decide) (fun g' => ?_)
  rw [hsz _ I2]
  refine comp_rest (n := 8) (fun i b P => ∃ d t u v e, (ds1.drop 1)[i]? = some d ∧ P b (W.listOf #[.int (nameL d).1 t, .int (nameL d).2.1 u, .int (nameL d).2.2 v] e)) (fun i b P P' hp r => ?_) (fun sym => .inr ⟨_, List.mem_append_right _ (.head _), rfl, _, rfl⟩) ?_ ?_ 8 0 [] [] (fun p hp => nomatch hp) rfl rfl (fun j hj => absurd hj (Nat.not_lt_zero _))
  · refine hide fun hideG hideH => ?_
    obtain ⟨d, t, u, v, e, q1, q2⟩ := r
    refine hideH ?_; clear hideH hideG
    exact ⟨d, t, u, v, e, q1, hp _ _ q2⟩
  · intro i v I oI C oC D ys m₂ h tk sym E' hi hP hC hm F₁ N₁
    have hiq : i < (ds1.drop 1).length := by lia
    have hdq : (ds1.drop 1)[i]? = some (ds1.drop 1)[i] := List.getElem?_eq_getElem hiq
    refine hide fun hideG hideH => ?_
    obtain ⟨td, hv⟩ := I2.get i _ hdq
    refine hideH ?_; clear hideH hideG
    generalize (ds1.drop 1)[i] = d at *
    have hv' : ∀ (a : Array Value), a.toList[i]? = some (.int d td) → a[i]? = some (.int d td) := fun a h => by simpa using h
    rw [hv' _ hv] at hP
    cases hP
    have N₂ : News _ _ h [(C, oC)] := news_one N₁ (.tail _ (.head _))
    clear N₁ N2 F2
    show wpAny _ _ _ _ _ _
    k_steps
    refine HaltC.get ?_
    refine name_tells B' F₁ X' T' rfl (by decide) (by decide) fun D t u v e h' tk' kp nw => ?_
    exact ⟨D, h', _, rfl, rfl, kp, d, t, u, v, e, hdq, nw⟩
  · intro ys sym hne hl hj
    intro Dn h' tk' F3 N3 off
    clear N2 F2
    have N4 : News _ _ h' ((93, tabObj #[]) :: (16, tabObj #[]) :: (114, tabObj #[]) :: (Dn, LCg.lst ys) :: sym) := fun p hp => by
      rcases List.mem_cons.mp hp with rfl | hp
      · exact N3 _ (.tail _ (List.mem_append_right _ (.tail _ (.tail _ (.head _)))))
      rcases List.mem_cons.mp hp with rfl | hp
      · exact N3 _ (.tail _ (List.mem_append_right _ (.tail _ (.tail _ (.tail _ (.head _))))))
      rcases List.mem_cons.mp hp with rfl | hp
      · exact N3 _ (.tail _ (List.mem_append_right _ (.tail _ (.tail _ (.tail _ (.tail _ (.head _)))))))
      rcases List.mem_cons.mp hp with rfl | hp
      · exact N3 _ (.head _)
      · exact N3 _ (.tail _ (List.mem_append_left _ hp))
    have o93 := off1_mem off (93, tabObj #[]) (List.mem_append_right _ (.tail _ (.tail _ (.head _))))
    have o16 := off1_mem off (16, tabObj #[]) (List.mem_append_right _ (.tail _ (.tail _ (.tail _ (.head _)))))
    have o114 := off1_mem off (114, tabObj #[]) (List.mem_append_right _ (.tail _ (.tail _ (.tail _ (.tail _ (.head _))))))
    have nt : NTab (fun d o => (d, o) ∈ ((Dn, LCg.lst ys) :: sym) ∧ d ≠ 16 ∧ d ≠ 93 ∧ d ≠ 114) Dn ((ds1.drop 1).map nameL) := ⟨ys, ys.length, ⟨.head _, Ne.symm o16, Ne.symm o93, Ne.symm o114⟩, nt_ext (by rw [hl, hd8]) fun i hi => by
      rw [hd8] at hi
      refine hide fun hideG hideH => ?_
      obtain ⟨b, e1, d, t, u, v, e, e2, hm⟩ := hj i hi
      refine hideH ?_; clear hideH hideG
      exact ⟨b, e1, d, t, u, v, e, e2, .tail _ hm, hne _ hm _ (.tail _ (.tail _ (.tail _ (.head _)))), hne _ hm _ (.tail _ (.tail _ (.head _))), hne _ hm _ (.tail _ (.tail _ (.tail _ (.tail _ (.head _)))))⟩⟩
    clear N3 off hne hj o93 o16 o114
    generalize ((Dn, LCg.lst ys) :: sym) = symX at N4 nt
    k_steps
    refine HaltC.get ?_
    rename Fr _ _ _ _ => F4
    rename News _ _ _ _ => N5
    refine draws_tells B' F4 X' T' rfl (by decide) (by decide) (L'.at fun o e => F4.keep _ _ e) I' (by lia) fun D2 ws2 ds2 e2 h5 tk5 kp5 nw5 i2 n2 => ?_
    have N6 := news_add F4 N5 kp5 nw5
    have F6 := F4.keeps kp5
    clear N5 F4
    k_steps
    refine HaltC.get ?_
    rename Fr _ _ _ _ => F7
    rename News _ _ _ _ => N7
    refine rules_tells B' F7 X' T' rfl (by decide) (by decide) fun D3 rs h8 tk8 kp8 pr8 l3 hrs => ?_
    have N8 := N7.grown kp8
    have F8 := F7.keeps kp8
    k_steps
    refine HaltC.get ?_
    have fr8 : ∀ d o, New h5 h8 d o → OffT h8 d o := fun d o z => by
      refine ⟨z.there, fun q => ?_, fun q => ?_, fun q => ?_⟩
      · have e := (N7 (16, tabObj #[]) (by simp)).1
        have f := z.fresh
        rw [q, e] at f; cases f
      · have e := (N7 (93, tabObj #[]) (by simp)).1
        have f := z.fresh
        rw [q, e] at f; cases f
      · have e := (N7 (114, tabObj #[]) (by simp)).1
        have f := z.fresh
        rw [q, e] at f; cases f
    have szb := fun d => sizeR_lo d
    have lenN : ((ds1.drop 1).map nameL).length = 8 := by rw [List.length_map, hd8]
    have okN : ∀ q ∈ (ds1.drop 1).map nameL, NameOk q := fun q hq => by
      refine hide fun hideG hideH => ?_
      obtain ⟨d, _, rfl⟩ := List.mem_map.mp hq
      refine hideH ?_; clear hideH hideG
      exact name_ok d
    have t93 := N8 (93, tabObj #[]) (by simp)
    have t16 := N8 (16, tabObj #[]) (by simp)
    have t114 := N8 (114, tabObj #[]) (by simp)
    refine agrees_tells B' F8 X' T' rfl (by decide) (by decide) (fun p hp => N8 p ?_) (nt.mono fun d o z => ⟨(N8 _ (.tail _ (.tail _ (.tail _ (.tail _ z.1))))).1, z.2⟩) lenN okN (pr8.mono fr8) (fun p hp => ?_) (AG _ _ _ lenN okN l3 (szb _).1 (szb _).2 hrs) fun h9 tk9 kk g93 g16 g114 => ?_
    · simp only [List.mem_cons, List.not_mem_nil, or_false] at hp ⊢
      rcases hp with rfl | rfl | rfl <;> simp
    · refine hide fun hideG hideH => ?_
      obtain ⟨q1, q2, q3⟩ := hrs p hp
      refine hideH ?_; clear hideH hideG
      have := szb (ds2.getD (Int.toNat 0) 0)
      refine ⟨q1, q2, ?_⟩
      rcases q3 with q | q <;> (rw [q]; lia)
    refine hide fun hideG hideH => ?_
    obtain ⟨ps93, g93⟩ := g93
    obtain ⟨ps16, g16⟩ := g16
    obtain ⟨ps114, g114⟩ := g114
    refine hideH ?_; clear hideH hideG
    have F9 := Fr.mk (F8.ns.at' fun o e => kk _ o (Ne.symm t16.2.1) (Ne.symm t93.2.1) (Ne.symm t114.2.1) e) (fun b o e => kk b o (fun q => by rw [q, t16.2.2] at e; cases e) (fun q => by rw [q, t93.2.2] at e; cases e) (fun q => by rw [q, t114.2.2] at e; cases e) (F8.keep b o e)) F8.above
    have N9 : News _ _ h9 [(93, tabObj ps93), (16, tabObj ps16), (114, tabObj ps114)] := fun p hp => by
      simp only [List.mem_cons, List.not_mem_nil, or_false] at hp
      rcases hp with rfl | rfl | rfl
      · exact ⟨g93, t93.2⟩
      · exact ⟨g16, t16.2⟩
      · exact ⟨g114, t114.2⟩
    clear N8 F8 N7 F7
    k_steps
    all_goals trace_state
end Mine
end
section
open PySem PySem.W PySem.Calls PyProof.Rows PySem.Flt
set_option maxRecDepth 100000
set_option maxHeartbeats 0
namespace Mine
theorem sub_e8 : ∀ a, a < 9 → ∀ b, b < 9 → b ≤ a → Float64.sub (e8 a) (e8 b) = e8 (a - b) := by decide +kernel
theorem cmp_e8 : ∀ a, a < 9 → ∀ b, b < 9 → Float64.cmp (e8 a) (e8 b) = some (compare a b) := by decide +kernel
theorem add_e8 : ∀ a, a < 9 → ∀ b, b < 9 → Float64.add (e8 a) (e8 b) = Float64.ofFrac false (a + b) 8 := by decide +kernel
theorem half_e8 : ∀ k, k < 17 → Float64.div (Float64.ofFrac false k 8) 4611686018427387904 = Float64.ofFrac false k 16 := by decide +kernel
theorem rest_e8 : ∀ a, a < 9 → ∀ b, b < 9 → Float64.sub (Float64.sub 4611686018427387904 (e8 a)) (e8 b) = Float64.ofFrac false (16 - a - b) 8 := by decide +kernel
theorem zero_e8 : ∀ k, k < 17 → Float64.isZero (Float64.ofFrac false k 8) = decide (k = 0) := by decide +kernel
theorem low_16 : ∀ k, k < 17 → fle (Float64.ofFrac false k 16) 4602678819172646912 = decide (k ≤ 8) := by decide +kernel
/-- the shares: n of k eighths -/
theorem div_8 : ∀ n, n < 9 → ∀ k, k < 9 → 0 < k → n ≤ k → Float64.div (e8 n) (Float64.ofFrac false k 8) = Float64.ofFrac false (840 * n / k) 840 := by decide +kernel
end Mine
end
section
open PySem PySem.W PySem.Calls PyProof.Rows PySem.Flt
set_option maxRecDepth 100000
set_option maxHeartbeats 0
namespace Mine
/-- how far a part stands above the least one, in eighths -/
def partQ (n p c : Nat) : Nat :=
  let away := ((p : Int) - 2 * n * c).fmod (6 * n) |>.toNat
  min n (2 * n - min away (6 * n - away))
def hueQ (n q0 q1 q2 : Nat) : UInt64 :=
  let rc := Float64.div (e8 (n - q0)) (e8 n)
  let gc := Float64.div (e8 (n - q1)) (e8 n)
  let bc := Float64.div (e8 (n - q2)) (e8 n)
  let h := if q0 = n then Float64.sub bc gc else if q1 = n then Float64.sub (Float64.add 4611686018427387904 rc) bc else Float64.sub (Float64.add 4616189618054758400 gc) rc
  (Float64.divmod (Float64.div h 4618441417868443648) 4607182418800017408).2
def hueN (n p : Nat) : UInt64 := if n = 0 then 0 else hueQ n (partQ n p 0) (partQ n p 1) (partQ n p 2)
/-- the hues: K of 5040 and the float that both texts reckon -/
noncomputable def HL : List (Nat × UInt64) := [
  (0, 0), (105, 4581662020911584597), (120, 4582519849412036123), (140, 4583663620745971483),
  (168, 4584964660638322960), (210, 4586165620538955093), (240, 4587023449039406616), (280, 4588167220373341981),
  (315, 4589168020290535424), (336, 4589468260265693457), (360, 4589811391665874067), (420, 4590669220166325589),
  (480, 4591527048666777112), (504, 4591870180066957721), (525, 4592170420042115755), (560, 4592670820000712477),
  (600, 4593242705667680159), (630, 4593671619917905920), (672, 4593971859893063953), (700, 4594172019876502642),
  (720, 4594314991293244563), (735, 4594422219855801003), (840, 4595172819793696085), (945, 4595923419731591168),
  (960, 4596030648294147608), (980, 4596173619710889528), (1008, 4596373779694328219), (1050, 4596674019669486251),
  (1080, 4596888476794599131), (1120, 4597174419628082973), (1155, 4597424619607381333), (1176, 4597574739594960349),
  (1200, 4597746305295050653), (1260, 4598175219545276416), (1320, 4598389676670389296), (1344, 4598475459520434449),
  (1365, 4598550519514223957), (1400, 4598675619503873137), (1440, 4598818590920615059), (1470, 4598925819483171499),
  (1512, 4599075939470750515), (1540, 4599176019462469860), (1560, 4599247505170840820), (1575, 4599301119452119040),
  (1680, 4599676419421066581), (1785, 4600051719390014123), (1800, 4600105333671292343), (1820, 4600176819379663303),
  (1848, 4600276899371382648), (1890, 4600427019358961664), (1920, 4600534247921518104), (1960, 4600677219338260025),
  (1995, 4600802319327909205), (2016, 4600877379321698713), (2040, 4600963162171743867), (2100, 4601177619296856747),
  (2160, 4601392076421969628), (2184, 4601477859272014780), (2205, 4601552919265804288), (2240, 4601678019255453468),
  (2280, 4601820990672195389), (2310, 4601928219234751829), (2352, 4602078339222330845), (2380, 4602178419214050191),
  (2400, 4602249904922421151), (2415, 4602303519203699371), (2520, 4602678819172646912), (2625, 4602866469157120683),
  (2640, 4602893276297759793), (2660, 4602929019151945273), (2688, 4602979059147804945), (2730, 4603054119141594453),
  (2760, 4603107733422872673), (2800, 4603179219131243633), (2835, 4603241769126068224), (2856, 4603279299122962979),
  (2880, 4603322190547985555), (2940, 4603429419110541995), (3000, 4603536647673098435), (3024, 4603579539098121011),
  (3045, 4603617069095015765), (3080, 4603679619089840356), (3120, 4603751104798211316), (3150, 4603804719079489536),
  (3192, 4603879779073279044), (3220, 4603929819069138716), (3240, 4603965561923324196), (3255, 4603992369063963307),
  (3360, 4604180019048437077), (3465, 4604367669032910848), (3480, 4604394476173549959), (3500, 4604430219027735439),
  (3528, 4604480259023595111), (3570, 4604555319017384619), (3600, 4604608933298662839), (3640, 4604680419007033799),
  (3675, 4604742969001858389), (3696, 4604780498998753144), (3720, 4604823390423775720), (3780, 4604930618986332160),
  (3840, 4605037847548888600), (3864, 4605080738973911176), (3885, 4605118268970805931), (3920, 4605180818965630521),
  (3960, 4605252304674001481), (3990, 4605305918955279701), (4032, 4605380978949069209), (4060, 4605431018944928881),
  (4080, 4605466761799114361), (4095, 4605493568939753472), (4200, 4605681218924227243), (4305, 4605868868908701013),
  (4320, 4605895676049340123), (4340, 4605931418903525604), (4368, 4605981458899385276), (4410, 4606056518893174784),
  (4440, 4606110133174453004), (4480, 4606181618882823964), (4515, 4606244168877648555), (4536, 4606281698874543309),
  (4560, 4606324590299565885), (4620, 4606431818862122325), (4680, 4606539047424678766), (4704, 4606581938849701342),
  (4725, 4606619468846596096), (4760, 4606682018841420686), (4800, 4606753504549791646), (4830, 4606807118831069867),
  (4872, 4606882178824859375), (4900, 4606932218820719047), (4920, 4606967961674904527), (4935, 4606994768815543637)]
noncomputable def hueT (k : Nat) : UInt64 := (HL.lookup k).getD 0
theorem hue_tab : ∀ n, n < 9 → ∀ p, p < max 1 (6 * n) → hueN n p = hueT (840 * p / n) := by decide +kernel
/-- a float at a place of 5040, but for very little -/
def nearB (k : Nat) (x : UInt64) : Bool := Float64.isFinite x && !(Float64.signBit x) && decide ((5040 * Float64.val x - (k : Int) * 2 ^ 1074).natAbs ≤ 2 ^ 1040)
theorem hue_near : (HL.all fun p => nearB p.1 p.2 && decide (p.1 < 5040)) = true := by decide +kernel
theorem hue_keys : ∀ n, n < 9 → ∀ p, p < max 1 (6 * n) → (HL.lookup (840 * p / n)).isSome = true := by decide +kernel
/-- two places of the wheel are the same or 15 of 5040 apart -/
theorem hue_apart : (HL.all fun p => HL.all fun q => p.1 == q.1 || decide (p.1 + 15 ≤ q.1) || decide (q.1 + 15 ≤ p.1)) = true := by decide +kernel
end Mine
end
section
open PySem PySem.W PySem.Calls PyProof.Rows PySem.Flt PySem.Float64
set_option maxRecDepth 100000
set_option exponentiation.threshold 3000
namespace Mine
/-- near each number below 2^1075 stands a float's value, 2^1022 below at most -/
theorem rep_near {W : Nat} (h : W < 2 ^ 1075) : ∃ t, V t ≤ W ∧ W < V t + 2 ^ 1022 := by
  by_cases h0 : W / 2 ^ 1022 = 0
  · refine ⟨0, by rw [V_zero]; exact Nat.zero_le _, ?_⟩
    rw [V_zero, Nat.zero_add]
    exact (Nat.div_eq_zero_iff_lt (Nat.two_pow_pos _)).mp h0
  · have hq : W / 2 ^ 1022 < 2 ^ 53 := Nat.div_lt_of_lt_mul (by rw [← Nat.pow_add]; exact h)
    obtain ⟨j, hj, h1, h2⟩ : ∃ j, j ≤ 52 ∧ 2 ^ 52 ≤ W / 2 ^ 1022 * 2 ^ j ∧ W / 2 ^ 1022 * 2 ^ j < 2 ^ 53 := by
      have hl := Nat.log2_lt (n := W / 2 ^ 1022) (k := 53) h0
      have hlt : (W / 2 ^ 1022).log2 < 53 := hl.mpr hq
      refine ⟨52 - (W / 2 ^ 1022).log2, by lia, ?_, ?_⟩
      · have := Nat.log2_self_le h0
        have e : 2 ^ 52 = 2 ^ (W / 2 ^ 1022).log2 * 2 ^ (52 - (W / 2 ^ 1022).log2) := by rw [← Nat.pow_add]; congr 1; lia
        rw [e]
        exact Nat.mul_le_mul_right _ this
      · have := Nat.lt_log2_self (n := W / 2 ^ 1022)
        calc W / 2 ^ 1022 * 2 ^ (52 - (W / 2 ^ 1022).log2) < 2 ^ ((W / 2 ^ 1022).log2 + 1) * 2 ^ (52 - (W / 2 ^ 1022).log2) := Nat.mul_lt_mul_of_pos_right this (Nat.two_pow_pos _)
          _ = 2 ^ 53 := by rw [← Nat.pow_add]; congr 1; lia
    refine ⟨(1022 - j) * 2 ^ 52 + W / 2 ^ 1022 * 2 ^ j, ?_⟩
    rw [V_at (Nat.le_of_lt h2) (.inl h1)]
    have e : W / 2 ^ 1022 * 2 ^ j * 2 ^ (1022 - j) = 2 ^ 1022 * (W / 2 ^ 1022) := by
      rw [Nat.mul_assoc, ← Nat.pow_add, Nat.mul_comm]
      congr 2
      lia
    rw [e]
    have := Nat.div_add_mod W (2 ^ 1022)
    have hm := Nat.mod_lt W (Nat.two_pow_pos 1022)
    lia
theorem right_near {r : UInt64} {neg : Bool} {W : Nat} (h : Right r neg W 1) (hW : W < 2 ^ 1075) : ∃ t m e, decode r = .fin neg m e ∧ val r = sgn neg (V t) ∧ V t ≤ W + 2 ^ 1022 ∧ W ≤ V t + 2 ^ 1022 := by
  refine hide fun hideG hideH => ?_
  obtain ⟨t, hr, hle, hinf, hn⟩ := h
  refine hideH ?_; clear hideH hideG
  have hbig : 2 * W < (2 ^ 54 - 1) * 2 ^ 2045 := by
    have h1 : 2 * W < 2 ^ 1076 := by
      have e : (2 : Nat) ^ 1076 = 2 * 2 ^ 1075 := by rw [show (1076 : Nat) = 1 + 1075 from rfl, Nat.pow_add]
      rw [e]
      exact Nat.mul_lt_mul_of_pos_left hW (by decide)
    have h2 : (2 : Nat) ^ 1076 ≤ 2 ^ 2045 := Nat.pow_le_pow_right (by decide) (by decide)
    have h3 : 1 * 2 ^ 2045 ≤ (2 ^ 54 - 1) * 2 ^ 2045 := Nat.mul_le_mul_right _ (by decide)
    rw [Nat.one_mul] at h3
    exact Nat.lt_of_lt_of_le h1 (Nat.le_trans h2 h3)
  have hlt : t < infMag := by
    rcases Nat.lt_or_ge t infMag with q | q
    · exact q
    · have := hinf.mp (Nat.le_antisymm hle q)
      rw [Nat.one_mul] at this
      exact absurd this (Nat.not_le.mpr hbig)
  refine hide fun hideG hideH => ?_
  obtain ⟨t', h1, h2⟩ := rep_near hW
  refine hideH ?_; clear hideH hideG
  have hd := (hn hlt t').1
  rw [Nat.one_mul, Nat.one_mul] at hd
  unfold dist at hd
  refine hide fun hideG hideH => ?_
  obtain ⟨m, e, hdec, _⟩ := decode_pack neg hlt
  refine hideH ?_; clear hideH hideG
  have hv := val_pack neg hlt
  rw [← hr] at hdec hv
  refine ⟨t, m, e, hdec, hv, ?_, ?_⟩
  · generalize 2 ^ 1022 = B at *
    lia
  · generalize 2 ^ 1022 = B at *
    lia
theorem decode_one : decode 4607182418800017408 = .fin false (2 ^ 52) (-52) := by kernel_rfl
theorem fmod_one {d : UInt64} {a : Bool} {m : Nat} {e : Int} (hd : decode d = .fin a m e) (hlt : (val d).natAbs < 2 ^ 1074) : Right (fmod d 4607182418800017408) a (val d).natAbs 1 := by
  have he := decode_ge hd
  have hv := val_natAbs hd
  have hmod : fmod d 4607182418800017408 = ofBin a ((m * 2 ^ (e - min e (-52)).toNat) % (2 ^ 52 * 2 ^ (-52 - min e (-52)).toNat)) (min e (-52)) := by
    unfold fmod
    rw [hd, decode_one]
    rfl
  have hg : -1074 ≤ min e (-52) := by lia
  have hp : m * 2 ^ (e - min e (-52)).toNat * 2 ^ (min e (-52) + 1074).toNat = (val d).natAbs := by
    rw [hv, Nat.mul_assoc, ← Nat.pow_add]
    congr 2
    lia
  have hq : 2 ^ 52 * 2 ^ (-52 - min e (-52)).toNat * 2 ^ (min e (-52) + 1074).toNat = 2 ^ 1074 := by
    rw [← Nat.pow_add, ← Nat.pow_add]
    congr 1
    lia
  have hpq : m * 2 ^ (e - min e (-52)).toNat < 2 ^ 52 * 2 ^ (-52 - min e (-52)).toNat := by
    refine Nat.lt_of_mul_lt_mul_right (a := 2 ^ (min e (-52) + 1074).toNat) ?_
    rw [hp, hq]
    exact hlt
  rw [hmod, Nat.mod_eq_of_lt hpq]
  have hs := shift_one (m * 2 ^ (e - min e (-52)).toNat) (min e (-52)) 1074 (by lia)
  have hpos := shift_pos (m * 2 ^ (e - min e (-52)).toNat) 1 (min e (-52)) (by decide)
  have e1 : (min e (-52) + ((1074 : Nat) : Int)).toNat = (min e (-52) + 1074).toNat := rfl
  rw [e1, hp] at hs
  generalize hsh : shift (m * 2 ^ (e - min e (-52)).toNat) 1 (min e (-52)) = sh at hs hpos
  have hb : ofBin a (m * 2 ^ (e - min e (-52)).toNat) (min e (-52)) = ofFrac a sh.1 sh.2 := by
    unfold ofBin
    rw [hsh]
  rw [hb]
  exact ofFrac_right hpos (by rw [Nat.mul_one]; exact hs) (by decide)
theorem sgn_bounds {neg : Bool} {x y B : Nat} (h1 : x ≤ y + B) (h2 : y ≤ x + B) : (sgn neg x - sgn neg y).natAbs ≤ B := by
  unfold sgn
  cases neg <;> simp <;> lia
/-- the difference of two floats of [0, 1]: the zero, or near -/
theorem sub_near {x y : UInt64} {m k : Nat} {e f : Int} (hx : decode x = .fin false m e) (hy : decode y = .fin false k f) (h : (val x - val y).natAbs < 2 ^ 1075) :
    (val x = val y ∧ sub x y = zero false) ∨ (val x ≠ val y ∧ ∃ t m' e', decode (sub x y) = .fin (decide (val x - val y < 0)) m' e' ∧ val (sub x y) = sgn (decide (val x - val y < 0)) (V t) ∧ V t ≤ (val x - val y).natAbs + 2 ^ 1022 ∧ (val x - val y).natAbs ≤ V t + 2 ^ 1022) := by
  refine hide fun hideG hideH => ?_
  obtain ⟨a1, a2⟩ := sub_right hx hy
  refine hideH ?_; clear hideH hideG
  by_cases q : val x - val y = 0
  · exact .inl ⟨by lia, a1 q⟩
  · refine .inr ⟨by lia, ?_⟩
    refine hide fun hideG hideH => ?_
    obtain ⟨t, m', e', b1, b2, b3, b4⟩ := right_near (a2 q) h
    refine hideH ?_; clear hideH hideG
    exact ⟨t, m', e', b1, b2, b3, b4⟩
theorem divmod_two (x y : UInt64) : (divmod x y).2 = if isZero (fmod x y) = true then copysign (zero false) y else if (Float64.lt y (zero false) != Float64.lt (fmod x y) (zero false)) = true then add (fmod x y) y else fmod x y := by
  unfold divmod
  simp only
  by_cases h1 : isZero (fmod x y) = true
  · simp only [h1, if_true]
  · simp only [h1, if_false, Bool.false_eq_true]
    by_cases h2 : (Float64.lt y (zero false) != Float64.lt (fmod x y) (zero false)) = true
    · simp only [h2, if_true]
    · simp only [h2, if_false, Bool.false_eq_true]
def wayF (x y : UInt64) : UInt64 := (divmod (sub x y) 4607182418800017408).2
theorem way_same {x y : UInt64} {m k : Nat} {e f : Int} (hx : decode x = .fin false m e) (hy : decode y = .fin false k f) (h : val x = val y) : wayF x y = 0 := by
  have h1 := (sub_right hx hy).1 (by lia)
  unfold wayF
  rw [h1]
  decide +kernel
theorem val_zero : ∀ b, val (zero b) = 0 := by intro b; cases b <;> kernel_rfl
theorem decode_zero : decode (zero false) = .fin false 0 (-1074) := by kernel_rfl
theorem not_zero {x : UInt64} {a : Bool} {m : Nat} {e : Int} (hx : decode x = .fin a m e) (h : val x ≠ 0) : isZero x = false := by
  unfold isZero
  rw [hx]
  cases m with
  | zero =>
    exfalso
    apply h
    rw [val_eq hx]
    unfold sgn
    cases a <;> simp
  | succ m => rfl
theorem lt_zero {x : UInt64} {a : Bool} {m : Nat} {e : Int} (hx : decode x = .fin a m e) : Float64.lt x (zero false) = decide (val x < 0) := by
  unfold Float64.lt
  rw [cmp_right hx decode_zero, val_zero]
  rcases Int.lt_trichotomy (val x) 0 with q | q | q
  · rw [Int.compare_eq_lt.mpr q]; simp [q]
  · rw [q]; rfl
  · rw [Int.compare_eq_gt.mpr q]
    have : ¬ val x < 0 := by lia
    simp [this]
theorem lt_one : Float64.lt 4607182418800017408 (zero false) = false := by kernel_rfl
theorem pows : (2 : Nat) ^ 1024 = 4 * 2 ^ 1022 ∧ (2 : Nat) ^ 1075 = 2 * 2 ^ 1074 ∧ (2 : Nat) ^ 1024 ≤ 2 ^ 1074 := by
  refine ⟨?_, ?_, Nat.pow_le_pow_right (by decide) (by decide)⟩
  · rw [show (1024 : Nat) = 2 + 1022 from rfl, Nat.pow_add]
  · rw [show (1075 : Nat) = 1 + 1074 from rfl, Nat.pow_add]
theorem nat_w {n B T : Nat} (h2 : n + 4 * B ≤ T) (hB : 0 < B) : n < 2 * T := by lia
theorem nat_t {n B T t : Nat} (hB : 0 < B) (h2 : n + 4 * B ≤ T) (b1 : t ≤ n + B) : t < T := by lia
theorem nat_t2 {n B t t2 : Nat} (hB : 0 < B) (h1 : 4 * B ≤ n) (b2 : n ≤ t + B) (c2 : t ≤ t2 + B) : 0 < t2 := by lia
theorem nat_lt2 {T t : Nat} (h : t < T) : t < 2 * T := by lia
theorem nat_pos {n B : Nat} (hB : 0 < B) (h1 : 4 * B ≤ n) : 0 < n := by lia
theorem abs_two {x : Int} {B : Nat} (h : x.natAbs ≤ B) : -(B : Int) ≤ x ∧ x ≤ B := by lia
theorem abs_of {x : Int} {B : Nat} (h1 : -(B : Int) ≤ x) (h2 : x ≤ B) : x.natAbs ≤ B := by lia
theorem up_end {n B t t2 : Nat} (b1 : t ≤ n + B) (b2 : n ≤ t + B) (c1 : t2 ≤ t + B) (c2 : t ≤ t2 + B) : ((t2 : Int) - n).natAbs ≤ 2 * B := abs_of (by lia) (by lia)
/-- the way forth: the difference itself, or near -/
theorem way_up {x y : UInt64} {m k : Nat} {e f : Int} (hx : decode x = .fin false m e) (hy : decode y = .fin false k f) (h1 : ((2 ^ 1024 : Nat) : Int) ≤ val x - val y) (h2 : val x - val y + ((2 ^ 1024 : Nat) : Int) ≤ ((2 ^ 1074 : Nat) : Int)) :
    ∃ m' e', decode (wayF x y) = .fin false m' e' ∧ (val (wayF x y) - (val x - val y)).natAbs ≤ 2 * 2 ^ 1022 := by
  have hB : 0 < 2 ^ 1022 := Nat.two_pow_pos _
  refine hide fun hideG hideH => ?_
  obtain ⟨p1, p2, p3⟩ := pows
  obtain ⟨n, hn⟩ := Int.eq_ofNat_of_zero_le (Int.le_trans (Int.natCast_nonneg _) h1)
  refine hideH ?_; clear hideH hideG
  rw [hn] at h1 h2 ⊢
  have h1' : 4 * 2 ^ 1022 ≤ n := p1 ▸ Int.ofNat_le.mp h1
  have h2' : n + 4 * 2 ^ 1022 ≤ 2 ^ 1074 := p1 ▸ Int.ofNat_le.mp h2
  have hpos := nat_pos hB h1'
  have hW : (val x - val y).natAbs < 2 ^ 1075 := by rw [hn, p2]; exact nat_w h2' hB
  rcases sub_near hx hy hW with ⟨q, _⟩ | ⟨q, t, m1, e1, d1, v1, b1, b2⟩
  · exfalso
    rw [q, Int.sub_self] at hn
    exact Nat.ne_of_gt hpos (Int.ofNat.inj hn).symm
  rw [hn] at b1 b2 d1 v1
  have b1' : V t ≤ n + 2 ^ 1022 := b1
  have b2' : n ≤ V t + 2 ^ 1022 := b2
  have hneg : decide ((n : Int) < 0) = false := decide_eq_false (Int.not_lt.mpr (Int.natCast_nonneg _))
  rw [hneg] at d1 v1
  have v1' : val (sub x y) = (V t : Int) := v1
  have hl : (val (sub x y)).natAbs < 2 ^ 1074 := by rw [v1']; exact nat_t hB h2' b1'
  refine hide fun hideG hideH => ?_
  obtain ⟨t2, m2, e2, d2, v2, c1, c2⟩ := right_near (fmod_one d1 hl) (by rw [p2]; exact nat_lt2 hl)
  refine hideH ?_; clear hideH hideG
  rw [v1'] at c1 c2
  have v2' : val (fmod (sub x y) 4607182418800017408) = (V t2 : Int) := v2
  have ht2 : 0 < V t2 := nat_t2 hB h1' b2' c2
  have hz : isZero (fmod (sub x y) 4607182418800017408) = false := not_zero d2 (by rw [v2']; exact fun q => Nat.ne_of_gt ht2 (Int.ofNat.inj q))
  have hlt : Float64.lt (fmod (sub x y) 4607182418800017408) (zero false) = false := by rw [lt_zero d2, v2']; exact decide_eq_false (Int.not_lt.mpr (Int.natCast_nonneg _))
  have hw : wayF x y = fmod (sub x y) 4607182418800017408 := by
    unfold wayF
    rw [divmod_two, hz, hlt, lt_one]
    rfl
  rw [hw]
  exact ⟨m2, e2, d2, by rw [v2']; exact up_end b1' b2' c1 c2⟩
theorem val_one : val 4607182418800017408 = ((2 ^ 1074 : Nat) : Int) := by kernel_rfl
theorem dn_sum {T t2 : Nat} (h : t2 < T) : -(t2 : Int) + (T : Int) ≠ 0 ∧ ¬ -(t2 : Int) + (T : Int) < 0 := ⟨by lia, by lia⟩
theorem dn_w {T t2 : Nat} (h : t2 < T) : (-(t2 : Int) + (T : Int)).natAbs < 2 * T := by lia
theorem nat_t3 {n B T t t2 : Nat} (hB : 0 < B) (h2 : n + 4 * B ≤ T) (b1 : t ≤ n + B) (c1 : t2 ≤ t + B) : t2 < T := by lia
theorem dn_abs {T t2 : Nat} (h : t2 < T) : (-(t2 : Int) + (T : Int)).natAbs = T - t2 := by lia
theorem dn_end {n B T t t2 t3 : Nat} (h : t2 < T) (b1 : t ≤ n + B) (b2 : n ≤ t + B) (c1 : t2 ≤ t + B) (c2 : t ≤ t2 + B) (g1 : t3 ≤ T - t2 + B) (g2 : T - t2 ≤ t3 + B) : ((t3 : Int) - (-(n : Int) + T)).natAbs ≤ 3 * B := abs_of (by lia) (by lia)
/-- the way back: the difference and a whole turn, or near -/
theorem way_down {x y : UInt64} {m k : Nat} {e f : Int} (hx : decode x = .fin false m e) (hy : decode y = .fin false k f) (h1 : ((2 ^ 1024 : Nat) : Int) ≤ val y - val x) (h2 : val y - val x + ((2 ^ 1024 : Nat) : Int) ≤ ((2 ^ 1074 : Nat) : Int)) :
    ∃ m' e', decode (wayF x y) = .fin false m' e' ∧ (val (wayF x y) - (val x - val y + ((2 ^ 1074 : Nat) : Int))).natAbs ≤ 3 * 2 ^ 1022 := by
  have hB : 0 < 2 ^ 1022 := Nat.two_pow_pos _
  have vo := val_one
  refine hide fun hideG hideH => ?_
  obtain ⟨p1, p2, p3⟩ := pows
  obtain ⟨n, hn'⟩ := Int.eq_ofNat_of_zero_le (Int.le_trans (Int.natCast_nonneg _) h1)
  refine hideH ?_; clear hideH hideG
  have hn : val x - val y = -(n : Int) := by rw [← hn', Int.neg_sub]
  rw [hn'] at h1 h2
  rw [hn]
  have h1' : 4 * 2 ^ 1022 ≤ n := p1 ▸ Int.ofNat_le.mp h1
  have h2' : n + 4 * 2 ^ 1022 ≤ 2 ^ 1074 := p1 ▸ Int.ofNat_le.mp h2
  have hpos := nat_pos hB h1'
  have hW : (val x - val y).natAbs < 2 ^ 1075 := by rw [hn, p2, Int.natAbs_neg]; exact nat_w h2' hB
  rcases sub_near hx hy hW with ⟨q, _⟩ | ⟨q, t, m1, e1, d1, v1, b1, b2⟩
  · exfalso
    rw [q, Int.sub_self] at hn'
    exact Nat.ne_of_gt hpos (Int.ofNat.inj hn').symm
  rw [hn] at b1 b2 d1 v1
  rw [Int.natAbs_neg] at b1 b2
  have b1' : V t ≤ n + 2 ^ 1022 := b1
  have b2' : n ≤ V t + 2 ^ 1022 := b2
  have hneg : decide (-(n : Int) < 0) = true := decide_eq_true (Int.neg_neg_of_pos (Int.natCast_pos.mpr hpos))
  rw [hneg] at d1 v1
  have v1' : val (sub x y) = -(V t : Int) := v1
  have hl : (val (sub x y)).natAbs < 2 ^ 1074 := by rw [v1', Int.natAbs_neg]; exact nat_t hB h2' b1'
  refine hide fun hideG hideH => ?_
  obtain ⟨t2, m2, e2, d2, v2, c1, c2⟩ := right_near (fmod_one d1 hl) (by rw [p2]; exact nat_lt2 hl)
  refine hideH ?_; clear hideH hideG
  rw [v1', Int.natAbs_neg] at c1 c2
  have v2' : val (fmod (sub x y) 4607182418800017408) = -(V t2 : Int) := v2
  have ht2 : 0 < V t2 := nat_t2 hB h1' b2' c2
  have ht3 : V t2 < 2 ^ 1074 := nat_t3 hB h2' b1' c1
  have hneg2 : -(V t2 : Int) < 0 := Int.neg_neg_of_pos (Int.natCast_pos.mpr ht2)
  have hz : isZero (fmod (sub x y) 4607182418800017408) = false := not_zero d2 (by rw [v2']; exact Int.ne_of_lt hneg2)
  have hlt : Float64.lt (fmod (sub x y) 4607182418800017408) (zero false) = true := by rw [lt_zero d2, v2']; exact decide_eq_true hneg2
  have hw : wayF x y = add (fmod (sub x y) 4607182418800017408) 4607182418800017408 := by
    unfold wayF
    rw [divmod_two, hz, hlt, lt_one]
    rfl
  have ds := dn_sum ht3
  have hnz : val (fmod (sub x y) 4607182418800017408) + val 4607182418800017408 ≠ 0 := by rw [v2', vo]; exact ds.1
  have ar := (add_right d2 decode_one).2 hnz
  have hn2 : decide (val (fmod (sub x y) 4607182418800017408) + val 4607182418800017408 < 0) = false := by rw [v2', vo]; exact decide_eq_false ds.2
  rw [hn2] at ar
  refine hide fun hideG hideH => ?_
  obtain ⟨t3, m3, e3, d3, v3, g1, g2⟩ := right_near ar (by rw [v2', vo, p2]; exact dn_w ht3)
  refine hideH ?_; clear hideH hideG
  rw [v2', vo, dn_abs ht3] at g1 g2
  have v3' : val (add (fmod (sub x y) 4607182418800017408) 4607182418800017408) = (V t3 : Int) := v3
  rw [hw]
  exact ⟨m3, e3, d3, by rw [v3']; exact dn_end ht3 b1' b2' c1 c2 g1 g2⟩
end Mine
end
section
open PySem PySem.W PySem.Calls PyProof.Rows PySem.Flt PySem.Float64
set_option maxRecDepth 100000
set_option maxHeartbeats 0
namespace Mine
theorem asc_840 : ((List.range 840).all fun k => Float64.cmp (Float64.ofFrac false k 840) (Float64.ofFrac false (k + 1) 840) == some .lt) = true := by decide +kernel
theorem asc_16 : ((List.range 16).all fun k => Float64.cmp (Float64.ofFrac false k 16) (Float64.ofFrac false (k + 1) 16) == some .lt) = true := by decide +kernel
theorem fin_840 : ((List.range 841).all fun k => Float64.isFinite (Float64.ofFrac false k 840)) = true := by decide +kernel
theorem fin_16 : ((List.range 17).all fun k => Float64.isFinite (Float64.ofFrac false k 16)) = true := by decide +kernel
theorem fin_dec {x : UInt64} (h : Float64.isFinite x = true) : ∃ a m e, decode x = .fin a m e := by
  unfold Float64.isFinite at h
  cases q : decode x with
  | nan => rw [q] at h; cases h
  | inf b => rw [q] at h; cases h
  | fin a m e => exact ⟨a, m, e, rfl⟩
theorem cmp_val {x y : UInt64} (hx : Float64.isFinite x = true) (hy : Float64.isFinite y = true) : Float64.cmp x y = some (compare (val x) (val y)) := by
  refine hide fun hideG hideH => ?_
  obtain ⟨a, m, e, h1⟩ := fin_dec hx
  obtain ⟨b, k, f, h2⟩ := fin_dec hy
  refine hideH ?_; clear hideH hideG
  exact cmp_right h1 h2
/-- a ladder of floats: the order of the steps is the order of the floats -/
theorem ladder {f : Nat → UInt64} {N : Nat} (hf : ∀ k, k ≤ N → Float64.isFinite (f k) = true) (ha : ∀ k, k < N → Float64.cmp (f k) (f (k + 1)) = some .lt) : ∀ d i, i + d + 1 ≤ N → val (f i) < val (f (i + d + 1))
  | 0, i, h => by
    have := ha i (by lia)
    rw [cmp_val (hf i (by lia)) (hf (i + 1) h)] at this
    exact Int.compare_eq_lt.mp (Option.some.inj this)
  | d + 1, i, h => Int.lt_trans (ladder hf ha d i (by lia)) (by
    have := ha (i + d + 1) (by lia)
    rw [cmp_val (hf _ (by lia)) (hf _ (by lia))] at this
    exact Int.compare_eq_lt.mp (Option.some.inj this))
theorem ladder_cmp {f : Nat → UInt64} {N : Nat} (hf : ∀ k, k ≤ N → Float64.isFinite (f k) = true) (ha : ∀ k, k < N → Float64.cmp (f k) (f (k + 1)) = some .lt) {i j : Nat} (hi : i ≤ N) (hj : j ≤ N) : Float64.cmp (f i) (f j) = some (compare i j) := by
  rw [cmp_val (hf i hi) (hf j hj)]
  congr 1
  rcases Nat.lt_trichotomy i j with h | h | h
  · have := ladder hf ha (j - i - 1) i (by lia)
    rw [show i + (j - i - 1) + 1 = j by lia] at this
    rw [Int.compare_eq_lt.mpr this, Nat.compare_eq_lt.mpr h]
  · subst h
    simp
  · have := ladder hf ha (i - j - 1) j (by lia)
    rw [show j + (i - j - 1) + 1 = i by lia] at this
    rw [Int.compare_eq_gt.mpr this, Nat.compare_eq_gt.mpr h]
end Mine
end
section
open PySem PySem.W PySem.Calls PyProof.Rows PySem.Flt PySem.Float64
set_option maxRecDepth 100000
set_option maxHeartbeats 400000
set_option exponentiation.threshold 3000
namespace Mine
theorem dec_sign {x : UInt64} {a : Bool} {m : Nat} {e : Int} (h : decode x = .fin a m e) : a = signBit x := by
  unfold decode at h
  simp only at h
  split at h
  · split at h <;> cases h
  · split at h
    · injection h with h1 _ _; (unfold signBit; exact h1.symm)
    · injection h with h1 _ _; (unfold signBit; exact h1.symm)
theorem hue_dec {k : Nat} {x : UInt64} (h : (k, x) ∈ HL) : k < 5040 ∧ (∃ m e, decode x = .fin false m e) ∧ (5040 * val x - (k : Int) * 2 ^ 1074).natAbs ≤ 2 ^ 1040 := by
  have h1 := List.all_eq_true.mp hue_near (k, x) h
  rw [Bool.and_eq_true] at h1
  refine hide fun hideG hideH => ?_
  obtain ⟨h2, h3⟩ := h1
  refine hideH ?_; clear hideH hideG
  unfold nearB at h2
  rw [Bool.and_eq_true, Bool.and_eq_true] at h2
  refine hide fun hideG hideH => ?_
  obtain ⟨⟨h4, h5⟩, h6⟩ := h2
  refine hideH ?_; clear hideH hideG
  refine ⟨of_decide_eq_true h3, ?_, of_decide_eq_true h6⟩
  refine hide fun hideG hideH => ?_
  obtain ⟨a, m, e, hd⟩ := fin_dec h4
  refine hideH ?_; clear hideH hideG
  have := dec_sign hd
  rw [Bool.not_eq_true'] at h5
  rw [h5] at this
  subst this
  exact ⟨m, e, hd⟩
theorem hue_apart' {k l : Nat} {x y : UInt64} (h : (k, x) ∈ HL) (h2 : (l, y) ∈ HL) : k = l ∨ k + 15 ≤ l ∨ l + 15 ≤ k := by
  have h1 := List.all_eq_true.mp (List.all_eq_true.mp hue_apart (k, x) h) (l, y) h2
  rw [Bool.or_eq_true, Bool.or_eq_true] at h1
  rcases h1 with (q | q) | q
  · exact .inl (eq_of_beq q)
  · exact .inr (.inl (of_decide_eq_true q))
  · exact .inr (.inr (of_decide_eq_true q))
end Mine
end
section
open PySem PySem.W PySem.Calls PyProof.Rows PySem.Flt PySem.Float64
set_option maxRecDepth 100000
set_option maxHeartbeats 400000
set_option exponentiation.threshold 3000
namespace Mine
theorem pows2 : (2 : Nat) ^ 1074 = 1125899906842624 * 2 ^ 1024 ∧ (2 : Nat) ^ 1040 = 65536 * 2 ^ 1024 ∧ (2 : Nat) ^ 1024 = 4 * 2 ^ 1022 := by
  refine ⟨?_, ?_, ?_⟩
  · rw [show (1074 : Nat) = 50 + 1024 from rfl, Nat.pow_add]
  · rw [show (1040 : Nat) = 16 + 1024 from rfl, Nat.pow_add]
  · rw [show (1024 : Nat) = 2 + 1022 from rfl, Nat.pow_add]
theorem mul_gap {k l : Nat} (T : Nat) (h : k + 15 ≤ l) (hl : l < 5040) : 15 * (T : Int) ≤ (l : Int) * (T : Int) - (k : Int) * (T : Int) ∧ (l : Int) * (T : Int) - (k : Int) * (T : Int) ≤ 5039 * (T : Int) := by
  rw [← Int.sub_mul]
  have hT : (0 : Int) ≤ (T : Int) := Int.natCast_nonneg _
  exact ⟨Int.mul_le_mul_of_nonneg_right (by lia) hT, Int.mul_le_mul_of_nonneg_right (by lia) hT⟩
theorem wn_lo {B D T kT lT vx vy : Int} (hD : D = 262144 * B) (hT : 1000000 * B ≤ T) (hB : 0 < B) (a2 : 5040 * vx - kT ≤ D) (b1 : -D ≤ 5040 * vy - lT) (g1 : 15 * T ≤ lT - kT) : 4 * B ≤ vy - vx := by lia
theorem wn_hi {B D T kT lT vx vy : Int} (hD : D = 262144 * B) (hT : 1000000 * B ≤ T) (hB : 0 < B) (a2 : -D ≤ 5040 * vx - kT) (b1 : 5040 * vy - lT ≤ D) (g1 : lT - kT ≤ 5039 * T) : vy - vx + 4 * B ≤ T := by lia
theorem wn_up {B D kT lT vx vy u w : Int} (hD : D = 262144 * B) (hB : 0 < B) (a2 : 5040 * vx - kT ≤ D) (b1 : -D ≤ 5040 * vy - lT) (g1 : w - (vx - vy + u) ≤ 3 * B) : 5040 * w - (kT + 5040 * u - lT) ≤ 1310720 * B := by lia
theorem wn_dn {B D kT lT vx vy u w : Int} (hD : D = 262144 * B) (hB : 0 < B) (a2 : -D ≤ 5040 * vx - kT) (b1 : 5040 * vy - lT ≤ D) (g1 : -(3 * B) ≤ w - (vx - vy + u)) : -(1310720 * B) ≤ 5040 * w - (kT + 5040 * u - lT) := by lia
/-- what is left of the ways' sums -/
theorem wn_all {B D T : Nat} {kT lT vx vy : Int} (hD : D = 262144 * B) (hT : 1000000 * B ≤ T) (hB : 0 < B) (n1 : (5040 * vx - kT).natAbs ≤ D) (n2 : (5040 * vy - lT).natAbs ≤ D) :
    (15 * (T : Int) ≤ lT - kT → ((4 * B : Nat) : Int) ≤ vy - vx) ∧ (lT - kT ≤ 5039 * (T : Int) → vy - vx + ((4 * B : Nat) : Int) ≤ (T : Int)) ∧
    ∀ u w : Int, (w - (vx - vy + u)).natAbs ≤ 3 * B → (5040 * w - (kT + 5040 * u - lT)).natAbs ≤ 1310720 * B := by
  have a := abs_two n1
  have b := abs_two n2
  have hD' : (D : Int) = 262144 * (B : Int) := by rw [hD]; rfl
  have hT' : 1000000 * (B : Int) ≤ (T : Int) := Int.ofNat_le.mpr hT
  have hB' : 0 < (B : Int) := Int.natCast_pos.mpr hB
  refine ⟨fun g => wn_lo hD' hT' hB' a.2 b.1 g, fun g => wn_hi hD' hT' hB' a.1 b.2 g, fun u w g => ?_⟩
  have g' := abs_two g
  exact abs_of (wn_dn hD' hB' a.1 b.2 g'.1) (wn_up hD' hB' a.2 b.1 g'.2)
theorem hB_T : 1000000 * 2 ^ 1022 ≤ 2 ^ 1074 := by
  rw [show (1074 : Nat) = 52 + 1022 from rfl, Nat.pow_add]
  exact Nat.mul_le_mul_right _ (by decide)
theorem k_less {k l : Nat} (q : k + 15 ≤ l) (hl : l < 5040) : (k + 5040 - l) % 5040 = k + 5040 - l ∧ ((k + 5040 - l : Nat) : Int) = (k : Int) + 5040 - l := ⟨Nat.mod_eq_of_lt (by lia), by lia⟩
theorem k_more {k l : Nat} (q : l + 15 ≤ k) (hk : k < 5040) : (k + 5040 - l) % 5040 = k - l ∧ ((k - l : Nat) : Int) = (k : Int) - l :=
  ⟨by rw [show k + 5040 - l = (k - l) + 5040 by lia, Nat.add_mod_right]; exact Nat.mod_eq_of_lt (by lia), by lia⟩
theorem five_B : 5 * 2 ^ 1040 = 1310720 * 2 ^ 1022 := by
  rw [show (1040 : Nat) = 18 + 1022 from rfl, Nat.pow_add, ← Nat.mul_assoc]
theorem two_B : 2 ^ 1040 = 262144 * 2 ^ 1022 := by
  rw [show (1040 : Nat) = 18 + 1022 from rfl, Nat.pow_add]
/-- the way between two hues that differ, as a float: near its place of 5040 -/
theorem way_near {k l : Nat} {x y : UInt64} (h : (k, x) ∈ HL) (h2 : (l, y) ∈ HL) (hne : k ≠ l) :
    ∃ m e, decode (wayF x y) = .fin false m e ∧ (5040 * val (wayF x y) - (((k + 5040 - l) % 5040 : Nat) : Int) * ((2 ^ 1074 : Nat) : Int)).natAbs ≤ 5 * 2 ^ 1040 := by
  refine hide fun hideG hideH => ?_
  obtain ⟨hk, ⟨m1, e1, d1⟩, n1⟩ := hue_dec h
  obtain ⟨hl, ⟨m2, e2, d2⟩, n2⟩ := hue_dec h2
  refine hideH ?_; clear hideH hideG
  have c1 : ((2 : Int) ^ 1074) = ((2 ^ 1074 : Nat) : Int) := by rw [Int.natCast_pow]; rfl
  rw [c1] at n1 n2
  have p3 := pows.1
  have wn := wn_all two_B hB_T (Nat.two_pow_pos _) n1 n2
  have wm := wn_all two_B hB_T (Nat.two_pow_pos _) n2 n1
  rw [← p3] at wn wm
  rw [five_B]
  rcases hue_apart' h h2 with q | q | q
  · exact absurd q hne
  · have c := k_less q hl
    rw [c.1, c.2, Int.sub_mul, Int.add_mul]
    have g := mul_gap (2 ^ 1074) q hl
    refine hide fun hideG hideH => ?_
    obtain ⟨m, e, hd, hv⟩ := way_down d1 d2 (wn.1 g.1) (wn.2.1 g.2)
    refine hideH ?_; clear hideH hideG
    exact ⟨m, e, hd, wn.2.2 _ _ hv⟩
  · have c := k_more q hk
    rw [c.1, c.2, Int.sub_mul]
    have g := mul_gap (2 ^ 1074) q hk
    refine hide fun hideG hideH => ?_
    obtain ⟨m, e, hd, hv⟩ := way_up d1 d2 (wm.1 g.1) (wm.2.1 g.2)
    refine hideH ?_; clear hideH hideG
    refine ⟨m, e, hd, ?_⟩
    have z := wn.2.2 0 _ (by rw [Int.add_zero]; exact Nat.le_trans hv (Nat.mul_le_mul_right _ (by decide)))
    rw [Int.mul_zero, Int.add_zero] at z
    exact z
end Mine
end
section
open PySem PySem.W PySem.Calls PyProof.Rows PySem.Flt
set_option maxRecDepth 100000
set_option maxHeartbeats 0
namespace Mine
def lumaOk (r : Nat) : Bool := (List.range 9).all fun g => (List.range 9).all fun b => lumaI (e8 r) (e8 g) (e8 b) == 30 * r + 59 * g + 11 * b && Float64.isFinite (luma8 (e8 r) (e8 g) (e8 b))
theorem lumaOk0 : lumaOk 0 = true := by decide +kernel
theorem lumaOk1 : lumaOk 1 = true := by decide +kernel
theorem lumaOk2 : lumaOk 2 = true := by decide +kernel
theorem lumaOk3 : lumaOk 3 = true := by decide +kernel
theorem lumaOk4 : lumaOk 4 = true := by decide +kernel
theorem lumaOk5 : lumaOk 5 = true := by decide +kernel
theorem lumaOk6 : lumaOk 6 = true := by decide +kernel
theorem lumaOk7 : lumaOk 7 = true := by decide +kernel
theorem lumaOk8 : lumaOk 8 = true := by decide +kernel
theorem luma_ok : ∀ r, r < 9 → lumaOk r = true
  | 0, _ => lumaOk0
  | 1, _ => lumaOk1
  | 2, _ => lumaOk2
  | 3, _ => lumaOk3
  | 4, _ => lumaOk4
  | 5, _ => lumaOk5
  | 6, _ => lumaOk6
  | 7, _ => lumaOk7
  | 8, _ => lumaOk8
  | r + 9, h => absurd h (by lia)
theorem luma_e8 {r g b : Nat} (hr : r < 9) (hg : g < 9) (hb : b < 9) : lumaI (e8 r) (e8 g) (e8 b) = 30 * r + 59 * g + 11 * b ∧ Float64.isFinite (luma8 (e8 r) (e8 g) (e8 b)) = true := by
  have h := luma_ok r hr
  unfold lumaOk at h
  have h1 := List.all_eq_true.mp h g (List.mem_range.mpr hg)
  have h2 := List.all_eq_true.mp h1 b (List.mem_range.mpr hb)
  rw [Bool.and_eq_true] at h2
  exact ⟨eq_of_beq h2.1, h2.2⟩
end Mine
end
section
open PySem PySem.W PySem.Calls PyProof.Rows PySem.Flt PySem.Float64
set_option maxRecDepth 100000
namespace Mine
theorem partQ_all : ∀ n, n < 9 → ∀ p, p < max 1 (6 * n) → max (max (partQ n p 0) (partQ n p 1)) (partQ n p 2) = n ∧ min (min (partQ n p 0) (partQ n p 1)) (partQ n p 2) = 0 := by decide +kernel
theorem min_nat (a b : Nat) : min (a : Int) b = ((min a b : Nat) : Int) := by lia
theorem max_sub (a b : Nat) : max 0 ((a : Int) - b) = ((a - b : Nat) : Int) := by lia
theorem sub_nat {a b : Nat} (h : b ≤ a) : (a : Int) - b = ((a - b : Nat) : Int) := (Int.ofNat_sub h).symm
theorem partF_nat {n m p c : Nat} : partF n m p c = ((m + partQ n p c : Nat) : Int) := by
  unfold partF partQ
  by_cases h : n = 0
  · subst h
    rw [if_pos (Int.natCast_eq_zero.mpr rfl)]
    show (m : Int) = ((m + min 0 _ : Nat) : Int)
    rw [Nat.zero_min, Nat.add_zero]
  · have h0 : (0 : Int) < 6 * n := Int.mul_pos (by decide) (Int.natCast_pos.mpr (Nat.pos_of_ne_zero h))
    rw [if_neg (fun q => h (Int.natCast_eq_zero.mp q))]
    have h1 := Int.toNat_of_nonneg (Int.fmod_nonneg_of_pos ((p : Int) - 2 * n * c) h0)
    have h2 := Int.fmod_lt_of_pos ((p : Int) - 2 * n * c) h0
    rw [← h1] at h2 ⊢
    generalize (Int.fmod ((p : Int) - 2 * n * c) (6 * n)).toNat = k at h2 ⊢
    have h3 : k ≤ 6 * n := Nat.le_of_lt (Int.ofNat_lt.mp h2)
    have e1 : (6 : Int) * n - k = ((6 * n - k : Nat) : Int) := sub_nat h3
    have e2 : (2 : Int) * n = ((2 * n : Nat) : Int) := rfl
    rw [e1, min_nat, e2, max_sub, min_nat]
    rfl
theorem fmx_e8 : ∀ a, a < 9 → ∀ b, b < 9 → fmx (e8 a) (e8 b) = e8 (max a b) := by decide +kernel
theorem fmn_e8 : ∀ a, a < 9 → ∀ b, b < 9 → fmn (e8 a) (e8 b) = e8 (min a b) := by decide +kernel
theorem feq_e8 : ∀ a, a < 9 → ∀ b, b < 9 → feq (e8 a) (e8 b) = decide (a = b) := by decide +kernel
theorem hueF_eq {n m a b c : Nat} (h : m + n ≤ 8) (ha : a ≤ n) (hb : b ≤ n) (hc : c ≤ n) : hueF (e8 (m + a)) (e8 (m + b)) (e8 (m + c)) (e8 (m + n)) (e8 m) = hueQ n a b c := by
  have s1 : ∀ x, x ≤ n → Float64.sub (e8 (m + n)) (e8 (m + x)) = e8 (n - x) := fun x hx => by
    rw [sub_e8 (m + n) (by lia) (m + x) (by lia) (by lia)]
    congr 1
    lia
  have s2 : Float64.sub (e8 (m + n)) (e8 m) = e8 n := by
    rw [sub_e8 (m + n) (by lia) m (by lia) (by lia)]
    congr 1
    lia
  unfold hueF hueQ
  simp only [s1 a ha, s1 b hb, s1 c hc, s2, feq_e8 (m + a) (by lia) (m + n) (by lia), feq_e8 (m + b) (by lia) (m + n) (by lia), decide_eq_true_eq]
  by_cases q1 : a = n
  · rw [if_pos (by lia), if_pos q1]
  · rw [if_neg (by lia), if_neg q1]
    by_cases q2 : b = n
    · rw [if_pos (by lia), if_pos q2]
    · rw [if_neg (by lia), if_neg q2]
theorem zero_840 : Float64.ofFrac false 0 840 = 0 := by decide +kernel
/-- the paler half's width -/
def paleN (n m : Nat) : Nat := max 1 (min (2 * m + n) (16 - 2 * m - n))
theorem light_eq {n m : Nat} (h : m + n ≤ 8) : Float64.div (Float64.add (e8 (m + n)) (e8 m)) 4611686018427387904 = Float64.ofFrac false (2 * m + n) 16 := by
  rw [add_e8 (m + n) (by lia) m (by lia), half_e8 _ (by lia)]
  congr 1
  lia
theorem pale_lo {n m : Nat} (h0 : 0 < n) (q : 2 * m + n ≤ 8) : paleN n m = m + n + m := by
  unfold paleN
  rw [Nat.min_eq_left (by lia), Nat.max_eq_right (by lia)]
  lia
theorem pale_hi {n m : Nat} (h : m + n ≤ 8) (q : ¬ 2 * m + n ≤ 8) (h0 : 0 < n) : paleN n m = 16 - (m + n) - m := by
  unfold paleN
  rw [Nat.min_eq_right (by lia), Nat.max_eq_right (by lia)]
  lia
theorem sat_a {n m : Nat} (h : m + n ≤ 8) (h0 : 0 < n) (q : 2 * m + n ≤ 8) : n ≤ 8 ∧ n ≤ m + n + m ∧ 0 < m + n + m ∧ m + n + m ≤ 8 := by lia
theorem sat_b {n m : Nat} (h : m + n ≤ 8) (h0 : 0 < n) (q : ¬ 2 * m + n ≤ 8) : n ≤ 8 ∧ n ≤ 16 - (m + n) - m ∧ 0 < 16 - (m + n) - m ∧ 16 - (m + n) - m ≤ 8 := by lia
theorem sat_eq {n m : Nat} (h : m + n ≤ 8) (h0 : 0 < n) : satF (e8 (m + n)) (e8 m) = Float64.ofFrac false (840 * n / paleN n m) 840 := by
  have s2 : Float64.sub (e8 (m + n)) (e8 m) = e8 n := by
    rw [sub_e8 (m + n) (by lia) m (by lia) (by lia)]
    congr 1
    lia
  unfold satF
  rw [light_eq h, low_16 _ (by lia), s2, add_e8 (m + n) (by lia) m (by lia), rest_e8 (m + n) (by lia) m (by lia)]
  by_cases q : 2 * m + n ≤ 8
  · rw [if_pos (decide_eq_true q), pale_lo h0 q]
    have z := sat_a h h0 q
    exact div_8 n (Nat.lt_succ_of_le z.1) _ (Nat.lt_succ_of_le z.2.2.2) z.2.2.1 z.2.1
  · rw [if_neg (by simpa using q), pale_hi h q h0]
    have z := sat_b h h0 q
    exact div_8 n (Nat.lt_succ_of_le z.1) _ (Nat.lt_succ_of_le z.2.2.2) z.2.2.1 z.2.1
theorem hls_eq {n m p : Nat} (h : m + n ≤ 8) (hp : p < max 1 (6 * n)) : hls3 (e8 (m + partQ n p 0)) (e8 (m + partQ n p 1)) (e8 (m + partQ n p 2)) (e8 (m + n)) (e8 m) = (hueN n p, Float64.ofFrac false (2 * m + n) 16, Float64.ofFrac false (840 * n / paleN n m) 840) := by
  refine hide fun hideG hideH => ?_
  obtain ⟨h1, h2⟩ := partQ_all n (by lia) p hp
  refine hideH ?_; clear hideH hideG
  unfold hls3
  rw [feq_e8 m (by lia) (m + n) (by lia), light_eq h]
  by_cases q : n = 0
  · subst q
    rw [if_pos (by simp)]
    unfold hueN
    rw [if_pos rfl, Nat.mul_zero, Nat.zero_div, zero_840]
  · rw [if_neg (by simpa using q), hueF_eq h (by lia) (by lia) (by lia), sat_eq h (by lia)]
    unfold hueN
    rw [if_neg q]
theorem hsv_eq {n m p : Nat} (h : m + n ≤ 8) (hp : p < max 1 (6 * n)) : hsv3 (e8 (m + partQ n p 0)) (e8 (m + partQ n p 1)) (e8 (m + partQ n p 2)) (e8 (m + n)) (e8 m) = (hueN n p, Float64.ofFrac false (840 * n / max 1 (n + m)) 840, e8 (m + n)) := by
  refine hide fun hideG hideH => ?_
  obtain ⟨h1, h2⟩ := partQ_all n (by lia) p hp
  refine hideH ?_; clear hideH hideG
  unfold hsv3
  rw [feq_e8 m (by lia) (m + n) (by lia)]
  by_cases q : n = 0
  · subst q
    rw [if_pos (by simp)]
    unfold hueN
    rw [if_pos rfl, Nat.mul_zero, Nat.zero_div, zero_840]
  · have s2 : Float64.sub (e8 (m + n)) (e8 m) = e8 n := by
      rw [sub_e8 (m + n) (by lia) m (by lia) (by lia)]
      congr 1
      lia
    have e : max 1 (n + m) = m + n := by lia
    rw [if_neg (by simpa using q), hueF_eq h (by lia) (by lia) (by lia), s2, e]
    unfold hueN
    rw [if_neg q]
    congr 2
    exact div_8 n (by lia) (m + n) (by lia) (by lia) (by lia)
theorem mx_eq {n m p : Nat} (h : m + n ≤ 8) (hp : p < max 1 (6 * n)) : fmx (fmx (e8 (m + partQ n p 0)) (e8 (m + partQ n p 1))) (e8 (m + partQ n p 2)) = e8 (m + n) ∧ fmn (fmn (e8 (m + partQ n p 0)) (e8 (m + partQ n p 1))) (e8 (m + partQ n p 2)) = e8 m := by
  refine hide fun hideG hideH => ?_
  obtain ⟨h1, h2⟩ := partQ_all n (by lia) p hp
  refine hideH ?_; clear hideH hideG
  have a1 : partQ n p 0 ≤ n := Nat.le_trans (Nat.le_trans (Nat.le_max_left _ _) (Nat.le_max_left _ _)) (Nat.le_of_eq h1)
  have a2 : partQ n p 1 ≤ n := Nat.le_trans (Nat.le_trans (Nat.le_max_right _ _) (Nat.le_max_left _ _)) (Nat.le_of_eq h1)
  have a3 : partQ n p 2 ≤ n := Nat.le_trans (Nat.le_max_right _ _) (Nat.le_of_eq h1)
  have lt : ∀ {q}, q ≤ n → m + q < 9 := fun hq => Nat.lt_succ_of_le (Nat.le_trans (Nat.add_le_add_left hq m) h)
  have mx : max (m + partQ n p 0) (m + partQ n p 1) = m + max (partQ n p 0) (partQ n p 1) := Nat.add_max_add_left ..
  have mn : min (m + partQ n p 0) (m + partQ n p 1) = m + min (partQ n p 0) (partQ n p 1) := Nat.add_min_add_left ..
  have b1 : max (partQ n p 0) (partQ n p 1) ≤ n := Nat.max_le.mpr ⟨a1, a2⟩
  have b2 : min (partQ n p 0) (partQ n p 1) ≤ n := Nat.le_trans (Nat.min_le_left _ _) a1
  rw [fmx_e8 _ (lt a1) _ (lt a2), fmn_e8 _ (lt a1) _ (lt a2), mx, mn, fmx_e8 _ (lt b1) _ (lt a3), fmn_e8 _ (lt b2) _ (lt a3), Nat.add_max_add_left, Nat.add_min_add_left, h1, h2]
  exact ⟨rfl, rfl⟩
theorem q_bnd {n m p : Nat} (h : m + n ≤ 8) (hp : p < max 1 (6 * n)) : m + partQ n p 0 < 9 ∧ m + partQ n p 1 < 9 ∧ m + partQ n p 2 < 9 := by
  have h1 := (partQ_all n (Nat.lt_succ_of_le (Nat.le_trans (Nat.le_add_left _ _) h)) p hp).1
  have lt : ∀ {q}, q ≤ n → m + q < 9 := fun hq => Nat.lt_succ_of_le (Nat.le_trans (Nat.add_le_add_left hq m) h)
  exact ⟨lt (Nat.le_trans (Nat.le_trans (Nat.le_max_left _ _) (Nat.le_max_left _ _)) (Nat.le_of_eq h1)), lt (Nat.le_trans (Nat.le_trans (Nat.le_max_right _ _) (Nat.le_max_left _ _)) (Nat.le_of_eq h1)), lt (Nat.le_trans (Nat.le_max_right _ _) (Nat.le_of_eq h1))⟩
theorem divs_ok {n m : Nat} (h : m + n ≤ 8) : divs (e8 (m + n)) (e8 m) = true := by
  unfold divs
  rw [feq_e8 m (by lia) (m + n) (by lia)]
  by_cases q : n = 0
  · subst q; simp
  · have s2 : Float64.sub (e8 (m + n)) (e8 m) = Float64.ofFrac false n 8 := by
      rw [sub_e8 (m + n) (by lia) m (by lia) (by lia)]
      show Float64.ofFrac false _ 8 = _
      congr 1
      lia
    rw [s2, add_e8 (m + n) (by lia) m (by lia), rest_e8 (m + n) (by lia) m (by lia), show e8 (m + n) = Float64.ofFrac false (m + n) 8 from rfl, zero_e8 _ (by lia), zero_e8 _ (by lia), zero_e8 _ (by lia), zero_e8 _ (by lia)]
    simp
    lia
end Mine
end
section
open PySem PySem.W PySem.Calls PyProof.Rows PySem.Flt PySem.Float64
set_option maxRecDepth 100000
set_option exponentiation.threshold 3000
namespace Mine
theorem lk_mem {k : Nat} {x : UInt64} : ∀ {l : List (Nat × UInt64)}, l.lookup k = some x → (k, x) ∈ l
  | [], h => by cases h
  | (a, b) :: l, h => by
    rw [List.lookup_cons] at h
    by_cases q : k == a
    · rw [q] at h
      cases h
      rw [eq_of_beq q]
      exact .head _
    · rw [Bool.eq_false_iff.mpr q] at h
      exact .tail _ (lk_mem h)
theorem hue_mem {n p : Nat} (hn : n < 9) (hp : p < max 1 (6 * n)) : (840 * p / n, hueT (840 * p / n)) ∈ HL := by
  have h := hue_keys n hn p hp
  unfold hueT
  cases q : HL.lookup (840 * p / n) with
  | none => rw [q] at h; cases h
  | some x => exact lk_mem q
theorem val_way0 : decode (0 : UInt64) = .fin false 0 (-1074) ∧ val 0 = 0 := ⟨by kernel_rfl, by kernel_rfl⟩
/-- the place of a colour on the wheel, from the first one's -/
def wayN (n p n0 p0 : Nat) : Nat := (840 * p / n + 5040 - 840 * p0 / n0) % 5040
theorem way_val {k l : Nat} (h : (k, hueT k) ∈ HL) (h2 : (l, hueT l) ∈ HL) :
    ∃ m e, decode (wayF (hueT k) (hueT l)) = .fin false m e ∧ (5040 * val (wayF (hueT k) (hueT l)) - (((k + 5040 - l) % 5040 : Nat) : Int) * ((2 ^ 1074 : Nat) : Int)).natAbs ≤ 5 * 2 ^ 1040 := by
  by_cases q : k = l
  · subst q
    refine hide fun hideG hideH => ?_
    obtain ⟨_, ⟨m, e, d⟩, _⟩ := hue_dec h
    refine hideH ?_; clear hideH hideG
    have hw := way_same d d rfl
    rw [hw, show (k + 5040 - k) % 5040 = 0 by lia]
    refine ⟨0, -1074, val_way0.1, ?_⟩
    rw [val_way0.2]
    simp
  · exact way_near h h2 q
theorem big10 : 10 * 2 ^ 1040 < 2 ^ 1074 := by
  have e : (2 : Nat) ^ 1074 = 17179869184 * 2 ^ 1040 := by rw [show (1074 : Nat) = 34 + 1040 from rfl, Nat.pow_add]
  have h := Nat.two_pow_pos 1040
  lia
theorem far_lt {x1 x2 y1 y2 : Int} {T B : Nat} (hb : 10 * B < T) (v1 : (5040 * x1 - y1).natAbs ≤ 5 * B) (v2 : (5040 * x2 - y2).natAbs ≤ 5 * B) (h : y1 + (T : Int) ≤ y2) : x1 < x2 := by
  have a := abs_two v1
  have b := abs_two v2
  clear v1 v2
  lia
theorem mod_inj {a b l : Nat} (ha : a < 5040) (hb : b < 5040) (hl : l < 5040) (h : (a + 5040 - l) % 5040 = (b + 5040 - l) % 5040) : a = b := by lia
theorem mul_next {a b T : Nat} (h : a < b) : (a : Int) * (T : Int) + (T : Int) ≤ (b : Int) * (T : Int) := by
  have : ((a : Int) + 1) * (T : Int) ≤ (b : Int) * (T : Int) := Int.mul_le_mul_of_nonneg_right (Int.ofNat_le.mpr h) (Int.natCast_nonneg _)
  rw [Int.add_mul, Int.one_mul] at this
  exact this
theorem way_cmp {k1 k2 l : Nat} (h1 : (k1, hueT k1) ∈ HL) (h2 : (k2, hueT k2) ∈ HL) (hl : (l, hueT l) ∈ HL) :
    Float64.cmp (wayF (hueT k1) (hueT l)) (wayF (hueT k2) (hueT l)) = some (compare ((k1 + 5040 - l) % 5040) ((k2 + 5040 - l) % 5040)) := by
  refine hide fun hideG hideH => ?_
  obtain ⟨m1, e1, d1, v1⟩ := way_val h1 hl
  obtain ⟨m2, e2, d2, v2⟩ := way_val h2 hl
  refine hideH ?_; clear hideH hideG
  have b1 := (hue_dec h1).1
  have b2 := (hue_dec h2).1
  have b3 := (hue_dec hl).1
  rw [cmp_right d1 d2]
  congr 1
  have hb := big10
  by_cases q : (k1 + 5040 - l) % 5040 = (k2 + 5040 - l) % 5040
  · obtain rfl := mod_inj b1 b2 b3 q
    rw [Int.compare_eq_eq.mpr rfl, Nat.compare_eq_eq.mpr rfl]
  · rcases Nat.lt_or_gt_of_ne q with h | h
    · rw [Int.compare_eq_lt.mpr (far_lt hb v1 v2 (mul_next h)), Nat.compare_eq_lt.mpr h]
    · rw [Int.compare_eq_gt.mpr (far_lt hb v2 v1 (mul_next h)), Nat.compare_eq_gt.mpr h]
theorem ofs_840 {i j : Nat} (hi : i ≤ 840) (hj : j ≤ 840) : Float64.cmp (Float64.ofFrac false i 840) (Float64.ofFrac false j 840) = some (compare i j) :=
  ladder_cmp (f := fun k => Float64.ofFrac false k 840) (N := 840) (fun k hk => List.all_eq_true.mp fin_840 k (List.mem_range.mpr (by lia))) (fun k hk => eq_of_beq (List.all_eq_true.mp asc_840 k (List.mem_range.mpr hk))) hi hj
theorem ofs_16 {i j : Nat} (hi : i ≤ 16) (hj : j ≤ 16) : Float64.cmp (Float64.ofFrac false i 16) (Float64.ofFrac false j 16) = some (compare i j) :=
  ladder_cmp (f := fun k => Float64.ofFrac false k 16) (N := 16) (fun k hk => List.all_eq_true.mp fin_16 k (List.mem_range.mpr (by lia))) (fun k hk => eq_of_beq (List.all_eq_true.mp asc_16 k (List.mem_range.mpr hk))) hi hj
theorem cmp_tv {a b : UInt64} {i j : Nat} (h : Float64.cmp a b = some (compare i j)) : tlt (.f a) (.f b) = decide (i < j) ∧ tgt (.f a) (.f b) = decide (j < i) := by
  unfold tlt tgt
  dsimp only
  rw [h]
  rcases Nat.lt_trichotomy i j with q | q | q
  · rw [Nat.compare_eq_lt.mpr q, decide_eq_true q, decide_eq_false (by lia)]
    exact ⟨rfl, rfl⟩
  · rw [Nat.compare_eq_eq.mpr q, decide_eq_false (by lia), decide_eq_false (by lia)]
    exact ⟨rfl, rfl⟩
  · rw [Nat.compare_eq_gt.mpr q, decide_eq_false (by lia), decide_eq_true q]
    exact ⟨rfl, rfl⟩
/-- a colour: its spread, its least part, its place -/
structure Col where
  n : Nat
  m : Nat
  p : Nat
structure Col.Ok (q : Col) : Prop where
  mn : q.m + q.n ≤ 8
  p : q.p < max 1 (6 * q.n)
def Col.name (q : Col) : Int × Int × Int := ((q.n : Int), (q.m : Int), (q.p : Int))
/-- its columns, as whole numbers -/
def cN (q f : Col) : List Nat := [wayN q.n q.p f.n f.p, 840 * q.n / max 1 (q.n + q.m), q.n + q.m, 2 * q.m + q.n, 840 * q.n / paleN q.n q.m,
  30 * (q.m + partQ q.n q.p 0) + 59 * (q.m + partQ q.n q.p 1) + 11 * (q.m + partQ q.n q.p 2)]
theorem part0 (q : Col) : partF q.n q.m q.p 0 = ((q.m + partQ q.n q.p 0 : Nat) : Int) := partF_nat (c := 0)
theorem part1 (q : Col) : partF q.n q.m q.p 1 = ((q.m + partQ q.n q.p 1 : Nat) : Int) := partF_nat (c := 1)
theorem part2 (q : Col) : partF q.n q.m q.p 2 = ((q.m + partQ q.n q.p 2 : Nat) : Int) := partF_nat (c := 2)
theorem og_eq {f : Col} (h : f.Ok) : ogOf f.name = hueT (840 * f.p / f.n) := by
  have h8 := h.mn
  unfold ogOf Col.name
  dsimp only
  rw [part0, part1, part2, Int.toNat_natCast, Int.toNat_natCast, Int.toNat_natCast, (mx_eq h.mn h.p).1, (mx_eq h.mn h.p).2, hsv_eq h.mn h.p]
  exact hue_tab f.n (by lia) f.p h.p
theorem told_eq {q : Col} (h : q.Ok) (og : UInt64) : toldTV q.name og = [.f (wayF (hueT (840 * q.p / q.n)) og), .f (Float64.ofFrac false (840 * q.n / max 1 (q.n + q.m)) 840), .f (e8 (q.n + q.m)), .f (Float64.ofFrac false (2 * q.m + q.n) 16), .f (Float64.ofFrac false (840 * q.n / paleN q.n q.m) 840),
    .i ((30 * (q.m + partQ q.n q.p 0) + 59 * (q.m + partQ q.n q.p 1) + 11 * (q.m + partQ q.n q.p 2) : Nat) : Int)] := by
  have b := q_bnd h.mn h.p
  unfold toldTV Col.name
  dsimp only
  rw [part0, part1, part2, Int.toNat_natCast, Int.toNat_natCast, Int.toNat_natCast, (mx_eq h.mn h.p).1, (mx_eq h.mn h.p).2, hsv_eq h.mn h.p, hls_eq h.mn h.p, hue_tab q.n (Nat.lt_succ_of_le (Nat.le_trans (Nat.le_add_left _ _) h.mn)) q.p h.p,
    (luma_e8 (r := q.m + partQ q.n q.p 0) (g := q.m + partQ q.n q.p 1) (b := q.m + partQ q.n q.p 2) b.1 b.2.1 b.2.2).1, Nat.add_comm q.m q.n]
  rfl
theorem told_ok {q : Col} (h : q.Ok) : ToldOk q.name := by
  have b := q_bnd h.mn h.p
  refine ⟨?_, ?_⟩
  · unfold Col.name
    dsimp only
    rw [part0, part1, part2, Int.toNat_natCast, Int.toNat_natCast, Int.toNat_natCast, (mx_eq h.mn h.p).1, (mx_eq h.mn h.p).2]
    exact divs_ok h.mn
  · unfold Col.name
    dsimp only
    rw [part0, part1, part2, Int.toNat_natCast, Int.toNat_natCast, Int.toNat_natCast]
    exact (luma_e8 (r := q.m + partQ q.n q.p 0) (g := q.m + partQ q.n q.p 1) (b := q.m + partQ q.n q.p 2) b.1 b.2.1 b.2.2).2
theorem div_le_840 {n d : Nat} (h : n ≤ d) (hd : 0 < d) : 840 * n / d ≤ 840 := by
  rw [Nat.div_le_iff_le_mul_add_pred hd]
  have : 840 * n ≤ 840 * d := Nat.mul_le_mul_left _ h
  rw [Nat.mul_comm d 840]
  lia
/-- what is told stands as the whole numbers do -/
theorem pale_pos (n m : Nat) : 0 < paleN n m := Nat.lt_of_lt_of_le Nat.zero_lt_one (Nat.le_max_left _ _)
theorem pale_ge {n m : Nat} (h : m + n ≤ 8) : n ≤ paleN n m := Nat.le_trans (Nat.le_min.mpr ⟨Nat.le_add_left _ _, by lia⟩) (Nat.le_max_right _ _)
theorem col_cmp {x y f : Col} (hx : x.Ok) (hy : y.Ok) (hf : f.Ok) {k : Nat} (hk : k < 6) :
    tlt ((toldTV x.name (ogOf f.name)).getD k (.i 0)) ((toldTV y.name (ogOf f.name)).getD k (.i 0)) = decide ((cN x f).getD k 0 < (cN y f).getD k 0) ∧
    tgt ((toldTV x.name (ogOf f.name)).getD k (.i 0)) ((toldTV y.name (ogOf f.name)).getD k (.i 0)) = decide ((cN y f).getD k 0 < (cN x f).getD k 0) := by
  have x8 := hx.mn
  have y8 := hy.mn
  have f8 := hf.mn
  rw [told_eq hx, told_eq hy, og_eq hf]
  have px := pale_ge x8
  have py := pale_ge y8
  have px0 := pale_pos x.n x.m
  have py0 := pale_pos y.n y.m
  match k, hk with
  | 0, _ => exact cmp_tv (way_cmp (hue_mem (by lia) hx.p) (hue_mem (by lia) hy.p) (hue_mem (by lia) hf.p))
  | 1, _ => exact cmp_tv (ofs_840 (div_le_840 (by lia) (by lia)) (div_le_840 (by lia) (by lia)))
  | 2, _ => exact cmp_tv (cmp_e8 _ (by lia) _ (by lia))
  | 3, _ => exact cmp_tv (ofs_16 (by lia) (by lia))
  | 4, _ => exact cmp_tv (ofs_840 (div_le_840 px px0) (div_le_840 py py0))
  | 5, _ =>
    show decide (_ < _) = decide (_ < _) ∧ decide (_ < _) = decide (_ < _)
    constructor <;> (rw [decide_eq_decide]; exact Int.ofNat_lt)
end Mine
end
section
open PySem PySem.W PySem.Calls PyProof.Rows PySem.Flt PySem.Float64
set_option maxRecDepth 100000
namespace Mine
theorem mx_nat (k : Nat) : mx1 (6 * (k : Int)) = ((max 1 (6 * k) : Nat) : Int) := by unfold mx1; split <;> lia
theorem mx_nat' (k : Nat) : mx1 (k : Int) = ((max 1 k : Nat) : Int) := by unfold mx1; split <;> lia
theorem turn_all : ∀ n, n < 9 → ∀ p, p < max 1 (6 * n) → 840 * p / n * max 1 (6 * n) = 5040 * p := by decide +kernel
theorem way_frac {q f : Col} (hq : q.Ok) (hf : f.Ok) :
    Int.fmod ((q.p : Int) * mx1 (6 * (f.n : Int)) - (f.p : Int) * mx1 (6 * (q.n : Int))) (mx1 (6 * (q.n : Int)) * mx1 (6 * (f.n : Int))) * 5040 = (wayN q.n q.p f.n f.p : Int) * (mx1 (6 * (q.n : Int)) * mx1 (6 * (f.n : Int))) ∧ 0 < mx1 (6 * (q.n : Int)) * mx1 (6 * (f.n : Int)) := by
  have q8 := hq.mn
  have f8 := hf.mn
  have h1 := turn_all q.n (by lia) q.p hq.p
  have h2 := turn_all f.n (by lia) f.p hf.p
  have b1 := (hue_dec (hue_mem (n := q.n) (by lia) hq.p)).1
  have b2 := (hue_dec (hue_mem (n := f.n) (by lia) hf.p)).1
  unfold wayN
  rw [mx_nat, mx_nat]
  generalize 840 * q.p / q.n = K at *
  generalize 840 * f.p / f.n = K0 at *
  have r0 : 0 < max 1 (6 * q.n) := by lia
  have s0 : 0 < max 1 (6 * f.n) := by lia
  generalize max 1 (6 * q.n) = r at *
  generalize max 1 (6 * f.n) = s at *
  have h1' : (K : Int) * (r : Int) = 5040 * (q.p : Int) := by exact_mod_cast h1
  have h2' : (K0 : Int) * (s : Int) = 5040 * (f.p : Int) := by exact_mod_cast h2
  have hd : (0 : Int) < (r : Int) * (s : Int) := Int.mul_pos (by lia) (by lia)
  refine ⟨?_, hd⟩
  have a1 : (5040 : Int) * ((q.p : Int) * (s : Int)) = (K : Int) * ((r : Int) * (s : Int)) := by rw [← Int.mul_assoc, ← h1', Int.mul_assoc]
  have a2 : (5040 : Int) * ((f.p : Int) * (r : Int)) = (K0 : Int) * ((r : Int) * (s : Int)) := by rw [← Int.mul_assoc, ← h2', Int.mul_assoc, Int.mul_comm (s : Int)]
  have e1 : (5040 : Int) * ((q.p : Int) * (s : Int) - (f.p : Int) * (r : Int)) = ((K : Int) - (K0 : Int)) * ((r : Int) * (s : Int)) := by rw [Int.mul_sub, a1, a2, Int.sub_mul]
  generalize (r : Int) * (s : Int) = d at *
  generalize (q.p : Int) * (s : Int) - (f.p : Int) * (r : Int) = x at *
  rw [Int.fmod_eq_emod_of_nonneg _ (Int.le_of_lt hd), Int.mul_comm, ← Int.mul_emod_mul_of_pos x d (by decide), e1, Int.mul_comm (5040 : Int) d, Int.mul_comm ((K : Int) - (K0 : Int)) d, Int.mul_emod_mul_of_pos _ _ hd, Int.mul_comm d]
  congr 1
  lia
theorem exact_840 : ∀ n, n < 9 → ∀ d, d < 9 → 0 < d → 840 * n / d * d = 840 * n := by decide +kernel
def DD (k : Nat) : Int := ([5040, 840, 1, 1, 840, 1] : List Int).getD k 1
theorem sub_two {a b : Nat} (h : 2 * a + b ≤ 16) : (16 : Int) - 2 * (a : Int) - (b : Int) = ((16 - 2 * a - b : Nat) : Int) := by lia
theorem mx_cast (x : Nat) : mx1 (x : Int) = ((max 1 x : Nat) : Int) := by unfold mx1; split <;> lia
theorem two_cast (a b : Nat) : 2 * (a : Int) + (b : Int) = ((2 * a + b : Nat) : Int) := rfl
theorem pale_int {q : Col} (hq : q.Ok) : mx1 (min (2 * (q.m : Int) + (q.n : Int)) (16 - 2 * (q.m : Int) - (q.n : Int))) = ((paleN q.n q.m : Nat) : Int) := by
  have q8 := hq.mn
  rw [sub_two (by lia), two_cast, min_nat, mx_cast]
  rfl
theorem max_nine {n m : Nat} (h : m + n ≤ 8) : max 1 (n + m) < 9 := Nat.lt_succ_of_le (Nat.max_le.mpr ⟨by decide, Nat.add_comm m n ▸ h⟩)
theorem n_nine {n m : Nat} (h : m + n ≤ 8) : n < 9 := Nat.lt_succ_of_le (Nat.le_trans (Nat.le_add_left _ _) h)
theorem pale_nine {n m : Nat} (h : m + n ≤ 8) : paleN n m < 9 := by unfold paleN; lia
theorem frac_eq {c d n : Nat} (z : c * d = 840 * n) : (n : Int) * 840 = (c : Int) * (d : Int) := by
  have z' : (c : Int) * (d : Int) = 840 * (n : Int) := by exact_mod_cast z
  rw [z', Int.mul_comm]
/-- the statement's fractions are the whole numbers, by a fixed measure -/
theorem col_frac {q f : Col} (hq : q.Ok) (hf : f.Ok) {k : Nat} (hk : k < 6) :
    ((colsL q.n q.m q.p f.n f.p).getD k (0, 0)).1 * DD k = (((cN q f).getD k 0 : Nat) : Int) * ((colsL q.n q.m q.p f.n f.p).getD k (0, 0)).2 ∧ 0 < ((colsL q.n q.m q.p f.n f.p).getD k (0, 0)).2 := by
  have q8 := hq.mn
  match k, hk with
  | 0, _ => exact way_frac hq hf
  | 1, _ =>
    show (q.n : Int) * 840 = ((840 * q.n / max 1 (q.n + q.m) : Nat) : Int) * mx1 ((q.n : Int) + (q.m : Int)) ∧ 0 < mx1 ((q.n : Int) + (q.m : Int))
    have e : mx1 ((q.n : Int) + (q.m : Int)) = ((max 1 (q.n + q.m) : Nat) : Int) := mx_nat' (q.n + q.m)
    have d0 : 0 < max 1 (q.n + q.m) := Nat.lt_of_lt_of_le Nat.zero_lt_one (Nat.le_max_left _ _)
    have d9 : max 1 (q.n + q.m) < 9 := max_nine q8
    have z := exact_840 q.n (n_nine q8) (max 1 (q.n + q.m)) d9 d0
    rw [e]
    exact ⟨frac_eq z, Int.natCast_pos.mpr d0⟩
  | 2, _ =>
    show ((q.n : Int) + (q.m : Int)) * 1 = ((q.n + q.m : Nat) : Int) * 1 ∧ (0 : Int) < 1
    exact ⟨rfl, by decide⟩
  | 3, _ =>
    show (2 * (q.m : Int) + (q.n : Int)) * 1 = ((2 * q.m + q.n : Nat) : Int) * 1 ∧ (0 : Int) < 1
    exact ⟨rfl, by decide⟩
  | 4, _ =>
    show (q.n : Int) * 840 = ((840 * q.n / paleN q.n q.m : Nat) : Int) * mx1 (min (2 * (q.m : Int) + (q.n : Int)) (16 - 2 * (q.m : Int) - (q.n : Int))) ∧ 0 < mx1 (min (2 * (q.m : Int) + (q.n : Int)) (16 - 2 * (q.m : Int) - (q.n : Int)))
    rw [pale_int hq]
    have d0 : 0 < paleN q.n q.m := Nat.lt_of_lt_of_le Nat.zero_lt_one (Nat.le_max_left _ _)
    have z := exact_840 q.n (n_nine q8) (paleN q.n q.m) (pale_nine q8) d0
    exact ⟨frac_eq z, Int.natCast_pos.mpr d0⟩
  | 5, _ =>
    show (30 * partF q.n q.m q.p 0 + 59 * partF q.n q.m q.p 1 + 11 * partF q.n q.m q.p 2) * 1 = ((30 * (q.m + partQ q.n q.p 0) + 59 * (q.m + partQ q.n q.p 1) + 11 * (q.m + partQ q.n q.p 2) : Nat) : Int) * 1 ∧ (0 : Int) < 1
    rw [part0, part1, part2]
    exact ⟨rfl, by decide⟩
theorem DD_pos {k : Nat} (hk : k < 6) : 0 < DD k := by
  match k, hk with
  | 0, _ => decide
  | 1, _ => decide
  | 2, _ => decide
  | 3, _ => decide
  | 4, _ => decide
  | 5, _ => decide
theorem cross_sign {a b a' b' D c c' : Int} (h : a * D = c * b) (h' : a' * D = c' * b') (hD : 0 < D) (hb : 0 < b) (hb' : 0 < b') :
    (c < c' → a * b' - a' * b < 0) ∧ (c = c' → a * b' - a' * b = 0) ∧ (c' < c → 0 < a * b' - a' * b) := by
  have e : (a * b' - a' * b) * D = (c - c') * (b * b') := by
    have e1 : a * b' * D = c * (b * b') := by rw [Int.mul_right_comm, h, Int.mul_assoc]
    have e2 : a' * b * D = c' * (b * b') := by rw [Int.mul_right_comm, h', Int.mul_assoc, Int.mul_comm b' b]
    rw [Int.sub_mul, e1, e2, Int.sub_mul]
  have hw : 0 < b * b' := Int.mul_pos hb hb'
  generalize a * b' - a' * b = X at *
  generalize b * b' = W at *
  refine ⟨fun q => ?_, fun q => ?_, fun q => ?_⟩
  · have : (c - c') * W < 0 := Int.mul_neg_of_neg_of_pos (by lia) hw
    rcases (show X < 0 ∨ 0 ≤ X by lia) with z | z
    · exact z
    · have := Int.mul_nonneg z (Int.le_of_lt hD)
      lia
  · subst q
    rw [Int.sub_self, Int.zero_mul] at e
    rcases Int.mul_eq_zero.mp e with z | z
    · exact z
    · lia
  · have : 0 < (c - c') * W := Int.mul_pos (by lia) hw
    rcases (show 0 < X ∨ X ≤ 0 by lia) with z | z
    · exact z
    · have := Int.mul_nonpos_of_nonpos_of_nonneg z (Int.le_of_lt hD)
      lia
theorem px_le {n m : Nat} (h : m + n ≤ 8) : n ≤ 16 - 2 * m - n := by lia
theorem luma_le {n m a b c : Nat} (h1 : a ≤ n) (h2 : b ≤ n) (h3 : c ≤ n) (h : m + n ≤ 8) : 30 * (m + a) + 59 * (m + b) + 11 * (m + c) ≤ 5040 := by lia
theorem cN_le {q f : Col} (hq : q.Ok) {k : Nat} (hk : k < 6) : (cN q f).getD k 0 ≤ 5040 := by
  have q8 := hq.mn
  refine hide fun hideG hideH => ?_
  obtain ⟨z1, z2⟩ := partQ_all q.n (by lia) q.p hq.p
  refine hideH ?_; clear hideH hideG
  have px0 : 0 < paleN q.n q.m := Nat.lt_of_lt_of_le Nat.zero_lt_one (Nat.le_max_left _ _)
  have px : q.n ≤ paleN q.n q.m := Nat.le_trans (Nat.le_min.mpr ⟨Nat.le_add_left _ _, px_le q8⟩) (Nat.le_max_right _ _)
  match k, hk with
  | 0, _ =>
    show wayN q.n q.p f.n f.p ≤ 5040
    unfold wayN
    lia
  | 1, _ => exact Nat.le_trans (div_le_840 (by lia) (by lia)) (by decide)
  | 2, _ =>
    show q.n + q.m ≤ 5040
    lia
  | 3, _ =>
    show 2 * q.m + q.n ≤ 5040
    lia
  | 4, _ => exact Nat.le_trans (div_le_840 px px0) (by decide)
  | 5, _ =>
    have u1 : partQ q.n q.p 0 ≤ q.n := Nat.le_trans (Nat.le_trans (Nat.le_max_left _ _) (Nat.le_max_left _ _)) (Nat.le_of_eq z1)
    have u2 : partQ q.n q.p 1 ≤ q.n := Nat.le_trans (Nat.le_trans (Nat.le_max_right _ _) (Nat.le_max_left _ _)) (Nat.le_of_eq z1)
    have u3 : partQ q.n q.p 2 ≤ q.n := Nat.le_trans (Nat.le_max_right _ _) (Nat.le_of_eq z1)
    exact luma_le u1 u2 u3 q8
/-- one column of a comparison -/
theorem step3 {s : Int} {u w : Nat} {v v' : Int} (hs : s = 1 ∨ s = 2 ∨ s = 3 ∨ s = -1 ∨ s = -2 ∨ s = -3) (hu : u ≤ 5040) (hw : w ≤ 5040) (h1 : u = w → v = v') (h2 : u < w → (0 < s → v < 0) ∧ (s < 0 → 0 < v)) (h3 : w < u → (0 < s → 0 < v) ∧ (s < 0 → v < 0)) :
    (s * u = s * w ∧ v = v') ∨ (s * u < s * w ∧ v < 0) ∨ (s * w < s * u ∧ 0 < v) := by
  rcases Nat.lt_trichotomy u w with q | q | q
  · refine hide fun hideG hideH => ?_
    obtain ⟨a, b⟩ := h2 q
    refine hideH ?_; clear hideH hideG
    rcases hs with rfl | rfl | rfl | rfl | rfl | rfl
    · exact .inr (.inl ⟨by lia, a (by decide)⟩)
    · exact .inr (.inl ⟨by lia, a (by decide)⟩)
    · exact .inr (.inl ⟨by lia, a (by decide)⟩)
    · exact .inr (.inr ⟨by lia, b (by decide)⟩)
    · exact .inr (.inr ⟨by lia, b (by decide)⟩)
    · exact .inr (.inr ⟨by lia, b (by decide)⟩)
  · exact .inl ⟨by rw [q], h1 q⟩
  · refine hide fun hideG hideH => ?_
    obtain ⟨a, b⟩ := h3 q
    refine hideH ?_; clear hideH hideG
    rcases hs with rfl | rfl | rfl | rfl | rfl | rfl
    · exact .inr (.inr ⟨by lia, a (by decide)⟩)
    · exact .inr (.inr ⟨by lia, a (by decide)⟩)
    · exact .inr (.inr ⟨by lia, a (by decide)⟩)
    · exact .inr (.inl ⟨by lia, b (by decide)⟩)
    · exact .inr (.inl ⟨by lia, b (by decide)⟩)
    · exact .inr (.inl ⟨by lia, b (by decide)⟩)
theorem mul_bnd {s : Int} {u : Nat} (hs : s = 1 ∨ s = 2 ∨ s = 3 ∨ s = -1 ∨ s = -2 ∨ s = -3) (hu : u ≤ 5040) : -15120 ≤ s * u ∧ s * u ≤ 15120 := by
  rcases hs with rfl | rfl | rfl | rfl | rfl | rfl <;> lia
theorem lt_far {a1 b1 a2 b2 : Int} (h : a1 < b1) (l1 : a2 ≤ 15120) (l2 : -15120 ≤ b2) : a1 * 100000 + a2 < b1 * 100000 + b2 := by lia
theorem tri_iff {X Y v : Int} (h : (X = Y ∧ v = 0) ∨ (X < Y ∧ v < 0) ∨ (Y < X ∧ 0 < v)) : (v < 0 ↔ X < Y) ∧ (0 < v ↔ Y < X) := by lia
theorem comb {a1 b1 a2 b2 v1 v2 v3 : Int} (l3 : -15120 ≤ a2 ∧ a2 ≤ 15120) (l4 : -15120 ≤ b2 ∧ b2 ≤ 15120) (h1 : (a1 = b1 ∧ v1 = v2) ∨ (a1 < b1 ∧ v1 < 0) ∨ (b1 < a1 ∧ 0 < v1)) (h2 : (a2 = b2 ∧ v2 = v3) ∨ (a2 < b2 ∧ v2 < 0) ∨ (b2 < a2 ∧ 0 < v2)) :
    (a1 * 100000 + a2 = b1 * 100000 + b2 ∧ v1 = v3) ∨ (a1 * 100000 + a2 < b1 * 100000 + b2 ∧ v1 < 0) ∨ (b1 * 100000 + b2 < a1 * 100000 + a2 ∧ 0 < v1) := by
  rcases h1 with ⟨e, f⟩ | ⟨e, f⟩ | ⟨e, f⟩
  · rw [e, f]
    rcases h2 with ⟨e, f⟩ | ⟨e, f⟩ | ⟨e, f⟩
    · exact .inl ⟨by rw [e], f⟩
    · exact .inr (.inl ⟨Int.add_lt_add_left e _, f⟩)
    · exact .inr (.inr ⟨Int.add_lt_add_left e _, f⟩)
  · exact .inr (.inl ⟨lt_far e l3.2 l4.1, f⟩)
  · exact .inr (.inr ⟨lt_far e l4.2 l3.1, f⟩)
theorem lex3 {a1 b1 a2 b2 a3 b3 v1 v2 v3 : Int} (l1 : -15120 ≤ a1 ∧ a1 ≤ 15120) (l2 : -15120 ≤ b1 ∧ b1 ≤ 15120) (l3 : -15120 ≤ a2 ∧ a2 ≤ 15120) (l4 : -15120 ≤ b2 ∧ b2 ≤ 15120) (l5 : -15120 ≤ a3 ∧ a3 ≤ 15120) (l6 : -15120 ≤ b3 ∧ b3 ≤ 15120)
    (h1 : (a1 = b1 ∧ v1 = v2) ∨ (a1 < b1 ∧ v1 < 0) ∨ (b1 < a1 ∧ 0 < v1)) (h2 : (a2 = b2 ∧ v2 = v3) ∨ (a2 < b2 ∧ v2 < 0) ∨ (b2 < a2 ∧ 0 < v2)) (h3 : (a3 = b3 ∧ v3 = 0) ∨ (a3 < b3 ∧ v3 < 0) ∨ (b3 < a3 ∧ 0 < v3)) :
    (v1 < 0 ↔ (a1 * 100000 + a2) * 100000 + a3 < (b1 * 100000 + b2) * 100000 + b3) ∧ (0 < v1 ↔ (b1 * 100000 + b2) * 100000 + b3 < (a1 * 100000 + a2) * 100000 + a3) :=
  tri_iff (comb l5 l6 (comb l3 l4 h1 h2) h3)
/-- a colour's rank by three rules -/
def rk (c : List Nat) (rs : List (Int × Int)) : Int := rs.foldl (fun acc p => acc * 100000 + p.2 * ((c.getD p.1.toNat 0 : Nat) : Int)) 0
theorem rk3 (c : List Nat) (k1 s1 k2 s2 k3 s3 : Int) : rk c [(k1, s1), (k2, s2), (k3, s3)] = (s1 * ((c.getD k1.toNat 0 : Nat) : Int) * 100000 + s2 * ((c.getD k2.toNat 0 : Nat) : Int)) * 100000 + s3 * ((c.getD k3.toNat 0 : Nat) : Int) := by
  show ((0 * 100000 + s1 * _) * 100000 + s2 * _) * 100000 + s3 * _ = _
  rw [Int.zero_mul, Int.zero_add]
structure RulesOk (rs : List (Int × Int)) : Prop where
  len : rs.length = 3
  ok : ∀ p ∈ rs, 0 ≤ p.1 ∧ p.1 < 6 ∧ (p.2 = 1 ∨ p.2 = 2 ∨ p.2 = 3 ∨ p.2 = -1 ∨ p.2 = -2 ∨ p.2 = -3)
section
variable {x y f : Col} {rs : List (Int × Int)}
theorem ask_step (hx : x.Ok) (hy : y.Ok) (hf : f.Ok) {k s : Int} (hk0 : 0 ≤ k) (hk : k < 6) (hs : s = 1 ∨ s = 2 ∨ s = 3 ∨ s = -1 ∨ s = -2 ∨ s = -3) (rs : List (Int × Int)) :
    (s * ((cN x f).getD k.toNat 0 : Nat) = s * ((cN y f).getD k.toNat 0 : Nat) ∧ askI (toldTV x.name (ogOf f.name)) (toldTV y.name (ogOf f.name)) ((k, s) :: rs) = askI (toldTV x.name (ogOf f.name)) (toldTV y.name (ogOf f.name)) rs) ∨
    (s * ((cN x f).getD k.toNat 0 : Nat) < s * ((cN y f).getD k.toNat 0 : Nat) ∧ askI (toldTV x.name (ogOf f.name)) (toldTV y.name (ogOf f.name)) ((k, s) :: rs) < 0) ∨
    (s * ((cN y f).getD k.toNat 0 : Nat) < s * ((cN x f).getD k.toNat 0 : Nat) ∧ 0 < askI (toldTV x.name (ogOf f.name)) (toldTV y.name (ogOf f.name)) ((k, s) :: rs)) := by
  have hkn : k.toNat < 6 := by lia
  refine hide fun hideG hideH => ?_
  obtain ⟨c1, c2⟩ := col_cmp hx hy hf hkn
  refine hideH ?_; clear hideH hideG
  have bx := cN_le (f := f) hx hkn
  have by' := cN_le (f := f) hy hkn
  rw [askI_cons, c1, c2]
  generalize (cN x f).getD k.toNat 0 = u at *
  generalize (cN y f).getD k.toNat 0 = w at *
  refine step3 hs bx by' (fun q => ?_) (fun q => ?_) fun q => ?_
  · rw [if_neg (by simp; lia), if_neg (by simp; lia)]
  · rw [if_pos (by simp; lia)]
    lia
  · rw [if_neg (by simp; lia), if_pos (by simp; lia)]
    lia
theorem stand_step (hx : x.Ok) (hy : y.Ok) (hf : f.Ok) {k s : Int} (hk0 : 0 ≤ k) (hk : k < 6) (hs : s = 1 ∨ s = 2 ∨ s = 3 ∨ s = -1 ∨ s = -2 ∨ s = -3) (rs : List (Int × Int)) :
    (s * ((cN x f).getD k.toNat 0 : Nat) = s * ((cN y f).getD k.toNat 0 : Nat) ∧ standsI (colsL x.n x.m x.p f.n f.p) (colsL y.n y.m y.p f.n f.p) ((k, s) :: rs) = standsI (colsL x.n x.m x.p f.n f.p) (colsL y.n y.m y.p f.n f.p) rs) ∨
    (s * ((cN x f).getD k.toNat 0 : Nat) < s * ((cN y f).getD k.toNat 0 : Nat) ∧ standsI (colsL x.n x.m x.p f.n f.p) (colsL y.n y.m y.p f.n f.p) ((k, s) :: rs) < 0) ∨
    (s * ((cN y f).getD k.toNat 0 : Nat) < s * ((cN x f).getD k.toNat 0 : Nat) ∧ 0 < standsI (colsL x.n x.m x.p f.n f.p) (colsL y.n y.m y.p f.n f.p) ((k, s) :: rs)) := by
  have hkn : k.toNat < 6 := by lia
  refine hide fun hideG hideH => ?_
  obtain ⟨f1, g1⟩ := col_frac hx hf hkn
  obtain ⟨f2, g2⟩ := col_frac hy hf hkn
  refine hideH ?_; clear hideH hideG
  have bx := cN_le (f := f) hx hkn
  have by' := cN_le (f := f) hy hkn
  refine hide fun hideG hideH => ?_
  obtain ⟨c1, c2, c3⟩ := cross_sign f1 f2 (DD_pos hkn) g1 g2
  refine hideH ?_; clear hideH hideG
  rw [standsI_cons]
  generalize ((colsL x.n x.m x.p f.n f.p).getD k.toNat (0, 0)).1 * ((colsL y.n y.m y.p f.n f.p).getD k.toNat (0, 0)).2 - ((colsL y.n y.m y.p f.n f.p).getD k.toNat (0, 0)).1 * ((colsL x.n x.m x.p f.n f.p).getD k.toNat (0, 0)).2 = X at *
  generalize (cN x f).getD k.toNat 0 = u at *
  generalize (cN y f).getD k.toNat 0 = w at *
  refine step3 hs bx by' (fun q => ?_) (fun q => ?_) fun q => ?_
  · rw [if_pos (c2 (by lia))]
  · have := c1 (by lia)
    rw [if_neg (by lia)]
    exact ⟨fun h => Int.mul_neg_of_neg_of_pos this h, fun h => Int.mul_pos_of_neg_of_neg this h⟩
  · have := c3 (by lia)
    rw [if_neg (by lia)]
    exact ⟨fun h => Int.mul_pos this h, fun h => Int.mul_neg_of_pos_of_neg this h⟩
theorem ask_rank (hx : x.Ok) (hy : y.Ok) (hf : f.Ok) (hr : RulesOk rs) :
    (askI (toldTV x.name (ogOf f.name)) (toldTV y.name (ogOf f.name)) rs < 0 ↔ rk (cN x f) rs < rk (cN y f) rs) ∧ (0 < askI (toldTV x.name (ogOf f.name)) (toldTV y.name (ogOf f.name)) rs ↔ rk (cN y f) rs < rk (cN x f) rs) := by
  refine hide fun hideG hideH => ?_
  obtain ⟨hl, ho⟩ := hr
  refine hideH ?_; clear hideH hideG
  match rs, hl with
  | [(k1, s1), (k2, s2), (k3, s3)], _ =>
    refine hide fun hideG hideH => ?_
    obtain ⟨a1, a2, a3⟩ := ho (k1, s1) (by simp)
    obtain ⟨b1, b2, b3⟩ := ho (k2, s2) (by simp)
    obtain ⟨d1, d2, d3⟩ := ho (k3, s3) (by simp)
    refine hideH ?_; clear hideH hideG
    rw [rk3, rk3]
    have bnd : ∀ {q : Col} (hq : q.Ok) {k s : Int}, 0 ≤ k → k < 6 → (s = 1 ∨ s = 2 ∨ s = 3 ∨ s = -1 ∨ s = -2 ∨ s = -3) → -15120 ≤ s * ((cN q f).getD k.toNat 0 : Nat) ∧ s * ((cN q f).getD k.toNat 0 : Nat) ≤ 15120 := fun {q} hq {k s} h0 h6 hs => mul_bnd hs (cN_le hq (by lia))
    exact lex3 (bnd hx a1 a2 a3) (bnd hy a1 a2 a3) (bnd hx b1 b2 b3) (bnd hy b1 b2 b3) (bnd hx d1 d2 d3) (bnd hy d1 d2 d3) (ask_step hx hy hf a1 a2 a3 _) (ask_step hx hy hf b1 b2 b3 _) (ask_step hx hy hf d1 d2 d3 [])
theorem stand_rank (hx : x.Ok) (hy : y.Ok) (hf : f.Ok) (hr : RulesOk rs) :
    (standsI (colsL x.n x.m x.p f.n f.p) (colsL y.n y.m y.p f.n f.p) rs < 0 ↔ rk (cN x f) rs < rk (cN y f) rs) ∧ (0 < standsI (colsL x.n x.m x.p f.n f.p) (colsL y.n y.m y.p f.n f.p) rs ↔ rk (cN y f) rs < rk (cN x f) rs) := by
  refine hide fun hideG hideH => ?_
  obtain ⟨hl, ho⟩ := hr
  refine hideH ?_; clear hideH hideG
  match rs, hl with
  | [(k1, s1), (k2, s2), (k3, s3)], _ =>
    refine hide fun hideG hideH => ?_
    obtain ⟨a1, a2, a3⟩ := ho (k1, s1) (by simp)
    obtain ⟨b1, b2, b3⟩ := ho (k2, s2) (by simp)
    obtain ⟨d1, d2, d3⟩ := ho (k3, s3) (by simp)
    refine hideH ?_; clear hideH hideG
    rw [rk3, rk3]
    have bnd : ∀ {q : Col} (hq : q.Ok) {k s : Int}, 0 ≤ k → k < 6 → (s = 1 ∨ s = 2 ∨ s = 3 ∨ s = -1 ∨ s = -2 ∨ s = -3) → -15120 ≤ s * ((cN q f).getD k.toNat 0 : Nat) ∧ s * ((cN q f).getD k.toNat 0 : Nat) ≤ 15120 := fun {q} hq {k s} h0 h6 hs => mul_bnd hs (cN_le hq (by lia))
    exact lex3 (bnd hx a1 a2 a3) (bnd hy a1 a2 a3) (bnd hx b1 b2 b3) (bnd hy b1 b2 b3) (bnd hx d1 d2 d3) (bnd hy d1 d2 d3) (stand_step hx hy hf a1 a2 a3 _) (stand_step hx hy hf b1 b2 b3 _) (stand_step hx hy hf d1 d2 d3 [])
end
end Mine
end
section
open PySem PySem.W PySem.Calls PyProof.Rows
set_option maxRecDepth 100000
namespace Mine
/-- the order that a rank gives, the earlier place first where it is the same -/
def befZ (r : Nat → Int) (x y : Int) : Prop := r x.toNat < r y.toNat ∨ (r x.toNat = r y.toNat ∧ x < y)
theorem befZ.asymm {r : Nat → Int} {x y : Int} (h : befZ r x y) (h2 : befZ r y x) : False := by
  unfold befZ at h h2
  lia
structure Sorted8 (r : Nat → Int) (ns : List Int) : Prop where
  pw : ns.Pairwise (befZ r)
  mem : ∀ x, x ∈ ns ↔ 0 ≤ x ∧ x < 8
theorem pw_unique {R : Int → Int → Prop} (as : ∀ x y, R x y → R y x → False) : ∀ {a b : List Int}, a.Pairwise R → b.Pairwise R → (∀ x, x ∈ a ↔ x ∈ b) → a = b
  | [], [], _, _, _ => rfl
  | [], y :: b, _, _, h => absurd ((h y).mpr (.head _)) (by simp)
  | x :: a, [], _, _, h => absurd ((h x).mp (.head _)) (by simp)
  | x :: a, y :: b, ha, hb, h => by
    refine hide fun hideG hideH => ?_
    obtain ⟨ha1, ha2⟩ := List.pairwise_cons.mp ha
    obtain ⟨hb1, hb2⟩ := List.pairwise_cons.mp hb
    refine hideH ?_; clear hideH hideG
    have e : x = y := by
      rcases List.mem_cons.mp ((h x).mp (.head _)) with q | q
      · exact q
      · rcases List.mem_cons.mp ((h y).mpr (.head _)) with q2 | q2
        · exact q2.symm
        · exact (as _ _ (hb1 _ q) (ha1 _ q2)).elim
    subst e
    have ne1 : ∀ z, z ∈ a → z ≠ x := fun z hz q => as x x (q ▸ ha1 z hz) (q ▸ ha1 z hz)
    have ne2 : ∀ z, z ∈ b → z ≠ x := fun z hz q => as x x (q ▸ hb1 z hz) (q ▸ hb1 z hz)
    rw [pw_unique as ha2 hb2 fun z => ⟨fun hz => ?_, fun hz => ?_⟩]
    · rcases List.mem_cons.mp ((h z).mp (.tail _ hz)) with q | q
      · exact absurd q (ne1 z hz)
      · exact q
    · rcases List.mem_cons.mp ((h z).mpr (.tail _ hz)) with q | q
      · exact absurd q (ne2 z hz)
      · exact q
theorem Sorted8.unique {r : Nat → Int} {a b : List Int} (x : Sorted8 r a) (y : Sorted8 r b) : a = b :=
  pw_unique (fun _ _ => befZ.asymm) x.pw y.pw fun z => (x.mem z).trans (y.mem z).symm
theorem insP_has {p : Int → Bool} {a : Int} : ∀ {l : List Int} {x : Int}, (x = a ∨ x ∈ l) → x ∈ insP p a l
  | [], x, h => by
    rcases h with h | h
    · rw [h]; exact .head _
    · cases h
  | y :: l, x, h => by
    unfold insP
    split
    · rcases h with h | h
      · exact .tail _ (insP_has (.inl h))
      · rcases List.mem_cons.mp h with h | h
        · rw [h]; exact .head _
        · exact .tail _ (insP_has (.inr h))
    · rcases h with h | h
      · rw [h]; exact .head _
      · exact .tail _ h
theorem insP_pw {r : Nat → Int} {p : Int → Bool} {a : Int} : ∀ {l : List Int}, l.Pairwise (befZ r) → (∀ x ∈ l, x < a) → (∀ x ∈ l, p x = true ↔ r x.toNat ≤ r a.toNat) → (insP p a l).Pairwise (befZ r)
  | [], _, _, _ => by unfold insP; exact List.pairwise_singleton _ _
  | y :: l, hp, hlt, hpp => by
    refine hide fun hideG hideH => ?_
    obtain ⟨h1, h2⟩ := List.pairwise_cons.mp hp
    refine hideH ?_; clear hideH hideG
    unfold insP
    split
    · next q =>
      refine List.pairwise_cons.mpr ⟨fun z hz => ?_, insP_pw h2 (fun x hx => hlt x (.tail _ hx)) fun x hx => hpp x (.tail _ hx)⟩
      rcases insP_mem hz with e | e
      · subst e
        have l1 := hlt y (.head _)
        have l2 := (hpp y (.head _)).mp q
        unfold befZ
        lia
      · exact h1 z e
    · next q =>
      refine List.pairwise_cons.mpr ⟨fun z hz => ?_, hp⟩
      have l2 : ¬ r y.toNat ≤ r a.toNat := fun c => q ((hpp y (.head _)).mpr c)
      rcases List.mem_cons.mp hz with e | e
      · subst e
        unfold befZ
        lia
      · have := h1 z e
        unfold befZ at this ⊢
        lia
/-- the statement's own order is the sorted one -/
theorem ordI_pw {r : Nat → Int} {rows : List (List (Int × Int))} {rs : List (Int × Int)} {way : Int}
    (h : ∀ x a : Int, 0 ≤ x → x < 8 → 0 ≤ a → a < 8 → (way * standsI (rows.getD x.toNat []) (rows.getD a.toNat []) rs ≤ 0 ↔ r x.toNat ≤ r a.toNat)) :
    ∀ i, i ≤ 8 → (ordI rows rs way i).Pairwise (befZ r) ∧ ∀ x : Int, x ∈ ordI rows rs way i ↔ 0 ≤ x ∧ x < i
  | 0, _ => ⟨List.Pairwise.nil, fun x => ⟨fun hx => (by cases hx), fun hx => (by lia)⟩⟩
  | i + 1, hi => by
    refine hide fun hideG hideH => ?_
    obtain ⟨h1, h2⟩ := ordI_pw h i (by lia)
    refine hideH ?_; clear hideH hideG
    refine ⟨insP_pw h1 (fun x hx => ((h2 x).mp hx).2) fun x hx => ?_, fun x => ⟨fun hx => ?_, fun hx => insP_has ?_⟩⟩
    · have hb := (h2 x).mp hx
      unfold aheadP
      rw [decide_eq_true_iff]
      exact h x i hb.1 (by lia) (by lia) (by lia)
    · rcases insP_mem hx with e | e
      · lia
      · have := (h2 x).mp e
        lia
    · by_cases q : x = (i : Int)
      · exact .inl q
      · exact .inr ((h2 x).mpr (by lia))
theorem ordI_sorted {r : Nat → Int} {rows : List (List (Int × Int))} {rs : List (Int × Int)} {way : Int}
    (h : ∀ x a : Int, 0 ≤ x → x < 8 → 0 ≤ a → a < 8 → (way * standsI (rows.getD x.toNat []) (rows.getD a.toNat []) rs ≤ 0 ↔ r x.toNat ≤ r a.toNat)) : Sorted8 r (ordI rows rs way 8) :=
  ⟨(ordI_pw h 8 (Nat.le_refl _)).1, fun x => (ordI_pw h 8 (Nat.le_refl _)).2 x⟩
/-- a list without doubles and below n has n items at most -/
theorem short_of : ∀ (n : Nat) (L : List Nat), L.Pairwise (· ≠ ·) → (∀ x ∈ L, x < n) → L.length ≤ n
  | 0, [], _, _ => Nat.le_refl _
  | 0, x :: _, _, h => absurd (h x (.head _)) (Nat.not_lt_zero _)
  | n + 1, L, hp, h => by
    have hf : (L.filter fun x => decide (x ≠ n)).length ≤ n := by
      refine short_of n _ (hp.filter _) fun x hx => ?_
      refine hide fun hideG hideH => ?_
      obtain ⟨h1, h2⟩ := List.mem_filter.mp hx
      refine hideH ?_; clear hideH hideG
      have := h x h1
      have := of_decide_eq_true h2
      lia
    have hc : ∀ (L : List Nat), L.Pairwise (· ≠ ·) → L.length ≤ (L.filter fun x => decide (x ≠ n)).length + 1 := by
      intro L
      induction L with
      | nil => intro _; simp
      | cons y L ih =>
        intro hp
        refine hide fun hideG hideH => ?_
        obtain ⟨h1, h2⟩ := List.pairwise_cons.mp hp
        refine hideH ?_; clear hideH hideG
        by_cases q : y = n
        · have e : (L.filter fun x => decide (x ≠ n)) = L := List.filter_eq_self.mpr fun x hx => decide_eq_true fun c => h1 x hx (q.trans c.symm)
          rw [List.filter_cons, if_neg (by simpa using q), e]
          exact Nat.le_refl _
        · rw [List.filter_cons, if_pos (by simpa using q)]
          have := ih h2
          simp only [List.length_cons]
          lia
    have := hc L hp
    lia
theorem full_of {n : Nat} {L : List Nat} (hp : L.Pairwise (· ≠ ·)) (h : ∀ x ∈ L, x < n) (hl : L.length = n) {x : Nat} (hx : x < n) : x ∈ L := by
  by_cases q : x ∈ L
  · exact q
  · have := short_of n (x :: L) (List.pairwise_cons.mpr ⟨fun y hy e => q (e ▸ hy), hp⟩) fun y hy => by
      rcases List.mem_cons.mp hy with e | e
      · rw [e]; exact hx
      · exact h y e
    simp only [List.length_cons] at this
    lia
theorem kev_congr {α : Type} {n : Nat} {P : α → Prop} {lt lt' : Nat → Nat → Bool} (h : ∀ i j, i < n → j < n → lt i j = lt' i j) : ∀ t : KasT α, KOk n P t → kev lt t = kev lt' t
  | .ret a, _ => rfl
  | .ask i j k, hk => by
    show kev lt (k (lt i j)) = kev lt' (k (lt' i j))
    rw [h i j hk.1 hk.2.1]
    exact kev_congr h _ (hk.2.2 _)
/-- the sort's own order of the places -/
theorem sort_pw {r : Nat → Int} {lt : Nat → Nat → Bool} (h : ∀ i j, i < 8 → j < 8 → lt i j = decide (r i < r j)) :
    ((kev lt (kas_sort 8)).toList).Pairwise (bef r) ∧ (∀ x, x ∈ (kev lt (kas_sort 8)).toList ↔ x < 8) := by
  rw [kev_congr (lt' := ltOf r) (n := 8) h _ (ok_sort (by decide))]
  have S := sort_srt (r := r) (n := 8) (by decide)
  generalize kev (ltOf r) (kas_sort 8) = p at S
  have hs := S.size
  have hl : p.toList.length = 8 := by simpa using hs
  have g : ∀ (a : Nat) (ha : a < p.toList.length), p.toList[a] = G p a := fun a ha => by
    have ha' : a < p.size := by simpa using ha
    simp [G, ha']
  have pw : p.toList.Pairwise (bef r) := List.pairwise_iff_getElem.mpr fun a b ha hb hab => by
    rw [g a ha, g b hb]
    exact S.srt a b hab (by lia)
  have lt8 : ∀ x ∈ p.toList, x < 8 := fun x hx => by
    refine hide fun hideG hideH => ?_
    obtain ⟨a, ha, e⟩ := List.getElem_of_mem hx
    refine hideH ?_; clear hideH hideG
    rw [← e, g a ha]
    exact S.pre a (by lia)
  refine ⟨pw, fun x => ⟨lt8 x, fun hx => full_of (pw.imp fun {a b} hb e => ?_) lt8 hl hx⟩⟩
  subst e
  unfold bef at hb
  lia
theorem ints_map {f : Nat → Value} {g : Nat → Int} : ∀ (l : List Nat), (∀ i ∈ l, ∃ t, f i = .int (g i) t) → IntsAre (l.map f) (l.map g)
  | [], _ => .nil
  | i :: l, h => by
    refine hide fun hideG hideH => ?_
    obtain ⟨t, e⟩ := h i (.head _)
    refine hideH ?_; clear hideH hideG
    rw [List.map_cons, List.map_cons, e]
    exact .cons _ _ (ints_map l fun j hj => h j (.tail _ hj))
theorem ints_get {vs : List Value} (hi : IntsAre vs [0, 1, 2, 3, 4, 5, 6, 7]) {i : Nat} (h : i < 8) : ∃ t, vs.getD i .none = .int (i : Int) t := by
  have e : ([0, 1, 2, 3, 4, 5, 6, 7] : List Int)[i]? = some (i : Int) := by
    match i, h with
    | 0, _ => rfl
    | 1, _ => rfl
    | 2, _ => rfl
    | 3, _ => rfl
    | 4, _ => rfl
    | 5, _ => rfl
    | 6, _ => rfl
    | 7, _ => rfl
  refine hide fun hideG hideH => ?_
  obtain ⟨t, q⟩ := hi.get i _ e
  refine hideH ?_; clear hideH hideG
  exact ⟨t, by rw [List.getD_eq_getElem?_getD, q]; rfl⟩
theorem out_false {r : Nat → Int} {lt : Nat → Nat → Bool} (h : ∀ i j, i < 8 → j < 8 → lt i j = decide (r i < r j)) {vs : List Value} (hi : IntsAre vs [0, 1, 2, 3, 4, 5, 6, 7]) {ns : List Int} (hn : Sorted8 r ns) : IntsAre (sortOut false vs lt).toList ns := by
  have hl : vs.length = 8 := hi.length
  refine hide fun hideG hideH => ?_
  obtain ⟨pw, mem⟩ := sort_pw h
  refine hideH ?_; clear hideH hideG
  have e : (sortOut false vs lt).toList = (kev lt (kas_sort 8)).toList.map fun i => vs.getD i .none := by
    unfold sortOut turnI
    simp [hl]
  have hS : Sorted8 r ((kev lt (kas_sort 8)).toList.map fun (i : Nat) => (i : Int)) := ⟨List.pairwise_map.mpr (pw.imp fun {a b} hb => by
    unfold bef at hb
    unfold befZ
    simp only [Int.toNat_natCast]
    lia), fun x => by
    rw [List.mem_map]
    constructor
    · intro rip0
      refine hide fun hideG hideH => ?_
      obtain ⟨i, hm, rfl⟩ := rip0
      refine hideH ?_; clear hideH hideG
      have := (mem i).mp hm
      lia
    · intro hx
      exact ⟨x.toNat, (mem _).mpr (by lia), by lia⟩⟩
  rw [e, hn.unique hS]
  exact ints_map _ fun i hm => ints_get hi ((mem i).mp hm)
theorem out_true {r : Nat → Int} {lt : Nat → Nat → Bool} (h : ∀ i j, i < 8 → j < 8 → lt i j = decide (r i < r j)) {vs : List Value} (hi : IntsAre vs [0, 1, 2, 3, 4, 5, 6, 7]) {ns : List Int} (hn : Sorted8 (fun i => - r i) ns) : IntsAre (sortOut true vs lt).toList ns := by
  have hl : vs.length = 8 := hi.length
  refine hide fun hideG hideH => ?_
  obtain ⟨pw, mem⟩ := sort_pw (r := fun i => r (7 - i)) (lt := fun i j => lt (7 - i) (7 - j)) fun i j h1 h2 => h _ _ (by lia) (by lia)
  refine hideH ?_; clear hideH hideG
  have e : (sortOut true vs lt).toList = ((kev (fun i j => lt (7 - i) (7 - j)) (kas_sort 8)).toList.reverse.map fun i => vs.getD (7 - i) .none) := by
    unfold sortOut turnI
    simp [hl]
  have hS : Sorted8 (fun i => - r i) ((kev (fun i j => lt (7 - i) (7 - j)) (kas_sort 8)).toList.reverse.map fun (i : Nat) => ((7 - i : Nat) : Int)) := ⟨List.pairwise_map.mpr (List.pairwise_reverse.mpr (pw.imp_of_mem fun {a b} ha hb' hb => by
    have ha := (mem a).mp ha
    have hb' := (mem b).mp hb'
    unfold bef at hb
    dsimp only at hb
    unfold befZ
    simp only [Int.toNat_natCast]
    generalize r (7 - a) = ra at *
    generalize r (7 - b) = rb at *
    lia)), fun x => by
    rw [List.mem_map]
    constructor
    · intro rip0
      refine hide fun hideG hideH => ?_
      obtain ⟨i, hm, rfl⟩ := rip0
      refine hideH ?_; clear hideH hideG
      lia
    · intro hx
      exact ⟨7 - x.toNat, List.mem_reverse.mpr ((mem _).mpr (by lia)), by lia⟩⟩
  rw [e, hn.unique hS]
  exact ints_map _ fun i hm => ints_get hi (by lia)
/-- the first of the least, kept by steps -/
theorem fold_first {r : Nat → Int} {P : Int → Int → Prop} [∀ a b, Decidable (P a b)] (h : ∀ one kept : Int, 0 ≤ one → one < 8 → 0 ≤ kept → kept < 8 → (P one kept ↔ r one.toNat < r kept.toNat)) {ns : List Int} (hn : Sorted8 r ns) :
    ns[0]? = some (([1, 2, 3, 4, 5, 6, 7] : List Int).foldl (fun kept one => if P one kept then one else kept) 0) := by
  have step : ∀ (i kept : Int), 0 ≤ i → i < 8 → (0 ≤ kept ∧ kept < i ∧ ∀ x, 0 ≤ x → x < i → x ≠ kept → befZ r kept x) →
      (0 ≤ (if P i kept then i else kept) ∧ (if P i kept then i else kept) < i + 1 ∧ ∀ x, 0 ≤ x → x < i + 1 → x ≠ (if P i kept then i else kept) → befZ r (if P i kept then i else kept) x) := fun i kept h0 h8 ⟨a1, a2, a3⟩ => by
    have hh := h i kept h0 h8 a1 (by lia)
    split
    · next q =>
      have q := hh.mp q
      refine ⟨h0, by lia, fun x x0 x1 xn => ?_⟩
      by_cases e : x = kept
      · subst e
        exact .inl q
      · have := a3 x x0 (by lia) e
        unfold befZ at this ⊢
        lia
    · next q =>
      have q : ¬ r i.toNat < r kept.toNat := fun c => q (hh.mpr c)
      refine ⟨a1, by lia, fun x x0 x1 xn => ?_⟩
      by_cases e : x = i
      · subst e
        unfold befZ
        lia
      · exact a3 x x0 (by lia) xn
  have s1 := step 1 0 (by decide) (by decide) ⟨by decide, by decide, fun x h0 h1 hne => by lia⟩
  have s2 := step 2 _ (by decide) (by decide) s1
  have s3 := step 3 _ (by decide) (by decide) s2
  have s4 := step 4 _ (by decide) (by decide) s3
  have s5 := step 5 _ (by decide) (by decide) s4
  have s6 := step 6 _ (by decide) (by decide) s5
  have s7 := step 7 _ (by decide) (by decide) s6
  clear s1 s2 s3 s4 s5 s6
  have s : 0 ≤ (([1, 2, 3, 4, 5, 6, 7] : List Int).foldl (fun kept one => if P one kept then one else kept) 0) ∧ (([1, 2, 3, 4, 5, 6, 7] : List Int).foldl (fun kept one => if P one kept then one else kept) 0) < 8 ∧ ∀ x, 0 ≤ x → x < 8 → x ≠ (([1, 2, 3, 4, 5, 6, 7] : List Int).foldl (fun kept one => if P one kept then one else kept) 0) → befZ r (([1, 2, 3, 4, 5, 6, 7] : List Int).foldl (fun kept one => if P one kept then one else kept) 0) x := s7
  clear s7 step
  generalize (([1, 2, 3, 4, 5, 6, 7] : List Int).foldl (fun kept one => if P one kept then one else kept) 0) = z at s
  refine hide fun hideG hideH => ?_
  obtain ⟨z0, z8, zb⟩ := s
  refine hideH ?_; clear hideH hideG
  cases ns with
  | nil => exact absurd ((hn.mem z).mpr ⟨z0, z8⟩) (by simp)
  | cons y l =>
    refine hide fun hideG hideH => ?_
    obtain ⟨h1, h2⟩ := List.pairwise_cons.mp hn.pw
    refine hideH ?_; clear hideH hideG
    have hy := (hn.mem y).mp (.head _)
    by_cases e : y = z
    · rw [e]; rfl
    · rcases List.mem_cons.mp ((hn.mem z).mpr ⟨z0, z8⟩) with q | q
      · exact absurd q.symm e
      · exact ((h1 z q).asymm (zb y hy.1 hy.2 e)).elim
end Mine
end
section
open PySem PySem.W PySem.Calls PyProof.Rows PySem.Flt PySem.Float64
set_option maxRecDepth 100000
namespace Mine
def toCol (q : Int × Int × Int) : Col := ⟨q.1.toNat, q.2.1.toNat, q.2.2.toNat⟩
theorem toCol_name {q : Int × Int × Int} (h : NameOk q) : (toCol q).name = q := by
  refine hide fun hideG hideH => ?_
  obtain ⟨n, m, p⟩ := q
  obtain ⟨h1, h2, h3, h4, h5⟩ := h
  refine hideH ?_; clear hideH hideG
  unfold Col.name toCol
  dsimp only at *
  rw [Int.toNat_of_nonneg h1, Int.toNat_of_nonneg h2, Int.toNat_of_nonneg h4]
theorem toCol_ok {q : Int × Int × Int} (h : NameOk q) : (toCol q).Ok := by
  refine hide fun hideG hideH => ?_
  obtain ⟨n, m, p⟩ := q
  obtain ⟨h1, h2, h3, h4, h5⟩ := h
  refine hideH ?_; clear hideH hideG
  unfold toCol
  dsimp only at *
  refine ⟨?_, ?_⟩
  · dsimp only
    lia
  · dsimp only
    unfold mx1 at h5
    split at h5 <;> lia
theorem bnd_of {x y : Int} (h : 0 ≤ x ∧ x ≤ 10000) (h' : 0 ≤ y ∧ y ≤ 10000) : -1000000 ≤ x ∧ x ≤ 1000000 ∧ -1000000 ≤ y ∧ y ≤ 1000000 := by lia
theorem mx_bnd {x : Int} (h : x ≤ 48) : 0 < mx1 x ∧ mx1 x ≤ 48 := by unfold mx1; split <;> lia
theorem le_far {x : Int} (h : 0 ≤ x ∧ x ≤ 48) : 0 ≤ x ∧ x ≤ 10000 := ⟨h.1, Int.le_trans h.2 (by decide)⟩
theorem luma_bnd {a b c : Int} (a0 : 0 ≤ a) (a1 : a ≤ 8) (b0 : 0 ≤ b) (b1 : b ≤ 8) (c0 : 0 ≤ c) (c1 : c ≤ 8) : 0 ≤ 30 * a + 59 * b + 11 * c ∧ 30 * a + 59 * b + 11 * c ≤ 10000 := by lia
theorem nm_bnd {n m : Int} (h1 : 0 ≤ n) (h2 : 0 ≤ m) (h3 : m + n ≤ 8) : (0 ≤ n ∧ n ≤ 48) ∧ (0 ≤ n + m ∧ n + m ≤ 48) ∧ (0 ≤ 2 * m + n ∧ 2 * m + n ≤ 48) ∧ 6 * n ≤ 48 := by lia
theorem cols_bnd {q f : Int × Int × Int} (h : NameOk q) (hf : NameOk f) : ∀ p ∈ colsL q.1 q.2.1 q.2.2 f.1 f.2.2, -1000000 ≤ p.1 ∧ p.1 ≤ 1000000 ∧ -1000000 ≤ p.2 ∧ p.2 ≤ 1000000 := by
  have z := nm_bnd h.n0 h.m0 h.mn
  have a1 := mx_bnd z.2.2.2
  have a2 := mx_bnd (nm_bnd hf.n0 hf.m0 hf.mn).2.2.2
  have a3 : 0 < mx1 (6 * q.1) * mx1 (6 * f.1) := Int.mul_pos a1.1 a2.1
  have a4 : mx1 (6 * q.1) * mx1 (6 * f.1) ≤ 10000 := Int.le_trans (Int.mul_le_mul a1.2 a2.2 (Int.le_of_lt a2.1) (by decide)) (by decide)
  have a5 := Int.fmod_nonneg_of_pos (q.2.2 * mx1 (6 * f.1) - f.2.2 * mx1 (6 * q.1)) a3
  have a6 := Int.fmod_lt_of_pos (q.2.2 * mx1 (6 * f.1) - f.2.2 * mx1 (6 * q.1)) a3
  have one : (0 : Int) ≤ 1 ∧ (1 : Int) ≤ 10000 := by decide
  have m1 := mx_bnd z.2.1.2
  have m2 := mx_bnd (Int.le_trans (Int.min_le_left (2 * q.2.1 + q.1) (16 - 2 * q.2.1 - q.1)) z.2.2.1.2)
  have lo := fun c => part_lo (n := q.1) (m := q.2.1) (p := q.2.2) (c := c) h.n0 h.m0
  have hi := fun c => part_hi (n := q.1) (m := q.2.1) (p := q.2.2) (c := c) h.n0 h.mn
  intro p hp
  unfold colsL at hp
  rcases List.mem_cons.mp hp with rfl | hp
  · exact bnd_of ⟨a5, Int.le_trans (Int.le_of_lt a6) a4⟩ ⟨Int.le_of_lt a3, a4⟩
  rcases List.mem_cons.mp hp with rfl | hp
  · exact bnd_of (le_far z.1) (le_far ⟨Int.le_of_lt m1.1, m1.2⟩)
  rcases List.mem_cons.mp hp with rfl | hp
  · exact bnd_of (le_far z.2.1) one
  rcases List.mem_cons.mp hp with rfl | hp
  · exact bnd_of (le_far z.2.2.1) one
  rcases List.mem_cons.mp hp with rfl | hp
  · exact bnd_of (le_far z.1) (le_far ⟨Int.le_of_lt m2.1, m2.2⟩)
  cases List.mem_singleton.mp hp
  exact bnd_of (luma_bnd (lo 0) (hi 0) (lo 1) (hi 1) (lo 2) (hi 2)) one
section
variable {names : List (Int × Int × Int)} {rs : List (Int × Int)}
/-- the colour at a place -/
def cAt (names : List (Int × Int × Int)) (i : Nat) : Col := toCol (names.getD i (0, 0, 0))
def rAt (names : List (Int × Int × Int)) (rs : List (Int × Int)) (i : Nat) : Int := rk (cN (cAt names i) (cAt names 0)) rs
theorem at_ok (h8 : names.length = 8) (hn : ∀ q ∈ names, NameOk q) {i : Nat} (hi : i < 8) : NameOk (names.getD i (0, 0, 0)) := by
  rw [List.getD_eq_getElem?_getD, List.getElem?_eq_getElem (by lia)]
  exact hn _ (List.getElem_mem _)
theorem told_at (h8 : names.length = 8) (hn : ∀ q ∈ names, NameOk q) {i : Nat} (hi : i < 8) : (toldRows names).getD i [] = toldTV (cAt names i).name (ogOf (cAt names 0).name) := by
  unfold cAt
  rw [toCol_name (at_ok h8 hn hi), toCol_name (at_ok h8 hn (by decide))]
  have e : names[i]? = some names[i] := List.getElem?_eq_getElem (by lia)
  unfold toldRows
  rw [List.getD_eq_getElem?_getD, List.getElem?_map, e, List.getD_eq_getElem?_getD (l := names) (i := i), e]
  rfl
theorem due_at (h8 : names.length = 8) (hn : ∀ q ∈ names, NameOk q) {i : Nat} (hi : i < 8) : (dueRows names).getD i [] = colsL (cAt names i).n (cAt names i).m (cAt names i).p (cAt names 0).n (cAt names 0).p := by
  have e1 := toCol_name (at_ok h8 hn hi)
  have e0 := toCol_name (at_ok h8 hn (show 0 < 8 by decide))
  have f1 : ((cAt names i).n : Int) = (names.getD i (0, 0, 0)).1 := congrArg Prod.fst e1
  have f2 : ((cAt names i).m : Int) = (names.getD i (0, 0, 0)).2.1 := congrArg (fun z => z.2.1) e1
  have f3 : ((cAt names i).p : Int) = (names.getD i (0, 0, 0)).2.2 := congrArg (fun z => z.2.2) e1
  have f4 : ((cAt names 0).n : Int) = (names.getD 0 (0, 0, 0)).1 := congrArg Prod.fst e0
  have f5 : ((cAt names 0).p : Int) = (names.getD 0 (0, 0, 0)).2.2 := congrArg (fun z => z.2.2) e0
  rw [f1, f2, f3, f4, f5]
  unfold dueRows
  rw [List.getD_eq_getElem?_getD, List.getElem?_map, List.getD_eq_getElem?_getD (l := names) (i := i), List.getElem?_eq_getElem (by lia)]
  rfl
theorem ask_at (h8 : names.length = 8) (hn : ∀ q ∈ names, NameOk q) (hr : RulesOk rs) {i j : Int} (i0 : 0 ≤ i) (i8 : i < 8) (j0 : 0 ≤ j) (j8 : j < 8) :
    (askL names rs i j < 0 ↔ rAt names rs i.toNat < rAt names rs j.toNat) ∧ (0 < askL names rs i j ↔ rAt names rs j.toNat < rAt names rs i.toNat) := by
  unfold askL rAt
  rw [told_at h8 hn (by lia), told_at h8 hn (by lia)]
  exact ask_rank (toCol_ok (at_ok h8 hn (by lia))) (toCol_ok (at_ok h8 hn (by lia))) (toCol_ok (at_ok h8 hn (by lia))) hr
theorem stand_at (h8 : names.length = 8) (hn : ∀ q ∈ names, NameOk q) (hr : RulesOk rs) {i j : Int} (i0 : 0 ≤ i) (i8 : i < 8) (j0 : 0 ≤ j) (j8 : j < 8) :
    (standsI ((dueRows names).getD i.toNat []) ((dueRows names).getD j.toNat []) rs < 0 ↔ rAt names rs i.toNat < rAt names rs j.toNat) ∧ (0 < standsI ((dueRows names).getD i.toNat []) ((dueRows names).getD j.toNat []) rs ↔ rAt names rs j.toNat < rAt names rs i.toNat) := by
  unfold rAt
  rw [due_at h8 hn (by lia), due_at h8 hn (by lia)]
  exact stand_rank (toCol_ok (at_ok h8 hn (by lia))) (toCol_ok (at_ok h8 hn (by lia))) (toCol_ok (at_ok h8 hn (by lia))) hr
theorem agree_law (sz : Int) (h8 : names.length = 8) (hn : ∀ q ∈ names, NameOk q) (hl : rs.length = 3) (s1 : 1 ≤ sz) (s3 : sz ≤ 3) (hrs : ∀ p ∈ rs, 0 ≤ p.1 ∧ p.1 < 6 ∧ (p.2 = sz ∨ p.2 = -sz)) : AgreeLaw names rs := by
  have hr : RulesOk rs := ⟨hl, fun p hp => by
    refine hide fun hideG hideH => ?_
    obtain ⟨a, b, c⟩ := hrs p hp
    refine hideH ?_; clear hideH hideG
    exact ⟨a, b, by lia⟩⟩
  have ask := fun {i j : Int} a b c d => ask_at (i := i) (j := j) h8 hn hr a b c d
  have std := fun {i j : Int} a b c d => stand_at (i := i) (j := j) h8 hn hr a b c d
  have SF : Sorted8 (rAt names rs) (ordI (dueRows names) rs 1 8) := ordI_sorted fun x a x0 x8 a0 a8 => by
    have z := (std x0 x8 a0 a8).2
    rw [Int.one_mul]
    lia
  have SB : Sorted8 (fun i => - rAt names rs i) (ordI (dueRows names) rs (-1) 8) := ordI_sorted fun x a x0 x8 a0 a8 => by
    have z := (std x0 x8 a0 a8).1
    lia
  have hlt : ∀ i j : Nat, i < 8 → j < 8 → decide (askL names rs i j < 0) = decide (rAt names rs i < rAt names rs j) := fun i j hi hj => by
    have z := (ask (i := (i : Int)) (j := (j : Int)) (by lia) (by lia) (by lia) (by lia)).1
    rw [Int.toNat_natCast, Int.toNat_natCast] at z
    exact decide_eq_decide.mpr z
  refine ⟨fun q hq => ?_, fun vs hi => out_false hlt hi SF, fun vs hi => out_true hlt hi SB, fun i j i0 i8 j0 j8 => ?_, ?_, ?_, fun r hr' => ?_⟩
  · have := told_ok (toCol_ok (hn q hq))
    rw [toCol_name (hn q hq)] at this
    exact this
  · have z := ask i0 i8 j0 j8
    have z' := std i0 i8 j0 j8
    lia
  · exact fold_first (P := fun one kept => askL names rs one kept < 0) (fun one kept o0 o8 k0 k8 => (ask o0 o8 k0 k8).1) SF
  · exact fold_first (P := fun one kept => 0 < askL names rs one kept) (fun one kept o0 o8 k0 k8 => by
      have z := (ask o0 o8 k0 k8).2
      lia) SB
  · refine hide fun hideG hideH => ?_
    obtain ⟨q, hq, rfl⟩ := List.mem_map.mp hr'
    refine hideH ?_; clear hideH hideG
    exact cols_bnd (hn q hq) (at_ok h8 hn (by decide))
end
end Mine
end
open PySem PySem.W PyProof.Rows
theorem PySem.Challenge.cw_mq0178_01_holds : PySem.Challenge.rw_mq0178_01.Holds := by
  exact Mine.lawX fun _ _ sz a b c d e f => Mine.agree_law sz a b c d e f
