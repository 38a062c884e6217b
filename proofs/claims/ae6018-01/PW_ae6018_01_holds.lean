import PyProof.Rows.All
import Wide.All
import OpenK.AllK
import Wide.FinOn
import Lean
import PySem.Challenge.RW_ae6018_01
open PySem PySem.W PyProof.Rows PySem.Calls
set_option Elab.async false
namespace Mine
set_option maxRecDepth 100000 in
set_option maxHeartbeats 8000000 in
open_top hd for PySem.Challenge.rw_ae6018_01
end Mine
namespace Mine
theorem part01 : True := by
  w_top off
  trivial
/-- all that the heap holds is held still, but for the addresses `as` -/
def Kp (as : List Addr) (h h' : Heap) : Prop := ∀ b o, b ∉ as → h.get? b = some o → h'.get? b = some o
theorem Kp.refl (as : List Addr) (h : Heap) : Kp as h h := fun _ _ _ e => e
theorem Kp.trans {as : List Addr} {h h' h'' : Heap} (x : Kp as h h') (y : Kp as h' h'') : Kp as h h'' := fun b o n e => y b o n (x b o n e)
theorem Kp.mono {as bs : List Addr} {h h' : Heap} (x : Kp as h h') (k : ∀ a ∈ as, a ∈ bs) : Kp bs h h' := fun b o n e => x b o (fun q => n (k b q)) e
theorem Kp.stays {h h' : Heap} (x : Kp [] h h') : h.StaysIn h' := fun b o e => x b o List.not_mem_nil e

structure Ent (as : List Addr) (h g : Heap) (L : Addr) (h₁ : Heap) : Prop where
  vis : ∀ b o, b ∉ as → h.get? b = some o → g.get? b = some o
  hid : ∀ a ∈ as, g.get? a = none
  up : ∀ b o, h.get? b = some o → h₁.get? b = some o
  lt : ∀ b o, h.get? b = some o → b < L

theorem Ent.news {as : List Addr} {h g : Heap} {L : Addr} {h₁ : Heap} (x : Ent as h g L h₁) {fp : List (Addr × Obj)} (hf : ∀ p ∈ fp, p.1 ∈ as ∧ h.get? p.1 = some p.2) : News g L h₁ fp :=
  fun p hp => ⟨x.up _ _ (hf p hp).2, Nat.ne_of_lt (x.lt _ _ (hf p hp).2), x.hid _ (hf p hp).1⟩
theorem Ent.back {as : List Addr} {h g : Heap} {L : Addr} {h₁ h' : Heap} {m : Str → Option Value} (x : Ent as h g L h₁) (F : Fr g L h' m) : Kp as h h' :=
  fun b o n e => F.keep b o (x.vis b o n e)
theorem Ent.fresh {as : List Addr} {h g : Heap} {L : Addr} {h₁ h' : Heap} {a : Addr} (x : Ent as h g L h₁) (n : a ∉ as) (e : g.get? a = none) : h.get? a = none := by
  cases q : h.get? a with
  | none => rfl
  | some o => rw [x.vis a o n q] at e; cases e

theorem frKp {as : List Addr} {g h h' : Heap} {L : Addr} {m : Str → Option Value} (F : Fr g L h m) (k : Kp as h h') (hn : ∀ a ∈ as, g.get? a = none) (hL : L ∉ as) : Fr g L h' m := by
  obtain ⟨o, es, ep, e, r⟩ := F.ns
  refine ⟨⟨o, es, ep, k _ _ hL e, r⟩, fun b o e => k b o (fun q => ?_) (F.keep b o e), F.above⟩
  rw [hn b q] at e; cases e
theorem newsKp {as : List Addr} {g h h' : Heap} {L : Addr} {news news' : List (Addr × Obj)} (N : News g L h news) (k : Kp as h h') (hs : ∀ p ∈ news', p ∈ news ∧ p.1 ∉ as) : News g L h' news' :=
  fun p hp => ⟨k _ _ (hs p hp).2 (N p (hs p hp).1).1, (N p (hs p hp).1).2⟩

/-- no exception comes out -/
def noE (_ : Value) (_ : Shared) : Prop := False

abbrev AR (dp un : Nat) (fr : Option (List Env)) (gd : Option (List Code)) : Around := { handled := none, depth := dp, frames := fr, guards := gd, units := un }

section
variable {prog : Program} {w : World} {dp un : Nat} {fr : Option (List Env)} {gd : Option (List Code)} {s : Shared} {K : Frag} {g₀ : Heap} {mg mb : Str → Option Value} {p : Program} {loose : List Str} {mean : ExcName → Option Value}
  {Q E : Value → Shared → Prop} {name qual : Str} {params : Arguments} {body : List Stmt} {scope : Scope} {dV kV doc pm cdv ct oc : Value} {an od : Option Addr} {osl : Array (Option Value)} {f : Addr} {args : List Value} {binds : List (Str × Value)}

theorem callM (as : List Addr) (X : K.In g₀) (T : Top p loose mean mg mb g₀) (st : g₀.StaysIn s.heap) (hn : ∀ a ∈ as, g₀.get? a = none)
    (ho : K.lookup f = some ⟨oc, od, .func (fnOf name qual params body scope dV kV doc pm an cdv ct), osl⟩) (hcd : codeIn K cdv qual = true) (hroom : dp < recursionLimit)
    (hbind : BindsTo s (fnOf name qual params body scope dV kV doc pm an cdv ct) ⟨args, []⟩ binds) (hloc : ∀ y ∈ binds, scope.names.lookup y.1 = some .local)
    (hcell : ∀ x ∈ scope.names, x.2 ≠ .cell) (hco : scope.isCoroutine = false) (hgen : scope.isGenerator = false) (hk : scope.kind = .function)
    (h : ∀ g L h₁ tk fr', Ent as s.heap g L h₁ → Fr g L h₁ (fun y => binds.reverse.lookup y) → K.In g → Top p loose mean mg mb g → g₀.StaysIn g →
      wpAny (model prog w) (AR (dp + 1) (un + 3) fr' gd) (execs body (envOf qual scope L f cdv))
        (fun fl s' => Q (match fl with | .ret v => v | _ => .none) s')
        noE
        { s with heap := h₁, toks := tk }) :
    wpAny (model prog w) (AR dp un fr gd) (call (.ref f) args) Q E s := by
  have Xs := X.keeps st
  have nm : ∀ b o, g₀.get? b = some o → b ∉ as := fun b o e q => by rw [hn b q] at e; cases e
  have st' : g₀.StaysIn (hideAll s.heap as) := fun b o e => hideAll_get _ (st b o e) (nm b o e)
  refine wpAny_call (codeAny_call_def (fd := fnOf name qual params body scope dV kV doc pm an cdv ct) (body := body) (binds := binds) hroom (Xs _ _ ho) rfl (T.nolimit.keeps st) (codeRec_of Xs hcd) rfl hbind hcell hloc (fun h₁ hns hk₁ => ?_) hco hgen hk)
  exact wpAny_mono (h (hideAll s.heap as) s.heap.objs.size h₁ _ _
    ⟨fun b o n e => hideAll_get _ e n, fun a ha => hideAll_none _ ha, hk₁, fun b o e => Heap.lt_size e⟩
    ⟨hns, fun b o e => hk₁ b o (of_hideAll _ e), Nat.le_of_eq (hideAll_size _ _)⟩ (X.keeps st') (T.keeps st') st') (fun _ _ x => x) (fun _ _ x => x.elim)

theorem callMC (as : List Addr) (X : K.In g₀) (T : Top p loose mean mg mb g₀) (st : g₀.StaysIn s.heap) (hn : ∀ a ∈ as, g₀.get? a = none)
    (ho : K.lookup f = some ⟨oc, od, .func (fnOf name qual params body scope dV kV doc pm an cdv ct), osl⟩) (hcd : codeIn K cdv qual = true) (hroom : dp < recursionLimit)
    (hbind : BindsTo s (fnOf name qual params body scope dV kV doc pm an cdv ct) ⟨args, []⟩ binds) (hl : (binds.all fun y => scope.names.lookup y.1 == some .local || scope.names.lookup y.1 == some .cell) = true)
    (hnd : ((cellsFrom 0 scope.names []).map (·.1)).Nodup) (hco : scope.isCoroutine = false) (hgen : scope.isGenerator = false) (hk : scope.kind = .function)
    (h : ∀ g L h₁ tk fr' cells, Ent as s.heap g L h₁ → Fr g L h₁ (bindL (envOfC qual scope L f cdv).kindOf binds fun _ => none) → News g L h₁ cells →
      CellsAre (bindC (envOfC qual scope L f cdv).kindOf binds fun _ => none) (cellsFrom (L + 1) scope.names []) cells → K.In g → Top p loose mean mg mb g → g₀.StaysIn g →
      wpAny (model prog w) (AR (dp + 1) (un + 3) fr' gd) (execs body (envOfC qual scope L f cdv))
        (fun fl s' => Q (match fl with | .ret v => v | _ => .none) s')
        noE
        { s with heap := h₁, toks := tk }) :
    wpAny (model prog w) (AR dp un fr gd) (call (.ref f) args) Q E s := by
  have Xs := X.keeps st
  have nm : ∀ b o, g₀.get? b = some o → b ∉ as := fun b o e q => by rw [hn b q] at e; cases e
  have st' : g₀.StaysIn (hideAll s.heap as) := fun b o e => hideAll_get _ (st b o e) (nm b o e)
  refine wpAny_call (codeAny_call_function hroom (Xs _ _ ho) rfl hco hgen rfl (codeRec_of Xs hcd) (hbind _ _ _ _ ?_))
  refine wpAny_newFunctionEnv_cells hk (kindsX hl _) fun env' he s' x => ?_
  subst he
  refine ⟨(T.nolimit.keeps st).keeps x.toInCall.keep, codeAny_func ?_⟩
  obtain ⟨h₁, tk, rfl, _⟩ := x.done
  have hk₁ := x.toInCall.keep
  obtain ⟨cells, NC, Y⟩ := Cl.news (h₀ := s.heap) (Nat.le_refl _) fun n c hm => ⟨x.cell n c (lookup_of_mem_nodup (cellsFrom_names scope.names 0 (s.heap.objs.size + 1) [] [] rfl ▸ hnd) hm), x.above n c hm⟩
  exact wpAny_mono (h (hideAll s.heap as) s.heap.objs.size h₁ tk _ cells
    ⟨fun b o n e => hideAll_get _ e n, fun a ha => hideAll_none _ ha, hk₁, fun b o e => Heap.lt_size e⟩
    ⟨x.toInCall.ns, fun b o e => hk₁ b o (of_hideAll _ e), Nat.le_of_eq (hideAll_size _ _)⟩
    (fun p hp => ⟨(NC p hp).1, (NC p hp).2.1, by
      cases q : (hideAll s.heap as).get? p.1 with
      | none => rfl
      | some o => have := of_hideAll _ q; rw [(NC p hp).2.2] at this; cases this⟩) Y (X.keeps st') (T.keeps st') st') (fun _ _ x => x) (fun _ _ x => x.elim)
end

theorem part02 : True := by
  w_top off
  trivial
structure Dr where
  cells : List Int
  seed : Int
def Dr.Ok (D : Dr) : Prop := (∀ n ∈ D.cells, 0 ≤ n) ∧ 0 ≤ D.seed ∧ D.seed < 2147483647 ∧ D.cells.length ≤ 63
def Dr.next (D : Dr) : Dr := match D.cells with
  | _ :: r => ⟨r, D.seed⟩
  | [] => ⟨[], (D.seed * 48271).fmod 2147483647⟩
def Dr.found (D : Dr) : Int := match D.cells with
  | n :: _ => n
  | [] => ((D.seed * 48271).fmod 2147483647).fdiv 7

def DrawAt (h : Heap) (d q : Addr) (D : Dr) : Prop :=
  ∃ t nd vs nq, h.get? d = some (W.listOf #[.ref q, .int D.seed t] nd) ∧ h.get? q = some (W.listOf vs.toArray nq) ∧ IntsAre vs D.cells



theorem pop0 {prog : Program} {w : World} {A : Around} {E : Value → Shared → Prop} {s : Shared} {h₀ : Heap} {L D : Addr} {m : Str → Option Value} {news news' : List (Addr × Obj)} {n : Nat} {v : Value} {vs : List Value} {u : Tok} {Q : Value → Shared → Prop}
    (F : Fr h₀ L s.heap m) (N : News h₀ L s.heap news) (U : Upd D (W.listOf (v :: vs).toArray n) (W.listOf vs.toArray (n + 1)) news news') (hz : vs.length < 1000)
    (h : ∀ h', Fr h₀ L h' m → News h₀ L h' news' → Q v { s with heap := h' }) : wpAny (model prog w) A (call (.builtin "list.pop") [.ref D, .int 0 u]) Q E s := by
  refine kl_popAt (p := []) (q := vs) (k := 0) F N rfl ?_ rfl U (by simp [sizeLine_eq]; omega) h
  simp [seqIndex?]

local macro_rules | `(tactic| walk_at "call builtin:list.pop") => `(tactic| ((with_reducible show wpAny _ _ (call (Value.builtin _) [Value.ref _, Value.int _ _]) _ _ _); k_dflt (refine' pop0 ?F ?N ?U ?z ?_; (case F => k_asm); (case N => k_asm); (case U => k_upd); (case z => assumption)); intro _ _ _))

set_option maxRecDepth 100000 in
set_option maxHeartbeats 4000000 in
theorem take_ok {w : World} {dp un : Nat} {fr : Option (List Env)} {gd : Option (List Code)} {s : Shared} {g₀ : Heap} {mg mb : Str → Option Value} {p : Program} {loose : List Str} {mean : ExcName → Option Value}
  {Q E : Value → Shared → Prop} {d q : Addr} {D : Dr} {many : Int} {tm : Tok}
  (X : (Mine.hd.heap_39 w.params).In g₀) (T : Top p loose mean mg mb g₀) (st : g₀.StaysIn s.heap) (hd : g₀.get? d = none) (hq : g₀.get? q = none) (hroom : dp + 20 < recursionLimit) (hun : un + 100 < cLine)
  (hdq : @Ne Nat d q) (hD : DrawAt s.heap d q D) (hok : D.Ok) (hm : 0 < many)
  (ret : ∀ h' tk' t, Kp [d, q] s.heap h' → DrawAt h' d q D.next → Q (.int (D.found.fmod many) t) { s with heap := h', toks := tk' }) :
  wpAny (model PySem.Challenge.rw_ae6018_01.row.prog w) (AR dp un fr gd) (call (.ref 299) [.ref d, .int many tm]) Q E s := by
  revert X
  k_fill
  intro X
  obtain ⟨cells, seed⟩ := D
  obtain ⟨t, nd, vs, nq, e1, e2, hi⟩ := hD
  dsimp only at e1 e2 hi
  k_dflt (refine' callM (binds := [(PySem.Str.ofString "draw", .ref d), (PySem.Str.ofString "many", .int many tm)]) [d, q] X T st ?hn ?ho ?hcd ?hr ?hb ?hl ?hc ?h1 ?h2 ?h3 ?_)
  case hn => simp [hd, hq]
  case ho => k_is
  case hcd => k_is
  case hr => omega
  case hb => exact BindsTo.of_eq rfl
  case hl => exact locs rfl
  case hc => decide
  case h1 => rfl
  case h2 => rfl
  case h3 => rfl
  intro g L h₁ tk fr' En F' X' T' st'
  have N' : News g L h₁ [(d, listOf #[.ref q, .int seed t] nd), (q, listOf vs.toArray nq)] := En.news (by simp [e1, e2])
  clear e1 e2
  show wpAny _ _ _ _ _ _
  (try dsimp only)
  k_fold
  cases hi with
  | nil =>
    k_steps
    (try dsimp only)
    exact ret _ _ _ (En.back (by assumption)) ⟨_, _, _, _, News.get (by assumption) (by k_mem), News.get (by assumption) (by k_mem), .nil⟩
  | cons n tn hr =>
    rename_i vs' ns'
    have hlen : vs'.length < 1000 := by have := hr.length; have h2 := hok.2.2.2; simp only [List.length_cons] at h2; rw [this]; omega
    k_steps
    · simp_all
    (try dsimp only)
    exact ret _ _ _ (En.back (by assumption)) ⟨_, _, _, _, News.get (by assumption) (by k_mem), News.get (by assumption) (by k_mem), hr⟩

theorem part03 : True := by
  w_top off
  trivial
/-- what is left of a ledger when the addresses `as` are taken out -/
inductive Sep (as : List Addr) : List (Addr × Obj) → List (Addr × Obj) → Prop
  | nil : Sep as [] []
  | drop {p l r} : p.1 ∈ as → Sep as l r → Sep as (p :: l) r
  | keep {p l r} : p.1 ∉ as → Sep as l r → Sep as (p :: l) (p :: r)
  | all {l} : (∀ p ∈ l, p.1 ∉ as) → Sep as l l
  | skip {p l r} : Sep as l r → Sep as (p :: l) r
  | gone {l} : Sep as l []
theorem Sep.spec {as : List Addr} {l r : List (Addr × Obj)} (x : Sep as l r) : ∀ p ∈ r, p ∈ l ∧ p.1 ∉ as := by
  induction x with
  | nil => intro p hp; cases hp
  | drop _ _ ih => exact fun p hp => ⟨.tail _ (ih p hp).1, (ih p hp).2⟩
  | keep h _ ih =>
    intro p hp
    rcases List.mem_cons.mp hp with rfl | hp
    · exact ⟨.head _, h⟩
    · exact ⟨.tail _ (ih p hp).1, (ih p hp).2⟩
  | all h => exact fun p hp => ⟨hp, h p hp⟩
  | skip _ ih => exact fun p hp => ⟨.tail _ (ih p hp).1, (ih p hp).2⟩
  | gone => intro p hp; cases hp
theorem off1 {a d : Nat} (h : a ≠ d) : a ∉ [d] := by simpa using h
theorem off2 {a d q : Nat} (h : a ≠ d) (h' : a ≠ q) : a ∉ [d, q] := by simp [h, h']
theorem off0 {a : Nat} : a ∉ ([] : List Nat) := List.not_mem_nil
theorem in1 {d : Nat} : d ∈ [d] := .head _
theorem in2a {d q : Nat} : d ∈ [d, q] := .head _
theorem in2b {d q : Nat} : q ∈ [d, q] := .tail _ (.head _)

/-- the two objects of the law's draw: its list, and the list of its cells -/
def DrO (q : Addr) (od oq : Obj) : Prop := ∃ D t nd vs nq, od = W.listOf #[.ref q, .int (Dr.seed D) t] nd ∧ oq = W.listOf vs.toArray nq ∧ IntsAre vs D.cells ∧ D.Ok

theorem fmodIn {a b : Int} (hb : 0 < b) : 0 ≤ a.fmod b ∧ a.fmod b < b := by
  rw [Int.fmod_eq_emod_of_nonneg _ (Int.le_of_lt hb)]
  exact ⟨Int.emod_nonneg _ (by omega), Int.emod_lt_of_pos _ hb⟩
theorem Dr.ok_next {D : Dr} (h : D.Ok) : D.next.Ok := by
  obtain ⟨cells, seed⟩ := D
  cases cells with
  | nil =>
    have := fmodIn (a := seed * 48271) (b := 2147483647) (by decide)
    exact ⟨(fun n hn => nomatch hn), this.1, this.2, Nat.zero_le _⟩
  | cons n r => exact ⟨fun k hk => h.1 k (.tail _ hk), h.2.1, h.2.2.1, by have := h.2.2.2; simp [Dr.next] at this ⊢; omega⟩

section
variable {w : World} {dp un : Nat} {fr : Option (List Env)} {gd : Option (List Code)} {s : Shared} {g : Heap} {L : Addr} {m : Str → Option Value} {mg mb : Str → Option Value} {p : Program} {loose : List Str} {mean : ExcName → Option Value}
  {Q E : Value → Shared → Prop} {d q : Addr} {news rest : List (Addr × Obj)}
theorem take_use {many : Int} {tm : Tok} {od oq : Obj} (F : Fr g L s.heap m) (X : (Mine.hd.heap_39 w.params).In g) (T : Top p loose mean mg mb g) (N : News g L s.heap news) (hO : DrO q od oq)
    (hroom : dp + 20 < recursionLimit) (hun : un + 100 < cLine) (hdq : @Ne Nat d q) (hm : 0 < many) (md : (d, od) ∈ news) (mq : (q, oq) ∈ news) (S : Sep [d, q] news rest)
    (ret : ∀ r t h' tk' od' oq', DrO q od' oq' → 0 ≤ r → r < many → Fr g L h' m → News g L h' ((d, od') :: (q, oq') :: rest) → Q (.int r t) { s with heap := h', toks := tk' }) :
    wpAny (model PySem.Challenge.rw_ae6018_01.row.prog w) (AR dp un fr gd) (call (.ref 299) [.ref d, .int many tm]) Q E s := by
  obtain ⟨D, t, nd, vs, nq, rfl, rfl, hi, ok⟩ := hO
  have hd := N _ md
  have hq := N _ mq
  refine take_ok X T F.keep hd.2.2 hq.2.2 hroom hun hdq ⟨t, nd, vs, nq, hd.1, hq.1, hi⟩ ok hm fun h' tk' t' hk hD => ?_
  obtain ⟨t2, nd2, vs2, nq2, e1, e2, hi2⟩ := hD
  have hh : ∀ a ∈ [d, q], g.get? a = none := fun a ha => by
    rcases List.mem_cons.mp ha with rfl | ha
    · exact hd.2.2
    · rcases List.mem_cons.mp ha with rfl | ha
      · exact hq.2.2
      · cases ha
  have hL : L ∉ [d, q] := fun ha => by
    rcases List.mem_cons.mp ha with rfl | ha
    · exact hd.2.1 rfl
    · rcases List.mem_cons.mp ha with rfl | ha
      · exact hq.2.1 rfl
      · cases ha
  have N2 := newsKp N hk S.spec
  refine ret _ _ h' tk' _ _ ⟨D.next, t2, nd2, vs2, nq2, rfl, rfl, hi2, Dr.ok_next ok⟩ (fmodIn hm).1 (fmodIn hm).2 (frKp F hk hh hL) fun x hx => ?_
  rcases List.mem_cons.mp hx with rfl | hx
  · exact ⟨e1, hd.2⟩
  · rcases List.mem_cons.mp hx with rfl | hx
    · exact ⟨e2, hq.2⟩
    · exact N2 x hx
end

local macro_rules | `(tactic| walk_at "M pos") => `(tactic| first | assumption | decide | omega)
local macro_rules | `(tactic| walk_at "M sep") => `(tactic| first
  | exact Sep.nil
  | (refine' Sep.drop ?a ?b; (case a => first | exact in1 | exact in2a | exact in2b); (case b => walk_at "M sep"))
  | (refine' Sep.keep ?a ?b; (case a => first | exact off0 | (refine' off1 ?o1; (case o1 => k_ne)) | (refine' off2 ?o1 ?o2; (case o1 => k_ne); (case o2 => k_ne))); (case b => walk_at "M sep"))
  | (refine' Sep.all ?a; (case a => assumption)))
local macro_rules | `(tactic| walk_at "call ref") => `(tactic| ((with_reducible show wpAny _ _ (call (Value.ref 299) [Value.ref _, Value.int _ _]) _ _ _); k_dflt (refine' take_use ?F ?X ?T ?N ?O ?r ?u ?dq ?m ?md ?mq ?S ?_; (case F => k_asm); (case X => k_asm); (case T => k_asm); (case N => k_asm); (case O => assumption); (case r => omega); (case u => omega); (case dq => assumption); (case m => walk_at "M pos"); (case md => k_mem); (case mq => k_mem); (case S => walk_at "M sep"); k_whole); intro r' t' h' tk' od' oq' O' r0' r1' F' N'))

theorem part04 : True := by
  w_top off
  trivial
theorem nmenu {r : Int} (h0 : 0 ≤ r) (h1 : r < 5) : 0 < [15, 2047, 262143, 33554431, 536870911].getD r.toNat (0 : Int) ∧ [15, 2047, 262143, 33554431, 536870911].getD r.toNat (0 : Int) ≤ 536870911 := by
  have : r = 0 ∨ r = 1 ∨ r = 2 ∨ r = 3 ∨ r = 4 := by omega
  rcases this with rfl | rfl | rfl | rfl | rfl <;> decide
local macro_rules | `(tactic| walk_at "M pos") => `(tactic| first | assumption | decide | omega | exact (nmenu (by assumption) (by assumption)).1)
local macro_rules | `(tactic| walk_at "M enter") => `(tactic| (
  (case hn => simp [*]); (case ho => k_is); (case hcd => k_is); (case hr => omega); (case hb => exact BindsTo.of_eq rfl); (case hl => exact locs rfl); (case hc => decide); (case h1 => rfl); (case h2 => rfl); (case h3 => rfl)))
section
variable {w : World} {dp un : Nat} {fr : Option (List Env)} {gd : Option (List Code)} {s : Shared} {g₀ : Heap} {mg mb : Str → Option Value} {p : Program} {loose : List Str} {mean : ExcName → Option Value}
  {Q E : Value → Shared → Prop} {d q : Addr}
set_option maxRecDepth 100000 in
set_option maxHeartbeats 2000000 in
theorem number_ok {od oq : Obj}
  (X : (Mine.hd.heap_39 w.params).In g₀) (T : Top p loose mean mg mb g₀) (st : g₀.StaysIn s.heap) (hd : g₀.get? d = none) (hq : g₀.get? q = none) (hroom : dp + 30 < recursionLimit) (hun : un + 200 < cLine)
  (hdq : @Ne Nat d q) (e1 : s.heap.get? d = some od) (e2 : s.heap.get? q = some oq) (hO : DrO q od oq)
  (ret : ∀ n t h' tk' od' oq', 1 ≤ n → n ≤ 536870911 → Kp [d, q] s.heap h' → h'.get? d = some od' → h'.get? q = some oq' → DrO q od' oq' → Q (.int n t) { s with heap := h', toks := tk' }) :
  wpAny (model PySem.Challenge.rw_ae6018_01.row.prog w) (AR dp un fr gd) (call (.ref 330) [.ref d]) Q E s := by
  revert X
  k_fill
  intro X
  k_dflt (refine' callM (binds := [(PySem.Str.ofString "draw", .ref d)]) [d, q] X T st ?hn ?ho ?hcd ?hr ?hb ?hl ?hc ?h1 ?h2 ?h3 ?_)
  walk_at "M enter"
  intro g L h₁ tk fr' En F' X' T' st'
  have N' : News g L h₁ [(d, od), (q, oq)] := En.news (by simp [e1, e2])
  clear e1 e2
  show wpAny _ _ _ _ _ _
  (try dsimp only)
  k_fold
  k_steps
  (try dsimp only)
  (rename (_ : Int) < 5 => h5)
  have hm := nmenu (by assumption) h5
  exact ret _ _ _ _ _ _ (by omega) (by omega) (En.back (by assumption)) (News.get (by assumption) (by k_mem)) (News.get (by assumption) (by k_mem)) (by assumption)
end

theorem part05 : True := by
  w_top off
  trivial
theorem frSet {g h : Heap} {L : Addr} {m : Str → Option Value} {x : Str} {v : Value} (F : Fr g L h m) (e : m x = some v) : Fr g L h (fun z => if z = x then some v else m z) := by
  have : (fun z => if z = x then some v else m z) = m := by
    funext z
    by_cases hz : z = x
    · rw [if_pos hz, hz, e]
    · rw [if_neg hz]
  rw [this]; exact F
theorem passes_noE {M : Model} {A : Around} {env : Env} : PassesOwn M A env noE := fun _ _ h => h.elim

def Hold (P : Prop) : Prop := P
theorem Hold.mk {P : Prop} (h : P) : Hold P := h
theorem Hold.out {P : Prop} (h : Hold P) : P := h
theorem frSets {g h : Heap} {L : Addr} {m : Str → Option Value} {ps : List (Str × Value)} (F : Fr g L h m) (e : ∀ p ∈ ps, m p.1 = some p.2) : Fr g L h (kstB m ps) := by
  have : kstB m ps = m := funext fun z => kstB_eq e fun _ => rfl
  rw [this]; exact F
local macro_rules | `(tactic| walk_at "exec While Name cons nil") => `(tactic| refine Hold.out ?_)
local macro_rules | `(tactic| walk_at "exec While Compare cons nil") => `(tactic| refine Hold.out ?_)
local macro_rules | `(tactic| walk_at "exec For Name Name cons nil") => `(tactic| refine Hold.out ?_)
local macro_rules | `(tactic| walk_at "exec For Name Call cons nil") => `(tactic| refine Hold.out ?_)
/-- a number's groups of seven bits, as octets -/
def vi (n : Nat) : List Int := if n > 127 then ((n % 128 + 128 : Nat) : Int) :: vi (n / 128) else [(n : Int)]
termination_by n
decreasing_by omega
theorem vi_big {n : Nat} (h : n > 127) : vi n = ((n % 128 + 128 : Nat) : Int) :: vi (n / 128) := by rw [vi, if_pos h]
theorem vi_small {n : Nat} (h : ¬ n > 127) : vi n = [(n : Int)] := by rw [vi, if_neg h]
theorem vi_len : ∀ (k n : Nat), n < 128 ^ (k + 1) → (vi n).length ≤ k + 1
  | 0, n, h => by rw [vi_small (by omega)]; simp
  | k + 1, n, h => by
    by_cases hb : n > 127
    · rw [vi_big hb, List.length_cons]
      have := vi_len k (n / 128) (by rw [Nat.pow_succ] at h; exact Nat.div_lt_of_lt_mul (by omega))
      omega
    · rw [vi_small hb]; simp
theorem vi_pos (n : Nat) : 0 < (vi n).length := by
  by_cases hb : n > 127
  · rw [vi_big hb]; simp
  · rw [vi_small hb]; simp
theorem vi_len10 {n : Nat} (h : n < 1180591620717411303424) : (vi n).length ≤ 10 := vi_len 9 n (by simpa using h)
theorem vi_range (n : Nat) : ∀ k ∈ vi n, 0 ≤ k ∧ k < 256 := by
  induction n using Nat.strongRecOn with
  | ind n ih =>
    by_cases hb : n > 127
    · rw [vi_big hb]
      intro k hk
      rcases List.mem_cons.mp hk with rfl | hk
      · omega
      · exact ih (n / 128) (by omega) k hk
    · rw [vi_small hb]
      intro k hk
      rw [List.mem_singleton] at hk
      omega

theorem fmod_nat {x : Int} {b : Nat} (h : 0 ≤ x) : x.fmod b = ((x.toNat % b : Nat) : Int) := by
  obtain ⟨k, rfl⟩ := Int.eq_ofNat_of_zero_le h
  rw [Int.fmod_eq_emod_of_nonneg _ (Int.natCast_nonneg b), Int.toNat_natCast, Int.natCast_emod]
theorem fdiv_nat {x : Int} {b : Nat} (h : 0 ≤ x) : x.fdiv b = ((x.toNat / b : Nat) : Int) := by
  obtain ⟨k, rfl⟩ := Int.eq_ofNat_of_zero_le h
  rw [Int.fdiv_eq_ediv_of_nonneg _ (Int.natCast_nonneg b), Int.toNat_natCast, Int.natCast_ediv]
theorem vi_step {x : Int} (h0 : 0 ≤ x) (h : 127 < x) : vi x.toNat = (x.fmod 128 + 128) :: vi (x.fdiv 128).toNat := by
  have e1 := fmod_nat (b := 128) h0
  have e2 := fdiv_nat (b := 128) h0
  rw [show ((128 : Nat) : Int) = 128 from rfl] at e1 e2
  rw [vi_big (by omega), e1, e2, Int.toNat_natCast]; rfl
theorem vi_last {x : Int} (h0 : 0 ≤ x) (h : ¬ 127 < x) : vi x.toNat = [x] := by
  rw [vi_small (by omega)]; congr 1; omega
theorem ints_of_push {vs : List Value} {ns : List Int} {n : Int} {t : Tok} (h : IntsAre vs ns) : IntsAre (vs ++ [.int n t]) (ns ++ [n]) := ksk_snoc h

section
variable {w : World} {dp un : Nat} {fr : Option (List Env)} {gd : Option (List Code)} {s : Shared} {g₀ : Heap} {mg mb : Str → Option Value} {p : Program} {loose : List Str} {mean : ExcName → Option Value}
  {Q E : Value → Shared → Prop}
set_option maxRecDepth 100000 in
set_option maxHeartbeats 2000000 in
theorem varint_ok {n : Int} {t : Tok}
  (X : (Mine.hd.heap_39 w.params).In g₀) (T : Top p loose mean mg mb g₀) (st : g₀.StaysIn s.heap) (hroom : dp + 30 < recursionLimit) (hun : un + 200 < cLine)
  (h0 : 0 ≤ n) (h1 : n < 1180591620717411303424)
  (ret : ∀ b t h' tk', KBw.bInts b = vi n.toNat → Kp [] s.heap h' → Q (.bytes b t) { s with heap := h', toks := tk' }) :
  wpAny (model PySem.Challenge.rw_ae6018_01.row.prog w) (AR dp un fr gd) (call (.ref 306) [.int n t]) Q E s := by
  revert X
  k_fill
  intro X
  k_dflt (refine' callM (binds := [(PySem.Str.ofString "number", .int n t)]) [] X T st ?hn ?ho ?hcd ?hr ?hb ?hl ?hc ?h1 ?h2 ?h3 ?_)
  walk_at "M enter"
  intro g L h₁ tk fr' En F' X' T' st'
  have N' : News g L h₁ [] := News.nil
  show wpAny _ _ _ _ _ _
  (try dsimp only)
  k_fold
  k_steps
  refine Hold.mk ?_
  rename_i l' _ _ _ F1 N1
  refine While_inv2 (fun k m nx => ∃ x t' vs pre c, m (PySem.Str.ofString "number") = some (.int x t') ∧ m (PySem.Str.ofString "row") = some (.ref l') ∧ nx = [(l', W.listOf vs.toArray c)] ∧ IntsAre vs pre ∧ k = x.toNat ∧ 0 ≤ x ∧ pre ++ vi x.toNat = vi n.toNat)
    F1 N1 ⟨n, t, [], [], 0, rfl, rfl, rfl, .nil, rfl, h0, rfl⟩ ?_ passes_noE
  rintro k m₁ nx h₂ tk₂ F₂ N₂ ⟨x, t', vs, pre, c, e1, e2, rfl, hi, rfl, hx0, hv⟩
  have F3 := frSets (ps := [(PySem.Str.ofString "number", .int x t'), (PySem.Str.ofString "row", .ref l')]) F₂ (by simp [e1, e2])
  clear F1 N1 F₂ e1 e2
  have hl1 := hi.length
  have hl2 := vi_len10 (n := n.toNat) (by omega)
  have hl3 := vi_pos x.toNat
  have hl4 := congrArg List.length hv
  rw [List.length_append] at hl4
  k_steps
  · (rename 127 < x => hgt); rename_i F4 N4
    have hs := vi_step hx0 hgt
    rw [List.push_toArray] at N4
    refine ⟨_, _, _, _, (x.fdiv 128).toNat, rfl, F4, N4, ?_, ?_⟩
    rotate_left
    refine ⟨x.fdiv 128, _, _, pre ++ [x.fmod 128 + 128], _, rfl, rfl, rfl, ints_of_push hi, rfl, ?_, ?_⟩
    rotate_left 2
    · have e2 := fdiv_nat (b := 128) hx0
      rw [show ((128 : Nat) : Int) = 128 from rfl] at e2
      rw [e2, Int.toNat_natCast]; omega
    · have e2 := fdiv_nat (b := 128) hx0
      rw [show ((128 : Nat) : Int) = 128 from rfl] at e2
      rw [e2]; omega
    · rw [← hv, hs]; simp
  · (rename ¬ 127 < x => hle); rename_i F4 N4
    have hs := vi_last hx0 hle
    rw [hs] at hv
    have hin : KBa.In (pre ++ [x]) := by rw [hv]; exact vi_range _
    rw [List.push_toArray] at N4
    refine KBa.make_K F4 N4 rfl ⟨_, (N4 _ (.head _)).1, rfl, _, rfl⟩ (ints_of_push hi) hin (by rw [hv]; omega) fun h' t' k F5 N5 _ => ?_
    exact ret _ _ _ _ (by rw [KBa.ints_make hin, hv]) (En.back F5)
end

theorem part06 : True := by
  w_top off
  trivial
namespace Jn
open Builtin
theorem slot : Slot "bytes" "join" "bytes.join" :=
  .of (owner := "bytes") (n := "join") (by rw [typeLookup_type, builtinLookup_eq_fast]; kernel_rfl) (by decide +kernel) (by decide +kernel) (by decide +kernel)
    (by first | exact .inl (by decide +kernel) | exact .inr (by decide +kernel)) (by rw [isSubtype_type]; kernel_rfl)
theorem type_eq : typeOf (.builtin "bytes.join") = pure (.type "method_descriptor") := by show builtinType _ = _; rw [builtinType_eq_fast]; kernel_rfl
theorem entry : entryFor table "bytes.join" = some Builtin.«bytes.join» := entryFor_of_fast (by kernel_rfl)
theorem args (a b : Value) : argsOk "bytes.join" ⟨[a, b], []⟩ := by unfold argsOk; kernel_rfl
end Jn

/-- values that are octets, and what they hold in a row -/
inductive Oct : List Value → List Int → Prop
  | nil : Oct [] []
  | cons {b : Array UInt8} {t : Tok} {vs : List Value} {ks : List Int} : Oct vs ks → Oct (.bytes b t :: vs) (KBw.bInts b ++ ks)

section
variable {prog : Program} {w : World} {A : Around} {E : Value → Shared → Prop} {s : Shared}
theorem join_method {M : Model} {b : Array UInt8} {t : Tok} {pl : Sem Bool} {Q : Value × List Value → Shared → Prop} (h : Q (.builtin "bytes.join", [.bytes b t]) s) : wpAny M A (getMethod (.bytes b t) (PySem.Str.ofString "join") pl) Q E s := by
  with_reducible exact KBd.method_of (.bytes b t) (typeIs_bytes _ _ _) Jn.slot Jn.type_eq KBd.noRef h

theorem join_take {id : String} {b : Array UInt8} {t : Tok} : Builtin.Bytes.takeBufferQuiet? id (.bytes b t) 0 = pure (some (b, none)) := by
  unfold Builtin.Bytes.takeBufferQuiet? Builtin.Bytes.takeBuffer?
  rw [KBy.special_eq KBy.look_buffer, KBy.own_buffer]
  simp only [pure_bind]
  have e : Builtin.Bytes.buffer? id (.bytes b t) (full := (0 : Int) == Builtin.Bytes.fullReadOnly) = pure (some b) := by
    have e0 : ((0 : Int) == Builtin.Bytes.fullReadOnly) = false := by decide
    rw [e0]; exact KBy.buffer_eq
  rw [e]
  rfl
theorem join_letGo {M : Model} : ∀ {ps : List (Array UInt8 × Tok)} {keep : List Value} {s : Shared} {Q : Unit → Shared → Prop}, Q () s → wpAny M A (Builtin.Bytes.joinLetGo (ps.map fun p => (Value.bytes p.1 p.2, none)) keep) Q E s
  | [], _, _, _, h => wpAny_pure h
  | p :: ps, keep, s, Q, h => by
    unfold Builtin.Bytes.joinLetGo
    dsimp only [List.map_cons]
    exact wpAny_bind (wpAny_letGo (join_letGo h))
theorem joined_ints : ∀ (ps : List (Array UInt8)) (k : Nat) (out : Array UInt8), KBw.bInts ((ps.zipIdx k).foldl (fun out p => (if p.2 > 0 then out ++ #[] else out) ++ p.1) out) = KBw.bInts out ++ ps.flatMap KBw.bInts
  | [], _, _ => by simp
  | b :: ps, k, out => by
    rw [List.zipIdx_cons, List.foldl_cons, joined_ints ps (k + 1)]
    have : (if (b, k).2 > 0 then out ++ #[] else out) = out := by split <;> simp
    rw [this, List.flatMap_cons, ← List.append_assoc]
    congr 1
    exact KBw.ints_app rfl rfl
theorem Oct.pairs {vs : List Value} {ks : List Int} (h : Oct vs ks) : ∃ ps : List (Array UInt8 × Tok), vs = ps.map (fun p => Value.bytes p.1 p.2) ∧ ks = ps.flatMap fun p => KBw.bInts p.1 := by
  induction h with
  | nil => exact ⟨[], rfl, rfl⟩
  | @cons b t vs ks _ ih => obtain ⟨ps, rfl, rfl⟩ := ih; exact ⟨(b, t) :: ps, rfl, by simp⟩

theorem join_loop {M : Model} {ps : List (Array UInt8 × Tok)} {f : Nat → Array (Array UInt8) × List (Value × Option Value) → Sem (ForInStep (Array (Array UInt8) × List (Value × Option Value)))} {Q : Array (Array UInt8) × List (Value × Option Value) → Shared → Prop}
    (step : ∀ i p, ps[i]? = some p → ∀ Q' : ForInStep (Array (Array UInt8) × List (Value × Option Value)) → Shared → Prop,
      Q' (.yield ((((ps.take i).map (·.1)).toArray).push p.1, (ps.take i).map (fun p => (Value.bytes p.1 p.2, none)) ++ [(Value.bytes p.1 p.2, none)])) s →
      wpAny M A (f i (((ps.take i).map (·.1)).toArray, (ps.take i).map (fun p => (Value.bytes p.1 p.2, none)))) Q' E s)
    (fin : Q ((ps.map (·.1)).toArray, ps.map (fun p => (Value.bytes p.1 p.2, none))) s) {N : Nat} (hN : N = ps.length) : wpAny M A (forIn [:N] (#[], []) f) Q E s := by
  subst hN
  rw [Std.Legacy.Range.forIn_eq_forIn_range']
  simp only [Std.Legacy.Range.size, Nat.sub_zero, Nat.add_sub_cancel, Nat.div_one]
  refine wpAny_forIn_list _
    (fun rest st s' => s' = s ∧ ∃ i, rest = List.range' i (ps.length - i) ∧ i ≤ ps.length ∧ st = (((ps.take i).map (·.1)).toArray, (ps.take i).map (fun p => (Value.bytes p.1 p.2, none))))
    _ ?_ ?_ _ _ ⟨rfl, 0, by simp, Nat.zero_le _, by simp⟩
  · rintro x rest st s' ⟨rfl, i, hr, hi, rfl⟩
    have hlt : i < ps.length := by
      rcases Nat.lt_or_ge i ps.length with h | h
      · exact h
      · rw [Nat.sub_eq_zero_of_le h] at hr; simp at hr
    obtain ⟨rfl, hrest⟩ : x = i ∧ rest = List.range' (i + 1) (ps.length - (i + 1)) := by
      have e : ps.length - i = (ps.length - (i + 1)) + 1 := by omega
      rw [e, List.range'_succ] at hr
      injection hr with h1 h2
      exact ⟨h1, h2⟩
    have hx : ps[x]? = some ps[x] := List.getElem?_eq_getElem hlt
    refine step x _ hx _ ⟨rfl, x + 1, hrest, hlt, ?_⟩
    have ht : ps.take (x + 1) = ps.take x ++ [ps[x]] := by rw [List.take_add_one, hx]; rfl
    rw [ht, List.push_toArray]
    simp only [List.map_append, List.map_cons, List.map_nil]
  · rintro st s' ⟨rfl, i, hr, hi, rfl⟩
    have : ps.length ≤ i := by
      rcases Nat.lt_or_ge i ps.length with h | h
      · have e : ps.length - i = (ps.length - (i + 1)) + 1 := by omega
        rw [e, List.range'_succ] at hr; cases hr
      · exact h
    rw [List.take_of_length_le this]
    exact fin
theorem join_len : ∀ (ps : List (Array UInt8 × Tok)) (k : Nat), (ps.map (·.1)).foldl (fun a b => a + b.size) k = k + (ps.flatMap fun p => KBw.bInts p.1).length
  | [], _ => by simp
  | p :: ps, k => by rw [List.map_cons, List.foldl_cons, join_len ps]; simp [KBw.ints_length]; omega

theorem join_ok {l : Addr} {n : Nat} {vs : List Value} {ks : List Int} {t : Tok} {Q : Value → Shared → Prop} (hl : s.heap.get? l = some (W.listOf vs.toArray n)) (hv : Oct vs ks) (hz : ks.length ≤ 16777216)
    (h : ∀ b t' k, KBw.bInts b = ks → Q (.bytes b t') { s with toks := k }) :
    wpAny (model prog w) A (call (.builtin "bytes.join") [.bytes #[] t, .ref l]) Q E s := by
  refine wpAny_call_entry Jn.slot (typeIs_bytes s #[] t) Jn.entry ?_ (Jn.args _ _)
  unfold Builtin.«bytes.join» Builtin.Bytes.joinM
  refine wpAny_bind (wpAny_of_eq (a := (.bytes #[] t, .ref l)) rfl ?_)
  obtain ⟨ps, rfl, rfl⟩ := hv.pairs
  have kk : (Builtin.Bytes.Kind.bytes == Builtin.Bytes.Kind.bytes) = true := by decide
  have kn : (Builtin.Bytes.Kind.bytes == Builtin.Bytes.Kind.bytearray) = false := by decide
  have hT : s.TypeIs (.ref l) "list" := ⟨_, hl, rfl⟩
  unfold Builtin.Bytes.joinItems
  refine wpAny_ite ?_
  rw [if_pos kk]
  refine wpAny_bind (wpAny_bind (wpAny_typeOf hT ?_))
  refine wpAny_ite ?_
  rw [if_pos (by decide +kernel)]
  refine wpAny_pure ?_
  refine wpAny_bind (wpAny_seqItems hl rfl ?_)
  cases ps with
  | nil =>
    show wpAny _ _ (forIn [:0] _ _ >>= fun _ => _) _ _ _
    refine wpAny_bind (join_loop (ps := []) (fun i p hp Q' hq => by simp at hp) ?_ rfl)
    dsimp only
    refine wpAny_bind (wpAny_of_eq (a := #[]) rfl ?_)
    refine wpAny_ite ?_
    rw [if_neg (by decide)]
    exact wpAny_bind (wpAny_mkBytes (wpAny_bind (wpAny_holding (wpAny_point (wpAny_bind (join_letGo (ps := []) (wpAny_pure ⟨_, rfl, h _ _ _ rfl⟩)))))) (by decide))
  | cons p ps =>
  cases ps with
  | nil =>
    show wpAny _ _ (typeOf (.bytes p.1 p.2) >>= fun _ => _) _ _ _
    refine wpAny_bind (wpAny_typeOf (typeIs_bytes s p.1 p.2) ?_)
    refine wpAny_ite ?_
    rw [if_pos (by decide +kernel)]
    exact wpAny_bind (wpAny_rule (wpAny_pure ⟨_, rfl, h _ _ _ (by simp)⟩))
  | cons p2 ps =>
    show wpAny _ _ (forIn [:_] _ _ >>= fun _ => _) _ _ _
    generalize hps : p :: p2 :: ps = qs at *
    refine wpAny_bind (join_loop (ps := qs) (fun i q hp Q' hq => ?_) ?_ (by simp))
    · refine wpAny_bind (wpAny_seqItems hl rfl ?_)
      dsimp only
      have hx : (qs.map fun p => Value.bytes p.1 p.2).toArray.getD i .none = .bytes q.1 q.2 := by
        simp [Array.getD_eq_getD_getElem?, hp]
      have ha : ((qs.take i).map fun p => (Value.bytes p.1 p.2, (none : Option Value))).any (fun x => x.1.onHeap) = false := by
        rw [List.any_map]; exact List.any_eq_false.mpr fun x _ => by simp [Value.onHeap]
      rw [hx]
      refine wpAny_ite ?_
      rw [if_neg (by rw [kn, ha]; decide)]
      refine wpAny_bind (wpAny_holding (wpAny_of_eq join_take ?_))
      dsimp only
      refine wpAny_bind (wpAny_seqItems hl rfl ?_)
      dsimp only
      refine wpAny_ite ?_
      rw [if_neg (by simp)]
      exact wpAny_pure hq
    · dsimp only
      refine wpAny_bind (wpAny_of_eq (a := #[]) rfl ?_)
      refine wpAny_ite ?_
      have e0 : Builtin.Bytes.tooLong (Array.foldl (fun x1 x2 => x1 + x2.size) ((#[] : Array UInt8).size * ((qs.map fun x => x.1).toArray.size - 1)) (qs.map fun x => x.1).toArray) = false := by
        refine KBy.tooLong_not ?_
        have := join_len qs 0
        have z : ∀ k, (#[] : Array UInt8).size * k = 0 := fun k => Nat.zero_mul k
        rw [z, ← Array.foldl_toList]
        show (qs.map fun x => x.1).foldl (fun x1 x2 => x1 + x2.size) 0 ≤ 16777216
        rw [this]; omega
      rw [if_neg (by rw [e0]; decide)]
      have e1 := joined_ints (qs.map (·.1)) 0 #[]
      have e2 : (qs.map (·.1)).flatMap KBw.bInts = qs.flatMap fun p => KBw.bInts p.1 := by rw [List.flatMap_map]
      rw [e2] at e1
      have e3 : KBw.bInts (Builtin.Bytes.joined #[] (qs.map (·.1))) = qs.flatMap fun p => KBw.bInts p.1 := e1
      refine wpAny_bind (wpAny_mkBytes (wpAny_bind (wpAny_holding (wpAny_point (wpAny_bind (join_letGo (wpAny_pure ⟨_, rfl, h _ _ _ e3⟩)))))) ?_)
      rw [← KBw.ints_length, e3, sizeLine_eq]; exact hz
end

theorem part07 : True := by
  w_top off
  trivial
def NsO (o : Obj) (m : Str → Option Value) : Prop := ∃ es ep, o.data = .dict es ep ∧ StrKeys es ∧ ∀ name, nsFind es name = m name
theorem NsO.of {h : Heap} {a : Addr} {m : Str → Option Value} (x : h.Ns a m) : ∃ o, h.get? a = some o ∧ NsO o m := let ⟨o, es, ep, ho, r⟩ := x; ⟨o, ho, es, ep, r⟩
theorem NsO.ns {h : Heap} {a : Addr} {o : Obj} {m : Str → Option Value} (x : NsO o m) (ho : h.get? a = some o) : h.Ns a m := let ⟨es, ep, r⟩ := x; ⟨o, es, ep, ho, r⟩

def fpO (g h : Heap) (fp : List Addr) : List (Addr × Obj) := fp.filterMap fun b => if (g.get? b).isNone then (h.get? b).map fun o => (b, o) else none
theorem fpO_mem {g h : Heap} {fp : List Addr} {p : Addr × Obj} (hp : p ∈ fpO g h fp) : p.1 ∈ fp ∧ g.get? p.1 = none ∧ h.get? p.1 = some p.2 := by
  obtain ⟨b, hb, e⟩ := List.mem_filterMap.mp hp
  split at e
  · rename_i hg
    obtain ⟨o, ho, rfl⟩ := Option.map_eq_some_iff.mp e
    exact ⟨hb, by simpa using hg, ho⟩
  · cases e
theorem fpO_of {g h : Heap} {fp : List Addr} {b : Addr} {o : Obj} (hb : b ∈ fp) (hg : g.get? b = none) (ho : h.get? b = some o) : (b, o) ∈ fpO g h fp :=
  List.mem_filterMap.mpr ⟨b, hb, by rw [hg, ho]; rfl⟩

def CompAtR (prog : Program) (w : World) (A : Around) (g : Heap) (L : Addr) (env : Env) (scope : Scope) (cl : List (Str × Addr)) (x : Str) (elt : Expr) (J : Nat → List Value → List (Addr × Obj) → Prop) (RR : Value → Addr → Result → Shared → Prop) (it : Value) (s₂ : Shared) : Prop :=
  ∃ I fp wr n P St m news, it = .ref I ∧ Walks prog w A I fp wr n P St ∧ n ≤ sizeLine ∧ St 0 s₂.heap ∧ (∀ b ∈ fp, b < s₂.heap.objs.size) ∧ L ∉ fp ∧ (∀ b ∈ wr, g.get? b = none) ∧ Fr g L s₂.heap m ∧ News g L s₂.heap news ∧ (∀ q ∈ news, q.1 ∉ fp) ∧ J 0 [] news ∧
    (∀ i v ys nx C oC own h tk, i < n → P i v → ys.length = i → nx.map (·.1) = news.map (·.1) → (∃ mC, NsO oC mC ∧ mC x = some v) → OwnOff ((C, oC) :: own) (news.map (·.1)) → J i ys nx → Fr g L h m → News g L h (nx ++ (C, oC) :: own) →
      wpAny (model prog w) A (eval elt (compEnvC scope cl C env)) (fun y s₄ => InvEndN g L (fun m' nx' => m' = m ∧ J (i + 1) (ys ++ [y]) nx') ((C, oC) :: own) (news.map (·.1)) { s₂ with heap := h, toks := tk } s₄) noE { s₂ with heap := h, toks := tk }) ∧
    (∀ D C mC ys nx k h' tk, ys.length = n → J n ys nx → Fr g L h' m → News g L h' ((D, W.listOf ys.toArray k) :: nx) → (∀ p ∈ nx, p.1 < D) → D < C → L < D → g.get? C = none → h'.Ns C mC → (∀ b ∈ fp, b < D) → (∀ b o, b ∈ fp → b ∉ wr → s₂.heap.get? b = some o → h'.get? b = some o) → RR (.ref D) C (.ok .next) { s₂ with heap := h', toks := tk })

theorem off_of {g h : Heap} {L : Addr} {news : List (Addr × Obj)} {a : Addr} (N : News g L h news) (ha : h.objs.size ≤ a) : a ∉ news.map (·.1) := fun q => by
  obtain ⟨p, hp, rfl⟩ := List.mem_map.mp q
  exact absurd (Heap.lt_size (N p hp).1) (Nat.not_lt.mpr ha)

set_option maxHeartbeats 1000000 in
theorem compBlockW {prog : Program} {w : World} {A : Around} {g : Heap} {L : Addr} {env : Env} {s₂ : Shared} {elt iter : Expr} {x : Str} {px : Pos} {scope : Scope} {cl : List (Str × Addr)} {pos : Pos} {RR : Value → Addr → Result → Shared → Prop} {it : Value}
    (J : Nat → List Value → List (Addr × Obj) → Prop)
    (hcell : ∀ y ∈ scope.names, y.2 ≠ .cell) (hkind : scope.kind = .function) (hx : scope.names.lookup x = some .local)
    (h₂ : CompAtR prog w A g L env scope cl x elt J RR it s₂) :
    wpAny (model prog w) A (newList []) (fun acc s₃ => wpAny (model prog w) A (newFunctionEnv scope env.globals cl [] env.qual none .none (some env)) (fun cenv s₄ =>
      codeAny (model prog w) A (.compStart (.ListComp elt [⟨.Name x px, iter, [], 0⟩] scope pos) 0 it acc { cenv with scope := relabel scope env }) (RR acc cenv.locals) s₄) noE s₃) noE s₂ := by
  obtain ⟨I, fp, wr, n, P, St, m, news, rfl, Wk, hsz, hst, hfp, hLf, hwr, F, N, hnf, hJ0, helt, hdone⟩ := h₂
  refine wpAny_newObj_type (wpAny_newFunctionEnv hcell (by intro y hy; simp at hy) (fun h₁ hns₁ hsb₁ => ?_) hkind)
  dsimp only at hns₁ hsb₁ ⊢
  generalize hH2 : s₂.heap.push { cls := .type "list", dict := none, data := .seq ([] : List Value).toArray } = H2 at hns₁ hsb₁ ⊢
  have hC : H2.objs.size = s₂.heap.objs.size + 1 := by rw [← hH2, Heap.size_push]
  generalize hD0 : s₂.heap.objs.size = D at *
  generalize hC0 : H2.objs.size = C at *
  have hDC : D ≠ C := by rw [hC]; exact Nat.ne_of_lt (Nat.lt_succ_self _)
  have old : ∀ b o, s₂.heap.get? b = some o → h₁.get? b = some o := fun b o e => by
    have hb : b < D := hD0 ▸ Heap.lt_size e
    exact hsb₁.extBut b o (by rw [hC]; exact Nat.ne_of_lt (Nat.lt_succ_of_lt hb)) (Heap.get?_push_of_some _ (hH2 ▸ Heap.get?_push_of_some _ e))
  have hacc : h₁.get? D = some (W.listOf ([] : List Value).toArray 0) := hsb₁.extBut _ _ hDC (Heap.get?_push_of_some _ (hH2 ▸ hD0 ▸ Heap.get?_push_size _ rfl))
  have hLD : L < D := hD0 ▸ F.ns.lt
  have hLC : L ≠ C := Nat.ne_of_lt (by rw [hC]; exact Nat.lt_succ_of_lt hLD)
  have hgD : g.get? D = none := Heap.get?_none_of_le (Nat.le_trans F.above (Nat.le_of_lt hLD))
  have hgC : g.get? C = none := Heap.get?_none_of_le (Nat.le_trans F.above (by rw [hC]; exact Nat.le_succ_of_le (Nat.le_of_lt hLD)))
  have hDf : D ∉ fp := fun q => Nat.lt_irrefl _ (hfp _ q)
  have hCf : C ∉ fp := fun q => by have := hfp _ q; rw [hC] at this; exact Nat.lt_irrefl _ (Nat.lt_of_succ_lt this)
  have hnD : ∀ p ∈ news, p.1 < D := fun p hp => hD0 ▸ Heap.lt_size (N p hp).1
  have hnDa : ∀ a ∈ news.map (·.1), a < D := fun a ha => by obtain ⟨p, hp, rfl⟩ := List.mem_map.mp ha; exact hnD p hp
  have hnfa : ∀ a ∈ news.map (·.1), a ∉ fp := fun a ha => by obtain ⟨p, hp, rfl⟩ := List.mem_map.mp ha; exact hnf p hp
  have F₁ : Fr g L h₁ m := by
    obtain ⟨o, es, ep, e, r⟩ := F.ns
    exact ⟨⟨o, es, ep, old _ _ e, r⟩, fun b o e => old _ _ (F.keep b o e), F.above⟩
  have N₁ : News g L h₁ news := fun p hp => ⟨old _ _ (N p hp).1, (N p hp).2⟩
  have hst₁ : St 0 h₁ := Wk.frame _ _ _ hst fun b _ o e => old b o e
  obtain ⟨oC₀, hoC₀, hNs₀⟩ := NsO.of hns₁
  have loop : codeAny (model prog w) A (.compLoop (.ListComp elt [⟨.Name x px, iter, [], 0⟩] scope pos) 0 (.ref I) (.ref D) (compEnvC scope cl C env))
      (RR (.ref D) C) { s₂ with heap := h₁, toks := s₂.toks + ([] : List (Str × Value)).length } := by
    refine codeAny_compLoop_list (fun k s' => ∃ i ys nx oC mC ep h tk, k = n - i ∧ i ≤ n ∧ ys.length = i ∧ s' = { s₂ with heap := h, toks := tk } ∧ St i h ∧ h.get? C = some oC ∧ NsO oC mC ∧ h.get? D = some (W.listOf ys.toArray ep) ∧
      nx.map (·.1) = news.map (·.1) ∧ J i ys nx ∧ Fr g L h m ∧ News g L h nx ∧ ∀ b o, b ∈ fp → b ∉ wr → s₂.heap.get? b = some o → h.get? b = some o) ?_ n ⟨0, [], news, oC₀, _, 0, h₁, _, rfl, Nat.zero_le _, rfl, rfl, hst₁, hoC₀, hNs₀, hacc, rfl, hJ0, F₁, N₁, fun b o _ _ e => old b o e⟩
    rintro k s' ⟨i, ys, nx, oC, mC, ep, h, tk, rfl, hi, hlen, rfl, hSt, hoC, hNs, hoD, hadr, hJ, Fh, Nh, hKf⟩
    have keepWr : ∀ {h2 : Heap}, (∀ b o, b ∉ wr → h.get? b = some o → h2.get? b = some o) → Fr g L h2 m ∧ News g L h2 nx ∧ h2.get? C = some oC ∧ h2.get? D = some (W.listOf ys.toArray ep) := fun {h2} hk => by
      have w1 : ∀ b, b ∉ fp → b ∉ wr := fun b hb q => hb (Wk.sub b q)
      obtain ⟨o, es, ep', e, r⟩ := Fh.ns
      refine ⟨⟨⟨o, es, ep', hk _ _ (w1 _ hLf) e, r⟩, fun b o e => hk b o (fun q => by rw [hwr b q] at e; cases e) (Fh.keep b o e), Fh.above⟩, fun p hp => ⟨hk _ _ (w1 _ ?_) (Nh p hp).1, (Nh p hp).2⟩, hk _ _ (w1 _ hCf) hoC, hk _ _ (w1 _ hDf) hoD⟩
      exact hnfa _ (hadr ▸ List.mem_map_of_mem hp)
    by_cases hin : i < n
    · refine Wk.item i _ _ _ hin hSt fun v h2 tk2 hP hSt2 hk2 => ?_
      obtain ⟨F2, N2, hC2, hD2⟩ := keepWr hk2
      refine wpAny_assign_Name (wpAny_storeName_local (lookup_relabel_local hx) (hNs.ns hC2) (fun h3 hn3 hs3 => ?_) (by simp [compEnvC, relabel, hkind]))
      dsimp only [compEnvC] at hn3 hs3
      obtain ⟨oC3, hoC3, hNs3⟩ := NsO.of hn3
      have F3 : Fr g L h3 m := F2.change hs3 (Ne.symm hLC) hgC
      have hD3 : h3.get? D = some (W.listOf ys.toArray ep) := (hs3.2 _ hDC).trans hD2
      have N3 : News g L h3 nx := fun p hp => ⟨(hs3.2 _ (by
        have : p.1 < D := hnDa _ (hadr ▸ List.mem_map_of_mem hp)
        rw [hC]; exact Nat.ne_of_lt (Nat.lt_succ_of_lt this))).trans (N2 p hp).1, (N2 p hp).2⟩
      have hown : News g L h3 (nx ++ (C, oC3) :: (D, W.listOf ys.toArray ep) :: fpO g h3 fp) := fun p hp => by
        rcases List.mem_append.mp hp with hp | hp
        · exact N3 p hp
        · rcases List.mem_cons.mp hp with rfl | hp
          · exact ⟨hoC3, Ne.symm hLC, hgC⟩
          · rcases List.mem_cons.mp hp with rfl | hp
            · exact ⟨hD3, Nat.ne_of_gt hLD, hgD⟩
            · obtain ⟨a1, a2, a3⟩ := fpO_mem hp
              exact ⟨a3, fun q => hLf (q ▸ a1), a2⟩
      have hoff : OwnOff ((C, oC3) :: (D, W.listOf ys.toArray ep) :: fpO g h3 fp) (news.map (·.1)) := fun p hp b hb => by
        have hbD := hnDa b hb
        rcases List.mem_cons.mp hp with rfl | hp
        · show C ≠ b; rw [hC]; exact Nat.ne_of_gt (Nat.lt_succ_of_lt hbD)
        · rcases List.mem_cons.mp hp with rfl | hp
          · exact Nat.ne_of_gt hbD
          · exact fun q => hnfa b hb (q ▸ (fpO_mem hp).1)
      refine wpAny_mono (helt i v ys nx C oC3 _ h3 (tk2 + 1) hin hP hlen hadr ⟨_, hNs3, by simp⟩ hoff hJ F3 hown) (fun y s₄ hy => ?_) fun _ _ z => z.elim
      obtain ⟨h4, tk4, m', newsF, nx', rfl, F4, N4, hn, ho, ha, rfl, hJ'⟩ := hy
      have hD4 := (N4 _ (ho _ (.tail _ (.head _)))).1
      refine append_at (hsz := by rw [List.size_toArray, hlen]; exact Nat.le_trans (Nat.le_of_lt hin) hsz) hD4 fun h5 hs5 hD5 => ?_
      have stepF : ∀ b, b ∈ fp → ∀ o, h2.get? b = some o → h5.get? b = some o := fun b hb o e => by
        have e3 : h3.get? b = some o := (hs3.2 b (fun q => hCf (q ▸ hb))).trans e
        refine (hs5.2 b (fun q => hDf (q ▸ hb))).trans ?_
        cases hg : g.get? b with
        | some o' =>
          have := F3.keep b o' hg
          rw [e3] at this; cases this
          exact F4.keep b o hg
        | none => exact (N4 _ (ho _ (.tail _ (.tail _ (fpO_of hb hg e3))))).1
      refine ⟨n - (i + 1), by omega, i + 1, ys ++ [y], nx', oC3, _, ep + 1, h5, tk4, rfl, hin, by simp [hlen], rfl, ?_, (hs5.2 _ (Ne.symm hDC)).trans (N4 _ (ho _ (.head _))).1, hNs3, ?_, ha, hJ', F4.change hs5 (Nat.ne_of_gt hLD) hgD, fun p hp => ⟨(hs5.2 _ ?_).trans (N4 p (hn p hp)).1, (N4 p (hn p hp)).2⟩, fun b o hb hbw e => stepF b hb o (hk2 b o hbw (hKf b o hb hbw e))⟩
      · exact Wk.frame _ _ _ hSt2 stepF
      · rw [hD5]; simp
      · exact Nat.ne_of_lt (hnDa _ (ha ▸ List.mem_map_of_mem hp))
    · have : i = n := by omega
      subst this
      refine Wk.done _ _ _ hSt fun h2 tk2 hk2 => ?_
      obtain ⟨F2, N2, hC2, hD2⟩ := keepWr hk2
      refine hdone D C mC ys nx ep h2 tk2 hlen hJ F2 (fun p hp => ?_) (fun p hp => hnDa _ (hadr ▸ List.mem_map_of_mem hp)) (by rw [hC]; exact Nat.lt_succ_self _) hLD hgC (hNs.ns hC2) hfp (fun b o hb hbw e => hk2 b o hbw (hKf b o hb hbw e))
      rcases List.mem_cons.mp hp with rfl | hp
      · exact ⟨hD2, Nat.ne_of_gt hLD, hgD⟩
      · exact N2 p hp
  exact codeAny_compStart_list loop (Wk.self 0 _ _ _ hst₁ loop)

def CompAt (prog : Program) (w : World) (A : Around) (g : Heap) (L : Addr) (env : Env) (scope : Scope) (cl : List (Str × Addr)) (x : Str) (elt : Expr) (J : Nat → List Value → List (Addr × Obj) → Prop) (m : Str → Option Value) (Q : Shared → Addr → List Value → List (Addr × Obj) → Nat → Heap → Nat → Prop) (it : Value) (s₂ : Shared) : Prop :=
  ∃ I fp wr n P St news, it = .ref I ∧ Walks prog w A I fp wr n P St ∧ n ≤ sizeLine ∧ St 0 s₂.heap ∧ (∀ b ∈ fp, b < s₂.heap.objs.size) ∧ L ∉ fp ∧ (∀ b ∈ wr, g.get? b = none) ∧ Fr g L s₂.heap m ∧ News g L s₂.heap news ∧ (∀ q ∈ news, q.1 ∉ fp) ∧ J 0 [] news ∧
    (∀ i v ys nx C oC own h tk, i < n → P i v → ys.length = i → nx.map (·.1) = news.map (·.1) → (∃ mC, NsO oC mC ∧ mC x = some v) → OwnOff ((C, oC) :: own) (news.map (·.1)) → J i ys nx → Fr g L h m → News g L h (nx ++ (C, oC) :: own) →
      wpAny (model prog w) A (eval elt (compEnvC scope cl C env)) (fun y s₄ => InvEndN g L (fun m' nx' => m' = m ∧ J (i + 1) (ys ++ [y]) nx') ((C, oC) :: own) (news.map (·.1)) { s₂ with heap := h, toks := tk } s₄) noE { s₂ with heap := h, toks := tk }) ∧
    (∀ D ys nx k h' tk, ys.length = n → J n ys nx → (∀ p ∈ nx, p.1 < D) → L < D → News g L h' ((D, W.listOf ys.toArray k) :: nx) → (∀ b o, b ∈ fp → b ∉ wr → s₂.heap.get? b = some o → h'.get? b = some o) → Q s₂ D ys nx k h' tk)

section
variable {prog : Program} {w : World} {A : Around} {g : Heap} {L : Addr} {env : Env} {s : Shared} {elt iter : Expr} {x : Str} {px : Pos} {scope : Scope} {cl : List (Str × Addr)} {pos : Pos}
theorem compEx {Q : Value → Shared → Prop} {m : Str → Option Value} (_F : Fr g L s.heap m) (J : Nat → List Value → List (Addr × Obj) → Prop)
    (hclos : closureFor scope env = pure cl) (hcell : ∀ y ∈ scope.names, y.2 ≠ .cell) (hkind : scope.kind = .function)
    (hnames : ∀ y ∈ scope.names, y.2 = .local → scope.names.lookup y.1 = some .local) (hx : scope.names.lookup x = some .local)
    (h : wpAny (model prog w) A (eval iter env) (fun xv s₁ => wpAny (model prog w) A (pyIter xv) (fun it s₂ => CompAt prog w A g L env scope cl x elt J m (fun s₃ D _ _ _ h' tk => Fr g L h' m → Q (.ref D) { s₃ with heap := h', toks := tk }) it s₂) noE s₁) noE s)
    (hs : ∀ x, foldedSetIterable iter env x = pure x := by intro _; rfl) :
    wpAny (model prog w) A (eval (.ListComp elt [⟨.Name x px, iter, [], 0⟩] scope pos) env) Q noE s := by
  rw [eval_ListComp]
  refine wpAny_comprehension_free (use := none) rfl hs hclos hkind hnames (wpAny_mono h (fun xv s₁ h₁ => wpAny_mono h₁ (fun it s₂ h₂ => ?_) fun _ _ e => e) fun _ _ e => e)
  obtain ⟨I, fp, wr, n, P, St, news, hI, Wk, hsz, hst, hfp, hLf, hwr, F, N, hnf, hJ0, helt, hdone⟩ := h₂
  refine compBlockW (RR := fun acc C => compPost (model prog w) A noE none Q acc C) J hcell hkind hx ⟨I, fp, wr, n, P, St, m, news, hI, Wk, hsz, hst, hfp, hLf, hwr, F, N, hnf, hJ0, helt, ?_⟩
  intro D C mC ys nx k h' tk hlen hJ F' N' hlt hDC hLD hgC hn hfD hKf
  have hLC : C ≠ L := Nat.ne_of_gt (Nat.lt_trans hLD hDC)
  refine ⟨mC, hn, fun h'' hs'' => hdone D ys nx k h'' tk hlen hJ hlt hLD (fun p hp => ?_) (fun b o hb hbw e => (hs''.2 _ (Nat.ne_of_lt (Nat.lt_trans (hfD b hb) hDC))).trans (hKf b o hb hbw e)) (F'.change hs'' hLC hgC)⟩
  refine ⟨(hs''.2 _ ?_).trans (N' p hp).1, (N' p hp).2⟩
  rcases List.mem_cons.mp hp with rfl | hp
  · exact Nat.ne_of_lt hDC
  · exact Nat.ne_of_lt (Nat.lt_trans (hlt p hp) hDC)
theorem compAssign {y : Str} {py spos : Pos} {Q : Flow → Shared → Prop} {m : Str → Option Value} (_F : Fr g L s.heap m) (J : Nat → List Value → List (Addr × Obj) → Prop)
    (hsw : swapsWith (.ListComp elt [⟨.Name x px, iter, [], 0⟩] scope pos) (some (.Name y py)) spos.line env = pure true)
    (hclos : closureFor scope env = pure cl) (hcell : ∀ y ∈ scope.names, y.2 ≠ .cell) (hkind : scope.kind = .function)
    (hnames : ∀ y ∈ scope.names, y.2 = .local → scope.names.lookup y.1 = some .local) (hx : scope.names.lookup x = some .local)
    (hy : env.kindOf y = some .local) (hp : (env.scope.kind == .class || (env.scope.kind == .module && env.locals != env.globals)) = false) (hL : env.locals = L)
    (h : wpAny (model prog w) A (eval iter env) (fun xv s₁ => wpAny (model prog w) A (pyIter xv) (fun it s₂ => CompAt prog w A g L env scope cl x elt J m (fun s₃ D _ _ _ h' tk => Fr g L h' (fun z => if z = y then some (.ref D) else m z) → Q .next { s₃ with heap := h', toks := tk }) it s₂) noE s₁) noE s)
    (hs : ∀ x, foldedSetIterable iter env x = pure x := by intro _; rfl) :
    wpAny (model prog w) A (exec (.Assign [.Name y py] (.ListComp elt [⟨.Name x px, iter, [], 0⟩] scope pos) spos) env) Q noE s := by
  rw [exec_Assign_Name_used _ _ _ _ hsw]
  refine wpAny_bind (wpAny_standAt (wpAny_bind ?_))
  show wpAny _ A (do let _ ← comprehension (.ListComp elt [⟨.Name x px, iter, [], 0⟩] scope pos) scope env _ (newList []) false (eval iter env) (some (assign (.Name y py) env))) _ _ s
  refine wpAny_bind (wpAny_mono (wpAny_comprehension_free (use := some (assign (.Name y py) env)) (Q := fun _ s' => Q .next s') rfl hs hclos hkind hnames
    (wpAny_mono h (fun xv s₁ h₁ => wpAny_mono h₁ (fun it s₂ h₂ => ?_) fun _ _ e => e) fun _ _ e => e)) (fun _ s' hq => wpAny_pure (wpAny_pure hq)) fun _ _ e => e)
  obtain ⟨I, fp, wr, n, P, St, news, hI, Wk, hsz, hst, hfp, hLf, hwr, F, N, hnf, hJ0, helt, hdone⟩ := h₂
  refine compBlockW (RR := fun acc C => compPost (model prog w) A noE (some (assign (.Name y py) env)) (fun _ s' => Q .next s') acc C) J hcell hkind hx ⟨I, fp, wr, n, P, St, m, news, hI, Wk, hsz, hst, hfp, hLf, hwr, F, N, hnf, hJ0, helt, ?_⟩
  intro D C mC ys nx k h' tk hlen hJ F' N' hlt hDC hLD hgC hn hfD hKf
  have hLC : C ≠ L := Nat.ne_of_gt (Nat.lt_trans hLD hDC)
  show wpAny _ A (assign (.Name y py) env (.ref D)) _ _ _
  refine wpAny_assign_Name (wpAny_storeName_local hy (hL ▸ F'.ns) (fun h₂ hn₂ hs₂ => ?_) hp)
  rw [hL] at hn₂ hs₂
  refine ⟨mC, hn.sameBut hs₂ hLC, fun h'' hs'' => hdone D ys nx k h'' _ hlen hJ hlt hLD (fun p hp => ?_) (fun b o hb hbw e => ((hs''.2 _ (Nat.ne_of_lt (Nat.lt_trans (hfD b hb) hDC))).trans (hs₂.2 _ (fun q => hLf (q ▸ hb)))).trans (hKf b o hb hbw e)) ((F'.set hn₂ hs₂).change hs'' hLC hgC)⟩
  have hC : p.1 ≠ C := by
    rcases List.mem_cons.mp hp with rfl | hp
    · exact Nat.ne_of_lt hDC
    · exact Nat.ne_of_lt (Nat.lt_trans (hlt p hp) hDC)
  exact ⟨((hs''.2 _ hC).trans (hs₂.2 _ (N' p hp).2.1)).trans (N' p hp).1, (N' p hp).2⟩
end

section
variable {prog : Program} {w : World} {A : Around} {g : Heap} {L : Addr} {env : Env} {s : Shared} {elt : Expr} {x : Str} {scope : Scope} {cl : List (Str × Addr)} {J : Nat → List Value → List (Addr × Obj) → Prop} {m : Str → Option Value} {news : List (Addr × Obj)}
  {Q : Shared → Addr → List Value → List (Addr × Obj) → Nat → Heap → Nat → Prop}
abbrev EltsOk (prog : Program) (w : World) (A : Around) (g : Heap) (L : Addr) (env : Env) (scope : Scope) (cl : List (Str × Addr)) (x : Str) (elt : Expr) (J : Nat → List Value → List (Addr × Obj) → Prop) (m : Str → Option Value) (news : List (Addr × Obj)) (s : Shared) (n : Nat) (P : Nat → Value → Prop) : Prop :=
  ∀ i v ys nx C oC own h tk, i < n → P i v → ys.length = i → nx.map (·.1) = news.map (·.1) → (∃ mC, NsO oC mC ∧ mC x = some v) → OwnOff ((C, oC) :: own) (news.map (·.1)) → J i ys nx → Fr g L h m → News g L h (nx ++ (C, oC) :: own) →
      wpAny (model prog w) A (eval elt (compEnvC scope cl C env)) (fun y s₄ => InvEndN g L (fun m' nx' => m' = m ∧ J (i + 1) (ys ++ [y]) nx') ((C, oC) :: own) (news.map (·.1)) { s with heap := h, toks := tk } s₄) noE { s with heap := h, toks := tk }
theorem fresh_none {h : Heap} (F : Fr g L h m) {a : Addr} (ha : h.objs.size ≤ a) : g.get? a = none := by
  cases q : g.get? a with
  | none => rfl
  | some o => exact absurd (Heap.lt_size (F.keep _ _ q)) (Nat.not_lt.mpr ha)
theorem comp_range {r : Addr} {a₀ b₀ : Int} {t u v : Tok} {n : Nat} (hh : A.handled = none) (hr : IsRange s.heap r a₀ b₀ 1 t u v) (hsmall : Builtin.Range.small a₀ b₀ 1 = true) (hn : Builtin.Range.rangeSize a₀ b₀ 1 = (n : Int)) (hz : n ≤ sizeLine)
    (F : Fr g L s.heap m) (N : News g L s.heap news) (hJ : J 0 [] news)
    (elt' : EltsOk prog w A g L env scope cl x elt J m news s n (fun i v => ∃ t, v = .int (a₀ + (i : Nat) * 1) t))
    (done : ∀ hp D ys nx k h' tk, ys.length = n → J n ys nx → (∀ p ∈ nx, p.1 < D) → L < D → News g L h' ((D, W.listOf ys.toArray k) :: nx) → Q { s with heap := hp } D ys nx k h' tk) :
    wpAny (model prog w) A (pyIter (.ref r)) (fun it s₂ => CompAt prog w A g L env scope cl x elt J m Q it s₂) noE s := by
  refine wpAny_pyIter_range hr hsmall ⟨_, [s.heap.objs.size], [s.heap.objs.size], n, _, _, news, rfl, Walks.range hh _ a₀ 1 n, hz, (by show IsRangeIter _ _ _ _ _; rw [hn]; simpa using Heap.get?_push_size _ rfl), ?_, ?_, ?_, F.push _,
    (fun p hp => ⟨Heap.get?_push_of_some _ (N p hp).1, (N p hp).2⟩), ?_, hJ, elt', fun D ys nx k h' tk a b c d N' _ => done _ D ys nx k h' tk a b c d N'⟩
  · intro b hb; rw [List.mem_singleton.mp hb, Heap.size_push]; exact Nat.lt_succ_self _
  · intro hm; exact absurd F.ns.lt ((List.mem_singleton.mp hm) ▸ Nat.lt_irrefl _)
  · intro b hb; rw [List.mem_singleton.mp hb]; exact fresh_none F (Nat.le_refl _)
  · intro q hq hm; exact absurd (Heap.lt_size (N q hq).1) ((List.mem_singleton.mp hm) ▸ Nat.lt_irrefl _)
theorem comp_list {l : Addr} {vs : List Value} (hh : A.handled = none) (hl : s.heap.IsList l vs.toArray) (hlL : l ≠ L) (hln : ∀ q ∈ news, q.1 ≠ l) (hz : vs.length ≤ sizeLine)
    (F : Fr g L s.heap m) (N : News g L s.heap news) (hJ : J 0 [] news)
    (elt' : EltsOk prog w A g L env scope cl x elt J m news s vs.length (fun i v => vs[i]? = some v))
    (done : ∀ hp D ys nx k h' tk, ys.length = vs.length → J vs.length ys nx → (∀ p ∈ nx, p.1 < D) → L < D → News g L h' ((D, W.listOf ys.toArray k) :: nx) → (∀ o, s.heap.get? l = some o → h'.get? l = some o) → Q { s with heap := hp } D ys nx k h' tk) :
    wpAny (model prog w) A (pyIter (.ref l)) (fun it s₂ => CompAt prog w A g L env scope cl x elt J m Q it s₂) noE s := by
  have hlt : l < s.heap.objs.size := by obtain ⟨o, ho, _⟩ := hl; exact Heap.lt_size ho
  have hne : l ≠ s.heap.objs.size := Nat.ne_of_lt hlt
  have Wk := Walks.list (prog := prog) (w := w) hh s.heap.objs.size l hne vs.toArray
  have e1 : vs.toArray.size = vs.length := by simp
  rw [e1] at Wk
  have e2 : (fun (i : Nat) v => vs.toArray[i]? = some v) = fun i v => vs[i]? = some v := by funext i v; simp
  rw [e2] at Wk
  refine wpAny_pyIter_list hl ⟨_, [s.heap.objs.size, l], [s.heap.objs.size], vs.length, _, _, news, rfl, Wk, hz, ⟨⟨_, Heap.get?_push_size _ rfl, rfl, rfl⟩, hl.at fun o e => Heap.get?_push_of_some _ e⟩, ?_, ?_, ?_, F.push _,
    (fun p hp => ⟨Heap.get?_push_of_some _ (N p hp).1, (N p hp).2⟩), ?_, hJ, elt', fun D ys nx k h' tk a b c d N' e => done _ D ys nx k h' tk a b c d N' fun o ho => e l o (.tail _ (.head _)) (fun q => hne (List.mem_singleton.mp q)) (Heap.get?_push_of_some _ ho)⟩
  · intro b hb
    rw [Heap.size_push]
    rcases List.mem_cons.mp hb with rfl | hb
    · exact Nat.lt_succ_self _
    · rw [List.mem_singleton.mp hb]; exact Nat.lt_succ_of_lt hlt
  · intro hm
    rcases List.mem_cons.mp hm with e | hm
    · exact absurd F.ns.lt (e ▸ Nat.lt_irrefl _)
    · exact hlL (List.mem_singleton.mp hm).symm
  · intro b hb; rw [List.mem_singleton.mp hb]; exact fresh_none F (Nat.le_refl _)
  · intro q hq hm
    rcases List.mem_cons.mp hm with e | hm
    · exact absurd (Heap.lt_size (N q hq).1) (e ▸ Nat.lt_irrefl _)
    · exact hln q hq (List.mem_singleton.mp hm)

variable {body : List Stmt} {Qf : Flow → Shared → Prop} {E : Value → Shared → Prop}
theorem for_list {l : Addr} {vs : List Value} (Jf : Nat → (Str → Option Value) → List (Addr × Obj) → Prop) (hh : A.handled = none) (hl : s.heap.IsList l vs.toArray) (hlL : l ≠ env.locals) (hln : ∀ q ∈ news, q.1 ≠ l)
    (F : Fr g env.locals s.heap m) (N : News g env.locals s.heap news) (hJ : Jf 0 m news)
    (turn : ∀ i v m₁ news₁ h tk own, i < vs.length → vs[i]? = some v → news₁.map (·.1) = news.map (·.1) → OwnOff own (news.map (·.1)) → Jf i m₁ news₁ → Fr g env.locals h (fun y => if y = x then some v else m₁ y) → News g env.locals h (news₁ ++ own) →
      wpAny (model prog w) A (execs body env) (InvPostN g env.locals (Jf (i + 1)) own (news.map (·.1)) { s with heap := h, toks := tk } Qf) E { s with heap := h, toks := tk })
    (done : ∀ m₁ news₁ h tk, Jf vs.length m₁ news₁ → Fr g env.locals h m₁ → News g env.locals h news₁ → Qf .next { s with heap := h, toks := tk }) :
    wpAny (model prog w) A (pyIter (.ref l)) (fun it s₂ => LoopAtV prog w A g env x body Qf E it s₂) E s := by
  have hlt : l < s.heap.objs.size := by obtain ⟨o, ho, _⟩ := hl; exact Heap.lt_size ho
  have hne : l ≠ s.heap.objs.size := Nat.ne_of_lt hlt
  have Wk := Walks.list (prog := prog) (w := w) hh s.heap.objs.size l hne vs.toArray
  have e1 : vs.toArray.size = vs.length := by simp
  rw [e1] at Wk
  have e2 : (fun (i : Nat) v => vs.toArray[i]? = some v) = fun i v => vs[i]? = some v := by funext i v; simp
  rw [e2] at Wk
  refine wpAny_pyIter_list hl (loop_invN Jf Wk ?_ ?_ ?_ ?_ ⟨⟨_, Heap.get?_push_size _ rfl, rfl, rfl⟩, hl.at fun o e => Heap.get?_push_of_some _ e⟩ (F.push _) (fun p hp => ⟨Heap.get?_push_of_some _ (N p hp).1, (N p hp).2⟩) hJ turn done)
  · intro hm
    rcases List.mem_cons.mp hm with e | hm
    · exact absurd F.ns.lt (e ▸ Nat.lt_irrefl _)
    · exact hlL (List.mem_singleton.mp hm).symm
  · intro b hb; rw [List.mem_singleton.mp hb]; exact fresh_none F (Nat.le_refl _)
  · intro q hq hm; exact absurd (Heap.lt_size (N q hq).1) ((List.mem_singleton.mp hm) ▸ Nat.lt_irrefl _)
  · intro q hq hm
    rcases List.mem_cons.mp hm with e | hm
    · exact absurd (Heap.lt_size (N q hq).1) (e ▸ Nat.lt_irrefl _)
    · exact hln q hq (List.mem_singleton.mp hm)
theorem for_range {r : Addr} {a₀ b₀ : Int} {t u v : Tok} {n : Nat} (Jf : Nat → (Str → Option Value) → List (Addr × Obj) → Prop) (hh : A.handled = none) (hr : IsRange s.heap r a₀ b₀ 1 t u v) (hsmall : Builtin.Range.small a₀ b₀ 1 = true) (hn : Builtin.Range.rangeSize a₀ b₀ 1 = (n : Int))
    (F : Fr g env.locals s.heap m) (N : News g env.locals s.heap news) (hJ : Jf 0 m news)
    (turn : ∀ i v m₁ news₁ h tk own, i < n → (∃ t, v = .int (a₀ + (i : Nat) * 1) t) → news₁.map (·.1) = news.map (·.1) → OwnOff own (news.map (·.1)) → Jf i m₁ news₁ → Fr g env.locals h (fun y => if y = x then some v else m₁ y) → News g env.locals h (news₁ ++ own) →
      wpAny (model prog w) A (execs body env) (InvPostN g env.locals (Jf (i + 1)) own (news.map (·.1)) { s with heap := h, toks := tk } Qf) E { s with heap := h, toks := tk })
    (done : ∀ m₁ news₁ h tk, Jf n m₁ news₁ → Fr g env.locals h m₁ → News g env.locals h news₁ → Qf .next { s with heap := h, toks := tk }) :
    wpAny (model prog w) A (pyIter (.ref r)) (fun it s₂ => LoopAtV prog w A g env x body Qf E it s₂) E s := by
  refine wpAny_pyIter_range hr hsmall (loop_invN Jf (Walks.range hh _ a₀ 1 n) ?_ ?_ ?_ ?_ (by show IsRangeIter _ _ _ _ _; rw [hn]; simpa using Heap.get?_push_size _ rfl) (F.push _) (fun p hp => ⟨Heap.get?_push_of_some _ (N p hp).1, (N p hp).2⟩) hJ turn done)
  · intro hm; exact absurd F.ns.lt ((List.mem_singleton.mp hm) ▸ Nat.lt_irrefl _)
  · intro b hb; rw [List.mem_singleton.mp hb]; exact fresh_none F (Nat.le_refl _)
  · intro q hq hm; exact absurd (Heap.lt_size (N q hq).1) ((List.mem_singleton.mp hm) ▸ Nat.lt_irrefl _)
  · intro q hq hm; exact absurd (Heap.lt_size (N q hq).1) ((List.mem_singleton.mp hm) ▸ Nat.lt_irrefl _)
theorem range_facts {k : Int} (h0 : 0 ≤ k) (h1 : k < 1000) : Builtin.Range.small 0 k 1 = true ∧ Builtin.Range.rangeSize 0 k 1 = (k.toNat : Int) := by
  constructor
  · exact small_one (by decide) (by decide) (by omega) (by omega)
  · unfold Builtin.Range.rangeSize
    rw [if_pos (by decide)]
    by_cases h : 0 < k
    · rw [if_pos h]; omega
    · rw [if_neg h]; omega
theorem comp_range0 {r : Addr} {k : Int} {t u v : Tok} (hr : IsRange s.heap r 0 k 1 t u v) (h0 : 0 ≤ k) (h1 : k < 1000) (hh : A.handled = none)
    (F : Fr g L s.heap m) (N : News g L s.heap news) (hJ : J 0 [] news)
    (elt' : EltsOk prog w A g L env scope cl x elt J m news s k.toNat (fun i v => ∃ t, v = .int (i : Nat) t))
    (done : ∀ hp D ys nx j h' tk, ys.length = k.toNat → J k.toNat ys nx → (∀ p ∈ nx, p.1 < D) → L < D → News g L h' ((D, W.listOf ys.toArray j) :: nx) → Q { s with heap := hp } D ys nx j h' tk) :
    wpAny (model prog w) A (pyIter (.ref r)) (fun it s₂ => CompAt prog w A g L env scope cl x elt J m Q it s₂) noE s := by
  obtain ⟨e1, e2⟩ := range_facts h0 h1
  refine comp_range hh hr e1 e2 (by rw [sizeLine_eq]; omega) F N hJ ?_ done
  have e : (fun (i : Nat) (v : Value) => ∃ t, v = .int (0 + (i : Nat) * 1) t) = fun i v => ∃ t, v = .int (i : Nat) t := by funext i v; simp
  rw [e]; exact elt'
theorem for_range0 {r : Addr} {k : Int} {t u v : Tok} (Jf : Nat → (Str → Option Value) → List (Addr × Obj) → Prop) (hr : IsRange s.heap r 0 k 1 t u v) (h0 : 0 ≤ k) (h1 : k < 1000) (hh : A.handled = none)
    (F : Fr g env.locals s.heap m) (N : News g env.locals s.heap news) (hJ : Jf 0 m news)
    (turn : ∀ i v m₁ news₁ h tk own, i < k.toNat → (∃ t, v = .int (i : Nat) t) → news₁.map (·.1) = news.map (·.1) → OwnOff own (news.map (·.1)) → Jf i m₁ news₁ → Fr g env.locals h (fun y => if y = x then some v else m₁ y) → News g env.locals h (news₁ ++ own) →
      wpAny (model prog w) A (execs body env) (InvPostN g env.locals (Jf (i + 1)) own (news.map (·.1)) { s with heap := h, toks := tk } Qf) E { s with heap := h, toks := tk })
    (done : ∀ m₁ news₁ h tk, Jf k.toNat m₁ news₁ → Fr g env.locals h m₁ → News g env.locals h news₁ → Qf .next { s with heap := h, toks := tk }) :
    wpAny (model prog w) A (pyIter (.ref r)) (fun it s₂ => LoopAtV prog w A g env x body Qf E it s₂) E s := by
  obtain ⟨e1, e2⟩ := range_facts h0 h1
  refine for_range Jf hh hr e1 e2 F N hJ ?_ done
  have e : (fun (i : Nat) (v : Value) => ∃ t, v = .int (0 + (i : Nat) * 1) t) = fun i v => ∃ t, v = .int (i : Nat) t := by funext i v; simp
  intro i v
  have e2 : (∃ t, v = .int (0 + (i : Nat) * 1) t) = ∃ t, v = .int (i : Nat) t := congrFun (congrFun e i) v
  rw [e2]; exact turn i v
end
local macro_rules | `(tactic| walk_at "M sub") => `(tactic| first
  | exact List.forall_mem_nil _
  | (refine' List.forall_mem_cons.mpr ⟨?ma, ?mb⟩; (case ma => k_mem); (case mb => walk_at "M sub"))
  | (intro _ hp; (repeat (first | exact hp | refine List.Mem.tail _ ?_))))
local macro_rules | `(tactic| walk_at "eval ListComp") => `(tactic| refine Hold.out ?_)
local macro_rules | `(tactic| walk_at "exec Assign cons ListComp") => `(tactic| refine Hold.out ?_)
local macro_rules | `(tactic| walk_at "pyIter ref") => `(tactic| refine Hold.out ?_)

theorem part08 : True := by
  w_top off
  trivial
section
variable {M : Model} {A : Around} {E : Value → Shared → Prop} {s : Shared} {g : Heap} {L : Addr} {scope : Scope} {cl : List (Str × Addr)} {C : Addr} {env : Env} {x : Str} {pos : Pos} {v : Value} {Q : Value → Shared → Prop} {news : List (Addr × Obj)} {oC : Obj} {mC : Str → Option Value}
theorem nameC_local (N : News g L s.heap news) (hm : (C, oC) ∈ news) (hN : NsO oC mC) (hv : mC x = some v) (h : Q v s)
    (hk : (compEnvC scope cl C env).scope.kind = .function) (hx : (compEnvC scope cl C env).kindOf x = some .local) (hd : (x == ("__debug__" : Str)) = false) :
    wpAny M A (eval (.Name x pos) (compEnvC scope cl C env)) Q E s := wpAny_Name (wpAny_loadName_local hk hx (hN.ns (N _ hm).1) hv h) hd
theorem nameC_cell {c : Addr} {o : Obj} (N : News g L s.heap news) (hc : cl.lookup x = some c) (hm : (c, o) ∈ news) (hdt : o.data = .cell (some v)) (h : Q v s)
    (hk : (compEnvC scope cl C env).scope.kind = .function) (hx : (compEnvC scope cl C env).kindOf x = some .cell) (hd : (x == ("__debug__" : Str)) = false) :
    wpAny M A (eval (.Name x pos) (compEnvC scope cl C env)) Q E s := wpAny_Name (wpAny_loadName_cell hk hx hc ⟨o, N.get hm, hdt⟩ h) hd
end
local macro_rules | `(tactic| walk_at "eval Name") => `(tactic| ((with_reducible show wpAny _ _ (eval (Expr.Name _ _) (compEnvC _ _ _ _)) _ _ _); k_dflt (first
  | (refine' nameC_local ?N ?m ?o ?v ?_ ?a ?b ?c; (case a => rfl); (case b => rfl); (case c => decide); (case N => k_asm); (case m => k_mem); (case o => assumption); (case v => assumption); k_whole)
  | (refine' nameC_cell ?N ?l ?m ?v ?_ ?a ?b ?c; (case a => rfl); (case b => rfl); (case c => decide); (case N => k_asm); (case l => rfl); (case m => k_mem); (case v => assumption); k_whole)
  | (refine' nameG_K ?F ?X ?T ?e ?_ ?a ?b ?c ?d; (case a => rfl); (case b => rfl); (case c => rfl); (case d => decide); (case F => k_asm); (case X => k_asm); (case T => k_asm); (case e => k_is); k_whole))))
local macro_rules | `(tactic| walk_at "M enterC") => `(tactic| (
  (case hn => simp [*]); (case ho => k_is); (case hcd => k_is); (case hr => omega); (case hb => exact BindsTo.of_eq rfl); (case hl => exact rfl); (case hd => decide +kernel); (case h1 => rfl); (case h2 => rfl); (case h3 => rfl)))
theorem newsApp {g h : Heap} {L : Addr} {a b : List (Addr × Obj)} (x : News g L h a) (y : News g L h b) : News g L h (a ++ b) := fun p hp => (List.mem_append.mp hp).elim (x p) (y p)
inductive Vl where
  | int (i : Int)
  | bool (b : Bool)
  | str (x : Str)
  | byt (b : Array UInt8)
def Vl.at : Vl → Tok → Value
  | .int i, t => .int i t
  | .bool b, _ => .bool b
  | .str x, t => .str x t
  | .byt b, t => .bytes b t

def IntOk (u : Bool) (bits i : Int) : Prop :=
  (bits = 32 ∧ u = true ∧ 0 ≤ i ∧ i < 4294967296) ∨ (bits = 32 ∧ u = false ∧ -2147483648 ≤ i ∧ i < 2147483648) ∨
  (bits = 64 ∧ u = true ∧ 0 ≤ i ∧ i < 18446744073709551616) ∨ (bits = 64 ∧ u = false ∧ -9223372036854775808 ≤ i ∧ i < 9223372036854775808)
def StrOk (x : Str) : Prop := ∃ y ∈ [Str.ofString "", Str.ofString "a", Str.ofString "ü", Str.ofString "中\x00", Str.ofString "😀b"], ∃ r : Int, 0 ≤ r ∧ r < 4 ∧ x = Txt.mul y r
/-- a kind whose numbers have no sign -/
def uns (kind : Int) : Bool := [4, 6, 7, 13].any fun x => x == kind
def VlOk (kind bits : Int) : Vl → Prop
  | .int i => kind ≠ 8 ∧ kind ≠ 9 ∧ kind ≠ 12 ∧ IntOk (uns kind) bits i
  | .bool _ => kind = 8
  | .str x => kind = 9 ∧ StrOk x
  | .byt b => kind = 12 ∧ b.size ≤ 4
theorem ite_y {c : Prop} [Decidable c] {X Y : Prop} (hc : c) (h : X) : if c then X else Y := by rw [if_pos hc]; exact h
local macro_rules | `(tactic| walk_at "ite") => `(tactic| first
  | (refine' ite_y ?c ?_; (case c => (simp only [decide_eq_true_eq, beq_iff_eq, bne_iff_ne]; omega)))
  | (refine' KBy.ite_no ?c ?_; (case c => (simp only [decide_eq_true_eq, beq_iff_eq, bne_iff_ne]; omega))))

section
variable {w : World} {dp un : Nat} {fr : Option (List Env)} {gd : Option (List Code)} {s : Shared} {g₀ : Heap} {mg mb : Str → Option Value} {p : Program} {loose : List Str} {mean : ExcName → Option Value}
  {Q E : Value → Shared → Prop} {d q : Addr}
set_option maxRecDepth 100000 in
set_option maxHeartbeats 4000000 in
theorem value_ok {od oq : Obj} {kind bits : Int} {t1 t2 : Tok}
  (X : (Mine.hd.heap_39 w.params).In g₀) (T : Top p loose mean mg mb g₀) (st : g₀.StaysIn s.heap) (hd : g₀.get? d = none) (hq : g₀.get? q = none) (hroom : dp + 30 < recursionLimit) (hun : un + 200 < cLine)
  (hdq : @Ne Nat d q) (e1 : s.heap.get? d = some od) (e2 : s.heap.get? q = some oq) (hO : DrO q od oq)
  (hk : (kind = 8 ∨ kind = 9) ∨ kind = 12 ∨ (kind ≠ 8 ∧ kind ≠ 9 ∧ kind ≠ 12 ∧ bits = 32) ∨ (kind ≠ 8 ∧ kind ≠ 9 ∧ kind ≠ 12 ∧ bits = 64))
  (ret : ∀ v t h' tk' od' oq', VlOk kind bits v → Kp [d, q] s.heap h' → h'.get? d = some od' → h'.get? q = some oq' → DrO q od' oq' → Q (Vl.at v t) { s with heap := h', toks := tk' }) :
  wpAny (model PySem.Challenge.rw_ae6018_01.row.prog w) (AR dp un fr gd) (call (.ref 318) [.ref d, .int kind t1, .int bits t2]) Q E s := by
  revert X
  k_fill
  intro X
  k_dflt (refine' callMC (binds := [(PySem.Str.ofString "draw", .ref d), (PySem.Str.ofString "kind", .int kind t1), (PySem.Str.ofString "bits", .int bits t2)]) [d, q] X T st ?hn ?ho ?hcd ?hr ?hb ?hl ?hd ?h1 ?h2 ?h3 ?_)
  walk_at "M enterC"
  intro g L h₁ tk fr' cells En F' Nc Y' X' T' st'
  have N0 : News g L h₁ [(d, od), (q, oq)] := En.news (by simp [e1, e2])
  have l1 : @LT.lt Nat _ d L ∧ @LT.lt Nat _ q L := ⟨En.lt _ _ e1, En.lt _ _ e2⟩
  k_cells Y'
  rename_i oc hoc
  have N' := newsApp Nc N0
  clear Nc N0
  simp only [List.cons_append, List.nil_append] at N'
  clear e1 e2
  show wpAny _ _ _ _ _ _
  (try dsimp only)
  k_fold
  rcases hk with (rfl | rfl) | rfl | ⟨k1, k2, k3, rfl⟩ | ⟨k1, k2, k3, rfl⟩
  · k_steps
    exact ret (.bool _) 0 _ _ _ _ rfl (En.back (by assumption)) (News.get (by assumption) (by k_mem)) (News.get (by assumption) (by k_mem)) (by assumption)
  · k_steps
    all_goals exact ret (.str _) _ _ _ _ _ ⟨rfl, _, by k_mem, _, by assumption, by assumption, rfl⟩ (En.back (by assumption)) (News.get (by assumption) (by k_mem)) (News.get (by assumption) (by k_mem)) (by assumption)
  · k_steps
    refine Hold.mk ?_
    k_dflt (refine' compEx F' (fun i ys nx => ∃ od oq, nx = [(d, od), (q, oq), (L + 1, oc)] ∧ DrO q od oq ∧ ∃ ks, IntsAre ys ks ∧ KBa.In ks) ?a1 ?a2 ?a3 ?a4 ?a5 ?_ ?a6)
    case a1 => with_unfolding_all rfl
    case a2 => decide
    case a3 => rfl
    case a4 => decide
    case a5 => rfl
    case a6 => intro _; with_unfolding_all rfl
    k_steps
    refine Hold.mk ?_
    rename_i hR F2 N2 _
    (rename (_ : Int) < 5 => h5)
    k_dflt (refine' comp_range0 ?b1 ?b2 ?b3 ?b4 ?b5 ?b6 ?b7 ?_ ?_)
    case b1 => exact hR
    case b2 => assumption
    case b3 => omega
    case b4 => rfl
    case b5 => exact F2
    case b6 => exact N2
    case b7 => exact ⟨_, _, rfl, by assumption, [], .nil, fun _ h => nomatch h⟩
    · intro i v ys nx C oC own h tk hi ⟨t, hv⟩ hlen hadr ⟨mC, hNs, hmx⟩ hoff ⟨od2, oq2, hnx, hO2, ks, hks, hin⟩ F3 N3
      subst hv hnx
      have hc1 : @Ne Nat C d ∧ @Ne Nat C q := ⟨hoff _ (.head _) d (by simp), hoff _ (.head _) q (by simp)⟩
      have hc2 : ∀ p ∈ own, p.1 ∉ [d, q] := fun p hp => off2 (hoff p (.tail _ hp) d (by simp)) (hoff p (.tail _ hp) q (by simp))
      simp only [List.cons_append, List.nil_append] at N3
      clear hadr hoff N2 F2 hR
      k_steps
      (rename News _ _ _ _ => N4)
      (rename Fr _ _ _ _ => F4)
      (rename DrO _ _ _ => O4)
      have hm := fun a : Int => fmodIn (a := a) (b := 256) (by decide)
      exact ⟨_, _, _, _, [(d, _), (q, _), (L + 1, oc)], rfl, F4, N4, (by walk_at "M sub"), (by walk_at "M sub"), (by rfl), rfl, _, _, rfl, O4, _, ints_of_push hks, fun k hk => (List.mem_append.mp hk).elim (hin k) fun e => (List.mem_singleton.mp e) ▸ hm _⟩
    · intro hp D ys nx j h' tk hlen ⟨od2, oq2, hnx, hO2, ks, hks, hin⟩ hlt hLD N3 F3
      subst hnx
      clear N2 F2 hR
      have hl2 := hks.length
      k_steps
      exact ret (.byt (byteArr ks)) _ _ _ _ _ ⟨rfl, by rw [byteArr_size]; omega⟩ (En.back (by assumption)) (News.get (by assumption) (by k_mem)) (News.get (by assumption) (by k_mem)) hO2
  · have pA : (1 : Int) * 2 ^ Int.toNat 32 = 4294967296 := by decide
    have pB : (1 : Int) * 2 ^ (32 - 1 : Int).toNat = 2147483648 := by decide
    k_steps
    all_goals (
      (try dsimp only)
      (rename DrO _ _ _ => O4)
      simp only [pA, pB] at *
      refine ret (.int _) _ _ _ _ _ ⟨k1, k2, k3, ?_⟩ (En.back (by assumption)) (News.get (by assumption) (by k_mem)) (News.get (by assumption) (by k_mem)) O4
      first
        | exact .inl ⟨rfl, by assumption, by omega, by omega⟩
        | exact .inr (.inl ⟨rfl, by assumption, by omega, by omega⟩)
        | exact .inr (.inr (.inl ⟨rfl, by assumption, by omega, by omega⟩))
        | exact .inr (.inr (.inr ⟨rfl, by assumption, by omega, by omega⟩)))
  · have pA : (1 : Int) * 2 ^ Int.toNat 64 = 18446744073709551616 := by decide
    have pB : (1 : Int) * 2 ^ (64 - 1 : Int).toNat = 9223372036854775808 := by decide
    k_steps
    all_goals (
      (try dsimp only)
      (rename DrO _ _ _ => O4)
      simp only [pA, pB] at *
      refine ret (.int _) _ _ _ _ _ ⟨k1, k2, k3, ?_⟩ (En.back (by assumption)) (News.get (by assumption) (by k_mem)) (News.get (by assumption) (by k_mem)) O4
      first
        | exact .inl ⟨rfl, by assumption, by omega, by omega⟩
        | exact .inr (.inl ⟨rfl, by assumption, by omega, by omega⟩)
        | exact .inr (.inr (.inl ⟨rfl, by assumption, by omega, by omega⟩))
        | exact .inr (.inr (.inr ⟨rfl, by assumption, by omega, by omega⟩)))
end

theorem part09 : True := by
  w_top off
  trivial
/-- a text's octets -/
def enc (x : Str) : Array UInt8 := x.cps.foldl (fun acc y => acc ++ (Str.utf8Of y).toArray) #[]
set_option maxHeartbeats 1000000 in
theorem enc_eq {x : Str} {t : Tok} (hx : StrOk x) : Builtin._codecs.encodeNarrow "str.encode" Builtin._codecs.utf8Codec none (.str x t) x = pure (enc x) ∧ (enc x).size ≤ 20 := by
  obtain ⟨y, hy, r, h0, h1, rfl⟩ := hx
  have h : r = 0 ∨ r = 1 ∨ r = 2 ∨ r = 3 := by omega
  simp only [List.mem_cons, List.not_mem_nil, or_false] at hy
  rcases hy with rfl | rfl | rfl | rfl | rfl <;> rcases h with rfl | rfl | rfl | rfl <;> exact ⟨by kernel_rfl, by decide +kernel⟩
section
variable {prog : Program} {w : World} {A : Around} {E : Value → Shared → Prop} {s : Shared}
theorem encode_ok {x : Str} {t u : Tok} {Q : Value → Shared → Prop} (hx : StrOk x) (h : ∀ t' k, (enc x).size ≤ 20 → Q (.bytes (enc x) t') { s with toks := k }) :
    wpAny (model prog w) A (call (.builtin "str.encode") [.str x t, .str (PySem.Str.ofString "utf-8") u]) Q E s := by
  obtain ⟨e1, e2⟩ := enc_eq (t := t) hx
  refine wpAny_call_entry PySem.F.slot_str_encode (typeIs_str s x t) PySem.F.entry_str_encode ?_ (PySem.F.args_str_encode_2 _ _)
  unfold Builtin.«str.encode»
  refine wpAny_bind (wpAny_of_eq (a := (.str x t, x, [.str (PySem.Str.ofString "utf-8") u])) rfl ?_)
  dsimp only
  refine wpAny_bind (wpAny_of_eq (a := [some (.str (PySem.Str.ofString "utf-8") u), none]) (by kernel_rfl) ?_)
  dsimp only
  refine wpAny_bind (wpAny_of_eq (a := some (PySem.Str.ofString "utf-8")) (by kernel_rfl) ?_)
  refine wpAny_bind (wpAny_of_eq (a := none) rfl ?_)
  have e3 : Builtin._codecs.encodeRoad "str.encode" (.str x t) x (PySem.Str.ofString "utf-8") none = (Builtin._codecs.encodeNarrow "str.encode" Builtin._codecs.utf8Codec none (.str x t) x >>= fun b => mkBytes b) := by kernel_rfl
  show wpAny _ _ (Builtin._codecs.encodeRoad "str.encode" (.str x t) x (PySem.Str.ofString "utf-8") none >>= fun v => ret v) _ _ _
  rw [e3, e1]
  refine wpAny_bind (wpAny_bind (wpAny_pure ?_))
  exact wpAny_mkBytes (wpAny_pure ⟨_, rfl, h _ _ e2⟩) (by rw [sizeLine_eq]; omega)
theorem str_method_of {M : Model} {pl : Sem Bool} {Q : Value × List Value → Shared → Prop} {name : PySem.Str} {id : String} (v : Value) (hT : s.TypeIs v "str") (slot : Slot "str" name id) (ty : typeOf (.builtin id) = pure (.type "method_descriptor"))
    (hd : ∀ a, v = .ref a → ∃ o, s.heap.get? a = some o ∧ o.dict = none) (h : Q (.builtin id, [v]) s) : wpAny M A (getMethod v name pl) Q E s :=
  getMethod_builtin hT PySem.F.plainAttrs_str slot ty hd h
theorem noRefS {x : Str} {t : Tok} : ∀ a, Value.str x t = .ref a → ∃ o, s.heap.get? a = some o ∧ o.dict = none := fun _ e => nomatch e
theorem encode_method {M : Model} {x : Str} {t : Tok} {pl : Sem Bool} {Q : Value × List Value → Shared → Prop} (h : Q (.builtin "str.encode", [.str x t]) s) : wpAny M A (getMethod (.str x t) (PySem.Str.ofString "encode") pl) Q E s := by
  with_reducible exact str_method_of (.str x t) (typeIs_str _ _ _) PySem.F.slot_str_encode PySem.F.type_str_encode noRefS h
end
local macro_rules | `(tactic| walk_at "getMethod str") => `(tactic| ((with_reducible show wpAny _ _ (getMethod (Value.str _ _) (PySem.Str.ofString "encode") _) _ _ _); refine encode_method ?_))
local macro_rules | `(tactic| walk_at "call builtin:str.encode") => `(tactic| (k_dflt (refine' encode_ok ?x ?_; (case x => assumption)); intro _ _ _))
local macro_rules | `(tactic| walk_at "getMethod bytes") => `(tactic| ((with_reducible show wpAny _ _ (getMethod (Value.bytes _ _) (PySem.Str.ofString "join") _) _ _ _); refine join_method ?_))
local macro_rules | `(tactic| walk_at "call builtin:bytes.join") => `(tactic| refine Hold.out ?_)

theorem part10 : True := by
  w_top off
  trivial
section
variable {w : World} {dp un : Nat} {fr : Option (List Env)} {gd : Option (List Code)} {s : Shared} {g : Heap} {L : Addr} {m : Str → Option Value} {mg mb : Str → Option Value} {p : Program} {loose : List Str} {mean : ExcName → Option Value}
  {Q E : Value → Shared → Prop} {news : List (Addr × Obj)}
theorem frKp0 {h h' : Heap} (F : Fr g L h m) (k : Kp [] h h') : Fr g L h' m := frKp F k (fun _ ha => nomatch ha) List.not_mem_nil
theorem newsKp0 {h h' : Heap} (N : News g L h news) (k : Kp [] h h') : News g L h' news := newsKp N k fun _ hp => ⟨hp, List.not_mem_nil⟩
theorem varint_use {n : Int} {t : Tok} (F : Fr g L s.heap m) (X : (Mine.hd.heap_39 w.params).In g) (T : Top p loose mean mg mb g) (N : News g L s.heap news)
    (hroom : dp + 30 < recursionLimit) (hun : un + 200 < cLine) (h0 : 0 ≤ n) (h1 : n < 1180591620717411303424)
    (ret : ∀ b t h' tk', KBw.bInts b = vi n.toNat → b.size ≤ 10 → Fr g L h' m → News g L h' news → Q (.bytes b t) { s with heap := h', toks := tk' }) :
    wpAny (model PySem.Challenge.rw_ae6018_01.row.prog w) (AR dp un fr gd) (call (.ref 306) [.int n t]) Q E s :=
  varint_ok X T F.keep hroom hun h0 h1 fun b t h' tk' hb hk => ret b t h' tk' hb (by rw [← KBw.ints_length, hb]; exact vi_len10 (by omega)) (frKp0 F hk) (newsKp0 N hk)
end
local macro_rules | `(tactic| walk_at "M rng") => `(tactic| first | assumption | omega | exact And.left (by assumption) | exact And.right (by assumption))
local macro_rules | `(tactic| walk_at "call ref") => `(tactic| ((with_reducible show wpAny _ _ (call (Value.ref 306) [Value.int _ _]) _ _ _); k_dflt (refine' varint_use ?F ?X ?T ?N ?r ?u ?a ?b ?_; (case F => k_asm); (case X => k_asm); (case T => k_asm); (case N => k_asm); (case r => omega); (case u => omega); (case a => walk_at "M rng"); (case b => walk_at "M rng"); k_whole); intro b' t' h' tk' B' Bz' F' N'))
local macro_rules | `(tactic| walk_at "binaryOp Add bytes bytes") => `(tactic| (k_dflt (refine' KBy.add_bytes ?z ?_; (case z => omega)); intro _ _))
def BareOk (kind : Int) : Vl → Prop
  | .int i => kind ≠ 8 ∧ kind ≠ 9 ∧ kind ≠ 12 ∧ -9223372036854775808 ≤ i ∧ i < 18446744073709551616
  | .bool _ => kind = 8
  | .str x => kind = 9 ∧ StrOk x
  | .byt b => kind = 12 ∧ b.size ≤ 4
theorem VlOk.bare {kind bits : Int} {v : Vl} (h : VlOk kind bits v) : BareOk kind v := by
  cases v with
  | int i =>
    obtain ⟨a, b, c, d⟩ := h
    refine ⟨a, b, c, ?_⟩
    rcases d with ⟨_, _, d⟩ | ⟨_, _, d⟩ | ⟨_, _, d⟩ | ⟨_, _, d⟩ <;> omega
  | bool b => exact h
  | str x => exact h
  | byt b => exact h
def zz (i : Int) : Int := if 0 ≤ i then 2 * i else -2 * i - 1
theorem el_oct {i P M : Int} (hP : P = M) (h0 : 0 ≤ M) (j : Nat) : Builtin.bitAnd ((i.fmod P).fdiv (2 ^ (8 * (j : Int)).toNat)) 255 = i % M / 256 ^ j % 256 := by
  subst hP
  have e1 : (8 * (j : Int)).toNat = 8 * j := by omega
  have e2 : (2 : Int) ^ (8 * j) = 256 ^ j := by rw [Int.pow_mul]; rfl
  have e3 : (0 : Int) ≤ 256 ^ j := Int.le_of_lt (Int.pow_pos (by decide))
  rw [bitAnd_m8, e1, e2, Int.fmod_eq_emod_of_nonneg _ h0, Int.fdiv_eq_ediv_of_nonneg _ e3]
theorem octs_in (x : Int) (n : Nat) : KBa.In ((List.range n).map fun k => x / 256 ^ k % 256) := by
  intro k hk
  obtain ⟨j, _, rfl⟩ := List.mem_map.mp hk
  exact ⟨Int.emod_nonneg _ (by decide), Int.emod_lt_of_pos _ (by decide)⟩
theorem ints_range {ys : List Value} {f : Nat → Int} {j : Nat} {y : Int} {t : Tok} (h : IntsAre ys ((List.range j).map f)) (e : y = f j) : IntsAre (ys ++ [.int y t]) ((List.range (j + 1)).map f) := by
  subst e
  rw [List.range_succ, List.map_append]
  exact ints_of_push h
/-- the octets of a bare value -/
def bare (kind : Int) : Vl → List Int
  | .str x => vi (enc x).size ++ KBw.bInts (enc x)
  | .byt b => vi b.size ++ KBw.bInts b
  | .bool b => [if b then 1 else 0]
  | .int i => if kind = 17 ∨ kind = 18 then vi (zz i).toNat else if kind = 7 ∨ kind = 15 then KTBy.little 4 (i % 4294967296) else if kind = 6 ∨ kind = 16 then KTBy.little 8 (i % 18446744073709551616) else vi (i % 18446744073709551616).toNat

theorem any2 {a b k : Int} : ([a, b].any fun x => x == k) = true ↔ k = a ∨ k = b := by
  show ((a == k) || ((b == k) || false)) = true ↔ _
  rw [Bool.or_false, Bool.or_eq_true, beq_iff_eq, beq_iff_eq]
  exact ⟨fun h => h.imp Eq.symm Eq.symm, fun h => h.imp Eq.symm Eq.symm⟩
theorem any2f {a b k : Int} : ([a, b].any fun x => x == k) = false ↔ ¬ (k = a ∨ k = b) := by rw [← Bool.not_eq_true, any2]
section
variable {kind i : Int}
theorem bare_zz (h1 : ([17, 18].any fun x => x == kind) = true) : bare kind (.int i) = vi (zz i).toNat := if_pos (any2.mp h1)
theorem bare_4 (h1 : ([17, 18].any fun x => x == kind) = false) (h2 : ([7, 15].any fun x => x == kind) = true) : bare kind (.int i) = KTBy.little 4 (i % 4294967296) :=
  (if_neg (any2f.mp h1)).trans (if_pos (any2.mp h2))
theorem bare_8 (h1 : ([17, 18].any fun x => x == kind) = false) (h2 : ([7, 15].any fun x => x == kind) = false) (h3 : ([6, 16].any fun x => x == kind) = true) : bare kind (.int i) = KTBy.little 8 (i % 18446744073709551616) :=
  (if_neg (any2f.mp h1)).trans ((if_neg (any2f.mp h2)).trans (if_pos (any2.mp h3)))
theorem bare_v (h1 : ([17, 18].any fun x => x == kind) = false) (h2 : ([7, 15].any fun x => x == kind) = false) (h3 : ([6, 16].any fun x => x == kind) = false) : bare kind (.int i) = vi (i % 18446744073709551616).toNat :=
  (if_neg (any2f.mp h1)).trans ((if_neg (any2f.mp h2)).trans (if_neg (any2f.mp h3)))
end
section
variable {w : World} {dp un : Nat} {fr : Option (List Env)} {gd : Option (List Code)} {s : Shared} {g₀ : Heap} {mg mb : Str → Option Value} {p : Program} {loose : List Str} {mean : ExcName → Option Value}
  {Q E : Value → Shared → Prop}
set_option maxRecDepth 100000 in
set_option maxHeartbeats 4000000 in
theorem bare_ok {kind : Int} {v : Vl} {t1 t2 : Tok}
  (X : (Mine.hd.heap_39 w.params).In g₀) (T : Top p loose mean mg mb g₀) (st : g₀.StaysIn s.heap) (hroom : dp + 40 < recursionLimit) (hun : un + 300 < cLine)
  (hv : BareOk kind v)
  (ret : ∀ b t h' tk', KBw.bInts b = bare kind v → Kp [] s.heap h' → Q (.bytes b t) { s with heap := h', toks := tk' }) :
  wpAny (model PySem.Challenge.rw_ae6018_01.row.prog w) (AR dp un fr gd) (call (.ref 323) [.int kind t1, v.at t2]) Q E s := by
  revert X
  k_fill
  intro X
  k_dflt (refine' callMC (binds := [(PySem.Str.ofString "kind", .int kind t1), (PySem.Str.ofString "value", v.at t2)]) [] X T st ?hn ?ho ?hcd ?hr ?hb ?hl ?hd ?h1 ?h2 ?h3 ?_)
  walk_at "M enterC"
  intro g L h₁ tk fr' cells En F' N' Y' X' T' st'
  k_cells Y'
  rename_i oc hoc
  show wpAny _ _ _ _ _ _
  (try dsimp only)
  k_fold
  cases v with
  | str x =>
    obtain ⟨rfl, hx⟩ := hv
    dsimp only [Vl.at] at *
    k_steps
    exact ret _ _ _ _ (KBw.ints_app (by assumption) rfl) (En.back (by assumption))
  | byt b =>
    obtain ⟨rfl, hx⟩ := hv
    dsimp only [Vl.at] at *
    k_steps
    exact ret _ _ _ _ (KBw.ints_app (by assumption) rfl) (En.back (by assumption))
  | bool b =>
    obtain rfl := hv
    dsimp only [Vl.at] at *
    k_steps
    · (try dsimp only)
      exact ret _ _ _ _ (by simp only [bare, *]; rfl) (En.back (by assumption))
    · (try dsimp only)
      exact ret _ _ _ _ (by simp only [bare, *]; rfl) (En.back (by assumption))
  | int i =>
    obtain ⟨k1, k2, k3, i0, i1⟩ := hv
    dsimp only [Vl.at] at *
    have e64 : i.fmod (1 * 2 ^ Int.toNat 64) = i % 18446744073709551616 := by
      rw [show (1 : Int) * 2 ^ Int.toNat 64 = 18446744073709551616 from by decide]
      exact Int.fmod_eq_emod_of_nonneg _ (by decide)
    have r64 : 0 ≤ i.fmod (1 * 2 ^ Int.toNat 64) ∧ i.fmod (1 * 2 ^ Int.toNat 64) < 1180591620717411303424 := by rw [e64]; omega
    k_steps
    · refine ret _ _ _ _ ?_ (En.back (by assumption))
      (rename 0 ≤ i => hi)
      rw [bare_zz (by assumption), zz, if_pos hi]
      assumption
    · refine ret _ _ _ _ ?_ (En.back (by assumption))
      (rename ¬ 0 ≤ i => hi)
      rw [bare_zz (by assumption), zz, if_neg hi]
      assumption
    · refine Hold.mk ?_
      (rename Fr _ _ _ _ => F0)
      k_dflt (refine' compEx F0 (fun j ys nx => nx = [(L + 1, oc)] ∧ IntsAre ys ((List.range j).map fun k => i % 4294967296 / 256 ^ k % 256)) ?a1 ?a2 ?a3 ?a4 ?a5 ?_ ?a6)
      case a1 => with_unfolding_all rfl
      case a2 => decide
      case a3 => rfl
      case a4 => decide
      case a5 => rfl
      case a6 => intro _; with_unfolding_all rfl
      k_steps
      refine Hold.mk ?_
      rename_i hR F2 N2 _
      k_dflt (refine' comp_range0 ?b1 ?b2 ?b3 ?b4 ?b5 ?b6 ?b7 ?_ ?_)
      case b1 => exact hR
      case b2 => decide
      case b3 => decide
      case b4 => rfl
      case b5 => exact F2
      case b7 => exact ⟨rfl, .nil⟩
      case b6 => exact fun p hp => N2 p (by revert p; walk_at "M sub")
      · intro j v ys nx C oC own h tk hi ⟨t, hv⟩ hlen hadr ⟨mC, hNs, hmx⟩ hoff ⟨hnx, hks⟩ F3 N3
        subst hv hnx
        simp only [List.cons_append, List.nil_append] at N3
        clear hadr hoff N2 F2 hR
        have hj : j < 4 := hi
        k_steps
        (rename News _ _ _ _ => N4)
        (rename Fr _ _ _ _ => F4)
        exact ⟨_, _, _, _, [(L + 1, oc)], rfl, F4, N4, (by walk_at "M sub"), (by walk_at "M sub"), (by rfl), rfl, rfl, ints_range hks (el_oct (by decide) (by decide) j)⟩
      · intro hp D ys nx k h' tk hlen ⟨hnx, hks⟩ hlt hLD N3 F3
        subst hnx
        clear N2 F2 hR
        have hin := octs_in (i % 4294967296) 4
        k_steps
        refine ret _ _ _ _ ?_ (En.back (by assumption))
        refine (KBa.ints_make hin).trans ?_
        rw [bare_4 (by assumption) (by assumption), KTBy.little_eq]
    · refine Hold.mk ?_
      (rename Fr _ _ _ _ => F0)
      k_dflt (refine' compEx F0 (fun j ys nx => nx = [(L + 1, oc)] ∧ IntsAre ys ((List.range j).map fun k => i % 18446744073709551616 / 256 ^ k % 256)) ?a1 ?a2 ?a3 ?a4 ?a5 ?_ ?a6)
      case a1 => with_unfolding_all rfl
      case a2 => decide
      case a3 => rfl
      case a4 => decide
      case a5 => rfl
      case a6 => intro _; with_unfolding_all rfl
      k_steps
      refine Hold.mk ?_
      rename_i hR F2 N2 _
      k_dflt (refine' comp_range0 ?b1 ?b2 ?b3 ?b4 ?b5 ?b6 ?b7 ?_ ?_)
      case b1 => exact hR
      case b2 => decide
      case b3 => decide
      case b4 => rfl
      case b5 => exact F2
      case b7 => exact ⟨rfl, .nil⟩
      case b6 => exact fun p hp => N2 p (by revert p; walk_at "M sub")
      · intro j v ys nx C oC own h tk hi ⟨t, hv⟩ hlen hadr ⟨mC, hNs, hmx⟩ hoff ⟨hnx, hks⟩ F3 N3
        subst hv hnx
        simp only [List.cons_append, List.nil_append] at N3
        clear hadr hoff N2 F2 hR
        have hj : j < 8 := hi
        k_steps
        (rename News _ _ _ _ => N4)
        (rename Fr _ _ _ _ => F4)
        exact ⟨_, _, _, _, [(L + 1, oc)], rfl, F4, N4, (by walk_at "M sub"), (by walk_at "M sub"), (by rfl), rfl, rfl, ints_range hks (el_oct (by decide) (by decide) j)⟩
      · intro hp D ys nx k h' tk hlen ⟨hnx, hks⟩ hlt hLD N3 F3
        subst hnx
        clear N2 F2 hR
        have hin := octs_in (i % 18446744073709551616) 8
        k_steps
        refine ret _ _ _ _ ?_ (En.back (by assumption))
        refine (KBa.ints_make hin).trans ?_
        rw [bare_8 (by assumption) (by assumption) (by assumption), KTBy.little_eq]
    · refine ret _ _ _ _ ?_ (En.back (by assumption))
      rw [bare_v (by assumption) (by assumption) (by assumption)]
      rw [← e64]
      assumption
end

theorem part11 : True := by
  w_top off
  trivial
def kdTab : List (Int × Int × Int) := [(3, 0, 64), (4, 0, 64), (5, 0, 32), (6, 1, 64), (7, 5, 32), (8, 0, 1), (9, 2, 0), (12, 2, 0), (13, 0, 32), (14, 0, 32), (15, 5, 32), (16, 1, 64), (17, 0, 32), (18, 0, 64)]
def tup3 (x : Int × Int × Int) (t1 t2 t3 : Tok) : Obj := { cls := .type "tuple", data := .seq #[.int x.1 t1, .int x.2.1 t2, .int x.2.2 t3] }
/-- the list of the kinds, and its tuples -/
inductive KdRows (K : List (Addr × Obj)) : List Value → List (Int × Int × Int) → Prop
  | nil : KdRows K [] []
  | cons {T : Addr} {x : Int × Int × Int} {t1 t2 t3 : Tok} {vs : List Value} {xs : List (Int × Int × Int)} : (T, tup3 x t1 t2 t3) ∈ K → KdRows K vs xs → KdRows K (.ref T :: vs) (x :: xs)
def KindsL (l : Addr) (K : List (Addr × Obj)) : Prop := ∃ vs n, (l, W.listOf vs.toArray n) ∈ K ∧ KdRows K vs kdTab
section
variable {w : World} {dp un : Nat} {fr : Option (List Env)} {gd : Option (List Code)} {s : Shared} {g₀ : Heap} {mg mb : Str → Option Value} {p : Program} {loose : List Str} {mean : ExcName → Option Value}
  {Q E : Value → Shared → Prop}
set_option maxRecDepth 100000 in
set_option maxHeartbeats 4000000 in
theorem kinds_ok
  (X : (Mine.hd.heap_39 w.params).In g₀) (T : Top p loose mean mg mb g₀) (st : g₀.StaysIn s.heap) (hroom : dp + 30 < recursionLimit) (hun : un + 200 < cLine)
  (ret : ∀ l K h' tk', KindsL l K → (∀ p ∈ K, h'.get? p.1 = some p.2 ∧ s.heap.get? p.1 = none) → Kp [] s.heap h' → Q (.ref l) { s with heap := h', toks := tk' }) :
  wpAny (model PySem.Challenge.rw_ae6018_01.row.prog w) (AR dp un fr gd) (call (.ref 313) []) Q E s := by
  revert X
  k_fill
  intro X
  k_dflt (refine' callM (binds := []) [] X T st ?hn ?ho ?hcd ?hr ?hb ?hl ?hc ?h1 ?h2 ?h3 ?_)
  walk_at "M enter"
  intro g L h₁ tk fr' En F' X' T' st'
  have N' : News g L h₁ [] := News.nil
  show wpAny _ _ _ _ _ _
  (try dsimp only)
  k_fold
  k_steps
  rename (News g L _ _) => N9
  rename (Fr g L _ _) => F9
  refine ret _ _ _ _ ⟨_, _, List.mem_cons_self .., ?_⟩ (fun q hq => ⟨(N9 q hq).1, En.fresh (h' := s.heap) List.not_mem_nil (N9 q hq).2.2⟩) (En.back F9)
  repeat (first | exact KdRows.nil | refine KdRows.cons (t1 := _) (t2 := _) (t3 := _) (by k_mem) ?_)
end

theorem part12 : True := by
  w_top off
  trivial
section
variable {K : List (Addr × Obj)}
theorem KdRows.at {vs : List Value} {xs : List (Int × Int × Int)} (h : KdRows K vs xs) : vs.length = xs.length ∧ ∀ i, i < xs.length → ∃ T x t1 t2 t3, vs[i]? = some (.ref T) ∧ x ∈ xs ∧ (T, tup3 x t1 t2 t3) ∈ K := by
  induction h with
  | nil => exact ⟨rfl, fun i h => nomatch h⟩
  | cons hm _ ih =>
    refine ⟨by simp [ih.1], fun i hi => ?_⟩
    cases i with
    | zero => exact ⟨_, _, _, _, _, rfl, .head _, hm⟩
    | succ i =>
      obtain ⟨T, x, t1, t2, t3, e, hx, hT⟩ := ih.2 i (by simpa using hi)
      exact ⟨T, x, t1, t2, t3, by simpa using e, .tail _ hx, hT⟩
end
/-- an address that is none of a ledger's -/
def Off (T : Nat) : List (Addr × Obj) → Prop
  | [] => True
  | p :: r => @Ne Nat T p.1 ∧ Off T r
theorem Off.of {T : Nat} : ∀ {l : List (Addr × Obj)}, (∀ p ∈ l, T ≠ p.1) → Off T l
  | [], _ => True.intro
  | _ :: _, h => ⟨h _ (.head _), Off.of fun p hp => h p (.tail _ hp)⟩
/-- a ledger without its tail -/
inductive Cut (K : List (Addr × Obj)) : List (Addr × Obj) → List (Addr × Obj) → Prop
  | nil : Cut K K []
  | cons {p l r} : Cut K l r → Cut K (p :: l) (p :: r)
theorem Cut.spec {K l r : List (Addr × Obj)} (h : Cut K l r) : (∀ p ∈ r, p ∈ l) ∧ ∀ p ∈ K, p ∈ l := by
  induction h with
  | nil => exact ⟨(fun p hp => nomatch hp), fun p hp => hp⟩
  | cons _ ih => exact ⟨fun p hp => (List.mem_cons.mp hp).elim (fun e => e ▸ .head _) fun hp => .tail _ (ih.1 p hp), fun p hp => .tail _ (ih.2 p hp)⟩
section
variable {w : World} {dp un : Nat} {fr : Option (List Env)} {gd : Option (List Code)} {s : Shared} {g : Heap} {L : Addr} {m : Str → Option Value} {mg mb : Str → Option Value} {p : Program} {loose : List Str} {mean : ExcName → Option Value}
  {Q E : Value → Shared → Prop} {d q : Addr} {news rest as : List (Addr × Obj)}
theorem kd_cases {kd wi bi : Int} (h : (kd, wi, bi) ∈ kdTab) : (kd = 8 ∨ kd = 9) ∨ kd = 12 ∨ (kd ≠ 8 ∧ kd ≠ 9 ∧ kd ≠ 12 ∧ bi = 32) ∨ (kd ≠ 8 ∧ kd ≠ 9 ∧ kd ≠ 12 ∧ bi = 64) := by
  simp only [kdTab, List.mem_cons, List.not_mem_nil, or_false, Prod.mk.injEq] at h
  omega
theorem kd_wire {kd wi bi : Int} (h : (kd, wi, bi) ∈ kdTab) : 0 ≤ wi ∧ wi ≤ 5 := by
  simp only [kdTab, List.mem_cons, List.not_mem_nil, or_false, Prod.mk.injEq] at h
  omega
theorem str_len {x : Str} (h : StrOk x) : (enc x).size ≤ 100 := Nat.le_trans (enc_eq (t := 0) h).2 (by decide)
theorem bare_len {kind : Int} {v : Vl} (h : BareOk kind v) : (bare kind v).length ≤ 1000 := by
  have hv : ∀ n : Int, n < 1180591620717411303424 → (vi n.toNat).length ≤ 10 := fun n hn => vi_len10 (by omega)
  cases v with
  | int i =>
    obtain ⟨_, _, _, i0, i1⟩ := h
    show List.length (if _ then _ else _) ≤ _
    split
    · exact Nat.le_trans (hv _ (by unfold zz; split <;> omega)) (by decide)
    · split
      · rw [KTBy.little_eq]; simp
      · split
        · rw [KTBy.little_eq]; simp
        · exact Nat.le_trans (hv _ (by omega)) (by decide)
  | bool b => simp [bare]
  | str x =>
    have := str_len h.2
    have h2 := vi_len10 (n := (enc x).size) (by omega)
    show List.length (_ ++ _) ≤ _
    rw [List.length_append, KBw.ints_length]; omega
  | byt b =>
    have := h.2
    have h2 := vi_len10 (n := b.size) (by omega)
    show List.length (_ ++ _) ≤ _
    rw [List.length_append, KBw.ints_length]; omega
theorem kinds_use {od oq : Obj} (F : Fr g L s.heap m) (X : (Mine.hd.heap_39 w.params).In g) (T : Top p loose mean mg mb g) (N : News g L s.heap news) (_hO : DrO q od oq)
    (hroom : dp + 30 < recursionLimit) (hun : un + 200 < cLine) (md : (d, od) ∈ news) (mq : (q, oq) ∈ news)
    (ret : ∀ l KL h' tk', KindsL l KL → (∀ p ∈ KL, p.1 ∉ [d, q]) → (∀ p ∈ KL, Off p.1 news) → Fr g L h' m → News g L h' (news ++ KL) → Q (.ref l) { s with heap := h', toks := tk' }) :
    wpAny (model PySem.Challenge.rw_ae6018_01.row.prog w) (AR dp un fr gd) (call (.ref 313) []) Q E s :=
  kinds_ok X T F.keep hroom hun fun l KL h' tk' hK hf k => by
    have hne : ∀ {a o}, s.heap.get? a = some o → ∀ p ∈ KL, p.1 ≠ a := fun e p hp c => by rw [← c, (hf p hp).2] at e; cases e
    refine ret l KL h' tk' hK (fun p hp => off2 (hne (N _ md).1 p hp) (hne (N _ mq).1 p hp)) (fun p hp => Off.of fun x hx => hne (N _ hx).1 p hp) (frKp0 F k) (newsApp (newsKp0 N k) fun p hp => ⟨(hf p hp).1, ?_, ?_⟩)
    · obtain ⟨o, _, _, e, _⟩ := F.ns
      exact hne e p hp
    · cases e : g.get? p.1 with
      | none => rfl
      | some o => exact absurd rfl (hne (F.keep _ _ e) p hp)
theorem kinds_sub {M : Program} {A : Around} {l : Addr} {KL : List (Addr × Obj)} {k : Int} {u : Tok} {value slice : Expr} (hK : KindsL l KL) (N : News g L s.heap news) (hs : Cut KL news rest) (ha : ∀ p ∈ KL, Off p.1 as) (h0 : 0 ≤ k) (h1 : k < 14)
    (F : Fr g L s.heap m) (ret : ∀ Tp kd wi bi t1 t2 t3, (kd, wi, bi) ∈ kdTab → Off Tp as → News g L s.heap ((Tp, { cls := .type "tuple", data := .seq #[.int kd t1, .int wi t2, .int bi t3] }) :: rest) → Fr g L s.heap m → Q (.ref Tp) s)
    (hsub : subscripted slice false (.ref l) (.int k u) = operate [.ref l, .int k u] (getItem (.ref l) (.int k u)) := by with_unfolding_all rfl) :
    wpAny (model M w) A (subscriptTail value slice (.ref l) (.int k u)) Q E s := by
  obtain ⟨vs, n, hm, hR⟩ := hK
  obtain ⟨hl, hat⟩ := hR.at
  have hlen : kdTab.length = 14 := rfl
  obtain ⟨Tp, x, t1, t2, t3, e, hx, hT⟩ := hat k.toNat (by omega)
  have hl' : s.heap.IsList l vs.toArray := IsL.isList (n := n) (N _ (hs.spec.2 _ hm)).1
  exact tail_any hl'.typeIs slot_list_getitem.lookup (wpAny_getItem_list hl' h0 (by omega) (by simpa using e) (ret Tp x.1 x.2.1 x.2.2 t1 t2 t3 hx (ha _ hT) (fun p hp => (List.mem_cons.mp hp).elim (fun e => e ▸ N _ (hs.spec.2 _ hT)) fun hp => N p (hs.spec.1 p hp)) F)) hsub
theorem drawBack {od oq : Obj} {h' : Heap} {od' oq' : Obj} (F : Fr g L s.heap m) (N : News g L s.heap news) (md : (d, od) ∈ news) (mq : (q, oq) ∈ news) (S : Sep [d, q] news rest)
    (k : Kp [d, q] s.heap h') (e1 : h'.get? d = some od') (e2 : h'.get? q = some oq') : Fr g L h' m ∧ News g L h' ((d, od') :: (q, oq') :: rest) := by
  have hd := N _ md
  have hq := N _ mq
  have hh : ∀ a ∈ [d, q], g.get? a = none := fun a ha => by
    rcases List.mem_cons.mp ha with rfl | ha
    · exact hd.2.2
    · rcases List.mem_cons.mp ha with rfl | ha
      · exact hq.2.2
      · cases ha
  have hL : L ∉ [d, q] := fun ha => by
    rcases List.mem_cons.mp ha with rfl | ha
    · exact hd.2.1 rfl
    · rcases List.mem_cons.mp ha with rfl | ha
      · exact hq.2.1 rfl
      · cases ha
  have N2 := newsKp N k S.spec
  refine ⟨frKp F k hh hL, fun x hx => ?_⟩
  rcases List.mem_cons.mp hx with rfl | hx
  · exact ⟨e1, hd.2⟩
  · rcases List.mem_cons.mp hx with rfl | hx
    · exact ⟨e2, hq.2⟩
    · exact N2 x hx
theorem number_use {od oq : Obj} (F : Fr g L s.heap m) (X : (Mine.hd.heap_39 w.params).In g) (T : Top p loose mean mg mb g) (N : News g L s.heap news) (hO : DrO q od oq)
    (hroom : dp + 30 < recursionLimit) (hun : un + 200 < cLine) (hdq : @Ne Nat d q) (md : (d, od) ∈ news) (mq : (q, oq) ∈ news) (S : Sep [d, q] news rest)
    (ret : ∀ n t h' tk' od' oq', DrO q od' oq' → 1 ≤ n → n ≤ 536870911 → Fr g L h' m → News g L h' ((d, od') :: (q, oq') :: rest) → Q (.int n t) { s with heap := h', toks := tk' }) :
    wpAny (model PySem.Challenge.rw_ae6018_01.row.prog w) (AR dp un fr gd) (call (.ref 330) [.ref d]) Q E s :=
  number_ok X T F.keep (N _ md).2.2 (N _ mq).2.2 hroom hun hdq (N _ md).1 (N _ mq).1 hO fun n t h' tk' od' oq' a b k e1 e2 O' =>
    let ⟨F', N'⟩ := drawBack F N md mq S k e1 e2
    ret n t h' tk' od' oq' O' a b F' N'
theorem value_use {od oq : Obj} {kind bits : Int} {t1 t2 : Tok} (F : Fr g L s.heap m) (X : (Mine.hd.heap_39 w.params).In g) (T : Top p loose mean mg mb g) (N : News g L s.heap news) (hO : DrO q od oq)
    (hroom : dp + 30 < recursionLimit) (hun : un + 200 < cLine) (hdq : @Ne Nat d q) (md : (d, od) ∈ news) (mq : (q, oq) ∈ news) (S : Sep [d, q] news rest)
    (hk : (kind = 8 ∨ kind = 9) ∨ kind = 12 ∨ (kind ≠ 8 ∧ kind ≠ 9 ∧ kind ≠ 12 ∧ bits = 32) ∨ (kind ≠ 8 ∧ kind ≠ 9 ∧ kind ≠ 12 ∧ bits = 64))
    (ret : ∀ v t h' tk' od' oq', DrO q od' oq' → VlOk kind bits v → Fr g L h' m → News g L h' ((d, od') :: (q, oq') :: rest) → Q (Vl.at v t) { s with heap := h', toks := tk' }) :
    wpAny (model PySem.Challenge.rw_ae6018_01.row.prog w) (AR dp un fr gd) (call (.ref 318) [.ref d, .int kind t1, .int bits t2]) Q E s :=
  value_ok X T F.keep (N _ md).2.2 (N _ mq).2.2 hroom hun hdq (N _ md).1 (N _ mq).1 hO hk fun v t h' tk' od' oq' a k e1 e2 O' =>
    let ⟨F', N'⟩ := drawBack F N md mq S k e1 e2
    ret v t h' tk' od' oq' O' a F' N'
theorem bare_use {kind : Int} {v : Vl} {t1 t2 : Tok} (F : Fr g L s.heap m) (X : (Mine.hd.heap_39 w.params).In g) (T : Top p loose mean mg mb g) (N : News g L s.heap news)
    (hroom : dp + 40 < recursionLimit) (hun : un + 300 < cLine) (hv : BareOk kind v)
    (ret : ∀ b t h' tk', KBw.bInts b = bare kind v → b.size ≤ 1000 → Fr g L h' m → News g L h' news → Q (.bytes b t) { s with heap := h', toks := tk' }) :
    wpAny (model PySem.Challenge.rw_ae6018_01.row.prog w) (AR dp un fr gd) (call (.ref 323) [.int kind t1, v.at t2]) Q E s :=
  bare_ok X T F.keep hroom hun hv fun b t h' tk' hb hk => ret b t h' tk' hb (by rw [← KBw.ints_length, hb]; exact bare_len hv) (frKp0 F hk) (newsKp0 N hk)
end
local macro_rules | `(tactic| walk_at "M rng") => `(tactic| first | with_reducible assumption | omega | exact And.left (by assumption) | exact And.right (by assumption))
local macro_rules | `(tactic| walk_at "binaryOp Add bytes bytes") => `(tactic| (k_dflt (refine' KBy.add_bytes ?z ?_; (case z => first | omega | (simp only [Array.size_append]; omega))); intro _ _))
local macro_rules | `(tactic| walk_at "M cut") => `(tactic| first | exact Cut.nil | (refine' Cut.cons ?b; (case b => walk_at "M cut")))
local macro_rules | `(tactic| walk_at "M sepN") => `(tactic| first
  | exact Sep.nil
  | (refine' Sep.drop ?a ?b; (case a => first | exact in1 | exact in2a | exact in2b); (case b => walk_at "M sepN"))
  | (refine' Sep.keep ?a ?b; (case a => first | exact off0 | (refine' off1 ?o1; (case o1 => k_ne)) | (refine' off2 ?o1 ?o2; (case o1 => k_ne); (case o2 => k_ne))); (case b => walk_at "M sepN"))
  | (refine' Sep.skip ?a; (case a => walk_at "M sepN"))
  | exact Sep.gone)
local macro_rules | `(tactic| walk_at "call ref") => `(tactic| ((show wpAny _ _ (call (Value.ref 313) []) _ _ _); k_dflt (refine' kinds_use ?F ?X ?T ?N ?O ?r ?u ?md ?mq ?_; (case F => k_asm); (case X => k_asm); (case T => k_asm); (case N => k_asm); (case O => assumption); (case r => omega); (case u => omega); (case md => k_mem); (case mq => k_mem); k_whole); intro l' KL h' tk' HK HKo HKa F' N'; (try simp only [List.cons_append, List.nil_append] at N')))
local macro_rules | `(tactic| walk_at "call ref") => `(tactic| ((with_reducible show wpAny _ _ (call (Value.ref 330) [Value.ref _]) _ _ _); k_dflt (refine' number_use ?F ?X ?T ?N ?O ?r ?u ?dq ?md ?mq ?S ?_; (case F => k_asm); (case X => k_asm); (case T => k_asm); (case N => k_asm); (case O => assumption); (case r => omega); (case u => omega); (case dq => assumption); (case md => k_mem); (case mq => k_mem); (case S => walk_at "M sepN"); k_whole); intro n' t' h' tk' od' oq' O' n0' n1' F' N'))
local macro_rules | `(tactic| walk_at "call ref") => `(tactic| ((with_reducible show wpAny _ _ (call (Value.ref 318) [Value.ref _, Value.int _ _, Value.int _ _]) _ _ _); k_dflt (refine' value_use ?F ?X ?T ?N ?O ?r ?u ?dq ?md ?mq ?S ?hk ?_; (case F => k_asm); (case X => k_asm); (case T => k_asm); (case N => k_asm); (case O => assumption); (case r => omega); (case u => omega); (case dq => assumption); (case md => k_mem); (case mq => k_mem); (case S => walk_at "M sep"); (case hk => assumption); k_whole); intro v' t' h' tk' od' oq' O' V' F' N'))
local macro_rules | `(tactic| walk_at "call ref") => `(tactic| ((with_reducible show wpAny _ _ (call (Value.ref 323) [Value.int _ _, Vl.at _ _]) _ _ _); k_dflt (refine' bare_use ?F ?X ?T ?N ?r ?u ?v ?_; (case F => k_asm); (case X => k_asm); (case T => k_asm); (case N => k_asm); (case r => omega); (case u => omega); (case v => first | assumption | exact VlOk.bare (by assumption)); k_whole); intro b' t' h' tk' B' Bz' F' N'))
local macro_rules | `(tactic| walk_at "subscriptTail") => `(tactic| ((with_reducible show wpAny _ _ (subscriptTail _ _ (Value.ref _) (Value.int _ _)) _ _ _); k_dflt (refine' kinds_sub ?K ?N ?s ?o ?a ?b ?F ?_ ?c; (case K => assumption); (case N => k_asm); (case F => k_asm); (case s => walk_at "M cut"); (case o => assumption); (case a => assumption); (case b => assumption); (case c => with_unfolding_all rfl); k_whole); intro Tp' kd' wi' bi' a' b' c' hx' HA' N' F'; dsimp only [Off] at HA'; have hK1 := kd_cases hx'; have hK2 := kd_wire hx'))
/-- values of the language that stand for values of the law -/
inductive VsAt : List Value → List Vl → Prop
  | nil : VsAt [] []
  | cons {v : Vl} {t : Tok} {vs : List Value} {xs : List Vl} : VsAt vs xs → VsAt (v.at t :: vs) (v :: xs)
theorem VsAt.length {vs : List Value} {xs : List Vl} (h : VsAt vs xs) : vs.length = xs.length := by induction h with | nil => rfl | cons _ ih => simp [ih]
theorem VsAt.snoc {vs : List Value} {xs : List Vl} {v : Vl} {t : Tok} (h : VsAt vs xs) : VsAt (vs ++ [v.at t]) (xs ++ [v]) := by
  induction h with
  | nil => exact .cons .nil
  | cons _ ih => exact .cons ih
theorem VsAt.get {vs : List Value} {xs : List Vl} (h : VsAt vs xs) : ∀ {i : Nat} {v : Value}, vs[i]? = some v → ∃ x t, xs[i]? = some x ∧ v = Vl.at x t := by
  induction h with
  | nil => intro i v e; cases e
  | cons _ ih =>
    intro i v e
    cases i with
    | zero => exact ⟨_, _, rfl, (Option.some.inj e).symm⟩
    | succ i => exact ih (by simpa using e)
theorem Oct.snoc {vs : List Value} {ks : List Int} {b : Array UInt8} {t : Tok} (h : Oct vs ks) : Oct (vs ++ [.bytes b t]) (ks ++ KBw.bInts b) := by
  induction h with
  | nil => simpa using Oct.cons (b := b) (t := t) .nil
  | cons _ ih => rw [List.append_assoc]; exact .cons ih
def JV (d q : Addr) (r : List (Addr × Obj)) {kd wi bi : Int} (_ : (kd, wi, bi) ∈ kdTab) (_ : Nat) (ys : List Value) (nx : List (Addr × Obj)) : Prop :=
  ∃ od oq xs, nx = (d, od) :: (q, oq) :: r ∧ DrO q od oq ∧ VsAt ys xs ∧ ∀ x ∈ xs, VlOk kd bi x
def JO (r : List (Addr × Obj)) (f : Vl → List Int) (xs : List Vl) (i : Nat) (ys : List Value) (nx : List (Addr × Obj)) : Prop := nx = r ∧ Oct ys ((xs.take i).flatMap f)
theorem JO.step {r : List (Addr × Obj)} {f : Vl → List Int} {xs : List Vl} {i : Nat} {ys : List Value} {x : Vl} {b : Array UInt8} {t : Tok} (h : Oct ys ((xs.take i).flatMap f)) (hx : xs[i]? = some x) (hb : KBw.bInts b = f x) : JO r f xs (i + 1) (ys ++ [.bytes b t]) r := by
  refine ⟨rfl, ?_⟩
  have e : (xs.take (i + 1)).flatMap f = (xs.take i).flatMap f ++ KBw.bInts b := by rw [List.take_add_one, hx, List.flatMap_append, hb]; simp
  rw [e]; exact h.snoc
def tagged (kd wi n : Int) (x : Vl) : List Int := vi (8 * n + wi).toNat ++ bare kd x
theorem flat_len {f : Vl → List Int} {k : Nat} : ∀ {xs : List Vl}, (∀ x ∈ xs, (f x).length ≤ k) → (xs.flatMap f).length ≤ xs.length * k
  | [], _ => by simp
  | x :: xs, h => by
    have h1 := h x (.head _)
    have h2 := flat_len (f := f) (k := k) (xs := xs) fun y hy => h y (.tail _ hy)
    rw [List.flatMap_cons, List.length_append, List.length_cons, Nat.add_mul]; omega
theorem ledger {g h : Heap} {L d q : Addr} {od oq : Obj} {r : List (Addr × Obj)} (_ : News g L h ((d, od) :: (q, oq) :: r)) : ∃ r', r' = r := ⟨_, rfl⟩
theorem ledger0 {g h : Heap} {L : Addr} {r : List (Addr × Obj)} (_ : News g L h r) : ∃ r', r' = r := ⟨_, rfl⟩
theorem ledgerT {g h : Heap} {L : Addr} {x : Addr × Obj} {r : List (Addr × Obj)} (N : News g L h (x :: r)) : ∃ r', r' = r ∧ News g L h r' := ⟨_, rfl, fun p hp => N p (.tail _ hp)⟩
abbrev fB {kd wi bi : Int} (_ : (kd, wi, bi) ∈ kdTab) : Vl → List Int := bare kd
abbrev fT {kd wi bi n : Int} (_ : (kd, wi, bi) ∈ kdTab) (_ : 1 ≤ n) : Vl → List Int := tagged kd wi n
theorem flatB {kd bi : Int} {xs : List Vl} (hok : ∀ x ∈ xs, VlOk kd bi x) (h4 : xs.length ≤ 4) : (xs.flatMap (bare kd)).length ≤ 4000 :=
  Nat.le_trans (flat_len (k := 1000) fun x hx => bare_len (hok x hx).bare) (by omega)
theorem flatT {kd wi bi n : Int} (hx : (kd, wi, bi) ∈ kdTab) (n1 : n ≤ 536870911) {xs : List Vl} (hok : ∀ x ∈ xs, VlOk kd bi x) (h4 : xs.length ≤ 4) : (xs.flatMap (tagged kd wi n)).length ≤ 4040 := by
  refine Nat.le_trans (flat_len (k := 1010) fun x hxx => ?_) (by omega)
  have h1 := bare_len (hok x hxx).bare
  have h2 := kd_wire hx
  have h3 := vi_len10 (n := (8 * n + wi).toNat) (by omega)
  rw [tagged, List.length_append]; omega
def tup5 (kd n md : Int) (v : Value) (b : Array UInt8) (t1 t2 t3 t4 : Tok) : Obj := { cls := .type "tuple", data := .seq #[.int kd t1, .int n t2, .int md t3, v, .bytes b t4] }
section
variable {w : World} {dp un : Nat} {fr : Option (List Env)} {gd : Option (List Code)} {s : Shared} {g₀ : Heap} {mg mb : Str → Option Value} {p : Program} {loose : List Str} {mean : ExcName → Option Value}
  {Q E : Value → Shared → Prop} {d q : Addr}
set_option maxRecDepth 100000 in
set_option maxHeartbeats 4000000 in
theorem field_ok {od oq : Obj}
  (X : (Mine.hd.heap_39 w.params).In g₀) (T : Top p loose mean mg mb g₀) (st : g₀.StaysIn s.heap) (hd : g₀.get? d = none) (hq : g₀.get? q = none) (hroom : dp + 60 < recursionLimit) (hun : un + 400 < cLine)
  (hdq : @Ne Nat d q) (e1 : s.heap.get? d = some od) (e2 : s.heap.get? q = some oq) (hO : DrO q od oq)
  (ret0 : ∀ D kd wi bi n v b t1 t2 t3 t4 t5 h' tk' od' oq', (kd, wi, bi) ∈ kdTab → 1 ≤ n → n ≤ 536870911 → VlOk kd bi v → KBw.bInts b = tagged kd wi n v → Kp [d, q] s.heap h' → h'.get? d = some od' → h'.get? q = some oq' → DrO q od' oq' →
    h'.get? D = some (tup5 kd n 0 (v.at t5) b t1 t2 t3 t4) → s.heap.get? D = none → Q (.ref D) { s with heap := h', toks := tk' })
  (ret1 : ∀ D l kd wi bi n md vs xs k b t1 t2 t3 t4 h' tk' od' oq', (kd, wi, bi) ∈ kdTab → 1 ≤ n → n ≤ 536870911 → VsAt vs xs → xs.length ≤ 4 → (∀ x ∈ xs, VlOk kd bi x) →
    ((md = 1 ∧ KBw.bInts b = xs.flatMap (tagged kd wi n)) ∨ (md = 2 ∧ wi ≠ 2 ∧ KBw.bInts b = (vi (8 * n + 2).toNat ++ vi (xs.flatMap (bare kd)).length) ++ xs.flatMap (bare kd))) →
    Kp [d, q] s.heap h' → h'.get? d = some od' → h'.get? q = some oq' → DrO q od' oq' →
    h'.get? D = some (tup5 kd n md (.ref l) b t1 t2 t3 t4) → s.heap.get? D = none → h'.get? l = some (W.listOf vs.toArray k) → s.heap.get? l = none → @Ne Nat l D → Q (.ref D) { s with heap := h', toks := tk' }) :
  wpAny (model PySem.Challenge.rw_ae6018_01.row.prog w) (AR dp un fr gd) (call (.ref 335) [.ref d]) Q E s := by
  revert X
  k_fill
  intro X
  k_dflt (refine' callMC (binds := [(PySem.Str.ofString "draw", .ref d)]) [d, q] X T st ?hn ?ho ?hcd ?hr ?hb ?hl ?hd ?h1 ?h2 ?h3 ?_)
  walk_at "M enterC"
  intro g L h₁ tk fr' cells En F' Nc Y' X' T' st'
  have N0 : News g L h₁ [(d, od), (q, oq)] := En.news (by simp [e1, e2])
  have l1 : @LT.lt Nat _ d L ∧ @LT.lt Nat _ q L := ⟨En.lt _ _ e1, En.lt _ _ e2⟩
  k_cells Y'
  have N' := newsApp Nc N0
  clear Nc N0
  simp only [List.cons_append, List.nil_append] at N'
  clear e1 e2
  show wpAny _ _ _ _ _ _
  (try dsimp only)
  k_fold
  k_steps
  iterate 2 (focus
    (rename News _ _ _ _ => N9)
    (rename Fr _ _ _ _ => F9)
    (refine' ret0 _ _ _ _ _ _ _ _ _ _ _ _ _ _ _ _ ?hx ?n0 ?n1 ?hv ?hb ?hk ?hd ?hq ?hO ?hD ?hf)
    (case hx => assumption)
    (case n0 => assumption)
    (case n1 => assumption)
    (case hv => assumption)
    (case hD => have hh := (N9 _ (List.Mem.head _)).1; exact hh)
    (case hb => exact KBw.ints_app (by assumption) (by assumption))
    (case hk => exact En.back F9)
    (case hd => exact News.get N9 (by k_mem))
    (case hq => exact News.get N9 (by k_mem))
    (case hO => assumption)
    (case hf => exact En.fresh (h' := s.heap) (off2 (by k_ne) (by k_ne)) (N9 _ (.head _)).2.2))
  all_goals (
    (rename News _ _ _ _ => N0)
    (rename Fr _ _ _ _ => F0)
    (rename (_, _, _) ∈ kdTab => hx)
    obtain ⟨r, hr⟩ := ledger N0
    k_dflt (refine' compAssign F0 (JV d q r hx) ?a0 ?a1 ?a2 ?a3 ?a4 ?a5 ?a7 ?a8 ?a9 ?_ ?a6)
    (case a0 => with_unfolding_all rfl)
    (case a1 => with_unfolding_all rfl)
    (case a2 => decide)
    (case a3 => rfl)
    (case a4 => decide)
    (case a5 => rfl)
    (case a7 => rfl)
    (case a8 => rfl)
    (case a9 => rfl)
    (case a6 => intro _; with_unfolding_all rfl)
    k_steps
    refine Hold.mk ?_
    rename_i hR F2 N2 _
    (rename (_ : Int) < 5 => h5)
    (rename DrO _ _ _ => O2)
    k_dflt (refine' comp_range0 ?b1 ?b2 ?b3 ?b4 ?b5 ?b6 ?b7 ?_ ?_)
    (case b1 => exact hR)
    (case b2 => assumption)
    (case b3 => omega)
    (case b4 => rfl)
    (case b5 => exact F2)
    (case b6 => exact N2)
    (case b7 => subst hr; exact ⟨_, _, [], rfl, O2, .nil, fun _ h => nomatch h⟩))
  iterate 2 (
    focus (
      intro i v ys nx C oC own h tk hi ⟨t, hv⟩ hlen hadr ⟨mC, hNs, hmx⟩ hoff ⟨od2, oq2, xs, hnx, hO2, hxs, hok⟩ F3 N3
      subst hr hv hnx
      have hc1 : @Ne Nat C d ∧ @Ne Nat C q := ⟨hoff _ (.head _) d (by simp), hoff _ (.head _) q (by simp)⟩
      have hc2 : ∀ p ∈ own, p.1 ∉ [d, q] := fun p hp => off2 (hoff p (.tail _ hp) d (by simp)) (hoff p (.tail _ hp) q (by simp))
      simp only [List.cons_append, List.nil_append] at N3
      clear hadr hoff N2 F2 hR
      k_steps
      (rename News _ _ _ _ => N4)
      (rename Fr _ _ _ _ => F4)
      (rename DrO _ _ _ => O4)
      exact ⟨_, _, _, _, _, rfl, F4, N4, (by walk_at "M sub"), (by walk_at "M sub"), (by rfl), rfl, _, _, _, rfl, O4, hxs.snoc, fun x hx => (List.mem_append.mp hx).elim (hok x) fun e => (List.mem_singleton.mp e) ▸ (by assumption)⟩)
    focus (
      intro hp D ys nx j h' tk hlen ⟨od2, oq2, xs, hnx, hO2, hxs, hok⟩ hlt hLD N3 F3
      subst hr hnx
      have hD := Off.of (T := D) (fun p hp => Nat.ne_of_gt (hlt p hp))
      dsimp only [Off] at hD
      have hl4 : xs.length ≤ 4 := by rw [← hxs.length]; omega
      clear N2 F2 hR
      k_steps)
    rotate_left)
  focus (
    (rename (1 : Int) ≤ _ => hn)
    obtain ⟨r, hr, N4⟩ := ledgerT N3
    have hln : ∀ q ∈ r, q.1 ≠ D := fun q hq => Nat.ne_of_lt (hlt q (hr ▸ hq))
    refine Hold.mk ?_
    k_dflt (refine' compEx F3 (JO r (fB hx) xs) ?a1 ?a2 ?a3 ?a4 ?a5 ?_ ?a6)
    (case a1 => with_unfolding_all rfl)
    (case a2 => decide)
    (case a3 => rfl)
    (case a4 => decide)
    (case a5 => rfl)
    (case a6 => intro _; with_unfolding_all rfl)
    k_steps
    refine Hold.mk ?_
    k_dflt (refine' comp_list ?b1 ?b2 ?b3 ?b4 ?b5 ?b6 ?b7 ?b8 ?_ ?_)
    (case b1 => rfl)
    (case b2 => exact IsL.isList (n := j) (N3 _ (List.Mem.head _)).1)
    (case b3 => exact Nat.ne_of_gt hLD)
    (case b4 => exact hln)
    (case b5 => rw [sizeLine_eq]; omega)
    (case b6 => exact F3)
    (case b7 => exact N4)
    (case b8 => exact ⟨rfl, Oct.nil⟩)
    · intro i v ys2 nx C oC own h tk hi hv hlen2 hadr ⟨mC, hNs, hmx⟩ hoff ⟨hnx, hoct⟩ F5 N5
      obtain ⟨x, t, hxi, rfl⟩ := hxs.get hv
      have hbare := (hok x (List.mem_of_getElem? hxi)).bare
      subst hnx
      clear hadr hoff N4 hln hlt
      subst hr
      simp only [List.cons_append, List.nil_append] at N5
      k_steps
      (rename News _ _ _ _ => N6)
      (rename Fr _ _ _ _ => F6)
      exact ⟨_, _, _, _, _, rfl, F6, N6, (by walk_at "M sub"), (by walk_at "M sub"), (by rfl), rfl, JO.step hoct hxi (by assumption)⟩
    · intro hp D2 ys2 nx j2 h' tk hlen2 ⟨hnx, hoct⟩ hlt2 hLD2 N5 hkeep F5
      have N6 : News g L h' ((D2, W.listOf ys2.toArray j2) :: (D, W.listOf ys.toArray j) :: nx) := fun p hp => by
        rcases List.mem_cons.mp hp with rfl | hp
        · exact N5 _ (.head _)
        · rcases List.mem_cons.mp hp with rfl | hp
          · exact ⟨hkeep _ (N3 _ (List.Mem.head _)).1, (N3 _ (List.Mem.head _)).2⟩
          · exact N5 _ (.tail _ hp)
      subst hnx
      clear hlt2 N4 hln hlt N5
      subst hr
      have hxt : xs.take ys.length = xs := List.take_of_length_le (by rw [hxs.length]; exact Nat.le_refl _)
      rw [hxt] at hoct
      k_steps
      refine Hold.mk ?_
      have hz := flatB hok hl4
      k_dflt (refine' join_ok ?c1 ?c2 ?c3 ?_)
      (case c1 => exact (N6 _ (List.Mem.head _)).1)
      (case c2 => exact hoct)
      (case c3 => exact Nat.le_trans hz (by decide))
      intro bJ tJ kJ hJ
      have hJz : bJ.size ≤ 4000 := by rw [← KBw.ints_length, hJ]; exact hz
      have q0 : (0 : Int) ≤ ((bJ.size : Nat) : Int) := Int.natCast_nonneg _
      have q1 : ((bJ.size : Nat) : Int) < 1180591620717411303424 := by clear hz hJ; omega
      k_steps
      have hJs : ((bJ.size : Nat) : Int).toNat = (xs.flatMap (fB hx)).length := by rw [Int.toNat_natCast, ← hJ, KBw.ints_length]
      (rename News _ _ _ _ => N9)
      (rename Fr _ _ _ _ => F9)
      (refine' ret1 _ _ _ _ _ _ _ _ _ _ _ _ _ _ _ _ _ _ _ hx ?n0 ?n1 ?hv ?h4 ?hok ?hb ?hk ?hd ?hq ?hO ?hD ?hf ?hl ?hlf ?hne)
      (case hD => have hh := (N9 _ (List.Mem.head _)).1; exact hh)
      (case n0 => with_reducible assumption)
      (case n1 => with_reducible assumption)
      (case hv => exact hxs)
      (case h4 => exact hl4)
      (case hok => exact hok)
      (case hl => have hh := (N9 _ (List.Mem.tail _ (List.Mem.tail _ (List.Mem.head _)))).1; exact hh)
      (case hb => exact .inr ⟨rfl, by assumption, KBw.ints_app (KBw.ints_app (by assumption) (by rw [← hJs]; assumption)) hJ⟩)
      (case hk => exact En.back F9)
      (case hd => exact News.get N9 (by k_mem))
      (case hq => exact News.get N9 (by k_mem))
      (case hO => assumption)
      (case hf => exact En.fresh (h' := s.heap) (off2 (by k_ne) (by k_ne)) (N9 _ (List.Mem.head _)).2.2)
      (case hlf => exact En.fresh (h' := s.heap) (off2 (by k_ne) (by k_ne)) (N9 _ (List.Mem.tail _ (List.Mem.tail _ (List.Mem.head _)))).2.2)
      (case hne => k_ne))
  focus (
    (rename (1 : Int) ≤ _ => hn)
    obtain ⟨r, hr, N4⟩ := ledgerT N3
    have hln : ∀ q ∈ r, q.1 ≠ D := fun q hq => Nat.ne_of_lt (hlt q (hr ▸ hq))
    refine Hold.mk ?_
    k_dflt (refine' compEx F3 (JO r (fT hx hn) xs) ?a1 ?a2 ?a3 ?a4 ?a5 ?_ ?a6)
    (case a1 => with_unfolding_all rfl)
    (case a2 => decide)
    (case a3 => rfl)
    (case a4 => decide)
    (case a5 => rfl)
    (case a6 => intro _; with_unfolding_all rfl)
    k_steps
    refine Hold.mk ?_
    k_dflt (refine' comp_list ?b1 ?b2 ?b3 ?b4 ?b5 ?b6 ?b7 ?b8 ?_ ?_)
    (case b1 => rfl)
    (case b2 => exact IsL.isList (n := j) (N3 _ (List.Mem.head _)).1)
    (case b3 => exact Nat.ne_of_gt hLD)
    (case b4 => exact hln)
    (case b5 => rw [sizeLine_eq]; omega)
    (case b6 => exact F3)
    (case b7 => exact N4)
    (case b8 => exact ⟨rfl, Oct.nil⟩)
    · intro i v ys2 nx C oC own h tk hi hv hlen2 hadr ⟨mC, hNs, hmx⟩ hoff ⟨hnx, hoct⟩ F5 N5
      obtain ⟨x, t, hxi, rfl⟩ := hxs.get hv
      have hbare := (hok x (List.mem_of_getElem? hxi)).bare
      subst hnx
      clear hadr hoff N4 hln hlt
      subst hr
      simp only [List.cons_append, List.nil_append] at N5
      k_steps
      (rename News _ _ _ _ => N6)
      (rename Fr _ _ _ _ => F6)
      exact ⟨_, _, _, _, _, rfl, F6, N6, (by walk_at "M sub"), (by walk_at "M sub"), (by rfl), rfl, JO.step hoct hxi (KBw.ints_app (by assumption) (by assumption))⟩
    · intro hp D2 ys2 nx j2 h' tk hlen2 ⟨hnx, hoct⟩ hlt2 hLD2 N5 hkeep F5
      have N6 : News g L h' ((D2, W.listOf ys2.toArray j2) :: (D, W.listOf ys.toArray j) :: nx) := fun p hp => by
        rcases List.mem_cons.mp hp with rfl | hp
        · exact N5 _ (.head _)
        · rcases List.mem_cons.mp hp with rfl | hp
          · exact ⟨hkeep _ (N3 _ (List.Mem.head _)).1, (N3 _ (List.Mem.head _)).2⟩
          · exact N5 _ (.tail _ hp)
      subst hnx
      clear hlt2 N4 hln hlt N5
      subst hr
      have hxt : xs.take ys.length = xs := List.take_of_length_le (by rw [hxs.length]; exact Nat.le_refl _)
      rw [hxt] at hoct
      k_steps
      refine Hold.mk ?_
      have hz := flatT hx (by assumption) hok hl4
      k_dflt (refine' join_ok ?c1 ?c2 ?c3 ?_)
      (case c1 => exact (N6 _ (List.Mem.head _)).1)
      (case c2 => exact hoct)
      (case c3 => exact Nat.le_trans hz (by decide))
      intro bJ tJ kJ hJ
      k_steps
      (rename News _ _ _ _ => N9)
      (rename Fr _ _ _ _ => F9)
      (refine' ret1 _ _ _ _ _ _ _ _ _ _ _ _ _ _ _ _ _ _ _ hx ?n0z ?n1z ?hvz ?h4z ?hokz ?hbz ?hkz ?hdz ?hqz ?hOz ?hDz ?hfz ?hlz ?hlfz ?hnez)
      (case hDz => have hh := (N9 _ (List.Mem.head _)).1; exact hh)
      (case n0z => with_reducible assumption)
      (case n1z => with_reducible assumption)
      (case hvz => exact hxs)
      (case h4z => exact hl4)
      (case hokz => exact hok)
      (case hlz => have hh := (N9 _ (List.Mem.tail _ (List.Mem.tail _ (List.Mem.head _)))).1; exact hh)
      (case hbz => exact .inl ⟨rfl, hJ⟩)
      (case hkz => exact En.back F9)
      (case hdz => exact News.get N9 (by k_mem))
      (case hqz => exact News.get N9 (by k_mem))
      (case hOz => assumption)
      (case hfz => exact En.fresh (h' := s.heap) (off2 (by k_ne) (by k_ne)) (N9 _ (List.Mem.head _)).2.2)
      (case hlfz => exact En.fresh (h' := s.heap) (off2 (by k_ne) (by k_ne)) (N9 _ (List.Mem.tail _ (List.Mem.tail _ (List.Mem.head _)))).2.2)
      (case hnez => k_ne))
end

theorem part13 : True := by
  w_top off
  trivial
local macro_rules | `(tactic| walk_at "execs nil") => `(tactic| refine wpAny_execs_nil ?_)
theorem IntsAre.at {vs : List Value} {ns : List Int} (h : IntsAre vs ns) : ∀ {i : Nat} {v : Value}, vs[i]? = some v → ∃ n t, ns[i]? = some n ∧ v = .int n t := by
  induction h with
  | nil => intro i v e; cases e
  | cons =>
    rename_i ih
    intro i v e
    cases i with
    | zero => exact ⟨_, _, rfl, (Option.some.inj e).symm⟩
    | succ i => exact ih (by simpa using e)
section
variable {w : World} {dp un : Nat} {fr : Option (List Env)} {gd : Option (List Code)} {s : Shared} {g₀ : Heap} {mg mb : Str → Option Value} {p : Program} {loose : List Str} {mean : ExcName → Option Value}
  {Q E : Value → Shared → Prop} {a : Addr}
set_option maxRecDepth 100000 in
set_option maxHeartbeats 4000000 in
theorem draw_ok {vs : List Value} {ns : List Int}
  (X : (Mine.hd.heap_39 w.params).In g₀) (T : Top p loose mean mg mb g₀) (st : g₀.StaysIn s.heap) (hroom : dp + 60 < recursionLimit) (hun : un + 400 < cLine)
  (hl : s.heap.IsList a vs.toArray) (hi : IntsAre vs ns) (hn : ns.length ≤ 63)
  (ret : ∀ d q od oq h' tk', DrO q od oq → Kp [] s.heap h' → h'.get? d = some od → h'.get? q = some oq → s.heap.get? d = none → s.heap.get? q = none → @Ne Nat d q → Q (.ref d) { s with heap := h', toks := tk' }) :
  wpAny (model PySem.Challenge.rw_ae6018_01.row.prog w) (AR dp un fr gd) (call (.ref 292) [.ref a]) Q E s := by
  revert X
  k_fill
  intro X
  k_dflt (refine' callM (binds := [(PySem.Str.ofString "script", .ref a)]) [] X T st ?hn ?ho ?hcd ?hr ?hb ?hl ?hc ?h1 ?h2 ?h3 ?_)
  walk_at "M enter"
  intro g L h₁ tk fr' En F' X' T' st'
  have N' : News g L h₁ [] := News.nil
  have hlg : g.IsList a vs.toArray := hl.at fun o e => En.vis _ o List.not_mem_nil e
  have haL : @LT.lt Nat _ a L := by obtain ⟨o, ho, _⟩ := hl; exact En.lt _ _ ho
  show wpAny _ _ _ _ _ _
  (try dsimp only)
  k_fold
  k_steps
  refine Hold.mk ?_
  (rename Fr _ _ _ _ => F0)
  (rename News _ _ _ _ => N0)
  k_dflt (refine' For_invV g ?a1 ?a2 ?_ ?a3 ?a4)
  case a1 => rfl
  case a2 => rfl
  case a3 => intro _; with_unfolding_all rfl
  case a4 => exact passes_noE
  k_steps
  refine Hold.mk ?_
  k_dflt (refine' iter_invN (fun i m nx => nx = [] ∧ m (PySem.Str.ofString "script") = some (.ref a) ∧ ∃ sd t, m (PySem.Str.ofString "seed") = some (.int sd t) ∧ 0 ≤ sd ∧ sd < 2147483647) ?b1 hlg hi ?b2 ?b3 ?b4 ?_ ?_)
  case b1 => rfl
  case b2 => exact F0
  case b3 => exact N0
  case b4 => exact ⟨rfl, rfl, 7, _, rfl, by decide, by decide⟩
  · intro i n t m₁ news₁ h tk own hin hadr hoff ⟨hnx, e1, sd, ts, e2, s0, s1⟩ F2 N2
    subst hnx
    have F3 : Fr g L h _ := frSets (ps := [(PySem.Str.ofString "cell", .int n t), (PySem.Str.ofString "script", .ref a), (PySem.Str.ofString "seed", .int sd ts)]) F2
      (by refine List.forall_mem_cons.mpr ⟨if_pos rfl, List.forall_mem_cons.mpr ⟨(if_neg (show ¬ (PySem.Str.ofString "script" = PySem.Str.ofString "cell") by decide)).trans e1, List.forall_mem_cons.mpr ⟨(if_neg (show ¬ (PySem.Str.ofString "seed" = PySem.Str.ofString "cell") by decide)).trans e2, List.forall_mem_nil _⟩⟩⟩)
    have N3 : News g L h own := N2
    clear N2
    clear F2 F0 N0 e1 e2 hadr hoff
    k_steps
    (rename Fr _ _ _ _ => F4)
    (rename News _ _ _ _ => N4)
    have hm := fmodIn (a := sd * 48271 + (if n < 0 then -n else n).fmod 65521 + 1) (b := 2147483647) (by decide)
    exact ⟨_, _, _, _, [], rfl, F4, N4, List.forall_mem_nil _, fun q hq => hq, rfl, rfl, rfl, _, _, rfl, hm.1, hm.2⟩
  · intro m₁ news₁ h tk ⟨hnx, e1, sd, ts, e2, s0, s1⟩ F2 N2
    subst hnx
    have F3 : Fr g L h _ := frSets (ps := [(PySem.Str.ofString "script", .ref a), (PySem.Str.ofString "seed", .int sd ts)]) F2
      (by refine List.forall_mem_cons.mpr ⟨e1, List.forall_mem_cons.mpr ⟨e2, List.forall_mem_nil _⟩⟩)
    have N3 : News g L h [] := N2
    clear N2
    clear F2 F0 N0 e1 e2
    k_steps
    refine Hold.mk ?_
    k_dflt (refine' compEx F3 (fun i ys nx => nx = [] ∧ IntsAre ys ((ns.take i).map fun n => if n < 0 then -n else n)) ?a1 ?a2 ?a3 ?a4 ?a5 ?_ ?a6)
    case a1 => with_unfolding_all rfl
    case a2 => decide
    case a3 => rfl
    case a4 => decide
    case a5 => rfl
    case a6 => intro _; with_unfolding_all rfl
    k_steps
    refine Hold.mk ?_
    k_dflt (refine' comp_list ?b1 ?b2 ?b3 ?b4 ?b5 ?b6 ?b7 ?b8 ?_ ?_)
    case b1 => rfl
    case b2 => exact hlg.at fun o e => F3.keep _ o e
    case b3 => exact Nat.ne_of_lt haL
    case b4 => exact fun q hq => absurd hq List.not_mem_nil
    case b5 => rw [sizeLine_eq, hi.length]; omega
    case b6 => exact F3
    case b7 => exact N3
    case b8 => exact ⟨rfl, .nil⟩
    · intro i v ys nx C oC own h tk hi2 hv hlen hadr ⟨mC, hNs, hmx⟩ hoff ⟨hnx, hys⟩ F5 N5
      obtain ⟨n, t, hni, rfl⟩ := IntsAre.at hi hv
      subst hnx
      have N6 : News g L h ((C, oC) :: own) := N5
      clear hadr hoff N3 F3 N5
      k_steps
      refine ⟨_, _, _, _, [], rfl, F5, N6, List.forall_mem_nil _, fun q hq => hq, rfl, rfl, rfl, ?_⟩
      have e : (ns.take (i + 1)).map (fun n => if n < 0 then -n else n) = (ns.take i).map (fun n => if n < 0 then -n else n) ++ [if n < 0 then -n else n] := by rw [List.take_add_one, hni]; simp
      rw [e]; exact ints_of_push hys
    · intro hp D ys nx k h' tk hlen ⟨hnx, hys⟩ hlt hLD N5 hkeep F5
      subst hnx
      clear N3 F3 hkeep hlt
      have hxt : ns.take vs.length = ns := List.take_of_length_le (by rw [hi.length]; exact Nat.le_refl _)
      rw [hxt] at hys
      k_steps
      (rename Fr _ _ _ _ => F6)
      (rename News _ _ _ _ => N6)
      have hin : ∀ z ∈ (ns.map fun n : Int => if n < 0 then -n else n).take 60, 0 ≤ z := fun z hz => by
        obtain ⟨n, _, rfl⟩ := List.mem_map.mp (List.mem_of_mem_take hz)
        split <;> omega
      have hlen2 : ((ns.map fun n : Int => if n < 0 then -n else n).take 60).length ≤ 63 := by rw [List.length_take]; omega
      exact ret _ _ _ _ _ _ ⟨⟨(ns.map fun n : Int => if n < 0 then -n else n).take 60, sd⟩, ts, 0, _, 0, rfl, rfl, by assumption, hin, s0, s1, hlen2⟩ (En.back F6) (N6 _ (List.Mem.head _)).1 (N6 _ (List.Mem.tail _ (List.Mem.head _))).1
        (En.fresh (h' := s.heap) List.not_mem_nil (N6 _ (List.Mem.head _)).2.2) (En.fresh (h' := s.heap) List.not_mem_nil (N6 _ (List.Mem.tail _ (List.Mem.head _))).2.2) (by k_ne)
end

theorem part14 : True := by
  w_top off
  trivial
abbrev appObj (a : Addr) : Obj := { cls := .type "builtin_function_or_method", data := .fields #[.builtin "list.append", .ref a] }
theorem look_app : typeLookup (.type "list") (PySem.Str.ofString "append") = pure (some (.builtin "list.append")) := by rw [typeLookup_type, builtinLookup_eq_fast]; kernel_rfl
theorem type_app : typeOf (.builtin "list.append") = pure (.type "method_descriptor") := by show builtinType _ = _; rw [builtinType_eq_fast]; kernel_rfl
theorem get_app : typeLookup (.type "method_descriptor") "__get__" = pure (some (.builtin "method_descriptor.__get__")) := by rw [typeLookup_type, builtinLookup_eq_fast]; kernel_rfl
theorem set_app : typeLookup (.type "method_descriptor") "__set__" = pure none := by rw [typeLookup_type, builtinLookup_eq_fast]; kernel_rfl
theorem del_app : typeLookup (.type "method_descriptor") "__delete__" = pure none := by rw [typeLookup_type, builtinLookup_eq_fast]; kernel_rfl
theorem slot_md : Slot "method_descriptor" "__get__" "method_descriptor.__get__" :=
  .of (owner := "method_descriptor") (n := "__get__") (by rw [typeLookup_type, builtinLookup_eq_fast]; kernel_rfl) (by decide +kernel) (by decide +kernel) (by decide +kernel)
    (by first | exact .inl (by decide +kernel) | exact .inr (by decide +kernel)) (by rw [isSubtype_type]; kernel_rfl)
theorem entry_md : entryFor table "method_descriptor.__get__" = some Builtin.«method_descriptor.__get__» := entryFor_of_tree (by kernel_rfl)
theorem args_md (a b c : Value) : argsOk "method_descriptor.__get__" ⟨[a, b, c], []⟩ := by unfold argsOk; kernel_rfl
theorem told_app : Manifest.toldItsClass.contains "list.append" = false := by decide +kernel
section
variable {prog : Program} {w : World} {A : Around} {E : Value → Shared → Prop} {s : Shared}
theorem run_md {a : Addr} {P : Fin → Shared → Prop} (hT : s.TypeIs (.ref a) "list") (h : P (.done (.ret (.ref s.heap.objs.size))) { s with heap := s.heap.push (appObj a) }) :
    wpAny (model prog w) A (Builtin.«method_descriptor.__get__» ⟨[.builtin "list.append", .ref a, .type "list"], []⟩) P E s := by
  unfold Builtin.«method_descriptor.__get__»
  refine wpAny_bind (wpAny_of_eq (a := (.builtin "list.append", some (.ref a), some (.type "list"))) (by first | rfl | kernel_rfl) ?_)
  simp only [told_app]
  repeat (any_goals (first | assumption | wp_step))
  refine wpAny_of_eq (a := true) (by rw [isSubtype_type]; kernel_rfl) ?_
  repeat (any_goals (first | assumption | wp_step))
theorem code_md {a : Addr} {R : Result → Shared → Prop} (hT : s.TypeIs (.ref a) "list") (h : R (.ok (.ret (.ref s.heap.objs.size))) { s with heap := s.heap.push (appObj a) }) :
    codeAny (model prog w) A (.call (.builtin "method_descriptor.__get__") ⟨[.builtin "list.append", .ref a, .type "list"], []⟩) R s :=
  codeAny_call_builtin slot_md.plain entry_md (slot_md.check _ _ _ _ _ _ _ _ type_app (args_md _ _ _) (run_md hT h))
end
set_option maxHeartbeats 1000000 in
set_option maxRecDepth 100000 in
theorem meets_app (a : Addr) (xs : Array Value) (k : Nat) (sl : Array (Option Value)) (u : Tok) :
    Meets (Builtin.«object.__getattribute__» ⟨[.ref a, .str (PySem.Str.ofString "append") u], []⟩) (fun A R s => s.heap.get? a = some { cls := .type "list", dict := none, data := .seq xs k, slots := sl } ∧ R (.ok (.ret (.ref s.heap.objs.size))) { s with heap := s.heap.push (appObj a) }) :=
  Meets.of_wp fun prog w _ R s hs => by
    obtain ⟨hp, g, d, tk, os⟩ := s
    obtain ⟨hx, hs⟩ := hs
    have hT : (⟨hp, g, d, tk, os⟩ : Shared).TypeIs (.ref a) "list" := ⟨_, hx, rfl⟩
    have f1 := look_app
    have f2 := type_app
    have f3 := get_app
    have f4 := set_app
    have f5 := del_app
    unfold Builtin.«object.__getattribute__»
    repeat (any_goals (first | assumption | wp_step))
    exact code_md hT (wpAny_pure ⟨_, rfl, hs⟩)
section
variable {prog : Program} {w : World} {A : Around} {E : Value → Shared → Prop} {s : Shared}
theorem getAttr_app {a : Addr} {xs : Array Value} {k : Nat} {Q : Value → Shared → Prop} (hx : s.heap.get? a = some (W.listOf xs k))
    (h : ∀ tk, Q (.ref s.heap.objs.size) { s with heap := s.heap.push (appObj a), toks := tk }) :
    wpAny (model prog w) A (getAttr (.ref a) (PySem.Str.ofString "append") true) Q E s := by
  obtain ⟨hp, g, d, tk, os⟩ := s
  have hT : ∀ tk', (⟨hp, g, d, tk', os⟩ : Shared).TypeIs (.ref a) "list" := fun _ => ⟨_, hx, rfl⟩
  have f3 := F.slot_list_getattribute.lookup
  have f4 := F.slot_list_getattribute.bind (.ref a)
  unfold getAttr getAttrBy
  repeat (any_goals (first | assumption | exact hT _ | ((with_reducible show wpAny _ _ (call (Value.builtin "list.__getattribute__") _ _) _ _ _); refine call_meets F.slot_list_getattribute (hT _) am_entry_list_getattribute (F.args_list_getattribute_2 _ _) (meets_app a xs k _ _) ⟨hx, ?_⟩) | wp_step))
  exact wpAny_pure (h _)
theorem check_app {l : Addr} {xs : Array Value} {n : Nat} {v : Value} {Q : Unit → Shared → Prop} (hl : s.heap.get? l = some (W.listOf xs n)) (h : Q () s) : wpAny (model prog w) A (checkBoundCall "list.append" ⟨[.ref l, v], []⟩) Q E s := by
  have hT : s.TypeIs (.ref l) "list" := ⟨_, hl, rfl⟩
  unfold checkBoundCall
  repeat (any_goals (first | assumption | wp_step))
  refine wpAny_of_eq (a := false) (by rw [isSubtype_type]; kernel_rfl) ?_
  refine KFB.if_not (by decide +kernel) ?_
  repeat (any_goals (first | assumption | wp_step))
theorem call_app {u l : Addr} {xs : Array Value} {n : Nat} {v : Value} {Q : Value → Shared → Prop} (ho : s.heap.get? u = some (appObj l)) (hl : s.heap.get? l = some (W.listOf xs n)) (hz : xs.size ≤ sizeLine)
    (h : ∀ h', Heap.SameBut l s.heap h' → h'.get? l = some (W.listOf (xs.push v) (n + 1)) → Q .none { s with heap := h' }) :
    wpAny (model prog w) A (call (.ref u) [v]) Q E s := by
  refine wpAny_call (codeAny_of_tree ?_)
  show wpAny _ A.in1 (callAny (.ref u) ⟨[v], []⟩) _ _ s
  simp only [callAny]
  refine wpAny_bind (wpAny_load ho ?_)
  simp only [show (Value.type "builtin_function_or_method" == Value.type "method" || Value.type "builtin_function_or_method" == Value.type "builtin_function_or_method" || Value.type "builtin_function_or_method" == Value.type "method-wrapper") = true by decide, if_true]
  refine KFB.if_so (by decide) ?_
  refine wpAny_bind (check_app hl ?_)
  refine wpAny_bind (wpAny_pure (wpAny_pure ?_))
  refine ⟨Code.quiet_builtin _ (by decide +kernel), codeAny_builtin PySem.F.entry_list_append ?_⟩
  show wpAny _ _ (updateSeq l (·.push v) >>= fun _ => ret .none) _ _ s
  refine wpAny_bind (wpAny_updateSeq hl rfl (wpAny_pure ?_))
  exact h _ (Heap.SameBut.update ..) (by rw [Heap.get?_update_self _ hl (by rw [mapSeq_push]; rfl), mapSeq_push])
end

theorem part15 : True := by
  w_top off
  trivial

/-- what may be called with a value of octets, and lays it at the end of a list -/
structure Wr (w : World) (H : Heap) (l u : Addr) : Prop where
  ne : u ≠ l
  here : ∃ o, H.get? u = some o ∧ ((∃ fd, o.data = .func fd) ∨ ∃ c, o = appObj c)
  run : ∀ {dp un : Nat} {fr : Option (List Env)} {gd : Option (List Code)} {s : Shared} {Q E : Value → Shared → Prop} {vs : List Value} {n : Nat} {b : Array UInt8} {t : Tok}, Kp [l] H s.heap → s.heap.get? l = some (PySem.W.listOf vs.toArray n) → vs.length < 100000 →
    dp + 10 < recursionLimit → un + 40 < cLine → (∀ h' tk', Kp [l] s.heap h' → h'.get? l = some (PySem.W.listOf (vs ++ [Value.bytes b t]).toArray (n + 1)) → Q .none { s with heap := h', toks := tk' }) →
    wpAny (model PySem.Challenge.rw_ae6018_01.row.prog w) (AR dp un fr gd) (call (.ref u) [.bytes b t]) Q E s
theorem Wr.mono {w : World} {H H' : Heap} {l u : Addr} (x : Wr w H l u) (k : Kp [l] H H') : Wr w H' l u :=
  ⟨x.ne, let ⟨o, ho, c⟩ := x.here; ⟨o, k _ _ (by simpa using x.ne) ho, c⟩, fun k' => x.run (k.trans k')⟩
theorem Wr.app {w : World} {H : Heap} {l u : Addr} (ne : u ≠ l) (ho : H.get? u = some (appObj l)) : Wr w H l u :=
  ⟨ne, ⟨_, ho, .inr ⟨l, rfl⟩⟩, fun k hl hz _ _ h => call_app (k _ _ (by simpa using ne) ho) hl (by rw [sizeLine_eq]; simp; omega) fun h' hs hn => h h' _ (fun b o hb e => (hs.2 b (by simpa using hb)).trans e) (by simpa using hn)⟩
section
variable {w : World} {A : Around} {E : Value → Shared → Prop} {s : Shared} {H : Heap} {l u : Addr}
theorem callWith_fieldsA {M : Model} {c : Addr} {pos : Pos} {args : List (Bool × Sem Value)} {Q : Value → Shared → Prop} (hplain : args.any (·.1) = false)
    (h : wpAny M A (evalArgs (.ref u) true args []) (fun x s₁ => s₁.heap.get? u = some (appObj c) ∧ wpAny M A (call (.ref u) x.pos x.kw) Q E s₁) E s) : wpAny M A (callWith pos (.ref u) [] args []) Q E s := by
  unfold callWith
  refine wpAny_bind (wpAny_holding (wpAny_mono h (fun x s₁ h₁ => wpAny_bind (wpAny_standAt ?_)) fun _ _ x => x))
  obtain ⟨ho, hcall⟩ := h₁
  simp only [hplain, List.any_nil, Bool.or_false]
  refine wpAny_bind (m := keeperOf (.ref u)) ?_
  unfold keeperOf
  refine wpAny_bind (wpAny_load ho ?_)
  simp only [show (Value.type "builtin_function_or_method" != Value.type "method") = true by decide, show (Value.type "builtin_function_or_method" == Value.type "builtin_function_or_method" || Value.type "builtin_function_or_method" == Value.type "method-wrapper") = true by decide, if_true]
  refine wpAny_pure ?_
  exact wpAny_bind (wpAny_mono hcall (fun r s₂ hr => wpAny_bind (wpAny_holding (wpAny_point (wpAny_pure hr)))) fun _ _ x => x)
theorem callWith_wr {M : Model} {pos : Pos} {env : Env} {e : Expr} {rest : List Expr} {Q : Value → Shared → Prop} (W : Wr w H l u)
    (h : wpAny M A (spliced (backTo pos (starEach (e :: rest) env))) (fun vs s₁ => Kp [l] H s₁.heap ∧ wpAny M A (call (.ref u) vs) Q E s₁) E s)
    (he : starEach (e :: rest) env = (false, eval e env) :: starEach rest env := by rfl) (hplain : (backTo pos (starEach rest env)).any (·.1) = false := by rfl) :
    wpAny M A (callWith pos (.ref u) [] (backTo pos (starEach (e :: rest) env)) []) Q E s := by
  obtain ⟨o, ho, hc⟩ := W.here
  have hu : u ∉ [l] := by simpa using W.ne
  rcases hc with ⟨fd, hfd⟩ | ⟨c, rfl⟩
  · exact callWith_def hfd (wpAny_mono h (fun vs s₁ h₁ => ⟨h₁.1 _ _ hu ho, h₁.2⟩) fun _ _ x => x) he
  · rw [he] at h ⊢
    refine callWith_fieldsA (c := c) (by show (false || (backTo pos (starEach rest env)).any (·.1)) = false; rw [hplain]; rfl) ?_
    exact evalArgs_plain (wpAny_mono h (fun vs s₁ h₁ => ⟨h₁.1 _ _ hu ho, h₁.2⟩) fun _ _ x => x)
end
section
variable {w : World} {dp un : Nat} {fr : Option (List Env)} {gd : Option (List Code)} {s : Shared} {g H : Heap} {L : Addr} {m : Str → Option Value} {Q E : Value → Shared → Prop} {l u : Addr} {news rest : List (Addr × Obj)}
theorem oneBack {h h' : Heap} {o o' : Obj} (F : Fr g L h m) (N : News g L h news) (ml : (l, o) ∈ news) (S : Sep [l] news rest) (k : Kp [l] h h') (e : h'.get? l = some o') : Fr g L h' m ∧ News g L h' ((l, o') :: rest) := by
  have hl := N _ ml
  refine ⟨frKp F k (fun a ha => (List.mem_singleton.mp ha) ▸ hl.2.2) (fun ha => hl.2.1 (List.mem_singleton.mp ha).symm), fun x hx => ?_⟩
  rcases List.mem_cons.mp hx with rfl | hx
  · exact ⟨e, hl.2⟩
  · exact newsKp N k S.spec x hx
theorem wr_use {vs : List Value} {ks : List Int} {n : Nat} {b : Array UInt8} {t : Tok} (W : Wr w H l u) (k : Kp [l] H s.heap) (F : Fr g L s.heap m) (N : News g L s.heap news) (hO : Oct vs ks) (ml : (l, PySem.W.listOf vs.toArray n) ∈ news) (S : Sep [l] news rest)
    (hz : vs.length < 100000) (hroom : dp + 10 < recursionLimit) (hun : un + 40 < cLine)
    (ret : ∀ vs' n' h' tk', Oct vs' (ks ++ KBw.bInts b) → vs'.length = vs.length + 1 → Fr g L h' m → News g L h' ((l, PySem.W.listOf vs'.toArray n') :: rest) → Q .none { s with heap := h', toks := tk' }) :
    wpAny (model PySem.Challenge.rw_ae6018_01.row.prog w) (AR dp un fr gd) (call (.ref u) [.bytes b t]) Q E s :=
  W.run k (N _ ml).1 hz hroom hun fun h' tk' k' e =>
    let ⟨F', N'⟩ := oneBack F N ml S k' e
    ret _ _ h' tk' hO.snoc (by simp) F' N'
end
local macro_rules | `(tactic| walk_at "M enterD") => `(tactic| (
  (case hn => simp [*]); (case ho => k_is); (case hcd => k_is); (case hr => omega); (case hl => exact locs rfl); (case hc => decide); (case h1 => rfl); (case h2 => rfl); (case h3 => rfl)))
local macro_rules | `(tactic| walk_at "callWith ref") => `(tactic| ((with_reducible show wpAny _ _ (callWith _ (Value.ref _) [] (backTo _ (starEach (_ :: _) _)) []) _ _ _); k_dflt (refine' callWith_wr ?w ?_ ?h1 ?h2; (case w => with_reducible assumption); (case h1 => rfl); (case h2 => rfl); k_whole)))
local macro_rules | `(tactic| walk_at "And") => `(tactic| ((with_reducible show Kp _ _ _ ∧ _); refine' And.intro ?k ?_; (case k => k_dflt (exact Ent.back (by assumption) (by k_asm))); (try dsimp only [List.nil_append, List.cons_append])))
local macro_rules | `(tactic| walk_at "call ref") => `(tactic| ((with_reducible show wpAny _ _ (call (Value.ref _) [Value.bytes _ _]) _ _ _); k_dflt (refine' wr_use ?w ?k ?F ?N ?O ?ml ?S ?z ?r ?u ?_; (case w => with_reducible assumption); (case F => k_asm); (case k => (exact Ent.back (by assumption) (by k_asm))); (case N => k_asm); (case O => with_reducible assumption); (case ml => k_mem); (case S => walk_at "M sep"); (case z => omega); (case r => omega); (case u => omega); k_whole); intro vs' n' h' tk' O' Z' F' N'))
section
variable {w : World} {dp un : Nat} {fr : Option (List Env)} {gd : Option (List Code)} {s : Shared} {g₀ : Heap} {mg mb : Str → Option Value} {p : Program} {loose : List Str} {mean : ExcName → Option Value}
  {Q E : Value → Shared → Prop} {l u : Addr}
theorem headN {g h : Heap} {L : Addr} {x : Addr × Obj} {r : List (Addr × Obj)} (N : News g L h (x :: r)) : News g L h [x] := fun p hp => N p (List.mem_cons.mpr (.inl (List.mem_singleton.mp hp)))
theorem or128 {y : Int} (h0 : 0 ≤ y) (h1 : y < 128) : Builtin.bitOr 128 y = 128 + y := by
  have key : ∀ k : Fin 128, Builtin.bitOr 128 ((k.val : Nat) : Int) = 128 + ((k.val : Nat) : Int) := by decide +kernel
  have := key ⟨y.toNat, by omega⟩
  rwa [show ((y.toNat : Nat) : Int) = y by omega] at this
theorem vi_two {x y : Int} (hx : 0 < x) (h0 : 0 ≤ y) (h1 : y < 128) : vi (x * 128 + y).toNat = (128 + y) :: vi x.toNat := by
  rw [vi_step (by omega) (by omega), show (x * 128 + y).fmod 128 = y by rw [Int.fmod_eq_emod_of_nonneg _ (by decide)]; omega, show (x * 128 + y).fdiv 128 = x by rw [Int.fdiv_eq_ediv_of_nonneg _ (by decide)]; omega, Int.add_comm]
theorem one_int {z : Int} {k : UInt8} (h : ((k.toNat : Nat) : Int) = z) : KBw.bInts #[k] = [z] := by subst h; rfl
theorem d7 {x : Int} (h : 0 ≤ x) : x.fdiv (2 ^ Int.toNat 7) = x / 128 := by rw [show (2 : Int) ^ Int.toNat 7 = 128 by decide, Int.fdiv_eq_ediv_of_nonneg _ (by decide)]
set_option maxRecDepth 100000 in
set_option maxHeartbeats 4000000 in
theorem encV_ok {vs : List Value} {ks : List Int} {n : Nat} {v : Int} {t : Tok} {dv : Value}
  (X : (Mine.hd.heap_39 w.params).In g₀) (T : Top p loose mean mg mb g₀) (st : g₀.StaysIn s.heap) (hg : g₀.get? l = none) (hroom : dp + 30 < recursionLimit) (hun : un + 200 < cLine)
  (W : Wr w s.heap l u) (e1 : s.heap.get? l = some (PySem.W.listOf vs.toArray n)) (hO : Oct vs ks) (hz : vs.length < 90000) (h0 : 0 ≤ v) (h1 : v < 1180591620717411303424)
  (ret : ∀ vs' n' h' tk', Oct vs' (ks ++ vi v.toNat) → vs'.length ≤ vs.length + 10 → Kp [l] s.heap h' → h'.get? l = some (PySem.W.listOf vs'.toArray n') → Q .none { s with heap := h', toks := tk' }) :
  wpAny (model PySem.Challenge.rw_ae6018_01.row.prog w) (AR dp un fr gd) (call (.ref 102) [.ref u, .int v t, dv]) Q E s := by
  revert X
  k_fill
  intro X
  k_dflt (refine' callM (binds := [(PySem.Str.ofString "write", .ref u), (PySem.Str.ofString "value", .int v t), (PySem.Str.ofString "unused_deterministic", dv)]) [l] X T st ?hn ?ho ?hcd ?hr ?hb ?hl ?hc ?h1 ?h2 ?h3 ?_)
  walk_at "M enterD"
  (case hb => exact binds_K (X.keeps st) rfl (by k_is) rfl rfl rfl)
  intro g L h₁ tk fr' En F' X' T' st'
  have N' : News g L h₁ [(l, PySem.W.listOf vs.toArray n)] := En.news (by simp [e1])
  have l1 : @LT.lt Nat _ l L := En.lt _ _ e1
  clear e1
  show wpAny _ _ _ _ _ _
  (try dsimp only)
  k_fold
  k_steps
  refine Hold.mk ?_
  rename_i F1 N1
  refine While_inv2 (fun k m nx => ∃ x t1 y t2 vs' n' ks', m (PySem.Str.ofString "value") = some (.int x t1) ∧ m (PySem.Str.ofString "bits") = some (.int y t2) ∧ m (PySem.Str.ofString "write") = some (.ref u) ∧ nx = [(l, PySem.W.listOf vs'.toArray n')] ∧ Oct vs' ks' ∧ k = x.toNat ∧ 0 ≤ x ∧ 0 ≤ y ∧ y < 128 ∧
      ks' ++ vi (x * 128 + y).toNat = ks ++ vi v.toNat ∧ vs'.length + (vi (x * 128 + y).toNat).length = vs.length + (vi v.toNat).length)
    F1 N1 ⟨_, _, _, _, vs, n, ks, rfl, rfl, rfl, rfl, hO, rfl, ?_, ?_, ?_, ?_, ?_⟩ ?_ passes_noE
  · rw [d7 h0]; omega
  · rw [bitAnd_m7]; omega
  · rw [bitAnd_m7]; omega
  · rw [d7 h0, bitAnd_m7, show v / 128 * 128 + v % 128 = v by omega]
  · rw [d7 h0, bitAnd_m7, show v / 128 * 128 + v % 128 = v by omega]
  rintro k m₁ nx h₂ tk₂ F₂ N₂ ⟨x, t1, y, t2, vs', n', ks', q1, q2, q3, rfl, hO', rfl, hx0, hy0, hy1, hv, hlen⟩
  have F3 : Fr g L h₂ _ := frSets (ps := [(PySem.Str.ofString "value", .int x t1), (PySem.Str.ofString "bits", .int y t2), (PySem.Str.ofString "write", .ref u)]) F₂ (by simp [q1, q2, q3])
  have hl0 := vi_len10 (n := v.toNat) (by omega)
  clear F1 N1 F₂ q1 q2 q3 hO
  have hor := or128 hy0 hy1
  have hor0 : 0 ≤ Builtin.bitOr 128 y := by omega
  have hor1 : Builtin.bitOr 128 y < 256 := by omega
  k_steps
  · (rename Fr _ _ _ _ => F9)
    (rename News _ _ _ _ => N9)
    (rename Oct _ _ => O9)
    (rename List.length _ = List.length _ + 1 => Z9)
    rw [one_int (by assumption), hor] at O9
    have hx1 : 0 < x := by omega
    rw [vi_two hx1 hy0 hy1] at hv hlen
    have e7 : x.fdiv (2 ^ Int.toNat 7) * 128 + Builtin.bitAnd x 127 = x := by rw [d7 hx0, bitAnd_m7]; omega
    refine ⟨_, _, _, _, (x.fdiv (2 ^ Int.toNat 7)).toNat, rfl, F9, headN N9, ?_, ?_⟩
    rotate_left
    refine ⟨_, _, _, _, _, _, _, rfl, rfl, rfl, rfl, O9, rfl, ?_, ?_, ?_, ?_, ?_⟩
    · rw [d7 hx0]; omega
    · rw [bitAnd_m7]; omega
    · rw [bitAnd_m7]; omega
    · rw [e7, ← hv]; simp
    · rw [e7, Z9, ← hlen]; simp; omega
    · rw [d7 hx0]; omega
  · (rename Fr _ _ _ _ => F9)
    (rename News _ _ _ _ => N9)
    (rename Oct _ _ => O9)
    have hx : x = 0 := by assumption
    subst hx
    rw [one_int (by assumption)] at O9
    rw [show (0 * 128 + y).toNat = y.toNat by omega, vi_last hy0 (by omega)] at hv hlen
    rw [hv] at O9
    exact ret _ _ _ _ O9 (by simp at hlen; omega) (En.back F9) (N9 _ (List.Mem.head _)).1
end

theorem part16 : True := by
  w_top off
  trivial
section
variable {w : World} {dp un : Nat} {fr : Option (List Env)} {gd : Option (List Code)} {s : Shared} {g₀ : Heap} {mg mb : Str → Option Value} {p : Program} {loose : List Str} {mean : ExcName → Option Value}
  {Q E : Value → Shared → Prop} {l u : Addr}
set_option maxRecDepth 100000 in
set_option maxHeartbeats 4000000 in
theorem encS_ok {vs : List Value} {ks : List Int} {n : Nat} {v : Int} {t : Tok} {dv : Value}
  (X : (Mine.hd.heap_39 w.params).In g₀) (T : Top p loose mean mg mb g₀) (st : g₀.StaysIn s.heap) (hg : g₀.get? l = none) (hroom : dp + 30 < recursionLimit) (hun : un + 200 < cLine)
  (W : Wr w s.heap l u) (e1 : s.heap.get? l = some (PySem.W.listOf vs.toArray n)) (hO : Oct vs ks) (hz : vs.length < 90000) (h0 : -9223372036854775808 ≤ v) (h1 : v < 18446744073709551616)
  (ret : ∀ vs' n' h' tk', Oct vs' (ks ++ vi (v % 18446744073709551616).toNat) → vs'.length ≤ vs.length + 10 → Kp [l] s.heap h' → h'.get? l = some (PySem.W.listOf vs'.toArray n') → Q .none { s with heap := h', toks := tk' }) :
  wpAny (model PySem.Challenge.rw_ae6018_01.row.prog w) (AR dp un fr gd) (call (.ref 110) [.ref u, .int v t, dv]) Q E s := by
  revert X
  k_fill
  intro X
  k_dflt (refine' callM (binds := [(PySem.Str.ofString "write", .ref u), (PySem.Str.ofString "value", .int v t), (PySem.Str.ofString "unused_deterministic", dv)]) [l] X T st ?hn ?ho ?hcd ?hr ?hb ?hl ?hc ?h1 ?h2 ?h3 ?_)
  walk_at "M enterD"
  (case hb => exact binds_K (X.keeps st) rfl (by k_is) rfl rfl rfl)
  intro g L h₁ tk fr' En F' X' T' st'
  have N' : News g L h₁ [(l, PySem.W.listOf vs.toArray n)] := En.news (by simp [e1])
  have l1 : @LT.lt Nat _ l L := En.lt _ _ e1
  clear e1
  show wpAny _ _ _ _ _ _
  (try dsimp only)
  k_fold
  have p64 : (1 : Int) * 2 ^ Int.toNat 64 = 18446744073709551616 := by decide
  by_cases hneg : v < 0
  · k_steps
    simp only [p64] at *
    have hez : v % 18446744073709551616 = (v + 18446744073709551616) := by omega
    have hz0 : 0 ≤ (v + 18446744073709551616) := by omega
    refine Hold.mk ?_
    (rename Fr _ _ _ _ => F1)
    (rename News _ _ _ _ => N1)
    refine While_inv2 (fun k m nx => ∃ x t1 y t2 vs' n' ks', m (PySem.Str.ofString "value") = some (.int x t1) ∧ m (PySem.Str.ofString "bits") = some (.int y t2) ∧ m (PySem.Str.ofString "write") = some (.ref u) ∧ nx = [(l, PySem.W.listOf vs'.toArray n')] ∧ Oct vs' ks' ∧ k = x.toNat ∧ 0 ≤ x ∧ 0 ≤ y ∧ y < 128 ∧
        ks' ++ vi (x * 128 + y).toNat = ks ++ vi ((v + 18446744073709551616)).toNat ∧ vs'.length + (vi (x * 128 + y).toNat).length = vs.length + (vi ((v + 18446744073709551616)).toNat).length)
      F1 N1 ⟨_, _, _, _, vs, n, ks, rfl, rfl, rfl, rfl, hO, rfl, ?_, ?_, ?_, ?_, ?_⟩ ?_ passes_noE
    · rw [d7 hz0]; omega
    · rw [bitAnd_m7]; omega
    · rw [bitAnd_m7]; omega
    · rw [d7 hz0, bitAnd_m7, show ((v + 18446744073709551616)) / 128 * 128 + ((v + 18446744073709551616)) % 128 = (v + 18446744073709551616) by omega]
    · rw [d7 hz0, bitAnd_m7, show ((v + 18446744073709551616)) / 128 * 128 + ((v + 18446744073709551616)) % 128 = (v + 18446744073709551616) by omega]
    rintro k m₁ nx h₂ tk₂ F₂ N₂ ⟨x, t1, y, t2, vs', n', ks', q1, q2, q3, rfl, hO', rfl, hx0, hy0, hy1, hv, hlen⟩
    have F3 : Fr g L h₂ _ := frSets (ps := [(PySem.Str.ofString "value", .int x t1), (PySem.Str.ofString "bits", .int y t2), (PySem.Str.ofString "write", .ref u)]) F₂ (by simp [q1, q2, q3])
    have hl0 := vi_len10 (n := ((v + 18446744073709551616)).toNat) (by omega)
    clear F1 N1 F₂ q1 q2 q3 hO
    have hor := or128 hy0 hy1
    have hor0 : 0 ≤ Builtin.bitOr 128 y := by omega
    have hor1 : Builtin.bitOr 128 y < 256 := by omega
    k_steps
    · (rename Fr _ _ _ _ => F9)
      (rename News _ _ _ _ => N9)
      (rename Oct _ _ => O9)
      (rename List.length _ = List.length _ + 1 => Z9)
      rw [one_int (by assumption), hor] at O9
      have hx1 : 0 < x := by omega
      rw [vi_two hx1 hy0 hy1] at hv hlen
      have e7 : x.fdiv (2 ^ Int.toNat 7) * 128 + Builtin.bitAnd x 127 = x := by rw [d7 hx0, bitAnd_m7]; omega
      refine ⟨_, _, _, _, (x.fdiv (2 ^ Int.toNat 7)).toNat, rfl, F9, headN N9, ?_, ?_⟩
      rotate_left
      refine ⟨_, _, _, _, _, _, _, rfl, rfl, rfl, rfl, O9, rfl, ?_, ?_, ?_, ?_, ?_⟩
      · rw [d7 hx0]; omega
      · rw [bitAnd_m7]; omega
      · rw [bitAnd_m7]; omega
      · rw [e7, ← hv]; simp
      · rw [e7, Z9, ← hlen]; simp; omega
      · rw [d7 hx0]; omega
    · (rename Fr _ _ _ _ => F9)
      (rename News _ _ _ _ => N9)
      (rename Oct _ _ => O9)
      have hx : x = 0 := by assumption
      subst hx
      rw [one_int (by assumption)] at O9
      rw [show (0 * 128 + y).toNat = y.toNat by omega, vi_last hy0 (by omega)] at hv hlen
      rw [hv] at O9
      exact ret _ _ _ _ (by rw [hez]; exact O9) (by simp at hlen; omega) (En.back F9) (N9 _ (List.Mem.head _)).1
  · k_steps
    have hez : v % 18446744073709551616 = v := by omega
    have hz0 : 0 ≤ v := by omega
    refine Hold.mk ?_
    (rename Fr _ _ _ _ => F1)
    (rename News _ _ _ _ => N1)
    refine While_inv2 (fun k m nx => ∃ x t1 y t2 vs' n' ks', m (PySem.Str.ofString "value") = some (.int x t1) ∧ m (PySem.Str.ofString "bits") = some (.int y t2) ∧ m (PySem.Str.ofString "write") = some (.ref u) ∧ nx = [(l, PySem.W.listOf vs'.toArray n')] ∧ Oct vs' ks' ∧ k = x.toNat ∧ 0 ≤ x ∧ 0 ≤ y ∧ y < 128 ∧
        ks' ++ vi (x * 128 + y).toNat = ks ++ vi (v).toNat ∧ vs'.length + (vi (x * 128 + y).toNat).length = vs.length + (vi (v).toNat).length)
      F1 N1 ⟨_, _, _, _, vs, n, ks, rfl, rfl, rfl, rfl, hO, rfl, ?_, ?_, ?_, ?_, ?_⟩ ?_ passes_noE
    · rw [d7 hz0]; omega
    · rw [bitAnd_m7]; omega
    · rw [bitAnd_m7]; omega
    · rw [d7 hz0, bitAnd_m7, show (v) / 128 * 128 + (v) % 128 = v by omega]
    · rw [d7 hz0, bitAnd_m7, show (v) / 128 * 128 + (v) % 128 = v by omega]
    rintro k m₁ nx h₂ tk₂ F₂ N₂ ⟨x, t1, y, t2, vs', n', ks', q1, q2, q3, rfl, hO', rfl, hx0, hy0, hy1, hv, hlen⟩
    have F3 : Fr g L h₂ _ := frSets (ps := [(PySem.Str.ofString "value", .int x t1), (PySem.Str.ofString "bits", .int y t2), (PySem.Str.ofString "write", .ref u)]) F₂ (by simp [q1, q2, q3])
    have hl0 := vi_len10 (n := (v).toNat) (by omega)
    clear F1 N1 F₂ q1 q2 q3 hO
    have hor := or128 hy0 hy1
    have hor0 : 0 ≤ Builtin.bitOr 128 y := by omega
    have hor1 : Builtin.bitOr 128 y < 256 := by omega
    k_steps
    · (rename Fr _ _ _ _ => F9)
      (rename News _ _ _ _ => N9)
      (rename Oct _ _ => O9)
      (rename List.length _ = List.length _ + 1 => Z9)
      rw [one_int (by assumption), hor] at O9
      have hx1 : 0 < x := by omega
      rw [vi_two hx1 hy0 hy1] at hv hlen
      have e7 : x.fdiv (2 ^ Int.toNat 7) * 128 + Builtin.bitAnd x 127 = x := by rw [d7 hx0, bitAnd_m7]; omega
      refine ⟨_, _, _, _, (x.fdiv (2 ^ Int.toNat 7)).toNat, rfl, F9, headN N9, ?_, ?_⟩
      rotate_left
      refine ⟨_, _, _, _, _, _, _, rfl, rfl, rfl, rfl, O9, rfl, ?_, ?_, ?_, ?_, ?_⟩
      · rw [d7 hx0]; omega
      · rw [bitAnd_m7]; omega
      · rw [bitAnd_m7]; omega
      · rw [e7, ← hv]; simp
      · rw [e7, Z9, ← hlen]; simp; omega
      · rw [d7 hx0]; omega
    · (rename Fr _ _ _ _ => F9)
      (rename News _ _ _ _ => N9)
      (rename Oct _ _ => O9)
      have hx : x = 0 := by assumption
      subst hx
      rw [one_int (by assumption)] at O9
      rw [show (0 * 128 + y).toNat = y.toNat by omega, vi_last hy0 (by omega)] at hv hlen
      rw [hv] at O9
      exact ret _ _ _ _ (by rw [hez]; exact O9) (by simp at hlen; omega) (En.back F9) (N9 _ (List.Mem.head _)).1
end

theorem part17 : True := by
  w_top off
  trivial
theorem vi_lenEq : ∀ (k n : Nat), 128 ^ k ≤ n ∨ k = 0 → n < 128 ^ (k + 1) → (vi n).length = k + 1
  | 0, n, _, h => by rw [vi_small (by simpa using by omega)]; rfl
  | k + 1, n, h0, h => by
    have h1 : 128 ^ (k + 1) ≤ n := h0.elim id fun e => absurd e (by omega)
    have hk : 0 < 128 ^ k := Nat.pow_pos (by decide)
    rw [Nat.pow_succ] at h1
    rw [vi_big (by omega), List.length_cons, vi_lenEq k (n / 128) (.inl ((Nat.le_div_iff_mul_le (by decide)).mpr h1)) (Nat.div_lt_of_lt_mul (by rw [Nat.pow_succ] at h; omega))]
theorem vi_lenI {v : Int} {k : Nat} (a : (128 : Int) ^ k ≤ v ∨ k = 0) (b : v < 128 ^ (k + 1)) : (vi v.toNat).length = k + 1 := by
  refine vi_lenEq k v.toNat (a.imp (fun a => ?_) id) ?_
  · have e : ((128 ^ k : Nat) : Int) = (128 : Int) ^ k := by push_cast; rfl
    omega
  · have e : ((128 ^ (k + 1) : Nat) : Int) = (128 : Int) ^ (k + 1) := by push_cast; rfl
    have := Nat.one_le_two_pow (n := k)
    have h2 : 0 < 128 ^ (k + 1) := Nat.pow_pos (by decide)
    omega
theorem bitOr_pp {x y : Int} (hx : 0 ≤ x) (hy : 0 ≤ y) : Builtin.bitOr x y = ((x.toNat ||| y.toNat : Nat) : Int) := by
  rw [bitOr_and, bitAnd_pp hx hy]
  have := nat_or_add_and x.toNat y.toNat
  omega
theorem or_tag {n w : Int} (h0 : 0 ≤ n) (h1 : 0 ≤ w) (h2 : w < 8) : Builtin.bitOr (n * 2 ^ Int.toNat 3) w = 8 * n + w := by
  rw [show (2 : Int) ^ Int.toNat 3 = 8 by decide, bitOr_pp (by omega) h1, show (n * 8).toNat = 2 ^ 3 * n.toNat by omega, ← Nat.two_pow_add_eq_or_of_lt (by omega : w.toNat < 2 ^ 3)]
  omega
theorem bitAnd_m1s (x : Int) : Builtin.bitAnd x (-1) = x := by
  have : (-1 : Int) = Builtin.bitNot 0 := by decide
  rw [this, bitAnd_not, bitAnd_zero]; omega
theorem xor_zz (v : Int) : Builtin.bitXor (v * 2 ^ Int.toNat 1) (Builtin.bitNot 0) = -2 * v - 1 := by
  rw [show Builtin.bitNot 0 = -1 by decide, bitXor_and, bitAnd_m1s, show (2 : Int) ^ Int.toNat 1 = 2 by decide]; omega
theorem bitAnd_m64 (x : Int) : Builtin.bitAnd x 18446744073709551615 = x % 18446744073709551616 := by
  by_cases hx : 0 ≤ x
  · rw [bitAnd_pp hx (by decide), show Int.toNat 18446744073709551615 = 2 ^ 64 - 1 by decide, Nat.and_two_pow_sub_one_eq_mod]
    omega
  · rw [bitAnd_np hx (by decide), show Int.toNat 18446744073709551615 = 2 ^ 64 - 1 by decide, Nat.and_comm, Nat.and_two_pow_sub_one_eq_mod]
    unfold Builtin.bitNot
    omega
section
variable {w : World} {dp un : Nat} {fr : Option (List Env)} {gd : Option (List Code)} {s : Shared} {g₀ : Heap} {mg mb : Str → Option Value} {p : Program} {loose : List Str} {mean : ExcName → Option Value}
  {Q E : Value → Shared → Prop}
set_option maxRecDepth 100000 in
set_option maxHeartbeats 4000000 in
theorem vsize_ok {v : Int} {t : Tok}
  (X : (Mine.hd.heap_39 w.params).In g₀) (T : Top p loose mean mg mb g₀) (st : g₀.StaysIn s.heap) (hroom : dp + 30 < recursionLimit) (hun : un + 200 < cLine)
  (h0 : 0 ≤ v) (h1 : v < 18446744073709551616)
  (ret : ∀ z t' h' tk', z = ((vi v.toNat).length : Int) → Kp [] s.heap h' → Q (.int z t') { s with heap := h', toks := tk' }) :
  wpAny (model PySem.Challenge.rw_ae6018_01.row.prog w) (AR dp un fr gd) (call (.ref 87) [.int v t]) Q E s := by
  revert X
  k_fill
  intro X
  k_dflt (refine' callM (binds := [(PySem.Str.ofString "value", .int v t)]) [] X T st ?hn ?ho ?hcd ?hr ?hb ?hl ?hc ?h1 ?h2 ?h3 ?_)
  walk_at "M enter"
  intro g L h₁ tk fr' En F' X' T' st'
  have N' : News g L h₁ [] := News.nil
  show wpAny _ _ _ _ _ _
  (try dsimp only)
  k_fold
  k_steps
  all_goals (
    (rename Fr _ _ _ _ => F9)
    (refine' ret _ _ _ _ ?e (En.back F9))
    (case e => (first
      | exact (congrArg Nat.cast (vi_lenI (k := 0) (.inr rfl) (by omega))).symm
      | exact (congrArg Nat.cast (vi_lenI (k := 1) (.inl (by omega)) (by omega))).symm
      | exact (congrArg Nat.cast (vi_lenI (k := 2) (.inl (by omega)) (by omega))).symm
      | exact (congrArg Nat.cast (vi_lenI (k := 3) (.inl (by omega)) (by omega))).symm
      | exact (congrArg Nat.cast (vi_lenI (k := 4) (.inl (by omega)) (by omega))).symm
      | exact (congrArg Nat.cast (vi_lenI (k := 5) (.inl (by omega)) (by omega))).symm
      | exact (congrArg Nat.cast (vi_lenI (k := 6) (.inl (by omega)) (by omega))).symm
      | exact (congrArg Nat.cast (vi_lenI (k := 7) (.inl (by omega)) (by omega))).symm
      | exact (congrArg Nat.cast (vi_lenI (k := 8) (.inl (by omega)) (by omega))).symm
      | exact (congrArg Nat.cast (vi_lenI (k := 9) (.inl (by omega)) (by omega))).symm)))
set_option maxRecDepth 100000 in
set_option maxHeartbeats 4000000 in
theorem ssize_ok {v : Int} {t : Tok}
  (X : (Mine.hd.heap_39 w.params).In g₀) (T : Top p loose mean mg mb g₀) (st : g₀.StaysIn s.heap) (hroom : dp + 30 < recursionLimit) (hun : un + 200 < cLine)
  (h0 : -9223372036854775808 ≤ v) (h1 : v < 9223372036854775808)
  (ret : ∀ z t' h' tk', z = ((vi (v % 18446744073709551616).toNat).length : Int) → Kp [] s.heap h' → Q (.int z t') { s with heap := h', toks := tk' }) :
  wpAny (model PySem.Challenge.rw_ae6018_01.row.prog w) (AR dp un fr gd) (call (.ref 94) [.int v t]) Q E s := by
  revert X
  k_fill
  intro X
  k_dflt (refine' callM (binds := [(PySem.Str.ofString "value", .int v t)]) [] X T st ?hn ?ho ?hcd ?hr ?hb ?hl ?hc ?h1 ?h2 ?h3 ?_)
  walk_at "M enter"
  intro g L h₁ tk fr' En F' X' T' st'
  have N' : News g L h₁ [] := News.nil
  show wpAny _ _ _ _ _ _
  (try dsimp only)
  k_fold
  by_cases hneg : v < 0
  · have hz : v % 18446744073709551616 = v + 18446744073709551616 := by omega
    rw [hz] at ret
    k_steps
    all_goals (
      (rename Fr _ _ _ _ => F9)
      (refine' ret _ _ _ _ ?e (En.back F9))
      (case e => (first
        | exact (congrArg Nat.cast (vi_lenI (k := 0) (.inr rfl) (by omega))).symm
        | exact (congrArg Nat.cast (vi_lenI (k := 1) (.inl (by omega)) (by omega))).symm
        | exact (congrArg Nat.cast (vi_lenI (k := 2) (.inl (by omega)) (by omega))).symm
        | exact (congrArg Nat.cast (vi_lenI (k := 3) (.inl (by omega)) (by omega))).symm
        | exact (congrArg Nat.cast (vi_lenI (k := 4) (.inl (by omega)) (by omega))).symm
        | exact (congrArg Nat.cast (vi_lenI (k := 5) (.inl (by omega)) (by omega))).symm
        | exact (congrArg Nat.cast (vi_lenI (k := 6) (.inl (by omega)) (by omega))).symm
        | exact (congrArg Nat.cast (vi_lenI (k := 7) (.inl (by omega)) (by omega))).symm
        | exact (congrArg Nat.cast (vi_lenI (k := 8) (.inl (by omega)) (by omega))).symm
        | exact (congrArg Nat.cast (vi_lenI (k := 9) (.inl (by omega)) (by omega))).symm)))
  · have hz : v % 18446744073709551616 = v := by omega
    rw [hz] at ret
    k_steps
    all_goals (
      (rename Fr _ _ _ _ => F9)
      (refine' ret _ _ _ _ ?e (En.back F9))
      (case e => (first
        | exact (congrArg Nat.cast (vi_lenI (k := 0) (.inr rfl) (by omega))).symm
        | exact (congrArg Nat.cast (vi_lenI (k := 1) (.inl (by omega)) (by omega))).symm
        | exact (congrArg Nat.cast (vi_lenI (k := 2) (.inl (by omega)) (by omega))).symm
        | exact (congrArg Nat.cast (vi_lenI (k := 3) (.inl (by omega)) (by omega))).symm
        | exact (congrArg Nat.cast (vi_lenI (k := 4) (.inl (by omega)) (by omega))).symm
        | exact (congrArg Nat.cast (vi_lenI (k := 5) (.inl (by omega)) (by omega))).symm
        | exact (congrArg Nat.cast (vi_lenI (k := 6) (.inl (by omega)) (by omega))).symm
        | exact (congrArg Nat.cast (vi_lenI (k := 7) (.inl (by omega)) (by omega))).symm
        | exact (congrArg Nat.cast (vi_lenI (k := 8) (.inl (by omega)) (by omega))).symm
        | exact (congrArg Nat.cast (vi_lenI (k := 9) (.inl (by omega)) (by omega))).symm)))
set_option maxRecDepth 100000 in
set_option maxHeartbeats 4000000 in
theorem zigzag_ok {v : Int} {t : Tok}
  (X : (Mine.hd.heap_39 w.params).In g₀) (T : Top p loose mean mg mb g₀) (st : g₀.StaysIn s.heap) (hroom : dp + 30 < recursionLimit) (hun : un + 200 < cLine)
  (h0 : -9223372036854775808 ≤ v) (h1 : v < 9223372036854775808)
  (ret : ∀ z t' h' tk', z = zz v → Kp [] s.heap h' → Q (.int z t') { s with heap := h', toks := tk' }) :
  wpAny (model PySem.Challenge.rw_ae6018_01.row.prog w) (AR dp un fr gd) (call (.ref 80) [.int v t]) Q E s := by
  revert X
  k_fill
  intro X
  k_dflt (refine' callM (binds := [(PySem.Str.ofString "value", .int v t)]) [] X T st ?hn ?ho ?hcd ?hr ?hb ?hl ?hc ?h1 ?h2 ?h3 ?_)
  walk_at "M enter"
  intro g L h₁ tk fr' En F' X' T' st'
  have N' : News g L h₁ [] := News.nil
  show wpAny _ _ _ _ _ _
  (try dsimp only)
  k_fold
  k_steps
  all_goals (
    (rename Fr _ _ _ _ => F9)
    (refine' ret _ _ _ _ ?e (En.back F9))
    (case e => (unfold zz; first | (rw [if_pos (by assumption), show (2 : Int) ^ Int.toNat 1 = 2 by decide]; omega) | (rw [if_neg (by assumption), xor_zz]))))
set_option maxRecDepth 100000 in
set_option maxHeartbeats 4000000 in
theorem packtag_ok {n wt : Int} {t t2 : Tok}
  (X : (Mine.hd.heap_39 w.params).In g₀) (T : Top p loose mean mg mb g₀) (st : g₀.StaysIn s.heap) (hroom : dp + 30 < recursionLimit) (hun : un + 200 < cLine)
  (h0 : 0 ≤ n) (h1 : n ≤ 536870911) (h2 : 0 ≤ wt) (h3 : wt ≤ 5)
  (ret : ∀ z t' h' tk', z = 8 * n + wt → Kp [] s.heap h' → Q (.int z t') { s with heap := h', toks := tk' }) :
  wpAny (model PySem.Challenge.rw_ae6018_01.row.prog w) (AR dp un fr gd) (call (.ref 73) [.int n t, .int wt t2]) Q E s := by
  revert X
  k_fill
  intro X
  k_dflt (refine' callM (binds := [(PySem.Str.ofString "field_number", .int n t), (PySem.Str.ofString "wire_type", .int wt t2)]) [] X T st ?hn ?ho ?hcd ?hr ?hb ?hl ?hc ?h1 ?h2 ?h3 ?_)
  walk_at "M enter"
  intro g L h₁ tk fr' En F' X' T' st'
  have N' : News g L h₁ [] := News.nil
  show wpAny _ _ _ _ _ _
  (try dsimp only)
  k_fold
  k_steps
  all_goals (
    (rename Fr _ _ _ _ => F9)
    (refine' ret _ _ _ _ ?e (En.back F9))
    (case e => (exact or_tag h0 h2 (by omega))))
end

theorem part18 : True := by
  w_top off
  trivial
section
variable {w : World} {dp un : Nat} {fr : Option (List Env)} {gd : Option (List Code)} {s : Shared} {g₀ : Heap} {mg mb : Str → Option Value} {p : Program} {loose : List Str} {mean : ExcName → Option Value}
  {Q E : Value → Shared → Prop}
set_option maxRecDepth 100000 in
set_option maxHeartbeats 4000000 in
theorem calc_I {t : Tok}
  (X : (Mine.hd.heap_39 w.params).In g₀) (T : Top p loose mean mg mb g₀) (st : g₀.StaysIn s.heap) (hroom : dp + 30 < recursionLimit) (hun : un + 200 < cLine)
  
  (ret : ∀ t' h' tk', Kp [] s.heap h' → Q (.int 4 t') { s with heap := h', toks := tk' }) :
  wpAny (model PySem.Challenge.rw_ae6018_01.row.prog w) (AR dp un fr gd) (call (.ref 59) [.str (PySem.Str.ofString "<I") t]) Q E s := by
  revert X
  k_fill
  intro X
  k_dflt (refine' callM (binds := [(PySem.Str.ofString "format", .str (PySem.Str.ofString "<I") t)]) [] X T st ?hn ?ho ?hcd ?hr ?hb ?hl ?hc ?h1 ?h2 ?h3 ?_)
  walk_at "M enter"
  intro g L h₁ tk fr' En F' X' T' st'
  have N' : News g L h₁ [] := News.nil
  show wpAny _ _ _ _ _ _
  (try dsimp only)
  k_fold
  k_steps
  all_goals (
    (rename Fr _ _ _ _ => F9)
    exact ret _ _ _ (En.back F9))
set_option maxRecDepth 100000 in
set_option maxHeartbeats 4000000 in
theorem calc_i {t : Tok}
  (X : (Mine.hd.heap_39 w.params).In g₀) (T : Top p loose mean mg mb g₀) (st : g₀.StaysIn s.heap) (hroom : dp + 30 < recursionLimit) (hun : un + 200 < cLine)
  
  (ret : ∀ t' h' tk', Kp [] s.heap h' → Q (.int 4 t') { s with heap := h', toks := tk' }) :
  wpAny (model PySem.Challenge.rw_ae6018_01.row.prog w) (AR dp un fr gd) (call (.ref 59) [.str (PySem.Str.ofString "<i") t]) Q E s := by
  revert X
  k_fill
  intro X
  k_dflt (refine' callM (binds := [(PySem.Str.ofString "format", .str (PySem.Str.ofString "<i") t)]) [] X T st ?hn ?ho ?hcd ?hr ?hb ?hl ?hc ?h1 ?h2 ?h3 ?_)
  walk_at "M enter"
  intro g L h₁ tk fr' En F' X' T' st'
  have N' : News g L h₁ [] := News.nil
  show wpAny _ _ _ _ _ _
  (try dsimp only)
  k_fold
  k_steps
  all_goals (
    (rename Fr _ _ _ _ => F9)
    exact ret _ _ _ (En.back F9))
set_option maxRecDepth 100000 in
set_option maxHeartbeats 4000000 in
theorem calc_Q {t : Tok}
  (X : (Mine.hd.heap_39 w.params).In g₀) (T : Top p loose mean mg mb g₀) (st : g₀.StaysIn s.heap) (hroom : dp + 30 < recursionLimit) (hun : un + 200 < cLine)
  
  (ret : ∀ t' h' tk', Kp [] s.heap h' → Q (.int 8 t') { s with heap := h', toks := tk' }) :
  wpAny (model PySem.Challenge.rw_ae6018_01.row.prog w) (AR dp un fr gd) (call (.ref 59) [.str (PySem.Str.ofString "<Q") t]) Q E s := by
  revert X
  k_fill
  intro X
  k_dflt (refine' callM (binds := [(PySem.Str.ofString "format", .str (PySem.Str.ofString "<Q") t)]) [] X T st ?hn ?ho ?hcd ?hr ?hb ?hl ?hc ?h1 ?h2 ?h3 ?_)
  walk_at "M enter"
  intro g L h₁ tk fr' En F' X' T' st'
  have N' : News g L h₁ [] := News.nil
  show wpAny _ _ _ _ _ _
  (try dsimp only)
  k_fold
  k_steps
  all_goals (
    (rename Fr _ _ _ _ => F9)
    exact ret _ _ _ (En.back F9))
set_option maxRecDepth 100000 in
set_option maxHeartbeats 4000000 in
theorem calc_q {t : Tok}
  (X : (Mine.hd.heap_39 w.params).In g₀) (T : Top p loose mean mg mb g₀) (st : g₀.StaysIn s.heap) (hroom : dp + 30 < recursionLimit) (hun : un + 200 < cLine)
  
  (ret : ∀ t' h' tk', Kp [] s.heap h' → Q (.int 8 t') { s with heap := h', toks := tk' }) :
  wpAny (model PySem.Challenge.rw_ae6018_01.row.prog w) (AR dp un fr gd) (call (.ref 59) [.str (PySem.Str.ofString "<q") t]) Q E s := by
  revert X
  k_fill
  intro X
  k_dflt (refine' callM (binds := [(PySem.Str.ofString "format", .str (PySem.Str.ofString "<q") t)]) [] X T st ?hn ?ho ?hcd ?hr ?hb ?hl ?hc ?h1 ?h2 ?h3 ?_)
  walk_at "M enter"
  intro g L h₁ tk fr' En F' X' T' st'
  have N' : News g L h₁ [] := News.nil
  show wpAny _ _ _ _ _ _
  (try dsimp only)
  k_fold
  k_steps
  all_goals (
    (rename Fr _ _ _ _ => F9)
    exact ret _ _ _ (En.back F9))
end
section
variable {w : World} {dp un : Nat} {fr : Option (List Env)} {gd : Option (List Code)} {s : Shared} {g : Heap} {L : Addr} {m : Str → Option Value} {news : List (Addr × Obj)} {mg mb : Str → Option Value} {p : Program} {loose : List Str} {mean : ExcName → Option Value}
  {Q E : Value → Shared → Prop}
theorem calc_use_I {t : Tok} (F : Fr g L s.heap m) (X : (Mine.hd.heap_39 w.params).In g) (T : Top p loose mean mg mb g) (N : News g L s.heap news) (hroom : dp + 30 < recursionLimit) (hun : un + 200 < cLine)
    (ret : ∀ t' h' tk', Fr g L h' m → News g L h' news → Q (.int 4 t') { s with heap := h', toks := tk' }) :
    wpAny (model PySem.Challenge.rw_ae6018_01.row.prog w) (AR dp un fr gd) (call (.ref 59) [.str (PySem.Str.ofString "<I") t]) Q E s :=
  calc_I X T F.keep hroom hun fun t' h' tk' k => ret t' h' tk' (frKp0 F k) (newsKp0 N k)
theorem calc_use_i {t : Tok} (F : Fr g L s.heap m) (X : (Mine.hd.heap_39 w.params).In g) (T : Top p loose mean mg mb g) (N : News g L s.heap news) (hroom : dp + 30 < recursionLimit) (hun : un + 200 < cLine)
    (ret : ∀ t' h' tk', Fr g L h' m → News g L h' news → Q (.int 4 t') { s with heap := h', toks := tk' }) :
    wpAny (model PySem.Challenge.rw_ae6018_01.row.prog w) (AR dp un fr gd) (call (.ref 59) [.str (PySem.Str.ofString "<i") t]) Q E s :=
  calc_i X T F.keep hroom hun fun t' h' tk' k => ret t' h' tk' (frKp0 F k) (newsKp0 N k)
theorem calc_use_Q {t : Tok} (F : Fr g L s.heap m) (X : (Mine.hd.heap_39 w.params).In g) (T : Top p loose mean mg mb g) (N : News g L s.heap news) (hroom : dp + 30 < recursionLimit) (hun : un + 200 < cLine)
    (ret : ∀ t' h' tk', Fr g L h' m → News g L h' news → Q (.int 8 t') { s with heap := h', toks := tk' }) :
    wpAny (model PySem.Challenge.rw_ae6018_01.row.prog w) (AR dp un fr gd) (call (.ref 59) [.str (PySem.Str.ofString "<Q") t]) Q E s :=
  calc_Q X T F.keep hroom hun fun t' h' tk' k => ret t' h' tk' (frKp0 F k) (newsKp0 N k)
theorem calc_use_q {t : Tok} (F : Fr g L s.heap m) (X : (Mine.hd.heap_39 w.params).In g) (T : Top p loose mean mg mb g) (N : News g L s.heap news) (hroom : dp + 30 < recursionLimit) (hun : un + 200 < cLine)
    (ret : ∀ t' h' tk', Fr g L h' m → News g L h' news → Q (.int 8 t') { s with heap := h', toks := tk' }) :
    wpAny (model PySem.Challenge.rw_ae6018_01.row.prog w) (AR dp un fr gd) (call (.ref 59) [.str (PySem.Str.ofString "<q") t]) Q E s :=
  calc_q X T F.keep hroom hun fun t' h' tk' k => ret t' h' tk' (frKp0 F k) (newsKp0 N k)
end
local macro_rules | `(tactic| walk_at "call ref") => `(tactic| ((with_reducible show wpAny _ _ (call (Value.ref 59) [Value.str (PySem.Str.ofString "<I") _]) _ _ _); k_dflt (refine' calc_use_I ?F ?X ?T ?N ?r ?u ?_; (case F => k_asm); (case X => k_asm); (case T => k_asm); (case N => k_asm); (case r => omega); (case u => omega); k_whole); intro t' h' tk' F' N'))
local macro_rules | `(tactic| walk_at "call ref") => `(tactic| ((with_reducible show wpAny _ _ (call (Value.ref 59) [Value.str (PySem.Str.ofString "<i") _]) _ _ _); k_dflt (refine' calc_use_i ?F ?X ?T ?N ?r ?u ?_; (case F => k_asm); (case X => k_asm); (case T => k_asm); (case N => k_asm); (case r => omega); (case u => omega); k_whole); intro t' h' tk' F' N'))
local macro_rules | `(tactic| walk_at "call ref") => `(tactic| ((with_reducible show wpAny _ _ (call (Value.ref 59) [Value.str (PySem.Str.ofString "<Q") _]) _ _ _); k_dflt (refine' calc_use_Q ?F ?X ?T ?N ?r ?u ?_; (case F => k_asm); (case X => k_asm); (case T => k_asm); (case N => k_asm); (case r => omega); (case u => omega); k_whole); intro t' h' tk' F' N'))
local macro_rules | `(tactic| walk_at "call ref") => `(tactic| ((with_reducible show wpAny _ _ (call (Value.ref 59) [Value.str (PySem.Str.ofString "<q") _]) _ _ _); k_dflt (refine' calc_use_q ?F ?X ?T ?N ?r ?u ?_; (case F => k_asm); (case X => k_asm); (case T => k_asm); (case N => k_asm); (case r => omega); (case u => omega); k_whole); intro t' h' tk' F' N'))
section
variable {w : World} {dp un : Nat} {fr : Option (List Env)} {gd : Option (List Code)} {s : Shared} {g₀ : Heap} {mg mb : Str → Option Value} {p : Program} {loose : List Str} {mean : ExcName → Option Value}
  {Q E : Value → Shared → Prop}
set_option maxRecDepth 100000 in
set_option maxHeartbeats 4000000 in
theorem pack_I {v : Int} {t t2 : Tok}
  (X : (Mine.hd.heap_39 w.params).In g₀) (T : Top p loose mean mg mb g₀) (st : g₀.StaysIn s.heap) (hroom : dp + 40 < recursionLimit) (hun : un + 300 < cLine)
  (h0 : 0 ≤ v) (h1 : v < 4294967296)
  (ret : ∀ b t' h' tk', KBw.bInts b = KTBy.little 4 (v % 4294967296) → Kp [] s.heap h' → Q (.bytes b t') { s with heap := h', toks := tk' }) :
  wpAny (model PySem.Challenge.rw_ae6018_01.row.prog w) (AR dp un fr gd) (call (.ref 66) [.str (PySem.Str.ofString "<I") t, .int v t2]) Q E s := by
  revert X
  k_fill
  intro X
  k_dflt (refine' callM (binds := [(PySem.Str.ofString "format", .str (PySem.Str.ofString "<I") t), (PySem.Str.ofString "value", .int v t2)]) [] X T st ?hn ?ho ?hcd ?hr ?hb ?hl ?hc ?h1 ?h2 ?h3 ?_)
  walk_at "M enter"
  intro g L h₁ tk fr' En F' X' T' st'
  have N' : News g L h₁ [] := News.nil
  show wpAny _ _ _ _ _ _
  (try dsimp only)
  k_fold
  have p1 : (1 : Int) * 2 ^ Int.toNat (8 * 4) = 4294967296 := by decide
  have p2 : (1 : Int) * 2 ^ Int.toNat (8 * 8) = 18446744073709551616 := by decide
  have p3 : (1 : Int) * 2 ^ Int.toNat (8 * 4 - 1) = 2147483648 := by decide
  have p4 : (1 : Int) * 2 ^ Int.toNat (8 * 8 - 1) = 9223372036854775808 := by decide
  k_steps
  (rename Fr _ _ _ _ => F9)
  have hmask : Builtin.bitAnd v (1 * 2 ^ Int.toNat (8 * 4) - 1) = v % 4294967296 := by (rw [p1, show (4294967296 : Int) - 1 = 4294967295 by decide, bitAnd_m32])
  rw [hmask]
  refine KTBy.to_little (k := 4) (B := 4294967296) (by decide) (by decide) (by omega) (by omega) fun b t' k' hb _ => ?_
  exact ret _ _ _ _ hb (En.back F9)
set_option maxRecDepth 100000 in
set_option maxHeartbeats 4000000 in
theorem pack_i {v : Int} {t t2 : Tok}
  (X : (Mine.hd.heap_39 w.params).In g₀) (T : Top p loose mean mg mb g₀) (st : g₀.StaysIn s.heap) (hroom : dp + 40 < recursionLimit) (hun : un + 300 < cLine)
  (h0 : -2147483648 ≤ v) (h1 : v < 2147483648)
  (ret : ∀ b t' h' tk', KBw.bInts b = KTBy.little 4 (v % 4294967296) → Kp [] s.heap h' → Q (.bytes b t') { s with heap := h', toks := tk' }) :
  wpAny (model PySem.Challenge.rw_ae6018_01.row.prog w) (AR dp un fr gd) (call (.ref 66) [.str (PySem.Str.ofString "<i") t, .int v t2]) Q E s := by
  revert X
  k_fill
  intro X
  k_dflt (refine' callM (binds := [(PySem.Str.ofString "format", .str (PySem.Str.ofString "<i") t), (PySem.Str.ofString "value", .int v t2)]) [] X T st ?hn ?ho ?hcd ?hr ?hb ?hl ?hc ?h1 ?h2 ?h3 ?_)
  walk_at "M enter"
  intro g L h₁ tk fr' En F' X' T' st'
  have N' : News g L h₁ [] := News.nil
  show wpAny _ _ _ _ _ _
  (try dsimp only)
  k_fold
  have p1 : (1 : Int) * 2 ^ Int.toNat (8 * 4) = 4294967296 := by decide
  have p2 : (1 : Int) * 2 ^ Int.toNat (8 * 8) = 18446744073709551616 := by decide
  have p3 : (1 : Int) * 2 ^ Int.toNat (8 * 4 - 1) = 2147483648 := by decide
  have p4 : (1 : Int) * 2 ^ Int.toNat (8 * 8 - 1) = 9223372036854775808 := by decide
  k_steps
  (rename Fr _ _ _ _ => F9)
  have hmask : Builtin.bitAnd v (1 * 2 ^ Int.toNat (8 * 4) - 1) = v % 4294967296 := by (rw [p1, show (4294967296 : Int) - 1 = 4294967295 by decide, bitAnd_m32])
  rw [hmask]
  refine KTBy.to_little (k := 4) (B := 4294967296) (by decide) (by decide) (by omega) (by omega) fun b t' k' hb _ => ?_
  exact ret _ _ _ _ hb (En.back F9)
set_option maxRecDepth 100000 in
set_option maxHeartbeats 4000000 in
theorem pack_Q {v : Int} {t t2 : Tok}
  (X : (Mine.hd.heap_39 w.params).In g₀) (T : Top p loose mean mg mb g₀) (st : g₀.StaysIn s.heap) (hroom : dp + 40 < recursionLimit) (hun : un + 300 < cLine)
  (h0 : 0 ≤ v) (h1 : v < 18446744073709551616)
  (ret : ∀ b t' h' tk', KBw.bInts b = KTBy.little 8 (v % 18446744073709551616) → Kp [] s.heap h' → Q (.bytes b t') { s with heap := h', toks := tk' }) :
  wpAny (model PySem.Challenge.rw_ae6018_01.row.prog w) (AR dp un fr gd) (call (.ref 66) [.str (PySem.Str.ofString "<Q") t, .int v t2]) Q E s := by
  revert X
  k_fill
  intro X
  k_dflt (refine' callM (binds := [(PySem.Str.ofString "format", .str (PySem.Str.ofString "<Q") t), (PySem.Str.ofString "value", .int v t2)]) [] X T st ?hn ?ho ?hcd ?hr ?hb ?hl ?hc ?h1 ?h2 ?h3 ?_)
  walk_at "M enter"
  intro g L h₁ tk fr' En F' X' T' st'
  have N' : News g L h₁ [] := News.nil
  show wpAny _ _ _ _ _ _
  (try dsimp only)
  k_fold
  have p1 : (1 : Int) * 2 ^ Int.toNat (8 * 4) = 4294967296 := by decide
  have p2 : (1 : Int) * 2 ^ Int.toNat (8 * 8) = 18446744073709551616 := by decide
  have p3 : (1 : Int) * 2 ^ Int.toNat (8 * 4 - 1) = 2147483648 := by decide
  have p4 : (1 : Int) * 2 ^ Int.toNat (8 * 8 - 1) = 9223372036854775808 := by decide
  k_steps
  (rename Fr _ _ _ _ => F9)
  have hmask : Builtin.bitAnd v (1 * 2 ^ Int.toNat (8 * 8) - 1) = v % 18446744073709551616 := by (rw [p2, show (18446744073709551616 : Int) - 1 = 18446744073709551615 by decide, bitAnd_m64])
  rw [hmask]
  refine KTBy.to_little (k := 8) (B := 18446744073709551616) (by decide) (by decide) (by omega) (by omega) fun b t' k' hb _ => ?_
  exact ret _ _ _ _ hb (En.back F9)
set_option maxRecDepth 100000 in
set_option maxHeartbeats 4000000 in
theorem pack_q {v : Int} {t t2 : Tok}
  (X : (Mine.hd.heap_39 w.params).In g₀) (T : Top p loose mean mg mb g₀) (st : g₀.StaysIn s.heap) (hroom : dp + 40 < recursionLimit) (hun : un + 300 < cLine)
  (h0 : -9223372036854775808 ≤ v) (h1 : v < 9223372036854775808)
  (ret : ∀ b t' h' tk', KBw.bInts b = KTBy.little 8 (v % 18446744073709551616) → Kp [] s.heap h' → Q (.bytes b t') { s with heap := h', toks := tk' }) :
  wpAny (model PySem.Challenge.rw_ae6018_01.row.prog w) (AR dp un fr gd) (call (.ref 66) [.str (PySem.Str.ofString "<q") t, .int v t2]) Q E s := by
  revert X
  k_fill
  intro X
  k_dflt (refine' callM (binds := [(PySem.Str.ofString "format", .str (PySem.Str.ofString "<q") t), (PySem.Str.ofString "value", .int v t2)]) [] X T st ?hn ?ho ?hcd ?hr ?hb ?hl ?hc ?h1 ?h2 ?h3 ?_)
  walk_at "M enter"
  intro g L h₁ tk fr' En F' X' T' st'
  have N' : News g L h₁ [] := News.nil
  show wpAny _ _ _ _ _ _
  (try dsimp only)
  k_fold
  have p1 : (1 : Int) * 2 ^ Int.toNat (8 * 4) = 4294967296 := by decide
  have p2 : (1 : Int) * 2 ^ Int.toNat (8 * 8) = 18446744073709551616 := by decide
  have p3 : (1 : Int) * 2 ^ Int.toNat (8 * 4 - 1) = 2147483648 := by decide
  have p4 : (1 : Int) * 2 ^ Int.toNat (8 * 8 - 1) = 9223372036854775808 := by decide
  k_steps
  (rename Fr _ _ _ _ => F9)
  have hmask : Builtin.bitAnd v (1 * 2 ^ Int.toNat (8 * 8) - 1) = v % 18446744073709551616 := by (rw [p2, show (18446744073709551616 : Int) - 1 = 18446744073709551615 by decide, bitAnd_m64])
  rw [hmask]
  refine KTBy.to_little (k := 8) (B := 18446744073709551616) (by decide) (by decide) (by omega) (by omega) fun b t' k' hb _ => ?_
  exact ret _ _ _ _ hb (En.back F9)
end

theorem part19 : True := by
  w_top off
  trivial
section
variable {M : Model} {A : Around} {E : Value → Shared → Prop}
theorem bindAll {env : Env} (hp : (env.scope.kind == .class || (env.scope.kind == .module && env.locals != env.globals)) = false) (f : Str × Value → PUnit → Sem (ForInStep PUnit)) (hf : ∀ x u, f x u = (do storeName env x.1 x.2; pure (.yield ⟨⟩))) :
    ∀ (binds : List (Str × Value)) (m : Str → Option Value) (s : Shared) (Q : PUnit → Shared → Prop), (∀ x ∈ binds, env.kindOf x.1 = some .local) → s.heap.Ns env.locals m →
      (∀ h' tk, h'.Ns env.locals (fun x => (binds.reverse.lookup x).or (m x)) → Heap.SameBut env.locals s.heap h' → Q ⟨⟩ { s with heap := h', toks := tk }) → wpAny M A (forIn binds ⟨⟩ f) Q E s
  | [], m, s, Q, _, hn, h => by
    rw [List.forIn_nil]
    exact wpAny_pure (h s.heap s.toks (by simpa using hn) (.refl ..))
  | (n, v) :: r, m, s, Q, hk, hn, h => by
    rw [List.forIn_cons, hf]
    refine wpAny_bind (wpAny_bind (wpAny_storeName_local (hk (n, v) (.head _)) hn (fun h₁ hn₁ hs₁ => wpAny_pure (bindAll hp f hf r _ _ Q (fun x hx => hk x (.tail _ hx)) hn₁ fun h' tk hn' hs' => ?_)) hp))
    refine h h' tk ?_ (hs₁.trans hs')
    have e : (fun x => (((n, v) :: r).reverse.lookup x).or (m x)) = fun x => (r.reverse.lookup x).or (if x = n then some v else m x) := by
      funext x
      simp only [List.reverse_cons, List.lookup_append, Option.or_assoc, List.lookup_cons, List.lookup_nil]
      by_cases hx : x = n
      · subst hx; simp
      · have hb : (x == n) = false := beq_eq_false_iff_ne.mpr hx
        simp [hb, hx]
    rw [e]; exact hn'
theorem envCC {s : Shared} {scope : Scope} {globals : Addr} {cl : List (Str × Addr)} {binds : List (Str × Value)} {qual : Str} {func : Option Addr} {code : Value} {builtins : Addr} {Q : Env → Shared → Prop}
    (hk : scope.kind = .function) (hl : ∀ x ∈ binds, scope.names.lookup x.1 = some .local)
    (hQ : ∀ h₁ tk, h₁.Ns s.heap.objs.size (fun x => binds.reverse.lookup x) → (∀ b o, s.heap.get? b = some o → h₁.get? b = some o) → (∀ n c, (n, c) ∈ cellsFrom (s.heap.objs.size + 1) scope.names [] → h₁.IsCell c none ∧ s.heap.objs.size < c) →
      Q (newEnv scope s.heap.objs.size globals (cellsFrom (s.heap.objs.size + 1) scope.names cl) qual func code none builtins) { s with heap := h₁, toks := tk }) :
    wpAny M A (newFunctionEnv scope globals cl binds qual func code none builtins) Q E s := by
  simp only [newFunctionEnv, Option.isSome_none, Bool.false_eq_true, if_false]
  refine wpAny_bind (wpAny_alloc ?_)
  refine wpAny_bind (wpAny_layCells _ (fun name kind cells => by cases hkc : kind == NameKind.cell <;> simp [hkc]) _ _ _ _ ?_)
  have ok := cellsFrom_ok scope.names (s.heap.push { cls := .type "frame", data := .dict #[] }) (s.heap.objs.size + 1) [] ⟨fun _ _ hm => (nomatch hm), List.Pairwise.nil⟩ (by rw [Heap.size_push]; exact Nat.le_refl _)
  rw [Heap.size_push] at ok
  rw [show ({ s with heap := s.heap.push { cls := .type "frame", data := .dict #[] } } : Shared).heap.objs.size = s.heap.objs.size + 1 from Heap.size_push ..]
  refine wpAny_bind (bindAll (env := newEnv scope s.heap.objs.size globals (cellsFrom (s.heap.objs.size + 1) scope.names cl) qual func code none builtins) (by show (scope.kind == .class || (scope.kind == .module && _)) = false; rw [hk]; rfl)
    _ (fun _ _ => rfl) binds (fun _ => none) _ _ hl ((Heap.Ns.new s.heap (.type "frame")).keeps (pushCells_keeps _ _)) fun h' tk hn' hs' => wpAny_pure (hQ h' tk (by simpa [newEnv] using hn') (fun b o e => ?_) fun n c hm => ?_))
  · exact hs'.extBut b o (Nat.ne_of_lt (Heap.lt_size e)) (pushCells_keeps _ _ b o (Heap.get?_push_of_some _ e))
  · obtain ⟨h1, h2⟩ := ok.empty n c hm
    exact ⟨h1.sameBut hs' (Nat.ne_of_gt h2), h2⟩
end
section
variable {prog : Program} {w : World} {dp un : Nat} {fr : Option (List Env)} {gd : Option (List Code)} {s : Shared} {K : Frag} {g₀ : Heap} {mg mb : Str → Option Value} {p : Program} {loose : List Str} {mean : ExcName → Option Value}
  {Q E : Value → Shared → Prop} {name qual : Str} {params : Arguments} {body : List Stmt} {scope : Scope} {dV kV doc pm cdv ct oc : Value} {an : Option Addr} {od : Option Addr} {osl : Array (Option Value)} {f : Addr} {cl : List (Str × Addr)} {args : List Value} {binds : List (Str × Value)}
/-- to enter a def that stands in the heap, with free names and cells of its own -/
theorem callMX (as : List Addr) (X : K.In g₀) (T : Top p loose mean mg mb g₀) (st : g₀.StaysIn s.heap) (hn : ∀ a ∈ as, g₀.get? a = none)
    (ho : s.heap.get? f = some ⟨oc, od, .func (fnX name qual params body scope cl dV kV doc pm an cdv ct), osl⟩) (hcd : s.heap.CodeRec cdv qual) (hroom : dp < recursionLimit)
    (hbind : BindsTo s (fnX name qual params body scope cl dV kV doc pm an cdv ct) ⟨args, []⟩ binds) (hloc : ∀ y ∈ binds, scope.names.lookup y.1 = some .local)
    (hco : scope.isCoroutine = false) (hgen : scope.isGenerator = false) (hk : scope.kind = .function)
    (h : ∀ g L h₁ tk fr' cells, Ent as s.heap g L h₁ → Fr g L h₁ (fun y => binds.reverse.lookup y) → News g L h₁ cells → CellsAre (fun _ => none) (cellsFrom (L + 1) scope.names []) cells → K.In g → Top p loose mean mg mb g → g₀.StaysIn g →
      wpAny (model prog w) (AR (dp + 1) (un + 3) fr' gd) (execs body (envX qual scope L f cdv (cellsFrom (L + 1) scope.names cl)))
        (fun fl s' => Q (match fl with | .ret v => v | _ => .none) s')
        noE
        { s with heap := h₁, toks := tk }) :
    wpAny (model prog w) (AR dp un fr gd) (call (.ref f) args) Q E s := by
  have nm : ∀ b o, g₀.get? b = some o → b ∉ as := fun b o e q => by rw [hn b q] at e; cases e
  have st' : g₀.StaysIn (hideAll s.heap as) := fun b o e => hideAll_get _ (st b o e) (nm b o e)
  refine wpAny_call (codeAny_call_function hroom ho rfl hco hgen rfl hcd (hbind _ _ _ _ ?_))
  refine envCC hk hloc fun h₁ tk hns hk₁ hc => ?_
  refine ⟨(T.nolimit.keeps st).keeps hk₁, codeAny_func ?_⟩
  obtain ⟨cells, NC, Y⟩ := Cl.news (h₀ := s.heap) (cm := fun _ => none) (Nat.le_refl _) hc
  exact wpAny_mono (h (hideAll s.heap as) s.heap.objs.size h₁ tk _ cells
    ⟨fun b o n e => hideAll_get _ e n, fun a ha => hideAll_none _ ha, hk₁, fun b o e => Heap.lt_size e⟩
    ⟨hns, fun b o e => hk₁ b o (of_hideAll _ e), Nat.le_of_eq (hideAll_size _ _)⟩
    (fun p hp => ⟨(NC p hp).1, (NC p hp).2.1, by
      cases q : (hideAll s.heap as).get? p.1 with
      | none => rfl
      | some o => have := of_hideAll _ q; rw [(NC p hp).2.2] at this; cases this⟩) Y (X.keeps st') (T.keeps st') st') (fun _ _ x => x) (fun _ _ x => x.elim)
end
section
variable {M : Model} {A : Around} {E : Value → Shared → Prop} {s : Shared} {g : Heap} {L : Addr} {env : Env} {x : Str} {pos : Pos} {v : Value} {Q : Value → Shared → Prop} {m : Str → Option Value} {c : Addr} {o : Obj}
/-- a free name whose cell stands -/
theorem nameFree (F : Fr g L s.heap m) (hc : env.cells.lookup x = some c) (hg : g.get? c = some o) (hdt : o.data = .cell (some v)) (h : Q v s)
    (hk : env.scope.kind = .function) (hx : env.kindOf x = some .free) (hd : (x == ("__debug__" : Str)) = false) (hcd : (x == ("__classdict__" : Str)) = false) :
    wpAny M A (eval (.Name x pos) env) Q E s := wpAny_Name (wpAny_loadName_free hk hx hc ⟨o, F.keep _ _ hg, hdt⟩ h hcd) hd
end
local macro_rules | `(tactic| walk_at "eval Name") => `(tactic| (k_dflt (refine' nameFree ?F ?c ?g ?d ?_ ?h1 ?h2 ?h3 ?h4; (case h1 => rfl); (case h2 => rfl); (case h3 => decide); (case h4 => decide); (case F => k_asm); (case c => rfl); (case g => with_reducible assumption); (case d => with_reducible assumption); k_whole)))

theorem part20 : True := by
  w_top off
  trivial
section
variable {w : World} {K : Frag} {g₀ : Heap} {mg mb : Str → Option Value} {p : Program} {loose : List Str} {mean : ExcName → Option Value}
  {name qual x : Str} {params : Arguments} {body : Expr} {scope : Scope} {pm ctv : Value} {f c' l : Addr} {cl : List (Str × Addr)}
/-- a lambda that writes -/
theorem wrOf {H : Heap} (X : K.In g₀) (T : Top p loose mean mg mb g₀) (st : g₀.StaysIn H) (hl : g₀.get? l = none)
    (ho : H.get? f = some (kla_obj name qual params body scope cl pm c' ctv)) (hcd : H.CodeRec (.ref c') qual) (hfl : f ≠ l) (hcl : c' ≠ l)
    (hbind : ∀ (b : Array UInt8) (t : Tok), bindArgs (kla_fn name qual params body scope cl pm (.ref c') ctv) ⟨[.bytes b t], []⟩ = pure [(x, .bytes b t)])
    (hloc : scope.names.lookup x = some .local) (hcell : ∀ y ∈ scope.names, y.2 ≠ .cell) (hco : scope.isCoroutine = false) (hgen : scope.isGenerator = false) (hk : scope.kind = .function)
    (h : ∀ (dp un : Nat) (fr' : Option (List Env)) (gd : Option (List Code)) (s : Shared) (Q : Value → Shared → Prop) (vs : List Value) (n : Nat) (b : Array UInt8) (t : Tok) g L h₁ tk,
      vs.length < 100000 → dp + 10 < recursionLimit → un + 40 < cLine → (∀ h' tk', Kp [l] s.heap h' → h'.get? l = some (PySem.W.listOf (vs ++ [Value.bytes b t]).toArray (n + 1)) → Q .none { s with heap := h', toks := tk' }) →
      Ent [l] s.heap g L h₁ → (∀ a o, a ≠ l → H.get? a = some o → g.get? a = some o) → Fr g L h₁ (fun y => [(x, Value.bytes b t)].reverse.lookup y) → News g L h₁ [(l, PySem.W.listOf vs.toArray n)] → K.In g → Top p loose mean mg mb g →
      wpAny (model PySem.Challenge.rw_ae6018_01.row.prog w) (AR (dp + 1) (un + 3) fr' gd) (eval body (envX qual scope L f (.ref c') cl)) Q noE { s with heap := h₁, toks := tk }) : Wr w H l f := by
  refine ⟨hfl, ⟨_, ho, .inl ⟨_, rfl⟩⟩, ?_⟩
  intro dp un fr gd s Q E vs n b t kp hls hz hroom hun ret
  have nm : ∀ a o, g₀.get? a = some o → a ∉ [l] := fun a o e q => by rw [List.mem_singleton.mp q, hl] at e; cases e
  have stS : g₀.StaysIn s.heap := fun a o e => kp _ _ (nm a o e) (st _ _ e)
  have st' : g₀.StaysIn (hideAll s.heap [l]) := fun a o e => hideAll_get _ (stS a o e) (nm a o e)
  have hcd' : s.heap.CodeRec (.ref c') qual := by
    obtain ⟨c₂, o, v2, t2, e, e1, e2, e3⟩ := hcd
    cases e
    exact ⟨_, o, v2, t2, rfl, kp _ _ (by simpa using hcl) e1, e2, e3⟩
  refine wpAny_call (kla_callFunE (by show dp < recursionLimit; omega) (kp _ _ (by simpa using hfl) ho) rfl hco hgen rfl hcd' ?_)
  rw [hbind]
  refine wpAny_pure (wpAny_newFunctionEnv hcell (fun y hy => by rw [List.mem_singleton.mp hy]; exact hloc) (fun h₁ hns hsb => ⟨((T.nolimit).keeps stS).fresh _ hsb, ?_⟩) hk)
  have hk₁ : ∀ a o, s.heap.get? a = some o → h₁.get? a = some o := fun a o e => hsb.extBut a o (Nat.ne_of_lt (Heap.lt_size e)) (Heap.get?_push_of_some _ e)
  refine kla_codeExpr (wpAny_mono (h dp un _ gd s Q vs n b t (hideAll s.heap [l]) s.heap.objs.size h₁ _ hz hroom hun ret
    ⟨fun a o n e => hideAll_get _ e n, fun a ha => hideAll_none _ ha, hk₁, fun a o e => Heap.lt_size e⟩ (fun a o na e => hideAll_get _ (kp _ _ (by simpa using na) e) (by simpa using na))
    ⟨hns, fun a o e => hk₁ a o (of_hideAll _ e), Nat.le_of_eq (hideAll_size _ _)⟩ ?_ (X.keeps st') (T.keeps st')) (fun _ _ z => z) fun _ _ z => z.elim)
  intro q hq
  rw [List.mem_singleton.mp hq]
  exact ⟨hk₁ _ _ hls, Nat.ne_of_lt (Heap.lt_size hls), hideAll_none _ (.head _)⟩
end
section
variable {w : World} {dp un : Nat} {fr : Option (List Env)} {gd : Option (List Code)} {s : Shared} {g : Heap} {L : Addr} {m : Str → Option Value} {mg mb : Str → Option Value} {p : Program} {loose : List Str} {mean : ExcName → Option Value}
  {Q E : Value → Shared → Prop} {l u : Addr} {news rest : List (Addr × Obj)}
theorem encV_use {vs : List Value} {ks : List Int} {n : Nat} {v : Int} {t : Tok} {dv : Value} (F : Fr g L s.heap m) (X : (Mine.hd.heap_39 w.params).In g) (T : Top p loose mean mg mb g) (N : News g L s.heap news)
    (W : Wr w s.heap l u) (hO : Oct vs ks) (ml : (l, PySem.W.listOf vs.toArray n) ∈ news) (S : Sep [l] news rest) (hz : vs.length < 90000) (h0 : 0 ≤ v) (h1 : v < 1180591620717411303424) (hroom : dp + 30 < recursionLimit) (hun : un + 200 < cLine)
    (ret : ∀ vs' n' h' tk', Oct vs' (ks ++ vi v.toNat) → vs'.length ≤ vs.length + 10 → Kp [l] s.heap h' → Fr g L h' m → News g L h' ((l, PySem.W.listOf vs'.toArray n') :: rest) → Q .none { s with heap := h', toks := tk' }) :
    wpAny (model PySem.Challenge.rw_ae6018_01.row.prog w) (AR dp un fr gd) (call (.ref 102) [.ref u, .int v t, dv]) Q E s :=
  encV_ok X T F.keep (N _ ml).2.2 hroom hun W (N _ ml).1 hO hz h0 h1 fun vs' n' h' tk' a b k e =>
    let ⟨F', N'⟩ := oneBack F N ml S k e
    ret vs' n' h' tk' a b k F' N'
end
local macro_rules | `(tactic| walk_at "eval Lambda") => `(tactic| refine Hold.out ?_)
local macro_rules | `(tactic| walk_at "call ref") => `(tactic| ((with_reducible show wpAny _ _ (call (Value.ref 102) [Value.ref _, Value.int _ _, _]) _ _ _); refine Hold.out ?_))
theorem among_pos (pos : Pos) (l : List Value) : codeAmong pos l = codeAmong ⟨pos.line, pos.col, 0, 0⟩ l := by
  fun_induction codeAmong pos l <;> simp_all [codeAmong]
def Among (k : Nat × Nat × PySem.Str) (ps : Array Value) : Option Value := codeAmong ⟨k.1, k.2.1, 0, 0⟩ ps.toList
theorem Among.pos {pos : Pos} {q : PySem.Str} {ps : Array Value} {r : Option Value} (h : Among (pos.line, pos.col, q) ps = r) : codeAmong pos ps.toList = r := (among_pos _ _).trans h
def Known (h : Heap) (ps : Array Value) (k : Nat × Nat × PySem.Str) : Prop := Among k ps = none ∨ ∃ c', Among k ps = some (.ref c') ∧ h.CodeRec (.ref c') k.2.2
/-- how a table of codes grows -/
inductive Grow (k : Nat × Nat × PySem.Str) (ps : Array Value) : Array Value → List (Addr × Obj) → Prop
  | same : Among k ps ≠ none → Grow k ps ps []
  | new {c' : Addr} {oc : Obj} {vs : Array Value} {t : Tok} : Among k ps = none → oc.data = .fields vs → vs[1]? = some (.str k.2.2 t) → Grow k ps (ps ++ #[rawInt (k.1 : Nat), rawInt (k.2.1 : Nat), .ref c']) [(c', oc)]
theorem Grow.three {k : Nat × Nat × PySem.Str} {ps ps' : Array Value} {CO : List (Addr × Obj)} (h : Grow k ps ps' CO) (h3 : TriplesOk ps.toList) : TriplesOk ps'.toList := by
  cases h with
  | same _ => exact h3
  | new _ _ _ => rw [Array.toList_append]; exact TriplesOk_snoc _ _ _ _ h3
theorem tripleInt {l : List Value} (h : TriplesOk l) {q : PySem.Str} {t : Tok} : l[1]? ≠ some (.str q t) := by
  fun_cases TriplesOk l <;> simp_all [TriplesOk]
theorem recOff {h : Heap} {P c' : Addr} {ps : Array Value} {q : PySem.Str} (hP : h.get? P = some (tabObj ps)) (h3 : TriplesOk ps.toList) (hc : h.CodeRec (.ref c') q) : c' ≠ P := by
  rintro rfl
  obtain ⟨c₂, o, vs, t, e, e1, e2, e3⟩ := hc
  cases e
  rw [hP] at e1; cases e1; cases e2
  exact tripleInt h3 (by simpa using e3)
theorem recUp {h g : Heap} {c' : Addr} {q : PySem.Str} (hc : h.CodeRec (.ref c') q) (k : ∀ o, h.get? c' = some o → g.get? c' = some o) : g.CodeRec (.ref c') q :=
  let ⟨c₂, o, vs, t, e, e1, e2, e3⟩ := hc
  ⟨c₂, o, vs, t, e, by cases e; exact k _ e1, e2, e3⟩
theorem withW {w : World} {H : Heap} {l u : Addr} {P : Prop} (W : Wr w H l u) (k : Wr w H l u → P) : P := k W
def keyV : Nat × Nat × PySem.Str := (101, 18, PySem.Str.ofString "_VarintBytes.<locals>.<lambda>")
section
variable {w : World} {dp un : Nat} {fr : Option (List Env)} {gd : Option (List Code)} {s : Shared} {g₀ : Heap} {mg mb : Str → Option Value} {p : Program} {loose : List Str} {mean : ExcName → Option Value}
  {Q E : Value → Shared → Prop}
set_option maxRecDepth 100000 in
set_option maxHeartbeats 4000000 in
theorem varb_ok {v : Int} {t : Tok} {ps : Array Value}
  (X : (Mine.hd.heap_39 w.params).In g₀) (T : Top p loose mean mg mb g₀) (st : g₀.StaysIn s.heap) (hg : g₀.get? 112 = none) (hroom : dp + 60 < recursionLimit) (hun : un + 400 < cLine)
  (C : CodeHd g₀ 116 112) (hT : s.heap.get? 112 = some (tabObj ps)) (h3 : TriplesOk ps.toList) (Kn : Known s.heap ps keyV) (h0 : 0 ≤ v) (h1 : v < 18446744073709551616)
  (ret : ∀ b t' h' tk' ps' CO, KBw.bInts b = vi v.toNat → Kp [112] s.heap h' → h'.get? 112 = some (tabObj ps') → Grow keyV ps ps' CO → (∀ p ∈ CO, h'.get? p.1 = some p.2 ∧ s.heap.get? p.1 = none) → Q (.bytes b t') { s with heap := h', toks := tk' }) :
  wpAny (model PySem.Challenge.rw_ae6018_01.row.prog w) (AR dp un fr gd) (call (.ref 117) [.int v t]) Q E s := by
  revert X
  k_fill
  intro X
  k_dflt (refine' callMC (binds := [(PySem.Str.ofString "value", .int v t)]) [112] X T st ?hn ?ho ?hcd ?hr ?hb ?hl ?hd ?h1 ?h2 ?h3 ?_)
  walk_at "M enterC"
  intro g L h₁ tk fr' cells En F' Nc Y' X' T' st'
  have N0 : News g L h₁ [(112, tabObj ps)] := En.news (by simp [hT])
  have l1 : @LT.lt Nat _ 112 L := En.lt _ _ hT
  have C' : CodeHd g 116 112 := C.keeps st'
  k_cells Y'
  rename_i oc hoc
  have N' := newsApp Nc N0
  clear Nc N0
  simp only [List.cons_append, List.nil_append] at N'
  show wpAny _ _ _ _ _ _
  (try dsimp only)
  k_fold
  k_steps
  refine Hold.mk ?_
  rename_i l' hx1 la hx2 o' F1 N1 d3
  k_dflt (refine' kla_eval ?d0 ?_)
  case d0 => rfl
  rcases Kn with hnone | ⟨c', hsome, hrec⟩
  · k_dflt (refine' kla_nest F1 N1 T' C' ?cd ?U h3 (Among.pos (q := keyV.2.2) hnone) ?cl ?_)
    case cd => rfl
    case U => k_updF
    case cl => rfl
    intro f c' oc' vs' t' ctv h' tk' F2 N2 d1 d2 l2 l3
    (try dsimp only at N2)
    k_lt l2
    have l3' : @LT.lt Nat _ c' f := l3
    k_steps
    refine Hold.mk ?_
    (rename News _ _ _ _ => N3)
    (rename Fr _ _ _ _ => F3)
    have hlg : g.get? l' = none := (N3 (l', _) (by k_mem)).2.2
    have hcell := (N3 (L + 1, _) (by k_mem)).1
    have hrecN := codeRec_news N3 (by k_mem) d1 d2
    have hcl' : c' ≠ l' := by k_ne
    k_dflt (refine' withW (w := w) (wrOf (x := PySem.Str.ofString "piece") X' T' F3.keep hlg (N3 _ (List.Mem.head _)).1 hrecN ?n1 hcl' ?bd ?lk ?dc ?e1 ?e2 ?e3 ?run) ?cont)
    case n1 => k_ne
    case bd => exact fun _ _ => rfl
    case lk => rfl
    case dc => decide
    case e1 => rfl
    case e2 => rfl
    case e3 => rfl
    case run =>
      intro dp2 un2 fr2 gd2 s2 Q2 vs2 n2 b2 t2 g2 L2 h2 tk2 hz2 hr2 hu2 ret2 En2 hg2 F4 N4 X4 T4
      have hgc := hg2 _ _ (by k_ne) hcell
      clear N3 F3 hcell
      (try clear N2)
      (try clear F2)
      (try clear N1)
      (try clear F1)
      k_steps
      (rename News _ _ _ _ => N5)
      (rename Fr _ _ _ _ => F5)
      exact ret2 _ _ (Ent.back En2 F5) (by have := (N5 (l', _) (by k_mem)).1; simpa using this)
    case cont =>
      intro W
      k_dflt (refine' encV_use (l := l') F3 X' T' N3 W Oct.nil ?ml ?S ?z h0 ?hb ?r ?u ?_)
      case ml => k_mem
      case S => walk_at "M sep"
      case z => decide
      case hb => omega
      case r => omega
      case u => omega
      intro vs2 n2 h2 tk2 O2 Z2 k2 F4 N4
      clear N3 F3 hcell
      (try clear N2)
      (try clear F2)
      (try clear N1)
      (try clear F1)
      k_steps
      refine Hold.mk ?_
      (rename News _ _ _ _ => N7)
      (rename Fr _ _ _ _ => F7)
      have hl9 := vi_len10 (n := v.toNat) (by omega)
      k_dflt (refine' join_ok ?c1 O2 ?c3 ?_)
      case c1 => exact (N7 (l', _) (by k_mem)).1
      case c3 => exact Nat.le_trans hl9 (by decide)
      intro bJ tJ kJ hJ
      exact ret _ _ _ _ _ [(c', oc')] hJ (En.back F7) (N7 (112, _) (by k_mem)).1 (Grow.new hnone d1 d2) fun q hq => by
        rw [List.mem_singleton.mp hq]
        exact ⟨(N7 (c', _) (by k_mem)).1, En.fresh (h' := s.heap) (off1 (by k_ne)) (N7 (c', oc') (by k_mem)).2.2⟩
  · k_dflt (refine' kla_hit F1 N1 T' C' ?cd ?mem h3 (Among.pos (q := keyV.2.2) hsome) ?cl ?_)
    case cd => rfl
    case mem => k_mem
    case cl => rfl
    intro f ctv h' tk' F2 N2 l2
    (try dsimp only at N2)
    k_lt l2
    k_steps
    refine Hold.mk ?_
    (rename News _ _ _ _ => N3)
    (rename Fr _ _ _ _ => F3)
    have hlg : g.get? l' = none := (N3 (l', _) (by k_mem)).2.2
    have hcell := (N3 (L + 1, _) (by k_mem)).1
    have hrecN := recUp hrec fun o e => F3.keep _ _ (En.vis _ _ (off1 (recOff hT h3 hrec)) e)
    have hcl' : c' ≠ l' := fun e => by rw [e] at hrec; obtain ⟨c₂, o, v2, t2, q0, q1, q2, q3⟩ := hrec; cases q0; rw [En.fresh (h' := s.heap) (off1 (by k_ne)) hlg] at q1; cases q1
    k_dflt (refine' withW (w := w) (wrOf (x := PySem.Str.ofString "piece") X' T' F3.keep hlg (N3 _ (List.Mem.head _)).1 hrecN ?n1 hcl' ?bd ?lk ?dc ?e1 ?e2 ?e3 ?run) ?cont)
    case n1 => k_ne
    case bd => exact fun _ _ => rfl
    case lk => rfl
    case dc => decide
    case e1 => rfl
    case e2 => rfl
    case e3 => rfl
    case run =>
      intro dp2 un2 fr2 gd2 s2 Q2 vs2 n2 b2 t2 g2 L2 h2 tk2 hz2 hr2 hu2 ret2 En2 hg2 F4 N4 X4 T4
      have hgc := hg2 _ _ (by k_ne) hcell
      clear N3 F3 hcell
      (try clear N2)
      (try clear F2)
      (try clear N1)
      (try clear F1)
      k_steps
      (rename News _ _ _ _ => N5)
      (rename Fr _ _ _ _ => F5)
      exact ret2 _ _ (Ent.back En2 F5) (by have := (N5 (l', _) (by k_mem)).1; simpa using this)
    case cont =>
      intro W
      k_dflt (refine' encV_use (l := l') F3 X' T' N3 W Oct.nil ?ml ?S ?z h0 ?hb ?r ?u ?_)
      case ml => k_mem
      case S => walk_at "M sep"
      case z => decide
      case hb => omega
      case r => omega
      case u => omega
      intro vs2 n2 h2 tk2 O2 Z2 k2 F4 N4
      clear N3 F3 hcell
      (try clear N2)
      (try clear F2)
      (try clear N1)
      (try clear F1)
      k_steps
      refine Hold.mk ?_
      (rename News _ _ _ _ => N7)
      (rename Fr _ _ _ _ => F7)
      have hl9 := vi_len10 (n := v.toNat) (by omega)
      k_dflt (refine' join_ok ?c1 O2 ?c3 ?_)
      case c1 => exact (N7 (l', _) (by k_mem)).1
      case c3 => exact Nat.le_trans hl9 (by decide)
      intro bJ tJ kJ hJ
      exact ret _ _ _ _ _ [] hJ (En.back F7) (N7 (112, _) (by k_mem)).1 (Grow.same (by rw [hsome]; exact fun e => nomatch e)) fun q hq => absurd hq List.not_mem_nil
end

theorem part21 : True := by
  w_top off
  trivial
theorem look_bb : typeLookup (.type "bytes") "__bytes__" = pure (some (.builtin "bytes.__bytes__")) := by rw [typeLookup_type, builtinLookup_eq_fast]; kernel_rfl
section
variable {prog : Program} {w : World} {A : Around} {E : Value → Shared → Prop} {s : Shared}
theorem bytesNew {b : Array UInt8} {t : Tok} {P : PySem.Fin → Shared → Prop} (h : P (.done (.ret (.bytes b t))) s) : wpAny (model prog w) A (Builtin.«bytes.__new__» ⟨[.type "bytes", .bytes b t], []⟩) P E s := by
  have hT := typeIs_bytes s b t
  unfold Builtin.«bytes.__new__»
  refine wpAny_bind (wpAny_of_eq (a := true) rfl ?_)
  refine KFB.if_not rfl ?_
  refine wpAny_bind (wpAny_of_eq F.bm_sub ?_)
  refine KFB.if_not rfl ?_
  refine wpAny_bind (wpAny_of_eq (F.bm_bind _) ?_)
  refine wpAny_bind (wpAny_of_eq (a := ()) rfl ?_)
  refine wpAny_bind (wpAny_of_eq (a := ()) rfl ?_)
  refine KFB.if_not rfl ?_
  refine wpAny_bind (wpAny_specialOf hT look_bb ?_)
  dsimp only
  refine wpAny_bind (wpAny_rule ?_)
  refine wpAny_bind (wpAny_of_eq (a := .type "bytes") rfl ?_)
  refine KFB.if_so (by decide) ?_
  exact wpAny_pure h
theorem bytesCode {b : Array UInt8} {t : Tok} {Q : Value → Shared → Prop} (h : Q (.bytes b t) s) : codeAny (model prog w) A (.call (.builtin "bytes.__new__") ⟨[.type "bytes", .bytes b t], []⟩) (wants Q E) s := by
  refine codeAny_of_tree ?_
  show wpAny _ A.in1 (do checkBuiltinCall "bytes.__new__" ⟨[.type "bytes", .bytes b t], []⟩; again (.builtin "bytes.__new__" ⟨[.type "bytes", .bytes b t], []⟩)) _ _ s
  refine wpAny_bind (wpAny_of_eq (F.bm_newCall _) (wpAny_pure ⟨plainId_quiet F.bm_plain _, codeAny_builtin F.bm_entry ?_⟩))
  rw [Around.under_plainId F.bm_plain _]
  exact bytesNew h
theorem bytes_of_bytes {b : Array UInt8} {t : Tok} {Q : Value → Shared → Prop} (h : Q (.bytes b t) s) : wpAny (model prog w) A (call (.type "bytes") [.bytes b t]) Q E s :=
  callType_codes (Q₁ := fun obj s₁ => s₁.TypeIs obj "bytes" ∧ Q obj s₁) F.bm_called (F.bm_typeCall _) F.entry_object_init (bytesCode ⟨typeIs_bytes _ _ _, h⟩) fun obj s₁ h₁ =>
    ⟨h₁.1, F.args_object_init_2 obj _, object_init_meets F.bm_called.init.lookup F.bm_called.made (by decide) prog w A.in1 _ s₁ ⟨h₁.1, rfl, h₁.2⟩⟩
end
local macro_rules | `(tactic| walk_at "call type:bytes") => `(tactic| ((with_reducible show wpAny _ _ (call (Value.type "bytes") [Value.bytes _ _]) _ _ _); refine bytes_of_bytes ?_))
theorem Known.up {h h' : Heap} {ps : Array Value} {k : Nat × Nat × PySem.Str} {P : Addr} (x : Known h ps k) (hP : h.get? P = some (tabObj ps)) (h3 : TriplesOk ps.toList) (u : ∀ a o, a ≠ P → h.get? a = some o → h'.get? a = some o) : Known h' ps k :=
  x.imp id fun ⟨c', e, r⟩ => ⟨c', e, recUp r fun o => u _ o (recOff hP h3 r)⟩
section
variable {w : World} {dp un : Nat} {fr : Option (List Env)} {gd : Option (List Code)} {s : Shared} {g : Heap} {L : Addr} {m : Str → Option Value} {mg mb : Str → Option Value} {p : Program} {loose : List Str} {mean : ExcName → Option Value}
  {Q E : Value → Shared → Prop} {P : Addr} {news rest : List (Addr × Obj)}
theorem growBack {h h' : Heap} {o o' : Obj} {CO : List (Addr × Obj)} (F : Fr g L h m) (N : News g L h news) (ml : (P, o) ∈ news) (S : Sep [P] news rest) (k : Kp [P] h h') (e : h'.get? P = some o')
    (hC : ∀ p ∈ CO, h'.get? p.1 = some p.2 ∧ h.get? p.1 = none) : Fr g L h' m ∧ News g L h' ((P, o') :: (rest ++ CO)) ∧ ∀ p ∈ CO, p.1 ≠ P ∧ Off p.1 news := by
  obtain ⟨F', N'⟩ := oneBack F N ml S k e
  have hne : ∀ {a o}, h.get? a = some o → ∀ p ∈ CO, p.1 ≠ a := fun e p hp c => by rw [← c, (hC p hp).2] at e; cases e
  refine ⟨F', fun p hp => ?_, fun p hp => ⟨hne (N _ ml).1 p hp, Off.of fun x hx => hne (N _ hx).1 p hp⟩⟩
  rcases List.mem_cons.mp hp with rfl | hp
  · exact N' _ (.head _)
  · rcases List.mem_append.mp hp with hp | hp
    · exact N' _ (.tail _ hp)
    · refine ⟨(hC p hp).1, ?_, ?_⟩
      · obtain ⟨o, _, _, e, _⟩ := F.ns
        exact hne e p hp
      · cases e : g.get? p.1 with
        | none => rfl
        | some o => exact absurd rfl (hne (F.keep _ _ e) p hp)
theorem packtag_use {n wt : Int} {t t2 : Tok} (F : Fr g L s.heap m) (X : (Mine.hd.heap_39 w.params).In g) (T : Top p loose mean mg mb g) (N : News g L s.heap news)
    (hroom : dp + 30 < recursionLimit) (hun : un + 200 < cLine) (h0 : 0 ≤ n) (h1 : n ≤ 536870911) (h2 : 0 ≤ wt) (h3 : wt ≤ 5)
    (ret : ∀ t' h' tk', Fr g L h' m → News g L h' news → Q (.int (8 * n + wt) t') { s with heap := h', toks := tk' }) :
    wpAny (model PySem.Challenge.rw_ae6018_01.row.prog w) (AR dp un fr gd) (call (.ref 73) [.int n t, .int wt t2]) Q E s :=
  packtag_ok X T F.keep hroom hun h0 h1 h2 h3 fun z t' h' tk' hz k => hz ▸ ret t' h' tk' (frKp0 F k) (newsKp0 N k)
end
local macro_rules | `(tactic| walk_at "call ref") => `(tactic| ((with_reducible show wpAny _ _ (call (Value.ref 73) [Value.int _ _, Value.int _ _]) _ _ _); k_dflt (refine' packtag_use ?F ?X ?T ?N ?r ?u ?a ?b ?c ?d ?_; (case F => k_asm); (case X => k_asm); (case T => k_asm); (case N => k_asm); (case r => omega); (case u => omega); (case a => with_reducible assumption); (case b => with_reducible assumption); (case c => with_reducible assumption); (case d => with_reducible assumption); k_whole); intro t' h' tk' F' N'))
local macro_rules | `(tactic| walk_at "call ref") => `(tactic| ((with_reducible show wpAny _ _ (call (Value.ref 117) [Value.int _ _]) _ _ _); refine Hold.out ?_))
section
variable {w : World} {dp un : Nat} {fr : Option (List Env)} {gd : Option (List Code)} {s : Shared} {g₀ : Heap} {mg mb : Str → Option Value} {p : Program} {loose : List Str} {mean : ExcName → Option Value}
  {Q E : Value → Shared → Prop}
set_option maxRecDepth 100000 in
set_option maxHeartbeats 4000000 in
theorem tag_ok {n wt : Int} {t t2 : Tok} {ps : Array Value}
  (X : (Mine.hd.heap_39 w.params).In g₀) (T : Top p loose mean mg mb g₀) (st : g₀.StaysIn s.heap) (hg : g₀.get? 112 = none) (hroom : dp + 70 < recursionLimit) (hun : un + 500 < cLine)
  (C : CodeHd g₀ 116 112) (hT : s.heap.get? 112 = some (tabObj ps)) (h3 : TriplesOk ps.toList) (Kn : Known s.heap ps keyV) (n0 : 0 ≤ n) (n1 : n ≤ 536870911) (w0 : 0 ≤ wt) (w1 : wt ≤ 5)
  (ret : ∀ b t' h' tk' ps' CO, KBw.bInts b = vi (8 * n + wt).toNat → Kp [112] s.heap h' → h'.get? 112 = some (tabObj ps') → Grow keyV ps ps' CO → (∀ p ∈ CO, h'.get? p.1 = some p.2 ∧ s.heap.get? p.1 = none) → Q (.bytes b t') { s with heap := h', toks := tk' }) :
  wpAny (model PySem.Challenge.rw_ae6018_01.row.prog w) (AR dp un fr gd) (call (.ref 124) [.int n t, .int wt t2]) Q E s := by
  revert X
  k_fill
  intro X
  k_dflt (refine' callM (binds := [(PySem.Str.ofString "field_number", .int n t), (PySem.Str.ofString "wire_type", .int wt t2)]) [112] X T st ?hn ?ho ?hcd ?hr ?hb ?hl ?hc ?h1 ?h2 ?h3 ?_)
  walk_at "M enter"
  intro g L h₁ tk fr' En F' X' T' st'
  have N' : News g L h₁ [(112, tabObj ps)] := En.news (by simp [hT])
  have C' : CodeHd g 116 112 := C.keeps st'
  have Kg : Known g ps keyV := Kn.up hT h3 fun a o na e => En.vis a o (off1 na) e
  show wpAny _ _ _ _ _ _
  (try dsimp only)
  k_fold
  k_steps
  refine Hold.mk ?_
  (rename News _ _ _ _ => N1)
  (rename Fr _ _ _ _ => F1)
  have hpos := (N1 _ (List.Mem.head _))
  k_dflt (refine' varb_ok X' T' F1.keep hpos.2.2 ?r ?u C' hpos.1 h3 ?kn ?h0 ?hb ?_)
  case r => omega
  case u => omega
  case kn => exact Kg.imp id fun ⟨c', e, r⟩ => ⟨c', e, recUp r fun o => F1.keep _ o⟩
  case h0 => omega
  case hb => omega
  intro b t' h' tk' ps' CO hbb k2 e2 G hCO
  obtain ⟨F2, N2, hoff⟩ := growBack F1 N1 (List.Mem.head _) (Sep.drop in1 Sep.nil) k2 e2 hCO
  clear N1 F1
  k_steps
  exact ret _ _ _ _ _ _ hbb (En.back F2) (N2 _ (List.Mem.head _)).1 G fun q hq =>
    ⟨(N2 q (List.Mem.tail _ hq)).1, En.fresh (h' := s.heap) (off1 (hoff q hq).1) (N2 q (List.Mem.tail _ hq)).2.2⟩
end

theorem part22 : True := by
  w_top off
  trivial
section
variable {M : Model} {A : Around} {E : Value → Shared → Prop} {s : Shared} {name qual : PySem.Str} {params : Arguments} {body : List Stmt} {scope : Scope} {env : Env} {c P : Addr} {ps : Array Value} {pos : Pos} {firstLine : Nat} {mg : PySem.Str → Option Value}
  {clos : List (PySem.Str × Addr)} {Q : Value → Shared → Prop}
/-- a def of a def, made for the first time: its code has a table of its own, empty -/
theorem mkMiss {dV : Value} (hcl : closureFor scope env = pure clos) (hge0 : env.globals = mainGlobals) (hg : s.heap.Ns mainGlobals mg) (hcode : env.code = .ref c) (C : CodeHd s.heap c P) (hP : s.heap.get? P = some (tabObj ps)) (ht : TriplesOk ps.toList)
    (hnf : codeAmong pos ps.toList = none) (hgP : mainGlobals ≠ P) (hb : s.heap.BuiltinsAt mg P)
    (h : ∀ c' P2 ctv doc h' tk, Heap.ExtBut P s.heap h' → s.heap.objs.size ≤ c' → c' < h'.objs.size → s.heap.objs.size ≤ P2 → h'.CodeRec (.ref c') qual → h'.get? P = some (tabObj (ps ++ #[rawInt pos.line, rawInt pos.col, .ref c'])) →
      CodeHd h' c' P2 → h'.get? P2 = some (tabObj #[]) →
      Q (.ref h'.objs.size) { s with heap := h'.push (kdv_obj name qual params (.stmts body) scope clos dV doc ((mg "__name__").getD .none) c' ctv), toks := tk }) :
    wpAny M A (makeTail name qual params (.stmts body) scope env dV .none none pos firstLine) Q E s := by
  obtain ⟨bm, ob, hbm, hne0, _, hneP, hbo, hcls, hdict, hdata⟩ := hb
  have after : ∀ (h1 : Heap) (tup : Value), (∀ b o, s.heap.get? b = some o → h1.get? b = some o) → s.heap.objs.size ≤ h1.objs.size → h1.Ns mainGlobals mg →
      wpAny M A (functionCode env pos firstLine name qual params scope (.stmts body) >>= fun code => builtinsFor mainGlobals env.builtins >>= fun bns => nsGet mainGlobals "__name__" >>= fun pm =>
        (match docOf body with | some t => mkText t | none => pure .none) >>= fun doc =>
        newObj (.type "function") (.func { name, qualname := qual, params, body := .stmts body, scope, globals := mainGlobals, closure := clos, closureTuple := tup, code, builtins := bns, defaults := dV, kwdefaults := .none, annotations := none, pyModule := pm.getD .none, doc }))
        Q E { s with heap := h1 } := fun h1 tup k hsz g1 => by
    refine wpAny_bind (wpAny_functionCodeX (s := { s with heap := h1 }) hcode ((C.keeps k).code (k _ _ hP) ht) ((C.keeps k).tab (k _ _ hP)) hnf fun c' h' tk hx hge hlt _ hrec htb h2 => ?_)
    obtain ⟨P2, hP2, i1, i2⟩ := h2
    have g2 := g1.extBut hx hgP
    have hx' : Heap.ExtBut P s.heap h' := fun b o nb e => hx b o nb (k b o e)
    refine wpAny_bind (wpAny_builtinsFor g2 hbm hne0 (hx' _ _ hneP hbo) hcls hdict hdata ?_)
    refine wpAny_bind (wpAny_nsGet g2 ?_)
    have last : ∀ doc tk2, Q (.ref h'.objs.size) { s with heap := h'.push (kdv_obj name qual params (.stmts body) scope clos dV doc ((mg "__name__").getD .none) c' tup), toks := tk2 } :=
      fun doc tk2 => h c' P2 tup doc h' tk2 hx' (Nat.le_trans hsz hge) hlt (Nat.le_trans hsz hP2) hrec htb.2 (CodeHd.of i1 i2) i2.2
    cases hdoc : docOf body with
    | none => exact wpAny_bind (wpAny_pure (wpAny_newObj_type (last _ _) (by size_fits)))
    | some t => exact wpAny_bind (wpAny_mkText (wpAny_newObj_type (last _ _) (by size_fits)))
  unfold makeTail
  rw [hcl, hge0]
  refine wpAny_bind (wpAny_pure ?_)
  by_cases hc : clos.isEmpty = true
  · rw [if_pos hc]
    exact wpAny_bind (wpAny_pure (after s.heap .none (fun _ _ e => e) (Nat.le_refl _) hg))
  · rw [if_neg hc]
    exact wpAny_bind (wpAny_newTextTuple (after _ _ (fun _ _ e => Heap.get?_push_of_some _ e) (by rw [Heap.size_push]; omega) (hg.push _)))
end
/-- what a table of codes has become -/
inductive Grown (h' : Heap) (k : Nat × Nat × PySem.Str) (ps : Array Value) : Array Value → Addr → List (Addr × Obj) → Prop
  | same {c' : Addr} : Among k ps = some (.ref c') → Grown h' k ps ps c' []
  | new {c' P2 : Addr} {oc : Obj} {vs : Array Value} {t : Tok} : Among k ps = none → oc.data = .fields vs → vs[1]? = some (.str k.2.2 t) → CodeHd h' c' P2 → Grown h' k ps (ps ++ #[rawInt (k.1 : Nat), rawInt (k.2.1 : Nat), .ref c']) c' [(c', oc), (P2, tabObj #[])]
section
variable {M : Model} {A : Around} {E : Value → Shared → Prop} {s : Shared} {g : Heap} {L a c P : Addr} {m mg mb : PySem.Str → Option Value} {cn : PySem.Str} {cs : Scope} {ccd : Value} {cl : List (PySem.Str × Addr)} {news : List (Addr × Obj)} {G : Obj → List (Addr × Obj)}
  {p : Program} {loose : List PySem.Str} {mean : ExcName → Option Value} {name qual : PySem.Str} {params : Arguments} {body : List Stmt} {scope : Scope} {ps : Array Value} {pos : Pos} {firstLine : Nat} {clos : List (PySem.Str × Addr)}
theorem makeK {dV : Value} {Q : Value → Shared → Prop} (F : Fr g L s.heap m) (N : News g L s.heap news) (T : Top p loose mean mg mb g) (C : CodeHd g c P) (hcd : ccd = .ref c) (U : UpdF P (tabObj ps) news G) (h3 : TriplesOk ps.toList)
    (Kn : Known g ps (pos.line, pos.col, qual)) (hcl : closureFor scope (envX cn cs L a ccd cl) = pure clos)
    (h : ∀ f c' ctv doc h' tk ps' CO, Fr g L h' m → News g L h' ((f, kdv_obj name qual params (.stmts body) scope clos dV doc ((mg "__name__").getD .none) c' ctv) :: (G (tabObj ps') ++ CO)) → Grown h' (pos.line, pos.col, qual) ps ps' c' CO →
      h'.CodeRec (.ref c') qual → (∀ q ∈ news, q.1 < f) → (∀ q ∈ CO, s.heap.get? q.1 = none ∧ q.1 < f) → Q (.ref f) { s with heap := h', toks := tk }) :
    wpAny M A (makeTail name qual params (.stmts body) scope (envX cn cs L a ccd cl) dV .none none pos firstLine) Q E s := by
  obtain ⟨own, rest, rfl, hgr, h1, h2⟩ := U.split
  have hm := N (P, tabObj ps) (List.mem_append_right _ (.head _))
  have hgs := T.g.keeps F.keep
  obtain ⟨bm, ob, b1, b2, b3, b4, b5, b6⟩ := T.bmain
  have hgP : mainGlobals ≠ P := fun q => by
    obtain ⟨o, es, ep, e, hd, _⟩ := hgs
    rw [q, hm.1] at e; cases e; cases hd
  have hbP : bm ≠ P := fun q => by
    have e := F.keep _ _ b3
    rw [q, hm.1] at e; cases e; cases b4
  have hbG : bm ≠ mainGlobals := fun q => by
    obtain ⟨o, es, ep, e, hd, _⟩ := T.g
    rw [q, e] at b3; cases b3; rw [hd] at b6; cases b6
  have fresh : ∀ b, L < b → g.get? b = none := fun b hb => Heap.get?_none_of_le (Nat.le_trans F.above (Nat.le_of_lt hb))
  have hLs : L < s.heap.objs.size := F.ns.lt
  have bb : s.heap.BuiltinsAt mg P := ⟨bm, ob, b1, b2, hbG, hbP, F.keep _ _ b3, b4, b5, b6⟩
  rcases Kn with hnone | ⟨c', hsome, hrec⟩
  · refine mkMiss (mg := mg) hcl rfl hgs hcd (C.keeps F.keep) hm.1 h3 (Among.pos hnone) hgP bb fun c' P2 ctv doc h' tk hx hge hlt hP2 hrec htb hC2 hT2 => ?_
    obtain ⟨c₂, oc, vs, t, e2, hoc, hd, hv⟩ := id hrec
    cases e2
    have up : ∀ {b o}, h'.get? b = some o → (h'.push (kdv_obj name qual params (.stmts body) scope clos dV doc ((mg "__name__").getD .none) c' ctv)).get? b = some o := fun e => Heap.get?_push_of_some _ e
    have old : ∀ b o, g.get? b = some o → h'.get? b = some o := fun b o e => hx b o (fun q => by rw [q, hm.2.2] at e; cases e) (F.keep b o e)
    have hf : s.heap.objs.size < h'.objs.size := Nat.lt_of_le_of_lt hge hlt
    have none_of : ∀ b, s.heap.objs.size ≤ b → s.heap.get? b = none := fun b hb => Heap.get?_none_of_le hb
    refine h h'.objs.size c' ctv doc _ tk (ps ++ #[rawInt pos.line, rawInt pos.col, .ref c']) [(c', oc), (P2, tabObj #[])] ⟨(F.ns.extBut hx hm.2.1.symm).push _, fun b o e => up (old b o e), F.above⟩ (fun q hq => ?_)
      (Grown.new (c' := c') (P2 := P2) hnone hd hv (hC2.keeps fun b o e => up e)) (recUp hrec fun o e => up e) (fun q hq => Nat.lt_trans (Heap.lt_size (N q hq).1) hf) (fun q hq => ?_)
    · rcases List.mem_cons.mp hq with rfl | hq
      · exact ⟨Heap.get?_push_size _ rfl, Nat.ne_of_gt (Nat.lt_trans hLs hf), fresh _ (Nat.lt_trans hLs hf)⟩
      · rcases List.mem_append.mp hq with hq | hq
        · rw [hgr] at hq
          rcases List.mem_append.mp hq with hq | hq
          · have n := N q (List.mem_append_left _ hq)
            exact ⟨up (hx _ _ (h1 q hq) n.1), n.2⟩
          · rcases List.mem_cons.mp hq with rfl | hq
            · exact ⟨up htb, hm.2⟩
            · have n := N q (List.mem_append_right _ (.tail _ hq))
              exact ⟨up (hx _ _ (h2 q hq) n.1), n.2⟩
        · rcases List.mem_cons.mp hq with rfl | hq
          · exact ⟨up hoc, Nat.ne_of_gt (Nat.lt_of_lt_of_le hLs hge), fresh _ (Nat.lt_of_lt_of_le hLs hge)⟩
          · rw [List.mem_singleton.mp hq]
            exact ⟨up hT2, Nat.ne_of_gt (Nat.lt_of_lt_of_le hLs hP2), fresh _ (Nat.lt_of_lt_of_le hLs hP2)⟩
    · rcases List.mem_cons.mp hq with rfl | hq
      · exact ⟨none_of _ hge, hlt⟩
      · rw [List.mem_singleton.mp hq]
        exact ⟨none_of _ hP2, Heap.lt_size hT2⟩
  · refine kdv_makeTailHit (mg := mg) hcl rfl hgs hcd (C.keeps F.keep) hm.1 h3 (Among.pos hsome) bb fun ctv doc h' tk hk hsz => ?_
    have up : ∀ {b o}, s.heap.get? b = some o → (h'.push (kdv_obj name qual params (.stmts body) scope clos dV doc ((mg "__name__").getD .none) c' ctv)).get? b = some o := fun e => Heap.get?_push_of_some _ (hk _ _ e)
    have hLf : L < h'.objs.size := Nat.lt_of_lt_of_le hLs hsz
    refine h h'.objs.size c' ctv doc _ tk ps [] ⟨(F.ns.keeps hk).push _, fun b o e => up (F.keep b o e), F.above⟩ (fun q hq => ?_) (Grown.same hsome) (recUp hrec fun o e => up (F.keep _ _ e)) (fun q hq => Nat.lt_of_lt_of_le (Heap.lt_size (N q hq).1) hsz) fun q hq => absurd hq List.not_mem_nil
    rcases List.mem_cons.mp hq with rfl | hq
    · exact ⟨Heap.get?_push_size _ rfl, Nat.ne_of_gt hLf, fresh _ hLf⟩
    · rw [List.append_nil, hgr] at hq
      exact ⟨up (N q hq).1, (N q hq).2⟩
end

theorem part23 : True := by
  w_top off
  trivial
/-- what may turn: a list, a frame, a table of codes -/
def Mut (o : Obj) : Prop := (∃ its n, o = PySem.W.listOf its n) ∨ (∃ es ep, o.data = .dict es ep) ∨ ∃ ps : Array Value, o = tabObj ps ∧ TriplesOk ps.toList
theorem Mut.noFunc {o : Obj} {fd : FuncData} (h : o.data = .func fd) : ¬ Mut o := by
  rintro (⟨its, n, rfl⟩ | ⟨es, ep, e⟩ | ⟨ps, rfl, _⟩)
  · cases h
  · rw [h] at e; cases e
  · cases h
theorem Mut.noCell {o : Obj} {v : Option Value} (h : o.data = .cell v) : ¬ Mut o := by
  rintro (⟨its, n, rfl⟩ | ⟨es, ep, e⟩ | ⟨ps, rfl, _⟩)
  · cases h
  · rw [h] at e; cases e
  · cases h
theorem Mut.noTup {o : Obj} (h : o.cls = .type "tuple") (hd : ∀ es ep, o.data ≠ .dict es ep) : ¬ Mut o := by
  rintro (⟨its, n, rfl⟩ | ⟨es, ep, e⟩ | ⟨ps, rfl, _⟩)
  · exact absurd h (show ¬ (Value.type "list" = Value.type "tuple") by decide)
  · exact hd _ _ e
  · exact absurd h (show ¬ (Value.none = Value.type "tuple") by decide)
theorem Mut.noCode {o : Obj} {vs : Array Value} {q : PySem.Str} {t : Tok} (h : o.data = .fields vs) (hv : vs[1]? = some (.str q t)) : ¬ Mut o := by
  rintro (⟨its, n, rfl⟩ | ⟨es, ep, e⟩ | ⟨ps, rfl, h3⟩)
  · cases h
  · rw [h] at e; cases e
  · cases h; exact tripleInt h3 (by simpa using hv)
/-- a value of the law, or a list of such -/
def Val (h : Heap) (md : Int) (xs : List Vl) (x : Value) : Prop :=
  (md = 0 ∧ ∃ v t, xs = [v] ∧ x = Vl.at v t) ∨ (md ≠ 0 ∧ ∃ lv vs n, x = .ref lv ∧ h.get? lv = some (PySem.W.listOf vs.toArray n) ∧ VsAt vs xs)
/-- an encoder of a field: what a call of it does, over whatever holds H -/
def EncF (w : World) (H : Heap) (f : Addr) (md : Int) (out : List Vl → List Int) (ok : Vl → Prop) : Prop :=
  ∀ {dp un : Nat} {fr : Option (List Env)} {gd : Option (List Code)} {s : Shared} {Q E : Value → Shared → Prop} {l u : Addr} {vs : List Value} {ks : List Int} {n : Nat} {xs : List Vl} {x dv : Value},
    H.StaysIn s.heap → H.get? l = none → Wr w s.heap l u → s.heap.get? l = some (PySem.W.listOf vs.toArray n) → Oct vs ks → vs.length < 70000 → Val s.heap md xs x → x ≠ .ref l → (∀ y ∈ xs, ok y) → xs.length ≤ 4 →
    dp + 60 < recursionLimit → un + 400 < cLine →
    (∀ v vs' n' h' tk', Oct vs' (ks ++ out xs) → vs'.length ≤ vs.length + 1000 → Kp [l] s.heap h' → h'.get? l = some (PySem.W.listOf vs'.toArray n') → Q v { s with heap := h', toks := tk' }) →
    wpAny (model PySem.Challenge.rw_ae6018_01.row.prog w) (AR dp un fr gd) (call (.ref f) [.ref u, x, dv]) Q E s
/-- the same of what has just been made -/
def Made (w : World) (g₀ h' : Heap) (f : Addr) (md : Int) (out : List Vl → List Int) (ok : Vl → Prop) : Prop :=
  ∀ ex : List Addr, (∀ a ∈ ex, g₀.get? a = none ∧ ∃ o, h'.get? a = some o ∧ Mut o) → EncF w (hideAll h' ex) f md out ok
theorem cellsFrom_none : ∀ {names : List (PySem.Str × NameKind)} {n : Nat} {acc : List (PySem.Str × Addr)}, (∀ x ∈ names, x.2 ≠ .cell) → cellsFrom n names acc = acc
  | [], _, _, _ => rfl
  | (x, k) :: r, n, acc, h => by
    have hk : (k == NameKind.cell) = false := by simpa using h (x, k) (.head _)
    unfold cellsFrom
    rw [hk]
    exact cellsFrom_none fun y hy => h y (.tail _ hy)
section
variable {w : World} {K : Frag} {g₀ : Heap} {mg mb : PySem.Str → Option Value} {p : Program} {loose : List PySem.Str} {mean : ExcName → Option Value}
  {name qual n1 n2 n3 : PySem.Str} {params : Arguments} {body : List Stmt} {scope : Scope} {dV doc pm ctv : Value} {f c' : Addr} {cl : List (PySem.Str × Addr)} {md : Int} {out : List Vl → List Int} {ok : Vl → Prop}
theorem madeOf {h' : Heap} (X : K.In g₀) (T : Top p loose mean mg mb g₀) (st : g₀.StaysIn h')
    (ho : h'.get? f = some (kdv_obj name qual params (.stmts body) scope cl dV doc pm c' ctv)) (hcd : h'.CodeRec (.ref c') qual) (needs : List (Addr × Obj)) (hneeds : ∀ q ∈ needs, h'.get? q.1 = some q.2 ∧ ¬ Mut q.2)
    (hbind : ∀ (s : Shared) (u : Addr) (x dv : Value), (∀ q ∈ needs, s.heap.get? q.1 = some q.2) → BindsTo s (kdv_fn name qual params (.stmts body) scope cl dV doc pm (.ref c') ctv) ⟨[.ref u, x, dv], []⟩ [(n1, .ref u), (n2, x), (n3, dv)])
    (l1 : scope.names.lookup n1 = some .local) (l2 : scope.names.lookup n2 = some .local) (l3 : scope.names.lookup n3 = some .local) (hcell : ∀ y ∈ scope.names, y.2 ≠ .cell)
    (hco : scope.isCoroutine = false) (hgen : scope.isGenerator = false) (hk : scope.kind = .function)
    (run : ∀ (dp un : Nat) (fr' : Option (List Env)) (gd : Option (List Code)) (s : Shared) (Q : Value → Shared → Prop) (l u : Addr) (vs : List Value) (ks : List Int) (n : Nat) (xs : List Vl) (x dv : Value) g L h₁ tk,
      Wr w s.heap l u → Oct vs ks → vs.length < 70000 → Val g md xs x → (∀ y ∈ xs, ok y) → xs.length ≤ 4 → dp + 60 < recursionLimit → un + 400 < cLine →
      (∀ v vs' n' h' tk', Oct vs' (ks ++ out xs) → vs'.length ≤ vs.length + 1000 → Kp [l] s.heap h' → h'.get? l = some (PySem.W.listOf vs'.toArray n') → Q v { s with heap := h', toks := tk' }) →
      Ent [l] s.heap g L h₁ → (∀ q ∈ needs, g.get? q.1 = some q.2) → Fr g L h₁ (fun y => [(n1, Value.ref u), (n2, x), (n3, dv)].reverse.lookup y) → News g L h₁ [(l, PySem.W.listOf vs.toArray n)] → K.In g → Top p loose mean mg mb g →
      wpAny (model PySem.Challenge.rw_ae6018_01.row.prog w) (AR (dp + 1) (un + 3) fr' gd) (execs body (envX qual scope L f (.ref c') cl)) (fun fl s' => Q (match fl with | .ret v => v | _ => .none) s') noE { s with heap := h₁, toks := tk }) :
    Made w g₀ h' f md out ok := by
  intro ex hex dp un fr gd s Q E l u vs ks n xs x dv hst hl W hls hO hz hV hxl hok h4 hroom hun ret
  have off : ∀ {a o}, h'.get? a = some o → ¬ Mut o → (hideAll h' ex).get? a = some o := fun {a o} e nm => hideAll_get _ e fun hm => by
    obtain ⟨_, o2, e2, m2⟩ := hex a hm
    rw [e] at e2; cases e2; exact nm m2
  have st0 : g₀.StaysIn (hideAll h' ex) := fun a o e => hideAll_get _ (st a o e) fun hm => by rw [(hex a hm).1] at e; cases e
  have hg₀l : g₀.get? l = none := by
    cases q : g₀.get? l with
    | none => rfl
    | some o => rw [st0 l o q] at hl; cases hl
  have hcd' : s.heap.CodeRec (.ref c') qual := by
    obtain ⟨c₂, oc, v2, t2, e, e1, e2, e3⟩ := hcd
    cases e
    exact ⟨_, oc, v2, t2, rfl, hst _ _ (off e1 (Mut.noCode e2 e3)), e2, e3⟩
  have hn : ∀ q ∈ needs, s.heap.get? q.1 = some q.2 ∧ q.1 ≠ l := fun q hq => by
    have e := off (hneeds q hq).1 (hneeds q hq).2
    exact ⟨hst _ _ e, fun c => by rw [c, hl] at e; cases e⟩
  refine callMX (fr := fr) (gd := gd) [l] X T (fun a o e => hst _ _ (st0 a o e)) (fun a ha => by rw [List.mem_singleton.mp ha]; exact hg₀l) (hst _ _ (off ho (Mut.noFunc rfl))) hcd' (by omega) (hbind s u x dv fun q hq => (hn q hq).1)
    (fun y hy => by
      rcases List.mem_cons.mp hy with rfl | hy
      · exact l1
      · rcases List.mem_cons.mp hy with rfl | hy
        · exact l2
        · rw [List.mem_singleton.mp hy]; exact l3) hco hgen hk fun g L h₁ tk fr' cells En F N Y X' T' st' => ?_
  rw [cellsFrom_none hcell]
  refine run dp un fr' gd s Q l u vs ks n xs x dv g L h₁ tk W hO hz ?_ hok h4 hroom hun ret En (fun q hq => En.vis _ _ (off1 (hn q hq).2) (hn q hq).1) F (En.news fun q hq => by rw [List.mem_singleton.mp hq]; exact ⟨.head _, hls⟩) X' T'
  rcases hV with ⟨m0, v, t, e1, e2⟩ | ⟨m0, lv, ys, k, e1, e2, e3⟩
  · exact .inl ⟨m0, v, t, e1, e2⟩
  · exact .inr ⟨m0, lv, ys, k, e1, En.vis _ _ (off1 fun c => hxl (by rw [e1, c])) e2, e3⟩
end

theorem part24 : True := by
  w_top off
  trivial
/-- the defs of defs: line, column, name -/
def kSi : Nat × Nat × PySem.Str := (107, 4, PySem.Str.ofString "_SimpleEncoder.<locals>.SpecificEncoder")
def kSi0 : Nat × Nat × PySem.Str := (132, 12, PySem.Str.ofString "_SimpleEncoder.<locals>.SpecificEncoder.<locals>.EncodeField")
def kSi1 : Nat × Nat × PySem.Str := (124, 12, PySem.Str.ofString "_SimpleEncoder.<locals>.SpecificEncoder.<locals>.EncodeRepeatedField")
def kSi2 : Nat × Nat × PySem.Str := (112, 12, PySem.Str.ofString "_SimpleEncoder.<locals>.SpecificEncoder.<locals>.EncodePackedField")
def kMo : Nat × Nat × PySem.Str := (139, 4, PySem.Str.ofString "_ModifiedEncoder.<locals>.SpecificEncoder")
def kMo0 : Nat × Nat × PySem.Str := (164, 12, PySem.Str.ofString "_ModifiedEncoder.<locals>.SpecificEncoder.<locals>.EncodeField")
def kMo1 : Nat × Nat × PySem.Str := (156, 12, PySem.Str.ofString "_ModifiedEncoder.<locals>.SpecificEncoder.<locals>.EncodeRepeatedField")
def kMo2 : Nat × Nat × PySem.Str := (144, 12, PySem.Str.ofString "_ModifiedEncoder.<locals>.SpecificEncoder.<locals>.EncodePackedField")
def kSp : Nat × Nat × PySem.Str := (172, 4, PySem.Str.ofString "_StructPackEncoder.<locals>.SpecificEncoder")
def kSp0 : Nat × Nat × PySem.Str := (195, 12, PySem.Str.ofString "_StructPackEncoder.<locals>.SpecificEncoder.<locals>.EncodeField")
def kSp1 : Nat × Nat × PySem.Str := (187, 12, PySem.Str.ofString "_StructPackEncoder.<locals>.SpecificEncoder.<locals>.EncodeRepeatedField")
def kSp2 : Nat × Nat × PySem.Str := (178, 12, PySem.Str.ofString "_StructPackEncoder.<locals>.SpecificEncoder.<locals>.EncodePackedField")
def kBo0 : Nat × Nat × PySem.Str := (252, 8, PySem.Str.ofString "BoolEncoder.<locals>.EncodeField")
def kBo1 : Nat × Nat × PySem.Str := (241, 8, PySem.Str.ofString "BoolEncoder.<locals>.EncodeRepeatedField")
def kBo2 : Nat × Nat × PySem.Str := (229, 8, PySem.Str.ofString "BoolEncoder.<locals>.EncodePackedField")
def kSt0 : Nat × Nat × PySem.Str := (273, 8, PySem.Str.ofString "StringEncoder.<locals>.EncodeField")
def kSt1 : Nat × Nat × PySem.Str := (264, 8, PySem.Str.ofString "StringEncoder.<locals>.EncodeRepeatedField")
def kBy0 : Nat × Nat × PySem.Str := (293, 8, PySem.Str.ofString "BytesEncoder.<locals>.EncodeField")
def kBy1 : Nat × Nat × PySem.Str := (285, 8, PySem.Str.ofString "BytesEncoder.<locals>.EncodeRepeatedField")
/-- they stand on lines of their own -/
inductive IsKey : Nat × Nat × PySem.Str → Prop
  | v : IsKey keyV
  | si : IsKey kSi | si0 : IsKey kSi0 | si1 : IsKey kSi1 | si2 : IsKey kSi2
  | mo : IsKey kMo | mo0 : IsKey kMo0 | mo1 : IsKey kMo1 | mo2 : IsKey kMo2
  | sp : IsKey kSp | sp0 : IsKey kSp0 | sp1 : IsKey kSp1 | sp2 : IsKey kSp2
  | bo0 : IsKey kBo0 | bo1 : IsKey kBo1 | bo2 : IsKey kBo2
  | st0 : IsKey kSt0 | st1 : IsKey kSt1 | by0 : IsKey kBy0 | by1 : IsKey kBy1
def nameAt (n : Nat) : PySem.Str :=
  match n with
  | 101 => keyV.2.2 | 107 => kSi.2.2 | 132 => kSi0.2.2 | 124 => kSi1.2.2 | 112 => kSi2.2.2 | 139 => kMo.2.2 | 164 => kMo0.2.2 | 156 => kMo1.2.2 | 144 => kMo2.2.2
  | 172 => kSp.2.2 | 195 => kSp0.2.2 | 187 => kSp1.2.2 | 178 => kSp2.2.2 | 252 => kBo0.2.2 | 241 => kBo1.2.2 | 229 => kBo2.2.2 | 273 => kSt0.2.2 | 264 => kSt1.2.2 | 293 => kBy0.2.2 | 285 => kBy1.2.2
  | _ => keyV.2.2
theorem IsKey.name {k : Nat × Nat × PySem.Str} (h : IsKey k) : k.2.2 = nameAt k.1 := by cases h <;> rfl
theorem IsKey.same {a b : Nat × Nat × PySem.Str} (h : IsKey a) (h' : IsKey b) (e : a.1 = b.1) (e2 : a.2.1 = b.2.1) : a = b := by
  obtain ⟨a1, a2, a3⟩ := a
  obtain ⟨b1, b2, b3⟩ := b
  have n1 := h.name
  have n2 := h'.name
  dsimp only at *
  rw [n1, n2, e, e2]
theorem among_far {pos : Pos} {a b : Int} {c : Value} (l : List Value) (h : TriplesOk l) (hn : ¬ (a = pos.line ∧ b = pos.col)) : codeAmong pos (l ++ [rawInt a, rawInt b, c]) = codeAmong pos l := by
  fun_induction TriplesOk l with
  | case1 =>
    simp only [List.nil_append, codeAmong, rawInt]
    rw [if_neg (by simpa using hn)]
  | case2 a' t b' u x rest ih =>
    simp only [List.cons_append, codeAmong]
    rw [ih h]
  | case3 l h1 h2 => exact h.elim
theorem Among.new {k : Nat × Nat × PySem.Str} {ps : Array Value} {c : Value} (h : TriplesOk ps.toList) (hn : Among k ps = none) : Among k (ps ++ #[rawInt (k.1 : Nat), rawInt (k.2.1 : Nat), c]) = some c := by
  unfold Among
  rw [Array.toList_append]
  exact codeAmong_snoc (pos := ⟨k.1, k.2.1, 0, 0⟩) _ h hn
theorem Among.far {k k2 : Nat × Nat × PySem.Str} {ps : Array Value} {c : Value} (h : TriplesOk ps.toList) (hn : ¬ (k2.1 = k.1 ∧ k2.2.1 = k.2.1)) : Among k2 (ps ++ #[rawInt (k.1 : Nat), rawInt (k.2.1 : Nat), c]) = Among k2 ps := by
  unfold Among
  rw [Array.toList_append]
  exact among_far _ h fun e => hn (by simp only [Int.natCast_inj] at e; omega)
/-- what a table of codes says of a key -/
def Known1 (h : Heap) (Ts : List Addr) (ps : Array Value) (k : Nat × Nat × PySem.Str) : Prop :=
  Among k ps = none ∨ ∃ c', Among k ps = some (.ref c') ∧ h.CodeRec (.ref c') k.2.2 ∧ (k.2.1 = 4 → ∃ P2 ∈ Ts, @Ne Nat P2 112 ∧ CodeHd h c' P2)
/-- the tables of codes -/
def TabsIn (Ts : List Addr) (h : Heap) : Prop :=
  ∀ P ∈ Ts, ∃ ps : Array Value, h.get? P = some (tabObj ps) ∧ TriplesOk ps.toList ∧ ∀ k, IsKey k → Known1 h Ts ps k
theorem Known1.known {h : Heap} {Ts : List Addr} {ps : Array Value} {k : Nat × Nat × PySem.Str} (x : Known1 h Ts ps k) : Known h ps k := x.imp id fun ⟨c', e, r, _⟩ => ⟨c', e, r⟩
theorem TabsIn.at {Ts : List Addr} {h : Heap} (x : TabsIn Ts h) {P : Addr} (hP : P ∈ Ts) : ∃ ps : Array Value, h.get? P = some (tabObj ps) ∧ TriplesOk ps.toList ∧ ∀ k, IsKey k → Known h ps k :=
  let ⟨ps, e, t, k⟩ := x P hP; ⟨ps, e, t, fun q hq => (k q hq).known⟩
theorem headUp {h g : Heap} {c' P2 : Addr} (hc : CodeHd h c' P2) (k : ∀ o, h.get? c' = some o → g.get? c' = some o) : CodeHd g c' P2 :=
  let ⟨o, vs, file, tf, flags, tg, inF, text, tt, e, r⟩ := hc; ⟨o, vs, file, tf, flags, tg, inF, text, tt, k _ e, r⟩
theorem Known1.up {h h' : Heap} {Ts Ts' : List Addr} {ps : Array Value} {k : Nat × Nat × PySem.Str} (x : Known1 h Ts ps k) (sub : ∀ a ∈ Ts, a ∈ Ts') (u : ∀ a o q, h.CodeRec (.ref a) q → h.get? a = some o → h'.get? a = some o) : Known1 h' Ts' ps k :=
  x.imp id fun ⟨c', e, r, d⟩ => ⟨c', e, recUp r fun o => u _ o _ r, fun h4 => let ⟨P2, a, b, c⟩ := d h4; ⟨P2, sub _ a, b, headUp c fun o => u _ o _ r⟩⟩
/-- a table that has grown by one code, or not at all -/
def GrS (h' : Heap) (Ts' : List Addr) (ps ps' : Array Value) : Prop :=
  ps' = ps ∨ ∃ k, IsKey k ∧ ∃ c', Among k ps = none ∧ ps' = ps ++ #[rawInt (k.1 : Nat), rawInt (k.2.1 : Nat), .ref c'] ∧ h'.CodeRec (.ref c') k.2.2 ∧ (k.2.1 = 4 → ∃ P2 ∈ Ts', @Ne Nat P2 112 ∧ CodeHd h' c' P2)
theorem TabsIn.off {Ts : List Addr} {h : Heap} (x : TabsIn Ts h) {c' : Addr} {q : PySem.Str} (r : h.CodeRec (.ref c') q) : c' ∉ Ts := fun hm => by
  obtain ⟨ps, e, t, _⟩ := x _ hm
  exact recOff e t r rfl
theorem TabsIn.step {Ts Ts' : List Addr} {h h' : Heap} (x : TabsIn Ts h) (sub : ∀ a ∈ Ts, a ∈ Ts') (kp : Kp Ts h h')
    (old : ∀ P ∈ Ts, ∀ ps : Array Value, h.get? P = some (tabObj ps) → ∃ ps' : Array Value, h'.get? P = some (tabObj ps') ∧ GrS h' Ts' ps ps')
    (new : ∀ P ∈ Ts', P ∈ Ts ∨ h'.get? P = some (tabObj #[])) : TabsIn Ts' h' := by
  intro P hP
  by_cases hO : P ∈ Ts
  · obtain ⟨ps, e, t, kn⟩ := x P hO
    obtain ⟨ps', e', g⟩ := old P hO ps e
    have up : ∀ k, IsKey k → Known1 h' Ts' ps k := fun k hk => (kn k hk).up sub fun a o q r ea => kp a o (x.off r) ea
    rcases g with rfl | ⟨k, hk, c', hn, rfl, r, d⟩
    · exact ⟨ps', e', t, up⟩
    · refine ⟨_, e', by rw [Array.toList_append]; exact TriplesOk_snoc _ _ _ _ t, fun k2 hk2 => ?_⟩
      by_cases hs : k2.1 = k.1 ∧ k2.2.1 = k.2.1
      · obtain rfl := hk2.same hk hs.1 hs.2
        exact .inr ⟨c', Among.new t hn, r, d⟩
      · have e2 := Among.far (c := .ref c') t hs
        exact (up k2 hk2).imp (fun z => e2.trans z) fun ⟨c2, z, r2⟩ => ⟨c2, e2.trans z, r2⟩
  · rcases new P hP with h1 | h1
    · exact absurd h1 hO
    · exact ⟨#[], h1, True.intro, fun k _ => .inl rfl⟩
theorem TabsIn.up {Ts : List Addr} {h h' : Heap} (x : TabsIn Ts h) (u : ∀ b o, h.get? b = some o → h'.get? b = some o) : TabsIn Ts h' := fun P hP =>
  let ⟨ps, e, t, kn⟩ := x P hP; ⟨ps, u _ _ e, t, fun k hk => (kn k hk).up (fun _ z => z) fun a o _ _ ea => u a o ea⟩
theorem TabsIn.kp {Ts as : List Addr} {h h' : Heap} (x : TabsIn Ts h) (k : Kp as h h') (na : ∀ a ∈ as, ∀ o, h.get? a = some o → ∀ vs, o.data ≠ .fields vs) : TabsIn Ts h' := fun P hP =>
  let ⟨ps, e, t, kn⟩ := x P hP
  ⟨ps, k _ _ (fun q => na _ q _ e _ rfl) e, t, fun y hy => (kn y hy).up (fun _ z => z) fun a o q r ea => k a o (fun z => by
    obtain ⟨c₂, o2, vs, t2, e0, e1, e2, _⟩ := r
    cases e0
    exact na _ z _ e1 _ e2) ea⟩
def baseT : List Addr := [112, 126, 133, 140, 224, 231, 238]
structure Codes (g : Heap) : Prop where
  v : CodeHd g 116 112
  si : CodeHd g 130 126
  mo : CodeHd g 137 133
  sp : CodeHd g 144 140
  bo : CodeHd g 228 224
  st : CodeHd g 235 231
  by' : CodeHd g 242 238
theorem Codes.keeps {g g' : Heap} (x : Codes g) (k : g.StaysIn g') : Codes g' := ⟨x.v.keeps k, x.si.keeps k, x.mo.keeps k, x.sp.keeps k, x.bo.keeps k, x.st.keeps k, x.by'.keeps k⟩
/-- how the tables stand behind a call, and what else is kept -/
structure Turn (Ts : List Addr) (h h' : Heap) (Ts' : List Addr) : Prop where
  tabs : TabsIn Ts' h'
  sub : ∀ a ∈ Ts, a ∈ Ts'
  new : ∀ a ∈ Ts', a ∈ Ts ∨ h.get? a = none
  kp : Kp Ts h h'
theorem Turn.trans {Ts Ts' Ts2 : List Addr} {h h' h2 : Heap} (x : Turn Ts h h' Ts') (y : Turn Ts' h' h2 Ts2) : Turn Ts h h2 Ts2 where
  tabs := y.tabs
  sub := fun a ha => y.sub a (x.sub a ha)
  new := fun a ha => (y.new a ha).elim (x.new a) fun e => by
    cases q : h.get? a with
    | none => exact .inr rfl
    | some o =>
      by_cases hm : a ∈ Ts
      · exact .inl hm
      · rw [x.kp a o hm q] at e; cases e
  kp := fun b o hb e => by
    have e' := x.kp b o hb e
    refine y.kp b o (fun hm => ?_) e'
    rcases x.new b hm with h1 | h1
    · exact hb h1
    · rw [h1] at e; cases e
/-- a step of a heap that lays new things alone, ahead of a turn -/
theorem Turn.from {Ts Ts' : List Addr} {h h₁ h' : Heap} (x : Turn Ts h₁ h' Ts') (u : ∀ b o, h.get? b = some o → h₁.get? b = some o) : Turn Ts h h' Ts' where
  tabs := x.tabs
  sub := x.sub
  new := fun a ha => (x.new a ha).imp id fun e => by
    cases q : h.get? a with
    | none => rfl
    | some o => rw [u a o q] at e; cases e
  kp := fun b o hb e => x.kp b o hb (u b o e)
/-- what the octets of a field are -/
def outOf (kd wi n md : Int) (xs : List Vl) : List Int := if md = 2 then (vi (8 * n + 2).toNat ++ vi (xs.flatMap (bare kd)).length) ++ xs.flatMap (bare kd) else xs.flatMap (tagged kd wi n)
theorem out2 {kd wi n : Int} {xs : List Vl} : outOf kd wi n 2 xs = (vi (8 * n + 2).toNat ++ vi (xs.flatMap (bare kd)).length) ++ xs.flatMap (bare kd) := rfl
theorem outN {kd wi n md : Int} {xs : List Vl} (h : md ≠ 2) : outOf kd wi n md xs = xs.flatMap (tagged kd wi n) := if_neg h
/-- the three ways of a field -/
def Mode (md : Int) (rep pk : Bool) : Prop := (rep = false ∧ pk = false ∧ md = 0) ∨ (rep = true ∧ pk = false ∧ md = 1) ∨ (rep = true ∧ pk = true ∧ md = 2)
theorem flatDone {Ts : List Addr} {h g h₁ h' h₂ : Heap} {L P c' : Addr} {m : PySem.Str → Option Value} {news CO1 CO2 : List (Addr × Obj)} {ps ps' pt pt' : Array Value} {k : Nat × Nat × PySem.Str}
    (TI : TabsIn Ts h) (i1 : 112 ∈ Ts) (i2 : P ∈ Ts) (ne : @Ne Nat P 112) (hT : h.get? 112 = some (tabObj ps)) (hT2 : h.get? P = some (tabObj pt)) (En : Ent [112, P] h g L h₁) (F : Fr g L h' m) (N : News g L h' news)
    (m1 : (112, tabObj ps') ∈ news) (m2 : (P, tabObj pt') ∈ news) (G1 : Grow keyV ps ps' CO1) (G2 : Grown h₂ k pt pt' c' CO2) (s1 : ∀ q ∈ CO1, q ∈ news) (s2 : ∀ q ∈ CO2, q ∈ news) (hk : IsKey k) (h4 : k.2.1 ≠ 4) : Turn Ts h h' Ts := by
  have k0 := En.back F
  have kT : Kp Ts h h' := k0.mono fun a ha => by
    rcases List.mem_cons.mp ha with rfl | ha
    · exact i1
    · rw [List.mem_singleton.mp ha]; exact i2
  refine ⟨TI.step (fun _ z => z) kT (fun Q hQ qs e => ?_) fun _ z => .inl z, fun _ z => z, fun _ z => .inl z, kT⟩
  by_cases q1 : @Eq Nat Q 112
  · subst q1
    rw [hT] at e; cases e
    refine ⟨ps', (N _ m1).1, ?_⟩
    cases G1 with
    | same _ => exact .inl rfl
    | new hn hd hv => exact .inr ⟨keyV, .v, _, hn, rfl, ⟨_, _, _, _, rfl, (N _ (s1 _ (.head _))).1, hd, hv⟩, fun z => absurd z (by decide)⟩
  · by_cases q2 : Q = P
    · subst q2
      rw [hT2] at e; cases e
      refine ⟨pt', (N _ m2).1, ?_⟩
      cases G2 with
      | same _ => exact .inl rfl
      | new hn hd hv _ => exact .inr ⟨k, hk, _, hn, rfl, ⟨_, _, _, _, rfl, (N _ (s2 _ (.head _))).1, hd, hv⟩, fun z => absurd z h4⟩
    · exact ⟨qs, k0 _ _ (off2 q1 q2) e, .inl rfl⟩
/-- the same for a def whose code's own table is looked into -/
theorem deepDone {Ts : List Addr} {h g h₁ h' h₂ : Heap} {L P c' : Addr} {m : PySem.Str → Option Value} {news CO2 : List (Addr × Obj)} {pt pt' : Array Value} {k : Nat × Nat × PySem.Str}
    (TI : TabsIn Ts h) (i1 : 112 ∈ Ts) (i2 : P ∈ Ts) (hT2 : h.get? P = some (tabObj pt)) (En : Ent [P] h g L h₁) (F : Fr g L h' m) (N : News g L h' news)
    (m2 : (P, tabObj pt') ∈ news) (G2 : Grown h₂ k pt pt' c' CO2) (s2 : ∀ q ∈ CO2, q ∈ news) (o2 : ∀ q ∈ CO2, q.1 ≠ P) (hh : ∀ q ∈ CO2, h₂.get? q.1 = some q.2) (hk : IsKey k) (h4 : k.2.1 = 4) :
    ∃ Ts' P2, Turn Ts h h' Ts' ∧ P2 ∈ Ts' ∧ @Ne Nat P2 112 ∧ CodeHd h' c' P2 ∧ h'.CodeRec (.ref c') k.2.2 := by
  have k0 := En.back F
  have kT : Kp Ts h h' := k0.mono fun a ha => by rw [List.mem_singleton.mp ha]; exact i2
  obtain ⟨p1, e1, t1, kn1⟩ := TI _ i2
  rw [hT2] at e1; cases e1
  cases G2 with
  | same hs =>
    rcases kn1 k hk with hn | ⟨c2, e2, r, d⟩
    · rw [hn] at hs; cases hs
    · rw [hs] at e2; cases e2
      obtain ⟨P2, a, b, c⟩ := d h4
      have uc := fun o => k0 c' o (off1 (recOff hT2 t1 r))
      refine ⟨Ts, P2, ⟨TI.step (fun _ z => z) kT (fun Q hQ qs e => ?_) fun _ z => .inl z, fun _ z => z, fun _ z => .inl z, kT⟩, a, b, headUp c uc, recUp r uc⟩
      by_cases q2 : Q = P
      · subst q2
        rw [hT2] at e; cases e
        exact ⟨_, (N _ m2).1, .inl rfl⟩
      · exact ⟨qs, k0 _ _ (off1 q2) e, .inl rfl⟩
  | @new _ P2 oc vs t hn hd hv hC =>
    have nP := N _ (s2 _ (.tail _ (.head _)))
    have nc := N _ (s2 _ (.head _))
    have f2 : h.get? P2 = none := En.fresh (h' := h) (off1 (o2 _ (.tail _ (.head _)))) nP.2.2
    have n112 : @Ne Nat P2 112 := fun e => by
      obtain ⟨p3, e3, _⟩ := TI _ i1
      rw [e, e3] at f2; cases f2
    have hC' : CodeHd h' c' P2 := headUp hC fun o eo => by
      have e5 := hh _ (.head _)
      rw [eo] at e5; cases e5; exact nc.1
    have hR : h'.CodeRec (.ref c') k.2.2 := ⟨_, _, _, _, rfl, nc.1, hd, hv⟩
    refine ⟨P2 :: Ts, P2, ⟨TI.step (fun _ z => .tail _ z) kT (fun Q hQ qs e => ?_) fun Q hQ => ?_, fun _ z => .tail _ z, fun Q hQ => ?_, kT⟩, .head _, n112, hC', hR⟩
    · by_cases q2 : Q = P
      · subst q2
        rw [hT2] at e; cases e
        exact ⟨_, (N _ m2).1, .inr ⟨k, hk, _, hn, rfl, hR, fun _ => ⟨P2, .head _, n112, hC'⟩⟩⟩
      · exact ⟨qs, k0 _ _ (off1 q2) e, .inl rfl⟩
    · rcases List.mem_cons.mp hQ with rfl | hQ
      · exact .inr nP.1
      · exact .inl hQ
    · rcases List.mem_cons.mp hQ with rfl | hQ
      · exact .inr f2
      · exact .inl hQ

theorem part25 : True := by
  w_top off
  trivial
/-- what is known behind the making of an encoder -/
structure After (w : World) (g₀ : Heap) (Ts : List Addr) (h : Heap) (f : Addr) (h' : Heap) (Ts' : List Addr) (md : Int) (out : List Vl → List Int) (ok : Vl → Prop) : Prop where
  turn : Turn Ts h h' Ts'
  fn : FnAt f h'
  made : Made w g₀ h' f md out ok
theorem base_v {Ts : List Addr} (B : ∀ a ∈ baseT, a ∈ Ts) : 112 ∈ Ts := B _ (.head _)
theorem kstAt {m : PySem.Str → Option Value} {qs : List (PySem.Str × Value)} (e : ∀ q ∈ qs, m q.1 = some q.2) {x : PySem.Str} {v : Value} (h : (x, v) ∈ qs) : kstB m qs x = some v := by
  have : kstB m qs = m := funext fun z => kstB_eq e fun _ => rfl
  rw [this]; exact e _ h
/-- the state of a loop that writes: the list, and the names that stay -/
def JOct (l : Addr) (ks : List Int) (f : Vl → List Int) (xs : List Vl) (z c : Nat) (qs : List (PySem.Str × Value)) (i : Nat) (m : PySem.Str → Option Value) (nx : List (Addr × Obj)) : Prop :=
  ∃ vs n, nx = [(l, PySem.W.listOf vs.toArray n)] ∧ Oct vs (ks ++ (xs.take i).flatMap f) ∧ vs.length ≤ z + c * i ∧ ∀ q ∈ qs, m q.1 = some q.2
theorem octStep {g h : Heap} {L l : Addr} {ks B : List Int} {f : Vl → List Int} {xs : List Vl} {z c i n : Nat} {qs : List (PySem.Str × Value)} {m : PySem.Str → Option Value} {vs : List Value} {own : List (Addr × Obj)} {y : Vl} {s : Shared} {tk : Nat}
    (hy : xs[i]? = some y) (O : Oct vs B) (e : B = ks ++ (xs.take i).flatMap f ++ f y) (hl : vs.length ≤ z + c * i + c) (hq : ∀ q ∈ qs, m q.1 = some q.2) (F : Fr g L h m) (N : News g L h ((l, PySem.W.listOf vs.toArray n) :: own)) :
    InvEndN g L (JOct l ks f xs z c qs (i + 1)) own [l] s { s with heap := h, toks := tk } := by
  refine ⟨h, tk, m, _, [(l, PySem.W.listOf vs.toArray n)], rfl, F, N, fun p hp => ?_, fun p hp => .tail _ hp, rfl, vs, n, rfl, ?_, ?_, hq⟩
  · rw [List.mem_singleton.mp hp]; exact .head _
  · rw [List.take_add_one, hy, List.flatMap_append]
    rw [e] at O
    simpa using O
  · rw [Nat.mul_add]; omega
section
variable {prog : Program} {w : World} {A : Around} {g : Heap} {env : Env} {s : Shared} {x : PySem.Str} {m : PySem.Str → Option Value} {body : List Stmt} {Qf : Flow → Shared → Prop} {E : Value → Shared → Prop}
/-- a loop over the values that writes octets -/
theorem for_oct {l lv : Addr} {ys vs : List Value} {xs : List Vl} {ks : List Int} {kk n : Nat} (f : Vl → List Int) (c : Nat) (qs : List (PySem.Str × Value)) (hne : ∀ q ∈ qs, ¬ (q.1 = x)) (hh : A.handled = none)
    (hlv : g.get? lv = some (PySem.W.listOf ys.toArray kk)) (hys : VsAt ys xs) (h4 : xs.length ≤ 4)
    (F : Fr g env.locals s.heap m) (N : News g env.locals s.heap [(l, PySem.W.listOf vs.toArray n)]) (O : Oct vs ks) (hq : ∀ q ∈ qs, m q.1 = some q.2)
    (turn : ∀ i y ty (m₁ : PySem.Str → Option Value) h tk own vs3 n3, i < 4 → xs[i]? = some y → Oct vs3 (ks ++ (xs.take i).flatMap f) → vs3.length ≤ vs.length + c * i → (∀ p ∈ own, p.1 ∉ [l]) →
      (∀ q ∈ (x, y.at ty) :: qs, (fun z => if z = x then some (y.at ty) else m₁ z) q.1 = some q.2) →
      Fr g env.locals h (kstB (fun z => if z = x then some (y.at ty) else m₁ z) ((x, y.at ty) :: qs)) → News g env.locals h ((l, PySem.W.listOf vs3.toArray n3) :: own) →
      wpAny (model prog w) A (execs body env) (InvPostN g env.locals (JOct l ks f xs vs.length c qs (i + 1)) own [l] { s with heap := h, toks := tk } Qf) E { s with heap := h, toks := tk })
    (done : ∀ m₁ h tk vs3 n3, Oct vs3 (ks ++ xs.flatMap f) → vs3.length ≤ vs.length + c * 4 → (∀ q ∈ qs, m₁ q.1 = some q.2) → Fr g env.locals h m₁ → News g env.locals h [(l, PySem.W.listOf vs3.toArray n3)] → Qf .next { s with heap := h, toks := tk }) :
    wpAny (model prog w) A (pyIter (.ref lv)) (fun it s₂ => LoopAtV prog w A g env x body Qf E it s₂) E s := by
  have hll : ∀ q ∈ [(l, PySem.W.listOf vs.toArray n)], q.1 ≠ lv := fun q hq e => by
    rw [List.mem_singleton.mp hq] at e
    have z := (N _ (.head _)).2.2
    rw [show (l, PySem.W.listOf vs.toArray n).1 = lv from e, hlv] at z; cases z
  refine for_list (JOct l ks f xs vs.length c qs) hh (IsL.isList (n := kk) (F.keep _ _ hlv)) (Nat.ne_of_lt (Nat.lt_of_lt_of_le (Heap.lt_size hlv) F.above)) hll F N ⟨vs, n, rfl, by simpa using O, by omega, hq⟩ ?_ ?_
  · intro i v m₁ news₁ h tk own hi hv hadr hoff ⟨vs3, n3, hnx, hO3, hz3, q3⟩ F6 N6
    obtain ⟨y, ty, hyi, rfl⟩ := hys.get hv
    subst hnx
    have hps : ∀ q ∈ (x, Vl.at y ty) :: qs, (fun z => if z = x then some (Vl.at y ty) else m₁ z) q.1 = some q.2 := fun q hq => by
      rcases List.mem_cons.mp hq with rfl | hq
      · exact if_pos rfl
      · exact (if_neg (hne q hq)).trans (q3 q hq)
    exact turn i y ty m₁ h tk own vs3 n3 (by have := hys.length; omega) hyi hO3 hz3 (fun p hp => off1 (hoff p hp l (by simp))) hps (frSets F6 hps) N6
  · intro m₁ news₁ h tk ⟨vs3, n3, hnx, hO3, hz3, q3⟩ F6 N6
    subst hnx
    rw [hys.length, List.take_length] at hO3
    have hl := hys.length
    have hc : c * ys.length ≤ c * 4 := Nat.mul_le_mul_left _ (by omega)
    exact done m₁ h tk vs3 n3 hO3 (by omega) q3 F6 N6
end
theorem neWE : ¬ (PySem.Str.ofString "write" = PySem.Str.ofString "element") := by decide +kernel
theorem neDE : ¬ (PySem.Str.ofString "deterministic" = PySem.Str.ofString "element") := by decide +kernel
theorem neVE : ¬ (PySem.Str.ofString "value" = PySem.Str.ofString "element") := by decide +kernel
theorem neSE : ¬ (PySem.Str.ofString "size" = PySem.Str.ofString "element") := by decide +kernel
theorem all1 {P : PySem.Str × Value → Prop} {a : PySem.Str × Value} (h : P a) : ∀ q ∈ [a], P q := fun q hq => (List.mem_singleton.mp hq) ▸ h
theorem all2 {P : PySem.Str × Value → Prop} {a b : PySem.Str × Value} (h : P a) (h' : P b) : ∀ q ∈ [a, b], P q := List.forall_mem_cons.mpr ⟨h, all1 h'⟩
theorem all3 {P : PySem.Str × Value → Prop} {a b c : PySem.Str × Value} (h : P a) (h' : P b) (h2 : P c) : ∀ q ∈ [a, b, c], P q := List.forall_mem_cons.mpr ⟨h, all2 h' h2⟩
/-- what stays of names when a frame is written anew -/
theorem kstAll {m : PySem.Str → Option Value} {p : PySem.Str × Value} {qs : List (PySem.Str × Value)} (e : ∀ q ∈ p :: qs, m q.1 = some q.2) : ∀ q ∈ qs, kstB m (p :: qs) q.1 = some q.2 := fun _ hq => kstAt e (.tail _ hq)
theorem lkW {a b c : Value} : (fun y => [(PySem.Str.ofString "write", a), (PySem.Str.ofString "value", b), (PySem.Str.ofString "deterministic", c)].reverse.lookup y) (PySem.Str.ofString "write") = some a := by
  have h1 : (PySem.Str.ofString "write" == PySem.Str.ofString "deterministic") = false := by decide +kernel
  have h2 : (PySem.Str.ofString "write" == PySem.Str.ofString "value") = false := by decide +kernel
  simp only [List.reverse_cons, List.reverse_nil, List.nil_append, List.cons_append, List.lookup_cons, h1, h2, beq_self_eq_true]
theorem lkD {a b c : Value} : (fun y => [(PySem.Str.ofString "write", a), (PySem.Str.ofString "value", b), (PySem.Str.ofString "deterministic", c)].reverse.lookup y) (PySem.Str.ofString "deterministic") = some c := by
  simp only [List.reverse_cons, List.reverse_nil, List.nil_append, List.cons_append, List.lookup_cons, beq_self_eq_true]
section
variable {M : Model} {A : Around} {E : Value → Shared → Prop} {s : Shared} {g : Heap} {L a c P : Addr} {m mg mb : PySem.Str → Option Value} {cn : PySem.Str} {cs : Scope} {ccd : Value} {cl : List (PySem.Str × Addr)} {news : List (Addr × Obj)} {G : Obj → List (Addr × Obj)}
  {p : Program} {loose : List PySem.Str} {mean : ExcName → Option Value} {name qual : PySem.Str} {params : Arguments} {body : List Stmt} {scope : Scope} {ps : Array Value} {pos : Pos} {firstLine : Nat} {clos : List (PySem.Str × Addr)}
/-- a def of a def, by its key -/
theorem makeKK {dV : Value} {Q : Value → Shared → Prop} (k : Nat × Nat × PySem.Str) (hq : qual = k.2.2) (hp : pos.line = k.1) (hc : pos.col = k.2.1)
    (F : Fr g L s.heap m) (N : News g L s.heap news) (T : Top p loose mean mg mb g) (C : CodeHd g c P) (hcd : ccd = .ref c) (U : UpdF P (tabObj ps) news G) (h3 : TriplesOk ps.toList)
    (Kn : Known g ps k) (hcl : closureFor scope (envX cn cs L a ccd cl) = pure clos)
    (h : ∀ f c' ctv doc h' tk ps' CO, Fr g L h' m → News g L h' ((f, kdv_obj name k.2.2 params (.stmts body) scope clos dV doc ((mg "__name__").getD .none) c' ctv) :: (G (tabObj ps') ++ CO)) → Grown h' k ps ps' c' CO →
      h'.CodeRec (.ref c') k.2.2 → (∀ q ∈ news, q.1 < f) → (∀ q ∈ CO, s.heap.get? q.1 = none ∧ q.1 < f) → (∀ q ∈ CO, h'.get? q.1 = some q.2) → Q (.ref f) { s with heap := h', toks := tk }) :
    wpAny M A (makeTail name qual params (.stmts body) scope (envX cn cs L a ccd cl) dV .none none pos firstLine) Q E s := by
  obtain ⟨k1, k2, k3⟩ := k
  dsimp only at hq hp hc
  subst hq hp hc
  exact makeK F N T C hcd U h3 Kn hcl fun f c' ctv doc h' tk ps' CO F' N' G' R' a b => h f c' ctv doc h' tk ps' CO F' N' G' R' a b fun q hq => (N' q (.tail _ (List.mem_append_right _ hq))).1
end
local macro_rules | `(tactic| walk_at "M made") => `(tactic| (
  (case bind => exact fun s u x dv _ => BindsTo.of_eq rfl); (case l1 => rfl); (case l2 => rfl); (case l3 => rfl); (case cell => decide); (case e1 => rfl); (case e2 => rfl); (case e3 => rfl)))

theorem part26 : True := by
  w_top off
  trivial
section
variable {w : World} {dp un : Nat} {fr : Option (List Env)} {gd : Option (List Code)} {s : Shared} {g : Heap} {L : Addr} {m : PySem.Str → Option Value} {mg mb : PySem.Str → Option Value} {p : Program} {loose : List PySem.Str} {mean : ExcName → Option Value}
  {Q E : Value → Shared → Prop} {news rest : List (Addr × Obj)}
def OffAll (CO news : List (Addr × Obj)) : Prop := ∀ q ∈ CO, Off q.1 news
theorem OffAll.to {CO news : List (Addr × Obj)} {a : Nat} (h : OffAll CO news) (k : ∀ T : Nat, Off T news → @Ne Nat T a) : ∀ q ∈ CO, q.1 ≠ a := fun q hq => k _ (h q hq)
theorem offNew {h : Heap} {CO : List (Addr × Obj)} {f : Addr} (N : News g L h news) (hc : ∀ q ∈ CO, h.get? q.1 = none ∧ q.1 < f) : OffAll CO news := fun q hq => Off.of fun x hx c => by
  have e := (N x hx).1
  rw [← c, (hc q hq).1] at e; cases e
theorem mkPlain {M : Model} {A : Around} {name qual : PySem.Str} {params : Arguments} {body : List Stmt} {scope : Scope} {env : Env} {pos : Pos} {fl : Nat} (h : wpAny M A (makeTail name qual params (.stmts body) scope env .none .none none pos fl) Q E s) :
    wpAny M A (makeFunction name qual params (.stmts body) scope env [] [] [] pos fl) Q E s := by
  rw [makeFunction_eq]
  simp only [List.zip_nil_right, List.filterMap_nil, List.isEmpty_nil, if_true, pure_bind]
  exact h
theorem encV_use2 {l u : Addr} {H : Heap} {vs : List Value} {ks : List Int} {n : Nat} {v : Int} {t : Tok} {dv : Value} (F : Fr g L s.heap m) (X : (Mine.hd.heap_39 w.params).In g) (T : Top p loose mean mg mb g) (N : News g L s.heap news)
    (W : Wr w H l u) (k : Kp [l] H s.heap) (hO : Oct vs ks) (ml : (l, PySem.W.listOf vs.toArray n) ∈ news) (S : Sep [l] news rest) (hz : vs.length < 90000) (h0 : 0 ≤ v) (h1 : v < 1180591620717411303424) (hroom : dp + 30 < recursionLimit) (hun : un + 200 < cLine)
    (ret : ∀ vs' n' h' tk', Oct vs' (ks ++ vi v.toNat) → vs'.length ≤ vs.length + 10 → Fr g L h' m → News g L h' ((l, PySem.W.listOf vs'.toArray n') :: rest) → Q .none { s with heap := h', toks := tk' }) :
    wpAny (model PySem.Challenge.rw_ae6018_01.row.prog w) (AR dp un fr gd) (call (.ref 102) [.ref u, .int v t, dv]) Q E s :=
  encV_use F X T N (W.mono k) hO ml S hz h0 h1 hroom hun fun vs' n' h' tk' a b _ F' N' => ret vs' n' h' tk' a b F' N'
theorem Grown.code {h h' : Heap} {k : Nat × Nat × PySem.Str} {ps ps' : Array Value} {c' : Addr} {CO : List (Addr × Obj)} (G : Grown h' k ps ps' c' CO) (Kn : Known g ps k) (F : Fr g L h m) (N : ∀ q ∈ CO, h.get? q.1 = some q.2) : h.CodeRec (.ref c') k.2.2 := by
  cases G with
  | same e =>
    rcases Kn with hn | ⟨c₂, e2, r⟩
    · rw [hn] at e; cases e
    · rw [e2] at e; cases e; exact recUp r fun o => F.keep _ o
  | new _ hd hv _ => exact ⟨_, _, _, _, rfl, N _ (.head _), hd, hv⟩
theorem needs2 {h : Heap} {a b : Addr} {o o2 : Obj} (e : h.get? a = some o) (e2 : h.get? b = some o2) (m1 : ¬ Mut o) (m2 : ¬ Mut o2) : ∀ q ∈ [(a, o), (b, o2)], h.get? q.1 = some q.2 ∧ ¬ Mut q.2 := fun q hq => by
  rcases List.mem_cons.mp hq with rfl | hq
  · exact ⟨e, m1⟩
  · rw [List.mem_singleton.mp hq]; exact ⟨e2, m2⟩
theorem tag_use {n wt : Int} {t t2 : Tok} {ps : Array Value} (F : Fr g L s.heap m) (X : (Mine.hd.heap_39 w.params).In g) (T : Top p loose mean mg mb g) (N : News g L s.heap news)
    (hroom : dp + 70 < recursionLimit) (hun : un + 500 < cLine) (C : CodeHd g 116 112) (ml : (112, tabObj ps) ∈ news) (S : Sep [112] news rest) (h3 : TriplesOk ps.toList) (Kn : Known g ps keyV) (n0 : 0 ≤ n) (n1 : n ≤ 536870911) (w0 : 0 ≤ wt) (w1 : wt ≤ 5)
    (ret : ∀ b t' h' tk' ps' CO, KBw.bInts b = vi (8 * n + wt).toNat → Grow keyV ps ps' CO → OffAll CO news → Fr g L h' m → News g L h' ((112, tabObj ps') :: (rest ++ CO)) → Q (.bytes b t') { s with heap := h', toks := tk' }) :
    wpAny (model PySem.Challenge.rw_ae6018_01.row.prog w) (AR dp un fr gd) (call (.ref 124) [.int n t, .int wt t2]) Q E s :=
  tag_ok X T F.keep (N _ ml).2.2 hroom hun C (N _ ml).1 h3 (Kn.imp id fun ⟨c', e, r⟩ => ⟨c', e, recUp r fun o => F.keep _ o⟩) n0 n1 w0 w1 fun b t' h' tk' ps' CO hb k e G hCO =>
    let ⟨F', N', ho⟩ := growBack F N ml S k e hCO
    ret b t' h' tk' ps' CO hb G (fun q hq => (ho q hq).2) F' N'
end
local macro_rules | `(tactic| walk_at "call ref") => `(tactic| ((with_reducible show wpAny _ _ (call (Value.ref 124) [Value.int _ _, Value.int _ _]) _ _ _); k_dflt (refine' tag_use ?F ?X ?T ?N ?r ?u ?C ?ml ?S ?h3 ?Kn ?a ?b ?c ?d ?_; (case F => k_asm); (case X => k_asm); (case T => k_asm); (case N => k_asm); (case r => omega); (case u => omega); (case C => with_reducible assumption); (case ml => k_mem); (case S => walk_at "M sep"); (case h3 => with_reducible assumption); (case Kn => with_reducible assumption); (case a => with_reducible assumption); (case b => with_reducible assumption); (case c => decide); (case d => decide); k_whole); intro b' t' h' tk' ps' CO' B' G' O' F' N'; (try simp only [List.cons_append, List.nil_append] at N')))
local macro_rules | `(tactic| k_all) => `(tactic| (refine' OffAll.to ?o ?k; (case o => with_reducible assumption); (case k => (intro T hT; dsimp only [Off] at hT; omega))))
local macro_rules | `(tactic| walk_at "call ref") => `(tactic| ((with_reducible show wpAny _ _ (call (Value.ref 102) [Value.ref _, Value.int _ _, _]) _ _ _); k_dflt (refine' encV_use2 ?F ?X ?T ?N ?W ?k ?O ?ml ?S ?z ?a ?b ?r ?u ?_; (case F => k_asm); (case X => k_asm); (case T => k_asm); (case N => k_asm); (case W => with_reducible assumption); (case k => exact Ent.back (by assumption) (by k_asm)); (case O => with_reducible assumption); (case ml => k_mem); (case S => walk_at "M sep"); (case z => omega); (case a => walk_at "M rng"); (case b => walk_at "M rng"); (case r => omega); (case u => omega); k_whole); intro vs' n' h' tk' O' Z' F' N'))
local macro_rules | `(tactic| walk_at "exec FunctionDef") => `(tactic| refine Hold.out ?_)
section
variable {w : World} {dp un : Nat} {fr : Option (List Env)} {gd : Option (List Code)} {s : Shared} {g₀ : Heap} {mg mb : PySem.Str → Option Value} {p : Program} {loose : List PySem.Str} {mean : ExcName → Option Value}
  {Q E : Value → Shared → Prop}
set_option maxRecDepth 100000 in
set_option maxHeartbeats 4000000 in
theorem bytesEnc_ok {n md : Int} {t : Tok} {rep pk : Bool} {Ts : List Addr}
  (X : (Mine.hd.heap_39 w.params).In g₀) (T : Top p loose mean mg mb g₀) (st : g₀.StaysIn s.heap) (hTs : ∀ a ∈ Ts, g₀.get? a = none) (hroom : dp + 80 < recursionLimit) (hun : un + 600 < cLine)
  (C : Codes g₀) (B : ∀ a ∈ baseT, a ∈ Ts) (TI : TabsIn Ts s.heap) (hM : Mode md rep pk) (hpk : pk = false)
  (n0 : 0 ≤ n) (n1 : n ≤ 536870911)
  (ret : ∀ f h' tk' Ts', After w g₀ Ts s.heap f h' Ts' md (outOf 12 2 n md) (VlOk 12 0) → Q (.ref f) { s with heap := h', toks := tk' }) :
  wpAny (model PySem.Challenge.rw_ae6018_01.row.prog w) (AR dp un fr gd) (call (.ref 243) [.int n t, .bool rep, .bool pk]) Q E s := by
  revert X
  k_fill
  intro X
  subst hpk
  have i1 := base_v B
  have i2 : 238 ∈ Ts := B _ (by simp [baseT])
  obtain ⟨ps, hT, h3, Kn⟩ := TI.at i1
  obtain ⟨pt, hT2, h32, Kn2⟩ := TI.at i2
  have hg := hTs _ i1
  have hg2 := hTs _ i2
  have C1 := C.v
  have C2 := C.by'
  k_dflt (refine' callMC (binds := [(PySem.Str.ofString "field_number", .int n t), (PySem.Str.ofString "is_repeated", .bool rep), (PySem.Str.ofString "is_packed", .bool false)]) [112, 238] X T st ?hn ?ho ?hcd ?hr ?hb ?hl ?hd ?h1 ?h2 ?h3 ?_)
  walk_at "M enterC"
  intro g L h₁ tk fr' cells En F' Nc Y' X' T' st'
  have N0 : News g L h₁ [(112, tabObj ps), (238, tabObj pt)] := En.news (by simp [hT, hT2])
  have l1 : @LT.lt Nat _ 112 L ∧ @LT.lt Nat _ 238 L := ⟨En.lt _ _ hT, En.lt _ _ hT2⟩
  have C' : CodeHd g 116 112 := C1.keeps st'
  have C2' : CodeHd g 242 238 := C2.keeps st'
  have up : ∀ {c' : Addr} {q : PySem.Str}, s.heap.CodeRec (.ref c') q → g.CodeRec (.ref c') q := fun r => recUp r fun o => En.vis _ o (off2 (recOff hT h3 r) (recOff hT2 h32 r))
  have Kg : Known g ps keyV := (Kn _ .v).imp id fun ⟨c', e, r⟩ => ⟨c', e, up r⟩
  have Kg2 : ∀ k, IsKey k → Known g pt k := fun k hk => (Kn2 k hk).imp id fun ⟨c', e, r⟩ => ⟨c', e, up r⟩
  k_cells Y'
  have N' := newsApp Nc N0
  clear Nc N0 Kn Kn2
  simp only [List.cons_append, List.nil_append] at N'
  show wpAny _ _ _ _ _ _
  (try dsimp only)
  k_fold
  rcases hM with ⟨rfl, _, rfl⟩ | ⟨rfl, _, rfl⟩ | ⟨_, hf, _⟩
  rotate_left 2
  · cases hf
  · k_steps
    refine Hold.mk ?_
    (rename News _ _ _ _ => N1)
    (rename Fr _ _ _ _ => F1)
    (rename Grow _ _ _ _ => G1)
    k_dflt (refine' nestDef_K ?d0 ?k0 ?a0 (mkPlain (makeKK kBy0 ?q1 ?q2 ?q3 F1 N1 T' C2' ?cd ?U h32 ?kn ?cl ?_)))
    case d0 => rfl
    case k0 => rfl
    case a0 => rfl
    case cd => rfl
    case U => k_updF
    case q1 => kernel_rfl
    case q2 => rfl
    case q3 => rfl
    case kn => exact Kg2 _ IsKey.by0
    case cl => rfl
    intro f c' ctv doc h' tk ps2 CO2 F2 N2 G2 R2 lt2 co2 nco2
    have O2 := offNew N1 co2
    (try simp only [List.cons_append, List.nil_append] at N2)
    clear N1 F1
    k_steps
    (rename News _ _ _ _ => N3)
    (rename Fr _ _ _ _ => F3)
    (rename Obj.data _ = Data.cell (some (Value.ref 102)) => dL)
    (rename Obj.data _ = Data.cell (some (Value.bytes _ _)) => dT)
    (rename KBw.bInts _ = vi _ => hB)
    (rename Array UInt8 => bT)
    dsimp only
    refine ret f _ _ Ts ⟨flatDone TI i1 i2 (by decide) hT hT2 En F3 N3 (by k_mem) (by k_mem) G1 G2 (fun q hq => by simp [hq]) (fun q hq => by simp [hq]) .by0 (show ¬ ((8 : Nat) = 4) by decide), FnAt.of N3 (List.Mem.head _), ?_⟩
    have R3 := G2.code (Kg2 _ IsKey.by0) F3 (fun q hq => (N3 q (by simp [hq])).1)
    have nT := (N3 (L + 1 + 1, _) (by k_mem)).1
    have nL := (N3 (L + 1, _) (by k_mem)).1
    k_dflt (refine' madeOf (n1 := PySem.Str.ofString "write") (n2 := PySem.Str.ofString "value") (n3 := PySem.Str.ofString "deterministic") X T (fun a o e => F3.keep _ _ (st' _ _ e)) (N3 _ (List.Mem.head _)).1 R3 _ (needs2 nT nL (Mut.noCell dT) (Mut.noCell dL)) ?bind ?l1 ?l2 ?l3 ?cell ?e1 ?e2 ?e3 ?run)
    walk_at "M made"
    case run =>
      intro dp2 un2 fr2 gd2 s2 Q2 l u vs ks n2 xs x dv g2 L2 h2 tk2 W O hz hV hok h4 hr hu ret2 En2 hneed F4 N4 X4 T4
      have c1 := hneed _ (List.Mem.head _)
      have c2 := hneed _ (List.Mem.tail _ (List.Mem.head _))
      clear N3 F3 nT nL hneed TI
      rcases hV with ⟨_, v, tv, rfl, rfl⟩ | ⟨m0, _⟩
      · have hv := hok v (List.Mem.head _)
        cases v with
        | int i => exact absurd rfl hv.2.2.1
        | bool b => cases hv
        | str y => exact absurd hv.1 (by decide)
        | byt b =>
          have hb4 := hv.2
          dsimp only [Vl.at] at *
          k_steps
          (rename Oct _ _ => O9)
          (rename News _ _ _ _ => N9)
          (rename Fr _ _ _ _ => F9)
          have e : ks ++ outOf 12 2 n 0 [Vl.byt b] = ks ++ KBw.bInts bT ++ vi ((b.size : Nat) : Int).toNat ++ KBw.bInts b := by
            rw [hB, outN (by decide)]; simp [tagged, bare]
          exact ret2 _ _ _ _ _ (by rw [e]; exact O9) (by omega) (En2.back F9) (N9 _ (List.Mem.head _)).1
      · exact absurd rfl m0
  · k_steps
    refine Hold.mk ?_
    (rename News _ _ _ _ => N1)
    (rename Fr _ _ _ _ => F1)
    (rename Grow _ _ _ _ => G1)
    k_dflt (refine' nestDef_K ?d0 ?k0 ?a0 (mkPlain (makeKK kBy1 ?q1 ?q2 ?q3 F1 N1 T' C2' ?cd ?U h32 ?kn ?cl ?_)))
    case d0 => rfl
    case k0 => rfl
    case a0 => rfl
    case cd => rfl
    case U => k_updF
    case q1 => kernel_rfl
    case q2 => rfl
    case q3 => rfl
    case kn => exact Kg2 _ IsKey.by1
    case cl => rfl
    intro f c' ctv doc h' tk ps2 CO2 F2 N2 G2 R2 lt2 co2 nco2
    have O2 := offNew N1 co2
    (try simp only [List.cons_append, List.nil_append] at N2)
    clear N1 F1
    k_steps
    (rename News _ _ _ _ => N3)
    (rename Fr _ _ _ _ => F3)
    (rename Obj.data _ = Data.cell (some (Value.ref 102)) => dL)
    (rename Obj.data _ = Data.cell (some (Value.bytes _ _)) => dT)
    (rename KBw.bInts _ = vi _ => hB)
    (rename Array UInt8 => bT)
    dsimp only
    refine ret f _ _ Ts ⟨flatDone TI i1 i2 (by decide) hT hT2 En F3 N3 (by k_mem) (by k_mem) G1 G2 (fun q hq => by simp [hq]) (fun q hq => by simp [hq]) .by1 (show ¬ ((8 : Nat) = 4) by decide), FnAt.of N3 (List.Mem.head _), ?_⟩
    have R3 := G2.code (Kg2 _ IsKey.by1) F3 (fun q hq => (N3 q (by simp [hq])).1)
    have nT := (N3 (L + 1 + 1, _) (by k_mem)).1
    have nL := (N3 (L + 1, _) (by k_mem)).1
    k_dflt (refine' madeOf (n1 := PySem.Str.ofString "write") (n2 := PySem.Str.ofString "value") (n3 := PySem.Str.ofString "deterministic") X T (fun a o e => F3.keep _ _ (st' _ _ e)) (N3 _ (List.Mem.head _)).1 R3 _ (needs2 nT nL (Mut.noCell dT) (Mut.noCell dL)) ?bind ?l1 ?l2 ?l3 ?cell ?e1 ?e2 ?e3 ?run)
    walk_at "M made"
    case run =>
      intro dp2 un2 fr2 gd2 s2 Q2 l u vs ks n2 xs x dv g2 L2 h2 tk2 W O hz hV hok h4 hr hu ret2 En2 hneed F4 N4 X4 T4
      have c1 := hneed _ (List.Mem.head _)
      have c2 := hneed _ (List.Mem.tail _ (List.Mem.head _))
      clear N3 F3 nT nL hneed TI
      rcases hV with ⟨m0, _⟩ | ⟨_, lv, ys, kk, rfl, hlv, hys⟩
      · exact absurd m0 (by decide)
      · k_steps
        refine Hold.mk ?_
        (rename News _ _ _ _ => N5)
        (rename Fr _ _ _ _ => F5)
        k_dflt (refine' For_invV g2 ?a1 ?a2 ?_ ?a3 ?a4)
        case a1 => rfl
        case a2 => rfl
        case a3 => intro _; with_unfolding_all rfl
        case a4 => exact passes_noE
        k_steps
        refine Hold.mk ?_
        k_dflt (refine' for_oct (tagged 12 2 n) 12 [(PySem.Str.ofString "write", .ref u), (PySem.Str.ofString "deterministic", dv)] (all2 neWE neDE) ?b1 hlv hys h4 F5 N5 O ?b7 ?_ ?_)
        case b1 => rfl
        case b7 => exact all2 lkW lkD
        · intro i y ty m₁ h tk own vs3 n3 hi hyi hO3 hz3 hc2 hm F7 N7
          have hy := hok y (List.mem_of_getElem? hyi)
          clear F5 N5 O
          cases y with
          | int i => exact absurd rfl hy.2.2.1
          | bool b => cases hy
          | str y => exact absurd hy.1 (by decide)
          | byt b =>
            have hb4 := hy.2
            dsimp only [Vl.at] at *
            k_steps
            (rename Oct _ _ => O9)
            (rename News _ _ _ _ => N9)
            (rename Fr _ _ _ _ => F9)
            exact octStep hyi O9 (by rw [hB]; simp [tagged, bare]) (by omega) (kstAll hm) F9 N9
        · intro m₁ h tk vs3 n3 hO3 hz3 hm F7 N7
          clear F5 N5 O
          k_steps
          (rename News _ _ _ _ => N9)
          (rename Fr _ _ _ _ => F9)
          exact ret2 _ _ _ _ _ (by rw [outN (by decide)]; exact hO3) (by omega) (En2.back F9) (N9 _ (List.Mem.head _)).1
end

theorem part27 : True := by
  w_top off
  trivial
theorem neWC : ¬ (PySem.Str.ofString "write" = PySem.Str.ofString "encoded") := by decide +kernel
theorem neDC : ¬ (PySem.Str.ofString "deterministic" = PySem.Str.ofString "encoded") := by decide +kernel
theorem setAll {m : PySem.Str → Option Value} {qs : List (PySem.Str × Value)} {x : PySem.Str} {v : Value} (e : ∀ q ∈ qs, m q.1 = some q.2) (hne : ∀ q ∈ qs, ¬ (q.1 = x)) : ∀ q ∈ qs, (fun y => if y = x then some v else m y) q.1 = some q.2 :=
  fun q hq => (if_neg (hne q hq)).trans (e q hq)
section
variable {w : World} {dp un : Nat} {fr : Option (List Env)} {gd : Option (List Code)} {s : Shared} {g₀ : Heap} {mg mb : PySem.Str → Option Value} {p : Program} {loose : List PySem.Str} {mean : ExcName → Option Value}
  {Q E : Value → Shared → Prop}
set_option maxRecDepth 100000 in
set_option maxHeartbeats 4000000 in
theorem strEnc_ok {n md : Int} {t : Tok} {rep pk : Bool} {Ts : List Addr}
  (X : (Mine.hd.heap_39 w.params).In g₀) (T : Top p loose mean mg mb g₀) (st : g₀.StaysIn s.heap) (hTs : ∀ a ∈ Ts, g₀.get? a = none) (hroom : dp + 80 < recursionLimit) (hun : un + 600 < cLine)
  (C : Codes g₀) (B : ∀ a ∈ baseT, a ∈ Ts) (TI : TabsIn Ts s.heap) (hM : Mode md rep pk) (hpk : pk = false)
  (n0 : 0 ≤ n) (n1 : n ≤ 536870911)
  (ret : ∀ f h' tk' Ts', After w g₀ Ts s.heap f h' Ts' md (outOf 9 2 n md) (VlOk 9 0) → Q (.ref f) { s with heap := h', toks := tk' }) :
  wpAny (model PySem.Challenge.rw_ae6018_01.row.prog w) (AR dp un fr gd) (call (.ref 236) [.int n t, .bool rep, .bool pk]) Q E s := by
  revert X
  k_fill
  intro X
  subst hpk
  have i1 := base_v B
  have i2 : 231 ∈ Ts := B _ (by simp [baseT])
  obtain ⟨ps, hT, h3, Kn⟩ := TI.at i1
  obtain ⟨pt, hT2, h32, Kn2⟩ := TI.at i2
  have hg := hTs _ i1
  have hg2 := hTs _ i2
  have C1 := C.v
  have C2 := C.st
  k_dflt (refine' callMC (binds := [(PySem.Str.ofString "field_number", .int n t), (PySem.Str.ofString "is_repeated", .bool rep), (PySem.Str.ofString "is_packed", .bool false)]) [112, 231] X T st ?hn ?ho ?hcd ?hr ?hb ?hl ?hd ?h1 ?h2 ?h3 ?_)
  walk_at "M enterC"
  intro g L h₁ tk fr' cells En F' Nc Y' X' T' st'
  have N0 : News g L h₁ [(112, tabObj ps), (231, tabObj pt)] := En.news (by simp [hT, hT2])
  have l1 : @LT.lt Nat _ 112 L ∧ @LT.lt Nat _ 231 L := ⟨En.lt _ _ hT, En.lt _ _ hT2⟩
  have C' : CodeHd g 116 112 := C1.keeps st'
  have C2' : CodeHd g 235 231 := C2.keeps st'
  have up : ∀ {c' : Addr} {q : PySem.Str}, s.heap.CodeRec (.ref c') q → g.CodeRec (.ref c') q := fun r => recUp r fun o => En.vis _ o (off2 (recOff hT h3 r) (recOff hT2 h32 r))
  have Kg : Known g ps keyV := (Kn _ .v).imp id fun ⟨c', e, r⟩ => ⟨c', e, up r⟩
  have Kg2 : ∀ k, IsKey k → Known g pt k := fun k hk => (Kn2 k hk).imp id fun ⟨c', e, r⟩ => ⟨c', e, up r⟩
  k_cells Y'
  have N' := newsApp Nc N0
  clear Nc N0 Kn Kn2
  simp only [List.cons_append, List.nil_append] at N'
  show wpAny _ _ _ _ _ _
  (try dsimp only)
  k_fold
  rcases hM with ⟨rfl, _, rfl⟩ | ⟨rfl, _, rfl⟩ | ⟨_, hf, _⟩
  rotate_left 2
  · cases hf
  · k_steps
    refine Hold.mk ?_
    (rename News _ _ _ _ => N1)
    (rename Fr _ _ _ _ => F1)
    (rename Grow _ _ _ _ => G1)
    k_dflt (refine' nestDef_K ?d0 ?k0 ?a0 (mkPlain (makeKK kSt0 ?q1 ?q2 ?q3 F1 N1 T' C2' ?cd ?U h32 ?kn ?cl ?_)))
    case d0 => rfl
    case k0 => rfl
    case a0 => rfl
    case cd => rfl
    case U => k_updF
    case q1 => kernel_rfl
    case q2 => rfl
    case q3 => rfl
    case kn => exact Kg2 _ IsKey.st0
    case cl => rfl
    intro f c' ctv doc h' tk ps2 CO2 F2 N2 G2 R2 lt2 co2 nco2
    have O2 := offNew N1 co2
    (try simp only [List.cons_append, List.nil_append] at N2)
    clear N1 F1
    k_steps
    (rename News _ _ _ _ => N3)
    (rename Fr _ _ _ _ => F3)
    (rename Obj.data _ = Data.cell (some (Value.ref 102)) => dL)
    (rename Obj.data _ = Data.cell (some (Value.bytes _ _)) => dT)
    (rename KBw.bInts _ = vi _ => hB)
    (rename Array UInt8 => bT)
    dsimp only
    refine ret f _ _ Ts ⟨flatDone TI i1 i2 (by decide) hT hT2 En F3 N3 (by k_mem) (by k_mem) G1 G2 (fun q hq => by simp [hq]) (fun q hq => by simp [hq]) .st0 (show ¬ ((8 : Nat) = 4) by decide), FnAt.of N3 (List.Mem.head _), ?_⟩
    have R3 := G2.code (Kg2 _ IsKey.st0) F3 (fun q hq => (N3 q (by simp [hq])).1)
    have nT := (N3 (L + 1 + 1, _) (by k_mem)).1
    have nL := (N3 (L + 1, _) (by k_mem)).1
    k_dflt (refine' madeOf (n1 := PySem.Str.ofString "write") (n2 := PySem.Str.ofString "value") (n3 := PySem.Str.ofString "deterministic") X T (fun a o e => F3.keep _ _ (st' _ _ e)) (N3 _ (List.Mem.head _)).1 R3 _ (needs2 nT nL (Mut.noCell dT) (Mut.noCell dL)) ?bind ?l1 ?l2 ?l3 ?cell ?e1 ?e2 ?e3 ?run)
    walk_at "M made"
    case run =>
      intro dp2 un2 fr2 gd2 s2 Q2 l u vs ks n2 xs x dv g2 L2 h2 tk2 W O hz hV hok h4 hr hu ret2 En2 hneed F4 N4 X4 T4
      have c1 := hneed _ (List.Mem.head _)
      have c2 := hneed _ (List.Mem.tail _ (List.Mem.head _))
      clear N3 F3 nT nL hneed TI
      rcases hV with ⟨_, v, tv, rfl, rfl⟩ | ⟨m0, _⟩
      · have hv := hok v (List.Mem.head _)
        cases v with
        | int i => exact absurd rfl hv.2.1
        | bool b => cases hv
        | byt b => exact absurd hv.1 (by decide)
        | str y =>
          have hb4 := hv.2
          dsimp only [Vl.at] at *
          k_steps
          (rename Oct _ _ => O9)
          (rename News _ _ _ _ => N9)
          (rename Fr _ _ _ _ => F9)
          have e : ks ++ outOf 9 2 n 0 [Vl.str y] = ks ++ KBw.bInts bT ++ vi (((enc y).size : Nat) : Int).toNat ++ KBw.bInts (enc y) := by
            rw [hB, outN (by decide)]; simp [tagged, bare]
          exact ret2 _ _ _ _ _ (by rw [e]; exact O9) (by omega) (En2.back F9) (N9 _ (List.Mem.head _)).1
      · exact absurd rfl m0
  · k_steps
    refine Hold.mk ?_
    (rename News _ _ _ _ => N1)
    (rename Fr _ _ _ _ => F1)
    (rename Grow _ _ _ _ => G1)
    k_dflt (refine' nestDef_K ?d0 ?k0 ?a0 (mkPlain (makeKK kSt1 ?q1 ?q2 ?q3 F1 N1 T' C2' ?cd ?U h32 ?kn ?cl ?_)))
    case d0 => rfl
    case k0 => rfl
    case a0 => rfl
    case cd => rfl
    case U => k_updF
    case q1 => kernel_rfl
    case q2 => rfl
    case q3 => rfl
    case kn => exact Kg2 _ IsKey.st1
    case cl => rfl
    intro f c' ctv doc h' tk ps2 CO2 F2 N2 G2 R2 lt2 co2 nco2
    have O2 := offNew N1 co2
    (try simp only [List.cons_append, List.nil_append] at N2)
    clear N1 F1
    k_steps
    (rename News _ _ _ _ => N3)
    (rename Fr _ _ _ _ => F3)
    (rename Obj.data _ = Data.cell (some (Value.ref 102)) => dL)
    (rename Obj.data _ = Data.cell (some (Value.bytes _ _)) => dT)
    (rename KBw.bInts _ = vi _ => hB)
    (rename Array UInt8 => bT)
    dsimp only
    refine ret f _ _ Ts ⟨flatDone TI i1 i2 (by decide) hT hT2 En F3 N3 (by k_mem) (by k_mem) G1 G2 (fun q hq => by simp [hq]) (fun q hq => by simp [hq]) .st1 (show ¬ ((8 : Nat) = 4) by decide), FnAt.of N3 (List.Mem.head _), ?_⟩
    have R3 := G2.code (Kg2 _ IsKey.st1) F3 (fun q hq => (N3 q (by simp [hq])).1)
    have nT := (N3 (L + 1 + 1, _) (by k_mem)).1
    have nL := (N3 (L + 1, _) (by k_mem)).1
    k_dflt (refine' madeOf (n1 := PySem.Str.ofString "write") (n2 := PySem.Str.ofString "value") (n3 := PySem.Str.ofString "deterministic") X T (fun a o e => F3.keep _ _ (st' _ _ e)) (N3 _ (List.Mem.head _)).1 R3 _ (needs2 nT nL (Mut.noCell dT) (Mut.noCell dL)) ?bind ?l1 ?l2 ?l3 ?cell ?e1 ?e2 ?e3 ?run)
    walk_at "M made"
    case run =>
      intro dp2 un2 fr2 gd2 s2 Q2 l u vs ks n2 xs x dv g2 L2 h2 tk2 W O hz hV hok h4 hr hu ret2 En2 hneed F4 N4 X4 T4
      have c1 := hneed _ (List.Mem.head _)
      have c2 := hneed _ (List.Mem.tail _ (List.Mem.head _))
      clear N3 F3 nT nL hneed TI
      rcases hV with ⟨m0, _⟩ | ⟨_, lv, ys, kk, rfl, hlv, hys⟩
      · exact absurd m0 (by decide)
      · k_steps
        refine Hold.mk ?_
        (rename News _ _ _ _ => N5)
        (rename Fr _ _ _ _ => F5)
        k_dflt (refine' For_invV g2 ?a1 ?a2 ?_ ?a3 ?a4)
        case a1 => rfl
        case a2 => rfl
        case a3 => intro _; with_unfolding_all rfl
        case a4 => exact passes_noE
        k_steps
        refine Hold.mk ?_
        k_dflt (refine' for_oct (tagged 9 2 n) 12 [(PySem.Str.ofString "write", .ref u), (PySem.Str.ofString "deterministic", dv)] (all2 neWE neDE) ?b1 hlv hys h4 F5 N5 O ?b7 ?_ ?_)
        case b1 => rfl
        case b7 => exact all2 lkW lkD
        · intro i y ty m₁ h tk own vs3 n3 hi hyi hO3 hz3 hc2 hm F7 N7
          have hy := hok y (List.mem_of_getElem? hyi)
          clear F5 N5 O
          cases y with
          | int i => exact absurd rfl hy.2.1
          | bool b => cases hy
          | byt b => exact absurd hy.1 (by decide)
          | str y =>
            have hb4 := hy.2
            dsimp only [Vl.at] at *
            k_steps
            (rename Oct _ _ => O9)
            (rename News _ _ _ _ => N9)
            (rename Fr _ _ _ _ => F9)
            exact octStep hyi O9 (by rw [hB]; simp [tagged, bare]) (by omega) (setAll (kstAll hm) (all2 neWC neDC)) F9 N9
        · intro m₁ h tk vs3 n3 hO3 hz3 hm F7 N7
          clear F5 N5 O
          k_steps
          (rename News _ _ _ _ => N9)
          (rename Fr _ _ _ _ => F9)
          exact ret2 _ _ _ _ _ (by rw [outN (by decide)]; exact hO3) (by omega) (En2.back F9) (N9 _ (List.Mem.head _)).1
end

theorem part28 : True := by
  w_top off
  trivial
theorem need1 {h : Heap} {a : Addr} {o : Obj} {r : List (Addr × Obj)} (e : h.get? a = some o) (m : ¬ Mut o) (x : ∀ q ∈ r, h.get? q.1 = some q.2 ∧ ¬ Mut q.2) : ∀ q ∈ (a, o) :: r, h.get? q.1 = some q.2 ∧ ¬ Mut q.2 := List.forall_mem_cons.mpr ⟨⟨e, m⟩, x⟩
theorem need0 {h : Heap} : ∀ q ∈ ([] : List (Addr × Obj)), h.get? q.1 = some q.2 ∧ ¬ Mut q.2 := List.forall_mem_nil _
theorem Mut.noDv {dv : List Value} : ¬ Mut (kdv_tup dv) := Mut.noTup rfl fun _ _ e => nomatch e
theorem lkWu {a b c : Value} : (fun y => [(PySem.Str.ofString "write", a), (PySem.Str.ofString "value", b), (PySem.Str.ofString "unused_deterministic", c)].reverse.lookup y) (PySem.Str.ofString "write") = some a := by
  have h1 : (PySem.Str.ofString "write" == PySem.Str.ofString "unused_deterministic") = false := by decide +kernel
  have h2 : (PySem.Str.ofString "write" == PySem.Str.ofString "value") = false := by decide +kernel
  simp only [List.reverse_cons, List.reverse_nil, List.nil_append, List.cons_append, List.lookup_cons, h1, h2, beq_self_eq_true]
theorem flat8 : ∀ {xs : List Vl}, (∀ y ∈ xs, VlOk 8 1 y) → (xs.flatMap (bare 8)).length = xs.length
  | [], _ => rfl
  | x :: xs, h => by
    have hx := h x (.head _)
    cases x with
    | int i => exact absurd rfl hx.1
    | bool b => rw [List.flatMap_cons, List.length_append, flat8 fun y hy => h y (.tail _ hy)]; simp [bare]; omega
    | str y => exact absurd hx.1 (by decide)
    | byt b => exact absurd hx.1 (by decide)
theorem bI0 : KBw.bInts #[0] = [0] := rfl
theorem bI1 : KBw.bInts #[1] = [1] := rfl
theorem len_lv {prog : Program} {w : World} {A : Around} {E : Value → Shared → Prop} {s : Shared} {g : Heap} {L lv : Addr} {m : PySem.Str → Option Value} {ys : List Value} {Q : Value → Shared → Prop} (F : Fr g L s.heap m) (hl : g.IsList lv ys.toArray) (hz : ys.length < 1000)
    (h : ∀ t k, Q (.int ys.length t) { s with toks := k }) : wpAny (model prog w) A (call (.builtin "len") [.ref lv]) Q E s :=
  len_list (hl.at fun o e => F.keep _ o e) (by simp; omega) (by simpa using h _ _)
local macro_rules | `(tactic| walk_at "call builtin:len") => `(tactic| ((with_reducible show wpAny _ _ (call (Value.builtin "len") [Value.ref _]) _ _ _); k_dflt (refine' len_lv ?F ?h ?z ?_; (case F => k_asm); (case h => with_reducible assumption); (case z => omega)); intro _ _))
local macro_rules | `(tactic| walk_at "makeTail") => `(tactic| refine Hold.out ?_)
local macro_rules | `(tactic| walk_at "M madeD") => `(tactic| (
  (case bind => exact fun s u x dv hn => BindsTo.of_defaults rfl (hn _ (List.Mem.head _)) rfl rfl rfl); (case l1 => rfl); (case l2 => rfl); (case l3 => rfl); (case cell => decide); (case e1 => rfl); (case e2 => rfl); (case e3 => rfl)))
section
variable {w : World} {dp un : Nat} {fr : Option (List Env)} {gd : Option (List Code)} {s : Shared} {g₀ : Heap} {mg mb : PySem.Str → Option Value} {p : Program} {loose : List PySem.Str} {mean : ExcName → Option Value}
  {Q E : Value → Shared → Prop}
set_option maxRecDepth 100000 in
set_option maxHeartbeats 4000000 in
theorem boolEnc_ok {n md : Int} {t : Tok} {rep pk : Bool} {Ts : List Addr}
  (X : (Mine.hd.heap_39 w.params).In g₀) (T : Top p loose mean mg mb g₀) (st : g₀.StaysIn s.heap) (hTs : ∀ a ∈ Ts, g₀.get? a = none) (hroom : dp + 80 < recursionLimit) (hun : un + 600 < cLine)
  (C : Codes g₀) (B : ∀ a ∈ baseT, a ∈ Ts) (TI : TabsIn Ts s.heap) (hM : Mode md rep pk)
  (n0 : 0 ≤ n) (n1 : n ≤ 536870911)
  (ret : ∀ f h' tk' Ts', After w g₀ Ts s.heap f h' Ts' md (outOf 8 0 n md) (VlOk 8 1) → Q (.ref f) { s with heap := h', toks := tk' }) :
  wpAny (model PySem.Challenge.rw_ae6018_01.row.prog w) (AR dp un fr gd) (call (.ref 229) [.int n t, .bool rep, .bool pk]) Q E s := by
  revert X
  k_fill
  intro X
  have i1 := base_v B
  have i2 : 224 ∈ Ts := B _ (by simp [baseT])
  obtain ⟨ps, hT, h3, Kn⟩ := TI.at i1
  obtain ⟨pt, hT2, h32, Kn2⟩ := TI.at i2
  have hg := hTs _ i1
  have hg2 := hTs _ i2
  have C1 := C.v
  have C2 := C.bo
  k_dflt (refine' callMC (binds := [(PySem.Str.ofString "field_number", .int n t), (PySem.Str.ofString "is_repeated", .bool rep), (PySem.Str.ofString "is_packed", .bool pk)]) [112, 224] X T st ?hn ?ho ?hcd ?hr ?hb ?hl ?hd ?h1 ?h2 ?h3 ?_)
  walk_at "M enterC"
  intro g L h₁ tk fr' cells En F' Nc Y' X' T' st'
  have N0 : News g L h₁ [(112, tabObj ps), (224, tabObj pt)] := En.news (by simp [hT, hT2])
  have l1 : @LT.lt Nat _ 112 L ∧ @LT.lt Nat _ 224 L := ⟨En.lt _ _ hT, En.lt _ _ hT2⟩
  have C' : CodeHd g 116 112 := C1.keeps st'
  have C2' : CodeHd g 228 224 := C2.keeps st'
  have up : ∀ {c' : Addr} {q : PySem.Str}, s.heap.CodeRec (.ref c') q → g.CodeRec (.ref c') q := fun r => recUp r fun o => En.vis _ o (off2 (recOff hT h3 r) (recOff hT2 h32 r))
  have Kg : Known g ps keyV := (Kn _ .v).imp id fun ⟨c', e, r⟩ => ⟨c', e, up r⟩
  have Kg2 : ∀ k, IsKey k → Known g pt k := fun k hk => (Kn2 k hk).imp id fun ⟨c', e, r⟩ => ⟨c', e, up r⟩
  k_cells Y'
  have N' := newsApp Nc N0
  clear Nc N0 Kn Kn2
  simp only [List.cons_append, List.nil_append] at N'
  show wpAny _ _ _ _ _ _
  (try dsimp only)
  k_fold
  rcases hM with ⟨rfl, rfl, rfl⟩ | ⟨rfl, rfl, rfl⟩ | ⟨rfl, rfl, rfl⟩
  · k_steps
    refine Hold.mk ?_
    k_dflt (refine' kdv_def ?d0 ?k0 ?a0 (kdv_all1 ?_))
    case d0 => rfl
    case k0 => rfl
    case a0 => rfl
    k_steps
    refine Hold.mk ?_
    (rename News _ _ _ _ => N1)
    (rename Fr _ _ _ _ => F1)
    (rename Grow _ _ _ _ => G1)
    k_dflt (refine' makeKK kBo0 ?q1 ?q2 ?q3 F1 N1 T' C2' ?cd ?U h32 ?kn ?cl ?_)
    case cd => rfl
    case U => k_updF
    case q1 => kernel_rfl
    case q2 => rfl
    case q3 => rfl
    case kn => exact Kg2 _ IsKey.bo0
    case cl => rfl
    intro f c' ctv doc h' tk ps2 CO2 F2 N2 G2 R2 lt2 co2 nco2
    have O2 := offNew N1 co2
    (try simp only [List.cons_append, List.nil_append] at N2)
    clear N1 F1
    k_steps
    (rename News _ _ _ _ => N3)
    (rename Fr _ _ _ _ => F3)
    (rename Obj.data _ = Data.cell (some (Value.bytes _ _)) => dT)
    revert dT
    (rename Obj.data _ = Data.cell (some (Value.bytes _ _)) => dY)
    revert dY
    (rename Obj.data _ = Data.cell (some (Value.bytes _ _)) => dN)
    intro dY dT
    (rename KBw.bInts _ = vi _ => hB)
    (rename Array UInt8 => bT)
    dsimp only
    refine ret f _ _ Ts ⟨flatDone TI i1 i2 (by decide) hT hT2 En F3 N3 (by k_mem) (by k_mem) G1 G2 (fun q hq => by simp [hq]) (fun q hq => by simp [hq]) .bo0 (show ¬ ((8 : Nat) = 4) by decide), FnAt.of N3 (List.Mem.head _), ?_⟩
    have R3 := G2.code (Kg2 _ IsKey.bo0) F3 (fun q hq => (N3 q (by simp [hq])).1)
    have nT := (N3 (L + 1 + 1 + 1, _) (by k_mem)).1
    have nY := (N3 (L + 1 + 1 + 1 + 1, _) (by k_mem)).1
    have nN := (N3 (L + 1, _) (by k_mem)).1
    have nD := (N3 (_, kdv_tup [Value.none]) (by k_mem)).1
    k_dflt (refine' madeOf (n1 := PySem.Str.ofString "write") (n2 := PySem.Str.ofString "value") (n3 := PySem.Str.ofString "unused_deterministic") X T (fun a o e => F3.keep _ _ (st' _ _ e)) (N3 _ (List.Mem.head _)).1 R3 _ (need1 nD Mut.noDv (need1 nT (Mut.noCell dT) (need1 nY (Mut.noCell dY) (need1 nN (Mut.noCell dN) need0)))) ?bind ?l1 ?l2 ?l3 ?cell ?e1 ?e2 ?e3 ?run)
    walk_at "M madeD"
    case run =>
      intro dp2 un2 fr2 gd2 s2 Q2 l u vs ks n2 xs x dv g2 L2 h2 tk2 W O hz hV hok h4 hr hu ret2 En2 hneed F4 N4 X4 T4
      have c1 := hneed _ (List.Mem.head _)
      have c2 := hneed _ (List.Mem.tail _ (List.Mem.head _))
      have c3 := hneed _ (List.Mem.tail _ (List.Mem.tail _ (List.Mem.head _)))
      have c4 := hneed _ (List.Mem.tail _ (List.Mem.tail _ (List.Mem.tail _ (List.Mem.head _))))
      clear N3 F3 nT nY nN hneed TI
      rcases hV with ⟨_, v, tv, rfl, rfl⟩ | ⟨m0, _⟩
      · have hv := hok v (List.Mem.head _)
        cases v with
        | int i => exact absurd rfl hv.1
        | str y => exact absurd hv.1 (by decide)
        | byt b => exact absurd hv.1 (by decide)
        | bool b =>
          dsimp only [Vl.at] at *
          cases b
          · k_steps
            (rename Oct _ _ => O9)
            (rename News _ _ _ _ => N9)
            (rename Fr _ _ _ _ => F9)
            have e : ks ++ outOf 8 0 n 0 [Vl.bool false] = ks ++ KBw.bInts bT ++ [0] := by
              rw [hB, outN (by decide)]; simp [tagged, bare, bI0, bI1]
            exact ret2 _ _ _ _ _ (by rw [e]; exact O9) (by omega) (En2.back F9) (N9 _ (List.Mem.head _)).1
          · k_steps
            (rename Oct _ _ => O9)
            (rename News _ _ _ _ => N9)
            (rename Fr _ _ _ _ => F9)
            have e : ks ++ outOf 8 0 n 0 [Vl.bool true] = ks ++ KBw.bInts bT ++ [1] := by
              rw [hB, outN (by decide)]; simp [tagged, bare, bI0, bI1]
            exact ret2 _ _ _ _ _ (by rw [e]; exact O9) (by omega) (En2.back F9) (N9 _ (List.Mem.head _)).1
      · exact absurd rfl m0
  · k_steps
    refine Hold.mk ?_
    k_dflt (refine' kdv_def ?d0 ?k0 ?a0 (kdv_all1 ?_))
    case d0 => rfl
    case k0 => rfl
    case a0 => rfl
    k_steps
    refine Hold.mk ?_
    (rename News _ _ _ _ => N1)
    (rename Fr _ _ _ _ => F1)
    (rename Grow _ _ _ _ => G1)
    k_dflt (refine' makeKK kBo1 ?q1 ?q2 ?q3 F1 N1 T' C2' ?cd ?U h32 ?kn ?cl ?_)
    case cd => rfl
    case U => k_updF
    case q1 => kernel_rfl
    case q2 => rfl
    case q3 => rfl
    case kn => exact Kg2 _ IsKey.bo1
    case cl => rfl
    intro f c' ctv doc h' tk ps2 CO2 F2 N2 G2 R2 lt2 co2 nco2
    have O2 := offNew N1 co2
    (try simp only [List.cons_append, List.nil_append] at N2)
    clear N1 F1
    k_steps
    (rename News _ _ _ _ => N3)
    (rename Fr _ _ _ _ => F3)
    (rename Obj.data _ = Data.cell (some (Value.bytes _ _)) => dT)
    revert dT
    (rename Obj.data _ = Data.cell (some (Value.bytes _ _)) => dY)
    revert dY
    (rename Obj.data _ = Data.cell (some (Value.bytes _ _)) => dN)
    intro dY dT
    (rename KBw.bInts _ = vi _ => hB)
    (rename Array UInt8 => bT)
    dsimp only
    refine ret f _ _ Ts ⟨flatDone TI i1 i2 (by decide) hT hT2 En F3 N3 (by k_mem) (by k_mem) G1 G2 (fun q hq => by simp [hq]) (fun q hq => by simp [hq]) .bo1 (show ¬ ((8 : Nat) = 4) by decide), FnAt.of N3 (List.Mem.head _), ?_⟩
    have R3 := G2.code (Kg2 _ IsKey.bo1) F3 (fun q hq => (N3 q (by simp [hq])).1)
    have nT := (N3 (L + 1 + 1 + 1, _) (by k_mem)).1
    have nY := (N3 (L + 1 + 1 + 1 + 1, _) (by k_mem)).1
    have nN := (N3 (L + 1, _) (by k_mem)).1
    have nD := (N3 (_, kdv_tup [Value.none]) (by k_mem)).1
    k_dflt (refine' madeOf (n1 := PySem.Str.ofString "write") (n2 := PySem.Str.ofString "value") (n3 := PySem.Str.ofString "unused_deterministic") X T (fun a o e => F3.keep _ _ (st' _ _ e)) (N3 _ (List.Mem.head _)).1 R3 _ (need1 nD Mut.noDv (need1 nT (Mut.noCell dT) (need1 nY (Mut.noCell dY) (need1 nN (Mut.noCell dN) need0)))) ?bind ?l1 ?l2 ?l3 ?cell ?e1 ?e2 ?e3 ?run)
    walk_at "M madeD"
    case run =>
      intro dp2 un2 fr2 gd2 s2 Q2 l u vs ks n2 xs x dv g2 L2 h2 tk2 W O hz hV hok h4 hr hu ret2 En2 hneed F4 N4 X4 T4
      have c1 := hneed _ (List.Mem.head _)
      have c2 := hneed _ (List.Mem.tail _ (List.Mem.head _))
      have c3 := hneed _ (List.Mem.tail _ (List.Mem.tail _ (List.Mem.head _)))
      have c4 := hneed _ (List.Mem.tail _ (List.Mem.tail _ (List.Mem.tail _ (List.Mem.head _))))
      clear N3 F3 nT nY nN hneed TI
      rcases hV with ⟨m0, _⟩ | ⟨_, lv, ys, kk, rfl, hlv, hys⟩
      · exact absurd m0 (by decide)
      · k_steps
        refine Hold.mk ?_
        (rename News _ _ _ _ => N5)
        (rename Fr _ _ _ _ => F5)
        (rename Oct _ _ => O5)
        k_dflt (refine' For_invV g2 ?a1 ?a2 ?_ ?a3 ?a4)
        case a1 => rfl
        case a2 => rfl
        case a3 => intro _; with_unfolding_all rfl
        case a4 => exact passes_noE
        k_steps
        refine Hold.mk ?_
        k_dflt (refine' for_oct (tagged 8 0 n) 12 [(PySem.Str.ofString "write", .ref u)] (all1 neWE) ?b1 hlv hys h4 F5 N5 O5 ?b7 ?_ ?_)
        case b1 => rfl
        case b7 => exact all1 lkWu
        · intro i y ty m₁ h tk own vs3 n3 hi hyi hO3 hz3 hc2 hm F7 N7
          have hy := hok y (List.mem_of_getElem? hyi)
          clear F5 N5 O5
          cases y with
          | int i => exact absurd rfl hy.1
          | str y => exact absurd hy.1 (by decide)
          | byt b => exact absurd hy.1 (by decide)
          | bool b =>
            dsimp only [Vl.at] at *
            cases b
            · k_steps
              (rename Oct _ _ => O9)
              (rename News _ _ _ _ => N9)
              (rename Fr _ _ _ _ => F9)
              exact octStep hyi O9 (by rw [hB]; simp [tagged, bare, bI0, bI1]) (by omega) (kstAll hm) F9 N9
            · k_steps
              (rename Oct _ _ => O9)
              (rename News _ _ _ _ => N9)
              (rename Fr _ _ _ _ => F9)
              exact octStep hyi O9 (by rw [hB]; simp [tagged, bare, bI0, bI1]) (by omega) (kstAll hm) F9 N9
        · intro m₁ h tk vs3 n3 hO3 hz3 hm F7 N7
          clear F5 N5 O5
          k_steps
          (rename News _ _ _ _ => N9)
          (rename Fr _ _ _ _ => F9)
          exact ret2 _ _ _ _ _ (by rw [outN (by decide)]; exact hO3) (by omega) (En2.back F9) (N9 _ (List.Mem.head _)).1
  · k_steps
    refine Hold.mk ?_
    (rename News _ _ _ _ => N1)
    (rename Fr _ _ _ _ => F1)
    (rename Grow _ _ _ _ => G1)
    k_dflt (refine' nestDef_K ?d0 ?k0 ?a0 (mkPlain (makeKK kBo2 ?q1 ?q2 ?q3 F1 N1 T' C2' ?cd ?U h32 ?kn ?cl ?_)))
    case d0 => rfl
    case k0 => rfl
    case a0 => rfl
    case cd => rfl
    case U => k_updF
    case q1 => kernel_rfl
    case q2 => rfl
    case q3 => rfl
    case kn => exact Kg2 _ IsKey.bo2
    case cl => rfl
    intro f c' ctv doc h' tk ps2 CO2 F2 N2 G2 R2 lt2 co2 nco2
    have O2 := offNew N1 co2
    (try simp only [List.cons_append, List.nil_append] at N2)
    clear N1 F1
    k_steps
    (rename News _ _ _ _ => N3)
    (rename Fr _ _ _ _ => F3)
    (rename Obj.data _ = Data.cell (some (Value.ref 102)) => dL)
    (rename Obj.data _ = Data.cell (some (Value.bytes _ _)) => dT)
    revert dT
    (rename Obj.data _ = Data.cell (some (Value.bytes _ _)) => dY)
    revert dY
    (rename Obj.data _ = Data.cell (some (Value.bytes _ _)) => dN)
    intro dY dT
    (rename KBw.bInts _ = vi _ => hB)
    (rename Array UInt8 => bT)
    dsimp only
    refine ret f _ _ Ts ⟨flatDone TI i1 i2 (by decide) hT hT2 En F3 N3 (by k_mem) (by k_mem) G1 G2 (fun q hq => by simp [hq]) (fun q hq => by simp [hq]) .bo2 (show ¬ ((8 : Nat) = 4) by decide), FnAt.of N3 (List.Mem.head _), ?_⟩
    have R3 := G2.code (Kg2 _ IsKey.bo2) F3 (fun q hq => (N3 q (by simp [hq])).1)
    have nT := (N3 (L + 1 + 1 + 1, _) (by k_mem)).1
    have nY := (N3 (L + 1 + 1 + 1 + 1, _) (by k_mem)).1
    have nN := (N3 (L + 1, _) (by k_mem)).1
    have nL := (N3 (L + 1 + 1, _) (by k_mem)).1
    k_dflt (refine' madeOf (n1 := PySem.Str.ofString "write") (n2 := PySem.Str.ofString "value") (n3 := PySem.Str.ofString "deterministic") X T (fun a o e => F3.keep _ _ (st' _ _ e)) (N3 _ (List.Mem.head _)).1 R3 _ (need1 nL (Mut.noCell dL) (need1 nT (Mut.noCell dT) (need1 nY (Mut.noCell dY) (need1 nN (Mut.noCell dN) need0)))) ?bind ?l1 ?l2 ?l3 ?cell ?e1 ?e2 ?e3 ?run)
    walk_at "M made"
    case run =>
      intro dp2 un2 fr2 gd2 s2 Q2 l u vs ks n2 xs x dv g2 L2 h2 tk2 W O hz hV hok h4 hr hu ret2 En2 hneed F4 N4 X4 T4
      have c1 := hneed _ (List.Mem.head _)
      have c2 := hneed _ (List.Mem.tail _ (List.Mem.head _))
      have c3 := hneed _ (List.Mem.tail _ (List.Mem.tail _ (List.Mem.head _)))
      have c4 := hneed _ (List.Mem.tail _ (List.Mem.tail _ (List.Mem.tail _ (List.Mem.head _))))
      clear N3 F3 nT nY nN hneed TI
      rcases hV with ⟨m0, _⟩ | ⟨_, lv, ys, kk, rfl, hlv, hys⟩
      · exact absurd m0 (by decide)
      · have hIs : g2.IsList lv ys.toArray := IsL.isList hlv
        have hyl := hys.length
        have hfl := flat8 hok
        k_steps
        refine Hold.mk ?_
        (rename News _ _ _ _ => N5)
        (rename Fr _ _ _ _ => F5)
        (rename Oct _ _ => O5)
        k_dflt (refine' For_invV g2 ?a1 ?a2 ?_ ?a3 ?a4)
        case a1 => rfl
        case a2 => rfl
        case a3 => intro _; with_unfolding_all rfl
        case a4 => exact passes_noE
        k_steps
        refine Hold.mk ?_
        k_dflt (refine' for_oct (bare 8) 12 [(PySem.Str.ofString "write", .ref u)] (all1 neWE) ?b1 hlv hys h4 F5 N5 O5 ?b7 ?_ ?_)
        case b1 => rfl
        case b7 => exact all1 lkW
        · intro i y ty m₁ h tk own vs3 n3 hi hyi hO3 hz3 hc2 hm F7 N7
          have hy := hok y (List.mem_of_getElem? hyi)
          clear F5 N5 O5
          cases y with
          | int i => exact absurd rfl hy.1
          | str y => exact absurd hy.1 (by decide)
          | byt b => exact absurd hy.1 (by decide)
          | bool b =>
            dsimp only [Vl.at] at *
            cases b
            · k_steps
              (rename Oct _ _ => O9)
              (rename News _ _ _ _ => N9)
              (rename Fr _ _ _ _ => F9)
              exact octStep hyi O9 (by simp [bare, bI0, bI1]) (by omega) (kstAll hm) F9 N9
            · k_steps
              (rename Oct _ _ => O9)
              (rename News _ _ _ _ => N9)
              (rename Fr _ _ _ _ => F9)
              exact octStep hyi O9 (by simp [bare, bI0, bI1]) (by omega) (kstAll hm) F9 N9
        · intro m₁ h tk vs3 n3 hO3 hz3 hm F7 N7
          clear F5 N5 O5
          k_steps
          (rename News _ _ _ _ => N9)
          (rename Fr _ _ _ _ => F9)
          exact ret2 _ _ _ _ _ (by have e : outOf 8 0 n 2 xs = KBw.bInts bT ++ vi ((ys.length : Nat) : Int).toNat ++ xs.flatMap (bare 8) := (by rw [out2, hB, hfl, hyl, Int.toNat_natCast]); rw [e]; simpa using hO3) (by omega) (En2.back F9) (N9 _ (List.Mem.head _)).1
end

theorem part29 : True := by
  w_top off
  trivial
theorem fnUp {q : Addr} {h h' : Heap} (x : FnAt q h) (u : ∀ o, h.get? q = some o → h'.get? q = some o) : FnAt q h' := let ⟨oc, od, fd, sl, e⟩ := x; ⟨oc, od, fd, sl, u _ e⟩
section
variable {M : Model} {A : Around} {E : Value → Shared → Prop} {s : Shared} {g : Heap} {L : Addr} {m : PySem.Str → Option Value}
theorem callWith_fn {q : Addr} {pos : Pos} {env : Env} {e : Expr} {rest : List Expr} {Q : Value → Shared → Prop} (F : Fr g L s.heap m) (hq : FnAt q g)
    (h : wpAny M A (spliced (backTo pos (starEach (e :: rest) env))) (fun vs s₁ => Heap.StaysIn g s₁.heap ∧ wpAny M A (call (.ref q) vs) Q E s₁) E s)
    (he : starEach (e :: rest) env = (false, eval e env) :: starEach rest env := by rfl) (hplain : (backTo pos (starEach rest env)).any (·.1) = false := by rfl) :
    wpAny M A (callWith pos (.ref q) [] (backTo pos (starEach (e :: rest) env)) []) Q E s :=
  callWith_F (first := []) (fnUp hq fun _ => F.keep _ _) (wpAny_mono h (fun _ _ h₁ => ⟨fnUp hq fun _ => h₁.1 _ _, h₁.2⟩) fun _ _ x => x) he hplain
end
/-- what a def does that writes an int -/
structure EvUse (w : World) (ev : Addr) (R : Int → Prop) (f : Int → List Int) : Prop where
  fn : ∀ {g : Heap}, (Mine.hd.heap_39 w.params).In g → FnAt ev g
  run : ∀ {dp un : Nat} {fr : Option (List Env)} {gd : Option (List Code)} {s : Shared} {g : Heap} {L : Addr} {m mg mb : PySem.Str → Option Value} {p : Program} {loose : List PySem.Str} {mean : ExcName → Option Value} {Q E : Value → Shared → Prop}
    {l u : Addr} {H : Heap} {vs : List Value} {ks : List Int} {n : Nat} {v : Int} {t : Tok} {dv : Value} {news rest : List (Addr × Obj)},
    Fr g L s.heap m → (Mine.hd.heap_39 w.params).In g → Top p loose mean mg mb g → News g L s.heap news → Wr w H l u → Kp [l] H s.heap → Oct vs ks → (l, PySem.W.listOf vs.toArray n) ∈ news → Sep [l] news rest → vs.length < 90000 → R v → dp + 30 < recursionLimit → un + 200 < cLine →
    (∀ vs' n' h' tk', Oct vs' (ks ++ f v) → vs'.length ≤ vs.length + 10 → Fr g L h' m → News g L h' ((l, PySem.W.listOf vs'.toArray n') :: rest) → Q .none { s with heap := h', toks := tk' }) →
    wpAny (model PySem.Challenge.rw_ae6018_01.row.prog w) (AR dp un fr gd) (call (.ref ev) [.ref u, .int v t, dv]) Q E s
/-- what a def does that tells an int from an int, and turns nothing -/
structure FnUse (w : World) (sv : Addr) (R : Int → Prop) (f : Int → Int) : Prop where
  fn : ∀ {g : Heap}, (Mine.hd.heap_39 w.params).In g → FnAt sv g
  run : ∀ {dp un : Nat} {fr : Option (List Env)} {gd : Option (List Code)} {s : Shared} {g : Heap} {L : Addr} {m mg mb : PySem.Str → Option Value} {p : Program} {loose : List PySem.Str} {mean : ExcName → Option Value} {Q E : Value → Shared → Prop}
    {v : Int} {t : Tok} {news : List (Addr × Obj)},
    Fr g L s.heap m → (Mine.hd.heap_39 w.params).In g → Top p loose mean mg mb g → News g L s.heap news → R v → dp + 30 < recursionLimit → un + 200 < cLine →
    (∀ t' h' tk', Fr g L h' m → News g L h' news → Q (.int (f v) t') { s with heap := h', toks := tk' }) →
    wpAny (model PySem.Challenge.rw_ae6018_01.row.prog w) (AR dp un fr gd) (call (.ref sv) [.int v t]) Q E s
def RgU (v : Int) : Prop := 0 ≤ v ∧ v < 18446744073709551616
def RgS (v : Int) : Prop := -9223372036854775808 ≤ v ∧ v < 9223372036854775808
abbrev viM (v : Int) : List Int := vi (v % 18446744073709551616).toNat
theorem modU {v : Int} (h : RgU v) : v % 18446744073709551616 = v := by have := h.1; have := h.2; omega
theorem viMU {v : Int} (h : RgU v) : viM v = vi v.toNat := by rw [show viM v = vi (v % 18446744073709551616).toNat from rfl, modU h]
/-- a def of the written part -/
theorem fnIn {q : Addr} {oc : Value} {od : Option Addr} {fd : FuncData} {sl : Array (Option Value)} {K : Frag} {g : Heap} (X : K.In g) (h : K.lookup q = some ⟨oc, od, .func fd, sl⟩) : FnAt q g := ⟨oc, od, fd, sl, X _ _ h⟩
theorem fnAll {w : World} {g : Heap} : PySem.Challenge.rw_ae6018_01 = PySem.Challenge.rw_ae6018_01 → (Mine.hd.heap_39 w.params).In g → FnAt 102 g ∧ FnAt 110 g ∧ FnAt 87 g ∧ FnAt 94 g ∧ FnAt 80 g := by
  k_fill
  intro _ X
  exact ⟨fnIn (K := Mine.hd.heap_39 w.params) X (by k_is), fnIn (K := Mine.hd.heap_39 w.params) X (by k_is), fnIn (K := Mine.hd.heap_39 w.params) X (by k_is), fnIn (K := Mine.hd.heap_39 w.params) X (by k_is), fnIn (K := Mine.hd.heap_39 w.params) X (by k_is)⟩
theorem ev102 {w : World} : EvUse w 102 RgU viM where
  fn := fun X => (fnAll rfl X).1
  run := fun F X T N W k hO ml S hz R hr hu ret => encV_use2 F X T N W k hO ml S hz R.1 (by have := R.2; omega) hr hu fun vs' n' h' tk' O z F' N' => ret vs' n' h' tk' (by rw [viMU R]; exact O) z F' N'
theorem ev110 {w : World} : EvUse w 110 RgS viM where
  fn := fun X => (fnAll rfl X).2.1
  run := fun {dp un fr gd s g L m mg mb p loose mean Q E l u H vs ks n v t dv news rest} F X T N W k hO ml S hz R hr hu ret =>
    encS_ok X T F.keep (N _ ml).2.2 hr hu (W.mono k) (N _ ml).1 hO hz R.1 (by have := R.2; omega) fun vs' n' h' tk' a b k e =>
      let ⟨F', N'⟩ := oneBack F N ml S k e
      ret vs' n' h' tk' a b F' N'
theorem sv87 {w : World} : FnUse w 87 RgU (fun v => ((viM v).length : Int)) where
  fn := fun X => (fnAll rfl X).2.2.1
  run := fun F X T N R hr hu ret => vsize_ok X T F.keep hr hu R.1 R.2 fun z t' h' tk' hz k => by
    rw [hz, ← viMU R]; exact ret t' h' tk' (frKp0 F k) (newsKp0 N k)
theorem sv94 {w : World} : FnUse w 94 RgS (fun v => ((viM v).length : Int)) where
  fn := fun X => (fnAll rfl X).2.2.2.1
  run := fun F X T N R hr hu ret => ssize_ok X T F.keep hr hu R.1 R.2 fun z t' h' tk' hz k => by
    rw [hz]; exact ret t' h' tk' (frKp0 F k) (newsKp0 N k)
theorem zz80 {w : World} : FnUse w 80 RgS zz where
  fn := fun X => (fnAll rfl X).2.2.2.2
  run := fun F X T N R hr hu ret => zigzag_ok X T F.keep hr hu R.1 R.2 fun z t' h' tk' hz k => by
    rw [hz]; exact ret t' h' tk' (frKp0 F k) (newsKp0 N k)
/-- what a maker of encoders does -/
def SpecF (w : World) (g₀ : Heap) (h' : Heap) (Ts : List Addr) (f : Addr) (kd wi bi : Int) : Prop :=
  ∀ {dp un : Nat} {fr : Option (List Env)} {gd : Option (List Code)} {s : Shared} {Q E : Value → Shared → Prop} {n md : Int} {t : Tok} {rep pk : Bool}, s.heap = h' → dp + 80 < recursionLimit → un + 600 < cLine → Mode md rep pk → 0 ≤ n → n ≤ 536870911 →
    (∀ f2 h2 tk2 Ts2, After w g₀ Ts h' f2 h2 Ts2 md (outOf kd wi n md) (VlOk kd bi) → Q (.ref f2) { s with heap := h2, toks := tk2 }) →
    wpAny (model PySem.Challenge.rw_ae6018_01.row.prog w) (AR dp un fr gd) (call (.ref f) [.int n t, .bool rep, .bool pk]) Q E s
/-- the state of a loop that sums lengths -/
def JSum (l : Addr) (o : Obj) (f : Vl → List Int) (xs : List Vl) (sz : PySem.Str) (qs : List (PySem.Str × Value)) (i : Nat) (m : PySem.Str → Option Value) (nx : List (Addr × Obj)) : Prop :=
  nx = [(l, o)] ∧ (∃ t, m sz = some (.int (((xs.take i).flatMap f).length : Nat) t)) ∧ ∀ q ∈ qs, m q.1 = some q.2
theorem sumStep {g h : Heap} {L l : Addr} {o : Obj} {f : Vl → List Int} {xs : List Vl} {i : Nat} {sz : PySem.Str} {z : Int} {t : Tok} {qs : List (PySem.Str × Value)} {m : PySem.Str → Option Value} {own : List (Addr × Obj)} {y : Vl} {s : Shared} {tk : Nat}
    (F : Fr g L h m) (N : News g L h ((l, o) :: own)) (hy : xs[i]? = some y) (hs : m sz = some (.int z t)) (e : z = (((xs.take i).flatMap f).length : Nat) + ((f y).length : Nat)) (hq : ∀ q ∈ qs, m q.1 = some q.2) :
    InvEndN g L (JSum l o f xs sz qs (i + 1)) own [l] s { s with heap := h, toks := tk } := by
  refine ⟨h, tk, m, _, [(l, o)], rfl, F, N, fun p hp => ?_, fun p hp => .tail _ hp, rfl, rfl, ⟨t, ?_⟩, hq⟩
  · rw [List.mem_singleton.mp hp]; exact .head _
  · rw [hs, e, List.take_add_one, hy, List.flatMap_append]
    simp
section
variable {prog : Program} {w : World} {A : Around} {g : Heap} {env : Env} {s : Shared} {x sz : PySem.Str} {m : PySem.Str → Option Value} {body : List Stmt} {Qf : Flow → Shared → Prop} {E : Value → Shared → Prop}
theorem for_sum {l lv : Addr} {o : Obj} {ys : List Value} {xs : List Vl} {kk : Nat} (f : Vl → List Int) (sz : PySem.Str) (qs : List (PySem.Str × Value)) (hsx : ¬ (sz = x)) (hne : ∀ q ∈ qs, ¬ (q.1 = x)) (hh : A.handled = none)
    (hlv : g.get? lv = some (PySem.W.listOf ys.toArray kk)) (hys : VsAt ys xs) (h4 : xs.length ≤ 4)
    (F : Fr g env.locals s.heap m) (N : News g env.locals s.heap [(l, o)]) (hs : ∃ t, m sz = some (.int 0 t)) (hq : ∀ q ∈ qs, m q.1 = some q.2)
    (turn : ∀ i y ty (m₁ : PySem.Str → Option Value) h tk own k tz, i < 4 → xs[i]? = some y → k = ((((xs.take i).flatMap f).length : Nat) : Int) → (∀ p ∈ own, p.1 ∉ [l]) →
      (∀ q ∈ (x, y.at ty) :: (sz, .int k tz) :: qs, (fun z => if z = x then some (y.at ty) else m₁ z) q.1 = some q.2) →
      Fr g env.locals h (kstB (fun z => if z = x then some (y.at ty) else m₁ z) ((x, y.at ty) :: (sz, .int k tz) :: qs)) → News g env.locals h ((l, o) :: own) →
      wpAny (model prog w) A (execs body env) (InvPostN g env.locals (JSum l o f xs sz qs (i + 1)) own [l] { s with heap := h, toks := tk } Qf) E { s with heap := h, toks := tk })
    (done : ∀ m₁ h tk tz, (∀ q ∈ (sz, .int (((xs.flatMap f).length : Nat) : Int) tz) :: qs, m₁ q.1 = some q.2) → Fr g env.locals h m₁ → News g env.locals h [(l, o)] → Qf .next { s with heap := h, toks := tk }) :
    wpAny (model prog w) A (pyIter (.ref lv)) (fun it s₂ => LoopAtV prog w A g env x body Qf E it s₂) E s := by
  have hll : ∀ q ∈ [(l, o)], q.1 ≠ lv := fun q hq e => by
    rw [List.mem_singleton.mp hq] at e
    have z := (N _ (.head _)).2.2
    rw [show (l, o).1 = lv from e, hlv] at z; cases z
  refine for_list (JSum l o f xs sz qs) hh (IsL.isList (n := kk) (F.keep _ _ hlv)) (Nat.ne_of_lt (Nat.lt_of_lt_of_le (Heap.lt_size hlv) F.above)) hll F N ⟨rfl, let ⟨t, e⟩ := hs; ⟨t, by simpa using e⟩, hq⟩ ?_ ?_
  · intro i v m₁ news₁ h tk own hi hv hadr hoff ⟨hnx, ⟨tz, hsz⟩, q3⟩ F6 N6
    obtain ⟨y, ty, hyi, rfl⟩ := hys.get hv
    subst hnx
    have hps : ∀ q ∈ (x, Vl.at y ty) :: (sz, Value.int ((((xs.take i).flatMap f).length : Nat) : Int) tz) :: qs, (fun z => if z = x then some (Vl.at y ty) else m₁ z) q.1 = some q.2 := fun q hq => by
      rcases List.mem_cons.mp hq with rfl | hq
      · exact if_pos rfl
      · rcases List.mem_cons.mp hq with rfl | hq
        · exact (if_neg hsx).trans hsz
        · exact (if_neg (hne q hq)).trans (q3 q hq)
    exact turn i y ty m₁ h tk own _ tz (by have := hys.length; omega) hyi rfl (fun p hp => off1 (hoff p hp l (by simp))) hps (frSets F6 hps) N6
  · intro m₁ news₁ h tk ⟨hnx, ⟨tz, hsz⟩, q3⟩ F6 N6
    subst hnx
    rw [hys.length, List.take_length] at hsz
    exact done m₁ h tk tz (List.forall_mem_cons.mpr ⟨hsz, q3⟩) F6 N6
end
/-- an object that is no table -/
theorem TabsIn.ne {Ts : List Addr} {h : Heap} (x : TabsIn Ts h) {a P : Addr} {o : Obj} (hP : P ∈ Ts) (e : h.get? a = some o) (hd : ∀ vs, o.data ≠ .fields vs) : @Ne Nat a P := fun c => by
  obtain ⟨ps, e2, _⟩ := x P hP
  rw [← c, e] at e2; cases e2; exact hd _ rfl
theorem cellNo {o : Obj} {v : Option Value} (h : o.data = .cell v) : ∀ vs, o.data ≠ .fields vs := fun vs e => by rw [h] at e; cases e
theorem funcNo {o : Obj} {fd : FuncData} (h : o.data = .func fd) : ∀ vs, o.data ≠ .fields vs := fun vs e => by rw [h] at e; cases e
theorem loadLocal {M : Model} {A : Around} {E : Value → Shared → Prop} {s : Shared} {g : Heap} {L : Addr} {m : PySem.Str → Option Value} {x : PySem.Str} {v : Value} {Q : Value → Shared → Prop} {cn : PySem.Str} {cs : Scope} {a : Addr} {ccd : Value} {cl : List (PySem.Str × Addr)}
    (F : Fr g L s.heap m) (hv : m x = some v) (h : Q v s) (hk : (envX cn cs L a ccd cl).scope.kind = .function) (hx : (envX cn cs L a ccd cl).kindOf x = some .local) : wpAny M A (loadName (envX cn cs L a ccd cl) x) Q E s := wpAny_loadName_local hk hx F.ns hv h
theorem staysF {g h : Heap} {L : Addr} {m : PySem.Str → Option Value} (F : Fr g L h m) : Heap.StaysIn g h := F.keep
theorem neWS : ¬ (PySem.Str.ofString "write" = PySem.Str.ofString "size") := by decide +kernel
theorem neDS : ¬ (PySem.Str.ofString "deterministic" = PySem.Str.ofString "size") := by decide +kernel
theorem neVS : ¬ (PySem.Str.ofString "value" = PySem.Str.ofString "size") := by decide +kernel
theorem lkV {a b c : Value} : (fun y => [(PySem.Str.ofString "write", a), (PySem.Str.ofString "value", b), (PySem.Str.ofString "deterministic", c)].reverse.lookup y) (PySem.Str.ofString "value") = some b := by
  have h1 : (PySem.Str.ofString "value" == PySem.Str.ofString "deterministic") = false := by decide +kernel
  simp only [List.reverse_cons, List.reverse_nil, List.nil_append, List.cons_append, List.lookup_cons, h1, beq_self_eq_true]
local macro_rules | `(tactic| walk_at "loadName") => `(tactic| ((with_reducible show wpAny _ _ (loadName (envX _ _ _ _ _ _) _) _ _ _); k_dflt (refine' loadLocal ?F ?v ?_ ?a ?b; (case a => rfl); (case b => rfl); (case F => k_asm); (case v => exact rfl); k_whole)))
local macro_rules | `(tactic| walk_at "callWith ref") => `(tactic| ((with_reducible show wpAny _ _ (callWith _ (Value.ref _) [] (backTo _ (starEach (_ :: _) _)) []) _ _ _); k_dflt (refine' callWith_fn ?F ?q ?_ ?h1 ?h2; (case q => with_reducible assumption); (case F => k_asm); (case h1 => rfl); (case h2 => rfl); k_whole)))
local macro_rules | `(tactic| walk_at "And") => `(tactic| ((with_reducible show Heap.StaysIn _ _ ∧ _); refine' And.intro ?k ?_; (case k => k_dflt (exact staysF (by k_asm))); (try dsimp only [List.nil_append, List.cons_append])))
local macro_rules | `(tactic| walk_at "call ref") => `(tactic| ((with_reducible show wpAny _ _ (call (Value.ref _) [Value.ref _, Value.int _ _, _]) _ _ _); k_dflt (refine' EvUse.run ?ev ?F ?X ?T ?N ?W ?k ?O ?ml ?S ?z ?R ?r ?u ?_; (case ev => with_reducible assumption); (case F => k_asm); (case X => k_asm); (case T => k_asm); (case N => k_asm); (case W => with_reducible assumption); (case k => exact Ent.back (by assumption) (by k_asm)); (case O => with_reducible assumption); (case ml => k_mem); (case S => walk_at "M sep"); (case z => omega); (case R => with_reducible assumption); (case r => omega); (case u => omega); k_whole); intro vs' n' h' tk' O' Z' F' N'))
local macro_rules | `(tactic| walk_at "call ref") => `(tactic| ((with_reducible show wpAny _ _ (call (Value.ref _) [Value.int _ _]) _ _ _); k_dflt (refine' FnUse.run ?sv ?F ?X ?T ?N ?R ?r ?u ?_; (case sv => with_reducible assumption); (case F => k_asm); (case X => k_asm); (case T => k_asm); (case N => k_asm); (case R => with_reducible assumption); (case r => omega); (case u => omega); k_whole); intro t' h' tk' F' N'; (try dsimp only)))

theorem part30 : True := by
  w_top off
  trivial
theorem kstAll2 {m : PySem.Str → Option Value} {p p2 : PySem.Str × Value} {qs : List (PySem.Str × Value)} (e : ∀ q ∈ p :: p2 :: qs, m q.1 = some q.2) : ∀ q ∈ qs, kstB m (p :: p2 :: qs) q.1 = some q.2 := fun _ hq => kstAt e (.tail _ (.tail _ hq))
section
variable {w : World} {dp un : Nat} {fr : Option (List Env)} {gd : Option (List Code)} {s : Shared} {g₀ : Heap} {mg mb : PySem.Str → Option Value} {p : Program} {loose : List PySem.Str} {mean : ExcName → Option Value}
  {Q E : Value → Shared → Prop}
set_option maxRecDepth 100000 in
set_option maxHeartbeats 8000000 in
theorem simple_ok {ev sv : Addr} {kd bi : Int} {R : Int → Prop} {t0 : Tok} {Ts : List Addr}
  (X : (Mine.hd.heap_39 w.params).In g₀) (T : Top p loose mean mg mb g₀) (st : g₀.StaysIn s.heap) (hTs : ∀ a ∈ Ts, g₀.get? a = none) (hroom : dp + 80 < recursionLimit) (hun : un + 600 < cLine)
  (C : Codes g₀) (B : ∀ a ∈ baseT, a ∈ Ts) (TI : TabsIn Ts s.heap) (EV : EvUse w ev R viM) (SV : FnUse w sv R (fun v => ((viM v).length : Int)))
  (hk : ∀ y, VlOk kd bi y → ∃ i, y = .int i ∧ R i ∧ bare kd y = viM i)
  (ret : ∀ f h' tk' Ts', Turn Ts s.heap h' Ts' → FnAt f h' → SpecF w g₀ h' Ts' f kd 0 bi → Q (.ref f) { s with heap := h', toks := tk' }) :
  wpAny (model PySem.Challenge.rw_ae6018_01.row.prog w) (AR dp un fr gd) (call (.ref 131) [.int 0 t0, .ref ev, .ref sv]) Q E s := by
  revert X
  k_fill
  intro X
  have i1 := base_v B
  have i2 : 126 ∈ Ts := B _ (by simp [baseT])
  obtain ⟨pt, hT2, h32, Kn2⟩ := TI.at i2
  have hg2 := hTs _ i2
  have C2 := C.si
  k_dflt (refine' callMC (binds := [(PySem.Str.ofString "wire_type", .int 0 t0), (PySem.Str.ofString "encode_value", .ref ev), (PySem.Str.ofString "compute_value_size", .ref sv)]) [126] X T st ?hn ?ho ?hcd ?hr ?hb ?hl ?hd ?h1 ?h2 ?h3 ?_)
  walk_at "M enterC"
  intro g L h₁ tk fr' cells En F' Nc Y' X' T' st'
  have N0 : News g L h₁ [(126, tabObj pt)] := En.news (by simp [hT2])
  have l1 : @LT.lt Nat _ 126 L := En.lt _ _ hT2
  have C2' : CodeHd g 130 126 := C2.keeps st'
  have Kg2 : ∀ k, IsKey k → Known g pt k := fun k hk => (Kn2 k hk).imp id fun ⟨c', e, r⟩ => ⟨c', e, recUp r fun o => En.vis _ o (off1 (recOff hT2 h32 r))⟩
  k_cells Y'
  rename_i oS oE oW dS dE dW
  have eW : oW.data = Data.cell (some (.int 0 t0)) := dW.trans (by kernel_rfl)
  have eE : oE.data = Data.cell (some (.ref ev)) := dE.trans (by kernel_rfl)
  have eS : oS.data = Data.cell (some (.ref sv)) := dS.trans (by kernel_rfl)
  have N' := newsApp Nc N0
  clear Nc N0 Kn2
  simp only [List.cons_append, List.nil_append] at N'
  show wpAny _ _ _ _ _ _
  (try dsimp only)
  k_fold
  k_steps
  refine Hold.mk ?_
  (rename News _ _ _ _ => N1)
  (rename Fr _ _ _ _ => F1)
  k_dflt (refine' nestDef_K ?d0 ?k0 ?a0 (mkPlain (makeKK kSi ?q1 ?q2 ?q3 F1 N1 T' C2' ?cd ?U h32 ?kn ?cl ?_)))
  case d0 => rfl
  case k0 => rfl
  case a0 => rfl
  case cd => rfl
  case U => k_updF
  case q1 => kernel_rfl
  case q2 => rfl
  case q3 => rfl
  case kn => exact Kg2 _ IsKey.si
  case cl => rfl
  intro f c' ctv doc h' tk ps2 CO2 F2 N2 G2 R2 lt2 co2 nco2
  have O2 := offNew N1 co2
  (try simp only [List.cons_append, List.nil_append] at N2)
  have o126 : ∀ q ∈ CO2, q.1 ≠ 126 := OffAll.to O2 (by intro T hT; dsimp only [Off] at hT; omega)
  clear N1 F1
  k_steps
  (rename News _ _ _ _ => N3)
  (rename Fr _ _ _ _ => F3)
  (rename Heap => hE)
  dsimp only
  obtain ⟨Ts', P2, TT, iP2, ne2, CP, RC⟩ := deepDone TI i1 i2 hT2 En F3 N3 (by k_mem) G2 (fun q hq => by simp [hq]) o126 nco2 .si rfl
  have hf := (N3 _ (List.Mem.head _)).1
  have nW := (N3 (L + 1, oW) (by k_mem)).1
  have nE := (N3 (L + 1 + 1, oE) (by k_mem)).1
  have nS := (N3 (L + 1 + 1 + 1, oS) (by k_mem)).1
  have hTs' : ∀ a ∈ Ts', g₀.get? a = none := fun a ha => (TT.new a ha).elim (hTs a) fun e => by
    cases q : g₀.get? a with
    | none => rfl
    | some o => rw [st a o q] at e; cases e
  have stE : g₀.StaysIn hE := fun a o e => F3.keep _ _ (st' _ _ e)
  refine ret f _ _ Ts' TT (FnAt.of N3 (List.Mem.head _)) ?_
  have TI' := TT.tabs
  have j1 : 112 ∈ Ts' := TT.sub _ i1
  (try clear N3)
  (try clear F3)
  (try clear N2)
  (try clear F2)
  (try clear F')
  (try clear G2)
  (try clear TI)
  (try clear Kg2)
  (try clear hT2)
  (try clear nco2)
  (try clear co2)
  (try clear lt2)
  (try clear O2)
  (try clear ret)
  (try clear En)
  (try clear X')
  (try clear T')
  (try clear C2')
  (try clear hroom)
  (try clear hun)
  (try clear st)
  (try clear R2)
  (try clear o126)
  intro dp un fr gd s Q E n md t rep pk hs hroom hun hM n0 n1 ret
  subst hs
  obtain ⟨ps, hT, h3, Kn⟩ := TI'.at j1
  obtain ⟨pt, hT2, h32, Kn2⟩ := TI'.at iP2
  have hg := hTs' _ j1
  have hg2 := hTs' _ iP2
  have C1 := C.v
  have aW := TI'.ne j1 nW (cellNo eW)
  have bW := TI'.ne iP2 nW (cellNo eW)
  have aE := TI'.ne j1 nE (cellNo eE)
  have bE := TI'.ne iP2 nE (cellNo eE)
  have aS := TI'.ne j1 nS (cellNo eS)
  have bS := TI'.ne iP2 nS (cellNo eS)
  have ac : @Ne Nat c' P2 := fun e => recOff hT2 h32 RC (e ▸ rfl)
  have ac1 : @Ne Nat c' 112 := fun e => recOff hT h3 RC (e ▸ rfl)
  k_dflt (refine' callMX (cl := _) (binds := [(PySem.Str.ofString "field_number", .int n t), (PySem.Str.ofString "is_repeated", .bool rep), (PySem.Str.ofString "is_packed", .bool pk)]) [112, P2] X T stE ?hn hf RC ?hr ?hb ?hl ?h1 ?h2 ?h3 ?_)
  case hn => simp [hg, hg2]
  case hr => omega
  case hb => exact BindsTo.of_eq rfl
  case hl => exact locs rfl
  case h1 => rfl
  case h2 => rfl
  case h3 => rfl
  intro g L h₁ tk fr' cells En F' Nc Y' X' T' st'
  have N0 : News g L h₁ [(112, tabObj ps), (P2, tabObj pt)] := En.news (by simp [hT, hT2])
  have l1 : @LT.lt Nat _ 112 L ∧ @LT.lt Nat _ P2 L := ⟨En.lt _ _ hT, En.lt _ _ hT2⟩
  have C' : CodeHd g 116 112 := C1.keeps st'
  have C2' : CodeHd g c' P2 := headUp CP fun o => En.vis _ o (off2 ac1 ac)
  have up : ∀ {c' : Addr} {q : PySem.Str}, s.heap.CodeRec (.ref c') q → g.CodeRec (.ref c') q := fun r => recUp r fun o => En.vis _ o (off2 (recOff hT h3 r) (recOff hT2 h32 r))
  have Kg : Known g ps keyV := (Kn _ .v).imp id fun ⟨c', e, r⟩ => ⟨c', e, up r⟩
  have Kg2 : ∀ k, IsKey k → Known g pt k := fun k hk => (Kn2 k hk).imp id fun ⟨c', e, r⟩ => ⟨c', e, up r⟩
  have gW := En.vis _ _ (off2 aW bW) nW
  have gE := En.vis _ _ (off2 aE bE) nE
  have gS := En.vis _ _ (off2 aS bS) nS
  clear nW nE nS
  k_cells Y'
  have N' := newsApp Nc N0
  clear Nc N0 Kn Kn2
  simp only [List.cons_append, List.nil_append] at N'
  show wpAny _ _ _ _ _ _
  (try dsimp only)
  k_fold
  rcases hM with ⟨rfl, rfl, rfl⟩ | ⟨rfl, rfl, rfl⟩ | ⟨rfl, rfl, rfl⟩
  · k_steps
    refine Hold.mk ?_
    (rename News _ _ _ _ => N1)
    (rename Fr _ _ _ _ => F1)
    (rename Grow _ _ _ _ => G1)
    k_dflt (refine' nestDef_K ?d0 ?k0 ?a0 (mkPlain (makeKK kSi0 ?q1 ?q2 ?q3 F1 N1 T' C2' ?cd ?U h32 ?kn ?cl ?_)))
    case d0 => rfl
    case k0 => rfl
    case a0 => rfl
    case cd => rfl
    case U => k_updF
    case q1 => kernel_rfl
    case q2 => rfl
    case q3 => rfl
    case kn => exact Kg2 _ IsKey.si0
    case cl => rfl
    intro f c2 ctv doc h' tk ps2 CO2 F2 N2 G2 R2 lt2 co2 nco2
    have O2 := offNew N1 co2
    (try simp only [List.cons_append, List.nil_append] at N2)
    clear N1 F1
    k_steps
    (rename News _ _ _ _ => N3)
    (rename Fr _ _ _ _ => F3)
    (rename Obj.data _ = Data.cell (some (Value.bytes _ _)) => dT)
    (rename KBw.bInts _ = vi _ => hB)
    (rename Array UInt8 => bT)
    dsimp only
    refine ret f _ _ Ts' ⟨flatDone TI' j1 iP2 ne2 hT hT2 En F3 N3 (by k_mem) (by k_mem) G1 G2 (fun q hq => by simp [hq]) (fun q hq => by simp [hq]) .si0 (show ¬ ((12 : Nat) = 4) by decide), FnAt.of N3 (List.Mem.head _), ?_⟩
    have R3 := G2.code (Kg2 _ IsKey.si0) F3 (fun q hq => (N3 q (by simp [hq])).1)
    have nT := (N3 (L + 1 + 1, _) (by k_mem)).1
    k_dflt (refine' madeOf (n1 := PySem.Str.ofString "write") (n2 := PySem.Str.ofString "value") (n3 := PySem.Str.ofString "deterministic") X T (fun a o e => F3.keep _ _ (st' _ _ e)) (N3 _ (List.Mem.head _)).1 R3 _ (need1 nT (Mut.noCell dT) (need1 (F3.keep _ _ gE) (Mut.noCell eE) need0)) ?bind ?l1 ?l2 ?l3 ?cell ?e1 ?e2 ?e3 ?run)
    walk_at "M made"
    case run =>
      intro dp2 un2 fr2 gd2 s2 Q2 l u vs ks n2 xs x dv g2 L2 h2 tk2 W O hz hV hok h4 hr hu ret2 En2 hneed F4 N4 X4 T4
      have c1 := hneed _ (List.Mem.head _)
      have c2 := hneed _ (List.Mem.tail _ (List.Mem.head _))
      have EVf := EV.fn X4
      clear N3 F3 nT hneed TI' 
      rcases hV with ⟨_, v, tv, rfl, rfl⟩ | ⟨m0, _⟩
      · have hv := hok v (List.Mem.head _)
        obtain ⟨i, rfl, hR, hb⟩ := hk _ hv
        dsimp only [Vl.at] at *
        k_steps
        (rename Oct _ _ => O9)
        (rename News _ _ _ _ => N9)
        (rename Fr _ _ _ _ => F9)
        have e : ks ++ outOf kd 0 n 0 [Vl.int i] = ks ++ KBw.bInts bT ++ viM i := by
          rw [hB, outN (by decide)]; simp [tagged, hb]
        exact ret2 _ _ _ _ _ (by rw [e]; exact O9) (by omega) (En2.back F9) (N9 _ (List.Mem.head _)).1
      · exact absurd rfl m0
  · k_steps
    refine Hold.mk ?_
    (rename News _ _ _ _ => N1)
    (rename Fr _ _ _ _ => F1)
    (rename Grow _ _ _ _ => G1)
    k_dflt (refine' nestDef_K ?d0 ?k0 ?a0 (mkPlain (makeKK kSi1 ?q1 ?q2 ?q3 F1 N1 T' C2' ?cd ?U h32 ?kn ?cl ?_)))
    case d0 => rfl
    case k0 => rfl
    case a0 => rfl
    case cd => rfl
    case U => k_updF
    case q1 => kernel_rfl
    case q2 => rfl
    case q3 => rfl
    case kn => exact Kg2 _ IsKey.si1
    case cl => rfl
    intro f c2 ctv doc h' tk ps2 CO2 F2 N2 G2 R2 lt2 co2 nco2
    have O2 := offNew N1 co2
    (try simp only [List.cons_append, List.nil_append] at N2)
    clear N1 F1
    k_steps
    (rename News _ _ _ _ => N3)
    (rename Fr _ _ _ _ => F3)
    (rename Obj.data _ = Data.cell (some (Value.bytes _ _)) => dT)
    (rename KBw.bInts _ = vi _ => hB)
    (rename Array UInt8 => bT)
    dsimp only
    refine ret f _ _ Ts' ⟨flatDone TI' j1 iP2 ne2 hT hT2 En F3 N3 (by k_mem) (by k_mem) G1 G2 (fun q hq => by simp [hq]) (fun q hq => by simp [hq]) .si1 (show ¬ ((12 : Nat) = 4) by decide), FnAt.of N3 (List.Mem.head _), ?_⟩
    have R3 := G2.code (Kg2 _ IsKey.si1) F3 (fun q hq => (N3 q (by simp [hq])).1)
    have nT := (N3 (L + 1 + 1, _) (by k_mem)).1
    k_dflt (refine' madeOf (n1 := PySem.Str.ofString "write") (n2 := PySem.Str.ofString "value") (n3 := PySem.Str.ofString "deterministic") X T (fun a o e => F3.keep _ _ (st' _ _ e)) (N3 _ (List.Mem.head _)).1 R3 _ (need1 nT (Mut.noCell dT) (need1 (F3.keep _ _ gE) (Mut.noCell eE) need0)) ?bind ?l1 ?l2 ?l3 ?cell ?e1 ?e2 ?e3 ?run)
    walk_at "M made"
    case run =>
      intro dp2 un2 fr2 gd2 s2 Q2 l u vs ks n2 xs x dv g2 L2 h2 tk2 W O hz hV hok h4 hr hu ret2 En2 hneed F4 N4 X4 T4
      have c1 := hneed _ (List.Mem.head _)
      have c2 := hneed _ (List.Mem.tail _ (List.Mem.head _))
      have EVf := EV.fn X4
      clear N3 F3 nT hneed TI' 
      rcases hV with ⟨m0, _⟩ | ⟨_, lv, ys, kk, rfl, hlv, hys⟩
      · exact absurd m0 (by decide)
      · k_steps
        refine Hold.mk ?_
        (rename News _ _ _ _ => N5)
        (rename Fr _ _ _ _ => F5)
        (rename Oct _ _ => O5)
        k_dflt (refine' For_invV g2 ?a1 ?a2 ?_ ?a3 ?a4)
        case a1 => rfl
        case a2 => rfl
        case a3 => intro _; with_unfolding_all rfl
        case a4 => exact passes_noE
        k_steps
        refine Hold.mk ?_
        k_dflt (refine' for_oct (tagged kd 0 n) 12 [(PySem.Str.ofString "write", .ref u), (PySem.Str.ofString "deterministic", dv)] (all2 neWE neDE) ?b1 hlv hys h4 F5 N5 O5 ?b7 ?_ ?_)
        case b1 => rfl
        case b7 => exact all2 lkW lkD
        · intro i0 y ty m₁ h tk own vs3 n3 hi hyi hO3 hz3 hc2 hm F7 N7
          have hy := hok y (List.mem_of_getElem? hyi)
          clear F5 N5 O5
          obtain ⟨i, rfl, hR, hb⟩ := hk _ hy
          dsimp only [Vl.at] at *
          k_steps
          (rename Oct _ _ => O9)
          (rename News _ _ _ _ => N9)
          (rename Fr _ _ _ _ => F9)
          exact octStep hyi O9 (by rw [hB]; simp [tagged, hb]) (by omega) (kstAll hm) F9 N9
        · intro m₁ h tk vs3 n3 hO3 hz3 hm F7 N7
          clear F5 N5 O5
          k_steps
          (rename News _ _ _ _ => N9)
          (rename Fr _ _ _ _ => F9)
          exact ret2 _ _ _ _ _ (by rw [outN (by decide)]; exact hO3) (by omega) (En2.back F9) (N9 _ (List.Mem.head _)).1
  · k_steps
    refine Hold.mk ?_
    (rename News _ _ _ _ => N1)
    (rename Fr _ _ _ _ => F1)
    (rename Grow _ _ _ _ => G1)
    k_dflt (refine' nestDef_K ?d0 ?k0 ?a0 (mkPlain (makeKK kSi2 ?q1 ?q2 ?q3 F1 N1 T' C2' ?cd ?U h32 ?kn ?cl ?_)))
    case d0 => rfl
    case k0 => rfl
    case a0 => rfl
    case cd => rfl
    case U => k_updF
    case q1 => kernel_rfl
    case q2 => rfl
    case q3 => rfl
    case kn => exact Kg2 _ IsKey.si2
    case cl => rfl
    intro f c2 ctv doc h' tk ps2 CO2 F2 N2 G2 R2 lt2 co2 nco2
    have O2 := offNew N1 co2
    (try simp only [List.cons_append, List.nil_append] at N2)
    clear N1 F1
    k_steps
    (rename News _ _ _ _ => N3)
    (rename Fr _ _ _ _ => F3)
    (rename Obj.data _ = Data.cell (some (Value.ref 102)) => dL)
    (rename Obj.data _ = Data.cell (some (Value.bytes _ _)) => dT)
    (rename KBw.bInts _ = vi _ => hB)
    (rename Array UInt8 => bT)
    dsimp only
    refine ret f _ _ Ts' ⟨flatDone TI' j1 iP2 ne2 hT hT2 En F3 N3 (by k_mem) (by k_mem) G1 G2 (fun q hq => by simp [hq]) (fun q hq => by simp [hq]) .si2 (show ¬ ((12 : Nat) = 4) by decide), FnAt.of N3 (List.Mem.head _), ?_⟩
    have R3 := G2.code (Kg2 _ IsKey.si2) F3 (fun q hq => (N3 q (by simp [hq])).1)
    have nT := (N3 (L + 1 + 1, _) (by k_mem)).1
    have nL := (N3 (L + 1, _) (by k_mem)).1
    k_dflt (refine' madeOf (n1 := PySem.Str.ofString "write") (n2 := PySem.Str.ofString "value") (n3 := PySem.Str.ofString "deterministic") X T (fun a o e => F3.keep _ _ (st' _ _ e)) (N3 _ (List.Mem.head _)).1 R3 _ (need1 nT (Mut.noCell dT) (need1 nL (Mut.noCell dL) (need1 (F3.keep _ _ gE) (Mut.noCell eE) (need1 (F3.keep _ _ gS) (Mut.noCell eS) need0)))) ?bind ?l1 ?l2 ?l3 ?cell ?e1 ?e2 ?e3 ?run)
    walk_at "M made"
    case run =>
      intro dp2 un2 fr2 gd2 s2 Q2 l u vs ks n2 xs x dv g2 L2 h2 tk2 W O hz hV hok h4 hr hu ret2 En2 hneed F4 N4 X4 T4
      have c1 := hneed _ (List.Mem.head _)
      have c2 := hneed _ (List.Mem.tail _ (List.Mem.head _))
      have c3 := hneed _ (List.Mem.tail _ (List.Mem.tail _ (List.Mem.head _)))
      have c4 := hneed _ (List.Mem.tail _ (List.Mem.tail _ (List.Mem.tail _ (List.Mem.head _))))
      have EVf := EV.fn X4
      have SVf := SV.fn X4
      clear N3 F3 nT hneed TI' nL
      rcases hV with ⟨m0, _⟩ | ⟨_, lv, ys, kk, rfl, hlv, hys⟩
      · exact absurd m0 (by decide)
      · have hfl : (xs.flatMap (bare kd)).length ≤ 4000 := flatB hok h4
        k_steps
        refine Hold.mk ?_
        (rename News _ _ _ _ => N5)
        (rename Fr _ _ _ _ => F5)
        (rename Oct _ _ => O5)
        (rename List.length _ = List.length _ + 1 => Z5)
        k_dflt (refine' For_invV g2 ?a1 ?a2 ?_ ?a3 ?a4)
        case a1 => rfl
        case a2 => rfl
        case a3 => intro _; with_unfolding_all rfl
        case a4 => exact passes_noE
        k_steps
        refine Hold.mk ?_
        k_dflt (refine' for_sum (bare kd) (PySem.Str.ofString "size") [(PySem.Str.ofString "write", .ref u), (PySem.Str.ofString "value", .ref lv), (PySem.Str.ofString "deterministic", dv)] neSE (all3 neWE neVE neDE) ?b1 hlv hys h4 F5 N5 ?b6 ?b7 ?_ ?_)
        case b1 => rfl
        case b6 => exact ⟨_, if_pos rfl⟩
        case b7 => exact all3 ((if_neg neWS).trans lkW) ((if_neg neVS).trans lkV) ((if_neg neDS).trans lkD)
        · intro i0 y ty m₁ h tk own kz tz hi hyi hkz hc2 hm F7 N7
          have hy := hok y (List.mem_of_getElem? hyi)
          clear F5 N5
          obtain ⟨i, rfl, hR, hb⟩ := hk _ hy
          dsimp only [Vl.at] at *
          k_steps
          (rename News _ _ _ _ => N9)
          (rename Fr _ _ _ _ => F9)
          exact sumStep F9 N9 hyi (if_pos rfl) (by rw [hkz, hb]) (setAll (kstAll2 hm) (all3 neWS neVS neDS))
        · intro m₁ h tk tz hm F7 N7
          have F8 := frSets F7 hm
          clear F5 N5 F7
          k_steps
          refine Hold.mk ?_
          (rename News _ _ _ _ => N5)
          (rename Fr _ _ _ _ => F5)
          (rename Oct _ _ => O6)
          k_dflt (refine' For_invV g2 ?a1 ?a2 ?_ ?a3 ?a4)
          case a1 => rfl
          case a2 => rfl
          case a3 => intro _; with_unfolding_all rfl
          case a4 => exact passes_noE
          k_steps
          refine Hold.mk ?_
          k_dflt (refine' for_oct (bare kd) 12 [(PySem.Str.ofString "write", .ref u), (PySem.Str.ofString "deterministic", dv)] (all2 neWE neDE) ?b1 hlv hys h4 F5 N5 O6 ?b7 ?_ ?_)
          case b1 => rfl
          case b7 => exact all2 (kstAt hm (List.Mem.tail _ (List.Mem.head _))) (kstAt hm (List.Mem.tail _ (List.Mem.tail _ (List.Mem.tail _ (List.Mem.head _)))))
          · intro i0 y ty m₁ h tk own vs3 n3 hi hyi hO3 hz3 hc2 hm F7 N7
            have hy := hok y (List.mem_of_getElem? hyi)
            clear F5 N5 O6
            obtain ⟨i, rfl, hR, hb⟩ := hk _ hy
            dsimp only [Vl.at] at *
            k_steps
            (rename Oct _ _ => O9)
            (rename News _ _ _ _ => N9)
            (rename Fr _ _ _ _ => F9)
            exact octStep hyi O9 (by simp [hb]) (by omega) (kstAll hm) F9 N9
          · intro m₁ h tk vs3 n3 hO3 hz3 hm F7 N7
            clear F5 N5 O6
            k_steps
            (rename News _ _ _ _ => N9)
            (rename Fr _ _ _ _ => F9)
            exact ret2 _ _ _ _ _ (by rw [out2, ← hB]; simpa using hO3) (by omega) (En2.back F9) (N9 _ (List.Mem.head _)).1
end

theorem part31 : True := by
  w_top off
  trivial
section
variable {w : World} {dp un : Nat} {fr : Option (List Env)} {gd : Option (List Code)} {s : Shared} {g₀ : Heap} {mg mb : PySem.Str → Option Value} {p : Program} {loose : List PySem.Str} {mean : ExcName → Option Value}
  {Q E : Value → Shared → Prop}
set_option maxRecDepth 100000 in
set_option maxHeartbeats 8000000 in
theorem mod_ok {kd bi : Int} {t0 : Tok} {Ts : List Addr}
  (X : (Mine.hd.heap_39 w.params).In g₀) (T : Top p loose mean mg mb g₀) (st : g₀.StaysIn s.heap) (hTs : ∀ a ∈ Ts, g₀.get? a = none) (hroom : dp + 80 < recursionLimit) (hun : un + 600 < cLine)
  (C : Codes g₀) (B : ∀ a ∈ baseT, a ∈ Ts) (TI : TabsIn Ts s.heap) {ev sv mv : Addr} (EV : EvUse w ev RgU viM) (SV : FnUse w sv RgU (fun v => ((viM v).length : Int))) (MV : FnUse w mv RgS zz)
  (hk : ∀ y, VlOk kd bi y → ∃ i, y = .int i ∧ RgS i ∧ RgU (zz i) ∧ bare kd y = viM (zz i))
  (ret : ∀ f h' tk' Ts', Turn Ts s.heap h' Ts' → FnAt f h' → SpecF w g₀ h' Ts' f kd 0 bi → Q (.ref f) { s with heap := h', toks := tk' }) :
  wpAny (model PySem.Challenge.rw_ae6018_01.row.prog w) (AR dp un fr gd) (call (.ref 138) [.int 0 t0, .ref ev, .ref sv, .ref mv]) Q E s := by
  revert X
  k_fill
  intro X
  have i1 := base_v B
  have i2 : 133 ∈ Ts := B _ (by simp [baseT])
  obtain ⟨pt, hT2, h32, Kn2⟩ := TI.at i2
  have hg2 := hTs _ i2
  have C2 := C.mo
  k_dflt (refine' callMC (binds := [(PySem.Str.ofString "wire_type", .int 0 t0), (PySem.Str.ofString "encode_value", .ref ev), (PySem.Str.ofString "compute_value_size", .ref sv), (PySem.Str.ofString "modify_value", .ref mv)]) [133] X T st ?hn ?ho ?hcd ?hr ?hb ?hl ?hd ?h1 ?h2 ?h3 ?_)
  walk_at "M enterC"
  intro g L h₁ tk fr' cells En F' Nc Y' X' T' st'
  have N0 : News g L h₁ [(133, tabObj pt)] := En.news (by simp [hT2])
  have l1 : @LT.lt Nat _ 133 L := En.lt _ _ hT2
  have C2' : CodeHd g 137 133 := C2.keeps st'
  have Kg2 : ∀ k, IsKey k → Known g pt k := fun k hk => (Kn2 k hk).imp id fun ⟨c', e, r⟩ => ⟨c', e, recUp r fun o => En.vis _ o (off1 (recOff hT2 h32 r))⟩
  k_cells Y'
  rename_i oM oS oE oW dM dS dE dW
  have eW : oW.data = Data.cell (some (.int 0 t0)) := dW.trans (by kernel_rfl)
  have eE : oE.data = Data.cell (some (.ref ev)) := dE.trans (by kernel_rfl)
  have eS : oS.data = Data.cell (some (.ref sv)) := dS.trans (by kernel_rfl)
  have eM : oM.data = Data.cell (some (.ref mv)) := dM.trans (by kernel_rfl)
  have N' := newsApp Nc N0
  clear Nc N0 Kn2
  simp only [List.cons_append, List.nil_append] at N'
  show wpAny _ _ _ _ _ _
  (try dsimp only)
  k_fold
  k_steps
  refine Hold.mk ?_
  (rename News _ _ _ _ => N1)
  (rename Fr _ _ _ _ => F1)
  k_dflt (refine' nestDef_K ?d0 ?k0 ?a0 (mkPlain (makeKK kMo ?q1 ?q2 ?q3 F1 N1 T' C2' ?cd ?U h32 ?kn ?cl ?_)))
  case d0 => rfl
  case k0 => rfl
  case a0 => rfl
  case cd => rfl
  case U => k_updF
  case q1 => kernel_rfl
  case q2 => rfl
  case q3 => rfl
  case kn => exact Kg2 _ IsKey.mo
  case cl => rfl
  intro f c' ctv doc h' tk ps2 CO2 F2 N2 G2 R2 lt2 co2 nco2
  have O2 := offNew N1 co2
  (try simp only [List.cons_append, List.nil_append] at N2)
  have o126 : ∀ q ∈ CO2, q.1 ≠ 133 := OffAll.to O2 (by intro T hT; dsimp only [Off] at hT; omega)
  clear N1 F1
  k_steps
  (rename News _ _ _ _ => N3)
  (rename Fr _ _ _ _ => F3)
  (rename Heap => hE)
  dsimp only
  obtain ⟨Ts', P2, TT, iP2, ne2, CP, RC⟩ := deepDone TI i1 i2 hT2 En F3 N3 (by k_mem) G2 (fun q hq => by simp [hq]) o126 nco2 .mo rfl
  have hf := (N3 _ (List.Mem.head _)).1
  have nW := (N3 (L + 1, oW) (by k_mem)).1
  have nE := (N3 (L + 1 + 1, oE) (by k_mem)).1
  have nS := (N3 (L + 1 + 1 + 1, oS) (by k_mem)).1
  have nM := (N3 (L + 1 + 1 + 1 + 1, oM) (by k_mem)).1
  have hTs' : ∀ a ∈ Ts', g₀.get? a = none := fun a ha => (TT.new a ha).elim (hTs a) fun e => by
    cases q : g₀.get? a with
    | none => rfl
    | some o => rw [st a o q] at e; cases e
  have stE : g₀.StaysIn hE := fun a o e => F3.keep _ _ (st' _ _ e)
  refine ret f _ _ Ts' TT (FnAt.of N3 (List.Mem.head _)) ?_
  have TI' := TT.tabs
  have j1 : 112 ∈ Ts' := TT.sub _ i1
  (try clear N3)
  (try clear F3)
  (try clear N2)
  (try clear F2)
  (try clear F')
  (try clear G2)
  (try clear TI)
  (try clear Kg2)
  (try clear hT2)
  (try clear nco2)
  (try clear co2)
  (try clear lt2)
  (try clear O2)
  (try clear ret)
  (try clear En)
  (try clear X')
  (try clear T')
  (try clear C2')
  (try clear hroom)
  (try clear hun)
  (try clear st)
  (try clear R2)
  (try clear o126)
  intro dp un fr gd s Q E n md t rep pk hs hroom hun hM n0 n1 ret
  subst hs
  obtain ⟨ps, hT, h3, Kn⟩ := TI'.at j1
  obtain ⟨pt, hT2, h32, Kn2⟩ := TI'.at iP2
  have hg := hTs' _ j1
  have hg2 := hTs' _ iP2
  have C1 := C.v
  have aW := TI'.ne j1 nW (cellNo eW)
  have bW := TI'.ne iP2 nW (cellNo eW)
  have aE := TI'.ne j1 nE (cellNo eE)
  have bE := TI'.ne iP2 nE (cellNo eE)
  have aS := TI'.ne j1 nS (cellNo eS)
  have bS := TI'.ne iP2 nS (cellNo eS)
  have aM := TI'.ne j1 nM (cellNo eM)
  have bM := TI'.ne iP2 nM (cellNo eM)
  have ac : @Ne Nat c' P2 := fun e => recOff hT2 h32 RC (e ▸ rfl)
  have ac1 : @Ne Nat c' 112 := fun e => recOff hT h3 RC (e ▸ rfl)
  k_dflt (refine' callMX (cl := _) (binds := [(PySem.Str.ofString "field_number", .int n t), (PySem.Str.ofString "is_repeated", .bool rep), (PySem.Str.ofString "is_packed", .bool pk)]) [112, P2] X T stE ?hn hf RC ?hr ?hb ?hl ?h1 ?h2 ?h3 ?_)
  case hn => simp [hg, hg2]
  case hr => omega
  case hb => exact BindsTo.of_eq rfl
  case hl => exact locs rfl
  case h1 => rfl
  case h2 => rfl
  case h3 => rfl
  intro g L h₁ tk fr' cells En F' Nc Y' X' T' st'
  have N0 : News g L h₁ [(112, tabObj ps), (P2, tabObj pt)] := En.news (by simp [hT, hT2])
  have l1 : @LT.lt Nat _ 112 L ∧ @LT.lt Nat _ P2 L := ⟨En.lt _ _ hT, En.lt _ _ hT2⟩
  have C' : CodeHd g 116 112 := C1.keeps st'
  have C2' : CodeHd g c' P2 := headUp CP fun o => En.vis _ o (off2 ac1 ac)
  have up : ∀ {c' : Addr} {q : PySem.Str}, s.heap.CodeRec (.ref c') q → g.CodeRec (.ref c') q := fun r => recUp r fun o => En.vis _ o (off2 (recOff hT h3 r) (recOff hT2 h32 r))
  have Kg : Known g ps keyV := (Kn _ .v).imp id fun ⟨c', e, r⟩ => ⟨c', e, up r⟩
  have Kg2 : ∀ k, IsKey k → Known g pt k := fun k hk => (Kn2 k hk).imp id fun ⟨c', e, r⟩ => ⟨c', e, up r⟩
  have gW := En.vis _ _ (off2 aW bW) nW
  have gE := En.vis _ _ (off2 aE bE) nE
  have gS := En.vis _ _ (off2 aS bS) nS
  have gM := En.vis _ _ (off2 aM bM) nM
  clear nW nE nS nM
  k_cells Y'
  have N' := newsApp Nc N0
  clear Nc N0 Kn Kn2
  simp only [List.cons_append, List.nil_append] at N'
  show wpAny _ _ _ _ _ _
  (try dsimp only)
  k_fold
  rcases hM with ⟨rfl, rfl, rfl⟩ | ⟨rfl, rfl, rfl⟩ | ⟨rfl, rfl, rfl⟩
  · k_steps
    refine Hold.mk ?_
    (rename News _ _ _ _ => N1)
    (rename Fr _ _ _ _ => F1)
    (rename Grow _ _ _ _ => G1)
    k_dflt (refine' nestDef_K ?d0 ?k0 ?a0 (mkPlain (makeKK kMo0 ?q1 ?q2 ?q3 F1 N1 T' C2' ?cd ?U h32 ?kn ?cl ?_)))
    case d0 => rfl
    case k0 => rfl
    case a0 => rfl
    case cd => rfl
    case U => k_updF
    case q1 => kernel_rfl
    case q2 => rfl
    case q3 => rfl
    case kn => exact Kg2 _ IsKey.mo0
    case cl => rfl
    intro f c2 ctv doc h' tk ps2 CO2 F2 N2 G2 R2 lt2 co2 nco2
    have O2 := offNew N1 co2
    (try simp only [List.cons_append, List.nil_append] at N2)
    clear N1 F1
    k_steps
    (rename News _ _ _ _ => N3)
    (rename Fr _ _ _ _ => F3)
    (rename Obj.data _ = Data.cell (some (Value.bytes _ _)) => dT)
    (rename KBw.bInts _ = vi _ => hB)
    (rename Array UInt8 => bT)
    dsimp only
    refine ret f _ _ Ts' ⟨flatDone TI' j1 iP2 ne2 hT hT2 En F3 N3 (by k_mem) (by k_mem) G1 G2 (fun q hq => by simp [hq]) (fun q hq => by simp [hq]) .mo0 (show ¬ ((12 : Nat) = 4) by decide), FnAt.of N3 (List.Mem.head _), ?_⟩
    have R3 := G2.code (Kg2 _ IsKey.mo0) F3 (fun q hq => (N3 q (by simp [hq])).1)
    have nT := (N3 (L + 1 + 1, _) (by k_mem)).1
    k_dflt (refine' madeOf (n1 := PySem.Str.ofString "write") (n2 := PySem.Str.ofString "value") (n3 := PySem.Str.ofString "deterministic") X T (fun a o e => F3.keep _ _ (st' _ _ e)) (N3 _ (List.Mem.head _)).1 R3 _ (need1 nT (Mut.noCell dT) (need1 (F3.keep _ _ gE) (Mut.noCell eE) (need1 (F3.keep _ _ gM) (Mut.noCell eM) need0))) ?bind ?l1 ?l2 ?l3 ?cell ?e1 ?e2 ?e3 ?run)
    walk_at "M made"
    case run =>
      intro dp2 un2 fr2 gd2 s2 Q2 l u vs ks n2 xs x dv g2 L2 h2 tk2 W O hz hV hok h4 hr hu ret2 En2 hneed F4 N4 X4 T4
      have c1 := hneed _ (List.Mem.head _)
      have c2 := hneed _ (List.Mem.tail _ (List.Mem.head _))
      have c3 := hneed _ (List.Mem.tail _ (List.Mem.tail _ (List.Mem.head _)))
      have EVf := EV.fn X4
      have MVf := MV.fn X4
      clear N3 F3 nT hneed TI' 
      rcases hV with ⟨_, v, tv, rfl, rfl⟩ | ⟨m0, _⟩
      · have hv := hok v (List.Mem.head _)
        obtain ⟨i, rfl, hR, hU, hb⟩ := hk _ hv
        dsimp only [Vl.at] at *
        k_steps
        (rename Oct _ _ => O9)
        (rename News _ _ _ _ => N9)
        (rename Fr _ _ _ _ => F9)
        have e : ks ++ outOf kd 0 n 0 [Vl.int i] = ks ++ KBw.bInts bT ++ viM (zz i) := by
          rw [hB, outN (by decide)]; simp [tagged, hb]
        exact ret2 _ _ _ _ _ (by rw [e]; exact O9) (by omega) (En2.back F9) (N9 _ (List.Mem.head _)).1
      · exact absurd rfl m0
  · k_steps
    refine Hold.mk ?_
    (rename News _ _ _ _ => N1)
    (rename Fr _ _ _ _ => F1)
    (rename Grow _ _ _ _ => G1)
    k_dflt (refine' nestDef_K ?d0 ?k0 ?a0 (mkPlain (makeKK kMo1 ?q1 ?q2 ?q3 F1 N1 T' C2' ?cd ?U h32 ?kn ?cl ?_)))
    case d0 => rfl
    case k0 => rfl
    case a0 => rfl
    case cd => rfl
    case U => k_updF
    case q1 => kernel_rfl
    case q2 => rfl
    case q3 => rfl
    case kn => exact Kg2 _ IsKey.mo1
    case cl => rfl
    intro f c2 ctv doc h' tk ps2 CO2 F2 N2 G2 R2 lt2 co2 nco2
    have O2 := offNew N1 co2
    (try simp only [List.cons_append, List.nil_append] at N2)
    clear N1 F1
    k_steps
    (rename News _ _ _ _ => N3)
    (rename Fr _ _ _ _ => F3)
    (rename Obj.data _ = Data.cell (some (Value.bytes _ _)) => dT)
    (rename KBw.bInts _ = vi _ => hB)
    (rename Array UInt8 => bT)
    dsimp only
    refine ret f _ _ Ts' ⟨flatDone TI' j1 iP2 ne2 hT hT2 En F3 N3 (by k_mem) (by k_mem) G1 G2 (fun q hq => by simp [hq]) (fun q hq => by simp [hq]) .mo1 (show ¬ ((12 : Nat) = 4) by decide), FnAt.of N3 (List.Mem.head _), ?_⟩
    have R3 := G2.code (Kg2 _ IsKey.mo1) F3 (fun q hq => (N3 q (by simp [hq])).1)
    have nT := (N3 (L + 1 + 1, _) (by k_mem)).1
    k_dflt (refine' madeOf (n1 := PySem.Str.ofString "write") (n2 := PySem.Str.ofString "value") (n3 := PySem.Str.ofString "deterministic") X T (fun a o e => F3.keep _ _ (st' _ _ e)) (N3 _ (List.Mem.head _)).1 R3 _ (need1 nT (Mut.noCell dT) (need1 (F3.keep _ _ gE) (Mut.noCell eE) (need1 (F3.keep _ _ gM) (Mut.noCell eM) need0))) ?bind ?l1 ?l2 ?l3 ?cell ?e1 ?e2 ?e3 ?run)
    walk_at "M made"
    case run =>
      intro dp2 un2 fr2 gd2 s2 Q2 l u vs ks n2 xs x dv g2 L2 h2 tk2 W O hz hV hok h4 hr hu ret2 En2 hneed F4 N4 X4 T4
      have c1 := hneed _ (List.Mem.head _)
      have c2 := hneed _ (List.Mem.tail _ (List.Mem.head _))
      have c3 := hneed _ (List.Mem.tail _ (List.Mem.tail _ (List.Mem.head _)))
      have EVf := EV.fn X4
      have MVf := MV.fn X4
      clear N3 F3 nT hneed TI' 
      rcases hV with ⟨m0, _⟩ | ⟨_, lv, ys, kk, rfl, hlv, hys⟩
      · exact absurd m0 (by decide)
      · k_steps
        refine Hold.mk ?_
        (rename News _ _ _ _ => N5)
        (rename Fr _ _ _ _ => F5)
        (rename Oct _ _ => O5)
        k_dflt (refine' For_invV g2 ?a1 ?a2 ?_ ?a3 ?a4)
        case a1 => rfl
        case a2 => rfl
        case a3 => intro _; with_unfolding_all rfl
        case a4 => exact passes_noE
        k_steps
        refine Hold.mk ?_
        k_dflt (refine' for_oct (tagged kd 0 n) 12 [(PySem.Str.ofString "write", .ref u), (PySem.Str.ofString "deterministic", dv)] (all2 neWE neDE) ?b1 hlv hys h4 F5 N5 O5 ?b7 ?_ ?_)
        case b1 => rfl
        case b7 => exact all2 lkW lkD
        · intro i0 y ty m₁ h tk own vs3 n3 hi hyi hO3 hz3 hc2 hm F7 N7
          have hy := hok y (List.mem_of_getElem? hyi)
          clear F5 N5 O5
          obtain ⟨i, rfl, hR, hU, hb⟩ := hk _ hy
          dsimp only [Vl.at] at *
          k_steps
          (rename Oct _ _ => O9)
          (rename News _ _ _ _ => N9)
          (rename Fr _ _ _ _ => F9)
          exact octStep hyi O9 (by rw [hB]; simp [tagged, hb]) (by omega) (kstAll hm) F9 N9
        · intro m₁ h tk vs3 n3 hO3 hz3 hm F7 N7
          clear F5 N5 O5
          k_steps
          (rename News _ _ _ _ => N9)
          (rename Fr _ _ _ _ => F9)
          exact ret2 _ _ _ _ _ (by rw [outN (by decide)]; exact hO3) (by omega) (En2.back F9) (N9 _ (List.Mem.head _)).1
  · k_steps
    refine Hold.mk ?_
    (rename News _ _ _ _ => N1)
    (rename Fr _ _ _ _ => F1)
    (rename Grow _ _ _ _ => G1)
    k_dflt (refine' nestDef_K ?d0 ?k0 ?a0 (mkPlain (makeKK kMo2 ?q1 ?q2 ?q3 F1 N1 T' C2' ?cd ?U h32 ?kn ?cl ?_)))
    case d0 => rfl
    case k0 => rfl
    case a0 => rfl
    case cd => rfl
    case U => k_updF
    case q1 => kernel_rfl
    case q2 => rfl
    case q3 => rfl
    case kn => exact Kg2 _ IsKey.mo2
    case cl => rfl
    intro f c2 ctv doc h' tk ps2 CO2 F2 N2 G2 R2 lt2 co2 nco2
    have O2 := offNew N1 co2
    (try simp only [List.cons_append, List.nil_append] at N2)
    clear N1 F1
    k_steps
    (rename News _ _ _ _ => N3)
    (rename Fr _ _ _ _ => F3)
    (rename Obj.data _ = Data.cell (some (Value.ref 102)) => dL)
    (rename Obj.data _ = Data.cell (some (Value.bytes _ _)) => dT)
    (rename KBw.bInts _ = vi _ => hB)
    (rename Array UInt8 => bT)
    dsimp only
    refine ret f _ _ Ts' ⟨flatDone TI' j1 iP2 ne2 hT hT2 En F3 N3 (by k_mem) (by k_mem) G1 G2 (fun q hq => by simp [hq]) (fun q hq => by simp [hq]) .mo2 (show ¬ ((12 : Nat) = 4) by decide), FnAt.of N3 (List.Mem.head _), ?_⟩
    have R3 := G2.code (Kg2 _ IsKey.mo2) F3 (fun q hq => (N3 q (by simp [hq])).1)
    have nT := (N3 (L + 1 + 1, _) (by k_mem)).1
    have nL := (N3 (L + 1, _) (by k_mem)).1
    k_dflt (refine' madeOf (n1 := PySem.Str.ofString "write") (n2 := PySem.Str.ofString "value") (n3 := PySem.Str.ofString "deterministic") X T (fun a o e => F3.keep _ _ (st' _ _ e)) (N3 _ (List.Mem.head _)).1 R3 _ (need1 nT (Mut.noCell dT) (need1 nL (Mut.noCell dL) (need1 (F3.keep _ _ gE) (Mut.noCell eE) (need1 (F3.keep _ _ gS) (Mut.noCell eS) (need1 (F3.keep _ _ gM) (Mut.noCell eM) need0))))) ?bind ?l1 ?l2 ?l3 ?cell ?e1 ?e2 ?e3 ?run)
    walk_at "M made"
    case run =>
      intro dp2 un2 fr2 gd2 s2 Q2 l u vs ks n2 xs x dv g2 L2 h2 tk2 W O hz hV hok h4 hr hu ret2 En2 hneed F4 N4 X4 T4
      have c1 := hneed _ (List.Mem.head _)
      have c2 := hneed _ (List.Mem.tail _ (List.Mem.head _))
      have c3 := hneed _ (List.Mem.tail _ (List.Mem.tail _ (List.Mem.head _)))
      have c4 := hneed _ (List.Mem.tail _ (List.Mem.tail _ (List.Mem.tail _ (List.Mem.head _))))
      have c5 := hneed _ (List.Mem.tail _ (List.Mem.tail _ (List.Mem.tail _ (List.Mem.tail _ (List.Mem.head _)))))
      have EVf := EV.fn X4
      have SVf := SV.fn X4
      have MVf := MV.fn X4
      clear N3 F3 nT hneed TI' nL
      rcases hV with ⟨m0, _⟩ | ⟨_, lv, ys, kk, rfl, hlv, hys⟩
      · exact absurd m0 (by decide)
      · have hfl : (xs.flatMap (bare kd)).length ≤ 4000 := flatB hok h4
        k_steps
        refine Hold.mk ?_
        (rename News _ _ _ _ => N5)
        (rename Fr _ _ _ _ => F5)
        (rename Oct _ _ => O5)
        (rename List.length _ = List.length _ + 1 => Z5)
        k_dflt (refine' For_invV g2 ?a1 ?a2 ?_ ?a3 ?a4)
        case a1 => rfl
        case a2 => rfl
        case a3 => intro _; with_unfolding_all rfl
        case a4 => exact passes_noE
        k_steps
        refine Hold.mk ?_
        k_dflt (refine' for_sum (bare kd) (PySem.Str.ofString "size") [(PySem.Str.ofString "write", .ref u), (PySem.Str.ofString "value", .ref lv), (PySem.Str.ofString "deterministic", dv)] neSE (all3 neWE neVE neDE) ?b1 hlv hys h4 F5 N5 ?b6 ?b7 ?_ ?_)
        case b1 => rfl
        case b6 => exact ⟨_, if_pos rfl⟩
        case b7 => exact all3 ((if_neg neWS).trans lkW) ((if_neg neVS).trans lkV) ((if_neg neDS).trans lkD)
        · intro i0 y ty m₁ h tk own kz tz hi hyi hkz hc2 hm F7 N7
          have hy := hok y (List.mem_of_getElem? hyi)
          clear F5 N5
          obtain ⟨i, rfl, hR, hU, hb⟩ := hk _ hy
          dsimp only [Vl.at] at *
          k_steps
          (rename News _ _ _ _ => N9)
          (rename Fr _ _ _ _ => F9)
          exact sumStep F9 N9 hyi (if_pos rfl) (by rw [hkz, hb]) (setAll (kstAll2 hm) (all3 neWS neVS neDS))
        · intro m₁ h tk tz hm F7 N7
          have F8 := frSets F7 hm
          clear F5 N5 F7
          k_steps
          refine Hold.mk ?_
          (rename News _ _ _ _ => N5)
          (rename Fr _ _ _ _ => F5)
          (rename Oct _ _ => O6)
          k_dflt (refine' For_invV g2 ?a1 ?a2 ?_ ?a3 ?a4)
          case a1 => rfl
          case a2 => rfl
          case a3 => intro _; with_unfolding_all rfl
          case a4 => exact passes_noE
          k_steps
          refine Hold.mk ?_
          k_dflt (refine' for_oct (bare kd) 12 [(PySem.Str.ofString "write", .ref u), (PySem.Str.ofString "deterministic", dv)] (all2 neWE neDE) ?b1 hlv hys h4 F5 N5 O6 ?b7 ?_ ?_)
          case b1 => rfl
          case b7 => exact all2 (kstAt hm (List.Mem.tail _ (List.Mem.head _))) (kstAt hm (List.Mem.tail _ (List.Mem.tail _ (List.Mem.tail _ (List.Mem.head _)))))
          · intro i0 y ty m₁ h tk own vs3 n3 hi hyi hO3 hz3 hc2 hm F7 N7
            have hy := hok y (List.mem_of_getElem? hyi)
            clear F5 N5 O6
            obtain ⟨i, rfl, hR, hU, hb⟩ := hk _ hy
            dsimp only [Vl.at] at *
            k_steps
            (rename Oct _ _ => O9)
            (rename News _ _ _ _ => N9)
            (rename Fr _ _ _ _ => F9)
            exact octStep hyi O9 (by simp [hb]) (by omega) (kstAll hm) F9 N9
          · intro m₁ h tk vs3 n3 hO3 hz3 hm F7 N7
            clear F5 N5 O6
            k_steps
            (rename News _ _ _ _ => N9)
            (rename Fr _ _ _ _ => F9)
            exact ret2 _ _ _ _ _ (by rw [out2, ← hB]; simpa using hO3) (by omega) (En2.back F9) (N9 _ (List.Mem.head _)).1
end

theorem part32 : True := by
  w_top off
  trivial
/-- what is known of a format -/
structure PkUse (w : World) (fmt : PySem.Str) (k : Nat) (R : Int → Prop) (f : Int → List Int) : Prop where
  len : ∀ v, (f v).length = k
  small : k ≤ 8
  size : ∀ {dp un : Nat} {fr : Option (List Env)} {gd : Option (List Code)} {s : Shared} {g : Heap} {L : Addr} {m mg mb : PySem.Str → Option Value} {p : Program} {loose : List PySem.Str} {mean : ExcName → Option Value} {Q E : Value → Shared → Prop}
    {t : Tok} {news : List (Addr × Obj)}, Fr g L s.heap m → (Mine.hd.heap_39 w.params).In g → Top p loose mean mg mb g → News g L s.heap news → dp + 30 < recursionLimit → un + 200 < cLine →
    (∀ t' h' tk', Fr g L h' m → News g L h' news → Q (.int (k : Nat) t') { s with heap := h', toks := tk' }) →
    wpAny (model PySem.Challenge.rw_ae6018_01.row.prog w) (AR dp un fr gd) (call (.ref 59) [.str fmt t]) Q E s
  pack : ∀ {dp un : Nat} {fr : Option (List Env)} {gd : Option (List Code)} {s : Shared} {g : Heap} {L : Addr} {m mg mb : PySem.Str → Option Value} {p : Program} {loose : List PySem.Str} {mean : ExcName → Option Value} {Q E : Value → Shared → Prop}
    {v : Int} {t t2 : Tok} {news : List (Addr × Obj)}, Fr g L s.heap m → (Mine.hd.heap_39 w.params).In g → Top p loose mean mg mb g → News g L s.heap news → R v → dp + 40 < recursionLimit → un + 300 < cLine →
    (∀ b t' h' tk', KBw.bInts b = f v → Fr g L h' m → News g L h' news → Q (.bytes b t') { s with heap := h', toks := tk' }) →
    wpAny (model PySem.Challenge.rw_ae6018_01.row.prog w) (AR dp un fr gd) (call (.ref 66) [.str fmt t, .int v t2]) Q E s
def Rg4U (v : Int) : Prop := 0 ≤ v ∧ v < 4294967296
def Rg4S (v : Int) : Prop := -2147483648 ≤ v ∧ v < 2147483648
theorem little_len {k : Nat} {x : Int} : (KTBy.little k x).length = k := by rw [KTBy.little_eq]; simp
theorem pkI {w : World} : PkUse w (PySem.Str.ofString "<I") 4 Rg4U (fun v => KTBy.little 4 (v % 4294967296)) where
  len := fun _ => little_len
  small := by decide
  size := fun F X T N a b ret => calc_I X T F.keep a b fun t' h' tk' k => ret t' h' tk' (frKp0 F k) (newsKp0 N k)
  pack := fun F X T N R a b ret => pack_I X T F.keep a b R.1 R.2 fun bb t' h' tk' hb k => ret bb t' h' tk' hb (frKp0 F k) (newsKp0 N k)
theorem pki {w : World} : PkUse w (PySem.Str.ofString "<i") 4 Rg4S (fun v => KTBy.little 4 (v % 4294967296)) where
  len := fun _ => little_len
  small := by decide
  size := fun F X T N a b ret => calc_i X T F.keep a b fun t' h' tk' k => ret t' h' tk' (frKp0 F k) (newsKp0 N k)
  pack := fun F X T N R a b ret => pack_i X T F.keep a b R.1 R.2 fun bb t' h' tk' hb k => ret bb t' h' tk' hb (frKp0 F k) (newsKp0 N k)
theorem pkQ {w : World} : PkUse w (PySem.Str.ofString "<Q") 8 RgU (fun v => KTBy.little 8 (v % 18446744073709551616)) where
  len := fun _ => little_len
  small := by decide
  size := fun F X T N a b ret => calc_Q X T F.keep a b fun t' h' tk' k => ret t' h' tk' (frKp0 F k) (newsKp0 N k)
  pack := fun F X T N R a b ret => pack_Q X T F.keep a b R.1 R.2 fun bb t' h' tk' hb k => ret bb t' h' tk' hb (frKp0 F k) (newsKp0 N k)
theorem pkq {w : World} : PkUse w (PySem.Str.ofString "<q") 8 RgS (fun v => KTBy.little 8 (v % 18446744073709551616)) where
  len := fun _ => little_len
  small := by decide
  size := fun F X T N a b ret => calc_q X T F.keep a b fun t' h' tk' k => ret t' h' tk' (frKp0 F k) (newsKp0 N k)
  pack := fun F X T N R a b ret => pack_q X T F.keep a b R.1 R.2 fun bb t' h' tk' hb k => ret bb t' h' tk' hb (frKp0 F k) (newsKp0 N k)
theorem flatK {f : Vl → List Int} {k : Nat} : ∀ {xs : List Vl}, (∀ x ∈ xs, (f x).length = k) → (xs.flatMap f).length = xs.length * k
  | [], _ => by simp
  | x :: xs, h => by
    rw [List.flatMap_cons, List.length_append, List.length_cons, Nat.add_mul, h x (.head _), flatK fun y hy => h y (.tail _ hy)]; omega
local macro_rules | `(tactic| walk_at "binaryOp Mult int int") => `(tactic| (refine' mul_int ?_ ?m; rotate_left; exact IntMulOk.of_left (intBits_le_64 (by omega) (by omega))))
local macro_rules | `(tactic| walk_at "call ref") => `(tactic| ((with_reducible show wpAny _ _ (call (Value.ref 59) [Value.str _ _]) _ _ _); k_dflt (refine' PkUse.size ?pk ?F ?X ?T ?N ?r ?u ?_; (case pk => with_reducible assumption); (case F => k_asm); (case X => k_asm); (case T => k_asm); (case N => k_asm); (case r => omega); (case u => omega); k_whole); intro t' h' tk' F' N'))
local macro_rules | `(tactic| walk_at "call ref") => `(tactic| ((with_reducible show wpAny _ _ (call (Value.ref 66) [Value.str _ _, Value.int _ _]) _ _ _); k_dflt (refine' PkUse.pack ?pk ?F ?X ?T ?N ?R ?r ?u ?_; (case pk => with_reducible assumption); (case F => k_asm); (case X => k_asm); (case T => k_asm); (case N => k_asm); (case R => with_reducible assumption); (case r => omega); (case u => omega); k_whole); intro b' t' h' tk' B' F' N'; (try dsimp only at B')))
local macro_rules | `(tactic| walk_at "call ref") => `(tactic| ((with_reducible show wpAny _ _ (call (Value.ref 124) [Value.int _ _, Value.int _ _]) _ _ _); k_dflt (refine' tag_use ?F ?X ?T ?N ?r ?u ?C ?ml ?S ?h3 ?Kn ?a ?b ?c ?d ?_; (case F => k_asm); (case X => k_asm); (case T => k_asm); (case N => k_asm); (case r => omega); (case u => omega); (case C => with_reducible assumption); (case ml => k_mem); (case S => walk_at "M sep"); (case h3 => with_reducible assumption); (case Kn => with_reducible assumption); (case a => with_reducible assumption); (case b => with_reducible assumption); (case c => first | with_reducible assumption | decide); (case d => first | with_reducible assumption | decide); k_whole); intro b' t' h' tk' ps' CO' B' G' O' F' N'; (try simp only [List.cons_append, List.nil_append] at N')))
section
variable {w : World} {dp un : Nat} {fr : Option (List Env)} {gd : Option (List Code)} {s : Shared} {g₀ : Heap} {mg mb : PySem.Str → Option Value} {p : Program} {loose : List PySem.Str} {mean : ExcName → Option Value}
  {Q E : Value → Shared → Prop}
set_option maxRecDepth 100000 in
set_option maxHeartbeats 8000000 in
theorem struct_ok {kd wi bi : Int} {fmt : PySem.Str} {k : Nat} {R : Int → Prop} {fo : Int → List Int} {t0 t1 : Tok} {Ts : List Addr}
  (X : (Mine.hd.heap_39 w.params).In g₀) (T : Top p loose mean mg mb g₀) (st : g₀.StaysIn s.heap) (hTs : ∀ a ∈ Ts, g₀.get? a = none) (hroom : dp + 80 < recursionLimit) (hun : un + 600 < cLine)
  (C : Codes g₀) (B : ∀ a ∈ baseT, a ∈ Ts) (TI : TabsIn Ts s.heap) (PK : PkUse w fmt k R fo) (w0 : 0 ≤ wi) (w1 : wi ≤ 5)
  (hk : ∀ y, VlOk kd bi y → ∃ i, y = .int i ∧ R i ∧ bare kd y = fo i)
  (ret : ∀ f h' tk' Ts', Turn Ts s.heap h' Ts' → FnAt f h' → SpecF w g₀ h' Ts' f kd wi bi → Q (.ref f) { s with heap := h', toks := tk' }) :
  wpAny (model PySem.Challenge.rw_ae6018_01.row.prog w) (AR dp un fr gd) (call (.ref 145) [.int wi t0, .str fmt t1]) Q E s := by
  revert X
  k_fill
  intro X
  have i1 := base_v B
  have i2 : 140 ∈ Ts := B _ (by simp [baseT])
  obtain ⟨pt, hT2, h32, Kn2⟩ := TI.at i2
  have hg2 := hTs _ i2
  have C2 := C.sp
  k_dflt (refine' callMC (binds := [(PySem.Str.ofString "wire_type", .int wi t0), (PySem.Str.ofString "format", .str fmt t1)]) [140] X T st ?hn ?ho ?hcd ?hr ?hb ?hl ?hd ?h1 ?h2 ?h3 ?_)
  walk_at "M enterC"
  intro g L h₁ tk fr' cells En F' Nc Y' X' T' st'
  have N0 : News g L h₁ [(140, tabObj pt)] := En.news (by simp [hT2])
  have l1 : @LT.lt Nat _ 140 L := En.lt _ _ hT2
  have C2' : CodeHd g 144 140 := C2.keeps st'
  have Kg2 : ∀ k, IsKey k → Known g pt k := fun k hk => (Kn2 k hk).imp id fun ⟨c', e, r⟩ => ⟨c', e, recUp r fun o => En.vis _ o (off1 (recOff hT2 h32 r))⟩
  k_cells Y'
  rename_i oV0 oM oW dV0 dM dW
  have eW : oW.data = Data.cell (some (.int wi t0)) := dW.trans (by kernel_rfl)
  have eM : oM.data = Data.cell (some (.str fmt t1)) := dM.trans (by kernel_rfl)
  have N' := newsApp Nc N0
  clear Nc N0 Kn2
  simp only [List.cons_append, List.nil_append] at N'
  show wpAny _ _ _ _ _ _
  (try dsimp only)
  k_fold
  k_steps
  refine Hold.mk ?_
  (rename News _ _ _ _ => N1)
  (rename Fr _ _ _ _ => F1)
  (rename Obj.data _ = Data.cell (some (Value.int _ _)) => eV)
  rename_i oV eV0
  k_dflt (refine' nestDef_K ?d0 ?k0 ?a0 (mkPlain (makeKK kSp ?q1 ?q2 ?q3 F1 N1 T' C2' ?cd ?U h32 ?kn ?cl ?_)))
  case d0 => rfl
  case k0 => rfl
  case a0 => rfl
  case cd => rfl
  case U => k_updF
  case q1 => kernel_rfl
  case q2 => rfl
  case q3 => rfl
  case kn => exact Kg2 _ IsKey.sp
  case cl => rfl
  intro f c' ctv doc h' tk ps2 CO2 F2 N2 G2 R2 lt2 co2 nco2
  have O2 := offNew N1 co2
  (try simp only [List.cons_append, List.nil_append] at N2)
  have o126 : ∀ q ∈ CO2, q.1 ≠ 140 := OffAll.to O2 (by intro T hT; dsimp only [Off] at hT; omega)
  clear N1 F1
  k_steps
  (rename News _ _ _ _ => N3)
  (rename Fr _ _ _ _ => F3)
  (rename Heap => hE)
  dsimp only
  obtain ⟨Ts', P2, TT, iP2, ne2, CP, RC⟩ := deepDone TI i1 i2 hT2 En F3 N3 (by k_mem) G2 (fun q hq => by simp [hq]) o126 nco2 .sp rfl
  have hf := (N3 _ (List.Mem.head _)).1
  have nW := (N3 (L + 1, oW) (by k_mem)).1
  have nM := (N3 (L + 1 + 1, oM) (by k_mem)).1
  have nV := (N3 (L + 1 + 1 + 1, _) (by k_mem)).1
  have hTs' : ∀ a ∈ Ts', g₀.get? a = none := fun a ha => (TT.new a ha).elim (hTs a) fun e => by
    cases q : g₀.get? a with
    | none => rfl
    | some o => rw [st a o q] at e; cases e
  have stE : g₀.StaysIn hE := fun a o e => F3.keep _ _ (st' _ _ e)
  refine ret f _ _ Ts' TT (FnAt.of N3 (List.Mem.head _)) ?_
  have TI' := TT.tabs
  have j1 : 112 ∈ Ts' := TT.sub _ i1
  (try clear N3)
  (try clear F3)
  (try clear N2)
  (try clear F2)
  (try clear F')
  (try clear G2)
  (try clear TI)
  (try clear Kg2)
  (try clear hT2)
  (try clear nco2)
  (try clear co2)
  (try clear lt2)
  (try clear O2)
  (try clear ret)
  (try clear En)
  (try clear X')
  (try clear T')
  (try clear C2')
  (try clear hroom)
  (try clear hun)
  (try clear st)
  (try clear R2)
  (try clear o126)
  intro dp un fr gd s Q E n md t rep pk hs hroom hun hM n0 n1 ret
  subst hs
  obtain ⟨ps, hT, h3, Kn⟩ := TI'.at j1
  obtain ⟨pt, hT2, h32, Kn2⟩ := TI'.at iP2
  have hg := hTs' _ j1
  have hg2 := hTs' _ iP2
  have C1 := C.v
  have aW := TI'.ne j1 nW (cellNo eW)
  have bW := TI'.ne iP2 nW (cellNo eW)
  have aM := TI'.ne j1 nM (cellNo eM)
  have bM := TI'.ne iP2 nM (cellNo eM)
  have aV := TI'.ne j1 nV (cellNo eV)
  have bV := TI'.ne iP2 nV (cellNo eV)
  have ac : @Ne Nat c' P2 := fun e => recOff hT2 h32 RC (e ▸ rfl)
  have ac1 : @Ne Nat c' 112 := fun e => recOff hT h3 RC (e ▸ rfl)
  k_dflt (refine' callMX (cl := _) (binds := [(PySem.Str.ofString "field_number", .int n t), (PySem.Str.ofString "is_repeated", .bool rep), (PySem.Str.ofString "is_packed", .bool pk)]) [112, P2] X T stE ?hn hf RC ?hr ?hb ?hl ?h1 ?h2 ?h3 ?_)
  case hn => simp [hg, hg2]
  case hr => omega
  case hb => exact BindsTo.of_eq rfl
  case hl => exact locs rfl
  case h1 => rfl
  case h2 => rfl
  case h3 => rfl
  intro g L h₁ tk fr' cells En F' Nc Y' X' T' st'
  have N0 : News g L h₁ [(112, tabObj ps), (P2, tabObj pt)] := En.news (by simp [hT, hT2])
  have l1 : @LT.lt Nat _ 112 L ∧ @LT.lt Nat _ P2 L := ⟨En.lt _ _ hT, En.lt _ _ hT2⟩
  have C' : CodeHd g 116 112 := C1.keeps st'
  have C2' : CodeHd g c' P2 := headUp CP fun o => En.vis _ o (off2 ac1 ac)
  have up : ∀ {c' : Addr} {q : PySem.Str}, s.heap.CodeRec (.ref c') q → g.CodeRec (.ref c') q := fun r => recUp r fun o => En.vis _ o (off2 (recOff hT h3 r) (recOff hT2 h32 r))
  have Kg : Known g ps keyV := (Kn _ .v).imp id fun ⟨c', e, r⟩ => ⟨c', e, up r⟩
  have Kg2 : ∀ k, IsKey k → Known g pt k := fun k hk => (Kn2 k hk).imp id fun ⟨c', e, r⟩ => ⟨c', e, up r⟩
  have gW := En.vis _ _ (off2 aW bW) nW
  have gM := En.vis _ _ (off2 aM bM) nM
  have gV := En.vis _ _ (off2 aV bV) nV
  clear nW nM nV
  k_cells Y'
  have N' := newsApp Nc N0
  clear Nc N0 Kn Kn2
  simp only [List.cons_append, List.nil_append] at N'
  show wpAny _ _ _ _ _ _
  (try dsimp only)
  k_fold
  rcases hM with ⟨rfl, rfl, rfl⟩ | ⟨rfl, rfl, rfl⟩ | ⟨rfl, rfl, rfl⟩
  · k_steps
    refine Hold.mk ?_
    k_dflt (refine' kdv_def ?d0 ?k0 ?a0 (kdv_all1 ?_))
    case d0 => rfl
    case k0 => rfl
    case a0 => rfl
    k_steps
    refine Hold.mk ?_
    (rename News _ _ _ _ => N1)
    (rename Fr _ _ _ _ => F1)
    (rename Grow _ _ _ _ => G1)
    k_dflt (refine' makeKK kSp0 ?q1 ?q2 ?q3 F1 N1 T' C2' ?cd ?U h32 ?kn ?cl ?_)
    case cd => rfl
    case U => k_updF
    case q1 => kernel_rfl
    case q2 => rfl
    case q3 => rfl
    case kn => exact Kg2 _ IsKey.sp0
    case cl => rfl
    intro f c2 ctv doc h' tk ps2 CO2 F2 N2 G2 R2 lt2 co2 nco2
    have O2 := offNew N1 co2
    (try simp only [List.cons_append, List.nil_append] at N2)
    clear N1 F1
    k_steps
    (rename News _ _ _ _ => N3)
    (rename Fr _ _ _ _ => F3)
    (rename Obj.data _ = Data.cell (some (Value.ref 66)) => dP)
    (rename Obj.data _ = Data.cell (some (Value.bytes _ _)) => dT)
    (rename KBw.bInts _ = vi _ => hB)
    (rename Array UInt8 => bT)
    dsimp only
    refine ret f _ _ Ts' ⟨flatDone TI' j1 iP2 ne2 hT hT2 En F3 N3 (by k_mem) (by k_mem) G1 G2 (fun q hq => by simp [hq]) (fun q hq => by simp [hq]) .sp0 (show ¬ ((12 : Nat) = 4) by decide), FnAt.of N3 (List.Mem.head _), ?_⟩
    have R3 := G2.code (Kg2 _ IsKey.sp0) F3 (fun q hq => (N3 q (by simp [hq])).1)
    have nT := (N3 (L + 1 + 1 + 1, _) (by k_mem)).1
    have nP := (N3 (L + 1 + 1, _) (by k_mem)).1
    have nD := (N3 (_, kdv_tup [Value.none]) (by k_mem)).1
    k_dflt (refine' madeOf (n1 := PySem.Str.ofString "write") (n2 := PySem.Str.ofString "value") (n3 := PySem.Str.ofString "unused_deterministic") X T (fun a o e => F3.keep _ _ (st' _ _ e)) (N3 _ (List.Mem.head _)).1 R3 _ (need1 nD Mut.noDv (need1 nT (Mut.noCell dT) (need1 nP (Mut.noCell dP) (need1 (F3.keep _ _ gM) (Mut.noCell eM) need0)))) ?bind ?l1 ?l2 ?l3 ?cell ?e1 ?e2 ?e3 ?run)
    walk_at "M madeD"
    case run =>
      intro dp2 un2 fr2 gd2 s2 Q2 l u vs ks n2 xs x dv g2 L2 h2 tk2 W O hz hV hok h4 hr hu ret2 En2 hneed F4 N4 X4 T4
      have c1 := hneed _ (List.Mem.head _)
      have c2 := hneed _ (List.Mem.tail _ (List.Mem.head _))
      have c3 := hneed _ (List.Mem.tail _ (List.Mem.tail _ (List.Mem.head _)))
      have c4 := hneed _ (List.Mem.tail _ (List.Mem.tail _ (List.Mem.tail _ (List.Mem.head _))))
      clear N3 F3 nT nP hneed TI'
      rcases hV with ⟨_, v, tv, rfl, rfl⟩ | ⟨m0, _⟩
      · have hv := hok v (List.Mem.head _)
        obtain ⟨i, rfl, hR, hb⟩ := hk _ hv
        dsimp only [Vl.at] at *
        k_steps
        (rename Oct _ _ => O9)
        (rename News _ _ _ _ => N9)
        (rename Fr _ _ _ _ => F9)
        (rename KBw.bInts _ = fo _ => hP)
        have e : ks ++ outOf kd wi n 0 [Vl.int i] = ks ++ KBw.bInts bT ++ fo i := by
          rw [hB, outN (by decide)]; simp [tagged, hb]
        exact ret2 _ _ _ _ _ (by rw [e, ← hP]; exact O9) (by omega) (En2.back F9) (N9 _ (List.Mem.head _)).1
      · exact absurd rfl m0
  · k_steps
    refine Hold.mk ?_
    k_dflt (refine' kdv_def ?d0 ?k0 ?a0 (kdv_all1 ?_))
    case d0 => rfl
    case k0 => rfl
    case a0 => rfl
    k_steps
    refine Hold.mk ?_
    (rename News _ _ _ _ => N1)
    (rename Fr _ _ _ _ => F1)
    (rename Grow _ _ _ _ => G1)
    k_dflt (refine' makeKK kSp1 ?q1 ?q2 ?q3 F1 N1 T' C2' ?cd ?U h32 ?kn ?cl ?_)
    case cd => rfl
    case U => k_updF
    case q1 => kernel_rfl
    case q2 => rfl
    case q3 => rfl
    case kn => exact Kg2 _ IsKey.sp1
    case cl => rfl
    intro f c2 ctv doc h' tk ps2 CO2 F2 N2 G2 R2 lt2 co2 nco2
    have O2 := offNew N1 co2
    (try simp only [List.cons_append, List.nil_append] at N2)
    clear N1 F1
    k_steps
    (rename News _ _ _ _ => N3)
    (rename Fr _ _ _ _ => F3)
    (rename Obj.data _ = Data.cell (some (Value.ref 66)) => dP)
    (rename Obj.data _ = Data.cell (some (Value.bytes _ _)) => dT)
    (rename KBw.bInts _ = vi _ => hB)
    (rename Array UInt8 => bT)
    dsimp only
    refine ret f _ _ Ts' ⟨flatDone TI' j1 iP2 ne2 hT hT2 En F3 N3 (by k_mem) (by k_mem) G1 G2 (fun q hq => by simp [hq]) (fun q hq => by simp [hq]) .sp1 (show ¬ ((12 : Nat) = 4) by decide), FnAt.of N3 (List.Mem.head _), ?_⟩
    have R3 := G2.code (Kg2 _ IsKey.sp1) F3 (fun q hq => (N3 q (by simp [hq])).1)
    have nT := (N3 (L + 1 + 1 + 1, _) (by k_mem)).1
    have nP := (N3 (L + 1 + 1, _) (by k_mem)).1
    have nD := (N3 (_, kdv_tup [Value.none]) (by k_mem)).1
    k_dflt (refine' madeOf (n1 := PySem.Str.ofString "write") (n2 := PySem.Str.ofString "value") (n3 := PySem.Str.ofString "unused_deterministic") X T (fun a o e => F3.keep _ _ (st' _ _ e)) (N3 _ (List.Mem.head _)).1 R3 _ (need1 nD Mut.noDv (need1 nT (Mut.noCell dT) (need1 nP (Mut.noCell dP) (need1 (F3.keep _ _ gM) (Mut.noCell eM) need0)))) ?bind ?l1 ?l2 ?l3 ?cell ?e1 ?e2 ?e3 ?run)
    walk_at "M madeD"
    case run =>
      intro dp2 un2 fr2 gd2 s2 Q2 l u vs ks n2 xs x dv g2 L2 h2 tk2 W O hz hV hok h4 hr hu ret2 En2 hneed F4 N4 X4 T4
      have c1 := hneed _ (List.Mem.head _)
      have c2 := hneed _ (List.Mem.tail _ (List.Mem.head _))
      have c3 := hneed _ (List.Mem.tail _ (List.Mem.tail _ (List.Mem.head _)))
      have c4 := hneed _ (List.Mem.tail _ (List.Mem.tail _ (List.Mem.tail _ (List.Mem.head _))))
      clear N3 F3 nT nP hneed TI'
      rcases hV with ⟨m0, _⟩ | ⟨_, lv, ys, kk, rfl, hlv, hys⟩
      · exact absurd m0 (by decide)
      · k_steps
        refine Hold.mk ?_
        (rename News _ _ _ _ => N5)
        (rename Fr _ _ _ _ => F5)
        (rename Oct _ _ => O5)
        k_dflt (refine' For_invV g2 ?a1 ?a2 ?_ ?a3 ?a4)
        case a1 => rfl
        case a2 => rfl
        case a3 => intro _; with_unfolding_all rfl
        case a4 => exact passes_noE
        k_steps
        refine Hold.mk ?_
        k_dflt (refine' for_oct (tagged kd wi n) 12 [(PySem.Str.ofString "write", .ref u)] (all1 neWE) ?b1 hlv hys h4 F5 N5 O5 ?b7 ?_ ?_)
        case b1 => rfl
        case b7 => exact all1 lkWu
        · intro i0 y ty m₁ h tk own vs3 n3 hi hyi hO3 hz3 hc2 hm F7 N7
          have hy := hok y (List.mem_of_getElem? hyi)
          clear F5 N5 O5
          obtain ⟨i, rfl, hR, hb⟩ := hk _ hy
          dsimp only [Vl.at] at *
          k_steps
          (rename Oct _ _ => O9)
          (rename News _ _ _ _ => N9)
          (rename Fr _ _ _ _ => F9)
          (rename KBw.bInts _ = fo _ => hP)
          exact octStep hyi O9 (by rw [hB, hP]; simp [tagged, hb]) (by omega) (kstAll hm) F9 N9
        · intro m₁ h tk vs3 n3 hO3 hz3 hm F7 N7
          clear F5 N5 O5
          k_steps
          (rename News _ _ _ _ => N9)
          (rename Fr _ _ _ _ => F9)
          exact ret2 _ _ _ _ _ (by rw [outN (by decide)]; exact hO3) (by omega) (En2.back F9) (N9 _ (List.Mem.head _)).1
  · k_steps
    refine Hold.mk ?_
    (rename News _ _ _ _ => N1)
    (rename Fr _ _ _ _ => F1)
    (rename Grow _ _ _ _ => G1)
    k_dflt (refine' nestDef_K ?d0 ?k0 ?a0 (mkPlain (makeKK kSp2 ?q1 ?q2 ?q3 F1 N1 T' C2' ?cd ?U h32 ?kn ?cl ?_)))
    case d0 => rfl
    case k0 => rfl
    case a0 => rfl
    case cd => rfl
    case U => k_updF
    case q1 => kernel_rfl
    case q2 => rfl
    case q3 => rfl
    case kn => exact Kg2 _ IsKey.sp2
    case cl => rfl
    intro f c2 ctv doc h' tk ps2 CO2 F2 N2 G2 R2 lt2 co2 nco2
    have O2 := offNew N1 co2
    (try simp only [List.cons_append, List.nil_append] at N2)
    clear N1 F1
    k_steps
    (rename News _ _ _ _ => N3)
    (rename Fr _ _ _ _ => F3)
    (rename Obj.data _ = Data.cell (some (Value.ref 66)) => dP)
    (rename Obj.data _ = Data.cell (some (Value.ref 102)) => dL)
    (rename Obj.data _ = Data.cell (some (Value.bytes _ _)) => dT)
    (rename KBw.bInts _ = vi _ => hB)
    (rename Array UInt8 => bT)
    dsimp only
    refine ret f _ _ Ts' ⟨flatDone TI' j1 iP2 ne2 hT hT2 En F3 N3 (by k_mem) (by k_mem) G1 G2 (fun q hq => by simp [hq]) (fun q hq => by simp [hq]) .sp2 (show ¬ ((12 : Nat) = 4) by decide), FnAt.of N3 (List.Mem.head _), ?_⟩
    have R3 := G2.code (Kg2 _ IsKey.sp2) F3 (fun q hq => (N3 q (by simp [hq])).1)
    have nT := (N3 (L + 1 + 1 + 1, _) (by k_mem)).1
    have nP := (N3 (L + 1 + 1, _) (by k_mem)).1
    have nL := (N3 (L + 1, _) (by k_mem)).1
    k_dflt (refine' madeOf (n1 := PySem.Str.ofString "write") (n2 := PySem.Str.ofString "value") (n3 := PySem.Str.ofString "deterministic") X T (fun a o e => F3.keep _ _ (st' _ _ e)) (N3 _ (List.Mem.head _)).1 R3 _ (need1 nL (Mut.noCell dL) (need1 nT (Mut.noCell dT) (need1 nP (Mut.noCell dP) (need1 (F3.keep _ _ gV) (Mut.noCell eV) (need1 (F3.keep _ _ gM) (Mut.noCell eM) need0))))) ?bind ?l1 ?l2 ?l3 ?cell ?e1 ?e2 ?e3 ?run)
    walk_at "M made"
    case run =>
      intro dp2 un2 fr2 gd2 s2 Q2 l u vs ks n2 xs x dv g2 L2 h2 tk2 W O hz hV hok h4 hr hu ret2 En2 hneed F4 N4 X4 T4
      have c1 := hneed _ (List.Mem.head _)
      have c2 := hneed _ (List.Mem.tail _ (List.Mem.head _))
      have c3 := hneed _ (List.Mem.tail _ (List.Mem.tail _ (List.Mem.head _)))
      have c4 := hneed _ (List.Mem.tail _ (List.Mem.tail _ (List.Mem.tail _ (List.Mem.head _))))
      have c5 := hneed _ (List.Mem.tail _ (List.Mem.tail _ (List.Mem.tail _ (List.Mem.tail _ (List.Mem.head _)))))
      clear N3 F3 nT nP hneed TI'
      rcases hV with ⟨m0, _⟩ | ⟨_, lv, ys, kk, rfl, hlv, hys⟩
      · exact absurd m0 (by decide)
      · have hIs : g2.IsList lv ys.toArray := IsL.isList hlv
        have hyl := hys.length
        have hfl : (xs.flatMap (bare kd)).length = xs.length * k := flatK fun y hy => (by
          obtain ⟨i, rfl, hR, hb⟩ := hk _ (hok _ hy)
          rw [hb, PK.len])
        have hsm : xs.length * k ≤ 32 := (Nat.mul_le_mul h4 PK.small)
        have hmu : ((ys.length : Nat) : Int) * (k : Nat) = ((xs.length * k : Nat) : Int) := by rw [hyl]; simp
        have q0 : (0 : Int) ≤ ((ys.length : Nat) : Int) * (k : Nat) := by rw [hmu]; omega
        have q1 : ((ys.length : Nat) : Int) * (k : Nat) < 1180591620717411303424 := by rw [hmu]; omega
        k_steps
        refine Hold.mk ?_
        (rename News _ _ _ _ => N5)
        (rename Fr _ _ _ _ => F5)
        (rename Oct _ _ => O5)
        k_dflt (refine' For_invV g2 ?a1 ?a2 ?_ ?a3 ?a4)
        case a1 => rfl
        case a2 => rfl
        case a3 => intro _; with_unfolding_all rfl
        case a4 => exact passes_noE
        k_steps
        refine Hold.mk ?_
        k_dflt (refine' for_oct (bare kd) 12 [(PySem.Str.ofString "write", .ref u)] (all1 neWE) ?b1 hlv hys h4 F5 N5 O5 ?b7 ?_ ?_)
        case b1 => rfl
        case b7 => exact all1 lkW
        · intro i0 y ty m₁ h tk own vs3 n3 hi hyi hO3 hz3 hc2 hm F7 N7
          have hy := hok y (List.mem_of_getElem? hyi)
          clear F5 N5 O5
          obtain ⟨i, rfl, hR, hb⟩ := hk _ hy
          dsimp only [Vl.at] at *
          k_steps
          (rename Oct _ _ => O9)
          (rename News _ _ _ _ => N9)
          (rename Fr _ _ _ _ => F9)
          (rename KBw.bInts _ = fo _ => hP)
          exact octStep hyi O9 (by simp [hb, hP]) (by omega) (kstAll hm) F9 N9
        · intro m₁ h tk vs3 n3 hO3 hz3 hm F7 N7
          clear F5 N5 O5
          k_steps
          (rename News _ _ _ _ => N9)
          (rename Fr _ _ _ _ => F9)
          exact ret2 _ _ _ _ _ (by have e : outOf kd wi n 2 xs = KBw.bInts bT ++ vi (((ys.length : Nat) : Int) * (k : Nat)).toNat ++ xs.flatMap (bare kd) := (by rw [out2, hB, hfl, hmu, Int.toNat_natCast]); rw [e]; simpa using hO3) (by omega) (En2.back F9) (N9 _ (List.Mem.head _)).1
end

theorem part33 : True := by
  w_top off
  trivial
theorem hk_int64 : ∀ y, VlOk 3 64 y → ∃ i, y = .int i ∧ RgS i ∧ bare 3 y = viM i := by
  intro y h
  cases y with
  | int i =>
    obtain ⟨_, _, _, d⟩ := h
    have hu : uns 3 = false := by decide
    rw [hu] at d
    rcases d with ⟨e, f, g1, g2⟩ | ⟨e, f, g1, g2⟩ | ⟨e, f, g1, g2⟩ | ⟨e, f, g1, g2⟩ <;> first
      | exact Bool.noConfusion f
      | exact absurd e (by decide)
      | (exact ⟨i, rfl, (by unfold RgS; omega), (by simp [bare])⟩)
  | bool b => exact absurd h (show ¬ ((3 : Int) = 8) by decide)
  | str x => exact absurd h.1 (by decide)
  | byt b => exact absurd h.1 (by decide)
theorem hk_int32 : ∀ y, VlOk 5 32 y → ∃ i, y = .int i ∧ RgS i ∧ bare 5 y = viM i := by
  intro y h
  cases y with
  | int i =>
    obtain ⟨_, _, _, d⟩ := h
    have hu : uns 5 = false := by decide
    rw [hu] at d
    rcases d with ⟨e, f, g1, g2⟩ | ⟨e, f, g1, g2⟩ | ⟨e, f, g1, g2⟩ | ⟨e, f, g1, g2⟩ <;> first
      | exact Bool.noConfusion f
      | exact absurd e (by decide)
      | (exact ⟨i, rfl, (by unfold RgS; omega), (by simp [bare])⟩)
  | bool b => exact absurd h (show ¬ ((5 : Int) = 8) by decide)
  | str x => exact absurd h.1 (by decide)
  | byt b => exact absurd h.1 (by decide)
theorem hk_enum : ∀ y, VlOk 14 32 y → ∃ i, y = .int i ∧ RgS i ∧ bare 14 y = viM i := by
  intro y h
  cases y with
  | int i =>
    obtain ⟨_, _, _, d⟩ := h
    have hu : uns 14 = false := by decide
    rw [hu] at d
    rcases d with ⟨e, f, g1, g2⟩ | ⟨e, f, g1, g2⟩ | ⟨e, f, g1, g2⟩ | ⟨e, f, g1, g2⟩ <;> first
      | exact Bool.noConfusion f
      | exact absurd e (by decide)
      | (exact ⟨i, rfl, (by unfold RgS; omega), (by simp [bare])⟩)
  | bool b => exact absurd h (show ¬ ((14 : Int) = 8) by decide)
  | str x => exact absurd h.1 (by decide)
  | byt b => exact absurd h.1 (by decide)
theorem hk_uint32 : ∀ y, VlOk 13 32 y → ∃ i, y = .int i ∧ RgU i ∧ bare 13 y = viM i := by
  intro y h
  cases y with
  | int i =>
    obtain ⟨_, _, _, d⟩ := h
    have hu : uns 13 = true := by decide
    rw [hu] at d
    rcases d with ⟨e, f, g1, g2⟩ | ⟨e, f, g1, g2⟩ | ⟨e, f, g1, g2⟩ | ⟨e, f, g1, g2⟩ <;> first
      | exact Bool.noConfusion f
      | exact absurd e (by decide)
      | (exact ⟨i, rfl, (by unfold RgU; omega), (by simp [bare])⟩)
  | bool b => exact absurd h (show ¬ ((13 : Int) = 8) by decide)
  | str x => exact absurd h.1 (by decide)
  | byt b => exact absurd h.1 (by decide)
theorem hk_uint64 : ∀ y, VlOk 4 64 y → ∃ i, y = .int i ∧ RgU i ∧ bare 4 y = viM i := by
  intro y h
  cases y with
  | int i =>
    obtain ⟨_, _, _, d⟩ := h
    have hu : uns 4 = true := by decide
    rw [hu] at d
    rcases d with ⟨e, f, g1, g2⟩ | ⟨e, f, g1, g2⟩ | ⟨e, f, g1, g2⟩ | ⟨e, f, g1, g2⟩ <;> first
      | exact Bool.noConfusion f
      | exact absurd e (by decide)
      | (exact ⟨i, rfl, (by unfold RgU; omega), (by simp [bare])⟩)
  | bool b => exact absurd h (show ¬ ((4 : Int) = 8) by decide)
  | str x => exact absurd h.1 (by decide)
  | byt b => exact absurd h.1 (by decide)
theorem hk_sint32 : ∀ y, VlOk 17 32 y → ∃ i, y = .int i ∧ RgS i ∧ RgU (zz i) ∧ bare 17 y = viM (zz i) := by
  intro y h
  cases y with
  | int i =>
    obtain ⟨_, _, _, d⟩ := h
    have hu : uns 17 = false := by decide
    rw [hu] at d
    rcases d with ⟨e, f, g1, g2⟩ | ⟨e, f, g1, g2⟩ | ⟨e, f, g1, g2⟩ | ⟨e, f, g1, g2⟩ <;> first
      | exact Bool.noConfusion f
      | exact absurd e (by decide)
      | (have hz : RgU (zz i) := (by unfold RgU zz; split <;> omega); exact ⟨i, rfl, (by unfold RgS; omega), hz, (by rw [viMU hz]; simp [bare])⟩)
  | bool b => exact absurd h (show ¬ ((17 : Int) = 8) by decide)
  | str x => exact absurd h.1 (by decide)
  | byt b => exact absurd h.1 (by decide)
theorem hk_sint64 : ∀ y, VlOk 18 64 y → ∃ i, y = .int i ∧ RgS i ∧ RgU (zz i) ∧ bare 18 y = viM (zz i) := by
  intro y h
  cases y with
  | int i =>
    obtain ⟨_, _, _, d⟩ := h
    have hu : uns 18 = false := by decide
    rw [hu] at d
    rcases d with ⟨e, f, g1, g2⟩ | ⟨e, f, g1, g2⟩ | ⟨e, f, g1, g2⟩ | ⟨e, f, g1, g2⟩ <;> first
      | exact Bool.noConfusion f
      | exact absurd e (by decide)
      | (have hz : RgU (zz i) := (by unfold RgU zz; split <;> omega); exact ⟨i, rfl, (by unfold RgS; omega), hz, (by rw [viMU hz]; simp [bare])⟩)
  | bool b => exact absurd h (show ¬ ((18 : Int) = 8) by decide)
  | str x => exact absurd h.1 (by decide)
  | byt b => exact absurd h.1 (by decide)
theorem hk_fixed32 : ∀ y, VlOk 7 32 y → ∃ i, y = .int i ∧ Rg4U i ∧ bare 7 y = (fun v => KTBy.little 4 (v % 4294967296)) i := by
  intro y h
  cases y with
  | int i =>
    obtain ⟨_, _, _, d⟩ := h
    have hu : uns 7 = true := by decide
    rw [hu] at d
    rcases d with ⟨e, f, g1, g2⟩ | ⟨e, f, g1, g2⟩ | ⟨e, f, g1, g2⟩ | ⟨e, f, g1, g2⟩ <;> first
      | exact Bool.noConfusion f
      | exact absurd e (by decide)
      | (exact ⟨i, rfl, (by unfold Rg4U; omega), (by simp [bare])⟩)
  | bool b => exact absurd h (show ¬ ((7 : Int) = 8) by decide)
  | str x => exact absurd h.1 (by decide)
  | byt b => exact absurd h.1 (by decide)
theorem hk_fixed64 : ∀ y, VlOk 6 64 y → ∃ i, y = .int i ∧ RgU i ∧ bare 6 y = (fun v => KTBy.little 8 (v % 18446744073709551616)) i := by
  intro y h
  cases y with
  | int i =>
    obtain ⟨_, _, _, d⟩ := h
    have hu : uns 6 = true := by decide
    rw [hu] at d
    rcases d with ⟨e, f, g1, g2⟩ | ⟨e, f, g1, g2⟩ | ⟨e, f, g1, g2⟩ | ⟨e, f, g1, g2⟩ <;> first
      | exact Bool.noConfusion f
      | exact absurd e (by decide)
      | (exact ⟨i, rfl, (by unfold RgU; omega), (by simp [bare])⟩)
  | bool b => exact absurd h (show ¬ ((6 : Int) = 8) by decide)
  | str x => exact absurd h.1 (by decide)
  | byt b => exact absurd h.1 (by decide)
theorem hk_sfixed32 : ∀ y, VlOk 15 32 y → ∃ i, y = .int i ∧ Rg4S i ∧ bare 15 y = (fun v => KTBy.little 4 (v % 4294967296)) i := by
  intro y h
  cases y with
  | int i =>
    obtain ⟨_, _, _, d⟩ := h
    have hu : uns 15 = false := by decide
    rw [hu] at d
    rcases d with ⟨e, f, g1, g2⟩ | ⟨e, f, g1, g2⟩ | ⟨e, f, g1, g2⟩ | ⟨e, f, g1, g2⟩ <;> first
      | exact Bool.noConfusion f
      | exact absurd e (by decide)
      | (exact ⟨i, rfl, (by unfold Rg4S; omega), (by simp [bare])⟩)
  | bool b => exact absurd h (show ¬ ((15 : Int) = 8) by decide)
  | str x => exact absurd h.1 (by decide)
  | byt b => exact absurd h.1 (by decide)
theorem hk_sfixed64 : ∀ y, VlOk 16 64 y → ∃ i, y = .int i ∧ RgS i ∧ bare 16 y = (fun v => KTBy.little 8 (v % 18446744073709551616)) i := by
  intro y h
  cases y with
  | int i =>
    obtain ⟨_, _, _, d⟩ := h
    have hu : uns 16 = false := by decide
    rw [hu] at d
    rcases d with ⟨e, f, g1, g2⟩ | ⟨e, f, g1, g2⟩ | ⟨e, f, g1, g2⟩ | ⟨e, f, g1, g2⟩ <;> first
      | exact Bool.noConfusion f
      | exact absurd e (by decide)
      | (exact ⟨i, rfl, (by unfold RgS; omega), (by simp [bare])⟩)
  | bool b => exact absurd h (show ¬ ((16 : Int) = 8) by decide)
  | str x => exact absurd h.1 (by decide)
  | byt b => exact absurd h.1 (by decide)
theorem notTs {Ts : List Addr} {h : Heap} {L : Addr} (TI : TabsIn Ts h) (lt : ∀ b o, h.get? b = some o → b < L) : L ∉ Ts := fun q => by
  obtain ⟨ps, e, _⟩ := TI _ q
  exact Nat.lt_irrefl _ (lt _ _ e)
/-- behind the second call of a wrapper -/
theorem After.done {w : World} {g₀ g h h₁ h' h2 : Heap} {as : List Addr} {L : Addr} {Ts Ts' Ts2 : List Addr} {f2 : Addr} {md : Int} {out : List Vl → List Int} {ok : Vl → Prop} (En : Ent as h g L h₁) (TT : Turn Ts h₁ h' Ts') (A : After w g₀ Ts' h' f2 h2 Ts2 md out ok) : After w g₀ Ts h f2 h2 Ts2 md out ok :=
  ⟨(TT.trans A.turn).from En.up, A.fn, A.made⟩
local macro_rules | `(tactic| walk_at "call ref") => `(tactic| ((with_reducible show wpAny _ _ (call (Value.ref 131) _) _ _ _); refine Hold.out ?_))
local macro_rules | `(tactic| walk_at "call ref") => `(tactic| ((with_reducible show wpAny _ _ (call (Value.ref 138) _) _ _ _); refine Hold.out ?_))
local macro_rules | `(tactic| walk_at "call ref") => `(tactic| ((with_reducible show wpAny _ _ (call (Value.ref 145) _) _ _ _); refine Hold.out ?_))
local macro_rules | `(tactic| walk_at "call ref") => `(tactic| ((with_reducible show wpAny _ _ (call (Value.ref _) [Value.int _ _, Value.bool _, Value.bool _]) _ _ _); refine Hold.out ?_))
local macro_rules | `(tactic| walk_at "callWith ref") => `(tactic| ((with_reducible show wpAny _ _ (callWith _ (Value.ref _) [] (backTo _ (starEach (_ :: _) _)) []) _ _ _); k_dflt (refine' callWith_F (first := []) ?q ?_ ?h1 ?h2; (case q => with_reducible assumption); (case h1 => rfl); (case h2 => rfl); k_whole)))
local macro_rules | `(tactic| walk_at "And") => `(tactic| ((with_reducible show FnAt _ _ ∧ _); refine' And.intro ?k ?_; (case k => assumption); (try dsimp only [List.nil_append, List.cons_append])))
section
variable {w : World} {dp un : Nat} {fr : Option (List Env)} {gd : Option (List Code)} {s : Shared} {g₀ : Heap} {mg mb : PySem.Str → Option Value} {p : Program} {loose : List PySem.Str} {mean : ExcName → Option Value}
  {Q E : Value → Shared → Prop}
set_option maxRecDepth 100000 in
set_option maxHeartbeats 4000000 in
theorem int64_ok {n md : Int} {t : Tok} {rep pk : Bool} {Ts : List Addr}
  (X : (Mine.hd.heap_39 w.params).In g₀) (T : Top p loose mean mg mb g₀) (st : g₀.StaysIn s.heap) (hTs : ∀ a ∈ Ts, g₀.get? a = none) (hroom : dp + 100 < recursionLimit) (hun : un + 700 < cLine)
  (C : Codes g₀) (B : ∀ a ∈ baseT, a ∈ Ts) (TI : TabsIn Ts s.heap) (hM : Mode md rep pk) (n0 : 0 ≤ n) (n1 : n ≤ 536870911)
  (ret : ∀ f h' tk' Ts', After w g₀ Ts s.heap f h' Ts' md (outOf 3 0 n md) (VlOk 3 64) → Q (.ref f) { s with heap := h', toks := tk' }) :
  wpAny (model PySem.Challenge.rw_ae6018_01.row.prog w) (AR dp un fr gd) (call (.ref 159) [.int n t, .bool rep, .bool pk]) Q E s := by
  revert X
  k_fill
  intro X
  k_dflt (refine' callM (binds := [(PySem.Str.ofString "field_number", .int n t), (PySem.Str.ofString "is_repeated", .bool rep), (PySem.Str.ofString "is_packed", .bool pk)]) Ts X T st hTs ?ho ?hcd ?hr ?hb ?hl ?hc ?h1 ?h2 ?h3 ?_)
  case ho => k_is
  case hcd => k_is
  case hr => omega
  case hb => exact BindsTo.of_eq rfl
  case hl => exact locs rfl
  case hc => decide
  case h1 => rfl
  case h2 => rfl
  case h3 => rfl
  intro g L h₁ tk fr' En F' X' T' st'
  have N' : News g L h₁ [] := News.nil
  have TI2 := TI.up En.up
  have hL := notTs TI En.lt
  show wpAny _ _ _ _ _ _
  (try dsimp only)
  k_fold
  k_steps
  refine Hold.mk ?_
  have st2 : g₀.StaysIn h₁ := fun a o e => F'.keep _ _ (st' _ _ e)
  k_dflt (refine' simple_ok X T st2 hTs ?r ?u C B TI2 ev110 sv94 hk_int64 ?_)
  case r => omega
  case u => omega
  intro f h' tk' Ts' TT FN SP
  have F2 := frKp F' TT.kp En.hid hL
  have N2 : News g L h' [] := News.nil
  clear F' N' TI TI2 st2
  k_steps
  refine Hold.mk ?_
  refine SP rfl (by omega) (by omega) hM n0 n1 fun f2 h2 tk2 Ts2 A => ?_
  exact ret _ _ _ _ (After.done En TT A)
set_option maxRecDepth 100000 in
set_option maxHeartbeats 4000000 in
theorem int32_ok {n md : Int} {t : Tok} {rep pk : Bool} {Ts : List Addr}
  (X : (Mine.hd.heap_39 w.params).In g₀) (T : Top p loose mean mg mb g₀) (st : g₀.StaysIn s.heap) (hTs : ∀ a ∈ Ts, g₀.get? a = none) (hroom : dp + 100 < recursionLimit) (hun : un + 700 < cLine)
  (C : Codes g₀) (B : ∀ a ∈ baseT, a ∈ Ts) (TI : TabsIn Ts s.heap) (hM : Mode md rep pk) (n0 : 0 ≤ n) (n1 : n ≤ 536870911)
  (ret : ∀ f h' tk' Ts', After w g₀ Ts s.heap f h' Ts' md (outOf 5 0 n md) (VlOk 5 32) → Q (.ref f) { s with heap := h', toks := tk' }) :
  wpAny (model PySem.Challenge.rw_ae6018_01.row.prog w) (AR dp un fr gd) (call (.ref 152) [.int n t, .bool rep, .bool pk]) Q E s := by
  revert X
  k_fill
  intro X
  k_dflt (refine' callM (binds := [(PySem.Str.ofString "field_number", .int n t), (PySem.Str.ofString "is_repeated", .bool rep), (PySem.Str.ofString "is_packed", .bool pk)]) Ts X T st hTs ?ho ?hcd ?hr ?hb ?hl ?hc ?h1 ?h2 ?h3 ?_)
  case ho => k_is
  case hcd => k_is
  case hr => omega
  case hb => exact BindsTo.of_eq rfl
  case hl => exact locs rfl
  case hc => decide
  case h1 => rfl
  case h2 => rfl
  case h3 => rfl
  intro g L h₁ tk fr' En F' X' T' st'
  have N' : News g L h₁ [] := News.nil
  have TI2 := TI.up En.up
  have hL := notTs TI En.lt
  show wpAny _ _ _ _ _ _
  (try dsimp only)
  k_fold
  k_steps
  refine Hold.mk ?_
  have st2 : g₀.StaysIn h₁ := fun a o e => F'.keep _ _ (st' _ _ e)
  k_dflt (refine' simple_ok X T st2 hTs ?r ?u C B TI2 ev110 sv94 hk_int32 ?_)
  case r => omega
  case u => omega
  intro f h' tk' Ts' TT FN SP
  have F2 := frKp F' TT.kp En.hid hL
  have N2 : News g L h' [] := News.nil
  clear F' N' TI TI2 st2
  k_steps
  refine Hold.mk ?_
  refine SP rfl (by omega) (by omega) hM n0 n1 fun f2 h2 tk2 Ts2 A => ?_
  exact ret _ _ _ _ (After.done En TT A)
set_option maxRecDepth 100000 in
set_option maxHeartbeats 4000000 in
theorem enum_ok {n md : Int} {t : Tok} {rep pk : Bool} {Ts : List Addr}
  (X : (Mine.hd.heap_39 w.params).In g₀) (T : Top p loose mean mg mb g₀) (st : g₀.StaysIn s.heap) (hTs : ∀ a ∈ Ts, g₀.get? a = none) (hroom : dp + 100 < recursionLimit) (hun : un + 700 < cLine)
  (C : Codes g₀) (B : ∀ a ∈ baseT, a ∈ Ts) (TI : TabsIn Ts s.heap) (hM : Mode md rep pk) (n0 : 0 ≤ n) (n1 : n ≤ 536870911)
  (ret : ∀ f h' tk' Ts', After w g₀ Ts s.heap f h' Ts' md (outOf 14 0 n md) (VlOk 14 32) → Q (.ref f) { s with heap := h', toks := tk' }) :
  wpAny (model PySem.Challenge.rw_ae6018_01.row.prog w) (AR dp un fr gd) (call (.ref 166) [.int n t, .bool rep, .bool pk]) Q E s := by
  revert X
  k_fill
  intro X
  k_dflt (refine' callM (binds := [(PySem.Str.ofString "field_number", .int n t), (PySem.Str.ofString "is_repeated", .bool rep), (PySem.Str.ofString "is_packed", .bool pk)]) Ts X T st hTs ?ho ?hcd ?hr ?hb ?hl ?hc ?h1 ?h2 ?h3 ?_)
  case ho => k_is
  case hcd => k_is
  case hr => omega
  case hb => exact BindsTo.of_eq rfl
  case hl => exact locs rfl
  case hc => decide
  case h1 => rfl
  case h2 => rfl
  case h3 => rfl
  intro g L h₁ tk fr' En F' X' T' st'
  have N' : News g L h₁ [] := News.nil
  have TI2 := TI.up En.up
  have hL := notTs TI En.lt
  show wpAny _ _ _ _ _ _
  (try dsimp only)
  k_fold
  k_steps
  refine Hold.mk ?_
  have st2 : g₀.StaysIn h₁ := fun a o e => F'.keep _ _ (st' _ _ e)
  k_dflt (refine' simple_ok X T st2 hTs ?r ?u C B TI2 ev110 sv94 hk_enum ?_)
  case r => omega
  case u => omega
  intro f h' tk' Ts' TT FN SP
  have F2 := frKp F' TT.kp En.hid hL
  have N2 : News g L h' [] := News.nil
  clear F' N' TI TI2 st2
  k_steps
  refine Hold.mk ?_
  refine SP rfl (by omega) (by omega) hM n0 n1 fun f2 h2 tk2 Ts2 A => ?_
  exact ret _ _ _ _ (After.done En TT A)
set_option maxRecDepth 100000 in
set_option maxHeartbeats 4000000 in
theorem uint32_ok {n md : Int} {t : Tok} {rep pk : Bool} {Ts : List Addr}
  (X : (Mine.hd.heap_39 w.params).In g₀) (T : Top p loose mean mg mb g₀) (st : g₀.StaysIn s.heap) (hTs : ∀ a ∈ Ts, g₀.get? a = none) (hroom : dp + 100 < recursionLimit) (hun : un + 700 < cLine)
  (C : Codes g₀) (B : ∀ a ∈ baseT, a ∈ Ts) (TI : TabsIn Ts s.heap) (hM : Mode md rep pk) (n0 : 0 ≤ n) (n1 : n ≤ 536870911)
  (ret : ∀ f h' tk' Ts', After w g₀ Ts s.heap f h' Ts' md (outOf 13 0 n md) (VlOk 13 32) → Q (.ref f) { s with heap := h', toks := tk' }) :
  wpAny (model PySem.Challenge.rw_ae6018_01.row.prog w) (AR dp un fr gd) (call (.ref 173) [.int n t, .bool rep, .bool pk]) Q E s := by
  revert X
  k_fill
  intro X
  k_dflt (refine' callM (binds := [(PySem.Str.ofString "field_number", .int n t), (PySem.Str.ofString "is_repeated", .bool rep), (PySem.Str.ofString "is_packed", .bool pk)]) Ts X T st hTs ?ho ?hcd ?hr ?hb ?hl ?hc ?h1 ?h2 ?h3 ?_)
  case ho => k_is
  case hcd => k_is
  case hr => omega
  case hb => exact BindsTo.of_eq rfl
  case hl => exact locs rfl
  case hc => decide
  case h1 => rfl
  case h2 => rfl
  case h3 => rfl
  intro g L h₁ tk fr' En F' X' T' st'
  have N' : News g L h₁ [] := News.nil
  have TI2 := TI.up En.up
  have hL := notTs TI En.lt
  show wpAny _ _ _ _ _ _
  (try dsimp only)
  k_fold
  k_steps
  refine Hold.mk ?_
  have st2 : g₀.StaysIn h₁ := fun a o e => F'.keep _ _ (st' _ _ e)
  k_dflt (refine' simple_ok X T st2 hTs ?r ?u C B TI2 ev102 sv87 hk_uint32 ?_)
  case r => omega
  case u => omega
  intro f h' tk' Ts' TT FN SP
  have F2 := frKp F' TT.kp En.hid hL
  have N2 : News g L h' [] := News.nil
  clear F' N' TI TI2 st2
  k_steps
  refine Hold.mk ?_
  refine SP rfl (by omega) (by omega) hM n0 n1 fun f2 h2 tk2 Ts2 A => ?_
  exact ret _ _ _ _ (After.done En TT A)
set_option maxRecDepth 100000 in
set_option maxHeartbeats 4000000 in
theorem uint64_ok {n md : Int} {t : Tok} {rep pk : Bool} {Ts : List Addr}
  (X : (Mine.hd.heap_39 w.params).In g₀) (T : Top p loose mean mg mb g₀) (st : g₀.StaysIn s.heap) (hTs : ∀ a ∈ Ts, g₀.get? a = none) (hroom : dp + 100 < recursionLimit) (hun : un + 700 < cLine)
  (C : Codes g₀) (B : ∀ a ∈ baseT, a ∈ Ts) (TI : TabsIn Ts s.heap) (hM : Mode md rep pk) (n0 : 0 ≤ n) (n1 : n ≤ 536870911)
  (ret : ∀ f h' tk' Ts', After w g₀ Ts s.heap f h' Ts' md (outOf 4 0 n md) (VlOk 4 64) → Q (.ref f) { s with heap := h', toks := tk' }) :
  wpAny (model PySem.Challenge.rw_ae6018_01.row.prog w) (AR dp un fr gd) (call (.ref 180) [.int n t, .bool rep, .bool pk]) Q E s := by
  revert X
  k_fill
  intro X
  k_dflt (refine' callM (binds := [(PySem.Str.ofString "field_number", .int n t), (PySem.Str.ofString "is_repeated", .bool rep), (PySem.Str.ofString "is_packed", .bool pk)]) Ts X T st hTs ?ho ?hcd ?hr ?hb ?hl ?hc ?h1 ?h2 ?h3 ?_)
  case ho => k_is
  case hcd => k_is
  case hr => omega
  case hb => exact BindsTo.of_eq rfl
  case hl => exact locs rfl
  case hc => decide
  case h1 => rfl
  case h2 => rfl
  case h3 => rfl
  intro g L h₁ tk fr' En F' X' T' st'
  have N' : News g L h₁ [] := News.nil
  have TI2 := TI.up En.up
  have hL := notTs TI En.lt
  show wpAny _ _ _ _ _ _
  (try dsimp only)
  k_fold
  k_steps
  refine Hold.mk ?_
  have st2 : g₀.StaysIn h₁ := fun a o e => F'.keep _ _ (st' _ _ e)
  k_dflt (refine' simple_ok X T st2 hTs ?r ?u C B TI2 ev102 sv87 hk_uint64 ?_)
  case r => omega
  case u => omega
  intro f h' tk' Ts' TT FN SP
  have F2 := frKp F' TT.kp En.hid hL
  have N2 : News g L h' [] := News.nil
  clear F' N' TI TI2 st2
  k_steps
  refine Hold.mk ?_
  refine SP rfl (by omega) (by omega) hM n0 n1 fun f2 h2 tk2 Ts2 A => ?_
  exact ret _ _ _ _ (After.done En TT A)
set_option maxRecDepth 100000 in
set_option maxHeartbeats 4000000 in
theorem sint32_ok {n md : Int} {t : Tok} {rep pk : Bool} {Ts : List Addr}
  (X : (Mine.hd.heap_39 w.params).In g₀) (T : Top p loose mean mg mb g₀) (st : g₀.StaysIn s.heap) (hTs : ∀ a ∈ Ts, g₀.get? a = none) (hroom : dp + 100 < recursionLimit) (hun : un + 700 < cLine)
  (C : Codes g₀) (B : ∀ a ∈ baseT, a ∈ Ts) (TI : TabsIn Ts s.heap) (hM : Mode md rep pk) (n0 : 0 ≤ n) (n1 : n ≤ 536870911)
  (ret : ∀ f h' tk' Ts', After w g₀ Ts s.heap f h' Ts' md (outOf 17 0 n md) (VlOk 17 32) → Q (.ref f) { s with heap := h', toks := tk' }) :
  wpAny (model PySem.Challenge.rw_ae6018_01.row.prog w) (AR dp un fr gd) (call (.ref 187) [.int n t, .bool rep, .bool pk]) Q E s := by
  revert X
  k_fill
  intro X
  k_dflt (refine' callM (binds := [(PySem.Str.ofString "field_number", .int n t), (PySem.Str.ofString "is_repeated", .bool rep), (PySem.Str.ofString "is_packed", .bool pk)]) Ts X T st hTs ?ho ?hcd ?hr ?hb ?hl ?hc ?h1 ?h2 ?h3 ?_)
  case ho => k_is
  case hcd => k_is
  case hr => omega
  case hb => exact BindsTo.of_eq rfl
  case hl => exact locs rfl
  case hc => decide
  case h1 => rfl
  case h2 => rfl
  case h3 => rfl
  intro g L h₁ tk fr' En F' X' T' st'
  have N' : News g L h₁ [] := News.nil
  have TI2 := TI.up En.up
  have hL := notTs TI En.lt
  show wpAny _ _ _ _ _ _
  (try dsimp only)
  k_fold
  k_steps
  refine Hold.mk ?_
  have st2 : g₀.StaysIn h₁ := fun a o e => F'.keep _ _ (st' _ _ e)
  k_dflt (refine' mod_ok X T st2 hTs ?r ?u C B TI2 ev102 sv87 zz80 hk_sint32 ?_)
  case r => omega
  case u => omega
  intro f h' tk' Ts' TT FN SP
  have F2 := frKp F' TT.kp En.hid hL
  have N2 : News g L h' [] := News.nil
  clear F' N' TI TI2 st2
  k_steps
  refine Hold.mk ?_
  refine SP rfl (by omega) (by omega) hM n0 n1 fun f2 h2 tk2 Ts2 A => ?_
  exact ret _ _ _ _ (After.done En TT A)
set_option maxRecDepth 100000 in
set_option maxHeartbeats 4000000 in
theorem sint64_ok {n md : Int} {t : Tok} {rep pk : Bool} {Ts : List Addr}
  (X : (Mine.hd.heap_39 w.params).In g₀) (T : Top p loose mean mg mb g₀) (st : g₀.StaysIn s.heap) (hTs : ∀ a ∈ Ts, g₀.get? a = none) (hroom : dp + 100 < recursionLimit) (hun : un + 700 < cLine)
  (C : Codes g₀) (B : ∀ a ∈ baseT, a ∈ Ts) (TI : TabsIn Ts s.heap) (hM : Mode md rep pk) (n0 : 0 ≤ n) (n1 : n ≤ 536870911)
  (ret : ∀ f h' tk' Ts', After w g₀ Ts s.heap f h' Ts' md (outOf 18 0 n md) (VlOk 18 64) → Q (.ref f) { s with heap := h', toks := tk' }) :
  wpAny (model PySem.Challenge.rw_ae6018_01.row.prog w) (AR dp un fr gd) (call (.ref 194) [.int n t, .bool rep, .bool pk]) Q E s := by
  revert X
  k_fill
  intro X
  k_dflt (refine' callM (binds := [(PySem.Str.ofString "field_number", .int n t), (PySem.Str.ofString "is_repeated", .bool rep), (PySem.Str.ofString "is_packed", .bool pk)]) Ts X T st hTs ?ho ?hcd ?hr ?hb ?hl ?hc ?h1 ?h2 ?h3 ?_)
  case ho => k_is
  case hcd => k_is
  case hr => omega
  case hb => exact BindsTo.of_eq rfl
  case hl => exact locs rfl
  case hc => decide
  case h1 => rfl
  case h2 => rfl
  case h3 => rfl
  intro g L h₁ tk fr' En F' X' T' st'
  have N' : News g L h₁ [] := News.nil
  have TI2 := TI.up En.up
  have hL := notTs TI En.lt
  show wpAny _ _ _ _ _ _
  (try dsimp only)
  k_fold
  k_steps
  refine Hold.mk ?_
  have st2 : g₀.StaysIn h₁ := fun a o e => F'.keep _ _ (st' _ _ e)
  k_dflt (refine' mod_ok X T st2 hTs ?r ?u C B TI2 ev102 sv87 zz80 hk_sint64 ?_)
  case r => omega
  case u => omega
  intro f h' tk' Ts' TT FN SP
  have F2 := frKp F' TT.kp En.hid hL
  have N2 : News g L h' [] := News.nil
  clear F' N' TI TI2 st2
  k_steps
  refine Hold.mk ?_
  refine SP rfl (by omega) (by omega) hM n0 n1 fun f2 h2 tk2 Ts2 A => ?_
  exact ret _ _ _ _ (After.done En TT A)
set_option maxRecDepth 100000 in
set_option maxHeartbeats 4000000 in
theorem fixed32_ok {n md : Int} {t : Tok} {rep pk : Bool} {Ts : List Addr}
  (X : (Mine.hd.heap_39 w.params).In g₀) (T : Top p loose mean mg mb g₀) (st : g₀.StaysIn s.heap) (hTs : ∀ a ∈ Ts, g₀.get? a = none) (hroom : dp + 100 < recursionLimit) (hun : un + 700 < cLine)
  (C : Codes g₀) (B : ∀ a ∈ baseT, a ∈ Ts) (TI : TabsIn Ts s.heap) (hM : Mode md rep pk) (n0 : 0 ≤ n) (n1 : n ≤ 536870911)
  (ret : ∀ f h' tk' Ts', After w g₀ Ts s.heap f h' Ts' md (outOf 7 5 n md) (VlOk 7 32) → Q (.ref f) { s with heap := h', toks := tk' }) :
  wpAny (model PySem.Challenge.rw_ae6018_01.row.prog w) (AR dp un fr gd) (call (.ref 201) [.int n t, .bool rep, .bool pk]) Q E s := by
  revert X
  k_fill
  intro X
  k_dflt (refine' callM (binds := [(PySem.Str.ofString "field_number", .int n t), (PySem.Str.ofString "is_repeated", .bool rep), (PySem.Str.ofString "is_packed", .bool pk)]) Ts X T st hTs ?ho ?hcd ?hr ?hb ?hl ?hc ?h1 ?h2 ?h3 ?_)
  case ho => k_is
  case hcd => k_is
  case hr => omega
  case hb => exact BindsTo.of_eq rfl
  case hl => exact locs rfl
  case hc => decide
  case h1 => rfl
  case h2 => rfl
  case h3 => rfl
  intro g L h₁ tk fr' En F' X' T' st'
  have N' : News g L h₁ [] := News.nil
  have TI2 := TI.up En.up
  have hL := notTs TI En.lt
  show wpAny _ _ _ _ _ _
  (try dsimp only)
  k_fold
  k_steps
  refine Hold.mk ?_
  have st2 : g₀.StaysIn h₁ := fun a o e => F'.keep _ _ (st' _ _ e)
  k_dflt (refine' struct_ok X T st2 hTs ?r ?u C B TI2 pkI (by decide) (by decide) hk_fixed32 ?_)
  case r => omega
  case u => omega
  intro f h' tk' Ts' TT FN SP
  have F2 := frKp F' TT.kp En.hid hL
  have N2 : News g L h' [] := News.nil
  clear F' N' TI TI2 st2
  k_steps
  refine Hold.mk ?_
  refine SP rfl (by omega) (by omega) hM n0 n1 fun f2 h2 tk2 Ts2 A => ?_
  exact ret _ _ _ _ (After.done En TT A)
set_option maxRecDepth 100000 in
set_option maxHeartbeats 4000000 in
theorem fixed64_ok {n md : Int} {t : Tok} {rep pk : Bool} {Ts : List Addr}
  (X : (Mine.hd.heap_39 w.params).In g₀) (T : Top p loose mean mg mb g₀) (st : g₀.StaysIn s.heap) (hTs : ∀ a ∈ Ts, g₀.get? a = none) (hroom : dp + 100 < recursionLimit) (hun : un + 700 < cLine)
  (C : Codes g₀) (B : ∀ a ∈ baseT, a ∈ Ts) (TI : TabsIn Ts s.heap) (hM : Mode md rep pk) (n0 : 0 ≤ n) (n1 : n ≤ 536870911)
  (ret : ∀ f h' tk' Ts', After w g₀ Ts s.heap f h' Ts' md (outOf 6 1 n md) (VlOk 6 64) → Q (.ref f) { s with heap := h', toks := tk' }) :
  wpAny (model PySem.Challenge.rw_ae6018_01.row.prog w) (AR dp un fr gd) (call (.ref 208) [.int n t, .bool rep, .bool pk]) Q E s := by
  revert X
  k_fill
  intro X
  k_dflt (refine' callM (binds := [(PySem.Str.ofString "field_number", .int n t), (PySem.Str.ofString "is_repeated", .bool rep), (PySem.Str.ofString "is_packed", .bool pk)]) Ts X T st hTs ?ho ?hcd ?hr ?hb ?hl ?hc ?h1 ?h2 ?h3 ?_)
  case ho => k_is
  case hcd => k_is
  case hr => omega
  case hb => exact BindsTo.of_eq rfl
  case hl => exact locs rfl
  case hc => decide
  case h1 => rfl
  case h2 => rfl
  case h3 => rfl
  intro g L h₁ tk fr' En F' X' T' st'
  have N' : News g L h₁ [] := News.nil
  have TI2 := TI.up En.up
  have hL := notTs TI En.lt
  show wpAny _ _ _ _ _ _
  (try dsimp only)
  k_fold
  k_steps
  refine Hold.mk ?_
  have st2 : g₀.StaysIn h₁ := fun a o e => F'.keep _ _ (st' _ _ e)
  k_dflt (refine' struct_ok X T st2 hTs ?r ?u C B TI2 pkQ (by decide) (by decide) hk_fixed64 ?_)
  case r => omega
  case u => omega
  intro f h' tk' Ts' TT FN SP
  have F2 := frKp F' TT.kp En.hid hL
  have N2 : News g L h' [] := News.nil
  clear F' N' TI TI2 st2
  k_steps
  refine Hold.mk ?_
  refine SP rfl (by omega) (by omega) hM n0 n1 fun f2 h2 tk2 Ts2 A => ?_
  exact ret _ _ _ _ (After.done En TT A)
set_option maxRecDepth 100000 in
set_option maxHeartbeats 4000000 in
theorem sfixed32_ok {n md : Int} {t : Tok} {rep pk : Bool} {Ts : List Addr}
  (X : (Mine.hd.heap_39 w.params).In g₀) (T : Top p loose mean mg mb g₀) (st : g₀.StaysIn s.heap) (hTs : ∀ a ∈ Ts, g₀.get? a = none) (hroom : dp + 100 < recursionLimit) (hun : un + 700 < cLine)
  (C : Codes g₀) (B : ∀ a ∈ baseT, a ∈ Ts) (TI : TabsIn Ts s.heap) (hM : Mode md rep pk) (n0 : 0 ≤ n) (n1 : n ≤ 536870911)
  (ret : ∀ f h' tk' Ts', After w g₀ Ts s.heap f h' Ts' md (outOf 15 5 n md) (VlOk 15 32) → Q (.ref f) { s with heap := h', toks := tk' }) :
  wpAny (model PySem.Challenge.rw_ae6018_01.row.prog w) (AR dp un fr gd) (call (.ref 215) [.int n t, .bool rep, .bool pk]) Q E s := by
  revert X
  k_fill
  intro X
  k_dflt (refine' callM (binds := [(PySem.Str.ofString "field_number", .int n t), (PySem.Str.ofString "is_repeated", .bool rep), (PySem.Str.ofString "is_packed", .bool pk)]) Ts X T st hTs ?ho ?hcd ?hr ?hb ?hl ?hc ?h1 ?h2 ?h3 ?_)
  case ho => k_is
  case hcd => k_is
  case hr => omega
  case hb => exact BindsTo.of_eq rfl
  case hl => exact locs rfl
  case hc => decide
  case h1 => rfl
  case h2 => rfl
  case h3 => rfl
  intro g L h₁ tk fr' En F' X' T' st'
  have N' : News g L h₁ [] := News.nil
  have TI2 := TI.up En.up
  have hL := notTs TI En.lt
  show wpAny _ _ _ _ _ _
  (try dsimp only)
  k_fold
  k_steps
  refine Hold.mk ?_
  have st2 : g₀.StaysIn h₁ := fun a o e => F'.keep _ _ (st' _ _ e)
  k_dflt (refine' struct_ok X T st2 hTs ?r ?u C B TI2 pki (by decide) (by decide) hk_sfixed32 ?_)
  case r => omega
  case u => omega
  intro f h' tk' Ts' TT FN SP
  have F2 := frKp F' TT.kp En.hid hL
  have N2 : News g L h' [] := News.nil
  clear F' N' TI TI2 st2
  k_steps
  refine Hold.mk ?_
  refine SP rfl (by omega) (by omega) hM n0 n1 fun f2 h2 tk2 Ts2 A => ?_
  exact ret _ _ _ _ (After.done En TT A)
set_option maxRecDepth 100000 in
set_option maxHeartbeats 4000000 in
theorem sfixed64_ok {n md : Int} {t : Tok} {rep pk : Bool} {Ts : List Addr}
  (X : (Mine.hd.heap_39 w.params).In g₀) (T : Top p loose mean mg mb g₀) (st : g₀.StaysIn s.heap) (hTs : ∀ a ∈ Ts, g₀.get? a = none) (hroom : dp + 100 < recursionLimit) (hun : un + 700 < cLine)
  (C : Codes g₀) (B : ∀ a ∈ baseT, a ∈ Ts) (TI : TabsIn Ts s.heap) (hM : Mode md rep pk) (n0 : 0 ≤ n) (n1 : n ≤ 536870911)
  (ret : ∀ f h' tk' Ts', After w g₀ Ts s.heap f h' Ts' md (outOf 16 1 n md) (VlOk 16 64) → Q (.ref f) { s with heap := h', toks := tk' }) :
  wpAny (model PySem.Challenge.rw_ae6018_01.row.prog w) (AR dp un fr gd) (call (.ref 222) [.int n t, .bool rep, .bool pk]) Q E s := by
  revert X
  k_fill
  intro X
  k_dflt (refine' callM (binds := [(PySem.Str.ofString "field_number", .int n t), (PySem.Str.ofString "is_repeated", .bool rep), (PySem.Str.ofString "is_packed", .bool pk)]) Ts X T st hTs ?ho ?hcd ?hr ?hb ?hl ?hc ?h1 ?h2 ?h3 ?_)
  case ho => k_is
  case hcd => k_is
  case hr => omega
  case hb => exact BindsTo.of_eq rfl
  case hl => exact locs rfl
  case hc => decide
  case h1 => rfl
  case h2 => rfl
  case h3 => rfl
  intro g L h₁ tk fr' En F' X' T' st'
  have N' : News g L h₁ [] := News.nil
  have TI2 := TI.up En.up
  have hL := notTs TI En.lt
  show wpAny _ _ _ _ _ _
  (try dsimp only)
  k_fold
  k_steps
  refine Hold.mk ?_
  have st2 : g₀.StaysIn h₁ := fun a o e => F'.keep _ _ (st' _ _ e)
  k_dflt (refine' struct_ok X T st2 hTs ?r ?u C B TI2 pkq (by decide) (by decide) hk_sfixed64 ?_)
  case r => omega
  case u => omega
  intro f h' tk' Ts' TT FN SP
  have F2 := frKp F' TT.kp En.hid hL
  have N2 : News g L h' [] := News.nil
  clear F' N' TI TI2 st2
  k_steps
  refine Hold.mk ?_
  refine SP rfl (by omega) (by omega) hM n0 n1 fun f2 h2 tk2 Ts2 A => ?_
  exact ret _ _ _ _ (After.done En TT A)
end

theorem part34 : True := by
  w_top off
  trivial
theorem kd_row {kd wi bi : Int} (h : (kd, wi, bi) ∈ kdTab) :
    (kd = 3 ∧ wi = 0 ∧ bi = 64) ∨ (kd = 4 ∧ wi = 0 ∧ bi = 64) ∨ (kd = 5 ∧ wi = 0 ∧ bi = 32) ∨ (kd = 6 ∧ wi = 1 ∧ bi = 64) ∨ (kd = 7 ∧ wi = 5 ∧ bi = 32) ∨ (kd = 8 ∧ wi = 0 ∧ bi = 1) ∨ (kd = 9 ∧ wi = 2 ∧ bi = 0) ∨
    (kd = 12 ∧ wi = 2 ∧ bi = 0) ∨ (kd = 13 ∧ wi = 0 ∧ bi = 32) ∨ (kd = 14 ∧ wi = 0 ∧ bi = 32) ∨ (kd = 15 ∧ wi = 5 ∧ bi = 32) ∨ (kd = 16 ∧ wi = 1 ∧ bi = 64) ∨ (kd = 17 ∧ wi = 0 ∧ bi = 32) ∨ (kd = 18 ∧ wi = 0 ∧ bi = 64) := by
  simp only [kdTab, List.mem_cons, List.not_mem_nil, or_false, Prod.mk.injEq] at h
  omega
theorem After.ent {w : World} {g₀ g h h₁ h' : Heap} {as : List Addr} {L : Addr} {Ts Ts' : List Addr} {f : Addr} {md : Int} {out : List Vl → List Int} {ok : Vl → Prop} (En : Ent as h g L h₁) (A : After w g₀ Ts h₁ f h' Ts' md out ok) : After w g₀ Ts h f h' Ts' md out ok :=
  ⟨A.turn.from En.up, A.fn, A.made⟩
section
variable {w : World} {dp un : Nat} {fr : Option (List Env)} {gd : Option (List Code)} {s : Shared} {g₀ : Heap} {mg mb : PySem.Str → Option Value} {p : Program} {loose : List PySem.Str} {mean : ExcName → Option Value}
  {Q E : Value → Shared → Prop}
set_option maxRecDepth 100000 in
set_option maxHeartbeats 8000000 in
theorem encoderOf_ok {kd wi bi n md : Int} {t t1 : Tok} {rep pk : Bool} {Ts : List Addr}
  (X : (Mine.hd.heap_39 w.params).In g₀) (T : Top p loose mean mg mb g₀) (st : g₀.StaysIn s.heap) (hTs : ∀ a ∈ Ts, g₀.get? a = none) (hroom : dp + 120 < recursionLimit) (hun : un + 800 < cLine)
  (C : Codes g₀) (B : ∀ a ∈ baseT, a ∈ Ts) (TI : TabsIn Ts s.heap) (hM : Mode md rep pk) (hx : (kd, wi, bi) ∈ kdTab) (h2 : wi = 2 → md ≠ 2) (n0 : 0 ≤ n) (n1 : n ≤ 536870911)
  (ret : ∀ f h' tk' Ts', After w g₀ Ts s.heap f h' Ts' md (outOf kd wi n md) (VlOk kd bi) → Q (.ref f) { s with heap := h', toks := tk' }) :
  wpAny (model PySem.Challenge.rw_ae6018_01.row.prog w) (AR dp un fr gd) (call (.ref 287) [.int kd t1, .int n t, .bool rep, .bool pk]) Q E s := by
  have hpk : md ≠ 2 → pk = false := fun e => hM.elim (fun a => a.2.1) fun a => a.elim (fun a => a.2.1) fun a => absurd a.2.2 e
  revert X
  k_fill
  intro X
  k_dflt (refine' callM (binds := [(PySem.Str.ofString "field_type", .int kd t1), (PySem.Str.ofString "field_number", .int n t), (PySem.Str.ofString "is_repeated", .bool rep), (PySem.Str.ofString "is_packed", .bool pk)]) Ts X T st hTs ?ho ?hcd ?hr ?hb ?hl ?hc ?h1 ?h2 ?h3 ?_)
  case ho => k_is
  case hcd => k_is
  case hr => omega
  case hb => exact BindsTo.of_eq rfl
  case hl => exact locs rfl
  case hc => decide
  case h1 => rfl
  case h2 => rfl
  case h3 => rfl
  intro g L h₁ tk fr' En F' X' T' st'
  have N' : News g L h₁ [] := News.nil
  have TI2 := TI.up En.up
  have st2 : g₀.StaysIn h₁ := fun a o e => F'.keep _ _ (st' _ _ e)
  show wpAny _ _ _ _ _ _
  (try dsimp only)
  k_fold
  k_steps
  · refine Hold.mk ?_
    (rename kd = _ => hkd)
    have hr := kd_row hx
    have hw : wi = 0 := by omega
    have hb : bi = 64 := by omega
    subst hkd hw hb
    exact int64_ok X T st2 hTs (by omega) (by omega) C B TI2 hM n0 n1 fun f h' tk' Ts' A => ret _ _ _ _ (After.ent En A)
  · refine Hold.mk ?_
    (rename kd = _ => hkd)
    have hr := kd_row hx
    have hw : wi = 0 := by omega
    have hb : bi = 64 := by omega
    subst hkd hw hb
    exact uint64_ok X T st2 hTs (by omega) (by omega) C B TI2 hM n0 n1 fun f h' tk' Ts' A => ret _ _ _ _ (After.ent En A)
  · refine Hold.mk ?_
    (rename kd = _ => hkd)
    have hr := kd_row hx
    have hw : wi = 0 := by omega
    have hb : bi = 32 := by omega
    subst hkd hw hb
    exact int32_ok X T st2 hTs (by omega) (by omega) C B TI2 hM n0 n1 fun f h' tk' Ts' A => ret _ _ _ _ (After.ent En A)
  · refine Hold.mk ?_
    (rename kd = _ => hkd)
    have hr := kd_row hx
    have hw : wi = 1 := by omega
    have hb : bi = 64 := by omega
    subst hkd hw hb
    exact fixed64_ok X T st2 hTs (by omega) (by omega) C B TI2 hM n0 n1 fun f h' tk' Ts' A => ret _ _ _ _ (After.ent En A)
  · refine Hold.mk ?_
    (rename kd = _ => hkd)
    have hr := kd_row hx
    have hw : wi = 5 := by omega
    have hb : bi = 32 := by omega
    subst hkd hw hb
    exact fixed32_ok X T st2 hTs (by omega) (by omega) C B TI2 hM n0 n1 fun f h' tk' Ts' A => ret _ _ _ _ (After.ent En A)
  · refine Hold.mk ?_
    (rename kd = _ => hkd)
    have hr := kd_row hx
    have hw : wi = 0 := by omega
    have hb : bi = 1 := by omega
    subst hkd hw hb
    exact boolEnc_ok X T st2 hTs (by omega) (by omega) C B TI2 hM n0 n1 fun f h' tk' Ts' A => ret _ _ _ _ (After.ent En A)
  · refine Hold.mk ?_
    (rename kd = _ => hkd)
    have hr := kd_row hx
    have hw : wi = 2 := by omega
    have hb : bi = 0 := by omega
    subst hkd hw hb
    exact strEnc_ok X T st2 hTs (by omega) (by omega) C B TI2 hM (hpk (h2 (by omega))) n0 n1 fun f h' tk' Ts' A => ret _ _ _ _ (After.ent En A)
  · (rename kd = _ => hkd)
    exact absurd (kd_row hx) (by omega)
  · (rename kd = _ => hkd)
    exact absurd (kd_row hx) (by omega)
  · refine Hold.mk ?_
    (rename kd = _ => hkd)
    have hr := kd_row hx
    have hw : wi = 2 := by omega
    have hb : bi = 0 := by omega
    subst hkd hw hb
    exact bytesEnc_ok X T st2 hTs (by omega) (by omega) C B TI2 hM (hpk (h2 (by omega))) n0 n1 fun f h' tk' Ts' A => ret _ _ _ _ (After.ent En A)
  · refine Hold.mk ?_
    (rename kd = _ => hkd)
    have hr := kd_row hx
    have hw : wi = 0 := by omega
    have hb : bi = 32 := by omega
    subst hkd hw hb
    exact uint32_ok X T st2 hTs (by omega) (by omega) C B TI2 hM n0 n1 fun f h' tk' Ts' A => ret _ _ _ _ (After.ent En A)
  · refine Hold.mk ?_
    (rename kd = _ => hkd)
    have hr := kd_row hx
    have hw : wi = 0 := by omega
    have hb : bi = 32 := by omega
    subst hkd hw hb
    exact enum_ok X T st2 hTs (by omega) (by omega) C B TI2 hM n0 n1 fun f h' tk' Ts' A => ret _ _ _ _ (After.ent En A)
  · refine Hold.mk ?_
    (rename kd = _ => hkd)
    have hr := kd_row hx
    have hw : wi = 5 := by omega
    have hb : bi = 32 := by omega
    subst hkd hw hb
    exact sfixed32_ok X T st2 hTs (by omega) (by omega) C B TI2 hM n0 n1 fun f h' tk' Ts' A => ret _ _ _ _ (After.ent En A)
  · refine Hold.mk ?_
    (rename kd = _ => hkd)
    have hr := kd_row hx
    have hw : wi = 1 := by omega
    have hb : bi = 64 := by omega
    subst hkd hw hb
    exact sfixed64_ok X T st2 hTs (by omega) (by omega) C B TI2 hM n0 n1 fun f h' tk' Ts' A => ret _ _ _ _ (After.ent En A)
  · refine Hold.mk ?_
    (rename kd = _ => hkd)
    have hr := kd_row hx
    have hw : wi = 0 := by omega
    have hb : bi = 32 := by omega
    subst hkd hw hb
    exact sint32_ok X T st2 hTs (by omega) (by omega) C B TI2 hM n0 n1 fun f h' tk' Ts' A => ret _ _ _ _ (After.ent En A)
  · refine Hold.mk ?_
    (rename kd = _ => hkd)
    have hr := kd_row hx
    have hw : wi = 0 := by omega
    have hb : bi = 64 := by omega
    subst hkd hw hb
    exact sint64_ok X T st2 hTs (by omega) (by omega) C B TI2 hM n0 n1 fun f h' tk' Ts' A => ret _ _ _ _ (After.ent En A)
  · exact absurd (kd_row hx) (by omega)
end

theorem part35 : True := by
  w_top off
  trivial
section
variable {prog : Program} {w : World} {A : Around} {s : Shared} {K : Frag} {base : Heap} {outer : List Env} {mg mb : PySem.Str → Option Value} {p : Program} {loose : List PySem.Str} {mean : ExcName → Option Value}
  {Q E : Value → Shared → Prop} {name qual : PySem.Str} {params : Arguments} {body : List Stmt} {scope : Scope} {dV kV doc pm cdv ct oc : Value} {an od : Option Addr} {osl : Array (Option Value)} {f : Addr} {args : List Value} {binds : List (PySem.Str × Value)}
/-- to enter a def that may raise -/
theorem callR (X : K.In base) (T : Top p loose mean mg mb base) (B : Below A base outer s.heap)
    (ho : K.lookup f = some ⟨oc, od, .func (fnOf name qual params body scope dV kV doc pm an cdv ct), osl⟩) (hcd : codeIn K cdv qual = true) (hroom : A.depth < recursionLimit)
    (hbind : BindsTo s (fnOf name qual params body scope dV kV doc pm an cdv ct) ⟨args, []⟩ binds) (hloc : ∀ y ∈ binds, scope.names.lookup y.1 = some .local)
    (hcell : ∀ x ∈ scope.names, x.2 ≠ .cell) (hco : scope.isCoroutine = false) (hgen : scope.isGenerator = false) (hk : scope.kind = .function)
    (h : ∀ L h₁ tk, Fr s.heap L h₁ (fun y => binds.reverse.lookup y) → Below A base outer s.heap →
      wpAny (model prog w) (A.deeper (envOf qual scope L f cdv)) (execs body (envOf qual scope L f cdv))
        (fun fl s' => Q (match fl with | .ret v => v | _ => .none) s')
        (fun e s' => wpAny (model prog w) (A.deeper (envOf qual scope L f cdv)) (leaving (envOf qual scope L f cdv) e) (fun _ s'' => E e s'') (fun e' s'' => E e' s'') s')
        { s with heap := h₁, toks := tk }) :
    wpAny (model prog w) A (call (.ref f) args) Q E s :=
  have Xs := X.keeps B.stays
  wpAny_call (codeAny_call_def (fd := fnOf name qual params body scope dV kV doc pm an cdv ct) (body := body) (binds := binds) hroom (Xs _ _ ho) rfl (T.nolimit.keeps B.stays) (codeRec_of Xs hcd) rfl hbind hcell hloc
    (fun h₁ hns hk₁ => h s.heap.objs.size h₁ _ ⟨hns, hk₁, Nat.le_refl _⟩ B) hco hgen hk)
end
local macro_rules | `(tactic| walk_at "M enterR") => `(tactic| (
  (case ho => k_is); (case hcd => k_is); (case hb => exact BindsTo.of_eq rfl); (case hl => exact locs rfl); (case hc => decide); (case h1 => rfl); (case h2 => rfl); (case h3 => rfl)))
local macro_rules | `(tactic| walk_at "call ref") => `(tactic| ((with_reducible show wpAny _ _ (call (Value.ref 287) _) _ _ _); refine Hold.out ?_))
section
variable {w : World} {dp un : Nat} {gd : Option (List Code)} {s : Shared} {base : Heap} {outer : List Env} {mg mb : PySem.Str → Option Value} {p : Program} {loose : List PySem.Str} {mean : ExcName → Option Value}
  {Q E : Value → Shared → Prop}
set_option maxRecDepth 100000 in
set_option maxHeartbeats 4000000 in
theorem refused_ok {kd : Int} {t : Tok} (hkd : kd = 1 ∨ kd = 19)
  (X : (Mine.hd.heap_39 w.params).In base) (T : Top p loose mean mg mb base) (K : Below (AR dp un (some outer) gd) base outer s.heap) (D : KtsDicts (outer.filterMap (·.frame)) s.heap) (hroom : dp + 10 < recursionLimit)
  (ret : ∀ h' g' tk', KtsTurn (outer.filterMap (·.frame)) s.heap g' → g'.StaysIn h' → Q (.bool true) { s with heap := h', toks := tk' }) :
  wpAny (model PySem.Challenge.rw_ae6018_01.row.prog w) (AR dp un (some outer) gd) (call (.ref 342) [.int kd t]) Q E s := by
  revert X
  k_fill
  intro X
  k_dflt (refine' callR (binds := [(PySem.Str.ofString "kind", .int kd t)]) X T K ?ho ?hcd ?hr ?hb ?hl ?hc ?h1 ?h2 ?h3 ?_)
  walk_at "M enterR"
  case hr => show dp < _; omega
  intro L h₁ tk F' _
  have Xs := X.keeps K.stays
  have Ts := T.keeps K.stays
  have N' : News s.heap L h₁ [] := News.nil
  show wpAny _ _ _ _ _ _
  (try dsimp only)
  k_fold
  k_steps
  refine Hold.mk ?_
  k_dflt (refine' callR (binds := [(PySem.Str.ofString "field_type", .int kd t), (PySem.Str.ofString "field_number", .int 1 tk), (PySem.Str.ofString "is_repeated", .bool false), (PySem.Str.ofString "is_packed", .bool false)]) X T (Below.push K F' ?pk) ?ho ?hcd ?hr ?hb ?hl ?hc ?h1 ?h2 ?h3 ?_)
  case pk => rfl
  walk_at "M enterR"
  case hr => show dp + 1 < _; omega
  intro L2 h₂ tk2 F2 K1
  have X1 := X.keeps K1.stays
  have T1 := T.keeps K1.stays
  have N2 : News h₁ L2 h₂ [] := News.nil
  clear N'
  show wpAny _ _ _ _ _ _
  (try dsimp only)
  k_fold
  k_steps
  (rename KtsTurn _ _ _ => TT)
  (rename Fr _ _ _ _ => FF)
  exact ret _ _ _ TT FF.keep
end

theorem part36 : True := by
  w_top off
  trivial
/-- an object that is neither a table nor a code -/
def Harmless (o : Obj) : Prop := (∀ ps : Array Value, o ≠ tabObj ps) ∧ ∀ (vs : Array Value) (q : PySem.Str) (t : Tok), o.data = .fields vs → vs[1]? ≠ some (.str q t)
theorem harmNo {o : Obj} (h : ∀ vs, o.data ≠ .fields vs) : Harmless o := ⟨fun ps e => by rw [e] at h; exact h _ rfl, fun vs _ _ e => absurd e (h vs)⟩
theorem harmSeq {o : Obj} {xs : Array Value} {n : Nat} (h : o.data = .seq xs n) : Harmless o := harmNo fun vs e => by rw [h] at e; cases e
theorem harmDict {o : Obj} {es : Array DictEntry} {n : Nat} (h : o.data = .dict es n) : Harmless o := harmNo fun vs e => by rw [h] at e; cases e
theorem harmIter {h : Heap} {it : Addr} {x l st : Int} {o : Obj} (a : IsRangeIter h it x l st) (e : h.get? it = some o) : Harmless o := by
  have e2 := a.symm.trans e
  cases e2
  refine ⟨fun ps e1 => ?_, fun vs q t e1 e3 => ?_⟩
  · injection e1 with e2
    exact absurd e2 (show ¬ (Value.type "range_iterator" = Value.none) by decide)
  · injection e1 with e2
    subst e2
    cases e3
theorem TabsIn.kpH {Ts as : List Addr} {h h' : Heap} (x : TabsIn Ts h) (k : Kp as h h') (na : ∀ a ∈ as, ∀ o, h.get? a = some o → Harmless o) : TabsIn Ts h' := fun P hP =>
  let ⟨ps, e, t, kn⟩ := x P hP
  ⟨ps, k _ _ (fun q => (na _ q _ e).1 _ rfl) e, t, fun y hy => (kn y hy).up (fun _ z => z) fun a o q r ea => k a o (fun z => by
    obtain ⟨c₂, o2, vs, t2, e0, e1, e2, e3⟩ := r
    cases e0
    exact (na _ z _ e1).2 _ _ _ e2 e3) ea⟩
/-- all that a heap holds beside the frame is in the ground or in the ledger -/
def All (g : Heap) (L : Addr) (h : Heap) (led : List (Addr × Obj)) : Prop := ∀ b o, h.get? b = some o → b = L ∨ g.get? b = some o ∨ (b, o) ∈ led
theorem All.kp {g h h3 : Heap} {L : Addr} {led : List (Addr × Obj)} {m : PySem.Str → Option Value} (x : All g L h led) (F : Fr g L h3 m) (N : ∀ p ∈ led, h3.get? p.1 = some p.2) : Kp [L] h h3 := fun b o nb e => by
  rcases x b o e with rfl | hg | hm
  · exact absurd (.head _) nb
  · exact F.keep _ _ hg
  · exact N _ hm
theorem restL {g h : Heap} {L : Addr} {m : PySem.Str → Option Value} {base : List (Addr × Obj)} (F : Fr g L h m) (N : News g L h base) : ∃ R, News g L h R ∧ (∀ p ∈ R, ∀ q ∈ base, p.1 ≠ q.1) ∧ All g L h (base ++ R) := by
  refine ⟨fpO g h ((List.range h.objs.size).filter fun b => decide (b ≠ L) && decide (b ∉ base.map (·.1))), fun p hp => ?_, fun p hp q hq c => ?_, fun b o e => ?_⟩
  · obtain ⟨a1, a2, a3⟩ := fpO_mem hp
    have h1 := (List.mem_filter.mp a1).2
    simp only [Bool.and_eq_true, decide_eq_true_eq] at h1
    exact ⟨a3, h1.1, a2⟩
  · obtain ⟨a1, a2, a3⟩ := fpO_mem hp
    have h1 := (List.mem_filter.mp a1).2
    simp only [Bool.and_eq_true, decide_eq_true_eq] at h1
    exact h1.2 (c ▸ List.mem_map_of_mem hq)
  · by_cases hL : b = L
    · exact .inl hL
    · refine .inr ?_
      cases hg : g.get? b with
      | some o' =>
        have := F.keep _ _ hg
        rw [e] at this; cases this
        exact .inl rfl
      | none =>
        refine .inr (List.mem_append.mpr ?_)
        by_cases hb : b ∈ base.map (·.1)
        · obtain ⟨q, hq, rfl⟩ := List.mem_map.mp hb
          have := (N q hq).1
          rw [e] at this; cases this
          exact .inl hq
        · exact .inr (fpO_of (List.mem_filter.mpr ⟨List.mem_range.mpr (Heap.lt_size e), by simp [hL, hb]⟩) hg e)
def LawEnd (g : Heap) (L : Addr) (J : (PySem.Str → Option Value) → List (Addr × Obj) → Prop) (own : List (Addr × Obj)) (s₁ s₂ : Shared) : Prop :=
  ∃ h' tk m' nx, s₂ = { s₁ with heap := h', toks := tk } ∧ Fr g L h' m' ∧ News g L h' (nx ++ own) ∧ (∀ p ∈ own, ∀ q ∈ nx, p.1 ≠ q.1) ∧ J m' nx
section
variable {prog : Program} {w : World} {A : Around} {g : Heap} {env : Env} {s : Shared} {x : PySem.Str} {m : PySem.Str → Option Value} {body : List Stmt} {Qf : Flow → Shared → Prop} {E : Value → Shared → Prop} {news : List (Addr × Obj)}
/-- a loop over a range whose ledger may grow -/
theorem for_law {r : Addr} {k : Int} {t u v : Tok} (Jf : Nat → (PySem.Str → Option Value) → List (Addr × Obj) → Prop) (hr : IsRange s.heap r 0 k 1 t u v) (h0 : 0 ≤ k) (h1 : k < 1000) (hh : A.handled = none)
    (F : Fr g env.locals s.heap m) (N : News g env.locals s.heap news) (hJ : Jf 0 m news)
    (turn : ∀ i t (m₁ : PySem.Str → Option Value) news₁ h tk own, i < k.toNat → Jf i m₁ news₁ → (∀ p ∈ own, Harmless p.2) → (∀ p ∈ own, ∀ q ∈ news₁, p.1 ≠ q.1) →
      Fr g env.locals h (fun y => if y = x then some (.int (i : Nat) t) else m₁ y) → News g env.locals h (news₁ ++ own) →
      wpAny (model prog w) A (execs body env) (fun fl s₂ => match fl with | .ret v => Qf (.ret v) s₂ | .brk => Qf .next s₂ | _ => LawEnd g env.locals (Jf (i + 1)) own { s with heap := h, toks := tk } s₂) E { s with heap := h, toks := tk })
    (done : ∀ m₁ news₁ h tk, Jf k.toNat m₁ news₁ → Fr g env.locals h m₁ → News g env.locals h news₁ → Qf .next { s with heap := h, toks := tk }) :
    wpAny (model prog w) A (pyIter (.ref r)) (fun it s₂ => LoopAtV prog w A g env x body Qf E it s₂) E s := by
  obtain ⟨e1, e2⟩ := range_facts h0 h1
  refine wpAny_pyIter_range hr e1 ⟨s.heap.objs.size, [s.heap.objs.size], [s.heap.objs.size], k.toNat, _, _, m, news, Jf, rfl, Walks.range hh _ 0 1 k.toNat, ?_, ?_, ?_,
    (by show IsRangeIter _ _ _ _ _; rw [e2]; simpa using Heap.get?_push_size _ rfl), F.push _, (fun p hp => ⟨Heap.get?_push_of_some _ (N p hp).1, (N p hp).2⟩), hJ, ?_, ?_⟩
  · intro hm; exact absurd F.ns.lt ((List.mem_singleton.mp hm) ▸ Nat.lt_irrefl _)
  · intro b hb; rw [List.mem_singleton.mp hb]; exact fresh_none F (Nat.le_refl _)
  · intro q hq hm; exact absurd (Heap.lt_size (N q hq).1) ((List.mem_singleton.mp hm) ▸ Nat.lt_irrefl _)
  · rintro i v m₁ news₁ s₁ own ⟨hh', tk', rfl⟩ hin ⟨tv, rfl⟩ hJ₁ hoff hown hat hall hst F₁ N₁
    have hoffO : ∀ p ∈ own, ∀ q ∈ news₁, p.1 ≠ q.1 := fun p hp q hq e => hoff q hq (e ▸ hown p hp)
    have hharm : ∀ p ∈ own, Harmless p.2 := fun p hp => by
      have hp1 := List.mem_singleton.mp (hown p hp)
      exact harmIter hst (by rw [← hp1]; exact hat p hp)
    have hI := hall s.heap.objs.size (.head _) (fresh_none F (Nat.le_refl _)) _ hst
    have hv : (0 : Int) + (i : Nat) * 1 = (i : Nat) := by omega
    rw [hv] at F₁
    refine wpAny_mono (turn i tv m₁ news₁ hh' tk' own hin hJ₁ hharm hoffO F₁ fun p hp => N₁ p ((List.mem_append.mp hp).elim (fun z => List.mem_append_right _ z) fun z => List.mem_append_left _ z)) (fun f s₂ q => ?_) fun _ _ z => z
    have fin : LawEnd g env.locals (Jf (i + 1)) own { s with heap := hh', toks := tk' } s₂ → LoopStepU g env.locals [s.heap.objs.size] own (Jf (i + 1)) { s with heap := hh', toks := tk' } .next s₂ := by
      rintro ⟨h', tk, m', nx, e, F', N', ho, hm⟩
      exact ⟨rfl, h', tk, m', nx, e, F', fun p hp => N' p ((List.mem_append.mp hp).elim (fun z => List.mem_append_right _ z) fun z => List.mem_append_left _ z), fun p hp hq => ho _ hI p hp (List.mem_singleton.mp hq).symm, hm⟩
    cases f with
    | ret v => exact .ret q
    | brk => exact .brk q
    | next => exact .next (fin q)
    | cont => exact .cont (fin q)
  · rintro h' tk m' news' F' N' _ hJ'
    exact done m' news' h' tk hJ' F' N'
end
theorem bInts_inj {b c : Array UInt8} (h : KBw.bInts b = KBw.bInts c) : b = c := by
  have h2 : b.toList = c.toList := by
    refine (List.map_inj_right (f := fun k : UInt8 => (k.toNat : Int)) fun x y e => ?_).mp h
    exact UInt8.toNat_inj.mp (Int.ofNat.inj e)
  exact Array.toList_inj.mp h2
/-- the tables, told of a ledger -/
def RT (g : Heap) (L : Addr) (R : List (Addr × Obj)) : Prop :=
  ∃ Ts : List Addr, (∀ a ∈ [112, 126, 133, 140, 224, 231, 238, 245, 252], a ∈ Ts) ∧ (∀ a ∈ Ts, g.get? a = none) ∧ ∀ h m, Fr g L h m → News g L h R → TabsIn Ts h
theorem RT.mono {g : Heap} {L : Addr} {R R' : List (Addr × Obj)} (x : RT g L R) (k : ∀ p ∈ R, p ∈ R') : RT g L R' :=
  let ⟨Ts, a, b, c⟩ := x; ⟨Ts, a, b, fun h m F N => c h m F fun p hp => N p (k p hp)⟩
/-- the rest of a heap holds its tables -/
theorem RT.of {g h : Heap} {L : Addr} {m : PySem.Str → Option Value} {base R : List (Addr × Obj)} {Ts : List Addr} (TI : TabsIn Ts h) (F : Fr g L h m) (N : News g L h base) (hb : ∀ p ∈ base, Harmless p.2) (A : All g L h (base ++ R))
    (h9 : ∀ a ∈ [112, 126, 133, 140, 224, 231, 238, 245, 252], a ∈ Ts) (hg : ∀ a ∈ Ts, g.get? a = none) : RT g L R := by
  refine ⟨Ts, h9, hg, fun h' m' F' N' => ?_⟩
  have k : Kp (L :: base.map (·.1)) h h' := fun b o nb e => by
    rcases A b o e with rfl | hgb | hm
    · exact absurd (.head _) nb
    · exact F'.keep _ _ hgb
    · rcases List.mem_append.mp hm with hm | hm
      · exact absurd (List.Mem.tail _ (List.mem_map_of_mem (f := (·.1)) hm)) nb
      · exact (N' _ hm).1
  refine TI.kpH k fun a ha o e => ?_
  rcases List.mem_cons.mp ha with rfl | ha
  · obtain ⟨o2, es, ep, e2, hd, _⟩ := F.ns
    rw [e] at e2; cases e2
    exact harmDict hd
  · obtain ⟨q, hq, rfl⟩ := List.mem_map.mp ha
    have := (N q hq).1
    rw [e] at this; cases this
    exact hb q hq

theorem part37 : True := by
  w_top off
  trivial
theorem out_len {kd wi bi n md : Int} {xs : List Vl} (hx : (kd, wi, bi) ∈ kdTab) (n1 : n ≤ 536870911) (hok : ∀ y ∈ xs, VlOk kd bi y) (h4 : xs.length ≤ 4) : (outOf kd wi n md xs).length ≤ 5000 := by
  by_cases h : md = 2
  · subst h
    have h1 := flatB hok h4
    have h2 := vi_len10 (n := (8 * n + 2).toNat) (by omega)
    have h3 := vi_len10 (n := (xs.flatMap (bare kd)).length) (by omega)
    rw [out2, List.length_append, List.length_append]; omega
  · rw [outN h]
    exact Nat.le_trans (flatT hx n1 hok h4) (by decide)
/-- the value of a field, and what of it lies in the ledger -/
def ValL (lvs : List (Addr × Obj)) (md : Int) (xs : List Vl) (x : Value) : Prop :=
  (md = 0 ∧ lvs = [] ∧ ∃ v t, xs = [v] ∧ x = Vl.at v t) ∨ (md ≠ 0 ∧ ∃ lv ys k, lvs = [(lv, PySem.W.listOf ys.toArray k)] ∧ x = .ref lv ∧ VsAt ys xs)
theorem ValL.harm {lvs : List (Addr × Obj)} {md : Int} {xs : List Vl} {x : Value} (V : ValL lvs md xs x) : ∀ p ∈ lvs, Harmless p.2 := fun p hp => by
  rcases V with ⟨_, rfl, _⟩ | ⟨_, lv, ys, k, rfl, _⟩
  · cases hp
  · rw [List.mem_singleton.mp hp]; exact harmSeq rfl
theorem ValL.val {g h : Heap} {L : Addr} {lvs led : List (Addr × Obj)} {md : Int} {xs : List Vl} {x : Value} (V : ValL lvs md xs x) (N : News g L h led) (s : ∀ p ∈ lvs, p ∈ led) : Val h md xs x := by
  rcases V with ⟨m0, _, v, t, e1, e2⟩ | ⟨m0, lv, ys, k, rfl, e2, e3⟩
  · exact .inl ⟨m0, v, t, e1, e2⟩
  · exact .inr ⟨m0, lv, ys, k, e2, (N _ (s _ (.head _))).1, e3⟩
theorem ValL.ne {lvs : List (Addr × Obj)} {md : Int} {xs : List Vl} {x : Value} {l : Addr} (V : ValL lvs md xs x) (h : ∀ p ∈ lvs, p.1 ≠ l) : x ≠ .ref l := by
  rcases V with ⟨_, _, v, t, _, rfl⟩ | ⟨_, lv, ys, k, rfl, rfl, _⟩
  · cases v <;> exact fun e => nomatch e
  · exact fun e => h _ (.head _) (Value.ref.inj e)
theorem DrO.harm {q : Addr} {od oq : Obj} (h : DrO q od oq) : Harmless od ∧ Harmless oq := by
  obtain ⟨D, t, nd, vs, nq, rfl, rfl, _⟩ := h
  exact ⟨harmSeq rfl, harmSeq rfl⟩
theorem newsTail {g h : Heap} {L : Addr} {x : Addr × Obj} {r : List (Addr × Obj)} (N : News g L h (x :: r)) : News g L h r := fun p hp => N p (.tail _ hp)
section
variable {w : World} {dp un : Nat} {fr : Option (List Env)} {gd : Option (List Code)} {s : Shared} {g : Heap} {L : Addr} {m : PySem.Str → Option Value} {mg mb : PySem.Str → Option Value} {p : Program} {loose : List PySem.Str} {mean : ExcName → Option Value}
  {Q E : Value → Shared → Prop} {news rest : List (Addr × Obj)}
theorem draw_use {a : Addr} {vs : List Value} {ns : List Int} (F : Fr g L s.heap m) (X : (Mine.hd.heap_39 w.params).In g) (T : Top p loose mean mg mb g) (N : News g L s.heap news)
    (hroom : dp + 60 < recursionLimit) (hun : un + 400 < cLine) (hl : g.IsList a vs.toArray) (hi : IntsAre vs ns) (hn : ns.length ≤ 63)
    (ret : ∀ d q od oq h' tk', DrO q od oq → @Ne Nat d q → (∀ p ∈ news, p.1 ∉ [d, q]) → Fr g L h' m → News g L h' ((d, od) :: (q, oq) :: news) → Q (.ref d) { s with heap := h', toks := tk' }) :
    wpAny (model PySem.Challenge.rw_ae6018_01.row.prog w) (AR dp un fr gd) (call (.ref 292) [.ref a]) Q E s :=
  draw_ok X T F.keep hroom hun (hl.at fun o e => F.keep _ o e) hi hn fun d q od oq h' tk' O k e1 e2 f1 f2 ne => by
    have off : ∀ {b o}, s.heap.get? b = some o → b ≠ d ∧ b ≠ q := fun {b o} e => ⟨fun c => (by rw [c, f1] at e; cases e), fun c => (by rw [c, f2] at e; cases e)⟩
    have fL : d ≠ L ∧ q ≠ L := by
      obtain ⟨o, _, _, e, _⟩ := F.ns
      exact ⟨fun c => (off e).1 c.symm, fun c => (off e).2 c.symm⟩
    have gn : ∀ {b}, s.heap.get? b = none → g.get? b = none := fun {b} e => by
      cases c : g.get? b with
      | none => rfl
      | some o => rw [F.keep _ _ c] at e; cases e
    refine ret d q od oq h' tk' O ne (fun p hp => off2 (off (N p hp).1).1 (off (N p hp).1).2) (frKp0 F k) fun p hp => ?_
    rcases List.mem_cons.mp hp with rfl | hp
    · exact ⟨e1, fL.1, gn f1⟩
    · rcases List.mem_cons.mp hp with rfl | hp
      · exact ⟨e2, fL.2, gn f2⟩
      · exact newsKp0 N k p hp
theorem field_use {d q : Addr} {od oq : Obj} (F : Fr g L s.heap m) (X : (Mine.hd.heap_39 w.params).In g) (T : Top p loose mean mg mb g) (N : News g L s.heap news) (hO : DrO q od oq)
    (hroom : dp + 60 < recursionLimit) (hun : un + 400 < cLine) (hdq : @Ne Nat d q) (md' : (d, od) ∈ news) (mq : (q, oq) ∈ news) (S : Sep [d, q] news rest)
    (ret : ∀ D kd wi bi n md xs x bo t1 t2 t3 t4 lvs h' tk' od' oq', (kd, wi, bi) ∈ kdTab → 1 ≤ n → n ≤ 536870911 → (md = 0 ∨ md = 1 ∨ md = 2) → (wi = 2 → md ≠ 2) → (∀ y ∈ xs, VlOk kd bi y) → xs.length ≤ 4 → KBw.bInts bo = outOf kd wi n md xs → DrO q od' oq' → ValL lvs md xs x →
      (∀ p ∈ lvs, ∀ r ∈ news, p.1 ≠ r.1) → Fr g L h' m → News g L h' ((D, tup5 kd n md x bo t1 t2 t3 t4) :: (d, od') :: (q, oq') :: (rest ++ lvs)) → Q (.ref D) { s with heap := h', toks := tk' }) :
    wpAny (model PySem.Challenge.rw_ae6018_01.row.prog w) (AR dp un fr gd) (call (.ref 335) [.ref d]) Q E s := by
  have fresh : ∀ {b}, s.heap.get? b = none → b ≠ L ∧ g.get? b = none ∧ ∀ r ∈ news, b ≠ r.1 := fun {b} e => by
    refine ⟨fun c => ?_, ?_, fun r hr c => ?_⟩
    · obtain ⟨o, _, _, e2, _⟩ := F.ns
      rw [c, e2] at e; cases e
    · cases c : g.get? b with
      | none => rfl
      | some o => rw [F.keep _ _ c] at e; cases e
    · rw [c, (N r hr).1] at e; cases e
  refine field_ok X T F.keep (N _ md').2.2 (N _ mq).2.2 hroom hun hdq (N _ md').1 (N _ mq).1 hO ?_ ?_
  · intro D kd wi bi n v b t1 t2 t3 t4 t5 h' tk' od' oq' hx n0 n1 hv hb k e1 e2 O' eD fD
    obtain ⟨F', N'⟩ := drawBack F N md' mq S k e1 e2
    have hD := fresh fD
    refine ret D kd wi bi n 0 [v] (v.at t5) b t1 t2 t3 t4 [] h' tk' od' oq' hx n0 n1 (.inl rfl) (fun _ => by decide) (fun y hy => (List.mem_singleton.mp hy) ▸ hv) (by simp) (by rw [outN (by decide), hb]; simp) O' (.inl ⟨rfl, rfl, v, t5, rfl, rfl⟩)
      (fun p hp => nomatch hp) F' fun p hp => ?_
    rcases List.mem_cons.mp hp with rfl | hp
    · exact ⟨eD, hD.1, hD.2.1⟩
    · rw [List.append_nil] at hp; exact N' p hp
  · intro D lv kd wi bi n md vs xs k0 b t1 t2 t3 t4 h' tk' od' oq' hx n0 n1 hvs h4 hok hb k e1 e2 O' eD fD el fl ne
    obtain ⟨F', N'⟩ := drawBack F N md' mq S k e1 e2
    have hD := fresh fD
    have hl := fresh fl
    have hm : md = 0 ∨ md = 1 ∨ md = 2 := hb.elim (fun z => .inr (.inl z.1)) fun z => .inr (.inr z.1)
    have hw : wi = 2 → md ≠ 2 := fun e => hb.elim (fun z => by rw [z.1]; decide) fun z => absurd e z.2.1
    have hz : md ≠ 0 := hb.elim (fun z => by rw [z.1]; decide) fun z => by rw [z.1]; decide
    refine ret D kd wi bi n md xs (.ref lv) b t1 t2 t3 t4 [(lv, PySem.W.listOf vs.toArray k0)] h' tk' od' oq' hx n0 n1 hm hw hok h4 ?_ O' (.inr ⟨hz, lv, vs, k0, rfl, rfl, hvs⟩) (fun p hp => by rw [List.mem_singleton.mp hp]; exact hl.2.2) F' fun p hp => ?_
    · rcases hb with ⟨rfl, e⟩ | ⟨rfl, _, e⟩
      · rw [outN (by decide), e]
      · rw [out2, e]
    · rcases List.mem_cons.mp hp with rfl | hp
      · exact ⟨eD, hD.1, hD.2.1⟩
      · rcases List.mem_cons.mp hp with rfl | hp
        · exact N' _ (.head _)
        · rcases List.mem_cons.mp hp with rfl | hp
          · exact N' _ (.tail _ (.head _))
          · rcases List.mem_append.mp hp with hp | hp
            · exact N' _ (.tail _ (.tail _ hp))
            · rw [List.mem_singleton.mp hp]; exact ⟨el, hl.1, hl.2.1⟩
theorem app_use {M : Program} {A : Around} {l : Addr} {xs : Array Value} {k : Nat} (F : Fr g L s.heap m) (N : News g L s.heap news) (ml : (l, PySem.W.listOf xs k) ∈ news)
    (ret : ∀ u h' tk', Fr g L h' m → News g L h' ((u, appObj l) :: news) → (∀ q ∈ news, q.1 < u) → Q (.ref u) { s with heap := h', toks := tk' }) :
    wpAny (model M w) A (getAttr (.ref l) (PySem.Str.ofString "append") true) Q E s :=
  getAttr_app (N _ ml).1 fun tk => ret _ _ _ (F.push _) (News.push F N _ rfl) fun q hq => Heap.lt_size (N q hq).1
end
/-- what a def of the heap says of itself -/
theorem lawIn {K : Frag} {q : Addr} {name qual name' qual' : PySem.Str} {params params' : Arguments} {body body' : List Stmt} {scope scope' : Scope} {dV kV doc pm cdv ct oc dV' kV' doc' pm' cdv' ct' oc' : Value} {an od an' od' : Option Addr} {osl osl' : Array (Option Value)} {P : Prop}
    (ho : K.lookup q = some ⟨oc', od', .func (fnOf name' qual' params' body' scope' dV' kV' doc' pm' an' cdv' ct'), osl'⟩) (hb : K.lookup q = some ⟨oc, od, .func (fnOf name qual params body scope dV kV doc pm an cdv ct), osl⟩)
    (h : name = name' → scope = scope' → body = body' → P) : P := by
  rw [ho] at hb
  injection hb with e
  injection e with _ _ e3 _
  injection e3 with e4
  injection e4 with a1 a2 a3 a4 a5
  injection a4 with a6
  exact h a1.symm a5.symm a6.symm

theorem part38 : True := by
  w_top off
  trivial
/-- what holds between the law's turns -/
def JLaw (g : Heap) (L d q l : Addr) (i : Nat) (m : PySem.Str → Option Value) (nx : List (Addr × Obj)) : Prop :=
  ∃ od oq vs n R b tb, nx = (l, PySem.W.listOf vs.toArray n) :: (d, od) :: (q, oq) :: R ∧ DrO q od oq ∧ Oct vs (KBw.bInts b) ∧ vs.length ≤ 2000 * i ∧ b.size ≤ 6000 * i ∧
    (∀ z ∈ [(PySem.Str.ofString "draw", Value.ref d), (PySem.Str.ofString "pieces", Value.ref l), (PySem.Str.ofString "due", Value.bytes b tb)], m z.1 = some z.2) ∧ RT g L R ∧ (∀ p ∈ R, p.1 ∉ [l] ∧ p.1 ∉ [d, q])
theorem base7 {Ts : List Addr} (h : ∀ a ∈ [112, 126, 133, 140, 224, 231, 238, 245, 252], a ∈ Ts) : ∀ a ∈ baseT, a ∈ Ts := by
  intro a ha
  simp only [baseT, List.mem_cons, List.not_mem_nil, or_false] at ha
  rcases ha with rfl | rfl | rfl | rfl | rfl | rfl | rfl <;> exact h _ (by simp)
theorem allLt_mem {d : Nat} : ∀ {l : List (Addr × Obj)}, AllLt d l → ∀ p ∈ l, @LT.lt Nat _ p.1 d
  | [], _, p, hp => nomatch hp
  | _ :: _, h, p, hp => (List.mem_cons.mp hp).elim (fun e => e ▸ h.1) fun hp => allLt_mem h.2 p hp
theorem modeOf {md : Int} (h : md = 0 ∨ md = 1 ∨ md = 2) : Mode md (decide (0 < md)) (decide (md = 2)) := by
  rcases h with rfl | rfl | rfl
  · exact .inl ⟨by decide, by decide, rfl⟩
  · exact .inr (.inl ⟨by decide, by decide, rfl⟩)
  · exact .inr (.inr ⟨by decide, by decide, rfl⟩)
theorem fnNe {g h : Heap} {L f : Addr} {m : PySem.Str → Option Value} (F : Fr g L h m) (x : FnAt f h) : f ∉ [L] := fun hm => by
  obtain ⟨oc, od, fd, sl, e⟩ := x
  obtain ⟨o, es, ep, e2, hd, _⟩ := F.ns
  rw [List.mem_singleton.mp hm, e2] at e
  cases e; cases hd
theorem noneOf {g h : Heap} {L b : Addr} {m : PySem.Str → Option Value} (F : Fr g L h m) (e : h.get? b = none) : g.get? b = none := by
  cases c : g.get? b with
  | none => rfl
  | some o => rw [F.keep _ _ c] at e; cases e
theorem tabsL {g h : Heap} {L : Addr} {Ts : List Addr} {m : PySem.Str → Option Value} (F : Fr g L h m) (TI : TabsIn Ts h) : L ∉ Ts := fun hm => by
  obtain ⟨ps, e, _⟩ := TI _ hm
  obtain ⟨o, es, ep, e2, hd, _⟩ := F.ns
  rw [e] at e2
  cases e2; cases hd
/-- what is harmless of a ledger stays over a turn of the tables -/
theorem newsTurn {g h h2 : Heap} {L : Addr} {Ts Ts' : List Addr} {led base : List (Addr × Obj)} (TI : TabsIn Ts h) (A : Turn Ts h h2 Ts') (N : News g L h led) (s : ∀ p ∈ base, p ∈ led) (hb : ∀ p ∈ base, Harmless p.2) : News g L h2 base := fun p hp => by
  have n := N p (s p hp)
  refine ⟨A.kp _ _ (fun hm => ?_) n.1, n.2⟩
  obtain ⟨ps, e, _⟩ := TI _ hm
  rw [n.1] at e
  exact (hb p hp).1 ps (Option.some.inj e)
def Hs (m : PySem.Str → Option Value) (qs : List (PySem.Str × Value)) : Prop := ∀ q ∈ qs, m q.1 = some q.2
theorem Hs.set {m : PySem.Str → Option Value} {qs : List (PySem.Str × Value)} {x : PySem.Str} (v : Value) (e : Hs m qs) (hne : ∀ q ∈ qs, ¬ (q.1 = x)) : Hs (fun y => if y = x then some v else m y) qs := setAll e hne
theorem dp_kind {vd vp : Value} : ∀ q ∈ [(PySem.Str.ofString "draw", vd), (PySem.Str.ofString "pieces", vp)], ¬ (q.1 = PySem.Str.ofString "kind") := all2 (show ¬ (PySem.Str.ofString "draw" = PySem.Str.ofString "kind") by decide +kernel) (show ¬ (PySem.Str.ofString "pieces" = PySem.Str.ofString "kind") by decide +kernel)
theorem dp_number {vd vp : Value} : ∀ q ∈ [(PySem.Str.ofString "draw", vd), (PySem.Str.ofString "pieces", vp)], ¬ (q.1 = PySem.Str.ofString "number") := all2 (show ¬ (PySem.Str.ofString "draw" = PySem.Str.ofString "number") by decide +kernel) (show ¬ (PySem.Str.ofString "pieces" = PySem.Str.ofString "number") by decide +kernel)
theorem dp_mode {vd vp : Value} : ∀ q ∈ [(PySem.Str.ofString "draw", vd), (PySem.Str.ofString "pieces", vp)], ¬ (q.1 = PySem.Str.ofString "mode") := all2 (show ¬ (PySem.Str.ofString "draw" = PySem.Str.ofString "mode") by decide +kernel) (show ¬ (PySem.Str.ofString "pieces" = PySem.Str.ofString "mode") by decide +kernel)
theorem dp_value {vd vp : Value} : ∀ q ∈ [(PySem.Str.ofString "draw", vd), (PySem.Str.ofString "pieces", vp)], ¬ (q.1 = PySem.Str.ofString "value") := all2 (show ¬ (PySem.Str.ofString "draw" = PySem.Str.ofString "value") by decide +kernel) (show ¬ (PySem.Str.ofString "pieces" = PySem.Str.ofString "value") by decide +kernel)
theorem dp_octets {vd vp : Value} : ∀ q ∈ [(PySem.Str.ofString "draw", vd), (PySem.Str.ofString "pieces", vp)], ¬ (q.1 = PySem.Str.ofString "octets") := all2 (show ¬ (PySem.Str.ofString "draw" = PySem.Str.ofString "octets") by decide +kernel) (show ¬ (PySem.Str.ofString "pieces" = PySem.Str.ofString "octets") by decide +kernel)
theorem dp_encode {vd vp : Value} : ∀ q ∈ [(PySem.Str.ofString "draw", vd), (PySem.Str.ofString "pieces", vp)], ¬ (q.1 = PySem.Str.ofString "encode") := all2 (show ¬ (PySem.Str.ofString "draw" = PySem.Str.ofString "encode") by decide +kernel) (show ¬ (PySem.Str.ofString "pieces" = PySem.Str.ofString "encode") by decide +kernel)
theorem dp_due {vd vp : Value} : ∀ q ∈ [(PySem.Str.ofString "draw", vd), (PySem.Str.ofString "pieces", vp)], ¬ (q.1 = PySem.Str.ofString "due") := all2 (show ¬ (PySem.Str.ofString "draw" = PySem.Str.ofString "due") by decide +kernel) (show ¬ (PySem.Str.ofString "pieces" = PySem.Str.ofString "due") by decide +kernel)
theorem refBack {g h g' h' : Heap} {L : Addr} {m : PySem.Str → Option Value} {led : List (Addr × Obj)} (F : Fr g L h m) (N : News g L h led) (TT : KtsTurn [L] h g') (st : g'.StaysIn h') : Fr g L h' m ∧ News g L h' led := by
  refine ⟨⟨?_, fun b o e => ?_, F.above⟩, fun p hp => ?_⟩
  · obtain ⟨o, es, ep, e, hd, r⟩ := F.ns
    obtain ⟨sl, e2⟩ := TT.frame L o e (List.Mem.head _)
    exact ⟨_, es, ep, st _ _ e2, hd, r⟩
  · refine st _ _ (TT.other b o (F.keep _ _ e) fun hm => ?_)
    rw [List.mem_singleton.mp hm, kts_self F] at e; cases e
  · exact ⟨st _ _ (TT.other _ _ (N p hp).1 fun hm => (N p hp).2.1 (List.mem_singleton.mp hm)), (N p hp).2⟩
theorem dictsL {g h : Heap} {L : Addr} {m : PySem.Str → Option Value} (F : Fr g L h m) : KtsDicts [L] h := fun b hb => by
  obtain ⟨o, es, ep, e, hd, _⟩ := F.ns
  rw [List.mem_singleton.mp hb]
  exact ⟨o, es, ep, e, hd⟩
theorem neDu : ¬ (PySem.Str.ofString "draw" = PySem.Str.ofString "due") := by decide +kernel
theorem neDp : ¬ (PySem.Str.ofString "draw" = PySem.Str.ofString "pieces") := by decide +kernel
theorem nePu : ¬ (PySem.Str.ofString "pieces" = PySem.Str.ofString "due") := by decide +kernel
theorem neTd : ¬ (PySem.Str.ofString "draw" = PySem.Str.ofString "turn") := by decide +kernel
theorem neTp : ¬ (PySem.Str.ofString "pieces" = PySem.Str.ofString "turn") := by decide +kernel
theorem neTu : ¬ (PySem.Str.ofString "due" = PySem.Str.ofString "turn") := by decide +kernel
local macro_rules | `(tactic| walk_at "call type:range") => `(tactic| ((rename Fr _ _ _ _ => F'); (rename News _ _ _ _ => N'); with_unfolding_all refine range1_rows F' N' ?_; intro _ _ _ _ _ _ _ _ _))
local macro_rules | `(tactic| walk_at "call ref") => `(tactic| ((with_reducible show wpAny _ _ (call (Value.ref 292) [Value.ref _]) _ _ _); k_dflt (refine' draw_use ?F ?X ?T ?N ?r ?u ?l ?i ?n ?_; (case F => k_asm); (case X => k_asm); (case T => k_asm); (case N => k_asm); (case r => omega); (case u => omega); (case l => with_reducible assumption); (case i => with_reducible assumption); (case n => with_reducible assumption); k_whole); intro d' q' od' oq' h' tk' O' dq' off' F' N'))
local macro_rules | `(tactic| walk_at "call ref") => `(tactic| ((with_reducible show wpAny _ _ (call (Value.ref 335) _) _ _ _); refine Hold.out ?_))
local macro_rules | `(tactic| walk_at "getAttr ref") => `(tactic| ((with_reducible show wpAny _ _ (getAttr (Value.ref _) (PySem.Str.ofString "append") _) _ _ _); k_dflt (refine' app_use ?F ?N ?ml ?_; (case F => k_asm); (case N => k_asm); (case ml => k_mem)); intro u' h' tk' F' N' l1'))
local macro_rules | `(tactic| walk_at "callWith ref") => `(tactic| ((with_reducible show wpAny _ _ (callWith _ (Value.ref _) [] (backTo _ (starEach (_ :: _) _)) []) _ _ _); (with_reducible rename ∀ (h3 : Heap) (m3 : PySem.Str → Option Value), Fr _ _ h3 m3 → News _ _ h3 _ → FnAt _ h3 => kFn); k_dflt (refine' callWith_F (first := []) ?q ?_ ?h1 ?h2; (case q => exact kFn _ _ (by k_asm) (by k_asm)); (case h1 => rfl); (case h2 => rfl); k_whole)))
local macro_rules | `(tactic| walk_at "And") => `(tactic| ((with_reducible show FnAt _ _ ∧ _); (with_reducible rename ∀ (h3 : Heap) (m3 : PySem.Str → Option Value), Fr _ _ h3 m3 → News _ _ h3 _ → FnAt _ h3 => kFn); refine' And.intro ?k ?_; (case k => k_dflt (exact kFn _ _ (by k_asm) (newsTail (by k_asm)))); (try dsimp only [List.nil_append, List.cons_append])))
local macro_rules | `(tactic| walk_at "call ref") => `(tactic| ((with_reducible show wpAny _ _ (call (Value.ref 342) _) _ _ _); refine Hold.out ?_))
section
variable {w : World} {dp un : Nat} {gd : Option (List Code)} {s : Shared} {g : Heap} {L fa a : Addr} {mg mb : PySem.Str → Option Value} {p : Program} {loose : List PySem.Str} {mean : ExcName → Option Value}
  {Q : Flow → Shared → Prop} {name qual : PySem.Str} {params : Arguments} {body : List Stmt} {scope : Scope} {dV kV doc pm cdv ct oc cd : Value} {an od : Option Addr} {osl : Array (Option Value)} {A₀ : Around}
set_option maxRecDepth 100000 in
set_option maxHeartbeats 8000000 in
theorem law_body {vs : List Value} {ns : List Int} {R0 : List (Addr × Obj)}
    (X : (Mine.hd.heap_39 w.params).In g) (T : Top p loose mean mg mb g) (C : Codes g) (K0 : Below A₀ g [] g) (hA : A₀.deeper (envOf name scope L fa cd) = AR dp un (some [envOf name scope L fa cd]) gd)
    (hbody : (Mine.hd.heap_39 w.params).lookup 349 = some ⟨oc, od, .func (fnOf name qual params body scope dV kV doc pm an cdv ct), osl⟩)
    (F : Fr g L s.heap (fun y => [(PySem.Str.ofString "script", Value.ref a)].reverse.lookup y)) (N : News g L s.heap R0) (hR0 : RT g L R0)
    (hl : g.IsList a vs.toArray) (hi : IntsAre vs ns) (hn : ns.length ≤ 63) (hroom : dp + 150 < recursionLimit) (hun : un + 900 < cLine)
    (ret : ∀ h' m' tk' Ts, Fr g L h' m' → TabsIn Ts h' → (∀ a ∈ [112, 126, 133, 140, 224, 231, 238, 245, 252], a ∈ Ts) → Q (.ret (.bool true)) { s with heap := h', toks := tk' }) :
    wpAny (model PySem.Challenge.rw_ae6018_01.row.prog w) (AR dp un (some [envOf name scope L fa cd]) gd) (execs body (envOf name scope L fa cd)) Q noE s := by
  revert X
  k_fill
  intro X
  refine' lawIn ?ho hbody ?_
  case ho => k_is
  intro e1 e2 e3
  subst e1 e2 e3
  clear hbody
  show wpAny _ _ _ _ _ _
  (try dsimp only)
  (try k_fold)
  k_steps
  refine Hold.mk ?_
  (rename Fr _ _ _ _ => F1)
  k_dflt (refine' For_invV g ?a1 ?a2 ?_ ?a3 ?a4)
  case a1 => rfl
  case a2 => rfl
  case a3 => intro _; with_unfolding_all rfl
  case a4 => exact passes_noE
  k_steps
  refine Hold.mk ?_
  (rename Fr _ _ _ _ => F2)
  (rename News _ _ _ _ => N2)
  (rename DrO _ _ _ => O1)
  (rename IsRange _ _ _ _ _ _ _ _ => hR)
  (rename (_ : Int) < 4 => hk4)
  (rename (0 : Int) ≤ _ => hk0)
  (rename @Ne Nat _ _ => dq)
  (rename DrO _ _ _ => O1)
  (rename _ < _ ∧ _ < _ ∧ AllLt _ _ => hlt)
  (rename ∀ p ∈ R0, p.1 ∉ [_, _] => hoff)
  rename_i d q od1 oq1 h6 tk1 O0 h5 tk2 l h4 h3 h2 N0 r tr h1 tk3 od0 oq0 F0 N00 hh tk4 t1 u1 v1 hkeep
  have hld : @Ne Nat l d := Nat.ne_of_gt hlt.1
  have hlq : @Ne Nat l q := Nat.ne_of_gt hlt.2.1
  have hlR : ∀ p ∈ R0, p.1 ≠ l := fun p hp => Nat.ne_of_lt (allLt_mem hlt.2.2 p hp)
  have N3 : News g L hh ((l, PySem.W.listOf ([] : List Value).toArray 0) :: (d, od0) :: (q, oq0) :: R0) := fun p hp => N2 p (by
    rcases List.mem_cons.mp hp with rfl | hp
    · exact .tail _ (.tail _ (.head _))
    · rcases List.mem_cons.mp hp with rfl | hp
      · exact .head _
      · rcases List.mem_cons.mp hp with rfl | hp
        · exact .tail _ (.head _)
        · exact .tail _ (.tail _ (.tail _ hp)))
  k_dflt (refine' for_law (JLaw g L d q l) hR ?b1 ?b2 ?b3 F2 N3 ?b4 ?_ ?_)
  case b1 => omega
  case b2 => omega
  case b3 => rfl
  case b4 => exact ⟨od0, oq0, [], 0, R0, #[], _, rfl, O1, .nil, by simp, by simp, all3 ((if_neg neDu).trans ((if_neg neDp).trans (if_pos rfl))) ((if_neg nePu).trans (if_pos rfl)) (if_pos rfl), hR0, fun p hp => ⟨off1 (hlR p hp), hoff p hp⟩⟩
  · clear F0 N00 F1 N0 F2 N2 N3 hkeep hR0 hoff hlt O0 O1 hlR
    intro i t m₁ news₁ h tk own hik ⟨od, oq, vs1, n1, R, b, tb, hnx, O, hOct, hz, hbz, hm, hRT, hoffR⟩ hharm hown F3 N3
    subst hnx
    have hi4 : i < 4 := by omega
    have hps : ∀ z ∈ [(PySem.Str.ofString "turn", Value.int (i : Nat) t), (PySem.Str.ofString "draw", Value.ref d), (PySem.Str.ofString "pieces", Value.ref l), (PySem.Str.ofString "due", Value.bytes b tb)], (fun y => if y = PySem.Str.ofString "turn" then some (Value.int (i : Nat) t) else m₁ y) z.1 = some z.2 :=
      List.forall_mem_cons.mpr ⟨if_pos rfl, all3 ((if_neg neTd).trans (hm _ (List.Mem.head _))) ((if_neg neTp).trans (hm _ (List.Mem.tail _ (List.Mem.head _)))) ((if_neg neTu).trans (hm _ (List.Mem.tail _ (List.Mem.tail _ (List.Mem.head _)))))⟩
    have F4 := frSets F3 hps
    have N4 : News g L h ((l, PySem.W.listOf vs1.toArray n1) :: (d, od) :: (q, oq) :: (R ++ own)) := N3
    have hRd : ∀ p ∈ R ++ own, p.1 ∉ [d, q] := fun p hp => (List.mem_append.mp hp).elim (fun z => (hoffR p z).2) fun z => off2 (hown p z (d, od) (by simp)) (hown p z (q, oq) (by simp))
    have hRl : ∀ p ∈ R ++ own, p.1 ∉ [l] := fun p hp => (List.mem_append.mp hp).elim (fun z => (hoffR p z).1) fun z => off1 (hown p z (l, _) (List.Mem.head _))
    clear F3 N3
    k_steps
    refine Hold.mk ?_
    (rename Fr _ _ _ _ => F5)
    (rename News _ _ _ _ => N5)
    k_dflt (refine' field_use F5 X T N5 O ?r ?u dq ?md ?mq (Sep.keep (off2 hld hlq) (Sep.drop in2a (Sep.drop in2b (Sep.all hRd)))) ?_)
    case r => omega
    case u => omega
    case md => exact .tail _ (.head _)
    case mq => exact .tail _ (.tail _ (.head _))
    intro D kd wi bi num md xs x bo t1 t2 t3 t4 lvs h' tk' od' oq' hx n0 n1' hmd hw2 hok h4 hbo O' V hlv F6 N6
    dsimp only [tup5, List.cons_append] at N6
    clear F5 N5
    k_steps
    refine Hold.mk ?_
    (rename Fr _ _ _ _ => F7)
    (rename News _ _ _ _ => N7)
    obtain ⟨Ts, h9, hgT, hT⟩ := hRT
    have TI := hT _ _ F7 fun p hp => N7 p (.tail _ (.tail _ (.tail _ (.tail _ (List.mem_append_left _ (List.mem_append_left _ hp))))))
    k_dflt (refine' encoderOf_ok (md := md) X T F7.keep hgT ?r ?u C (base7 h9) TI ?mode hx hw2 ?n0 n1' ?_)
    case r => omega
    case u => omega
    case mode => exact modeOf hmd
    case n0 => omega
    intro f h2 tk2 Ts' A
    have hbH : ∀ p ∈ (l, PySem.W.listOf vs1.toArray n1) :: (d, od') :: (q, oq') :: (lvs ++ own), Harmless p.2 := List.forall_mem_cons.mpr ⟨harmSeq rfl, List.forall_mem_cons.mpr ⟨O'.harm.1, List.forall_mem_cons.mpr ⟨O'.harm.2, fun p hp => (List.mem_append.mp hp).elim (V.harm p) (hharm p)⟩⟩⟩
    have F8 := frKp F7 A.turn.kp hgT (tabsL F7 TI)
    have N8 := newsTurn (base := (l, PySem.W.listOf vs1.toArray n1) :: (d, od') :: (q, oq') :: (lvs ++ own)) TI A.turn N7 (fun p hp => by
      rcases List.mem_cons.mp hp with rfl | hp
      · exact .tail _ (.tail _ (.tail _ (.head _)))
      · rcases List.mem_cons.mp hp with rfl | hp
        · exact .tail _ (.head _)
        · rcases List.mem_cons.mp hp with rfl | hp
          · exact .tail _ (.tail _ (.head _))
          · exact .tail _ (.tail _ (.tail _ (.tail _ ((List.mem_append.mp hp).elim (fun z => List.mem_append_right _ z) fun z => List.mem_append_left _ (List.mem_append_right _ z)))))) hbH
    obtain ⟨R2, NR2, offR2, AL⟩ := restL F8 N8
    have RT2 := RT.of A.turn.tabs F8 N8 hbH AL (fun a ha => A.turn.sub a (h9 a ha)) fun a ha => (A.turn.new a ha).elim (hgT a) (noneOf F7)
    have N9 : News g L h2 ((l, PySem.W.listOf vs1.toArray n1) :: (d, od') :: (q, oq') :: ((lvs ++ own) ++ R2)) := newsApp N8 NR2
    have KF : ∀ (h3 : Heap) (m3 : PySem.Str → Option Value), Fr g L h3 m3 → News g L h3 ((l, PySem.W.listOf vs1.toArray n1) :: (d, od') :: (q, oq') :: ((lvs ++ own) ++ R2)) → FnAt f h3 := fun h3 m3 F N => fnUp A.fn fun o e => AL.kp F (fun p hp => (N p hp).1) _ o (fnNe F8 A.fn) e
    have hex : ∀ a ∈ [L, l], g.get? a = none ∧ ∃ o, h2.get? a = some o ∧ Mut o := fun a ha => by
      rcases List.mem_cons.mp ha with rfl | ha
      · obtain ⟨o, es, ep, e, hd, _⟩ := F8.ns
        exact ⟨kts_self F8, o, e, .inr (.inl ⟨es, ep, hd⟩)⟩
      · rw [List.mem_singleton.mp ha]
        exact ⟨(N9 _ (List.Mem.head _)).2.2, _, (N9 _ (List.Mem.head _)).1, .inl ⟨_, _, rfl⟩⟩
    have hTl : ∀ p ∈ (lvs ++ own) ++ R2, p.1 ∉ [l] := fun p hp => (List.mem_append.mp hp).elim (fun z => (List.mem_append.mp z).elim (fun z => off1 (hlv p z (l, _) (List.Mem.head _))) fun z => off1 (hown p z (l, _) (List.Mem.head _))) fun z => off1 (offR2 p z (l, _) (List.Mem.head _))
    have hR2d : ∀ p ∈ R2, p.1 ∉ [l] ∧ p.1 ∉ [d, q] := fun p hp => ⟨hTl p (List.mem_append_right _ hp), off2 (offR2 p hp (d, od') (.tail _ (.head _))) (offR2 p hp (q, oq') (.tail _ (.tail _ (.head _))))⟩
    have hvl : x ≠ .ref l := V.ne fun p hp => hlv p hp (l, _) (List.Mem.head _)
    have hbs : bo.size ≤ 5000 := by rw [← KBw.ints_length, hbo]; exact out_len hx n1' hok h4
    (try clear F6)
    (try clear N6)
    clear F7 N7 N8 TI hT
    k_steps
    rename_i hltu
    (rename Fr _ _ _ _ => F10)
    (rename News _ _ _ _ => N10)
    have hkp := AL.kp F10 fun p hp => (N10 p (List.Mem.tail _ hp)).1
    k_dflt (refine' A.made [L, l] hex ?st ?hn ?W (N10 (l, _) (List.Mem.tail _ (List.Mem.head _))).1 hOct ?z (V.val N10 ?sub) hvl hok h4 ?r ?u ?_)
    case st => exact fun a o e => hkp a o (fun hm => by rw [List.mem_singleton.mp hm, hideAll_none _ (List.Mem.head _)] at e; cases e) (of_hideAll _ e)
    case hn => exact hideAll_none _ (List.Mem.tail _ (List.Mem.head _))
    case W => exact Wr.app (Nat.ne_of_gt (hltu (l, _) (List.Mem.head _))) (N10 _ (List.Mem.head _)).1
    case z => omega
    case sub => exact fun p hp => .tail _ (.tail _ (.tail _ (.tail _ (List.mem_append_left _ (List.mem_append_left _ hp)))))
    case r => omega
    case u => omega
    intro v vs2 n2 h3 tk3 O3 z3 k3 e3
    obtain ⟨F11, N11⟩ := oneBack F10 N10 (.tail _ (.head _)) (Sep.skip (Sep.drop in1 (Sep.keep (off1 hld.symm) (Sep.keep (off1 hlq.symm) (Sep.all hTl))))) k3 e3
    clear F10 N10 hltu hkp k3 e3
    k_steps
    refine Hold.mk ?_
    rename_i tD kD hD F12 N12
    k_dflt (refine' join_ok (N12 _ (List.Mem.head _)).1 O3 ?z ?_)
    case z => rw [List.length_append, KBw.ints_length, ← hbo, KBw.ints_length]; omega
    intro bJ tJ kJ hJ
    have hbj : bJ = b ++ bo := bInts_inj (hJ.trans (KBw.ints_app rfl hbo).symm)
    subst hbj
    k_steps
    all_goals first
      | exact absurd (show ((b ++ bo).toList != (b ++ bo).toList) = true by assumption) (by simp)
      | skip
    have hkeep := kstAll (m := fun y => if y = PySem.Str.ofString "turn" then some (Value.int (i : Nat) t) else m₁ y) hps
    have hdp : Hs (kstB (fun y => if y = PySem.Str.ofString "turn" then some (Value.int (i : Nat) t) else m₁ y) [(PySem.Str.ofString "turn", Value.int (i : Nat) t), (PySem.Str.ofString "draw", Value.ref d), (PySem.Str.ofString "pieces", Value.ref l), (PySem.Str.ofString "due", Value.bytes b tb)]) [(PySem.Str.ofString "draw", Value.ref d), (PySem.Str.ofString "pieces", Value.ref l)] := all2 (hkeep _ (List.Mem.head _)) (hkeep _ (List.Mem.tail _ (List.Mem.head _)))
    have hfin := ((((((hdp.set (Value.int kd t1) dp_kind).set (Value.int num t2) dp_number).set (Value.int md t3) dp_mode).set x dp_value).set (Value.bytes bo t4) dp_octets).set (Value.ref f) dp_encode).set (Value.bytes (b ++ bo) tD) dp_due
    have hfD := hfin _ (List.Mem.head _)
    have hfP := hfin _ (List.Mem.tail _ (List.Mem.head _))
    refine ⟨_, _, _, (l, PySem.W.listOf vs2.toArray n2) :: (d, od') :: (q, oq') :: R2, rfl, F12, fun p hp => N12 p ?_, fun p hp z hz => ?_, od', oq', vs2, n2, R2, b ++ bo, tD, rfl, O', hJ ▸ O3, ?_, ?_, ?_, RT2, hR2d⟩
    · rcases List.mem_append.mp hp with hp | hp
      · rcases List.mem_cons.mp hp with rfl | hp
        · exact .head _
        · rcases List.mem_cons.mp hp with rfl | hp
          · exact .tail _ (.head _)
          · rcases List.mem_cons.mp hp with rfl | hp
            · exact .tail _ (.tail _ (.head _))
            · exact .tail _ (.tail _ (.tail _ (List.mem_append_right _ hp)))
      · exact .tail _ (.tail _ (.tail _ (List.mem_append_left _ (List.mem_append_right _ hp))))
    · rcases List.mem_cons.mp hz with rfl | hz
      · exact hown p hp (l, PySem.W.listOf vs1.toArray n1) (List.Mem.head _)
      · rcases List.mem_cons.mp hz with rfl | hz
        · exact hown p hp (d, od) (.tail _ (.head _))
        · rcases List.mem_cons.mp hz with rfl | hz
          · exact hown p hp (q, oq) (.tail _ (.tail _ (.head _)))
          · exact fun c => offR2 z hz p (.tail _ (.tail _ (.tail _ (List.mem_append_right _ hp)))) c.symm
    · omega
    · rw [Array.size_append]; omega
    · exact List.forall_mem_cons.mpr ⟨hfD, List.forall_mem_cons.mpr ⟨hfP, List.forall_mem_cons.mpr ⟨if_pos rfl, List.forall_mem_nil _⟩⟩⟩
  · clear F0 N00 F1 N0 F2 N2 N3 hkeep hR0 hoff hlt O0 O1 hlR
    intro m₁ news₁ h tk ⟨od, oq, vs1, n1, R, b, tb, hnx, O, hOct, hz, hbz, hm, hRT, hoffR⟩ F3 N3
    subst hnx
    k_steps
    refine Hold.mk ?_
    refine refused_ok (.inl rfl) X T (hA ▸ Below.push K0 F3 rfl) (dictsL F3) (by omega) fun h' g' tk' TT st => ?_
    obtain ⟨F4, N4⟩ := refBack F3 N3 TT st
    clear F3 N3 TT st
    k_steps
    refine Hold.mk ?_
    refine refused_ok (.inr rfl) X T (hA ▸ Below.push K0 F4 rfl) (dictsL F4) (by omega) fun h' g' tk' TT st => ?_
    obtain ⟨F5, N5⟩ := refBack F4 N4 TT st
    clear F4 N4 TT st
    k_steps
    obtain ⟨Ts, h9, hgT, hT⟩ := hRT
    exact ret _ _ _ Ts F5 (hT _ _ F5 fun p hp => N5 p (.tail _ (.tail _ (.tail _ hp)))) h9
end
theorem rt0 {g h : Heap} {L : Addr} (N : News g L h [(252, tabObj #[]), (245, tabObj #[]), (238, tabObj #[]), (231, tabObj #[]), (224, tabObj #[]), (140, tabObj #[]), (133, tabObj #[]), (112, tabObj #[]), (126, tabObj #[])]) :
    RT g L [(252, tabObj #[]), (245, tabObj #[]), (238, tabObj #[]), (231, tabObj #[]), (224, tabObj #[]), (140, tabObj #[]), (133, tabObj #[]), (112, tabObj #[]), (126, tabObj #[])] := by
  have one : ∀ a ∈ [252, 245, 238, 231, 224, 140, 133, 112, 126], (a, tabObj #[]) ∈ [(252, tabObj #[]), (245, tabObj #[]), (238, tabObj #[]), (231, tabObj #[]), (224, tabObj #[]), (140, tabObj #[]), (133, tabObj #[]), (112, tabObj #[]), (126, tabObj #[])] := fun a ha => List.mem_map_of_mem (f := fun a => ((a : Addr), tabObj #[])) ha
  refine ⟨[252, 245, 238, 231, 224, 140, 133, 112, 126], fun a ha => ?_, fun a ha => (N _ (one a ha)).2.2, fun h' m F N' P hP => ⟨#[], (N' _ (one P hP)).1, True.intro, fun k _ => .inl rfl⟩⟩
  simp only [List.mem_cons, List.not_mem_nil, or_false] at ha ⊢
  rcases ha with rfl | rfl | rfl | rfl | rfl | rfl | rfl | rfl | rfl <;> decide
theorem grownAll {h : Heap} {Ts : List Addr} (TI : TabsIn Ts h) (h9 : ∀ a ∈ [112, 126, 133, 140, 224, 231, 238, 245, 252], a ∈ Ts) :
    GrownAll [(256, 252), (249, 245), (242, 238), (235, 231), (228, 224), (144, 140), (137, 133), (116, 112), (130, 126)] h := by
  have one : ∀ a ∈ [112, 126, 133, 140, 224, 231, 238, 245, 252], GrownAt a h := fun a ha => let ⟨ps, e, _⟩ := TI _ (h9 a ha); ⟨ps, e⟩
  exact ⟨one _ (by simp), one _ (by simp), one _ (by simp), one _ (by simp), one _ (by simp), one _ (by simp), one _ (by simp), one _ (by simp), one _ (by simp), True.intro⟩

end Mine
set_option maxRecDepth 100000 in
set_option maxHeartbeats 8000000 in
theorem PySem.Challenge.cw_ae6018_01_holds : PySem.Challenge.rw_ae6018_01.Holds := by
  refine Mine.hd ?_
  k_go0
  (rename Below _ _ _ _ => K')
  (rename Fr _ _ _ _ => F')
  (rename News _ _ _ _ => N')
  (rename Top _ _ _ _ _ _ => T')
  (rename Frag.In _ _ => X')
  (rename IntsAre _ _ => hI)
  (rename Heap.IsList _ _ _ => hL)
  (rename TabsAt _ _ => hT9)
  have CA := ghost_code hT9
  k_dflt (refine' wpAny_mono (Mine.law_body (A₀ := callerA) X' T' ⟨CA.2.2.2.2.2.2.2.1, CA.2.2.2.2.2.2.2.2.1, CA.2.2.2.2.2.2.1, CA.2.2.2.2.2.1, CA.2.2.2.2.1, CA.2.2.2.1, CA.2.2.1⟩ K' ?hA ?ho F' N' (Mine.rt0 N') hL hI ?hn ?hr ?hu ?ret) (fun _ _ z => z) ?he)
  case hA => rfl
  case ho => k_is
  case hn => omega
  case hr => decide +kernel
  case hu => decide +kernel
  case he => exact fun _ _ z => z.elim
  case ret =>
    intro h' m' tk' Ts F2 TI h9
    have GA := Mine.grownAll TI h9
    refine ⟨?_, GA⟩
    (rename Shared.gens _ = #[] => hg)
    exact goodW_bool F2 hg (fun _ => rfl) (postW_of (by wrow_shape) (by wtm_val) (by first | rfl | (str_meet; first | done | w_fin))) rfl
