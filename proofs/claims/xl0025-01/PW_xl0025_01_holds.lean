import PyProof.Rows.All
import PyProof.SliceList
import PyProof.CollectWalk
import PyProof.ListOps
import PyProof.DictKinds
import PyProof.EnumFor
import PyProof.EnumMake
import PyProof.IsRules
import PyProof.NeKinds
import PyProof.StrLawsJoin
import PyProof.StrLawsChain
import PyProof.StrLawsOcc
import PyProof.FitsReplace
import PyProof.LayNew
import PyProof.ListNew
import PyProof.ListIndexNeg
import PyProof.StrLawsIdx
import PyProof.SetScanFacts
import PyProof.SetKind
import PyProof.ZipIter
import PyProof.WalksPairs
import PyProof.StrCalls2
import PyProof.StrLawsWords
import PyProof.Rows.StrItems
import PyProof.StrLawsTight
import PyProof.StrLawsNeg
import PyProof.RulesAssignMore
import PyProof.Rows.SumAny
import PyProof.Rows.SortWalk
import PyProof.SetRoads
import KE.KBoundM
import KE.KCallOwn
import KE.KDictList
import KE.KDictSum
import KE.KFromBytes
import KE.KStateDown
import KE.KSuper
import Wide.FinOn
import OpenK.AllK
import Wide.All
import Lean
import PySem.Challenge.RW_xl0025_01
set_option linter.all false
open PySem PySem.W PySem.Spec PySem.Calls PyProof.Rows
set_option Elab.async false
set_option bootstrap.genMatcherCode false
set_option compiler.extract_closed false
set_option tactic.hygienic false
set_option maxRecDepth 100000
set_option maxHeartbeats 4000000
namespace Mine
theorem hd (f : False) : PySem.Challenge.rw_xl0025_01.row.Holds := by
  w_on
  have said : PySem.Challenge.rw_xl0025_01.row.wellSaid = true := f.elim
  refine' (And.intro ?main (And.intro ?hl ?hc)).1
  case main =>
    k_head
    w_witness2
  all_goals first | exact f.elim | exact True
end Mine
example : (PySem.Challenge.rw_xl0025_01 = PySem.Challenge.rw_xl0025_01) ∧ Mine.hd.heap_1 = Mine.hd.heap_1 := by
  k_fill
  exact ⟨rfl, rfl⟩
namespace Mine
def tS (x : Array Lean.Syntax) : Lean.Syntax := .node .none `Lean.Parser.Tactic.tacticSeq #[.node .none `Lean.Parser.Tactic.tacticSeq1Indented #[.node .none `null x]]
def tQ : Lean.Syntax := .node .none `Lean.Parser.Tactic.tacticRfl #[.atom .none "rfl"]
def tR : Lean.Syntax := tS #[tQ]
def tD : Lean.Syntax := tS #[.node .none `Lean.Parser.Tactic.decide #[.atom .none "decide", .node .none `Lean.Parser.Tactic.optConfig #[.node .none `null #[]]]]
def tI : Lean.Syntax := tS #[.node .none `Lean.Parser.Tactic.intros #[.atom .none "intros", .node .none `null #[]], .atom .none ";", tQ]
noncomputable abbrev VP :=
 Value → Shared → Prop
noncomputable abbrev NM :=
 Str → Option Value
noncomputable abbrev PW := PySem.Challenge.pw_xl0025_01
noncomputable abbrev Ar (dp un : Nat) (fr : Option (List Env)) (gd : Option (List Code)) : Around := { handled := none, depth := dp, frames := fr, guards := gd, units := un }
noncomputable abbrev accObj (d : Addr) (items : Array Value) (n : Nat) : Obj := { cls := .ref 185, dict := some d, data := .seq items n }
noncomputable abbrev Key (w : World) (x : String) (t : Tok) (v : Value) : DictEntry := ⟨PyData.keyHash w.params (Str.ofString x), .str (Str.ofString x) t, v⟩
structure St (w : World) (mg mb : NM) (b₀ : Heap) : Prop where
 K : (hd.heap_1 w.params).In b₀
 top : ∃ loose mean, Top hd.view_1 loose mean mg mb b₀
theorem St.keeps {w mg mb} {b₀ h : Heap} (S : St w mg mb b₀) (k : ∀ b o, b₀.get? b = some o → h.get? b = some o) : St w mg mb h :=
 ⟨S.K.keeps k, let ⟨l, m, T⟩ := S.top; ⟨l, m, T.keeps k⟩⟩
structure Ch (h h' : Heap) (upd new : List (Addr × Obj)) : Prop where
 keep : ∀ b o, b ∉ upd.map (·.1) → h.get? b = some o → h'.get? b = some o
 upd : ∀ p ∈ upd, h'.get? p.1 = some p.2
 new : ∀ p ∈ new, h'.get? p.1 = some p.2 ∧ h.get? p.1 = none
noncomputable def Own (b₀ h : Heap) (l : List (Addr × Obj)) : Prop := ∀ p ∈ l, h.get? p.1 = some p.2 ∧ b₀.get? p.1 = none
section
variable {w : World} {mg mb : NM} {b₀ : Heap} {s : Shared} {A : Around} {R : Result → Shared → Prop} {name qual : Str} {params : Arguments} {body : List Stmt} {scope : Scope} {dV kV doc pm cdv ct oc : Value} {an od : Option Addr} {osl : Array (Option Value)} {f : Addr} {args : Args} {binds : List (Str × Value)} {mine : List (Addr × Obj)}
theorem enter (C : St w mg mb b₀) (k₀ : b₀.StaysIn s.heap) (O : Own b₀ s.heap mine) (hroom : A.depth < recursionLimit)
  (ho : (hd.heap_1 w.params).lookup f = some ⟨oc, od, .func (fnOf name qual params body scope dV kV doc pm an cdv ct), osl⟩) (hcd : codeIn (hd.heap_1 w.params) cdv qual = true)
  (hbind : BindsTo s (fnOf name qual params body scope dV kV doc pm an cdv ct) args binds) (hloc : ∀ y ∈ binds, scope.names.lookup y.1 = some .local)
  (h : ∀ L h₀ h₁, L = s.heap.objs.size → h₀ = hideAll s.heap (mine.map (·.1)) → Fr h₀ L h₁ (fun y => binds.reverse.lookup y) → News h₀ L h₁ mine → (∀ p ∈ mine, p.1 < L) → b₀.StaysIn h₀ → St w mg mb h₀ →
   wpAny (model PW w) (A.deeper (envOf qual scope L f cdv)) (execs body (envOf qual scope L f cdv))
    (fun fl s' => R (.ok (.ret (match fl with | .ret v => v | _ => .none))) s') (fun ι ι => False) { s with heap := h₁, toks := s.toks + binds.length })
  (hco : scope.isCoroutine = false) (hgen : scope.isGenerator = false) (hk : scope.kind = .function)
  (hcell : ∀ x ∈ scope.names, x.2 ≠ .cell) : codeAny (model PW w) A (.call (.ref f) args) R s := by
 obtain ⟨loose, mean, T⟩ := C.top
 refine codeAny_call_def (fd := fnOf name qual params body scope dV kV doc pm an cdv ct) (body := body) (binds := binds) hroom ((C.K.keeps k₀) _ _ ho) rfl (T.nolimit.keeps k₀) (codeRec_of (C.K.keeps k₀) hcd) rfl hbind hcell hloc (fun h₁ hns hk₁ => ?_) hco hgen hk
 have st : b₀.StaysIn (hideAll s.heap (mine.map (·.1))) := fun b o e => hideAll_get _ (k₀ b o e) fun q => by
  obtain ⟨p, hp, rfl⟩ := List.mem_map.mp q
  rw [(O p hp).2] at e; cases e
 refine wpAny_mono (h _ _ h₁ rfl rfl ⟨hns, fun b o e => hk₁ b o (of_hideAll _ e), Nat.le_of_eq (hideAll_size _ _)⟩
  (fun p hp => ⟨hk₁ _ _ (O p hp).1, Nat.ne_of_lt (Heap.lt_size (O p hp).1), hideAll_none _ (List.mem_map_of_mem hp)⟩) (fun p hp => Heap.lt_size (O p hp).1) st (C.keeps st)) (fun ι ι x => x) fun ι ι x => x.elim
theorem leave_ch {h : Heap} {S : List Addr} {L : Addr} {h₀ h' : Heap} {m' : NM} {news' upd new : List (Addr × Obj)} (e : h₀ = hideAll h S) (F : Fr h₀ L h' m') (N : News h₀ L h' news') (hS : upd.map (·.1) = S)
  (hu : ∀ p ∈ upd, p ∈ news') (hn : ∀ p ∈ new, p ∈ news' ∧ p.1 ∉ S) : Ch h h' upd new := by
 subst hS e
 refine ⟨fun b o hb eb => F.keep b o (hideAll_get _ eb hb), fun p hp => (N p (hu p hp)).1, fun p hp => ⟨(N p (hn p hp).1).1, ?_⟩⟩
 cases q : h.get? p.1 with
 | none => rfl
 | some o => have := (N p (hn p hp).1).2.2; rw [hideAll_get _ q (hn p hp).2] at this; cases this
theorem Fr.ch {h₀ h h' : Heap} {L : Addr} {m : NM} {news upd new : List (Addr × Obj)} (F : Fr h₀ L h m) (N : News h₀ L h news) (c : Ch h h' upd new) (hu : ∀ p ∈ upd, p.1 ∈ news.map (·.1)) : Fr h₀ L h' m := by
 have nu : ∀ b, (h₀.get? b).isSome ∨ b = L → b ∉ upd.map (·.1) := fun b hb q => by
  obtain ⟨p, hp, rfl⟩ := List.mem_map.mp q
  obtain ⟨q, hq, e⟩ := List.mem_map.mp (hu p hp)
  have := N q hq
  rw [e] at this
  rcases hb with hb | hb
  ·rw [this.2.2] at hb; cases hb
  ·exact this.2.1 hb
 obtain ⟨oL, es, ep, hL, r⟩ := F.ns
 exact ⟨⟨oL, es, ep, c.keep _ _ (nu L (.inr rfl)) hL, r⟩, fun b o e => c.keep b o (nu b (.inl (by rw [e]; rfl))) (F.keep b o e), F.above⟩
theorem News.ch {h₀ h h' : Heap} {L : Addr} {m : NM} {news news' upd new : List (Addr × Obj)} (F : Fr h₀ L h m) (N : News h₀ L h news) (c : Ch h h' upd new) (hu : ∀ p ∈ upd, p.1 ∈ news.map (·.1))
  (hn : ∀ p ∈ news', p ∈ upd ∨ p ∈ new ∨ (p ∈ news ∧ p.1 ∉ upd.map (·.1))) : News h₀ L h' news' := fun p hp => by
 rcases hn p hp with q | q | ⟨q, nq⟩
 ·obtain ⟨r, hr, e⟩ := List.mem_map.mp (hu p q)
  have := N r hr
  rw [e] at this
  exact ⟨c.upd p q, this.2⟩
 ·have := c.new p q
  refine ⟨this.1, fun e => ?_, ?_⟩
  ·obtain ⟨oL, es, ep, hL, r⟩ := F.ns
   rw [e, hL] at this; cases this.2
  ·cases z : h₀.get? p.1 with
   | none => rfl
   | some o => rw [F.keep _ _ z] at this; cases this.2
 ·exact ⟨c.keep _ _ nq (N p q).1, (N p q).2⟩
end
end Mine
namespace Mine
noncomputable def nxt (M : Model) (A : Around) (rest : List Stmt) (env : Env) (E : VP) (Q : Flow → Shared → Prop) : Flow → Shared → Prop := fun f s' => match f with | .next => wpAny M A (execs rest env) Q E s' | f => Q f s'
theorem ex_cons {M : Model} {A : Around} {st : Stmt} {rest : List Stmt} {env : Env} {E : VP} {Q : Flow → Shared → Prop} {s : Shared} (h : wpAny M A (exec st env) (nxt M A rest env E Q) E s) : wpAny M A (execs (st :: rest) env) Q E s := wpAny_execs_cons h
noncomputable def ifq (M : Model) (A : Around) (body orelse : List Stmt) (env : Env) (E : VP) (Q : Flow → Shared → Prop) : Bool → Shared → Prop := fun b s => if b then wpAny M A (execs body env) Q E s else wpAny M A (execs orelse env) Q E s
theorem ex_If {M : Model} {A : Around} {test : Expr} {body orelse : List Stmt} {pos : Pos} {env : Env} {E : VP} {Q : Flow → Shared → Prop} {s : Shared} (h : wpAny M A (isTrue test env (eval test env)) (ifq M A body orelse env E Q) E s) : wpAny M A (exec (.If test body orelse pos) env) Q E s := wpAny_If h
theorem cutQ {α : Type} {M : Model} {A : Around} {t : Sem α} {Q : α → Shared → Prop} {E : VP} {s : Shared} (h : ∀ Q' : α → Shared → Prop, (∀ a s, Q a s → Q' a s) → wpAny M A t Q' E s) : wpAny M A t Q E s := h Q fun ι ι x => x
theorem cut_end {α : Type} {M : Model} {A : Around} {t : Sem α} {Q Q' : α → Shared → Prop} {E : VP} {s : Shared} (hQ : ∀ a s, Q a s → Q' a s) (h : wpAny M A t Q E s) : wpAny M A t Q' E s := wpAny_mono h hQ fun ι ι x => x
theorem ite_t {c : Prop} [Decidable c] {X Y : Prop} (h : c) (x : X) : if c then X else Y := (if_pos h).mpr x
theorem ite_f {c : Prop} [Decidable c] {X Y : Prop} (h : ¬c) (x : Y) : if c then X else Y := (if_neg h).mpr x
theorem cutW {α : Type} {M : Model} {A : Around} {t : Sem α} {Q : α → Shared → Prop} {E : VP} {s : Shared} (h : ∀ (Q' : α → Shared → Prop) (E' : VP), (∀ a s, Q a s → Q' a s) → wpAny M A t Q' E' s) : wpAny M A t Q E s := h Q E fun ι ι x => x
theorem cut_f {α : Type} {M : Model} {A : Around} {t : Sem α} {Q Q' : α → Shared → Prop} {E' : VP} {s : Shared} (hQ : ∀ a s, Q a s → Q' a s) (h : wpAny M A t Q (fun ι ι => False) s) : wpAny M A t Q' E' s := wpAny_mono h hQ fun ι ι x => x.elim
theorem wp_eq {α : Type} {M : Model} {A : Around} {t t' : Sem α} {Q : α → Shared → Prop} {E : VP} {s : Shared} (e : t = t') (h : wpAny M A t' Q E s) : wpAny M A t Q E s := e ▸ h
theorem wp_A {α : Type} {M : Model} {A A' : Around} {t : Sem α} {Q : α → Shared → Prop} {E : VP} {s : Shared} (e : A = A') (h : wpAny M A' t Q E s) : wpAny M A t Q E s := e ▸ h
theorem wp_f {α : Type} {M : Model} {A : Around} {c : Prop} [Decidable c] {a b : Sem α} {Q : α → Shared → Prop} {E : VP} {s : Shared} (e : ¬c) (h : wpAny M A b Q E s) : wpAny M A (if c then a else b) Q E s := wp_eq (if_neg e) h
theorem wp_t {α : Type} {M : Model} {A : Around} {c : Prop} [Decidable c] {a b : Sem α} {Q : α → Shared → Prop} {E : VP} {s : Shared} (e : c) (h : wpAny M A a Q E s) : wpAny M A (if c then a else b) Q E s := wp_eq (if_pos e) h
theorem forIn2 {α β : Type} {x y : α} {b : β} {f : α → β → Sem (ForInStep β)} : (forIn [x, y] b f : Sem β) = f x b >>= fun r => match r with | .done b => pure b | .yield b => (f y b >>= fun r => match r with | .done b => pure b | .yield b => pure b) := by simp only [List.forIn_cons, List.forIn_nil]; rfl
theorem forInA2 {α β : Type} {x y : α} {b : β} {f : α → β → Sem (ForInStep β)} : (forIn #[x, y] b f : Sem β) = f x b >>= fun r => match r with | .done b => pure b | .yield b => (f y b >>= fun r => match r with | .done b => pure b | .yield b => pure b) := by rw [← Array.forIn_toList]; exact forIn2
theorem new_stop {M : Model} {A : Around} {E : VP} {s : Shared} {Q : VP} (h : ∀ h' e, (∀ b o, s.heap.get? b = some o → h'.get? b = some o) → (∃ o, h'.get? e = some o ∧ o.cls = .type "StopIteration") → Q (.ref e) { s with heap := h' }) : wpAny M A (newExc (.type "StopIteration") []) Q E s := by
 refine wpAny_bind (wpAny_newObj_type ?_ (by size_fits))
 refine wpAny_bind (m := firstArgMember _ _) (wpAny_of_eq (a := Value.none) (by first | rfl | (simp only [firstArgMember]; rfl)) ?_)
 exact wpAny_newObj_type (h _ _ (fun b o e => Heap.get?_push_of_some _ (Heap.get?_push_of_some _ e)) ⟨_, Heap.get?_push_size _ rfl, rfl⟩) (by size_fits)
theorem raise_new {α : Type} {M : Model} {A : Around} {E : VP} {s : Shared} {e : Addr} {Q : α → Shared → Prop} (hh : A.handled = none) (h : E (.ref e) s) : wpAny M A (raiseNew (.ref e) : Sem α) Q E s := by
 refine wpAny_bind (wpAny_handled ?_)
 rw [hh]
 exact wpAny_bind (wpAny_pure (wpAny_throw h))
theorem stop_new {α : Type} {M : Model} {A : Around} {E : VP} {s : Shared} {Q : α → Shared → Prop} (hh : A.handled = none) (h : ∀ h' e, (∀ b o, s.heap.get? b = some o → h'.get? b = some o) → (∃ o, h'.get? e = some o ∧ o.cls = .type "StopIteration") → E (.ref e) { s with heap := h' }) : wpAny M A (newExc (.type "StopIteration") [] >>= fun e => (raiseNew e : Sem α)) Q E s :=
 wpAny_bind (new_stop fun h' e k he => raise_new hh (h h' e k he))
theorem exE2 {a b : Type} {p : a → b → Prop} {G : Prop} (h : ∃ x y, p x y) (k : ∀ x y, p x y → G) : G := h.elim fun x h => h.elim fun y h => k x y h
theorem exI2 {a b : Type} {p : a → b → Prop} (x : a) (y : b) (h : p x y) : ∃ x y, p x y := ⟨x, y, h⟩
theorem exE3 {a b c : Type} {p : a → b → c → Prop} {G : Prop} (h : ∃ x y z, p x y z) (k : ∀ x y z, p x y z → G) : G := h.elim fun x h => h.elim fun y h => h.elim fun z h => k x y z h
theorem exI3 {a b c : Type} {p : a → b → c → Prop} (x : a) (y : b) (z : c) (h : p x y z) : ∃ x y z, p x y z := ⟨x, y, z, h⟩
theorem exE4 {a b c d : Type} {p : a → b → c → d → Prop} {G : Prop} (h : ∃ x y z u, p x y z u) (k : ∀ x y z u, p x y z u → G) : G := h.elim fun x h => h.elim fun y h => h.elim fun z h => h.elim fun u h => k x y z u h
theorem exI4 {a b c d : Type} {p : a → b → c → d → Prop} (x : a) (y : b) (z : c) (u : d) (h : p x y z u) : ∃ x y z u, p x y z u := ⟨x, y, z, u, h⟩
theorem exE5 {a b c d e : Type} {p : a → b → c → d → e → Prop} {G : Prop} (h : ∃ x y z u v, p x y z u v) (k : ∀ x y z u v, p x y z u v → G) : G := h.elim fun x h => h.elim fun y h => h.elim fun z h => h.elim fun u h => h.elim fun v h => k x y z u v h
theorem exI5 {a b c d e : Type} {p : a → b → c → d → e → Prop} (x : a) (y : b) (z : c) (u : d) (v : e) (h : p x y z u v) : ∃ x y z u v, p x y z u v := ⟨x, y, z, u, v, h⟩
theorem exE6 {a b c d e f : Type} {p : a → b → c → d → e → f → Prop} {G : Prop} (h : ∃ x y z u v r, p x y z u v r) (k : ∀ x y z u v r, p x y z u v r → G) : G := h.elim fun x h => h.elim fun y h => h.elim fun z h => h.elim fun u h => h.elim fun v h => h.elim fun r h => k x y z u v r h
theorem exI6 {a b c d e f : Type} {p : a → b → c → d → e → f → Prop} (x : a) (y : b) (z : c) (u : d) (v : e) (r : f) (h : p x y z u v r) : ∃ x y z u v r, p x y z u v r := ⟨x, y, z, u, v, r, h⟩
theorem anE3 {p0 p1 p2 G : Prop} (h : p0 ∧ p1 ∧ p2) (k : p0 → p1 → p2 → G) : G := h.elim fun h0 h => h.elim fun h1 h2 => k h0 h1 h2
theorem anE4 {p0 p1 p2 p3 G : Prop} (h : p0 ∧ p1 ∧ p2 ∧ p3) (k : p0 → p1 → p2 → p3 → G) : G := h.elim fun h0 h => h.elim fun h1 h => h.elim fun h2 h3 => k h0 h1 h2 h3
theorem anE5 {p0 p1 p2 p3 p4 G : Prop} (h : p0 ∧ p1 ∧ p2 ∧ p3 ∧ p4) (k : p0 → p1 → p2 → p3 → p4 → G) : G := h.elim fun h0 h => h.elim fun h1 h => h.elim fun h2 h => h.elim fun h3 h4 => k h0 h1 h2 h3 h4
theorem anE6 {p0 p1 p2 p3 p4 p5 G : Prop} (h : p0 ∧ p1 ∧ p2 ∧ p3 ∧ p4 ∧ p5) (k : p0 → p1 → p2 → p3 → p4 → p5 → G) : G := h.elim fun h0 h => h.elim fun h1 h => h.elim fun h2 h => h.elim fun h3 h => h.elim fun h4 h5 => k h0 h1 h2 h3 h4 h5
theorem anE7 {p0 p1 p2 p3 p4 p5 p6 G : Prop} (h : p0 ∧ p1 ∧ p2 ∧ p3 ∧ p4 ∧ p5 ∧ p6) (k : p0 → p1 → p2 → p3 → p4 → p5 → p6 → G) : G := h.elim fun h0 h => h.elim fun h1 h => h.elim fun h2 h => h.elim fun h3 h => h.elim fun h4 h => h.elim fun h5 h6 => k h0 h1 h2 h3 h4 h5 h6
theorem anE10 {p0 p1 p2 p3 p4 p5 p6 p7 p8 p9 G : Prop} (h : p0 ∧ p1 ∧ p2 ∧ p3 ∧ p4 ∧ p5 ∧ p6 ∧ p7 ∧ p8 ∧ p9) (k : p0 → p1 → p2 → p3 → p4 → p5 → p6 → p7 → p8 → p9 → G) : G := h.elim fun h0 h => h.elim fun h1 h => h.elim fun h2 h => h.elim fun h3 h => h.elim fun h4 h => h.elim fun h5 h => h.elim fun h6 h => h.elim fun h7 h => h.elim fun h8 h9 => k h0 h1 h2 h3 h4 h5 h6 h7 h8 h9
theorem anE12 {p0 p1 p2 p3 p4 p5 p6 p7 p8 p9 p10 p11 G : Prop} (h : p0 ∧ p1 ∧ p2 ∧ p3 ∧ p4 ∧ p5 ∧ p6 ∧ p7 ∧ p8 ∧ p9 ∧ p10 ∧ p11) (k : p0 → p1 → p2 → p3 → p4 → p5 → p6 → p7 → p8 → p9 → p10 → p11 → G) : G := h.elim fun h0 h => h.elim fun h1 h => h.elim fun h2 h => h.elim fun h3 h => h.elim fun h4 h => h.elim fun h5 h => h.elim fun h6 h => h.elim fun h7 h => h.elim fun h8 h => h.elim fun h9 h => h.elim fun h10 h11 => k h0 h1 h2 h3 h4 h5 h6 h7 h8 h9 h10 h11
theorem sub_dec {i n : Nat} (h : i < n) : n + 1 - (i + 1) < n + 1 - i := Nat.sub_lt_sub_left (Nat.lt_succ_of_lt h) (Nat.lt_succ_self i)
theorem pred_of {n : Nat} (h : 1 ≤ n) : ∃ g, n = g + 1 := ⟨n - 1, (Nat.sub_add_cancel ‹_›).symm⟩
theorem min_pred {j n : Nat} (h : 1 ≤ n) : min (j + 1) n - 1 = min j (n - 1) := by
 obtain ⟨k, rfl⟩ := pred_of h
 rw [Nat.add_sub_cancel, Nat.add_min_add_right, Nat.add_sub_cancel]
theorem sub_succ_of {n i k : Nat} (h : n - i = k + 1) : n - (i + 1) = k := by rw [← Nat.sub_sub, h, Nat.add_sub_cancel]
theorem cn {a b : Value} (h : autoParam (Nat.beq a.ctorIdx b.ctorIdx = false) tR) : a ≠ b := fun e => by rw [e, Nat.beq_refl] at h; cases h
theorem no_some {α : Type} {x : α} {P : Prop} (e : none = some x) : P := by cases e
theorem exI9 {a b c d e f g h i : Type} {p : a → b → c → d → e → f → g → h → i → Prop} (x0 : a) (x1 : b) (x2 : c) (x3 : d) (x4 : e) (x5 : f) (x6 : g) (x7 : h) (x8 : i) (hp : p x0 x1 x2 x3 x4 x5 x6 x7 x8) : ∃ x0 x1 x2 x3 x4 x5 x6 x7 x8, p x0 x1 x2 x3 x4 x5 x6 x7 x8 := ⟨x0, x1, x2, x3, x4, x5, x6, x7, x8, hp⟩
theorem not_in {x y : Addr} (h : x ≠ y) : x ∉ [y] := fun q => h (List.mem_singleton.mp q)
theorem no_in {P : Addr → Prop} : ∀ a ∈ ([] : List Addr), P a := fun ι h => nomatch h
theorem al1 {α : Type} {P : α → Prop} {x : α} (h : P x) : ∀ a ∈ [x], P a := fun a ha => (List.mem_singleton.mp ha) ▸ h
end Mine
namespace Mine
section
variable {w : World} {A : Around} {E : VP} {s : Shared} {K : Frag} {x C : Addr} {ox : Obj} {od : Option Obj} {id owner n : String} {b : Builtin} {rest : List Value}

theorem bi_call {Q : VP} (X : K.In s.heap) (I : InstAt s.heap x ox C od) (hm : mroIn K C (.type owner) = some true) (hsplit : splitId id = some (owner, n))
  (hkind : (Manifest.find? owner).bind (·.attrs.lookup n) = some .slot ∨ (Manifest.find? owner).bind (·.attrs.lookup n) = some .method) (hq : plainId id = true) (hb : entryFor table id = some b) (ha : argsOk id ⟨.ref x :: rest, []⟩)
  (hc : wpAny (model PW w) A.in1 (b ⟨.ref x :: rest, []⟩) (fun fin s' => ∃ v, fin = .done (.ret v) ∧ Q v s') E s) : wpAny (model PW w) A (call (.builtin id) (.ref x :: rest)) Q E s := by
 have hk : builtinKind id = (Manifest.find? owner).bind (·.attrs.lookup n) := by simp only [builtinKind, hsplit]
 have L : Looks (model PW w) s.heap (isInstance (.ref x) (.type owner)) true := I.type.andThen (looks_mroIn X hm)
 refine wpAny_call (codeAny_call_builtin hq hb ?_)
 have done : wpAny (model PW w) A.in1 (b ⟨.ref x :: rest, []⟩) (fun fin s' => match fin with | .done f => (match (Except.ok f : Result) with | .ok (.ret v) => Q v s' | .ok _ => False | .error e => E e s') | .again c' => c'.quiet = true ∧ codeAny (model PW w) A c' (fun r s' => match r with | .ok (.ret v) => Q v s' | .ok _ => False | .error e => E e s') s') E s :=
  wpAny_mono hc (fun fin s' h' => by obtain ⟨v, rfl, hv⟩ := h'; exact hv) fun ι ι h' => h'
 refine cutW fun Q₁ E₁ h₁ => ?_
 replace done := h₁ () s done
 rcases hkind with h | h <;>
 ·refine wp_eq (by unfold checkBuiltinCall; rw [hk.trans h, hsplit]) ?_
  refine wpAny_bind (L.here ?_)
  refine wp_f (by decide) ?_
  cases hsig : Manifest.signature? id with
  | none => exact wpAny_pure done
  | some sig =>
   simp only [argsOk, hsig] at ha
   have h2 : Bind.checkArgs id sig ⟨.ref x :: rest, []⟩ = pure () := ha
   exact wp_eq h2 (wpAny_pure done)
theorem method_bi {Q : Value × List Value → Shared → Prop} {name : Str} {pl : Sem Bool} {ga : String} (X : K.In s.heap) (I : InstAt s.heap x ox C od) (hga : findIn K (.ref C) "__getattribute__" = some (some (.builtin ga))) (hcan : Manifest.canonical ga = "object.__getattribute__") (hk : findIn K (.ref C) "__getattr__" = some none)
  (hf : findIn K (.ref C) name = some (some (.builtin id))) (ht : typeOf (.builtin id) = pure (.type "method_descriptor")) (hs : shadowIn od name = some false) (h : Q (.builtin id, [.ref x]) s) :
  wpAny (model PW w) A (getMethod (.ref x) name pl) Q E s := by
 unfold getMethod specialOf
 refine wpAny_bind (wpAny_bind (I.type.here ((looks_findIn X hga).here ?_)))
 dsimp only
 rw [hcan, if_neg (by decide)]
 refine wpAny_bind (wpAny_bind (I.type.here ((looks_findIn X hk).here ?_)))
 refine wpAny_bind (wpAny_bind (I.type.here ((looks_findIn X hf).here (wpAny_bind (wpAny_of_eq ht ?_)))))
 refine wp_f (by decide +kernel) ?_
 refine wpAny_bind (wpAny_loadPart I.at_ ?_)
 have hd := I.dict
 cases e : ox.dict with
 | none => exact wpAny_bind (wpAny_rule (wpAny_pure h))
 | some dx =>
  cases od with
  | none => rw [e] at hd; exact hd.elim
  | some o =>
   rw [e] at hd
   obtain ⟨r, a, b⟩ := Option.map_eq_some_iff.mp hs
   refine wpAny_bind (wpAny_bind (wpAny_loadPart hd ?_))
   rw [nsLook_of a]
   cases r with
   | some _ => cases b
   | none => exact wpAny_pure (wpAny_bind (wpAny_rule (wpAny_pure h)))
end
end Mine
namespace Mine
section
variable {w : World} {A : Around} {E : VP} {s : Shared} {K : Frag} {x d : Addr} {h₀ : Heap} {L : Addr} {m : NM} {news news' : List (Addr × Obj)} {its : Array Value} {k j : Nat} {es : List DictEntry}
theorem mapSeq_push {c : Value} {d : Option Addr} {its : Array Value} {k : Nat} {v : Value} {sl : Array (Option Value)} : some (Obj.mapSeq (·.push v) ⟨c, d, .seq its k, sl⟩) = some (⟨c, d, .seq (its.push v) (k + 1), sl⟩ : Obj) := by
 simp [Obj.mapSeq]
theorem accI {h : Heap} (N : News h₀ L h news) (h1 : (x, accObj d its k) ∈ news) (h2 : (d, dictOf es j) ∈ news) : InstAt h x (accObj d its k) 185 (some (dictOf es j)) := ⟨(N _ h1).1, rfl, rfl, (N _ h2).1⟩
theorem acc_append {v : Value} {Q : VP} (F : Fr h₀ L s.heap m) (X : K.In h₀) (N : News h₀ L s.heap news) (h2 : (d, dictOf es j) ∈ news) (hm : mroIn K 185 (.type "list") = some true)
  (U : Upd x (accObj d its k) (accObj d (its.push v) (k + 1)) news news') (h : ∀ h', Fr h₀ L h' m → News h₀ L h' news' → Q .none { s with heap := h' }) (hsz : its.size ≤ sizeLine) : wpAny (model PW w) A (call (.builtin "list.append") [.ref x, v]) Q E s := by
 obtain ⟨pre, post, rfl, rfl, a, b⟩ := U.split
 have h1 : (x, accObj d its k) ∈ pre ++ (x, accObj d its k) :: post := List.mem_append.mpr (.inr (.head _))
 have z := N _ h1
 refine bi_call (X.keeps F.keep) (accI N h1 h2) hm (owner := "list") (n := "append") (by decide +kernel) (.inr (by decide +kernel)) (by decide +kernel) PySem.F.entry_list_append (PySem.F.args_list_append_2 _ _) ?_
 show wpAny _ _ (updateSeq x (·.push v) >>= fun ι => ret .none) _ _ s
 refine wpAny_bind (wpAny_updateSeq z.1 rfl (wpAny_pure ⟨.none, rfl, ?_⟩))
 refine h _ (F.change (Heap.SameBut.update ..) z.2.1 z.2.2) (news_set N a b (Heap.SameBut.update ..) ?_)
 rw [Heap.get?_update_self _ z.1 (by rfl)]; exact mapSeq_push
end
end Mine
namespace Mine
noncomputable abbrev accD (w : World) (t0 : Tok) (z : Int) (t1 : Tok) : Obj := dictOf [Key w "_initial_size" t0 (.int z t1)] 1
theorem push_c {w : World} {mg mb : NM} {b₀ : Heap} {s : Shared} {dp un : Nat} {fr gd} {R : Result → Shared → Prop} {x d : Addr} {its : Array Value} {k : Nat} {t0 t1 u1 u2 : Tok} {z : Int} {x1 x2 : Str}
  (C : St w mg mb b₀) (k₀ : b₀.StaysIn s.heap) (O : Own b₀ s.heap [(x, accObj d its k), (d, accD w t0 z t1)]) (hxd : @Ne Nat x d) (hdp : dp + 3 < recursionLimit) (hun : un + 16 < cLine) (hsz : its.size ≤ 1000)
  (hret : ∀ t h' tk, Ch s.heap h' [(x, accObj d (its.push (.ref t)) (k + 1)), (d, accD w t0 z t1)] [(t, { cls := .type "tuple", data := .seq [.str x1 u1, .str x2 u2].toArray })] → R (.ok (.ret .none)) { s with heap := h', toks := tk }) :
  codeAny (model PW w) (Ar dp un fr gd) (.call (.ref 129) ⟨[.ref x, .str x1 u1, .str x2 u2], []⟩) R s := by
 (k_dflt (refine' Mine.enter ?kC ?k0 ?kO ?kr ?ho ?hcd ?hb ?hloc ?_ ?c2 ?c3 ?c4 ?c5; (case kC => assumption); (case k0 => assumption); (case kO => assumption); (case ho => k_is); (case hcd => k_is); (case kr => (first | lia | (simp only [Around.deeper, Around.in1, Around.mark, recursionLimit, cLine_is] at *; lia))); (case hb => first | exact BindsTo.of_eq rfl | exact binds_K (by k_in) rfl (by k_is) rfl rfl rfl); (case c5 => decide); (case hloc => exact locs rfl); (case c2 => exact rfl); (case c3 => exact rfl); (case c4 => exact rfl); k_whole; intro L₁ g₁ h₁ eL eg F' N' lt st C'; (try k_lt lt); (have X' := Mine.St.K C'); (obtain ⟨_, _, T'⟩ := Mine.St.top C'); (try dsimp only); (try k_fold)))
 repeat' (first | ((with_reducible show wpAny _ _ (getMethod (Value.ref _) (PySem.Str.ofString "append") _) _ _ _); k_dflt (refine' Mine.method_bi (C := 185) (id := "list.append") ?kX ?kI ?k1 ?k0 ?k2 ?k3 ?k4 ?k5 ?_; (case kX => k_in); (case kI => exact Mine.accI (by k_asm) (by k_mem) (by k_mem)); (case k1 => k_is); (case k0 => decide +kernel); (case k2 => k_is); (case k3 => k_is); (case k4 => exact PySem.F.type_list_append); (case k5 => exact rfl); k_whole)) | (k_dflt (refine' Mine.acc_append ?kF ?kX ?kN ?k1 ?k2 ?k3 ?_ ?k4; (case kF => k_asm); (case kX => k_asm); (case kN => k_asm); (case k3 => k_upd); (case k1 => k_mem); (case k2 => k_is); (case k4 => first | assumption | (rw [PySem.sizeLine_eq]; (try simp only [List.size_toArray, List.length_cons, List.length_nil, Array.size_push] at *); lia) | size_fits); k_whole); intro h' F' N'; (try k_sweep)) | (k_unfold; (try dsimp only)) | walk1 | (dsimp only; walk1))
 refine' hret _ _ _ ?ch
 case ch => (refine' Mine.leave_ch ?eE ?eF ?eN ?eS ?eU ?eW; (case eE => assumption); (case eF => k_asm); (case eN => k_asm); (case eS => exact rfl); (case eU => (repeat' (first | exact List.forall_mem_nil _ | refine List.forall_mem_cons.mpr (And.intro ?_ ?_) | k_mem | refine And.intro ?_ ?_ | ((try simp only [List.map_cons, List.map_nil, List.mem_cons, List.not_mem_nil, or_false, not_or]); (try dsimp only); (repeat' (refine' And.intro ?_ ?_)) <;> first | (refine PySem.W.neN ?_; lia) | lia)))); (case eW => (repeat' (first | exact List.forall_mem_nil _ | refine List.forall_mem_cons.mpr (And.intro ?_ ?_) | k_mem | refine And.intro ?_ ?_ | ((try simp only [List.map_cons, List.map_nil, List.mem_cons, List.not_mem_nil, or_false, not_or]); (try dsimp only); (repeat' (refine' And.intro ?_ ?_)) <;> first | (refine PySem.W.neN ?_; lia) | lia)))))
end Mine
namespace Mine
noncomputable def IsSeq (h : Heap) (x : Addr) (items : Array Value) : Prop := ∃ o, h.get? x = some o ∧ ∃ n, o.data = .seq items n
theorem IsSeq.at {h h' : Heap} {x : Addr} {items : Array Value} (a : IsSeq h x items) (k : ∀ o, h.get? x = some o → h'.get? x = some o) : IsSeq h' x items := let ⟨o, e, r⟩ := a; ⟨o, k o e, r⟩
section
variable {w : World} {A : Around} {E : VP} {s : Shared} {K : Frag} {x C : Addr} {ox : Obj} {od : Option Obj} {id n : String} {rest : List Value}
theorem spec_bi {M : Model} {h : Heap} {name : Str} (X : K.In h) (I : InstAt h x ox C od) (hf : findIn K (.ref C) name = some (some (.builtin id))) : Looks M h (specialOf (.ref x) name) (some (.builtin id)) := I.type.andThen (looks_findIn X hf)
theorem iter_bi {Q : VP} (X : K.In s.heap) (I : InstAt s.heap x ox C od) (hf : findIn K (.ref C) "__iter__" = some (some (.builtin id))) (hb : ∀ v, bindSpecial (.builtin id) v = pure (.builtin id, [v]))
  (hc : wpAny (model PW w) A (call (.builtin id) [.ref x]) (fun it s' => ∃ T' r, s'.TypeIs it T' ∧ typeLookup (.type T') "__next__" = pure (some r) ∧ Q it s') E s) : wpAny (model PW w) A (pyIter (.ref x)) Q E s := by
 unfold pyIter
 refine wpAny_bind ((spec_bi X I hf).here ?_)
 dsimp only
 unfold callSpecialIfBoundUnlessNone? bindSpecialIfBound?
 refine wpAny_bind (wpAny_holding (wpAny_bind (wpAny_bind ((spec_bi X I hf).here ?_))))
 dsimp only
 have fin : wpAny (model PW w) A (do
   if (Value.builtin id == Value.none) = true then return some (← (do rule "iter.none"; raiseError "TypeError" s!"'{← typeNameOf (.ref x)}' object is not iterable"))
   return some (← call (.builtin id) [.ref x])) (fun r s' => wpAny (model PW w) A (match r with
    | some it => do match ← specialOf it "__next__" with
      | none => do rule "iter.non-iterator"; raiseError "TypeError" s!"iter() returned non-iterator of type '{← typeNameOf it}'"
      | some _ => pure it
    | none => do match ← bindSpecialIfBound? (.ref x) "__getitem__" with
      | none => do rule "iter.not-iterable"; raiseError "TypeError" s!"'{← typeNameOf (.ref x)}' object is not iterable"
      | some _ => do rule "iter.getitem-fallback"; newFields "iterator" [.ref x, ← mkInt 0]) Q E s') E s := by
  refine wpAny_bind (wpAny_mono hc (fun it s' h' => wpAny_pure ?_) fun ι ι e => e)
  obtain ⟨T', r, hT', hl, hQ⟩ := h'
  exact wpAny_bind (wpAny_specialOf hT' hl (wpAny_pure hQ))
 refine wpAny_bind (wpAny_askSetting ?_)
 split
 ·refine wpAny_bind (wpAny_of_eq (hb _) (wpAny_pure ?_))
  exact fin
 ·refine wpAny_tryCatch ?_
  refine wpAny_bind (wpAny_of_eq (hb _) (wpAny_pure ?_))
  exact fin
end
end Mine
namespace Mine
section
variable {w : World} {A : Around} {E : VP} {s : Shared} {K : Frag} {x it : Addr} {od : Option Obj} {items : Array Value} {i k : Nat} {d : Addr}
theorem acc_iter {Q : VP} (X : K.In s.heap) (I : InstAt s.heap x (accObj d items k) 185 od) (hm : mroIn K 185 (.type "list") = some true) (hf : findIn K (.ref 185) "__iter__" = some (some (.builtin "list.__iter__")))
  (hQ : Q (.ref s.heap.objs.size) { s with heap := s.heap.push { cls := .type "list_iterator", data := .fields #[.ref x, .int 0 0] } }) : wpAny (model PW w) A (pyIter (.ref x)) Q E s := by
 refine iter_bi X I hf PySem.F.slot_list_iter.bind (bi_call X I hm (owner := "list") (n := "__iter__") (by decide +kernel) (.inl (by decide +kernel)) (by decide +kernel) PySem.F.entry_list_iter (PySem.F.args_list_iter_1 _) ?_)
 show wpAny _ _ (do ret (← newFields "list_iterator" [.ref x, rawInt 0])) _ _ s
 exact wpAny_bind (wpAny_newObj_type (wpAny_pure ⟨_, rfl, "list_iterator", _, ⟨_, Heap.get?_push_size _ rfl, rfl⟩, slot_listiter_next.lookup, hQ⟩))
theorem seq_next {v : Value} {Q : Option Value → Shared → Prop} (hit : s.heap.IsListIter it x i) (hs : IsSeq s.heap x items) (hx : items[i]? = some v)
  (hQ : ∀ h', h'.IsListIter it x (i + 1) → Heap.SameBut it s.heap h' → Q (some v) { s with heap := h' }) : wpAny (model PW w) A (pyNext (.ref it)) Q E s := by
 obtain ⟨oi, hoi, hci, hdi⟩ := id hit
 obtain ⟨ox, hox, nx, hdx⟩ := hs
 unfold pyNext
 refine wpAny_bind (wpAny_attempt (wpAny_callSpecial?_slot (name := Str.ofString "__next__") hit.typeIs slot_listiter_next (wpAny_call_entry slot_listiter_next hit.typeIs entry_listiter_next ?_ (args_listiter_next _))))
 show wpAny _ _ (field (.ref it) 0 >>= _) _ _ s
 refine wpAny_bind (wpAny_field hoi hdi (x := .ref x) rfl ?_)
 show wpAny _ _ (if (Value.ref x == Value.none) = true then _ else _) _ _ s
 refine wp_f (show ¬ ((Value.ref x == Value.none) = true) from Bool.false_ne_true) ?_
 show wpAny _ _ (field (.ref it) 1 >>= _) _ _ s
 refine wpAny_bind (wpAny_field hoi hdi (x := .int i 0) rfl ?_)
 show wpAny _ _ (seqItems? (.ref x) >>= _) _ _ s
 refine wpAny_bind (wpAny_seqItems hox hdx ?_)
 simp only [Int.toNat_natCast, hx]
 refine wpAny_bind (wpAny_setField hoi hdi (Nat.le_of_ble_eq_true rfl) (wpAny_pure ⟨v, rfl, wpAny_pure (hQ _ ⟨_, Heap.get?_update_self _ hoi (Obj.isFreed_of_fields (Obj.data_mapFields hdi _)), (Obj.cls_mapFields ..).trans hci, ?_⟩ (Heap.SameBut.update ..))⟩))
 rw [Obj.data_mapFields hdi]; simp [rawInt]
theorem seq_end {Q : Option Value → Shared → Prop} (hh : A.handled = none) (hit : s.heap.IsListIter it x i) (hs : IsSeq s.heap x items) (hx : items[i]? = none)
  (hQ : ∀ h', Heap.ExtBut it s.heap h' → Q none { s with heap := h' }) : wpAny (model PW w) A (pyNext (.ref it)) Q E s := by
 obtain ⟨oi, hoi, hci, hdi⟩ := id hit
 obtain ⟨ox, hox, nx, hdx⟩ := hs
 unfold pyNext
 refine wpAny_bind (wpAny_attempt (wpAny_callSpecial?_slot (name := Str.ofString "__next__") hit.typeIs slot_listiter_next (wpAny_call_entry slot_listiter_next hit.typeIs entry_listiter_next ?_ (args_listiter_next _))))
 show wpAny _ _ (field (.ref it) 0 >>= _) _ _ s
 refine wpAny_bind (wpAny_field hoi hdi (x := .ref x) rfl ?_)
 show wpAny _ _ (if (Value.ref x == Value.none) = true then _ else _) _ _ s
 refine wp_f (show ¬ ((Value.ref x == Value.none) = true) from Bool.false_ne_true) ?_
 show wpAny _ _ (field (.ref it) 1 >>= _) _ _ s
 refine wpAny_bind (wpAny_field hoi hdi (x := .int i 0) rfl ?_)
 show wpAny _ _ (seqItems? (.ref x) >>= _) _ _ s
 refine wpAny_bind (wpAny_seqItems hox hdx ?_)
 simp only [Int.toNat_natCast, hx]
 refine wpAny_bind (wpAny_rule (wpAny_bind (wpAny_setField hoi hdi (Nat.le_of_ble_eq_true rfl) ?_)))
 refine stop_new hh fun h' e k he => ?_
 obtain ⟨o, he, hc⟩ := he
 refine wpAny_bind (wpAny_isInstance (T := "StopIteration") (b := true) ⟨o, he, hc⟩ isSubtype_stop ?_)
 exact wpAny_pure (hQ _ fun b o nb e => k b o ((Heap.SameBut.update ..).extBut b o nb e))
end
noncomputable def PairsAt (h : Heap) (items : Array Value) (ps : List (Value × Value)) : Prop := ∃ ts : List Addr, items = (ts.map Value.ref).toArray ∧ ts.length = ps.length ∧ ∀ (j : Nat) (T : Addr) (a b : Value), ts[j]? = some T → ps[j]? = some (a, b) → h.IsTuple T #[a, b]
section
variable {w : World} {A : Around}
theorem acc_walks (hh : A.handled = none) (I x : Addr) (hne : x ≠ I) (ts : List Addr) (ps : List (Value × Value)) (hl : ts.length = ps.length) (ht : ∀ T ∈ ts, T ≠ I) :
  WalksU PW w A I (I :: x :: ts) [I] ps.length (fun i vals => ∃ a b, ps[i]? = some (a, b) ∧ vals = #[a, b])
   (fun i h => h.IsListIter I x i ∧ IsSeq h x (ts.map Value.ref).toArray ∧ ∀ (j : Nat) (T : Addr) (a b : Value), ts[j]? = some T → ps[j]? = some (a, b) → h.IsTuple T #[a, b])
   (fun i T h => (h.IsListIter I x (i + 1) ∧ IsSeq h x (ts.map Value.ref).toArray ∧ ∀ (j : Nat) (T : Addr) (a b : Value), ts[j]? = some T → ps[j]? = some (a, b) → h.IsTuple T #[a, b]) ∧ T ∈ ts) where
 sub := fun b hb => by simp at hb; simp [hb]
 frame := fun i h h' st hk => ⟨st.1.at fun o e => hk I (List.mem_cons_self ..) o e, st.2.1.at fun o e => hk x (by simp) o e, fun j T a b h1 h2 => by
  obtain ⟨o, ho, r⟩ := st.2.2 j T a b h1 h2
  exact ⟨o, hk T (by simp [List.mem_of_getElem? h1]) o ho, r⟩⟩
 item := fun i s Q E hi st hQ => by
  rcases hp : ps[i] with ⟨a, b⟩
  have hT : ts[i]? = some ts[i] := List.getElem?_eq_getElem (by lia)
  have hP : ps[i]? = some (a, b) := by rw [List.getElem?_eq_getElem hi, hp]
  refine seq_next st.1 st.2.1 (v := .ref ts[i]) (by simp [hl, hi]) fun h' hit' hs' => ?_
  have up : ∀ (j : Nat) (T : Addr) (a b : Value), ts[j]? = some T → ps[j]? = some (a, b) → h'.IsTuple T #[a, b] := fun j T a b h1 h2 => (st.2.2 j T a b h1 h2).extBut hs'.extBut (ht T (List.mem_of_getElem? h1))
  exact hQ _ _ h' s.toks ⟨a, b, hP, rfl⟩ (up i _ a b hT hP) ⟨⟨hit', st.2.1.at fun o e => hs'.extBut _ o hne e, up⟩, List.getElem_mem _⟩ fun b o hb e => hs'.extBut b o (fun h => hb (by simp [h])) e
 go := fun elts k pos i T s Q E hm hQ => by
  obtain ⟨⟨h1, h2, h3⟩, h4⟩ := hm
  obtain ⟨o, ho, hc, hd⟩ := id h1
  unfold letOwnedTupleGo
  refine wpAny_bind (wpAny_load ho ?_)
  rw [hc, hd]
  dsimp only
  rw [show (["enumerate", "zip", "dict_itemiterator", "dict_reverseitemiterator", "odict_iterator", "itertools.zip_longest", "itertools.pairwise"] : List String).contains "list_iterator" = false from by decide, Bool.false_and, if_neg (by decide)]
  exact wpAny_pure (hQ s.heap ⟨h1, h2, h3⟩ fun ι ι ι e => e)
 apart := fun i T h hm hT => by simp at hT; exact ht T hm.2 hT
 done := fun s Q E st hQ => seq_end hh st.1 st.2.1 (by simp [hl]) fun h' he' => hQ h' s.toks fun b o hb e => he' b o (fun h => hb (by simp [h])) e
 self := fun ι ι ι ι st hQ => wpAny_pyIter_listiter st.1 hQ
end
end Mine
namespace Mine
noncomputable abbrev tblO (ps : Array Value) : Obj := { cls := .none, data := .fields ps }
noncomputable def Tb (pos : Pos) (ps : Array Value) : Prop := ps = #[] ∨ ∃ c' : Addr, ps = #[rawInt pos.line, rawInt pos.col, .ref c']
section
variable {w : World} {A : Around} {E : VP} {s : Shared}
theorem gcode {env : Env} {c P : Addr} {ps : Array Value} {pos : Pos} {qualname : Str} {scope : Scope} {Q : VP} (hc : env.code = .ref c) (hok : s.heap.IsCode c P ps) (ho : s.heap.get? P = some (tblO ps)) (htab : s.heap.TableAt c P ps) (tb : Tb pos ps)
  (hQ : ∀ code h' tk ps', Heap.ExtBut P s.heap h' → h'.get? P = some (tblO ps') → Tb pos ps' → (∃ more, ps' = ps ++ more) → Q code { s with heap := h', toks := tk }) :
  wpAny (model PW w) A (genexprCode env pos qualname scope) Q E s := by
 rcases tb with rfl | ⟨c', rfl⟩
 ·refine wpAny_genexprCodeX hc hok htab rfl fun c' h' tk hx ι ι ι ι ht ι => ?_
  exact hQ _ h' tk _ hx ht.2 (.inr ⟨c', rfl⟩) ⟨_, rfl⟩
 ·obtain ⟨o, vs, file, tf, flags, tg, inF, text, tt, op, ho', hd, h11, h2, h7, h9, h10, hop, hpd, htr, hne⟩ := id hok
  unfold genexprCode codeAt
  rw [hc, if_neg (show ¬ ((Value.ref c == Value.none) = true) from Bool.false_ne_true)]
  refine wpAny_bind (wpAny_fieldsOf ho' hd ?_)
  rw [h11]
  refine wpAny_bind (wpAny_fieldsOf hop hpd ?_)
  have e : codeAmong pos (#[rawInt pos.line, rawInt pos.col, Value.ref c'] : Array Value).toList = some (.ref c') := by simp [codeAmong, rawInt]
  rw [e]
  exact wpAny_pure (hQ _ s.heap s.toks _ (Heap.ExtBut.refl _ _) ho (.inr ⟨c', rfl⟩) ⟨#[], rfl⟩)
structure EltOk (w : World) (b₀ : Heap) (xa xb : Str) (elt : Expr) (scope : Scope) (ps : List (Value × Value)) (Fv : Nat → Value → Prop) (D U : Nat) : Prop where
 out : ∀ (A' : Around) E' i a b (s₂ : Shared) m₂ C code q, A'.handled = none → A'.depth ≤ D → A'.units ≤ U → ps[i]? = some (a, b) → s₂.heap.Ns C m₂ → m₂ xa = some a → m₂ xb = some b → b₀.StaysIn s₂.heap →
  wpAny (model PW w) A' (eval elt { scope, locals := C, globals := mainGlobals, cells := [], qual := q, func := none, code, frame := some C, builtins := builtinsNs }) (fun y s3 => Fv i y ∧ Keeps s₂ s3) E' s₂
theorem acc_gen {mg mb : NM} {h₀ : Heap} {L f c P x d : Addr} {m : NM} {news : List (Addr × Obj)} {k : Nat} {es : List DictEntry} {j : Nat} {nm : Str} {sc scope : Scope} {elt : Expr} {xa xb : Str} {pa pb pt pi : Pos} {kt : Nat} {pos : Pos} {ts : List Addr} {ps : List (Value × Value)} {tb : Array Value} {Fv : Nat → Value → Prop} {Q : VP}
  (C : St w mg mb h₀) (F : Fr h₀ L s.heap m) (N : News h₀ L s.heap news) (hh : A.handled = none) (hroom : A.depth < recursionLimit) (hself : m "self" = some (.ref x)) (h1 : (x, accObj d (ts.map Value.ref).toArray k) ∈ news) (h2 : (d, dictOf es j) ∈ news)
  (h3 : (P, tblO tb) ∈ news) (hP : Tb pos tb) (hok : s.heap.IsCode c P tb) (htab : s.heap.TableAt c P tb) (hlen : ts.length = ps.length) (htup : ∀ (j : Nat) (T : Addr) (a b : Value), ts[j]? = some T → ps[j]? = some (a, b) → s.heap.IsTuple T #[a, b])
  (hm : mroIn (hd.heap_1 w.params) 185 (.type "list") = some true) (hfi : findIn (hd.heap_1 w.params) (.ref 185) "__iter__" = some (some (.builtin "list.__iter__")))
  (hsc : sc.kind = .function) (hks : sc.names.lookup ("self" : Str) = some .local) (hco : scope.isCoroutine = false) (hclos : closureFor scope (envOf nm sc L f (.ref c)) = pure []) (hcell : ∀ y ∈ scope.names, y.2 ≠ .cell) (h0 : scope.names.lookup (".0" : Str) = some NameKind.local)
  (hxa : scope.names.lookup xa = some .local) (hxb : scope.names.lookup xb = some .local) (hab : xa ≠ xb) (hkind : scope.kind = .function)
  (helt : EltOk w h₀ xa xb elt scope ps Fv (A.depth + 1) (A.units + 8)) (hPne : ∀ T ∈ ts, T ≠ P) (hPx : P ≠ x)
  (hQ : ∀ a fp wr h₅ tk gs tb', gs.bare = true → s.heap.get? a = none → (∀ b o, b ≠ P → s.heap.get? b = some o → h₅.get? b = some o) → h₅.get? P = some (tblO tb') → Tb pos tb' → (∃ more, tb' = tb ++ more) → (∀ b ∈ fp, b < h₅.objs.size) → (∀ b ∈ wr, s.heap.get? b = none) → a ∈ fp →
   ∀ St0 Pp, (∀ j y, Pp j y → Fv j y) → (∀ i s', St0 i s' → s'.TypeIs (.ref a) "generator") → WalksS PW w A.in4 a fp wr (GenOnlyQ s.gens.size) ps.length Pp St0 → St0 0 { s with gens := s.gens.push gs, toks := tk, heap := h₅ } → Q (.ref a) { s with gens := s.gens.push gs, toks := tk, heap := h₅ }) :
  wpAny (model PW w) A (eval (.GeneratorExp elt [⟨.Tuple [.Name xa pa, .Name xb pb] kt pt, .Name "self" pi, [], 0⟩] scope pos) (envOf nm sc L f (.ref c))) Q E s := by
 obtain ⟨loose, mean, T⟩ := C.top
 have I0 := accI N h1 h2
 have X : (hd.heap_1 w.params).In s.heap := C.K.keeps F.keep
 have hPo := N _ h3
 have hxo := N _ h1
 have hPlt : P < s.heap.objs.size := Heap.lt_size hPo.1
 have hxlt : x < s.heap.objs.size := Heap.lt_size hxo.1
 have tsat : ∀ T ∈ ts, ∃ a b, s.heap.IsTuple T #[a, b] := fun T hT => by
  obtain ⟨j, hj, rfl⟩ := List.getElem_of_mem hT
  exact ⟨(ps[j]'(by lia)).1, (ps[j]'(by lia)).2, htup j _ _ _ (List.getElem?_eq_getElem hj) (List.getElem?_eq_getElem (by lia))⟩
 have tslt : ∀ T ∈ ts, T < s.heap.objs.size := fun T hT => by
  obtain ⟨a, b, o, ho, _⟩ := tsat T hT
  exact Heap.lt_size ho
 refine wpAny_GeneratorExp_walksQTD (xa := xa) (xb := xb) (cl := []) hh hco hclos hcell h0 hxa hxb hab hkind hroom ?_ (fun ι => rfl)
 refine ld F hself ?_ hsc hks
 refine acc_iter X I0 hm hfi ?_
 have kP : ∀ b o, s.heap.get? b = some o → (s.heap.push { cls := .type "list_iterator", data := .fields #[.ref x, .int 0 0] }).get? b = some o := fun b o e => Heap.get?_push_of_some _ e
 refine ⟨T.nolimit.keeps fun b o e => kP b o (F.keep b o e), ?_⟩
 refine gcode (s := { s with heap := s.heap.push { cls := .type "list_iterator", data := .fields #[.ref x, .int 0 0] } }) rfl (hok.keeps kP) (kP _ _ hPo.1) (htab.keeps kP) hP fun code h₃ tk3 tb' hx₃ hP3 ht3 hmore => ?_
 have nP : ∀ b o, h₀.get? b = some o → b ≠ P := fun b o e q => by rw [q, hPo.2.2] at e; cases e
 have up3 : ∀ b o, b ≠ P → s.heap.get? b = some o → h₃.get? b = some o := fun b o hb e => hx₃ b o hb (kP b o e)
 have k₃ : ∀ b o, h₀.get? b = some o → h₃.get? b = some o := fun b o e => up3 b o (nP b o e) (F.keep b o e)
 obtain ⟨bm, ob, b1, b2, b3, b4, b5, b6⟩ := T.bmain
 refine wpAny_builtinsFor (T.g.keeps k₃) b1 b2 (k₃ _ _ b3) b4 b5 b6 ?_
 have hIt : h₃.get? s.heap.objs.size = some { cls := .type "list_iterator", data := .fields #[.ref x, .int 0 0] } := hx₃ _ _ (Nat.ne_of_gt hPlt) (Heap.get?_push_size _ rfl)
 have st0 : h₃.IsListIter s.heap.objs.size x 0 ∧ IsSeq h₃ x (ts.map Value.ref).toArray ∧ ∀ (j : Nat) (T : Addr) (a b : Value), ts[j]? = some T → ps[j]? = some (a, b) → h₃.IsTuple T #[a, b] :=
  ⟨⟨_, hIt, rfl, rfl⟩, ⟨_, up3 _ _ (Ne.symm hPx) hxo.1, k, rfl⟩, fun j T a b e1 e2 => let ⟨o, ho, r⟩ := htup j T a b e1 e2; ⟨o, up3 _ _ (hPne T (List.mem_of_getElem? e1)) ho, r⟩⟩
 have hp : passing (fun ι => true) ps.length 0 = List.range ps.length := by simp [passing]
 have hc0 : cStatics < s.heap.objs.size := by
  obtain ⟨_, hn, _⟩ := T.nolimit.keeps F.keep
  exact hn.lt
 refine exI9 s.heap.objs.size (s.heap.objs.size :: x :: ts) [s.heap.objs.size] ps.length _ _ _ (fun ι => true) Fv ⟨rfl, fun A' hA' => acc_walks hA' s.heap.objs.size x (Nat.ne_of_lt hxlt) ts ps hlen (fun T hT => Nat.ne_of_lt (tslt T hT)), ?_, st0, ?_, T.nolimit.keeps k₃, ?_, ?_, ?_⟩
 ·rintro i vals ⟨a, b, _, rfl⟩
  exact ⟨a, b, rfl⟩
 ·intro b hb
  rcases List.mem_cons.mp hb with rfl | hb
  ·exact Heap.lt_size hIt
  rcases List.mem_cons.mp hb with rfl | hb
  ·exact Heap.lt_size (up3 _ _ (Ne.symm hPx) hxo.1)
  ·obtain ⟨_, _, o, ho, _⟩ := tsat b hb
   exact Heap.lt_size (up3 _ _ (hPne b hb) ho)
 ·intro hc
  rw [List.mem_singleton] at hc
  rw [hc] at hc0
  exact absurd hc0 (Nat.lt_irrefl _)
 ·intro href hk
  refine ⟨fun A' E' i va vb s₂ m₂ hA ι ι ι ι ι ι ι => wpAny_pure ⟨rfl, ⟨s₂.heap, s₂.toks, rfl, fun ι ι e => e⟩⟩, fun A' E' i va vb s₂ m₂ hA hD hU hPt ι hn ha hb hkk => ?_⟩
  obtain ⟨a, b, hab', hv⟩ := hPt
  have e1 : va = a := by have := congrArg (fun z : Array Value => z[0]?) hv; simpa using this
  have e2 : vb = b := by have := congrArg (fun z : Array Value => z[1]?) hv; simpa using this
  subst e1 e2
  refine helt.out A' E' i va vb s₂ m₂ _ code _ hA hD hU hab' hn ha hb fun b o e => ?_
  have lt : b < h₃.objs.size := Heap.lt_size (k₃ _ _ e)
  exact hkk b (List.mem_range.mpr lt) (fun q => by rw [List.mem_singleton] at q; have := Heap.lt_size (F.keep _ _ e); rw [q] at this; exact Nat.lt_irrefl _ this) o (hk b o (k₃ _ _ e))
 ·intro a h₅ tk gs hbare hlt hsz hk5 W hg
  rw [hp, List.length_range] at W
  refine hQ a _ _ h₅ tk gs tb' hbare ?_ (fun b o hb e => hk5 b o (up3 b o hb e)) (hk5 _ _ hP3) ht3 hmore ?_ ?_ (.head _) _ _ ?_ (fun i s' st => st.1.typeIs) W hg
  ·cases q : s.heap.get? a with
   | none => rfl
   | some o =>
    have h1 := Heap.lt_size q
    have h2 := Heap.lt_size hIt
    exact absurd (Nat.lt_trans (Nat.lt_trans h1 h2) hlt) (Nat.lt_irrefl _)
  ·intro b hb
   rw [hsz]
   rcases List.mem_cons.mp hb with rfl | hb
   ·exact Nat.lt_succ_self _
   rcases List.mem_cons.mp hb with rfl | hb
   ·exact Nat.lt_succ_of_lt hlt
   ·exact Nat.lt_succ_of_lt (Nat.lt_trans (List.mem_range.mp hb) hlt)
  ·intro b hb
   have out : ∀ c, s.heap.objs.size ≤ c → s.heap.get? c = none := fun c hc => by
    cases q : s.heap.get? c with
    | none => rfl
    | some o => exact absurd (Heap.lt_size q) (Nat.not_lt.mpr hc)
   rcases List.mem_cons.mp hb with rfl | hb
   ·exact out _ (Nat.le_of_lt (Heap.lt_size hIt))
   ·rw [List.mem_singleton.mp hb]
    exact out _ (Nat.le_refl _)
  ·rintro j y ⟨i, hi, hF⟩
   try rw [hp] at hi
   obtain ⟨_, rfl⟩ := List.getElem?_eq_some_iff.mp hi
   simpa using hF
end
end Mine
namespace Mine
theorem args_sum2 (a b : Value) : argsOk "sum" ⟨[a, b], []⟩ := by unfold argsOk; kernel_rfl
section
variable {w : World} {A : Around} {E : VP} {s : Shared}
theorem sum_start0 {x : Value} {t0 : Tok} {Q : VP}
  (h : wpAny (model PW w) A.in1 (pyIter x) (fun it s₂ => ∃ I fp wr G n P St val, it = .ref I ∧ WalksS PW w A.in1 I fp wr G n P St ∧ St 0 s₂ ∧ (∀ b ∈ fp, b < s₂.heap.objs.size) ∧
   (∀ i v, P i v → ∃ t, v = .int (val i) t) ∧ ∀ s' t', Moved wr G s₂ s' → Q (.int (preSum val n) t') s') E s) :
  wpAny (model PW w) A (call (.builtin "sum") [x, .int 0 t0]) Q E s := by
 refine call_function_tree PySem.F.kind_sum PySem.F.plain_sum PySem.F.entry_sum (args_sum2 _ _) ?_
 show wpAny _ _ (Builtin.Builtins.bindParams "sum" ["start"] 0 ⟨[.int 0 t0], []⟩ >>= _) _ _ s
 refine wpAny_bind (wpAny_of_eq (show Builtin.Builtins.bindParams "sum" ["start"] 0 ⟨[.int 0 t0], []⟩ = pure [some (.int 0 t0)] from rfl) ?_)
 refine wpAny_bind (cut_end (fun it s₂ h₂ => ?_) h)
 obtain ⟨I, fp, wr, G, n, P, St, val, rfl, W, hst, hfp, hval, hQ⟩ := h₂
 refine wpAny_bind (wpAny_rule (wpAny_bind (wpAny_mkInt (wpAny_bind (wpAny_pure ?_)))))
 show wpAny _ _ (((isInstance (.int 0 s₂.toks) (.type "str") >>= _) >>= _) >>= _) _ _ _
 refine wpAny_bind (wpAny_bind (wpAny_bind (wpAny_isInstance (T := "int") (b := false) (typeIs_int _ _ _) PySem.sub_int_str ?_)))
 show wpAny _ _ (pure _) _ _ _
 refine wpAny_pure (wpAny_bind (wpAny_bind (wpAny_isInstance (T := "int") (b := false) (typeIs_int _ _ _) PySem.sub_int_bytes ?_)))
 show wpAny _ _ (pure _) _ _ _
 refine wpAny_pure (wpAny_bind (wpAny_bind (wpAny_isInstance (T := "int") (b := false) (typeIs_int _ _ _) PySem.sub_int_bytearray ?_)))
 show wpAny _ _ (pure _) _ _ _
 refine wpAny_pure (wpAny_pure ?_)
 refine wpAny_bind (wpAny_newObj_type ?_)
 have hSf : s₂.heap.objs.size ∉ fp := fun hm => Nat.lt_irrefl _ (hfp _ hm)
 refine wpAny_pure ⟨plainId_quiet PySem.F.plain_sum_loop _, codeAny_sum_loopAnyS W val hval s₂.heap.objs.size hSf n 0 _ s₂.toks 0 0 (.inl rfl) rfl (Nat.zero_le _)
  (W.frame 0 s₂ _ _ hst (Nat.le_succ _) fun b ι o e => Heap.get?_push_of_some _ e) (Heap.get?_push_size _ rfl) fun s' t' hm => ?_⟩
 exact hQ s' t' (hm.drop_new (Nat.le_succ _))
end
end Mine
namespace Mine
noncomputable def strPair (p : Str × Str) (a b : Value) : Prop := (∃ t, a = .str p.1 t) ∧ ∃ t, b = .str p.2 t
noncomputable def StrPairs (ps : List (Value × Value)) (xs : List (Str × Str)) : Prop := ps.length = xs.length ∧ ∀ (i : Nat) (a b : Value) (p : Str × Str), ps[i]? = some (a, b) → xs[i]? = some p → strPair p a b
theorem StrPairs.get {ps : List (Value × Value)} {xs : List (Str × Str)} (h : StrPairs ps xs) {i : Nat} {a b : Value} (e : ps[i]? = some (a, b)) : ∃ p, xs[i]? = some p ∧ strPair p a b := by
 obtain ⟨hl, _⟩ := List.getElem?_eq_some_iff.mp e
 have hx : xs[i]? = some (xs[i]'(by rw [← h.1]; exact hl)) := List.getElem?_eq_getElem _
 exact ⟨_, hx, h.2 i a b _ e hx⟩
section
variable {w : World} {A : Around} {E : VP} {s : Shared} {mg mb : NM} {h₀ : Heap} {env : Env} {m : NM}
theorem name_bi {x : Str} {v : Value} {p : Pos} {Q : VP} (C : St w mg mb h₀) (k : h₀.StaysIn s.heap) (hg : env.globals = mainGlobals) (hb : env.builtins = builtinsNs) (hk : env.scope.kind = .function) (hx : env.kindOf x = some .globalImplicit)
  (hn : nsIn (hd.heap_1 w.params) mainGlobals x = some none) (hv : bootBuiltins x = some v) (hx2 : x ≠ "__name__") (hd : (x == ("__debug__" : Str)) = false) (hQ : Q v s) : wpAny (model PW w) A (eval (.Name x p) env) Q E s := by
 obtain ⟨loose, mean, T⟩ := C.top
 exact Name_function_global hk hx (loadGlobal_builtin (env := env) (by rw [hg]; exact T.g.keeps k) (mg_none_of C.K T.g hn) (by rw [hb]; exact T.b.keeps k) ((T.builtins x hx2).trans hv) hQ) hd
theorem len_name {v : Str} {x : Str} {t : Tok} {p1 p2 p3 : Pos} {Q : VP} (C : St w mg mb h₀) (k : h₀.StaysIn s.heap) (hg : env.globals = mainGlobals) (hb : env.builtins = builtinsNs) (hk : env.scope.kind = .function) (hx : env.kindOf "len" = some .globalImplicit)
  (hn : nsIn (hd.heap_1 w.params) mainGlobals "len" = some none) (hns : s.heap.Ns env.locals m) (hl : env.kindOf v = some .local) (hm : m v = some (.str x t)) (hd : (v == ("__debug__" : Str)) = false) (hz : x.length ≤ sizeLine)
  (hQ : ∀ t' tk, Q (.int x.length t') { s with toks := tk }) : wpAny (model PW w) A (eval (.Call (.Name "len" p1) [.Name v p2] [] p3) env) Q E s := by
 refine wpAny_Call_NameR (name_bi C k hg hb hk hx hn (v := .builtin "len") (by decide +kernel) (by decide) (by decide) ?_)
 refine callWith_builtin rfl (evalArgs_plain (spliced_cons (wpAny_Name (wpAny_loadName_local hk hl hns hm (spliced_nil ?_)) hd)))
 refine PySem.P.len_str ?_ (hQ _ _)
 have : sizeLine = 16777216 := sizeLine_eq
 lia
theorem elt_len {b₀ : Heap} {scope : Scope} {ps : List (Value × Value)} {xs : List (Str × Str)} {D U : Nat} {p1 p2 p3 p4 p5 p6 p7 : Pos} (C : St w mg mb b₀) (hp : StrPairs ps xs) (hz : ∀ p ∈ xs, p.1.length ≤ sizeLine ∧ p.2.length ≤ sizeLine)
  (hk : scope.kind = .function) (hx : scope.names.lookup ("len" : Str) = some .globalImplicit) (ha : scope.names.lookup ("fws" : Str) = some .local) (hb : scope.names.lookup ("part" : Str) = some .local) (hn : nsIn (hd.heap_1 w.params) mainGlobals "len" = some none) :
  EltOk w b₀ "fws" "part" (.BinOp (.Call (.Name "len" p1) [.Name "fws" p2] [] p3) .Add (.Call (.Name "len" p4) [.Name "part" p5] [] p6) p7) scope ps (fun i y => ∃ p t, xs[i]? = some p ∧ y = .int (p.1.length + p.2.length) t) D U := by
 refine ⟨fun A' E' i a b s₂ m₂ Ca code q hA ι ι hi hns hma hmb k => ?_⟩
 obtain ⟨p, hpx, ⟨ta, rfl⟩, tb, rfl⟩ := hp.get hi
 have hz' := hz p (List.mem_of_getElem? hpx)
 refine wpAny_BinOp (len_name C k rfl rfl hk hx hn hns ha hma (by decide) hz'.1 fun t1 tk1 => ?_)
 refine len_name (s := { s₂ with toks := tk1 }) C k rfl rfl hk hx hn hns hb hmb (by decide) hz'.2 fun t2 tk2 => ?_
 refine wpAny_add_int ?_
 exact ⟨⟨p, _, hpx, rfl⟩, s₂.heap, _, rfl, fun ι ι e => e⟩
end
end Mine
namespace Mine
section
variable {w : World} {A : Around} {E : VP} {s : Shared} {K : Frag} {x : Addr} {ox : Obj} {od : Option Obj} {name : Str} {expr : Bool}
theorem acc_get {v : Value} {Q : VP} (X : K.In s.heap) (I : InstAt s.heap x ox 185 od) (hm : mroIn K 185 (.type "object") = some true) (hga : findIn K (.ref 185) "__getattribute__" = some (some (.builtin "list.__getattribute__"))) (hk : findIn K (.ref 185) "__getattr__" = some none)
  (hf : findObj K 185 od name = some (.value v)) (hh : handedIn v = true) (h : Q v { s with toks := s.toks + 1 }) (hml : mroIn K 185 (.type "list") = some true) : wpAny (model PW w) A (getAttr (.ref x) name expr) Q E s := by
 obtain ⟨hp, g, d, t, os⟩ := s
 have L0 := I.type (M := model PW w)
 have L1 := looks_findIn (M := model PW w) X hga
 have L2 := looks_findIn (M := model PW w) X hk
 have L3 := looks_find (M := model PW w) X I hf
 unfold getAttr getAttrBy
 refine wpAny_bind (wpAny_mkText (wpAny_holding (wpAny_bind (L0.at (wpAny_bind (L1.at ?_))))))
 show wpAny _ _ (getAttrByItsOwn (.ref x) (.str name t) (.ref 185) (.builtin "list.__getattribute__") true expr) _ _ _
 unfold getAttrByItsOwn hookBefore
 refine wpAny_bind ?_
 refine wp_t (show onTheHeap (.ref 185) = true from rfl) ?_
 refine L2.at ?_
 refine wpAny_bind (wpAny_attempt (wpAny_holding ?_))
 have e : callGetattribute (.ref x) (.str name t) (.builtin "list.__getattribute__") expr = boundAndCalled (.builtin "list.__getattribute__") (.ref x) (.str name t) := by
  unfold callGetattribute
  rw [show onTheHeap (.builtin "list.__getattribute__") = false from rfl, Bool.and_false, if_neg (by decide)]
 rw [e]
 unfold boundAndCalled
 refine wpAny_bind (wpAny_of_eq (PySem.F.slot_list_getattribute.bind _) ?_)
 refine wpAny_mono (Q := fun r s' => r = v ∧ s' = ⟨hp, g, d, t + 1, os⟩) (E := fun ι ι => False) ?_ (fun r s' hv => ?_) fun ι ι z => z.elim
 ·refine bi_call (s := ⟨hp, g, d, t + 1, os⟩) X I hml (owner := "list") (n := "__getattribute__") (by decide +kernel) (.inl (by decide +kernel)) (by decide +kernel) PySem.am_entry_list_getattribute (PySem.F.args_list_getattribute_2 _ _) ?_
  unfold Builtin.«object.__getattribute__»
  refine wpAny_bind (wpAny_of_eq (show slotArgs "__getattribute__" 1 ⟨[.ref x, .str name t], []⟩ = pure (.ref x, [.str name t]) from rfl) ?_)
  dsimp only
  refine wpAny_bind (wpAny_pure ?_)
  refine wpAny_bind (L0.at (wpAny_bind (L3.at ?_)))
  exact wpAny_pure ⟨v, rfl, rfl, rfl⟩
 ·obtain ⟨rfl, rfl⟩ := hv
  show wpAny _ _ (handedOut r) _ _ _
  rw [handedOut_of hh]; exact wpAny_pure h
end
end Mine
namespace Mine
noncomputable abbrev posLen : Pos := ⟨107, 19, 107, 63⟩
noncomputable abbrev posStr : Pos := ⟨110, 32, 110, 85⟩
theorem Tb.triples {pos : Pos} {ps : Array Value} (h : Tb pos ps) : TriplesOk ps.toList := by
 rcases h with rfl | ⟨c, rfl⟩
 ·trivial
 ·simp [TriplesOk, rawInt]
theorem code151 {w : World} {h : Heap} {ps : Array Value} (X : (hd.heap_1 w.params).In h) (e : h.get? 147 = some (tblO ps)) (t : Tb posLen ps) : h.IsCode 151 147 ps ∧ h.TableAt 151 147 ps := by
 have h1 : ∃ c d sl vs, (hd.heap_1 w.params).lookup 151 = some ⟨c, d, .fields vs, sl⟩ ∧ c = .type "code" ∧ vs[11]? = some (.ref 147) ∧ vs.getD 11 .none = .ref 147 ∧ (∃ file tf, vs.getD 18 .none = .str file tf) ∧ (∃ fl tg, vs.getD 7 .none = .int fl tg) ∧ (∃ b, vs.getD 9 .none = .bool b) ∧ ∃ x tt, vs.getD 10 .none = .int x tt :=
  ⟨_, _, _, _, by k_is, rfl, by kernel_rfl, by kernel_rfl, ⟨Str.ofString "/claim/cut.py", 375, by kernel_rfl⟩, ⟨3, 0, by kernel_rfl⟩, ⟨true, by kernel_rfl⟩, 181, 0, by kernel_rfl⟩
 obtain ⟨c, d, sl, vs, e1, e2, e3, e4, ⟨file, tf, e5⟩, ⟨fl, tg, e6⟩, ⟨b, e7⟩, z, tt, e8⟩ := h1
 exact ⟨⟨_, vs, file, tf, fl, tg, b, z, tt, _, X _ _ e1, rfl, e4, e5, e6, e7, e8, e, rfl, t.triples, by decide⟩, ⟨_, vs, X _ _ e1, e2, rfl, e3⟩, e⟩
theorem code158 {w : World} {h : Heap} {ps : Array Value} (X : (hd.heap_1 w.params).In h) (e : h.get? 154 = some (tblO ps)) (t : Tb posStr ps) : h.IsCode 158 154 ps ∧ h.TableAt 158 154 ps := by
 have h1 : ∃ c d sl vs, (hd.heap_1 w.params).lookup 158 = some ⟨c, d, .fields vs, sl⟩ ∧ c = .type "code" ∧ vs[11]? = some (.ref 154) ∧ vs.getD 11 .none = .ref 154 ∧ (∃ file tf, vs.getD 18 .none = .str file tf) ∧ (∃ fl tg, vs.getD 7 .none = .int fl tg) ∧ (∃ b, vs.getD 9 .none = .bool b) ∧ ∃ x tt, vs.getD 10 .none = .int x tt :=
  ⟨_, _, _, _, by k_is, rfl, by kernel_rfl, by kernel_rfl, ⟨Str.ofString "/claim/cut.py", 382, by kernel_rfl⟩, ⟨3, 0, by kernel_rfl⟩, ⟨true, by kernel_rfl⟩, 181, 0, by kernel_rfl⟩
 obtain ⟨c, d, sl, vs, e1, e2, e3, e4, ⟨file, tf, e5⟩, ⟨fl, tg, e6⟩, ⟨b, e7⟩, z, tt, e8⟩ := h1
 exact ⟨⟨_, vs, file, tf, fl, tg, b, z, tt, _, X _ _ e1, rfl, e4, e5, e6, e7, e8, e, rfl, t.triples, by decide⟩, ⟨_, vs, X _ _ e1, e2, rfl, e3⟩, e⟩
section
variable {w : World} {mg mb : NM} {b₀ : Heap} {s : Shared} {A : Around} {Q E : VP} {x d : Addr} {k : Nat} {t0 t1 : Tok} {tb : Array Value} {ts : List Addr} {ps : List (Value × Value)} {xs : List (Str × Str)}
theorem Fr.but {h₀ h h' : Heap} {L P : Addr} {m : NM} (F : Fr h₀ L h m) (k : ∀ b o, b ≠ P → h.get? b = some o → h'.get? b = some o) (hP : h₀.get? P = none) (hL : P ≠ L) : Fr h₀ L h' m := by
 obtain ⟨oL, es, ep, hL', r⟩ := F.ns
 exact ⟨⟨oL, es, ep, k _ _ (Ne.symm hL) hL', r⟩, fun b o e => k b o (fun q => by rw [q, hP] at e; exact no_some e) (F.keep b o e), F.above⟩
noncomputable def lenOf (xs : List (Str × Str)) : Nat := (xs.map fun p => p.1.length + p.2.length).sum
theorem preSum_len {xs : List (Str × Str)} {val : Nat → Int} (h : ∀ i p, xs[i]? = some p → val i = ((p.1.length + p.2.length : Nat) : Int)) : ∀ n, n ≤ xs.length → preSum val n = ((lenOf (xs.take n) : Nat) : Int)
 | 0, _ => by simp [preSum, lenOf]
 | n + 1, hn => by
  have hx : xs[n]? = some (xs[n]'‹_›) := List.getElem?_eq_getElem _
  rw [preSum, preSum_len h n (Nat.le_of_lt ‹_›), h n _ hx, List.take_add_one, hx]
  simp only [lenOf, Option.toList_some, List.map_append, List.map_cons, List.map_nil, List.sum_append, List.sum_cons, List.sum_nil]
  lia
set_option tactic.hygienic true in
theorem len_c (C : St w mg mb b₀) (k₀ : b₀.StaysIn s.heap) (O : Own b₀ s.heap [(x, accObj d (ts.map Value.ref).toArray k), (d, accD w t0 0 t1), (147, tblO tb)]) (hP : Tb posLen tb) (hxd : @Ne Nat x d) (hx : @LT.lt Nat _ 147 x) (hd7 : @LT.lt Nat _ 147 d) (hh : A.handled = none) (hdp : A.depth + 4 < recursionLimit) (hun : A.units + 30 < cLine)
  (hlen : ts.length = ps.length) (htup : ∀ (j : Nat) (T : Addr) (a b : Value), ts[j]? = some T → ps[j]? = some (a, b) → s.heap.IsTuple T #[a, b]) (hts : ∀ T ∈ ts, @Ne Nat T 147 ∧ T ≠ x ∧ T ≠ d) (hp : StrPairs ps xs) (hz : ∀ p ∈ xs, p.1.length ≤ sizeLine ∧ p.2.length ≤ sizeLine) (hb : AllBare s.gens)
  (hret : ∀ s' t tb', Ch s.heap s'.heap [(x, accObj d (ts.map Value.ref).toArray k), (d, accD w t0 0 t1), (147, tblO tb')] [] → Tb posLen tb' → (∃ more, tb' = tb ++ more) → AllBare s'.gens → s'.os = s.os → Q (.int (lenOf xs) t) s') :
  wpAny (model PW w) A (call (.ref 152) [.ref x]) Q E s := by
 refine wpAny_call ?_
 (k_dflt (refine' Mine.enter ?kC ?k0 ?kO ?kr ?ho ?hcd ?hb ?hloc ?_ ?c2 ?c3 ?c4 ?c5; (case kC => assumption); (case k0 => assumption); (case kO => assumption); (case ho => k_is); (case hcd => k_is); (case kr => (first | lia | (simp only [Around.deeper, Around.in1, Around.mark, recursionLimit, cLine_is] at *; lia))); (case hb => first | exact BindsTo.of_eq rfl | exact binds_K (by k_in) rfl (by k_is) rfl rfl rfl); (case c5 => decide); (case hloc => exact locs rfl); (case c2 => exact rfl); (case c3 => exact rfl); (case c4 => exact rfl); k_whole; intro L₁ g₁ h₁ eL eg F N lt st Cg; (try k_lt lt); (have X2 := Mine.St.K Cg); (obtain ⟨_, _, T2⟩ := Mine.St.top Cg); (try dsimp only); (try k_fold)))
 rename_i loose mean
 have c151 := code151 (X2.keeps F.keep) (N _ (.tail _ (.tail _ (.head _)))).1 hP
 have up0 : ∀ b o, b ≠ x → b ≠ d → b ≠ 147 → s.heap.get? b = some o → h₁.get? b = some o := fun b o n1 n2 n3 e => F.keep b o (by rw [eg]; exact hideAll_get _ e (by simp; exact ⟨n1, n2, n3⟩))
 have tup1 : ∀ (j : Nat) (T : Addr) (a b : Value), ts[j]? = some T → ps[j]? = some (a, b) → h₁.IsTuple T #[a, b] := fun j T a b e1 e2 => by
  obtain ⟨o, ho, r⟩ := htup j T a b e1 e2
  have := hts T (List.mem_of_getElem? e1)
  exact ⟨o, up0 T o this.2.1 this.2.2 this.1 ho, r⟩
 refine ex_cons (wpAny_Return_some (wpAny_Call_NameR (name_bi Cg F.keep rfl rfl rfl rfl (v := .builtin "sum") (by k_is) (by decide +kernel) (by decide) (by decide) (callWith_builtin rfl (evalArgs_plain (spliced_cons ?_))))))
 refine acc_gen (ts := ts) (ps := ps) (xa := "fws") (xb := "part") Cg F N hh ?_ rfl (.head _) (.tail _ (.head _)) (.tail _ (.tail _ (.head _))) hP c151.1 c151.2 hlen tup1 (by k_is) (by k_is) rfl rfl rfl rfl (by decide) rfl rfl rfl (by decide) rfl
  (elt_len Cg hp hz rfl rfl rfl rfl (by k_is)) (fun T hT => (hts T hT).1) (Nat.ne_of_lt hx) ?_
 ·show A.depth + 1 < recursionLimit
  lia
 ·intro a fp wr h₅ tk gs tb' hbare hnew kp hPn hT more hfp hwr _ St0 Pp hPp _ W hst
  have N3 := N _ (.tail _ (.tail _ (.head _)))
  have F5 : Fr g₁ L₁ h₅ _ := Fr.but F kp N3.2.2 N3.2.1
  have I5 : InstAt h₅ x (accObj d (ts.map Value.ref).toArray k) 185 (some (accD w t0 0 t1)) := ⟨kp _ _ (Ne.symm (Nat.ne_of_lt hx)) (N _ (.head _)).1, rfl, rfl, kp _ _ (Ne.symm (Nat.ne_of_lt hd7)) (N _ (.tail _ (.head _))).1⟩
  refine spliced_cons (Attribute_name (ld F5 rfl ?_ rfl rfl))
  refine acc_get (X2.keeps F5.keep) I5 (by k_is) (by k_is) (by k_is) rfl rfl ?_ (by k_is)
  refine spliced_nil ?_
  let val : Nat → Int := fun i => match xs[i]? with | some p => ((p.1.length + p.2.length : Nat) : Int) | none => 0
  have hval : ∀ i p, xs[i]? = some p → val i = ((p.1.length + p.2.length : Nat) : Int) := fun i p e => by show (match xs[i]? with | some p => ((p.1.length + p.2.length : Nat) : Int) | none => 0) = _; rw [e]
  refine sum_start0 (W.in4_1.self 0 _ _ _ (W.frame 0 _ h₅ _ hst (Nat.le_succ _) fun ι ι ι e => e) ⟨a, fp, wr, _, ps.length, Pp, St0, val, rfl, W.in4_1, W.frame 0 _ h₅ _ hst (Nat.le_succ _) fun ι ι ι e => e, hfp, ?_, fun s' t' mv => ?_⟩)
  ·intro i v hv
   obtain ⟨p, t, e1, rfl⟩ := hPp i v hv
   exact ⟨t, by rw [hval i p e1]; rfl⟩
  ·have e := preSum_len hval ps.length (Nat.le_of_eq hp.1)
   rw [hp.1, List.take_length] at e
   have wr1 : ∀ b o, h₁.get? b = some o → b ∉ wr := fun b o e hb => by have := hwr b hb; dsimp only at this; rw [e] at this; cases this
   have up5 : ∀ b o, h₁.get? b = some o → b ≠ 147 → s'.heap.get? b = some o := fun b o e n => mv.heap b o (wr1 b o e) (kp b o n e)
   refine hp.1 ▸ ?_
   show Q (.int (preSum val xs.length) t') s'
   rw [e]
   refine hret s' t' tb' ⟨fun b o hb eb => ?_, fun p hp' => ?_, fun ι h => nomatch h⟩ hT more (GenOnlyQ.bare mv.gens ?_) mv.os
   ·simp only [List.map_cons, List.map_nil, List.mem_cons, List.not_mem_nil, or_false, not_or] at hb
    exact up5 b o (up0 b o hb.1 hb.2.1 hb.2.2 eb) hb.2.2
   ·rcases List.mem_cons.mp hp' with rfl | hp'
    ·exact up5 _ _ (N _ (.head _)).1 (Ne.symm (Nat.ne_of_lt hx))
    rcases List.mem_cons.mp hp' with rfl | hp'
    ·exact up5 _ _ (N _ (.tail _ (.head _))).1 (Ne.symm (Nat.ne_of_lt hd7))
    ·rw [List.mem_singleton] at hp'
     subst hp'
     exact mv.heap _ _ (wr1 _ _ N3.1) hPn
   ·intro y hy
    rcases Array.mem_push.mp hy with hy | rfl
    ·exact hb y hy
    ·exact hbare
end
end Mine
namespace Mine
noncomputable def catS (ys : List Str) : Str := ⟨(ys.flatMap fun y => y.cps.toList).toArray⟩
theorem glue_fold (acc : Array Nat) (ys : List Str) : ys.foldl (fun acc p => acc ++ (#[] : Array Nat) ++ p.cps) acc = acc ++ (ys.flatMap fun y => y.cps.toList).toArray := by
 induction ys generalizing acc with
 | nil => simp
 | cons y ys ih =>
  rw [List.foldl_cons, ih]
  apply Array.ext'
  simp
theorem join_empty (ys : List Str) : Txt.join (Str.ofString "") ys = catS ys := by
 have e : (Str.ofString "").cps = #[] := by decide +kernel
 unfold Txt.join Builtin.Str.glued catS
 rw [e]
 cases ys with
 | nil => rfl
 | cons y ys =>
  show (⟨ys.foldl (fun acc p => acc ++ (#[] : Array Nat) ++ p.cps) y.cps⟩ : Str) = _
  rw [glue_fold]
  simp
theorem catS_cps (ys : List Str) : (catS ys).cps.toList = ys.flatMap fun y => y.cps.toList := by simp [catS]
theorem length_eq (y : Str) : y.length = y.cps.toList.length := by cases y; simp [Str.length]
theorem catS_length (ys : List Str) : (catS ys).length = (ys.map (·.length)).sum := by
 rw [length_eq, catS_cps, List.length_flatMap]
 simp only [length_eq]
section
variable {w : World} {A : Around} {E : VP} {s : Shared} {mg mb : NM} {h₀ : Heap} {env : Env} {m : NM}
theorem name_top {x : Str} {v : Value} {p : Pos} {Q : VP} (C : St w mg mb h₀) (k : h₀.StaysIn s.heap) (hg : env.globals = mainGlobals) (hk : env.scope.kind = .function) (hx : env.kindOf x = some .globalImplicit)
  (hn : nsIn (hd.heap_1 w.params) mainGlobals x = some (some v)) (hd : (x == ("__debug__" : Str)) = false) (hQ : Q v s) : wpAny (model PW w) A (eval (.Name x p) env) Q E s := by
 obtain ⟨loose, mean, T⟩ := C.top
 exact Name_function_global hk hx (loadGlobal_global (env := env) (by rw [hg]; exact T.g.keeps k) (mg_of C.K T.g hn) hQ) hd
theorem elt_str {b₀ : Heap} {scope : Scope} {ps : List (Value × Value)} {xs : List (Str × Str)} {D U : Nat} {te : Tok} (C : St w mg mb b₀) (hp : StrPairs ps xs) (hz : ∀ p ∈ xs, p.1.length ≤ 1000000 ∧ p.2.length ≤ 1000000)
  (hk : scope.kind = .function) (hx : scope.names.lookup ("EMPTYSTRING" : Str) = some .globalImplicit) (ha : scope.names.lookup ("fws" : Str) = some .local) (hb : scope.names.lookup ("part" : Str) = some .local)
  (hn : nsIn (hd.heap_1 w.params) mainGlobals "EMPTYSTRING" = some (some (.str (Str.ofString "") te))) :
  EltOk w b₀ "fws" "part" (.Call (.Attribute (.Name "EMPTYSTRING" ⟨110, 33, 110, 44⟩) "join" ⟨110, 33, 110, 49⟩) [.Tuple [.Name "fws" ⟨110, 51, 110, 54⟩, .Name "part" ⟨110, 56, 110, 60⟩] 0 ⟨110, 50, 110, 61⟩] [] ⟨110, 33, 110, 62⟩) scope ps (fun i y => ∃ p t, xs[i]? = some p ∧ y = .str (catS [p.1, p.2]) t) D U := by
 refine ⟨fun A' E' i a b s₂ m₂ Ca code q hA ι ι hi hns hma hmb k => ?_⟩
 obtain ⟨p, hpx, ⟨ta, rfl⟩, tb, rfl⟩ := hp.get hi
 have hz' := hz p (List.mem_of_getElem? hpx)
 refine MethodCall_ (name_top C k rfl hk hx hn (by decide) (PySem.GM.join ?_))
 refine callWith_builtin rfl (evalArgs_plain (spliced_cons ?_))
 refine Tuple_ (k := 0) (spliced_cons (wpAny_Name (wpAny_loadName_local hk ha hns hma (spliced_cons (wpAny_Name (wpAny_loadName_local hk hb hns hmb (spliced_nil ?_)) (by decide)))) (by decide)))
 refine wpAny_newObj_type ?_ (by show 2 ≤ sizeLine; rw [sizeLine_eq]; lia)
 refine spliced_nil ?_
 refine join_tuple (D := s₂.heap.objs.size) (items := #[.str p.1 ta, .str p.2 tb]) (ys := [p.1, p.2]) ⟨_, Heap.get?_push_size _ rfl, rfl, _, rfl⟩ (.cons _ _ (.cons _ _ .nil)) ?_ fun t' tk => ?_
 ·have e : (Str.ofString "").length = 0 := by decide +kernel
  simp only [List.map_cons, List.map_nil, List.sum_cons, List.sum_nil, List.length_cons, List.length_nil]
  rw [e]
  lia
 ·rw [join_empty]
  exact ⟨⟨p, t', hpx, rfl⟩, _, _, rfl, fun b o e => Heap.get?_push_of_some _ e⟩
end
section
variable {w : World} {mg mb : NM} {b₀ : Heap} {s : Shared} {A : Around} {Q E : VP} {x d : Addr} {k : Nat} {t0 t1 : Tok} {tb : Array Value} {ts : List Addr} {ps : List (Value × Value)} {xs : List (Str × Str)}
noncomputable def textOf (xs : List (Str × Str)) : Str := catS (xs.map fun p => catS [p.1, p.2])
theorem textOf_length (xs : List (Str × Str)) : (textOf xs).length = lenOf xs := by
 unfold textOf lenOf
 rw [catS_length, List.map_map]
 congr 1
 refine List.map_congr_left fun p ι => ?_
 show (catS [p.1, p.2]).length = _
 rw [catS_length]
 simp
set_option tactic.hygienic true in
theorem str_c (C : St w mg mb b₀) (k₀ : b₀.StaysIn s.heap) (O : Own b₀ s.heap [(x, accObj d (ts.map Value.ref).toArray k), (d, accD w t0 0 t1), (154, tblO tb)]) (hP : Tb posStr tb) (hxd : @Ne Nat x d) (hx : @LT.lt Nat _ 154 x) (hd7 : @LT.lt Nat _ 154 d) (hh : A.handled = none) (hdp : A.depth + 4 < recursionLimit) (hun : A.units + 30 < cLine)
  (hlen : ts.length = ps.length) (htup : ∀ (j : Nat) (T : Addr) (a b : Value), ts[j]? = some T → ps[j]? = some (a, b) → s.heap.IsTuple T #[a, b]) (hts : ∀ T ∈ ts, @Ne Nat T 154 ∧ T ≠ x ∧ T ≠ d) (hp : StrPairs ps xs) (hz : ∀ p ∈ xs, p.1.length ≤ 1000000 ∧ p.2.length ≤ 1000000) (hz2 : lenOf xs ≤ 1000000) (hz3 : xs.length ≤ 1000000) (hb : AllBare s.gens)
  (hret : ∀ s' t tb', Ch s.heap s'.heap [(x, accObj d (ts.map Value.ref).toArray k), (d, accD w t0 0 t1), (154, tblO tb')] [] → Tb posStr tb' → (∃ more, tb' = tb ++ more) → AllBare s'.gens → s'.os = s.os → Q (.str (textOf xs) t) s') :
  wpAny (model PW w) A (call (.ref 159) [.ref x]) Q E s := by
 refine wpAny_call ?_
 (k_dflt (refine' Mine.enter ?kC ?k0 ?kO ?kr ?ho ?hcd ?hb ?hloc ?_ ?c2 ?c3 ?c4 ?c5; (case kC => assumption); (case k0 => assumption); (case kO => assumption); (case ho => k_is); (case hcd => k_is); (case kr => (first | lia | (simp only [Around.deeper, Around.in1, Around.mark, recursionLimit, cLine_is] at *; lia))); (case hb => first | exact BindsTo.of_eq rfl | exact binds_K (by k_in) rfl (by k_is) rfl rfl rfl); (case c5 => decide); (case hloc => exact locs rfl); (case c2 => exact rfl); (case c3 => exact rfl); (case c4 => exact rfl); k_whole; intro L₁ g₁ h₁ eL eg F N lt st Cg; (try k_lt lt); (have X2 := Mine.St.K Cg); (obtain ⟨_, _, T2⟩ := Mine.St.top Cg); (try dsimp only); (try k_fold)))
 rename_i loose mean
 have c158 := code158 (X2.keeps F.keep) (N _ (.tail _ (.tail _ (.head _)))).1 hP
 have up0 : ∀ b o, b ≠ x → b ≠ d → b ≠ 154 → s.heap.get? b = some o → h₁.get? b = some o := fun b o n1 n2 n3 e => F.keep b o (by rw [eg]; exact hideAll_get _ e (by simp; exact ⟨n1, n2, n3⟩))
 have tup1 : ∀ (j : Nat) (T : Addr) (a b : Value), ts[j]? = some T → ps[j]? = some (a, b) → h₁.IsTuple T #[a, b] := fun j T a b e1 e2 => by
  obtain ⟨o, ho, r⟩ := htup j T a b e1 e2
  have := hts T (List.mem_of_getElem? e1)
  exact ⟨o, up0 T o this.2.1 this.2.2 this.1 ho, r⟩
 refine ex_cons (wpAny_Return_some (MethodCall_ (name_top Cg F.keep rfl rfl rfl (v := .str (Str.ofString "") 211) (by k_is) (by decide) (PySem.GM.join (callWith_builtin rfl (evalArgs_plain (spliced_cons ?_)))))))
 refine acc_gen (ts := ts) (ps := ps) (xa := "fws") (xb := "part") Cg F N hh ?_ rfl (.head _) (.tail _ (.head _)) (.tail _ (.tail _ (.head _))) hP c158.1 c158.2 hlen tup1 (by k_is) (by k_is) rfl rfl rfl rfl (by decide) rfl rfl rfl (by decide) rfl
  (elt_str (te := 211) Cg hp hz rfl rfl rfl rfl (by k_is)) (fun T hT => (hts T hT).1) (Nat.ne_of_lt hx) ?_
 ·show A.depth + 1 < recursionLimit
  lia
 ·intro a fp wr h₅ tk gs tb' hbare hnew kp hPn hT more hfp hwr hafp St0 Pp hPp hgen W hst
  have N3 := N _ (.tail _ (.tail _ (.head _)))
  refine spliced_nil ?_
  refine PySem.SC.joinGen (WalksS.of_in1 (A := _) (WalksS.of_in1 (A := _) W)) hgen hst hfp hafp ?_ ?_ ?_
  ·intro i v hv
   obtain ⟨p, t, e1, rfl⟩ := hPp i v hv
   exact ⟨_, _, rfl⟩
  ·intro s' l mv hits
   have hl : l.map (·.1) = xs.map fun p => catS [p.1, p.2] := by
    refine List.ext_getElem? fun i => ?_
    rw [List.getElem?_map, List.getElem?_map]
    have hsz : l.length = ps.length := by have := hits.1; simpa [strValues] using this
    have hxl := hp.1
    cases e : l[i]? with
    | none =>
     have : xs[i]? = none := List.getElem?_eq_none_iff.mpr (by have := List.getElem?_eq_none_iff.mp e; lia)
     rw [this]; rfl
    | some q =>
     obtain ⟨p, t, e1, e2⟩ := hPp i (.str q.1 q.2) (hits.2 i _ (by simp [strValues, e]))
     rw [e1]
     exact congrArg some (Value.str.inj e2).1
   have wr1 : ∀ b o, h₁.get? b = some o → b ∉ wr := fun b o e hb => by have := hwr b hb; dsimp only at this; rw [e] at this; cases this
   have up5 : ∀ b o, h₁.get? b = some o → b ≠ 154 → s'.heap.get? b = some o := fun b o e n => mv.heap b o (wr1 b o e) (kp b o n e)
   have e0 : (Str.ofString "").length = 0 := by decide +kernel
   refine ⟨joinOk_of ?_, fun t' k => ?_⟩
   ·rw [hl, List.map_map, e0]
    have h1 := textOf_length xs
    unfold textOf at h1
    rw [catS_length, List.map_map] at h1
    lia
   ·rw [join_empty, hl]
    refine hret _ t' tb' ⟨fun b o hb eb => ?_, fun p hp' => ?_, fun ι h => nomatch h⟩ hT more (GenOnlyQ.bare mv.gens ?_) mv.os
    ·simp only [List.map_cons, List.map_nil, List.mem_cons, List.not_mem_nil, or_false, not_or] at hb
     exact up5 b o (up0 b o hb.1 hb.2.1 hb.2.2 eb) hb.2.2
    ·rcases List.mem_cons.mp hp' with rfl | hp'
     ·exact up5 _ _ (N _ (.head _)).1 (Ne.symm (Nat.ne_of_lt hx))
     rcases List.mem_cons.mp hp' with rfl | hp'
     ·exact up5 _ _ (N _ (.tail _ (.head _))).1 (Ne.symm (Nat.ne_of_lt hd7))
     ·rw [List.mem_singleton] at hp'
      subst hp'
      exact mv.heap _ _ (wr1 _ _ N3.1) hPn
    ·intro y hy
     rcases Array.mem_push.mp hy with hy | rfl
     ·exact hb y hy
     ·exact hbare
  ·rw [hp.1]
   have : sizeLine = 16777216 := sizeLine_eq
   lia
end
end Mine
namespace Mine
open Lean Elab Term Meta in
theorem sb_slot_wget : Slot "wrapper_descriptor" "__get__" "wrapper_descriptor.__get__" :=
 .of (owner := "wrapper_descriptor") (n := "__get__") (by rw [typeLookup_type, builtinLookup_eq_fast]; kernel_rfl) (by decide +kernel) (by decide +kernel) (by decide +kernel)
  (by first | exact .inl (by decide +kernel) | exact .inr (by decide +kernel)) (by rw [isSubtype_type]; kernel_rfl)
theorem sb_entry_wget : entryFor table "wrapper_descriptor.__get__" = some Builtin.«wrapper_descriptor.__get__» := entryFor_of_tree (by kernel_rfl)
theorem sb_args_wget (a b c : Value) : argsOk "wrapper_descriptor.__get__" ⟨[a, b, c], []⟩ := by unfold argsOk; kernel_rfl
theorem sb_slot_mget : Slot "method_descriptor" "__get__" "method_descriptor.__get__" :=
 .of (owner := "method_descriptor") (n := "__get__") (by rw [typeLookup_type, builtinLookup_eq_fast]; kernel_rfl) (by decide +kernel) (by decide +kernel) (by decide +kernel)
  (by first | exact .inl (by decide +kernel) | exact .inr (by decide +kernel)) (by rw [isSubtype_type]; kernel_rfl)
theorem sb_entry_mget : entryFor table "method_descriptor.__get__" = some Builtin.«method_descriptor.__get__» := entryFor_of_tree (by kernel_rfl)
theorem sb_args_mget (a b c : Value) : argsOk "method_descriptor.__get__" ⟨[a, b, c], []⟩ := by unfold argsOk; kernel_rfl
theorem sb_owner_len : (kfb_private% "ownerAndName") "list.__len__" = ("list", "__len__") := by first | decide +kernel | kernel_rfl
theorem sb_owner_init : (kfb_private% "ownerAndName") "list.__init__" = ("list", "__init__") := by first | decide +kernel | kernel_rfl
theorem sb_owner_pop : (kfb_private% "ownerAndName") "list.pop" = ("list", "pop") := by first | decide +kernel | kernel_rfl
noncomputable abbrev bmObj (bt : String) (id : String) (x : Addr) : Obj := { cls := .type bt, data := .fields #[.builtin id, .ref x] }
section
variable {w : World} {M : Model} {A : Around} {E : VP} {s : Shared} {x C : Addr} {id n : String}
theorem wget_run {P : Fin → Shared → Prop} (ho : (kfb_private% "ownerAndName") id = ("list", n)) (hi : Looks M s.heap (isInstance (.ref x) (.type "list")) true)
  (h : P (.done (.ret (.ref s.heap.objs.size))) { s with heap := s.heap.push (bmObj "method-wrapper" id x) }) : wpAny M A (Builtin.«wrapper_descriptor.__get__» ⟨[.builtin id, .ref x, .ref C], []⟩) P E s := by
 unfold Builtin.«wrapper_descriptor.__get__»
 refine wpAny_bind (wpAny_of_eq (a := (.builtin id, some (.ref x), some (.ref C))) (by first | rfl | kernel_rfl) ?_)
 show wpAny _ _ ((do
  let nc : Str × Value ← (let p := (kfb_private% "ownerAndName") id; pure ((p.2 : Str), Value.type p.1))
  if !(← isInstance (.ref x) nc.2) then
   rule "descr.get.wrong-instance"
   raiseError "TypeError" s!"descriptor '{nc.1.toString}' for '{← typeName nc.2}' objects doesn't apply to a '{← typeNameOf (.ref x)}' object" : Sem Unit) >>= fun ι => newFields "method-wrapper" [.builtin id, .ref x] >>= fun v => ret v) _ _ _
 rw [ho]
 refine wpAny_bind (wpAny_bind (wpAny_pure (wpAny_bind (hi.here ?_))))
 refine wp_f (by decide) ?_
 exact wpAny_pure (wpAny_bind (wpAny_newObj_type (wpAny_pure h)))
theorem mget_run {P : Fin → Shared → Prop} (ho : (kfb_private% "ownerAndName") id = ("list", n)) (ht : Manifest.toldItsClass.contains id = false) (hi : Looks M s.heap (isInstance (.ref x) (.type "list")) true)
  (h : P (.done (.ret (.ref s.heap.objs.size))) { s with heap := s.heap.push (bmObj "builtin_function_or_method" id x) }) : wpAny M A (Builtin.«method_descriptor.__get__» ⟨[.builtin id, .ref x, .ref C], []⟩) P E s := by
 unfold Builtin.«method_descriptor.__get__»
 refine wpAny_bind (wpAny_of_eq (a := (.builtin id, some (.ref x), some (.ref C))) (by first | rfl | kernel_rfl) ?_)
 dsimp only
 refine wp_f (ne_true_of_eq_false ht) ?_
 show wpAny _ _ ((do
  let nc : Str × Value ← (let p := (kfb_private% "ownerAndName") id; pure ((p.2 : Str), Value.type p.1))
  if !(← isInstance (.ref x) nc.2) then
   rule "descr.get.wrong-instance"
   raiseError "TypeError" s!"descriptor '{nc.1.toString}' for '{← typeName nc.2}' objects doesn't apply to a '{← typeNameOf (.ref x)}' object" : Sem Unit) >>= fun ι => newFields "builtin_function_or_method" [.builtin id, .ref x] >>= fun v => ret v) _ _ _
 rw [ho]
 refine wpAny_bind (wpAny_bind (wpAny_pure (wpAny_bind (hi.here ?_))))
 refine wp_f (by decide) ?_
 exact wpAny_pure (wpAny_bind (wpAny_newObj_type (wpAny_pure h)))
end
section
variable {prog : Program} {w : World} {A : Around} {E : VP} {h : Heap} {g : Array GenState} {d : Drawn} {t : Nat} {os : OsState} {so D x C : Addr} {l₀ l : List Value} {K : Frag} {name : Str} {id getId DT bt : String}
theorem super_ga_bi {tk : Tok} {Q : Fin → Shared → Prop}
  (hso : h.get? so = some { cls := .type "super", dict := none, data := .fields #[.ref D, .ref x, .ref C], slots := #[] }) (hno : Looks (model prog w) h (opaqueClassAbove (.ref C)) none)
  (hC : Looks (model prog w) h (mroOf (.ref C)) l₀) (hl : (l₀.dropWhile (· != .ref D)).drop 1 = l) (X : K.In h)
  (hf : alongIn K name l = some (some (.builtin id))) (ht : typeOf (.builtin id) = pure (.type DT)) (hlk : typeLookup (.type DT) "__get__" = pure (some (.builtin getId))) (hxC : x ≠ C) (hn : (name == ("__class__" : Str)) = false)
  (hget : wpAny (model prog w) A (call (.builtin getId) [.builtin id, .ref x, .ref C]) (fun v s' => v = .ref h.objs.size ∧ s' = ⟨h.push (bmObj bt id x), g, d, t, os⟩) E ⟨h, g, d, t, os⟩)
  (hq : Q (.done (.ret (.ref h.objs.size))) ⟨h.push (bmObj bt id x), g, d, t, os⟩) :
  wpAny (model prog w) A (Builtin.«super.__getattribute__» ⟨[.ref so, .str name tk], []⟩) Q E ⟨h, g, d, t, os⟩ := by
 have hne : (Value.ref x == Value.ref C) = false := by simp [hxC]
 have hdt : ({ cls := .type "super", dict := none, data := .fields #[.ref D, .ref x, .ref C], slots := #[] } : Obj).data = .fields #[.ref D, .ref x, .ref C] := rfl
 have f0 : (#[.ref D, .ref x, .ref C] : Array Value)[0]? = some (.ref D) := rfl
 have f1 : (#[.ref D, .ref x, .ref C] : Array Value)[1]? = some (.ref x) := rfl
 have f2 : (#[.ref D, .ref x, .ref C] : Array Value)[2]? = some (.ref C) := rfl
 unfold Builtin.«super.__getattribute__»
 repeat (first
  | (with_reducible refine wpAny_field hso hdt f0 ?_) | (with_reducible refine wpAny_field hso hdt f1 ?_) | (with_reducible refine wpAny_field hso hdt f2 ?_)
  | (with_reducible refine ks_wpAny_notOpaque hno ?_)
  | (with_reducible refine Looks.at hC ?_; rw [hl])
  | (refine ks_forIn_along X (fun ι ι => rfl) rfl ?_ hf)
  | (with_reducible refine wpAny_of_eq ht ?_)
  | (with_reducible refine wpAny_mono (wp_eq (congrArg (fun z => call (.builtin getId) [.builtin id, z, .ref C]) (if_neg (ne_true_of_eq_false hne))) hget) (fun v s' hv => ?_) (fun ι ι z => z); obtain ⟨rfl, rfl⟩ := hv)
  | (with_reducible refine wp_f (by simp [hn, hne]) ?_)
  | wp_step
  | dsimp only)
 all_goals exact hq
theorem getMethod_super_bi {pl : Sem Bool} {Q : Value × List Value → Shared → Prop}
  (hso : h.get? so = some { cls := .type "super", dict := none, data := .fields #[.ref D, .ref x, .ref C], slots := #[] }) (hno : Looks (model prog w) h (opaqueClassAbove (.ref C)) none)
  (hC : Looks (model prog w) h (mroOf (.ref C)) l₀) (hl : (l₀.dropWhile (· != .ref D)).drop 1 = l) (X : K.In h)
  (hf : alongIn K name l = some (some (.builtin id))) (ht : typeOf (.builtin id) = pure (.type DT)) (hlk : typeLookup (.type DT) "__get__" = pure (some (.builtin getId))) (hxC : x ≠ C) (hn : (name == ("__class__" : Str)) = false)
  (hget : ∀ A' t', wpAny (model prog w) A' (call (.builtin getId) [.builtin id, .ref x, .ref C]) (fun v s' => v = .ref h.objs.size ∧ s' = ⟨h.push (bmObj bt id x), g, d, t', os⟩) (fun ι ι => False) ⟨h, g, d, t', os⟩)
  (hq : Q (.ref h.objs.size, []) ⟨h.push (bmObj bt id x), g, d, t + 1, os⟩) :
  wpAny (model prog w) A (getMethod (.ref so) name pl) Q E ⟨h, g, d, t, os⟩ := by
 have hlk2 := F.ks_slot_super_ga.lookup
 have hcan := F.ks_canon_super_ga
 have hT : ∀ t', (⟨h, g, d, t', os⟩ : Shared).TypeIs (.ref so) "super" := fun ι => ⟨_, hso, rfl⟩
 unfold getMethod
 refine wpAny_bind (wpAny_specialOf (hT _) hlk2 ?_)
 show wpAny _ _ (if (Manifest.canonical "super.__getattribute__" != "object.__getattribute__") = true then _ else _) _ _ _
 refine wp_t hcan ?_
 unfold getAttr getAttrBy
 refine wpAny_bind (wpAny_bind (wpAny_mkText (wpAny_holding (wpAny_bind (wpAny_typeOf (hT _) (wpAny_bind (wpAny_of_eq hlk2 ?_)))))))
 show wpAny _ _ (getAttrByItsOwn (.ref so) (.str name t) (.type "super") (.builtin "super.__getattribute__") true false) _ _ _
 unfold getAttrByItsOwn hookBefore callGetattribute boundAndCalled
 refine wpAny_bind (wpAny_of_eq (show (if onTheHeap (.type "super") then typeLookup (.type "super") "__getattr__" else pure none) = pure none from rfl) ?_)
 refine wpAny_bind (wpAny_attempt (wpAny_holding ?_))
 show wpAny _ _ (bindSpecial (.builtin "super.__getattribute__") (.ref so) >>= _) _ _ _
 refine wpAny_bind (wpAny_of_eq (F.ks_slot_super_ga.bind _) ?_)
 refine wpAny_mono (Q := fun v s' => v = .ref h.objs.size ∧ s' = ⟨h.push (bmObj bt id x), g, d, t + 1, os⟩) (E := fun ι ι => False)
  (wpAny_call_entry F.ks_slot_super_ga (hT _) F.ks_entry_super_ga (super_ga_bi (bt := bt) hso hno hC hl X hf ht hlk hxC hn (hget _ _) ⟨_, rfl, rfl, rfl⟩) (F.ks_gaArgs_super _ _)) (fun v s' hv => ?_) fun ι ι z => z.elim
 obtain ⟨rfl, rfl⟩ := hv
 exact wpAny_pure (wpAny_pure hq)
end
section
variable {w : World} {M : Model} {A : Around} {E : VP} {s : Shared} {h₀ : Heap} {L : Addr} {m : NM} {news : List (Addr × Obj)} {K : Frag} {x C D so q : Addr} {ox : Obj} {odx : Option Obj} {id n owner : String} {name : Str}
theorem super_w {pl : Sem Bool} {Q : Value × List Value → Shared → Prop} (F : Fr h₀ L s.heap m) (X0 : K.In h₀) (N : News h₀ L s.heap news) (hso : (so, ks_superObj D x C) ∈ news) (I : InstAt s.heap x ox C odx) (ho : nsIn K cStatics "thirdparty.any" = some none)
  (hm : ks_superIn K C D name = some (some (.builtin id))) (ht : typeOf (.builtin id) = pure (.type "wrapper_descriptor")) (how : (kfb_private% "ownerAndName") id = ("list", n)) (hml : mroIn K C (.type "list") = some true) (hn : (name == ("__class__" : Str)) = false)
  (h : ∀ q h', Fr h₀ L h' m → News h₀ L h' ((q, bmObj "method-wrapper" id x) :: news) → (∀ p ∈ news, p.1 < q) → Q (.ref q, []) { s with heap := h', toks := s.toks + 1 }) : wpAny (model PW w) A (getMethod (.ref so) name pl) Q E s := by
 have X : K.In s.heap := X0.keeps F.keep
 obtain ⟨hh, g, d, t, os⟩ := s
 cases hc : clsIn K C with
 | none => unfold ks_superIn at hm; rw [hc] at hm; cases hm
 | some cd =>
  unfold ks_superIn at hm
  rw [hc] at hm
  refine getMethod_super_bi (bt := "method-wrapper") (N _ hso).1 (looks_opaque X ho) (l₀ := cd.mro) ?_ rfl X hm ht sb_slot_wget.lookup (ks_ne X I hc) hn (fun A' t' => ?_) ?_
  ·exact fun A Q E s k q => wpAny_bind ((looks_clsIn X hc) A _ E s k (wpAny_pure q))
  ·exact wpAny_call_entry sb_slot_wget ht sb_entry_wget (wget_run how (I.type.andThen (looks_mroIn X hml)) ⟨_, rfl, rfl, rfl⟩) (sb_args_wget _ _ _)
  ·obtain ⟨F', N', l'⟩ := ks_newsPush (s := ⟨hh, g, d, t, os⟩) (o := bmObj "method-wrapper" id x) F N rfl (Heap.get?_push_at rfl rfl) (fun b o e => Heap.get?_push_of_some _ e)
   exact h _ _ F' N' l'
theorem super_m {pl : Sem Bool} {Q : Value × List Value → Shared → Prop} (F : Fr h₀ L s.heap m) (X0 : K.In h₀) (N : News h₀ L s.heap news) (hso : (so, ks_superObj D x C) ∈ news) (I : InstAt s.heap x ox C odx) (ho : nsIn K cStatics "thirdparty.any" = some none)
  (hm : ks_superIn K C D name = some (some (.builtin id))) (ht : typeOf (.builtin id) = pure (.type "method_descriptor")) (htold : Manifest.toldItsClass.contains id = false) (how : (kfb_private% "ownerAndName") id = ("list", n)) (hml : mroIn K C (.type "list") = some true) (hn : (name == ("__class__" : Str)) = false)
  (h : ∀ q h', Fr h₀ L h' m → News h₀ L h' ((q, bmObj "builtin_function_or_method" id x) :: news) → (∀ p ∈ news, p.1 < q) → Q (.ref q, []) { s with heap := h', toks := s.toks + 1 }) : wpAny (model PW w) A (getMethod (.ref so) name pl) Q E s := by
 have X : K.In s.heap := X0.keeps F.keep
 obtain ⟨hh, g, d, t, os⟩ := s
 cases hc : clsIn K C with
 | none => unfold ks_superIn at hm; rw [hc] at hm; cases hm
 | some cd =>
  unfold ks_superIn at hm
  rw [hc] at hm
  refine getMethod_super_bi (bt := "builtin_function_or_method") (N _ hso).1 (looks_opaque X ho) (l₀ := cd.mro) ?_ rfl X hm ht sb_slot_mget.lookup (ks_ne X I hc) hn (fun A' t' => ?_) ?_
  ·exact fun A Q E s k q => wpAny_bind ((looks_clsIn X hc) A _ E s k (wpAny_pure q))
  ·exact wpAny_call_entry sb_slot_mget ht sb_entry_mget (mget_run how htold (I.type.andThen (looks_mroIn X hml)) ⟨_, rfl, rfl, rfl⟩) (sb_args_mget _ _ _)
  ·obtain ⟨F', N', l'⟩ := ks_newsPush (s := ⟨hh, g, d, t, os⟩) (o := bmObj "builtin_function_or_method" id x) F N rfl (Heap.get?_push_at rfl rfl) (fun b o e => Heap.get?_push_of_some _ e)
   exact h _ _ F' N' l'
end
end Mine
namespace Mine
structure Sit (w : World) (mg mb : NM) (b₀ : Heap) (s : Shared) : Prop where
 C : St w mg mb b₀
 k : b₀.StaysIn s.heap
 t1 : ∃ tb, s.heap.get? 147 = some (tblO tb) ∧ Tb posLen tb
 t2 : ∃ tb, s.heap.get? 154 = some (tblO tb) ∧ Tb posStr tb
 n1 : b₀.get? 147 = none
 n2 : b₀.get? 154 = none
 bare : AllBare s.gens
structure Kp (U : List Addr) (s s' : Shared) : Prop where
 heap : ∀ b o, b ∉ U → b ≠ 147 → b ≠ 154 → s.heap.get? b = some o → s'.heap.get? b = some o
 t1 : ∀ tb, s.heap.get? 147 = some (tblO tb) → ∃ more, s'.heap.get? 147 = some (tblO (tb ++ more))
 t2 : ∀ tb, s.heap.get? 154 = some (tblO tb) → ∃ more, s'.heap.get? 154 = some (tblO (tb ++ more))
 os : s'.os = s.os
theorem Kp.refl (U : List Addr) (s : Shared) : Kp U s s := ⟨fun ι ι ι ι ι e => e, fun tb e => ⟨#[], by simpa using e⟩, fun tb e => ⟨#[], by simpa using e⟩, rfl⟩
theorem Kp.trans {U V W : List Addr} {s s' s'' : Shared} (a : Kp U s s') (b : Kp V s' s'') (hu : ∀ x ∈ U, x ∈ W) (hv : ∀ x ∈ V, x ∈ W ∨ s.heap.get? x = none) : Kp W s s'' :=
 ⟨fun y o h n1 n2 e => b.heap y o (fun hy => by rcases hv y hy with q | q; exact h q; rw [q] at e; exact no_some e) n1 n2 (a.heap y o (fun hy => h (hu y hy)) n1 n2 e),
 fun tb e => by obtain ⟨m, e1⟩ := a.t1 tb e; obtain ⟨m2, e2⟩ := b.t1 _ e1; exact ⟨m ++ m2, by rw [e2, Array.append_assoc]⟩,
 fun tb e => by obtain ⟨m, e1⟩ := a.t2 tb e; obtain ⟨m2, e2⟩ := b.t2 _ e1; exact ⟨m ++ m2, by rw [e2, Array.append_assoc]⟩, b.os.trans a.os⟩
theorem Kp.of {U : List Addr} {s s' : Shared} (h1 : 147 ∉ U) (h2 : 154 ∉ U) (k : ∀ b o, b ∉ U → s.heap.get? b = some o → s'.heap.get? b = some o) (ho : s'.os = s.os) : Kp U s s' :=
 ⟨fun b o hb ι ι e => k b o hb e, fun tb e => ⟨#[], by simpa using k _ _ h1 e⟩, fun tb e => ⟨#[], by simpa using k _ _ h2 e⟩, ho⟩
theorem Sit.step {w : World} {mg mb : NM} {b₀ : Heap} {U : List Addr} {s s' : Shared} (S : Sit w mg mb b₀ s) (k : Kp U s s') (hU : ∀ u ∈ U, b₀.get? u = none) (h1 : ∃ tb, s'.heap.get? 147 = some (tblO tb) ∧ Tb posLen tb)
  (h2 : ∃ tb, s'.heap.get? 154 = some (tblO tb) ∧ Tb posStr tb) (hb : AllBare s'.gens) : Sit w mg mb b₀ s' :=
 ⟨S.C, fun b o e => k.heap b o (fun q => by rw [hU b q] at e; exact no_some e) (fun q => by rw [q, S.n1] at e; exact no_some e) (fun q => by rw [q, S.n2] at e; exact no_some e) (S.k b o e), h1, h2, S.n1, S.n2, hb⟩
theorem Sit.by {w : World} {mg mb : NM} {b₀ : Heap} {U : List Addr} {s s' : Shared} (S : Sit w mg mb b₀ s) (hU : ∀ u ∈ U, b₀.get? u = none) (u1 : 147 ∉ U) (u2 : 154 ∉ U) (k : ∀ b o, b ∉ U → s.heap.get? b = some o → s'.heap.get? b = some o)
  (hg : s'.gens = s.gens) (ho : s'.os = s.os) : Sit w mg mb b₀ s' ∧ Kp U s s' := by
 have K : Kp U s s' := .of u1 u2 k ho
 obtain ⟨tb1, e1, h1⟩ := S.t1
 obtain ⟨tb2, e2, h2⟩ := S.t2
 exact ⟨S.step K hU ⟨tb1, k _ _ u1 e1, h1⟩ ⟨tb2, k _ _ u2 e2, h2⟩ (by rw [hg]; exact S.bare), K⟩
structure Rm (A : Around) (n : Nat) : Prop where
 hh : A.handled = none
 dp : A.depth + n < 1000
 un : A.units + 8 * n < 9900
theorem Rm.deep {A : Around} {n : Nat} {e : Env} (R : Rm A (n + 1)) : Rm (A.deeper e) n := ⟨R.hh, by have := R.dp; show A.depth + 1 + n < 1000; lia, by have := R.un; show A.units + 3 + 8 * n < 9900; lia⟩
theorem Rm.in1 {A : Around} {n : Nat} (R : Rm A (n + 1)) : Rm A.in1 n := ⟨R.hh, by have := R.dp; show A.depth + n < 1000; lia, by have := R.un; show A.units + 1 + 8 * n < 9900; lia⟩
theorem Rm.le {A : Around} {n k : Nat} (R : Rm A n) (h : k ≤ n) : Rm A k := ⟨R.hh, by have := R.dp; lia, by have := R.un; lia⟩
theorem Rm.dl {A : Around} {n : Nat} (R : Rm A n) {k : Nat} (h : k ≤ n) : A.depth + k < recursionLimit := by have := R.dp; show A.depth + k < 1000; lia
theorem Rm.ul {A : Around} {n : Nat} (R : Rm A n) {k : Nat} (h : k ≤ 8 * n) : A.units + k < cLine := by have := R.un; rw [cLine_is]; lia
structure AccOn (w : World) (b₀ h : Heap) (x d : Addr) (xs : List (Str × Str)) (z : Int) : Prop where
 bx : b₀.get? x = none
 bd : b₀.get? d = none
 ne : @Ne Nat x d
 lx : @LT.lt Nat _ 154 x
 ld : @LT.lt Nat _ 154 d
 on : ∃ (ts : List Addr) (ps : List (Value × Value)) (k : Nat) (t0 t1 : Tok), h.get? x = some (accObj d (ts.map Value.ref).toArray k) ∧ h.get? d = some (accD w t0 z t1) ∧ ts.length = ps.length ∧ StrPairs ps xs ∧
  (∀ (j : Nat) (T : Addr) (a b : Value), ts[j]? = some T → ps[j]? = some (a, b) → h.IsTuple T #[a, b])
theorem AccOn.kp {w : World} {b₀ : Heap} {x d : Addr} {xs : List (Str × Str)} {z : Int} {U : List Addr} {s s' : Shared} (a : AccOn w b₀ s.heap x d xs z) (k : Kp U s s') (S₁ : ∃ tb, s.heap.get? 147 = some (tblO tb)) (S₂ : ∃ tb, s.heap.get? 154 = some (tblO tb)) (hU : ∀ u ∈ U, u ≠ x ∧ u ≠ d ∧ ∀ o, s.heap.get? u = some o → o.cls ≠ .type "tuple") : AccOn w b₀ s'.heap x d xs z := by
 obtain ⟨bx, bd, ne, lx, ld, ts, ps, kk, t0, t1, hx, hd', hl, hp, ht⟩ := a
 refine ⟨bx, bd, ne, lx, ld, ts, ps, kk, t0, t1, k.heap _ _ (fun q => (hU _ q).1 rfl) (Nat.ne_of_gt (Nat.lt_trans (by decide) lx)) (Nat.ne_of_gt lx) hx, k.heap _ _ (fun q => (hU _ q).2.1 rfl) (Nat.ne_of_gt (Nat.lt_trans (by decide) ld)) (Nat.ne_of_gt ld) hd', hl, hp, fun j T a b e1 e2 => ?_⟩
 obtain ⟨o, ho, hc, r⟩ := ht j T a b e1 e2
 obtain ⟨tb1, e3⟩ := S₁
 obtain ⟨tb2, e4⟩ := S₂
 refine ⟨o, k.heap _ _ (fun q => (hU _ q).2.2 o ho hc) (fun q => ?_) (fun q => ?_) ho, hc, r⟩
 ·subst q; rw [e3] at ho; cases ho; cases hc
 ·subst q; rw [e4] at ho; cases ho; cases hc
theorem AccOn.by {w : World} {mg mb : NM} {b₀ : Heap} {x d : Addr} {xs : List (Str × Str)} {z : Int} {U : List Addr} {s s' : Shared} (a : AccOn w b₀ s.heap x d xs z) (S : Sit w mg mb b₀ s) (k : Kp U s s') (hU : ∀ u ∈ U, u ≠ x ∧ u ≠ d ∧ ∀ o, s.heap.get? u = some o → o.cls ≠ .type "tuple") : AccOn w b₀ s'.heap x d xs z :=
 a.kp k (let ⟨tb, e, _⟩ := S.t1; ⟨tb, e⟩) (let ⟨tb, e, _⟩ := S.t2; ⟨tb, e⟩) hU
theorem AccOn.tup {h : Heap} {ts : List Addr} {ps : List (Value × Value)} (hl : ts.length = ps.length) (ht : ∀ (j : Nat) (T : Addr) (a b : Value), ts[j]? = some T → ps[j]? = some (a, b) → h.IsTuple T #[a, b]) {T : Addr} (hT : T ∈ ts) : ∃ o, h.get? T = some o ∧ o.cls = .type "tuple" := by
 obtain ⟨j, hj, rfl⟩ := List.mem_iff_getElem.mp hT
 obtain ⟨o, ho, hc, _⟩ := ht j _ (ps[j]'(by lia)).1 (ps[j]'(by lia)).2 (List.getElem?_eq_getElem hj) (by rw [List.getElem?_eq_getElem])
 exact ⟨o, ho, hc⟩
section
variable {w : World} {mg mb : NM} {b₀ : Heap} {s : Shared} {A : Around} {Q E : VP} {x d : Addr} {xs : List (Str × Str)} {z : Int}
theorem ne_of_cls {h : Heap} {a b : Addr} {o o' : Obj} (e : h.get? a = some o) (e' : h.get? b = some o') (n : o.cls ≠ o'.cls) : a ≠ b := fun q => by subst q; rw [e] at e'; cases e'; exact n rfl
theorem push_kc {x1 x2 : Str} {u1 u2 : Tok} {K : Result → Shared → Prop} (S : Sit w mg mb b₀ s) (a : AccOn w b₀ s.heap x d xs z) (R : Rm A 4) (hsz : xs.length ≤ 1000)
  (hret : ∀ s', Sit w mg mb b₀ s' → Kp [x] s s' → AccOn w b₀ s'.heap x d (xs ++ [(x1, x2)]) z → K (.ok (.ret .none)) s') : codeAny (model PW w) A (.call (.ref 129) ⟨[.ref x, .str x1 u1, .str x2 u2], []⟩) K s := by
 obtain ⟨bx, bd, ne, lx, ld, ts, ps, kk, t0, t1, hx, hd', hl, hp, ht⟩ := a
 obtain ⟨ha, dp, fr, gd, un⟩ := A
 have hdp := R.dl (k := 3) (by decide)
 have hun := R.ul (k := 16) (by decide)
 have hh := R.hh
 cases hh
 refine push_c S.C S.k (its := (ts.map Value.ref).toArray) (k := kk) (t0 := t0) (t1 := t1) (z := z) ?_ ne hdp hun ?_ fun t h' tk ch => ?_
 ·intro p hp
  rcases List.mem_cons.mp hp with rfl | hp
  ·exact ⟨hx, bx⟩
  ·rw [List.mem_singleton.mp hp]; exact ⟨hd', bd⟩
 ·have := hp.1
  simp only [List.size_toArray, List.length_map]
  lia
 ·have e1 := ch.upd _ (.head _)
  have e2 := ch.upd _ (.tail _ (.head _))
  have e3 := ch.new _ (.head _)
  have kp : ∀ b o, b ∉ [x] → s.heap.get? b = some o → h'.get? b = some o := fun b o hb e => by
   by_cases q : b = d
   ·subst q; rw [hd'] at e; cases e; exact e2
   ·exact ch.keep b o (by simp only [List.map_cons, List.map_nil, List.mem_cons, List.not_mem_nil, or_false, not_or]; exact ⟨fun r => hb (r ▸ .head _), q⟩) e
  have S' := S.by (s' := { s with heap := h', toks := tk }) (U := [x]) (al1 bx) (by simp only [List.mem_singleton]; exact Nat.ne_of_lt (Nat.lt_trans (by decide) lx)) (by simp only [List.mem_singleton]; exact Nat.ne_of_lt lx) kp rfl rfl
  have hlen := hp.1
  refine hret _ S'.1 S'.2 ⟨bx, bd, ne, lx, ld, ts ++ [t], ps ++ [(.str x1 u1, .str x2 u2)], kk + 1, t0, t1, ?_, e2, by simp [hl], ⟨by simp [hlen], fun i a b p e5 e6 => ?_⟩, fun j T a b e5 e6 => ?_⟩
  ·show h'.get? x = _
   rw [e1]; simp
  ·rw [List.getElem?_append] at e5 e6
   split at e5
   ·rw [if_pos (by lia)] at e6
    exact hp.2 i a b p e5 e6
   ·rw [if_neg (by lia)] at e6
    have : i - ps.length = 0 := by
     cases q : i - ps.length with
     | zero => rfl
     | succ n => rw [q] at e5; simp at e5
    rw [this] at e5
    rw [← hlen, this] at e6
    simp at e5 e6
    obtain ⟨rfl, rfl⟩ := e5
    subst e6
    exact ⟨⟨_, rfl⟩, _, rfl⟩
  ·rw [List.getElem?_append] at e5 e6
   split at e5
   ·rw [if_pos (by lia)] at e6
    obtain ⟨o, ho, hc, r⟩ := ht j T a b e5 e6
    exact ⟨o, kp T o (by simp only [List.mem_singleton]; exact ne_of_cls ho hx (by rw [hc]; exact cn)) ho, hc, r⟩
   ·rw [if_neg (by lia)] at e6
    have : j - ts.length = 0 := by
     cases q : j - ts.length with
     | zero => rfl
     | succ n => rw [q] at e5; simp at e5
    rw [this] at e5
    rw [← hl, this] at e6
    simp at e5 e6
    obtain ⟨rfl, rfl⟩ := e6
    subst e5
    exact ⟨_, e3.1, rfl, _, rfl⟩
theorem push_k {x1 x2 : Str} {u1 u2 : Tok} (S : Sit w mg mb b₀ s) (a : AccOn w b₀ s.heap x d xs z) (R : Rm A 4) (hsz : xs.length ≤ 1000)
  (hret : ∀ s', Sit w mg mb b₀ s' → Kp [x] s s' → AccOn w b₀ s'.heap x d (xs ++ [(x1, x2)]) z → Q .none s') : wpAny (model PW w) A (call (.ref 129) [.ref x, .str x1 u1, .str x2 u2]) Q E s :=
 wpAny_call (push_kc S a R hsz fun s' S' k' a' => hret s' S' k' a')
end
end Mine
namespace Mine
section
variable {w : World} {mg mb : NM} {b₀ : Heap} {s : Shared} {A : Around} {Q E : VP} {x d : Addr} {xs : List (Str × Str)}
theorem Sit.ch147 {s' : Shared} {ox od : Obj} {tb tb' : Array Value} (S : Sit w mg mb b₀ s) (hx : s.heap.get? x = some ox) (hd' : s.heap.get? d = some od) (h0 : s.heap.get? 147 = some (tblO tb))
  (ch : Ch s.heap s'.heap [(x, ox), (d, od), (147, tblO tb')] []) (ht : Tb posLen tb') (hm : ∃ more, tb' = tb ++ more) (hb : AllBare s'.gens) (ho : s'.os = s.os) : Sit w mg mb b₀ s' ∧ Kp [] s s' := by
 have kp : ∀ b o, b ≠ 147 → s.heap.get? b = some o → s'.heap.get? b = some o := fun b o hb e => by
  by_cases q : b = x
  ·subst q; rw [hx] at e; cases e; exact ch.upd _ (.head _)
  by_cases q2 : b = d
  ·subst q2; rw [hd'] at e; cases e; exact ch.upd _ (.tail _ (.head _))
  ·exact ch.keep b o (by simp only [List.map_cons, List.map_nil, List.mem_cons, List.not_mem_nil, or_false, not_or]; exact ⟨q, q2, hb⟩) e
 have e3 := ch.upd _ (.tail _ (.tail _ (.head _)))
 obtain ⟨tb2, e2, h2⟩ := S.t2
 have K : Kp [] s s' := ⟨fun b o ι n1 ι e => kp b o n1 e, fun tb₁ e => by rw [h0] at e; cases e; obtain ⟨m, rfl⟩ := hm; exact ⟨m, e3⟩, fun tb₂ e => ⟨#[], by simpa using kp _ _ (by decide) e⟩, ho⟩
 exact ⟨S.step K (List.forall_mem_nil _) ⟨tb', e3, ht⟩ ⟨tb2, kp _ _ (by decide) e2, h2⟩ hb, K⟩
theorem Sit.ch154 {s' : Shared} {ox od : Obj} {tb tb' : Array Value} (S : Sit w mg mb b₀ s) (hx : s.heap.get? x = some ox) (hd' : s.heap.get? d = some od) (h0 : s.heap.get? 154 = some (tblO tb))
  (ch : Ch s.heap s'.heap [(x, ox), (d, od), (154, tblO tb')] []) (ht : Tb posStr tb') (hm : ∃ more, tb' = tb ++ more) (hb : AllBare s'.gens) (ho : s'.os = s.os) : Sit w mg mb b₀ s' ∧ Kp [] s s' := by
 have kp : ∀ b o, b ≠ 154 → s.heap.get? b = some o → s'.heap.get? b = some o := fun b o hb e => by
  by_cases q : b = x
  ·subst q; rw [hx] at e; cases e; exact ch.upd _ (.head _)
  by_cases q2 : b = d
  ·subst q2; rw [hd'] at e; cases e; exact ch.upd _ (.tail _ (.head _))
  ·exact ch.keep b o (by simp only [List.map_cons, List.map_nil, List.mem_cons, List.not_mem_nil, or_false, not_or]; exact ⟨q, q2, hb⟩) e
 have e3 := ch.upd _ (.tail _ (.tail _ (.head _)))
 obtain ⟨tb2, e2, h2⟩ := S.t1
 have K : Kp [] s s' := ⟨fun b o ι ι n1 e => kp b o n1 e, fun tb₂ e => ⟨#[], by simpa using kp _ _ (by decide) e⟩, fun tb₁ e => by rw [h0] at e; cases e; obtain ⟨m, rfl⟩ := hm; exact ⟨m, e3⟩, ho⟩
 exact ⟨S.step K (List.forall_mem_nil _) ⟨tb2, kp _ _ (by decide) e2, h2⟩ ⟨tb', e3, ht⟩ hb, K⟩
noncomputable def Small (xs : List (Str × Str)) : Prop := lenOf xs ≤ 1000000 ∧ xs.length ≤ 1000000
theorem Small.each {xs : List (Str × Str)} (h : Small xs) : ∀ p ∈ xs, p.1.length ≤ 1000000 ∧ p.2.length ≤ 1000000 := fun p hp => by
 have : p.1.length + p.2.length ≤ lenOf xs := by
  unfold lenOf
  obtain ⟨a, b, rfl⟩ := List.append_of_mem hp
  simp only [List.map_append, List.map_cons, List.sum_append, List.sum_cons]
  lia
 have := h.1
 lia
theorem len_k (S : Sit w mg mb b₀ s) (a : AccOn w b₀ s.heap x d xs 0) (R : Rm A 5) (hz : Small xs)
  (hret : ∀ s' t, Sit w mg mb b₀ s' → Kp [] s s' → AccOn w b₀ s'.heap x d xs 0 → Q (.int (lenOf xs) t) s') : wpAny (model PW w) A (call (.ref 152) [.ref x]) Q E s := by
 have a' := a
 obtain ⟨bx, bd, ne, lx, ld, ts, ps, kk, t0, t1, hx, hd', hl, hp, ht⟩ := a
 obtain ⟨tb, e1, h1⟩ := S.t1
 have l1 : @LT.lt Nat _ 147 154 := by decide
 refine len_c (k := kk) (t0 := t0) (t1 := t1) (tb := tb) S.C S.k ?_ h1 ne (Nat.lt_trans l1 lx) (Nat.lt_trans l1 ld) R.hh (R.dl (by decide)) (R.ul (by decide)) hl ht (fun T hT => ?_) hp (fun p hp => ?_) S.bare fun s' t tb' ch hT hm hb ho => ?_
 ·intro p hp
  rcases List.mem_cons.mp hp with rfl | hp
  ·exact ⟨hx, bx⟩
  rcases List.mem_cons.mp hp with rfl | hp
  ·exact ⟨hd', bd⟩
  ·rw [List.mem_singleton.mp hp]; exact ⟨e1, S.n1⟩
 ·obtain ⟨o, ho, hc⟩ := AccOn.tup hl ht hT
  exact ⟨ne_of_cls ho e1 (by rw [hc]; exact cn), ne_of_cls ho hx (by rw [hc]; exact cn), ne_of_cls ho hd' (by rw [hc]; show Value.type "tuple" ≠ Value.type "dict"; decide)⟩
 ·have := hz.each p hp
  have : sizeLine = 16777216 := sizeLine_eq
  lia
 ·obtain ⟨S', K⟩ := S.ch147 hx hd' e1 ch hT hm hb ho
  exact hret s' t S' K (a'.by S K (List.forall_mem_nil _))
theorem str_k (S : Sit w mg mb b₀ s) (a : AccOn w b₀ s.heap x d xs 0) (R : Rm A 5) (hz : Small xs)
  (hret : ∀ s' t, Sit w mg mb b₀ s' → Kp [] s s' → AccOn w b₀ s'.heap x d xs 0 → Q (.str (textOf xs) t) s') : wpAny (model PW w) A (call (.ref 159) [.ref x]) Q E s := by
 have a' := a
 obtain ⟨bx, bd, ne, lx, ld, ts, ps, kk, t0, t1, hx, hd', hl, hp, ht⟩ := a
 obtain ⟨tb, e1, h1⟩ := S.t2
 refine str_c (k := kk) (t0 := t0) (t1 := t1) (tb := tb) S.C S.k ?_ h1 ne lx ld R.hh (R.dl (by decide)) (R.ul (by decide)) hl ht (fun T hT => ?_) hp (fun p hp => hz.each p hp) hz.1 hz.2 S.bare fun s' t tb' ch hT hm hb ho => ?_
 ·intro p hp
  rcases List.mem_cons.mp hp with rfl | hp
  ·exact ⟨hx, bx⟩
  rcases List.mem_cons.mp hp with rfl | hp
  ·exact ⟨hd', bd⟩
  ·rw [List.mem_singleton.mp hp]; exact ⟨e1, S.n2⟩
 ·obtain ⟨o, ho, hc⟩ := AccOn.tup hl ht hT
  exact ⟨ne_of_cls ho e1 (by rw [hc]; exact cn), ne_of_cls ho hx (by rw [hc]; exact cn), ne_of_cls ho hd' (by rw [hc]; show Value.type "tuple" ≠ Value.type "dict"; decide)⟩
 ·obtain ⟨S', K⟩ := S.ch154 hx hd' e1 ch hT hm hb ho
  exact hret s' t S' K (a'.by S K (List.forall_mem_nil _))
end
end Mine
namespace Mine
section
variable {w : World} {mg mb : NM} {b₀ : Heap} {s : Shared} {A : Around} {R : Result → Shared → Prop} {name qual : Str} {params : Arguments} {body : List Stmt} {scope : Scope} {dV kV doc pm cdv ct oc : Value} {an od : Option Addr} {osl : Array (Option Value)} {f cc : Addr} {args : Args} {binds : List (Str × Value)} {mine : List (Addr × Obj)}
theorem enter_s (C : St w mg mb b₀) (k₀ : b₀.StaysIn s.heap) (O : Own b₀ s.heap mine) (hroom : A.depth < recursionLimit)
  (ho : (hd.heap_1 w.params).lookup f = some ⟨oc, od, .func (ksFn name qual params body scope dV kV doc pm an cdv ct cc), osl⟩) (hcd : codeIn (hd.heap_1 w.params) cdv qual = true)
  (hbind : BindsTo s (ksFn name qual params body scope dV kV doc pm an cdv ct cc) args binds) (hloc : ∀ y ∈ binds, scope.names.lookup y.1 = some .local)
  (h : ∀ L h₀ h₁, L = s.heap.objs.size → h₀ = hideAll s.heap (mine.map (·.1)) → Fr h₀ L h₁ (fun y => binds.reverse.lookup y) → News h₀ L h₁ mine → (∀ p ∈ mine, p.1 < L) → b₀.StaysIn h₀ → St w mg mb h₀ →
   _root_.PySem.wpAt (model PW w) (A.deeper (ksEnv qual scope L f cdv cc)) (.func body (ksEnv qual scope L f cdv cc)) (execs body (ksEnv qual scope L f cdv cc))
    (fun fl s' => R (.ok (.ret (match fl with | .ret v => v | _ => .none))) s') (fun ι ι => False) { s with heap := h₁, toks := s.toks + binds.length })
  (hco : scope.isCoroutine = false) (hgen : scope.isGenerator = false) (hk : scope.kind = .function)
  (hcell : ∀ x ∈ scope.names, x.2 ≠ .cell) : codeAny (model PW w) A (.call (.ref f) args) R s := by
 obtain ⟨loose, mean, T⟩ := C.top
 refine ks_codeAny_call_defAt (fd := ksFn name qual params body scope dV kV doc pm an cdv ct cc) (body := body) (binds := binds) hroom ((C.K.keeps k₀) _ _ ho) rfl (T.nolimit.keeps k₀) (codeRec_of (C.K.keeps k₀) hcd) rfl hbind hcell hloc (fun h₁ hns hk₁ => ?_) hco hgen hk
 have st : b₀.StaysIn (hideAll s.heap (mine.map (·.1))) := fun b o e => hideAll_get _ (k₀ b o e) fun q => by
  obtain ⟨p, hp, rfl⟩ := List.mem_map.mp q
  rw [(O p hp).2] at e; cases e
 exact ks_wpAt_mono (h _ _ h₁ rfl rfl ⟨hns, fun b o e => hk₁ b o (of_hideAll _ e), Nat.le_of_eq (hideAll_size _ _)⟩
  (fun p hp => ⟨hk₁ _ _ (O p hp).1, Nat.ne_of_lt (Heap.lt_size (O p hp).1), hideAll_none _ (List.mem_map_of_mem hp)⟩) (fun p hp => Heap.lt_size (O p hp).1) st (C.keeps st)) (fun ι ι x => x) fun ι ι x => x.elim
theorem bm_keeper {q x : Addr} {bt id : String} {M : Model} {h : Heap} (e : h.get? q = some (bmObj bt id x)) (hbt : bt = "builtin_function_or_method" ∨ bt = "method-wrapper") : Looks M h (keeperOf (.ref q)) .machine := by
 refine (Looks.ld (part := none) e).andThen ?_
 rcases hbt with rfl | rfl <;> exact .now
theorem bm_call {q x : Addr} {bt id : String} {b : Builtin} {A : Around} {E Q : VP} {s : Shared} {as : List Value} (ho : s.heap.get? q = some (bmObj bt id x)) (hbt : bt = "builtin_function_or_method" ∨ bt = "method-wrapper")
  (hck : ∀ {Q' : Unit → Shared → Prop}, Q' () s → wpAny (model PW w) A.in1 (checkBoundCall id ⟨.ref x :: as, []⟩) Q' E s) (hq : plainId id = true) (hb : entryFor table id = some b)
  (hc : wpAny (model PW w) A.in1 (b ⟨.ref x :: as, []⟩) (fun fin s' => ∃ v, fin = .done (.ret v) ∧ Q v s') E s) : wpAny (model PW w) A (call (.ref q) as) Q E s := by
 refine wpAny_call (codeAny_of_tree ?_)
 show wpAny _ A.in1 (callAny (.ref q) ⟨as, []⟩) _ _ s
 unfold callAny
 refine wpAny_bind (wpAny_load ho ?_)
 have h1 : (Value.type bt == Value.type "method" || Value.type bt == Value.type "builtin_function_or_method" || Value.type bt == Value.type "method-wrapper") = true := by rcases hbt with rfl | rfl <;> decide
 have h2 : (Value.type bt != Value.type "method") = true := by rcases hbt with rfl | rfl <;> decide
 refine wp_t h1 ?_
 refine KFB.if_so h2 ?_
 refine wpAny_bind (hck ?_)
 refine wpAny_bind (wpAny_pure (wpAny_pure ?_))
 refine ⟨plainId_quiet hq _, codeAny_builtin hb ?_⟩
 rw [Around.under_plainId hq _]
 exact wpAny_mono hc (fun fin s' h' => by obtain ⟨v, rfl, hv⟩ := h'; exact hv) fun ι ι z => z
theorem bm_call0 {q x : Addr} {bt id : String} {b : Builtin} {A : Around} {E Q : VP} {s : Shared} {pos : Pos} (ho : s.heap.get? q = some (bmObj bt id x)) (hbt : bt = "builtin_function_or_method" ∨ bt = "method-wrapper")
  (hck : ∀ {Q' : Unit → Shared → Prop}, Q' () s → wpAny (model PW w) A.in1 (checkBoundCall id ⟨[.ref x], []⟩) Q' E s) (hq : plainId id = true) (hb : entryFor table id = some b)
  (hc : wpAny (model PW w) A.in1 (b ⟨[.ref x], []⟩) (fun fin s' => ∃ v, fin = .done (.ret v) ∧ Q v s') E s) : wpAny (model PW w) A (callWith pos (.ref q) [] [] []) Q E s := by
 unfold callWith
 refine wpAny_bind (wpAny_holding (wpAny_mono (evalArgs_nil3 (Q := fun a s' => a = ⟨[], []⟩ ∧ s' = s) ⟨rfl, rfl⟩) (fun a s' ha => ?_) fun ι ι z => z))
 obtain ⟨rfl, rfl⟩ := ha
 refine wpAny_bind (wpAny_standAt ?_)
 refine wpAny_bind ((bm_keeper ho hbt).here ?_)
 dsimp only
 exact wpAny_bind (wpAny_mono (bm_call ho hbt hck hq hb hc) (fun r s₂ hr => wpAny_bind (wpAny_holding (wpAny_point (wpAny_pure hr)))) fun ι ι z => z)
end
section
variable {w : World} {mg mb : NM} {b₀ : Heap} {s : Shared} {A : Around} {Q E : VP} {x d : Addr} {xs : List (Str × Str)}
theorem len_run {P : Fin → Shared → Prop} {its : Array Value} {k : Nat} (hx : s.heap.get? x = some (accObj d its k)) (h : P (.done (.ret (.int its.size s.toks))) { s with toks := s.toks + 1 }) (hz : its.size ≤ 1000000) :
  wpAny (model PW w) A (Builtin.«list.__len__» ⟨[.ref x], []⟩) P E s := by
 show wpAny _ _ (do retInt (← seqSize x)) _ _ s
 unfold seqSize
 refine wpAny_bind (wpAny_bind (wpAny_load hx ?_))
 refine wpAny_pure (wpAny_bind (wpAny_mkInt (wpAny_pure h)))
theorem part_k (S : Sit w mg mb b₀ s) (a : AccOn w b₀ s.heap x d xs 0) (R : Rm A 5) (hz : xs.length ≤ 1000)
  (hret : ∀ s' t, Sit w mg mb b₀ s' → Kp [] s s' → AccOn w b₀ s'.heap x d xs 0 → Q (.int xs.length t) s') : wpAny (model PW w) A (call (.ref 182) [.ref x]) Q E s := by
 have a' := a
 obtain ⟨bx, bd, ne, lx, ld, ts, ps, kk, t0, t1, hx, hd', hl, hp, ht⟩ := a
 refine wpAny_call ?_
 refine enter_s (mine := [(x, accObj d (ts.map Value.ref).toArray kk), (d, accD w t0 0 t1)]) (cc := 109) (binds := [("self", .ref x)]) S.C S.k ?_ (R.dl (k := 0) (by decide)) (by k_is) (by k_is) ?_ (locs rfl) ?_ rfl rfl rfl (by decide)
 ·intro p hp
  rcases List.mem_cons.mp hp with rfl | hp
  ·exact ⟨hx, bx⟩
  ·rw [List.mem_singleton.mp hp]; exact ⟨hd', bd⟩
 ·exact BindsTo.of_eq rfl
 intro L h₀ h₁ eL eg F N lt st Cg
 obtain ⟨loose, mean, T⟩ := Cg.top
 have I : InstAt h₁ x (accObj d (ts.map Value.ref).toArray kk) 185 (some (accD w t0 0 t1)) := ⟨(N _ (.head _)).1, rfl, rfl, (N _ (.tail _ (.head _))).1⟩
 refine ks_wpAt_execs_cons (ks_wpAt_Return_some (ks_wpAt_MethodCall ?_))
 refine ks_node F Cg.K N T (by k_is) rfl rfl I (by k_is) rfl (by decide +kernel) (by k_is) (by k_is) (by k_is) (by k_is) (by decide) rfl rfl rfl rfl (by decide +kernel) (by kernel_rfl) ?_
 intro so h₂ F2 N2 l2
 have I2 : InstAt h₂ x (accObj d (ts.map Value.ref).toArray kk) 185 (some (accD w t0 0 t1)) := ⟨(N2 _ (.tail _ (.head _))).1, rfl, rfl, (N2 _ (.tail _ (.tail _ (.head _)))).1⟩
 refine super_w (id := "list.__len__") (n := "__len__") F2 Cg.K N2 (.head _) I2 (by k_is) (by kernel_rfl) (by show builtinType _ = _; rw [builtinType_eq_fast]; kernel_rfl) sb_owner_len (by k_is) (by decide) ?_
 intro q h₃ F3 N3 l3
 refine bm_call0 (id := "list.__len__") (N3 _ (.head _)).1 (.inr rfl) (fun h => wpAny_of_eq (a := ()) (by kernel_rfl) h) (by decide +kernel) PySem.F.entry_list_len ?_
 have hsz : ((ts.map Value.ref).toArray).size = xs.length := by have := hp.1; simp; lia
 refine len_run (N3 _ (.tail _ (.tail _ (.head _)))).1 ⟨_, rfl, ?_⟩ (by lia)
 rw [hsz]
 have kp : ∀ b o, b ∉ [] → s.heap.get? b = some o → h₃.get? b = some o := fun b o ι e => by
  by_cases q1 : b = x
  ·rw [q1, hx] at e; cases e; rw [q1]; exact (N3 _ (.tail _ (.tail _ (.head _)))).1
  by_cases q2 : b = d
  ·rw [q2, hd'] at e; cases e; rw [q2]; exact (N3 _ (.tail _ (.tail _ (.tail _ (.head _))))).1
  ·exact F3.keep b o (by rw [eg]; exact hideAll_get _ e (by simp only [List.map_cons, List.map_nil, List.mem_cons, List.not_mem_nil, or_false, not_or]; exact ⟨q1, q2⟩))
 have S' := fun tk => S.by (s' := { s with heap := h₃, toks := tk }) (U := []) (List.forall_mem_nil _) List.not_mem_nil List.not_mem_nil kp rfl rfl
 exact hret _ _ (S' _).1 (S' _).2 (a'.by (U := []) (s' := { s with heap := h₃, toks := 0 }) S (S' 0).2 (List.forall_mem_nil _))
end
end Mine
namespace Mine
structure Body (w : World) (mg mb : NM) (b₀ : Heap) (s₀ : Shared) (U : List Addr) (L : Addr) (m : NM) (s : Shared) : Prop where
 S : Sit w mg mb b₀ s
 K : Kp U s₀ s
 ns : s.heap.Ns L m
 fresh : s₀.heap.get? L = none
 b : b₀.get? L = none
 lt : @LT.lt Nat _ 154 L
theorem Kp.get {w : World} {mg mb : NM} {b₀ : Heap} {U : List Addr} {s s' : Shared} (k : Kp U s s') (S : Sit w mg mb b₀ s) {b : Addr} {o : Obj} (e : s.heap.get? b = some o) (hb : b ∉ U) (hc : o.cls ≠ .none) : s'.heap.get? b = some o := by
 refine k.heap b o hb (fun q => ?_) (fun q => ?_) e
 ·obtain ⟨tb, e1, _⟩ := S.t1
  subst q; rw [e1] at e; cases e; exact hc rfl
 ·obtain ⟨tb, e1, _⟩ := S.t2
  subst q; rw [e1] at e; cases e; exact hc rfl
section
variable {w : World} {mg mb : NM} {b₀ : Heap} {s₀ s s' : Shared} {U V : List Addr} {L : Addr} {m : NM} {M : Model} {A : Around} {E : VP} {env : Env}
theorem Kp.ns (k : Kp V s s') (n : s.heap.Ns L m) (hL : L ∉ V) (lt : @LT.lt Nat _ 154 L) : s'.heap.Ns L m := by
 obtain ⟨o, es, ep, e, r⟩ := n
 exact ⟨o, es, ep, k.heap _ _ hL (Nat.ne_of_gt (Nat.lt_trans (by decide) lt)) (Nat.ne_of_gt lt) e, r⟩
theorem Body.ck (B : Body w mg mb b₀ s₀ U L m s) : (hd.heap_1 w.params).In s.heap := B.S.C.K.keeps B.S.k
theorem Body.step (B : Body w mg mb b₀ s₀ U L m s) (S' : Sit w mg mb b₀ s') (k : Kp V s s') (hV : ∀ v ∈ V, v ∈ U ∨ s₀.heap.get? v = none) (hL : L ∉ V) : Body w mg mb b₀ s₀ U L m s' :=
 ⟨S', B.K.trans k (fun x h => h) hV, k.ns B.ns hL B.lt, B.fresh, B.b, B.lt⟩
theorem Body.wide (B : Body w mg mb b₀ s₀ U L m s) (W : List Addr) (h : ∀ u ∈ U, u ∈ W) : Body w mg mb b₀ s₀ W L m s :=
 ⟨B.S, B.K.trans (Kp.refl [] s) h (List.forall_mem_nil _), B.ns, B.fresh, B.b, B.lt⟩
theorem Body.ne_new {l : Addr} (B : Body w mg mb b₀ s₀ U L m s) (h : s.heap.get? l = none) : l ≠ L := fun q => by
 obtain ⟨o, es, ep, e, _⟩ := B.ns
 rw [← q, h] at e; cases e
theorem Body.ne_old {x : Addr} {o : Obj} (B : Body w mg mb b₀ s₀ U L m s) (h : s₀.heap.get? x = some o) : x ≠ L := fun q => by
 rw [q, B.fresh] at h; cases h
theorem Kp.lst {l : Addr} {its : Array Value} (k : Kp V s s') (S : Sit w mg mb b₀ s) (h : s.heap.IsList l its) (hl : l ∉ V) : s'.heap.IsList l its := by
 obtain ⟨o, ho, hc, r⟩ := h
 exact ⟨o, k.get S ho hl (by rw [hc]; exact cn), hc, r⟩
theorem Kp.wide (k : Kp V s s') {W : List Addr} (h : ∀ v ∈ V, v ∈ W) : Kp W s s' := ⟨fun b o hb n1 n2 e => k.heap b o (fun q => hb (h _ q)) n1 n2 e, k.t1, k.t2, k.os⟩
theorem Sit.of (S : Sit w mg mb b₀ s) (e1 : s'.heap = s.heap) (e2 : s'.gens = s.gens) : Sit w mg mb b₀ s' :=
 ⟨S.C, by rw [e1]; exact S.k, by rw [e1]; exact S.t1, by rw [e1]; exact S.t2, S.n1, S.n2, by rw [e2]; exact S.bare⟩
theorem Kp.of_eq (e1 : s'.heap = s.heap) (e3 : s'.os = s.os) : Kp V s s' :=
 ⟨fun b o ι ι ι e => by rw [e1]; exact e, fun tb e => ⟨#[], by rw [e1]; simpa using e⟩, fun tb e => ⟨#[], by rw [e1]; simpa using e⟩, e3⟩
theorem Body.of (B : Body w mg mb b₀ s₀ U L m s) (e1 : s'.heap = s.heap) (e2 : s'.gens = s.gens) (e3 : s'.os = s.os) : Body w mg mb b₀ s₀ U L m s' :=
 ⟨B.S.of e1 e2, B.K.trans (Kp.of_eq (V := []) e1 e3) (fun ι h => h) (List.forall_mem_nil _), by rw [e1]; exact B.ns, B.fresh, B.b, B.lt⟩
theorem Body.tok (B : Body w mg mb b₀ s₀ U L m s) (t : Nat) : Body w mg mb b₀ s₀ U L m { s with toks := t } := B.of rfl rfl rfl
theorem Sit.tok (S : Sit w mg mb b₀ s) (t : Nat) : Sit w mg mb b₀ { s with toks := t } := S.of rfl rfl
theorem Sit.grow {h' : Heap} {t : Nat} (S : Sit w mg mb b₀ s) (k : ∀ b o, s.heap.get? b = some o → h'.get? b = some o) : Sit w mg mb b₀ { s with heap := h', toks := t } ∧ Kp [] s { s with heap := h', toks := t } :=
 S.by (List.forall_mem_nil _) List.not_mem_nil List.not_mem_nil (fun b o ι e => k b o e) rfl rfl
theorem Sit.lt (S : Sit w mg mb b₀ s) : @LT.lt Nat _ 154 s.heap.objs.size := let ⟨_, e, _⟩ := S.t2; Heap.lt_size e
theorem Sit.fresh (S : Sit w mg mb b₀ s) : b₀.get? s.heap.objs.size = none := by
 cases q : b₀.get? s.heap.objs.size with
 | none => rfl
 | some o => exact absurd (Heap.lt_size (S.k _ _ q)) (Nat.lt_irrefl _)
theorem get_size (h : Heap) : h.get? h.objs.size = none := by
 cases q : h.get? h.objs.size with
 | none => rfl
 | some o => exact absurd (Heap.lt_size q) (Nat.lt_irrefl _)
theorem Kp.none_of {x : Addr} (k : Kp [] s s') (e : s'.heap.get? x = none) (h1 : @LT.lt Nat _ 154 x) : s.heap.get? x = none := by
 cases q : s.heap.get? x with
 | none => rfl
 | some o => rw [k.heap x o List.not_mem_nil (Nat.ne_of_gt (Nat.lt_trans (by decide) h1)) (Nat.ne_of_gt h1) q] at e; cases e
theorem Sit.push {o : Obj} {t : Nat} (S : Sit w mg mb b₀ s) : Sit w mg mb b₀ { s with heap := s.heap.push o, toks := t } ∧ Kp [] s { s with heap := s.heap.push o, toks := t } := S.grow fun ι ι e => Heap.get?_push_of_some _ e
theorem Sit.upd {x : Addr} {f : Obj → Obj} (t : Nat) (S : Sit w mg mb b₀ s) (bx : b₀.get? x = none) (lx : @LT.lt Nat _ 154 x) : Sit w mg mb b₀ { s with heap := s.heap.update x f, toks := t } ∧ Kp [x] s { s with heap := s.heap.update x f, toks := t } :=
 S.by (al1 bx) (by simp only [List.mem_singleton]; exact Nat.ne_of_lt (Nat.lt_trans (by decide) lx)) (by simp only [List.mem_singleton]; exact Nat.ne_of_lt lx) (fun b o hb e => ((Heap.SameBut.update ..).2 b (by simpa using hb)).trans e) rfl rfl
theorem Kp.tup {x T : Addr} {ox : Obj} {its : Array Value} (k : Kp [x] s s') (S : Sit w mg mb b₀ s) (hx : s.heap.get? x = some ox) (hc : ox.cls ≠ .type "tuple") (h : s.heap.IsTuple T its) : s'.heap.IsTuple T its := by
 obtain ⟨o, ho, hcl, r⟩ := h
 exact ⟨o, k.get S ho (by simp only [List.mem_singleton]; exact ne_of_cls ho hx (by rw [hcl]; exact Ne.symm hc)) (by rw [hcl]; exact cn), hcl, r⟩
theorem Kp.tup0 {T : Addr} {its : Array Value} (k : Kp [] s s') (S : Sit w mg mb b₀ s) (h : s.heap.IsTuple T its) : s'.heap.IsTuple T its := by
 obtain ⟨o, ho, hcl, r⟩ := h
 exact ⟨o, k.get S ho List.not_mem_nil (by rw [hcl]; exact cn), hcl, r⟩
theorem AccOn.on0 {x d : Addr} {xs : List (Str × Str)} {z : Int} {h h' : Heap} (a : AccOn w b₀ h x d xs z) (S : Sit w mg mb b₀ s) (k : Kp [] s s') (e : autoParam (h = s.heap) tR) (e' : autoParam (h' = s'.heap) tR) : AccOn w b₀ h' x d xs z := by
 subst e e'
 exact a.by S k (List.forall_mem_nil _)
theorem Body.step0 (B : Body w mg mb b₀ s₀ U L m s) (z : Sit w mg mb b₀ s' ∧ Kp [] s s') : Body w mg mb b₀ s₀ U L m s' := B.step z.1 z.2 (List.forall_mem_nil _) List.not_mem_nil
theorem Body.loc {x : Str} {v : Value} {p : Pos} {Q : VP} (B : Body w mg mb b₀ s₀ U L m s) (hm : m x = some v) (hQ : Q v s) (hl : autoParam (env.locals = L) tR) (hk : autoParam (env.scope.kind = .function) tR) (hx : autoParam (env.kindOf x = some .local) tR)
  (hd : autoParam ((x == ("__debug__" : Str)) = false) tD) : wpAny M A (eval (.Name x p) env) Q E s := wpAny_Name (wpAny_loadName_local hk hx (hl ▸ B.ns) hm hQ) hd
theorem Body.st {x : Str} {v : Value} {Q : Unit → Shared → Prop} (B : Body w mg mb b₀ s₀ U L m s)
  (hQ : ∀ s', Body w mg mb b₀ s₀ U L (fun y => if y = x then some v else m y) s' → Kp [L] s s' → Q () s') (hl : autoParam (env.locals = L) tR) (hx : autoParam (env.kindOf x = some .local) tR) (hp : autoParam ((env.scope.kind == .class || (env.scope.kind == .module && env.locals != env.globals)) = false) tR) : wpAny M A (storeName env x v) Q E s := by
 subst hl
 refine wpAny_storeName_local hx B.ns (fun h' hn hs => ?_) hp
 have k := B.S.by (s' := { s with heap := h', toks := s.toks + 1 }) (U := [env.locals]) (al1 B.b) (by simp only [List.mem_singleton]; exact Nat.ne_of_lt (Nat.lt_trans (by decide) B.lt)) (by simp only [List.mem_singleton]; exact Nat.ne_of_lt B.lt)
  (fun b o hb e => (hs.2 b (by simpa using hb)).trans e) rfl rfl
 exact hQ _ ⟨k.1, B.K.trans k.2 (fun ι h => h) (al1 (.inr B.fresh)), hn, B.fresh, B.b, B.lt⟩ k.2
theorem Body.top {x : Str} {v : Value} {p : Pos} {Q : VP} (B : Body w mg mb b₀ s₀ U L m s) (hn : nsIn (hd.heap_1 w.params) mainGlobals x = some (some v)) (hQ : Q v s) (hg : autoParam (env.globals = mainGlobals) tR) (hk : autoParam (env.scope.kind = .function) tR) (hx : autoParam (env.kindOf x = some .globalImplicit) tR)
  (hdb : autoParam ((x == ("__debug__" : Str)) = false) tD) : wpAny (model PW w) A (eval (.Name x p) env) Q E s := name_top B.S.C B.S.k hg hk hx hn hdb hQ
theorem Body.bi {x : Str} {v : Value} {p : Pos} {Q : VP} (B : Body w mg mb b₀ s₀ U L m s) (hn : nsIn (hd.heap_1 w.params) mainGlobals x = some none) (hv : bootBuiltins x = some v) (hQ : Q v s) (hg : autoParam (env.globals = mainGlobals) tR) (hb : autoParam (env.builtins = builtinsNs) tR) (hk : autoParam (env.scope.kind = .function) tR)
  (hx : autoParam (env.kindOf x = some .globalImplicit) tR) (hx2 : autoParam (x ≠ "__name__") tD) (hdb : autoParam ((x == ("__debug__" : Str)) = false) tD) : wpAny (model PW w) A (eval (.Name x p) env) Q E s := name_bi B.S.C B.S.k hg hb hk hx hn hv hx2 hdb hQ
theorem enter_b {R : Result → Shared → Prop} {name qual : Str} {params : Arguments} {body : List Stmt} {scope : Scope} {dV kV doc pm cdv ct oc : Value} {an od : Option Addr} {osl : Array (Option Value)} {f : Addr} {args : Args} {binds : List (Str × Value)} (U : List Addr)
  (S : Sit w mg mb b₀ s) (hroom : A.depth < recursionLimit)
  (ho : (hd.heap_1 w.params).lookup f = some ⟨oc, od, .func (fnOf name qual params body scope dV kV doc pm an cdv ct), osl⟩) (hcd : codeIn (hd.heap_1 w.params) cdv qual = true)
  (hbind : BindsTo s (fnOf name qual params body scope dV kV doc pm an cdv ct) args binds) (hloc : ∀ y ∈ binds, scope.names.lookup y.1 = some .local)
  (h : ∀ L s₁, Body w mg mb b₀ s U L (fun y => binds.reverse.lookup y) s₁ → Kp [] s s₁ → 
   wpAny (model PW w) (A.deeper (envOf qual scope L f cdv)) (execs body (envOf qual scope L f cdv))
    (fun fl s' => R (.ok (.ret (match fl with | .ret v => v | _ => .none))) s') (fun ι ι => False) s₁)
  (hco : autoParam (scope.isCoroutine = false) tR) (hgen : autoParam (scope.isGenerator = false) tR) (hk : autoParam (scope.kind = .function) tR)
  (hcell : autoParam (∀ x ∈ scope.names, x.2 ≠ .cell) tD) : codeAny (model PW w) A (.call (.ref f) args) R s := by
 obtain ⟨loose, mean, T⟩ := S.C.top
 refine codeAny_call_def (fd := fnOf name qual params body scope dV kV doc pm an cdv ct) (body := body) (binds := binds) hroom ((S.C.K.keeps S.k) _ _ ho) rfl (T.nolimit.keeps S.k) (codeRec_of (S.C.K.keeps S.k) hcd) rfl hbind hcell hloc (fun h₁ hns hk₁ => ?_) hco hgen hk
 have k := S.grow (t := s.toks + binds.length) hk₁
 exact wpAny_mono (h _ { s with heap := h₁, toks := s.toks + binds.length } ⟨k.1, (Kp.refl [] s).trans k.2 (List.forall_mem_nil _) (List.forall_mem_nil _), hns, get_size _, S.fresh, S.lt⟩ k.2) (fun ι ι x => x) fun ι ι x => x.elim
theorem enter_bs {R : Result → Shared → Prop} {name qual : Str} {params : Arguments} {body : List Stmt} {scope : Scope} {dV kV doc pm cdv ct oc : Value} {an od : Option Addr} {osl : Array (Option Value)} {f cc : Addr} {args : Args} {binds : List (Str × Value)} (U : List Addr)
  (S : Sit w mg mb b₀ s) (hroom : A.depth < recursionLimit)
  (ho : (hd.heap_1 w.params).lookup f = some ⟨oc, od, .func (ksFn name qual params body scope dV kV doc pm an cdv ct cc), osl⟩) (hcd : codeIn (hd.heap_1 w.params) cdv qual = true)
  (hbind : BindsTo s (ksFn name qual params body scope dV kV doc pm an cdv ct cc) args binds) (hloc : ∀ y ∈ binds, scope.names.lookup y.1 = some .local)
  (h : ∀ L s₁, Body w mg mb b₀ s U L (fun y => binds.reverse.lookup y) s₁ → Kp [] s s₁ → 
   _root_.PySem.wpAt (model PW w) (A.deeper (ksEnv qual scope L f cdv cc)) (.func body (ksEnv qual scope L f cdv cc)) (execs body (ksEnv qual scope L f cdv cc))
    (fun fl s' => R (.ok (.ret (match fl with | .ret v => v | _ => .none))) s') (fun ι ι => False) s₁)
  (hco : autoParam (scope.isCoroutine = false) tR) (hgen : autoParam (scope.isGenerator = false) tR) (hk : autoParam (scope.kind = .function) tR)
  (hcell : autoParam (∀ x ∈ scope.names, x.2 ≠ .cell) tD) : codeAny (model PW w) A (.call (.ref f) args) R s := by
 obtain ⟨loose, mean, T⟩ := S.C.top
 refine ks_codeAny_call_defAt (fd := ksFn name qual params body scope dV kV doc pm an cdv ct cc) (body := body) (binds := binds) hroom ((S.C.K.keeps S.k) _ _ ho) rfl (T.nolimit.keeps S.k) (codeRec_of (S.C.K.keeps S.k) hcd) rfl hbind hcell hloc (fun h₁ hns hk₁ => ?_) hco hgen hk
 have k := S.grow (t := s.toks + binds.length) hk₁
 exact ks_wpAt_mono (h _ { s with heap := h₁, toks := s.toks + binds.length } ⟨k.1, (Kp.refl [] s).trans k.2 (List.forall_mem_nil _) (List.forall_mem_nil _), hns, get_size _, S.fresh, S.lt⟩ k.2) (fun ι ι x => x) fun ι ι x => x.elim
end
section
variable {w : World} {mg mb : NM} {b₀ : Heap} {s : Shared} {A : Around} {E : VP} {x d f : Addr} {xs : List (Str × Str)} {z : Int} {name : Str} {M : Model}
theorem AccOn.inst (a : AccOn w b₀ s.heap x d xs z) : ∃ its k t0 t1, InstAt s.heap x (accObj d its k) 185 (some (accD w t0 z t1)) := by
 obtain ⟨bx, bd, ne, lx, ld, ts, ps, kk, t0, t1, hx, hd', hl, hp, ht⟩ := a
 exact ⟨_, kk, t0, t1, hx, rfl, rfl, hd'⟩
theorem method_own {K : Frag} {C : Addr} {ox : Obj} {od : Option Obj} {ga : String} {pl : Sem Bool} {Q : Value × List Value → Shared → Prop} (X : K.In s.heap) (I : InstAt s.heap x ox C od) (hga : findIn K (.ref C) "__getattribute__" = some (some (.builtin ga))) (hcan : Manifest.canonical ga = "object.__getattribute__") (hk : findIn K (.ref C) "__getattr__" = some none)
  (hf : findIn K (.ref C) name = some (some (.ref f))) (ht : typeIn K (.ref f) = some (.type "function")) (hs : shadowIn od name = some false) (h : Q (.ref f, [.ref x]) s) : wpAny M A (getMethod (.ref x) name pl) Q E s := by
 unfold getMethod specialOf
 refine wpAny_bind (wpAny_bind (I.type.here ((looks_findIn X hga).here ?_)))
 dsimp only
 rw [hcan, if_neg (by decide)]
 refine wpAny_bind (wpAny_bind (I.type.here ((looks_findIn X hk).here ?_)))
 refine wpAny_bind (wpAny_bind (I.type.here ((looks_findIn X hf).here (wpAny_bind ((looks_typeIn X ht).here ?_)))))
 refine wp_f (by decide +kernel) ?_
 refine wpAny_bind (wpAny_loadPart I.at_ ?_)
 have hd := I.dict
 cases e : ox.dict with
 | none => exact wpAny_bind (wpAny_rule (wpAny_pure h))
 | some dx =>
  cases od with
  | none => rw [e] at hd; exact hd.elim
  | some o =>
   rw [e] at hd
   obtain ⟨r, a, b⟩ := Option.map_eq_some_iff.mp hs
   refine wpAny_bind (wpAny_bind (wpAny_loadPart hd ?_))
   rw [nsLook_of a]
   refine wpAny_pure ?_
   rw [b]
   exact wpAny_bind (wpAny_rule (wpAny_pure h))
theorem acc_m {pl : Sem Bool} {Q : Value × List Value → Shared → Prop} (S : Sit w mg mb b₀ s) (a : AccOn w b₀ s.heap x d xs z) (hf : findIn (hd.heap_1 w.params) (.ref 185) name = some (some (.ref f))) (ht : typeIn (hd.heap_1 w.params) (.ref f) = some (.type "function"))
  (hs : ∀ t0 t1, shadowIn (some (accD w t0 z t1)) name = some false) (h : Q (.ref f, [.ref x]) s) : wpAny M A (getMethod (.ref x) name pl) Q E s := by
 obtain ⟨its, k, t0, t1, I⟩ := a.inst
 exact method_own (ga := "list.__getattribute__") (S.C.K.keeps S.k) I (by k_is) (by decide +kernel) (by k_is) hf ht (hs _ _) h
end
end Mine
namespace Mine
section
variable {w : World} {mg mb : NM} {b₀ : Heap} {s : Shared} {A : Around} {E : VP} {L x C D f cc cda so : Addr} {m : NM} {ox : Obj} {odx : Option Obj}
set_option tactic.hygienic true in
theorem sup_node {body : List Stmt} {q : Str} {scope : Scope} {p0 p1 : Pos} {attr : Str} {whole : Sem Value} {fd : FuncData} {ar : Arg} {vs : Array Value} {file : Str} {tf : Tok} {oc ccl cl : Value} {od cdd cld : Option Addr} {osl ccs csl : Array (Option Value)} {cdD : ClassData} {Q : VP}
  (S : Sit w mg mb b₀ s) (ns : s.heap.Ns L m)
  (hf : (hd.heap_1 w.params).lookup f = some ⟨oc, od, .func fd, osl⟩) (hp : (fd.params.posonlyargs ++ fd.params.args).head? = some ar) (hv : m ar.arg = some (.ref x)) (I : InstAt s.heap x ox C odx)
  (hcode : (hd.heap_1 w.params).lookup cda = some ⟨ccl, cdd, .fields vs, ccs⟩) (hvs : vs[2]? = some (.str file tf)) (hfile : ((PW.main.file : Str) == file) = true)
  (hcell : (hd.heap_1 w.params).lookup cc = some ⟨cl, cld, .cell (some (.ref D)), csl⟩) (hD : clsIn (hd.heap_1 w.params) D = some cdD) (hsub : mroIn (hd.heap_1 w.params) C (.ref D) = some true) (hsuper : nsIn (hd.heap_1 w.params) mainGlobals "super" = some none)
  (hat : (attr == ("__class__" : Str)) = false) (hks : scope.names.lookup ("super" : Str) = some .globalImplicit) (hkc : scope.names.lookup ("__class__" : Str) = some .free) (hka : scope.names.lookup ar.arg = some .local) (hk : scope.kind = .function)
  (htop : (PW.main.scope.names.lookup ("super" : Str)).isSome = false) (hboot : bootBuiltins "super" = some (.type "super"))
  (h : ∀ so h', (∀ b o, s.heap.get? b = some o → h'.get? b = some o) → h'.get? so = some (ks_superObj D x C) → Q (.ref so) { s with heap := h' }) :
  _root_.PySem.wpAt (model PW w) A (.func body (ksEnv q scope L f (.ref cda) cc)) (attributeBase (.Call (.Name "super" p0) [] [] p1) attr (ksEnv q scope L f (.ref cda) cc) whole) Q E s := by
 have X0 := S.C.K
 have X : (hd.heap_1 w.params).In s.heap := X0.keeps S.k
 obtain ⟨loose, mean, T⟩ := S.C.top
 have Sk := S.k
 obtain ⟨hh, g, d, t, os⟩ := s
 obtain ⟨oD, hD1, hD2⟩ : ∃ oD, hh.get? D = some oD ∧ oD.data = .cls cdD := by
  unfold clsIn at hD
  split at hD
  ·rename_i c d cd' sl ho
   cases hD
   exact ⟨_, X _ _ ho, rfl⟩
  ·cases hD
 refine ks_wpAt_super_base (env := ksEnv q scope L f (.ref cda) cc) hks hkc hat rfl (X _ _ hf) rfl hp rfl (X _ _ hcode) rfl hvs hfile htop ?_
 refine ks_loadName_global hk hks (loadGlobal_builtin (env := ksEnv q scope L f (.ref cda) cc) (T.g.keeps Sk) (mg_none_of X0 T.g hsuper) (T.b.keeps Sk) ((T.builtins _ (by decide +kernel)).trans hboot) ⟨rfl, ?_⟩)
 refine wpAny_loadName_free hk hkc rfl ⟨_, X _ _ hcell, rfl⟩ ?_
 refine wpAny_loadName_local hk hka ns hv ?_
 refine ks_wpAny_isType_cls hD1 hD2 ⟨rfl, ?_⟩
 refine ks_wpAny_call_super hD1 hD2 I.at_ I.cls (fun c e => ?_) (looks_mroIn X hsub) (fun h' e k => h _ _ k e)
 have := I.no
 unfold notCls at this
 rw [e] at this
 exact Bool.noConfusion this
theorem sup_w {id n : String} {name : Str} {pl : Sem Bool} {Q : Value × List Value → Shared → Prop} (S : Sit w mg mb b₀ s) (hso : s.heap.get? so = some (ks_superObj D x C)) (I : InstAt s.heap x ox C odx) (ho : nsIn (hd.heap_1 w.params) cStatics "thirdparty.any" = some none)
  (hm : ks_superIn (hd.heap_1 w.params) C D name = some (some (.builtin id))) (ht : typeOf (.builtin id) = pure (.type "wrapper_descriptor")) (how : (kfb_private% "ownerAndName") id = ("list", n)) (hml : mroIn (hd.heap_1 w.params) C (.type "list") = some true) (hn : (name == ("__class__" : Str)) = false)
  (h : ∀ q h', (∀ b o, s.heap.get? b = some o → h'.get? b = some o) → h'.get? q = some (bmObj "method-wrapper" id x) → Q (.ref q, []) { s with heap := h', toks := s.toks + 1 }) : wpAny (model PW w) A (getMethod (.ref so) name pl) Q E s := by
 have X : (hd.heap_1 w.params).In s.heap := S.C.K.keeps S.k
 obtain ⟨hh, g, d, t, os⟩ := s
 cases hc : clsIn (hd.heap_1 w.params) C with
 | none => unfold ks_superIn at hm; rw [hc] at hm; cases hm
 | some cd =>
  unfold ks_superIn at hm
  rw [hc] at hm
  refine getMethod_super_bi (bt := "method-wrapper") hso (looks_opaque X ho) (l₀ := cd.mro) ?_ rfl X hm ht sb_slot_wget.lookup (ks_ne X I hc) hn (fun A' t' => ?_) ?_
  ·exact fun A Q E s k q => wpAny_bind ((looks_clsIn X hc) A _ E s k (wpAny_pure q))
  ·exact wpAny_call_entry sb_slot_wget ht sb_entry_wget (wget_run how (I.type.andThen (looks_mroIn X hml)) ⟨_, rfl, rfl, rfl⟩) (sb_args_wget _ _ _)
  ·exact h _ _ (fun b o e => Heap.get?_push_of_some _ e) (Heap.get?_push_at rfl rfl)
theorem sup_m {id n : String} {name : Str} {pl : Sem Bool} {Q : Value × List Value → Shared → Prop} (S : Sit w mg mb b₀ s) (hso : s.heap.get? so = some (ks_superObj D x C)) (I : InstAt s.heap x ox C odx) (ho : nsIn (hd.heap_1 w.params) cStatics "thirdparty.any" = some none)
  (hm : ks_superIn (hd.heap_1 w.params) C D name = some (some (.builtin id))) (ht : typeOf (.builtin id) = pure (.type "method_descriptor")) (htold : Manifest.toldItsClass.contains id = false) (how : (kfb_private% "ownerAndName") id = ("list", n)) (hml : mroIn (hd.heap_1 w.params) C (.type "list") = some true) (hn : (name == ("__class__" : Str)) = false)
  (h : ∀ q h', (∀ b o, s.heap.get? b = some o → h'.get? b = some o) → h'.get? q = some (bmObj "builtin_function_or_method" id x) → Q (.ref q, []) { s with heap := h', toks := s.toks + 1 }) : wpAny (model PW w) A (getMethod (.ref so) name pl) Q E s := by
 have X : (hd.heap_1 w.params).In s.heap := S.C.K.keeps S.k
 obtain ⟨hh, g, d, t, os⟩ := s
 cases hc : clsIn (hd.heap_1 w.params) C with
 | none => unfold ks_superIn at hm; rw [hc] at hm; cases hm
 | some cd =>
  unfold ks_superIn at hm
  rw [hc] at hm
  refine getMethod_super_bi (bt := "builtin_function_or_method") hso (looks_opaque X ho) (l₀ := cd.mro) ?_ rfl X hm ht sb_slot_mget.lookup (ks_ne X I hc) hn (fun A' t' => ?_) ?_
  ·exact fun A Q E s k q => wpAny_bind ((looks_clsIn X hc) A _ E s k (wpAny_pure q))
  ·exact wpAny_call_entry sb_slot_mget ht sb_entry_mget (mget_run how htold (I.type.andThen (looks_mroIn X hml)) ⟨_, rfl, rfl, rfl⟩) (sb_args_mget _ _ _)
  ·exact h _ _ (fun b o e => Heap.get?_push_of_some _ e) (Heap.get?_push_at rfl rfl)
end
end Mine
namespace Mine
section
variable {w : World} {mg mb : NM} {b₀ : Heap} {s : Shared} {A : Around} {Q E : VP} {x d : Addr} {xs : List (Str × Str)}
theorem upd_dropLast {c : Value} {d : Option Addr} {l : List Value} {y : Value} {k : Nat} {sl : Array (Option Value)} : ∃ k', Obj.mapSeq (fun xs => xs.eraseIdxIfInBounds ((l ++ [y]).toArray.size - 1)) ⟨c, d, .seq (l ++ [y]).toArray k, sl⟩ = some (⟨c, d, .seq l.toArray k', sl⟩ : Obj) := by
 have e : (l ++ [y]).eraseIdx l.length = l := by
  rw [List.eraseIdx_append_of_length_le (Nat.le_refl _)]
  simp
 refine ⟨k + 1, ?_⟩
 simp [Obj.mapSeq, Array.eraseIdxIfInBounds, e]
theorem pop_run {P : Fin → Shared → Prop} {its : Array Value} {k : Nat} {y : Value} (hx : s.heap.get? x = some (accObj d its k)) (hy : its[its.size - 1]? = some y) (hs1 : its.size ≤ sizeLine)
  (h : P (.done (.ret y)) { s with heap := s.heap.update x (Obj.mapSeq fun xs => xs.eraseIdxIfInBounds (its.size - 1)) }) : wpAny (model PW w) A (Builtin.«list.pop» ⟨[.ref x], []⟩) P E s := by
 have hpos : 0 < its.size := by
  rcases Nat.eq_zero_or_pos its.size with h0 | h0
  ·simp [h0] at hy
  ·exact h0
 have hne : ¬ its.isEmpty = true := by
  intro he; have : its.size = 0 := by simpa using he
  lia
 have hk : seqIndex? (-1) its.size = some (its.size - 1) := by
  rw [seqIndex_neg ((by decide)) (by lia)]; congr 1; lia
 have hz' : (its.eraseIdxIfInBounds (its.size - 1)).size ≤ sizeLine + 1 := Nat.le_trans (MeetsSeq.size_erased its _) (Nat.le_succ_of_le hs1)
 obtain ⟨hp, g, dd, tk, os⟩ := s
 wp_walk using AutoSeq1.wpAny_loadPart' hx
 simp only [hk, hy, Option.bind_some, Option.map_some]
 wp_walk using (wpAny_updateSeq hx rfl (hz := hs1) (_hz' := hz')), AutoSeq1.wpAny_loadPart' hx
 exact h
theorem bound_pop {Q' : Unit → Shared → Prop} {ox : Obj} {od : Option Obj} (S : Sit w mg mb b₀ s) (I : InstAt s.heap x ox 185 od) (h : Q' () s) : wpAny (model PW w) A (checkBoundCall "list.pop" ⟨[.ref x], []⟩) Q' E s := by
 have X := S.C.K.keeps S.k
 have hk : builtinKind "list.pop" = some .method := by decide +kernel
 have hm : mroIn (hd.heap_1 w.params) 185 (.type "module") = some false := by k_is
 have hc : ∃ cd, clsIn (hd.heap_1 w.params) 185 = some cd ∧ cd.qualname = Str.ofString "_Accumulator" := ⟨_, by k_is, by kernel_rfl⟩
 have ht : typeIn (hd.heap_1 w.params) (.ref 185) = some (.type "type") := by k_is
 obtain ⟨cd, hc1, hc2⟩ := hc
 obtain ⟨hh, g, d, t, os⟩ := s
 have hno : ∀ c, ox.data ≠ .cls c := fun c e => by
  have := I.no
  unfold notCls at this
  rw [e] at this
  exact Bool.noConfusion this
 unfold checkBoundCall
 have hs : (match Manifest.signature? "list.pop" with | some sig => Bind.checkArgs "list.pop" { sig with full := s!"{(Str.ofString "_Accumulator").toString}.{Bind.lastOf "list.pop"}" } ⟨[.ref x], []⟩ | none => pure ()) = pure () := by kernel_rfl
 have Lm : Looks (model PW w) hh (isInstance (.ref x) (.type "module")) false := I.type.andThen (looks_mroIn X hm)
 cases hsig : Manifest.signature? "list.pop" with
 | none => exact wpAny_pure h
 | some sig =>
  rw [hsig] at hs
  dsimp only at hs ⊢
  rw [hk]
  dsimp only
  refine wp_f (by decide) ?_
  refine wpAny_bind (Lm.here ?_)
  refine wp_f (by decide +kernel) ?_
  refine wpAny_bind (ks_wpAny_isType_inst I.at_ hno ?_)
  refine wp_f (by decide) ?_
  refine wpAny_bind (I.type.here ?_)
  dsimp only
  refine wpAny_bind ((looks_clsIn X hc1).here ?_)
  refine wpAny_bind ((looks_typeIn X ht).here ?_)
  refine wp_t (by decide) ?_
  rw [hc2]
  exact wpAny_of_eq hs h
theorem pop_k {p q : Str} (S : Sit w mg mb b₀ s) (a : AccOn w b₀ s.heap x d (xs ++ [(p, q)]) 0) (R : Rm A 8) (hz : xs.length + 1 ≤ 1000)
  (hret : ∀ s' T t t', Sit w mg mb b₀ s' → Kp [x] s s' → AccOn w b₀ s'.heap x d xs 0 → s'.heap.IsTuple T #[.str p t, .str q t'] → Q (.ref T) s') : wpAny (model PW w) A (call (.ref 145) [.ref x]) Q E s := by
 refine wpAny_call ?_
 refine enter_bs [x] (cc := 109) (binds := [("self", .ref x)]) S (R.dl (k := 0) (by decide)) (by k_is) (by k_is) (BindsTo.of_eq rfl) (locs rfl) ?_
 intro L s₁ B k₁
 have a₁ := a.by S k₁ (List.forall_mem_nil _)
 refine ks_wpAt_execs_cons (wpAt_of_wpAny (wpAny_If ?_))
 refine wpAny_isTrue_Compare1 (MethodCall_ (B.loc rfl (acc_m B.S a₁ (f := 182) (by k_is) (by k_is) (fun ι ι => rfl) ?_)))
 refine callWith_K0 B.ck (by k_is) ?_
 refine part_k B.S a₁ (R.deep.le (by decide)) (by simpa using hz) fun s₂ t S₂ k₂ a₂ => ?_
 have B2 := B.step S₂ k₂ (List.forall_mem_nil _) List.not_mem_nil
 iterate 3 walk1
 refine ite_f (by simp; lia) ?_
 refine wpAny_execs_nil ?_
 refine ks_wpAt_execs_cons (ks_wpAt_Return_some (ks_wpAt_MethodCall ?_))
 have B2 := B2.tok (s₂.toks + 1)
 obtain ⟨its, kk, t0, t1, I₂⟩ := a₂.inst
 refine sup_node B2.S B2.ns (by k_is) rfl rfl I₂ (by k_is) rfl (by decide +kernel) (by k_is) (by k_is) (by k_is) (by k_is) (by decide) rfl rfl rfl rfl (by decide +kernel) (by kernel_rfl) ?_
 intro so h₃ k₃ hso
 have z₃ := B2.S.grow (t := s₂.toks + 1) k₃
 have B3 := B2.step0 z₃
 have a₃ := a₂.on0 B2.S z₃.2
 obtain ⟨its, kk, t0, t1, I3⟩ := a₃.inst
 refine sup_m (s := { s₂ with heap := h₃, toks := s₂.toks + 1 }) (id := "list.pop") (n := "pop") B3.S hso I3 (by k_is) (by kernel_rfl) (by show builtinType _ = _; rw [builtinType_eq_fast]; kernel_rfl) (by decide +kernel) sb_owner_pop (by k_is) (by decide) ?_
 intro q' h₄ k₄ hq
 have z₄ := B3.S.grow (t := s₂.toks + 1 + 1) k₄
 have B4 := B3.step0 z₄
 have a₄ := a₃.on0 B3.S z₄.2
 obtain ⟨bx, bd, ne, lx, ld, ts, ps, kk, t0, t1, hx, hd', hl, hp, ht⟩ := a₄
 have hpl : ps.length = xs.length + 1 := by have := hp.1; simpa using this
 obtain ⟨ts', T, rfl⟩ : ∃ ts' T, ts = ts' ++ [T] := ⟨ts.dropLast, ts.getLast (by intro e; rw [e] at hl; simp at hl; lia), (List.dropLast_concat_getLast _).symm⟩
 obtain ⟨ps', P, rfl⟩ : ∃ ps' P, ps = ps' ++ [P] := ⟨ps.dropLast, ps.getLast (by intro e; rw [e] at hpl; simp at hpl), (List.dropLast_concat_getLast _).symm⟩
 obtain ⟨va, vb⟩ := P
 have hl' : ts'.length = ps'.length := by simpa using hl
 have hpl' : ps'.length = xs.length := by simpa using hpl
 have hT : h₄.IsTuple T #[va, vb] := ht ts'.length T va vb (by simp) (by rw [hl']; simp)
 obtain ⟨⟨ta, rfl⟩, tb, rfl⟩ := hp.2 ps'.length va vb (p, q) (by simp) (by rw [hpl']; simp)
 have e0 : ((ts' ++ [T]).map Value.ref).toArray = ((ts'.map Value.ref) ++ [Value.ref T]).toArray := by simp
 rw [e0] at hx
 obtain ⟨k', ek⟩ := upd_dropLast (c := .ref 185) (d := some d) (l := ts'.map Value.ref) (y := .ref T) (k := kk) (sl := #[])
 refine bm_call0 (id := "list.pop") hq (.inl rfl) (fun h => bound_pop (od := some (accD w t0 0 t1)) B4.S ⟨hx, rfl, rfl, hd'⟩ h) (by decide +kernel) PySem.F.entry_list_pop ?_
 refine pop_run (y := .ref T) hx (by simp) (by simp; rw [sizeLine_eq]; lia) ⟨_, rfl, ?_⟩
 have hm := Heap.get?_update_self (Obj.mapSeq fun xs => xs.eraseIdxIfInBounds ((ts'.map Value.ref ++ [Value.ref T]).toArray.size - 1)) hx (by rfl)
 rw [ek] at hm
 have z₅ := B4.S.upd (x := x) (f := Obj.mapSeq fun xs => xs.eraseIdxIfInBounds ((ts'.map Value.ref ++ [Value.ref T]).toArray.size - 1)) (s₂.toks + 1 + 1) bx lx
 have tp : ∀ {T' : Addr} {a b : Value}, h₄.IsTuple T' #[a, b] → _ := fun {T' a b} h => z₅.2.tup B4.S hx (by exact cn) h
 refine hret _ T ta tb z₅.1 (B4.K.trans z₅.2 (fun ι h => h) (fun ι h => .inl h)) ⟨bx, bd, ne, lx, ld, ts', ps', k', t0, t1, hm, z₅.2.get B4.S hd' (not_in (Ne.symm ne)) (by exact cn), hl', ⟨hpl', fun i a b r e1 e2 => ?_⟩, fun j T' a b e1 e2 => tp (ht j T' a b ?_ ?_)⟩ (tp hT)
 ·exact hp.2 i a b r (by rw [List.getElem?_append_left (List.getElem?_eq_some_iff.mp e1).1]; exact e1) (by rw [List.getElem?_append_left (List.getElem?_eq_some_iff.mp e2).1]; exact e2)
 ·rw [List.getElem?_append_left (List.getElem?_eq_some_iff.mp e1).1]; exact e1
 ·rw [List.getElem?_append_left (List.getElem?_eq_some_iff.mp e2).1]; exact e2
end
end Mine
namespace Mine
section
variable {w : World} {M : Model} {A : Around} {E : VP} {s : Shared} {K : Frag} {x C d : Addr} {ox : Obj} {od : Option Obj} {id : String} {name : Str} {args : List Value}
theorem special_bi {Q : Option Value → Shared → Prop} (X : K.In s.heap) (I : InstAt s.heap x ox C od) (hf : findIn K (.ref C) name = some (some (.builtin id))) (hb : ∀ v, bindSpecial (.builtin id) v = pure (.builtin id, [v]))
  (h : wpAny M A (call (.builtin id) (.ref x :: args)) (fun v s' => Q (some v) s') E s) : wpAny M A (callSpecial? (.ref x) name args) Q E s := by
 unfold callSpecial?
 refine wpAny_bind ((spec_bi X I hf).here ?_)
 dsimp only
 refine wpAny_holding (wpAny_bind (wpAny_of_eq (hb _) ?_))
 exact wpAny_bind (wpAny_mono h (fun v s' hv => wpAny_pure hv) fun ι ι z => z)
theorem acc_getItem {its : Array Value} {k : Nat} {v : Value} {Q : VP} (X : K.In s.heap) (I : InstAt s.heap x (accObj d its k) 185 od) (hq : noSeq K 185 = true) (hf : findIn K (.ref 185) "__getitem__" = some (some (.builtin "list.__getitem__"))) (hml : mroIn K 185 (.type "list") = some true)
  (h : wpAny (model PW w) A.in1 (Builtin.«list.__getitem__» ⟨[.ref x, v], []⟩) (fun fin s' => ∃ v, fin = .done (.ret v) ∧ Q v s') E s) : wpAny (model PW w) A (getItem (.ref x) v) Q E s := by
 unfold getItem sequenceKey
 refine wpAny_holding (wpAny_bind (wpAny_bind (I.type.here ?_)))
 refine wpAny_bind ((anyM_none X hq).here ?_)
 refine wp_t (show (!false) = true from rfl) ?_
 refine wpAny_pure (wpAny_bind (special_bi X I hf slot_list_getitem.bind ?_))
 exact wpAny_mono (bi_call X I hml (owner := "list") (n := "__getitem__") (by decide +kernel) (by first | exact .inl (by decide +kernel) | exact .inr (by decide +kernel)) (by decide +kernel) entry_list_getitem (args_list_getitem _ _) h) (fun v s' hv => wpAny_pure hv) fun ι ι z => z
theorem item_int {its : Array Value} {k : Nat} {i : Int} {t : Tok} {y : Value} {P : Fin → Shared → Prop} (hx : s.heap.get? x = some (accObj d its k)) (h0 : 0 ≤ i) (hfit : i < 2 ^ 63) (hy : its[i.toNat]? = some y) (h : P (.done (.ret y)) s) :
  wpAny (model PW w) A (Builtin.«list.__getitem__» ⟨[.ref x, .int i t], []⟩) P E s := by
 show wpAny _ _ (Builtin.List.listSubscript? (.int i t) >>= _) _ _ s
 refine wpAny_bind (wpAny_listSubscript_int (fitsIndex_of h0 hfit) ?_)
 clear hfit
 obtain ⟨j, rfl⟩ := Int.eq_ofNat_of_zero_le h0
 have hx' : its[j]? = some y := hy
 show wpAny _ _ ((seqItemAt x j >>= fun r => pure (r.map (j, ·))) >>= _) _ _ s
 refine wpAny_bind (wpAny_bind (wpAny_seqItemAt hx rfl (wpAny_pure ?_)))
 rw [hx']
 first
  | exact wpAny_bind (wpAny_pure (wpAny_pure h))
  | exact wpAny_pure h
theorem list_parts {sl : Addr} {vl vu vs : Value} {lo hi st : Option Int} {Q : Value × Value × Value → Shared → Prop} (hs : s.heap.IsSliceOf sl vl vu vs) (pl : IsPart vl lo) (pu : IsPart vu hi) (ps : IsPart vs st) (h0 : st ≠ some 0)
  (h : Q (rawPart lo, rawPart hi, rawPart st) s) : wpAny M A (Builtin.List.listSliceParts (.ref sl)) Q E s := by
 obtain ⟨os, hos, hcs, hds⟩ := hs
 rw [listSliceParts_eq]
 have hstep : ¬ ((rawPart st == rawInt 0) = true) := by
  cases st with
  | none => exact Bool.false_ne_true
  | some c =>
   intro hh
   have : c = 0 := by simpa [rawPart, rawInt] using hh
   exact h0 (by rw [this])
 refine wpAny_bind (wpAny_field hos hds (x := vs) rfl (wpAny_bind (wpAny_listPart ps ?_)))
 refine wp_f hstep ?_
 refine wpAny_bind (wpAny_field hos hds (x := vl) rfl (wpAny_bind (wpAny_listPart pl ?_)))
 exact wpAny_bind (wpAny_field hos hds (x := vu) rfl (wpAny_bind (wpAny_listPart pu (wpAny_pure h))))
theorem item_slice {its : Array Value} {k : Nat} {sl : Addr} {vl vu vs : Value} {lo hi st : Option Int} {P : Fin → Shared → Prop} (hx : s.heap.get? x = some (accObj d its k)) (hs : s.heap.IsSliceOf sl vl vu vs) (pl : IsPart vl lo) (pu : IsPart vu hi) (ps : IsPart vs st) (h0 : st ≠ some 0) (hsz : its.size ≤ sizeLine)
  (h : P (.done (.ret (.ref s.heap.objs.size))) { s with heap := s.heap.push { cls := .type "list", data := .seq (slicePick its lo hi st) } }) : wpAny (model PW w) A (Builtin.«list.__getitem__» ⟨[.ref x, .ref sl], []⟩) P E s := by
 have hTs : s.TypeIs (.ref sl) "slice" := by obtain ⟨os, hos, hcs, hds⟩ := hs; exact ⟨os, hos, hcs⟩
 show wpAny _ _ (Builtin.List.listSubscript? (.ref sl) >>= _) _ _ s
 refine wpAny_bind ?_
 unfold Builtin.List.listSubscript?
 refine wpAny_bind (wpAny_specialOf hTs slice_no_index ?_)
 refine wp_t rfl ?_
 refine wpAny_pure ?_
 show wpAny _ _ (typeOf (.ref sl) >>= _) _ _ s
 refine wpAny_bind (wpAny_typeOf hTs ?_)
 refine wp_f (by decide) ?_
 refine wpAny_bind (list_parts hs pl pu ps h0 ?_)
 refine wpAny_bind (m := Builtin.List.listItems (.ref x)) ?_
 unfold Builtin.List.listItems
 refine wpAny_bind (wpAny_seqItems hx rfl (wpAny_pure ?_))
 refine wpAny_bind (wpAny_of_eq (sliceIndices_raw lo hi st its.size h0) ?_)
 exact wpAny_bind (wpAny_newObj_type (wpAny_pure h) (Nat.le_trans (slicePick_size_le its lo hi st) hsz))
theorem acc_setItem {its : Array Value} {k : Nat} {i v : Value} {Q : Unit → Shared → Prop} (X : K.In s.heap) (I : InstAt s.heap x (accObj d its k) 185 od) (hq : noSeq K 185 = true) (hf : findIn K (.ref 185) "__setitem__" = some (some (.builtin "list.__setitem__"))) (hml : mroIn K 185 (.type "list") = some true)
  (h : wpAny (model PW w) A.in1 (Builtin.«list.__setitem__» ⟨[.ref x, i, v], []⟩) (fun fin s' => ∃ v, fin = .done (.ret v) ∧ Q () s') E s) : wpAny (model PW w) A (setItem (.ref x) i v) Q E s := by
 unfold setItem sequenceKey
 refine wpAny_holding (wpAny_bind (wpAny_bind (I.type.here ?_)))
 refine wpAny_bind ((anyM_none X hq).here ?_)
 refine wp_t (show (!false) = true from rfl) ?_
 refine wpAny_pure (wpAny_bind (special_bi (args := [i, v]) X I hf slot_list_setitem.bind ?_))
 exact wpAny_mono (bi_call X I hml (owner := "list") (n := "__setitem__") (by decide +kernel) (by first | exact .inl (by decide +kernel) | exact .inr (by decide +kernel)) (by decide +kernel) entry_list_setitem (args_list_setitem _ _ _) h) (fun v s' hv => wpAny_pure hv) fun ι ι z => z
theorem letGo_ {l keep : List Value} {Q : Unit → Shared → Prop} (h : Q () s) : wpAny M A (letGo l keep) Q E s := wpAny_letGo h
theorem set_slice {its new : Array Value} {k : Nat} {sl l : Addr} {vl vu : Value} {lo : Option Int} {i : Nat} {P : Fin → Shared → Prop} (hx : s.heap.get? x = some (accObj d its k)) (hs : s.heap.IsSliceOf sl vl vu .none) (pl : IsPart vl lo) (pu : IsPart vu none) (hlo : sliceBounds lo none none its.size = ((i : Int), (its.size : Int), 1)) (hi : i ≤ its.size)
  (hl : s.heap.IsList l new) (hlx : l ≠ x) (hsz : its.size + new.size ≤ 1000)
  (h : ∀ f k', Obj.mapSeq f (accObj d its k) = accObj d (its.extract 0 i ++ new) k' → P (.done (.ret .none)) { s with heap := s.heap.update x (Obj.mapSeq f) }) : wpAny (model PW w) A (Builtin.«list.__setitem__» ⟨[.ref x, .ref sl, .ref l], []⟩) P E s := by
 have hTs : s.TypeIs (.ref sl) "slice" := by obtain ⟨os, hos, hcs, hds⟩ := hs; exact ⟨os, hos, hcs⟩
 have hz := sizeLine_eq
 show wpAny _ _ (Builtin.List.listSubscript? (.ref sl) >>= _) _ _ s
 refine wpAny_bind ?_
 unfold Builtin.List.listSubscript?
 refine wpAny_bind (wpAny_specialOf hTs slice_no_index ?_)
 refine wp_t rfl ?_
 refine wpAny_pure ?_
 show wpAny _ _ (typeOf (.ref sl) >>= _) _ _ s
 refine wpAny_bind (wpAny_typeOf hTs ?_)
 refine wp_f (by decide) ?_
 refine wpAny_bind (list_parts hs pl pu .none (by simp) ?_)
 have hne : Builtin.List.listSameRef (.ref x) (.ref l) = false := by
  show (x == l) = false
  simpa using Ne.symm hlx
 refine wp_f (ne_true_of_eq_false hne) ?_
 refine wpAny_bind (m := Builtin.List.listAllItems (.ref l) _) ?_
 unfold Builtin.List.listAllItems
 refine wpAny_bind (wpAny_typeOf hl.typeIs ?_)
 refine wp_t (by decide) ?_
 obtain ⟨ol, hol, hcl, nl, hdl⟩ := id hl
 unfold Builtin.List.listItems
 refine wpAny_bind (wpAny_seqItems hol hdl (wpAny_pure ?_))
 refine wpAny_bind (wpAny_bind (wpAny_seqItems hx rfl (wpAny_pure ?_)))
 refine wpAny_bind (wpAny_of_eq (sliceIndices_raw lo none none its.size (by simp)) ?_)
 rw [hlo]
 dsimp only
 refine wp_t (by decide) ?_
 refine wpAny_bind (wpAny_rule ?_)
 refine wp_f (by simp only [Builtin.List.listTooLong, decide_eq_true_eq]; lia) ?_
 have e1 : ((max (i : Int) (its.size : Int))).toNat = its.size := by lia
 refine wpAny_bind (wpAny_updateSeq (hz := by lia) (_hz' := ?_) hx rfl ?_)
 ·refine wpAny_bind (letGo_ (wpAny_pure (h _ (if (its.extract 0 i ++ new).size == its.size then k else k + 1) ?_)))
  have e2 : its.extract 0 (i : Int).toNat ++ new ++ its.extract (max (i : Int) (its.size : Int)).toNat = its.extract 0 i ++ new := by
   rw [e1]
   simp
  show (⟨.ref 185, some d, .seq (its.extract 0 (i : Int).toNat ++ new ++ its.extract (max (i : Int) (its.size : Int)).toNat) (if (its.extract 0 (i : Int).toNat ++ new ++ its.extract (max (i : Int) (its.size : Int)).toNat).size == its.size then k else k + 1), #[]⟩ : Obj) = _
  rw [e2]
 ·simp
  lia
end
end Mine
namespace Mine
open Builtin Builtin.ObjectAttr
theorem refuse_list (self : Value) : refuseLoop self "__setattr__" [.type "list", .type "object"] = pure () := by kernel_rfl
section
variable {w : World} {A : Around} {E : VP} {s : Shared} {K : Frag} {x dx : Addr} {es : List DictEntry} {n k : Nat} {its : Array Value} {name : Str} {v : Value}
set_option tactic.hygienic true in
theorem acc_osa {tk : Tok} {R : Result → Shared → Prop} (X : K.In s.heap) (I : InstAt s.heap x (accObj dx its k) 185 (some (dictOf es n))) (hc : ∃ cd, clsIn K 185 = some cd ∧ cd.mro = [.ref 185, .type "list", .type "object"] ∧ cd.hasDict = true) (hmo : mroIn K 185 (.type "object") = some true)
  (ht : takerIn K 185 name = some none) (hl : (lookIn name (dictOf es n)).isSome = true) (hz : (putL name (PyData.keyHash w.params name) (.str name s.toks) v es).length ≤ 1000)
  (h : R (.ok (.ret .none)) { s with heap := s.heap.update dx (Obj.putName name (PyData.keyHash w.params name) (.str name s.toks) v), toks := s.toks + 1 }) :
  codeAny (model PW w) A (.call (.builtin "object.__setattr__") ⟨[.ref x, .str name tk, v], []⟩) R s := by
 have SF := PySem.F.store_object
 obtain ⟨cd, hc, hm0, hd0⟩ := hc
 have sub : Looks (model PW w) s.heap (isInstance (.ref x) (.type "object")) true := I.type.andThen (looks_mroIn X hmo)
 refine codeAny_call_builtin SF.slot.plain SF.entry (@check_slot (model PW w) _ _ s "object.__setattr__" "object" "__setattr__" (.ref x) [.str name tk, v] [] _ SF.kind SF.split sub (SF.args (.ref x) (.str name tk) v) ?_)
 obtain ⟨attr, ha, hr⟩ := Option.bind_eq_some_iff.mp ht
 have hm : Looks (model PW w) s.heap (mroOf (.ref 185)) cd.mro := (looks_clsIn X hc).andThen .now
 have L3 : Looks (model PW w) s.heap (storeTaker? attr) none := by
  cases attr with
  | none => cases hr; exact .now
  | some a =>
   obtain ⟨b, hb, hb2⟩ := Option.map_eq_some_iff.mp hr
   refine (looks_takesIn X hb).andThen ?_
   cases b with
   | false => exact .now
   | true => cases hb2
 rw [osa_eq, refuse_eq]
 refine wpAny_bind (wpAny_bind (I.type.here (wpAny_bind (hm.here ?_))))
 rw [hm0, refuseLoop_ref, refuse_list]
 refine wpAny_pure (wpAny_bind (I.type.here (wpAny_bind ((looks_findIn X ha).here (wpAny_bind (L3.here ?_))))))
 have D := I.dict
 have hx := I.at_
 show wpAny _ _ (storeInOwnDict (.ref x) (.ref 185) (.str name tk) name v attr.isSome) _ _ _
 refine wpAny_bind (wpAny_pure (wpAny_bind (wpAny_bind (wpAny_loadPart hx (wpAny_bind ((looks_clsIn X hc).here ?_))))))
 rw [hd0]
 refine wpAny_pure (a := some dx) (wpAny_bind (wpAny_pure (wpAny_bind ?_)))
 unfold nsSet
 refine wpAny_bind (wpAny_bind (wpAny_askSetting (wpAny_pure (wpAny_bind (wpAny_mkText (wpAny_bind (wpAny_loadPart D ?_)))))))
 unfold lookIn at hl
 dsimp only [dictOf] at hl ⊢
 have c : (!es.toArray.any (·.key.isStr name) && es.toArray.any (·.refKey)) = false := by
  rw [← Array.any_toList, ← Array.any_toList]
  split at hl
  ·rename_i en he
   rw [List.any_eq_true.mpr ⟨en, List.mem_of_find?_eq_some he, List.find?_some (p := fun e : DictEntry => e.key.isStr name) he⟩]; rfl
  ·split at hl
   ·cases hl
   ·rename_i z; rw [Bool.not_eq_true] at z; rw [z, Bool.and_false]
 rw [aRefKeyMayBeTheName_at, c]
 refine wpAny_updatePart D ?_
 have D' := Heap.get?_update_self (Obj.putName name (PyData.keyHash w.params name) (.str name s.toks) v) D (by rw [putName_dict]; rfl)
 rw [putName_dict] at D'
 refine wpAny_bind (wpAny_lookBehind D' (pastItsLine_dict (by rw [List.size_toArray, sizeLine_eq]; lia)) ?_)
 exact wpAny_pure h
theorem acc_set {Q : Unit → Shared → Prop} (X : K.In s.heap) (I : InstAt s.heap x (accObj dx its k) 185 (some (dictOf es n))) (hs : findIn K (.ref 185) "__setattr__" = some (some (.builtin "object.__setattr__"))) (hc : ∃ cd, clsIn K 185 = some cd ∧ cd.mro = [.ref 185, .type "list", .type "object"] ∧ cd.hasDict = true) (hmo : mroIn K 185 (.type "object") = some true)
  (ht : takerIn K 185 name = some none) (hl : (lookIn name (dictOf es n)).isSome = true) (hz : (putL name (PyData.keyHash w.params name) (.str name (s.toks + 1)) v es).length ≤ 1000)
  (h : (s.heap.update dx (Obj.putName name (PyData.keyHash w.params name) (.str name (s.toks + 1)) v)).get? dx = some (dictOf (putL name (PyData.keyHash w.params name) (.str name (s.toks + 1)) v es) (putN name es n)) → Q () { s with heap := s.heap.update dx (Obj.putName name (PyData.keyHash w.params name) (.str name (s.toks + 1)) v), toks := s.toks + 2 }) :
  wpAny (model PW w) A (setAttr (.ref x) name v) Q E s := by
 refine set_plain X I hs (acc_osa (s := { s with toks := s.toks + 1 }) X I hc hmo ht hl hz (h ?_))
 have D' := Heap.get?_update_self (Obj.putName name (PyData.keyHash w.params name) (.str name (s.toks + 1)) v) I.dict (by rw [putName_dict]; rfl)
 rwa [putName_dict] at D'
end
end Mine
namespace Mine
noncomputable def PairsOn (h : Heap) (l : Addr) (xs : List (Str × Str)) : Prop := ∃ (ts : List Addr) (ps : List (Value × Value)), h.IsList l (ts.map Value.ref).toArray ∧ ts.length = ps.length ∧ StrPairs ps xs ∧ ∀ (j : Nat) (T : Addr) (a b : Value), ts[j]? = some T → ps[j]? = some (a, b) → h.IsTuple T #[a, b]
section
variable {w : World} {mg mb : NM} {b₀ : Heap} {s₀ s s' : Shared} {A : Around} {E : VP} {x d : Addr} {xs : List (Str × Str)} {env : Env} {M : Model} {U V : List Addr}
theorem Sub_acc {value slice : Expr} {pos : Pos} {Q : VP} (hw : ∀ o i, ∃ vs, subscripted slice false o i = operate vs (getItem o i))
  (h : wpAny (model PW w) A (eval value env) (fun o s₁ => wpAny (model PW w) A (eval slice env) (fun i s₂ => (∃ y d its k z t0 t1, o = .ref y ∧ (hd.heap_1 w.params).In s₂.heap ∧ InstAt s₂.heap y (accObj d its k) 185 (some (accD w t0 z t1))) ∧ wpAny (model PW w) A (getItem o i) Q E s₂) E s₁) E s) :
  wpAny (model PW w) A (eval (.Subscript value slice pos) env) Q E s := by
 rw [eval_Subscript]
 refine wpAny_bind (wpAny_mono h (fun o s₁ h₁ => wpAny_bind (wpAny_holding (wpAny_mono h₁ (fun i s₂ h₂ => wpAny_bind (wpAny_standAt ?_)) fun ι ι x => x))) fun ι ι x => x)
 obtain ⟨⟨y, d, its, k, z, t0, t1, rfl, X, I⟩, hg⟩ := h₂
 obtain ⟨vs, hv⟩ := hw (.ref y) i
 have hf : findIn (hd.heap_1 w.params) (.ref 185) "__getitem__" = some (some (.builtin "list.__getitem__")) := by k_is
 refine wpAny_bind ?_
 rw [getitemInPython_of_ne (by simp)]
 refine wpAny_bind ((spec_bi X I hf).here ?_)
 refine wpAny_pure ?_
 rw [hv]
 exact wpAny_bind (wpAny_operating (wpAny_mono hg (fun r s3 h₃ => wpAny_bind (wpAny_letTemporaryGo (wpAny_pure h₃))) fun ι ι x => x))
theorem PairsOn.kp {l : Addr} (p : PairsOn s.heap l xs) (S : Sit w mg mb b₀ s) (k : Kp U s s') (hU : ∀ u ∈ U, u ≠ l ∧ ∀ o, s.heap.get? u = some o → o.cls ≠ .type "tuple") : PairsOn s'.heap l xs := by
 obtain ⟨ts, ps, ⟨o, ho, hc, r⟩, hl, hp, ht⟩ := p
 refine ⟨ts, ps, ⟨o, k.get S ho (fun q => (hU _ q).1 rfl) (by rw [hc]; exact cn), hc, r⟩, hl, hp, fun j T a b e1 e2 => ?_⟩
 obtain ⟨o, ho, hc, r⟩ := ht j T a b e1 e2
 exact ⟨o, k.get S ho (fun q => (hU _ q).2 o ho hc) (by rw [hc]; exact cn), hc, r⟩
set_option tactic.hygienic true in
theorem StrPairs.take {ps : List (Value × Value)} (h : StrPairs ps xs) (i : Nat) : StrPairs (ps.take i) (xs.take i) := by
 refine ⟨by simp [h.1], fun j a b p e1 e2 => ?_⟩
 rw [List.getElem?_take] at e1 e2
 split at e1
 ·rename_i q
  rw [if_pos q] at e2
  exact h.2 j a b p e1 e2
 ·cases e1
theorem StrPairs.drop {ps : List (Value × Value)} (h : StrPairs ps xs) (i : Nat) : StrPairs (ps.drop i) (xs.drop i) := by
 refine ⟨by simp [h.1], fun j a b p e1 e2 => ?_⟩
 rw [List.getElem?_drop] at e1 e2
 exact h.2 _ a b p e1 e2
noncomputable abbrev Is (w : World) (A : Around) (E : VP) (env : Env) (e : Expr) (v : Value) (s : Shared) : Prop := ∀ Q : VP, Q v s → wpAny (model PW w) A (eval e env) Q E s
theorem slice_get {value lo : Expr} {p pos : Pos} {its : Array Value} {k i : Nat} {z : Int} {ti t0 t1 : Tok} {Q : VP} (S : Sit w mg mb b₀ s) (I : InstAt s.heap x (accObj d its k) 185 (some (accD w t0 z t1))) (hv : Is w A E env value (.ref x) s) (hlo : Is w A E env lo (.int i ti) s) (hz : its.size ≤ 1000)
  (h : ∀ s' l, Sit w mg mb b₀ s' → Kp [] s s' → s'.heap.IsList l (its.toList.drop i).toArray → s.heap.get? l = none → b₀.get? l = none → @LT.lt Nat _ 154 l → Q (.ref l) s') : wpAny (model PW w) A (eval (.Subscript value (.Slice (some lo) none none p) pos) env) Q E s := by
 refine Sub_acc (fun o i => ⟨_, rfl⟩) (hv _ (wpAny_Slice ?_))
 rw [evalPart_some]
 refine hlo _ ?_
 rw [evalPart_none]
 refine wpAny_pure (wpAny_pure ?_)
 have z₂ := S.push (o := { cls := .type "slice", data := .fields #[.int i ti, .none, .none] }) (t := s.toks)
 have I₂ : InstAt (s.heap.push { cls := .type "slice", data := .fields #[.int i ti, .none, .none] }) x (accObj d its k) 185 (some (accD w t0 z t1)) := ⟨Heap.get?_push_of_some _ I.at_, rfl, rfl, Heap.get?_push_of_some _ I.dict⟩
 refine ⟨⟨x, d, _, k, z, t0, t1, rfl, z₂.1.C.K.keeps z₂.1.k, I₂⟩, acc_getItem (z₂.1.C.K.keeps z₂.1.k) I₂ (by k_is) (by k_is) (by k_is) ?_⟩
 refine item_slice I₂.at_ (Heap.IsSliceOf.new ..) (.int _ _) .none .none (by simp) (by rw [sizeLine_eq]; lia) ⟨_, rfl, ?_⟩
 have z₃ := z₂.1.push (o := { cls := .type "list", data := .seq (slicePick its (some (i : Int)) none none) }) (t := s.toks)
 refine h _ _ z₃.1 (z₂.2.trans z₃.2 (List.forall_mem_nil _) (List.forall_mem_nil _)) ⟨_, Heap.get?_push_size _ rfl, rfl, 0, ?_⟩ ?_ z₂.1.fresh z₂.1.lt
 ·rw [slicePick_from']
 ·exact z₂.2.none_of (get_size _) z₂.1.lt
theorem slice_set {o : Expr} {lower : Option Expr} {p : Pos} {its new : Array Value} {k i : Nat} {z : Int} {vl : Value} {lo : Option Int} {e : Addr} {t0 t1 : Tok} {Q : Shared → Prop} (S : Sit w mg mb b₀ s) (I : InstAt s.heap x (accObj d its k) 185 (some (accD w t0 z t1))) (bx : b₀.get? x = none) (lx : @LT.lt Nat _ 154 x)
  (hv : Is w A E env o (.ref x) s) (hlo : ∀ Q : VP, Q vl s → wpAny (model PW w) A (evalPart lower env) Q E s) (pl : IsPart vl lo) (hb : sliceBounds lo none none its.size = ((i : Int), (its.size : Int), 1)) (hi : i ≤ its.size)
  (hl : s.heap.IsList e new) (hsz : its.size + new.size ≤ 1000) (h : ∀ s' k', Sit w mg mb b₀ s' → Kp [x] s s' → s'.heap.get? x = some (accObj d (its.extract 0 i ++ new) k') → Q s') :
  wpAny (model PW w) A (eval o env) (fun ov s₂ => wpAny (model PW w) A (eval (.Slice lower none none p) env) (fun iv s3 => wpAny (model PW w) A (setItem ov iv (.ref e)) (fun ι s' => Q s') E s3) E s₂) E s := by
 refine hv _ (wpAny_Slice (hlo _ ?_))
 rw [evalPart_none]
 refine wpAny_pure (wpAny_pure ?_)
 have z₂ := S.push (o := { cls := .type "slice", data := .fields #[vl, .none, .none] }) (t := s.toks)
 have I₂ : InstAt (s.heap.push { cls := .type "slice", data := .fields #[vl, .none, .none] }) x (accObj d its k) 185 (some (accD w t0 z t1)) := ⟨Heap.get?_push_of_some _ I.at_, rfl, rfl, Heap.get?_push_of_some _ I.dict⟩
 have ex : e ≠ x := by
  obtain ⟨oe, he, hc, _⟩ := hl
  exact ne_of_cls he I.at_ (by rw [hc]; exact cn)
 refine acc_setItem (z₂.1.C.K.keeps z₂.1.k) I₂ (by k_is) (by k_is) (by k_is) ?_
 refine set_slice (i := i) I₂.at_ (Heap.IsSliceOf.new ..) pl .none hb hi (hl.push _) ex hsz fun f k' hf => ⟨_, rfl, ?_⟩
 have z₃ := z₂.1.upd (f := Obj.mapSeq f) s.toks bx lx
 refine h _ k' z₃.1 (z₂.2.trans z₃.2 (List.forall_mem_nil _) ((fun ι h => .inl h))) ?_
 show (Heap.update _ _ _).get? x = _
 rw [Heap.get?_update_self _ I₂.at_ (by rw [hf]; rfl), hf]
set_option tactic.hygienic true in
theorem popf_k {i : Nat} {ti : Tok} {Q : VP} (S : Sit w mg mb b₀ s) (a : AccOn w b₀ s.heap x d xs 0) (R : Rm A 6) (hz : xs.length ≤ 900) (hi : i ≤ xs.length)
  (hret : ∀ s' l, Sit w mg mb b₀ s' → Kp [x] s s' → AccOn w b₀ s'.heap x d (xs.take i) 0 → PairsOn s'.heap l (xs.drop i) → s.heap.get? l = none → Q (.ref l) s') : wpAny (model PW w) A (call (.ref 137) [.ref x, .int i ti]) Q E s := by
 refine wpAny_call ?_
 refine enter_b [] (binds := [("self", .ref x), ("i", .int i ti)]) S (R.dl (k := 0) (by decide)) (by k_is) (by k_is) (binds_K (S.C.K.keeps S.k) rfl (by k_is) rfl rfl rfl) (locs rfl) ?_
 intro L s₁ B k₁
 refine cutQ fun Q0 h₀ => ?_
 have a₁ := a.on0 S k₁
 obtain ⟨bx, bd, ne, lx, ld, ts, ps, kk, t0, t1, hx0, hd0, hl, hp, ht⟩ := a
 have hx := B.K.get S hx0 List.not_mem_nil (by exact cn)
 have hd' := B.K.get S hd0 List.not_mem_nil (by exact cn)
 have I : InstAt s₁.heap x (accObj d (ts.map Value.ref).toArray kk) 185 (some (accD w t0 0 t1)) := ⟨hx, rfl, rfl, hd'⟩
 have hsz : ts.length = xs.length := hl.trans hp.1
 refine ex_cons (wpAny_Assign_Name (slice_get B.S I (fun Q h => B.loc rfl h) (fun Q h => B.loc rfl h) (by simp; lia) fun s₂ l S₂ k₂ hL hnew bl ll => ?_))
 have B2 := B.step S₂ k₂ (List.forall_mem_nil _) List.not_mem_nil
 refine B2.st fun s3 B3 k₃ => ?_
 have hL3 := k₃.lst S₂ hL (not_in (B.ne_new hnew))
 have hx₃ := B3.K.get S hx0 List.not_mem_nil (by exact cn)
 have hd3 := B3.K.get S hd0 List.not_mem_nil (by exact cn)
 refine ex_cons (wpAny_Assign_Subscript (wpAny_List (spliced_nil ⟨by decide, ?_⟩)))
 have z₄ := B3.S.push (o := { cls := .type "list", data := .seq ([] : List Value).toArray }) (t := s3.toks)
 have B4 := B3.step0 z₄
 refine slice_set (x := x) (d := d) (its := (ts.map Value.ref).toArray) (new := #[]) (i := i) B4.S ⟨Heap.get?_push_of_some _ hx₃, rfl, rfl, Heap.get?_push_of_some _ hd3⟩ bx lx (fun Q h => B4.loc rfl h) (fun Q h => by rw [evalPart_some]; exact B4.loc rfl h) (.int _ _) ?_ (by simp; lia) ⟨_, Heap.get?_push_size _ rfl, rfl, 0, rfl⟩ (by simp; lia) fun s5 k' S5 k₅ hx5 => ?_
 ·rw [sliceBounds_plain]
  simp only [Option.elim, clipAt_nat]
  rw [Nat.min_eq_left (by simp; lia)]
 have B5 := (B4.wide [x] (List.forall_mem_nil _)).step S5 k₅ ((fun ι h => .inl h)) (not_in (Ne.symm (B4.ne_old hx0)))
 refine ex_cons (wpAny_Return_some (B5.loc rfl ?_))
 have lx' : l ≠ x := fun q => by rw [q, hx] at hnew; cases hnew
 have hL5 := k₅.lst B4.S (z₄.2.lst B3.S hL3 List.not_mem_nil) (not_in lx')
 have tp : ∀ {T' : Addr} {a b : Value}, s.heap.IsTuple T' #[a, b] → s5.heap.IsTuple T' #[a, b] := fun {T' a b} h => B5.K.tup S hx0 (by exact cn) h
 have e1 : (ts.map Value.ref).toArray.extract 0 i ++ #[] = ((ts.take i).map Value.ref).toArray := by
  simp [List.map_take]
 have e2 : (List.drop i (ts.map Value.ref).toArray.toList).toArray = ((ts.drop i).map Value.ref).toArray := by simp [List.map_drop]
 rw [e1] at hx5
 rw [e2] at hL5
 refine h₀ _ _ ?_
 refine hret _ l B5.S B5.K ⟨bx, bd, ne, lx, ld, ts.take i, ps.take i, k', t0, t1, hx5, B5.K.get S hd0 (not_in (Ne.symm ne)) (by exact cn), by simp [hl], hp.take i, fun j T a b e1 e2 => ?_⟩ ⟨ts.drop i, ps.drop i, hL5, by simp [hl], hp.drop i, fun j T a b e1 e2 => ?_⟩ (k₁.none_of hnew ll)
 ·rw [List.getElem?_take] at e1 e2
  split at e1
  ·rename_i q
   rw [if_pos q] at e2
   exact tp (ht j T a b e1 e2)
  ·cases e1
 ·rw [List.getElem?_drop] at e1 e2
  exact tp (ht _ T a b e1 e2)
end
end Mine
namespace Mine
section
variable {w : World} {mg mb : NM} {b₀ : Heap} {s₀ s s' : Shared} {A : Around} {E : VP} {x d : Addr} {xs ys : List (Str × Str)} {env : Env} {M : Model} {U V : List Addr}
theorem seq_ {P : Shared → Prop} {st : Stmt} {rest : List Stmt} {Q : Flow → Shared → Prop} (h1 : wpAny M A (exec st env) (fun f s' => f = .next ∧ P s') E s) (h2 : ∀ s', P s' → wpAny M A (execs rest env) Q E s') : wpAny M A (execs (st :: rest) env) Q E s :=
 wpAny_execs_cons (wpAny_mono h1 (fun f s' h => by obtain ⟨rfl, hp⟩ := h; exact h2 s' hp) fun ι ι z => z)
theorem acc_store {its : Array Value} {k : Nat} {z : Int} {t0 t1 tv : Tok} {v : Int} {Q : Unit → Shared → Prop} (S : Sit w mg mb b₀ s) (I : InstAt s.heap x (accObj d its k) 185 (some (accD w t0 z t1))) (bd : b₀.get? d = none) (ld : @LT.lt Nat _ 154 d)
  (h : ∀ s', Sit w mg mb b₀ s' → Kp [d] s s' → s'.heap.get? d = some (accD w t0 v tv) → Q () s') : wpAny (model PW w) A (setAttr (.ref x) "_initial_size" (.int v tv)) Q E s := by
 refine acc_set (S.C.K.keeps S.k) I (by k_is) ⟨_, by k_is, by kernel_rfl, by kernel_rfl⟩ (by k_is) (by k_is) rfl (show [Key w "_initial_size" t0 (.int v tv)].length ≤ 1000 by simp) fun hn => ?_
 have z₁ := S.upd (x := d) (f := Obj.putName "_initial_size" (PyData.keyHash w.params "_initial_size") (.str "_initial_size" (s.toks + 1)) (.int v tv)) (s.toks + 2) bd ld
 exact h _ z₁.1 z₁.2 hn
theorem reset_k {v : Value} {args : List Value} {Q : VP} (S : Sit w mg mb b₀ s) (a : AccOn w b₀ s.heap x d xs 0) (R : Rm A 6) (hz : xs.length ≤ 400) (hy : ys.length ≤ 400) (hargs : (args = [.ref x] ∧ v = .none) ∨ args = [.ref x, v]) (hv : (v = .none ∧ ys = []) ∨ ∃ l, v = .ref l ∧ PairsOn s.heap l ys)
  (hret : ∀ s', Sit w mg mb b₀ s' → Kp [x, d] s s' → AccOn w b₀ s'.heap x d ys 0 → Q .none s') : wpAny (model PW w) A (call (.ref 167) args) Q E s := by
 refine wpAny_call ?_
 refine enter_b [] (binds := [("self", .ref x), ("startval", v)]) S (R.dl (k := 0) (by decide)) (by k_is) (by k_is) (by rcases hargs with ⟨rfl, rfl⟩ | rfl <;> exact binds_K (S.C.K.keeps S.k) rfl (by k_is) rfl rfl rfl) (locs rfl) ?_
 intro L s₁ B k₁
 refine cutQ fun Q0 h₀ => ?_
 obtain ⟨bx, bd, ne, lx, ld, ts, ps, kk, t0, t1, hx0, hd0, hl, hp, ht⟩ := a
 refine seq_ (P := fun s₂ => ∃ m l, Body w mg mb b₀ s [] L m s₂ ∧ m "self" = some (.ref x) ∧ m "startval" = some (.ref l) ∧ PairsOn s₂.heap l ys ∧ l ≠ L) ?_ ?_
 ·refine wpAny_If (wpAny_isTrue_Compare1 (B.loc rfl ?_))
  rcases hv with ⟨rfl, rfl⟩ | ⟨l, rfl, hP⟩
  ·iterate 3 walk1
   refine ite_t rfl ?_
   refine wpAny_execs_cons (wpAny_Assign_Name (wpAny_List (spliced_nil ⟨by decide, ?_⟩)))
   have z₂ := B.S.push (o := { cls := .type "list", data := .seq ([] : List Value).toArray }) (t := s₁.toks)
   have B2 := B.step0 z₂
   refine B2.st fun s3 B3 k₃ => wpAny_execs_nil ⟨rfl, _, s₁.heap.objs.size, B3, rfl, rfl, ?_, ?_⟩
   ·exact ⟨[], [], k₃.lst B2.S ⟨_, Heap.get?_push_size _ rfl, rfl, 0, rfl⟩ (not_in (B.ne_new (get_size _))), rfl, ⟨rfl, fun i a b p e => by simp at e⟩, fun j T a b e => by simp at e⟩
   ·exact B.ne_new (get_size _)
  ·iterate 3 walk1
   refine ite_f (by decide) ?_
   refine wpAny_execs_nil ⟨rfl, _, l, B, rfl, rfl, hP.kp S B.K (List.forall_mem_nil _), ?_⟩
   obtain ⟨_, _, ⟨o, ho, _⟩, _⟩ := hP
   exact B.ne_old ho
 rintro s₂ ⟨m, l, B2, m1, m2, ⟨ts', ps', hL, hl', hp', ht'⟩, nl⟩
 have hx₂ := B2.K.get S hx0 List.not_mem_nil (by exact cn)
 have hd₂ := B2.K.get S hd0 List.not_mem_nil (by exact cn)
 have hsz : ts.length = xs.length := hl.trans hp.1
 have hsz' : ts'.length = ys.length := hl'.trans hp'.1
 refine wpAny_execs_cons (wpAny_Assign_Subscript (B2.loc m2 ?_))
 refine slice_set (x := x) (d := d) (its := (ts.map Value.ref).toArray) (i := 0) B2.S ⟨hx₂, rfl, rfl, hd₂⟩ bx lx (fun Q h => B2.loc m1 h) (fun Q h => by rw [evalPart_none]; exact wpAny_pure h) .none (by rw [sliceBounds_plain]; rfl) (Nat.le_of_ble_eq_true rfl) hL (by simp; lia) fun s3 k' S3 k₃ hx₃ => ?_
 have B3 := (B2.wide [x, d] (List.forall_mem_nil _)).step S3 k₃ (by simp) (not_in (Ne.symm (B2.ne_old hx0)))
 have hd3 := k₃.get B2.S hd₂ (not_in (Ne.symm ne)) (by exact cn)
 have ei : (Array.extract (ts.map Value.ref).toArray 0 0) ++ (ts'.map Value.ref).toArray = (ts'.map Value.ref).toArray := by simp
 rw [ei] at hx₃
 refine wpAny_execs_cons (plainObj_wpAny_Assign_Attribute (wpAny_Constant_int ?_))
 have B4 := B3.tok (s3.toks + 1)
 refine B4.loc m1 ?_
 refine acc_store B4.S ⟨hx₃, rfl, rfl, hd3⟩ bd ld fun s5 S5 k₅ hd5 => ?_
 have B5 := B4.step S5 k₅ (by simp) (not_in (Ne.symm (B.ne_old hd0)))
 have tp : ∀ {T' : Addr} {a b : Value}, s₂.heap.IsTuple T' #[a, b] → s5.heap.IsTuple T' #[a, b] := fun {T' a b} h =>
  k₅.tup B4.S hd3 (by show Value.type "dict" ≠ Value.type "tuple"; decide) (k₃.tup B2.S hx₂ (by exact cn) h)
 refine wpAny_execs_nil ?_
 refine h₀ _ _ ?_
 exact hret _ B5.S B5.K ⟨bx, bd, ne, lx, ld, ts', ps', k', t0, _, k₅.get B4.S hx₃ (not_in ne) (by exact cn), hd5, hl', hp', fun j T a b e1 e2 => tp (ht' j T a b e1 e2)⟩
end
end Mine
namespace Mine
section
variable {w : World} {mg mb : NM} {b₀ : Heap} {s₀ s s' : Shared} {A : Around} {E : VP} {x d : Addr} {xs ys : List (Str × Str)} {env : Env} {M : Model} {U V : List Addr}
theorem len_runK {P : Fin → Shared → Prop} (S : Sit w mg mb b₀ s) (a : AccOn w b₀ s.heap x d xs 0) (R : Rm A 5) (hz : Small xs)
  (hret : ∀ s' t, Sit w mg mb b₀ s' → Kp [] s s' → AccOn w b₀ s'.heap x d xs 0 → P (.done (.ret (.int (lenOf xs) t))) s') : wpAny (model PW w) A (Builtin.«len» ⟨[.ref x], []⟩) P E s := by
 obtain ⟨its, k, t0, t1, I⟩ := a.inst
 unfold Builtin.«len»
 refine wpAny_bind (m := oneArg "len" _) (wpAny_pure ?_)
 refine wpAny_bind (m := callSpecial? (.ref x) (Str.ofString "__len__")) (special_fn (f := 152) (S.C.K.keeps S.k) I (by k_is) (by k_is) (len_k S a R hz fun s' t S' k' a' => ?_))
 refine wpAny_bind (wpAny_holding (wpAny_pure ?_))
 refine wpAny_bind (wpAny_letGo ?_)
 have h1 := hz.1
 show wpAny _ _ (if (lenOf xs : Int) < 0 then _ else _) _ _ _
 refine wp_f (by lia) ?_
 show wpAny _ _ (if (lenOf xs : Int) ≥ 2 ^ 63 then _ else _) _ _ _
 refine wp_f (by lia) ?_
 exact wpAny_bind (wpAny_mkInt (wpAny_pure (hret _ _ (S'.tok _) (k'.trans (Kp.of_eq (V := []) rfl rfl) (List.forall_mem_nil _) (List.forall_mem_nil _)) a')))
theorem acc_len {Q : VP} (S : Sit w mg mb b₀ s) (a : AccOn w b₀ s.heap x d xs 0) (R : Rm A 6) (hz : Small xs)
  (hret : ∀ s' t, Sit w mg mb b₀ s' → Kp [] s s' → AccOn w b₀ s'.heap x d xs 0 → Q (.int (lenOf xs) t) s') : wpAny (model PW w) A (call (.builtin "len") [.ref x]) Q E s := by
 refine Calls.call_function_entry kind_len plain_len entry_len (args_len1 _) ?_
 exact len_runK S a R.in1 hz fun s' t S' k' a' => ⟨_, rfl, hret s' t S' k' a'⟩
theorem acc_truth {Q : Bool → Shared → Prop} (S : Sit w mg mb b₀ s) (a : AccOn w b₀ s.heap x d xs 0) (R : Rm A 6) (hz : Small xs)
  (hret : ∀ s', Sit w mg mb b₀ s' → Kp [] s s' → AccOn w b₀ s'.heap x d xs 0 → Q (decide (lenOf xs ≠ 0)) s') : wpAny (model PW w) A (truthy (.ref x)) Q E s := by
 obtain ⟨its, k, t0, t1, I⟩ := a.inst
 have X := S.C.K.keeps S.k
 have hs : findIn (hd.heap_1 w.params) (.ref 185) "__bool__" = some none := by k_is
 have hl : findIn (hd.heap_1 w.params) (.ref 185) "__len__" = some (some (.ref 152)) := by k_is
 unfold truthy
 refine wpAny_bind (m := callSpecial? (.ref x) (Str.ofString "__bool__")) (wpAny_bind (wpAny_bind (I.type.here ((looks_findIn X hs).here (wpAny_pure ?_)))))
 refine wpAny_bind (wpAny_bind (I.type.here ((looks_findIn X hl).here ?_)))
 refine wp_f (by simp) ?_
 refine wpAny_bind (wpAny_runValue (codeAny_builtin entry_len ?_))
 rw [Around.under_plainId plain_len _]
 refine len_runK S a (R.in1 (n := 5)) hz fun s' t S' k' a' => ?_
 refine wpAny_pure ?_
 have e : ((lenOf xs : Int) != 0) = decide (lenOf xs ≠ 0) := by
  by_cases h : lenOf xs = 0 <;> simp [h]
 rw [e]
 exact hret s' S' k' a'
theorem acc_str {Q : VP} (S : Sit w mg mb b₀ s) (a : AccOn w b₀ s.heap x d xs 0) (R : Rm A 8) (hz : Small xs)
  (hret : ∀ s' t, Sit w mg mb b₀ s' → Kp [] s s' → AccOn w b₀ s'.heap x d xs 0 → Q (.str (textOf xs) t) s') : wpAny (model PW w) A (call (.type "str") [.ref x]) Q E s := by
 obtain ⟨its, k, t0, t1, I⟩ := a.inst
 exact kso_call (f := 159) (R.ul (k := 2) (by decide)) (S.C.K.keeps S.k) I (by k_is) (by k_is) (str_k S a (R.le (k := 7) (by decide)).in1.in1 hz hret)
theorem ws_k {Q : VP} (S : Sit w mg mb b₀ s) (a : AccOn w b₀ s.heap x d xs 0) (R : Rm A 12) (hz : Small xs) (hpos : lenOf xs ≠ 0) (hns : Txt.isspace (textOf xs) = false)
  (hret : ∀ s', Sit w mg mb b₀ s' → Kp [] s s' → AccOn w b₀ s'.heap x d xs 0 → Q (.bool false) s') : wpAny (model PW w) A (call (.ref 174) [.ref x]) Q E s := by
 refine wpAny_call ?_
 refine enter_b [] (binds := [("self", .ref x)]) S (R.dl (k := 0) (by decide)) (by k_is) (by k_is) (BindsTo.of_eq rfl) (locs rfl) ?_
 intro L s₁ B k₁
 refine cutQ fun Q0 h₀ => ?_
 have a₁ := a.on0 S k₁
 obtain ⟨its, k, t0, t1, I⟩ := a₁.inst
 refine ex_cons (wpAny_Return_some (BoolOp_and ?_))
 refine wpAny_Compare1 (Attribute_name (B.loc rfl (acc_get B.ck I (by k_is) (by k_is) (by k_is) rfl rfl ?_ (by k_is))))
 iterate 3 walk1
 refine ite_t (by decide) ?_
 have B2 := B.tok (s₁.toks + 1 + 1)
 refine BoolOp_one (BoolOp_or (UnaryOp_ (B2.loc rfl (not_of (acc_truth B2.S a₁ (R.deep.le (by decide)) hz fun s3 S3 k₃ a₃ => ?_)))))
 rw [decide_eq_true hpos]
 walk1
 refine ite_f (by decide) ?_
 have B3 := B2.step0 ⟨S3, k₃⟩
 refine BoolOp_one (MethodCall_ (wpAny_Call_NameR (B3.bi (v := .type "str") (by k_is) (by decide +kernel) ?_)))
 refine PyProof.Rows.callWith_type1 (spliced_cons (B3.loc rfl (spliced_nil ?_)))
 refine acc_str B3.S a₃ (R.deep.le (by decide)) hz fun s4 t S4 k₄ a₄ => ?_
 have B4 := B3.step0 ⟨S4, k₄⟩
 refine PySem.GM.isspace (callWith_builtin rfl (evalArgs_nil3 (PySem.SC.isspace ?_)))
 rw [hns]
 refine h₀ _ _ ?_
 exact hret _ B4.S B4.K a₄
end
end Mine
namespace Mine
theorem ln_quiet {args : Args} : (Code.builtin "list.__new__" args).quiet = true := plainId_quiet PySem.F.plain_list_new _
theorem ln_kind : builtinKind "list.__new__" = some .builtinFn := by decide +kernel
theorem ln_split : splitId "list.__new__" = some ("list", "__new__") := by decide +kernel
section
variable {w : World} {A : Around} {E : VP} {R : Result → Shared → Prop} {h : Heap} {g : Array GenState} {d : Drawn} {t : Nat} {os : OsState} {s : Shared} {K : Frag} {M : Model}
structure LMk (M : Model) (h : Heap) (C : Addr) : Prop where
 obj : ∃ oc od cd sl, h.get? C = some ⟨oc, od, .cls cd, sl⟩ ∧ cd.abstract = false ∧ cd.hasDel = false ∧ cd.mro.isEmpty = false
 made : Looks M h (Bind.madeBy (.ref C)) (some "list.__new__")
 base : Looks M h (Bind.staticBase (.ref C)) (.ref C)
 self : Looks M h (isSubtype (.ref C) (.ref C)) true
 top : Looks M h (isSubtype (.ref C) (.type "list")) true
 call : Looks M h (specialOf (.ref C) "__call__") (some (.builtin "type.__call__"))
 typ : Looks M h (isInstance (.ref C) (.type "type")) true
noncomputable def lmkIn (K : Frag) (C : Addr) : Bool := match K.lookup C with
 | some ⟨_, _, .cls cd, sl⟩ => !cd.abstract && !cd.hasDel && (sl.toList[4]?).join == some (.builtin "list.__new__") && !cd.mro.isEmpty && cd.mro.contains (.ref C) && cd.mro.contains (.type "list") &&
   specialIn K (.ref C) "__call__" == some (some (.builtin "type.__call__")) && instIn K (.ref C) (.type "type") == some true
 | _ => false
set_option tactic.hygienic true in
theorem lmk_of (X : K.In h) {C : Addr} (e : lmkIn K C = true) : LMk M h C := by
 unfold lmkIn at e
 split at e
 ·rename_i oc od cd sl ho
  simp only [Bool.and_eq_true, Bool.not_eq_true', beq_iff_eq] at e
  obtain ⟨⟨⟨⟨⟨⟨⟨e1, e2⟩, e3⟩, e4⟩, e5⟩, e6⟩, e7⟩, e8⟩ := e
  have hc : clsIn K C = some cd := by unfold clsIn; rw [ho]
  have hm : Looks M h (mroOf (.ref C)) cd.mro := (looks_clsIn X hc).andThen .now
  obtain ⟨c, l, hl⟩ : ∃ c l, cd.mro = c :: l := by cases q : cd.mro with | nil => rw [q] at e4; cases e4 | cons c l => exact ⟨c, l, rfl⟩
  have made : Looks M h (Bind.madeBy (.ref C)) (some "list.__new__") := by
   intro A Q E s k q
   unfold Bind.madeBy
   refine wpAny_bind (hm A _ E s k ?_)
   rw [hl, List.forIn_cons]
   refine wpAny_bind (wpAny_bind (wpAny_bind (wpAny_bind (wpAny_loadPart (k _ _ (X _ _ ho)) (wpAny_pure ?_)))))
   dsimp only
   rw [← Array.getElem?_toList, e3]
   exact wpAny_pure (wpAny_pure (wpAny_pure q))
  refine ⟨⟨oc, od, cd, sl, X _ _ ho, e1, e2, e4⟩, made, ?_, looks_mroIn X ?_, looks_mroIn X ?_, looks_specialIn X e7, looks_instIn X e8⟩
  ·intro A Q E s k q
   unfold Bind.staticBase
   refine wpAny_bind (hm A _ E s k ?_)
   rw [hl, List.forIn_cons]
   exact wpAny_bind (wpAny_bind (wpAny_bind (made A _ E s k (wpAny_pure (wpAny_pure (wpAny_pure q))))))
  ·unfold mroIn; rw [hc, Option.bind_some, if_neg (by rw [e4]; decide), e5]
  ·unfold mroIn; rw [hc, Option.bind_some, if_neg (by rw [e4]; decide), e6]
 ·cases e
theorem new_L {C : Addr} {rest : List Value} {kw : List (Str × Value)} (Y : LMk (model PW w) h C)
  (hq : R (.ok (.ret (.ref (h.objs.size + 1)))) ⟨(h.push emptyDict).push { cls := .ref C, dict := some h.objs.size, data := .seq #[] }, g, d, t, os⟩) :
  codeAny (model PW w) A (.call (.builtin "list.__new__") ⟨.ref C :: rest, kw⟩) R ⟨h, g, d, t, os⟩ := by
 obtain ⟨⟨oc, od, cd, sl, hC, e1, e2, e4⟩, made, base, self, top, call, typ⟩ := Y
 refine codeAny_call_builtin_code ln_quiet ?_
 have isT : Looks (model PW w) h (isType (.ref C)) true := fun A Q E s k q => by
  unfold isType loadHead
  exact wpAny_bind (wpAny_loadPart (k _ _ hC) (wpAny_pure q))
 refine cutW fun Q₁ E₁ h₁ => ?_
 refine wp_eq (by unfold checkBuiltinCall; rw [ln_kind, ln_split]) ?_
 repeat (first | with_reducible refine wp_f (by decide) ?_ | with_reducible refine wp_t (by decide) ?_ | with_reducible refine wp_f (by simp) ?_ | lk)
 refine h₁ _ _ ?_
 refine codeAny_builtin_stack PySem.F.entry_list_new rfl fun p st => ?_
 refine wp_A (Around.under_plainId PySem.F.plain_list_new _) ?_
 refine cutW fun Q2 E₂ h₂ => ?_
 have top2 : Looks (model PW w) h (isSubtype (.ref C) (.type (("list.__new__".splitOn ".__new__").headD ""))) true := by rw [owner_list_new]; exact top
 repeat (first | with_reducible refine wp_f (by decide) ?_ | lk)
 refine wp_eq (by rw [owner_list_new]) ?_
 have hC2 : ((h.push emptyDict).push { cls := .ref C, dict := some h.objs.size, data := .seq #[] }).get? C = some ⟨oc, od, .cls cd, sl⟩ := Heap.get?_push_of_some _ (Heap.get?_push_of_some _ hC)
 repeat (first | with_reducible refine wp_f (by decide) ?_ | with_reducible refine wp_f (ne_true_of_eq_false e2) ?_ | lk)
 refine h₂ _ _ ?_
 show R _ _
 rw [Heap.size_push]
 exact hq
theorem make_L {C : Addr} {rest : List Value} {kw : List (Str × Value)} {init : Value} (Y : LMk (model PW w) h C) (hi : Looks (model PW w) h (typeLookup (.ref C) "__init__") (some init))
  (hb : ∀ self, Looks (model PW w) h (bindSpecial init self) (init, [self]))
  (hq : codeAny (model PW w) (A.under (.builtin "type.__call__" ⟨.ref C :: rest, kw⟩)) (.call init ⟨.ref (h.objs.size + 1) :: rest, kw⟩) (InitBack (h.objs.size + 1) R) ⟨(h.push emptyDict).push { cls := .ref C, dict := some h.objs.size, data := .seq #[] }, g, d, t, os⟩) :
  codeAny (model PW w) A (.call (.ref C) ⟨rest, kw⟩) R ⟨h, g, d, t, os⟩ := by
 have Y' := Y
 obtain ⟨⟨oc, od, cd, sl, hC, e1, e2, e4⟩, made, base, self, top, call, typ⟩ := Y
 refine codeAny_of_tree ?_
 show wpAny _ _ (callAny (.ref C) _) _ _ _
 refine nd_load hC ?_
 show wpAny _ _ (callAny.viaDunder (.ref C) _) _ _ _
 unfold callAny.viaDunder
 refine wpAny_bind (call.at ?_)
 dsimp only
 rw [tc_bind]
 refine wpAny_bind (wpAny_pure (wpAny_bind (wpAny_pure ?_)))
 refine wpAny_pure (a := Fin.again (.call (.builtin "type.__call__") ⟨.ref C :: rest, kw⟩)) (And.intro rfl ?_)
 refine codeAny_call_builtin_at (Code.quiet_builtin _ (by decide +kernel)) entry_typeCall (check_slot tc_kind tc_split typ (tc_args _ _ _) ?_)
 unfold Builtin.«type.__call__»
 have hm : Looks (model PW w) h (mroOf (.ref C)) cd.mro := ((Looks.ld (part := none) hC).andThen .now).andThen .now
 repeat (first | with_reducible refine wp_f (ne_true_of_eq_false e4) ?_ | with_reducible refine wp_f (by decide) ?_ | with_reducible refine wpAny_call ?_ | lk)
 refine new_L Y' ?_
 have k : ∀ b o, h.get? b = some o → ((h.push emptyDict).push { cls := .ref C, dict := some h.objs.size, data := .seq #[] }).get? b = some o := fun b o e => Heap.get?_push_of_some _ (Heap.get?_push_of_some _ e)
 have hx : ((h.push emptyDict).push { cls := .ref C, dict := some h.objs.size, data := .seq #[] }).get? (h.objs.size + 1) = some { cls := .ref C, dict := some h.objs.size, data := .seq #[] } := by heap_get
 have t1 : Looks (model PW w) ((h.push emptyDict).push { cls := .ref C, dict := some h.objs.size, data := .seq #[] }) (typeOf (.ref (h.objs.size + 1))) (.ref C) := (Looks.ld hx).andThen .now
 have s1 := self.keeps k
 have i1 := hi.keeps k
 have b1 := (hb (.ref (h.objs.size + 1))).keeps k
 unfold isInstance callSpecial? specialOf
 repeat (first | with_reducible refine wpAny_call ?_ | lk)
 refine codeAny_mono hq fun r s' z => ?_
 rcases r with e | (v | _ | _ | _) <;> first | exact z | exact z.elim | skip
 obtain ⟨rfl, z⟩ := z
 exact wpAny_pure (wpAny_pure z)
end
end Mine
namespace Mine
section
variable {w : World} {mg mb : NM} {b₀ : Heap} {s₀ s s' : Shared} {A : Around} {E : VP} {x d : Addr} {xs ys : List (Str × Str)} {env : Env} {M : Model} {U V : List Addr}
theorem InstA {h : Heap} {its : Array Value} {k : Nat} {od : Obj} (hx : h.get? x = some (accObj d its k)) (hd : h.get? d = some od) : InstAt h x (accObj d its k) 185 (some od) := ⟨hx, rfl, rfl, hd⟩
theorem out_of {h : Heap} {a : Addr} (l : h.objs.size ≤ a) : h.get? a = none := by
 cases q : h.get? a with
 | none => rfl
 | some o => exact absurd (Heap.lt_size q) (Nat.not_lt.mpr l)
theorem init_run {P : Fin → Shared → Prop} {k : Nat} (hx : s.heap.get? x = some (accObj d #[] k))
  (h : P (.done (.ret .none)) { s with heap := s.heap.update x (Obj.mapSeq fun ι => #[]) }) : wpAny (model PW w) A (Builtin.«list.__init__» ⟨[.ref x], []⟩) P E s := by
 show wpAny _ _ (do let old ← Builtin.List.listItems (.ref x); Builtin.List.listUpdate (.ref x) (fun ι => #[]); letGo old.toList.reverse; ret .none) _ _ s
 refine wpAny_bind ?_
 unfold Builtin.List.listItems
 refine wpAny_bind (wpAny_seqItems hx rfl (wpAny_pure ?_))
 show wpAny _ _ (updateSeq x (fun ι => #[]) >>= fun ι => letGo (#[] : Array Value).toList.reverse >>= fun ι => ret .none) _ _ s
 exact wpAny_bind (wpAny_updateSeq hx rfl (wpAny_bind (wpAny_letGo (wpAny_pure h))))
theorem init_k {args : List Value} {R : Result → Shared → Prop} {tv : Tok} (S : Sit w mg mb b₀ s) (bx : b₀.get? x = none) (bd : b₀.get? d = none) (ne : @Ne Nat x d) (lx : @LT.lt Nat _ 154 x) (ld : @LT.lt Nat _ 154 d) (hx : s.heap.get? x = some (accObj d #[] 0)) (hd' : s.heap.get? d = some (dictOf [] 0)) (Rm' : Rm A 4)
  (hargs : (args = [.ref x] ∧ tv = 333) ∨ args = [.ref x, .int 0 tv])
  (hret : ∀ s', Sit w mg mb b₀ s' → Kp [x, d] s s' → AccOn w b₀ s'.heap x d [] 0 → R (.ok (.ret .none)) s') : codeAny (model PW w) A (.call (.ref 122) ⟨args, []⟩) R s := by
 refine enter_bs [] (cc := 109) (binds := [("self", .ref x), ("initial_size", .int 0 tv)]) S (Rm'.dl (k := 0) (by decide)) (by k_is) (by k_is) (by rcases hargs with ⟨rfl, rfl⟩ | rfl <;> exact binds_K (S.C.K.keeps S.k) rfl (by k_is) rfl rfl rfl) (locs rfl) ?_
 intro L s₁ B k₁
 have hx₁ := B.K.get S hx List.not_mem_nil (by exact cn)
 have hd₁ := B.K.get S hd' List.not_mem_nil (by exact cn)
 refine ks_wpAt_execs_cons (wpAt_of_wpAny (plainObj_wpAny_Assign_Attribute (B.loc rfl (B.loc rfl ?_))))
 refine acc_set B.ck (InstA hx₁ hd₁) (by k_is) ⟨_, by k_is, by kernel_rfl, by kernel_rfl⟩ (by k_is) (by k_is) rfl (show [Key w "_initial_size" (s₁.toks + 1) (.int 0 tv)].length ≤ 1000 by simp) fun hn => ?_
 have z₁ := B.S.upd (x := d) (f := Obj.putName "_initial_size" (PyData.keyHash w.params "_initial_size") (.str "_initial_size" (s₁.toks + 1)) (.int 0 tv)) (s₁.toks + 2) bd ld
 have hx₂ := z₁.2.get B.S hx₁ (not_in ne) (by exact cn)
 have B2 := (B.wide [x, d] (List.forall_mem_nil _)).step z₁.1 z₁.2 (by simp) (not_in (Ne.symm (B.ne_old hd')))
 have hd₂ : ({ s₁ with heap := s₁.heap.update d (Obj.putName "_initial_size" (PyData.keyHash w.params "_initial_size") (.str "_initial_size" (s₁.toks + 1)) (.int 0 tv)), toks := s₁.toks + 2 } : Shared).heap.get? d = some (accD w (s₁.toks + 1) 0 tv) := hn
 generalize ({ s₁ with heap := s₁.heap.update d (Obj.putName "_initial_size" (PyData.keyHash w.params "_initial_size") (.str "_initial_size" (s₁.toks + 1)) (.int 0 tv)), toks := s₁.toks + 2 } : Shared) = s₂ at B2 hx₂ hd₂ z₁ ⊢
 refine ks_wpAt_execs_cons (ks_wpAt_Expr_any (ks_wpAt_MethodCall ?_))
 refine sup_node B2.S B2.ns (by k_is) rfl rfl (InstA hx₂ hd₂) (by k_is) rfl (by decide +kernel) (by k_is) (by k_is) (by k_is) (by k_is) (by decide) rfl rfl rfl rfl (by decide +kernel) (by kernel_rfl) ?_
 intro so h₃ k₃ hso
 have z₃ := B2.S.grow (t := s₂.toks) k₃
 have B3 := B2.step0 z₃
 have hx₃ := k₃ _ _ hx₂
 have hd3 := k₃ _ _ hd₂
 refine sup_w (s := { s₂ with heap := h₃ }) (id := "list.__init__") (n := "__init__") B3.S hso (InstA hx₃ hd3) (by k_is) (by kernel_rfl) (by show builtinType _ = _; rw [builtinType_eq_fast]; kernel_rfl) sb_owner_init (by k_is) (by decide) ?_
 intro q' h₄ k₄ hq
 have z₄ := B3.S.grow (t := s₂.toks + 1) k₄
 have B4 := B3.step0 z₄
 have hx4 := k₄ _ _ hx₃
 have hd4 := k₄ _ _ hd3
 refine bm_call0 (id := "list.__init__") hq (.inr rfl) (fun h => wpAny_of_eq (a := ()) (by kernel_rfl) h) (by decide +kernel) PySem.F.entry_list_init ?_
 refine init_run hx4 ⟨_, rfl, ?_⟩
 have z₅ := B4.S.upd (x := x) (f := Obj.mapSeq fun ι => #[]) (s₂.toks + 1) bx lx
 have hx5 := Heap.get?_update_self (Obj.mapSeq fun ι => #[]) hx4 (by rfl)
 refine wpAt_of_wpAny (wpAny_execs_nil ?_)
 exact hret _ z₅.1 (B4.K.trans z₅.2 (fun ι h => h) (by simp)) ⟨bx, bd, ne, lx, ld, [], [], 0, _, tv, hx5, z₅.2.get B4.S hd4 (not_in (Ne.symm ne)) (by exact cn), rfl, ⟨rfl, fun i a b p e => by simp at e⟩, fun j T a b e => by simp at e⟩
theorem wt_call (C : Addr) (rest : List Value) : (Code.builtin "type.__call__" ⟨.ref C :: rest, []⟩).weight = 1 := by kernel_rfl
theorem un_call (C : Addr) (rest : List Value) : (Code.builtin "type.__call__" ⟨.ref C :: rest, []⟩).cUnits = 1 := by kernel_rfl
theorem Rm.cls {n : Nat} {C : Addr} {rest : List Value} (R : Rm A (n + 1)) : Rm (A.under (.builtin "type.__call__" ⟨.ref C :: rest, []⟩)) n :=
 ⟨R.hh, by have := R.dp; show A.depth + Code.weight _ + n < 1000; rw [wt_call]; lia, by have := R.un; show A.units + Code.cUnits _ + 8 * n < 9900; rw [un_call]; lia⟩
theorem new_acc {tv : Tok} {rest : List Value} {Q : VP} (S : Sit w mg mb b₀ s) (R : Rm A 6) (hargs : (rest = [] ∧ tv = 333) ∨ rest = [.int 0 tv])
  (hret : ∀ s' x d, Sit w mg mb b₀ s' → Kp [] s s' → AccOn w b₀ s'.heap x d [] 0 → s.heap.get? x = none → s.heap.get? d = none → Q (.ref x) s') : wpAny (model PW w) A (call (.ref 185) rest) Q E s := by
 have X := S.C.K.keeps S.k
 have hi : findIn (hd.heap_1 w.params) (.ref 185) "__init__" = some (some (.ref 122)) := by k_is
 have hf : typeIn (hd.heap_1 w.params) (.ref 122) = some (.type "function") := by k_is
 have hm : lmkIn (hd.heap_1 w.params) 185 = true := by kernel_rfl
 have z₁ := S.push (o := emptyDict) (t := s.toks)
 have z₂ := z₁.1.push (o := { cls := .ref 185, dict := some s.heap.objs.size, data := .seq #[] }) (t := s.toks)
 obtain ⟨hh, g, dd, t, os⟩ := s
 refine wpAny_call (make_L (lmk_of X hm) (looks_findIn X hi) (fun self => bind_fn X self hf) ?_)
 refine init_k (x := hh.objs.size + 1) (d := hh.objs.size) (tv := tv) z₂.1 ?_ S.fresh (by show @Ne Nat _ _; lia) ?_ S.lt ?_ (Heap.get?_push_of_some _ (Heap.get?_push_at rfl rfl)) ?_ ?_ fun s' S' k' a' => ?_
 ·have := z₁.1.fresh
  rwa [show ({ heap := hh.push emptyDict, gens := g, drawn := dd, toks := t, os := os } : Shared).heap.objs.size = hh.objs.size + 1 from Heap.size_push ..] at this
 ·exact Nat.lt_succ_of_lt S.lt
 ·exact Heap.get?_push_at (Heap.size_push ..).symm rfl
 ·exact (R.le (k := 5) (by decide)).cls
 ·rcases hargs with ⟨rfl, rfl⟩ | rfl
  ·exact .inl ⟨rfl, rfl⟩
  ·exact .inr rfl
 ·refine ⟨rfl, hret s' _ _ S' ((z₁.2.trans (z₂.2.trans k' (W := [hh.objs.size + 1, hh.objs.size]) (List.forall_mem_nil _) (fun x hx => .inl hx)) (W := []) (List.forall_mem_nil _) fun x hx => .inr ?_)) a' ?_ (get_size _)⟩
  ·rcases List.mem_cons.mp hx with rfl | hx
   ·exact out_of (Nat.le_succ _)
   ·rw [List.mem_singleton.mp hx]; exact get_size _
  ·exact out_of (Nat.le_succ _)
end
end Mine
namespace Mine
open Builtin Builtin.ObjectAttr
section
variable {w : World} {mg mb : NM} {b₀ : Heap} {s₀ s s' : Shared} {A : Around} {E : VP} {p dp C : Addr} {es : List DictEntry} {n : Nat} {name : Str} {v : Value} {K : Frag}
set_option tactic.hygienic true in
theorem own_osa {tk : Tok} {R : Result → Shared → Prop} (X : K.In s.heap) (I : InstAt s.heap p (instObj C dp) C (some (dictOf es n))) (hp : plainOver K C = true) (hh : hasDictIn K C = true)
  (ht : takerIn K C name = some none) (hl : (lookIn name (dictOf es n)).isSome = true) (hz : (putL name (PyData.keyHash w.params name) (.str name s.toks) v es).length ≤ 1000)
  (h : R (.ok (.ret .none)) { s with heap := s.heap.update dp (Obj.putName name (PyData.keyHash w.params name) (.str name s.toks) v), toks := s.toks + 1 }) :
  codeAny (model PW w) A (.call (.builtin "object.__setattr__") ⟨[.ref p, .str name tk, v], []⟩) R s := by
 refine osa_open X I hp ht fun b => ?_
 obtain ⟨cd, hc, hd0⟩ := any_some hh
 have D := I.dict
 have hx := I.at_
 refine wpAny_bind (wpAny_pure (wpAny_bind (wpAny_bind (wpAny_loadPart hx (wpAny_bind ((looks_clsIn X hc).here ?_))))))
 rw [hd0]
 refine wpAny_pure (a := some dp) (wpAny_bind (wpAny_pure (wpAny_bind ?_)))
 unfold nsSet
 refine wpAny_bind (wpAny_bind (wpAny_askSetting (wpAny_pure (wpAny_bind (wpAny_mkText (wpAny_bind (wpAny_loadPart D ?_)))))))
 unfold lookIn at hl
 dsimp only [dictOf] at hl ⊢
 have c : (!es.toArray.any (·.key.isStr name) && es.toArray.any (·.refKey)) = false := by
  rw [← Array.any_toList, ← Array.any_toList]
  split at hl
  ·rename_i en he
   rw [List.any_eq_true.mpr ⟨en, List.mem_of_find?_eq_some he, List.find?_some (p := fun e : DictEntry => e.key.isStr name) he⟩]; rfl
  ·split at hl
   ·cases hl
   ·rename_i z; rw [Bool.not_eq_true] at z; rw [z, Bool.and_false]
 rw [aRefKeyMayBeTheName_at, c]
 refine wpAny_updatePart D ?_
 have D' := Heap.get?_update_self (Obj.putName name (PyData.keyHash w.params name) (.str name s.toks) v) D (by rw [putName_dict]; rfl)
 rw [putName_dict] at D'
 refine wpAny_bind (wpAny_lookBehind D' (pastItsLine_dict (by rw [List.size_toArray, sizeLine_eq]; lia)) ?_)
 exact wpAny_pure h
theorem own_set {Q : Unit → Shared → Prop} (S : Sit w mg mb b₀ s) (bd : b₀.get? dp = none) (ld : @LT.lt Nat _ 154 dp) (I : InstAt s.heap p (instObj C dp) C (some (dictOf es n))) (hs : findIn (hd.heap_1 w.params) (.ref C) "__setattr__" = some (some (.builtin "object.__setattr__")))
  (hp : plainOver (hd.heap_1 w.params) C = true) (hh : hasDictIn (hd.heap_1 w.params) C = true) (ht : takerIn (hd.heap_1 w.params) C name = some none) (hl : (lookIn name (dictOf es n)).isSome = true) (hz : ∀ t, (putL name (PyData.keyHash w.params name) (.str name t) v es).length ≤ 1000)
  (h : ∀ s' t, Sit w mg mb b₀ s' → Kp [dp] s s' → s'.heap.get? dp = some (dictOf (putL name (PyData.keyHash w.params name) (.str name t) v es) (putN name es n)) → Q () s') :
  wpAny (model PW w) A (setAttr (.ref p) name v) Q E s := by
 have X := S.C.K.keeps S.k
 refine set_plain X I hs (own_osa (s := { s with toks := s.toks + 1 }) X I hp hh ht hl (hz _) ?_)
 have z := S.upd (x := dp) (f := Obj.putName name (PyData.keyHash w.params name) (.str name (s.toks + 1)) v) (s.toks + 2) bd ld
 refine h _ (s.toks + 1) z.1 z.2 ?_
 have D' := Heap.get?_update_self (Obj.putName name (PyData.keyHash w.params name) (.str name (s.toks + 1)) v) I.dict (by rw [putName_dict]; rfl)
 rwa [putName_dict] at D'
theorem own_get {Q : VP} {expr : Bool} {attr : Option Value} {ox : Obj} (S : Sit w mg mb b₀ s) (I : InstAt s.heap p ox C (some (dictOf es n))) (hg : plainGet (hd.heap_1 w.params) C name = true) (hh : hasDictIn (hd.heap_1 w.params) C = true)
  (ha : findIn (hd.heap_1 w.params) (.ref C) name = some attr) (hn : noGet (hd.heap_1 w.params) attr = true) (hl : getL name es = some (some v)) (hv : handedIn v = true) (h : Q v { s with toks := s.toks + 1 }) : wpAny (model PW w) A (getAttr (.ref p) name expr) Q E s :=
 get_value (S.C.K.keeps S.k) I (plainGet_of hg).1 (findObj_own hh ha hn hl) hv h
end
end Mine
namespace Mine
noncomputable abbrev pgD (w : World) (a b c e f g u1 u2 u3 u4 : Tok) (M : Int) (ln x : Addr) : Obj :=
 dictOf [Key w "_maxlen" a (.int M u1), Key w "_continuation_ws" b (.str (Str.ofString " ") u2), Key w "_continuation_ws_len" c (.int 1 u3), Key w "_splitchars" e (.str (Str.ofString " ") u4), Key w "_lines" f (.ref ln), Key w "_current_line" g (.ref x)] 6
structure PageOn (w : World) (b₀ h : Heap) (p dp ln x d : Addr) (M : Int) (lines : List Str) (xs : List (Str × Str)) : Prop where
 acc : AccOn w b₀ h x d xs 0
 bp : b₀.get? p = none
 bdp : b₀.get? dp = none
 bln : b₀.get? ln = none
 lp : @LT.lt Nat _ 154 p
 ldp : @LT.lt Nat _ 154 dp
 lln : @LT.lt Nat _ 154 ln
 ned : @Ne Nat dp d
 hp : h.get? p = some (instObj 101 dp)
 hdp : ∃ a b c e f g u1 u2 u3 u4, h.get? dp = some (pgD w a b c e f g u1 u2 u3 u4 M ln x)
 hln : ∃ (l : List (Str × Tok)) (k : Nat), h.get? ln = some { cls := .type "list", data := .seq (strValues l).toArray k } ∧ l.map (·.1) = lines
section
variable {w : World} {mg mb : NM} {b₀ : Heap} {s₀ s s' : Shared} {A : Around} {E : VP} {p dp ln x d : Addr} {lines : List Str} {xs : List (Str × Str)} {M : Int}
theorem InstP {C : Addr} {h : Heap} {od : Obj} (hx : h.get? p = some (instObj C dp)) (hd : h.get? dp = some od) : InstAt h p (instObj C dp) C (some od) := ⟨hx, rfl, rfl, hd⟩
theorem init_p {t0 u1 u2 u4 : Tok} {R : Result → Shared → Prop} (S : Sit w mg mb b₀ s) (bp : b₀.get? p = none) (bdp : b₀.get? dp = none) (lp : @LT.lt Nat _ 154 p) (ldp : @LT.lt Nat _ 154 dp) (hp : s.heap.get? p = some (instObj 101 dp)) (hdp : s.heap.get? dp = some (dictOf [] 0)) (Rm' : Rm A 8)
  (hret : ∀ s' ln x d, Sit w mg mb b₀ s' → Kp [dp] s s' → PageOn w b₀ s'.heap p dp ln x d M [] [] → s.heap.get? ln = none → s.heap.get? x = none → s.heap.get? d = none → R (.ok (.ret .none)) s') : codeAny (model PW w) A (.call (.ref 42) ⟨[.ref p, .int 0 t0, .int M u1, .str (Str.ofString " ") u2, .str (Str.ofString " ") u4], []⟩) R s := by
 refine enter_b [dp] (binds := [("self", .ref p), ("headerlen", .int 0 t0), ("maxlen", .int M u1), ("continuation_ws", .str (Str.ofString " ") u2), ("splitchars", .str (Str.ofString " ") u4)]) S (Rm'.dl (k := 0) (by decide)) (by k_is) (by k_is) (BindsTo.of_eq rfl) (locs rfl) ?_
 intro L s₁ B1 k₁
 refine cutQ fun Q0 h₀ => ?_
 have pd : p ∉ [dp] := by simp only [List.mem_singleton]; exact ne_of_cls hp hdp (by show Value.ref 101 ≠ Value.type "dict"; simp)
 have Ld : L ∉ [dp] := by simp only [List.mem_singleton]; exact Ne.symm (B1.ne_old hdp)
 have hp₁ := k₁.get S hp List.not_mem_nil (by exact cn)
 have hd₁ := k₁.get S hdp List.not_mem_nil (by exact cn)
 refine ex_cons (plainObj_wpAny_Assign_Attribute (B1.loc rfl (B1.loc rfl ?_)))
 refine own_set B1.S bdp ldp (InstP hp₁ hd₁) (by k_is) (by k_is) (by k_is) (by k_is) rfl (fun t => Nat.le_of_ble_eq_true rfl) fun s₂ a S₂ k₂ hd₂ => ?_
 replace hd₂ : s₂.heap.get? dp = some (dictOf [Key w "_maxlen" a (.int M u1)] 1) := hd₂
 have B2 := B1.step S₂ k₂ ((fun ι h => .inl h)) Ld
 have hp₂ := k₂.get B1.S hp₁ pd (by exact cn)
 refine ex_cons (plainObj_wpAny_Assign_Attribute (B2.loc rfl (B2.loc rfl ?_)))
 refine own_set B2.S bdp ldp (InstP hp₂ hd₂) (by k_is) (by k_is) (by k_is) (by k_is) rfl (fun t => Nat.le_of_ble_eq_true rfl) fun s3 b S3 k₃ hd3 => ?_
 replace hd3 : s3.heap.get? dp = some (dictOf [Key w "_maxlen" a (.int M u1), Key w "_continuation_ws" b (.str (Str.ofString " ") u2)] 2) := hd3
 have B3 := B2.step S3 k₃ ((fun ι h => .inl h)) Ld
 have hp₃ := k₃.get B2.S hp₂ pd (by exact cn)
 refine ex_cons (plainObj_wpAny_Assign_Attribute (wpAny_Call_NameR (B3.bi (v := .builtin "len") (by k_is) (by decide +kernel) (callWith_builtin rfl (evalArgs_plain (spliced_cons (B3.loc rfl (spliced_nil (PySem.P.len_str (by decide +kernel) ?_)))))))))
 have B4 := B3.tok (s3.toks + 1 + 1)
 refine B4.loc rfl ?_
 refine own_set B4.S bdp ldp (InstP hp₃ hd3) (by k_is) (by k_is) (by k_is) (by k_is) rfl (fun t => Nat.le_of_ble_eq_true rfl) fun s5 c S5 k₅ hd5 => ?_
 replace hd5 : s5.heap.get? dp = some (dictOf [Key w "_maxlen" a (.int M u1), Key w "_continuation_ws" b (.str (Str.ofString " ") u2), Key w "_continuation_ws_len" c (.int ((Str.ofString " ").length : Nat) (s3.toks + 1))] 3) := hd5
 have B5 := B4.step S5 k₅ ((fun ι h => .inl h)) Ld
 have hp5 := k₅.get B4.S hp₃ pd (by exact cn)
 refine ex_cons (plainObj_wpAny_Assign_Attribute (B5.loc rfl (B5.loc rfl ?_)))
 refine own_set B5.S bdp ldp (InstP hp5 hd5) (by k_is) (by k_is) (by k_is) (by k_is) rfl (fun t => Nat.le_of_ble_eq_true rfl) fun s6 e S6 k₆ hd₆ => ?_
 replace hd₆ : s6.heap.get? dp = some (dictOf [Key w "_maxlen" a (.int M u1), Key w "_continuation_ws" b (.str (Str.ofString " ") u2), Key w "_continuation_ws_len" c (.int ((Str.ofString " ").length : Nat) (s3.toks + 1)), Key w "_splitchars" e (.str (Str.ofString " ") u4)] 4) := hd₆
 have B6 := B5.step S6 k₆ ((fun ι h => .inl h)) Ld
 have hp₆ := k₆.get B5.S hp5 pd (by exact cn)
 refine ex_cons (plainObj_wpAny_Assign_Attribute (wpAny_List (spliced_nil ⟨by decide, ?_⟩)))
 have z7 := B6.S.push (o := { cls := .type "list", data := .seq ([] : List Value).toArray }) (t := s6.toks)
 have B7 := B6.step0 z7
 have hp7 := z7.2.get B6.S hp₆ List.not_mem_nil (by exact cn)
 have hd₇ := z7.2.get B6.S hd₆ List.not_mem_nil (by exact cn)
 have hl7 : (s6.heap.push { cls := .type "list", data := .seq ([] : List Value).toArray }).get? s6.heap.objs.size = some { cls := .type "list", data := .seq ([] : List Value).toArray } := Heap.get?_push_size _ rfl
 have nl6 : s6.heap.get? s6.heap.objs.size = none := get_size _
 have bl := B6.S.fresh
 have ll := B6.S.lt
 refine B7.loc rfl ?_
 refine own_set B7.S bdp ldp (InstP hp7 hd₇) (by k_is) (by k_is) (by k_is) (by k_is) rfl (fun t => Nat.le_of_ble_eq_true rfl) fun s8 f S8 k8 hd8 => ?_
 replace hd8 : s8.heap.get? dp = some (dictOf [Key w "_maxlen" a (.int M u1), Key w "_continuation_ws" b (.str (Str.ofString " ") u2), Key w "_continuation_ws_len" c (.int ((Str.ofString " ").length : Nat) (s3.toks + 1)), Key w "_splitchars" e (.str (Str.ofString " ") u4), Key w "_lines" f (.ref s6.heap.objs.size)] 5) := hd8
 have B8 := B7.step S8 k8 ((fun ι h => .inl h)) Ld
 have hp8 := k8.get B7.S hp7 pd (by exact cn)
 have hl8 := k8.get B7.S hl7 (by simp only [List.mem_singleton]; exact ne_of_cls hl7 hd₇ (by show Value.type "list" ≠ Value.type "dict"; decide)) (by exact cn)
 refine ex_cons (plainObj_wpAny_Assign_Attribute (wpAny_Call_NameR (B8.top (v := .ref 185) (by k_is) (callWith_K B8.ck (by k_is) (spliced_cons (B8.loc rfl (spliced_nil ⟨B8.ck, ?_⟩)))))))
 refine new_acc (rest := [.int 0 t0]) B8.S (Rm'.le (k := 7) (by decide)).deep (.inr rfl) fun s9 x d S9 k9 a9 nx nd => ?_
 have B9 := B8.step S9 k9 (List.forall_mem_nil _) List.not_mem_nil
 have hp9 := k9.get B8.S hp8 List.not_mem_nil (by exact cn)
 have hd9 := k9.get B8.S hd8 List.not_mem_nil (by exact cn)
 have hl9 := k9.get B8.S hl8 List.not_mem_nil (by exact cn)
 refine B9.loc rfl ?_
 refine own_set B9.S bdp ldp (InstP hp9 hd9) (by k_is) (by k_is) (by k_is) (by k_is) rfl (fun t => Nat.le_of_ble_eq_true rfl) fun s10 g S10 k10 hd10 => ?_
 have B10 := B9.step S10 k10 ((fun ι h => .inl h)) Ld
 have hp10 := k10.get B9.S hp9 pd (by exact cn)
 have hl10 := k10.get B9.S hl9 (by simp only [List.mem_singleton]; exact ne_of_cls hl9 hd9 (by show Value.type "list" ≠ Value.type "dict"; decide)) (by exact cn)
 have nd' : dp ≠ d := fun q => by rw [← q, hd8] at nd; cases nd
 have a10 := a9.by B9.S k10 (by
  intro u hu
  rw [List.mem_singleton.mp hu]
  refine ⟨fun q => ?_, nd', fun o ho => ?_⟩
  ·rw [← q, hd8] at nx; cases nx
  ·rw [hd9] at ho; cases ho; show Value.type "dict" ≠ Value.type "tuple"; decide)
 have back : ∀ {y : Addr}, s8.heap.get? y = none → y ≠ dp → @LT.lt Nat _ 154 y → s.heap.get? y = none := fun {y} h n l => by
  cases q : s.heap.get? y with
  | none => rfl
  | some o => rw [B8.K.heap y o (not_in n) (Nat.ne_of_gt (Nat.lt_trans (by decide) l)) (Nat.ne_of_gt l) q] at h; cases h
 refine wpAny_execs_nil ?_
 refine h₀ _ _ ?_
 refine hret _ s6.heap.objs.size x d S10 B10.K ⟨a10, bp, bdp, bl, lp, ldp, ll, nd', hp10, ⟨a, b, c, e, f, g, _, _, _, _, hd10⟩, ⟨[], 0, hl10, rfl⟩⟩ ?_ (back nx (fun q => by rw [q, hd8] at nx; exact no_some nx.symm) a9.lx) (back nd (Ne.symm nd') a9.ld)
 cases q : s.heap.get? s6.heap.objs.size with
 | none => rfl
 | some o => rw [B6.K.heap _ o (by simp only [List.mem_singleton]; exact fun r => by rw [← r, nl6] at hd₆; exact no_some hd₆) (Nat.ne_of_gt (Nat.lt_trans (by decide) ll)) (Nat.ne_of_gt ll) q] at nl6; cases nl6
theorem new_page {t0 u1 u2 u4 : Tok} {Q : VP} (S : Sit w mg mb b₀ s) (R : Rm A 10)
  (hret : ∀ s' p dp ln x d, Sit w mg mb b₀ s' → Kp [] s s' → PageOn w b₀ s'.heap p dp ln x d M [] [] → (∀ u ∈ [p, dp, ln, x, d], s.heap.get? u = none) → Q (.ref p) s') : wpAny (model PW w) A (call (.ref 101) [.int 0 t0, .int M u1, .str (Str.ofString " ") u2, .str (Str.ofString " ") u4]) Q E s := by
 have X := S.C.K.keeps S.k
 have hi : findIn (hd.heap_1 w.params) (.ref 101) "__init__" = some (some (.ref 42)) := by k_is
 have hf : typeIn (hd.heap_1 w.params) (.ref 42) = some (.type "function") := by k_is
 have hm : makesIn (hd.heap_1 w.params) 101 = true := by k_is
 have z₁ := S.push (o := emptyDict) (t := s.toks)
 have z₂ := z₁.1.push (o := instObj 101 s.heap.objs.size) (t := s.toks)
 obtain ⟨hh, g, dd, t, os⟩ := s
 refine wpAny_call (make_core (makes_of X hm) (looks_findIn X hi) (fun self => bind_fn X self hf) (.inl rfl) ?_)
 refine init_p (p := hh.objs.size + 1) (dp := hh.objs.size) z₂.1 ?_ S.fresh ?_ S.lt ?_ (Heap.get?_push_of_some _ (Heap.get?_push_at rfl rfl)) (R.le (k := 9) (by decide)).cls fun s' ln x d S' k' P' n1 n2 n3 => ?_
 ·have := z₁.1.fresh
  rwa [show ({ heap := hh.push emptyDict, gens := g, drawn := dd, toks := t, os := os } : Shared).heap.objs.size = hh.objs.size + 1 from Heap.size_push ..] at this
 ·exact Nat.lt_succ_of_lt S.lt
 ·exact Heap.get?_push_at (Heap.size_push ..).symm rfl
 ·have old : ∀ {y : Addr}, ((hh.push emptyDict).push (instObj 101 hh.objs.size)).get? y = none → hh.get? y = none := fun {y} e => by
   cases q : hh.get? y with
   | none => rfl
   | some o => rw [Heap.get?_push_of_some _ (Heap.get?_push_of_some _ q)] at e; cases e
  refine ⟨rfl, hret s' _ _ ln x d S' ((z₁.2.trans (z₂.2.trans k' (W := [hh.objs.size]) (List.forall_mem_nil _) (fun x hx => .inl hx)) (W := []) (List.forall_mem_nil _) fun x hx => .inr ?_)) P' ?_⟩
  ·rw [List.mem_singleton.mp hx]; exact get_size _
  ·intro u hu
   simp only [List.mem_cons, List.not_mem_nil, or_false] at hu
   rcases hu with rfl | rfl | rfl | rfl | rfl
   ·exact out_of (Nat.le_succ _)
   ·exact get_size _
   ·exact old n1
   ·exact old n2
   ·exact old n3
end
end Mine
namespace Mine
section
variable {w : World} {mg mb : NM} {b₀ : Heap} {s₀ s s' : Shared} {A : Around} {E : VP} {p dp ln x d L : Addr} {lines : List Str} {xs xs' : List (Str × Str)} {M : Int} {U : List Addr} {m : NM} {z : Int}
theorem AccOn.kp' (a : AccOn w b₀ s.heap x d xs z) (S : Sit w mg mb b₀ s) (k : Kp U s s') (hU : ∀ u ∈ U, u ≠ x ∧ u ≠ d ∧ ∀ its, ¬ s.heap.IsTuple u its) : AccOn w b₀ s'.heap x d xs z := by
 obtain ⟨bx, bd, ne, lx, ld, ts, ps, kk, t0, t1, hx, hd', hl, hp, ht⟩ := a
 refine ⟨bx, bd, ne, lx, ld, ts, ps, kk, t0, t1, k.get S hx (fun q => (hU _ q).1 rfl) (by exact cn), k.get S hd' (fun q => (hU _ q).2.1 rfl) (by exact cn), hl, hp, fun j T a b e1 e2 => ?_⟩
 obtain ⟨o, ho, hc, r⟩ := ht j T a b e1 e2
 exact ⟨o, k.get S ho (fun q => (hU _ q).2.2 _ ⟨o, ho, hc, r⟩) (by rw [hc]; exact cn), hc, r⟩
theorem ns_tup {h : Heap} {its : Array Value} (n : h.Ns L m) : ¬ h.IsTuple L its := fun ⟨o, ho, hc, n', hd'⟩ => by
 obtain ⟨o', es, ep, e, e2, _⟩ := n
 rw [ho] at e; cases e; rw [hd'] at e2; cases e2
theorem cls_tup {h : Heap} {a : Addr} {o : Obj} {its : Array Value} (e : h.get? a = some o) (hc : o.cls ≠ .type "tuple") : ¬ h.IsTuple a its := fun ⟨o', ho, hc', _⟩ => by
 rw [e] at ho; cases ho; exact hc hc'
theorem PairsOn.kp' {l : Addr} (p : PairsOn s.heap l xs) (S : Sit w mg mb b₀ s) (k : Kp U s s') (hU : ∀ u ∈ U, u ≠ l ∧ ∀ its, ¬ s.heap.IsTuple u its) : PairsOn s'.heap l xs := by
 obtain ⟨ts, ps, ⟨o, ho, hc, r⟩, hl, hp, ht⟩ := p
 refine ⟨ts, ps, ⟨o, k.get S ho (fun q => (hU _ q).1 rfl) (by rw [hc]; exact cn), hc, r⟩, hl, hp, fun j T a b e1 e2 => ?_⟩
 obtain ⟨o, ho, hc, r⟩ := ht j T a b e1 e2
 exact ⟨o, k.get S ho (fun q => (hU _ q).2 _ ⟨o, ho, hc, r⟩) (by rw [hc]; exact cn), hc, r⟩
theorem PairsOn.on0 {l : Addr} {h h' : Heap} (p : PairsOn h l xs) (S : Sit w mg mb b₀ s) (k : Kp [] s s') (e : autoParam (h = s.heap) tR) (e' : autoParam (h' = s'.heap) tR) : PairsOn h' l xs := by
 subst e e'
 exact p.kp' S k (List.forall_mem_nil _)
theorem AccOn.loc (a : AccOn w b₀ s.heap x d xs z) (S : Sit w mg mb b₀ s) (k : Kp [L] s s') (n : s.heap.Ns L m) (hd' : d ≠ L) : AccOn w b₀ s'.heap x d xs z := by
 refine a.kp' S k fun u hu => ?_
 rw [List.mem_singleton.mp hu]
 refine ⟨fun q => ?_, Ne.symm hd', fun its => ns_tup n⟩
 obtain ⟨its, kk, t0, t1, I⟩ := a.inst
 obtain ⟨o', es, ep, e, e2, _⟩ := n
 rw [q, I.at_] at e; cases e; cases e2
theorem PageOn.kp (P : PageOn w b₀ s.heap p dp ln x d M lines xs) (S : Sit w mg mb b₀ s) (k : Kp U s s') (hU : ∀ u ∈ U, u ≠ x ∧ u ≠ d ∧ u ≠ p ∧ u ≠ dp ∧ u ≠ ln ∧ ∀ its, ¬ s.heap.IsTuple u its) : PageOn w b₀ s'.heap p dp ln x d M lines xs := by
 obtain ⟨acc, bp, bdp, bln, lp, ldp, lln, ned, hp, ⟨a, b, c, e, f, g, u1, u2, u3, u4, hdp⟩, l, kk, hln, hl⟩ := P
 exact ⟨acc.kp' S k fun u hu => ⟨(hU u hu).1, (hU u hu).2.1, (hU u hu).2.2.2.2.2⟩, bp, bdp, bln, lp, ldp, lln, ned, k.get S hp (fun q => (hU _ q).2.2.1 rfl) (by exact cn),
  ⟨a, b, c, e, f, g, u1, u2, u3, u4, k.get S hdp (fun q => (hU _ q).2.2.2.1 rfl) (by exact cn)⟩, l, kk, k.get S hln (fun q => (hU _ q).2.2.2.2.1 rfl) (by exact cn), hl⟩
theorem PageOn.on0 {h h' : Heap} (P : PageOn w b₀ h p dp ln x d M lines xs) (S : Sit w mg mb b₀ s) (k : Kp [] s s') (e : autoParam (h = s.heap) tR) (e' : autoParam (h' = s'.heap) tR) : PageOn w b₀ h' p dp ln x d M lines xs := by
 subst e e'
 exact P.kp S k (List.forall_mem_nil _)
theorem PageOn.loc (P : PageOn w b₀ s.heap p dp ln x d M lines xs) (S : Sit w mg mb b₀ s) (k : Kp [L] s s') (n : s.heap.Ns L m) (h1 : dp ≠ L) (hd' : d ≠ L) : PageOn w b₀ s'.heap p dp ln x d M lines xs := by
 refine P.kp S k fun u hu => ?_
 rw [List.mem_singleton.mp hu]
 have n' := n
 obtain ⟨o', es, ep, e, e2, _⟩ := n
 refine ⟨fun q => ?_, Ne.symm hd', fun q => ?_, Ne.symm h1, fun q => ?_, fun its => ns_tup n'⟩
 ·obtain ⟨its, kk, t0, t1, I⟩ := P.acc.inst
  rw [q, I.at_] at e; cases e; cases e2
 ·rw [q, P.hp] at e; cases e; cases e2
 ·obtain ⟨l, kk, hln, _⟩ := P.hln
  rw [q, hln] at e; cases e; cases e2
theorem PageOn.apart {h : Heap} (P : PageOn w b₀ h p dp ln x d M lines xs) : p ≠ x ∧ p ≠ d ∧ ln ≠ x ∧ ln ≠ d ∧ dp ≠ x ∧ dp ≠ d ∧ p ≠ ln ∧ dp ≠ ln := by
 obtain ⟨acc, bp, bdp, bln, lp, ldp, lln, ned, hp, ⟨a, b, c, e, f, g, u1, u2, u3, u4, hdp⟩, l, kk, hln, hl⟩ := P
 obtain ⟨bx, bd, ne, lx, ld, ts, ps, k, t0, t1, hx, hd', _⟩ := acc
 refine ⟨ne_of_cls hp hx (by show Value.ref 101 ≠ Value.ref 185; decide), ne_of_cls hp hd' (by show Value.ref 101 ≠ Value.type "dict"; simp), ne_of_cls hln hx (by show Value.type "list" ≠ Value.ref 185; simp), ne_of_cls hln hd' (by show Value.type "list" ≠ Value.type "dict"; decide),
  ne_of_cls hdp hx (by show Value.type "dict" ≠ Value.ref 185; simp), ned, ne_of_cls hp hln (by show Value.ref 101 ≠ Value.type "list"; simp), ne_of_cls hdp hln (by show Value.type "dict" ≠ Value.type "list"; decide)⟩
theorem PageOn.turn (P : PageOn w b₀ s.heap p dp ln x d M lines xs) (S : Sit w mg mb b₀ s) (k : Kp [x, d] s s') (a' : AccOn w b₀ s'.heap x d xs' 0) : PageOn w b₀ s'.heap p dp ln x d M lines xs' := by
 obtain ⟨n1, n2, n3, n4, n5, n6, n7, n8⟩ := P.apart
 obtain ⟨acc, bp, bdp, bln, lp, ldp, lln, ned, hp, ⟨a, b, c, e, f, g, u1, u2, u3, u4, hdp⟩, l, kk, hln, hl⟩ := P
 exact ⟨a', bp, bdp, bln, lp, ldp, lln, ned, k.get S hp (by simp [n1, n2]) (by exact cn),
  ⟨a, b, c, e, f, g, u1, u2, u3, u4, k.get S hdp (by simp [n5, n6]) (by exact cn)⟩, l, kk, k.get S hln (by simp [n3, n4]) (by exact cn), hl⟩
theorem PageOn.turn1 (P : PageOn w b₀ s.heap p dp ln x d M lines xs) (S : Sit w mg mb b₀ s) (k : Kp [x] s s') (a' : AccOn w b₀ s'.heap x d xs' 0) : PageOn w b₀ s'.heap p dp ln x d M lines xs' := P.turn S (k.wide (by simp)) a'
theorem PageOn.line {l' : List (Str × Tok)} {k' : Nat} {y : Str} (P : PageOn w b₀ s.heap p dp ln x d M lines xs) (S : Sit w mg mb b₀ s) (k : Kp [ln] s s') (hl' : s'.heap.get? ln = some { cls := .type "list", data := .seq (strValues l').toArray k' }) (e' : l'.map (·.1) = lines ++ [y]) : PageOn w b₀ s'.heap p dp ln x d M (lines ++ [y]) xs := by
 obtain ⟨n1, n2, n3, n4, n5, n6, n7, n8⟩ := P.apart
 obtain ⟨acc, bp, bdp, bln, lp, ldp, lln, ned, hp, ⟨a, b, c, e, f, g, u1, u2, u3, u4, hdp⟩, l, kk, hln, hl⟩ := P
 refine ⟨acc.kp' S k fun u hu => ?_, bp, bdp, bln, lp, ldp, lln, ned, k.get S hp (by simp [n7]) (by exact cn),
  ⟨a, b, c, e, f, g, u1, u2, u3, u4, k.get S hdp (by simp [n8]) (by exact cn)⟩, l', k', hl', e'⟩
 rw [List.mem_singleton.mp hu]
 exact ⟨n3, n4, fun its => cls_tup hln (by show Value.type "list" ≠ Value.type "tuple"; decide)⟩
theorem PageOn.inst {h : Heap} (P : PageOn w b₀ h p dp ln x d M lines xs) : ∃ a b c e f g u1 u2 u3 u4, InstAt h p (instObj 101 dp) 101 (some (pgD w a b c e f g u1 u2 u3 u4 M ln x)) := by
 obtain ⟨a, b, c, e, f, g, u1, u2, u3, u4, hdp⟩ := P.hdp
 exact ⟨a, b, c, e, f, g, u1, u2, u3, u4, P.hp, rfl, rfl, hdp⟩
theorem PageOn.neL {s₁ : Shared} (P : PageOn w b₀ s.heap p dp ln x d M lines xs) (B : Body w mg mb b₀ s U L m s₁) : x ≠ L ∧ d ≠ L ∧ dp ≠ L ∧ ln ≠ L := by
 obtain ⟨its, k, t0, t1, I⟩ := P.acc.inst
 obtain ⟨a, b, c, e, f, g, u1, u2, u3, u4, hdp⟩ := P.hdp
 obtain ⟨l, k', hln, _⟩ := P.hln
 exact ⟨B.ne_old I.at_, B.ne_old (o := accD w t0 0 t1) I.dict, B.ne_old hdp, B.ne_old hln⟩
theorem pg_m {name : Str} {f' : Addr} {pl : Sem Bool} {Q : Value × List Value → Shared → Prop} (S : Sit w mg mb b₀ s) (P : PageOn w b₀ s.heap p dp ln x d M lines xs) (hf : findIn (hd.heap_1 w.params) (.ref 101) name = some (some (.ref f'))) (ht : typeIn (hd.heap_1 w.params) (.ref f') = some (.type "function"))
  (hs : ∀ a b c e f g u1 u2 u3 u4, shadowIn (some (pgD w a b c e f g u1 u2 u3 u4 M ln x)) name = some false) (h : Q (.ref f', [.ref p]) s) : wpAny (model PW w) A (getMethod (.ref p) name pl) Q E s := by
 obtain ⟨a, b, c, e, f, g, u1, u2, u3, u4, I⟩ := P.inst
 exact method_own (ga := "object.__getattribute__") (S.C.K.keeps S.k) I (by k_is) (by decide +kernel) (by k_is) hf ht (hs ..) h
theorem pg_cur {Q : VP} {expr : Bool} (S : Sit w mg mb b₀ s) (P : PageOn w b₀ s.heap p dp ln x d M lines xs) (h : Q (.ref x) { s with toks := s.toks + 1 }) : wpAny (model PW w) A (getAttr (.ref p) "_current_line" expr) Q E s := by
 obtain ⟨a, b, c, e, f, g, u1, u2, u3, u4, I⟩ := P.inst
 exact own_get S I (by k_is) (by k_is) (by k_is) (by k_is) rfl rfl h
theorem pg_lines {Q : VP} {expr : Bool} (S : Sit w mg mb b₀ s) (P : PageOn w b₀ s.heap p dp ln x d M lines xs) (h : Q (.ref ln) { s with toks := s.toks + 1 }) : wpAny (model PW w) A (getAttr (.ref p) "_lines" expr) Q E s := by
 obtain ⟨a, b, c, e, f, g, u1, u2, u3, u4, I⟩ := P.inst
 exact own_get S I (by k_is) (by k_is) (by k_is) (by k_is) rfl rfl h
theorem pg_max {Q : VP} {expr : Bool} (S : Sit w mg mb b₀ s) (P : PageOn w b₀ s.heap p dp ln x d M lines xs) (h : ∀ t, Q (.int M t) { s with toks := s.toks + 1 }) : wpAny (model PW w) A (getAttr (.ref p) "_maxlen" expr) Q E s := by
 obtain ⟨a, b, c, e, f, g, u1, u2, u3, u4, I⟩ := P.inst
 exact own_get S I (by k_is) (by k_is) (by k_is) (by k_is) rfl rfl (h _)
theorem pg_split {Q : VP} {expr : Bool} (S : Sit w mg mb b₀ s) (P : PageOn w b₀ s.heap p dp ln x d M lines xs) (h : ∀ t, Q (.str (Str.ofString " ") t) { s with toks := s.toks + 1 }) : wpAny (model PW w) A (getAttr (.ref p) "_splitchars" expr) Q E s := by
 obtain ⟨a, b, c, e, f, g, u1, u2, u3, u4, I⟩ := P.inst
 exact own_get S I (by k_is) (by k_is) (by k_is) (by k_is) rfl rfl (h _)
end
end Mine
namespace Mine
section
variable {w : World} {mg mb : NM} {b₀ : Heap} {s₀ s s' : Shared} {A : Around} {E : VP} {p dp ln x d L : Addr} {lines : List Str} {xs xs' : List (Str × Str)} {M : Int} {U : List Addr} {m : NM} {z : Int} {env : Env}
theorem notedOf {N : VP} {α : Type} {t : Sem α} {Q : α → Shared → Prop} {MM : Model} (h : wpAny MM A t Q (fun ι ι => False) s) : wpAny MM A t Q N s := wpAny_mono h (fun ι ι z => z) fun ι ι z => z.elim
theorem for_brk {target iter : Expr} {body orelse : List Stmt} {pos : Pos} {Q : Flow → Shared → Prop}
  (h : wpAny (model PW w) A (eval iter env) (fun xv s₁ => wpAny (model PW w) A (pyIter xv) (fun it s₂ => wpAny (model PW w) A (pyNext it) (fun r s3 => ∃ v, r = some v ∧ wpAny (model PW w) A (assign target env v) (fun ι s4 =>
   wpAny (model PW w) A (execs body env) (fun f s5 => f = .brk ∧ Q .next s5) (fun ι ι => False) s4) (fun ι ι => False) s3) (fun ι ι => False) s₂) (fun ι ι => False) s₁) (fun ι ι => False) s)
  (hs : autoParam (∀ x, foldedSetIterable iter env x = pure x) tI) (ht : autoParam (∀ it v, letOwnedTupleGo target it v = pure ()) tI) :
  wpAny (model PW w) A (exec (.For target iter body orelse pos) env) Q E s := by
 refine wpAny_For (wpAny_mono h (fun xv s₁ h₁ => wpAny_mono h₁ (fun it s₂ h₂ => ?_) fun ι ι z => z.elim) fun ι ι z => z.elim) hs
 refine codeAny_forLoop (fun n s => n = 1 ∧ s = s₂) ?_ 1 ⟨rfl, rfl⟩ (ht it)
 rintro n s ⟨rfl, rfl⟩
 refine notedOf (wpAny_mono h₂ (fun r s3 h₃ => ?_) fun ι ι z => z)
 obtain ⟨v, rfl, h₄⟩ := h₃
 refine notedOf (wpAny_mono h₄ (fun ι s4 h₅ => notedOf (wpAny_mono h₅ (fun f s5 h₆ => ?_) fun ι ι z => z)) fun ι ι z => z)
 obtain ⟨rfl, hq⟩ := h₆
 exact hq
theorem lst_append {l : Addr} {its : Array Value} {k : Nat} {v : Value} {Q : VP} (S : Sit w mg mb b₀ s) (bl : b₀.get? l = none) (ll : @LT.lt Nat _ 154 l) (hl : s.heap.get? l = some { cls := .type "list", data := .seq its k }) (hz : its.size ≤ 100000)
  (h : ∀ s', Sit w mg mb b₀ s' → Kp [l] s s' → s'.heap.get? l = some { cls := .type "list", data := .seq (its.push v) (k + 1) } → Q .none s') : wpAny (model PW w) A (call (.builtin "list.append") [.ref l, v]) Q E s := by
 refine wpAny_call_entry slot_list_append (⟨_, hl, rfl⟩ : s.TypeIs (.ref l) "list") entry_list_append ?_ (args_list_append _ _)
 show wpAny _ _ (updateSeq l (·.push v) >>= fun ι => ret .none) _ _ s
 have z := S.upd (x := l) (f := Obj.mapSeq (·.push v)) s.toks bl ll
 have hn := Heap.get?_update_self (Obj.mapSeq (·.push v)) hl (by rfl)
 rw [mapSeq_push] at hn
 exact wpAny_bind (wpAny_updateSeq hl rfl (wpAny_pure ⟨.none, rfl, h _ z.1 z.2 hn⟩) (hz := by rw [sizeLine_eq]; lia))
theorem Sit.same {it : Addr} {h' : Heap} (t : Nat) (S : Sit w mg mb b₀ s) (hs : Heap.SameBut it s.heap h') (bi : b₀.get? it = none) (li : @LT.lt Nat _ 154 it) : Sit w mg mb b₀ { s with heap := h', toks := t } ∧ Kp [it] s { s with heap := h', toks := t } :=
 S.by (al1 bi) (by simp only [List.mem_singleton]; exact Nat.ne_of_lt (Nat.lt_trans (by decide) li)) (by simp only [List.mem_singleton]; exact Nat.ne_of_lt li) (fun b o hb e => (hs.2 b (by simpa using hb)).trans e) rfl rfl
theorem str_first {y : Str} {t : Tok} {c : Nat} {Q : Option Value → Shared → Prop} (S : Sit w mg mb b₀ s) (ha : y.cps.all (· < 128) = true) (hy : y.cps[0]? = some c) (h : ∀ s' u, Sit w mg mb b₀ s' → Kp [] s s' → Q (some (.str ⟨#[c]⟩ u)) s') :
  wpAny (model PW w) A (pyIter (.str y t)) (fun it s₂ => wpAny (model PW w) A (pyNext it) Q E s₂) E s := by
 refine wpAny_pyIter_ascii ha ?_
 have z := S.push (o := { cls := .type "str_ascii_iterator", data := .fields #[.str y t, .int 0 0] }) (t := s.toks)
 refine wpAny_pyNext_ascii_item (x := y) (t := t) (i := 0) ⟨_, Heap.get?_push_size _ rfl, rfl, rfl⟩ hy fun h' ι hs => ?_
 have z2 := z.1.same (s.toks + 1) hs S.fresh S.lt
 exact h _ _ z2.1 (z.2.trans z2.2 (by simp) fun v hv => .inr (by rw [List.mem_singleton.mp hv]; exact get_size _))
theorem range_first {r : Addr} {a b c : Int} {t u v : Tok} {Q : Option Value → Shared → Prop} (S : Sit w mg mb b₀ s) (hr : IsRange s.heap r a b c t u v) (hsm : Builtin.Range.small a b c = true) (hpos : 0 < Builtin.Range.rangeSize a b c) (h : ∀ s' k, Sit w mg mb b₀ s' → Kp [] s s' → Q (some (.int a k)) s') :
  wpAny (model PW w) A (pyIter (.ref r)) (fun it s₂ => wpAny (model PW w) A (pyNext it) Q E s₂) E s := by
 refine wpAny_pyIter_range hr hsm ?_
 have z := S.push (o := { cls := .type "range_iterator", data := .fields #[rawInt a, rawInt (Builtin.Range.rangeSize a b c), rawInt c] }) (t := s.toks)
 refine wpAny_pyNext_range_item (x := a) (left := Builtin.Range.rangeSize a b c) (step := c) (Heap.get?_push_size _ rfl) hpos fun h' ι hs => ?_
 have z2 := z.1.same (s.toks + 1) hs S.fresh S.lt
 exact h _ _ z2.1 (z.2.trans z2.2 (by simp) fun v hv => .inr (by rw [List.mem_singleton.mp hv]; exact get_size _))
theorem range_small (n : Nat) (hn : n ≤ 100000) : Builtin.Range.small n 0 (-1) = true := by
 exact small_down (Int.le_trans (by decide) (Int.natCast_nonneg n)) (Int.lt_of_le_of_lt (Int.ofNat_le.mpr hn) (by decide)) (by decide) (by decide)
theorem Sub_tup {value slice : Expr} {pos : Pos} {Q : VP} (hw : ∀ o i, ∃ vs, subscripted slice false o i = operate vs (getItem o i))
  (h : wpAny (model PW w) A (eval value env) (fun o s₁ => wpAny (model PW w) A (eval slice env) (fun i s₂ => (∃ T its, o = .ref T ∧ s₂.heap.IsTuple T its) ∧ wpAny (model PW w) A (getItem o i) Q E s₂) E s₁) E s) :
  wpAny (model PW w) A (eval (.Subscript value slice pos) env) Q E s := by
 rw [eval_Subscript]
 refine wpAny_bind (wpAny_mono h (fun o s₁ h₁ => wpAny_bind (wpAny_holding (wpAny_mono h₁ (fun i s₂ h₂ => wpAny_bind (wpAny_standAt ?_)) fun ι ι x => x))) fun ι ι x => x)
 obtain ⟨⟨T, its, rfl, hT⟩, hg⟩ := h₂
 obtain ⟨vs, hv⟩ := hw (.ref T) i
 have hTT : s₂.TypeIs (.ref T) "tuple" := by obtain ⟨o, ho, hc, _⟩ := hT; exact ⟨o, ho, hc⟩
 refine wpAny_bind ?_
 rw [getitemInPython_of_ne (by simp)]
 refine wpAny_bind (wpAny_specialOf hTT slot_tuple_getitem.lookup ?_)
 refine wpAny_pure ?_
 rw [hv]
 exact wpAny_bind (wpAny_operating (wpAny_mono hg (fun r s3 h₃ => wpAny_bind (wpAny_letTemporaryGo (wpAny_pure h₃))) fun ι ι x => x))
theorem chunk_k {y : Str} {t1 t2 : Tok} {Q : VP} (S : Sit w mg mb b₀ s) (P : PageOn w b₀ s.heap p dp ln x d M lines xs) (R : Rm A 16) (hz : Small (xs ++ [(Str.ofString " ", y)])) (hx : xs.length ≤ 300) (hlz : lines.length ≤ 1000)
  (hret : ∀ s' lines' xs', Sit w mg mb b₀ s' → Kp [x, d, ln] s s' → PageOn w b₀ s'.heap p dp ln x d M lines' xs' → (((lenOf (xs ++ [(Str.ofString " ", y)]) : Int) ≤ M ∧ lines' = lines ∧ xs' = xs ++ [(Str.ofString " ", y)]) ∨ (¬ (lenOf (xs ++ [(Str.ofString " ", y)]) : Int) ≤ M ∧ lines' = lines ++ [textOf xs] ∧ xs' = [(Str.ofString " ", y)])) → Q .none s')
  (hpos : ¬ (lenOf (xs ++ [(Str.ofString " ", y)]) : Int) ≤ M → 1 ≤ xs.length) : wpAny (model PW w) A (call (.ref 98) [.ref p, .str (Str.ofString " ") t1, .str y t2]) Q E s := by
 refine wpAny_call ?_
 refine enter_b [] (binds := [("self", .ref p), ("fws", .str (Str.ofString " ") t1), ("string", .str y t2)]) S (R.dl (k := 0) (by decide)) (by k_is) (by k_is) (BindsTo.of_eq rfl) (locs rfl) ?_
 intro L s₁ B1 k₁
 refine cutQ fun Q0 h₀ => ?_
 have P1 := P.on0 S k₁
 have nxL : x ≠ L := (P.neL B1).1
 have ndL : d ≠ L := (P.neL B1).2.1
 have ndpL : dp ≠ L := (P.neL B1).2.2.1
 have nlnL : ln ≠ L := (P.neL B1).2.2.2
 refine ex_cons (wpAny_Expr_any (MethodCall_ (Attribute_name (B1.loc rfl (pg_cur B1.S P1 ?_)))))
 have B2 := B1.tok (s₁.toks + 1)
 refine acc_m B2.S P1.acc (f := 129) (by k_is) (by k_is) (fun ι ι => rfl) ?_
 refine callWith_K B2.ck (by k_is) (spliced_cons (B2.loc rfl (spliced_cons (B2.loc rfl (spliced_nil ⟨B2.ck, ?_⟩)))))
 refine push_k (s := { s₁ with toks := s₁.toks + 1 }) B2.S P1.acc (R.le (k := 5) (by decide)).deep (by lia) fun s3 S3 k₃ a₃ => ?_
 have P3 := PageOn.turn1 (s := { s₁ with toks := s₁.toks + 1 }) P1 B2.S k₃ a₃
 have B3 := (B2.wide [x, d, ln] (by simp)).step S3 k₃ (by simp) (not_in (Ne.symm nxL))
 refine ex_cons (ex_If (wpAny_isTrue_Compare1 (wpAny_Call_NameR (B3.bi (v := .builtin "len") (by k_is) (by decide +kernel) (callWith_builtin rfl (evalArgs_plain (spliced_cons (Attribute_name (B3.loc rfl (pg_cur B3.S P3 (spliced_nil ?_)))))))))))
 have B4 := B3.tok (s3.toks + 1)
 refine acc_len (s := { s3 with toks := s3.toks + 1 }) B4.S P3.acc (R.le (k := 7) (by decide)).deep hz fun s5 tl S5 k₅ a₅ => ?_
 have P5 := PageOn.on0 (s := { s3 with toks := s3.toks + 1 }) P3 B4.S k₅
 have B5 := B4.step0 ⟨S5, k₅⟩
 refine Attribute_name (B5.loc rfl (pg_max B5.S P5 fun tm => ?_))
 have B6 := B5.tok (s5.toks + 1)
 iterate 2 walk1
 by_cases hM : (lenOf (xs ++ [(Str.ofString " ", y)]) : Int) ≤ M
 ·refine ite_f (by simpa using hM) ?_
  exact wpAny_execs_nil (wpAny_execs_nil (h₀ _ _ (hret _ _ _ B6.S B6.K P5 (.inl ⟨hM, rfl, rfl⟩))))
 ·refine ite_t (by simpa using hM) ?_
  have hn := hpos hM
  refine ex_cons (for_brk (Attribute_name (B6.loc rfl (pg_split B6.S P5 fun tc => ?_))))
  have B7 := B6.tok (s5.toks + 1 + 1)
  refine str_first (c := 32) B7.S (by decide +kernel) (by decide +kernel) fun s8 tch S8 k8 => ⟨_, rfl, ?_⟩
  have P8 := PageOn.on0 P5 B7.S k8
  have B8 := B7.step0 ⟨S8, k8⟩
  refine cutQ fun Q₁ h₁ => ?_
  refine wpAny_assign_Name (B8.st fun s9 B9 k9 => h₁ _ _ ?_)
  refine cutQ fun Q2 h₂ => ?_
  have P9 := P8.loc S8 k9 B8.ns ndpL ndL
  refine ex_cons (for_brk (wpAny_Call_NameR (B9.bi (v := .type "range") (by k_is) (by decide +kernel) (PyProof.Rows.callWith_type1 ?_))))
  refine cutW fun Q9 E9 h₉ => ?_
  refine spliced_cons (wpAny_BinOp (MethodCall_ (Attribute_name (B9.loc rfl (pg_cur B9.S P9 ?_)))))
  have B10 := B9.tok (s9.toks + 1)
  refine acc_m B10.S P9.acc (f := 182) (by k_is) (by k_is) (fun ι ι => rfl) ?_
  refine callWith_K0 B10.ck (by k_is) ?_
  refine part_k (s := { s9 with toks := s9.toks + 1 }) B10.S P9.acc (R.le (k := 6) (by decide)).deep (by simp; lia) fun s11 tl2 S₁₁ k11 a11 => ?_
  have P11 := PageOn.on0 (s := { s9 with toks := s9.toks + 1 }) P9 B10.S k11
  have B11 := B10.step0 ⟨S₁₁, k11⟩
  iterate 8 walk1
  have eN : (((xs ++ [(Str.ofString " ", y)]).length : Nat) : Int) - 1 = ((xs.length : Nat) : Int) := by simp
  have B12 := B11.tok (s11.toks + 1 + 1 + 1 + 1 + 1)
  refine spliced_nil ?_
  rw [eN]
  refine h₉ _ _ (call_range_3 (by decide) ?_ (.inl (PyProof.noPylong_small (by lia))))
  have z13 := B12.S.push (o := { cls := .type "range", data := .fields #[.int (xs.length : Int) (s11.toks + 1), .int 0 (s11.toks + 1 + 1), .int (-1) (s11.toks + 1 + 1 + 1 + 1)] }) (t := s11.toks + 1 + 1 + 1 + 1 + 1)
  have B13 := B12.step0 z13
  refine range_first (t := s11.toks + 1) (u := s11.toks + 1 + 1) (v := s11.toks + 1 + 1 + 1 + 1) B13.S (Heap.get?_push_size _ rfl) (range_small _ (by lia)) (by unfold Builtin.Range.rangeSize; simp; lia) fun s14 ti S14 k14 => ⟨_, rfl, ?_⟩
  have B14 := B13.step0 ⟨S14, k14⟩
  have P14 := PageOn.on0 (PageOn.on0 P11 B12.S z13.2) B13.S k14
  refine cutQ fun Q3 h₃ => ?_
  refine wpAny_assign_Name (B14.st fun s15 B15 k15 => h₃ _ _ ?_)
  refine cutQ fun Q4 h₄ => ?_
  have P15 := P14.loc S14 k15 B14.ns ndpL ndL
  have ech : (⟨#[32]⟩ : Str) = Str.ofString " " := by decide +kernel
  refine ex_cons (ex_If (isTrue_plain (MethodCall_ (B15.loc rfl (PySem.GM.isspace (callWith_builtin rfl (evalArgs_nil3 (PySem.SC.isspace ?_))))))))
  rw [show Txt.isspace (⟨#[32]⟩ : Str) = true from by decide +kernel]
  walk1
  refine ite_t rfl ?_
  refine ex_cons (wpAny_Assign_Name (Sub_tup (fun o i => ⟨_, rfl⟩) (Sub_acc (fun o i => ⟨_, rfl⟩) (Attribute_name (B15.loc rfl (pg_cur B15.S P15 ?_))))))
  have B16 := B15.tok (s15.toks + 1)
  refine B16.loc rfl ?_
  have a16 := P15.acc
  obtain ⟨bx, bd, ne, lx, ld, ts, ps, kk, t0, t1', hx6, hd6, hl6, hp6, ht6⟩ := a16
  have hps : ps.length = xs.length + 1 := by have := hp6.1; simpa using this
  have hlt : xs.length < ts.length := by lia
  obtain ⟨⟨va, vb⟩, hpe⟩ : ∃ q, ps[xs.length]? = some q := ⟨_, List.getElem?_eq_getElem (by lia)⟩
  obtain ⟨⟨ta, rfl⟩, tb, rfl⟩ := hp6.2 xs.length va vb (Str.ofString " ", y) hpe (by simp)
  obtain ⟨T, hte⟩ : ∃ T, ts[xs.length]? = some T := ⟨_, List.getElem?_eq_getElem hlt⟩
  have hT := ht6 xs.length _ _ _ hte hpe
  refine ⟨⟨x, d, _, kk, 0, t0, t1', rfl, B16.ck, InstA hx6 hd6⟩, acc_getItem B16.ck (InstA hx6 hd6) (by k_is) (by k_is) (by k_is) ?_⟩
  have hget : (ts.map Value.ref).toArray[((xs.length : Nat) : Int).toNat]? = some (.ref T) := by simp [hte]
  have hfit : ((xs.length : Nat) : Int) < 2 ^ 63 := by lia
  have hnn : (0 : Int) ≤ ((xs.length : Nat) : Int) := Int.natCast_nonneg _
  generalize ((xs.length : Nat) : Int) = zi at hget hfit hnn ⊢
  refine item_int hx6 hnn hfit hget ⟨_, rfl, ?_⟩
  refine wpAny_Constant_int ⟨⟨_, _, rfl, hT⟩, PyProof.Rows.getItem_tuple (j := 0) (x := .str (Str.ofString " ") ta) hT (by decide) (by decide) (show seqIndex? 0 2 = some 0 from by decide) rfl ?_⟩
  have B17 := B15.tok (s15.toks + 1 + 1)
  refine B17.st fun s18 B18 k18 => ?_
  have P18 := PageOn.loc (s := { s15 with toks := s15.toks + 1 + 1 }) P15 B17.S k18 B17.ns ndpL ndL
  refine ex_cons (ex_If (isTrue_and (isTrue_plain (B18.loc rfl ?_))))
  refine PyProof.Rows.SBL.truthy (by decide +kernel) ?_
  have B19 := B18.tok (s18.toks + 1 + 1)
  refine ite_t (by decide +kernel) ?_
  refine isTrue_and (wpAny_isTrue_Compare1 (Subscript_Constant (B19.loc rfl (wpAny_Constant_int ⟨"str", _, PySem.F.slot_str_getitem.lookup, typeIs_str _ _ _, PySem.P.getItem_str (c := 32) (by decide) (by decide +kernel) ?_⟩))))
  have B20 := B18.tok (s18.toks + 1 + 1 + 1 + 1)
  refine B20.loc rfl (PySem.P.eq_str ?_)
  iterate 1 walk1
  refine ite_t (by decide +kernel) ?_
  refine isTrue_and_nil ?_
  refine ite_t rfl ?_
  iterate 2 walk1
  refine h₄ _ _ ⟨rfl, ex_cons ?_⟩
  walk1
  refine h₂ _ _ ⟨rfl, ?_⟩
  refine ex_cons (wpAny_Assign_Name (MethodCall_ (Attribute_name (B20.loc rfl (pg_cur B20.S P18 ?_)))))
  have B21 := B20.tok (s18.toks + 1 + 1 + 1 + 1 + 1)
  refine acc_m B21.S P18.acc (f := 137) (by k_is) (by k_is) (fun ι ι => rfl) ?_
  refine callWith_K B21.ck (by k_is) (spliced_cons (B21.loc rfl (spliced_nil ⟨B21.ck, ?_⟩)))
  refine popf_k (s := { s18 with toks := s18.toks + 1 + 1 + 1 + 1 + 1 }) (i := xs.length) B21.S P18.acc (R.le (k := 7) (by decide)).deep (by simp; lia) (by simp) fun s22 l S22 k22 a22 pl nl => ?_
  have e1 : (xs ++ [(Str.ofString " ", y)]).take xs.length = xs := by simp
  have e2 : (xs ++ [(Str.ofString " ", y)]).drop xs.length = [(Str.ofString " ", y)] := by simp
  rw [e1] at a22
  rw [e2] at pl
  have P22 := PageOn.turn1 (s := { s18 with toks := s18.toks + 1 + 1 + 1 + 1 + 1 }) P18 B21.S k22 a22
  have B22 := B21.step S22 k22 (by simp) (not_in (Ne.symm nxL))
  have nlL : l ≠ L := B21.ne_new nl
  refine B22.st fun s23 B23 k23 => ?_
  have P23 := P22.loc S22 k23 B22.ns ndpL ndL
  have pl23 := pl.kp' S22 k23 (by
   intro u hu
   rw [List.mem_singleton.mp hu]
   exact ⟨Ne.symm nlL, fun its => ns_tup B22.ns⟩)
  refine ex_cons (wpAny_Expr_any (MethodCall_ (Attribute_name (B23.loc rfl (pg_lines B23.S P23 ?_)))))
  have B24 := B23.tok (s23.toks + 1)
  obtain ⟨ll, kl, hln, hll⟩ := P23.hln
  refine getMethod_list_append hln rfl rfl ?_
  refine callWith_builtin rfl (evalArgs_plain (spliced_cons (wpAny_Call_NameR (B24.bi (v := .type "str") (by k_is) (by decide +kernel) (PyProof.Rows.callWith_type1 (spliced_cons (Attribute_name (B24.loc rfl (pg_cur B24.S P23 (spliced_nil ?_))))))))))
  have B25 := B23.tok (s23.toks + 1 + 1)
  have hzx : Small xs := by
   refine ⟨Nat.le_trans ?_ hz.1, by lia⟩
   unfold lenOf
   simp
  refine acc_str (s := { s23 with toks := s23.toks + 1 + 1 }) B25.S P23.acc (R.le (k := 9) (by decide)).deep hzx fun s26 tx S26 k26 a26 => spliced_nil ?_
  have P26 := PageOn.on0 (s := { s23 with toks := s23.toks + 1 + 1 }) P23 B25.S k26
  have B26 := B25.step0 ⟨S26, k26⟩
  have hln26 := k26.get B25.S hln (by simp) (by exact cn)
  have hlen : ll.length = lines.length := by rw [← hll]; simp
  refine lst_append S26 P23.bln P23.lln hln26 (by simp [strValues]; lia) fun s27 S27 k27 hln27 => ?_
  have P27 := P26.line (l' := ll ++ [(textOf xs, tx)]) (y := textOf xs) S26 k27 (by rw [hln27]; simp [strValues]; rfl) (by simp [hll])
  have B27 := B26.step S27 k27 (by simp) (not_in (Ne.symm nlnL))
  have pl27 := (PairsOn.on0 pl23 B25.S k26).kp' S26 k27 (by
   intro u hu
   rw [List.mem_singleton.mp hu]
   refine ⟨fun q => ?_, fun its => cls_tup hln26 (by show Value.type "list" ≠ Value.type "tuple"; decide)⟩
   obtain ⟨l0, k0, h0, _⟩ := P18.hln
   have nl' : s18.heap.get? l = none := nl
   rw [← q, h0] at nl'
   cases nl')
  refine ex_cons (wpAny_Expr_any (MethodCall_ (Attribute_name (B27.loc rfl (pg_cur B27.S P27 ?_)))))
  have B28 := B27.tok (s27.toks + 1)
  refine acc_m B28.S P27.acc (f := 167) (by k_is) (by k_is) (fun ι ι => rfl) ?_
  refine callWith_K B28.ck (by k_is) (spliced_cons (B28.loc rfl (spliced_nil ⟨B28.ck, ?_⟩)))
  refine reset_k (s := { s27 with toks := s27.toks + 1 }) (ys := [(Str.ofString " ", y)]) B28.S P27.acc (R.le (k := 7) (by decide)).deep (by lia) (by simp) (.inr rfl) (.inr ⟨l, rfl, pl27⟩) fun s29 S29 k29 a29 => ?_
  have P29 := PageOn.turn (s := { s27 with toks := s27.toks + 1 }) P27 B28.S k29 a29
  have B29 := B28.step S29 k29 (by simp) (by simp [Ne.symm nxL, Ne.symm ndL])
  exact wpAny_execs_nil (wpAny_execs_nil (h₀ _ _ (hret _ _ _ B29.S B29.K P29 (.inr ⟨hM, rfl, rfl⟩))))
end
end Mine
namespace Mine
section
variable {w : World} {mg mb : NM} {b₀ : Heap} {s₀ s s' : Shared} {A : Around} {E : VP} {p dp ln x d L : Addr} {lines : List Str} {xs xs' : List (Str × Str)} {M : Int} {U : List Addr} {m : NM} {z : Int} {env : Env}
theorem evalArgs_star {f : Value} {t : Sem Value} {Q : Args → Shared → Prop}
  (h : wpAny (model PW w) A t (fun v s₁ => ∃ T its, v = .ref T ∧ s₁.heap.IsTuple T its ∧ its.size ≤ 1000 ∧ ∀ h', (∀ b o, s₁.heap.get? b = some o → h'.get? b = some o) → Q ⟨its.toList, []⟩ { s₁ with heap := h' }) E s) :
  wpAny (model PW w) A (evalArgs f true [(true, t)] []) Q E s := by
 unfold evalArgs
 refine wpAny_bind (wpAny_mono h (fun v s₁ h₁ => ?_) fun ι ι z => z)
 obtain ⟨T, its, rfl, hT, hz, hQ⟩ := h₁
 have hTT : s₁.TypeIs (.ref T) "tuple" := by obtain ⟨o, ho, hc, _⟩ := hT; exact ⟨o, ho, hc⟩
 obtain ⟨o, ho, hc, n, hd⟩ := hT
 refine wpAny_bind (wpAny_pure (wpAny_holding ?_))
 dsimp only
 refine wpAny_bind (wpAny_pure (wpAny_bind (wpAny_bind ?_)))
 unfold notIterableAtAll
 refine wpAny_bind (wpAny_specialOf hTT slot_tuple_iter.lookup ?_)
 refine wpAny_pure ?_
 refine wp_f Bool.false_ne_true ?_
 refine wpAny_holding (wpAny_collect_seq T (.inr rfl) ho hc hd (fun h' hk => wpAny_pure (hQ h' hk)) (by rw [sizeLine_eq]; lia))
theorem acc_bound {f : Addr} {name : Str} {expr : Bool} {Q : VP} (S : Sit w mg mb b₀ s) (a : AccOn w b₀ s.heap x d xs z) (hf : ∀ t0 t1, findObj (hd.heap_1 w.params) 185 (some (accD w t0 z t1)) name = some (.bind (.builtin "function.__get__") (.ref f))) (hfn : typeIn (hd.heap_1 w.params) (.ref f) = some (.type "function"))
  (h : ∀ s' q, Sit w mg mb b₀ s' → Kp [] s s' → s'.heap.get? q = some (methodObj (.ref f) (.ref x)) → Q (.ref q) s') : wpAny (model PW w) A (getAttr (.ref x) name expr) Q E s := by
 obtain ⟨its, k, t0, t1, I⟩ := a.inst
 have X := S.C.K.keeps S.k
 have z₁ := S.push (o := methodObj (.ref f) (.ref x)) (t := s.toks + 1)
 obtain ⟨hp, g, dd, t, os⟩ := s
 have hga : findIn (hd.heap_1 w.params) (.ref 185) "__getattribute__" = some (some (.builtin "list.__getattribute__")) := by k_is
 have hk : findIn (hd.heap_1 w.params) (.ref 185) "__getattr__" = some none := by k_is
 have hml : mroIn (hd.heap_1 w.params) 185 (.type "list") = some true := by k_is
 have L0 := I.type (M := model PW w)
 have L1 := looks_findIn (M := model PW w) X hga
 have L2 := looks_findIn (M := model PW w) X hk
 have L3 := looks_find (M := model PW w) X I (hf t0 t1)
 unfold getAttr getAttrBy
 refine wpAny_bind (wpAny_mkText (wpAny_holding (wpAny_bind (L0.at (wpAny_bind (L1.at ?_))))))
 show wpAny _ _ (getAttrByItsOwn (.ref x) (.str name t) (.ref 185) (.builtin "list.__getattribute__") true expr) _ _ _
 unfold getAttrByItsOwn hookBefore
 refine wpAny_bind ?_
 refine wp_t (show onTheHeap (.ref 185) = true from rfl) ?_
 refine L2.at ?_
 refine wpAny_bind (wpAny_attempt (wpAny_holding ?_))
 have e : callGetattribute (.ref x) (.str name t) (.builtin "list.__getattribute__") expr = boundAndCalled (.builtin "list.__getattribute__") (.ref x) (.str name t) := by
  unfold callGetattribute
  rw [show onTheHeap (.builtin "list.__getattribute__") = false from rfl, Bool.and_false, if_neg (by decide)]
 rw [e]
 unfold boundAndCalled
 refine wpAny_bind (wpAny_of_eq (PySem.F.slot_list_getattribute.bind _) ?_)
 refine wpAny_mono (Q := fun r s' => r = .ref hp.objs.size ∧ s' = ⟨hp.push (methodObj (.ref f) (.ref x)), g, dd, t + 1, os⟩) (E := fun ι ι => False) ?_ (fun r s' hv => ?_) fun ι ι z => z.elim
 ·refine bi_call (s := ⟨hp, g, dd, t + 1, os⟩) X I hml (owner := "list") (n := "__getattribute__") (by decide +kernel) (.inl (by decide +kernel)) (by decide +kernel) PySem.am_entry_list_getattribute (PySem.F.args_list_getattribute_2 _ _) ?_
  unfold Builtin.«object.__getattribute__»
  refine wpAny_bind (wpAny_of_eq (show slotArgs "__getattribute__" 1 ⟨[.ref x, .str name t], []⟩ = pure (.ref x, [.str name t]) from rfl) ?_)
  dsimp only
  refine wpAny_bind (wpAny_pure ?_)
  refine wpAny_bind (L0.at (wpAny_bind (L3.at ?_)))
  show wpAny _ _ (holding [.ref f] (call (.builtin "function.__get__") [.ref f, .ref x, .ref 185]) >>= ret) _ _ _
  exact wpAny_bind (wpAny_holding (wpAny_call (fn_get (s := ⟨hp, g, dd, t + 1, os⟩) X hfn (wpAny_pure ⟨_, rfl, rfl, rfl⟩))))
 ·obtain ⟨rfl, rfl⟩ := hv
  show wpAny _ _ (handedOut _) _ _ _
  rw [handedOut_of rfl]
  exact wpAny_pure (h _ _ z₁.1 z₁.2 (Heap.get?_push_at rfl rfl))
theorem StarCall_ {o : Expr} {name : Str} {apos pos : Pos} {args : List Expr} {Q : VP}
  (h : wpAny (model PW w) A (eval o env) (fun ov s₁ => wpAny (model PW w) A (getAttr ov name true) (fun f s₂ => wpAny (model PW w) A (callWith pos f [] (backTo pos (starEach args env)) []) Q E s₂) E s₁) E s)
  (he : autoParam (eval (.Call (.Attribute o name apos) args [] pos) env = (do
   let ov ← eval o env
   standAt apos.atName
   let fx ← holding [ov] (do pure (← getAttr ov name true, []))
   callWith pos fx.1 fx.2 (backTo pos (starEach args env)) [])) tR) : wpAny (model PW w) A (eval (.Call (.Attribute o name apos) args [] pos) env) Q E s := by
 rw [he]
 refine wpAny_bind (wpAny_mono h (fun ov s₁ h₁ => wpAny_bind (wpAny_standAt (wpAny_bind (wpAny_holding (wpAny_bind (wpAny_mono h₁ (fun f s₂ h₂ => wpAny_pure h₂) fun ι ι z => z)))))) fun ι ι z => z)
theorem callWith_star {pos : Pos} {q f : Addr} {t : Sem Value} {Q : VP} (X : ∃ oc od fd osl, (hd.heap_1 w.params).lookup f = some ⟨oc, od, .func fd, osl⟩)
  (h : wpAny (model PW w) A (evalArgs (.ref q) true [(true, t)] []) (fun a s₁ => (hd.heap_1 w.params).In s₁.heap ∧ s₁.heap.get? q = some (methodObj (.ref f) (.ref x)) ∧ codeAny (model PW w) A (.call (.ref f) ⟨.ref x :: a.pos, a.kw⟩) (fun r s' => match r with | .ok (.ret v) => Q v s' | .ok _ => False | .error e => E e s') s₁) E s) :
  wpAny (model PW w) A (callWith pos (.ref q) [] [(true, t)] []) Q E s := by
 obtain ⟨oc, od, fd, osl, hf⟩ := X
 unfold callWith
 refine wpAny_bind (wpAny_holding (wpAny_mono h (fun a s₁ h₁ => wpAny_bind (wpAny_standAt ?_)) fun ι ι z => z))
 obtain ⟨X, hq, hc⟩ := h₁
 have LK : Looks (model PW w) s₁.heap (keeperOf (.ref q)) .boundFrame := (Looks.ld (part := none) hq).andThen ((Looks.ld (part := none) (X _ _ hf)).andThen .now)
 refine wpAny_bind (LK.here ?_)
 dsimp only [List.any_cons, List.any_nil, Bool.or_false]
 refine wpAny_bind (wpAny_operating (wpAny_call (ks_codeAny_call_bound hq (codeAny_mono hc fun r s' hr => ?_))))
 match r, hr with
 | .ok (.ret v), hr => exact wpAny_bind (wpAny_holding (wpAny_point (wpAny_pure hr)))
 | .error e, hr => exact hr
theorem newl_k {ys : List (Str × Str)} {y : Str} {Q : VP} (S : Sit w mg mb b₀ s) (P : PageOn w b₀ s.heap p dp ln x d M lines (ys ++ [(Str.ofString " ", y)])) (R : Rm A 18) (hz : Small (ys ++ [(Str.ofString " ", y)])) (hx : ys.length ≤ 300) (hlz : lines.length ≤ 1000) (hy : y ≠ Str.ofString "") (hns : Txt.isspace (textOf (ys ++ [(Str.ofString " ", y)])) = false)
  (hret : ∀ s', Sit w mg mb b₀ s' → Kp [x, d, ln] s s' → PageOn w b₀ s'.heap p dp ln x d M (lines ++ [textOf (ys ++ [(Str.ofString " ", y)])]) [] → Q .none s') : wpAny (model PW w) A (call (.ref 63) [.ref p]) Q E s := by
 refine wpAny_call ?_
 refine enter_b [] (binds := [("self", .ref p)]) S (R.dl (k := 0) (by decide)) (by k_is) (by k_is) (BindsTo.of_eq rfl) (locs rfl) ?_
 intro L s₁ B1 k₁
 refine cutQ fun Q0 h₀ => ?_
 have P1 := P.on0 S k₁
 have nxL : x ≠ L := (P.neL B1).1
 have ndL : d ≠ L := (P.neL B1).2.1
 have ndpL : dp ≠ L := (P.neL B1).2.2.1
 have nlnL : ln ≠ L := (P.neL B1).2.2.2
 refine ex_cons (wpAny_Assign_Name (MethodCall_ (Attribute_name (B1.loc rfl (pg_cur B1.S P1 ?_)))))
 have B2 := B1.tok (s₁.toks + 1)
 refine acc_m B2.S P1.acc (f := 145) (by k_is) (by k_is) (fun ι ι => rfl) ?_
 refine callWith_K0 B2.ck (by k_is) ?_
 refine pop_k (s := { s₁ with toks := s₁.toks + 1 }) B2.S P1.acc (R.le (k := 9) (by decide)).deep (by lia) fun s3 T ta tb S3 k₃ a₃ hT => ?_
 have P3 := PageOn.turn1 (s := { s₁ with toks := s₁.toks + 1 }) P1 B2.S k₃ a₃
 have B3 := (B2.wide [x, d, ln] (by simp)).step S3 k₃ (by simp) (not_in (Ne.symm nxL))
 refine B3.st fun s4 B4 k₄ => ?_
 have P4 := P3.loc S3 k₄ B3.ns ndpL ndL
 have hT4 : s4.heap.IsTuple T #[.str (Str.ofString " ") ta, .str y tb] := by
  obtain ⟨o, ho, hc, r⟩ := hT
  exact ⟨o, k₄.get S3 ho (by simp only [List.mem_singleton]; intro q; exact ns_tup (its := #[.str (Str.ofString " ") ta, .str y tb]) B3.ns (by rw [← q]; exact ⟨o, ho, hc, r⟩)) (by rw [hc]; exact cn), hc, r⟩
 refine ex_cons (ex_If (wpAny_isTrue_Compare1 (B4.loc rfl (Tuple_ (k := 0) ?_))))
 iterate 4 walk1
 refine spliced_nil (wpAny_newObj_type ?_ (by show 2 ≤ sizeLine; rw [sizeLine_eq]; lia))
 have z₅ := B4.S.push (o := { cls := .type "tuple", data := .seq [Value.str (Str.ofString " ") s4.toks, .str (Str.ofString "") (s4.toks + 1)].toArray }) (t := s4.toks + 1 + 1)
 have B5 := B4.step0 z₅
 have P5 := PageOn.on0 P4 B4.S z₅.2
 refine PySem.EqBoolInt.of_rcne (SeqAt.RcNeAt.tuples (e := fun j => if j = 0 then true else (y == Str.ofString "")) (items := #[.str (Str.ofString " ") ta, .str y tb]) (items2 := #[Value.str (Str.ofString " ") s4.toks, .str (Str.ofString "") (s4.toks + 1)]) (z₅.2.tup0 B4.S hT4) ⟨_, Heap.get?_push_size _ rfl, rfl, _, rfl⟩ (by show A.units + 3 < cLine; have := R.un; rw [cLine_is]; lia) ?_) ?_
 ·intro j h1 h2
  rcases j with _ | _ | j
  rotate_left 2
  exact absurd h1 (Nat.not_lt.mpr (Nat.le_add_left 2 j))
  ·exact SeqAt.EqAt.str_str (Str.ofString " ") ta (Str.ofString " ") s4.toks
  ·exact SeqAt.EqAt.str_str y tb (Str.ofString "") (s4.toks + 1)
 have hyf : (y == Str.ofString "") = false := by simpa using hy
 walk1
 refine ite_t (by simp [List.range_succ, hyf]) ?_
 have B6 := B5
 refine ex_cons (wpAny_Expr_any (StarCall_ (Attribute_name (B6.loc rfl (pg_cur B6.S P5 ?_)))))
 have B7 := B6.tok (s4.toks + 1 + 1 + 1)
 refine acc_bound B7.S P5.acc (f := 129) (fun t0 t1 => findObj_fn (by k_is) (by k_is) (by k_is) (by k_is) (by decide +kernel) rfl) (by k_is) fun s8 q S8 k8 hq => ?_
 have P8 := PageOn.on0 P5 B7.S k8
 have B8 := B7.step0 ⟨S8, k8⟩
 refine callWith_star (x := x) (f := 129) ⟨_, _, _, _, by k_is⟩ (evalArgs_star ?_)
 refine wp_t rfl ?_
 refine wpAny_bind (B8.loc rfl (wpAny_bind (wpAny_standAt (wpAny_pure ?_))))
 refine ⟨T, _, rfl, k8.tup0 B7.S (z₅.2.tup0 B4.S hT4), (by show 2 ≤ 1000; decide), fun h' kh => ?_⟩
 have z9 := B8.S.grow (t := s8.toks) kh
 have B9 := B8.step0 z9
 have P9 := PageOn.on0 P8 B8.S z9.2
 refine ⟨B9.ck, kh _ _ hq, push_kc (s := { s8 with heap := h' }) B9.S P9.acc (R.le (k := 5) (by decide)).deep (by lia) fun s10 S10 k10 a10 => ?_⟩
 have P10 := PageOn.turn1 (s := { s8 with heap := h' }) P9 B9.S k10 a10
 have B10 := B9.step S10 k10 (by simp) (not_in (Ne.symm nxL))
 refine wpAny_execs_nil ?_
 refine ex_cons (ex_If (wpAny_isTrue_Compare1 (wpAny_Call_NameR (B10.bi (v := .builtin "len") (by k_is) (by decide +kernel) (callWith_builtin rfl (evalArgs_plain (spliced_cons (Attribute_name (B10.loc rfl (pg_cur B10.S P10 (spliced_nil ?_)))))))))))
 have B11 := B10.tok (s10.toks + 1)
 refine acc_len (s := { s10 with toks := s10.toks + 1 }) B11.S P10.acc (R.le (k := 7) (by decide)).deep hz fun s12 tl S12 k12 a12 => ?_
 have P12 := PageOn.on0 P10 B11.S k12
 have B12 := B11.step0 ⟨S12, k12⟩
 have hpos : lenOf (ys ++ [(Str.ofString " ", y)]) ≠ 0 := by
  have : (Str.ofString " ").length = 1 := by decide +kernel
  unfold lenOf
  simp only [List.map_append, List.map_cons, List.map_nil, List.sum_append, List.sum_cons, List.sum_nil]
  lia
 iterate 3 walk1
 refine ite_t (by simp; lia) ?_
 have B13 := B12.tok (s12.toks + 1)
 refine ex_cons (ex_If (isTrue_and (isTrue_plain (MethodCall_ (Attribute_name (B13.loc rfl (pg_cur B13.S P12 ?_)))))))
 have B14 := B12.tok (s12.toks + 1 + 1)
 refine acc_m B14.S P12.acc (f := 174) (by k_is) (by k_is) (fun ι ι => rfl) ?_
 refine callWith_K0 B14.ck (by k_is) ?_
 refine ws_k (s := { s12 with toks := s12.toks + 1 + 1 }) B14.S P12.acc (R.le (k := 13) (by decide)).deep hz hpos hns fun s15 S15 k15 a15 => ?_
 have P15 := PageOn.on0 P12 B14.S k15
 have B15 := B14.step0 ⟨S15, k15⟩
 walk1
 refine ite_f (by decide) (ite_f (by decide) ?_)
 refine ex_cons (wpAny_Expr_any (MethodCall_ (Attribute_name (B15.loc rfl (pg_lines B15.S P15 ?_)))))
 have B16 := B15.tok (s15.toks + 1)
 obtain ⟨ll, kl, hln, hll⟩ := P15.hln
 refine getMethod_list_append hln rfl rfl ?_
 refine callWith_builtin rfl (evalArgs_plain (spliced_cons (wpAny_Call_NameR (B16.bi (v := .type "str") (by k_is) (by decide +kernel) (PyProof.Rows.callWith_type1 (spliced_cons (Attribute_name (B16.loc rfl (pg_cur B16.S P15 (spliced_nil ?_))))))))))
 have B17 := B15.tok (s15.toks + 1 + 1)
 refine acc_str (s := { s15 with toks := s15.toks + 1 + 1 }) B17.S P15.acc (R.le (k := 9) (by decide)).deep hz fun s18 tx S18 k18 a18 => spliced_nil ?_
 have P18 := PageOn.on0 P15 B17.S k18
 have B18 := B17.step0 ⟨S18, k18⟩
 have hln18 := k18.get B17.S hln (by simp) (by exact cn)
 have hlen : ll.length = lines.length := by rw [← hll]; simp
 refine lst_append S18 P15.bln P15.lln hln18 (by simp [strValues]; lia) fun s19 S19 k19 hln19 => ?_
 have P19 := P18.line (l' := ll ++ [(textOf (ys ++ [(Str.ofString " ", y)]), tx)]) (y := textOf (ys ++ [(Str.ofString " ", y)])) S18 k19 (by rw [hln19]; simp [strValues]; rfl) (by simp [hll])
 have B19 := B18.step S19 k19 (by simp) (not_in (Ne.symm nlnL))
 refine wpAny_execs_nil (wpAny_execs_nil ?_)
 refine ex_cons (wpAny_Expr_any (MethodCall_ (Attribute_name (B19.loc rfl (pg_cur B19.S P19 ?_)))))
 have B20 := B19.tok (s19.toks + 1)
 refine acc_m B20.S P19.acc (f := 167) (by k_is) (by k_is) (fun ι ι => rfl) ?_
 refine callWith_K0 B20.ck (by k_is) ?_
 refine reset_k (s := { s19 with toks := s19.toks + 1 }) (ys := []) (v := .none) B20.S P19.acc (R.le (k := 7) (by decide)).deep (by simp; lia) (by simp) (.inl ⟨rfl, rfl⟩) (.inl ⟨rfl, rfl⟩) fun s21 S21 k21 a21 => ?_
 have P21 := PageOn.turn (s := { s19 with toks := s19.toks + 1 }) P19 B20.S k21 a21
 have B21 := B20.step S21 k21 (by simp) (by simp [Ne.symm nxL, Ne.symm ndL])
 exact wpAny_execs_nil (h₀ _ _ (hret _ B21.S B21.K P21))
end
end Mine
namespace Mine
section
variable {w : World} {mg mb : NM} {b₀ : Heap} {s₀ s s' : Shared} {A : Around} {E : VP} {p dp ln x d L : Addr} {lines : List Str} {xs xs' : List (Str × Str)} {M : Int} {U : List Addr} {m : NM} {z : Int} {env : Env}
theorem strp_k {ys : List (Str × Str)} {y sep : Str} {ts : Tok} {Q : VP} (S : Sit w mg mb b₀ s) (P : PageOn w b₀ s.heap p dp ln x d M lines (ys ++ [(Str.ofString " ", y)])) (R : Rm A 22) (hz : Small (ys ++ [(Str.ofString " ", y)])) (hx : ys.length ≤ 300) (hlz : lines.length ≤ 1000) (hy : y ≠ Str.ofString "") (hns : Txt.isspace (textOf (ys ++ [(Str.ofString " ", y)])) = false)
  (hj : JoinOk sep (lines ++ [textOf (ys ++ [(Str.ofString " ", y)])]) = true)
  (hret : ∀ s' t, Sit w mg mb b₀ s' → Kp [x, d, ln] s s' → Q (.str (Txt.join sep (lines ++ [textOf (ys ++ [(Str.ofString " ", y)])])) t) s') : wpAny (model PW w) A (call (.ref 49) [.ref p, .str sep ts]) Q E s := by
 refine wpAny_call ?_
 refine enter_b [] (binds := [("self", .ref p), ("linesep", .str sep ts)]) S (R.dl (k := 0) (by decide)) (by k_is) (by k_is) (BindsTo.of_eq rfl) (locs rfl) ?_
 intro L s₁ B1 k₁
 have P1 := P.on0 S k₁
 have nxL : x ≠ L := (P.neL B1).1
 have ndL : d ≠ L := (P.neL B1).2.1
 have nlnL : ln ≠ L := (P.neL B1).2.2.2
 refine ex_cons (wpAny_Expr_any (MethodCall_ (B1.loc rfl ?_)))
 refine pg_m B1.S P1 (f' := 63) (by k_is) (by k_is) (fun ι ι ι ι ι ι ι ι ι ι => rfl) ?_
 refine callWith_K0 B1.ck (by k_is) ?_
 refine newl_k B1.S P1 (R.le (k := 19) (by decide)).deep hz hx hlz hy hns fun s₂ S₂ k₂ P2 => ?_
 have B2 := (B1.wide [x, d, ln] (List.forall_mem_nil _)).step S₂ k₂ ((fun ι h => .inl h)) (by simp [Ne.symm nxL, Ne.symm ndL, Ne.symm nlnL])
 refine ex_cons (wpAny_Return_some (MethodCall_ (B2.loc rfl (PySem.GM.join (callWith_builtin rfl (evalArgs_plain (spliced_cons (Attribute_name (B2.loc rfl (pg_lines B2.S P2 (spliced_nil ?_)))))))))))
 have B3 := B2.tok (s₂.toks + 1)
 obtain ⟨ll, kl, hln, hll⟩ := P2.hln
 refine PySem.SC.join (s := { s₂ with toks := s₂.toks + 1 }) (D := ln) ⟨_, hln, rfl, _, rfl⟩ hll hj fun t' k => ?_
 exact hret _ _ (B2.tok k).S (B2.tok k).K
end
end Mine
namespace Mine
section
variable {w : World} {mg mb : NM} {b₀ : Heap} {s₀ s s' : Shared} {A : Around} {E : VP} {L : Addr} {U : List Addr} {m : NM} {env : Env}
theorem for_walks {target : Expr} {body orelse : List Stmt} {R : Result → Shared → Prop} {I : Addr} {fp wr : List Addr} {n : Nat} {P : Nat → Value → Prop} {St : Nat → Heap → Prop} (W : Walks PW w A I fp wr n P St) (J : Nat → Shared → Prop)
  (hS : ∀ i s, J i s → Sit w mg mb b₀ s) (hwr : ∀ b ∈ wr, b₀.get? b = none ∧ @LT.lt Nat _ 154 b) (stab : ∀ i s s', J i s → St i s.heap → Sit w mg mb b₀ s' → Kp wr s s' → J i s') (h0 : J 0 s) (st0 : St 0 s.heap)
  (turn : ∀ i v s, i < n → P i v → J i s → St (i + 1) s.heap → wpAny (model PW w) A (assign target env v) (fun ι s₂ => wpAny (model PW w) A (execs body env) (fun f s3 => (f = .next ∨ f = .cont) ∧ J (i + 1) s3 ∧ St (i + 1) s3.heap) (fun ι ι => False) s₂) (fun ι ι => False) s)
  (fin : ∀ s, J n s → wpAny (model PW w) A (execs orelse env) (fun f s3 => R (.ok f) s3) (fun ι ι => False) s)
  (ht : autoParam (∀ v, letOwnedTupleGo target (.ref I) v = pure ()) tI) : codeAny (model PW w) A (.forLoop target (.ref I) body orelse env) R s := by
 have step : ∀ {s : Shared} {h' : Heap} (tk : Nat), Sit w mg mb b₀ s → (∀ b o, b ∉ wr → s.heap.get? b = some o → h'.get? b = some o) → Sit w mg mb b₀ { s with heap := h', toks := tk } ∧ Kp wr s { s with heap := h', toks := tk } := fun {s h'} tk S k =>
  S.by (fun u hu => (hwr u hu).1) (fun q => absurd (hwr _ q).2 (by decide)) (fun q => absurd (hwr _ q).2 (by decide)) k rfl rfl
 refine codeAny_forLoop (fun k s => ∃ i, k = n + 1 - i ∧ i ≤ n ∧ J i s ∧ St i s.heap) ?_ (n + 1) ⟨0, rfl, Nat.zero_le _, h0, st0⟩ ht
 rintro k s ⟨i, rfl, hi, hJ, hSt⟩
 rcases Nat.lt_or_ge i n with hlt | hge
 ·refine W.item i s _ _ hlt hSt fun v h' tk hP hSt' hk => ?_
  have z := step tk (hS _ _ hJ) hk
  refine notedOf (wpAny_mono (turn i v { s with heap := h', toks := tk } hlt hP (stab _ _ _ hJ hSt z.1 z.2) hSt') (fun ι s₂ h₂ => notedOf (wpAny_mono h₂ (fun f s3 h₃ => ?_) fun ι ι z => z)) fun ι ι z => z)
  obtain ⟨hf, hJ', hSt''⟩ := h₃
  rcases hf with rfl | rfl <;> exact ⟨n + 1 - (i + 1), sub_dec hlt, i + 1, rfl, hlt, hJ', hSt''⟩
 ·have : i = n := (Nat.le_antisymm ‹_› ‹_›)
  subst this
  refine W.done s _ _ hSt fun h' tk hk => ?_
  have z := step tk (hS _ _ hJ) hk
  exact notedOf (fin _ (stab _ _ _ hJ hSt z.1 z.2))
theorem out_none {E' : VP} {Q : Flow → Shared → Prop} {c : Code} (h : codeAny (model PW w) A c (fun r s' => match r with | .ok f => Q f s' | .error _ => False) s) : codeAny (model PW w) A c (fun r s' => match r with | .ok f => Q f s' | .error e => E' e s') s :=
 codeAny_mono h fun r s' hr => match r, hr with | .ok f, hr => hr
noncomputable abbrev lstO (its : Array Value) (k : Nat) : Obj := { cls := .type "list", data := .seq its k }
theorem lst_add {l b : Addr} {its its2 : Array Value} {k k2 : Nat} {Q : VP} (S : Sit w mg mb b₀ s) (hl : s.heap.get? l = some (lstO its k)) (hb : s.heap.get? b = some (lstO its2 k2)) (hz : its.size + its2.size ≤ 100000)
  (h : ∀ s' r, Sit w mg mb b₀ s' → Kp [] s s' → s'.heap.get? r = some (lstO (its ++ its2) 0) → s.heap.get? r = none → b₀.get? r = none → @LT.lt Nat _ 154 r → Q (.ref r) s') : wpAny (model PW w) A (binaryOp .Add (.ref l) (.ref b)) Q E s := by
 refine concat_meets ⟨_, hl, rfl⟩ ⟨_, hb, rfl⟩ noFill_list_add seq_list_add PySem.F.slot_list_add PySem.F.entry_list_add (PySem.F.args_list_add_2 _ _) (list_addW l b its its2 k k2 none none #[] #[] (by rw [sizeLine_eq]; lia)) ⟨hl, hb, ?_⟩
 have z := S.push (o := lstO (its ++ its2) 0) (t := s.toks)
 exact h _ _ z.1 z.2 (Heap.get?_push_size _ rfl) (get_size _) S.fresh S.lt
theorem lst_new {vs : List Value} {Q : VP} (S : Sit w mg mb b₀ s) (hz : vs.length ≤ 100000)
  (h : ∀ s' r, Sit w mg mb b₀ s' → Kp [] s s' → s'.heap.get? r = some (lstO vs.toArray 0) → s.heap.get? r = none → b₀.get? r = none → @LT.lt Nat _ 154 r → Q (.ref r) s') : wpAny (model PW w) A (newList vs) Q E s := by
 have z := S.push (o := lstO vs.toArray 0) (t := s.toks)
 exact wpAny_newObj_type (h _ _ z.1 z.2 (Heap.get?_push_size _ rfl) (get_size _) S.fresh S.lt) (by show vs.toArray.size ≤ sizeLine; rw [sizeLine_eq]; simp; lia)
theorem lst_set {l : Addr} {its : Array Value} {k : Nat} {i : Int} {t : Tok} {v : Value} {Q : Unit → Shared → Prop} (S : Sit w mg mb b₀ s) (bl : b₀.get? l = none) (ll : @LT.lt Nat _ 154 l) (hl : s.heap.get? l = some (lstO its k)) (h0 : 0 ≤ i) (hfit : i < 2 ^ 63) (hi : i < its.size)
  (h : ∀ s', Sit w mg mb b₀ s' → Kp [l] s s' → s'.heap.get? l = some (lstO (its.setIfInBounds i.toNat v) k) → Q () s') : wpAny (model PW w) A (setItem (.ref l) (.int i t) v) Q E s := by
 unfold setItem
 try with_reducible refine wpAny_holding ?_
 first | refine wpAny_bind (wpAny_pure ?_) | skip
 have hT : s.TypeIs (.ref l) "list" := ⟨_, hl, rfl⟩
 refine wpAny_bind (wpAny_sequenceKey hT (by decide) ?_)
 refine wpAny_bind (wpAny_callSpecial?_slot (name := Str.ofString "__setitem__") hT slot_list_setitem
  (wpAny_call_entry slot_list_setitem hT entry_list_setitem ?_ (args_list_setitem _ _ _)))
 show wpAny _ _ (Builtin.List.listSubscript? (.int i t) >>= _) _ _ s
 refine wpAny_bind (wpAny_listSubscript_int (fitsIndex_of h0 hfit) ?_)
 clear hfit
 obtain ⟨i, rfl⟩ := Int.eq_ofNat_of_zero_le h0
 have hi : i < its.size := by lia
 have hx' : its[i]? = some its[i] := Array.getElem?_eq_getElem hi
 show wpAny _ _ ((seqItemAt l i >>= fun r => pure (r.map (i, ·))) >>= _) _ _ s
 refine wpAny_bind (wpAny_bind (wpAny_seqItemAt hl rfl (wpAny_pure ?_)))
 rw [hx']
 show wpAny _ _ (setSeqItemAt l i v >>= _) _ _ s
 have z := S.upd (x := l) (f := Obj.mapSeq (·.setIfInBounds i v)) s.toks bl ll
 have hn := Heap.get?_update_self (Obj.mapSeq (·.setIfInBounds i v)) hl (by rfl)
 have em : Obj.mapSeq (·.setIfInBounds i v) (lstO its k) = lstO (its.setIfInBounds i v) k := by simp [Obj.mapSeq]
 rw [em] at hn
 refine wpAny_bind (wpAny_setSeqItemAt hl rfl ?_)
 first
  | exact wpAny_bind (wpAny_pure (wpAny_pure ⟨.none, rfl, wpAny_pure (h _ z.1 z.2 hn)⟩))
  | exact wpAny_pure ⟨.none, rfl, wpAny_pure (h _ z.1 z.2 hn)⟩
theorem lst_mul {l : Addr} {its : Array Value} {k : Nat} {n : Int} {t : Tok} {Q : VP} (S : Sit w mg mb b₀ s) (hl : s.heap.get? l = some (lstO its k)) (h0 : 0 ≤ n) (hn : n ≤ 100000) (hz : its.size * n.toNat ≤ 100000)
  (h : ∀ s' r, Sit w mg mb b₀ s' → Kp [] s s' → s'.heap.get? r = some (lstO (List.foldl (fun x1 x2 => x1 ++ x2) #[] (List.replicate (if its.isEmpty = true then 0 else n.toNat) its)) 0) → s.heap.get? r = none → b₀.get? r = none → @LT.lt Nat _ 154 r → Q (.ref r) s') : wpAny (model PW w) A (binaryOp .Mult (.ref l) (.int n t)) Q E s := by
 have z := S.push (o := lstO (List.foldl (fun x1 x2 => x1 ++ x2) #[] (List.replicate (if its.isEmpty = true then 0 else n.toNat) its)) 0) (t := s.toks)
 have hQ := h _ _ z.1 z.2 (Heap.get?_push_size _ rfl) (get_size _) S.fresh S.lt
 exact wpAny_binaryOp_repeat_ref (T := "list") (U := "int") (by decide) ⟨_, hl, rfl⟩ (fun s' => typeIs_int s' n t) noFill_list_mul PySem.F.fills_int_mul PySem.F.slot_int_rmul repeat_list PySem.F.slot_int_index.lookup
  (call_meets PySem.F.slot_int_rmul (typeIs_int s n t) PySem.F.entry_int_rmul (PySem.F.args_int_rmul_2 _ _) (int___rmul___int_list n t l its k)
   ⟨hl, rfl, ⟨_, hl, rfl⟩, call_meets PySem.F.slot_list_mul ⟨_, hl, rfl⟩ PySem.F.entry_list_mul (PySem.F.args_list_mul_2 _ _)
    (AutoListH.list___mul___list_int_3 l its k n t (by simp [Builtin.List.listFitsIndex]; lia) (by lia) (by simp [Builtin.List.listTooLong, sizeLine]; lia))
    ⟨hl, hQ⟩⟩)
theorem lst_item {l : Addr} {its : Array Value} {k j : Nat} {zi : Int} {t : Tok} {x : Value} {Q : VP} (hl : s.heap.get? l = some (lstO its k)) (hz : zi = ((j : Nat) : Int)) (hfit : j ≤ 100000) (hx : its[j]? = some x) (h : Q x s) : wpAny (model PW w) A (getItem (.ref l) (.int zi t)) Q E s := by
 have h0 : 0 ≤ zi := by lia
 have h1 : zi < 2 ^ 63 := by lia
 have h2 : its[zi.toNat]? = some x := by rw [hz]; simpa using hx
 exact wpAny_getItem_list ⟨_, hl, rfl, _, rfl⟩ h0 h1 h2 h
theorem lst_put {l : Addr} {its : Array Value} {k j : Nat} {zi : Int} {t : Tok} {v : Value} {Q : Unit → Shared → Prop} (S : Sit w mg mb b₀ s) (bl : b₀.get? l = none) (ll : @LT.lt Nat _ 154 l) (hl : s.heap.get? l = some (lstO its k)) (hz : zi = ((j : Nat) : Int)) (hfit : j ≤ 100000) (hj : j < its.size)
  (h : ∀ s', Sit w mg mb b₀ s' → Kp [l] s s' → s'.heap.get? l = some (lstO (its.setIfInBounds j v) k) → Q () s') : wpAny (model PW w) A (setItem (.ref l) (.int zi t) v) Q E s := by
 have h0 : 0 ≤ zi := by lia
 have h1 : zi < 2 ^ 63 := by lia
 refine lst_set S bl ll hl h0 h1 (by lia) fun s' S' k' h' => h s' S' k' ?_
 rw [h', hz]
 simp
end
end Mine
namespace Mine
structure WsSt where
 n : Nat
 nt : Nat
 b : Nat
 cnt : List Nat
noncomputable def wsPad (cnt : List Nat) (b : Nat) : List Nat := if cnt.length ≤ b then cnt ++ List.replicate (b - cnt.length + 1) 0 else cnt
noncomputable def wsStep (s : WsSt) (c : Nat) : WsSt := if c = 32 then ⟨s.n + 1, s.nt, s.b + 1, s.cnt⟩ else ⟨s.n + 1, s.nt + 1, 0, (wsPad s.cnt s.b).set s.b ((wsPad s.cnt s.b).getD s.b 0 + 1)⟩
noncomputable def wsRun (l : List Nat) : WsSt := l.foldl wsStep ⟨0, 0, 0, []⟩
theorem wsPad_length (cnt : List Nat) (b : Nat) : (wsPad cnt b).length = max cnt.length (b + 1) := by
 unfold wsPad
 split
 ·simp; lia
 ·lia
theorem wsRun_bound (l : List Nat) : (wsRun l).b ≤ l.length ∧ (wsRun l).cnt.length ≤ l.length := by
 have gen : ∀ (l : List Nat) (s : WsSt) (k : Nat), s.b ≤ k → s.cnt.length ≤ k → (l.foldl wsStep s).b ≤ k + l.length ∧ (l.foldl wsStep s).cnt.length ≤ k + l.length := by
  intro l
  induction l with
  | nil => intro s k h1 h2; exact ⟨h1, h2⟩
  | cons c l ih =>
   intro s k h1 h2
   rw [List.foldl_cons]
   have := ih (wsStep s c) (k + 1) (by unfold wsStep; split <;> simp <;> lia) (by unfold wsStep; split <;> simp [wsPad_length] <;> lia)
   simp only [List.length_cons]
   lia
 unfold wsRun
 simpa using gen l ⟨0, 0, 0, []⟩ 0 (Nat.le_refl _) (Nat.le_of_ble_eq_true rfl)
noncomputable def natInts (l : List Nat) : List Int := l.map fun n => ((n : Nat) : Int)
noncomputable abbrev wsD (w : World) (a b c e f u1 u2 u3 : Tok) (raw : Str) (n nt : Nat) (N : Addr) (sm : Bool) : Obj :=
 dictOf [Key w "raw" a (.str raw u1), Key w "n" b (.int n u2), Key w "nt" c (.int nt u3), Key w "norm" e (.ref N), Key w "is_simple" f (.bool sm)] 5
structure WsOn (w : World) (b₀ h : Heap) (q dw : Addr) (raw : Str) (n nt : Nat) (cnt : List Nat) (b : Nat) : Prop where
 hq : h.get? q = some (instObj 251 dw)
 hd : ∃ a b' c e f u1 u2 u3 N sm, h.get? dw = some (wsD w a b' c e f u1 u2 u3 raw n nt N sm) ∧ ∃ C t its, h.IsTuple N #[.ref C, .int b t] ∧ h.IsTuple C its ∧ IntsAre its.toList (natInts cnt)
theorem IA.get {vs : List Value} {ns : List Int} (h : IntsAre vs ns) : ∀ {j : Nat} {x : Int}, ns[j]? = some x → ∃ t, vs[j]? = some (.int x t) := by
 induction h with
 | nil => intro j x h; cases h
 | cons n t r ih =>
  intro j x h
  cases j with
  | zero => cases h; exact ⟨t, rfl⟩
  | succ j => exact ih h
theorem IA.app {vs ws : List Value} {ns ms : List Int} (h : IntsAre vs ns) (k : IntsAre ws ms) : IntsAre (vs ++ ws) (ns ++ ms) := by
 induction h with
 | nil => exact k
 | cons n t _ ih => exact .cons n t ih
theorem IA.rep (x : Int) (t : Tok) : ∀ n, IntsAre (List.replicate n (.int x t)) (List.replicate n x)
 | 0 => .nil
 | n + 1 => .cons x t (IA.rep x t n)
theorem IA.put {vs : List Value} {ns : List Int} (h : IntsAre vs ns) : ∀ (j : Nat) (x : Int) (t : Tok), IntsAre (vs.set j (.int x t)) (ns.set j x) := by
 induction h with
 | nil => intro _ _ _; exact .nil
 | cons n u r ih =>
  intro j x t
  cases j with
  | zero => exact .cons x t r
  | succ j => exact .cons n u (ih j x t)
theorem IA.len {vs : List Value} {ns : List Int} (h : IntsAre vs ns) : vs.length = ns.length := by
 induction h with
 | nil => rfl
 | cons _ _ _ ih => simp [ih]
theorem fold_rep (v : Value) : ∀ n, (List.foldl (fun x1 x2 => x1 ++ x2) #[] (List.replicate n (#[v] : Array Value))).toList = List.replicate n v := by
 have gen : ∀ n (acc : Array Value), (List.foldl (fun x1 x2 => x1 ++ x2) acc (List.replicate n (#[v] : Array Value))).toList = acc.toList ++ List.replicate n v := by
  intro n
  induction n with
  | zero => intro acc; simp
  | succ n ih =>
   intro acc
   rw [List.replicate_succ, List.foldl_cons, ih]
   simp [List.replicate_succ]
 intro n
 simpa using gen n #[]
end Mine
namespace Mine
theorem IA.uniq {vs : List Value} {ns ms : List Int} (h : IntsAre vs ns) (k : IntsAre vs ms) : ns = ms := by
 induction h generalizing ms with
 | nil => cases k; rfl
 | cons n t _ ih =>
  cases k with
  | cons _ _ r => rw [ih r]
theorem natInts_inj {a b : List Nat} (h : natInts a = natInts b) : a = b := by
 unfold natInts at h
 exact List.map_inj_right (fun x y e => by exact_mod_cast e) |>.mp h
section
variable {w : World} {mg mb : NM} {b₀ : Heap} {s₀ s s' : Shared} {A : Around} {E : VP} {q dw q' dw' L : Addr} {U : List Addr} {m : NM} {env : Env} {raw raw' : Str} {n nt b n' nt' b' : Nat} {cnt cnt' : List Nat}
theorem tup_uniq {h : Heap} {a : Addr} {i j : Array Value} (x : h.IsTuple a i) (y : h.IsTuple a j) : i = j := by
 obtain ⟨o, ho, _, k, hd⟩ := x
 obtain ⟨o', ho', _, k', hd'⟩ := y
 rw [ho] at ho'; cases ho'; rw [hd] at hd'; cases hd'; rfl
theorem all_range_eq {a b : List Nat} : ((List.range (min a.length b.length)).all (fun j => a[j]? == b[j]?) && a.length == b.length) = decide (a = b) := by
 rw [Bool.eq_iff_iff]
 simp only [Bool.and_eq_true, List.all_eq_true, List.mem_range, beq_iff_eq, decide_eq_true_eq]
 constructor
 ·rintro ⟨h1, h2⟩
  refine List.ext_getElem? fun j => ?_
  rcases Nat.lt_or_ge j a.length with hj | hj
  ·exact h1 j (by lia)
  ·rw [List.getElem?_eq_none hj, List.getElem?_eq_none (by lia)]
 ·rintro rfl
  exact ⟨fun ι ι => rfl, rfl⟩
theorem ints_eqAt {C C' : Addr} {i j : Array Value} (h1 : s.heap.IsTuple C i) (h2 : s.heap.IsTuple C' j) (I1 : IntsAre i.toList (natInts cnt)) (I2 : IntsAre j.toList (natInts cnt')) (hu : A.units < cLine) : SeqAt.EqAt A s (.ref C) (.ref C') (decide (cnt = cnt')) := by
 by_cases hC : C = C'
 ·subst hC
  have e := tup_uniq h1 h2
  subst e
  rw [natInts_inj (IA.uniq I1 I2), decide_eq_true rfl]
  exact SeqAt.EqAt.same _
 ·have l1 : i.size = cnt.length := by have := IA.len I1; simpa [natInts] using this
  have l2 : j.size = cnt'.length := by have := IA.len I2; simpa [natInts] using this
  have e := all_range_eq (a := cnt) (b := cnt')
  rw [← l1, ← l2] at e
  rw [← e]
  refine SeqAt.EqAt.of_refs hC (SeqAt.RcAt.tuples h1 h2 hu fun k hk1 hk2 => ?_)
  have g1 : (natInts cnt)[k]? = some ((cnt[k]'(by lia) : Nat) : Int) := by simp [natInts, show k < cnt.length by lia]
  have g2 : (natInts cnt')[k]? = some ((cnt'[k]'(by lia) : Nat) : Int) := by simp [natInts, show k < cnt'.length by lia]
  obtain ⟨ta, ha⟩ := IA.get I1 g1
  obtain ⟨tb, hb⟩ := IA.get I2 g2
  have ha' : i[k] = .int ((cnt[k]'(by lia) : Nat) : Int) ta := by
   have : i[k]? = some i[k] := Array.getElem?_eq_getElem hk1
   rw [Array.getElem?_toList, this] at ha
   exact Option.some.inj ha
  have hb' : j[k] = .int ((cnt'[k]'(by lia) : Nat) : Int) tb := by
   have : j[k]? = some j[k] := Array.getElem?_eq_getElem hk2
   rw [Array.getElem?_toList, this] at hb
   exact Option.some.inj hb
  rw [ha', hb']
  have eb : (cnt[k]? == cnt'[k]?) = (((cnt[k]'(by lia) : Nat) : Int) == ((cnt'[k]'(by lia) : Nat) : Int)) := by
   rw [List.getElem?_eq_getElem (by lia), List.getElem?_eq_getElem (by lia), Bool.eq_iff_iff]
   simp only [beq_iff_eq, Option.some.injEq]
   lia
  rw [eb]
  exact SeqAt.EqAt.int_int _ _ _ _
noncomputable def NormOn (h : Heap) (N : Addr) (cnt : List Nat) (b : Nat) : Prop := ∃ C t its, h.IsTuple N #[.ref C, .int b t] ∧ h.IsTuple C its ∧ IntsAre its.toList (natInts cnt)
theorem norm_items {N N' : Addr} {C C' : Addr} {t t' : Tok} {i j : Array Value} (h1 : s.heap.IsTuple C i) (h2 : s.heap.IsTuple C' j) (I1 : IntsAre i.toList (natInts cnt)) (I2 : IntsAre j.toList (natInts cnt')) (hu : A.units < cLine) :
  ∀ k (hk1 : k < (#[.ref C, .int b t] : Array Value).size) (hk2 : k < (#[.ref C', .int b' t'] : Array Value).size), SeqAt.EqAt A s (#[.ref C, .int b t] : Array Value)[k] (#[.ref C', .int b' t'] : Array Value)[k] (if k = 0 then decide (cnt = cnt') else decide (b = b')) := by
 intro k hk1 hk2
 rcases k with _ | _ | k
 rotate_left 2
 exact absurd hk1 (Nat.not_lt.mpr (Nat.le_add_left 2 k))
 ·exact ints_eqAt h1 h2 I1 I2 hu
 ·have eb : decide (b = b') = ((b : Int) == (b' : Int)) := by
   rw [Bool.eq_iff_iff]
   simp only [decide_eq_true_eq, beq_iff_eq]
   lia
  show SeqAt.EqAt A s (.int b t) (.int b' t') (decide (b = b'))
  rw [eb]
  exact SeqAt.EqAt.int_int _ _ _ _
theorem norm_all {x y : Bool} : ((List.range (min 2 2)).all (fun k => if k = 0 then x else y) && (2 == 2)) = (x && y) := by cases x <;> cases y <;> rfl
theorem norm_eq {N N' : Addr} {Q : VP} (h1 : NormOn s.heap N cnt b) (h2 : NormOn s.heap N' cnt' b') (hu : A.units + 1 < cLine) (h : Q (.bool (decide (cnt = cnt') && decide (b = b'))) s) : wpAny (model PW w) A (compareOp .Eq (.ref N) (.ref N')) Q E s := by
 obtain ⟨C, t, i, hN, hC, I1⟩ := h1
 obtain ⟨C', t', j, hN', hC', I2⟩ := h2
 refine SeqAt.eq_tupleAt (e := fun k => if k = 0 then decide (cnt = cnt') else decide (b = b')) hN hN' (Nat.le_of_lt ‹_›) (norm_items (A := A.in1) (N := N) (N' := N') hC hC' I1 I2 hu) ?_
 show Q (.bool ((List.range (min 2 2)).all (fun k => if k = 0 then decide (cnt = cnt') else decide (b = b')) && (2 == 2))) s
 rw [norm_all]
 exact h
theorem norm_eqAt {N N' : Addr} (h1 : NormOn s.heap N cnt b) (h2 : NormOn s.heap N' cnt' b') (hu : A.units + 1 < cLine) : SeqAt.EqAt A s (.ref N) (.ref N') (decide (cnt = cnt') && decide (b = b')) := by
 obtain ⟨C, t, i, hN, hC, I1⟩ := h1
 obtain ⟨C', t', j, hN', hC', I2⟩ := h2
 by_cases hE : N = N'
 ·subst hE
  have e := tup_uniq hN hN'
  have e0 : C = C' := by have := congrArg (fun z : Array Value => z[0]?) e; simpa using this
  have e1 : b = b' := by have := congrArg (fun z : Array Value => z[1]?) e; simp at this; lia
  subst e0 e1
  have e2 := tup_uniq hC hC'
  subst e2
  rw [natInts_inj (IA.uniq I1 I2), decide_eq_true rfl, decide_eq_true rfl]
  exact SeqAt.EqAt.same _
 ·have e := norm_all (x := decide (cnt = cnt')) (y := decide (b = b'))
  rw [← e]
  exact SeqAt.EqAt.of_refs hE (SeqAt.RcAt.tuples hN hN' (Nat.le_of_lt ‹_›) (norm_items (A := A.in1) (N := N) (N' := N') hC hC' I1 I2 hu))
end
end Mine
namespace Mine
section
variable {M : Model} {A : Around} {R : GenEnd} {Y : Protocol} {n : Nat} {s₀ : Shared} {c : Code} {fs : List Frame} {s : Shared} {env : Env}
 {K : Flow → Sem Fin} {H : Value → Sem Fin} {gd : Bool → Bool} {lv : List Value → List Value}
noncomputable abbrev ownFrame (K : Flow → Sem Fin) (H : Value → Sem Fin) (gd : Bool → Bool) (lv : List Value → List Value) (env : Env) (c : Code) (p : Pos) : Frame :=
 .ret (fun r => ((match r with | .ok f => (.pure f : Sem Flow) | .error e => .raise e).onRaise fun (x : Value) => do
    if (← field x 1) == Value.none then unsupported "frame.own-activation:exception-without-traceback"
    setFlight x env.frame).wrap K H gd lv) none (gd false) (lv []) c p []
theorem seg_For {target iter : Expr} {body orelse : List Stmt} {pos : Pos} (hs : ∀ x, foldedSetIterable iter env x = pure x)
  (h : wpAny M (A.over c fs) (eval iter env) (fun x s₁ => wpAny M (A.over c fs) (pyIter x) (fun it s₂ => ∀ p, Seg M A R Y n s₀ (.forLoop target it body orelse env) (M.den (.forLoop target it body orelse env)) (ownFrame K H gd lv env c p :: fs) s₂) (fun ι ι => False) s₁) (fun ι ι => False) s) :
  Seg M A R Y n s₀ c ((exec (.For target iter body orelse pos) env).wrap K H gd lv) fs s := by
 rw [exec_For]
 show Seg M A R Y n s₀ c (.at pos fun ι => (eval iter env >>= fun v => foldedSetIterable iter env v >>= fun x => standAt iter.pos >>= fun ι => holding [x] (pyIter x) >>= fun it => runOwn (.forLoop target it body orelse env) env).wrap K H gd lv) fs s
 refine seg_at ?_
 rw [Sem.bind_eq_wrap', Sem.wrap_wrap]
 refine seg_wrap (wpAny_mono h (fun x s₁ h₁ => ?_) fun ι ι z => z.elim)
 rw [hs x]
 show Seg M A R Y n s₀ c ((standAt iter.pos >>= fun ι => holding [x] (pyIter x) >>= fun it => runOwn (.forLoop target it body orelse env) env).wrap K H gd lv) fs s₁
 refine seg_at ?_
 show Seg M A R Y n s₀ c ((holding [x] (pyIter x) >>= fun it => runOwn (.forLoop target it body orelse env) env).wrap K H gd lv) fs s₁
 rw [Sem.bind_eq_wrap', Sem.wrap_wrap]
 refine seg_wrap (wpAny_holding (wpAny_mono h₁ (fun it s₂ h₂ => ?_) fun ι ι z => z.elim))
 exact seg_call h₂
end
section
variable {prog : Program} {w : World} {A : Around} {R : GenEnd} {Y : Protocol} {n : Nat} {s₀ : Shared} {fs : List Frame} {s : Shared} {env : Env}
theorem seg_forLoop {target : Expr} {it : Value} {body orelse : List Stmt} (ht : ∀ v, letOwnedTupleGo target it v = pure ())
  (h : wpAny (model prog w) (A.over (.forLoop target it body orelse env) fs) (pyNext it) (fun r s' => match r with
   | none => Seg (model prog w) A R Y n s₀ (.block orelse env) ((model prog w).den (.block orelse env)) fs s'
   | some v => wpAny (model prog w) (A.over (.forLoop target it body orelse env) fs) (assign target env v) (fun ι s₂ =>
     Seg (model prog w) A R Y n s₀ (.forLoop target it body orelse env) ((execs body env).wrap (fun f => match f with
      | .next | .cont => .pure (.again (.forLoop target it body orelse env))
      | .brk => .pure (.done .next)
      | .ret v => .pure (.done (.ret v))) (fun e => (do noteFrame e env; theTreesLotGoes e : Sem Unit).wrap (fun ι => .raise e) .raise id id) id id) fs s₂) (fun ι ι => False) s') (fun ι ι => False) s) :
  Seg (model prog w) A R Y n s₀ (.forLoop target it body orelse env) ((model prog w).den (.forLoop target it body orelse env)) fs s := by
 show Seg _ A R Y n s₀ _ ((forTurn target it body orelse env).onRaise (fun x => do noteFrame x env; theTreesLotGoes x)) fs s
 unfold forTurn
 rw [Sem.onRaise_eq_wrap]
 show Seg _ A R Y n s₀ _ (.at target.pos fun ι => Sem.wrap _ _ _ _ ((pyNext it).onRaise (fun ι => standAt { target.pos with line := 0 }) >>= _)) fs s
 refine seg_at ?_
 rw [Sem.bind_eq_wrap', Sem.onRaise_eq_wrap, Sem.wrap_wrap, Sem.wrap_wrap]
 refine seg_wrap (wpAny_mono h (fun r s' h' => ?_) fun ι ι z => z.elim)
 cases r with
 | none => exact seg_again rfl h'
 | some v =>
  show Seg _ A R Y n s₀ _ (Sem.wrap _ _ _ _ (letOwnedTupleGo target it v >>= _)) fs s'
  rw [ht v]
  show Seg _ A R Y n s₀ _ (Sem.wrap _ _ _ _ (assign target env v >>= _)) fs s'
  rw [Sem.bind_eq_wrap', Sem.wrap_wrap]
  refine seg_wrap (wpAny_mono h' (fun ι s₂ h₂ => ?_) fun ι ι z => z.elim)
  show Seg _ A R Y n s₀ _ (Sem.wrap _ _ _ _ (execs body env >>= _)) fs s₂
  rw [Sem.bind_eq_wrap', Sem.wrap_wrap]
  rw [Sem.wrap_congr (execs body env) _ _ (K' := fun f => match f with
      | .next | .cont => .pure (.again (.forLoop target it body orelse env))
      | .brk => .pure (.done .next)
      | .ret v => .pure (.done (.ret v))) (H' := (fun e => (do noteFrame e env; theTreesLotGoes e : Sem Unit).wrap (fun ι => .raise e) .raise id id))
    (fun f => by cases f <;> rfl)
    (fun e => by first | exact Sem.bind_eq_wrap _ _ | (show (do noteFrame e env; theTreesLotGoes e : Sem Unit).bind (fun ι => .raise e) = _; rw [Sem.bind_eq_wrap]))]
  exact h₂
theorem seg_block {orelse : List Stmt} (h : Seg (model prog w) A R Y n s₀ (.block orelse env) ((execs orelse env).wrap (fun f => .pure (.done f)) (fun e => (do noteFrame e env; theTreesLotGoes e : Sem Unit).wrap (fun ι => .raise e) .raise id id) id id) fs s) : Seg (model prog w) A R Y n s₀ (.block orelse env) ((model prog w).den (.block orelse env)) fs s := by
 show Seg _ A R Y n s₀ _ ((execs orelse env).onRaise (fun x => do noteFrame x env; theTreesLotGoes x) >>= _) fs s
 rw [Sem.bind_eq_wrap', Sem.onRaise_eq_wrap, Sem.wrap_wrap]
 rw [Sem.wrap_congr (execs orelse env) _ _ (K' := fun f => (.pure (.done f) : Sem Fin)) (H' := (fun e => (do noteFrame e env; theTreesLotGoes e : Sem Unit).wrap (fun ι => .raise e) .raise id id))
  (fun f => by cases f <;> rfl) (fun e => by rw [Sem.bind_eq_wrap, Sem.wrap_wrap]; rfl)]
 exact h
end
end Mine
namespace Mine
section
variable {M : Model} {A : Around} {R : GenEnd} {Y : Protocol} {n : Nat} {s₀ : Shared} {c : Code} {fs : List Frame} {s : Shared} {env : Env}
 {K : Flow → Sem Fin} {H : Value → Sem Fin} {gd : Bool → Bool} {lv : List Value → List Value}
theorem seg_If {test : Expr} {body orelse : List Stmt} {pos : Pos}
  (h : wpAny M (A.over c fs) (isTrue test env (eval test env)) (fun b s' => if b then Seg M A R Y n s₀ c ((execs body env).wrap K H gd lv) fs s' else Seg M A R Y n s₀ c ((execs orelse env).wrap K H gd lv) fs s') (fun ι ι => False) s) :
  Seg M A R Y n s₀ c ((exec (.If test body orelse pos) env).wrap K H gd lv) fs s := by
 rw [exec_If]
 show Seg M A R Y n s₀ c (.at pos fun ι => (isTrue test env (eval test env) >>= fun b => if b then execs body env else execs orelse env).wrap K H gd lv) fs s
 refine seg_at ?_
 rw [Sem.bind_eq_wrap', Sem.wrap_wrap]
 refine seg_wrap (wpAny_mono h (fun b s' hb => ?_) fun ι ι z => z.elim)
 cases b with
 | true => exact hb
 | false => exact hb
end
noncomputable abbrev gQual : Str := "_grouping_intervals"
noncomputable abbrev gTgt : Expr := .Name "interval" ⟨8, 8, 8, 16⟩
noncomputable abbrev gBody : List Stmt := [
 .If (.Compare (.Name "interval" ⟨9, 11, 9, 19⟩) [.Eq] [.Name "CHAR_MAX" ⟨9, 23, 9, 31⟩] ⟨9, 11, 9, 31⟩) [.Return none ⟨10, 12, 10, 18⟩] [] ⟨9, 8, 10, 18⟩,
 .If (.Compare (.Name "interval" ⟨11, 11, 11, 19⟩) [.Eq] [.Constant (.int 0) 0 ⟨11, 23, 11, 24⟩] ⟨11, 11, 11, 24⟩) [
  .If (.Compare (.Name "last_interval" ⟨12, 15, 12, 28⟩) [.Is] [.Constant .none 0 ⟨12, 32, 12, 36⟩] ⟨12, 15, 12, 36⟩) [.Raise (some (.Call (.Name "ValueError" ⟨13, 22, 13, 32⟩) [.Constant (.str "invalid grouping") 0 ⟨13, 33, 13, 51⟩] [] ⟨13, 22, 13, 52⟩)) none ⟨13, 16, 13, 52⟩] [] ⟨12, 12, 13, 52⟩,
  .While (.Constant (.bool true) 0 ⟨14, 18, 14, 22⟩) [.Expr (.Yield (some (.Name "last_interval" ⟨15, 22, 15, 35⟩)) ⟨15, 16, 15, 35⟩) ⟨15, 16, 15, 35⟩] [] ⟨14, 12, 15, 35⟩] [] ⟨11, 8, 15, 35⟩,
 .Expr (.Yield (some (.Name "interval" ⟨16, 14, 16, 22⟩)) ⟨16, 8, 16, 22⟩) ⟨16, 8, 16, 22⟩,
 .Assign [.Name "last_interval" ⟨17, 8, 17, 21⟩] (.Name "interval" ⟨17, 24, 17, 32⟩) ⟨17, 8, 17, 32⟩]
theorem seg_Return_none {M : Model} {A : Around} {R : GenEnd} {Y : Protocol} {n : Nat} {s₀ : Shared} {c : Code} {fs : List Frame} {s : Shared} {env : Env}
 {K : Flow → Sem Fin} {H : Value → Sem Fin} {gd : Bool → Bool} {lv : List Value → List Value} {pos : Pos} (h : Seg M A R Y n s₀ c (K (.ret .none)) fs s) : Seg M A R Y n s₀ c ((exec (.Return none pos) env).wrap K H gd lv) fs s := by
 rw [exec_Return_none]
 exact seg_at h
structure GRel (b₀ : Heap) (L it : Addr) (s₀ s : Shared) : Prop where
 gens : s.gens = s₀.gens
 os : s.os = s₀.os
 keep : ∀ b o, b ≠ L → b ≠ it → s₀.heap.get? b = some o → s.heap.get? b = some o
 cls : ∀ o, s₀.heap.get? it = some o → o.cls = .type "list_iterator" ∧ ∃ vs, o.data = .fields vs
 bit : b₀.get? it = none
structure GLoop (b₀ : Heap) (r L it : Addr) (its : Array Value) (ruler : List Int) (i : Nat) (h : Heap) : Prop where
 st : b₀.StaysIn h
 lst : h.IsList r its
 ite : h.IsListIter it r i
 ns : ∃ m, h.Ns L m ∧ (i = 0 → m "last_interval" = some .none) ∧ (∀ k, i = k + 1 → ∃ x t, ruler[k]? = some x ∧ m "last_interval" = some (.int x t))
structure GYield (b₀ : Heap) (r L it : Addr) (its : Array Value) (ruler : List Int) (i : Nat) (h : Heap) : Prop where
 st : b₀.StaysIn h
 lst : h.IsList r its
 ite : h.IsListIter it r i
 ns : ∃ m, h.Ns L m ∧ ∀ k, i = k + 1 → ∃ x t, ruler[k]? = some x ∧ m "interval" = some (.int x t)
structure GRep (b₀ : Heap) (r L it : Addr) (x : Int) (h : Heap) : Prop where
 st : b₀.StaysIn h
 ite : ∃ i, h.IsListIter it r i
 ns : ∃ m t, h.Ns L m ∧ m "last_interval" = some (.int x t)
noncomputable def GStage (b₀ : Heap) (r L : Addr) (its : Array Value) (ruler : List Int) (p : Nat) (j : Nat) (it : Addr) (h : Heap) : Prop :=
 if j ≤ p then GYield b₀ r L it its ruler j h else ∃ x, ruler[p - 1]? = some x ∧ GRep b₀ r L it x h
noncomputable def gval (ruler : List Int) (p j : Nat) : Int := ruler.getD (min j p - 1) 0
noncomputable def GY (b₀ : Heap) (r L : Addr) (its : Array Value) (ruler : List Int) (p : Nat) (N : Nat) : Protocol := fun n s₀ v s₁ kap =>
 n = 0 ∨ ((N - n ≤ p ∨ ruler[p]? = some 0) ∧ (∃ t, v = .int (gval ruler p (N - n)) t) ∧ ∃ it, GRel b₀ L it s₀ s₁ ∧ it ≠ L ∧ it ≠ r ∧ GStage b₀ r L its ruler p (N - n) it s₁.heap ∧ ∀ s'', GStage b₀ r L its ruler p (N - n) it s''.heap → kap (.send .none) s'')
noncomputable def GP (b₀ : Heap) (p : Nat) (ruler : List Int) (L : Addr) (N : Nat) (n : Nat) (s₀ s₁ : Shared) : Prop := N - n = p ∧ ruler[p]? ≠ some 0 ∧ b₀.StaysIn s₁.heap ∧ ∃ it, GRel b₀ L it s₀ s₁ ∧ it ≠ L
noncomputable abbrev GR (b₀ : Heap) (p : Nat) (ruler : List Int) (L : Addr) (N : Nat) : GenEnd := fun n s₀ r s₁ => r = .ok (.ret .none) ∧ GP b₀ p ruler L N n s₀ s₁
section
variable {w : World} {mg mb : NM} {b₀ : Heap} {s₀ s s' : Shared} {A : Around} {r L it : Addr} {its : Array Value} {ruler : List Int} {p N n : Nat} {env : Env} {fs : List Frame} {c : Code}
theorem GRel.of {s'' : Shared} (a : GRel b₀ L it s₀ s) (e1 : s''.heap = s.heap) (e2 : s''.gens = s.gens) (e3 : s''.os = s.os) : GRel b₀ L it s₀ s'' := ⟨e2.trans a.gens, e3.trans a.os, fun b o h1 h2 e => by rw [e1]; exact a.keep b o h1 h2 e, a.cls, a.bit⟩
theorem GRel.same {h' : Heap} {t : Nat} (a : GRel b₀ L it s₀ s) (hs : Heap.SameBut L s.heap h') : GRel b₀ L it s₀ { s with heap := h', toks := t } := ⟨a.gens, a.os, fun b o h1 h2 e => (hs.2 b h1).trans (a.keep b o h1 h2 e), a.cls, a.bit⟩
theorem gen_rep {x : Int} {q1 q2 q3 q4 : Pos} (C : St w mg mb b₀) (hp : 1 ≤ p) (hz : ruler[p]? = some 0) (hx : ruler[p - 1]? = some x) (henv : env.locals = L) (hk : env.scope.kind = .function) (hl : env.kindOf "last_interval" = some .local) (hco : env.scope.isCoroutine = false) (hit : it ≠ L) (hir : it ≠ r)
  (hi : interactive env = false) (hfs : splitAtGen fs = none) (hfg : fs.any Frame.guarded = false) :
  ∀ n s₀ s, 1 ≤ n → n ≤ N - p → GRep b₀ r L it x s.heap → GRel b₀ L it s₀ s →
   Seg (model PW w) A (GR b₀ p ruler L N) (GY b₀ r L its ruler p N) n s₀ (.whileLoop (.Constant (.bool true) 0 q1) [.Expr (.Yield (some (.Name "last_interval" q2)) q3) q4] [] env) ((model PW w).den (.whileLoop (.Constant (.bool true) 0 q1) [.Expr (.Yield (some (.Name "last_interval" q2)) q3) q4] [] env)) fs s := by
 intro n
 induction n with
 | zero => intro s₀ s h; lia
 | succ n ih =>
  intro s₀ s _ hn G rel
  refine seg_whileLoop (isTrue_plain (wpAny_Constant_bool (wpAny_pure ?_)))
  rw [if_pos rfl]
  refine seg_execs_cons (seg_Expr_Yield hfs rfl hfg ?_ hco hi)
  obtain ⟨st, ⟨ii, hii⟩, m, t, hns, hm⟩ := G
  refine wpAny_Name (wpAny_loadName_local hk hl (henv ▸ hns) hm ?_) (by decide)
  intro kap hkap
  rcases Nat.eq_zero_or_pos n with h0 | h0
  ·exact .inl h0
  ·have hj : ¬ (N - n ≤ p) := by lia
   refine .inr ⟨.inr hz, ⟨t, ?_⟩, it, rel, hit, hir, ?_, fun s'' hs => hkap .none s'' ?_⟩
   ·unfold gval
    rw [Nat.min_eq_right (by lia)]
    simp [List.getD, hx]
   ·unfold GStage
    rw [if_neg hj]
    exact ⟨x, hx, st, ⟨ii, hii⟩, m, t, hns, hm⟩
   ·unfold GStage at hs
    rw [if_neg hj] at hs
    obtain ⟨x', hx', G'⟩ := hs
    rw [hx] at hx'; cases hx'
    refine seg_execs_nil (seg_again rfl (ih s'' s'' h0 (Nat.le_of_lt ‹_›) G' ⟨rfl, rfl, fun ι ι ι ι e => e, ?_, rel.bit⟩))
    obtain ⟨k, hk'⟩ := G'.ite
    intro o ho
    obtain ⟨o', ho', hc, hd⟩ := hk'
    rw [ho'] at ho; cases ho; exact ⟨hc, _, hd⟩
theorem gen_for {scope : Scope} {cdv : Value} {fs : List Frame} (C : St w mg mb b₀) (hint : interactive (envOf gQual scope L 28 cdv) = false) (hh : ∀ c, (A.over c fs).handled = none)
  (hk : scope.kind = .function) (hi : scope.names.lookup ("interval" : Str) = some .local) (hl : scope.names.lookup ("last_interval" : Str) = some .local) (hg : scope.names.lookup ("CHAR_MAX" : Str) = some .globalImplicit) (hco : scope.isCoroutine = false)
  (hfs : splitAtGen fs = none) (hfg : fs.any Frame.guarded = false)
  (hend : ∀ (n : Nat) (s₀ s : Shared) (c : Code) (fl : Flow), fl = .next ∨ fl = .ret .none → GP b₀ p ruler L N n s₀ s → Seg (model PW w) A (GR b₀ p ruler L N) (GY b₀ r L its ruler p N) n s₀ c (leafOf (.ok fl)) fs s)
  (hits : ∀ (i : Nat) (x : Int), ruler[i]? = some x → ∃ t, its[i]? = some (Value.int x t)) (hlen : p ≤ ruler.length) (hsz : its.size = ruler.length)
  (hstop : ruler[p]? = some 0 ∨ ruler[p]? = some 127 ∨ ruler[p]? = none) (hgo : ∀ i x, i < p → ruler[i]? = some x → x ≠ 0 ∧ x ≠ 127) (hp : ruler[p]? = some 0 → 1 ≤ p) (hN : p < N)
  (hit : it ≠ L) (hir : it ≠ r) (hrL : r ≠ L) (bL : b₀.get? L = none) (bit : b₀.get? it = none) :
  ∀ n i s₀ s, n + i = N → 1 ≤ n → i ≤ p → GLoop b₀ r L it its ruler i s.heap → GRel b₀ L it s₀ s →
   Seg (model PW w) A (GR b₀ p ruler L N) (GY b₀ r L its ruler p N) n s₀ (.forLoop gTgt (.ref it) gBody [] (envOf gQual scope L 28 cdv)) ((model PW w).den (.forLoop gTgt (.ref it) gBody [] (envOf gQual scope L 28 cdv))) fs s := by
 intro n
 induction n with
 | zero => intro i s₀ s _ h; lia
 | succ n ih =>
  intro i s₀ s hni _ hip G rel
  obtain ⟨st, hlst, hite, m, hns, hm0, hm1⟩ := G
  refine seg_forLoop (fun ι => rfl) ?_
  cases hx : ruler[i]? with
  | none =>
   have e : i = p := by
    have := List.getElem?_eq_none_iff.mp hx
    lia
   refine wpAny_pyNext_list_end (hh _) hite hlst (by rw [Array.getElem?_eq_none_iff, hsz]; exact List.getElem?_eq_none_iff.mp hx) fun h₁ hs₁ => ?_
   refine seg_block (seg_execs_nil (hend _ _ _ _ .next (.inl rfl) ⟨by lia, by rw [← e, hx]; simp, fun b o e => hs₁ b o (fun q => by rw [q, bit] at e; exact no_some e) (st b o e), it, ⟨rel.gens, rel.os, fun b o h1 h2 e => hs₁ b o h2 (rel.keep b o h1 h2 e), rel.cls, rel.bit⟩, hit⟩))
  | some x =>
   obtain ⟨t, hxt⟩ := hits i x hx
   refine wpAny_pyNext_list_item hite hlst hxt fun h₁ hite1 hs₁ => ?_
   have hns1 : h₁.Ns L m := hns.sameBut hs₁ (Ne.symm hit)
   refine wpAny_assign_Name (wpAny_storeName_local (show (envOf gQual scope L 28 cdv).kindOf "interval" = some .local from hi) hns1 (fun h₂ hns2 hs2 => ?_) (by show (scope.kind == .class || (scope.kind == .module && _)) = false; rw [hk]; rfl))
   have hite2 : h₂.IsListIter it r (i + 1) := Heap.IsListIter.extBut hite1 hs2.extBut hit
   have hlst2 : h₂.IsList r its := Heap.IsList.extBut (Heap.IsList.extBut hlst hs₁.extBut (Ne.symm hir)) hs2.extBut hrL
   have rel2 : GRel b₀ L it s₀ { s with heap := h₂, toks := s.toks + 1 } := ⟨rel.gens, rel.os, fun b o h1 h2 e => hs2.extBut b o h1 (hs₁.extBut b o h2 (rel.keep b o h1 h2 e)), rel.cls, rel.bit⟩
   have st2 : b₀.StaysIn h₂ := fun b o e => hs2.extBut b o (fun (q : b = L) => by rw [q, bL] at e; exact no_some e) (hs₁.extBut b o (fun q => by rw [q, bit] at e; exact no_some e) (st b o e))
   refine seg_execs_cons (seg_If (wpAny_isTrue_Compare1 (wpAny_Name (wpAny_loadName_local hk (show (envOf gQual scope L 28 cdv).kindOf "interval" = some .local from hi) hns2 (if_pos rfl) (name_top C st2 rfl hk hg (v := .int 127 196) (by k_is) (by decide) ?_)) (by decide))))
   walk1
   walk1
   have hkI : (envOf gQual scope L 28 cdv).kindOf "interval" = some .local := hi
   have hkL : (envOf gQual scope L 28 cdv).kindOf "last_interval" = some .local := hl
   by_cases h127 : x = 127
   ·subst h127
    rw [if_pos (show (_ == _) = true from rfl)]
    have e : i = p := by
     rcases Nat.lt_or_ge i p with q | q
     ·exact absurd rfl (hgo i 127 q hx).2
     ·lia
    refine seg_execs_cons (seg_Return_none (hend _ _ _ _ (.ret .none) (.inr rfl) ⟨by lia, by rw [← e, hx]; decide, st2, it, rel2.of rfl rfl rfl, hit⟩))
   rw [if_neg (by simpa using h127)]
   refine seg_execs_nil (seg_execs_cons (seg_If (wpAny_isTrue_Compare1 (wpAny_Name (wpAny_loadName_local hk hkI hns2 (if_pos rfl) (wpAny_Constant_int ?_)) (by decide)))))
   walk1
   walk1
   by_cases h00 : x = 0
   ·subst h00
    rw [if_pos (show (_ == _) = true from rfl)]
    have e : i = p := by
     rcases Nat.lt_or_ge i p with q | q
     ·exact absurd rfl (hgo i 0 q hx).1
     ·lia
    subst e
    obtain ⟨k, rfl⟩ : ∃ k, i = k + 1 := ⟨i - 1, by have := hp hx; lia⟩
    obtain ⟨y, ty, hy, hmy⟩ := hm1 k rfl
    refine seg_execs_cons (seg_If (wpAny_isTrue_Compare1 (wpAny_Name (wpAny_loadName_local hk hkL hns2 ((if_neg (by decide)).trans hmy) (wpAny_Constant_none ?_)) (by decide))))
    walk1
    walk1
    rw [if_neg (by decide)]
    refine seg_execs_nil (seg_execs_cons (seg_While fun q => ?_))
    refine gen_rep C (Nat.succ_pos _) hx hy rfl hk hkL hco hit hir hint ?_ ?_ (n + 1) s₀ _ ‹_› (by lia) ⟨st2, ⟨_, hite2⟩, _, ty, hns2, (if_neg (by decide)).trans hmy⟩ (rel2.of rfl rfl rfl)
    ·simp only [splitAtGen, hfs, Option.map_none]
    ·simp only [List.any_cons, hfg]; rfl
   rw [if_neg (by simpa using h00)]
   have hlt : i < p := by
    rcases Nat.lt_or_ge i p with q | q
    ·exact q
    ·have e : i = p := (Nat.le_antisymm ‹_› ‹_›)
     rw [← e, hx] at hstop
     rcases hstop with q | q | q
     ·exact absurd (Option.some.inj q) h00
     ·exact absurd (Option.some.inj q) h127
     ·cases q
   refine seg_execs_nil (seg_execs_cons (seg_Expr_Yield hfs rfl hfg ?_ hco hint))
   refine wpAny_Name (wpAny_loadName_local hk hkI hns2 (if_pos rfl) ?_) (by decide)
   intro kap hkap
   rcases Nat.eq_zero_or_pos n with h0 | h0
   ·exact .inl h0
   ·have hj : N - n = i + 1 := by rw [← hni, Nat.add_assoc, Nat.add_sub_cancel_left, Nat.add_comm]
    refine .inr ⟨.inl (by lia), ⟨t, ?_⟩, it, rel2.of rfl rfl rfl, hit, hir, ?_, fun s'' hs => hkap .none s'' ?_⟩
    ·unfold gval
     rw [hj, Nat.min_eq_left ‹_›]
     simp [List.getD, hx]
    ·unfold GStage
     rw [hj, if_pos (by lia)]
     exact ⟨st2, hlst2, hite2, _, hns2, fun k e => ⟨x, t, by cases e; exact hx, if_pos rfl⟩⟩
    ·unfold GStage at hs
     rw [hj, if_pos (by lia)] at hs
     obtain ⟨st3, hlst3, hite3, m₃, hns3, hm3⟩ := hs
     obtain ⟨y, ty, hy, hmy⟩ := hm3 i rfl
     refine seg_execs_cons (seg_wrap (wpAny_Assign_Name (wpAny_Name (wpAny_loadName_local hk hkI hns3 hmy (wpAny_storeName_local hkL hns3 (fun h₄ hns4 hs4 => ?_) (by show (scope.kind == .class || (scope.kind == .module && _)) = false; rw [hk]; rfl))) (by decide))))
     refine seg_execs_nil (seg_again rfl (ih (i + 1) s'' _ (by lia) ‹_› ‹_› ⟨?_, ?_, ?_, _, hns4, fun q => by lia, fun k e => ⟨y, ty, by cases e; exact hy, if_pos rfl⟩⟩ ⟨rfl, rfl, fun b o h1 h2 e => hs4.extBut b o h1 e, ?_, rel.bit⟩))
     ·exact fun b o e => hs4.extBut b o (fun (q : b = L) => by rw [q, bL] at e; exact no_some e) (st3 b o e)
     ·exact Heap.IsList.extBut hlst3 hs4.extBut hrL
     ·exact Heap.IsListIter.extBut hite3 hs4.extBut hit
     ·obtain ⟨o', ho', hc, hd⟩ := hite3
      intro o ho
      rw [ho'] at ho; cases ho; exact ⟨hc, _, hd⟩
end
end Mine
namespace Mine
noncomputable abbrev gScope : Scope := { kind := .function, names := [("grouping", .local), ("last_interval", .local), ("interval", .local), ("CHAR_MAX", .globalImplicit), ("ValueError", .globalImplicit)], isGenerator := true, isCoroutine := false, more := [] }
noncomputable abbrev gAll : List Stmt := [.Assign [.Name "last_interval" ⟨7, 4, 7, 17⟩] (.Constant .none 0 ⟨7, 20, 7, 24⟩) ⟨7, 4, 7, 24⟩, .For gTgt (.Name "grouping" ⟨8, 20, 8, 28⟩) gBody [] ⟨8, 4, 17, 32⟩]
structure GSt0 (b₀ : Heap) (r L : Addr) (its : Array Value) (h : Heap) : Prop where
 st : b₀.StaysIn h
 lst : h.IsList r its
 ns : ∃ m, h.Ns L m ∧ m "grouping" = some (.ref r)
structure Ruler (b₀ : Heap) (r L : Addr) (its : Array Value) (ruler : List Int) (p N : Nat) : Prop where
 hits : ∀ (i : Nat) (x : Int), ruler[i]? = some x → ∃ t, its[i]? = some (Value.int x t)
 hlen : p ≤ ruler.length
 hsz : its.size = ruler.length
 hstop : ruler[p]? = some 0 ∨ ruler[p]? = some 127 ∨ ruler[p]? = none
 hgo : ∀ i x, i < p → ruler[i]? = some x → x ≠ 0 ∧ x ≠ 127
 hp : ruler[p]? = some 0 → 1 ≤ p
 hN : p < N
 hrL : r ≠ L
 bL : b₀.get? L = none
section
variable {w : World} {mg mb : NM} {b₀ : Heap} {s₀ s s' : Shared} {A : Around} {r L it : Addr} {its : Array Value} {ruler : List Int} {p N n : Nat} {fs : List Frame} {c : Code} {cdv : Value}
theorem gen_fresh (C : St w mg mb b₀) (hh : A.handled = none) (Ru : Ruler b₀ r L its ruler p N) (G : GSt0 b₀ r L its s.heap) :
  Seg (model PW w) A (GR b₀ p ruler L N) (GY b₀ r L its ruler p N) N s (.func gAll (envOf gQual gScope L 28 cdv)) ((model PW w).den (.func gAll (envOf gQual gScope L 28 cdv))) [] s := by
 obtain ⟨st, hlst, m, hns, hm⟩ := G
 obtain ⟨hits, hlen, hsz, hstop, hgo, hp, hN, hrL, bL⟩ := Ru
 refine seg_func (seg_execs_cons (seg_wrap (wpAny_Assign_Name (wpAny_Constant_none (wpAny_storeName_local rfl hns (fun h₁ hns1 hs₁ => ?_) rfl)))))
 have st1 : b₀.StaysIn h₁ := fun b o e => hs₁.extBut b o (fun (q : b = L) => by rw [q, bL] at e; exact no_some e) (st b o e)
 have hl₁ : h₁.IsList r its := Heap.IsList.extBut hlst hs₁.extBut hrL
 refine seg_execs_cons (seg_For (fun ι => rfl) (wpAny_Name (wpAny_loadName_local rfl rfl hns1 ((if_neg (by decide)).trans hm) (wpAny_pyIter_list hl₁ fun q => ?_)) (by decide)))
 have keep : ∀ b o, h₁.get? b = some o → (h₁.push { cls := .type "list_iterator", data := .fields #[.ref r, .int 0 0] }).get? b = some o := fun b o e => Heap.get?_push_of_some _ e
 have hL1 : h₁.get? h₁.objs.size = none := get_size _
 have st2 : b₀.StaysIn (h₁.push { cls := .type "list_iterator", data := .fields #[.ref r, .int 0 0] }) := fun b o e => keep b o (st1 b o e)
 have hns2 := hns1.at' fun o e => keep L o e
 have bit : b₀.get? h₁.objs.size = none := by
  cases e : b₀.get? h₁.objs.size with
  | none => rfl
  | some o => exact absurd (st1 _ o e) (by rw [hL1]; simp)
 have itL : h₁.objs.size ≠ L := fun e => by
  obtain ⟨o, es, ep, e', _⟩ := hns1
  have e2 : h₁.get? L = some o := e'
  rw [← e, hL1] at e2; cases e2
 have itr : h₁.objs.size ≠ r := fun e => by
  obtain ⟨o, e', _⟩ := hl₁
  rw [← e, hL1] at e'; cases e'
 refine gen_for C rfl (fun c => ?_) rfl rfl rfl rfl rfl ?_ ?_ (fun n s₀ s c fl hfl hP => ?_) hits hlen hsz hstop hgo hp hN itL itr hrL bL bit N 0 s _ (by lia) (by lia) (Nat.zero_le _) ⟨st2, ?_, ?_, _, hns2, fun ι => if_pos rfl, fun k e => by lia⟩ ⟨rfl, rfl, fun b o h1 h2 e => keep b o (hs₁.extBut b o h1 e), fun o e => ?_, bit⟩
 ·exact hh
 ·rfl
 ·rfl
 ·refine seg_leaf _ ?_
  rcases hfl with rfl | rfl
  ·exact seg_end (.ok (.ret .none)) ⟨rfl, hP⟩
  ·exact seg_end (.ok (.ret .none)) ⟨rfl, hP⟩
 ·obtain ⟨o, e', q⟩ := hl₁
  exact ⟨o, keep r o e', q⟩
 ·exact ⟨_, Heap.get?_push_size _ rfl, rfl, rfl⟩
 ·have : h₁.get? h₁.objs.size = some o := hs₁.extBut _ o itL e
  rw [hL1] at this; cases this
end
end Mine
namespace Mine
section
variable {prog : Program} {w : World} {A : Around} {E : VP} {s : Shared}
theorem nextOf_gen {a : Addr} {g n : Nat} {gs : GenState} {P : Nat → Shared → Shared → Prop} {Y : Protocol} {Q : VP} (hh : A.handled = none)
  (hl : s.heap.NoLimit) (hroom : A.depth < recursionLimit)
  (hg : s.heap.IsGen a g) (hgs : s.gens[g]? = some gs)
  (hgo : gs.Goes (model prog w) A.in1 (fun n s₀ r s₁ => r = .ok (.ret .none) ∧ P n s₀ s₁) Y n (.send .none) (s.setGen g .running))
  (hY : ∀ v s₁ gs', gs'.bare = true → Y (n - 1) (s.setGen g .running) v s₁ (fun r' s'' => match n with
    | 0 => False
    | m + 1 => gs'.Goes (model prog w) A.in1 (fun n s₀ r s₁ => r = .ok (.ret .none) ∧ P n s₀ s₁) Y m r' s'') → Q v (s₁.setGen g gs'))
  (hP : ∀ s₁, P n (s.setGen g .running) s₁ → ∀ h' e, (∀ b o, s₁.heap.get? b = some o → h'.get? b = some o) → (∃ o, h'.get? e = some o ∧ o.cls = .type "StopIteration") → E (.ref e) { s₁.setGen g .finished with heap := h' }) :
  wpAny (model prog w) A (Builtin.SmallTypes.nextOf (.ref a)) Q E s := by
 unfold Builtin.SmallTypes.nextOf
 refine wpAny_bind (wpAny_callSpecial?_slot (name := Str.ofString "__next__") hg.typeIs slot_gen_next
  (wpAny_call_entry slot_gen_next hg.typeIs entry_gen_next ?_ (args_gen_next _)))
 show wpAny _ A.in1 (Builtin.Generator.genWake (.ref a) (.send .none)) _ _ s
 unfold Builtin.Generator.genWake
 refine wpAny_bind (wpAny_holding (wpAny_genNumber hg (wpAny_bind (wpAny_genState hgs ?_))))
 cases gs with
 | running => exact hgo.elim
 | finished => exact hgo.elim
 | _ =>
  refine wpAny_bind (wpAny_roomToWake hl hroom ?_)
  show wpAny _ A.in1 (.resume g (.send .none) [] _) _ _ s
  refine wpAny_resumeQ hgs hgo (fun x s₁ hx => ?_) (fun v s₁ gs' hb hv => ?_)
  ·obtain ⟨rfl, hp⟩ := hx
   show wpAny _ A.in1 (newExc (.type "StopIteration") [] >>= _) _ _ _
   refine wpAny_bind (new_stop fun h' e k he => ?_)
   exact wpAny_bind (raise_new hh (hP s₁ hp h' e k he))
  ·exact wpAny_pure ⟨v, rfl, wpAny_pure (hY v s₁ gs' hb hv)⟩
end
section
variable {w : World} {mg mb : NM} {b₀ : Heap} {s₀ s s' : Shared} {A : Around} {r L it a g : Nat} {its : Array Value} {ruler : List Int} {p N n j : Nat} {fs : List Frame} {c : Code} {cdv : Value} {E : VP}
structure GAt (w : World) (A : Around) (b₀ : Heap) (r L : Addr) (its : Array Value) (ruler : List Int) (p N : Nat) (a : Addr) (g : Nat) (j : Nat) (s : Shared) : Prop where
 gen : s.heap.IsGen a g
 aL : a ≠ L
 go : ∃ gs, s.gens[g]? = some gs ∧ ((j = 0 ∧ GSt0 b₀ r L its s.heap ∧ ∀ s'', GSt0 b₀ r L its s''.heap → gs.Goes (model PW w) A (GR b₀ p ruler L N) (GY b₀ r L its ruler p N) N (.send .none) s'') ∨
  (0 < j ∧ ∃ it, it ≠ L ∧ it ≠ r ∧ GStage b₀ r L its ruler p j it s.heap ∧ ∀ s'', GStage b₀ r L its ruler p j it s''.heap → gs.Goes (model PW w) A (GR b₀ p ruler L N) (GY b₀ r L its ruler p N) (N - j) (.send .none) s''))
structure GKp (b₀ : Heap) (L g : Nat) (s s' : Shared) : Prop where
 st : b₀.StaysIn s'.heap
 heap : ∃ it, it ≠ L ∧ b₀.get? it = none ∧ (∀ o, s.heap.get? it = some o → o.cls = .type "list_iterator" ∧ ∃ vs, o.data = .fields vs) ∧ ∀ b o, b ≠ L → b ≠ it → s.heap.get? b = some o → s'.heap.get? b = some o
 os : s'.os = s.os
 gens : GenOnlyQ g s.gens s'.gens
theorem gpull {Q : VP} (R : A.handled = none) (hl : s.heap.NoLimit) (hroom : A.depth < recursionLimit) (G : GAt w A.in1 b₀ r L its ruler p N a g j s) (hj : j + 2 ≤ N)
  (hQ : (j < p ∨ ruler[p]? = some 0) → ∀ s' t, GAt w A.in1 b₀ r L its ruler p N a g (j + 1) s' → GKp b₀ L g s s' → Q (.int (gval ruler p (j + 1)) t) s')
  (hE : j = p → ruler[p]? ≠ some 0 → ∀ s' e, GKp b₀ L g s s' → (∃ o, s'.heap.get? e = some o ∧ o.cls = .type "StopIteration") → E (.ref e) s') :
  wpAny (model PW w) A (Builtin.SmallTypes.nextOf (.ref a)) Q E s := by
 obtain ⟨hg, aL, gs, hgs, hgo⟩ := G
 have go : gs.Goes (model PW w) A.in1 (GR b₀ p ruler L N) (GY b₀ r L its ruler p N) (N - j) (.send .none) (s.setGen g .running) := by
  rcases hgo with ⟨rfl, h0, h1⟩ | ⟨_, it, _, _, h0, h1⟩
  ·exact h1 _ h0
  ·exact h1 _ h0
 have hjN : j < N := Nat.lt_of_lt_of_le (Nat.lt_succ_of_lt (Nat.lt_succ_self j)) hj
 obtain ⟨m, hm⟩ := pred_of (Nat.sub_pos_of_lt hjN)
 have hN : N = j + (m + 1) := (hm ▸ (Nat.add_sub_of_le (Nat.le_of_lt hjN)).symm : N = j + (m + 1))
 rw [hm] at go
 refine nextOf_gen (P := GP b₀ p ruler L N) R hl hroom hg hgs go (fun v s₁ gs' hb hv => ?_) (fun s₁ hp h' e hk he => ?_)
 ·rcases hv with h | ⟨hc, ⟨t, rfl⟩, it, rel, h1, h2, hst, hkap⟩
  ·lia
  have ej : N - (m + 1 - 1) = j + 1 := by rw [Nat.add_sub_cancel, hN, Nat.add_comm m 1, ← Nat.add_assoc, Nat.add_sub_cancel]
  rw [ej] at hc hst hkap
  show Q (.int (gval ruler p (N - (m + 1 - 1))) t) _
  rw [ej]
  refine hQ ?_ _ t ⟨?_, aL, gs', setGen_self (gs := .running) ?_, .inr ⟨(Nat.succ_pos _), it, h1, h2, hst, fun s'' hs => ?_⟩⟩ ⟨?_, ⟨it, h1, rel.bit, rel.cls, fun b o b1 b2 e => rel.keep b o b1 b2 e⟩, rel.os, ?_⟩
  ·rcases hc with q | q
   ·exact .inl q
   ·exact .inr q
  ·obtain ⟨o, nm, qn, ho, hcl, r⟩ := hg
   exact ⟨o, nm, qn, rel.keep a o aL (fun q => by have := (rel.cls o (q ▸ ho)).1; rw [hcl] at this; exact absurd (Value.type.inj this) (by decide)) ho, hcl, r⟩
  ·rw [rel.gens]; exact setGen_self hgs
  ·have em : m = N - (j + 1) := by rw [← Nat.sub_sub, hm, Nat.add_sub_cancel]
   subst em
   exact hkap s'' hs
  ·unfold GStage at hst
   split at hst
   ·exact hst.st
   ·exact hst.choose_spec.2.st
  ·have e1 := GenOnly.setGen s g .running
   have e2 := GenOnly.setGen s₁ g gs'
   rw [rel.gens] at e2
   exact GenOnlyQ.of (e1.trans e2) (setGen_self (gs := .running) (by rw [rel.gens]; exact setGen_self hgs)) hb
 ·obtain ⟨h1, h2, hst, it, rel, h3⟩ := hp
  refine hE (by rw [← h1, hN, Nat.add_sub_cancel]) h2 _ e ⟨fun b o q => hk b o (hst b o q), ⟨it, h3, rel.bit, rel.cls, fun b o b1 b2 q => hk b o (rel.keep b o b1 b2 q)⟩, rel.os, ?_⟩ he
  have e1 := GenOnly.setGen s g .running
  have e2 := GenOnly.setGen s₁ g .finished
  rw [rel.gens] at e2
  exact GenOnlyQ.of (e1.trans e2) (setGen_self (gs := .running) (by rw [rel.gens]; exact setGen_self hgs)) rfl
end
end Mine
namespace Mine
section
variable {w : World} {mg mb : NM} {b₀ : Heap} {s₀ s s' : Shared} {A : Around} {L a g : Addr} {r : Addr} {its : Array Value} {ruler : List Int} {p N n j : Nat} {cdv : Value}
theorem enter_g {R : Result → Shared → Prop} {name qual : Str} {params : Arguments} {body : List Stmt} {scope : Scope} {dV kV doc pm cdv ct oc : Value} {an od : Option Addr} {osl : Array (Option Value)} {f : Addr} {args : Args} {binds : List (Str × Value)}
  (S : Sit w mg mb b₀ s) (hroom : A.depth < recursionLimit)
  (ho : (hd.heap_1 w.params).lookup f = some ⟨oc, od, .func (fnOf name qual params body scope dV kV doc pm an cdv ct), osl⟩) (hcd : codeIn (hd.heap_1 w.params) cdv qual = true)
  (hbind : BindsTo s (fnOf name qual params body scope dV kV doc pm an cdv ct) args binds) (hloc : ∀ y ∈ binds, scope.names.lookup y.1 = some .local)
  (h : ∀ s' L a, Sit w mg mb b₀ s' → Kp [] s s' → (∀ b o, s.heap.get? b = some o → s'.heap.get? b = some o) → s'.heap.Ns L (fun y => binds.reverse.lookup y) → s'.gens = s.gens.push (.fresh (.func body (envOf qual scope L f cdv))) → s'.heap.IsGen a s.gens.size → s.heap.get? a = none → s.heap.get? L = none → a ≠ L →
   R (.ok (.ret (.ref a))) s')
  (hco : autoParam (scope.isCoroutine = false) tR) (hgen : autoParam (scope.isGenerator = true) tR) (hk : autoParam (scope.kind = .function) tR)
  (hcell : autoParam (∀ x ∈ scope.names, x.2 ≠ .cell) tD) : codeAny (model PW w) A (.call (.ref f) args) R s := by
 obtain ⟨loose, mean, T⟩ := S.C.top
 refine codeAny_call_generator (fd := fnOf name qual params body scope dV kV doc pm an cdv ct) (body := body) hroom ((S.C.K.keeps S.k) _ _ ho) rfl hco hgen rfl (codeRec_of (S.C.K.keeps S.k) hcd) (hbind _ _ _ _ ?_)
 refine wpAny_newFunctionEnv hcell hloc (fun h₁ hns hsb => ⟨(T.nolimit.keeps S.k).fresh _ hsb, ?_⟩) hk
 have hk₁ : ∀ b o, s.heap.get? b = some o → h₁.get? b = some o := fun b o e => hsb.extBut b o (Nat.ne_of_lt (Heap.lt_size e)) (Heap.get?_push_of_some _ e)
 have hsz : h₁.objs.size = s.heap.objs.size + 1 := by rw [hsb.1, Heap.size_push]
 have k2 : ∀ (o' : Obj) b o, s.heap.get? b = some o → (h₁.push o').get? b = some o := fun o' b o e => Heap.get?_push_of_some _ (hk₁ b o e)
 refine h _ s.heap.objs.size h₁.objs.size ⟨S.C, fun b o e => k2 _ b o (S.k b o e), let ⟨tb, e, q⟩ := S.t1; ⟨tb, k2 _ _ _ e, q⟩, let ⟨tb, e, q⟩ := S.t2; ⟨tb, k2 _ _ _ e, q⟩, S.n1, S.n2, ?_⟩ (Kp.of List.not_mem_nil List.not_mem_nil (fun b o ι e => k2 _ b o e) rfl) (fun b o e => k2 _ b o e) (hns.at' fun o e => Heap.get?_push_of_some _ e) rfl ⟨_, _, _, Heap.get?_push_size _ rfl, rfl, rfl, rfl⟩ ?_ (get_size _) ?_
 ·intro x hx
  rcases Array.mem_push.mp hx with q | q
  ·exact S.bare x q
  ·subst q; rfl
 ·cases e : s.heap.get? h₁.objs.size with
  | none => rfl
  | some o => exact absurd (Heap.lt_size e) (by rw [hsz]; exact Nat.not_lt.mpr (Nat.le_succ _))
 ·show @Ne Nat _ _
  rw [hsz]; exact Nat.succ_ne_self _
theorem gnew {bG : Heap} {Q : VP} (S : Sit w mg mb b₀ s) (CG : St w mg mb bG) (kG : bG.StaysIn s.heap) (R : Rm A 2) (hr : s.heap.IsList r its)
  (h : ∀ s' L a, Sit w mg mb b₀ s' → Kp [] s s' → (∀ b o, s.heap.get? b = some o → s'.heap.get? b = some o) → s'.gens.size = s.gens.size + 1 → (∀ i, i < s.gens.size → s'.gens[i]? = s.gens[i]?) → a ≠ L → s.heap.get? a = none → s.heap.get? L = none → bG.get? L = none → r ≠ L →
   (∀ (A' : Around) ruler p N, A'.handled = none → Ruler bG r L its ruler p N → GAt w A' bG r L its ruler p N a s.gens.size 0 s') → Q (.ref a) s') : wpAny (model PW w) A (call (.ref 28) [.ref r]) Q (fun ι ι => False) s := by
 refine wpAny_call ?_
 refine enter_g (binds := [("grouping", .ref r)]) S (R.dl (k := 0) (by decide)) (by k_is) (by k_is) (.of_eq rfl) (locs rfl) ?_
 intro s' L a S' k kk hns hgs hg fa fL aL
 have hrL : r ≠ L := fun e => by
  obtain ⟨o, e', _⟩ := hr
  rw [e, fL] at e'; cases e'
 have bL : bG.get? L = none := by
  cases e : bG.get? L with
  | none => rfl
  | some o => exact absurd (kG _ o e) (by rw [fL]; simp)
 have hr' : s'.heap.IsList r its := by
  obtain ⟨o, e, hc, q⟩ := hr
  exact ⟨o, k.get S e List.not_mem_nil (by rw [hc]; decide), hc, q⟩
 refine h s' L a S' k kk (by rw [hgs, Array.size_push]) (fun i hi => ?_) aL fa fL bL hrL fun A' ruler p N hh Ru => ⟨hg, aL, .fresh (.func gAll (envOf gQual gScope L 28 (.ref 27))), by rw [hgs]; exact Array.getElem?_push_size .., .inl ⟨rfl, ⟨fun b o e => kk b o (kG b o e), hr', _, hns, rfl⟩, fun s'' G => ⟨rfl, gen_fresh CG hh Ru G⟩⟩⟩
 ·rw [hgs, Array.getElem?_push_lt hi]; exact (Array.getElem?_eq_getElem hi).symm
end
end Mine
namespace Mine
section
variable {prog : Program} {w : World} {A : Around} {E : VP} {s : Shared}
theorem nextOf_range_item {it : Addr} {x left step : Int} {Q : VP} (hit : IsRangeIter s.heap it x left step) (hleft : 0 < left)
  (hQ : ∀ h', IsRangeIter h' it (x + step) (left - 1) step → Heap.SameBut it s.heap h' → Q (.int x s.toks) { s with heap := h', toks := s.toks + 1 }) :
  wpAny (model prog w) A (Builtin.SmallTypes.nextOf (.ref it)) Q E s := by
 have hT : s.TypeIs (.ref it) "range_iterator" := ⟨_, hit, rfl⟩
 unfold Builtin.SmallTypes.nextOf
 refine wpAny_bind (wpAny_callSpecial?_slot (name := Str.ofString "__next__") hT F.slot_range_iterator_next
  (call_meets F.slot_range_iterator_next hT F.entry_range_iterator_next (F.args_range_iterator_next_1 _) (AutoRange.range_iterator___next___range_iterator_1 it x left step (by lia)) ⟨hit, ?_⟩))
 exact wpAny_pure (hQ _ (Heap.get?_update_self _ (Heap.get?_update_self _ hit rfl) rfl) ((Heap.SameBut.update ..).trans (Heap.SameBut.update ..)))
theorem nextOf_range_end {it : Addr} {x left step : Int} {Q : VP} (hh : A.handled = none) (hit : IsRangeIter s.heap it x left step) (hleft : left ≤ 0)
  (hE : ∀ h' e, Heap.ExtBut it s.heap h' → (∃ o, h'.get? e = some o ∧ o.cls = .type "StopIteration") → E (.ref e) { s with heap := h' }) : wpAny (model prog w) A (Builtin.SmallTypes.nextOf (.ref it)) Q E s := by
 have hT : s.TypeIs (.ref it) "range_iterator" := ⟨_, hit, rfl⟩
 unfold Builtin.SmallTypes.nextOf
 refine wpAny_bind (wpAny_callSpecial?_slot (name := Str.ofString "__next__") hT F.slot_range_iterator_next
  (wpAny_call_entry F.slot_range_iterator_next hT F.entry_range_iterator_next ?_ (F.args_range_iterator_next_1 _)))
 show wpAny _ _ (field (.ref it) 0 >>= _) _ _ s
 refine wpAny_bind (wpAny_field hit rfl (x := rawInt x) rfl ?_)
 show wpAny _ _ (field (.ref it) 1 >>= _) _ _ s
 refine wpAny_bind (wpAny_field hit rfl (x := rawInt left) rfl ?_)
 show wpAny _ _ (field (.ref it) 2 >>= _) _ _ s
 refine wpAny_bind (wpAny_field hit rfl (x := rawInt step) rfl ?_)
 show wpAny _ _ (if left ≤ 0 then _ else _) _ _ s
 refine wp_t hleft ?_
 refine wpAny_bind (wpAny_rule ?_)
 refine wpAny_bind ?_
 exact stop_new hh fun h' e k he => hE h' e (fun b o ι q => k b o q) he
end
section
variable {w : World} {mg mb : NM} {b₀ : Heap} {s₀ s s' : Shared} {A : Around} {L a g : Addr} {r : Addr} {its : Array Value} {ruler : List Int} {p N n j : Nat} {cdv : Value}
set_option tactic.hygienic true in
theorem GStage.keep {h h' : Heap} {it : Addr} (G : GStage b₀ r L its ruler p j it h) (st : b₀.StaysIn h') (k : ∀ b o, h.get? b = some o → (b = r ∨ b = L ∨ (o.cls = .type "list_iterator" ∧ ∃ i : Nat, o.data = .fields #[.ref r, .int i 0])) → h'.get? b = some o) : GStage b₀ r L its ruler p j it h' := by
 unfold GStage at G ⊢
 split
 ·rename_i hj
  rw [if_pos hj] at G
  obtain ⟨_, ⟨o, e, q⟩, ⟨oi, ei, hc, hd⟩, m, hns, hm⟩ := G
  exact ⟨st, ⟨o, k _ _ e (.inl rfl), q⟩, ⟨oi, k _ _ ei (.inr (.inr ⟨hc, _, hd⟩)), hc, hd⟩, m, hns.at' fun o e => k _ _ e (.inr (.inl rfl)), hm⟩
 ·rename_i hj
  rw [if_neg hj] at G
  obtain ⟨x, hx, _, ⟨i, oi, ei, hc, hd⟩, m, t, hns, hm⟩ := G
  exact ⟨x, hx, st, ⟨i, oi, k _ _ ei (.inr (.inr ⟨hc, _, hd⟩)), hc, hd⟩, m, t, hns.at' fun o e => k _ _ e (.inr (.inl rfl)), hm⟩
theorem GAt.keep (G : GAt w A b₀ r L its ruler p N a g j s) (st : b₀.StaysIn s'.heap) (hg : s'.gens[g]? = s.gens[g]?) (k : ∀ b o, s.heap.get? b = some o → (b = a ∨ b = r ∨ b = L ∨ (o.cls = .type "list_iterator" ∧ ∃ i : Nat, o.data = .fields #[.ref r, .int i 0])) → s'.heap.get? b = some o) : GAt w A b₀ r L its ruler p N a g j s' := by
 obtain ⟨⟨o, nm, qn, ho, q⟩, aL, gs, hgs, hgo⟩ := G
 refine ⟨⟨o, nm, qn, k _ _ ho (.inl rfl), q⟩, aL, gs, hg.trans hgs, ?_⟩
 rcases hgo with ⟨rfl, ⟨_, ⟨ol, el, ql⟩, m, hns, hm⟩, h1⟩ | ⟨hj, it, h1, h2, h3, h4⟩
 ·exact .inl ⟨rfl, ⟨st, ⟨ol, k _ _ el (.inr (.inl rfl)), ql⟩, m, hns.at' fun o e => k _ _ e (.inr (.inr (.inl rfl))), hm⟩, h1⟩
 ·exact .inr ⟨hj, it, h1, h2, h3.keep st fun b o e q => k b o e (.inr q), h4⟩
structure ZgAp (b₀ : Heap) (z TI TO I L a r : Addr) : Prop where
 bz : b₀.get? z = none
 bO : b₀.get? TO = none
 bI : b₀.get? I = none
 zL : z ≠ L
 OL : TO ≠ L
 IL : I ≠ L
 TL : TI ≠ L
 zr : z ≠ r
 Or : TO ≠ r
 Ir : I ≠ r
 za : z ≠ a
 Oa : TO ≠ a
 Ia : I ≠ a
 zO : z ≠ TO
 zI : z ≠ I
 OI : TO ≠ I
 zT : z ≠ TI
 TO_ : TO ≠ TI
 IT : I ≠ TI
end
end Mine
namespace Mine
section
variable {w : World} {mg mb : NM} {b₀ : Heap} {s₀ s s' : Shared} {A : Around} {E : VP} {L a g : Addr} {r : Addr} {its : Array Value} {ruler : List Int} {p N n j : Nat} {cdv : Value} {z TI TO I : Addr} {x left : Int}
structure ZKp (b₀ : Heap) (z TO I L g : Nat) (s s' : Shared) : Prop where
 heap : ∃ it, it ≠ L ∧ b₀.get? it = none ∧ (∀ o, s.heap.get? it = some o → o.cls = .type "list_iterator" ∧ ∃ vs, o.data = .fields vs) ∧ ∀ b o, b ≠ z → b ≠ TO → b ≠ I → b ≠ L → b ≠ it → s.heap.get? b = some o → s'.heap.get? b = some o
 os : s'.os = s.os
 gens : GenOnlyQ g s.gens s'.gens
theorem zip_st {u v : Value} {h₃ : Heap} (D : ZgAp b₀ z TI TO I L a r) (st : b₀.StaysIn s.heap) (hz : IsZip s.heap z TI TO .none) (hTO : IsPair s.heap TO u v) (h1 : IsRangeIter s.heap I x left 1) (k₃ : ∀ b o, b ≠ z → b ≠ TO → b ≠ I → s.heap.get? b = some o → h₃.get? b = some o)
  (G : GAt w A.in1 b₀ r L its ruler p N a g j s) : b₀.StaysIn h₃ ∧ GAt w A.in1 b₀ r L its ruler p N a g j { s with heap := h₃, toks := s.toks + 1 } := by
 have st3 : b₀.StaysIn h₃ := fun b o e => k₃ b o (fun q => by rw [q, D.bz] at e; exact no_some e) (fun q => by rw [q, D.bO] at e; exact no_some e) (fun q => by rw [q, D.bI] at e; exact no_some e) (st b o e)
 refine ⟨st3, ?_⟩
 exact G.keep st3 rfl fun b o e q => by
  refine k₃ b o ?_ ?_ ?_ e
  all_goals (intro eb; rw [eb] at q e)
  ·rcases q with q | q | q | q
   ·exact D.za q
   ·exact D.zr q
   ·exact D.zL q
   ·rw [hz] at e; cases e; exact absurd (Value.type.inj q.1) (by decide)
  ·rcases q with q | q | q | q
   ·exact D.Oa q
   ·exact D.Or q
   ·exact D.OL q
   ·rw [hTO] at e; cases e; exact absurd (Value.type.inj q.1) (by decide)
  ·rcases q with q | q | q | q
   ·exact D.Ia q
   ·exact D.Ir q
   ·exact D.IL q
   ·rw [h1] at e; cases e; exact absurd (Value.type.inj q.1) (by decide)
theorem zipg_item {u v : Value} {Q : VP} (D : ZgAp b₀ z TI TO I L a r) (C : St w mg mb b₀) (hh : A.handled = none) (hroom : A.depth < recursionLimit) (st : b₀.StaysIn s.heap)
  (hz : IsZip s.heap z TI TO .none) (hTI : IsPair s.heap TI (.ref I) (.ref a)) (hTO : IsPair s.heap TO u v) (h1 : IsRangeIter s.heap I x left 1) (hleft : 0 < left) (G : GAt w A.in1 b₀ r L its ruler p N a g j s) (hj : j + 2 ≤ N) (hgo : j < p ∨ ruler[p]? = some 0) (hjp : j ≤ p ∨ ruler[p]? = some 0)
  (hQ : ∀ s' T t, IsZip s'.heap z TI TO (rawInt (T : Nat)) → IsPair s'.heap TO (.int x s.toks) (.int (gval ruler p (j + 1)) t) → IsRangeIter s'.heap I (x + 1) (left - 1) 1 → IsPair s'.heap T (.int x s.toks) (.int (gval ruler p (j + 1)) t) →
   GAt w A.in1 b₀ r L its ruler p N a g (j + 1) s' → b₀.StaysIn s'.heap → ZKp b₀ z TO I L g s s' → Q (.ref T) s') :
  wpAny (model PW w) A (Builtin.«zip.__next__» ⟨[.ref z], []⟩) (fun fin s' => ∃ v, fin = .done (.ret v) ∧ Q v s') E s := by
 show wpAny _ _ (field (.ref z) 2 >>= _) _ _ _
 refine wpAny_bind (wpAny_field hz rfl (x := .bool false) rfl ?_)
 show wpAny _ _ (field (.ref z) 3 >>= _) _ _ _
 refine wpAny_bind (wpAny_field hz rfl (x := .ref TI) rfl ?_)
 refine wpAny_bind (wpAny_seqItems hTI rfl ?_)
 show wpAny _ _ (Builtin.SmallTypes.ownedTupleIsFree (.ref z) >>= _) _ _ _
 refine wpAny_bind ?_
 unfold Builtin.SmallTypes.ownedTupleIsFree
 refine wpAny_bind (wpAny_field hz rfl (x := .none) rfl (wpAny_pure ?_))
 refine wp_t rfl ?_
 refine wpAny_bind (wpAny_rule ?_)
 refine wpAny_bind (wpAny_field hz rfl (x := .ref TO) rfl ?_)
 refine wpAny_bind (wpAny_setField_rec hz (Nat.le_of_ble_eq_true rfl) fun h₁ hz₁ hs₁ => ?_)
 replace hz₁ : IsZip h₁ z TI TO .ellipsis := hz₁
 refine wpAny_bind ?_
 refine wp_eq (forIn2 (x := (_, 0)) (y := (_, 1))) ?_
 refine wpAny_bind (wpAny_bind (wpAny_onRaise ?_))
 show wpAny _ _ (Builtin.SmallTypes.nextOf (.ref I) >>= _) _ _ _
 have h1₁ : IsRangeIter h₁ I x left 1 := hs₁.extBut _ _ (Ne.symm D.zI) h1
 refine wpAny_bind (nextOf_range_item h1₁ hleft fun h₂ h12 hs2 => wpAny_pure ?_)
 have hTO2 : IsPair h₂ TO u v := hs2.extBut _ _ D.OI (hs₁.extBut _ _ (Ne.symm D.zO) hTO)
 refine wpAny_bind (wpAny_seqItems hTO2 rfl ?_)
 refine wpAny_bind (wpAny_updateSeq_pair hTO2 fun h₃ hTO3 hs3 => ?_)
 replace hTO3 : IsPair h₃ TO (.int x s.toks) v := hTO3
 refine wpAny_bind (wpAny_letGo (wpAny_pure ?_))
 refine wpAny_bind (wpAny_bind (wpAny_onRaise ?_))
 show wpAny _ _ (Builtin.SmallTypes.nextOf (.ref a) >>= _) _ _ _
 have k₃ : ∀ b o, b ≠ z → b ≠ TO → b ≠ I → s.heap.get? b = some o → h₃.get? b = some o := fun b o c1 c2 c3 e => hs3.extBut _ _ c2 (hs2.extBut _ _ c3 (hs₁.extBut _ _ c1 e))
 have zs := zip_st D st hz hTO h1 k₃ G
 have st3 := zs.1
 have G3 := zs.2
 obtain ⟨loose, mean, Tp⟩ := C.top
 refine wpAny_bind (gpull hh (Tp.nolimit.keeps st3) hroom G3 hj (fun ι s4 t G4 kp => wpAny_pure ?_) (fun e1 e2 => ?_))
 rotate_left
 ·rcases hgo with q | q
  ·lia
  ·exact absurd q e2
 obtain ⟨st4, ⟨it, itL, itb, itc, k₄⟩, os4, gens4⟩ := kp
 have hTO4 : IsPair s4.heap TO (.int x s.toks) v := k₄ _ _ D.OL (fun q => by have := (itc _ (q ▸ hTO3)).1; exact absurd (Value.type.inj this) (by decide)) hTO3
 refine wpAny_bind (wpAny_seqItems hTO4 rfl ?_)
 refine wpAny_bind (wpAny_updateSeq_pair hTO4 fun h₅ hTO5 hs5 => ?_)
 replace hTO5 : IsPair h₅ TO (.int x s.toks) (.int (gval ruler p (j + 1)) t) := hTO5
 refine wpAny_bind (wpAny_letGo (wpAny_pure (wpAny_pure ?_)))
 refine wpAny_bind (wpAny_seqItems hTO5 rfl ?_)
 refine wpAny_bind (wpAny_newTuple ?_)
 have hz₃ : IsZip h₃ z TI TO .ellipsis := hs3.extBut _ _ D.zO (hs2.extBut _ _ D.zI hz₁)
 have hz4 : IsZip s4.heap z TI TO .ellipsis := k₄ _ _ D.zL (fun q => by have := (itc _ (q ▸ hz₃)).1; exact absurd (Value.type.inj this) (by decide)) hz₃
 have hz5 : IsZip h₅ z TI TO .ellipsis := hs5.extBut _ _ D.zO hz4
 have h13 : IsRangeIter h₃ I (x + 1) (left - 1) 1 := hs3.extBut _ _ (Ne.symm D.OI) h12
 have h14 : IsRangeIter s4.heap I (x + 1) (left - 1) 1 := k₄ _ _ D.IL (fun q => by have := (itc _ (q ▸ h13)).1; exact absurd (Value.type.inj this) (by decide)) h13
 have h15 : IsRangeIter h₅ I (x + 1) (left - 1) 1 := hs5.extBut _ _ (Ne.symm D.OI) h14
 have hzlt : z < h₅.objs.size := Heap.lt_size hz5
 show wpAny _ _ (Builtin.SmallTypes.ownedTupleHandOut (.ref z) (.ref h₅.objs.size) >>= _) _ _ _
 refine wpAny_bind ?_
 unfold Builtin.SmallTypes.ownedTupleHandOut
 have hz₆ : IsZip (h₅.push { cls := .type "tuple", data := .seq #[.int x s.toks, .int (gval ruler p (j + 1)) t] }) z TI TO .ellipsis := Heap.get?_push_of_some _ hz5
 refine wpAny_bind (wpAny_setField_rec hz₆ (Nat.le_of_ble_eq_true rfl) fun h₇ hz7 hs7 => ?_)
 replace hz7 : IsZip h₇ z TI TO (rawInt h₅.objs.size) := hz7
 refine wpAny_setField_rec hz7 (Nat.le_of_ble_eq_true rfl) fun h₈ hz8 hs8 => ?_
 replace hz8 : IsZip h₈ z TI TO (rawInt h₅.objs.size) := hz8
 have up : ∀ c o, c ≠ z → h₅.get? c = some o → h₈.get? c = some o := fun c o c1 e => hs8.extBut _ _ c1 (hs7.extBut _ _ c1 (Heap.get?_push_of_some _ e))
 have hT8 : IsPair h₈ h₅.objs.size (.int x s.toks) (.int (gval ruler p (j + 1)) t) := hs8.extBut _ _ (Nat.ne_of_gt hzlt) (hs7.extBut _ _ (Nat.ne_of_gt hzlt) (Heap.get?_push_size _ rfl))
 have up4 : ∀ c o, c ≠ z → c ≠ TO → s4.heap.get? c = some o → h₈.get? c = some o := fun c o c1 c2 e => up c o c1 (hs5.extBut _ _ c2 e)
 have kk : ∀ b o, b ≠ z → b ≠ TO → b ≠ I → b ≠ L → b ≠ it → s.heap.get? b = some o → h₈.get? b = some o := fun b o c1 c2 c3 c4 c5 e => up4 b o c1 c2 (k₄ b o c4 c5 (k₃ b o c1 c2 c3 e))
 have st8 : b₀.StaysIn h₈ := fun b o e => up4 b o (fun q => by rw [q, D.bz] at e; exact no_some e) (fun q => by rw [q, D.bO] at e; exact no_some e) (st4 b o e)
 refine wpAny_pure ⟨_, rfl, ?_⟩
 refine hQ _ _ t hz8 (up _ _ (Ne.symm D.zO) hTO5) (up _ _ (Ne.symm D.zI) h15) hT8 ?_ st8 ⟨⟨it, itL, itb, fun o e => ?_, kk⟩, os4, gens4⟩
 ·refine G4.keep st8 rfl fun b o e q => ?_
  refine up4 b o ?_ ?_ e
  all_goals (intro eb; rw [eb] at q e)
  ·rcases q with q | q | q | q
   ·exact D.za q
   ·exact D.zr q
   ·exact D.zL q
   ·rw [hz4] at e; cases e; exact absurd (Value.type.inj q.1) (by decide)
  ·rcases q with q | q | q | q
   ·exact D.Oa q
   ·exact D.Or q
   ·exact D.OL q
   ·rw [hTO4] at e; cases e; exact absurd (Value.type.inj q.1) (by decide)
 ·by_cases c1 : it = z
  ·have := (itc _ (c1 ▸ hz₃)).1; exact absurd (Value.type.inj this) (by decide)
  by_cases c2 : it = TO
  ·have := (itc _ (c2 ▸ hTO3)).1; exact absurd (Value.type.inj this) (by decide)
  by_cases c3 : it = I
  ·have := (itc _ (c3 ▸ h13)).1; exact absurd (Value.type.inj this) (by decide)
  exact itc o (k₃ it o c1 c2 c3 e)
theorem zipg_end {u v : Value} {Q : PySem.Fin → Shared → Prop} (D : ZgAp b₀ z TI TO I L a r) (C : St w mg mb b₀) (hh : A.handled = none) (hroom : A.depth < recursionLimit) (st : b₀.StaysIn s.heap)
  (hz : IsZip s.heap z TI TO .none) (hTI : IsPair s.heap TI (.ref I) (.ref a)) (hTO : IsPair s.heap TO u v) (h1 : IsRangeIter s.heap I x left 1) (G : GAt w A.in1 b₀ r L its ruler p N a g j s) (hj : j + 2 ≤ N) (hend : left ≤ 0 ∨ (j = p ∧ ruler[p]? ≠ some 0))
  (hE : ∀ s' e, b₀.StaysIn s'.heap → ZKp b₀ z TO I L g s s' → (∃ o, s'.heap.get? e = some o ∧ o.cls = .type "StopIteration") → E (.ref e) s') :
  wpAny (model PW w) A (Builtin.«zip.__next__» ⟨[.ref z], []⟩) Q E s := by
 obtain ⟨iF, iFL, iFb, iFn⟩ : ∃ it, it ≠ L ∧ b₀.get? it = none ∧ ∀ o, s.heap.get? it = some o → o.cls = .type "list_iterator" ∧ ∃ vs, o.data = .fields vs := by
  refine ⟨s.heap.objs.size, ?_, ?_, fun o e => by rw [get_size] at e; exact no_some e⟩
  have : ∃ o, s.heap.get? L = some o := by
   obtain ⟨_, _, gs, _, q⟩ := G
   rcases q with ⟨_, ⟨_, _, m, ⟨o, es, ep, e, _⟩, _⟩, _⟩ | ⟨_, it', _, _, q, _⟩
   ·exact ⟨o, e⟩
   ·unfold GStage at q
    split at q
    ·obtain ⟨m, ⟨o, es, ep, e, _⟩, _⟩ := q.ns; exact ⟨o, e⟩
    ·obtain ⟨m, t, ⟨o, es, ep, e, _⟩, _⟩ := q.choose_spec.2.ns; exact ⟨o, e⟩
  ·intro q
   obtain ⟨o, e⟩ := this
   rw [← q, get_size] at e; cases e
  ·cases e : b₀.get? s.heap.objs.size with
   | none => rfl
   | some o => have := st _ o e; rw [get_size] at this; cases this
 show wpAny _ _ (field (.ref z) 2 >>= _) _ _ _
 refine wpAny_bind (wpAny_field hz rfl (x := .bool false) rfl ?_)
 show wpAny _ _ (field (.ref z) 3 >>= _) _ _ _
 refine wpAny_bind (wpAny_field hz rfl (x := .ref TI) rfl ?_)
 refine wpAny_bind (wpAny_seqItems hTI rfl ?_)
 show wpAny _ _ (Builtin.SmallTypes.ownedTupleIsFree (.ref z) >>= _) _ _ _
 refine wpAny_bind ?_
 unfold Builtin.SmallTypes.ownedTupleIsFree
 refine wpAny_bind (wpAny_field hz rfl (x := .none) rfl (wpAny_pure ?_))
 refine wp_t rfl ?_
 refine wpAny_bind (wpAny_rule ?_)
 refine wpAny_bind (wpAny_field hz rfl (x := .ref TO) rfl ?_)
 refine wpAny_bind (wpAny_setField_rec hz (Nat.le_of_ble_eq_true rfl) fun h₁ hz₁ hs₁ => ?_)
 replace hz₁ : IsZip h₁ z TI TO .ellipsis := hz₁
 refine wpAny_bind ?_
 refine wp_eq (forIn2 (x := (_, 0)) (y := (_, 1))) ?_
 refine wpAny_bind (wpAny_bind (wpAny_onRaise ?_))
 show wpAny _ _ (Builtin.SmallTypes.nextOf (.ref I) >>= _) _ _ _
 have h1₁ : IsRangeIter h₁ I x left 1 := hs₁.extBut _ _ (Ne.symm D.zI) h1
 rcases Int.lt_or_le 0 left with hleft | hleft
 ·have he : j = p ∧ ruler[p]? ≠ some 0 := by
   rcases hend with q | q
   ·lia
   ·exact q
  refine wpAny_bind (nextOf_range_item h1₁ hleft fun h₂ h12 hs2 => wpAny_pure ?_)
  have hTO2 : IsPair h₂ TO u v := hs2.extBut _ _ D.OI (hs₁.extBut _ _ (Ne.symm D.zO) hTO)
  refine wpAny_bind (wpAny_seqItems hTO2 rfl ?_)
  refine wpAny_bind (wpAny_updateSeq_pair hTO2 fun h₃ hTO3 hs3 => ?_)
  replace hTO3 : IsPair h₃ TO (.int x s.toks) v := hTO3
  refine wpAny_bind (wpAny_letGo (wpAny_pure ?_))
  refine wpAny_bind (wpAny_bind (wpAny_onRaise ?_))
  show wpAny _ _ (Builtin.SmallTypes.nextOf (.ref a) >>= _) _ _ _
  have k₃ : ∀ b o, b ≠ z → b ≠ TO → b ≠ I → s.heap.get? b = some o → h₃.get? b = some o := fun b o c1 c2 c3 e => hs3.extBut _ _ c2 (hs2.extBut _ _ c3 (hs₁.extBut _ _ c1 e))
  have zs := zip_st D st hz hTO h1 k₃ G
  have st3 := zs.1
  have G3 := zs.2
  obtain ⟨loose, mean, Tp⟩ := C.top
  have hz₃ : IsZip h₃ z TI TO .ellipsis := hs3.extBut _ _ D.zO (hs2.extBut _ _ D.zI hz₁)
  have h13 : IsRangeIter h₃ I (x + 1) (left - 1) 1 := hs3.extBut _ _ (Ne.symm D.OI) h12
  refine wpAny_bind (gpull hh (Tp.nolimit.keeps st3) hroom G3 hj (fun q => ?_) (fun ι ι s4 e kp ho => ?_))
  ·rcases q with q | q
   ·lia
   ·exact absurd q he.2
  obtain ⟨st4, ⟨it, itL, itb, itc, k₄⟩, os4, gens4⟩ := kp
  obtain ⟨oe, hoe, hce⟩ := ho
  have hz4 : IsZip s4.heap z TI TO .ellipsis := k₄ _ _ D.zL (fun q => by have := (itc _ (q ▸ hz₃)).1; exact absurd (Value.type.inj this) (by decide)) hz₃
  have hez : e ≠ z := fun q => by subst q; rw [hz4] at hoe; cases hoe; exact absurd (Value.type.inj hce) (by decide)
  refine wpAny_setField_rec hz4 (Nat.le_of_ble_eq_true rfl) fun h₅ ι hs5 => ?_
  refine hE _ e (fun b o q => hs5.extBut _ _ (fun c => by rw [c, D.bz] at q; exact no_some q) (st4 b o q)) ⟨⟨it, itL, itb, fun o e => ?_, fun c o c1 c2 c3 c4 c5 q => hs5.extBut _ _ c1 (k₄ c o c4 c5 (k₃ c o c1 c2 c3 q))⟩, os4, gens4⟩ ⟨oe, hs5.extBut _ _ hez hoe, hce⟩
  by_cases c1 : it = z
  ·have := (itc _ (c1 ▸ hz₃)).1; exact absurd (Value.type.inj this) (by decide)
  by_cases c2 : it = TO
  ·have := (itc _ (c2 ▸ hTO3)).1; exact absurd (Value.type.inj this) (by decide)
  by_cases c3 : it = I
  ·have := (itc _ (c3 ▸ h13)).1; exact absurd (Value.type.inj this) (by decide)
  exact itc o (k₃ it o c1 c2 c3 e)
 ·refine wpAny_bind (nextOf_range_end hh h1₁ hleft fun h₂ e hs2 he => ?_)
  obtain ⟨oe, hoe, hce⟩ := he
  have hz₂ : IsZip h₂ z TI TO .ellipsis := hs2 _ _ D.zI hz₁
  have hez : e ≠ z := fun q => by subst q; rw [hz₂] at hoe; cases hoe; exact absurd (Value.type.inj hce) (by decide)
  refine wpAny_setField_rec hz₂ (Nat.le_of_ble_eq_true rfl) fun h₃ ι hs3 => hE _ e (fun b o q => ?_) ⟨⟨iF, iFL, iFb, iFn, fun c o c1 ι c3 ι ι q => hs3.extBut _ _ c1 (hs2 _ _ c3 (hs₁.extBut _ _ c1 q))⟩, rfl, .inl rfl⟩ ⟨oe, hs3.extBut _ _ hez hoe, hce⟩
  have c1 : b ≠ z := fun c => by rw [c, D.bz] at q; cases q
  have c3 : b ≠ I := fun c => by rw [c, D.bI] at q; cases q
  exact hs3.extBut _ _ c1 (hs2 _ _ c3 (hs₁.extBut _ _ c1 (st b o q)))
end
end Mine
namespace Mine
section
variable {w : World} {mg mb : NM} {b₀ : Heap} {s₀ s s' : Shared} {A : Around} {E : VP} {L a g : Addr} {r : Addr} {its : Array Value} {ruler : List Int} {p N n j : Nat} {cdv : Value} {z TI TO I : Addr} {x left : Int}
theorem zipg_next {u v : Value} {Q : Option Value → Shared → Prop} (D : ZgAp b₀ z TI TO I L a r) (C : St w mg mb b₀) (hh : A.handled = none) (hroom : A.depth + 1 < recursionLimit) (st : b₀.StaysIn s.heap)
  (hz : IsZip s.heap z TI TO .none) (hTI : IsPair s.heap TI (.ref I) (.ref a)) (hTO : IsPair s.heap TO u v) (h1 : IsRangeIter s.heap I x left 1) (hleft : 0 < left) (G : GAt w A.in1.in1 b₀ r L its ruler p N a g j s) (hj : j + 2 ≤ N) (hgo : j < p ∨ ruler[p]? = some 0)
  (hQ : ∀ s' T t, IsZip s'.heap z TI TO (rawInt (T : Nat)) → IsPair s'.heap TO (.int x s.toks) (.int (gval ruler p (j + 1)) t) → IsRangeIter s'.heap I (x + 1) (left - 1) 1 → IsPair s'.heap T (.int x s.toks) (.int (gval ruler p (j + 1)) t) →
   GAt w A.in1.in1 b₀ r L its ruler p N a g (j + 1) s' → b₀.StaysIn s'.heap → ZKp b₀ z TO I L g s s' → Q (some (.ref T)) s') :
  wpAny (model PW w) A (pyNext (.ref z)) Q E s := by
 have hT : s.TypeIs (.ref z) "zip" := ⟨_, hz, rfl⟩
 unfold pyNext
 exact wpAny_bind (wpAny_attempt (wpAny_callSpecial?_slot (name := Str.ofString "__next__") hT F.slot_zip_next
  (wpAny_call_entry F.slot_zip_next hT F.entry_zip_next
   (zipg_item D C hh (by show A.depth < recursionLimit; lia) st hz hTI hTO h1 hleft G hj hgo (hgo.imp Nat.le_of_lt id) fun s' T t a1 a2 a3 a4 a5 a6 a7 => wpAny_pure (hQ s' T t a1 a2 a3 a4 a5 a6 a7)) (F.args_zip_next_1 _))))
theorem zipg_stop {u v : Value} {Q : Option Value → Shared → Prop} (D : ZgAp b₀ z TI TO I L a r) (C : St w mg mb b₀) (hh : A.handled = none) (hroom : A.depth + 1 < recursionLimit) (st : b₀.StaysIn s.heap)
  (hz : IsZip s.heap z TI TO .none) (hTI : IsPair s.heap TI (.ref I) (.ref a)) (hTO : IsPair s.heap TO u v) (h1 : IsRangeIter s.heap I x left 1) (G : GAt w A.in1.in1 b₀ r L its ruler p N a g j s) (hj : j + 2 ≤ N) (hend : left ≤ 0 ∨ (j = p ∧ ruler[p]? ≠ some 0))
  (hQ : ∀ s', b₀.StaysIn s'.heap → ZKp b₀ z TO I L g s s' → Q none s') :
  wpAny (model PW w) A (pyNext (.ref z)) Q E s := by
 have hT : s.TypeIs (.ref z) "zip" := ⟨_, hz, rfl⟩
 unfold pyNext
 refine wpAny_bind (wpAny_attempt (wpAny_callSpecial?_slot (name := Str.ofString "__next__") hT F.slot_zip_next
  (wpAny_call_entry F.slot_zip_next hT F.entry_zip_next (zipg_end D C hh (by show A.depth < recursionLimit; lia) st hz hTI hTO h1 G hj hend fun s' e a1 a2 he => ?_) (F.args_zip_next_1 _))))
 obtain ⟨o, ho, hc⟩ := he
 refine wpAny_bind (wpAny_isInstance (T := "StopIteration") (b := true) ⟨o, ho, hc⟩ isSubtype_stop ?_)
 exact wpAny_pure (hQ _ a1 a2)
noncomputable abbrev zgH1 (h : Heap) (k : Int) : Heap := h.push { cls := .type "range_iterator", data := .fields #[rawInt 0, rawInt (Builtin.Range.rangeSize 0 k 1), rawInt 1] }
noncomputable abbrev zgH2 (h : Heap) (k : Int) (a : Addr) : Heap := (zgH1 h k).push { cls := .type "tuple", data := .seq #[.ref h.objs.size, .ref a] }
noncomputable abbrev zgH3 (h : Heap) (k : Int) (a : Addr) : Heap := (zgH2 h k a).push { cls := .type "tuple", data := .seq #[.none, .none] }
noncomputable abbrev zgH4 (h : Heap) (k : Int) (a : Addr) : Heap := (zgH3 h k a).push { cls := .type "zip", data := .fields #[.none, .bool false, .bool false, .ref (zgH1 h k).objs.size, .ref (zgH2 h k a).objs.size] }
theorem meets_zip_rg (rr a : Addr) (k : Int) (t u v : Tok) (g : Nat) (hsm : Builtin.Range.small 0 k 1 = true) :
  Meets (Builtin.«zip.__new__» ⟨[.type "zip", .ref rr, .ref a], []⟩) (fun ι R s => IsRange s.heap rr 0 k 1 t u v ∧ s.heap.IsGen a g ∧
   R (.ok (.ret (.ref (zgH3 s.heap k a).objs.size))) { s with heap := zgH4 s.heap k a }) :=
 .of_wp fun prog w A R s h => by
  obtain ⟨hp, gg, d, tk, os⟩ := s; obtain ⟨hl1, hl2, h⟩ := h
  have hsub := sub_zip
  have hL1 : IsRange (Shared.heap ⟨hp, gg, d, tk, os⟩) rr 0 k 1 t u v := hl1
  have hL2 : Heap.IsGen (Shared.heap ⟨hp.push { cls := .type "range_iterator", data := .fields #[rawInt 0, rawInt (Builtin.Range.rangeSize 0 k 1), rawInt 1] }, gg, d, tk, os⟩) a g := Heap.IsGen.push hl2 _
  wp_walk using wpAny_pyIter_range hL1 hsm, wpAny_pyIter_gen hL2
  exact ⟨_, rfl, h⟩
theorem call_zip_rg {rr a : Addr} {k : Int} {t u v : Tok} {g : Nat} {Q : VP} (hsm : Builtin.Range.small 0 k 1 = true) (hl1 : IsRange s.heap rr 0 k 1 t u v) (hl2 : s.heap.IsGen a g)
  (h : ∀ h', IsZip h' (s.heap.objs.size + 3) (s.heap.objs.size + 1) (s.heap.objs.size + 2) .none → IsPair h' (s.heap.objs.size + 1) (.ref s.heap.objs.size) (.ref a) →
   IsPair h' (s.heap.objs.size + 2) .none .none → IsRangeIter h' s.heap.objs.size 0 (Builtin.Range.rangeSize 0 k 1) 1 →
   (∀ c o, s.heap.get? c = some o → h'.get? c = some o) → Q (.ref (s.heap.objs.size + 3)) { s with heap := h' }) :
  wpAny (model PW w) A (call (.type "zip") [.ref rr, .ref a]) Q E s := by
 refine callType_new F.called_zip (by decide) (F.typeCall_zip_2 _ _) (F.newCall_zip_2 _ _) (fun obj => F.args_object_init_3 obj _ _) F.entry_zip_new
  (meets_zip_rg rr a k t u v g hsm) ⟨hl1, hl2, ?_⟩
 have z1 : (zgH1 s.heap k).objs.size = s.heap.objs.size + 1 := Heap.size_push ..
 have z2 : (zgH2 s.heap k a).objs.size = s.heap.objs.size + 2 := by rw [Heap.size_push, z1]
 have z3 : (zgH3 s.heap k a).objs.size = s.heap.objs.size + 3 := by rw [Heap.size_push, z2]
 have g4 : (zgH4 s.heap k a).get? (zgH3 s.heap k a).objs.size = some _ := Heap.get?_push_size _ rfl
 have g3 : (zgH4 s.heap k a).get? (zgH2 s.heap k a).objs.size = some _ := Heap.get?_push_of_some _ (Heap.get?_push_size _ rfl)
 have g2 : (zgH4 s.heap k a).get? (zgH1 s.heap k).objs.size = some _ := Heap.get?_push_of_some _ (Heap.get?_push_of_some _ (Heap.get?_push_size _ rfl))
 have g1 : (zgH4 s.heap k a).get? s.heap.objs.size = some _ := Heap.get?_push_of_some _ (Heap.get?_push_of_some _ (Heap.get?_push_of_some _ (Heap.get?_push_size _ rfl)))
 show _ ∧ _
 rw [z1, z2, z3] at g4
 rw [z2] at g3
 rw [z1] at g2
 rw [z3]
 exact ⟨⟨_, g4, rfl⟩, h _ g4 g2 g3 g1 fun c o x =>
  Heap.get?_push_of_some _ (Heap.get?_push_of_some _ (Heap.get?_push_of_some _ (Heap.get?_push_of_some _ x)))⟩
end
end Mine
namespace Mine
open Builtin Builtin.Str PySem.StrLaws
noncomputable def sp (n : Nat) : Str := ⟨(List.replicate n 32).toArray⟩
theorem sp_len (n : Nat) : (sp n).length = n := by
 show (List.replicate n 32).toArray.size = n
 simp
theorem sp_pick (n : Nat) : ∀ l : List Nat, (∀ i ∈ l, i < n) → l.filterMap ((sp n).cps[·]?) = List.replicate l.length 32 := by
 intro l
 induction l with
 | nil => intro _; rfl
 | cons i l ih =>
  intro h
  have hi : (sp n).cps[i]? = some 32 := by
   show (List.replicate n 32).toArray[i]? = some 32
   have := h i (List.mem_cons_self ..)
   simp [this]
  rw [List.filterMap_cons_some hi, ih fun j hj => h j (List.mem_cons_of_mem _ hj)]
  rfl
set_option tactic.hygienic true in
theorem sp_cut {n a b : Nat} (hab : a ≤ b) (hb : b ≤ n) : Txt.slice (sp n) (some (a : Int)) (some (b : Int)) = sp (b - a) := by
 unfold Txt.slice
 rw [sp_len, strSliceIndices_plain hab hb]
 split
 ·rename_i h
  simp at h
  have : b - a = n := ‹_›
  rw [this]
 ·rw [sp_pick n _ (by intro i hi; simp at hi; lia)]
  simp [sp]
theorem sp_tail {n u : Nat} (h0 : 0 < u) (hu : u ≤ n) : Txt.slice (sp n) (some (-(u : Int))) none = sp u := by
 have e : Txt.slice (sp n) (some (-(u : Int))) none = Txt.slice (sp n) (some ((n - u : Nat) : Int)) (some (n : Int)) := by
  unfold Txt.slice
  rw [sp_len, sliceIdx_neg_lo none n (by lia) (by lia), sliceIdx_none_hi, show (-(u : Int) + n) = ((n - u : Nat) : Int) by lia]
 rw [e, sp_cut (Nat.sub_le ..) (Nat.le_refl _), Nat.sub_sub_self hu]
theorem sp_head {n u : Nat} (h0 : 0 < u) (hu : u ≤ n) : Txt.slice (sp n) none (some (-(u : Int))) = sp (n - u) := by
 have e : Txt.slice (sp n) none (some (-(u : Int))) = Txt.slice (sp n) (some ((0 : Nat) : Int)) (some ((n - u : Nat) : Int)) := by
  unfold Txt.slice
  rw [sp_len, sliceIdx_neg_hi none n (by lia) (by lia), sliceIdx_none_lo, show (-(u : Int) + n) = ((n - u : Nat) : Int) by lia]
  rfl
 rw [e, sp_cut (Nat.zero_le _) (by lia)]
 rfl
end Mine
namespace Mine
section
variable {w : World} {mg mb : NM} {b₀ bG : Heap} {s₀ s s' : Shared} {A : Around} {E : VP} {L a g : Addr} {r : Addr} {its : Array Value} {ruler : List Int} {p N n j : Nat} {z TI TO I : Addr} {x left : Int}
structure ZAll (w : World) (A : Around) (bG : Heap) (r L : Addr) (its : Array Value) (ruler : List Int) (p N : Nat) (a g z TI TO I : Addr) (k : Int) (f0 : Value) (j : Nat) (s : Shared) : Prop where
 D : ZgAp bG z TI TO I L a r
 st : bG.StaysIn s.heap
 hz : IsZip s.heap z TI TO f0
 hTI : IsPair s.heap TI (.ref I) (.ref a)
 hTO : ∃ u v, IsPair s.heap TO u v
 hI : IsRangeIter s.heap I j (k - j) 1
 G : GAt w A.in1.in1 bG r L its ruler p N a g j s
structure ZOff (X : Addr) (z TI TO I a r L : Addr) : Prop where
 z : z ≠ X
 TI : TI ≠ X
 TO : TO ≠ X
 I : I ≠ X
 a : a ≠ X
 r : r ≠ X
 L : L ≠ X
theorem ZAll.keep {k : Int} {f0 : Value} {X : Addr} (Z : ZAll w A bG r L its ruler p N a g z TI TO I k f0 j s) (O : ZOff X z TI TO I a r L) (hX : ∀ o, s.heap.get? X = some o → ∀ i : Nat, o.data ≠ .fields #[.ref r, .int i 0]) (bX : bG.get? X = none)
  (hg : s'.gens = s.gens) (kp : ∀ b o, b ≠ X → s.heap.get? b = some o → s'.heap.get? b = some o) : ZAll w A bG r L its ruler p N a g z TI TO I k f0 j s' := by
 obtain ⟨D, st, hz, hTI, ⟨u, v, hTO⟩, hI, G⟩ := Z
 have st' : bG.StaysIn s'.heap := fun b o e => kp b o (fun q => by rw [q, bX] at e; exact no_some e) (st b o e)
 refine ⟨D, st', kp _ _ O.z hz, kp _ _ O.TI hTI, ⟨u, v, kp _ _ O.TO hTO⟩, kp _ _ O.I hI, G.keep st' (by rw [hg]) fun b o e q => kp b o ?_ e⟩
 rintro rfl
 rcases q with q | q | q | q
 ·exact O.a q.symm
 ·exact O.r q.symm
 ·exact O.L q.symm
 ·obtain ⟨_, i, q⟩ := q; exact hX o e i q
theorem ZAll.grow {k : Int} {f0 : Value} (Z : ZAll w A bG r L its ruler p N a g z TI TO I k f0 j s) (hg : s'.gens = s.gens) (kp : ∀ b o, s.heap.get? b = some o → s'.heap.get? b = some o) : ZAll w A bG r L its ruler p N a g z TI TO I k f0 j s' := by
 obtain ⟨D, st, hz, hTI, ⟨u, v, hTO⟩, hI, G⟩ := Z
 have st' : bG.StaysIn s'.heap := fun b o e => kp b o (st b o e)
 exact ⟨D, st', kp _ _ hz, kp _ _ hTI, ⟨u, v, kp _ _ hTO⟩, kp _ _ hI, G.keep st' (by rw [hg]) fun b o e q => kp b o e⟩
theorem ZAll.next {k : Int} {Q : Option Value → Shared → Prop} (Z : ZAll w A bG r L its ruler p N a g z TI TO I k .none j s) (C : St w mg mb bG) (hh : A.handled = none) (hroom : A.depth + 1 < recursionLimit) (hk : (j : Int) < k) (hj : j + 2 ≤ N) (hgo : j < p ∨ ruler[p]? = some 0)
  (hQ : ∀ s' T tx t, ZAll w A bG r L its ruler p N a g z TI TO I k (rawInt (T : Nat)) (j + 1) s' → IsPair s'.heap T (.int j tx) (.int (gval ruler p (j + 1)) t) → ZKp bG z TO I L g s s' → Q (some (.ref T)) s') :
  wpAny (model PW w) A (pyNext (.ref z)) Q E s := by
 obtain ⟨D, st, hz, hTI, ⟨u, v, hTO⟩, hI, G⟩ := Z
 refine zipg_next D C hh hroom st hz hTI hTO hI (by lia) G hj hgo fun s' T t a1 a2 a3 a4 a5 a6 kp => hQ s' T _ t ⟨D, a6, a1, ?_, ⟨_, _, a2⟩, ?_, a5⟩ a4 kp
 ·obtain ⟨it, _, _, itc, kk⟩ := kp.heap
  exact kk _ _ (Ne.symm D.zT) (Ne.symm D.TO_) (Ne.symm D.IT) D.TL (fun q => by have := (itc _ (q ▸ hTI)).1; exact absurd (Value.type.inj this) (by decide)) hTI
 ·have e1 : ((j : Int) + 1) = ((j + 1 : Nat) : Int) := by lia
  have e2 : (k - (j : Int) - 1) = k - ((j + 1 : Nat) : Int) := by lia
  rw [e1, e2] at a3
  exact a3
theorem ZAll.stop {k : Int} {Q : Option Value → Shared → Prop} (Z : ZAll w A bG r L its ruler p N a g z TI TO I k .none j s) (C : St w mg mb bG) (hh : A.handled = none) (hroom : A.depth + 1 < recursionLimit) (hj : j + 2 ≤ N) (hend : k ≤ j ∨ (j = p ∧ ruler[p]? ≠ some 0))
  (hQ : ∀ s', bG.StaysIn s'.heap → ZKp bG z TO I L g s s' → Q none s') : wpAny (model PW w) A (pyNext (.ref z)) Q E s := by
 obtain ⟨D, st, hz, hTI, ⟨u, v, hTO⟩, hI, G⟩ := Z
 exact zipg_stop D C hh hroom st hz hTI hTO hI G hj (hend.imp (fun q => by lia) id) hQ
theorem ZAll.letGo {k : Int} {T : Nat} {elts : List Expr} {x1} {pos : Pos} {Q : Unit → Shared → Prop} (Z : ZAll w A bG r L its ruler p N a g z TI TO I k (rawInt (T : Nat)) j s) 
  (hQ : ∀ h', ZAll w A bG r L its ruler p N a g z TI TO I k .none j { s with heap := h' } → Heap.SameBut z s.heap h' → Q () { s with heap := h' }) : wpAny (model PW w) A (letOwnedTupleGo (.Tuple elts x1 pos) (.ref z) (.ref T)) Q E s := by
 obtain ⟨D, st, hz, hTI, ⟨u, v, hTO⟩, hI, G⟩ := Z
 refine wpAny_letOwnedTupleGo_zip hz fun h' hz' hs' => hQ h' ⟨D, fun b o e => hs'.extBut b o (fun q => by rw [q, D.bz] at e; exact no_some e) (st b o e), hz', hs'.extBut _ _ (Ne.symm D.zT) hTI, ⟨u, v, hs'.extBut _ _ (Ne.symm D.zO) hTO⟩, hs'.extBut _ _ (Ne.symm D.zI) hI, ?_⟩ hs'
 refine G.keep (fun b o e => hs'.extBut b o (fun q => by rw [q, D.bz] at e; exact no_some e) (st b o e)) rfl fun b o e q => hs'.extBut b o ?_ e
 rintro rfl
 rcases q with q | q | q | q
 ·exact D.za q
 ·exact D.zr q
 ·exact D.zL q
 ·rw [hz] at e; cases e; exact absurd (Value.type.inj q.1) (by decide)
end
end Mine
namespace Mine
section
variable {w : World} {mg mb : NM} {b₀ bG : Heap} {s₀ s s' : Shared} {A : Around} {E : VP} {L a g Lf : Addr} {U : List Addr} {m : NM} {r : Addr} {its : Array Value} {ruler : List Int} {p N n j : Nat} {z TI TO I : Addr} {x left : Int}
theorem Body.zstep (B : Body w mg mb b₀ s₀ U Lf m s) (S0 : Sit w mg mb b₀ s₀) (st : s₀.heap.StaysIn s'.heap) (kp : ZKp bG z TO I L g s s') (O : ZOff Lf z TI TO I a r L) : Body w mg mb b₀ s₀ U Lf m s' := by
 obtain ⟨it, itL, itb, itc, kk⟩ := kp.heap
 refine ⟨⟨B.S.C, fun b o e => st b o (S0.k b o e), let ⟨tb, e, q⟩ := S0.t1; ⟨tb, st _ _ e, q⟩, let ⟨tb, e, q⟩ := S0.t2; ⟨tb, st _ _ e, q⟩, S0.n1, S0.n2, GenOnlyQ.bare kp.gens B.S.bare⟩,
  ⟨fun b o ι ι ι e => st b o e, fun tb e => ⟨#[], by simpa using st _ _ e⟩, fun tb e => ⟨#[], by simpa using st _ _ e⟩, kp.os.trans B.K.os⟩, ?_, B.fresh, B.b, B.lt⟩
 obtain ⟨o, es, ep, e, hd', q⟩ := B.ns
 refine ⟨o, es, ep, kk Lf o (Ne.symm O.z) (Ne.symm O.TO) (Ne.symm O.I) (Ne.symm O.L) (fun c => ?_) e, hd', q⟩
 obtain ⟨_, vs, hv⟩ := itc o (c ▸ e)
 rw [hd'] at hv; cases hv
theorem znew {k : Int} {rr : Addr} {t u v : Tok} {Q : VP} (hsm : Builtin.Range.small 0 k 1 = true) (hk : Builtin.Range.rangeSize 0 k 1 = k) (hr : IsRange s.heap rr 0 k 1 t u v) (st : bG.StaysIn s.heap) (hrl : s.heap.IsList r its) (hL : s.heap.get? L ≠ none)
  (G : GAt w A.in1.in1 bG r L its ruler p N a g 0 s)
  (h : ∀ h' z TI TO I, ZAll w A bG r L its ruler p N a g z TI TO I k .none 0 { s with heap := h' } → (∀ c o, s.heap.get? c = some o → h'.get? c = some o) → (∀ b, b = z ∨ b = TI ∨ b = TO ∨ b = I → s.heap.get? b = none) → Q (.ref z) { s with heap := h' }) :
  wpAny (model PW w) A (call (.type "zip") [.ref rr, .ref a]) Q E s := by
 obtain ⟨oL, eL⟩ : ∃ o, s.heap.get? L = some o := by
  cases e : s.heap.get? L with
  | none => exact absurd e hL
  | some o => exact ⟨o, rfl⟩
 obtain ⟨or, er, _⟩ := id hrl
 obtain ⟨oa, _, _, ea, _⟩ := id G.gen
 have lL : @LT.lt Nat _ L s.heap.objs.size := Heap.lt_size eL
 have lr : @LT.lt Nat _ r s.heap.objs.size := Heap.lt_size er
 have la : @LT.lt Nat _ a s.heap.objs.size := Heap.lt_size ea
 have bn : ∀ n : Nat, bG.get? (s.heap.objs.size + n) = none := fun n => by
  cases e : bG.get? (s.heap.objs.size + n) with
  | none => rfl
  | some o => exact absurd (Heap.lt_size (st _ o e)) (by show ¬ (s.heap.objs.size + n < s.heap.objs.size); lia)
 have sn : ∀ n : Nat, s.heap.get? (s.heap.objs.size + n) = none := fun n => by
  cases e : s.heap.get? (s.heap.objs.size + n) with
  | none => rfl
  | some o => exact absurd (Heap.lt_size e) (by show ¬ (s.heap.objs.size + n < s.heap.objs.size); lia)
 refine call_zip_rg hsm hr G.gen fun h' hz hTI hTO hI kk => ?_
 rw [hk] at hI
 have ne : ∀ {b n : Nat}, b < s.heap.objs.size → s.heap.objs.size + n ≠ b := fun h => by lia
 refine h h' _ (s.heap.objs.size + 1) (s.heap.objs.size + 2) s.heap.objs.size ⟨⟨bn 3, bn 2, bn 0, ne lL, ne lL, ne (n := 0) lL, ne lL, ne lr, ne lr, ne (n := 0) lr, ne la, ne la, ne (n := 0) la, ?_, ?_, ?_, ?_, ?_, ?_⟩, fun b o e => kk b o (st b o e), hz, hTI, ⟨_, _, hTO⟩, ?_, G.keep (fun b o e => kk b o (st b o e)) rfl fun b o e ι => kk b o e⟩ kk ?_
 iterate 6 (show @Ne Nat _ _; lia)
 ·simpa using hI
 ·rintro b (rfl | rfl | rfl | rfl)
  ·exact sn 3
  ·exact sn 1
  ·exact sn 2
  ·exact sn 0
end
end Mine
namespace Mine
open Builtin Builtin.Str
set_option tactic.hygienic true in
theorem made_slice {x : Str} {t : Tok} {l u : Option (Int × Tok)} {Q : VP} {s : Shared} (hz : x.length ≤ 100000) (h : ∀ t' k, Q (.str (Txt.slice x (l.map (·.1)) (u.map (·.1))) t') { s with toks := k }) : (sliceMade x t l u none).post Q s := by
 unfold sliceMade slicePicked
 unfold Txt.slice at h
 simp only [Option.map_none, Option.getD_none] at h ⊢
 split
 ·rename_i hc
  rw [if_pos hc] at h
  exact h t s.toks
 ·rename_i hc
  rw [if_neg hc] at h
  have q := Txt.slice_le x (l.map (·.1)) (u.map (·.1))
  unfold Txt.slice at q
  rw [if_neg hc] at q
  exact ⟨Nat.le_trans q (Nat.le_trans hz (by rw [sizeLine_eq]; lia)), h _ _⟩
section
variable {w : World} {A : Around} {E : VP} {s : Shared} {env : Env}
theorem sl_tail {value lo : Expr} {p pos : Pos} {Q : VP}
  (h : wpAny (model PW w) A (eval value env) (fun o s₁ => wpAny (model PW w) A (eval lo env) (fun vl s₂ => ∃ (n u : Nat) (t tu : Tok), o = .str (sp n) t ∧ vl = .int (-(u : Int)) tu ∧ 0 < u ∧ u ≤ n ∧ n ≤ 100000 ∧
   ∀ t' k, Q (.str (sp u) t') { s₂ with heap := s₂.heap.push { cls := .type "slice", data := .fields #[vl, .none, .none] }, toks := k }) E s₁) E s)
  (ht : autoParam (∀ o r, letTemporaryGo value o r = pure ()) tI) : wpAny (model PW w) A (eval (.Subscript value (.Slice (some lo) none none p) pos) env) Q E s := by
 refine wpAny_Subscript_str_slice (wpAny_mono h (fun o s₁ h₁ => evalPart_some_step (wpAny_mono h₁ (fun vl s₂ h₂ => evalPart_none_step ?_) fun ι ι z => z)) fun ι ι z => z) ht
 obtain ⟨n, u, t, tu, rfl, rfl, h0, h1, hn, hQ⟩ := h₂
 refine ⟨_, _, some (-(u : Int), tu), none, rfl, rfl, rfl, made_slice (by rw [sp_len]; exact hn) fun t' k => ?_⟩
 rw [show Txt.slice (sp n) (Option.map (·.1) (some (-(u : Int), tu))) (Option.map (·.1) (none : Option (Int × Tok))) = sp u from sp_tail h0 h1]
 exact hQ t' k
theorem sl_head {value up : Expr} {p pos : Pos} {Q : VP}
  (h : wpAny (model PW w) A (eval value env) (fun o s₁ => wpAny (model PW w) A (eval up env) (fun vl s₂ => ∃ (n u : Nat) (t tu : Tok), o = .str (sp n) t ∧ vl = .int (-(u : Int)) tu ∧ 0 < u ∧ u ≤ n ∧ n ≤ 100000 ∧
   ∀ t' k, Q (.str (sp (n - u)) t') { s₂ with heap := s₂.heap.push { cls := .type "slice", data := .fields #[.none, vl, .none] }, toks := k }) E s₁) E s)
  (ht : autoParam (∀ o r, letTemporaryGo value o r = pure ()) tI) : wpAny (model PW w) A (eval (.Subscript value (.Slice none (some up) none p) pos) env) Q E s := by
 refine wpAny_Subscript_str_slice (wpAny_mono h (fun o s₁ h₁ => evalPart_none_step (evalPart_some_step (wpAny_mono h₁ (fun vl s₂ h₂ => ?_) fun ι ι z => z))) fun ι ι z => z) ht
 obtain ⟨n, u, t, tu, rfl, rfl, h0, h1, hn, hQ⟩ := h₂
 refine ⟨_, _, none, some (-(u : Int), tu), rfl, rfl, rfl, made_slice (by rw [sp_len]; exact hn) fun t' k => ?_⟩
 rw [show Txt.slice (sp n) (Option.map (·.1) (none : Option (Int × Tok))) (Option.map (·.1) (some (-(u : Int), tu))) = sp (n - u) from sp_head h0 h1]
 exact hQ t' k
end
end Mine
namespace Mine
section
variable {w : World} {mg mb : NM} {b₀ : Heap} {s₀ s s' : Shared} {M : Model} {A : Around} {E : VP} {L : Addr} {U : List Addr} {m : NM} {env : Env}
theorem Body.stG {x : Str} {v : Value} {Q : Unit → Shared → Prop} (B : Body w mg mb b₀ s₀ U L m s)
  (hQ : ∀ s', Body w mg mb b₀ s₀ U L (fun y => if y = x then some v else m y) s' → Kp [L] s s' → s'.gens = s.gens → (∀ b o, b ≠ L → s.heap.get? b = some o → s'.heap.get? b = some o) → Q () s') (hl : autoParam (env.locals = L) tR) (hx : autoParam (env.kindOf x = some .local) tR) (hp : autoParam ((env.scope.kind == .class || (env.scope.kind == .module && env.locals != env.globals)) = false) tR) : wpAny M A (storeName env x v) Q E s := by
 subst hl
 refine wpAny_storeName_local hx B.ns (fun h' hn hs => ?_) hp
 have k := B.S.by (s' := { s with heap := h', toks := s.toks + 1 }) (U := [env.locals]) (al1 B.b) (by simp only [List.mem_singleton]; exact Nat.ne_of_lt (Nat.lt_trans (by decide) B.lt)) (by simp only [List.mem_singleton]; exact Nat.ne_of_lt B.lt)
  (fun b o hb e => (hs.2 b (by simpa using hb)).trans e) rfl rfl
 exact hQ _ ⟨k.1, B.K.trans k.2 (fun ι h => h) (al1 (.inr B.fresh)), hn, B.fresh, B.b, B.lt⟩ k.2 rfl fun b o hb e => (hs.2 b hb).trans e
theorem appendG {l : Addr} {its : Array Value} {k : Nat} {v : Value} {Q : VP} (S : Sit w mg mb b₀ s) (bl : b₀.get? l = none) (ll : @LT.lt Nat _ 154 l) (hl : s.heap.get? l = some (lstO its k)) (hz : its.size ≤ 100000)
  (h : ∀ s', Sit w mg mb b₀ s' → Kp [l] s s' → s'.heap.get? l = some (lstO (its.push v) (k + 1)) → s'.gens = s.gens → (∀ b o, b ≠ l → s.heap.get? b = some o → s'.heap.get? b = some o) → Q .none s') : wpAny (model PW w) A (call (.builtin "list.append") [.ref l, v]) Q E s := by
 refine wpAny_call_entry slot_list_append (⟨_, hl, rfl⟩ : s.TypeIs (.ref l) "list") entry_list_append ?_ (args_list_append _ _)
 show wpAny _ _ (updateSeq l (·.push v) >>= fun ι => ret .none) _ _ s
 have z := S.upd (x := l) (f := Obj.mapSeq (·.push v)) s.toks bl ll
 have hn := Heap.get?_update_self (Obj.mapSeq (·.push v)) hl (by rfl)
 rw [mapSeq_push] at hn
 exact wpAny_bind (wpAny_updateSeq hl rfl (wpAny_pure ⟨.none, rfl, h _ z.1 z.2 hn rfl fun b o hb e => ((Heap.SameBut.update ..).2 b hb).trans e⟩) (hz := by rw [sizeLine_eq]; lia))
theorem wp_grow {α : Type} {c : Sem α} {Q : α → Shared → Prop} {o : Obj} {tk : Nat} (h : ∀ s', s'.gens = s.gens → s'.os = s.os → (∀ b o', s.heap.get? b = some o' → s'.heap.get? b = some o') → wpAny M A c Q E s') :
  wpAny M A c Q E { s with heap := s.heap.push o, toks := tk } := h _ rfl rfl fun ι ι e => Heap.get?_push_of_some _ e
theorem Sit.upto (S : Sit w mg mb b₀ s) (hg : s'.gens = s.gens) (ho : s'.os = s.os) (k : ∀ b o, s.heap.get? b = some o → s'.heap.get? b = some o) : Sit w mg mb b₀ s' ∧ Kp [] s s' :=
 S.by (List.forall_mem_nil _) List.not_mem_nil List.not_mem_nil (fun b o ι e => k b o e) hg ho
end
end Mine
namespace Mine
section
variable {w : World} {mg mb : NM} {b₀ : Heap} {s₀ s s' : Shared} {A : Around} {E : VP} {r l z TI TO I a Lg Lf : Addr} {g : Nat} {its : Array Value} {ruler : List Int} {p N parts u j : Nat} {cdv : Value}
structure CutJ (w : World) (mg mb : NM) (b₀ : Heap) (s₀ : Shared) (A : Around) (r l z TI TO I a Lg Lf : Addr) (g : Nat) (its : Array Value) (ruler : List Int) (p N parts u j : Nat) (f0 : Value) (s : Shared) : Prop where
 B : ∃ m, Body w mg mb b₀ s₀ [] Lf m s ∧ m "pieces" = some (.ref l) ∧ (∃ t, m "blanks" = some (.str (sp ((parts - j) * u)) t)) ∧ ∃ t, m "parts" = some (.int parts t)
 Z : ZAll w A s₀.heap r Lg its ruler p N a g z TI TO I parts f0 j s
 Of : ZOff Lf z TI TO I a r Lg
 Ol : ZOff l z TI TO I a r Lg
 lf : l ≠ Lf
 hl : ∃ (vs : Array Value) (k : Nat), s.heap.get? l = some (lstO vs k) ∧ vs.size = j ∧ ∀ (i : Nat) (v : Value), vs[i]? = some v → ∃ t, v = Value.str (sp u) t
 bl : b₀.get? l = none
 b0 : s₀.heap.get? l = none
 ll : @LT.lt Nat _ 154 l
end
end Mine
namespace Mine
noncomputable abbrev cutTgt : Expr := .Tuple [.Name "k" ⟨175, 8, 175, 9⟩, .Name "size" ⟨175, 11, 175, 15⟩] 0 ⟨175, 8, 175, 15⟩
noncomputable abbrev cutScope : Scope := { kind := .function, names := [("blanks", .local), ("ruler", .local), ("parts", .local), ("pieces", .local), ("k", .local), ("size", .local), ("zip", .globalImplicit), ("range", .globalImplicit), ("_grouping_intervals", .globalImplicit), ("len", .globalImplicit)], isGenerator := false, isCoroutine := false, more := [] }
noncomputable abbrev cutBody : List Stmt := [
 .Expr (.Call (.Attribute (.Name "pieces" ⟨176, 8, 176, 14⟩) "append" ⟨176, 8, 176, 21⟩) [.IfExp (.Compare (.Name "size" ⟨176, 40, 176, 44⟩) [.LtE] [.Call (.Name "len" ⟨176, 48, 176, 51⟩) [.Name "blanks" ⟨176, 52, 176, 58⟩] [] ⟨176, 48, 176, 59⟩] ⟨176, 40, 176, 59⟩)
  (.Subscript (.Name "blanks" ⟨176, 22, 176, 28⟩) (.Slice (some (.UnaryOp .USub (.Name "size" ⟨176, 30, 176, 34⟩) ⟨176, 29, 176, 34⟩)) none none ⟨176, 29, 176, 35⟩) ⟨176, 22, 176, 36⟩) (.Constant (.str "") 0 ⟨176, 65, 176, 67⟩) ⟨176, 22, 176, 67⟩] [] ⟨176, 8, 176, 68⟩) ⟨176, 8, 176, 68⟩,
 .Assign [.Name "blanks" ⟨177, 8, 177, 14⟩] (.Subscript (.Name "blanks" ⟨177, 17, 177, 23⟩) (.Slice none (some (.UnaryOp .USub (.Name "size" ⟨177, 26, 177, 30⟩) ⟨177, 25, 177, 30⟩)) none ⟨177, 24, 177, 30⟩) ⟨177, 17, 177, 31⟩) ⟨177, 8, 177, 31⟩]
section
variable {w : World} {mg mb : NM} {b₀ : Heap} {s₀ s s' : Shared} {A : Around} {E : VP} {r l z TI TO I a Lg Lf : Addr} {g : Nat} {its : Array Value} {ruler : List Int} {p N parts u j : Nat} {cdv : Value}
theorem Body.over {U : List Addr} {m : NM} (B : Body w mg mb b₀ s₀ U Lf m s) (S0 : Sit w mg mb b₀ s₀) (st : s₀.heap.StaysIn s'.heap) (hg : s'.gens = s.gens) (ho : s'.os = s.os) (kl : ∀ o, s.heap.get? Lf = some o → s'.heap.get? Lf = some o) : Body w mg mb b₀ s₀ U Lf m s' := by
 refine ⟨⟨B.S.C, fun b o e => st b o (S0.k b o e), let ⟨tb, e, q⟩ := S0.t1; ⟨tb, st _ _ e, q⟩, let ⟨tb, e, q⟩ := S0.t2; ⟨tb, st _ _ e, q⟩, S0.n1, S0.n2, by rw [hg]; exact B.S.bare⟩,
  ⟨fun b o ι ι ι e => st b o e, fun tb e => ⟨#[], by simpa using st _ _ e⟩, fun tb e => ⟨#[], by simpa using st _ _ e⟩, ho.trans B.K.os⟩, ?_, B.fresh, B.b, B.lt⟩
 obtain ⟨o, es, ep, e, q⟩ := B.ns
 exact ⟨o, es, ep, kl o e, q⟩
theorem cut_turn (S0 : Sit w mg mb b₀ s₀) (R : Rm A 3) (J : CutJ w mg mb b₀ s₀ A r l z TI TO I a Lg Lf g its ruler p N parts u j .none s) (hj : j < parts) (hN : j + 2 ≤ N) (hgo : j < p ∨ ruler[p]? = some 0) (hval : gval ruler p (j + 1) = u) (hu : 0 < u) (hm : parts * u ≤ 100000) :
  wpAny (model PW w) A (pyNext (.ref z)) (fun r' s₁ => ∃ v, r' = some v ∧ wpAny (model PW w) A (letOwnedTupleGo cutTgt (.ref z) v) (fun ι s₂ => wpAny (model PW w) A (assign cutTgt (envOf "_law_cut" cutScope Lf 269 cdv) v) (fun ι s3 =>
   wpAny (model PW w) A (execs cutBody (envOf "_law_cut" cutScope Lf 269 cdv)) (fun f s4 => f = .next ∧ CutJ w mg mb b₀ s₀ A r l z TI TO I a Lg Lf g its ruler p N parts u (j + 1) .none s4) (fun ι ι => False) s3) (fun ι ι => False) s₂) (fun ι ι => False) s₁) (fun ι ι => False) s := by
 obtain ⟨⟨m, B, m1, ⟨tb, m2⟩, tp, m3⟩, Z, Of, Ol, lf, ⟨vs, kk, hl, hvs, hall⟩, bl, b0, ll⟩ := J
 refine Z.next (S0.C.keeps S0.k) R.hh (R.dl (k := 1) (by decide)) (by lia) hN hgo fun s₁ T tx t Z1 hT1 kp => ⟨_, rfl, ?_⟩
 have B1 := B.zstep S0 Z1.st kp Of
 refine Z1.letGo fun h₂ Z2 hs2 => ?_
 have B2 := B1.over (s' := { s₁ with heap := h₂ }) S0 Z2.st rfl rfl fun o e => hs2.extBut _ _ (Ne.symm Of.z) e
 have hT2 : Heap.IsTuple h₂ T #[.int j tx, .int (gval ruler p (j + 1)) t] := ⟨_, hs2.extBut _ _ (fun q => by
  have e1 : s₁.heap.get? z = some _ := Z1.hz
  have e2 : s₁.heap.get? T = some _ := hT1
  rw [← q, e2] at e1; exact absurd (Value.type.inj (congrArg Obj.cls (Option.some.inj e1))) (by decide)) hT1, rfl, _, rfl⟩
 rw [hval] at hT2
 refine wpAny_assign_Tuple (by exact R.hh) hT2 rfl rfl fun h₃ he3 => ?_
 have k₃ : ∀ b o, h₂.get? b = some o → h₃.get? b = some o := fun b o e => he3 b o (Nat.ne_of_lt (Heap.lt_size e)) e
 have B3 := B2.over (s' := { s₁ with heap := h₃ }) S0 (fun b o e => k₃ b o (Z2.st b o e)) rfl rfl fun o e => k₃ _ _ e
 have Z3 := Z2.grow (s' := { s₁ with heap := h₃ }) rfl k₃
 refine assignInOrder_cons (wpAny_assign_Name (B3.stG fun s4 B4 ι g₄ k₄ => ?_))
 have hXf : ∀ {mm : NM} {ss : Shared}, Body w mg mb b₀ s₀ [] Lf mm ss → ∀ o, ss.heap.get? Lf = some o → ∀ i : Nat, o.data ≠ .fields #[.ref r, .int i 0] := fun BB o e i q => by
  obtain ⟨o', es, ep, e', hd, _⟩ := BB.ns
  have e'' : _ = some o' := e'
  rw [e] at e''; cases e''
  rw [hd] at q; cases q
 have Z4 := Z3.keep Of (hXf B3) B.fresh g₄ k₄
 refine assignInOrder_cons (wpAny_assign_Name (B4.stG fun s5 B5 ι g5 k₅ => assignInOrder_nil ?_))
 have Z5 := Z4.keep Of (hXf B4) B.fresh g5 k₅
 have hl₁ : s₁.heap.get? l = some (lstO vs kk) := by
  obtain ⟨it, _, _, itc, k1⟩ := kp.heap
  exact k1 _ _ (Ne.symm Ol.z) (Ne.symm Ol.TO) (Ne.symm Ol.I) (Ne.symm Ol.L) (fun q => by have := (itc _ (q ▸ hl)).1; exact absurd (Value.type.inj this) (by decide)) hl
 have hl5 : s5.heap.get? l = some (lstO vs kk) := k₅ _ _ lf (k₄ _ _ lf (k₃ _ _ (hs2.extBut _ _ (Ne.symm Ol.z) hl₁)))
 have hun : u ≤ (parts - j) * u := Nat.le_mul_of_pos_left u (by lia)
 have hbig : (parts - j) * u ≤ 100000 := Nat.le_trans (Nat.mul_le_mul_right u (Nat.sub_le _ _)) hm
 refine ex_cons (wpAny_Expr (MethodCall_ (B5.loc (v := .ref l) ((if_neg (by decide)).trans ((if_neg (by decide)).trans m1)) ?_)))
 refine getMethod_list_append hl5 rfl rfl ?_
 refine callWith_builtin rfl (evalArgs_plain (spliced_cons (PyProof.Rows.IfExp_ (pos := ⟨176, 22, 176, 67⟩) (wpAny_isTrue_Compare1 (B5.loc (v := .int u t) (by ((try dsimp only); (repeat' (first | assumption | exact if_pos rfl | (refine (if_neg (by decide)).trans ?_) | exact rfl)))) (wpAny_Call_NameR (B5.bi (v := .builtin "len") (by k_is) (by decide +kernel) (callWith_builtin rfl (evalArgs_plain (spliced_cons (B5.loc (v := .str (sp ((parts - j) * u)) tb) (by ((try dsimp only); (repeat' (first | assumption | exact if_pos rfl | (refine (if_neg (by decide)).trans ?_) | exact rfl)))) (spliced_nil ?_)))))))))))) 
 refine PySem.P.len_str (by rw [sp_len]; lia) ?_
 rw [sp_len]
 walk1
 walk1
 refine ite_t (by simp; lia) ?_
 have B6 := fun k => B5.tok k
 refine sl_tail ((B6 _).loc (v := .str (sp ((parts - j) * u)) tb) (by ((try dsimp only); (repeat' (first | assumption | exact if_pos rfl | (refine (if_neg (by decide)).trans ?_) | exact rfl)))) (wpAny_UnaryOp ((B6 _).loc (v := .int u t) (by ((try dsimp only); (repeat' (first | assumption | exact if_pos rfl | (refine (if_neg (by decide)).trans ?_) | exact rfl)))) (PySem.P.neg_int ⟨_, u, tb, _, rfl, rfl, hu, hun, hbig, fun t₁ q₁ => ?_⟩))))
 refine spliced_nil ?_
 refine wp_grow (s := s5) fun s6 g6 o6 k₆ => ?_
 have B6' := B5.over (s' := s6) S0 (fun b o e => k₆ b o (Z5.st b o e)) g6 o6 fun o e => k₆ _ _ e
 have Z6 := Z5.grow (s' := s6) g6 k₆
 refine appendG B6'.S bl ll (k₆ _ _ hl5) (by rw [hvs]; exact Nat.le_trans (Nat.le_of_lt hj) (Nat.le_trans (Nat.le_mul_of_pos_right _ hu) hm)) fun s7 S7 K7 hl7 g7 k7 => ?_
 have B7 := B6'.step S7 K7 (al1 (.inr b0)) (not_in (Ne.symm lf))
 have Z7 := Z6.keep Ol (fun o e i q => by have e' := (k₆ _ _ hl5).symm.trans e; cases e'; cases q) b0 g7 k7
 refine ex_cons (wpAny_Assign_Name ?_)
 have B8 := fun k => B7.tok k
 refine sl_head ((B8 _).loc (v := .str (sp ((parts - j) * u)) tb) (by ((try dsimp only); (repeat' (first | assumption | exact if_pos rfl | (refine (if_neg (by decide)).trans ?_) | exact rfl)))) (wpAny_UnaryOp ((B8 _).loc (v := .int u t) (by ((try dsimp only); (repeat' (first | assumption | exact if_pos rfl | (refine (if_neg (by decide)).trans ?_) | exact rfl)))) (PySem.P.neg_int ⟨_, u, tb, _, rfl, rfl, hu, hun, hbig, fun t₂ q₂ => ?_⟩))))
 refine wp_grow (s := s7) fun s9 g9 o9 k9 => ?_
 have B9 := B7.over (s' := s9) S0 (fun b o e => k9 b o (Z7.st b o e)) g9 o9 fun o e => k9 _ _ e
 have Z9 := Z7.grow (s' := s9) g9 k9
 refine B9.stG fun sA BA KA gA kA => ?_
 have ZA := Z9.keep Of (hXf B9) B.fresh gA kA
 refine wpAny_execs_nil ⟨rfl, ⟨_, BA, (if_neg (by decide)).trans ((if_neg (by decide)).trans ((if_neg (by decide)).trans m1)), ⟨t₂, ?_⟩, tp, (if_neg (by decide)).trans ((if_neg (by decide)).trans ((if_neg (by decide)).trans m3))⟩, ZA, Of, Ol, lf, ⟨_, _, kA _ _ lf (k9 _ _ hl7), by rw [Array.size_push, hvs], fun i v e => ?_⟩, bl, b0, ll⟩
 ·rw [if_pos rfl]
  have : (parts - j) * u - u = (parts - (j + 1)) * u := by rw [show parts - (j + 1) = (parts - j) - 1 from by lia, Nat.sub_mul (parts - j) 1 u, Nat.one_mul]
  rw [this]
 ·rw [Array.getElem?_push] at e
  split at e
  ·cases e; exact ⟨_, rfl⟩
  ·exact hall i v e
end
end Mine
namespace Mine
noncomputable abbrev tests (ifs : List Expr) (env : Env) : Sem Bool := forIn ifs true fun c r => if r = true then do let ok ← isTrue c env (eval c env); pure (ForInStep.yield ok) else pure (ForInStep.yield r)
section
variable {w : World} {mg mb : NM} {b₀ : Heap} {s₀ s s' : Shared} {A : Around} {E : VP} {L : Addr} {U : List Addr} {m : NM} {env : Env} {R : Result → Shared → Prop}
theorem tests_nil {Q : Bool → Shared → Prop} (h : Q true s) : wpAny (model PW w) A (tests [] env) Q E s := wpAny_tests_nil h
theorem tests_one {c : Expr} {Q : Bool → Shared → Prop} (h : wpAny (model PW w) A (isTrue c env (eval c env)) Q E s) : wpAny (model PW w) A (tests [c] env) Q E s := wpAny_tests_one h
theorem comp_any {elt target iter : Expr} {ifs : List Expr} {scope : Scope} {pos : Pos} {it acc : Value} (I : Nat → Shared → Prop)
  (turn : ∀ n s, I n s → wpAny (model PW w) A (pyNext it) (fun r s₁ => match r with
   | none => R (.ok .next) s₁
   | some v => wpAny (model PW w) A (letOwnedTupleGo target it v) (fun ι t₁ => wpAny (model PW w) A (assign target env v) (fun ι s₂ => wpAny (model PW w) A (tests ifs env) (fun ok s3 =>
      if ok = true then wpAny (model PW w) A (eval elt env) (fun x s4 => wpAny (model PW w) A (call (.builtin "list.append") [acc, x]) (fun ι s5 => ∃ m, m < n ∧ I m s5) (fun ι ι => False) s4) (fun ι ι => False) s3
      else ∃ m, m < n ∧ I m s3) (fun ι ι => False) s₂) (fun ι ι => False) t₁) (fun ι ι => False) s₁) (fun ι ι => False) s)
  (n : Nat) (h : I n s) : codeAny (model PW w) A (.compLoop (.ListComp elt [⟨target, iter, ifs, 0⟩] scope pos) 0 it acc env) R s := by
 refine codeAny_loop rfl I (fun n s hI => ?_) n h
 show wpAny _ A ((compTurn (.ListComp elt [⟨target, iter, ifs, 0⟩] scope pos) 0 it acc env).onRaise (fun x => do noteFrame x env; theTreesLotGoes x)) _ _ s
 refine wpAny_noted ?_
 rw [compTurn_list]
 refine wpAny_bind (wpAny_standAt (wpAny_bind (wpAny_mono (turn n s hI) (fun r s₁ h₁ => ?_) fun ι ι h' => h'.elim)))
 cases r with
 | none => exact wpAny_pure h₁
 | some v =>
  refine wpAny_bind (wpAny_mono h₁ (fun ι t₁ h₁ => wpAny_bind (wpAny_mono h₁ (fun ι s₂ h₂ => wpAny_bind (wpAny_mono h₂ (fun ok s3 h₃ => ?_) fun ι ι h' => h'.elim)) fun ι ι h' => h'.elim)) fun ι ι h' => h'.elim)
  cases ok with
  | false => exact wpAny_pure ⟨rfl, h₃⟩
  | true => exact wpAny_bind (wpAny_bind (wpAny_mono h₃ (fun x s4 h₄ => wpAny_bind (wpAny_mono h₄ (fun ι s5 h₅ => wpAny_pure (wpAny_pure ⟨rfl, h₅⟩)) fun ι ι h' => h'.elim)) fun ι ι h' => h'.elim))
structure CompAt (w : World) (mg mb : NM) (b₀ : Heap) (s₂ : Shared) (D C : Addr) (s4 : Shared) : Prop where
 B : Body w mg mb b₀ s₂ [] C (fun ι => none) s4
 hD : s4.heap.get? D = some (lstO #[] 0)
 fD : s₂.heap.get? D = none
 bD : b₀.get? D = none
 lD : @LT.lt Nat _ 154 D
 ne : D ≠ C
 gens : s4.gens = s₂.gens
 up : ∀ b o, s₂.heap.get? b = some o → s4.heap.get? b = some o
theorem comp_block {e : Expr} {elt target iter : Expr} {ifs : List Expr} {rest : List Comprehension} {scope : Scope} {pos : Pos} {cl : List (Str × Addr)} {it : Value} {RR : Value → Addr → Result → Shared → Prop} (S : Sit w mg mb b₀ s) (he : e = .ListComp elt (⟨target, iter, ifs, 0⟩ :: rest) scope pos)
  (hcell : ∀ y ∈ scope.names, y.2 ≠ .cell) (hkind : scope.kind = .function) (self : ∀ s' (Q : VP) E, (∀ b o, s.heap.get? b = some o → s'.heap.get? b = some o) → Q it s' → wpAny (model PW w) A (pyIter it) Q E s')
  (h : ∀ D C s4, CompAt w mg mb b₀ s D C s4 → codeAny (model PW w) A (.compLoop e 0 it (.ref D) (compEnvC scope cl C env)) (RR (.ref D) C) s4) :
  wpAny (model PW w) A (newList []) (fun acc s3 => wpAny (model PW w) A (newFunctionEnv scope env.globals cl [] env.qual none .none (some env)) (fun cenv s4 =>
   codeAny (model PW w) A (.compStart e 0 it acc { cenv with scope := relabel scope env }) (RR acc cenv.locals) s4) E s3) E s := by
 subst he
 refine wpAny_newObj_type (wpAny_newFunctionEnv hcell (by intro y hy; simp at hy) (fun h₁ hns1 hsb1 => ?_) hkind)
 dsimp only at hns1 hsb1 ⊢
 have z₁ := S.push (o := lstO (([] : List Value).toArray) 0) (t := s.toks)
 generalize hH2 : s.heap.push { cls := .type "list", dict := none, data := .seq ([] : List Value).toArray } = H2 at hns1 hsb1 ⊢
 have hH2' : s.heap.push (lstO (([] : List Value).toArray) 0) = H2 := hH2
 rw [hH2'] at z₁
 have hsz : H2.objs.size = s.heap.objs.size + 1 := by rw [← hH2, Heap.size_push]
 have hDC : s.heap.objs.size ≠ H2.objs.size := by rw [hsz]; exact Nat.ne_of_lt (Nat.lt_succ_self _)
 have up2 : ∀ b o, s.heap.get? b = some o → H2.get? b = some o := fun b o e => hH2 ▸ Heap.get?_push_of_some _ e
 have up1 : ∀ b o, H2.get? b = some o → h₁.get? b = some o := fun b o e => hsb1.extBut b o (Nat.ne_of_lt (Heap.lt_size e)) (Heap.get?_push_of_some _ e)
 have fC : s.heap.get? H2.objs.size = none := by
  cases q : s.heap.get? H2.objs.size with
  | none => rfl
  | some o => have := Heap.lt_size (up2 _ _ q); exact absurd this (Nat.lt_irrefl _)
 have z₂ := S.grow (h' := h₁) (t := s.toks + ([] : List (Str × Value)).length) fun b o e => up1 b o (up2 b o e)
 have hB : Body w mg mb b₀ s [] H2.objs.size (fun ι => none) { s with heap := h₁, toks := s.toks + ([] : List (Str × Value)).length } :=
  ⟨z₂.1, z₂.2, hns1, fC, z₁.1.fresh, z₁.1.lt⟩
 refine codeAny_compStart_list (h s.heap.objs.size H2.objs.size _ ⟨hB, ?_, get_size _, S.fresh, S.lt, hDC, rfl, fun b o e => up1 b o (up2 b o e)⟩) (self _ _ _ (fun b o e => up1 b o (up2 b o e)) (h s.heap.objs.size H2.objs.size _ ⟨hB, ?_, get_size _, S.fresh, S.lt, hDC, rfl, fun b o e => up1 b o (up2 b o e)⟩))
 all_goals exact up1 _ _ (hH2 ▸ Heap.get?_push_size _ rfl)
end
end Mine
namespace Mine
noncomputable def Pcs (vs : Array Value) (ns : List Nat) : Prop := vs.size = ns.length ∧ ∀ (i n : Nat), ns[i]? = some n → ∃ t, vs[i]? = some (.str (sp n) t)
structure BagOn (b₀ h : Heap) (l : Addr) (ns : List Nat) : Prop where
 bl : b₀.get? l = none
 ll : @LT.lt Nat _ 154 l
 on : ∃ vs k, h.get? l = some (lstO vs k) ∧ Pcs vs ns
section
variable {w : World} {mg mb : NM} {b₀ : Heap} {s₀ s s' : Shared} {A : Around} {E : VP} {r l z TI TO I a Lg Lf L : Addr} {g : Nat} {its : Array Value} {ruler : List Int} {p N parts u j : Nat} {cdv : Value}
theorem enter_bG {R : Result → Shared → Prop} {name qual : Str} {params : Arguments} {body : List Stmt} {scope : Scope} {dV kV doc pm cdv ct oc : Value} {an od : Option Addr} {osl : Array (Option Value)} {f : Addr} {args : Args} {binds : List (Str × Value)} (U : List Addr)
  (S : Sit w mg mb b₀ s) (hroom : A.depth < recursionLimit)
  (ho : (hd.heap_1 w.params).lookup f = some ⟨oc, od, .func (fnOf name qual params body scope dV kV doc pm an cdv ct), osl⟩) (hcd : codeIn (hd.heap_1 w.params) cdv qual = true)
  (hbind : BindsTo s (fnOf name qual params body scope dV kV doc pm an cdv ct) args binds) (hloc : ∀ y ∈ binds, scope.names.lookup y.1 = some .local)
  (h : ∀ L s₁, Body w mg mb b₀ s U L (fun y => binds.reverse.lookup y) s₁ → (∀ b o, s.heap.get? b = some o → s₁.heap.get? b = some o) → s₁.gens = s.gens → 
   wpAny (model PW w) (A.deeper (envOf qual scope L f cdv)) (execs body (envOf qual scope L f cdv))
    (fun fl s' => R (.ok (.ret (match fl with | .ret v => v | _ => .none))) s') (fun ι ι => False) s₁)
  (hco : autoParam (scope.isCoroutine = false) tR) (hgen : autoParam (scope.isGenerator = false) tR) (hk : autoParam (scope.kind = .function) tR)
  (hcell : autoParam (∀ x ∈ scope.names, x.2 ≠ .cell) tD) : codeAny (model PW w) A (.call (.ref f) args) R s := by
 obtain ⟨loose, mean, T⟩ := S.C.top
 refine codeAny_call_def (fd := fnOf name qual params body scope dV kV doc pm an cdv ct) (body := body) (binds := binds) hroom ((S.C.K.keeps S.k) _ _ ho) rfl (T.nolimit.keeps S.k) (codeRec_of (S.C.K.keeps S.k) hcd) rfl hbind hcell hloc (fun h₁ hns hk₁ => ?_) hco hgen hk
 have k := S.grow (t := s.toks + binds.length) hk₁
 exact wpAny_mono (h _ { s with heap := h₁, toks := s.toks + binds.length } ⟨k.1, (Kp.refl [] s).trans k.2 (List.forall_mem_nil _) (List.forall_mem_nil _), hns, get_size _, S.fresh, S.lt⟩ hk₁ rfl) (fun ι ι x => x) fun ι ι x => x.elim
theorem lst_newG {vs : List Value} {Q : VP} (S : Sit w mg mb b₀ s) (hz : vs.length ≤ 100000)
  (h : ∀ s' r, Sit w mg mb b₀ s' → (∀ b o, s.heap.get? b = some o → s'.heap.get? b = some o) → s'.gens = s.gens → s'.os = s.os → s'.heap.get? r = some (lstO vs.toArray 0) → s.heap.get? r = none → b₀.get? r = none → @LT.lt Nat _ 154 r → Q (.ref r) s') : wpAny (model PW w) A (newList vs) Q E s := by
 have z := S.push (o := lstO vs.toArray 0) (t := s.toks)
 exact wpAny_newObj_type (h _ _ z.1 (fun ι ι e => Heap.get?_push_of_some _ e) rfl rfl (Heap.get?_push_size _ rfl) (get_size _) S.fresh S.lt) (by show vs.toArray.size ≤ sizeLine; rw [sizeLine_eq]; simp; lia)
theorem Body.up {U : List Addr} {m : NM} (B : Body w mg mb b₀ s₀ U L m s) (k : ∀ b o, s.heap.get? b = some o → s'.heap.get? b = some o) (hg : s'.gens = s.gens) (ho : s'.os = s.os) : Body w mg mb b₀ s₀ U L m s' := B.step0 (B.S.upto hg ho k)
theorem small_parts (hp : parts ≤ 100000) : Builtin.Range.small 0 parts 1 = true := by
 exact small_one (by decide) (by decide) (Int.le_trans (by decide) (Int.natCast_nonneg parts)) (Int.lt_of_le_of_lt (Int.ofNat_le.mpr hp) (by decide))
theorem cut_k {tb tp : Tok} {Q : VP} (S : Sit w mg mb b₀ s) (R : Rm A 6) (hr : s.heap.IsList r its) (hu : 0 < u) (hp1 : 1 ≤ parts) (hm : parts * u ≤ 100000)
  (hits : ∀ (i : Nat) (x : Int), ruler[i]? = some x → ∃ t, its[i]? = some (Value.int x t)) (hsz : its.size = ruler.length) (hval : ∀ j, j ≤ parts → (j < p ∨ ruler[p]? = some 0) → gval ruler p (j + 1) = u)
  (hstop : (ruler[p]? = some 0 ∧ 1 ≤ p) ∨ (ruler[p]? = some 127 ∧ p + 1 = parts)) (hpl : p ≤ ruler.length) (hgo : ∀ i x, i < p → ruler[i]? = some x → x ≠ 0 ∧ x ≠ 127)
  (hret : ∀ s' l, Sit w mg mb b₀ s' → Kp [] s s' → BagOn b₀ s'.heap l (List.replicate parts u) → s.heap.get? l = none → Q (.ref l) s') :
  wpAny (model PW w) A (call (.ref 269) [.str (sp (parts * u)) tb, .ref r, .int parts tp]) Q E s := by
 have hpp : parts ≤ 100000 := Nat.le_trans (Nat.le_mul_of_pos_right _ hu) hm
 refine wpAny_call ?_
 refine enter_bG [] (binds := [("blanks", .str (sp (parts * u)) tb), ("ruler", .ref r), ("parts", .int parts tp)]) S (R.dl (k := 0) (by decide)) (by k_is) (by k_is) (BindsTo.of_eq rfl) (locs rfl) ?_
 intro Lf s₁ B1 k₁ g₁
 refine cutQ fun Q0 h₀ => ?_
 refine ex_cons (wpAny_Assign_Name (PyProof.Rows.List_ (spliced_nil (lst_newG B1.S (by decide) fun s₂ l S₂ k₂ g₂ o2 hl₂ nl bl ll => ?_))))
 have B2 := B1.up k₂ g₂ o2
 refine B2.stG fun s3 B3 ι g₃ k₃ => ?_
 have nlL : l ≠ Lf := B1.ne_new nl
 have fl : s.heap.get? l = none := by
  cases q : s.heap.get? l with
  | none => rfl
  | some o => rw [k₁ _ _ q] at nl; cases nl
 have up3 : ∀ b o, s.heap.get? b = some o → s3.heap.get? b = some o := fun b o e => k₃ b o (fun q => by rw [q, B1.fresh] at e; exact no_some e) (k₂ b o (k₁ b o e))
 have hl3 : s3.heap.get? l = some (lstO #[] 0) := k₃ _ _ nlL hl₂
 refine ex_cons (wpAny_For (cutQ fun Q₁ h₁ => wpAny_Call_NameR (B3.bi (v := .type "zip") (by k_is) (by decide +kernel) (PyProof.Rows.callWith_type1 (spliced_cons (wpAny_Call_NameR (B3.bi (v := .type "range") (by k_is) (by decide +kernel) (PyProof.Rows.callWith_type1 (spliced_cons (B3.loc (v := .int parts tp) (by ((try dsimp only); (repeat' (first | assumption | exact if_pos rfl | (refine (if_neg (by decide)).trans ?_) | exact rfl)))) (spliced_nil (call_range_1 ?_))))))))))))
 have z₄ := B3.S.push (o := { cls := .type "range", data := .fields #[.int 0 s3.toks, .int parts tp, .int 1 (s3.toks + 1)] }) (t := s3.toks + 1 + 1)
 have hrg : IsRange (s3.heap.push { cls := .type "range", data := .fields #[.int 0 s3.toks, .int parts tp, .int 1 (s3.toks + 1)] }) s3.heap.objs.size 0 parts 1 s3.toks tp (s3.toks + 1) := IsRange.new ..
 have up₄ : ∀ b o, s3.heap.get? b = some o → (s3.heap.push { cls := .type "range", data := .fields #[.int 0 s3.toks, .int parts tp, .int 1 (s3.toks + 1)] }).get? b = some o := fun b o e => Heap.get?_push_of_some _ e
 have B4 := B3.step0 z₄
 generalize hs4 : ({ s3 with heap := s3.heap.push { cls := .type "range", data := .fields #[.int 0 s3.toks, .int parts tp, .int 1 (s3.toks + 1)] }, toks := s3.toks + 1 + 1 } : Shared) = s4 at B4
 have e₄ : s3.heap.push { cls := .type "range", data := .fields #[.int 0 s3.toks, .int parts tp, .int 1 (s3.toks + 1)] } = s4.heap := by rw [← hs4]
 rw [e₄] at hrg up₄
 generalize s3.heap.objs.size = rr at hrg
 refine spliced_cons (wpAny_Call_NameR (B4.top (v := .ref 28) (by k_is) (callWith_K B4.ck (by k_is) (spliced_cons (B4.loc (v := .ref r) (by ((try dsimp only); (repeat' (first | assumption | exact if_pos rfl | (refine (if_neg (by decide)).trans ?_) | exact rfl)))) (spliced_nil ⟨B4.ck, ?_⟩))))))
 have lk : ∀ {ss : Shared}, (∀ b o, s.heap.get? b = some o → ss.heap.get? b = some o) → ss.heap.IsList r its := fun k => by
  obtain ⟨o, e, q⟩ := hr
  exact ⟨o, k _ _ e, q⟩
 refine gnew B4.S (S.C.keeps S.k) (fun b o e => up₄ _ _ (up3 b o e)) ((R.le (k := 5) (by decide)).deep.le (by decide)) (lk fun b o e => up₄ _ _ (up3 b o e)) fun s5 Lg a S5 K5 k₅ sz5 g5 aL fa fL bL rL hG => ?_
 have Ru : Ruler s.heap r Lg its ruler p (parts + p + 3) := ⟨hits, hpl, hsz, by rcases hstop with h | h; exact .inl h.1; exact .inr (.inl h.1), hgo, fun h => by rcases hstop with h' | h'; exact h'.2; rw [h] at h'; exact absurd h'.1 (by decide), by lia, rL, bL⟩
 have B5 := B4.step S5 K5 (List.forall_mem_nil _) List.not_mem_nil
 have G0 := fun A' hh => hG A' ruler p (parts + p + 3) hh Ru
 have fLg : s4.heap.get? Lg = none := fL
 have hLg : s5.heap.get? Lg ≠ none := by
  obtain ⟨_, _, gs, _, ⟨_, ⟨_, _, ⟨mm, hns, _⟩⟩, _⟩ | ⟨q, _⟩⟩ := G0 A.in1.in1 R.hh
  ·obtain ⟨o, es, ep, e, _⟩ := hns
   rw [e]; simp
  ·exact absurd q (Nat.lt_irrefl _)
 refine spliced_nil ?_
 refine znew (small_parts hpp) (by unfold Builtin.Range.rangeSize; simp; lia) (by exact k₅ _ _ hrg) (fun b o e => k₅ _ _ (up₄ _ _ (up3 b o e))) (lk fun b o e => k₅ _ _ (up₄ _ _ (up3 b o e))) hLg (G0 _ R.hh) fun h₆ z TI TO I Z6 k₆ f6 => ?_
 have B6 := B5.up (s' := { s5 with heap := h₆ }) k₆ rfl rfl
 refine h₁ _ _ ?_
 refine wpAny_pyIter_zip Z6.hz ?_
 have hl4 : s4.heap.get? l = some (lstO #[] 0) := up₄ _ _ hl3
 have hl5 := k₅ _ _ hl4
 have nl4 : ∀ {b : Addr}, s4.heap.get? b = none → b ≠ l := fun q e => by rw [e, hl4] at q; cases q
 have nl5 : ∀ {b : Addr}, s5.heap.get? b = none → b ≠ l := fun q e => by rw [e, hl5] at q; cases q
 obtain ⟨or, er, _⟩ := id hr
 have Of : ZOff Lf z TI TO I a r Lg := ⟨B5.ne_new (f6 z (.inl rfl)), B5.ne_new (f6 TI (.inr (.inl rfl))), B5.ne_new (f6 TO (.inr (.inr (.inl rfl)))), B5.ne_new (f6 I (.inr (.inr (.inr rfl)))), B4.ne_new fa, B5.ne_old er, B4.ne_new fL⟩
 have Ol : ZOff l z TI TO I a r Lg := ⟨nl5 (f6 z (.inl rfl)), nl5 (f6 TI (.inr (.inl rfl))), nl5 (f6 TO (.inr (.inr (.inl rfl)))), nl5 (f6 I (.inr (.inr (.inr rfl)))), nl4 fa, (fun e => by rw [← e, er] at fl; exact no_some fl.symm), nl4 fL⟩
 generalize hje : (if ruler[p]? = some 0 then parts else p) = je
 have je1 : je ≤ parts ∧ (je = parts ∨ (je + 1 = parts ∧ je = p ∧ ruler[p]? ≠ some 0)) := by
  rcases hstop with h | h
  ·rw [if_pos h.1] at hje; lia
  ·rw [if_neg (by rw [h.1]; decide)] at hje
   exact ⟨by lia, .inr ⟨by lia, by lia, by rw [h.1]; decide⟩⟩
 have je2 : ∀ j, j < je → j < p ∨ ruler[p]? = some 0 := fun j hj => by
  by_cases q : ruler[p]? = some 0
  ·exact .inr q
  ·rw [if_neg q] at hje; exact .inl (by lia)
 refine codeAny_forLoop_any (fun n ss => ∃ j, n = je + 1 - j ∧ j ≤ je ∧ CutJ w mg mb b₀ s _ r l z TI TO I a Lg Lf s4.gens.size its ruler p (parts + p + 3) parts u j .none ss) ?_ (je + 1)
  ⟨0, rfl, Nat.zero_le _, ⟨_, B6, by ((try dsimp only); (repeat' (first | assumption | exact if_pos rfl | (refine (if_neg (by decide)).trans ?_) | exact rfl))), ⟨tb, by rw [Nat.sub_zero]; ((try dsimp only); (repeat' (first | assumption | exact if_pos rfl | (refine (if_neg (by decide)).trans ?_) | exact rfl)))⟩, tp, by ((try dsimp only); (repeat' (first | assumption | exact if_pos rfl | (refine (if_neg (by decide)).trans ?_) | exact rfl)))⟩, Z6, Of, Ol, nlL, ⟨#[], 0, k₆ _ _ hl5, rfl, fun i v e => by simp at e⟩, bl, fl, ll⟩
 rintro n ss ⟨j, rfl, hj, J⟩
 rcases Nat.lt_or_ge j je with hlt | hge
 ·refine notedOf (wpAny_mono (cut_turn (cdv := .ref 268) S ((R.le (k := 5) (by decide)).deep.le (by decide)) J (by lia) (by lia) (je2 j hlt) (hval j (by lia) (je2 j hlt)) hu hm) (fun r' s₁ h => ?_) fun ι ι z => z)
  obtain ⟨v, rfl, h⟩ := h
  refine notedOf (wpAny_mono h (fun ι s₂ h₂ => notedOf (wpAny_mono h₂ (fun ι s3 h₃ => notedOf (wpAny_mono h₃ (fun f s4' h₄ => ?_) fun ι ι z => z)) fun ι ι z => z)) fun ι ι z => z)
  obtain ⟨rfl, J'⟩ := h₄
  exact ⟨je + 1 - (j + 1), sub_dec hlt, j + 1, rfl, hlt, J'⟩
 ·have ej : j = je := (Nat.le_antisymm ‹_› ‹_›)
  obtain ⟨⟨m, BJ, m1, ⟨tb', m2⟩, tp', m3⟩, ZJ, _, _, _, ⟨vs, kk, hlJ, hvs, hall⟩, _, _, _⟩ := J
  refine ZJ.stop (S.C.keeps S.k) R.hh (R.dl (k := 2) (by decide)) (by lia) (by rcases je1.2 with q | q; exact .inl (by lia); exact .inr ⟨by lia, q.2.2⟩) fun s7 st7 kp => ?_
  have B7 := BJ.zstep S st7 kp Of
  have hl7 : s7.heap.get? l = some (lstO vs kk) := by
   obtain ⟨it, _, _, itc, k1⟩ := kp.heap
   exact k1 _ _ (Ne.symm Ol.z) (Ne.symm Ol.TO) (Ne.symm Ol.I) (Ne.symm Ol.L) (fun q => by have := (itc _ (q ▸ hlJ)).1; exact absurd (Value.type.inj this) (by decide)) hlJ
  refine notedOf (wpAny_execs_nil ?_)
  have hjp : j ≤ 100000 := by lia
  refine ex_cons (ex_If (wpAny_isTrue_Compare1 (wpAny_Call_NameR (B7.bi (v := .builtin "len") (by k_is) (by decide +kernel) (callWith_builtin rfl (evalArgs_plain (spliced_cons (B7.loc (v := .ref l) m1 (spliced_nil ?_)))))))))
  refine PyProof.Rows.len_list ⟨_, hl7, rfl, _, rfl⟩ (by rw [hvs]; lia) ?_
  have B8 := B7.tok (s7.toks + 1 + 1)
  refine B8.loc (v := .int parts tp') m3 ?_
  walk1
  walk1
  have bag : ∀ (ss : Shared) (vs' : Array Value) (k' : Nat), ss.heap.get? l = some (lstO vs' k') → vs'.size = parts → (∀ (i : Nat) (v : Value), vs'[i]? = some v → ∃ t, v = Value.str (sp u) t) → BagOn b₀ ss.heap l (List.replicate parts u) := fun ss vs' k' e1 e2 e3 =>
   ⟨bl, ll, vs', k', e1, by rw [e2, List.length_replicate], fun i n e => by
    rw [List.getElem?_replicate] at e
    split at e
    ·cases e
     have : i < vs'.size := by lia
     obtain ⟨t, ht⟩ := e3 i vs'[i] (Array.getElem?_eq_getElem this)
     exact ⟨t, by rw [Array.getElem?_eq_getElem this, ht]⟩
    ·cases e⟩
  rcases je1.2 with q | ⟨q, qp, qz⟩
  ·refine ite_f (by simp; lia) ?_
   refine wpAny_execs_nil (ex_cons (wpAny_Return_some (B8.loc (v := .ref l) m1 ?_)))
   refine h₀ _ _ ?_
   exact hret _ _ B8.S B8.K (bag _ vs kk hl7 (by lia) hall) fl
  ·refine ite_t (by simp; lia) ?_
   refine ex_cons (wpAny_Expr (MethodCall_ (B8.loc (v := .ref l) m1 ?_)))
   refine getMethod_list_append hl7 rfl rfl ?_
   refine callWith_builtin rfl (evalArgs_plain (spliced_cons (B8.loc (v := .str (sp ((parts - j) * u)) tb') m2 (spliced_nil ?_))))
   refine appendG B8.S bl ll hl7 (by lia) fun s9 S9 K9 hl9 g9 k9 => ?_
   have B9 := B8.step S9 K9 (al1 (.inr fl)) (not_in (Ne.symm nlL))
   refine wpAny_execs_nil (ex_cons (wpAny_Return_some (B9.loc (v := .ref l) m1 ?_)))
   refine h₀ _ _ ?_
   refine hret _ _ B9.S B9.K (bag _ _ _ hl9 (by rw [Array.size_push]; lia) fun i v e => ?_) fl
   rw [Array.getElem?_push] at e
   split at e
   ·cases e
    exact ⟨_, by rw [show parts - j = 1 from by lia, Nat.one_mul]⟩
   ·exact hall i v e
end
end Mine
namespace Mine
theorem BagOn.kp {w : World} {mg mb : NM} {b₀ : Heap} {s s' : Shared} {V : List Addr} {l : Addr} {ns : List Nat} (b : BagOn b₀ s.heap l ns) (S : Sit w mg mb b₀ s) (k : Kp V s s') (h : l ∉ V) : BagOn b₀ s'.heap l ns :=
 ⟨b.bl, b.ll, let ⟨vs, kk, e, q⟩ := b.on; ⟨vs, kk, k.get S e h (by exact cn), q⟩⟩
theorem BagOn.on0 {w : World} {mg mb : NM} {b₀ : Heap} {s s' : Shared} {l : Addr} {ns : List Nat} {h h' : Heap} (b : BagOn b₀ h l ns) (S : Sit w mg mb b₀ s) (k : Kp [] s s') (e : autoParam (h = s.heap) tR) (e' : autoParam (h' = s'.heap) tR) : BagOn b₀ h' l ns := by
 subst e e'; exact b.kp S k List.not_mem_nil
section
variable {w : World} {mg mb : NM} {b₀ : Heap} {s₀ s s' : Shared} {A : Around} {E : VP} {L : Addr} {U : List Addr} {m : NM} {env : Env}
theorem Kp.lstO {V : List Addr} {l : Addr} {its : Array Value} {kk : Nat} (k : Kp V s s') (S : Sit w mg mb b₀ s) (e : s.heap.get? l = some (lstO its kk)) (h : l ∉ V) : s'.heap.get? l = some (Mine.lstO its kk) := k.get S e h (by exact cn)
theorem lst_not_tup {h : Heap} {l : Addr} {its jts : Array Value} {kk : Nat} (e : h.get? l = some (lstO its kk)) : ¬ h.IsTuple l jts := cls_tup e (by show Value.type "list" ≠ Value.type "tuple"; decide)
theorem Walks.lst {l I : Addr} (hh : A.handled = none) (items : Array Value) (hne : l ≠ I) : Walks PW w A I [I, l] [I] items.size (fun i v => items[i]? = some v) (fun i h => h.IsListIter I l i ∧ h.IsList l items) := Walks.list hh I l hne items
end
end Mine
namespace Mine
noncomputable def tpairs (ns : List Nat) : List (Str × Str) := ns.map fun n => (sp n, Str.ofString "\t")
theorem tpairs_len (ns : List Nat) : lenOf (tpairs ns) = ns.sum + ns.length := by
 unfold lenOf tpairs
 rw [List.map_map]
 induction ns with
 | nil => rfl
 | cons n r ih =>
  simp only [List.map_cons, List.sum_cons, List.length_cons, Function.comp, sp_len] at ih ⊢
  have : (Str.ofString "\t").length = 1 := by decide +kernel
  lia
theorem tpairs_text (ns : List Nat) : (textOf (tpairs ns)).cps.toList = ns.flatMap fun n => List.replicate n 32 ++ [9] := by
 unfold textOf tpairs
 rw [List.map_map]
 unfold catS
 rw [List.flatMap_map]
 show List.flatMap (fun n => (catS [sp n, Str.ofString "\t"]).cps.toList) ns = _
 congr 1
section
variable {w : World} {mg mb : NM} {b₀ : Heap} {s₀ s s' : Shared} {A : Around} {E : VP} {L : Addr} {U : List Addr} {m : NM} {env : Env}
theorem out_none' {E' : VP} {Q : Flow → Shared → Prop} {v : Value} {c : Value → Code} (h : wpAny (model PW w) A (pyIter v) (fun it s₂ => codeAny (model PW w) A (c it) (fun r s' => match r with | .ok f => Q f s' | .error _ => False) s₂) E s) :
  wpAny (model PW w) A (pyIter v) (fun it s₂ => codeAny (model PW w) A (c it) (fun r s' => match r with | .ok f => Q f s' | .error e => E' e s') s₂) E s := wpAny_mono h (fun ι ι x => out_none x) fun ι ι x => x
end
end Mine
namespace Mine
structure CellOn (b₀ h : Heap) (c : Addr) (v : Option Value) : Prop where
 bc : b₀.get? c = none
 lc : @LT.lt Nat _ 154 c
 on : h.IsCell c v
section
variable {w : World} {mg mb : NM} {b₀ : Heap} {s₀ s s' : Shared} {M : Model} {A : Around} {E : VP} {L c : Addr} {U V : List Addr} {m : NM} {env : Env} {v v' : Option Value}
theorem CellOn.kp (x : CellOn b₀ s.heap c v) (k : Kp V s s') (h : c ∉ V) : CellOn b₀ s'.heap c v :=
 ⟨x.bc, x.lc, let ⟨o, e, d⟩ := x.on; ⟨o, k.heap c o h (Nat.ne_of_gt (Nat.lt_trans (by decide) x.lc)) (Nat.ne_of_gt x.lc) e, d⟩⟩
theorem CellOn.on0 {h h' : Heap} (x : CellOn b₀ h c v) (k : Kp [] s s') (e : autoParam (h = s.heap) tR) (e' : autoParam (h' = s'.heap) tR) : CellOn b₀ h' c v := by
 subst e e'; exact x.kp k List.not_mem_nil
theorem enter_c {R : Result → Shared → Prop} {name qual cn : Str} {params : Arguments} {body : List Stmt} {scope : Scope} {dV kV doc pm cdv ct oc : Value} {an od : Option Addr} {osl : Array (Option Value)} {f : Addr} {args : Args} {binds : List (Str × Value)} (U : List Addr)
  (S : Sit w mg mb b₀ s) (hroom : A.depth < recursionLimit)
  (ho : (hd.heap_1 w.params).lookup f = some ⟨oc, od, .func (fnOf name qual params body scope dV kV doc pm an cdv ct), osl⟩) (hcd : codeIn (hd.heap_1 w.params) cdv qual = true)
  (hbind : BindsTo s (fnOf name qual params body scope dV kV doc pm an cdv ct) args binds) 
  (hcells : ∀ n, cellsFrom n scope.names [] = [(cn, n)])
  (hkind : ∀ x ∈ binds, scope.names.lookup x.1 = some .local ∨ (scope.names.lookup x.1 = some .cell ∧ x.1 = cn))
  (h : ∀ L s₁, Body w mg mb b₀ s U L (bindL (envOfC qual scope L f cdv).kindOf binds fun ι => none) s₁ → CellOn b₀ s₁.heap (L + 1 : Nat) (bindC (envOfC qual scope L f cdv).kindOf binds (fun ι => none) cn) → s.heap.get? (L + 1 : Nat) = none → 
   (∀ b o, s.heap.get? b = some o → s₁.heap.get? b = some o) → s₁.gens = s.gens → 
   wpAny (model PW w) (A.deeper (envOfC qual scope L f cdv)) (execs body (envOfC qual scope L f cdv))
    (fun fl s' => R (.ok (.ret (match fl with | .ret v => v | _ => .none))) s') (fun ι ι => False) s₁)
  (hco : autoParam (scope.isCoroutine = false) tR) (hgen : autoParam (scope.isGenerator = false) tR) (hk : autoParam (scope.kind = .function) tR) : codeAny (model PW w) A (.call (.ref f) args) R s := by
 obtain ⟨loose, mean, T⟩ := S.C.top
 refine codeAny_call_function (fd := fnOf name qual params body scope dV kV doc pm an cdv ct) hroom ((S.C.K.keeps S.k) _ _ ho) rfl hco hgen rfl (codeRec_of (S.C.K.keeps S.k) hcd) (hbind _ _ _ _ ?_)
 refine wpAny_newFunctionEnv_cells hk (fun x hx => (hkind x hx).imp id fun q => ⟨q.1, ?_⟩) fun env' he s' x => ?_
 ·rw [hcells, q.2]; simp [List.lookup_cons]
 subst he
 refine ⟨(T.nolimit.keeps S.k).keeps x.toInCall.keep, codeAny_func ?_⟩
 obtain ⟨h₁, tk, rfl, hk₁⟩ := x.done
 have k := S.grow (t := tk) hk₁
 have hc : (cellsFrom (s.heap.objs.size + 1) scope.names []).lookup cn = some (s.heap.objs.size + 1) := by rw [hcells]; simp [List.lookup_cons]
 have fc : ∀ hh : Heap, hh.objs.size ≤ s.heap.objs.size → hh.get? (s.heap.objs.size + 1 : Nat) = none := fun hh hl => by
  cases q : hh.get? (s.heap.objs.size + 1 : Nat) with
  | none => rfl
  | some o => have := Heap.lt_size q; exact absurd this (by show ¬ (s.heap.objs.size + 1 < hh.objs.size); lia)
 have bs : b₀.get? (s.heap.objs.size + 1 : Nat) = none := by
  cases q : b₀.get? (s.heap.objs.size + 1 : Nat) with
  | none => rfl
  | some o => have e := S.k _ _ q; rw [fc s.heap (Nat.le_refl _)] at e; cases e
 refine wpAny_mono (h s.heap.objs.size { s with heap := h₁, toks := tk } ⟨k.1, (Kp.refl [] s).trans k.2 (List.forall_mem_nil _) (List.forall_mem_nil _), x.toInCall.ns, get_size _, S.fresh, S.lt⟩ ⟨bs, ?_, x.cell cn _ hc⟩ (fc _ (Nat.le_refl _)) hk₁ rfl) (fun ι ι x => x) fun ι ι x => x.elim
 exact Nat.lt_succ_of_lt S.lt
theorem Body.cel {x : Str} {v : Value} {p : Pos} {Q : VP} (B : Body w mg mb b₀ s₀ U L m s) (C : CellOn b₀ s.heap c (some v)) (hQ : Q v s) (hc : autoParam (env.cells.lookup x = some c) tR) (hk : autoParam (env.scope.kind = .function) tR) (hx : autoParam (env.kindOf x = some .cell) tR)
  (hd : autoParam ((x == ("__debug__" : Str)) = false) tD) : wpAny M A (eval (.Name x p) env) Q E s := wpAny_Name (wpAny_loadName_cell hk hx hc C.on hQ) hd
theorem Body.fre {x : Str} {v : Value} {p : Pos} {Q : VP} (B : Body w mg mb b₀ s₀ U L m s) (C : CellOn b₀ s.heap c (some v)) (hQ : Q v s) (hc : autoParam (env.cells.lookup x = some c) tR) (hk : autoParam (env.scope.kind = .function) tR) (hx : autoParam (env.kindOf x = some .free) tR)
  (hd : autoParam ((x == ("__debug__" : Str)) = false) tD) (hn : autoParam ((x == ("__classdict__" : Str)) = false) tD) : wpAny M A (eval (.Name x p) env) Q E s := wpAny_Name (wpAny_loadName_free hk hx hc C.on hQ hn) hd
theorem Body.stc {x : Str} {v₀ : Option Value} {v : Value} {Q : Unit → Shared → Prop} (B : Body w mg mb b₀ s₀ U L m s) (C : CellOn b₀ s.heap c v₀) (hcL : c ≠ L) (hcs : s₀.heap.get? c = none)
  (hQ : ∀ s', Body w mg mb b₀ s₀ U L m s' → CellOn b₀ s'.heap c (some v) → Kp [c] s s' → s'.gens = s.gens → (∀ b o, b ≠ c → s.heap.get? b = some o → s'.heap.get? b = some o) → Q () s') (hc : autoParam (env.cells.lookup x = some c) tR) (hk : autoParam (env.scope.kind = .function) tR) (hx : autoParam (env.kindOf x = some .cell) tR) :
  wpAny M A (storeName env x v) Q E s := by
 refine wpAny_storeName_cell hk hx hc C.on fun h' hv hs => ?_
 have k := B.S.by (s' := { s with heap := h' }) (U := [c]) (al1 C.bc) (by simp only [List.mem_singleton]; exact Nat.ne_of_lt (Nat.lt_trans (by decide) C.lc)) (by simp only [List.mem_singleton]; exact Nat.ne_of_lt C.lc)
  (fun b o hb e => (hs.2 b (by simpa using hb)).trans e) rfl rfl
 exact hQ _ (B.step k.1 k.2 (al1 (.inr hcs)) (not_in (Ne.symm hcL))) ⟨C.bc, C.lc, hv⟩ k.2 rfl fun b o hb e => (hs.2 b hb).trans e
end
end Mine
namespace Mine
section
variable {w : World} {mg mb : NM} {b₀ : Heap} {s₀ s s' : Shared} {A : Around} {E : VP} {L C D : Addr} {U V : List Addr} {m : NM} {env : Env}
theorem Body.drop {h' : Heap} (B : Body w mg mb b₀ s₀ V C m s) (hs : Heap.SameBut C s.heap h') : Sit w mg mb b₀ { s with heap := h' } ∧ Kp V s₀ { s with heap := h' } := by
 have z := B.S.by (s' := { s with heap := h' }) (U := [C]) (al1 B.b) (by simp only [List.mem_singleton]; exact Nat.ne_of_lt (Nat.lt_trans (by decide) B.lt)) (by simp only [List.mem_singleton]; exact Nat.ne_of_lt B.lt)
  (fun b o hb e => hs.extBut b o (by simpa using hb) e) rfl rfl
 exact ⟨z.1, B.K.trans z.2 (fun ι h => h) (al1 (.inr B.fresh))⟩
theorem comp_eval {elt target iter : Expr} {ifs : List Expr} {rest : List Comprehension} {scope : Scope} {pos : Pos} {cl : List (Str × Addr)} {Q : VP}
  (hclos : closureFor scope env = pure cl) (hcell : ∀ y ∈ scope.names, y.2 ≠ .cell) (hkind : scope.kind = .function) (hnames : ∀ y ∈ scope.names, y.2 = .local → scope.names.lookup y.1 = some .local)
  (h : wpAny (model PW w) A (eval iter env) (fun xv s₁ => wpAny (model PW w) A (pyIter xv) (fun it s₂ => ∃ V, Sit w mg mb b₀ s₂ ∧ (∀ s' (Q : VP) E, (∀ b o, s₂.heap.get? b = some o → s'.heap.get? b = some o) → Q it s' → wpAny (model PW w) A (pyIter it) Q E s') ∧
   ∀ D C s4, CompAt w mg mb b₀ s₂ D C s4 → codeAny (model PW w) A (.compLoop (.ListComp elt (⟨target, iter, ifs, 0⟩ :: rest) scope pos) 0 it (.ref D) (compEnvC scope cl C env))
    (fun r s' => r = .ok .next ∧ (∃ m', Body w mg mb b₀ s₂ V C m' s') ∧ ∀ s'', Sit w mg mb b₀ s'' → Kp V s₂ s'' → s''.gens = s'.gens → (∀ b o, b ≠ C → s'.heap.get? b = some o → s''.heap.get? b = some o) → Q (.ref D) s'') s4) E s₁) E s)
  (hs : autoParam (∀ x, foldedSetIterable iter env x = pure x) tI) : wpAny (model PW w) A (eval (.ListComp elt (⟨target, iter, ifs, 0⟩ :: rest) scope pos) env) Q E s := by
 rw [eval_ListComp]
 refine wpAny_comprehension_free (use := none) rfl hs hclos hkind hnames (wpAny_mono h (fun xv s₁ h₁ => wpAny_mono h₁ (fun it s₂ h₂ => ?_) fun ι ι e => e) fun ι ι e => e)
 obtain ⟨V, S₂, self, h₃⟩ := h₂
 refine comp_block (RR := fun acc C => compPost (model PW w) A E none Q acc C) S₂ rfl hcell hkind self fun D C s4 X => codeAny_mono (h₃ D C s4 X) fun r s' hr => ?_
 obtain ⟨rfl, ⟨m', B'⟩, hq⟩ := hr
 exact ⟨m', B'.ns, fun h' hs' => hq _ (B'.drop hs').1 (B'.drop hs').2 rfl fun b o hb e => hs'.extBut b o hb e⟩
theorem comp_assign {elt target iter : Expr} {ifs : List Expr} {rest : List Comprehension} {scope : Scope} {pos spos py : Pos} {y : Str} {cl : List (Str × Addr)} {Q : Flow → Shared → Prop}
  (hclos : closureFor scope env = pure cl) (hcell : ∀ y ∈ scope.names, y.2 ≠ .cell) (hkind : scope.kind = .function) (hnames : ∀ y ∈ scope.names, y.2 = .local → scope.names.lookup y.1 = some .local)
  (h : wpAny (model PW w) A (eval iter env) (fun xv s₁ => wpAny (model PW w) A (pyIter xv) (fun it s₂ => ∃ V U m, Body w mg mb b₀ s₀ U env.locals m s₂ ∧ (∀ v ∈ V, v ∈ U ∨ s₀.heap.get? v = none) ∧ env.locals ∉ V ∧ (∀ s' (Q : VP) E, (∀ b o, s₂.heap.get? b = some o → s'.heap.get? b = some o) → Q it s' → wpAny (model PW w) A (pyIter it) Q E s') ∧
   ∀ D C s4, CompAt w mg mb b₀ s₂ D C s4 → codeAny (model PW w) A (.compLoop (.ListComp elt (⟨target, iter, ifs, 0⟩ :: rest) scope pos) 0 it (.ref D) (compEnvC scope cl C env))
    (fun r s' => r = .ok .next ∧ (∃ m', Body w mg mb b₀ s₂ V C m' s') ∧ ∀ s'', Body w mg mb b₀ s₀ U env.locals (fun z => if z = y then some (.ref D) else m z) s'' → Kp (env.locals :: V) s₂ s'' → s''.gens = s'.gens →
     (∀ b o, b ≠ C → b ≠ env.locals → s'.heap.get? b = some o → s''.heap.get? b = some o) → Q .next s'') s4) E s₁) E s)
  (hs : autoParam (∀ x, foldedSetIterable iter env x = pure x) tI)
  (hsw : autoParam (swapsWith (.ListComp elt (⟨target, iter, ifs, 0⟩ :: rest) scope pos) (some (.Name y py)) spos.line env = pure true) tR) (hy : autoParam (env.kindOf y = some .local) tR) (hp : autoParam ((env.scope.kind == .class || (env.scope.kind == .module && env.locals != env.globals)) = false) tR) :
  wpAny (model PW w) A (exec (.Assign [.Name y py] (.ListComp elt (⟨target, iter, ifs, 0⟩ :: rest) scope pos) spos) env) Q E s := by
 rw [exec_Assign_Name_used _ _ _ _ hsw]
 refine wpAny_bind (wpAny_standAt (wpAny_bind ?_))
 show wpAny _ A (do let _ ← comprehension (.ListComp elt (⟨target, iter, ifs, 0⟩ :: rest) scope pos) scope env _ (newList []) false (eval iter env) (some (assign (.Name y py) env))) _ _ s
 refine wpAny_bind (wpAny_mono (wpAny_comprehension_free (use := some (assign (.Name y py) env)) (Q := fun ι s' => Q .next s') rfl hs hclos hkind hnames
  (wpAny_mono h (fun xv s₁ h₁ => wpAny_mono h₁ (fun it s₂ h₂ => ?_) fun ι ι e => e) fun ι ι e => e)) (fun ι s' hq => wpAny_pure (wpAny_pure hq)) fun ι ι e => e)
 obtain ⟨V, U, m, B2, hV, hL, self, h₃⟩ := h₂
 refine comp_block (RR := fun acc C => compPost (model PW w) A E (some (assign (.Name y py) env)) (fun ι s' => Q .next s') acc C) B2.S rfl hcell hkind self fun D C s4 X => codeAny_mono (h₃ D C s4 X) fun r s' hr => ?_
 obtain ⟨rfl, ⟨m', B'⟩, hq⟩ := hr
 have nCL : C ≠ env.locals := B2.ne_new B'.fresh
 have B3 := B2.step B'.S B'.K hV hL
 show wpAny _ A (assign (.Name y py) env (.ref D)) _ _ _
 refine wpAny_assign_Name (B3.stG (fun s5 B5 k₅ g5 kk5 => ?_) rfl hy hp)
 refine ⟨m', B'.ns.at' fun o e => kk5 _ _ nCL e, fun h' hs' => ?_⟩
 have B6 : Body w mg mb b₀ s₂ (env.locals :: V) C m' s5 := ⟨B5.S, B'.K.trans k₅ (by simp +contextual) (by simp), B'.ns.at' fun o e => kk5 _ _ nCL e, B'.fresh, B'.b, B'.lt⟩
 have z := B6.drop hs'
 have z₁ := B5.S.same s5.toks hs' B'.b B'.lt
 have hCU : C ∈ U ∨ s₀.heap.get? C = none := by
  by_cases q : C ∈ U
  ·exact .inl q
  ·refine .inr ?_
   cases e : s₀.heap.get? C with
   | none => rfl
   | some o =>
    have := B2.K.heap C o q (Nat.ne_of_gt (Nat.lt_trans (by decide) B'.lt)) (Nat.ne_of_gt B'.lt) e
    rw [B'.fresh] at this; cases this
 exact hq _ (B5.step z₁.1 z₁.2 (al1 hCU) (not_in (Ne.symm nCL))) z.2 g5 fun b o hC hL e => hs'.extBut b o hC (kk5 b o hL e)
end
end Mine
namespace Mine
open Builtin Builtin.Str PySem.StrLaws
theorem run_x (s : Str) (limit r : Nat) : ∀ (m cur : Nat) (ws : Array (Nat × Nat)) (b : Nat), (∀ i, i < m → s.cps.getD (cur + i) 0 = 120) → (ws.size == limit) = false →
  (forIn (List.range' cur (m + r)) ((none, ws, some b) : SwSt) (swBody s limit)).run = (forIn (List.range' (cur + m) r) ((none, ws, some b) : SwSt) (swBody s limit)).run
 | 0, cur, ws, b, _, _ => by simp
 | m + 1, cur, ws, b, h, hs => by
  rw [show m + 1 + r = (m + r) + 1 from by lia, List.range'_succ, List.forIn_cons]
  have h0 : s.cps.getD cur 0 = 120 := h 0 (Nat.succ_pos _)
  have e : Unicode.isSpace 120 = false := by decide +kernel
  have ih := run_x s limit r m (cur + 1) ws b (fun i hi => by have := h (i + 1) (by lia); rw [show cur + 1 + i = cur + (i + 1) from by lia]; exact this) hs
  unfold swBody
  simp only [hs, Bool.false_eq_true, if_false, h0, e]
  rw [show cur + (m + 1) = cur + 1 + m from by lia]
  exact ih
theorem run_blk (s : Str) (limit r n cur : Nat) (ws : Array (Nat × Nat)) (st : Option Nat) (h0 : s.cps.getD cur 0 = 32) (hx : ∀ i, i < n + 1 → s.cps.getD (cur + 1 + i) 0 = 120) (hs : ws.size + 1 < limit) :
  (forIn (List.range' cur (n + 2 + r)) ((none, ws, st) : SwSt) (swBody s limit)).run = (forIn (List.range' (cur + (n + 2)) r) ((none, (match st with | some b => ws.push (b, cur) | none => ws), some (cur + 1)) : SwSt) (swBody s limit)).run := by
 have e1 : Unicode.isSpace 32 = true := by decide +kernel
 have e2 : Unicode.isSpace 120 = false := by decide +kernel
 have hsz : (ws.size == limit) = false := by simp; lia
 have go : ∀ ws' : Array (Nat × Nat), (ws'.size == limit) = false → (forIn (List.range' (cur + 1) (n + 1 + r)) ((none, ws', none) : SwSt) (swBody s limit)).run = (forIn (List.range' (cur + (n + 2)) r) ((none, ws', some (cur + 1)) : SwSt) (swBody s limit)).run := fun ws' hs' => by
  rw [show n + 1 + r = (n + r) + 1 from by lia, List.range'_succ, List.forIn_cons]
  have h1 : s.cps.getD (cur + 1) 0 = 120 := hx 0 (Nat.succ_pos _)
  have := run_x s limit r n (cur + 1 + 1) ws' (cur + 1) (fun i hi => by have := hx (i + 1) (by lia); rw [show cur + 1 + 1 + i = cur + 1 + (i + 1) from by lia]; exact this) hs'
  rw [show cur + 1 + 1 + n = cur + (n + 2) from by lia] at this
  rw [← this]
  unfold swBody
  simp only [hs', Bool.false_eq_true, if_false, h1, e2]
  rfl
 rw [show n + 2 + r = (n + 1 + r) + 1 from by lia, List.range'_succ, List.forIn_cons]
 cases st with
 | none =>
  refine Eq.trans ?_ (go ws hsz)
  unfold swBody
  simp only [hsz, Bool.false_eq_true, if_false, h0, e1]
  rfl
 | some b =>
  refine Eq.trans ?_ (go (ws.push (b, cur)) (by simp; lia))
  unfold swBody
  simp only [hsz, Bool.false_eq_true, if_false, h0, e1]
  rfl
theorem run_rows (s : Str) (limit n : Nat) : ∀ (k cur : Nat) (ws : Array (Nat × Nat)) (b : Nat), s.length = cur + k * (n + 2) → (∀ j, j < k → s.cps.getD (cur + j * (n + 2)) 0 = 32 ∧ ∀ i, i < n + 1 → s.cps.getD (cur + j * (n + 2) + 1 + i) 0 = 120) → ws.size + k + 1 < limit →
  swEnd s (forIn (List.range' cur (k * (n + 2))) ((none, ws, some b) : SwSt) (swBody s limit)).run = ws.toList ++ (b, cur) :: (List.range k).map fun j => (cur + j * (n + 2) + 1, cur + (j + 1) * (n + 2))
 | 0, cur, ws, b, hl, _, _ => by
  rw [Nat.zero_mul] at hl ⊢
  show swEnd s (none, ws, some b) = _
  unfold swEnd
  simp [hl]
 | k + 1, cur, ws, b, hl, h, hs => by
  have h0 := h 0 (Nat.succ_pos _)
  rw [Nat.zero_mul, Nat.add_zero] at h0
  have e : (k + 1) * (n + 2) = n + 2 + k * (n + 2) := by rw [Nat.succ_mul, Nat.add_comm]
  rw [e, run_blk s limit (k * (n + 2)) n cur ws (some b) h0.1 h0.2 (by lia)]
  rw [run_rows s limit n k (cur + (n + 2)) (ws.push (b, cur)) (cur + 1) (by rw [hl, e]; lia) (fun j hj => by
   have := h (j + 1) (by lia)
   rw [show cur + (n + 2) + j * (n + 2) = cur + (j + 1) * (n + 2) from by rw [Nat.succ_mul]; lia]
   exact this) (by simp; lia)]
  rw [List.range_succ_eq_map, List.map_cons, List.map_map, Array.toList_push, List.append_assoc]
  congr 1
  simp only [List.cons_append, List.nil_append, Nat.zero_mul, Nat.add_zero, Nat.zero_add, Nat.one_mul, Function.comp]
  congr 2
  apply List.map_congr_left
  intro j _
  have e1 : (j + 1) * (n + 2) = j * (n + 2) + (n + 2) := Nat.succ_mul ..
  have e2 : (j + 1 + 1) * (n + 2) = (j + 1) * (n + 2) + (n + 2) := Nat.succ_mul ..
  refine Prod.ext ?_ ?_
  ·show cur + (n + 2) + j * (n + 2) + 1 = cur + (j + 1) * (n + 2) + 1
   lia
  ·show cur + (n + 2) + (j + 1) * (n + 2) = cur + (j + 1 + 1) * (n + 2)
   lia
end Mine
namespace Mine
open Builtin Builtin.Str PySem.StrLaws
theorem cut_at {c : Nat} : ∀ {x x' t t' : List Nat}, c ∉ x → c ∉ x' → x ++ c :: t = x' ++ c :: t' → x = x' ∧ t = t'
 | [], [], t, t', _, _, e => ⟨rfl, by simpa using e⟩
 | [], b :: x', t, t', _, h, e => by
  simp only [List.nil_append, List.cons_append, List.cons.injEq] at e
  exact absurd (e.1 ▸ List.mem_cons_self ..) h
 | a :: x, [], t, t', h, _, e => by
  simp only [List.nil_append, List.cons_append, List.cons.injEq] at e
  exact absurd (e.1 ▸ List.mem_cons_self ..) h
 | a :: x, b :: x', t, t', h, h', e => by
  simp only [List.cons_append, List.cons.injEq] at e
  have := cut_at (fun q => h (List.mem_cons_of_mem _ q)) (fun q => h' (List.mem_cons_of_mem _ q)) e.2
  exact ⟨by rw [e.1, this.1], this.2⟩
theorem join_two (c : Nat) (x y : Str) (r : List Str) : (Str.join ⟨#[c]⟩ (x :: y :: r)).cps.toList = x.cps.toList ++ c :: (Str.join ⟨#[c]⟩ (y :: r)).cps.toList := by
 show (x ++ (⟨#[c]⟩ : Str) ++ Str.join ⟨#[c]⟩ (y :: r)).cps.toList = _
 rw [Str.cps_append, Str.cps_append, Array.toList_append, Array.toList_append]
 simp
theorem str_of_list {x y : Str} (h : x.cps.toList = y.cps.toList) : x = y := Str.ext' (Array.toList_inj.mp h)
theorem join_inj (c : Nat) : ∀ (l l' : List Str), l ≠ [] → l' ≠ [] → (∀ p ∈ l, c ∉ p.cps.toList) → (∀ p ∈ l', c ∉ p.cps.toList) → Str.join ⟨#[c]⟩ l = Str.join ⟨#[c]⟩ l' → l = l'
 | [], _, h, _, _, _, _ => absurd rfl h
 | _ :: _, [], _, h, _, _, _ => absurd rfl h
 | [x], [x'], _, _, _, _, e => by
  have e' : x = x' := e
  rw [e']
 | [x], x' :: y' :: r', _, _, h, _, e => by
  have e' : x.cps.toList = (Str.join ⟨#[c]⟩ (x' :: y' :: r')).cps.toList := by rw [← e]; rfl
  rw [join_two] at e'
  exact absurd (by rw [e']; simp) (h x (List.mem_cons_self ..))
 | x :: y :: r, [x'], _, _, _, h, e => by
  have e' : x'.cps.toList = (Str.join ⟨#[c]⟩ (x :: y :: r)).cps.toList := by rw [e]; rfl
  rw [join_two] at e'
  exact absurd (by rw [e']; simp) (h x' (List.mem_cons_self ..))
 | x :: y :: r, x' :: y' :: r', _, _, h, h', e => by
  have e' := congrArg (fun z : Str => z.cps.toList) e
  simp only [join_two] at e'
  obtain ⟨e1, e2⟩ := cut_at (h x (List.mem_cons_self ..)) (h' x' (List.mem_cons_self ..)) e'
  have := join_inj c (y :: r) (y' :: r') (by simp) (by simp) (fun p hp => h p (List.mem_cons_of_mem _ hp)) (fun p hp => h' p (List.mem_cons_of_mem _ hp)) (str_of_list e2)
  rw [str_of_list e1, this]
theorem split_ne (x y : Str) : Txt.split x y ≠ [] := by
 unfold Txt.split
 split
 ·simp
 ·split
  ·simp
  ·rw [partsBetween_eq]
   obtain ⟨p, r, e⟩ := partsFrom_ne x y.length 0 (occurrences x y 0 x.length (x.length + 1))
   rw [e]; simp
theorem split_join (c : Nat) (l : List Str) (h : l ≠ []) (hf : ∀ p ∈ l, c ∉ p.cps.toList) : Txt.split (Txt.join ⟨#[c]⟩ l) ⟨#[c]⟩ = l := by
 refine join_inj c _ l (split_ne _ _) h (split_free _ c) hf ?_
 rw [join_split]
 exact glued_eq_join _ _
noncomputable def xw (n : Nat) : Str := ⟨(List.replicate n 120).toArray⟩
theorem xw_len (n : Nat) : (xw n).length = n := by
 show (List.replicate n 120).toArray.size = n
 simp
noncomputable def row (k n : Nat) : List (Str × Str) := List.replicate k (Str.ofString " ", xw n)
noncomputable def blk (n : Nat) : List Nat := 32 :: List.replicate n 120
theorem row_text (k n : Nat) : (textOf (row k n)).cps.toList = (List.replicate k (blk n)).flatten := by
 have e : ∀ k, ((row k n).map fun p => catS [p.1, p.2]) = List.replicate k (catS [Str.ofString " ", xw n]) := fun k => by simp [row]
 have e2 : (catS [Str.ofString " ", xw n]).cps.toList = blk n := by
  have e3 : (Str.ofString " ").cps.toList = [32] := by decide +kernel
  simp [catS, xw, e3, blk]
 unfold textOf
 rw [e]
 show (List.flatMap (fun y : Str => y.cps.toList) _).toArray.toList = _
 rw [List.flatMap_replicate]
 simp [e2]
theorem row_len (k n : Nat) : lenOf (row k n) = k * (n + 1) := by
 have e3 : (Str.ofString " ").length = 1 := by decide +kernel
 unfold lenOf row
 simp [e3, xw_len]
 rw [Nat.add_comm]
theorem flat_get {α : Type} (b : List α) : ∀ (k j i : Nat), j < k → i < b.length → (List.replicate k b).flatten[j * b.length + i]? = b[i]?
 | 0, _, _, h, _ => absurd h (by lia)
 | k + 1, 0, i, _, hi => by
  rw [List.replicate_succ, List.flatten_cons, Nat.zero_mul, Nat.zero_add, List.getElem?_append_left hi]
 | k + 1, j + 1, i, h, hi => by
  rw [List.replicate_succ, List.flatten_cons, Nat.succ_mul, List.getElem?_append_right (by lia)]
  rw [show j * b.length + b.length + i - b.length = j * b.length + i from by lia]
  exact flat_get b k j i (by lia) hi
theorem row_at {k n j i : Nat} (hj : j < k) (hi : i < n + 1) : (textOf (row k n)).cps.getD (j * (n + 1) + i) 0 = (blk n).getD i 0 := by
 have hb : (blk n).length = n + 1 := by simp [blk]
 have := flat_get (blk n) k j i hj (by lia)
 rw [hb, ← row_text, Array.getElem?_toList] at this
 rw [Array.getD_eq_getD_getElem?, this, List.getD_eq_getElem?_getD]
theorem row_words {k n : Nat} (hk : 1 ≤ k) (hn : 1 ≤ n) : Txt.words (textOf (row k n)) = List.replicate k (xw n) := by
 obtain ⟨k, rfl⟩ : ∃ k', k = k' + 1 := ⟨k - 1, (Nat.sub_add_cancel ‹_›).symm⟩
 obtain ⟨n, rfl⟩ : ∃ n', n = n' + 1 := ⟨n - 1, (Nat.sub_add_cancel ‹_›).symm⟩
 have hlen : (textOf (row (k + 1) (n + 1))).length = (k + 1) * (n + 2) := by rw [textOf_length, row_len]
 have g0 : ∀ j, j < k + 1 → (textOf (row (k + 1) (n + 1))).cps.getD (j * (n + 2)) 0 = 32 := fun j hj => row_at (i := 0) hj (Nat.succ_pos _)
 have g1 : ∀ j i, j < k + 1 → i < n + 1 → (textOf (row (k + 1) (n + 1))).cps.getD (j * (n + 2) + 1 + i) 0 = 120 := fun j i hj hi => by
  have := row_at (k := k + 1) (n := n + 1) (i := i + 1) hj (by lia)
  rw [show j * (n + 2) + 1 + i = j * (n + 1 + 1) + (i + 1) from by rw [show n + 1 + 1 = n + 2 from rfl]; lia, this]
  unfold blk
  rw [List.getD_cons_succ, List.getD_eq_getElem?_getD, List.getElem?_replicate, if_pos hi]
  rfl
 have sw : spaceWords (textOf (row (k + 1) (n + 1))) ((textOf (row (k + 1) (n + 1))).length + 1) = (List.range (k + 1)).map fun j => (j * (n + 2) + 1, (j + 1) * (n + 2)) := by
  have e : (k + 1) * (n + 2) = n + 2 + k * (n + 2) := by rw [Nat.succ_mul, Nat.add_comm]
  have hk2 : k ≤ k * (n + 2) := Nat.le_mul_of_pos_right _ (Nat.succ_pos _)
  rw [sw_eq, hlen]
  rw [show List.range' 0 ((k + 1) * (n + 2)) = List.range' 0 (n + 2 + k * (n + 2)) from by rw [e]]
  rw [run_blk _ _ (k * (n + 2)) n 0 #[] none (by simpa using g0 0 ‹_›) (fun i hi => by simpa using g1 0 i ‹_› hi) (Nat.le_of_ble_eq_true rfl)]
  rw [run_rows _ _ n k (0 + (n + 2)) #[] (0 + 1) (by rw [hlen, e]; lia) (fun j hj => by
   have e1 : 0 + (n + 2) + j * (n + 2) = (j + 1) * (n + 2) := by rw [Nat.succ_mul]; lia
   rw [e1]
   exact ⟨g0 (j + 1) (by lia), fun i hi => g1 (j + 1) i (by lia) hi⟩) (by simp; lia)]
  rw [List.range_succ_eq_map, List.map_cons, List.map_map]
  simp only [List.nil_append, Nat.zero_mul, Nat.zero_add, Nat.one_mul]
  congr 1
  apply List.map_congr_left
  intro j _
  have e1 : (j + 1) * (n + 2) = j * (n + 2) + (n + 2) := Nat.succ_mul ..
  have e2 : (j + 1 + 1) * (n + 2) = (j + 1) * (n + 2) + (n + 2) := Nat.succ_mul ..
  refine Prod.ext ?_ ?_
  ·show n + 2 + j * (n + 2) + 1 = (j + 1) * (n + 2) + 1
   lia
  ·show n + 2 + (j + 1) * (n + 2) = (j + 1 + 1) * (n + 2)
   lia
 unfold Txt.words
 rw [sw, if_neg]
 ·unfold PySem.wordsOf
  rw [sw, List.map_map]
  refine List.ext_getElem (by simp) fun j h1 h2 => ?_
  simp only [List.length_map, List.length_range] at h1
  rw [List.getElem_map, List.getElem_range, List.getElem_replicate]
  apply str_of_list
  show (strSub (textOf (row (k + 1) (n + 1))) (j * (n + 2) + 1) ((j + 1) * (n + 2))).cps.toList = _
  have e1 : (j + 1) * (n + 2) = j * (n + 2) + (n + 2) := Nat.succ_mul ..
  refine List.ext_getElem? fun i => ?_
  rw [strSub_toList, List.getElem?_take, List.getElem?_drop]
  show _ = (List.replicate (n + 1) 120)[i]?
  rw [List.getElem?_replicate]
  by_cases hi : i < n + 1
  ·rw [if_pos (by lia), if_pos hi]
   have := flat_get (blk (n + 1)) (k + 1) j (i + 1) h1 (by simp [blk]; lia)
   rw [show (blk (n + 1)).length = n + 2 from by simp [blk], ← row_text] at this
   rw [show j * (n + 2) + 1 + i = j * (n + 2) + (i + 1) from by lia, this]
   unfold blk
   rw [List.getElem?_cons_succ, List.getElem?_replicate, if_pos hi]
  ·rw [if_neg (by lia), if_neg hi]
 ·rw [List.range_succ_eq_map, List.map_cons]
  simp
theorem row_free (k n : Nat) : (10 : Nat) ∉ (textOf (row k n)).cps.toList := by
 rw [row_text]
 intro h
 obtain ⟨l, hl, h⟩ := List.mem_flatten.mp h
 rw [(List.mem_replicate.mp hl).2] at h
 rcases List.mem_cons.mp h with q | q
 ·exact absurd q (by decide)
 ·exact absurd (List.mem_replicate.mp q).2 (by decide)
theorem row_notspace {k n : Nat} (hk : 1 ≤ k) (hn : 1 ≤ n) : Txt.isspace (textOf (row k n)) = false := by
 have h := row_at (k := k) (n := n) (j := 0) (i := 1) ‹_› (by lia)
 have e : (blk n).getD 1 0 = 120 := by
  unfold blk
  rw [List.getD_cons_succ, List.getD_eq_getElem?_getD, List.getElem?_replicate, if_pos (by lia)]
  rfl
 rw [e] at h
 simp only [Nat.zero_mul, Nat.zero_add] at h
 unfold Txt.isspace
 have : (textOf (row k n)).cps.all Unicode.isSpace = false := by
  rw [Array.all_eq_false]
  have hsz : 1 < (textOf (row k n)).cps.size := by
   rcases Nat.lt_or_ge 1 (textOf (row k n)).cps.size with q | q
   ·exact q
   ·rw [Array.getD_eq_getD_getElem?, Array.getElem?_eq_none q] at h
    cases h
  refine ⟨1, hsz, ?_⟩
  rw [Array.getD_eq_getD_getElem?, Array.getElem?_eq_getElem hsz] at h
  have h' : (textOf (row k n)).cps[1] = 120 := h
  rw [h']
  decide +kernel
 rw [this, Bool.and_false]
end Mine
namespace Mine
open Builtin Builtin.Str
theorem rep_fold (c : Nat) : ∀ (n : Nat) (acc : Array Nat), (List.replicate n (#[c] : Array Nat)).foldl (· ++ ·) acc = acc ++ (List.replicate n c).toArray
 | 0, acc => rfl
 | n + 1, acc => by
  rw [List.replicate_succ, List.foldl_cons, rep_fold c n, List.replicate_succ]
  apply Array.ext'
  simp
set_option tactic.hygienic true in
theorem mul_txt (c n : Nat) : Txt.mul ⟨#[c]⟩ (n : Int) = ⟨(List.replicate n c).toArray⟩ := by
 unfold Txt.mul
 split
 ·have : n = 0 := by lia
  subst this; rfl
 ·split
  ·rename_i h
   have h2 : (n : Int) = 1 := by simpa [Str.length] using h
   have h1 : n = 1 := by exact_mod_cast h2
   subst h1; rfl
  ·have e := rep_fold c n #[]
   simp only [Int.toNat_natCast]
   show (⟨_⟩ : Str) = _
   rw [e]
   simp
section
variable {w : World} {A : Around} {E : VP} {s : Shared}
theorem mul_ch {x : Str} {c n : Nat} {z : Int} {t u : Tok} {Q : VP} (hx : x = ⟨#[c]⟩) (hz : z = (n : Int)) (hn : n ≤ 100000) (h : ∀ t' k, Q (.str ⟨(List.replicate n c).toArray⟩ t') { s with toks := k }) : wpAny (model PW w) A (binaryOp .Mult (.str x t) (.int z u)) Q E s := by
 subst hx hz
 refine PySem.SB.mul ⟨?_, fun h1 ι => ?_, fun ι ι => ?_⟩ fun t' k => ?_
 ·simp; lia
 ·show ¬ ((1 : Nat) : Int) > (2 ^ 63 - 1) / (n : Int)
  have : (1 : Int) ≤ (2 ^ 63 - 1) / (n : Int) := by
   rw [Int.le_ediv_iff_mul_le (by lia)]
   lia
  lia
 ·show tooLong (1 * (n : Int).toNat) = false
  unfold tooLong
  simp [sizeLine_eq]
  lia
 ·rw [mul_txt]; exact h t' k
end
end Mine
namespace Mine
open Builtin Builtin.Str
section
variable {w : World} {mg mb : NM} {b₀ : Heap} {s₀ s s' : Shared} {A : Around} {E : VP}
theorem listS {x : Str} {t : Tok} {ls : List (Str × Tok)} {tk : Nat} {Q : VP} (S : Sit w mg mb b₀ s)
  (h : ∀ s' D l, Sit w mg mb b₀ s' → Kp [] s s' → l.map (·.1) = ls.map (·.1) → s'.heap.get? D = some (lstO (strValues l).toArray 0) → s.heap.get? D = none → b₀.get? D = none → @LT.lt Nat _ 154 D → Q (.ref D) s') :
  Q (.ref s.heap.objs.size) { s with heap := s.heap.push { cls := .type "list", data := .seq (strValues ls).toArray }, toks := tk } := by
 have z := S.push (o := lstO (strValues ls).toArray 0) (t := tk)
 exact h _ _ ls z.1 z.2 rfl (Heap.get?_push_size _ rfl) (get_size _) S.fresh S.lt
theorem split0S {x : Str} {t : Tok} {Q : VP} (S : Sit w mg mb b₀ s) (hx : x.length ≤ 10000000)
  (h : ∀ s' D l, Sit w mg mb b₀ s' → Kp [] s s' → l.map (·.1) = Txt.words x → s'.heap.get? D = some (lstO (strValues l).toArray 0) → s.heap.get? D = none → b₀.get? D = none → @LT.lt Nat _ 154 D → Q (.ref D) s') :
  wpAny (model PW w) A (call (.builtin "str.split") [.str x t]) Q E s := by
 have hw := StrLaws.sw_weight x
 have hl := StrLaws.len_le_wsum (spaceWords x (x.length + 1))
 refine call_meets PySem.F.slot_str_split (typeIs_str _ _ _) PySem.F.entry_str_split (PySem.F.args_str_split_1 _) (meets_str_split_space x t (by rw [sizeLine_eq]; lia) (by rw [sizeLine_eq]; lia)) ?_
 cases hq : spaceWords x (x.length + 1) == [(0, x.length)]
 ·simp only [Bool.false_eq_true, if_false]
  rw [strsFrom_eq]
  have e : (numbered s.toks (PySem.wordsOf x)).map (·.1) = Txt.words x := (numbered_texts _ _).trans (if_neg (ne_true_of_eq_false hq)).symm
  exact listS (x := x) (t := t) (ls := numbered s.toks (PySem.wordsOf x)) S fun s' D l S' k e' => h s' D l S' k (e'.trans e)
 ·simp only [if_true]
  exact listS (x := x) (t := t) (ls := [(x, t)]) (tk := s.toks) S fun s' D l S' k e' => h s' D l S' k (e'.trans (if_pos hq).symm)
theorem split1S {x y : Str} {t u : Tok} {Q : VP} (S : Sit w mg mb b₀ s) (hx : x.length ≤ 10000000) (hy : (y.length == 0) = false)
  (h : ∀ s' D l, Sit w mg mb b₀ s' → Kp [] s s' → l.map (·.1) = Txt.split x y → s'.heap.get? D = some (lstO (strValues l).toArray 0) → s.heap.get? D = none → b₀.get? D = none → @LT.lt Nat _ 154 D → Q (.ref D) s') :
  wpAny (model PW w) A (call (.builtin "str.split") [.str x t, .str y u]) Q E s := by
 have hp := length_partsBetween x (occurrences x y 0 x.length (x.length + 1)) y.length
 have ho := StrLaws.occ_length_le x y 0 x.length (x.length + 1)
 cases h1 : (decide (x.length < y.length) || decide (strKind x < strKind y))
 ·cases hf : (occurrences x y 0 x.length (x.length + 1)).isEmpty
  ·refine call_meets PySem.F.slot_str_split (typeIs_str _ _ _) PySem.F.entry_str_split (PySem.F.args_str_split_2 _ _) (meets_str_split_sep x y t u h1 hy hf (by rw [sizeLine_eq]; lia) (by rw [hp, sizeLine_eq]; lia)) ?_
   show wants Q E _ { s with toks := _, heap := s.heap.push { cls := .type "list", data := .seq (strsFrom s.toks (partsBetween x (occurrences x y 0 x.length (x.length + 1)) y.length)).toArray } }
   rw [strsFrom_eq]
   exact listS (x := x) (t := t) S fun s' D l S' k e' => h s' D l S' k (e'.trans ((numbered_texts _ _).trans ((if_neg (ne_true_of_eq_false h1)).trans (if_neg (ne_true_of_eq_false hf))).symm))
  ·exact call_meets PySem.F.slot_str_split (typeIs_str _ _ _) PySem.F.entry_str_split (PySem.F.args_str_split_2 _ _) (meets_str_split_not_found x y t u h1 hy hf)
    (listS (x := x) (t := t) (ls := [(x, t)]) (tk := s.toks) S fun s' D l S' k e' => h s' D l S' k (e'.trans ((if_neg (ne_true_of_eq_false h1)).trans (if_pos hf)).symm))
 ·exact call_meets PySem.F.slot_str_split (typeIs_str _ _ _) PySem.F.entry_str_split (PySem.F.args_str_split_2 _ _) (meets_str_split_cannot_occur x y t u h1)
   (listS (x := x) (t := t) (ls := [(x, t)]) (tk := s.toks) S fun s' D l S' k e' => h s' D l S' k (e'.trans (if_pos h1).symm))
end
end Mine
namespace Mine
section
variable {w : World} {mg mb : NM} {b₀ : Heap} {s₀ s₂ s4 s s' : Shared} {A : Around} {E : VP} {L C D I l : Addr} {U V : List Addr} {m : NM} {env : Env} {R : Result → Shared → Prop}
theorem compTurn_two0 (elt t i t2 i2 : Expr) (ifs ifs2 : List Expr) (scope : Scope) (pos : Pos) (it acc : Value) (env : Env) :
  compTurn (.ListComp elt [⟨t, i, ifs, 0⟩, ⟨t2, i2, ifs2, 0⟩] scope pos) 0 it acc env = (do
   standAt i.pos
   match ← pyNext it with
   | none => pure (.done .next)
   | some v =>
    letOwnedTupleGo t it v
    assign t env v
    let mut ok := true
    for c in ifs do
     if ok then ok ← isTrue c env (eval c env)
    if ok then
     let x ← eval i2 env
     standAt i2.pos
     let x ← foldedSetIterable i2 env x
     let _ ← runOwn (.compStart (.ListComp elt [⟨t, i, ifs, 0⟩, ⟨t2, i2, ifs2, 0⟩] scope pos) 1 (← holding [x] (pyIter x)) acc env) env
    again (.compLoop (.ListComp elt [⟨t, i, ifs, 0⟩, ⟨t2, i2, ifs2, 0⟩] scope pos) 0 it acc env)) := by rfl
theorem compTurn_two1 (elt t i t2 i2 : Expr) (ifs ifs2 : List Expr) (scope : Scope) (pos : Pos) (it acc : Value) (env : Env) :
  compTurn (.ListComp elt [⟨t, i, ifs, 0⟩, ⟨t2, i2, ifs2, 0⟩] scope pos) 1 it acc env = (do
   standAt i2.pos
   match ← pyNext it with
   | none => pure (.done .next)
   | some v =>
    letOwnedTupleGo t2 it v
    assign t2 env v
    let mut ok := true
    for c in ifs2 do
     if ok then ok ← isTrue c env (eval c env)
    if ok then
     (do let _ ← call (.builtin "list.append") [acc, ← eval elt env])
    again (.compLoop (.ListComp elt [⟨t, i, ifs, 0⟩, ⟨t2, i2, ifs2, 0⟩] scope pos) 1 it acc env)) := by rfl
theorem comp2_inner {elt t i t2 i2 : Expr} {ifs ifs2 : List Expr} {scope : Scope} {pos : Pos} {it acc : Value} (I : Nat → Shared → Prop)
  (turn : ∀ n s, I n s → wpAny (model PW w) A (pyNext it) (fun r s₁ => match r with
   | none => R (.ok .next) s₁
   | some v => wpAny (model PW w) A (letOwnedTupleGo t2 it v) (fun ι t₁ => wpAny (model PW w) A (assign t2 env v) (fun ι s₂ => wpAny (model PW w) A (tests ifs2 env) (fun ok s3 =>
      if ok = true then wpAny (model PW w) A (eval elt env) (fun x s4 => wpAny (model PW w) A (call (.builtin "list.append") [acc, x]) (fun ι s5 => ∃ m, m < n ∧ I m s5) (fun ι ι => False) s4) (fun ι ι => False) s3
      else ∃ m, m < n ∧ I m s3) (fun ι ι => False) s₂) (fun ι ι => False) t₁) (fun ι ι => False) s₁) (fun ι ι => False) s)
  (n : Nat) (h : I n s) : codeAny (model PW w) A (.compLoop (.ListComp elt [⟨t, i, ifs, 0⟩, ⟨t2, i2, ifs2, 0⟩] scope pos) 1 it acc env) R s := by
 refine codeAny_loop rfl I (fun n s hI => ?_) n h
 show wpAny _ A ((compTurn (.ListComp elt [⟨t, i, ifs, 0⟩, ⟨t2, i2, ifs2, 0⟩] scope pos) 1 it acc env).onRaise (fun x => do noteFrame x env; theTreesLotGoes x)) _ _ s
 refine wpAny_noted ?_
 rw [compTurn_two1]
 refine wpAny_bind (wpAny_standAt (wpAny_bind (wpAny_mono (turn n s hI) (fun r s₁ h₁ => ?_) fun ι ι h' => h'.elim)))
 cases r with
 | none => exact wpAny_pure h₁
 | some v =>
  refine wpAny_bind (wpAny_mono h₁ (fun ι t₁ h₁ => wpAny_bind (wpAny_mono h₁ (fun ι s₂ h₂ => wpAny_bind (wpAny_mono h₂ (fun ok s3 h₃ => ?_) fun ι ι h' => h'.elim)) fun ι ι h' => h'.elim)) fun ι ι h' => h'.elim)
  cases ok with
  | false => exact wpAny_pure ⟨rfl, h₃⟩
  | true => exact wpAny_bind (wpAny_bind (wpAny_mono h₃ (fun x s4 h₄ => wpAny_bind (wpAny_mono h₄ (fun ι s5 h₅ => wpAny_pure (wpAny_pure ⟨rfl, h₅⟩)) fun ι ι h' => h'.elim)) fun ι ι h' => h'.elim))
theorem comp2_outer {elt t i t2 i2 : Expr} {ifs ifs2 : List Expr} {scope : Scope} {pos : Pos} {it acc : Value} (I : Nat → Shared → Prop)
  (turn : ∀ n s, I n s → wpAny (model PW w) A (pyNext it) (fun r s₁ => match r with
   | none => R (.ok .next) s₁
   | some v => wpAny (model PW w) A (letOwnedTupleGo t it v) (fun ι t₁ => wpAny (model PW w) A (assign t env v) (fun ι s₂ => wpAny (model PW w) A (tests ifs env) (fun ok s3 =>
      if ok = true then wpAny (model PW w) A (eval i2 env) (fun x s4 => wpAny (model PW w) A (pyIter x) (fun it2 s5 => codeAny (model PW w) A (.compStart (.ListComp elt [⟨t, i, ifs, 0⟩, ⟨t2, i2, ifs2, 0⟩] scope pos) 1 it2 acc env) (fun r s6 => r = .ok .next ∧ ∃ m, m < n ∧ I m s6) s5) (fun ι ι => False) s4) (fun ι ι => False) s3
      else ∃ m, m < n ∧ I m s3) (fun ι ι => False) s₂) (fun ι ι => False) t₁) (fun ι ι => False) s₁) (fun ι ι => False) s)
  (n : Nat) (h : I n s) (hs : autoParam (∀ x, foldedSetIterable i2 env x = pure x) tI) : codeAny (model PW w) A (.compLoop (.ListComp elt [⟨t, i, ifs, 0⟩, ⟨t2, i2, ifs2, 0⟩] scope pos) 0 it acc env) R s := by
 refine codeAny_loop rfl I (fun n s hI => ?_) n h
 show wpAny _ A ((compTurn (.ListComp elt [⟨t, i, ifs, 0⟩, ⟨t2, i2, ifs2, 0⟩] scope pos) 0 it acc env).onRaise (fun x => do noteFrame x env; theTreesLotGoes x)) _ _ s
 refine wpAny_noted ?_
 rw [compTurn_two0]
 refine wpAny_bind (wpAny_standAt (wpAny_bind (wpAny_mono (turn n s hI) (fun r s₁ h₁ => ?_) fun ι ι h' => h'.elim)))
 cases r with
 | none => exact wpAny_pure h₁
 | some v =>
  refine wpAny_bind (wpAny_mono h₁ (fun ι t₁ h₁ => wpAny_bind (wpAny_mono h₁ (fun ι s₂ h₂ => wpAny_bind (wpAny_mono h₂ (fun ok s3 h₃ => ?_) fun ι ι h' => h'.elim)) fun ι ι h' => h'.elim)) fun ι ι h' => h'.elim)
  cases ok with
  | false => exact wpAny_pure ⟨rfl, h₃⟩
  | true =>
   refine wpAny_bind (wpAny_mono h₃ (fun x s4 h₄ => ?_) fun ι ι h' => h'.elim)
   refine wpAny_bind (wpAny_standAt (wpAny_bind (wpAny_of_eq (hs x) ?_)))
   refine wpAny_bind (wpAny_holding (wpAny_mono h₄ (fun it2 s5 h₅ => ?_) fun ι ι h' => h'.elim))
   refine wpAny_bind (wpAny_runOwn ?_)
   show codeAny (model PW w) A _ _ _
   refine codeAny_mono h₅ fun r s6 hr => ?_
   obtain ⟨rfl, h₆⟩ := hr
   exact wpAny_pure ⟨rfl, h₆⟩
theorem compStart_one {elt t i t2 i2 : Expr} {ifs ifs2 : List Expr} {scope : Scope} {pos : Pos} {it acc : Value}
  (h0 : codeAny (model PW w) A (.compLoop (.ListComp elt [⟨t, i, ifs, 0⟩, ⟨t2, i2, ifs2, 0⟩] scope pos) 1 it acc env) R s)
  (h : wpAny (model PW w) A (pyIter it) (fun it' s' => codeAny (model PW w) A (.compLoop (.ListComp elt [⟨t, i, ifs, 0⟩, ⟨t2, i2, ifs2, 0⟩] scope pos) 1 it' acc env) R s') (fun ι ι => False) s) :
  codeAny (model PW w) A (.compStart (.ListComp elt [⟨t, i, ifs, 0⟩, ⟨t2, i2, ifs2, 0⟩] scope pos) 1 it acc env) R s := by
 refine codeAny_of_tree ?_
 show wpAny _ _ ((compStart (.ListComp elt [⟨t, i, ifs, 0⟩, ⟨t2, i2, ifs2, 0⟩] scope pos) 1 it acc env).onRaise (fun x => do noteFrame x env; standAt theWindowsPlace)) _ _ s
 refine wpAny_notedAt ?_
 unfold compStart
 show wpAny _ _ (ask >>= _) _ _ s
 refine wpAny_bind (wpAny_askSetting (wpAny_ite ?_))
 split
 ·first
   | exact wpAny_bind (wpAny_pure (wpAny_pure (And.intro rfl h0)))
   | exact wpAny_pure (And.intro rfl h0)
 ·refine wpAny_bind (wpAny_rule ?_)
  show wpAny _ _ (standAt i2.pos >>= _) _ _ s
  exact wpAny_bind (wpAny_standAt (wpAny_bind (wpAny_mono h (fun it' s' h' => wpAny_pure (And.intro rfl h')) fun ι ι x => x.elim)))
end
end Mine
namespace Mine
section
variable {w : World} {mg mb : NM} {b₀ : Heap} {s₀ s s' : Shared} {A : Around} {E : VP} {L : Addr} {U : List Addr} {m : NM} {env : Env}
noncomputable def pk (base i : Nat) : Nat := if i = 0 then 0 else (i - 1) % base + 1
theorem pk_zero (base : Nat) : pk base 0 = 0 := rfl
theorem pk_le {base i : Nat} (h : 1 ≤ base) : pk base i ≤ base := by
 unfold pk
 split
 ·lia
 ·have := Nat.mod_lt (i - 1) (show 0 < base by lia); lia
theorem pk_step {base i : Nat} (h : 1 ≤ base) (hi : i = 0 ∨ pk base i + 1 ≤ base) : pk base (i + 1) = pk base i + 1 ∧ (i + 1 - 1) / base = (i - 1) / base := by
 rcases hi with rfl | hi
 ·simp [pk]
 ·by_cases h0 : i = 0
  ·subst h0; simp [pk]
  ·unfold pk at hi ⊢
   rw [if_neg h0] at hi ⊢
   rw [if_neg (by lia)]
   obtain ⟨j, rfl⟩ := pred_of (n := i) (Nat.pos_of_ne_zero (by assumption))
   simp only [Nat.add_sub_cancel] at hi ⊢
   have hm : (j + 1) % base = j % base + 1 := by
    rw [Nat.add_mod, Nat.mod_eq_of_lt (a := 1) (by lia), Nat.mod_eq_of_lt ‹_›]
   refine ⟨by rw [hm], ?_⟩
   have e1 := Nat.div_add_mod j base
   have e2 := Nat.div_add_mod (j + 1) base
   rw [hm] at e2
   have : base * ((j + 1) / base) = base * (j / base) := by lia
   exact Nat.eq_of_mul_eq_mul_left ‹_› this
theorem pk_full {base i : Nat} (h : 1 ≤ base) (h0 : i ≠ 0) (hi : ¬ pk base i + 1 ≤ base) : pk base i = base ∧ pk base (i + 1) = 1 ∧ (i + 1 - 1) / base = (i - 1) / base + 1 := by
 have hle := pk_le (i := i) h
 have hp : pk base i = base := by lia
 refine ⟨hp, ?_⟩
 unfold pk at hp ⊢
 rw [if_neg h0] at hp
 rw [if_neg (by lia)]
 obtain ⟨j, rfl⟩ := pred_of (n := i) (Nat.pos_of_ne_zero (by assumption))
 simp only [Nat.add_sub_cancel] at hp ⊢
 have e1 := Nat.div_add_mod j base
 have e2 : j + 1 = base * (j / base + 1) := by rw [Nat.mul_add]; lia
 rw [e2]
 refine ⟨by rw [Nat.mul_mod_right], ?_⟩
 rw [Nat.mul_div_cancel_left _ ‹_›]
theorem row_succ (k n : Nat) : row (k + 1) n = row k n ++ [(Str.ofString " ", xw n)] := by
 unfold row
 rw [List.replicate_succ']
noncomputable def RowOn (b₀ h : Heap) (size : Nat) (a : Addr) (k : Nat) : Prop := b₀.get? a = none ∧ @LT.lt Nat _ 154 a ∧ ∃ l : List (Str × Tok), h.get? a = some (lstO (strValues l).toArray 0) ∧ l.map (·.1) = List.replicate k (xw size)
theorem RowOn.kp {V : List Addr} {size k : Nat} {a : Addr} (x : RowOn b₀ s.heap size a k) (S : Sit w mg mb b₀ s) (kp : Kp V s s') (h : a ∉ V) : RowOn b₀ s'.heap size a k := by
 obtain ⟨x1, x2, l, e, e2⟩ := x
 exact ⟨x1, x2, l, kp.lstO S e h, e2⟩
theorem join_xw (k n : Nat) : (Txt.join (Str.ofString "") (List.replicate k (xw n))).length = k * n := by
 unfold Txt.join
 rw [size_glued]
 have e : (Str.ofString "").length = 0 := by decide +kernel
 simp [e, xw_len]
theorem filt_succ {l : List Nat} {i k b : Nat} (h : l[i]? = some k) : ((l.take (i + 1)).filter (fun k => k = b)).length = ((l.take i).filter (fun k => k = b)).length + (if k = b then 1 else 0) := by
 rw [List.take_add_one, h, List.filter_append, List.length_append]
 by_cases q : k = b
 ·simp [q]
 ·simp [q]
theorem filt_sum {l : List Nat} {i k b : Nat} (h : l[i]? = some k) : ((l.take (i + 1)).filter (fun k => ¬ k = b)).sum = ((l.take i).filter (fun k => ¬ k = b)).sum + (if k = b then 0 else k) := by
 rw [List.take_add_one, h, List.filter_append, List.sum_append]
 by_cases q : k = b
 ·simp [q]
 ·simp [q]
theorem div_next {base j : Nat} (h : 1 ≤ base) : (j % base + 1 = base → (j + 1) / base = j / base + 1 ∧ (j + 1) % base = 0) ∧ (¬ j % base + 1 = base → (j + 1) / base = j / base ∧ (j + 1) % base = j % base + 1) := by
 have e := Nat.div_add_mod j base
 have hm := Nat.mod_lt j (show 0 < base by lia)
 constructor
 ·intro q
  have e2 : j + 1 = base * (j / base + 1) := by rw [Nat.mul_add]; lia
  rw [e2, Nat.mul_mod_right, Nat.mul_div_cancel_left _ ‹_›]
  exact ⟨rfl, rfl⟩
 ·intro q
  have e3 : (j + 1) % base = j % base + 1 := by rw [Nat.add_mod, Nat.mod_eq_of_lt (a := 1) (by lia), Nat.mod_eq_of_lt (by lia)]
  have e4 := Nat.div_add_mod (j + 1) base
  rw [e3] at e4
  exact ⟨Nat.eq_of_mul_eq_mul_left (show 0 < base by lia) (by lia), e3⟩
theorem sum_le {B : Nat} : ∀ {l : List Nat}, (∀ x ∈ l, x ≤ B) → l.sum ≤ l.length * B
 | [], _ => (Nat.le_of_ble_eq_true rfl)
 | x :: l, h => by
  have := sum_le (l := l) fun y hy => h y (List.mem_cons_of_mem _ hy)
  have h0 := h x (List.mem_cons_self ..)
  simp only [List.sum_cons, List.length_cons, Nat.succ_mul]
  lia
theorem Pcs.push {vs : Array Value} {ns : List Nat} (h : Pcs vs ns) (n : Nat) (t : Tok) : Pcs (vs.push (.str (sp n) t)) (ns ++ [n]) := by
 refine ⟨by rw [Array.size_push, h.1, List.length_append]; rfl, fun i k hk => ?_⟩
 rcases Nat.lt_or_ge i ns.length with q | q
 ·rw [List.getElem?_append_left q] at hk
  obtain ⟨t', e⟩ := h.2 i k hk
  exact ⟨t', by rw [Array.getElem?_push_lt (by rw [h.1]; exact q)]; rw [Array.getElem?_eq_getElem (by rw [h.1]; exact q)] at e; exact e⟩
 ·rw [List.getElem?_append_right q] at hk
  have hi : i = ns.length := by
   have := (List.getElem?_eq_some_iff.mp hk).1
   simp at this; lia
  subst hi
  rw [Nat.sub_self] at hk
  cases hk
  have := Array.getElem?_push_size (xs := vs) (x := Value.str (sp n) t)
  rw [h.1] at this
  exact ⟨t, this⟩
noncomputable def rowsOf (base n : Nat) : List Nat := List.replicate ((n - 1) / base) base ++ [pk base n]
theorem rows_full {base n : Nat} (hb : 1 ≤ base) (hn : 1 ≤ n) : ((rowsOf base n).filter (fun k => k = base)).length = n / base := by
 obtain ⟨j, rfl⟩ := pred_of (n := n) ‹_›
 have d := div_next (j := j) hb
 unfold rowsOf pk
 rw [if_neg (by lia), List.filter_append, List.length_append, Nat.add_sub_cancel]
 by_cases q : j % base + 1 = base
 ·rw [(d.1 q).1]
  simp [q]
 ·rw [(d.2 q).1]
  simp [q]
theorem rows_rest {base n : Nat} (hb : 1 ≤ base) (hn : 1 ≤ n) : ((rowsOf base n).filter (fun k => ¬ k = base)).sum = n % base := by
 obtain ⟨j, rfl⟩ := pred_of (n := n) ‹_›
 have d := div_next (j := j) hb
 unfold rowsOf pk
 rw [if_neg (by lia), List.filter_append, List.sum_append, Nat.add_sub_cancel]
 by_cases q : j % base + 1 = base
 ·rw [(d.1 q).2]
  simp [q]
 ·rw [(d.2 q).2]
  simp [q]
end
end Mine
namespace Mine
section
variable {w : World} {mg mb : NM} {b₀ : Heap} {s₀ s₂ s4 s s' : Shared} {A : Around} {E : VP} {L C D I l : Addr} {U V : List Addr} {m : NM} {env : Env} {R : Result → Shared → Prop}
theorem iter_new {items : Array Value} {kk : Nat} {Q : VP} (B : Body w mg mb b₀ s₀ U L m s) (hl : s.heap.get? l = some (lstO items kk))
  (h : ∀ s₂ I, Body w mg mb b₀ s₀ U L m s₂ → Kp [] s s₂ → s₂.heap.IsListIter I l 0 → s₂.heap.get? l = some (lstO items kk) → s.heap.get? I = none → b₀.get? I = none → @LT.lt Nat _ 154 I → I ≠ L → (I ∈ U ∨ s₀.heap.get? I = none) → s₂.gens = s.gens →
   (∀ b o, s.heap.get? b = some o → s₂.heap.get? b = some o) → (∀ s' (Q : VP) E, (∀ b o, s₂.heap.get? b = some o → s'.heap.get? b = some o) → Q (.ref I) s' → wpAny (model PW w) A (pyIter (.ref I)) Q E s') → Q (.ref I) s₂) : wpAny (model PW w) A (pyIter (.ref l)) Q E s := by
 refine wpAny_pyIter_list ⟨_, hl, rfl, _, rfl⟩ ?_
 have z := B.S.push (o := { cls := .type "list_iterator", data := .fields #[.ref l, .int 0 0] }) (t := s.toks)
 have hI : (s.heap.push { cls := .type "list_iterator", data := .fields #[.ref l, .int 0 0] }).IsListIter s.heap.objs.size l 0 := ⟨_, Heap.get?_push_size _ rfl, rfl, rfl⟩
 refine h { s with heap := s.heap.push { cls := .type "list_iterator", data := .fields #[.ref l, .int 0 0] } } s.heap.objs.size (B.step0 z) z.2 hI (z.2.lstO B.S hl List.not_mem_nil) (get_size _) B.S.fresh B.S.lt (B.ne_new (get_size _)) ?_ rfl (fun b o e => Heap.get?_push_of_some _ e) fun s'' Q' E' k q => wpAny_pyIter_listiter (hI.at fun o e => k _ _ e) q
 by_cases q : s.heap.objs.size ∈ U
 ·exact .inl q
 ·refine .inr ?_
  cases e : s₀.heap.get? s.heap.objs.size with
  | none => rfl
  | some o =>
   have := B.K.heap _ o q (Nat.ne_of_gt (Nat.lt_trans (by decide) B.S.lt)) (Nat.ne_of_gt B.S.lt) e
   rw [get_size] at this; cases this
end
end Mine
namespace Mine
open SetTable
noncomputable abbrev Rising (l : List Nat) : Prop := l.Pairwise (· < ·)
theorem below_s {xs : Array Nat} {j f lo hi : Nat} : below.go xs j (f + 1) lo hi = if lo < hi then (if xs.getD ((lo + hi) / 2) j < j then below.go xs j f ((lo + hi) / 2 + 1) hi else below.go xs j f lo ((lo + hi) / 2)) else lo := rfl
set_option tactic.hygienic true in
theorem below_go (xs : Array Nat) (j : Nat) (hr : Rising xs.toList) : ∀ (fuel lo hi : Nat), hi ≤ xs.size → lo ≤ hi → hi - lo ≤ fuel → (∀ k, k < lo → ∀ x, xs[k]? = some x → x < j) → (∀ k, hi ≤ k → ∀ x, xs[k]? = some x → j ≤ x) →
  below.go xs j fuel lo hi ≤ xs.size ∧ (∀ k, k < below.go xs j fuel lo hi → ∀ x, xs[k]? = some x → x < j) ∧ (∀ k, below.go xs j fuel lo hi ≤ k → ∀ x, xs[k]? = some x → j ≤ x)
 | 0, lo, hi, h1, h2, h3, h4, h5 => by
  have : lo = hi := by lia
  subst this
  exact ⟨h1, h4, h5⟩
 | fuel + 1, lo, hi, h1, h2, h3, h4, h5 => by
  rw [below_s]
  split
  ·rename_i hlt
   have hf : hi - lo ≤ fuel + 1 := h3
   have hm1 : lo ≤ (lo + hi) / 2 := by lia
   have hm2 : (lo + hi) / 2 < hi := by lia
   generalize (lo + hi) / 2 = mid at *
   have hm : mid < xs.size := Nat.lt_of_lt_of_le hm2 h1
   have hget : xs.getD mid j = xs[mid] := by rw [Array.getD_eq_getD_getElem?, Array.getElem?_eq_getElem hm]; rfl
   have mono : ∀ a b x y, a < b → xs[a]? = some x → xs[b]? = some y → x < y := fun a b x y hab ha hb => by
    rw [← Array.getElem?_toList] at ha hb
    obtain ⟨ha1, rfl⟩ := List.getElem?_eq_some_iff.mp ha
    obtain ⟨hb1, rfl⟩ := List.getElem?_eq_some_iff.mp hb
    exact List.pairwise_iff_getElem.mp hr a b ha1 hb1 hab
   by_cases hx : xs.getD mid j < j
   ·simp only [if_pos hx]
    rw [hget] at hx
    refine below_go xs j hr fuel (mid + 1) hi h1 ‹_› (by rw [← Nat.sub_sub]; exact Nat.sub_le_of_le_add (Nat.le_trans (Nat.sub_le_sub_left hm1 hi) hf)) (fun k hk x hkx => ?_) h5
    rcases Nat.lt_or_ge k mid with q | q
    ·exact Nat.lt_trans (mono k _ x _ q hkx (Array.getElem?_eq_getElem hm)) hx
    ·have : k = mid := by lia
     subst this
     rw [Array.getElem?_eq_getElem hm] at hkx; cases hkx; exact hx
   ·simp only [if_neg hx]
    rw [hget] at hx
    refine below_go xs j hr fuel lo mid (Nat.le_of_lt ‹_›) ‹_› (Nat.le_of_lt_succ (Nat.lt_of_lt_of_le (Nat.sub_lt_sub_right hm1 hm2) hf)) h4 (fun k hk x hkx => ?_)
    rcases Nat.lt_or_ge mid k with q | q
    ·exact Nat.le_of_lt (Nat.lt_of_le_of_lt (Nat.not_lt.mp hx) (mono _ k _ x q (Array.getElem?_eq_getElem hm) hkx))
    ·have : k = mid := (Nat.le_antisymm ‹_› ‹_›)
     subst this
     rw [Array.getElem?_eq_getElem hm] at hkx; cases hkx; exact Nat.not_lt.mp hx
  ·have : lo = hi := by lia
   subst this
   exact ⟨h1, h4, h5⟩
theorem below_spec (xs : Array Nat) (j : Nat) (hr : Rising xs.toList) : below xs j ≤ xs.size ∧ (∀ k, k < below xs j → ∀ x, xs[k]? = some x → x < j) ∧ (∀ k, below xs j ≤ k → ∀ x, xs[k]? = some x → j ≤ x) :=
 below_go xs j hr _ _ _ (Nat.le_refl _) (Nat.zero_le _) (Nat.le_refl _) (fun k h => absurd h (by lia)) (fun k h x hx => by
  have := (Array.getElem?_eq_some_iff.mp hx).1
  lia)
set_option tactic.hygienic true in
theorem put_rising {xs : Array Nat} {j : Nat} (hr : Rising xs.toList) (hn : ¬ xs[below xs j]? = some j) : Rising (insertAt xs (below xs j) j).toList := by
 obtain ⟨h1, h2, h3⟩ := below_spec xs j hr
 rw [toList_insertAt]
 show List.Pairwise _ _
 rw [List.pairwise_append, List.pairwise_cons]
 refine ⟨hr.sublist (List.take_sublist _ _), ⟨fun x hx => ?_, hr.sublist (List.drop_sublist _ _)⟩, fun a ha b hb => ?_⟩
 ·obtain ⟨k, hk⟩ := List.mem_iff_getElem?.mp hx
  rw [List.getElem?_drop, Array.getElem?_toList] at hk
  have := h3 _ (Nat.le_add_right _ _) x hk
  rcases Nat.lt_or_ge j x with q | q
  ·exact q
  ·have e : x = j := (Nat.le_antisymm ‹_› ‹_›)
   subst e
   cases k with
   | zero => exact absurd hk hn
   | succ k =>
    have hb : below xs x < xs.size := by have := (Array.getElem?_eq_some_iff.mp hk).1; lia
    have h0 := h3 _ (Nat.le_refl _) _ (Array.getElem?_eq_getElem hb)
    have hk' := hk
    rw [← Array.getElem?_toList] at hk'
    obtain ⟨hb1, e1⟩ := List.getElem?_eq_some_iff.mp hk'
    have := List.pairwise_iff_getElem.mp hr (below xs x) (below xs x + (k + 1)) hb hb1 (by lia)
    rw [e1] at this
    have h0' : x ≤ xs.toList[below xs x]'hb := by simpa using h0
    lia
 ·obtain ⟨k, hk⟩ := List.mem_iff_getElem?.mp ha
  rw [List.getElem?_take] at hk
  split at hk
  ·rename_i hkb
   rw [Array.getElem?_toList] at hk
   have haj := h2 k hkb a hk
   rcases List.mem_cons.mp hb with rfl | hb
   ·exact haj
   ·obtain ⟨k2, hk2⟩ := List.mem_iff_getElem?.mp hb
    rw [List.getElem?_drop, Array.getElem?_toList] at hk2
    exact Nat.lt_of_lt_of_le haj (h3 _ (Nat.le_add_right _ _) b hk2)
  ·cases hk
theorem has_nil (j : Nat) : has #[] j = false := by simp [has]
theorem probe_s {t : SetTable} {ha : Nat → Int} {h : Int} {f : Nat} {p : Probe} : probe.go t ha h (f + 1) p = match t.slot p.j with | .empty => some (.empty p.j p.dummy) | .dummy => probe.go t ha h f (t.advance { p with dummy := some p.j }) | .live i => if ha i == h then some (.candidate p.j i (t.advance p)) else probe.go t ha h f (t.advance p) := rfl
theorem probe_go (t : SetTable) (hd : t.dummies = #[]) (h : Int) : ∀ (fuel : Nat) (p : Probe) (m : Met), p.dummy = none → probe.go t (fun ι => h + 1) h fuel p = some m → ∃ j, m = .empty j none ∧ ¬ t.place[below t.place j]? = some j
 | 0, p, m, _, e => by cases e
 | fuel + 1, p, m, hp, e => by
  rw [probe_s] at e
  have hdum : ∀ q : Probe, q.dummy = none → (t.advance q).dummy = none := fun q hq => by
   unfold advance
   split
   ·exact hq
   ·exact hq
  cases hs : t.slot p.j with
  | empty =>
   rw [hs] at e
   simp only [Option.some.injEq] at e
   refine ⟨p.j, by rw [← e, hp], fun q => ?_⟩
   unfold slot at hs
   simp [q] at hs
  | dummy =>
   unfold slot at hs
   dsimp only at hs
   rw [hd, has_nil] at hs
   split at hs <;> simp at hs
  | live i =>
   rw [hs] at e
   dsimp only at e
   rw [if_neg (by simp; lia)] at e
   exact probe_go t hd h fuel _ m (hdum p hp) e
set_option tactic.hygienic true in
theorem freeSlot_spec {t : SetTable} (hd : t.dummies = #[]) {h : Int} {slot : Nat} {wd : Bool} (e : t.freeSlot h = some (slot, wd)) : wd = false ∧ ¬ t.place[below t.place slot]? = some slot := by
 unfold SetTable.freeSlot at e
 split at e
 ·rename_i j dummy hp
  unfold probe at hp
  obtain ⟨j', hm, hn⟩ := probe_go t hd h _ _ _ rfl hp
  cases hm
  cases e
  exact ⟨rfl, hn⟩
 ·cases e
structure Gd (led : Bool) (t : SetTable) (n : Nat) : Prop where
 fits : t.fits n = true
 dums : t.dummies = #[]
 led : t.led = led
 rise : t.plain = true → Rising t.place.toList
theorem Gd.standIn {led : Bool} (t : SetTable) (hl : t.led = led) (n : Nat) : Gd led (t.standIn n) n := ⟨standIn_fits t n, rfl, hl, fun q => by cases q⟩
set_option tactic.hygienic true in
theorem layNew_gd {led : Bool} {t : SetTable} {es : Array (Int × Value)} {h : Int} {x : Value} (g : Gd led t es.size) : Gd led (layNew t es h x).2.1 (layNew t es h x).1.size := by
 unfold layNew
 cases hf : t.freeSlot h with
 | none =>
  have := Gd.standIn t g.led (es.size + 1)
  simpa using this
 | some q =>
  obtain ⟨slot, wd⟩ := q
  obtain ⟨rfl, hn⟩ := freeSlot_spec g.dums hf
  dsimp only
  unfold SetTable.orStandIn
  split
  ·rename_i hfit
   refine ⟨hfit, ?_, g.led, fun hp => ?_⟩
   ·unfold put
    simp only [g.dums, has_nil, Bool.false_eq_true, if_false]
   ·exact put_rising (g.rise hp) hn
  ·exact Gd.standIn _ g.led _
theorem range_rising (n : Nat) : Rising (List.range n) := List.pairwise_lt_range
set_option tactic.hygienic true in
theorem relayAll_gd {led : Bool} {t : SetTable} {es : Array (Int × Value)} {wanted : Nat} (g : Gd led t es.size) : Gd led (relayAll t es wanted).2.1 (relayAll t es wanted).1.size := by
 unfold relayAll
 cases hr : t.relaid (es.map (·.1)) wanted with
 | none => exact Gd.standIn t g.led es.size
 | some q =>
  obtain ⟨t', order⟩ := q
  dsimp only
  split
  ·rename_i hc
   simp only [Bool.and_eq_true] at hc
   unfold relaid laid at hr
   obtain ⟨owner, ho, hr⟩ := Option.bind_eq_some_iff.mp hr
   cases hr
   refine ⟨hc.2, rfl, g.led, fun ι => ?_⟩
   show List.Pairwise (· < ·) (List.map (fun x : Nat × Nat => x.1) _)
   rw [List.pairwise_map]
   refine List.Pairwise.filterMap (R := (· < ·)) _ (fun a a' haa b hb b' hb' => ?_) (range_rising _)
   obtain ⟨_, _, rfl⟩ := Option.map_eq_some_iff.mp hb
   obtain ⟨_, _, rfl⟩ := Option.map_eq_some_iff.mp hb'
   exact haa
  ·exact Gd.standIn t g.led es.size
end Mine
namespace Mine
open SetTable
noncomputable abbrev setO (es : Array (Int × Value)) (ep : Nat) (t : SetTable) : Obj := { cls := .type "set", data := .set es ep t }
noncomputable def EsAre (l : List (Int × Value)) (ks : List Nat) : Prop := ∃ tks : List (Nat × Tok), l.Perm (tks.map fun p => (hashInt (p.1 : Int), Value.int (p.1 : Int) p.2)) ∧ tks.map (·.1) = ks
theorem EsAre.len {l : List (Int × Value)} {ks : List Nat} (x : EsAre l ks) : l.length = ks.length := by
 obtain ⟨tks, p, rfl⟩ := x
 rw [p.length_eq]; simp
theorem EsAre.each {l : List (Int × Value)} {ks : List Nat} (x : EsAre l ks) : ∀ e ∈ l, ∃ n ∈ ks, ∃ t, e = (hashInt (n : Int), Value.int (n : Int) t) := fun e he => by
 obtain ⟨tks, p, rfl⟩ := x
 obtain ⟨q, hq, rfl⟩ := List.mem_map.mp (p.mem_iff.mp he)
 exact ⟨q.1, List.mem_map_of_mem hq, q.2, rfl⟩
theorem EsAre.mem {l : List (Int × Value)} {ks : List Nat} (x : EsAre l ks) {n : Nat} (h : n ∈ ks) : ∃ e ∈ l, ∃ t, e = (hashInt (n : Int), Value.int (n : Int) t) := by
 obtain ⟨tks, p, rfl⟩ := x
 obtain ⟨q, hq, rfl⟩ := List.mem_map.mp h
 exact ⟨_, p.mem_iff.mpr (List.mem_map_of_mem hq), q.2, rfl⟩
theorem EsAre.perm {l l' : List (Int × Value)} {ks : List Nat} (x : EsAre l ks) (p : l'.Perm l) : EsAre l' ks := by
 obtain ⟨tks, q, e⟩ := x
 exact ⟨tks, p.trans q, e⟩
theorem EsAre.snoc {l : List (Int × Value)} {ks : List Nat} (x : EsAre l ks) (k : Nat) (t : Tok) : EsAre (l ++ [(hashInt (k : Int), Value.int (k : Int) t)]) (ks ++ [k]) := by
 obtain ⟨tks, q, e⟩ := x
 refine ⟨tks ++ [(k, t)], ?_, by rw [List.map_append, e]; rfl⟩
 rw [List.map_append]
 exact q.append_right _
theorem isInt_int (k n : Int) (t : Tok) : PySem.Value.isInt k (.int n t) = decide (n = k) := by
 by_cases h : n = k <;> simp [PySem.Value.isInt, h]
theorem kindOf_int {w : World} (n : Nat) (t : Tok) : (PySem.intKind PW w).is (n : Int) (.int (n : Int) t) = true := by
 have : PySem.Value.isInt (n : Int) (.int (n : Int) t) = true := by rw [isInt_int]; simp
 exact this
section
variable {w : World} {mg mb : NM} {b₀ : Heap} {s₀ s s' : Shared} {A : Around} {E : VP} {a : Addr} {ks : List Nat}
noncomputable abbrev led (w : World) : Bool := !(w.params.followText "set-order")
structure SetI (w : World) (b₀ h : Heap) (a : Addr) (ks : List Nat) : Prop where
 ba : b₀.get? a = none
 la : @LT.lt Nat _ 154 a
 nd : ks.Nodup
 on : ∃ es ep t, h.get? a = some (setO es ep t) ∧ EsAre es.toList ks ∧ Gd (led w) t es.size
theorem EsAre.elems {l : List (Int × Value)} (x : EsAre l ks) : ElemsOf (PySem.intKind PW w) l := fun e he => by
 obtain ⟨n, _, t, rfl⟩ := x.each e he
 exact ⟨⟨(n : Int), kindOf_int n t, rfl⟩, rfl⟩
theorem SetI.kp {V : List Addr} (x : SetI w b₀ s.heap a ks) (S : Sit w mg mb b₀ s) (k : Kp V s s') (h : a ∉ V) : SetI w b₀ s'.heap a ks := by
 obtain ⟨ba, la, nd, es, ep, t, e, r⟩ := x
 exact ⟨ba, la, nd, es, ep, t, k.get S e h (by exact cn), r⟩
theorem set_new {Q : VP} (S : Sit w mg mb b₀ s) (h : ∀ s' a, Sit w mg mb b₀ s' → Kp [] s s' → SetI w b₀ s'.heap a [] → s.heap.get? a = none → s'.gens = s.gens → (∀ b o, s.heap.get? b = some o → s'.heap.get? b = some o) → Q (.ref a) s') : wpAny (model PW w) A (newSet (.type "set")) Q E s := by
 unfold newSet setsByText
 refine wpAny_bind (wpAny_bind (wpAny_askSetting (wpAny_pure ?_)))
 dsimp only
 simp only [newObj]
 have z := S.push (o := setO #[] 0 (.fresh 0 0 (led w))) (t := s.toks)
 exact wpAny_bind (wpAny_alloc (wpAny_pure (h _ _ z.1 z.2 ⟨S.fresh, S.lt, List.nodup_nil, #[], 0, _, Heap.get?_push_size _ rfl, ⟨[], List.Perm.nil, rfl⟩, ⟨rfl, rfl, rfl, fun ι => List.Pairwise.nil⟩⟩ (get_size _) rfl fun ι ι e => Heap.get?_push_of_some _ e)))
theorem set_put {es es' : Array (Int × Value)} {ep : Nat} {t t' : SetTable} {Q : Unit → Shared → Prop} (S : Sit w mg mb b₀ s) (ba : b₀.get? a = none) (la : @LT.lt Nat _ 154 a) (ha : s.heap.get? a = some (setO es ep t)) (hz : es'.size ≤ 4096)
  (h : ∀ s', Sit w mg mb b₀ s' → Kp [a] s s' → s'.heap.get? a = some (setO es' (ep + 1) t') → s'.gens = s.gens → Q () s') : wpAny (model PW w) A (storeSet a es' t') Q E s := by
 refine wpAny_storeSet_of ha rfl ?_ (by rw [sizeLine_eq]; lia)
 have z := S.upd (x := a) (f := Obj.putSet es' t') s.toks ba la
 have hn := Heap.get?_update_self (Obj.putSet es' t') ha (by rw [putSet_of es' t' rfl]; rfl)
 rw [putSet_of es' t' rfl] at hn
 exact h _ z.1 z.2 hn rfl
theorem Gd.off {b : Bool} {t : SetTable} {n : Nat} (g : Gd b t n) : Gd b { t with plain := false } n := ⟨by have := g.fits; cases t; exact this, g.dums, g.led, fun q => by cases q⟩
theorem set_addI {k : Nat} {tk : Tok} {Q : VP} (S : Sit w mg mb b₀ s) (x : SetI w b₀ s.heap a ks) (hk : ks.length ≤ 1000)
  (h : ∀ s', Sit w mg mb b₀ s' → Kp [a] s s' → SetI w b₀ s'.heap a (if k ∈ ks then ks else ks ++ [k]) → s'.gens = s.gens → Q .none s') : wpAny (model PW w) A (call (.builtin "set.add") [.ref a, .int (k : Int) tk]) Q E s := by
 obtain ⟨ba, la, nd, es, ep, t, ha, hes, g⟩ := x
 have hsz : es.size = ks.length := by have := hes.len; simpa using this
 have hkey : (PySem.intKind PW w).is (k : Int) (.int (k : Int) tk) = true := kindOf_int k tk
 have hel : ElemsOf (PySem.intKind PW w) es.toList := hes.elems
 have hb : es.size < scanBound := by show es.size < 4096; lia
 refine wpAny_call_entry PySem.F.slot_set_add (⟨_, ha, rfl⟩ : s.TypeIs (.ref a) "set") PySem.F.entry_set_add ?_ (PySem.F.args_set_add_2 _ _)
 unfold Builtin.«set.add» Builtin.Frozenset.oneOther
 simp only [List.isEmpty_nil, bind_assoc]
 unfold Builtin.Frozenset.addrOf setAdd
 refine wpAny_bind (wpAny_pure (wpAny_bind (wpAny_pure (wpAny_bind (wpAny_holding (wpAny_bind ((PySem.intKind PW w).pyHash hkey ?_)))))))
 have S₁ := S.tok (s.toks + 1)
 unfold setAddHashed setAddHashedIn
 refine wpAny_holding (wpAny_bind (wpAny_setState_of ha rfl g.fits ?_))
 dsimp only
 refine wp_t (byScan_of rfl hb hel) ?_
 unfold setAddByScan
 refine wpAny_bind (wpAny_bind (wpAny_rule (wpAny_bind (wpAny_setScan_of hkey ha rfl g.fits hel ?_))))
 cases hr : List.findIdx? (fun e => (PySem.intKind PW w).is (k : Int) e.2) es.toList with
 | some j =>
  dsimp only
  obtain ⟨hj, hpj, _⟩ := List.findIdx?_eq_some_iff_getElem.mp hr
  have hmem : k ∈ ks := by
   obtain ⟨n, hn, t', e⟩ := hes.each _ (List.getElem_mem hj)
   rw [e] at hpj
   have hpj' : PySem.Value.isInt (k : Int) (.int (n : Int) t') = true := hpj
   rw [isInt_int, decide_eq_true_eq] at hpj'
   have : n = k := by exact_mod_cast hpj'
   exact this ▸ hn
  have hQ := h { s with toks := s.toks + 1 } S₁ (Kp.of_eq rfl rfl) (by rw [if_pos hmem]; exact ⟨ba, la, nd, es, ep, t, ha, hes, g⟩) rfl
  exact wpAny_pure (wpAny_pure (wpAny_pure ⟨_, rfl, hQ⟩))
 | none =>
  dsimp only
  have hnot : k ∉ ks := fun hm => by
   obtain ⟨e, he, t', rfl⟩ := hes.mem hm
   have := List.findIdx?_eq_none_iff.mp hr _ he
   have this' : PySem.Value.isInt (k : Int) (.int (k : Int) t') = false := this
   rw [isInt_int] at this'
   simp at this'
  rw [if_neg hnot] at h
  have hgw : ∀ (b : Bool) {s₁ : Shared} {Q' : Unit → Shared → Prop}, Q' () s₁ → wpAny (model PW w) A.in1 (match b with | true => rule "set.scan.the-table-gave-way" | false => pure ()) Q' E s₁ :=
   fun b s₁ Q' hq => by cases b <;> first | exact wpAny_pure hq | exact wpAny_rule hq
  have hperm := layNew_perm t es ((PySem.intKind PW w).hash (k : Int)) (.int (k : Int) tk)
  have hgd := layNew_gd (h := (PySem.intKind PW w).hash (k : Int)) (x := Value.int (k : Int) tk) g
  rw [Array.toList_push] at hperm
  generalize hL : layNew t es ((PySem.intKind PW w).hash (k : Int)) (.int (k : Int) tk) = L at hperm hgd ⊢
  obtain ⟨es1, t1, wasDummy, gave⟩ := L
  dsimp only at hperm hgd ⊢
  have hes1 : EsAre es1.toList (ks ++ [k]) := (hes.snoc k tk).perm hperm
  have hsz1 : es1.size = ks.length + 1 := by have := hes1.len; simpa using this
  have nd1 : (ks ++ [k]).Nodup := by
   rw [List.nodup_append]
   exact ⟨nd, (List.pairwise_singleton ..), fun a ha b hb => by rw [List.mem_singleton.mp hb]; exact fun q => hnot (q ▸ ha)⟩
  refine wpAny_bind (hgw _ ?_)
  have tail : ∀ g : Bool → Sem Unit, (∀ (b : Bool) (s₁ : Shared) (Q' : Unit → Shared → Prop), Q' () s₁ → wpAny (model PW w) A.in1 (g b) Q' E s₁) → ∀ t2, Gd (led w) t2 es1.size → wpAny (model PW w) A.in1 (do
    storeSet a es1 t2
    if (!wasDummy && t2.tooFull) = true then do
      g (relayAll t2 es1 (SetTable.grown es1.size)).2.2
      storeSet a (relayAll t2 es1 (SetTable.grown es1.size)).1 (relayAll t2 es1 (SetTable.grown es1.size)).2.1
      pure (some true)
     else pure (some true)) (fun r s' => r = some true ∧ Q .none s') E { s with toks := s.toks + 1 } := fun g hg' t2 g2 => by
   refine wpAny_bind (set_put S₁ ba la ha (by lia) fun s₂ S₂ k₂ e₂ g₂ => ?_)
   split
   ·have hp := relayAll_perm t2 es1 (SetTable.grown es1.size)
    have hg := relayAll_gd (wanted := SetTable.grown es1.size) g2
    refine wpAny_bind (hg' _ _ _ (wpAny_bind (set_put S₂ ba la e₂ (by have := (hes1.perm hp).len; simp at this; lia) fun s3 S3 k₃ e₃ g₃ => wpAny_pure ⟨rfl, h s3 S3 ?_ ⟨ba, la, nd1, _, _, _, e₃, hes1.perm hp, hg⟩ (g₃.trans g₂)⟩)))
    exact (Kp.of_eq (s := s) (V := []) (s' := { s with toks := s.toks + 1 }) rfl rfl).trans (k₂.trans k₃ (fun ι q => q) (fun ι q => .inl q)) (List.forall_mem_nil _) (fun ι q => .inl q)
   ·exact wpAny_pure ⟨rfl, h s₂ S₂ ((Kp.of_eq (s := s) (V := []) (s' := { s with toks := s.toks + 1 }) rfl rfl).trans k₂ (List.forall_mem_nil _) (fun ι q => .inl q)) ⟨ba, la, nd1, _, _, _, e₂, hes1, g2⟩ g₂⟩
  split
  ·refine wpAny_bind (wpAny_pure ?_)
   refine wp_eq (by rw [if_pos rfl]) ?_
   refine wpAny_mono (tail _ (fun b s₁ Q' q => by cases b <;> first | exact wpAny_pure q | exact wpAny_rule q) t1 hgd) (fun r s' hr => ?_) fun ι ι e => e
   obtain ⟨rfl, hq⟩ := hr
   exact wpAny_pure (wpAny_pure ⟨_, rfl, hq⟩)
  ·refine wpAny_bind (wpAny_pure ?_)
   refine wp_eq (by rw [if_pos rfl]) ?_
   refine wpAny_mono (tail _ (fun b s₁ Q' q => by cases b <;> first | exact wpAny_pure q | exact wpAny_rule q) t1 hgd) (fun r s' hr => ?_) fun ι ι e => e
   obtain ⟨rfl, hq⟩ := hr
   exact wpAny_pure (wpAny_pure ⟨_, rfl, hq⟩)
end
end Mine
namespace Mine
open SetTable
theorem slot_seti_next : Slot "set_iterator" "__next__" "set_iterator.__next__" :=
 .of (owner := "set_iterator") (n := "__next__") (by rw [typeLookup_type, builtinLookup_eq_fast]; kernel_rfl) (by decide +kernel) (by decide +kernel) (by decide +kernel)
  (by first | exact .inl (by decide +kernel) | exact .inr (by decide +kernel)) (by rw [isSubtype_type]; kernel_rfl)
theorem entry_seti_next : entryFor table "set_iterator.__next__" = some Builtin.«set_iterator.__next__» := entryFor_of_tree (by kernel_rfl)
theorem args_seti_next (a : Value) : argsOk "set_iterator.__next__" ⟨[a], []⟩ := by unfold argsOk; kernel_rfl
theorem entry_set_iter : entryFor table "set.__iter__" = some Builtin.«frozenset.__iter__» :=
 PySem.entryFor_alias (id' := "frozenset.__iter__") (by kernel_rfl) rfl (by decide +kernel) (by kernel_rfl)
section
variable {w : World} {mg mb : NM} {b₀ : Heap} {s₀ s s' : Shared} {A : Around} {E : VP} {a : Addr} {ks : List Nat}
theorem set_hint {Q : Bool → Shared → Prop} (hT : s.TypeIs (.ref a) "set") (h : Q false s) : wpAny (model PW w) A (Builtin.List.listLengthHint (.ref a)) Q E s := by
 unfold Builtin.List.listLengthHint
 refine wpAny_bind (wpAny_specialOf hT PySem.F.slot_set_len.lookup ?_)
 generalize hid : ("set.__len__" : String) = id0
 wp_delta
 refine wp_eq (by rw [show splitId id0 = some ("set", "__len__") from by subst hid; decide +kernel]) ?_
 subst hid
 refine wpAny_bind (wpAny_isInstance (T := "set") (b := true) hT (by rw [isSubtype_type]; kernel_rfl) ?_)
 refine wpAny_ite_split (fun hab => absurd hab (by decide)) (fun ι => ?_)
 refine wpAny_ite_split (fun ι => ?_) (fun hab => absurd (by decide +kernel) hab)
 refine wpAny_bind (wpAny_typeOf hT ?_)
 exact wpAny_pure h
end
end Mine
namespace Mine
open SetTable
theorem erase_perm {α : Type} : ∀ (l : List α) (i : Nat) (h : i < l.length), List.Perm (l[i] :: l.eraseIdx i) l
 | [], i, h => absurd h (by simp)
 | a :: l, 0, h => List.Perm.refl _
 | a :: l, i + 1, h => (List.Perm.swap a _ _).trans (List.Perm.cons a (erase_perm l i (by simpa using h)))
theorem pick_s {α : Type} {next : Nat → Nat} {f k : Nat} {l : List α} {o : Array α} : pickOrder.go next (f + 1) k l o = match l[next k % l.length]? with | some x => pickOrder.go next f (k + 1) (l.eraseIdx (next k % l.length)) (o.push x) | none => o := rfl
theorem pick_go {α : Type} (next : Nat → Nat) : ∀ (fuel k : Nat) (left : List α) (out : Array α), left.length ≤ fuel → (pickOrder.go next fuel k left out).toList.Perm (out.toList ++ left)
 | 0, k, left, o, h => by
  have : left = [] := List.length_eq_zero_iff.mp (by lia)
  subst this
  show o.toList.Perm (o.toList ++ [])
  rw [List.append_nil]
 | fuel + 1, k, left, out, h => by
  rw [pick_s]
  cases hx : left[next k % left.length]? with
  | none =>
   have : left = [] := by
    cases left with
    | nil => rfl
    | cons a l =>
     have := List.getElem?_eq_none_iff.mp hx
     have h2 := Nat.mod_lt (next k) (show 0 < (a :: l).length by simp)
     lia
   subst this
   simp
  | some x =>
   dsimp only
   obtain ⟨hi, rfl⟩ := List.getElem?_eq_some_iff.mp hx
   refine (pick_go next fuel (k + 1) _ _ (by rw [List.length_eraseIdx_of_lt hi]; lia)).trans ?_
   rw [Array.toList_push, List.append_assoc]
   exact List.Perm.append_left _ (erase_perm _ _ hi)
theorem pick_perm {α : Type} (next : Nat → Nat) (xs : Array α) : (pickOrder next xs).toList.Perm xs.toList := by
 have := pick_go next xs.size 0 xs.toList #[] (Nat.le_refl _)
 simpa [pickOrder] using this
theorem below_eq {xs : Array Nat} {j i : Nat} (hr : Rising xs.toList) (hi : i ≤ xs.size) (h1 : ∀ k x, k < i → xs[k]? = some x → x < j) (h2 : ∀ k x, i ≤ k → xs[k]? = some x → j ≤ x) : below xs j = i := by
 obtain ⟨b1, b2, b3⟩ := below_spec xs j hr
 rcases Nat.lt_trichotomy (below xs j) i with q | q | q
 ·have hlt : below xs j < xs.size := (Nat.lt_of_lt_of_le ‹_› ‹_›)
  have := b3 _ (Nat.le_refl _) _ (Array.getElem?_eq_getElem hlt)
  have := h1 _ _ q (Array.getElem?_eq_getElem hlt)
  lia
 ·exact q
 ·have hlt : i < xs.size := (Nat.lt_of_lt_of_le ‹_› ‹_›)
  have := b2 i q _ (Array.getElem?_eq_getElem hlt)
  have := h2 i _ (Nat.le_refl _) (Array.getElem?_eq_getElem hlt)
  lia
section
variable {w : World} {mg mb : NM} {b₀ : Heap} {s₀ s s' : Shared} {M : Model} {A : Around} {E : VP} {a it T : Addr} {ks : List Nat}
theorem choose_any {src : Source} {n : Nat} {Q : Nat → Shared → Prop} (hn : n ≠ 0) (h : ∀ i d, i < n → Q i { s with drawn := d }) : wpAny M A (choose src n) Q E s := fun Γ p hΓ => by
 unfold choose
 rw [Sem.wp_choose]
 exact ⟨hn, h _ _ (Nat.mod_lt _ (Nat.pos_of_ne_zero hn))⟩
theorem draw_perm {α : Type} : ∀ (n : Nat) (xs : List α) (s : Shared) {Q : List α → Shared → Prop}, xs.length = n → (∀ ys d, List.Perm ys xs → Q ys { s with drawn := d }) → wpAny M A (drawOrder n xs) Q E s
 | 0, xs, s, Q, hl, h => by
  have : xs = [] := List.length_eq_zero_iff.mp hl
  subst this
  exact wpAny_pure (h [] s.drawn (List.Perm.refl _))
 | n + 1, [], s, Q, hl, h => by simp at hl
 | n + 1, x :: xs, s, Q, hl, h => by
  show wpAny M A (choose .order (x :: xs).length >>= _) Q E s
  refine wpAny_bind (choose_any (Nat.succ_ne_zero _) fun i d hi => ?_)
  rw [List.getElem?_eq_getElem hi]
  refine wpAny_bind (draw_perm n ((x :: xs).eraseIdx i) _ (by rw [List.length_eraseIdx_of_lt hi]; simp at hl ⊢; lia) fun ys d' hp => wpAny_pure ?_)
  exact h _ d' ((List.Perm.cons _ hp).trans (erase_perm _ _ hi))
inductive SetMode (w : World) (h : Heap) (es : Array (Int × Value)) (ep : Nat) (t : SetTable) (T : Addr) (vis : Array (Int × Value)) (i : Nat) : Value → Prop
 | text (sl : Nat) : led w = false → vis = pickOrder (w.params.setOrder a ep) es → SetMode w h es ep t T vis i (rawInt sl)
 | plain (sl : Nat) : led w = true → (!t.plain && decide (es.size > 1)) = false → Rising t.place.toList → vis = es → (∀ k x, k < i → t.place[k]? = some x → x < sl) → (∀ k x, i ≤ k → t.place[k]? = some x → sl ≤ x) → SetMode w h es ep t T vis i (rawInt sl)
 | drawn (ps : List Nat) : h.IsTuple T (ps.map fun (n : Nat) => rawInt n).toArray → ps.length = es.size → (∀ k, k < es.size → ∃ p, ps[k]? = some p ∧ es[p]? = vis[k]? ∧ p < es.size) → SetMode w h es ep t T vis i (.ref T)
end
end Mine
namespace Mine
open SetTable
section
variable {w : World} {mg mb : NM} {b₀ : Heap} {s₀ s s' : Shared} {M : Model} {A : Around} {E : VP} {a it T : Addr} {ks : List Nat}
noncomputable abbrev setItO (first : Value) (i : Nat) (a : Addr) (n ep : Nat) : Obj := { cls := .type "set_iterator", data := .fields #[first, rawInt i, .ref a, rawInt n, rawInt ep] }
noncomputable def SetIt (w : World) (h : Heap) (it a T : Addr) (vis : Array (Int × Value)) (i : Nat) : Prop := ∃ es ep t first, h.get? a = some (setO es ep t) ∧ t.fits es.size = true ∧ t.led = led w ∧ vis.size = es.size ∧
 h.get? it = some (setItO first i a es.size ep) ∧ SetMode (a := a) w h es ep t T vis i first
theorem seti_new {Q : VP} (S : Sit w mg mb b₀ s) (x : SetI w b₀ s.heap a ks) (hk : ks.length ≤ 1000)
  (h : ∀ s' it T vis, Sit w mg mb b₀ s' → Kp [] s s' → SetIt w s'.heap it a T vis 0 → EsAre vis.toList ks → s.heap.get? it = none → b₀.get? it = none → @LT.lt Nat _ 154 it → T ≠ it → (T = a ∨ s.heap.get? T = none) → s'.gens = s.gens → Q (.ref it) s') : wpAny (model PW w) A (pyIter (.ref a)) Q E s := by
 obtain ⟨ba, la, nd, es, ep, t, ha, hes, g⟩ := x
 have hsz : es.size = ks.length := by have := hes.len; simpa using this
 have hT : s.TypeIs (.ref a) "set" := ⟨_, ha, rfl⟩
 refine wpAny_pyIter_slot hT PySem.F.slot_set_iter (wpAny_call_entry PySem.F.slot_set_iter hT entry_set_iter ?_ (PySem.F.args_set_iter_1 _))
 show wpAny _ _ (Builtin.Frozenset.slot0 "__iter__" _ >>= _) _ _ s
 refine wpAny_bind (wpAny_of_eq (a := a) (by first | rfl | kernel_rfl) ?_)
 refine wpAny_bind (wpAny_bind (wpAny_setEntries_of ha rfl g.fits (wpAny_pure ?_)))
 refine wpAny_bind (m := setDrawn a) ?_
 unfold setDrawn setsByText
 refine wpAny_bind (wpAny_setState_of ha rfl g.fits (wpAny_bind (wpAny_bind (wpAny_askSetting (wpAny_pure (wpAny_pure ?_))))))
 have htn : ∀ s' : Shared, ∀ it o, s'.heap.get? it = some o → o.cls = .type "set_iterator" → s'.TypeIs (.ref it) "set_iterator" := fun s' it o e c => ⟨o, e, c⟩
 refine wpAny_ite_split (fun hc0 => ?_) (fun hc0 => ?_)
 ·have hc' : (led w && (!t.plain && decide (es.size > 1))) = true := hc0
  simp only [Bool.and_eq_true] at hc'
  refine wpAny_bind (draw_perm es.size (List.range es.size) s (by simp) fun ys d hp => ?_)
  have S₁ : Sit w mg mb b₀ { s with drawn := d } := S.of rfl rfl
  have hlen : ys.length = es.size := by rw [hp.length_eq]; simp
  have hys : ∀ y ∈ ys, y < es.size := fun y hy => by have := hp.mem_iff.mp hy; simpa using this
  have z₂ := S₁.push (o := { cls := .type "tuple", data := .seq (List.map (fun (i : Nat) => rawInt i) ys).toArray }) (t := s.toks)
  have ha2 : (s.heap.push { cls := .type "tuple", data := .seq (List.map (fun (i : Nat) => rawInt i) ys).toArray }).get? a = _ := Heap.get?_push_of_some _ ha
  refine wpAny_bind (wpAny_newObj_type ?_ (by show (List.map (fun (i : Nat) => rawInt i) ys).toArray.size ≤ sizeLine; rw [sizeLine_eq]; simp; lia))
  refine wpAny_bind (wpAny_setEpoch_of ha2 rfl g.fits ?_)
  have z₃ := z₂.1.push (o := setItO (.ref s.heap.objs.size) 0 a es.size ep) (t := s.toks)
  refine wpAny_bind (wpAny_newObj_type ?_ (by first | trivial | size_fits))
  refine wpAny_pure ⟨_, rfl, "set_iterator", _, ⟨_, Heap.get?_push_size _ rfl, rfl⟩, slot_seti_next.lookup, ?_⟩
  have hTt : (s.heap.push { cls := .type "tuple", data := .seq (List.map (fun (i : Nat) => rawInt i) ys).toArray }).get? s.heap.objs.size = _ := Heap.get?_push_size _ rfl
  have fit : s.heap.get? (s.heap.push { cls := .type "tuple", data := .seq (List.map (fun (i : Nat) => rawInt i) ys).toArray }).objs.size = none := by
   cases q : s.heap.get? (s.heap.push { cls := .type "tuple", data := .seq (List.map (fun (i : Nat) => rawInt i) ys).toArray }).objs.size with
   | none => rfl
   | some o =>
    have := Heap.lt_size q
    rw [Heap.size_push] at this
    exact absurd this (by show ¬ (s.heap.objs.size + 1 < s.heap.objs.size); lia)
  have hvis : (ys.map fun i => es.getD i (0, .none)).Perm es.toList := by
   refine (hp.map _).trans (List.Perm.of_eq ?_)
   refine List.ext_getElem (by simp) fun k h1 h2 => ?_
   have hk2 : k < es.size := by simpa using h2
   simp [hk2]
  refine h _ _ s.heap.objs.size (ys.map fun i => es.getD i (0, .none)).toArray z₃.1 ((Kp.of_eq (s := s) (V := []) (s' := { s with drawn := d }) rfl rfl).trans (z₂.2.trans z₃.2 (W := []) (List.forall_mem_nil _) (List.forall_mem_nil _)) (List.forall_mem_nil _) (List.forall_mem_nil _))
   ⟨es, ep, t, _, Heap.get?_push_of_some _ ha2, g.fits, g.led, by simp [hlen], Heap.get?_push_size _ rfl, .drawn ys ⟨_, Heap.get?_push_of_some _ hTt, rfl, _, rfl⟩ hlen fun k hk => ?_⟩ (hes.perm hvis) fit z₂.1.fresh z₂.1.lt (Nat.ne_of_lt (by rw [Heap.size_push]; exact Nat.lt_succ_self _)) (.inr (get_size _)) rfl
  have hk' : k < ys.length := by lia
  refine ⟨ys[k], List.getElem?_eq_getElem hk', ?_, hys _ (List.getElem_mem hk')⟩
  have hlt := hys _ (List.getElem_mem hk')
  simp [hk', hlt]
 ·have hc : ¬ (led w && (!t.plain && decide (es.size > 1))) = true := hc0
  refine wpAny_bind (wpAny_pure (wpAny_bind (wpAny_setEpoch_of ha rfl g.fits ?_)))
  have z₃ := S.push (o := setItO (rawInt 0) 0 a es.size ep) (t := s.toks)
  refine wpAny_bind (wpAny_newObj_type ?_ (by first | trivial | size_fits))
  refine wpAny_pure ⟨_, rfl, "set_iterator", _, ⟨_, Heap.get?_push_size _ rfl, rfl⟩, slot_seti_next.lookup, ?_⟩
  have ani : a ≠ s.heap.objs.size := Nat.ne_of_lt (Heap.lt_size ha)
  cases hl : led w with
  | false =>
   refine h _ _ a (pickOrder (w.params.setOrder a ep) es) z₃.1 z₃.2 ⟨es, ep, t, _, Heap.get?_push_of_some _ ha, g.fits, g.led, ?_, Heap.get?_push_size _ rfl, .text 0 hl rfl⟩ (hes.perm (pick_perm _ _)) (get_size _) S.fresh S.lt ani (.inl rfl) rfl
   have := (pick_perm (w.params.setOrder a ep) es).length_eq
   simpa using this
  | true =>
   have hd : (!t.plain && decide (es.size > 1)) = false := by
    rw [hl, Bool.true_and] at hc
    simpa using hc
   refine h _ _ a es z₃.1 z₃.2 ⟨es, ep, t, _, Heap.get?_push_of_some _ ha, g.fits, g.led, rfl, Heap.get?_push_size _ rfl, .plain 0 hl hd ?_ rfl (fun k x hk => absurd hk (Nat.not_lt_zero _)) (fun k x ι ι => Nat.zero_le _)⟩ hes (get_size _) S.fresh S.lt ani (.inl rfl) rfl
   cases hp : t.plain with
   | true => exact g.rise hp
   | false =>
    rw [hp] at hd
    have hf := g.fits
    simp only [SetTable.fits, Bool.and_eq_true, beq_iff_eq] at hf
    have h1 : ¬ es.size > 1 := by simpa using hd
    have hpl : t.place.toList.length ≤ 1 := by rw [Array.length_toList, hf.1]; lia
    match hq : t.place.toList, hpl with
    | [], _ => exact List.Pairwise.nil
    | [x], _ => exact List.pairwise_singleton _ _
    | _ :: _ :: _, h => exact absurd h (by simp)
end
end Mine
namespace Mine
open SetTable
section
variable {w : World} {mg mb : NM} {b₀ : Heap} {s₀ s s' : Shared} {M : Model} {A : Around} {E : VP} {a it T : Addr} {ks : List Nat} {vis : Array (Int × Value)} {i : Nat}
theorem rise_get {l : Array Nat} (hr : Rising l.toList) {p q x y : Nat} (h : p < q) (hx : l[p]? = some x) (hy : l[q]? = some y) : x < y := by
 rw [← Array.getElem?_toList] at hx hy
 obtain ⟨h1, rfl⟩ := List.getElem?_eq_some_iff.mp hx
 obtain ⟨h2, rfl⟩ := List.getElem?_eq_some_iff.mp hy
 exact List.pairwise_iff_getElem.mp hr p q h1 h2 h
theorem next_text {es : Array (Int × Value)} {ep sl : Nat} {t : SetTable} {Q : Option (Value × Nat) → Shared → Prop} (ha : s.heap.get? a = some (setO es ep t)) (hf : t.fits es.size = true) (hl : led w = false) (hv : vis = pickOrder (w.params.setOrder a ep) es) (h : Q ((vis[i]?).map fun e => (e.2, sl)) s) :
  wpAny (model PW w) A (setNext a sl i ep) Q E s := by
 have hl' : w.params.followText "set-order" = true := by simpa [led] using hl
 unfold setNext
 refine wpAny_bind (wpAny_setState_of ha rfl hf ?_)
 dsimp only
 refine wpAny_bind (m := setsByText) ?_
 unfold setsByText
 refine wpAny_bind (wpAny_askSetting (wpAny_pure ?_))
 refine wpAny_ite_split (fun ι => ?_) (fun q => absurd hl' q)
 refine wpAny_ite_split (fun q => absurd q (by simp)) (fun ι => ?_)
 refine wpAny_bind (m := setWalk a) ?_
 unfold setWalk
 refine wpAny_bind (wpAny_setState_of ha rfl hf ?_)
 dsimp only
 refine wpAny_bind (m := setsByText) ?_
 unfold setsByText
 refine wpAny_bind (wpAny_askSetting (wpAny_pure ?_))
 refine wpAny_ite_split (fun ι => ?_) (fun q => absurd hl' q)
 refine wpAny_bind (wpAny_askSetting (wpAny_pure (wpAny_pure ?_)))
 subst hv
 exact h
theorem next_plain {es : Array (Int × Value)} {ep sl : Nat} {t : SetTable} {Q : Option (Value × Nat) → Shared → Prop} (ha : s.heap.get? a = some (setO es ep t)) (hf : t.fits es.size = true) (hl : led w = true) (htl : t.led = true) (hd : (!t.plain && decide (es.size > 1)) = false) (hr : Rising t.place.toList) (hi : i ≤ es.size)
  (h5 : ∀ k x, k < i → t.place[k]? = some x → x < sl) (h6 : ∀ k x, i ≤ k → t.place[k]? = some x → sl ≤ x)
  (h : Q (match es[i]?, t.place[i]? with | some (_, x), some j => some (x, j + 1) | _, _ => none) s) :
  wpAny (model PW w) A (setNext a sl i ep) Q E s := by
 have hl' : ¬ w.params.followText "set-order" = true := by simpa [led] using hl
 have hf' := hf
 simp only [SetTable.fits, Bool.and_eq_true, beq_iff_eq] at hf'
 have hbe := below_eq hr (by lia) h5 h6
 unfold setNext
 refine wpAny_bind (wpAny_setState_of ha rfl hf ?_)
 dsimp only
 refine wpAny_bind (m := setsByText) ?_
 unfold setsByText
 refine wpAny_bind (wpAny_askSetting (wpAny_pure ?_))
 refine wpAny_ite_split (fun q => absurd q hl') (fun ι => ?_)
 refine wpAny_ite_split (fun q => absurd (show (!t.plain && decide (es.size > 1)) = true from q) (by rw [hd]; decide)) (fun ι => ?_)
 refine wpAny_bind ?_
 refine wpAny_ite_split (fun q => absurd (show (!t.led && !es.isEmpty) = true from q) (by rw [htl]; simp)) (fun ι => wpAny_pure ?_)
 rw [hbe]
 exact wpAny_pure h
theorem next_drawn {es : Array (Int × Value)} {ep p : Nat} {t : SetTable} {Q : VP} (ha : s.heap.get? a = some (setO es ep t)) (hf : t.fits es.size = true) (hp : p < es.size) (h : Q (es[p]).2 s) : wpAny (model PW w) A (setNextDrawn a p ep) Q E s := by
 unfold setNextDrawn
 refine wpAny_bind (wpAny_setState_of ha rfl hf ?_)
 dsimp only
 refine wpAny_ite_split (fun q => absurd q (by simp)) (fun ι => ?_)
 rw [Array.getElem?_eq_getElem hp]
 exact wpAny_pure h
theorem seti_item {Q : Option Value → Shared → Prop} (hne : a ≠ it) (hT : T ≠ it) (x : SetIt w s.heap it a T vis i) (hi : i < vis.size)
  (h : ∀ h', SetIt w h' it a T vis (i + 1) → Heap.SameBut it s.heap h' → Q (some (vis[i]'hi).2) { s with heap := h' }) : wpAny (model PW w) A (pyNext (.ref it)) Q E s := by
 obtain ⟨es, ep, t, first, ha, hf, hl, hv, hit, mode⟩ := x
 have hT' : s.TypeIs (.ref it) "set_iterator" := ⟨_, hit, rfl⟩
 unfold pyNext
 refine wpAny_bind (wpAny_attempt (wpAny_callSpecial?_slot (name := Str.ofString "__next__") hT' slot_seti_next (wpAny_call_entry slot_seti_next hT' entry_seti_next ?_ (args_seti_next _))))
 show wpAny _ _ (fieldsOf (.ref it) >>= _) _ _ s
 refine wpAny_bind (wpAny_fieldsOf hit rfl ?_)
 show wpAny _ _ (setEntries a >>= _) _ _ s
 refine wpAny_bind (wpAny_setEntries_of ha rfl hf ?_)
 refine wpAny_ite_split (fun q => absurd q (by simp)) (fun ι => ?_)
 have moved : ∀ (h' : Heap) (f2 : Value), h'.get? it = some (setItO f2 (i + 1) a es.size ep) → Heap.SameBut it s.heap h' → (∀ h₂ : Heap, (∀ b o, b ≠ it → s.heap.get? b = some o → h₂.get? b = some o) → SetMode (a := a) w h₂ es ep t T vis (i + 1) f2) → SetIt w h' it a T vis (i + 1) :=
  fun h' f2 e1 e2 e3 => ⟨es, ep, t, f2, e2.extBut _ _ hne ha, hf, hl, hv, e1, e3 h' fun b o hb e => e2.extBut b o hb e⟩
 have hvi : vis[i]? = some vis[i] := Array.getElem?_eq_getElem hi
 cases mode with
 | text sl htx hvis =>
  show wpAny _ _ (setNext a sl i ep >>= _) _ _ s
  refine wpAny_bind (next_text ha hf htx hvis ?_)
  rw [hvi]
  refine wpAny_bind (wpAny_setField_rec hit (Nat.le_of_ble_eq_true rfl) fun h₁ e₁ k₁ => ?_)
  refine wpAny_bind (wpAny_setField_rec e₁ (Nat.le_of_ble_eq_true rfl) fun h₂ e₂ k₂ => ?_)
  refine wpAny_pure ⟨_, rfl, wpAny_pure (h h₂ (moved h₂ (rawInt sl) e₂ (k₁.trans k₂) fun h₃ k₃ => .text sl htx hvis) (k₁.trans k₂))⟩
 | plain sl h1 h2 h3 h4 h5 h6 =>
  show wpAny _ _ (setNext a sl i ep >>= _) _ _ s
  have hie : i < es.size := by lia
  have hf' := hf
  simp only [SetTable.fits, Bool.and_eq_true, beq_iff_eq] at hf'
  have hip : i < t.place.size := by lia
  have hpi : t.place[i]? = some t.place[i] := Array.getElem?_eq_getElem hip
  refine wpAny_bind (next_plain ha hf h1 (hl.trans h1) h2 h3 (Nat.le_of_lt ‹_›) h5 h6 ?_)
  rw [Array.getElem?_eq_getElem hie, hpi]
  refine wpAny_bind (wpAny_setField_rec hit (Nat.le_of_ble_eq_true rfl) fun h₁ e₁ k₁ => ?_)
  refine wpAny_bind (wpAny_setField_rec e₁ (Nat.le_of_ble_eq_true rfl) fun h₂ e₂ k₂ => ?_)
  refine wpAny_pure ⟨_, rfl, wpAny_pure ?_⟩
  subst h4
  refine h h₂ (moved h₂ (rawInt ((t.place[i] + 1 : Nat) : Int)) e₂ (k₁.trans k₂) fun h₃ k₃ => .plain _ h1 h2 h3 rfl (fun k x hk hx => ?_) (fun k x hk hx => ?_)) (k₁.trans k₂)
  ·rcases Nat.lt_or_ge k i with q | q
   ·have := rise_get h3 q hx hpi; lia
   ·have : k = i := by lia
    subst this
    rw [hpi] at hx; cases hx; lia
  ·have := rise_get h3 (show i < k by lia) hpi hx; lia
 | drawn ps h1 h2 h3 =>
  obtain ⟨p, hp1, hp2, hp3⟩ := h3 i (by lia)
  obtain ⟨oT, eT, hcT, nT, hdT⟩ := id h1
  show wpAny _ _ (seqItems? (.ref T) >>= _) _ _ s
  refine wpAny_bind (wpAny_seqItems eT hdT ?_)
  have hps : ((ps.map fun (n : Nat) => rawInt n).toArray)[i]? = some (rawInt p) := by simp [hp1]
  show wpAny _ _ (match ((ps.map fun (n : Nat) => rawInt n).toArray)[i]? with | some (.int place _) => _ | some _ => _ | none => _) _ _ s
  rw [hps]
  have hval : vis[i] = es[p] := by
   rw [hvi, Array.getElem?_eq_getElem hp3] at hp2
   exact (Option.some.inj hp2).symm
  refine wpAny_bind (m := setNextDrawn a p ep) (next_drawn ha hf hp3 ?_)
  refine wpAny_bind (wpAny_setField_rec hit (Nat.le_of_ble_eq_true rfl) fun h₁ e₁ k₁ => ?_)
  have hq := h h₁ (moved h₁ (.ref T) e₁ k₁ fun h₃ k₃ => .drawn ps ⟨oT, k₃ T oT hT eT, hcT, nT, hdT⟩ h2 h3) k₁
  rw [hval] at hq
  exact wpAny_pure ⟨_, rfl, wpAny_pure hq⟩
theorem seti_end {Q : Option Value → Shared → Prop} (hh : A.handled = none) (hne : a ≠ it) (hT : T ≠ it) (x : SetIt w s.heap it a T vis i) (hi : i = vis.size)
  (h : ∀ h', Heap.ExtBut it s.heap h' → Q none { s with heap := h' }) : wpAny (model PW w) A (pyNext (.ref it)) Q E s := by
 obtain ⟨es, ep, t, first, ha, hf, hl, hv, hit, mode⟩ := x
 have hT' : s.TypeIs (.ref it) "set_iterator" := ⟨_, hit, rfl⟩
 unfold pyNext
 refine wpAny_bind (wpAny_attempt (wpAny_callSpecial?_slot (name := Str.ofString "__next__") hT' slot_seti_next (wpAny_call_entry slot_seti_next hT' entry_seti_next ?_ (args_seti_next _))))
 show wpAny _ _ (fieldsOf (.ref it) >>= _) _ _ s
 refine wpAny_bind (wpAny_fieldsOf hit rfl ?_)
 show wpAny _ _ (setEntries a >>= _) _ _ s
 refine wpAny_bind (wpAny_setEntries_of ha rfl hf ?_)
 refine wpAny_ite_split (fun q => absurd q (by simp)) (fun ι => ?_)
 have stop : ∀ h₁ : Heap, Heap.SameBut it s.heap h₁ → wpAny (model PW w) A.in1 (newExc (.type "StopIteration") [] >>= fun e => (raiseNew e : Sem Fin)) (fun fin s' => ∃ v, fin = Fin.done (Flow.ret v) ∧ wpAny (model PW w) A (pure (some v)) Q E s')
   (fun e s' => wpAny (model PW w) A (do if (← isInstance e (.type "StopIteration")) = true then pure none else throw e) Q E s') { s with heap := h₁ } := fun h₁ k₁ => by
  refine stop_new hh fun h' e k he => ?_
  obtain ⟨o, he, hc⟩ := he
  refine wpAny_bind (wpAny_isInstance (T := "StopIteration") (b := true) ⟨o, he, hc⟩ isSubtype_stop ?_)
  exact wpAny_pure (h _ fun b o nb e => k b o (k₁.extBut b o nb e))
 have hvi : vis[i]? = none := by rw [hi]; exact Array.getElem?_eq_none (Nat.le_refl _)
 have hes : es[i]? = none := Array.getElem?_eq_none (by lia)
 cases mode with
 | text sl htx hvis =>
  show wpAny _ _ (setNext a sl i ep >>= _) _ _ s
  refine wpAny_bind (next_text ha hf htx hvis ?_)
  rw [hvi]
  refine wpAny_bind (wpAny_setField_rec hit (Nat.le_of_ble_eq_true rfl) fun h₁ e₁ k₁ => ?_)
  exact stop h₁ k₁
 | plain sl h1 h2 h3 h4 h5 h6 =>
  show wpAny _ _ (setNext a sl i ep >>= _) _ _ s
  refine wpAny_bind (next_plain ha hf h1 (hl.trans h1) h2 h3 (by lia) h5 h6 ?_)
  rw [hes]
  refine wpAny_bind (wpAny_setField_rec hit (Nat.le_of_ble_eq_true rfl) fun h₁ e₁ k₁ => ?_)
  exact stop h₁ k₁
 | drawn ps h1 h2 h3 =>
  obtain ⟨oT, eT, hcT, nT, hdT⟩ := id h1
  show wpAny _ _ (seqItems? (.ref T) >>= _) _ _ s
  refine wpAny_bind (wpAny_seqItems eT hdT ?_)
  have hps : ((ps.map fun (n : Nat) => rawInt n).toArray)[i]? = none := by simp; lia
  show wpAny _ _ (match ((ps.map fun (n : Nat) => rawInt n).toArray)[i]? with | some (.int place _) => _ | some _ => _ | none => _) _ _ s
  rw [hps]
  refine wpAny_bind (wpAny_setField_rec hit (Nat.le_of_ble_eq_true rfl) fun h₁ e₁ k₁ => ?_)
  refine wpAny_bind (wpAny_setField_rec e₁ (Nat.le_of_ble_eq_true rfl) fun h₂ e₂ k₂ => ?_)
  exact stop h₂ (k₁.trans k₂)
theorem slot_seti_iter : Slot "set_iterator" "__iter__" "set_iterator.__iter__" :=
 .of (owner := "set_iterator") (n := "__iter__") (by rw [typeLookup_type, builtinLookup_eq_fast]; kernel_rfl) (by decide +kernel) (by decide +kernel) (by decide +kernel)
  (by first | exact .inl (by decide +kernel) | exact .inr (by decide +kernel)) (by rw [isSubtype_type]; kernel_rfl)
theorem entry_seti_iter : entryFor table "set_iterator.__iter__" = some Builtin.«dict_keyiterator.__iter__» :=
 PySem.entryFor_alias (id' := "dict_keyiterator.__iter__") (by kernel_rfl) rfl (by decide +kernel) (by kernel_rfl)
theorem args_seti_iter (a : Value) : argsOk "set_iterator.__iter__" ⟨[a], []⟩ := by unfold argsOk; kernel_rfl
theorem Walks.seti (hh : A.handled = none) (hne : a ≠ it) (hT : T ≠ it) : Walks PW w A it [it, a, T] [it] vis.size (fun i v => ∃ e, vis[i]? = some e ∧ v = e.2) (fun i h => SetIt w h it a T vis i) where
 sub := fun b hb => by simp at hb; simp [hb]
 frame := fun i h h' x k => by
  obtain ⟨es, ep, t, first, ha, hf, hl, hv, hit, mode⟩ := x
  refine ⟨es, ep, t, first, k a (by simp) _ ha, hf, hl, hv, k it (List.mem_cons_self ..) _ hit, ?_⟩
  cases mode with
  | text sl h1 h2 => exact .text sl h1 h2
  | plain sl h1 h2 h3 h4 h5 h6 => exact .plain sl h1 h2 h3 h4 h5 h6
  | drawn ps h1 h2 h3 =>
   obtain ⟨oT, eT, r⟩ := h1
   exact .drawn ps ⟨oT, k T (by simp) _ eT, r⟩ h2 h3
 item := fun i s Q E hi x hQ => seti_item hne hT x hi fun h' x' k => hQ _ h' s.toks ⟨_, Array.getElem?_eq_getElem hi, rfl⟩ x' fun b o hb e => k.extBut b o (by simpa using hb) e
 done := fun s Q E x hQ => seti_end hh hne hT x rfl fun h' k => hQ h' s.toks fun b o hb e => k b o (by simpa using hb) e
 self := fun i s Q E x hQ => by
  obtain ⟨es, ep, t, first, ha, hf, hl, hv, hit, mode⟩ := x
  have hT' : s.TypeIs (.ref it) "set_iterator" := ⟨_, hit, rfl⟩
  refine wpAny_pyIter_slot hT' slot_seti_iter (wpAny_call_entry slot_seti_iter hT' entry_seti_iter ?_ (args_seti_iter _))
  show wpAny _ _ (ret (.ref it)) _ _ s
  exact wpAny_pure ⟨_, rfl, "set_iterator", _, hT', slot_seti_next.lookup, hQ⟩
end
end Mine
namespace Mine
open SetTable
section
variable {w : World} {mg mb : NM} {b₀ : Heap} {s₀ s s' : Shared} {M : Model} {A : Around} {E : VP} {a it T : Addr} {ks : List Nat} {vis : Array (Int × Value)} {i : Nat}
theorem set_extend {D : Addr} {c₀ : Nat} {R : Result → Shared → Prop} (hh : A.handled = none) (S : Sit w mg mb b₀ s) (x : SetI w b₀ s.heap a ks) (hk : ks.length ≤ 1000) (hDa : D ≠ a) (hD : s.heap.get? D = some (lstO #[] c₀)) (bD : b₀.get? D = none) (lD : @LT.lt Nat _ 154 D)
  (hR : ∀ s' vis acc c', Sit w mg mb b₀ s' → Kp [D] s s' → EsAre vis ks → s'.heap.get? D = some (lstO acc c') → acc.toList = vis.map (·.2) → s'.gens = s.gens → R (.ok (.ret (.ref D))) s') :
  wpAny (model PW w) A.in1 (Builtin.List.listExtendWith (.ref D) (.ref a) (.ref D))
   (fun fin s' => match fin with | .done f => R (.ok f) s' | .again c' => c'.quiet = true ∧ codeAny (model PW w) A c' R s') (fun e s' => R (.error e) s') s := by
 obtain ⟨ba, la, nd, es, ep, t, ha, hes, g⟩ := id x
 unfold Builtin.List.listExtendWith
 refine wpAny_bind (wpAny_typeOf (T := "set") ⟨_, ha, rfl⟩ ?_)
 have h1 : Builtin.List.listSameRef (.ref D) (.ref a) = false := by simp [Builtin.List.listSameRef, hDa]
 have h2 : (Value.type "set" == Value.type "list") = false := by decide
 have h3 : (Value.type "set" == Value.type "tuple") = false := by decide
 refine wp_f (by rw [h1, h2, h3]; decide) ?_
 refine wpAny_bind (seti_new S x hk fun s₁ it T vis S₁ k₁ I₁ hv fit bit lit nT aT g₁ => ?_)
 have hD₁ := k₁.lstO S hD List.not_mem_nil
 have ha₁ := k₁.get S ha List.not_mem_nil (by exact cn)
 have ait : a ≠ it := fun q => by rw [← q, ha] at fit; cases fit
 have Dit : D ≠ it := fun q => by rw [← q, hD] at fit; cases fit
 have DT : D ≠ T := fun q => by rcases aT with r | r; exact hDa (q.trans r); rw [← q, hD] at r; cases r
 have W := Walks.seti (w := w) (A := A.in1) (vis := vis) hh ait nT
 have hvn : vis.size = ks.length := by have := hv.len; simpa using this
 refine wpAny_bind (wpAny_holding (set_hint ⟨_, ha₁, rfl⟩ ?_))
 have key : ∀ s₂ c₁, Sit w mg mb b₀ s₂ → Kp [D] s₁ s₂ → s₂.gens = s₁.gens → SetIt w s₂.heap it a T vis 0 → s₂.heap.get? D = some (lstO #[] c₁) → codeAny (model PW w) A (.builtin "list.extend.loop" ⟨[.ref D, .ref it, .ref D], []⟩) R s₂ := fun s₂ c₁ S₂ k₂ g₂ I₂ hD₂ => by
  refine codeAny_extend_loopS W.toS (by rw [sizeLine_eq]; lia) D (by simp [Dit, hDa, DT]) (.ref D) vis.size 0 s₂ #[] c₁ (by lia) (Nat.zero_le _) I₂ hD₂ (ItemsOf.nil _) fun s3 acc c' hm hD3 hacc => ?_
  have z := S₂.by (s' := s3) (U := [D, it]) (by simp only [List.mem_cons, List.not_mem_nil, or_false, forall_eq_or_imp, forall_eq]; exact ⟨bD, bit⟩)
   (by simp only [List.mem_cons, List.not_mem_nil, or_false, not_or]; exact ⟨Nat.ne_of_lt (Nat.lt_trans (by decide) lD), Nat.ne_of_lt (Nat.lt_trans (by decide) lit)⟩) (by simp only [List.mem_cons, List.not_mem_nil, or_false, not_or]; exact ⟨Nat.ne_of_lt lD, Nat.ne_of_lt lit⟩)
   (fun b o hb e => hm.heap b o hb e) hm.gens hm.os
  refine hR s3 vis.toList acc c' z.1 ((k₁.trans (k₂.trans z.2 (W := [D, it]) (by simp) (fun ι q => .inl q)) (W := [D]) (List.forall_mem_nil _) fun v hv => ?_)) hv hD3 ?_ (hm.gens.trans (g₂.trans g₁))
  ·rcases List.mem_cons.mp hv with rfl | q
   ·exact .inl (List.mem_cons_self ..)
   ·rw [List.mem_singleton.mp q]; exact .inr fit
  ·refine List.ext_getElem? fun k => ?_
   rw [List.getElem?_map, Array.getElem?_toList, Array.getElem?_toList]
   rcases Nat.lt_or_ge k vis.size with q | q
   ·have hk2 : k < acc.size := by rw [hacc.1]; exact q
    obtain ⟨e, he, hev⟩ := hacc.2 k _ (Array.getElem?_eq_getElem hk2)
    rw [Array.getElem?_eq_getElem hk2, he, hev]
    rfl
   ·rw [Array.getElem?_eq_none (by rw [hacc.1]; exact q), Array.getElem?_eq_none q]
    rfl
 refine wpAny_ite_split (fun ι => ?_) (fun ι => wpAny_pure ⟨plainId_quiet PySem.F.plain_extend_loop _, key s₁ c₀ S₁ (Kp.refl _ _) rfl I₁ hD₁⟩)
 refine wpAny_bind (wpAny_rule ?_)
 refine wpAny_bind ?_
 show wpAny _ _ (updateSeq D (·.push .none) >>= fun ι => updateSeq D (·.pop)) _ _ _
 refine wpAny_bind (wpAny_updateSeq (hz := by rw [sizeLine_eq]; simp) hD₁ rfl ?_)
 have z₂ := S₁.upd (x := D) (f := Obj.mapSeq (·.push Value.none)) s₁.toks bD lD
 have hD₂ := Heap.get?_update_self (Obj.mapSeq (·.push Value.none)) hD₁ rfl
 refine wpAny_updateSeq (hz := by simp [sizeLine_eq]) hD₂ rfl ?_
 have z₃ := z₂.1.upd (x := D) (f := Obj.mapSeq (·.pop)) s₁.toks bD lD
 have hD3 := Heap.get?_update_self (Obj.mapSeq (·.pop)) hD₂ rfl
 refine wpAny_pure ⟨plainId_quiet PySem.F.plain_extend_loop _, key _ _ z₃.1 (z₂.2.trans z₃.2 ((fun ι h => h)) (fun ι q => .inl q)) rfl ?_ hD3⟩
 refine W.frame 0 _ _ I₁ fun b hb o e => ?_
 have hbS : b ≠ D := fun h => by
  subst h
  simp only [List.mem_cons, List.not_mem_nil, or_false] at hb
  rcases hb with q | q | q
  ·exact Dit q
  ·exact hDa q
  ·exact DT q
 exact (Heap.get?_update_other _ _ (Ne.symm hbS)).trans ((Heap.get?_update_other _ _ (Ne.symm hbS)).trans e)
theorem set_collect {R : List Value → Shared → Prop} (hh : A.handled = none) (S : Sit w mg mb b₀ s) (x : SetI w b₀ s.heap a ks) (hk : ks.length ≤ 1000)
  (h : ∀ s' vis, Sit w mg mb b₀ s' → Kp [] s s' → EsAre vis ks → s'.gens = s.gens → R (vis.map (·.2)) s') : wpAny (model PW w) A (collect (.ref a)) R E s := by
 obtain ⟨ba, la, nd, es, ep, t, ha, hes, g⟩ := id x
 unfold collect
 refine wpAny_bind (wpAny_runValue (codeAny_builtin entry_proto_collect' ?_))
 rw [Around.under_plainId PySem.F.plain_proto_collect _]
 show wpAny _ A.in1 (newList [] >>= fun l => again (.builtin "list.__iadd__" ⟨[l, .ref a], []⟩)) _ _ s
 refine wpAny_bind (wpAny_newObj_type ?_)
 refine wpAny_pure ⟨plainId_quiet PySem.F.plain_list_iadd _, codeAny_builtin entry_list_iadd' ?_⟩
 rw [Around.under_plainId PySem.F.plain_list_iadd _]
 have z₁ := S.push (o := lstO ([] : List Value).toArray 0) (t := s.toks)
 have aD : s.heap.objs.size ≠ a := Nat.ne_of_gt (Heap.lt_size ha)
 show wpAny _ A.in1 (Builtin.List.listExtendWith (.ref s.heap.objs.size) (.ref a) (.ref s.heap.objs.size)) _ _ _
 have key := set_extend (A := A) (D := s.heap.objs.size) (c₀ := 0) (R := fun q s' => ∃ vis acc c', q = .ok (.ret (.ref s.heap.objs.size)) ∧ Sit w mg mb b₀ s' ∧ Kp [] s s' ∧ EsAre vis ks ∧ s'.heap.get? s.heap.objs.size = some (lstO acc c') ∧ acc.toList = vis.map (·.2) ∧ s'.gens = s.gens)
  hh z₁.1 (x.kp S z₁.2 List.not_mem_nil) hk aD (Heap.get?_push_size _ rfl) S.fresh S.lt fun s' vis acc c' S' k' hv hD ha g' => ⟨vis, acc, c', rfl, S', z₁.2.trans k' (List.forall_mem_nil _) (al1 (.inr (get_size _))), hv, hD, ha, g'⟩
 refine wpAny_mono key (fun fin s' x => ?_) fun e s' x => ?_
 ·cases fin with
  | done f =>
   obtain ⟨vis, acc, c', e, S', k', hv, hD, hacc, g'⟩ := x
   cases e
   show wpAny _ A (load s.heap.objs.size >>= _) _ _ _
   refine wpAny_bind (wpAny_load hD (wpAny_pure ?_))
   have := h s' vis S' k' hv g'
   rw [← hacc] at this
   exact this
  | again c₁ =>
   refine ⟨x.1, codeAny_mono x.2 fun q s₂ y => ?_⟩
   obtain ⟨vis, acc, c', rfl, S', k', hv, hD, hacc, g'⟩ := y
   show wpAny _ A (load s.heap.objs.size >>= _) _ _ _
   refine wpAny_bind (wpAny_load hD (wpAny_pure ?_))
   have := h s₂ vis S' k' hv g'
   rw [← hacc] at this
   exact this
 ·obtain ⟨_, _, _, e', _⟩ := x
  cases e'
theorem ints_vals : ∀ (tks : List (Nat × Tok)), IntsAre (tks.map fun p => Value.int (p.1 : Int) p.2) (tks.map fun p => (p.1 : Int))
 | [] => .nil
 | p :: r => .cons _ _ (ints_vals r)
theorem EsAre.vals {l : List (Int × Value)} (x : EsAre l ks) : ∃ ns : List Nat, ns.Perm ks ∧ IntsAre (l.map (·.2)) (ns.map fun (n : Nat) => (n : Int)) := by
 obtain ⟨tks, p, e⟩ := x
 have each : ∀ l' : List (Int × Value), (∀ e ∈ l', ∃ q : Nat × Tok, e = (hashInt (q.1 : Int), Value.int (q.1 : Int) q.2)) → ∃ tk2 : List (Nat × Tok), l' = tk2.map fun p => (hashInt (p.1 : Int), Value.int (p.1 : Int) p.2) := by
  intro l'
  induction l' with
  | nil => intro _; exact ⟨[], rfl⟩
  | cons e r ih =>
   intro h
   obtain ⟨q, hq⟩ := h e (List.mem_cons_self ..)
   obtain ⟨t2, h2⟩ := ih fun e' he' => h e' (List.mem_cons_of_mem _ he')
   exact ⟨q :: t2, by rw [h2, hq]; rfl⟩
 obtain ⟨tk2, e2⟩ := each l fun e' he' => by
  obtain ⟨q, _, rfl⟩ := List.mem_map.mp (p.mem_iff.mp he')
  exact ⟨q, rfl⟩
 refine ⟨tk2.map (·.1), ?_, ?_⟩
 ·subst e2
  rw [← e]
  have := p.map (fun e => e.2)
  have f : Value → Nat := fun v => match v with | .int n _ => n.toNat | _ => 0
  have key : ∀ tk : List (Nat × Tok), (tk.map fun p => (hashInt (p.1 : Int), Value.int (p.1 : Int) p.2)).map (fun e : Int × Value => match e.2 with | .int n _ => n.toNat | _ => 0) = tk.map (·.1) := fun tk => by
   rw [List.map_map]
   apply List.map_congr_left
   intro q _
   simp
  have h2 := p.map (fun e : Int × Value => match e.2 with | .int n _ => n.toNat | _ => 0)
  rw [key, key] at h2
  exact h2
 ·subst e2
  rw [List.map_map, List.map_map]
  exact ints_vals tk2
theorem set_sorted {Q : VP} (hh : A.handled = none) (S : Sit w mg mb b₀ s) (x : SetI w b₀ s.heap a ks) (hk : ks.length < 64)
  (h : ∀ s' D vs c (ns : List Int), Sit w mg mb b₀ s' → Kp [] s s' → s'.heap.get? D = some (lstO vs c) → IntsAre vs.toList ns → ns.Perm (ks.map fun (n : Nat) => (n : Int)) → ns.Pairwise (· ≤ ·) → s.heap.get? D = none → b₀.get? D = none → @LT.lt Nat _ 154 D → Q (.ref D) s') : wpAny (model PW w) A (call (.builtin "sorted") [.ref a]) Q E s := by
 refine Calls.call_function_entry kind_sorted plain_sorted entry_sorted (args_sorted1 _) ?_
 unfold Builtin.«sorted»
 refine wpAny_bind (m := checkCount "sorted" 1 1 _) (wpAny_pure ?_)
 refine wpAny_bind (set_collect (A := A.in1) hh S x (by lia) fun s₁ vis S₁ k₁ hv g₁ => ?_)
 obtain ⟨ns, hp, hi⟩ := hv.vals
 have hvl := hv.len
 refine wpAny_bind (wpAny_newList ?_ (by rw [List.length_map, sizeLine_eq]; lia))
 have z₂ := S₁.push (o := lstO (vis.map (·.2)).toArray 0) (t := s₁.toks)
 have hoL : (s₁.heap.push (lstO (vis.map (·.2)).toArray 0)).get? s₁.heap.objs.size = some (seqObj "list" (vis.map (·.2)).toArray 0) := Heap.get?_push_size _ rfl
 have fD : s.heap.get? s₁.heap.objs.size = none := k₁.none_of (get_size _) S₁.lt
 refine wpAny_bind (wpAny_holding (wpAny_call_entry slot_list_sort ⟨_, hoL, rfl⟩ entry_list_sort (list_sort_tree hoL hi (by rw [List.length_map]; lia) fun out ns' a1 a2 a3 => ⟨_, rfl, ?_⟩) (args_list_sort _)))
 obtain ⟨e, he⟩ := sortedHeap_at (out := out) hoL
 have zS := z₂.1.by (s' := { s₁ with heap := sortedHeap (s₁.heap.push (lstO (vis.map (·.2)).toArray 0)) s₁.heap.objs.size (vis.map (·.2)) out }) (U := [s₁.heap.objs.size]) (al1 S₁.fresh) (by simp only [List.mem_singleton]; exact Nat.ne_of_lt (Nat.lt_trans (by decide) S₁.lt)) (by simp only [List.mem_singleton]; exact Nat.ne_of_lt S₁.lt)
  (fun b o hb e => (sortedHeap_old (by simpa using hb) (Heap.lt_size e)).trans e) rfl rfl
 refine wpAny_pure ⟨_, rfl, h _ s₁.heap.objs.size out e ns' zS.1 ((k₁.trans (z₂.2.trans zS.2 (W := [s₁.heap.objs.size]) (List.forall_mem_nil _) (fun ι q => .inl q)) (W := []) (List.forall_mem_nil _) fun v hv => .inr ?_)) he a1 (a2.trans (hp.map _)) a3 fD S₁.fresh S₁.lt⟩
 rw [List.mem_singleton.mp hv]; exact fD
end
end Mine
namespace Mine
noncomputable def addk (ks : List Nat) (k : Nat) : List Nat := if k ∈ ks then ks else ks ++ [k]
section
variable {w : World} {mg mb : NM} {b₀ : Heap} {s₀ s₂ s4 s s' : Shared} {A : Around} {E : VP} {L C D I l : Addr} {U V : List Addr} {m : NM} {env : Env} {R : Result → Shared → Prop}
theorem compTurn_set (elt target iter : Expr) (scope : Scope) (pos : Pos) (it acc : Value) (env : Env) :
  compTurn (.SetComp elt [⟨target, iter, [], 0⟩] scope pos) 0 it acc env = (do
   standAt iter.pos
   match ← pyNext it with
   | none => pure (.done .next)
   | some v =>
    letOwnedTupleGo target it v
    assign target env v
    let mut ok := true
    for c in [] do
     if ok then ok ← isTrue c env (eval c env)
    if ok then
     (do let v ← eval elt env; standAt elt.pos; let _ ← call (.builtin "set.add") [acc, v])
    again (.compLoop (.SetComp elt [⟨target, iter, [], 0⟩] scope pos) 0 it acc env)) := by rfl
theorem setcomp_any {elt target iter : Expr} {scope : Scope} {pos : Pos} {it acc : Value} (I : Nat → Shared → Prop)
  (turn : ∀ n s, I n s → wpAny (model PW w) A (pyNext it) (fun r s₁ => match r with
   | none => R (.ok .next) s₁
   | some v => wpAny (model PW w) A (letOwnedTupleGo target it v) (fun ι t₁ => wpAny (model PW w) A (assign target env v) (fun ι s3 =>
      wpAny (model PW w) A (eval elt env) (fun x s4 => wpAny (model PW w) A (call (.builtin "set.add") [acc, x]) (fun ι s5 => ∃ m, m < n ∧ I m s5) (fun ι ι => False) s4) (fun ι ι => False) s3) (fun ι ι => False) t₁) (fun ι ι => False) s₁) (fun ι ι => False) s)
  (n : Nat) (h : I n s) : codeAny (model PW w) A (.compLoop (.SetComp elt [⟨target, iter, [], 0⟩] scope pos) 0 it acc env) R s := by
 refine codeAny_loop rfl I (fun n s hI => ?_) n h
 show wpAny _ A ((compTurn (.SetComp elt [⟨target, iter, [], 0⟩] scope pos) 0 it acc env).onRaise (fun x => do noteFrame x env; theTreesLotGoes x)) _ _ s
 refine wpAny_noted ?_
 rw [compTurn_set]
 refine wpAny_bind (wpAny_standAt (wpAny_bind (wpAny_mono (turn n s hI) (fun r s₁ h₁ => ?_) fun ι ι h' => h'.elim)))
 cases r with
 | none => exact wpAny_pure h₁
 | some v =>
  refine wpAny_bind (wpAny_mono h₁ (fun ι t₁ h₁ => wpAny_bind (wpAny_mono h₁ (fun ι s3 h₃ => ?_) fun ι ι h' => h'.elim)) fun ι ι h' => h'.elim)
  refine wpAny_bind (wpAny_tests_nil ?_)
  exact wpAny_bind (wpAny_bind (wpAny_mono h₃ (fun x s4 h₄ => wpAny_bind (wpAny_standAt (wpAny_bind (wpAny_mono h₄ (fun ι s5 h₅ => wpAny_pure (wpAny_pure ⟨rfl, h₅⟩)) fun ι ι h' => h'.elim)))) fun ι ι h' => h'.elim))
theorem compStart_set {elt target iter : Expr} {scope : Scope} {pos : Pos} {it acc : Value} 
  (h0 : codeAny (model PW w) A (.compLoop (.SetComp elt [⟨target, iter, [], 0⟩] scope pos) 0 it acc env) R s)
  (h : wpAny (model PW w) A (pyIter it) (fun it' s' => codeAny (model PW w) A (.compLoop (.SetComp elt [⟨target, iter, [], 0⟩] scope pos) 0 it' acc env) R s') (fun ι ι => False) s) :
  codeAny (model PW w) A (.compStart (.SetComp elt [⟨target, iter, [], 0⟩] scope pos) 0 it acc env) R s := by
 refine codeAny_of_tree ?_
 show wpAny _ _ ((compStart (.SetComp elt [⟨target, iter, [], 0⟩] scope pos) 0 it acc env).onRaise (fun x => do noteFrame x env; standAt theWindowsPlace)) _ _ s
 refine wpAny_notedAt ?_
 unfold compStart
 show wpAny _ _ (ask >>= _) _ _ s
 refine wpAny_bind (wpAny_askSetting (wpAny_ite ?_))
 split
 ·first
   | exact wpAny_bind (wpAny_pure (wpAny_pure (And.intro rfl h0)))
   | exact wpAny_pure (And.intro rfl h0)
 ·refine wpAny_bind (wpAny_rule ?_)
  show wpAny _ _ (standAt iter.pos >>= _) _ _ s
  exact wpAny_bind (wpAny_standAt (wpAny_bind (wpAny_mono h (fun it' s' h' => wpAny_pure (And.intro rfl h')) fun ι ι x => x.elim)))
theorem addk_len (ks : List Nat) (k : Nat) : (addk ks k).length ≤ ks.length + 1 := by
 unfold addk; split <;> simp
theorem foldk_len : ∀ (l ks : List Nat), (l.foldl addk ks).length ≤ ks.length + l.length
 | [], ks => (Nat.le_refl _)
 | k :: l, ks => by
  have h1 := foldk_len l (addk ks k)
  have h2 := addk_len ks k
  simp only [List.foldl_cons, List.length_cons]
  lia
theorem setcomp_eval {elt iter : Expr} {x : Str} {px pos : Pos} {scope : Scope} {ns : List Nat} {Q : VP}
  (hfree : ∀ y ∈ scope.names, y.2 ≠ .free) (hcell : ∀ y ∈ scope.names, y.2 ≠ .cell) (hkind : scope.kind = .function) (hnames : ∀ y ∈ scope.names, y.2 = .local → scope.names.lookup y.1 = some .local) (hh : A.handled = none)
  (h : wpAny (model PW w) A (eval iter env) (fun xv s₁ => ∃ (l : Addr) (items : Array Value) (kk : Nat) (U : List Addr) (L : Addr) (m : NM), xv = .ref l ∧ Body w mg mb b₀ s₀ U L m s₁ ∧ s₁.heap.get? l = some (lstO items kk) ∧ items.size = ns.length ∧ ns.length ≤ 900 ∧
   (∀ (C : Addr) (i : Nat) (v : Value) (n : Nat) (s' : Shared) (m' : NM) (V : List Addr), items[i]? = some v → ns[i]? = some n → Body w mg mb b₀ s₁ V C m' s' → m' x = some v → wpAny (model PW w) A (eval elt (compEnvC scope [] C env)) (fun y s3 => Sit w mg mb b₀ s3 ∧ Kp [] s' s3 ∧ ∃ t, y = .int (n : Int) t) (fun ι ι => False) s') ∧
   ∀ s' a, Sit w mg mb b₀ s' → Kp [] s₁ s' → SetI w b₀ s'.heap a (ns.foldl addk []) → s₁.heap.get? a = none → Q (.ref a) s') E s)
  (hs : autoParam (∀ x, foldedSetIterable iter env x = pure x) tI) (hx : autoParam (scope.names.lookup x = some .local) tR) : wpAny (model PW w) A (eval (.SetComp elt [⟨.Name x px, iter, [], 0⟩] scope pos) env) Q E s := by
 rw [arm_eval_SetComp]
 refine wpAny_comprehension_free (use := none) rfl hs (closureFor_none hfree) hkind hnames (wpAny_mono h (fun xv s₁ h₁ => cutQ fun Q0 h₀ => ?_) fun ι ι e => e)
 obtain ⟨l, items, kk, U, L, m, rfl, B, hl, hsz, hn, turn, hQ⟩ := h₁
 refine iter_new B hl fun s₂ I B2 k₂ hI2 hl₂ fI bI lI nI fU g₂ up₂ self2 => h₀ _ _ ?_
 refine set_new B2.S fun s3 D S3 k₃ x₃ fD g₃ up3 => ?_
 refine wpAny_newFunctionEnv hcell (by intro y hy; simp at hy) (fun h₁ hns1 hsb1 => ?_) hkind
 have fD1 : s₁.heap.get? D = none := k₂.none_of fD x₃.la
 have up₁ : ∀ b o, s3.heap.get? b = some o → h₁.get? b = some o := fun b o e => hsb1.extBut b o (Nat.ne_of_lt (Heap.lt_size e)) (Heap.get?_push_of_some _ e)
 have z₄ := S3.grow (h' := h₁) (t := s3.toks + ([] : List (Str × Value)).length) up₁
 have fC1 : s₁.heap.get? s3.heap.objs.size = none := (k₂.trans k₃ (W := []) (List.forall_mem_nil _) (List.forall_mem_nil _)).none_of (get_size _) S3.lt
 have DC : D ≠ s3.heap.objs.size := by obtain ⟨_, _, _, es, ep, t, e, _⟩ := x₃; exact Nat.ne_of_lt (Heap.lt_size e)
 have B4 : Body w mg mb b₀ s₁ [] s3.heap.objs.size (fun ι => none) { s3 with heap := h₁, toks := s3.toks + ([] : List (Str × Value)).length } :=
  ⟨z₄.1, (k₂.trans (k₃.trans z₄.2 (W := []) (List.forall_mem_nil _) (List.forall_mem_nil _)) (W := []) (List.forall_mem_nil _) (List.forall_mem_nil _)), hns1, fC1, S3.fresh, S3.lt⟩
 have x₄ := x₃.kp S3 z₄.2 List.not_mem_nil
 obtain ⟨oI, eI, hcI, hdI⟩ := id hI2
 have ic : oI.cls ≠ .none := by rw [hcI]; decide
 have eI4 : h₁.get? I = some oI := up₁ _ _ (up3 _ _ eI)
 have hl4 : h₁.get? l = some (lstO items kk) := up₁ _ _ (up3 _ _ hl₂)
 have lI' : l ≠ I := fun q => by rw [q, fI] at hl; cases hl
 have ID : I ≠ D := fun q => by rw [q, fD] at eI; cases eI
 have lD : l ≠ D := fun q => by rw [q, fD1] at hl; cases hl
 have IC : I ≠ s3.heap.objs.size := Nat.ne_of_lt (Heap.lt_size (up3 _ _ eI))
 have lC : l ≠ s3.heap.objs.size := Nat.ne_of_lt (Heap.lt_size (up3 _ _ hl₂))
 have W := Walks.lst (w := w) (A := A) (l := l) (I := I) hh items lI'
 have hxk : (compEnvC scope [] s3.heap.objs.size env).kindOf x = some .local := lookup_relabel_local hx
 have loop : ∀ sS : Shared, sS = { s3 with heap := h₁, toks := s3.toks + ([] : List (Str × Value)).length } → codeAny (model PW w) A (.compLoop (.SetComp elt [⟨.Name x px, iter, [], 0⟩] scope pos) 0 (.ref I) (.ref D) (compEnvC scope [] s3.heap.objs.size env)) (compPost (model PW w) A E none Q (.ref D) s3.heap.objs.size) sS := by
  intro sS eS
  have B4 : Body w mg mb b₀ s₁ [] s3.heap.objs.size (fun ι => none) sS := by rw [eS]; exact B4
  have x₄ : SetI w b₀ sS.heap D ((ns.take 0).foldl addk []) := by rw [eS]; exact x₄
  have I4 : sS.heap.IsListIter I l 0 := by rw [eS]; exact ⟨oI, eI4, hcI, hdI⟩
  have l4 : sS.heap.get? l = some (lstO items kk) := by rw [eS]; exact hl4
  clear eS
  generalize s3.heap.objs.size = C at *
  refine setcomp_any (fun n s' => ∃ i m', n = items.size + 1 - i ∧ i ≤ items.size ∧ Body w mg mb b₀ s₁ [] C m' s' ∧ SetI w b₀ s'.heap D ((ns.take i).foldl addk []) ∧ s'.heap.IsListIter I l i ∧ s'.heap.get? l = some (lstO items kk)) ?_ (items.size + 1)
   ⟨0, _, rfl, Nat.zero_le _, B4, x₄, I4, l4⟩
  rintro n s' ⟨i, m', rfl, hi, B, xD, hIi, hl'⟩
  have stepI : ∀ {h' : Heap} (tk : Nat), (∀ b o, b ∉ [I] → s'.heap.get? b = some o → h'.get? b = some o) → Sit w mg mb b₀ { s' with heap := h', toks := tk } ∧ Kp [I] s' { s' with heap := h', toks := tk } := fun tk k =>
   B.S.by (al1 bI) (by simp only [List.mem_singleton]; exact Nat.ne_of_lt (Nat.lt_trans (by decide) lI)) (by simp only [List.mem_singleton]; exact Nat.ne_of_lt lI) k rfl rfl
  rcases Nat.lt_or_ge i items.size with hlt | hge
  ·refine W.item i s' _ _ hlt ⟨hIi, ⟨_, hl', rfl, _, rfl⟩⟩ fun v h' tk hv hSt hk => ?_
   have z := stepI tk hk
   have B1 := B.step z.1 z.2 (al1 (.inr fI)) (not_in (Ne.symm IC))
   have x₁ := xD.kp B.S z.2 (not_in (Ne.symm ID))
   have l₁ := z.2.lstO B.S hl' (not_in lI')
   obtain ⟨⟨o, e₁, hc, hd'⟩, _⟩ := hSt
   have ic : o.cls ≠ .none := by rw [hc]; decide
   refine wpAny_of_eq rfl ?_
   refine wpAny_assign_Name (B1.st (fun s5 B5 k₅ => ?_) rfl hxk (by show (scope.kind == .class || (scope.kind == .module && _)) = false; rw [hkind]; rfl))
   have x₅ := x₁.kp z.1 k₅ (not_in DC)
   have e₅ := k₅.get z.1 e₁ (not_in IC) ic
   have l5 := k₅.lstO z.1 l₁ (not_in lC)
   have hin : i < ns.length := by lia
   refine wpAny_mono (turn _ i v ns[i] s5 _ _ hv (List.getElem?_eq_getElem hin) B5 (if_pos rfl)) (fun y s6 h₆ => ?_) fun ι ι z => z
   obtain ⟨S6, k₆, t, rfl⟩ := h₆
   have B6 := B5.step0 ⟨S6, k₆⟩
   have x₆ := x₅.kp B5.S k₆ List.not_mem_nil
   have e₆ := k₆.get B5.S e₅ List.not_mem_nil ic
   have l6 := k₆.lstO B5.S l5 List.not_mem_nil
   have hlen := foldk_len (ns.take i) []
   rw [List.length_take] at hlen
   simp only [List.length_nil] at hlen
   refine set_addI S6 x₆ (by lia) fun s7 S7 k7 x₇ g7 => ?_
   refine ⟨items.size + 1 - (i + 1), sub_dec hlt, i + 1, _, rfl, hlt, B6.step S7 k7 (al1 (.inr fD1)) (not_in (Ne.symm DC)), ?_, ⟨o, k7.get S6 e₆ (not_in ID) ic, hc, hd'⟩, k7.lstO S6 l6 (not_in lD)⟩
   rw [List.take_succ_eq_append_getElem hin, List.foldl_append]
   exact x₇
  ·have : i = items.size := (Nat.le_antisymm ‹_› ‹_›)
   subst this
   refine W.done s' _ _ ⟨hIi, ⟨_, hl', rfl, _, rfl⟩⟩ fun h' tk hk => ?_
   have z := stepI tk hk
   have B1 := B.step z.1 z.2 (al1 (.inr fI)) (not_in (Ne.symm IC))
   have x₁ := xD.kp B.S z.2 (not_in (Ne.symm ID))
   rw [hsz, List.take_length] at x₁
   refine ⟨m', B1.ns, fun h'' hs'' => ?_⟩
   have d := B1.drop hs''
   have z2 := z.1.same tk hs'' B1.b B1.lt
   exact hQ _ D d.1 d.2 (x₁.kp z.1 z2.2 (not_in DC)) fD1
 exact compStart_set (loop _ rfl) (self2 _ _ _ (fun b o e => up₁ b o (up3 b o e)) (loop _ rfl))
end
end Mine
namespace Mine
section
variable {w : World} {mg mb : NM} {b₀ : Heap} {s₀ s s' : Shared} {A : Around} {E : VP} {l b : Addr}
theorem fill_list_iadd : fillsInplaceSlot (.type "list") "add" (Operator.Add == .Add) = pure false := by
 unfold fillsInplaceSlot
 show (typeLookup (.type "list") (dunderI "add") >>= fun fi => pure (fi.isSome && !isSeqSlot fi)) = pure false
 rw [PySem.F.slot_list_iadd.lookup]
 rfl
theorem seq_list_iadd : seqSlot? (.type "list") (dunderI "add") = pure (some (.builtin "list.__iadd__")) := PySem.seqSlot_of PySem.F.slot_list_iadd.lookup (by decide +kernel)
theorem lst_iadd {its its2 : Array Value} {k k2 : Nat} {Q : VP} (S : Sit w mg mb b₀ s) (bl : b₀.get? l = none) (ll : @LT.lt Nat _ 154 l) (hl : s.heap.get? l = some (lstO its k)) (hb : s.heap.get? b = some (lstO its2 k2)) (hz : its.size + its2.size ≤ 100000)
  (h : ∀ s' k', Sit w mg mb b₀ s' → Kp [l] s s' → s'.heap.get? l = some (lstO (its ++ its2) k') → Q (.ref l) s') : wpAny (model PW w) A (inplaceOp .Add (.ref l) (.ref b)) Q E s := by
 have hT : s.TypeIs (.ref l) "list" := ⟨_, hl, rfl⟩
 have hU : s.TypeIs (.ref b) "list" := ⟨_, hb, rfl⟩
 unfold inplaceOp
 refine wpAny_holding (wpAny_bind (wpAny_typeOf hT (wpAny_bind (wpAny_of_eq fill_list_iadd ?_))))
 show wpAny (model PW w) A (if false = true then _ else _) Q E s
 refine wp_f Bool.false_ne_true ?_
 refine wpAny_bind (wpAny_binaryOp1_none (nm := "add") hT hU noFill_list_add ?_)
 refine wpAny_bind (wpAny_of_eq seq_list_iadd ?_)
 refine wpAny_bind (wpAny_rule ?_)
 have z := S.upd (x := l) (f := Obj.mapSeq fun x => x ++ its2) s.toks bl ll
 have hn := Heap.get?_update_self (Obj.mapSeq fun x => x ++ its2) hl (by rfl)
 obtain ⟨k', ek⟩ : ∃ k', Obj.mapSeq (fun x => x ++ its2) (lstO its k) = lstO (its ++ its2) k' := ⟨_, rfl⟩
 rw [ek] at hn
 refine call_meets PySem.F.slot_list_iadd hT PySem.F.entry_list_iadd (PySem.F.args_list_iadd_2 _ _) (AutoSeq1.list___iadd___list_list_0 l its k b its2 k2 (by simp [Builtin.List.listTooLong, sizeLine_eq]; lia) (by rw [sizeLine_eq]; lia) (by rw [sizeLine_eq]; lia)) ⟨hl, hb, ?_⟩
 exact h _ k' z.1 z.2 hn
theorem bag_iadd {ns ms : List Nat} {Q : VP} (S : Sit w mg mb b₀ s) (x : BagOn b₀ s.heap l ns) (y : BagOn b₀ s.heap b ms) (hz : ns.length + ms.length ≤ 100000)
  (h : ∀ s', Sit w mg mb b₀ s' → Kp [l] s s' → BagOn b₀ s'.heap l (ns ++ ms) → Q (.ref l) s') : wpAny (model PW w) A (inplaceOp .Add (.ref l) (.ref b)) Q E s := by
 obtain ⟨bl, ll, vs, k, hl, hv, hv2⟩ := x
 obtain ⟨_, _, us, k2, hb, hu, hu2⟩ := y
 refine lst_iadd S bl ll hl hb (by lia) fun s' k' S' kp e => h s' S' kp ⟨bl, ll, vs ++ us, k', e, by simp [hv, hu], fun i n hn => ?_⟩
 rcases Nat.lt_or_ge i ns.length with q | q
 ·rw [List.getElem?_append_left q] at hn
  rw [Array.getElem?_append_left (by lia)]
  exact hv2 i n hn
 ·rw [List.getElem?_append_right q] at hn
  rw [Array.getElem?_append_right (by lia), hv]
  exact hu2 _ n hn
end
noncomputable def unitOf (base : Nat) : Nat → Nat → Nat
 | 0, u => u
 | f + 1, u => if u % base = 0 then unitOf base f (u / base) else u
noncomputable def sortU (ns : List Nat) : List Nat := (List.range 64).filter (fun k => decide (k ∈ ns))
theorem unitOf_s {base f u : Nat} : unitOf base (f + 1) u = if u % base = 0 then unitOf base f (u / base) else u := rfl
set_option tactic.hygienic true in
theorem unitOf_spec {base : Nat} (hb : 2 ≤ base) : ∀ (f u : Nat), 1 ≤ u → u ≤ f → 1 ≤ unitOf base f u ∧ unitOf base f u ∣ u ∧ ¬ unitOf base f u % base = 0
 | 0, u, h1, h2 => absurd h1 (by lia)
 | f + 1, u, h1, h2 => by
  rw [unitOf_s]
  split
  ·rename_i hm
   have hd : u = base * (u / base) := by have := Nat.div_add_mod u base; lia
   have hq : 1 ≤ u / base := by
    rcases Nat.eq_zero_or_pos (u / base) with q | q
    ·rw [q] at hd; lia
    ·exact q
   have hlt : u / base < u := Nat.div_lt_self ‹_› ‹_›
   obtain ⟨a1, a2, a3⟩ := unitOf_spec hb f (u / base) hq (by lia)
   exact ⟨a1, Nat.dvd_trans a2 ⟨base, by rw [Nat.mul_comm]; exact hd⟩, a3⟩
  ·exact ⟨h1, Nat.dvd_refl _, by assumption⟩
theorem unitOf_step {base f u : Nat} (h : u % base = 0) : unitOf base (f + 1) u = unitOf base f (u / base) := by
 rw [unitOf_s, if_pos h]
theorem sorted_unique : ∀ (l l' : List Int), l.Perm l' → l.Pairwise (· ≤ ·) → l'.Pairwise (· ≤ ·) → l = l'
 | [], l', p, _, _ => by rw [List.nil_perm] at p; exact p.symm
 | a :: l, [], p, _, _ => by rw [List.perm_nil] at p; exact p
 | a :: l, b :: l', p, h, h' => by
  rw [List.pairwise_cons] at h h'
  have hab : a = b := by
   have h1 : a ∈ b :: l' := p.mem_iff.mp (List.mem_cons_self ..)
   have h2 : b ∈ a :: l := p.mem_iff.mpr (List.mem_cons_self ..)
   rcases List.mem_cons.mp h1 with q | q
   ·exact q
   ·rcases List.mem_cons.mp h2 with r | r
    ·exact r.symm
    ·exact Int.le_antisymm (h.1 b r) (h'.1 a q)
  subst hab
  rw [sorted_unique l l' (List.Perm.cons_inv p) h.2 h'.2]
set_option tactic.hygienic true in
theorem foldk_nodup : ∀ (l ks : List Nat), ks.Nodup → (l.foldl addk ks).Nodup ∧ ∀ x, x ∈ l.foldl addk ks ↔ x ∈ ks ∨ x ∈ l
 | [], ks, h => ⟨h, fun x => by simp⟩
 | k :: l, ks, h => by
  have hk : (addk ks k).Nodup ∧ ∀ x, x ∈ addk ks k ↔ x ∈ ks ∨ x = k := by
   unfold addk
   split
   ·rename_i hm
    exact ⟨h, fun x => ⟨.inl, fun q => by rcases q with q | rfl; exact q; exact hm⟩⟩
   ·rename_i hm
    refine ⟨?_, fun x => by simp⟩
    rw [List.nodup_append]
    exact ⟨h, (List.pairwise_singleton ..), fun a ha b hb => by rw [List.mem_singleton.mp hb]; exact fun q => hm (q ▸ ha)⟩
  obtain ⟨a1, a2⟩ := foldk_nodup l (addk ks k) hk.1
  refine ⟨a1, fun x => ?_⟩
  rw [List.foldl_cons, a2, hk.2, List.mem_cons]
  constructor
  ·rintro ((q | q) | q)
   ·exact .inl q
   ·exact .inr (.inl q)
   ·exact .inr (.inr q)
  ·rintro (q | q | q)
   ·exact .inl (.inl q)
   ·exact .inl (.inr q)
   ·exact .inr q
theorem nodup_perm {l l' : List Nat} (h : l.Nodup) (h' : l'.Nodup) (hm : ∀ x, x ∈ l ↔ x ∈ l') : l.Perm l' := by
 rw [List.perm_iff_count]
 intro a
 rw [List.Nodup.count h, List.Nodup.count h']
 simp [hm a]
theorem sortU_spec {ns : List Nat} (h : ∀ x ∈ ns, x < 64) : (sortU ns).Perm (ns.foldl addk []) ∧ (sortU ns).Pairwise (· < ·) := by
 have hp : (sortU ns).Pairwise (· < ·) := List.Pairwise.filter _ List.pairwise_lt_range
 obtain ⟨a1, a2⟩ := foldk_nodup ns [] List.nodup_nil
 refine ⟨nodup_perm (hp.imp (fun h => Nat.ne_of_lt h)) a1 fun x => ?_, hp⟩
 rw [a2]
 unfold sortU
 rw [List.mem_filter]
 simp only [List.mem_range, decide_eq_true_eq, List.not_mem_nil, false_or]
 exact ⟨fun q => q.2, fun q => ⟨h x q, q⟩⟩
theorem sortU_ints {ns : List Nat} {is : List Int} (h : ∀ x ∈ ns, x < 64) (hp : is.Perm ((ns.foldl addk []).map fun (n : Nat) => (n : Int))) (hs : is.Pairwise (· ≤ ·)) : is = (sortU ns).map fun (n : Nat) => (n : Int) := by
 obtain ⟨p, q⟩ := sortU_spec h
 refine sorted_unique _ _ (hp.trans (p.map _).symm) hs ?_
 rw [List.pairwise_map]
 exact q.imp fun h => by lia
end Mine
namespace Mine
section
variable {w : World} {A : Around} {E : VP} {s : Shared} {a b : Nat} {za zb : Int} {t u : Tok} {Q : VP}
theorem mod_nat (ha : za = (a : Int)) (hb : zb = (b : Int)) (h0 : b ≠ 0) (h : Q (.int ((a % b : Nat) : Int) s.toks) { s with toks := s.toks + 1 }) : wpAny (model PW w) A (binaryOp .Mod (.int za t) (.int zb u)) Q E s := by
 subst ha hb
 refine PyProof.Rows.mod_int (by lia) ?_
 have e : (a : Int).fmod (b : Int) = ((a % b : Nat) : Int) := by rw [Int.fmod_eq_emod_of_nonneg _ (by lia)]; rfl
 rw [e]; exact h
theorem div_nat (ha : za = (a : Int)) (hb : zb = (b : Int)) (h0 : b ≠ 0) (hs : b ≤ 100000000) (h : Q (.int ((a / b : Nat) : Int) s.toks) { s with toks := s.toks + 1 }) : wpAny (model PW w) A (binaryOp .FloorDiv (.int za t) (.int zb u)) Q E s := by
 subst ha hb
 refine PyProof.Rows.floordiv_int (by lia) ?_ (.inl (PyProof.noPylong_small (Nat.lt_of_le_of_lt ‹_› (by decide))))
 have e : (a : Int).fdiv (b : Int) = ((a / b : Nat) : Int) := by rw [Int.fdiv_eq_ediv_of_nonneg _ (by lia)]; rfl
 rw [e]; exact h
theorem idiv_nat (ha : za = (a : Int)) (hb : zb = (b : Int)) (h0 : b ≠ 0) (hs : b ≤ 100000000) (h : Q (.int ((a / b : Nat) : Int) s.toks) { s with toks := s.toks + 1 }) : wpAny (model PW w) A (inplaceOp .FloorDiv (.int za t) (.int zb u)) Q E s := by
 subst ha hb
 refine PyProof.Rows.ifloordiv_int (by lia) ?_ (.inl (PyProof.noPylong_small (Nat.lt_of_le_of_lt ‹_› (by decide))))
 have e : (a : Int).fdiv (b : Int) = ((a / b : Nat) : Int) := by rw [Int.fdiv_eq_ediv_of_nonneg _ (by lia)]; rfl
 rw [e]; exact h
theorem mul_nat (ha : za = (a : Int)) (hb : zb = (b : Int)) (hs : a ≤ 100000000) (h : Q (.int ((a * b : Nat) : Int) s.toks) { s with toks := s.toks + 1 }) : wpAny (model PW w) A (binaryOp .Mult (.int za t) (.int zb u)) Q E s := by
 subst ha hb
 refine PySem.P.mul_int ?_ (IntMulOk.of_left (intBits_le_64 (by lia) (by lia)))
 have e : (a : Int) * (b : Int) = ((a * b : Nat) : Int) := by push_cast; rfl
 rw [e]; exact h
theorem add_nat (ha : za = (a : Int)) (hb : zb = (b : Int)) (h : Q (.int ((a + b : Nat) : Int) s.toks) { s with toks := s.toks + 1 }) : wpAny (model PW w) A (binaryOp .Add (.int za t) (.int zb u)) Q E s := by
 subst ha hb
 refine wpAny_add_int ?_
 have e : (a : Int) + (b : Int) = ((a + b : Nat) : Int) := by push_cast; rfl
 rw [e]; exact h
theorem iadd_nat (ha : za = (a : Int)) (hb : zb = (b : Int)) (h : Q (.int ((a + b : Nat) : Int) s.toks) { s with toks := s.toks + 1 }) : wpAny (model PW w) A (inplaceOp .Add (.int za t) (.int zb u)) Q E s := by
 subst ha hb
 refine PySem.P.iadd_int ?_
 have e : (a : Int) + (b : Int) = ((a + b : Nat) : Int) := by push_cast; rfl
 rw [e]; exact h
end
end Mine
namespace Mine
section
variable {w : World} {mg mb : NM} {b₀ : Heap} {s₀ s s' : Shared} {A : Around} {r : Addr} {N parts u : Nat} {tb tp t1 t2 : Tok}
theorem cut_zero {Q : VP} (S : Sit w mg mb b₀ s) (R : Rm A 6) (hr : s.heap.IsList r #[.int (u : Nat) t1, .int 0 t2]) (hN : N = parts * u) (hu : 0 < u) (hu2 : u < 127) (hp1 : 1 ≤ parts) (hm : N ≤ 100000)
  (hret : ∀ s' l, Sit w mg mb b₀ s' → Kp [] s s' → BagOn b₀ s'.heap l (List.replicate parts u) → s.heap.get? l = none → Q (.ref l) s') :
  wpAny (model PW w) A (call (.ref 269) [.str (sp N) tb, .ref r, .int (parts : Nat) tp]) Q (fun ι ι => False) s := by
 subst hN
 refine cut_k (ruler := [(u : Int), 0]) (p := 1) S R hr hu hp1 hm (fun i x h => ?_) rfl (fun j ι ι => ?_) (.inl ⟨rfl, Nat.le_refl _⟩) (Nat.le_of_ble_eq_true rfl) (fun i x hi h => ?_) hret
 ·match i, h with
  | 0, h => simp at h; exact ⟨t1, by rw [← h]; rfl⟩
  | 1, h => simp at h; exact ⟨t2, by rw [← h]; rfl⟩
  | i + 2, h => simp at h
 ·unfold gval
  rw [show min (j + 1) 1 - 1 = 0 from Nat.sub_eq_zero_of_le (Nat.min_le_right ..)]
  rfl
 ·have : i = 0 := by lia
  subst this
  simp at h
  subst h
  constructor <;> lia
theorem cut_stop {its : Array Value} {Q : VP} (S : Sit w mg mb b₀ s) (R : Rm A 6) (hr : s.heap.IsList r its) (hi : ∀ i, i < parts - 1 → ∃ t, its[i]? = some (.int (u : Nat) t)) (h127 : ∃ t, its[parts - 1]? = some (.int 127 t)) (h9 : ∃ t, its[parts]? = some (.int 9 t)) (hsz : its.size = parts + 1)
  (hN : N = parts * u) (hu : 0 < u) (hu2 : u < 127) (hp1 : 1 ≤ parts) (hm : N ≤ 100000)
  (hret : ∀ s' l, Sit w mg mb b₀ s' → Kp [] s s' → BagOn b₀ s'.heap l (List.replicate parts u) → s.heap.get? l = none → Q (.ref l) s') :
  wpAny (model PW w) A (call (.ref 269) [.str (sp N) tb, .ref r, .int (parts : Nat) tp]) Q (fun ι ι => False) s := by
 subst hN
 have hlen : (List.replicate (parts - 1) (u : Int)).length = parts - 1 := List.length_replicate
 refine cut_k (ruler := List.replicate (parts - 1) (u : Int) ++ [127, 9]) (p := parts - 1) S R hr hu hp1 hm (fun i x h => ?_) (by simp [hsz]; lia) (fun j hj h => ?_) (.inr ⟨by rw [List.getElem?_append_right (by lia), hlen]; simp, by lia⟩) (by simp) (fun i x hi' h => ?_) hret
 ·rcases Nat.lt_or_ge i (parts - 1) with q | q
  ·rw [List.getElem?_append_left (by lia), List.getElem?_replicate, if_pos q] at h
   cases h; exact hi i q
  ·rw [List.getElem?_append_right (by lia), hlen] at h
   rcases Nat.lt_or_ge (i - (parts - 1)) 1 with q2 | q2
   ·have e : i = parts - 1 := by lia
    subst e
    simp at h; subst h; exact h127
   ·rcases Nat.lt_or_ge (i - (parts - 1)) 2 with q3 | q3
    ·have e : i = parts := by lia
     subst e
     rw [show i - (i - 1) = 1 by lia] at h
     simp at h; subst h; exact h9
    ·rw [List.getElem?_eq_none (by simpa using q3)] at h; cases h
 ·have hjp : j < parts - 1 := by
   rcases h with q | q
   ·exact q
   ·rw [List.getElem?_append_right (by lia), hlen] at q; simp at q
  unfold gval
  rw [show min (j + 1) (parts - 1) - 1 = j from by rw [Nat.min_eq_left (show j + 1 ≤ _ from hjp), Nat.add_sub_cancel], List.getD_eq_getElem?_getD, List.getElem?_append_left (by lia), List.getElem?_replicate, if_pos hjp]
  rfl
 ·rw [List.getElem?_append_left (by lia), List.getElem?_replicate, if_pos hi'] at h
  cases h
  constructor <;> lia
end
end Mine
namespace Mine
noncomputable def tpart (ns : List Nat) (base size : Nat) : List Nat :=
 (List.replicate (ns.count size % base) (List.replicate (size / unitOf base size size) (unitOf base size size))).flatten ++ List.replicate (ns.count size / base) (base * size)
noncomputable def thereL (ns : List Nat) (base : Nat) : List Nat := (sortU ns).flatMap (tpart ns base)
structure Fit (ns : List Nat) (base : Nat) : Prop where
 pos : ∀ x ∈ ns, 1 ≤ x
 sum : ns.sum ≤ 40
 b2 : 2 ≤ base
 b4 : base ≤ 4
theorem len_le_sum : ∀ {l : List Nat}, (∀ x ∈ l, 1 ≤ x) → l.length ≤ l.sum
 | [], _ => (Nat.le_of_ble_eq_true rfl)
 | x :: l, h => by
  have := len_le_sum (l := l) fun y hy => h y (List.mem_cons_of_mem _ hy)
  have h0 := h x (List.mem_cons_self ..)
  simp only [List.sum_cons, List.length_cons]
  lia
set_option tactic.hygienic true in
theorem count_le_sum (x : Nat) : ∀ (l : List Nat), l.count x * x ≤ l.sum
 | [] => by simp
 | y :: l => by
  have := count_le_sum x l
  rw [List.count_cons, List.sum_cons]
  split
  ·rename_i h
   have h' : y = x := by simpa using h
   subst h'
   rw [Nat.succ_mul]; lia
  ·rw [Nat.add_zero]; lia
theorem mem_le_sum : ∀ {l : List Nat} {x : Nat}, x ∈ l → x ≤ l.sum
 | y :: l, x, h => by
  rw [List.sum_cons]
  rcases List.mem_cons.mp h with rfl | h
  ·lia
  ·have := mem_le_sum h; lia
theorem Fit.lt {ns : List Nat} {base : Nat} (f : Fit ns base) : ∀ x ∈ ns, x < 64 := fun x hx => by have := mem_le_sum hx; have := f.sum; lia
theorem Fit.len {ns : List Nat} {base : Nat} (f : Fit ns base) : ns.length ≤ 40 := Nat.le_trans (len_le_sum f.pos) f.sum
theorem Fit.cnt {ns : List Nat} {base : Nat} (f : Fit ns base) {x : Nat} (hx : x ∈ ns) : 1 ≤ ns.count x ∧ ns.count x * (x + 1) ≤ 80 := by
 have h1 := count_le_sum x ns
 have h2 : 1 ≤ ns.count x := List.count_pos_iff.mpr hx
 have h3 : ns.count x ≤ ns.length := List.count_le_length
 have h4 := f.len
 have h5 := f.sum
 refine ⟨h2, ?_⟩
 rw [Nat.mul_add, Nat.mul_one]
 lia
theorem filt_count {l : List Nat} {i k b : Nat} (h : l[i]? = some k) : (l.take (i + 1)).count b = (l.take i).count b + (if k = b then 1 else 0) := by
 rw [List.take_add_one, h, List.count_append]
 by_cases q : k = b
 ·simp [q]
 ·simp [q]
section
variable {w : World} {mg mb : NM} {b₀ : Heap} {s₀ s s' : Shared} {A : Around} {E : VP} {L : Addr} {U : List Addr} {m : NM} {env : Env}
theorem Kp.tr {V : List Addr} {s'' : Shared} (a : Kp V s s') (b : Kp V s' s'') : Kp V s s'' := a.trans b (fun ι h => h) fun ι h => .inl h
theorem Kp.untok {V : List Addr} {t : Nat} (k : Kp V { s with toks := t } s') : Kp V s s' := ⟨k.heap, k.t1, k.t2, k.os⟩
theorem Body.lod {M : Model} {x : Str} {v : Value} {Q : VP} (B : Body w mg mb b₀ s₀ U L m s) (hm : m x = some v) (hQ : Q v s) (hl : autoParam (env.locals = L) tR) (hk : autoParam (env.scope.kind = .function) tR) (hx : autoParam (env.kindOf x = some .local) tR) : wpAny M A (loadName env x) Q E s := wpAny_loadName_local hk hx (hl ▸ B.ns) hm hQ
end
end Mine
namespace Mine
section
variable {w : World} {A : Around} {E : VP} {s : Shared} {a b : Addr} {i j : Array Value} {Q : VP}
theorem ne_lsts {e : Nat → Bool} (hl : s.heap.IsList a i) (hb : s.heap.IsList b j) (hsz : i.size = j.size) (hu : A.units < cLine) (he : ∀ k (h1 : k < i.size) (h2 : k < j.size), SeqAt.EqAt A.in1 s i[k] j[k] (e k)) (h : Q (.bool (!(List.range i.size).all e)) s) : wpAny (model PW w) A (compareOp .NotEq (.ref a) (.ref b)) Q E s :=
 SeqAt.RcNeAt.lists hl hb hsz hu he PW w E Q h
theorem ne_lens (hl : s.heap.IsList a i) (hb : s.heap.IsList b j) (hsz : (i.size != j.size) = true) (hu : A.units < cLine) (h : Q (.bool true) s) : wpAny (model PW w) A (compareOp .NotEq (.ref a) (.ref b)) Q E s :=
 SeqAt.RcNeAt.lists_lengths hl hb hsz hu PW w E Q h
end
end Mine
namespace Mine
noncomputable def upL (base : Nat) : Nat → Nat → Nat → List Nat
 | 0, _, _ => []
 | f + 1, n, sz => if n = 0 then [] else List.replicate (n % base) sz ++ upL base f (n / base) (base * sz)
noncomputable def bpart (ns : List Nat) (base size : Nat) : List Nat :=
 if size % base = 0 then (List.replicate (ns.count size) (List.replicate base (size / base))).flatten else upL base (ns.count size) (ns.count size) size
noncomputable def backL (ns : List Nat) (base : Nat) : List Nat := (sortU ns).flatMap (bpart ns base)
theorem rul_arr (v a b : Value) (k : Nat) : (∀ i, i < k → ((List.replicate k v).toArray ++ #[a, b])[i]? = some v) ∧ ((List.replicate k v).toArray ++ #[a, b])[k]? = some a ∧ ((List.replicate k v).toArray ++ #[a, b])[k + 1]? = some b ∧ ((List.replicate k v).toArray ++ #[a, b]).size = k + 2 := by
 have hs : (List.replicate k v).toArray.size = k := (List.length_replicate ..)
 refine ⟨fun i hi => ?_, ?_, ?_, by simp⟩
 ·rw [Array.getElem?_append_left (by lia)]; simp [hi]
 ·rw [Array.getElem?_append_right (by lia), hs, Nat.sub_self]; rfl
 ·rw [Array.getElem?_append_right (by lia), hs, Nat.add_sub_cancel_left]; rfl
theorem upL_s {base f n sz : Nat} : upL base (f + 1) n sz = if n = 0 then [] else List.replicate (n % base) sz ++ upL base f (n / base) (base * sz) := rfl
theorem upL_len (base : Nat) (hb : 2 ≤ base) : ∀ (f n sz : Nat), (upL base f n sz).length ≤ n
 | 0, n, sz => Nat.zero_le n
 | f + 1, n, sz => by
  rw [upL_s]
  split
  ·exact Nat.zero_le n
  ·have := upL_len base hb f (n / base) (base * sz)
   have h1 := Nat.div_add_mod n base
   have h2 : n / base ≤ base * (n / base) := Nat.le_mul_of_pos_left _ (Nat.le_of_lt ‹_›)
   rw [List.length_append, List.length_replicate]
   lia
theorem rep_foldV (v : Value) : ∀ (n : Nat) (acc : Array Value), (List.replicate n (#[v] : Array Value)).foldl (fun x y => x ++ y) acc = acc ++ (List.replicate n v).toArray
 | 0, acc => rfl
 | n + 1, acc => by
  rw [List.replicate_succ, List.foldl_cons, rep_foldV v n, List.replicate_succ]
  apply Array.ext'
  simp
end Mine
namespace Mine
section
variable {w : World} {mg mb : NM} {b₀ : Heap} {s₀ s s' : Shared} {A : Around} {E : VP} {L : Addr} {U : List Addr} {env : Env}
theorem swap2 {x y : Str} {px py tp vp pos : Pos} {k k' : Nat} {e1 e2 : Expr} {Q : Flow → Shared → Prop} (hh : A.handled = none)
  (h : wpAny (model PW w) A (spliced (backTo vp (starEach [e1, e2] env))) (fun vs s₂ => ∃ v1 v2 m, vs = [v1, v2] ∧ Body w mg mb b₀ s₀ U env.locals m s₂ ∧
   ∀ s', Body w mg mb b₀ s₀ U env.locals (fun z => if z = x then some v1 else if z = y then some v2 else m z) s' → Kp [env.locals] s₂ s' → Q .next s') E s)
  (hs : autoParam (swapsWithSole [.Tuple [.Name x px, .Name y py] k tp] (.Tuple [e1, e2] k' vp) pos.line env = pure false) tR)
  (hw : autoParam (swappedStores [.Tuple [.Name x px, .Name y py] k tp] (.Tuple [e1, e2] k' vp) env = pure (some [x, y])) tR)
  (hx : autoParam (env.kindOf x = some .local) tR) (hy : autoParam (env.kindOf y = some .local) tR) (hp : autoParam ((env.scope.kind == .class || (env.scope.kind == .module && env.locals != env.globals)) = false) tR) :
  wpAny (model PW w) A (exec (.Assign [.Tuple [.Name x px, .Name y py] k tp] (.Tuple [e1, e2] k' vp) pos) env) Q E s := by
 refine PyProof.Rows.Assign_Tuple_swapped (names := [x, y]) (Tuple_ (k := k') (wpAny_mono h (fun vs s₂ h₂ => ?_) fun ι ι e => e)) hs hw
 obtain ⟨v1, v2, m, rfl, B, hQ⟩ := h₂
 have z := B.S.push (o := { cls := .type "tuple", data := .seq [v1, v2].toArray }) (t := s₂.toks)
 have B5 := B.step0 z
 refine wpAny_newObj_type ?_ (by show 2 ≤ sizeLine; rw [sizeLine_eq]; lia)
 refine PyProof.Rows.unpackItems_tuple (items := #[v1, v2]) hh ⟨_, Heap.get?_push_size _ rfl, rfl, _, rfl⟩ fun h₆ he6 => ?_
 have z6 := B5.S.grow (h' := h₆) (t := s₂.toks) (fun b o e => he6 b o (Nat.ne_of_lt (Heap.lt_size e)) e)
 have B6 := B5.step0 z6
 refine wpAny_bind (wpAny_holding (PyProof.Rows.bindName_ (B6.st (fun s7 B7 k7 => ?_) rfl hy hp)))
 refine wpAny_bind (wpAny_holding (PyProof.Rows.bindName_ (B7.st (fun s8 B8 k8 => ?_) rfl hx hp)))
 exact wpAny_pure (hQ s8 B8 ((z.2.wide (List.forall_mem_nil _)).tr ((z6.2.wide (List.forall_mem_nil _)).tr (k7.tr k8))))
end
end Mine
namespace Mine
structure Fact (b₀ : Heap) where
 P : Shared → Prop
 foot : List Addr
 kp : ∀ {w : World} {mg mb : NM} {U : List Addr} {s s' : Shared}, Sit w mg mb b₀ s → Kp U s s' → (∀ a ∈ foot, a ∉ U) → P s → P s'
 on : ∀ {s : Shared}, P s → ∀ a ∈ foot, s.heap.get? a ≠ none
noncomputable def Has (V : List (Str × Value)) (m : NM) : Prop := ∀ x v, V.lookup x = some v → m x = some v
noncomputable def ExtA : List (Str × Value) → List (Str × Value) → Prop
 | [], _ => True
 | (x, v) :: r, V => V.lookup x = some v ∧ ExtA r V
noncomputable def Ext (V' V : List (Str × Value)) : Prop := V'.map (fun p => V.lookup p.1) = V'.map fun p => some p.2
theorem ExtA.to : ∀ {V' V : List (Str × Value)}, ExtA V' V → Ext V' V
 | [], _, _ => rfl
 | (_, _) :: _, _, h => List.cons_eq_cons.mpr ⟨h.1, ExtA.to h.2⟩
theorem Ext.out {V : List (Str × Value)} {x : Str} {v : Value} : ∀ {V' : List (Str × Value)}, Ext V' V → V'.lookup x = some v → V.lookup x = some v
 | [], _, e => no_some e
 | (y, u) :: r, h, e => by
  have h1 : V.lookup y = some u ∧ Ext r V := List.cons.inj h
  rw [List.lookup_cons] at e
  by_cases q : x = y
  ·rw [q, beq_self_eq_true] at e
   rw [q]
   exact h1.1.trans e
  ·rw [show (x == y) = false from by simpa using q] at e; exact Ext.out h1.2 e
structure Sc (w : World) (mg mb : NM) (b₀ : Heap) (s₀ : Shared) (U : List Addr) (L : Addr) (V : List (Str × Value)) (F : List (Fact b₀)) (s : Shared) : Prop where
 B : ∃ m, Body w mg mb b₀ s₀ U L m s ∧ Has V m
 ok : ∀ f ∈ F, f.P s ∧ L ∉ f.foot
 nd : F.Pairwise fun f g => ∀ a ∈ f.foot, a ∉ g.foot
 un : ∀ u ∈ U, s.heap.get? u ≠ none ∧ s₀.heap.get? u ≠ none
theorem wp_v {α : Type} {M : Model} {A : Around} {v v' : Value} {t : Value → Sem α} {Q : α → Shared → Prop} {E : VP} {s : Shared} (e : v = v') (h : wpAny M A (t v') Q E s) : wpAny M A (t v) Q E s := e ▸ h
theorem Kp.none_in {U : List Addr} {s s' : Shared} {x : Addr} (k : Kp U s s') (e : s'.heap.get? x = none) (h1 : @LT.lt Nat _ 154 x) (hx : x ∉ U) : s.heap.get? x = none := by
 cases q : s.heap.get? x with
 | none => rfl
 | some o => rw [k.heap x o hx (Nat.ne_of_gt (Nat.lt_trans (by decide) h1)) (Nat.ne_of_gt h1) q] at e; cases e
theorem Kp.alive {w : World} {mg mb : NM} {b₀ : Heap} {W : List Addr} {s s' : Shared} (k : Kp W s s') (S' : Sit w mg mb b₀ s') {x : Addr} (h : s.heap.get? x ≠ none) (hx : x ∉ W) : s'.heap.get? x ≠ none := fun e => by
 cases q : s.heap.get? x with
 | none => exact h q
 | some o =>
  by_cases h1 : x = 147
  ·obtain ⟨tb, e1, _⟩ := S'.t1; rw [h1, e1] at e; cases e
  by_cases h2 : x = 154
  ·obtain ⟨tb, e1, _⟩ := S'.t2; rw [h2, e1] at e; cases e
  rw [k.heap x o hx h1 h2 q] at e; cases e
theorem un_alive {w : World} {mg mb : NM} {b₀ : Heap} {U W : List Addr} {s₀ s s' : Shared} (un : ∀ u ∈ U, s.heap.get? u ≠ none ∧ s₀.heap.get? u ≠ none) (S' : Sit w mg mb b₀ s') (k : Kp W s s') (hW : ∀ a ∈ W, s'.heap.get? a ≠ none) : ∀ u ∈ U, s'.heap.get? u ≠ none ∧ s₀.heap.get? u ≠ none := fun u hu => by
 refine ⟨?_, (un u hu).2⟩
 by_cases q : u ∈ W
 ·exact hW u q
 ·exact k.alive S' (un u hu).1 q
section
variable {U W : List Addr} {w : World} {mg mb : NM} {b₀ : Heap} {s₀ s s' : Shared} {M : Model} {A : Around} {E : VP} {L : Addr} {V V' : List (Str × Value)} {F F' Pre Post : List (Fact b₀)} {f f' : Fact b₀} {env : Env}
theorem Sc.S (H : Sc w mg mb b₀ s₀ U L V F s) : Sit w mg mb b₀ s := let ⟨_, B, _⟩ := H.B; B.S
theorem Sc.ck (H : Sc w mg mb b₀ s₀ U L V F s) : (hd.heap_1 w.params).In s.heap := H.S.C.K.keeps H.S.k
theorem Sc.K (H : Sc w mg mb b₀ s₀ U L V F s) : Kp U s₀ s := let ⟨_, B, _⟩ := H.B; B.K
theorem Sc.get (H : Sc w mg mb b₀ s₀ U L V F s) (h : f ∈ F) : f.P s := (H.ok f h).1
theorem Sc.inK (H : Sc w mg mb b₀ s₀ U L V F s) : ((hd.heap_1 w.params)).In s.heap := H.ck
theorem Sc.loc {x : Str} {v : Value} {p : Pos} {Q : VP} (H : Sc w mg mb b₀ s₀ U L V F s) (hv : V.lookup x = some v) (hQ : Q v s) (hl : autoParam (env.locals = L) tR) (hk : autoParam (env.scope.kind = .function) tR) (hx : autoParam (env.kindOf x = some .local) tR)
  (hd : autoParam ((x == ("__debug__" : Str)) = false) tD) : wpAny M A (eval (.Name x p) env) Q E s := let ⟨_, B, h⟩ := H.B; B.loc (h _ _ hv) hQ hl hk hx hd
theorem Sc.lod {x : Str} {v : Value} {Q : VP} (H : Sc w mg mb b₀ s₀ U L V F s) (hv : V.lookup x = some v) (hQ : Q v s) (hl : autoParam (env.locals = L) tR) (hk : autoParam (env.scope.kind = .function) tR) (hx : autoParam (env.kindOf x = some .local) tR) : wpAny M A (loadName env x) Q E s :=
 let ⟨_, B, h⟩ := H.B; B.lod (h _ _ hv) hQ hl hk hx
theorem Sc.top {x : Str} {v : Value} {p : Pos} {Q : VP} (H : Sc w mg mb b₀ s₀ U L V F s) (hn : nsIn (hd.heap_1 w.params) mainGlobals x = some (some v)) (hQ : Q v s) (hg : autoParam (env.globals = mainGlobals) tR) (hk : autoParam (env.scope.kind = .function) tR) (hx : autoParam (env.kindOf x = some .globalImplicit) tR)
  (hdb : autoParam ((x == ("__debug__" : Str)) = false) tD) : wpAny (model PW w) A (eval (.Name x p) env) Q E s := let ⟨_, B, _⟩ := H.B; B.top hn hQ hg hk hx hdb
theorem Sc.bi {x : Str} {v : Value} {p : Pos} {Q : VP} (H : Sc w mg mb b₀ s₀ U L V F s) (hn : nsIn (hd.heap_1 w.params) mainGlobals x = some none) (hv : bootBuiltins x = some v) (hQ : Q v s) (hg : autoParam (env.globals = mainGlobals) tR) (hb : autoParam (env.builtins = builtinsNs) tR) (hk : autoParam (env.scope.kind = .function) tR)
  (hx : autoParam (env.kindOf x = some .globalImplicit) tR) (hx2 : autoParam (x ≠ "__name__") tD) (hdb : autoParam ((x == ("__debug__" : Str)) = false) tD) : wpAny (model PW w) A (eval (.Name x p) env) Q E s := let ⟨_, B, _⟩ := H.B; B.bi hn hv hQ hg hb hk hx hx2 hdb
theorem Sc.bin {x y : Str} {op : Operator} {v1 v2 : Value} {p0 p1 p2 : Pos} {Q : VP} (H : Sc w mg mb b₀ s₀ U L V F s) (e1 : V.lookup x = some v1) (e2 : V.lookup y = some v2) (h : wpAny M A (binaryOp op v1 v2) Q E s) (hl : autoParam (env.locals = L) tR) (hk : autoParam (env.scope.kind = .function) tR) (k1 : autoParam (env.kindOf x = some .local) tR) (k2 : autoParam (env.kindOf y = some .local) tR)
  (d1 : autoParam ((x == ("__debug__" : Str)) = false) tD) (d2 : autoParam ((y == ("__debug__" : Str)) = false) tD) : wpAny M A (eval (.BinOp (.Name x p1) op (.Name y p2) p0) env) Q E s := wpAny_BinOp (H.loc e1 (H.loc e2 h hl hk k2 d2) hl hk k1 d1)
theorem Sc.st {x : Str} {v : Value} {Q : Unit → Shared → Prop} (H : Sc w mg mb b₀ s₀ U L V F s) (hQ : ∀ s', Sc w mg mb b₀ s₀ U L ((x, v) :: V) F s' → Q () s') (hl : autoParam (env.locals = L) tR) (hx : autoParam (env.kindOf x = some .local) tR)
  (hp : autoParam ((env.scope.kind == .class || (env.scope.kind == .module && env.locals != env.globals)) = false) tR) : wpAny M A (storeName env x v) Q E s := by
 obtain ⟨m, B, h⟩ := H.B
 refine B.st (fun s' B' k => hQ s' ⟨⟨_, B', fun y u e => ?_⟩, fun f hf => ⟨f.kp B.S k (fun a ha q => (H.ok f hf).2 (by rw [List.mem_singleton] at q; exact q ▸ ha)) (H.ok f hf).1, (H.ok f hf).2⟩, H.nd, un_alive H.un B'.S k (fun a ha => by rw [List.mem_singleton.mp ha]; obtain ⟨o, _, _, e, _⟩ := B'.ns; rw [e]; exact Option.some_ne_none _)⟩) hl hx hp
 rw [List.lookup_cons] at e
 by_cases q : y = x
 ·subst q; simp only [beq_self_eq_true] at e; simpa using e
 ·rw [show (y == x) = false from by simpa using q] at e; simpa [q] using h y u e
theorem Sc.grow (H : Sc w mg mb b₀ s₀ U L V F s) (z : Sit w mg mb b₀ s' ∧ Kp [] s s') : Sc w mg mb b₀ s₀ U L V F s' :=
 let ⟨m, B, h⟩ := H.B; ⟨⟨m, B.step0 z, h⟩, fun f hf => ⟨f.kp B.S z.2 (fun ι ι => List.not_mem_nil) (H.ok f hf).1, (H.ok f hf).2⟩, H.nd, un_alive H.un z.1 z.2 no_in⟩
theorem Sc.tok (H : Sc w mg mb b₀ s₀ U L V F s) (t : Nat) : Sc w mg mb b₀ s₀ U L V F { s with toks := t } := H.grow ⟨H.S.tok t, Kp.of_eq rfl rfl⟩
theorem Sc.new (H : Sc w mg mb b₀ s₀ U L V F s) (z : Sit w mg mb b₀ s' ∧ Kp [] s s') (f : Fact b₀) (hf : f.P s') (hn : ∀ a ∈ f.foot, s.heap.get? a = none) : Sc w mg mb b₀ s₀ U L V (f :: F) s' := by
 have H' := H.grow z
 refine ⟨H'.B, fun g hg => ?_, List.pairwise_cons.mpr ⟨fun g hg a ha q => g.on (H.ok g hg).1 a q (hn a ha), H.nd⟩, H'.un⟩
 rcases List.mem_cons.mp hg with rfl | hg
 ·obtain ⟨m, B, _⟩ := H.B
  exact ⟨hf, fun q => B.ne_new (hn _ q) rfl⟩
 ·exact H'.ok g hg
theorem Sc.updU (H : Sc w mg mb b₀ s₀ U L V (Pre ++ f :: Post) s) (S' : Sit w mg mb b₀ s') (k : Kp W s s') (hU : ∀ a ∈ W, a ∈ f.foot ∧ (a ∈ U ∨ s₀.heap.get? a = none)) (hf : f'.foot = f.foot) (hp : f'.P s') : Sc w mg mb b₀ s₀ U L V (Pre ++ f' :: Post) s' := by
 obtain ⟨m, B, h⟩ := H.B
 obtain ⟨p1, p2, p3⟩ := List.pairwise_append.mp H.nd
 obtain ⟨p4, p5⟩ := List.pairwise_cons.mp p2
 have hff := H.ok f (List.mem_append_right _ (List.mem_cons_self ..))
 refine ⟨⟨m, B.step S' k (fun v hv => (hU v hv).2) (fun q => hff.2 (hU _ q).1), h⟩, fun g hg => ?_, List.pairwise_append.mpr ⟨p1, List.pairwise_cons.mpr ⟨fun g hg => hf ▸ p4 g hg, p5⟩, fun a ha b hb => ?_⟩, un_alive H.un S' k fun a ha => f'.on hp a (hf ▸ (hU a ha).1)⟩
 ·rcases List.mem_append.mp hg with hg | hg
  ·exact ⟨g.kp B.S k (fun a ha q => p3 g hg f (List.mem_cons_self ..) a ha (hU a q).1) (H.ok g (List.mem_append_left _ hg)).1, (H.ok g (List.mem_append_left _ hg)).2⟩
  ·rcases List.mem_cons.mp hg with rfl | hg
   ·exact ⟨hp, hf ▸ hff.2⟩
   ·exact ⟨g.kp B.S k (fun a ha q => p4 g hg a (hU a q).1 ha) (H.ok g (List.mem_append_right _ (List.mem_cons_of_mem _ hg))).1, (H.ok g (List.mem_append_right _ (List.mem_cons_of_mem _ hg))).2⟩
 ·rcases List.mem_cons.mp hb with rfl | hb
  ·rw [hf]; exact p3 a ha f (List.mem_cons_self ..)
  ·exact p3 a ha b (List.mem_cons_of_mem _ hb)
theorem Sc.upd (H : Sc w mg mb b₀ s₀ U L V (Pre ++ f :: Post) s) (S' : Sit w mg mb b₀ s') (k : Kp W s s') (hU : ∀ a ∈ W, a ∈ f.foot ∧ s₀.heap.get? a = none) (hf : f'.foot = f.foot) (hp : f'.P s') : Sc w mg mb b₀ s₀ U L V (Pre ++ f' :: Post) s' :=
 H.updU S' k (fun a ha => ⟨(hU a ha).1, .inr (hU a ha).2⟩) hf hp
theorem Sc.weak (H : Sc w mg mb b₀ s₀ U L V (Pre ++ f :: Post) s) (hf : f'.foot = f.foot) (hp : f'.P s) : Sc w mg mb b₀ s₀ U L V (Pre ++ f' :: Post) s := H.upd (W := []) H.S (Kp.refl [] s) no_in hf hp
theorem Sc.tail (H : Sc w mg mb b₀ s₀ U L V (f :: F) s) (S' : Sit w mg mb b₀ s') (k : Kp W s s') (hU : ∀ a ∈ W, a ∈ f.foot ∧ s₀.heap.get? a = none) : Sc w mg mb b₀ s₀ U L V F s' :=
 let ⟨p4, p5⟩ := List.pairwise_cons.mp H.nd
 ⟨let ⟨m, B, h⟩ := H.B; ⟨m, B.step S' k (fun v hv => .inr (hU v hv).2) (fun q => (H.ok f (List.mem_cons_self ..)).2 (hU _ q).1), h⟩,
  fun g hg => ⟨g.kp H.S k (fun a ha q => p4 g hg a (hU a q).1 ha) (H.ok g (List.mem_cons_of_mem _ hg)).1, (H.ok g (List.mem_cons_of_mem _ hg)).2⟩, p5, fun u hu => ⟨k.alive S' (H.un u hu).1 (fun q => (H.un u hu).2 (hU u q).2), (H.un u hu).2⟩⟩
theorem Sc.sub (H : Sc w mg mb b₀ s₀ U L V F s) (h : F'.Sublist F) : Sc w mg mb b₀ s₀ U L V F' s := ⟨H.B, fun f hf => H.ok f (h.subset hf), H.nd.sublist h, H.un⟩
theorem Sc.vars (H : Sc w mg mb b₀ s₀ U L V F s) (h : Ext V' V) : Sc w mg mb b₀ s₀ U L V' F s := ⟨let ⟨m, B, q⟩ := H.B; ⟨m, B, fun x v e => q x v (h.out e)⟩, H.ok, H.nd, H.un⟩
theorem Sc.isNew {x : Addr} (H : Sc w mg mb b₀ s₀ U L V F s) (h : s.heap.get? x = none) (lt : @LT.lt Nat _ 154 x) : s₀.heap.get? x = none := H.K.none_in h lt fun q => (H.un x q).1 h
theorem get_ne {h : Heap} {l : Addr} {o : Obj} (e : h.get? l = some o) : ∀ a ∈ [l], h.get? a ≠ none := fun a ha => by rw [List.mem_singleton.mp ha, e]; simp
noncomputable def lstF (b₀ : Heap) (l : Addr) (items : Array Value) (kk : Nat) : Fact b₀ :=
 ⟨fun s => s.heap.get? l = some (lstO items kk), [l], fun S k h e => k.lstO S e (h l (List.mem_singleton_self l)), fun e => get_ne e⟩
noncomputable def bagF (b₀ : Heap) (l : Addr) (ns : List Nat) : Fact b₀ :=
 ⟨fun s => BagOn b₀ s.heap l ns, [l], fun S k h e => e.kp S k (h l (List.mem_singleton_self l)), fun ⟨_, _, _, _, e, _⟩ => get_ne e⟩
noncomputable def cellF (b₀ : Heap) (c : Addr) (v : Option Value) : Fact b₀ :=
 ⟨fun s => CellOn b₀ s.heap c v, [c], fun ι k h e => e.kp k (h c (List.mem_singleton_self c)), fun ⟨_, _, _, e, _⟩ => get_ne e⟩
noncomputable def tupF (b₀ : Heap) (T : Addr) (its : Array Value) : Fact b₀ :=
 ⟨fun s => s.heap.IsTuple T its, [T], fun S k h ⟨o, e, hc, r⟩ => ⟨o, k.get S e (h T (List.mem_singleton_self T)) (by rw [hc]; exact cn), hc, r⟩, fun ⟨_, e, _⟩ => get_ne e⟩
noncomputable def itF (b₀ : Heap) (I l : Addr) (i : Nat) : Fact b₀ :=
 ⟨fun s => s.heap.IsListIter I l i, [I], fun S k h ⟨o, e, hc, r⟩ => ⟨o, k.get S e (h I (List.mem_singleton_self I)) (by rw [hc]; decide), hc, r⟩, fun ⟨_, e, _⟩ => get_ne e⟩
theorem Sc.ofU {m : NM} (B : Body w mg mb b₀ s₀ U L m s) (k : Kp [] s₀ s) (hV : Has V m) (S0 : Sit w mg mb b₀ s₀) (hF : ∀ f ∈ F, f.P s₀) (nd : F.Pairwise fun f g => ∀ a ∈ f.foot, a ∉ g.foot) (hU : ∀ u ∈ U, s₀.heap.get? u ≠ none) : Sc w mg mb b₀ s₀ U L V F s :=
 ⟨⟨m, B, hV⟩, fun f hf => ⟨f.kp S0 k (fun ι ι => List.not_mem_nil) (hF f hf), fun q => f.on (hF f hf) _ q B.fresh⟩, nd, fun u hu => ⟨k.alive B.S (hU u hu) List.not_mem_nil, hU u hu⟩⟩
theorem Sc.of {m : NM} (B : Body w mg mb b₀ s₀ [] L m s) (hV : Has V m) (S0 : Sit w mg mb b₀ s₀) (hF : ∀ f ∈ F, f.P s₀) (nd : F.Pairwise fun f g => ∀ a ∈ f.foot, a ∉ g.foot) : Sc w mg mb b₀ s₀ [] L V F s := Sc.ofU B B.K hV S0 hF nd no_in
theorem Sc.swap {x y : Str} {px py tp vp pos : Pos} {k k' : Nat} {e1 e2 : Expr} {Q : Flow → Shared → Prop} (hh : A.handled = none)
  (h : wpAny (model PW w) A (spliced (backTo vp (starEach [e1, e2] env))) (fun vs s₂ => ∃ v1 v2 V F, vs = [v1, v2] ∧ Sc w mg mb b₀ s₀ U env.locals V F s₂ ∧ ∀ s', Sc w mg mb b₀ s₀ U env.locals ((x, v1) :: (y, v2) :: V) F s' → Q .next s') E s)
  (hs : autoParam (swapsWithSole [.Tuple [.Name x px, .Name y py] k tp] (.Tuple [e1, e2] k' vp) pos.line env = pure false) tR)
  (hw : autoParam (swappedStores [.Tuple [.Name x px, .Name y py] k tp] (.Tuple [e1, e2] k' vp) env = pure (some [x, y])) tR)
  (hx : autoParam (env.kindOf x = some .local) tR) (hy : autoParam (env.kindOf y = some .local) tR) (hp : autoParam ((env.scope.kind == .class || (env.scope.kind == .module && env.locals != env.globals)) = false) tR) :
  wpAny (model PW w) A (exec (.Assign [.Tuple [.Name x px, .Name y py] k tp] (.Tuple [e1, e2] k' vp) pos) env) Q E s := by
 refine swap2 (mg := mg) (mb := mb) (b₀ := b₀) (s₀ := s₀) (U := U) hh (wpAny_mono h (fun vs s₂ h₂ => ?_) fun ι ι e => e) hs hw hx hy hp
 obtain ⟨v1, v2, V, F, rfl, H, hQ⟩ := h₂
 obtain ⟨m, B, hm⟩ := H.B
 refine ⟨v1, v2, m, rfl, B, fun s' B' k => hQ s' ⟨⟨_, B', fun z u e => ?_⟩, fun f hf => ⟨f.kp B.S k (fun a ha q => (H.ok f hf).2 (by rw [List.mem_singleton] at q; exact q ▸ ha)) (H.ok f hf).1, (H.ok f hf).2⟩, H.nd, un_alive H.un B'.S k (fun a ha => by rw [List.mem_singleton.mp ha]; obtain ⟨o, _, _, e, _⟩ := B'.ns; rw [e]; exact Option.some_ne_none _)⟩⟩
 rw [List.lookup_cons, List.lookup_cons] at e
 by_cases q : z = x
 ·subst q; simp only [beq_self_eq_true] at e; simpa using e
 ·rw [show (z == x) = false from by simpa using q] at e
  by_cases q' : z = y
  ·subst q'; simp only [beq_self_eq_true] at e; simpa [q] using e
  ·rw [show (z == y) = false from by simpa using q'] at e; simpa [q, q'] using hm z u e
theorem Sc.ass2 {x y : Str} {px py tp : Pos} {k : Nat} {T : Addr} {v1 v2 : Value} {Q : Unit → Shared → Prop} (hh : A.handled = none) (H : Sc w mg mb b₀ s₀ U L V F s) (hT : s.heap.IsTuple T #[v1, v2]) (hQ : ∀ s', Sc w mg mb b₀ s₀ U L ((y, v2) :: (x, v1) :: V) F s' → Q () s') (hl : autoParam (env.locals = L) tR)
  (hx : autoParam (env.kindOf x = some .local) tR) (hy : autoParam (env.kindOf y = some .local) tR) (hp : autoParam ((env.scope.kind == .class || (env.scope.kind == .module && env.locals != env.globals)) = false) tR) :
  wpAny (model PW w) A (assign (.Tuple [.Name x px, .Name y py] k tp) env (.ref T)) Q E s := by
 refine wpAny_assign_Tuple hh hT rfl rfl fun hB heB => ?_
 have H' := H.grow (H.S.grow (h' := hB) (t := s.toks) fun b o e => heB b o (Nat.ne_of_lt (Heap.lt_size e)) e)
 exact assignInOrder_cons (wpAny_assign_Name (H'.st (fun sC HC => assignInOrder_cons (wpAny_assign_Name (HC.st (fun sD HD => assignInOrder_nil (hQ sD HD)) hl hy hp))) hl hx hp))
theorem for_sc {target : Expr} {body orelse : List Stmt} {R : Result → Shared → Prop} {l : Addr} {items : Array Value} {kk : Nat} (V : List (Str × Value)) (F : Nat → List (Fact b₀)) (hh : A.handled = none) (hl : ∀ i s', Sc w mg mb b₀ s₀ U L V (F i) s' → s'.heap.get? l = some (lstO items kk)) (H : Sc w mg mb b₀ s₀ U L V (F 0) s)
  (turn : ∀ i v s' X, i < items.size → items[i]? = some v → Sc w mg mb b₀ s₀ U L V (X :: F i) s' → wpAny (model PW w) A (assign target env v) (fun ι s₂ => wpAny (model PW w) A (execs body env) (fun f s3 => (f = .next ∨ f = .cont) ∧ Sc w mg mb b₀ s₀ U L V (X :: F (i + 1)) s3) (fun ι ι => False) s₂) (fun ι ι => False) s')
  (fin : ∀ s', Sc w mg mb b₀ s₀ U L V (F items.size) s' → wpAny (model PW w) A (execs orelse env) (fun f s3 => R (.ok f) s3) (fun ι ι => False) s')
  (own : ∀ {I : Addr} {i : Nat} {v : Value} {s' : Shared} {Q : Unit → Shared → Prop} {E : VP}, items[i]? = some v → s'.heap.IsListIter I l (i + 1) → Q () s' → wpAny (model PW w) A (letOwnedTupleGo target (.ref I) v) Q E s' := by exact fun ι ι h => wpAny_pure h) :
  wpAny (model PW w) A (pyIter (.ref l)) (fun it s₂ => codeAny (model PW w) A (.forLoop target it body orelse env) R s₂) E s := by
 have hl0 : s.heap.get? l = some (lstO items kk) := hl 0 s H
 refine wpAny_pyIter_list ⟨_, hl0, rfl, _, rfl⟩ ?_
 have z := H.S.push (o := { cls := .type "list_iterator", data := .fields #[.ref l, .int 0 0] }) (t := s.toks)
 have fI : s.heap.get? s.heap.objs.size = none := get_size _
 have bI := H.S.fresh
 have lI := H.S.lt
 have f0 := H.isNew fI lI
 have hlI : l ≠ s.heap.objs.size := Nat.ne_of_lt (Heap.lt_size hl0)
 have hIt : (s.heap.push { cls := .type "list_iterator", data := .fields #[.ref l, .int 0 0] }).IsListIter s.heap.objs.size l 0 := ⟨_, Heap.get?_push_size _ rfl, rfl, rfl⟩
 generalize s.heap.objs.size = I at fI bI lI f0 hlI hIt
 have H0 := H.new z (itF b₀ I l 0) hIt (al1 fI)
 have W := Walks.lst (w := w) (A := A) (l := l) (I := I) hh items hlI
 have stp : ∀ {i j s' h'} {tk : Nat}, Sc w mg mb b₀ s₀ U L V (itF b₀ I l i :: F j) s' → (∀ b o, b ∉ [I] → s'.heap.get? b = some o → h'.get? b = some o) → Sit w mg mb b₀ { s' with heap := h', toks := tk } ∧ Kp [I] s' { s' with heap := h', toks := tk } := fun H' hk =>
  H'.S.by (al1 bI) (by simp only [List.mem_singleton]; exact Nat.ne_of_lt (Nat.lt_trans (by decide) lI)) (by simp only [List.mem_singleton]; exact Nat.ne_of_lt lI) hk rfl rfl
 have own' := @own
 refine codeAny_forLoop_any (fun n s' => ∃ i, n = items.size + 1 - i ∧ i ≤ items.size ∧ Sc w mg mb b₀ s₀ U L V (itF b₀ I l i :: F i) s') ?_ (items.size + 1) ⟨0, rfl, Nat.zero_le _, H0⟩
 rintro n s' ⟨i, rfl, hi, H'⟩
 have hSt : s'.heap.IsListIter I l i ∧ s'.heap.IsList l items := ⟨H'.get (List.mem_cons_self ..), ⟨_, hl i s' (H'.sub (List.sublist_cons_self _ _)), rfl, _, rfl⟩⟩
 have up : ∀ {h' tk j}, (∀ b o, b ∉ [I] → s'.heap.get? b = some o → h'.get? b = some o) → h'.IsListIter I l j → Sc w mg mb b₀ s₀ U L V (itF b₀ I l j :: F i) { s' with heap := h', toks := tk } := fun {h' tk j} hk hit =>
  let z := stp H' hk
  Sc.upd (Pre := []) (f := itF b₀ I l i) (f' := itF b₀ I l j) H' z.1 z.2 (al1 ⟨List.mem_singleton_self _, f0⟩) rfl hit
 rcases Nat.lt_or_ge i items.size with hlt | hge
 ·refine W.item i s' _ _ hlt hSt fun v h' tk hv hSt' hk => own' hv hSt'.1 ?_
  refine notedOf (wpAny_mono (turn i v _ _ hlt hv (up hk hSt'.1)) (fun ι s₂ h₂ => notedOf (wpAny_mono h₂ (fun f s3 h₃ => ?_) fun ι ι z => z)) fun ι ι z => z)
  have res : ∃ m, m < items.size + 1 - i ∧ ∃ i, m = items.size + 1 - i ∧ i ≤ items.size ∧ Sc w mg mb b₀ s₀ U L V (itF b₀ I l i :: F i) s3 := ⟨_, sub_dec hlt, i + 1, rfl, hlt, h₃.2⟩
  rcases h₃.1 with rfl | rfl
  ·exact res
  ·exact res
 ·obtain rfl : i = items.size := Nat.le_antisymm hi hge
  exact W.done s' _ _ hSt fun h' tk hk => notedOf (fin _ (H'.tail (stp H' hk).1 (stp H' hk).2 (al1 ⟨List.mem_singleton_self _, f0⟩)))
end
end Mine
namespace Mine
inductive Way | plain | there | back
noncomputable def Way.str : Way → Str
 | .plain => "plain"
 | .there => "there"
 | .back => "back"
noncomputable def addAt (d : List Nat) (i k : Nat) : List Nat := d.set i (d.getD i 0 + k)
noncomputable def dthere (base : Nat) : Nat → Nat → Nat → Nat × Nat
 | 0, s, m => (s, m)
 | f + 1, s, m => if s % base = 0 then dthere base f (s / base) (m * base) else (s, m)
noncomputable def dback (base : Nat) : Nat → List Nat → Nat → Nat → List Nat
 | 0, d, s, m => addAt d s m
 | f + 1, d, s, m => if base ≤ m then dback base f (addAt d s (m % base)) (s * base) (m / base) else addAt d s m
theorem dthere_s {base f s m : Nat} : dthere base (f + 1) s m = if s % base = 0 then dthere base f (s / base) (m * base) else (s, m) := rfl
theorem dback_s {base f s m : Nat} {d : List Nat} : dback base (f + 1) d s m = if base ≤ m then dback base f (addAt d s (m % base)) (s * base) (m / base) else addAt d s m := rfl
noncomputable def dstep (base : Nat) (way : Way) (d : List Nat) (p : Nat × Nat) : List Nat :=
 match way with
 | .plain => addAt d p.1 p.2
 | .there => addAt (addAt d (base * p.1) (p.2 / base)) (dthere base p.1 p.1 (p.2 % base)).1 (dthere base p.1 p.1 (p.2 % base)).2
 | .back => if p.1 % base = 0 then addAt d (p.1 / base) (p.2 * base) else dback base p.2 d p.1 p.2
noncomputable def trim (d : List Nat) : List Nat := (d.reverse.dropWhile (· == 0)).reverse
noncomputable def dueL (ps : List (Nat × Nat)) (base : Nat) (way : Way) : List Nat := trim (ps.foldl (dstep base way) (List.replicate (7 * base) 0))
structure Ofs (ps : List (Nat × Nat)) (base : Nat) : Prop where
 b2 : 2 ≤ base
 b4 : base ≤ 4
 p1 : ∀ p ∈ ps, 1 ≤ p.1
 p6 : ∀ p ∈ ps, p.1 ≤ 6
 pm : ∀ p ∈ ps, p.1 * p.2 ≤ 9
theorem addAt_len (d : List Nat) (i k : Nat) : (addAt d i k).length = d.length := List.length_set ..
theorem dback_len (base : Nat) : ∀ (f : Nat) (d : List Nat) (s m : Nat), (dback base f d s m).length = d.length
 | 0, d, s, m => addAt_len d s m
 | f + 1, d, s, m => by
  rw [dback_s]
  split
  ·rw [dback_len base f, addAt_len]
  ·exact addAt_len d s m
theorem dstep_len (base : Nat) (way : Way) (d : List Nat) (p : Nat × Nat) : (dstep base way d p).length = d.length := by
 cases way with
 | plain => exact addAt_len ..
 | there => exact (addAt_len ..).trans (addAt_len ..)
 | back =>
  show (if p.1 % base = 0 then _ else _ : List Nat).length = _
  by_cases q : p.1 % base = 0
  ·rw [if_pos q]; exact addAt_len ..
  ·rw [if_neg q]; exact dback_len ..
theorem steps_len (base : Nat) (way : Way) : ∀ (ps : List (Nat × Nat)) (d : List Nat), (ps.foldl (dstep base way) d).length = d.length
 | [], d => rfl
 | p :: ps, d => (steps_len base way ps _).trans (dstep_len base way d p)
structure IntsOn (b₀ h : Heap) (l : Addr) (ns : List Nat) : Prop where
 bl : b₀.get? l = none
 ll : @LT.lt Nat _ 154 l
 on : ∃ vs k, h.get? l = some (lstO vs k) ∧ vs.size = ns.length ∧ ∀ (i n : Nat), ns[i]? = some n → ∃ t : Tok, vs[i]? = some (.int (n : Int) t)
section
variable {U : List Addr} {w : World} {mg mb : NM} {b₀ : Heap} {s₀ s s' : Shared} {A : Around} {E : VP} {L l T : Addr} {V V' : List (Str × Value)} {F F' Pre Post : List (Fact b₀)} {env : Env} {ns d : List Nat}
theorem IntsOn.kp {U : List Addr} (x : IntsOn b₀ s.heap l ns) (S : Sit w mg mb b₀ s) (k : Kp U s s') (h : l ∉ U) : IntsOn b₀ s'.heap l ns := ⟨x.bl, x.ll, let ⟨vs, kk, e, q⟩ := x.on; ⟨vs, kk, k.lstO S e h, q⟩⟩
noncomputable def intsF (b₀ : Heap) (l : Addr) (ns : List Nat) : Fact b₀ :=
 ⟨fun s => IntsOn b₀ s.heap l ns, [l], fun S k h e => e.kp S k (h l (List.mem_singleton_self l)), fun ⟨_, _, _, _, e, _⟩ => get_ne e⟩
theorem ints_item {j : Nat} {t : Tok} {Q : VP} (x : IntsOn b₀ s.heap l ns) (hj : j < ns.length) (hs : ns.length ≤ 100000) (h : ∀ u : Tok, Q (.int ((ns.getD j 0 : Nat) : Int) u) s) : wpAny (model PW w) A (getItem (.ref l) (.int (j : Nat) t)) Q E s := by
 obtain ⟨vs, kk, e, hz, hv⟩ := x.on
 have hg : ns[j]? = some (ns.getD j 0) := by rw [List.getD_eq_getElem?_getD, List.getElem?_eq_getElem hj]; rfl
 obtain ⟨u, hu⟩ := hv j _ hg
 exact lst_item e rfl (Nat.le_trans (Nat.le_of_lt hj) hs) hu (h u)
theorem ints_put {j n : Nat} {t u : Tok} {Q : Unit → Shared → Prop} (S : Sit w mg mb b₀ s) (x : IntsOn b₀ s.heap l ns) (hj : j < ns.length) (hs : ns.length ≤ 100000) (h : ∀ s', Sit w mg mb b₀ s' → Kp [l] s s' → IntsOn b₀ s'.heap l (ns.set j n) → Q () s') :
  wpAny (model PW w) A (setItem (.ref l) (.int (j : Nat) t) (.int (n : Nat) u)) Q E s := by
 obtain ⟨vs, kk, e, hz, hv⟩ := x.on
 refine lst_put S x.bl x.ll e rfl (Nat.le_trans (Nat.le_of_lt hj) hs) (hz ▸ hj) fun s' S' k e' => h s' S' k ⟨x.bl, x.ll, _, _, e', by simp [hz], fun i m hm => ?_⟩
 rw [List.getElem?_set] at hm
 by_cases q : j = i
 ·subst q
  rw [if_pos rfl, if_pos hj] at hm
  cases hm
  exact ⟨u, by rw [Array.getElem?_setIfInBounds, if_pos rfl, if_pos (hz ▸ hj)]⟩
 ·rw [if_neg q] at hm
  obtain ⟨v, hv'⟩ := hv i m hm
  exact ⟨v, by rw [Array.getElem?_setIfInBounds, if_neg q]; exact hv'⟩
theorem aug_ints {nm : Str} {xi xv : Expr} {dp tpos pos : Pos} {Q : Flow → Shared → Prop} (H : Sc w mg mb b₀ s₀ U L V (Pre ++ intsF b₀ T d :: Post) s) (hv : V.lookup nm = some (.ref T)) (f0 : s₀.heap.get? T = none) (hs : d.length ≤ 100000)
  (h : wpAny (model PW w) A (eval xi env) (fun iv s₂ => ∃ (i : Nat) (t : Tok), iv = .int (i : Int) t ∧ i < d.length ∧ Sc w mg mb b₀ s₀ U L V (Pre ++ intsF b₀ T d :: Post) s₂ ∧
   wpAny (model PW w) A (eval xv env) (fun v s4 => ∃ (k : Nat) (u : Tok), v = .int (k : Int) u ∧ Sc w mg mb b₀ s₀ U L V (Pre ++ intsF b₀ T d :: Post) s4 ∧
    ∀ s5, Sc w mg mb b₀ s₀ U L V (Pre ++ intsF b₀ T (addAt d i k) :: Post) s5 → Q .next s5) E s₂) E s)
  (hi : autoParam (∀ ov iv new, augStore xi ov iv new = (do holding [new, ov, iv] (setItem ov iv new); release [new, ov, iv] []; pure .next)) tI) (hl : autoParam (env.locals = L) tR) (hk : autoParam (env.scope.kind = .function) tR) (hdb : autoParam ((nm == ("__debug__" : Str)) = false) tD) (hx : autoParam (env.kindOf nm = some .local) tR) :
  wpAny (model PW w) A (exec (.AugAssign (.Subscript (.Name nm dp) xi tpos) .Add xv pos) env) Q E s := by
 refine wpAny_AugAssign_SubscriptAny (H.loc hv (wpAny_mono h (fun iv s₂ h₂ => ?_) fun ι ι e => e) hl hk hx hdb) hi
 obtain ⟨i, t, rfl, hid, H₂, h₂⟩ := h₂
 refine ints_item (H₂.get (f := intsF b₀ T d) (by simp)) hid hs fun u => wpAny_mono h₂ (fun v s4 h₄ => ?_) fun ι ι e => e
 obtain ⟨k, u', rfl, H4, hQ⟩ := h₄
 refine iadd_nat rfl rfl ?_
 have H5 := H4.tok (s4.toks + 1)
 refine ints_put H5.S (H5.get (f := intsF b₀ T d) (by simp)) hid hs fun s' S' kk x' => hQ s' (H5.upd S' kk (fun a ha => ?_) rfl x')
 rw [List.mem_singleton.mp ha]
 exact ⟨List.mem_singleton_self _, f0⟩
end
end Mine
namespace Mine
theorem trim_zero (d : List Nat) : trim (d ++ [0]) = trim d := by unfold trim; rw [List.reverse_append]; rfl
theorem trim_pos (d : List Nat) {x : Nat} (h : x ≠ 0) : trim (d ++ [x]) = d ++ [x] := by
 unfold trim
 rw [List.reverse_append, List.reverse_singleton, List.singleton_append, List.dropWhile_cons, if_neg (by simpa using h)]
 simp
section
variable {U : List Addr} {w : World} {mg mb : NM} {b₀ : Heap} {s₀ s s' : Shared} {A : Around} {E : VP} {L l T : Addr} {env : Env} {Q : Bool → Shared → Prop} {k : Nat} {p : Pos} {t : Tok}
theorem test_str {x y : Str} (b : Bool) (h : Q b { s with toks := s.toks + 1 }) (hb : (x.cps.toList == y.cps.toList) = b := by decide +kernel) :
  wpAny (model PW w) A (eval (.Constant (.str y) k p) env) (fun r s₂ => wpAny (model PW w) A (compareOp .Eq (.str x t) r) (fun c s3 => wpAny (model PW w) A (truthy c) Q E s3) E s₂) E s := by
 walk1
 refine PySem.P.eq_str ?_
 rw [hb]
 walk1
 exact h
theorem test_zero {n : Nat} (h : Q (decide (n = 0)) { s with toks := s.toks + 1 }) :
  wpAny (model PW w) A (eval (.Constant (.int 0) k p) env) (fun r s₂ => wpAny (model PW w) A (compareOp .Eq (.int (n : Int) t) r) (fun c s3 => wpAny (model PW w) A (truthy c) Q E s3) E s₂) E s := by
 walk1
 walk1
 walk1
 have e : ((n : Int) == 0) = decide (n = 0) := by rw [Bool.eq_iff_iff, beq_iff_eq, decide_eq_true_eq]; exact Int.natCast_eq_zero
 rw [e]
 exact h
theorem last_aug {V V0 : List (Str × Value)} {X : Fact b₀} {d d' : List Nat} {dp sp' mp tpos pos : Pos} {σ μ : Nat} {tσ tμ : Tok} (H : Sc w mg mb b₀ s₀ U L V [X, intsF b₀ T d] s) (f0 : s₀.heap.get? T = none)
  (hσ : V.lookup ("size" : Str) = some (.int (σ : Int) tσ)) (hμ : V.lookup ("many" : Str) = some (.int (μ : Int) tμ)) (hT : V.lookup ("due" : Str) = some (.ref T)) (hd : σ < d.length) (hs : d.length ≤ 100000) (he : Ext V0 V) (e : addAt d σ μ = d')
  (hl : autoParam (env.locals = L) tR) (hk : autoParam (env.scope.kind = .function) tR) (h1 : autoParam (env.kindOf "due" = some .local) tR) (h2 : autoParam (env.kindOf "size" = some .local) tR) (h3 : autoParam (env.kindOf "many" = some .local) tR) :
  wpAny (model PW w) A (execs [.AugAssign (.Subscript (.Name "due" dp) (.Name "size" sp') tpos) .Add (.Name "many" mp) pos] env) (fun f s3 => (f = .next ∨ f = .cont) ∧ Sc w mg mb b₀ s₀ U L V0 [X, intsF b₀ T d'] s3) (fun ι ι => False) s := by
 refine ex_cons (aug_ints (Pre := [X]) (Post := []) H hT f0 hs (H.loc hσ ⟨σ, tσ, rfl, hd, H, H.loc hμ ⟨μ, tμ, rfl, H, fun s5 H5 => ?_⟩ hl hk h3⟩ hl hk h2) (by intros; rfl) hl hk (by decide) h1)
 exact wpAny_execs_nil ⟨.inl rfl, (e ▸ H5).vars he⟩
theorem type_list_pop : typeOf (.builtin "list.pop") = pure (.type "method_descriptor") := by show builtinType _ = _; rw [builtinType_eq_fast]; kernel_rfl
theorem meth_list_pop {M : Model} {l : Addr} {o : Obj} {pl : Sem Bool} {Q : Value × List Value → Shared → Prop} (ho : s.heap.get? l = some o) (hc : o.cls = .type "list") (hd : o.dict = none)
  (h : Q (.builtin "list.pop", [.ref l]) s) : wpAny M A (getMethod (.ref l) "pop" pl) Q E s := by
 have hT : s.TypeIs (.ref l) "list" := ⟨o, ho, hc⟩
 unfold getMethod
 refine wpAny_bind (wpAny_specialOf hT list_getattribute ?_)
 show wpAny M A (if (Manifest.canonical "list.__getattribute__" != "object.__getattribute__") = true then _ else _) Q E s
 rw [canon_list_getattribute, if_neg Bool.false_ne_true]
 refine wpAny_bind (wpAny_specialOf hT list_getattr_none ?_)
 refine wpAny_bind (wpAny_specialOf hT PySem.F.slot_list_pop.lookup ?_)
 refine wpAny_bind (wpAny_of_eq type_list_pop ?_)
 refine wpAny_bind (wpAny_load ho ?_)
 rw [hd]
 exact wpAny_bind (wpAny_rule (wpAny_pure h))
theorem ints_last {d : List Nat} {n : Nat} {t : Tok} {Q : VP} (x : IntsOn b₀ s.heap T (d ++ [n])) (hs : d.length < 100000) (h : ∀ u : Tok, Q (.int ((n : Nat) : Int) u) s) : wpAny (model PW w) A (getItem (.ref T) (.int (-1) t)) Q E s := by
 obtain ⟨vs, kk, e, hz, hv⟩ := x.on
 rw [List.length_append] at hz
 obtain ⟨u, hu⟩ := hv d.length n (by rw [List.getElem?_append_right (Nat.le_refl _), Nat.sub_self]; rfl)
 refine wpAny_getItem_list_neg (x := .int (n : Int) u) ⟨_, e, rfl, _, rfl⟩ (by decide) (by rw [hz]; show -((d.length + 1 : Nat) : Int) ≤ -1; lia) (by decide) ?_ (h u)
 rw [hz, show ((-1 : Int) + ((d.length + [n].length : Nat) : Int)).toNat = d.length from by simp; lia]
 exact hu
theorem ints_pop {d : List Nat} {n : Nat} {pos : Pos} {Q : VP} (S : Sit w mg mb b₀ s) (x : IntsOn b₀ s.heap T (d ++ [n])) (hs : d.length < 100000) (h : ∀ (u : Tok) s', Sit w mg mb b₀ s' → Kp [T] s s' → IntsOn b₀ s'.heap T d → Q (.int (n : Int) u) s') : wpAny (model PW w) A (callWith pos (.builtin "list.pop") [.ref T] [] []) Q E s := by
 obtain ⟨vs, kk, e, hz, hv⟩ := x.on
 rw [List.length_append] at hz
 obtain ⟨u, hu⟩ := hv d.length n (by rw [List.getElem?_append_right (Nat.le_refl _), Nat.sub_self]; rfl)
 have hz1 : vs.size - 1 = d.length := by rw [hz]; rfl
 have z := S.upd (x := T) (f := Obj.mapSeq fun xs => xs.eraseIdxIfInBounds (vs.size - 1)) s.toks x.bl x.ll
 have hn := Heap.get?_update_self (Obj.mapSeq fun xs => xs.eraseIdxIfInBounds (vs.size - 1)) e (by rfl)
 refine PySem.P.pop_list e (by rw [hz1]; exact hu) (h u _ z.1 z.2 ⟨x.bl, x.ll, vs.eraseIdxIfInBounds (vs.size - 1), (if (vs.eraseIdxIfInBounds (vs.size - 1)).size == vs.size then kk else kk + 1), hn, ?_, fun i m hm => ?_⟩) (by rw [sizeLine_eq, hz]; show d.length + 1 ≤ _; lia)
 ·rw [hz1]; simp [Array.eraseIdxIfInBounds, hz]
 ·have hi : i < d.length := (List.getElem?_eq_some_iff.mp hm).1
  obtain ⟨v, h1⟩ := hv i m (by rw [List.getElem?_append_left hi]; exact hm)
  refine ⟨v, ?_⟩
  rw [hz1, Array.eraseIdxIfInBounds, dif_pos (by lia), Array.getElem?_eraseIdx, if_pos hi]
  exact h1
end
end Mine
namespace Mine
section
variable {U : List Addr} {w : World} {mg mb : NM} {b₀ : Heap} {s₀ s s' : Shared} {A : Around} {E : VP} {L : Addr} {V : List (Str × Value)} {env : Env}
noncomputable def enumF (b₀ : Heap) (e it l : Addr) (i : Nat) : Fact b₀ :=
 ⟨fun s => (∃ old, IsEnum s.heap e it (i : Int) old) ∧ s.heap.IsListIter it l i, [e, it],
  fun S k h ⟨⟨old, e1⟩, o, e2, hc, r⟩ => ⟨⟨old, k.get S e1 (h e (List.mem_cons_self ..)) (by exact cn)⟩, o, k.get S e2 (h it (by simp)) (by rw [hc]; decide), hc, r⟩,
  fun ⟨⟨old, e1⟩, o, e2, _⟩ a ha => by
   rcases List.mem_cons.mp ha with rfl | ha
   ·rw [e1]; simp
   ·rw [List.mem_singleton.mp ha, e2]; simp⟩
theorem for_enum {xi xv : Str} {pi pv pt : Pos} {x1 : Nat} {body orelse : List Stmt} {R : Result → Shared → Prop} {l : Addr} {items : Array Value} (V : List (Str × Value)) (F : Nat → List (Fact b₀)) (hh : A.handled = none) (hl : ∀ i s', Sc w mg mb b₀ s₀ U L V (F i) s' → s'.heap.IsList l items) (H : Sc w mg mb b₀ s₀ U L V (F 0) s)
  (turn : ∀ i v tk s' X, i < items.size → items[i]? = some v → Sc w mg mb b₀ s₀ U L ((xv, v) :: (xi, .int (i : Nat) tk) :: V) (X :: F i) s' → wpAny (model PW w) A (execs body env) (fun f s3 => (f = .next ∨ f = .cont) ∧ Sc w mg mb b₀ s₀ U L V (X :: F (i + 1)) s3) (fun ι ι => False) s')
  (fin : ∀ s', Sc w mg mb b₀ s₀ U L V (F items.size) s' → wpAny (model PW w) A (execs orelse env) (fun f s3 => R (.ok f) s3) (fun ι ι => False) s')
  (hel : autoParam (env.locals = L) tR) (hx : autoParam (env.kindOf xi = some .local) tR) (hy : autoParam (env.kindOf xv = some .local) tR) (hp : autoParam ((env.scope.kind == .class || (env.scope.kind == .module && env.locals != env.globals)) = false) tR) :
  wpAny (model PW w) A (call (.type "enumerate") [.ref l]) (fun v s₁ => wpAny (model PW w) A (pyIter v) (fun it s₂ => codeAny (model PW w) A (.forLoop (.Tuple [.Name xi pi, .Name xv pv] x1 pt) it body orelse env) R s₂) E s₁) E s := by
 have hl0 := hl 0 s H
 refine call_enumerate_list hl0 fun h' he hit hz hk => wpAny_pyIter_enum he ?_
 have z := H.S.grow (t := s.toks) hk
 have lI := H.S.lt
 have bI := H.S.fresh
 have fI : s.heap.get? s.heap.objs.size = none := get_size _
 have fE : s.heap.get? (s.heap.objs.size + 1 : Nat) = none := by
  cases q : s.heap.get? (s.heap.objs.size + 1 : Nat) with
  | none => rfl
  | some o => have := Heap.lt_size q; exact absurd this (by show ¬ (s.heap.objs.size + 1 < s.heap.objs.size); lia)
 have bE : b₀.get? (s.heap.objs.size + 1 : Nat) = none := by
  cases q : b₀.get? (s.heap.objs.size + 1 : Nat) with
  | none => rfl
  | some o => rw [H.S.k _ _ q] at fE; cases fE
 have lE : @LT.lt Nat _ 154 (s.heap.objs.size + 1) := Nat.lt_succ_of_lt lI
 have ne : (s.heap.objs.size + 1 : Nat) ≠ s.heap.objs.size := Nat.succ_ne_self _
 have hlI : l ≠ s.heap.objs.size := let ⟨_, e, _⟩ := hl0; Nat.ne_of_lt (Heap.lt_size e)
 have H0 := H.new z (enumF b₀ (s.heap.objs.size + 1 : Nat) s.heap.objs.size l 0) ⟨⟨_, he⟩, hit⟩ (by
  intro a ha
  rcases List.mem_cons.mp ha with rfl | ha
  ·exact fE
  ·rw [List.mem_singleton.mp ha]; exact fI)
 have e0 := H.isNew fE lE
 have i0 := H.isNew fI lI
 generalize (s.heap.objs.size + 1 : Nat) = e at *
 generalize s.heap.objs.size = it at *
 clear he hit hz
 refine codeAny_forLoop_any (fun n s' => ∃ i, n = items.size + 1 - i ∧ i ≤ items.size ∧ Sc w mg mb b₀ s₀ U L V (enumF b₀ e it l i :: F i) s') ?_ (items.size + 1) ⟨0, rfl, Nat.zero_le _, H0⟩
 rintro n s' ⟨i, rfl, hi, H'⟩
 obtain ⟨⟨old, he'⟩, hit'⟩ := H'.get (f := enumF b₀ e it l i) (List.mem_cons_self ..)
 have hl' := hl i s' (H'.sub (List.sublist_cons_self _ _))
 have stp : ∀ {s'' : Shared} {h'} {tk : Nat}, Sit w mg mb b₀ s'' → (∀ b o, b ≠ e → b ≠ it → s''.heap.get? b = some o → h'.get? b = some o) → Sit w mg mb b₀ { s'' with heap := h', toks := tk } ∧ Kp [e, it] s'' { s'' with heap := h', toks := tk } := fun S'' hk =>
  S''.by (by simp [bE, bI]) (by simp only [List.mem_cons, List.not_mem_nil, or_false, not_or]; exact ⟨Nat.ne_of_lt (Nat.lt_trans (by decide) lE), Nat.ne_of_lt (Nat.lt_trans (by decide) lI)⟩) (by simp only [List.mem_cons, List.not_mem_nil, or_false, not_or]; exact ⟨Nat.ne_of_lt lE, Nat.ne_of_lt lI⟩)
   (fun b o hb => hk b o (fun q => hb (by simp [q])) fun q => hb (by simp [q])) rfl rfl
 have hU : ∀ a ∈ [e, it], a ∈ [e, it] ∧ s₀.heap.get? a = none := fun a ha => ⟨ha, by
  rcases List.mem_cons.mp ha with rfl | ha
  ·exact e0
  ·rw [List.mem_singleton.mp ha]; exact i0⟩
 rcases Nat.lt_or_ge i items.size with hlt | hge
 ·have hv : items[i]? = some items[i] := Array.getElem?_eq_getElem hlt
  refine wpAny_pyNext_enum_item he' hit' hl' hv ne fun h₁ heo hit1 ht1 hz₁ hk₁ => wpAny_letOwnedTupleGo_enum heo fun h₂ he2 hs2 => ?_
  have hs2' : Heap.SameBut e h₁ h₂ := hs2
  have eT : s'.heap.objs.size ≠ e := Nat.ne_of_gt (Heap.lt_size he')
  have ht2 : h₂.IsTuple s'.heap.objs.size #[.int (i : Nat) s'.toks, items[i]] := ⟨_, (hs2'.2 _ eT).trans ht1, rfl, _, rfl⟩
  have z₂ := stp (tk := s'.toks + 1) H'.S (h' := h₂) fun b o n1 n2 q => (hs2'.2 b n1).trans (hk₁ b o n1 n2 q)
  have hit2 : h₂.IsListIter it l (i + 1) := let ⟨o, q, r⟩ := hit1; ⟨o, (hs2'.2 _ (Ne.symm ne)).trans q, r⟩
  have H₂ := Sc.upd (Pre := []) (f := enumF b₀ e it l i) (f' := enumF b₀ e it l (i + 1)) H' z₂.1 z₂.2 hU rfl ⟨⟨_, by exact_mod_cast he2⟩, hit2⟩
  refine notedOf (H₂.ass2 hh ht2 (fun s3 H3 => notedOf (wpAny_mono (turn i _ _ _ _ hlt hv H3) (fun f s4 h₄ => ?_) fun ι ι z => z)) hel hx hy hp)
  have res : ∃ m, m < items.size + 1 - i ∧ ∃ i, m = items.size + 1 - i ∧ i ≤ items.size ∧ Sc w mg mb b₀ s₀ U L V (enumF b₀ e it l i :: F i) s4 := ⟨_, sub_dec hlt, i + 1, rfl, hlt, h₄.2⟩
  rcases h₄.1 with rfl | rfl
  ·exact res
  ·exact res
 ·obtain rfl : i = items.size := Nat.le_antisymm hi hge
  have hn : items[items.size]? = none := Array.getElem?_eq_none (Nat.le_refl _)
  refine wpAny_pyNext_enum_end hh he' hit' hl' hn fun h₁ he1 => notedOf (fin _ ?_)
  have z₂ := stp (tk := s'.toks) H'.S (h' := h₁) fun b o n1 n2 q => he1 b o n2 q
  exact H'.tail z₂.1 z₂.2 hU
end
end Mine
namespace Mine
theorem zip_no_len : typeLookup (.type "zip") "__len__" = pure none := by rw [typeLookup_type, builtinLookup_eq_fast]; kernel_rfl
theorem zip_no_hint : typeLookup (.type "zip") "__length_hint__" = pure none := by rw [typeLookup_type, builtinLookup_eq_fast]; kernel_rfl
section
variable {w : World} {mg mb : NM} {b₀ : Heap} {s₀ s s' : Shared} {A : Around} {L : Addr} {R : Result → Shared → Prop} {I S : Addr} {n : Nat}
theorem ext_loop {res : Value} (J : Nat → Array Value → Shared → Prop) (K : Array Value → Shared → Prop) (hS : ∀ i acc s, J i acc s → acc.size = i ∧ ∃ c, s.heap.get? S = some (lstO acc c)) (hn : n ≤ 100000)
  (item : ∀ (i : Nat) (acc : Array Value) (s : Shared) (Q : Option Value → Shared → Prop) (E : VP), i < n → J i acc s → (∀ v s', (∃ c, s'.heap.get? S = some (lstO acc c)) → J (i + 1) (acc.push v) { s' with heap := s'.heap.update S (Obj.mapSeq (·.push v)) } → Q (some v) s') → wpAny (model PW w) A.in1 (pyNext (.ref I)) Q E s)
  (fin : ∀ (acc : Array Value) (s : Shared) (Q : Option Value → Shared → Prop) (E : VP), J n acc s → (∀ s', K acc s' → Q none s') → wpAny (model PW w) A.in1 (pyNext (.ref I)) Q E s)
  (hR : ∀ acc s', K acc s' → R (.ok (.ret res)) s') : ∀ (k i : Nat) (acc : Array Value) (s : Shared), n - i = k → i ≤ n → J i acc s → codeAny (model PW w) A (.builtin "list.extend.loop" ⟨[.ref S, .ref I, res], []⟩) R s := by
 intro k
 induction k with
 | zero =>
  intro i acc s hk hi j
  obtain rfl : i = n := by lia
  refine codeAny_builtin PySem.F.entry_extend_loop ?_
  rw [Around.under_plainId PySem.F.plain_extend_loop _]
  show wpAny _ A.in1 (pyNext (.ref I) >>= _) _ _ s
  exact wpAny_bind (fin acc s _ _ j fun s' j' => wpAny_pure (hR acc s' j'))
 | succ k ih =>
  intro i acc s hk hi j
  have hlt : i < n := Nat.lt_of_sub_pos (hk ▸ Nat.succ_pos k)
  obtain ⟨hz, _⟩ := hS i acc s j
  refine codeAny_builtin PySem.F.entry_extend_loop ?_
  rw [Around.under_plainId PySem.F.plain_extend_loop _]
  show wpAny _ A.in1 (pyNext (.ref I) >>= _) _ _ s
  refine wpAny_bind (item i acc s _ _ hlt j fun v s' hS' j' => ?_)
  obtain ⟨c, hc⟩ := hS'
  show wpAny _ A.in1 (updateSeq S (·.push v) >>= _) _ _ _
  refine wpAny_bind ?_
  exact wpAny_updateSeq hc rfl (wpAny_pure ⟨plainId_quiet PySem.F.plain_extend_loop _, ih (i + 1) _ _ (sub_succ_of hk) hlt j'⟩)
   (by rw [hz, sizeLine_eq]; lia) (by show (acc.push v).size ≤ sizeLine + 1; rw [Array.size_push, hz, sizeLine_eq]; lia)
end
end Mine
namespace Mine
noncomputable abbrev IsZ2 (h : Heap) (z TI TO T : Addr) (b : Bool) : Prop := h.get? z = some { cls := .type "zip", dict := none, data := .fields #[rawInt T, .bool b, .bool false, .ref TI, .ref TO], slots := #[] }
section
variable {w : World} {A : Around} {E : VP} {s : Shared} {z TI TO T i1 i2 l1 l2 : Addr} {b : Bool} {xs ys : Array Value} {x y : Value} {k n1 n2 : Nat}
theorem zip2_free {o : Obj} {Q : Bool → Shared → Prop} (hz : IsZ2 s.heap z TI TO T b) (hT : s.heap.get? T = some o) (h : ∀ h', IsZ2 h' z TI TO T true → Heap.SameBut z s.heap h' → Q false { s with heap := h' }) :
  wpAny (model PW w) A (Builtin.SmallTypes.ownedTupleIsFree (.ref z)) Q E s := by
 unfold Builtin.SmallTypes.ownedTupleIsFree
 refine wpAny_bind (wpAny_field hz rfl (x := rawInt T) rfl ?_)
 show wpAny _ _ (loadIfAlive _ >>= _) _ _ _
 refine wpAny_bind ?_
 show wpAny _ _ (Sem.loadIfAlive _ .pure) _ _ _
 have hl : ∀ {Q : Option Obj → Shared → Prop}, Q (some o) s → wpAny (model PW w) A (Sem.loadIfAlive ((T : Nat) : Int).toNat .pure) Q E s := fun {Q} hq => by
  intro Γ p _
  rw [Sem.wp_loadIfAlive, Int.toNat_natCast, hT]
  exact (Sem.wp_pure ..) ▸ hq
 refine hl ?_
 show wpAny _ _ (field (.ref z) 1 >>= _) _ _ _
 refine wpAny_bind (wpAny_field hz rfl (x := .bool b) rfl ?_)
 cases b with
 | true => exact wpAny_pure (h s.heap hz ⟨rfl, fun ι ι => rfl⟩)
 | false =>
  show wpAny _ _ (setField (.ref z) 1 (.bool true) >>= _) _ _ _
  exact wpAny_bind (wpAny_setField_rec hz (Nat.le_of_ble_eq_true rfl) fun h' hz' hs' => wpAny_pure (h h' hz' hs'))
theorem zip2_item {o : Obj} {Q : VP} (zI : z ≠ i1) (zJ : z ≠ i2) (IJ : i1 ≠ i2) (hz : IsZ2 s.heap z TI TO T b) (hT : s.heap.get? T = some o) (hTI : IsPair s.heap TI (.ref i1) (.ref i2)) (h1 : s.heap.IsListIter i1 l1 k) (h2 : s.heap.IsListIter i2 l2 k) (hl1 : s.heap.get? l1 = some (lstO xs n1)) (hl2 : s.heap.get? l2 = some (lstO ys n2)) (hx : xs[k]? = some x) (hy : ys[k]? = some y)
  (hQ : ∀ h', IsZ2 h' z TI TO T true → h'.IsListIter i1 l1 (k + 1) → h'.IsListIter i2 l2 (k + 1) → (∀ b o, b ≠ z → b ≠ i1 → b ≠ i2 → s.heap.get? b = some o → h'.get? b = some o) → h'.objs.size = s.heap.objs.size → Q (.ref h'.objs.size) { s with heap := h'.push { cls := .type "tuple", data := .seq #[x, y] } }) :
  wpAny (model PW w) A (Builtin.«zip.__next__» ⟨[.ref z], []⟩) (fun fin s' => ∃ v, fin = .done (.ret v) ∧ Q v s') E s := by
 show wpAny _ _ (field (.ref z) 2 >>= _) _ _ _
 refine wpAny_bind (wpAny_field hz rfl (x := .bool false) rfl ?_)
 show wpAny _ _ (field (.ref z) 3 >>= _) _ _ _
 refine wpAny_bind (wpAny_field hz rfl (x := .ref TI) rfl ?_)
 refine wpAny_bind (wpAny_seqItems hTI rfl ?_)
 show wpAny _ _ (Builtin.SmallTypes.ownedTupleIsFree (.ref z) >>= _) _ _ _
 refine wpAny_bind (zip2_free hz hT fun h₁ hz₁ hs₁ => ?_)
 refine wp_f Bool.false_ne_true ?_
 have g₁ : ∀ b o, b ≠ z → s.heap.get? b = some o → h₁.get? b = some o := fun b o n e => (hs₁.2 b n).trans e
 have it1 : h₁.IsListIter i1 l1 k := let ⟨o, e, r⟩ := h1; ⟨o, g₁ _ _ (Ne.symm zI) e, r⟩
 have it2 : h₁.IsListIter i2 l2 k := let ⟨o, e, r⟩ := h2; ⟨o, g₁ _ _ (Ne.symm zJ) e, r⟩
 have lz1 : l1 ≠ z := ne_of_cls hl1 hz (by show Value.type "list" ≠ Value.type "zip"; decide)
 have lz2 : l2 ≠ z := ne_of_cls hl2 hz (by show Value.type "list" ≠ Value.type "zip"; decide)
 refine wpAny_bind ?_
 refine wp_eq forInA2 ?_
 refine wpAny_bind (wpAny_bind (wpAny_holding ?_))
 show wpAny _ _ (Builtin.SmallTypes.nextOf (.ref i1) >>= _) _ _ _
 refine wpAny_bind (wpAny_nextOf_list_item it1 ⟨_, g₁ _ _ lz1 hl1, rfl, _, rfl⟩ hx fun h₂ j1 hs2 => wpAny_pure ?_)
 refine wpAny_pure ?_
 replace hs2 : Heap.SameBut i1 h₁ h₂ := hs2
 have l1i : ∀ {l : Addr} {vs : Array Value} {n : Nat}, s.heap.get? l = some (lstO vs n) → l ≠ i1 ∧ l ≠ i2 := fun {l vs n} e => ⟨(let ⟨o, e', hc, _⟩ := h1; ne_of_cls e e' (by rw [hc]; show Value.type "list" ≠ Value.type "list_iterator"; decide)), (let ⟨o, e', hc, _⟩ := h2; ne_of_cls e e' (by rw [hc]; show Value.type "list" ≠ Value.type "list_iterator"; decide))⟩
 have it2' : h₂.IsListIter i2 l2 k := let ⟨o, e, r⟩ := it2; ⟨o, (hs2.2 _ (Ne.symm IJ)).trans e, r⟩
 dsimp only
 refine wpAny_bind (wpAny_bind (wpAny_holding ?_))
 show wpAny _ _ (Builtin.SmallTypes.nextOf (.ref i2) >>= _) _ _ _
 refine wpAny_bind (wpAny_nextOf_list_item it2' ⟨_, (hs2.2 _ (l1i hl2).1).trans (g₁ _ _ lz2 hl2), rfl, _, rfl⟩ hy fun h₃ j2 hs3 => wpAny_pure ?_)
 replace hs3 : Heap.SameBut i2 h₂ h₃ := hs3
 refine wpAny_pure (wpAny_pure ?_)
 show wpAny _ _ (newTuple [x, y] >>= _) _ _ _
 refine wpAny_bind (wpAny_newTuple ?_ (by simp [sizeLine]))
 refine wpAny_pure ⟨_, rfl, ?_⟩
 exact hQ h₃ ((hs3.2 _ zJ).trans ((hs2.2 _ zI).trans hz₁)) (let ⟨o, e, r⟩ := j1; ⟨o, (hs3.2 _ IJ).trans e, r⟩) j2 (fun b o n0 n1 n2 e => (hs3.2 b n2).trans ((hs2.2 b n1).trans (g₁ b o n0 e))) (hs3.1.trans (hs2.1.trans hs₁.1))
theorem zip2_end {o : Obj} {Q : Option Value → Shared → Prop} (hh : A.handled = none) (zI : z ≠ i1) (hz : IsZ2 s.heap z TI TO T b) (hT : s.heap.get? T = some o) (hTI : IsPair s.heap TI (.ref i1) (.ref i2)) (h1 : s.heap.IsListIter i1 l1 k) (hl1 : s.heap.get? l1 = some (lstO xs n1)) (hx : xs[k]? = none)
  (hQ : ∀ h', (∀ b o, b ≠ z → b ≠ i1 → s.heap.get? b = some o → h'.get? b = some o) → Q none { s with heap := h' }) : wpAny (model PW w) A (pyNext (.ref z)) Q E s := by
 have hTy : s.TypeIs (.ref z) "zip" := ⟨_, hz, rfl⟩
 unfold pyNext
 refine wpAny_bind (wpAny_attempt (wpAny_callSpecial?_slot (name := Str.ofString "__next__") hTy PySem.F.slot_zip_next (wpAny_call_entry PySem.F.slot_zip_next hTy PySem.F.entry_zip_next ?_ (PySem.F.args_zip_next_1 _))))
 show wpAny _ _ (field (.ref z) 2 >>= _) _ _ _
 refine wpAny_bind (wpAny_field hz rfl (x := .bool false) rfl ?_)
 show wpAny _ _ (field (.ref z) 3 >>= _) _ _ _
 refine wpAny_bind (wpAny_field hz rfl (x := .ref TI) rfl ?_)
 refine wpAny_bind (wpAny_seqItems hTI rfl ?_)
 show wpAny _ _ (Builtin.SmallTypes.ownedTupleIsFree (.ref z) >>= _) _ _ _
 refine wpAny_bind (zip2_free hz hT fun h₁ hz₁ hs₁ => ?_)
 refine wp_f Bool.false_ne_true ?_
 have g₁ : ∀ b o, b ≠ z → s.heap.get? b = some o → h₁.get? b = some o := fun b o n e => (hs₁.2 b n).trans e
 have it1 : h₁.IsListIter i1 l1 k := let ⟨o, e, r⟩ := h1; ⟨o, g₁ _ _ (Ne.symm zI) e, r⟩
 have lz1 : l1 ≠ z := ne_of_cls hl1 hz (by show Value.type "list" ≠ Value.type "zip"; decide)
 refine wpAny_bind ?_
 refine wp_eq forInA2 ?_
 refine wpAny_bind (wpAny_bind (wpAny_holding ?_))
 show wpAny _ _ (Builtin.SmallTypes.nextOf (.ref i1) >>= _) _ _ _
 refine wpAny_bind (wpAny_nextOf_list_end (A := A.in1) hh it1 ⟨_, g₁ _ _ lz1 hl1, rfl, _, rfl⟩ hx fun h₂ e hk he => ?_)
 obtain ⟨oe, ho, hc⟩ := he
 refine wpAny_bind (wpAny_isInstance (T := "StopIteration") (b := true) ⟨oe, ho, hc⟩ isSubtype_stop ?_)
 exact wpAny_pure (hQ _ fun b o n0 n1 e => hk b o n1 (g₁ b o n0 e))
theorem zip2_next {o : Obj} {Q : Option Value → Shared → Prop} (zI : z ≠ i1) (zJ : z ≠ i2) (IJ : i1 ≠ i2) (hz : IsZ2 s.heap z TI TO T b) (hT : s.heap.get? T = some o) (hTI : IsPair s.heap TI (.ref i1) (.ref i2)) (h1 : s.heap.IsListIter i1 l1 k) (h2 : s.heap.IsListIter i2 l2 k) (hl1 : s.heap.get? l1 = some (lstO xs n1)) (hl2 : s.heap.get? l2 = some (lstO ys n2)) (hx : xs[k]? = some x) (hy : ys[k]? = some y)
  (hQ : ∀ h', IsZ2 h' z TI TO T true → h'.IsListIter i1 l1 (k + 1) → h'.IsListIter i2 l2 (k + 1) → (∀ b o, b ≠ z → b ≠ i1 → b ≠ i2 → s.heap.get? b = some o → h'.get? b = some o) → h'.objs.size = s.heap.objs.size → Q (some (.ref h'.objs.size)) { s with heap := h'.push { cls := .type "tuple", data := .seq #[x, y] } }) :
  wpAny (model PW w) A (pyNext (.ref z)) Q E s := by
 have hTy : s.TypeIs (.ref z) "zip" := ⟨_, hz, rfl⟩
 unfold pyNext
 exact wpAny_bind (wpAny_attempt (wpAny_callSpecial?_slot (name := Str.ofString "__next__") hTy PySem.F.slot_zip_next (wpAny_call_entry PySem.F.slot_zip_next hTy PySem.F.entry_zip_next (zip2_item (Q := fun v s' => wpAny _ _ (pure (some v)) Q E s') zI zJ IJ hz hT hTI h1 h2 hl1 hl2 hx hy fun h' a1 a2 a3 a4 a5 => wpAny_pure (hQ h' a1 a2 a3 a4 a5)) (PySem.F.args_zip_next_1 _))))
end
end Mine
namespace Mine
section
variable {w : World} {A : Around} {E : VP} {s : Shared} {z TI TO S : Addr} {n : Nat}
theorem list_zip {Q : VP} (hz : IsZip s.heap z TI TO .none) (J : Nat → Array Value → Shared → Prop) (K : Array Value → Shared → Prop) (hS : ∀ i acc s', J i acc s' → acc.size = i ∧ ∃ c, s'.heap.get? s.heap.objs.size = some (lstO acc c)) (hn : n ≤ 100000)
  (start : ∀ h' c, (∀ b o, s.heap.get? b = some o → h'.get? b = some o) → h'.get? s.heap.objs.size = some (lstO #[] c) → h'.objs.size = s.heap.objs.size + 1 → J 0 #[] { s with heap := h' })
  (item : ∀ {A : Around} (i : Nat) (acc : Array Value) (s' : Shared) (Q : Option Value → Shared → Prop) (E : VP), i < n → J i acc s' → (∀ v s'', (∃ c, s''.heap.get? s.heap.objs.size = some (lstO acc c)) → J (i + 1) (acc.push v) { s'' with heap := s''.heap.update s.heap.objs.size (Obj.mapSeq (·.push v)) } → Q (some v) s'') → wpAny (model PW w) A (pyNext (.ref z)) Q E s')
  (fin : ∀ {A : Around} (acc : Array Value) (s' : Shared) (Q : Option Value → Shared → Prop) (E : VP), A.handled = none → J n acc s' → (∀ s'', K acc s'' → Q none s'') → wpAny (model PW w) A (pyNext (.ref z)) Q E s')
  (hh : A.handled = none) (hQ : ∀ acc s', K acc s' → Q (.ref s.heap.objs.size) s') : wpAny (model PW w) A (call (.type "list") [.ref z]) Q E s := by
 refine callType_codes (Q₁ := fun obj s₁ => obj = .ref s.heap.objs.size ∧ s₁ = { s with heap := s.heap.push { cls := .type "list", data := .seq #[] } }) PySem.F.called_list (PySem.F.typeCall_list_1 _) PySem.F.entry_list_init
  (code_list_new _ ⟨rfl, rfl⟩) fun obj s₁ h₁ => ?_
 obtain ⟨rfl, rfl⟩ := h₁
 have hS0 : (s.heap.push { cls := .type "list", data := .seq #[] }).get? s.heap.objs.size = some { cls := .type "list", data := .seq #[] } := Heap.get?_push_size _ rfl
 refine ⟨⟨_, hS0, rfl⟩, PySem.F.args_list_init_2 _ _, ?_⟩
 show wpAny _ A.in1.in1 (do let old ← Builtin.List.listItems (.ref s.heap.objs.size); Builtin.List.listUpdate (.ref s.heap.objs.size) (fun ι => #[]); letGo old.toList.reverse; Builtin.List.listExtendWith (.ref s.heap.objs.size) (.ref z) .none) _ _ _
 refine wpAny_bind ?_
 unfold Builtin.List.listItems
 refine wpAny_bind (wpAny_seqItems hS0 rfl (wpAny_pure ?_))
 show wpAny _ _ (updateSeq s.heap.objs.size (fun ι => #[]) >>= fun ι => letGo (#[] : Array Value).toList.reverse >>= fun ι => Builtin.List.listExtendWith (.ref s.heap.objs.size) (.ref z) .none) _ _ _
 refine wpAny_bind (wpAny_updateSeq hS0 rfl ?_)
 have hS2 := Heap.get?_update_self (Obj.mapSeq (fun ι => (#[] : Array Value))) hS0 rfl
 refine wpAny_bind (wpAny_letGo ?_)
 have neS : ∀ {b o}, s.heap.get? b = some o → b ≠ s.heap.objs.size := fun e => Nat.ne_of_lt (Heap.lt_size e)
 have up : ∀ b o, s.heap.get? b = some o → ((s.heap.push { cls := .type "list", data := .seq #[] }).update s.heap.objs.size (Obj.mapSeq fun ι => #[])).get? b = some o := fun b o e => (Heap.get?_update_other _ _ (Ne.symm (neS e))).trans (Heap.get?_push_of_some _ e)
 have zu := (Heap.size_update (s.heap.push { cls := .type "list", data := .seq #[] }) s.heap.objs.size (Obj.mapSeq fun ι => #[])).trans (Heap.size_push ..)
 dsimp only
 generalize (s.heap.push { cls := .type "list", data := .seq #[] }).update s.heap.objs.size (Obj.mapSeq fun ι => #[]) = h₁ at *
 have hz₁ : IsZip h₁ z TI TO .none := up _ _ hz
 have hT : Shared.TypeIs { s with heap := h₁ } (.ref z) "zip" := ⟨_, hz₁, rfl⟩
 have hSz : s.heap.objs.size ≠ z := Ne.symm (neS hz)
 unfold Builtin.List.listExtendWith
 refine wpAny_bind (wpAny_typeOf hT ?_)
 have h1 : Builtin.List.listSameRef (.ref s.heap.objs.size) (.ref z) = false := by simp [Builtin.List.listSameRef, hSz]
 have h2 : (Value.type "zip" == Value.type "list") = false := by decide
 have h3 : (Value.type "zip" == Value.type "tuple") = false := by decide
 refine wp_f (by rw [h1, h2, h3]; decide) ?_
 refine wpAny_bind (wpAny_pyIter_zip hz₁ ?_)
 refine wpAny_bind (wpAny_holding ?_)
 unfold Builtin.List.listLengthHint
 refine wpAny_bind (wpAny_specialOf hT zip_no_len ?_)
 show wpAny _ _ (specialOf (Value.ref z) (Str.ofString "__length_hint__") >>= _) _ _ _
 refine wpAny_bind (wpAny_specialOf hT zip_no_hint ?_)
 refine wpAny_pure ?_
 show wpAny _ _ (rule "list.extend.makes-room" >>= fun ι => Builtin.List.listTouch (.ref s.heap.objs.size) >>= fun ι =>
  again (.builtin "list.extend.loop" ⟨[.ref s.heap.objs.size, .ref z, .none], []⟩)) _ _ _
 refine wpAny_bind (wpAny_rule ?_)
 refine wpAny_bind ?_
 show wpAny _ _ (updateSeq s.heap.objs.size (·.push .none) >>= fun ι => updateSeq s.heap.objs.size (·.pop)) _ _ _
 refine wpAny_bind (wpAny_updateSeq hS2 rfl ?_)
 have hS3 := Heap.get?_update_self (Obj.mapSeq (·.push Value.none)) hS2 rfl
 refine wpAny_updateSeq (hz := by seq_fits) hS3 rfl ?_
 have hS4 := Heap.get?_update_self (Obj.mapSeq (·.pop)) hS3 rfl
 refine wpAny_pure ⟨plainId_quiet PySem.F.plain_extend_loop _, ?_⟩
 have j0 := start _ _ (fun b o e => (Heap.get?_update_other _ _ (Ne.symm (neS e))).trans ((Heap.get?_update_other _ _ (Ne.symm (neS e))).trans (up b o e))) hS4 ((Heap.size_update ..).trans ((Heap.size_update ..).trans zu))
 exact ext_loop (A := A.in1) (res := .none) (R := wants (fun r s₂ => r = Value.none ∧ Q (Value.ref s.heap.objs.size) s₂) E) J K hS hn (fun i acc s' Q E => item i acc s' Q E) (fun acc s' Q E => fin acc s' Q E hh) (fun acc s' j => ⟨rfl, hQ acc s' j⟩) n 0 #[] _ rfl (Nat.zero_le _) j0
end
end Mine
namespace Mine
structure LZ (sA : Shared) (S TI TO : Addr) (xs ys : Array Value) (i : Nat) (acc : Array Value) (s : Shared) : Prop where
 old : ∀ b o, sA.heap.get? b = some o → s.heap.get? b = some o
 gens : s.gens = sA.gens
 os : s.os = sA.os
 sz : acc.size = i
 lst : ∃ c, s.heap.get? S = some (lstO acc c)
 tup : ∀ j, j < i → ∃ T x y, acc[j]? = some (.ref T) ∧ xs[j]? = some x ∧ ys[j]? = some y ∧ s.heap.IsTuple T #[x, y] ∧ sA.heap.get? T = none ∧ T ≠ TI ∧ T ≠ TO
structure LV (z TI TO i1 i2 l1 l2 : Addr) (i : Nat) (s : Shared) : Prop where
 zip : (i = 0 ∧ IsZip s.heap z TI TO .none ∧ IsPair s.heap TO .none .none) ∨ ∃ T b o, IsZ2 s.heap z TI TO T b ∧ s.heap.get? T = some o ∧ o.cls = .type "tuple"
 tin : IsPair s.heap TI (.ref i1) (.ref i2)
 it1 : s.heap.IsListIter i1 l1 i
 it2 : s.heap.IsListIter i2 l2 i
 out : ∃ o, s.heap.get? TO = some o ∧ o.cls = .type "tuple"
theorem tup_ne {h : Heap} {T b : Addr} {its : Array Value} {o : Obj} (t : h.IsTuple T its) (e : h.get? b = some o) (hc : o.cls ≠ .type "tuple") : T ≠ b := fun q => by
 obtain ⟨o', e', c, _⟩ := t
 rw [q, e] at e'; cases e'; exact hc c
section
variable {w : World} {mg mb : NM} {b₀ : Heap} {A : Around} {E : VP} {sA s s' : Shared} {S z TI TO i1 i2 l1 l2 T : Addr} {xs ys acc : Array Value} {x y : Value} {i n n1 n2 : Nat}
theorem lz_push {c : Nat} (Z : LZ sA S TI TO xs ys i acc s) (old : ∀ b o, sA.heap.get? b = some o → s'.heap.get? b = some o) (hg : s'.gens = sA.gens) (ho : s'.os = sA.os) (hS : s'.heap.get? S = some (lstO acc c))
  (kt : ∀ b o, s.heap.get? b = some o → o.cls = .type "tuple" → b ≠ TI → b ≠ TO → s'.heap.get? b = some o) (hT : s'.heap.IsTuple T #[x, y]) (fT : sA.heap.get? T = none) (t1 : T ≠ TI) (t2 : T ≠ TO) (hx : xs[i]? = some x) (hy : ys[i]? = some y) (fS : sA.heap.get? S = none) :
  LZ sA S TI TO xs ys (i + 1) (acc.push (.ref T)) { s' with heap := s'.heap.update S (Obj.mapSeq (·.push (.ref T))) } := by
 have up : ∀ b o, b ≠ S → s'.heap.get? b = some o → (s'.heap.update S (Obj.mapSeq (·.push (.ref T)))).get? b = some o := fun b o n e => (Heap.get?_update_other _ _ (Ne.symm n)).trans e
 have hn := Heap.get?_update_self (Obj.mapSeq (·.push (.ref T))) hS rfl
 rw [mapSeq_push] at hn
 have ut : ∀ {b its}, s'.heap.IsTuple b its → Heap.IsTuple (s'.heap.update S (Obj.mapSeq (·.push (.ref T)))) b its := fun t => let ⟨o, e, r⟩ := t; ⟨o, up _ _ (tup_ne t hS (by show Value.type "list" ≠ Value.type "tuple"; decide)) e, r⟩
 refine ⟨fun b o e => up b o (fun q => by rw [q, fS] at e; exact no_some e) (old b o e), hg, ho, by rw [Array.size_push, Z.sz], ⟨_, hn⟩, fun j hj => ?_⟩
 rcases Nat.lt_or_ge j i with q | q
 ·obtain ⟨T', x', y', a1, a2, a3, ⟨o, a4, hc, r⟩, a5, a6, a7⟩ := Z.tup j q
  exact ⟨T', x', y', by rw [Array.getElem?_push, if_neg (by rw [Z.sz]; lia)]; exact a1, a2, a3, ut ⟨o, kt _ _ a4 hc a6 a7, hc, r⟩, a5, a6, a7⟩
 ·obtain rfl : j = i := by lia
  exact ⟨T, x, y, by rw [Array.getElem?_push, if_pos Z.sz.symm], hx, hy, ut hT, fT, t1, t2⟩
theorem lz_item {A : Around} {Q : Option Value → Shared → Prop} {E : VP} (D : ZipApart z TI TO i1 i2 l1 l2) (hl1 : sA.heap.get? l1 = some (lstO xs n1)) (hl2 : sA.heap.get? l2 = some (lstO ys n2)) (fz : sA.heap.get? z = none) (f1 : sA.heap.get? i1 = none) (f2 : sA.heap.get? i2 = none) (fI : sA.heap.get? TI = none) (fO : sA.heap.get? TO = none) (fS : sA.heap.get? S = none)
  (hx : xs[i]? = some x) (hy : ys[i]? = some y) (Z : LZ sA S TI TO xs ys i acc s) (W : LV z TI TO i1 i2 l1 l2 i s)
  (h : ∀ v s', (∃ c, s'.heap.get? S = some (lstO acc c)) → LZ sA S TI TO xs ys (i + 1) (acc.push v) { s' with heap := s'.heap.update S (Obj.mapSeq (·.push v)) } ∧ LV z TI TO i1 i2 l1 l2 (i + 1) { s' with heap := s'.heap.update S (Obj.mapSeq (·.push v)) } → Q (some v) s') :
  wpAny (model PW w) A (pyNext (.ref z)) Q E s := by
 obtain ⟨hzip, tin, it1, it2, oO, hO, cO⟩ := W
 obtain ⟨c, hS⟩ := Z.lst
 have L1 := Z.old _ _ hl1
 have L2 := Z.old _ _ hl2
 have Si : ∀ {j l k}, s.heap.IsListIter j l k → S ≠ j := fun ⟨o, e, hc, _⟩ => ne_of_cls hS e (by rw [hc]; show Value.type "list" ≠ Value.type "list_iterator"; decide)
 have S1 := Si it1
 have S2 := Si it2
 have SI : S ≠ TI := ne_of_cls hS tin (by show Value.type "list" ≠ Value.type "tuple"; decide)
 have Ti : ∀ {j l k T o}, s.heap.IsListIter j l k → s.heap.get? T = some o → o.cls = .type "tuple" → T ≠ j := fun ⟨o, e, hc, _⟩ e' hc' => ne_of_cls e' e (by rw [hc, hc']; show Value.type "tuple" ≠ Value.type "list_iterator"; decide)
 have up : ∀ {h : Heap} {v : Value} {b o}, b ≠ S → h.get? b = some o → (h.update S (Obj.mapSeq (·.push v))).get? b = some o := fun n e => (Heap.get?_update_other _ _ (Ne.symm n)).trans e
 have upi : ∀ {h : Heap} {v : Value} {j l k}, S ≠ j → h.IsListIter j l k → (h.update S (Obj.mapSeq (·.push v))).IsListIter j l k := fun n ⟨o, e, r⟩ => ⟨o, up (Ne.symm n) e, r⟩
 have fr : ∀ {b : Addr} {o}, s.heap.get? b = some o → s.heap.objs.size ≠ b := fun e => Nat.ne_of_gt (Heap.lt_size e)
 have fsz : sA.heap.get? s.heap.objs.size = none := by
  cases q : sA.heap.get? s.heap.objs.size with
  | none => rfl
  | some o => exact absurd (Heap.lt_size (Z.old _ _ q)) (Nat.lt_irrefl _)
 have nA : ∀ {b : Addr} {o}, sA.heap.get? b = some o → b ≠ z ∧ b ≠ TO ∧ b ≠ i1 ∧ b ≠ i2 ∧ b ≠ TI := fun e =>
  ⟨fun q => (by rw [q, fz] at e; exact no_some e), fun q => (by rw [q, fO] at e; exact no_some e), fun q => (by rw [q, f1] at e; exact no_some e), fun q => (by rw [q, f2] at e; exact no_some e), fun q => (by rw [q, fI] at e; exact no_some e)⟩
 rcases hzip with ⟨rfl, hz, hTO⟩ | ⟨T, b, o, hz, hT, hTc⟩
 ·have Sz : S ≠ z := ne_of_cls hS hz (by show Value.type "list" ≠ Value.type "zip"; decide)
  have SO : S ≠ TO := ne_of_cls hS hTO (by show Value.type "list" ≠ Value.type "tuple"; decide)
  refine wpAny_pyNext_zip_item D hz tin hTO it1 it2 ⟨_, L1, rfl, _, rfl⟩ ⟨_, L2, rfl, _, rfl⟩ hx hy fun h' a1 a2 a3 a4 a5 a6 a7 => ?_
  have hS' : h'.get? S = some (lstO acc c) := a7 _ _ Sz SO S1 S2 hS
  have sT : s.heap.objs.size ≠ S := fr hS
  refine h _ _ ⟨c, hS'⟩ ⟨lz_push (s' := { s with heap := h' }) Z (fun b o e => let ⟨e1, e2, e3, e4, _⟩ := nA e; a7 b o e1 e2 e3 e4 (Z.old _ _ e)) Z.gens Z.os hS' (fun b o e hc q1 q2 => a7 b o (ne_of_cls e hz (by rw [hc]; show Value.type "tuple" ≠ Value.type "zip"; decide)) q2 (Ti it1 e hc) (Ti it2 e hc) e)
   ⟨_, a5, rfl, _, rfl⟩ fsz (fr tin) (fr hTO) hx hy fS, .inr ⟨_, false, _, up (Ne.symm Sz) a1, up sT a5, rfl⟩, up (Ne.symm SI) (a7 _ _ D.TIz D.TITO D.TIi1 D.TIi2 tin), upi S1 a3, upi S2 a4, _, up (Ne.symm SO) a2, rfl⟩
 ·have Sz : S ≠ z := ne_of_cls hS hz (by show Value.type "list" ≠ Value.type "zip"; decide)
  refine zip2_next (Ne.symm D.i1z) (Ne.symm D.i2z) D.i12 hz hT tin it1 it2 L1 L2 hx hy fun h' a1 a2 a3 a4 a5 => ?_
  have pu : ∀ {b o}, h'.get? b = some o → (h'.push { cls := .type "tuple", data := .seq #[x, y] }).get? b = some o := fun e => Heap.get?_push_of_some _ e
  have pn : (h'.push { cls := .type "tuple", data := .seq #[x, y] }).get? h'.objs.size = some { cls := .type "tuple", data := .seq #[x, y] } := Heap.get?_push_size _ rfl
  rw [a5] at pn ⊢
  have hS' : h'.get? S = some (lstO acc c) := a4 _ _ Sz S1 S2 hS
  refine h _ _ ⟨c, pu hS'⟩ ⟨lz_push (s' := { s with heap := h'.push { cls := .type "tuple", data := .seq #[x, y] } }) Z (fun b o e => let ⟨e1, _, e3, e4, _⟩ := nA e; pu (a4 b o e1 e3 e4 (Z.old _ _ e))) Z.gens Z.os (pu hS') (fun b o e hc q1 q2 => pu (a4 b o (ne_of_cls e hz (by rw [hc]; show Value.type "tuple" ≠ Value.type "zip"; decide)) (Ti it1 e hc) (Ti it2 e hc) e))
   ⟨_, pn, rfl, _, rfl⟩ fsz (fr tin) (fr hO) hx hy fS, .inr ⟨T, true, o, up (Ne.symm Sz) (pu a1), up (ne_of_cls hT hS (by rw [hTc]; show Value.type "tuple" ≠ Value.type "list"; decide)) (pu (a4 _ _ (ne_of_cls hT hz (by rw [hTc]; show Value.type "tuple" ≠ Value.type "zip"; decide)) (Ti it1 hT hTc) (Ti it2 hT hTc) hT)), hTc⟩, up (Ne.symm SI) (pu (a4 _ _ D.TIz D.TIi1 D.TIi2 tin)), upi S1 (let ⟨o, e, r⟩ := a2; ⟨o, pu e, r⟩), upi S2 (let ⟨o, e, r⟩ := a3; ⟨o, pu e, r⟩), oO, up (ne_of_cls hO hS (by rw [cO]; show Value.type "tuple" ≠ Value.type "list"; decide)) (pu (a4 _ _ D.TOz D.TOi1 D.TOi2 hO)), cO⟩
end
end Mine
namespace Mine
section
variable {w : World} {mg mb : NM} {b₀ : Heap} {A : Around} {E : VP} {s s' : Shared} {l1 l2 : Addr} {xs ys : Array Value} {n n1 n2 : Nat}
theorem list_of_zip {Q : VP} (S0 : Sit w mg mb b₀ s) (hh : A.handled = none) (hl1 : s.heap.get? l1 = some (lstO xs n1)) (hl2 : s.heap.get? l2 = some (lstO ys n2)) (hx : xs.size = n) (hy : ys.size = n) (h0 : 0 < n) (hn : n ≤ 100000)
  (hret : ∀ s' S acc c, Sit w mg mb b₀ s' → Kp [] s s' → s'.heap.get? S = some (lstO acc c) → acc.size = n → (∀ j, j < n → ∃ T x y, acc[j]? = some (.ref T) ∧ xs[j]? = some x ∧ ys[j]? = some y ∧ s'.heap.IsTuple T #[x, y] ∧ s.heap.get? T = none) → s.heap.get? S = none → b₀.get? S = none → @LT.lt Nat _ 154 S → Q (.ref S) s') :
  wpAny (model PW w) A (call (.type "zip") [.ref l1, .ref l2]) (fun z s₁ => wpAny (model PW w) A (call (.type "list") [z]) Q E s₁) E s := by
 have m1 : @LT.lt Nat _ l1 s.heap.objs.size := Heap.lt_size hl1
 have m2 : @LT.lt Nat _ l2 s.heap.objs.size := Heap.lt_size hl2
 refine call_zip_2 ⟨_, hl1, rfl, _, rfl⟩ ⟨_, hl2, rfl, _, rfl⟩ fun h' hz hTI hTO hi1 hi2 hsz hk => ?_
 have sn : ∀ k : Nat, s.heap.get? (s.heap.objs.size + k) = none := fun k => by
  cases e : s.heap.get? (s.heap.objs.size + k) with
  | none => rfl
  | some o => exact absurd (Heap.lt_size e) (by show ¬ (s.heap.objs.size + k < s.heap.objs.size); lia)
 have hS : h'.objs.size = s.heap.objs.size + 5 := hsz
 have D : ZipApart (s.heap.objs.size + 4 : Nat) (s.heap.objs.size + 2 : Nat) (s.heap.objs.size + 3 : Nat) s.heap.objs.size (s.heap.objs.size + 1 : Nat) l1 l2 := by
  constructor <;> (show @Ne Nat _ _; lia)
 have n0 := sn 0
 have z4 := sn 4
 have z3 := sn 3
 have z2 := sn 2
 have z1 := sn 1
 have z5 := sn 5
 rw [Nat.add_zero] at n0
 have zz : h'.objs.size = s.heap.objs.size + 5 := hsz
 rw [← zz] at z5
 have bS : b₀.get? h'.objs.size = none := by
  cases e : b₀.get? h'.objs.size with
  | none => rfl
  | some o => rw [S0.k _ _ e] at z5; cases z5
 have lS : @LT.lt Nat _ 154 h'.objs.size := Nat.lt_of_lt_of_le S0.lt (by lia)
 have big : ∀ {b : Addr} {o}, h'.get? b = some o → b ≠ h'.objs.size := fun e => Nat.ne_of_lt (Heap.lt_size e)
 generalize (s.heap.objs.size + 4 : Nat) = z at *
 generalize (s.heap.objs.size + 3 : Nat) = TO at *
 generalize (s.heap.objs.size + 2 : Nat) = TI at *
 generalize (s.heap.objs.size + 1 : Nat) = i2 at *
 generalize s.heap.objs.size = i1 at *
 refine list_zip (s := { s with heap := h' }) (n := n) hz (fun i acc s' => LZ s h'.objs.size TI TO xs ys i acc s' ∧ LV z TI TO i1 i2 l1 l2 i s') (fun acc s' => LZ s h'.objs.size TI TO xs ys n acc s') (fun i acc s' J => ⟨J.1.sz, J.1.lst⟩) hn
  (fun h'' c k0 k1 ι => ⟨⟨fun b o e => k0 b o (hk b o e), rfl, rfl, rfl, ⟨c, k1⟩, fun j hj => absurd hj (Nat.not_lt_zero j)⟩, .inl ⟨rfl, k0 _ _ hz, k0 _ _ hTO⟩, k0 _ _ hTI, let ⟨o, e, r⟩ := hi1; ⟨o, k0 _ _ e, r⟩, let ⟨o, e, r⟩ := hi2; ⟨o, k0 _ _ e, r⟩, _, k0 _ _ hTO, rfl⟩)
  (fun i acc s' Q E hi J h => ?_) (fun acc s' Q E hh' J h => ?_) hh (fun acc s' Z => ?_)
 ·exact lz_item D hl1 hl2 z4 n0 z1 z2 z3 z5 (Array.getElem?_eq_getElem (by lia)) (Array.getElem?_eq_getElem (by lia)) J.1 J.2 h
 ·obtain ⟨Z, hzip, tin, it1, it2, oO, hO, cO⟩ := J
  rcases hzip with ⟨q, _⟩ | ⟨T, b, o, hz', hT, hTc⟩
  ·lia
  ·refine zip2_end hh' (Ne.symm D.i1z) hz' hT tin it1 (Z.old _ _ hl1) (Array.getElem?_eq_none (by lia)) fun h'' k => h _ ?_
   obtain ⟨c, hSl⟩ := Z.lst
   have n1 : ∀ {b : Addr} {o}, s'.heap.get? b = some o → o.cls ≠ .type "zip" → o.cls ≠ .type "list_iterator" → h''.get? b = some o := fun e q1 q2 => k _ _ (ne_of_cls e hz' q1) (let ⟨o, e', hc, _⟩ := it1; ne_of_cls e e' (by rw [hc]; exact q2)) e
   refine ⟨fun b o e => k b o (fun q => by rw [q, z4] at e; exact no_some e) (fun q => by rw [q, n0] at e; exact no_some e) (Z.old b o e), Z.gens, Z.os, Z.sz, ⟨c, n1 hSl (by show Value.type "list" ≠ Value.type "zip"; decide) (by show Value.type "list" ≠ Value.type "list_iterator"; decide)⟩, fun j hj => ?_⟩
   obtain ⟨T', x', y', a1, a2, a3, ⟨o, a4, hc, r⟩, a5⟩ := Z.tup j hj
   exact ⟨T', x', y', a1, a2, a3, ⟨o, n1 a4 (by rw [hc]; decide) (by rw [hc]; decide), hc, r⟩, a5⟩
 ·obtain ⟨c, hSl⟩ := Z.lst
  have z := S0.upto (s' := s') Z.gens Z.os Z.old
  exact hret s' _ acc c z.1 z.2 hSl Z.sz (fun j hj => by obtain ⟨T, x, y, a1, a2, a3, a4, a5, _⟩ := Z.tup j hj; exact ⟨T, x, y, a1, a2, a3, a4, a5⟩) z5 bS lS
noncomputable def oftF (b₀ : Heap) (S : Addr) (Ts : List Addr) (ps : List (Nat × Nat)) : Fact b₀ :=
 ⟨fun s => ∃ acc c, s.heap.get? S = some (lstO acc c) ∧ acc.size = ps.length ∧ (∀ T ∈ Ts, ∃ its, s.heap.IsTuple T its) ∧ ∀ (i : Nat) (p : Nat × Nat), ps[i]? = some p → ∃ (T : Addr) (t u : Tok), T ∈ Ts ∧ acc[i]? = some (.ref T) ∧ s.heap.IsTuple T #[.int (p.1 : Nat) t, .int (p.2 : Nat) u], S :: Ts,
  fun S k h ⟨acc, c, e, hz, ht, hp⟩ =>
   have kt : ∀ T ∈ _, ∀ its, _ → _ := fun T hT its (⟨o, e, hc, r⟩ : Heap.IsTuple _ T its) => (⟨o, k.get S e (h T (List.mem_cons_of_mem _ hT)) (by rw [hc]; exact cn), hc, r⟩ : Heap.IsTuple _ T its)
   ⟨acc, c, k.lstO S e (h _ (List.mem_cons_self ..)), hz, fun T hT => let ⟨its, q⟩ := ht T hT; ⟨its, kt T hT its q⟩, fun i p hip => let ⟨T, t, u, hT, a, b⟩ := hp i p hip; ⟨T, t, u, hT, a, kt T hT _ b⟩⟩,
  fun ⟨acc, c, e, _, ht, _⟩ a ha => by
   rcases List.mem_cons.mp ha with rfl | ha
   ·rw [e]; simp
   ·obtain ⟨its, o, e', _⟩ := ht a ha
    rw [e']; simp⟩
theorem oft_on {ns ms : List Nat} {S : Addr} {acc : Array Value} {c : Nat} (I1 : ∃ vs k, s.heap.get? l1 = some (lstO vs k) ∧ vs.size = ns.length ∧ ∀ (i n : Nat), ns[i]? = some n → ∃ t : Tok, vs[i]? = some (.int (n : Int) t)) (hxs : s.heap.get? l1 = some (lstO xs n1)) (hys : s.heap.get? l2 = some (lstO ys n2))
  (I2 : ∃ vs k, s.heap.get? l2 = some (lstO vs k) ∧ vs.size = ms.length ∧ ∀ (i n : Nat), ms[i]? = some n → ∃ t : Tok, vs[i]? = some (.int (n : Int) t)) (hlen : ns.length = ms.length) (e : s'.heap.get? S = some (lstO acc c)) (hz : acc.size = ns.length)
  (ht : ∀ j, j < ns.length → ∃ T x y, acc[j]? = some (.ref T) ∧ xs[j]? = some x ∧ ys[j]? = some y ∧ s'.heap.IsTuple T #[x, y] ∧ s.heap.get? T = none) : ∃ Ts : List Addr, (oftF b₀ S Ts (ns.zip ms)).P s' ∧ ∀ T ∈ Ts, s.heap.get? T = none := by
 obtain ⟨vs, k, e1, z1, h1⟩ := I1
 obtain ⟨us, k', e2, z2, h2⟩ := I2
 rw [hxs] at e1; cases e1
 rw [hys] at e2; cases e2
 have hall : ∀ T, Value.ref T ∈ acc.toList → (∃ its, s'.heap.IsTuple T its) ∧ s.heap.get? T = none := fun T hT => by
  obtain ⟨j, hj, q⟩ := List.mem_iff_getElem.mp hT
  rw [Array.length_toList] at hj
  obtain ⟨T', x, y, a1, _, _, a4, a5⟩ := ht j (by lia)
  rw [Array.getElem?_eq_getElem hj] at a1
  rw [Array.getElem_toList] at q
  rw [q] at a1; cases a1
  exact ⟨⟨_, a4⟩, a5⟩
 have hm : ∀ T, T ∈ acc.toList.filterMap (fun v => match v with | .ref T => some T | _ => none) → Value.ref T ∈ acc.toList := fun T hT => by
  obtain ⟨v, hv, e⟩ := List.mem_filterMap.mp hT
  split at e
  ·cases e; exact hv
  ·cases e
 refine ⟨acc.toList.filterMap (fun v => match v with | .ref T => some T | _ => none), ⟨acc, c, e, by rw [hz, List.length_zip]; lia, fun T hT => (hall T (hm T hT)).1, fun i p hp => ?_⟩, fun T hT => (hall T (hm T hT)).2⟩
 rw [List.getElem?_zip_eq_some] at hp
 obtain ⟨hp1, hp2⟩ := hp
 obtain ⟨T, x, y, a1, a2, a3, a4, _⟩ := ht i (List.getElem?_eq_some_iff.mp hp1).1
 obtain ⟨t, b1⟩ := h1 i _ hp1
 obtain ⟨u, b2⟩ := h2 i _ hp2
 rw [b1] at a2; cases a2
 rw [b2] at a3; cases a3
 exact ⟨T, t, u, List.mem_filterMap.mpr ⟨_, Array.mem_toList_iff.mpr (Array.mem_of_getElem? a1), rfl⟩, a1, a4⟩
end
end Mine
namespace Mine
noncomputable abbrev itO (l : Addr) : Obj := { cls := .type "list_iterator", data := .fields #[.ref l, .int 0 0] }
structure CompIn (w : World) (mg mb : NM) (b₀ : Heap) (s : Shared) (l I D C : Addr) (s4 : Shared) : Prop where
 H : Sc w mg mb b₀ s [] C [] [itF b₀ I l 0, lstF b₀ D #[] 0] s4
 fI : s.heap.get? I = none
 bI : b₀.get? I = none
 lI : @LT.lt Nat _ 154 I
 fD : s.heap.get? D = none
 bD : b₀.get? D = none
 lD : @LT.lt Nat _ 154 D
section
variable {U : List Addr} {w : World} {mg mb : NM} {b₀ : Heap} {s₀ s s' s₂ s4 : Shared} {A : Around} {E : VP} {L C D I l : Addr} {V : List (Str × Value)} {F : List (Fact b₀)} {env : Env}
theorem compIn_of (S : Sit w mg mb b₀ s) (X : CompAt w mg mb b₀ { s with heap := s.heap.push (itO l) } D C s4) : CompIn w mg mb b₀ s l s.heap.objs.size D C s4 := by
 have z := S.push (o := itO l) (t := s.toks)
 have up : ∀ b o, s.heap.get? b = some o → (s.heap.push (itO l)).get? b = some o := fun b o e => Heap.get?_push_of_some _ e
 have dn : ∀ {x : Addr}, (s.heap.push (itO l)).get? x = none → s.heap.get? x = none := fun {x} e => by
  cases q : s.heap.get? x with
  | none => rfl
  | some o => rw [up _ _ q] at e; cases e
 have hI : (s.heap.push (itO l)).get? s.heap.objs.size = some (itO l) := Heap.get?_push_size _ rfl
 have IC : s.heap.objs.size ≠ C := X.B.ne_old hI
 have ID : s.heap.objs.size ≠ D := fun q => by have := X.fD; rw [← q, hI] at this; cases this
 refine ⟨⟨⟨_, ⟨X.B.S, z.2.trans X.B.K no_in no_in, X.B.ns, dn X.B.fresh, X.B.b, X.B.lt⟩, fun x v e => by cases e⟩, fun f hf => ?_, ?_, no_in⟩, get_size _, S.fresh, S.lt, dn X.fD, X.bD, X.lD⟩
 ·simp only [List.mem_cons, List.not_mem_nil, or_false] at hf
  rcases hf with rfl | rfl
  ·exact ⟨⟨_, X.up _ _ hI, rfl, rfl⟩, fun q => IC (List.mem_singleton.mp q).symm⟩
  ·exact ⟨X.hD, fun q => X.ne (List.mem_singleton.mp q).symm⟩
 ·refine List.pairwise_cons.mpr ⟨fun g hg a ha q => ?_, List.pairwise_singleton ..⟩
  rw [List.mem_singleton.mp hg] at q
  rw [List.mem_singleton.mp ha] at q
  exact ID (List.mem_singleton.mp q)
theorem comp_out {V' : List (Str × Value)} {F' : List (Fact b₀)} (hC : ({ s with heap := s.heap.push (itO l) } : Shared).heap.get? C = none) (H' : Sc w mg mb b₀ s [] C V' F' s') : ∃ m', Body w mg mb b₀ { s with heap := s.heap.push (itO l) } [s.heap.objs.size] C m' s' := by
 obtain ⟨m', B, _⟩ := H'.B
 have dn : ∀ b o, b ≠ s.heap.objs.size → (s.heap.push (itO l)).get? b = some o → s.heap.get? b = some o := fun b o n e => by
  rcases Heap.get?_push_cases e with q | q
  ·exact absurd q.1 n
  ·exact q
 refine ⟨m', B.S, ⟨fun b o hb n1 n2 e => B.K.heap b o List.not_mem_nil n1 n2 (dn b o (by simpa using hb) e), ?_, ?_, B.K.os⟩, B.ns, hC, B.b, B.lt⟩
 ·intro tb e
  by_cases q : 147 = s.heap.objs.size
  ·rw [q] at e; rw [Heap.get?_push_size _ rfl] at e; cases e
  ·exact B.K.t1 tb (dn _ _ q e)
 ·intro tb e
  by_cases q : 154 = s.heap.objs.size
  ·rw [q] at e; rw [Heap.get?_push_size _ rfl] at e; cases e
  ·exact B.K.t2 tb (dn _ _ q e)
theorem kp_push {U : List Addr} {o : Obj} (k : Kp (s.heap.objs.size :: U) { s with heap := s.heap.push o } s') : Kp U s s' :=
 have up : ∀ b o', s.heap.get? b = some o' → (s.heap.push o).get? b = some o' := fun b o' e => Heap.get?_push_of_some _ e
 ⟨fun b o' hb n1 n2 e => k.heap b o' (fun q => by rcases List.mem_cons.mp q with q | q; exact absurd (Heap.lt_size e) (by rw [q]; exact Nat.lt_irrefl _); exact hb q) n1 n2 (up _ _ e), fun tb e => k.t1 tb (up _ _ e), fun tb e => k.t2 tb (up _ _ e), k.os⟩
theorem same_kp {U : List Addr} (_ : Sit w mg mb b₀ s) (hU : ∀ u ∈ U, @LT.lt Nat _ 154 u) (k : ∀ b o, b ∉ U → s.heap.get? b = some o → s'.heap.get? b = some o) (ho : s'.os = s.os) : Kp U s s' :=
 ⟨fun b o hb ι ι e => k b o hb e, fun tb e => ⟨#[], by simpa using k _ _ (fun q => absurd (hU _ q) (by decide)) e⟩, fun tb e => ⟨#[], by simpa using k _ _ (fun q => absurd (hU _ q) (by decide)) e⟩, ho⟩
theorem Sc.compE {elt target iter : Expr} {ifs : List Expr} {rest : List Comprehension} {scope : Scope} {pos : Pos} {cl : List (Str × Addr)} {Q : VP} {items : Array Value} {kk : Nat} (H : Sc w mg mb b₀ s₀ U L V F s) (hl : s.heap.get? l = some (lstO items kk)) (f : Addr → Fact b₀) (hf : ∀ D, (f D).foot = [D])
  (h : ∀ D C I s4, CompIn w mg mb b₀ s l I D C s4 → codeAny (model PW w) A (.compLoop (.ListComp elt (⟨target, iter, ifs, 0⟩ :: rest) scope pos) 0 (.ref I) (.ref D) (compEnvC scope cl C env)) (fun r s' => r = .ok .next ∧ ∃ V' F', Sc w mg mb b₀ s [] C V' (f D :: F') s') s4)
  (hQ : ∀ D s', s₀.heap.get? D = none → Sc w mg mb b₀ s₀ U L V (f D :: F) s' → Q (.ref D) s') :
  wpAny (model PW w) A (pyIter (.ref l)) (fun it s₂ => ∃ V, Sit w mg mb b₀ s₂ ∧ (∀ s' (Q : VP) E, (∀ b o, s₂.heap.get? b = some o → s'.heap.get? b = some o) → Q it s' → wpAny (model PW w) A (pyIter it) Q E s') ∧
   ∀ D C s4, CompAt w mg mb b₀ s₂ D C s4 → codeAny (model PW w) A (.compLoop (.ListComp elt (⟨target, iter, ifs, 0⟩ :: rest) scope pos) 0 it (.ref D) (compEnvC scope cl C env))
    (fun r s' => r = .ok .next ∧ (∃ m', Body w mg mb b₀ s₂ V C m' s') ∧ ∀ s'', Sit w mg mb b₀ s'' → Kp V s₂ s'' → s''.gens = s'.gens → (∀ b o, b ≠ C → s'.heap.get? b = some o → s''.heap.get? b = some o) → Q (.ref D) s'') s4) E s := by
 refine wpAny_pyIter_list ⟨_, hl, rfl, _, rfl⟩ ?_
 have hI : (s.heap.push (itO l)).IsListIter s.heap.objs.size l 0 := ⟨_, Heap.get?_push_size _ rfl, rfl, rfl⟩
 refine ⟨[s.heap.objs.size], (H.S.push (t := s.toks)).1, fun s' Q' E' k q => wpAny_pyIter_listiter (hI.at fun o e => k _ _ e) q, fun D C s4 X => codeAny_mono (h D C _ s4 (compIn_of H.S X)) fun r s' hr => ?_⟩
 obtain ⟨rfl, V', F', H'⟩ := hr
 refine ⟨rfl, comp_out X.B.fresh H', fun s'' S'' k ι kk' => ?_⟩
 have z := compIn_of H.S X
 have H₂ := H.grow ⟨S'', kp_push k⟩
 have k' : Kp [C] s' s'' := same_kp H'.S (al1 X.B.lt) (fun b o hb e => kk' b o (by simpa using hb) e) (k.os.trans (let ⟨_, B, _⟩ := H'.B; B.K.os).symm)
 have hD := H'.ok _ (List.mem_cons_self ..)
 rw [hf] at hD
 refine hQ D s'' (H.isNew z.fD z.lD) ⟨H₂.B, fun g hg => ?_, List.pairwise_cons.mpr ⟨fun g hg a ha q => ?_, H.nd⟩, H₂.un⟩
 ·rcases List.mem_cons.mp hg with rfl | hg
  ·exact ⟨(f D).kp H'.S k' (by rw [hf]; intro a ha; rw [List.mem_singleton.mp ha]; intro q; rw [List.mem_singleton.mp q] at hD; exact hD.2 (List.mem_singleton_self _)) hD.1, by
    rw [hf]
    intro q
    obtain ⟨m, B, _⟩ := H.B
    exact B.ne_new z.fD (List.mem_singleton.mp q).symm⟩
  ·exact H₂.ok g hg
 ·rw [hf, List.mem_singleton] at ha
  subst ha
  exact g.on (H.ok g hg).1 _ q z.fD
theorem Sc.compP {elt target iter : Expr} {ifs : List Expr} {rest : List Comprehension} {scope : Scope} {pos : Pos} {y : Str} {cl : List (Str × Addr)} {Q : Flow → Shared → Prop} {items : Array Value} {kk : Nat} (H : Sc w mg mb b₀ s₀ U L V F s) (hl : s.heap.get? l = some (lstO items kk)) (P : Addr → Fact b₀ → Prop)
  (h : ∀ D C I s4, CompIn w mg mb b₀ s l I D C s4 → codeAny (model PW w) A (.compLoop (.ListComp elt (⟨target, iter, ifs, 0⟩ :: rest) scope pos) 0 (.ref I) (.ref D) (compEnvC scope cl C env)) (fun r s' => r = .ok .next ∧ ∃ V' F' g, P D g ∧ (∀ a ∈ g.foot, s.heap.get? a = none) ∧ Sc w mg mb b₀ s [] C V' (g :: F') s') s4)
  (hQ : ∀ D g s', s₀.heap.get? D = none → P D g → Sc w mg mb b₀ s₀ U L ((y, .ref D) :: V) (g :: F) s' → Q .next s') (hel : autoParam (env.locals = L) tR) :
  wpAny (model PW w) A (pyIter (.ref l)) (fun it s₂ => ∃ V U m, Body w mg mb b₀ s₀ U env.locals m s₂ ∧ (∀ v ∈ V, v ∈ U ∨ s₀.heap.get? v = none) ∧ env.locals ∉ V ∧ (∀ s' (Q : VP) E, (∀ b o, s₂.heap.get? b = some o → s'.heap.get? b = some o) → Q it s' → wpAny (model PW w) A (pyIter it) Q E s') ∧
   ∀ D C s4, CompAt w mg mb b₀ s₂ D C s4 → codeAny (model PW w) A (.compLoop (.ListComp elt (⟨target, iter, ifs, 0⟩ :: rest) scope pos) 0 it (.ref D) (compEnvC scope cl C env))
    (fun r s' => r = .ok .next ∧ (∃ m', Body w mg mb b₀ s₂ V C m' s') ∧ ∀ s'', Body w mg mb b₀ s₀ U env.locals (fun z => if z = y then some (.ref D) else m z) s'' → Kp (env.locals :: V) s₂ s'' → s''.gens = s'.gens →
     (∀ b o, b ≠ C → b ≠ env.locals → s'.heap.get? b = some o → s''.heap.get? b = some o) → Q .next s'') s4) E s := by
 subst hel
 refine wpAny_pyIter_list ⟨_, hl, rfl, _, rfl⟩ ?_
 have hI : (s.heap.push (itO l)).IsListIter s.heap.objs.size l 0 := ⟨_, Heap.get?_push_size _ rfl, rfl, rfl⟩
 obtain ⟨m, B, hm⟩ := H.B
 refine ⟨[s.heap.objs.size], U, m, B.step0 (H.S.push (t := s.toks)), fun v hv => .inr (by rw [List.mem_singleton.mp hv]; exact H.isNew (get_size _) H.S.lt), not_in (Ne.symm (B.ne_new (get_size _))), fun s' Q' E' k q => wpAny_pyIter_listiter (hI.at fun o e => k _ _ e) q, fun D C s4 X => codeAny_mono (h D C _ s4 (compIn_of H.S X)) fun r s' hr => ?_⟩
 obtain ⟨rfl, V', F', f, hP, hf, H'⟩ := hr
 refine ⟨rfl, comp_out X.B.fresh H', fun s'' B'' k ι kk' => ?_⟩
 have z := compIn_of H.S X
 have k₂ : Kp [env.locals] s s'' := kp_push ⟨fun b o hb => k.heap b o (by simpa [or_comm] using hb), k.t1, k.t2, k.os⟩
 have k' : Kp [C, env.locals] s' s'' := same_kp H'.S (by simpa using ⟨X.B.lt, B.lt⟩) (fun b o hb e => by simp only [List.mem_cons, List.not_mem_nil, or_false, not_or] at hb; exact kk' b o hb.1 hb.2 e) (k.os.trans (let ⟨_, B, _⟩ := H'.B; B.K.os).symm)
 have hD := H'.ok _ (List.mem_cons_self ..)
 refine hQ D f s'' (H.isNew z.fD z.lD) hP ⟨⟨_, B'', fun x v e => ?_⟩, fun g hg => ?_, List.pairwise_cons.mpr ⟨fun g hg a ha q => ?_, H.nd⟩, un_alive H.un B''.S k₂ (fun a ha => by rw [List.mem_singleton.mp ha]; obtain ⟨o, _, _, e, _⟩ := B''.ns; rw [e]; exact Option.some_ne_none _)⟩
 ·rw [List.lookup_cons] at e
  by_cases q : x = y
  ·subst q; simp only [beq_self_eq_true] at e; simpa using e
  ·rw [show (x == y) = false from by simpa using q] at e; simpa [q] using hm x v e
 ·rcases List.mem_cons.mp hg with rfl | hg
  ·refine ⟨g.kp H'.S k' (fun a ha q => ?_) hD.1, fun q => B.ne_new (hf _ q) rfl⟩
   rcases List.mem_cons.mp q with rfl | q
   ·exact hD.2 ha
   ·exact B.ne_new (hf a ha) (List.mem_singleton.mp q)
  ·exact ⟨g.kp H.S k₂ (fun a ha q => (H.ok g hg).2 (by rw [List.mem_singleton] at q; exact q ▸ ha)) (H.ok g hg).1, (H.ok g hg).2⟩
 ·exact g.on (H.ok g hg).1 _ q (hf a ha)
theorem Sc.comp {elt target iter : Expr} {ifs : List Expr} {rest : List Comprehension} {scope : Scope} {pos : Pos} {y : Str} {cl : List (Str × Addr)} {Q : Flow → Shared → Prop} {items : Array Value} {kk : Nat} (H : Sc w mg mb b₀ s₀ U L V F s) (hl : s.heap.get? l = some (lstO items kk)) (f : Addr → Fact b₀) (hf : ∀ D, (f D).foot = [D])
  (h : ∀ D C I s4, CompIn w mg mb b₀ s l I D C s4 → codeAny (model PW w) A (.compLoop (.ListComp elt (⟨target, iter, ifs, 0⟩ :: rest) scope pos) 0 (.ref I) (.ref D) (compEnvC scope cl C env)) (fun r s' => r = .ok .next ∧ ∃ V' F', Sc w mg mb b₀ s [] C V' (f D :: F') s') s4)
  (hQ : ∀ D s', s₀.heap.get? D = none → Sc w mg mb b₀ s₀ U L ((y, .ref D) :: V) (f D :: F) s' → Q .next s') (hel : autoParam (env.locals = L) tR) :
  wpAny (model PW w) A (pyIter (.ref l)) (fun it s₂ => ∃ V U m, Body w mg mb b₀ s₀ U env.locals m s₂ ∧ (∀ v ∈ V, v ∈ U ∨ s₀.heap.get? v = none) ∧ env.locals ∉ V ∧ (∀ s' (Q : VP) E, (∀ b o, s₂.heap.get? b = some o → s'.heap.get? b = some o) → Q it s' → wpAny (model PW w) A (pyIter it) Q E s') ∧
   ∀ D C s4, CompAt w mg mb b₀ s₂ D C s4 → codeAny (model PW w) A (.compLoop (.ListComp elt (⟨target, iter, ifs, 0⟩ :: rest) scope pos) 0 it (.ref D) (compEnvC scope cl C env))
    (fun r s' => r = .ok .next ∧ (∃ m', Body w mg mb b₀ s₂ V C m' s') ∧ ∀ s'', Body w mg mb b₀ s₀ U env.locals (fun z => if z = y then some (.ref D) else m z) s'' → Kp (env.locals :: V) s₂ s'' → s''.gens = s'.gens →
     (∀ b o, b ≠ C → b ≠ env.locals → s'.heap.get? b = some o → s''.heap.get? b = some o) → Q .next s'') s4) E s :=
 H.compP hl (fun D g => g = f D) (fun D C I s4 Z => codeAny_mono (h D C I s4 Z) fun r s' ⟨e, V', F', q⟩ => ⟨e, V', F', _, rfl, (by rw [hf]; intro a ha; rw [List.mem_singleton.mp ha]; exact Z.fD), q⟩) (fun D g s' e q => by subst q; exact hQ D s' e) hel
theorem Sc.pull {items : Array Value} {kk i : Nat} {Q : Option Value → Shared → Prop} (hh : A.handled = none) (H : Sc w mg mb b₀ s₀ U L V (itF b₀ I l i :: F) s) (hl : s.heap.get? l = some (lstO items kk)) (f0 : s₀.heap.get? I = none) (bI : b₀.get? I = none) (lI : @LT.lt Nat _ 154 I) (hi : i ≤ items.size)
  (item : ∀ v s', i < items.size → items[i]? = some v → Sc w mg mb b₀ s₀ U L V (itF b₀ I l (i + 1) :: F) s' → Q (some v) s') (fin : ∀ s', i = items.size → Sc w mg mb b₀ s₀ U L V F s' → Q none s') : wpAny (model PW w) A (pyNext (.ref I)) Q E s := by
 have hIt : s.heap.IsListIter I l i := H.get (f := itF b₀ I l i) (List.mem_cons_self ..)
 have hlI : l ≠ I := by
  obtain ⟨o, e, hc, _⟩ := hIt
  exact ne_of_cls hl e (by rw [hc]; show Value.type "list" ≠ Value.type "list_iterator"; decide)
 have W := Walks.lst (w := w) (A := A) (l := l) (I := I) hh items hlI
 have stp : ∀ {h'} {tk : Nat}, (∀ b o, b ∉ [I] → s.heap.get? b = some o → h'.get? b = some o) → Sit w mg mb b₀ { s with heap := h', toks := tk } ∧ Kp [I] s { s with heap := h', toks := tk } := fun hk =>
  H.S.by (al1 bI) (by simp only [List.mem_singleton]; exact Nat.ne_of_lt (Nat.lt_trans (by decide) lI)) (by simp only [List.mem_singleton]; exact Nat.ne_of_lt lI) hk rfl rfl
 have hU : ∀ a ∈ [I], a ∈ (itF b₀ I l i).foot ∧ s₀.heap.get? a = none := fun a ha => ⟨ha, by rw [List.mem_singleton.mp ha]; exact f0⟩
 rcases Nat.lt_or_ge i items.size with hlt | hge
 ·exact W.item i s _ _ hlt ⟨hIt, _, hl, rfl, _, rfl⟩ fun v h' tk hv hSt hk => item v _ hlt hv (Sc.upd (Pre := []) (f' := itF b₀ I l (i + 1)) H (stp hk).1 (stp hk).2 hU rfl hSt.1)
 ·obtain rfl : i = items.size := Nat.le_antisymm hi hge
  exact W.done s _ _ ⟨hIt, _, hl, rfl, _, rfl⟩ fun h' tk hk => fin _ rfl (H.tail (stp hk).1 (stp hk).2 hU)
theorem comp1_sc {elt target iter : Expr} {ifs : List Expr} {scope : Scope} {pos : Pos} {cl : List (Str × Addr)} {items : Array Value} {kk : Nat} (V : List (Str × Value)) (F : Nat → List (Fact b₀)) (hh : A.handled = none) (S : Sit w mg mb b₀ s) (hl : s.heap.get? l = some (lstO items kk)) (Z : CompIn w mg mb b₀ s l I D C s4)
  (H : Sc w mg mb b₀ s [] C V (itF b₀ I l 0 :: F 0) s4)
  (turn : ∀ i v s' X, i < items.size → items[i]? = some v → Sc w mg mb b₀ s [] C V (X :: F i) s' → wpAny (model PW w) A (assign target (compEnvC scope cl C env) v) (fun ι s₂ => wpAny (model PW w) A (tests ifs (compEnvC scope cl C env)) (fun ok s3 =>
      if ok = true then wpAny (model PW w) A (eval elt (compEnvC scope cl C env)) (fun x s4 => wpAny (model PW w) A (call (.builtin "list.append") [.ref D, x]) (fun ι s5 => Sc w mg mb b₀ s [] C V (X :: F (i + 1)) s5) (fun ι ι => False) s4) (fun ι ι => False) s3
      else Sc w mg mb b₀ s [] C V (X :: F (i + 1)) s3) (fun ι ι => False) s₂) (fun ι ι => False) s')
  (own : ∀ {i : Nat} {v : Value} {s' : Shared} {Q : Unit → Shared → Prop} {E : VP}, items[i]? = some v → s'.heap.IsListIter I l (i + 1) → Q () s' → wpAny (model PW w) A (letOwnedTupleGo target (.ref I) v) Q E s' := by exact fun ι ι h => wpAny_pure h) :
  codeAny (model PW w) A (.compLoop (.ListComp elt [⟨target, iter, ifs, 0⟩] scope pos) 0 (.ref I) (.ref D) (compEnvC scope cl C env)) (fun r s' => r = .ok .next ∧ Sc w mg mb b₀ s [] C V (F items.size) s') s4 := by
 have own' := @own
 refine comp_any (fun n s' => ∃ i, n = items.size + 1 - i ∧ i ≤ items.size ∧ Sc w mg mb b₀ s [] C V (itF b₀ I l i :: F i) s') ?_ (items.size + 1) ⟨0, rfl, Nat.zero_le _, H⟩
 rintro n s' ⟨i, rfl, hi, H'⟩
 refine H'.pull hh (H'.K.lstO S hl List.not_mem_nil) Z.fI Z.bI Z.lI hi (fun v s₁ hlt hv H1 => own' hv (H1.get (List.mem_cons_self ..)) ?_) fun s₁ q H1 => ⟨rfl, q ▸ H1⟩
 refine wpAny_mono (turn i v _ _ hlt hv H1) (fun ι s₂ h₂ => wpAny_mono h₂ (fun ok s3 h₃ => ?_) fun ι ι z => z) fun ι ι z => z
 cases ok with
 | false => exact ⟨_, sub_dec hlt, i + 1, rfl, hlt, h₃⟩
 | true => exact wpAny_mono h₃ (fun x s4 h₄ => wpAny_mono h₄ (fun ι s5 h₅ => ⟨_, sub_dec hlt, i + 1, rfl, hlt, h₅⟩) fun ι ι z => z) fun ι ι z => z
theorem comp2_sc {elt target iter t2 i2 : Expr} {ifs ifs2 : List Expr} {scope : Scope} {pos : Pos} {cl : List (Str × Addr)} {items : Array Value} {kk : Nat} (V : List (Str × Value)) (F : Nat → List (Fact b₀)) (hh : A.handled = none) (S : Sit w mg mb b₀ s) (hl : s.heap.get? l = some (lstO items kk)) (Z : CompIn w mg mb b₀ s l I D C s4)
  (H : Sc w mg mb b₀ s [] C V (itF b₀ I l 0 :: F 0) s4)
  (turn : ∀ i v s' X, i < items.size → items[i]? = some v → Sc w mg mb b₀ s [] C V (X :: F i) s' → wpAny (model PW w) A (assign target (compEnvC scope cl C env) v) (fun ι s₂ => wpAny (model PW w) A (tests ifs (compEnvC scope cl C env)) (fun ok s3 =>
      if ok = true then wpAny (model PW w) A (eval i2 (compEnvC scope cl C env)) (fun x s4 => wpAny (model PW w) A (pyIter x) (fun it2 s5 => codeAny (model PW w) A (.compStart (.ListComp elt [⟨target, iter, ifs, 0⟩, ⟨t2, i2, ifs2, 0⟩] scope pos) 1 it2 (.ref D) (compEnvC scope cl C env)) (fun r s6 => r = .ok .next ∧ Sc w mg mb b₀ s [] C V (X :: F (i + 1)) s6) s5) (fun ι ι => False) s4) (fun ι ι => False) s3
      else Sc w mg mb b₀ s [] C V (X :: F (i + 1)) s3) (fun ι ι => False) s₂) (fun ι ι => False) s')
  (own : ∀ {i : Nat} {v : Value} {s' : Shared} {Q : Unit → Shared → Prop} {E : VP}, items[i]? = some v → s'.heap.IsListIter I l (i + 1) → Q () s' → wpAny (model PW w) A (letOwnedTupleGo target (.ref I) v) Q E s' := by exact fun ι ι h => wpAny_pure h)
  (hs : autoParam (∀ x, foldedSetIterable i2 (compEnvC scope cl C env) x = pure x) tI) :
  codeAny (model PW w) A (.compLoop (.ListComp elt [⟨target, iter, ifs, 0⟩, ⟨t2, i2, ifs2, 0⟩] scope pos) 0 (.ref I) (.ref D) (compEnvC scope cl C env)) (fun r s' => r = .ok .next ∧ Sc w mg mb b₀ s [] C V (F items.size) s') s4 := by
 have own' := @own
 refine comp2_outer (fun n s' => ∃ i, n = items.size + 1 - i ∧ i ≤ items.size ∧ Sc w mg mb b₀ s [] C V (itF b₀ I l i :: F i) s') ?_ (items.size + 1) ⟨0, rfl, Nat.zero_le _, H⟩ hs
 rintro n s' ⟨i, rfl, hi, H'⟩
 refine H'.pull hh (H'.K.lstO S hl List.not_mem_nil) Z.fI Z.bI Z.lI hi (fun v s₁ hlt hv H1 => own' hv (H1.get (List.mem_cons_self ..)) ?_) fun s₁ q H1 => ⟨rfl, q ▸ H1⟩
 refine wpAny_mono (turn i v _ _ hlt hv H1) (fun ι s₂ h₂ => wpAny_mono h₂ (fun ok s3 h₃ => ?_) fun ι ι z => z) fun ι ι z => z
 cases ok with
 | false => exact ⟨_, sub_dec hlt, i + 1, rfl, hlt, h₃⟩
 | true => exact wpAny_mono h₃ (fun x s4 h₄ => wpAny_mono h₄ (fun it2 s5 h₅ => codeAny_mono h₅ fun r s6 h₆ => ⟨h₆.1, _, sub_dec hlt, i + 1, rfl, hlt, h₆.2⟩) fun ι ι z => z) fun ι ι z => z
end
end Mine
namespace Mine
noncomputable def szOf (ps : List (Nat × Nat)) : List Nat := ps.flatMap fun p => List.replicate p.2 p.1
theorem szOf_step {ps : List (Nat × Nat)} {i : Nat} {p : Nat × Nat} (h : ps[i]? = some p) : szOf (ps.take (i + 1)) = szOf (ps.take i) ++ List.replicate p.2 p.1 := by
 unfold szOf
 rw [List.take_add_one, h, List.flatMap_append]
 simp
theorem szOf_len : ∀ {ps : List (Nat × Nat)}, (∀ p ∈ ps, p.2 ≤ 10) → (szOf ps).length ≤ 10 * ps.length
 | [], _ => by simp [szOf]
 | p :: ps, h => by
  have := szOf_len (ps := ps) fun q hq => h q (List.mem_cons_of_mem _ hq)
  have h0 := h p (List.mem_cons_self ..)
  unfold szOf at this ⊢
  rw [List.flatMap_cons, List.length_append, List.length_replicate, List.length_cons]
  lia
section
variable {b₀ : Heap}
theorem lit_on {h : Heap} {T : Addr} {k : Nat} (ts : List (Nat × Tok)) (bT : b₀.get? T = none) (lT : @LT.lt Nat _ 154 T) (e : h.get? T = some (lstO (ts.map fun p => Value.int ((p.1 : Nat) : Int) p.2).toArray k)) : IntsOn b₀ h T (ts.map (·.1)) :=
 ⟨bT, lT, _, _, e, by simp, fun i n hn => by
  rw [List.getElem?_map] at hn
  obtain ⟨p, hp, rfl⟩ := Option.map_eq_some_iff.mp hn
  exact ⟨p.2, by simp [hp]⟩⟩
end
section
variable {U : List Addr} {w : World} {mg mb : NM} {b₀ : Heap} {s₀ s s' : Shared} {A : Around} {E : VP} {L D S : Addr} {V : List (Str × Value)} {F Pre Post : List (Fact b₀)} {env : Env} {ns : List Nat} {Ts : List Addr} {ps : List (Nat × Nat)}
theorem Sc.addI {n : Nat} {t : Tok} {Q : VP} (H : Sc w mg mb b₀ s₀ U L V (Pre ++ intsF b₀ D ns :: Post) s) (f0 : s₀.heap.get? D = none) (hs : ns.length ≤ 100000) (hQ : ∀ s', Sc w mg mb b₀ s₀ U L V (Pre ++ intsF b₀ D (ns ++ [n]) :: Post) s' → Q .none s') :
  wpAny (model PW w) A (call (.builtin "list.append") [.ref D, .int (n : Nat) t]) Q E s := by
 have x : IntsOn b₀ s.heap D ns := H.get (f := intsF b₀ D ns) (by simp)
 obtain ⟨vs, kk, e, hz, hv⟩ := x.on
 refine lst_append H.S x.bl x.ll e (by lia) fun s' S' k' e' => hQ s' (H.upd S' k' (al1 ⟨List.mem_singleton_self _, f0⟩) rfl ⟨x.bl, x.ll, _, _, e', by simp [hz], fun i m hm => ?_⟩)
 rcases Nat.lt_or_ge i ns.length with q | q
 ·rw [List.getElem?_append_left q] at hm
  obtain ⟨u, hu⟩ := hv i m hm
  exact ⟨u, by rw [Array.getElem?_push, if_neg (by lia)]; exact hu⟩
 ·rw [List.getElem?_append_right q] at hm
  obtain rfl : i = ns.length := by
   have := (List.getElem?_eq_some_iff.mp hm).1
   simp at this; lia
  rw [Nat.sub_self] at hm
  cases hm
  exact ⟨t, by rw [Array.getElem?_push, if_pos hz.symm]⟩
noncomputable def rgF (b₀ : Heap) (I : Addr) (x left : Int) : Fact b₀ :=
 ⟨fun s => IsRangeIter s.heap I x left 1, [I], fun S k h e => k.get S e (h I (List.mem_singleton_self I)) (by exact cn), fun e => get_ne e⟩
theorem Sc.pullR {I : Addr} {n i : Nat} {Q : Option Value → Shared → Prop} (hh : A.handled = none) (H : Sc w mg mb b₀ s₀ U L V (rgF b₀ I (i : Nat) ((n : Int) - (i : Nat)) :: F) s) (f0 : s₀.heap.get? I = none) (bI : b₀.get? I = none) (lI : @LT.lt Nat _ 154 I) (hi : i ≤ n)
  (item : ∀ t s', i < n → Sc w mg mb b₀ s₀ U L V (rgF b₀ I ((i + 1 : Nat) : Int) ((n : Int) - ((i + 1 : Nat) : Int)) :: F) s' → Q (some (.int (i : Nat) t)) s') (fin : ∀ s', i = n → Sc w mg mb b₀ s₀ U L V F s' → Q none s') : wpAny (model PW w) A (pyNext (.ref I)) Q E s := by
 have hIt : IsRangeIter s.heap I (i : Nat) ((n : Int) - (i : Nat)) 1 := H.get (f := rgF b₀ I (i : Nat) ((n : Int) - (i : Nat))) (List.mem_cons_self ..)
 have stp : ∀ {h'} {tk : Nat}, (∀ b o, b ∉ [I] → s.heap.get? b = some o → h'.get? b = some o) → Sit w mg mb b₀ { s with heap := h', toks := tk } ∧ Kp [I] s { s with heap := h', toks := tk } := fun hk =>
  H.S.by (al1 bI) (by simp only [List.mem_singleton]; exact Nat.ne_of_lt (Nat.lt_trans (by decide) lI)) (by simp only [List.mem_singleton]; exact Nat.ne_of_lt lI) hk rfl rfl
 have hU : ∀ a ∈ [I], a ∈ (rgF b₀ I (i : Nat) ((n : Int) - (i : Nat))).foot ∧ s₀.heap.get? a = none := fun a ha => ⟨ha, by rw [List.mem_singleton.mp ha]; exact f0⟩
 rcases Nat.lt_or_ge i n with hlt | hge
 ·refine wpAny_pyNext_range_item hIt (by lia) fun h' hit' hs' => item _ _ hlt (Sc.upd (Pre := []) (f' := rgF b₀ I ((i + 1 : Nat) : Int) ((n : Int) - ((i + 1 : Nat) : Int))) H (stp fun b o hb e => hs'.extBut b o (by simpa using hb) e).1 (stp fun b o hb e => hs'.extBut b o (by simpa using hb) e).2 hU rfl ?_)
  have e1 : ((i : Int) + 1) = ((i + 1 : Nat) : Int) := by lia
  have e2 : ((n : Int) - (i : Int) - 1) = (n : Int) - ((i + 1 : Nat) : Int) := by lia
  rw [e1, e2] at hit'
  exact hit'
 ·obtain rfl : i = n := Nat.le_antisymm hi hge
  exact wpAny_pyNext_range_end hh hIt (by lia) fun h' he' => fin _ rfl (H.tail (stp (tk := s.toks) fun b o hb e => he' b o (by simpa using hb) e).1 (stp fun b o hb e => he' b o (by simpa using hb) e).2 hU)
noncomputable abbrev szScope : Scope := { kind := .function, names := [(".0", .local), ("size", .local), ("many", .local), ("k", .local), ("range", .globalImplicit)], isGenerator := false, isCoroutine := false, more := [] }
theorem sizes_st {q1 q2 q3 q4 q5 q6 q7 q8 q9 q10 q11 q12 : Pos} {Q : Flow → Shared → Prop} (hh : A.handled = none) (H : Sc w mg mb b₀ s₀ U L V F s) (hm : oftF b₀ S Ts ps ∈ F) (hv : V.lookup ("often" : Str) = some (.ref S)) (hps : ps.length ≤ 100) (hp2 : ∀ p ∈ ps, p.2 ≤ 10)
  (hQ : ∀ D s', s₀.heap.get? D = none → Sc w mg mb b₀ s₀ U L (("sizes", .ref D) :: V) (intsF b₀ D (szOf ps) :: F) s' → Q .next s')
  (hel : autoParam (env.locals = L) tR) (hk : autoParam (env.scope.kind = .function) tR) (hx : autoParam (env.kindOf "often" = some .local) tR) (hy : autoParam (env.kindOf "sizes" = some .local) tR) (hg : autoParam (env.globals = mainGlobals) tR) (hb : autoParam (env.builtins = builtinsNs) tR)
  (hp : autoParam ((env.scope.kind == .class || (env.scope.kind == .module && env.locals != env.globals)) = false) tR)
  (hsw : autoParam (swapsWith (.ListComp (.Name "size" q2) [⟨.Tuple [.Name "size" q3, .Name "many" q4] 0 q5, .Name "often" q6, [], 0⟩, ⟨.Name "k" q7, .Call (.Name "range" q8) [.Name "many" q9] [] q10, [], 0⟩] szScope q11) (some (.Name "sizes" q1)) q12.line env = pure true) tR) :
  wpAny (model PW w) A (exec (.Assign [.Name "sizes" q1] (.ListComp (.Name "size" q2) [⟨.Tuple [.Name "size" q3, .Name "many" q4] 0 q5, .Name "often" q6, [], 0⟩, ⟨.Name "k" q7, .Call (.Name "range" q8) [.Name "many" q9] [] q10, [], 0⟩] szScope q11) q12) env) Q E s := by
 obtain ⟨acc, c, e, hz, -, ht⟩ := H.get hm
 refine comp_assign (mg := mg) (mb := mb) (b₀ := b₀) (s₀ := s₀) (closureFor_none (by decide)) (by decide) rfl (by decide) (H.loc hv ?_ hel hk hx) (by intro _; rfl) hsw hy hp
 refine H.comp e (fun D => intsF b₀ D (szOf ps)) (fun ι => rfl) (fun D C I s4 Z => ?_) hQ hel
 refine codeAny_mono (comp2_sc [] (fun i => [intsF b₀ D (szOf (ps.take i))]) hh H.S e Z ?_ (fun i v s₁ X hi hv H1 => ?_) fun {i v s₁ Q E} hv hit h => ?_) fun r s' h => ⟨h.1, [], [], by rw [hz, List.take_length] at h; exact h.2⟩
 ·exact Sc.weak (Pre := [itF b₀ I S 0]) (Post := []) Z.H rfl ⟨Z.bD, Z.lD, #[], 0, Z.H.get (f := lstF b₀ D #[] 0) (by simp), rfl, fun i n h => by simp [szOf] at h⟩
 ·have hi' : i < ps.length := hz ▸ hi
  have hpi : ps[i]? = some ps[i] := List.getElem?_eq_getElem hi'
  have hpm := hp2 _ (List.getElem_mem hi')
  obtain ⟨T, t, u, -, hv', hT⟩ := ht i _ hpi
  refine wp_v (Option.some.inj (hv.symm.trans hv')) ?_
  refine H1.ass2 hh (H1.K.tup0 H.S hT) (fun s₂ H₂ => tests_nil ?_)
  refine ite_t rfl ?_
  rw [szOf_step hpi]
  have hsl : (szOf (ps.take i)).length ≤ 1000 := Nat.le_trans (szOf_len fun p hp => hp2 p (List.mem_of_mem_take hp)) (by rw [List.length_take]; lia)
  generalize szOf (ps.take i) = zs at *
  generalize ps[i] = p at *
  refine cutQ fun Q0 h₀ => ?_
  refine wpAny_Call_NameR (H₂.bi (v := .type "range") (by k_is) (by decide +kernel) (PyProof.Rows.callWith_type1 (spliced_cons (H₂.loc (v := .int (p.2 : Nat) u) rfl (spliced_nil (call_range_1 ?_))))) hg hb)
  have H3 := H₂.grow (H₂.S.push (o := { cls := .type "range", data := .fields #[.int 0 s₂.toks, .int (p.2 : Nat) u, .int 1 (s₂.toks + 1)] }) (t := s₂.toks + 1 + 1))
  refine h₀ _ _ ?_
  refine wpAny_pyIter_range (IsRange.new ..) (small_parts (Nat.le_trans ‹_› (by decide))) ?_
  rw [show Builtin.Range.rangeSize 0 (p.2 : Nat) 1 = ((p.2 : Nat) : Int) from by unfold Builtin.Range.rangeSize; simp; lia]
  have H4 := H3.new (H3.S.push (o := { cls := .type "range_iterator", data := .fields #[rawInt 0, rawInt (p.2 : Nat), rawInt 1] }) (t := s₂.toks + 1 + 1)) (rgF b₀ _ 0 (p.2 : Nat)) (Heap.get?_push_size _ rfl) (al1 (get_size _))
  have fR := H3.isNew (get_size _) H3.S.lt
  have bR := H3.S.fresh
  have lR := H3.S.lt
  dsimp only at H4 fR bR lR ⊢
  generalize (s₂.heap.push { cls := .type "range", data := .fields #[.int 0 s₂.toks, .int (p.2 : Nat) u, .int 1 (s₂.toks + 1)] }).objs.size = R at H4 fR bR lR ⊢
  have hit := H4.get (List.mem_cons_self ..)
  refine (fun key => compStart_one key (wpAny_pyIter_rangeiter hit key)) ?_
  ·refine comp2_inner (fun n s' => ∃ j, n = p.2 + 1 - j ∧ j ≤ p.2 ∧ Sc w mg mb b₀ s [] C [("many", .int (p.2 : Nat) u), ("size", .int (p.1 : Nat) t)] [rgF b₀ R (j : Nat) ((p.2 : Nat) - (j : Nat)), X, intsF b₀ D (zs ++ List.replicate j p.1)] s') ?_ (p.2 + 1) ⟨0, rfl, Nat.zero_le _, by simpa using H4⟩
   rintro n s' ⟨j, rfl, hj, H5⟩
   refine cutQ fun Q₁ h₁ => ?_
   refine H5.pullR hh fR bR lR hj (fun tk s6 hlt H6 => h₁ _ _ (wpAny_pure (wpAny_assign_Name (H6.st fun s7 H7 => tests_nil ?_)))) fun s6 q H6 => h₁ _ _ ⟨rfl, q ▸ H6.vars (V' := []) rfl⟩
   refine ite_t rfl ?_
   refine cutQ fun Q2 h₂ => ?_
   refine H7.loc (v := .int (p.1 : Nat) t) rfl (h₂ _ _ (Sc.addI (Pre := [rgF b₀ R ((j + 1 : Nat) : Int) ((p.2 : Int) - ((j + 1 : Nat) : Int)), X]) (Post := []) H7 Z.fD (by simp; lia) fun s8 H8 => ⟨p.2 + 1 - (j + 1), sub_dec hlt, j + 1, rfl, hlt, ?_⟩))
   rw [List.replicate_succ', ← List.append_assoc]
   exact H8.vars rfl
 ·have hi' : i < ps.length := hz ▸ (Array.getElem?_eq_some_iff.mp hv).1
  obtain ⟨T, t, u, -, hv', _⟩ := ht i ps[i] (List.getElem?_eq_getElem hi')
  rw [hv] at hv'; cases hv'
  exact wpAny_letOwnedTupleGo_listiter hit h
end
end Mine
namespace Mine
section
variable {U : List Addr} {w : World} {mg mb : NM} {b₀ : Heap} {s₀ s s' : Shared} {A : Around} {E : VP} {L : Addr} {V : List (Str × Value)} {F : List (Fact b₀)} {env : Env}
theorem Sc.newT {vs : List Value} {Q : VP} (H : Sc w mg mb b₀ s₀ U L V F s) (hz : vs.length ≤ 1000) (hQ : ∀ s' T, s₀.heap.get? T = none → Sc w mg mb b₀ s₀ U L V (tupF b₀ T vs.toArray :: F) s' → Q (.ref T) s') : wpAny (model PW w) A (newTuple vs) Q E s := by
 have z := H.S.push (o := { cls := .type "tuple", data := .seq vs.toArray }) (t := s.toks)
 exact wpAny_newTuple (hQ _ _ (H.isNew (get_size _) H.S.lt) (H.new z (tupF b₀ _ vs.toArray) ⟨_, Heap.get?_push_size _ rfl, rfl, _, rfl⟩ (al1 (get_size _)))) (by show vs.toArray.size ≤ _; rw [sizeLine_eq]; simp; lia)
theorem Sc.newI {Q : VP} (ts : List (Nat × Tok)) (H : Sc w mg mb b₀ s₀ U L V F s) (hz : ts.length ≤ 1000) (hQ : ∀ s' T, s₀.heap.get? T = none → Sc w mg mb b₀ s₀ U L V (intsF b₀ T (ts.map (·.1)) :: F) s' → Q (.ref T) s') : wpAny (model PW w) A (newList (ts.map fun p => Value.int ((p.1 : Nat) : Int) p.2)) Q E s :=
 lst_new H.S (by simp; lia) fun s3 C S3 k₃ hC nC bC lC => hQ s3 C (H.isNew nC lC) (H.new ⟨S3, k₃⟩ (intsF b₀ C _) (lit_on ts bC lC hC) (al1 nC))
noncomputable def titF (b₀ : Heap) (I l : Addr) (i : Nat) : Fact b₀ :=
 ⟨fun s => s.heap.IsTupleIter I l i, [I], fun S k h ⟨o, e, hc, r⟩ => ⟨o, k.get S e (h I (List.mem_singleton_self I)) (by rw [hc]; decide), hc, r⟩, fun ⟨_, e, _⟩ => get_ne e⟩
theorem for_tup {target : Expr} {body orelse : List Stmt} {R : Result → Shared → Prop} {l : Addr} {items : Array Value} (V : List (Str × Value)) (F : Nat → List (Fact b₀)) (hh : A.handled = none) (hl : ∀ i s', Sc w mg mb b₀ s₀ U L V (F i) s' → s'.heap.IsTuple l items) (H : Sc w mg mb b₀ s₀ U L V (F 0) s)
  (turn : ∀ i v s' X, i < items.size → items[i]? = some v → Sc w mg mb b₀ s₀ U L V (X :: F i) s' → wpAny (model PW w) A (assign target env v) (fun ι s₂ => wpAny (model PW w) A (execs body env) (fun f s3 => (f = .next ∨ f = .cont) ∧ Sc w mg mb b₀ s₀ U L V (X :: F (i + 1)) s3) (fun ι ι => False) s₂) (fun ι ι => False) s')
  (fin : ∀ s', Sc w mg mb b₀ s₀ U L V (F items.size) s' → wpAny (model PW w) A (execs orelse env) (fun f s3 => R (.ok f) s3) (fun ι ι => False) s') :
  wpAny (model PW w) A (pyIter (.ref l)) (fun it s₂ => codeAny (model PW w) A (.forLoop target it body orelse env) R s₂) E s := by
 have hl0 := hl 0 s H
 refine wpAny_pyIter_tuple hl0 ?_
 have z := H.S.push (o := { cls := .type "tuple_iterator", data := .fields #[.ref l, .int 0 0] }) (t := s.toks)
 have fI : s.heap.get? s.heap.objs.size = none := get_size _
 have bI := H.S.fresh
 have lI := H.S.lt
 have f0 := H.isNew fI lI
 have hlI : l ≠ s.heap.objs.size := let ⟨_, e, _⟩ := hl0; Nat.ne_of_lt (Heap.lt_size e)
 have hIt : (s.heap.push { cls := .type "tuple_iterator", data := .fields #[.ref l, .int 0 0] }).IsTupleIter s.heap.objs.size l 0 := ⟨_, Heap.get?_push_size _ rfl, rfl, rfl⟩
 generalize s.heap.objs.size = I at fI bI lI f0 hlI hIt
 have H0 := H.new z (titF b₀ I l 0) hIt (al1 fI)
 have W := Walks.tuple (prog := PW) (w := w) (A := A) hh I l hlI items
 have stp : ∀ {i j s' h'} {tk : Nat}, Sc w mg mb b₀ s₀ U L V (titF b₀ I l i :: F j) s' → (∀ b o, b ∉ [I] → s'.heap.get? b = some o → h'.get? b = some o) → Sit w mg mb b₀ { s' with heap := h', toks := tk } ∧ Kp [I] s' { s' with heap := h', toks := tk } := fun H' hk =>
  H'.S.by (al1 bI) (by simp only [List.mem_singleton]; exact Nat.ne_of_lt (Nat.lt_trans (by decide) lI)) (by simp only [List.mem_singleton]; exact Nat.ne_of_lt lI) hk rfl rfl
 refine codeAny_forLoop_any (fun n s' => ∃ i, n = items.size + 1 - i ∧ i ≤ items.size ∧ Sc w mg mb b₀ s₀ U L V (titF b₀ I l i :: F i) s') ?_ (items.size + 1) ⟨0, rfl, Nat.zero_le _, H0⟩
 rintro n s' ⟨i, rfl, hi, H'⟩
 have hSt : s'.heap.IsTupleIter I l i ∧ s'.heap.IsTuple l items := ⟨H'.get (List.mem_cons_self ..), hl i s' (H'.sub (List.sublist_cons_self _ _))⟩
 have hU : ∀ a ∈ [I], a ∈ (titF b₀ I l i).foot ∧ s₀.heap.get? a = none := fun a ha => ⟨ha, by rw [List.mem_singleton.mp ha]; exact f0⟩
 rcases Nat.lt_or_ge i items.size with hlt | hge
 ·refine W.item i s' _ _ hlt hSt fun v h' tk hv hSt' hk => letGo_tupleiter hSt'.1 ?_
  refine notedOf (wpAny_mono (turn i v _ _ hlt hv (Sc.upd (Pre := []) (f' := titF b₀ I l (i + 1)) H' (stp H' hk).1 (stp H' hk).2 hU rfl hSt'.1)) (fun ι s₂ h₂ => notedOf (wpAny_mono h₂ (fun f s3 h₃ => ?_) fun ι ι z => z)) fun ι ι z => z)
  have res : ∃ m, m < items.size + 1 - i ∧ ∃ i, m = items.size + 1 - i ∧ i ≤ items.size ∧ Sc w mg mb b₀ s₀ U L V (titF b₀ I l i :: F i) s3 := ⟨_, sub_dec hlt, i + 1, rfl, hlt, h₃.2⟩
  rcases h₃.1 with rfl | rfl
  ·exact res
  ·exact res
 ·obtain rfl : i = items.size := Nat.le_antisymm hi hge
  exact W.done s' _ _ hSt fun h' tk hk => notedOf (fin _ (H'.tail (stp H' hk).1 (stp H' hk).2 hU))
end
end Mine
namespace Mine
section
variable {U : List Addr} {w : World} {mg mb : NM} {b₀ : Heap} {s₀ s s' s₂ s4 : Shared} {A : Around} {E : VP} {L C D I l : Addr} {V : List (Str × Value)} {F : List (Fact b₀)} {env : Env}
theorem Kp.none_up {U : List Addr} (k : Kp U s s') (S' : Sit w mg mb b₀ s') {x : Addr} (e : s'.heap.get? x = none) (hx : x ∉ U := by exact List.not_mem_nil) : s.heap.get? x = none := by
 cases q : s.heap.get? x with
 | none => rfl
 | some o =>
  by_cases h1 : x = 147
  ·obtain ⟨tb, e1, _⟩ := S'.t1; rw [h1, e1] at e; cases e
  by_cases h2 : x = 154
  ·obtain ⟨tb, e1, _⟩ := S'.t2; rw [h2, e1] at e; cases e
  rw [k.heap x o hx h1 h2 q] at e; cases e
theorem Sc.compG {elt target iter : Expr} {ifs : List Expr} {rest : List Comprehension} {scope : Scope} {pos : Pos} {y : Str} {cl : List (Str × Addr)} {Q : Flow → Shared → Prop} {it : Value} (H : Sc w mg mb b₀ s₀ U L V F s) (S₂ : Sit w mg mb b₀ s₂) (up : ∀ b o, s.heap.get? b = some o → s₂.heap.get? b = some o) (ho : s₂.os = s.os)
  (self : ∀ s' (Q : VP) E, (∀ b o, s₂.heap.get? b = some o → s'.heap.get? b = some o) → Q it s' → wpAny (model PW w) A (pyIter it) Q E s') (f : Addr → Fact b₀) (hf : ∀ D, (f D).foot = [D])
  (h : ∀ D C s4, CompAt w mg mb b₀ s₂ D C s4 → codeAny (model PW w) A (.compLoop (.ListComp elt (⟨target, iter, ifs, 0⟩ :: rest) scope pos) 0 it (.ref D) (compEnvC scope cl C env)) (fun r s' => r = .ok .next ∧ (∃ m', Body w mg mb b₀ s [] C m' s') ∧ (f D).P s') s4)
  (hQ : ∀ D s', s₀.heap.get? D = none → Sc w mg mb b₀ s₀ U L ((y, .ref D) :: V) (f D :: F) s' → Q .next s') (hel : autoParam (env.locals = L) tR) :
  ∃ V U m, Body w mg mb b₀ s₀ U env.locals m s₂ ∧ (∀ v ∈ V, v ∈ U ∨ s₀.heap.get? v = none) ∧ env.locals ∉ V ∧ (∀ s' (Q : VP) E, (∀ b o, s₂.heap.get? b = some o → s'.heap.get? b = some o) → Q it s' → wpAny (model PW w) A (pyIter it) Q E s') ∧
   ∀ D C s4, CompAt w mg mb b₀ s₂ D C s4 → codeAny (model PW w) A (.compLoop (.ListComp elt (⟨target, iter, ifs, 0⟩ :: rest) scope pos) 0 it (.ref D) (compEnvC scope cl C env))
    (fun r s' => r = .ok .next ∧ (∃ m', Body w mg mb b₀ s₂ V C m' s') ∧ ∀ s'', Body w mg mb b₀ s₀ U env.locals (fun z => if z = y then some (.ref D) else m z) s'' → Kp (env.locals :: V) s₂ s'' → s''.gens = s'.gens →
     (∀ b o, b ≠ C → b ≠ env.locals → s'.heap.get? b = some o → s''.heap.get? b = some o) → Q .next s'') s4 := by
 subst hel
 obtain ⟨m, B, hm⟩ := H.B
 have z := H.S
 have k02 : Kp [] s s₂ := same_kp z no_in (fun b o ι e => up b o e) ho
 have dn : ∀ {b : Addr}, b ∉ (List.range s₂.heap.objs.size).filter (fun a => (s.heap.get? a).isNone) → ∀ o, s₂.heap.get? b = some o → s.heap.get? b = some o := fun {b} hb o e => by
  cases q : s.heap.get? b with
  | none => exact absurd (List.mem_filter.mpr ⟨List.mem_range.mpr (Heap.lt_size e), by rw [q]; rfl⟩) hb
  | some o' => rw [up _ _ q] at e; exact e
 have nv : ∀ {b : Addr} {o}, s.heap.get? b = some o → b ∉ (List.range s₂.heap.objs.size).filter (fun a => (s.heap.get? a).isNone) := fun e q => by
  have := (List.mem_filter.mp q).2
  rw [e] at this; cases this
 have hLn : ∃ o, s.heap.get? env.locals = some o := let ⟨o, _, _, e, _⟩ := B.ns; ⟨o, e⟩
 refine ⟨(List.range s₂.heap.objs.size).filter (fun a => (s.heap.get? a).isNone), U, m, B.step0 ⟨S₂, k02⟩, fun v hv => .inr (H.K.none_up z (by simpa using (List.mem_filter.mp hv).2) fun q => (H.un v q).1 (by simpa using (List.mem_filter.mp hv).2)), nv hLn.choose_spec, self, fun D C s4 X => codeAny_mono (h D C s4 X) fun r s' hr => ?_⟩
 obtain ⟨rfl, ⟨m', B'⟩, hP⟩ := hr
 have t147 : ∃ o, s.heap.get? 147 = some o := let ⟨_, e, _⟩ := z.t1; ⟨_, e⟩
 have t154 : ∃ o, s.heap.get? 154 = some o := let ⟨_, e, _⟩ := z.t2; ⟨_, e⟩
 refine ⟨rfl, ⟨m', B'.S, ⟨fun b o hb n1 n2 e => B'.K.heap b o List.not_mem_nil n1 n2 (dn hb o e), fun tb e => B'.K.t1 tb (dn (nv t147.choose_spec) _ e), fun tb e => B'.K.t2 tb (dn (nv t154.choose_spec) _ e), B'.K.os.trans ho.symm⟩, B'.ns, X.B.fresh, B'.b, B'.lt⟩, fun s'' B'' k ι kk' => ?_⟩
 have fD : s.heap.get? D = none := k02.none_up S₂ X.fD
 have nL : D ≠ env.locals := B.ne_new fD
 have k₂ : Kp [env.locals] s s'' := ⟨fun b o hb n1 n2 e => k.heap b o (by simp only [List.mem_cons, not_or]; exact ⟨by simpa using hb, nv e⟩) n1 n2 (up _ _ e), fun tb e => k.t1 tb (up _ _ e), fun tb e => k.t2 tb (up _ _ e), k.os.trans ho⟩
 have k' : Kp [C, env.locals] s' s'' := same_kp B'.S (by simpa using ⟨X.B.lt, B.lt⟩) (fun b o hb e => by simp only [List.mem_cons, List.not_mem_nil, or_false, not_or] at hb; exact kk' b o hb.1 hb.2 e) (k₂.os.trans B'.K.os.symm)
 refine hQ D s'' (H.isNew fD X.lD) ⟨⟨_, B'', fun x v e => ?_⟩, fun g hg => ?_, List.pairwise_cons.mpr ⟨fun g hg a ha q => ?_, H.nd⟩, un_alive H.un B''.S k₂ (fun a ha => by rw [List.mem_singleton.mp ha]; obtain ⟨o, _, _, e, _⟩ := B''.ns; rw [e]; exact Option.some_ne_none _)⟩
 ·rw [List.lookup_cons] at e
  by_cases q : x = y
  ·subst q; simp only [beq_self_eq_true] at e; simpa using e
  ·rw [show (x == y) = false from by simpa using q] at e; simpa [q] using hm x v e
 ·rcases List.mem_cons.mp hg with rfl | hg
  ·refine ⟨(f D).kp B'.S k' (fun a ha q => ?_) hP, by rw [hf]; intro q; exact nL (List.mem_singleton.mp q).symm⟩
   rw [hf, List.mem_singleton] at ha
   subst ha
   simp only [List.mem_cons, List.not_mem_nil, or_false] at q
   rcases q with q | q
   ·exact X.ne q
   ·exact nL q
  ·exact ⟨g.kp H.S k₂ (fun a ha q => (H.ok g hg).2 (by rw [List.mem_singleton] at q; exact q ▸ ha)) (H.ok g hg).1, (H.ok g hg).2⟩
 ·rw [hf, List.mem_singleton] at ha
  subst ha
  exact g.on (H.ok g hg).1 _ q fD
end
end Mine
namespace Mine
structure ToldJ (w : World) (mg mb : NM) (b₀ : Heap) (s : Shared) (A : Around) (r D z TI TO I a Lg C : Addr) (g : Nat) (its : Array Value) (ruler : List Int) (p N : Nat) (k : Int) (j : Nat) (ns : List Nat) (s' : Shared) : Prop where
 B : ∃ m, Body w mg mb b₀ s [] C m s'
 Z : ZAll w A s.heap r Lg its ruler p N a g z TI TO I k .none j s'
 Of : ZOff C z TI TO I a r Lg
 Ol : ZOff D z TI TO I a r Lg
 lf : D ≠ C
 hl : IntsOn b₀ s'.heap D ns
 b0 : s.heap.get? D = none
noncomputable abbrev tdScope : Scope := { kind := .function, names := [(".0", .local), ("k", .local), ("size", .local)], isGenerator := false, isCoroutine := false, more := [] }
section
variable {w : World} {mg mb : NM} {b₀ : Heap} {s s' : Shared} {A : Around} {r D z TI TO I a Lg C : Addr} {g : Nat} {its : Array Value} {ruler : List Int} {p N j v : Nat} {k : Int} {ns : List Nat} {env : Env} {cl : List (Str × Addr)}
theorem ints_push {h h' : Heap} {vs : Array Value} {kk n : Nat} {t : Tok} (x : IntsOn b₀ h D ns) (e : h.get? D = some (lstO vs kk)) (e' : h'.get? D = some (lstO (vs.push (.int (n : Nat) t)) (kk + 1))) : IntsOn b₀ h' D (ns ++ [n]) := by
 obtain ⟨vs', kk', e1, hz, hv⟩ := x.on
 rw [e] at e1; cases e1
 refine ⟨x.bl, x.ll, _, _, e', by simp [hz], fun i m hm => ?_⟩
 rcases Nat.lt_or_ge i ns.length with q | q
 ·rw [List.getElem?_append_left q] at hm
  obtain ⟨u, hu⟩ := hv i m hm
  exact ⟨u, by rw [Array.getElem?_push, if_neg (by lia)]; exact hu⟩
 ·rw [List.getElem?_append_right q] at hm
  obtain rfl : i = ns.length := by
   have := (List.getElem?_eq_some_iff.mp hm).1
   simp at this; lia
  rw [Nat.sub_self] at hm
  cases hm
  exact ⟨t, by rw [Array.getElem?_push, if_pos hz.symm]⟩
theorem told_turn {q3 q4 q5 q2 : Pos} (S0 : Sit w mg mb b₀ s) (R : Rm A 3) (J : ToldJ w mg mb b₀ s A r D z TI TO I a Lg C g its ruler p N k j ns s') (hj : (j : Int) < k) (hN : j + 2 ≤ N) (hgo : j < p ∨ ruler[p]? = some 0) (hval : gval ruler p (j + 1) = (v : Nat)) (hns : ns.length ≤ 1000) :
  wpAny (model PW w) A (pyNext (.ref z)) (fun r' s₁ => ∃ x, r' = some x ∧ wpAny (model PW w) A (letOwnedTupleGo (.Tuple [.Name "k" q3, .Name "size" q4] 0 q5) (.ref z) x) (fun ι s₂ => wpAny (model PW w) A (assign (.Tuple [.Name "k" q3, .Name "size" q4] 0 q5) (compEnvC tdScope cl C env) x) (fun ι s3 =>
   wpAny (model PW w) A (eval (.Name "size" q2) (compEnvC tdScope cl C env)) (fun y s4 => wpAny (model PW w) A (call (.builtin "list.append") [.ref D, y]) (fun ι s5 => ToldJ w mg mb b₀ s A r D z TI TO I a Lg C g its ruler p N k (j + 1) (ns ++ [v]) s5) (fun ι ι => False) s4) (fun ι ι => False) s3) (fun ι ι => False) s₂) (fun ι ι => False) s₁) (fun ι ι => False) s' := by
 obtain ⟨⟨m, B⟩, Z, Of, Ol, lf, hl, b0⟩ := J
 refine Z.next (S0.C.keeps S0.k) R.hh (R.dl (k := 1) (by decide)) hj hN hgo fun s₁ T tx t Z1 hT1 kp => ⟨_, rfl, ?_⟩
 have B1 := B.zstep S0 Z1.st kp Of
 refine Z1.letGo fun h₂ Z2 hs2 => ?_
 have B2 := B1.over (s' := { s₁ with heap := h₂ }) S0 Z2.st rfl rfl fun o e => hs2.extBut _ _ (Ne.symm Of.z) e
 have hT2 : Heap.IsTuple h₂ T #[.int j tx, .int (gval ruler p (j + 1)) t] := ⟨_, hs2.extBut _ _ (fun q => by
  have e1 : s₁.heap.get? z = some _ := Z1.hz
  have e2 : s₁.heap.get? T = some _ := hT1
  rw [← q, e2] at e1; exact absurd (Value.type.inj (congrArg Obj.cls (Option.some.inj e1))) (by decide)) hT1, rfl, _, rfl⟩
 rw [hval] at hT2
 refine wpAny_assign_Tuple (by exact R.hh) hT2 rfl rfl fun h₃ he3 => ?_
 have k₃ : ∀ b o, h₂.get? b = some o → h₃.get? b = some o := fun b o e => he3 b o (Nat.ne_of_lt (Heap.lt_size e)) e
 have B3 := B2.over (s' := { s₁ with heap := h₃ }) S0 (fun b o e => k₃ b o (Z2.st b o e)) rfl rfl fun o e => k₃ _ _ e
 have Z3 := Z2.grow (s' := { s₁ with heap := h₃ }) rfl k₃
 refine assignInOrder_cons (wpAny_assign_Name (B3.stG fun s4 B4 ι g₄ k₄ => ?_))
 have hXf : ∀ {mm : NM} {ss : Shared}, Body w mg mb b₀ s [] C mm ss → ∀ o, ss.heap.get? C = some o → ∀ i : Nat, o.data ≠ .fields #[.ref r, .int i 0] := fun BB o e i q => by
  obtain ⟨o', es, ep, e', hd, _⟩ := BB.ns
  have e'' : _ = some o' := e'
  rw [e] at e''; cases e''
  rw [hd] at q; cases q
 have Z4 := Z3.keep Of (hXf B3) B.fresh g₄ k₄
 refine assignInOrder_cons (wpAny_assign_Name (B4.stG fun s5 B5 ι g5 k₅ => assignInOrder_nil ?_))
 have Z5 := Z4.keep Of (hXf B4) B.fresh g5 k₅
 obtain ⟨vs, kk, e, hz, hv⟩ := id hl.on
 have hl₁ : s₁.heap.get? D = some (lstO vs kk) := by
  obtain ⟨it, _, _, itc, k1⟩ := kp.heap
  exact k1 _ _ (Ne.symm Ol.z) (Ne.symm Ol.TO) (Ne.symm Ol.I) (Ne.symm Ol.L) (fun q => by have := (itc _ (q ▸ e)).1; exact absurd (Value.type.inj this) (by decide)) e
 have hl5 : s5.heap.get? D = some (lstO vs kk) := k₅ _ _ lf (k₄ _ _ lf (k₃ _ _ (hs2.extBut _ _ (Ne.symm Ol.z) hl₁)))
 refine B5.loc (v := .int (v : Nat) t) (if_pos rfl) ?_
 refine appendG B5.S hl.bl hl.ll hl5 (by lia) fun s7 S7 K7 hl7 g7 k7 => ?_
 have Z7 := Z5.keep Ol (fun o e i q => by have e' := hl5.symm.trans e; cases e'; cases q) b0 g7 k7
 exact ⟨⟨_, B5.step S7 K7 (al1 (.inr b0)) (not_in (Ne.symm lf))⟩, Z7, Of, Ol, lf, ints_push hl e hl7, b0⟩
end
end Mine
namespace Mine
noncomputable def toldV (zs : List Nat) (j : Nat) : Nat := zs.getD (min j (zs.length - 1)) 0
noncomputable def Ends (es : List Nat) (more : Nat) : Prop := (es = [0, 9] ∧ more = 2) ∨ (es = [127, 9] ∧ more = 0) ∨ (es = [] ∧ more = 0)
theorem told_eq {zs : List Nat} {n : Nat} (more : Nat) (h : zs.length = n + 1) : (List.range (zs.length + more)).map (toldV zs) = zs ++ List.replicate more (zs.getD n 0) := by
 apply List.ext_getElem?
 intro i
 rw [List.getElem?_map]
 rcases Nat.lt_or_ge i zs.length with q | q
 ·rw [List.getElem?_append_left q, List.getElem?_range (by lia)]
  show some (toldV zs i) = _
  unfold toldV
  rw [Nat.min_eq_left (Nat.le_sub_one_of_lt q), List.getD_eq_getElem?_getD, List.getElem?_eq_getElem q]
  rfl
 ·rw [List.getElem?_append_right q, List.getElem?_replicate]
  by_cases q2 : i < zs.length + more
  ·rw [List.getElem?_range q2, if_pos (by lia)]
   show some (toldV zs i) = _
   unfold toldV
   rw [h, Nat.add_sub_cancel, Nat.min_eq_right (Nat.le_of_succ_le (Nat.le_trans (Nat.le_of_eq h.symm) q))]
  ·rw [if_neg (by lia), List.getElem?_eq_none (by simp; lia)]
   rfl
theorem Ends.stop {es : List Nat} {more : Nat} (hE : Ends es more) : (es[0]?).map (fun n : Nat => (n : Int)) = some 0 ∨ (es[0]?).map (fun n : Nat => (n : Int)) = some 127 ∨ (es[0]?).map (fun n : Nat => (n : Int)) = none := by
 rcases hE with ⟨rfl, _⟩ | ⟨rfl, _⟩ | ⟨rfl, _⟩
 ·exact .inl rfl
 ·exact .inr (.inl rfl)
 ·exact .inr (.inr rfl)
theorem Ends.go {es : List Nat} {more j n : Nat} (hE : Ends es more) (hj : j < n + more) : j < n ∨ (es[0]?).map (fun n : Nat => (n : Int)) = some 0 := by
 rcases hE with ⟨rfl, rfl⟩ | ⟨rfl, rfl⟩ | ⟨rfl, rfl⟩
 ·exact .inr rfl
 ·exact .inl hj
 ·exact .inl hj
theorem Ends.fin {es : List Nat} {more n : Nat} (hE : Ends es more) : ((n + 2 : Nat) : Int) ≤ ((n + more : Nat) : Int) ∨ (n + more = n ∧ (es[0]?).map (fun n : Nat => (n : Int)) ≠ some 0) := by
 rcases hE with ⟨rfl, rfl⟩ | ⟨rfl, rfl⟩ | ⟨rfl, rfl⟩
 ·exact .inl (Int.le_refl _)
 ·exact .inr ⟨rfl, by decide⟩
 ·exact .inr ⟨rfl, by decide⟩
theorem Ends.len {es : List Nat} {more : Nat} (hE : Ends es more) : es.length ≤ 2 := by rcases hE with ⟨rfl, _⟩ | ⟨rfl, _⟩ | ⟨rfl, _⟩ <;> decide
theorem Ends.le2 {es : List Nat} {more : Nat} (hE : Ends es more) : more ≤ 2 := by rcases hE with ⟨_, rfl⟩ | ⟨_, rfl⟩ | ⟨_, rfl⟩ <;> decide
section
variable {w : World} {mg mb : NM} {b₀ : Heap} {s₀ s s' : Shared} {A : Around} {r D z TI TO I a Lg C : Addr} {g : Nat} {its : Array Value} {ruler : List Int} {p N : Nat} {k : Int} {env : Env} {cl : List (Str × Addr)}
theorem told_loop {iter : Expr} {pos q2 q3 q4 q5 : Pos} (je : Nat) (val : Nat → Nat) (S0 : Sit w mg mb b₀ s) (R : Rm A 3) (J : ToldJ w mg mb b₀ s A r D z TI TO I a Lg C g its ruler p N k 0 [] s') (hk : (je : Int) ≤ k) (hN : je + 2 ≤ N) (hgo : ∀ j, j < je → j < p ∨ ruler[p]? = some 0) (hval : ∀ j, j < je → gval ruler p (j + 1) = (val j : Nat)) (hend : k ≤ je ∨ (je = p ∧ ruler[p]? ≠ some 0)) (hje : je ≤ 1000) :
  codeAny (model PW w) A (.compLoop (.ListComp (.Name "size" q2) [⟨.Tuple [.Name "k" q3, .Name "size" q4] 0 q5, iter, [], 0⟩] tdScope pos) 0 (.ref z) (.ref D) (compEnvC tdScope cl C env)) (fun r s' => r = .ok .next ∧ (∃ m', Body w mg mb b₀ s [] C m' s') ∧ IntsOn b₀ s'.heap D ((List.range je).map val)) s' := by
 refine comp_any (fun n ss => ∃ j, n = je + 1 - j ∧ j ≤ je ∧ ToldJ w mg mb b₀ s A r D z TI TO I a Lg C g its ruler p N k j ((List.range j).map val) ss) ?_ (je + 1) ⟨0, rfl, Nat.zero_le _, J⟩
 rintro n ss ⟨j, rfl, hj, J⟩
 rcases Nat.lt_or_ge j je with hlt | hge
 ·refine wpAny_mono (told_turn (env := env) (cl := cl) (q2 := q2) (q3 := q3) (q4 := q4) (q5 := q5) S0 R J (by lia) (by lia) (hgo j hlt) (hval j hlt) (by simp; lia)) (fun r' s₁ h => ?_) fun ι ι z => z
  obtain ⟨x, rfl, h⟩ := h
  refine wpAny_mono h (fun ι s₂ h₂ => wpAny_mono h₂ (fun ι s3 h₃ => tests_nil ?_) fun ι ι z => z) fun ι ι z => z
  refine ite_t rfl ?_
  refine wpAny_mono h₃ (fun y s4 h₄ => wpAny_mono h₄ (fun ι s5 h₅ => ⟨je + 1 - (j + 1), sub_dec hlt, j + 1, rfl, hlt, ?_⟩) fun ι ι z => z) fun ι ι z => z
  rw [List.range_succ, List.map_append]
  exact h₅
 ·obtain rfl : j = je := Nat.le_antisymm hj hge
  obtain ⟨⟨m, B⟩, Z, Of, Ol, lf, hl, b0⟩ := J
  refine Z.stop (S0.C.keeps S0.k) R.hh (R.dl (k := 1) (by decide)) hN hend fun s₁ st kp => ⟨rfl, ⟨m, B.zstep S0 st kp Of⟩, hl.bl, hl.ll, ?_⟩
  obtain ⟨vs, kk, e, q⟩ := hl.on
  refine ⟨vs, kk, ?_, q⟩
  obtain ⟨it, _, _, itc, k1⟩ := kp.heap
  exact k1 _ _ (Ne.symm Ol.z) (Ne.symm Ol.TO) (Ne.symm Ol.I) (Ne.symm Ol.L) (fun q => by have := (itc _ (q ▸ e)).1; exact absurd (Value.type.inj this) (by decide)) e
end
section
variable {U : List Addr} {w : World} {mg mb : NM} {b₀ : Heap} {s₀ s s' : Shared} {A : Around} {L Z Ea : Addr} {V : List (Str × Value)} {F : List (Fact b₀)} {env : Env} {zs es : List Nat} {more n : Nat}
noncomputable def rngF (b₀ : Heap) (I : Addr) (k : Int) (t u v : Tok) : Fact b₀ :=
 ⟨fun s => IsRange s.heap I 0 k 1 t u v, [I], fun S k h e => k.get S e (h I (List.mem_singleton_self I)) (by exact cn), fun e => get_ne e⟩
theorem Sc.newR {k : Int} {t : Tok} {Q : VP} {E : VP} (H : Sc w mg mb b₀ s₀ U L V F s) (h : ∀ s' rr u v, s₀.heap.get? rr = none → Sc w mg mb b₀ s₀ U L V (rngF b₀ rr k u t v :: F) s' → Q (.ref rr) s') : wpAny (model PW w) A (call (.type "range") [.int k t]) Q E s :=
 call_range_1 (h _ _ _ _ (H.isNew (get_size _) H.S.lt) (H.new (H.S.push (t := s.toks + 1 + 1)) (rngF b₀ _ _ _ _ _) (IsRange.new ..) (al1 (get_size _))))
theorem Sc.addL {l1 l2 : Addr} {xs ys : Array Value} {n1 n2 : Nat} {Q : VP} {E : VP} (H : Sc w mg mb b₀ s₀ U L V F s) (h1 : s.heap.get? l1 = some (lstO xs n1)) (h2 : s.heap.get? l2 = some (lstO ys n2)) (hz : xs.size + ys.size ≤ 100000)
  (h : ∀ s' r, s₀.heap.get? r = none → Sc w mg mb b₀ s₀ U L V (lstF b₀ r (xs ++ ys) 0 :: F) s' → Q (.ref r) s') : wpAny (model PW w) A (binaryOp .Add (.ref l1) (.ref l2)) Q E s :=
 lst_add H.S h1 h2 hz fun s' r S' k' hr nr br lr => h s' r (H.isNew nr lr) (H.new ⟨S', k'⟩ (lstF b₀ r _ 0) hr (al1 nr))
theorem ints_nat {h : Heap} {l : Addr} {ns : List Nat} {vs : Array Value} {kk : Nat} (x : IntsOn b₀ h l ns) (e : h.get? l = some (lstO vs kk)) : vs.size = ns.length ∧ ∀ (i n : Nat), ns[i]? = some n → ∃ t : Tok, vs[i]? = some (.int (n : Int) t) := by
 obtain ⟨vs', kk', e', q⟩ := x.on
 rw [e] at e'; cases e'; exact q
theorem told_st {q1 q2 q3 q4 q5 q6 q7 q8 q9 q10 q11 q12 q13 q14 q15 q16 q17 q18 q19 q20 q21 : Pos} {Q : Flow → Shared → Prop} (R : Rm A 8) (H : Sc w mg mb b₀ s₀ U L V F s) (hmZ : intsF b₀ Z zs ∈ F) (hmE : intsF b₀ Ea es ∈ F) (hvZ : V.lookup ("sizes" : Str) = some (.ref Z)) (hvE : V.lookup ("end" : Str) = some (.ref Ea)) (hE : Ends es more) (hn : zs.length = n + 1) (h100 : zs.length ≤ 100) (hz : ∀ x ∈ zs, x ≠ 0 ∧ x ≠ 127)
  (hQ : ∀ D s', s₀.heap.get? D = none → Sc w mg mb b₀ s₀ U L (("told", .ref D) :: V) (intsF b₀ D (zs ++ List.replicate more (zs.getD n 0)) :: F) s' → Q .next s')
  (hel : autoParam (env.locals = L) tR) (hk : autoParam (env.scope.kind = .function) tR) (hx1 : autoParam (env.kindOf "sizes" = some .local) tR) (hx2 : autoParam (env.kindOf "end" = some .local) tR) (hy : autoParam (env.kindOf "told" = some .local) tR) (hg : autoParam (env.globals = mainGlobals) tR) (hb : autoParam (env.builtins = builtinsNs) tR)
  (g1 : autoParam (env.kindOf "zip" = some .globalImplicit) tR) (g2 : autoParam (env.kindOf "range" = some .globalImplicit) tR) (g3 : autoParam (env.kindOf "len" = some .globalImplicit) tR) (g4 : autoParam (env.kindOf "_grouping_intervals" = some .globalImplicit) tR)
  (hp : autoParam ((env.scope.kind == .class || (env.scope.kind == .module && env.locals != env.globals)) = false) tR)
  (hsw : autoParam (swapsWith (.ListComp (.Name "size" q2) [⟨.Tuple [.Name "k" q3, .Name "size" q4] 0 q5, .Call (.Name "zip" q6) [.Call (.Name "range" q7) [.BinOp (.Call (.Name "len" q8) [.Name "sizes" q9] [] q10) .Add (.Constant (.int 2) 0 q11) q12] [] q13, .Call (.Name "_grouping_intervals" q14) [.BinOp (.Name "sizes" q15) .Add (.Name "end" q16) q17] [] q18] [] q19, [], 0⟩] tdScope q20) (some (.Name "told" q1)) q21.line env = pure true) tR) :
  wpAny (model PW w) A (exec (.Assign [.Name "told" q1] (.ListComp (.Name "size" q2) [⟨.Tuple [.Name "k" q3, .Name "size" q4] 0 q5, .Call (.Name "zip" q6) [.Call (.Name "range" q7) [.BinOp (.Call (.Name "len" q8) [.Name "sizes" q9] [] q10) .Add (.Constant (.int 2) 0 q11) q12] [] q13, .Call (.Name "_grouping_intervals" q14) [.BinOp (.Name "sizes" q15) .Add (.Name "end" q16) q17] [] q18] [] q19, [], 0⟩] tdScope q20) q21) env) Q (fun ι ι => False) s := by
 have hes : es.length ≤ 2 := hE.len
 refine comp_assign (mg := mg) (mb := mb) (b₀ := b₀) (s₀ := s₀) (closureFor_none (by decide)) (by decide) rfl (by decide) (cutQ fun Q₁ h₁ => wpAny_Call_NameR (H.bi (v := .type "zip") (by k_is) (by decide +kernel) (PyProof.Rows.callWith_type1 (spliced_cons (wpAny_Call_NameR (H.bi (v := .type "range") (by k_is) (by decide +kernel) (PyProof.Rows.callWith_type1 (spliced_cons (wpAny_BinOp (wpAny_Call_NameR (H.bi (v := .builtin "len") (by k_is) (by decide +kernel) (callWith_builtin rfl (evalArgs_plain (spliced_cons (H.loc (v := .ref Z) hvZ (spliced_nil ?_) hel hk hx1)))) hg hb hk g3))))) hg hb hk g2)))) hg hb hk g1)) (by intro _; rfl) hsw hy hp
 obtain ⟨vs, kz, eZ, zz, vZ⟩ := (H.get hmZ : IntsOn b₀ s.heap Z zs).on
 refine PyProof.Rows.len_list ⟨_, eZ, rfl, _, rfl⟩ (by lia) (wpAny_Constant_int (add_nat (a := zs.length) (b := 2) (by rw [zz]) rfl (spliced_nil ((((H.tok _).tok _).tok _).newR fun s₁ rr u v f0 H1 => ?_))))
 have X1Z : IntsOn b₀ s₁.heap Z zs := H1.get (f := intsF b₀ Z zs) (List.mem_cons_of_mem _ hmZ)
 have X1E : IntsOn b₀ s₁.heap Ea es := H1.get (f := intsF b₀ Ea es) (List.mem_cons_of_mem _ hmE)
 obtain ⟨ws, kw, eW, zw, vW⟩ := id X1Z.on
 obtain ⟨us, ku, eU, zu, vU⟩ := id X1E.on
 refine spliced_cons (wpAny_Call_NameR (H1.top (v := .ref 28) (by k_is) (callWith_K H1.ck (by k_is) (spliced_cons (wpAny_BinOp (H1.loc (v := .ref Z) hvZ (H1.loc (v := .ref Ea) hvE (H1.addL eW eU (by lia) fun s₂ r r0 H₂ => spliced_nil ⟨H₂.ck, ?_⟩) hel hk hx2) hel hk hx1)))) hg hk g4))
 have hr : s₂.heap.get? r = some (lstO (ws ++ us) 0) := H₂.get (f := lstF b₀ r (ws ++ us) 0) (List.mem_cons_self ..)
 have hrg : IsRange s₂.heap rr 0 ((zs.length + 2 : Nat) : Int) 1 u _ v := H₂.get (List.mem_cons_of_mem _ (List.mem_cons_self ..))
 refine gnew (bG := s₂.heap) H₂.S (H₂.S.C.keeps H₂.S.k) (fun b o e => e) (R.le (by decide)) ⟨_, hr, rfl, _, rfl⟩ fun s3 Lg a S3 K3 k₃ sz3 g₃ aL fa fL bL rL hG => spliced_nil ?_
 have hits : ∀ (i : Nat) (x : Nat), (zs ++ es)[i]? = some x → ∃ t, (ws ++ us)[i]? = some (Value.int (x : Int) t) := fun i x h => by
  rcases Nat.lt_or_ge i zs.length with q | q
  ·rw [List.getElem?_append_left q] at h
   rw [Array.getElem?_append_left (by lia)]
   exact vW i x h
  ·rw [List.getElem?_append_right q] at h
   rw [Array.getElem?_append_right (by lia), zw]
   exact vU _ x h
 have hru : ∀ (i : Nat), ((zs ++ es).map (fun n : Nat => (n : Int)))[i]? = ((zs ++ es)[i]?).map (fun n : Nat => (n : Int)) := fun i => List.getElem?_map ..
 have hP : (zs ++ es)[zs.length]? = es[0]? := by rw [List.getElem?_append_right (Nat.le_refl _), Nat.sub_self]
 have Ru : Ruler s₂.heap r Lg (ws ++ us) ((zs ++ es).map (fun n : Nat => (n : Int))) zs.length (zs.length * 2 + 5) := by
  refine ⟨fun i x h => ?_, by simp, by simp [zw, zu], ?_, fun i x hi h => ?_, fun ι => by lia, by lia, rL, bL⟩
  ·rw [hru] at h
   obtain ⟨y, hy, rfl⟩ := Option.map_eq_some_iff.mp h
   exact hits i y hy
  ·rw [hru, hP]
   exact hE.stop
  ·rw [hru, List.getElem?_append_left hi] at h
   obtain ⟨y, hy, rfl⟩ := Option.map_eq_some_iff.mp h
   have := hz y (List.mem_of_getElem? hy)
   constructor <;> lia
 have G0 := fun A' hh => hG A' _ zs.length (zs.length * 2 + 5) hh Ru
 have hLg : s3.heap.get? Lg ≠ none := by
  obtain ⟨_, _, gs, _, ⟨_, ⟨_, _, ⟨mm, hns, _⟩⟩, _⟩ | ⟨q, _⟩⟩ := G0 A.in1.in1 R.hh
  ·obtain ⟨o, es, ep, e, _⟩ := hns
   rw [e]; simp
  ·exact absurd q (Nat.lt_irrefl _)
 refine znew (small_parts (by lia)) (by unfold Builtin.Range.rangeSize; simp; lia) (k₃ _ _ hrg) k₃ ⟨_, k₃ _ _ hr, rfl, _, rfl⟩ hLg (G0 _ R.hh) fun h₄ z TI TO I Z4 k₄ f₄ => ?_
 refine h₁ _ _ ?_
 refine wpAny_pyIter_zip Z4.hz ?_
 have up : ∀ b o, s₂.heap.get? b = some o → h₄.get? b = some o := fun b o e => k₄ _ _ (k₃ _ _ e)
 have S4 : Sit w mg mb b₀ { s3 with heap := h₄ } := (S3.upto (s' := { s3 with heap := h₄ }) rfl rfl k₄).1
 refine Sc.compG (s := s₂) (s₂ := { s3 with heap := h₄ }) (F := F) (H₂.sub (.cons _ (.cons _ (.refl _)))) S4 up K3.os (fun s' Q E k q => wpAny_pyIter_zip (k _ _ Z4.hz) q) (fun D => intsF b₀ D (zs ++ List.replicate more (zs.getD n 0))) (fun ι => rfl) (fun D C s5 X => ?_) hQ hel
 have Z5 := Z4.grow (s' := s5) X.gens X.up
 have off : ∀ Y : Addr, h₄.get? Y = none → ZOff Y z TI TO I a r Lg := fun Y q => by
  have ne : ∀ {b : Addr} {o}, h₄.get? b = some o → b ≠ Y := fun e q' => by rw [q', q] at e; cases e
  obtain ⟨u', v', hTO⟩ := Z4.hTO
  obtain ⟨oa, _, _, ea, _⟩ := Z4.G.gen
  obtain ⟨oL, eL⟩ := Option.ne_none_iff_exists'.mp hLg
  exact ⟨ne Z4.hz, ne Z4.hTI, ne hTO, ne Z4.hI, ne ea, ne (up _ _ hr), ne (k₄ _ _ eL)⟩
 have fC : s₂.heap.get? C = none := by
  cases q : s₂.heap.get? C with
  | none => rfl
  | some o => have := X.B.fresh; rw [show ({ s3 with heap := h₄ } : Shared).heap.get? C = some o from up _ _ q] at this; cases this
 have fD : s₂.heap.get? D = none := by
  cases q : s₂.heap.get? D with
  | none => rfl
  | some o => have := X.fD; rw [show ({ s3 with heap := h₄ } : Shared).heap.get? D = some o from up _ _ q] at this; cases this
 have J : ToldJ w mg mb b₀ s₂ A r D z TI TO I a Lg C s₂.gens.size (ws ++ us) _ zs.length (zs.length * 2 + 5) ((zs.length + 2 : Nat) : Int) 0 [] s5 :=
  ⟨⟨_, X.B.S, same_kp H₂.S no_in (fun b o ι e => X.up _ _ (up _ _ e)) (X.B.K.os.trans K3.os), X.B.ns, fC, X.B.b, X.B.lt⟩, Z5, off C X.B.fresh, off D X.fD, X.ne, ⟨X.bD, X.lD, _, _, X.hD, rfl, fun i n h => by simp at h⟩, fD⟩
 rw [← told_eq more hn]
 have hm2 : more ≤ 2 := hE.le2
 refine told_loop (zs.length + more) (toldV zs) H₂.S (R.le (by decide)) J (by lia) (by lia) (fun j hj => ?_) (fun j hj => ?_) ?_ (by lia)
 ·rw [hru, hP]
  exact hE.go hj
 ·unfold gval toldV
  rw [List.getD_eq_getElem?_getD, hru, List.getElem?_append_left (Nat.lt_of_le_of_lt (Nat.sub_le_sub_right (Nat.min_le_right _ _) 1) (Nat.sub_lt (hn ▸ Nat.succ_pos n) Nat.one_pos)), List.getD_eq_getElem?_getD, min_pred (show 1 ≤ zs.length by lia)]
  cases zs[min j (zs.length - 1)]? <;> rfl
 ·rw [hru, hP]
  exact hE.fin
end
end Mine
namespace Mine
section
variable {U : List Addr} {w : World} {mg mb : NM} {b₀ : Heap} {s₀ s s' : Shared} {A : Around} {E : VP} {L l l' : Addr} {V : List (Str × Value)} {F : List (Fact b₀)} {env : Env} {ns ms : List Nat}
theorem ints_cmp {vs us : Array Value} {k k' : Nat} (x : IntsOn b₀ s.heap l ns) (y : IntsOn b₀ s.heap l' ms) (e : s.heap.get? l = some (lstO vs k)) (e' : s.heap.get? l' = some (lstO us k')) : ∀ j (h1 : j < vs.size) (h2 : j < us.size), SeqAt.EqAt A s vs[j] us[j] (ns[j]? == ms[j]?) := fun j h1 h2 => by
 obtain ⟨z1, q1⟩ := ints_nat x e
 obtain ⟨z2, q2⟩ := ints_nat y e'
 have g1 : ns[j]? = some (ns[j]'(by lia)) := List.getElem?_eq_getElem (by lia)
 have g2 : ms[j]? = some (ms[j]'(by lia)) := List.getElem?_eq_getElem (by lia)
 obtain ⟨ta, ha⟩ := q1 j _ g1
 obtain ⟨tb, hb⟩ := q2 j _ g2
 rw [Array.getElem?_eq_getElem h1] at ha
 rw [Array.getElem?_eq_getElem h2] at hb
 rw [Option.some.inj ha, Option.some.inj hb, g1, g2]
 have eb : (some (ns[j]'(by lia)) == some (ms[j]'(by lia))) = (((ns[j]'(by lia) : Nat) : Int) == ((ms[j]'(by lia) : Nat) : Int)) := by
  rw [Bool.eq_iff_iff]
  simp only [beq_iff_eq, Option.some.injEq]
  lia
 rw [eb]
 exact SeqAt.EqAt.int_int _ _ _ _
theorem all_len_eq (h : ns.length = ms.length) : (List.range ns.length).all (fun j => ns[j]? == ms[j]?) = decide (ns = ms) := by
 rw [← all_range_eq, h, Nat.min_self]
 simp
theorem ne_ints {Q : VP} (x : IntsOn b₀ s.heap l ns) (y : IntsOn b₀ s.heap l' ms) (hu : A.units < cLine) (h : Q (.bool (!decide (ns = ms))) s) : wpAny (model PW w) A (compareOp .NotEq (.ref l) (.ref l')) Q E s := by
 obtain ⟨vs, k, e, z1, -⟩ := id x.on
 obtain ⟨us, k', e', z2, -⟩ := id y.on
 by_cases q : ns.length = ms.length
 ·refine SeqAt.RcNeAt.lists ⟨_, e, rfl, _, rfl⟩ ⟨_, e', rfl, _, rfl⟩ (by rw [z1, z2, q]) hu (ints_cmp x y e e') PW w E Q ?_
  rw [z1, all_len_eq q]; exact h
 ·refine SeqAt.RcNeAt.lists_lengths ⟨_, e, rfl, _, rfl⟩ ⟨_, e', rfl, _, rfl⟩ (by rw [z1, z2]; simpa using q) hu PW w E Q ?_
  rw [decide_eq_false (fun q' => q (by rw [q']))] at h; exact h
theorem eq_ints {Q : VP} (x : IntsOn b₀ s.heap l ns) (y : IntsOn b₀ s.heap l' ms) (hu : A.units < cLine) (h : Q (.bool (decide (ns = ms))) s) : wpAny (model PW w) A (compareOp .Eq (.ref l) (.ref l')) Q E s := by
 obtain ⟨vs, k, e, z1, -⟩ := id x.on
 obtain ⟨us, k', e', z2, -⟩ := id y.on
 by_cases q : ns.length = ms.length
 ·refine SeqAt.RcAt.lists ⟨_, e, rfl, _, rfl⟩ ⟨_, e', rfl, _, rfl⟩ (by rw [z1, z2, q]) hu (ints_cmp x y e e') PW w E Q ?_
  rw [z1, all_len_eq q]; exact h
 ·refine SeqAt.RcAt.lists_lengths ⟨_, e, rfl, _, rfl⟩ ⟨_, e', rfl, _, rfl⟩ (by rw [z1, z2]; simpa using q) hu PW w E Q ?_
  rw [decide_eq_false (fun q' => q (by rw [q']))] at h; exact h
theorem slicePick_last (items : Array Value) {n : Nat} (h : items.size = n + 1) : slicePick items (some (-1)) none none = (items.toList.drop n).toArray := by
 have e : sliceBounds (some (-1 : Int)) none none items.size = ((n : Int), (items.size : Int), 1) := by
  simp only [sliceBounds, Option.getD_none]
  simp only [show ((-1 : Int) < 0) by decide, if_true, show (1 : Int) > 0 by decide]
  congr 1
  rw [h]; lia
 unfold slicePick
 rw [e]
 simp only [sliceRange_one, pick_run]
 rw [List.take_of_length_le (by simp)]
set_option tactic.hygienic true in
theorem ints_part {h h' : Heap} {D : Addr} {vs : Array Value} {k k' : Nat} (x : IntsOn b₀ h l ns) (e : h.get? l = some (lstO vs k)) (bD : b₀.get? D = none) (lD : @LT.lt Nat _ 154 D) :
  (∀ n, h'.get? D = some (lstO (vs.toList.drop n).toArray k') → IntsOn b₀ h' D (ns.drop n)) ∧ (∀ n, h'.get? D = some (lstO (vs.toList.take n).toArray k') → IntsOn b₀ h' D (ns.take n)) := by
 obtain ⟨z1, q1⟩ := ints_nat x e
 refine ⟨fun n e' => ⟨bD, lD, _, _, e', by simp [z1], fun i m hm => ?_⟩, fun n e' => ⟨bD, lD, _, _, e', by simp [z1], fun i m hm => ?_⟩⟩
 ·rw [List.getElem?_drop] at hm
  obtain ⟨t, ht⟩ := q1 _ _ hm
  exact ⟨t, by rw [List.getElem?_toArray, List.getElem?_drop, Array.getElem?_toList]; exact ht⟩
 ·rw [List.getElem?_take] at hm
  split at hm
  ·rename_i hi
   obtain ⟨t, ht⟩ := q1 _ _ hm
   exact ⟨t, by rw [List.getElem?_toArray, List.getElem?_take, if_pos hi, Array.getElem?_toList]; exact ht⟩
  ·cases hm
theorem Sc.two {vs : Array Value} {o : Obj} (H : Sc w mg mb b₀ s₀ U L V F s) {f : Addr → Fact b₀} (hf : ∀ D, (f D).foot = [D]) (h : ∀ h' D, b₀.get? D = none → @LT.lt Nat _ 154 D → h'.get? D = some (lstO vs 0) → (f D).P { s with heap := h' }) :
  Sc w mg mb b₀ s₀ U L V (f (s.heap.objs.size + 1) :: F) { s with heap := (s.heap.push o).push (lstO vs 0) } ∧ s₀.heap.get? (s.heap.objs.size + 1 : Nat) = none := by
 have H1 := H.grow (H.S.push (o := o) (t := s.toks))
 have z := H1.S.push (o := lstO vs 0) (t := s.toks)
 have zz : (s.heap.push o).objs.size = s.heap.objs.size + 1 := Heap.size_push ..
 have e := Heap.get?_push_size (s.heap.push o) (o := lstO vs 0) rfl
 have n := get_size (s.heap.push o)
 have b := H1.S.fresh
 have lt := H1.S.lt
 dsimp only at b lt
 rw [zz] at e n b lt
 exact ⟨H1.new z (f (s.heap.objs.size + 1)) (h _ _ b lt e) (by rw [hf]; intro a ha; rw [List.mem_singleton.mp ha]; exact n), H1.isNew n lt⟩
theorem sl_from {nm cn : Str} {a : Nat} {t : Tok} {p1 p2 p3 p4 : Pos} {Q : VP} (H : Sc w mg mb b₀ s₀ U L V F s) (hm : intsF b₀ l ns ∈ F) (hv : V.lookup nm = some (.ref l)) (hc : V.lookup cn = some (.int (a : Nat) t)) (ha : a ≤ ns.length) (hz : ns.length ≤ 100000)
  (hQ : ∀ s' D, s₀.heap.get? D = none → Sc w mg mb b₀ s₀ U L V (intsF b₀ D (ns.drop a) :: F) s' → Q (.ref D) s') (hl : autoParam (env.locals = L) tR) (hk : autoParam (env.scope.kind = .function) tR) (h1 : autoParam (env.kindOf nm = some .local) tR) (h2 : autoParam (env.kindOf cn = some .local) tR) (d1 : autoParam ((nm == ("__debug__" : Str)) = false) tD) (d2 : autoParam ((cn == ("__debug__" : Str)) = false) tD)
  (ht : autoParam (∀ o r, letTemporaryGo (.Name nm p1) o r = pure ()) tI) : wpAny (model PW w) A (eval (.Subscript (.Name nm p1) (.Slice (some (.Name cn p2)) none none p3) p4) env) Q E s := by
 have x : IntsOn b₀ s.heap l ns := H.get hm
 obtain ⟨vs, k, e, z1, -⟩ := id x.on
 refine wpAny_Subscript_list_slice (H.loc hv (wpAny_evalPart_some (H.loc hc (wpAny_evalPart_none ⟨l, vs, some (a : Int), none, rfl, ⟨_, e, rfl, _, rfl⟩, by rw [sizeLine_eq]; lia, .int _ _, .none, ?_⟩) hl hk h2 d2)) hl hk h1 d1) ht
 rw [slicePick_from _ _ (by lia)]
 have z := H.two (f := fun D => intsF b₀ D (ns.drop a)) (vs := (vs.toList.drop a).toArray) (o := { cls := .type "slice", data := .fields #[.int a t, .none, .none] }) (fun ι => rfl) fun h' D b lt e' => (ints_part x e b lt).1 a e'
 exact hQ _ _ z.2 z.1
theorem sl_upto {nm cn : Str} {a : Nat} {t : Tok} {p1 p2 p3 p4 : Pos} {Q : VP} (H : Sc w mg mb b₀ s₀ U L V F s) (hm : intsF b₀ l ns ∈ F) (hv : V.lookup nm = some (.ref l)) (hc : V.lookup cn = some (.int (a : Nat) t)) (ha : a ≤ ns.length) (hz : ns.length ≤ 100000)
  (hQ : ∀ s' D, s₀.heap.get? D = none → Sc w mg mb b₀ s₀ U L V (intsF b₀ D (ns.take a) :: F) s' → Q (.ref D) s') (hl : autoParam (env.locals = L) tR) (hk : autoParam (env.scope.kind = .function) tR) (h1 : autoParam (env.kindOf nm = some .local) tR) (h2 : autoParam (env.kindOf cn = some .local) tR) (d1 : autoParam ((nm == ("__debug__" : Str)) = false) tD) (d2 : autoParam ((cn == ("__debug__" : Str)) = false) tD)
  (ht : autoParam (∀ o r, letTemporaryGo (.Name nm p1) o r = pure ()) tI) : wpAny (model PW w) A (eval (.Subscript (.Name nm p1) (.Slice none (some (.Name cn p2)) none p3) p4) env) Q E s := by
 have x : IntsOn b₀ s.heap l ns := H.get hm
 obtain ⟨vs, k, e, z1, -⟩ := id x.on
 refine wpAny_Subscript_list_slice (H.loc hv (wpAny_evalPart_none (wpAny_evalPart_some (H.loc hc ⟨l, vs, none, some (a : Int), rfl, ⟨_, e, rfl, _, rfl⟩, by rw [sizeLine_eq]; lia, .none, .int _ _, ?_⟩ hl hk h2 d2))) hl hk h1 d1) ht
 rw [slicePick_upto _ _ (by lia)]
 have z := H.two (f := fun D => intsF b₀ D (ns.take a)) (vs := (vs.toList.take a).toArray) (o := { cls := .type "slice", data := .fields #[.none, .int a t, .none] }) (fun ι => rfl) fun h' D b lt e' => (ints_part x e b lt).2 a e'
 exact hQ _ _ z.2 z.1
theorem sl_last {nm : Str} {n k1 : Nat} {p1 p2 p3 p4 p5 : Pos} {Q : VP} (H : Sc w mg mb b₀ s₀ U L V F s) (hm : intsF b₀ l ns ∈ F) (hv : V.lookup nm = some (.ref l)) (hn : ns.length = n + 1) (hz : ns.length ≤ 100000)
  (hQ : ∀ s' D, s₀.heap.get? D = none → Sc w mg mb b₀ s₀ U L V (intsF b₀ D (ns.drop n) :: F) s' → Q (.ref D) s') (hl : autoParam (env.locals = L) tR) (hk : autoParam (env.scope.kind = .function) tR) (h1 : autoParam (env.kindOf nm = some .local) tR) (d1 : autoParam ((nm == ("__debug__" : Str)) = false) tD)
  (ht : autoParam (∀ o r, letTemporaryGo (.Name nm p1) o r = pure ()) tI) : wpAny (model PW w) A (eval (.Subscript (.Name nm p1) (.Slice (some (.UnaryOp .USub (.Constant (.int 1) k1 p2) p5)) none none p3) p4) env) Q E s := by
 have x : IntsOn b₀ s.heap l ns := H.get hm
 obtain ⟨vs, k, e, z1, -⟩ := id x.on
 refine wpAny_Subscript_list_slice (H.loc hv (wpAny_evalPart_some (wpAny_UnaryOp (wpAny_Constant_int (PySem.P.neg_int (wpAny_evalPart_none ⟨l, vs, some (-1), none, rfl, ⟨_, e, rfl, _, rfl⟩, by rw [sizeLine_eq]; lia, .int _ _, .none, ?_⟩))))) hl hk h1 d1) ht
 rw [slicePick_last (n := n) _ (by lia)]
 have z := ((H.tok (s.toks + 1)).tok (s.toks + 1 + 1)).two (f := fun D => intsF b₀ D (ns.drop n)) (vs := (vs.toList.drop n).toArray) (o := { cls := .type "slice", data := .fields #[.int (-1) (s.toks + 1), .none, .none] }) (fun ι => rfl) fun h' D b lt e' => (ints_part x e b lt).1 n e'
 exact hQ _ _ z.2 z.1
theorem Sc.addLI {Q : VP} (H : Sc w mg mb b₀ s₀ U L V F s) (h1 : intsF b₀ l ns ∈ F) (h2 : intsF b₀ l' ms ∈ F) (hz : ns.length + ms.length ≤ 100000) (hQ : ∀ s' D, s₀.heap.get? D = none → Sc w mg mb b₀ s₀ U L V (intsF b₀ D (ns ++ ms) :: F) s' → Q (.ref D) s') :
  wpAny (model PW w) A (binaryOp .Add (.ref l) (.ref l')) Q E s := by
 have x : IntsOn b₀ s.heap l ns := H.get h1
 have y : IntsOn b₀ s.heap l' ms := H.get h2
 obtain ⟨vs, k, e, z1, q1⟩ := id x.on
 obtain ⟨us, k', e', z2, q2⟩ := id y.on
 refine lst_add H.S e e' (by lia) fun s' r S' k' hr nr br lr => hQ s' r (H.isNew nr lr) (H.new ⟨S', k'⟩ (intsF b₀ r (ns ++ ms)) ⟨br, lr, _, _, hr, by simp [z1, z2], fun i m hm => ?_⟩ (al1 nr))
 rcases Nat.lt_or_ge i ns.length with q | q
 ·rw [List.getElem?_append_left q] at hm
  obtain ⟨t, ht⟩ := q1 i m hm
  exact ⟨t, by rw [Array.getElem?_append_left (by lia)]; exact ht⟩
 ·rw [List.getElem?_append_right q] at hm
  obtain ⟨t, ht⟩ := q2 _ m hm
  exact ⟨t, by rw [Array.getElem?_append_right (by lia), z1]; exact ht⟩
theorem Sc.mul1 {x more : Nat} {t : Tok} {Q : VP} (H : Sc w mg mb b₀ s₀ U L V F s) (h1 : intsF b₀ l [x] ∈ F) (hz : more ≤ 2000) (hQ : ∀ s' D, s₀.heap.get? D = none → Sc w mg mb b₀ s₀ U L V (intsF b₀ D (List.replicate more x) :: F) s' → Q (.ref D) s') :
  wpAny (model PW w) A (binaryOp .Mult (.ref l) (.int (more : Nat) t)) Q E s := by
 have xx : IntsOn b₀ s.heap l [x] := H.get h1
 obtain ⟨vs, k, e, z1, q1⟩ := id xx.on
 obtain ⟨u, hu⟩ := q1 0 x rfl
 have hv : vs = #[.int (x : Nat) u] := by
  apply Array.ext
  ·exact z1
  ·intro i h1 h2
   obtain rfl : i = 0 := by
    have : vs.size = 1 := z1
    lia
   rw [Array.getElem?_eq_getElem h1] at hu
   exact Option.some.inj hu
 subst hv
 refine lst_mul H.S e (by lia) (by lia) (by simp; lia) fun s' r S' k' hr nr br lr => hQ s' r (H.isNew nr lr) (H.new ⟨S', k'⟩ (intsF b₀ r (List.replicate more x)) ?_ (al1 nr))
 rw [if_neg (by simp), Int.toNat_natCast, rep_foldV] at hr
 refine ⟨br, lr, _, _, hr, by simp, fun i m hm => ?_⟩
 rw [List.getElem?_replicate] at hm
 split at hm
 ·cases hm
  exact ⟨u, by simp [*]⟩
 ·cases hm
end
end Mine
namespace Mine
section
variable {U : List Addr} {w : World} {mg mb : NM} {b₀ : Heap} {s₀ s : Shared} {A : Around} {E : VP} {L : Addr} {V : List (Str × Value)} {F : List (Fact b₀)} {env : Env}
theorem Sc.def1 {fn x1 : Str} {f : Addr} {v1 : Value} {p0 p1 p2 : Pos} {Q : VP} (H : Sc w mg mb b₀ s₀ U L V F s) (hn : nsIn (hd.heap_1 w.params) mainGlobals fn = some (some (.ref f))) (hkp : keepIn (hd.heap_1 w.params) (.ref f) = true) (e1 : V.lookup x1 = some v1) (h : wpAny (model PW w) A (call (.ref f) [v1]) Q E s)
  (hl : autoParam (env.locals = L) tR) (hg : autoParam (env.globals = mainGlobals) tR) (hk : autoParam (env.scope.kind = .function) tR) (hf : autoParam (env.kindOf fn = some .globalImplicit) tR) (hdb : autoParam ((fn == ("__debug__" : Str)) = false) tD) (k1 : autoParam (env.kindOf x1 = some .local) tR) (d1 : autoParam ((x1 == ("__debug__" : Str)) = false) tD) :
  wpAny (model PW w) A (eval (.Call (.Name fn p1) [.Name x1 p2] [] p0) env) Q E s :=
 wpAny_Call_NameR (H.top hn (callWith_K H.ck hkp (spliced_cons (H.loc e1 (spliced_nil ⟨H.ck, h⟩) hl hk k1 d1))) hg hk hf hdb)
theorem Sc.def2 {fn x1 x2 : Str} {f : Addr} {v1 v2 : Value} {p0 p1 p2 p3 : Pos} {Q : VP} (H : Sc w mg mb b₀ s₀ U L V F s) (hn : nsIn (hd.heap_1 w.params) mainGlobals fn = some (some (.ref f))) (hkp : keepIn (hd.heap_1 w.params) (.ref f) = true) (e1 : V.lookup x1 = some v1) (e2 : V.lookup x2 = some v2) (h : wpAny (model PW w) A (call (.ref f) [v1, v2]) Q E s)
  (hl : autoParam (env.locals = L) tR) (hg : autoParam (env.globals = mainGlobals) tR) (hk : autoParam (env.scope.kind = .function) tR) (hf : autoParam (env.kindOf fn = some .globalImplicit) tR) (hdb : autoParam ((fn == ("__debug__" : Str)) = false) tD) (k1 : autoParam (env.kindOf x1 = some .local) tR) (k2 : autoParam (env.kindOf x2 = some .local) tR) (d1 : autoParam ((x1 == ("__debug__" : Str)) = false) tD) (d2 : autoParam ((x2 == ("__debug__" : Str)) = false) tD) :
  wpAny (model PW w) A (eval (.Call (.Name fn p1) [.Name x1 p2, .Name x2 p3] [] p0) env) Q E s :=
 wpAny_Call_NameR (H.top hn (callWith_K H.ck hkp (spliced_cons (H.loc e1 (spliced_cons (H.loc e2 (spliced_nil ⟨H.ck, h⟩) hl hk k2 d2)) hl hk k1 d1))) hg hk hf hdb)
theorem Sc.def3 {fn x1 x2 x3 : Str} {f : Addr} {v1 v2 v3 : Value} {p0 p1 p2 p3 p4 : Pos} {Q : VP} (H : Sc w mg mb b₀ s₀ U L V F s) (hn : nsIn (hd.heap_1 w.params) mainGlobals fn = some (some (.ref f))) (hkp : keepIn (hd.heap_1 w.params) (.ref f) = true) (e1 : V.lookup x1 = some v1) (e2 : V.lookup x2 = some v2) (e3 : V.lookup x3 = some v3) (h : wpAny (model PW w) A (call (.ref f) [v1, v2, v3]) Q E s)
  (hl : autoParam (env.locals = L) tR) (hg : autoParam (env.globals = mainGlobals) tR) (hk : autoParam (env.scope.kind = .function) tR) (hf : autoParam (env.kindOf fn = some .globalImplicit) tR) (hdb : autoParam ((fn == ("__debug__" : Str)) = false) tD) (k1 : autoParam (env.kindOf x1 = some .local) tR) (k2 : autoParam (env.kindOf x2 = some .local) tR) (k3 : autoParam (env.kindOf x3 = some .local) tR) (d1 : autoParam ((x1 == ("__debug__" : Str)) = false) tD) (d2 : autoParam ((x2 == ("__debug__" : Str)) = false) tD) (d3 : autoParam ((x3 == ("__debug__" : Str)) = false) tD) :
  wpAny (model PW w) A (eval (.Call (.Name fn p1) [.Name x1 p2, .Name x2 p3, .Name x3 p4] [] p0) env) Q E s :=
 wpAny_Call_NameR (H.top hn (callWith_K H.ck hkp (spliced_cons (H.loc e1 (spliced_cons (H.loc e2 (spliced_cons (H.loc e3 (spliced_nil ⟨H.ck, h⟩) hl hk k3 d3)) hl hk k2 d2)) hl hk k1 d1))) hg hk hf hdb)
theorem Sc.bi1 {fn x : Str} {f : String} {v : Value} {p0 p1 p2 : Pos} {Q : VP} (H : Sc w mg mb b₀ s₀ U L V F s) (hn : nsIn (hd.heap_1 w.params) mainGlobals fn = some none) (hb : bootBuiltins fn = some (.builtin f)) (e1 : V.lookup x = some v) (h : wpAny (model PW w) A (call (.builtin f) [v]) Q E s)
  (hl : autoParam (env.locals = L) tR) (hg : autoParam (env.globals = mainGlobals) tR) (hbi : autoParam (env.builtins = builtinsNs) tR) (hk : autoParam (env.scope.kind = .function) tR) (hf : autoParam (env.kindOf fn = some .globalImplicit) tR) (hx2 : autoParam (fn ≠ "__name__") tD) (hdb : autoParam ((fn == ("__debug__" : Str)) = false) tD) (k1 : autoParam (env.kindOf x = some .local) tR) (d1 : autoParam ((x == ("__debug__" : Str)) = false) tD) :
  wpAny (model PW w) A (eval (.Call (.Name fn p1) [.Name x p2] [] p0) env) Q E s :=
 wpAny_Call_NameR (H.bi hn hb (callWith_builtin rfl (evalArgs_plain (spliced_cons (H.loc e1 (spliced_nil h) hl hk k1 d1)))) hg hbi hk hf hx2 hdb)
end
end Mine
namespace Mine
structure WsAt (w : World) (h : Heap) (q dw N C : Addr) (st : WsSt) : Prop where
 hq : h.get? q = some (instObj 251 dw)
 hd : ∃ a b' c e f u1 u2 u3 raw sm, h.get? dw = some (wsD w a b' c e f u1 u2 u3 raw st.n st.nt N sm)
 hN : ∃ t, h.IsTuple N #[.ref C, .int st.b t]
 hC : ∃ its, h.IsTuple C its ∧ IntsAre its.toList (natInts st.cnt)
section
variable {α : Type _} {a b c d e f g : α} {l : List α}
theorem in0 : a ∈ a :: l := List.mem_cons_self ..
theorem in1 : b ∈ a :: b :: l := List.mem_cons_of_mem _ in0
theorem in2 : c ∈ a :: b :: c :: l := List.mem_cons_of_mem _ in1
theorem in3 : d ∈ a :: b :: c :: d :: l := List.mem_cons_of_mem _ in2
theorem in4 : e ∈ a :: b :: c :: d :: e :: l := List.mem_cons_of_mem _ in3
theorem in5 : f ∈ a :: b :: c :: d :: e :: f :: l := List.mem_cons_of_mem _ in4
theorem in6 : g ∈ a :: b :: c :: d :: e :: f :: g :: l := List.mem_cons_of_mem _ in5
end
theorem ints_are : ∀ (vs : List Value) (ns : List Nat), vs.length = ns.length → (∀ (i n : Nat), ns[i]? = some n → ∃ t : Tok, vs[i]? = some (.int (n : Int) t)) → IntsAre vs (natInts ns)
 | [], [], _, _ => .nil
 | v :: vs, n :: ns, h, q => by
  obtain ⟨t, ht⟩ := q 0 n rfl
  cases ht
  exact .cons _ t (ints_are vs ns (by simpa using h) fun i m hm => q (i + 1) m hm)
theorem natInts_sum : ∀ ns : List Nat, (natInts ns).sum = ((ns.sum : Nat) : Int)
 | [] => rfl
 | n :: ns => by
  have := natInts_sum ns
  unfold natInts at this ⊢
  rw [List.map_cons, List.sum_cons, List.sum_cons, this]
  lia
theorem sp_codes {y : Str} (hy : ∀ c ∈ y.cps.toList, c = 32 ∨ c = 9) : y.cps.all (· < 128) = true := by
 simp only [Array.all_eq_true]
 intro i hi
 rcases hy y.cps[i] ((Array.getElem_mem_toList ..)) with h | h <;> simp [h]
section
variable {U : List Addr} {w : World} {mg mb : NM} {b₀ : Heap} {s₀ s s' : Shared} {A : Around} {E : VP} {L q dw : Addr} {V : List (Str × Value)} {F : List (Fact b₀)} {env : Env} {es : List DictEntry} {n : Nat}
theorem Sc.tupl {l : Addr} {ns : List Nat} {Q : VP} (H : Sc w mg mb b₀ s₀ U L V F s) (hm : intsF b₀ l ns ∈ F) (hz : ns.length ≤ 1000) (hQ : ∀ s' T its, s₀.heap.get? T = none → Sc w mg mb b₀ s₀ U L V (tupF b₀ T its :: F) s' → IntsAre its.toList (natInts ns) → Q (.ref T) s') :
  wpAny (model PW w) A (call (.type "tuple") [.ref l]) Q E s := by
 obtain ⟨vs, k, e, z1, q1⟩ := (H.get hm : IntsOn b₀ s.heap l ns).on
 refine call_tuple_list ⟨_, e, rfl, _, rfl⟩ (fun h' hk => ?_) (by rw [sizeLine_eq]; lia)
 have H1 := H.grow (H.S.grow (t := s.toks) hk)
 exact hQ _ _ vs (H1.isNew (get_size _) H1.S.lt) (H1.new (H1.S.push (t := s.toks)) (tupF b₀ _ vs) ⟨_, Heap.get?_push_size _ rfl, rfl, _, rfl⟩ (al1 (get_size _))) (ints_are _ _ z1 fun i n h => by rw [Array.getElem?_toList]; exact q1 i n h)
theorem Sc.perm {F' : List (Fact b₀)} (H : Sc w mg mb b₀ s₀ U L V F s) (h : F.Perm F') : Sc w mg mb b₀ s₀ U L V F' s := ⟨H.B, fun f hf => H.ok f (h.symm.subset hf), h.pairwise H.nd fun {_ _} q a ha hb => q a hb ha, H.un⟩
noncomputable def ownF (w : World) (b₀ : Heap) (C q dw : Addr) (es : List DictEntry) (n : Nat) : Fact b₀ :=
 ⟨fun s => s.heap.get? q = some (instObj C dw) ∧ s.heap.get? dw = some (dictOf es n), [q, dw],
  fun S k h e => ⟨k.get S e.1 (h q in0) (by exact cn), k.get S e.2 (h dw in1) (by exact cn)⟩,
  fun e a ha => by
   rcases List.mem_cons.mp ha with rfl | ha
   ·rw [e.1]; exact Option.some_ne_none _
   ·rw [List.mem_singleton.mp ha, e.2]; exact Option.some_ne_none _⟩
theorem Sc.put {C : Addr} {name : Str} {v : Value} {Q : Unit → Shared → Prop} (H : Sc w mg mb b₀ s₀ U L V (ownF w b₀ C q dw es n :: F) s) (hU : dw ∈ U) (bd : b₀.get? dw = none) (ld : @LT.lt Nat _ 154 dw) (hs : findIn (hd.heap_1 w.params) (.ref C) "__setattr__" = some (some (.builtin "object.__setattr__")))
  (hp : plainOver (hd.heap_1 w.params) C = true) (hh : hasDictIn (hd.heap_1 w.params) C = true) (ht : takerIn (hd.heap_1 w.params) C name = some none) (hl : (lookIn name (dictOf es n)).isSome = true) (hz : ∀ t, (putL name (PyData.keyHash w.params name) (.str name t) v es).length ≤ 1000)
  (h : ∀ s' t, Sc w mg mb b₀ s₀ U L V (ownF w b₀ C q dw (putL name (PyData.keyHash w.params name) (.str name t) v es) (putN name es n) :: F) s' → Q () s') : wpAny (model PW w) A (setAttr (.ref q) name v) Q E s := by
 obtain ⟨hq, hd'⟩ : _ ∧ _ := H.get (f := ownF w b₀ C q dw es n) (List.mem_cons_self ..)
 have nq : q ≠ dw := ne_of_cls hq hd' (by show Value.ref C ≠ Value.type "dict"; exact fun q => by cases q)
 refine own_set H.S bd ld (InstP hq hd') hs hp hh ht hl hz fun s' t S' k hd₂ => h s' t (Sc.updU (Pre := []) (f' := ownF w b₀ C q dw _ _) H S' k (fun a ha => ?_) rfl ⟨k.get H.S hq (not_in nq) (by exact cn), hd₂⟩)
 rw [List.mem_singleton.mp ha]
 exact ⟨List.mem_cons_of_mem _ (List.mem_singleton_self _), .inl hU⟩
theorem Sc.putE {C : Addr} {name : Str} {v : Value} {Q : Unit → Shared → Prop} (es' : Tok → List DictEntry) (n' : Nat) (H : Sc w mg mb b₀ s₀ U L V (ownF w b₀ C q dw es n :: F) s) (hU : dw ∈ U) (bd : b₀.get? dw = none) (ld : @LT.lt Nat _ 154 dw) (hs : findIn (hd.heap_1 w.params) (.ref C) "__setattr__" = some (some (.builtin "object.__setattr__")))
  (hp : plainOver (hd.heap_1 w.params) C = true) (hh : hasDictIn (hd.heap_1 w.params) C = true) (ht : takerIn (hd.heap_1 w.params) C name = some none) (hl : (lookIn name (dictOf es n)).isSome = true) (hz : ∀ t, (putL name (PyData.keyHash w.params name) (.str name t) v es).length ≤ 1000)
  (h : ∀ s' t, Sc w mg mb b₀ s₀ U L V (ownF w b₀ C q dw (es' t) n' :: F) s' → Q () s') (he : autoParam (∀ t, putL name (PyData.keyHash w.params name) (.str name t) v es = es' t) tI) (hn : autoParam (putN name es n = n') tR) : wpAny (model PW w) A (setAttr (.ref q) name v) Q E s :=
 H.put hU bd ld hs hp hh ht hl hz fun s' t H' => h s' t (by rw [← he t, ← hn]; exact H')
noncomputable def stiF (b₀ : Heap) (I : Addr) (y : Str) (t : Tok) (i : Nat) : Fact b₀ :=
 ⟨fun s => s.heap.IsStrIter I "str_ascii_iterator" y t i, [I], fun S k h ⟨o, e, hc, r⟩ => ⟨o, k.get S e (h I (List.mem_singleton_self I)) (by rw [hc]; exact cn), hc, r⟩, fun ⟨_, e, _⟩ => get_ne e⟩
theorem for_str {target : Expr} {body orelse : List Stmt} {R : Result → Shared → Prop} {y : Str} {t : Tok} (V : List (Str × Value)) (J : Nat → List (Fact b₀) → Shared → Prop) (hh : A.handled = none) (ha : y.cps.all (· < 128) = true) (H : Sc w mg mb b₀ s₀ U L V F s)
  (h0 : ∀ X s', Sc w mg mb b₀ s₀ U L V (X :: F) s' → J 0 [X] s') (hJ : ∀ i X s', J i X s' → ∃ V' F', Sc w mg mb b₀ s₀ U L V' (X ++ F') s' ∧ ∀ X' s'', Sc w mg mb b₀ s₀ U L V' (X' ++ F') s'' → J i X' s'')
  (turn : ∀ i c u s' X, i < y.cps.size → y.cps[i]? = some c → J i [X] s' → wpAny (model PW w) A (assign target env (.str ⟨#[c]⟩ u)) (fun ι s₂ => wpAny (model PW w) A (execs body env) (fun f s3 => (f = .next ∨ f = .cont) ∧ J (i + 1) [X] s3) (fun ι ι => False) s₂) (fun ι ι => False) s')
  (fin : ∀ s', J y.cps.size [] s' → wpAny (model PW w) A (execs orelse env) (fun f s3 => R (.ok f) s3) (fun ι ι => False) s') (hg : autoParam (∀ it v, letOwnedTupleGo target it v = pure ()) tI) :
  wpAny (model PW w) A (pyIter (.str y t)) (fun it s₂ => codeAny (model PW w) A (.forLoop target it body orelse env) R s₂) E s := by
 refine wpAny_pyIter_ascii ha ?_
 have z := H.S.push (o := { cls := .type "str_ascii_iterator", data := .fields #[.str y t, .int 0 0] }) (t := s.toks)
 have fI : s.heap.get? s.heap.objs.size = none := get_size _
 have bI := H.S.fresh
 have lI := H.S.lt
 have f0 := H.isNew fI lI
 have hIt : (s.heap.push { cls := .type "str_ascii_iterator", data := .fields #[.str y t, .int 0 0] }).IsStrIter s.heap.objs.size "str_ascii_iterator" y t 0 := ⟨_, Heap.get?_push_size _ rfl, rfl, rfl⟩
 generalize s.heap.objs.size = I at fI bI lI f0 hIt
 have H0 := H.new z (stiF b₀ I y t 0) hIt (al1 fI)
 have W := Walks.strAscii (prog := PW) (w := w) (A := A) hh I y t
 refine codeAny_forLoop_any (fun n s' => ∃ i, n = y.cps.size + 1 - i ∧ i ≤ y.cps.size ∧ J i [stiF b₀ I y t i] s') ?_ (y.cps.size + 1) ⟨0, rfl, Nat.zero_le _, h0 _ _ H0⟩
 rintro n s' ⟨i, rfl, hi, j⟩
 obtain ⟨V', F', H', back⟩ := hJ _ _ _ j
 have stp : ∀ {h'} {tk : Nat}, (∀ b o, b ∉ [I] → s'.heap.get? b = some o → h'.get? b = some o) → Sit w mg mb b₀ { s' with heap := h', toks := tk } ∧ Kp [I] s' { s' with heap := h', toks := tk } := fun hk =>
  H'.S.by (al1 bI) (by simp only [List.mem_singleton]; exact Nat.ne_of_lt (Nat.lt_trans (by decide) lI)) (by simp only [List.mem_singleton]; exact Nat.ne_of_lt lI) hk rfl rfl
 have hU : ∀ a ∈ [I], a ∈ (stiF b₀ I y t i).foot ∧ s₀.heap.get? a = none := fun a ha => ⟨ha, by rw [List.mem_singleton.mp ha]; exact f0⟩
 have hSt : s'.heap.IsStrIter I "str_ascii_iterator" y t i := H'.get (f := stiF b₀ I y t i) (List.mem_cons_self ..)
 rcases Nat.lt_or_ge i y.cps.size with hlt | hge
 ·refine W.item i s' _ _ hlt hSt fun v h' tk hv hSt' hk => wpAny_of_eq (hg _ _) ?_
  obtain ⟨c, u, hc, rfl⟩ := hv
  have H1 := Sc.upd (Pre := []) (f' := stiF b₀ I y t (i + 1)) H' (stp (tk := tk) hk).1 (stp (tk := tk) hk).2 hU rfl hSt'
  refine notedOf (wpAny_mono (turn i c u _ _ hlt hc (back [_] _ H1)) (fun ι s₂ h₂ => notedOf (wpAny_mono h₂ (fun f s3 h₃ => ?_) fun ι ι z => z)) fun ι ι z => z)
  have res : ∃ m, m < y.cps.size + 1 - i ∧ ∃ i, m = y.cps.size + 1 - i ∧ i ≤ y.cps.size ∧ J i [stiF b₀ I y t i] s3 := ⟨_, sub_dec hlt, i + 1, rfl, hlt, h₃.2⟩
  rcases h₃.1 with rfl | rfl
  ·exact res
  ·exact res
 ·obtain rfl : i = y.cps.size := Nat.le_antisymm hi hge
  exact W.done s' _ _ hSt fun h' tk hk => notedOf (fin _ (back [] _ (H'.tail (stp hk).1 (stp hk).2 hU)))
theorem seq_sc {M : Model} {st : Stmt} {rest : List Stmt} {Q : Flow → Shared → Prop} (P : Shared → Prop) (h1 : ∀ Q' : Flow → Shared → Prop, (∀ s', P s' → Q' .next s') → wpAny M A (exec st env) Q' E s) (h2 : ∀ s', P s' → wpAny M A (execs rest env) Q E s') :
  wpAny M A (execs (st :: rest) env) Q E s := ex_cons (h1 _ h2)
end
end Mine
namespace Mine
section
variable {w : World} {mg mb : NM} {b₀ : Heap} {s₀ s s' : Shared} {A : Around} {E : VP} {L q dw : Addr} {V : List (Str × Value)} {F : List (Fact b₀)} {env : Env} {U : List Addr}
theorem sub_nat {a b : Nat} {t u : Tok} {Q : VP} (hle : b ≤ a) (h : Q (.int ((a - b : Nat) : Int) s.toks) { s with toks := s.toks + 1 }) : wpAny (model PW w) A (binaryOp .Sub (.int (a : Int) t) (.int (b : Int) u)) Q E s := by
 refine PySem.P.sub_int ?_
 have e : (a : Int) - (b : Int) = ((a - b : Nat) : Int) := by lia
 rw [e]; exact h
theorem Sc.lenI {l : Addr} {ns : List Nat} {x : Str} {p1 p2 p3 : Pos} {Q : VP} (H : Sc w mg mb b₀ s₀ U L V F s) (hm : intsF b₀ l ns ∈ F) (hv : V.lookup x = some (.ref l)) (hz : ns.length ≤ 100000) (h : ∀ t k, Sc w mg mb b₀ s₀ U L V F { s with toks := k } → Q (.int ((ns.length : Nat) : Int) t) { s with toks := k })
  (hel : autoParam (env.locals = L) tR) (hk : autoParam (env.scope.kind = .function) tR) (hx : autoParam (env.kindOf x = some .local) tR) (hg : autoParam (env.globals = mainGlobals) tR) (hb : autoParam (env.builtins = builtinsNs) tR) (g3 : autoParam (env.kindOf "len" = some .globalImplicit) tR) (hd : autoParam ((x == ("__debug__" : Str)) = false) tD)
  (he : autoParam (starEach [.Name x p2] env = [(false, eval (.Name x p2) env)]) tR) : wpAny (model PW w) A (eval (.Call (.Name "len" p1) [.Name x p2] [] p3) env) Q E s := by
 obtain ⟨vs, kz, e, zz, -⟩ := (H.get hm : IntsOn b₀ s.heap l ns).on
 refine wpAny_Call_NameR (H.bi (v := .builtin "len") (by k_is) (by decide +kernel) (callWith_builtin rfl (evalArgs_plain ?_)) hg hb hk g3)
 refine spliced_cons (H.loc (v := .ref l) hv (spliced_nil (PyProof.Rows.len_list ⟨_, e, rfl, _, rfl⟩ (by lia) ?_)) hel hk hx hd)
 rw [zz]
 exact h _ _ (H.tok _)
noncomputable abbrev wsV (q l : Addr) (st : WsSt) (tn tnt tb : Tok) : List (Str × Value) := [("b", .int (st.b : Nat) tb), ("n", .int (st.n : Nat) tn), ("nt", .int (st.nt : Nat) tnt), ("count", .ref l), ("T", .str "\t" 433), ("S", .str " " 432), ("self", .ref q)]
noncomputable abbrev wsF0 (w : World) (b₀ : Heap) (q dw l : Addr) (cnt : List Nat) (a : Tok) (y : Str) (u : Tok) : List (Fact b₀) := [intsF b₀ l cnt, ownF w b₀ 251 q dw [Key w "raw" a (.str y u)] 1]
theorem init_ws {y : Str} {t0 : Tok} {R : Result → Shared → Prop} (S : Sit w mg mb b₀ s) (bdw : b₀.get? dw = none) (ldw : @LT.lt Nat _ 154 dw) (hq : s.heap.get? q = some (instObj 251 dw)) (hdw : s.heap.get? dw = some (dictOf [] 0)) (Rm' : Rm A 8)
  (hy : ∀ c ∈ y.cps.toList, c = 32 ∨ c = 9) (hyl : y.cps.size ≤ 1000)
  (hret : ∀ s' N C, Sit w mg mb b₀ s' → Kp [dw] s s' → WsAt w s'.heap q dw N C (wsRun y.cps.toList) → s.heap.get? N = none → s.heap.get? C = none → R (.ok (.ret .none)) s') : codeAny (model PW w) A (.call (.ref 206) ⟨[.ref q, .str y t0], []⟩) R s := by
 refine enter_b [dw] (binds := [("self", .ref q), ("ws", .str y t0)]) S (Rm'.dl (k := 0) (by decide)) (by k_is) (by k_is) (BindsTo.of_eq rfl) (locs rfl) ?_
 intro L s₁ B1 k₁
 refine cutQ fun Q0 h₀ => ?_
 have du : dw ∈ [dw] := List.mem_singleton_self _
 have H1 : Sc w mg mb b₀ s [dw] L [("ws", .str y t0), ("self", .ref q)] [ownF w b₀ 251 q dw [] 0] s₁ := Sc.ofU B1 k₁ (fun x v e => e) S (al1 ⟨hq, hdw⟩) (List.pairwise_singleton ..) fun u hu => by rw [List.mem_singleton.mp hu, hdw]; exact Option.some_ne_none _
 clear B1 k₁
 refine ex_cons (plainObj_wpAny_Assign_Attribute (H1.loc (v := .str y t0) rfl (H1.loc (v := .ref q) rfl (H1.put du bdw ldw (by k_is) (by k_is) (by k_is) (by k_is) rfl (fun t => Nat.le_of_ble_eq_true rfl) fun s₂ a H₂ => ?_))))
 refine seq_sc ?P ?_ ?_
 case P => exact fun s' => Sc w mg mb b₀ s [dw] L [("T", .str "\t" 433), ("S", .str " " 432), ("ws", .str y t0), ("self", .ref q)] [ownF w b₀ 251 q dw [Key w "raw" a (.str y t0)] 1] s'
 ·intro Q' hQ
  refine Sc.swap (mg := mg) (mb := mb) (b₀ := b₀) (s₀ := s) (U := [dw]) Rm'.hh ?_
  refine spliced_cons (Attribute_name (H₂.top (v := .ref 251) (by k_is) (cls_value (mc := .type "type") H₂.ck (by k_is) (by k_is) rfl ?_)))
  refine spliced_cons (Attribute_name ((H₂.tok _).top (v := .ref 251) (by k_is) (cls_value (mc := .type "type") H₂.ck (by k_is) (by k_is) rfl (spliced_nil ?_))))
  exact ⟨_, _, _, _, rfl, (H₂.tok _).tok _, fun s' H => hQ s' (H.vars rfl)⟩
 clear H1 H₂
 intro s3 H3
 refine seq_sc ?P ?_ ?_
 case P => exact fun s' => ∃ l, s.heap.get? l = none ∧ Sc w mg mb b₀ s [dw] L [("count", .ref l), ("T", .str "\t" 433), ("S", .str " " 432), ("self", .ref q)] (wsF0 w b₀ q dw l [] a y t0) s'
 ·intro Q' hQ
  refine wpAny_Assign_Name ?_
  refine PyProof.Rows.List_ ?_
  exact spliced_nil (Sc.newI [] H3 (Nat.le_of_ble_eq_true rfl) fun s4 l fl H4 => H4.st fun s5 H5 => hQ _ ⟨l, fl, H5.vars rfl⟩)
 clear H3
 intro s4 ⟨l, fl, H4⟩
 refine seq_sc ?P ?_ ?_
 case P => exact fun s' => ∃ tn tnt tb, Sc w mg mb b₀ s [dw] L (wsV q l ⟨0, 0, 0, []⟩ tn tnt tb) (wsF0 w b₀ q dw l [] a y t0) s'
 ·intro Q' hQ
  refine wpAny_Assign_three ?_
  refine wpAny_Constant_int ?_
  refine wpAny_assign_Name ((H4.tok _).st fun s5 H5 => wpAny_assign_Name (H5.st fun s6 H6 => wpAny_assign_Name (H6.st fun s7 H7 => hQ _ (exI3 _ _ _ (H7.vars rfl)))))
 clear H4
 intro s5 hX
 refine exE3 hX fun tn tnt tb H5 => ?_
 clear hX
 refine seq_sc ?P ?_ ?_
 case P => exact fun s' => ∃ l tn tnt tb, Sc w mg mb b₀ s [dw] L (wsV q l (wsRun y.cps.toList) tn tnt tb) (wsF0 w b₀ q dw l (wsRun y.cps.toList).cnt a y t0) s'
 ·intro Q' hQ
  obtain ⟨hq5, hd5⟩ : _ ∧ _ := H5.get (f := ownF w b₀ 251 q dw [Key w "raw" a (.str y t0)] 1) (List.mem_cons_of_mem _ (List.mem_cons_self ..))
  refine wpAny_For ?_
  refine Attribute_name (H5.loc (v := .ref q) rfl (own_get H5.S (InstP hq5 hd5) (by k_is) (by k_is) (by k_is) (by k_is) rfl rfl (out_none' ?_)))
  refine for_str _ (fun i X s' => ∃ l tn tnt tb, s.heap.get? l = none ∧ Sc w mg mb b₀ s [dw] L (wsV q l (wsRun (y.cps.toList.take i)) tn tnt tb) (X ++ wsF0 w b₀ q dw l (wsRun (y.cps.toList.take i)).cnt a y t0) s') Rm'.hh (sp_codes hy) (H5.tok _) (fun X s' H => exI4 l tn tnt tb ⟨fl, H⟩)
   (fun i X s' hX => exE4 hX fun l tn tnt tb hX => hX.elim fun fl H => ⟨_, _, H, fun X' s'' H' => exI4 l tn tnt tb ⟨fl, H'⟩⟩) (fun i c u s' X hi hc hX => ?_) fun s' hX => exE4 hX fun l tn tnt tb hX => hX.elim fun fl H => wpAny_execs_nil (hQ _ (exI4 l tn tnt tb ?_))
  ·have hcm : c = 32 ∨ c = 9 := hy c (Array.mem_toList_iff.mpr (Array.mem_of_getElem? hc))
   have hst : wsRun (y.cps.toList.take (i + 1)) = wsStep (wsRun (y.cps.toList.take i)) c := by
    have : y.cps.toList[i]? = some c := by simpa using hc
    rw [List.take_add_one, this]
    simp [wsRun, List.foldl_append]
   have hb1000 : (wsRun (y.cps.toList.take i)).b ≤ 1000 ∧ (wsRun (y.cps.toList.take i)).cnt.length ≤ 1000 := by
    have := wsRun_bound (y.cps.toList.take i)
    have hl : (y.cps.toList.take i).length ≤ 1000 := Nat.le_trans (List.length_take_le' ..) hyl
    exact ⟨Nat.le_trans this.1 hl, Nat.le_trans this.2 hl⟩
   rw [hst]
   generalize wsRun (y.cps.toList.take i) = st at *
   refine cutQ fun Q₁ h₁ => ?_
   refine exE4 hX fun l tn tnt tb hX => hX.elim fun fl H => ?_
   refine wpAny_assign_Name (H.st fun s₂ H₂ => h₁ _ _ ?_)
   refine cutQ fun Q2 h₂ => ?_
   clear H H5 hst
   refine ex_cons (ex_If (wpAny_isTrue_Compare1 (H₂.loc rfl (H₂.loc (v := .str " " 432) rfl (PySem.P.eq_str ?_)))))
   rcases hcm with rfl | rfl
   ·walk1
    refine ite_t (by decide +kernel) ?_
    refine ex_cons (wpAny_Assign_Name (wpAny_BinOp (H₂.loc (v := .int (st.n : Nat) tn) rfl (wpAny_Constant_int (add_nat rfl (b := 1) rfl (((H₂.tok _).tok _).st fun s3 H3 => ?_))))))
    refine ex_cons (wpAny_Assign_Name (wpAny_BinOp (H3.loc (v := .int (st.b : Nat) tb) rfl (wpAny_Constant_int (add_nat rfl (b := 1) rfl (((H3.tok _).tok _).st fun s4 H4 => ?_))))))
    exact wpAny_execs_nil (wpAny_execs_nil (h₂ _ _ ⟨.inl rfl, exI4 l _ tnt _ ⟨fl, H4.vars (V' := wsV q l ⟨st.n + 1, st.nt, st.b + 1, st.cnt⟩ _ tnt _) rfl⟩⟩))
   ·walk1
    refine ite_f (by decide +kernel) ?_
    refine ex_cons (ex_If (wpAny_isTrue_Compare1 (H₂.loc rfl (H₂.loc (v := .str "\t" 433) rfl (PySem.P.eq_str ?_)))))
    walk1
    refine ite_t (by decide +kernel) ?_
    refine ex_cons (wpAny_Assign_Name (wpAny_BinOp (H₂.loc (v := .int (st.n : Nat) tn) rfl (wpAny_Constant_int (add_nat rfl (b := 1) rfl (((H₂.tok _).tok _).st fun s3 H3 => ?_))))))
    refine ex_cons (wpAny_Assign_Name (wpAny_BinOp (H3.loc (v := .int (st.nt : Nat) tnt) rfl (wpAny_Constant_int (add_nat rfl (b := 1) rfl (((H3.tok _).tok _).st fun s4 H4 => ?_))))))
    clear H₂ H3
    generalize hu1 : s₂.toks + 1 = u1 at H4
    generalize hu2 : s3.toks + 1 = u2 at H4
    clear hu1 hu2
    refine seq_sc ?P ?_ ?_
    case P => exact fun s' => ∃ l, s.heap.get? l = none ∧ Sc w mg mb b₀ s [dw] L (wsV q l ⟨st.n + 1, st.nt + 1, st.b, st.cnt⟩ u1 u2 tb) ([X] ++ wsF0 w b₀ q dw l (wsPad st.cnt st.b) a y t0) s'
    ·intro Q' hQ
     refine ex_If (wpAny_isTrue_Compare1 (H4.loc (v := .int (st.b : Nat) tb) rfl (H4.lenI in1 rfl (by lia) fun t k H5 => ?_)))
     refine PySem.P.ge_int ?_
     walk1
     by_cases hle : st.cnt.length ≤ st.b
     ·refine ite_t (by simpa using hle) ?_
      refine ex_cons (wpAny_Assign_Name (wpAny_BinOp (H5.loc (v := .ref l) rfl (wpAny_BinOp ?_))))
      refine PyProof.Rows.List_ ?_
      refine spliced_cons (wpAny_Constant_int (k := 0) (pos := ⟨182, 27, 182, 28⟩) (spliced_nil ?_))
      refine Sc.newI [(0, _)] (H5.tok _) (Nat.le_of_ble_eq_true rfl) fun s6 r ι H6 => ?_
      refine wpAny_BinOp (wpAny_BinOp (H6.loc (v := .int (st.b : Nat) tb) rfl (H6.lenI in2 rfl (by lia) fun t2 k2 H7 => sub_nat hle (wpAny_Constant_int (add_nat rfl (b := 1) rfl ?_)))))
      refine (((H7.tok _).tok _).tok _).mul1 (l := r) (x := 0) (more := st.b - st.cnt.length + 1) in0 (Nat.le_trans (Nat.succ_le_succ (Nat.le_trans (Nat.sub_le ..) hb1000.1)) (by decide)) fun s8 D ι H8 => ?_
      refine H8.addLI (l := l) (ns := st.cnt) (ms := List.replicate (st.b - st.cnt.length + 1) 0) in3 in0 (by simp; lia) fun s9 D2 f2 H9 => H9.st fun s10 H10 => wpAny_execs_nil (hQ _ ⟨D2, f2, ?_⟩)
      have ep : wsPad st.cnt st.b = st.cnt ++ List.replicate (st.b - st.cnt.length + 1) 0 := by unfold wsPad; rw [if_pos hle]
      rw [ep]
      refine ((H10.sub (F' := [intsF b₀ D2 (st.cnt ++ List.replicate (st.b - st.cnt.length + 1) 0), X, ownF w b₀ 251 q dw [Key w "raw" a (.str y t0)] 1]) (.cons_cons _ (.cons _ (.cons _ (.cons_cons _ (.cons _ (.refl _))))))).perm (.swap ..)).vars rfl
     ·refine ite_f (by simpa using hle) ?_
      have ep : wsPad st.cnt st.b = st.cnt := by unfold wsPad; rw [if_neg hle]
      refine wpAny_execs_nil (hQ _ ⟨l, fl, ?_⟩)
      rw [ep]
      exact H5.vars rfl
    clear H4 fl
    intro s5 ⟨l, fl, H5⟩
    have x : IntsOn b₀ s5.heap l (wsPad st.cnt st.b) := H5.get in1
    obtain ⟨vs, kv, ev, -⟩ := id x.on
    have hbl : st.b < (wsPad st.cnt st.b).length := by rw [wsPad_length]; exact Nat.lt_of_lt_of_le (Nat.lt_succ_self _) (Nat.le_max_right ..)
    have hbz : (wsPad st.cnt st.b).length ≤ 100000 := by rw [wsPad_length]; exact Nat.max_le.mpr ⟨Nat.le_trans hb1000.2 (by decide), Nat.le_trans (Nat.succ_le_succ hb1000.1) (by decide)⟩
    refine ex_cons (wpAny_Assign_Subscript (wpAny_BinOp (Subscript_Name (H5.loc (v := .ref l) rfl (H5.loc (v := .int (st.b : Nat) tb) rfl ⟨"list", _, slot_list_getitem.lookup, ⟨_, ev, rfl⟩, ints_item x hbl hbz fun u => wpAny_Constant_int (add_nat rfl (b := 1) rfl ?_)⟩)))))
    have H6 := (H5.tok (s5.toks + 1)).tok (s5.toks + 1 + 1)
    refine H6.loc (v := .ref l) rfl (H6.loc (v := .int (st.b : Nat) tb) rfl (ints_put H6.S x hbl hbz fun s7 S7 k7 x₇ => ?_))
    have H7 := Sc.upd (Pre := [X]) (Post := [ownF w b₀ 251 q dw [Key w "raw" a (.str y t0)] 1]) (f' := intsF b₀ l ((wsPad st.cnt st.b).set st.b ((wsPad st.cnt st.b).getD st.b 0 + 1))) H6 S7 k7 (al1 ⟨List.mem_singleton_self _, fl⟩) rfl x₇
    refine ex_cons (wpAny_Assign_Name (wpAny_Constant_int ((H7.tok _).st fun s8 H8 => ?_)))
    exact wpAny_execs_nil (wpAny_execs_nil (wpAny_execs_nil (h₂ _ _ ⟨.inl rfl, exI4 l _ _ _ ⟨fl, H8.vars (V' := wsV q l ⟨st.n + 1, st.nt + 1, 0, (wsPad st.cnt st.b).set st.b ((wsPad st.cnt st.b).getD st.b 0 + 1)⟩ u1 u2 _) rfl⟩⟩)))
  ·rw [show y.cps.toList.take y.cps.size = y.cps.toList from by rw [← Array.length_toList]; exact List.take_length] at H
   exact H
 clear H5 fl
 intro s6 hX
 refine exE4 hX fun l tn tnt tb H6 => ?_
 clear hX
 have hb1000 : (wsRun y.cps.toList).cnt.length ≤ 1000 := by
  have := (wsRun_bound y.cps.toList).2
  simp only [Array.length_toList] at this
  lia
 generalize wsRun y.cps.toList = st at *
 replace H6 := H6.perm (.swap ..)
 refine ex_cons (plainObj_wpAny_Assign_Attribute (H6.loc (v := .int (st.n : Nat) tn) rfl (H6.loc (v := .ref q) rfl (H6.putE (fun b1 => [Key w "raw" a (.str y t0), Key w "n" b1 (.int (st.n : Nat) tn)]) 2 du bdw ldw (by k_is) (by k_is) (by k_is) (by k_is) rfl (fun t => Nat.le_of_ble_eq_true rfl) fun s7 b1 H7 => ?_))))
 clear H6
 refine ex_cons (plainObj_wpAny_Assign_Attribute (H7.loc (v := .int (st.nt : Nat) tnt) rfl (H7.loc (v := .ref q) rfl (H7.putE (fun b2 => [Key w "raw" a (.str y t0), Key w "n" b1 (.int (st.n : Nat) tn), Key w "nt" b2 (.int (st.nt : Nat) tnt)]) 3 du bdw ldw (by k_is) (by k_is) (by k_is) (by k_is) rfl (fun t => Nat.le_of_ble_eq_true rfl) fun s8 b2 H8 => ?_))))
 clear H7
 refine ex_cons (plainObj_wpAny_Assign_Attribute ?_)
 refine Tuple_ (k := 0) ?_
 refine spliced_cons (wpAny_Call_NameR (H8.bi (v := .type "tuple") (by k_is) (by decide +kernel) (PyProof.Rows.callWith_type1 ?_)))
 refine spliced_cons (H8.loc (v := .ref l) rfl (spliced_nil (H8.tupl in1 hb1000 fun s9 C its fC H9 hI => ?_)))
 refine spliced_cons (H9.loc (v := .int (st.b : Nat) tb) rfl (spliced_nil (H9.newT (Nat.le_of_ble_eq_true rfl) fun s10 N fN H10 => ?_)))
 replace H10 := H10.perm (F' := ownF w b₀ 251 q dw _ _ :: [tupF b₀ N #[.ref C, .int (st.b : Nat) tb], tupF b₀ C its, intsF b₀ l st.cnt]) ((List.Perm.cons _ (List.Perm.swap ..)).trans (List.Perm.swap ..))
 refine H10.loc (v := .ref q) rfl (H10.putE (fun b3 => [Key w "raw" a (.str y t0), Key w "n" b1 (.int (st.n : Nat) tn), Key w "nt" b2 (.int (st.nt : Nat) tnt), Key w "norm" b3 (.ref N)]) 4 du bdw ldw (by k_is) (by k_is) (by k_is) (by k_is) rfl (fun t => Nat.le_of_ble_eq_true rfl) fun s11 b3 H11 => ?_)
 clear H8 H9 H10
 refine ex_cons (plainObj_wpAny_Assign_Attribute (wpAny_Compare1 (H11.lenI in3 rfl (Nat.le_trans ‹_› (by decide)) fun t k H12 => ?_)))
 iterate 2 walk1
 refine (H12.tok _).loc (v := .ref q) rfl ((H12.tok _).put du bdw ldw (by k_is) (by k_is) (by k_is) (by k_is) rfl (fun t => Nat.le_of_ble_eq_true rfl) fun s13 b4 H13 => ?_)
 obtain ⟨hq', hd'⟩ : _ ∧ _ := H13.get (List.mem_cons_self ..)
 exact wpAny_execs_nil (h₀ _ _ (hret _ N C H13.S H13.K ⟨hq', ⟨_, _, _, _, _, _, _, _, _, _, hd'⟩, ⟨_, H13.get in1⟩, its, H13.get in2, hI⟩ fN fC))
end
end Mine
namespace Mine
noncomputable abbrev codesOf (ns : List Nat) : List Nat := (textOf (tpairs ns)).cps.toList
section
variable {w : World} {mg mb : NM} {b₀ : Heap} {s₀ s s' : Shared} {A : Around} {E : VP} {L : Addr} {U : List Addr} {m : NM} {env : Env}
theorem for_list {target : Expr} {body orelse : List Stmt} {R : Result → Shared → Prop} {l : Addr} {items : Array Value} {kk : Nat} (V : List Addr) (J : Nat → Shared → Prop) (hh : A.handled = none) (S : Sit w mg mb b₀ s) (hl : s.heap.get? l = some (lstO items kk))
  (hV : ∀ v ∈ V, s.heap.get? v ≠ none ∧ v ≠ l) (hS : ∀ i s', J i s' → Sit w mg mb b₀ s')
  (stab : ∀ i s' s'' I, s.heap.get? I = none → b₀.get? I = none → @LT.lt Nat _ 154 I → (∀ its, ¬ s'.heap.IsTuple I its) → J i s' → Sit w mg mb b₀ s'' → Kp [I] s' s'' → J i s'') (h0 : J 0 s)
  (turn : ∀ i v s', i < items.size → items[i]? = some v → J i s' → s'.heap.get? l = some (lstO items kk) → wpAny (model PW w) A (assign target env v) (fun ι s₂ => wpAny (model PW w) A (execs body env) (fun f s3 => (f = .next ∨ f = .cont) ∧ J (i + 1) s3 ∧ Kp V s' s3) (fun ι ι => False) s₂) (fun ι ι => False) s')
  (fin : ∀ s', J items.size s' → s'.heap.get? l = some (lstO items kk) → wpAny (model PW w) A (execs orelse env) (fun f s3 => R (.ok f) s3) (fun ι ι => False) s')
  (ht : autoParam (∀ I v, letOwnedTupleGo target (.ref I) v = pure ()) tI) :
  wpAny (model PW w) A (pyIter (.ref l)) (fun it s₂ => codeAny (model PW w) A (.forLoop target it body orelse env) R s₂) E s := by
 have hIL : s.heap.IsList l items := ⟨_, hl, rfl, _, rfl⟩
 have hlI : l ≠ s.heap.objs.size := Nat.ne_of_lt (Heap.lt_size hl)
 refine wpAny_pyIter_list hIL ?_
 have z := S.push (o := { cls := .type "list_iterator", data := .fields #[.ref l, .int 0 0] }) (t := s.toks)
 have fI : s.heap.get? s.heap.objs.size = none := get_size _
 have nV : s.heap.objs.size ∉ V := fun q => (hV _ q).1 fI
 have lV : l ∉ V := fun q => (hV _ q).2 rfl
 refine for_walks (Walks.lst hh items hlI) (fun i s' => J i s' ∧ s'.heap.get? l = some (lstO items kk)) (fun i s' j => hS i s' j.1) (by simp only [List.mem_singleton, forall_eq]; exact ⟨S.fresh, S.lt⟩)
  (fun i s' s'' j st S'' k => ?_) ⟨?_, z.2.lstO S hl List.not_mem_nil⟩ ⟨⟨_, Heap.get?_push_size _ rfl, rfl, rfl⟩, (z.2.lst S hIL List.not_mem_nil)⟩ (fun i v s' hi hP j hSt => ?_) (fun s' j => fin s' j.1 j.2) (ht _)
 ·obtain ⟨oI, eI, hc, _⟩ := st.1
  exact ⟨stab i s' s'' _ fI S.fresh S.lt (fun its => cls_tup eI (by rw [hc]; decide)) j.1 S'' k, k.lstO (hS _ _ j.1) j.2 (not_in hlI)⟩
 ·refine stab 0 s _ _ fI S.fresh S.lt (fun its q => ?_) h0 z.1 (z.2.wide no_in)
  obtain ⟨o, e, _⟩ := q
  rw [fI] at e; cases e
 ·refine wpAny_mono (turn i v s' hi hP j.1 j.2) (fun ι s₂ h₂ => wpAny_mono h₂ (fun f s3 h₃ => ?_) fun ι ι z => z) fun ι ι z => z
  obtain ⟨hf, hJ, k⟩ := h₃
  have S' := hS _ _ j.1
  obtain ⟨⟨oI, eI, hc, hd'⟩, hL⟩ := hSt
  exact ⟨hf, ⟨hJ, k.lstO S' j.2 lV⟩, ⟨oI, k.get S' eI nV (by rw [hc]; decide), hc, hd'⟩, k.lst S' hL lV⟩
theorem new_ws {y : Str} {t0 : Tok} {Q : VP} (S : Sit w mg mb b₀ s) (R : Rm A 10) (hy : ∀ c ∈ y.cps.toList, c = 32 ∨ c = 9) (hyl : y.cps.size ≤ 1000)
  (hret : ∀ s' q dw N C, Sit w mg mb b₀ s' → Kp [] s s' → WsAt w s'.heap q dw N C (wsRun y.cps.toList) → s.heap.get? q = none → s.heap.get? dw = none → s.heap.get? N = none → s.heap.get? C = none → Q (.ref q) s') : wpAny (model PW w) A (call (.ref 251) [.str y t0]) Q E s := by
 have X := S.C.K.keeps S.k
 have hi : findIn (hd.heap_1 w.params) (.ref 251) "__init__" = some (some (.ref 206)) := by k_is
 have hf : typeIn (hd.heap_1 w.params) (.ref 206) = some (.type "function") := by k_is
 have hm : makesIn (hd.heap_1 w.params) 251 = true := by k_is
 have z₁ := S.push (o := emptyDict) (t := s.toks)
 have z₂ := z₁.1.push (o := instObj 251 s.heap.objs.size) (t := s.toks)
 have dn : ∀ {x : Addr}, ((s.heap.push emptyDict).push (instObj 251 s.heap.objs.size)).get? x = none → s.heap.get? x = none := fun {x} e => by
  cases r : s.heap.get? x with
  | none => rfl
  | some o => rw [Heap.get?_push_of_some _ (Heap.get?_push_of_some _ r)] at e; cases e
 obtain ⟨hh, g, dd, t, os⟩ := s
 refine wpAny_call (make_core (makes_of X hm) (looks_findIn X hi) (fun self => bind_fn X self hf) (.inl rfl) ?_)
 refine init_ws (q := hh.objs.size + 1) (dw := hh.objs.size) z₂.1 S.fresh S.lt (Heap.get?_push_at (Heap.size_push ..).symm rfl) (Heap.get?_push_of_some _ (Heap.get?_push_at rfl rfl)) (R.le (k := 9) (by decide)).cls hy hyl fun s' N C S' k' W' fN fC => ?_
 exact ⟨rfl, hret s' _ _ N C S' ((z₁.2.trans (z₂.2.trans k' (W := [hh.objs.size]) no_in (fun x hx => .inl hx)) (W := []) no_in fun x hx => .inr (by rw [List.mem_singleton.mp hx]; exact get_size _))) W' (out_of (Nat.le_succ _)) (get_size _) (dn fN) (dn fC)⟩
theorem typed_f {l : Addr} {ns : List Nat} {Q : VP} (S : Sit w mg mb b₀ s) (R : Rm A 14) (hb : BagOn b₀ s.heap l ns) (hn : ns.sum + ns.length ≤ 1000)
  (hret : ∀ s' q dw N C, Sit w mg mb b₀ s' → Kp [] s s' → WsAt w s'.heap q dw N C (wsRun (codesOf ns)) → s.heap.get? q = none → s.heap.get? dw = none → s.heap.get? N = none → s.heap.get? C = none → Q (.ref q) s') :
  wpAny (model PW w) A (call (.ref 262) [.ref l]) Q E s := by
 refine wpAny_call ?_
 obtain ⟨bl, ll, vs, kk, hl, hsz, hvs⟩ := id hb
 refine enter_b [] (binds := [("bag", .ref l)]) S (R.dl (k := 0) (by decide)) (by k_is) (by k_is) (BindsTo.of_eq rfl) (locs rfl) ?_
 intro L s₁ B1 k₁
 refine cutQ fun Q0 h₀ => ?_
 have hl₁ := k₁.lstO S hl List.not_mem_nil
 refine ex_cons (wpAny_Assign_Name (wpAny_Call_NameR (B1.top (v := .ref 185) (by k_is) (callWith_K0 B1.ck (by k_is) ?_))))
 refine new_acc (tv := 333) B1.S ((R.le (k := 7) (by decide)).deep) (.inl ⟨rfl, rfl⟩) fun s₂ x d S₂ k₂ a₂ nx nd => ?_
 have B2 := B1.step0 ⟨S₂, k₂⟩
 have hl₂ := k₂.lstO B1.S hl₁ List.not_mem_nil
 have xL : x ≠ L := B1.ne_new nx
 have dL : d ≠ L := B1.ne_new nd
 have lL : l ≠ L := B1.ne_old hl
 have fx : s.heap.get? x = none := B1.K.none_of nx a₂.lx
 have xl : x ≠ l := fun q => by rw [q, hl] at fx; cases fx
 refine B2.st fun s3 B3 k₃ => ?_
 have a₃ := a₂.loc S₂ k₃ B2.ns dL
 have hl3 := k₃.lstO S₂ hl₂ (not_in lL)
 obtain ⟨its3, kx3, t03, t13, I3⟩ := a₃.inst
 refine ex_cons (wpAny_For (B3.loc (v := .ref l) (by ((try dsimp only); (repeat' (first | assumption | exact if_pos rfl | (refine (if_neg (by decide)).trans ?_) | exact rfl)))) (out_none' (for_list [L, x] (fun i s' => ∃ m, Body w mg mb b₀ s [] L m s' ∧ m "pile" = some (.ref x) ∧ AccOn w b₀ s'.heap x d (tpairs (ns.take i)) 0) R.hh B3.S hl3 ?_
  (fun i s' J => by obtain ⟨m, B, _⟩ := J; exact B.S) (fun i s' s'' I fI bI lI nt J S'' k => ?_) ⟨_, B3, by ((try dsimp only); (repeat' (first | assumption | exact if_pos rfl | (refine (if_neg (by decide)).trans ?_) | exact rfl))), a₃⟩ (fun i v s' hi hv J hl' => ?_) fun s' J hl' => ?_))))
 ·intro v hv
  rcases List.mem_cons.mp hv with rfl | hv
  ·obtain ⟨o, _, _, e, _⟩ := B3.ns
   exact ⟨by rw [e]; simp, Ne.symm lL⟩
  ·rw [List.mem_singleton.mp hv]
   exact ⟨by rw [I3.at_]; simp, xl⟩
 ·obtain ⟨m, B, mp, a⟩ := J
  have nx : I ≠ x := fun q => by rw [q, I3.at_] at fI; cases fI
  have nd : I ≠ d := fun q => by rw [q, show s3.heap.get? d = _ from I3.dict] at fI; cases fI
  exact ⟨m, B.step S'' k (al1 (.inr (B3.K.none_of fI lI))) (not_in (Ne.symm (B3.ne_new fI))), mp, a.kp' B.S k (by simp only [List.mem_singleton, forall_eq]; exact ⟨nx, nd, nt⟩)⟩
 ·obtain ⟨m, B, mp, a⟩ := J
  have hi' : i < ns.length := by lia
  obtain ⟨tv, htv⟩ := hvs i ns[i] (List.getElem?_eq_getElem hi')
  refine wp_v (Option.some.inj (hv.symm.trans htv)) ?_
  refine wpAny_assign_Name (B.st fun s4 B4 k₄ => ?_)
  have a₄ := a.loc B.S k₄ B.ns dL
  refine ex_cons (wpAny_Expr_any (MethodCall_ (B4.loc (v := .ref x) (by ((try dsimp only); (repeat' (first | assumption | exact if_pos rfl | (refine (if_neg (by decide)).trans ?_) | exact rfl)))) ?_)))
  refine acc_m B4.S a₄ (f := 129) (by k_is) (by k_is) (fun ι ι => rfl) ?_
  refine callWith_K B4.ck (by k_is) (spliced_cons (B4.loc (v := .str (sp ns[i]) tv) (by ((try dsimp only); (repeat' (first | assumption | exact if_pos rfl | (refine (if_neg (by decide)).trans ?_) | exact rfl)))) (spliced_cons ?_)))
  refine wpAny_Constant_str (k := 0) (pos := ⟨171, 25, 171, 29⟩) (spliced_nil ⟨B4.ck, ?_⟩)
  have B5 := B4.tok (s4.toks + 1)
  refine push_k (s := { s4 with toks := s4.toks + 1 }) B5.S a₄ ((R.le (k := 5) (by decide)).deep) (by simp [tpairs]; lia) fun s6 S6 k₆ a₆ => ?_
  have B6 := B5.step S6 k₆ (al1 (.inr fx)) (not_in (Ne.symm xL))
  refine wpAny_execs_nil ⟨.inl rfl, ⟨_, B6, by ((try dsimp only); (repeat' (first | assumption | exact if_pos rfl | (refine (if_neg (by decide)).trans ?_) | exact rfl))), ?_⟩, (k₄.trans (W := [L, x]) (Kp.trans (U := []) (Kp.of_eq (s' := { s4 with toks := s4.toks + 1 }) rfl rfl) k₆ (W := [x]) no_in (by simp)) (by simp) (by simp))⟩
  have e : tpairs (ns.take (i + 1)) = tpairs (ns.take i) ++ [(sp ns[i], Str.ofString "\t")] := by
   rw [List.take_succ_eq_append_getElem hi', tpairs, List.map_append]
   rfl
  rw [e]
  exact a₆
 ·obtain ⟨m, B, mp, a⟩ := J
  rw [hsz, List.take_length] at a
  have hlen := tpairs_len ns
  have htl : (tpairs ns).length = ns.length := by simp [tpairs]
  refine wpAny_execs_nil (ex_cons (wpAny_Return_some (wpAny_Call_NameR (B.top (v := .ref 251) (by k_is) (callWith_K B.ck (by k_is) (spliced_cons (wpAny_Call_NameR (B.bi (v := .type "str") (by k_is) (by decide +kernel) (PyProof.Rows.callWith_type1 (spliced_cons (B.loc (v := .ref x) mp (spliced_nil ?_))))))))))))
  refine acc_str B.S a ((R.le (k := 9) (by decide)).deep) ⟨by lia, by lia⟩ fun s4 t4 S4 k₄ a₄ => spliced_nil ⟨S4.C.K.keeps S4.k, ?_⟩
  have B4 := B.step0 ⟨S4, k₄⟩
  have hch : ∀ c ∈ (textOf (tpairs ns)).cps.toList, c = 32 ∨ c = 9 := fun c hc => by
   rw [tpairs_text] at hc
   obtain ⟨n, _, hc⟩ := List.mem_flatMap.mp hc
   rcases List.mem_append.mp hc with q | q
   ·exact .inl (List.mem_replicate.mp q).2
   ·exact .inr (List.mem_singleton.mp q)
  refine new_ws S4 ((R.le (k := 11) (by decide)).deep) hch (by have := textOf_length (tpairs ns); show (textOf (tpairs ns)).length ≤ 1000; lia) fun s5 q dw N C S5 k₅ W5 fq fdw fN fC => ?_
  have up := fun {x : Addr} (e : s4.heap.get? x = none) => B4.K.none_up B4.S e
  refine h₀ _ _ ?_
  exact hret s5 q dw N C S5 (B4.K.trans k₅ (W := []) no_in (by simp)) W5 (up fq) (up fdw) (up fN) (up fC)
end
end Mine
namespace Mine
theorem drop_last {zs : List Nat} {n : Nat} (h : zs.length = n + 1) : zs.drop n = [zs.getD n 0] := by
 apply List.ext_getElem?
 intro i
 rw [List.getElem?_drop]
 cases i with
 | zero => rw [Nat.add_zero, List.getD_eq_getElem?_getD, List.getElem?_eq_getElem (by lia : n < zs.length)]; rfl
 | succ i => rw [List.getElem?_eq_none (by lia : zs.length ≤ n + (i + 1)), List.getElem?_eq_none (Nat.le_of_ble_eq_true rfl)]
section
variable {U : List Addr} {w : World} {mg mb : NM} {b₀ : Heap} {s₀ s s' : Shared} {A : Around} {E : VP} {L Z Ea : Addr} {V : List (Str × Value)} {F : List (Fact b₀)} {env : Env} {zs es : List Nat} {more n : Nat} {t : Tok}
theorem told_body {q1 q2 q3 q4 q5 q6 q7 q8 q9 q10 q11 q12 q13 q14 q15 q16 q17 q18 q19 q20 q21 r1 r2 r3 r4 r5 r6 r7 r8 r9 r10 r11 r12 r13 r14 : Pos} (R : Rm A 8) (H : Sc w mg mb b₀ s₀ U L V F s) (hmZ : intsF b₀ Z zs ∈ F) (hmE : intsF b₀ Ea es ∈ F) (hvZ : V.lookup ("sizes" : Str) = some (.ref Z)) (hvE : V.lookup ("end" : Str) = some (.ref Ea)) (hvM : V.lookup ("more" : Str) = some (.int (more : Nat) t)) (hE : Ends es more) (hn : zs.length = n + 1) (h100 : zs.length ≤ 100) (hz : ∀ x ∈ zs, x ≠ 0 ∧ x ≠ 127)
  (hel : autoParam (env.locals = L) tR) (hk : autoParam (env.scope.kind = .function) tR) (hx1 : autoParam (env.kindOf "sizes" = some .local) tR) (hx2 : autoParam (env.kindOf "end" = some .local) tR) (hx3 : autoParam (env.kindOf "more" = some .local) tR) (hy : autoParam (env.kindOf "told" = some .local) tR) (hg : autoParam (env.globals = mainGlobals) tR) (hb : autoParam (env.builtins = builtinsNs) tR)
  (g1 : autoParam (env.kindOf "zip" = some .globalImplicit) tR) (g2 : autoParam (env.kindOf "range" = some .globalImplicit) tR) (g3 : autoParam (env.kindOf "len" = some .globalImplicit) tR) (g4 : autoParam (env.kindOf "_grouping_intervals" = some .globalImplicit) tR)
  (hp : autoParam ((env.scope.kind == .class || (env.scope.kind == .module && env.locals != env.globals)) = false) tR)
  (hsw : autoParam (swapsWith (.ListComp (.Name "size" q2) [⟨.Tuple [.Name "k" q3, .Name "size" q4] 0 q5, .Call (.Name "zip" q6) [.Call (.Name "range" q7) [.BinOp (.Call (.Name "len" q8) [.Name "sizes" q9] [] q10) .Add (.Constant (.int 2) 0 q11) q12] [] q13, .Call (.Name "_grouping_intervals" q14) [.BinOp (.Name "sizes" q15) .Add (.Name "end" q16) q17] [] q18] [] q19, [], 0⟩] tdScope q20) (some (.Name "told" q1)) q21.line env = pure true) tR) :
  wpAny (model PW w) A (execs [.Assign [.Name "told" q1] (.ListComp (.Name "size" q2) [⟨.Tuple [.Name "k" q3, .Name "size" q4] 0 q5, .Call (.Name "zip" q6) [.Call (.Name "range" q7) [.BinOp (.Call (.Name "len" q8) [.Name "sizes" q9] [] q10) .Add (.Constant (.int 2) 0 q11) q12] [] q13, .Call (.Name "_grouping_intervals" q14) [.BinOp (.Name "sizes" q15) .Add (.Name "end" q16) q17] [] q18] [] q19, [], 0⟩] tdScope q20) q21,
   .If (.Compare (.Name "told" r1) [.NotEq] [.BinOp (.Name "sizes" r2) .Add (.BinOp (.Subscript (.Name "sizes" r3) (.Slice (some (.UnaryOp .USub (.Constant (.int 1) 0 r4) r5)) none none r6) r7) .Mult (.Name "more" r8) r9) r10] r11) [.Return (some (.Constant (.bool false) 0 r12)) r13] [] r14] env) (fun f s' => f = .next ∧ ∃ D, Sc w mg mb b₀ s₀ U L (("told", .ref D) :: V) F s') (fun ι ι => False) s := by
 have hm2 : more ≤ 2 := hE.le2
 refine ex_cons (told_st R H hmZ hmE hvZ hvE hE hn h100 hz (fun D s₁ ι H1 => ?_) hel hk hx1 hx2 hy hg hb g1 g2 g3 g4 hp hsw)
 refine ex_cons (ex_If (wpAny_isTrue_Compare1 (H1.loc (v := .ref D) rfl (wpAny_BinOp (H1.loc (v := .ref Z) hvZ (wpAny_BinOp (sl_last (n := n) H1 (List.mem_cons_of_mem _ hmZ) hvZ hn (Nat.le_trans ‹_› (by decide)) (fun s₂ D₂ ι H₂ => ?_) hel hk hx1)) hel hk hx1)) hel hk hy)))
 rw [drop_last hn] at H₂
 refine H₂.loc (v := .int (more : Nat) t) hvM (H₂.mul1 (List.mem_cons_self ..) (Nat.le_trans ‹_› (by decide)) fun s3 D3 ι H3 => H3.addLI (l := Z) (ns := zs) (ms := List.replicate more (zs.getD n 0)) (List.mem_cons_of_mem _ (List.mem_cons_of_mem _ (List.mem_cons_of_mem _ hmZ))) (List.mem_cons_self ..) (by simp; lia) fun s4 D4 ι H4 => ?_) hel hk hx3
 refine ne_ints (ns := zs ++ List.replicate more (zs.getD n 0)) (ms := zs ++ List.replicate more (zs.getD n 0)) (H4.get (f := intsF b₀ D (zs ++ List.replicate more (zs.getD n 0))) (List.mem_cons_of_mem _ (List.mem_cons_of_mem _ (List.mem_cons_of_mem _ (List.mem_cons_self ..))))) (H4.get (f := intsF b₀ D4 (zs ++ List.replicate more (zs.getD n 0))) (List.mem_cons_self ..)) (R.ul (k := 0) (by decide)) ?_
 rw [decide_eq_true rfl]
 show wpAny _ _ (truthy (.bool false)) _ _ _
 walk1
 refine ite_f (by decide) ?_
 exact wpAny_execs_nil (wpAny_execs_nil ⟨rfl, D, H4.sub (.cons _ (.cons _ (.cons _ (.cons _ (.refl _)))))⟩)
theorem ends_two {x y m : Nat} {zx zy zm : Int} {k1 k2 k3 : Nat} {p1 p2 p3 p4 p5 : Pos} {Q : VP} (H : Sc w mg mb b₀ s₀ U L V F s) (ex : zx = (x : Nat)) (ey : zy = (y : Nat)) (em : zm = (m : Nat)) (hQ : ∀ s' T Ea t, Sc w mg mb b₀ s₀ U L V (tupF b₀ T #[.ref Ea, .int (m : Nat) t] :: intsF b₀ Ea [x, y] :: F) s' → Q (.ref T) s') :
  wpAny (model PW w) A (eval (.Tuple [.List [.Constant (.int zx) k1 p1, .Constant (.int zy) k2 p2] p3, .Constant (.int zm) k3 p4] 0 p5) env) Q E s := by
 subst ex ey em
 refine PyProof.Rows.Tuple_ (k := 0) (spliced_cons (PyProof.Rows.List_ (spliced_cons (wpAny_Constant_int (k := 0) (pos := p4) (spliced_cons (wpAny_Constant_int (k := 0) (pos := p4) (spliced_nil ?_)))))))
 refine Sc.newI [(x, _), (y, _)] ((H.tok _).tok _) (Nat.le_of_ble_eq_true rfl) fun s₁ Ea ι H1 => spliced_cons (wpAny_Constant_int (k := 0) (pos := p4) (spliced_nil ?_))
 exact (H1.tok _).newT (Nat.le_of_ble_eq_true rfl) fun s₂ T ι H₂ => hQ _ T Ea _ H₂
theorem ends_none {m : Nat} {zm : Int} {k3 : Nat} {p3 p4 p5 : Pos} {Q : VP} (H : Sc w mg mb b₀ s₀ U L V F s) (em : zm = (m : Nat)) (hQ : ∀ s' T Ea t, Sc w mg mb b₀ s₀ U L V (tupF b₀ T #[.ref Ea, .int (m : Nat) t] :: intsF b₀ Ea [] :: F) s' → Q (.ref T) s') :
  wpAny (model PW w) A (eval (.Tuple [.List [] p3, .Constant (.int zm) k3 p4] 0 p5) env) Q E s := by
 subst em
 refine PyProof.Rows.Tuple_ (k := 0) (spliced_cons (PyProof.Rows.List_ (spliced_nil ?_)))
 refine Sc.newI [] H (Nat.le_of_ble_eq_true rfl) fun s₁ Ea ι H1 => spliced_cons (wpAny_Constant_int (k := 0) (pos := p4) (spliced_nil ?_))
 exact (H1.tok _).newT (Nat.le_of_ble_eq_true rfl) fun s₂ T ι H₂ => hQ _ T Ea _ H₂
end
end Mine
namespace Mine
noncomputable abbrev bgScope : Scope := { kind := .function, names := [(".0", .local), ("size", .local)], isGenerator := false, isCoroutine := false, more := [] }
section
variable {U : List Addr} {w : World} {mg mb : NM} {b₀ : Heap} {s₀ s s' : Shared} {A : Around} {E : VP} {L D Z : Addr} {V : List (Str × Value)} {F Pre Post : List (Fact b₀)} {env : Env} {ns zs : List Nat} {cut : Nat} {t : Tok}
theorem Sc.addB {n : Nat} {t : Tok} {Q : VP} (H : Sc w mg mb b₀ s₀ U L V (Pre ++ bagF b₀ D ns :: Post) s) (f0 : s₀.heap.get? D = none) (hs : ns.length ≤ 100000) (hQ : ∀ s', Sc w mg mb b₀ s₀ U L V (Pre ++ bagF b₀ D (ns ++ [n]) :: Post) s' → Q .none s') :
  wpAny (model PW w) A (call (.builtin "list.append") [.ref D, .str (sp n) t]) Q E s := by
 have x : BagOn b₀ s.heap D ns := H.get (f := bagF b₀ D ns) (by simp)
 obtain ⟨vs, kk, e, hp⟩ := x.on
 exact lst_append H.S x.bl x.ll e (by rw [hp.1]; lia) fun s' S' k' e' => hQ s' (H.upd S' k' (al1 ⟨List.mem_singleton_self _, f0⟩) rfl ⟨x.bl, x.ll, _, _, e', hp.push n t⟩)
theorem bag_st {q1 q2 q3 q4 q5 q6 q7 q8 q9 q10 q11 q12 q13 q14 q15 q16 : Pos} {Q : Flow → Shared → Prop} (hh : A.handled = none) (H : Sc w mg mb b₀ s₀ U L V F s) (hm : intsF b₀ Z zs ∈ F) (hv : V.lookup ("sizes" : Str) = some (.ref Z)) (hc : V.lookup ("cut" : Str) = some (.int (cut : Nat) t)) (hcut : cut ≤ zs.length) (h100 : zs.length ≤ 1000) (hz : ∀ x ∈ zs, x ≤ 1000)
  (hQ : ∀ D s', s₀.heap.get? D = none → Sc w mg mb b₀ s₀ U L (("bag", .ref D) :: V) (bagF b₀ D (zs.drop cut ++ zs.take cut) :: F) s' → Q .next s')
  (hel : autoParam (env.locals = L) tR) (hk : autoParam (env.scope.kind = .function) tR) (hx1 : autoParam (env.kindOf "sizes" = some .local) tR) (hx2 : autoParam (env.kindOf "cut" = some .local) tR) (hy : autoParam (env.kindOf "bag" = some .local) tR)
  (hp : autoParam ((env.scope.kind == .class || (env.scope.kind == .module && env.locals != env.globals)) = false) tR)
  (hsw : autoParam (swapsWith (.ListComp (.BinOp (.Constant (.str " ") 0 q2) .Mult (.Name "size" q3) q4) [⟨.Name "size" q5, .BinOp (.Subscript (.Name "sizes" q6) (.Slice (some (.Name "cut" q7)) none none q8) q9) .Add (.Subscript (.Name "sizes" q10) (.Slice none (some (.Name "cut" q11)) none q12) q13) q14, [], 0⟩] bgScope q15) (some (.Name "bag" q1)) q16.line env = pure true) tR) :
  wpAny (model PW w) A (exec (.Assign [.Name "bag" q1] (.ListComp (.BinOp (.Constant (.str " ") 0 q2) .Mult (.Name "size" q3) q4) [⟨.Name "size" q5, .BinOp (.Subscript (.Name "sizes" q6) (.Slice (some (.Name "cut" q7)) none none q8) q9) .Add (.Subscript (.Name "sizes" q10) (.Slice none (some (.Name "cut" q11)) none q12) q13) q14, [], 0⟩] bgScope q15) q16) env) Q E s := by
 refine comp_assign (mg := mg) (mb := mb) (b₀ := b₀) (s₀ := s₀) (closureFor_none (by decide)) (by decide) rfl (by decide) (wpAny_BinOp (sl_from H hm hv hc hcut (Nat.le_trans ‹_› (by decide)) (fun s₁ D₁ ι H1 => sl_upto H1 (List.mem_cons_of_mem _ hm) hv hc hcut (Nat.le_trans ‹_› (by decide)) (fun s₂ D₂ ι H₂ => H₂.addLI (List.mem_cons_of_mem _ (List.mem_cons_self ..)) (List.mem_cons_self ..) (by simp; lia) fun s3 r ι H3 => ?_) hel hk hx1 hx2) hel hk hx1 hx2)) (by intro _; rfl) hsw hy hp
 have hb : ∀ x ∈ zs.drop cut ++ zs.take cut, x ≤ 1000 := fun x hx => by
  rcases List.mem_append.mp hx with q | q
  ·exact hz x (List.mem_of_mem_drop q)
  ·exact hz x (List.mem_of_mem_take q)
 have hlen : (zs.drop cut ++ zs.take cut).length ≤ 1000 := by simp; lia
 generalize zs.drop cut ++ zs.take cut = ms at *
 have x : IntsOn b₀ s3.heap r ms := H3.get (List.mem_cons_self ..)
 obtain ⟨vs, kk, e, z1, q1⟩ := id x.on
 refine H3.comp e (fun D => bagF b₀ D ms) (fun ι => rfl) (fun D C I s4 Z => ?_) (fun D s' f0 H' => hQ D s' f0 (H'.sub (.cons_cons _ (.cons _ (.cons _ (.cons _ (.refl _))))))) hel
 refine codeAny_mono (comp1_sc [] (fun i => [bagF b₀ D (ms.take i)]) hh H3.S e Z ?_ (fun i v s5 X hi hv' H5 => ?_)) fun r s' h => ⟨h.1, [], [], by rw [z1, List.take_length] at h; exact h.2⟩
 ·exact Sc.weak (Pre := [itF b₀ I r 0]) (Post := []) Z.H rfl ⟨Z.bD, Z.lD, #[], 0, Z.H.get (f := lstF b₀ D #[] 0) (by simp), rfl, fun i n h => by simp at h⟩
 ·have hi' : i < ms.length := z1 ▸ hi
  have hmi : ms[i]? = some ms[i] := List.getElem?_eq_getElem hi'
  obtain ⟨t', ht⟩ := q1 i _ hmi
  refine wp_v (Option.some.inj (hv'.symm.trans ht)) ?_
  refine wpAny_assign_Name (H5.st fun s6 H6 => tests_nil ?_)
  refine ite_t rfl ?_
  refine wpAny_BinOp (wpAny_Constant_str ((H6.tok _).loc (v := .int ((ms[i] : Nat) : Int) t') rfl (mul_ch (c := 32) rfl rfl (by have := hb _ (List.getElem_mem hi'); lia) fun t'' k => ?_)))
  refine Sc.addB (Pre := [X]) (Post := []) (n := ms[i]) ((H6.tok _).tok k) Z.fD (by rw [List.length_take]; lia) fun s7 H7 => ?_
  rw [List.take_add_one, hmi]
  exact H7.vars (V' := []) rfl
end
end Mine
namespace Mine
section
variable {U : List Addr} {w : World} {mg mb : NM} {b₀ : Heap} {s₀ s s' s4 : Shared} {M : Model} {A : Around} {E : VP} {L c D I l T P : Addr} {V : List (Str × Value)} {F Pre Post : List (Fact b₀)} {env : Env} {v : Value} {v₀ : Option Value} {ns ms : List Nat} {size : Nat} {tv : Tok}
theorem Sc.cel {x : Str} {p : Pos} {Q : VP} (H : Sc w mg mb b₀ s₀ U L V F s) (hm : cellF b₀ c (some v) ∈ F) (hQ : Q v s) (hc : env.cells.lookup x = some c) (hk : autoParam (env.scope.kind = .function) tR) (hx : autoParam (env.kindOf x = some .cell) tR) (hd : autoParam ((x == ("__debug__" : Str)) = false) tD) :
  wpAny M A (eval (.Name x p) env) Q E s := let ⟨_, B, _⟩ := H.B; B.cel (H.get hm) hQ hc hk hx hd
theorem Sc.stc {x : Str} {Q : Unit → Shared → Prop} (H : Sc w mg mb b₀ s₀ U L V (Pre ++ cellF b₀ c v₀ :: Post) s) (f0 : s₀.heap.get? c = none) (hQ : ∀ s', Sc w mg mb b₀ s₀ U L V (Pre ++ cellF b₀ c (some v) :: Post) s' → Q () s')
  (hc : env.cells.lookup x = some c) (hk : autoParam (env.scope.kind = .function) tR) (hx : autoParam (env.kindOf x = some .cell) tR) : wpAny M A (storeName env x v) Q E s := by
 have hm : cellF b₀ c v₀ ∈ Pre ++ cellF b₀ c v₀ :: Post := List.mem_append_right _ (List.mem_cons_self ..)
 have C : CellOn b₀ s.heap c v₀ := H.get hm
 obtain ⟨m, B, _⟩ := H.B
 exact B.stc C (fun q => (H.ok _ hm).2 (q ▸ List.mem_singleton_self _)) f0 (fun s' B' C' k ι ι => hQ s' (H.upd (f' := cellF b₀ c (some v)) B'.S k (fun a ha => ⟨ha, by rw [List.mem_singleton.mp ha]; exact f0⟩) rfl C')) hc hk hx
theorem Sc.ofC {m : NM} (B : Body w mg mb b₀ s₀ U L m s) (C : CellOn b₀ s.heap c v₀) (fc : s₀.heap.get? c = none) (cL : c ≠ L) (k : Kp [] s₀ s) (hV : Has V m) (S0 : Sit w mg mb b₀ s₀) (hF : ∀ f ∈ F, f.P s₀) (nd : F.Pairwise fun f g => ∀ a ∈ f.foot, a ∉ g.foot) (hU : ∀ u ∈ U, s₀.heap.get? u ≠ none) : Sc w mg mb b₀ s₀ U L V (cellF b₀ c v₀ :: F) s := by
 have H := Sc.ofU B k hV S0 hF nd hU
 refine ⟨H.B, fun f hf => ?_, List.pairwise_cons.mpr ⟨fun g hg a ha q => ?_, H.nd⟩, H.un⟩
 ·rcases List.mem_cons.mp hf with rfl | hf
  ·exact ⟨C, fun q => cL (List.mem_singleton.mp q).symm⟩
  ·exact H.ok f hf
 ·rw [List.mem_singleton.mp ha] at q
  exact g.on (hF g hg) _ q fc
theorem Sc.iaddB {Q : VP} (H : Sc w mg mb b₀ s₀ U L V (Pre ++ bagF b₀ T ns :: Post) s) (hm : bagF b₀ P ms ∈ Pre ++ bagF b₀ T ns :: Post) (f0 : s₀.heap.get? T = none) (hz : ns.length + ms.length ≤ 100000) (hQ : ∀ s', Sc w mg mb b₀ s₀ U L V (Pre ++ bagF b₀ T (ns ++ ms) :: Post) s' → Q (.ref T) s') :
  wpAny (model PW w) A (inplaceOp .Add (.ref T) (.ref P)) Q E s :=
 bag_iadd H.S (H.get (f := bagF b₀ T ns) (List.mem_append_right _ (List.mem_cons_self ..))) (H.get hm) hz fun s' S' k x => hQ s' (H.upd S' k (fun a ha => ⟨ha, by rw [List.mem_singleton.mp ha]; exact f0⟩) rfl x)
noncomputable abbrev scScope : Scope := { kind := .function, names := [(".0", .local), ("piece", .local), ("len", .globalImplicit)], isGenerator := false, isCoroutine := false, more := [] }
theorem Sc.sizes {p1 p2 p3 p4 p5 p6 p7 p8 : Pos} {Q : VP} (hh : A.handled = none) (H : Sc w mg mb b₀ s₀ U L V F s) (hm : bagF b₀ l ns ∈ F) (hv : V.lookup ("bag" : Str) = some (.ref l)) (h64 : ∀ x ∈ ns, x < 64) (hlen : ns.length < 64)
  (hQ : ∀ s' D, s₀.heap.get? D = none → Sc w mg mb b₀ s₀ U L V (intsF b₀ D (sortU ns) :: F) s' → Q (.ref D) s')
  (hel : autoParam (env.locals = L) tR) (hk : autoParam (env.scope.kind = .function) tR) (hx1 : autoParam (env.kindOf "bag" = some .local) tR) (g1 : autoParam (env.kindOf "sorted" = some .globalImplicit) tR) (hg : autoParam (env.globals = mainGlobals) tR) (hb : autoParam (env.builtins = builtinsNs) tR) :
  wpAny (model PW w) A (eval (.Call (.Name "sorted" p1) [.SetComp (.Call (.Name "len" p2) [.Name "piece" p3] [] p4) [⟨.Name "piece" p5, .Name "bag" p6, [], 0⟩] scScope p7] [] p8) env) Q E s := by
 obtain ⟨_, _, vs, kk, e, z1, q1⟩ : BagOn b₀ s.heap l ns := H.get hm
 obtain ⟨m, B, hV⟩ := H.B
 refine wpAny_Call_NameR (H.bi (v := .builtin "sorted") (by k_is) (by decide +kernel) (callWith_builtin rfl (evalArgs_plain (spliced_cons ?_))) hg hb hk g1)
 refine setcomp_eval (mg := mg) (mb := mb) (b₀ := b₀) (s₀ := s₀) (ns := ns) (by decide) (by decide) rfl (by decide) hh (H.loc (v := .ref l) hv ?_ hel hk hx1)
 refine ⟨l, vs, kk, U, L, m, rfl, B, e, z1, by lia, fun C i v n s' m' V hi hn B' hm' => ?_, fun s4 sa S4 k₄ x₄ f₄ => spliced_nil ?_⟩
 ·obtain ⟨t, ht⟩ := q1 i n hn
  rw [hi] at ht; cases ht
  have hn' := h64 n (List.mem_of_getElem? hn)
  refine wpAny_Call_NameR (B'.bi (v := .builtin "len") (by k_is) (by decide +kernel) (callWith_builtin rfl (evalArgs_plain (spliced_cons (B'.loc (v := .str (sp n) t) hm' (spliced_nil ?_))))) hg hb)
  refine PySem.P.len_str (by rw [sp_len]; lia) ?_
  rw [sp_len]
  exact ⟨(B'.tok _).S, Kp.of_eq rfl rfl, _, rfl⟩
 have hkl : (ns.foldl addk []).length < 64 := by have h1 : (ns.foldl addk []).length ≤ 0 + ns.length := foldk_len ns []; lia
 refine set_sorted hh S4 x₄ hkl fun s5 D vs5 c₅ is S5 k₅ hD5 hi5 hp5 hs5 fD bD lD => ?_
 have his := sortU_ints h64 hp5 hs5
 subst his
 have k := k₄.trans k₅ (W := []) no_in no_in
 have fD' := k₄.none_of fD lD
 refine hQ s5 D (H.isNew fD' lD) (H.new ⟨S5, k⟩ (intsF b₀ D (sortU ns)) ⟨bD, lD, vs5, c₅, hD5, by have := IA.len hi5; simpa using this, fun i n h => ?_⟩ (al1 fD'))
 obtain ⟨t, ht⟩ := IA.get hi5 (j := i) (x := (n : Int)) (by rw [List.getElem?_map, h]; rfl)
 exact ⟨t, by rw [← Array.getElem?_toList]; exact ht⟩
noncomputable abbrev smScope : Scope := { kind := .function, names := [(".0", .local), ("piece", .local), ("len", .globalImplicit), ("size", .free)], isGenerator := false, isCoroutine := false, more := [] }
theorem same_loop {C' : Addr} {iter : Expr} {cl : List (Str × Addr)} {p1 p2 p3 p4 p5 p6 p7 pos : Pos} {vs : Array Value} {kk : Nat} (hh : A.handled = none) (S : Sit w mg mb b₀ s) (e : s.heap.get? l = some (lstO vs kk)) (x : Pcs vs ns) (C : CellOn b₀ s.heap c (some (.int (size : Nat) tv))) (hcl : cl.lookup ("size" : Str) = some c) (Z : CompIn w mg mb b₀ s l I D C' s4) (h64 : ∀ x ∈ ns, x < 64) (hlen : ns.length ≤ 1000)
  (hx : (compEnvC smScope cl C' env).kindOf "size" = some .cell) (hg : env.globals = mainGlobals) (hb : env.builtins = builtinsNs) :
  codeAny (model PW w) A (.compLoop (.ListComp (.Name "piece" p1) [⟨.Name "piece" p2, iter, [.Compare (.Call (.Name "len" p3) [.Name "piece" p4] [] p5) [.Eq] [.Name "size" p6] p7], 0⟩] smScope pos) 0 (.ref I) (.ref D) (compEnvC smScope cl C' env)) (fun r s' => r = .ok .next ∧ ∃ V' F', Sc w mg mb b₀ s [] C' V' (bagF b₀ D (List.replicate (ns.count size) size) :: F') s') s4 := by
 refine codeAny_mono (comp1_sc [] (fun i => [bagF b₀ D (List.replicate ((ns.take i).count size) size)]) hh S e Z ?_ (fun i v s5 X hi hv' H5 => ?_)) fun r s' h => ⟨h.1, [], [], by rw [x.1, List.take_length] at h; exact h.2⟩
 ·exact Sc.weak (Pre := [itF b₀ I l 0]) (Post := []) Z.H rfl ⟨Z.bD, Z.lD, #[], 0, Z.H.get (f := lstF b₀ D #[] 0) (List.mem_cons_of_mem _ (List.mem_cons_self ..)), rfl, fun i n h => by simp at h⟩
 ·refine cutQ fun Q0 h₀ => ?_
  have hi' : i < ns.length := x.1 ▸ hi
  obtain ⟨n, hn⟩ : ∃ n, ns[i]? = some n := ⟨_, List.getElem?_eq_getElem hi'⟩
  obtain ⟨tn, htn⟩ := x.2 i n hn
  refine wp_v (Option.some.inj (hv'.symm.trans htn)) ?_
  have hn64 := h64 n (List.mem_of_getElem? hn)
  refine wpAny_assign_Name (H5.st fun s6 H6 => h₀ _ _ ?_)
  refine tests_one (wpAny_isTrue_Compare1 (wpAny_Call_NameR (H6.bi (v := .builtin "len") (by k_is) (by decide +kernel) (callWith_builtin rfl (evalArgs_plain (spliced_cons (H6.loc (v := .str (sp n) tn) rfl (spliced_nil ?_))))) hg hb)))
  refine PySem.P.len_str (by rw [sp_len]; lia) ?_
  rw [sp_len]
  obtain ⟨m, B, _⟩ := H6.B
  refine (B.tok _).cel (c := c) (C.kp (B.tok _).K List.not_mem_nil) ?_ hcl rfl hx
  walk1
  walk1
  rw [filt_count hn]
  by_cases q : n = size
  ·subst q
   refine ite_t (by simp) ?_
   rw [if_pos rfl]
   refine (H6.tok _).loc (v := .str (sp n) tn) rfl (Sc.addB (Pre := [X]) (Post := []) (n := n) (H6.tok _) Z.fD (by rw [List.length_replicate]; exact Nat.le_trans List.count_le_length (by rw [List.length_take]; lia)) fun s8 H8 => ?_)
   rw [List.replicate_succ']
   exact H8.vars (V' := []) rfl
  ·refine ite_f (by simp; lia) ?_
   rw [if_neg q]
   exact (H6.tok _).vars (V' := []) rfl
end
end Mine
namespace Mine
section
variable {U : List Addr} {w : World} {mg mb : NM} {b₀ : Heap} {s₀ s s' : Shared} {A : Around} {E : VP} {L c l : Addr} {V : List (Str × Value)} {F : List (Fact b₀)} {env : Env} {n size base : Nat} {ts tb : Tok}
theorem Sc.newB {Q : VP} (H : Sc w mg mb b₀ s₀ U L V F s) (hQ : ∀ s' T, s₀.heap.get? T = none → Sc w mg mb b₀ s₀ U L V (bagF b₀ T [] :: F) s' → Q (.ref T) s') : wpAny (model PW w) A (newList []) Q E s :=
 lst_new H.S (by decide) fun s3 T S3 k₃ hT nT bT lT => hQ s3 T (H.isNew nT lT) (H.new ⟨S3, k₃⟩ (bagF b₀ T []) ⟨bT, lT, _, _, hT, rfl, fun i n h => by simp at h⟩ (al1 nT))
theorem Sc.newV {vs : List Value} {Q : VP} (H : Sc w mg mb b₀ s₀ U L V F s) (hz : vs.length ≤ 1000) (hQ : ∀ s' T, s₀.heap.get? T = none → Sc w mg mb b₀ s₀ U L V (lstF b₀ T vs.toArray 0 :: F) s' → Q (.ref T) s') : wpAny (model PW w) A (newList vs) Q E s :=
 lst_new H.S (Nat.le_trans ‹_› (by decide)) fun s3 T S3 k₃ hT nT bT lT => hQ s3 T (H.isNew nT lT) (H.new ⟨S3, k₃⟩ (lstF b₀ T _ 0) hT (al1 nT))
noncomputable def cellX (b₀ : Heap) (c : Addr) : Fact b₀ :=
 ⟨fun s => ∃ v, CellOn b₀ s.heap c v, [c], fun ι k h e => e.imp fun ι x => x.kp k (h c (List.mem_singleton_self c)), fun e a ha => by obtain ⟨_, _, _, _, q, _⟩ := e; exact get_ne q a ha⟩
theorem Has.nil {m : NM} : Has [] m := fun ι ι e => by cases e
theorem Has.cons {m : NM} {x : Str} {v : Value} {V : List (Str × Value)} (h : m x = some v) (H : Has V m) : Has ((x, v) :: V) m := fun y u e => by
 rw [List.lookup_cons] at e
 by_cases q : y = x
 ·subst q; simp only [beq_self_eq_true] at e; rw [h]; exact e
 ·rw [show (y == x) = false from by simpa using q] at e; exact H y u e
theorem Sc.compName {elt target : Expr} {x : Str} {px : Pos} {ifs : List Expr} {rest : List Comprehension} {scope : Scope} {pos : Pos} {cl : List (Str × Addr)} {Q : VP} {items : Array Value} {kk : Nat} (H : Sc w mg mb b₀ s₀ U L V F s) (hv : V.lookup x = some (.ref l)) (hl : s.heap.get? l = some (lstO items kk)) (f : Addr → Fact b₀) (hf : ∀ D, (f D).foot = [D])
  (hclos : closureFor scope env = pure cl) (hcell : ∀ y ∈ scope.names, y.2 ≠ .cell) (hkind : scope.kind = .function) (hnames : ∀ y ∈ scope.names, y.2 = .local → scope.names.lookup y.1 = some .local)
  (h : ∀ D C I s4, CompIn w mg mb b₀ s l I D C s4 → codeAny (model PW w) A (.compLoop (.ListComp elt (⟨target, .Name x px, ifs, 0⟩ :: rest) scope pos) 0 (.ref I) (.ref D) (compEnvC scope cl C env)) (fun r s' => r = .ok .next ∧ ∃ V' F', Sc w mg mb b₀ s [] C V' (f D :: F') s') s4)
  (hQ : ∀ D s', s₀.heap.get? D = none → Sc w mg mb b₀ s₀ U L V (f D :: F) s' → Q (.ref D) s') (hel : autoParam (env.locals = L) tR) (hk : autoParam (env.scope.kind = .function) tR) (hx : autoParam (env.kindOf x = some .local) tR) (hd : autoParam ((x == ("__debug__" : Str)) = false) tD)
  (hs : autoParam (∀ v, foldedSetIterable (.Name x px) env v = pure v) tI) : wpAny (model PW w) A (eval (.ListComp elt (⟨target, .Name x px, ifs, 0⟩ :: rest) scope pos) env) Q E s :=
 comp_eval (mg := mg) (mb := mb) (b₀ := b₀) hclos hcell hkind hnames (H.loc hv (H.compE (Q := Q) hl f hf h hQ) hel hk hx hd) hs
end
end Mine
namespace Mine
section
variable {U W : List Addr} {w : World} {mg mb : NM} {b₀ : Heap} {s₀ s s' s4 : Shared} {A : Around} {E : VP} {L C c D I l : Addr} {V : List (Str × Value)} {F G : List (Fact b₀)} {f : Fact b₀} {env : Env} {size base kk : Nat} {tb : Tok}
theorem Sc.redo (H : Sc w mg mb b₀ s₀ U L V (G ++ F) s) (S' : Sit w mg mb b₀ s') (k : Kp W s s') (hU : ∀ a ∈ W, (∃ g ∈ G, a ∈ g.foot) ∧ s₀.heap.get? a = none) (hp : f.P s') (hf : ∀ a ∈ f.foot, ∃ g ∈ G, a ∈ g.foot) : Sc w mg mb b₀ s₀ U L V (f :: F) s' := by
 obtain ⟨m, B, h⟩ := H.B
 obtain ⟨p1, p2, p3⟩ := List.pairwise_append.mp H.nd
 have okG := fun g hg => H.ok g (List.mem_append_left F hg)
 have okF := fun g hg => H.ok g (List.mem_append_right G hg)
 refine ⟨⟨m, B.step S' k (fun v hv => .inr (hU v hv).2) (fun q => let ⟨g, hg, r⟩ := (hU _ q).1; (okG g hg).2 r), h⟩, fun g hg => ?_, List.pairwise_cons.mpr ⟨fun g hg a ha => let ⟨e, he, r⟩ := hf a ha; p3 e he g hg a r, p2⟩, fun u hu => ⟨k.alive S' (H.un u hu).1 (fun q => (H.un u hu).2 (hU u q).2), (H.un u hu).2⟩⟩
 rcases List.mem_cons.mp hg with rfl | hg
 ·exact ⟨hp, fun q => let ⟨e, he, r⟩ := hf _ q; (okG e he).2 r⟩
 ·exact ⟨g.kp B.S k (fun a ha q => let ⟨e, he, r⟩ := (hU a q).1; p3 e he g hg a r ha) (okF g hg).1, (okF g hg).2⟩
noncomputable def rowF (b₀ : Heap) (size : Nat) (a : Addr) (k : Nat) : Fact b₀ :=
 ⟨fun s => RowOn b₀ s.heap size a k, [a], fun S k h e => e.kp S k (h a (List.mem_singleton_self a)), fun ⟨_, _, _, e, _⟩ => get_ne e⟩
noncomputable def rowsF (b₀ : Heap) (R : Addr) (size : Nat) (rs : List (Addr × Nat)) : Fact b₀ :=
 ⟨fun s => (∃ c, s.heap.get? R = some (lstO (rs.map fun p => Value.ref p.1).toArray c)) ∧ ∀ p ∈ rs, RowOn b₀ s.heap size p.1 p.2, R :: rs.map (·.1),
  fun S k h x => ⟨x.1.imp fun ι e => k.lstO S e (h R (List.mem_cons_self ..)), fun p hp => (x.2 p hp).kp S k (h p.1 (List.mem_cons_of_mem _ (List.mem_map_of_mem hp)))⟩,
  fun x a ha => by
   rcases List.mem_cons.mp ha with rfl | ha
   ·exact get_ne x.1.choose_spec a (List.mem_singleton_self a)
   ·obtain ⟨p, hp, rfl⟩ := List.mem_map.mp ha
    obtain ⟨_, _, _, e, _⟩ := x.2 p hp
    exact get_ne e _ (List.mem_singleton_self _)⟩
noncomputable abbrev rwScope : Scope := { kind := .function, names := [(".0", .local), ("row", .local)], isGenerator := false, isCoroutine := false, more := [] }
theorem rows_loop {iter : Expr} {cl : List (Str × Addr)} {a1 a2 a3 a4 : Nat} {p1 p4 pos : Pos} {ls : List (Str × Tok)} {ks : List Nat} (hh : A.handled = none) (S : Sit w mg mb b₀ s) (e : s.heap.get? l = some (lstO (strValues ls).toArray kk)) (hls : ls.map (·.1) = ks.map fun k => textOf (row k size)) (hks : ∀ k ∈ ks, 1 ≤ k ∧ k ≤ base) (hsz : 1 ≤ size) (hbs : base * (size + 1) ≤ 1000) (hlen : ks.length ≤ 1001) (Z : CompIn w mg mb b₀ s l I D C s4) :
  codeAny (model PW w) A (.compLoop (.ListComp (.Call (.Attribute (.Name "row" p1) "split" ⟨185, a1, 185, a2⟩) [] [] ⟨185, a3, 185, a4⟩) [⟨.Name "row" p4, iter, [], 0⟩] rwScope pos) 0 (.ref I) (.ref D) (compEnvC rwScope cl C env)) (fun r s' => r = .ok .next ∧ ∃ V' F' g, (∃ rs, rs.map (·.2) = ks ∧ g = rowsF b₀ D size rs) ∧ (∀ a ∈ g.foot, s.heap.get? a = none) ∧ Sc w mg mb b₀ s [] C V' (g :: F') s') s4 := by
 have lz : (strValues ls).toArray.size = ks.length := by rw [← List.length_map (f := fun k => textOf (row k size)), ← hls]; simp [strValues]
 refine comp_any (fun n s' => ∃ i rs, n = ks.length + 1 - i ∧ i ≤ ks.length ∧ rs.map (·.2) = ks.take i ∧ (∀ p ∈ rs, s.heap.get? p.1 = none ∧ p.1 ≠ D) ∧ Sc w mg mb b₀ s [] C [] [itF b₀ I l i, rowsF b₀ D size rs] s') ?_ (ks.length + 1) ⟨0, [], rfl, Nat.zero_le _, rfl, (fun ι h => nomatch h), Sc.weak (Pre := [itF b₀ I l 0]) (Post := []) (f' := rowsF b₀ D size []) Z.H rfl ⟨⟨0, Z.H.get in1⟩, fun ι h => nomatch h⟩⟩
 rintro n s' ⟨i, rs, rfl, hi, hrs, fr, H⟩
 refine cutQ fun Q₁ h₁ => ?_
 refine H.pull hh (H.K.lstO S e List.not_mem_nil) Z.fI Z.bI Z.lI (lz ▸ hi) (fun v s₁ hlt hv H1 => ?_) fun s₁ q H1 => h₁ _ _ ⟨rfl, [], [], _, ⟨rs, by rw [hrs, q, lz, List.take_length], rfl⟩, fun a ha => ?_, H1⟩
 ·rw [lz] at hlt
  obtain ⟨y, hy, rfl⟩ : ∃ y : Str × Tok, ls[i]? = some y ∧ v = .str y.1 y.2 := by
   simp only [strValues, List.getElem?_toArray, List.getElem?_map, Option.map_eq_some_iff] at hv
   exact hv.imp fun ι x => ⟨x.1, x.2.symm⟩
  have hki : ks[i]? = some ks[i] := List.getElem?_eq_getElem hlt
  have hk1 := hks _ (List.mem_of_getElem? hki)
  have hrl : rs.length ≤ i := by rw [← List.length_map (f := (·.2)), hrs]; exact List.length_take_le ..
  have hyk : y.1 = textOf (row ks[i] size) := by
   have h1 := congrArg (·[i]?) hls
   simp only [List.getElem?_map, hy, hki, Option.map_some, Option.some.injEq] at h1
   exact h1
  have tk := List.take_add_one (l := ks) (i := i)
  rw [hki] at tk
  generalize ks[i] = k at *
  refine h₁ _ _ (wpAny_pure (wpAny_assign_Name (H1.st fun s₂ H₂ => tests_nil ?_)))
  refine ite_t rfl ?_
  refine cutQ fun Q2 h₂ => ?_
  refine MethodCall_ (H₂.loc (v := .str y.1 y.2) rfl (PySem.GM.split (PyProof.Rows.callWith_method0 ?_)))
  refine split0S H₂.S (by rw [hyk, textOf_length, row_len]; have := Nat.mul_le_mul_right (size + 1) hk1.2; lia) fun s3 a l3 S3 k₃ el e3 f3 b3 lt3 => ?_
  rw [hyk, row_words hk1.1 hsz] at el
  have H3 := (H₂.new ⟨S3, k₃⟩ (rowF b₀ size a k) ⟨b3, lt3, l3, e3, el⟩ (al1 f3)).perm (.cons _ (.swap ..))
  have aD : a ≠ D := fun r => (List.pairwise_cons.mp H3.nd).1 _ in0 a (List.mem_singleton_self a) (by show a ∈ D :: _; rw [r]; exact List.mem_cons_self ..)
  obtain ⟨⟨ck, eD⟩, hr⟩ : (∃ ck, s3.heap.get? D = some (lstO (rs.map fun p => Value.ref p.1).toArray ck)) ∧ ∀ p ∈ rs, RowOn b₀ s3.heap size p.1 p.2 := H3.get in1
  refine h₂ _ _ ?_
  refine lst_append S3 Z.bD Z.lD eD (by simp; lia) fun s5 S5 k₅ e₅ => ⟨ks.length + 1 - (i + 1), sub_dec hlt, i + 1, rs ++ [(a, k)], rfl, hlt, by rw [List.map_append, hrs, tk]; rfl, fun p hp => ?_, ((Sc.redo (G := [rowF b₀ size a k, rowsF b₀ D size rs]) (f := rowsF b₀ D size (rs ++ [(a, k)])) H3 S5 k₅ (fun u hu => ⟨⟨_, in1, by rw [List.mem_singleton.mp hu]; exact List.mem_cons_self ..⟩, by rw [List.mem_singleton.mp hu]; exact Z.fD⟩) ⟨⟨ck + 1, ?_⟩, fun p hp => ?_⟩ fun u hu => ?_).perm (.swap ..)).vars (V' := []) rfl⟩
  ·rcases List.mem_append.mp hp with q | q
   ·exact fr p q
   ·rw [List.mem_singleton.mp q]; exact ⟨H₂.isNew f3 lt3, aD⟩
  ·rw [e₅]; simp
  ·rcases List.mem_append.mp hp with q | q
   ·exact (hr p q).kp S3 k₅ (not_in (fr p q).2)
   ·rw [List.mem_singleton.mp q]
    exact (H3.get in0 : RowOn b₀ s3.heap size a k).kp S3 k₅ (not_in aD)
  ·rcases List.mem_cons.mp hu with rfl | hu
   ·exact ⟨_, in1, List.mem_cons_self ..⟩
   ·rw [List.map_append] at hu
    rcases List.mem_append.mp hu with q | q
    ·exact ⟨_, in1, List.mem_cons_of_mem _ q⟩
    ·exact ⟨_, in0, q⟩
 ·rcases List.mem_cons.mp ha with rfl | ha
  ·exact Z.fD
  ·obtain ⟨p, hp, rfl⟩ := List.mem_map.mp ha
   exact (fr p hp).1
end
end Mine
namespace Mine
section
variable {U W : List Addr} {w : World} {mg mb : NM} {b₀ : Heap} {s₀ s s' s4 : Shared} {A : Around} {E : VP} {L C c D I l a : Addr} {V : List (Str × Value)} {F G : List (Fact b₀)} {f : Fact b₀} {env : Env} {size base kk k : Nat} {tb : Tok}
theorem Sc.lenRow {p1 p2 p3 : Pos} {Q : VP} (H : Sc w mg mb b₀ s₀ U L V F s) (hv : V.lookup ("row" : Str) = some (.ref a)) (x : RowOn b₀ s.heap size a k) (hk : k ≤ 1000) (hQ : ∀ t j, Q (.int (k : Nat) t) { s with toks := j })
  (hl : autoParam (env.locals = L) tR) (hkd : autoParam (env.scope.kind = .function) tR) (hx : autoParam (env.kindOf "row" = some .local) tR) (h1 : autoParam (env.kindOf "len" = some .globalImplicit) tR) (hg : autoParam (env.globals = mainGlobals) tR) (hb : autoParam (env.builtins = builtinsNs) tR) :
  wpAny (model PW w) A (eval (.Call (.Name "len" p1) [.Name "row" p2] [] p3) env) Q E s := by
 obtain ⟨_, _, lr, ex, er⟩ := x
 have hlr : lr.length = k := by have := congrArg List.length er; simpa using this
 refine wpAny_Call_NameR (H.bi (v := .builtin "len") (by k_is) (by decide +kernel) (callWith_builtin rfl (evalArgs_plain (spliced_cons (H.loc (v := .ref a) hv (spliced_nil ?_) hl hkd hx)))) hg hb hkd h1)
 exact PyProof.Rows.len_strs (l := lr) ⟨_, ex, rfl, _, rfl⟩ (by lia) (hlr ▸ hQ _ _)
noncomputable abbrev flScope : Scope := { kind := .function, names := [(".0", .local), ("row", .local), ("len", .globalImplicit), ("base", .free)], isGenerator := false, isCoroutine := false, more := [] }
theorem full_loop {rs : List (Addr × Nat)} {iter : Expr} {cl : List (Str × Addr)} {a1 a2 a3 a4 : Nat} {p1 p2 p3 p5 p7 p8 p9 p10 p11 p12 p13 p14 pos : Pos} (hh : A.handled = none) (S : Sit w mg mb b₀ s) (e : s.heap.get? l = some (lstO (rs.map fun p => Value.ref p.1).toArray kk)) (hrs : ∀ p ∈ rs, RowOn b₀ s.heap size p.1 p.2) (hks : ∀ p ∈ rs, p.2 ≤ base) (hlen : rs.length ≤ 1001) (hbs : base * (size + 1) ≤ 1000) (hsz : 1 ≤ size)
  (C₀ : CellOn b₀ s.heap c (some (.int (base : Nat) tb))) (hcl : cl.lookup ("base" : Str) = some c) (Z : CompIn w mg mb b₀ s l I D C s4) (hx : (compEnvC flScope cl C env).kindOf "base" = some .cell) (hg : env.globals = mainGlobals) (hb : env.builtins = builtinsNs) :
  codeAny (model PW w) A (.compLoop (.ListComp (.BinOp (.Constant (.str " ") 0 p1) .Mult (.Call (.Name "len" p2) [.Call (.Attribute (.Constant (.str "") 0 p3) "join" ⟨186, a1, 186, a2⟩) [.Name "row" p5] [] ⟨186, a3, 186, a4⟩] [] p7) p8) [⟨.Name "row" p9, iter, [.Compare (.Call (.Name "len" p10) [.Name "row" p11] [] p12) [.Eq] [.Name "base" p13] p14], 0⟩] flScope pos) 0 (.ref I) (.ref D) (compEnvC flScope cl C env))
   (fun r s' => r = .ok .next ∧ ∃ V' F', Sc w mg mb b₀ s [] C V' (bagF b₀ D (List.replicate ((rs.map (·.2)).filter (fun k => k = base)).length (base * size)) :: F') s') s4 := by
 refine codeAny_mono (comp1_sc [] (fun i => [bagF b₀ D (List.replicate (((rs.map (·.2)).take i).filter (fun k => k = base)).length (base * size))]) hh S e Z ?_ (fun i v s5 X hi hv' H5 => ?_)) fun r s' h => ⟨h.1, [], [], by rw [show (rs.map fun p => Value.ref p.1).toArray.size = (rs.map (·.2)).length from by simp, List.take_length] at h; exact h.2⟩
 ·exact Sc.weak (Pre := [itF b₀ I l 0]) (Post := []) Z.H rfl ⟨Z.bD, Z.lD, #[], 0, Z.H.get in1, rfl, fun i n h => by simp at h⟩
 ·refine cutQ fun Q0 h₀ => ?_
  have hi' : i < rs.length := by simpa using hi
  obtain ⟨p, hp⟩ : ∃ p, rs[i]? = some p := ⟨_, List.getElem?_eq_getElem hi'⟩
  have hpm := List.mem_of_getElem? hp
  have hk : (rs.map (·.2))[i]? = some p.2 := by rw [List.getElem?_map, hp]; rfl
  obtain rfl : v = .ref p.1 := by
   simp only [List.getElem?_toArray, List.getElem?_map, hp, Option.map_some, Option.some.injEq] at hv'
   exact hv'.symm
  have hkb := hks p hpm
  have hfl : (((rs.map (·.2)).take i).filter (fun k => k = base)).length ≤ 1001 := Nat.le_trans (List.length_filter_le ..) (Nat.le_trans (List.length_take_le ..) (by lia))
  have fs := filt_succ (b := base) hk
  obtain ⟨a, k⟩ := p
  have x := hrs _ hpm
  dsimp only at fs hkb x ⊢
  have hb2 : base ≤ 1000 := Nat.le_trans (Nat.le_mul_of_pos_right _ (Nat.succ_pos _)) hbs
  refine wpAny_assign_Name (H5.st fun s6 H6 => h₀ _ _ ?_)
  have x₆ := x.kp S H6.K List.not_mem_nil
  refine tests_one (wpAny_isTrue_Compare1 (H6.lenRow rfl x₆ (Nat.le_trans ‹_› ‹_›) (fun t j => ?_) rfl rfl rfl rfl hg hb))
  obtain ⟨m, B, _⟩ := H6.B
  refine (B.tok _).cel (c := c) (C₀.kp (B.tok _).K List.not_mem_nil) ?_ hcl rfl hx
  walk1
  walk1
  rw [fs]
  generalize (((rs.map (·.2)).take i).filter (fun k => k = base)).length = g at *
  by_cases q : k = base
  ·subst q
   refine ite_t (by simp) ?_
   rw [if_pos rfl]
   obtain ⟨_, _, lr, ex, er⟩ := x₆
   refine wpAny_BinOp (wpAny_Constant_str (k := 0) (pos := ⟨182, 27, 182, 28⟩) (wpAny_Call_NameR ((H6.tok _).bi (v := .builtin "len") (by k_is) (by decide +kernel) (callWith_builtin rfl (evalArgs_plain (spliced_cons (MethodCall_ (wpAny_Constant_str (k := 0) (pos := ⟨182, 27, 182, 28⟩) (PySem.GM.join (callWith_builtin rfl (evalArgs_plain (spliced_cons ((H6.tok _).loc (v := .ref a) rfl (spliced_nil ?_))))))))))) hg hb)))
   refine PySem.SC.join (D := a) (l := lr) ⟨_, ex, rfl, _, rfl⟩ er ?_ fun t9 q₉ => spliced_nil ?_
   ·unfold JoinOk
    rw [StrLaws.joinFits (B := 1000) (fun y hy => by rw [(List.mem_replicate.mp hy).2, xw_len]; have := Nat.mul_le_mul_right (size + 1) (show 1 ≤ k by have := (List.mem_replicate.mp hy).1; lia); lia) (by rw [show (Str.ofString "").length = 0 from by decide +kernel, List.length_replicate]; lia)]
    rfl
   have hbsz : k * size ≤ 1000 := Nat.le_trans (Nat.mul_le_mul_left _ (Nat.le_succ _)) hbs
   refine PySem.P.len_str (by rw [join_xw]; lia) ?_
   rw [join_xw]
   refine mul_ch (c := 32) (n := k * size) (by decide +kernel) rfl (Nat.le_trans ‹_› (by decide)) fun t10 q₁₀ => ?_
   refine Sc.addB (Pre := [X]) (Post := []) (n := k * size) (H6.tok _) Z.fD (by rw [List.length_replicate]; lia) fun s8 H8 => ?_
   rw [List.replicate_succ']
   exact H8.vars (V' := []) rfl
  ·refine ite_f (by simp; lia) ?_
   rw [if_neg q]
   exact (H6.tok _).vars (V' := []) rfl
end
end Mine
namespace Mine
section
variable {U W : List Addr} {w : World} {mg mb : NM} {b₀ : Heap} {s₀ s s' s4 : Shared} {A : Around} {E : VP} {L C c D I l a : Addr} {V : List (Str × Value)} {F G : List (Fact b₀)} {f : Fact b₀} {env : Env} {size base kk k : Nat} {tb : Tok}
theorem word_at {lr : List (Str × Tok)} {x : Str} {e : Nat} {v : Value} (er : lr.map (·.1) = List.replicate k x) (h : (strValues lr).toArray[e]? = some v) : ∃ t, v = .str x t := by
 simp only [strValues, List.getElem?_toArray, List.getElem?_map, Option.map_eq_some_iff] at h
 obtain ⟨y, h1, rfl⟩ := h
 have q := List.mem_map_of_mem (f := (·.1)) (List.mem_of_getElem? h1)
 rw [er] at q
 exact ⟨y.2, by rw [List.eq_of_mem_replicate q]⟩
noncomputable abbrev rsScope : Scope := { kind := .function, names := [(".0", .local), ("row", .local), ("len", .globalImplicit), ("word", .local), ("base", .free)], isGenerator := false, isCoroutine := false, more := [] }
theorem rest_loop {rs : List (Addr × Nat)} {iter : Expr} {cl : List (Str × Addr)} {p1 p2 p3 p4 p5 p6 p7 p8 p9 p10 p11 p12 p13 pos : Pos} (hh : A.handled = none) (S : Sit w mg mb b₀ s) (e : s.heap.get? l = some (lstO (rs.map fun p => Value.ref p.1).toArray kk)) (hrs : ∀ p ∈ rs, RowOn b₀ s.heap size p.1 p.2) (hks : ∀ p ∈ rs, p.2 ≤ base) (hlen : rs.length ≤ 1001) (hsz : size ≤ 1000) (hb16 : base ≤ 16)
  (C₀ : CellOn b₀ s.heap c (some (.int (base : Nat) tb))) (hcl : cl.lookup ("base" : Str) = some c) (Z : CompIn w mg mb b₀ s l I D C s4) (hx : (compEnvC rsScope cl C env).kindOf "base" = some .cell) (hg : env.globals = mainGlobals) (hb : env.builtins = builtinsNs) :
  codeAny (model PW w) A (.compLoop (.ListComp (.BinOp (.Constant (.str " ") 0 p1) .Mult (.Call (.Name "len" p2) [.Name "word" p3] [] p4) p5) [⟨.Name "row" p6, iter, [.Compare (.Call (.Name "len" p7) [.Name "row" p8] [] p9) [.NotEq] [.Name "base" p10] p11], 0⟩, ⟨.Name "word" p12, .Name "row" p13, [], 0⟩] rsScope pos) 0 (.ref I) (.ref D) (compEnvC rsScope cl C env))
   (fun r s' => r = .ok .next ∧ ∃ V' F', Sc w mg mb b₀ s [] C V' (bagF b₀ D (List.replicate ((rs.map (·.2)).filter (fun k => ¬ k = base)).sum size) :: F') s') s4 := by
 refine codeAny_mono (comp2_sc [] (fun i => [bagF b₀ D (List.replicate (((rs.map (·.2)).take i).filter (fun k => ¬ k = base)).sum size)]) hh S e Z ?_ (fun i v s5 X hi hv' H5 => ?_)) fun r s' h => ⟨h.1, [], [], by rw [show (rs.map fun p => Value.ref p.1).toArray.size = (rs.map (·.2)).length from by simp, List.take_length] at h; exact h.2⟩
 ·exact Sc.weak (Pre := [itF b₀ I l 0]) (Post := []) Z.H rfl ⟨Z.bD, Z.lD, #[], 0, Z.H.get in1, rfl, fun i n h => by simp at h⟩
 ·refine cutQ fun Q0 h₀ => ?_
  have hi' : i < rs.length := by simpa using hi
  obtain ⟨p, hp⟩ : ∃ p, rs[i]? = some p := ⟨_, List.getElem?_eq_getElem hi'⟩
  have hpm := List.mem_of_getElem? hp
  have hk : (rs.map (·.2))[i]? = some p.2 := by rw [List.getElem?_map, hp]; rfl
  obtain rfl : v = .ref p.1 := by
   simp only [List.getElem?_toArray, List.getElem?_map, hp, Option.map_some, Option.some.injEq] at hv'
   exact hv'.symm
  have hkb := hks p hpm
  have hfl : (((rs.map (·.2)).take i).filter (fun k => ¬ k = base)).sum ≤ 1001 * 16 := by
   refine Nat.le_trans (sum_le (B := 16) fun y hy => ?_) (Nat.mul_le_mul_right _ (Nat.le_trans (List.length_filter_le ..) (Nat.le_trans (List.length_take_le ..) (by lia))))
   obtain ⟨p', hp', rfl⟩ := List.mem_map.mp (List.mem_of_mem_take (List.mem_filter.mp hy).1)
   exact Nat.le_trans (hks p' hp') hb16
  have fs := filt_sum (b := base) hk
  obtain ⟨a, k⟩ := p
  have x := hrs _ hpm
  dsimp only at fs hkb x ⊢
  refine wpAny_assign_Name (H5.st fun s6 H6 => h₀ _ _ ?_)
  refine tests_one (wpAny_isTrue_Compare1 (H6.lenRow rfl (x.kp S H6.K List.not_mem_nil) (by lia) (fun t j => ?_) rfl rfl rfl rfl hg hb))
  obtain ⟨m, B, _⟩ := H6.B
  refine (B.tok _).cel (c := c) (C₀.kp (B.tok _).K List.not_mem_nil) ?_ hcl rfl hx
  walk1
  walk1
  rw [fs]
  clear fs hk hp hi hi' hv' H5 B
  generalize (((rs.map (·.2)).take i).filter (fun k => ¬ k = base)).sum = g at *
  by_cases q : k = base
  ·refine ite_f (by simp; lia) ?_
   rw [if_pos q]
   exact (H6.tok _).vars (V' := []) rfl
  ·refine ite_t (by simp; lia) ?_
   rw [if_neg q]
   obtain ⟨_, _, lr, ex, er⟩ := x
   have zr : (strValues lr).toArray.size = k := by have := congrArg List.length er; simpa [strValues] using this
   refine (H6.tok _).loc (v := .ref a) rfl (wpAny_pyIter_list ⟨_, (H6.tok _).K.lstO S ex List.not_mem_nil, rfl, _, rfl⟩ ?_)
   have H7 := (H6.tok j).new ((H6.tok j).S.push (o := itO a) (t := j)) (itF b₀ _ a 0) ⟨_, Heap.get?_push_size _ rfl, rfl, rfl⟩ (al1 (get_size _))
   have fR := H6.isNew (get_size _) H6.S.lt
   have bR := H6.S.fresh
   have lR := H6.S.lt
   dsimp only at H7 ⊢
   generalize s6.heap.objs.size = R at H7 fR bR lR ⊢
   refine (fun key => compStart_one key (wpAny_pyIter_listiter (H7.get in0) key)) ?_
   ·refine comp2_inner (fun n s' => ∃ j, n = k + 1 - j ∧ j ≤ k ∧ Sc w mg mb b₀ s [] C [] [itF b₀ R a j, X, bagF b₀ D (List.replicate (g + j) size)] s') ?_ (k + 1) ⟨0, rfl, Nat.zero_le _, H7.vars (V' := []) rfl⟩
    rintro n s' ⟨j, rfl, hj, H⟩
    refine cutQ fun Q₁ h₁ => ?_
    refine H.pull hh (H.K.lstO S ex List.not_mem_nil) fR bR lR (zr ▸ hj) (fun v s6 hlt hv H6 => ?_) fun s6 q H6 => h₁ _ _ ⟨rfl, zr ▸ q ▸ H6⟩
    rw [zr] at hlt
    obtain ⟨t2, rfl⟩ := word_at er hv
    refine h₁ _ _ (wpAny_pure (wpAny_assign_Name (H6.st fun s7 H7 => tests_nil ?_)))
    refine ite_t rfl ?_
    refine cutQ fun Q2 h₂ => ?_
    refine wpAny_BinOp (wpAny_Constant_str (k := 0) (pos := ⟨182, 27, 182, 28⟩) (wpAny_Call_NameR ((H7.tok _).bi (v := .builtin "len") (by k_is) (by decide +kernel) (callWith_builtin rfl (evalArgs_plain (spliced_cons ((H7.tok _).loc (v := .str (xw size) t2) rfl (spliced_nil ?_))))) hg hb)))
    refine PySem.P.len_str (by rw [xw_len]; lia) ?_
    rw [xw_len]
    refine mul_ch (c := 32) (n := size) (by decide +kernel) rfl (Nat.le_trans ‹_› (by decide)) fun t10 q₁₀ => ?_
    refine h₂ _ _ ?_
    refine Sc.addB (Pre := [itF b₀ R a (j + 1), X]) (Post := []) (n := size) (H7.tok _) Z.fD (by rw [List.length_replicate]; lia) fun s8 H8 => ⟨k + 1 - (j + 1), sub_dec hlt, j + 1, rfl, hlt, ?_⟩
    rw [← Nat.add_assoc, List.replicate_succ']
    exact H8.vars (V' := []) rfl
end
end Mine
namespace Mine
structure PgAt (w : World) (mg mb : NM) (b₀ : Heap) (s : Shared) (L c l : Addr) (V : List (Str × Value)) (v : Value) (M : Int) (p dp ln x d : Addr) (lines : List Str) (xs : List (Str × Str)) (s' : Shared) : Prop where
 B : ∃ m, Body w mg mb b₀ s [] L m s' ∧ Has V m
 C : CellOn b₀ s'.heap c (some v)
 P : PageOn w b₀ s'.heap p dp ln x d M lines xs
section
variable {w : World} {mg mb : NM} {b₀ : Heap} {s s' s'' : Shared} {A : Around} {E : VP} {L c l p dp ln x d : Addr} {v : Value} {M : Int} {n size base : Nat} {ts tb : Tok} {V : List (Str × Value)} {lines : List Str} {xs : List (Str × Str)}
theorem PgAt.mem (X : PgAt w mg mb b₀ s L c l V v M p dp ln x d lines xs s') : ∀ u ∈ [p, dp, ln, x, d], s'.heap.get? u ≠ none := fun u hu => by
 obtain ⟨_, _, _, _, _, _, _, _, _, _, hdp⟩ := X.P.hdp
 obtain ⟨_, _, hln, _⟩ := X.P.hln
 obtain ⟨_, _, _, _, I⟩ := X.P.acc.inst
 simp only [List.mem_cons, List.not_mem_nil, or_false] at hu
 rcases hu with rfl | rfl | rfl | rfl | rfl
 ·rw [X.P.hp]; simp
 ·rw [hdp]; simp
 ·rw [hln]; simp
 ·rw [I.at_]; simp
 ·rw [show s'.heap.get? u = _ from I.dict]; simp
theorem row_n (k n : Nat) : (row k n).length = k := by simp [row]
theorem row_n1 (k n : Nat) (z : Str × Str) : (row k n ++ [z]).length = k + 1 := by simp [row]
theorem pg_sub {p dp ln x d u : Addr} (h : u ∈ [x, d, ln]) : u ∈ [p, dp, ln, x, d] := by
 rcases List.mem_cons.mp h with rfl | h
 ·exact in3
 rcases List.mem_cons.mp h with rfl | h
 ·exact in4
 ·rw [List.mem_singleton.mp h]; exact in2
theorem laid_k {Q : VP} (S : Sit w mg mb b₀ s) (R : Rm A 24) (hb : BagOn b₀ s.heap l (List.replicate n size)) (hn : 1 ≤ n) (hsz : 1 ≤ size) (hb1 : 1 ≤ base) (hb16 : base ≤ 16) (hns : n * (size + 1) ≤ 1000) (hbs : base * (size + 1) ≤ 1000)
  (hret : ∀ s' T f r, Sit w mg mb b₀ s' → Kp [] s s' → s'.heap.IsTuple T #[.ref f, .ref r] → BagOn b₀ s'.heap f (List.replicate (n / base) (base * size)) → BagOn b₀ s'.heap r (List.replicate (n % base) size) → s.heap.get? f = none → s.heap.get? r = none → f ≠ r → Q (.ref T) s') :
  wpAny (model PW w) A (call (.ref 274) [.ref l, .int size ts, .int base tb]) Q E s := by
 refine wpAny_call ?_
 obtain ⟨bl, ll, vs, kk, hl, hvsz, hvs⟩ := id hb
 refine enter_c (cn := "base") [] (binds := [("same", .ref l), ("size", .int size ts), ("base", .int base tb)]) S (R.dl (k := 0) (by decide)) (by k_is) (by k_is) (BindsTo.of_eq rfl) (fun ι => rfl) ?_ ?_
 ·intro x hx
  simp only [List.mem_cons, List.not_mem_nil, or_false] at hx
  rcases hx with rfl | rfl | rfl
  ·exact .inl rfl
  ·exact .inl rfl
  ·exact .inr ⟨rfl, rfl⟩
 intro L s₁ B1 C₁ fc k₁ _
 refine cutQ fun Q0 h₀ => ?_
 have hl₁ := k₁ _ _ hl
 generalize hc : (L + 1 : Nat) = c at C₁ fc
 have C₁ : CellOn b₀ s₁.heap c (some (.int (base : Nat) tb)) := C₁
 have cL : c ≠ L := fun e => by have hc' : @Eq Nat c (L + 1) := hc.symm; have e' : @Eq Nat c L := e; lia
 have lL : l ≠ L := B1.ne_old hl
 have hs1 : size + 1 ≤ 1000 := Nat.le_trans (Nat.le_mul_of_pos_left _ hb1) hbs
 have hnn : n ≤ 1000 := Nat.le_trans (Nat.le_mul_of_pos_right _ (Nat.succ_pos _)) hns
 refine seq_sc ?P ?_ ?_
 case P => exact fun s' => ∃ p dp ln x d, (∀ u ∈ [p, dp, ln, x, d], u ≠ L ∧ u ≠ c ∧ u ≠ l ∧ s.heap.get? u = none) ∧ PgAt w mg mb b₀ s L c l [("page", .ref p), ("same", .ref l)] (.int (base : Nat) tb) ((base * (size + 1) : Nat) : Int) p dp ln x d [] [] s'
 ·intro Q' hQ
  refine wpAny_Assign_Name (wpAny_Call_NameR (B1.top (v := .ref 101) (by k_is) (callWith_K B1.ck (by k_is) ?_)))
  refine spliced_cons (wpAny_Constant_int (k := 0) (pos := ⟨182, 27, 182, 28⟩) (spliced_cons (wpAny_BinOp ?_)))
  have B2 := B1.tok (s₁.toks + 1)
  refine B2.cel (c := c) C₁ (wpAny_BinOp (B2.loc (v := .int size ts) rfl ?_)) (by rw [← hc]; rfl)
  walk1
  walk1
  have hbase : base ≤ 1000 := Nat.le_trans (Nat.le_mul_of_pos_right _ (Nat.succ_pos _)) hbs
  refine PySem.P.mul_int ?_ (IntMulOk.of_left (intBits_le_64 (by lia) (by lia)))
  rw [show (base : Int) * ((size : Int) + 1) = ((base * (size + 1) : Nat) : Int) from (Int.natCast_mul base (size + 1)).symm]
  have B3 := fun k => B1.tok k
  refine spliced_cons (wpAny_Constant_str (k := 0) (pos := ⟨182, 27, 182, 28⟩) (spliced_cons (wpAny_Constant_str (k := 0) (pos := ⟨182, 27, 182, 28⟩) (spliced_nil ⟨B1.ck, ?_⟩))))
  refine new_page (B3 _).S ((R.le (k := 11) (by decide)).deep) fun s4 p dp ln x d S4 k₄ P4 f₄ => ?_
  have B4 := (B3 _).step0 ⟨S4, k₄⟩
  refine B4.st fun s5 B5 k₅ => hQ _ (exI5 p dp ln x d ⟨fun u hu => ⟨(B3 0).ne_new (f₄ u hu), fun e => ?_, fun e => ?_, B1.K.none_up B1.S (f₄ u hu)⟩, ⟨_, B5, Has.cons (by ((try dsimp only); (repeat' (first | assumption | exact if_pos rfl | (refine (if_neg (by decide)).trans ?_) | exact rfl)))) (Has.cons (by ((try dsimp only); (repeat' (first | assumption | exact if_pos rfl | (refine (if_neg (by decide)).trans ?_) | exact rfl)))) Has.nil)⟩, (C₁.on0 k₄).kp k₅ (not_in cL), P4.loc S4 k₅ B4.ns ?_ ?_⟩)
  ·obtain ⟨o, e1, _⟩ := C₁.on; have h := f₄ u hu; rw [e] at h; rw [h] at e1; cases e1
  ·have h := f₄ u hu; rw [e] at h; rw [h] at hl₁; cases hl₁
  ·exact (B3 0).ne_new (f₄ _ in1)
  ·exact (B3 0).ne_new (f₄ _ in4)
 clear B1 C₁ k₁ hl₁
 intro s₂ hY
 refine exE5 hY fun p dp ln x d hX => hX.elim fun nu X => ?_
 clear hX hY
 have hpx := in3 (a := p) (b := dp) (c := ln) (d := x) (l := [d])
 have hpd := in4 (a := p) (b := dp) (c := ln) (d := x) (e := d) (l := [])
 have hpq := in1 (a := p) (b := dp) (l := [ln, x, d])
 have hpl := in2 (a := p) (b := dp) (c := ln) (l := [x, d])
 refine seq_sc ?P ?_ ?_
 case P => exact PgAt w mg mb b₀ s L c l [("page", .ref p)] (.int (base : Nat) tb) ((base * (size + 1) : Nat) : Int) p dp ln x d (List.replicate ((n - 1) / base) (textOf (row base size))) (row (pk base n) size)
 ·intro Q' hQ
  obtain ⟨m, B, hV⟩ := X.B
  refine wpAny_For (B.loc (v := .ref l) (hV "same" _ rfl) (out_none' (for_list [L, x, d, ln] (fun i s' => PgAt w mg mb b₀ s L c l [("page", .ref p)] (.int (base : Nat) tb) ((base * (size + 1) : Nat) : Int) p dp ln x d (List.replicate ((i - 1) / base) (textOf (row base size))) (row (pk base i) size) s') R.hh B.S (B.K.lstO S hl List.not_mem_nil) ?_
   (fun i s' J => let ⟨_, B, _⟩ := J.B; B.S) (fun i s' s'' I fI bI lI nt J S'' k => ?_) ⟨⟨m, B, fun y u e => hV y u (Ext.out (V' := [("page", .ref p)]) rfl e)⟩, X.C, by simpa [pk, row] using X.P⟩ (fun i v s' hi hv J hl' => ?_) fun s' J hl' => ?_)))
  ·intro v hv
   rcases List.mem_cons.mp hv with rfl | hv
   ·obtain ⟨o, _, _, e, _⟩ := B.ns
    exact ⟨by rw [e]; simp, Ne.symm lL⟩
   ·have hv' : v ∈ [p, dp, ln, x, d] := pg_sub hv
    exact ⟨X.mem v hv', (nu v hv').2.2.1⟩
  ·obtain ⟨m', B', mp⟩ := J.B
   have nI : ∀ {u}, u ∈ [p, dp, ln, x, d] → I ≠ u := fun hu q => X.mem _ hu (q ▸ fI)
   have nc : I ≠ c := fun q => by obtain ⟨o, e1, _⟩ := X.C.on; rw [← q, fI] at e1; cases e1
   exact ⟨⟨m', B'.step S'' k (al1 (.inr (B.K.none_of fI lI))) (not_in (Ne.symm (B.ne_new fI))), mp⟩, J.C.kp k (not_in (Ne.symm nc)), J.P.kp B'.S k (by simp only [List.mem_singleton, forall_eq]; exact ⟨nI in3, nI ‹_›, nI in0, nI in1, nI in2, nt⟩)⟩
  ·refine cutQ fun Q₁ h₁ => ?_
   rw [hvsz, List.length_replicate] at hi
   obtain ⟨tv, htv⟩ := hvs i size (by rw [List.getElem?_replicate, if_pos hi])
   refine wp_v (Option.some.inj (hv.symm.trans htv)) ?_
   obtain ⟨m', B', mp⟩ := J.B
   have mq : m' "page" = some (.ref p) := mp "page" _ rfl
   refine wpAny_assign_Name (B'.st fun s6 B6 k₆ => h₁ _ _ ?_)
   refine cutQ fun Q2 h₂ => ?_
   have P6 := J.P.loc B'.S k₆ B'.ns (nu _ hpq).1 (nu _ hpd).1
   have C6 := J.C.kp k₆ (not_in cL)
   refine ex_cons (wpAny_Expr_any (MethodCall_ (B6.loc (v := .ref p) (by ((try dsimp only); (repeat' (first | assumption | exact if_pos rfl | (refine (if_neg (by decide)).trans ?_) | exact rfl)))) ?_)))
   refine pg_m B6.S P6 (f' := 98) (by k_is) (by k_is) (fun ι ι ι ι ι ι ι ι ι ι => rfl) ?_
   refine callWith_K B6.ck (by k_is) (spliced_cons (wpAny_Constant_str (k := 0) (pos := ⟨182, 27, 182, 28⟩) (spliced_cons (wpAny_BinOp (wpAny_Constant_str (k := 0) (pos := ⟨182, 27, 182, 28⟩) ?_)))))
   have B7 := fun k => B6.tok k
   refine wpAny_Call_NameR ((B7 _).bi (v := .builtin "len") (by k_is) (by decide +kernel) (callWith_builtin rfl (evalArgs_plain (spliced_cons ((B7 _).loc (v := .str (sp size) tv) (by ((try dsimp only); (repeat' (first | assumption | exact if_pos rfl | (refine (if_neg (by decide)).trans ?_) | exact rfl)))) (spliced_nil ?_))))))
   refine PySem.P.len_str (by rw [sp_len]; lia) ?_
   rw [sp_len]
   refine mul_ch (c := 120) (n := size) (by decide +kernel) rfl (by lia) fun t8 q₈ => ?_
   refine spliced_nil ⟨(B7 0).ck, ?_⟩
   have hpk := pk_le (i := i) hb1
   have lrow : lenOf (row (pk base i) size ++ [(Str.ofString " ", xw size)]) = (pk base i + 1) * (size + 1) := by rw [← row_succ, row_len]
   have hle : (pk base i + 1) * (size + 1) ≤ 2 * 1000 := by
    have : (pk base i + 1) * (size + 1) ≤ (2 * base) * (size + 1) := Nat.mul_le_mul_right _ (by lia)
    rw [Nat.mul_assoc] at this
    lia
   have hM2 : ¬ ((lenOf (row (pk base i) size ++ [(Str.ofString " ", xw size)]) : Nat) : Int) ≤ ((base * (size + 1) : Nat) : Int) → ¬ pk base i + 1 ≤ base := fun h q => h (by rw [lrow]; exact Int.ofNat_le.mpr (Nat.mul_le_mul_right _ q))
   refine chunk_k (y := xw size) (B7 q₈).S P6 ((R.le (k := 17) (by decide)).deep) ⟨by rw [lrow]; lia, by rw [row_n1]; lia⟩ (by rw [row_n]; lia) ?_ (fun s9 lines' xs' S9 k9 P9 hcase => ?_) fun hM => ?_
   ·have h2 := Nat.div_le_self (i - 1) base
    rw [List.length_replicate]; lia
   ·have nuW : ∀ u ∈ [x, d, ln], u ∈ [p, dp, ln, x, d] := fun u hu => pg_sub hu
    have B9 := (B7 q₈).step S9 k9 (fun u hu => .inr (nu u (nuW u hu)).2.2.2) (fun q => (nu _ (nuW _ q)).1 rfl)
    have C9 := C6.kp (s := { s6 with toks := q₈ }) k9 (fun q => (nu _ (nuW _ q)).2.1 rfl)
    have kk := k₆.trans (W := [L, x, d, ln]) (Kp.trans (U := []) (Kp.of_eq (s' := { s6 with toks := q₈ }) rfl rfl) k9 (W := [x, d, ln]) no_in (fun ι h => .inl h)) (by simp) (by simp)
    refine wpAny_execs_nil (h₂ _ _ ⟨.inl rfl, ⟨⟨_, B9, Has.cons (by ((try dsimp only); (repeat' (first | assumption | exact if_pos rfl | (refine (if_neg (by decide)).trans ?_) | exact rfl)))) Has.nil⟩, C9, ?_⟩, kk⟩)
    rcases hcase with ⟨hM, rfl, rfl⟩ | ⟨hM, rfl, rfl⟩
    ·have hM' : (pk base i + 1) * (size + 1) ≤ base * (size + 1) := by rw [lrow] at hM; exact Int.ofNat_le.mp hM
     have hp := pk_step hb1 (.inr (Nat.le_of_mul_le_mul_right hM' (Nat.succ_pos _)))
     rw [hp.1, hp.2, row_succ]
     exact P9
    ·have i0 : i ≠ 0 := fun q => by have := hM2 hM; rw [q, pk_zero] at this; lia
     obtain ⟨e1, e2, e3⟩ := pk_full hb1 i0 (hM2 hM)
     rw [e2, e3, List.replicate_succ']
     rw [e1] at P9
     exact P9
   ·have := hM2 hM
    simp [row]; lia
  ·rw [hvsz, List.length_replicate] at J
   exact wpAny_execs_nil (hQ _ J)
 clear X
 intro s3 X
 refine seq_sc ?P ?_ ?_
 case P => exact fun s' => ∃ (R : Addr) (rs : List (Addr × Nat)), rs.map (·.2) = rowsOf base n ∧ Sc w mg mb b₀ s [] L [("rows", .ref R)] [rowsF b₀ R size rs, cellF b₀ c (some (.int (base : Nat) tb))] s'
 ·intro Q' hQ
  obtain ⟨m, B, hV⟩ := X.B
  have C := X.C
  have P := X.P
  have hq : (n - 1) / base ≤ n := Nat.le_trans (Nat.div_le_self _ _) (by lia)
  have hr1 : 1 ≤ pk base n := by unfold pk; rw [if_neg (by lia)]; lia
  have hr2 := pk_le (i := n) hb1
  have hks : ∀ k ∈ rowsOf base n, 1 ≤ k ∧ k ≤ base := fun k hk => by
   rcases List.mem_append.mp hk with q | q
   ·rw [(List.mem_replicate.mp q).2]; exact ⟨hb1, Nat.le_refl _⟩
   ·rw [List.mem_singleton.mp q]; exact ⟨hr1, hr2⟩
  have hrl : (rowsOf base n).length ≤ 1001 := by simp [rowsOf]; lia
  have hlen : ∀ y ∈ (rowsOf base n).map (fun k => textOf (row k size)), y.length ≤ 1000 := by
   intro y hy
   obtain ⟨k, hk, rfl⟩ := List.mem_map.mp hy
   rw [textOf_length, row_len]
   exact Nat.le_trans (Nat.mul_le_mul_right _ (hks k hk).2) hbs
  obtain ⟨rr, hrr⟩ : ∃ rr, pk base n = rr + 1 := ⟨pk base n - 1, (Nat.sub_add_cancel ‹_›).symm⟩
  have hlines : List.replicate ((n - 1) / base) (textOf (row base size)) ++ [textOf (row rr size ++ [(Str.ofString " ", xw size)])] = (rowsOf base n).map fun k => textOf (row k size) := by
   unfold rowsOf
   rw [List.map_append, List.map_replicate, List.map_singleton, hrr, row_succ]
  have P' := P
  rw [hrr, row_succ] at P'
  have hnl : (Str.ofString "\n") = ⟨#[10]⟩ := by decide +kernel
  refine comp_assign (mg := mg) (mb := mb) (b₀ := b₀) (s₀ := s) (closureFor_none (by decide)) (by decide) rfl (by decide) (MethodCall_ (MethodCall_ (B.loc (v := .ref p) (hV "page" _ rfl) ?_)))
  refine pg_m B.S P (f' := 49) (by k_is) (by k_is) (fun ι ι ι ι ι ι ι ι ι ι => rfl) ?_
  refine callWith_K B.ck (by k_is) (spliced_cons (wpAny_Constant_str (k := 0) (pos := ⟨182, 27, 182, 28⟩) (spliced_nil ⟨B.ck, ?_⟩)))
  have BT := B.tok (s3.toks + 1)
  refine strp_k (s := { s3 with toks := s3.toks + 1 }) BT.S P' ((R.le (k := 23) (by decide)).deep) ⟨by rw [← row_succ, row_len, ← hrr]; have := Nat.mul_le_mul_right (size + 1) hr2; lia, by simp [row]; lia⟩ (by simp [row]; lia) (by simp; lia)
   (fun e => by have := congrArg Str.length e; rw [xw_len] at this; have e0 : (Str.ofString "").length = 0 := (by decide +kernel); lia) (by rw [← row_succ, ← hrr]; exact row_notspace hr1 hsz) ?_ fun s4 tT S4 k₄ => ?_
  ·rw [hlines, hnl]
   unfold JoinOk
   rw [StrLaws.joinFits (B := 1000) hlen (by rw [show (⟨#[10]⟩ : Str).length = 1 from rfl, List.length_map]; lia)]
   rfl
  rw [hlines, hnl]
  have hTlen : (Txt.join ⟨#[10]⟩ ((rowsOf base n).map fun k => textOf (row k size))).length ≤ 10000000 := by
   unfold Txt.join
   rw [size_glued]
   have h1 := StrLaws.sumLen_le _ hlen
   have h2 : (((rowsOf base n).map fun k => textOf (row k size)).length - 1) * (⟨#[10]⟩ : Str).length = ((rowsOf base n).map fun k => textOf (row k size)).length - 1 := Nat.mul_one _
   rw [h2]
   rw [List.length_map] at h1 ⊢
   lia
  have nuW : ∀ u ∈ [x, d, ln], u ∈ [p, dp, ln, x, d] := fun u hu => pg_sub hu
  have B4 := BT.step S4 k₄ (fun u hu => .inr (nu u (nuW u hu)).2.2.2) (fun q => (nu _ (nuW _ q)).1 rfl)
  have C4 := C.kp (s := { s3 with toks := s3.toks + 1 }) k₄ (fun q => (nu _ (nuW _ q)).2.1 rfl)
  refine PySem.GM.split ?_
  refine callWith_builtin rfl (evalArgs_plain (spliced_cons (wpAny_Constant_str (k := 0) (pos := ⟨182, 27, 182, 28⟩) (spliced_nil ?_))))
  have hsp : Txt.split (Txt.join ⟨#[10]⟩ ((rowsOf base n).map fun k => textOf (row k size))) ⟨#[10]⟩ = (rowsOf base n).map fun k => textOf (row k size) := split_join 10 _ (by simp [rowsOf]) fun y hy => by
   obtain ⟨k, _, rfl⟩ := List.mem_map.mp hy
   exact row_free k size
  have H : Sc w mg mb b₀ s [] L [] [cellF b₀ c (some (.int (base : Nat) tb))] s4 := Sc.ofC B4 C4 fc cL B4.K Has.nil S (fun ι h => nomatch h) List.Pairwise.nil no_in
  refine split1S (H.tok (s4.toks + 1)).S hTlen rfl fun s5 D₁ ls S5 k₅ els hD₁ fD1 bD1 lD1 => ?_
  rw [hsp] at els
  have H5 := (H.tok (s4.toks + 1)).grow ⟨S5, k₅⟩
  refine H5.compP hD₁ (fun D g => ∃ rs : List (Addr × Nat), rs.map (·.2) = rowsOf base n ∧ g = rowsF b₀ D size rs) (fun D C I s4 Z => rows_loop R.hh H5.S hD₁ els hks hsz hbs hrl Z) fun D g s' ι hg H' => ?_
  obtain ⟨rs, hrs, rfl⟩ := hg
  exact hQ _ ⟨D, rs, hrs, H'⟩
 clear X
 intro s4 ⟨Ra, rs, hrs, H4⟩
 have hks : ∀ p ∈ rs, p.2 ≤ base := fun p hp => by
  have q := List.mem_map_of_mem (f := (·.2)) hp
  rw [hrs] at q
  rcases List.mem_append.mp q with q | q
  ·rw [(List.mem_replicate.mp q).2]; exact Nat.le_refl _
  ·rw [List.mem_singleton.mp q]; exact pk_le hb1
 have hrl : rs.length ≤ 1001 := by
  have hq : (n - 1) / base ≤ n := Nat.le_trans (Nat.div_le_self _ _) (by lia)
  rw [← List.length_map (f := (·.2)), hrs]; simp [rowsOf]; lia
 refine seq_sc ?P ?_ ?_
 case P => exact fun s' => ∃ f, s.heap.get? f = none ∧ Sc w mg mb b₀ s [] L [("full", .ref f), ("rows", .ref Ra)] [bagF b₀ f (List.replicate (n / base) (base * size)), rowsF b₀ Ra size rs, cellF b₀ c (some (.int (base : Nat) tb))] s'
 ·intro Q' hQ
  obtain ⟨⟨ck, e⟩, hr⟩ : (∃ ck, s4.heap.get? Ra = some (lstO (rs.map fun p => Value.ref p.1).toArray ck)) ∧ ∀ p ∈ rs, RowOn b₀ s4.heap size p.1 p.2 := H4.get in0
  refine comp_assign (mg := mg) (mb := mb) (b₀ := b₀) (s₀ := s) (cl := [("base", c)]) (by subst hc; rfl) (by decide) rfl (by decide) (H4.loc (v := .ref Ra) rfl ?_)
  refine H4.comp e (fun D => bagF b₀ D (List.replicate (n / base) (base * size))) (fun ι => rfl) (fun D C I s5 Z => ?_) fun D s' f0 H' => hQ _ ⟨D, f0, H'⟩
  rw [← rows_full hb1 hn, ← hrs]
  exact full_loop R.hh H4.S e hr hks hrl hbs hsz (H4.get in1) rfl Z rfl rfl rfl
 clear H4
 intro s5 ⟨f, f0, H5⟩
 refine ex_cons (wpAny_Return_some (PyProof.Rows.Tuple_ (k := 0) (spliced_cons (H5.loc (v := .ref f) rfl (spliced_cons ?_)))))
 obtain ⟨⟨ck, e⟩, hr⟩ : (∃ ck, s5.heap.get? Ra = some (lstO (rs.map fun p => Value.ref p.1).toArray ck)) ∧ ∀ p ∈ rs, RowOn b₀ s5.heap size p.1 p.2 := H5.get in1
 refine H5.compName (cl := [("base", c)]) rfl e (fun D => bagF b₀ D (List.replicate (n % base) size)) (fun ι => rfl) (by subst hc; rfl) (by decide) rfl (by decide) (fun D C I s6 Z => ?_) fun D s6 d0 H6 => spliced_nil ?_
 ·rw [← rows_rest hb1 hn, ← hrs]
  exact rest_loop R.hh H5.S e hr hks hrl (Nat.le_of_lt ‹_›) hb16 (H5.get in2) rfl Z rfl rfl rfl
 have hf : BagOn b₀ s6.heap f _ := H6.get in1
 have hD : BagOn b₀ s6.heap D _ := H6.get in0
 have ne : D ≠ f := fun q => (List.pairwise_cons.mp H6.nd).1 _ in0 D (List.mem_singleton_self D) (List.mem_singleton.mpr q)
 have z := H6.S.push (o := { cls := .type "tuple", data := .seq #[.ref f, .ref D] }) (t := s6.toks)
 refine wpAny_newObj_type ?_ (by show 2 ≤ sizeLine; rw [sizeLine_eq]; lia)
 refine h₀ _ _ ?_
 exact hret _ _ f D z.1 (H6.K.trans z.2 no_in no_in) ⟨_, Heap.get?_push_size _ rfl, rfl, _, rfl⟩ (hf.kp H6.S z.2 List.not_mem_nil) (hD.kp H6.S z.2 List.not_mem_nil) f0 d0 ne.symm
end
end Mine
namespace Mine
section
variable {U : List Addr} {w : World} {mg mb : NM} {b₀ : Heap} {s₀ s s' : Shared} {A : Around} {E : VP} {L c l : Addr} {V : List (Str × Value)} {F : List (Fact b₀)} {env : Env} {n size base : Nat} {ts tb : Tok}
theorem Sc.laid {Q : VP} (H : Sc w mg mb b₀ s₀ U L V F s) (R : Rm A 24) (hm : bagF b₀ l (List.replicate n size) ∈ F) (hn : 1 ≤ n) (hsz : 1 ≤ size) (hb1 : 1 ≤ base) (hb16 : base ≤ 16) (hns : n * (size + 1) ≤ 1000) (hbs : base * (size + 1) ≤ 1000)
  (hQ : ∀ s' T f r, s₀.heap.get? f = none → s₀.heap.get? r = none → s'.heap.IsTuple T #[.ref f, .ref r] → Sc w mg mb b₀ s₀ U L V (bagF b₀ f (List.replicate (n / base) (base * size)) :: bagF b₀ r (List.replicate (n % base) size) :: F) s' → Q (.ref T) s') :
  wpAny (model PW w) A (call (.ref 274) [.ref l, .int size ts, .int base tb]) Q E s := by
 refine laid_k H.S R (H.get hm) hn hsz hb1 hb16 hns hbs fun s' T f r S' k hT hf hr ff fr ne => ?_
 have H1 := H.new ⟨S', k⟩ (bagF b₀ r _) hr (al1 fr)
 obtain ⟨m, B, _⟩ := H.B
 refine hQ s' T f r (H.isNew ff hf.ll) (H.isNew fr hr.ll) hT ⟨H1.B, fun g hg => ?_, List.pairwise_cons.mpr ⟨fun g hg a ha q => ?_, H1.nd⟩, H1.un⟩
 ·rcases List.mem_cons.mp hg with rfl | hg
  ·exact ⟨hf, fun q => B.ne_new ff (List.mem_singleton.mp q).symm⟩
  ·exact H1.ok g hg
 ·rw [List.mem_singleton.mp ha] at q
  rcases List.mem_cons.mp hg with rfl | hg
  ·exact ne (List.mem_singleton.mp q)
  ·exact g.on (H.ok g hg).1 _ q ff
end
end Mine
namespace Mine
section
variable {w : World} {mg mb : NM} {b₀ : Heap} {s₀ s s' : Shared} {A : Around} {E : VP} {L : Addr} {U : List Addr} {m : NM} {env : Env}
theorem tpart_len {ns : List Nat} {base size : Nat} (F : Fit ns base) (hm : size ∈ ns) : (tpart ns base size).length ≤ 80 := by
 have hb2 := F.b2
 obtain ⟨h1, h2⟩ := F.cnt hm
 have hp := F.pos size hm
 unfold tpart
 rw [List.length_append, List.length_flatten, List.map_replicate, List.sum_replicate_nat, List.length_replicate, List.length_replicate]
 have h3 : size / unitOf base size size ≤ size := Nat.div_le_self _ _
 have h5 : ns.count size % base * (size / unitOf base size size) ≤ ns.count size % base * size := Nat.mul_le_mul_left _ h3
 have h6 : ns.count size % base * size ≤ ns.count size * size := Nat.mul_le_mul_right _ (Nat.mod_le _ _)
 have h7 : ns.count size / base ≤ ns.count size := Nat.div_le_self _ _
 rw [Nat.mul_add] at h2
 lia
theorem parts_len {f : Nat → List Nat} {ns : List Nat} {B : Nat} (h : ∀ x ∈ ns, (f x).length ≤ B) (i : Nat) : (((sortU ns).take i).flatMap f).length ≤ 64 * B := by
 rw [List.length_flatMap]
 have h1 : ((sortU ns).take i).length ≤ 64 := by
  rw [List.length_take]
  have : (sortU ns).length ≤ 64 := by unfold sortU; refine Nat.le_trans (List.length_filter_le _ _) ?_; simp
  lia
 refine Nat.le_trans (sum_le (B := B) fun y hy => ?_) (by rw [List.length_map]; exact Nat.mul_le_mul_right _ h1)
 obtain ⟨x, hx, rfl⟩ := List.mem_map.mp hy
 have := List.mem_of_mem_take hx
 unfold sortU at this
 exact h x (by simpa using (List.mem_filter.mp this).2)
theorem parts_step {f : Nat → List Nat} {ns : List Nat} {i size : Nat} (h : (sortU ns)[i]? = some size) : ((sortU ns).take (i + 1)).flatMap f = ((sortU ns).take i).flatMap f ++ f size := by
 rw [List.take_add_one, h, List.flatMap_append]
 simp
theorem there_k {l : Addr} {ns : List Nat} {base : Nat} {tb : Tok} {Q : VP} (S : Sit w mg mb b₀ s) (R : Rm A 26) (hb : BagOn b₀ s.heap l ns) (F : Fit ns base)
  (hret : ∀ s' T, Sit w mg mb b₀ s' → Kp [] s s' → BagOn b₀ s'.heap T (thereL ns base) → s.heap.get? T = none → Q (.ref T) s') :
  wpAny (model PW w) A (call (.ref 279) [.ref l, .int base tb]) Q E s := by
 have hb2 := F.b2
 have hb4 := F.b4
 refine wpAny_call ?_
 refine enter_c (cn := "size") [] (binds := [("bag", .ref l), ("base", .int base tb)]) S (R.dl (k := 0) (by decide)) (by k_is) (by k_is) (BindsTo.of_eq rfl) (fun ι => rfl) ?_ ?_
 ·intro x hx
  simp only [List.mem_cons, List.not_mem_nil, or_false] at hx
  rcases hx with rfl | rfl
  ·exact .inl rfl
  ·exact .inl rfl
 intro L s₁ B1 C₁ fc k₁ _
 refine cutQ fun Q0 h₀ => ?_
 generalize hc : (L + 1 : Nat) = c at C₁ fc
 have cL : c ≠ L := fun e => by have hc' : @Eq Nat c (L + 1) := hc.symm; have e' : @Eq Nat c L := e; lia
 have H1 : Sc w mg mb b₀ s [] L [("base", .int base tb), ("bag", .ref l)] [cellX b₀ c, bagF b₀ l ns] s₁ := Sc.weak (Pre := []) (Sc.ofC B1 C₁ fc cL B1.K (Has.cons (by ((try dsimp only); (repeat' (first | assumption | exact if_pos rfl | (refine (if_neg (by decide)).trans ?_) | exact rfl)))) (Has.cons (by ((try dsimp only); (repeat' (first | assumption | exact if_pos rfl | (refine (if_neg (by decide)).trans ?_) | exact rfl)))) Has.nil)) S (al1 hb) (List.pairwise_singleton ..) no_in) rfl ⟨_, C₁⟩
 clear B1 C₁ k₁
 refine seq_sc ?P ?_ ?_
 case P => exact fun s' => ∃ T, s.heap.get? T = none ∧ Sc w mg mb b₀ s [] L [("turned", .ref T), ("base", .int base tb), ("bag", .ref l)] [bagF b₀ T [], cellX b₀ c, bagF b₀ l ns] s'
 ·intro Q' hQ
  refine wpAny_Assign_Name ?_
  refine PyProof.Rows.List_ ?_
  exact spliced_nil (H1.newB fun s₂ T fT H₂ => H₂.st fun s3 H3 => hQ _ ⟨T, fT, H3⟩)
 clear H1
 intro s₂ ⟨T, fT, H₂⟩
 refine seq_sc ?P ?_ ?_
 case P => exact fun s' => Sc w mg mb b₀ s [] L [("turned", .ref T)] [bagF b₀ T (thereL ns base)] s'
 ·intro Q' hQ
  refine wpAny_For (H₂.sizes R.hh in2 rfl F.lt (by have := F.len; lia) fun s3 D fD H3 => out_none' ?_)
  clear H₂
  obtain ⟨vs, kk, eD, zD, qD⟩ := (H3.get in0 : IntsOn b₀ s3.heap D (sortU ns)).on
  replace H3 := Sc.weak (Pre := []) (f' := lstF b₀ D vs kk) H3 rfl eD
  refine for_sc _ (fun i => [lstF b₀ D vs kk, bagF b₀ T (((sortU ns).take i).flatMap (tpart ns base)), cellX b₀ c, bagF b₀ l ns]) R.hh (fun i s' H => H.get in0) H3 (fun i v s' X hi hv H => ?_) (fun s' H => wpAny_execs_nil (hQ _ ?_))
  ·clear H3
   obtain ⟨size, hsize⟩ : ∃ size, (sortU ns)[i]? = some size := ⟨_, List.getElem?_eq_getElem (zD ▸ hi)⟩
   have hmem : size ∈ ns := by
    have := List.mem_of_getElem? hsize
    unfold sortU at this
    simpa using (List.mem_filter.mp this).2
   have hpos := F.pos size hmem
   have hlt := F.lt size hmem
   obtain ⟨hc1, hc2⟩ := F.cnt hmem
   obtain ⟨tv, htv⟩ := qD i size hsize
   refine wp_v (Option.some.inj (hv.symm.trans htv)) ?_
   obtain ⟨v₀, hC⟩ : ∃ v, CellOn b₀ s'.heap c v := H.get in3
   replace H := Sc.weak (Pre := [X, lstF b₀ D vs kk, bagF b₀ T (((sortU ns).take i).flatMap (tpart ns base))]) (Post := [bagF b₀ l ns]) (f' := cellF b₀ c v₀) H rfl hC
   have hcl : ∀ {e : Env}, e.cells = [(("size" : Str), (L + 1 : Nat))] → e.cells.lookup ("size" : Str) = some c := fun h => by rw [h, ← hc]; rfl
   refine wpAny_assign_Name (Sc.stc (Pre := [X, lstF b₀ D vs kk, bagF b₀ T (((sortU ns).take i).flatMap (tpart ns base))]) (Post := [bagF b₀ l ns]) H fc (fun s4 H4 => ?_) (hcl rfl))
   clear H hC
   rw [parts_step hsize]
   have pl := parts_len (f := tpart ns base) (fun x hx => tpart_len F hx) i
   have pt := tpart_len F hmem
   unfold tpart at pt
   rw [List.length_append] at pt
   generalize ((sortU ns).take i).flatMap (tpart ns base) = ps at *
   have us := unitOf_spec hb2 size size hpos (Nat.le_refl _)
   have hu : unitOf base size size ≤ size := Nat.le_of_dvd hpos us.2.1
   generalize hun : unitOf base size size = u at *
   have hbs : base * (size + 1) ≤ 4 * 64 := Nat.mul_le_mul hb4 ‹_›
   refine cutQ fun Q₁ h₁ => ?_
   refine seq_sc ?P ?_ ?_
   case P => exact fun s5 => ∃ f r, Sc w mg mb b₀ s [] L [("rest", .ref r), ("full", .ref f), ("turned", .ref T), ("base", .int base tb), ("bag", .ref l)] [bagF b₀ f (List.replicate (ns.count size / base) (base * size)), bagF b₀ r (List.replicate (ns.count size % base) size), X, lstF b₀ D vs kk, bagF b₀ T ps, cellF b₀ c (some (.int (size : Nat) tv)), bagF b₀ l ns] s5
   ·intro Q' hQ
    obtain ⟨_, _, vb, kb, eb, xb⟩ : BagOn b₀ s4.heap l ns := H4.get in4
    refine PyProof.Rows.Assign_Tuple ?_
    refine wpAny_Call_NameR (H4.top (v := .ref 274) (by k_is) (callWith_K H4.ck (by k_is) ?_))
    refine spliced_cons ?_
    refine H4.compName (cl := [("size", c)]) rfl eb (fun D => bagF b₀ D (List.replicate (ns.count size) size)) (fun ι => rfl) (by subst hc; rfl) (by decide) rfl (by decide) ?_ fun D' s5 ι H5 => ?_
    ·intro D C' I s5 Z
     exact same_loop R.hh H4.S eb xb (H4.get in3) rfl Z F.lt (by have := F.len; lia) rfl rfl rfl
    refine spliced_cons (H5.cel in4 (spliced_cons (H5.loc (v := .int base tb) rfl (spliced_nil ⟨H5.ck, ?_⟩))) (hcl rfl))
    refine H5.laid ((R.le (k := 25) (by decide)).deep) in0 hc1 hpos (Nat.le_of_lt ‹_›) (by lia) (Nat.le_trans ‹_› (by decide)) (by lia) fun s6 Tu f r ι ι hTu H6 => ?_
    exact (H6.sub (.cons_cons _ (.cons_cons _ (.cons _ (.refl _))))).ass2 R.hh hTu fun s7 H7 => hQ _ ⟨f, r, H7⟩
   clear H4
   intro s5 ⟨f, r, H5⟩
   refine ex_cons (wpAny_Assign_Name (H5.cel in5 (H5.st fun s6 H6 => ?_) (hcl rfl)))
   clear H5
   refine seq_sc ?P ?_ ?_
   case P => exact fun s' => ∃ tu, Sc w mg mb b₀ s [] L [("unit", .int (u : Nat) tu), ("rest", .ref r), ("full", .ref f), ("turned", .ref T), ("base", .int base tb), ("bag", .ref l)] [bagF b₀ f (List.replicate (ns.count size / base) (base * size)), bagF b₀ r (List.replicate (ns.count size % base) size), X, lstF b₀ D vs kk, bagF b₀ T ps, cellF b₀ c (some (.int (size : Nat) tv)), bagF b₀ l ns] s'
   ·intro Q' hQ
    refine wpAny_While (out_none (codeAny_whileLoop (fun n s'' => ∃ g tu, Sc w mg mb b₀ s [] L [("unit", .int (n : Nat) tu), ("rest", .ref r), ("full", .ref f), ("turned", .ref T), ("base", .int base tb), ("bag", .ref l)] [bagF b₀ f (List.replicate (ns.count size / base) (base * size)), bagF b₀ r (List.replicate (ns.count size % base) size), X, lstF b₀ D vs kk, bagF b₀ T ps, cellF b₀ c (some (.int (size : Nat) tv)), bagF b₀ l ns] s'' ∧ unitOf base g n = u ∧ 1 ≤ n ∧ n ≤ g) ?_ size ⟨size, tv, H6, hun, hpos, Nat.le_refl _⟩))
    clear H6
    intro n s'' hI
    refine cutW fun Q2 E₂ h₂ => ?_
    obtain ⟨g, tu, H, hu1, hu2, hu3⟩ := hI
    refine wpAny_isTrue_Compare1 (H.bin (v1 := .int (n : Nat) tu) (v2 := .int base tb) rfl rfl (mod_nat rfl rfl (by lia) (test_zero (h₂ _ _ ?_))))
    have H' := (H.tok (s''.toks + 1)).tok (s''.toks + 1 + 1)
    obtain ⟨g', rfl⟩ := pred_of (n := g) (Nat.le_trans hu2 hu3)
    by_cases hm0 : n % base = 0
    ·refine ite_t (by simpa using hm0) (cutW fun Q3 E₃ h₃ => ?_)
     refine ex_cons (wpAny_AugAssign_Name (H'.lod (v := .int (n : Nat) tu) rfl (H'.loc (v := .int base tb) rfl (idiv_nat rfl rfl (by lia) (Nat.le_trans ‹_› (by decide)) ((H'.tok _).st fun s7 H7 => wpAny_execs_nil ?_)))))
     have hq1 : 1 ≤ n / base := Nat.div_pos (Nat.le_of_dvd hu2 (Nat.dvd_of_mod_eq_zero hm0)) (Nat.le_of_lt ‹_›)
     have hq2 : n / base < n := Nat.div_lt_self hu2 hb2
     exact h₃ _ _ ⟨n / base, hq2, g', _, H7.vars rfl, (unitOf_step hm0).symm.trans hu1, hq1, by lia⟩
    ·refine ite_f (by simpa using hm0) ?_
     rw [unitOf_s, if_neg hm0] at hu1
     subst hu1
     exact wpAny_execs_nil (hQ _ ⟨tu, H'⟩)
   clear H6
   intro s6 ⟨tu, H6⟩
   refine seq_sc ?P ?_ ?_
   case P => exact fun s' => Sc w mg mb b₀ s [] L [("full", .ref f), ("turned", .ref T), ("base", .int base tb), ("bag", .ref l)] [bagF b₀ f (List.replicate (ns.count size / base) (base * size)), X, lstF b₀ D vs kk, bagF b₀ T (ps ++ (List.replicate (ns.count size % base) (List.replicate (size / u) u)).flatten), cellF b₀ c (some (.int (size : Nat) tv)), bagF b₀ l ns] s'
   ·intro Q' hQ
    obtain ⟨_, _, vr, kr, er, xr⟩ : BagOn b₀ s6.heap r (List.replicate (ns.count size % base) size) := H6.get in1
    have zr : vr.size = ns.count size % base := xr.1.trans List.length_replicate
    replace H6 := Sc.weak (Pre := [bagF b₀ f (List.replicate (ns.count size / base) (base * size))]) (f' := lstF b₀ r vr kr) H6 rfl er
    refine wpAny_For (H6.loc (v := .ref r) rfl (out_none' ?_))
    refine for_sc [("unit", .int (u : Nat) tu), ("full", .ref f), ("turned", .ref T), ("base", .int base tb), ("bag", .ref l)] (fun e => [bagF b₀ f (List.replicate (ns.count size / base) (base * size)), lstF b₀ r vr kr, X, lstF b₀ D vs kk, bagF b₀ T (ps ++ (List.replicate e (List.replicate (size / u) u)).flatten), cellF b₀ c (some (.int (size : Nat) tv)), bagF b₀ l ns]) R.hh (fun e s' H => H.get in1)
     (Sc.weak (Pre := [_, _, _, _]) (f' := bagF b₀ T (ps ++ (List.replicate 0 (List.replicate (size / u) u)).flatten)) (H6.vars (V' := [("unit", .int (u : Nat) tu), ("full", .ref f), ("turned", .ref T), ("base", .int base tb), ("bag", .ref l)]) rfl) rfl (by simpa using (H6.get in4 : BagOn b₀ s6.heap T ps))) (fun e v s' X' he hv H => ?_) (fun s' H => wpAny_execs_nil (hQ _ ?_))
    ·clear H6
     have he' : e < ns.count size % base := by lia
     obtain ⟨tp, htp⟩ := xr.2 e size (by rw [List.getElem?_replicate, if_pos he'])
     refine wp_v (Option.some.inj (hv.symm.trans htp)) ?_
     have hdiv : size = size / u * u := (Nat.div_mul_cancel us.2.1).symm
     have hd1 : 1 ≤ size / u := Nat.div_pos hu us.1
     have hlf : ((List.replicate e (List.replicate (size / u) u)).flatten).length ≤ 4 * 64 := by
      rw [List.length_flatten, List.map_replicate, List.sum_replicate_nat, List.length_replicate]
      exact Nat.mul_le_mul (by have := Nat.mod_lt (ns.count size) (show 0 < base by lia); lia) (Nat.le_trans (Nat.div_le_self _ _) (Nat.le_of_lt ‹_›))
     have hd2 : size / u ≤ size := Nat.div_le_self _ _
     refine cutQ fun Q2 h₂ => ?_
     refine wpAny_assign_Name (H.st fun s8 H8 => h₂ _ _ ?_)
     refine cutQ fun Q3 h₃ => ?_
     refine ex_cons (wpAny_AugAssign_Name (H8.lod (v := .ref T) rfl ?_))
     refine wpAny_Call_NameR (H8.top (v := .ref 269) (by k_is) (callWith_K H8.ck (by k_is) ?_))
     refine spliced_cons (H8.loc (v := .str (sp size) tp) rfl (spliced_cons ?_))
     refine PyProof.Rows.List_ ?_
     refine spliced_cons (H8.loc (v := .int (u : Nat) tu) rfl (spliced_cons (wpAny_Constant_int (k := 0) (pos := ⟨182, 27, 182, 28⟩) (spliced_nil ?_))))
     refine (H8.tok _).newV (Nat.le_of_ble_eq_true rfl) fun s9 ru ι H9 => ?_
     refine spliced_cons (wpAny_BinOp (H9.cel (List.mem_cons_of_mem _ in6) (H9.loc (v := .int (u : Nat) tu) rfl (div_nat rfl rfl (by lia) (by lia) (spliced_nil ⟨H9.ck, ?_⟩))) (hcl rfl)))
     refine cut_zero (N := size) (u := u) (H9.tok _).S ((R.le (k := 7) (by decide)).deep) ⟨_, H9.get in0, rfl, _, rfl⟩ hdiv us.1 (by lia) hd1 (by lia) fun sA pc SA kA pcA fpc => ?_
     have HA := (H9.tok _).new ⟨SA, kA⟩ (bagF b₀ pc _) pcA (al1 fpc)
     clear H H8 H9
     refine Sc.iaddB (Pre := [_, _, _, _, _, _, _]) HA in0 fT (by rw [List.length_append, List.length_replicate]; lia) fun sB HB => HB.st fun sC HC => wpAny_execs_nil (h₃ _ _ ⟨.inl rfl, ?_⟩)
     rw [List.replicate_succ', List.flatten_append, List.flatten_singleton, ← List.append_assoc]
     exact (HC.sub (.cons _ (.cons _ (.refl _)))).vars rfl
    ·rw [zr] at H
     exact (H.sub (.cons_cons _ (.cons _ (.refl _)))).vars rfl
   clear H6
   intro s7 H7
   refine ex_cons (wpAny_AugAssign_Name (H7.lod (v := .ref T) rfl (H7.loc (v := .ref f) rfl ?_)))
   refine Sc.iaddB (Pre := [_, _, _]) H7 in0 fT (by rw [List.length_append]; lia) fun s8 H8 => H8.st fun s9 H9 => wpAny_execs_nil (h₁ _ _ ⟨.inl rfl, ?_⟩)
   rw [show tpart ns base size = (List.replicate (ns.count size % base) (List.replicate (size / u) u)).flatten ++ List.replicate (ns.count size / base) (base * size) from by subst hun; rfl, ← List.append_assoc]
   exact Sc.weak (Pre := [_, _, _]) (f' := cellX b₀ c) ((H9.sub (.cons _ (.refl _))).vars (V' := [("turned", .ref T), ("base", .int base tb), ("bag", .ref l)]) rfl) rfl ⟨_, H9.get in4⟩
  ·rw [zD, List.take_length] at H
   exact (H.sub (.cons _ (.cons_cons _ (.cons _ (.cons _ (.refl _)))))).vars rfl
 clear H₂
 intro s3 H3
 exact ex_cons (wpAny_Return_some (H3.loc (v := .ref T) rfl (h₀ _ _ (hret _ _ H3.S H3.K (H3.get in0) fT))))
end
end Mine
namespace Mine
section
variable {w : World} {mg mb : NM} {b₀ : Heap} {s₀ s s' : Shared} {A : Around} {E : VP} {L : Addr} {U : List Addr} {m : NM} {env : Env}
theorem bpart_len {ns : List Nat} {base size : Nat} (F : Fit ns base) (hm : size ∈ ns) : (bpart ns base size).length ≤ 160 := by
 have h3 : ns.count size ≤ ns.length := List.count_le_length
 have h5 := F.len
 unfold bpart
 split
 ·rw [List.length_flatten, List.map_replicate, List.sum_replicate_nat, List.length_replicate]
  exact (Nat.mul_le_mul (show ns.count size ≤ 40 by lia) F.b4 : ns.count size * base ≤ 40 * 4)
 ·exact Nat.le_trans (upL_len base F.b2 _ _ _) (by lia)
theorem back_k {l : Addr} {ns : List Nat} {base : Nat} {tb : Tok} {Q : VP} (S : Sit w mg mb b₀ s) (R : Rm A 26) (hb : BagOn b₀ s.heap l ns) (F : Fit ns base)
  (hret : ∀ s' T, Sit w mg mb b₀ s' → Kp [] s s' → BagOn b₀ s'.heap T (backL ns base) → s.heap.get? T = none → Q (.ref T) s') :
  wpAny (model PW w) A (call (.ref 284) [.ref l, .int base tb]) Q E s := by
 have hb2 := F.b2
 have hb4 := F.b4
 refine wpAny_call ?_
 refine enter_c (cn := "size") [] (binds := [("bag", .ref l), ("base", .int base tb)]) S (R.dl (k := 0) (by decide)) (by k_is) (by k_is) (BindsTo.of_eq rfl) (fun ι => rfl) ?_ ?_
 ·intro x hx
  simp only [List.mem_cons, List.not_mem_nil, or_false] at hx
  rcases hx with rfl | rfl
  ·exact .inl rfl
  ·exact .inl rfl
 intro L s₁ B1 C₁ fc k₁ _
 refine cutQ fun Q0 h₀ => ?_
 generalize hc : (L + 1 : Nat) = c at C₁ fc
 have cL : c ≠ L := fun e => by have hc' : @Eq Nat c (L + 1) := hc.symm; have e' : @Eq Nat c L := e; lia
 have H1 : Sc w mg mb b₀ s [] L [("base", .int base tb), ("bag", .ref l)] [cellX b₀ c, bagF b₀ l ns] s₁ := Sc.weak (Pre := []) (Sc.ofC B1 C₁ fc cL B1.K (Has.cons (by ((try dsimp only); (repeat' (first | assumption | exact if_pos rfl | (refine (if_neg (by decide)).trans ?_) | exact rfl)))) (Has.cons (by ((try dsimp only); (repeat' (first | assumption | exact if_pos rfl | (refine (if_neg (by decide)).trans ?_) | exact rfl)))) Has.nil)) S (al1 hb) (List.pairwise_singleton ..) no_in) rfl ⟨_, C₁⟩
 clear B1 C₁ k₁
 refine seq_sc ?P ?_ ?_
 case P => exact fun s' => ∃ T, s.heap.get? T = none ∧ Sc w mg mb b₀ s [] L [("turned", .ref T), ("base", .int base tb), ("bag", .ref l)] [bagF b₀ T [], cellX b₀ c, bagF b₀ l ns] s'
 ·intro Q' hQ
  refine wpAny_Assign_Name ?_
  refine PyProof.Rows.List_ ?_
  exact spliced_nil (H1.newB fun s₂ T fT H₂ => H₂.st fun s3 H3 => hQ _ ⟨T, fT, H3⟩)
 clear H1
 intro s₂ ⟨T, fT, H₂⟩
 refine seq_sc ?P ?_ ?_
 case P => exact fun s' => Sc w mg mb b₀ s [] L [("turned", .ref T)] [bagF b₀ T (backL ns base)] s'
 ·intro Q' hQ
  refine wpAny_For (H₂.sizes R.hh in2 rfl F.lt (by have := F.len; lia) fun s3 D fD H3 => out_none' ?_)
  clear H₂
  obtain ⟨vs, kk, eD, zD, qD⟩ := (H3.get in0 : IntsOn b₀ s3.heap D (sortU ns)).on
  replace H3 := Sc.weak (Pre := []) (f' := lstF b₀ D vs kk) H3 rfl eD
  refine for_sc _ (fun i => [lstF b₀ D vs kk, bagF b₀ T (((sortU ns).take i).flatMap (bpart ns base)), cellX b₀ c, bagF b₀ l ns]) R.hh (fun i s' H => H.get in0) H3 (fun i v s' X hi hv H => ?_) (fun s' H => wpAny_execs_nil (hQ _ ?_))
  ·clear H3
   obtain ⟨size, hsize⟩ : ∃ size, (sortU ns)[i]? = some size := ⟨_, List.getElem?_eq_getElem (zD ▸ hi)⟩
   have hmem : size ∈ ns := by
    have := List.mem_of_getElem? hsize
    unfold sortU at this
    simpa using (List.mem_filter.mp this).2
   have hpos := F.pos size hmem
   have hlt := F.lt size hmem
   have hlen := F.len
   have hcs : ns.count size * size ≤ 40 := Nat.le_trans (count_le_sum size ns) F.sum
   have hcl4 : ns.count size ≤ 40 := Nat.le_trans List.count_le_length F.len
   obtain ⟨tv, htv⟩ := qD i size hsize
   refine wp_v (Option.some.inj (hv.symm.trans htv)) ?_
   obtain ⟨v₀, hC⟩ : ∃ v, CellOn b₀ s'.heap c v := H.get in3
   replace H := Sc.weak (Pre := [_, _, _]) (f' := cellF b₀ c v₀) H rfl hC
   have hcl : ∀ {e : Env}, e.cells = [(("size" : Str), (L + 1 : Nat))] → e.cells.lookup ("size" : Str) = some c := fun h => by rw [h, ← hc]; rfl
   refine wpAny_assign_Name (Sc.stc (Pre := [_, _, _]) H fc (fun s4 H4 => ?_) (hcl rfl))
   clear H hC
   rw [parts_step hsize]
   have pl := parts_len (f := bpart ns base) (fun x hx => bpart_len F hx) i
   have pt := bpart_len F hmem
   generalize ((sortU ns).take i).flatMap (bpart ns base) = ps at *
   refine cutQ fun Q₁ h₁ => ?_
   refine seq_sc ?P ?_ ?_
   case P => exact fun s5 => ∃ Sx, Sc w mg mb b₀ s [] L [("same", .ref Sx), ("turned", .ref T), ("base", .int base tb), ("bag", .ref l)] [bagF b₀ Sx (List.replicate (ns.count size) size), X, lstF b₀ D vs kk, bagF b₀ T ps, cellF b₀ c (some (.int (size : Nat) tv)), bagF b₀ l ns] s5
   ·intro Q' hQ
    obtain ⟨_, _, vb, kb, eb, xb⟩ : BagOn b₀ s4.heap l ns := H4.get in4
    refine comp_assign (mg := mg) (mb := mb) (b₀ := b₀) (s₀ := s) (cl := [("size", c)]) (by subst hc; rfl) (by decide) rfl (by decide) (H4.loc (v := .ref l) rfl ?_)
    refine H4.comp eb (fun D => bagF b₀ D (List.replicate (ns.count size) size)) (fun ι => rfl) ?_ fun D' s5 ι H5 => hQ _ ⟨D', H5⟩
    intro D C' I s5 Z
    exact same_loop R.hh H4.S eb xb (H4.get in3) rfl Z F.lt (Nat.le_trans ‹_› (by decide)) rfl rfl rfl
   clear H4
   intro s5 ⟨Sx, H5⟩
   refine ex_cons (ex_If (wpAny_isTrue_Compare1 (wpAny_BinOp (H5.cel in4 (H5.loc (v := .int base tb) rfl (mod_nat rfl rfl (by lia) (test_zero ?_))) (hcl rfl)))))
   replace H5 := (H5.tok (s5.toks + 1)).tok (s5.toks + 1 + 1)
   by_cases hm0 : size % base = 0
   ·refine ite_t (by simpa using hm0) ?_
    have hq : size = base * (size / base) := by have := Nat.div_add_mod size base; lia
    have hq1 : 1 ≤ size / base := Nat.div_pos (Nat.le_of_dvd hpos (Nat.dvd_of_mod_eq_zero hm0)) (Nat.le_of_lt ‹_›)
    have hq2 : size / base ≤ size := Nat.div_le_self _ _
    obtain ⟨_, _, vr, kr, er, xr⟩ : BagOn b₀ s5.heap Sx (List.replicate (ns.count size) size) := H5.get in0
    have zr : vr.size = ns.count size := xr.1.trans List.length_replicate
    replace H5 := Sc.weak (Pre := []) (f' := lstF b₀ Sx vr kr) H5 rfl er
    refine ex_cons (wpAny_For (H5.loc (v := .ref Sx) rfl (out_none' ?_)))
    refine for_sc [("turned", .ref T), ("base", .int base tb), ("bag", .ref l)] (fun e => [lstF b₀ Sx vr kr, X, lstF b₀ D vs kk, bagF b₀ T (ps ++ (List.replicate e (List.replicate base (size / base))).flatten), cellF b₀ c (some (.int (size : Nat) tv)), bagF b₀ l ns]) R.hh (fun e s' H => H.get in0)
     (Sc.weak (Pre := [_, _, _]) (f' := bagF b₀ T (ps ++ (List.replicate 0 (List.replicate base (size / base))).flatten)) (H5.vars (V' := [("turned", .ref T), ("base", .int base tb), ("bag", .ref l)]) rfl) rfl (by simpa using (H5.get in3 : BagOn b₀ s5.heap T ps))) (fun e v s' X' he hv H => ?_) (fun s' H => wpAny_execs_nil (wpAny_execs_nil (wpAny_execs_nil (h₁ _ _ ⟨.inl rfl, ?_⟩))))
    ·clear H5
     have he' : e < ns.count size := by lia
     obtain ⟨tp, htp⟩ := xr.2 e size (by rw [List.getElem?_replicate, if_pos he'])
     refine wp_v (Option.some.inj (hv.symm.trans htp)) ?_
     have hlf : ((List.replicate e (List.replicate base (size / base))).flatten).length ≤ 40 * 4 := by
      rw [List.length_flatten, List.map_replicate, List.sum_replicate_nat, List.length_replicate]
      exact Nat.mul_le_mul (by lia) hb4
     refine cutQ fun Q2 h₂ => ?_
     refine wpAny_assign_Name (H.st fun s8 H8 => h₂ _ _ ?_)
     refine cutQ fun Q3 h₃ => ?_
     clear H
     refine ex_cons (wpAny_AugAssign_Name (H8.lod (v := .ref T) rfl ?_))
     refine wpAny_Call_NameR (H8.top (v := .ref 269) (by k_is) (callWith_K H8.ck (by k_is) ?_))
     refine spliced_cons (H8.loc (v := .str (sp size) tp) rfl (spliced_cons ?_))
     refine wpAny_BinOp (wpAny_BinOp ?_)
     refine PyProof.Rows.List_ ?_
     refine spliced_cons (wpAny_BinOp (H8.cel (List.mem_cons_of_mem _ in4) (H8.loc (v := .int base tb) rfl (div_nat rfl rfl (by lia) (Nat.le_trans ‹_› (by decide)) (spliced_nil ?_))) (hcl rfl)))
     refine Sc.newI [(size / base, _)] (H8.tok _) (Nat.le_of_ble_eq_true rfl) fun s9 r1 ι H9 => ?_
     refine wpAny_BinOp (H9.loc (v := .int base tb) rfl (wpAny_Constant_int (k := 0) (pos := ⟨182, 27, 182, 28⟩) (sub_nat (a := base) (b := 1) (Nat.le_of_lt ‹_›) ?_)))
     refine ((H9.tok _).tok _).mul1 (l := r1) (x := size / base) (more := base - 1) in0 (by lia) fun sA r2 ι HA => ?_
     refine PyProof.Rows.List_ ?_
     refine spliced_cons (wpAny_Constant_int (k := 0) (pos := ⟨182, 27, 182, 28⟩) (spliced_cons (wpAny_Constant_int (k := 0) (pos := ⟨182, 27, 182, 28⟩) (spliced_nil ?_))))
     refine Sc.newI [(127, _), (9, _)] ((HA.tok _).tok _) (Nat.le_of_ble_eq_true rfl) fun sB r3 ι HB => ?_
     refine HB.addLI (l := r2) (ns := List.replicate (base - 1) (size / base)) (ms := [127, 9]) in1 in0 (by simp; lia) fun sC r4 ι HC => ?_
     clear H8 H9 HA HB
     refine spliced_cons (HC.loc (v := .int base tb) rfl (spliced_nil ⟨HC.ck, ?_⟩))
     obtain ⟨vq, kq, eq, zq, qq⟩ := (HC.get in0 : IntsOn b₀ sC.heap r4 (List.replicate (base - 1) (size / base) ++ [127, 9])).on
     refine cut_stop (N := size) (u := size / base) HC.S ((R.le (k := 7) (by decide)).deep) ⟨_, eq, rfl, _, rfl⟩ (fun i hi => qq i _ (by rw [List.getElem?_append_left (by simpa using hi), List.getElem?_replicate, if_pos hi])) (qq _ 127 (by rw [List.getElem?_append_right (by simp)]; simp)) (qq _ 9 (by rw [List.getElem?_append_right (by simp), List.length_replicate, show base - (base - 1) = 1 by lia]; rfl)) (by rw [zq]; simp; lia) hq hq1 (by lia) (Nat.le_of_lt ‹_›) (by lia) fun sD pc SD kD pcD fpc => ?_
     have HD := HC.new ⟨SD, kD⟩ (bagF b₀ pc _) pcD (al1 fpc)
     refine Sc.iaddB (Pre := [_, _, _, _, _, _, _, _, _]) HD in0 fT (by rw [List.length_append, List.length_replicate]; lia) fun sE HE => HE.st fun sF HF => wpAny_execs_nil (h₃ _ _ ⟨.inl rfl, ?_⟩)
     rw [List.replicate_succ', List.flatten_append, List.flatten_singleton, ← List.append_assoc]
     exact (HF.sub (.cons _ (.cons _ (.cons _ (.cons _ (.cons _ (.refl _))))))).vars rfl
    ·rw [zr] at H
     rw [show bpart ns base size = (List.replicate (ns.count size) (List.replicate base (size / base))).flatten from by unfold bpart; rw [if_pos hm0]]
     exact Sc.weak (Pre := [_, _, _]) (f' := cellX b₀ c) (H.sub (.cons _ (.refl _))) rfl ⟨_, H.get in4⟩
   ·refine ite_f (by simpa using hm0) ?_
    have hul := upL_len base hb2 (ns.count size) (ns.count size) size
    refine ex_cons (wpAny_While (out_none (codeAny_whileLoop (fun n s'' => ∃ Sx sz g Y, Sc w mg mb b₀ s [] L [("same", .ref Sx), ("turned", .ref T), ("base", .int base tb), ("bag", .ref l)] [bagF b₀ Sx (List.replicate n sz), X, lstF b₀ D vs kk, bagF b₀ T (ps ++ Y), cellF b₀ c (some (.int (size : Nat) tv)), bagF b₀ l ns] s'' ∧
     Y ++ upL base g n sz = upL base (ns.count size) (ns.count size) size ∧ n ≤ g ∧ n * sz ≤ 40 ∧ 1 ≤ sz ∧ n ≤ 40) ?_ (ns.count size) (exI4 Sx size (ns.count size) [] ⟨by rw [List.append_nil]; exact H5, rfl, Nat.le_refl _, hcs, hpos, hcl4⟩))))
    clear H5
    intro n s'' hI
    refine cutW fun Q2 E₂ h₂ => ?_
    refine exE4 hI fun Sx sz g Y hI => ?_
    obtain ⟨H, hY, hg, hns, hz1, hn40⟩ := hI
    refine wpAny_isTrue_Compare1 (H.loc (v := .ref Sx) rfl ?_)
    refine PyProof.Rows.List_ ?_
    refine spliced_nil (H.newV (Nat.le_of_ble_eq_true rfl) fun sA e0 ι HA => ?_)
    clear H
    obtain ⟨_, _, vx, kx, ex, xx⟩ : BagOn b₀ sA.heap Sx (List.replicate n sz) := HA.get in1
    have zx : vx.size = n := xx.1.trans List.length_replicate
    have hun : A.units + 3 < cLine := by have := R.un; rw [cLine_is]; lia
    by_cases h0 : n = 0
    ·subst h0
     refine ne_lsts (e := fun ι => true) ⟨_, ex, rfl, _, rfl⟩ ⟨_, HA.get in0, rfl, _, rfl⟩ zx (by exact hun) (fun k h1 h2 => absurd h2 (by simp)) ?_
     rw [zx]
     walk1
     refine h₂ _ _ ?_
     refine ite_f (Bool.false_ne_true) ?_
     refine wpAny_execs_nil (wpAny_execs_nil (wpAny_execs_nil (h₁ _ _ ⟨.inl rfl, ?_⟩)))
     rw [show bpart ns base size = upL base (ns.count size) (ns.count size) size from by unfold bpart; rw [if_neg hm0], ← hY, show upL base g 0 sz = [] from by cases g <;> rfl, List.append_nil]
     exact (Sc.weak (Pre := [_, _, _]) (f' := cellX b₀ c) (HA.sub (.cons _ (.cons _ (.refl _)))) rfl ⟨_, HA.get in5⟩).vars rfl
    ·refine ne_lens ⟨_, ex, rfl, _, rfl⟩ ⟨_, HA.get in0, rfl, _, rfl⟩ (by rw [zx]; simpa using h0) (by exact hun) ?_
     walk1
     refine h₂ _ _ ?_
     refine ite_t rfl ?_
     refine cutW fun Q3 E₃ h₃ => ?_
     obtain ⟨t0, ht0⟩ := xx.2 0 sz (by rw [List.getElem?_replicate, if_pos (by lia)])
     have hsz40 : sz ≤ 40 := Nat.le_trans (Nat.le_mul_of_pos_left _ (Nat.pos_of_ne_zero ‹_›)) hns
     have hbz : base * (sz + 1) ≤ 4 * 41 := Nat.mul_le_mul hb4 (Nat.lt_of_le_of_lt ‹_› (by decide))
     have hnz : n * (sz + 1) = n * sz + n := by rw [Nat.mul_add, Nat.mul_one]
     refine seq_sc ?P ?_ ?_
     case P => exact fun s' => ∃ f r, Sc w mg mb b₀ s [] L [("rest", .ref r), ("same", .ref f), ("turned", .ref T), ("base", .int base tb), ("bag", .ref l)] [bagF b₀ f (List.replicate (n / base) (base * sz)), bagF b₀ r (List.replicate (n % base) sz), X, lstF b₀ D vs kk, bagF b₀ T (ps ++ Y), cellF b₀ c (some (.int (size : Nat) tv)), bagF b₀ l ns] s'
     ·intro Q' hQ
      refine PyProof.Rows.Assign_Tuple ?_
      refine wpAny_Call_NameR (HA.top (v := .ref 274) (by k_is) (callWith_K HA.ck (by k_is) ?_))
      refine spliced_cons (HA.loc (v := .ref Sx) rfl (spliced_cons ?_))
      refine wpAny_Call_NameR (HA.bi (v := .builtin "len") (by k_is) (by decide +kernel) (callWith_builtin rfl (evalArgs_plain ?_)))
      refine spliced_cons (Subscript_Constant (HA.loc (v := .ref Sx) rfl (wpAny_Constant_int ⟨"list", _, slot_list_getitem.lookup, ⟨_, ex, rfl⟩, lst_item (j := 0) (x := .str (sp sz) t0) ex rfl (Nat.zero_le _) ht0 (spliced_nil ?_)⟩)))
      refine PySem.P.len_str (by rw [sp_len]; lia) ?_
      rw [sp_len]
      refine spliced_cons ((HA.tok _).loc (v := .int base tb) rfl (spliced_nil ⟨HA.ck, ?_⟩))
      refine (HA.tok _).laid ((R.le (k := 25) (by decide)).deep) in1 (Nat.pos_of_ne_zero ‹_›) hz1 (Nat.le_of_lt ‹_›) (by lia) (by lia) (Nat.le_trans ‹_› (by decide)) fun s6 Tu f r ι ι hTu H6 => ?_
      exact (H6.sub (.cons_cons _ (.cons_cons _ (.cons _ (.cons _ (.refl _)))))).ass2 R.hh hTu fun s7 H7 => hQ _ ⟨f, r, H7.vars rfl⟩
     clear HA
     intro s6 ⟨f, r, H6⟩
     have hyl := congrArg List.length hY
     rw [List.length_append] at hyl
     have hmod : n % base ≤ n := Nat.mod_le _ _
     refine ex_cons (wpAny_AugAssign_Name (H6.lod (v := .ref T) rfl (H6.loc (v := .ref r) rfl ?_)))
     refine Sc.iaddB (Pre := [_, _, _, _]) H6 in1 fT (by rw [List.length_append, List.length_replicate]; lia) fun s8 H8 => H8.st fun s9 H9 => wpAny_execs_nil ?_
     obtain ⟨g', rfl⟩ := pred_of (n := g) (by lia)
     have hd : n / base < n := Nat.div_lt_self (Nat.pos_of_ne_zero ‹_›) hb2
     have hdm : n / base * (base * sz) ≤ n * sz := by rw [← Nat.mul_assoc]; exact Nat.mul_le_mul_right _ (Nat.div_mul_le_self n base)
     refine h₃ _ _ ⟨n / base, hd, exI4 f (base * sz) g' (Y ++ List.replicate (n % base) sz) ⟨?_, ?_, by lia, (Nat.le_trans ‹_› ‹_›), Nat.le_trans hz1 (Nat.le_mul_of_pos_left _ (Nat.le_of_lt ‹_›)), by lia⟩⟩
     ·rw [← List.append_assoc]
      exact (H9.sub (.cons_cons _ (.cons _ (.refl _)))).vars rfl
     ·rw [← hY, upL_s, if_neg h0, List.append_assoc]
  ·rw [zD, List.take_length] at H
   exact (H.sub (.cons _ (.cons_cons _ (.cons _ (.cons _ (.refl _)))))).vars rfl
 clear H₂
 intro s3 H3
 exact ex_cons (wpAny_Return_some (H3.loc (v := .ref T) rfl (h₀ _ _ (hret _ _ H3.S H3.K (H3.get in0) fT))))
end
end Mine
namespace Mine
theorem rep_ints {t : Tok} {n : Nat} {z : Int} (hz : z = (n : Int)) : List.foldl (fun x1 x2 => x1 ++ x2) #[] (List.replicate (if (#[Value.int 0 t] : Array Value).isEmpty = true then 0 else z.toNat) #[Value.int 0 t]) = (List.replicate n (Value.int 0 t)).toArray := by
 subst hz
 rw [if_neg (by simp), Int.toNat_natCast, rep_foldV]
 simp
set_option tactic.hygienic true in
theorem rep_on {b₀ h : Heap} {T : Addr} {t : Tok} {n k : Nat} (bT : b₀.get? T = none) (lT : @LT.lt Nat _ 154 T) (e : h.get? T = some (lstO (List.replicate n (Value.int 0 t)).toArray k)) : IntsOn b₀ h T (List.replicate n 0) :=
 ⟨bT, lT, _, _, e, by simp, fun i m hm => by
  rw [List.getElem?_replicate] at hm
  split at hm
  ·cases hm
   rename_i h
   exact ⟨t, by simp [h]⟩
  ·cases hm⟩
section
variable {w : World} {mg mb : NM} {b₀ : Heap} {s₀ s s' : Shared} {A : Around} {E : VP} {L l T : Addr} {env : Env}
theorem due_k {items : Array Value} {kk : Nat} {ps : List (Nat × Nat)} {base : Nat} {way : Way} {tb tw : Tok} {Q : VP} (S : Sit w mg mb b₀ s) (R : Rm A 10) (hl : s.heap.get? l = some (lstO items kk)) (hz : items.size = ps.length)
  (ht : ∀ (i : Nat) (p : Nat × Nat), ps[i]? = some p → ∃ (T : Addr) (t u : Tok), items[i]? = some (.ref T) ∧ s.heap.IsTuple T #[.int (p.1 : Nat) t, .int (p.2 : Nat) u]) (O : Ofs ps base) (nz : ∃ x ∈ ps.foldl (dstep base way) (List.replicate (7 * base) 0), x ≠ 0)
  (hret : ∀ s' T, Sit w mg mb b₀ s' → Kp [] s s' → IntsOn b₀ s'.heap T (dueL ps base way) → s.heap.get? T = none → Q (.ref T) s') :
  wpAny (model PW w) A (call (.ref 291) [.ref l, .int base tb, .str way.str tw]) Q E s := by
 have hb2 := O.b2
 have hb4 := O.b4
 refine wpAny_call ?_
 refine enter_b [] (binds := [("often", .ref l), ("base", .int base tb), ("way", .str way.str tw)]) S (R.dl (k := 0) (by decide)) (by k_is) (by k_is) (BindsTo.of_eq rfl) (locs rfl) ?_
 intro L s₁ B1 k₁
 refine cutQ fun Q0 h₀ => ?_
 have H1 : Sc w mg mb b₀ s [] L [("way", .str way.str tw), ("base", .int base tb), ("often", .ref l)] [] s₁ := Sc.of B1 (fun x v e => e) S (List.forall_mem_nil _) List.Pairwise.nil
 clear B1 k₁
 refine ex_cons (wpAny_Assign_Name (wpAny_BinOp (PyProof.Rows.List_ (spliced_cons (wpAny_Constant_int (k := 0) (pos := ⟨182, 27, 182, 28⟩) (spliced_nil (lst_new (H1.tok (s₁.toks + 1)).S (Nat.le_of_ble_eq_true rfl) fun s₂ r S₂ k₂ hr nr br lr => ?_)))))))
 have H₂ := (H1.tok (s₁.toks + 1)).grow ⟨S₂, k₂⟩
 refine wpAny_BinOp (wpAny_Constant_int (k := 0) (pos := ⟨182, 27, 182, 28⟩) ((H₂.tok (s₂.toks + 1)).loc (v := .int base tb) rfl (mul_nat (a := 7) rfl rfl (by decide) ?_)))
 have H3 := H₂.tok (s₂.toks + 1 + 1)
 refine lst_mul H3.S hr (by lia) (by lia) (by simp; lia) fun s4 T S4 k₄ hT nT bT lT => ?_
 have f0 := H3.isNew nT lT
 rw [show (List.toArray [Value.int 0 s₁.toks]) = #[Value.int 0 s₁.toks] from rfl, rep_ints (n := 7 * base) rfl] at hT
 have H4 := H3.new ⟨S4, k₄⟩ (intsF b₀ T (List.replicate (7 * base) 0)) (rep_on bT lT hT) (al1 nT)
 refine H4.st fun s5 H5 => ?_
 clear H4 H3 H₂ hr
 have dl : ∀ i, ((ps.take i).foldl (dstep base way) (List.replicate (7 * base) 0)).length = 7 * base := fun i => (steps_len ..).trans (List.length_replicate ..)
 refine ex_cons (wpAny_For (H5.loc (v := .ref l) rfl (out_none' (for_sc _ (fun i => [intsF b₀ T ((ps.take i).foldl (dstep base way) (List.replicate (7 * base) 0))]) R.hh (fun i s' H => H.K.lstO S hl List.not_mem_nil) H5 (fun i v s' X hi hv H => ?_) (fun s' H => ?_) ?_))))
 ·have hi' : i < ps.length := hz ▸ hi
  obtain ⟨T', t, u, hv', hT'⟩ := ht i ps[i] (List.getElem?_eq_getElem hi')
  refine wp_v (Option.some.inj (hv.symm.trans hv')) ?_
  refine H.ass2 R.hh (H.K.tup0 S hT') fun s6 H6 => ?_
  clear H H5
  have hd := dl i
  have hnext : (ps.take (i + 1)).foldl (dstep base way) (List.replicate (7 * base) 0) = dstep base way ((ps.take i).foldl (dstep base way) (List.replicate (7 * base) 0)) ps[i] := by
   rw [List.take_add_one, List.getElem?_eq_getElem hi', List.foldl_append]; rfl
  rw [hnext]
  generalize (ps.take i).foldl (dstep base way) (List.replicate (7 * base) 0) = d at H6 hd
  have hp1 := O.p1 _ (List.getElem_mem hi')
  have hp6 := O.p6 _ (List.getElem_mem hi')
  have hpm := O.pm _ (List.getElem_mem hi')
  generalize ps[i] = p at hp1 hp6 hpm H6
  clear hT' hnext
  refine cutQ fun Q₁ h₁ => ?_
  cases way with
  | plain =>
   refine ex_cons (ex_If (wpAny_isTrue_Compare1 (H6.loc (v := .str Way.plain.str tw) rfl (test_str false ?_))))
   refine ite_f (by decide) ?_
   refine ex_cons (ex_If (isTrue_and (wpAny_isTrue_Compare1 ((H6.tok _).loc (v := .str Way.plain.str tw) rfl (test_str false ?_)))))
   refine ite_f (by decide) (ite_f (by decide) ?_)
   refine ex_cons (ex_If (wpAny_isTrue_Compare1 ((H6.tok _).loc (v := .str Way.plain.str tw) rfl (test_str false ?_))))
   refine ite_f (by decide) ?_
   refine wpAny_execs_nil (wpAny_execs_nil (wpAny_execs_nil ?_))
   exact cut_end h₁ (last_aug ((H6.tok _).tok _) f0 rfl rfl rfl (by lia) (by lia) rfl rfl)
  | there =>
   refine ex_cons (ex_If (wpAny_isTrue_Compare1 (H6.loc (v := .str Way.there.str tw) rfl (test_str true ?_))))
   refine ite_t rfl ?_
   have H7 := H6.tok (s6.toks + 1)
   have hb6 : base * p.1 < 7 * base := by rw [Nat.mul_comm]; exact Nat.mul_lt_mul_of_pos_right (Nat.lt_of_le_of_lt ‹_› (by decide)) (Nat.le_of_lt ‹_›)
   refine ex_cons (aug_ints (Pre := [X]) (Post := []) H7 rfl f0 (by lia) (H7.bin (v1 := .int base tb) rfl rfl (mul_nat rfl rfl (Nat.le_trans ‹_› (by decide)) ⟨_, _, rfl, by lia, H7.tok _, (H7.tok _).bin (v2 := .int base tb) rfl rfl (div_nat rfl rfl (by lia) (Nat.le_trans ‹_› (by decide)) ⟨_, _, rfl, (H7.tok _).tok _, fun s8 H8 => ?_⟩)⟩)))
   refine ex_cons (wpAny_Assign_Name (H8.bin (v2 := .int base tb) rfl rfl (mod_nat rfl rfl (by lia) ((H8.tok _).st fun s9 H9 => ?_))))
   refine ex_cons (wpAny_While (out_none (codeAny_whileLoop (fun n s'' => ∃ μ fu tσ tμ, Sc w mg mb b₀ s [] L [("size", .int (n : Nat) tσ), ("many", .int (μ : Nat) tμ), ("due", .ref T), ("way", .str Way.there.str tw), ("base", .int base tb), ("often", .ref l)] [X, intsF b₀ T (addAt d (base * p.1) (p.2 / base))] s'' ∧
    dthere base fu n μ = dthere base p.1 p.1 (p.2 % base) ∧ 1 ≤ n ∧ n ≤ fu ∧ n * μ ≤ 9 ∧ n ≤ 6) ?_ p.1 (exI4 _ p.1 _ _ ⟨H9.vars rfl, rfl, hp1, Nat.le_refl _, Nat.le_trans (Nat.mul_le_mul_left _ (Nat.mod_le _ _)) hpm, hp6⟩))))
   clear H6 H7 H8 H9
   intro n s'' hI
   refine cutW fun Q2 E₂ h₂ => ?_
   refine exE4 hI fun μ fu tσ tμ hI => ?_
   obtain ⟨H, hd1, hn1, hnf, hnm, hn6⟩ := hI
   refine wpAny_isTrue_Compare1 (H.bin (v2 := .int base tb) rfl rfl (mod_nat rfl rfl (by lia) (test_zero (h₂ _ _ ?_))))
   have H' := (H.tok (s''.toks + 1)).tok (s''.toks + 1 + 1)
   by_cases q : n % base = 0
   ·refine ite_t (by simpa using q) (cutW fun Q3 E₃ h₃ => ?_)
    have hq : n = base * (n / base) := by have := Nat.div_add_mod n base; lia
    have hq1 : 1 ≤ n / base := Nat.div_pos (Nat.le_of_dvd hn1 (Nat.dvd_of_mod_eq_zero q)) (Nat.le_of_lt ‹_›)
    have hq2 : n / base < n := Nat.div_lt_self hn1 hb2
    have hμ : μ ≤ 9 := Nat.le_trans (Nat.le_mul_of_pos_left _ hn1) hnm
    obtain ⟨g, rfl⟩ := pred_of (n := fu) (Nat.le_trans hn1 hnf)
    refine ex_cons (Sc.swap (mg := mg) (mb := mb) (b₀ := b₀) (s₀ := s) R.hh (spliced_cons (H'.bin (v2 := .int base tb) rfl rfl (div_nat rfl rfl (by lia) (Nat.le_trans ‹_› (by decide)) (spliced_cons ((H'.tok _).bin (v2 := .int base tb) rfl rfl (mul_nat rfl rfl (Nat.le_trans ‹_› (by decide))
     (spliced_nil ⟨_, _, _, _, rfl, (H'.tok _).tok _, fun s3 H3 => ?_⟩))))))))
    refine wpAny_execs_nil (h₃ _ _ ⟨n / base, hq2, exI4 (μ * base) g _ _ ⟨H3.vars rfl, ?_, hq1, by lia, ?_, by lia⟩⟩)
    ·rw [← hd1, dthere_s, if_pos q]
    ·rw [Nat.mul_comm μ, ← Nat.mul_assoc, Nat.mul_comm (n / base) base, ← hq]; exact hnm
   ·refine ite_f (by simpa using q) ?_
    obtain ⟨g, rfl⟩ := pred_of (n := fu) (Nat.le_trans hn1 hnf)
    have hfin : dthere base p.1 p.1 (p.2 % base) = (n, μ) := by rw [← hd1, dthere_s, if_neg q]
    refine wpAny_execs_nil (wpAny_execs_nil ?_)
    exact cut_end h₁ (last_aug H' f0 rfl rfl rfl (by rw [addAt_len]; lia) (by rw [addAt_len]; lia) rfl (by show _ = addAt _ _ _; rw [hfin]))
  | back =>
   refine ex_cons (ex_If (wpAny_isTrue_Compare1 (H6.loc (v := .str Way.back.str tw) rfl (test_str false ?_))))
   refine ite_f (by decide) ?_
   have H7 := H6.tok (s6.toks + 1)
   refine ex_cons (ex_If (isTrue_and (wpAny_isTrue_Compare1 (H7.loc (v := .str Way.back.str tw) rfl (test_str true ?_)))))
   refine ite_t rfl ?_
   have H8 := H7.tok (s6.toks + 1 + 1)
   refine isTrue_and (wpAny_isTrue_Compare1 (H8.bin (v2 := .int base tb) rfl rfl (mod_nat rfl rfl (by lia) (test_zero ?_))))
   have H9 := (H8.tok (s6.toks + 1 + 1 + 1)).tok (s6.toks + 1 + 1 + 1 + 1)
   by_cases q : p.1 % base = 0
   ·refine ite_t (by simpa using q) ?_
    refine isTrue_and_nil ?_
    refine ite_t rfl ?_
    refine ex_cons (Sc.swap (mg := mg) (mb := mb) (b₀ := b₀) (s₀ := s) R.hh (spliced_cons (H9.bin (v2 := .int base tb) rfl rfl (div_nat rfl rfl (by lia) (Nat.le_trans ‹_› (by decide)) (spliced_cons ((H9.tok _).bin (v2 := .int base tb) rfl rfl (mul_nat rfl rfl ?_
     (spliced_nil ⟨_, _, _, _, rfl, (H9.tok _).tok _, fun s3 H3 => ?_⟩))))))))
    ·exact Nat.le_trans (Nat.le_mul_of_pos_left _ hp1) (Nat.le_trans ‹_› (by decide))
    refine wpAny_execs_nil (wpAny_execs_nil ?_)
    have hq6 : p.1 / base ≤ p.1 := Nat.div_le_self _ _
    exact cut_end h₁ (last_aug H3 f0 rfl rfl rfl (by lia) (by lia) rfl (by show _ = (if p.1 % base = 0 then _ else _ : List Nat); rw [if_pos q]))
   ·refine ite_f (by simpa using q) (ite_f (by decide) ?_)
    refine ex_cons (ex_If (wpAny_isTrue_Compare1 (H9.loc (v := .str Way.back.str tw) rfl (test_str true ?_))))
    refine ite_t rfl ?_
    have e0 : dstep base .back d p = dback base p.2 d p.1 p.2 := by show (if p.1 % base = 0 then _ else _ : List Nat) = _; rw [if_neg q]
    refine ex_cons (wpAny_While (out_none (codeAny_whileLoop (fun n s'' => ∃ σ fu tσ tμ d', Sc w mg mb b₀ s [] L [("size", .int (σ : Nat) tσ), ("many", .int (n : Nat) tμ), ("due", .ref T), ("way", .str Way.back.str tw), ("base", .int base tb), ("often", .ref l)] [X, intsF b₀ T d'] s'' ∧
     dback base fu d' σ n = dback base p.2 d p.1 p.2 ∧ n ≤ fu ∧ σ * n ≤ 9 ∧ σ ≤ 9 ∧ d'.length = 7 * base) ?_ p.2 (exI5 _ p.2 _ _ _ ⟨(H9.tok (s6.toks + 1 + 1 + 1 + 1 + 1)).vars rfl, rfl, Nat.le_refl _, hpm, (Nat.le_trans ‹_› (by decide)), hd⟩))))
    clear H6 H7 H8 H9
    intro n s'' hI
    refine cutW fun Q2 E₂ h₂ => ?_
    refine exE5 hI fun σ fu tσ tμ d' hI => ?_
    obtain ⟨H, hd1, hnf, hnm, hn9, hdl⟩ := hI
    refine wpAny_isTrue_Compare1 (H.loc rfl (H.loc (v := .int base tb) rfl ?_))
    walk1
    walk1
    refine h₂ _ _ ?_
    by_cases q : base ≤ n
    ·refine ite_t (by simpa using q) (cutW fun Q3 E₃ h₃ => ?_)
     obtain ⟨g, rfl⟩ := pred_of (n := fu) (by lia)
     have n1 : 1 ≤ n / base := Nat.div_pos q (Nat.le_of_lt ‹_›)
     have n2 : n / base < n := Nat.div_lt_self (by lia) hb2
     have n3 : σ * base * (n / base) ≤ 9 := Nat.le_trans (by rw [Nat.mul_assoc]; exact Nat.mul_le_mul_left _ (Nat.mul_div_le n base)) hnm
     have n4 : σ * base ≤ 9 := Nat.le_trans (Nat.le_mul_of_pos_right _ n1) n3
     have H' := H.tok (s''.toks + 1)
     refine ex_cons (aug_ints (Pre := [X]) (Post := []) H rfl f0 (by lia) (H.loc rfl ⟨_, _, rfl, by lia, H, H.bin (v2 := .int base tb) rfl rfl (mod_nat rfl rfl (by lia) ⟨_, _, rfl, H', fun s5 H5 => ?_⟩)⟩))
     refine ex_cons (Sc.swap (mg := mg) (mb := mb) (b₀ := b₀) (s₀ := s) R.hh (spliced_cons (H5.bin (v2 := .int base tb) rfl rfl (mul_nat rfl rfl (Nat.le_trans ‹_› (by decide)) (spliced_cons ((H5.tok _).bin (v2 := .int base tb) rfl rfl (div_nat rfl rfl (by lia) (by lia)
      (spliced_nil ⟨_, _, _, _, rfl, (H5.tok _).tok _, fun s3 H3 => ?_⟩))))))))
     refine wpAny_execs_nil (h₃ _ _ ⟨n / base, n2, exI5 (σ * base) g _ _ _ ⟨H3.vars rfl, ?_, by lia, n3, n4, by rw [addAt_len]; exact hdl⟩⟩)
     rw [← hd1, dback_s, if_pos q]
    ·refine ite_f (by simpa using q) ?_
     have hfin : dback base p.2 d p.1 p.2 = addAt d' σ n := by
      rw [← hd1]
      cases fu with
      | zero => rfl
      | succ g => rw [dback_s, if_neg q]
     refine wpAny_execs_nil (wpAny_execs_nil (wpAny_execs_nil (wpAny_execs_nil ?_)))
     exact cut_end h₁ (last_aug H f0 rfl rfl rfl (by lia) (by lia) rfl (e0.trans hfin).symm)
 ·rw [show (ps.take items.size) = ps from by rw [hz, List.take_length]] at H
  have dlen : (ps.foldl (dstep base way) (List.replicate (7 * base) 0)).length ≤ 28 := by have := dl ps.length; rw [List.take_length] at this; lia
  refine wpAny_execs_nil (ex_cons (wpAny_While (out_none (codeAny_whileLoop (fun n s'' => ∃ d', n = d'.length ∧ n ≤ 28 ∧ trim d' = dueL ps base way ∧ (∃ x ∈ d', x ≠ 0) ∧ Sc w mg mb b₀ s [] L [("due", .ref T), ("way", .str way.str tw), ("base", .int base tb), ("often", .ref l)] [intsF b₀ T d'] s'') ?_ _ ⟨_, rfl, dlen, rfl, nz, H⟩))))
  clear H H5
  intro n s'' hI
  refine cutW fun Q2 E₂ h₂ => ?_
  obtain ⟨d', rfl, hn, ht', hnz, H⟩ := hI
  obtain ⟨d, x, rfl⟩ : ∃ d x, d' = d ++ [x] := by
   rcases List.eq_nil_or_concat d' with rfl | ⟨d, x, rfl⟩
   ·obtain ⟨x, hx, _⟩ := hnz; cases hx
   ·exact ⟨d, x, List.concat_eq_append⟩
  rw [List.length_append] at hn
  have hd : d.length < 100000 := by have : d.length + 1 ≤ 28 := hn; lia
  have x₁ : IntsOn b₀ s''.heap T (d ++ [x]) := H.get (f := intsF b₀ T (d ++ [x])) (List.mem_cons_self ..)
  obtain ⟨vs, kv, ev, _⟩ := x₁.on
  refine wpAny_isTrue_Compare1 (Subscript_UnaryOp (H.loc rfl (wpAny_UnaryOp (wpAny_Constant_int (k := 0) (pos := ⟨182, 27, 182, 28⟩) (PySem.P.neg_int ⟨"list", _, slot_list_getitem.lookup, ⟨_, ev, rfl⟩, ints_last x₁ hd fun u => test_zero (h₂ _ _ ?_)⟩)))))
  have H' := ((H.tok (s''.toks + 1)).tok (s''.toks + 1 + 1)).tok (s''.toks + 1 + 1 + 1)
  by_cases q : x = 0
  ·subst q
   refine ite_t (by decide) ?_
   refine cutW fun Q3 E₃ h₃ => ?_
   refine ex_cons (wpAny_Expr (MethodCall_ (H'.loc rfl (meth_list_pop ev rfl rfl (ints_pop H'.S x₁ hd fun v s3 S3 k₃ x₃ => wpAny_execs_nil (h₃ _ _ ⟨d.length, by simp, d, rfl, Nat.le_of_succ_le hn, (trim_zero d).symm.trans ht', ?_, ?_⟩))))))
   ·obtain ⟨y, hy, hy0⟩ := hnz
    rcases List.mem_append.mp hy with hy | hy
    ·exact ⟨y, hy, hy0⟩
    ·exact absurd (List.mem_singleton.mp hy) hy0
   ·exact H'.upd (Pre := []) (Post := []) (f' := intsF b₀ T d) S3 k₃ (al1 ⟨List.mem_singleton_self _, f0⟩) rfl x₃
  ·refine ite_f (by simpa using q) ?_
   refine wpAny_execs_nil (ex_cons (wpAny_Return_some (H'.loc rfl (h₀ _ _ (hret _ _ H'.S H'.K ?_ f0)))))
   rw [← ht', trim_pos d q]
   exact x₁
 ·intro I i v s' Q E hv hit h
  have hi' : i < ps.length := hz ▸ (Array.getElem?_eq_some_iff.mp hv).1
  obtain ⟨T', t, u, hv', _⟩ := ht i ps[i] (List.getElem?_eq_getElem hi')
  rw [hv] at hv'; cases hv'
  exact wpAny_letOwnedTupleGo_listiter hit h
end
end Mine
namespace Mine
section
variable {U : List Addr} {w : World} {mg mb : NM} {b₀ : Heap} {s₀ s s' : Shared} {A : Around} {E : VP} {L l q dw N C q' dw' N' C' S : Addr} {V : List (Str × Value)} {F : List (Fact b₀)} {env : Env} {ns : List Nat} {st st' : WsSt} {Ts : List Addr} {ps : List (Nat × Nat)} {base : Nat} {way : Way} {tb tw : Tok} {x : Str}
theorem WsAt.kp {w' : World} {mg' mb' : NM} (S : Sit w' mg' mb' b₀ s) (k : Kp U s s') (h : ∀ a ∈ [q, dw, N, C], a ∉ U) (W : WsAt w s.heap q dw N C st) : WsAt w s'.heap q dw N C st := by
 obtain ⟨hq, hd, hN, its, hC, hI⟩ := W
 refine ⟨k.get S hq (h q in0) (by exact cn), ?_, ?_, its, ?_, hI⟩
 ·clear hq hN hC hI
  obtain ⟨a, b', c, e, f, u1, u2, u3, raw, sm, hd'⟩ := hd
  exact ⟨a, b', c, e, f, u1, u2, u3, raw, sm, k.get S hd' (h dw in1) (by exact cn)⟩
 ·clear hq hd hC hI
  obtain ⟨t, o, e, c, r⟩ := hN
  exact ⟨t, o, k.get S e (h N in2) (by rw [c]; exact cn), c, r⟩
 ·clear hq hd hN hI
  obtain ⟨o, e, c, r⟩ := hC
  exact ⟨o, k.get S e (h C in3) (by rw [c]; exact cn), c, r⟩
theorem WsAt.live {h : Heap} (W : WsAt w h q dw N C st) (a : Addr) (ha : a ∈ [q, dw, N, C]) : h.get? a ≠ none := by
 obtain ⟨hq, hd, hN, its, hC, -⟩ := W
 rcases List.mem_cons.mp ha with rfl | ha
 ·exact get_ne hq _ (List.mem_singleton_self _)
 rcases List.mem_cons.mp ha with rfl | ha
 ·clear hq hN hC
  obtain ⟨_, _, _, _, _, _, _, _, _, _, hd'⟩ := hd
  exact get_ne hd' _ (List.mem_singleton_self _)
 rcases List.mem_cons.mp ha with rfl | ha
 ·obtain ⟨_, _, e, _⟩ := hN
  exact get_ne e _ (List.mem_singleton_self _)
 ·rw [List.mem_singleton.mp ha]
  obtain ⟨_, e, _⟩ := hC
  exact get_ne e _ (List.mem_singleton_self _)
theorem WsAt.inst (W : WsAt w s.heap q dw N C st) : ∃ a b' c e f u1 u2 u3 raw sm, InstAt s.heap q (instObj 251 dw) 251 (some (wsD w a b' c e f u1 u2 u3 raw st.n st.nt N sm)) := by
 obtain ⟨hq, ⟨a, b', c, e, f, u1, u2, u3, raw, sm, hd'⟩, _, _⟩ := W
 exact ⟨a, b', c, e, f, u1, u2, u3, raw, sm, hq, rfl, rfl, hd'⟩
theorem ws_norm {expr : Bool} {Q : VP} (S : Sit w mg mb b₀ s) (W : WsAt w s.heap q dw N C st) (h : Q (.ref N) { s with toks := s.toks + 1 }) : wpAny (model PW w) A (getAttr (.ref q) "norm" expr) Q E s := by
 obtain ⟨a, b', c, e, f, u1, u2, u3, raw, sm, I⟩ := W.inst
 exact own_get S I (by k_is) (by k_is) (by k_is) (by k_is) rfl rfl h
theorem WsAt.nrm {h : Heap} (W : WsAt w h q dw N C st) : NormOn h N st.cnt st.b := by
 obtain ⟨-, -, ⟨t, hN⟩, its, hC, hI⟩ := W
 exact ⟨C, t, its, hN, hC, hI⟩
theorem equal_k {Q : VP} (S : Sit w mg mb b₀ s) (W : WsAt w s.heap q dw N C st) (W' : WsAt w s.heap q' dw' N' C' st') (R : Rm A 6)
  (hret : ∀ s', Sit w mg mb b₀ s' → Kp [] s s' → Q (.bool (decide (st.cnt = st'.cnt) && decide (st.b = st'.b))) s') : wpAny (model PW w) A (call (.ref 227) [.ref q, .ref q']) Q E s := by
 refine wpAny_call ?_
 refine enter_b [] (binds := [("self", .ref q), ("other", .ref q')]) S (R.dl (k := 0) (by decide)) (by k_is) (by k_is) (BindsTo.of_eq rfl) (locs rfl) ?_
 intro L s₁ B k₁
 have W := W.kp S k₁ (fun ι ι => List.not_mem_nil)
 have W' := W'.kp S k₁ (fun ι ι => List.not_mem_nil)
 refine ex_cons (wpAny_Return_some (wpAny_Compare1 (Attribute_name (B.loc rfl (ws_norm B.S W ?_)))))
 have B2 := B.tok (s₁.toks + 1)
 refine Attribute_name (B2.loc rfl (ws_norm B2.S W' ?_))
 have B3 := B.tok (s₁.toks + 1 + 1)
 exact norm_eq W.nrm W'.nrm (by show A.units + 3 + 1 < cLine; have := R.un; rw [cLine_is]; lia) (hret _ B3.S B3.K)
noncomputable def wsF (w : World) (b₀ : Heap) (q dw N C : Addr) (st : WsSt) : Fact b₀ :=
 ⟨fun s => WsAt w s.heap q dw N C st, [q, dw, N, C], WsAt.kp, WsAt.live⟩
theorem Sc.typed {Q : VP} (H : Sc w mg mb b₀ s₀ U L V F s) (R : Rm A 14) (hm : bagF b₀ l ns ∈ F) (hn : ns.sum + ns.length ≤ 1000) (hQ : ∀ s' q dw N C, Sc w mg mb b₀ s₀ U L V (wsF w b₀ q dw N C (wsRun (codesOf ns)) :: F) s' → Q (.ref q) s') :
  wpAny (model PW w) A (call (.ref 262) [.ref l]) Q E s :=
 typed_f H.S R (H.get hm) hn fun s' q dw N C S' k W f1 f2 f3 f4 => hQ s' q dw N C (H.new ⟨S', k⟩ (wsF w b₀ q dw N C _) W (by
  intro a ha
  rcases List.mem_cons.mp ha with rfl | ha
  ·exact f1
  rcases List.mem_cons.mp ha with rfl | ha
  ·exact f2
  rcases List.mem_cons.mp ha with rfl | ha
  ·exact f3
  rw [List.mem_singleton.mp ha]; exact f4))
theorem Sc.due {Q : VP} (H : Sc w mg mb b₀ s₀ U L V F s) (R : Rm A 10) (hm : oftF b₀ S Ts ps ∈ F) (O : Ofs ps base) (nz : ∃ x ∈ ps.foldl (dstep base way) (List.replicate (7 * base) 0), x ≠ 0) (hQ : ∀ s' D, Sc w mg mb b₀ s₀ U L V (intsF b₀ D (dueL ps base way) :: F) s' → Q (.ref D) s') :
  wpAny (model PW w) A (call (.ref 291) [.ref S, .int base tb, .str way.str tw]) Q E s := by
 obtain ⟨acc, c, e, hz, -, hp⟩ := H.get hm
 refine due_k H.S R e hz (fun i p h => ?_) O nz fun s' T S' k x nT => hQ s' T (H.new ⟨S', k⟩ (intsF b₀ T _) x (al1 nT))
 obtain ⟨T, t, u, -, h1, h2⟩ := hp i p h
 exact ⟨T, t, u, h1, h2⟩
theorem Sc.there {Q : VP} (H : Sc w mg mb b₀ s₀ U L V F s) (R : Rm A 26) (hm : bagF b₀ l ns ∈ F) (hF : Fit ns base) (hQ : ∀ s' D, Sc w mg mb b₀ s₀ U L V (bagF b₀ D (thereL ns base) :: F) s' → Q (.ref D) s') :
  wpAny (model PW w) A (call (.ref 279) [.ref l, .int base tb]) Q E s :=
 there_k H.S R (H.get hm) hF fun s' T S' k x nT => hQ s' T (H.new ⟨S', k⟩ (bagF b₀ T _) x (al1 nT))
theorem Sc.back {Q : VP} (H : Sc w mg mb b₀ s₀ U L V F s) (R : Rm A 26) (hm : bagF b₀ l ns ∈ F) (hF : Fit ns base) (hQ : ∀ s' D, Sc w mg mb b₀ s₀ U L V (bagF b₀ D (backL ns base) :: F) s' → Q (.ref D) s') :
  wpAny (model PW w) A (call (.ref 284) [.ref l, .int base tb]) Q E s :=
 back_k H.S R (H.get hm) hF fun s' T S' k x nT => hQ s' T (H.new ⟨S', k⟩ (bagF b₀ T _) x (al1 nT))
theorem Sc.equal {Q : VP} (H : Sc w mg mb b₀ s₀ U L V F s) (R : Rm A 6) (h1 : wsF w b₀ q dw N C st ∈ F) (h2 : wsF w b₀ q' dw' N' C' st' ∈ F) (hQ : ∀ s', Sc w mg mb b₀ s₀ U L V F s' → Q (.bool (decide (st.cnt = st'.cnt) && decide (st.b = st'.b))) s') :
  wpAny (model PW w) A (call (.ref 227) [.ref q, .ref q']) Q E s := by
 exact equal_k H.S (H.get h1) (H.get h2) R fun s' S' k => hQ s' (H.grow ⟨S', k⟩)
theorem Sc.sumI {Q : VP} (hh : A.handled = none) (H : Sc w mg mb b₀ s₀ U L V F s) (hm : intsF b₀ l ns ∈ F) (hQ : ∀ s' t, Sc w mg mb b₀ s₀ U L V F s' → Q (.int ((ns.sum : Nat) : Int) t) s') :
  wpAny (model PW w) A (call (.builtin "sum") [.ref l]) Q E s := by
 obtain ⟨vs, k, e, z1, q1⟩ := (H.get hm : IntsOn b₀ s.heap l ns).on
 have hi := ints_are vs.toList ns z1 fun i n h => by rw [Array.getElem?_toList]; exact q1 i n h
 obtain ⟨xs, hx⟩ : ∃ xs, vs = intItems xs := hi.allInts.items
 have hs : (preSum (numAt xs) xs.size) = ((ns.sum : Nat) : Int) := by
  rw [preSum_eq, List.take_of_length_le (by simp), ← nums_intItems, ← hx, hi.numsOf, natInts_sum]
 subst hx
 refine sum_intListG hh ⟨_, e, rfl, _, rfl⟩ fun h' tk t' hk => ?_
 rw [hs]
 exact hQ _ t' (H.grow (H.S.grow hk))
theorem ws_equal {M : Model} {pl : Sem Bool} {Q : Value × List Value → Shared → Prop} (S : Sit w mg mb b₀ s) (W : WsAt w s.heap q dw N C st) (h : Q (.ref 227, [.ref q]) s) : wpAny M A (getMethod (.ref q) "equal" pl) Q E s := by
 obtain ⟨hq, ⟨a, b', c, e, f, u1, u2, u3, raw, sm, hd'⟩, _, _⟩ := W
 exact method_own (ga := "object.__getattribute__") (od := some (wsD w a b' c e f u1 u2 u3 raw st.n st.nt N sm)) (S.C.K.keeps S.k) ⟨hq, rfl, rfl, hd'⟩ (by k_is) (by decide +kernel) (by k_is) (by k_is) (by k_is) rfl h
end
end Mine
namespace Mine
noncomputable def stOf (sm : Nat) (due : List Nat) : WsSt := ⟨sm + due.sum, due.sum, 0, due⟩
theorem dropWhile_len {α : Type} (p : α → Bool) : ∀ l : List α, (l.dropWhile p).length ≤ l.length
 | [] => Nat.le_refl _
 | a :: l => by
  rw [List.dropWhile_cons]
  split
  ·exact Nat.le_succ_of_le (dropWhile_len p l)
  ·exact Nat.le_refl _
theorem dueL_len (ps : List (Nat × Nat)) (base : Nat) (way : Way) : (dueL ps base way).length ≤ 7 * base := by
 unfold dueL trim
 rw [List.length_reverse]
 refine Nat.le_trans (dropWhile_len _ _) ?_
 rw [List.length_reverse, steps_len, List.length_replicate]
 exact Nat.le_refl _
section
variable {U : List Addr} {w : World} {mg mb : NM} {b₀ : Heap} {s₀ s s' : Shared} {A : Around} {E : VP} {L l q dw N C q' dw' N' C' TL TR : Addr} {V : List (Str × Value)} {F : List (Fact b₀)} {env : Env} {st st' : WsSt} {M : Model}
theorem Sc.norm {p1 p2 : Pos} {nm : Str} {Q : VP} (H : Sc w mg mb b₀ s₀ U L V F s) (hv : V.lookup nm = some (.ref q)) (hm : wsF w b₀ q dw N C st ∈ F) (h : ∀ k, Sc w mg mb b₀ s₀ U L V F { s with toks := k } → Q (.ref N) { s with toks := k })
  (hl : autoParam (env.locals = L) tR) (hk : autoParam (env.scope.kind = .function) tR) (h1 : autoParam (env.kindOf nm = some .local) tR) (d1 : autoParam ((nm == ("__debug__" : Str)) = false) tD) : wpAny (model PW w) A (eval (.Attribute (.Name nm p1) "norm" p2) env) Q E s := by
 obtain ⟨a, b', c, e, f, u1, u2, u3, raw, sm, I⟩ := (H.get hm : WsAt w s.heap q dw N C st).inst
 exact Attribute_name (H.loc hv (own_get H.S I (by k_is) (by k_is) (by k_is) (by k_is) rfl rfl (h _ (H.tok _))) hl hk h1 d1)
theorem Sc.nt {p1 p2 : Pos} {nm : Str} {Q : VP} (H : Sc w mg mb b₀ s₀ U L V F s) (hv : V.lookup nm = some (.ref q)) (hm : wsF w b₀ q dw N C st ∈ F) (h : ∀ t k, Sc w mg mb b₀ s₀ U L V F { s with toks := k } → Q (.int (st.nt : Nat) t) { s with toks := k })
  (hl : autoParam (env.locals = L) tR) (hk : autoParam (env.scope.kind = .function) tR) (h1 : autoParam (env.kindOf nm = some .local) tR) (d1 : autoParam ((nm == ("__debug__" : Str)) = false) tD) : wpAny (model PW w) A (eval (.Attribute (.Name nm p1) "nt" p2) env) Q E s := by
 obtain ⟨a, b', c, e, f, u1, u2, u3, raw, sm, I⟩ := (H.get hm : WsAt w s.heap q dw N C st).inst
 exact Attribute_name (H.loc hv (own_get H.S I (by k_is) (by k_is) (by k_is) (by k_is) rfl rfl (h _ _ (H.tok _))) hl hk h1 d1)
theorem Sc.n {p1 p2 : Pos} {nm : Str} {Q : VP} (H : Sc w mg mb b₀ s₀ U L V F s) (hv : V.lookup nm = some (.ref q)) (hm : wsF w b₀ q dw N C st ∈ F) (h : ∀ t k, Sc w mg mb b₀ s₀ U L V F { s with toks := k } → Q (.int (st.n : Nat) t) { s with toks := k })
  (hl : autoParam (env.locals = L) tR) (hk : autoParam (env.scope.kind = .function) tR) (h1 : autoParam (env.kindOf nm = some .local) tR) (d1 : autoParam ((nm == ("__debug__" : Str)) = false) tD) : wpAny (model PW w) A (eval (.Attribute (.Name nm p1) "n" p2) env) Q E s := by
 obtain ⟨a, b', c, e, f, u1, u2, u3, raw, sm, I⟩ := (H.get hm : WsAt w s.heap q dw N C st).inst
 exact Attribute_name (H.loc hv (own_get H.S I (by k_is) (by k_is) (by k_is) (by k_is) rfl rfl (h _ _ (H.tok _))) hl hk h1 d1)
theorem ne_said {cnt : List Nat} {b nt n : Nat} {u1 u2 v1 v2 : Tok} {Q : VP} (hL : s.heap.IsTuple TL #[.ref N, .int (nt : Nat) u1, .int (n : Nat) u2]) (hR : s.heap.IsTuple TR #[.ref N', .int (nt : Nat) v1, .int (n : Nat) v2]) (h1 : NormOn s.heap N cnt b) (h2 : NormOn s.heap N' cnt b) (hu : A.units + 2 < cLine) (h : Q (.bool false) s) :
  wpAny (model PW w) A (compareOp .NotEq (.ref TL) (.ref TR)) Q E s := by
 refine SeqAt.RcNeAt.tuples (e := fun ι => true) hL hR (by lia) (fun j h1' h2' => ?_) PW w E Q ?_
 ·rcases j with _ | _ | _ | j
  rotate_left 3
  exact absurd h1' (Nat.not_lt.mpr (Nat.le_add_left 3 j))
  ·have e := norm_eqAt (A := A.in1) h1 h2 (by show A.units + 1 + 1 < cLine; lia)
   rw [decide_eq_true rfl, decide_eq_true rfl] at e
   exact e
  ·have e := SeqAt.EqAt.int_int (A := A.in1) (s := s) (nt : Int) u1 (nt : Int) v1
   rw [beq_self_eq_true] at e
   exact e
  ·have e := SeqAt.EqAt.int_int (A := A.in1) (s := s) (n : Int) u2 (n : Int) v2
   rw [beq_self_eq_true] at e
   exact e
 ·exact h
end
end Mine
namespace Mine
noncomputable def Tr (l : List Nat) : Prop := ∀ n, l.length = n + 1 → l.getD n 0 ≠ 0
theorem getD_over {l : List Nat} {k : Nat} (h : l.length ≤ k) : l.getD k 0 = 0 := by rw [List.getD_eq_getElem?_getD, List.getElem?_eq_none h]; rfl
theorem tr_uniq {a b : List Nat} (ha : Tr a) (hb : Tr b) (h : ∀ k, a.getD k 0 = b.getD k 0) : a = b := by
 have key : ∀ {a b : List Nat}, Tr b → (∀ k, a.getD k 0 = b.getD k 0) → ¬ a.length < b.length := fun {a b} hb h q => by
  obtain ⟨n, hn⟩ : ∃ n, b.length = n + 1 := ⟨b.length - 1, by lia⟩
  exact hb n hn ((h n).symm.trans (getD_over (by lia)))
 have hl : a.length = b.length := by
  have h1 := key hb h
  have h2 := key ha fun k => (h k).symm
  lia
 refine List.ext_getElem hl fun i h1 h2 => ?_
 have := h i
 rw [List.getD_eq_getElem?_getD, List.getD_eq_getElem?_getD, List.getElem?_eq_getElem h1, List.getElem?_eq_getElem h2] at this
 exact this
theorem getD_app {a b : List Nat} {k : Nat} (h : ∀ x ∈ b, x = 0) : (a ++ b).getD k 0 = a.getD k 0 := by
 rw [List.getD_eq_getElem?_getD, List.getD_eq_getElem?_getD]
 rcases Nat.lt_or_ge k a.length with q | q
 ·rw [List.getElem?_append_left q]
 ·rw [List.getElem?_append_right q, List.getElem?_eq_none q]
  cases e : b[k - a.length]? with
  | none => rfl
  | some x => rw [h x (List.mem_of_getElem? e)]; rfl
theorem trim_spec : ∀ (n : Nat) (d : List Nat), d.length = n → Tr (trim d) ∧ ∀ k, (trim d).getD k 0 = d.getD k 0
 | 0, d, h => by
  rw [List.length_eq_zero_iff.mp h]
  exact ⟨fun n h => by simp [trim] at h, fun ι => rfl⟩
 | n + 1, d, h => by
  rcases List.eq_nil_or_concat d with rfl | ⟨d', x, rfl⟩
  ·simp at h
  ·rw [List.concat_eq_append] at h ⊢
   have hn : d'.length = n := by simpa using h
   by_cases q : x = 0
   ·subst q
    obtain ⟨h1, h2⟩ := trim_spec n d' hn
    rw [trim_zero]
    exact ⟨h1, fun k => (h2 k).trans (getD_app (by simp)).symm⟩
   ·rw [trim_pos _ q]
    refine ⟨fun m hm => ?_, fun ι => rfl⟩
    have : m = d'.length := by simp at hm; lia
    subst this
    rw [List.getD_eq_getElem?_getD, List.getElem?_append_right (Nat.le_refl _), Nat.sub_self]
    exact q
noncomputable def bump (cnt : List Nat) (x : Nat) : List Nat := (wsPad cnt x).set x ((wsPad cnt x).getD x 0 + 1)
theorem pad_get (cnt : List Nat) (b k : Nat) : (wsPad cnt b).getD k 0 = cnt.getD k 0 := by
 unfold wsPad
 split
 ·exact getD_app fun x hx => (List.mem_replicate.mp hx).2
 ·rfl
theorem bump_get (cnt : List Nat) (x k : Nat) : (bump cnt x).getD k 0 = cnt.getD k 0 + if x = k then 1 else 0 := by
 unfold bump
 rw [List.getD_eq_getElem?_getD, List.getElem?_set]
 have hl := wsPad_length cnt x
 by_cases q : x = k
 ·subst q
  rw [if_pos rfl, if_pos rfl, if_pos (by lia), pad_get]
  rfl
 ·rw [if_neg q, if_neg q, ← List.getD_eq_getElem?_getD, pad_get]
  rfl
theorem bump_tr {cnt : List Nat} (h : Tr cnt) (x : Nat) : Tr (bump cnt x) := fun n hn => by
 have hl : (bump cnt x).length = max cnt.length (x + 1) := (List.length_set ..).trans (wsPad_length cnt x)
 rw [bump_get]
 by_cases q : x = n
 ·rw [if_pos q]; lia
 ·have := h n (by lia)
  lia
theorem sum_set_one : ∀ {l : List Nat} {i : Nat}, i < l.length → (l.set i (l.getD i 0 + 1)).sum = l.sum + 1
 | a :: l, 0, _ => by simp [List.sum_cons]; lia
 | a :: l, i + 1, h => by
  have := sum_set_one (l := l) (i := i) (by simpa using h)
  rw [List.set_cons_succ, List.sum_cons, List.sum_cons]
  rw [show (a :: l).getD (i + 1) 0 = l.getD i 0 from rfl, this]
  lia
theorem bump_sum (cnt : List Nat) (x : Nat) : (bump cnt x).sum = cnt.sum + 1 := by
 have hl := wsPad_length cnt x
 unfold bump
 rw [sum_set_one (by lia)]
 unfold wsPad
 split
 ·simp
 ·rfl
noncomputable def cntL (ns : List Nat) : List Nat := ns.foldl bump []
theorem bumps : ∀ (ns cnt : List Nat), Tr cnt → Tr (ns.foldl bump cnt) ∧ (∀ k, (ns.foldl bump cnt).getD k 0 = cnt.getD k 0 + ns.count k) ∧ (ns.foldl bump cnt).sum = cnt.sum + ns.length
 | [], cnt, h => ⟨h, fun ι => rfl, rfl⟩
 | x :: ns, cnt, h => by
  obtain ⟨h1, h2, h3⟩ := bumps ns (bump cnt x) (bump_tr h x)
  refine ⟨h1, fun k => ?_, ?_⟩
  ·rw [List.foldl_cons, h2, bump_get, List.count_cons]
   by_cases q : x = k
   ·subst q; simp; lia
   ·simp [q]
  ·rw [List.foldl_cons, h3, bump_sum, List.length_cons]; lia
theorem blanks (n nt b : Nat) (cnt : List Nat) : ∀ x, (List.replicate x 32).foldl wsStep ⟨n, nt, b, cnt⟩ = ⟨n + x, nt, b + x, cnt⟩
 | 0 => rfl
 | x + 1 => by
  rw [List.replicate_succ', List.foldl_append, blanks n nt b cnt x]
  rfl
theorem pieces_run : ∀ (ns : List Nat) (n nt : Nat) (cnt : List Nat), (ns.flatMap fun x => List.replicate x 32 ++ [9]).foldl wsStep ⟨n, nt, 0, cnt⟩ = ⟨n + (ns.sum + ns.length), nt + ns.length, 0, ns.foldl bump cnt⟩
 | [], n, nt, cnt => rfl
 | x :: ns, n, nt, cnt => by
  rw [List.flatMap_cons, List.foldl_append, List.foldl_append, blanks]
  show (ns.flatMap fun x => List.replicate x 32 ++ [9]).foldl wsStep (wsStep ⟨n + x, nt, 0 + x, cnt⟩ 9) = _
  rw [show wsStep ⟨n + x, nt, 0 + x, cnt⟩ 9 = ⟨n + x + 1, nt + 1, 0, bump cnt x⟩ from by rw [Nat.zero_add]; rfl, pieces_run ns]
  congr 1
  ·rw [List.sum_cons, List.length_cons]; lia
  ·rw [List.length_cons]; lia
theorem run_eq (ns : List Nat) : wsRun (codesOf ns) = ⟨ns.sum + ns.length, ns.length, 0, cntL ns⟩ := by
 unfold codesOf wsRun
 rw [tpairs_text, pieces_run]
 rw [Nat.zero_add, Nat.zero_add]
 rfl
theorem nil_tr : Tr [] := fun n h => by simp at h
theorem run_st {ns d : List Nat} {sm : Nat} (h : ∀ k, ns.count k = d.getD k 0) (hs : ns.sum = sm) : wsRun (codesOf ns) = stOf sm (trim d) := by
 obtain ⟨h1, h2, h3⟩ := bumps ns [] nil_tr
 have e : cntL ns = trim d := tr_uniq h1 (trim_spec _ d rfl).1 fun k => by
  show (ns.foldl bump []).getD k 0 = _
  rw [h2, (trim_spec _ d rfl).2, ← h]
  exact Nat.zero_add _
 have h4 : (trim d).sum = ns.length := by rw [← e]; exact h3.trans (Nat.zero_add _)
 rw [run_eq, e, stOf, h4, hs]
end Mine
namespace Mine
noncomputable def partW (way : Way) (base s m : Nat) : List Nat :=
 match way with
 | .plain => List.replicate m s
 | .there => (List.replicate (m % base) (List.replicate (s / unitOf base s s) (unitOf base s s))).flatten ++ List.replicate (m / base) (base * s)
 | .back => if s % base = 0 then (List.replicate m (List.replicate base (s / base))).flatten else upL base m m s
theorem part_nil (way : Way) (base s : Nat) : partW way base s 0 = [] := by
 cases way with
 | plain => rfl
 | there => simp [partW]
 | back => show (if s % base = 0 then _ else upL base 0 0 s : List Nat) = []; split <;> rfl
theorem sortU_in {S ns : List Nat} (hS : (List.range 64).filter (fun k => decide (k ∈ S)) = S) (h : ∀ x ∈ ns, x ∈ S) : sortU ns = S.filter (fun k => decide (k ∈ ns)) := by
 unfold sortU
 conv => rhs; rw [← hS, List.filter_filter]
 refine List.filter_congr fun x ι => ?_
 by_cases q : x ∈ ns
 ·simp [q, h x q]
 ·simp [q]
theorem flat_filter {ns : List Nat} {f : Nat → List Nat} (hf : ∀ x, x ∉ ns → f x = []) : ∀ S : List Nat, (S.filter (fun k => decide (k ∈ ns))).flatMap f = S.flatMap f
 | [] => rfl
 | x :: S => by
  by_cases q : x ∈ ns
  ·rw [List.filter_cons_of_pos (by simpa using q), List.flatMap_cons, List.flatMap_cons, flat_filter hf S]
  ·rw [List.filter_cons_of_neg (by simpa using q), List.flatMap_cons, hf x q, flat_filter hf S]
   rfl
theorem there_in {S ns : List Nat} {base : Nat} (hS : (List.range 64).filter (fun k => decide (k ∈ S)) = S) (h : ∀ x ∈ ns, x ∈ S) : thereL ns base = S.flatMap fun x => partW .there base x (ns.count x) := by
 unfold thereL
 rw [sortU_in hS h]
 exact flat_filter (f := fun x => partW .there base x (ns.count x)) (fun x hx => by rw [List.count_eq_zero.mpr hx]; exact part_nil ..) S
theorem back_in {S ns : List Nat} {base : Nat} (hS : (List.range 64).filter (fun k => decide (k ∈ S)) = S) (h : ∀ x ∈ ns, x ∈ S) : backL ns base = S.flatMap fun x => partW .back base x (ns.count x) := by
 unfold backL
 rw [sortU_in hS h]
 exact flat_filter (f := fun x => partW .back base x (ns.count x)) (fun x hx => by rw [List.count_eq_zero.mpr hx]; exact part_nil ..) S
noncomputable def bagW (way : Way) (base : Nat) (ps : List (Nat × Nat)) : List Nat := ps.flatMap fun p => partW way base p.1 p.2
theorem addAt_get (d : List Nat) (i m k : Nat) : (addAt d i m).getD k 0 = d.getD k 0 + if i = k ∧ i < d.length then m else 0 := by
 unfold addAt
 rw [List.getD_eq_getElem?_getD, List.getElem?_set]
 by_cases q : i = k
 ·subst q
  rw [if_pos rfl]
  by_cases q2 : i < d.length
  ·rw [if_pos q2, if_pos ⟨rfl, q2⟩]; rfl
  ·rw [if_neg q2, if_neg (fun h => q2 h.2), getD_over (by lia)]; rfl
 ·rw [if_neg q, if_neg (fun h => q h.1), ← List.getD_eq_getElem?_getD]; rfl
theorem rep_get (n k : Nat) : (List.replicate n 0).getD k 0 = 0 := by
 rw [List.getD_eq_getElem?_getD, List.getElem?_replicate]
 split <;> rfl
theorem add_lin (d : List Nat) (i m k : Nat) : (addAt d i m).getD k 0 = d.getD k 0 + (addAt (List.replicate d.length 0) i m).getD k 0 := by
 rw [addAt_get, addAt_get, rep_get, List.length_replicate, Nat.zero_add]
theorem back_lin (base : Nat) : ∀ (f : Nat) (d : List Nat) (s m k : Nat), (dback base f d s m).getD k 0 = d.getD k 0 + (dback base f (List.replicate d.length 0) s m).getD k 0
 | 0, d, s, m, k => add_lin d s m k
 | f + 1, d, s, m, k => by
  rw [dback_s, dback_s]
  split
  ·rw [back_lin base f (addAt d s (m % base)), back_lin base f (addAt (List.replicate d.length 0) s (m % base)), add_lin, addAt_len, addAt_len, List.length_replicate]
   lia
  ·exact add_lin d s m k
theorem step_lin (base : Nat) (way : Way) (d : List Nat) (p : Nat × Nat) (k : Nat) : (dstep base way d p).getD k 0 = d.getD k 0 + (dstep base way (List.replicate d.length 0) p).getD k 0 := by
 cases way with
 | plain => exact add_lin ..
 | there =>
  show (addAt (addAt d _ _) _ _).getD k 0 = _ + (addAt (addAt (List.replicate d.length 0) _ _) _ _).getD k 0
  rw [add_lin (addAt d _ _), add_lin d, add_lin (addAt (List.replicate d.length 0) _ _), addAt_len, addAt_len, List.length_replicate]
  lia
 | back =>
  show (if p.1 % base = 0 then _ else _ : List Nat).getD k 0 = _ + (if p.1 % base = 0 then _ else _ : List Nat).getD k 0
  split
  ·exact add_lin ..
  ·exact back_lin ..
noncomputable def okP (base : Nat) (way : Way) (p : Nat × Nat) : Bool :=
 (dstep base way (List.replicate (7 * base) 0) p == (List.range (7 * base)).map fun k => (partW way base p.1 p.2).count k) && ((partW way base p.1 p.2).all fun x => decide (1 ≤ x) && decide (x < 7 * base)) && (partW way base p.1 p.2).sum == p.1 * p.2
theorem ok_get {base : Nat} {way : Way} {p : Nat × Nat} (h : okP base way p = true) {d : List Nat} (hd : d.length = 7 * base) (k : Nat) : (dstep base way d p).getD k 0 = d.getD k 0 + (partW way base p.1 p.2).count k := by
 unfold okP at h
 simp only [Bool.and_eq_true, beq_iff_eq] at h
 obtain ⟨⟨h1, h2⟩, _⟩ := h
 rw [step_lin, hd, h1]
 congr 1
 rw [List.getD_eq_getElem?_getD, List.getElem?_map]
 rcases Nat.lt_or_ge k (7 * base) with q | q
 ·rw [List.getElem?_range q]; rfl
 ·rw [List.getElem?_eq_none (by simpa using q)]
  symm
  refine List.count_eq_zero.mpr fun hk => ?_
  have := List.all_eq_true.mp h2 k hk
  simp only [Bool.and_eq_true, decide_eq_true_eq] at this
  lia
theorem steps_get {base : Nat} {way : Way} : ∀ {ps : List (Nat × Nat)} {d : List Nat}, (∀ p ∈ ps, okP base way p = true) → d.length = 7 * base → ∀ k, (ps.foldl (dstep base way) d).getD k 0 = d.getD k 0 + (bagW way base ps).count k
 | [], d, _, _, k => rfl
 | p :: ps, d, h, hd, k => by
  rw [List.foldl_cons, steps_get (fun q hq => h q (List.mem_cons_of_mem _ hq)) ((dstep_len ..).trans hd), ok_get (h p (List.mem_cons_self ..)) hd]
  unfold bagW
  rw [List.flatMap_cons, List.count_append]
  lia
theorem bag_ok {base : Nat} {way : Way} : ∀ {ps : List (Nat × Nat)}, (∀ p ∈ ps, okP base way p = true) → (∀ x ∈ bagW way base ps, 1 ≤ x) ∧ (bagW way base ps).sum = (szOf ps).sum
 | [], _ => ⟨fun x hx => by simp [bagW] at hx, rfl⟩
 | p :: ps, h => by
  obtain ⟨h1, h2⟩ := bag_ok (ps := ps) fun q hq => h q (List.mem_cons_of_mem _ hq)
  have h3 := h p (List.mem_cons_self ..)
  unfold okP at h3
  simp only [Bool.and_eq_true, beq_iff_eq] at h3
  obtain ⟨⟨_, h4⟩, h5⟩ := h3
  unfold bagW at h1 h2 ⊢
  unfold szOf at h2 ⊢
  rw [List.flatMap_cons, List.flatMap_cons, List.sum_append, List.sum_append, h2, h5]
  refine ⟨fun x hx => ?_, by simp [Nat.mul_comm]⟩
  rcases List.mem_append.mp hx with hx | hx
  ·have := List.all_eq_true.mp h4 x hx
   simp only [Bool.and_eq_true, decide_eq_true_eq] at this
   exact this.1
  ·exact h1 x hx
theorem tab_ok : ∀ base ∈ [2, 3, 4], ∀ q ∈ [(1, 5), (2, 3), (3, 3), (4, 2), (6, 1)], ∀ m ∈ List.range (q.2 + 1), (okP base .plain (q.1, m) && okP base .there (q.1, m) && okP base .back (q.1, m)) = true := by decide +kernel
end Mine
namespace Mine
noncomputable def enc : List Nat → Nat
 | [] => 0
 | x :: l => 64 ^ x + enc l
theorem enc_c {x : Nat} {l : List Nat} : enc (x :: l) = 64 ^ x + enc l := rfl
theorem enc_app : ∀ a b : List Nat, enc (a ++ b) = enc a + enc b
 | [], b => (Nat.zero_add _).symm
 | x :: a, b => by rw [List.cons_append, enc_c, enc_c, enc_app a b, Nat.add_assoc]
theorem enc_rep (s : Nat) : ∀ m, enc (List.replicate m s) = m * 64 ^ s
 | 0 => (Nat.zero_mul _).symm
 | m + 1 => by rw [List.replicate_succ, enc_c, enc_rep s m, Nat.succ_mul, Nat.add_comm]
theorem enc_flat (n s : Nat) : ∀ m, enc (List.replicate m (List.replicate n s)).flatten = m * n * 64 ^ s
 | 0 => by rw [Nat.zero_mul, Nat.zero_mul]; rfl
 | m + 1 => by rw [List.replicate_succ, List.flatten_cons, enc_app, enc_rep, enc_flat n s m, Nat.succ_mul, Nat.add_mul, Nat.add_comm]
noncomputable def encUp (base : Nat) : Nat → Nat → Nat → Nat
 | 0, _, _ => 0
 | f + 1, n, sz => if n = 0 then 0 else n % base * 64 ^ sz + encUp base f (n / base) (base * sz)
theorem encUp_s {base f n sz : Nat} : encUp base (f + 1) n sz = if n = 0 then 0 else n % base * 64 ^ sz + encUp base f (n / base) (base * sz) := rfl
theorem enc_up (base : Nat) : ∀ f n sz, enc (upL base f n sz) = encUp base f n sz
 | 0, _, _ => rfl
 | f + 1, n, sz => by
  rw [upL_s, encUp_s]
  split
  ·rfl
  ·rw [enc_app, enc_rep, enc_up base f]
noncomputable def encW (way : Way) (base s m : Nat) : Nat :=
 match way with
 | .plain => m * 64 ^ s
 | .there => m % base * (s / unitOf base s s) * 64 ^ unitOf base s s + m / base * 64 ^ (base * s)
 | .back => if s % base = 0 then m * base * 64 ^ (s / base) else encUp base m m s
theorem enc_part (way : Way) (base s m : Nat) : enc (partW way base s m) = encW way base s m := by
 cases way with
 | plain => exact enc_rep s m
 | there => show enc (_ ++ _) = _; rw [enc_app, enc_flat, enc_rep]; rfl
 | back =>
  show enc (if s % base = 0 then _ else _) = (if s % base = 0 then _ else _)
  split
  ·exact enc_flat ..
  ·exact enc_up ..
noncomputable def encF (f : Nat → Nat → Nat) : List (Nat × Nat) → Nat
 | [] => 0
 | p :: ps => f p.1 p.2 + encF f ps
theorem encF_c {f : Nat → Nat → Nat} {p : Nat × Nat} {ps : List (Nat × Nat)} : encF f (p :: ps) = f p.1 p.2 + encF f ps := rfl
theorem enc_bag (way : Way) (base : Nat) : ∀ ps : List (Nat × Nat), enc (bagW way base ps) = encF (encW way base) ps
 | [] => rfl
 | p :: ps => by
  unfold bagW
  rw [List.flatMap_cons, enc_app, enc_part]
  have := enc_bag way base ps
  unfold bagW at this
  rw [this]; rfl
theorem enc_digits (k : Nat) : ∀ l : List Nat, ∃ lo hi, enc l = lo + 64 ^ k * (l.count k + 64 * hi) ∧ lo * 64 ≤ l.length * 64 ^ k
 | [] => ⟨0, 0, by show 0 = 0 + 64 ^ k * 0; rw [Nat.mul_zero], (Nat.le_of_ble_eq_true rfl)⟩
 | x :: l => by
  obtain ⟨lo, hi, h1, h2⟩ := enc_digits k l
  have hp : 0 < 64 ^ k := Nat.pow_pos (by decide)
  have hl : (l.length + 1) * 64 ^ k = l.length * 64 ^ k + 64 ^ k := Nat.succ_mul ..
  rw [enc_c, h1, List.count_cons, List.length_cons, hl]
  rcases Nat.lt_trichotomy x k with q | q | q
  ·refine ⟨64 ^ x + lo, hi, ?_, ?_⟩
   ·rw [if_neg (by simp; lia), Nat.add_zero]; lia
   ·have h3 : 64 ^ x * 64 ≤ 64 ^ k := by rw [← Nat.pow_succ]; exact Nat.pow_le_pow_right (by decide) q
    rw [Nat.add_mul]; lia
  ·subst q
   refine ⟨lo, hi, ?_, by lia⟩
   rw [if_pos (by simp), Nat.mul_add, Nat.mul_add, Nat.mul_add]
   lia
  ·obtain ⟨j, rfl⟩ : ∃ j, x = k + 1 + j := ⟨x - (k + 1), by lia⟩
   refine ⟨lo, hi + 64 ^ j, ?_, by lia⟩
   generalize hjj : 64 ^ j = y
   have h3 : 64 ^ (k + 1 + j) = 64 ^ k * (64 * y) := by rw [Nat.pow_add, Nat.pow_succ, Nat.mul_assoc, hjj]
   rw [if_neg (by simp; lia), h3, Nat.mul_add 64 hi, Nat.add_zero, ← Nat.add_assoc (List.count k l), Nat.mul_add (64 ^ k) (_ + _)]
   lia
theorem digit {l : List Nat} (h : l.length < 64) (k : Nat) : enc l / 64 ^ k % 64 = l.count k := by
 obtain ⟨lo, hi, h1, h2⟩ := enc_digits k l
 have hp : 0 < 64 ^ k := Nat.pow_pos (by decide)
 have hlo : lo < 64 ^ k := by
  have h3 : l.length * 64 ^ k < 64 * 64 ^ k := Nat.mul_lt_mul_of_pos_right h hp
  lia
 have hc : l.count k < 64 := Nat.lt_of_le_of_lt List.count_le_length h
 rw [h1, Nat.add_mul_div_left _ _ hp, Nat.div_eq_of_lt hlo, Nat.zero_add]
 lia
set_option tactic.hygienic true in
theorem up_sum {base : Nat} (hb : 2 ≤ base) : ∀ f n sz, n ≤ f → 1 ≤ sz → (upL base f n sz).sum = sz * n ∧ ∀ x ∈ upL base f n sz, 1 ≤ x
 | 0, n, sz, h, _ => by
  obtain rfl : n = 0 := by lia
  exact ⟨rfl, fun x hx => absurd hx List.not_mem_nil⟩
 | f + 1, n, sz, h, hs => by
  rw [upL_s]
  split
  ·rename_i h0
   subst h0
   exact ⟨rfl, fun x hx => absurd hx List.not_mem_nil⟩
  ·rename_i h0
   have hd : n / base < n := Nat.div_lt_self (Nat.pos_of_ne_zero ‹_›) hb
   obtain ⟨h1, h2⟩ := up_sum hb f (n / base) (base * sz) (by lia) (Nat.le_trans hs (Nat.le_mul_of_pos_left _ (Nat.le_of_lt ‹_›)))
   refine ⟨?_, fun x hx => ?_⟩
   ·rw [List.sum_append, h1, List.sum_replicate_nat]
    have h3 := Nat.mod_add_div n base
    calc n % base * sz + base * sz * (n / base) = sz * (n % base + base * (n / base)) := by rw [Nat.mul_add, Nat.mul_comm sz (n % base), Nat.mul_comm base sz, Nat.mul_assoc]
     _ = sz * n := by rw [h3]
   ·rcases List.mem_append.mp hx with q | q
    ·rw [(List.mem_replicate.mp q).2]; exact hs
    ·exact h2 x q
theorem flat_sum (n s : Nat) : ∀ m, (List.replicate m (List.replicate n s)).flatten.sum = m * (n * s)
 | 0 => by simp
 | m + 1 => by rw [List.replicate_succ, List.flatten_cons, List.sum_append, List.sum_replicate_nat, flat_sum n s m, Nat.succ_mul, Nat.add_comm]
set_option tactic.hygienic true in
theorem part_sum {way : Way} {base s m : Nat} (hb : 2 ≤ base) (hs : 1 ≤ s) : (partW way base s m).sum = s * m ∧ ∀ x ∈ partW way base s m, 1 ≤ x := by
 cases way with
 | plain => exact ⟨by show (List.replicate m s).sum = _; rw [List.sum_replicate_nat, Nat.mul_comm], fun x hx => by rw [(List.mem_replicate.mp hx).2]; exact hs⟩
 | there =>
  obtain ⟨u1, u2, _⟩ := unitOf_spec hb s s hs (Nat.le_refl _)
  refine ⟨?_, fun x hx => ?_⟩
  ·show (_ ++ _ : List Nat).sum = _
   rw [List.sum_append, flat_sum, List.sum_replicate_nat, Nat.div_mul_cancel u2]
   have h3 := Nat.mod_add_div m base
   calc m % base * s + m / base * (base * s) = s * (m % base + base * (m / base)) := by rw [Nat.mul_add, Nat.mul_comm s (m % base), Nat.mul_comm base (m / base), ← Nat.mul_assoc s, Nat.mul_comm s (m / base), Nat.mul_assoc, Nat.mul_comm s base]
    _ = s * m := by rw [h3]
  ·rcases List.mem_append.mp hx with q | q
   ·obtain ⟨r, hr, hx⟩ := List.mem_flatten.mp q
    rw [(List.mem_replicate.mp hr).2] at hx
    rw [(List.mem_replicate.mp hx).2]; exact u1
   ·rw [(List.mem_replicate.mp q).2]
    exact Nat.le_trans hs (Nat.le_mul_of_pos_left _ (Nat.le_of_lt ‹_›))
 | back =>
  show (if s % base = 0 then _ else _ : List Nat).sum = _ ∧ ∀ x ∈ (if s % base = 0 then _ else _ : List Nat), 1 ≤ x
  split
  ·rename_i h0
   have hd := Nat.dvd_of_mod_eq_zero h0
   refine ⟨by rw [flat_sum, Nat.mul_comm base, Nat.div_mul_cancel hd, Nat.mul_comm], fun x hx => ?_⟩
   obtain ⟨r, hr, hx⟩ := List.mem_flatten.mp hx
   rw [(List.mem_replicate.mp hr).2] at hx
   rw [(List.mem_replicate.mp hx).2]
   exact Nat.div_pos (Nat.le_of_dvd hs hd) (Nat.le_of_lt ‹_›)
  ·exact up_sum hb m m s (Nat.le_refl _) hs
noncomputable def S11 : List Nat := [1, 2, 3, 4, 6, 8, 9, 12, 16, 18, 24]
noncomputable def pq (a b c d e : Nat) : List (Nat × Nat) := [(1, a + 1), (2, b), (3, c), (4, d), (6, e)]
noncomputable def digF (f : Nat → Nat → Nat) (N : Nat) : List Nat → Nat
 | [] => 0
 | x :: S => f x (N / 64 ^ x % 64) + digF f N S
noncomputable def rtN (base : Nat) (ps : List (Nat × Nat)) : Bool :=
 digF (encW .back base) (encF (encW .there base) ps) S11 == encF (encW .plain base) ps && digF (· * ·) (encF (encW .there base) ps) S11 == encF (· * ·) ps &&
 digF (encW .there base) (encF (encW .back base) ps) S11 == encF (encW .plain base) ps && digF (· * ·) (encF (encW .back base) ps) S11 == encF (· * ·) ps
theorem rt2 : ((List.range 5).all fun a => (List.range 4).all fun b => (List.range 4).all fun c => (List.range 3).all fun d => (List.range 2).all fun e => rtN 2 (pq a b c d e)) = true := by decide +kernel
theorem rt3 : ((List.range 5).all fun a => (List.range 4).all fun b => (List.range 4).all fun c => (List.range 3).all fun d => (List.range 2).all fun e => rtN 3 (pq a b c d e)) = true := by decide +kernel
theorem rt4 : ((List.range 5).all fun a => (List.range 4).all fun b => (List.range 4).all fun c => (List.range 3).all fun d => (List.range 2).all fun e => rtN 4 (pq a b c d e)) = true := by decide +kernel
theorem tab_in : ∀ base ∈ [2, 3, 4], ∀ q ∈ [(1, 5), (2, 3), (3, 3), (4, 2), (6, 1)], ∀ m ∈ List.range (q.2 + 1), ((partW .there base q.1 m).all (fun x => S11.contains x) && (partW .back base q.1 m).all (fun x => S11.contains x)) = true := by decide +kernel
end Mine
namespace Mine
structure Few (a b c d e : Nat) : Prop where
 a1 : 1 ≤ a
 a5 : a ≤ 5
 b3 : b ≤ 3
 c3 : c ≤ 3
 d2 : d ≤ 2
 e1 : e ≤ 1
noncomputable abbrev psOf (a b c d e : Nat) : List (Nat × Nat) := [1, 2, 3, 4, 6].zip [a, b, c, d, e]
structure Pure (ps : List (Nat × Nat)) (base : Nat) (zs ms : List Nat) : Prop where
 ofs : Ofs ps base
 nz : ∀ way, ∃ x ∈ ps.foldl (dstep base way) (List.replicate (7 * base) 0), x ≠ 0
 fit : Fit ms base
 fitT : Fit (thereL ms base) base
 fitB : Fit (backL ms base) base
 fitTB : Fit (backL (thereL ms base) base) base
 fitBT : Fit (thereL (backL ms base) base) base
 w0 : wsRun (codesOf ms) = stOf zs.sum (dueL ps base .plain)
 w1 : wsRun (codesOf (thereL ms base)) = stOf zs.sum (dueL ps base .there)
 w2 : wsRun (codesOf (backL ms base)) = stOf zs.sum (dueL ps base .back)
 w3 : wsRun (codesOf (backL (thereL ms base) base)) = stOf zs.sum (dueL ps base .plain)
 w4 : wsRun (codesOf (thereL (backL ms base) base)) = stOf zs.sum (dueL ps base .plain)
theorem Fit.small {ns : List Nat} {base : Nat} (F : Fit ns base) : ns.sum + ns.length ≤ 1000 := by have := F.len; have := F.sum; lia
theorem enc_dig {t : List Nat} (ht : t.length < 64) (way : Way) (base : Nat) : ∀ S : List Nat, enc (S.flatMap fun x => partW way base x (t.count x)) = digF (encW way base) (enc t) S
 | [] => rfl
 | x :: S => by rw [List.flatMap_cons, enc_app, enc_part, enc_dig ht way base S, ← digit ht]; rfl
theorem sum_dig {t : List Nat} (ht : t.length < 64) {way : Way} {base : Nat} (hb : 2 ≤ base) : ∀ S : List Nat, (∀ x ∈ S, 1 ≤ x) → (S.flatMap fun x => partW way base x (t.count x)).sum = digF (· * ·) (enc t) S ∧ ∀ y ∈ (S.flatMap fun x => partW way base x (t.count x)), 1 ≤ y
 | [], _ => ⟨rfl, fun y hy => by simp at hy⟩
 | x :: S, h => by
  obtain ⟨h1, h2⟩ := sum_dig ht (way := way) hb S fun y hy => h y (List.mem_cons_of_mem _ hy)
  obtain ⟨h3, h4⟩ := part_sum (way := way) (m := t.count x) hb (h x (List.mem_cons_self ..))
  rw [List.flatMap_cons, List.sum_append, h1, h3]
  refine ⟨by rw [← digit ht]; rfl, fun y hy => ?_⟩
  rcases List.mem_append.mp hy with q | q
  ·exact h4 y q
  ·exact h2 y q
theorem mul_sum : ∀ ps : List (Nat × Nat), encF (· * ·) ps = (szOf ps).sum
 | [] => rfl
 | p :: ps => by
  have := mul_sum ps
  unfold szOf at this ⊢
  rw [List.flatMap_cons, List.sum_append, ← this, List.sum_replicate_nat, encF_c, Nat.mul_comm]
theorem S11_ok : (List.range 64).filter (fun k => decide (k ∈ S11)) = S11 := by decide +kernel
theorem S5_ok : (List.range 64).filter (fun k => decide (k ∈ [1, 2, 3, 4, 6])) = [1, 2, 3, 4, 6] := by decide +kernel
theorem turn_back {way way' : Way} {base : Nat} {ps : List (Nat × Nat)} (hb : 2 ≤ base) (h1 : ∀ p ∈ ps, okP base way p = true) (hs : (szOf ps).sum ≤ 40) (hz : ∀ x ∈ szOf ps, 1 ≤ x)
  (e1 : digF (encW way' base) (encF (encW way base) ps) S11 = encF (encW .plain base) ps) (e2 : digF (· * ·) (encF (encW way base) ps) S11 = encF (· * ·) ps) :
  (∀ k, (S11.flatMap fun x => partW way' base x ((bagW way base ps).count x)).count k = (szOf ps).count k) ∧ (S11.flatMap fun x => partW way' base x ((bagW way base ps).count x)).sum = (szOf ps).sum ∧ ∀ y ∈ (S11.flatMap fun x => partW way' base x ((bagW way base ps).count x)), 1 ≤ y := by
 obtain ⟨t1, t2⟩ := bag_ok h1
 have tl : (bagW way base ps).length < 64 := by have := len_le_sum t1; lia
 obtain ⟨s1, s2⟩ := sum_dig tl (way := way') hb S11 (by decide)
 rw [enc_bag, e2, mul_sum] at s1
 refine ⟨fun k => ?_, s1, s2⟩
 have l2 : (S11.flatMap fun x => partW way' base x ((bagW way base ps).count x)).length < 64 := by have := len_le_sum s2; lia
 have ezs : enc (szOf ps) = encF (encW .plain base) ps := enc_bag .plain base ps
 have zl : (szOf ps).length < 64 := Nat.lt_of_le_of_lt (len_le_sum hz) (Nat.lt_of_le_of_lt ‹_› (by decide))
 rw [← digit l2, ← digit zl, enc_dig tl, enc_bag, e1, ezs]
theorem tabs {base : Nat} (b2 : 2 ≤ base) (b4 : base ≤ 4) {a b c d e : Nat} (few : Few a b c d e) {p : Nat × Nat} (hp : p ∈ psOf a b c d e) :
  (∀ way, okP base way p = true) ∧ (∀ x ∈ partW .there base p.1 p.2, x ∈ S11) ∧ ∀ x ∈ partW .back base p.1 p.2, x ∈ S11 := by
 obtain ⟨a1, a5, b3, c3, d2, e1⟩ := few
 have hb : base ∈ [2, 3, 4] := by simp; lia
 obtain ⟨q, hq, h1, h2⟩ : ∃ q ∈ [(1, 5), (2, 3), (3, 3), (4, 2), (6, 1)], p.1 = q.1 ∧ p.2 ∈ List.range (q.2 + 1) := by
  simp only [psOf, List.zip_cons_cons, List.zip_nil_right, List.mem_cons, List.not_mem_nil, or_false] at hp
  rcases hp with rfl | rfl | rfl | rfl | rfl
  ·exact ⟨(1, 5), in0, rfl, by simp; lia⟩
  ·exact ⟨(2, 3), in1, rfl, by simp; lia⟩
  ·exact ⟨(3, 3), in2, rfl, by simp; lia⟩
  ·exact ⟨(4, 2), in3, rfl, by simp; lia⟩
  ·exact ⟨(6, 1), in4, rfl, by simp; lia⟩
 have t1 := tab_ok base hb q hq p.2 h2
 have t2 := tab_in base hb q hq p.2 h2
 obtain ⟨s, m⟩ := p
 dsimp only at h1 h2 t1 t2 ⊢
 subst h1
 simp only [Bool.and_eq_true] at t1 t2
 refine ⟨fun way => ?_, fun x hx => ?_, fun x hx => ?_⟩
 ·cases way with
  | plain => exact t1.1.1
  | there => exact t1.1.2
  | back => exact t1.2
 ·have := List.all_eq_true.mp t2.1 x hx
  simpa using this
 ·have := List.all_eq_true.mp t2.2 x hx
  simpa using this
theorem rounds {base : Nat} (b2 : 2 ≤ base) (b4 : base ≤ 4) {a b c d e : Nat} (few : Few a b c d e) : rtN base (psOf a b c d e) = true := by
 obtain ⟨a1, a5, b3, c3, d2, e1⟩ := few
 obtain ⟨a', rfl⟩ : ∃ a', a = a' + 1 := ⟨a - 1, (Nat.sub_add_cancel ‹_›).symm⟩
 have go : ∀ {f : Nat → Nat → Nat → Nat → Nat → Bool}, ((List.range 5).all fun a => (List.range 4).all fun b => (List.range 4).all fun c => (List.range 3).all fun d => (List.range 2).all fun e => f a b c d e) = true → f a' b c d e = true := fun {f} h =>
  List.all_eq_true.mp (List.all_eq_true.mp (List.all_eq_true.mp (List.all_eq_true.mp (List.all_eq_true.mp h a' (List.mem_range.mpr ‹_›)) b (List.mem_range.mpr (Nat.lt_of_le_of_lt ‹_› (by decide)))) c (List.mem_range.mpr (Nat.lt_of_le_of_lt ‹_› (by decide)))) d (List.mem_range.mpr (Nat.lt_of_le_of_lt ‹_› (by decide)))) e (List.mem_range.mpr (Nat.lt_of_le_of_lt ‹_› (by decide)))
 show rtN base (pq a' b c d e) = true
 rcases (show base = 2 ∨ base = 3 ∨ base = 4 by lia) with rfl | rfl | rfl
 ·exact go rt2
 ·exact go rt3
 ·exact go rt4
theorem cnt5 (k : Nat) {a b c d e : Nat} : (szOf (psOf a b c d e)).count k = (if 1 = k then a else 0) + (if 2 = k then b else 0) + (if 3 = k then c else 0) + (if 4 = k then d else 0) + (if 6 = k then e else 0) := by
 show (List.replicate a 1 ++ (List.replicate b 2 ++ (List.replicate c 3 ++ (List.replicate d 4 ++ (List.replicate e 6 ++ []))))).count k = _
 rw [List.append_nil, List.count_append, List.count_append, List.count_append, List.count_append, List.count_replicate, List.count_replicate, List.count_replicate, List.count_replicate, List.count_replicate, ← Nat.add_assoc, ← Nat.add_assoc, ← Nat.add_assoc]
 simp only [beq_iff_eq]
theorem pure_ok {a b c d e base cut : Nat} (few : Few a b c d e) (b2 : 2 ≤ base) (b4 : base ≤ 4) : Pure (psOf a b c d e) base (szOf (psOf a b c d e)) ((szOf (psOf a b c d e)).drop cut ++ (szOf (psOf a b c d e)).take cut) := by
 have T := fun p hp => tabs b2 b4 few (p := p) hp
 have RT := rounds b2 b4 few
 obtain ⟨a1, a5, b3, c3, d2, e1⟩ := few
 have zsum : (szOf (psOf a b c d e)).sum = a + 2 * b + 3 * c + 4 * d + 6 * e := by simp [szOf]; lia
 have perm : (szOf (psOf a b c d e)).Perm ((szOf (psOf a b c d e)).drop cut ++ (szOf (psOf a b c d e)).take cut) := by
  have h := List.perm_append_comm (l₁ := (szOf (psOf a b c d e)).take cut) (l₂ := (szOf (psOf a b c d e)).drop cut)
  rw [List.take_append_drop] at h
  exact h
 have zin : ∀ x ∈ szOf (psOf a b c d e), x ∈ [1, 2, 3, 4, 6] := fun x hx => by
  obtain ⟨p, hp, hx⟩ := List.mem_flatMap.mp hx
  rw [(List.mem_replicate.mp hx).2]
  exact (List.of_mem_zip hp).1
 have z1 : ∀ x ∈ szOf (psOf a b c d e), 1 ≤ x := fun x hx => by
  have := zin x hx
  simp only [List.mem_cons, List.not_mem_nil, or_false] at this
  lia
 have hc : ∀ k, ((szOf (psOf a b c d e)).drop cut ++ (szOf (psOf a b c d e)).take cut).count k = (szOf (psOf a b c d e)).count k := fun k => (perm.count_eq k).symm
 have hsum : ((szOf (psOf a b c d e)).drop cut ++ (szOf (psOf a b c d e)).take cut).sum = (szOf (psOf a b c d e)).sum := by
  have := congrArg List.sum (List.take_append_drop cut (szOf (psOf a b c d e)))
  rw [List.sum_append] at this ⊢
  lia
 have min : ∀ x ∈ (szOf (psOf a b c d e)).drop cut ++ (szOf (psOf a b c d e)).take cut, x ∈ szOf (psOf a b c d e) := fun x hx => perm.symm.subset hx
 have k1 : (szOf (psOf a b c d e)).count 1 = a := cnt5 1
 have k2 : (szOf (psOf a b c d e)).count 2 = b := (cnt5 2).trans (Nat.zero_add b)
 have k3 : (szOf (psOf a b c d e)).count 3 = c := (cnt5 3).trans (Nat.zero_add c)
 have k4 : (szOf (psOf a b c d e)).count 4 = d := (cnt5 4).trans (Nat.zero_add d)
 have k6 : (szOf (psOf a b c d e)).count 6 = e := (cnt5 6).trans (Nat.zero_add e)
 generalize hms : (szOf (psOf a b c d e)).drop cut ++ (szOf (psOf a b c d e)).take cut = ms at *
 have eT : thereL ms base = bagW .there base (psOf a b c d e) := by
  rw [there_in S5_ok fun x hx => zin x (min x hx)]
  simp only [List.flatMap_cons, List.flatMap_nil, hc, k1, k2, k3, k4, k6]
  rfl
 have eB : backL ms base = bagW .back base (psOf a b c d e) := by
  rw [back_in S5_ok fun x hx => zin x (min x hx)]
  simp only [List.flatMap_cons, List.flatMap_nil, hc, k1, k2, k3, k4, k6]
  rfl
 generalize hps : psOf a b c d e = ps at *
 have ok : ∀ way, ∀ p ∈ ps, okP base way p = true := fun way p hp => (T p hp).1 way
 have get : ∀ way k, (bagW way base ps).count k = (ps.foldl (dstep base way) (List.replicate (7 * base) 0)).getD k 0 := fun way k => by
  rw [steps_get (ok way) List.length_replicate, rep_get, Nat.zero_add]
 have s40 : (szOf ps).sum ≤ 40 := by lia
 have inT : ∀ x ∈ bagW .there base ps, x ∈ S11 := fun x hx => by
  obtain ⟨p, hp, hx⟩ := List.mem_flatMap.mp hx
  exact (T p hp).2.1 x hx
 have inB : ∀ x ∈ bagW .back base ps, x ∈ S11 := fun x hx => by
  obtain ⟨p, hp, hx⟩ := List.mem_flatMap.mp hx
  exact (T p hp).2.2 x hx
 unfold rtN at RT
 simp only [Bool.and_eq_true, beq_iff_eq] at RT
 obtain ⟨⟨⟨r1, r2⟩, r3⟩, r4⟩ := RT
 obtain ⟨c1, c2, c3⟩ := turn_back (way' := .back) b2 (ok .there) s40 z1 r1 r2
 obtain ⟨g1, g2, g3⟩ := turn_back (way' := .there) b2 (ok .back) s40 z1 r3 r4
 obtain ⟨t1, t2⟩ := bag_ok (ok .there)
 obtain ⟨u1, u2⟩ := bag_ok (ok .back)
 have eTB : backL (thereL ms base) base = S11.flatMap fun x => partW .back base x ((bagW .there base ps).count x) := by rw [eT]; exact back_in S11_ok inT
 have eBT : thereL (backL ms base) base = S11.flatMap fun x => partW .there base x ((bagW .back base ps).count x) := by rw [eB]; exact there_in S11_ok inB
 have fit : ∀ {l : List Nat}, (∀ x ∈ l, 1 ≤ x) → l.sum = (szOf ps).sum → Fit l base := fun h1 h2 => ⟨h1, by lia, b2, b4⟩
 refine ⟨⟨b2, b4, ?_, ?_, ?_⟩, fun way => ?_, fit (fun x hx => z1 x (min x hx)) hsum, ?_, ?_, ?_, ?_, ?_, ?_, ?_, ?_, ?_⟩
 ·rw [← hps]; simp
 ·rw [← hps]; simp
 ·rw [← hps]; simp; lia
 ·obtain ⟨p1, p2⟩ := bag_ok (ok way)
  obtain ⟨x, hx⟩ : ∃ x, x ∈ bagW way base ps := by
   cases q : bagW way base ps with
   | nil => rw [q] at p2; simp at p2; lia
   | cons x l => exact ⟨x, List.mem_cons_self ..⟩
  have h1 := get way x
  have h2 : 0 < (bagW way base ps).count x := List.count_pos_iff.mpr hx
  generalize ps.foldl (dstep base way) (List.replicate (7 * base) 0) = D at h1
  rw [h1, List.getD_eq_getElem?_getD] at h2
  cases q : D[x]? with
  | none => rw [q] at h2; exact absurd h2 (by decide)
  | some y => rw [q] at h2; exact ⟨y, List.mem_of_getElem? q, Nat.ne_of_gt h2⟩
 ·rw [eT]; exact fit t1 t2
 ·rw [eB]; exact fit u1 u2
 ·rw [eTB]; exact fit c3 c2
 ·rw [eBT]; exact fit g3 g2
 ·exact run_st (fun k => (hc k).trans (get .plain k)) hsum
 ·rw [eT]; exact run_st (get .there) t2
 ·rw [eB]; exact run_st (get .back) u2
 ·rw [eTB]; exact run_st (fun k => (c1 k).trans (get .plain k)) c2
 ·rw [eBT]; exact run_st (fun k => (g1 k).trans (get .plain k)) g2
end Mine
namespace Mine
section
variable {U : List Addr} {w : World} {mg mb : NM} {b₀ : Heap} {s₀ s s' : Shared} {A : Around} {E : VP} {L : Addr} {V : List (Str × Value)} {env : Env}
theorem mod_any {z k : Int} {t u : Tok} {Q : VP} (hk : 0 < k) (h : ∀ n : Nat, Q (.int (n : Int) s.toks) { s with toks := s.toks + 1 }) : wpAny (model PW w) A (binaryOp .Mod (.int z t) (.int k u)) Q E s := by
 refine PyProof.Rows.mod_int (by lia) ?_
 have e : z.fmod k = ((z.fmod k).toNat : Int) := (Int.toNat_of_nonneg (Int.fmod_nonneg_of_pos _ hk)).symm
 rw [e]; exact h _
theorem heap_mod {x : Str} {F : List (Fact b₀)} {ns : List Nat} {T : Addr} {p1 p2 p3 p4 p5 : Pos} {k1 k2 : Nat} {zj zk : Int} {Q : VP} (j k : Nat) (H : Sc w mg mb b₀ s₀ U L V F s) (hm : intsF b₀ T ns ∈ F) (hv : V.lookup x = some (.ref T)) (hj : j < ns.length) (hs : ns.length ≤ 100000) (hk : k ≠ 0)
  (hQ : ∀ (u : Tok) (tk : Nat), Q (.int ((ns.getD j 0 % k : Nat) : Int) u) { s with toks := tk }) (ej : autoParam (zj = (j : Int)) tR) (ek : autoParam (zk = (k : Int)) tR) (hel : autoParam (env.locals = L) tR) (hkd : autoParam (env.scope.kind = .function) tR) (hx : autoParam (env.kindOf x = some .local) tR)
  (hd : autoParam ((x == ("__debug__" : Str)) = false) tD) : wpAny (model PW w) A (eval (.BinOp (.Subscript (.Name x p1) (.Constant (.int zj) k1 p2) p3) .Mod (.Constant (.int zk) k2 p4) p5) env) Q E s := by
 subst ej ek
 have X : IntsOn b₀ s.heap T ns := H.get hm
 obtain ⟨vs, kv, ev, _⟩ := X.on
 exact wpAny_BinOp (Subscript_Constant (H.loc hv (wpAny_Constant_int ⟨"list", _, slot_list_getitem.lookup, ⟨_, ev, rfl⟩, ints_item X hj hs fun u => wpAny_Constant_int (mod_nat rfl rfl hk (hQ _ _))⟩) hel hkd hx hd))
noncomputable def sevenF (b₀ : Heap) (l : Addr) : Fact b₀ :=
 ⟨fun s => ∃ ns : List Nat, ns.length = 7 ∧ IntsOn b₀ s.heap l ns, [l], fun S k h ⟨ns, hn, x⟩ => ⟨ns, hn, x.kp S k (h l (List.mem_singleton_self l))⟩, fun ⟨_, _, _, _, _, _, e, _⟩ => get_ne e⟩
theorem law_k {l : Addr} {vs : List Value} {xs : List Int} {Q : VP} (S : Sit w mg mb b₀ s) (R : Rm A 60) (hL : s.heap.IsList l vs.toArray) (hI : IntsAre vs xs) (hlen : xs.length ≤ 63) (hret : ∀ s', Sit w mg mb b₀ s' → Kp [] s s' → Q (.bool true) s') :
  wpAny (model PW w) A (call (.ref 296) [.ref l]) Q E s := by
 refine wpAny_call ?_
 refine enter_b [] (binds := [("script", .ref l)]) S (R.dl (k := 0) (by decide)) (by k_is) (by k_is) (BindsTo.of_eq rfl) (locs rfl) ?_
 intro L s₁ B1 k₁
 refine cutQ fun Q0 h₀ => ?_
 have H1 : Sc w mg mb b₀ s [] L [("script", .ref l)] [] s₁ := Sc.of B1 (fun x v e => e) S (by simp) List.Pairwise.nil
 clear B1 k₁
 refine seq_sc ?P ?_ ?_
 case P => exact fun s' => ∃ T, s.heap.get? T = none ∧ Sc w mg mb b₀ s [] L [("heaps", .ref T), ("script", .ref l)] [sevenF b₀ T] s'
 rotate_left
 intro s₂ ⟨T, f0, H₂⟩
 rotate_right
 ·intro Q' hQ
  refine wpAny_Assign_Name ?_
  refine PyProof.Rows.List_ ?_
  iterate 7 refine spliced_cons (wpAny_Constant_int (k := 0) (pos := ⟨182, 27, 182, 28⟩) ?_)
  refine spliced_nil (lst_new (H1.tok _).S (Nat.le_of_ble_eq_true rfl) fun s3 T S3 k₃ hT nT bT lT => ?_)
  have H3 := (H1.tok _).grow ⟨S3, k₃⟩
  have H4 := (H1.tok _).new ⟨S3, k₃⟩ (sevenF b₀ T) ⟨_, rfl, lit_on [(1, _), (1, _), (3, _), (2, _), (0, _), (0, _), (4, _)] bT lT hT⟩ (al1 nT)
  exact H4.st fun s5 H5 => hQ _ ⟨T, (H1.tok _).isNew nT lT, H5⟩
 refine seq_sc (fun s' => Sc w mg mb b₀ s [] L [("heaps", .ref T), ("script", .ref l)] [sevenF b₀ T] s') (fun Q' hQ => ?_) fun s₂ H₂ => ?_
 ·refine wpAny_For (wpAny_Call_NameR (H₂.bi (v := .type "enumerate") (by k_is) (by decide +kernel) (PyProof.Rows.callWith_type rfl (evalArgs_plain (spliced_cons (H₂.loc rfl (spliced_nil ?_)))))))
  refine for_enum _ (fun ι => [sevenF b₀ T]) R.hh (fun i s' H => H.K.lst S hL (by simp)) H₂ (fun i v tk s' X hi hv H => ?_) (fun s' H => wpAny_execs_nil (hQ _ H))
  obtain ⟨ns, hn, x⟩ := H.get (f := sevenF b₀ T) in1
  have H' := Sc.weak (Pre := [X]) (Post := []) (f' := intsF b₀ T ns) H rfl x
  refine ex_cons (aug_ints (Pre := [X]) (Post := []) H' rfl f0 (by lia) ?_)
  refine wpAny_BinOp (H'.loc rfl (wpAny_Constant_int (k := 0) (pos := ⟨182, 27, 182, 28⟩) (mod_nat rfl (b := 7) rfl (by decide) ⟨_, _, rfl, by lia, (H'.tok _).tok _, ?_⟩)))
  obtain ⟨z, t, rfl, _⟩ := PyProof.Rows.IntsAre.at hI i v (by simpa using hv)
  refine wpAny_BinOp (((H'.tok _).tok _).loc rfl ?_)
  refine wpAny_BinOp (wpAny_Constant_int (k := 0) (pos := ⟨182, 27, 182, 28⟩) (wpAny_Constant_int (k := 0) (pos := ⟨182, 27, 182, 28⟩) ?_))
  walk1
  refine mod_any (by decide) fun n => ⟨n, _, rfl, ((H'.tok _).tok _).tok _, fun s5 H5 => wpAny_execs_nil ⟨.inl rfl, ?_⟩⟩
  have H6 := H5.vars (V' := [("heaps", .ref T), ("script", .ref l)]) rfl
  exact H6.weak (Pre := [X]) (Post := []) (f' := sevenF b₀ T) rfl ⟨_, (addAt_len ..).trans hn, H5.get in1⟩
 obtain ⟨ns, hn, x⟩ := H₂.get (f := sevenF b₀ T) in0
 replace H₂ := Sc.weak (Pre := []) (Post := []) (f' := intsF b₀ T ns) H₂ rfl x
 clear x
 refine seq_sc (fun s' => ∃ C a b c d e, Few a b c d e ∧ Sc w mg mb b₀ s [] L [("counts", .ref C), ("heaps", .ref T), ("script", .ref l)] [intsF b₀ C [a, b, c, d, e], intsF b₀ T ns] s') (fun Q' hQ => ?_) fun s3 hY => exE6 hY fun C a b c d e hX => hX.elim fun few H3 => ?_
 ·refine wpAny_Assign_Name (PyProof.Rows.List_ (spliced_cons (wpAny_BinOp (wpAny_Constant_int (k := 0) (pos := ⟨182, 27, 182, 28⟩) (heap_mod 0 5 (H₂.tok _) (List.mem_cons_self ..) rfl (by lia) (by lia) (by decide) fun u0 k0 => add_nat (a := 1) rfl rfl ?_)))))
  refine spliced_cons (heap_mod 1 4 ((H₂.tok _).tok _) (List.mem_cons_self ..) rfl (by lia) (by lia) (by decide) fun u1 k1 => ?_)
  refine spliced_cons (heap_mod 2 4 (H₂.tok _) (List.mem_cons_self ..) rfl (by lia) (by lia) (by decide) fun u2 k2 => ?_)
  refine spliced_cons (heap_mod 3 3 (H₂.tok _) (List.mem_cons_self ..) rfl (by lia) (by lia) (by decide) fun u3 k3 => ?_)
  refine spliced_cons (heap_mod 4 2 (H₂.tok _) (List.mem_cons_self ..) rfl (by lia) (by lia) (by decide) fun u4 k4 => ?_)
  refine spliced_nil (lst_new (H₂.tok _).S (Nat.le_of_ble_eq_true rfl) fun s3 C S3 k₃ hC nC bC lC => ?_)
  have H4 := (H₂.tok _).new ⟨S3, k₃⟩ (intsF b₀ C _) (lit_on [(1 + ns.getD 0 0 % 5, _), (ns.getD 1 0 % 4, u1), (ns.getD 2 0 % 4, u2), (ns.getD 3 0 % 3, u3), (ns.getD 4 0 % 2, u4)] bC lC hC) (al1 nC)
  exact H4.st fun s5 H5 => hQ _ (exI6 C (1 + ns.getD 0 0 % 5) (ns.getD 1 0 % 4) (ns.getD 2 0 % 4) (ns.getD 3 0 % 3) (ns.getD 4 0 % 2) ⟨⟨by lia, by lia, by lia, by lia, by lia, by lia⟩, H5⟩)
 clear hX hY
 refine seq_sc (fun s' => ∃ S Ts, Sc w mg mb b₀ s [] L [("often", .ref S), ("heaps", .ref T), ("script", .ref l)] [oftF b₀ S Ts (psOf a b c d e), intsF b₀ T ns] s') (fun Q' hQ => ?_) fun s4 hX => exE2 hX fun S₁ Ts H4 => ?_
 ·refine wpAny_Assign_Name (wpAny_Call_NameR (H3.bi (v := .type "list") (by k_is) (by decide +kernel) (PyProof.Rows.callWith_type1 (spliced_cons (wpAny_Call_NameR (H3.bi (v := .type "zip") (by k_is) (by decide +kernel) (PyProof.Rows.callWith_type1 ?_)))))))
  refine spliced_cons ?_
  refine PyProof.Rows.List_ ?_
  iterate 5 refine spliced_cons (wpAny_Constant_int (k := 0) (pos := ⟨182, 27, 182, 28⟩) ?_)
  refine spliced_nil (lst_new (H3.tok _).S (Nat.le_of_ble_eq_true rfl) fun s5 N S5 k₅ hN nN bN lN => ?_)
  have H5 := (H3.tok _).new ⟨S5, k₅⟩ (intsF b₀ N _) (lit_on [(1, _), (2, _), (3, _), (4, _), (6, _)] bN lN hN) (al1 nN)
  refine spliced_cons (H5.loc (v := .ref C) rfl (spliced_nil ?_))
  have xN : IntsOn b₀ s5.heap N [1, 2, 3, 4, 6] := H5.get (List.mem_cons_self ..)
  have xC : IntsOn b₀ s5.heap C [a, b, c, d, e] := H5.get (f := intsF b₀ C [a, b, c, d, e]) in1
  obtain ⟨vs, k1, e1, z1, q1⟩ := id xN.on
  obtain ⟨us, k2, e2, z2, q2⟩ := id xC.on
  refine wpAny_mono (list_of_zip H5.S R.hh e1 e2 z1 z2 (by decide) (by decide) fun s6 S acc c S6 k₆ hS hz ht nS bS lS => ?_) (fun z s₁ h => spliced_nil h) fun ι ι e => e
  obtain ⟨Ts, hP, hTs⟩ := oft_on (b₀ := b₀) ⟨_, _, e1, z1, q1⟩ e1 e2 ⟨_, _, e2, z2, q2⟩ rfl hS hz ht
  have H6 := H5.new ⟨S6, k₆⟩ (oftF b₀ S Ts _) hP (by
   intro x hx
   rcases List.mem_cons.mp hx with rfl | hx
   ·exact nS
   ·exact hTs x hx)
  exact (H6.sub (F' := [oftF b₀ S Ts _, intsF b₀ T ns]) (.cons_cons _ (.cons _ (.cons _ (.refl _))))).st fun s7 H7 => hQ _ (exI2 S Ts (H7.vars rfl))
 clear H3 hX
 refine seq_sc (fun s' => ∃ base tb, 2 ≤ base ∧ base ≤ 4 ∧ Sc w mg mb b₀ s [] L [("base", .int (base : Nat) tb), ("often", .ref S₁), ("heaps", .ref T)] [oftF b₀ S₁ Ts (psOf a b c d e), intsF b₀ T ns] s') (fun Q' hQ => ?_) fun s5 hY => exE2 hY fun base tb hX => anE3 hX fun b2 b4 H5 => ?_
 ·refine wpAny_Assign_Name (wpAny_BinOp (wpAny_Constant_int (k := 0) (pos := ⟨182, 27, 182, 28⟩) (heap_mod 5 3 (H4.tok _) in1 rfl (by lia) (by lia) (by decide) fun u k => add_nat (a := 2) rfl rfl (((H4.tok _).tok _).st fun s6 H6 => hQ _ (exI2 (2 + ns.getD 5 0 % 3) _ ⟨by lia, by lia, H6.vars rfl⟩)))))
 clear H4 hX hY
 have few' := few
 obtain ⟨a1, a5, b3, c3, d2, e1⟩ := few'
 refine seq_sc (fun s' => ∃ Z, Sc w mg mb b₀ s [] L [("sizes", .ref Z), ("base", .int (base : Nat) tb), ("often", .ref S₁), ("heaps", .ref T)] [intsF b₀ Z (szOf (psOf a b c d e)), oftF b₀ S₁ Ts (psOf a b c d e), intsF b₀ T ns] s') (fun Q' hQ => ?_) fun s6 ⟨Z, H6⟩ => ?_
 ·exact sizes_st R.hh H5 (List.mem_cons_self ..) rfl (by simp) (by simp; lia) fun D s' ι H => hQ _ ⟨D, H⟩
 clear H5
 have zlen : (szOf (psOf a b c d e)).length = a + b + c + d + e := by simp [szOf]; lia
 obtain ⟨n, hn⟩ := pred_of (n := (szOf (psOf a b c d e)).length) (by rw [zlen]; lia)
 have hz : ∀ x ∈ szOf (psOf a b c d e), x ≠ 0 ∧ x ≠ 127 := fun x hx => by
  obtain ⟨p, hp, hx⟩ := List.mem_flatMap.mp hx
  obtain ⟨_, rfl⟩ := List.mem_replicate.mp hx
  have : p.1 ∈ [1, 2, 3, 4, 6] := (List.of_mem_zip hp).1
  simp only [List.mem_cons, List.not_mem_nil, or_false] at this
  lia
 have P := fun cut => pure_ok (cut := cut) few b2 b4
 generalize szOf (psOf a b c d e) = zs at *
 generalize psOf a b c d e = ps at *
 refine seq_sc ?P ?_ ?_
 case P => exact fun s' => Sc w mg mb b₀ s [] L [("sizes", .ref Z), ("base", .int (base : Nat) tb), ("often", .ref S₁), ("heaps", .ref T)] [intsF b₀ Z zs, oftF b₀ S₁ Ts ps, intsF b₀ T ns] s'
 rotate_left
 intro s7 H7
 rotate_right
 ·intro Q' hQ
  refine wpAny_For ?_
  refine PyProof.Rows.Tuple_ (k := 0) ?_
  refine spliced_cons ?_
  refine ends_two (x := 0) (y := 9) (m := 2) H6 rfl rfl rfl fun s₁ T1 E1 t1 H1 => spliced_cons ?_
  refine ends_two (x := 127) (y := 9) (m := 0) H1 rfl rfl rfl fun s₂ T2 E2 t2 H₂ => spliced_cons ?_
  refine ends_none (m := 0) H₂ rfl fun s3 T3 E3 t3 H3 => spliced_nil ?_
  refine H3.newT (Nat.le_of_ble_eq_true rfl) fun s4 TT ι H4 => out_none' ?_
  have hA : ∃ FF, Sc w mg mb b₀ s [] L [("sizes", .ref Z), ("base", .int (base : Nat) tb), ("often", .ref S₁), ("heaps", .ref T)] FF s4 ∧ tupF b₀ TT #[.ref T1, .ref T2, .ref T3] ∈ FF ∧
    tupF b₀ T1 #[.ref E1, .int (2 : Nat) t1] ∈ FF ∧ tupF b₀ T2 #[.ref E2, .int (0 : Nat) t2] ∈ FF ∧ tupF b₀ T3 #[.ref E3, .int (0 : Nat) t3] ∈ FF ∧ intsF b₀ E1 [0, 9] ∈ FF ∧ intsF b₀ E2 [127, 9] ∈ FF ∧ intsF b₀ E3 [] ∈ FF ∧ intsF b₀ Z zs ∈ FF ∧
    [intsF b₀ Z zs, oftF b₀ S₁ Ts ps, intsF b₀ T ns].Sublist FF := by
   refine ⟨_, H4, ?_, ?_, ?_, ?_, ?_, ?_, ?_, ?_, by repeat (first | exact .refl _ | refine .cons _ ?_)⟩
   all_goals repeat (first | exact List.mem_cons_self .. | refine List.mem_cons_of_mem _ ?_)
  clear H1 H₂ H3 H4
  refine Exists.elim hA fun FF hA => anE10 hA fun HF m0 m1 m2 m3 n1 n2 n3 mZ hsub => ?_
  clear hA
  refine for_tup _ (fun ι => FF) R.hh (fun i s' H => H.get m0) HF (fun i v s' X hi hv H => ?_) (fun s' H => wpAny_execs_nil (hQ _ (H.sub hsub)))
  refine cutQ fun Q₁ h₁ => ?_
  obtain ⟨es, more, Ea, T', t, hE, rfl, q1, q2⟩ : ∃ es more Ea T' t, Ends es more ∧ v = .ref T' ∧ tupF b₀ T' #[.ref Ea, .int (more : Nat) t] ∈ FF ∧ intsF b₀ Ea es ∈ FF := by
   match i, hv with
   | 0, hv => cases hv; exact ⟨[0, 9], 2, E1, T1, t1, .inl ⟨rfl, rfl⟩, rfl, m1, n1⟩
   | 1, hv => cases hv; exact ⟨[127, 9], 0, E2, T2, t2, .inr (.inl ⟨rfl, rfl⟩), rfl, m2, n2⟩
   | 2, hv => cases hv; exact ⟨[], 0, E3, T3, t3, .inr (.inr ⟨rfl, rfl⟩), rfl, m3, n3⟩
  refine H.ass2 R.hh (H.get (List.mem_cons_of_mem _ q1)) fun s5 H5 => h₁ _ _ ?_
  refine wpAny_mono (told_body (R.le (by decide)).deep H5 (List.mem_cons_of_mem _ mZ) (List.mem_cons_of_mem _ q2) rfl rfl rfl hE hn (by lia) hz) (fun f s6 ⟨hf, D, H6⟩ => ⟨.inl hf, H6.vars rfl⟩) fun ι ι z => z
 clear H6
 have hz6 : ∀ x ∈ zs, x ≤ 1000 := fun x hx => by have := (P 0).fit.lt x (by simpa using hx); lia
 refine seq_sc (fun s' => ∃ cut t, cut ≤ zs.length ∧ Sc w mg mb b₀ s [] L [("cut", .int (cut : Nat) t), ("sizes", .ref Z), ("base", .int (base : Nat) tb), ("often", .ref S₁)] [intsF b₀ Z zs, oftF b₀ S₁ Ts ps] s') (fun Q' hQ => ?_) fun s8 hY => exE2 hY fun cut tc hX => hX.elim fun hcut H8 => ?_
 ·have X : IntsOn b₀ s7.heap T ns := H7.get in2
  obtain ⟨vh, kh, eh, -⟩ := id X.on
  obtain ⟨vz, kz, ez, zz, -⟩ := (H7.get (List.mem_cons_self ..) : IntsOn b₀ s7.heap Z zs).on
  refine wpAny_Assign_Name (wpAny_BinOp (Subscript_Constant (H7.loc (v := .ref T) rfl (wpAny_Constant_int ⟨"list", _, slot_list_getitem.lookup, ⟨_, eh, rfl⟩, ints_item (j := 6) X (by lia) (by lia) fun u => wpAny_Call_NameR ((H7.tok _).bi (v := .builtin "len") (by k_is) (by decide +kernel) (callWith_builtin rfl (evalArgs_plain (spliced_cons ((H7.tok _).loc (v := .ref Z) rfl (spliced_nil (PyProof.Rows.len_list ⟨_, ez, rfl, _, rfl⟩ (by lia) (mod_nat (b := zs.length) rfl (by rw [zz]) (by lia) ?_))))))))⟩))))
  refine (((H7.tok _).tok _).tok _).st fun s9 H9 => hQ _ ⟨ns.getD 6 0 % zs.length, _, Nat.le_of_lt (Nat.mod_lt _ (by lia)), (H9.sub (F' := [intsF b₀ Z zs, oftF b₀ S₁ Ts ps]) (.cons_cons _ (.cons_cons _ (.cons _ (.refl _))))).vars rfl⟩
 clear H7 hX hY
 refine seq_sc (fun s' => ∃ Bg, Sc w mg mb b₀ s [] L [("bag", .ref Bg), ("sizes", .ref Z), ("base", .int (base : Nat) tb), ("often", .ref S₁)] [bagF b₀ Bg (zs.drop cut ++ zs.take cut), intsF b₀ Z zs, oftF b₀ S₁ Ts ps] s') (fun Q' hQ => ?_) fun s9 ⟨Bg, H9⟩ => ?_
 ·exact bag_st R.hh H8 (List.mem_cons_self ..) rfl rfl hcut (by lia) hz6 fun D s' ι H => hQ _ ⟨D, H.vars rfl⟩
 clear H8 hcut hz6 hz
 replace P := P cut
 generalize zs.drop cut ++ zs.take cut = ms at *
 have R1 : ∀ {e}, Rm (A.deeper e) 40 := (R.le (by decide)).deep
 refine seq_sc (fun s' => ∃ D0, Sc w mg mb b₀ s [] L [("plain", .ref D0), ("bag", .ref Bg), ("sizes", .ref Z), ("base", .int (base : Nat) tb), ("often", .ref S₁)] [intsF b₀ D0 (dueL ps base .plain), bagF b₀ Bg ms, intsF b₀ Z zs, oftF b₀ S₁ Ts ps] s') (fun Q' hQ => ?_) fun s10 ⟨D0, H10⟩ => ?_
 ·refine wpAny_Assign_Name (wpAny_Call_NameR (H9.top (v := .ref 291) (by k_is) (callWith_K H9.ck (by k_is) (spliced_cons (H9.loc (v := .ref S₁) rfl (spliced_cons (H9.loc (v := .int (base : Nat) tb) rfl (spliced_cons (wpAny_Constant_str (k := 0) (pos := ⟨182, 27, 182, 28⟩) (spliced_nil ⟨H9.ck, ?_⟩))))))))))
  exact (H9.tok _).due (way := .plain) (R1.le (by decide)) in2 P.ofs (P.nz _) fun s' D H => H.st fun s'' H' => hQ _ ⟨D, H'⟩
 clear H9
 refine seq_sc (fun s' => ∃ q dw N C, Sc w mg mb b₀ s [] L [("first", .ref q), ("plain", .ref D0), ("bag", .ref Bg), ("sizes", .ref Z), ("base", .int (base : Nat) tb), ("often", .ref S₁)] [wsF w b₀ q dw N C (stOf zs.sum (dueL ps base .plain)), intsF b₀ D0 (dueL ps base .plain), bagF b₀ Bg ms, intsF b₀ Z zs, oftF b₀ S₁ Ts ps] s') (fun Q' hQ => ?_) fun s11 hX => exE4 hX fun q0 dw0 N0 C0 H11 => ?_
 ·refine wpAny_Assign_Name (H10.def1 (f := 262) (v1 := .ref Bg) (by k_is) (by k_is) rfl ?_)
  exact H10.typed (R1.le (by decide)) in1 P.fit.small fun s' q dw N C H => H.st fun s'' H' => hQ _ (exI4 q dw N C (P.w0 ▸ H'))
 clear H10 hX
 refine seq_sc (fun s' => ∃ J, Sc w mg mb b₀ s [] L [("joined", .ref J), ("first", .ref q0), ("plain", .ref D0), ("bag", .ref Bg), ("sizes", .ref Z), ("base", .int (base : Nat) tb), ("often", .ref S₁)] [bagF b₀ J (thereL ms base), wsF w b₀ q0 dw0 N0 C0 (stOf zs.sum (dueL ps base .plain)), intsF b₀ D0 (dueL ps base .plain), bagF b₀ Bg ms, intsF b₀ Z zs, oftF b₀ S₁ Ts ps] s') (fun Q' hQ => ?_) fun s12 ⟨J, H12⟩ => ?_
 ·refine wpAny_Assign_Name (H11.def2 (f := 279) (v1 := .ref Bg) (v2 := .int (base : Nat) tb) (by k_is) (by k_is) rfl rfl ?_)
  exact H11.there (R1.le (by decide)) in2 P.fit fun s' D H => H.st fun s'' H' => hQ _ ⟨D, H'⟩
 clear H11
 refine seq_sc (fun s' => ∃ K, Sc w mg mb b₀ s [] L [("parted", .ref K), ("joined", .ref J), ("first", .ref q0), ("plain", .ref D0), ("sizes", .ref Z), ("base", .int (base : Nat) tb), ("often", .ref S₁)] [bagF b₀ K (backL ms base), bagF b₀ J (thereL ms base), wsF w b₀ q0 dw0 N0 C0 (stOf zs.sum (dueL ps base .plain)), intsF b₀ D0 (dueL ps base .plain), bagF b₀ Bg ms, intsF b₀ Z zs, oftF b₀ S₁ Ts ps] s') (fun Q' hQ => ?_) fun s13 ⟨K, H13⟩ => ?_
 ·refine wpAny_Assign_Name (H12.def2 (f := 284) (v1 := .ref Bg) (v2 := .int (base : Nat) tb) (by k_is) (by k_is) rfl rfl ?_)
  exact H12.back (R1.le (by decide)) in3 P.fit fun s' D H => H.st fun s'' H' => hQ _ ⟨D, H'.vars rfl⟩
 clear H12
 refine seq_sc (fun s' => Sc w mg mb b₀ s [] L [("parted", .ref K), ("joined", .ref J), ("first", .ref q0), ("plain", .ref D0), ("sizes", .ref Z), ("base", .int (base : Nat) tb), ("often", .ref S₁)] [bagF b₀ K (backL ms base), bagF b₀ J (thereL ms base), wsF w b₀ q0 dw0 N0 C0 (stOf zs.sum (dueL ps base .plain))] s') (fun Q' hQ => ?_) fun s14 H14 => ?_
 ·refine wpAny_For (PyProof.Rows.Tuple_ (k := 0) (spliced_cons (PyProof.Rows.Tuple_ (k := 0) (spliced_cons (H13.loc (v := .ref q0) rfl (spliced_cons (wpAny_Constant_str (k := 0) (pos := ⟨182, 27, 182, 28⟩) (spliced_nil ((H13.tok _).newT (Nat.le_of_ble_eq_true rfl) fun s₁ T1 ι H1 => ?_)))))))))
  refine spliced_cons (PyProof.Rows.Tuple_ (k := 0) (spliced_cons (H1.def1 (f := 262) (v1 := .ref J) (by k_is) (by k_is) rfl ?_)))
  refine H1.typed (R1.le (by decide)) in2 P.fitT.small fun s₂ q1 dw1 N1 C1 H₂ => ?_
  refine spliced_cons (wpAny_Constant_str (k := 0) (pos := ⟨182, 27, 182, 28⟩) (spliced_nil ((H₂.tok _).newT (Nat.le_of_ble_eq_true rfl) fun s3 T2 ι H3 => ?_)))
  refine spliced_cons (PyProof.Rows.Tuple_ (k := 0) (spliced_cons (H3.def1 (f := 262) (v1 := .ref K) (by k_is) (by k_is) rfl ?_)))
  refine H3.typed (R1.le (by decide)) in3 P.fitB.small fun s4 q2 dw2 N2 C2 H4 => ?_
  refine spliced_cons (wpAny_Constant_str (k := 0) (pos := ⟨182, 27, 182, 28⟩) (spliced_nil ((H4.tok _).newT (Nat.le_of_ble_eq_true rfl) fun s5 T3 ι H5 => spliced_nil (H5.newT (Nat.le_of_ble_eq_true rfl) fun s6 TT ι H6 => out_none' ?_))))
  rw [P.w1, P.w2] at H6
  have hA : ∃ FF, Sc w mg mb b₀ s [] L [("parted", .ref K), ("joined", .ref J), ("first", .ref q0), ("plain", .ref D0), ("sizes", .ref Z), ("base", .int (base : Nat) tb), ("often", .ref S₁)] FF s6 ∧ tupF b₀ TT #[.ref T1, .ref T2, .ref T3] ∈ FF ∧
    (∃ t, tupF b₀ T1 #[.ref q0, .str Way.plain.str t] ∈ FF) ∧ (∃ t, tupF b₀ T2 #[.ref q1, .str Way.there.str t] ∈ FF) ∧ (∃ t, tupF b₀ T3 #[.ref q2, .str Way.back.str t] ∈ FF) ∧ wsF w b₀ q0 dw0 N0 C0 (stOf zs.sum (dueL ps base .plain)) ∈ FF ∧ wsF w b₀ q1 dw1 N1 C1 (stOf zs.sum (dueL ps base .there)) ∈ FF ∧ wsF w b₀ q2 dw2 N2 C2 (stOf zs.sum (dueL ps base .back)) ∈ FF ∧
    intsF b₀ D0 (dueL ps base .plain) ∈ FF ∧ intsF b₀ Z zs ∈ FF ∧ oftF b₀ S₁ Ts ps ∈ FF ∧ [bagF b₀ K (backL ms base), bagF b₀ J (thereL ms base), wsF w b₀ q0 dw0 N0 C0 (stOf zs.sum (dueL ps base .plain))].Sublist FF := by
   refine ⟨_, H6, in0, ⟨_, List.mem_cons_of_mem _ in4⟩, ⟨_, in3⟩, ⟨_, in1⟩, ?_, ?_, in2, ?_, ?_, ?_, .cons _ (.cons _ (.cons _ (.cons _ (.cons _ (.cons _ (.cons_cons _ (.cons_cons _ (.cons_cons _ (List.nil_sublist _)))))))))⟩
   all_goals repeat (first | exact List.mem_cons_self .. | refine List.mem_cons_of_mem _ ?_)
  clear H1 H₂ H3 H4 H5 H6
  refine Exists.elim hA fun FF hA => anE12 hA fun HF m0 m1 m2 m3 n0 n1 n2 mD mZ mS hsub => ?_
  clear hA
  refine for_tup _ (fun ι => FF) R.hh (fun i s' H => H.get m0) HF (fun i v s' X hi hv H => ?_) (fun s' H => wpAny_execs_nil (hQ _ (H.sub hsub)))
  refine cutQ fun Q₁ h₁ => ?_
  obtain ⟨way, q, dw, N, C, T', t, rfl, k1, k2⟩ : ∃ way q dw N C T' t, v = .ref T' ∧ tupF b₀ T' #[.ref q, .str (Way.str way) t] ∈ FF ∧ wsF w b₀ q dw N C (stOf zs.sum (dueL ps base way)) ∈ FF := by
   match i, hv with
   | 0, hv => cases hv; exact ⟨.plain, q0, dw0, N0, C0, T1, _, rfl, m1.choose_spec, n0⟩
   | 1, hv => cases hv; exact ⟨.there, q1, dw1, N1, C1, T2, _, rfl, m2.choose_spec, n1⟩
   | 2, hv => cases hv; exact ⟨.back, q2, dw2, N2, C2, T3, _, rfl, m3.choose_spec, n2⟩
  refine H.ass2 R.hh (H.get (List.mem_cons_of_mem _ k1)) fun s5 H5 => h₁ _ _ ?_
  refine cutQ fun Q2 h₂ => ?_
  have hB : ∃ VV, Sc w mg mb b₀ s [] L VV (X :: FF) s5 ∧ VV.lookup ("way" : Str) = some (.str way.str t) ∧ VV.lookup ("nanny" : Str) = some (.ref q) ∧ ExtA [("parted", .ref K), ("joined", .ref J), ("first", .ref q0), ("plain", .ref D0), ("sizes", .ref Z), ("base", .int (base : Nat) tb), ("often", .ref S₁)] VV := ⟨_, H5, rfl, rfl, rfl, rfl, rfl, rfl, rfl, rfl, rfl, trivial⟩
  clear H H5
  refine Exists.elim hB fun VV hB => anE4 hB fun H5 vw vq hE => anE7 (p6 := True) (show _ from ⟨hE.1, hE.2.1, hE.2.2.1, hE.2.2.2.1, hE.2.2.2.2.1, hE.2.2.2.2.2.1, trivial⟩) fun vK vJ v0 vD vZ vB ι => ?_
  have vS : VV.lookup ("often" : Str) = some (.ref S₁) := hE.2.2.2.2.2.2.1
  clear hB hE
  refine ex_cons (wpAny_Assign_Name (H5.def3 (f := 291) (v1 := .ref S₁) (v2 := .int (base : Nat) tb) (v3 := .str way.str t) (by k_is) (by k_is) vS vB vw ?_))
  refine H5.due (way := way) (R1.le (by decide)) (List.mem_cons_of_mem _ mS) P.ofs (P.nz _) fun s6 D H6 => H6.st fun s7 H7 => ?_ 
  have hdl := dueL_len ps base way
  generalize hdue : dueL ps base way = due at *
  have u₁ : ∀ {e}, (A.deeper e).units + 2 < cLine := fun {e} => (R1 (e := e)).ul (k := 2 + 0) (by decide)
  have u₀ : ∀ {e}, (A.deeper e).units < cLine := fun {e} => (R1 (e := e)).ul (k := 0) (by decide)
  have mW := List.mem_cons_of_mem (intsF b₀ D due) (List.mem_cons_of_mem X k2)
  refine ex_cons (ex_If (wpAny_isTrue_Compare1 (PyProof.Rows.Tuple_ (k := 0) (spliced_cons (H7.norm (q := q) vq mW fun a1 H7 => spliced_cons (H7.nt (q := q) vq mW fun u1 a2 H7 => spliced_cons (H7.n (q := q) vq mW fun u2 a3 H7 => spliced_nil (H7.newT (Nat.le_of_ble_eq_true rfl) fun s8 TL ι H8 => ?_))))))))
  refine PyProof.Rows.Tuple_ (k := 0) (spliced_cons (PyProof.Rows.Tuple_ (k := 0) (spliced_cons (wpAny_Call_NameR (H8.bi (v := .type "tuple") (by k_is) (by decide +kernel) (PyProof.Rows.callWith_type1 ?_))))))
  refine spliced_cons (H8.loc (v := .ref D) rfl (spliced_nil ?_))
  refine H8.tupl in1 (by lia) fun s9 TD its ι H9 hits => spliced_cons (wpAny_Constant_int (k := 0) (pos := ⟨182, 27, 182, 28⟩) (spliced_nil ?_))
  refine (H9.tok _).newT (Nat.le_of_ble_eq_true rfl) fun s10 TN ι H10 => ?_
  refine spliced_cons (H10.bi1 (f := "sum") (v := .ref D) (by k_is) (by decide +kernel) rfl (H10.sumI R.hh in3 fun s11 v1 H11 => ?_))
  refine spliced_cons (wpAny_BinOp (H11.bi1 (f := "sum") (v := .ref Z) (by k_is) (by decide +kernel) vZ (H11.sumI R.hh (List.mem_cons_of_mem _ (List.mem_cons_of_mem _ (List.mem_cons_of_mem _ (List.mem_cons_of_mem _ (List.mem_cons_of_mem _ mZ))))) fun s12 v2 H12 => ?_)))
  refine H12.bi1 (f := "sum") (v := .ref D) (by k_is) (by decide +kernel) rfl (H12.sumI R.hh in3 fun s13 v3 H13 => add_nat rfl rfl (spliced_nil ((H13.tok _).newT (Nat.le_of_ble_eq_true rfl) fun s14 TR ι H14 => ?_)))
  refine ne_said (cnt := due) (b := 0) (H14.get (List.mem_cons_of_mem _ in2)) (H14.get in0) ?_ ?_ u₁ ?_
  ·obtain ⟨-, -, ⟨t', hN⟩, its', hC, hI'⟩ := (H14.get (.tail _ (.tail _ (.tail _ (.tail _ mW)))) : WsAt w s14.heap q dw N C (stOf zs.sum due))
   exact ⟨C, t', its', hN, hC, hI'⟩
  ·exact ⟨TD, _, its, H14.get in1, H14.get in2, hits⟩
  walk1
  refine ite_f (by decide) ?_
  refine wpAny_execs_nil (ex_cons (ex_If (wpAny_isTrue_Compare1 (MethodCall_ (H14.loc (v := .ref q0) v0 (ws_equal H14.S (H14.get (.tail _ (.tail _ (.tail _ (.tail _ (.tail _ (.tail _ n0))))))) (callWith_K H14.ck (by k_is) ?_)))))))
  refine spliced_cons (H14.loc (v := .ref q) vq (spliced_nil ⟨H14.ck, ?_⟩))
  refine H14.equal (R1.le (by decide)) (.tail _ (.tail _ (.tail _ (.tail _ (.tail _ (.tail _ n0)))))) (.tail _ (.tail _ (.tail _ (.tail _ mW)))) fun s15 H15 => ?_
  refine wpAny_Compare1 (H15.loc (v := .ref D) rfl (H15.loc (v := .ref D0) vD (eq_ints (ns := due) (ms := dueL ps base .plain) (H15.get in4) (H15.get (.tail _ (.tail _ (.tail _ (.tail _ (.tail _ (.tail _ mD))))))) u₀ ?_)))
  rw [show (decide ((stOf zs.sum (dueL ps base .plain)).cnt = (stOf zs.sum due).cnt) && decide ((stOf zs.sum (dueL ps base .plain)).b = (stOf zs.sum due).b)) = decide (due = dueL ps base .plain) from by simp [stOf, eq_comm]]
  refine wpAny_isNot_self (by cases decide (due = dueL ps base .plain) <;> rfl) ?_
  walk1
  refine ite_f (by decide) ?_
  exact wpAny_execs_nil (wpAny_execs_nil (h₂ _ _ ⟨.inl rfl, (H15.sub (.cons _ (.cons _ (.cons _ (.cons _ (.cons _ (.refl _))))))).vars (ExtA.to ⟨vK, vJ, v0, vD, vZ, vB, vS, trivial⟩)⟩))
 clear H13
 refine seq_sc (fun s' => Sc w mg mb b₀ s [] L [("parted", .ref K), ("joined", .ref J), ("first", .ref q0), ("base", .int (base : Nat) tb)] [bagF b₀ K (backL ms base), wsF w b₀ q0 dw0 N0 C0 (stOf zs.sum (dueL ps base .plain))] s') (fun Q' hQ => ?_) fun s15 H15 => ?_
 ·refine ex_If (wpAny_isTrue_Compare1 (MethodCall_ (H14.loc (v := .ref q0) rfl (ws_equal H14.S (H14.get in2) (callWith_K H14.ck (by k_is) ?_)))))
  refine spliced_cons (wpAny_Call_NameR (H14.top (v := .ref 262) (by k_is) (callWith_K H14.ck (by k_is) ?_)))
  refine spliced_cons (H14.def2 (f := 284) (v1 := .ref J) (v2 := .int (base : Nat) tb) (by k_is) (by k_is) rfl rfl ?_)
  refine H14.back (R1.le (by decide)) in1 P.fitT fun s₁ D1 H1 => spliced_nil ⟨H1.ck, ?_⟩
  refine H1.typed (R1.le (by decide)) in0 P.fitTB.small fun s₂ q1 dw1 N1 C1 H₂ => spliced_nil ⟨H₂.ck, ?_⟩
  refine H₂.equal (R1.le (by decide)) in4 in0 fun s3 H3 => ?_
  rw [P.w3, decide_eq_true rfl, decide_eq_true rfl]
  walk1
  refine wpAny_isNot_self rfl ?_
  walk1
  refine ite_f (by decide) ?_
  exact wpAny_execs_nil (hQ _ ((H3.sub (F' := [bagF b₀ K (backL ms base), wsF w b₀ q0 dw0 N0 C0 (stOf zs.sum (dueL ps base .plain))]) (.cons _ (.cons _ (.cons_cons _ (.cons _ (.refl _)))))).vars rfl))
 clear H14
 refine ex_cons (wpAny_Return_some (wpAny_Compare1 (MethodCall_ (H15.loc (v := .ref q0) rfl (ws_equal H15.S (H15.get in1) (callWith_K H15.ck (by k_is) ?_))))))
 refine spliced_cons (wpAny_Call_NameR (H15.top (v := .ref 262) (by k_is) (callWith_K H15.ck (by k_is) ?_)))
 refine spliced_cons (H15.def2 (f := 279) (v1 := .ref K) (v2 := .int (base : Nat) tb) (by k_is) (by k_is) rfl rfl ?_)
 refine H15.there (R1.le (by decide)) in0 P.fitB fun s₁ D1 H1 => spliced_nil ⟨H1.ck, ?_⟩
 refine H1.typed (R1.le (by decide)) in0 P.fitBT.small fun s₂ q1 dw1 N1 C1 H₂ => spliced_nil ⟨H₂.ck, ?_⟩
 refine H₂.equal (R1.le (by decide)) in3 in0 fun s3 H3 => ?_
 rw [P.w4, decide_eq_true rfl, decide_eq_true rfl]
 walk1
 refine wpAny_is_self rfl ?_
 exact h₀ _ _ (hret _ (H3.tok _).S (H3.tok _).K)
end
end Mine
lay_quick PySem.W.fencedOpening PySem.W.openGood PySem.World.withFollow
namespace Mine
noncomputable abbrev rowL := PySem.Challenge.rw_xl0025_01.row
noncomputable abbrev addrs : List Addr := [2, 3, 15, 17, 18, 20, 21, 22, 24, 25, 27, 28, 36, 38, 39, 41, 42, 43, 45, 46, 48, 49, 50, 52, 53, 55, 56, 57, 59, 60, 62, 63, 64, 66, 67, 69, 70, 71, 73, 74, 76, 77, 78, 80, 81, 83, 84, 85, 87, 88, 90, 91, 92, 94, 95, 97, 98, 99, 100, 101, 102, 103, 106, 109, 114, 115, 116, 118, 119, 121, 122, 123, 125, 126, 128, 129, 130, 131, 133, 134, 136, 137, 138, 139, 141, 142, 144, 145, 146, 148, 149, 151, 152, 153, 155, 156, 158, 159, 160, 161, 163, 164, 166, 167, 168, 170, 171, 173, 174, 175, 176, 178, 179, 181, 182, 183, 184, 185, 186, 187, 200, 202, 203, 205, 206, 207, 209, 210, 212, 213, 214, 216, 217, 219, 220, 221, 223, 224, 226, 227, 228, 230, 231, 233, 234, 235, 237, 238, 240, 241, 242, 244, 245, 247, 248, 249, 250, 251, 252, 253, 256, 258, 259, 261, 262, 263, 265, 266, 268, 269, 270, 273, 274, 275, 278, 279, 280, 283, 284, 285, 287, 288, 290, 291, 292, 295, 296]
noncomputable abbrev KT (P : Params) : Frag := hd.heap_1 P ++ [(147, { cls := .none, data := .fields #[] }), (154, { cls := .none, data := .fields #[] })]
noncomputable abbrev addrT : List Addr := addrs ++ [147, 154]
theorem addrs_at : ∀ P, addrT = (KT P).map (·.1) := fun ι => by kernel_rfl
noncomputable abbrev looseL : List Str := [Str.ofString "_Accumulator", Str.ofString "Whitespace"]
noncomputable abbrev Xt (s : Shared) : Bool := xlAt hd.view_1 [] s && recOk (RowW.records rowL.toRowW) s
noncomputable abbrev hkL := kHook KT addrT addrs_at
open PySem.W.Fast in
theorem leftF (w : World) : (openEnds treeTable rowL.prog (w.withFollow "special-get-raises" false) 3740).map (fun s => (openSeen hd.view_1 looseL (importedModules rowL.prog.main.body) Xt true s, hkL.obs s)) = some (openGood hd.view_1 looseL, hkL.val (w.withFollow "special-get-raises" false)) := by
 unfold openEnds Xt
 rewrite [te4187177175401517315, te5923862056798008813, te14364793385576792824, te5868089070849250262, te10556317031660193958, te3486900944545009338]
 kernel_rfl
open PySem.W.Fast in
theorem leftT (w : World) : (openEnds treeTable rowL.prog (w.withFollow "special-get-raises" true) 3740).map (fun s => (openSeen hd.view_1 looseL (importedModules rowL.prog.main.body) Xt true s, hkL.obs s)) = some (openGood hd.view_1 looseL, hkL.val (w.withFollow "special-get-raises" true)) := by
 unfold openEnds Xt
 rewrite [te4187177175401517315, te5923862056798008813, te14364793385576792824, te5868089070849250262, te10556317031660193958, te3486900944545009338]
 kernel_rfl
theorem left : LeftO rowL.prog hd.view_1 looseL Xt hkL.obs hkL.val 3740 := byRow2 "special-get-raises" (P := fun w => (openEnds treeTable rowL.prog w 3740).map (fun s => (openSeen hd.view_1 looseL (importedModules rowL.prog.main.body) Xt true s, hkL.obs s)) = some (openGood hd.view_1 looseL, hkL.val w)) leftF leftT
theorem lawOk : PySem.Challenge.rw_xl0025_01.wellSaid = true := by kernel_rfl
end Mine
namespace Mine
noncomputable def cutT (h : Heap) : Heap := { h with objs := (h.objs.setIfInBounds 147 { cls := .none, data := .freed }).setIfInBounds 154 { cls := .none, data := .freed } }
theorem cutT_get (h : Heap) (b : Addr) (h1 : b ≠ 147) (h2 : b ≠ 154) : (cutT h).get? b = h.get? b := by
 unfold cutT Heap.get?
 rw [Array.getElem?_setIfInBounds, if_neg (Ne.symm h2), Array.getElem?_setIfInBounds, if_neg (Ne.symm h1)]
theorem cutT_none (h : Heap) (b : Addr) (hb : b = 147 ∨ b = 154) : (cutT h).get? b = none := by
 unfold cutT Heap.get?
 rcases hb with rfl | rfl
 ·rw [Array.getElem?_setIfInBounds, if_neg (by decide), Array.getElem?_setIfInBounds, if_pos rfl]
  by_cases q : 147 < h.objs.size
  ·rw [if_pos q]
  ·rw [if_neg q]
 ·rw [Array.getElem?_setIfInBounds, if_pos rfl]
  by_cases q : 154 < (h.objs.setIfInBounds 147 { cls := .none, data := .freed }).size
  ·rw [if_pos q]
  ·rw [if_neg q]
theorem cutT_stays (h : Heap) : (cutT h).StaysIn h := fun b o e => by
 by_cases h1 : b = 147
 ·rw [cutT_none h b (.inl h1)] at e; cases e
 by_cases h2 : b = 154
 ·rw [cutT_none h b (.inr h2)] at e; cases e
 rwa [cutT_get h b h1 h2] at e
noncomputable def tabOf (K : Frag) (n : Str) : Option Addr :=
 match nsIn K mainGlobals n with
 | some (some (.ref a)) => match K.lookup a with
  | some ⟨_, _, .func f, _⟩ => match f.code with
   | .ref c => match K.lookup c with
    | some ⟨_, _, .fields vs, _⟩ => match vs.getD 11 .none with
     | .ref P => some P
     | _ => none
    | _ => none
   | _ => none
  | _ => none
 | _ => none
noncomputable def tabsFar (K : Frag) (p : Program) : Bool := (recsOf p).all fun d => match tabOf K d.name with | some P => P != 147 && P != 154 | none => false
theorem far (w : World) : tabsFar (hd.heap_1 w.params) hd.view_1 = true := by kernel_rfl
theorem owns : ownsOf hd.view_1 = [] := by kernel_rfl
theorem addr_far (w : World) : ((hd.heap_1 w.params).map (·.1)).all (fun a => a != 147 && a != 154) = true := by kernel_rfl
set_option tactic.hygienic true in
theorem tab_eq {K : Frag} {h : Heap} {mg : NM} {n : Str} {a c P P' : Addr} {o : Obj} {fd : FuncData} {vs : Array Value} {oc : Obj} (X : K.In h) (G : h.Ns mainGlobals mg) (e : tabOf K n = some P') (h1 : mg n = some (.ref a)) (h2 : h.get? a = some o) (h3 : o.data = .func fd) (h4 : fd.code = .ref c)
  (h5 : h.get? c = some oc) (h6 : oc.data = .fields vs) (h7 : vs.getD 11 .none = .ref P) : P = P' := by
 unfold tabOf at e
 split at e
 ·rename_i a' hn
  have := mg_of X G hn
  rw [h1] at this
  cases this
  split at e
  ·rename_i f _ hk
   have q := X _ _ hk
   rw [h2] at q; cases q
   cases h3
   rw [h4] at e
   dsimp only at e
   split at e
   ·rename_i vs' _ hk2
    have q := X _ _ hk2
    rw [h5] at q; cases q
    cases h6
    rw [h7] at e
    cases e; rfl
   ·cases e
  ·cases e
 ·cases e
theorem ns_cut {h : Heap} {a : Addr} {m : NM} (x : h.Ns a m) (h1 : autoParam (a ≠ 147) tD) (h2 : autoParam (a ≠ 154) tD) : (cutT h).Ns a m := let ⟨o, es, ep, e, r⟩ := x; ⟨o, es, ep, (cutT_get h a h1 h2).trans e, r⟩
theorem isCode_cut {h : Heap} {c P : Addr} {tb : Array Value} (ec : (cutT h).get? c = h.get? c) (ep : (cutT h).get? P = h.get? P) (x : h.IsCode c P tb) : (cutT h).IsCode c P tb := by
 unfold Heap.IsCode
 rw [ec, ep]
 exact x
theorem tab_cut {h : Heap} {c P : Addr} {tb : Array Value} (ec : (cutT h).get? c = h.get? c) (ep : (cutT h).get? P = h.get? P) (x : h.TableAt c P tb) : (cutT h).TableAt c P tb := by
 unfold Heap.TableAt
 rw [ec, ep]
 exact x
set_option tactic.hygienic true in
theorem top_cut {w : World} {mg mb : NM} {h : Heap} {loose : List Str} {mean : ExcName → Option Value} (Y : (KT w.params).In h) (X : (hd.heap_1 w.params).In h) (T : Top hd.view_1 loose mean mg mb h) : Top hd.view_1 loose mean mg mb (cutT h) := by
 have e1 : h.get? 147 = some { cls := .none, data := .fields #[] } := Y _ _ (by rfl)
 have e2 : h.get? 154 = some { cls := .none, data := .fields #[] } := Y _ _ (by rfl)
 have get : ∀ {b o}, h.get? b = some o → o ≠ { cls := .none, data := .fields #[] } → (cutT h).get? b = some o := fun {b o} e ne => by
  refine (cutT_get h b (fun q => ?_) fun q => ?_).trans e
  ·rw [q, e1] at e; cases e; exact ne rfl
  ·rw [q, e2] at e; cases e; exact ne rfl
 have code : ∀ {cd q}, h.CodeRec cd q → (cutT h).CodeRec cd q := fun {cd q} x => by obtain ⟨c, o, vs, t, e, g, hdt, hv⟩ := x; exact ⟨c, o, vs, t, e, get g (fun q => by rw [q] at hdt; cases hdt; cases hv), hdt, hv⟩
 have bm : ∃ bm ob, mg "__builtins__" = some (.ref bm) ∧ bm ≠ builtinsNs ∧ (cutT h).get? bm = some ob ∧ ob.cls = .type "module" ∧ ob.dict = some builtinsNs ∧ ob.data = .plain :=
  by obtain ⟨bm, ob, h1, h2, h3, h4, r⟩ := T.bmain; exact ⟨bm, ob, h1, h2, get h3 (fun q => by rw [q] at h4; cases h4), h4, r⟩
 refine ⟨ns_cut T.g, ns_cut T.b, let ⟨mc, n, r⟩ := T.nolimit; ⟨mc, ns_cut n, r⟩, let ⟨mc, n, r⟩ := T.nodigits; ⟨mc, ns_cut n, r⟩, fun d hd => ?_, fun o ho => ?_, T.const, T.free, T.builtins, fun d hd => ?_, bm, fun hi => ?_⟩
 ·obtain ⟨a, o, pm, cd, doc, h1, h2, h3, h4⟩ := T.fn d hd
  exact ⟨a, o, pm, cd, doc, h1, get h2 (fun q => by rw [q] at h3; cases h3), h3, code h4⟩
 ·rw [owns] at ho; cases ho
 ·obtain ⟨a, o, fd, c, P, h1, h2, h3, h4, h5, h6⟩ := T.tab d hd
  have hf := List.all_eq_true.mp (far w) d hd
  split at hf
  ·rename_i P' hP
   obtain ⟨⟨oc, vs, k1, k2, k4, k5⟩, k3⟩ := id h6
   have hPP : P = P' := tab_eq X T.g hP h1 h2 h3 h4 k1 k4 (by rw [Array.getD_eq_getD_getElem?, k5]; rfl)
   subst hPP
   simp only [bne_iff_ne, Bool.and_eq_true] at hf
   have ec : (cutT h).get? c = h.get? c := (get k1 (fun q => by rw [q] at k4; cases k4; cases k5)).trans k1.symm
   have ep : (cutT h).get? P = h.get? P := cutT_get h P hf.1 hf.2
   exact ⟨a, o, fd, c, P, h1, get h2 (fun q => by rw [q] at h3; cases h3), h3, h4, isCode_cut ec ep h5, tab_cut ec ep h6⟩
  ·cases hf
 ·obtain ⟨⟨mc, s1, s2⟩, ⟨mm, m1, m2⟩, ⟨mb', b1, b2⟩, mg', bm, ob, h1, h2, h3, h4, h5⟩ := T.seer hi
  exact ⟨⟨mc, ns_cut s1, s2⟩, ⟨mm, ns_cut m1, m2⟩, ⟨mb', ns_cut b1, b2⟩, mg', bm, ob, ns_cut h1, h2, get h3 (fun q => by rw [q] at h4; cases h4), h4, h5⟩
theorem KT_sub {w : World} {h : Heap} (Y : (KT w.params).In h) : (hd.heap_1 w.params).In h := fun a o e => Y a o (by
 show List.lookup a (hd.heap_1 w.params ++ _) = _
 rw [List.lookup_append, e]; rfl)
theorem sit0 {w : World} {mg mb : NM} {s : Shared} {loose : List Str} {mean : ExcName → Option Value} (Y : (KT w.params).In s.heap) (T : Top hd.view_1 loose mean mg mb s.heap) (hg : s.gens = #[]) : Sit w mg mb (cutT s.heap) s := by
 have X := KT_sub Y
 refine ⟨⟨fun a o e => ?_, loose, mean, top_cut Y X T⟩, cutT_stays _, ⟨#[], Y _ _ (by rfl), .inl rfl⟩, ⟨#[], Y _ _ (by rfl), .inl rfl⟩, cutT_none _ _ (.inl rfl), cutT_none _ _ (.inr rfl), AllBare.of_eq hg⟩
 have hm : a ∈ (hd.heap_1 w.params).map (·.1) := by
  obtain ⟨l1, l2, q, _⟩ := List.lookup_eq_some_iff.mp e
  rw [q]; simp
 have := List.all_eq_true.mp (addr_far w) a hm
 simp only [bne_iff_ne, Bool.and_eq_true] at this
 exact (cutT_get _ a this.1 this.2).trans (X a o e)
end Mine
namespace Mine
noncomputable def codesTo (K : Frag) (c b : Addr) : Bool := match K.lookup c with | some ⟨.type t, _, .fields vs, _⟩ => t == "code" && (match vs.getD 11 .none with | .ref a => a == b | _ => false) | _ => false
set_option tactic.hygienic true in
theorem code_of {w : World} {h : Heap} {b : Addr} (Y : (KT w.params).In h) (c : Addr) (e : codesTo (KT w.params) c b = true) : isCodeTable h b := by
 unfold codesTo at e
 split at e
 ·rename_i t _ vs _ hk
  simp only [Bool.and_eq_true, beq_iff_eq] at e
  obtain ⟨rfl, e⟩ := e
  split at e
  ·rename_i a ha
   refine ⟨c, _, vs, Y _ _ hk, rfl, rfl, ?_⟩
   rw [Array.getD_eq_getD_getElem?] at ha
   cases q : vs[11]? with
   | none => rw [q] at ha; cases ha
   | some x => rw [q] at ha; rw [← beq_iff_eq.mp e]; exact congrArg some ha
  ·cases e
 ·cases e
theorem oldK {w : World} {s s' : Shared} (Y : (KT w.params).In s.heap) (k : Kp [] s s') : OldK s.heap s'.heap := by
 have e1 : s.heap.get? 147 = some { cls := .none, data := .fields #[] } := Y _ _ (by rfl)
 have e2 : s.heap.get? 154 = some { cls := .none, data := .fields #[] } := Y _ _ (by rfl)
 obtain ⟨m1, f1⟩ := k.t1 #[] e1
 obtain ⟨m2, f2⟩ := k.t2 #[] e2
 refine ⟨fun b o e => ?_, fun b o e => ?_⟩
 ·by_cases h1 : b = 147
  ·subst h1
   rw [e1] at e; cases e
   exact .inr (.inl ⟨code_of Y 151 (by kernel_rfl), rfl, #[], m1, rfl, f1⟩)
  by_cases h2 : b = 154
  ·subst h2
   rw [e2] at e; cases e
   exact .inr (.inl ⟨code_of Y 158 (by kernel_rfl), rfl, #[], m2, rfl, f2⟩)
  exact .inl (k.heap b o (by simp) h1 h2 e)
 ·by_cases h1 : b = 147
  ·subst h1; exact ⟨_, f1⟩
  by_cases h2 : b = 154
  ·subst h2; exact ⟨_, f2⟩
  exact ⟨o, k.heap b o (by simp) h1 h2 e⟩
end Mine
set_option tactic.hygienic true in
theorem PySem.Challenge.cw_xl0025_01_holds : PySem.Challenge.rw_xl0025_01.Holds := by
 refine holds_law Mine.lawOk fun said => ?_
 refine holds_open (q := Mine.hd.view_1) (loose := Mine.looseL) (Xt := Mine.Xt) (XP := XL Mine.hd.view_1 []) (Yf := Mine.hkL.obs) (Ya := Mine.hkL.val) (YP := Mine.hkL.says) (N := 3740) Mine.left Mine.hkL.of Mine.hkL.keeps (fun s e => xl_of s (Bool.and_eq_true_iff.mp e).1) XL.keeps (by rfl) (by rfl) (by rfl) (fun s e => recFacts_of (Bool.and_eq_true_iff.mp e).2) (by rfl) said (by decide +kernel) ⟨rfl, rfl, rfl, rfl, rfl, by decide +kernel⟩ ?hw ?hc
 case hw => w_witness2
 case hc =>
  intro w s₀ s₁ mg mb G Y fa o pm cd doc dV kV ho hd hcd hD hmg hg args vals as hpre hlay hrd hwl hlo
  have KX := kIn_of Y
  refine Ground.open G ?_
  intro T B D TE TW
  wrow_args hpre hlay hrd hwl hlo
  rename_i xs _ _ _ _ _ _ _ l vs _ hL _ _ _ hI _ hlen _
  clear hd hcd hD
  have hf : fa = 296 := by
   have e := mg_of (Mine.KT_sub KX) T.g (n := "law") (v := .ref 296) (by k_is)
   rw [hmg] at e; cases e; rfl
  subst hf
  refine Mine.law_k (Mine.sit0 KX T hg) ⟨rfl, by decide, by decide⟩ hL hI (by lia) fun s' S' k => ?_
  exact ⟨.inl ⟨.bool true, _, [], rfl, fun cls => rfl, .bool true, postW_of (by wrow_shape) (by wtm_val) (by str_meet; first | done | w_fin), fun ι => ⟨List.nodup_nil, by simp⟩⟩, Mine.oldK KX k, k.os, S'.bare⟩
