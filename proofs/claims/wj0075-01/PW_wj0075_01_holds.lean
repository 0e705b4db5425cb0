import PyProof.Rows.All
import Wide.All
import OpenK.AllK
import Wide.FinOn
import PySem.Challenge.RW_wj0075_01
open PySem PySem.W PyProof.Rows
set_option Elab.async false
set_option maxRecDepth 100000
local macro_rules | `(tactic| walk_at $s:str) => `(tactic| k_extra $s)
section
open PySem PySem.W PyProof.Rows
set_option maxRecDepth 100000
set_option maxHeartbeats 8000000
namespace Mine
section
/- the written part of the heap that the top leaves, as the kit's k_head writes it: here only the constant kk.heap_1 is wanted, so the head behind it is not run -/
local macro_rules | `(tactic| o_head ($_ $k $_ $_)) => `(tactic| exact (‹∀ k : Params → Frag, k = _ → _› : ∀ k : Params → Frag, k = _ → _) $k rfl)
noncomputable def kk : Params → Frag := by
  refine' (fun (K : Params → Frag) (_ : (∀ k : Params → Frag, k = K → (PySem.Challenge.rw_wj0075_01.row).Holds) → (PySem.Challenge.rw_wj0075_01.row).Holds) => K) _ (fun h => ?_)
  rotate_left
  k_head
end
noncomputable def VV : Program := view PySem.Challenge.rw_wj0075_01.prog ([0, 1] ++ (List.range 53).map (· + 3) ++ [57, 58, 60, 61, 62, 64, 66, 67, 68, 69])
end Mine
end
section
open PySem PySem.W PyProof.Rows PySem.Calls
set_option maxRecDepth 100000
set_option maxHeartbeats 1000000
namespace Mine
noncomputable abbrev VW : Program := VV
noncomputable abbrev PR : Program := PySem.Challenge.rw_wj0075_01.prog

noncomputable abbrev AA (dp un : Nat) (fr : Option (List Env)) (gd : Option (List Code)) : Around := { handled := none, depth := dp, frames := fr, guards := gd, units := un }

/-- all but the written places stand -/
noncomputable def Ext (h h' : Heap) (W : List Addr) : Prop := ∀ b o, h.get? b = some o → b ∉ W → h'.get? b = some o
theorem Ext.refl (h : Heap) (W : List Addr) : Ext h h W := fun _ _ e _ => e
theorem Ext.trans {h h' h'' : Heap} {W : List Addr} (x : Ext h h' W) (y : Ext h' h'' W) : Ext h h'' W := fun b o e n => y b o (x b o e n) n
theorem Ext.mono {h h' : Heap} {W W' : List Addr} (x : Ext h h' W) (hs : ∀ a ∈ W, a ∈ W') : Ext h h' W' := fun b o e n => x b o e fun m => n (hs b m)

structure Gnd (w : World) (lo : List Str) (mean : ExcName → Option Value) (mg mb : Str → Option Value) (g : Heap) : Prop where
  X : (kk.heap_1 w.params).In g
  T : Top VW lo mean mg mb g

theorem Gnd.keeps {w lo mean mg mb} {g h : Heap} (G : Gnd w lo mean mg mb g) (k : ∀ b o, g.get? b = some o → h.get? b = some o) : Gnd w lo mean mg mb h :=
  ⟨G.X.keeps k, G.T.keeps k⟩

section
variable {w : World} {lo : List Str} {mean : ExcName → Option Value} {mg mb : Str → Option Value} {g : Heap} {s : Shared} {dp un : Nat} {fr : Option (List Env)} {gd : Option (List Code)}
  {R : Result → Shared → Prop} {name qual : Str} {params : Arguments} {body : List Stmt} {scope : Scope} {dV kV doc pm cdv ct oc : Value} {an od : Option Addr} {osl : Array (Option Value)} {f : Addr} {args : Args} {binds : List (Str × Value)}
theorem enterC (W : List Addr) (G : Gnd w lo mean mg mb g) (Bs : ∀ b o, g.get? b = some o → s.heap.get? b = some o) (hW : ∀ a ∈ W, g.get? a = none)
    (ho : (kk.heap_1 w.params).lookup f = some ⟨oc, od, .func (fnOf name qual params body scope dV kV doc pm an cdv ct), osl⟩) (hcd : codeIn (kk.heap_1 w.params) cdv qual = true) (hroom : dp < recursionLimit)
    (hbind : BindsTo s (fnOf name qual params body scope dV kV doc pm an cdv ct) args binds) (hloc : ∀ y ∈ binds, scope.names.lookup y.1 = some .local)
    (h : ∀ h₀ L h₁, Gnd w lo mean mg mb h₀ → (∀ b o, h₀.get? b = some o → s.heap.get? b = some o) → (∀ b o, s.heap.get? b = some o → b ∉ W → h₀.get? b = some o) → (∀ a ∈ W, h₀.get? a = none) →
      Fr h₀ L h₁ (fun y => binds.reverse.lookup y) → s.heap.get? L = none → (∀ b o, s.heap.get? b = some o → h₁.get? b = some o) →
      wpAny (model PR w) (AA (dp + 1) (un + 3) (fr.map (envOf qual scope L f cdv :: ·)) gd) (execs body (envOf qual scope L f cdv))
        (fun fl s' => R (.ok (.ret (match fl with | .ret v => v | _ => .none))) s') (fun _ _ => False) { s with heap := h₁, toks := s.toks + binds.length })
    (hco : scope.isCoroutine = false) (hgen : scope.isGenerator = false) (hk : scope.kind = .function) (hcell : ∀ x ∈ scope.names, x.2 ≠ .cell) :
    codeAny (model PR w) (AA dp un fr gd) (.call (.ref f) args) R s := by
  refine codeAny_call_def (fd := fnOf name qual params body scope dV kV doc pm an cdv ct) (body := body) (binds := binds) hroom (Bs _ _ (G.X _ _ ho)) rfl (G.T.nolimit.keeps Bs) (codeRec_of (G.X.keeps Bs) hcd) rfl hbind hcell hloc (fun h₁ hns hk₁ => ?_) hco hgen hk
  have st : ∀ b o, g.get? b = some o → (hideAll s.heap W).get? b = some o := fun b o e => hideAll_get _ (Bs b o e) fun q => by
    rw [hW b q] at e; cases e
  refine wpAny_mono (h (hideAll s.heap W) s.heap.objs.size h₁ (G.keeps st) (fun b o e => of_hideAll _ e) (fun b o e n => hideAll_get _ e n) (fun a m => hideAll_none _ m)
    ⟨hns, fun b o e => hk₁ b o (of_hideAll _ e), Nat.le_of_eq (hideAll_size _ _)⟩ ?_ hk₁) (fun fl s' hl => hl) fun _ _ y => y.elim
  cases q : s.heap.get? s.heap.objs.size with
  | none => rfl
  | some o => exact absurd (Heap.lt_size q) (Nat.lt_irrefl _)
end
section
variable {w : World} {lo : List Str} {mean : ExcName → Option Value} {mg mb : Str → Option Value} {g : Heap} {s : Shared} {dp un : Nat} {fr : Option (List Env)} {gd : Option (List Code)}
  {R : Result → Shared → Prop} {name qual : Str} {params : Arguments} {body : List Stmt} {scope : Scope} {dV kV doc pm cdv ct oc : Value} {an od : Option Addr} {osl : Array (Option Value)} {f : Addr} {args : Args} {binds : List (Str × Value)}
/-- as enterC, for a def some of whose names are captured -/
theorem enterCC (W : List Addr) (G : Gnd w lo mean mg mb g) (Bs : ∀ b o, g.get? b = some o → s.heap.get? b = some o) (hW : ∀ a ∈ W, g.get? a = none)
    (ho : (kk.heap_1 w.params).lookup f = some ⟨oc, od, .func (fnOf name qual params body scope dV kV doc pm an cdv ct), osl⟩) (hcd : codeIn (kk.heap_1 w.params) cdv qual = true) (hroom : dp < recursionLimit)
    (hbind : BindsTo s (fnOf name qual params body scope dV kV doc pm an cdv ct) args binds) (hkind : (binds.all fun y => scope.names.lookup y.1 == some .local || scope.names.lookup y.1 == some .cell) = true)
    (hnd : ((cellsFrom 0 scope.names []).map (·.1)).Nodup)
    (h : ∀ h₀ L h₁ tk cells, Gnd w lo mean mg mb h₀ → (∀ b o, h₀.get? b = some o → s.heap.get? b = some o) → (∀ b o, s.heap.get? b = some o → b ∉ W → h₀.get? b = some o) → (∀ a ∈ W, h₀.get? a = none) →
      Fr h₀ L h₁ (bindL (envOfC qual scope L f cdv).kindOf binds fun _ => none) → News h₀ L h₁ cells → CellsAre (bindC (envOfC qual scope L f cdv).kindOf binds fun _ => none) (cellsFrom (L + 1) scope.names []) cells →
      (∀ p ∈ cells, s.heap.get? p.1 = none) → s.heap.get? L = none → (∀ b o, s.heap.get? b = some o → h₁.get? b = some o) →
      wpAny (model PR w) (AA (dp + 1) (un + 3) (fr.map (envOfC qual scope L f cdv :: ·)) gd) (execs body (envOfC qual scope L f cdv))
        (fun fl s' => R (.ok (.ret (match fl with | .ret v => v | _ => .none))) s') (fun _ _ => False) { s with heap := h₁, toks := tk })
    (hco : scope.isCoroutine = false) (hgen : scope.isGenerator = false) (hk : scope.kind = .function) :
    codeAny (model PR w) (AA dp un fr gd) (.call (.ref f) args) R s := by
  refine codeAny_call_function (fd := fnOf name qual params body scope dV kV doc pm an cdv ct) hroom (Bs _ _ (G.X _ _ ho)) rfl hco hgen rfl (codeRec_of (G.X.keeps Bs) hcd) (hbind _ _ _ _ ?_)
  refine wpAny_newFunctionEnv_cells hk (kindsX hkind _) fun env' he s' x => ?_
  subst he
  refine ⟨(G.T.nolimit.keeps Bs).keeps x.toInCall.keep, codeAny_func ?_⟩
  obtain ⟨h₁, tk, rfl, _⟩ := x.done
  have hk₁ := x.toInCall.keep
  have st : ∀ b o, g.get? b = some o → (hideAll s.heap W).get? b = some o := fun b o e => hideAll_get _ (Bs b o e) fun q => by
    rw [hW b q] at e; cases e
  obtain ⟨cells, NC, Y⟩ := Cl.news (h₀ := s.heap) (Nat.le_refl _) fun n c hm => ⟨x.cell n c (lookup_of_mem_nodup (cellsFrom_names scope.names 0 (s.heap.objs.size + 1) [] [] rfl ▸ hnd) hm), x.above n c hm⟩
  refine wpAny_mono (h (hideAll s.heap W) s.heap.objs.size h₁ tk cells (G.keeps st) (fun b o e => of_hideAll _ e) (fun b o e n => hideAll_get _ e n) (fun a m => hideAll_none _ m)
    ⟨x.toInCall.ns, fun b o e => hk₁ b o (of_hideAll _ e), Nat.le_of_eq (hideAll_size _ _)⟩ (fun p hp => ?_) Y (fun p hp => (NC p hp).2.2) ?_ hk₁) (fun fl s' hl => hl) fun _ _ y => y.elim
  · refine ⟨(NC p hp).1, (NC p hp).2.1, ?_⟩
    cases q : (hideAll s.heap W).get? p.1 with
    | none => rfl
    | some o => have := of_hideAll _ q; rw [(NC p hp).2.2] at this; cases this
  · cases q : s.heap.get? s.heap.objs.size with
    | none => rfl
    | some o => exact absurd (Heap.lt_size q) (Nat.lt_irrefl _)
end
theorem Ext.fr {h₀ h h' : Heap} {L : Addr} {m : Str → Option Value} {W : List Addr} (x : Ext h h' W) (F : Fr h₀ L h m) (hL : L ∉ W) (hW : ∀ a ∈ W, h₀.get? a = none) : Fr h₀ L h' m :=
  ⟨F.ns.at' fun o e => x _ o e hL, fun b o e => x b o (F.keep b o e) fun q => (by rw [hW b q] at e; cases e), F.above⟩
theorem Ext.news {h₀ h h' : Heap} {L : Addr} {news : List (Addr × Obj)} {W : List Addr} (x : Ext h h' W) (N : News h₀ L h news) (hn : ∀ p ∈ news, p.1 ∉ W) : News h₀ L h' news :=
  fun p hp => ⟨x _ _ (N p hp).1 (hn p hp), (N p hp).2⟩
theorem Ext.fr0 {h₀ h h' : Heap} {L : Addr} {m : Str → Option Value} (x : Ext h h' []) (F : Fr h₀ L h m) : Fr h₀ L h' m := x.fr F (by simp) (by simp)
theorem Ext.news0 {h₀ h h' : Heap} {L : Addr} {news : List (Addr × Obj)} (x : Ext h h' []) (N : News h₀ L h news) : News h₀ L h' news := x.news N (by simp)
/-- the walk stops here -/
noncomputable def Stop (P : Prop) : Prop := P
theorem Stop.of {P : Prop} (h : Stop P) : P := h
theorem Stop.go {P : Prop} (h : P) : Stop P := h

theorem of_peekA {α : Type} {K : Frag} {M : Model} {A : Around} {E : Value → Shared → Prop} {Q : α → Shared → Prop} {s : Shared} {o : Obj} (X : K.In s.heap) :
    ∀ (t : Sem α) (g : Addr → Sem α), peekA K ⟨M.prog, M.w.params⟩ t = some (o, g) → wpAny M A (g s.heap.objs.size) Q E { s with heap := s.heap.push o } → wpAny M A t Q E s := by
  intro t
  induction t with
  | rule _ k ih => intro g e q Γ p hΓ; exact ih () g e q Γ p hΓ
  | point _ k ih => intro g e q Γ p hΓ; exact ih () g e q Γ p hΓ
  | ask k ih => intro g e q Γ p hΓ; exact ih _ g e q Γ p hΓ
  | load a _ k ih =>
    intro g e q Γ p hΓ
    simp only [peekA] at e
    split at e
    · rename_i ob ho; exact ⟨ob, X _ _ ho, ih ob g e q Γ p hΓ⟩
    · cases e
  | alloc ob k _ =>
    intro g e q
    have e : some (ob, k) = some (o, g) := e
    obtain ⟨e1, e2⟩ := Prod.mk.inj (Option.some.inj e)
    subst e1
    subst e2
    show wpAny M A (alloc ob >>= k) Q E s
    exact wpAny_bind (wpAny_alloc q)
  | _ => intro g e; cases e

section
variable {w : World} {lo : List Str} {mean : ExcName → Option Value} {mg mb : Str → Option Value} {g : Heap} {s : Shared} {dp un : Nat} {fr : Option (List Env)} {gd : Option (List Code)}
  {R : Result → Shared → Prop} {name qual : Str} {params : Arguments} {body : List Stmt} {scope : Scope} {dV kV doc pm cdv ct oc : Value} {an od : Option Addr} {osl : Array (Option Value)} {f : Addr} {args : Args} {binds : List (Str × Value)}
/-- as enterC; the binding changes the state -/
theorem enterS (W : List Addr) (s₁ : Shared) (G : Gnd w lo mean mg mb g) (Bs : ∀ b o, g.get? b = some o → s.heap.get? b = some o) (k₁ : ∀ b o, s.heap.get? b = some o → s₁.heap.get? b = some o) (hW : ∀ a ∈ W, g.get? a = none)
    (ho : (kk.heap_1 w.params).lookup f = some ⟨oc, od, .func (fnOf name qual params body scope dV kV doc pm an cdv ct), osl⟩) (hcd : codeIn (kk.heap_1 w.params) cdv qual = true) (hroom : dp < recursionLimit)
    (hbind : ∀ (A : Around) (E : Value → Shared → Prop) (Q : List (Str × Value) → Shared → Prop), Q binds s₁ → wpAny (model PR w) A (bindArgs (fnOf name qual params body scope dV kV doc pm an cdv ct) args) Q E s) (hloc : ∀ y ∈ binds, scope.names.lookup y.1 = some .local)
    (h : ∀ h₀ L h₁, Gnd w lo mean mg mb h₀ → (∀ b o, h₀.get? b = some o → s₁.heap.get? b = some o) → (∀ b o, s₁.heap.get? b = some o → b ∉ W → h₀.get? b = some o) → (∀ a ∈ W, h₀.get? a = none) →
      Fr h₀ L h₁ (fun y => binds.reverse.lookup y) → s₁.heap.get? L = none → (∀ b o, s₁.heap.get? b = some o → h₁.get? b = some o) →
      wpAny (model PR w) (AA (dp + 1) (un + 3) (fr.map (envOf qual scope L f cdv :: ·)) gd) (execs body (envOf qual scope L f cdv))
        (fun fl s' => R (.ok (.ret (match fl with | .ret v => v | _ => .none))) s') (fun _ _ => False) { s₁ with heap := h₁, toks := s₁.toks + binds.length })
    (hco : scope.isCoroutine = false) (hgen : scope.isGenerator = false) (hk : scope.kind = .function) (hcell : ∀ x ∈ scope.names, x.2 ≠ .cell) :
    codeAny (model PR w) (AA dp un fr gd) (.call (.ref f) args) R s := by
  have Bs₁ : ∀ b o, g.get? b = some o → s₁.heap.get? b = some o := fun b o e => k₁ b o (Bs b o e)
  refine codeAny_call_function (fd := fnOf name qual params body scope dV kV doc pm an cdv ct) hroom (Bs _ _ (G.X _ _ ho)) rfl hco hgen rfl (codeRec_of (G.X.keeps Bs) hcd) (hbind _ _ _ ?_)
  refine wpAny_newFunctionEnv hcell hloc (fun h₁ hns hsb => ⟨(G.T.nolimit.keeps Bs₁).fresh _ hsb, codeAny_func ?_⟩) hk
  have hk₁ : ∀ b o, s₁.heap.get? b = some o → h₁.get? b = some o := fun b o e => hsb.extBut b o (Nat.ne_of_lt (Heap.lt_size e)) (Heap.get?_push_of_some _ e)
  have st : ∀ b o, g.get? b = some o → (hideAll s₁.heap W).get? b = some o := fun b o e => hideAll_get _ (Bs₁ b o e) fun q => by
    rw [hW b q] at e; cases e
  refine wpAny_mono (h (hideAll s₁.heap W) s₁.heap.objs.size h₁ (G.keeps st) (fun b o e => of_hideAll _ e) (fun b o e n => hideAll_get _ e n) (fun a m => hideAll_none _ m)
    ⟨hns, fun b o e => hk₁ b o (of_hideAll _ e), Nat.le_of_eq (hideAll_size _ _)⟩ ?_ hk₁) (fun fl s' hl => hl) fun _ _ y => y.elim
  cases q : s₁.heap.get? s₁.heap.objs.size with
  | none => rfl
  | some o => exact absurd (Heap.lt_size q) (Nat.lt_irrefl _)
end
theorem news_ne {h₀ h : Heap} {L : Addr} {news : List (Addr × Obj)} {p q : Addr × Obj} (N : News h₀ L h news) (hp : p ∈ news) (hq : q ∈ news) (hc : p.2.cls ≠ q.2.cls) : p.1 ≠ q.1 := fun e => by
  have a := (N p hp).1
  have b := (N q hq).1
  rw [e, b] at a
  exact hc (by rw [Option.some.inj a])
theorem news_add {h₀ h : Heap} {L a : Addr} {o : Obj} {news : List (Addr × Obj)} (N : News h₀ L h news) (ho : h.get? a = some o) (hL : a ≠ L) (h0 : h₀.get? a = none) : News h₀ L h ((a, o) :: news) := fun p hp => by
  rcases List.mem_cons.mp hp with rfl | hp
  · exact ⟨ho, hL, h0⟩
  · exact N p hp
end Mine
end
section
open PySem PySem.W PyProof.Rows PySem.Calls
set_option maxRecDepth 100000
set_option maxHeartbeats 2000000
namespace Mine
open PySem.Builtin PySem.Builtin.Re

theorem slot_re_search : Slot "re.Pattern" "search" "re.Pattern.search" :=
  .of (owner := "re.Pattern") (n := "search") (by rw [typeLookup_type, builtinLookup_eq_fast]; kernel_rfl) (by decide +kernel) (by decide +kernel) (by decide +kernel)
    (by first | exact .inl (by decide +kernel) | exact .inr (by decide +kernel)) (by rw [isSubtype_type]; kernel_rfl)
theorem type_re_search : typeOf (.builtin "re.Pattern.search") = pure (.type "method_descriptor") := by show builtinType _ = _; rw [builtinType_eq_fast]; kernel_rfl
theorem entry_re_search : entryFor table "re.Pattern.search" = some Builtin.«re.Pattern.search» := entryFor_of_tree (by kernel_rfl)
theorem plain_re : PlainAttrs "re.Pattern" := ⟨⟨"object.__getattribute__", by rw [typeLookup_type, builtinLookup_eq_fast]; kernel_rfl, by decide +kernel⟩, by rw [typeLookup_type, builtinLookup_eq_fast]; kernel_rfl⟩
theorem args_re_search (a b : Value) : argsOk "re.Pattern.search" ⟨[a, b], []⟩ := by
  unfold argsOk; kernel_rfl

theorem named_search (v : Value) : reNamed "re.Pattern.search" "search" ["string", "pos", "endpos"] 1 [v] [] = pure [some v, none, none] := by kernel_rfl

theorem admitted_none {m : Sre.M} (hset : ∀ c, c ∈ m.text → ∀ seen, ∃ seen', Sre.inSet m.code c m.code.size 5 true seen = .ok (false, seen')) (hl : m.lim ≤ m.text.size) :
    ∀ (fuel s : Nat) (seen : Sre.Seen), m.lim < s + fuel → ∃ seen', Sre.M.admitted m fuel s seen = .ok (none, seen')
  | 0, s, seen, _ => ⟨seen, rfl⟩
  | fuel + 1, s, seen, h => by
    unfold Sre.M.admitted
    by_cases hs : s ≥ m.lim
    · rw [if_pos hs]; exact ⟨seen, rfl⟩
    · rw [if_neg hs]
      have hlt : s < m.text.size := by omega
      obtain ⟨seen', e⟩ := hset (m.text.getD s 0) (by rw [Array.getD_eq_getD_getElem?, Array.getElem?_eq_getElem hlt]; exact Array.getElem_mem hlt) seen
      rw [e]
      exact admitted_none hset hl fuel (s + 1) seen' (by omega)

theorem attempt_none {m : Sre.M} (hf : m.hasFirstSet = true) (hset : ∀ c, c ∈ m.text → ∀ seen, ∃ seen', Sre.inSet m.code c m.code.size 5 true seen = .ok (false, seen')) (hl : m.lim ≤ m.text.size) :
    ∃ seen, m.attemptFrom 0 true = ({ m with seen := seen } : Sre.M).say false := by
  obtain ⟨seen', e⟩ := admitted_none hset hl (m.lim + 1 - 0) 0 m.seen (by omega)
  refine ⟨seen', ?_⟩
  unfold Sre.M.attemptFrom
  rw [hf, e]
  rfl

theorem forSearch_fails {code text : Array Nat} {k : Nat} (hh : Sre.header code = (1, k)) (h0 : code.getD 0 0 = 14) (h2 : code.getD 2 0 = 4)
    (hset : ∀ c, c ∈ text → ∀ seen, ∃ seen', Sre.inSet code c code.size 5 true seen = .ok (false, seen')) :
    ∃ m : Sre.M, Sre.forSearch code text 0 0 text.size false = m ∧ m.answer = some false ∧ m.frames = [] ∧ m.outcome = none := by
  unfold Sre.forSearch
  simp only [hh, h2]
  split
  · exact ⟨_, rfl, rfl, rfl, rfl⟩
  · refine (?_ : ∀ m : Sre.M, m.code = code → m.text = text → m.lim = text.size → m.outcome = none → m.frames = [] → ∃ m' : Sre.M, m.attemptFrom 0 true = m' ∧ m'.answer = some false ∧ m'.frames = [] ∧ m'.outcome = none) _ rfl rfl rfl rfl rfl
    intro m e1 e2 e3 e4 e5
    obtain ⟨seen, e⟩ := attempt_none (m := m) (by
        unfold Sre.M.hasFirstSet
        rw [e1, h0, h2]; rfl) (by rw [e1, e2]; exact hset) (by rw [e2, e3]; exact Nat.le_refl _)
    exact ⟨_, e, rfl, e5, e4⟩

theorem drive_fails {m : Sre.M} (ha : m.answer = some false) (hfr : m.frames = []) (ho : m.outcome = none) (n : Nat) : reDrive (n + 1) m = pure { m with outcome := some .failed } := by
  have hs : m.step = { m with outcome := some .failed } := by
    unfold Sre.M.step
    rw [ho, ha, hfr]
    rfl
  have hr : m.runFor reTurnSteps = { m with outcome := some .failed } := by
    show m.runFor 4 = _
    unfold Sre.M.runFor
    rw [ho, hs]
    rfl
  unfold reDrive
  rw [hr]
  rfl

section
variable {prog : Program} {w : World} {A : Around} {E : Value → Shared → Prop} {s : Shared} {Q : Value → Shared → Prop}
theorem seen_rules {seen : Sre.Seen} {Q : Unit → Shared → Prop} (h : Q () s) : ∀ l : List Nat, wpAny (model prog w) A (forIn l () fun i _ => if seen.has i = true then (do rule (Sre.names.getD i ""); pure (ForInStep.yield ())) else pure (ForInStep.yield ())) Q E s
  | [] => wpAny_pure h
  | i :: l => by
    rw [List.forIn_cons]
    refine wpAny_bind ?_
    split
    · exact wpAny_bind (wpAny_rule (wpAny_pure (seen_rules h l)))
    · exact wpAny_pure (seen_rules h l)

theorem toEnd_fails {m : Sre.M} (ha : m.answer = some false) (hfr : m.frames = []) (ho : m.outcome = none) {Q : Option Sre.M → Shared → Prop} (h : Q none s) : wpAny (model prog w) A (reRunToEnd m) Q E s := by
  unfold reRunToEnd
  refine wpAny_bind ?_
  rw [show (2 : Nat) ^ 64 = (2 ^ 64 - 1) + 1 from by decide, drive_fails ha hfr ho]
  refine wpAny_pure ?_
  refine wpAny_bind (seen_rules ?_ _)
  exact wpAny_pure h

theorem search_none {P C : Addr} {po co : Obj} {fs items : Array Value} {n : Nat} {v : Str} {tk : Tok}
    (hp : s.heap.get? P = some po) (hc : po.cls = .type "re.Pattern") (hf : po.data = .fields fs) (h5 : fs.getD 5 .none = .ref C) (h6 : reRawNat (fs.getD 6 .none) = 0) (h2 : reRawNat (fs.getD 2 .none) = 0)
    (hC : s.heap.get? C = some co) (hd : co.data = .seq items n) {code : Array Nat} (hcode : (items.map reRawOf).map (·.toNat) = code)
    {k : Nat} (hh : Sre.header code = (1, k)) (hc0 : code.getD 0 0 = 14) (hc2 : code.getD 2 0 = 4)
    (hset : ∀ c, c ∈ v.cps → ∀ seen, ∃ seen', Sre.inSet code c code.size 5 true seen = .ok (false, seen')) (hsz : v.length ≤ sizeLine) (h : Q .none s) :
    wpAny (model prog w) A (call (.builtin "re.Pattern.search") [.ref P, .str v tk]) Q E s := by
  have hT : s.TypeIs (.ref P) "re.Pattern" := ⟨po, hp, hc⟩
  refine wpAny_call_entry slot_re_search hT entry_re_search ?_ (args_re_search _ _)
  unfold Builtin.«re.Pattern.search»
  refine wpAny_bind ?_
  unfold reTarget
  simp only []
  rw [named_search]
  refine wpAny_bind (wpAny_pure ?_)
  simp only []
  refine wpAny_bind (wpAny_pure ?_)
  refine wpAny_bind (wpAny_pure ?_)
  refine wpAny_bind (wpAny_fieldsOf hp hf ?_)
  refine wpAny_bind (wpAny_of_eq (a := (v.cps, 0)) rfl ?_)
  simp only [h6, h2, h5]
  rw [if_neg (by decide), if_neg (by decide)]
  refine wpAny_bind (wpAny_of_eq (a := ()) rfl ?_)
  unfold reRawItems
  refine wpAny_bind (wpAny_bind (wpAny_seqItems hC hd (wpAny_pure (wpAny_pure ?_))))
  have hlim : Min.min (2 ^ 63 - 1 : Int).toNat v.cps.size = v.cps.size := by
    have : v.cps.size ≤ sizeLine := hsz
    rw [sizeLine_eq] at this
    omega
  have e0 : Min.min (Int.toNat 0) v.cps.size = 0 := by simp
  simp only [Option.getD_some, hcode, hlim, e0]
  obtain ⟨m, em, a1, a2, a3⟩ := forSearch_fails hh hc0 hc2 hset
  rw [em]
  unfold reAnswer
  refine wpAny_bind (toEnd_fails a1 a2 a3 ?_)
  exact wpAny_pure ⟨_, rfl, h⟩
end
end Mine
end
section
open PySem PySem.W PyProof.Rows PySem.Calls
set_option maxRecDepth 100000
set_option maxHeartbeats 2000000
namespace Mine
open PySem.Builtin PySem.Builtin.Re
theorem fillit : (fun (_ : Params → Frag) (_ : OpenLaw) => True) kk.heap_1 PySem.Challenge.rw_wj0075_01 := by k_fill; trivial

/-- no sign that the headers refuse -/
noncomputable def Clean (v : Str) : Prop := ∀ c, c ∈ v.cps → 32 ≤ c ∧ c < 127

noncomputable def codeN : Array Nat := #[14, 10, 4, 1, 1, 22, 0, 31, 16, 127, 0, 13, 7, 22, 0, 31, 16, 127, 0, 1]
noncomputable def codeV : Array Nat := #[14, 14, 4, 1, 1, 9, 4294966783, 0, 0, 2147483648, 0, 0, 0, 0, 0, 13, 11, 9, 4294966783, 0, 0, 2147483648, 0, 0, 0, 0, 0, 1]

theorem setN {c : Nat} (h : 32 ≤ c ∧ c < 127) (seen : Sre.Seen) : ∃ seen', Sre.inSet codeN c codeN.size 5 true seen = .ok (false, seen') := by
  show ∃ seen', Sre.inSet codeN c (17 + 3) 5 true seen = .ok (false, seen')
  unfold Sre.inSet
  simp only [show codeN.getD (5 + 0) 0 = 22 from rfl, show codeN.getD (5 + 1) 0 = 0 from rfl, show codeN.getD (5 + 2) 0 = 31 from rfl, show Sre.ops[22]? = some Sre.Op.RANGE from rfl]
  rw [if_neg (by simp; omega)]
  unfold Sre.inSet
  simp only [show codeN.getD (5 + 3 + 0) 0 = 16 from rfl, show codeN.getD (5 + 3 + 1) 0 = 127 from rfl, show Sre.ops[16]? = some Sre.Op.LITERAL from rfl]
  rw [if_neg (by simp; omega)]
  unfold Sre.inSet
  simp only [show codeN.getD (5 + 3 + 2 + 0) 0 = 0 from rfl, show Sre.ops[0]? = some Sre.Op.FAILURE from rfl]
  exact ⟨_, rfl⟩

theorem setV {c : Nat} (h : 32 ≤ c ∧ c < 127) (seen : Sre.Seen) : ∃ seen', Sre.inSet codeV c codeV.size 5 true seen = .ok (false, seen') := by
  show ∃ seen', Sre.inSet codeV c (26 + 2) 5 true seen = .ok (false, seen')
  unfold Sre.inSet
  simp only [show codeV.getD (5 + 0) 0 = 9 from rfl, show Sre.ops[9]? = some Sre.Op.CHARSET from rfl]
  have hb : (codeV.getD (5 + (1 + c / 32)) 0).testBit (c % 32) = false := by
    obtain ⟨h1, h2⟩ := h
    have key : ∀ d : Nat, d < 95 → (codeV.getD (5 + (1 + (d + 32) / 32)) 0).testBit ((d + 32) % 32) = false := by decide +kernel
    have := key (c - 32) (by omega)
    rwa [Nat.sub_add_cancel h1] at this
  rw [if_neg (by rw [hb]; simp)]
  unfold Sre.inSet
  simp only [show codeV.getD (5 + 9 + 0) 0 = 0 from rfl, show Sre.ops[0]? = some Sre.Op.FAILURE from rfl]
  exact ⟨_, rfl⟩

section
variable {w : World} {lo : List Str} {mean : ExcName → Option Value} {mg mb : Str → Option Value} {g : Heap} {s : Shared} {dp un : Nat} {fr : Option (List Env)} {gd : Option (List Code)} {Q : Value → Shared → Prop} {E : Value → Shared → Prop}

theorem searchN {A : Around} {h : Heap} (X : (kk.heap_1 w.params).In h) {v : Str} {tk : Tok} (hv : Clean v) (hsz : v.length ≤ sizeLine) (hk : ∀ b o, h.get? b = some o → s.heap.get? b = some o) (hq : Q .none s) :
    wpAny (model PR w) A (call (.builtin "re.Pattern.search") [.ref 149, .str v tk]) Q E s :=
  search_none (hk _ _ (X 149 _ (by k_is))) rfl rfl rfl rfl rfl (hk _ _ (X 148 _ (by k_is))) rfl (k := 11) (code := codeN) (by decide +kernel) (by decide +kernel) rfl rfl (fun c hc seen => setN (hv c hc) seen) hsz hq
theorem searchV {A : Around} {h : Heap} (X : (kk.heap_1 w.params).In h) {v : Str} {tk : Tok} (hv : Clean v) (hsz : v.length ≤ sizeLine) (hk : ∀ b o, h.get? b = some o → s.heap.get? b = some o) (hq : Q .none s) :
    wpAny (model PR w) A (call (.builtin "re.Pattern.search") [.ref 154, .str v tk]) Q E s :=
  search_none (hk _ _ (X 154 _ (by k_is))) rfl rfl rfl rfl rfl (hk _ _ (X 153 _ (by k_is))) rfl (k := 15) (code := codeV) (by decide +kernel) (by decide +kernel) rfl rfl (fun c hc seen => setV (hv c hc) seen) hsz hq
theorem methodN {A : Around} {h : Heap} {pl : Sem Bool} {Q : Value × List Value → Shared → Prop} (X : (kk.heap_1 w.params).In h) (hk : ∀ b o, h.get? b = some o → s.heap.get? b = some o) (hq : Q (.builtin "re.Pattern.search", [.ref 149]) s) :
    wpAny (model PR w) A (getMethod (.ref 149) "search" pl) Q E s :=
  getMethod_builtin (T := "re.Pattern") ⟨_, hk _ _ (X 149 _ (by k_is)), rfl⟩ plain_re slot_re_search type_re_search (fun a e => by cases e; exact ⟨_, hk _ _ (X 149 _ (by k_is)), rfl⟩) hq
theorem methodV {A : Around} {h : Heap} {pl : Sem Bool} {Q : Value × List Value → Shared → Prop} (X : (kk.heap_1 w.params).In h) (hk : ∀ b o, h.get? b = some o → s.heap.get? b = some o) (hq : Q (.builtin "re.Pattern.search", [.ref 154]) s) :
    wpAny (model PR w) A (getMethod (.ref 154) "search" pl) Q E s :=
  getMethod_builtin (T := "re.Pattern") ⟨_, hk _ _ (X 154 _ (by k_is)), rfl⟩ plain_re slot_re_search type_re_search (fun a e => by cases e; exact ⟨_, hk _ _ (X 154 _ (by k_is)), rfl⟩) hq

theorem kwConv0 : True := by
  k_with_none
  trivial
theorem kwConv1 : True := by
  (k_with "getMethod ref" => ((with_reducible rename Fr _ _ _ _ => kF); first | refine methodN (by assumption) kF.keep ?_ | refine methodV (by assumption) kF.keep ?_))
  trivial
theorem kwConv2 : True := by
  (k_with "call builtin:re.Pattern.search" => ((with_reducible rename Fr _ _ _ _ => kF); first | refine searchN (by assumption) (by assumption) (by assumption) kF.keep ?_ | refine searchV (by assumption) (by assumption) (by assumption) kF.keep ?_))
  trivial

theorem conv_name (G : Gnd w lo mean mg mb g) (Bs : ∀ b o, g.get? b = some o → s.heap.get? b = some o) (hd : dp + 1 < recursionLimit) (hu : un + 8 < cLine) {x : Addr} {v : Str} {tk : Tok}
    (hv : Clean v) (hsz : v.length ≤ sizeLine)
    (hret : ∀ h' tk', Ext s.heap h' [] → Q (.str v tk) { s with heap := h', toks := tk' }) :
    wpAny (model PR w) (AA dp un fr gd) (call (.ref 184) [.ref x, .str v tk] [("name", .bool true)]) Q E s := by
  refine wpAny_call ?_
  refine enterC (binds := [("self", .ref x), ("value", .str v tk), ("name", .bool true)]) [] G Bs (by simp) (by k_is) (by k_is) (by omega) (BindsTo.of_eq rfl) (locs rfl) ?_ rfl rfl rfl (by decide)
  intro h₀ L h₁ G₀ hs₀ hk₀ hW F hL hk₁
  have X := G₀.X
  have T := G₀.T
  have N : News h₀ L h₁ [] := News.nil
  k_steps
  all_goals (dsimp only; exact hret _ _ fun b o e hb => Fr.keep (by with_reducible assumption) b o (hk₀ b o e hb))
theorem conv_value (G : Gnd w lo mean mg mb g) (Bs : ∀ b o, g.get? b = some o → s.heap.get? b = some o) (hd : dp + 1 < recursionLimit) (hu : un + 8 < cLine) {x : Addr} {v : Str} {tk : Tok}
    (hv : Clean v) (hsz : v.length ≤ sizeLine)
    (hret : ∀ h' tk', Ext s.heap h' [] → Q (.str v tk) { s with heap := h', toks := tk' }) :
    wpAny (model PR w) (AA dp un fr gd) (call (.ref 184) [.ref x, .str v tk] [("name", .bool false)]) Q E s := by
  refine wpAny_call ?_
  refine enterC (binds := [("self", .ref x), ("value", .str v tk), ("name", .bool false)]) [] G Bs (by simp) (by k_is) (by k_is) (by omega) (BindsTo.of_eq rfl) (locs rfl) ?_ rfl rfl rfl (by decide)
  intro h₀ L h₁ G₀ hs₀ hk₀ hW F hL hk₁
  have X := G₀.X
  have T := G₀.T
  have N : News h₀ L h₁ [] := News.nil
  k_steps
  all_goals (dsimp only; exact hret _ _ fun b o e hb => Fr.keep (by with_reducible assumption) b o (hk₀ b o e hb))
end
end Mine
end
section
open PySem PySem.W PyProof.Rows PySem.Calls
set_option maxRecDepth 100000
set_option maxHeartbeats 2000000
namespace Mine

/-- a list of pairs of texts -/
noncomputable def PairsAt (h : Heap) : List Value → List (Str × Str) → Prop
  | [], [] => True
  | v :: vs, p :: r => (∃ a t1 t2, v = .ref a ∧ h.IsTuple a #[.str p.1 t1, .str p.2 t2]) ∧ PairsAt h vs r
  | _, _ => False
theorem PairsAt.mono {h h' : Heap} (k : ∀ b o, h.get? b = some o → o.cls = .type "tuple" → h'.get? b = some o) : ∀ {vs : List Value} {items : List (Str × Str)}, PairsAt h vs items → PairsAt h' vs items
  | [], [], _ => trivial
  | _ :: _, _ :: _, ⟨⟨a, t1, t2, e, o, ho, hc, hd⟩, r⟩ => ⟨⟨a, t1, t2, e, o, k a o ho hc, hc, hd⟩, PairsAt.mono k r⟩
  | [], _ :: _, h => h.elim
  | _ :: _, [], h => h.elim
theorem PairsAt.length {h : Heap} : ∀ {vs : List Value} {items : List (Str × Str)}, PairsAt h vs items → vs.length = items.length
  | [], [], _ => rfl
  | _ :: _, _ :: _, ⟨_, r⟩ => by rw [List.length_cons, List.length_cons, PairsAt.length r]
  | [], _ :: _, h => h.elim
  | _ :: _, [], h => h.elim
theorem PairsAt.get {h : Heap} : ∀ {vs : List Value} {items : List (Str × Str)}, PairsAt h vs items → ∀ {i : Nat} {p : Str × Str}, items[i]? = some p → ∃ a t1 t2, vs[i]? = some (.ref a) ∧ h.IsTuple a #[.str p.1 t1, .str p.2 t2]
  | [], [], _, _, _, e => by cases e
  | v :: vs, q :: r, ⟨⟨a, t1, t2, e, ht⟩, rest⟩, i, p, hi => by
    cases i with
    | zero =>
      cases hi
      exact ⟨a, t1, t2, by rw [e]; rfl, ht⟩
    | succ i => exact PairsAt.get rest hi
  | [], _ :: _, h, _, _, _ => h.elim
  | _ :: _, [], h, _, _, _ => h.elim
theorem PairsAt.append {h : Heap} : ∀ {vs : List Value} {items : List (Str × Str)} {v : Value} {p : Str × Str}, PairsAt h vs items → (∃ a t1 t2, v = .ref a ∧ h.IsTuple a #[.str p.1 t1, .str p.2 t2]) → PairsAt h (vs ++ [v]) (items ++ [p])
  | [], [], _, _, _, q => ⟨q, trivial⟩
  | _ :: _, _ :: _, _, _, ⟨x, r⟩, q => ⟨x, PairsAt.append r q⟩
  | [], _ :: _, _, _, h, _ => h.elim
  | _ :: _, [], _, _, h, _ => h.elim

noncomputable def TurnR (h₀ : Heap) (L I : Addr) (o : Obj) (Jn : (Str → Option Value) → List (Addr × Obj) → Prop) (Q : Flow → Shared → Prop) (s : Shared) (f : Flow) (s₃ : Shared) : Prop :=
  match f with
  | .ret v => Q (.ret v) s₃
  | .brk => Q .next s₃
  | _ => ∃ h' tk' m₂ news₂, s₃ = { s with heap := h', toks := tk' } ∧ Fr h₀ L h' m₂ ∧ News h₀ L h' ((I, o) :: news₂) ∧ (∀ p ∈ news₂, p.1 ≠ I) ∧ Jn m₂ news₂

section
variable {prog : Program} {w : World} {A : Around} {s : Shared} {env : Env} {h₀ : Heap} {m : Str → Option Value} {news : List (Addr × Obj)}
theorem for_pairs {xi xc : Str} {pk pv pt pos : Pos} {x1 : Nat} {iter : Expr} {body : List Stmt} {Q : Flow → Shared → Prop} {l : Addr} {vs : List Value} {items : List (Str × Str)}
    (hh : A.handled = none) (hxi : env.kindOf xi = some .local) (hxc : env.kindOf xc = some .local)
    (hp : (env.scope.kind == .class || (env.scope.kind == .module && env.locals != env.globals)) = false)
    (J : Nat → (Str → Option Value) → List (Addr × Obj) → Prop)
    (hs : ∀ x, foldedSetIterable iter env x = pure x)
    (hit : wpAny (model prog w) A (eval iter env) (fun xv s₁ => xv = .ref l ∧ ∃ h tk m news, s₁ = { s with heap := h, toks := tk } ∧ Fr h₀ env.locals h m ∧ News h₀ env.locals h news ∧ J 0 m news) (fun _ _ => False) s)
    (src : ∀ i m₁ news₁ h, J i m₁ news₁ → Fr h₀ env.locals h m₁ → News h₀ env.locals h news₁ → h.IsList l vs.toArray ∧ PairsAt h vs items)
    (turn : ∀ I i k v t1 t2 m₁ news₁ h tk o, items[i]? = some (k, v) → J i m₁ news₁ → (∀ p ∈ news₁, p.1 ≠ I) → Fr h₀ env.locals h (fun y => if y = xc then some (.str v t2) else if y = xi then some (.str k t1) else m₁ y) → News h₀ env.locals h ((I, o) :: news₁) →
      wpAny (model prog w) A (execs body env) (TurnR h₀ env.locals I o (J (i + 1)) Q s) (fun _ _ => False) { s with heap := h, toks := tk })
    (done : ∀ m₁ news₁ h tk, J items.length m₁ news₁ → Fr h₀ env.locals h m₁ → News h₀ env.locals h news₁ → Q .next { s with heap := h, toks := tk }) :
    wpAny (model prog w) A (exec (.For (.Tuple [.Name xi pk, .Name xc pv] x1 pt) iter body [] pos) env) Q (fun _ _ => False) s := by
  refine wpAny_For (wpAny_mono hit (fun xv s₁ h₁ => ?_) fun _ _ e => e.elim) hs
  obtain ⟨rfl, h, tk, m, news, rfl, F, N, hj⟩ := h₁
  have hsrc := src 0 m news h hj F N
  refine wpAny_pyIter_list hsrc.1 ?_
  generalize hI : h.objs.size = I
  have hIn : h.get? I = none := by
    cases q : h.get? I with
    | none => rfl
    | some o => exact absurd (Heap.lt_size q) (by rw [hI]; exact Nat.lt_irrefl _)
  have hI0 : h₀.get? I = none := by
    cases q : h₀.get? I with
    | none => rfl
    | some o => rw [F.keep _ _ q] at hIn; cases hIn
  have hLI : env.locals ≠ I := by
    obtain ⟨oL, _, _, hL, _⟩ := F.ns
    rintro e
    rw [e, hIn] at hL
    cases hL
  have move : ∀ {a b : Heap} {m news}, (∀ x o, x ≠ I → a.get? x = some o → b.get? x = some o) → Fr h₀ env.locals a m → News h₀ env.locals a news → (∀ p ∈ news, p.1 ≠ I) → Fr h₀ env.locals b m ∧ News h₀ env.locals b news := by
    intro a b m news k F N hn
    refine ⟨⟨F.ns.at' fun o e => k _ o hLI e, fun x o e => k x o ?_ (F.keep x o e), F.above⟩, fun p hp => ⟨k _ _ (hn p hp) (N p hp).1, (N p hp).2⟩⟩
    rintro rfl
    rw [hI0] at e; cases e
  have up : ∀ x o, x ≠ I → h.get? x = some o → (h.push { cls := .type "list_iterator", data := .fields #[.ref l, .int 0 0] }).get? x = some o := fun x o _ e => Heap.get?_push_of_some _ e
  have hn0 : ∀ p ∈ news, p.1 ≠ I := by
    rintro p hp rfl
    rw [(N p hp).1] at hIn; cases hIn
  obtain ⟨F0, N0⟩ := move up F N hn0
  have hit0 : (h.push { cls := .type "list_iterator", data := .fields #[.ref l, .int 0 0] }).IsListIter I l 0 := ⟨_, by rw [← hI]; exact Heap.get?_push_size _ rfl, rfl, rfl⟩
  refine codeAny_forLoop_any
    (fun k s' => ∃ h' tk' m' news' i, s' = { s with heap := h', toks := tk' } ∧ h'.IsListIter I l i ∧ Fr h₀ env.locals h' m' ∧ News h₀ env.locals h' news' ∧ (∀ p ∈ news', p.1 ≠ I) ∧ J i m' news' ∧ i ≤ items.length ∧ k = items.length + 1 - i) ?_ (items.length + 1)
    ⟨_, tk, m, news, 0, rfl, hit0, F0, N0, hn0, hj, Nat.zero_le _, rfl⟩
  rintro k s' ⟨H, tk', m', news', i, rfl, hit', F', N', hn', hJ, hi, rfl⟩
  have S := src i m' news' H hJ F' N'
  by_cases hlt : i < items.length
  · obtain ⟨T, t1, t2, hT, _⟩ := S.2.get (List.getElem?_eq_getElem hlt)
    refine wpAny_mono (E := fun _ _ => False) ?_ (fun _ _ x => x) (fun _ _ x => x.elim)
    refine wpAny_pyNext_list_item hit' S.1 (x := .ref T) (by simpa using hT) fun h₁ hit₁ hs₁ => ?_
    obtain ⟨F₁, N₁⟩ := move (fun x o hx e => (hs₁.2 x hx).trans e) F' N' hn'
    have S₁ := src i m' news' h₁ hJ F₁ N₁
    obtain ⟨T', u1, u2, hT', ht⟩ := S₁.2.get (List.getElem?_eq_getElem hlt)
    have eT : T' = T := by rw [hT] at hT'; cases hT'; rfl
    subst eT
    refine wpAny_letOwnedTupleGo_listiter hit₁ ?_
    refine wpAny_mono (E := fun _ _ => False) ?_ (fun _ _ x => x) (fun _ _ x => x.elim)
    refine wpAny_assign_Tuple hh ht rfl rfl fun h₃ hx₃ => ?_
    replace hx₃ : Heap.ExtBut h₁.objs.size h₁ h₃ := hx₃
    have up₃ : ∀ b o, h₁.get? b = some o → h₃.get? b = some o := fun b o x => hx₃ b o (Nat.ne_of_lt (Heap.lt_size x)) x
    have F₃ : Fr h₀ env.locals h₃ m' := ⟨F₁.ns.keeps up₃, fun b o e => up₃ b o (F₁.keep b o e), F₁.above⟩
    have N₃ : News h₀ env.locals h₃ news' := fun p hp => ⟨up₃ _ _ (N₁ p hp).1, (N₁ p hp).2⟩
    have hit₃ : h₃.IsListIter I l (i + 1) := hit₁.at fun o e => up₃ _ o e
    show wpAny _ A (do holding [_] (assign (.Name xi pk) env _); do holding [] (assign (.Name xc pv) env _); pure ()) _ _ _
    refine wpAny_bind (wpAny_holding (wpAny_assign_Name (wpAny_storeName_local hxi F₃.ns (fun h₄ hn₄ hs₄ => ?_) hp)))
    have F₄ := F₃.set hn₄ hs₄
    refine wpAny_bind (wpAny_holding (wpAny_assign_Name (wpAny_storeName_local hxc F₄.ns (fun h₅ hn₅ hs₅ => wpAny_pure ?_) hp)))
    have F₅ := F₄.set hn₅ hs₅
    have N₅ : News h₀ env.locals h₅ news' := (N₃.set hs₄).set hs₅
    have hit₅ : h₅.IsListIter I l (i + 1) := hit₃.at fun o e => (hs₅.2 I (Ne.symm hLI)).trans ((hs₄.2 I (Ne.symm hLI)).trans e)
    obtain ⟨o, ho, hc, hd⟩ := hit₅
    have N₆ : News h₀ env.locals h₅ ((I, o) :: news') := by
      intro p hp
      rcases List.mem_cons.mp hp with rfl | hp
      · exact ⟨ho, Ne.symm hLI, hI0⟩
      · exact N₅ p hp
    refine wpAny_mono (turn I i _ _ u1 u2 m' news' h₅ _ o (List.getElem?_eq_getElem hlt) hJ hn' F₅ N₆) (fun f s₃ q => ?_) fun _ _ x => x.elim
    have go : (∃ h' tk' m₂ news₂, s₃ = { s with heap := h', toks := tk' } ∧ Fr h₀ env.locals h' m₂ ∧ News h₀ env.locals h' ((I, o) :: news₂) ∧ (∀ p ∈ news₂, p.1 ≠ I) ∧ J (i + 1) m₂ news₂) →
        ∃ m, m < items.length + 1 - i ∧ ∃ h' tk' m' news' i, s₃ = { s with heap := h', toks := tk' } ∧ h'.IsListIter I l i ∧ Fr h₀ env.locals h' m' ∧ News h₀ env.locals h' news' ∧ (∀ p ∈ news', p.1 ≠ I) ∧ J i m' news' ∧ i ≤ items.length ∧ m = items.length + 1 - i := by
      rintro ⟨h', tk'', m₂, news₂, rfl, F₂, N₂, hn₂, hj₂⟩
      refine ⟨items.length + 1 - (i + 1), by omega, h', tk'', m₂, news₂, i + 1, rfl, ⟨o, (N₂ _ (.head _)).1, hc, hd⟩, F₂, fun p hp => N₂ p (.tail _ hp), hn₂, hj₂, hlt, rfl⟩
    cases f with
    | ret v => exact q
    | brk => exact q
    | next => exact go q
    | cont => exact go q
  · have hin : i = items.length := by omega
    subst hin
    have hvs : vs.length = items.length := S.2.length
    refine wpAny_pyNext_list_end hh hit' S.1 (by simp [hvs]) fun h₁ he₁ => ?_
    refine wpAny_execs_nil ?_
    obtain ⟨F₁, N₁⟩ := move (fun x o hx e => he₁ x o hx e) F' N' hn'
    exact done m' news' h₁ tk' hJ F₁ N₁

noncomputable def TurnS (h₀ : Heap) (L I : Addr) (o : Obj) (xs stored : List Str) (m₀ : Str → Option Value) (Jn : (Str → Option Value) → List (Addr × Obj) → Prop) (Q : Flow → Shared → Prop) (s : Shared) (f : Flow) (s₃ : Shared) : Prop :=
  match f with
  | .ret v => Q (.ret v) s₃
  | .brk => Q .next s₃
  | _ => ∃ h' tk' m₂ news₂, s₃ = { s with heap := h', toks := tk' } ∧ Fr h₀ L h' m₂ ∧ News h₀ L h' ((I, o) :: news₂) ∧ (∀ p ∈ news₂, p.1 ≠ I) ∧ (∀ y, xs.contains y = false → stored.contains y = false → m₂ y = m₀ y) ∧ Jn m₂ news₂
theorem TurnS.go {L I : Addr} {o : Obj} {xs stored : List Str} {m₀ : Str → Option Value} {Jn : (Str → Option Value) → List (Addr × Obj) → Prop} {Q : Flow → Shared → Prop} {h' : Heap} {tk' : Nat} {m₂ : Str → Option Value} {news₂ : List (Addr × Obj)}
    (F : Fr h₀ L h' m₂) (N : News h₀ L h' ((I, o) :: news₂)) (hn : ∀ p ∈ news₂, p.1 ≠ I) (hm : ∀ y, xs.contains y = false → stored.contains y = false → m₂ y = m₀ y) (hj : Jn m₂ news₂) :
    TurnS h₀ L I o xs stored m₀ Jn Q s .next { s with heap := h', toks := tk' } := ⟨h', tk', m₂, news₂, rfl, F, N, hn, hm, hj⟩

noncomputable def IterAt (h₀ : Heap) (L l : Addr) (m₀ : Str → Option Value) (J0 : List (Addr × Obj) → Prop) (s : Shared) (xv : Value) (s₁ : Shared) : Prop :=
  xv = .ref l ∧ ∃ h tk news, s₁ = { s with heap := h, toks := tk } ∧ Fr h₀ L h m₀ ∧ News h₀ L h news ∧ J0 news
theorem IterAt.go {L l : Addr} {m₀ : Str → Option Value} {J0 : List (Addr × Obj) → Prop} {h : Heap} {tk : Nat} {news : List (Addr × Obj)} (F : Fr h₀ L h m₀) (N : News h₀ L h news) (hj : J0 news) :
    IterAt h₀ L l m₀ J0 s (.ref l) { s with heap := h, toks := tk } := ⟨rfl, h, tk, news, rfl, F, N, hj⟩
theorem for_pairsS {xi xc : Str} {pk pv pt pos : Pos} {x1 : Nat} {iter : Expr} {body : List Stmt} {Q : Flow → Shared → Prop} {l : Addr} {vs : List Value} {items : List (Str × Str)} {m₀ : Str → Option Value} (stored : List Str)
    (F : Fr h₀ env.locals s.heap m₀)
    (J : Nat → (Str → Option Value) → List (Addr × Obj) → Prop)
    (hh : A.handled = none) (hxi : env.kindOf xi = some .local) (hxc : env.kindOf xc = some .local)
    (hp : (env.scope.kind == .class || (env.scope.kind == .module && env.locals != env.globals)) = false)
    (hs : ∀ x, foldedSetIterable iter env x = pure x)
    (hit : wpAny (model prog w) A (eval iter env) (IterAt h₀ env.locals l m₀ (J 0 m₀) s) (fun _ _ => False) s)
    (src : ∀ i u news₁ h, J i u news₁ → (∀ m, Fr h₀ env.locals h m → News h₀ env.locals h news₁ → h.IsList l vs.toArray ∧ PairsAt h vs items))
    (turn : ∀ I i k v t1 t2 u news₁ h tk o, items[i]? = some (k, v) → J i u news₁ → (∀ p ∈ news₁, p.1 ≠ I) →
      Fr h₀ env.locals h (fun y => if y = xc then some (.str v t2) else if y = xi then some (.str k t1) else if stored.contains y then u y else m₀ y) → News h₀ env.locals h ((I, o) :: news₁) →
      wpAny (model prog w) A (execs body env) (TurnS h₀ env.locals I o [xc, xi] stored m₀ (J (i + 1)) Q s) (fun _ _ => False) { s with heap := h, toks := tk })
    (done : ∀ u news₁ h tk, J items.length u news₁ → Fr h₀ env.locals h (fun y => if y = xc then u y else if y = xi then u y else if stored.contains y then u y else m₀ y) → News h₀ env.locals h news₁ → Q .next { s with heap := h, toks := tk }) :
    wpAny (model prog w) A (exec (.For (.Tuple [.Name xi pk, .Name xc pv] x1 pt) iter body [] pos) env) Q (fun _ _ => False) s := by
  have key : ∀ m : Str → Option Value, (∀ y, [xc, xi].contains y = false → stored.contains y = false → m y = m₀ y) → ∀ (a b : Option Value), (fun y => if y = xc then a else if y = xi then b else m y) = fun y => if y = xc then a else if y = xi then b else if stored.contains y then m y else m₀ y := by
    intro m hm a b
    funext y
    by_cases h1 : y = xc
    · simp [h1]
    · by_cases h2 : y = xi
      · simp [h2]
      · simp only [if_neg h1, if_neg h2]
        cases h3 : stored.contains y with
        | true => simp
        | false => simp only [Bool.false_eq_true, if_false]; exact hm y (by simp [h1, h2]) h3
  refine for_pairs (h₀ := h₀) (l := l) (vs := vs) (items := items) hh hxi hxc hp (fun i m' nw => (∀ y, [xc, xi].contains y = false → stored.contains y = false → m' y = m₀ y) ∧ J i m' nw) hs ?_ ?_ ?_ ?_
  · refine wpAny_mono hit (fun xv s₁ q => ?_) fun _ _ x => x
    obtain ⟨e, h, tk, news, e2, F', N', hj⟩ := q
    exact ⟨e, h, tk, m₀, news, e2, F', N', fun _ _ _ => rfl, hj⟩
  · rintro i m₁ news₁ h ⟨_, hj⟩ F' N'
    exact src i m₁ news₁ h hj m₁ F' N'
  · rintro I i k v t1 t2 m₁ news₁ h tk o hi ⟨hm, hj⟩ hn F' N'
    rw [key m₁ hm] at F'
    refine wpAny_mono (turn I i k v t1 t2 m₁ news₁ h tk o hi hj hn F' N') (fun f s₃ q => ?_) fun _ _ x => x
    have go : (∃ h' tk' m₂ news₂, s₃ = { s with heap := h', toks := tk' } ∧ Fr h₀ env.locals h' m₂ ∧ News h₀ env.locals h' ((I, o) :: news₂) ∧ (∀ p ∈ news₂, p.1 ≠ I) ∧ (∀ y, [xc, xi].contains y = false → stored.contains y = false → m₂ y = m₀ y) ∧ J (i + 1) m₂ news₂) →
        ∃ h' tk' m₂ news₂, s₃ = { s with heap := h', toks := tk' } ∧ Fr h₀ env.locals h' m₂ ∧ News h₀ env.locals h' ((I, o) :: news₂) ∧ (∀ p ∈ news₂, p.1 ≠ I) ∧ (∀ y, [xc, xi].contains y = false → stored.contains y = false → m₂ y = m₀ y) ∧ J (i + 1) m₂ news₂ := id
    cases f with
    | ret v => exact q
    | brk => exact q
    | next => exact go q
    | cont => exact go q
  · rintro m₁ news₁ h tk ⟨hm, hj⟩ F' N'
    refine done m₁ news₁ h tk hj ?_ N'
    have e : (fun y => if y = xc then m₁ y else if y = xi then m₁ y else if stored.contains y then m₁ y else m₀ y) = m₁ := by
      funext y
      by_cases h1 : y = xc
      · simp [h1]
      · by_cases h2 : y = xi
        · simp [h2]
        · simp only [if_neg h1, if_neg h2]
          cases h3 : stored.contains y with
          | true => simp
          | false => simp only [Bool.false_eq_true, if_false]; exact (hm y (by simp [h1, h2]) h3).symm
    rw [e]; exact F'
end
end Mine
end
section
open PySem PySem.W PyProof.Rows PySem.Calls
set_option maxRecDepth 100000
set_option maxHeartbeats 2000000
namespace Mine
theorem fillit2 : (fun (_ : Params → Frag) (_ : OpenLaw) => True) kk.heap_1 PySem.Challenge.rw_wj0075_01 := by k_fill; trivial

theorem inst_at {h₀ h : Heap} {x dx C : Addr} {od : Obj} (k : ∀ b o, h₀.get? b = some o → h.get? b = some o) (hx : h₀.get? x = some (instObj C dx)) (hd : h₀.get? dx = some od) : InstAt h x (instObj C dx) C (some od) :=
  ⟨k _ _ hx, rfl, rfl, k _ _ hd⟩

section
variable {w : World} {lo : List Str} {mean : ExcName → Option Value} {mg mb : Str → Option Value} {g : Heap} {s : Shared} {dp un : Nat} {fr : Option (List Env)} {gd : Option (List Code)} {Q : Value → Shared → Prop} {E : Value → Shared → Prop}

theorem kwGet0 : True := by
  k_with_none
  trivial
theorem kwGet1 : True := by
  (k_with "call ref" => ((with_reducible rename Fr _ _ _ _ => kF); (with_reducible rename News _ _ _ _ => kN); (k_dflt (first | refine conv_name (by assumption) kF.keep (by omega) (by omega) (by assumption) (by assumption) (fun h' tk' kx => ?_) | refine conv_value (by assumption) kF.keep (by omega) (by omega) (by assumption) (by assumption) (fun h' tk' kx => ?_))); have F' := kx.fr0 kF; have N' := kx.news0 kN; clear kF kN))
  trivial
local macro_rules | `(tactic| k_inst) => `(tactic| ((with_reducible rename Fr _ _ _ _ => kF); exact inst_at kF.keep (by assumption) (by assumption)))

/-- the first under a name, the name's case aside -/
noncomputable def findLow (key : Str) : List (Str × Str) → Option Str
  | [] => none
  | p :: r => if Txt.lower p.1 = key then some p.2 else findLow key r
theorem findLow_hit {key v : Str} : ∀ {items : List (Str × Str)} {i : Nat} {k : Str}, (∀ p ∈ items.take i, Txt.lower p.1 ≠ key) → items[i]? = some (k, v) → Txt.lower k = key → findLow key items = some v
  | [], _, _, _, h, _ => by cases h
  | q :: r, 0, k, _, h, e => by
    cases h
    simp [findLow, e]
  | q :: r, i + 1, k, hn, h, e => by
    have := hn q (by simp)
    simp only [findLow, if_neg this]
    exact findLow_hit (i := i) (fun p hp => hn p (by simp [hp])) h e
theorem findLow_miss {key : Str} : ∀ {items : List (Str × Str)}, (∀ p ∈ items, Txt.lower p.1 ≠ key) → findLow key items = none
  | [], _ => rfl
  | q :: r, hn => by
    simp only [findLow, if_neg (hn q (by simp))]
    exact findLow_miss fun p hp => hn p (by simp [hp])

theorem get_c (G : Gnd w lo mean mg mb g) (Bs : ∀ b o, g.get? b = some o → s.heap.get? b = some o) (hd : dp + 2 < recursionLimit) (hu : un + 16 < cLine)
    {x dx l : Addr} {hsh : Int} {t : Tok} {n : Nat} {vs : List Value} {items : List (Str × Str)} {name : Str} {tk : Tok}
    (hx : s.heap.get? x = some (instObj 283 dx)) (hdx : s.heap.get? dx = some (dictOf [⟨hsh, .str "_headers" t, .ref l⟩] n)) (hl : s.heap.IsList l vs.toArray) (hp : PairsAt s.heap vs items)
    (hn : Clean (Txt.lower name)) (hsz : (Txt.lower name).length ≤ sizeLine) (hsn : name.length ≤ 1000) (hlen : ∀ p ∈ items, p.1.length ≤ 1000) {r : Str} (hr : findLow (Txt.lower name) items = some r)
    (hret : ∀ h' tk' t', Ext s.heap h' [] → Q (.str r t') { s with heap := h', toks := tk' }) :
    wpAny (model PR w) (AA dp un fr gd) (call (.ref 230) [.ref x, .str name tk]) Q E s := by
  refine wpAny_call ?_
  refine enterC (binds := [("self", .ref x), ("name", .str name tk), ("default", .none)]) [] G Bs (by simp) (by k_is) (by k_is) (by omega) (binds_K (G.X.keeps Bs) rfl (by k_is) rfl rfl rfl) (locs rfl) ?_ rfl rfl rfl (by decide)
  intro h₀ L h₁ G₀ hs₀ hk₀ hW F hL hk₁
  have X := G₀.X
  have T := G₀.T
  have N : News h₀ L h₁ [] := News.nil
  replace hx := hk₀ _ _ hx (by simp)
  replace hdx := hk₀ _ _ hdx (by simp)
  k_steps
  (with_reducible rename Fr _ _ _ _ => F1)
  (with_reducible rename News _ _ _ _ => N1)
  have hl0 : h₀.IsList l vs.toArray := hl.at fun o e => hk₀ _ _ e (by simp)
  have hp0 : PairsAt h₀ vs items := hp.mono fun b o e _ => hk₀ _ _ e (by simp)
  refine for_pairsS (l := l) (vs := vs) (items := items) [] F1 (fun i _ news' => news' = [] ∧ ∀ p ∈ items.take i, Txt.lower p.1 ≠ Txt.lower name) rfl rfl rfl rfl (fun _ => rfl) ?_ ?_ ?_ ?_
  · k_steps
    exact IterAt.go F1 N1 ⟨rfl, by simp⟩
  · rintro i m₁ news₁ h ⟨rfl, _⟩ m F' N'
    exact ⟨hl0.at fun o e => F'.keep _ _ e, hp0.mono fun b o e _ => F'.keep _ _ e⟩
  · rintro I i k v t1 t2 u news₁ h tk o hi ⟨rfl, hnot⟩ _ F' N'
    have hklen := hlen _ (List.mem_of_getElem? hi)
    clear F1 N1
    k_steps
    · dsimp only [TurnS]
      rw [findLow_hit hnot hi (by simpa using ‹(Txt.lower k == Txt.lower name) = true›)] at hr
      cases hr
      exact hret _ _ _ (fun b o e hb => Fr.keep (by with_reducible assumption) b o (hk₀ b o e hb))
    · dsimp only
      refine TurnS.go (by with_reducible assumption) (by with_reducible assumption) (by simp) (fun y h1 h2 => ?_) ⟨rfl, ?_⟩
      · simp only [List.contains_cons, List.contains_nil, Bool.or_false, Bool.or_eq_false_iff, beq_eq_false_iff_ne, ne_eq] at h1
        simp [h1]
      · intro p hp
        rw [List.take_add_one, hi] at hp
        rcases List.mem_append.mp hp with hp | hp
        · exact hnot p hp
        · simp at hp
          subst hp
          simpa using ‹(Txt.lower k == Txt.lower name) = false›
  · rintro m₁ news₁ h tk ⟨rfl, hnot⟩ F' N'
    rw [List.take_length] at hnot
    rw [findLow_miss hnot] at hr
    cases hr
end
end Mine
end
section
open PySem PySem.W PyProof.Rows PySem.Calls
set_option maxRecDepth 100000
set_option maxHeartbeats 2000000
namespace Mine

noncomputable def TestPost (p : Value → Bool) (v : Value) (s₃ : Shared) (ok : Bool) (s₄ : Shared) : Prop := ok = p v ∧ Keeps s₃ s₄
noncomputable def EltPost (F : Value → Value → Prop) (v : Value) (s₃ : Shared) (y : Value) (s₄ : Shared) : Prop := F v y ∧ Keeps s₃ s₄
theorem TestPost.go {p : Value → Bool} {v : Value} {s : Shared} {h : Heap} {tk : Nat} {ok : Bool} (e : ok = p v) (k : ∀ b o, s.heap.get? b = some o → h.get? b = some o) : TestPost p v s ok { s with heap := h, toks := tk } := ⟨e, h, tk, rfl, k⟩
theorem EltPost.go {F : Value → Value → Prop} {v y : Value} {s : Shared} {h : Heap} {tk : Nat} (e : F v y) (k : ∀ b o, s.heap.get? b = some o → h.get? b = some o) : EltPost F v s y { s with heap := h, toks := tk } := ⟨e, h, tk, rfl, k⟩

section
variable {prog : Program} {w : World} {A : Around} {E : Value → Shared → Prop} {s s₁ : Shared} {env : Env} {h₀ : Heap} {L : Addr} {m : Str → Option Value} {news : List (Addr × Obj)}

noncomputable def CompAt (prog : Program) (w : World) (A : Around) (env : Env) (elt : Expr) (x : Str) (ifs : List Expr) (scope : Scope) (cl : List (Str × Addr)) (p : Value → Bool) (F : Value → Value → Prop) (Q : Value → Shared → Prop) (it : Value) (s₂ : Shared) : Prop :=
  ∃ I fp wr n P St, it = .ref I ∧ Walks prog w A I fp wr n P St ∧ n ≤ sizeLine ∧ St 0 s₂.heap ∧ (∀ b ∈ fp, b < s₂.heap.objs.size) ∧
      QuietOnC prog w A env scope cl x ifs elt wr P p F s₂ ∧
      (∀ D h' tk ys (vs : List Value), s₂.heap.get? D = none → h'.IsList D ys → h'.PlainList D ys → vs.length = n → (∀ j v, vs[j]? = some v → P j v) → Paired F (vs.filter p) ys.toList →
        (∀ b o, b ∉ wr → s₂.heap.get? b = some o → h'.get? b = some o) → Q (.ref D) { s₂ with heap := h', toks := tk })
noncomputable def CompIter (prog : Program) (w : World) (A : Around) (env : Env) (elt : Expr) (x : Str) (ifs : List Expr) (scope : Scope) (cl : List (Str × Addr)) (p : Value → Bool) (F : Value → Value → Prop) (Q : Value → Shared → Prop) (E : Value → Shared → Prop) (xv : Value) (s₁ : Shared) : Prop :=
  wpAny (model prog w) A (pyIter xv) (CompAt prog w A env elt x ifs scope cl p F Q) E s₁

theorem comp_list {elt iter : Expr} {x : Str} {px : Pos} {ifs : List Expr} {scope : Scope} {cl : List (Str × Addr)} {pos : Pos} {Q : Value → Shared → Prop} (p : Value → Bool) (F : Value → Value → Prop)
    (hclos : closureFor scope env = pure cl) (hcell : ∀ y ∈ scope.names, y.2 ≠ .cell) (hkind : scope.kind = .function)
    (hnames : ∀ y ∈ scope.names, y.2 = .local → scope.names.lookup y.1 = some .local) (hx : scope.names.lookup x = some .local)
    (hs : ∀ x, foldedSetIterable iter env x = pure x)
    (h : wpAny (model prog w) A (eval iter env) (CompIter prog w A env elt x ifs scope cl p F Q E) E s) :
    wpAny (model prog w) A (eval (.ListComp elt [⟨.Name x px, iter, ifs, 0⟩] scope pos) env) Q E s :=
  wpAny_ListComp_free p F hclos hcell hkind hnames hx h hs

/-- tests of a comprehension without one -/
theorem no_tests {C : Addr} {scope : Scope} {cl : List (Str × Addr)} {v : Value} {s₃ : Shared} {E' : Value → Shared → Prop} :
    wpAny (model prog w) A (forIn ([] : List Expr) true fun c r => if r = true then do let ok ← isTrue c (compEnvC scope cl C env) (eval c (compEnvC scope cl C env)); pure (ForInStep.yield ok) else pure (ForInStep.yield r)) (TestPost (fun _ => true) v s₃) E' s₃ :=
  wpAny_tests_nil (by exact ⟨rfl, s₃.heap, s₃.toks, rfl, fun _ _ e => e⟩)
theorem one_test {C : Addr} {scope : Scope} {cl : List (Str × Addr)} {c : Expr} {s₃ : Shared} {Q : Bool → Shared → Prop} {E' : Value → Shared → Prop}
    (h : wpAny (model prog w) A (isTrue c (compEnvC scope cl C env) (eval c (compEnvC scope cl C env))) Q E' s₃) :
    wpAny (model prog w) A (forIn [c] true fun c r => if r = true then do let ok ← isTrue c (compEnvC scope cl C env) (eval c (compEnvC scope cl C env)); pure (ForInStep.yield ok) else pure (ForInStep.yield r)) Q E' s₃ :=
  wpAny_tests_one h

theorem CompAt.push {elt : Expr} {x : Str} {ifs : List Expr} {scope : Scope} {cl : List (Str × Addr)} {p : Value → Bool} {F : Value → Value → Prop} {Q : Value → Shared → Prop} {fp : List Addr} {n : Nat} {P : Nat → Value → Prop} {St : Nat → Heap → Prop} {o : Obj}
    (Fr₁ : Fr h₀ L s₁.heap m) (N : News h₀ L s₁.heap news)
    (W : Walks prog w A s₁.heap.objs.size fp [s₁.heap.objs.size] n P St) (hsz : n ≤ sizeLine) (hst : St 0 (s₁.heap.push o)) (hfp : ∀ b ∈ fp, b ≤ s₁.heap.objs.size)
    (tests : ∀ C i v s₃ m₃, P i v → Fr h₀ L s₃.heap m → News h₀ L s₃.heap news → s₃.heap.Ns C m₃ → m₃ x = some v → (∀ b o, s₁.heap.get? b = some o → s₃.heap.get? b = some o) →
      wpAny (model prog w) A (forIn ifs true fun c r => if r = true then do let ok ← isTrue c (compEnvC scope cl C env) (eval c (compEnvC scope cl C env)); pure (ForInStep.yield ok) else pure (ForInStep.yield r)) (TestPost p v s₃) (fun _ _ => False) s₃)
    (elts : ∀ C i v s₃ m₃, P i v → p v = true → Fr h₀ L s₃.heap m → News h₀ L s₃.heap news → s₃.heap.Ns C m₃ → m₃ x = some v → (∀ b o, s₁.heap.get? b = some o → s₃.heap.get? b = some o) →
      wpAny (model prog w) A (eval elt (compEnvC scope cl C env)) (EltPost F v s₃) (fun _ _ => False) s₃)
    (done : ∀ D h' tk ys (vs : List Value), Fr h₀ L h' m → News h₀ L h' news → s₁.heap.get? D = none → h'.PlainList D ys → vs.length = n → (∀ j v, vs[j]? = some v → P j v) → Paired F (vs.filter p) ys.toList →
      (∀ b o, s₁.heap.get? b = some o → h'.get? b = some o) → Q (.ref D) { s₁ with heap := h', toks := tk }) :
    CompAt prog w A env elt x ifs scope cl p F Q (.ref s₁.heap.objs.size) { s₁ with heap := s₁.heap.push o } := by
  have old : ∀ b o', s₁.heap.get? b = some o' → b ∉ [s₁.heap.objs.size] := fun b o' e => by simpa using Nat.ne_of_lt (Heap.lt_size e)
  have up : ∀ h : Heap, (∀ b o', b ∉ [s₁.heap.objs.size] → (s₁.heap.push o).get? b = some o' → h.get? b = some o') → ∀ b o', s₁.heap.get? b = some o' → h.get? b = some o' :=
    fun h k b o' e => k b o' (old b o' e) (Heap.get?_push_of_some _ e)
  refine ⟨_, fp, _, n, P, St, rfl, W, hsz, hst, fun b hb => ?_, ⟨?_, ?_⟩, ?_⟩
  · show b < (s₁.heap.push o).objs.size
    rw [Heap.size_push]; exact Nat.lt_succ_of_le (hfp b hb)
  · intro C i v s₃ m₃ E' _ hP hn hm k _
    have k' := up _ k
    exact wpAny_mono (tests C i v s₃ m₃ hP (Fr₁.keeps k') (N.grown k') hn hm k') (fun _ _ y => y) fun _ _ y => y.elim
  · intro C i v s₃ m₃ E' _ hP hp hn hm k _
    have k' := up _ k
    exact wpAny_mono (elts C i v s₃ m₃ hP hp (Fr₁.keeps k') (N.grown k') hn hm k') (fun _ _ y => y) fun _ _ y => y.elim
  · intro D h' tk ys vs hD hl hpl hlen hP hF k
    have k' := up _ k
    refine done D h' tk ys vs (Fr₁.keeps k') (N.grown k') ?_ hpl hlen hP hF k'
    cases q : s₁.heap.get? D with
    | none => rfl
    | some o' => rw [show (s₁.heap.push o).get? D = some o' from Heap.get?_push_of_some _ q] at hD; cases hD

theorem CompIter.list {elt : Expr} {x : Str} {ifs : List Expr} {scope : Scope} {cl : List (Str × Addr)} {p : Value → Bool} {F : Value → Value → Prop} {Q : Value → Shared → Prop} {l : Addr} {its : Array Value}
    (hh : A.handled = none) (Fr₁ : Fr h₀ L s₁.heap m) (N : News h₀ L s₁.heap news) (hl : s₁.heap.IsList l its) (hsz : its.size ≤ sizeLine)
    (tests : ∀ C v s₃ m₃, v ∈ its.toList → Fr h₀ L s₃.heap m → News h₀ L s₃.heap news → s₃.heap.Ns C m₃ → m₃ x = some v → (∀ b o, s₁.heap.get? b = some o → s₃.heap.get? b = some o) →
      wpAny (model prog w) A (forIn ifs true fun c r => if r = true then do let ok ← isTrue c (compEnvC scope cl C env) (eval c (compEnvC scope cl C env)); pure (ForInStep.yield ok) else pure (ForInStep.yield r)) (TestPost p v s₃) (fun _ _ => False) s₃)
    (elts : ∀ C v s₃ m₃, v ∈ its.toList → p v = true → Fr h₀ L s₃.heap m → News h₀ L s₃.heap news → s₃.heap.Ns C m₃ → m₃ x = some v → (∀ b o, s₁.heap.get? b = some o → s₃.heap.get? b = some o) →
      wpAny (model prog w) A (eval elt (compEnvC scope cl C env)) (EltPost F v s₃) (fun _ _ => False) s₃)
    (done : ∀ D h' tk ys, Fr h₀ L h' m → News h₀ L h' news → s₁.heap.get? D = none → h'.PlainList D ys → Paired F (its.toList.filter p) ys.toList →
      (∀ b o, s₁.heap.get? b = some o → h'.get? b = some o) → Q (.ref D) { s₁ with heap := h', toks := tk }) :
    CompIter prog w A env elt x ifs scope cl p F Q E (.ref l) s₁ := by
  have hlt : l < s₁.heap.objs.size := by obtain ⟨_, e, _⟩ := hl; exact Heap.lt_size e
  have mem : ∀ {i v}, its[i]? = some v → v ∈ its.toList := fun {i v} e => by
    have := Array.mem_of_getElem? e
    exact Array.mem_toList_iff.mpr this
  refine wpAny_pyIter_list hl (CompAt.push (o := { cls := .type "list_iterator", data := .fields #[.ref l, .int 0 0] }) Fr₁ N (Walks.list hh s₁.heap.objs.size l (Nat.ne_of_lt hlt) its) hsz ⟨⟨_, Heap.get?_push_size _ rfl, rfl, rfl⟩, hl.push _⟩ (fun b hb => ?_)
    (fun C i v s₃ m₃ hP => tests C v s₃ m₃ (mem hP)) (fun C i v s₃ m₃ hP => elts C v s₃ m₃ (mem hP)) (fun D h' tk ys vs F' N' hD hpl hlen hP hF k => ?_))
  · rcases List.mem_cons.mp hb with rfl | hb
    · exact Nat.le_refl _
    · rw [List.mem_singleton.mp hb]; exact Nat.le_of_lt hlt
  · have e : vs = its.toList := by
      refine List.ext_getElem? fun j => ?_
      by_cases hj : j < vs.length
      · have := hP j _ (List.getElem?_eq_getElem hj)
        rw [List.getElem?_eq_getElem hj, Array.getElem?_toList, this]
      · rw [List.getElem?_eq_none (Nat.not_lt.mp hj), List.getElem?_eq_none (by simpa [← hlen] using Nat.not_lt.mp hj)]
    subst e
    exact done D h' tk ys F' N' hD hpl hF k

theorem CompIter.str {elt : Expr} {x : Str} {ifs : List Expr} {scope : Scope} {cl : List (Str × Addr)} {p : Value → Bool} {F : Value → Value → Prop} {Q : Value → Shared → Prop} {y : Str} {t : Tok}
    (hh : A.handled = none) (Fr₁ : Fr h₀ L s₁.heap m) (N : News h₀ L s₁.heap news) (hsz : y.cps.size ≤ sizeLine)
    (tests : ∀ C i v s₃ m₃, SignAt y i v → Fr h₀ L s₃.heap m → News h₀ L s₃.heap news → s₃.heap.Ns C m₃ → m₃ x = some v → (∀ b o, s₁.heap.get? b = some o → s₃.heap.get? b = some o) →
      wpAny (model prog w) A (forIn ifs true fun c r => if r = true then do let ok ← isTrue c (compEnvC scope cl C env) (eval c (compEnvC scope cl C env)); pure (ForInStep.yield ok) else pure (ForInStep.yield r)) (TestPost p v s₃) (fun _ _ => False) s₃)
    (elts : ∀ C i v s₃ m₃, SignAt y i v → p v = true → Fr h₀ L s₃.heap m → News h₀ L s₃.heap news → s₃.heap.Ns C m₃ → m₃ x = some v → (∀ b o, s₁.heap.get? b = some o → s₃.heap.get? b = some o) →
      wpAny (model prog w) A (eval elt (compEnvC scope cl C env)) (EltPost F v s₃) (fun _ _ => False) s₃)
    (done : ∀ D h' tk ys (vs : List Value), Fr h₀ L h' m → News h₀ L h' news → s₁.heap.get? D = none → h'.PlainList D ys → vs.length = y.cps.size → (∀ j v, vs[j]? = some v → SignAt y j v) → Paired F (vs.filter p) ys.toList →
      (∀ b o, s₁.heap.get? b = some o → h'.get? b = some o) → Q (.ref D) { s₁ with heap := h', toks := tk }) :
    CompIter prog w A env elt x ifs scope cl p F Q E (.str y t) s₁ := by
  refine wpAny_pyIter_str fun o St W hst => ?_
  exact CompAt.push Fr₁ N (W A hh) hsz hst (fun b hb => by rw [List.mem_singleton.mp hb]; exact Nat.le_refl _) tests elts done

theorem CompIter.range {elt : Expr} {x : Str} {ifs : List Expr} {scope : Scope} {cl : List (Str × Addr)} {p : Value → Bool} {F : Value → Value → Prop} {Q : Value → Shared → Prop} {r : Addr} {n : Nat} {t u v : Tok}
    (hh : A.handled = none) (Fr₁ : Fr h₀ L s₁.heap m) (N : News h₀ L s₁.heap news) (hr : IsRange s₁.heap r 0 n 1 t u v) (hsm : Builtin.Range.small 0 n 1 = true) (hn : Builtin.Range.rangeSize 0 n 1 = n) (hsz : n ≤ sizeLine)
    (tests : ∀ C (i : Nat) (t : Tok) s₃ m₃, Fr h₀ L s₃.heap m → News h₀ L s₃.heap news → s₃.heap.Ns C m₃ → m₃ x = some (.int ((i : Nat) : Int) t) → (∀ b o, s₁.heap.get? b = some o → s₃.heap.get? b = some o) →
      wpAny (model prog w) A (forIn ifs true fun c r => if r = true then do let ok ← isTrue c (compEnvC scope cl C env) (eval c (compEnvC scope cl C env)); pure (ForInStep.yield ok) else pure (ForInStep.yield r)) (TestPost p (.int ((i : Nat) : Int) t) s₃) (fun _ _ => False) s₃)
    (elts : ∀ C (i : Nat) (t : Tok) s₃ m₃, p (.int ((i : Nat) : Int) t) = true → Fr h₀ L s₃.heap m → News h₀ L s₃.heap news → s₃.heap.Ns C m₃ → m₃ x = some (.int ((i : Nat) : Int) t) → (∀ b o, s₁.heap.get? b = some o → s₃.heap.get? b = some o) →
      wpAny (model prog w) A (eval elt (compEnvC scope cl C env)) (EltPost F (.int ((i : Nat) : Int) t) s₃) (fun _ _ => False) s₃)
    (done : ∀ D h' tk ys (vs : List Value), Fr h₀ L h' m → News h₀ L h' news → s₁.heap.get? D = none → h'.PlainList D ys → vs.length = n → (∀ j v, vs[j]? = some v → ∃ t, v = Value.int ((j : Nat) : Int) t) → Paired F (vs.filter p) ys.toList →
      (∀ b o, s₁.heap.get? b = some o → h'.get? b = some o) → Q (.ref D) { s₁ with heap := h', toks := tk }) :
    CompIter prog w A env elt x ifs scope cl p F Q E (.ref r) s₁ := by
  refine wpAny_pyIter_range hr hsm ?_
  refine CompAt.push (P := fun i v => ∃ t, v = Value.int ((i : Nat) : Int) t) (St := fun i h => IsRangeIter h s₁.heap.objs.size (0 + (i : Nat) * 1) ((n : Int) - (i : Nat)) 1) Fr₁ N ?_ hsz ?_ (fun b hb => by rw [List.mem_singleton.mp hb]; exact Nat.le_refl _) ?_ ?_ done
  · have W := Walks.range (prog := prog) (w := w) hh s₁.heap.objs.size 0 1 n
    exact { sub := W.sub, frame := W.frame, done := W.done, self := W.self, item := fun i s Q E hi st hQ => W.item i s Q E hi st fun v h' tk ⟨t, hv⟩ => hQ v h' tk ⟨t, by rw [hv]; simp⟩ }
  · show IsRangeIter _ _ _ _ _
    simpa [hn] using Heap.get?_push_size _ rfl
  · rintro C i v s₃ m₃ ⟨t, rfl⟩
    exact tests C i t s₃ m₃
  · rintro C i v s₃ m₃ ⟨t, rfl⟩
    exact elts C i t s₃ m₃
end
end Mine
end
section
open PySem PySem.W PyProof.Rows PySem.Calls
set_option maxRecDepth 100000
set_option maxHeartbeats 2000000
namespace Mine
theorem fillit3 : (fun (_ : Params → Frag) (_ : OpenLaw) => True) kk.heap_1 PySem.Challenge.rw_wj0075_01 := by k_fill; trivial

section
variable {w : World} {lo : List Str} {mean : ExcName → Option Value} {mg mb : Str → Option Value} {g : Heap} {s : Shared} {dp un : Nat} {fr : Option (List Env)} {gd : Option (List Code)} {Q : Value → Shared → Prop} {E : Value → Shared → Prop}

theorem kwGA0 : True := by
  k_with_none
  trivial
theorem kwGA1 : True := by
  (k_with "call ref" => ((with_reducible rename Fr _ _ _ _ => kF); (with_reducible rename News _ _ _ _ => kN); (k_dflt (first | refine conv_name (by assumption) kF.keep (by omega) (by omega) (by assumption) (by assumption) (fun h' tk' kx => ?_) | refine conv_value (by assumption) kF.keep (by omega) (by omega) (by assumption) (by assumption) (fun h' tk' kx => ?_))); have F' := kx.fr0 kF; have N' := kx.news0 kN; clear kF kN))
  trivial
local macro_rules | `(tactic| k_inst) => `(tactic| ((with_reducible rename Fr _ _ _ _ => kF); exact inst_at kF.keep (by assumption) (by assumption)))

theorem kwGA2 : True := by
  (k_with "eval ListComp" => refine Mine.Stop.of ?_)
  trivial
theorem kwGA3 : True := by
  (k_with "subscriptTail" => ((with_reducible show wpAny _ _ (subscriptTail _ _ (Value.ref _) (Value.int _ _)) _ _ _); (with_reducible rename Fr _ _ _ _ => kF); (refine item_tupleT (Heap.IsTuple.at (by with_reducible assumption) fun o e => kF.keep _ _ e) (by decide) (by decide) rfl rfl ?_)))
  trivial
/-- all under a name, the name's case aside -/
noncomputable def allLow (key : Str) (items : List (Str × Str)) : List Str := (items.filter fun p => Txt.lower p.1 == key).map (·.2)
noncomputable def pairOf (h : Heap) (v : Value) : Option (Str × Str) :=
  match v with
  | .ref a => match h.get? a with
    | some o => match o.data with
      | .seq d _ => match d.toList with
        | [.str k _, .str w _] => some (k, w)
        | _ => none
      | _ => none
    | none => none
  | _ => none
theorem PairsAt.pairOf {h : Heap} {a : Addr} {p : Str × Str} {t1 t2 : Tok} (ht : h.IsTuple a #[.str p.1 t1, .str p.2 t2]) : pairOf h (.ref a) = some p := by
  obtain ⟨o, ho, hc, n, hd⟩ := ht
  simp [Mine.pairOf, ho, hd]
noncomputable def lowTest (h : Heap) (key : Str) (v : Value) : Bool := match pairOf h v with
  | some q => Txt.lower q.1 == key
  | none => false
noncomputable def secondIs (h : Heap) (v y : Value) : Prop := ∃ q t, pairOf h v = some q ∧ y = .str q.2 t
theorem allLow_of {h : Heap} {key : Str} : ∀ {vs : List Value} {items : List (Str × Str)} {ys : List Value}, PairsAt h vs items → Paired (secondIs h) (vs.filter (lowTest h key)) ys → StrsAre ys (allLow key items)
  | [], [], ys, _, hF => by cases hF; exact .nil
  | v :: vs, q :: r, ys, ⟨⟨a, t1, t2, e, ht⟩, rest⟩, hF => by
    subst e
    have hq := PairsAt.pairOf ht
    by_cases hk : (Txt.lower q.1 == key) = true
    · rw [List.filter_cons_of_pos (by simp [lowTest, hq, hk])] at hF
      cases hF with
      | cons hy hr =>
        obtain ⟨q', t, hq', rfl⟩ := hy
        rw [hq] at hq'; cases hq'
        rw [allLow, List.filter_cons_of_pos (by simpa using hk), List.map_cons]
        exact StrsAre.cons _ _ (allLow_of rest hr)
    · rw [List.filter_cons_of_neg (by simp [lowTest, hq, hk])] at hF
      rw [allLow, List.filter_cons_of_neg (by simpa using hk)]
      exact allLow_of rest hF
  | [], _ :: _, _, h, _ => h.elim
  | _ :: _, [], _, h, _ => h.elim
theorem PairsAt.mem {h : Heap} : ∀ {vs : List Value} {items : List (Str × Str)} {v : Value}, PairsAt h vs items → v ∈ vs → ∃ p ∈ items, ∃ a t1 t2, v = .ref a ∧ h.IsTuple a #[.str p.1 t1, .str p.2 t2]
  | [], [], _, _, hm => by cases hm
  | v :: vs, q :: r, v', ⟨x, rest⟩, hm => by
    rcases List.mem_cons.mp hm with rfl | hm
    · exact ⟨q, .head _, x⟩
    · obtain ⟨p, hp, r⟩ := PairsAt.mem rest hm
      exact ⟨p, .tail _ hp, r⟩
  | [], _ :: _, _, h, _ => h.elim
  | _ :: _, [], _, h, _ => h.elim

theorem get_all_c (G : Gnd w lo mean mg mb g) (Bs : ∀ b o, g.get? b = some o → s.heap.get? b = some o) (hd : dp + 2 < recursionLimit) (hu : un + 16 < cLine)
    {x dx l : Addr} {hsh : Int} {t : Tok} {n : Nat} {vs : List Value} {items : List (Str × Str)} {name : Str} {tk : Tok}
    (hx : s.heap.get? x = some (instObj 283 dx)) (hdx : s.heap.get? dx = some (dictOf [⟨hsh, .str "_headers" t, .ref l⟩] n)) (hl : s.heap.IsList l vs.toArray) (hp : PairsAt s.heap vs items)
    (hn : Clean (Txt.lower name)) (hsz : (Txt.lower name).length ≤ sizeLine) (hsn : name.length ≤ 1000) (hlen : ∀ p ∈ items, p.1.length ≤ 1000)
    (hvl : vs.length ≤ sizeLine)
    (hret : ∀ h' tk' D ys, Ext s.heap h' [] → s.heap.get? D = none → h'.PlainList D ys → StrsAre ys.toList (allLow (Txt.lower name) items) → Q (.ref D) { s with heap := h', toks := tk' }) :
    wpAny (model PR w) (AA dp un fr gd) (call (.ref 222) [.ref x, .str name tk]) Q E s := by
  refine wpAny_call ?_
  refine enterCC (binds := [("self", .ref x), ("name", .str name tk)]) [] G Bs (by simp) (by k_is) (by k_is) (by omega) (BindsTo.of_eq rfl) rfl (by decide) ?_ rfl rfl rfl
  intro h₀ L h₁ tk0 cells G₀ hs₀ hk₀ hW F N Y hcf hL hk₁
  have X := G₀.X
  have T := G₀.T
  k_cells Y
  replace hx := hk₀ _ _ hx (by simp)
  replace hdx := hk₀ _ _ hdx (by simp)
  k_steps
  (with_reducible rename Fr _ _ _ _ => F1)
  (with_reducible rename News _ _ _ _ => N1)
  have hl0 : h₀.IsList l vs.toArray := hl.at fun o e => hk₀ _ _ e (by simp)
  have hp0 : PairsAt h₀ vs items := hp.mono fun b o e _ => hk₀ _ _ e (by simp)
  refine Stop.go (comp_list (cl := [("name", L + 1)]) (lowTest h₀ (Txt.lower name)) (secondIs h₀) (by with_unfolding_all rfl) (by decide) rfl (by decide) rfl (fun _ => rfl) ?_)
  k_steps
  refine CompIter.list rfl F1 N1 (hl0.at fun o e => F1.keep _ _ e) hvl ?_ ?_ ?_
  · intro C v s₃ m₃ hv F3 N3 hC hm3 k3
    obtain ⟨p, hp, a, t1, t2, rfl, ht⟩ := PairsAt.mem hp0 (by simpa using hv)
    have hplen := hlen _ hp
    refine one_test ?_
    clear F1 N1
    k_steps
    try dsimp only
    exact TestPost.go (by simp only [lowTest, PairsAt.pairOf ht]) fun _ _ e => e
  · intro C v s₃ m₃ hv _ F3 N3 hC hm3 k3
    obtain ⟨p, hp, a, t1, t2, rfl, ht⟩ := PairsAt.mem hp0 (by simpa using hv)
    clear F1 N1
    k_steps
    try dsimp only
    exact EltPost.go ⟨p, t2, PairsAt.pairOf ht, rfl⟩ fun _ _ e => e
  · intro D h' tk' ys F3 N3 hD hpl hF k3
    dsimp only
    refine hret _ _ D ys (fun b o e hb => F3.keep _ _ (hk₀ b o e hb)) ?_ hpl (allLow_of hp0 (by simpa using hF))
    cases q : s.heap.get? D with
    | none => rfl
    | some o => rw [show Heap.get? _ D = some o from F1.keep _ _ (hk₀ D o q (by simp))] at hD; cases hD
end
end Mine
end
section
open PySem PySem.W PyProof.Rows PySem.Calls
set_option maxRecDepth 100000
set_option maxHeartbeats 2000000
namespace Mine
theorem fillit4 : (fun (_ : Params → Frag) (_ : OpenLaw) => True) kk.heap_1 PySem.Challenge.rw_wj0075_01 := by k_fill; trivial

section
variable {w : World} {lo : List Str} {mean : ExcName → Option Value} {mg mb : Str → Option Value} {g : Heap} {s : Shared} {dp un : Nat} {fr : Option (List Env)} {gd : Option (List Code)} {Q : Value → Shared → Prop} {E : Value → Shared → Prop}

theorem under_make {C : Addr} {pos : List Value} {kw : List (Str × Value)} : (AA dp un fr gd).under (.builtin "type.__call__" ⟨.ref C :: pos, kw⟩) = AA (dp + 1) (un + 1) fr gd := by
  rfl


theorem headers_new (G : Gnd w lo mean mg mb g) (Bs : ∀ b o, g.get? b = some o → s.heap.get? b = some o) (hd : dp + 2 < recursionLimit)
    (hret : ∀ h' tk' x dx l hsh t n k, Ext s.heap h' [] → s.heap.get? x = none → s.heap.get? dx = none → s.heap.get? l = none → h'.get? x = some (instObj 283 dx) → h'.get? dx = some (dictOf [⟨hsh, .str "_headers" t, .ref l⟩] n) → h'.get? l = some (W.listOf #[] k) →
      Q (.ref x) { s with heap := h', toks := tk' }) :
    wpAny (model PR w) (AA dp un fr gd) (call (.ref 283) []) Q E s := by
  obtain ⟨hp, ge, dr, tk, os⟩ := s
  have X := G.X.keeps Bs
  refine wpAny_call (make_core (C := 283) (init := .ref 177) (makes_of X (by k_is)) (looks_findIn X (by k_is)) (fun self => bind_fn (f := 177) X self (by k_is)) (.inl rfl) ?_)
  rw [under_make]
  generalize hdx : hp.objs.size = dx
  have hxn : hp.get? (dx + 1) = none := Heap.get?_none_of_le (by rw [hdx]; exact Nat.le_succ _)
  have hdn : hp.get? dx = none := Heap.get?_none_of_le (by rw [hdx]; exact Nat.le_refl _)
  have up : ∀ b o, hp.get? b = some o → ((hp.push emptyDict).push (instObj 283 dx)).get? b = some o := fun b o e => Heap.get?_push_of_some _ (Heap.get?_push_of_some _ e)
  have gn : ∀ a, hp.get? a = none → g.get? a = none := fun a e => by
    cases q : g.get? a with
    | none => rfl
    | some o => have := Bs a o q; rw [e] at this; cases this
  refine enterC (binds := [("self", .ref (dx + 1)), ("headers", .none)]) [dx + 1, dx] G (fun b o e => up b o (Bs b o e)) (fun a ha => ?_) (by k_is) (by k_is) (by omega) (binds_K (X.keeps up) rfl (by k_is) rfl rfl rfl) (locs rfl) ?_ rfl rfl rfl (by decide)
  · rcases List.mem_cons.mp ha with rfl | ha
    · exact gn _ hxn
    · rw [List.mem_singleton.mp ha]; exact gn _ hdn
  intro h₀ L h₁ G₀ hs₀ hk₀ hW F hL hk₁
  have X := G₀.X
  have T := G₀.T
  have hx1 : ((hp.push emptyDict).push (instObj 283 dx)).get? (dx + 1) = some (instObj 283 dx) := by
    have := Heap.get?_push_size (h := hp.push emptyDict) (o := instObj 283 dx) rfl
    rwa [Heap.size_push, hdx] at this
  have hd1 : ((hp.push emptyDict).push (instObj 283 dx)).get? dx = some (dictOf [] 0) := by
    have := Heap.get?_push_size (h := hp) (o := emptyDict) rfl
    rw [hdx] at this
    exact Heap.get?_push_of_some _ this
  have N : News h₀ L h₁ [(dx + 1, instObj 283 dx), (dx, dictOf [] 0)] := by
    intro p hp'
    rcases List.mem_cons.mp hp' with rfl | hp'
    · exact ⟨hk₁ _ _ hx1, (fun e => by rw [← e] at hL; rw [show Heap.get? _ (dx + 1) = none from hL] at hx1; cases hx1), hW _ (by simp)⟩
    · rw [List.mem_singleton.mp hp']
      exact ⟨hk₁ _ _ hd1, (fun e => by rw [← e] at hL; rw [show Heap.get? _ dx = none from hL] at hd1; cases hd1), hW _ (by simp)⟩
  k_steps
  (with_reducible rename Fr _ _ _ _ => F1)
  (with_reducible rename News _ _ _ _ => N1)
  refine ⟨rfl, ?_⟩
  have hl1 := N1 _ (.head _)
  have hx2 := N1 _ (.tail _ (.head _))
  have hd2 := N1 _ (.tail _ (.tail _ (.head _)))
  refine hret _ _ _ _ _ _ _ _ _ (fun b o e _ => ?_) hxn hdn ?_ hx2.1 hd2.1 hl1.1
  · refine F1.keep _ _ (hk₀ b o (up b o e) fun hm => ?_)
    rcases List.mem_cons.mp hm with rfl | hm
    · rw [show hp.get? (dx + 1) = some o from e] at hxn; cases hxn
    · rw [List.mem_singleton.mp hm] at e; rw [show hp.get? dx = some o from e] at hdn; cases hdn
  · cases q : hp.get? _ with
    | none => rfl
    | some o =>
      have e := hl1.2.2
      rw [hk₀ _ o (up _ o q) (fun hm => ?_)] at e
      · cases e
      · rcases List.mem_cons.mp hm with hm | hm
        · rw [hm, hxn] at q; cases q
        · rw [List.mem_singleton.mp hm, hdn] at q; cases q
end
end Mine
end
section
open PySem PySem.W PyProof.Rows PySem.Calls PyProof.Rows.LCg
set_option maxRecDepth 100000
set_option maxHeartbeats 2000000
namespace Mine
theorem fillit5 : (fun (_ : Params → Frag) (_ : OpenLaw) => True) kk.heap_1 PySem.Challenge.rw_wj0075_01 := by k_fill; trivial

section
variable {w : World} {lo : List Str} {mean : ExcName → Option Value} {mg mb : Str → Option Value} {g : Heap} {s : Shared} {dp un : Nat} {fr : Option (List Env)} {gd : Option (List Code)} {Q : Value → Shared → Prop} {E : Value → Shared → Prop}

theorem kwAh0 : True := by
  k_with_none
  trivial
theorem kwAh1 : True := by
  (k_with "call ref" => ((with_reducible rename Fr _ _ _ _ => kF); (with_reducible rename News _ _ _ _ => kN); (k_dflt (first | refine conv_name (by assumption) kF.keep (by omega) (by omega) (by assumption) (by assumption) (fun h' tk' kx => ?_) | refine conv_value (by assumption) kF.keep (by omega) (by omega) (by assumption) (by assumption) (fun h' tk' kx => ?_))); have F' := kx.fr0 kF; have N' := kx.news0 kN; clear kF kN))
  trivial
local macro_rules | `(tactic| k_inst) => `(tactic| ((with_reducible rename Fr _ _ _ _ => kF); exact inst_at kF.keep (by assumption) (by assumption)))

theorem kwAh2 : True := by
  (k_with "call builtin:str.join" => ((with_reducible show wpAny _ _ (call (Value.builtin _) [Value.str _ _, Value.ref _]) _ _ _); k_dflt (refine join_listW (by is_list) (by kct_strs) (by decide +kernel) (by simp; omega) ?_); intro _ _))
  trivial
theorem append_ext {A : Around} {l : Addr} {its : Array Value} {k : Nat} {v : Value} (hl : s.heap.get? l = some (W.listOf its k)) (hsz : its.size ≤ sizeLine)
    (hq : ∀ h' k', h'.get? l = some (W.listOf (its.push v) k') → Ext s.heap h' [l] → Q .none { s with heap := h' }) : wpAny (model PR w) A (call (.builtin "list.append") [.ref l, v]) Q E s :=
  wpAny_list_append_plain ⟨k, hl⟩ (fun h' ⟨k', hl'⟩ hs => hq h' k' hl' fun b o e hb => (hs.2 b (by simpa using hb)).trans e) hsz

theorem for_no_items {prog : Program} {A : Around} {env : Env} {h₀ : Heap} {m : Str → Option Value} {news : List (Addr × Obj)} {D : Addr} {n : Nat} {k v x : Str} {pk pv pt pos px pa pc : Pos} {x1 : Nat} {body : List Stmt} {Q : Flow → Shared → Prop}
    (hh : A.handled = none) (F : Fr h₀ env.locals s.heap m) (N : News h₀ env.locals s.heap news) (hDn : (D, dictOf [] n) ∈ news) (hlo : (D == sysModules) = false)
    (hx : wpAny (model prog w) A (eval (.Name x px) env) (fun xv s₁ => xv = .ref D ∧ s₁ = s) (fun _ _ => False) s)
    (he : ∃ pl, eval (.Call (.Attribute (.Name x px) "items" pa) [] [] pc) env = (do
      let ov ← eval (.Name x px) env
      standAt pa.atName
      let (f, first) ← holding [ov] (getMethod ov "items" pl)
      callWith pc f first (backTo pc (starEach [] env)) []))
    (hs : ∀ z, foldedSetIterable (.Call (.Attribute (.Name x px) "items" pa) [] [] pc) env z = pure z)
    (h : ∀ h', Fr h₀ env.locals h' m → News h₀ env.locals h' news → Q .next { s with heap := h' }) :
    wpAny (model prog w) A (exec (.For (.Tuple [.Name k pk, .Name v pv] x1 pt) (.Call (.Attribute (.Name x px) "items" pa) [] [] pc) body [] pos) env) Q (fun _ _ => False) s := by
  obtain ⟨pl, he⟩ := he
  have hat : ∀ {h : Heap}, h.get? D = some (dictOf [] n) → h.DictAt (strKind prog w) D [] n := fun hD => ⟨_, #[], hD, ⟨rfl, rfl, rfl⟩, rfl, (by intro e he; simp at he), .nil, by simp⟩
  have T : TabAt (strKind prog w) PyData.str s.heap D [] := ⟨hlo, [], (hat (N _ hDn).1).dictOf, .nil⟩
  refine wpAny_For (MethodCall_ (pl := pl) (wpAny_mono hx (fun xv s₁ q => ?_) fun _ _ x => x) he) hs
  obtain ⟨rfl, rfl⟩ := q
  refine getMethod_tab PySem.F.slot_dict_items PySem.F.type_dict_items T ?_
  refine callWith_method0 ?_
  refine call_items_tab T F N ?_
  intro h1 ov hv F1 N1
  refine wpAny_pyIter_items (knd := strKind prog w) hv (hat (N1 _ (.tail _ hDn)).1) ?_
  have N2 := News.push F1 (fun p hp => N1 p (.tail _ hp) : News h₀ env.locals h1 news) { cls := .type "dict_itemiterator", data := .fields #[.none, .bool false, .ref D, .int 0 0, .int ([] : List (Str × Value)).length 0, .int n 0, .none, .none] }
  have F2 := F1.push { cls := .type "dict_itemiterator", data := .fields #[.none, .bool false, .ref D, .int 0 0, .int ([] : List (Str × Value)).length 0, .int n 0, .none, .none] }
  have hIh := (N2 _ (.head _))
  refine codeAny_forLoop_any (fun _ s' => s' = _) ?_ 0 rfl
  rintro _ s' rfl
  refine wpAny_mono (E := fun _ _ => False) ?_ (fun _ _ x => x) (fun _ _ x => x.elim)
  refine wpAny_pyNext_items_end (knd := strKind prog w) (kvs := []) hh hIh.1 (hat (N2 _ (.tail _ hDn)).1) rfl fun h3 he3 => ?_
  refine wpAny_execs_nil ?_
  refine h h3 (fr_but F2 (fun b o hb e => he3 b o (by simpa using hb) e) (Ne.symm hIh.2.1) hIh.2.2) (news_but (fun p hp => N2 p (.tail _ hp)) (fun b o hb e => he3 b o (by simpa using hb) e) fun p hp e => ?_)
  have := (N1 p (.tail _ hp)).1
  rw [e] at this
  exact absurd (Heap.lt_size this) (Nat.lt_irrefl _)

theorem add_header_c (G : Gnd w lo mean mg mb g) (Bs : ∀ b o, g.get? b = some o → s.heap.get? b = some o) (hd : dp + 2 < recursionLimit) (hu : un + 16 < cLine)
    {x dx l : Addr} {hsh : Int} {t : Tok} {n k : Nat} {vs : List Value} {name val : Str} {tn tv : Tok}
    (hx : s.heap.get? x = some (instObj 283 dx)) (hdx : s.heap.get? dx = some (dictOf [⟨hsh, .str "_headers" t, .ref l⟩] n)) (hl : s.heap.get? l = some (W.listOf vs.toArray k)) (hgl : g.get? l = none)
    (hn : Clean name) (hnz : name.length ≤ sizeLine) (hv : Clean val) (hvz : val.length ≤ sizeLine) (hvs : val.length ≤ 1000) (hvl : vs.length ≤ 1000)
    (hret : ∀ h' tk' T k' t1 t2, Ext s.heap h' [l] → s.heap.get? T = none → h'.IsTuple T #[.str name t1, .str val t2] → h'.get? l = some (W.listOf (vs ++ [Value.ref T]).toArray k') → Q .none { s with heap := h', toks := tk' }) :
    wpAny (model PR w) (AA dp un fr gd) (call (.ref 280) [.ref x, .str name tn, .str val tv]) Q E s := by
  have X := G.X.keeps Bs
  have hxl : x ≠ l := fun e => by rw [e, hl] at hx; cases hx
  have hdl : dx ≠ l := fun e => by rw [e, hl] at hdx; simp [dictOf] at hdx
  refine wpAny_call ?_
  generalize hDz : s.heap.objs.size = Dz
  refine enterS (binds := [("self", .ref x), ("_name", .str name tn), ("_value", .str val tv), ("_params", .ref Dz)]) [l, Dz] { s with heap := s.heap.push (dictOf [] 0) } G Bs (fun _ _ e => Heap.get?_push_of_some _ e) (fun a ha => ?_) (by k_is) (by k_is) (by omega)
    (fun A E Q q => of_peekA X _ _ rfl (by rw [hDz]; exact wpAny_pure q)) (locs rfl) ?_ rfl rfl rfl (by decide)
  · rcases List.mem_cons.mp ha with rfl | ha
    · exact hgl
    · rw [List.mem_singleton.mp ha]
      cases q : g.get? Dz with
      | none => rfl
      | some o => exact absurd (Heap.lt_size (Bs _ _ q)) (by rw [hDz]; exact Nat.lt_irrefl _)
  have hDn : s.heap.get? Dz = none := Heap.get?_none_of_le (by rw [hDz]; exact Nat.le_refl _)
  have hD1 : (s.heap.push (dictOf [] 0)).get? Dz = some (dictOf [] 0) := by
    have := Heap.get?_push_size (h := s.heap) (o := dictOf [] 0) rfl
    rwa [hDz] at this
  have hl1 := Heap.get?_push_of_some (dictOf [] 0) hl
  have ne : ∀ {a o}, s.heap.get? a = some o → a ≠ l → a ∉ [l, Dz] := fun {a o} e n hm => by
    rcases List.mem_cons.mp hm with rfl | hm
    · exact n rfl
    · rw [List.mem_singleton.mp hm, hDn] at e; cases e
  intro h₀ L h₁ G₀ hs₀ hk₀ hW F hL hk₁
  have X := G₀.X
  have T := G₀.T
  have N : News h₀ L h₁ [(l, W.listOf vs.toArray k), (Dz, dictOf [] 0)] := by
    intro p hp'
    rcases List.mem_cons.mp hp' with rfl | hp'
    · exact ⟨hk₁ _ _ hl1, (fun e => by rw [← e] at hL; rw [show Heap.get? _ l = none from hL] at hl1; cases hl1), hW _ (by simp)⟩
    · rw [List.mem_singleton.mp hp']
      exact ⟨hk₁ _ _ hD1, (fun e => by rw [← e] at hL; rw [show Heap.get? _ Dz = none from hL] at hD1; simp at hD1), hW _ (by simp)⟩
  have hlo : (Dz == sysModules) = false := by
    have := modules_low (G.T.nolimit.keeps Bs)
    rw [hDz] at this
    exact beq_eq_false_iff_ne.mpr (Nat.ne_of_gt this)
  replace hx := hk₀ x _ (Heap.get?_push_of_some _ hx) (ne hx hxl)
  replace hdx := hk₀ dx _ (Heap.get?_push_of_some _ hdx) (ne hdx hdl)
  k_steps
  (with_reducible rename Fr _ _ _ _ => F1)
  (with_reducible rename News _ _ _ _ => N1)
  refine for_no_items rfl F1 N1 (.tail _ (.tail _ (.head _))) hlo (by k_steps) ⟨_, rfl⟩ (fun _ => rfl) fun h2 F2 N2 => ?_
  clear F1 N1
  k_steps
  (with_reducible rename Fr _ _ _ _ => F3)
  (with_reducible rename News _ _ _ _ => N3)
  have hT := (N3 _ (.head _))
  refine append_ext (N3 _ (.tail _ (.tail _ (.head _)))).1 (by rw [List.size_toArray]; exact Nat.le_trans hvl (by decide +kernel)) fun h4 k4 hl4 x4 => ?_
  k_steps
  dsimp only
  have hTl := news_ne N3 (.head _) (.tail _ (.tail _ (.head _))) (by simp)
  have up2 : ∀ b o, s.heap.get? b = some o → b ≠ l → h4.get? b = some o := fun b o e n => x4 b o (F3.keep _ _ (hk₀ b o (Heap.get?_push_of_some _ e) (ne e n))) (by simpa using n)
  refine hret h4 _ _ k4 _ _ (fun b o e hb => up2 b o e (by simpa using hb)) ?_ ⟨_, x4 _ _ hT.1 (by simpa using hTl), rfl, _, rfl⟩ (by rw [hl4]; simp)
  refine Option.eq_none_iff_forall_ne_some.mpr fun o q => ?_
  · have e := hk₀ _ o (Heap.get?_push_of_some _ q) (ne q hTl)
    rw [hT.2.2] at e; cases e
end
end Mine
end
section
open PySem PySem.W PyProof.Rows PySem.Calls
set_option maxRecDepth 100000
set_option maxHeartbeats 2000000
namespace Mine
theorem fillit6 : (fun (_ : Params → Frag) (_ : OpenLaw) => True) kk.heap_1 PySem.Challenge.rw_wj0075_01 := by k_fill; trivial

section
variable {w : World} {lo : List Str} {mean : ExcName → Option Value} {mg mb : Str → Option Value} {g : Heap} {s : Shared} {dp un : Nat} {fr : Option (List Env)} {gd : Option (List Code)} {Q : Value → Shared → Prop} {E : Value → Shared → Prop}

theorem kwDi0 : True := by
  k_with_none
  trivial
theorem kwDi1 : True := by
  (k_with "call ref" => ((with_reducible rename Fr _ _ _ _ => kF); (with_reducible rename News _ _ _ _ => kN); (k_dflt (first | refine conv_name (by assumption) kF.keep (by omega) (by omega) (by assumption) (by assumption) (fun h' tk' kx => ?_) | refine conv_value (by assumption) kF.keep (by omega) (by omega) (by assumption) (by assumption) (fun h' tk' kx => ?_))); have F' := kx.fr0 kF; have N' := kx.news0 kN; clear kF kN))
  trivial
local macro_rules | `(tactic| k_inst) => `(tactic| ((with_reducible rename Fr _ _ _ _ => kF); exact inst_at kF.keep (by assumption) (by assumption)))
theorem kwDi2 : True := by
  (k_with "eval ListComp" => refine Mine.Stop.of ?_)
  trivial
theorem kwDi3 : True := by
  (k_with "subscriptTail" => ((with_reducible show wpAny _ _ (subscriptTail _ _ (Value.ref _) (Value.int _ _)) _ _ _); (with_reducible rename Fr _ _ _ _ => kF); (refine item_tupleT (Heap.IsTuple.at (by with_reducible assumption) fun o e => kF.keep _ _ e) (by decide) (by decide) rfl rfl ?_)))
  trivial

theorem setItem_all {A : Around} {l sl D : Addr} {items new : Array Value} {k : Nat} {Q : Unit → Shared → Prop} (hl : s.heap.get? l = some (W.listOf items k)) (hs : s.heap.IsSliceOf sl .none .none .none) (hD : s.heap.IsList D new) (hlD : l ≠ D)
    (hsz : items.size + new.size ≤ sizeLine) (h : ∀ h' k', h'.get? l = some (W.listOf new k') → Ext s.heap h' [l] → Q () { s with heap := h' }) :
    wpAny (model PR w) A (setItem (.ref l) (.ref sl) (.ref D)) Q E s := by
  have hL : s.heap.IsList l items := ⟨_, hl, rfl, k, rfl⟩
  obtain ⟨os, hos, hcs, hds⟩ := id hs
  obtain ⟨oD, hoD, hcD, nD, hdD⟩ := id hD
  have hTs : s.TypeIs (.ref sl) "slice" := ⟨os, hos, hcs⟩
  unfold setItem
  try with_reducible refine wpAny_holding ?_
  first | refine wpAny_bind (wpAny_pure ?_) | skip
  refine wpAny_bind (wpAny_sequenceKey hL.typeIs (by decide) ?_)
  refine wpAny_bind (wpAny_callSpecial?_slot (name := Str.ofString "__setitem__") hL.typeIs slot_list_setitem
    (wpAny_call_entry slot_list_setitem hL.typeIs entry_list_setitem ?_ (args_list_setitem _ _ _)))
  show wpAny _ _ (Builtin.List.listSubscript? (.ref sl) >>= _) _ _ s
  refine wpAny_bind ?_
  · unfold Builtin.List.listSubscript?
    refine wpAny_bind (wpAny_specialOf hTs slice_no_index ?_)
    simp only [Option.isNone_none, if_true]
    refine wpAny_pure ?_
    show wpAny _ _ (typeOf (.ref sl) >>= _) _ _ s
    refine wpAny_bind (wpAny_typeOf hTs ?_)
    rw [if_neg (by decide)]
    rw [listSliceParts_eq]
    refine wpAny_bind (wpAny_bind (wpAny_field hos hds (x := .none) rfl (wpAny_bind (wpAny_listPart .none ?_))))
    rw [if_neg (show ¬ ((rawPart none == rawInt 0) = true) from Bool.false_ne_true)]
    refine wpAny_bind (wpAny_field hos hds (x := .none) rfl (wpAny_bind (wpAny_listPart .none ?_)))
    refine wpAny_bind (wpAny_field hos hds (x := .none) rfl (wpAny_bind (wpAny_listPart .none (wpAny_pure ?_))))
    dsimp only
    rw [if_neg (show ¬ (Builtin.List.listSameRef (.ref l) (.ref D) = true) from by simpa [Builtin.List.listSameRef] using hlD)]
    refine wpAny_bind (m := Builtin.List.listAllItems (.ref D) _) ?_
    unfold Builtin.List.listAllItems
    refine wpAny_bind (wpAny_typeOf (T := "list") ⟨oD, hoD, hcD⟩ ?_)
    rw [if_pos (by decide)]
    unfold Builtin.List.listItems
    refine wpAny_bind (wpAny_seqItems hoD hdD (wpAny_pure ?_))
    refine wpAny_bind (wpAny_bind (wpAny_seqItems hl rfl (wpAny_pure ?_)))
    refine wpAny_bind (wpAny_of_eq (sliceIndices_raw none none none items.size (by simp)) ?_)
    have e : sliceBounds none none none items.size = (((0 : Nat) : Int), (items.size : Int), 1) := by simp [sliceBounds]
    rw [e]
    dsimp only
    rw [if_pos (by decide)]
    refine wpAny_bind (wpAny_rule ?_)
    rw [if_neg (by simp only [Builtin.List.listTooLong, decide_eq_true_eq]; exact Nat.not_lt.mpr hsz)]
    have ef : ∀ xs : Array Value, xs = items → xs.extract 0 ((0 : Nat) : Int).toNat ++ new ++ xs.extract (max ((0 : Nat) : Int) (items.size : Int)).toNat = new := by
      rintro xs rfl
      simp
    refine wpAny_bind (m := Builtin.List.listUpdate (.ref l) _) (wpAny_updateSeq hl rfl ?_ (Nat.le_trans (Nat.le_add_right _ _) hsz) (by rw [ef _ rfl]; exact Nat.le_succ_of_le (Nat.le_trans (Nat.le_add_left _ _) hsz)))
    refine wpAny_bind (wpAny_letGo ?_)
    obtain ⟨k', hd'⟩ := Obj.data_mapSeq (o := W.listOf items k) (xs := items) (n := k) rfl (fun xs => xs.extract 0 ((0 : Nat) : Int).toNat ++ new ++ xs.extract (max ((0 : Nat) : Int) (items.size : Int)).toNat)
    rw [ef _ rfl] at hd'
    refine wpAny_pure ⟨.none, rfl, wpAny_pure (h _ k' ?_ fun b o e hb => ((Heap.SameBut.update ..).2 b (by simpa using hb)).trans e)⟩
    rw [Heap.get?_update_self _ hl (Obj.isFreed_of_seq hd')]
    exact congrArg some (by unfold W.listOf; rw [← hd']; rfl)

noncomputable def lowNe (h : Heap) (key : Str) (v : Value) : Bool := match pairOf h v with
  | some q => Txt.lower q.1 != key
  | none => false
theorem filter_pairs {h : Heap} {key : Str} : ∀ {vs : List Value} {items : List (Str × Str)}, PairsAt h vs items → PairsAt h (vs.filter (lowNe h key)) (items.filter fun p => Txt.lower p.1 != key)
  | [], [], _ => trivial
  | v :: vs, q :: r, ⟨⟨a, t1, t2, e, ht⟩, rest⟩ => by
    subst e
    have hq := PairsAt.pairOf ht
    cases hk : (Txt.lower q.1 != key) with
    | true =>
      rw [List.filter_cons_of_pos (by simp only [lowNe, hq]; exact hk), List.filter_cons_of_pos (p := fun p : Str × Str => Txt.lower p.1 != key) hk]
      exact ⟨⟨a, t1, t2, rfl, ht⟩, filter_pairs rest⟩
    | false =>
      rw [List.filter_cons_of_neg (by simp only [lowNe, hq, hk]; exact Bool.false_ne_true), List.filter_cons_of_neg (p := fun p : Str × Str => Txt.lower p.1 != key) (by rw [hk]; exact Bool.false_ne_true)]
      exact filter_pairs rest
  | [], _ :: _, h => h.elim
  | _ :: _, [], h => h.elim
theorem paired_eq : ∀ {xs ys : List Value}, Paired (fun v y => y = v) xs ys → ys = xs
  | _, _, .nil => rfl
  | _, _, .cons h r => by rw [h, paired_eq r]

theorem delitem_c (G : Gnd w lo mean mg mb g) (Bs : ∀ b o, g.get? b = some o → s.heap.get? b = some o) (hd : dp + 2 < recursionLimit) (hu : un + 16 < cLine)
    {x dx l : Addr} {hsh : Int} {t : Tok} {n k : Nat} {vs : List Value} {items : List (Str × Str)} {name : Str} {tk : Tok}
    (hx : s.heap.get? x = some (instObj 283 dx)) (hdx : s.heap.get? dx = some (dictOf [⟨hsh, .str "_headers" t, .ref l⟩] n)) (hl : s.heap.get? l = some (W.listOf vs.toArray k)) (hgl : g.get? l = none) (hp : PairsAt s.heap vs items)
    (hn : Clean (Txt.lower name)) (hsz : (Txt.lower name).length ≤ sizeLine) (hsn : name.length ≤ 1000) (hlen : ∀ p ∈ items, p.1.length ≤ 1000) (hvl : vs.length ≤ 1000)
    (hret : ∀ h' tk' k', Ext s.heap h' [l] → h'.get? l = some (W.listOf (vs.filter (lowNe s.heap (Txt.lower name))).toArray k') → Q .none { s with heap := h', toks := tk' }) :
    wpAny (model PR w) (AA dp un fr gd) (call (.ref 203) [.ref x, .str name tk]) Q E s := by
  have hxl : x ≠ l := fun e => by rw [e, hl] at hx; cases hx
  have hdl : dx ≠ l := fun e => by rw [e, hl] at hdx; simp [dictOf] at hdx
  have hvl' : vs.length ≤ sizeLine := Nat.le_trans hvl (by decide +kernel)
  refine wpAny_call ?_
  refine enterCC (binds := [("self", .ref x), ("name", .str name tk)]) [l] G Bs (by simpa using hgl) (by k_is) (by k_is) (by omega) (BindsTo.of_eq rfl) rfl (by decide) ?_ rfl rfl rfl
  intro h₀ L h₁ tk0 cells G₀ hs₀ hk₀ hW F N0 Y hcf hL hk₁
  have X := G₀.X
  have T := G₀.T
  k_cells Y
  have N := news_add N0 (hk₁ _ _ hl) (fun e => by rw [← e] at hL; rw [hL] at hl; cases hl) (hW l (by simp))
  clear N0
  replace hx := hk₀ _ _ hx (by simpa using hxl)
  replace hdx := hk₀ _ _ hdx (by simpa using hdl)
  have hp0 : PairsAt h₀ vs items := by
    refine hp.mono fun b o e hc => hk₀ _ _ e ?_
    intro hm
    rw [List.mem_singleton.mp hm, hl] at e
    rw [← Option.some.inj e] at hc
    simp at hc
  k_steps
  (with_reducible rename Fr _ _ _ _ => F1)
  (with_reducible rename News _ _ _ _ => N1)
  refine Stop.go (comp_list (cl := [("name", L + 1)]) (lowNe h₀ (Txt.lower name)) (fun v y => y = v) (by with_unfolding_all rfl) (by decide) rfl (by decide) rfl (fun _ => rfl) ?_)
  k_steps
  refine CompIter.list rfl F1 N1 ⟨_, (N1 _ (.head _)).1, rfl, _, rfl⟩ hvl' ?_ ?_ ?_
  · intro C v s₃ m₃ hv F3 N3 hC hm3 k3
    obtain ⟨p, hp, a, t1, t2, rfl, ht⟩ := PairsAt.mem hp0 (by simpa using hv)
    have hplen := hlen _ hp
    refine one_test ?_
    clear F1 N1
    k_steps
    try dsimp only
    exact TestPost.go (by simp only [lowNe, PairsAt.pairOf ht]) fun _ _ e => e
  · intro C v s₃ m₃ hv _ F3 N3 hC hm3 k3
    clear F1 N1
    k_steps
    try dsimp only
    exact EltPost.go rfl fun _ _ e => e
  · intro D h' tk' ys F3 N3 hD hpl hF k3
    try dsimp only
    have e : ys.toList = vs.filter (lowNe h₀ (Txt.lower name)) := paired_eq (by simpa using hF)
    have ef : vs.filter (lowNe h₀ (Txt.lower name)) = vs.filter (lowNe s.heap (Txt.lower name)) := by
      refine List.filter_congr fun v hv => ?_
      obtain ⟨p, _, a, t1, t2, rfl, ht⟩ := PairsAt.mem hp0 hv
      simp only [lowNe, PairsAt.pairOf ht, PairsAt.pairOf (ht.at fun o e => hs₀ _ _ e)]
    obtain ⟨kD, hD1⟩ := hpl
    have hDl : l ≠ D := fun e => by rw [← e] at hD; rw [show Heap.get? _ l = some _ from (N1 _ (.head _)).1] at hD; cases hD
    have hl3 := (N3 _ (.head _)).1
    clear F1 N1
    k_steps
    have szs : ys.size ≤ 1000 := by
      rw [← Array.length_toList, e]
      exact Nat.le_trans (List.length_filter_le _ _) hvl
    refine setItem_all (items := vs.toArray) (Heap.get?_push_of_some _ hl3) (Heap.IsSliceOf.new _ _ _ _) ⟨_, Heap.get?_push_of_some _ hD1, rfl, _, rfl⟩ hDl (Nat.le_trans (Nat.add_le_add (by rw [List.size_toArray]; exact hvl) szs) (by decide +kernel)) fun h5 k5 hl5 x5 => ?_
    k_steps
    dsimp only
    refine hret h5 _ k5 (fun b o eb hb => x5 b o (Heap.get?_push_of_some _ (F3.keep _ _ (hk₀ b o eb hb))) hb) ?_
    rw [hl5, ← ef, ← e, Array.toArray_toList]
end
end Mine
end
section
open PySem PySem.W PyProof.Rows PySem.Calls
set_option maxRecDepth 100000
set_option maxHeartbeats 2000000
namespace Mine
theorem fillit7 : (fun (_ : Params → Frag) (_ : OpenLaw) => True) kk.heap_1 PySem.Challenge.rw_wj0075_01 := by k_fill; trivial

section
variable {w : World} {lo : List Str} {mean : ExcName → Option Value} {mg mb : Str → Option Value} {g : Heap} {s : Shared} {dp un : Nat} {fr : Option (List Env)} {gd : Option (List Code)} {Q : Value → Shared → Prop} {E : Value → Shared → Prop}

theorem kwSi0 : True := by
  k_with_none
  trivial
theorem kwSi1 : True := by
  (k_with "call ref" => ((with_reducible rename Fr _ _ _ _ => kF); (with_reducible rename News _ _ _ _ => kN); (k_dflt (first | refine conv_name (by assumption) kF.keep (by omega) (by omega) (by assumption) (by assumption) (fun h' tk' kx => ?_) | refine conv_value (by assumption) kF.keep (by omega) (by omega) (by assumption) (by assumption) (fun h' tk' kx => ?_))); have F' := kx.fr0 kF; have N' := kx.news0 kN; clear kF kN))
  trivial
local macro_rules | `(tactic| k_inst) => `(tactic| ((with_reducible rename Fr _ _ _ _ => kF); exact inst_at kF.keep (by assumption) (by assumption)))

theorem own_delItem {M : Model} {A : Around} {K : Frag} {x C L f : Addr} {h₀ : Heap} {m : Str → Option Value} {ox : Obj} {od : Option Obj} {i : Value} {Q : Unit → Shared → Prop} (F : Fr h₀ L s.heap m) (X₀ : K.In h₀) (I : InstAt s.heap x ox C od) (hq : noSeq K C = true) (hs : findIn K (.ref C) "__delitem__" = some (some (.ref f))) (hf : isFn K (.ref f) = true)
    (h : wpAny M A (call (.ref f) [.ref x, i]) (fun _ s' => Q () s') E s) : wpAny M A (delItem (.ref x) i) Q E s := by
  have X := X₀.keeps F.keep
  unfold delItem sequenceKey
  refine wpAny_holding (wpAny_bind (wpAny_bind (I.type.here ?_)))
  refine wpAny_bind ((anyM_none X hq).here ?_)
  rw [if_pos (show (!false) = true from rfl)]
  exact wpAny_pure (wpAny_bind (special_fn X I hs (beq_iff_eq.mp hf) (wpAny_mono h (fun _ _ z => wpAny_pure z) fun _ _ z => z)))

noncomputable def itemsSet (items : List (Str × Str)) (name val : Str) : List (Str × Str) := (items.filter fun p => Txt.lower p.1 != Txt.lower name) ++ [(name, val)]

theorem setitem_c (G : Gnd w lo mean mg mb g) (Bs : ∀ b o, g.get? b = some o → s.heap.get? b = some o) (hd : dp + 4 < recursionLimit) (hu : un + 30 < cLine)
    {x dx l : Addr} {hsh : Int} {t : Tok} {n k : Nat} {vs : List Value} {items : List (Str × Str)} {name val : Str} {tn tv : Tok}
    (hx : s.heap.get? x = some (instObj 283 dx)) (hdx : s.heap.get? dx = some (dictOf [⟨hsh, .str "_headers" t, .ref l⟩] n)) (hl : s.heap.get? l = some (W.listOf vs.toArray k)) (hgl : g.get? l = none) (hp : PairsAt s.heap vs items)
    (hnl : Clean (Txt.lower name)) (hszl : (Txt.lower name).length ≤ sizeLine) (hn : Clean name) (hsn : name.length ≤ 1000) (hv : Clean val) (hvs : val.length ≤ 1000) (hlen : ∀ p ∈ items, p.1.length ≤ 1000) (hvl : vs.length ≤ 999)
    (hret : ∀ h' tk' T k' t1 t2, Ext s.heap h' [l] → s.heap.get? T = none → h'.IsTuple T #[.str name t1, .str val t2] → h'.get? l = some (W.listOf (vs.filter (lowNe s.heap (Txt.lower name)) ++ [Value.ref T]).toArray k') → Q .none { s with heap := h', toks := tk' }) :
    wpAny (model PR w) (AA dp un fr gd) (call (.ref 198) [.ref x, .str name tn, .str val tv]) Q E s := by
  have hxl : x ≠ l := fun e => by rw [e, hl] at hx; cases hx
  have hdl : dx ≠ l := fun e => by rw [e, hl] at hdx; simp [dictOf] at hdx
  have hnz : name.length ≤ sizeLine := Nat.le_trans hsn (by decide +kernel)
  have hvz : val.length ≤ sizeLine := Nat.le_trans hvs (by decide +kernel)
  refine wpAny_call ?_
  refine enterC (binds := [("self", .ref x), ("name", .str name tn), ("val", .str val tv)]) [l] G Bs (by simpa using hgl) (by k_is) (by k_is) (by omega) (BindsTo.of_eq rfl) (locs rfl) ?_ rfl rfl rfl (by decide)
  intro h₀ L h₁ G₀ hs₀ hk₀ hW F hL hk₁
  have X := G₀.X
  have T := G₀.T
  have N := news_add (News.nil : News h₀ L h₁ []) (hk₁ _ _ hl) (fun e => by rw [← e] at hL; rw [hL] at hl; cases hl) (hW l (by simp))
  replace hx := hk₀ _ _ hx (by simpa using hxl)
  replace hdx := hk₀ _ _ hdx (by simpa using hdl)
  have hp0 : PairsAt h₀ vs items := by
    refine hp.mono fun b o e hc => hk₀ _ _ e ?_
    intro hm
    rw [List.mem_singleton.mp hm, hl] at e
    rw [← Option.some.inj e] at hc
    simp at hc
  k_steps
  refine own_delItem (f := 203) F X (by k_inst) (by k_is) (by k_is) (by k_is) ?_
  refine delitem_c (vs := vs) (items := items) (g := h₀) G₀ F.keep (by omega) (by omega) (F.keep _ _ hx) (F.keep _ _ hdx) (N _ (.head _)).1 (hW l (by simp)) (hp0.mono fun b o e _ => F.keep _ _ e) hnl hszl hsn hlen (by omega) fun h2 tk2 k2 x2 hl2 => ?_
  have F2 := x2.fr F (by simpa using (N _ (.head _)).2.1.symm) hW
  have N2 := news_add (News.nil : News h₀ L h2 []) hl2 (N _ (.head _)).2.1 (N _ (.head _)).2.2
  have hvf : (vs.filter (lowNe { s with heap := h₁, toks := s.toks + 3 }.heap (Txt.lower name))).length ≤ 999 := Nat.le_trans (List.length_filter_le _ _) hvl
  have ef : vs.filter (lowNe h₁ (Txt.lower name)) = vs.filter (lowNe s.heap (Txt.lower name)) := by
    refine List.filter_congr fun v hv => ?_
    obtain ⟨p, _, a, t1, t2, rfl, ht⟩ := PairsAt.mem hp hv
    simp only [lowNe, PairsAt.pairOf ht, PairsAt.pairOf (ht.at fun o e => hk₁ _ _ e)]
  clear F N
  k_steps
  (with_reducible rename Fr _ _ _ _ => F3)
  (with_reducible rename News _ _ _ _ => N3)
  dsimp only
  have hT := (N3 _ (.head _))
  have hTl := news_ne N3 (.head _) (.tail _ (.head _)) (by simp)
  refine hret _ _ _ (k2 + 1) _ _ (fun b o e hb => F3.keep _ _ (hk₀ b o e hb)) ?_ ⟨_, hT.1, rfl, _, rfl⟩ ?_
  · refine Option.eq_none_iff_forall_ne_some.mpr fun o q => ?_
    have e := hk₀ _ o q (by simpa using hTl)
    rw [hT.2.2] at e; cases e
  · have e := (N3 _ (.tail _ (.head _))).1
    dsimp only at e
    rw [ef, List.push_toArray] at e
    exact e
end
end Mine
end
section
open PySem PySem.W PyProof.Rows PySem.Calls Builtin
set_option maxRecDepth 100000
set_option maxHeartbeats 4000000
namespace Mine
theorem fillit8 : (fun (_ : Params → Frag) (_ : OpenLaw) => True) kk.heap_1 PySem.Challenge.rw_wj0075_01 := by k_fill; trivial

noncomputable def accObj (dx : Addr) (items : List Value) (n : Nat) : Obj := { cls := .ref 135, dict := some dx, data := .seq items.toArray n }

theorem ln_row : Manifest.signature? "list.__new__" = some ⟨.any, "list", "list", .cls, [⟨"args", .varPos, false⟩, ⟨"kwargs", .varKw, false⟩]⟩ := by kernel_rfl
theorem ln_kind : builtinKind "list.__new__" = some .builtinFn := by decide +kernel
theorem ln_split : splitId "list.__new__" = some ("list", "__new__") := by decide +kernel
theorem ln_args (C : Addr) : Bind.checkArgs "list.__new__" ⟨.any, "list", "list", .cls, [⟨"args", .varPos, false⟩, ⟨"kwargs", .varKw, false⟩]⟩ ⟨[.ref C], []⟩ = pure () := by kernel_rfl

section
variable {prog : Program} {w : World} {A : Around} {C : Addr} {R : Result → Shared → Prop} {h : Heap} {g : Array GenState} {d : Drawn} {t : Nat} {os : OsState}

theorem acc_new {K : Frag} (X : K.In h) {oc : Value} {od : Option Addr} {cd : ClassData} {sl : Array (Option Value)} (hK : K.lookup C = some ⟨oc, od, .cls cd, sl⟩) (hm : cd.mro = [.ref C, .type "list", .type "object"]) (h4 : (sl.toList[4]?).join = some (.builtin "list.__new__")) (hdel : cd.hasDel = false)
    (ht : instIn K (.ref C) (.type "type") = some true)
    (hq : R (.ok (.ret (.ref (h.objs.size + 1)))) ⟨(h.push emptyDict).push { cls := .ref C, dict := some h.objs.size, data := .seq #[] }, g, d, t, os⟩) :
    codeAny (model prog w) A (.call (.builtin "list.__new__") ⟨[.ref C], []⟩) R ⟨h, g, d, t, os⟩ := by
  have hc : clsIn K C = some cd := by unfold clsIn; rw [hK]
  have hC : h.get? C = some ⟨oc, od, .cls cd, sl⟩ := X _ _ hK
  have hmro : Looks (model prog w) h (mroOf (.ref C)) cd.mro := (looks_clsIn X hc).andThen .now
  have made : Looks (model prog w) h (Bind.madeBy (.ref C)) (some "list.__new__") := by
    intro A Q E s k q
    unfold Bind.madeBy
    refine wpAny_bind (hmro A _ E s k ?_)
    rw [hm, List.forIn_cons]
    refine wpAny_bind (wpAny_bind (wpAny_bind (wpAny_bind (wpAny_loadPart (k _ _ hC) (wpAny_pure ?_)))))
    dsimp only
    rw [← Array.getElem?_toList, h4]
    exact wpAny_pure (wpAny_pure (wpAny_pure q))
  have base : Looks (model prog w) h (Bind.staticBase (.ref C)) (.ref C) := by
    intro A Q E s k q
    unfold Bind.staticBase
    refine wpAny_bind (hmro A _ E s k ?_)
    rw [hm, List.forIn_cons]
    exact wpAny_bind (wpAny_bind (wpAny_bind (made A _ E s k (wpAny_pure (wpAny_pure (wpAny_pure q))))))
  have sub : Looks (model prog w) h (isSubtype (.ref C) (.type "list")) true := looks_mroIn X (by unfold mroIn; rw [hc, Option.bind_some, hm]; rfl)
  have typ : Looks (model prog w) h (isType (.ref C)) true := by
    intro A Q E s k q
    unfold isType loadHead
    exact wpAny_bind (wpAny_loadPart (k _ _ hC) (wpAny_pure q))
  refine codeAny_call_builtin_code (Code.quiet_builtin _ (by decide +kernel)) ?_
  simp only [checkBuiltinCall, ln_kind, ln_split, ln_row]
  rw [ln_args]
  repeat (first | simp only [bne_self_eq_false, Bool.false_eq_true, if_false] | lk)
  refine codeAny_builtin_stack PySem.F.entry_list_new rfl fun p st => ?_
  rw [Around.under_plainId PySem.F.plain_list_new _]
  have hown := owner_list_new
  simp only [hown]
  have fin : ∀ A', wpAny (model prog w) A' (do
      let .ref d ← newDict | unsupported "internal:list.__new__"
      ret (← newObj (.ref C) (.seq #[]) (some d))) (fun fin s' => match fin with | .done f => R (.ok f) s' | .again c' => c'.quiet = true ∧ codeAny (model prog w) A c' R s') (fun e s' => R (.error e) s') ⟨h, g, d, t, os⟩ := by
    intro A'
    refine wpAny_bind ?_
    unfold newDict newObj
    repeat lk
    refine nd_load (Heap.get?_push_of_some _ (Heap.get?_push_of_some _ hC)) ?_
    refine wpAny_pure ?_
    dsimp only
    rw [hdel]
    refine wpAny_pure (wpAny_pure ?_)
    have e : (h.push { cls := Value.type "dict", data := Data.dict #[] }).objs.size = h.objs.size + 1 := Heap.size_push ..
    rw [e]
    exact wpAny_pure hq
  repeat (first | simp only [bne_self_eq_false, Bool.false_eq_true, if_false, Bool.not_true] | exact fin _ | lk)

theorem make_acc {K : Frag} (X : K.In h) {oc : Value} {od : Option Addr} {cd : ClassData} {sl : Array (Option Value)} {fI : Addr} {rest : List Value} (hrest : rest = []) (hK : K.lookup C = some ⟨oc, od, .cls cd, sl⟩) (hm : cd.mro = [.ref C, .type "list", .type "object"]) (h4 : (sl.toList[4]?).join = some (.builtin "list.__new__")) (hdel : cd.hasDel = false)
    (ht : instIn K (.ref C) (.type "type") = some true) (hcall : specialIn K (.ref C) "__call__" = some (some (.builtin "type.__call__"))) (hi : findIn K (.ref C) "__init__" = some (some (.ref fI))) (hf : typeIn K (.ref fI) = some (.type "function"))
    (hq : codeAny (model prog w) (A.under (.builtin "type.__call__" ⟨.ref C :: rest, []⟩)) (.call (.ref fI) ⟨.ref (h.objs.size + 1) :: rest, []⟩) (InitBack (h.objs.size + 1) R) ⟨(h.push emptyDict).push { cls := .ref C, dict := some h.objs.size, data := .seq #[] }, g, d, t, os⟩) :
    codeAny (model prog w) A (.call (.ref C) ⟨rest, []⟩) R ⟨h, g, d, t, os⟩ := by
  subst hrest
  have hc : clsIn K C = some cd := by unfold clsIn; rw [hK]
  have hC : h.get? C = some ⟨oc, od, .cls cd, sl⟩ := X _ _ hK
  have hmro : Looks (model prog w) h (mroOf (.ref C)) cd.mro := (looks_clsIn X hc).andThen .now
  have hm' : Looks (model prog w) h (mroOf (.ref C)) [.ref C, .type "list", .type "object"] := hm ▸ hmro
  have made : Looks (model prog w) h (Bind.madeBy (.ref C)) (some "list.__new__") := by
    intro A Q E s k q
    unfold Bind.madeBy
    refine wpAny_bind (hmro A _ E s k ?_)
    rw [hm, List.forIn_cons]
    refine wpAny_bind (wpAny_bind (wpAny_bind (wpAny_bind (wpAny_loadPart (k _ _ hC) (wpAny_pure ?_)))))
    dsimp only
    rw [← Array.getElem?_toList, h4]
    exact wpAny_pure (wpAny_pure (wpAny_pure q))
  have call := looks_specialIn (M := model prog w) X hcall
  have typ := looks_instIn (M := model prog w) X ht
  have self : Looks (model prog w) h (isSubtype (.ref C) (.ref C)) true := looks_mroIn X (by unfold mroIn; rw [hc, Option.bind_some, hm]; simp)
  have hi' := looks_findIn (M := model prog w) X hi
  have hb : ∀ self, Looks (model prog w) h (bindSpecial (.ref fI) self) (.ref fI, [self]) := fun self => bind_fn X self hf
  refine codeAny_of_tree ?_
  show wpAny _ _ (callAny (.ref C) _) _ _ _
  refine nd_load hC ?_
  show wpAny _ _ (callAny.viaDunder (.ref C) _) _ _ _
  unfold callAny.viaDunder
  refine wpAny_bind (call.at ?_)
  dsimp only
  rw [tc_bind]
  refine wpAny_bind (wpAny_pure (wpAny_bind (wpAny_pure ?_)))
  refine wpAny_pure (a := Fin.again (.call (.builtin "type.__call__") ⟨[.ref C], []⟩)) (And.intro rfl ?_)
  refine codeAny_call_builtin_at (Code.quiet_builtin _ (by decide +kernel)) entry_typeCall (check_slot tc_kind tc_split typ (tc_args _ _ _) ?_)
  unfold Builtin.«type.__call__»
  repeat (first | simp only [List.isEmpty_cons, Bool.false_eq_true, if_false] | with_reducible refine wpAny_call ?_ | lk)
  refine acc_new X hK hm h4 hdel ht ?_
  have k : ∀ b o, h.get? b = some o → ((h.push emptyDict).push { cls := .ref C, dict := some h.objs.size, data := .seq #[] }).get? b = some o := fun b o e => Heap.get?_push_of_some _ (Heap.get?_push_of_some _ e)
  have hx : ((h.push emptyDict).push { cls := .ref C, dict := some h.objs.size, data := .seq #[] }).get? (h.objs.size + 1) = some { cls := .ref C, dict := some h.objs.size, data := .seq #[] } := by heap_get
  have t1 : Looks (model prog w) ((h.push emptyDict).push { cls := .ref C, dict := some h.objs.size, data := .seq #[] }) (typeOf (.ref (h.objs.size + 1))) (.ref C) := (Looks.ld hx).andThen .now
  have s1 := self.keeps k
  have i1 := hi'.keeps k
  have b1 := (hb (.ref (h.objs.size + 1))).keeps k
  unfold isInstance callSpecial? specialOf
  repeat (first | with_reducible refine wpAny_call ?_ | lk)
  refine codeAny_mono hq fun r s' z => ?_
  rcases r with e | (v | _ | _ | _) <;> first | exact z | exact z.elim | skip
  obtain ⟨rfl, z⟩ := z
  exact wpAny_pure (wpAny_pure z)
end
end Mine
end
section
open PySem PySem.W PyProof.Rows PySem.Calls Builtin Builtin.ObjectAttr
set_option maxRecDepth 100000
set_option maxHeartbeats 4000000
namespace Mine
theorem fillit9 : (fun (_ : Params → Frag) (_ : OpenLaw) => True) kk.heap_1 PySem.Challenge.rw_wj0075_01 := by k_fill; trivial

theorem refuse3 (self : Value) (C : Addr) : refuseLoop self "__setattr__" [.ref C, .type "list", .type "object"] = pure () := by
  rw [refuseLoop_ref]
  kernel_rfl

section
variable {prog : Program} {w : World} {A : Around} {E : Value → Shared → Prop} {R : Result → Shared → Prop} {s : Shared} {K : Frag} {x C dx L : Addr} {h₀ : Heap} {m : Str → Option Value} {ox : Obj} {od' : Obj} {name : Str} {v : Value} {tk : Tok}

theorem acc_osa {pre post : List (Addr × Obj)} {es : List DictEntry} {n : Nat} {cd : ClassData} (F : Fr h₀ L s.heap m) (N : News h₀ L s.heap (pre ++ (dx, dictOf [] 0) :: post)) (X : K.In s.heap)
    (I : InstAt s.heap x ox C (some (dictOf [] 0))) (hd : ox.dict = some dx) (hc : clsIn K C = some cd) (hm : cd.mro = [.ref C, .type "list", .type "object"]) (ha : findIn K (.ref C) name = some none) (hh : cd.hasDict = true)
    (h1 : ∀ p ∈ pre, p.1 ≠ dx) (h2 : ∀ p ∈ post, p.1 ≠ dx)
    (e : Obj.putName name (PyData.keyHash w.params name) (.str name s.toks) v (dictOf [] 0) = od') (e' : od'.data = .dict es.toArray n) (hz : es.length ≤ 1000)
    (h : ∀ h', Fr h₀ L h' m → News h₀ L h' (pre ++ (dx, od') :: post) → R (.ok (.ret .none)) { s with heap := h', toks := s.toks + 1 }) :
    codeAny (model prog w) A (.call (.builtin "object.__setattr__") ⟨[.ref x, .str name tk, v], []⟩) R s := by
  have SF := PySem.F.store_object
  have ne : cd.mro.isEmpty = false := by rw [hm]; rfl
  have sub : Looks (model prog w) s.heap (isInstance (.ref x) (.type "object")) true := I.type.andThen (looks_mroIn X (by unfold mroIn; rw [hc, Option.bind_some, if_neg (by rw [ne]; decide), hm]; simp))
  refine codeAny_call_builtin SF.slot.plain SF.entry (@check_slot (model prog w) _ _ s "object.__setattr__" "object" "__setattr__" (.ref x) [.str name tk, v] [] _ SF.kind SF.split sub (SF.args (.ref x) (.str name tk) v) ?_)
  have hmro : Looks (model prog w) s.heap (mroOf (.ref C)) cd.mro := (looks_clsIn X hc).andThen .now
  rw [osa_eq, refuse_eq]
  refine wpAny_bind (wpAny_bind (I.type.here (wpAny_bind (hmro.here ?_))))
  rw [hm, refuse3]
  refine wpAny_pure (wpAny_bind (I.type.here (wpAny_bind ((looks_findIn X ha).here (wpAny_bind ?_)))))
  refine wpAny_pure ?_
  obtain ⟨U1, U2⟩ := news_upd (f := Obj.putName name (PyData.keyHash w.params name) (.str name s.toks) v) F N h1 h2 e (by obtain ⟨_, _, dd, _⟩ := od'; cases e'; rfl)
  have D := (N (dx, dictOf [] 0) (by simp)).1
  have D' := (U2 (dx, od') (by simp)).1
  obtain ⟨hx, hcl, hn, -⟩ := I
  obtain ⟨oc, odi, oda, osl⟩ := ox
  dsimp only at hcl hd
  subst hcl hd
  refine wpAny_bind (wpAny_pure (wpAny_bind (wpAny_bind (wpAny_loadPart hx (wpAny_bind ((looks_clsIn X hc).here ?_))))))
  rw [hh]
  refine wpAny_pure (a := some dx) (wpAny_bind (wpAny_pure (wpAny_bind ?_)))
  unfold nsSet
  refine wpAny_bind (wpAny_bind (wpAny_askSetting (wpAny_pure (wpAny_bind (wpAny_mkText (wpAny_bind (wpAny_loadPart D ?_)))))))
  dsimp only
  rw [aRefKeyMayBeTheName_at, show (!([] : List DictEntry).toArray.any (·.key.isStr name) && ([] : List DictEntry).toArray.any (·.refKey)) = false from by simp]
  refine wpAny_updatePart D ?_
  refine wpAny_bind (wpAny_lookBehind D' (by rw [e']; exact pastItsLine_dict (by rw [List.size_toArray, sizeLine_eq]; omega)) ?_)
  exact wpAny_pure (h _ U1 U2)
end
end Mine
end
section
open PySem PySem.W PyProof.Rows PySem.Calls
set_option maxRecDepth 100000
set_option maxHeartbeats 4000000
namespace Mine

theorem slot_wd_get : Slot "wrapper_descriptor" "__get__" "wrapper_descriptor.__get__" := .of (owner := "wrapper_descriptor") (n := "__get__") (by rw [typeLookup_type, builtinLookup_eq_fast]; kernel_rfl) (by decide +kernel) (by decide +kernel) (by decide +kernel)
  (by first | exact .inl (by decide +kernel) | exact .inr (by decide +kernel)) (by rw [isSubtype_type]; kernel_rfl)
theorem entry_wd_get : entryFor table "wrapper_descriptor.__get__" = some Builtin.«wrapper_descriptor.__get__» := entryFor_of_tree (by kernel_rfl)
theorem args_wd_get (a b c : Value) : argsOk "wrapper_descriptor.__get__" ⟨[a, b, c], []⟩ := by unfold argsOk; kernel_rfl
theorem slot_md_get : Slot "method_descriptor" "__get__" "method_descriptor.__get__" := .of (owner := "method_descriptor") (n := "__get__") (by rw [typeLookup_type, builtinLookup_eq_fast]; kernel_rfl) (by decide +kernel) (by decide +kernel) (by decide +kernel)
  (by first | exact .inl (by decide +kernel) | exact .inr (by decide +kernel)) (by rw [isSubtype_type]; kernel_rfl)
theorem entry_md_get : entryFor table "method_descriptor.__get__" = some Builtin.«method_descriptor.__get__» := entryFor_of_tree (by kernel_rfl)
theorem args_md_get (a b c : Value) : argsOk "method_descriptor.__get__" ⟨[a, b, c], []⟩ := by unfold argsOk; kernel_rfl
theorem ty_len : typeOf (.builtin "list.__len__") = pure (.type "wrapper_descriptor") := by show builtinType _ = _; rw [builtinType_eq_fast]; kernel_rfl
theorem ty_init : typeOf (.builtin "list.__init__") = pure (.type "wrapper_descriptor") := by show builtinType _ = _; rw [builtinType_eq_fast]; kernel_rfl
theorem ty_pop : typeOf (.builtin "list.pop") = pure (.type "method_descriptor") := by show builtinType _ = _; rw [builtinType_eq_fast]; kernel_rfl

section
variable {prog : Program} {w : World} {M : Model} {A : Around} {E : Value → Shared → Prop} {h : Heap} {g : Array GenState} {d : Drawn} {t : Nat} {os : OsState} {x C D so : Addr} {ox : Obj}

theorem wd_get {id : String} {Q : PySem.Fin → Shared → Prop} (hown : ".".intercalate (id.cutAt '.').dropLast = "list") (hx : h.get? x = some ox) (hxc : ox.cls = .ref C) (hsub : Looks M h (isSubtype (.ref C) (.type "list")) true)
    (hq : Q (.done (.ret (.ref h.objs.size))) ⟨h.push { cls := .type "method-wrapper", data := .fields #[.builtin id, .ref x] }, g, d, t, os⟩) :
    wpAny M A (Builtin.«wrapper_descriptor.__get__» ⟨[.builtin id, .ref x, .ref C], []⟩) Q E ⟨h, g, d, t, os⟩ := by
  obtain ⟨oc, o1, o2, o3⟩ := ox
  dsimp only at hxc
  subst hxc
  have hsub' : Looks M h (isSubtype (.ref C) (.type (".".intercalate (id.cutAt '.').dropLast))) true := by rw [hown]; exact hsub
  clear hsub
  unfold Builtin.«wrapper_descriptor.__get__»
  repeat lk
  exact hq
theorem md_get {id : String} {Q : PySem.Fin → Shared → Prop} (htold : Manifest.toldItsClass.contains id = false) (hown : ".".intercalate (id.cutAt '.').dropLast = "list") (hx : h.get? x = some ox) (hxc : ox.cls = .ref C) (hsub : Looks M h (isSubtype (.ref C) (.type "list")) true)
    (hq : Q (.done (.ret (.ref h.objs.size))) ⟨h.push { cls := .type "builtin_function_or_method", data := .fields #[.builtin id, .ref x] }, g, d, t, os⟩) :
    wpAny M A (Builtin.«method_descriptor.__get__» ⟨[.builtin id, .ref x, .ref C], []⟩) Q E ⟨h, g, d, t, os⟩ := by
  obtain ⟨oc, o1, o2, o3⟩ := ox
  dsimp only at hxc
  subst hxc
  have hsub' : Looks M h (isSubtype (.ref C) (.type (".".intercalate (id.cutAt '.').dropLast))) true := by rw [hown]; exact hsub
  clear hsub
  unfold Builtin.«method_descriptor.__get__»
  repeat lk
  rw [if_neg (by rw [htold]; exact Bool.false_ne_true)]
  repeat lk
  exact hq
theorem super_ga {K : Frag} {name : Str} {tk : Tok} {id gid bt : String} {T : String} {l₀ l : List Value} {Bi : Builtin} {Q : PySem.Fin → Shared → Prop}
    (hso : h.get? so = some (ks_superObj D x C)) (hno : Looks (model prog w) h (opaqueClassAbove (.ref C)) none)
    (hC : Looks (model prog w) h (mroOf (.ref C)) l₀) (hl : (l₀.dropWhile (· != .ref D)).drop 1 = l) (X : K.In h)
    (hf : alongIn K name l = some (some (.builtin id))) (hT : typeOf (.builtin id) = pure (.type T)) (S : Slot T "__get__" gid) (hent : entryFor table gid = some Bi) (hargs : ∀ a b c, argsOk gid ⟨[a, b, c], []⟩)
    (hxC : x ≠ C) (hn : (name == ("__class__" : Str)) = false)
    (hrun : ∀ {Q' : PySem.Fin → Shared → Prop} {E' : Value → Shared → Prop} {A' : Around}, Q' (.done (.ret (.ref h.objs.size))) ⟨h.push { cls := .type bt, data := .fields #[.builtin id, .ref x] }, g, d, t, os⟩ → wpAny (model prog w) A' (Bi ⟨[.builtin id, .ref x, .ref C], []⟩) Q' E' ⟨h, g, d, t, os⟩)
    (hq : Q (.done (.ret (.ref h.objs.size))) ⟨h.push { cls := .type bt, data := .fields #[.builtin id, .ref x] }, g, d, t, os⟩) :
    wpAny (model prog w) A (Builtin.«super.__getattribute__» ⟨[.ref so, .str name tk], []⟩) Q E ⟨h, g, d, t, os⟩ := by
  have hlk := S.lookup
  have hTI : ∀ s : Shared, s.TypeIs (.builtin id) T := fun _ => hT
  have hne : (Value.ref x == Value.ref C) = false := by simp [hxC]
  have hdt : (ks_superObj D x C).data = .fields #[.ref D, .ref x, .ref C] := rfl
  have f0 : (#[.ref D, .ref x, .ref C] : Array Value)[0]? = some (.ref D) := rfl
  have f1 : (#[.ref D, .ref x, .ref C] : Array Value)[1]? = some (.ref x) := rfl
  have f2 : (#[.ref D, .ref x, .ref C] : Array Value)[2]? = some (.ref C) := rfl
  unfold Builtin.«super.__getattribute__»
  repeat (first
    | (with_reducible refine wpAny_field hso hdt f0 ?_) | (with_reducible refine wpAny_field hso hdt f1 ?_) | (with_reducible refine wpAny_field hso hdt f2 ?_)
    | (with_reducible refine ks_wpAny_notOpaque hno ?_)
    | (with_reducible refine Looks.at hC ?_; rw [hl])
    | (refine ks_forIn_along X (fun _ _ => rfl) rfl ?_ hf)
    | (with_reducible refine wpAny_of_eq hT ?_)
    | (with_reducible refine wpAny_call_entry S (hTI _) hent (hrun ?_) (hargs _ _ _))
    | (with_reducible refine ⟨_, rfl, ?_⟩)
    | (simp only [hn, hne, Bool.or_false, Bool.false_eq_true, if_false])
    | wp_step
    | dsimp only)
  all_goals exact hq

theorem super_method {K : Frag} {name : Str} {pl : Sem Bool} {id gid bt : String} {T : String} {l₀ l : List Value} {Bi : Builtin} {Q : Value × List Value → Shared → Prop}
    (hso : h.get? so = some (ks_superObj D x C)) (hno : Looks (model prog w) h (opaqueClassAbove (.ref C)) none)
    (hC : Looks (model prog w) h (mroOf (.ref C)) l₀) (hl : (l₀.dropWhile (· != .ref D)).drop 1 = l) (X : K.In h)
    (hf : alongIn K name l = some (some (.builtin id))) (hT : typeOf (.builtin id) = pure (.type T)) (S : Slot T "__get__" gid) (hent : entryFor table gid = some Bi) (hargs : ∀ a b c, argsOk gid ⟨[a, b, c], []⟩)
    (hxC : x ≠ C) (hn : (name == ("__class__" : Str)) = false)
    (hrun : ∀ {t' : Nat} {Q' : PySem.Fin → Shared → Prop} {E' : Value → Shared → Prop} {A' : Around}, Q' (.done (.ret (.ref h.objs.size))) ⟨h.push { cls := .type bt, data := .fields #[.builtin id, .ref x] }, g, d, t', os⟩ → wpAny (model prog w) A' (Bi ⟨[.builtin id, .ref x, .ref C], []⟩) Q' E' ⟨h, g, d, t', os⟩)
    (hq : Q (.ref h.objs.size, []) ⟨h.push { cls := .type bt, data := .fields #[.builtin id, .ref x] }, g, d, t + 1, os⟩) :
    wpAny (model prog w) A (getMethod (.ref so) name pl) Q E ⟨h, g, d, t, os⟩ := by
  have hlk := PySem.F.ks_slot_super_ga.lookup
  have hcan := PySem.F.ks_canon_super_ga
  have hTs : ∀ t', (⟨h, g, d, t', os⟩ : Shared).TypeIs (.ref so) "super" := fun _ => ⟨_, hso, rfl⟩
  unfold getMethod
  refine wpAny_bind (wpAny_specialOf (hTs _) hlk ?_)
  show wpAny _ _ (if (Manifest.canonical "super.__getattribute__" != "object.__getattribute__") = true then _ else _) _ _ _
  rw [if_pos hcan]
  unfold getAttr getAttrBy
  refine wpAny_bind (wpAny_bind (wpAny_mkText (wpAny_holding (wpAny_bind (wpAny_typeOf (hTs _) (wpAny_bind (wpAny_of_eq hlk ?_)))))))
  show wpAny _ _ (getAttrByItsOwn (.ref so) (.str name t) (.type "super") (.builtin "super.__getattribute__") true false) _ _ _
  unfold getAttrByItsOwn hookBefore callGetattribute boundAndCalled
  refine wpAny_bind (wpAny_of_eq (show (if onTheHeap (.type "super") then typeLookup (.type "super") "__getattr__" else pure none) = pure none from rfl) ?_)
  refine wpAny_bind (wpAny_attempt (wpAny_holding ?_))
  show wpAny _ _ (bindSpecial (.builtin "super.__getattribute__") (.ref so) >>= _) _ _ _
  refine wpAny_bind (wpAny_of_eq (PySem.F.ks_slot_super_ga.bind _) ?_)
  refine wpAny_mono (Q := fun v s' => v = .ref h.objs.size ∧ s' = ⟨h.push { cls := .type bt, data := .fields #[.builtin id, .ref x] }, g, d, t + 1, os⟩) (E := fun _ _ => False)
    (wpAny_call_entry PySem.F.ks_slot_super_ga (hTs _) PySem.F.ks_entry_super_ga (super_ga hso hno hC hl X hf hT S hent hargs hxC hn hrun ⟨_, rfl, rfl, rfl⟩) (PySem.F.ks_gaArgs_super _ _)) (fun v s' hv => ?_) fun _ _ z => z.elim
  obtain ⟨rfl, rfl⟩ := hv
  exact wpAny_pure (wpAny_pure hq)

/-- a bound built-in is called -/
theorem call_bound {b : Addr} {bt id : String} {v : Value} {a : Args} {R : Result → Shared → Prop} {s : Shared} (hb : s.heap.get? b = some { cls := .type bt, data := .fields #[.builtin id, v] })
    (hbt : bt = "builtin_function_or_method" ∨ bt = "method-wrapper") (hquiet : (Code.builtin id { a with pos := v :: a.pos }).quiet = true)
    (hq : wpAny (model prog w) A.in1 (checkBoundCall id { a with pos := v :: a.pos }) (fun _ s' => codeAny (model prog w) A (.builtin id { a with pos := v :: a.pos }) R s') (fun e s' => R (.error e) s') s) :
    codeAny (model prog w) A (.call (.ref b) a) R s := by
  refine codeAny_of_tree ?_
  show wpAny _ A.in1 (callAny (.ref b) a) _ _ _
  unfold callAny
  refine wpAny_bind (wpAny_load hb ?_)
  rcases hbt with rfl | rfl
  · exact wpAny_bind (wpAny_mono hq (fun _ s' h' => wpAny_pure ⟨hquiet, h'⟩) fun _ _ e => e)
  · exact wpAny_bind (wpAny_mono hq (fun _ s' h' => wpAny_pure ⟨hquiet, h'⟩) fun _ _ e => e)
end
end Mine
end
section
open PySem PySem.W PyProof.Rows PySem.Calls
set_option maxRecDepth 100000
set_option maxHeartbeats 4000000
namespace Mine

theorem ent_len : entryFor table "list.__len__" = some Builtin.«list.__len__» := entryFor_of_tree (by kernel_rfl)
theorem ent_init : entryFor table "list.__init__" = some Builtin.«list.__init__» := entryFor_of_tree (by kernel_rfl)
theorem ent_pop : entryFor table "list.pop" = some Builtin.«list.pop» := entryFor_of_tree (by kernel_rfl)
theorem bc_len (p : Addr) : checkBoundCall "list.__len__" ⟨[.ref p], []⟩ = pure () := by kernel_rfl
theorem bc_init (p : Addr) : checkBoundCall "list.__init__" ⟨[.ref p], []⟩ = pure () := by kernel_rfl

section
variable {prog : Program} {w : World} {A : Around} {E : Value → Shared → Prop} {R : Result → Shared → Prop} {s : Shared} {p C : Addr} {oc : Value} {od : Option Addr} {sl : Array (Option Value)} {items : Array Value} {k : Nat}

theorem run_len (ho : s.heap.get? p = some ⟨oc, od, .seq items k, sl⟩) (hq : ∀ tk t, R (.ok (.ret (.int items.size t))) { s with toks := tk }) : codeAny (model prog w) A (.builtin "list.__len__" ⟨[.ref p], []⟩) R s := by
  refine codeAny_builtin ent_len ?_
  unfold Builtin.«list.__len__»
  obtain ⟨h, g, d, t, os⟩ := s
  dsimp only at ho
  repeat lk
  exact hq _ _

theorem upd_ext {f : Array Value → Array Value} {ys : Array Value} {Q : Unit → Shared → Prop} (ho : s.heap.get? p = some ⟨oc, od, .seq items k, sl⟩) (hf : f items = ys) (hsz : items.size ≤ sizeLine) (hsy : ys.size ≤ sizeLine)
    (hq : ∀ h' k', h'.get? p = some ⟨oc, od, .seq ys k', sl⟩ → Ext s.heap h' [p] → Q () { s with heap := h' }) : wpAny (model prog w) A (updateSeq p f) Q E s := by
  obtain ⟨k', hd'⟩ := Obj.data_mapSeq (o := ⟨oc, od, .seq items k, sl⟩) (xs := items) (n := k) rfl f
  refine wpAny_updateSeq ho rfl (hq _ k' ?_ fun b o e hb => ((Heap.SameBut.update ..).2 b (by simpa using hb)).trans e) hsz (by rw [hf]; exact Nat.le_succ_of_le hsy)
  rw [Heap.get?_update_self _ ho (Obj.isFreed_of_seq hd')]
  rw [hf] at hd'
  exact congrArg some (by rw [← hd']; rfl)

theorem run_init (ho : s.heap.get? p = some ⟨oc, od, .seq #[] k, sl⟩) (hq : ∀ h' k', h'.get? p = some ⟨oc, od, .seq #[] k', sl⟩ → Ext s.heap h' [p] → R (.ok (.ret .none)) { s with heap := h' }) : codeAny (model prog w) A (.builtin "list.__init__" ⟨[.ref p], []⟩) R s := by
  refine codeAny_builtin ent_init ?_
  unfold Builtin.«list.__init__»
  show wpAny _ _ (Builtin.List.listItems (.ref p) >>= _) _ _ _
  refine wpAny_bind (wpAny_bind (wpAny_seqItems ho rfl (wpAny_pure ?_)))
  refine wpAny_bind (m := Builtin.List.listUpdate (.ref p) _) (upd_ext ho rfl (by simp) (by simp) fun h' k' h1 h2 => ?_)
  refine wpAny_bind (wpAny_letGo ?_)
  exact wpAny_pure (hq h' k' h1 h2)
theorem run_pop {vs : List Value} {v : Value} (ho : s.heap.get? p = some ⟨oc, od, .seq (vs ++ [v]).toArray k, sl⟩) (hsz : vs.length ≤ 1000) (hq : ∀ h' k', h'.get? p = some ⟨oc, od, .seq vs.toArray k', sl⟩ → Ext s.heap h' [p] → R (.ok (.ret v)) { s with heap := h' }) : codeAny (model prog w) A (.builtin "list.pop" ⟨[.ref p], []⟩) R s := by
  refine codeAny_builtin ent_pop ?_
  unfold Builtin.«list.pop»
  show wpAny _ _ (Builtin.List.listItems (.ref p) >>= _) _ _ _
  refine wpAny_bind (wpAny_bind (wpAny_seqItems ho rfl (wpAny_pure ?_)))
  rw [if_neg (by simp)]
  have e : ((seqIndex? (-1) (vs ++ [v]).toArray.size).bind fun k => ((vs ++ [v]).toArray[k]?).map fun x => (k, x)) = some (vs.length, v) := by
    have e1 : seqIndex? (-1) (vs ++ [v]).toArray.size = some vs.length := by
      simp [seqIndex?]
      omega
    rw [e1]
    simp
  rw [e]
  dsimp only
  refine wpAny_bind (m := Builtin.List.listUpdate (.ref p) _) (upd_ext (ys := vs.toArray) ho ?_ ?_ ?_ fun h' k' h1 h2 => ?_)
  · simp [Array.eraseIdxIfInBounds, List.eraseIdx_append_of_length_le]
  · refine Nat.le_trans ?_ (show 1001 ≤ sizeLine by decide +kernel); simp; omega
  · refine Nat.le_trans ?_ (show 1001 ≤ sizeLine by decide +kernel); simp; omega
  · exact wpAny_pure (hq h' k' h1 h2)

theorem check_meth {M : Model} {i owner n : String} {self : Value} {rest : List Value} {kw : List (Str × Value)} {Q : Unit → Shared → Prop} {E : Value → Shared → Prop}
    (hk : builtinKind i = some .method) (hs : splitId i = some (owner, n)) (hi : Looks M s.heap (isInstance self (.type owner)) true) (ha : argsOk i ⟨self :: rest, kw⟩) (q : Q () s) :
    wpAny M A (checkBuiltinCall i ⟨self :: rest, kw⟩) Q E s := by
  simp only [checkBuiltinCall, hk, hs]
  refine wpAny_bind (hi.here ?_)
  simp only [Bool.not_true, Bool.false_eq_true, if_false]
  cases hsig : Manifest.signature? i with
  | none => exact wpAny_pure q
  | some sig =>
    simp only [argsOk, hsig] at ha
    have h2 : Bind.checkArgs i sig ⟨self :: rest, kw⟩ = pure () := ha
    show wpAny M A (Bind.checkArgs i sig ⟨self :: rest, kw⟩) Q E s
    rw [h2]; exact wpAny_pure q
/-- list.append on an object of a class of its own -/
theorem run_append {K : Frag} {cd : ClassData} {v : Value} {Q : Value → Shared → Prop} (X : K.In s.heap) (hc : clsIn K C = some cd) (hm : cd.mro = [.ref C, .type "list", .type "object"]) (ho : s.heap.get? p = some ⟨.ref C, od, .seq items k, sl⟩) (hsz : items.size ≤ 1000)
    (hq : ∀ h' k', h'.get? p = some ⟨.ref C, od, .seq (items.push v) k', sl⟩ → Ext s.heap h' [p] → Q .none { s with heap := h' }) :
    wpAny (model prog w) A (call (.builtin "list.append") [.ref p, v]) Q E s := by
  have sub : Looks (model prog w) s.heap (isInstance (.ref p) (.type "list")) true := ((Looks.ld (part := some headPart) ho).andThen .now).andThen (looks_mroIn X (by unfold mroIn; rw [hc, Option.bind_some, hm]; rfl))
  refine wpAny_call (codeAny_call_builtin slot_list_append.plain entry_list_append (check_meth (owner := "list") (n := "append") (by decide +kernel) (by decide +kernel) sub (args_list_append _ _) ?_))
  show wpAny _ _ (updateSeq p (·.push v) >>= fun _ => ret .none) _ _ s
  refine wpAny_bind (upd_ext ho rfl (Nat.le_trans hsz (by decide +kernel)) ?_ fun h' k' h1 h2 => wpAny_pure (hq h' k' h1 h2))
  rw [Array.size_push]
  exact Nat.le_trans (Nat.succ_le_succ hsz) (show 1001 ≤ sizeLine by decide +kernel)
end

section
variable {w : World} {lo : List Str} {mean : ExcName → Option Value} {mg mb : Str → Option Value} {g : Heap} {s : Shared} {dp un : Nat} {fr : Option (List Env)} {gd : Option (List Code)}
  {R : Result → Shared → Prop} {name qual : Str} {params : Arguments} {body : List Stmt} {scope : Scope} {dV kV doc pm cdv ct oc : Value} {an od : Option Addr} {osl : Array (Option Value)} {f cc : Addr} {args : Args} {binds : List (Str × Value)}
/-- as enterC, for a def that says super() -/
theorem enterA (W : List Addr) (G : Gnd w lo mean mg mb g) (Bs : ∀ b o, g.get? b = some o → s.heap.get? b = some o) (hW : ∀ a ∈ W, g.get? a = none)
    (ho : (kk.heap_1 w.params).lookup f = some ⟨oc, od, .func (ksFn name qual params body scope dV kV doc pm an cdv ct cc), osl⟩) (hcd : codeIn (kk.heap_1 w.params) cdv qual = true) (hroom : dp < recursionLimit)
    (hbind : BindsTo s (ksFn name qual params body scope dV kV doc pm an cdv ct cc) args binds) (hloc : ∀ y ∈ binds, scope.names.lookup y.1 = some .local)
    (h : ∀ h₀ L h₁, Gnd w lo mean mg mb h₀ → (∀ b o, h₀.get? b = some o → s.heap.get? b = some o) → (∀ b o, s.heap.get? b = some o → b ∉ W → h₀.get? b = some o) → (∀ a ∈ W, h₀.get? a = none) →
      Fr h₀ L h₁ (fun y => binds.reverse.lookup y) → s.heap.get? L = none → (∀ b o, s.heap.get? b = some o → h₁.get? b = some o) →
      _root_.PySem.wpAt (model PR w) (AA (dp + 1) (un + 3) (fr.map (ksEnv qual scope L f cdv cc :: ·)) gd) (.func body (ksEnv qual scope L f cdv cc)) (execs body (ksEnv qual scope L f cdv cc))
        (fun fl s' => R (.ok (.ret (match fl with | .ret v => v | _ => .none))) s') (fun _ _ => False) { s with heap := h₁, toks := s.toks + binds.length })
    (hcell : ∀ x ∈ scope.names, x.2 ≠ .cell) (hco : scope.isCoroutine = false) (hgen : scope.isGenerator = false) (hk : scope.kind = .function) :
    codeAny (model PR w) (AA dp un fr gd) (.call (.ref f) args) R s := by
  refine ks_codeAny_call_defAt (fd := ksFn name qual params body scope dV kV doc pm an cdv ct cc) (body := body) (binds := binds) hroom (Bs _ _ (G.X _ _ ho)) rfl (G.T.nolimit.keeps Bs) (codeRec_of (G.X.keeps Bs) hcd) rfl hbind hcell hloc (fun h₁ hns hk₁ => ?_) hco hgen hk
  have st : ∀ b o, g.get? b = some o → (hideAll s.heap W).get? b = some o := fun b o e => hideAll_get _ (Bs b o e) fun q => by
    rw [hW b q] at e; cases e
  refine ks_wpAt_mono (h (hideAll s.heap W) s.heap.objs.size h₁ (G.keeps st) (fun b o e => of_hideAll _ e) (fun b o e n => hideAll_get _ e n) (fun a m => hideAll_none _ m)
    ⟨hns, fun b o e => hk₁ b o (of_hideAll _ e), Nat.le_of_eq (hideAll_size _ _)⟩ ?_ hk₁) (fun fl s' hl => hl) fun _ _ y => y.elim
  exact Heap.get?_none_of_le (Nat.le_refl _)
end
end Mine
end
section
open PySem PySem.W PyProof.Rows PySem.Calls
set_option maxRecDepth 100000
set_option maxHeartbeats 4000000
namespace Mine
theorem fillit10a : (fun (_ : Params → Frag) (_ : OpenLaw) => True) kk.heap_1 PySem.Challenge.rw_wj0075_01 := by k_fill; trivial

section
variable {w : World} {lo : List Str} {mean : ExcName → Option Value} {mg mb : Str → Option Value} {g : Heap} {s : Shared} {dp un : Nat} {fr : Option (List Env)} {gd : Option (List Code)} {Q : Value → Shared → Prop} {E : Value → Shared → Prop}

theorem acc_inst {h : Heap} {p dx : Addr} {od : Obj} {items : Array Value} {n : Nat} (hp : h.get? p = some ⟨.ref 135, some dx, .seq items n, #[]⟩) (hd : h.get? dx = some od) : InstAt h p ⟨.ref 135, some dx, .seq items n, #[]⟩ 135 (some od) :=
  ⟨hp, rfl, rfl, hd⟩
theorem cls135 (P : Params) : ∃ cd, clsIn (kk.heap_1 P) 135 = some cd ∧ cd.mro = [.ref 135, .type "list", .type "object"] ∧ cd.hasDict = true ∧ cd.hasDel = false ∧ cd.qualname = "_Accumulator" := ⟨_, by k_is, rfl, rfl, rfl, rfl⟩
theorem al_len (P : Params) : alongIn (kk.heap_1 P) "__len__" [.type "list", .type "object"] = some (some (.builtin "list.__len__")) := by kernel_rfl
theorem al_init (P : Params) : alongIn (kk.heap_1 P) "__init__" [.type "list", .type "object"] = some (some (.builtin "list.__init__")) := by kernel_rfl
theorem al_pop (P : Params) : alongIn (kk.heap_1 P) "pop" [.type "list", .type "object"] = some (some (.builtin "list.pop")) := by kernel_rfl
theorem opq (P : Params) : nsIn (kk.heap_1 P) cStatics "thirdparty.any" = some none := by k_is

theorem sub135 {M : Model} {h : Heap} (X : (kk.heap_1 w.params).In h) : Looks M h (isSubtype (.ref 135) (.type "list")) true := by
  obtain ⟨cd, hc, hm, _⟩ := cls135 w.params
  exact looks_mroIn X (by unfold mroIn; rw [hc, Option.bind_some, hm]; rfl)

theorem super_wd {A : Around} {h₀ : Heap} {L so p : Addr} {m : Str → Option Value} {news : List (Addr × Obj)} {name : Str} {id : String} {pl : Sem Bool} {ox : Obj} {Q : Value × List Value → Shared → Prop}
    (F : Fr h₀ L s.heap m) (N : News h₀ L s.heap news) (X₀ : (kk.heap_1 w.params).In h₀) (hso : (so, ks_superObj 135 p 135) ∈ news) (hp : s.heap.get? p = some ox) (hpc : ox.cls = .ref 135) (hp5 : p ≠ 135)
    (hal : alongIn (kk.heap_1 w.params) name [.type "list", .type "object"] = some (some (.builtin id))) (hT : typeOf (.builtin id) = pure (.type "wrapper_descriptor")) (hown : ".".intercalate (id.cutAt '.').dropLast = "list") (hn : (name == ("__class__" : Str)) = false)
    (h : ∀ q h', Fr h₀ L h' m → News h₀ L h' ((q, ({ cls := .type "method-wrapper", data := .fields #[.builtin id, .ref p] } : Obj)) :: news) → Q (.ref q, []) { s with heap := h', toks := s.toks + 1 }) :
    wpAny (model PR w) A (getMethod (.ref so) name pl) Q E s := by
  have X := X₀.keeps F.keep
  obtain ⟨cd, hc, hm, _⟩ := cls135 w.params
  obtain ⟨hh, g, d, t, os⟩ := s
  refine super_method (bt := "method-wrapper") (id := id) (gid := "wrapper_descriptor.__get__") (T := "wrapper_descriptor") (l₀ := cd.mro) (N _ hso).1 (looks_opaque X (opq _)) ((looks_clsIn X hc).andThen .now) (by rw [hm]; rfl) X hal hT slot_wd_get entry_wd_get args_wd_get hp5 hn (fun q => wd_get hown hp hpc (sub135 X) q) ?_
  exact h _ _ (F.push _) (N.push F _)
theorem super_md {A : Around} {h₀ : Heap} {L so p : Addr} {m : Str → Option Value} {news : List (Addr × Obj)} {name : Str} {id : String} {pl : Sem Bool} {ox : Obj} {Q : Value × List Value → Shared → Prop}
    (F : Fr h₀ L s.heap m) (N : News h₀ L s.heap news) (X₀ : (kk.heap_1 w.params).In h₀) (hso : (so, ks_superObj 135 p 135) ∈ news) (hp : s.heap.get? p = some ox) (hpc : ox.cls = .ref 135) (hp5 : p ≠ 135)
    (hal : alongIn (kk.heap_1 w.params) name [.type "list", .type "object"] = some (some (.builtin id))) (hT : typeOf (.builtin id) = pure (.type "method_descriptor")) (hown : ".".intercalate (id.cutAt '.').dropLast = "list") (htold : Manifest.toldItsClass.contains id = false) (hn : (name == ("__class__" : Str)) = false)
    (h : ∀ q h', Fr h₀ L h' m → News h₀ L h' ((q, ({ cls := .type "builtin_function_or_method", data := .fields #[.builtin id, .ref p] } : Obj)) :: news) → Q (.ref q, []) { s with heap := h', toks := s.toks + 1 }) :
    wpAny (model PR w) A (getMethod (.ref so) name pl) Q E s := by
  have X := X₀.keeps F.keep
  obtain ⟨cd, hc, hm, _⟩ := cls135 w.params
  obtain ⟨hh, g, d, t, os⟩ := s
  refine super_method (bt := "builtin_function_or_method") (id := id) (gid := "method_descriptor.__get__") (T := "method_descriptor") (l₀ := cd.mro) (N _ hso).1 (looks_opaque X (opq _)) ((looks_clsIn X hc).andThen .now) (by rw [hm]; rfl) X hal hT slot_md_get entry_md_get args_md_get hp5 hn (fun q => md_get htold hown hp hpc (sub135 X) q) ?_
  exact h _ _ (F.push _) (N.push F _)
theorem not135 {h : Heap} {p : Addr} {od : Option Addr} {items : Array Value} {n : Nat} (X : (kk.heap_1 w.params).In h) (hp : h.get? p = some ⟨.ref 135, od, .seq items n, #[]⟩) : p ≠ 135 := by
  rintro rfl
  obtain ⟨cd, hc, _⟩ := cls135 w.params
  unfold clsIn at hc
  split at hc
  · rename_i c d cd' sl ho
    have e := X _ _ ho
    rw [hp] at e
    cases e
  · cases hc

theorem callW_bound0 {M : Model} {A : Around} {pos : Pos} {u : Addr} {env : Env} {bt : String} {id : String} {v : Value} (ho : s.heap.get? u = some { cls := .type bt, data := .fields #[.builtin id, v] })
    (hbt : bt = "builtin_function_or_method" ∨ bt = "method-wrapper") (h : wpAny M A (call (.ref u) [] []) Q E s) : wpAny M A (callWith pos (.ref u) [] (backTo pos (starEach [] env)) []) Q E s := by
  unfold callWith
  refine wpAny_bind (wpAny_holding (PyProof.Rows.evalArgs_none (wpAny_bind (wpAny_standAt ?_))))
  refine wpAny_bind (m := keeperOf (.ref u)) ?_
  unfold keeperOf
  refine wpAny_bind (wpAny_load ho ?_)
  rcases hbt with rfl | rfl
  · simp only [show (Value.type "builtin_function_or_method" != Value.type "method") = true by decide, show (Value.type "builtin_function_or_method" == Value.type "builtin_function_or_method" || Value.type "builtin_function_or_method" == Value.type "method-wrapper") = true by decide, if_true]
    refine wpAny_pure ?_
    exact wpAny_bind (wpAny_mono h (fun r s₂ hr => wpAny_bind (wpAny_holding (wpAny_point (wpAny_pure hr)))) fun _ _ x => x)
  · simp only [show (Value.type "method-wrapper" != Value.type "method") = true by decide, show (Value.type "method-wrapper" == Value.type "builtin_function_or_method" || Value.type "method-wrapper" == Value.type "method-wrapper") = true by decide, if_true]
    refine wpAny_pure ?_
    exact wpAny_bind (wpAny_mono h (fun r s₂ hr => wpAny_bind (wpAny_holding (wpAny_point (wpAny_pure hr)))) fun _ _ x => x)

/-- a method of an object: a def of its class, or one of list's own -/
theorem acc_method {A : Around} {K : Frag} {x C : Addr} {ox : Obj} {od : Obj} {name : Str} {pl : Sem Bool} {f : Value} {ga : String} {tf : String} {Q : Value × List Value → Shared → Prop} (X : K.In s.heap) (I : InstAt s.heap x ox C (some od)) (hga : findIn K (.ref C) "__getattribute__" = some (some (.builtin ga))) (hcan : Manifest.canonical ga = "object.__getattribute__")
    (hk : findIn K (.ref C) "__getattr__" = some none) (hf : findIn K (.ref C) name = some (some f)) (ht : typeIn K f = some (.type tf)) (htf : tf = "function" ∨ tf = "method_descriptor") (hs : lookIn name od = some none) (h : Q (f, [.ref x]) s) :
    wpAny (model PR w) A (getMethod (.ref x) name pl) Q E s := by
  unfold getMethod specialOf
  refine wpAny_bind (wpAny_bind (I.type.here ((looks_findIn X hga).here ?_)))
  dsimp only
  rw [hcan, if_neg (by decide)]
  refine wpAny_bind (wpAny_bind (I.type.here ((looks_findIn X hk).here ?_)))
  refine wpAny_bind (wpAny_bind (I.type.here ((looks_findIn X hf).here (wpAny_bind ((looks_typeIn X ht).here ?_)))))
  rw [if_neg (by rcases htf with rfl | rfl <;> decide +kernel)]
  refine wpAny_bind (wpAny_loadPart I.at_ ?_)
  have hd := I.dict
  cases e : ox.dict with
  | none => exact wpAny_bind (wpAny_rule (wpAny_pure h))
  | some dx =>
    rw [e] at hd
    refine wpAny_bind (wpAny_bind (wpAny_loadPart hd ?_))
    rw [nsLook_of hs]
    refine wpAny_pure ?_
    exact wpAny_bind (wpAny_rule (wpAny_pure h))
theorem ga135 (P : Params) : findIn (kk.heap_1 P) (.ref 135) "__getattribute__" = some (some (.builtin "list.__getattribute__")) := by k_is
theorem gt135 (P : Params) : findIn (kk.heap_1 P) (.ref 135) "__getattr__" = some none := by k_is
theorem can_list : Manifest.canonical "list.__getattribute__" = "object.__getattribute__" := by decide +kernel

theorem mod135 {M : Model} {h : Heap} (X : (kk.heap_1 w.params).In h) : Looks M h (isSubtype (.ref 135) (.type "module")) false := by
  obtain ⟨cd, hc, hm, _⟩ := cls135 w.params
  exact looks_mroIn X (by unfold mroIn; rw [hc, Option.bind_some, hm]; rfl)
theorem ty135 {M : Model} {h : Heap} (X : (kk.heap_1 w.params).In h) : Looks M h (typeOf (.ref 135)) (.type "type") := looks_typeIn X (by k_is)
theorem lp_row : Manifest.signature? "list.pop" = some ⟨.positional, "list.pop", "pop", .self, [⟨"index", .posOnly, false⟩]⟩ := by kernel_rfl
theorem lp_args (p : Addr) : Bind.checkArgs "list.pop" ⟨.positional, s!"{("_Accumulator" : Str).toString}.{Bind.lastOf "list.pop"}", "pop", .self, [⟨"index", .posOnly, false⟩]⟩ ⟨[.ref p], []⟩ = pure () := by kernel_rfl
theorem lp_kind : builtinKind "list.pop" = some .method := by decide +kernel
theorem lp_var : Manifest.varargsMethods.contains "list.pop" = false := by decide +kernel
theorem bc_pop {A : Around} {p dx : Addr} {items : Array Value} {n : Nat} {Q : Unit → Shared → Prop} (X : (kk.heap_1 w.params).In s.heap) (hp : s.heap.get? p = some ⟨.ref 135, some dx, .seq items n, #[]⟩) (hq : Q () s) :
    wpAny (model PR w) A (checkBoundCall "list.pop" ⟨[.ref p], []⟩) Q E s := by
  have l0 : Looks (model PR w) s.heap (typeOf (.ref p)) (.ref 135) := (Looks.ld (part := some headPart) hp).andThen .now
  have l1 : Looks (model PR w) s.heap (isInstance (.ref p) (.type "module")) false := l0.andThen (mod135 X)
  have l2 : Looks (model PR w) s.heap (isType (.ref p)) false := by
    intro A Q E s k q
    unfold isType loadHead
    exact wpAny_bind (wpAny_loadPart (k _ _ hp) (wpAny_pure q))
  obtain ⟨cd, hc, hm, _, _, hqn⟩ := cls135 w.params
  have l3 : Looks (model PR w) s.heap (classData 135) cd := looks_clsIn X hc
  have l4 : Looks (model PR w) s.heap (typeOf (.ref 135)) (.type "type") := ty135 X
  obtain ⟨h, g, d, t, os⟩ := s
  dsimp only at hp l0 l1 l2 l3 l4
  unfold checkBoundCall
  rw [lp_row]
  dsimp only
  rw [lp_kind]
  dsimp only
  rw [if_neg (by decide)]
  repeat (first | (rw [lp_var]) | (rw [if_neg (by decide)]) | (rw [hqn, lp_args]) | lk)
  exact hq
end
end Mine
end
section
open PySem PySem.W PyProof.Rows PySem.Calls
set_option maxRecDepth 100000
set_option maxHeartbeats 4000000
namespace Mine
theorem fillit10 : (fun (_ : Params → Frag) (_ : OpenLaw) => True) kk.heap_1 PySem.Challenge.rw_wj0075_01 := by k_fill; trivial

section
variable {w : World} {lo : List Str} {mean : ExcName → Option Value} {mg mb : Str → Option Value} {g : Heap} {s : Shared} {dp un : Nat} {fr : Option (List Env)} {gd : Option (List Code)} {Q : Value → Shared → Prop} {E : Value → Shared → Prop}
local macro_rules | `(tactic| k_inst) => `(tactic| ((with_reducible rename Fr _ _ _ _ => kF); exact acc_inst (kF.keep _ _ (by assumption)) (kF.keep _ _ (by assumption))))

theorem part_count_c (G : Gnd w lo mean mg mb g) (Bs : ∀ b o, g.get? b = some o → s.heap.get? b = some o) (hd : dp + 1 < recursionLimit) (hu : un + 16 < cLine)
    {p dx : Addr} {od : Obj} {items : Array Value} {n : Nat} (hp : s.heap.get? p = some ⟨.ref 135, some dx, .seq items n, #[]⟩) (hdx : s.heap.get? dx = some od)
    (hret : ∀ h' tk' t, Ext s.heap h' [] → Q (.int items.size t) { s with heap := h', toks := tk' }) :
    wpAny (model PR w) (AA dp un fr gd) (call (.ref 132) [.ref p]) Q E s := by
  refine wpAny_call ?_
  refine enterA (binds := [("self", .ref p)]) [] G Bs (by simp) (by k_is) (by k_is) (by omega) (BindsTo.of_eq rfl) (locs rfl) ?_ (by decide) rfl rfl rfl
  intro h₀ L h₁ G₀ hs₀ hk₀ hW F hL hk₁
  have X := G₀.X
  have T := G₀.T
  have N : News h₀ L h₁ [] := News.nil
  replace hp := hk₀ _ _ hp (by simp)
  replace hdx := hk₀ _ _ hdx (by simp)
  k_steps
  (with_reducible rename Fr _ _ _ _ => F1)
  (with_reducible rename News _ _ _ _ => N1)
  refine super_wd F1 N1 X (.head _) (F1.keep _ _ hp) rfl (not135 X hp) (al_len _) ty_len rfl (by decide) fun q h2 F2 N2 => ?_
  refine callW_bound0 (N2 _ (.head _)).1 (.inr rfl) ?_
  refine wpAny_call (call_bound (N2 _ (.head _)).1 (.inr rfl) (plainId_quiet (by decide +kernel) _) (wpAny_of_eq (bc_len p) (run_len (F2.keep _ _ hp) fun tk t => ?_)))
  dsimp only
  exact hret _ _ _ fun b o e hb => F2.keep b o (hk₀ b o e hb)
end
end Mine
end
section
open PySem PySem.W PyProof.Rows PySem.Calls
set_option maxRecDepth 100000
set_option maxHeartbeats 4000000
namespace Mine
theorem fillit11 : (fun (_ : Params → Frag) (_ : OpenLaw) => True) kk.heap_1 PySem.Challenge.rw_wj0075_01 := by k_fill; trivial

section
variable {w : World} {lo : List Str} {mean : ExcName → Option Value} {mg mb : Str → Option Value} {g : Heap} {s : Shared} {dp un : Nat} {fr : Option (List Env)} {gd : Option (List Code)} {Q : Value → Shared → Prop} {E : Value → Shared → Prop}

local macro_rules | `(tactic| k_inst) => `(tactic| ((with_reducible rename Fr _ _ _ _ => kF); (with_reducible rename News _ _ _ _ => kN); first | exact acc_inst (kN _ (.head _)).1 (kF.keep _ _ (by assumption)) | exact acc_inst (kN _ (.tail _ (.head _))).1 (kF.keep _ _ (by assumption)) | exact acc_inst (kN _ (.tail _ (.tail _ (.head _)))).1 (kF.keep _ _ (by assumption)) | exact acc_inst (kN _ (.tail _ (.tail _ (.tail _ (.head _))))).1 (kF.keep _ _ (by assumption))))
theorem acc_get {A : Around} {h₀ : Heap} {L : Addr} {m : Str → Option Value} {x : Addr} {ox od : Obj} {name : Str} {pl : Sem Bool} {f : Value} {tf : String} {Q : Value × List Value → Shared → Prop} (F : Fr h₀ L s.heap m) (X₀ : (kk.heap_1 w.params).In h₀) (I : InstAt s.heap x ox 135 (some od))
    (hf : findIn (kk.heap_1 w.params) (.ref 135) name = some (some f)) (ht : typeIn (kk.heap_1 w.params) f = some (.type tf)) (htf : tf = "function" ∨ tf = "method_descriptor") (hs : lookIn name od = some none) (h : Q (f, [.ref x]) s) :
    wpAny (model PR w) A (getMethod (.ref x) name pl) Q E s := acc_method (X₀.keeps F.keep) I (ga135 _) can_list (gt135 _) hf ht htf hs h
theorem kwAp0 : True := by
  k_with_none
  trivial
theorem kwAp1 : True := by
  (k_with "getMethod ref" => ((with_reducible rename Fr _ _ _ _ => kF); k_dflt (refine acc_get kF (by assumption) (by k_inst) (by k_is) (by k_is) (by first | exact .inl rfl | exact .inr rfl) (by rfl) ?_)))
  trivial
theorem kwAp2 : True := by
  (k_with "call ref" => ((with_reducible rename Fr _ _ _ _ => kF); (with_reducible rename News _ _ _ _ => kN); (k_dflt (refine part_count_c (by assumption) kF.keep (by omega) (by omega) (kN _ (.head _)).1 (kF.keep _ _ (by assumption)) (fun h' tk' t kx => ?_))); have F' := kx.fr0 kF; have N' := kx.news0 kN; clear kF kN))
  trivial

noncomputable def IsB (h₀ : Heap) (L : Addr) (m : Str → Option Value) (news : List (Addr × Obj)) (s : Shared) (bv b : Bool) (s' : Shared) : Prop := b = bv ∧ ∃ h tk, s' = { s with heap := h, toks := tk } ∧ Fr h₀ L h m ∧ News h₀ L h news
theorem IsB.go {h₀ : Heap} {L : Addr} {m : Str → Option Value} {news : List (Addr × Obj)} {s : Shared} {bv b : Bool} {h : Heap} {tk : Nat} (e : b = bv) (F : Fr h₀ L h m) (N : News h₀ L h news) : IsB h₀ L m news s bv b { s with heap := h, toks := tk } := ⟨e, h, tk, rfl, F, N⟩
theorem acc_pop_c (G : Gnd w lo mean mg mb g) (Bs : ∀ b o, g.get? b = some o → s.heap.get? b = some o) (hd : dp + 2 < recursionLimit) (hu : un + 30 < cLine)
    {p dx : Addr} {hs : Int} {ti : Tok} {vi : Value} {nn : Nat} {vs : List Value} {v : Value} {n : Nat} (hp : s.heap.get? p = some ⟨.ref 135, some dx, .seq (vs ++ [v]).toArray n, #[]⟩) (hdx : s.heap.get? dx = some (dictOf [⟨hs, .str "_initial_size" ti, vi⟩] nn)) (hdp : dx ≠ p) (hgp : g.get? p = none) (hsz : vs.length ≤ 1000)
    (hret : ∀ h' tk' k', Ext s.heap h' [p] → h'.get? p = some ⟨.ref 135, some dx, .seq vs.toArray k', #[]⟩ → Q v { s with heap := h', toks := tk' }) :
    wpAny (model PR w) (AA dp un fr gd) (call (.ref 95) [.ref p]) Q E s := by
  refine wpAny_call ?_
  refine enterA (binds := [("self", .ref p)]) [p] G Bs (by simpa using hgp) (by k_is) (by k_is) (by omega) (BindsTo.of_eq rfl) (locs rfl) ?_ (by decide) rfl rfl rfl
  intro h₀ L h₁ G₀ hs₀ hk₀ hW F hL hk₁
  have X := G₀.X
  have T := G₀.T
  have N := news_add (News.nil : News h₀ L h₁ []) (hk₁ _ _ hp) (fun e => by rw [← e] at hL; rw [hL] at hp; cases hp) (hW p (by simp))
  replace hdx := hk₀ _ _ hdx (by simpa using hdp)
  refine ks_wpAt_execs_cons (ks_wpAt_If (wpAt_of_wpAny (wpAny_mono (Q := IsB h₀ L (fun y => List.lookup y [(("self" : Str), Value.ref p)].reverse) [(p, ⟨.ref 135, some dx, .seq (vs ++ [v]).toArray n, #[]⟩)] s false) ?_ (fun b s' hb => ?_) fun _ _ e => e)))
  · k_steps
    exact IsB.go (by simp; omega) (by with_reducible assumption) (by with_reducible assumption)
  · obtain ⟨rfl, h2, tk2, rfl, F2, N2⟩ := hb
    simp only [Bool.false_eq_true, if_false]
    refine wpAt_of_wpAny (wpAny_execs_nil ?_)
    refine ks_wpAt_execs_cons (ks_wpAt_Return_some ?_)
    clear F N
    k_steps
    (with_reducible rename Fr _ _ _ _ => F3)
    (with_reducible rename News _ _ _ _ => N3)
    have hp3 := (N3 _ (.tail _ (.head _))).1
    refine super_md F3 N3 X (.head _) hp3 rfl (not135 (X.keeps F3.keep) hp3) (al_pop _) ty_pop rfl (by decide +kernel) (by decide) fun q h4 F4 N4 => ?_
    have hp4 := (N4 _ (.tail _ (.tail _ (.head _)))).1
    refine callW_bound0 (N4 _ (.head _)).1 (.inl rfl) ?_
    refine wpAny_call (call_bound (N4 _ (.head _)).1 (.inl rfl) (plainId_quiet (by decide +kernel) _) (bc_pop (X.keeps F4.keep) hp4 (run_pop hp4 hsz fun h5 k5 hp5 x5 => ?_)))
    dsimp only
    exact hret _ _ _ (fun b o e hb => x5 b o (F4.keep b o (hk₀ b o e hb)) hb) hp5

theorem acc_pop_none (G : Gnd w lo mean mg mb g) (Bs : ∀ b o, g.get? b = some o → s.heap.get? b = some o) (hd : dp + 2 < recursionLimit) (hu : un + 30 < cLine)
    {p dx : Addr} {hs : Int} {ti : Tok} {vi : Value} {nn : Nat} {n : Nat} (hp : s.heap.get? p = some ⟨.ref 135, some dx, .seq #[] n, #[]⟩) (hdx : s.heap.get? dx = some (dictOf [⟨hs, .str "_initial_size" ti, vi⟩] nn)) (hdp : dx ≠ p) (hgp : g.get? p = none)
    (hret : ∀ h' tk' T t1 t2, Ext s.heap h' [] → s.heap.get? T = none → h'.IsTuple T #[.str "" t1, .str "" t2] → Q (.ref T) { s with heap := h', toks := tk' }) :
    wpAny (model PR w) (AA dp un fr gd) (call (.ref 95) [.ref p]) Q E s := by
  refine wpAny_call ?_
  refine enterA (binds := [("self", .ref p)]) [p] G Bs (by simpa using hgp) (by k_is) (by k_is) (by omega) (BindsTo.of_eq rfl) (locs rfl) ?_ (by decide) rfl rfl rfl
  intro h₀ L h₁ G₀ hs₀ hk₀ hW F hL hk₁
  have X := G₀.X
  have T := G₀.T
  have N := news_add (News.nil : News h₀ L h₁ []) (hk₁ _ _ hp) (fun e => by rw [← e] at hL; rw [hL] at hp; cases hp) (hW p (by simp))
  replace hdx := hk₀ _ _ hdx (by simpa using hdp)
  refine ks_wpAt_execs_cons (ks_wpAt_If (wpAt_of_wpAny (wpAny_mono (Q := IsB h₀ L (fun y => List.lookup y [(("self" : Str), Value.ref p)].reverse) [(p, ⟨.ref 135, some dx, .seq #[] n, #[]⟩)] s true) ?_ (fun b s' hb => ?_) fun _ _ e => e)))
  · k_steps
    exact IsB.go (by simp) (by with_reducible assumption) (by with_reducible assumption)
  · obtain ⟨rfl, h2, tk2, rfl, F2, N2⟩ := hb
    simp only [if_true]
    refine wpAt_of_wpAny ?_
    clear F N
    k_steps
    (with_reducible rename Fr _ _ _ _ => F3)
    (with_reducible rename News _ _ _ _ => N3)
    have hT := N3 _ (.head _)
    have hTp := news_ne N3 (.head _) (.tail _ (.head _)) (by simp)
    refine hret _ _ _ _ _ (fun b o e hb => ?_) ?_ ⟨_, hT.1, rfl, _, rfl⟩
    · by_cases hbp : b = p
      · subst hbp
        rw [hp] at e
        cases e
        exact (N3 _ (.tail _ (.head _))).1
      · exact F3.keep b o (hk₀ b o e (by simpa using hbp))
    · refine Option.eq_none_iff_forall_ne_some.mpr fun o q => ?_
      have e := hk₀ _ o q (by simpa using hTp)
      rw [hT.2.2] at e; cases e
end
end Mine
end
section
open PySem PySem.W PyProof.Rows PySem.Calls
set_option maxRecDepth 100000
set_option maxHeartbeats 4000000
namespace Mine
theorem fillit12 : (fun (_ : Params → Frag) (_ : OpenLaw) => True) kk.heap_1 PySem.Challenge.rw_wj0075_01 := by k_fill; trivial

section
variable {w : World} {lo : List Str} {mean : ExcName → Option Value} {mg mb : Str → Option Value} {g : Heap} {s : Shared} {dp un : Nat} {fr : Option (List Env)} {gd : Option (List Code)} {Q : Value → Shared → Prop} {E : Value → Shared → Prop}

local macro_rules | `(tactic| k_inst) => `(tactic| ((with_reducible rename Fr _ _ _ _ => kF); (with_reducible rename News _ _ _ _ => kN); first | exact acc_inst (kN _ (.head _)).1 (kF.keep _ _ (by assumption)) | exact acc_inst (kN _ (.tail _ (.head _))).1 (kF.keep _ _ (by assumption)) | exact acc_inst (kN _ (.tail _ (.tail _ (.head _)))).1 (kF.keep _ _ (by assumption)) | exact acc_inst (kN _ (.tail _ (.tail _ (.tail _ (.head _))))).1 (kF.keep _ _ (by assumption))))
theorem kwAu0 : True := by
  k_with_none
  trivial
theorem kwAu1 : True := by
  (k_with "getMethod ref" => ((with_reducible rename Fr _ _ _ _ => kF); k_dflt (refine acc_get kF (by assumption) (by k_inst) (by k_is) (by k_is) (by first | exact .inl rfl | exact .inr rfl) (by rfl) ?_)))
  trivial

theorem acc_push_c (G : Gnd w lo mean mg mb g) (Bs : ∀ b o, g.get? b = some o → s.heap.get? b = some o) (hd : dp + 2 < recursionLimit) (hu : un + 30 < cLine)
    {p dx : Addr} {hs : Int} {ti : Tok} {vi : Value} {nn : Nat} {vs : List Value} {n : Nat} {a b : Str} {ta tb : Tok} (hp : s.heap.get? p = some ⟨.ref 135, some dx, .seq vs.toArray n, #[]⟩) (hdx : s.heap.get? dx = some (dictOf [⟨hs, .str "_initial_size" ti, vi⟩] nn)) (hdp : dx ≠ p) (hgp : g.get? p = none) (hsz : vs.length ≤ 1000)
    (hret : ∀ h' tk' T k' t1 t2, Ext s.heap h' [p] → s.heap.get? T = none → h'.IsTuple T #[.str a t1, .str b t2] → h'.get? p = some ⟨.ref 135, some dx, .seq (vs ++ [Value.ref T]).toArray k', #[]⟩ → Q .none { s with heap := h', toks := tk' }) :
    wpAny (model PR w) (AA dp un fr gd) (call (.ref 79) [.ref p, .str a ta, .str b tb]) Q E s := by
  refine wpAny_call ?_
  refine enterC (binds := [("self", .ref p), ("fws", .str a ta), ("string", .str b tb)]) [p] G Bs (by simpa using hgp) (by k_is) (by k_is) (by omega) (BindsTo.of_eq rfl) (locs rfl) ?_ rfl rfl rfl (by decide)
  intro h₀ L h₁ G₀ hs₀ hk₀ hW F hL hk₁
  have X := G₀.X
  have T := G₀.T
  have N := news_add (News.nil : News h₀ L h₁ []) (hk₁ _ _ hp) (fun e => by rw [← e] at hL; rw [hL] at hp; cases hp) (hW p (by simp))
  replace hdx := hk₀ _ _ hdx (by simpa using hdp)
  k_steps
  (with_reducible rename Fr _ _ _ _ => F3)
  (with_reducible rename News _ _ _ _ => N3)
  have hT := N3 _ (.head _)
  have hp3 := (N3 _ (.tail _ (.head _))).1
  have hTp := news_ne N3 (.head _) (.tail _ (.head _)) (by simp)
  obtain ⟨cd, hc, hm, _⟩ := cls135 w.params
  refine run_append (X.keeps F3.keep) hc hm hp3 (by simpa using hsz) fun h5 k5 hp5 x5 => ?_
  k_steps
  dsimp only
  refine hret h5 _ _ k5 _ _ (fun b o e hb => x5 b o (F3.keep b o (hk₀ b o e hb)) hb) ?_ ⟨_, x5 _ _ hT.1 (by simpa using hTp), rfl, _, rfl⟩ (by rw [hp5]; simp)
  refine Option.eq_none_iff_forall_ne_some.mpr fun o q => ?_
  have e := hk₀ _ o q (by simpa using hTp)
  rw [hT.2.2] at e; cases e

local macro_rules | `(tactic| k_inst) => `(tactic| ((with_reducible rename News _ _ _ _ => kN); first | exact acc_inst (kN _ (.head _)).1 (kN _ (.tail _ (.head _))).1 | exact acc_inst (kN _ (.tail _ (.head _))).1 (kN _ (.tail _ (.tail _ (.head _)))).1 | exact acc_inst (kN _ (.tail _ (.tail _ (.head _)))).1 (kN _ (.tail _ (.tail _ (.tail _ (.head _))))).1))
theorem look135 (P : Params) : ∃ oc od cd sl, (kk.heap_1 P).lookup 135 = some ⟨oc, od, .cls cd, sl⟩ ∧ cd.mro = [.ref 135, .type "list", .type "object"] ∧ (sl.toList[4]?).join = some (.builtin "list.__new__") ∧ cd.hasDel = false := ⟨_, _, _, _, by k_is, rfl, rfl, rfl⟩
theorem acc_make_c (G : Gnd w lo mean mg mb g) (Bs : ∀ b o, g.get? b = some o → s.heap.get? b = some o) (hd : dp + 3 < recursionLimit)
    (hret : ∀ h' tk' p dx hsh t v n k, Ext s.heap h' [] → s.heap.get? p = none → s.heap.get? dx = none → dx ≠ p → h'.get? p = some ⟨.ref 135, some dx, .seq #[] k, #[]⟩ → h'.get? dx = some (dictOf [⟨hsh, .str "_initial_size" t, v⟩] n) →
      Q (.ref p) { s with heap := h', toks := tk' }) :
    wpAny (model PR w) (AA dp un fr gd) (call (.ref 135) []) Q E s := by
  obtain ⟨hp, ge, dr, tk, os⟩ := s
  have X := G.X.keeps Bs
  obtain ⟨oc, od, cd, sl, hK, hm, h4, hdel⟩ := look135 w.params
  refine wpAny_call (make_acc (C := 135) (fI := 72) X rfl hK hm h4 hdel (by k_is) (by k_is) (by k_is) (by k_is) ?_)
  rw [under_make]
  generalize hdx : hp.objs.size = dx
  have hxn : hp.get? (dx + 1) = none := Heap.get?_none_of_le (by rw [hdx]; exact Nat.le_succ _)
  have hdn : hp.get? dx = none := Heap.get?_none_of_le (by rw [hdx]; exact Nat.le_refl _)
  have up : ∀ b o, hp.get? b = some o → ((hp.push emptyDict).push { cls := .ref 135, dict := some dx, data := .seq #[] }).get? b = some o := fun b o e => Heap.get?_push_of_some _ (Heap.get?_push_of_some _ e)
  have gn : ∀ a, hp.get? a = none → g.get? a = none := fun a e => by
    cases q : g.get? a with
    | none => rfl
    | some o => have := Bs a o q; rw [e] at this; cases this
  refine enterA (binds := [("self", .ref (dx + 1)), ("initial_size", .int 0 518)]) [dx + 1, dx] G (fun b o e => up b o (Bs b o e)) (fun a ha => ?_) (by k_is) (by k_is) (by omega) (binds_K (X.keeps up) rfl (by k_is) rfl rfl rfl) (locs rfl) ?_ (by decide) rfl rfl rfl
  · rcases List.mem_cons.mp ha with rfl | ha
    · exact gn _ hxn
    · rw [List.mem_singleton.mp ha]; exact gn _ hdn
  intro h₀ L h₁ G₀ hs₀ hk₀ hW F hL hk₁
  have X := G₀.X
  have T := G₀.T
  have hx1 : ((hp.push emptyDict).push { cls := .ref 135, dict := some dx, data := .seq #[] }).get? (dx + 1) = some ⟨.ref 135, some dx, .seq #[] 0, #[]⟩ := by
    have := Heap.get?_push_size (h := hp.push emptyDict) (o := ⟨.ref 135, some dx, .seq #[] 0, #[]⟩) rfl
    rwa [Heap.size_push, hdx] at this
  have hd1 : ((hp.push emptyDict).push { cls := .ref 135, dict := some dx, data := .seq #[] }).get? dx = some (dictOf [] 0) := by
    have := Heap.get?_push_size (h := hp) (o := emptyDict) rfl
    rw [hdx] at this
    exact Heap.get?_push_of_some _ this
  have N : News h₀ L h₁ [(dx + 1, ⟨.ref 135, some dx, .seq #[] 0, #[]⟩), (dx, dictOf [] 0)] := by
    intro p hp'
    rcases List.mem_cons.mp hp' with rfl | hp'
    · exact ⟨hk₁ _ _ hx1, (fun e => by rw [← e] at hL; rw [show Heap.get? _ (dx + 1) = none from hL] at hx1; cases hx1), hW _ (by simp)⟩
    · rw [List.mem_singleton.mp hp']
      exact ⟨hk₁ _ _ hd1, (fun e => by rw [← e] at hL; rw [show Heap.get? _ dx = none from hL] at hd1; cases hd1), hW _ (by simp)⟩
  k_steps
  (with_reducible rename Fr _ _ _ _ => F1)
  (with_reducible rename News _ _ _ _ => N1)
  obtain ⟨cd, hc, hm, hh, _⟩ := cls135 w.params
  have hne : dx + 1 ≠ dx := Nat.succ_ne_self dx
  refine set_plain (X.keeps F1.keep) (acc_inst (N1 _ (.head _)).1 (N1 _ (.tail _ (.head _))).1) (by k_is) ?_
  refine acc_osa (pre := [(dx + 1, ⟨.ref 135, some dx, .seq #[] 0, #[]⟩)]) (post := []) (es := [⟨PyData.keyHash w.params "_initial_size", .str "_initial_size" _, .int 0 518⟩]) (n := 1) (od' := dictOf [⟨PyData.keyHash w.params "_initial_size", .str "_initial_size" _, .int 0 518⟩] 1) F1 N1 (X.keeps F1.keep) (acc_inst (N1 _ (.head _)).1 (N1 _ (.tail _ (.head _))).1) rfl hc hm (by k_is) hh (by simpa using hne) (by simp) rfl rfl (by simp) fun h2 F2 N2 => ?_
  dsimp only
  clear F1 N1
  simp only [List.cons_append, List.nil_append] at N2
  refine ks_wpAt_execs_cons (ks_wpAt_Expr_any (ks_wpAt_MethodCall ?_))
  k_here
  k_dflt (refine ks_node (by k_asm) (by k_asm) (by k_asm) (by k_asm) (by k_is) (by rfl) (by rfl) (by k_inst) (by k_is) (by rfl) (by first | rfl | decide +kernel) (by k_is) (by k_is) (by k_is) (by k_is) (by decide) (by rfl) (by rfl) (by rfl) (by rfl) (by decide +kernel) (by first | boot_by_name | rfl | kernel_rfl) ?_; intro so' h' F' N' l1)
  clear F2 N2
  (with_reducible rename Fr _ _ _ _ => F3)
  (with_reducible rename News _ _ _ _ => N3)
  have hp3 := (N3 _ (.tail _ (.head _))).1
  refine super_wd F3 N3 X (.head _) hp3 rfl (not135 (X.keeps F3.keep) hp3) (al_init _) ty_init rfl (by decide) fun q h4 F4 N4 => ?_
  have hp4 := (N4 _ (.tail _ (.tail _ (.head _)))).1
  have hd4 := (N4 _ (.tail _ (.tail _ (.tail _ (.head _))))).1
  dsimp only
  refine callW_bound0 (N4 _ (.head _)).1 (.inr rfl) ?_
  refine wpAny_call (call_bound (N4 _ (.head _)).1 (.inr rfl) (plainId_quiet (by decide +kernel) _) (wpAny_of_eq (bc_init (dx + 1)) (run_init hp4 fun h5 k5 hp5 x5 => ?_)))
  dsimp only
  refine wpAt_of_wpAny (wpAny_execs_nil ?_)
  dsimp only
  refine ⟨rfl, hret h5 _ _ dx _ _ _ _ k5 (fun b o e hb => ?_) hxn hdn (Ne.symm hne) hp5 (x5 _ _ hd4 (by simp))⟩
  have hbn : b ∉ [dx + 1, dx] := fun hm => by
    rcases List.mem_cons.mp hm with rfl | hm
    · rw [show hp.get? (dx + 1) = some o from e] at hxn; cases hxn
    · rw [List.mem_singleton.mp hm] at e; rw [show hp.get? dx = some o from e] at hdn; cases hdn
  exact x5 b o (F4.keep b o (hk₀ b o (up b o e) hbn)) fun hm => hbn (by simp [List.mem_singleton.mp hm])
end
end Mine
end
section
open PySem PySem.W PyProof.Rows PySem.Calls PyProof.V
set_option maxRecDepth 100000
set_option maxHeartbeats 2000000
namespace Mine
theorem fillit13 : (fun (_ : Params → Frag) (_ : OpenLaw) => True) kk.heap_1 PySem.Challenge.rw_wj0075_01 := by k_fill; trivial

/-- the signs -/
noncomputable def sgAll : List Nat := [40, 41, 91, 93, 58, 44, 59, 43, 45, 42, 47, 124, 38, 60, 62, 61, 46, 37, 123, 125]
noncomputable def sg (d j : Nat) : Str := ⟨#[sgAll.getD (d + j) 0]⟩
noncomputable def sgs (d : Nat) : Str := ⟨#[sgAll.getD (d + 0) 0, sgAll.getD (d + 1) 0, sgAll.getD (d + 2) 0, sgAll.getD (d + 3) 0, sgAll.getD (d + 4) 0, sgAll.getD (d + 5) 0]⟩
noncomputable def toN (d j : Nat) : Str := ("To" : Str) ++ sg d j
noncomputable def frN (d j : Nat) : Str := ("From" : Str) ++ sg d j
noncomputable def atN (d j : Nat) : Str := ("At" : Str) ++ sg d j

theorem sg_slice : ∀ d < 15, (⟨(("()[]:,;+-*/|&<>=.%{}" : Str).cps.extract d (d + 6))⟩ : Str) = sgs d := by decide +kernel
theorem sg_clean : ∀ d < 15, ∀ j < 6, ∀ c ∈ (sg d j).cps, 32 ≤ c ∧ c < 127 := by decide +kernel
theorem sg_inj : ∀ d < 15, ∀ i < 6, ∀ j < 6, sg d i = sg d j → i = j := by decide +kernel
theorem to_clean : ∀ d < 15, ∀ j < 6, ∀ c ∈ (toN d j).cps, 32 ≤ c ∧ c < 127 := by decide +kernel
theorem fr_clean : ∀ d < 15, ∀ j < 6, ∀ c ∈ (frN d j).cps, 32 ≤ c ∧ c < 127 := by decide +kernel
theorem to_low : ∀ d < 15, ∀ j < 6, Txt.lower (toN d j) = ("to" : Str) ++ sg d j := by decide +kernel
theorem fr_low : ∀ d < 15, ∀ j < 6, Txt.lower (frN d j) = ("from" : Str) ++ sg d j := by decide +kernel
theorem sgs_at : ∀ d < 15, ∀ j < 6, (sgs d).cps[j]? = some (sgAll.getD (d + j) 0) := by decide +kernel

noncomputable def exactD : List (Str × KTD.Dat) := [(Str.ofString "!", KTD.Dat.flat (.int 54)), (Str.ofString "!=", KTD.Dat.flat (.int 28)), (Str.ofString "%", KTD.Dat.flat (.int 24)), (Str.ofString "%=", KTD.Dat.flat (.int 40)), (Str.ofString "&", KTD.Dat.flat (.int 19)), (Str.ofString "&=", KTD.Dat.flat (.int 41)), (Str.ofString "(", KTD.Dat.flat (.int 7)), (Str.ofString ")", KTD.Dat.flat (.int 8)), (Str.ofString "*", KTD.Dat.flat (.int 16)), (Str.ofString "**", KTD.Dat.flat (.int 35)), (Str.ofString "**=", KTD.Dat.flat (.int 46)), (Str.ofString "*=", KTD.Dat.flat (.int 38)), (Str.ofString "+", KTD.Dat.flat (.int 14)), (Str.ofString "+=", KTD.Dat.flat (.int 36)), (Str.ofString ",", KTD.Dat.flat (.int 12)), (Str.ofString "-", KTD.Dat.flat (.int 15)), (Str.ofString "-=", KTD.Dat.flat (.int 37)), (Str.ofString "->", KTD.Dat.flat (.int 51)), (Str.ofString ".", KTD.Dat.flat (.int 23)), (Str.ofString "...", KTD.Dat.flat (.int 52)), (Str.ofString "/", KTD.Dat.flat (.int 17)), (Str.ofString "//", KTD.Dat.flat (.int 47)), (Str.ofString "//=", KTD.Dat.flat (.int 48)), (Str.ofString "/=", KTD.Dat.flat (.int 39)), (Str.ofString ":", KTD.Dat.flat (.int 11)), (Str.ofString ":=", KTD.Dat.flat (.int 53)), (Str.ofString ";", KTD.Dat.flat (.int 13)), (Str.ofString "<", KTD.Dat.flat (.int 20)), (Str.ofString "<<", KTD.Dat.flat (.int 33)), (Str.ofString "<<=", KTD.Dat.flat (.int 44)), (Str.ofString "<=", KTD.Dat.flat (.int 29)), (Str.ofString "=", KTD.Dat.flat (.int 22)), (Str.ofString "==", KTD.Dat.flat (.int 27)), (Str.ofString ">", KTD.Dat.flat (.int 21)), (Str.ofString ">=", KTD.Dat.flat (.int 30)), (Str.ofString ">>", KTD.Dat.flat (.int 34)), (Str.ofString ">>=", KTD.Dat.flat (.int 45)), (Str.ofString "@", KTD.Dat.flat (.int 49)), (Str.ofString "@=", KTD.Dat.flat (.int 50)), (Str.ofString "[", KTD.Dat.flat (.int 9)), (Str.ofString "]", KTD.Dat.flat (.int 10)), (Str.ofString "^", KTD.Dat.flat (.int 32)), (Str.ofString "^=", KTD.Dat.flat (.int 43)), (Str.ofString "{", KTD.Dat.flat (.int 25)), (Str.ofString "|", KTD.Dat.flat (.int 18)), (Str.ofString "|=", KTD.Dat.flat (.int 42)), (Str.ofString "}", KTD.Dat.flat (.int 26)), (Str.ofString "~", KTD.Dat.flat (.int 31))]
noncomputable def datI : Option KTD.Dat → Option Int
  | some (.flat (.int k)) => some k
  | _ => none
theorem datI_some {x : Option KTD.Dat} {k : Int} (h : datI x = some k) : x = some (.flat (.int k)) := by
  unfold datI at h
  split at h
  · injection h with h; rw [h]
  · cases h
theorem exact_at : ∀ i < 20, KTD.datumAt (⟨#[sgAll.getD i 0]⟩ : Str) exactD = some (KTD.Dat.flat (.int ((7 + i : Nat) : Int))) := by
  have h : ∀ i < 20, datI (KTD.datumAt (⟨#[sgAll.getD i 0]⟩ : Str) exactD) = some ((7 + i : Nat) : Int) := by decide +kernel
  exact fun i hi => datI_some (h i hi)
theorem tab39 {P : Params} {h : Heap} (X : (kk.heap_1 P).In h) : KTD.TextTab h 39 exactD := by
  refine ⟨rfl, _, _, _, X 39 _ (by k_is), ⟨rfl, rfl, rfl⟩, rfl, ?_⟩
  repeat (first | exact .nil | refine .cons rfl (show KTD.Dat.At _ (.flat (.int _)) _ from .int _ _) ?_)
theorem exact_sg {d j : Nat} (hd : d < 15) (hj : j < 6) : KTD.datumAt (sg d j) exactD = some (KTD.Dat.flat (.int ((7 + d + j : Nat) : Int))) := by
  have := exact_at (d + j) (by omega)
  rw [← Nat.add_assoc] at this
  exact this

section
variable {w : World} {A : Around} {E : Value → Shared → Prop} {s : Shared} {h₀ : Heap}
theorem exact_item {value slice : Expr} {d j : Nat} {tk : Tok} {Q : Value → Shared → Prop} (X : (kk.heap_1 w.params).In h₀) (hk : ∀ b o, h₀.get? b = some o → s.heap.get? b = some o) (hd : d < 15) (hj : j < 6)
    (h : ∀ t, Q (.int ((7 + d + j : Nat) : Int) t) { s with toks := s.toks + 1 })
    (hs : subscripted slice false (.ref 39) (.str (sg d j) tk) = operate [.ref 39, .str (sg d j) tk] (getItem (.ref 39) (.str (sg d j) tk)) := by with_unfolding_all rfl) (hg : ∀ r, letTemporaryGo value (.ref 39) r = pure () := by intro _; with_unfolding_all rfl) :
    wpAny (model PR w) A (subscriptTail value slice (.ref 39) (.str (sg d j) tk)) Q E s := by
  have T : KTD.Here h₀ s.heap 39 exactD := ⟨tab39 X, hk⟩
  refine subscriptTail_builtin T.typeIs slot_dict_getitem.lookup ?_ hs hg
  unfold getItem
  try with_reducible refine wpAny_holding ?_
  refine wpAny_bind (wpAny_sequenceKey T.typeIs (by decide) ?_)
  refine wpAny_bind (wpAny_callSpecial?_slot (name := Str.ofString "__getitem__") T.typeIs slot_dict_getitem
    (wpAny_call_entry slot_dict_getitem T.typeIs entry_dict_getitem ?_ (args_dict_getitem _ _)))
  show wpAny _ _ (dictGet 39 (.str (sg d j) tk) >>= _) _ _ s
  refine wpAny_bind (KTD.dictGet_text T (fun dd v ha hv => ?_) fun hn => by rw [exact_sg hd hj] at hn; cases hn)
  rw [exact_sg hd hj] at ha
  cases ha
  obtain ⟨t, rfl⟩ := Flat.int_inv hv
  exact wpAny_pure ⟨_, rfl, wpAny_pure (h t)⟩
end
end Mine
end
section
open PySem PySem.W PyProof.Rows PySem.Calls
set_option maxRecDepth 100000
set_option maxHeartbeats 2000000
namespace Mine
theorem fillit14 : (fun (_ : Params → Frag) (_ : OpenLaw) => True) kk.heap_1 PySem.Challenge.rw_wj0075_01 := by k_fill; trivial

section
variable {w : World} {lo : List Str} {mean : ExcName → Option Value} {mg mb : Str → Option Value} {g : Heap} {s : Shared} {dp un : Nat} {fr : Option (List Env)} {gd : Option (List Code)} {Q : Value → Shared → Prop} {E : Value → Shared → Prop}

theorem isnt_c (G : Gnd w lo mean mg mb g) (Bs : ∀ b o, g.get? b = some o → s.heap.get? b = some o) (hdp : dp + 1 < recursionLimit) {r : Int} {t : Tok} {b : Bool} (hb : decide (256 ≤ r) = b)
    (hret : ∀ h' tk', Ext s.heap h' [] → Q (.bool b) { s with heap := h', toks := tk' }) :
    wpAny (model PR w) (AA dp un fr gd) (call (.ref 48) [.int r t]) Q E s := by
  refine wpAny_call ?_
  refine enterC (binds := [("x", .int r t)]) [] G Bs (by simp) (by k_is) (by k_is) (by omega) (BindsTo.of_eq rfl) (locs rfl) ?_ rfl rfl rfl (by decide)
  intro h₀ L h₁ G₀ hs₀ hk₀ hW F hL hk₁
  have X := G₀.X
  have T := G₀.T
  have N : News h₀ L h₁ [] := News.nil
  k_steps
  dsimp only
  rw [hb]
  exact hret _ _ fun b o e hb => Fr.keep (by with_reducible assumption) b o (hk₀ b o e hb)
theorem iseof_c (G : Gnd w lo mean mg mb g) (Bs : ∀ b o, g.get? b = some o → s.heap.get? b = some o) (hdp : dp + 1 < recursionLimit) {r : Int} {t : Tok} {b : Bool} (hb : decide (r = 0) = b)
    (hret : ∀ h' tk', Ext s.heap h' [] → Q (.bool b) { s with heap := h', toks := tk' }) :
    wpAny (model PR w) (AA dp un fr gd) (call (.ref 55) [.int r t]) Q E s := by
  refine wpAny_call ?_
  refine enterC (binds := [("x", .int r t)]) [] G Bs (by simp) (by k_is) (by k_is) (by omega) (BindsTo.of_eq rfl) (locs rfl) ?_ rfl rfl rfl (by decide)
  intro h₀ L h₁ G₀ hs₀ hk₀ hW F hL hk₁
  have X := G₀.X
  have T := G₀.T
  have N : News h₀ L h₁ [] := News.nil
  k_steps
  dsimp only
  rw [show (r == 0) = b from hb]
  exact hret _ _ fun b o e hb => Fr.keep (by with_reducible assumption) b o (hk₀ b o e hb)
end
end Mine
end
section
open PySem PySem.W PyProof.Rows PySem.Calls
set_option maxRecDepth 100000
set_option maxHeartbeats 2000000
namespace Mine
noncomputable def TestW (B D : Shared → Prop) (b : Bool) (s : Shared) : Prop := if b = true then B s else D s
noncomputable def BodyW (I : Nat → Shared → Prop) (n : Nat) (Q : Flow → Shared → Prop) (f : Flow) (s : Shared) : Prop := match f with
  | .next | .cont => ∃ m, m < n ∧ I m s
  | .brk => Q .next s
  | .ret v => Q (.ret v) s
theorem TestW.yes {B D : Shared → Prop} {s : Shared} (h : B s) : TestW B D true s := by simpa [TestW] using h
theorem TestW.no {B D : Shared → Prop} {s : Shared} (h : D s) : TestW B D false s := by simpa [TestW] using h
section
variable {prog : Program} {w : World} {A : Around} {s : Shared} {env : Env}
theorem while_rule {test : Expr} {body : List Stmt} {pos : Pos} {Q : Flow → Shared → Prop} (I B : Nat → Shared → Prop) (D : Shared → Prop)
    (htest : ∀ n s', I n s' → wpAny (model prog w) A (isTrue test env (eval test env)) (TestW (B n) D) (fun _ _ => False) s')
    (hbody : ∀ n s', B n s' → wpAny (model prog w) A (execs body env) (BodyW I n Q) (fun _ _ => False) s')
    (done : ∀ s', D s' → Q .next s') (n : Nat) (h : I n s) :
    wpAny (model prog w) A (exec (.While test body [] pos) env) Q (fun _ _ => False) s := by
  refine wpAny_While (codeAny_whileLoop I (fun n s' hI => ?_) n h)
  refine wpAny_mono (htest n s' hI) (fun b s₂ hb => ?_) fun _ _ x => x.elim
  cases b with
  | true =>
    simp only [if_true]
    refine wpAny_mono (hbody n s₂ (by simpa [TestW] using hb)) (fun f s₃ hf => ?_) fun _ _ x => x.elim
    cases f <;> exact hf
  | false =>
    simp only [Bool.false_eq_true, if_false]
    exact wpAny_execs_nil (done s₂ (by simpa [TestW] using hb))

theorem row_at {value slice : Expr} {h₀ : Heap} {L : Addr} {m : Str → Option Value} {lr : Addr} {rv : List Value} {k : Nat} {u : Tok} {x : Value} {E : Value → Shared → Prop} {Q : Value → Shared → Prop} (F : Fr h₀ L s.heap m) (hrow : h₀.IsList lr rv.toArray) (hx : rv[k]? = some x) (hk : k ≤ 1000) (h : Q x s)
    (hs : subscripted slice false (.ref lr) (.int ((k : Nat) : Int) u) = operate [.ref lr, .int ((k : Nat) : Int) u] (getItem (.ref lr) (.int ((k : Nat) : Int) u)) := by with_unfolding_all rfl) (hg : ∀ r, letTemporaryGo value (.ref lr) r = pure () := by intro _; with_unfolding_all rfl) :
    wpAny (model prog w) A (subscriptTail value slice (.ref lr) (.int ((k : Nat) : Int) u)) Q E s :=
  item_list (hrow.at fun o e => F.keep _ _ e) (by omega) (by omega) (by simpa using hx) h hs hg
end
theorem Fr.cong {h₀ h : Heap} {L : Addr} {m m' : Str → Option Value} (F : Fr h₀ L h m) (e : ∀ y, m y = m' y) : Fr h₀ L h m' := (funext e : m = m') ▸ F

/-- one sign's test -/
noncomputable def pS (x : Str) (v : Value) : Bool := match v with
  | .str y _ => y == x
  | _ => false
theorem sign_at {d i : Nat} {v : Value} (hd : d < 15) (h : SignAt (sgs d) i v) : i < 6 ∧ ∃ u, v = .str (sg d i) u := by
  obtain ⟨c, u, hc, rfl⟩ := h
  have hi : i < 6 := by
    by_cases hi : i < 6
    · exact hi
    · rw [Array.getElem?_eq_none (show (sgs d).cps.size ≤ i from by show 6 ≤ i; omega)] at hc; cases hc
  refine ⟨hi, u, ?_⟩
  rw [sgs_at d hd i hi] at hc
  cases hc
  rfl
theorem list6 {α : Type} {l : List α} (h : l.length = 6) : ∃ a b c d e f, l = [a, b, c, d, e, f] := by
  obtain ⟨a, l1, rfl⟩ := List.exists_cons_of_length_eq_add_one h
  obtain ⟨b, l2, rfl⟩ := List.exists_cons_of_length_eq_add_one (Nat.succ.inj h)
  obtain ⟨c, l3, rfl⟩ := List.exists_cons_of_length_eq_add_one (Nat.succ.inj (Nat.succ.inj h))
  obtain ⟨d, l4, rfl⟩ := List.exists_cons_of_length_eq_add_one (Nat.succ.inj (Nat.succ.inj (Nat.succ.inj h)))
  obtain ⟨e, l5, rfl⟩ := List.exists_cons_of_length_eq_add_one (Nat.succ.inj (Nat.succ.inj (Nat.succ.inj (Nat.succ.inj h))))
  obtain ⟨f, l6, rfl⟩ := List.exists_cons_of_length_eq_add_one (Nat.succ.inj (Nat.succ.inj (Nat.succ.inj (Nat.succ.inj (Nat.succ.inj h)))))
  obtain rfl := List.length_eq_zero_iff.mp (Nat.succ.inj (Nat.succ.inj (Nat.succ.inj (Nat.succ.inj (Nat.succ.inj (Nat.succ.inj h))))))
  exact ⟨a, b, c, d, e, f, rfl⟩
theorem six {d : Nat} (hd : d < 15) {vs : List Value} (hl : vs.length = (sgs d).cps.size) (hP : ∀ j v, vs[j]? = some v → SignAt (sgs d) j v) :
    ∃ u0 u1 u2 u3 u4 u5, vs = [.str (sg d 0) u0, .str (sg d 1) u1, .str (sg d 2) u2, .str (sg d 3) u3, .str (sg d 4) u4, .str (sg d 5) u5] := by
  have hl' : vs.length = 6 := hl
  obtain ⟨a, b, c, e, f, g, rfl⟩ := list6 hl'
  clear hl hl'
  obtain ⟨_, u0, e0⟩ := sign_at hd (hP 0 _ rfl)
  obtain ⟨_, u1, e1⟩ := sign_at hd (hP 1 _ rfl)
  obtain ⟨_, u2, e2⟩ := sign_at hd (hP 2 _ rfl)
  obtain ⟨_, u3, e3⟩ := sign_at hd (hP 3 _ rfl)
  obtain ⟨_, u4, e4⟩ := sign_at hd (hP 4 _ rfl)
  obtain ⟨_, u5, e5⟩ := sign_at hd (hP 5 _ rfl)
  exact ⟨u0, u1, u2, u3, u4, u5, by rw [e0, e1, e2, e3, e4, e5]⟩
theorem sg_beq {d i j : Nat} (hd : d < 15) (hi : i < 6) (hj : j < 6) : (sg d i == sg d j) = decide (i = j) := by
  by_cases h : i = j
  · subst h; simp
  · rw [decide_eq_false h]
    exact beq_eq_false_iff_ne.mpr fun e => h (sg_inj d hd i hi j hj e)
theorem filter_sign {d j : Nat} (hd : d < 15) (hj : j < 6) {vs : List Value} (hl : vs.length = (sgs d).cps.size) (hP : ∀ j v, vs[j]? = some v → SignAt (sgs d) j v) : ∃ u, vs.filter (pS (sg d j)) = [.str (sg d j) u] := by
  obtain ⟨u0, u1, u2, u3, u4, u5, rfl⟩ := six hd hl hP
  have b : ∀ i, i < 6 → (sg d i == sg d j) = decide (i = j) := fun i hi => sg_beq hd hi hj
  have : j = 0 ∨ j = 1 ∨ j = 2 ∨ j = 3 ∨ j = 4 ∨ j = 5 := by omega
  rcases this with rfl | rfl | rfl | rfl | rfl | rfl <;> simp [List.filter_cons, pS, b]
end Mine
end
section
open PySem PySem.W PyProof.Rows PySem.Calls
set_option maxRecDepth 100000
set_option maxHeartbeats 2000000
namespace Mine
theorem fillit15 : (fun (_ : Params → Frag) (_ : OpenLaw) => True) kk.heap_1 PySem.Challenge.rw_wj0075_01 := by k_fill; trivial

noncomputable def stepE (d : Nat) (st : Str × List (Str × Str)) (e : Bool × Nat) : Str × List (Str × Str) :=
  if e.1 = true then (sg d e.2, st.2) else (st.1, (st.2 ++ [(toN d e.2, st.1)]) ++ [(("From" : Str) ++ st.1, sg d e.2)])
noncomputable def runE (d : Nat) (es : List (Bool × Nat)) : Str × List (Str × Str) := es.foldl (stepE d) ("", [])
noncomputable def valE (d : Nat) (e : Bool × Nat) : Int := if e.1 = true then 256 + d + e.2 else 236 + d + e.2

noncomputable def TailOk (t : Str) : Prop := Clean t ∧ Clean (("From" : Str) ++ t) ∧ t.length ≤ 1
/-- pairs whose tuples are in the ledger -/
noncomputable def PairsIn (tups : List (Addr × Obj)) : List Value → List (Str × Str) → Prop
  | [], [] => True
  | v :: vs, p :: r => (∃ a t1 t2 o, v = .ref a ∧ (a, o) ∈ tups ∧ o.cls = .type "tuple" ∧ ∃ n, o.data = .seq #[.str p.1 t1, .str p.2 t2] n) ∧ PairsIn tups vs r
  | _, _ => False
theorem PairsIn.at {h₀ h : Heap} {L : Addr} {pre tups : List (Addr × Obj)} (N : News h₀ L h (pre ++ tups)) : ∀ {vs : List Value} {items : List (Str × Str)}, PairsIn tups vs items → PairsAt h vs items
  | [], [], _ => trivial
  | _ :: _, _ :: _, ⟨⟨a, t1, t2, o, e, hm, hc, n, hd⟩, r⟩ => ⟨⟨a, t1, t2, e, o, (N _ (List.mem_append_right _ hm)).1, hc, n, hd⟩, PairsIn.at N r⟩
  | [], _ :: _, h => h.elim
  | _ :: _, [], h => h.elim
theorem PairsIn.mono {tups tups' : List (Addr × Obj)} (k : ∀ p ∈ tups, p ∈ tups') : ∀ {vs : List Value} {items : List (Str × Str)}, PairsIn tups vs items → PairsIn tups' vs items
  | [], [], _ => trivial
  | _ :: _, _ :: _, ⟨⟨a, t1, t2, o, e, hm, r'⟩, r⟩ => ⟨⟨a, t1, t2, o, e, k _ hm, r'⟩, PairsIn.mono k r⟩
  | [], _ :: _, h => h.elim
  | _ :: _, [], h => h.elim
theorem PairsIn.snoc {tups : List (Addr × Obj)} {v : Value} {p : Str × Str} (q : ∃ a t1 t2 o, v = .ref a ∧ (a, o) ∈ tups ∧ o.cls = .type "tuple" ∧ ∃ n, o.data = .seq #[.str p.1 t1, .str p.2 t2] n) : ∀ {vs : List Value} {items : List (Str × Str)}, PairsIn tups vs items → PairsIn tups (vs ++ [v]) (items ++ [p])
  | [], [], _ => ⟨q, trivial⟩
  | _ :: _, _ :: _, ⟨x, r⟩ => ⟨x, PairsIn.snoc q r⟩
  | [], _ :: _, h => h.elim
  | _ :: _, [], h => h.elim
theorem PairsIn.length {tups : List (Addr × Obj)} : ∀ {vs : List Value} {items : List (Str × Str)}, PairsIn tups vs items → vs.length = items.length
  | [], [], _ => rfl
  | _ :: _, _ :: _, ⟨_, r⟩ => by rw [List.length_cons, List.length_cons, PairsIn.length r]
  | [], _ :: _, h => h.elim
  | _ :: _, [], h => h.elim

section
variable {w : World} {lo : List Str} {mean : ExcName → Option Value} {mg mb : Str → Option Value} {g : Heap} {s : Shared} {dp un : Nat} {fr : Option (List Env)} {gd : Option (List Code)} {Q : Value → Shared → Prop} {E : Value → Shared → Prop}

theorem news_fresh {h₀ h h' : Heap} {L a : Addr} {m : Str → Option Value} {o : Obj} {news : List (Addr × Obj)} (F : Fr h₀ L h m) (N : News h₀ L h' news) (nx : h.get? a = none) (ho : h'.get? a = some o) : News h₀ L h' ((a, o) :: news) := by
  refine news_add N ho (fun e => ?_) ?_
  · obtain ⟨oL, _, _, hL, _⟩ := F.ns
    rw [← e, nx] at hL; cases hL
  · cases q : h₀.get? a with
    | none => rfl
    | some o' => have := F.keep _ _ q; rw [nx] at this; cases this
theorem news_ne' {h₀ h : Heap} {L : Addr} {news : List (Addr × Obj)} {p q : Addr × Obj} (N : News h₀ L h news) (hp : p ∈ news) (hq : q ∈ news) (hc : p.2 ≠ q.2) : p.1 ≠ q.1 := fun e => by
  have a := (N p hp).1
  have b := (N q hq).1
  rw [e, b] at a
  exact hc (Option.some.inj a).symm
noncomputable def AllTup (tups : List (Addr × Obj)) : Prop := ∀ p ∈ tups, p.2.cls = .type "tuple" ∧ ∃ its n, p.2.data = .seq its n

theorem AllTup.cons {tups : List (Addr × Obj)} {T : Addr} {o : Obj} {its : Array Value} (h : AllTup tups) (hc : o.cls = .type "tuple") (hd : ∃ n, o.data = .seq its n) : AllTup ((T, o) :: tups) := fun p hp => by
  rcases List.mem_cons.mp hp with rfl | hp
  · exact ⟨hc, its, hd⟩
  · exact h p hp
theorem cell_led {M : Model} {A : Around} {env : Env} {h₀ : Heap} {L : Addr} {m : Str → Option Value} {x : Str} {v : Value} {c : Addr} {oc : Obj} {cv : Option Value} {pre post : List (Addr × Obj)} {Q : Unit → Shared → Prop} (F : Fr h₀ L s.heap m) (N : News h₀ L s.heap (pre ++ (c, oc) :: post)) (hoc : oc.data = .cell cv)
    (hk : env.scope.kind = .function) (hx : env.kindOf x = some .cell) (hc : env.cells.lookup x = some c) (h1 : ∀ p ∈ pre, ∀ cv, p.2.data ≠ .cell cv) (h2 : ∀ p ∈ post, ∀ cv, p.2.data ≠ .cell cv)
    (h : ∀ h' oc', Fr h₀ L h' m → News h₀ L h' (pre ++ (c, oc') :: post) → oc'.data = .cell (some v) → Q () { s with heap := h' }) : wpAny M A (storeName env x v) Q E s := by
  have hm := N (c, oc) (List.mem_append_right _ (.head _))
  refine wpAny_storeName_cell hk hx hc ⟨oc, hm.1, hoc⟩ fun h' hv hs => ?_
  obtain ⟨oc', ho', hd'⟩ := hv
  refine h h' oc' ⟨F.ns.sameBut hs (Ne.symm hm.2.1), fun b ob e => (hs.2 b (fun q => ?_)).trans (F.keep b ob e), F.above⟩ (fun p hp => ?_) hd'
  · rw [q, hm.2.2] at e; cases e
  · have other : ∀ q ∈ pre ++ (c, oc) :: post, (∀ cv, q.2.data ≠ .cell cv) → h'.get? q.1 = some q.2 ∧ q.1 ≠ L ∧ h₀.get? q.1 = none := fun q hq hne => by
      have := news_ne' N hq (List.mem_append_right _ (.head _)) (fun e => hne cv (by rw [e]; exact hoc))
      exact ⟨(hs.2 _ this).trans (N q hq).1, (N q hq).2⟩
    rcases List.mem_append.mp hp with hp | hp
    · exact other p (List.mem_append_left _ hp) (h1 p hp)
    rcases List.mem_cons.mp hp with rfl | hp
    · exact ⟨ho', hm.2⟩
    · exact other p (List.mem_append_right _ (.tail _ hp)) (h2 p hp)
theorem code_led {M : Model} {A : Around} {env : Env} {h₀ : Heap} {L : Addr} {m : Str → Option Value} {x : Str} {v : Value} {l dx p : Addr} {vs : List Value} {k n : Nat} {hsh : Int} {t : Tok} {oc : Obj} {cv : Option Value} {tups : List (Addr × Obj)} {Q : Unit → Shared → Prop}
    (F : Fr h₀ L s.heap m) (N : News h₀ L s.heap ((l, W.listOf vs.toArray k) :: (dx, dictOf [⟨hsh, .str "_headers" t, .ref l⟩] n) :: (p, instObj 283 dx) :: (L + 1, oc) :: tups)) (hoc : oc.data = .cell cv) (hat : AllTup tups)
    (hk : env.scope.kind = .function) (hx : env.kindOf x = some .cell) (hc : env.cells.lookup x = some (L + 1))
    (h : ∀ h' oc', Fr h₀ L h' m → News h₀ L h' ((l, W.listOf vs.toArray k) :: (dx, dictOf [⟨hsh, .str "_headers" t, .ref l⟩] n) :: (p, instObj 283 dx) :: (L + 1, oc') :: tups) → oc'.data = .cell (some v) → Q () { s with heap := h' }) : wpAny M A (storeName env x v) Q E s := by
  refine cell_led (pre := [(l, W.listOf vs.toArray k), (dx, dictOf [⟨hsh, .str "_headers" t, .ref l⟩] n), (p, instObj 283 dx)]) F N hoc hk hx hc (fun q hq cv => ?_) (fun q hq cv => ?_) fun h' oc' F' N' ho => h h' oc' F' N' ho
  · rcases List.mem_cons.mp hq with rfl | hq
    · simp
    rcases List.mem_cons.mp hq with rfl | hq
    · simp [dictOf]
    rw [List.mem_singleton.mp hq]
    simp
  · obtain ⟨_, its, n, e⟩ := hat q hq
    rw [e]; simp
theorem kwLt0 : True := by
  k_with_none
  trivial
theorem kwLt1 : True := by
  (k_with "storeName" => ((with_reducible rename Fr _ _ _ _ => kF); (with_reducible rename News _ _ _ _ => kN); (k_dflt (refine code_led kF kN (by assumption) (by assumption) rfl rfl rfl (fun h' oc' F' N' od' => ?_))); clear kF kN))
  trivial

theorem add_led (G : Gnd w lo mean mg mb g) {L : Addr} {m : Str → Option Value} {l dx x c : Addr} {oc : Obj} {cv : Option Value} {tups : List (Addr × Obj)} {vs : List Value} {k n : Nat} {hsh : Int} {t : Tok} {name val : Str} {tn tv : Tok}
    (F : Fr g L s.heap m) (N : News g L s.heap ((l, W.listOf vs.toArray k) :: (dx, dictOf [⟨hsh, .str "_headers" t, .ref l⟩] n) :: (x, instObj 283 dx) :: (c, oc) :: tups)) (hoc : oc.data = .cell cv) (hat : AllTup tups)
    (hdp : dp + 2 < recursionLimit) (hu : un + 16 < cLine) (hn : Clean name) (hns : name.length ≤ 1000) (hv : Clean val) (hvs : val.length ≤ 1000) (hvl : vs.length ≤ 1000)
    (hret : ∀ h' tk' T k' o t1 t2, Fr g L h' m → News g L h' ((l, W.listOf (vs ++ [Value.ref T]).toArray k') :: (dx, dictOf [⟨hsh, .str "_headers" t, .ref l⟩] n) :: (x, instObj 283 dx) :: (c, oc) :: (T, o) :: tups) → o.cls = .type "tuple" → (∃ n, o.data = .seq #[.str name t1, .str val t2] n) →
      Q .none { s with heap := h', toks := tk' }) :
    wpAny (model PR w) (AA dp un fr gd) (call (.ref 280) [.ref x, .str name tn, .str val tv]) Q E s := by
  have hl := N _ (.head _)
  have N' : News g L s.heap ((dx, dictOf [⟨hsh, .str "_headers" t, .ref l⟩] n) :: (x, instObj 283 dx) :: (c, oc) :: tups) := fun p hp => N p (.tail _ hp)
  refine add_header_c G F.keep hdp hu (N _ (.tail _ (.tail _ (.head _)))).1 (N _ (.tail _ (.head _))).1 hl.1 hl.2.2 hn (Nat.le_trans hns (by decide +kernel)) hv (Nat.le_trans hvs (by decide +kernel)) hvs hvl fun h' tk' T k' t1 t2 x4 hT hTt hl4 => ?_
  obtain ⟨o, ho, hoc', no, hod⟩ := hTt
  have F4 := x4.fr F (by simpa using hl.2.1.symm) (by simpa using hl.2.2)
  have N4 := x4.news N' fun p hp hm => by
    rw [List.mem_singleton] at hm
    refine news_ne' N (.tail _ hp) (.head _) ?_ hm
    rcases List.mem_cons.mp hp with rfl | hp
    · simp [dictOf]
    rcases List.mem_cons.mp hp with rfl | hp
    · simp
    rcases List.mem_cons.mp hp with rfl | hp
    · intro e; dsimp only at e; rw [e] at hoc; cases hoc
    · intro e; have := (hat p hp).1; rw [e] at this; simp at this
  have NT := news_fresh F (fun p hp => N4 p hp) hT ho
  refine hret h' tk' T k' o t1 t2 F4 (fun p hp => ?_) hoc' ⟨no, hod⟩
  rcases List.mem_cons.mp hp with rfl | hp
  · exact ⟨hl4, hl.2⟩
  rcases List.mem_cons.mp hp with rfl | hp
  · exact N4 _ (.head _)
  rcases List.mem_cons.mp hp with rfl | hp
  · exact N4 _ (.tail _ (.head _))
  rcases List.mem_cons.mp hp with rfl | hp
  · exact N4 _ (.tail _ (.tail _ (.head _)))
  rcases List.mem_cons.mp hp with rfl | hp
  · exact NT _ (.head _)
  · exact N4 _ (.tail _ (.tail _ (.tail _ hp)))

theorem kwLt2 : True := by
  (k_with "call ref" => ((with_reducible rename Fr _ _ _ _ => kF); (with_reducible rename News _ _ _ _ => kN); (k_dflt (refine headers_new (by assumption) kF.keep (by omega) (fun h' tk' x' dx' l' hsh' t' n' k' kx nx nd nl gx gd gl => ?_))); have F' := kx.fr0 kF; have N' := news_fresh kF (news_fresh kF (news_fresh kF (kx.news0 kN) nx gx) nd gd) nl gl; clear kF kN kx nx nd nl gx gd gl))
  trivial
theorem kwLt3 : True := by
  (k_with "call ref" => ((with_reducible rename Fr _ _ _ _ => kF); (with_reducible rename News _ _ _ _ => kN); (k_dflt (refine add_led (by assumption) kF kN (by assumption) (by assumption) (by omega) (by omega) (by assumption) (by first | assumption | (simp only [Str.length, List.length_append, List.length_cons, List.length_nil]; omega)) (by assumption) (by assumption) (by first | assumption | (simp only [List.length_append, List.length_cons, List.length_nil]; omega)) (fun h' tk' T' k' o' t1' t2' F' N' oc' od' => ?_))); have hat' := AllTup.cons (T := T') (by assumption) oc' od'; clear kF kN))
  trivial
theorem kwLt4 : True := by
  (k_with "call ref" => ((with_reducible rename Fr _ _ _ _ => kF); (with_reducible rename News _ _ _ _ => kN); (k_dflt (first | refine isnt_c (by assumption) kF.keep (by omega) (by assumption) (fun h' tk' kx => ?_) | refine iseof_c (by assumption) kF.keep (by omega) (by assumption) (fun h' tk' kx => ?_))); have F' := kx.fr0 kF; have N' := kx.news0 kN; clear kF kN))
  trivial
theorem kwLt5 : True := by
  (k_with "subscriptTail" => ((with_reducible show wpAny _ _ (subscriptTail _ _ (Value.ref _) (Value.int _ _)) _ _ _); (with_reducible rename Fr _ _ _ _ => kF); (refine row_at kF (by with_reducible assumption) (by with_reducible assumption) (by omega) ?_)))
  trivial
theorem kwLt6 : True := by
  (k_with "subscriptTail" => ((with_reducible show wpAny _ _ (subscriptTail _ _ (Value.ref _) (Value.str _ _)) _ _ _); (with_reducible rename Fr _ _ _ _ => kF); (refine exact_item (by assumption) kF.keep (by assumption) (by assumption) ?_); intro _))
  trivial
theorem kwLt7 : True := by
  (k_with "subscriptTail" => ((with_reducible show wpAny _ _ (subscriptTail _ _ (Value.ref _) (Value.int 0 _)) _ _ _); (refine item_list (items := #[_]) (by with_reducible assumption) (by decide) (by decide) (by rfl) ?_)))
  trivial
theorem kwLt8 : True := by
  (k_with "eval ListComp" => refine Mine.Stop.of ?_)
  trivial

theorem kwLt9 : True := by
  (k_with "exec While" => refine Mine.Stop.of ?_)
  trivial

noncomputable def LtM (lr : Addr) (d : Nat) (ts : Tok) (x : Addr) (tail : Str) (tt : Tok) (k : Nat) (tkk : Tok) (u : Str → Option Value) (y : Str) : Option Value :=
  if y = "k" then some (.int ((k : Nat) : Int) tkk) else if y = "tail" then some (.str tail tt) else if y = "table" then some (.ref x) else if y = "signs" then some (.str (sgs d) ts) else if y = "row" then some (.ref lr) else u y
theorem LtM.of {h₀ h : Heap} {L : Addr} {m : Str → Option Value} {lr : Addr} {d : Nat} {ts : Tok} {x : Addr} {tail : Str} {k : Nat} (F : Fr h₀ L h m) (hk : ∃ tkk, m "k" = some (.int ((k : Nat) : Int) tkk)) (ht : ∃ tt, m "tail" = some (.str tail tt)) (hx : m "table" = some (.ref x)) (hs : m "signs" = some (.str (sgs d) ts)) (hr : m "row" = some (.ref lr)) :
    ∃ tt tkk, Fr h₀ L h (LtM lr d ts x tail tt k tkk m) := by
  obtain ⟨tkk, hk⟩ := hk
  obtain ⟨tt, ht⟩ := ht
  refine ⟨tt, tkk, Fr.cong F fun y => ?_⟩
  unfold LtM
  split
  · rename_i e; rw [e, hk]
  split
  · rename_i e; rw [e, ht]
  split
  · rename_i e; rw [e, hx]
  split
  · rename_i e; rw [e, hs]
  split
  · rename_i e; rw [e, hr]
  rfl
structure LtI (h₀ : Heap) (L : Addr) (d : Nat) (es : List (Bool × Nat)) (lr : Addr) (ts : Tok) (x dx l : Addr) (hsh : Int) (t : Tok) (n : Nat) (s : Shared) (k : Nat) (s' : Shared) : Prop where
  ex : ∃ h tk tkk tt u vs kk oc cv tups, s' = { s with heap := h, toks := tk } ∧ Fr h₀ L h (LtM lr d ts x (runE d (es.take k)).1 tt k tkk u) ∧
    News h₀ L h ((l, W.listOf (List.toArray vs) kk) :: (dx, dictOf [⟨hsh, .str "_headers" t, .ref l⟩] n) :: (x, instObj 283 dx) :: (L + 1, oc) :: tups) ∧ oc.data = .cell cv ∧ AllTup tups ∧ PairsIn tups vs (runE d (es.take k)).2
theorem LtI.go {h₀ h : Heap} {L : Addr} {m : Str → Option Value} {d : Nat} {es : List (Bool × Nat)} {lr : Addr} {ts : Tok} {x dx l : Addr} {hsh : Int} {t : Tok} {n kk k : Nat} {oc : Obj} {cv : Option Value} {tk : Nat} {vs : List Value} {tups : List (Addr × Obj)}
    (F : Fr h₀ L h m) (N : News h₀ L h ((l, W.listOf (List.toArray vs) kk) :: (dx, dictOf [⟨hsh, .str "_headers" t, .ref l⟩] n) :: (x, instObj 283 dx) :: (L + 1, oc) :: tups)) (hoc : oc.data = .cell cv) (hat : AllTup tups) (hpi : PairsIn tups vs (runE d (es.take k)).2)
    (hk : ∃ tkk, m "k" = some (.int ((k : Nat) : Int) tkk)) (ht : ∃ tt, m "tail" = some (.str (runE d (es.take k)).1 tt)) (hx : m "table" = some (.ref x)) (hs : m "signs" = some (.str (sgs d) ts)) (hr : m "row" = some (.ref lr)) :
    LtI h₀ L d es lr ts x dx l hsh t n s k { s with heap := h, toks := tk } := by
  obtain ⟨tt, tkk, F'⟩ := LtM.of F hk ht hx hs hr
  exact ⟨h, tk, tkk, tt, m, vs, kk, oc, cv, tups, rfl, F', N, hoc, hat, hpi⟩
theorem lt_start {h₀ h : Heap} {L : Addr} {m : Str → Option Value} {d : Nat} {es : List (Bool × Nat)} {lr : Addr} {ts : Tok} {x dx l : Addr} {hsh : Int} {t : Tok} {n kk : Nat} {oc : Obj} {cv : Option Value} {tk : Nat}
    (F : Fr h₀ L h m) (N : News h₀ L h [(l, W.listOf #[] kk), (dx, dictOf [⟨hsh, .str "_headers" t, .ref l⟩] n), (x, instObj 283 dx), (L + 1, oc)]) (hoc : oc.data = .cell cv)
    (hk : ∃ tkk, m "k" = some (.int ((0 : Nat) : Int) tkk)) (ht : ∃ tt, m "tail" = some (.str "" tt)) (hx : m "table" = some (.ref x)) (hs : m "signs" = some (.str (sgs d) ts)) (hr : m "row" = some (.ref lr)) :
    ∃ x dx l hsh t n, LtI h₀ L d es lr ts x dx l hsh t n s 0 { s with heap := h, toks := tk } :=
  ⟨x, dx, l, hsh, t, n, LtI.go (vs := []) (tups := []) F N hoc (fun _ h => nomatch h) trivial hk ht hx hs hr⟩

theorem beq_codeT {d i j : Nat} : (((7 + d + i : Nat) : Int) == 256 + (d : Int) + (j : Int) - 249) = decide (i = j) := by
  by_cases h : i = j
  · subst h; rw [decide_eq_true rfl]; exact beq_iff_eq.mpr (by omega)
  · rw [decide_eq_false h]; exact beq_eq_false_iff_ne.mpr (by omega)
theorem beq_codeF {d i j : Nat} : (((7 + d + i : Nat) : Int) == 236 + (d : Int) + (j : Int) - 229) = decide (i = j) := by
  by_cases h : i = j
  · subst h; rw [decide_eq_true rfl]; exact beq_iff_eq.mpr (by omega)
  · rw [decide_eq_false h]; exact beq_eq_false_iff_ne.mpr (by omega)
theorem runE_snoc {d : Nat} {es : List (Bool × Nat)} {e : Bool × Nat} : runE d (es ++ [e]) = stepE d (runE d es) e := by simp [runE, List.foldl_append]
theorem runE_tail {d : Nat} {es : List (Bool × Nat)} : (∀ e ∈ es, e.2 < 6) → (runE d es).1 = "" ∨ ∃ j < 6, (runE d es).1 = sg d j := by
  suffices h : ∀ (es : List (Bool × Nat)) (st : Str × List (Str × Str)), (st.1 = "" ∨ ∃ j < 6, st.1 = sg d j) → (∀ e ∈ es, e.2 < 6) → ((es.foldl (stepE d) st).1 = "" ∨ ∃ j < 6, (es.foldl (stepE d) st).1 = sg d j) from h es ("", []) (.inl rfl)
  intro es
  induction es with
  | nil => intro st h _; exact h
  | cons e es ih =>
    intro st h he
    refine ih _ ?_ fun e' he' => he e' (.tail _ he')
    unfold stepE
    split
    · exact .inr ⟨e.2, he e (.head _), rfl⟩
    · exact h
theorem runE_len {d : Nat} {es : List (Bool × Nat)} : (runE d es).2.length ≤ 2 * es.length := by
  suffices h : ∀ (es : List (Bool × Nat)) (st : Str × List (Str × Str)), (es.foldl (stepE d) st).2.length ≤ st.2.length + 2 * es.length from by simpa [runE] using h es ("", [])
  intro es
  induction es with
  | nil => intro st; simp
  | cons e es ih =>
    intro st
    refine Nat.le_trans (ih _) ?_
    unfold stepE
    split <;> simp <;> omega
theorem tail_facts {d : Nat} {t : Str} (hd : d < 15) (h : t = "" ∨ ∃ j < 6, t = sg d j) : Clean t ∧ Clean (Str.ofString "From" ++ t) ∧ t.length ≤ 1000 ∧ (Str.ofString "From" ++ t).length ≤ 1000 := by
  rcases h with rfl | ⟨j, hj, rfl⟩
  · refine ⟨?_, ?_, by decide +kernel, by decide +kernel⟩
    · show ∀ c ∈ (Str.ofString "").cps, 32 ≤ c ∧ c < 127
      decide +kernel
    · show ∀ c ∈ (Str.ofString "From" ++ Str.ofString "").cps, 32 ≤ c ∧ c < 127
      decide +kernel
  · refine ⟨sg_clean d hd j hj, fr_clean d hd j hj, ?_, ?_⟩
    · show 1 ≤ 1000; omega
    · show 5 ≤ 1000; omega
theorem law_table_c (G : Gnd w lo mean mg mb g) (Bs : ∀ b o, g.get? b = some o → s.heap.get? b = some o) (hdp : dp + 6 < recursionLimit) (hun : un + 60 < cLine)
    {lr : Addr} {rv : List Value} {d : Nat} {ts : Tok} {es : List (Bool × Nat)} (hd : d < 15) (hrow : s.heap.IsList lr rv.toArray) (hes : ∀ e ∈ es, e.2 < 6) (hlen : es.length ≤ 30)
    (hv : ∀ (k : Nat) (e : Bool × Nat), es[k]? = some e → ∃ t, rv[k]? = some (Value.int (valE d e) t)) (hz : ∃ t, rv[es.length]? = some (Value.int 0 t))
    (hret : ∀ h' tk' x dx l hsh t n vs k, Ext s.heap h' [] → s.heap.get? x = none → s.heap.get? dx = none → s.heap.get? l = none → h'.get? x = some (instObj 283 dx) → h'.get? dx = some (dictOf [⟨hsh, .str "_headers" t, .ref l⟩] n) → h'.get? l = some (W.listOf (List.toArray vs) k) →
      PairsAt h' vs (runE d es).2 → Q (.ref x) { s with heap := h', toks := tk' }) :
    wpAny (model PR w) (AA dp un fr gd) (call (.ref 292) [.ref lr, .str (sgs d) ts]) Q E s := by
  refine wpAny_call ?_
  refine enterCC (binds := [("row", .ref lr), ("signs", .str (sgs d) ts)]) [] G Bs (by simp) (by k_is) (by k_is) (by omega) (BindsTo.of_eq rfl) rfl (by decide) ?_ rfl rfl rfl
  intro h₀ L h₁ tk0 cells G₀ hs₀ hk₀ hW F N Y hcf hL hk₁
  have X := G₀.X
  have T := G₀.T
  k_cells Y
  have hrow0 : h₀.IsList lr rv.toArray := hrow.at fun o e => hk₀ _ _ e (by simp)
  k_steps
  (with_reducible rename Fr _ _ _ _ => F1)
  (with_reducible rename News _ _ _ _ => N1)
  obtain ⟨x, dx, l, hsh, t, n, I0⟩ := lt_start (d := d) (es := es) (lr := lr) (ts := ts) (s := s) (tk := _) F1 N1 (by assumption) ⟨_, rfl⟩ ⟨_, rfl⟩ rfl rfl rfl
  refine Stop.go (while_rule (fun n' s' => n' ≤ es.length ∧ LtI h₀ L d es lr ts x dx l hsh t n s (es.length - n') s') (fun n' s' => (0 < n' ∧ n' ≤ es.length) ∧ LtI h₀ L d es lr ts x dx l hsh t n s (es.length - n') s') (fun s' => LtI h₀ L d es lr ts x dx l hsh t n s es.length s') ?_ ?_ ?_ es.length ⟨Nat.le_refl _, by rw [Nat.sub_self]; exact I0⟩)
  · clear F1 N1 I0
    rintro n' s' ⟨hn, h2, tk2, tkk, tt, su, vs2, kk, oc, cv, tups, rfl, F2, N2, hoc, hat, hpi⟩
    unfold LtM at F2
    by_cases hn0 : n' = 0
    · subst hn0
      rw [Nat.sub_zero] at F2 hpi
      obtain ⟨tz, hz⟩ := hz
      have hb0 : decide ((0 : Int) = 0) = true := rfl
      k_steps
      exact TestW.no (LtI.go (by with_reducible assumption) (by with_reducible assumption) hoc hat hpi ⟨_, rfl⟩ ⟨_, rfl⟩ rfl rfl rfl)
    · generalize hk : es.length - n' = k at F2 hpi
      have hkl : k < es.length := by omega
      obtain ⟨te, hve⟩ := hv k _ (List.getElem?_eq_getElem hkl)
      have hb0 : decide (valE d es[k] = 0) = false := by
        simp only [valE]
        split <;> (apply decide_eq_false; omega)
      k_steps
      refine TestW.yes ⟨⟨by omega, hn⟩, ?_⟩
      exact LtI.go (by with_reducible assumption) (by with_reducible assumption) hoc hat hpi ⟨_, rfl⟩ ⟨_, rfl⟩ rfl rfl rfl
  · clear F1 N1 I0
    rintro n' s' ⟨⟨hn0, hn⟩, h2, tk2, tkk, tt, u, vs2, kk, oc, cv, tups, rfl, F2, N2, hoc, hat, hpi⟩
    unfold LtM at F2
    have hkl : es.length - n' < es.length := by omega
    have hk1 : es.length - (n' - 1) = es.length - n' + 1 := by omega
    generalize hk : es.length - n' = k at F2 hpi hkl hk1
    obtain ⟨te, hve⟩ := hv k _ (List.getElem?_eq_getElem hkl)
    have hj := hes _ (List.getElem_mem hkl)
    have htk : es.take (k + 1) = es.take k ++ [es[k]] := (List.take_append_getElem hkl).symm
    generalize es[k] = e at hve hj htk
    obtain ⟨b, j⟩ := e
    dsimp only at hj
    cases b with
    | true =>
      have hve' : rv[k]? = some (Value.int (256 + (d : Int) + (j : Int)) te) := by simpa [valE] using hve
      have hnt : decide (256 ≤ 256 + (d : Int) + (j : Int)) = true := by apply decide_eq_true; omega
      clear hve
      k_steps
      (with_reducible rename Fr _ _ _ _ => F3)
      (with_reducible rename News _ _ _ _ => N3)
      refine Stop.go (comp_list (cl := [("code", L + 1)]) (pS (sg d j)) (fun v y => y = v) (by with_unfolding_all rfl) (by decide) rfl (by decide) rfl (fun _ => rfl) ?_)
      k_steps
      refine CompIter.str rfl F3 N3 (show 6 ≤ sizeLine by decide +kernel) ?_ ?_ ?_
      · intro C i v s₃ m₃ hv F4 N4 hC hm3 k3
        obtain ⟨hi, uu, rfl⟩ := sign_at hd hv
        refine one_test ?_
        clear F3 N3
        k_steps
        exact TestPost.go (by rw [beq_codeT]; exact (sg_beq hd hi hj).symm) fun _ _ e => e
      · intro C i v s₃ m₃ hv hpv F4 N4 hC hm3 k3
        clear F3 N3
        k_steps
        exact EltPost.go rfl fun _ _ e => e
      · intro D h' tk' ys vs4 F4 N4 hD hpl hlv hPv hF k3
        obtain ⟨uu, hfs⟩ := filter_sign hd hj hlv hPv
        rw [hfs] at hF
        have hys := paired_eq hF
        have hDl : h'.IsList D #[.str (sg d j) uu] := by
          have := hpl.isList
          rwa [show ys = #[.str (sg d j) uu] from Array.toList_inj.mp (by rw [hys])] at this
        clear F3 N3
        k_steps
        dsimp only
        refine ⟨n' - 1, by omega, by omega, ?_⟩
        rw [hk1]
        exact LtI.go (by with_reducible assumption) (by with_reducible assumption) (by with_reducible assumption) hat (by rw [htk, runE_snoc]; exact hpi) ⟨_, rfl⟩ ⟨uu, by rw [htk, runE_snoc]; rfl⟩ rfl rfl rfl
    | false =>
      have hve' : rv[k]? = some (Value.int (236 + (d : Int) + (j : Int)) te) := by simpa [valE] using hve
      have hnt : decide (256 ≤ 236 + (d : Int) + (j : Int)) = false := by apply decide_eq_false; omega
      clear hve
      obtain ⟨ct, cft, lt1, lft⟩ := tail_facts hd (runE_tail (d := d) (es := es.take k) fun e he => hes e (List.mem_of_mem_take he))
      have cs := sg_clean d hd j hj
      have cto : Clean (Str.ofString "To" ++ sg d j) := to_clean d hd j hj
      have lto : (Str.ofString "To" ++ sg d j).length ≤ 1000 := by show 3 ≤ 1000; omega
      have lsg : (sg d j).length ≤ 1000 := by show 1 ≤ 1000; omega
      have hvl : vs2.length ≤ 900 := by
        rw [hpi.length]
        refine Nat.le_trans runE_len ?_
        rw [List.length_take]; omega
      have hvl' : vs2.length ≤ 1000 := by omega
      k_steps
      (with_reducible rename Fr _ _ _ _ => F3)
      (with_reducible rename News _ _ _ _ => N3)
      refine Stop.go (comp_list (cl := [("code", L + 1)]) (pS (sg d j)) (fun v y => y = v) (by with_unfolding_all rfl) (by decide) rfl (by decide) rfl (fun _ => rfl) ?_)
      k_steps
      refine CompIter.str rfl F3 N3 (show 6 ≤ sizeLine by decide +kernel) ?_ ?_ ?_
      · intro C i v s₃ m₃ hv F4 N4 hC hm3 k3
        obtain ⟨hi, uu, rfl⟩ := sign_at hd hv
        refine one_test ?_
        clear F3 N3
        k_steps
        exact TestPost.go (by rw [beq_codeF]; exact (sg_beq hd hi hj).symm) fun _ _ e => e
      · intro C i v s₃ m₃ hv hpv F4 N4 hC hm3 k3
        clear F3 N3
        k_steps
        exact EltPost.go rfl fun _ _ e => e
      · intro D h' tk' ys vs4 F4 N4 hD hpl hlv hPv hF k3
        obtain ⟨uu, hfs⟩ := filter_sign hd hj hlv hPv
        rw [hfs] at hF
        have hys := paired_eq hF
        have hDl : h'.IsList D #[.str (sg d j) uu] := by
          have := hpl.isList
          rwa [show ys = #[.str (sg d j) uu] from Array.toList_inj.mp (by rw [hys])] at this
        clear F3 N3
        k_steps
        dsimp only
        refine ⟨n' - 1, by omega, by omega, ?_⟩
        rw [hk1]
        exact LtI.go (by with_reducible assumption) (by with_reducible assumption) (by with_reducible assumption) (by with_reducible assumption)
          (by
            rw [htk, runE_snoc]
            exact PairsIn.snoc ⟨_, _, _, _, rfl, .head _, by assumption, by assumption⟩ (PairsIn.snoc ⟨_, _, _, _, rfl, .tail _ (.head _), by assumption, by assumption⟩ (hpi.mono fun p hp => .tail _ (.tail _ hp))))
          ⟨_, rfl⟩ ⟨tt, by rw [htk, runE_snoc]; rfl⟩ rfl rfl rfl
  · clear F1 N1 I0
    rintro s' ⟨h2, tk2, tkk, tt, u, vs2, kk, oc, cv, tups, rfl, F2, N2, hoc, hat, hpi⟩
    unfold LtM at F2
    dsimp only
    k_steps
    dsimp only
    have fresh : ∀ {a o}, (a, o) ∈ (l, W.listOf (List.toArray vs2) kk) :: (dx, dictOf [⟨hsh, .str "_headers" t, .ref l⟩] n) :: (x, instObj 283 dx) :: (L + 1, oc) :: tups → s.heap.get? a = none := fun {a o} hm => by
      refine Option.eq_none_iff_forall_ne_some.mpr fun o' q => ?_
      have e := hk₀ _ o' q (by simp)
      rw [(N2 _ hm).2.2] at e; cases e
    rw [List.take_length] at hpi
    exact hret _ _ x dx l hsh t n vs2 kk (fun b o e hb => F2.keep b o (hk₀ b o e hb)) (fresh (.tail _ (.tail _ (.head _)))) (fresh (.tail _ (.head _))) (fresh (.head _)) (N2 _ (.tail _ (.tail _ (.head _)))).1 (N2 _ (.tail _ (.head _))).1 (N2 _ (.head _)).1
      (PairsIn.at (pre := [(l, W.listOf (List.toArray vs2) kk), (dx, dictOf [⟨hsh, .str "_headers" t, .ref l⟩] n), (x, instObj 283 dx), (L + 1, oc)]) N2 hpi)
end
end Mine
end
section
open PySem PySem.W PyProof.Rows PySem.Calls
set_option maxRecDepth 100000
set_option maxHeartbeats 2000000
namespace Mine
/-! a list comprehension over a text, its target a cell -/
noncomputable abbrev cellObj : Obj := { cls := .type "cell", data := .cell none }
section
variable {prog : Program} {w : World} {A : Around} {E : Value → Shared → Prop} {s s₁ : Shared} {env : Env} {h₀ : Heap} {L : Addr} {m : Str → Option Value} {news : List (Addr × Obj)}

theorem newCell {M : Model} {scope : Scope} {globals : Addr} {cl : List (Str × Addr)} {qual : Str} {x : Str} {Q : Env → Shared → Prop} (hc : ∀ n, cellsFrom n scope.names cl = (x, n) :: cl) (hp : ∀ h, pushCells h scope.names = h.push cellObj)
    (h : Q (newEnv scope s.heap.objs.size globals ((x, s.heap.objs.size + 1) :: cl) qual none .none (some env) builtinsNs) { s with heap := (s.heap.push { cls := .type "dict", data := .dict #[] }).push cellObj }) :
    wpAny M A (newFunctionEnv scope globals cl [] qual none .none (some env)) Q E s := by
  simp only [newFunctionEnv, Option.isSome_some, if_true]
  refine wpAny_bind (wpAny_alloc ?_)
  refine wpAny_bind (wpAny_layCells _ (fun name kind cells => by cases hkc : kind == NameKind.cell <;> simp [hkc]) _ _ _ _ ?_)
  rw [hc, hp]
  refine wpAny_bind (wpAny_pure (wpAny_pure ?_))
  rw [show ({ s with heap := s.heap.push { cls := .type "dict", data := .dict #[] } } : Shared).heap.objs.size = s.heap.objs.size + 1 from Heap.size_push ..]
  exact h

noncomputable def CellG (prog : Program) (w : World) (A : Around) (E : Value → Shared → Prop) (env : Env) (elt : Expr) (x : Str) (ifs : List Expr) (scope : Scope) (cl : List (Str × Addr)) (p : Value → Bool) (F : Value → Value → Prop) (h₀ : Heap) (L : Addr) (m : Str → Option Value) (news : List (Addr × Obj)) (n : Nat) (P : Nat → Value → Prop) (Q : Value → Shared → Prop) (xv : Value) (s₁ : Shared) : Prop :=
  (∀ Q' : Value → Shared → Prop, (∀ oI St, Walks prog w A s₁.heap.objs.size [s₁.heap.objs.size] [s₁.heap.objs.size] n P St → St 0 (s₁.heap.push oI) → Q' (.ref s₁.heap.objs.size) { s₁ with heap := s₁.heap.push oI }) → wpAny (model prog w) A (pyIter xv) Q' E s₁) ∧ Fr h₀ L s₁.heap m ∧ News h₀ L s₁.heap news ∧
  (∀ C i v s₃, P i v → Fr h₀ L s₃.heap m → News h₀ L s₃.heap news → s₃.heap.IsCell (C + 1) (some v) → s₁.heap.get? (C + 1) = none → (∀ b o, s₁.heap.get? b = some o → s₃.heap.get? b = some o) →
      wpAny (model prog w) A (forIn ifs true fun c r => if r = true then do let ok ← isTrue c (compEnvC scope ((x, C + 1) :: cl) C env) (eval c (compEnvC scope ((x, C + 1) :: cl) C env)); pure (ForInStep.yield ok) else pure (ForInStep.yield r)) (TestPost p v s₃) (fun _ _ => False) s₃) ∧
  (∀ C i v s₃, P i v → p v = true → Fr h₀ L s₃.heap m → News h₀ L s₃.heap news → s₃.heap.IsCell (C + 1) (some v) → s₁.heap.get? (C + 1) = none → (∀ b o, s₁.heap.get? b = some o → s₃.heap.get? b = some o) →
      wpAny (model prog w) A (eval elt (compEnvC scope ((x, C + 1) :: cl) C env)) (EltPost F v s₃) (fun _ _ => False) s₃) ∧
  (∀ D h' tk ys (vs : List Value), Fr h₀ L h' m → News h₀ L h' news → s₁.heap.get? D = none → h'.PlainList D ys → vs.length = n → (∀ j v, vs[j]? = some v → P j v) → Paired F (vs.filter p) ys.toList →
      (∀ b o, s₁.heap.get? b = some o → h'.get? b = some o) → Q (.ref D) { s₁ with heap := h', toks := tk })

theorem comp_cellG {elt iter : Expr} {x : Str} {px : Pos} {ifs : List Expr} {scope : Scope} {cl : List (Str × Addr)} {pos : Pos} {Q : Value → Shared → Prop} {n : Nat} {P : Nat → Value → Prop} (p : Value → Bool) (F : Value → Value → Prop) (hh : A.handled = none) (hy : n ≤ 1000)
    (hclos : closureFor scope env = pure cl) (hkind : scope.kind = .function) (hnames : ∀ y ∈ scope.names, y.2 = .local → scope.names.lookup y.1 = some .local)
    (hc : ∀ n, cellsFrom n scope.names cl = (x, n) :: cl) (hp : ∀ h, pushCells h scope.names = h.push cellObj) (hxc : (relabel scope env).names.lookup x = some .cell)
    (hs : ∀ x, foldedSetIterable iter env x = pure x)
    (h : wpAny (model prog w) A (eval iter env) (CellG prog w A E env elt x ifs scope cl p F h₀ L m news n P Q) E s) :
    wpAny (model prog w) A (eval (.ListComp elt [⟨.Name x px, iter, ifs, 0⟩] scope pos) env) Q E s := by
  rw [eval_ListComp]
  refine wpAny_comprehension_free (use := none) rfl hs hclos hkind hnames (wpAny_mono h (fun xv s₁ h₁ => ?_) fun _ _ e => e)
  obtain ⟨hit, F₁, N₁, tests, elts, done⟩ := h₁
  refine hit _ fun oI St W hst => ?_
  refine wpAny_newObj_type (newCell hc hp ?_)
  dsimp only
  generalize hI : s₁.heap.objs.size = I at W hst ⊢
  have hD : (s₁.heap.push oI).objs.size = I + 1 := by rw [Heap.size_push, hI]
  rw [hD]
  have hC : ((s₁.heap.push oI).push { cls := .type "list", dict := none, data := .seq ([] : List Value).toArray }).objs.size = I + 2 := by rw [Heap.size_push, hD]
  rw [hC]
  -- the four new objects: I iterator, I+1 the list, I+2 the names, I+3 the cell
  generalize hH : (((s₁.heap.push oI).push { cls := .type "list", dict := none, data := .seq ([] : List Value).toArray }).push { cls := .type "dict", data := .dict #[] }).push cellObj = H
  have hI1 : ∀ b o, s₁.heap.get? b = some o → b < I := fun b o e => by rw [← hI]; exact Heap.lt_size e
  have old : ∀ b o, s₁.heap.get? b = some o → H.get? b = some o := fun b o e => by
    rw [← hH]; exact Heap.get?_push_of_some _ (Heap.get?_push_of_some _ (Heap.get?_push_of_some _ (Heap.get?_push_of_some _ e)))
  have gI : ∀ o, (s₁.heap.push oI).get? I = some o → H.get? I = some o := fun o e => by
    rw [← hH]; exact Heap.get?_push_of_some _ (Heap.get?_push_of_some _ (Heap.get?_push_of_some _ e))
  have gD : H.get? (I + 1) = some { cls := .type "list", dict := none, data := .seq ([] : List Value).toArray } := by
    have := Heap.get?_push_size (h := s₁.heap.push oI) (o := { cls := .type "list", dict := none, data := .seq ([] : List Value).toArray }) rfl
    rw [hD] at this
    rw [← hH]; exact Heap.get?_push_of_some _ (Heap.get?_push_of_some _ this)
  have gC : H.get? (I + 2) = some { cls := .type "dict", data := .dict #[] } := by
    have := Heap.get?_push_size (h := (s₁.heap.push oI).push { cls := .type "list", dict := none, data := .seq ([] : List Value).toArray }) (o := { cls := .type "dict", data := .dict #[] }) rfl
    rw [hC] at this
    rw [← hH]; exact Heap.get?_push_of_some _ this
  have gK : H.get? (I + 3) = some cellObj := by
    have := Heap.get?_push_size (h := ((s₁.heap.push oI).push { cls := .type "list", dict := none, data := .seq ([] : List Value).toArray }).push { cls := .type "dict", data := .dict #[] }) (o := cellObj) rfl
    rw [Heap.size_push, hC] at this
    rw [← hH]; exact this
  have none3 : s₁.heap.get? (I + 2 + 1) = none := Heap.get?_none_of_le (by rw [hI]; omega)
  have n1 : s₁.heap.get? (I + 1) = none := Heap.get?_none_of_le (by rw [hI]; omega)
  have n2 : s₁.heap.get? (I + 2) = none := Heap.get?_none_of_le (by rw [hI]; omega)
  have hst0 : St 0 H := W.frame 0 _ _ hst fun b hb o e => by rw [List.mem_singleton.mp hb] at e ⊢; exact gI o e
  have loop : codeAny (model prog w) A (.compLoop (.ListComp elt [⟨.Name x px, iter, ifs, 0⟩] scope pos) 0 (.ref I) (.ref (I + 1)) (compEnvC scope ((x, I + 2 + 1) :: cl) (I + 2) env))
      (compPost (model prog w) A E none Q (.ref (I + 1)) (I + 2)) { s₁ with heap := H } := by
    refine codeAny_compLoop_tests
      (fun k s' => ∃ h' tk ys, ∃ vs : List Value, ∃ cv, s' = { s₁ with heap := h', toks := tk } ∧ St vs.length h' ∧ h'.PlainList (I + 1) ys ∧ h'.Ns (I + 2) (fun _ => none) ∧ h'.IsCell (I + 3) cv ∧ (∀ j v, vs[j]? = some v → P j v) ∧
        Paired F (vs.filter p) ys.toList ∧ vs.length ≤ n ∧ k = n + 1 - vs.length ∧ (∀ b o, s₁.heap.get? b = some o → h'.get? b = some o)) ?_ (n + 1)
      ⟨H, s₁.toks, #[], [], none, rfl, hst0, ⟨_, gD⟩, ⟨_, #[], 0, gC, rfl, (fun _ he => by simp at he), fun _ => rfl⟩, ⟨_, gK, rfl⟩, (by simp), (by simpa using Paired.nil), Nat.zero_le _, rfl, old⟩
    rintro k s' ⟨h', tk, ys, vs, cv, rfl, hst', hacc, hns, hcell, hP, hF, hi, rfl, hk⟩
    by_cases hlt : vs.length < n
    · refine W.item vs.length _ _ _ hlt hst' fun v h₁ tk₁ hPv hst₁ hk₁ => ?_
      refine wpAny_assign_Name (wpAny_storeName_cell (c := I + 3) (by simp [compEnvC, relabel, hkind]) hxc (by simp [compEnvC]) (show h₁.IsCell (I + 3) cv from let ⟨o, ho, hd⟩ := hcell; ⟨o, hk₁ _ o (by simp) ho, hd⟩) fun h₂ hcell₂ hs₂ => ?_)
      have up₂ : ∀ b o, s₁.heap.get? b = some o → h₂.get? b = some o := fun b o e => (hs₂.2 b (by have := hI1 b o e; intro q; rw [q] at this; exact absurd this (by show ¬ (I + 3 < I); omega))).trans (hk₁ b o (by have := hI1 b o e; intro q; rw [List.mem_singleton.mp q] at this; exact absurd this (Nat.lt_irrefl _)) (hk b o e))
      have hst₂ : St (vs.length + 1) h₂ := W.frame _ _ _ hst₁ fun b hb o e => by rw [List.mem_singleton.mp hb] at e ⊢; exact (hs₂.2 I (by show I ≠ I + 3; omega)).trans e
      have hacc₂ : h₂.PlainList (I + 1) ys := hacc.at fun o e => (hs₂.2 _ (by show I + 1 ≠ I + 3; omega)).trans (hk₁ _ o (by simp) e)
      have hns₂ : h₂.Ns (I + 2) (fun _ => none) := (hns.at' fun o e => hk₁ _ o (by simp) e).sameBut hs₂ (by show I + 2 ≠ I + 3; omega)
      refine wpAny_mono (E := fun _ _ => False) (tests (I + 2) vs.length v _ hPv (F₁.keeps up₂) (N₁.grown up₂) hcell₂ none3 up₂) (fun ok s₃ h₃ => ?_) fun _ _ e => e.elim
      obtain ⟨rfl, h₃, tk₃, rfl, hk₃⟩ := h₃
      have up₃ : ∀ b o, s₁.heap.get? b = some o → h₃.get? b = some o := fun b o e => hk₃ b o (up₂ b o e)
      have hst₃ : St (vs.length + 1) h₃ := W.frame _ _ _ hst₂ fun b _ o e => hk₃ b o e
      have hacc₃ : h₃.PlainList (I + 1) ys := hacc₂.at fun o e => hk₃ _ o e
      have hns₃ := hns₂.keeps hk₃
      have hcell₃ := hcell₂.keeps hk₃
      have hP' : ∀ j u, (vs ++ [v])[j]? = some u → P j u := fun j u hj => by
        rcases Nat.lt_trichotomy j vs.length with h | h | h
        · exact hP j u (by rwa [List.getElem?_append_left h] at hj)
        · subst h; simp at hj; subst hj; exact hPv
        · have hnone : (vs ++ [v])[j]? = none := List.getElem?_eq_none (by rw [List.length_append, List.length_singleton]; omega)
          rw [hnone] at hj; cases hj
      cases hpv : p v with
      | false =>
        simp only [Bool.false_eq_true, if_false]
        refine ⟨n + 1 - (vs.length + 1), by omega, h₃, tk₃, ys, vs ++ [v], _, rfl, by simpa using hst₃, hacc₃, hns₃, hcell₃, hP', ?_, (by rw [List.length_append, List.length_singleton]; exact hlt), (by rw [List.length_append, List.length_singleton]), up₃⟩
        rw [List.filter_append]; simpa [hpv] using hF
      | true =>
        simp only [if_true]
        refine wpAny_mono (E := fun _ _ => False) (elts (I + 2) vs.length v _ hPv hpv (F₁.keeps up₃) (N₁.grown up₃) hcell₃ none3 up₃) (fun z s₄ h₄ => ?_) fun _ _ e => e.elim
        obtain ⟨hFz, h₄, tk₄, rfl, hk₄⟩ := h₄
        have hys : ys.size ≤ sizeLine := by
          have e1 := hF.length
          have e2 : (vs.filter p).length ≤ vs.length := List.length_filter_le _ _
          have e4 : ys.toList.length = ys.size := by simp
          exact Nat.le_trans (by omega) (show 1000 ≤ sizeLine by decide +kernel)
        refine wpAny_list_append_plain (hsz := hys) (hacc₃.at fun o e => hk₄ _ o e) fun h₅ hl₅ hs₅ => ?_
        refine ⟨n + 1 - (vs.length + 1), by omega, h₅, tk₄, ys.push z, vs ++ [v], some v, rfl, ?_, hl₅, (hns₃.keeps hk₄).sameBut hs₅ (by show I + 2 ≠ I + 1; omega), ?_, hP', ?_, (by rw [List.length_append, List.length_singleton]; exact hlt), (by rw [List.length_append, List.length_singleton]), fun b o e => ?_⟩
        · have := W.frame _ _ h₅ hst₃ fun b hb o e => (by rw [List.mem_singleton.mp hb] at e ⊢; exact (hs₅.2 I (by show I ≠ I + 1; omega)).trans (hk₄ _ o e))
          simpa using this
        · obtain ⟨o, ho, hd⟩ := hcell₃
          exact ⟨o, (hs₅.2 _ (by show I + 3 ≠ I + 1; omega)).trans (hk₄ _ o ho), hd⟩
        · rw [List.filter_append]; simpa [hpv] using Paired.snoc hF hFz
        · exact (hs₅.2 b (by have := hI1 b o e; intro q; rw [q] at this; exact absurd this (by show ¬ (I + 1 < I); omega))).trans (hk₄ b o (up₃ b o e))
    · have hin : vs.length = n := by omega
      refine W.done _ _ _ (hin ▸ hst') fun h₁ tk₁ hk₁ => ?_
      refine ⟨_, hns.at' fun o e => hk₁ _ o (by simp) e, fun h'' hs'' => ?_⟩
      have up : ∀ b o, s₁.heap.get? b = some o → h''.get? b = some o := fun b o e => (hs''.2 b (by have := hI1 b o e; intro q; rw [q] at this; exact absurd this (by show ¬ (I + 2 < I); omega))).trans (hk₁ b o (by have := hI1 b o e; intro q; rw [List.mem_singleton.mp q] at this; exact absurd this (Nat.lt_irrefl _)) (hk b o e))
      exact done (I + 1) h'' tk₁ ys vs (F₁.keeps up) (N₁.grown up) n1 (hacc.at fun o e => (hs''.2 _ (by show I + 1 ≠ I + 2; omega)).trans (hk₁ _ o (by simp) e)) hin hP hF up
  exact codeAny_compStart_list loop (W.self 0 _ _ _ hst0 loop)
noncomputable def CellComp (prog : Program) (w : World) (A : Around) (env : Env) (elt : Expr) (x : Str) (ifs : List Expr) (scope : Scope) (cl : List (Str × Addr)) (p : Value → Bool) (F : Value → Value → Prop) (h₀ : Heap) (L : Addr) (m : Str → Option Value) (news : List (Addr × Obj)) (y : Str) (Q : Value → Shared → Prop) (xv : Value) (s₁ : Shared) : Prop :=
  (∃ t, xv = .str y t) ∧ Fr h₀ L s₁.heap m ∧ News h₀ L s₁.heap news ∧
  (∀ C i v s₃, SignAt y i v → Fr h₀ L s₃.heap m → News h₀ L s₃.heap news → s₃.heap.IsCell (C + 1) (some v) → s₁.heap.get? (C + 1) = none → (∀ b o, s₁.heap.get? b = some o → s₃.heap.get? b = some o) →
      wpAny (model prog w) A (forIn ifs true fun c r => if r = true then do let ok ← isTrue c (compEnvC scope ((x, C + 1) :: cl) C env) (eval c (compEnvC scope ((x, C + 1) :: cl) C env)); pure (ForInStep.yield ok) else pure (ForInStep.yield r)) (TestPost p v s₃) (fun _ _ => False) s₃) ∧
  (∀ C i v s₃, SignAt y i v → p v = true → Fr h₀ L s₃.heap m → News h₀ L s₃.heap news → s₃.heap.IsCell (C + 1) (some v) → s₁.heap.get? (C + 1) = none → (∀ b o, s₁.heap.get? b = some o → s₃.heap.get? b = some o) →
      wpAny (model prog w) A (eval elt (compEnvC scope ((x, C + 1) :: cl) C env)) (EltPost F v s₃) (fun _ _ => False) s₃) ∧
  (∀ D h' tk ys (vs : List Value), Fr h₀ L h' m → News h₀ L h' news → s₁.heap.get? D = none → h'.PlainList D ys → vs.length = y.cps.size → (∀ j v, vs[j]? = some v → SignAt y j v) → Paired F (vs.filter p) ys.toList →
      (∀ b o, s₁.heap.get? b = some o → h'.get? b = some o) → Q (.ref D) { s₁ with heap := h', toks := tk })

theorem comp_cell {elt iter : Expr} {x : Str} {px : Pos} {ifs : List Expr} {scope : Scope} {cl : List (Str × Addr)} {pos : Pos} {Q : Value → Shared → Prop} {y : Str} (p : Value → Bool) (F : Value → Value → Prop) (hh : A.handled = none) (hy : y.cps.size ≤ 1000)
    (hclos : closureFor scope env = pure cl) (hkind : scope.kind = .function) (hnames : ∀ y ∈ scope.names, y.2 = .local → scope.names.lookup y.1 = some .local)
    (hc : ∀ n, cellsFrom n scope.names cl = (x, n) :: cl) (hp : ∀ h, pushCells h scope.names = h.push cellObj) (hxc : (relabel scope env).names.lookup x = some .cell)
    (hs : ∀ x, foldedSetIterable iter env x = pure x)
    (h : wpAny (model prog w) A (eval iter env) (CellComp prog w A env elt x ifs scope cl p F h₀ L m news y Q) E s) :
    wpAny (model prog w) A (eval (.ListComp elt [⟨.Name x px, iter, ifs, 0⟩] scope pos) env) Q E s := by
  exact comp_cellG p F hh hy hclos hkind hnames hc hp hxc hs (wpAny_mono h (fun xv s₁ h₁ => by
    obtain ⟨⟨t, rfl⟩, r⟩ := h₁
    exact ⟨fun Q' k => wpAny_pyIter_str fun oI St W₀ hst => k oI St (W₀ A hh) hst, r⟩) fun _ _ e => e)
end
end Mine
end
section
open PySem PySem.W PyProof.Rows PySem.Calls
set_option maxRecDepth 100000
set_option maxHeartbeats 2000000
namespace Mine
theorem slot_rev_init : Slot "reversed" "__init__" "object.__init__" := .of (owner := "object") (n := "__init__") (by rw [typeLookup_type, builtinLookup_eq_fast]; kernel_rfl) (by decide +kernel) (by decide +kernel) (by decide +kernel)
  (by first | exact .inl (by decide +kernel) | exact .inr (by decide +kernel)) (by rw [isSubtype_type]; kernel_rfl)
theorem slot_rev_next : Slot "reversed" "__next__" "reversed.__next__" := .of (owner := "reversed") (n := "__next__") (by rw [typeLookup_type, builtinLookup_eq_fast]; kernel_rfl) (by decide +kernel) (by decide +kernel) (by decide +kernel)
  (by first | exact .inl (by decide +kernel) | exact .inr (by decide +kernel)) (by rw [isSubtype_type]; kernel_rfl)
theorem slot_rev_iter : Slot "reversed" "__iter__" "reversed.__iter__" := .of (owner := "reversed") (n := "__iter__") (by rw [typeLookup_type, builtinLookup_eq_fast]; kernel_rfl) (by decide +kernel) (by decide +kernel) (by decide +kernel)
  (by first | exact .inl (by decide +kernel) | exact .inr (by decide +kernel)) (by rw [isSubtype_type]; kernel_rfl)
theorem entry_rev_next : entryFor table "reversed.__next__" = some Builtin.«reversed.__next__» := entryFor_of_tree (by kernel_rfl)
theorem entry_rev_iter : entryFor table "reversed.__iter__" = some Builtin.«dict_keyiterator.__iter__» :=
  entryFor_alias (id' := "dict_keyiterator.__iter__") (by kernel_rfl) (by first | rfl | decide +kernel | (unfold String.splitOn; simp +decide [String.splitOnAux])) (by decide +kernel) (by kernel_rfl)
theorem args_rev_next (a : Value) : argsOk "reversed.__next__" ⟨[a], []⟩ := by unfold argsOk; kernel_rfl
theorem args_rev_iter (a : Value) : argsOk "reversed.__iter__" ⟨[a], []⟩ := by unfold argsOk; kernel_rfl
theorem called_rev : TypeCalled "reversed" "reversed.__new__" "object.__init__" :=
  ⟨by decide +kernel, by decide +kernel, ⟨_, _, PySem.F.mro_reversed⟩, PySem.F.made_reversed, PySem.F.plain_reversed_new, PySem.F.sub_reversed_self, slot_rev_init⟩
theorem str_no_rev : typeLookup (.type "str") "__reversed__" = pure none := by rw [typeLookup_type, builtinLookup_eq_fast]; kernel_rfl
theorem str_not_dict : isSubtype (.type "str") (.type "dict") = pure false := by rw [isSubtype_type]; kernel_rfl

noncomputable def revStr (y : Str) (t : Tok) (i : Int) : Obj := { cls := .type "reversed", data := .fields #[.str y t, rawInt i] }
section
variable {prog : Program} {w : World} {A : Around} {E : Value → Shared → Prop} {s : Shared}

theorem meets_rev (y : Str) (t : Tok) (hy : y.length ≤ 1000) : MeetsIn prog w (Builtin.«reversed.__new__» ⟨[.type "reversed", .str y t], []⟩) (fun _ R s => ∀ tk, R (.ok (.ret (.ref s.heap.objs.size))) { s with heap := s.heap.push (revStr y t ((y.length : Int) - 1)), toks := tk }) :=
  .of_wp fun A R s h => by
    unfold Builtin.«reversed.__new__»
    refine wpAny_bind (wpAny_of_eq (newClass_reversed _) ?_)
    try dsimp only
    refine wpAny_bind (wpAny_of_eq (a := ()) (by first | rfl | kernel_rfl) ?_)
    refine wpAny_bind (wpAny_of_eq (a := ()) (by first | rfl | kernel_rfl) ?_)
    try dsimp only
    refine wpAny_bind (wpAny_specialOf (typeIs_str s y t) str_no_rev ?_)
    try dsimp only
    refine wpAny_bind ?_
    refine wpAny_bind (m := isInstance (.str y t) (.type "dict")) (wpAny_isInstance (T := "str") (b := false) (typeIs_str s y t) str_not_dict ?_)
    try dsimp only
    refine wpAny_bind (wpAny_pure ?_)
    try dsimp only
    rw [if_pos (by decide +kernel)]
    refine wpAny_pure ?_
    try dsimp only
    simp only [Bool.not_true, Bool.false_eq_true, if_false]
    refine wpAny_bind (P.len_str (by have : y.length ≤ 1000 := hy; omega) ?_)
    try dsimp only
    refine wpAny_bind (wpAny_of_eq (a := some (y.length : Int)) (by rfl) ?_)
    try dsimp only
    refine wpAny_bind (m := Builtin.SmallTypes.newRecord (Value.type "reversed") [Value.str y t, rawInt ((y.length : Int) - 1)]) ?_
    show wpAny _ _ (newObj (.type "reversed") (.fields #[Value.str y t, rawInt ((y.length : Int) - 1)])) _ _ _
    refine wpAny_newObj_type ?_ (by size_fits)
    exact wpAny_pure ⟨_, rfl, h _⟩

theorem call_rev (y : Str) (t : Tok) (hy : y.length ≤ 1000) {Q : Value → Shared → Prop}
    (h : ∀ tk, Q (.ref s.heap.objs.size) { s with heap := s.heap.push (revStr y t ((y.length : Int) - 1)), toks := tk }) : wpAny (model prog w) A (call (.type "reversed") [.str y t]) Q E s := by
  refine callType_newIn called_rev (by decide) (F.typeCall_reversed_1 _) (F.newCall_reversed_1 _) (fun obj => F.args_object_init_2 obj _) F.entry_reversed_new (meets_rev y t hy) ?_
  intro tk
  first
  | exact ⟨⟨_, Heap.get?_push_size _ rfl, rfl⟩, h tk⟩
  | exact ⟨_, rfl, ⟨_, Heap.get?_push_size _ rfl, rfl⟩, h tk⟩

noncomputable def IsRevS (h : Heap) (a : Addr) (y : Str) (t : Tok) (i : Int) : Prop := ∃ o, h.get? a = some o ∧ o.cls = .type "reversed" ∧ o.data = .fields #[.str y t, rawInt i]
theorem IsRevS.typeIs {a : Addr} {y t i} (x : IsRevS s.heap a y t i) : s.TypeIs (.ref a) "reversed" := let ⟨o, ho, hc, _⟩ := x; ⟨o, ho, hc⟩
theorem IsRevS.at {h h' : Heap} {a : Addr} {y t i} (x : IsRevS h a y t i) (e : ∀ o, h.get? a = some o → h'.get? a = some o) : IsRevS h' a y t i := let ⟨o, ho, r⟩ := x; ⟨o, e _ ho, r⟩

theorem iter_rev {it : Addr} {y t i} {Q : Value → Shared → Prop} (hit : IsRevS s.heap it y t i) (h : Q (.ref it) s) : wpAny (model prog w) A (pyIter (.ref it)) Q E s := by
  refine wpAny_pyIter_slot hit.typeIs slot_rev_iter (wpAny_call_entry slot_rev_iter hit.typeIs entry_rev_iter ?_ (args_rev_iter _))
  show wpAny _ _ (ret (.ref it)) _ _ s
  exact wpAny_pure ⟨_, rfl, "reversed", _, hit.typeIs, slot_rev_next.lookup, h⟩

theorem next_rev_item {it : Addr} {y : Str} {t : Tok} {i : Nat} {c : Nat} {Q : Option Value → Shared → Prop} (hit : IsRevS s.heap it y t (i : Int)) (hy : y.length ≤ 1000) (hx : y.cps[i]? = some c)
    (hQ : ∀ h' tk u, IsRevS h' it y t ((i : Int) - 1) → Heap.SameBut it s.heap h' → Q (some (.str ⟨#[c]⟩ u)) { s with heap := h', toks := tk }) : wpAny (model prog w) A (pyNext (.ref it)) Q E s := by
  obtain ⟨o, ho, hc, hd⟩ := id hit
  have hlt : i < y.cps.size := by
    rcases Nat.lt_or_ge i y.cps.size with h | h
    · exact h
    · rw [Array.getElem?_eq_none h] at hx; cases hx
  have hy' : y.cps.size ≤ 1000 := hy
  unfold pyNext
  refine wpAny_bind (wpAny_attempt (wpAny_callSpecial?_slot (name := Str.ofString "__next__") hit.typeIs slot_rev_next
    (wpAny_call_entry slot_rev_next hit.typeIs entry_rev_next ?_ (args_rev_next _))))
  unfold Builtin.«reversed.__next__»
  refine wpAny_bind (wpAny_of_eq (a := (Value.ref it, [])) rfl ?_)
  try dsimp only
  refine wpAny_bind (wpAny_field ho hd (x := .str y t) rfl ?_)
  refine wpAny_bind (wpAny_field ho hd (x := rawInt (i : Int)) rfl ?_)
  show wpAny _ _ (if (i : Int) < 0 then _ else _) _ _ s
  rw [if_neg (by omega)]
  show wpAny _ _ (specialOf (.str y t) _ >>= _) _ _ s
  refine wpAny_bind (wpAny_specialOf (typeIs_str s y t) F.slot_str_getitem.lookup ?_)
  simp only [Option.isNone_some, Bool.false_eq_true, if_false]
  refine wpAny_bind (wpAny_mkInt ?_)
  refine wpAny_bind (wpAny_attempt (P.getItem_str (c := c) (by simp; omega) ?_ ?_))
  · have e : seqIndex? (i : Int) y.length = some i := by
      have h1 : ¬ ((i : Int) < 0) := by omega
      have h2 : ((i : Int) < (y.length : Int)) := by show (i : Int) < (y.cps.size : Int); omega
      have h3 : (0 : Int) ≤ i := by omega
      simp [seqIndex?, h1, h2, h3]
    rw [e]
    exact hx
  try dsimp only
  refine wpAny_bind (wpAny_field ho hd (x := rawInt (i : Int)) rfl ?_)
  show wpAny _ _ (setField (.ref it) 1 (rawInt ((i : Int) - 1)) >>= _) _ _ _
  refine wpAny_bind (wpAny_setField ho hd (by simp) ?_)
  refine wpAny_pure ⟨_, rfl, wpAny_pure (hQ _ _ _ ?_ (Heap.SameBut.update ..))⟩
  exact ⟨_, Heap.get?_update_self _ ho (Obj.isFreed_of_fields (Obj.data_mapFields hd _)), (Obj.cls_mapFields ..).trans hc, by
    rw [Obj.data_mapFields hd]; simp⟩

theorem next_rev_end {it : Addr} {y t} {Q : Option Value → Shared → Prop} (hh : A.handled = none) (hit : IsRevS s.heap it y t (-1))
    (hQ : ∀ h', Heap.ExtBut it s.heap h' → Q none { s with heap := h' }) : wpAny (model prog w) A (pyNext (.ref it)) Q E s := by
  obtain ⟨o, ho, hc, hd⟩ := id hit
  unfold pyNext
  refine wpAny_bind (wpAny_attempt (wpAny_callSpecial?_slot (name := Str.ofString "__next__") hit.typeIs slot_rev_next
    (wpAny_call_entry slot_rev_next hit.typeIs entry_rev_next ?_ (args_rev_next _))))
  unfold Builtin.«reversed.__next__»
  refine wpAny_bind (wpAny_of_eq (a := (Value.ref it, [])) rfl ?_)
  try dsimp only
  refine wpAny_bind (wpAny_field ho hd (x := .str y t) rfl ?_)
  refine wpAny_bind (wpAny_field ho hd (x := rawInt (-1)) rfl ?_)
  show wpAny _ _ (if (-1 : Int) < 0 then _ else _) _ _ s
  rw [if_pos (by decide)]
  refine wpAny_bind (wpAny_rule ?_)
  refine wpAny_bind ?_
  refine wpAny_bind (m := setField (.ref it) 1 (rawInt (-1))) (wpAny_setField ho hd (by simp) ?_)
  have ho2 := Heap.get?_update_self (Obj.mapFields fun x => x.setIfInBounds 1 (rawInt (-1))) ho (Obj.isFreed_of_fields (Obj.data_mapFields hd _))
  have hd2 := Obj.data_mapFields hd (fun x => x.setIfInBounds 1 (rawInt (-1)))
  refine wpAny_setField ho2 hd2 (by simp) ?_
  refine wpAny_bind ?_
  show wpAny _ _ (newExc (.type "StopIteration") [] >>= _) _ _ _
  refine wpAny_bind ?_
  simp only [newExc, newTuple]
  refine wpAny_bind (wpAny_newObj_type ?_ (by size_fits))
  refine wpAny_bind (m := firstArgMember _ _) (wpAny_of_eq (a := Value.none) (by first | rfl | (simp only [firstArgMember]; rfl)) ?_)
  refine wpAny_newObj_type ?_ (by size_fits)
  simp only [raiseNew]
  refine wpAny_bind (wpAny_handled ?_)
  first | rw [show A.in1.handled = none from hh] | rw [hh]
  refine wpAny_bind (wpAny_pure (wpAny_throw ?_))
  refine wpAny_bind (wpAny_isInstance (T := "StopIteration") (b := true) ⟨_, Heap.get?_push_size _ rfl, rfl⟩ isSubtype_stop ?_)
  refine wpAny_pure (hQ _ (Heap.ExtBut.push (Heap.ExtBut.push ?_ _) _))
  intro b o' hb eo
  exact ((Heap.SameBut.update ..).2 b hb).trans (((Heap.SameBut.update ..).2 b hb).trans eo)
end

theorem walks_rev {prog : Program} {w : World} {A : Around} (hh : A.handled = none) (I : Addr) (y : Str) (t : Tok) (hy : y.length ≤ 1000) :
    Walks prog w A I [I] [I] y.length (fun i v => ∃ c u, y.cps[y.length - 1 - i]? = some c ∧ v = .str ⟨#[c]⟩ u) (fun i h => i ≤ y.length ∧ IsRevS h I y t ((y.length : Int) - 1 - (i : Int))) where
  sub := fun b hb => by simp at hb; simp [hb]
  frame := fun _ _ _ x hk => ⟨x.1, x.2.at fun o e => hk I (by simp) o e⟩
  item := fun i s Q E hi x hQ => by
    have e : (y.length : Int) - 1 - (i : Int) = ((y.length - 1 - i : Nat) : Int) := by omega
    have hit := x.2
    rw [e] at hit
    have hlt : y.length - 1 - i < y.cps.size := by show _ < y.length; omega
    have hx : y.cps[y.length - 1 - i]? = some (y.cps[y.length - 1 - i]'hlt) := Array.getElem?_eq_getElem hlt
    refine next_rev_item hit hy hx fun h' tk u hit' hs' => ?_
    have e2 : ((y.length - 1 - i : Nat) : Int) - 1 = (y.length : Int) - 1 - ((i + 1 : Nat) : Int) := by omega
    rw [e2] at hit'
    exact hQ _ h' tk ⟨_, u, hx, rfl⟩ ⟨hi, hit'⟩ fun b o hb eo => hs'.extBut b o (fun h => hb (by simp [h])) eo
  done := fun s Q E x hQ => by
    have e : (y.length : Int) - 1 - (y.length : Int) = -1 := by omega
    have hit := x.2
    rw [e] at hit
    exact next_rev_end hh hit fun h' he' => hQ h' s.toks fun b o hb eo => he' b o (fun h => hb (by simp [h])) eo
  self := fun _ _ _ _ x hQ => iter_rev x.2 hQ
end Mine
end
section
open PySem PySem.W PyProof.Rows PySem.Calls
set_option maxRecDepth 100000
set_option maxHeartbeats 2000000
namespace Mine
/-! subsets of the six signs, as texts -/
noncomputable def ch (d j : Nat) : Nat := sgAll.getD (d + j) 0
noncomputable def txt (d : Nat) (f : Nat → Bool) : Str := ⟨(([0, 1, 2, 3, 4, 5].filter f).map (ch d)).toArray⟩
theorem ch_inj : ∀ d < 15, ∀ i < 6, ∀ j < 6, ch d i = ch d j → i = j := by decide +kernel
theorem six_mem {i : Nat} : i ∈ [0, 1, 2, 3, 4, 5] ↔ i < 6 := by simp; omega
theorem txt_mem {d k : Nat} {f : Nat → Bool} (hd : d < 15) (hk : k < 6) : decide (ch d k ∈ (txt d f).cps.toList) = f k := by
  have e : (txt d f).cps.toList = ([0, 1, 2, 3, 4, 5].filter f).map (ch d) := rfl
  rw [e]
  cases h : f k with
  | true => exact decide_eq_true (List.mem_map.mpr ⟨k, List.mem_filter.mpr ⟨six_mem.mpr hk, h⟩, rfl⟩)
  | false =>
    refine decide_eq_false fun q => ?_
    obtain ⟨i, hi, e⟩ := List.mem_map.mp q
    obtain ⟨hi6, hfi⟩ := List.mem_filter.mp hi
    have := ch_inj d hd i (six_mem.mp hi6) k hk e
    rw [this, h] at hfi; cases hfi
theorem txt_len {d : Nat} {f : Nat → Bool} : (txt d f).length = ([0, 1, 2, 3, 4, 5].filter f).length := by
  show (List.toArray _).size = _
  simp
theorem txt_le {d : Nat} {f : Nat → Bool} : (txt d f).length ≤ 6 := by
  rw [txt_len]; exact List.length_filter_le _ _
theorem txt_congr {d : Nat} {f g : Nat → Bool} (h : ∀ k < 6, f k = g k) : txt d f = txt d g := by
  unfold txt
  rw [List.filter_congr fun k hk => h k (six_mem.mp hk)]
theorem txt_ne {d : Nat} {f g : Nat → Bool} (hd : d < 15) : ((txt d f).cps.toList != (txt d g).cps.toList) = false ↔ ∀ k < 6, f k = g k := by
  constructor
  · intro h k hk
    have e : (txt d f).cps.toList = (txt d g).cps.toList := by simpa using h
    have a := txt_mem (f := f) hd hk
    rw [e, txt_mem hd hk] at a
    exact a.symm
  · intro h
    rw [txt_congr h]
    simp
theorem txt_full {d : Nat} : txt d (fun _ => true) = sgs d := rfl
theorem txt_zero {d : Nat} : txt d (fun k => k == 0) = sg d 0 := rfl
theorem ch_clean : ∀ d < 15, ∀ j < 6, 32 ≤ ch d j ∧ ch d j < 127 := by decide +kernel
theorem txt_clean {d : Nat} {f : Nat → Bool} (hd : d < 15) : Clean (txt d f) := by
  intro c hc
  have e : (txt d f).cps = (([0, 1, 2, 3, 4, 5].filter f).map (ch d)).toArray := rfl
  rw [e] at hc
  obtain ⟨i, hi, rfl⟩ := List.mem_map.mp (List.mem_toArray.mp hc)
  exact ch_clean d hd i (six_mem.mp (List.mem_filter.mp hi).1)
theorem join_chars : ∀ l : List Nat, Str.join "" (l.map fun c => (⟨#[c]⟩ : Str)) = ⟨l.toArray⟩
  | [] => rfl
  | [c] => rfl
  | c :: c' :: r => by
    have ih := join_chars (c' :: r)
    show (⟨#[c]⟩ : Str) ++ "" ++ Str.join "" ((c' :: r).map fun c => (⟨#[c]⟩ : Str)) = _
    rw [ih]
    show (⟨#[c] ++ #[] ++ (c' :: r).toArray⟩ : Str) = ⟨(c :: c' :: r).toArray⟩
    congr 1
    apply Array.toList_inj.mp
    simp
theorem join_ok {d : Nat} {f : Nat → Bool} : JoinOk "" (([0, 1, 2, 3, 4, 5].filter f).map (sg d)) = true := by
  have h : ((([0, 1, 2, 3, 4, 5].filter f).map (sg d)).toArray.foldl (fun a p => a + p.length + (Str.ofString "").length) 0) ≤ 6 := by
    rw [StrLaws.joinTotal]
    have e : ((([0, 1, 2, 3, 4, 5].filter f).map (sg d)).map (·.length)) = ([0, 1, 2, 3, 4, 5].filter f).map fun _ => 1 := by
      rw [List.map_map]; rfl
    rw [e]
    have e2 : (Str.ofString "").length = 0 := rfl
    have e3 : ∀ l : List Nat, (l.map fun _ => 1).sum = l.length := fun l => by
      induction l with
      | nil => rfl
      | cons a r ih => rw [List.map_cons, List.sum_cons, ih, List.length_cons]; omega
    rw [e2, e3, Nat.mul_zero, Nat.add_zero]
    exact List.length_filter_le _ _
  unfold JoinOk Builtin.Str.tooLong
  rw [Bool.not_eq_true', decide_eq_false_iff_not]
  intro q
  have : (6 : Nat) ≤ sizeLine := by decide +kernel
  have q' := Nat.lt_of_le_of_lt this q
  exact absurd h (by omega)
theorem join_txt {d : Nat} {f : Nat → Bool} : Txt.join "" (([0, 1, 2, 3, 4, 5].filter f).map (sg d)) = txt d f := by
  have := join_chars (([0, 1, 2, 3, 4, 5].filter f).map (ch d))
  rw [List.map_map] at this
  exact (StrLaws.glued_eq_join _ _).trans this
end Mine
end
section
open PySem PySem.W PyProof.Rows PySem.Calls
set_option maxRecDepth 100000
set_option maxHeartbeats 2000000
namespace Mine
/-! the settling loop, in plain Lean -/
noncomputable def preds (ar : List (Nat × Nat)) (j : Nat) : List Nat := (ar.filter fun a => a.2 == j).map (·.1)
noncomputable def succs (ar : List (Nat × Nat)) (j : Nat) : List Nat := (ar.filter fun a => a.1 == j).map (·.2)
noncomputable def newF (ar : List (Nat × Nat)) (S : Nat → Nat → Bool) (j k : Nat) : Bool := k == j || (preds ar j).all fun t => S t k
theorem mem_preds {ar : List (Nat × Nat)} {t j : Nat} : t ∈ preds ar j ↔ (t, j) ∈ ar := by
  simp only [preds, List.mem_map, List.mem_filter, beq_iff_eq]
  constructor
  · rintro ⟨⟨a, b⟩, ⟨h, rfl⟩, rfl⟩; exact h
  · intro h; exact ⟨(t, j), ⟨h, rfl⟩, rfl⟩
theorem mem_succs {ar : List (Nat × Nat)} {t j : Nat} : t ∈ succs ar j ↔ (j, t) ∈ ar := by
  simp only [succs, List.mem_map, List.mem_filter, beq_iff_eq]
  constructor
  · rintro ⟨⟨a, b⟩, ⟨h, rfl⟩, rfl⟩; exact h
  · intro h; exact ⟨(j, t), ⟨h, rfl⟩, rfl⟩
theorem newF_iff {ar : List (Nat × Nat)} {S : Nat → Nat → Bool} {j k : Nat} : newF ar S j k = true ↔ k = j ∨ ∀ t, (t, j) ∈ ar → S t k = true := by
  simp only [newF, Bool.or_eq_true, beq_iff_eq, List.all_eq_true, mem_preds]
noncomputable def Same (f g : Nat → Bool) : Prop := ∀ k < 6, f k = g k
noncomputable def setS (S : Nat → Nat → Bool) (j : Nat) (f : Nat → Bool) : Nat → Nat → Bool := fun i => if i = j then f else S i
structure LInv (ar : List (Nat × Nat)) (Dm : Nat → Nat → Prop) (S : Nat → Nat → Bool) (pile : List Nat) (cur : Option Nat) : Prop where
  pl : ∀ j ∈ pile, 1 ≤ j ∧ j < 6
  cu : ∀ j, cur = some j → 1 ≤ j ∧ j < 6
  dm : ∀ j < 6, ∀ k < 6, Dm j k → S j k = true
  fx : ∀ j, 1 ≤ j → j < 6 → Same (S j) (newF ar S j) ∨ j ∈ pile ∨ cur = some j
  zr : ∀ k < 6, S 0 k = (k == 0)
  dn : ∀ j, 1 ≤ j → j < 6 → ∀ k < 6, newF ar S j k = true → S j k = true
noncomputable def card (f : Nat → Bool) : Nat := ([0, 1, 2, 3, 4, 5].filter f).length
noncomputable def mu (S : Nat → Nat → Bool) : Nat := card (S 0) + card (S 1) + card (S 2) + card (S 3) + card (S 4) + card (S 5)
noncomputable def nxt (ar : List (Nat × Nat)) (j : Nat) : List Nat := (succs ar j).filter fun i => !(i == 0)

theorem card_le {f : Nat → Bool} : card f ≤ 6 := List.length_filter_le _ _
theorem card_cong {f g : Nat → Bool} (h : Same f g) : card f = card g := by
  unfold card; rw [List.filter_congr fun k hk => h k (six_mem.mp hk)]
theorem count_lt {f g : Nat → Bool} : ∀ l : List Nat, (∀ k ∈ l, f k = true → g k = true) → (l.filter f).length ≤ (l.filter g).length ∧ ((∃ k ∈ l, f k ≠ g k) → (l.filter f).length < (l.filter g).length)
  | [], _ => ⟨Nat.le_refl _, fun ⟨_, h, _⟩ => nomatch h⟩
  | a :: r, h => by
    obtain ⟨h1, h2⟩ := count_lt r fun k hk => h k (.tail _ hk)
    have ha := h a (.head _)
    cases hf : f a <;> cases hg : g a
    · rw [List.filter_cons_of_neg (by simp [hf]), List.filter_cons_of_neg (by simp [hg])]
      refine ⟨h1, fun ⟨k, hk, hne⟩ => ?_⟩
      rcases List.mem_cons.mp hk with rfl | hk
      · rw [hf, hg] at hne; exact absurd rfl hne
      · exact h2 ⟨k, hk, hne⟩
    · rw [List.filter_cons_of_neg (by simp [hf]), List.filter_cons_of_pos hg, List.length_cons]
      exact ⟨by omega, fun _ => by omega⟩
    · rw [ha hf] at hg; cases hg
    · rw [List.filter_cons_of_pos hf, List.filter_cons_of_pos hg, List.length_cons, List.length_cons]
      refine ⟨by omega, fun ⟨k, hk, hne⟩ => ?_⟩
      rcases List.mem_cons.mp hk with rfl | hk
      · rw [hf, hg] at hne; exact absurd rfl hne
      · have := h2 ⟨k, hk, hne⟩; omega
theorem mu_set {S : Nat → Nat → Bool} {j : Nat} {f : Nat → Bool} (hj : j < 6) (hsub : ∀ k < 6, f k = true → S j k = true) (hne : ¬ Same f (S j)) : mu (setS S j f) < mu S := by
  have h : card f < card (S j) := by
    refine (count_lt [0, 1, 2, 3, 4, 5] fun k hk => hsub k (six_mem.mp hk)).2 ?_
    refine Classical.byContradiction fun q => hne fun k hk => Classical.byContradiction fun q' => q ⟨k, six_mem.mpr hk, q'⟩
  have : j = 0 ∨ j = 1 ∨ j = 2 ∨ j = 3 ∨ j = 4 ∨ j = 5 := by omega
  unfold mu
  rcases this with rfl | rfl | rfl | rfl | rfl | rfl <;> simp [setS] <;> omega
theorem mu_le {S : Nat → Nat → Bool} : mu S ≤ 36 := by
  unfold mu
  have := @card_le (S 0); have := @card_le (S 1); have := @card_le (S 2); have := @card_le (S 3); have := @card_le (S 4); have := @card_le (S 5)
  omega
theorem newF_mono {ar : List (Nat × Nat)} {S T : Nat → Nat → Bool} {j k : Nat} (h : ∀ t, (t, j) ∈ ar → S t k = true → T t k = true) (e : newF ar S j k = true) : newF ar T j k = true := by
  rw [newF_iff] at e ⊢
  exact e.imp id fun q t ht => h t ht (q t ht)
theorem LInv.keep {ar : List (Nat × Nat)} {Dm : Nat → Nat → Prop} {S : Nat → Nat → Bool} {pile : List Nat} {j : Nat} (L : LInv ar Dm S pile (some j)) (h : Same (newF ar S j) (S j)) : LInv ar Dm S pile none where
  pl := L.pl
  cu := fun _ e => nomatch e
  dm := L.dm
  fx := fun i h1 h2 => by
    rcases L.fx i h1 h2 with q | q | q
    · exact .inl q
    · exact .inr (.inl q)
    · cases q; exact .inl fun k hk => (h k hk).symm
  zr := L.zr
  dn := L.dn
theorem LInv.step {ar : List (Nat × Nat)} {Dm : Nat → Nat → Prop} {S : Nat → Nat → Bool} {pile : List Nat} {j : Nat} (har : ∀ a ∈ ar, a.1 < 6 ∧ a.2 < 6)
    (hD : ∀ S : Nat → Nat → Bool, (∀ j < 6, ∀ k < 6, Dm j k → S j k = true) → ∀ j, 1 ≤ j → j < 6 → ∀ k < 6, Dm j k → newF ar S j k = true)
    (L : LInv ar Dm S pile (some j)) : LInv ar Dm (setS S j (newF ar S j)) (pile ++ nxt ar j) none := by
  obtain ⟨j1, j6⟩ := L.cu j rfl
  have sub : ∀ i k, k < 6 → setS S j (newF ar S j) i k = true → S i k = true := fun i k hk e => by
    unfold setS at e
    split at e
    · rename_i q; rw [q]; exact L.dn j j1 j6 k hk e
    · exact e
  refine ⟨fun i hi => ?_, (fun _ e => nomatch e), fun i hi k hk q => ?_, fun i h1 h2 => ?_, fun k hk => ?_, fun i h1 h2 k hk e => ?_⟩
  · rcases List.mem_append.mp hi with hi | hi
    · exact L.pl i hi
    · obtain ⟨h1, h2⟩ := List.mem_filter.mp hi
      have := har _ (mem_succs.mp h1)
      have h3 : i ≠ 0 := by simpa using h2
      exact ⟨by omega, this.2⟩
  · unfold setS
    split
    · rename_i q'; subst q'; exact hD S L.dm i j1 j6 k hk q
    · exact L.dm i hi k hk q
  · by_cases hs : (j, i) ∈ ar
    · refine .inr (.inl (List.mem_append_right _ (List.mem_filter.mpr ⟨mem_succs.mpr hs, ?_⟩)))
      have : i ≠ 0 := by omega
      simpa using this
    · have same : ∀ k, newF ar (setS S j (newF ar S j)) i k = newF ar S i k := fun k => by
        have e : ∀ t, (t, i) ∈ ar → setS S j (newF ar S j) t k = S t k := fun t ht => by
          unfold setS
          rw [if_neg]
          rintro rfl
          exact hs ht
        cases q : newF ar S i k with
        | true => exact newF_mono (fun t ht h => by rw [e t ht]; exact h) q
        | false =>
          cases q' : newF ar (setS S j (newF ar S j)) i k with
          | false => rfl
          | true =>
            have := newF_mono (T := S) (fun t ht h => by rw [e t ht] at h; exact h) q'
            rw [q] at this; cases this
      by_cases hij : i = j
      · subst hij
        refine .inl fun k hk => ?_
        rw [same k]
        unfold setS
        rw [if_pos rfl]
      · rcases L.fx i h1 h2 with q | q | q
        · refine .inl fun k hk => ?_
          rw [same k]
          unfold setS
          rw [if_neg hij]
          exact q k hk
        · exact .inr (.inl (List.mem_append_left _ q))
        · exact absurd (Option.some.inj q).symm hij
  · unfold setS
    rw [if_neg (by omega)]
    exact L.zr k hk
  · have e' : newF ar S i k = true := newF_mono (fun t ht h => sub t k hk h) e
    unfold setS
    split
    · rename_i q; rw [← q]; exact e'
    · exact L.dn i h1 h2 k hk e'
theorem LInv.pop {ar : List (Nat × Nat)} {Dm : Nat → Nat → Prop} {S : Nat → Nat → Bool} {pile : List Nat} {j : Nat} (L : LInv ar Dm S (pile ++ [j]) none) : LInv ar Dm S pile (some j) where
  pl := fun i hi => L.pl i (List.mem_append_left _ hi)
  cu := fun i e => by cases e; exact L.pl j (List.mem_append_right _ (.head _))
  dm := L.dm
  fx := fun i h1 h2 => by
    rcases L.fx i h1 h2 with q | q | q
    · exact .inl q
    · rcases List.mem_append.mp q with q | q
      · exact .inr (.inl q)
      · rw [List.mem_singleton.mp q]; exact .inr (.inr rfl)
    · cases q
  zr := L.zr
  dn := L.dn
noncomputable def S0 (j k : Nat) : Bool := if j = 0 then k == 0 else true
theorem LInv.start {ar : List (Nat × Nat)} {Dm : Nat → Nat → Prop} (h0 : ∀ k < 6, Dm 0 k → k = 0) : LInv ar Dm S0 [5, 4, 3, 2, 1] none where
  pl := by decide
  cu := fun _ e => nomatch e
  dm := fun j hj k hk q => by
    unfold S0
    split
    · rename_i e; subst e; rw [h0 k hk q]; rfl
    · rfl
  fx := fun j h1 h2 => .inr (.inl (by simp; omega))
  zr := fun k _ => rfl
  dn := fun j h1 h2 k _ _ => by unfold S0; rw [if_neg (by omega)]
theorem LInv.done {ar : List (Nat × Nat)} {Dm : Nat → Nat → Prop} {S : Nat → Nat → Bool} (L : LInv ar Dm S [] none) : ∀ j, 1 ≤ j → j < 6 → Same (S j) (newF ar S j) := fun j h1 h2 => by
  rcases L.fx j h1 h2 with q | q | q
  · exact q
  · cases q
  · cases q
end Mine
end
section
open PySem PySem.W PyProof.Rows PySem.Calls
set_option maxRecDepth 100000
set_option maxHeartbeats 2000000
namespace Mine
/-! reached blocks, and what every way meets -/
inductive Rch (ar : List (Nat × Nat)) (v : Nat) : Nat → Prop
  | zero : v ≠ 0 → Rch ar v 0
  | step {x y : Nat} : Rch ar v x → (x, y) ∈ ar → y ≠ v → Rch ar v y
section
variable {ar : List (Nat × Nat)} {v x y k j m a b : Nat}
theorem Rch.ne (h : Rch ar v x) : x ≠ v := by
  cases h with
  | zero h => exact fun e => h e.symm
  | step _ _ h => exact h
theorem Rch.pos (h : Rch ar v x) : v ≠ 0 := by
  induction h with
  | zero h => exact h
  | step _ _ _ ih => exact ih
theorem Rch.lt (har : ∀ a ∈ ar, a.1 < 6 ∧ a.2 < 6) (h : Rch ar v x) : x < 6 := by
  cases h with
  | zero _ => omega
  | step _ h _ => exact (har _ h).2
theorem Rch.free (h : Rch ar v x) (h6 : ∀ a ∈ ar, a.2 < 6) : Rch ar 6 x := by
  induction h with
  | zero _ => exact .zero (by omega)
  | step _ h _ ih => exact .step ih h (by have := h6 _ h; dsimp only at this; omega)
/-- all ways to x are cut at m, or lead through m -/
theorem Rch.or (m : Nat) (h : Rch ar v x) : Rch ar v m ∨ Rch ar m x := by
  induction h with
  | zero h =>
    by_cases e : m = 0
    · subst e; exact .inl (.zero h)
    · exact .inr (.zero e)
  | @step x y h e n ih =>
    rcases ih with ih | ih
    · exact .inl ih
    · by_cases q : y = m
      · subst q; exact .inl (.step h e n)
      · exact .inr (.step ih e q)
theorem Rch.trans (h1 : ¬ Rch ar m j) (h2 : ¬ Rch ar k m) : ¬ Rch ar k j := fun h => (h.or m).elim h2 h1
theorem Rch.anti (hne : a ≠ b) (h : Rch ar 6 x) : Rch ar a b ∨ Rch ar b a ∨ (Rch ar a x ∧ Rch ar b x) := by
  induction h with
  | zero h =>
    by_cases ea : a = 0
    · subst ea; exact .inr (.inl (.zero (Ne.symm hne)))
    · by_cases eb : b = 0
      · subst eb; exact .inl (.zero hne)
      · exact .inr (.inr ⟨.zero ea, .zero eb⟩)
  | @step x y h e n ih =>
    rcases ih with ih | ih | ⟨i1, i2⟩
    · exact .inl ih
    · exact .inr (.inl ih)
    · by_cases qa : y = a
      · subst qa; exact .inr (.inl (.step i2 e hne))
      · by_cases qb : y = b
        · subst qb; exact .inl (.step i1 e (Ne.symm hne))
        · exact .inr (.inr ⟨.step i1 e qa, .step i2 e qb⟩)
theorem Rch.antisymm (hne : a ≠ b) (hr : Rch ar 6 a) (h1 : ¬ Rch ar a b) (h2 : ¬ Rch ar b a) : False := by
  rcases hr.anti hne with h | h | ⟨h, _⟩
  · exact h1 h
  · exact h2 h
  · exact h.ne rfl
/-- of two blocks on every way to x one lies ahead -/
inductive Aft (ar : List (Nat × Nat)) (v a : Nat) : Nat → Prop
  | here : Aft ar v a a
  | step {x y : Nat} : Aft ar v a x → (x, y) ∈ ar → y ≠ v → Aft ar v a y
theorem Aft.reach (h : Aft ar v a x) (hr : Rch ar v a) : Rch ar v x := by
  induction h with
  | here => exact hr
  | step _ e n ih => exact .step ih e n
theorem Rch.last (hne : a ≠ b) (h : Rch ar 6 x) : Aft ar a b x ∨ Aft ar b a x ∨ Rch ar a x := by
  induction h with
  | zero h =>
    by_cases ea : a = 0
    · subst ea; exact .inr (.inl .here)
    · exact .inr (.inr (.zero ea))
  | @step x y h e n ih =>
    by_cases qa : y = a
    · subst qa; exact .inr (.inl .here)
    by_cases qb : y = b
    · subst qb; exact .inl .here
    rcases ih with ih | ih | ih
    · exact .inl (.step ih e qa)
    · exact .inr (.inl (.step ih e qb))
    · exact .inr (.inr (.step ih e qa))
theorem Rch.chain (hne : a ≠ b) (h : Rch ar 6 x) (h1 : ¬ Rch ar a x) (h2 : ¬ Rch ar b x) : ¬ Rch ar a b ∨ ¬ Rch ar b a := by
  rcases h.last hne with q | q | q
  · exact .inl fun r => h1 (q.reach r)
  · exact .inr fun r => h2 (q.reach r)
  · exact absurd q h1
end
section
variable {ar : List (Nat × Nat)} {S : Nat → Nat → Bool}
noncomputable def Dom (ar : List (Nat × Nat)) (j k : Nat) : Prop := ¬ Rch ar k j
theorem dom_new (har : ∀ a ∈ ar, a.1 < 6 ∧ a.2 < 6) : ∀ S : Nat → Nat → Bool, (∀ j < 6, ∀ k < 6, Dom ar j k → S j k = true) → ∀ j, 1 ≤ j → j < 6 → ∀ k < 6, Dom ar j k → newF ar S j k = true := by
  intro S h j _ hj k hk hd
  rw [newF_iff]
  by_cases e : k = j
  · exact .inl e
  · exact .inr fun t ht => h t (har _ ht).1 k hk fun r => hd (.step r ht (Ne.symm e))
theorem dom_zero : ∀ k < 6, Dom ar 0 k → k = 0 := fun k _ h => Classical.byContradiction fun q => h (.zero q)
theorem dom_of (har : ∀ a ∈ ar, a.1 < 6 ∧ a.2 < 6) (L : LInv ar (Dom ar) S [] none) {j k : Nat} (hj : j < 6) (hk : k < 6) : S j k = true ↔ ¬ Rch ar k j := by
  refine ⟨fun h r => ?_, fun h => L.dm j hj k hk h⟩
  have key : ∀ j, Rch ar k j → S j k = false := by
    intro j r
    induction r with
    | zero h => rw [L.zr k hk]; exact beq_eq_false_iff_ne.mpr h
    | @step x y r e n ih =>
      by_cases q : y = 0
      · subst q; rw [L.zr k hk]; exact beq_eq_false_iff_ne.mpr (Ne.symm n)
      · have hy := (har _ e).2
        rw [L.done y (by omega) hy k hk]
        cases q' : newF ar S y k with
        | false => rfl
        | true =>
          rcases newF_iff.mp q' with q'' | q''
          · exact absurd q''.symm n
          · have := q'' x e
            rw [ih] at this; cases this
  rw [key j r] at h; cases h
end
/-- a list that rises, in the bounds that its length tells, is the row of numbers -/
theorem row_of_lt : ∀ (l : List Int) (a : Int), l.Pairwise (· < ·) → (∀ x ∈ l, a + 1 ≤ x ∧ x ≤ a + l.length) → ∀ i (hi : i < l.length), l[i] = a + 1 + (i : Int)
  | [], _, _, _ => fun i hi => absurd hi (Nat.not_lt_zero _)
  | x :: r, a, hp, hb => by
    obtain ⟨h1, h2⟩ := List.pairwise_cons.mp hp
    have hx := hb x (.head _)
    rw [List.length_cons] at hb hx
    have ih := row_of_lt r (a + 1) h2 (fun y hy => by
      have := h1 y hy
      have := hb y (.tail _ hy)
      have := hx.1
      omega)
    have hx1 : x = a + 1 := by
      cases r with
      | nil => have := hx.2; simp at this; omega
      | cons y r' =>
        have h0 := ih 0 (by simp)
        have hy := h1 y (.head _)
        simp only [List.getElem_cons_zero] at h0
        omega
    intro i hi
    cases i with
    | zero => simp only [List.getElem_cons_zero]; omega
    | succ i =>
      have := ih i (by simpa using hi)
      simp only [List.getElem_cons_succ]
      omega
section
variable {ar : List (Nat × Nat)} {S : Nat → Nat → Bool}
noncomputable def doms (S : Nat → Nat → Bool) (k : Nat) : List Nat := [0, 1, 2, 3, 4, 5].filter (S k)
theorem mem_doms {k m : Nat} : m ∈ doms S k ↔ m < 6 ∧ S k m = true := by
  unfold doms; rw [List.mem_filter, six_mem]
theorem card_doms {k : Nat} : (doms S k).length = card (S k) := rfl
theorem card_sub {f g : Nat → Bool} (h : ∀ k < 6, f k = true → g k = true) : card f ≤ card g := (count_lt [0, 1, 2, 3, 4, 5] fun k hk => h k (six_mem.mp hk)).1
theorem card_ssub {f g : Nat → Bool} (h : ∀ k < 6, f k = true → g k = true) {k : Nat} (hk : k < 6) (hf : f k = false) (hg : g k = true) : card f < card g :=
  (count_lt [0, 1, 2, 3, 4, 5] fun k hk => h k (six_mem.mp hk)).2 ⟨k, six_mem.mpr hk, by rw [hf, hg]; simp⟩
theorem sizes_row (har : ∀ a ∈ ar, a.1 < 6 ∧ a.2 < 6) (hS : ∀ j < 6, ∀ k < 6, S j k = true ↔ ¬ Rch ar k j) {k : Nat} (hk : k < 6) (hr : Rch ar 6 k) :
    (∀ m ∈ doms S k, 1 ≤ card (S m) ∧ card (S m) ≤ (doms S k).length) ∧ ((doms S k).map fun m => card (S m)).Nodup := by
  have self : ∀ m < 6, S m m = true := fun m hm => (hS m hm m hm).mpr fun r => r.ne rfl
  have sub : ∀ m < 6, S k m = true → ∀ q < 6, S m q = true → S k q = true := fun m hm h q hq h' => (hS k hk q hq).mpr (Rch.trans ((hS k hk m hm).mp h) ((hS m hm q hq).mp h'))
  have live : ∀ m < 6, S k m = true → Rch ar 6 m := fun m hm h => ((hr.or m).resolve_right ((hS k hk m hm).mp h))
  have down : ∀ a < 6, ∀ b < 6, a ≠ b → S k a = true → ¬ Rch ar a b → card (S a) < card (S b) := by
    intro a ha b hb hne h1 h
    refine card_ssub (fun q hq h' => (hS b hb q hq).mpr (Rch.trans h ((hS a ha q hq).mp h'))) hb ?_ (self b hb)
    cases q : S a b with
    | false => rfl
    | true => exact (Rch.antisymm hne (live a ha h1) h ((hS a ha b hb).mp q)).elim
  constructor
  · intro m hm
    obtain ⟨hm6, hm⟩ := mem_doms.mp hm
    constructor
    · have : card (fun i => i == m) ≤ card (S m) := by
        refine card_sub fun i _ h => ?_
        have e : i = m := by simpa using h
        rw [e]; exact self m hm6
      have one : 1 ≤ card (fun i => i == m) := by
        have : m = 0 ∨ m = 1 ∨ m = 2 ∨ m = 3 ∨ m = 4 ∨ m = 5 := by omega
        rcases this with rfl | rfl | rfl | rfl | rfl | rfl <;> decide
      omega
    · rw [card_doms]; exact card_sub (sub m hm6 hm)
  · have nd : (doms S k).Nodup := List.Pairwise.filter _ (by decide)
    refine List.pairwise_map.mpr (List.Pairwise.imp_of_mem ?_ nd)
    intro a b ha hb hne e
    obtain ⟨ha6, ha⟩ := mem_doms.mp ha
    obtain ⟨hb6, hb⟩ := mem_doms.mp hb
    rcases Rch.chain hne hr ((hS k hk a ha6).mp ha) ((hS k hk b hb6).mp hb) with q | q
    · have := down a ha6 b hb6 hne ha q; omega
    · have := down b hb6 a ha6 (Ne.symm hne) hb q; omega
/-- sorted, the sizes are 1, 2, .. -/
theorem sizes_sorted (har : ∀ a ∈ ar, a.1 < 6 ∧ a.2 < 6) (hS : ∀ j < 6, ∀ k < 6, S j k = true ↔ ¬ Rch ar k j) {k : Nat} (hk : k < 6) (hr : Rch ar 6 k) {ns : List Int}
    (hp : ns.Perm ((doms S k).map fun m => ((card (S m) : Nat) : Int))) (hs : ns.Pairwise (· ≤ ·)) : ∀ i (hi : i < ns.length), ns[i] = 1 + (i : Int) := by
  obtain ⟨h1, h2⟩ := sizes_row har hS hk hr
  have hl : ns.length = (doms S k).length := by rw [hp.length_eq, List.length_map]
  have nd : ns.Nodup := by
    refine hp.nodup_iff.mpr ?_
    have := List.pairwise_map.mp h2
    exact List.pairwise_map.mpr (this.imp fun h e => h (by exact_mod_cast e))
  have hlt : ns.Pairwise (· < ·) := by
    refine (List.pairwise_and_iff.mpr ⟨hs, nd⟩).imp fun h => ?_
    obtain ⟨a, b⟩ := h
    omega
  have := row_of_lt ns 0 hlt fun x hx => by
    obtain ⟨m, hm, rfl⟩ := List.mem_map.mp (hp.mem_iff.mp hx)
    have := h1 m hm
    omega
  intro i hi
  rw [this i hi]
  omega
end
end Mine
end
section
open PySem PySem.W PyProof.Rows PySem.Calls
set_option maxRecDepth 100000
set_option maxHeartbeats 2000000
namespace Mine
/-! a set of the ints below six: its table -/
noncomputable def bitsOf (b : Nat) : List Nat := [0, 1, 2, 3, 4, 5].filter fun i => b.testBit i
noncomputable def hasB (b : Nat) : List Int := (bitsOf b).map Int.ofNat
noncomputable def absT (b : Nat) (big ld : Bool) : SetTable := { mask := if big then 31 else 7, place := (bitsOf b).toArray, dummies := #[], finger := 0, led := ld, moves := if big then 1 else 0, plain := true }
noncomputable def roomB (b : Nat) (big : Bool) : Bool := big || decide ((bitsOf b).length ≤ 4)
noncomputable def rankB (b i : Nat) : Nat := SetTable.below (bitsOf b).toArray i
noncomputable def freeOk (b i : Nat) (big ld : Bool) : Bool := match (absT b big ld).freeSlot ((i : Nat) : Int) with
  | some (j, false) => j == i
  | _ => false
theorem free_b' : ∀ b < 64, ∀ i < 6, b.testBit i = false → ∀ big ld, roomB b big = true → freeOk b i big ld = true := by decide +kernel
theorem free_b {b i : Nat} {big ld : Bool} (hb : b < 64) (hi : i < 6) (hn : b.testBit i = false) (hr : roomB b big = true) : (absT b big ld).freeSlot ((i : Nat) : Int) = some (i, false) := by
  have h := free_b' b hb i hi hn big ld hr
  unfold freeOk at h
  split at h
  · rename_i j e; rw [e]; simp at h; rw [h]
  · cases h
theorem put_b : ∀ b < 64, ∀ i < 6, b.testBit i = false → ∀ big ld, (absT b big ld).put i = (absT (b + 2 ^ i) big ld, rankB b i) := by decide +kernel
theorem fits_b : ∀ b < 64, ∀ big ld, roomB b big = true ∨ (bitsOf b).length = 5 → (absT b big ld).fits (bitsOf b).length = true := by decide +kernel
theorem full_big : ∀ b < 64, ∀ ld, (absT b true ld).tooFull = false := by decide +kernel
theorem full_small : ∀ b < 64, ∀ ld, (bitsOf b).length ≤ 5 → (absT b false ld).tooFull = decide ((bitsOf b).length = 5) := by decide +kernel
theorem relaid_b : ∀ b < 64, ∀ ld, (bitsOf b).length = 5 → (absT b false ld).relaid (hasB b).toArray 20 = some (absT b true ld, #[0, 1, 2, 3, 4]) := by decide +kernel
theorem below_b : ∀ b < 64, ∀ j < 6, ∀ p, (bitsOf b)[j]? = some p → SetTable.below (bitsOf b).toArray (p + 1) = j + 1 := by
  intro b hb j hj p hp
  have h : ∀ b < 64, ∀ j < 6, (match (bitsOf b)[j]? with | some p => decide (SetTable.below (bitsOf b).toArray (p + 1) = j + 1) | none => true) = true := by decide +kernel
  have := h b hb j hj
  rw [hp] at this
  exact of_decide_eq_true this
theorem below_0 : ∀ b < 64, SetTable.below (bitsOf b).toArray 0 = 0 := by decide +kernel
theorem ins_b : ∀ b < 64, ∀ i : Nat, i < 6 → b.testBit i = false → SetTable.insertAt (hasB b).toArray (rankB b i) (i : Int) = (hasB (b + 2 ^ i)).toArray := by decide +kernel
theorem bits_add : ∀ b < 64, ∀ i < 6, b.testBit i = false → b + 2 ^ i < 64 ∧ (bitsOf (b + 2 ^ i)).length = (bitsOf b).length + 1 ∧ ∀ k < 6, (b + 2 ^ i).testBit k = (b.testBit k || decide (k = i)) := by decide +kernel
theorem bits_len : ∀ b < 64, (bitsOf b).length ≤ 6 := by decide +kernel
theorem hasB_mem {b : Nat} {z : Int} : z ∈ hasB b ↔ ∃ i < 6, b.testBit i = true ∧ z = (i : Int) := by
  unfold hasB bitsOf
  rw [List.mem_map]
  constructor
  · rintro ⟨i, hi, rfl⟩
    obtain ⟨h1, h2⟩ := List.mem_filter.mp hi
    exact ⟨i, by simp at h1; omega, h2, rfl⟩
  · rintro ⟨i, hi, hb, rfl⟩
    exact ⟨i, List.mem_filter.mpr ⟨by simp; omega, hb⟩, rfl⟩
/-- the entries of the set -/
noncomputable def EntsB (b : Nat) (es : Array (Int × Value)) : Prop := es.map (·.1) = (hasB b).toArray ∧ ∀ e ∈ es.toList, ∃ t, e.2 = .int e.1 t
noncomputable def SetB (b : Nat) (ld : Bool) (o : Obj) : Prop := o.ExactSet ∧ ∃ es ep big, b < 64 ∧ roomB b big = true ∧ o.data = .set es ep (absT b big ld) ∧ EntsB b es
theorem map_insertAt {α β : Type} (f : α → β) (xs : Array α) (p : Nat) (x : α) : (SetTable.insertAt xs p x).map f = SetTable.insertAt (xs.map f) p (f x) := by
  simp [SetTable.insertAt]
theorem EntsB.size {b : Nat} {es : Array (Int × Value)} (h : EntsB b es) : es.size = (bitsOf b).length := by
  have := congrArg Array.size h.1
  simpa [hasB] using this
theorem EntsB.add {b i : Nat} {es : Array (Int × Value)} {t : Tok} (hb : b < 64) (hi : i < 6) (hn : b.testBit i = false) (h : EntsB b es) : EntsB (b + 2 ^ i) (SetTable.insertAt es (rankB b i) ((i : Int), .int (i : Int) t)) := by
  refine ⟨?_, fun e he => ?_⟩
  · rw [map_insertAt, h.1]; exact ins_b b hb i hi hn
  · have := (SetTable.insertAt_perm es (rankB b i) ((i : Int), Value.int (i : Int) t)).mem_iff.mp he
    rw [Array.toList_push] at this
    rcases List.mem_append.mp this with q | q
    · exact h.2 e q
    · rw [List.mem_singleton.mp q]; exact ⟨t, rfl⟩
theorem hash_small : ∀ i : Nat, i < 6 → hashInt ((i : Nat) : Int) = ((i : Nat) : Int) := by decide +kernel
theorem EntsB.elems {prog : Program} {w : World} {b : Nat} {es : Array (Int × Value)} (h : EntsB b es) : ElemsOf (intKind prog w) es.toList := fun e he => by
  obtain ⟨t, ht⟩ := h.2 e he
  have hm : e.1 ∈ hasB b := by
    have : e.1 ∈ (es.map (·.1)).toList := by rw [Array.toList_map]; exact List.mem_map.mpr ⟨e, he, rfl⟩
    rw [h.1] at this
    simpa using this
  obtain ⟨i, hi, _, ei⟩ := hasB_mem.mp hm
  refine ⟨⟨e.1, by rw [ht]; exact intKind_is _ _ _ _, ?_⟩, by rw [ht]; rfl⟩
  show e.1 = hashInt e.1
  rw [ei, hash_small i hi]
end Mine
end
section
open PySem PySem.W PyProof.Rows PySem.Calls
set_option maxRecDepth 100000
set_option maxHeartbeats 2000000
namespace Mine
section
variable {prog : Program} {w : World} {A : Around} {E : Value → Shared → Prop} {s : Shared} {a : Addr}
theorem EntsB.bit {b i : Nat} {es : Array (Int × Value)} (h : EntsB b es) (hi : i < 6) : (∃ e ∈ es.toList, (intKind prog w).is (i : Int) e.2 = true) ↔ b.testBit i = true := by
  constructor
  · rintro ⟨e, he, hk⟩
    obtain ⟨t, ht⟩ := h.2 e he
    rw [ht] at hk
    have : e.1 = (i : Int) := by
      have := (intKind prog w).inj _ _ _ (intKind_is prog w e.1 t) hk
      exact this
    have hm : e.1 ∈ hasB b := by
      have : e.1 ∈ (es.map (·.1)).toList := by rw [Array.toList_map]; exact List.mem_map.mpr ⟨e, he, rfl⟩
      rw [h.1] at this
      simpa using this
    obtain ⟨j, _, hj, e2⟩ := hasB_mem.mp hm
    have : i = j := by omega
    rw [this]; exact hj
  · intro hb
    have hm : (i : Int) ∈ hasB b := hasB_mem.mpr ⟨i, hi, hb, rfl⟩
    have : (i : Int) ∈ (es.map (·.1)).toList := by rw [h.1]; simpa using hm
    rw [Array.toList_map] at this
    obtain ⟨e, he, ee⟩ := List.mem_map.mp this
    obtain ⟨t, ht⟩ := h.2 e he
    rw [ee] at ht
    exact ⟨e, he, by rw [ht]; exact intKind_is _ _ _ _⟩
theorem setAddHashed_b {b i : Nat} {ld : Bool} {t : Tok} {o : Obj} {Q : Bool → Shared → Prop} (ho : s.heap.get? a = some o) (hS : SetB b ld o) (hi : i < 6)
    (h : ∀ h' o' b' r, Heap.SameBut a s.heap h' → h'.get? a = some o' → SetB b' ld o' → (∀ k < 6, b'.testBit k = (b.testBit k || decide (k = i))) → Q r { s with heap := h' }) :
    wpAny (model prog w) A (setAddHashed a (.int (i : Int) t) ((intKind prog w).hash (i : Int))) Q E s := by
  obtain ⟨hex, es, ep, big, hb, hr, hd, hE⟩ := id hS
  have hf : (absT b big ld).fits es.size = true := by rw [hE.size]; exact fits_b b hb big ld (.inl hr)
  have hel := hE.elems (prog := prog) (w := w)
  have hsz : es.size ≤ 6 := by rw [hE.size]; exact bits_len b hb
  have hkey : (intKind prog w).is (i : Int) (Value.int (i : Int) t) = true := intKind_is _ _ _ _
  have hash : (intKind prog w).hash (i : Int) = (i : Int) := hash_small i hi
  unfold setAddHashed setAddHashedIn
  refine wpAny_holding (wpAny_bind (wpAny_setState_of ho hd hf ?_))
  dsimp only
  rw [byScan_of rfl (Nat.lt_of_le_of_lt hsz (by decide)) hel]
  simp only [↓reduceIte]
  unfold setAddByScan
  refine wpAny_bind ?_
  refine wpAny_bind (wpAny_rule ?_)
  refine wpAny_bind (wpAny_setScan_of hkey ho hd hf hel ?_)
  cases hrr : List.findIdx? (fun e => (intKind prog w).is (i : Int) e.2) es.toList with
  | some j =>
    dsimp only
    obtain ⟨hj, hpj, _⟩ := List.findIdx?_eq_some_iff_getElem.mp hrr
    have hSk : b.testBit i = true := (hE.bit hi).mp ⟨es.toList[j], List.getElem_mem hj, hpj⟩
    refine wpAny_pure (wpAny_pure ?_)
    have e : s = { s with heap := s.heap } := by cases s; rfl
    rw [e]
    exact h s.heap o b _ (Heap.SameBut.refl a s.heap) ho hS fun k hk => by
      by_cases q : k = i
      · subst q; simp [hSk]
      · simp [q]
  | none =>
    dsimp only
    have hSk : b.testBit i = false := by
      cases hk : b.testBit i with
      | false => rfl
      | true => obtain ⟨e, he, hp⟩ := (hE.bit (prog := prog) (w := w) hi).mpr hk; have := List.findIdx?_eq_none_iff.mp hrr e he; rw [hp] at this; exact Bool.noConfusion this
    obtain ⟨hb2, hl2, hbit⟩ := bits_add b hb i hi hSk
    have hE2 := hE.add (t := t) hb hi hSk
    have hfits2 : (absT (b + 2 ^ i) big ld).fits (SetTable.insertAt es (rankB b i) ((i : Int), Value.int (i : Int) t)).size = true := by
      rw [hE2.size]
      refine fits_b _ hb2 big ld ?_
      unfold roomB at hr ⊢
      cases big with
      | true => exact .inl rfl
      | false =>
        have : (bitsOf b).length ≤ 4 := by simpa using hr
        by_cases q : (bitsOf (b + 2 ^ i)).length = 5
        · exact .inr q
        · exact .inl (by simp; omega)
    have hL : layNew (absT b big ld) es ((intKind prog w).hash (i : Int)) (.int (i : Int) t) = (SetTable.insertAt es (rankB b i) ((i : Int), Value.int (i : Int) t), absT (b + 2 ^ i) big ld, false, false) := by
      unfold layNew
      rw [hash, free_b hb hi hSk hr]
      dsimp only
      rw [put_b b hb i hi hSk big ld]
      dsimp only
      rw [hfits2]
      unfold SetTable.orStandIn
      rw [hfits2]
      rfl
    rw [hL]
    dsimp only
    refine wpAny_bind (wpAny_pure ?_)
    rw [show (absT (b + 2 ^ i) big ld).plain = true from rfl]
    simp only [if_true]
    refine wpAny_bind ?_
    rw [hashByValue_scannable 8 rfl]
    refine wpAny_pure ?_
    rw [show plainKind (Value.int (i : Int) t) = true from rfl]
    simp only [if_true]
    have hz : (SetTable.insertAt es (rankB b i) ((i : Int), Value.int (i : Int) t)).size ≤ 6 := by rw [hE2.size]; exact bits_len _ hb2
    have hzl : (6 : Nat) ≤ sizeLine := by decide +kernel
    refine wpAny_bind (wpAny_storeSet_of ho hd ?_ (Nat.le_trans hz hzl))
    have hg : (s.heap.update a (Obj.putSet (SetTable.insertAt es (rankB b i) ((i : Int), Value.int (i : Int) t)) (absT (b + 2 ^ i) big ld))).get? a = some { o with data := .set (SetTable.insertAt es (rankB b i) ((i : Int), Value.int (i : Int) t)) (ep + 1) (absT (b + 2 ^ i) big ld) } := by
      have := Heap.get?_update_self (Obj.putSet (SetTable.insertAt es (rankB b i) ((i : Int), Value.int (i : Int) t)) (absT (b + 2 ^ i) big ld)) ho (by rw [putSet_of _ _ hd]; rfl)
      rw [putSet_of _ _ hd] at this; exact this
    have hsb1 := Heap.SameBut.update s.heap a (Obj.putSet (SetTable.insertAt es (rankB b i) ((i : Int), Value.int (i : Int) t)) (absT (b + 2 ^ i) big ld))
    by_cases hfull : (absT (b + 2 ^ i) big ld).tooFull = true
    · rw [hfull]
      have hbig : big = false := by
        cases big with
        | false => rfl
        | true => rw [full_big _ hb2] at hfull; cases hfull
      subst hbig
      have h4 : (bitsOf b).length ≤ 4 := by simpa [roomB] using hr
      have h5 : (bitsOf (b + 2 ^ i)).length = 5 := by
        rw [full_small _ hb2 ld (by omega)] at hfull
        exact of_decide_eq_true hfull
      have hsz5 : (SetTable.insertAt es (rankB b i) ((i : Int), Value.int (i : Int) t)).size = 5 := by rw [hE2.size, h5]
      have hRl : relayAll (absT (b + 2 ^ i) false ld) (SetTable.insertAt es (rankB b i) ((i : Int), Value.int (i : Int) t)) (SetTable.grown (SetTable.insertAt es (rankB b i) ((i : Int), Value.int (i : Int) t)).size) =
          (SetTable.insertAt es (rankB b i) ((i : Int), Value.int (i : Int) t), absT (b + 2 ^ i) true ld, false) := by
        rw [hsz5]
        generalize SetTable.insertAt es (rankB b i) ((i : Int), Value.int (i : Int) t) = es2 at hE2 hsz5
        unfold relayAll
        rw [hE2.1]
        rw [show SetTable.grown 5 = 20 from rfl, relaid_b _ hb2 ld h5]
        dsimp only
        have e5 : (#[0, 1, 2, 3, 4] : Array Nat).filterMap (es2[·]?) = es2 := by
          have := filterMap_getElem?_range es2
          rw [hsz5] at this
          apply Array.toList_inj.mp
          rw [Array.toList_filterMap]
          exact this
        rw [e5, hsz5]
        have : (absT (b + 2 ^ i) true ld).fits 5 = true := by rw [← h5]; exact fits_b _ hb2 true ld (.inl rfl)
        rw [this]
        rw [if_pos (by decide)]
      rw [hRl]
      simp only [Bool.not_false, Bool.true_and, if_true]
      refine wpAny_bind (wpAny_pure ?_)
      refine wpAny_bind (wpAny_storeSet_of hg rfl ?_ (Nat.le_trans hz hzl))
      refine wpAny_pure (wpAny_pure ?_)
      refine h _ { o with data := .set (SetTable.insertAt es (rankB b i) ((i : Int), Value.int (i : Int) t)) (ep + 1 + 1) (absT (b + 2 ^ i) true ld) } (b + 2 ^ i) _ (hsb1.trans (Heap.SameBut.update _ a _)) (by
        have := Heap.get?_update_self (Obj.putSet (SetTable.insertAt es (rankB b i) ((i : Int), Value.int (i : Int) t)) (absT (b + 2 ^ i) true ld)) hg (by rw [putSet_of _ _ rfl]; rfl)
        rw [putSet_of _ _ rfl] at this; exact this) ⟨hex, _, _, true, hb2, rfl, rfl, hE2⟩ hbit
    · have hfull' : (absT (b + 2 ^ i) big ld).tooFull = false := by simpa using hfull
      rw [hfull']
      simp only [Bool.not_false, Bool.true_and, Bool.false_eq_true, if_false]
      refine wpAny_pure (wpAny_pure ?_)
      refine h _ _ (b + 2 ^ i) _ hsb1 hg ⟨hex, _, _, big, hb2, ?_, rfl, hE2⟩ hbit
      unfold roomB at hr ⊢
      cases big with
      | true => rfl
      | false =>
        have h4 : (bitsOf b).length ≤ 4 := by simpa using hr
        rw [full_small _ hb2 ld (by omega)] at hfull'
        have := of_decide_eq_false hfull'
        simp; omega
theorem SetB.typeIs {b : Nat} {ld : Bool} {o : Obj} (ho : s.heap.get? a = some o) (hS : SetB b ld o) : s.TypeIs (.ref a) "set" := ⟨o, ho, hS.1.1⟩
theorem set_add_b {b i : Nat} {ld : Bool} {t : Tok} {o : Obj} {Q : Value → Shared → Prop} (ho : s.heap.get? a = some o) (hS : SetB b ld o) (hi : i < 6)
    (h : ∀ h' o' b', Heap.SameBut a s.heap h' → h'.get? a = some o' → SetB b' ld o' → (∀ k < 6, b'.testBit k = (b.testBit k || decide (k = i))) → Q .none { s with heap := h', toks := s.toks + 1 }) :
    wpAny (model prog w) A (call (.builtin "set.add") [.ref a, .int (i : Int) t]) Q E s := by
  refine wpAny_call_entry F.slot_set_add (SetB.typeIs ho hS) F.entry_set_add ?_ (F.args_set_add_2 _ _)
  unfold Builtin.«set.add» Builtin.Frozenset.oneOther
  simp only [List.isEmpty_nil, bind_assoc]
  unfold Builtin.Frozenset.addrOf setAdd
  refine wpAny_bind (wpAny_pure ?_)
  try dsimp only
  refine wpAny_bind (wpAny_pure ?_)
  try dsimp only
  refine wpAny_bind ?_
  refine wpAny_holding ?_
  refine wpAny_bind ((intKind prog w).pyHash (intKind_is prog w (i : Int) t) ?_)
  refine setAddHashed_b (s := { s with toks := s.toks + 1 }) ho hS hi fun h' o' b' r hsb ho' hS' hbit => ?_
  show wpAny _ _ (ret Value.none) _ _ _
  exact wpAny_pure ⟨_, rfl, h h' o' b' hsb ho' hS' hbit⟩
/-- the new set: led where its order is the program's -/
theorem newSet_b {Q : Value → Shared → Prop}
    (h : ∀ o, (s.heap.push o).get? s.heap.objs.size = some o → SetB 0 (!w.params.followText "set-order") o → Q (.ref s.heap.objs.size) { s with heap := s.heap.push o }) :
    wpAny (model prog w) A (newSet (.type "set")) Q E s := by
  unfold newSet setsByText
  refine wpAny_bind (wpAny_bind (wpAny_askSetting ?_))
  refine wpAny_pure ?_
  dsimp only
  simp only [newObj]
  exact wpAny_bind (wpAny_alloc (wpAny_pure (h _ (Heap.get?_push_size _ rfl) ⟨⟨rfl, rfl, rfl⟩, #[], 0, false, by decide, by decide, rfl, by rw [show hasB 0 = [] from by decide]; simp, fun e he => by simp at he⟩)))
end
end Mine
end
section
open PySem PySem.W PyProof.Rows PySem.Calls
set_option maxRecDepth 100000
set_option maxHeartbeats 2000000
namespace Mine
theorem slot_seti_next : Slot "set_iterator" "__next__" "set_iterator.__next__" := .of (owner := "set_iterator") (n := "__next__") (by rw [typeLookup_type, builtinLookup_eq_fast]; kernel_rfl) (by decide +kernel) (by decide +kernel) (by decide +kernel)
  (by first | exact .inl (by decide +kernel) | exact .inr (by decide +kernel)) (by rw [isSubtype_type]; kernel_rfl)
theorem slot_seti_iter : Slot "set_iterator" "__iter__" "set_iterator.__iter__" := .of (owner := "set_iterator") (n := "__iter__") (by rw [typeLookup_type, builtinLookup_eq_fast]; kernel_rfl) (by decide +kernel) (by decide +kernel) (by decide +kernel)
  (by first | exact .inl (by decide +kernel) | exact .inr (by decide +kernel)) (by rw [isSubtype_type]; kernel_rfl)
theorem entry_seti_next : entryFor table "set_iterator.__next__" = some Builtin.«set_iterator.__next__» := entryFor_of_tree (by kernel_rfl)
theorem entry_seti_iter : entryFor table "set_iterator.__iter__" = some Builtin.«dict_keyiterator.__iter__» :=
  entryFor_alias (id' := "dict_keyiterator.__iter__") (by kernel_rfl) (by first | rfl | decide +kernel | (unfold String.splitOn; simp +decide [String.splitOnAux])) (by decide +kernel) (by kernel_rfl)
theorem args_seti_next (a : Value) : argsOk "set_iterator.__next__" ⟨[a], []⟩ := by unfold argsOk; kernel_rfl
theorem args_seti_iter (a : Value) : argsOk "set_iterator.__iter__" ⟨[a], []⟩ := by unfold argsOk; kernel_rfl
theorem entry_set_iter' : entryFor table "set.__iter__" = some Builtin.«frozenset.__iter__» :=
  entryFor_alias (id' := "frozenset.__iter__") (by kernel_rfl) rfl (by decide +kernel) (by kernel_rfl)
theorem args_set_iter' (a : Value) : argsOk "set.__iter__" ⟨[a], []⟩ := by unfold argsOk; kernel_rfl

theorem pick_go {α : Type} (next : Nat → Nat) : ∀ (fuel k : Nat) (left : List α) (out : Array α), left.length ≤ fuel → List.Perm (pickOrder.go next fuel k left out).toList (out.toList ++ left)
  | 0, k, left, out, h => by
    have : left = [] := List.eq_nil_of_length_eq_zero (by omega)
    subst this
    unfold pickOrder.go
    simp
  | fuel + 1, k, left, out, h => by
    unfold pickOrder.go
    cases left with
    | nil => simp
    | cons a r =>
      have hlt : next k % (a :: r).length < (a :: r).length := Nat.mod_lt _ (by simp)
      rw [List.getElem?_eq_getElem hlt]
      dsimp only
      refine (pick_go next fuel (k + 1) _ _ ?_).trans ?_
      · rw [List.length_eraseIdx_of_lt hlt]
        omega
      · rw [Array.toList_push, List.append_assoc]
        refine List.Perm.append_left _ ?_
        rw [List.eraseIdx_eq_take_drop_succ]
        generalize hl : a :: r = l at hlt ⊢
        generalize next k % l.length = q at hlt ⊢
        have e : l = l.take q ++ l[q] :: l.drop (q + 1) := by rw [List.getElem_cons_drop, List.take_append_drop]
        show List.Perm (l[q] :: (l.take q ++ l.drop (q + 1))) l
        exact (List.perm_middle (a := l[q])).symm.trans (by rw [← e])
theorem pick_perm {α : Type} (next : Nat → Nat) (xs : Array α) : List.Perm (pickOrder next xs).toList xs.toList := by
  have := pick_go next xs.size 0 xs.toList #[] (by simp)
  simpa [pickOrder] using this

section
variable {prog : Program} {w : World} {A : Around} {E : Value → Shared → Prop} {s : Shared} {a : Addr}
noncomputable abbrev byTx (w : World) : Bool := w.params.followText "set-order"
/-- the set as one object -/
structure SetAt (w : World) (b : Nat) (es : Array (Int × Value)) (ep : Nat) (big : Bool) (o : Obj) : Prop where
  ex : o.ExactSet
  hb : b < 64
  room : roomB b big = true
  data : o.data = .set es ep (absT b big (!byTx w))
  ents : EntsB b es
theorem SetAt.fits {b : Nat} {es : Array (Int × Value)} {ep : Nat} {big : Bool} {o : Obj} (x : SetAt w b es ep big o) : (absT b big (!byTx w)).fits es.size = true := by
  rw [x.ents.size]; exact fits_b b x.hb big _ (.inl x.room)
noncomputable def ordB (w : World) (a : Addr) (es : Array (Int × Value)) (ep : Nat) : Array (Int × Value) := if byTx w then pickOrder (w.params.setOrder a ep) es else es
theorem ord_perm {es : Array (Int × Value)} {ep : Nat} : List.Perm (ordB w a es ep).toList es.toList := by
  unfold ordB
  split
  · exact pick_perm _ _
  · exact .rfl
theorem ord_size {es : Array (Int × Value)} {ep : Nat} : (ordB w a es ep).size = es.size := by
  have := (ord_perm (w := w) (a := a) (es := es) (ep := ep)).length_eq
  simpa using this
noncomputable def slotB (b i : Nat) : Nat := match i with
  | 0 => 0
  | i + 1 => (bitsOf b).getD i 0 + 1
theorem below_slot {b i : Nat} (hb : b < 64) (hi : i ≤ (bitsOf b).length) : SetTable.below (bitsOf b).toArray (slotB b i) = i := by
  cases i with
  | zero => exact below_0 b hb
  | succ i =>
    have hl := bits_len b hb
    have hlt : i < (bitsOf b).length := by omega
    refine below_b b hb i (by omega) _ ?_
    rw [List.getD_eq_getElem?_getD, List.getElem?_eq_getElem hlt]
    rfl
theorem setNext_b {b : Nat} {es : Array (Int × Value)} {ep i sl : Nat} {big : Bool} {o : Obj} {Q : Option (Value × Nat) → Shared → Prop} (ho : s.heap.get? a = some o) (x : SetAt w b es ep big o) (hi : i ≤ es.size) (hs : byTx w = false → sl = slotB b i)
    (h : ∀ sl', (byTx w = false → i < es.size → sl' = slotB b (i + 1)) → Q (((ordB w a es ep)[i]?).map fun e => (e.2, sl')) s) :
    wpAny (model prog w) A (setNext a sl i ep) Q E s := by
  unfold setNext
  refine wpAny_bind (wpAny_setState_of ho x.data x.fits ?_)
  dsimp only
  unfold setsByText
  refine wpAny_bind (wpAny_bind (wpAny_askSetting (wpAny_pure ?_)))
  show wpAny _ _ (if (byTx w) = true then _ else _) _ _ _
  cases hw : byTx w with
  | true =>
    simp only [if_true]
    rw [show (ep != ep) = false from by simp]
    simp only [Bool.false_eq_true, if_false]
    refine wpAny_bind ?_
    unfold setWalk
    refine wpAny_bind (wpAny_setState_of ho x.data x.fits ?_)
    dsimp only
    unfold setsByText
    refine wpAny_bind (wpAny_bind (wpAny_askSetting (wpAny_pure ?_)))
    show wpAny _ _ (if (byTx w) = true then _ else _) _ _ _
    rw [hw]
    simp only [if_true]
    refine wpAny_bind (wpAny_askSetting (wpAny_pure ?_))
    refine wpAny_pure ?_
    have := h sl (fun e => by rw [hw] at e; cases e)
    unfold ordB at this
    rw [hw, if_pos rfl] at this
    exact this
  | false =>
    simp only [Bool.false_eq_true, if_false]
    show wpAny _ _ (if (!(true : Bool) && decide (es.size > 1)) = true then _ else _) _ _ _
    simp only [Bool.not_true, Bool.false_and, Bool.false_eq_true, if_false]
    show wpAny _ _ ((if (!(!false) && !es.isEmpty) = true then _ else _) >>= _) _ _ _
    simp only [Bool.not_false, Bool.not_true, Bool.false_and, Bool.false_eq_true, if_false]
    refine wpAny_bind (wpAny_pure ?_)
    have hsz := x.ents.size
    have hbel : SetTable.below (absT b big true).place sl = i := by rw [hs hw]; exact below_slot x.hb (by omega)
    rw [hbel]
    refine wpAny_pure ?_
    by_cases hlt : i < es.size
    · rw [Array.getElem?_eq_getElem hlt]
      have hp : (absT b big true).place[i]? = some ((bitsOf b)[i]'(by omega)) := by
        show (bitsOf b).toArray[i]? = _
        rw [List.getElem?_toArray, List.getElem?_eq_getElem (by omega)]
      rw [hp]
      dsimp only
      have := h ((bitsOf b)[i]'(by omega) + 1) (fun _ _ => by
        show _ = (bitsOf b).getD i 0 + 1
        rw [List.getD_eq_getElem?_getD, List.getElem?_eq_getElem (by omega)]; rfl)
      unfold ordB at this
      rw [hw, if_neg (by simp), Array.getElem?_eq_getElem hlt] at this
      exact this
    · have hn : es[i]? = none := Array.getElem?_eq_none (by omega)
      rw [hn]
      dsimp only
      have := h 0 (fun _ q => absurd q hlt)
      unfold ordB at this
      rw [hw, if_neg (by simp), hn] at this
      exact this
noncomputable def IsSetI (h : Heap) (I a : Addr) (i sl n ep : Nat) : Prop := ∃ o, h.get? I = some o ∧ o.cls = .type "set_iterator" ∧ o.data = .fields #[rawInt (sl : Int), rawInt (i : Int), .ref a, rawInt (n : Int), rawInt (ep : Int)]
theorem IsSetI.typeIs {I a : Addr} {i sl n ep} (x : IsSetI s.heap I a i sl n ep) : s.TypeIs (.ref I) "set_iterator" := let ⟨o, ho, hc, _⟩ := x; ⟨o, ho, hc⟩
theorem IsSetI.at {h h' : Heap} {I a : Addr} {i sl n ep} (x : IsSetI h I a i sl n ep) (e : ∀ o, h.get? I = some o → h'.get? I = some o) : IsSetI h' I a i sl n ep := let ⟨o, ho, r⟩ := x; ⟨o, e _ ho, r⟩
theorem iter_seti {I a : Addr} {i sl n ep} {Q : Value → Shared → Prop} (hit : IsSetI s.heap I a i sl n ep) (h : Q (.ref I) s) : wpAny (model prog w) A (pyIter (.ref I)) Q E s := by
  refine wpAny_pyIter_slot hit.typeIs slot_seti_iter (wpAny_call_entry slot_seti_iter hit.typeIs entry_seti_iter ?_ (args_seti_iter _))
  show wpAny _ _ (ret (.ref I)) _ _ s
  exact wpAny_pure ⟨_, rfl, "set_iterator", _, hit.typeIs, slot_seti_next.lookup, h⟩
theorem iter_set {b : Nat} {es : Array (Int × Value)} {ep : Nat} {big : Bool} {o : Obj} {Q : Value → Shared → Prop} (ho : s.heap.get? a = some o) (x : SetAt w b es ep big o)
    (h : Q (.ref s.heap.objs.size) { s with heap := s.heap.push { cls := .type "set_iterator", data := .fields #[rawInt 0, rawInt 0, .ref a, rawInt es.size, rawInt ep] } }) :
    wpAny (model prog w) A (pyIter (.ref a)) Q E s := by
  have hT : s.TypeIs (.ref a) "set" := ⟨o, ho, x.ex.1⟩
  refine wpAny_pyIter_slot hT F.slot_set_iter (wpAny_call_entry F.slot_set_iter hT entry_set_iter' ?_ (args_set_iter' _))
  unfold Builtin.«frozenset.__iter__» Builtin.Frozenset.slot0
  refine wpAny_bind (wpAny_bind (wpAny_of_eq (a := (Value.ref a, [])) rfl ?_))
  unfold Builtin.Frozenset.addrOf
  refine wpAny_pure ?_
  refine wpAny_bind ?_
  unfold Builtin.Frozenset.sizeOf
  refine wpAny_bind (wpAny_setEntries_of ho x.data x.fits (wpAny_pure ?_))
  refine wpAny_bind ?_
  refine wpAny_bind ?_
  refine wpAny_setState_of ho x.data x.fits ?_
  dsimp only
  unfold setsByText
  refine wpAny_bind (wpAny_bind (wpAny_askSetting (wpAny_pure ?_)))
  refine wpAny_pure ?_
  show wpAny _ _ (if (!(byTx w) && (!(true : Bool) && decide (es.size > 1))) = true then _ else _) _ _ _
  simp only [Bool.not_true, Bool.false_and, Bool.and_false, Bool.false_eq_true, if_false]
  refine wpAny_bind (wpAny_pure ?_)
  refine wpAny_bind ?_
  unfold setEpoch
  refine wpAny_bind (wpAny_setState_of ho x.data x.fits (wpAny_pure ?_))
  refine wpAny_bind ?_
  show wpAny _ _ (newObj (.type "set_iterator") (.fields #[_, _, _, _, _])) _ _ _
  refine wpAny_newObj_type ?_ (by size_fits)
  exact wpAny_pure ⟨_, rfl, "set_iterator", _, ⟨_, Heap.get?_push_size _ rfl, rfl⟩, slot_seti_next.lookup, h⟩
theorem wpAny_fieldsOf {o : Obj} {vs : Array Value} {Q : Array Value → Shared → Prop} (ho : s.heap.get? a = some o) (hd : o.data = .fields vs) (h : Q vs s) : wpAny (model prog w) A (fieldsOf (.ref a)) Q E s := by
  unfold fieldsOf
  refine wpAny_bind (wpAny_load ho ?_)
  rw [hd]
  exact wpAny_pure h
set_option linter.unusedVariables false in
theorem next_set_item {I : Addr} {b : Nat} {es : Array (Int × Value)} {ep i sl : Nat} {big : Bool} {o : Obj} {e : Int × Value} {Q : Option Value → Shared → Prop} (hne : a ≠ I) (ho : s.heap.get? a = some o) (x : SetAt w b es ep big o) (hit : IsSetI s.heap I a i sl es.size ep) (hi : i < es.size) (hs : byTx w = false → sl = slotB b i)
    (he : (ordB w a es ep)[i]? = some e)
    (hQ : ∀ h' sl', (byTx w = false → sl' = slotB b (i + 1)) → IsSetI h' I a (i + 1) sl' es.size ep → Heap.SameBut I s.heap h' → Q (some e.2) { s with heap := h' }) : wpAny (model prog w) A (pyNext (.ref I)) Q E s := by
  obtain ⟨oI, hoI, hc, hd⟩ := id hit
  unfold pyNext
  refine wpAny_bind (wpAny_attempt (wpAny_callSpecial?_slot (name := Str.ofString "__next__") hit.typeIs slot_seti_next
    (wpAny_call_entry slot_seti_next hit.typeIs entry_seti_next ?_ (args_seti_next _))))
  unfold Builtin.«set_iterator.__next__»
  refine wpAny_bind (wpAny_of_eq (a := (Value.ref I, [])) rfl ?_)
  try dsimp only
  refine wpAny_bind (wpAny_fieldsOf hoI hd ?_)
  show wpAny _ _ (setEntries a >>= _) _ _ _
  refine wpAny_bind (wpAny_setEntries_of ho x.data x.fits ?_)
  rw [show (((es.size : Nat) : Int) != ((es.size : Nat) : Int)) = false from by simp]
  simp only [Bool.false_eq_true, if_false]
  show wpAny _ _ (setNext a sl i ep >>= _) _ _ _
  refine wpAny_bind (setNext_b ho x (Nat.le_of_lt hi) hs fun sl' hs' => ?_)
  rw [he]
  show wpAny _ _ (setField (.ref I) 0 (rawInt (sl' : Int)) >>= _) _ _ _
  refine wpAny_bind (wpAny_setField hoI hd (by simp) ?_)
  have ho2 := Heap.get?_update_self (Obj.mapFields fun x => x.setIfInBounds 0 (rawInt (sl' : Int))) hoI (Obj.isFreed_of_fields (Obj.data_mapFields hd _))
  have hd2 := Obj.data_mapFields hd (fun x => x.setIfInBounds 0 (rawInt (sl' : Int)))
  show wpAny _ _ (setField (.ref I) 1 (rawInt ((i : Int) + 1)) >>= _) _ _ _
  refine wpAny_bind (wpAny_setField ho2 hd2 (by simp) ?_)
  have ho3 := Heap.get?_update_self (Obj.mapFields fun x => x.setIfInBounds 1 (rawInt ((i : Int) + 1))) ho2 (Obj.isFreed_of_fields (Obj.data_mapFields hd2 _))
  have hd3 := Obj.data_mapFields hd2 (fun x => x.setIfInBounds 1 (rawInt ((i : Int) + 1)))
  refine wpAny_pure ⟨_, rfl, wpAny_pure (hQ _ sl' (fun e => hs' e hi) ⟨_, ho3, (Obj.cls_mapFields ..).trans ((Obj.cls_mapFields ..).trans hc), ?_⟩ ((Heap.SameBut.update ..).trans (Heap.SameBut.update ..)))⟩
  rw [hd3]
  simp
set_option linter.unusedVariables false in
theorem next_set_end {I : Addr} {b : Nat} {es : Array (Int × Value)} {ep sl : Nat} {big : Bool} {o : Obj} {Q : Option Value → Shared → Prop} (hh : A.handled = none) (hne : a ≠ I) (ho : s.heap.get? a = some o) (x : SetAt w b es ep big o) (hit : IsSetI s.heap I a es.size sl es.size ep) (hs : byTx w = false → sl = slotB b es.size)
    (hQ : ∀ h', Heap.ExtBut I s.heap h' → Q none { s with heap := h' }) : wpAny (model prog w) A (pyNext (.ref I)) Q E s := by
  obtain ⟨oI, hoI, hc, hd⟩ := id hit
  unfold pyNext
  refine wpAny_bind (wpAny_attempt (wpAny_callSpecial?_slot (name := Str.ofString "__next__") hit.typeIs slot_seti_next
    (wpAny_call_entry slot_seti_next hit.typeIs entry_seti_next ?_ (args_seti_next _))))
  unfold Builtin.«set_iterator.__next__»
  refine wpAny_bind (wpAny_of_eq (a := (Value.ref I, [])) rfl ?_)
  try dsimp only
  refine wpAny_bind (wpAny_fieldsOf hoI hd ?_)
  show wpAny _ _ (setEntries a >>= _) _ _ _
  refine wpAny_bind (wpAny_setEntries_of ho x.data x.fits ?_)
  rw [show (((es.size : Nat) : Int) != ((es.size : Nat) : Int)) = false from by simp]
  simp only [Bool.false_eq_true, if_false]
  show wpAny _ _ (setNext a sl es.size ep >>= _) _ _ _
  refine wpAny_bind (setNext_b ho x (Nat.le_refl _) hs fun sl' hs' => ?_)
  rw [Array.getElem?_eq_none (by rw [ord_size]; exact Nat.le_refl _)]
  show wpAny _ _ (setField (.ref I) 2 .none >>= _) _ _ _
  refine wpAny_bind (wpAny_setField hoI hd (by simp) ?_)
  show wpAny _ _ (newExc (.type "StopIteration") [] >>= _) _ _ _
  refine wpAny_bind ?_
  simp only [newExc, newTuple]
  refine wpAny_bind (wpAny_newObj_type ?_ (by size_fits))
  refine wpAny_bind (m := firstArgMember _ _) (wpAny_of_eq (a := Value.none) (by first | rfl | (simp only [firstArgMember]; rfl)) ?_)
  refine wpAny_newObj_type ?_ (by size_fits)
  simp only [raiseNew]
  refine wpAny_bind (wpAny_handled ?_)
  first | rw [show A.in1.handled = none from hh] | rw [hh]
  refine wpAny_bind (wpAny_pure (wpAny_throw ?_))
  refine wpAny_bind (wpAny_isInstance (T := "StopIteration") (b := true) ⟨_, Heap.get?_push_size _ rfl, rfl⟩ isSubtype_stop ?_)
  refine wpAny_pure (hQ _ (Heap.ExtBut.push (Heap.ExtBut.push ?_ _) _))
  intro b o' hb eo
  exact ((Heap.SameBut.update ..).2 b hb).trans eo
theorem walks_set (hh : A.handled = none) (I a : Addr) (hne : a ≠ I) {b : Nat} {es : Array (Int × Value)} {ep : Nat} {big : Bool} :
    Walks prog w A I [I, a] [I] es.size (fun i v => ∃ e, (ordB w a es ep)[i]? = some e ∧ v = e.2) (fun i h => (∃ o, h.get? a = some o ∧ SetAt w b es ep big o) ∧ i ≤ es.size ∧ ∃ sl, (byTx w = false → sl = slotB b i) ∧ IsSetI h I a i sl es.size ep) where
  sub := fun b hb => by simp at hb; simp [hb]
  frame := fun i h h' st hk => by
    obtain ⟨⟨o, ho, x⟩, hi, sl, hs, hit⟩ := st
    exact ⟨⟨o, hk a (by simp) o ho, x⟩, hi, sl, hs, hit.at fun o e => hk I (by simp) o e⟩
  item := fun i s Q E hi st hQ => by
    obtain ⟨⟨o, ho, x⟩, _, sl, hs, hit⟩ := st
    have hlt : i < (ordB w a es ep).size := by rw [ord_size]; exact hi
    refine next_set_item hne ho x hit hi hs (Array.getElem?_eq_getElem hlt) fun h' sl' hs' hit' hsb => ?_
    exact hQ _ h' s.toks ⟨_, Array.getElem?_eq_getElem hlt, rfl⟩ ⟨⟨o, (hsb.2 a hne).trans ho, x⟩, hi, sl', hs', hit'⟩ fun b o hb eo => hsb.extBut b o (fun h => hb (by simp [h])) eo
  done := fun s Q E st hQ => by
    obtain ⟨⟨o, ho, x⟩, _, sl, hs, hit⟩ := st
    exact next_set_end hh hne ho x hit hs fun h' he' => hQ h' s.toks fun b o hb eo => he' b o (fun h => hb (by simp [h])) eo
  self := fun _ _ _ _ st hQ => by
    obtain ⟨_, _, sl, _, hit⟩ := st
    exact iter_seti hit hQ
end
end Mine
end
section
open PySem PySem.W PyProof.Rows PySem.Calls
set_option maxRecDepth 100000
set_option maxHeartbeats 2000000
namespace Mine
/-- a list of pairs of small ints -/
noncomputable def ArrAt (h : Heap) : List Value → List (Nat × Nat) → Prop
  | [], [] => True
  | v :: vs, p :: r => (∃ a t1 t2, v = .ref a ∧ h.IsTuple a #[.int ((p.1 : Nat) : Int) t1, .int ((p.2 : Nat) : Int) t2]) ∧ ArrAt h vs r
  | _, _ => False
theorem ArrAt.mono {h h' : Heap} (k : ∀ b o, h.get? b = some o → h'.get? b = some o) : ∀ {vs : List Value} {items : List (Nat × Nat)}, ArrAt h vs items → ArrAt h' vs items
  | [], [], _ => trivial
  | _ :: _, _ :: _, ⟨⟨a, t1, t2, e, o, ho, hc, hd⟩, r⟩ => ⟨⟨a, t1, t2, e, o, k a o ho, hc, hd⟩, ArrAt.mono k r⟩
  | [], _ :: _, h => h.elim
  | _ :: _, [], h => h.elim
theorem ArrAt.length {h : Heap} : ∀ {vs : List Value} {items : List (Nat × Nat)}, ArrAt h vs items → vs.length = items.length
  | [], [], _ => rfl
  | _ :: _, _ :: _, ⟨_, r⟩ => by rw [List.length_cons, List.length_cons, ArrAt.length r]
  | [], _ :: _, h => h.elim
  | _ :: _, [], h => h.elim
theorem ArrAt.get {h : Heap} : ∀ {vs : List Value} {items : List (Nat × Nat)}, ArrAt h vs items → ∀ {i : Nat} {p : Nat × Nat}, items[i]? = some p → ∃ a t1 t2, vs[i]? = some (.ref a) ∧ h.IsTuple a #[.int ((p.1 : Nat) : Int) t1, .int ((p.2 : Nat) : Int) t2]
  | [], [], _, _, _, e => by cases e
  | v :: vs, q :: r, ⟨⟨a, t1, t2, e, ht⟩, rest⟩, i, p, hi => by
    cases i with
    | zero =>
      cases hi
      exact ⟨a, t1, t2, by rw [e]; rfl, ht⟩
    | succ i => exact ArrAt.get rest hi
  | [], _ :: _, h, _, _, _ => h.elim
  | _ :: _, [], h, _, _, _ => h.elim

theorem compTurn_set (elt target iter : Expr) (ifs : List Expr) (scope : Scope) (pos : Pos) (it acc : Value) (env : Env) :
    compTurn (.SetComp elt [⟨target, iter, ifs, 0⟩] scope pos) 0 it acc env = (do
      standAt iter.pos
      match ← pyNext it with
      | none => pure (.done .next)
      | some v =>
        letOwnedTupleGo target it v
        assign target env v
        let mut ok := true
        for c in ifs do
          if ok then ok ← isTrue c env (eval c env)
        if ok then
          (do let v ← eval elt env; standAt elt.pos; let _ ← call (.builtin "set.add") [acc, v])
        again (.compLoop (.SetComp elt [⟨target, iter, ifs, 0⟩] scope pos) 0 it acc env)) := by rfl

section
variable {prog : Program} {w : World} {A : Around} {E : Value → Shared → Prop} {R : Result → Shared → Prop} {s : Shared}
theorem codeAny_compStart_set {elt target iter ifs rest scope pos it acc env}
    (h0 : codeAny (model prog w) A (.compLoop (.SetComp elt (⟨target, iter, ifs, 0⟩ :: rest) scope pos) 0 it acc env) R s)
    (h : wpAny (model prog w) A (pyIter it) (fun it' s' => codeAny (model prog w) A (.compLoop (.SetComp elt (⟨target, iter, ifs, 0⟩ :: rest) scope pos) 0 it' acc env) R s')
      (notedBy (model prog w) A env fun x s' => R (.error x) s') s) :
    codeAny (model prog w) A (.compStart (.SetComp elt (⟨target, iter, ifs, 0⟩ :: rest) scope pos) 0 it acc env) R s := by
  refine codeAny_of_tree ?_
  show wpAny _ A ((compStart (.SetComp elt (⟨target, iter, ifs, 0⟩ :: rest) scope pos) 0 it acc env).onRaise (fun x => do noteFrame x env; standAt theWindowsPlace)) _ _ s
  refine wpAny_notedAt ?_
  unfold compStart
  show wpAny _ A (ask >>= _) _ _ s
  refine wpAny_bind (wpAny_askSetting (wpAny_ite ?_))
  split
  · first
      | exact wpAny_bind (wpAny_pure (wpAny_pure (And.intro rfl h0)))
      | exact wpAny_pure (And.intro rfl h0)
  · first
      | exact wpAny_bind (wpAny_rule (wpAny_bind (wpAny_standAt (wpAny_bind (wpAny_mono h (fun it' s' h' => wpAny_pure (And.intro rfl h')) fun _ _ x => x)))))
      | (refine wpAny_bind (wpAny_rule ?_); show wpAny _ _ (standAt iter.pos >>= _) _ _ s; exact wpAny_bind (wpAny_standAt (wpAny_bind (wpAny_mono h (fun it' s' h' => wpAny_pure (And.intro rfl h')) fun _ _ x => x))))

theorem codeAny_compLoop_set {elt target iter : Expr} {ifs : List Expr} {scope : Scope} {pos : Pos} {it acc : Value} {env : Env} (I : Nat → Shared → Prop)
    (turn : ∀ n s, I n s → wpAny (model prog w) A (pyNext it) (fun r s₁ => match r with
      | none => R (.ok .next) s₁
      | some v => wpAny (model prog w) A (letOwnedTupleGo target it v) (fun _ s₁' => wpAny (model prog w) A (assign target env v) (fun _ s₂ =>
          wpAny (model prog w) A (forIn ifs true fun c r => if r = true then do let ok ← isTrue c env (eval c env); pure (ForInStep.yield ok) else pure (ForInStep.yield r)) (fun ok s₃ =>
            if ok = true then wpAny (model prog w) A (eval elt env) (fun x s₄ =>
              wpAny (model prog w) A (call (.builtin "set.add") [acc, x]) (fun _ s₅ => ∃ m, m < n ∧ I m s₅) (notedBy (model prog w) A env fun e s' => R (.error e) s') s₄) (notedBy (model prog w) A env fun e s' => R (.error e) s') s₃
            else ∃ m, m < n ∧ I m s₃) (notedBy (model prog w) A env fun e s' => R (.error e) s') s₂) (notedBy (model prog w) A env fun e s' => R (.error e) s') s₁') (notedBy (model prog w) A env fun e s' => R (.error e) s') s₁) (notedBy (model prog w) A env fun e s' => R (.error e) s') s)
    (n : Nat) (h : I n s) :
    codeAny (model prog w) A (.compLoop (.SetComp elt [⟨target, iter, ifs, 0⟩] scope pos) 0 it acc env) R s := by
  refine codeAny_loop rfl I (fun n s hI => ?_) n h
  show wpAny _ A ((compTurn (.SetComp elt [⟨target, iter, ifs, 0⟩] scope pos) 0 it acc env).onRaise (fun x => do noteFrame x env; theTreesLotGoes x)) _ _ s
  refine wpAny_noted ?_
  rw [compTurn_set]
  refine wpAny_bind (wpAny_standAt (wpAny_bind (wpAny_mono (turn n s hI) (fun r s₁ h₁ => ?_) fun _ _ h' => h')))
  cases r with
  | none => exact wpAny_pure h₁
  | some v =>
    refine wpAny_bind (wpAny_mono h₁ (fun _ s₁' h₁' => ?_) fun _ _ h' => h')
    refine wpAny_bind (wpAny_mono h₁' (fun _ s₂ h₂ => wpAny_bind (wpAny_mono h₂ (fun ok s₃ h₃ => ?_) fun _ _ h' => h')) fun _ _ h' => h')
    cases ok with
    | false => exact wpAny_pure ⟨rfl, h₃⟩
    | true =>
      exact wpAny_bind (wpAny_bind (wpAny_mono h₃ (fun x s₄ h₄ => wpAny_bind (wpAny_standAt (wpAny_bind (wpAny_mono h₄ (fun _ s₅ h₅ => wpAny_pure (wpAny_pure ⟨rfl, h₅⟩)) fun _ _ h' => h')))) fun _ _ h' => h'))
end

section
variable {prog : Program} {w : World} {A : Around} {E : Value → Shared → Prop} {s s₁ : Shared} {env : Env} {h₀ : Heap} {L : Addr} {m : Str → Option Value} {news : List (Addr × Obj)}
noncomputable def hasBit (p : Nat × Nat → Bool) (ar : List (Nat × Nat)) (k : Nat) : Bool := ar.any fun a => p a && a.2 == k
noncomputable def SetCompAt (prog : Program) (w : World) (A : Around) (env : Env) (elt : Expr) (xi xc : Str) (ifs : List Expr) (scope : Scope) (cl : List (Str × Addr)) (p : Nat × Nat → Bool) (ar : List (Nat × Nat)) (h₀ : Heap) (L : Addr) (m : Str → Option Value) (news : List (Addr × Obj)) (Q : Value → Shared → Prop) (xv : Value) (s₁ : Shared) : Prop :=
  ∃ l vs, xv = .ref l ∧ s₁.heap.IsList l (List.toArray vs) ∧ ArrAt s₁.heap vs ar ∧ Fr h₀ L s₁.heap m ∧ News h₀ L s₁.heap news ∧
  (∀ C a t1 t2 s₃ m₃, a ∈ ar → Fr h₀ L s₃.heap m → News h₀ L s₃.heap news → s₃.heap.Ns C m₃ → m₃ xi = some (.int ((a.1 : Nat) : Int) t1) → m₃ xc = some (.int ((a.2 : Nat) : Int) t2) → (∀ b o, s₁.heap.get? b = some o → s₃.heap.get? b = some o) →
      wpAny (model prog w) A (forIn ifs true fun c r => if r = true then do let ok ← isTrue c (compEnvC scope cl C env) (eval c (compEnvC scope cl C env)); pure (ForInStep.yield ok) else pure (ForInStep.yield r)) (fun ok s₄ => ok = p a ∧ Keeps s₃ s₄) (fun _ _ => False) s₃) ∧
  (∀ C a t1 t2 s₃ m₃, a ∈ ar → Fr h₀ L s₃.heap m → News h₀ L s₃.heap news → s₃.heap.Ns C m₃ → m₃ xi = some (.int ((a.1 : Nat) : Int) t1) → m₃ xc = some (.int ((a.2 : Nat) : Int) t2) → (∀ b o, s₁.heap.get? b = some o → s₃.heap.get? b = some o) →
      wpAny (model prog w) A (eval elt (compEnvC scope cl C env)) (fun y s₄ => (∃ t, y = .int ((a.2 : Nat) : Int) t) ∧ Keeps s₃ s₄) (fun _ _ => False) s₃) ∧
  (∀ D h' tk b o, Fr h₀ L h' m → News h₀ L h' news → s₁.heap.get? D = none → h'.get? D = some o → SetB b (!byTx w) o → (∀ k < 6, b.testBit k = hasBit p ar k) →
      (∀ b o, s₁.heap.get? b = some o → h'.get? b = some o) → Q (.ref D) { s₁ with heap := h', toks := tk })
theorem hasBit_take {p : Nat × Nat → Bool} {ar : List (Nat × Nat)} {i : Nat} {a : Nat × Nat} (h : ar[i]? = some a) (k : Nat) : hasBit p (ar.take (i + 1)) k = (hasBit p (ar.take i) k || (p a && a.2 == k)) := by
  unfold hasBit
  rw [List.take_add_one, h]
  simp [List.any_append]
theorem set_comp {elt iter : Expr} {xi xc : Str} {pk pv pt : Pos} {x1 : Nat} {ifs : List Expr} {scope : Scope} {cl : List (Str × Addr)} {pos : Pos} {Q : Value → Shared → Prop} {ar : List (Nat × Nat)} (p : Nat × Nat → Bool) (hh : A.handled = none)
    (hclos : closureFor scope env = pure cl) (hcell : ∀ y ∈ scope.names, y.2 ≠ .cell) (hkind : scope.kind = .function) (hnames : ∀ y ∈ scope.names, y.2 = .local → scope.names.lookup y.1 = some .local)
    (hxi : scope.names.lookup xi = some .local) (hxc : scope.names.lookup xc = some .local) (hne : xi ≠ xc) (har : ∀ a ∈ ar, a.1 < 6 ∧ a.2 < 6)
    (hs : ∀ x, foldedSetIterable iter env x = pure x)
    (h : wpAny (model prog w) A (eval iter env) (SetCompAt prog w A env elt xi xc ifs scope cl p ar h₀ L m news Q) E s) :
    wpAny (model prog w) A (eval (.SetComp elt [⟨.Tuple [.Name xi pk, .Name xc pv] x1 pt, iter, ifs, 0⟩] scope pos) env) Q E s := by
  show wpAny _ A (comprehension (.SetComp elt [⟨.Tuple [.Name xi pk, .Name xc pv] x1 pt, iter, ifs, 0⟩] scope pos) scope env iter.pos (newSet (.type "set")) false (eval iter env) none) _ _ _
  refine wpAny_comprehension_free (use := none) rfl hs hclos hkind hnames (wpAny_mono h (fun xv s₁ h₁ => ?_) fun _ _ e => e)
  obtain ⟨l, vs, rfl, hl, hA, F₁, N₁, tests, elts, done⟩ := h₁
  refine wpAny_pyIter_list hl ?_
  refine newSet_b fun oD gD0 hD0 => ?_
  refine wpAny_newFunctionEnv hcell (by intro y hy; simp at hy) (fun h₁ hns₁ hsb₁ => ?_) hkind
  dsimp only at hns₁ hsb₁ gD0 ⊢
  generalize hI : s₁.heap.objs.size = I at *
  have e1 : (s₁.heap.push { cls := .type "list_iterator", data := .fields #[.ref l, .int 0 0] }).objs.size = I + 1 := by rw [Heap.size_push, hI]
  rw [e1] at gD0 ⊢
  have e2 : ((s₁.heap.push { cls := .type "list_iterator", data := .fields #[.ref l, .int 0 0] }).push oD).objs.size = I + 2 := by rw [Heap.size_push, e1]
  rw [e2] at hns₁ hsb₁ ⊢
  have lt : ∀ b o, s₁.heap.get? b = some o → b < I := fun b o e => by rw [← hI]; exact Heap.lt_size e
  have old : ∀ b o, s₁.heap.get? b = some o → h₁.get? b = some o := fun b o e => hsb₁.extBut b o (by have := lt b o e; intro q; rw [q] at this; exact absurd this (by show ¬ (I + 2 < I); omega)) (Heap.get?_push_of_some _ (Heap.get?_push_of_some _ (Heap.get?_push_of_some _ e)))
  have hit₁ : h₁.IsListIter I l 0 := ⟨_, hsb₁.extBut _ _ (by show I ≠ I + 2; omega) (Heap.get?_push_of_some _ (Heap.get?_push_of_some _ (by rw [← hI]; exact Heap.get?_push_size _ rfl))), rfl, rfl⟩
  have gD₁ : h₁.get? (I + 1) = some oD := hsb₁.extBut _ _ (by show I + 1 ≠ I + 2; omega) (Heap.get?_push_of_some _ gD0)
  have n1 : s₁.heap.get? (I + 1) = none := Heap.get?_none_of_le (by rw [hI]; omega)
  have hvl := hA.length
  have kind : (compEnvC scope cl (I + 2) env).scope.kind = .function := by simp [compEnvC, relabel, hkind]
  have hpp : ((compEnvC scope cl (I + 2) env).scope.kind == .class || ((compEnvC scope cl (I + 2) env).scope.kind == .module && (compEnvC scope cl (I + 2) env).locals != (compEnvC scope cl (I + 2) env).globals)) = false := by rw [kind]; rfl
  have loop : ∀ tk, codeAny (model prog w) A (.compLoop (.SetComp elt [⟨.Tuple [.Name xi pk, .Name xc pv] x1 pt, iter, ifs, 0⟩] scope pos) 0 (.ref I) (.ref (I + 1)) (compEnvC scope cl (I + 2) env))
      (compPost (model prog w) A E none Q (.ref (I + 1)) (I + 2)) { s₁ with heap := h₁, toks := tk } := by
    intro tk0
    refine codeAny_compLoop_set
      (fun k s' => ∃ h' tk m' b o i, s' = { s₁ with heap := h', toks := tk } ∧ h'.IsListIter I l i ∧ h'.get? (I + 1) = some o ∧ SetB b (!byTx w) o ∧ h'.Ns (I + 2) m' ∧ (∀ k < 6, b.testBit k = hasBit p (ar.take i) k) ∧ i ≤ ar.length ∧ k = ar.length + 1 - i ∧ (∀ b o, s₁.heap.get? b = some o → h'.get? b = some o)) ?_ (ar.length + 1)
      ⟨h₁, tk0, _, 0, oD, 0, rfl, hit₁, gD₁, hD0, hns₁, (by intro k hk; simp [hasBit]), Nat.zero_le _, rfl, old⟩
    rintro k s' ⟨h', tk, m', b, o, i, rfl, hit', gD', hD', hns', hbits, hi, rfl, hk⟩
    have hl' : h'.IsList l vs.toArray := hl.at fun o e => hk _ _ e
    have hA' := hA.mono hk
    by_cases hlt : i < ar.length
    · have hgi : ar[i]? = some ar[i] := List.getElem?_eq_getElem hlt
      have hmem : ar[i] ∈ ar := List.getElem_mem hlt
      obtain ⟨T, t1, t2, hT, _⟩ := hA'.get hgi
      have hTl : T < I := by
        obtain ⟨T0, u1, u2, hT0, o0, ho0, _⟩ := hA.get hgi
        rw [hT] at hT0; cases hT0
        exact lt _ _ ho0
      refine wpAny_mono (E := fun _ _ => False) ?_ (fun _ _ x => x) (fun _ _ x => x.elim)
      refine wpAny_pyNext_list_item hit' hl' (x := .ref T) (by simpa using hT) fun h₂ hit₂ hs₂ => ?_
      refine wpAny_mono (E := fun _ _ => False) ?_ (fun _ _ x => x) (fun _ _ x => x.elim)
      refine wpAny_letOwnedTupleGo_listiter hit₂ ?_
      have up₂ : ∀ b o, s₁.heap.get? b = some o → h₂.get? b = some o := fun b o e => (hs₂.2 b (by have := lt b o e; intro q; rw [q] at this; exact absurd this (Nat.lt_irrefl _))).trans (hk b o e)
      obtain ⟨T', u1, u2, hT', ht⟩ := (hA.mono up₂).get hgi
      rw [hT] at hT'; cases hT'
      refine wpAny_mono (E := fun _ _ => False) ?_ (fun _ _ x => x) (fun _ _ x => x.elim)
      refine wpAny_assign_Tuple hh ht rfl rfl fun h₃ hx₃ => ?_
      replace hx₃ : Heap.ExtBut h₂.objs.size h₂ h₃ := hx₃
      have up₃ : ∀ b o, h₂.get? b = some o → h₃.get? b = some o := fun b o x => hx₃ b o (Nat.ne_of_lt (Heap.lt_size x)) x
      have hns₃ : h₃.Ns (I + 2) m' := (hns'.sameBut hs₂ (by show I + 2 ≠ I; omega)).keeps up₃
      have gD₃ : h₃.get? (I + 1) = some o := up₃ _ _ ((hs₂.2 _ (by show I + 1 ≠ I; omega)).trans gD')
      have hit₃ : h₃.IsListIter I l (i + 1) := hit₂.at fun o e => up₃ _ o e
      show wpAny _ A (do holding [_] (assign (.Name xi pk) (compEnvC scope cl (I + 2) env) _); do holding [] (assign (.Name xc pv) (compEnvC scope cl (I + 2) env) _); pure ()) _ _ _
      refine wpAny_bind (wpAny_holding (wpAny_assign_Name (wpAny_storeName_local (lookup_relabel_local hxi) hns₃ (fun h₄ hn₄ hs₄ => ?_) hpp)))
      refine wpAny_bind (wpAny_holding (wpAny_assign_Name (wpAny_storeName_local (lookup_relabel_local hxc) hn₄ (fun h₅ hn₅ hs₅ => wpAny_pure ?_) hpp)))
      replace hs₄ : Heap.SameBut (I + 2) h₃ h₄ := hs₄
      replace hs₅ : Heap.SameBut (I + 2) h₄ h₅ := hs₅
      have up₅ : ∀ b o, b ≠ I + 2 → h₃.get? b = some o → h₅.get? b = some o := fun b o hb e => (hs₅.2 b hb).trans ((hs₄.2 b hb).trans e)
      have up : ∀ b o, s₁.heap.get? b = some o → h₅.get? b = some o := fun b o e => up₅ b o (by have := lt b o e; intro q; rw [q] at this; exact absurd this (by show ¬ (I + 2 < I); omega)) (up₃ b o (up₂ b o e))
      have gD₅ : h₅.get? (I + 1) = some o := up₅ _ _ (by show I + 1 ≠ I + 2; omega) gD₃
      have hit₅ : h₅.IsListIter I l (i + 1) := hit₃.at fun o e => up₅ _ o (by show I ≠ I + 2; omega) e
      have F₅ := F₁.keeps up
      have N₅ := N₁.grown up
      refine wpAny_mono (E := fun _ _ => False) (tests (I + 2) ar[i] u1 u2 _ _ hmem F₅ N₅ hn₅ (by simp [hne]) (by simp) up) (fun ok s₆ h₆ => ?_) fun _ _ e => e.elim
      obtain ⟨rfl, h₆, tk₆, rfl, hk₆⟩ := h₆
      have up6 : ∀ b o, s₁.heap.get? b = some o → h₆.get? b = some o := fun b o e => hk₆ b o (up b o e)
      cases hpv : p ar[i] with
      | false =>
        simp only [Bool.false_eq_true, if_false]
        refine ⟨ar.length + 1 - (i + 1), by omega, h₆, tk₆, _, b, o, i + 1, rfl, hit₅.at fun o e => hk₆ _ o e, hk₆ _ _ gD₅, hD', hn₅.keeps hk₆, fun k hk => ?_, hlt, rfl, up6⟩
        rw [hasBit_take hgi, hpv]; simp [hbits k hk]
      | true =>
        simp only [if_true]
        refine wpAny_mono (E := fun _ _ => False) (elts (I + 2) ar[i] u1 u2 { s₁ with heap := h₆, toks := tk₆ } _ hmem (F₅.keeps hk₆) (N₅.grown hk₆) (hn₅.keeps hk₆) (by simp [hne]) (by simp) up6) (fun z s₇ h₇ => ?_) fun _ _ e => e.elim
        obtain ⟨⟨tz, rfl⟩, h₇, tk₇, rfl, hk₇⟩ := h₇
        refine set_add_b (s := { s₁ with heap := h₇, toks := tk₇ }) (hk₇ _ _ (hk₆ _ _ gD₅)) hD' (har _ hmem).2 fun h₈ o₈ b₈ hsb₈ ho₈ hS₈ hb₈ => ?_
        replace hsb₈ : Heap.SameBut (I + 1) h₇ h₈ := hsb₈
        refine ⟨ar.length + 1 - (i + 1), by omega, h₈, _, _, b₈, o₈, i + 1, rfl, hit₅.at fun o e => (hsb₈.2 I (by show I ≠ I + 1; omega)).trans (hk₇ _ _ (hk₆ _ o e)), ho₈, hS₈, ((hn₅.keeps hk₆).keeps hk₇).sameBut hsb₈ (by show I + 2 ≠ I + 1; omega), fun k hk => ?_, hlt, rfl, fun b o e => ?_⟩
        · rw [hasBit_take hgi, hpv, hb₈ k hk, hbits k hk]
          by_cases q : ar[i].2 = k
          · simp [q]
          · have q' : ¬ k = ar[i].2 := fun e => q e.symm
            simp [q, q']
        · exact (hsb₈.2 b (by have := lt b o e; intro q; rw [q] at this; exact absurd this (by show ¬ (I + 1 < I); omega))).trans (hk₇ b o (up6 b o e))
    · have hin : i = ar.length := by omega
      subst hin
      refine wpAny_pyNext_list_end hh hit' hl' (by simp [hvl]) fun h₂ he₂ => ?_
      have up₂ : ∀ b o, b ≠ I → h'.get? b = some o → h₂.get? b = some o := fun b o hb e => he₂ b o hb e
      refine ⟨_, hns'.extBut he₂ (by show I + 2 ≠ I; omega), fun h'' hs'' => ?_⟩
      have up : ∀ b o, s₁.heap.get? b = some o → h''.get? b = some o := fun b o e => (hs''.2 b (by have := lt b o e; intro q; rw [q] at this; exact absurd this (by show ¬ (I + 2 < I); omega))).trans (up₂ b o (by have := lt b o e; intro q; rw [q] at this; exact absurd this (Nat.lt_irrefl _)) (hk b o e))
      refine done (I + 1) h'' tk b o (F₁.keeps up) (N₁.grown up) n1 ((hs''.2 _ (by show I + 1 ≠ I + 2; omega)).trans (up₂ _ _ (by show I + 1 ≠ I; omega) gD')) hD' (fun k hk => ?_) up
      rw [hbits k hk, List.take_length]
  refine codeAny_compStart_set (loop _) ?_
  refine wpAny_mono (E := fun _ _ => False) ?_ (fun _ _ x => x) (fun _ _ x => x.elim)
  exact wpAny_pyIter_listiter hit₁ (loop _)
end
end Mine
end
section
open PySem PySem.W PyProof.Rows PySem.Calls
set_option maxRecDepth 100000
set_option maxHeartbeats 2000000
namespace Mine
section
variable {prog : Program} {w : World} {A : Around} {E : Value → Shared → Prop} {s : Shared} {a : Addr} {h₀ : Heap} {L : Addr} {m : Str → Option Value} {news : List (Addr × Obj)}
theorem hint_set {Q : Bool → Shared → Prop} (hT : s.TypeIs (.ref a) "set") (h : Q false s) : wpAny (model prog w) A (Builtin.List.listLengthHint (.ref a)) Q E s := by
  unfold Builtin.List.listLengthHint
  refine wpAny_bind (wpAny_specialOf hT F.slot_set_len.lookup ?_)
  generalize hid : ("set.__len__" : String) = id0
  wp_delta
  rw [show splitId id0 = some ("set", "__len__") from by subst hid; decide +kernel]
  subst hid
  refine wpAny_bind (wpAny_isInstance (T := "set") (b := true) hT (by rw [isSubtype_type]; kernel_rfl) ?_)
  refine wpAny_ite_split (fun hab => absurd hab (by decide)) (fun _ => ?_)
  refine wpAny_ite_split (fun _ => ?_) (fun hab => absurd (by decide +kernel) hab)
  refine wpAny_bind (wpAny_typeOf hT ?_)
  exact wpAny_pure h
theorem src_set {b : Nat} {es : Array (Int × Value)} {ep : Nat} {big : Bool} :
    KdlSrc prog w "set" a a es.size (fun i v => ∃ e, (ordB w a es ep)[i]? = some e ∧ v = e.2) (fun h => ∃ o, h.get? a = some o ∧ SetAt w b es ep big o) where
  type := fun _ ⟨o, ho, x⟩ => ⟨o, ho, x.ex.1⟩
  there := fun _ ⟨o, ho, x⟩ => ⟨Heap.lt_size ho, Heap.lt_size ho⟩
  keep := fun _ _ ⟨o, ho, x⟩ hk => ⟨o, hk a (.inl rfl) o ho, x⟩
  notList := by decide
  notTuple := by decide
  hint := fun _ _ _ _ ⟨o, ho, x⟩ hq => hint_set ⟨o, ho, x.ex.1⟩ hq
  iter := fun _ s hh ⟨o, ho, x⟩ => ⟨_, _, (fun _ _ hq => iter_set ho x hq), walks_set hh _ a (Nat.ne_of_lt (Heap.lt_size ho)) (b := b) (es := es) (ep := ep) (big := big),
    ⟨⟨o, Heap.get?_push_of_some _ ho, x⟩, Nat.zero_le _, 0, (fun _ => rfl), ⟨_, Heap.get?_push_size _ rfl, rfl, rfl⟩⟩⟩
theorem EntsB.ints {b : Nat} {es : Array (Int × Value)} (h : EntsB b es) : ∀ {l : List (Int × Value)}, List.Perm l es.toList → IntsAre (l.map (·.2)) (l.map (·.1)) ∧ List.Perm (l.map (·.1)) (hasB b) := by
  intro l hp
  constructor
  · have hm : ∀ e ∈ l, ∃ t, e.2 = .int e.1 t := fun e he => h.2 e (hp.mem_iff.mp he)
    clear hp h
    induction l with
    | nil => exact .nil
    | cons e r ih =>
      obtain ⟨t, ht⟩ := hm e (.head _)
      show IntsAre (e.2 :: _) (e.1 :: _)
      rw [ht]
      exact .cons _ _ (ih fun x hx => hm x (.tail _ hx))
  · have e : es.toList.map (·.1) = hasB b := by
      have := congrArg Array.toList h.1
      simpa using this
    rw [← e]
    exact hp.map _
theorem sorted_set {b : Nat} {o : Obj} {Q : Value → Shared → Prop} (hh : A.handled = none) (F : Fr h₀ L s.heap m) (N : News h₀ L s.heap news) (ho : s.heap.get? a = some o) (hS : SetB b (!byTx w) o)
    (h : ∀ D h' tk vs ns, Fr h₀ L h' m → News h₀ L h' news → s.heap.get? D = none → h'.IsList D (List.toArray vs) → IntsAre vs ns → ns.Perm (hasB b) → ns.Pairwise (· ≤ ·) → (∀ b o, s.heap.get? b = some o → h'.get? b = some o) → Q (.ref D) { s with heap := h', toks := tk }) :
    wpAny (model prog w) A (call (.builtin "sorted") [.ref a]) Q E s := by
  obtain ⟨hex, es, ep, big, hb, hr, hd, hE⟩ := id hS
  have x : SetAt w b es ep big o := ⟨hex, hb, hr, hd, hE⟩
  have h6 : es.size ≤ 6 := by rw [hE.size]; exact bits_len b hb
  refine call_function_entry kind_sorted plain_sorted entry_sorted (args_sorted1 _) ?_
  unfold Builtin.«sorted»
  refine wpAny_bind (m := checkCount "sorted" 1 1 _) (wpAny_pure ?_)
  refine wpAny_bind (kdu_collect (A := A.in1) (src_set (b := b) (es := es) (ep := ep) (big := big)) hh ⟨o, ho, x⟩ (Nat.le_trans h6 (by decide +kernel)) fun h' tk acc hk hacc => ?_)
  have el : acc.toList = (ordB w a es ep).toList.map (·.2) := by
    refine List.ext_getElem? fun j => ?_
    by_cases hj : j < acc.size
    · obtain ⟨e, he, hv⟩ := hacc.2 j _ (Array.getElem?_eq_getElem hj)
      rw [Array.getElem?_toList, Array.getElem?_eq_getElem hj, List.getElem?_map, Array.getElem?_toList, he, hv]
      rfl
    · have h1 : acc.toList.length ≤ j := by simpa using Nat.not_lt.mp hj
      have h2 : ((ordB w a es ep).toList.map (·.2)).length ≤ j := by
        rw [List.length_map, Array.length_toList, ord_size, ← hacc.1]; exact Nat.not_lt.mp hj
      rw [List.getElem?_eq_none h1, List.getElem?_eq_none h2]
  obtain ⟨hI, hP⟩ := hE.ints (ord_perm (w := w) (a := a) (es := es) (ep := ep))
  rw [← el] at hI
  have hl : acc.toList.length ≤ 6 := by rw [Array.length_toList, hacc.1]; exact h6
  refine wpAny_bind (wpAny_newList ?_ (Nat.le_trans hl (by decide +kernel)))
  have hoL : (h'.push (seqObj "list" acc.toList.toArray 0)).get? h'.objs.size = some (seqObj "list" acc.toList.toArray 0) := Heap.get?_push_size _ rfl
  refine wpAny_bind (wpAny_holding (wpAny_call_entry slot_list_sort ⟨_, hoL, rfl⟩ entry_list_sort (list_sort_tree (s := { s with heap := h'.push (seqObj "list" acc.toList.toArray 0), toks := tk }) hoL hI (by omega) fun out ns' a1 a2 a3 => ⟨_, rfl, ?_⟩) (args_list_sort _)))
  have old : ∀ b o, s.heap.get? b = some o → (sortedHeap (h'.push (seqObj "list" acc.toList.toArray 0)) h'.objs.size acc.toList out).get? b = some o := fun b o e => by
    have e1 := hk b o e
    have e2 : (h'.push (seqObj "list" acc.toList.toArray 0)).get? b = some o := Heap.get?_push_of_some _ e1
    rw [sortedHeap_old (Nat.ne_of_lt (Heap.lt_size e1)) (Heap.lt_size e2)]
    exact e2
  have hat := sortedHeap_at (h := h'.push (seqObj "list" acc.toList.toArray 0)) (a := h'.objs.size) (vs := acc.toList) (n := 0) (out := out) hoL
  have hnone : s.heap.get? h'.objs.size = none := by
    cases q : s.heap.get? h'.objs.size with
    | none => rfl
    | some o' => exact absurd (Heap.lt_size (hk _ _ q)) (Nat.lt_irrefl _)
  refine wpAny_pure ⟨_, rfl, h h'.objs.size _ tk out.toList ns' (F.keeps old) (N.grown old) hnone ?_ a1 (a2.trans hP) a3 old⟩
  obtain ⟨e, he⟩ := hat
  exact ⟨_, he, rfl, e, by simp⟩
end
end Mine
end
section
open PySem PySem.W PyProof.Rows PySem.Calls
set_option maxRecDepth 100000
set_option maxHeartbeats 2000000
namespace Mine
/-! the sets' items -/
noncomputable def atK (d j : Nat) : Str := Str.ofString "at" ++ sg d j
theorem low_At : ∀ d < 15, ∀ j < 6, Txt.lower (Str.ofString "At" ++ sg d j) = atK d j := by decide +kernel
theorem low_aT : ∀ d < 15, ∀ j < 6, Txt.lower (Str.ofString "aT" ++ sg d j) = atK d j := by decide +kernel
theorem low_AT : ∀ d < 15, ∀ j < 6, Txt.lower (Str.ofString "AT" ++ sg d j) = atK d j := by decide +kernel
theorem low_at : ∀ d < 15, ∀ j < 6, Txt.lower (Str.ofString "at" ++ sg d j) = atK d j := by decide +kernel
theorem low_tO : ∀ d < 15, ∀ j < 6, Txt.lower (Str.ofString "tO" ++ sg d j) = Str.ofString "to" ++ sg d j := by decide +kernel
theorem low_fROM : ∀ d < 15, ∀ j < 6, Txt.lower (Str.ofString "fROM" ++ sg d j) = Str.ofString "from" ++ sg d j := by decide +kernel
theorem atK_clean : ∀ d < 15, ∀ j < 6, ∀ c ∈ (atK d j).cps, 32 ≤ c ∧ c < 127 := by decide +kernel
theorem toK_clean : ∀ d < 15, ∀ j < 6, ∀ c ∈ (Str.ofString "to" ++ sg d j).cps, 32 ≤ c ∧ c < 127 := by decide +kernel
theorem fromK_clean : ∀ d < 15, ∀ j < 6, ∀ c ∈ (Str.ofString "from" ++ sg d j).cps, 32 ≤ c ∧ c < 127 := by decide +kernel
theorem At_clean : ∀ d < 15, ∀ j < 6, ∀ c ∈ (Str.ofString "At" ++ sg d j).cps, 32 ≤ c ∧ c < 127 := by decide +kernel
theorem atK_inj : ∀ d < 15, ∀ i < 6, ∀ j < 6, atK d i = atK d j → i = j := by decide +kernel
noncomputable def IS (d : Nat) (S : Nat → Nat → Bool) (items : List (Str × Str)) : Prop := (∀ j < 6, findLow (atK d j) items = some (txt d (S j))) ∧ ∀ p ∈ items, p.1.length ≤ 1000
theorem findLow_append {key : Str} {v : Str} {nm : Str} : ∀ {items : List (Str × Str)}, findLow key (items ++ [(nm, v)]) = match findLow key items with
    | some r => some r
    | none => if Txt.lower nm = key then some v else none
  | [] => rfl
  | p :: r => by
    show (if Txt.lower p.1 = key then some p.2 else findLow key (r ++ [(nm, v)])) = match (if Txt.lower p.1 = key then some p.2 else findLow key r) with
      | some r => some r
      | none => if Txt.lower nm = key then some v else none
    by_cases h : Txt.lower p.1 = key
    · rw [if_pos h, if_pos h]
    · rw [if_neg h, if_neg h, findLow_append]
theorem findLow_filter_ne {key key' : Str} (hne : key ≠ key') : ∀ {items : List (Str × Str)}, findLow key (items.filter fun p => Txt.lower p.1 != key') = findLow key items
  | [] => rfl
  | p :: r => by
    cases h : (Txt.lower p.1 != key') with
    | true =>
      rw [List.filter_cons_of_pos (p := fun p : Str × Str => Txt.lower p.1 != key') h]
      show (if _ then _ else _) = (if _ then _ else _)
      rw [findLow_filter_ne hne]
    | false =>
      rw [List.filter_cons_of_neg (p := fun p : Str × Str => Txt.lower p.1 != key') (by simpa using h), findLow_filter_ne hne]
      have e : Txt.lower p.1 = key' := by simpa using h
      show _ = (if _ then _ else _)
      rw [if_neg (by rw [e]; exact fun q => hne q.symm)]
theorem findLow_filter_eq {key : Str} : ∀ {items : List (Str × Str)}, findLow key (items.filter fun p => Txt.lower p.1 != key) = none
  | [] => rfl
  | p :: r => by
    cases h : (Txt.lower p.1 != key) with
    | true =>
      rw [List.filter_cons_of_pos (p := fun p : Str × Str => Txt.lower p.1 != key) h]
      show (if _ then _ else _) = _
      rw [if_neg (by simpa using h), findLow_filter_eq]
    | false => rw [List.filter_cons_of_neg (p := fun p : Str × Str => Txt.lower p.1 != key) (by simpa using h), findLow_filter_eq]
theorem IS.set {d j : Nat} {S : Nat → Nat → Bool} {f : Nat → Bool} {items : List (Str × Str)} (hd : d < 15) (hj : j < 6) (I : IS d S items) : IS d (setS S j f) (itemsSet items (Str.ofString "at" ++ sg d j) (txt d f)) := by
  refine ⟨fun i hi => ?_, fun p hp => ?_⟩
  · unfold itemsSet
    rw [low_at d hd j hj, findLow_append]
    by_cases h : i = j
    · subst h
      rw [findLow_filter_eq, low_at d hd i hi]
      simp [setS]
    · rw [findLow_filter_ne (fun e => h (atK_inj d hd i hi j hj e)), I.1 i hi]
      simp [setS, h]
  · rcases List.mem_append.mp hp with hp | hp
    · exact I.2 p (List.mem_filter.mp hp).1
    · rw [List.mem_singleton.mp hp]
      show 3 ≤ 1000
      omega
/-- the items the starting loop lays -/
noncomputable def itI (d i : Nat) : List (Str × Str) := (List.range i).map fun q => (Str.ofString "At" ++ sg d (5 - q), txt d (S0 (5 - q)))
theorem itI_snoc {d i : Nat} : itI d (i + 1) = itI d i ++ [(Str.ofString "At" ++ sg d (5 - i), txt d (S0 (5 - i)))] := by
  unfold itI; rw [List.range_succ, List.map_append]; rfl
theorem itI_IS {d : Nat} (hd : d < 15) : IS d S0 (itI d 6) := by
  constructor
  · intro j hj
    show findLow (atK d j) [(Str.ofString "At" ++ sg d 5, txt d (S0 5)), (Str.ofString "At" ++ sg d 4, txt d (S0 4)), (Str.ofString "At" ++ sg d 3, txt d (S0 3)), (Str.ofString "At" ++ sg d 2, txt d (S0 2)), (Str.ofString "At" ++ sg d 1, txt d (S0 1)), (Str.ofString "At" ++ sg d 0, txt d (S0 0))] = _
    simp only [findLow, low_At d hd 5 (by omega), low_At d hd 4 (by omega), low_At d hd 3 (by omega), low_At d hd 2 (by omega), low_At d hd 1 (by omega), low_At d hd 0 (by omega)]
    have ne : ∀ i, i < 6 → i ≠ j → ¬ (atK d i = atK d j) := fun i hi h e => h (atK_inj d hd i hi j hj e)
    have : j = 0 ∨ j = 1 ∨ j = 2 ∨ j = 3 ∨ j = 4 ∨ j = 5 := by omega
    rcases this with rfl | rfl | rfl | rfl | rfl | rfl
    · rw [if_neg (ne 5 (by omega) (by omega)), if_neg (ne 4 (by omega) (by omega)), if_neg (ne 3 (by omega) (by omega)), if_neg (ne 2 (by omega) (by omega)), if_neg (ne 1 (by omega) (by omega)), if_pos rfl]
    · rw [if_neg (ne 5 (by omega) (by omega)), if_neg (ne 4 (by omega) (by omega)), if_neg (ne 3 (by omega) (by omega)), if_neg (ne 2 (by omega) (by omega)), if_pos rfl]
    · rw [if_neg (ne 5 (by omega) (by omega)), if_neg (ne 4 (by omega) (by omega)), if_neg (ne 3 (by omega) (by omega)), if_pos rfl]
    · rw [if_neg (ne 5 (by omega) (by omega)), if_neg (ne 4 (by omega) (by omega)), if_pos rfl]
    · rw [if_neg (ne 5 (by omega) (by omega)), if_pos rfl]
    · rw [if_pos rfl]
  · intro p hp
    obtain ⟨q, _, rfl⟩ := List.mem_map.mp hp
    show 3 ≤ 1000
    omega
end Mine
end
section
open PySem PySem.W PyProof.Rows PySem.Calls
set_option maxRecDepth 100000
set_option maxHeartbeats 2000000
namespace Mine
/-! the ledger of the settling loop -/
noncomputable abbrev accO (pdx : Addr) (pvs : List Value) (pn : Nat) : Obj := ⟨.ref 135, some pdx, .seq pvs.toArray pn, #[]⟩
structure CK where
  (l dx x p pdx : Addr) (hsh : Int) (t : Tok) (n : Nat) (hs : Int) (ti : Tok) (vi : Value) (nn : Nat)
noncomputable def Core (L : Addr) (c : CK) (vs : List Value) (k : Nat) (pvs : List Value) (pn : Nat) (oA oG oS : Obj) (tups : List (Addr × Obj)) : List (Addr × Obj) :=
  (c.l, W.listOf vs.toArray k) :: (c.dx, dictOf [⟨c.hsh, .str "_headers" c.t, .ref c.l⟩] c.n) :: (c.x, instObj 283 c.dx) :: (c.p, accO c.pdx pvs pn) :: (c.pdx, dictOf [⟨c.hs, .str "_initial_size" c.ti, c.vi⟩] c.nn) ::
  (L + 1 + 1 + 1, oA) :: (L + 1 + 1, oG) :: (L + 1, oS) :: tups
noncomputable def Off (L : Addr) (c : CK) (tups : List (Addr × Obj)) : Prop := ∀ q ∈ tups, q.1 ≠ c.l ∧ q.1 ≠ c.p ∧ q.1 ≠ L + 1 + 1 + 1 ∧ q.1 ≠ L + 1 + 1 ∧ q.1 ≠ L + 1
noncomputable def Cells (oA oG oS : Obj) : Prop := (∃ v, oA.data = .cell v) ∧ (∃ v, oG.data = .cell v) ∧ ∃ v, oS.data = .cell v
section
variable {L : Addr} {c : CK} {vs : List Value} {k : Nat} {pvs : List Value} {pn : Nat} {oA oG oS : Obj} {tups : List (Addr × Obj)} {h₀ h h' : Heap} {m : Str → Option Value}
theorem Core.l : (c.l, W.listOf vs.toArray k) ∈ Core L c vs k pvs pn oA oG oS tups := .head _
theorem Core.dx : (c.dx, dictOf [⟨c.hsh, .str "_headers" c.t, .ref c.l⟩] c.n) ∈ Core L c vs k pvs pn oA oG oS tups := .tail _ (.head _)
theorem Core.x : (c.x, instObj 283 c.dx) ∈ Core L c vs k pvs pn oA oG oS tups := .tail _ (.tail _ (.head _))
theorem Core.p : (c.p, accO c.pdx pvs pn) ∈ Core L c vs k pvs pn oA oG oS tups := .tail _ (.tail _ (.tail _ (.head _)))
theorem Core.pdx : (c.pdx, dictOf [⟨c.hs, .str "_initial_size" c.ti, c.vi⟩] c.nn) ∈ Core L c vs k pvs pn oA oG oS tups := .tail _ (.tail _ (.tail _ (.tail _ (.head _))))
theorem Core.A : (L + 1 + 1 + 1, oA) ∈ Core L c vs k pvs pn oA oG oS tups := .tail _ (.tail _ (.tail _ (.tail _ (.tail _ (.head _)))))
theorem Core.G : (L + 1 + 1, oG) ∈ Core L c vs k pvs pn oA oG oS tups := .tail _ (.tail _ (.tail _ (.tail _ (.tail _ (.tail _ (.head _))))))
theorem Core.S : (L + 1, oS) ∈ Core L c vs k pvs pn oA oG oS tups := .tail _ (.tail _ (.tail _ (.tail _ (.tail _ (.tail _ (.tail _ (.head _)))))))
theorem Core.T {q : Addr × Obj} (h : q ∈ tups) : q ∈ Core L c vs k pvs pn oA oG oS tups := .tail _ (.tail _ (.tail _ (.tail _ (.tail _ (.tail _ (.tail _ (.tail _ h)))))))
theorem Core.cases {q : Addr × Obj} (h : q ∈ Core L c vs k pvs pn oA oG oS tups) : q = (c.l, W.listOf vs.toArray k) ∨ q = (c.dx, dictOf [⟨c.hsh, .str "_headers" c.t, .ref c.l⟩] c.n) ∨ q = (c.x, instObj 283 c.dx) ∨ q = (c.p, accO c.pdx pvs pn) ∨ q = (c.pdx, dictOf [⟨c.hs, .str "_initial_size" c.ti, c.vi⟩] c.nn) ∨
    q = (L + 1 + 1 + 1, oA) ∨ q = (L + 1 + 1, oG) ∨ q = (L + 1, oS) ∨ q ∈ tups := by
  simpa [Core] using h
structure CNe (L : Addr) (c : CK) : Prop where
  l1 : c.dx ≠ c.l
  l2 : c.x ≠ c.l
  l3 : c.p ≠ c.l
  l4 : c.pdx ≠ c.l
  p1 : c.dx ≠ c.p
  p2 : c.x ≠ c.p
  p3 : c.pdx ≠ c.p
  A1 : L + 1 + 1 + 1 ≠ c.l ∧ L + 1 + 1 + 1 ≠ c.dx ∧ L + 1 + 1 + 1 ≠ c.x ∧ L + 1 + 1 + 1 ≠ c.p ∧ L + 1 + 1 + 1 ≠ c.pdx
  G1 : L + 1 + 1 ≠ c.l ∧ L + 1 + 1 ≠ c.dx ∧ L + 1 + 1 ≠ c.x ∧ L + 1 + 1 ≠ c.p ∧ L + 1 + 1 ≠ c.pdx
  S1 : L + 1 ≠ c.l ∧ L + 1 ≠ c.dx ∧ L + 1 ≠ c.x ∧ L + 1 ≠ c.p ∧ L + 1 ≠ c.pdx
theorem core_ne (N : News h₀ L h (Core L c vs k pvs pn oA oG oS tups)) (hc : Cells oA oG oS) : CNe L c := by
  obtain ⟨⟨vA, hA⟩, ⟨vG, hG⟩, ⟨vS, hS⟩⟩ := hc
  have cell : ∀ {a b : Addr} {o o' : Obj} {v : Option Value}, (a, o) ∈ Core L c vs k pvs pn oA oG oS tups → (b, o') ∈ Core L c vs k pvs pn oA oG oS tups → o.data = .cell v → (∀ v, o'.data ≠ .cell v) → a ≠ b :=
    fun {a b o o' v} ha hb e hne => news_ne' N ha hb fun q => hne v ((congrArg Obj.data (show o = o' from q)).symm.trans e)
  have d1 : ∀ v, (W.listOf vs.toArray k).data ≠ .cell v := by simp
  have d2 : ∀ v, (dictOf [⟨c.hsh, .str "_headers" c.t, .ref c.l⟩] c.n).data ≠ .cell v := by simp [dictOf]
  have d3 : ∀ v, (instObj 283 c.dx).data ≠ .cell v := by simp
  have d4 : ∀ v, (accO c.pdx pvs pn).data ≠ .cell v := by simp
  have d5 : ∀ v, (dictOf [⟨c.hs, .str "_initial_size" c.ti, c.vi⟩] c.nn).data ≠ .cell v := by simp [dictOf]
  refine ⟨news_ne' N Core.dx Core.l ?_, news_ne' N Core.x Core.l ?_, news_ne' N Core.p Core.l ?_, news_ne' N Core.pdx Core.l ?_, news_ne' N Core.dx Core.p ?_, news_ne' N Core.x Core.p ?_, news_ne' N Core.pdx Core.p ?_,
    ⟨cell Core.A Core.l hA d1, cell Core.A Core.dx hA d2, cell Core.A Core.x hA d3, cell Core.A Core.p hA d4, cell Core.A Core.pdx hA d5⟩,
    ⟨cell Core.G Core.l hG d1, cell Core.G Core.dx hG d2, cell Core.G Core.x hG d3, cell Core.G Core.p hG d4, cell Core.G Core.pdx hG d5⟩,
    ⟨cell Core.S Core.l hS d1, cell Core.S Core.dx hS d2, cell Core.S Core.x hS d3, cell Core.S Core.p hS d4, cell Core.S Core.pdx hS d5⟩⟩ <;> simp [dictOf]
theorem core_l (N : News h₀ L h (Core L c vs k pvs pn oA oG oS tups)) (hc : Cells oA oG oS) (ho : Off L c tups) {vs' : List Value} {k' : Nat} (x : Ext h h' [c.l]) (hl : h'.get? c.l = some (W.listOf vs'.toArray k')) :
    News h₀ L h' (Core L c vs' k' pvs pn oA oG oS tups) := by
  have ne := core_ne N hc
  have keep : ∀ q, q ∈ Core L c vs k pvs pn oA oG oS tups → q.1 ≠ c.l → h'.get? q.1 = some q.2 ∧ q.1 ≠ L ∧ h₀.get? q.1 = none := fun q hq hne => ⟨x _ _ (N q hq).1 (by simpa using hne), (N q hq).2⟩
  intro q hq
  rcases Core.cases hq with rfl | rfl | rfl | rfl | rfl | rfl | rfl | rfl | hq
  · exact ⟨hl, (N _ Core.l).2⟩
  · exact keep _ Core.dx ne.l1
  · exact keep _ Core.x ne.l2
  · exact keep _ Core.p ne.l3
  · exact keep _ Core.pdx ne.l4
  · exact keep _ Core.A ne.A1.1
  · exact keep _ Core.G ne.G1.1
  · exact keep _ Core.S ne.S1.1
  · exact keep _ (Core.T hq) (ho _ hq).1
theorem core_p (N : News h₀ L h (Core L c vs k pvs pn oA oG oS tups)) (hc : Cells oA oG oS) (ho : Off L c tups) {pvs' : List Value} {pn' : Nat} (x : Ext h h' [c.p]) (hl : h'.get? c.p = some (accO c.pdx pvs' pn')) :
    News h₀ L h' (Core L c vs k pvs' pn' oA oG oS tups) := by
  have ne := core_ne N hc
  have keep : ∀ q, q ∈ Core L c vs k pvs pn oA oG oS tups → q.1 ≠ c.p → h'.get? q.1 = some q.2 ∧ q.1 ≠ L ∧ h₀.get? q.1 = none := fun q hq hne => ⟨x _ _ (N q hq).1 (by simpa using hne), (N q hq).2⟩
  intro q hq
  rcases Core.cases hq with rfl | rfl | rfl | rfl | rfl | rfl | rfl | rfl | hq
  · exact keep _ Core.l ne.l3.symm
  · exact keep _ Core.dx ne.p1
  · exact keep _ Core.x ne.p2
  · exact ⟨hl, (N _ Core.p).2⟩
  · exact keep _ Core.pdx ne.p3
  · exact keep _ Core.A ne.A1.2.2.2.1
  · exact keep _ Core.G ne.G1.2.2.2.1
  · exact keep _ Core.S ne.S1.2.2.2.1
  · exact keep _ (Core.T hq) (ho _ hq).2.1
theorem core_A (N : News h₀ L h (Core L c vs k pvs pn oA oG oS tups)) (hc : Cells oA oG oS) (ho : Off L c tups) {oA' : Obj} (x : Heap.SameBut (L + 1 + 1 + 1) h h') (hl : h'.get? (L + 1 + 1 + 1) = some oA') :
    News h₀ L h' (Core L c vs k pvs pn oA' oG oS tups) := by
  have ne := core_ne N hc
  have keep : ∀ q, q ∈ Core L c vs k pvs pn oA oG oS tups → q.1 ≠ L + 1 + 1 + 1 → h'.get? q.1 = some q.2 ∧ q.1 ≠ L ∧ h₀.get? q.1 = none := fun q hq hne => ⟨(x.2 _ hne).trans (N q hq).1, (N q hq).2⟩
  intro q hq
  rcases Core.cases hq with rfl | rfl | rfl | rfl | rfl | rfl | rfl | rfl | hq
  · exact keep _ Core.l ne.A1.1.symm
  · exact keep _ Core.dx ne.A1.2.1.symm
  · exact keep _ Core.x ne.A1.2.2.1.symm
  · exact keep _ Core.p ne.A1.2.2.2.1.symm
  · exact keep _ Core.pdx ne.A1.2.2.2.2.symm
  · exact ⟨hl, (N _ Core.A).2⟩
  · exact keep _ Core.G (Nat.succ_ne_self (L + 1 + 1)).symm
  · exact keep _ Core.S (Nat.ne_of_lt (Nat.lt_add_of_pos_right (n := L + 1) (k := 2) (by decide)))
  · exact keep _ (Core.T hq) (ho _ hq).2.2.1
theorem core_G (N : News h₀ L h (Core L c vs k pvs pn oA oG oS tups)) (hc : Cells oA oG oS) (ho : Off L c tups) {oG' : Obj} (x : Heap.SameBut (L + 1 + 1) h h') (hl : h'.get? (L + 1 + 1) = some oG') :
    News h₀ L h' (Core L c vs k pvs pn oA oG' oS tups) := by
  have ne := core_ne N hc
  have keep : ∀ q, q ∈ Core L c vs k pvs pn oA oG oS tups → q.1 ≠ L + 1 + 1 → h'.get? q.1 = some q.2 ∧ q.1 ≠ L ∧ h₀.get? q.1 = none := fun q hq hne => ⟨(x.2 _ hne).trans (N q hq).1, (N q hq).2⟩
  intro q hq
  rcases Core.cases hq with rfl | rfl | rfl | rfl | rfl | rfl | rfl | rfl | hq
  · exact keep _ Core.l ne.G1.1.symm
  · exact keep _ Core.dx ne.G1.2.1.symm
  · exact keep _ Core.x ne.G1.2.2.1.symm
  · exact keep _ Core.p ne.G1.2.2.2.1.symm
  · exact keep _ Core.pdx ne.G1.2.2.2.2.symm
  · exact keep _ Core.A (Nat.succ_ne_self (L + 1 + 1))
  · exact ⟨hl, (N _ Core.G).2⟩
  · exact keep _ Core.S (Nat.succ_ne_self (L + 1)).symm
  · exact keep _ (Core.T hq) (ho _ hq).2.2.2.1
theorem core_T (F : Fr h₀ L h m) (N : News h₀ L h' (Core L c vs k pvs pn oA oG oS tups)) {T : Addr} {o : Obj} (nx : h.get? T = none) (hT : h'.get? T = some o) : News h₀ L h' (Core L c vs k pvs pn oA oG oS ((T, o) :: tups)) := by
  have NT := news_fresh F N nx hT
  intro q hq
  rcases Core.cases hq with rfl | rfl | rfl | rfl | rfl | rfl | rfl | rfl | hq
  · exact N _ Core.l
  · exact N _ Core.dx
  · exact N _ Core.x
  · exact N _ Core.p
  · exact N _ Core.pdx
  · exact N _ Core.A
  · exact N _ Core.G
  · exact N _ Core.S
  · rcases List.mem_cons.mp hq with rfl | hq
    · exact NT _ (.head _)
    · exact N _ (Core.T hq)
theorem core_sub (N : News h₀ L h (Core L c vs k pvs pn oA oG oS tups)) {tups' : List (Addr × Obj)} (hs : ∀ q ∈ tups', q ∈ tups) : News h₀ L h (Core L c vs k pvs pn oA oG oS tups') := by
  intro q hq
  rcases Core.cases hq with rfl | rfl | rfl | rfl | rfl | rfl | rfl | rfl | hq
  · exact N _ Core.l
  · exact N _ Core.dx
  · exact N _ Core.x
  · exact N _ Core.p
  · exact N _ Core.pdx
  · exact N _ Core.A
  · exact N _ Core.G
  · exact N _ Core.S
  · exact N _ (Core.T (hs _ hq))
theorem core_off (N : News h₀ L h (Core L c vs k pvs pn oA oG oS tups)) (ho : Off L c tups) {T : Addr} {o : Obj} (nx : h.get? T = none) : Off L c ((T, o) :: tups) := fun q hq => by
  rcases List.mem_cons.mp hq with rfl | hq
  · refine ⟨?_, ?_, ?_, ?_, ?_⟩ <;> (rintro e; dsimp only at e; rw [e] at nx)
    · rw [(N _ Core.l).1] at nx; cases nx
    · rw [(N _ Core.p).1] at nx; cases nx
    · rw [(N _ Core.A).1] at nx; cases nx
    · rw [(N _ Core.G).1] at nx; cases nx
    · rw [(N _ Core.S).1] at nx; cases nx
  · exact ho q hq
theorem Off.sub {tups' : List (Addr × Obj)} (ho : Off L c tups) (hs : ∀ q ∈ tups', q ∈ tups) : Off L c tups' := fun q hq => ho q (hs q hq)
theorem core_frG (N : News h₀ L h (Core L c vs k pvs pn oA oG oS tups)) (F : Fr h₀ L h m) {a : Addr} {o : Obj} (hm : (a, o) ∈ Core L c vs k pvs pn oA oG oS tups) (x : Heap.SameBut a h h') : Fr h₀ L h' m :=
  ⟨F.ns.sameBut x (Ne.symm (N _ hm).2.1), fun b ob e => (x.2 b (fun q => by rw [q, (N _ hm).2.2] at e; cases e)).trans (F.keep b ob e), F.above⟩
theorem core_fr (N : News h₀ L h (Core L c vs k pvs pn oA oG oS tups)) (F : Fr h₀ L h m) {a : Addr} {o : Obj} (hm : (a, o) ∈ Core L c vs k pvs pn oA oG oS tups) (x : Ext h h' [a]) : Fr h₀ L h' m :=
  x.fr F (by simpa using (N _ hm).2.1.symm) (by simpa using (N _ hm).2.2)
end
end Mine
end
section
open PySem PySem.W PyProof.Rows PySem.Calls
set_option maxRecDepth 100000
set_option maxHeartbeats 2000000
namespace Mine
section
variable {w : World} {lo : List Str} {mean : ExcName → Option Value} {mg mb : Str → Option Value} {g : Heap} {s : Shared} {dp un : Nat} {fr : Option (List Env)} {gd : Option (List Code)} {Q : Value → Shared → Prop} {E : Value → Shared → Prop}
variable {L : Addr} {c : CK} {vs : List Value} {k : Nat} {pvs : List Value} {pn : Nat} {oA oG oS : Obj} {tups : List (Addr × Obj)} {m : Str → Option Value}

theorem PairsIn.of {h : Heap} {tups : List (Addr × Obj)} (N : ∀ q ∈ tups, h.get? q.1 = some q.2) : ∀ {vs : List Value} {items : List (Str × Str)}, PairsIn tups vs items → PairsAt h vs items
  | [], [], _ => trivial
  | _ :: _, _ :: _, ⟨⟨a, t1, t2, o, e, hm, hc, n, hd⟩, r⟩ => ⟨⟨a, t1, t2, e, o, N _ hm, hc, n, hd⟩, PairsIn.of N r⟩
  | [], _ :: _, h => h.elim
  | _ :: _, [], h => h.elim
theorem PairsIn.last {tups : List (Addr × Obj)} : ∀ {vs : List Value} {items : List (Str × Str)} {p : Str × Str}, PairsIn tups vs (items ++ [p]) → ∃ vs' v, vs = vs' ++ [v] ∧ PairsIn tups vs' items ∧ ∃ a t1 t2 o, v = .ref a ∧ (a, o) ∈ tups ∧ o.cls = .type "tuple" ∧ ∃ n, o.data = .seq #[.str p.1 t1, .str p.2 t2] n
  | [v], [], _, ⟨q, _⟩ => ⟨[], v, rfl, trivial, q⟩
  | v :: vs, q :: r, _, ⟨x, y⟩ => by
    obtain ⟨vs', v', e, h1, h2⟩ := PairsIn.last y
    exact ⟨v :: vs', v', by rw [e]; rfl, ⟨x, h1⟩, h2⟩
  | [], [], _, h => h.elim
  | [], _ :: _, _, h => h.elim
  | _ :: _ :: _, [], _, h => h.2.elim
theorem PairsIn.filter {h : Heap} {key : Str} {tups : List (Addr × Obj)} (N : ∀ q ∈ tups, h.get? q.1 = some q.2) : ∀ {vs : List Value} {items : List (Str × Str)}, PairsIn tups vs items → PairsIn tups (vs.filter (lowNe h key)) (items.filter fun p => Txt.lower p.1 != key)
  | [], [], _ => trivial
  | v :: vs, q :: r, ⟨⟨a, t1, t2, o, e, hm, hc, n, hd⟩, rest⟩ => by
    subst e
    have hq := PairsAt.pairOf (h := h) (a := a) (p := q) (t1 := t1) (t2 := t2) ⟨o, N _ hm, hc, n, hd⟩
    cases hk : (Txt.lower q.1 != key) with
    | true =>
      rw [List.filter_cons_of_pos (by simp only [lowNe, hq]; exact hk), List.filter_cons_of_pos (p := fun p : Str × Str => Txt.lower p.1 != key) hk]
      exact ⟨⟨a, t1, t2, o, rfl, hm, hc, n, hd⟩, PairsIn.filter N rest⟩
    | false =>
      rw [List.filter_cons_of_neg (by simp only [lowNe, hq]; simpa using hk), List.filter_cons_of_neg (p := fun p : Str × Str => Txt.lower p.1 != key) (by simpa using hk)]
      exact PairsIn.filter N rest
  | [], _ :: _, h => h.elim
  | _ :: _, [], h => h.elim

theorem core_add (G : Gnd w lo mean mg mb g) {items : List (Str × Str)} {name val : Str} {tn tv : Tok}
    (F : Fr g L s.heap m) (N : News g L s.heap (Core L c vs k pvs pn oA oG oS tups)) (hc : Cells oA oG oS) (ho : Off L c tups) (hpi : PairsIn tups vs items)
    (hdp : dp + 2 < recursionLimit) (hu : un + 16 < cLine) (hn : Clean name) (hns : name.length ≤ 1000) (hv : Clean val) (hvs : val.length ≤ 1000) (hvl : items.length ≤ 1000)
    (hret : ∀ h' tk' vs' k' tups', (∀ q ∈ tups, q ∈ tups') → Fr g L h' m → News g L h' (Core L c vs' k' pvs pn oA oG oS tups') → Off L c tups' → PairsIn tups' vs' (items ++ [(name, val)]) →
      Q .none { s with heap := h', toks := tk' }) :
    wpAny (model PR w) (AA dp un fr gd) (call (.ref 280) [.ref c.x, .str name tn, .str val tv]) Q E s := by
  refine add_header_c G F.keep hdp hu (N _ Core.x).1 (N _ Core.dx).1 (N _ Core.l).1 (N _ Core.l).2.2 hn (Nat.le_trans hns (by decide +kernel)) hv (Nat.le_trans hvs (by decide +kernel)) hvs (by rw [hpi.length]; exact hvl) fun h' tk' T k' t1 t2 x4 hT hTt hl4 => ?_
  obtain ⟨o, hoT, hoc', no, hod⟩ := hTt
  have N1 := core_l N hc ho x4 hl4
  have F1 := core_fr N F Core.l x4
  exact hret h' tk' _ k' ((T, o) :: tups) (fun q hq => .tail _ hq) F1 (core_T F N1 hT hoT) (core_off N ho hT) (PairsIn.snoc ⟨T, t1, t2, o, rfl, .head _, hoc', no, hod⟩ (hpi.mono fun q hq => .tail _ hq))

theorem core_set (G : Gnd w lo mean mg mb g) {items : List (Str × Str)} {name val : Str} {tn tv : Tok}
    (F : Fr g L s.heap m) (N : News g L s.heap (Core L c vs k pvs pn oA oG oS tups)) (hc : Cells oA oG oS) (ho : Off L c tups) (hpi : PairsIn tups vs items)
    (hdp : dp + 4 < recursionLimit) (hu : un + 30 < cLine) (hnl : Clean (Txt.lower name)) (hszl : (Txt.lower name).length ≤ sizeLine) (hn : Clean name) (hns : name.length ≤ 1000) (hv : Clean val) (hvs : val.length ≤ 1000) (hlen : ∀ p ∈ items, p.1.length ≤ 1000) (hvl : items.length ≤ 999)
    (hret : ∀ h' tk' vs' k' tups', (∀ q ∈ tups, q ∈ tups') → Fr g L h' m → News g L h' (Core L c vs' k' pvs pn oA oG oS tups') → Off L c tups' → PairsIn tups' vs' (itemsSet items name val) →
      Q .none { s with heap := h', toks := tk' }) :
    wpAny (model PR w) (AA dp un fr gd) (call (.ref 198) [.ref c.x, .str name tn, .str val tv]) Q E s := by
  have NT : ∀ q ∈ tups, s.heap.get? q.1 = some q.2 := fun q hq => (N _ (Core.T hq)).1
  refine setitem_c G F.keep hdp hu (N _ Core.x).1 (N _ Core.dx).1 (N _ Core.l).1 (N _ Core.l).2.2 (PairsIn.of NT hpi) hnl hszl hn hns hv hvs hlen (by rw [hpi.length]; exact hvl) fun h' tk' T k' t1 t2 x4 hT hTt hl4 => ?_
  obtain ⟨o, hoT, hoc', no, hod⟩ := hTt
  have N1 := core_l N hc ho x4 hl4
  have F1 := core_fr N F Core.l x4
  exact hret h' tk' _ k' ((T, o) :: tups) (fun q hq => .tail _ hq) F1 (core_T F N1 hT hoT) (core_off N ho hT) (PairsIn.snoc ⟨T, t1, t2, o, rfl, .head _, hoc', no, hod⟩ ((PairsIn.filter NT hpi).mono fun q hq => .tail _ hq))

theorem core_push (G : Gnd w lo mean mg mb g) {pile : List (Str × Str)} {a b : Str} {ta tb : Tok}
    (F : Fr g L s.heap m) (N : News g L s.heap (Core L c vs k pvs pn oA oG oS tups)) (hc : Cells oA oG oS) (ho : Off L c tups) (hpi : PairsIn tups pvs pile)
    (hdp : dp + 2 < recursionLimit) (hu : un + 30 < cLine) (hpl : pile.length ≤ 1000)
    (hret : ∀ h' tk' pvs' pn' tups', (∀ q ∈ tups, q ∈ tups') → Fr g L h' m → News g L h' (Core L c vs k pvs' pn' oA oG oS tups') → Off L c tups' → PairsIn tups' pvs' (pile ++ [(a, b)]) →
      Q .none { s with heap := h', toks := tk' }) :
    wpAny (model PR w) (AA dp un fr gd) (call (.ref 79) [.ref c.p, .str a ta, .str b tb]) Q E s := by
  refine acc_push_c G F.keep hdp hu (N _ Core.p).1 (N _ Core.pdx).1 (core_ne N hc).p3 (N _ Core.p).2.2 (by rw [hpi.length]; exact hpl) fun h' tk' T k' t1 t2 x4 hT hTt hl4 => ?_
  obtain ⟨o, hoT, hoc', no, hod⟩ := hTt
  have N1 := core_p N hc ho x4 hl4
  have F1 := core_fr N F Core.p x4
  exact hret h' tk' _ k' ((T, o) :: tups) (fun q hq => .tail _ hq) F1 (core_T F N1 hT hoT) (core_off N ho hT) (PairsIn.snoc ⟨T, t1, t2, o, rfl, .head _, hoc', no, hod⟩ (hpi.mono fun q hq => .tail _ hq))

theorem core_pop (G : Gnd w lo mean mg mb g) {pile : List (Str × Str)} {q : Str × Str}
    (F : Fr g L s.heap m) (N : News g L s.heap (Core L c vs k pvs pn oA oG oS tups)) (hc : Cells oA oG oS) (ho : Off L c tups) (hpi : PairsIn tups pvs (pile ++ [q]))
    (hdp : dp + 2 < recursionLimit) (hu : un + 30 < cLine) (hpl : pile.length ≤ 1000)
    (hret : ∀ h' tk' pvs' pn' T t1 t2, Fr g L h' m → News g L h' (Core L c vs k pvs' pn' oA oG oS tups) → PairsIn tups pvs' pile → h'.IsTuple T #[.str q.1 t1, .str q.2 t2] →
      Q (.ref T) { s with heap := h', toks := tk' }) :
    wpAny (model PR w) (AA dp un fr gd) (call (.ref 95) [.ref c.p]) Q E s := by
  obtain ⟨vs', v, rfl, h1, a, t1, t2, o, rfl, hm, hoc, n, hod⟩ := hpi.last
  refine acc_pop_c G F.keep hdp hu (N _ Core.p).1 (N _ Core.pdx).1 (core_ne N hc).p3 (N _ Core.p).2.2 (by rw [h1.length]; exact hpl) fun h' tk' k' x4 hl4 => ?_
  have N1 := core_p N hc ho x4 hl4
  exact hret h' tk' _ k' a t1 t2 (core_fr N F Core.p x4) N1 h1 ⟨o, (N1 _ (Core.T hm)).1, hoc, n, hod⟩
theorem core_pop0 (G : Gnd w lo mean mg mb g)
    (F : Fr g L s.heap m) (N : News g L s.heap (Core L c vs k pvs pn oA oG oS tups)) (hc : Cells oA oG oS) (hpi : PairsIn tups pvs [])
    (hdp : dp + 2 < recursionLimit) (hu : un + 30 < cLine)
    (hret : ∀ h' tk' T t1 t2, Fr g L h' m → News g L h' (Core L c vs k pvs pn oA oG oS tups) → h'.IsTuple T #[.str "" t1, .str "" t2] →
      Q (.ref T) { s with heap := h', toks := tk' }) :
    wpAny (model PR w) (AA dp un fr gd) (call (.ref 95) [.ref c.p]) Q E s := by
  have e : pvs = [] := by
    have := hpi.length
    exact List.eq_nil_of_length_eq_zero this
  subst e
  refine acc_pop_none G F.keep hdp hu (N _ Core.p).1 (N _ Core.pdx).1 (core_ne N hc).p3 (N _ Core.p).2.2 fun h' tk' T t1 t2 x4 hT hTt => ?_
  exact hret h' tk' T t1 t2 (x4.fr0 F) (x4.news0 N) hTt

theorem core_get (G : Gnd w lo mean mg mb g) {news : List (Addr × Obj)} {items : List (Str × Str)} {name : Str} {tn : Tok} {r : Str}
    (F : Fr g L s.heap m) (N : News g L s.heap (Core L c vs k pvs pn oA oG oS tups)) (N2 : News g L s.heap news) (hpi : PairsIn tups vs items)
    (hdp : dp + 2 < recursionLimit) (hu : un + 16 < cLine) (hnl : Clean (Txt.lower name)) (hszl : (Txt.lower name).length ≤ sizeLine) (hns : name.length ≤ 1000) (hlen : ∀ p ∈ items, p.1.length ≤ 1000) (hr : findLow (Txt.lower name) items = some r)
    (hret : ∀ h' tk' t', Ext s.heap h' [] → Fr g L h' m → News g L h' (Core L c vs k pvs pn oA oG oS tups) → News g L h' news → Q (.str r t') { s with heap := h', toks := tk' }) :
    wpAny (model PR w) (AA dp un fr gd) (call (.ref 230) [.ref c.x, .str name tn]) Q E s := by
  have NT : ∀ q ∈ tups, s.heap.get? q.1 = some q.2 := fun q hq => (N _ (Core.T hq)).1
  exact get_c G F.keep hdp hu (N _ Core.x).1 (N _ Core.dx).1 ⟨_, (N _ Core.l).1, rfl, _, rfl⟩ (PairsIn.of NT hpi) hnl hszl hns hlen hr fun h' tk' t' x4 => hret h' tk' t' x4 (x4.fr0 F) (x4.news0 N) (x4.news0 N2)

theorem core_sign {M : Model} {A : Around} {env : Env} {v : Value} {x : Str} {Q : Unit → Shared → Prop}
    (F : Fr g L s.heap m) (N : News g L s.heap (Core L c vs k pvs pn oA oG oS tups)) (hc : Cells oA oG oS) (ho : Off L c tups)
    (hk : env.scope.kind = .function) (hx : env.kindOf x = some .cell) (hcl : env.cells.lookup x = some (L + 1 + 1))
    (h : ∀ h' oG', Fr g L h' m → News g L h' (Core L c vs k pvs pn oA oG' oS tups) → Cells oA oG' oS → oG'.data = .cell (some v) → Q () { s with heap := h' }) : wpAny M A (storeName env x v) Q E s := by
  obtain ⟨hA, ⟨vG, hG⟩, hS⟩ := id hc
  refine wpAny_storeName_cell hk hx hcl ⟨oG, (N _ Core.G).1, hG⟩ fun h' hv hs => ?_
  obtain ⟨oG', ho', hd'⟩ := hv
  exact h h' oG' (core_frG N F Core.G hs) (core_G N hc ho hs ho') ⟨hA, ⟨_, hd'⟩, hS⟩ hd'
theorem core_ahead {M : Model} {A : Around} {env : Env} {v : Value} {x : Str} {Q : Unit → Shared → Prop}
    (F : Fr g L s.heap m) (N : News g L s.heap (Core L c vs k pvs pn oA oG oS tups)) (hc : Cells oA oG oS) (ho : Off L c tups)
    (hk : env.scope.kind = .function) (hx : env.kindOf x = some .cell) (hcl : env.cells.lookup x = some (L + 1 + 1 + 1))
    (h : ∀ h' oA', Fr g L h' m → News g L h' (Core L c vs k pvs pn oA' oG oS tups) → Cells oA' oG oS → oA'.data = .cell (some v) → Q () { s with heap := h' }) : wpAny M A (storeName env x v) Q E s := by
  obtain ⟨⟨vA, hA⟩, hG, hS⟩ := id hc
  refine wpAny_storeName_cell hk hx hcl ⟨oA, (N _ Core.A).1, hA⟩ fun h' hv hs => ?_
  obtain ⟨oA', ho', hd'⟩ := hv
  exact h h' oA' (core_frG N F Core.A hs) (core_A N hc ho hs ho') ⟨⟨_, hd'⟩, hG, hS⟩ hd'
end
end Mine
end
section
open PySem PySem.W PyProof.Rows PySem.Calls
set_option maxRecDepth 100000
set_option maxHeartbeats 2000000
namespace Mine
section
variable {prog : Program} {w : World} {A : Around} {s : Shared} {env : Env} {h₀ : Heap}
structure ItAt (prog : Program) (w : World) (A : Around) (h₀ : Heap) (L : Addr) (n : Nat) (P : Nat → Value → Prop) (J : Nat → (Str → Option Value) → List (Addr × Obj) → Prop) (s : Shared) (it : Value) (s₂ : Shared) : Prop where
  ex : ∃ (I : Addr) (fp : List Addr) (St : Nat → Heap → Prop) (ob : Addr → Obj) (h : Heap) (tk : Nat) (m : Str → Option Value) (news : List (Addr × Obj)), it = .ref I ∧ Walks prog w A I fp [I] n P St ∧ s₂ = { s with heap := h, toks := tk } ∧ St 0 h ∧ (h₀.get? I = none ∧ L ≠ I) ∧ (∀ i h, St i h → ∃ o, h.get? I = some o ∧ o.cls ≠ .type "tuple") ∧ Fr h₀ L h m ∧ News h₀ L h news ∧ (∀ p ∈ news, p.1 ≠ I) ∧ J 0 m news ∧
    ∀ b ∈ fp, b ≠ I → ∀ i m₁ news₁ h, J i m₁ news₁ → Fr h₀ L h m₁ → News h₀ L h news₁ → h.get? b = some (ob b)

theorem TurnR.go {L I : Addr} {o : Obj} {Jn : (Str → Option Value) → List (Addr × Obj) → Prop} {Q : Flow → Shared → Prop} {h' : Heap} {tk' : Nat} {m₂ : Str → Option Value} {news₂ : List (Addr × Obj)}
    (F : Fr h₀ L h' m₂) (N : News h₀ L h' ((I, o) :: news₂)) (hn : ∀ p ∈ news₂, p.1 ≠ I) (hj : Jn m₂ news₂) :
    TurnR h₀ L I o Jn Q s .next { s with heap := h', toks := tk' } := ⟨h', tk', m₂, news₂, rfl, F, N, hn, hj⟩
/-- the iterator of reversed text -/
theorem ItAt.rev {L : Addr} {y : Str} {t : Tok} {J : Nat → (Str → Option Value) → List (Addr × Obj) → Prop} {h : Heap} {tk : Nat} {m : Str → Option Value} {news : List (Addr × Obj)} (hh : A.handled = none) (hy : y.length ≤ 1000) (F : Fr h₀ L h m) (N : News h₀ L h news) (hj : J 0 m news) :
    wpAny (model prog w) A (pyIter (.ref h.objs.size)) (ItAt prog w A h₀ L y.length (fun i v => ∃ c u, y.cps[y.length - 1 - i]? = some c ∧ v = .str ⟨#[c]⟩ u) J s) (fun _ _ => False) { s with heap := h.push (revStr y t ((y.length : Int) - 1)), toks := tk } := by
  have g1 : (h.push (revStr y t ((y.length : Int) - 1))).get? h.objs.size = some (revStr y t ((y.length : Int) - 1)) := Heap.get?_push_size _ rfl
  have nn : h.get? h.objs.size = none := Heap.get?_none_of_le (Nat.le_refl _)
  have hit : IsRevS (h.push (revStr y t ((y.length : Int) - 1))) h.objs.size y t ((y.length : Int) - 1) := ⟨_, g1, rfl, rfl⟩
  refine iter_rev (y := y) (t := t) (i := (y.length : Int) - 1) hit ?_
  have hI0 : h₀.get? h.objs.size = none := by
    cases q : h₀.get? h.objs.size with
    | none => rfl
    | some o => have := F.keep _ _ q; rw [nn] at this; cases this
  have hL : L ≠ h.objs.size := by
    obtain ⟨oL, _, _, hL, _⟩ := F.ns
    rintro e
    rw [e, nn] at hL; cases hL
  refine ⟨_, [h.objs.size], _, fun _ => revStr y t 0, _, _, m, news, rfl, walks_rev hh _ y t hy, rfl, ⟨Nat.zero_le _, by simpa using hit⟩, ⟨hI0, hL⟩, (fun i h' x => let ⟨o, ho, hc, _⟩ := x.2; ⟨o, ho, by rw [hc]; simp⟩), F.push _, fun p hp => ⟨Heap.get?_push_of_some _ (N p hp).1, (N p hp).2⟩, fun p hp e => ?_, hj, fun b hb hne => absurd (List.mem_singleton.mp hb) hne⟩
  have := (N p hp).1
  rw [e, nn] at this; cases this
theorem ItAt.list {L D : Addr} {items : Array Value} {od : Obj} {J : Nat → (Str → Option Value) → List (Addr × Obj) → Prop} {h : Heap} {tk : Nat} {m : Str → Option Value} {news : List (Addr × Obj)} (hh : A.handled = none) (F : Fr h₀ L h m) (N : News h₀ L h news) (hj : J 0 m news)
    (hc : od.cls = .type "list") (hd : ∃ n, od.data = .seq items n) (src : ∀ i m₁ news₁ h, J i m₁ news₁ → Fr h₀ L h m₁ → News h₀ L h news₁ → h.get? D = some od) :
    wpAny (model prog w) A (pyIter (.ref D)) (ItAt prog w A h₀ L items.size (fun i v => items[i]? = some v) J s) (fun _ _ => False) { s with heap := h, toks := tk } := by
  have hD := src 0 m news h hj F N
  have nn : h.get? h.objs.size = none := Heap.get?_none_of_le (Nat.le_refl _)
  have hDI : D ≠ h.objs.size := fun e => by rw [e, nn] at hD; cases hD
  obtain ⟨nd, hd⟩ := hd
  have hl : h.IsList D items := ⟨od, hD, hc, nd, hd⟩
  refine wpAny_pyIter_list hl ?_
  have hI0 : h₀.get? h.objs.size = none := by
    cases q : h₀.get? h.objs.size with
    | none => rfl
    | some o => have := F.keep _ _ q; rw [nn] at this; cases this
  have hL : L ≠ h.objs.size := by
    obtain ⟨oL, _, _, hL, _⟩ := F.ns
    rintro e
    rw [e, nn] at hL; cases hL
  refine ⟨_, [h.objs.size, D], _, fun _ => od, _, _, m, news, rfl, Walks.list hh _ D hDI items, rfl, ⟨⟨_, Heap.get?_push_size _ rfl, rfl, rfl⟩, hl.at fun o e => Heap.get?_push_of_some _ e⟩, ⟨hI0, hL⟩, (fun i h' x => let ⟨o, ho, hc, _⟩ := x.1; ⟨o, ho, by rw [hc]; simp⟩), F.push _, fun p hp => ⟨Heap.get?_push_of_some _ (N p hp).1, (N p hp).2⟩, fun p hp e => ?_, hj, fun b hb hne i m₁ news₁ h hj F N => ?_⟩
  · have := (N p hp).1
    rw [e, nn] at this; cases this
  · rcases List.mem_cons.mp hb with q | hb
    · exact absurd q hne
    · rw [List.mem_singleton.mp hb]; exact src i m₁ news₁ h hj F N

variable {L : Addr} {c : CK} {vs : List Value} {k : Nat} {pvs : List Value} {pn : Nat} {oA oG oS : Obj} {tups : List (Addr × Obj)} {h : Heap}
theorem PairsIn.but {I : Addr} {o : Obj} (hoc : o.cls ≠ .type "tuple") (N : ∀ q ∈ tups, h.get? q.1 = some q.2) (hI : h.get? I = some o) : ∀ {vs : List Value} {items : List (Str × Str)}, PairsIn tups vs items → PairsIn (tups.filter fun q => !(q.1 == I)) vs items
  | [], [], _ => trivial
  | _ :: _, _ :: _, ⟨⟨a, t1, t2, o', e, hm, hc, r'⟩, r⟩ => ⟨⟨a, t1, t2, o', e, List.mem_filter.mpr ⟨hm, by
      have : a ≠ I := fun q => by
        have := N _ hm
        rw [show (a, o').1 = I from q, hI] at this
        cases this
        exact hoc hc
      simpa using this⟩, hc, r'⟩, PairsIn.but hoc N hI r⟩
  | [], _ :: _, h => h.elim
  | _ :: _, [], h => h.elim
theorem core_in {I : Addr} {o : Obj} (N : News h₀ L h ((I, o) :: Core L c vs k pvs pn oA oG oS tups)) : News h₀ L h (Core L c vs k pvs pn oA oG oS ((I, o) :: tups)) := by
  intro q hq
  have up : ∀ {q}, q ∈ Core L c vs k pvs pn oA oG oS tups → h.get? q.1 = some q.2 ∧ q.1 ≠ L ∧ h₀.get? q.1 = none := fun hq => N _ (.tail _ hq)
  rcases Core.cases hq with rfl | rfl | rfl | rfl | rfl | rfl | rfl | rfl | hq
  · exact up Core.l
  · exact up Core.dx
  · exact up Core.x
  · exact up Core.p
  · exact up Core.pdx
  · exact up Core.A
  · exact up Core.G
  · exact up Core.S
  · rcases List.mem_cons.mp hq with rfl | hq
    · exact N _ (.head _)
    · exact up (Core.T hq)
theorem core_in_off {I : Addr} {o : Obj} (ho : Off L c tups) (hn : ∀ p ∈ Core L c vs k pvs pn oA oG oS tups, p.1 ≠ I) : Off L c ((I, o) :: tups) := fun q hq => by
  rcases List.mem_cons.mp hq with rfl | hq
  · exact ⟨(hn _ Core.l).symm, (hn _ Core.p).symm, (hn _ Core.A).symm, (hn _ Core.G).symm, (hn _ Core.S).symm⟩
  · exact ho q hq
theorem core_drop {I : Addr} {o : Obj} (N : News h₀ L h (Core L c vs k pvs pn oA oG oS tups)) (hI : (I, o) ∈ tups) (hoc : o.cls ≠ .type "tuple") (hx : c.x ≠ I ∧ c.dx ≠ I ∧ c.pdx ≠ I) (ho : Off L c tups) :
    ∃ tups', News h₀ L h ((I, o) :: Core L c vs k pvs pn oA oG oS tups') ∧ (∀ p ∈ Core L c vs k pvs pn oA oG oS tups', p.1 ≠ I) ∧ Off L c tups' ∧ (∀ q ∈ tups, q.1 ≠ I → q ∈ tups') ∧ ∀ vs items, PairsIn tups vs items → PairsIn tups' vs items := by
  have hs : ∀ q ∈ tups.filter (fun q => !(q.1 == I)), q ∈ tups := fun q hq => (List.mem_filter.mp hq).1
  refine ⟨tups.filter fun q => !(q.1 == I), fun q hq => ?_, fun q hq => ?_, ho.sub hs, fun q hq hne => List.mem_filter.mpr ⟨hq, by simpa using hne⟩, fun vs items hp => PairsIn.but hoc (fun q hq => (N _ (Core.T hq)).1) (N _ (Core.T hI)).1 hp⟩
  · rcases List.mem_cons.mp hq with rfl | hq
    · exact N _ (Core.T hI)
    · exact core_sub N hs q hq
  · have h1 := ho _ hI
    rcases Core.cases hq with rfl | rfl | rfl | rfl | rfl | rfl | rfl | rfl | hq
    · exact h1.1.symm
    · exact hx.2.1
    · exact hx.1
    · exact h1.2.1.symm
    · exact hx.2.2
    · exact h1.2.2.1.symm
    · exact h1.2.2.2.1.symm
    · exact h1.2.2.2.2.symm
    · simpa using (List.mem_filter.mp hq).2
theorem start_sets {M : Model} {A : Around} {env : Env} {l dx x : Addr} {hsh : Int} {t : Tok} {n : Nat} {m : Str → Option Value} {y : Str} {v : Value} {Q : Unit → Shared → Prop} {E : Value → Shared → Prop} (F : Fr h₀ L s.heap m)
    (N : News h₀ L s.heap [(l, W.listOf #[] k), (dx, dictOf [⟨hsh, .str "_headers" t, .ref l⟩] n), (x, instObj 283 dx), (L + 1 + 1 + 1, oA), (L + 1 + 1, oG), (L + 1, oS)]) (hc : Cells oA oG oS)
    (hk : env.scope.kind = .function) (hx : env.kindOf y = some .cell) (hcl : env.cells.lookup y = some (L + 1))
    (h : ∀ h' oS', Fr h₀ L h' m → News h₀ L h' [(l, W.listOf #[] k), (dx, dictOf [⟨hsh, .str "_headers" t, .ref l⟩] n), (x, instObj 283 dx), (L + 1 + 1 + 1, oA), (L + 1 + 1, oG), (L + 1, oS')] → Cells oA oG oS' → oS'.data = .cell (some v) → Q () { s with heap := h' }) :
    wpAny M A (storeName env y v) Q E s := by
  obtain ⟨hA, hG, vS, hS⟩ := hc
  have hm : (L + 1, oS) ∈ [(l, W.listOf #[] k), (dx, dictOf [⟨hsh, .str "_headers" t, .ref l⟩] n), (x, instObj 283 dx), (L + 1 + 1 + 1, oA), (L + 1 + 1, oG), (L + 1, oS)] := by simp
  refine wpAny_storeName_cell hk hx hcl ⟨oS, (N _ hm).1, hS⟩ fun h' hv hs => ?_
  obtain ⟨oS', ho', hd'⟩ := hv
  have off : ∀ p, p ∈ [(l, W.listOf #[] k), (dx, dictOf [⟨hsh, .str "_headers" t, .ref l⟩] n), (x, instObj 283 dx), (L + 1 + 1 + 1, oA), (L + 1 + 1, oG), (L + 1, oS)] → p.1 ≠ L + 1 → h'.get? p.1 = some p.2 ∧ p.1 ≠ L ∧ h₀.get? p.1 = none :=
    fun p hp hne => ⟨(hs.2 _ hne).trans (N p hp).1, (N p hp).2⟩
  refine h h' oS' ⟨F.ns.sameBut hs (Ne.symm (N _ hm).2.1), fun b ob e => (hs.2 b (fun q => by rw [q, (N _ hm).2.2] at e; cases e)).trans (F.keep b ob e), F.above⟩ (fun p hp => ?_) ⟨hA, hG, _, hd'⟩ hd'
  have cell : ∀ {a : Addr} {o : Obj}, (a, o) ∈ [(l, W.listOf #[] k), (dx, dictOf [⟨hsh, .str "_headers" t, .ref l⟩] n), (x, instObj 283 dx), (L + 1 + 1 + 1, oA), (L + 1 + 1, oG), (L + 1, oS)] → (∀ v, o.data ≠ .cell v) → a ≠ L + 1 := fun {a o} ha hne => news_ne' N ha hm fun q => hne vS ((congrArg Obj.data (show o = oS from q)).trans hS)
  simp only [List.mem_cons, List.not_mem_nil, or_false] at hp
  rcases hp with rfl | rfl | rfl | rfl | rfl | rfl
  · exact off _ (by simp) (cell (o := W.listOf #[] k) (.head _) (by simp))
  · exact off _ (by simp) (cell (o := dictOf [⟨hsh, .str "_headers" t, .ref l⟩] n) (.tail _ (.head _)) (by simp [dictOf]))
  · exact off _ (by simp) (cell (o := instObj 283 dx) (.tail _ (.tail _ (.head _))) (by simp))
  · exact off _ (by simp) (Ne.symm (Nat.ne_of_lt (Nat.lt_add_of_pos_right (n := L + 1) (k := 2) (by decide))))
  · exact off _ (by simp) (Nat.succ_ne_self (L + 1))
  · exact ⟨ho', (N _ hm).2⟩
theorem core_start {l dx x p pdx : Addr} {hsh hs : Int} {t ti : Tok} {vi : Value} {n nn : Nat}
    (N : News h₀ L h [(p, ⟨.ref 135, some pdx, .seq #[] pn, #[]⟩), (pdx, dictOf [⟨hs, .str "_initial_size" ti, vi⟩] nn), (l, W.listOf #[] k), (dx, dictOf [⟨hsh, .str "_headers" t, .ref l⟩] n), (x, instObj 283 dx), (L + 1 + 1 + 1, oA), (L + 1 + 1, oG), (L + 1, oS)]) :
    ∃ c : CK, c.x = x ∧ c.p = p ∧ News h₀ L h (Core L c [] k [] pn oA oG oS []) := by
  refine ⟨⟨l, dx, x, p, pdx, hsh, t, n, hs, ti, vi, nn⟩, rfl, rfl, fun q hq => ?_⟩
  rcases Core.cases hq with rfl | rfl | rfl | rfl | rfl | rfl | rfl | rfl | hq
  · exact N _ (by simp)
  · exact N _ (by simp)
  · exact N _ (by simp)
  · exact N _ (.head _)
  · exact N _ (by simp)
  · exact N _ (by simp)
  · exact N _ (by simp)
  · exact N _ (by simp)
  · cases hq
end
end Mine
end
section
open PySem PySem.W PyProof.Rows PySem.Calls
set_option maxRecDepth 100000
set_option maxHeartbeats 2000000
namespace Mine
theorem txt_S0 {d j : Nat} (hj0 : j ≠ 0) : txt d (S0 j) = sgs d := (txt_congr fun k _ => by simp [S0, hj0]).trans txt_full
noncomputable def SM (tx : Addr) (d : Nat) (ts : Tok) (p : Addr) (u : Str → Option Value) (y : Str) : Option Value :=
  if y = "pile" then some (.ref p) else if y = "table" then some (.ref tx) else if y = "signs" then some (.str (sgs d) ts) else u y
theorem SM.of {h₀ h : Heap} {L : Addr} {m : Str → Option Value} {tx : Addr} {d : Nat} {ts : Tok} {p : Addr} (F : Fr h₀ L h m) (hp : m "pile" = some (.ref p)) (ht : m "table" = some (.ref tx)) (hs : m "signs" = some (.str (sgs d) ts)) : Fr h₀ L h (SM tx d ts p m) := by
  refine Fr.cong F fun y => ?_
  unfold SM
  split
  · rename_i e; rw [e, hp]
  split
  · rename_i e; rw [e, ht]
  split
  · rename_i e; rw [e, hs]
  rfl
theorem st1 {h₀ h : Heap} {L l dx x p pdx : Addr} {hsh hs : Int} {t ti : Tok} {vi : Value} {n nn k pn : Nat} {oA oG oS : Obj} {m : Str → Option Value} {tx : Addr} {d : Nat} {ts : Tok} (F : Fr h₀ L h m)
    (N : News h₀ L h [(p, ⟨.ref 135, some pdx, .seq #[] pn, #[]⟩), (pdx, dictOf [⟨hs, .str "_initial_size" ti, vi⟩] nn), (l, W.listOf #[] k), (dx, dictOf [⟨hsh, .str "_headers" t, .ref l⟩] n), (x, instObj 283 dx), (L + 1 + 1 + 1, oA), (L + 1 + 1, oG), (L + 1, oS)])
    (hc : Cells oA oG oS) (hS : oS.data = .cell (some (.ref x))) (hp : m "pile" = some (.ref p)) (ht : m "table" = some (.ref tx)) (hs : m "signs" = some (.str (sgs d) ts)) :
    ∃ c k pn oA oG oS u, News h₀ L h (Core L c [] k [] pn oA oG oS []) ∧ Cells oA oG oS ∧ oS.data = .cell (some (.ref c.x)) ∧ Fr h₀ L h (SM tx d ts c.p u) := by
  obtain ⟨c, rfl, rfl, NC⟩ := core_start N
  exact ⟨c, _, _, _, _, _, _, NC, hc, hS, SM.of F hp ht hs⟩
theorem itI_len {d i : Nat} : (itI d i).length = i := by simp [itI]
noncomputable def pileI (d i : Nat) : List (Str × Str) := (List.range i).map fun q => ((Str.ofString "" : Str), sg d (5 - q))
theorem pileI_snoc {d i : Nat} : pileI d (i + 1) = pileI d i ++ [((Str.ofString "" : Str), sg d (5 - i))] := by
  unfold pileI; rw [List.range_succ, List.map_append]; rfl
structure J1 (L : Addr) (c : CK) (d : Nat) (oA oS : Obj) (m0 : Str → Option Value) (i : Nat) (m : Str → Option Value) (news : List (Addr × Obj)) : Prop where
  ex : ∃ vs k pvs pn oG tups, news = Core L c vs k pvs pn oA oG oS tups ∧ Cells oA oG oS ∧ Off L c tups ∧ PairsIn tups vs (itI d i) ∧ PairsIn tups pvs (pileI d (min i 5)) ∧ m = m0

noncomputable def pileS (d : Nat) (pile : List Nat) : List (Str × Str) := pile.map fun j => ((Str.ofString "" : Str), sg d j)
noncomputable def curT (d : Nat) : Option Nat → Str
  | some j => sg d j
  | none => ""
structure WI (h₀ : Heap) (L : Addr) (c : CK) (tx : Addr) (d : Nat) (ts : Tok) (ar : List (Nat × Nat)) (Dm : Nat → Nat → Prop) (s : Shared) (S : Nat → Nat → Bool) (pile : List Nat) (cur : Option Nat) (n : Nat) (s' : Shared) : Prop where
  ex : ∃ h tk vs k pvs pn oA oG oS tups u items tu, s' = { s with heap := h, toks := tk } ∧ Fr h₀ L h (SM tx d ts c.p u) ∧ News h₀ L h (Core L c vs k pvs pn oA oG oS tups) ∧ Cells oA oG oS ∧ Off L c tups ∧ oS.data = .cell (some (.ref c.x)) ∧ oG.data = .cell (some (.str (curT d cur) tu)) ∧
    IS d S items ∧ PairsIn tups vs items ∧ PairsIn tups pvs (pileS d pile) ∧ items.length + n ≤ 400
  inv : LInv ar Dm S pile cur
  emp : cur = none → pile = []
  ms : n = 10 * mu S + pile.length + (if cur.isSome then 1 else 0)
theorem WI.go {h₀ : Heap} {L : Addr} {c : CK} {tx : Addr} {d : Nat} {ts : Tok} {ar : List (Nat × Nat)} {Dm : Nat → Nat → Prop} {s : Shared} {S : Nat → Nat → Bool} {pile : List Nat} {cur : Option Nat} {n : Nat} {h : Heap} {tk : Nat} {vs : List Value} {k : Nat} {pvs : List Value} {pn : Nat} {oA oG oS : Obj} {tups : List (Addr × Obj)} {m : Str → Option Value} {items : List (Str × Str)} {tu : Tok}
    (F : Fr h₀ L h m) (N : News h₀ L h (Core L c vs k pvs pn oA oG oS tups)) (hc : Cells oA oG oS) (ho : Off L c tups) (hS : oS.data = .cell (some (.ref c.x))) (hG : oG.data = .cell (some (.str (curT d cur) tu))) (hi : IS d S items) (hp : PairsIn tups vs items) (hpp : PairsIn tups pvs (pileS d pile)) (hn : items.length + n ≤ 400)
    (I : LInv ar Dm S pile cur) (he : cur = none → pile = []) (ms : n = 10 * mu S + pile.length + (if cur.isSome then 1 else 0))
    (h1 : m "pile" = some (.ref c.p)) (h2 : m "table" = some (.ref tx)) (h3 : m "signs" = some (.str (sgs d) ts)) :
    WI h₀ L c tx d ts ar Dm s S pile cur n { s with heap := h, toks := tk } :=
  ⟨⟨h, tk, vs, k, pvs, pn, oA, oG, oS, tups, m, items, tu, rfl, SM.of F h1 h2 h3, N, hc, ho, hS, hG, hi, hp, hpp, hn⟩, I, he, ms⟩
theorem core_led {L : Addr} {c : CK} {vs : List Value} {k : Nat} {pvs : List Value} {pn : Nat} {oA oG oS : Obj} {tups : List (Addr × Obj)} {q : Addr × Obj} (h : q ∈ tups) : q ∈ (c.l, W.listOf vs.toArray k) :: (c.dx, dictOf [⟨c.hsh, .str "_headers" c.t, .ref c.l⟩] c.n) :: (c.x, instObj 283 c.dx) :: (c.p, accO c.pdx pvs pn) :: (c.pdx, dictOf [⟨c.hs, .str "_initial_size" c.ti, c.vi⟩] c.nn) :: (L + 1 + 1 + 1, oA) :: (L + 1 + 1, oG) :: (L + 1, oS) :: tups := Core.T (c := c) h
theorem mu_S0 : mu S0 = 31 := by decide
theorem pileI_S {d : Nat} : pileI d 5 = pileS d [5, 4, 3, 2] ++ [((Str.ofString "" : Str), sg d 1)] := rfl

/-- what the texts ahead are -/
noncomputable def AheadAre (d : Nat) (S : Nat → Nat → Bool) (l : List Nat) (ys : List Value) : Prop := StrsAre ys (l.map fun t => txt d (S t))
/-- the test of the new text -/
noncomputable def pN (d : Nat) (f : Nat → Bool) (v : Value) : Bool := match v with
  | .str y _ => [0, 1, 2, 3, 4, 5].any fun k => sg d k == y && f k
  | _ => false
theorem pN_sg {d i : Nat} {f : Nat → Bool} {u : Tok} (hd : d < 15) (hi : i < 6) : pN d f (.str (sg d i) u) = f i := by
  have b : ∀ k, k < 6 → (sg d k == sg d i) = decide (k = i) := fun k hk => sg_beq hd hk hi
  have : i = 0 ∨ i = 1 ∨ i = 2 ∨ i = 3 ∨ i = 4 ∨ i = 5 := by omega
  rcases this with rfl | rfl | rfl | rfl | rfl | rfl <;> simp [pN, b]
theorem filter_new {d : Nat} {f : Nat → Bool} (hd : d < 15) {vs : List Value} (hl : vs.length = (sgs d).cps.size) (hP : ∀ j v, vs[j]? = some v → SignAt (sgs d) j v) : ∃ l : List (Str × Tok), vs.filter (pN d f) = strValues l ∧ l.map (·.1) = ([0, 1, 2, 3, 4, 5].filter f).map (sg d) := by
  obtain ⟨u0, u1, u2, u3, u4, u5, rfl⟩ := six hd hl hP
  let tk : Nat → Tok := fun k => if k = 0 then u0 else if k = 1 then u1 else if k = 2 then u2 else if k = 3 then u3 else if k = 4 then u4 else u5
  refine ⟨([0, 1, 2, 3, 4, 5].filter f).map fun k => (sg d k, tk k), ?_, by rw [List.map_map]; rfl⟩
  have e : [Value.str (sg d 0) u0, .str (sg d 1) u1, .str (sg d 2) u2, .str (sg d 3) u3, .str (sg d 4) u4, .str (sg d 5) u5] = [0, 1, 2, 3, 4, 5].map fun k => Value.str (sg d k) (tk k) := rfl
  rw [e, List.filter_map]
  have e2 : ([0, 1, 2, 3, 4, 5].filter (pN d f ∘ fun k => Value.str (sg d k) (tk k))) = [0, 1, 2, 3, 4, 5].filter f := List.filter_congr fun k hk => pN_sg hd (six_mem.mp hk)
  rw [e2]
  show _ = (List.map _ _).map _
  rw [List.map_map]
  rfl
/-- texts ahead that lack the sign -/
noncomputable def pH (d k : Nat) (v : Value) : Bool := match v with
  | .str y _ => !(decide (ch d k ∈ y.cps.toList))
  | _ => false
theorem ahead_none {d k : Nat} {ar : List (Nat × Nat)} {S : Nat → Nat → Bool} (hd : d < 15) (hk : k < 6) : ∀ {l : List Nat} {ys : List Value}, StrsAre ys (l.map fun t => txt d (S t)) → ((ys.filter (pH d k)).length = 0 ↔ (l.all fun t => S t k) = true)
  | [], [], _ => by simp
  | [], _ :: _, h => nomatch h
  | t :: r, v :: ys, h => by
    obtain ⟨u, e, h2⟩ : ∃ u, v = .str (txt d (S t)) u ∧ StrsAre ys (r.map fun t => txt d (S t)) := by
      cases h
      exact ⟨_, rfl, by assumption⟩
    subst e
    have ih := ahead_none (ar := ar) (S := S) (l := r) (ys := ys) hd hk h2
    have e1 : pH d k (.str (txt d (S t)) u) = !(S t k) := by show (!(decide _)) = _; rw [txt_mem hd hk]
    cases hS : S t k with
    | true =>
      rw [List.filter_cons_of_neg (by rw [e1, hS]; simp), List.all_cons, hS, Bool.true_and]
      exact ih
    | false =>
      rw [List.filter_cons_of_pos (by rw [e1, hS]; rfl), List.all_cons, hS, Bool.false_and]
      simp
theorem strs_mem {α : Type} {f : α → Str} : ∀ {l : List α} {ys : List Value}, StrsAre ys (l.map f) → ∀ {v}, v ∈ ys → ∃ t ∈ l, ∃ u, v = .str (f t) u
  | [], [], _, _, hv => nomatch hv
  | [], _ :: _, h, _, _ => nomatch h
  | t :: r, w :: ys, h, v, hv => by
    obtain ⟨u, e, h2⟩ : ∃ u, w = .str (f t) u ∧ StrsAre ys (r.map f) := by
      cases h
      exact ⟨_, rfl, by assumption⟩
    rcases List.mem_cons.mp hv with rfl | hv
    · exact ⟨t, .head _, u, e⟩
    · obtain ⟨t', ht, u', e'⟩ := strs_mem h2 hv
      exact ⟨t', .tail _ ht, u', e'⟩
noncomputable def FA (d : Nat) (S : Nat → Nat → Bool) (v y : Value) : Prop := ∃ t u u', t < 6 ∧ v = .str (sg d t) u ∧ y = .str (txt d (S t)) u'
theorem ahead_are {d : Nat} {S : Nat → Nat → Bool} (hd : d < 15) : ∀ {l : List Nat} {its ys : List Value}, (∀ t ∈ l, t < 6) → StrsAre its (l.map (sg d)) → Paired (FA d S) its ys → StrsAre ys (l.map fun t => txt d (S t))
  | [], [], [], _, _, _ => .nil
  | [], [], _ :: _, _, _, h => nomatch h
  | [], _ :: _, _, _, h, _ => nomatch h
  | t :: r, w :: its, ys, hl, h, hp => by
    obtain ⟨u, e, h2⟩ : ∃ u, w = .str (sg d t) u ∧ StrsAre its (r.map (sg d)) := by
      cases h
      exact ⟨_, rfl, by assumption⟩
    obtain ⟨y, ys', rfl, ⟨t', u1, u2, ht', e1, e2⟩, hp2⟩ : ∃ y ys', ys = y :: ys' ∧ FA d S w y ∧ Paired (FA d S) its ys' := by
      cases hp
      exact ⟨_, _, rfl, by assumption, by assumption⟩
    subst e
    have ett : t = t' := by
      have e3 := Value.str.inj e1
      exact sg_inj d hd t (hl t (.head _)) t' ht' e3.1
    subst ett
    subst e2
    exact .cons _ _ (ahead_are hd (fun t ht => hl t (.tail _ ht)) h2 hp2)
theorem eq_nil {prog : Program} {w : World} {A : Around} {E : Value → Shared → Prop} {s : Shared} {l b : Addr} {items : Array Value} {Q : Value → Shared → Prop} (hl : s.heap.IsList l items) (hb : s.heap.IsList b #[]) (hu : A.units < cLine) {bb : Bool} (hbb : decide (items.size = 0) = bb)
    (h : Q (.bool bb) s) : wpAny (model prog w) A (compareOp .Eq (.ref l) (.ref b)) Q E s := by
  subst hbb
  by_cases hz : items.size = 0
  · have e : items = #[] := Array.eq_empty_of_size_eq_zero hz
    subst e
    refine SeqAt.eq_listAt (e := fun _ => true) hl hb rfl hu (fun j h1 _ => absurd h1 (Nat.not_lt_zero _)) ?_
    exact h
  · refine SeqAt.eq_list_lengthsAt hl hb ?_ hu ?_
    · simpa using hz
    · rw [decide_eq_false hz] at h; exact h
theorem pH_occ {d i : Nat} {y : Str} {u : Tok} : (!!(Builtin.Str.occurrences y (sg d i) 0 y.length 1).isEmpty) = pH d i (.str y u) := by
  have := StrLaws.found_one y (ch d i)
  show (!!(Builtin.Str.occurrences y ⟨#[ch d i]⟩ 0 y.length 1).isEmpty) = !(decide (ch d i ∈ y.cps.toList))
  rw [this]
theorem pN_new {d i j : Nat} {ar : List (Nat × Nat)} {S : Nat → Nat → Bool} {u : Tok} {ys ys2 : Array Value} (hd : d < 15) (hi : i < 6) (hij : ¬ i = j) (hah : StrsAre ys.toList ((preds ar j).map fun t => txt d (S t))) (hp : Paired (fun v y => y = v) (ys.toList.filter (pH d i)) ys2.toList) :
    decide (ys2.size = 0) = pN d (newF ar S j) (.str (sg d i) u) := by
  rw [pN_sg hd hi]
  have h1 := ahead_none (ar := ar) (S := S) hd hi hah
  have h2 := hp.length
  have h3 : ys2.toList.length = ys2.size := by simp
  have h4 : newF ar S j i = (preds ar j).all fun t => S t i := by
    unfold newF
    rw [show (i == j) = false from beq_eq_false_iff_ne.mpr hij, Bool.false_or]
  rw [h4]
  cases q : (preds ar j).all fun t => S t i with
  | true => exact decide_eq_true (by have := h1.mpr q; omega)
  | false => exact decide_eq_false fun e => by have := h1.mp (by omega); rw [q] at this; cases this
theorem eval_nil {M : Model} {A : Around} {E : Value → Shared → Prop} {s : Shared} {pos : Pos} {env : Env} {Q : Value → Shared → Prop} (h : Q (.ref s.heap.objs.size) { s with heap := s.heap.push { cls := .type "list", data := .seq #[] } }) : wpAny M A (eval (.List [] pos) env) Q E s := by
  show wpAny M A (do standAt pos; newList (← spliced (backTo pos (starEach [] env)))) Q E s
  refine wpAny_bind (wpAny_standAt ?_)
  refine wpAny_bind (wpAny_pure ?_)
  exact wpAny_newList h (by decide +kernel)
/-- the new text's test: the list of the texts that lack the sign against [] -/
theorem cmp_nil {prog : Program} {w : World} {A : Around} {E : Value → Shared → Prop} {s : Shared} {pos : Pos} {env : Env} {l : Addr} {items : Array Value} {bb : Bool} {Q : Value → Shared → Prop} (hl : s.heap.PlainList l items) (hu : A.units < cLine) (hbb : decide (items.size = 0) = bb)
    (h : ∀ h', (∀ b o, s.heap.get? b = some o → h'.get? b = some o) → Q (.bool bb) { s with heap := h' }) : wpAny (model prog w) A (eval (.List [] pos) env) (fun b s₂ => wpAny (model prog w) A (compareOp .Eq (.ref l) b) Q E s₂) E s := by
  refine eval_nil ?_
  obtain ⟨n, hl⟩ := hl
  exact eq_nil (s := { s with heap := s.heap.push { cls := .type "list", data := .seq #[] } }) ⟨_, Heap.get?_push_of_some _ hl, rfl, _, rfl⟩ ⟨_, Heap.get?_push_size _ rfl, rfl, _, rfl⟩ hu hbb (h _ fun b o e => Heap.get?_push_of_some _ e)
theorem paired_eq' : ∀ {a b : List Value}, Paired (fun v y => y = v) a b → b = a
  | _, _, .nil => rfl
  | _, _, .cons h t => by rw [h, paired_eq' t]
theorem join_new {prog : Program} {w : World} {A : Around} {E : Value → Shared → Prop} {s : Shared} {d : Nat} {f : Nat → Bool} {D : Addr} {t : Tok} {vs : List Value} {ys : Array Value} {Q : Value → Shared → Prop} (hd : d < 15) (hl : s.heap.IsList D ys) (hlen : vs.length = (sgs d).cps.size) (hP : ∀ j v, vs[j]? = some v → SignAt (sgs d) j v)
    (hp : Paired (fun v y => y = v) (vs.filter (pN d f)) ys.toList) (h : ∀ t' k', Q (.str (txt d f) t') { s with toks := k' }) : wpAny (model prog w) A (call (.builtin "str.join") [.str "" t, .ref D]) Q E s := by
  obtain ⟨l, e1, e2⟩ := filter_new (f := f) hd hlen hP
  have e3 := paired_eq' hp
  rw [e1] at e3
  have hl' : s.heap.IsList D (strValues l).toArray := by rw [← e3]; simpa using hl
  refine SC.join hl' e2 join_ok ?_
  rw [join_txt]
  exact h
end Mine
end
section
open PySem PySem.W PyProof.Rows PySem.Calls
set_option maxRecDepth 100000
set_option maxHeartbeats 2000000
namespace Mine
/-- between the turn's test and its pop -/
structure Mid (h₀ : Heap) (L : Addr) (c : CK) (tx : Addr) (d : Nat) (ts : Tok) (ar : List (Nat × Nat)) (Dm : Nat → Nat → Prop) (s : Shared) (n : Nat) (S : Nat → Nat → Bool) (pile : List Nat) (fl : Flow) (s' : Shared) : Prop where
  fl : fl = .next
  ex : ∃ h tk vs k pvs pn oA oG oS tups u items, s' = { s with heap := h, toks := tk } ∧ Fr h₀ L h (SM tx d ts c.p u) ∧ News h₀ L h (Core L c vs k pvs pn oA oG oS tups) ∧ Cells oA oG oS ∧ Off L c tups ∧ oS.data = .cell (some (.ref c.x)) ∧
    IS d S items ∧ PairsIn tups vs items ∧ PairsIn tups pvs (pileS d pile) ∧ items.length + (10 * mu S + pile.length) ≤ 399
  inv : LInv ar Dm S pile none
  ms : 10 * mu S + pile.length + 1 ≤ n
theorem Mid.go {h₀ : Heap} {L : Addr} {c : CK} {tx : Addr} {d : Nat} {ts : Tok} {ar : List (Nat × Nat)} {Dm : Nat → Nat → Prop} {s : Shared} {S : Nat → Nat → Bool} {pile : List Nat} {n : Nat} {h : Heap} {tk : Nat} {vs : List Value} {k : Nat} {pvs : List Value} {pn : Nat} {oA oG oS : Obj} {tups : List (Addr × Obj)} {m : Str → Option Value} {items : List (Str × Str)}
    (F : Fr h₀ L h m) (N : News h₀ L h (Core L c vs k pvs pn oA oG oS tups)) (hc : Cells oA oG oS) (ho : Off L c tups) (hS : oS.data = .cell (some (.ref c.x))) (hi : IS d S items) (hp : PairsIn tups vs items) (hpp : PairsIn tups pvs (pileS d pile)) (hn : items.length + (10 * mu S + pile.length) ≤ 399)
    (I : LInv ar Dm S pile none) (ms : 10 * mu S + pile.length + 1 ≤ n)
    (h1 : m "pile" = some (.ref c.p)) (h2 : m "table" = some (.ref tx)) (h3 : m "signs" = some (.str (sgs d) ts)) :
    Mid h₀ L c tx d ts ar Dm s n S pile .next { s with heap := h, toks := tk } :=
  ⟨rfl, ⟨h, tk, vs, k, pvs, pn, oA, oG, oS, tups, m, items, rfl, SM.of F h1 h2 h3, N, hc, ho, hS, hi, hp, hpp, hn⟩, I, ms⟩
theorem itemsSet_len {items : List (Str × Str)} {a b : Str} : (itemsSet items a b).length ≤ items.length + 1 := by
  unfold itemsSet
  rw [List.length_append, List.length_singleton]
  have := List.length_filter_le (fun p : Str × Str => Txt.lower p.1 != Txt.lower a) items
  omega
theorem str_bne {x y : Str} : (x != y) = (x.cps.toList != y.cps.toList) := by
  by_cases h : x = y
  · subst h; simp
  · have h2 : x.cps.toList ≠ y.cps.toList := fun e => h (Str.ext' (Array.toList_inj.mp e))
    have h3 : (x == y) = false := beq_eq_false_iff_ne.mpr h
    have h4 : (x.cps.toList == y.cps.toList) = false := beq_eq_false_iff_ne.mpr h2
    simp [bne, h3, h4]
theorem pile_last {pile : List Nat} (h : pile ≠ []) : ∃ p j, pile = p ++ [j] := ⟨pile.dropLast, pile.getLast h, (List.dropLast_concat_getLast h).symm⟩
theorem nxt_len {ar : List (Nat × Nat)} {j : Nat} : (nxt ar j).length ≤ ar.length := by
  unfold nxt succs
  refine Nat.le_trans (List.length_filter_le _ _) ?_
  rw [List.length_map]
  exact List.length_filter_le _ _
/-- pushing the successors, as far as i -/
noncomputable def pushed (ar : List (Nat × Nat)) (j i : Nat) : List Nat := ((succs ar j).take i).filter fun k => !(k == 0)
theorem pushed_succ {ar : List (Nat × Nat)} {j i t : Nat} (h : (succs ar j)[i]? = some t) : pushed ar j (i + 1) = if t = 0 then pushed ar j i else pushed ar j i ++ [t] := by
  unfold pushed
  rw [List.take_add_one, h]
  simp only [Option.toList_some, List.filter_append]
  by_cases e : t = 0
  · simp [e]
  · simp [e]
theorem pushed_all {ar : List (Nat × Nat)} {j : Nat} : pushed ar j (succs ar j).length = nxt ar j := by
  unfold pushed nxt; rw [List.take_length]
theorem pushed_len {ar : List (Nat × Nat)} {j i : Nat} : (pushed ar j i).length ≤ ar.length := by
  unfold pushed succs
  refine Nat.le_trans (List.length_filter_le _ _) ?_
  rw [List.length_take, List.length_map]
  exact Nat.le_trans (Nat.min_le_right _ _) (List.length_filter_le _ _)
theorem strs_at {α : Type} {f : α → Str} : ∀ {l : List α} {ys : List Value}, StrsAre ys (l.map f) → ∀ {i : Nat} {v : Value}, ys[i]? = some v → ∃ t u, l[i]? = some t ∧ v = .str (f t) u
  | [], [], _, _, _, hv => by simp at hv
  | [], _ :: _, h, _, _, _ => nomatch h
  | t :: r, w :: ys, h, i, v, hv => by
    obtain ⟨u, e, h2⟩ : ∃ u, w = .str (f t) u ∧ StrsAre ys (r.map f) := by
      cases h
      exact ⟨_, rfl, by assumption⟩
    cases i with
    | zero =>
      simp only [List.getElem?_cons_zero, Option.some.injEq] at hv
      exact ⟨t, u, rfl, hv ▸ e⟩
    | succ i =>
      simp only [List.getElem?_cons_succ] at hv
      obtain ⟨t', u', h1, e'⟩ := strs_at h2 hv
      exact ⟨t', u', by simpa using h1, e'⟩
structure J2 (L : Addr) (c : CK) (d : Nat) (ar : List (Nat × Nat)) (j : Nat) (pile : List Nat) (vs : List Value) (k : Nat) (oA oG oS : Obj) (items : List (Str × Str)) (tx : Addr) (ts : Tok) (base : List (Addr × Obj)) (i : Nat) (m : Str → Option Value) (news : List (Addr × Obj)) : Prop where
  ex : ∃ pvs pn tups u, news = Core L c vs k pvs pn oA oG oS tups ∧ Off L c tups ∧ PairsIn tups vs items ∧ PairsIn tups pvs (pileS d (pile ++ pushed ar j i)) ∧ m = SM tx d ts c.p u ∧ ∀ q ∈ base, q ∈ tups
theorem AT_clean : ∀ d < 15, ∀ j < 6, ∀ c ∈ (Str.ofString "at" ++ sg d j).cps, 32 ≤ c ∧ c < 127 := by decide +kernel
noncomputable def MidE (h₀ : Heap) (L : Addr) (c : CK) (tx : Addr) (d : Nat) (ts : Tok) (ar : List (Nat × Nat)) (Dm : Nat → Nat → Prop) (s : Shared) (n : Nat) (fl : Flow) (s' : Shared) : Prop := ∃ S' pile', Mid h₀ L c tx d ts ar Dm s n S' pile' fl s'
theorem pileS_snoc {d j : Nat} {pile : List Nat} : pileS d (pile ++ [j]) = pileS d pile ++ [((Str.ofString "" : Str), sg d j)] := by simp [pileS]
section
variable {prog : Program} {w : World} {A : Around} {s : Shared} {env : Env}
/-- the loop, its items known once its source is -/
noncomputable def ForAt (prog : Program) (w : World) (A : Around) (env : Env) (x : Str) (px : Pos) (body : List Stmt) (Q : Flow → Shared → Prop) (s : Shared) (xv : Value) (s₁ : Shared) : Prop :=
  ∃ (h₀ : Heap) (n : Nat) (P : Nat → Value → Prop) (J : Nat → (Str → Option Value) → List (Addr × Obj) → Prop),
    wpAny (model prog w) A (pyIter xv) (ItAt prog w A h₀ env.locals n P J s) (fun _ _ => False) s₁ ∧
    (∀ I i v m₁ news₁ h tk o, o.cls ≠ .type "tuple" → i < n → P i v → J i m₁ news₁ → (∀ p ∈ news₁, p.1 ≠ I) → Fr h₀ env.locals h m₁ → News h₀ env.locals h ((I, o) :: news₁) →
      wpAny (model prog w) A (assign (.Name x px) env v) (fun _ s₂ => wpAny (model prog w) A (execs body env) (TurnR h₀ env.locals I o (J (i + 1)) Q s) (fun _ _ => False) s₂) (fun _ _ => False) { s with heap := h, toks := tk }) ∧
    (∀ m₁ news₁ h tk, J n m₁ news₁ → Fr h₀ env.locals h m₁ → News h₀ env.locals h news₁ → Q .next { s with heap := h, toks := tk })
theorem for_walk2 {x : Str} {px pos : Pos} {iter : Expr} {body : List Stmt} {Q : Flow → Shared → Prop}
    (hs : ∀ x, foldedSetIterable iter env x = pure x)
    (h : wpAny (model prog w) A (eval iter env) (ForAt prog w A env x px body Q s) (fun _ _ => False) s) :
    wpAny (model prog w) A (exec (.For (.Name x px) iter body [] pos) env) Q (fun _ _ => False) s := by
  refine wpAny_For (wpAny_mono h (fun xv s₁ h₁ => ?_) fun _ _ e => e.elim) hs
  obtain ⟨h₀, n, P, J, h₁, turn, done⟩ := h₁
  refine wpAny_mono h₁ (fun it s₂ h₂ => ?_) fun _ _ e => e.elim
  obtain ⟨I, fp, St, ob, h, tk, m, news, rfl, W, rfl, hst, ⟨hI0, hLI⟩, hIo, F, N, hn, hj, hob⟩ := h₂
  have move : ∀ {a b : Heap} {m news}, (∀ x o, x ∉ [I] → a.get? x = some o → b.get? x = some o) → Fr h₀ env.locals a m → News h₀ env.locals a news → (∀ p ∈ news, p.1 ≠ I) → Fr h₀ env.locals b m ∧ News h₀ env.locals b news := by
    intro a b m news k F N hn
    refine ⟨⟨F.ns.at' fun o e => k _ o (by simpa using hLI) e, fun x o e => k x o ?_ (F.keep x o e), F.above⟩, fun p hp => ⟨k _ _ (by simpa using hn p hp) (N p hp).1, (N p hp).2⟩⟩
    intro q
    rw [List.mem_singleton.mp q, hI0] at e; cases e
  refine codeAny_forLoop_any
    (fun k s' => ∃ h' tk' m' news' i, s' = { s with heap := h', toks := tk' } ∧ St i h' ∧ Fr h₀ env.locals h' m' ∧ News h₀ env.locals h' news' ∧ (∀ p ∈ news', p.1 ≠ I) ∧ J i m' news' ∧ i ≤ n ∧ k = n + 1 - i) ?_ (n + 1)
    ⟨h, tk, m, news, 0, rfl, hst, F, N, hn, hj, Nat.zero_le _, rfl⟩
  rintro k s' ⟨H, tk', m', news', i, rfl, hst', F', N', hn', hJ, hi, rfl⟩
  by_cases hlt : i < n
  · refine W.item i _ _ _ hlt hst' fun v h₁ tk₁ hP hst₁ hk₁ => ?_
    obtain ⟨F₁, N₁⟩ := move hk₁ F' N' hn'
    obtain ⟨o, ho, hoc⟩ := hIo _ _ hst₁
    show wpAny _ A (pure ()) _ _ _
    refine wpAny_pure ?_
    have N₂ : News h₀ env.locals h₁ ((I, o) :: news') := fun p hp => by
      rcases List.mem_cons.mp hp with rfl | hp
      · exact ⟨ho, Ne.symm hLI, hI0⟩
      · exact N₁ p hp
    refine wpAny_mono (turn I i v m' news' h₁ tk₁ o hoc hlt hP hJ hn' F₁ N₂) (fun _ s₂ h₂ => wpAny_mono h₂ (fun f s₃ q => ?_) fun _ _ e => e.elim) fun _ _ e => e.elim
    have go : (∃ h' tk' m₂ news₂, s₃ = { s with heap := h', toks := tk' } ∧ Fr h₀ env.locals h' m₂ ∧ News h₀ env.locals h' ((I, o) :: news₂) ∧ (∀ p ∈ news₂, p.1 ≠ I) ∧ J (i + 1) m₂ news₂) →
        ∃ m, m < n + 1 - i ∧ ∃ h' tk' m' news' i, s₃ = { s with heap := h', toks := tk' } ∧ St i h' ∧ Fr h₀ env.locals h' m' ∧ News h₀ env.locals h' news' ∧ (∀ p ∈ news', p.1 ≠ I) ∧ J i m' news' ∧ i ≤ n ∧ m = n + 1 - i := by
      rintro ⟨h', tk'', m₂, news₂, rfl, F₂, N₂', hn₂, hj₂⟩
      refine ⟨n + 1 - (i + 1), by omega, h', tk'', m₂, news₂, i + 1, rfl, ?_, F₂, fun p hp => N₂' p (.tail _ hp), hn₂, hj₂, hlt, rfl⟩
      refine W.frame _ _ _ hst₁ fun b hb ob' e => ?_
      by_cases hbI : b = I
      · subst hbI
        rw [ho] at e; cases e
        exact (N₂' _ (.head _)).1
      · have e1 := hob b hb hbI i m' news' h₁ hJ F₁ N₁
        have e2 := hob b hb hbI (i + 1) m₂ news₂ h' hj₂ F₂ fun p hp => N₂' p (.tail _ hp)
        rw [e1] at e; cases e
        exact e2
    cases f with
    | ret v => exact q
    | brk => exact q
    | next => exact go q
    | cont => exact go q
  · have hin : i = n := by omega
    subst hin
    refine W.done _ _ _ hst' fun h₁ tk₁ hk₁ => ?_
    refine wpAny_execs_nil ?_
    obtain ⟨F₁, N₁⟩ := move hk₁ F' N' hn'
    exact done m' news' h₁ tk₁ hJ F₁ N₁

theorem for_walk {h₀ : Heap} {x : Str} {px pos : Pos} {iter : Expr} {body : List Stmt} {Q : Flow → Shared → Prop} {n : Nat} {P : Nat → Value → Prop} (J : Nat → (Str → Option Value) → List (Addr × Obj) → Prop)
    (hs : ∀ x, foldedSetIterable iter env x = pure x)
    (hit : wpAny (model prog w) A (eval iter env) (fun xv s₁ => wpAny (model prog w) A (pyIter xv) (ItAt prog w A h₀ env.locals n P J s) (fun _ _ => False) s₁) (fun _ _ => False) s)
    (turn : ∀ I i v m₁ news₁ h tk o, o.cls ≠ .type "tuple" → i < n → P i v → J i m₁ news₁ → (∀ p ∈ news₁, p.1 ≠ I) → Fr h₀ env.locals h m₁ → News h₀ env.locals h ((I, o) :: news₁) →
      wpAny (model prog w) A (assign (.Name x px) env v) (fun _ s₂ => wpAny (model prog w) A (execs body env) (TurnR h₀ env.locals I o (J (i + 1)) Q s) (fun _ _ => False) s₂) (fun _ _ => False) { s with heap := h, toks := tk })
    (done : ∀ m₁ news₁ h tk, J n m₁ news₁ → Fr h₀ env.locals h m₁ → News h₀ env.locals h news₁ → Q .next { s with heap := h, toks := tk }) :
    wpAny (model prog w) A (exec (.For (.Name x px) iter body [] pos) env) Q (fun _ _ => False) s := by
  refine for_walk2 hs (wpAny_mono hit (fun xv s₁ h₁ => ⟨h₀, n, P, J, h₁, turn, done⟩) fun _ _ e => e)
theorem ItAt.weak {h₀ : Heap} {L : Addr} {n n' : Nat} {P P' : Nat → Value → Prop} {J : Nat → (Str → Option Value) → List (Addr × Obj) → Prop} {it : Value} {s' s₂ : Shared} (x : ItAt prog w A h₀ L n P J s it s₂) (hn : n = n') (hP : ∀ i v, P i v → P' i v) (hs : ∀ h tk, ({ s with heap := h, toks := tk } : Shared) = { s' with heap := h, toks := tk }) : ItAt prog w A h₀ L n' P' J s' it s₂ := by
  subst hn
  obtain ⟨I, fp, St, ob, h, tk, m, news, e, W, e2, r⟩ := x.ex
  refine ⟨I, fp, St, ob, h, tk, m, news, e, ?_, e2.trans (hs _ _), r⟩
  exact { sub := W.sub, frame := W.frame, done := W.done, self := W.self, item := fun i s Q E hi st hQ => W.item i s Q E hi st fun v h' tk hv => hQ v h' tk (hP i v hv) }
end
theorem SM.same {m : Str → Option Value} {tx : Addr} {d : Nat} {ts : Tok} {p : Addr} (hp : m "pile" = some (.ref p)) (ht : m "table" = some (.ref tx)) (hs : m "signs" = some (.str (sgs d) ts)) (y : Str) : m y = SM tx d ts p m y := by
  unfold SM
  split
  · rename_i e; rw [e, hp]
  split
  · rename_i e; rw [e, ht]
  split
  · rename_i e; rw [e, hs]
  rfl
end Mine
end
section
open PySem PySem.W PyProof.Rows PySem.Calls
set_option maxRecDepth 100000
set_option maxHeartbeats 2000000
namespace Mine
theorem fillit20 : (fun (_ : Params → Frag) (_ : OpenLaw) => True) kk.heap_1 PySem.Challenge.rw_wj0075_01 := by k_fill; trivial
section
variable {w : World} {lo : List Str} {mean : ExcName → Option Value} {mg mb : Str → Option Value} {g : Heap} {s : Shared} {dp un : Nat} {fr : Option (List Env)} {gd : Option (List Code)} {Q : Value → Shared → Prop} {E : Value → Shared → Prop}

theorem item_str {A : Around} {value slice : Expr} {d : Nat} {t u : Tok} {Q : Value → Shared → Prop} (h : ∀ t', Q (.str (sg d 0) t') { s with toks := s.toks + 1 })
    (hs : subscripted slice false (.str (sgs d) t) (.int 0 u) = operate [.str (sgs d) t, .int 0 u] (getItem (.str (sgs d) t) (.int 0 u)) := by with_unfolding_all rfl) (hg : ∀ r, letTemporaryGo value (.str (sgs d) t) r = pure () := by intro _; with_unfolding_all rfl) :
    wpAny (model PR w) A (subscriptTail value slice (.str (sgs d) t) (.int 0 u)) Q E s := by
  refine subscriptTail_builtin (typeIs_str s (sgs d) t) F.slot_str_getitem.lookup ?_ hs hg
  exact P.getItem_str (c := sgAll.getD (d + 0) 0) (by decide) rfl (h _)
local macro_rules | `(tactic| k_inst) => `(tactic| ((with_reducible rename Fr _ _ _ _ => kF); exact inst_at kF.keep (by assumption) (by assumption)))
theorem kwWs0 : True := by
  k_with_none
  trivial
theorem kwWs1 : True := by
  (k_with "getMethod ref" => ((with_reducible show wpAny _ _ (getMethod (Value.ref (CK.p _)) _ _) _ _ _); (with_reducible rename Fr _ _ _ _ => kF); (with_reducible rename News _ _ _ _ => kN); k_dflt (refine acc_get kF (by assumption) (acc_inst (kN _ Core.p).1 (kN _ Core.pdx).1) (by k_is) (by k_is) (by first | exact .inl rfl | exact .inr rfl) (by rfl) ?_)))
  trivial
theorem kwWs2 : True := by
  (k_with "subscriptTail" => ((with_reducible show wpAny _ _ (subscriptTail _ _ (Value.str _ _) (Value.int 0 _)) _ _ _); (refine item_str (fun t' => ?_))))
  trivial
theorem kwWs3 : True := by
  (k_with "subscriptTail" => ((with_reducible show wpAny _ _ (subscriptTail _ _ (Value.ref _) (Value.int 1 _)) _ _ _); (refine item_tuple (items := #[_, _]) (by with_reducible assumption) (by decide) (by decide) (by rfl) (by rfl) ?_)))
  trivial
theorem truthy_sg {A : Around} {d j : Nat} {t : Tok} {Q : Bool → Shared → Prop} (h : ∀ k, Q true { s with toks := k }) : wpAny (model PR w) A (truthy (.str (sg d j) t)) Q E s := KXt.truthy rfl (show 1 ≤ 16777216 by omega) h
theorem kwWs4 : True := by
  (k_with "truthy str" => (refine truthy_sg ?_; intro _))
  trivial
theorem kwWs5 : True := by
  (k_with "call ref" => ((with_reducible rename Fr _ _ _ _ => kF); (with_reducible rename News _ _ _ _ => kN); (k_dflt (refine headers_new (by assumption) kF.keep (by omega) (fun h' tk' x' dx' l' hsh' t' n' k' kx nx nd nl gx gd gl => ?_))); have F' := kx.fr0 kF; have N' := news_fresh kF (news_fresh kF (news_fresh kF (kx.news0 kN) nx gx) nd gd) nl gl; clear kF kN kx nx nd nl gx gd gl))
  trivial
theorem kwWs6 : True := by
  (k_with "call ref" => ((with_reducible rename Fr _ _ _ _ => kF); (with_reducible rename News _ _ _ _ => kN); (k_dflt (refine acc_make_c (by assumption) kF.keep (by omega) (fun h' tk' x' dx' hsh' t' v' n' k' kx nx nd ndx gx gd => ?_))); have F' := kx.fr0 kF; have N' := news_fresh kF (news_fresh kF (kx.news0 kN) nd gd) nx gx; clear kF kN kx nx nd gx gd))
  trivial
theorem kwWs7 : True := by
  (k_with "storeName" => ((with_reducible rename Fr _ _ _ _ => kF); (with_reducible rename News _ _ _ _ => kN); (k_dflt (refine start_sets kF kN (by assumption) rfl rfl rfl (fun h' oS' F' N' hc' od' => ?_))); clear kF kN))
  trivial
theorem kwWs8 : True := by
  (k_with "eval ListComp" => refine Mine.Stop.of ?_)
  trivial
theorem kwWs9 : True := by
  (k_with "exec While" => refine Mine.Stop.of ?_)
  trivial
theorem kwWs10 : True := by
  (k_with "exec For Name Call cons nil" => ((with_reducible show wpAny _ _ (exec (Stmt.For (Expr.Name (Str.ofString "one") _) _ _ _ _) _) _ _ _); refine for_walk2 (fun _ => rfl) ?_))
  trivial
theorem kwWs11 : True := by
  (k_with "exec If" => ((with_reducible show wpAny _ _ (exec (Stmt.If (Expr.Compare (Expr.Name (Str.ofString "new") _) _ _ _) _ _ _) _) _ _ _); refine Mine.Stop.of ?_))
  trivial
theorem kwWs12 : True := by
  (k_with "exec For" => refine Mine.Stop.of ?_)
  trivial

theorem comp_cellF {prog : Program} {A : Around} {E : Value → Shared → Prop} {env : Env} {h₀ hq : Heap} {L : Addr} {m : Str → Option Value} {news : List (Addr × Obj)} (F₀ : Fr h₀ L hq m) (N₀ : News h₀ L hq news) {elt iter : Expr} {x : Str} {px : Pos} {ifs : List Expr} {scope : Scope} {cl : List (Str × Addr)} {pos : Pos} {Q : Value → Shared → Prop} {y : Str} (p : Value → Bool) (F : Value → Value → Prop) (hh : A.handled = none) (hy : y.cps.size ≤ 1000)
    (hclos : closureFor scope env = pure cl) (hkind : scope.kind = .function) (hnames : ∀ y ∈ scope.names, y.2 = .local → scope.names.lookup y.1 = some .local)
    (hc : ∀ n, cellsFrom n scope.names cl = (x, n) :: cl) (hp : ∀ h, pushCells h scope.names = h.push cellObj) (hxc : (relabel scope env).names.lookup x = some .cell)
    (hs : ∀ x, foldedSetIterable iter env x = pure x)
    (h : wpAny (model prog w) A (eval iter env) (CellComp prog w A env elt x ifs scope cl p F h₀ L m news y Q) E s) :
    wpAny (model prog w) A (eval (.ListComp elt [⟨.Name x px, iter, ifs, 0⟩] scope pos) env) Q E s := comp_cell p F hh hy hclos hkind hnames hc hp hxc hs h

theorem settled_c (G : Gnd w lo mean mg mb g) (Bs : ∀ b o, g.get? b = some o → s.heap.get? b = some o) (hdp : dp + 8 < recursionLimit) (hun : un + 80 < cLine)
    {tx tdx tl : Addr} {thsh : Int} {tt : Tok} {tn tk : Nat} {tvs : List Value} {titems : List (Str × Str)} {d : Nat} {ts : Tok} (hd : d < 15)
    (htx : s.heap.get? tx = some (instObj 283 tdx)) (htdx : s.heap.get? tdx = some (dictOf [⟨thsh, .str "_headers" tt, .ref tl⟩] tn)) (htl : s.heap.IsList tl tvs.toArray) (htp : PairsAt s.heap tvs titems)
    (htlen : ∀ p ∈ titems, p.1.length ≤ 1000) (htvl : tvs.length ≤ 900) {ar : List (Nat × Nat)} {Dm : Nat → Nat → Prop} (har : ∀ a ∈ ar, a.1 < 6 ∧ a.2 < 6) (hal : ar.length ≤ 8)
    (hTo : ∀ j < 6, allLow (Str.ofString "to" ++ sg d j) titems = (preds ar j).map (sg d)) (hFr : ∀ j < 6, allLow (Str.ofString "from" ++ sg d j) titems = (succs ar j).map (sg d))
    (hD : ∀ S : Nat → Nat → Bool, (∀ j < 6, ∀ k < 6, Dm j k → S j k = true) → ∀ j, 1 ≤ j → j < 6 → ∀ k < 6, Dm j k → newF ar S j k = true) (hD0 : ∀ k < 6, Dm 0 k → k = 0)
    (hret : ∀ h' tk' D ys S, Ext s.heap h' [] → s.heap.get? D = none → h'.PlainList D ys → StrsAre ys.toList ([0, 1, 2, 3, 4, 5].map fun j => txt d (S j)) → LInv ar Dm S [] none → Q (.ref D) { s with heap := h', toks := tk' }) :
    wpAny (model PR w) (AA dp un fr gd) (call (.ref 297) [.ref tx, .str (sgs d) ts]) Q E s := by
  refine wpAny_call ?_
  refine enterCC (binds := [("table", .ref tx), ("signs", .str (sgs d) ts)]) [] G Bs (by simp) (by k_is) (by k_is) (by omega) (BindsTo.of_eq rfl) rfl (by decide) ?_ rfl rfl rfl
  intro h₀ L h₁ tk0 cells G₀ hs₀ hk₀ hW F N Y hcf hL hk₁
  have X := G₀.X
  have T := G₀.T
  k_cells Y
  have htx0 := hk₀ _ _ htx (by simp)
  have htdx0 := hk₀ _ _ htdx (by simp)
  have htl0 : h₀.IsList tl tvs.toArray := htl.at fun o e => hk₀ _ _ e (by simp)
  have htp0 : PairsAt h₀ tvs titems := htp.mono fun b o e _ => hk₀ _ _ e (by simp)
  clear htx htdx htl htp
  obtain ⟨oA, oG, oS, N', hcell⟩ : ∃ oA oG oS, News h₀ L h₁ [(L + 1 + 1 + 1, oA), (L + 1 + 1, oG), (L + 1, oS)] ∧ Cells oA oG oS := ⟨_, _, _, N, ⟨_, by assumption⟩, ⟨_, by assumption⟩, ⟨_, by assumption⟩⟩
  clear N hcf
  rename News _ _ _ _ => N
  k_steps
  (with_reducible rename Fr _ _ _ _ => F1)
  (with_reducible rename News _ _ _ _ => N1)
  obtain ⟨c, k0, pn0, oA, oG, oS, u, NC, hcc, hoS, FS⟩ := st1 (tx := tx) (d := d) (ts := ts) F1 N1 (by assumption) (by assumption) rfl rfl rfl
  clear F1 N1
  refine Stop.go (for_walk (h₀ := h₀) (n := 6) (P := fun i v => ∃ c u, (sgs d).cps[(sgs d).length - 1 - i]? = some c ∧ v = .str ⟨#[c]⟩ u) (J1 L c d oA oS (SM tx d ts c.p u)) (fun _ => rfl) ?_ ?_ ?_)
  · unfold SM at FS
    delta Core at NC
    k_steps
    (with_reducible rename Fr _ _ _ _ => kF); (with_reducible rename News _ _ _ _ => kN)
    refine call_rev (sgs d) ts (show 6 ≤ 1000 by omega) (fun tk => ?_)
    exact ItAt.rev rfl (show 6 ≤ 1000 by omega) kF kN ⟨_, _, _, _, _, _, rfl, hcc, (fun _ h => nomatch h), trivial, trivial, rfl⟩
  · rintro I i v m₁ news₁ h2 tk2 o hoc hi hP ⟨vs, k, pvs, pn, oG, tups, rfl, hc2, hoff, hpi, hpp, rfl⟩ hn F N
    replace F : Fr h₀ L h2 _ := F
    replace N : News h₀ L h2 _ := N
    obtain ⟨hj, uj, rfl⟩ := sign_at hd hP
    clear hP
    have hlen6 : (sgs d).length = 6 := rfl
    generalize hje : (sgs d).length - 1 - i = j at hj
    have hij : i + j = 5 := by omega
    have hi5 : 5 - i = j := by omega
    clear hje hlen6
    have hoff' := core_in_off (o := o) hoff hn
    have hpi' := hpi.mono (fun q hq => (.tail _ hq : q ∈ (I, o) :: tups))
    have hpp' := hpp.mono (fun q hq => (.tail _ hq : q ∈ (I, o) :: tups))
    have hdx1 := hn _ Core.x
    have hdx2 := hn _ Core.dx
    have hdx3 := hn _ Core.pdx
    refine wpAny_assign_Name (core_sign F (core_in N) hc2 hoff' rfl rfl rfl fun h3 oG3 F3 N3 hc3 hG3 => ?_)
    unfold SM at F3
    unfold Core at N3
    clear F N FS NC hcc
    by_cases hj0 : j = 0
    · subst hj0
      have hb : (sg d 0 != sg d 0) = false := by simp
      k_steps
      (with_reducible rename Fr _ _ _ _ => kF)
      (with_reducible rename News _ _ _ _ => kN)
      refine core_add (c := c) G₀ kF kN hc3 hoff' hpi' (by omega) (by omega) (At_clean d hd 0 (by omega)) (show 3 ≤ 1000 by omega) (sg_clean d hd 0 (by omega)) (show 1 ≤ 1000 by omega) (by rw [itI_len]; omega) (fun h4 tk4 vs4 k4 tups4 hsub F4 N4 hoff4 hpi4 => ?_)
      have hpp4 := hpp'.mono hsub
      have hI4 := hsub _ (.head _)
      unfold Core at N4
      clear kF kN hpp' hpi'
      k_steps
      have hi5' : i = 5 := by omega
      subst hi5'
      (with_reducible rename Fr _ _ _ _ => F5)
      (with_reducible rename News _ _ _ _ => N5)
      obtain ⟨tups6, N6, hn6, hoff6, hsub6, hp6⟩ := core_drop (c := c) N5 hI4 hoc ⟨hdx1, hdx2, hdx3⟩ hoff4
      exact TurnR.go F5 N6 hn6 ⟨_, _, _, _, _, _, rfl, hc3, hoff6, hp6 _ _ (by rw [itI_snoc]; exact hpi4), hp6 _ _ hpp4, rfl⟩
    · have hb : (sg d j != sg d 0) = true := by
        have := sg_beq hd hj (show 0 < 6 by omega)
        rw [decide_eq_false hj0] at this
        simp [bne, this]
      k_steps
      (with_reducible rename Fr _ _ _ _ => kF)
      (with_reducible rename News _ _ _ _ => kN)
      refine core_add (c := c) G₀ kF kN hc3 hoff' hpi' (by omega) (by omega) (At_clean d hd j hj) (show 3 ≤ 1000 by omega) (by rw [← txt_full]; exact txt_clean hd) (show 6 ≤ 1000 by omega) (by rw [itI_len]; omega) (fun h4 tk4 vs4 k4 tups4 hsub F4 N4 hoff4 hpi4 => ?_)
      have hpp4 := hpp'.mono hsub
      have hI4 := hsub _ (.head _)
      unfold Core at N4
      clear kF kN hpp' hpi'
      k_steps
      (with_reducible rename Fr _ _ _ _ => kF)
      (with_reducible rename News _ _ _ _ => kN)
      refine core_push (c := c) G₀ kF kN hc3 hoff4 hpp4 (by omega) (by omega) (by simp [pileI]; omega) (fun h6 tk6 pvs6 pn6 tups6 hsub6 F6 N6 hoff6 hpp6 => ?_)
      have hpi6 := hpi4.mono hsub6
      have hI6 := hsub6 _ hI4
      unfold Core at N6
      clear kF kN hpp4 hpi4
      k_steps
      (with_reducible rename Fr _ _ _ _ => F5)
      (with_reducible rename News _ _ _ _ => N5)
      obtain ⟨tups7, N7, hn7, hoff7, hsub7, hp7⟩ := core_drop (c := c) N5 hI6 hoc ⟨hdx1, hdx2, hdx3⟩ hoff6
      have e5 : min i 5 = i := by omega
      have e6 : min (i + 1) 5 = i + 1 := by omega
      exact TurnR.go F5 N7 hn7 ⟨_, _, _, _, _, _, rfl, hc3, hoff7, hp7 _ _ (by rw [itI_snoc, hi5]; rw [txt_S0 hj0]; exact hpi6), hp7 _ _ (by rw [e6, pileI_snoc, hi5]; rw [e5] at hpp6; exact hpp6), rfl⟩
  · rintro m₁ news₁ h2 tk2 ⟨vs, k, pvs, pn, oG, tups, rfl, hc2, hoff, hpi, hpp, rfl⟩ F N
    replace F : Fr h₀ L h2 _ := F
    replace N : News h₀ L h2 _ := N
    clear FS NC hcc
    unfold SM at F
    unfold Core at N
    dsimp only
    k_steps
    have hpp2 : PairsIn tups pvs (pileS d [5, 4, 3, 2] ++ [((Str.ofString "" : Str), sg d 1)]) := hpp
    (with_reducible rename Fr _ _ _ _ => kF)
    (with_reducible rename News _ _ _ _ => kN)
    refine core_pop (c := c) G₀ kF kN hc2 hoff hpp2 (by omega) (by omega) (by show 4 ≤ 1000; omega) (fun h4 tk4 pvs4 pn4 T4 t41 t42 F4 N4 hpp4 hT4 => ?_)
    unfold Core at N4
    clear kF kN hpp hpp2
    dsimp only at hT4
    k_steps
    (with_reducible rename Fr _ _ _ _ => kF)
    (with_reducible rename News _ _ _ _ => kN)
    refine core_sign (c := c) kF kN hc2 hoff rfl rfl rfl (fun h5 oG5 F5 N5 hc5 hG5 => ?_)
    unfold Core at N5
    clear kF kN
    k_steps
    (with_reducible rename Fr _ _ _ _ => kF)
    (with_reducible rename News _ _ _ _ => kN)
    have I0 : LInv ar Dm S0 [5, 4, 3, 2] (some 1) := LInv.pop (LInv.start hD0)
    refine Stop.go (while_rule (fun n' s' => ∃ S pile cur, WI h₀ L c tx d ts ar Dm s S pile cur n' s') (fun n' s' => ∃ S pile j, WI h₀ L c tx d ts ar Dm s S pile (some j) n' s') (fun s' => ∃ S n', WI h₀ L c tx d ts ar Dm s S [] none n' s') ?_ ?_ ?_ 315 ⟨S0, [5, 4, 3, 2], some 1, WI.go kF kN hc5 hoff hoS hG5 (itI_IS hd) hpi hpp4 (by rw [itI_len]; omega) I0 (fun e => nomatch e) (by rw [mu_S0]; rfl) rfl rfl rfl⟩)
    · clear kF kN I0 hpi hpp4 hT4 hG5 hoff
      rintro n' s' ⟨S, pile, cur, ⟨h6, tk6, vs6, k6, pvs6, pn6, oA6, oG6, oS6, tups6, u6, items6, tu6, rfl, F6, N6, hc6, hoff6, hS6, hG6, hIS6, hpi6, hpp6, hln6⟩, hinv, hemp, hms⟩
      unfold SM at F6
      unfold Core at N6
      cases cur with
      | none =>
        have hG7 : oG6.data = Data.cell (some (.str (Str.ofString "") tu6)) := hG6
        k_steps
        (with_reducible rename Fr _ _ _ _ => kF)
        (with_reducible rename News _ _ _ _ => kN)
        obtain rfl := hemp rfl
        exact TestW.no ⟨S, _, WI.go kF kN hc6 hoff6 hS6 hG7 hIS6 hpi6 hpp6 hln6 hinv hemp hms rfl rfl rfl⟩
      | some j =>
        have hG7 : oG6.data = Data.cell (some (.str (sg d j) tu6)) := hG6
        k_steps
        (with_reducible rename Fr _ _ _ _ => kF)
        (with_reducible rename News _ _ _ _ => kN)
        exact TestW.yes ⟨S, pile, j, WI.go kF kN hc6 hoff6 hS6 hG7 hIS6 hpi6 hpp6 hln6 hinv hemp hms rfl rfl rfl⟩
    · -- <B
      clear kF kN I0 hpi hpp4 hT4 hG5 hoff
      rintro n' s' ⟨S, pile, j, ⟨h6, tk6, vs6, k6, pvs6, pn6, oA6, oG6, oS6, tups6, u6, items6, tu6, rfl, F6, N6, hc6, hoff6, hS6, hG6, hIS6, hpi6, hpp6, hln6⟩, hinv, hemp, hms⟩
      obtain ⟨hj1, hj6⟩ := hinv.cu j rfl
      unfold SM at F6
      unfold Core at N6
      have hG7 : oG6.data = Data.cell (some (.str (sg d j) tu6)) := hG6
      k_steps
      refine Stop.go (comp_list (cl := [("sets", L + 1)]) (fun _ => true) (FA d S) (by with_unfolding_all rfl) (by decide) rfl (by decide) rfl (fun _ => rfl) ?_)
      k_steps
      (with_reducible rename Fr _ _ _ _ => kF)
      (with_reducible rename News _ _ _ _ => kN)
      refine get_all_c G₀ kF.keep (by omega) (by omega) (kF.keep _ _ htx0) (kF.keep _ _ htdx0) (htl0.at fun o e => kF.keep _ _ e) (htp0.mono fun b o e _ => kF.keep _ _ e) (by rw [low_tO d hd j hj6]; exact toK_clean d hd j hj6) (by rw [low_tO d hd j hj6]; show 3 ≤ sizeLine; decide +kernel) (show 3 ≤ 1000 by omega) htlen (Nat.le_trans htvl (by decide +kernel)) (fun h7 tk7 D7 ys7 x7 nD7 hpl7 hst7 => ?_)
      rw [low_tO d hd j hj6, hTo j hj6] at hst7
      have F7 := x7.fr0 kF
      have N7 := x7.news0 kN
      clear kF kN
      have hl7 : h7.IsList D7 ys7 := hpl7.isList
      have hpr : ∀ t ∈ preds ar j, t < 6 := fun t ht => (har _ (mem_preds.mp ht)).1
      refine CompIter.list rfl F7 N7 hl7 (by have := hst7.length; rw [List.length_map] at this; have : (preds ar j).length ≤ ar.length := by { unfold preds; rw [List.length_map]; exact List.length_filter_le _ _ }; have e8 : ys7.toList.length = ys7.size := by simp
                                             refine Nat.le_trans (show ys7.size ≤ 8 by omega) (by decide +kernel)) ?_ ?_ ?_
      · intro C v s₃ m₃ hv F4 N4 hC hm3 k3
        exact no_tests
      · intro C v s₃ m₃ hv hpv F4 N4 hC hm3 k3
        obtain ⟨t, ht, ut, rfl⟩ := strs_mem hst7 hv
        clear F7 N7
        k_steps
        (with_reducible rename Fr _ _ _ _ => kF)
        (with_reducible rename News _ _ _ _ => kN)
        have ht6 := hpr t ht
        refine core_get (c := c) G₀ kF kN kN hpi6 (by omega) (by omega) (by rw [low_aT d hd t ht6]; exact atK_clean d hd t ht6) (by rw [low_aT d hd t ht6]; show 3 ≤ sizeLine; decide +kernel) (show 3 ≤ 1000 by omega) hIS6.2 (by rw [low_aT d hd t ht6]; exact hIS6.1 t ht6) (fun h9 tk9 t9 x9 F9 N9 N9' => ?_)
        clear kF kN N9'
        k_steps
        exact EltPost.go ⟨t, ut, _, ht6, rfl, rfl⟩ fun b o e => x9 b o e (by simp)
      · intro D h8 tk8 ys8 F8 N8 hD8 hpl8 hF8 k8
        have hah : StrsAre ys8.toList ((preds ar j).map fun t => txt d (S t)) := ahead_are hd hpr hst7 (by rw [List.filter_eq_self.mpr fun _ _ => rfl] at hF8; exact hF8)
        obtain ⟨nD, gD⟩ := hpl8
        have N8' := core_in (c := c) (news_fresh F7 N8 hD8 gD)
        have off8 := core_off (c := c) (o := { cls := .type "list", dict := none, data := .seq ys8 nD }) N7 hoff6 hD8
        clear F7 N7 N8
        refine core_ahead (c := c) F8 N8' hc6 off8 rfl rfl rfl (fun h9 oA9 F9 N9 hc9 hA9 => ?_)
        unfold Core at N9
        clear F8 N8'
        k_steps
        (with_reducible rename Fr _ _ _ _ => kF)
        (with_reducible rename News _ _ _ _ => kN)
        refine Stop.go (comp_cellF kF kN (y := sgs d) (cl := [("sign", L + 1 + 1), ("ahead", L + 1 + 1 + 1)]) (pN d (newF ar S j)) (fun v y => y = v) rfl (show 6 ≤ 1000 by omega) (by with_unfolding_all rfl) rfl (by decide) (fun _ => rfl) (fun _ => rfl) rfl (fun _ => rfl) ?_)
        k_steps
        (with_reducible rename Fr _ _ _ _ => kF)
        (with_reducible rename News _ _ _ _ => kN)
        refine ⟨⟨_, rfl⟩, kF, kN, ?_, ?_, ?_⟩
        · intro C i v s₃ hv F4 N4 hCe hC1 k3
          obtain ⟨hk6, uk, rfl⟩ := sign_at hd hv
          obtain ⟨oC, hoC, hdC⟩ := hCe
          have N5 := news_fresh kF N4 hC1 hoC
          clear kF kN N4
          refine one_test ?_
          have hbij := sg_beq hd hk6 hj6
          by_cases hij : i = j
          · rw [decide_eq_true hij] at hbij
            k_steps
            exact ⟨by rw [pN_sg hd hk6]; simp [newF, hij], _, _, rfl, fun _ _ e => e⟩
          · rw [decide_eq_false hij] at hbij
            k_steps
            refine Stop.go (comp_list (cl := [("one", C + 1)]) (pH d i) (fun v y => y = v) (by with_unfolding_all rfl) (by decide) rfl (by decide) rfl (fun _ => rfl) ?_)
            k_steps
            (with_reducible rename Fr _ _ _ _ => kF)
            (with_reducible rename News _ _ _ _ => kN)
            have hl8 : s₃.heap.IsList D ys8 := ⟨_, (kN _ (.tail _ (core_led (.head _)))).1, rfl, _, rfl⟩
            have hsz8 : ys8.size ≤ 8 := by
              have e1 := hah.length
              rw [List.length_map] at e1
              have e2 : (preds ar j).length ≤ ar.length := by { unfold preds; rw [List.length_map]; exact List.length_filter_le _ _ }
              have e8 : ys8.toList.length = ys8.size := by simp
              omega
            refine CompIter.list rfl kF kN hl8 (Nat.le_trans hsz8 (by decide +kernel)) ?_ ?_ ?_
            · intro C' v s₄ m₄ hv' F6 N6 hC' hm4 k4
              obtain ⟨t, ht, ut, rfl⟩ := strs_mem hah hv'
              clear kF kN
              refine one_test ?_
              k_steps
              exact ⟨pH_occ, _, _, rfl, fun _ _ e => e⟩
            · intro C' v s₄ m₄ hv' hpv F6 N6 hC' hm4 k4
              clear kF kN
              k_steps
              exact ⟨rfl, _, _, rfl, fun _ _ e => e⟩
            · intro D2 h10 tk10 ys10 F10 N10 hD10 hpl10 hF10 k10
              clear kF kN
              obtain ⟨bb, hbb⟩ : ∃ bb, pN d (newF ar S j) (Value.str (sg d i) uk) = bb := ⟨_, rfl⟩
              refine cmp_nil hpl10 (by show un + 3 < cLine; omega) ((pN_new (u := uk) hd hk6 hij hah hF10).trans hbb) fun h11 k11 => ?_
              cases bb <;> (k_steps; exact ⟨hbb.symm, _, _, rfl, fun b o e => k11 b o (k10 b o e)⟩)
        · intro C i v s₃ hv hpv F4 N4 hCe hC1 k3
          obtain ⟨oC, hoC, hdC⟩ := hCe
          have N5 := news_fresh kF N4 hC1 hoC
          clear kF kN N4
          k_steps
          exact ⟨rfl, _, _, rfl, fun _ _ e => e⟩
        · intro D3 h12 tk12 ys12 vs12 F12 N12 hD12 hpl12 hvl12 hvs12 hF12 k12
          clear kF kN
          k_steps
          refine join_new hd hpl12.isList hvl12 hvs12 hF12 (fun tnw knw => ?_)
          have ne12 := hpl12
          clear hvs12 hF12 hvl12 hpl12 ne12 gD hah hA9
          k_steps
          (with_reducible rename Fr _ _ _ _ => kF)
          (with_reducible rename News _ _ _ _ => kN)
          have hpi7 := hpi6.mono (fun q hq => (.tail _ hq : q ∈ (D, { cls := Value.type "list", data := Data.seq ys8 nD }) :: tups6))
          have hpp7 := hpp6.mono (fun q hq => (.tail _ hq : q ∈ (D, { cls := Value.type "list", data := Data.seq ys8 nD }) :: tups6))
          refine Stop.go (wpAny_mono (Q := MidE h₀ L c tx d ts ar Dm s n') (E := fun _ _ => False) ?_ ?_ fun _ _ e => e)
          · refine wpAny_If ?_
            k_steps
            (with_reducible rename Fr _ _ _ _ => kF)
            (with_reducible rename News _ _ _ _ => kN)
            refine core_get (c := c) G₀ kF kN kN hpi7 (by omega) (by omega) (by rw [low_AT d hd j hj6]; exact atK_clean d hd j hj6) (by rw [low_AT d hd j hj6]; show 3 ≤ sizeLine; decide +kernel) (show 3 ≤ 1000 by omega) hIS6.2 (by rw [low_AT d hd j hj6]; exact hIS6.1 j hj6) (fun h13 tk13 t13 x13 F13 N13 N13' => ?_)
            unfold Core at N13
            clear kF kN N13'
            by_cases hsame : Same (newF ar S j) (S j)
            · have hne := (txt_ne (f := newF ar S j) (g := S j) hd).mpr hsame
              have hne' : (txt d (newF ar S j) != txt d (S j)) = false := str_bne.trans hne
              k_steps
              (with_reducible rename Fr _ _ _ _ => kF)
              (with_reducible rename News _ _ _ _ => kN)
              have hms' : n' = 10 * mu S + pile.length + 1 := hms
              exact ⟨S, pile, Mid.go kF kN hc9 off8 hS6 hIS6 hpi7 hpp7 (by omega) (LInv.keep hinv hsame) (by omega) rfl rfl rfl⟩
            · have hne : ((txt d (newF ar S j)).cps.toList != (txt d (S j)).cps.toList) = true := by
                cases q : ((txt d (newF ar S j)).cps.toList != (txt d (S j)).cps.toList) with
                | true => rfl
                | false => exact absurd ((txt_ne hd).mp q) hsame
              have hne' : (txt d (newF ar S j) != txt d (S j)) = true := str_bne.trans hne
              k_steps
              (with_reducible rename Fr _ _ _ _ => kF)
              (with_reducible rename News _ _ _ _ => kN)
              refine core_set (c := c) G₀ kF kN hc9 off8 hpi7 (by omega) (by omega) (by rw [low_at d hd j hj6]; exact atK_clean d hd j hj6) (by rw [low_at d hd j hj6]; show 3 ≤ sizeLine; decide +kernel) (AT_clean d hd j hj6) (show 3 ≤ 1000 by omega) (txt_clean hd) (Nat.le_trans txt_le (show 6 ≤ 1000 by omega)) hIS6.2 (by omega) (fun h17 tk17 vs17 k17 tups17 hsub17 F17 N17 hoff17 hpi17 => ?_)
              have hpp17 := hpp7.mono hsub17
              have hIS17 := hIS6.set (f := newF ar S j) hd hj6
              have hl17 := itemsSet_len (items := items6) (a := Str.ofString "at" ++ sg d j) (b := txt d (newF ar S j))
              generalize itemsSet items6 (Str.ofString "at" ++ sg d j) (txt d (newF ar S j)) = items17 at hpi17 hIS17 hl17
              unfold Core at N17
              clear kF kN hpi7 hpp7 hpi6 hpp6 off8 hne hne'
              k_steps
              (with_reducible rename Fr _ _ _ _ => kF)
              (with_reducible rename News _ _ _ _ => kN)
              refine get_all_c G₀ kF.keep (by omega) (by omega) (kF.keep _ _ htx0) (kF.keep _ _ htdx0) (htl0.at fun o e => kF.keep _ _ e) (htp0.mono fun b o e _ => kF.keep _ _ e) (by rw [low_fROM d hd j hj6]; exact fromK_clean d hd j hj6) (by rw [low_fROM d hd j hj6]; show 5 ≤ sizeLine; decide +kernel) (show 5 ≤ 1000 by omega) htlen (Nat.le_trans htvl (by decide +kernel)) (fun h18 tk18 D18 ys18 x18 nD18 hpl18 hst18 => ?_)
              rw [low_fROM d hd j hj6, hFr j hj6] at hst18
              obtain ⟨n18, g18⟩ := hpl18
              have F18 := x18.fr0 kF
              have N18 := core_in (c := c) (news_fresh kF (x18.news0 kN) nD18 g18)
              have off18 := core_off (c := c) (o := { cls := Value.type "list", dict := none, data := Data.seq ys18 n18 }) kN hoff17 nD18
              have hpi18 := hpi17.mono (fun q hq => (.tail _ hq : q ∈ (D18, { cls := Value.type "list", dict := none, data := Data.seq ys18 n18 }) :: tups17))
              have hpp18 := hpp17.mono (fun q hq => (.tail _ hq : q ∈ (D18, { cls := Value.type "list", dict := none, data := Data.seq ys18 n18 }) :: tups17))
              have e18 : ys18.size = (succs ar j).length := by
                have e1 := hst18.length
                rw [List.length_map] at e1
                have e8 : ys18.toList.length = ys18.size := by simp
                omega
              have F18' := SM.of (tx := tx) (d := d) (ts := ts) (p := c.p) F18 rfl rfl rfl
              clear kF kN hpi17 hpp17 F18
              refine ⟨h₀, (succs ar j).length, (fun i v => ∃ t u, (succs ar j)[i]? = some t ∧ v = .str (sg d t) u), J2 L c d ar j pile vs17 k17 oA9 oG6 oS6 items17 tx ts [(D18, { cls := Value.type "list", dict := none, data := Data.seq ys18 n18 })], ?_, ?_, ?_⟩
              · refine wpAny_mono (ItAt.list (J := J2 L c d ar j pile vs17 k17 oA9 oG6 oS6 items17 tx ts [(D18, { cls := Value.type "list", dict := none, data := Data.seq ys18 n18 })]) (od := { cls := Value.type "list", dict := none, data := Data.seq ys18 n18 }) rfl F18' N18 ⟨_, _, _, _, rfl, off18, hpi18, by simpa [pushed] using hpp18, rfl, fun q hq => by rw [List.mem_singleton.mp hq]; exact .head _⟩ rfl ⟨_, rfl⟩ ?_) (fun it s₂ h₂ => ItAt.weak h₂ e18 (fun i v hv => ?_) fun _ _ => rfl) fun _ _ e => e
                · rintro i m₁ news₁ h ⟨pvs, pn, tups, u, rfl, _, _, _, _, hb⟩ F N
                  exact (N _ (Core.T (hb _ (.head _)))).1
                · exact strs_at hst18 (by rw [Array.getElem?_toList]; exact hv)
              · rintro I i v m₁ news₁ h2 tk2 o hoc hi ⟨t, u, hti, rfl⟩ ⟨pvs, pn, tups, u2, rfl, hoff2, hpi2, hpp2, rfl, hb2⟩ hn F N
                replace F : Fr h₀ L h2 _ := F
                replace N : News h₀ L h2 _ := N
                have ht6 : t < 6 := (har _ (mem_succs.mp (List.mem_of_getElem? hti))).2
                have hoff' := core_in_off (o := o) hoff2 hn
                have hpi' := hpi2.mono (fun q hq => (.tail _ hq : q ∈ (I, o) :: tups))
                have hpp' := hpp2.mono (fun q hq => (.tail _ hq : q ∈ (I, o) :: tups))
                have hb' : ∀ q ∈ [(D18, ({ cls := Value.type "list", dict := none, data := Data.seq ys18 n18 } : Obj))], q ∈ (I, o) :: tups := fun q hq => .tail _ (hb2 q hq)
                have hbI : D18 ≠ I := hn _ (Core.T (hb2 _ (.head _)))
                have hdx1 := hn _ Core.x
                have hdx2 := hn _ Core.dx
                have hdx3 := hn _ Core.pdx
                have N' := core_in N
                clear N N18 F18' off18 hpi18 hpp18
                unfold SM at F
                unfold Core at N'
                refine wpAny_assign_Name ?_
                by_cases ht0 : t = 0
                · subst ht0
                  have hbq : (sg d 0 != sg d 0) = false := by simp
                  k_steps
                  (with_reducible rename Fr _ _ _ _ => kF)
                  (with_reducible rename News _ _ _ _ => kN)
                  obtain ⟨tups7, N7, hn7, hoff7, hsub7, hp7⟩ := core_drop (c := c) kN (.head _) hoc ⟨hdx1, hdx2, hdx3⟩ hoff'
                  have kF' := SM.of (tx := tx) (d := d) (ts := ts) (p := c.p) kF rfl rfl rfl
                  exact TurnR.go kF' N7 hn7 ⟨_, _, _, _, rfl, hoff7, hp7 _ _ hpi', hp7 _ _ (by rw [pushed_succ hti, if_pos rfl]; exact hpp'), rfl, fun q hq => hsub7 _ (hb' q hq) (by rw [List.mem_singleton.mp hq]; exact hbI)⟩
                · have hbq : (sg d t != sg d 0) = true := by
                    have := sg_beq hd ht6 (show 0 < 6 by omega)
                    rw [decide_eq_false ht0] at this
                    simp [bne, this]
                  k_steps
                  (with_reducible rename Fr _ _ _ _ => kF)
                  (with_reducible rename News _ _ _ _ => kN)
                  have hpl2 := @pushed_len ar j i
                  refine core_push (c := c) G₀ kF kN hc9 hoff' hpp' (by omega) (by omega) (by simp [pileS]; omega) (fun h6 tk6 pvs6 pn6 tups6 hsub6 F6 N6 hoff6 hpp6 => ?_)
                  have hpi6 := hpi'.mono hsub6
                  have hI6 := hsub6 _ (.head _)
                  have hb6 := fun q hq => hsub6 _ (hb' q hq)
                  unfold Core at N6
                  clear kF kN hpp' hpi'
                  k_steps
                  (with_reducible rename Fr _ _ _ _ => kF)
                  (with_reducible rename News _ _ _ _ => kN)
                  obtain ⟨tups7, N7, hn7, hoff7, hsub7, hp7⟩ := core_drop (c := c) kN hI6 hoc ⟨hdx1, hdx2, hdx3⟩ hoff6
                  have kF' := SM.of (tx := tx) (d := d) (ts := ts) (p := c.p) kF rfl rfl rfl
                  exact TurnR.go kF' N7 hn7 ⟨_, _, _, _, rfl, hoff7, hp7 _ _ hpi6, hp7 _ _ (by rw [pushed_succ hti, if_neg ht0, ← List.append_assoc, pileS_snoc]; exact hpp6), rfl, fun q hq => hsub7 _ (hb6 q hq) (by rw [List.mem_singleton.mp hq]; exact hbI)⟩
              · rintro m₁ news₁ h2 tk2 ⟨pvs, pn, tups, u2, rfl, hoff2, hpi2, hpp2, rfl, hb2⟩ F N
                replace F : Fr h₀ L h2 _ := F
                replace N : News h₀ L h2 _ := N
                clear N18 F18' off18 hpi18 hpp18
                rw [pushed_all] at hpp2
                have hmu := mu_set (S := S) (f := newF ar S j) hj6 (hinv.dn j hj1 hj6) hsame
                have hnl := @nxt_len ar j
                have hms' : n' = 10 * mu S + pile.length + 1 := hms
                unfold SM at F
                unfold Core at N
                dsimp only
                k_steps
                exact ⟨setS S j (newF ar S j), pile ++ nxt ar j, Mid.go F N hc9 hoff2 hS6 hIS17 hpi2 hpp2 (by rw [List.length_append]; omega) (LInv.step har hD hinv) (by rw [List.length_append]; omega) rfl rfl rfl⟩
          · clear kF kN hpi7 hpp7 hpi6 hpp6 off8
            rintro fl s' ⟨S', pile', rfl, ⟨h14, tk14, vs14, k14, pvs14, pn14, oA14, oG14, oS14, tups14, u14, items14, rfl, F14, N14, hc14, hoff14, hS14, hIS14, hpi14, hpp14, hln14⟩, hinv14, hms14⟩
            unfold SM at F14
            unfold Core at N14
            dsimp only
            k_steps
            (with_reducible rename Fr _ _ _ _ => kF)
            (with_reducible rename News _ _ _ _ => kN)
            by_cases hp0 : pile' = []
            · subst hp0
              refine core_pop0 (c := c) G₀ kF kN hc14 hpp14 (by omega) (by omega) (fun h15 tk15 T15 t151 t152 F15 N15 hT15 => ?_)
              unfold Core at N15
              clear kF kN
              k_steps
              (with_reducible rename Fr _ _ _ _ => kF)
              (with_reducible rename News _ _ _ _ => kN)
              refine core_sign (c := c) kF kN hc14 hoff14 rfl rfl rfl (fun h16 oG16 F16 N16 hc16 hG16 => ?_)
              unfold Core at N16
              clear kF kN
              k_steps
              (with_reducible rename Fr _ _ _ _ => kF)
              (with_reducible rename News _ _ _ _ => kN)
              have hms14' : 10 * mu S' + 0 + 1 ≤ n' := hms14
              have hln14' : items14.length + (10 * mu S' + 0) ≤ 399 := hln14
              refine ⟨10 * mu S', by omega, S', [], none, WI.go kF kN hc16 hoff14 hS14 hG16 hIS14 hpi14 hpp14 (by omega) hinv14 (fun _ => rfl) rfl rfl rfl rfl⟩
            · obtain ⟨pile2, j2, rfl⟩ := pile_last hp0
              rw [pileS_snoc] at hpp14
              rw [List.length_append, List.length_singleton] at hms14 hln14
              refine core_pop (c := c) G₀ kF kN hc14 hoff14 hpp14 (by omega) (by omega) (by simp [pileS]; omega) (fun h15 tk15 pvs15 pn15 T15 t151 t152 F15 N15 hpp15 hT15 => ?_)
              unfold Core at N15
              clear kF kN hpp14
              dsimp only at hT15
              k_steps
              (with_reducible rename Fr _ _ _ _ => kF)
              (with_reducible rename News _ _ _ _ => kN)
              refine core_sign (c := c) kF kN hc14 hoff14 rfl rfl rfl (fun h16 oG16 F16 N16 hc16 hG16 => ?_)
              unfold Core at N16
              clear kF kN
              k_steps
              (with_reducible rename Fr _ _ _ _ => kF)
              (with_reducible rename News _ _ _ _ => kN)
              refine ⟨10 * mu S' + pile2.length + 1, by omega, S', pile2, some j2, WI.go kF kN hc16 hoff14 hS14 hG16 hIS14 hpi14 hpp15 (by omega) (LInv.pop hinv14) (fun e => nomatch e) rfl rfl rfl rfl⟩
      -- >B
    · clear kF kN I0 hpi hpp4 hT4 hG5 hoff
      rintro s' ⟨S, n', ⟨h6, tk6, vs6, k6, pvs6, pn6, oA6, oG6, oS6, tups6, u6, items6, tu6, rfl, F6, N6, hc6, hoff6, hS6, hG6, hIS6, hpi6, hpp6, hln6⟩, hinv, hemp, hms⟩
      unfold SM at F6
      unfold Core at N6
      have old6 : ∀ b o, s.heap.get? b = some o → h6.get? b = some o := fun b o e => F6.keep b o (hk₀ b o e (by simp))
      dsimp only
      k_steps
      refine Stop.go (comp_list (cl := [("sets", L + 1)]) (fun _ => true) (FA d S) (by with_unfolding_all rfl) (by decide) rfl (by decide) rfl (fun _ => rfl) ?_)
      k_steps
      (with_reducible rename Fr _ _ _ _ => kF)
      (with_reducible rename News _ _ _ _ => kN)
      refine CompIter.str rfl kF kN (show 6 ≤ sizeLine by decide +kernel) ?_ ?_ ?_
      · intro C i v s₃ m₃ hv F4 N4 hC hm3 k3
        exact no_tests
      · intro C i v s₃ m₃ hv hpv F4 N4 hC hm3 k3
        obtain ⟨ht6, ut, rfl⟩ := sign_at hd hv
        clear kF kN
        k_steps
        (with_reducible rename Fr _ _ _ _ => kF)
        (with_reducible rename News _ _ _ _ => kN)
        refine core_get (c := c) G₀ kF kN kN hpi6 (by omega) (by omega) (by rw [low_aT d hd i ht6]; exact atK_clean d hd i ht6) (by rw [low_aT d hd i ht6]; show 3 ≤ sizeLine; decide +kernel) (show 3 ≤ 1000 by omega) hIS6.2 (by rw [low_aT d hd i ht6]; exact hIS6.1 i ht6) (fun h9 tk9 t9 x9 F9 N9 N9' => ?_)
        clear kF kN N9'
        k_steps
        exact EltPost.go ⟨i, ut, _, ht6, rfl, rfl⟩ fun b o e => x9 b o e (by simp)
      · intro D h8 tk8 ys8 vs8 F8 N8 hD8 hpl8 hvl8 hvs8 hF8 k8
        obtain ⟨u0, u1, u2, u3, u4, u5, rfl⟩ := six hd hvl8 hvs8
        have hst8 : StrsAre ys8.toList ([0, 1, 2, 3, 4, 5].map fun t => txt d (S t)) := ahead_are hd (l := [0, 1, 2, 3, 4, 5]) (fun t ht => six_mem.mp ht) (.cons _ _ (.cons _ _ (.cons _ _ (.cons _ _ (.cons _ _ (.cons _ _ .nil)))))) (by rw [List.filter_eq_self.mpr fun _ _ => rfl] at hF8; exact hF8)
        clear kF kN
        k_steps
        refine hret h8 _ D ys8 S (fun b o e _ => k8 b o (old6 b o e)) ?_ hpl8 hst8 hinv
        cases q : s.heap.get? D with
        | none => rfl
        | some o => have := old6 _ _ q; dsimp only at hD8; rw [this] at hD8; cases hD8
end
end Mine
end
section
open PySem PySem.W PyProof.Rows PySem.Calls
set_option maxRecDepth 100000
set_option maxHeartbeats 2000000
namespace Mine
/-! the reaching loop, in plain Lean -/
noncomputable def newP (rns : List Int) (v : Nat) (a : Nat × Nat) : Bool := decide (((a.1 : Nat) : Int) ∈ rns) && (a.2 != v) && !(decide (((a.2 : Nat) : Int) ∈ rns))
noncomputable def unr (rns : List Int) : Nat := ([0, 1, 2, 3, 4, 5].filter fun k : Nat => !decide (((k : Nat) : Int) ∈ rns)).length
structure RP (ar : List (Nat × Nat)) (v : Nat) (rns mns : List Int) : Prop where
  snd : ∀ z ∈ rns, ∃ k : Nat, z = (k : Int) ∧ Rch ar v k
  zr : v ≠ 0 → (0 : Int) ∈ rns
  cl : mns = [] → ∀ x y : Nat, ((x : Nat) : Int) ∈ rns → (x, y) ∈ ar → y ≠ v → ((y : Nat) : Int) ∈ rns
  len : rns.length + 6 * unr rns ≤ 42
  ml : mns.length ≤ rns.length
theorem unr_le {rns : List Int} : unr rns ≤ 6 := List.length_filter_le _ _
theorem RP.start0 {ar : List (Nat × Nat)} : RP ar 0 [] [] where
  snd := fun _ h => nomatch h
  zr := fun h => absurd rfl h
  cl := fun _ _ _ h => nomatch h
  len := by have := @unr_le []; simp; omega
  ml := Nat.le_refl _
theorem RP.start {ar : List (Nat × Nat)} {v : Nat} (hv : v ≠ 0) : RP ar v [0] [0] where
  snd := fun z h => ⟨0, by simpa using h, .zero hv⟩
  zr := fun _ => .head _
  cl := fun h => nomatch h
  len := by have := @unr_le [0]; simp; omega
  ml := Nat.le_refl _
theorem unr_app {rns mns : List Int} : unr (rns ++ mns) ≤ unr rns ∧ ((∃ k < 6, ((k : Nat) : Int) ∈ mns ∧ ((k : Nat) : Int) ∉ rns) → unr (rns ++ mns) < unr rns) := by
  have h := count_lt (f := fun k : Nat => !decide (((k : Nat) : Int) ∈ rns ++ mns)) (g := fun k : Nat => !decide (((k : Nat) : Int) ∈ rns)) [0, 1, 2, 3, 4, 5] (fun k _ => by
    simp only [Bool.not_eq_true', decide_eq_false_iff_not, List.mem_append, not_or]
    exact fun q => q.1)
  refine ⟨h.1, fun ⟨k, hk, h1, h2⟩ => h.2 ⟨k, six_mem.mpr hk, ?_⟩⟩
  have a1 : decide (((k : Nat) : Int) ∈ rns ++ mns) = true := decide_eq_true (List.mem_append_right _ h1)
  have a2 : decide (((k : Nat) : Int) ∈ rns) = false := decide_eq_false h2
  show (!decide (((k : Nat) : Int) ∈ rns ++ mns)) ≠ (!decide (((k : Nat) : Int) ∈ rns))
  rw [a1, a2]; simp
section
variable {ar : List (Nat × Nat)} {v b : Nat} {rns mns ns : List Int}
theorem new_mem (har : ∀ a ∈ ar, a.1 < 6 ∧ a.2 < 6) (hb : ∀ k < 6, b.testBit k = hasBit (newP rns v) ar k) (hp : ns.Perm (hasB b)) {z : Int} : z ∈ ns ↔ ∃ x y : Nat, (x, y) ∈ ar ∧ ((x : Nat) : Int) ∈ rns ∧ y ≠ v ∧ ((y : Nat) : Int) ∉ rns ∧ z = (y : Int) := by
  rw [hp.mem_iff, hasB_mem]
  constructor
  · rintro ⟨i, hi, hbi, rfl⟩
    rw [hb i hi] at hbi
    unfold hasBit at hbi
    obtain ⟨⟨x, y⟩, hm, h⟩ := List.any_eq_true.mp hbi
    simp only [newP, Bool.and_eq_true, decide_eq_true_eq, bne_iff_ne, beq_iff_eq, Bool.not_eq_true', decide_eq_false_iff_not] at h
    obtain ⟨⟨⟨h1, h2⟩, h3⟩, rfl⟩ := h
    exact ⟨x, y, hm, h1, h2, h3, rfl⟩
  · rintro ⟨x, y, hm, h1, h2, h3, rfl⟩
    have hy := (har _ hm).2
    refine ⟨y, hy, ?_, rfl⟩
    rw [hb y hy]
    refine List.any_eq_true.mpr ⟨(x, y), hm, ?_⟩
    simp only [newP, Bool.and_eq_true, decide_eq_true_eq, bne_iff_ne, beq_iff_eq, Bool.not_eq_true', decide_eq_false_iff_not]
    exact ⟨⟨⟨h1, h2⟩, h3⟩, trivial⟩
theorem hasB_len (hb : b < 64) : (hasB b).length ≤ 6 := by
  unfold hasB; rw [List.length_map]; exact bits_len b hb
theorem RP.step (har : ∀ a ∈ ar, a.1 < 6 ∧ a.2 < 6) (R : RP ar v rns mns) (hb : ∀ k < 6, b.testBit k = hasBit (newP rns v) ar k) (hb6 : b < 64) (hp : ns.Perm (hasB b)) :
    RP ar v (rns ++ ns) ns ∧ (unr (rns ++ ns) + (if ns = [] then 0 else 1) < unr rns + 1) := by
  have hm := fun z => new_mem (z := z) har hb hp
  have hle := @unr_app rns ns
  have hlen : ns.length ≤ 6 := by rw [hp.length_eq]; exact hasB_len hb6
  have lt : ns ≠ [] → unr (rns ++ ns) < unr rns := by
    intro hne
    obtain ⟨z, hz⟩ := List.exists_mem_of_ne_nil _ hne
    obtain ⟨x, y, h1, h2, h3, h4, rfl⟩ := (hm z).mp hz
    exact hle.2 ⟨y, (har _ h1).2, hz, h4⟩
  refine ⟨⟨fun z hz => ?_, fun h => List.mem_append_left _ (R.zr h), fun e x y hx hxy hy => ?_, ?_, by rw [List.length_append]; omega⟩, ?_⟩
  · rcases List.mem_append.mp hz with hz | hz
    · exact R.snd z hz
    · obtain ⟨x, y, h1, h2, h3, h4, rfl⟩ := (hm z).mp hz
      obtain ⟨k, hk, hr⟩ := R.snd _ h2
      have : x = k := by omega
      subst this
      exact ⟨y, rfl, .step hr h1 h3⟩
  · subst e
    rw [List.append_nil] at hx ⊢
    refine Classical.byContradiction fun q => ?_
    have : ((y : Nat) : Int) ∈ ([] : List Int) := (hm _).mpr ⟨x, y, hxy, hx, hy, q, rfl⟩
    cases this
  · have := R.len
    rw [List.length_append]
    by_cases e : ns = []
    · subst e; rw [List.append_nil]; simpa using this
    · have := lt e; omega
  · by_cases e : ns = []
    · subst e; rw [List.append_nil]; simp
    · rw [if_neg e]; have := lt e; omega
theorem RP.done (R : RP ar v rns []) (k : Nat) : ((k : Nat) : Int) ∈ rns ↔ Rch ar v k := by
  constructor
  · intro h
    obtain ⟨k', e, hr⟩ := R.snd _ h
    have : k = k' := by omega
    rw [this]; exact hr
  · intro h
    induction h with
    | zero h => exact R.zr h
    | step _ e n ih => exact R.cl rfl _ _ ih e n
end
/-! its ledger -/
noncomputable def LObj (o : Obj) (vs : List Value) : Prop := o.cls = .type "list" ∧ ∃ n, o.data = .seq vs.toArray n
theorem LObj.at {o : Obj} {vs : List Value} {h : Heap} {a : Addr} (x : LObj o vs) (ho : h.get? a = some o) : h.IsList a vs.toArray := ⟨o, ho, x.1, x.2⟩
noncomputable def RM (la ma : Addr) (u : Str → Option Value) (y : Str) : Option Value := if y = "more" then some (.ref ma) else if y = "arrows" then some (.ref la) else u y
theorem RM.of {h₀ h : Heap} {L : Addr} {m : Str → Option Value} {la ma : Addr} (F : Fr h₀ L h m) (hm : m "more" = some (.ref ma)) (ha : m "arrows" = some (.ref la)) : Fr h₀ L h (RM la ma m) := by
  refine Fr.cong F fun y => ?_
  unfold RM
  split
  · rename_i e; rw [e, hm]
  split
  · rename_i e; rw [e, ha]
  rfl
structure RI (h₀ : Heap) (L la : Addr) (v : Nat) (tv : Tok) (ar : List (Nat × Nat)) (s : Shared) (rns mns : List Int) (n : Nat) (s' : Shared) : Prop where
  ex : ∃ h tk ra ma rvs mvs oR oW oa ob u, s' = { s with heap := h, toks := tk } ∧ Fr h₀ L h (RM la ma u) ∧ News h₀ L h [(L + 1 + 1, oR), (L + 1, oW), (ra, oa), (ma, ob)] ∧ oR.data = .cell (some (.ref ra)) ∧ oW.data = .cell (some (.int ((v : Nat) : Int) tv)) ∧ LObj oa rvs ∧ IntsAre rvs rns ∧ LObj ob mvs ∧ IntsAre mvs mns
  rp : RP ar v rns mns
  ms : unr rns + (if mns = [] then 0 else 1) ≤ n
theorem RI.go {h₀ : Heap} {L la : Addr} {v : Nat} {tv : Tok} {ar : List (Nat × Nat)} {s : Shared} {rns mns : List Int} {n : Nat} {h : Heap} {tk : Nat} {ra ma : Addr} {rvs mvs : List Value} {oR oW oa ob : Obj} {m : Str → Option Value}
    (F : Fr h₀ L h m) (N : News h₀ L h [(L + 1 + 1, oR), (L + 1, oW), (ra, oa), (ma, ob)]) (hR : oR.data = .cell (some (.ref ra))) (hW : oW.data = .cell (some (.int ((v : Nat) : Int) tv))) (ha : LObj oa rvs) (hri : IntsAre rvs rns) (hb : LObj ob mvs) (hmi : IntsAre mvs mns) (rp : RP ar v rns mns) (ms : unr rns + (if mns = [] then 0 else 1) ≤ n)
    (h1 : m "more" = some (.ref ma)) (h2 : m "arrows" = some (.ref la)) : RI h₀ L la v tv ar s rns mns n { s with heap := h, toks := tk } :=
  ⟨⟨h, tk, ra, ma, rvs, mvs, oR, oW, oa, ob, m, rfl, RM.of F h1 h2, N, hR, hW, ha, hri, hb, hmi⟩, rp, ms⟩
section
variable {h₀ : Heap} {L : Addr} {s : Shared} {m : Str → Option Value}
theorem rc_store {M : Model} {A : Around} {env : Env} {x : Str} {v : Value} {oR oW : Obj} {cv : Option Value} {rest : List (Addr × Obj)} {Q : Unit → Shared → Prop} {E : Value → Shared → Prop} (F : Fr h₀ L s.heap m) (N : News h₀ L s.heap ((L + 1 + 1, oR) :: (L + 1, oW) :: rest)) (hR : oR.data = .cell cv) (hrest : ∀ p ∈ rest, ∀ cv, p.2.data ≠ .cell cv)
    (hk : env.scope.kind = .function) (hx : env.kindOf x = some .cell) (hcl : env.cells.lookup x = some (L + 1 + 1))
    (h : ∀ h' oR', Fr h₀ L h' m → News h₀ L h' ((L + 1 + 1, oR') :: (L + 1, oW) :: rest) → oR'.data = .cell (some v) → Q () { s with heap := h' }) : wpAny M A (storeName env x v) Q E s := by
  have hm := N _ (.head _)
  refine wpAny_storeName_cell hk hx hcl ⟨oR, hm.1, hR⟩ fun h' hv hs => ?_
  obtain ⟨oR', ho', hd'⟩ := hv
  refine h h' oR' ⟨F.ns.sameBut hs (Ne.symm hm.2.1), fun b ob e => (hs.2 b (fun q => by rw [q, hm.2.2] at e; cases e)).trans (F.keep b ob e), F.above⟩ (fun p hp => ?_) hd'
  rcases List.mem_cons.mp hp with rfl | hp
  · exact ⟨ho', hm.2⟩
  · have hne : p.1 ≠ L + 1 + 1 := by
      rcases List.mem_cons.mp hp with rfl | hp
      · exact (Nat.succ_ne_self (L + 1)).symm
      · exact news_ne' N (.tail _ (.tail _ hp)) (.head _) fun e => hrest p hp cv (by rw [e]; exact hR)
    exact ⟨(hs.2 _ hne).trans (N p (.tail _ hp)).1, (N p (.tail _ hp)).2⟩
variable {prog : Program} {w : World} {A : Around} {E : Value → Shared → Prop}
theorem ints_any {vs : List Value} {ns : List Int} (hI : IntsAre vs ns) (z : Int) : (vs.any fun y => match y with | .int a _ => a == z | _ => false) = decide (z ∈ ns) := by
  induction hI with
  | nil => rfl
  | @cons a t vs ns _ ih =>
    rw [List.any_cons, ih]
    by_cases e : a = z
    · subst e; simp
    · have e' : ¬ z = a := fun q => e q.symm
      simp [e, e']
theorem ints_eq {vs : List Value} {ns : List Int} (hI : IntsAre vs ns) {z : Int} {t : Tok} : ∀ y ∈ vs, SeqAt.EqAt A s y (.int z t) (match y with | .int a _ => a == z | _ => false) := by
  induction hI with
  | nil => intro y hy; cases hy
  | @cons a u vs ns _ ih =>
    intro y hy
    rcases List.mem_cons.mp hy with rfl | hy
    · exact SeqAt.EqAt.int_int a u z t
    · exact ih y hy
theorem in_ints {l : Addr} {vs : List Value} {ns : List Int} {z : Int} {t : Tok} {Q : Value → Shared → Prop} (hl : s.heap.IsList l vs.toArray) (hI : IntsAre vs ns) (h : Q (.bool (decide (z ∈ ns))) s) : wpAny (model prog w) A (compareOp .In (.int z t) (.ref l)) Q E s := by
  refine SeqAt.in_listAt (fun y => match y with | .int a _ => a == z | _ => false) hl (fun y hy => ints_eq hI y (by simpa using hy)) ?_
  rw [← ints_any hI z] at h
  simpa using h
theorem notIn_ints {l : Addr} {vs : List Value} {ns : List Int} {z : Int} {t : Tok} {Q : Value → Shared → Prop} (hl : s.heap.IsList l vs.toArray) (hI : IntsAre vs ns) (h : Q (.bool (!decide (z ∈ ns))) s) : wpAny (model prog w) A (compareOp .NotIn (.int z t) (.ref l)) Q E s := by
  refine SeqAt.notIn_listAt (fun y => match y with | .int a _ => a == z | _ => false) hl (fun y hy => ints_eq hI y (by simpa using hy)) ?_
  rw [← ints_any hI z] at h
  simpa using h
theorem truthy_ints {l : Addr} {vs : List Value} {ns : List Int} {Q : Bool → Shared → Prop} (hl : s.heap.IsList l vs.toArray) (hI : IntsAre vs ns) (h64 : ns.length ≤ 1000) (h : ∀ k, Q (!decide (ns = [])) { s with toks := k }) : wpAny (model prog w) A (truthy (.ref l)) Q E s := by
  have hlen := hI.length
  refine wpAny_truthy_list hl (by simp; omega) ?_
  have e : (!vs.toArray.isEmpty) = !decide (ns = []) := by
    cases hI with
    | nil => rfl
    | cons a t r => simp
  rw [e]
  exact h _
end
theorem news_rot {h₀ h : Heap} {L : Addr} {x a b : Addr × Obj} {r : List (Addr × Obj)} (N : News h₀ L h (x :: a :: b :: r)) : News h₀ L h (a :: b :: x :: r) := fun p hp => N p (by
  simp only [List.mem_cons] at hp ⊢
  rcases hp with h | h | h | h
  · exact .inr (.inl h)
  · exact .inr (.inr (.inl h))
  · exact .inl h
  · exact .inr (.inr (.inr h)))
structure R0 (h₀ : Heap) (L la : Addr) (v : Nat) (tv : Tok) (ar : List (Nat × Nat)) (s : Shared) (fl : Flow) (s' : Shared) : Prop where
  fl : fl = .next
  ex : ∃ h tk ra rvs rns oR oW oa m, s' = { s with heap := h, toks := tk } ∧ Fr h₀ L h m ∧ m "arrows" = some (.ref la) ∧ News h₀ L h [(L + 1 + 1, oR), (L + 1, oW), (ra, oa)] ∧ oR.data = .cell (some (.ref ra)) ∧ oW.data = .cell (some (.int ((v : Nat) : Int) tv)) ∧ LObj oa rvs ∧ IntsAre rvs rns ∧ RP ar v rns rns
theorem R0.go {h₀ : Heap} {L la : Addr} {v : Nat} {tv : Tok} {ar : List (Nat × Nat)} {s : Shared} {rns : List Int} {h : Heap} {tk : Nat} {ra : Addr} {rvs : List Value} {oR oW oa : Obj} {m : Str → Option Value}
    (F : Fr h₀ L h m) (N : News h₀ L h [(L + 1 + 1, oR), (L + 1, oW), (ra, oa)]) (hR : oR.data = .cell (some (.ref ra))) (hW : oW.data = .cell (some (.int ((v : Nat) : Int) tv))) (ha : LObj oa rvs) (hri : IntsAre rvs rns) (rp : RP ar v rns rns) (h1 : m "arrows" = some (.ref la)) : R0 h₀ L la v tv ar s .next { s with heap := h, toks := tk } :=
  ⟨rfl, h, tk, ra, rvs, rns, oR, oW, oa, m, rfl, F, h1, N, hR, hW, ha, hri, rp⟩
set_option linter.unusedVariables false in
theorem set_compF {prog : Program} {w : World} {A : Around} {E : Value → Shared → Prop} {s : Shared} {env : Env} {h₀ hq : Heap} {L : Addr} {m : Str → Option Value} {news : List (Addr × Obj)} (F₀ : Fr h₀ L hq m) (N₀ : News h₀ L hq news) {elt iter : Expr} {xi xc : Str} {pk pv pt : Pos} {x1 : Nat} {ifs : List Expr} {scope : Scope} {cl : List (Str × Addr)} {pos : Pos} {Q : Value → Shared → Prop} {ar : List (Nat × Nat)} (p : Nat × Nat → Bool) (hh : A.handled = none)
    (hclos : closureFor scope env = pure cl) (hcell : ∀ y ∈ scope.names, y.2 ≠ .cell) (hkind : scope.kind = .function) (hnames : ∀ y ∈ scope.names, y.2 = .local → scope.names.lookup y.1 = some .local)
    (hxi : scope.names.lookup xi = some .local) (hxc : scope.names.lookup xc = some .local) (hne : xi ≠ xc) (har : ∀ a ∈ ar, a.1 < 6 ∧ a.2 < 6)
    (hs : ∀ x, foldedSetIterable iter env x = pure x)
    (h : wpAny (model prog w) A (eval iter env) (SetCompAt prog w A env elt xi xc ifs scope cl p ar h₀ L m news Q) E s) :
    wpAny (model prog w) A (eval (.SetComp elt [⟨.Tuple [.Name xi pk, .Name xc pv] x1 pt, iter, ifs, 0⟩] scope pos) env) Q E s := set_comp p hh hclos hcell hkind hnames hxi hxc hne har hs h
section
variable {rns : List Int} {v : Nat} {a : Nat × Nat}
theorem newP_t (h1 : ((a.1 : Nat) : Int) ∈ rns) (h2 : ((a.2 : Nat) : Int) ≠ ((v : Nat) : Int)) (h3 : ¬ ((a.2 : Nat) : Int) ∈ rns) : true = newP rns v a := by
  have : a.2 ≠ v := fun e => h2 (by rw [e])
  simp [newP, h1, h3, this]
theorem newP_f1 (h1 : ¬ ((a.1 : Nat) : Int) ∈ rns) : false = newP rns v a := by simp [newP, h1]
theorem newP_f2 (h1 : ((a.2 : Nat) : Int) = ((v : Nat) : Int)) : false = newP rns v a := by
  have : a.2 = v := by omega
  simp [newP, this]
theorem newP_f3 (h1 : ((a.2 : Nat) : Int) ∈ rns) : false = newP rns v a := by simp [newP, h1]
theorem ints_append {vs ws : List Value} {ns ms : List Int} (h : IntsAre vs ns) (h2 : IntsAre ws ms) : IntsAre (vs ++ ws) (ns ++ ms) := by
  induction h with
  | nil => exact h2
  | cons a t _ ih => exact .cons a t ih
end
end Mine
end
section
open PySem PySem.W PyProof.Rows PySem.Calls
set_option maxRecDepth 100000
set_option maxHeartbeats 2000000
namespace Mine
theorem fillit21 : (fun (_ : Params → Frag) (_ : OpenLaw) => True) kk.heap_1 PySem.Challenge.rw_wj0075_01 := by k_fill; trivial
section
variable {w : World} {lo : List Str} {mean : ExcName → Option Value} {mg mb : Str → Option Value} {g : Heap} {s : Shared} {dp un : Nat} {fr : Option (List Env)} {gd : Option (List Code)} {Q : Value → Shared → Prop} {E : Value → Shared → Prop}
theorem kwRx0 : True := by
  k_with_none
  trivial
theorem kwRx1 : True := by
  (k_with "exec While" => refine Mine.Stop.of ?_)
  trivial
theorem kwRx2 : True := by
  (k_with "eval SetComp" => refine Mine.Stop.of ?_)
  trivial
theorem kwRx3 : True := by
  (k_with "storeName" => ((with_reducible show wpAny _ _ (storeName _ (Str.ofString "reached") _) _ _ _); refine Mine.Stop.of ?_))
  trivial
theorem kwRx4 : True := by
  (k_with "exec Assign" => ((with_reducible show wpAny _ _ (exec (Stmt.Assign [Expr.Name (Str.ofString "reached") _] (Expr.IfExp _ _ _ _) _) _) _ _ _); refine Mine.Stop.of ?_))
  trivial
theorem kwRx5 : True := by
  (k_with "compareOp In" => ((with_reducible show wpAny _ _ (compareOp CmpOp.In (Value.int _ _) (Value.ref _)) _ _ _); (with_reducible rename News _ _ _ _ => kN); (k_dflt (refine in_ints (LObj.at (by with_reducible assumption) (kN _ (.tail _ (.tail _ (.head _)))).1) (by with_reducible assumption) ?_))))
  trivial
theorem kwRx6 : True := by
  (k_with "compareOp NotIn" => ((with_reducible show wpAny _ _ (compareOp CmpOp.NotIn (Value.int _ _) (Value.ref _)) _ _ _); (with_reducible rename News _ _ _ _ => kN); (k_dflt (refine notIn_ints (LObj.at (by with_reducible assumption) (kN _ (.tail _ (.tail _ (.head _)))).1) (by with_reducible assumption) ?_))))
  trivial
theorem kwRx7 : True := by
  (k_with "binaryOp Add ref ref" => refine Mine.Stop.of ?_)
  trivial

theorem reached_c (G : Gnd w lo mean mg mb g) (Bs : ∀ b o, g.get? b = some o → s.heap.get? b = some o) (hdp : dp + 8 < recursionLimit) (hun : un + 80 < cLine)
    {la : Addr} {avs : List Value} {ar : List (Nat × Nat)} {v : Nat} {tv : Tok} (hla : s.heap.IsList la avs.toArray) (haa : ArrAt s.heap avs ar) (har : ∀ a ∈ ar, a.1 < 6 ∧ a.2 < 6)
    (hret : ∀ h' tk' D vs ns, Ext s.heap h' [] → s.heap.get? D = none → h'.IsList D (List.toArray vs) → IntsAre vs ns → (∀ z ∈ ns, ∃ k : Nat, z = (k : Int) ∧ Rch ar v k) → (∀ k : Nat, ((k : Nat) : Int) ∈ ns ↔ Rch ar v k) → ns.length ≤ 42 → Q (.ref D) { s with heap := h', toks := tk' }) :
    wpAny (model PR w) (AA dp un fr gd) (call (.ref 302) [.ref la, .int ((v : Nat) : Int) tv]) Q E s := by
  refine wpAny_call ?_
  refine enterCC (binds := [("arrows", .ref la), ("without", .int ((v : Nat) : Int) tv)]) [] G Bs (by simp) (by k_is) (by k_is) (by omega) (BindsTo.of_eq rfl) rfl (by decide) ?_ rfl rfl rfl
  intro h₀ L h₁ tk0 cells G₀ hs₀ hk₀ hW F N Y hcf hL hk₁
  have X := G₀.X
  have T := G₀.T
  k_cells Y
  have hla0 : h₀.IsList la avs.toArray := hla.at fun o e => hk₀ _ _ e (by simp)
  have haa0 : ArrAt h₀ avs ar := haa.mono fun b o e => hk₀ _ _ e (by simp)
  clear hla haa
  obtain ⟨oR, oW, N', hR, hW0⟩ : ∃ oR oW, News h₀ L h₁ [(L + 1 + 1, oR), (L + 1, oW)] ∧ oR.data = .cell none ∧ oW.data = .cell (some (.int ((v : Nat) : Int) tv)) := ⟨_, _, N, by assumption, by assumption⟩
  clear N hcf
  rename News _ _ _ _ => N
  k_steps
  refine Stop.go (wpAny_mono (Q := R0 h₀ L la v tv ar s) (E := fun _ _ => False) ?_ ?_ fun _ _ e => e)
  · refine wpAny_Assign_Name ?_
    by_cases hv : v = 0
    · have hv1 : (((v : Nat) : Int) == 0) = true := by simp [hv]
      have hv2 : ((v : Nat) : Int) = 0 := by omega
      k_steps
      (with_reducible rename Fr _ _ _ _ => kF); (with_reducible rename News _ _ _ _ => kN)
      refine Stop.go (rc_store kF (news_rot kN) hR (fun p hp cv => by rw [List.mem_singleton.mp hp]; simp) rfl rfl rfl fun h4 oR4 F4 N4 hR4 => ?_)
      subst hv
      exact R0.go F4 N4 hR4 hW0 ⟨rfl, _, rfl⟩ .nil RP.start0 rfl
    · have hv1 : (((v : Nat) : Int) == 0) = false := by simp [hv]
      have hv2 : ¬ ((v : Nat) : Int) = 0 := by omega
      k_steps
      (with_reducible rename Fr _ _ _ _ => kF); (with_reducible rename News _ _ _ _ => kN)
      refine Stop.go (rc_store kF (news_rot kN) hR (fun p hp cv => by rw [List.mem_singleton.mp hp]; simp) rfl rfl rfl fun h4 oR4 F4 N4 hR4 => ?_)
      exact R0.go F4 N4 hR4 hW0 ⟨rfl, _, rfl⟩ (.cons 0 _ .nil) (RP.start hv) rfl
  · rintro fl s' ⟨rfl, h2, tk2, ra, rvs, rns, oR2, oW2, oa, m2, rfl, F2, hm2, N2, hR2, hW2, ha2, hri, rp⟩
    dsimp only
    clear hR hW0 N
    k_steps
    (with_reducible rename Fr _ _ _ _ => kF); (with_reducible rename News _ _ _ _ => kN)
    have N3 : News h₀ L _ [(L + 1 + 1, oR2), (L + 1, oW2), (ra, oa), (ra, oa)] := fun p hp => kN p (by simpa using hp)
    refine Stop.go (while_rule (fun n' s' => ∃ rns mns, RI h₀ L la v tv ar s rns mns n' s') (fun n' s' => ∃ rns mns, mns ≠ [] ∧ RI h₀ L la v tv ar s rns mns n' s') (fun s' => ∃ rns n', RI h₀ L la v tv ar s rns [] n' s') ?_ ?_ ?_ 7 ⟨rns, rns, RI.go kF N3 hR2 hW2 ha2 hri ha2 hri rp (by have := @unr_le rns; split <;> omega) rfl hm2⟩)
    · clear kF kN N3 hR2 hW2 ha2 hri rp hm2
      rintro n' s' ⟨rns, mns, ⟨h3, tk3, ra, ma, rvs, mvs, oR3, oW3, oa3, ob3, u3, rfl, F3, N3, hR3, hW3, ha3, hri3, hb3, hmi3⟩, rp3, hms3⟩
      unfold RM at F3
      refine isTrue_plain ?_ rfl
      k_steps
      (with_reducible rename Fr _ _ _ _ => kF); (with_reducible rename News _ _ _ _ => kN)
      have hlen3 : mns.length ≤ 1000 := by have := rp3.len; have := rp3.ml; omega
      refine truthy_ints (LObj.at hb3 (kN _ (.tail _ (.tail _ (.tail _ (.head _))))).1) hmi3 hlen3 fun k => ?_
      by_cases hmn : mns = []
      · rw [decide_eq_true hmn]
        subst hmn
        exact TestW.no ⟨rns, n', RI.go kF kN hR3 hW3 ha3 hri3 hb3 hmi3 rp3 hms3 rfl rfl⟩
      · rw [decide_eq_false hmn]
        exact TestW.yes ⟨rns, mns, hmn, RI.go kF kN hR3 hW3 ha3 hri3 hb3 hmi3 rp3 hms3 rfl rfl⟩
    · clear kF kN N3 hR2 hW2 ha2 hri rp hm2
      rintro n' s' ⟨rns, mns, hmn, ⟨h3, tk3, ra, ma, rvs, mvs, oR3, oW3, oa3, ob3, u3, rfl, F3, N3, hR3, hW3, ha3, hri3, hb3, hmi3⟩, rp3, hms3⟩
      unfold RM at F3
      rw [if_neg hmn] at hms3
      clear hb3 hmi3
      k_steps
      (with_reducible rename Fr _ _ _ _ => kF); (with_reducible rename News _ _ _ _ => kN)
      refine Stop.go (set_compF kF kN (cl := [("without", L + 1), ("reached", L + 1 + 1)]) (ar := ar) (newP rns v) rfl (by with_unfolding_all rfl) (by decide) rfl (by decide) rfl rfl (by decide) har (fun _ => rfl) ?_)
      k_steps
      (with_reducible rename Fr _ _ _ _ => kF); (with_reducible rename News _ _ _ _ => kN)
      refine ⟨la, avs, rfl, hla0.at fun o e => kF.keep _ _ e, haa0.mono fun b o e => kF.keep _ _ e, kF, kN, ?_, ?_, ?_⟩
      · intro C a t1 t2 s₃ m₃ hmem F4 N4 hC hm1 hm2 k4
        clear kF kN
        refine one_test ?_
        k_steps
        all_goals first | exact ⟨_, _, rfl, fun _ _ e => e⟩ | exact newP_t (by assumption) (by assumption) (by assumption) | exact newP_f1 (by assumption) | exact newP_f2 (by assumption) | exact newP_f3 (by assumption)
      · intro C a t1 t2 s₃ m₃ hmem F4 N4 hC hm1 hm2 k4
        clear kF kN
        k_steps
        all_goals exact ⟨_, _, rfl, fun _ _ e => e⟩
      · intro D h5 tk5 b o F5 N5 hD5 ho5 hS5 hb5 k5
        clear kF kN
        k_steps
        (with_reducible rename Fr _ _ _ _ => kF); (with_reducible rename News _ _ _ _ => kN)
        refine sorted_set rfl kF kN ho5 hS5 fun D6 h6 tk6 vs6 ns6 F6 N6 hD6 hl6 hI6 hp6 hs6 k6 => ?_
        obtain ⟨o6, ho6, hc6, n6, hd6⟩ := hl6
        have hb64 : b < 64 := by obtain ⟨_, es, ep, big, q, _⟩ := hS5; exact q
        have hsz1 := hri3.length
        have hsz2 := hI6.length
        have hsz3 : ns6.length ≤ 6 := by rw [hp6.length_eq]; exact hasB_len hb64
        have hsz4 := rp3.len
        have hsz5 : (48 : Nat) ≤ sizeLine := by decide +kernel
        have N7 := news_fresh kF N6 hD6 ho6
        clear kF kN N6
        k_steps
        (with_reducible rename Fr _ _ _ _ => kF); (with_reducible rename News _ _ _ _ => kN)
        refine Stop.go (add_arrays kF kN (LObj.at ha3 (kN _ (.tail _ (.tail _ (.tail _ (.head _))))).1) ⟨o6, (kN _ (.head _)).1, hc6, n6, hd6⟩ (fun h7 F7 N8 => ?_) (by simp; omega))
        have N9 : News h₀ L h7 ((L + 1 + 1, oR3) :: (L + 1, oW3) :: [(_, { cls := .type "list", data := .seq (rvs.toArray.toList ++ vs6.toArray.toList).toArray }), (D6, o6)]) := fun p hp => N8 p (by
          simp only [List.mem_cons, List.not_mem_nil, or_false] at hp ⊢
          rcases hp with h | h | h | h
          · exact .inr (.inr (.inl h))
          · exact .inr (.inr (.inr (.inl h)))
          · exact .inl h
          · exact .inr (.inl h))
        refine rc_store F7 N9 hR3 (fun p hp cv => ?_) rfl rfl rfl fun h8 oR8 F8 N10 hR8 => ?_
        · rcases List.mem_cons.mp hp with rfl | hp
          · simp
          · rw [List.mem_singleton.mp hp, hd6]; simp
        have hst := rp3.step har hb5 hb64 hp6
        have hi8 := ints_append hri3 hI6
        clear kF kN N8 N9 F7
        k_steps
        exact ⟨_, Nat.lt_of_lt_of_le hst.2 hms3, rns ++ ns6, ns6, RI.go F8 N10 hR8 hW3 ⟨rfl, 0, by simp⟩ hi8 ⟨hc6, n6, hd6⟩ hI6 hst.1 (Nat.le_refl _) rfl rfl⟩
    · clear kF kN N3 hR2 hW2 ha2 hri rp hm2
      rintro s' ⟨rns, n', ⟨h3, tk3, ra, ma, rvs, mvs, oR3, oW3, oa3, ob3, u3, rfl, F3, N3, hR3, hW3, ha3, hri3, hb3, hmi3⟩, rp3, hms3⟩
      unfold RM at F3
      dsimp only
      k_steps
      refine hret _ _ ra rvs rns (fun b o e hb => (by with_reducible assumption : Fr h₀ L _ _).keep b o (hk₀ b o e hb)) ?_ (LObj.at ha3 (N3 _ (.tail _ (.tail _ (.head _)))).1) hri3 rp3.snd rp3.done (by have := rp3.len; omega)
      cases q : s.heap.get? ra with
      | none => rfl
      | some o =>
        have := (N3 (ra, oa3) (by simp)).2.2
        rw [hk₀ _ _ q (by simp)] at this; cases this
end
end Mine
end
section
open PySem PySem.W PyProof.Rows PySem.Calls
set_option maxRecDepth 100000
set_option maxHeartbeats 2000000
namespace Mine
/-! a list comprehension whose elements are new pairs of small ints -/
noncomputable def ObjsX (X : Addr → Prop) (Z : Nat → Obj → Prop) (h : Heap) (ys : List Value) : Prop := ∀ j v, ys[j]? = some v → ∃ T o, v = .ref T ∧ ¬ X T ∧ h.get? T = some o ∧ Z j o
theorem ObjsX.mono {X : Addr → Prop} {Z : Nat → Obj → Prop} {h h' : Heap} {ys : List Value} (k : ∀ b o, ¬ X b → h.get? b = some o → h'.get? b = some o) (x : ObjsX X Z h ys) : ObjsX X Z h' ys := fun j v e => by
  obtain ⟨T, o, e1, hx, ho, hz⟩ := x j v e
  exact ⟨T, o, e1, hx, k _ _ hx ho, hz⟩
theorem ObjsX.weak {X X' : Addr → Prop} {Z : Nat → Obj → Prop} {h : Heap} {ys : List Value} (k : ∀ b, X' b → X b) (x : ObjsX X Z h ys) : ObjsX X' Z h ys := fun j v e => by
  obtain ⟨T, o, e1, hx, ho, hz⟩ := x j v e
  exact ⟨T, o, e1, fun q => hx (k _ q), ho, hz⟩
theorem ObjsX.snoc {X : Addr → Prop} {Z : Nat → Obj → Prop} {h : Heap} {ys : List Value} {T : Addr} {o : Obj} (x : ObjsX X Z h ys) (hx : ¬ X T) (ho : h.get? T = some o) (hz : Z ys.length o) : ObjsX X Z h (ys ++ [.ref T]) := fun j v e => by
  rcases Nat.lt_trichotomy j ys.length with q | q | q
  · exact x j v (by rwa [List.getElem?_append_left q] at e)
  · subst q
    simp at e
    exact ⟨T, o, e.symm, hx, ho, hz⟩
  · rw [List.getElem?_eq_none (by rw [List.length_append, List.length_singleton]; omega)] at e; cases e
theorem ArrAt.append {h : Heap} : ∀ {vs ws : List Value} {a b : List (Nat × Nat)}, ArrAt h vs a → ArrAt h ws b → ArrAt h (vs ++ ws) (a ++ b)
  | [], _, [], _, _, q => q
  | _ :: _, _, _ :: _, _, ⟨x, r⟩, q => ⟨x, ArrAt.append r q⟩
  | [], _, _ :: _, _, h, _ => h.elim
  | _ :: _, _, [], _, h, _ => h.elim
section
variable {prog : Program} {w : World} {A : Around} {E : Value → Shared → Prop} {R : Result → Shared → Prop} {s : Shared} {env : Env}
theorem codeAny_compLoop_listT {elt target iter : Expr} {scope : Scope} {pos : Pos} {it acc : Value} {env : Env} (I : Nat → Shared → Prop)
    (turn : ∀ n s, I n s → wpAny (model prog w) A (pyNext it) (fun r s₁ => match r with
      | none => R (.ok .next) s₁
      | some v => wpAny (model prog w) A (letOwnedTupleGo target it v) (fun _ s₁' => wpAny (model prog w) A (assign target env v) (fun _ s₂ =>
          wpAny (model prog w) A (eval elt env) (fun x s₄ =>
              wpAny (model prog w) A (call (.builtin "list.append") [acc, x]) (fun _ s₅ => ∃ m, m < n ∧ I m s₅) (notedBy (model prog w) A env fun e s' => R (.error e) s') s₄)
            (notedBy (model prog w) A env fun e s' => R (.error e) s') s₂) (notedBy (model prog w) A env fun e s' => R (.error e) s') s₁') (notedBy (model prog w) A env fun e s' => R (.error e) s') s₁) (notedBy (model prog w) A env fun e s' => R (.error e) s') s)
    (n : Nat) (h : I n s) :
    codeAny (model prog w) A (.compLoop (.ListComp elt [⟨target, iter, [], 0⟩] scope pos) 0 it acc env) R s := by
  refine codeAny_loop rfl I (fun n s hI => ?_) n h
  show wpAny _ A ((compTurn (.ListComp elt [⟨target, iter, [], 0⟩] scope pos) 0 it acc env).onRaise (fun x => do noteFrame x env; theTreesLotGoes x)) _ _ s
  refine wpAny_noted ?_
  rw [compTurn_list1]
  refine wpAny_bind (wpAny_standAt (wpAny_bind (wpAny_mono (turn n s hI) (fun r s₁ h₁ => ?_) fun _ _ h' => h')))
  cases r with
  | none => exact wpAny_pure h₁
  | some v =>
    refine wpAny_bind (wpAny_mono h₁ (fun _ s₁' h₁' => ?_) fun _ _ h' => h')
    refine wpAny_bind (wpAny_mono h₁' (fun _ s₂ h₂ => ?_) fun _ _ h' => h')
    exact wpAny_bind (wpAny_bind (wpAny_mono h₂ (fun x s₄ h₄ => wpAny_bind (wpAny_mono h₄ (fun _ s₅ h₅ => wpAny_pure (wpAny_pure ⟨rfl, h₅⟩)) fun _ _ h' => h')) fun _ _ h' => h'))
noncomputable def EltObj (s₃ : Shared) (C : Addr) (Z : Obj → Prop) (y : Value) (s₅ : Shared) : Prop := ∃ T h' tk o m', y = .ref T ∧ s₅ = { s₃ with heap := h', toks := tk } ∧ s₃.heap.get? T = none ∧ h'.get? T = some o ∧ Z o ∧ h'.Ns C m' ∧ (∀ b o, b ≠ C → s₃.heap.get? b = some o → h'.get? b = some o)
noncomputable def ObjComp (prog : Program) (w : World) (A : Around) (env : Env) (elt target : Expr) (scope : Scope) (cl : List (Str × Addr)) (Q : Value → Shared → Prop) (it : Value) (s₂ : Shared) : Prop :=
  ∃ (I : Addr) (fp wr : List Addr) (n : Nat) (P Md : Nat → Value → Heap → Prop) (St : Nat → Heap → Prop) (Z : Nat → Obj → Prop), it = .ref I ∧ KTurns prog w A target I fp wr n P Md St ∧ n ≤ 100 ∧ St 0 s₂.heap ∧ (∀ b ∈ fp, b < s₂.heap.objs.size) ∧ (∀ i h, St i h → ∀ b ∈ wr, ∃ o, h.get? b = some o) ∧ (∀ i (s : Shared) (Q : Value → Shared → Prop) (E : Value → Shared → Prop), St i s.heap → Q (.ref I) s → wpAny (model prog w) A (pyIter (.ref I)) Q E s) ∧
  (∀ i v C s₃ m₃, i < n → s₂.heap.get? C = none → P i v s₃.heap → s₃.heap.Ns C m₃ → (∀ b o, b ∉ wr → s₂.heap.get? b = some o → s₃.heap.get? b = some o) →
    wpAny (model prog w) A (assign target (compEnvC scope cl C env) v) (fun _ s₄ => wpAny (model prog w) A (eval elt (compEnvC scope cl C env)) (EltObj s₃ C (Z i)) (fun _ _ => False) s₄) (fun _ _ => False) s₃) ∧
  (∀ D h' tk ys, s₂.heap.get? D = none → h'.PlainList D ys → ys.size = n → ObjsX (fun T => T = D ∨ ∃ o, s₂.heap.get? T = some o) Z h' ys.toList → (∀ b o, b ∉ wr → s₂.heap.get? b = some o → h'.get? b = some o) → Q (.ref D) { s₂ with heap := h', toks := tk })
theorem comp_objs {elt target iter : Expr} {scope : Scope} {cl : List (Str × Addr)} {pos : Pos} {Q : Value → Shared → Prop}
    (hclos : closureFor scope env = pure cl) (hcell : ∀ y ∈ scope.names, y.2 ≠ .cell) (hkind : scope.kind = .function) (hnames : ∀ y ∈ scope.names, y.2 = .local → scope.names.lookup y.1 = some .local)
    (hs : ∀ x, foldedSetIterable iter env x = pure x)
    (h : wpAny (model prog w) A (eval iter env) (fun xv s₁ => wpAny (model prog w) A (pyIter xv) (ObjComp prog w A env elt target scope cl Q) E s₁) E s) :
    wpAny (model prog w) A (eval (.ListComp elt [⟨target, iter, [], 0⟩] scope pos) env) Q E s := by
  rw [eval_ListComp]
  refine wpAny_comprehension_free (use := none) rfl hs hclos hkind hnames (wpAny_mono h (fun xv s₁ h₁ => wpAny_mono h₁ (fun it s₂ h₂ => ?_) fun _ _ e => e) fun _ _ e => e)
  obtain ⟨I, fp, wr, n, P, Md, St, Z, rfl, W, hn, hst, hfp, live, self, turn, done⟩ := h₂
  refine wpAny_newObj_type (wpAny_newFunctionEnv hcell (by intro y hy; simp at hy) (fun h₁ hns₁ hsb₁ => ?_) hkind)
  dsimp only at hns₁ hsb₁ ⊢
  generalize hz : s₂.heap.objs.size = z at *
  have e1 : (s₂.heap.push { cls := .type "list", dict := none, data := .seq ([] : List Value).toArray }).objs.size = z + 1 := by rw [Heap.size_push, hz]
  rw [e1] at hns₁ hsb₁ ⊢
  have lt : ∀ b o, s₂.heap.get? b = some o → b < z := fun b o e => by rw [← hz]; exact Heap.lt_size e
  have old : ∀ b o, s₂.heap.get? b = some o → h₁.get? b = some o := fun b o e => hsb₁.extBut b o (by have := lt b o e; intro q; rw [q] at this; exact absurd this (by show ¬ (z + 1 < z); omega)) (Heap.get?_push_of_some _ (Heap.get?_push_of_some _ e))
  have hacc : h₁.PlainList z #[] := ⟨_, hsb₁.extBut _ _ (by show z ≠ z + 1; omega) (Heap.get?_push_of_some _ (by rw [← hz]; exact Heap.get?_push_size _ rfl))⟩
  have hst₁ : St 0 h₁ := W.frame _ _ _ hst fun b _ o e => old b o e
  have nD : s₂.heap.get? z = none := Heap.get?_none_of_le (by rw [hz]; exact Nat.le_refl _)
  have nC : s₂.heap.get? (z + 1) = none := Heap.get?_none_of_le (by rw [hz]; exact Nat.le_succ _)
  have Df : ∀ b ∈ fp, b ≠ z ∧ b ≠ z + 1 := fun b hb => by
    have h := hfp b hb
    exact ⟨Nat.ne_of_lt h, Nat.ne_of_lt (Nat.lt_succ_of_lt h)⟩
  have Dw : ∀ b ∈ wr, b ≠ z ∧ b ≠ z + 1 := fun b hb => Df b (W.sub b hb)
  let X : Addr → Prop := fun T => T ∈ wr ∨ T = z ∨ T = z + 1 ∨ ∃ o, s₂.heap.get? T = some o
  have loop : ∀ tk0, codeAny (model prog w) A (.compLoop (.ListComp elt [⟨target, iter, [], 0⟩] scope pos) 0 (.ref I) (.ref z) (compEnvC scope cl (z + 1) env))
      (compPost (model prog w) A E none Q (.ref z) (z + 1)) { s₂ with heap := h₁, toks := tk0 } := by
    intro tk0
    refine codeAny_compLoop_listT
      (fun k s' => ∃ h' tk m' ys i, s' = { s₂ with heap := h', toks := tk } ∧ St i h' ∧ h'.PlainList z ys ∧ h'.Ns (z + 1) m' ∧ ObjsX X Z h' ys.toList ∧ ys.size = i ∧ i ≤ n ∧ k = n + 1 - i ∧ (∀ b o, b ∉ wr → s₂.heap.get? b = some o → h'.get? b = some o)) ?_ (n + 1)
      ⟨h₁, tk0, _, #[], 0, rfl, hst₁, hacc, hns₁, (fun j v e => by simp at e), rfl, Nat.zero_le _, rfl, fun b o _ e => old b o e⟩
    rintro k s' ⟨h', tk, m', ys, i, rfl, hst', hacc', hns', hA', hsz', hi, rfl, hk⟩
    by_cases hlt : i < n
    · refine W.item i _ _ _ hlt hst' fun v h₂ tk₂ hMd hk₂ => ?_
      refine W.go i v _ _ _ hMd fun h₃ hP hst₃ hk₃ => ?_
      have up₃ : ∀ b o, b ∉ wr → h'.get? b = some o → h₃.get? b = some o := fun b o hb e => hk₃ b o hb (hk₂ b o hb e)
      have hns₃ : h₃.Ns (z + 1) m' := hns'.at' fun o e => up₃ _ o (fun q => (Dw _ q).2 rfl) e
      have hacc₃ : h₃.PlainList z ys := hacc'.at fun o e => up₃ _ o (fun q => (Dw _ q).1 rfl) e
      have hA₃ := hA'.mono (h' := h₃) fun b o hx e => up₃ b o (fun q => hx (.inl q)) e
      have hk3 : ∀ b o, b ∉ wr → s₂.heap.get? b = some o → h₃.get? b = some o := fun b o hb e => up₃ b o hb (hk b o hb e)
      refine wpAny_mono (E := fun _ _ => False) (turn i v (z + 1) { s₂ with heap := h₃, toks := tk₂ } m' hlt nC hP hns₃ hk3) (fun _ s₄ h₄ => wpAny_mono h₄ (fun y s₅ h₅ => ?_) fun _ _ e => e.elim) fun _ _ e => e.elim
      obtain ⟨T, h₅, tk₅, oT, m₅, rfl, rfl, hT0, hT, hZ, hns₅, hk₅⟩ := h₅
      have nT : ¬ X T := by
        rintro (q | q | q | ⟨o, q⟩)
        · obtain ⟨o, ho⟩ := live _ _ hst₃ T q
          dsimp only at hT0
          rw [ho] at hT0; cases hT0
        · obtain ⟨nn, ho⟩ := hacc₃
          dsimp only at hT0
          rw [q, ho] at hT0; cases hT0
        · obtain ⟨o, _, _, ho, _⟩ := hns₃
          dsimp only at hT0
          rw [q, ho] at hT0; cases hT0
        · by_cases hw : T ∈ wr
          · obtain ⟨o, ho⟩ := live _ _ hst₃ T hw
            dsimp only at hT0
            rw [ho] at hT0; cases hT0
          · have := hk3 T o hw q
            dsimp only at hT0
            rw [this] at hT0; cases hT0
      have hacc₅ : h₅.PlainList z ys := hacc₃.at fun o e => hk₅ _ o (by show z ≠ z + 1; omega) e
      have h1000 : (100 : Nat) ≤ sizeLine := by decide +kernel
      have hys : ys.size ≤ sizeLine := by rw [hsz']; exact Nat.le_trans (Nat.le_trans hi hn) h1000
      refine wpAny_list_append_plain (hsz := hys) hacc₅ fun h₆ hl₆ hs₆ => ?_
      replace hs₆ : Heap.SameBut z h₅ h₆ := hs₆
      refine ⟨n + 1 - (i + 1), by omega, h₆, _, m₅, ys.push (.ref T), i + 1, rfl, W.frame _ _ _ hst₃ (fun b hb o e => ?_), hl₆, hns₅.sameBut hs₆ (by show z + 1 ≠ z; omega), ?_, by rw [Array.size_push, hsz'], hlt, rfl, fun b o hb e => ?_⟩
      · exact (hs₆.2 b (Df b hb).1).trans (hk₅ b o (Df b hb).2 e)
      · rw [Array.toList_push]
        refine ObjsX.snoc (hA₃.mono fun b o hx e => (hs₆.2 b fun q => hx (.inr (.inl q))).trans (hk₅ b o (fun q => hx (.inr (.inr (.inl q)))) e)) nT ((hs₆.2 T fun q => nT (.inr (.inl q))).trans hT) ?_
        rw [Array.length_toList, hsz']; exact hZ
      · have hb2 := lt b o e
        exact (hs₆.2 b (Nat.ne_of_lt hb2)).trans (hk₅ b o (Nat.ne_of_lt (Nat.lt_succ_of_lt hb2)) (hk3 b o hb e))
    · have hin : i = n := by omega
      subst hin
      refine W.done _ _ _ hst' fun h₂ tk₂ hk₂ => ?_
      refine ⟨_, hns'.at' fun o e => hk₂ _ o (fun q => (Dw _ q).2 rfl) e, fun h'' hs'' => ?_⟩
      replace hs'' : Heap.SameBut (z + 1) h₂ h'' := hs''
      refine done z h'' tk₂ ys nD (hacc'.at fun o e => (hs''.2 _ (by show z ≠ z + 1; omega)).trans (hk₂ _ o (fun q => (Dw _ q).1 rfl) e)) hsz' ((hA'.mono fun b o hx e => (hs''.2 b fun q => hx (.inr (.inr (.inl q)))).trans (hk₂ b o (fun q => hx (.inl q)) e)).weak fun b q => q.elim (fun q => .inr (.inl q)) fun q => .inr (.inr (.inr q))) fun b o hb e => ?_
      have hb2 := lt b o e
      exact (hs''.2 b (Nat.ne_of_lt (Nat.lt_succ_of_lt hb2))).trans (hk₂ b o hb (hk b o hb e))
  exact codeAny_compStart_list (loop _) (self 0 _ _ _ hst₁ (loop _))
theorem eval_pair {M : Model} {l1 l2 r1 r2 : Expr} {op1 op2 : Operator} {p1 p2 pos : Pos} {k : Nat} {Q : Value → Shared → Prop}
    (h : wpAny M A (eval (.BinOp l1 op1 r1 p1) env) (fun x s₁ => wpAny M A (eval (.BinOp l2 op2 r2 p2) env) (fun y s₂ => Q (.ref s₂.heap.objs.size) { s₂ with heap := s₂.heap.push { cls := .type "tuple", data := .seq #[x, y] } }) E s₁) E s) :
    wpAny M A (eval (.Tuple [.BinOp l1 op1 r1 p1, .BinOp l2 op2 r2 p2] k pos) env) Q E s := by
  show wpAny M A (do standAt pos; newTuple (← spliced (backTo pos (starEach [.BinOp l1 op1 r1 p1, .BinOp l2 op2 r2 p2] env)))) Q E s
  refine wpAny_bind (wpAny_standAt ?_)
  refine wpAny_bind ?_
  show wpAny M A (do let v ← eval (.BinOp l1 op1 r1 p1) env; let here ← pure [v]; return here ++ (← holding here (spliced (backTo pos (starEach [.BinOp l2 op2 r2 p2] env))))) _ E s
  refine wpAny_bind (wpAny_mono h (fun x s₁ h₁ => ?_) fun _ _ e => e)
  refine wpAny_bind (wpAny_pure ?_)
  refine wpAny_bind (wpAny_holding ?_)
  show wpAny M A (do let v ← eval (.BinOp l2 op2 r2 p2) env; let here ← pure [v]; return here ++ (← holding here (spliced []))) _ E s₁
  refine wpAny_bind (wpAny_mono h₁ (fun y s₂ h₂ => ?_) fun _ _ e => e)
  refine wpAny_bind (wpAny_pure ?_)
  refine wpAny_bind (wpAny_holding (wpAny_pure ?_))
  refine wpAny_pure ?_
  refine wpAny_pure ?_
  exact wpAny_newTuple h₂ (by show 2 ≤ sizeLine; decide +kernel)
end
end Mine
end
section
open PySem PySem.W PyProof.Rows PySem.Calls
set_option maxRecDepth 100000
set_option maxHeartbeats 2000000
namespace Mine
section
variable {prog : Program} {w : World} {A : Around} {E : Value → Shared → Prop} {s : Shared} {env : Env} {scope : Scope} {cl : List (Str × Addr)} {C : Addr} {m : Str → Option Value} {Q : Unit → Shared → Prop}
theorem assign_two {xi xc : Str} {pk pv pt : Pos} {x1 : Nat} {T : Addr} {x y : Value} (hh : A.handled = none) (hkind : scope.kind = .function) (hxi : scope.names.lookup xi = some .local) (hxc : scope.names.lookup xc = some .local) (hne : xi ≠ xc) (ht : s.heap.IsTuple T #[x, y]) (hn : s.heap.Ns C m)
    (h : ∀ h' tk' m', h'.Ns C m' → m' xi = some x → m' xc = some y → (∀ b o, b ≠ C → s.heap.get? b = some o → h'.get? b = some o) → Q () { s with heap := h', toks := tk' }) :
    wpAny (model prog w) A (assign (.Tuple [.Name xi pk, .Name xc pv] x1 pt) (compEnvC scope cl C env) (.ref T)) Q E s := by
  have kind : (compEnvC scope cl C env).scope.kind = .function := by simp [compEnvC, relabel, hkind]
  have hpp : ((compEnvC scope cl C env).scope.kind == .class || ((compEnvC scope cl C env).scope.kind == .module && (compEnvC scope cl C env).locals != (compEnvC scope cl C env).globals)) = false := by rw [kind]; rfl
  refine wpAny_assign_Tuple hh ht rfl rfl fun h₃ hx₃ => ?_
  replace hx₃ : Heap.ExtBut s.heap.objs.size s.heap h₃ := hx₃
  have up₃ : ∀ b o, s.heap.get? b = some o → h₃.get? b = some o := fun b o x => hx₃ b o (Nat.ne_of_lt (Heap.lt_size x)) x
  show wpAny _ A (do holding [_] (assign (.Name xi pk) (compEnvC scope cl C env) _); do holding [] (assign (.Name xc pv) (compEnvC scope cl C env) _); pure ()) _ _ _
  refine wpAny_bind (wpAny_holding (wpAny_assign_Name (wpAny_storeName_local (lookup_relabel_local hxi) (hn.keeps up₃) (fun h₄ hn₄ hs₄ => ?_) hpp)))
  refine wpAny_bind (wpAny_holding (wpAny_assign_Name (wpAny_storeName_local (lookup_relabel_local hxc) hn₄ (fun h₅ hn₅ hs₅ => wpAny_pure ?_) hpp)))
  replace hs₄ : Heap.SameBut C h₃ h₄ := hs₄
  replace hs₅ : Heap.SameBut C h₄ h₅ := hs₅
  exact h h₅ _ _ hn₅ (by simp [hne]) (by simp) fun b o hb e => (hs₅.2 b hb).trans ((hs₄.2 b hb).trans (up₃ b o e))
theorem assign_one {x : Str} {px : Pos} {v : Value} (hkind : scope.kind = .function) (hx : scope.names.lookup x = some .local) (hn : s.heap.Ns C m)
    (h : ∀ h' tk' m', h'.Ns C m' → m' x = some v → (∀ b o, b ≠ C → s.heap.get? b = some o → h'.get? b = some o) → Q () { s with heap := h', toks := tk' }) :
    wpAny (model prog w) A (assign (.Name x px) (compEnvC scope cl C env) v) Q E s := by
  have kind : (compEnvC scope cl C env).scope.kind = .function := by simp [compEnvC, relabel, hkind]
  have hpp : ((compEnvC scope cl C env).scope.kind == .class || ((compEnvC scope cl C env).scope.kind == .module && (compEnvC scope cl C env).locals != (compEnvC scope cl C env).globals)) = false := by rw [kind]; rfl
  refine wpAny_assign_Name (wpAny_storeName_local (lookup_relabel_local hx) hn (fun h₄ hn₄ hs₄ => ?_) hpp)
  replace hs₄ : Heap.SameBut C s.heap h₄ := hs₄
  exact h h₄ _ _ hn₄ (by simp) fun b o hb e => (hs₄.2 b hb).trans e
end
/-- a pair of small ints, as an object -/
noncomputable def ZP (a b : Nat) (o : Obj) : Prop := o.cls = .type "tuple" ∧ ∃ n t1 t2, o.data = .seq #[.int ((a : Nat) : Int) t1, .int ((b : Nat) : Int) t2] n
/-- pairs whose tuples are in the ledger -/
noncomputable def PIn (tups : List (Addr × Obj)) (vs : List Value) (ar : List (Nat × Nat)) : Prop := vs.length = ar.length ∧ ∀ (j : Nat) (v : Value), vs[j]? = some v → ∃ T o a, v = .ref T ∧ (T, o) ∈ tups ∧ ar[j]? = some a ∧ ZP a.1 a.2 o
theorem PIn.arr {tups : List (Addr × Obj)} {h : Heap} (N : ∀ q ∈ tups, h.get? q.1 = some q.2) : ∀ {vs : List Value} {ar : List (Nat × Nat)}, PIn tups vs ar → ArrAt h vs ar
  | [], [], _ => trivial
  | [], _ :: _, x => by have := x.1; simp at this
  | _ :: _, [], x => by have := x.1; simp at this
  | v :: vs, a :: ar, x => by
    refine ⟨?_, PIn.arr N ⟨by have := x.1; simpa using this, fun j v e => by
      obtain ⟨T, o, a', h1, h2, h3, h4⟩ := x.2 (j + 1) v (by simpa using e)
      exact ⟨T, o, a', h1, h2, by simpa using h3, h4⟩⟩⟩
    obtain ⟨T, o, a', h1, h2, h3, hc, n, t1, t2, hd⟩ := x.2 0 v rfl
    have : a = a' := by simpa using h3
    subst this
    exact ⟨T, t1, t2, h1, o, N _ h2, hc, n, hd⟩
theorem PIn.mono {tups tups' : List (Addr × Obj)} {vs : List Value} {ar : List (Nat × Nat)} (k : ∀ q ∈ tups, q ∈ tups') (x : PIn tups vs ar) : PIn tups' vs ar := ⟨x.1, fun j v e => by
  obtain ⟨T, o, a, h1, h2, r⟩ := x.2 j v e
  exact ⟨T, o, a, h1, k _ h2, r⟩⟩
theorem PIn.append {tups : List (Addr × Obj)} {vs ws : List Value} {ar br : List (Nat × Nat)} (x : PIn tups vs ar) (y : PIn tups ws br) : PIn tups (vs ++ ws) (ar ++ br) := by
  refine ⟨by rw [List.length_append, List.length_append, x.1, y.1], fun j v e => ?_⟩
  by_cases q : j < vs.length
  · rw [List.getElem?_append_left q] at e
    obtain ⟨T, o, a, h1, h2, h3, h4⟩ := x.2 j v e
    exact ⟨T, o, a, h1, h2, by rw [List.getElem?_append_left (by rw [← x.1]; exact q)]; exact h3, h4⟩
  · rw [List.getElem?_append_right (by omega)] at e
    obtain ⟨T, o, a, h1, h2, h3, h4⟩ := y.2 _ v e
    exact ⟨T, o, a, h1, h2, by rw [List.getElem?_append_right (by rw [← x.1]; omega), ← x.1]; exact h3, h4⟩
/-- the ledger of a list's new objects -/
theorem objs_led {X : Addr → Prop} {Z : Nat → Obj → Prop} {h : Heap} : ∀ (ys : List Value) (k : Nat), (∀ (j : Nat) (v : Value), ys[j]? = some v → ∃ T o, v = .ref T ∧ ¬ X T ∧ h.get? T = some o ∧ Z (k + j) o) →
    ∃ tups : List (Addr × Obj), (∀ q ∈ tups, h.get? q.1 = some q.2 ∧ ¬ X q.1 ∧ ∃ j, Z j q.2) ∧ ∀ (j : Nat) (v : Value), ys[j]? = some v → ∃ T o, v = .ref T ∧ (T, o) ∈ tups ∧ Z (k + j) o
  | [], _, _ => ⟨[], (fun q hq => by cases hq), fun j v e => by simp at e⟩
  | y :: ys, k, x => by
    obtain ⟨tups, h1, h2⟩ := objs_led ys (k + 1) fun j v e => by
      obtain ⟨T, o, a, b, c, d⟩ := x (j + 1) v (by simpa using e)
      exact ⟨T, o, a, b, c, by rw [show k + 1 + j = k + (j + 1) by omega]; exact d⟩
    obtain ⟨T, o, a, b, c, d⟩ := x 0 y rfl
    refine ⟨(T, o) :: tups, fun q hq => ?_, fun j v e => ?_⟩
    · rcases List.mem_cons.mp hq with rfl | hq
      · exact ⟨c, b, _, d⟩
      · exact h1 q hq
    · cases j with
      | zero =>
        simp at e
        exact ⟨T, o, by rw [← e]; exact a, .head _, d⟩
      | succ j =>
        obtain ⟨T', o', h3, h4, h5⟩ := h2 j v (by simpa using e)
        exact ⟨T', o', h3, .tail _ h4, by rw [show k + (j + 1) = k + 1 + j by omega]; exact h5⟩
theorem fmod6 (z : Int) : (z.fmod 6).toNat < 6 ∧ (((z.fmod 6).toNat : Nat) : Int) = z.fmod 6 := by
  have h1 : (0 : Int) ≤ z.fmod 6 := Int.fmod_nonneg_of_pos z (by omega)
  have h2 : z.fmod 6 < 6 := Int.fmod_lt_of_pos z (by omega)
  omega
section
variable {prog : Program} {w : World} {A : Around} {E : Value → Shared → Prop} {h₀ : Heap} {L l : Addr} {m : Str → Option Value} {news : List (Addr × Obj)} {vs : List Value} {ns : List Int} {vl vu : Value} {lo hi : Option Int} {Q : Value → Shared → Prop}
/-- a cut of a list of ints, the state's parts apart -/
theorem slice_ints' {value slice : PySem.Expr} {ms : List Int} {c : Nat} {h : Heap} {g dr os : _} {tk : Nat} (F : Fr h₀ L h m) (N : News h₀ L h news) (hl : h.IsList l vs.toArray) (pl : IsPart vl lo) (pu : IsPart vu hi) (hi' : IntsAre vs ns) (hm : IntsAre (slicePick vs.toArray lo hi none).toList ms) (hc : ms.length = c)
    (hq : ∀ D ws h', Fr h₀ L h' m → News h₀ L h' ((D, W.listOf (List.toArray ws) 0) :: news) → IntsAre ws ms → Q (.ref D) ⟨h', g, dr, tk, os⟩)
    (hs : subscripted slice false (.ref l) (.ref h.objs.size) = operate [.ref h.objs.size, .ref l] (getItem (.ref l) (.ref h.objs.size))) (ht : ∀ r, letTemporaryGo value (.ref l) r = pure ()) (hz : vs.toArray.size ≤ sizeLine) :
    wpAny (model prog w) A (subscriptTail value slice (.ref l) (.ref h.objs.size)) Q E ⟨h.push { cls := .type "slice", data := .fields #[vl, vu, .none] }, g, dr, tk, os⟩ :=
  kmk_slice_ints (s := ⟨h, g, dr, tk, os⟩) F N hl pl pu hi' hm hc (fun D ws h' F' N' _ hI' _ _ => hq D ws h' F' N' hI') hs ht hz
end
end Mine
end
section
open PySem PySem.W PyProof.Rows PySem.Calls
set_option maxRecDepth 100000
set_option maxHeartbeats 2000000
namespace Mine
section
variable {prog : Program} {w : World} {A : Around} {E : Value → Shared → Prop} {s : Shared} {env : Env} {scope : Scope} {cl : List (Str × Addr)} {elt : Expr} {Q : Value → Shared → Prop}
theorem EltObj.from {s₃ : Shared} {C : Addr} {Z : Obj → Prop} {y : Value} {s₅ : Shared} {h : Heap} {tk : Nat} {m m' : Str → Option Value} (hn : s₃.heap.Ns C m) (hn' : h.Ns C m') (k : ∀ b o, b ≠ C → s₃.heap.get? b = some o → h.get? b = some o) (x : EltObj { s₃ with heap := h, toks := tk } C Z y s₅) : EltObj s₃ C Z y s₅ := by
  obtain ⟨T, h', tk', o, m₂, e1, e2, hT, ho, hz, hns, hk⟩ := x
  refine ⟨T, h', tk', o, m₂, e1, e2, ?_, ho, hz, hns, fun b o hb e => hk b o hb (k b o hb e)⟩
  cases q : s₃.heap.get? T with
  | none => rfl
  | some o' =>
    dsimp only at hT
    by_cases hTC : T = C
    · obtain ⟨oc, _, _, hc, _⟩ := hn'
      rw [hTC, hc] at hT; cases hT
    · rw [k T o' hTC q] at hT; cases hT
theorem EltObj.push {s₃ : Shared} {C : Addr} {Z : Obj → Prop} {m : Str → Option Value} {o : Obj} {tk : Nat} (hn : s₃.heap.Ns C m) (hz : Z o) (hf : o.isFreed = false) : EltObj s₃ C Z (.ref s₃.heap.objs.size) { s₃ with heap := s₃.heap.push o, toks := tk } :=
  ⟨_, _, tk, o, m, rfl, rfl, Heap.get?_none_of_le (Nat.le_refl _), Heap.get?_push_size _ hf, hz, hn.keeps fun b o e => Heap.get?_push_of_some _ e, fun b o _ e => Heap.get?_push_of_some _ e⟩
theorem enum_comp {xi xc : Str} {pk pv pt : Pos} {x1 : Nat} {D : Addr} {ws : List Value} {ns : List Int} (Z : Nat → Obj → Prop) (hh : A.handled = none) (hkind : scope.kind = .function) (hxi : scope.names.lookup xi = some .local) (hxc : scope.names.lookup xc = some .local) (hne : xi ≠ xc)
    (hl : s.heap.IsList D ws.toArray) (hI : IntsAre ws ns) (hn : ns.length ≤ 100)
    (turn : ∀ (i : Nat) (z : Int) (u t : Tok) (C : Addr) (s₃ : Shared) (m₃ : Str → Option Value), ns[i]? = some z → s₃.heap.Ns C m₃ → m₃ xi = some (.int ((i : Nat) : Int) t) → m₃ xc = some (.int z u) → (∀ b o, s.heap.get? b = some o → s₃.heap.get? b = some o) → wpAny (model prog w) A (eval elt (compEnvC scope cl C env)) (EltObj s₃ C (Z i)) (fun _ _ => False) s₃)
    (done : ∀ D' h' tk ys, s.heap.get? D' = none → h'.PlainList D' ys → ys.size = ns.length → ObjsX (fun T => T = D' ∨ ∃ o, s.heap.get? T = some o) Z h' ys.toList → (∀ b o, s.heap.get? b = some o → h'.get? b = some o) → Q (.ref D') { s with heap := h', toks := tk }) :
    wpAny (model prog w) A (call (.type "enumerate") [.ref D]) (fun xv s₁ => wpAny (model prog w) A (pyIter xv) (ObjComp prog w A env elt (.Tuple [.Name xi pk, .Name xc pv] x1 pt) scope cl Q) E s₁) E s := by
  refine call_enumerate_list hl fun h5 hE5 hI5 hz5 hk5 => ?_
  refine wpAny_pyIter_enum hE5 ?_
  have hDlt : D < s.heap.objs.size := by obtain ⟨_, e, _⟩ := hl; exact Heap.lt_size e
  have hwl := hI.length
  have old : ∀ b o, s.heap.get? b = some o → b ∉ [s.heap.objs.size + 1, s.heap.objs.size] := fun b o e q => by
    have := Heap.lt_size e
    rcases List.mem_cons.mp q with q | q
    · rw [q] at this; exact absurd this (by show ¬ (s.heap.objs.size + 1 < s.heap.objs.size); omega)
    · rw [List.mem_singleton.mp q] at this; exact Nat.lt_irrefl _ this
  refine ⟨_, _, _, _, _, _, _, Z, rfl, KTurns.ofWalksU (WalksT.enumerate hh (s.heap.objs.size + 1) s.heap.objs.size D (Nat.succ_ne_self _) (Nat.ne_of_lt (Nat.lt_succ_of_lt hDlt)) (Nat.ne_of_lt hDlt) ws.toArray).toU, by simp; omega, ⟨⟨_, hE5⟩, hI5, hl.at fun o e => hk5 _ _ e⟩, ?_, ?_, ?_, ?_, ?_⟩
  · intro b hb
    show b < h5.objs.size
    rw [hz5]
    simp only [List.mem_cons, List.not_mem_nil, or_false] at hb
    rcases hb with rfl | rfl | rfl
    · exact Nat.lt_succ_self _
    · exact Nat.lt_succ_of_lt (Nat.lt_succ_self _)
    · exact Nat.lt_succ_of_lt (Nat.lt_succ_of_lt hDlt)
  · rintro i h ⟨⟨old, he⟩, ⟨oi, hoi, _⟩, _⟩ b hb
    rcases List.mem_cons.mp hb with rfl | hb
    · exact ⟨_, he⟩
    · rw [List.mem_singleton.mp hb]; exact ⟨_, hoi⟩
  · rintro i s Q E ⟨⟨old, he⟩, _, _⟩ hQ
    exact wpAny_pyIter_enum he hQ
  · rintro i v C s₃ m₃ hi nC ⟨T, vals, rfl, ⟨t, x, hx, rfl⟩, hT⟩ hC hk
    have hx' : ws[i]? = some x := by simpa using hx
    have hi' : i < ns.length := by
      have : i < ws.length := by
        rcases Nat.lt_or_ge i ws.length with q | q
        · exact q
        · rw [List.getElem?_eq_none q] at hx'; cases hx'
      omega
    obtain ⟨u, rfl⟩ := hI.int_at i x hx'
    refine assign_two hh hkind hxi hxc hne hT hC fun h' tk' m' hn' h1 h2 hk' => ?_
    refine wpAny_mono (turn i (ns.getD i 0) u t C { s₃ with heap := h', toks := tk' } m' (by rw [List.getD_eq_getElem?_getD, List.getElem?_eq_getElem hi']; rfl) hn' h1 h2 fun b o e => ?_) (fun y s₅ h₅ => EltObj.from hC hn' hk' h₅) fun _ _ e => e
    have e3 := hk b o (old b o e) (hk5 b o e)
    refine hk' b o (fun q => ?_) e3
    have := hk5 b o e
    rw [q] at this
    dsimp only at nC
    rw [this] at nC; cases nC
  · intro D' h' tk ys hD' hpl hsz hX hk
    have up : ∀ b o, s.heap.get? b = some o → h'.get? b = some o := fun b o e => hk b o (old b o e) (hk5 b o e)
    have nD : s.heap.get? D' = none := by
      cases q : s.heap.get? D' with
      | none => rfl
      | some o => have := hk5 _ _ q; dsimp only at hD'; rw [this] at hD'; cases hD'
    exact done D' h' tk ys nD hpl (by rw [hsz]; simp; omega) (hX.weak fun b q => q.elim .inl fun ⟨o, e⟩ => .inr ⟨o, hk5 b o e⟩) up
theorem list_comp {x : Str} {px : Pos} {D : Addr} {its : Array Value} (Z : Nat → Obj → Prop) (hh : A.handled = none) (hkind : scope.kind = .function) (hx : scope.names.lookup x = some .local)
    (hl : s.heap.IsList D its) (hn : its.size ≤ 100)
    (turn : ∀ (i : Nat) (v : Value) (C : Addr) (s₃ : Shared) (m₃ : Str → Option Value), its[i]? = some v → s₃.heap.Ns C m₃ → m₃ x = some v → (∀ b o, s.heap.get? b = some o → s₃.heap.get? b = some o) → wpAny (model prog w) A (eval elt (compEnvC scope cl C env)) (EltObj s₃ C (Z i)) (fun _ _ => False) s₃)
    (done : ∀ D' h' tk ys, s.heap.get? D' = none → h'.PlainList D' ys → ys.size = its.size → ObjsX (fun T => T = D' ∨ ∃ o, s.heap.get? T = some o) Z h' ys.toList → (∀ b o, s.heap.get? b = some o → h'.get? b = some o) → Q (.ref D') { s with heap := h', toks := tk }) :
    wpAny (model prog w) A (pyIter (.ref D)) (ObjComp prog w A env elt (.Name x px) scope cl Q) E s := by
  refine wpAny_pyIter_list hl ?_
  have hDlt : D < s.heap.objs.size := by obtain ⟨_, e, _⟩ := hl; exact Heap.lt_size e
  have up5 : ∀ b o, s.heap.get? b = some o → (s.heap.push { cls := .type "list_iterator", data := .fields #[.ref D, .int 0 0] }).get? b = some o := fun b o e => Heap.get?_push_of_some _ e
  have old : ∀ b o, s.heap.get? b = some o → b ∉ [s.heap.objs.size] := fun b o e q => by
    have := Heap.lt_size e
    rw [List.mem_singleton.mp q] at this; exact Nat.lt_irrefl _ this
  refine ⟨_, _, _, _, _, _, _, Z, rfl, KTurns.ofWalks (Walks.list hh s.heap.objs.size D (Nat.ne_of_lt hDlt) its) (fun i v s Q E _ hQ => wpAny_of_eq (by rfl) hQ), hn, ⟨⟨_, Heap.get?_push_size _ rfl, rfl, rfl⟩, hl.push _⟩, ?_, ?_, ?_, ?_, ?_⟩
  · intro b hb
    show b < (s.heap.push _).objs.size
    rw [Heap.size_push]
    simp only [List.mem_cons, List.not_mem_nil, or_false] at hb
    rcases hb with rfl | rfl
    · exact Nat.lt_succ_self _
    · exact Nat.lt_succ_of_lt hDlt
  · rintro i h ⟨⟨oi, hoi, _⟩, _⟩ b hb
    rw [List.mem_singleton.mp hb]; exact ⟨_, hoi⟩
  · rintro i s Q E ⟨hi, _⟩ hQ
    exact wpAny_pyIter_listiter hi hQ
  · intro i v C s₃ m₃ hi nC hP hC hk
    refine assign_one hkind hx hC fun h' tk' m' hn' h1 hk' => ?_
    refine wpAny_mono (turn i v C { s₃ with heap := h', toks := tk' } m' hP hn' h1 fun b o e => ?_) (fun y s₅ h₅ => EltObj.from hC hn' hk' h₅) fun _ _ e => e
    have e3 := hk b o (old b o e) (up5 b o e)
    refine hk' b o (fun q => ?_) e3
    have := up5 b o e
    rw [q] at this
    dsimp only at nC
    rw [this] at nC; cases nC
  · intro D' h' tk ys hD' hpl hsz hX hk
    have up : ∀ b o, s.heap.get? b = some o → h'.get? b = some o := fun b o e => hk b o (old b o e) (up5 b o e)
    have nD : s.heap.get? D' = none := by
      cases q : s.heap.get? D' with
      | none => rfl
      | some o => have := up5 _ _ q; dsimp only at hD'; rw [this] at hD'; cases hD'
    exact done D' h' tk ys nD hpl hsz (hX.weak fun b q => q.elim .inl fun ⟨o, e⟩ => .inr ⟨o, up5 b o e⟩) up
theorem range_comp {x : Str} {px : Pos} {r : Addr} {n : Nat} {t1 t2 t3 : Tok} (Z : Nat → Obj → Prop) (hh : A.handled = none) (hkind : scope.kind = .function) (hx : scope.names.lookup x = some .local)
    (hr : IsRange s.heap r 0 n 1 t1 t2 t3) (hsm : Builtin.Range.small 0 n 1 = true) (hrn : Builtin.Range.rangeSize 0 n 1 = n) (hn : n ≤ 100)
    (turn : ∀ (i : Nat) (t : Tok) (C : Addr) (s₃ : Shared) (m₃ : Str → Option Value), i < n → s₃.heap.Ns C m₃ → m₃ x = some (.int ((i : Nat) : Int) t) → (∀ b o, s.heap.get? b = some o → s₃.heap.get? b = some o) → wpAny (model prog w) A (eval elt (compEnvC scope cl C env)) (EltObj s₃ C (Z i)) (fun _ _ => False) s₃)
    (done : ∀ D' h' tk ys, s.heap.get? D' = none → h'.PlainList D' ys → ys.size = n → ObjsX (fun T => T = D' ∨ ∃ o, s.heap.get? T = some o) Z h' ys.toList → (∀ b o, s.heap.get? b = some o → h'.get? b = some o) → Q (.ref D') { s with heap := h', toks := tk }) :
    wpAny (model prog w) A (pyIter (.ref r)) (ObjComp prog w A env elt (.Name x px) scope cl Q) E s := by
  refine wpAny_pyIter_range hr hsm ?_
  have up5 : ∀ o b ob, s.heap.get? b = some ob → (s.heap.push o).get? b = some ob := fun o b ob e => Heap.get?_push_of_some _ e
  have old : ∀ b o, s.heap.get? b = some o → b ∉ [s.heap.objs.size] := fun b o e q => by
    have := Heap.lt_size e
    rw [List.mem_singleton.mp q] at this; exact Nat.lt_irrefl _ this
  refine ⟨_, _, _, n, _, _, (fun i h => IsRangeIter h s.heap.objs.size (0 + (i : Nat) * 1) ((n : Int) - (i : Nat)) 1), Z, rfl, KTurns.ofWalks (Walks.range hh s.heap.objs.size 0 1 n) (fun i v s Q E _ hQ => wpAny_of_eq (by rfl) hQ), hn, ?_, ?_, ?_, ?_, ?_, ?_⟩
  · show IsRangeIter _ _ _ _ _
    simpa [hrn] using Heap.get?_push_size _ rfl
  · intro b hb
    show b < (s.heap.push _).objs.size
    rw [Heap.size_push, List.mem_singleton.mp hb]
    exact Nat.lt_succ_self _
  · rintro i h hi b hb
    rw [List.mem_singleton.mp hb]; exact ⟨_, hi⟩
  · rintro i s Q E hi hQ
    exact (Walks.range (prog := prog) (w := w) (A := A) hh _ 0 1 n).self i s Q E hi hQ
  · rintro i v C s₃ m₃ hi nC ⟨t, rfl⟩ hC hk
    refine assign_one hkind hx hC fun h' tk' m' hn' h1 hk' => ?_
    refine wpAny_mono (turn i t C { s₃ with heap := h', toks := tk' } m' hi hn' (by rw [h1]; simp) fun b o e => ?_) (fun y s₅ h₅ => EltObj.from hC hn' hk' h₅) fun _ _ e => e
    have e3 := hk b o (old b o e) (up5 _ b o e)
    refine hk' b o (fun q => ?_) e3
    dsimp only at nC
    rw [← q, up5 _ b o e] at nC; cases nC
  · intro D' h' tk ys hD' hpl hsz hX hk
    have up : ∀ b o, s.heap.get? b = some o → h'.get? b = some o := fun b o e => hk b o (old b o e) (up5 _ b o e)
    have nD : s.heap.get? D' = none := by
      cases q : s.heap.get? D' with
      | none => rfl
      | some o => dsimp only at hD'; rw [up5 _ _ _ q] at hD'; cases hD'
    exact done D' h' tk ys nD hpl hsz (hX.weak fun b q => q.elim .inl fun ⟨o, e⟩ => .inr ⟨o, up5 _ b o e⟩) up
theorem news_objs {h₀ h h1 : Heap} {L D : Addr} {m : Str → Option Value} {news tups : List (Addr × Obj)} {J : Obj → Prop} (F : Fr h₀ L h m) (N : News h₀ L h1 news) (ht : ∀ q ∈ tups, h1.get? q.1 = some q.2 ∧ ¬ (q.1 = D ∨ ∃ o, h.get? q.1 = some o) ∧ J q.2) : News h₀ L h1 (news ++ tups) := fun p hp => by
  rcases List.mem_append.mp hp with hp | hp
  · exact N p hp
  · obtain ⟨h1', h2, _⟩ := ht p hp
    have hn : h.get? p.1 = none := by
      cases q : h.get? p.1 with
      | none => rfl
      | some o => exact absurd (.inr ⟨o, q⟩) h2
    refine ⟨h1', fun e => ?_, ?_⟩
    · obtain ⟨oL, _, _, hL, _⟩ := F.ns
      rw [← e, hn] at hL; cases hL
    · cases q : h₀.get? p.1 with
      | none => rfl
      | some o => have := F.keep _ _ q; rw [hn] at this; cases this
theorem ad_12 (L : Nat) : L + 1 ≠ L + 1 + 1 := by omega
theorem ad_13 (L : Nat) : L + 1 ≠ L + 1 + 1 + 1 := by omega
theorem ad_14 (L : Nat) : L + 1 ≠ L + 1 + 1 + 1 + 1 := by omega
theorem ad_21 (L : Nat) : L + 1 + 1 ≠ L + 1 := by omega
theorem ad_23 (L : Nat) : L + 1 + 1 ≠ L + 1 + 1 + 1 := by omega
theorem ad_24 (L : Nat) : L + 1 + 1 ≠ L + 1 + 1 + 1 + 1 := by omega
theorem ad_31 (L : Nat) : L + 1 + 1 + 1 ≠ L + 1 := by omega
theorem ad_32 (L : Nat) : L + 1 + 1 + 1 ≠ L + 1 + 1 := by omega
theorem ad_34 (L : Nat) : L + 1 + 1 + 1 ≠ L + 1 + 1 + 1 + 1 := by omega
theorem ad_41 (L : Nat) : L + 1 + 1 + 1 + 1 ≠ L + 1 := by omega
theorem ad_42 (L : Nat) : L + 1 + 1 + 1 + 1 ≠ L + 1 + 1 := by omega
theorem ad_43 (L : Nat) : L + 1 + 1 + 1 + 1 ≠ L + 1 + 1 + 1 := by omega
/-- no cells among the law's other objects -/
noncomputable def NC (tups : List (Addr × Obj)) : Prop := ∀ q ∈ tups, ∀ cv, q.2.data ≠ .cell cv
theorem NC.app {a b : List (Addr × Obj)} (x : NC a) (y : NC b) : NC (a ++ b) := fun q hq => (List.mem_append.mp hq).elim (x q) (y q)
theorem NC.cons {a : Addr} {o : Obj} {b : List (Addr × Obj)} (x : ∀ cv, o.data ≠ .cell cv) (y : NC b) : NC ((a, o) :: b) := fun q hq => by
  rcases List.mem_cons.mp hq with rfl | hq
  · exact x
  · exact y q hq
noncomputable abbrev LLed (L : Addr) (o4 o3 o2 o1 : Obj) (tups : List (Addr × Obj)) : List (Addr × Obj) := (L + 1 + 1 + 1 + 1, o4) :: (L + 1 + 1 + 1, o3) :: (L + 1 + 1, o2) :: (L + 1, o1) :: tups
section
variable {M : Model} {x : Str} {v : Value} {h₀ : Heap} {L : Addr} {m : Str → Option Value} {o1 o2 o3 o4 : Obj} {tups : List (Addr × Obj)} {cv : Option Value} {Q : Unit → Shared → Prop}
theorem cells_store {c : Addr} {oc : Obj} {news : List (Addr × Obj)} (F : Fr h₀ L s.heap m) (N : News h₀ L s.heap news) (hm : (c, oc) ∈ news) (hoc : oc.data = .cell cv)
    (hk : env.scope.kind = .function) (hx : env.kindOf x = some .cell) (hcl : env.cells.lookup x = some c)
    (h : ∀ h' oc', Fr h₀ L h' m → (∀ p ∈ news, p.1 ≠ c → h'.get? p.1 = some p.2 ∧ p.1 ≠ L ∧ h₀.get? p.1 = none) → (h'.get? c = some oc' ∧ c ≠ L ∧ h₀.get? c = none) → oc'.data = .cell (some v) → (∀ b o, b ≠ c → s.heap.get? b = some o → h'.get? b = some o) → Q () { s with heap := h' }) : wpAny M A (storeName env x v) Q E s := by
  refine wpAny_storeName_cell hk hx hcl ⟨oc, (N _ hm).1, hoc⟩ fun h' hv hs => ?_
  obtain ⟨oc', ho', hd'⟩ := hv
  exact h h' oc' ⟨F.ns.sameBut hs (Ne.symm (N _ hm).2.1), fun b ob e => (hs.2 b (fun q => by rw [q, (N _ hm).2.2] at e; cases e)).trans (F.keep b ob e), F.above⟩ (fun p hp hne => ⟨(hs.2 _ hne).trans (N p hp).1, (N p hp).2⟩) ⟨ho', (N _ hm).2⟩ hd' fun b o hb e => (hs.2 b hb).trans e
theorem led_store2 (F : Fr h₀ L s.heap m) (N : News h₀ L s.heap (LLed L o4 o3 o2 o1 tups)) (hnc : NC tups) (hoc : o2.data = .cell cv)
    (hk : env.scope.kind = .function) (hx : env.kindOf x = some .cell) (hcl : env.cells.lookup x = some (L + 1 + 1))
    (h : ∀ h' o2', Fr h₀ L h' m → News h₀ L h' (LLed L o4 o3 o2' o1 tups) → o2'.data = .cell (some v) → (∀ b o, b ≠ L + 1 + 1 → s.heap.get? b = some o → h'.get? b = some o) → Q () { s with heap := h' }) : wpAny M A (storeName env x v) Q E s := by
  have hm : (L + 1 + 1, o2) ∈ LLed L o4 o3 o2 o1 tups := .tail _ (.tail _ (.head _))
  refine cells_store F N hm hoc hk hx hcl fun h' oc' F' hN hc hd hkp => h h' oc' F' (fun p hp => ?_) hd hkp
  have o1n : ∀ q ∈ tups, q.1 ≠ L + 1 + 1 := fun q hq => news_ne' N (.tail _ (.tail _ (.tail _ (.tail _ hq)))) hm fun e => hnc q hq cv (by rw [e]; exact hoc)
  simp only [List.mem_cons] at hp
  rcases hp with rfl | rfl | rfl | rfl | hp
  · exact hN _ (.head _) (ad_42 L)
  · exact hN _ (.tail _ (.head _)) (ad_32 L)
  · exact hc
  · exact hN _ (.tail _ (.tail _ (.tail _ (.head _)))) (ad_12 L)
  · exact hN _ (.tail _ (.tail _ (.tail _ (.tail _ hp)))) (o1n p hp)
theorem led_store3 (F : Fr h₀ L s.heap m) (N : News h₀ L s.heap (LLed L o4 o3 o2 o1 tups)) (hnc : NC tups) (hoc : o3.data = .cell cv)
    (hk : env.scope.kind = .function) (hx : env.kindOf x = some .cell) (hcl : env.cells.lookup x = some (L + 1 + 1 + 1))
    (h : ∀ h' o3', Fr h₀ L h' m → News h₀ L h' (LLed L o4 o3' o2 o1 tups) → o3'.data = .cell (some v) → (∀ b o, b ≠ L + 1 + 1 + 1 → s.heap.get? b = some o → h'.get? b = some o) → Q () { s with heap := h' }) : wpAny M A (storeName env x v) Q E s := by
  have hm : (L + 1 + 1 + 1, o3) ∈ LLed L o4 o3 o2 o1 tups := .tail _ (.head _)
  refine cells_store F N hm hoc hk hx hcl fun h' oc' F' hN hc hd hkp => h h' oc' F' (fun p hp => ?_) hd hkp
  have o1n : ∀ q ∈ tups, q.1 ≠ L + 1 + 1 + 1 := fun q hq => news_ne' N (.tail _ (.tail _ (.tail _ (.tail _ hq)))) hm fun e => hnc q hq cv (by rw [e]; exact hoc)
  simp only [List.mem_cons] at hp
  rcases hp with rfl | rfl | rfl | rfl | hp
  · exact hN _ (.head _) (ad_43 L)
  · exact hc
  · exact hN _ (.tail _ (.tail _ (.head _))) (ad_23 L)
  · exact hN _ (.tail _ (.tail _ (.tail _ (.head _)))) (ad_13 L)
  · exact hN _ (.tail _ (.tail _ (.tail _ (.tail _ hp)))) (o1n p hp)
theorem led_store4 (F : Fr h₀ L s.heap m) (N : News h₀ L s.heap (LLed L o4 o3 o2 o1 tups)) (hnc : NC tups) (hoc : o4.data = .cell cv)
    (hk : env.scope.kind = .function) (hx : env.kindOf x = some .cell) (hcl : env.cells.lookup x = some (L + 1 + 1 + 1 + 1))
    (h : ∀ h' o4', Fr h₀ L h' m → News h₀ L h' (LLed L o4' o3 o2 o1 tups) → o4'.data = .cell (some v) → (∀ b o, b ≠ L + 1 + 1 + 1 + 1 → s.heap.get? b = some o → h'.get? b = some o) → Q () { s with heap := h' }) : wpAny M A (storeName env x v) Q E s := by
  have hm : (L + 1 + 1 + 1 + 1, o4) ∈ LLed L o4 o3 o2 o1 tups := .head _
  refine cells_store F N hm hoc hk hx hcl fun h' oc' F' hN hc hd hkp => h h' oc' F' (fun p hp => ?_) hd hkp
  have o1n : ∀ q ∈ tups, q.1 ≠ L + 1 + 1 + 1 + 1 := fun q hq => news_ne' N (.tail _ (.tail _ (.tail _ (.tail _ hq)))) hm fun e => hnc q hq cv (by rw [e]; exact hoc)
  simp only [List.mem_cons] at hp
  rcases hp with rfl | rfl | rfl | rfl | hp
  · exact hc
  · exact hN _ (.tail _ (.head _)) (ad_34 L)
  · exact hN _ (.tail _ (.tail _ (.head _))) (ad_24 L)
  · exact hN _ (.tail _ (.tail _ (.tail _ (.head _)))) (ad_14 L)
  · exact hN _ (.tail _ (.tail _ (.tail _ (.tail _ hp)))) (o1n p hp)
theorem led_store1 (F : Fr h₀ L s.heap m) (N : News h₀ L s.heap (LLed L o4 o3 o2 o1 tups)) (hnc : NC tups) (hoc : o1.data = .cell cv)
    (hk : env.scope.kind = .function) (hx : env.kindOf x = some .cell) (hcl : env.cells.lookup x = some (L + 1))
    (h : ∀ h' o1', Fr h₀ L h' m → News h₀ L h' (LLed L o4 o3 o2 o1' tups) → o1'.data = .cell (some v) → (∀ b o, b ≠ L + 1 → s.heap.get? b = some o → h'.get? b = some o) → Q () { s with heap := h' }) : wpAny M A (storeName env x v) Q E s := by
  have hm : (L + 1, o1) ∈ LLed L o4 o3 o2 o1 tups := .tail _ (.tail _ (.tail _ (.head _)))
  refine cells_store F N hm hoc hk hx hcl fun h' oc' F' hN hc hd hkp => h h' oc' F' (fun p hp => ?_) hd hkp
  have o1n : ∀ q ∈ tups, q.1 ≠ L + 1 := fun q hq => news_ne' N (.tail _ (.tail _ (.tail _ (.tail _ hq)))) hm fun e => hnc q hq cv (by rw [e]; exact hoc)
  simp only [List.mem_cons] at hp
  rcases hp with rfl | rfl | rfl | rfl | hp
  · exact hN _ (.head _) (ad_41 L)
  · exact hN _ (.tail _ (.head _)) (ad_31 L)
  · exact hN _ (.tail _ (.tail _ (.head _))) (ad_21 L)
  · exact hc
  · exact hN _ (.tail _ (.tail _ (.tail _ (.tail _ hp)))) (o1n p hp)
end
end
/-- the law's def, its body in sight -/
noncomputable def Law307 (w : World) (qual : Str) (scope : Scope) (body : List Stmt) : Prop := ∃ oc od name params dV kV doc pm an cd ct osl, (kk.heap_1 w.params).lookup 307 = some ⟨oc, od, .func (fnOf name qual params body scope dV kV doc pm an cd ct), osl⟩
theorem law307_eq {w : World} {q q' : Str} {sc sc' : Scope} {b b' : List Stmt} (H : Law307 w q sc b) (H' : Law307 w q' sc' b') : q = q' ∧ sc = sc' ∧ b = b' := by
  obtain ⟨oc, od, name, params, dV, kV, doc, pm, an, cd, ct, osl, e⟩ := H
  obtain ⟨oc2, od2, name2, params2, dV2, kV2, doc2, pm2, an2, cd2, ct2, osl2, e'⟩ := H'
  rw [e] at e'
  have e' := Option.some.inj e'
  injection e' with _ _ e3 _
  injection e3 with e3
  have e4 := congrArg FuncData.body e3
  have e5 := congrArg FuncData.scope e3
  have e6 := congrArg FuncData.qualname e3
  simp only [FuncBody.stmts.injEq] at e4 e5 e6
  exact ⟨e6, e5, e4⟩
theorem nums_len {ns : List Int} : (List.take 9 ns ++ List.drop (((ns.length : Nat) : Int)).toNat [0, 1, 1, 2, 4, 22, 31, 17, 7]).length = 9 := by
  rw [List.length_append, List.length_take, List.length_drop, Int.toNat_natCast]
  show min 9 ns.length + (9 - ns.length) = 9
  omega
theorem fmod15 (z : Int) : ∃ d : Nat, d < 15 ∧ z.fmod 15 = (d : Int) := by
  have h1 : (0 : Int) ≤ z.fmod 15 := Int.fmod_nonneg_of_pos z (by omega)
  have h2 : z.fmod 15 < 15 := Int.fmod_lt_of_pos z (by omega)
  exact ⟨(z.fmod 15).toNat, by omega, by omega⟩
theorem slice15 : ∀ d : Nat, d < 15 → Txt.slice (Str.ofString "()[]:,;+-*/|&<>=.%{}") (some ((d : Nat) : Int)) (some (((d : Nat) : Int) + 6)) = sgs d := by decide +kernel
end Mine
end
section
open PySem PySem.W PyProof.Rows PySem.Calls
set_option maxRecDepth 100000
set_option maxHeartbeats 2000000
namespace Mine
section
variable {prog : Program} {w : World} {A : Around} {s : Shared} {env : Env} {h₀ : Heap} {m : Str → Option Value} {news : List (Addr × Obj)}
theorem allLt_mem {d : Nat} : ∀ {l : List (Addr × Obj)}, AllLt d l → ∀ p ∈ l, @LT.lt Nat _ p.1 d
  | [], _, p, hp => nomatch hp
  | _ :: _, h, p, hp => by
    rcases List.mem_cons.mp hp with rfl | hp
    · exact h.1
    · exact allLt_mem h.2 p hp
noncomputable def HitA (h₀ : Heap) (L l : Addr) (J : Nat → (Str → Option Value) → List (Addr × Obj) → Prop) (s : Shared) (xv : Value) (s₁ : Shared) : Prop := xv = .ref l ∧ ∃ h tk m news, s₁ = { s with heap := h, toks := tk } ∧ Fr h₀ L h m ∧ News h₀ L h news ∧ J 0 m news
theorem HitA.go {L l : Addr} {J : Nat → (Str → Option Value) → List (Addr × Obj) → Prop} {h : Heap} {tk : Nat} (F : Fr h₀ L h m) (N : News h₀ L h news) (hj : J 0 m news) : HitA h₀ L l J s (.ref l) { s with heap := h, toks := tk } := ⟨rfl, h, tk, m, news, rfl, F, N, hj⟩
theorem for_arr {xi xc : Str} {pk pv pt pos : Pos} {x1 : Nat} {iter : Expr} {body : List Stmt} {Q : Flow → Shared → Prop} {l : Addr} {vs : List Value} {items : List (Nat × Nat)}
    (hh : A.handled = none) (hxi : env.kindOf xi = some .local) (hxc : env.kindOf xc = some .local)
    (hp : (env.scope.kind == .class || (env.scope.kind == .module && env.locals != env.globals)) = false)
    (J : Nat → (Str → Option Value) → List (Addr × Obj) → Prop)
    (hs : ∀ x, foldedSetIterable iter env x = pure x)
    (hit : wpAny (model prog w) A (eval iter env) (HitA h₀ env.locals l J s) (fun _ _ => False) s)
    (src : ∀ i m₁ news₁ h, J i m₁ news₁ → Fr h₀ env.locals h m₁ → News h₀ env.locals h news₁ → h.IsList l vs.toArray ∧ ArrAt h vs items)
    (turn : ∀ I i k v t1 t2 m₁ news₁ h tk o, items[i]? = some (k, v) → J i m₁ news₁ → (∀ p ∈ news₁, p.1 ≠ I) → Fr h₀ env.locals h (fun y => if y = xc then some (.int ((v : Nat) : Int) t2) else if y = xi then some (.int ((k : Nat) : Int) t1) else m₁ y) → News h₀ env.locals h ((I, o) :: news₁) →
      wpAny (model prog w) A (execs body env) (TurnR h₀ env.locals I o (J (i + 1)) Q s) (fun _ _ => False) { s with heap := h, toks := tk })
    (done : ∀ m₁ news₁ h tk, J items.length m₁ news₁ → Fr h₀ env.locals h m₁ → News h₀ env.locals h news₁ → Q .next { s with heap := h, toks := tk }) :
    wpAny (model prog w) A (exec (.For (.Tuple [.Name xi pk, .Name xc pv] x1 pt) iter body [] pos) env) Q (fun _ _ => False) s := by
  refine wpAny_For (wpAny_mono hit (fun xv s₁ h₁ => ?_) fun _ _ e => e.elim) hs
  obtain ⟨rfl, h, tk, m, news, rfl, F, N, hj⟩ := h₁
  have hsrc := src 0 m news h hj F N
  refine wpAny_pyIter_list hsrc.1 ?_
  generalize hI : h.objs.size = I
  have hIn : h.get? I = none := by
    cases q : h.get? I with
    | none => rfl
    | some o => exact absurd (Heap.lt_size q) (by rw [hI]; exact Nat.lt_irrefl _)
  have hI0 : h₀.get? I = none := by
    cases q : h₀.get? I with
    | none => rfl
    | some o => rw [F.keep _ _ q] at hIn; cases hIn
  have hLI : env.locals ≠ I := by
    obtain ⟨oL, _, _, hL, _⟩ := F.ns
    rintro e
    rw [e, hIn] at hL
    cases hL
  have move : ∀ {a b : Heap} {m news}, (∀ x o, x ≠ I → a.get? x = some o → b.get? x = some o) → Fr h₀ env.locals a m → News h₀ env.locals a news → (∀ p ∈ news, p.1 ≠ I) → Fr h₀ env.locals b m ∧ News h₀ env.locals b news := by
    intro a b m news k F N hn
    refine ⟨⟨F.ns.at' fun o e => k _ o hLI e, fun x o e => k x o ?_ (F.keep x o e), F.above⟩, fun p hp => ⟨k _ _ (hn p hp) (N p hp).1, (N p hp).2⟩⟩
    rintro rfl
    rw [hI0] at e; cases e
  have up : ∀ x o, x ≠ I → h.get? x = some o → (h.push { cls := .type "list_iterator", data := .fields #[.ref l, .int 0 0] }).get? x = some o := fun x o _ e => Heap.get?_push_of_some _ e
  have hn0 : ∀ p ∈ news, p.1 ≠ I := by
    rintro p hp rfl
    rw [(N p hp).1] at hIn; cases hIn
  obtain ⟨F0, N0⟩ := move up F N hn0
  have hit0 : (h.push { cls := .type "list_iterator", data := .fields #[.ref l, .int 0 0] }).IsListIter I l 0 := ⟨_, by rw [← hI]; exact Heap.get?_push_size _ rfl, rfl, rfl⟩
  refine codeAny_forLoop_any
    (fun k s' => ∃ h' tk' m' news' i, s' = { s with heap := h', toks := tk' } ∧ h'.IsListIter I l i ∧ Fr h₀ env.locals h' m' ∧ News h₀ env.locals h' news' ∧ (∀ p ∈ news', p.1 ≠ I) ∧ J i m' news' ∧ i ≤ items.length ∧ k = items.length + 1 - i) ?_ (items.length + 1)
    ⟨_, tk, m, news, 0, rfl, hit0, F0, N0, hn0, hj, Nat.zero_le _, rfl⟩
  rintro k s' ⟨H, tk', m', news', i, rfl, hit', F', N', hn', hJ, hi, rfl⟩
  have S := src i m' news' H hJ F' N'
  by_cases hlt : i < items.length
  · obtain ⟨T, t1, t2, hT, _⟩ := S.2.get (List.getElem?_eq_getElem hlt)
    refine wpAny_mono (E := fun _ _ => False) ?_ (fun _ _ x => x) (fun _ _ x => x.elim)
    refine wpAny_pyNext_list_item hit' S.1 (x := .ref T) (by simpa using hT) fun h₁ hit₁ hs₁ => ?_
    obtain ⟨F₁, N₁⟩ := move (fun x o hx e => (hs₁.2 x hx).trans e) F' N' hn'
    have S₁ := src i m' news' h₁ hJ F₁ N₁
    obtain ⟨T', u1, u2, hT', ht⟩ := S₁.2.get (List.getElem?_eq_getElem hlt)
    have eT : T' = T := by rw [hT] at hT'; cases hT'; rfl
    subst eT
    refine wpAny_letOwnedTupleGo_listiter hit₁ ?_
    refine wpAny_mono (E := fun _ _ => False) ?_ (fun _ _ x => x) (fun _ _ x => x.elim)
    refine wpAny_assign_Tuple hh ht rfl rfl fun h₃ hx₃ => ?_
    replace hx₃ : Heap.ExtBut h₁.objs.size h₁ h₃ := hx₃
    have up₃ : ∀ b o, h₁.get? b = some o → h₃.get? b = some o := fun b o x => hx₃ b o (Nat.ne_of_lt (Heap.lt_size x)) x
    have F₃ : Fr h₀ env.locals h₃ m' := ⟨F₁.ns.keeps up₃, fun b o e => up₃ b o (F₁.keep b o e), F₁.above⟩
    have N₃ : News h₀ env.locals h₃ news' := fun p hp => ⟨up₃ _ _ (N₁ p hp).1, (N₁ p hp).2⟩
    have hit₃ : h₃.IsListIter I l (i + 1) := hit₁.at fun o e => up₃ _ o e
    show wpAny _ A (do holding [_] (assign (.Name xi pk) env _); do holding [] (assign (.Name xc pv) env _); pure ()) _ _ _
    refine wpAny_bind (wpAny_holding (wpAny_assign_Name (wpAny_storeName_local hxi F₃.ns (fun h₄ hn₄ hs₄ => ?_) hp)))
    have F₄ := F₃.set hn₄ hs₄
    refine wpAny_bind (wpAny_holding (wpAny_assign_Name (wpAny_storeName_local hxc F₄.ns (fun h₅ hn₅ hs₅ => wpAny_pure ?_) hp)))
    have F₅ := F₄.set hn₅ hs₅
    have N₅ : News h₀ env.locals h₅ news' := (N₃.set hs₄).set hs₅
    have hit₅ : h₅.IsListIter I l (i + 1) := hit₃.at fun o e => (hs₅.2 I (Ne.symm hLI)).trans ((hs₄.2 I (Ne.symm hLI)).trans e)
    obtain ⟨o, ho, hc, hd⟩ := hit₅
    have N₆ : News h₀ env.locals h₅ ((I, o) :: news') := by
      intro p hp
      rcases List.mem_cons.mp hp with rfl | hp
      · exact ⟨ho, Ne.symm hLI, hI0⟩
      · exact N₅ p hp
    refine wpAny_mono (turn I i _ _ u1 u2 m' news' h₅ _ o (List.getElem?_eq_getElem hlt) hJ hn' F₅ N₆) (fun f s₃ q => ?_) fun _ _ x => x.elim
    have go : (∃ h' tk' m₂ news₂, s₃ = { s with heap := h', toks := tk' } ∧ Fr h₀ env.locals h' m₂ ∧ News h₀ env.locals h' ((I, o) :: news₂) ∧ (∀ p ∈ news₂, p.1 ≠ I) ∧ J (i + 1) m₂ news₂) →
        ∃ m, m < items.length + 1 - i ∧ ∃ h' tk' m' news' i, s₃ = { s with heap := h', toks := tk' } ∧ h'.IsListIter I l i ∧ Fr h₀ env.locals h' m' ∧ News h₀ env.locals h' news' ∧ (∀ p ∈ news', p.1 ≠ I) ∧ J i m' news' ∧ i ≤ items.length ∧ m = items.length + 1 - i := by
      rintro ⟨h', tk'', m₂, news₂, rfl, F₂, N₂, hn₂, hj₂⟩
      refine ⟨items.length + 1 - (i + 1), by omega, h', tk'', m₂, news₂, i + 1, rfl, ⟨o, (N₂ _ (.head _)).1, hc, hd⟩, F₂, fun p hp => N₂ p (.tail _ hp), hn₂, hj₂, hlt, rfl⟩
    cases f with
    | ret v => exact q
    | brk => exact q
    | next => exact go q
    | cont => exact go q
  · have hin : i = items.length := by omega
    subst hin
    have hvs : vs.length = items.length := S.2.length
    refine wpAny_pyNext_list_end hh hit' S.1 (by simp [hvs]) fun h₁ he₁ => ?_
    refine wpAny_execs_nil ?_
    obtain ⟨F₁, N₁⟩ := move (fun x o hx e => he₁ x o hx e) F' N' hn'
    exact done m' news' h₁ tk' hJ F₁ N₁

end
section
variable {prog : Program} {w : World} {A : Around} {E : Value → Shared → Prop} {s : Shared} {env : Env} {h₀ h : Heap} {L rl : Addr} {m : Str → Option Value} {rv : List Value} {n : Nat} {rest : List (Addr × Obj)} {Q : Value → Shared → Prop}
theorem eval_pairL {M : Model} {l1 l2 r1 r2 : Expr} {op1 op2 : Operator} {p1 p2 pos : Pos}
    (h : wpAny M A (eval (.BinOp l1 op1 r1 p1) env) (fun x s₁ => wpAny M A (eval (.BinOp l2 op2 r2 p2) env) (fun y s₂ => Q (.ref s₂.heap.objs.size) { s₂ with heap := s₂.heap.push { cls := .type "list", data := .seq #[x, y] } }) E s₁) E s) :
    wpAny M A (eval (.List [.BinOp l1 op1 r1 p1, .BinOp l2 op2 r2 p2] pos) env) Q E s := by
  show wpAny M A (do standAt pos; newList (← spliced (backTo pos (starEach [.BinOp l1 op1 r1 p1, .BinOp l2 op2 r2 p2] env)))) Q E s
  refine wpAny_bind (wpAny_standAt ?_)
  refine wpAny_bind ?_
  show wpAny M A (do let v ← eval (.BinOp l1 op1 r1 p1) env; let here ← pure [v]; return here ++ (← holding here (spliced (backTo pos (starEach [.BinOp l2 op2 r2 p2] env))))) _ E s
  refine wpAny_bind (wpAny_mono h (fun x s₁ h₁ => ?_) fun _ _ e => e)
  refine wpAny_bind (wpAny_pure ?_)
  refine wpAny_bind (wpAny_holding ?_)
  show wpAny M A (do let v ← eval (.BinOp l2 op2 r2 p2) env; let here ← pure [v]; return here ++ (← holding here (spliced []))) _ E s₁
  refine wpAny_bind (wpAny_mono h₁ (fun y s₂ h₂ => ?_) fun _ _ e => e)
  refine wpAny_bind (wpAny_pure ?_)
  refine wpAny_bind (wpAny_holding (wpAny_pure ?_))
  refine wpAny_pure ?_
  refine wpAny_pure ?_
  exact wpAny_newList h₂ (by show 2 ≤ sizeLine; decide +kernel)
theorem chg_led {h' : Heap} {o : Obj} (F : Fr h₀ L h m) (N : News h₀ L h ((rl, o) :: rest)) (hne : ∀ p ∈ rest, p.1 ≠ rl) (k : ∀ b ob, b ≠ rl → h.get? b = some ob → h'.get? b = some ob) {o' : Obj} (ho : h'.get? rl = some o') : Fr h₀ L h' m ∧ News h₀ L h' ((rl, o') :: rest) := by
  have hr := N _ (.head _)
  refine ⟨⟨F.ns.at' fun o e => k _ o (Ne.symm hr.2.1) e, fun b ob e => k b ob (fun q => by rw [q, hr.2.2] at e; cases e) (F.keep b ob e), F.above⟩, fun p hp => ?_⟩
  rcases List.mem_cons.mp hp with rfl | hp
  · exact ⟨ho, hr.2⟩
  · exact ⟨k _ _ (hne p hp) (N p (.tail _ hp)).1, (N p (.tail _ hp)).2⟩
theorem ext_led {g dr os : _} {tk : Nat} {x y : Value} (F : Fr h₀ L h m) (N : News h₀ L h ((rl, W.listOf rv.toArray n) :: rest)) (hne : ∀ p ∈ rest, p.1 ≠ rl) (hlen : rv.length ≤ 60)
    (hq : ∀ h' n', Fr h₀ L h' m → News h₀ L h' ((rl, W.listOf (rv ++ [x, y]).toArray n') :: rest) → Q .none ⟨h', g, dr, tk, os⟩) :
    wpAny (model prog w) A (call (.builtin "list.extend") [.ref rl, .ref h.objs.size]) Q E ⟨h.push { cls := .type "list", data := .seq #[x, y] }, g, dr, tk, os⟩ := by
  have hr := (N _ (.head _)).1
  have g1 : (h.push ({ cls := .type "list", data := .seq #[x, y] } : Obj)).get? rl = some (W.listOf rv.toArray n) := Heap.get?_push_of_some _ hr
  have g2 : (h.push ({ cls := .type "list", data := .seq #[x, y] } : Obj)).get? h.objs.size = some (W.listOf #[x, y] 0) := Heap.get?_push_size _ rfl
  have hz : (100 : Nat) ≤ sizeLine := by decide +kernel
  have hz2 : Builtin.List.listTooLong 62 = false := by decide +kernel
  have hlong : ¬ (!rv.toArray.isEmpty && Builtin.List.listTooLong (rv.toArray.size + (#[x, y] : Array Value).size)) = true := by
    simp [Builtin.List.listTooLong]; omega
  refine call_meets PySem.F.slot_list_extend ⟨_, g1, rfl⟩ PySem.F.entry_list_extend (PySem.F.args_list_extend_2 _ _) (AutoSeq1.list_extend_list_list_0 rl rv.toArray n h.objs.size #[x, y] 0 hlong (by simp; omega) (by simp; omega)) ⟨g1, g2, ?_⟩
  obtain ⟨n', g3⟩ : ∃ n', ((h.push ({ cls := .type "list", data := .seq #[x, y] } : Obj)).update rl (Obj.mapSeq fun xs => xs ++ #[x, y])).get? rl = some (W.listOf (rv ++ [x, y]).toArray n') := by
    have := get?_update_seq g1 (fun xs => xs ++ #[x, y])
    rw [show rv.toArray ++ #[x, y] = (rv ++ [x, y]).toArray from by simp] at this
    exact ⟨_, this⟩
  obtain ⟨F2, N2⟩ := chg_led F N hne (h' := (h.push ({ cls := .type "list", data := .seq #[x, y] } : Obj)).update rl (Obj.mapSeq fun xs => xs ++ #[x, y])) (fun b ob hb e => ((Heap.SameBut.update ..).2 b hb).trans (Heap.get?_push_of_some _ e)) g3
  exact hq _ n' F2 N2
theorem app_led {v : Value} (F : Fr h₀ L s.heap m) (N : News h₀ L s.heap ((rl, W.listOf rv.toArray n) :: rest)) (hne : ∀ p ∈ rest, p.1 ≠ rl) (hlen : rv.length ≤ 60)
    (hq : ∀ h' tk' n', Fr h₀ L h' m → News h₀ L h' ((rl, W.listOf (rv ++ [v]).toArray n') :: rest) → Q .none { s with heap := h', toks := tk' }) :
    wpAny (model prog w) A (call (.builtin "list.append") [.ref rl, v]) Q E s := by
  have hz : (100 : Nat) ≤ sizeLine := by decide +kernel
  refine wpAny_list_append_plain (hsz := by simp; omega) ⟨_, (N _ (.head _)).1⟩ fun h' hl hs => ?_
  obtain ⟨n', g3⟩ := hl
  obtain ⟨F2, N2⟩ := chg_led F N hne (h' := h') (fun b ob hb e => (hs.2 b hb).trans e) (o' := W.listOf (rv ++ [v]).toArray n') (by rw [g3]; simp)
  exact hq h' _ n' F2 N2
/-- the row's values -/
noncomputable def RowIs (d : Nat) (rv : List Value) (es : List (Bool × Nat)) : Prop := rv.length = es.length ∧ ∀ (k : Nat) (e : Bool × Nat), es[k]? = some e → ∃ t, rv[k]? = some (Value.int (valE d e) t)
theorem RowIs.snoc {d : Nat} {rv : List Value} {es : List (Bool × Nat)} {e : Bool × Nat} {t : Tok} (x : RowIs d rv es) : RowIs d (rv ++ [.int (valE d e) t]) (es ++ [e]) := by
  refine ⟨by rw [List.length_append, List.length_append, x.1]; rfl, fun k e' he => ?_⟩
  by_cases q : k < es.length
  · rw [List.getElem?_append_left q] at he
    obtain ⟨t', h⟩ := x.2 k e' he
    exact ⟨t', by rw [List.getElem?_append_left (by rw [x.1]; exact q)]; exact h⟩
  · rw [List.getElem?_append_right (by omega)] at he
    have hk : k = es.length := by
      rcases Nat.lt_or_ge es.length k with q' | q'
      · rw [List.getElem?_eq_none (by rw [List.length_singleton]; omega)] at he; cases he
      · omega
    subst hk
    rw [Nat.sub_self] at he
    have he : e = e' := by simpa using he
    subst he
    exact ⟨t, by rw [List.getElem?_append_right (by rw [x.1]; exact Nat.le_refl _), x.1, Nat.sub_self]; rfl⟩
theorem RowIs.two {d : Nat} {rv : List Value} {es : List (Bool × Nat)} {a b : Nat} {t1 t2 : Tok} (x : RowIs d rv es) : RowIs d (rv ++ [.int (256 + (d : Int) + ((a : Nat) : Int)) t1, .int (236 + (d : Int) + ((b : Nat) : Int)) t2]) ((es ++ [(true, a)]) ++ [(false, b)]) := by
  have e : rv ++ [Value.int (256 + (d : Int) + ((a : Nat) : Int)) t1, .int (236 + (d : Int) + ((b : Nat) : Int)) t2] = (rv ++ [.int (256 + (d : Int) + ((a : Nat) : Int)) t1]) ++ [.int (236 + (d : Int) + ((b : Nat) : Int)) t2] := by rw [List.append_assoc]; rfl
  rw [e]
  exact (x.snoc (e := (true, a))).snoc (e := (false, b))
theorem RowIs.more {d : Nat} {rv ex : List Value} {es : List (Bool × Nat)} {t : Tok} (x : RowIs d rv es) : (∀ (k : Nat) (e : Bool × Nat), es[k]? = some e → ∃ t2, ((rv ++ [.int 0 t]) ++ ex)[k]? = some (Value.int (valE d e) t2)) ∧ ∃ t', ((rv ++ [.int 0 t]) ++ ex)[es.length]? = some (Value.int 0 t') := by
  refine ⟨fun k e he => ?_, t, ?_⟩
  · have hk : k < es.length := by
      rcases Nat.lt_or_ge k es.length with q | q
      · exact q
      · rw [List.getElem?_eq_none q] at he; cases he
    obtain ⟨t', h⟩ := x.2 k e he
    exact ⟨t', by rw [List.append_assoc, List.getElem?_append_left (by rw [x.1]; exact hk)]; exact h⟩
  · rw [List.append_assoc, List.getElem?_append_right (by rw [x.1]; exact Nat.le_refl _), x.1, Nat.sub_self]; rfl
noncomputable def flatA (ar : List (Nat × Nat)) : List (Bool × Nat) := ar.flatMap fun a => [(true, a.1), (false, a.2)]
theorem flatA_snoc {ar : List (Nat × Nat)} {i : Nat} {a : Nat × Nat} (h : ar[i]? = some a) : flatA (ar.take (i + 1)) = (flatA (ar.take i) ++ [(true, a.1)]) ++ [(false, a.2)] := by
  unfold flatA
  rw [List.take_add_one, h]
  simp
theorem flatA_len {ar : List (Nat × Nat)} : (flatA ar).length = 2 * ar.length := by
  unfold flatA
  induction ar with
  | nil => rfl
  | cons a r ih => simp [List.flatMap_cons] at ih ⊢; omega
noncomputable def RWM (rl : Addr) (d : Nat) (td : Tok) (u : Str → Option Value) (y : Str) : Option Value := if y = "row" then some (.ref rl) else if y = "first" then some (.int ((d : Nat) : Int) td) else u y
theorem RWM.of {h₀ h : Heap} {L : Addr} {m : Str → Option Value} {rl : Addr} {d : Nat} {td : Tok} (F : Fr h₀ L h m) (hm : m "row" = some (.ref rl)) (hf : m "first" = some (.int ((d : Nat) : Int) td)) : Fr h₀ L h (RWM rl d td m) := by
  refine Fr.cong F fun y => ?_
  unfold RWM
  split
  · rename_i e; rw [e, hm]
  split
  · rename_i e; rw [e, hf]
  rfl
structure JR (L rl : Addr) (d : Nat) (td : Tok) (o4 o3 o2 o1 : Obj) (tups : List (Addr × Obj)) (ar : List (Nat × Nat)) (i : Nat) (m : Str → Option Value) (news : List (Addr × Obj)) : Prop where
  ex : ∃ rv n u, news = (rl, W.listOf (List.toArray rv) n) :: LLed L o4 o3 o2 o1 tups ∧ m = RWM rl d td u ∧ RowIs d rv (flatA (ar.take i))
structure JT (L rl : Addr) (d : Nat) (td : Tok) (o4 o3 o2 o1 : Obj) (tups : List (Addr × Obj)) (pre : List Value) (i : Nat) (m : Str → Option Value) (news : List (Addr × Obj)) : Prop where
  ex : ∃ ex n u, news = (rl, W.listOf (List.toArray (pre ++ ex)) n) :: LLed L o4 o3 o2 o1 tups ∧ m = RWM rl d td u ∧ ex.length = 2 * i
end
section
variable {prog : Program} {w : World} {A : Around} {s : Shared} {h₀ : Heap} {L : Addr}
/-- the iterator of a range -/
theorem ItAt.range16 {r : Addr} {t1 t2 t3 : Tok} {J : Nat → (Str → Option Value) → List (Addr × Obj) → Prop} {h : Heap} {tk : Nat} {m : Str → Option Value} {news : List (Addr × Obj)} (hh : A.handled = none) (F : Fr h₀ L h m) (N : News h₀ L h news) (hj : J 0 m news)
    (hr : IsRange h r 1 6 1 t1 t2 t3) :
    wpAny (model prog w) A (pyIter (.ref r)) (ItAt prog w A h₀ L 5 (fun i v => ∃ t, v = .int (1 + ((i : Nat) : Int) * 1) t) J s) (fun _ _ => False) { s with heap := h, toks := tk } := by
  have nn : h.get? h.objs.size = none := Heap.get?_none_of_le (Nat.le_refl _)
  refine wpAny_pyIter_range hr (by decide) ?_
  have hI0 : h₀.get? h.objs.size = none := by
    cases q : h₀.get? h.objs.size with
    | none => rfl
    | some o => have := F.keep _ _ q; rw [nn] at this; cases this
  have hL : L ≠ h.objs.size := by
    obtain ⟨oL, _, _, hL, _⟩ := F.ns
    rintro e
    rw [e, nn] at hL; cases hL
  refine ⟨_, [h.objs.size], _, fun _ => default, _, _, m, news, rfl, Walks.range hh h.objs.size 1 1 5, rfl, ?_, ⟨hI0, hL⟩, (fun i h' x => ⟨_, x, by simp⟩), F.push _, fun p hp => ⟨Heap.get?_push_of_some _ (N p hp).1, (N p hp).2⟩, fun p hp e => ?_, hj, fun b hb hne => absurd (List.mem_singleton.mp hb) hne⟩
  · show IsRangeIter _ _ _ _ _
    exact Heap.get?_push_size _ rfl
  · have := (N p hp).1
    rw [e, nn] at this; cases this
end
section
variable {h₀ h : Heap} {L rl I : Addr} {d : Nat} {td : Tok} {o4 o3 o2 o1 o : Obj} {tups : List (Addr × Obj)} {ar : List (Nat × Nat)} {i n tk : Nat} {m : Str → Option Value} {rv ex : List Value} {Q : Flow → Shared → Prop} {s : Shared}
theorem swapN {news : List (Addr × Obj)} {a b : Addr × Obj} (N : News h₀ L h (a :: b :: news)) : News h₀ L h (b :: a :: news) := fun p hp => N p (by
  simp only [List.mem_cons] at hp ⊢
  rcases hp with h | h | h
  · exact .inr (.inl h)
  · exact .inl h
  · exact .inr (.inr h))
theorem JR.go (F : Fr h₀ L h m) (N : News h₀ L h ((rl, W.listOf (List.toArray rv) n) :: (I, o) :: LLed L o4 o3 o2 o1 tups)) (h1 : m "row" = some (.ref rl)) (h2 : m "first" = some (.int ((d : Nat) : Int) td)) (hr : RowIs d rv (flatA (ar.take (i + 1)))) (hI : rl ≠ I) (hnI : ∀ p ∈ LLed L o4 o3 o2 o1 tups, p.1 ≠ I) :
    TurnR h₀ L I o (JR L rl d td o4 o3 o2 o1 tups ar (i + 1)) Q s .next { s with heap := h, toks := tk } :=
  TurnR.go (RWM.of F h1 h2) (swapN N) (fun p hp => by
    rcases List.mem_cons.mp hp with rfl | hp
    · exact hI
    · exact hnI p hp) ⟨_, _, _, rfl, rfl, hr⟩
theorem JT.go {pre : List Value} (F : Fr h₀ L h m) (N : News h₀ L h ((rl, W.listOf (List.toArray (pre ++ ex)) n) :: (I, o) :: LLed L o4 o3 o2 o1 tups)) (h1 : m "row" = some (.ref rl)) (h2 : m "first" = some (.int ((d : Nat) : Int) td)) (hr : ex.length = 2 * (i + 1)) (hI : rl ≠ I) (hnI : ∀ p ∈ LLed L o4 o3 o2 o1 tups, p.1 ≠ I) :
    TurnR h₀ L I o (JT L rl d td o4 o3 o2 o1 tups pre (i + 1)) Q s .next { s with heap := h, toks := tk } :=
  TurnR.go (RWM.of F h1 h2) (swapN N) (fun p hp => by
    rcases List.mem_cons.mp hp with rfl | hp
    · exact hI
    · exact hnI p hp) ⟨_, _, _, rfl, rfl, hr⟩
end
end Mine
end
section
open PySem PySem.W PyProof.Rows PySem.Calls
set_option maxRecDepth 100000
set_option maxHeartbeats 2000000
namespace Mine
noncomputable def runItems (d : Nat) (ar : List (Nat × Nat)) : List (Str × Str) := ar.flatMap fun a => [(toN d a.2, sg d a.1), (("From" : Str) ++ sg d a.1, sg d a.2)]
theorem runE_flat {d : Nat} : ∀ (ar : List (Nat × Nat)) (st : Str × List (Str × Str)), ((flatA ar).foldl (stepE d) st).2 = st.2 ++ runItems d ar
  | [], st => by simp [flatA, runItems]
  | a :: r, st => by
    have e : flatA (a :: r) = (true, a.1) :: (false, a.2) :: flatA r := by simp [flatA]
    rw [e, List.foldl_cons, List.foldl_cons, runE_flat r]
    simp [stepE, runItems, List.flatMap_cons]
theorem runE_items {d : Nat} {ar : List (Nat × Nat)} : (runE d (flatA ar)).2 = runItems d ar := by
  unfold runE; rw [runE_flat]; rfl
theorem to_to : ∀ d < 15, ∀ i < 6, ∀ j < 6, Txt.lower (toN d i) = Str.ofString "to" ++ sg d j → i = j := by decide +kernel
theorem to_to' : ∀ d < 15, ∀ i < 6, Txt.lower (toN d i) = Str.ofString "to" ++ sg d i := by decide +kernel
theorem to_from : ∀ d < 15, ∀ i < 6, ∀ j < 6, ¬ Txt.lower (toN d i) = Str.ofString "from" ++ sg d j := by decide +kernel
theorem from_to : ∀ d < 15, ∀ i < 6, ∀ j < 6, ¬ Txt.lower (("From" : Str) ++ sg d i) = Str.ofString "to" ++ sg d j := by decide +kernel
theorem from_from : ∀ d < 15, ∀ i < 6, ∀ j < 6, Txt.lower (("From" : Str) ++ sg d i) = Str.ofString "from" ++ sg d j → i = j := by decide +kernel
theorem from_from' : ∀ d < 15, ∀ i < 6, Txt.lower (("From" : Str) ++ sg d i) = Str.ofString "from" ++ sg d i := by decide +kernel
theorem items_len {d : Nat} {ar : List (Nat × Nat)} : (runItems d ar).length = 2 * ar.length := by
  unfold runItems
  induction ar with
  | nil => rfl
  | cons a r ih => simp [List.flatMap_cons] at ih ⊢; omega
theorem items_names {d : Nat} {ar : List (Nat × Nat)} : ∀ p ∈ runItems d ar, p.1.length ≤ 1000 := by
  intro p hp
  unfold runItems at hp
  obtain ⟨a, _, h⟩ := List.mem_flatMap.mp hp
  simp only [List.mem_cons, List.not_mem_nil, or_false] at h
  rcases h with rfl | rfl
  · show 3 ≤ 1000; omega
  · show 5 ≤ 1000; omega
theorem items_cons {d : Nat} {a : Nat × Nat} {r : List (Nat × Nat)} : runItems d (a :: r) = (toN d a.2, sg d a.1) :: (("From" : Str) ++ sg d a.1, sg d a.2) :: runItems d r := by
  simp [runItems, List.flatMap_cons]
theorem allLow_cons {key : Str} {p : Str × Str} {r : List (Str × Str)} : allLow key (p :: r) = if Txt.lower p.1 = key then p.2 :: allLow key r else allLow key r := by
  unfold allLow
  by_cases h : Txt.lower p.1 = key
  · rw [if_pos h, List.filter_cons_of_pos (p := fun p : Str × Str => Txt.lower p.1 == key) (by simpa using h)]; rfl
  · rw [if_neg h, List.filter_cons_of_neg (p := fun p : Str × Str => Txt.lower p.1 == key) (by simpa using h)]
theorem preds_cons {j : Nat} {a : Nat × Nat} {r : List (Nat × Nat)} : preds (a :: r) j = if a.2 = j then a.1 :: preds r j else preds r j := by
  unfold preds
  by_cases h : a.2 = j
  · rw [if_pos h, List.filter_cons_of_pos (p := fun a : Nat × Nat => a.2 == j) (by simpa using h)]; rfl
  · rw [if_neg h, List.filter_cons_of_neg (p := fun a : Nat × Nat => a.2 == j) (by simpa using h)]
theorem succs_cons {j : Nat} {a : Nat × Nat} {r : List (Nat × Nat)} : succs (a :: r) j = if a.1 = j then a.2 :: succs r j else succs r j := by
  unfold succs
  by_cases h : a.1 = j
  · rw [if_pos h, List.filter_cons_of_pos (p := fun a : Nat × Nat => a.1 == j) (by simpa using h)]; rfl
  · rw [if_neg h, List.filter_cons_of_neg (p := fun a : Nat × Nat => a.1 == j) (by simpa using h)]
theorem to_all {d j : Nat} (hd : d < 15) (hj : j < 6) : ∀ {ar : List (Nat × Nat)}, (∀ a ∈ ar, a.1 < 6 ∧ a.2 < 6) → allLow (Str.ofString "to" ++ sg d j) (runItems d ar) = (preds ar j).map (sg d)
  | [], _ => rfl
  | a :: r, h => by
    obtain ⟨h1, h2⟩ := h a (.head _)
    rw [items_cons, allLow_cons, allLow_cons, if_neg (from_to d hd a.1 h1 j hj), to_all hd hj fun x hx => h x (.tail _ hx), preds_cons]
    by_cases e : a.2 = j
    · rw [if_pos (by rw [← e]; exact to_to' d hd a.2 h2), if_pos e]; rfl
    · rw [if_neg (fun q => e (to_to d hd a.2 h2 j hj q)), if_neg e]
theorem from_all {d j : Nat} (hd : d < 15) (hj : j < 6) : ∀ {ar : List (Nat × Nat)}, (∀ a ∈ ar, a.1 < 6 ∧ a.2 < 6) → allLow (Str.ofString "from" ++ sg d j) (runItems d ar) = (succs ar j).map (sg d)
  | [], _ => rfl
  | a :: r, h => by
    obtain ⟨h1, h2⟩ := h a (.head _)
    rw [items_cons, allLow_cons, allLow_cons, if_neg (to_from d hd a.2 h2 j hj), from_all hd hj fun x hx => h x (.tail _ hx), succs_cons]
    by_cases e : a.1 = j
    · rw [if_pos (by rw [← e]; exact from_from' d hd a.1 h1), if_pos e]; rfl
    · rw [if_neg (fun q => e (from_from d hd a.1 h1 j hj q)), if_neg e]
theorem flatA_lt {ar : List (Nat × Nat)} (h : ∀ a ∈ ar, a.1 < 6 ∧ a.2 < 6) : ∀ e ∈ flatA ar, e.2 < 6 := by
  intro e he
  unfold flatA at he
  obtain ⟨a, ha, q⟩ := List.mem_flatMap.mp he
  simp only [List.mem_cons, List.not_mem_nil, or_false] at q
  rcases q with rfl | rfl
  · exact (h a ha).1
  · exact (h a ha).2
end Mine
end
section
open PySem PySem.W PyProof.Rows PySem.Calls
set_option maxRecDepth 100000
set_option maxHeartbeats 4000000
namespace Mine
theorem fillit25 : (fun (_ : Params → Frag) (_ : OpenLaw) => True) kk.heap_1 PySem.Challenge.rw_wj0075_01 := by k_fill; trivial
noncomputable def FM (d : Nat) (td : Tok) (u : Str → Option Value) (y : Str) : Option Value := if y = "first" then some (.int ((d : Nat) : Int) td) else u y
theorem FM.of {h₀ h : Heap} {L : Addr} {m : Str → Option Value} {d : Nat} {td : Tok} (F : Fr h₀ L h m) (hm : m "first" = some (.int ((d : Nat) : Int) td)) : Fr h₀ L h (FM d td m) := by
  refine Fr.cong F fun y => ?_
  unfold FM
  split
  · rename_i e; rw [e, hm]
  rfl
section
variable {w : World} {lo : List Str} {mean : ExcName → Option Value} {mg mb : Str → Option Value} {h₀ : Heap} {s : Shared} {dp un : Nat} {fr : Option (List Env)} {gd : Option (List Code)} {Q : Flow → Shared → Prop} {E : Value → Shared → Prop}
  {qual : Str} {body : List Stmt} {scope : Scope} {cdv : Value} {f L al : Addr} {m : Str → Option Value} {o1 o2 o3 o4 oal : Obj} {avs : List Value} {ar : List (Nat × Nat)} {tups : List (Addr × Obj)}
theorem kwLg0 : True := by
  k_with_none
  trivial
theorem kwLg1 : True := by
  (k_with "eval List" => ((with_reducible show wpAny _ _ (eval (PySem.Expr.List [PySem.Expr.BinOp _ _ _ _, PySem.Expr.BinOp _ _ _ _] _) _) _ _ _); refine eval_pairL ?_))
  trivial
theorem kwLg2 : True := by
  (k_with "call builtin:list.extend" => refine Mine.Stop.of ?_)
  trivial
theorem kwLg3 : True := by
  (k_with "call builtin:list.append" => refine Mine.Stop.of ?_)
  trivial
theorem kwLg4 : True := by
  (k_with "exec For" => refine Mine.Stop.of ?_)
  trivial
theorem kwLg5 : True := by
  (k_with "exec For Tuple Name cons nil" => refine Mine.Stop.of ?_)
  trivial
theorem kwLg6 : True := by
  (k_with "exec For Name Call cons nil" => refine Mine.Stop.of ?_)
  trivial
theorem kwLg7 : True := by
  (k_with "execs cons" => ((with_reducible show wpAny _ _ (execs (Stmt.Assign [Expr.Name (Str.ofString "told") _] _ _ :: _) _) _ _ _); refine Mine.Stop.of ?_))
  trivial
theorem law_p4 (G₀ : Gnd w lo mean mg mb h₀) {s1 s2 s3 s4 s5 s6 s7 s8 : Stmt} {rest : List Stmt} (H : Law307 w qual scope (s1 :: s2 :: s3 :: s4 :: s5 :: s6 :: s7 :: s8 :: rest))
    {d : Nat} {td : Tok} (F : Fr h₀ L s.heap m) (hf : m "first" = some (.int ((d : Nat) : Int) td)) (N : News h₀ L s.heap (LLed L o4 o3 o2 o1 tups)) (hnc : NC tups) (hal : (al, oal) ∈ tups) (hoal : LObj oal avs) (hpi : PIn tups avs ar) (c2 : o2.data = .cell (some (.ref al))) (har : ∀ a ∈ ar, a.1 < 6 ∧ a.2 < 6) (hlen : ar.length = 8) (hd : d < 15)
    (c4 : o4.data = .cell none) (c3 : o3.data = .cell none) {v1 : Value} (c1 : o1.data = .cell (some v1)) (hdp : dp + 10 < recursionLimit) (hun : un + 100 < cLine)
    (hrest : ∀ (h' : Heap) (tk' : Nat) (rl : Addr) (rv : List Value) (n : Nat) (m' : Str → Option Value), Fr h₀ L h' m' → m' "row" = some (.ref rl) → News h₀ L h' ((rl, W.listOf rv.toArray n) :: LLed L o4 o3 o2 o1 tups) → (∀ (k : Nat) (e : Bool × Nat), (flatA ar)[k]? = some e → ∃ t, rv[k]? = some (Value.int (valE d e) t)) → (∃ t, rv[(flatA ar).length]? = some (Value.int 0 t)) →
      wpAny (model PR w) (AA dp un fr gd) (execs rest (envOfC qual scope L f cdv)) Q (fun _ _ => False) { s with heap := h', toks := tk' }) :
    wpAny (model PR w) (AA dp un fr gd) (execs (s5 :: s6 :: s7 :: s8 :: rest) (envOfC qual scope L f cdv)) Q (fun _ _ => False) s := by
  have H2 : Law307 w _ _ _ := ⟨_, _, _, _, _, _, _, _, _, _, _, _, by k_is⟩
  obtain ⟨rfl, rfl, e⟩ := law307_eq H H2
  injection e with e1 e
  injection e with e2 e
  injection e with e3 e
  injection e with e4 e
  injection e with e5 e
  injection e with e6 e
  injection e with e7 e
  injection e with e8 e9
  subst e5 e6 e7 e8 e9
  clear H H2 e1 e2 e3 e4
  have X := G₀.X
  have T := G₀.T
  have F1 := FM.of F hf
  unfold FM at F1
  clear F hf
  -- <R
  k_steps
  (with_reducible rename Fr _ _ _ _ => kF); (with_reducible rename News _ _ _ _ => kN); (with_reducible rename _ ∧ _ => l1)
  have hfl := @flatA_len ar
  obtain ⟨rl, F2, N2, hne⟩ : ∃ rl, Fr h₀ L _ (RWM rl d td _) ∧ News h₀ L _ ((rl, W.listOf #[] 0) :: LLed L o4 o3 o2 o1 tups) ∧ ∀ p ∈ LLed L o4 o3 o2 o1 tups, p.1 ≠ rl := ⟨_, RWM.of kF rfl rfl, kN, fun p hp => by
    simp only [List.mem_cons] at hp
    rcases hp with rfl | rfl | rfl | rfl | hp
    · exact Nat.ne_of_lt l1.1
    · exact Nat.ne_of_lt l1.2.1
    · exact Nat.ne_of_lt l1.2.2.1
    · exact Nat.ne_of_lt l1.2.2.2.1
    · exact Nat.ne_of_lt (allLt_mem l1.2.2.2.2 _ hp)⟩
  clear kF kN l1
  refine Stop.go (for_arr (h₀ := h₀) (l := al) (vs := avs) (items := ar) rfl rfl rfl rfl (JR L rl d td o4 o3 o2 o1 tups ar) (fun _ => rfl) ?_ ?_ ?_ ?_)
  · unfold RWM at F2
    k_steps
    (with_reducible rename Fr _ _ _ _ => kF); (with_reducible rename News _ _ _ _ => kN)
    exact HitA.go (RWM.of kF rfl rfl) kN ⟨[], 0, _, rfl, rfl, ⟨rfl, fun k e he => by simp [flatA] at he⟩⟩
  · rintro i m₁ news₁ h ⟨rv, n, u, rfl, rfl, hr⟩ F N
    have Nt : ∀ q ∈ tups, h.get? q.1 = some q.2 := fun q hq => (N _ (.tail _ (.tail _ (.tail _ (.tail _ (.tail _ hq)))))).1
    exact ⟨hoal.at (Nt _ hal), PIn.arr Nt hpi⟩
  · rintro I i a b t1 t2 m₁ news₁ h tk o hia ⟨rv, n, u, rfl, rfl, hr⟩ hnI F N
    clear F2 N2
    unfold RWM at F
    have N3 : News h₀ L h ((rl, W.listOf (List.toArray rv) n) :: (I, o) :: LLed L o4 o3 o2 o1 tups) := fun p hp => by
      rcases List.mem_cons.mp hp with rfl | hp
      · exact N _ (.tail _ (.head _))
      rcases List.mem_cons.mp hp with rfl | hp
      · exact N _ (.head _)
      · exact N _ (.tail _ (.tail _ hp))
    have hrlI : rl ≠ I := hnI _ (.head _)
    have hne3 : ∀ p ∈ (I, o) :: LLed L o4 o3 o2 o1 tups, p.1 ≠ rl := fun p hp => by
      rcases List.mem_cons.mp hp with rfl | hp
      · exact hrlI.symm
      · exact hne p hp
    have hi8 : i < 8 := by
      rcases Nat.lt_or_ge i 8 with q | q
      · exact q
      · rw [List.getElem?_eq_none (by omega)] at hia; cases hia
    have hrl : rv.length ≤ 60 := by rw [hr.1, flatA_len, List.length_take]; omega
    clear N
    k_steps
    (with_reducible rename Fr _ _ _ _ => kF); (with_reducible rename News _ _ _ _ => kN)
    refine Stop.go (ext_led kF kN hne3 hrl fun h' n' F' N' => ?_)
    clear kF kN
    k_steps
    (with_reducible rename Fr _ _ _ _ => kF); (with_reducible rename News _ _ _ _ => kN)
    exact JR.go kF kN rfl rfl (by rw [flatA_snoc hia]; exact hr.two) hrlI fun p hp => hnI p (.tail _ hp)
  · rintro m₁ news₁ h tk ⟨rv, n, u, rfl, rfl, hr⟩ F N
    clear F2 N2
    replace F : Fr h₀ L h _ := F
    replace N : News h₀ L h _ := N
    unfold RWM at F
    rw [List.take_length] at hr
    have hrl : rv.length ≤ 60 := by rw [hr.1, flatA_len]; omega
    dsimp only
    k_steps
    (with_reducible rename Fr _ _ _ _ => kF); (with_reducible rename News _ _ _ _ => kN)
    refine Stop.go (app_led kF kN hne hrl fun h' tk' n' F' N' => ?_)
    clear kF kN
    k_steps
    (with_reducible rename Fr _ _ _ _ => kF); (with_reducible rename News _ _ _ _ => kN)
    obtain ⟨pre, n4, hpre, hpl, N5⟩ : ∃ pre n4, (∀ ex, (∀ (k : Nat) (e : Bool × Nat), (flatA ar)[k]? = some e → ∃ t, (pre ++ ex)[k]? = some (Value.int (valE d e) t)) ∧ ∃ t', (pre ++ ex)[(flatA ar).length]? = some (Value.int 0 t')) ∧ pre.length ≤ 17 ∧ News h₀ L _ ((rl, W.listOf (List.toArray pre) n4) :: LLed L o4 o3 o2 o1 tups) := ⟨_, _, fun ex => hr.more, by rw [List.length_append, List.length_singleton, hr.1, flatA_len]; omega, kN⟩
    have kF2 := RWM.of (rl := rl) (d := d) (td := td) kF rfl rfl
    clear kF kN
    unfold RWM at kF2
    refine Stop.go (for_walk2 (fun _ => rfl) ?_)
    k_steps
    (with_reducible rename Fr _ _ _ _ => kF); (with_reducible rename News _ _ _ _ => kN)
    refine ⟨h₀, 5, _, JT L rl d td o4 o3 o2 o1 tups pre, wpAny_mono (ItAt.range16 (J := JT L rl d td o4 o3 o2 o1 tups pre) rfl (RWM.of (rl := rl) (d := d) (td := td) kF rfl rfl) kN ⟨[], _, _, by rw [List.append_nil], rfl, rfl⟩ (by assumption)) (fun it s₂ h₂ => ItAt.weak h₂ rfl (fun i v hv => hv) fun _ _ => rfl) fun _ _ e => e, ?_, ?_⟩
    · rintro I i v m₁ news₁ h2 tk2 o hoc hi ⟨t, rfl⟩ ⟨ex, n5, u2, rfl, rfl, hex⟩ hnI F N
      replace F : Fr h₀ L h2 _ := F
      replace N : News h₀ L h2 _ := N
      clear kF kN
      unfold RWM at F
      have N3 := swapN N
      have hrlI : rl ≠ I := hnI _ (.head _)
      have hne3 : ∀ p ∈ (I, o) :: LLed L o4 o3 o2 o1 tups, p.1 ≠ rl := fun p hp => by
        rcases List.mem_cons.mp hp with rfl | hp
        · exact hrlI.symm
        · exact hne p hp
      have hrl2 : (pre ++ ex).length ≤ 60 := by rw [List.length_append]; omega
      have hi1 : 1 + (i : Int) * 1 < 10 := by omega
      have hi0 : 0 < 1 + (i : Int) * 1 := by omega
      clear N
      refine wpAny_assign_Name ?_
      k_steps
      (with_reducible rename Fr _ _ _ _ => kF); (with_reducible rename News _ _ _ _ => kN)
      refine Stop.go (ext_led kF kN hne3 hrl2 fun h' n' F' N' => ?_)
      clear kF kN
      rw [List.append_assoc] at N'
      k_steps
      (with_reducible rename Fr _ _ _ _ => kF); (with_reducible rename News _ _ _ _ => kN)
      exact JT.go kF kN rfl rfl (by rw [List.length_append, hex]; rfl) hrlI fun p hp => hnI p (.tail _ hp)
    · rintro m₁ news₁ h2 tk2 ⟨ex, n5, u2, rfl, rfl, hex⟩ F N
      replace F : Fr h₀ L h2 _ := F
      replace N : News h₀ L h2 _ := N
      clear kF kN
      dsimp only
      k_steps
      exact Stop.go (hrest _ _ rl (pre ++ ex) n5 _ F rfl N (hpre ex).1 (hpre ex).2)
end
end Mine
end
section
open PySem PySem.W PyProof.Rows PySem.Calls
set_option maxRecDepth 100000
set_option maxHeartbeats 4000000
namespace Mine
theorem fillit26 : (fun (_ : Params → Frag) (_ : OpenLaw) => True) kk.heap_1 PySem.Challenge.rw_wj0075_01 := by k_fill; trivial
noncomputable def RowM (rl : Addr) (u : Str → Option Value) (y : Str) : Option Value := if y = "row" then some (.ref rl) else u y
theorem RowM.of {h₀ h : Heap} {L : Addr} {m : Str → Option Value} {rl : Addr} (F : Fr h₀ L h m) (hm : m "row" = some (.ref rl)) : Fr h₀ L h (RowM rl m) := by
  refine Fr.cong F fun y => ?_
  unfold RowM
  split
  · rename_i e; rw [e, hm]
  rfl
section
variable {w : World} {lo : List Str} {mean : ExcName → Option Value} {mg mb : Str → Option Value} {h₀ : Heap} {s : Shared} {dp un : Nat} {fr : Option (List Env)} {gd : Option (List Code)} {Q : Flow → Shared → Prop} {E : Value → Shared → Prop}
  {qual : Str} {body : List Stmt} {scope : Scope} {cdv : Value} {f L rl : Addr} {m : Str → Option Value} {o1 o2 o3 o4 : Obj} {ar : List (Nat × Nat)} {tups : List (Addr × Obj)}
theorem kwLh0 : True := by
  k_with_none
  trivial
theorem kwLh1 : True := by
  (k_with "call ref" => refine Mine.Stop.of ?_)
  trivial
theorem kwLh2 : True := by
  (k_with "storeName" => ((with_reducible show wpAny _ _ (storeName _ (Str.ofString "told") _) _ _ _); refine Mine.Stop.of ?_))
  trivial
theorem law_p5 (G₀ : Gnd w lo mean mg mb h₀) {s1 s2 s3 s4 s5 s6 s7 s8 s9 : Stmt} {rest : List Stmt} (H : Law307 w qual scope (s1 :: s2 :: s3 :: s4 :: s5 :: s6 :: s7 :: s8 :: s9 :: rest))
    {d : Nat} {ts : Tok} {rv : List Value} {n : Nat} (F : Fr h₀ L s.heap m) (hf : m "row" = some (.ref rl)) (N : News h₀ L s.heap ((rl, W.listOf rv.toArray n) :: LLed L o4 o3 o2 o1 tups)) (hnc : NC tups) (har : ∀ a ∈ ar, a.1 < 6 ∧ a.2 < 6) (hlen : ar.length = 8) (hd : d < 15)
    (c3 : o3.data = .cell none) (c1 : o1.data = .cell (some (.str (sgs d) ts))) (hv : ∀ (k : Nat) (e : Bool × Nat), (flatA ar)[k]? = some e → ∃ t, rv[k]? = some (Value.int (valE d e) t)) (hz : ∃ t, rv[(flatA ar).length]? = some (Value.int 0 t)) (hdp : dp + 10 < recursionLimit) (hun : un + 100 < cLine)
    (hrest : ∀ (h' : Heap) (tk' : Nat) (tl : Addr) (otl : Obj) (ys : List Value) (S : Nat → Nat → Bool) (o3' : Obj) (m' : Str → Option Value), Fr h₀ L h' m' → News h₀ L h' (LLed L o4 o3' o2 o1 ((tl, otl) :: tups)) → NC ((tl, otl) :: tups) → LObj otl ys → StrsAre ys ([0, 1, 2, 3, 4, 5].map fun j => txt d (S j)) → (∀ j < 6, ∀ k < 6, S j k = true ↔ ¬ Rch ar k j) → o3'.data = .cell (some (.ref tl)) →
      wpAny (model PR w) (AA dp un fr gd) (execs rest (envOfC qual scope L f cdv)) Q (fun _ _ => False) { s with heap := h', toks := tk' }) :
    wpAny (model PR w) (AA dp un fr gd) (execs (s9 :: rest) (envOfC qual scope L f cdv)) Q (fun _ _ => False) s := by
  have H2 : Law307 w _ _ _ := ⟨_, _, _, _, _, _, _, _, _, _, _, _, by k_is⟩
  obtain ⟨rfl, rfl, e⟩ := law307_eq H H2
  injection e with e1 e
  injection e with e2 e
  injection e with e3 e
  injection e with e4 e
  injection e with e5 e
  injection e with e6 e
  injection e with e7 e
  injection e with e8 e
  injection e with e9 e0
  subst e9 e0
  clear H H2 e1 e2 e3 e4 e5 e6 e7 e8
  have X := G₀.X
  have T := G₀.T
  have F1 := RowM.of F hf
  unfold RowM at F1
  clear F hf
  have hfl := @flatA_len ar
  k_steps
  (with_reducible rename Fr _ _ _ _ => kF); (with_reducible rename News _ _ _ _ => kN)
  refine Stop.go (law_table_c G₀ kF.keep (by omega) (by omega) hd (News.isList kN (.head _)) (flatA_lt har) (by omega) hv hz fun h1 tk1 x dx l hsh t n1 vs k xe nx ndx nl gx gdx gl hpa => ?_)
  have F2 := xe.fr0 kF
  have N2 := xe.news0 kN
  rw [runE_items] at hpa
  have hvl := hpa.length
  rw [items_len] at hvl
  clear kF kN
  k_steps
  (with_reducible rename Fr _ _ _ _ => kF); (with_reducible rename News _ _ _ _ => kN)
  refine Stop.go (settled_c (tk := 0) (ar := ar) (Dm := Dom ar) G₀ kF.keep (by omega) (by omega) hd gx gdx ⟨_, gl, rfl, _, rfl⟩ hpa items_names (by omega) har (by omega) (fun j hj => to_all hd hj har) (fun j hj => from_all hd hj har) (dom_new har) dom_zero fun h2 tk2 D ys S xe2 nD hpl hst hinv => ?_)
  have F3 := xe2.fr0 kF
  obtain ⟨nl2, gD⟩ := hpl
  have N3 := news_fresh kF (xe2.news0 kN) nD gD
  clear kF kN
  k_steps
  (with_reducible rename Fr _ _ _ _ => kF); (with_reducible rename News _ _ _ _ => kN)
  have N4 : News h₀ L _ (LLed L o4 o3 o2 o1 ((D, { cls := .type "list", data := .seq ys nl2 }) :: tups)) := fun p hp => kN p (by
    simp only [List.mem_cons] at hp ⊢
    rcases hp with h | h | h | h | h | h
    · exact .inr (.inr (.inl h))
    · exact .inr (.inr (.inr (.inl h)))
    · exact .inr (.inr (.inr (.inr (.inl h))))
    · exact .inr (.inr (.inr (.inr (.inr (.inl h)))))
    · exact .inl h
    · exact .inr (.inr (.inr (.inr (.inr (.inr h))))))
  have hnc2 : NC ((D, ({ cls := .type "list", data := .seq ys nl2 } : Obj)) :: tups) := NC.cons (by simp) hnc
  refine Stop.go (led_store3 kF N4 hnc2 c3 rfl rfl rfl fun h3 o3' F5 N5 hc5 _ => ?_)
  exact hrest h3 _ D _ ys.toList S o3' _ F5 N5 hnc2 ⟨rfl, nl2, by simp⟩ hst (fun j hj k hk => dom_of har hinv hj hk) hc5
end
end Mine
end
section
open PySem PySem.W PyProof.Rows PySem.Calls
set_option maxRecDepth 100000
set_option maxHeartbeats 4000000
namespace Mine
theorem fillit27 : (fun (_ : Params → Frag) (_ : OpenLaw) => True) kk.heap_1 PySem.Challenge.rw_wj0075_01 := by k_fill; trivial
structure JK (L D : Addr) (oD : Obj) (o4 o3 o2 o1 : Obj) (tups : List (Addr × Obj)) (i : Nat) (m : Str → Option Value) (news : List (Addr × Obj)) : Prop where
  ex : news = LLed L o4 o3 o2 o1 ((D, oD) :: tups)
/-- a block's size -/
noncomputable def FL (d : Nat) (S : Nat → Nat → Bool) (v y : Value) : Prop := ∃ t u u', t < 6 ∧ v = .str (sg d t) u ∧ y = .int ((card (S t) : Nat) : Int) u'
theorem txt_at {d : Nat} {g : Nat → Bool} {i : Nat} {v : Value} (h : SignAt (txt d g) i v) : ∃ m u, ([0, 1, 2, 3, 4, 5].filter g)[i]? = some m ∧ m < 6 ∧ v = .str (sg d m) u := by
  obtain ⟨c, u, hc, rfl⟩ := h
  have e : (txt d g).cps = (([0, 1, 2, 3, 4, 5].filter g).map (ch d)).toArray := rfl
  rw [e, List.getElem?_toArray, List.getElem?_map] at hc
  cases q : ([0, 1, 2, 3, 4, 5].filter g)[i]? with
  | none => rw [q] at hc; cases hc
  | some m =>
    rw [q] at hc
    have hc : ch d m = c := by simpa using hc
    subst hc
    exact ⟨m, u, rfl, six_mem.mp (List.mem_filter.mp (List.mem_of_getElem? q)).1, rfl⟩
theorem paired_get {F : Value → Value → Prop} : ∀ {a b : List Value}, Paired F a b → ∀ {j : Nat} {y : Value}, b[j]? = some y → ∃ v, a[j]? = some v ∧ F v y
  | _, _, .nil, j, y, h => by simp at h
  | _, _, .cons h t, j, y, e => by
    cases j with
    | zero =>
      simp only [List.getElem?_cons_zero, Option.some.injEq] at e
      subst e
      exact ⟨_, rfl, h⟩
    | succ j =>
      obtain ⟨v, h1, h2⟩ := paired_get t (by simpa using e)
      exact ⟨v, by simpa using h1, h2⟩
theorem ints_of : ∀ {ys : List Value} {ns : List Int}, ys.length = ns.length → (∀ (j : Nat) (y : Value), ys[j]? = some y → ∃ t, y = .int (ns.getD j 0) t) → IntsAre ys ns
  | [], [], _, _ => .nil
  | [], _ :: _, h, _ => by simp at h
  | _ :: _, [], h, _ => by simp at h
  | y :: ys, n :: ns, h, x => by
    obtain ⟨t, e⟩ := x 0 y rfl
    have e : y = .int n t := by simpa using e
    subst e
    exact .cons n t (ints_of (by simpa using h) fun j z hz => by
      obtain ⟨t, e⟩ := x (j + 1) z (by simpa using hz)
      exact ⟨t, by simpa using e⟩)
theorem fl_ints {d k : Nat} {S : Nat → Nat → Bool} {vs ys : List Value} (hd : d < 15) (hl : vs.length = (txt d (S k)).cps.size) (hv : ∀ j v, vs[j]? = some v → SignAt (txt d (S k)) j v) (hp : Paired (FL d S) vs ys) : IntsAre ys ((doms S k).map fun m => ((card (S m) : Nat) : Int)) := by
  have hlen : (txt d (S k)).cps.size = (doms S k).length := txt_len
  refine ints_of (by rw [← hp.length, hl, hlen, List.length_map]) fun j y hy => ?_
  obtain ⟨v, h1, t, u, u', ht, e1, e2⟩ := paired_get hp hy
  obtain ⟨m, u2, h3, h4, e3⟩ := txt_at (hv j v h1)
  rw [e1] at e3
  have e4 := (Value.str.inj e3).1
  have : t = m := sg_inj d hd t ht m h4 e4
  subst this
  refine ⟨u', ?_⟩
  have : ((doms S k).map fun m => ((card (S m) : Nat) : Int)).getD j 0 = ((card (S t) : Nat) : Int) := by
    rw [List.getD_eq_getElem?_getD, List.getElem?_map]
    show (Option.map _ ([0, 1, 2, 3, 4, 5].filter (S k))[j]?).getD 0 = _
    rw [h3]; rfl
  rw [this]; exact e2
theorem index_sg : ∀ d < 15, ∀ m < 6, Builtin.Str.occurrences (sgs d) (sg d m) 0 (sgs d).length 1 = [m] := by decide +kernel
section
variable {prog : Program} {w : World} {A : Around} {E : Value → Shared → Prop} {s : Shared}
theorem strs_get {α : Type} {f : α → Str} : ∀ {l : List α} {ys : List Value}, StrsAre ys (l.map f) → ∀ {i : Nat} {t : α}, l[i]? = some t → ∃ u, ys[i]? = some (Value.str (f t) u)
  | [], _, _, _, _, h => by simp at h
  | a :: r, [], h, _, _, _ => nomatch h
  | a :: r, y :: ys, h, i, t, hi => by
    obtain ⟨u, e, h2⟩ : ∃ u, y = .str (f a) u ∧ StrsAre ys (r.map f) := by
      cases h
      exact ⟨_, rfl, by assumption⟩
    cases i with
    | zero =>
      simp only [List.getElem?_cons_zero, Option.some.injEq] at hi
      subst hi
      exact ⟨u, by simp [e]⟩
    | succ i =>
      obtain ⟨u', h'⟩ := strs_get h2 (by simpa using hi)
      exact ⟨u', by simpa using h'⟩
theorem six_get : ∀ k < 6, [0, 1, 2, 3, 4, 5][k]? = some k := by decide
theorem told_at {value slice : Expr} {tl : Addr} {ys : List Value} {d kk : Nat} {S : Nat → Nat → Bool} {u : Tok} {Q : Value → Shared → Prop} (hl : s.heap.IsList tl ys.toArray) (hys : StrsAre ys ([0, 1, 2, 3, 4, 5].map fun j => txt d (S j))) (hk : kk < 6) (h : ∀ u, Q (.str (txt d (S kk)) u) s)
    (hs : subscripted slice false (.ref tl) (.int ((kk : Nat) : Int) u) = operate [.ref tl, .int ((kk : Nat) : Int) u] (getItem (.ref tl) (.int ((kk : Nat) : Int) u)) := by with_unfolding_all rfl) (hg : ∀ r, letTemporaryGo value (.ref tl) r = pure () := by intro _; with_unfolding_all rfl) :
    wpAny (model prog w) A (subscriptTail value slice (.ref tl) (.int ((kk : Nat) : Int) u)) Q E s := by
  obtain ⟨u', h'⟩ := strs_get hys (six_get kk hk)
  exact item_list hl (by omega) (by omega) (by simpa using h') (h u') hs hg
theorem str_index {d m : Nat} {t u : Tok} {Q : Value → Shared → Prop} (hd : d < 15) (hm : m < 6) (h : ∀ t', Q (.int ((m : Nat) : Int) t') { s with toks := s.toks + 1 }) : wpAny (model prog w) A (call (.builtin "str.index") [.str (sgs d) t, .str (sg d m) u]) Q E s := by
  refine call_gives F.slot_str_index (typeIs_str _ _ _) F.entry_str_index (F.args_str_index_2 _ _) (gives_str_index (sgs d) (sg d m) t u m [] (index_sg d hd m hm)) ?_
  exact h _
end
section
variable {w : World} {lo : List Str} {mean : ExcName → Option Value} {mg mb : Str → Option Value} {h₀ : Heap} {s : Shared} {dp un : Nat} {fr : Option (List Env)} {gd : Option (List Code)} {Q : Flow → Shared → Prop} {E : Value → Shared → Prop}
  {qual : Str} {body : List Stmt} {scope : Scope} {cdv : Value} {f L al tl : Addr} {m : Str → Option Value} {o1 o2 o3 o4 oal otl : Obj} {ar : List (Nat × Nat)} {tups : List (Addr × Obj)}
theorem kwLi0 : True := by
  k_with_none
  trivial
theorem kwLi1 : True := by
  (k_with "call ref" => refine Mine.Stop.of ?_)
  trivial
theorem kwLi2 : True := by
  (k_with "eval ListComp" => refine Mine.Stop.of ?_)
  trivial
theorem kwLi3 : True := by
  (k_with "call builtin:sorted" => refine Mine.Stop.of ?_)
  trivial
theorem kwLi4 : True := by
  (k_with "compareOp NotEq ref ref" => refine Mine.Stop.of ?_)
  trivial
theorem kwLi5 : True := by
  (k_with "call builtin:str.index" => refine str_index (by with_reducible assumption) (by with_reducible assumption) (fun t' => ?_))
  trivial
theorem kwLi6 : True := by
  (k_with "subscriptTail" => ((with_reducible rename News _ _ _ _ => kN); (refine told_at (LObj.at (by with_reducible assumption) (kN _ (by with_reducible assumption)).1) (by with_reducible assumption) (by with_reducible assumption) (fun u' => ?_))))
  trivial
theorem kwLi7 : True := by
  (k_with "exec For Name Call cons nil" => refine Mine.Stop.of ?_)
  trivial
theorem law_p6 (G₀ : Gnd w lo mean mg mb h₀) {s1 s2 s3 s4 s5 s6 s7 s8 s9 s10 : Stmt} {rest : List Stmt} (H : Law307 w qual scope (s1 :: s2 :: s3 :: s4 :: s5 :: s6 :: s7 :: s8 :: s9 :: s10 :: rest))
    {d : Nat} {ts : Tok} {avs ys : List Value} {S : Nat → Nat → Bool} (F : Fr h₀ L s.heap m) (N : News h₀ L s.heap (LLed L o4 o3 o2 o1 tups)) (hnc : NC tups) (har : ∀ a ∈ ar, a.1 < 6 ∧ a.2 < 6) (hd : d < 15)
    (c4 : o4.data = .cell none) (c3 : o3.data = .cell (some (.ref tl))) (c2 : o2.data = .cell (some (.ref al))) (c1 : o1.data = .cell (some (.str (sgs d) ts))) (hal : (al, oal) ∈ tups) (hoal : LObj oal avs) (hpi : PIn tups avs ar) (htl : (tl, otl) ∈ tups) (hotl : LObj otl ys) (hys : StrsAre ys ([0, 1, 2, 3, 4, 5].map fun j => txt d (S j)))
    (hS : ∀ j < 6, ∀ k < 6, S j k = true ↔ ¬ Rch ar k j) (hdp : dp + 10 < recursionLimit) (hun : un + 100 < cLine)
    (hrest : ∀ (h' : Heap) (tk' : Nat) (m' : Str → Option Value), Fr h₀ L h' m' → News h₀ L h' (LLed L o4 o3 o2 o1 tups) →
      wpAny (model PR w) (AA dp un fr gd) (execs rest (envOfC qual scope L f cdv)) Q (fun _ _ => False) { s with heap := h', toks := tk' }) :
    wpAny (model PR w) (AA dp un fr gd) (execs (s10 :: rest) (envOfC qual scope L f cdv)) Q (fun _ _ => False) s := by
  have H2 : Law307 w _ _ _ := ⟨_, _, _, _, _, _, _, _, _, _, _, _, by k_is⟩
  obtain ⟨rfl, rfl, e⟩ := law307_eq H H2
  injection e with e1 e
  injection e with e2 e
  injection e with e3 e
  injection e with e4 e
  injection e with e5 e
  injection e with e6 e
  injection e with e7 e
  injection e with e8 e
  injection e with e9 e
  injection e with e10 e0
  subst e10 e0
  clear H H2 e1 e2 e3 e4 e5 e6 e7 e8 e9
  have X := G₀.X
  have T := G₀.T
  k_steps
  refine Stop.go (for_walk2 (fun _ => rfl) ?_)
  k_steps
  (with_reducible rename Fr _ _ _ _ => kF); (with_reducible rename News _ _ _ _ => kN)
  generalize s.heap = hq at kF kN ⊢
  have Nt := fun (q : Addr × Obj) (hq : q ∈ tups) => (kN q (.tail _ (.tail _ (.tail _ (.tail _ hq))))).1
  refine Stop.go ?_
  show wpAny (model PR w) (AA dp un fr gd) (call (.ref 302) [.ref al, .int ((6 : Nat) : Int) _]) _ _ _
  refine (reached_c (v := 6) (tv := _) G₀ kF.keep (by omega) (by omega) (hoal.at (Nt _ hal)) (PIn.arr Nt hpi) har fun h1 tk1 D vs ns xe nD hl hI hsnd hall hlen => ?_)
  obtain ⟨oD, goD, hcD, nn, hdD⟩ := hl
  have F2 := xe.fr0 kF
  have N2 := news_fresh kF (xe.news0 kN) nD goD
  clear kF kN
  k_steps
  (with_reducible rename Fr _ _ _ _ => kF); (with_reducible rename News _ _ _ _ => kN)
  have N3 : News h₀ L h1 (LLed L o4 o3 o2 o1 ((D, oD) :: tups)) := fun p hp => kN p (by
    simp only [List.mem_cons] at hp ⊢
    rcases hp with h | h | h | h | h | h
    · exact .inr (.inl h)
    · exact .inr (.inr (.inl h))
    · exact .inr (.inr (.inr (.inl h)))
    · exact .inr (.inr (.inr (.inr (.inl h))))
    · exact .inl h
    · exact .inr (.inr (.inr (.inr (.inr h)))))
  clear kN
  refine ⟨h₀, vs.toArray.size, (fun i v => vs.toArray[i]? = some v), JK L D oD o4 o3 o2 o1 tups, wpAny_mono (ItAt.list (J := JK L D oD o4 o3 o2 o1 tups) rfl kF N3 ⟨rfl⟩ hcD ⟨nn, hdD⟩ ?_) (fun it s₂ h₂ => ItAt.weak h₂ rfl (fun i v hv => hv) fun _ _ => rfl) fun _ _ e => e, ?_, ?_⟩
  · rintro i m₁ news₁ h ⟨rfl⟩ F N
    exact (N _ (.tail _ (.tail _ (.tail _ (.tail _ (.head _)))))).1
  · rintro I i v m₁ news₁ h2 tk2 o hoc hi hiv ⟨rfl⟩ hnI F N
    replace F : Fr h₀ L h2 _ := F
    replace N : News h₀ L h2 _ := N
    obtain ⟨tz, rfl⟩ := hI.int_at i v (by simpa using hiv)
    have hin : i < ns.length := by rw [← hI.length]; simpa using hi
    obtain ⟨k, hk, hrk⟩ := hsnd _ (List.getElem_mem hin)
    rw [List.getD_eq_getElem?_getD, List.getElem?_eq_getElem hin, Option.getD_some, hk]
    have hk6 := hrk.lt har
    refine wpAny_assign_Name ?_
    -- <R
    have htlm : (tl, otl) ∈ (I, o) :: LLed L o4 o3 o2 o1 ((D, oD) :: tups) := .tail _ (.tail _ (.tail _ (.tail _ (.tail _ (.tail _ htl)))))
    clear hI hsnd hall
    k_steps
    refine Stop.go (comp_list (cl := _) (fun _ => true) (FL d S) (by with_unfolding_all rfl) (by decide) rfl (by decide) rfl (fun _ => rfl) ?_)
    k_steps
    (with_reducible rename Fr _ _ _ _ => kF); (with_reducible rename News _ _ _ _ => kN)
    refine CompIter.str rfl kF kN (Nat.le_trans (txt_le (d := d) (f := S k)) (by decide +kernel)) ?_ ?_ ?_
    · intro C i' v' s₃ m₃ hv' F4 N4 hC hm3 k3
      exact no_tests
    · intro C i' v' s₃ m₃ hv' hpv F4 N4 hC hm3 k3
      obtain ⟨mm, ut, _, hmm, rfl⟩ := txt_at hv'
      clear kF kN
      k_steps
      have hle := @txt_le d (S mm)
      have hcl : (txt d (S mm)).length = card (S mm) := txt_len
      refine P.len_str (by omega) ?_
      rw [hcl]
      exact EltPost.go ⟨mm, ut, _, hmm, rfl, rfl⟩ fun b o e => e
    · intro D8 h8 tk8 ys8 vs8 F8 N8 hD8 hpl8 hvl8 hvs8 hF8 k8
      rw [List.filter_eq_self.mpr fun _ _ => rfl] at hF8
      have hI8 := fl_ints hd hvl8 hvs8 hF8
      have hl8 := hpl8.isList
      have hlen8 := hI8.length
      rw [List.length_map] at hlen8
      have h6 : (doms S k).length ≤ 6 := List.length_filter_le _ _
      clear kF kN hvl8 hvs8 hF8 hpl8 k8
      k_steps
      (with_reducible rename Fr _ _ _ _ => kF); (with_reducible rename News _ _ _ _ => kN)
      refine Stop.go (sorted_N kF kN (vs := ys8.toList) (by simpa using hl8) hI8 (by omega) fun h9 vs9 ns9 e9 F9 N9 hI9 hp9 hs9 => ?_)
      have hrow := sizes_sorted har hS hk6 hrk hp9 hs9
      have hlen9 := hp9.length_eq
      rw [List.length_map] at hlen9
      clear kF kN
      k_steps
      (with_reducible rename Fr _ _ _ _ => kF); (with_reducible rename News _ _ _ _ => kN)
      (with_reducible rename IntsAre _ (rangeKs _ _) => hIr)
      have heq : ns9 = rangeKs 1 (((ns9.length : Nat) : Int) + 1 - 1).toNat := by
        refine List.ext_getElem (by rw [rangeKs_length]; omega) fun j h1 h2 => ?_
        rw [hrow j h1]
        simp [rangeKs]
      refine Stop.go (ke_ne_ints (News.isList kN (.tail _ (.head _))) (News.isList kN (.head _)) hI9 hIr (by show un + 64 < cLine; omega) ?_)
      rw [decide_eq_true heq]
      have kN2 : News h₀ L _ ((I, o) :: LLed L o4 o3 o2 o1 ((D, oD) :: tups)) := fun p hp => kN p (.tail _ (.tail _ hp))
      clear kN heq hrow
      k_steps
      (with_reducible rename Fr _ _ _ _ => kF); (with_reducible rename News _ _ _ _ => kN)
      exact TurnR.go kF kN (fun p hp => hnI p hp) ⟨rfl⟩
  · rintro m₁ news₁ h2 tk2 ⟨rfl⟩ F N
    replace F : Fr h₀ L h2 _ := F
    replace N : News h₀ L h2 _ := N
    dsimp only
    exact hrest h2 tk2 m₁ F fun p hp => N p (by
      simp only [List.mem_cons] at hp ⊢
      rcases hp with h | h | h | h | h
      · exact .inl h
      · exact .inr (.inl h)
      · exact .inr (.inr (.inl h))
      · exact .inr (.inr (.inr (.inl h)))
      · exact .inr (.inr (.inr (.inr (.inr h)))))
end
end Mine
end
section
open PySem PySem.W PyProof.Rows PySem.Calls
set_option maxRecDepth 100000
set_option maxHeartbeats 4000000
namespace Mine
theorem fillit28 : (fun (_ : Params → Frag) (_ : OpenLaw) => True) kk.heap_1 PySem.Challenge.rw_wj0075_01 := by k_fill; trivial
/-- a list of the blocks reached without k -/
noncomputable def ZC (ar : List (Nat × Nat)) (k : Nat) (o : Obj) : Prop := ∃ vs ns, LObj o vs ∧ IntsAre vs ns ∧ ∀ j : Nat, ((j : Nat) : Int) ∈ ns ↔ Rch ar k j
/-- the lists of the blocks, in the ledger -/
noncomputable def CIn (tups : List (Addr × Obj)) (ar : List (Nat × Nat)) (cs : List Value) : Prop := cs.length = 6 ∧ ∀ (k : Nat) (v : Value), cs[k]? = some v → ∃ T o, v = .ref T ∧ (T, o) ∈ tups ∧ ZC ar k o
section
variable {w : World} {lo : List Str} {mean : ExcName → Option Value} {mg mb : Str → Option Value} {h₀ : Heap} {s : Shared} {dp un : Nat} {fr : Option (List Env)} {gd : Option (List Code)} {Q : Flow → Shared → Prop} {E : Value → Shared → Prop}
  {qual : Str} {body : List Stmt} {scope : Scope} {cdv : Value} {f L al tl : Addr} {m : Str → Option Value} {o1 o2 o3 o4 oal otl : Obj} {ar : List (Nat × Nat)} {tups : List (Addr × Obj)}
theorem kwLj0 : True := by
  k_with_none
  trivial
theorem kwLj1 : True := by
  (k_with "call ref" => refine Mine.Stop.of ?_)
  trivial
theorem kwLj2 : True := by
  (k_with "eval ListComp" => refine Mine.Stop.of ?_)
  trivial
theorem kwLj3 : True := by
  (k_with "pyIter ref" => refine Mine.Stop.of ?_)
  trivial
theorem kwLj4 : True := by
  (k_with "storeName" => ((with_reducible show wpAny _ _ (storeName _ (Str.ofString "clear") _) _ _ _); refine Mine.Stop.of ?_))
  trivial
theorem law_p7 (G₀ : Gnd w lo mean mg mb h₀) {s1 s2 s3 s4 s5 s6 s7 s8 s9 s10 s11 : Stmt} {rest : List Stmt} (H : Law307 w qual scope (s1 :: s2 :: s3 :: s4 :: s5 :: s6 :: s7 :: s8 :: s9 :: s10 :: s11 :: rest))
    {avs : List Value} (F : Fr h₀ L s.heap m) (N : News h₀ L s.heap (LLed L o4 o3 o2 o1 tups)) (hnc : NC tups) (har : ∀ a ∈ ar, a.1 < 6 ∧ a.2 < 6)
    (c4 : o4.data = .cell none) (c2 : o2.data = .cell (some (.ref al))) (hal : (al, oal) ∈ tups) (hoal : LObj oal avs) (hpi : PIn tups avs ar) (hdp : dp + 10 < recursionLimit) (hun : un + 100 < cLine)
    (hrest : ∀ (h' : Heap) (tk' : Nat) (cl : Addr) (ocl : Obj) (cs : List Value) (tups' : List (Addr × Obj)) (o4' : Obj) (m' : Str → Option Value), Fr h₀ L h' m' → News h₀ L h' (LLed L o4' o3 o2 o1 tups') → (∀ q ∈ tups, q ∈ tups') → (cl, ocl) ∈ tups' → LObj ocl cs → CIn tups' ar cs → o4'.data = .cell (some (.ref cl)) →
      wpAny (model PR w) (AA dp un fr gd) (execs rest (envOfC qual scope L f cdv)) Q (fun _ _ => False) { s with heap := h', toks := tk' }) :
    wpAny (model PR w) (AA dp un fr gd) (execs (s11 :: rest) (envOfC qual scope L f cdv)) Q (fun _ _ => False) s := by
  have H2 : Law307 w _ _ _ := ⟨_, _, _, _, _, _, _, _, _, _, _, _, by k_is⟩
  obtain ⟨rfl, rfl, e⟩ := law307_eq H H2
  injection e with e1 e
  injection e with e2 e
  injection e with e3 e
  injection e with e4 e
  injection e with e5 e
  injection e with e6 e
  injection e with e7 e
  injection e with e8 e
  injection e with e9 e
  injection e with e10 e
  injection e with e11 e0
  subst e11 e0
  clear H H2 e1 e2 e3 e4 e5 e6 e7 e8 e9 e10
  have X := G₀.X
  have T := G₀.T
  k_steps
  refine Stop.go (comp_objs (cl := _) (by with_unfolding_all rfl) (by decide) rfl (by decide) (fun _ => rfl) ?_)
  k_steps
  (with_reducible rename Fr _ _ _ _ => kF); (with_reducible rename News _ _ _ _ => kN)
  refine Stop.go (range_comp (n := 6) (ZC ar) rfl rfl rfl (by assumption) (by decide) (by decide) (by omega) ?_ ?_)
  · intro i t C s₃ m₃ hi hC hm3 hk
    have F4 := kF.keeps hk
    have N4 := kN.grown hk
    clear kF kN
    k_steps
    (with_reducible rename Fr _ _ _ _ => kF); (with_reducible rename News _ _ _ _ => kN)
    refine Stop.go (reached_c (v := i) G₀ kF.keep (by omega) (by omega) (hoal.at (kN _ (List.mem_cons_of_mem _ (List.mem_cons_of_mem _ (List.mem_cons_of_mem _ (List.mem_cons_of_mem _ hal))))).1) (PIn.arr (fun q hq => (kN _ (List.mem_cons_of_mem _ (List.mem_cons_of_mem _ (List.mem_cons_of_mem _ (List.mem_cons_of_mem _ hq))))).1) hpi) har ?_)
    intro h' tk' D vs ns ext fresh hD hI _ hall _
    obtain ⟨oD, get, hc, hd⟩ := hD
    have kp : ∀ b o, s₃.heap.get? b = some o → h'.get? b = some o := fun b o e => ext _ _ e (by simp)
    exact ⟨D, h', tk', oD, m₃, rfl, rfl, fresh, get, ⟨vs, ns, ⟨hc, hd⟩, hI, hall⟩, hC.keeps kp, fun b o _ e => kp b o e⟩
  · intro D h1 tk1 ys hD hpl hsz hX hk
    have F4 := kF.keeps hk
    obtain ⟨tupsC, htC, hyC⟩ := objs_led ys.toList 0 (fun j v e => by rw [Nat.zero_add]; exact hX j v e)
    obtain ⟨n1, g1⟩ := hpl
    have N4 := news_fresh kF (kN.grown hk) hD g1
    have N5 := news_objs (D := D) (J := fun o => ∃ j, ZC ar j o) (news := []) kF News.nil htC
    clear kF kN hX
    have N6 : News h₀ L h1 (LLed L o4 o3 o2 o1 ((D, { cls := .type "list", data := .seq ys n1 }) :: (tups ++ tupsC))) := fun p hp => by
      simp only [List.mem_cons, List.mem_append] at hp
      rcases hp with rfl | rfl | rfl | rfl | rfl | h | h
      · exact N4 _ (.tail _ (.head _))
      · exact N4 _ (.tail _ (.tail _ (.head _)))
      · exact N4 _ (.tail _ (.tail _ (.tail _ (.head _))))
      · exact N4 _ (.tail _ (.tail _ (.tail _ (.tail _ (.head _)))))
      · exact N4 _ (.head _)
      · exact N4 _ (.tail _ (.tail _ (.tail _ (.tail _ (.tail _ h)))))
      · exact N5 p h
    have hnc6 : NC ((D, ({ cls := .type "list", data := .seq ys n1 } : Obj)) :: (tups ++ tupsC)) :=
      NC.cons (by simp) (NC.app hnc fun q hq cv e => by
        obtain ⟨_, vs, ns, ⟨_, n, hd⟩, _⟩ := (htC q hq).2.2
        rw [hd] at e; cases e)
    refine Stop.go (led_store4 F4 N6 hnc6 c4 rfl rfl rfl fun h8 o48 F8 N8 hc8 _ => ?_)
    refine hrest h8 _ D _ ys.toList _ o48 _ F8 N8 (fun q hq => .tail _ (List.mem_append_left _ hq)) (.head _) ⟨rfl, n1, rfl⟩ ⟨by rw [Array.length_toList]; exact hsz, fun j v e => ?_⟩ hc8
    obtain ⟨T, o, a1, a2, a3⟩ := hyC j v e
    rw [Nat.zero_add] at a3
    exact ⟨T, o, a1, .tail _ (List.mem_append_right _ a2), a3⟩
end
end Mine
end
section
open PySem PySem.W PyProof.Rows PySem.Calls
set_option maxRecDepth 100000
set_option maxHeartbeats 2000000
namespace Mine
/-! a list comprehension over a range, its target a cell -/
noncomputable def RAt (n i : Nat) (v : Value) : Prop := i < n ∧ ∃ t, v = .int ((i : Nat) : Int) t
section
variable {prog : Program} {w : World} {A : Around} {E : Value → Shared → Prop} {s s₁ : Shared} {env : Env} {h₀ : Heap} {L : Addr} {m : Str → Option Value} {news : List (Addr × Obj)}

noncomputable def CellRange (prog : Program) (w : World) (A : Around) (env : Env) (elt : Expr) (x : Str) (ifs : List Expr) (scope : Scope) (cl : List (Str × Addr)) (p : Value → Bool) (F : Value → Value → Prop) (h₀ : Heap) (L : Addr) (m : Str → Option Value) (news : List (Addr × Obj)) (n : Nat) (Q : Value → Shared → Prop) (xv : Value) (s₁ : Shared) : Prop :=
  (∃ r t1 t2 t3, xv = .ref r ∧ IsRange s₁.heap r 0 n 1 t1 t2 t3) ∧ Fr h₀ L s₁.heap m ∧ News h₀ L s₁.heap news ∧
  (∀ C i v s₃, RAt n i v → Fr h₀ L s₃.heap m → News h₀ L s₃.heap news → s₃.heap.IsCell (C + 1) (some v) → s₁.heap.get? (C + 1) = none → (∀ b o, s₁.heap.get? b = some o → s₃.heap.get? b = some o) →
      wpAny (model prog w) A (forIn ifs true fun c r => if r = true then do let ok ← isTrue c (compEnvC scope ((x, C + 1) :: cl) C env) (eval c (compEnvC scope ((x, C + 1) :: cl) C env)); pure (ForInStep.yield ok) else pure (ForInStep.yield r)) (TestPost p v s₃) (fun _ _ => False) s₃) ∧
  (∀ C i v s₃, RAt n i v → p v = true → Fr h₀ L s₃.heap m → News h₀ L s₃.heap news → s₃.heap.IsCell (C + 1) (some v) → s₁.heap.get? (C + 1) = none → (∀ b o, s₁.heap.get? b = some o → s₃.heap.get? b = some o) →
      wpAny (model prog w) A (eval elt (compEnvC scope ((x, C + 1) :: cl) C env)) (EltPost F v s₃) (fun _ _ => False) s₃) ∧
  (∀ D h' tk ys (vs : List Value), Fr h₀ L h' m → News h₀ L h' news → s₁.heap.get? D = none → h'.PlainList D ys → vs.length = n → (∀ j v, vs[j]? = some v → RAt n j v) → Paired F (vs.filter p) ys.toList →
      (∀ b o, s₁.heap.get? b = some o → h'.get? b = some o) → Q (.ref D) { s₁ with heap := h', toks := tk })

theorem comp_cellR {elt iter : Expr} {x : Str} {px : Pos} {ifs : List Expr} {scope : Scope} {cl : List (Str × Addr)} {pos : Pos} {Q : Value → Shared → Prop} {n : Nat} (p : Value → Bool) (F : Value → Value → Prop) (hh : A.handled = none) (hy : n ≤ 1000) (hsm : Builtin.Range.small 0 n 1 = true) (hrn : Builtin.Range.rangeSize 0 n 1 = n)
    (hclos : closureFor scope env = pure cl) (hkind : scope.kind = .function) (hnames : ∀ y ∈ scope.names, y.2 = .local → scope.names.lookup y.1 = some .local)
    (hc : ∀ n, cellsFrom n scope.names cl = (x, n) :: cl) (hp : ∀ h, pushCells h scope.names = h.push cellObj) (hxc : (relabel scope env).names.lookup x = some .cell)
    (hs : ∀ x, foldedSetIterable iter env x = pure x)
    (h : wpAny (model prog w) A (eval iter env) (CellRange prog w A env elt x ifs scope cl p F h₀ L m news n Q) E s) :
    wpAny (model prog w) A (eval (.ListComp elt [⟨.Name x px, iter, ifs, 0⟩] scope pos) env) Q E s := by
  refine comp_cellG (P := RAt n) (h₀ := h₀) (L := L) (m := m) (news := news) p F hh hy hclos hkind hnames hc hp hxc hs (wpAny_mono h (fun xv s₁ h₁ => ?_) fun _ _ e => e)
  obtain ⟨⟨r, t1, t2, t3, rfl, hr⟩, rest⟩ := h₁
  refine ⟨fun Q' k => wpAny_pyIter_range hr hsm (k _ (fun i h => IsRangeIter h s₁.heap.objs.size (0 + (i : Nat) * 1) ((n : Int) - (i : Nat)) 1) ?_ ?_), rest⟩
  · have W := Walks.range (prog := prog) (w := w) hh s₁.heap.objs.size 0 1 n
    exact { sub := W.sub, frame := W.frame, done := W.done, self := W.self, item := fun i s Q E hi st hQ => W.item i s Q E hi st fun v h' tk ⟨t, hv⟩ => hQ v h' tk ⟨hi, t, by rw [hv]; simp⟩ }
  · show IsRangeIter _ _ _ _ _
    simpa [hrn] using Heap.get?_push_size _ rfl
end
end Mine
end
section
open PySem PySem.W PyProof.Rows PySem.Calls
set_option maxRecDepth 100000
set_option maxHeartbeats 4000000
namespace Mine
theorem fillit29 : (fun (_ : Params → Frag) (_ : OpenLaw) => True) kk.heap_1 PySem.Challenge.rw_wj0075_01 := by k_fill; trivial
/-- the value's number has a text -/
noncomputable def FI (g : Nat → Str) (v y : Value) : Prop := ∃ t u u', t < 6 ∧ v = .int ((t : Nat) : Int) u ∧ y = .str (g t) u'
noncomputable def pK (f : Nat → Bool) (v : Value) : Bool := match v with
  | .int z _ => f z.toNat
  | _ => false
theorem pK_at {f : Nat → Bool} {i : Nat} {t : Tok} : pK f (.int ((i : Nat) : Int) t) = f i := rfl
theorem fi_strs {g : Nat → Str} (tk : Nat → Tok) : ∀ {ks : List Nat} {ys : List Value}, Paired (FI g) (ks.map fun k => .int ((k : Nat) : Int) (tk k)) ys → StrsAre ys (ks.map g)
  | [], [], _ => .nil
  | [], _ :: _, h => nomatch h
  | k :: r, ys, hp => by
    obtain ⟨y, ys', rfl, ⟨t, u1, u2, ht, e1, e2⟩, hp2⟩ : ∃ y ys', ys = y :: ys' ∧ FI g (.int ((k : Nat) : Int) (tk k)) y ∧ Paired (FI g) (r.map fun k => .int ((k : Nat) : Int) (tk k)) ys' := by
      cases hp
      exact ⟨_, _, rfl, by assumption, by assumption⟩
    have e3 := (Value.int.inj e1).1
    have e4 : k = t := by omega
    subst e4
    subst e2
    exact .cons _ _ (fi_strs tk hp2)
theorem six_ints {vs : List Value} (hl : vs.length = 6) (hP : ∀ j v, vs[j]? = some v → RAt 6 j v) : ∃ tk : Nat → Tok, vs = [0, 1, 2, 3, 4, 5].map fun k => .int ((k : Nat) : Int) (tk k) := by
  obtain ⟨a, b, c, d, e, f, rfl⟩ := list6 hl
  clear hl
  obtain ⟨_, u0, e0⟩ := hP 0 a rfl
  obtain ⟨_, u1, e1⟩ := hP 1 b rfl
  obtain ⟨_, u2, e2⟩ := hP 2 c rfl
  obtain ⟨_, u3, e3⟩ := hP 3 d rfl
  obtain ⟨_, u4, e4⟩ := hP 4 e rfl
  obtain ⟨_, u5, e5⟩ := hP 5 f rfl
  refine ⟨fun k => if k = 0 then u0 else if k = 1 then u1 else if k = 2 then u2 else if k = 3 then u3 else if k = 4 then u4 else u5, ?_⟩
  rw [e0, e1, e2, e3, e4, e5]
  rfl
theorem fi_filter {g : Nat → Str} {f : Nat → Bool} {vs ys : List Value} (hl : vs.length = 6) (hP : ∀ j v, vs[j]? = some v → RAt 6 j v) (hp : Paired (FI g) (vs.filter (pK f)) ys) : StrsAre ys (([0, 1, 2, 3, 4, 5].filter f).map g) := by
  obtain ⟨tk, rfl⟩ := six_ints hl hP
  rw [List.filter_map] at hp
  have e2 : ([0, 1, 2, 3, 4, 5].filter (pK f ∘ fun k => Value.int ((k : Nat) : Int) (tk k))) = [0, 1, 2, 3, 4, 5].filter f := List.filter_congr fun k _ => pK_at
  rw [e2] at hp
  exact fi_strs tk hp
theorem fi_all {g : Nat → Str} {vs ys : List Value} (hl : vs.length = 6) (hP : ∀ j v, vs[j]? = some v → RAt 6 j v) (hp : Paired (FI g) vs ys) : StrsAre ys ([0, 1, 2, 3, 4, 5].map g) := by
  obtain ⟨tk, rfl⟩ := six_ints hl hP
  exact fi_strs tk hp
section
variable {prog : Program} {w : World} {A : Around} {E : Value → Shared → Prop} {s s₁ : Shared} {env : Env} {h₀ : Heap} {L : Addr} {m : Str → Option Value} {news : List (Addr × Obj)}
theorem CompIter.rangeB {elt : Expr} {x : Str} {ifs : List Expr} {scope : Scope} {cl : List (Str × Addr)} {p : Value → Bool} {F : Value → Value → Prop} {Q : Value → Shared → Prop} {r : Addr} {n : Nat} {t u v : Tok}
    (hh : A.handled = none) (Fr₁ : Fr h₀ L s₁.heap m) (N : News h₀ L s₁.heap news) (hr : IsRange s₁.heap r 0 n 1 t u v) (hsm : Builtin.Range.small 0 n 1 = true) (hn : Builtin.Range.rangeSize 0 n 1 = n) (hsz : n ≤ sizeLine)
    (tests : ∀ C (i : Nat) (t : Tok) s₃ m₃, i < n → Fr h₀ L s₃.heap m → News h₀ L s₃.heap news → s₃.heap.Ns C m₃ → m₃ x = some (.int ((i : Nat) : Int) t) → (∀ b o, s₁.heap.get? b = some o → s₃.heap.get? b = some o) →
      wpAny (model prog w) A (forIn ifs true fun c r => if r = true then do let ok ← isTrue c (compEnvC scope cl C env) (eval c (compEnvC scope cl C env)); pure (ForInStep.yield ok) else pure (ForInStep.yield r)) (TestPost p (.int ((i : Nat) : Int) t) s₃) (fun _ _ => False) s₃)
    (elts : ∀ C (i : Nat) (t : Tok) s₃ m₃, i < n → p (.int ((i : Nat) : Int) t) = true → Fr h₀ L s₃.heap m → News h₀ L s₃.heap news → s₃.heap.Ns C m₃ → m₃ x = some (.int ((i : Nat) : Int) t) → (∀ b o, s₁.heap.get? b = some o → s₃.heap.get? b = some o) →
      wpAny (model prog w) A (eval elt (compEnvC scope cl C env)) (EltPost F (.int ((i : Nat) : Int) t) s₃) (fun _ _ => False) s₃)
    (done : ∀ D h' tk ys (vs : List Value), Fr h₀ L h' m → News h₀ L h' news → s₁.heap.get? D = none → h'.PlainList D ys → vs.length = n → (∀ j v, vs[j]? = some v → RAt n j v) → Paired F (vs.filter p) ys.toList →
      (∀ b o, s₁.heap.get? b = some o → h'.get? b = some o) → Q (.ref D) { s₁ with heap := h', toks := tk }) :
    CompIter prog w A env elt x ifs scope cl p F Q E (.ref r) s₁ := by
  refine wpAny_pyIter_range hr hsm ?_
  refine CompAt.push (P := RAt n) (St := fun i h => IsRangeIter h s₁.heap.objs.size (0 + (i : Nat) * 1) ((n : Int) - (i : Nat)) 1) Fr₁ N ?_ hsz ?_ (fun b hb => by rw [List.mem_singleton.mp hb]; exact Nat.le_refl _) ?_ ?_ done
  · have W := Walks.range (prog := prog) (w := w) hh s₁.heap.objs.size 0 1 n
    exact { sub := W.sub, frame := W.frame, done := W.done, self := W.self, item := fun i s Q E hi st hQ => W.item i s Q E hi st fun v h' tk ⟨t, hv⟩ => hQ v h' tk ⟨hi, t, by rw [hv]; simp⟩ }
  · show IsRangeIter _ _ _ _ _
    simpa [hn] using Heap.get?_push_size _ rfl
  · rintro C i v s₃ m₃ ⟨hi, t, rfl⟩
    exact tests C i t s₃ m₃ hi
  · rintro C i v s₃ m₃ ⟨hi, t, rfl⟩
    exact elts C i t s₃ m₃ hi
theorem item_sg {value slice : Expr} {d k : Nat} {t u : Tok} {Q : Value → Shared → Prop} (hd : d < 15) (hk : k < 6) (h : ∀ t', Q (.str (sg d k) t') { s with toks := s.toks + 1 })
    (hs : subscripted slice false (.str (sgs d) t) (.int ((k : Nat) : Int) u) = operate [.str (sgs d) t, .int ((k : Nat) : Int) u] (getItem (.str (sgs d) t) (.int ((k : Nat) : Int) u)) := by with_unfolding_all rfl) (hg : ∀ r, letTemporaryGo value (.str (sgs d) t) r = pure () := by intro _; with_unfolding_all rfl) :
    wpAny (model prog w) A (subscriptTail value slice (.str (sgs d) t) (.int ((k : Nat) : Int) u)) Q E s := by
  refine PyProof.Rows.item_str (fitsSsize_of (N := 9223372036854775808) (by omega) (by omega) (Int.le_refl _)) (by omega) (by show ((k : Nat) : Int) < ((6 : Nat) : Int); omega) (fun _ => ?_) hs hg
  have e : ∀ d < 15, ∀ k < 6, Txt.item (sgs d) ((k : Nat) : Int) = sg d k := by decide +kernel
  rw [e d hd k hk]
  exact h _
theorem join_sg {d : Nat} {f : Nat → Bool} {D : Addr} {t : Tok} {ys : Array Value} {Q : Value → Shared → Prop} (hl : s.heap.IsList D ys) (hy : StrsAre ys.toList (([0, 1, 2, 3, 4, 5].filter f).map (sg d))) (h : ∀ t' k', Q (.str (txt d f) t') { s with toks := k' }) : wpAny (model prog w) A (call (.builtin "str.join") [.str "" t, .ref D]) Q E s := by
  obtain ⟨l, e1, e2⟩ := strsAre_values hy
  have hl' : s.heap.IsList D (strValues l).toArray := by rw [← e1]; simpa using hl
  refine SC.join hl' e2 join_ok ?_
  rw [join_txt]
  exact h
theorem eq_strs {l b : Addr} {ys zs : List Value} {xs : List Str} {Q : Value → Shared → Prop} (hl : s.heap.IsList l ys.toArray) (hb : s.heap.IsList b zs.toArray) (hy : StrsAre ys xs) (hz : StrsAre zs xs) (hu : A.units < cLine) (h : Q (.bool true) s) : wpAny (model prog w) A (compareOp .Eq (.ref l) (.ref b)) Q E s := by
  have el : ys.length = zs.length := by rw [hy.length, hz.length]
  refine SeqAt.eq_listAt (e := fun _ => true) hl hb (by simpa using el) hu (fun j h1 h2 => ?_) ?_
  · have h1' : j < ys.length := by simpa using h1
    have h2' : j < zs.length := by simpa using h2
    obtain ⟨l1, a1, a2⟩ := strsAre_values hy
    obtain ⟨l2, b1, b2⟩ := strsAre_values hz
    subst a1 b1
    have c1 : j < l1.length := by simpa [strValues] using h1'
    have c2 : j < l2.length := by simpa [strValues] using h2'
    have e1 : (strValues l1).toArray[j] = .str l1[j].1 l1[j].2 := by simp [strValues]
    have e2 : (strValues l2).toArray[j] = .str l2[j].1 l2[j].2 := by simp [strValues]
    rw [e1, e2]
    have e3 : l1[j].1 = l2[j].1 := by
      have := a2.trans b2.symm
      have q1 : (l1.map (·.1))[j]? = some l1[j].1 := by simp [c1]
      have q2 : (l2.map (·.1))[j]? = some l2[j].1 := by simp [c2]
      rw [this, q2] at q1
      exact (Option.some.inj q1).symm
    have := SeqAt.EqAt.str_str (A := A.in1) (s := s) l1[j].1 l1[j].2 l2[j].1 l2[j].2
    rw [e3] at this ⊢
    simpa using this
  · have : (List.range ys.toArray.size).all (fun _ => true) = true := by simp
    rw [this]; exact h
end
end Mine
end
section
open PySem PySem.W PyProof.Rows PySem.Calls
set_option maxRecDepth 100000
set_option maxHeartbeats 4000000
namespace Mine
theorem fillit30 : (fun (_ : Params → Frag) (_ : OpenLaw) => True) kk.heap_1 PySem.Challenge.rw_wj0075_01 := by k_fill; trivial
section
variable {w : World} {lo : List Str} {mean : ExcName → Option Value} {mg mb : Str → Option Value} {h₀ : Heap} {s : Shared} {dp un : Nat} {fr : Option (List Env)} {gd : Option (List Code)} {Q : Flow → Shared → Prop} {E : Value → Shared → Prop}
  {qual : Str} {body : List Stmt} {scope : Scope} {cdv : Value} {f L tl cl : Addr} {m : Str → Option Value} {o1 o2 o3 o4 otl ocl : Obj} {ar : List (Nat × Nat)} {tups : List (Addr × Obj)}
theorem kwLl0 : True := by
  k_with_none
  trivial
theorem kwLl1 : True := by
  (k_with "eval ListComp" => refine Mine.Stop.of ?_)
  trivial
theorem kwLl2 : True := by
  (k_with "compareOp Eq ref ref" => refine Mine.Stop.of ?_)
  trivial
theorem kwLl3 : True := by
  (k_with "compareOp NotIn" => refine Mine.Stop.of ?_)
  trivial
theorem kwLl4 : True := by
  (k_with "subscriptTail" => refine Mine.Stop.of ?_)
  trivial
theorem kwLl5 : True := by
  (k_with "call builtin:str.join" => refine Mine.Stop.of ?_)
  trivial
theorem kwLl6 : True := by
  (k_with "subscriptTail Name Name str int" => ((with_reducible show wpAny _ _ (subscriptTail _ _ (Value.str (sgs _) _) (Value.int _ _)) _ _ _); (refine item_sg (by with_reducible assumption) (by with_reducible assumption) (fun t' => ?_))))
  trivial
theorem law_p8 (G₀ : Gnd w lo mean mg mb h₀) {s1 s2 s3 s4 s5 s6 s7 s8 s9 s10 s11 s12 : Stmt} {rest : List Stmt} (H : Law307 w qual scope (s1 :: s2 :: s3 :: s4 :: s5 :: s6 :: s7 :: s8 :: s9 :: s10 :: s11 :: s12 :: rest))
    {d : Nat} {ts : Tok} {S : Nat → Nat → Bool} {cs ys : List Value} (hd : d < 15) (F : Fr h₀ L s.heap m) (N : News h₀ L s.heap (LLed L o4 o3 o2 o1 tups))
    (c4 : o4.data = .cell (some (.ref cl))) (c3 : o3.data = .cell (some (.ref tl))) (c1 : o1.data = .cell (some (.str (sgs d) ts))) (hcl : (cl, ocl) ∈ tups) (hocl : LObj ocl cs) (hcs : CIn tups ar cs) (htl : (tl, otl) ∈ tups) (hotl : LObj otl ys) (hys : StrsAre ys ([0, 1, 2, 3, 4, 5].map fun j => txt d (S j)))
    (hS : ∀ j < 6, ∀ k < 6, S j k = true ↔ ¬ Rch ar k j) (hSj : ∀ j < 6, S j j = true) (hdp : dp + 10 < recursionLimit) (hun : un + 100 < cLine)
    (hret : ∀ (h' : Heap) (tk' : Nat) (m' : Str → Option Value), Fr h₀ L h' m' → Q (.ret (.bool true)) { s with heap := h', toks := tk' }) :
    wpAny (model PR w) (AA dp un fr gd) (execs (s12 :: rest) (envOfC qual scope L f cdv)) Q (fun _ _ => False) s := by
  have H2 : Law307 w _ _ _ := ⟨_, _, _, _, _, _, _, _, _, _, _, _, by k_is⟩
  obtain ⟨rfl, rfl, e⟩ := law307_eq H H2
  injection e with e1 e
  injection e with e2 e
  injection e with e3 e
  injection e with e4 e
  injection e with e5 e
  injection e with e6 e
  injection e with e7 e
  injection e with e8 e
  injection e with e9 e
  injection e with e10 e
  injection e with e11 e
  injection e with e12 e0
  subst e12 e0
  clear H H2 e1 e2 e3 e4 e5 e6 e7 e8 e9 e10 e11
  have X := G₀.X
  have T := G₀.T
  k_steps
  refine Stop.go (comp_cellR (h₀ := h₀) (L := L) (m := m) (news := LLed L o4 o3 o2 o1 tups) (n := 6) (cl := _) (fun _ => true) (FI fun j => txt d (S j)) rfl (by decide) (by decide) rfl (by with_unfolding_all rfl) rfl (by decide) (fun _ => rfl) (fun _ => rfl) rfl (fun _ => rfl) ?_)
  k_steps
  (with_reducible rename Fr _ _ _ _ => kF); (with_reducible rename News _ _ _ _ => kN)
  refine ⟨⟨_, _, _, _, rfl, by assumption⟩, kF, (fun p hp => kN p (by first | exact hp | exact .tail _ hp)), ?_, ?_, ?_⟩
  · intro C i v s₃ hv F4 N4 hCe hC1 k3
    exact no_tests
  · intro C j v s₃ hv hpv F4 N4 hCe hC1 k3
    obtain ⟨hj, tj, rfl⟩ := hv
    obtain ⟨oC, hoC, hdC⟩ := hCe
    have N5 := news_fresh kF N4 hC1 hoC
    clear kF kN N4
    k_steps
    refine Stop.go (comp_list (cl := _) (pK (S j)) (FI (sg d)) (by with_unfolding_all rfl) (by decide) rfl (by decide) rfl (fun _ => rfl) ?_)
    k_steps
    (with_reducible rename Fr _ _ _ _ => kF); (with_reducible rename News _ _ _ _ => kN)
    rename ∀ (b : Addr) (o : Obj), Heap.get? _ b = some o → Heap.get? _ b = some o => kR
    refine CompIter.rangeB (n := 6) rfl kF kN (by assumption) (by decide) (by decide) (by decide) ?_ ?_ ?_
    · intro C' i ti s₄ m₄ hi F6 N6 hC' hm4 k4
      clear kF kN
      refine one_test ?_
      k_steps
      · rename_i hij
        have hij' : i = j := by omega
        subst hij'
        exact ⟨(hSj i hi).symm, _, _, rfl, fun _ _ e => e⟩
      · have hlt : i < cs.length := by rw [hcs.1]; exact hi
        obtain ⟨T1, oT, eT, hT, vsT, nsT, hoT, hIT, hallT⟩ := hcs.2 i _ (List.getElem?_eq_getElem hlt)
        (with_reducible rename Fr _ _ _ _ => kF); (with_reducible rename News _ _ _ _ => kN)
        have gcl := (kN _ (.tail _ (.tail _ (.tail _ (.tail _ (.tail _ hcl)))))).1
        have gT := (kN _ (.tail _ (.tail _ (.tail _ (.tail _ (.tail _ hT)))))).1
        refine Stop.go (item_list (x := .ref T1) (hocl.at gcl) (by omega) (by omega) (by rw [← eT]; simp [hlt]) ?_)
        k_steps
        refine Stop.go (notIn_ints (hoT.at gT) hIT ?_)
        have hb : (!decide (((j : Nat) : Int) ∈ nsT)) = S j i := by
          have h1 := hS j hj i hi
          have h2 := hallT j
          cases q : S j i with
          | true => rw [decide_eq_false fun e => (h1.mp q) (h2.mp e)]; rfl
          | false =>
            have : ((j : Nat) : Int) ∈ nsT := Classical.byContradiction fun e => by
              have := h1.mpr fun r => e (h2.mpr r)
              rw [q] at this; cases this
            rw [decide_eq_true this]; rfl
        rw [hb]
        obtain ⟨bb, hbb⟩ : ∃ bb, S j i = bb := ⟨_, rfl⟩
        rw [hbb]
        cases bb <;> (k_steps; exact ⟨hbb.symm, _, _, rfl, fun _ _ e => e⟩)
    · intro C' i ti s₄ m₄ hi hpv' F6 N6 hC' hm4 k4
      clear kF kN
      k_steps
      exact ⟨⟨i, _, _, hi, rfl, rfl⟩, _, _, rfl, fun _ _ e => e⟩
    · intro D1 h1 tk1 ys1 vs1 F7 N7 hD1 hpl1 hvl1 hvs1 hF1 k1
      have hy1 := fi_filter hvl1 hvs1 hF1
      clear kF kN hvl1 hvs1 hF1
      k_steps
      refine Stop.go (join_sg hpl1.isList hy1 fun t' k' => ?_)
      exact EltPost.go ⟨j, _, _, hj, rfl, rfl⟩ fun b o e => k1 b o (kR b o e)
  · intro D2 h2 tk2 ys2 vs2 F8 N8 hD2 hpl2 hvl2 hvs2 hF2 k2
    rw [List.filter_eq_self.mpr fun _ _ => rfl] at hF2
    have hy2 := fi_all hvl2 hvs2 hF2
    clear kF kN hvl2 hvs2 hF2
    dsimp only
    k_steps
    (with_reducible rename Fr _ _ _ _ => kF); (with_reducible rename News _ _ _ _ => kN)
    have gtl := (kN _ (.tail _ (.tail _ (.tail _ (.tail _ htl))))).1
    have hl2 := hpl2.isList
    refine Stop.go (eq_strs (hotl.at gtl) (zs := ys2.toList) (by simpa using hl2) hys hy2 (by first | (show un < cLine; omega) | (show un + 3 < cLine; omega) | (show un + 2 < cLine; omega) | (show un + 1 < cLine; omega)) ?_)
    k_steps
    exact hret _ _ _ (by assumption)
end
end Mine
end
section
open PySem PySem.W PyProof.Rows PySem.Calls
set_option maxRecDepth 100000
set_option maxHeartbeats 4000000
namespace Mine
theorem fillit22 : (fun (_ : Params → Frag) (_ : OpenLaw) => True) kk.heap_1 PySem.Challenge.rw_wj0075_01 := by k_fill; trivial
noncomputable def WM (sl : Addr) (u : Str → Option Value) (y : Str) : Option Value := if y = "script" then some (.ref sl) else u y
theorem WM.of {h₀ h : Heap} {L : Addr} {m : Str → Option Value} {sl : Addr} (F : Fr h₀ L h m) (hm : m "script" = some (.ref sl)) : Fr h₀ L h (WM sl m) := by
  refine Fr.cong F fun y => ?_
  unfold WM
  split
  · rename_i e; rw [e, hm]
  rfl
section
variable {w : World} {lo : List Str} {mean : ExcName → Option Value} {mg mb : Str → Option Value} {h₀ : Heap} {s : Shared} {dp un : Nat} {fr : Option (List Env)} {gd : Option (List Code)} {Q : Flow → Shared → Prop} {E : Value → Shared → Prop}
  {qual : Str} {body : List Stmt} {scope : Scope} {cdv : Value} {f L sl : Addr} {m : Str → Option Value} {o1 o2 o3 o4 : Obj} {svs : List Value} {ns : List Int}
theorem kwLb0 : True := by
  k_with_none
  trivial
theorem kwLb1 : True := by
  (k_with "execs cons" => ((with_reducible show wpAny _ _ (execs (Stmt.Assign [Expr.Name (Str.ofString "first") _] _ _ :: _) _) _ _ _); refine Mine.Stop.of ?_))
  trivial
theorem kwLb2 : True := by
  (k_with "execs cons" => ((with_reducible show wpAny _ _ (execs (Stmt.Assign [Expr.Name (Str.ofString "arrows") _] _ _ :: _) _) _ _ _); refine Mine.Stop.of ?_))
  trivial
theorem kwLb3 : True := by
  (k_with "last subscriptTail" => ((with_reducible show wpAny _ _ (subscriptTail (PySem.Expr.List _ _) (PySem.Expr.Slice _ _ none _) (Value.ref _) (Value.ref _)) _ _ _); (with_reducible rename Fr _ _ _ _ => kF); (with_reducible rename News _ _ _ _ => kN); (refine slice_ints' kF kN (News.isList kN (.head _)) .none (.int _ _) (.cons _ _ (.cons _ _ (.cons _ _ (.cons _ _ (.cons _ _ (.cons _ _ (.cons _ _ (.cons _ _ (.cons _ _ .nil))))))))) (kmk_from (.cons _ _ (.cons _ _ (.cons _ _ (.cons _ _ (.cons _ _ (.cons _ _ (.cons _ _ (.cons _ _ (.cons _ _ .nil))))))))) (Int.natCast_nonneg _)) (List.length_drop ..) (fun D' ws' h' F' N' hI' => ?_) (by with_unfolding_all rfl) (by kmk_pure) (by show 9 ≤ sizeLine; decide +kernel)); clear kF kN))
  trivial
theorem kwLb4 : True := by
  (k_with "subscriptTail" => ((with_reducible show wpAny _ _ (subscriptTail (PySem.Expr.List _ _) (PySem.Expr.Slice _ _ none _) (Value.ref _) (Value.ref _)) _ _ _); (with_reducible rename Fr _ _ _ _ => kF); (with_reducible rename News _ _ _ _ => kN); (refine slice_ints' kF kN (News.isList kN (.head _)) .none (.int _ _) (.cons _ _ (.cons _ _ (.cons _ _ (.cons _ _ (.cons _ _ (.cons _ _ (.cons _ _ (.cons _ _ (.cons _ _ .nil))))))))) (kmk_from (.cons _ _ (.cons _ _ (.cons _ _ (.cons _ _ (.cons _ _ (.cons _ _ (.cons _ _ (.cons _ _ (.cons _ _ .nil))))))))) (Int.natCast_nonneg _)) (List.length_drop ..) (fun D' ws' h' F' N' hI' => ?_) (by with_unfolding_all rfl) (by kmk_pure) (by show 9 ≤ sizeLine; decide +kernel)); clear kF kN))
  trivial
theorem kwLb5 : True := by
  (k_with "subscriptTail Name Slice ref ref" => ((with_reducible show wpAny _ _ (subscriptTail (PySem.Expr.List _ _) (PySem.Expr.Slice _ _ none _) (Value.ref _) (Value.ref _)) _ _ _); (with_reducible rename Fr _ _ _ _ => kF); (with_reducible rename News _ _ _ _ => kN); (refine slice_ints' kF kN (News.isList kN (.head _)) .none (.int _ _) (.cons _ _ (.cons _ _ (.cons _ _ (.cons _ _ (.cons _ _ (.cons _ _ (.cons _ _ (.cons _ _ (.cons _ _ .nil))))))))) (kmk_from (.cons _ _ (.cons _ _ (.cons _ _ (.cons _ _ (.cons _ _ (.cons _ _ (.cons _ _ (.cons _ _ (.cons _ _ .nil))))))))) (Int.natCast_nonneg _)) (List.length_drop ..) (fun D' ws' h' F' N' hI' => ?_) (by with_unfolding_all rfl) (by kmk_pure) (by show 9 ≤ sizeLine; decide +kernel)); clear kF kN))
  trivial
theorem law_p1 (G₀ : Gnd w lo mean mg mb h₀) {s1 : Stmt} {rest : List Stmt} (H : Law307 w qual scope (s1 :: rest))
    (F : Fr h₀ L s.heap m) (hm : m "script" = some (.ref sl)) (N : News h₀ L s.heap [(L + 1 + 1 + 1 + 1, o4), (L + 1 + 1 + 1, o3), (L + 1 + 1, o2), (L + 1, o1)])
    (hsl : h₀.IsList sl svs.toArray) (hI : IntsAre svs ns) (hns : ns.length ≤ 63) (hlay : PyData.layable0 (.list (ns.map .int)) = true) (hdp : dp + 10 < recursionLimit) (hun : un + 100 < cLine)
    (hrest : ∀ (h' : Heap) (tk' : Nat) (nl : Addr) (nvs : List Value) (nums : List Int) (k : Nat) (m' : Str → Option Value), Fr h₀ L h' m' → m' "numbers" = some (.ref nl) → News h₀ L h' [(L + 1 + 1 + 1 + 1, o4), (L + 1 + 1 + 1, o3), (L + 1 + 1, o2), (L + 1, o1), (nl, W.listOf nvs.toArray k)] → IntsAre nvs nums → nums.length = 9 →
      wpAny (model PR w) (AA dp un fr gd) (execs rest (envOfC qual scope L f cdv)) Q E { s with heap := h', toks := tk' }) :
    wpAny (model PR w) (AA dp un fr gd) (execs (s1 :: rest) (envOfC qual scope L f cdv)) Q E s := by
  have H2 : Law307 w _ _ _ := ⟨_, _, _, _, _, _, _, _, _, _, _, _, by k_is⟩
  obtain ⟨rfl, rfl, e⟩ := law307_eq H H2
  injection e with e1 e2
  subst e1 e2
  clear H H2
  have X := G₀.X
  have T := G₀.T
  have F1 := WM.of F hm
  unfold WM at F1
  clear F hm
  k_steps
  (with_reducible rename Fr _ _ _ _ => kF); (with_reducible rename News _ _ _ _ => kN); (with_reducible rename IntsAre _ (_ ++ _) => hI9)
  have N2 : News h₀ L _ [(L + 1 + 1 + 1 + 1, o4), (L + 1 + 1 + 1, o3), (L + 1 + 1, o2), (L + 1, o1), (_, W.listOf (List.toArray _) 0)] := fun p hp => kN p (by
    simp only [List.mem_cons, List.not_mem_nil, or_false] at hp ⊢
    rcases hp with h | h | h | h | h
    · exact .inr (.inr (.inr (.inr (.inl h))))
    · exact .inr (.inr (.inr (.inr (.inr (.inl h)))))
    · exact .inr (.inr (.inr (.inr (.inr (.inr (.inl h))))))
    · exact .inr (.inr (.inr (.inr (.inr (.inr (.inr h))))))
    · exact .inl h)
  exact Stop.go (hrest _ _ _ _ _ _ _ kF rfl N2 hI9 nums_len)
end
end Mine
end
section
open PySem PySem.W PyProof.Rows PySem.Calls
set_option maxRecDepth 100000
set_option maxHeartbeats 4000000
namespace Mine
theorem fillit24 : (fun (_ : Params → Frag) (_ : OpenLaw) => True) kk.heap_1 PySem.Challenge.rw_wj0075_01 := by k_fill; trivial
noncomputable def NM (nl : Addr) (u : Str → Option Value) (y : Str) : Option Value := if y = "numbers" then some (.ref nl) else u y
theorem NM.of {h₀ h : Heap} {L : Addr} {m : Str → Option Value} {nl : Addr} (F : Fr h₀ L h m) (hm : m "numbers" = some (.ref nl)) : Fr h₀ L h (NM nl m) := by
  refine Fr.cong F fun y => ?_
  unfold NM
  split
  · rename_i e; rw [e, hm]
  rfl
section
variable {w : World} {lo : List Str} {mean : ExcName → Option Value} {mg mb : Str → Option Value} {h₀ : Heap} {s : Shared} {dp un : Nat} {fr : Option (List Env)} {gd : Option (List Code)} {Q : Flow → Shared → Prop} {E : Value → Shared → Prop}
  {qual : Str} {body : List Stmt} {scope : Scope} {cdv : Value} {f L sl : Addr} {m : Str → Option Value} {o1 o2 o3 o4 : Obj} {svs : List Value} {ns : List Int}
theorem kwLd0 : True := by
  k_with_none
  trivial
theorem kwLd1 : True := by
  (k_with "eval ListComp" => refine Mine.Stop.of ?_)
  trivial
theorem kwLd2 : True := by
  (k_with "binaryOp Add ref ref" => refine Mine.Stop.of ?_)
  trivial
theorem kwLd3 : True := by
  (k_with "call type:enumerate" => refine Mine.Stop.of ?_)
  trivial
theorem kwLd4 : True := by
  (k_with "storeName" => ((with_reducible show wpAny _ _ (storeName _ (Str.ofString "arrows") _) _ _ _); refine Mine.Stop.of ?_))
  trivial
theorem kwLd5 : True := by
  (k_with "pyIter ref" => refine Mine.Stop.of ?_)
  trivial
theorem kwLd6 : True := by
  (k_with "eval Tuple" => refine eval_pair ?_)
  trivial
theorem kwLd7 : True := by
  (k_with "subscriptTail Name Slice ref ref" => ((with_reducible rename Fr _ _ _ _ => kF); (with_reducible rename News _ _ _ _ => kN); (refine slice_ints' kF kN (by kmk_list) (by kmk_part) (by kmk_part) (by l_ints) (by kmk_nums) (by kmk_len) (fun D' ws' h' F' N' hI' => ?_) (by with_unfolding_all rfl) (by kmk_pure) (by kmk_size)); clear kF kN))
  trivial
theorem law_p3 (G₀ : Gnd w lo mean mg mb h₀) {s1 s2 s3 s4 : Stmt} {rest : List Stmt} (H : Law307 w qual scope (s1 :: s2 :: s3 :: s4 :: rest))
    {nl : Addr} {nvs : List Value} {nums : List Int} {k : Nat}
    (F : Fr h₀ L s.heap m) (hm : m "numbers" = some (.ref nl)) (N : News h₀ L s.heap [(L + 1 + 1 + 1 + 1, o4), (L + 1 + 1 + 1, o3), (L + 1 + 1, o2), (L + 1, o1), (nl, W.listOf nvs.toArray k)]) (hI : IntsAre nvs nums) (hlen : nums.length = 9)
    (c2 : o2.data = .cell none) (hdp : dp + 10 < recursionLimit) (hun : un + 100 < cLine)
    (hrest : ∀ (h' : Heap) (tk' : Nat) (al : Addr) (oal : Obj) (avs : List Value) (ar : List (Nat × Nat)) (tups : List (Addr × Obj)) (o2' : Obj) (m' : Str → Option Value), (∀ a ∈ ar, a.1 < 6 ∧ a.2 < 6) → ar.length = 8 → Fr h₀ L h' m' → (∀ y : Str, y ≠ Str.ofString "numbers" → m' y = m y) → News h₀ L h' (LLed L o4 o3 o2' o1 tups) → NC tups → (al, oal) ∈ tups → LObj oal avs → PIn tups avs ar → o2'.data = .cell (some (.ref al)) →
      wpAny (model PR w) (AA dp un fr gd) (execs rest (envOfC qual scope L f cdv)) Q (fun _ _ => False) { s with heap := h', toks := tk' }) :
    wpAny (model PR w) (AA dp un fr gd) (execs (s4 :: rest) (envOfC qual scope L f cdv)) Q (fun _ _ => False) s := by
  have H2 : Law307 w _ _ _ := ⟨_, _, _, _, _, _, _, _, _, _, _, _, by k_is⟩
  obtain ⟨rfl, rfl, e⟩ := law307_eq H H2
  injection e with e1 e
  injection e with e2 e
  injection e with e3 e
  injection e with e4 e5
  subst e4 e5
  clear H H2 e1 e2 e3
  have X := G₀.X
  have T := G₀.T
  have F1 := NM.of F hm
  unfold NM at F1
  clear F hm
  k_steps
  refine Stop.go (comp_objs (cl := []) (by with_unfolding_all rfl) (by decide) rfl (by decide) (fun _ => rfl) ?_)
  -- <R
  k_steps
  (with_reducible rename Fr _ _ _ _ => kF); (with_reducible rename News _ _ _ _ => kN)
  (with_reducible rename IntsAre _ (List.take _ _) => hI5)
  have hl5 : (List.take 5 nums).length = 5 := by rw [List.length_take, hlen]; rfl
  refine Stop.go (enum_comp (fun i o => ZP (((nums.take 5).getD i 0).fmod 6).toNat (i + 1) o) rfl rfl rfl rfl (by decide) (News.isList kN (.head _)) hI5 (by rw [hl5]; omega) ?_ ?_)
  · intro i z u t C s₃ m₃ hz hC h1 h2 hk
    have hez : (nums.take 5).getD i 0 = z := by rw [List.getD_eq_getElem?_getD, hz]; rfl
    have hi5 : i < 5 := by
      rcases Nat.lt_or_ge i 5 with q | q
      · exact q
      · rw [List.getElem?_eq_none (by omega)] at hz; cases hz
    rw [hez]
    have F4 := kF.keeps hk
    have N4 := kN.grown hk
    clear kF kN
    k_steps
    exact EltObj.push hC ⟨rfl, 0, _, _, by rw [(fmod6 z).2]; rfl⟩ rfl
  · intro D1 h1 tk1 ys1 hD1 hpl1 hsz1 hX1 hk1
    have F4 := kF.keeps hk1
    obtain ⟨tups1, ht1, hy1⟩ := objs_led ys1.toList 0 (fun j v e => by rw [Nat.zero_add]; exact hX1 j v e)
    obtain ⟨n1, g1⟩ := hpl1
    have N4 : News h₀ L h1 ((D1, { cls := .type "list", data := .seq ys1 n1 }) :: (L + 1 + 1 + 1 + 1, o4) :: (L + 1 + 1 + 1, o3) :: (L + 1 + 1, o2) :: (L + 1, o1) :: (nl, W.listOf nvs.toArray k) :: tups1) :=
      fun p hp => by
        rcases List.mem_cons.mp hp with rfl | hp
        · exact news_fresh kF (kN.grown hk1) hD1 g1 _ (.head _)
        · exact news_objs (D := D1) (J := fun o => ∃ j, ZP (((List.take 5 nums).getD j 0).fmod 6).toNat (j + 1) o) kF (kN.grown hk1) ht1 p (by
            simp only [List.mem_cons, List.mem_append] at hp ⊢
            rcases hp with h | h | h | h | h | h
            · exact .inl (.inr (.inl h))
            · exact .inl (.inr (.inr (.inl h)))
            · exact .inl (.inr (.inr (.inr (.inl h))))
            · exact .inl (.inr (.inr (.inr (.inr (.inl h)))))
            · exact .inl (.inr (.inr (.inr (.inr (.inr (.inl h))))))
            · exact .inr h)
    rw [hl5] at hsz1
    clear kF kN hI5 hX1
    k_steps
    refine Stop.go (comp_objs (cl := []) (by with_unfolding_all rfl) (by decide) rfl (by decide) (fun _ => rfl) ?_)
    k_steps
    (with_reducible rename Fr _ _ _ _ => kF); (with_reducible rename News _ _ _ _ => kN)
    (with_reducible rename IntsAre _ (List.take _ _) => hI3)
    rw [hlen] at hI3
    have hl3 : (List.take (min 8 9 - 5) (List.drop 5 nums)).length = 3 := by rw [List.length_take, List.length_drop, hlen]; rfl
    have hw3 := hI3.length
    refine Stop.go (list_comp (fun i o => ZP (((((List.take (min 8 9 - 5) (List.drop 5 nums)).getD i 0).fdiv 6).fmod 6)).toNat (((List.take (min 8 9 - 5) (List.drop 5 nums)).getD i 0).fmod 6).toNat o) rfl rfl rfl (News.isList kN (.head _)) (by simp; omega) ?_ ?_)
    · intro i v C s₃ m₃ hz hC hv hk
      obtain ⟨u, rfl⟩ := hI3.int_at i v (by simpa using hz)
      generalize (List.take (min 8 9 - 5) (List.drop 5 nums)).getD i 0 = z at hv ⊢
      have F5 := kF.keeps hk
      have N5 := kN.grown hk
      clear kF kN
      k_steps
      exact EltObj.push hC ⟨rfl, 0, _, _, by rw [(fmod6 z).2, (fmod6 (z.fdiv 6)).2]⟩ rfl
    · intro D2 h2 tk2 ys2 hD2 hpl2 hsz2 hX2 hk2
      obtain ⟨tups2, ht2, hy2⟩ := objs_led ys2.toList 0 (fun j v e => by rw [Nat.zero_add]; exact hX2 j v e)
      obtain ⟨n2, g2⟩ := hpl2
      have F6 := kF.keeps hk2
      have N6 := news_fresh kF (kN.grown hk2) hD2 g2
      have Nt2 := news_objs (D := D2) (J := fun _ => True) (news := []) kF News.nil (fun q hq => ⟨(ht2 q hq).1, (ht2 q hq).2.1, trivial⟩)
      have e3 : ys1.toList.length = 5 := by rw [Array.length_toList]; exact hsz1
      have e4 : ys2.toList.length = 3 := by rw [Array.length_toList, hsz2]; simp; omega
      clear kF kN hX2 hk2
      dsimp only
      refine Stop.go (P.add_list (N6 _ (.tail _ (.tail _ (.head _)))).1 (N6 _ (.head _)).1 ?_ (by rw [hsz1, hsz2]; simp; rw [hw3, hl3]; decide +kernel))
      have F7 := F6.push ({ cls := .type "list", data := .seq (ys1 ++ ys2) } : Obj)
      have up : ∀ {p : Addr × Obj}, (h2.get? p.1 = some p.2 ∧ p.1 ≠ L ∧ h₀.get? p.1 = none) → ((h2.push ({ cls := .type "list", data := .seq (ys1 ++ ys2) } : Obj)).get? p.1 = some p.2 ∧ p.1 ≠ L ∧ h₀.get? p.1 = none) := fun x => ⟨Heap.get?_push_of_some _ x.1, x.2⟩
      have Nal := news_fresh F6 (h' := h2.push ({ cls := .type "list", data := .seq (ys1 ++ ys2) } : Obj)) (a := h2.objs.size) News.nil (Heap.get?_none_of_le (Nat.le_refl _)) (Heap.get?_push_size _ rfl)
      have N7 : News h₀ L (h2.push ({ cls := .type "list", data := .seq (ys1 ++ ys2) } : Obj)) (LLed L o4 o3 o2 o1 ((h2.objs.size, { cls := .type "list", data := .seq (ys1 ++ ys2) }) :: (tups1 ++ tups2))) := fun p hp => by
        simp only [List.mem_cons, List.mem_append] at hp
        rcases hp with rfl | rfl | rfl | rfl | rfl | h | h
        · exact up (N6 _ (.tail _ (.tail _ (.tail _ (.head _)))))
        · exact up (N6 _ (.tail _ (.tail _ (.tail _ (.tail _ (.head _))))))
        · exact up (N6 _ (.tail _ (.tail _ (.tail _ (.tail _ (.tail _ (.head _)))))))
        · exact up (N6 _ (.tail _ (.tail _ (.tail _ (.tail _ (.tail _ (.tail _ (.head _))))))))
        · exact Nal _ (.head _)
        · exact up (N6 _ (.tail _ (.tail _ (.tail _ (.tail _ (.tail _ (.tail _ (.tail _ (.tail _ h)))))))))
        · exact up (Nt2 p h)
      have zc : ∀ {a b : Nat} {o : Obj}, ZP a b o → ∀ cv, o.data ≠ .cell cv := fun ⟨_, n, t1, t2, e⟩ cv q => by rw [e] at q; cases q
      have hnc : NC ((h2.objs.size, ({ cls := .type "list", data := .seq (ys1 ++ ys2) } : Obj)) :: (tups1 ++ tups2)) :=
        NC.cons (by simp) (NC.app (fun q hq => let ⟨_, z⟩ := (ht1 q hq).2.2; zc z) (fun q hq => let ⟨_, z⟩ := (ht2 q hq).2.2; zc z))
      refine led_store2 F7 N7 hnc c2 rfl rfl rfl fun h8 o28 F8 N8 hc8 _ => ?_
      refine hrest h8 _ h2.objs.size _ (ys1.toList ++ ys2.toList) (((List.range 5).map fun i => ((((nums.take 5).getD i 0).fmod 6).toNat, i + 1)) ++ ((List.range 3).map fun i => (((((List.take (min 8 9 - 5) (List.drop 5 nums)).getD i 0).fdiv 6).fmod 6).toNat, (((List.take (min 8 9 - 5) (List.drop 5 nums)).getD i 0).fmod 6).toNat))) _ o28 _ (fun a ha => ?_) (by simp) F8 (fun y hy => if_neg hy) N8 hnc (.head _) ⟨rfl, 0, by simp⟩ (PIn.append ⟨by rw [e3]; simp, fun j v e => ?_⟩ ⟨by rw [e4]; simp, fun j v e => ?_⟩) hc8
      · rcases List.mem_append.mp ha with ha | ha
        · obtain ⟨i, hi, rfl⟩ := List.mem_map.mp ha
          have := List.mem_range.mp hi
          exact ⟨(fmod6 _).1, by show i + 1 < 6; omega⟩
        · obtain ⟨i, hi, rfl⟩ := List.mem_map.mp ha
          exact ⟨(fmod6 _).1, (fmod6 _).1⟩
      · obtain ⟨T, o, a1, a2, a3⟩ := hy1 j v e
        have hj : j < 5 := by
          rcases Nat.lt_or_ge j 5 with q | q
          · exact q
          · rw [List.getElem?_eq_none (by omega)] at e; cases e
        rw [Nat.zero_add] at a3
        exact ⟨T, o, _, a1, .tail _ (List.mem_append_left _ a2), by rw [List.getElem?_map, List.getElem?_range hj]; rfl, a3⟩
      · obtain ⟨T, o, a1, a2, a3⟩ := hy2 j v e
        have hj : j < 3 := by
          rcases Nat.lt_or_ge j 3 with q | q
          · exact q
          · rw [List.getElem?_eq_none (by omega)] at e; cases e
        rw [Nat.zero_add] at a3
        exact ⟨T, o, _, a1, .tail _ (List.mem_append_right _ a2), by rw [List.getElem?_map, List.getElem?_range hj]; rfl, a3⟩
end
end Mine
end
section
open PySem PySem.W PyProof.Rows PySem.Calls
set_option maxRecDepth 100000
set_option maxHeartbeats 4000000
namespace Mine
theorem fillit23 : (fun (_ : Params → Frag) (_ : OpenLaw) => True) kk.heap_1 PySem.Challenge.rw_wj0075_01 := by k_fill; trivial
section
variable {w : World} {lo : List Str} {mean : ExcName → Option Value} {mg mb : Str → Option Value} {h₀ : Heap} {s : Shared} {dp un : Nat} {fr : Option (List Env)} {gd : Option (List Code)} {Q : Flow → Shared → Prop} {E : Value → Shared → Prop}
  {qual : Str} {body : List Stmt} {scope : Scope} {cdv : Value} {f L sl : Addr} {m : Str → Option Value} {o1 o2 o3 o4 : Obj} {svs : List Value} {ns : List Int}
theorem kwLc0 : True := by
  k_with_none
  trivial
theorem kwLc1 : True := by
  (k_with "execs cons" => ((with_reducible show wpAny _ _ (execs (Stmt.Assign [Expr.Name (Str.ofString "arrows") _] _ _ :: _) _) _ _ _); refine Mine.Stop.of ?_))
  trivial
theorem law_p2 (G₀ : Gnd w lo mean mg mb h₀) {s1 s2 s3 : Stmt} {rest : List Stmt} (H : Law307 w qual scope (s1 :: s2 :: s3 :: rest))
    {nl : Addr} {nvs : List Value} {nums : List Int} {k : Nat}
    (F : Fr h₀ L s.heap m) (hm : m "numbers" = some (.ref nl)) (N : News h₀ L s.heap [(L + 1 + 1 + 1 + 1, o4), (L + 1 + 1 + 1, o3), (L + 1 + 1, o2), (L + 1, o1), (nl, W.listOf nvs.toArray k)]) (hI : IntsAre nvs nums) (hlen : nums.length = 9)
    (c4 : o4.data = .cell none) (c3 : o3.data = .cell none) (c2 : o2.data = .cell none) (c1 : o1.data = .cell none) (hdp : dp + 10 < recursionLimit) (hun : un + 100 < cLine)
    (hrest : ∀ (h' : Heap) (tk' : Nat) (d : Nat) (ts : Tok) (td : Tok) (o1' : Obj) (m' : Str → Option Value), d < 15 → Fr h₀ L h' m' → m' "numbers" = some (.ref nl) → m' "first" = some (.int ((d : Nat) : Int) td) → News h₀ L h' [(L + 1 + 1 + 1 + 1, o4), (L + 1 + 1 + 1, o3), (L + 1 + 1, o2), (L + 1, o1'), (nl, W.listOf nvs.toArray k)] → o1'.data = .cell (some (.str (sgs d) ts)) →
      wpAny (model PR w) (AA dp un fr gd) (execs rest (envOfC qual scope L f cdv)) Q E { s with heap := h', toks := tk' }) :
    wpAny (model PR w) (AA dp un fr gd) (execs (s2 :: s3 :: rest) (envOfC qual scope L f cdv)) Q E s := by
  have H2 : Law307 w _ _ _ := ⟨_, _, _, _, _, _, _, _, _, _, _, _, by k_is⟩
  obtain ⟨rfl, rfl, e⟩ := law307_eq H H2
  injection e with e1 e
  injection e with e2 e
  injection e with e3 e4
  subst e2 e3 e4
  clear H H2 e1
  have X := G₀.X
  have T := G₀.T
  have F1 := NM.of F hm
  unfold NM at F1
  clear F hm
  k_steps
  (with_reducible rename Fr _ _ _ _ => kF)
  (with_reducible rename News _ _ _ (_ ++ _) => kN)
  (with_reducible rename Obj.data _ = Data.cell (some (Value.str (Txt.slice _ _ _) _)) => hc)
  obtain ⟨d, hd, hde⟩ := fmod15 (nums.getD (Int.toNat 8) 0)
  rw [hde] at hc
  rw [slice15 d hd] at hc
  refine Stop.go (hrest _ _ d _ _ _ _ hd kF rfl (by show some (Value.int _ _) = some (Value.int _ _); rw [hde]) kN hc)
end
end Mine
end
section
open PySem PySem.W PyProof.Rows PySem.Calls
set_option maxRecDepth 100000
set_option maxHeartbeats 4000000
namespace Mine
theorem fillit31 : (fun (_ : Params → Frag) (_ : OpenLaw) => True) kk.heap_1 PySem.Challenge.rw_wj0075_01 := by k_fill; trivial
theorem rch_self {ar : List (Nat × Nat)} {v : Nat} : ¬ Rch ar v v := fun h => h.ne rfl
section
variable {w : World} {lo : List Str} {mean : ExcName → Option Value} {mg mb : Str → Option Value} {h₀ : Heap} {s : Shared} {dp un : Nat} {fr : Option (List Env)} {gd : Option (List Code)} {Q : Flow → Shared → Prop} {E : Value → Shared → Prop}
  {qual : Str} {body : List Stmt} {scope : Scope} {cdv : Value} {f L sl : Addr} {m : Str → Option Value} {o1 o2 o3 o4 : Obj} {svs : List Value} {ns : List Int}
theorem law_body (G₀ : Gnd w lo mean mg mb h₀) (H : Law307 w qual scope body)
    (F : Fr h₀ L s.heap m) (hm : m "script" = some (.ref sl)) (N : News h₀ L s.heap [(L + 1 + 1 + 1 + 1, o4), (L + 1 + 1 + 1, o3), (L + 1 + 1, o2), (L + 1, o1)])
    (c4 : o4.data = .cell none) (c3 : o3.data = .cell none) (c2 : o2.data = .cell none) (c1 : o1.data = .cell none)
    (hsl : h₀.IsList sl svs.toArray) (hI : IntsAre svs ns) (hns : ns.length ≤ 63) (hlay : PyData.layable0 (.list (ns.map .int)) = true) (hdp : dp + 10 < recursionLimit) (hun : un + 100 < cLine)
    (hret : ∀ (h' : Heap) (tk' : Nat) (m' : Str → Option Value), Fr h₀ L h' m' → Q (.ret (.bool true)) { s with heap := h', toks := tk' }) :
    wpAny (model PR w) (AA dp un fr gd) (execs body (envOfC qual scope L f cdv)) Q E s := by
  have H2 : Law307 w _ _ _ := ⟨_, _, _, _, _, _, _, _, _, _, _, _, by k_is⟩
  obtain ⟨rfl, rfl, rfl⟩ := law307_eq H H2
  clear H2
  refine wpAny_mono (E := fun _ _ => False) ?_ (fun _ _ h => h) fun _ _ h => h.elim
  refine law_p1 G₀ H F hm N hsl hI hns hlay hdp hun fun h1 tk1 nl nvs nums k1 m1 F1 hm1 N1 hI1 hlen1 => ?_
  clear hsl hI hns hlay
  refine law_p2 G₀ H F1 hm1 N1 hI1 hlen1 c4 c3 c2 c1 hdp hun fun h2 tk2 d ts td o1' m2 hd F2 hm2 hf2 N2 c1' => ?_
  refine law_p3 G₀ H F2 hm2 N2 hI1 hlen1 c2 hdp hun fun h3 tk3 al oal avs ar tups o2' m3 har hlen F3 hm3 N3 hnc hal hoal hpi c2' => ?_
  refine law_p4 G₀ H F3 ((hm3 _ (by decide)).trans hf2) N3 hnc hal hoal hpi c2' har hlen hd c4 c3 c1' hdp hun fun h4 tk4 rl rv n4 m4 F4 hm4 N4 hv4 hz4 => ?_
  refine law_p5 G₀ H F4 hm4 N4 hnc har hlen hd c3 c1' hv4 hz4 hdp hun fun h5 tk5 tl otl ys S o3' m5 F5 N5 hnc5 hotl hys hS c3' => ?_
  refine law_p6 G₀ H F5 N5 hnc5 har hd c4 c3' c2' c1' (.tail _ hal) hoal (hpi.mono fun q hq => .tail _ hq) (.head _) hotl hys hS hdp hun fun h6 tk6 m6 F6 N6 => ?_
  refine law_p7 G₀ H F6 N6 hnc5 har c4 c2' (.tail _ hal) hoal (hpi.mono fun q hq => .tail _ hq) hdp hun fun h7 tk7 cl ocl cs tups7 o4' m7 F7 N7 sub hcl hocl hcs c4' => ?_
  exact law_p8 G₀ H hd F7 N7 c4' c3' c1' hcl hocl hcs (sub _ (.head _)) hotl hys hS (fun j hj => (hS j hj j hj).mpr rch_self) hdp hun fun h' tk' m' F' => hret h' tk' m' F'
end
end Mine
end
section
open PySem PySem.W PyProof.Rows PySem.Calls
set_option maxRecDepth 100000
set_option maxHeartbeats 8000000
namespace Mine.lawH
theorem tw14090284624843534012 : True := trivial
theorem tw6398945531085243769 : True := trivial
theorem tw14353048836866890021 : True := trivial
theorem tw3271553224750509731 : True := trivial
theorem tw10217321687083819939 : True := trivial
theorem tw7685361624957430202 : True := trivial
theorem tw11074940197844552223 : True := trivial
theorem tw12262082585659903310 : True := trivial
theorem tw2859125769486468442 : True := trivial
theorem tw12729174987974626014 : True := trivial
theorem tw3811198777121239563 : True := trivial
theorem tw1492444528407689476 : True := trivial
theorem tw11950871404684756753 : True := trivial
theorem tw14721257044214282794 : True := trivial
theorem tw4953337641341948112 : True := trivial
theorem tw8178816548226071183 : True := trivial
theorem tw16357152815028423621 : True := trivial
theorem tw5979948276047662898 : True := trivial
theorem tw7785865747805001834 : True := trivial
theorem tw17890464019529152888 : True := trivial
theorem tw8614919965468224481 : True := trivial
theorem tw15676251615231272257 : True := trivial
theorem tw13299780840034381135 : True := trivial
theorem tw4554175222596797930 : True := trivial
theorem tw6534550556941180592 : True := trivial
theorem tw2851743874324075219 : True := trivial
theorem tw15019633746413753686 : True := trivial
theorem tw16888061071585495791 : True := trivial
theorem tw11196713833724734804 : True := trivial
theorem tw3118121709680374861 : True := trivial
theorem tw9488830826541874342 : True := trivial
theorem tw16651584082775643464 : True := trivial
theorem tw14669504949331231211 : True := trivial
theorem tw752270128031308069 : True := trivial
theorem tw3178375446108467176 : True := trivial
theorem tw10687716208873056582 : True := trivial
theorem tw16281730519795438674 : True := trivial
theorem tw7080556609901567450 : True := trivial
theorem tw10313318985520404676 : True := trivial
theorem tw7156294845640945255 : True := trivial
theorem tw15649938692824752211 : True := trivial
theorem tw3995442503209412119 : True := trivial
theorem tw17137597225475010626 : True := trivial
theorem tw7650564300210672290 : True := trivial
theorem tw16941697144791033830 : True := trivial
theorem tw11714985138155181219 : True := trivial
theorem tw418481077513856978 : True := trivial
theorem tw10929301674922058316 : True := trivial
theorem tw13881624106162164467 : True := trivial
theorem tw9102124347156421498 : True := trivial
theorem tw15489662681419770318 : True := trivial
theorem tw12238563012629094826 : True := trivial
theorem tw17614373654043971797 : True := trivial
theorem tw4968396189843920474 : True := trivial
theorem tw14894021185310606194 : True := trivial
theorem tw3903761445891519953 : True := trivial
theorem tw15369807997644412987 : True := trivial
theorem tw1219450739735897734 : True := trivial
theorem tw11209431300006270204 : True := trivial
theorem tw10717481152002297941 : True := trivial
theorem tw1140374999129858669 : True := trivial
theorem tw14581675796584238869 : True := trivial
theorem tw11868858676581029648 : True := trivial
theorem tw16906022408142031687 : True := trivial
theorem tw17116760823028312388 : True := trivial
theorem tw13711048115366733345 : True := trivial
theorem tw9335047310945559721 : True := trivial
theorem tw11351980297195930762 : True := trivial
theorem tw3972650643426560015 : True := trivial
theorem tw6452232002704356630 : True := trivial
theorem tw11057701292044509339 : True := trivial
theorem tw7967245217586025999 : True := trivial
theorem tw4820852207742944601 : True := trivial
theorem tw1932362761607381258 : True := trivial
theorem tw12693320092240205266 : True := trivial
theorem tw13539872913970786223 : True := trivial
theorem tw10486766418424692108 : True := trivial
theorem tw982619746141170158 : True := trivial
theorem tw11089029023858302637 : True := trivial
theorem tw12331540633186537026 : True := trivial
theorem tw9560513593803469212 : True := trivial
theorem tw13381093541262110484 : True := trivial
theorem tw288810725451264584 : True := trivial
theorem tw3400175147167414510 : True := trivial
theorem tw1271147060450403414 : True := trivial
theorem tw7405665835538788709 : True := trivial
theorem tw4287876781695104654 : True := trivial
theorem tw6188773443023806357 : True := trivial
theorem tw14150190521845083604 : True := trivial
theorem tw5949577251061220336 : True := trivial
theorem tw10775012878234414166 : True := trivial
theorem tw4095171984422779013 : True := trivial
theorem tw13191708934460080447 : True := trivial
theorem tw13657893251033388569 : True := trivial
theorem tw653418413461306262 : True := trivial
theorem tw15373864320957532585 : True := trivial
theorem tw5634485189867153931 : True := trivial
theorem tw13496216971267148177 : True := trivial
theorem tw10766061824552486872 : True := trivial
theorem tw4242730636848282007 : True := trivial
theorem tw17483462001559589851 : True := trivial
theorem tw4005149073293146846 : True := trivial
theorem tw14130317904936462304 : True := trivial
theorem tw1099323467295411052 : True := trivial
theorem tw15365639729167428282 : True := trivial
theorem tw1371293955882036017 : True := trivial
theorem tw16025786468270367352 : True := trivial
theorem tw8631020185717317117 : True := trivial
theorem tw763256009710887569 : True := trivial
theorem tw6302957009151895191 : True := trivial
theorem tw13821619039079528497 : True := trivial
theorem tw9541090734208064633 : True := trivial
theorem tw16433304296272854945 : True := trivial
theorem tw7668520562220497142 : True := trivial
theorem tw7498671149718858886 : True := trivial
theorem tw4375310358060269415 : True := trivial
theorem tw8106746126984563195 : True := trivial
theorem tw18189082253730405897 : True := trivial
theorem tw17578424389498899462 : True := trivial
theorem tw8812542874076102254 : True := trivial
theorem tw5702343657282274030 : True := trivial
theorem tw4258622654889996892 : True := trivial
theorem tw3858415484025317284 : True := trivial
theorem tw6628364169398131207 : True := trivial
theorem tw3849371992883083309 : True := trivial
theorem tw3954225493452662659 : True := trivial
theorem tw2668801044147946189 : True := trivial
theorem tw2108108120567354734 : True := trivial
theorem tw1204221215432970083 : True := trivial
theorem tw4868590309645327321 : True := trivial
theorem tw5743265844823016022 : True := trivial
theorem tw11614572089096259972 : True := trivial
theorem tw12073976688653213663 : True := trivial
theorem tw4209057297716759863 : True := trivial
theorem tw4546754603628626161 : True := trivial
theorem tw16534206557496307829 : True := trivial
theorem tw17190221352069881841 : True := trivial
theorem tw127627590893065071 : True := trivial
theorem tw18034085378012487229 : True := trivial
theorem tw1150829006773667108 : True := trivial
theorem tw4412231266364398322 : True := trivial
theorem tw15682692671665894072 : True := trivial
theorem tw17509867957022863191 : True := trivial
theorem tw13398595885084161988 : True := trivial
theorem tw8173381304345103462 : True := trivial
theorem tw2427313280497614281 : True := trivial
theorem tw17342921237366493071 : True := trivial
theorem tw7945356998538304010 : True := trivial
theorem tw15104751284457041681 : True := trivial
theorem tw2861280433080772884 : True := trivial
theorem tw17715078276328402292 : True := trivial
theorem tw5103195750596394526 : True := trivial
theorem tw11652135605957557529 : True := trivial
theorem tw10355600900812299243 : True := trivial
theorem tw14882598938909634057 : True := trivial
theorem tw2401611358872380280 : True := trivial
theorem tw9424171911224280170 : True := trivial
theorem tw13556173037387644026 : True := trivial
theorem tw13369795549618816509 : True := trivial
theorem tw3931825780415213563 : True := trivial
theorem tw1014258975050250708 : True := trivial
theorem tw17359410482798861170 : True := trivial
theorem tw2928581199256062995 : True := trivial
theorem tw6180085502144412518 : True := trivial
theorem tw9899565112563465322 : True := trivial
theorem tw8997153667022404088 : True := trivial
theorem tw1587825686609429104 : True := trivial
theorem tw16876783295093149988 : True := trivial
theorem tw18138248738720094629 : True := trivial
theorem tw10837589449919709754 : True := trivial
theorem tw18075381657737107469 : True := trivial
theorem tw128887204800184932 : True := trivial
theorem tw600762977237223715 : True := trivial
theorem tw173283053208622532 : True := trivial
theorem tw16285776680781734713 : True := trivial
theorem tw16844689584408500620 : True := trivial
theorem tw14520948134385580306 : True := trivial
theorem tw15222177442800768275 : True := trivial
theorem tw5535917750494087994 : True := trivial
theorem tw2327505595561215539 : True := trivial
theorem tw10783353227596390339 : True := trivial
theorem tw8398545437299491445 : True := trivial
theorem tw15946693188931330469 : True := trivial
theorem tw12903814878137007817 : True := trivial
theorem tw4873243510133550761 : True := trivial
theorem tw4441979101792095433 : True := trivial
theorem tw17827126735256787441 : True := trivial
theorem tw13171051641719327681 : True := trivial
theorem tw14915275710186871724 : True := trivial
theorem tw14889850387592061233 : True := trivial
theorem tw1117043249733146182 : True := trivial
theorem tw16836935020747113860 : True := trivial
theorem tw4804524163244673171 : True := trivial
theorem tw5802919779986079653 : True := trivial
theorem tw15682364020709261449 : True := trivial
theorem tw16525907353460840190 : True := trivial
theorem tw4929474017735809795 : True := trivial
theorem tw6843014886832031045 : True := trivial
theorem tw16962170491301314201 : True := trivial
theorem tw4295317378465367221 : True := trivial
theorem tw823959518419377679 : True := trivial
theorem tw14568414382796266347 : True := trivial
theorem tw501193037579359448 : True := trivial
theorem tw1777210664408990554 : True := trivial
theorem tw5267315850101766070 : True := trivial
theorem tw10133218030934143330 : True := trivial
theorem tw11365047117472477572 : True := trivial
theorem tw14813610965814594526 : True := trivial
theorem tw9496766459150716479 : True := trivial
theorem tw2784062046129305683 : True := trivial
theorem tw5022040614290685736 : True := trivial
theorem tw8934356973470519482 : True := trivial
theorem tw12857691678392703744 : True := trivial
theorem tw6584188174213558241 : True := trivial
theorem tw15276915873080980806 : True := trivial
theorem tw3707946397141810513 : True := trivial
theorem tw11201798262106588658 : True := trivial
theorem tw566429136286561263 : True := trivial
theorem tw4541798468078449271 : True := trivial
theorem tw11435729926521555439 : True := trivial
theorem tw9311163878140712550 : True := trivial
theorem tw9305905042478810626 : True := trivial
theorem tw17292817023610088048 : True := trivial
theorem tw13163803363510926993 : True := trivial
theorem tw12445018755553397278 : True := trivial
theorem tw9331292038218573891 : True := trivial
theorem tw400125932502882345 : True := trivial
theorem tw15918139933196095171 : True := trivial
theorem tw1174044522720120661 : True := trivial
theorem tw601475574025220072 : True := trivial
theorem tw3225465760359385415 : True := trivial
theorem tw12082447294623039027 : True := trivial
theorem tw17951461854439097308 : True := trivial
theorem tw8301141385277826270 : True := trivial
theorem tw8436980212600047998 : True := trivial
theorem tw5377405959762561480 : True := trivial
theorem tw9141994550815184319 : True := trivial
theorem tw9822346884053259671 : True := trivial
theorem tw18140838133875336671 : True := trivial
theorem tw9926094297564043947 : True := trivial
theorem tw17465576513604048153 : True := trivial
theorem tw16572566756597798337 : True := trivial
theorem tw18054872450630386327 : True := trivial
theorem tw10644094839053458315 : True := trivial
theorem tw13079391327901476036 : True := trivial
theorem tw11702778055724896252 : True := trivial
theorem tw13017522985921538816 : True := trivial
theorem tw14534746853940403881 : True := trivial
theorem tw4121124751638855627 : True := trivial
theorem tw11885384086744412876 : True := trivial
theorem tw2351059875128720268 : True := trivial
theorem tw1797668566539399104 : True := trivial
theorem tw1214672634778400877 : True := trivial
theorem tw7399935721040138665 : True := trivial
theorem tw4602727925829263908 : True := trivial
theorem tw1739476842014864631 : True := trivial
theorem tw8405248294107867721 : True := trivial
theorem tw13593795907543835879 : True := trivial
theorem tw9841394139681870574 : True := trivial
theorem tw4941413761771944390 : True := trivial
theorem tw11851825724443130088 : True := trivial
theorem tw161467364142198074 : True := trivial
theorem tw10633258891480592628 : True := trivial
theorem tw12512333681561758369 : True := trivial
theorem tw7485276622215059975 : True := trivial
theorem tw2957860322376385218 : True := trivial
theorem tw10791288413016411484 : True := trivial
theorem tw7243448795864986711 : True := trivial
theorem tw3846228653418512936 : True := trivial
theorem tw316675926506233923 : True := trivial
theorem tw11171096242406625281 : True := trivial
theorem tw17240359576618018216 : True := trivial
theorem tw994915433076900757 : True := trivial
theorem tw7472735306161845150 : True := trivial
theorem tw2474961088169899952 : True := trivial
theorem tw7155887222039758184 : True := trivial
theorem tw17133701423405277389 : True := trivial
theorem tw11325662405537088965 : True := trivial
theorem tw9229056772032785459 : True := trivial
theorem tw13679560944751501400 : True := trivial
theorem tw11461910244385230312 : True := trivial
theorem tw6228240388193403126 : True := trivial
theorem tw12732085167048488067 : True := trivial
theorem tw12360312840132647551 : True := trivial
theorem tw3998218737344099607 : True := trivial
theorem tw457964298338401978 : True := trivial
theorem tw1560261789097322938 : True := trivial
theorem tw3341585908043880151 : True := trivial
theorem tw13924512905678647677 : True := trivial
theorem tw536769775460730260 : True := trivial
theorem tw2826251761655909327 : True := trivial
theorem tw11522313278745269476 : True := trivial
theorem tw1445487389603083331 : True := trivial
theorem tw16850917624920642303 : True := trivial
theorem tw4218586366777994947 : True := trivial
theorem tw17662230222473722708 : True := trivial
theorem tw10197970858643830133 : True := trivial
theorem tw2381563488068826391 : True := trivial
theorem tw2801467471051879081 : True := trivial
theorem tw2519251100195004444 : True := trivial
theorem tw16480909598034674640 : True := trivial
theorem tw2236115205716604311 : True := trivial
theorem tw17932986425129213534 : True := trivial
theorem tw11995603203590480300 : True := trivial
theorem tw16389582911768347837 : True := trivial
theorem tw991831955348905426 : True := trivial
theorem tw9128164754126661002 : True := trivial
theorem tw1826563094061812427 : True := trivial
theorem tw13954049355104914173 : True := trivial
theorem tw3036048372242039775 : True := trivial
theorem tw11293375116776943821 : True := trivial
theorem tw2774907409677646960 : True := trivial
theorem tw5591692297823144922 : True := trivial
theorem tw239852757091240064 : True := trivial
theorem tw14110425259532264087 : True := trivial
theorem tw13608811894716989536 : True := trivial
theorem tw8244061061371303894 : True := trivial
theorem tw5880627323355820449 : True := trivial
theorem tw18168720080143289397 : True := trivial
theorem tw3729439517472018560 : True := trivial
theorem tw4056960312805423640 : True := trivial
theorem tw13213471896581033111 : True := trivial
theorem tw651977373649507906 : True := trivial
theorem tw5136606156484979678 : True := trivial
theorem tw9718322105423130318 : True := trivial
theorem tw15428604865328775791 : True := trivial
theorem tw9116734504236170008 : True := trivial
theorem tw15477866227821049165 : True := trivial
theorem tw12596784816245279920 : True := trivial
theorem tw12894710888769735261 : True := trivial
theorem tw10116216065947608094 : True := trivial
theorem tw16834376501933842035 : True := trivial
theorem tw2599411299566427053 : True := trivial
theorem tw2485419918094008393 : True := trivial
theorem tw8925918359639296976 : True := trivial
theorem tw453384663345410835 : True := trivial
theorem tw9574076257590505170 : True := trivial
theorem tw2637192890630014382 : True := trivial
theorem tw2375151214403738501 : True := trivial
theorem tw15402328494646149949 : True := trivial
theorem tw13107691336320629928 : True := trivial
theorem tw13080202703613253930 : True := trivial
theorem tw14002711764606430140 : True := trivial
theorem tw14007924205901598723 : True := trivial
theorem tw11085852791721984367 : True := trivial
theorem tw3789217280564662606 : True := trivial
theorem tw13799166250892704813 : True := trivial
theorem tw16218276708001160870 : True := trivial
theorem tw5127368369992301487 : True := trivial
theorem tw6252464897092412291 : True := trivial
theorem tw7009710863392854572 : True := trivial
theorem tw13578239953381313795 : True := trivial
theorem tw8332845882383914737 : True := trivial
theorem tw2646081653248217182 : True := trivial
theorem tw5283747551548388854 : True := trivial
theorem tw16247867257647717526 : True := trivial
theorem tw12435437045786945189 : True := trivial
theorem tw13429230142761981995 : True := trivial
theorem tw1092411592638212975 : True := trivial
theorem tw12728826635206845083 : True := trivial
theorem tw7471533780222725300 : True := trivial
theorem tw3532892696659391089 : True := trivial
theorem tw3194835944561035207 : True := trivial
theorem tw2472862223292975958 : True := trivial
theorem tw5836241214960645861 : True := trivial
theorem tw11834760851272748283 : True := trivial
theorem tw4056213404976375597 : True := trivial
theorem tw17122674128835678731 : True := trivial
theorem tw7882374573199512068 : True := trivial
theorem tw1796572563000231022 : True := trivial
theorem tw14712434460844103982 : True := trivial
theorem tw8962663288114432949 : True := trivial
theorem tw17660194982211619674 : True := trivial
theorem tw9518957164230427130 : True := trivial
theorem tw4293214137728866367 : True := trivial
theorem tw18406397455211729553 : True := trivial
theorem tw6472883392073608775 : True := trivial
theorem tw10777078396024603625 : True := trivial
theorem tw14567521413772819404 : True := trivial
theorem tw12059496510296548557 : True := trivial
theorem tw11048829478385321783 : True := trivial
theorem tw15257008252348709529 : True := trivial
theorem tw8946107889559283755 : True := trivial
theorem tw2007365699026744282 : True := trivial
theorem tw17210959281697739981 : True := trivial
theorem tw10272065200599009039 : True := trivial
theorem tw6375256801860118479 : True := trivial
theorem tw16687394150844881594 : True := trivial
theorem tw13272537175657478051 : True := trivial
theorem tw1878070133115992272 : True := trivial
theorem tw5847856518377117490 : True := trivial
theorem tw9825972469878260886 : True := trivial
theorem tw17874955480275173479 : True := trivial
theorem tw8048869647280815517 : True := trivial
theorem tw1801569667152919713 : True := trivial
theorem tw3712307294845792487 : True := trivial
theorem tw1662475067833801892 : True := trivial
theorem tw13655327853579417045 : True := trivial
theorem tw563668473993603746 : True := trivial
theorem tw1258321189644757466 : True := trivial
theorem tw9615057268890986004 : True := trivial
theorem tw13728408572186165845 : True := trivial
theorem tw4910720753020938233 : True := trivial
theorem tw14191632664086508459 : True := trivial
theorem tw18259393697067582908 : True := trivial
theorem tw9755163173893449852 : True := trivial
theorem tw11814014066324936017 : True := trivial
theorem tw13210878801121585933 : True := trivial
theorem tw4801875536407097771 : True := trivial
theorem tw6764509276957799723 : True := trivial
theorem tw8740773333169521059 : True := trivial
theorem tw15245509211814298072 : True := trivial
theorem tw5630803410078351476 : True := trivial
theorem tw10896271914397049700 : True := trivial
theorem tw12586613360250132377 : True := trivial
theorem tw4030685946390865055 : True := trivial
theorem tw3616230068127319622 : True := trivial
theorem tw8956373168698013581 : True := trivial
theorem tw6384983351360460252 : True := trivial
theorem tw15541848543191083633 : True := trivial
theorem tw421266870099165390 : True := trivial
theorem tw15391020493494970374 : True := trivial
theorem tw6114401710086431633 : True := trivial
theorem tw2840831733234403875 : True := trivial
theorem tw4054006190008121991 : True := trivial
theorem tw4166104555760305641 : True := trivial
theorem tw12446368241181669589 : True := trivial
theorem tw8725417499567520824 : True := trivial
theorem tw882073588050472523 : True := trivial
theorem tw13888251717736410195 : True := trivial
theorem tw16883842416475802093 : True := trivial
theorem tw14985623897067107432 : True := trivial
theorem tw8239370926776343824 : True := trivial
theorem tw9298046675612603103 : True := trivial
end Mine.lawH
namespace Mine
theorem fillit32 : (fun (_ : Params → Frag) (_ : OpenLaw) => True) kk.heap_1 PySem.Challenge.rw_wj0075_01 := by k_fill; trivial
set_option Elab.async true in
theorem lawH : PySem.Challenge.rw_wj0075_01.Holds := by
  w_on
  o_law
  o_head (kHook kk.heap_1 [2, 3, 32, 34, 35, 37, 38, 39, 42, 44, 45, 47, 48, 49, 51, 52, 54, 55, 56, 59, 64, 65, 66, 68, 69, 71, 72, 73, 75, 76, 78, 79, 80, 81, 83, 84, 86, 87, 88, 89, 91, 92, 94, 95, 96, 98, 99, 101, 102, 103, 105, 106, 108, 109, 110, 111, 113, 114, 116, 117, 118, 120, 121, 123, 124, 125, 126, 128, 129, 131, 132, 133, 134, 135, 136, 137, 143, 144, 148, 149, 153, 154, 155, 156, 158, 159, 161, 162, 170, 171, 173, 174, 176, 177, 178, 180, 181, 183, 184, 185, 187, 188, 190, 191, 192, 194, 195, 197, 198, 199, 202, 203, 204, 206, 207, 209, 210, 211, 213, 214, 216, 217, 218, 221, 222, 223, 224, 226, 227, 229, 230, 231, 234, 235, 236, 239, 240, 241, 243, 244, 246, 247, 248, 250, 251, 253, 254, 255, 258, 259, 260, 262, 263, 265, 266, 267, 269, 270, 272, 273, 274, 276, 277, 279, 280, 281, 282, 283, 284, 285, 288, 291, 292, 293, 296, 297, 298, 301, 302, 303, 306, 307] (fun _ => by kernel_rfl))
  (case hw => w_witness2)
  k_go0
  all_goals try k_fold
  (with_reducible rename Fr _ _ _ _ => kF); (with_reducible rename News _ _ _ _ => kN); (with_reducible rename Top _ _ _ _ _ _ => kT); (with_reducible rename Frag.In _ _ => kX); (with_reducible rename IntsAre _ _ => kI); (with_reducible rename Heap.IsList _ _ _ => kL)
  refine law_body ⟨kX, kT⟩ ⟨_, _, _, _, _, _, _, _, _, _, _, _, by k_is⟩ kF (by rfl) kN (by assumption) (by assumption) (by assumption) (by assumption) kL kI (by omega) (by with_reducible assumption) (by decide +kernel) (by decide +kernel) ?_
  intro h' tk' m' F'
  clear kF kN
  k_steps
  all_goals (try k_data)
  all_goals w_report
end Mine
end
theorem PySem.Challenge.cw_wj0075_01_holds : PySem.Challenge.rw_wj0075_01.Holds := by
  exact Mine.lawH
