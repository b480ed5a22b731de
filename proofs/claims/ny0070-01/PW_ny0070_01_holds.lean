import PyProof.Rows.All
import Wide.All
import OpenK.AllK
import Wide.FinOn
import PySem.Challenge.RW_ny0070_01
open PySem PySem.W PyProof.Rows PySem.Calls
set_option Elab.async false
set_option rowWalk.seconds 0
namespace Mine
section
set_option maxRecDepth 100000
set_option maxHeartbeats 8000000
open_top hd for PySem.Challenge.rw_ny0070_01
end
section
set_option maxRecDepth 100000

noncomputable abbrev AA (d u : Nat) : Around := { handled := none, depth := d, frames := none, guards := none, units := u }
noncomputable def Ext (h h' : Heap) : Prop := ∀ b o, h.get? b = some o → h'.get? b = some o
/-- takes the goal out of sight while hypotheses are taken apart (the proof stays small) -/
theorem hideG {P : Prop} (h : ∀ G : Prop, (P → G) → G) : P := h P id
theorem Ext.refl (h : Heap) : Ext h h := fun _ _ e => e
theorem Ext.trans {a b c : Heap} (x : Ext a b) (y : Ext b c) : Ext a c := fun p o e => y p o (x p o e)

theorem codeAny_weak {M : Model} {A A' : Around} {c : Code} {R : Result → Shared → Prop} {s : Shared} (h : codeAny M A c R s) (h1 : A'.handled = A.handled := by rfl)
    (h2 : A'.depth ≤ A.depth := by exact Nat.le_of_ble_eq_true rfl) (hf : A.frames = none := by rfl) (hg : A.guards = none := by rfl) (h4 : A'.units ≤ A.units := by exact Nat.le_of_ble_eq_true rfl) : codeAny M A' c R s :=
  fun Γ p hc hB => h Γ p hc ⟨hB.1.trans h1, Nat.le_trans hB.2.1 h2, (fun l hl => by rw [hf] at hl; cases hl), (fun l hl => by rw [hg] at hl; cases hl), Nat.le_trans hB.2.2.2.2 h4⟩
theorem wpAny_weak {α : Type} {M : Model} {A A' : Around} {t : Sem α} {Q : α → Shared → Prop} {E : Value → Shared → Prop} {s : Shared} (h : wpAny M A t Q E s) (h1 : A'.handled = A.handled := by rfl)
    (h2 : A'.depth ≤ A.depth := by exact Nat.le_of_ble_eq_true rfl) (hf : A.frames = none := by rfl) (hg : A.guards = none := by rfl) (h4 : A'.units ≤ A.units := by exact Nat.le_of_ble_eq_true rfl) : wpAny M A' t Q E s :=
  fun Γ p hB => h Γ p ⟨hB.1.trans h1, Nat.le_trans hB.2.1 h2, (fun l hl => by rw [hf] at hl; cases hl), (fun l hl => by rw [hg] at hl; cases hl), Nat.le_trans hB.2.2.2.2 h4⟩

section
variable {prog : Program} {w : World} {A : Around} {s : Shared} {h₀ : Heap} {L : Addr} {m : Str → Option Value} {news : List (Addr × Obj)} {K : Frag} {p : Program} {loose : List Str} {mean : ExcName → Option Value} {mg mb : Str → Option Value}
    {R : Result → Shared → Prop} {name qual : Str} {params : Arguments} {body : List Stmt} {scope : Scope} {dV kV doc pm cdv ct oc : Value} {an od : Option Addr} {osl : Array (Option Value)} {f : Addr} {args : Args} {binds : List (Str × Value)}

/-- a def called inside a frame, walked inline; no frames below are asked for -/
theorem code_def0 (F : Fr h₀ L s.heap m) (X₀ : K.In h₀) (N : News h₀ L s.heap news) (T : Top p loose mean mg mb h₀)
    (ho : K.lookup f = some ⟨oc, od, .func (fnOf name qual params body scope dV kV doc pm an cdv ct), osl⟩) (hcd : codeIn K cdv qual = true) (hroom : A.depth < recursionLimit)
    (hbind : BindsTo s (fnOf name qual params body scope dV kV doc pm an cdv ct) args binds) (hloc : ∀ y ∈ binds, scope.names.lookup y.1 = some .local)
    (h : ∀ g L' h₁, Fr g L' h₁ (fun y => binds.reverse.lookup y) → News g L' h₁ news → K.In g → Top p loose mean mg mb g → Ext h₀ g →
      wpAny (model prog w) (A.deeper (envOf qual scope L' f cdv)) (execs body (envOf qual scope L' f cdv))
        (fun fl s' => LeaveK h₀ L m g R (match fl with | .ret v => v | _ => .none) s')
        (fun _ _ => False)
        { s with heap := h₁, toks := s.toks + binds.length })
    (hco : scope.isCoroutine = false) (hgen : scope.isGenerator = false) (hk : scope.kind = .function)
    (hcell : ∀ x ∈ scope.names, x.2 ≠ .cell) : codeAny (model prog w) A (.call (.ref f) args) R s := by
  have X : K.In s.heap := X₀.keeps F.keep
  refine codeAny_call_def (fd := fnOf name qual params body scope dV kV doc pm an cdv ct) (body := body) (binds := binds) hroom (X _ _ ho) rfl (T.nolimit.keeps F.keep) (codeRec_of X hcd) rfl hbind hcell hloc (fun h₁ hns hk₁ => ?_) hco hgen hk
  have nm : ∀ b o, h₀.get? b = some o → b ∉ news.map (·.1) := fun b o e q => by
    obtain ⟨p, hp, rfl⟩ := List.mem_map.mp q
    rw [(N p hp).2.2] at e; cases e
  have st : h₀.StaysIn (hideAll s.heap (news.map (·.1))) := fun b o e => hideAll_get _ (F.keep b o e) (nm b o e)
  obtain ⟨oL, es, ep, hL, hLd, hLk, hLf⟩ := F.ns
  have nL : L ∉ news.map (·.1) := fun q => by
    obtain ⟨p, hp, e⟩ := List.mem_map.mp q
    exact (N p hp).2.1 e
  have hLg := hideAll_get (news.map (·.1)) hL nL
  refine wpAny_mono (h _ s.heap.objs.size h₁ ⟨hns, fun b o e => hk₁ b o (of_hideAll _ e), Nat.le_of_eq (hideAll_size _ _)⟩
    (fun p hp => ⟨hk₁ _ _ (N p hp).1, Nat.ne_of_lt (Heap.lt_size (N p hp).1), hideAll_none _ (List.mem_map_of_mem hp)⟩) (X₀.keeps st) (T.keeps st) st) (fun fl s' hl => ?_) fun _ _ y => y.elim
  obtain ⟨L', m', news', F', N', k⟩ := hl
  refine k ⟨⟨oL, es, ep, F'.keep L oL hLg, hLd, hLk, hLf⟩, fun b o e => F'.keep b o (st b o e), F.above⟩ fun p hp => ⟨(N' p hp).1, fun q => ?_, ?_⟩
  · have := (N' p hp).2.2; rw [q, hLg] at this; cases this
  · cases q : h₀.get? p.1 with
    | none => rfl
    | some o => have := (N' p hp).2.2; rw [st _ _ q] at this; cases this

/-- a def entered with nothing that may change: all that stands is the ground -/
theorem enter0 (X : K.In s.heap) (T : Top p loose mean mg mb s.heap)
    (ho : K.lookup f = some ⟨oc, od, .func (fnOf name qual params body scope dV kV doc pm an cdv ct), osl⟩) (hcd : codeIn K cdv qual = true) (hroom : A.depth < recursionLimit)
    (hbind : BindsTo s (fnOf name qual params body scope dV kV doc pm an cdv ct) args binds) (hloc : ∀ y ∈ binds, scope.names.lookup y.1 = some .local)
    (h : ∀ L' h₁, Fr s.heap L' h₁ (fun y => binds.reverse.lookup y) → News s.heap L' h₁ [] →
      wpAny (model prog w) (A.deeper (envOf qual scope L' f cdv)) (execs body (envOf qual scope L' f cdv))
        (fun fl s' => R (.ok (.ret (match fl with | .ret v => v | _ => .none))) s')
        (fun _ _ => False)
        { s with heap := h₁, toks := s.toks + binds.length })
    (hco : scope.isCoroutine = false) (hgen : scope.isGenerator = false) (hk : scope.kind = .function)
    (hcell : ∀ x ∈ scope.names, x.2 ≠ .cell) : codeAny (model prog w) A (.call (.ref f) args) R s := by
  refine codeAny_call_def (fd := fnOf name qual params body scope dV kV doc pm an cdv ct) (body := body) (binds := binds) hroom (X _ _ ho) rfl T.nolimit (codeRec_of X hcd) rfl hbind hcell hloc (fun h₁ hns hk₁ => ?_) hco hgen hk
  exact wpAny_mono (h s.heap.objs.size h₁ ⟨hns, hk₁, Nat.le_refl _⟩ News.nil) (fun fl s' hl => hl) fun _ _ y => y.elim

/-- what a contract says of a call: a value, what it made, all that stood is as it was -/
noncomputable def Back (s : Shared) (P : Value → List (Addr × Obj) → Prop) (r : Result) (s' : Shared) : Prop :=
  ∃ v fresh h' tk', r = .ok (.ret v) ∧ s' = { s with heap := h', toks := tk' } ∧ Ext s.heap h' ∧ (∀ p ∈ fresh, h'.get? p.1 = some p.2 ∧ s.heap.get? p.1 = none) ∧ P v fresh

theorem back_of {P : Value → List (Addr × Obj) → Prop} {v : Value} {h' : Heap} {tk' : Nat} {L' : Addr} {m' : Str → Option Value} {news' fresh : List (Addr × Obj)} (F : Fr s.heap L' h' m') (N : News s.heap L' h' news')
    (hsub : ∀ p ∈ fresh, p ∈ news') (hP : P v fresh) : Back s P (.ok (.ret v)) { s with heap := h', toks := tk' } :=
  ⟨v, fresh, h', tk', rfl, rfl, F.keep, fun p hp => ⟨(N p (hsub p hp)).1, (N p (hsub p hp)).2.2⟩, hP⟩

theorem Fr.ext {h h' : Heap} (F : Fr h₀ L h m) (e : Ext h h') : Fr h₀ L h' m := by
  obtain ⟨⟨oL, es, ep, hL, r⟩, k, a⟩ := F
  exact ⟨⟨oL, es, ep, e _ _ hL, r⟩, fun b o q => e _ _ (k b o q), a⟩
theorem News.ext {h h' : Heap} (N : News h₀ L h news) (e : Ext h h') : News h₀ L h' news := fun p hp => ⟨e _ _ (N p hp).1, (N p hp).2⟩
theorem News.more {h h' : Heap} {fresh : List (Addr × Obj)} (F : Fr h₀ L h m) (N : News h₀ L h news) (e : Ext h h') (hf : ∀ p ∈ fresh, h'.get? p.1 = some p.2 ∧ h.get? p.1 = none) : News h₀ L h' (fresh ++ news) := by
  intro p hp
  rcases List.mem_append.mp hp with q | q
  · refine ⟨(hf p q).1, fun z => ?_, ?_⟩
    · obtain ⟨oL, es, ep, hL, r⟩ := F.ns
      have := (hf p q).2
      rw [z, hL] at this; cases this
    · cases z : h₀.get? p.1 with
      | none => rfl
      | some o => have := (hf p q).2; rw [F.keep _ _ z] at this; cases this
  · exact ⟨e _ _ (N p q).1, (N p q).2⟩

theorem use_back {A' : Around} {Q E : Value → Shared → Prop} {fv : Value} {vs : List Value} {P : Value → List (Addr × Obj) → Prop} (hs : codeAny (model prog w) A' (.call fv ⟨vs, []⟩) (Back s P) s)
    (F : Fr h₀ L s.heap m) (N : News h₀ L s.heap news)
    (k : ∀ v fresh h' tk', Fr h₀ L h' m → News h₀ L h' (fresh ++ news) → (∀ p ∈ fresh, ∀ q ∈ news, q.1 ≠ p.1) → Ext s.heap h' → P v fresh → Q v { s with heap := h', toks := tk' })
    (h1 : A.handled = A'.handled := by rfl) (h2 : A.depth ≤ A'.depth := by exact Nat.le_of_ble_eq_true rfl) (hf : A'.frames = none := by rfl) (hg : A'.guards = none := by rfl) (h4 : A.units ≤ A'.units := by exact Nat.le_of_ble_eq_true rfl) :
    wpAny (model prog w) A (call fv vs) Q E s := by
  refine wpAny_call (codeAny_weak (codeAny_mono hs fun r s' b => ?_) h1 h2 hf hg h4)
  obtain ⟨v, fresh, h', tk', rfl, rfl, e, hfr, hP⟩ := b
  refine k v fresh h' tk' (Fr.ext F e) (News.more F N e hfr) (fun p hp q hq z => ?_) e hP
  have := (hfr p hp).2
  rw [← z, (N q hq).1] at this; cases this
end
end
section
set_option maxRecDepth 100000
set_option maxHeartbeats 4000000
noncomputable def foldersL : List (List Str) := [[], [Str.ofString "a"], [Str.ofString "a", Str.ofString "b"], [Str.ofString "a-"], [Str.ofString "b"]]
noncomputable def stemsL : List Str := [Str.ofString "x", Str.ofString "x.y", Str.ofString "xa", Str.ofString ".c", Str.ofString "a.x"]
noncomputable def endsL : List (Option Str) := [none, some (Str.ofString "py"), some (Str.ofString "pyc"), some (Str.ofString "")]
structure FD where
  folders : List Str
  stem : Str
  ending : Option Str
noncomputable def FD.name (f : FD) : Str := match f.ending with
  | none => f.stem
  | some e => f.stem ++ Str.ofString "." ++ e
noncomputable def FD.text (f : FD) : Str := Txt.join (Str.ofString "/") (f.folders ++ [f.name])
noncomputable def FD.raw (f : FD) : List Str := Txt.split f.stem (Str.ofString ".") ++ (match f.ending with
  | none => []
  | some e => [e])
noncomputable def FD.pieces (f : FD) : List Str := if (Txt.join (Str.ofString "") f.raw.dropLast != Str.ofString "") = true then f.raw.dropLast else f.raw
noncomputable def FD.mod (f : FD) : Str := Txt.join (Str.ofString ".") f.pieces
noncomputable def allF : List FD := foldersL.flatMap fun fo => stemsL.flatMap fun st => endsL.map fun en => ⟨fo, st, en⟩
theorem mem_allF {f : FD} (h1 : f.folders ∈ foldersL) (h2 : f.stem ∈ stemsL) (h3 : f.ending ∈ endsL) : f ∈ allF := by
  obtain ⟨fo, st, en⟩ := f
  exact List.mem_flatMap.mpr ⟨fo, h1, List.mem_flatMap.mpr ⟨st, h2, List.mem_map.mpr ⟨en, h3, rfl⟩⟩⟩
theorem all_of {P : FD → Bool} (h : allF.all P = true) {f : FD} (hf : f ∈ allF) : P f = true := List.all_eq_true.mp h f hf

noncomputable def clsOk (f : FD) : Bool :=
  decide (f.name.length ≤ 100) && decide (f.text.length ≤ 100) && (Txt.rfind f.name (Str.ofString "/") == -1) &&
  (Txt.slice f.text (some (Txt.rfind f.text (Str.ofString "/") + 1)) none == f.name) &&
  ((Txt.rfind f.name (Str.ofString ".") == -1 && f.name == f.mod) ||
   (Txt.rfind f.name (Str.ofString ".") == 0 && f.name == f.mod) ||
   (decide (0 < Txt.rfind f.name (Str.ofString ".")) && (Txt.slice f.name (some (-1 + 1)) (some (-1 + 1 + 1)) != Str.ofString ".") && Txt.slice f.name none (some (Txt.rfind f.name (Str.ofString "."))) == f.mod) ||
   (decide (1 < Txt.rfind f.name (Str.ofString ".")) && !(Txt.slice f.name (some (-1 + 1)) (some (-1 + 1 + 1)) != Str.ofString ".") && (Txt.slice f.name (some (-1 + 1 + 1)) (some (-1 + 1 + 1 + 1)) != Str.ofString ".") && Txt.slice f.name none (some (Txt.rfind f.name (Str.ofString "."))) == f.mod))
theorem cls_all : allF.all clsOk = true := by decide +kernel
end
local macro_rules | `(tactic| walk_at $s:str) => `(tactic| k_extra $s)
section
set_option maxRecDepth 100000
set_option maxHeartbeats 4000000
theorem kw_F3_0 : True := by
  k_with_none
  k_with "call ref" => (k_here; k_dflt (refine wpAny_call ?_; refine' code_def0 ?kq_k2 ?kq_k3 ?kq_k4 ?kq_k5 ?kq_k6 ?kq_k7 ?kq_k8 ?kq_k9 ?kq_kB ?_ ?kq_c2 ?kq_c3 ?kq_c4 ?kq_c5; (case kq_k2 => k_asm); (case kq_k3 => k_asm); (case kq_k4 => k_asm); (case kq_k5 => k_asm); (case kq_k6 => k_is); (case kq_k7 => k_is); (case kq_k8 => k_room); (case kq_k9 => exact BindsTo.of_eq rfl); (case kq_c5 => decide); (case kq_kB => exact locs rfl); (case kq_c2 => exact rfl); (case kq_c3 => exact rfl); (case kq_c4 => exact rfl); k_whole; intro _ _ _ _ _ _ _ _; (try dsimp only); (try k_fold)))
  k_with "M enter" => (refine' enter0 ?kq_k3 ?kq_k5 ?kq_k6 ?kq_k7 ?kq_k8 ?kq_k9 ?kq_kB ?_ ?kq_c2 ?kq_c3 ?kq_c4 ?kq_c5; (case kq_k3 => assumption); (case kq_k5 => assumption); (case kq_k6 => k_is); (case kq_k7 => k_is); (case kq_k8 => decide); (case kq_k9 => exact BindsTo.of_eq rfl); (case kq_kB => exact locs rfl); (case kq_c2 => rfl); (case kq_c3 => rfl); (case kq_c4 => rfl); (case kq_c5 => decide); intro _ _ _ _; dsimp only; k_fold)
  k_with "M end" => ((try dsimp only); (try k_unfold); (try dsimp only))
  k_with "exec While Compare cons nil" => (k_here; refine whl_start 9 ?_)
  k_with "exec While BoolOp cons nil" => (k_here; refine whl_start 9 ?_)
  k_with "WhlRest" => (refine whl_turn (fun _ _ h => False.elim h) ?_)
  k_with "WhlIf" => first | (refine WhlIf.yes (by first | rfl | assumption | (simp only [decide_eq_true_eq]; omega)) ?_) | (refine WhlIf.no (by first | rfl | assumption | (simp only [decide_eq_false_iff_not]; omega)) ?_)
  k_with "WhlPost" => (unfold WhlPost; dsimp only)
  k_with "ite" => first | (refine PySem.W.ite_pos (by assumption) ?_) | (refine PySem.W.ite_neg (by assumption) ?_) | (refine PySem.W.ite_neg (ne_true_of_eq_false (by assumption)) ?_)
  exact True.intro
theorem kfill_once : (fun (_ : OpenLaw) (_ : Params → Frag) => True) PySem.Challenge.rw_ny0070_01 hd.heap_39 := by k_fill; w_on; trivial
noncomputable abbrev tupO (vs : List Value) (n : Nat) : Obj := { cls := .type "tuple", data := .seq vs.toArray n }

variable {prog : Program} {w : World} {mean : ExcName → Option Value} {mg mb : Str → Option Value} {s : Shared}
theorem fspath_spec {p y : Str} {t u : Tok}
   (X : (hd.heap_39 w.params).In s.heap) (T : Top hd.view_39 (looseW hd.view_39 []) mean mg mb s.heap) :
   codeAny (model prog w) (AA 800 800) (.call (.ref 35) ⟨[.str y u, .str p t], []⟩) (Back s (fun v fr => v = .str p t ∧ fr = [])) s := by
  walk_at "M enter"
  w_strict (k_steps)
  walk_at "M end"
  exact back_of (fresh := []) (by assumption) (by assumption) (fun _ h => nomatch h) ⟨rfl, rfl⟩
theorem kw_F3_1 : True := by
  k_with "call ref" => (k_here; (with_reducible show wpAny _ _ (call (Value.ref 35) _) _ _ _); k_dflt (refine' use_back (fspath_spec ?kq_kx ?kq_kt) ?kq_kf ?kq_kn ?_; (case kq_kx => k_in); (case kq_kt => exact Top.keeps (by assumption) (Fr.keep (by k_asm))); (case kq_kf => k_asm); (case kq_kn => k_asm); intro _ _ _ _ _ N' hne' e' hP'; obtain ⟨hP1, hP2⟩ := hP'; subst hP1; subst hP2; (simp only [List.nil_append] at N'); clear hne' e'; revert N'; intro _; (try dsimp only); (try k_fold)))
  k_with "call builtin:str.rfind" => (refine KXw.rfind (by assumption) ?_; intro _ _)
  exact True.intro

noncomputable def SplitP (q : Str) (v : Value) (fr : List (Addr × Obj)) : Prop := ∃ a t1 e t2, v = .ref a ∧ fr = [(a, tupO [.str q t1, .str e t2] 0)]
theorem splitext_B {p : Str} {t : Tok} {d : Int}
   (X : (hd.heap_39 w.params).In s.heap) (T : Top hd.view_39 (looseW hd.view_39 []) mean mg mb s.heap) (hp : p.length ≤ 100)
   (hs : Txt.rfind p (Str.ofString "/") = -1) (hd : Txt.rfind p (Str.ofString ".") = d) (hd0 : 0 < d) (h0 : (Txt.slice p (some (-1 + 1)) (some (-1 + 1 + 1)) != Str.ofString ".") = true) :
   codeAny (model prog w) (AA 700 700) (.call (.ref 42) ⟨[.str p t], []⟩) (Back s (SplitP (Txt.slice p none (some d)))) s := by
  walk_at "M enter"
  w_strict (k_steps)
  walk_at "M end"
  exact back_of (by assumption) (by assumption) (fun _ h => h) ⟨_, _, _, _, rfl, rfl⟩
theorem splitext_A {p : Str} {t : Tok}
   (X : (hd.heap_39 w.params).In s.heap) (T : Top hd.view_39 (looseW hd.view_39 []) mean mg mb s.heap) (hp : p.length ≤ 100)
   (hs : Txt.rfind p (Str.ofString "/") = -1) (hd : Txt.rfind p (Str.ofString ".") = -1) :
   codeAny (model prog w) (AA 700 700) (.call (.ref 42) ⟨[.str p t], []⟩) (Back s (SplitP p)) s := by
  walk_at "M enter"
  w_strict (k_steps)
  walk_at "M end"
  exact back_of (by assumption) (by assumption) (fun _ h => h) ⟨_, _, _, _, rfl, rfl⟩
theorem splitext_C {p : Str} {t : Tok}
   (X : (hd.heap_39 w.params).In s.heap) (T : Top hd.view_39 (looseW hd.view_39 []) mean mg mb s.heap) (hp : p.length ≤ 100)
   (hs : Txt.rfind p (Str.ofString "/") = -1) (hd : Txt.rfind p (Str.ofString ".") = 0) :
   codeAny (model prog w) (AA 700 700) (.call (.ref 42) ⟨[.str p t], []⟩) (Back s (SplitP p)) s := by
  walk_at "M enter"
  w_strict (k_steps)
  walk_at "M end"
  exact back_of (by assumption) (by assumption) (fun _ h => h) ⟨_, _, _, _, rfl, rfl⟩
theorem splitext_D {p : Str} {t : Tok} {d : Int}
   (X : (hd.heap_39 w.params).In s.heap) (T : Top hd.view_39 (looseW hd.view_39 []) mean mg mb s.heap) (hp : p.length ≤ 100)
   (hs : Txt.rfind p (Str.ofString "/") = -1) (hd : Txt.rfind p (Str.ofString ".") = d) (hd0 : 1 < d) (h0 : (Txt.slice p (some (-1 + 1)) (some (-1 + 1 + 1)) != Str.ofString ".") = false)
   (h1 : (Txt.slice p (some (-1 + 1 + 1)) (some (-1 + 1 + 1 + 1)) != Str.ofString ".") = true) :
   codeAny (model prog w) (AA 700 700) (.call (.ref 42) ⟨[.str p t], []⟩) (Back s (SplitP (Txt.slice p none (some d)))) s := by
  walk_at "M enter"
  w_strict (k_steps)
  walk_at "M end"
  exact back_of (by assumption) (by assumption) (fun _ h => h) ⟨_, _, _, _, rfl, rfl⟩
theorem splitext_spec {f : FD} (hf : f ∈ allF) {p : Str} {t : Tok} (hp : p = f.name)
   (X : (hd.heap_39 w.params).In s.heap) (T : Top hd.view_39 (looseW hd.view_39 []) mean mg mb s.heap) :
   codeAny (model prog w) (AA 700 700) (.call (.ref 42) ⟨[.str p t], []⟩) (Back s (SplitP f.mod)) s := by
  subst hp
  have h := all_of cls_all hf
  simp only [clsOk, Bool.and_eq_true, Bool.or_eq_true, decide_eq_true_eq, beq_iff_eq, Bool.not_eq_true'] at h
  obtain ⟨⟨⟨⟨h1, h2⟩, h3⟩, h4⟩, ((⟨c1, c2⟩ | ⟨c1, c2⟩) | ⟨⟨c1, c2⟩, c3⟩) | ⟨⟨⟨c1, c2⟩, c3⟩, c4⟩⟩ := h
  · rw [← c2]; exact splitext_A X T h1 h3 c1
  · rw [← c2]; exact splitext_C X T h1 h3 c1
  · rw [← c3]; exact splitext_B X T h1 h3 rfl c1 c2
  · rw [← c4]; exact splitext_D X T h1 h3 rfl c1 c2 c3
theorem kw_F3_2 : True := by
  k_with "call ref" => (k_here; (with_reducible show wpAny _ _ (call (Value.ref 42) _) _ _ _); k_dflt (refine' use_back (splitext_spec (by assumption) (by assumption) ?kq_kx ?kq_kt) ?kq_kf ?kq_kn ?_; (case kq_kx => k_in); (case kq_kt => exact Top.keeps (by assumption) (Fr.keep (by k_asm))); (case kq_kf => k_asm); (case kq_kn => k_asm); intro _ _ _ _ _ N' hne' e' hP'; obtain ⟨_, _, _, _, hP1, hP2⟩ := hP'; subst hP1; subst hP2; (simp only [List.cons_append, List.nil_append] at N'); clear hne' e'; revert N'; intro _; (try dsimp only); (try k_fold)))
  exact True.intro
theorem modname_spec {f : FD} (hf : f ∈ allF) {t : Tok}
   (X : (hd.heap_39 w.params).In s.heap) (T : Top hd.view_39 (looseW hd.view_39 []) mean mg mb s.heap) :
   codeAny (model prog w) (AA 600 600) (.call (.ref 111) ⟨[.str f.text t], []⟩) (Back s (fun v fr => (∃ t', v = .str f.mod t') ∧ fr = [])) s := by
  have h := all_of cls_all hf
  simp only [clsOk, Bool.and_eq_true, Bool.or_eq_true, decide_eq_true_eq, beq_iff_eq, Bool.not_eq_true'] at h
  obtain ⟨⟨⟨⟨h1, h2⟩, h3⟩, h4⟩, h5⟩ := h
  clear h5
  walk_at "M enter"
  w_strict (k_steps)
  walk_at "M end"
  exact back_of (fresh := []) (by assumption) (by assumption) (fun _ h => nomatch h) ⟨⟨_, rfl⟩, rfl⟩
end
section
set_option maxRecDepth 100000
set_option maxHeartbeats 4000000
theorem kw_F4_0 : True := by
  k_with_none
  k_with "call ref" => (k_here; k_dflt (refine wpAny_call ?_; refine' code_def0 ?kq_k2 ?kq_k3 ?kq_k4 ?kq_k5 ?kq_k6 ?kq_k7 ?kq_k8 ?kq_k9 ?kq_kB ?_ ?kq_c2 ?kq_c3 ?kq_c4 ?kq_c5; (case kq_k2 => k_asm); (case kq_k3 => k_asm); (case kq_k4 => k_asm); (case kq_k5 => k_asm); (case kq_k6 => k_is); (case kq_k7 => k_is); (case kq_k8 => k_room); (case kq_k9 => exact BindsTo.of_eq rfl); (case kq_c5 => decide); (case kq_kB => exact locs rfl); (case kq_c2 => exact rfl); (case kq_c3 => exact rfl); (case kq_c4 => exact rfl); k_whole; intro _ _ _ _ _ _ _ _; (try dsimp only); (try k_fold)))
  k_with "M enter" => (refine' enter0 ?kq_k3 ?kq_k5 ?kq_k6 ?kq_k7 ?kq_k8 ?kq_k9 ?kq_kB ?_ ?kq_c2 ?kq_c3 ?kq_c4 ?kq_c5; (case kq_k3 => assumption); (case kq_k5 => assumption); (case kq_k6 => k_is); (case kq_k7 => k_is); (case kq_k8 => decide); (case kq_k9 => exact BindsTo.of_eq rfl); (case kq_kB => exact locs rfl); (case kq_c2 => rfl); (case kq_c3 => rfl); (case kq_c4 => rfl); (case kq_c5 => decide); intro _ _ _ _; dsimp only; k_fold)
  k_with "M steps" => repeat' (first | (k_unfold; (try dsimp only)) | walk1 | (dsimp only; walk1))
  k_with "M end" => ((try dsimp only); (try k_unfold); (try dsimp only))
  k_with "exec While Compare cons nil" => (k_here; refine whl_start 9 ?_)
  k_with "exec While BoolOp cons nil" => (k_here; refine whl_start 9 ?_)
  k_with "WhlRest" => (refine whl_turn (fun _ _ h => False.elim h) ?_)
  k_with "WhlIf" => first | (refine WhlIf.yes (by first | rfl | assumption | (simp only [decide_eq_true_eq]; omega)) ?_) | (refine WhlIf.no (by first | rfl | assumption | (simp only [decide_eq_false_iff_not]; omega)) ?_)
  k_with "WhlPost" => (unfold WhlPost; dsimp only)
  k_with "ite" => first | (refine PySem.W.ite_pos (by assumption) ?_) | (refine PySem.W.ite_neg (by assumption) ?_) | (refine PySem.W.ite_neg (ne_true_of_eq_false (by assumption)) ?_)
  exact True.intro
theorem kfill_once4 : (fun (_ : OpenLaw) (_ : Params → Frag) => True) PySem.Challenge.rw_ny0070_01 hd.heap_39 := by k_fill; w_on; trivial
variable {prog : Program} {w : World} {mean : ExcName → Option Value} {mg mb : Str → Option Value} {s : Shared}
theorem item_pick {A : Around} {E : Value → Shared → Prop} {Q : Value → Shared → Prop} {value slice : Expr} {a : Addr} {vs : List Value} {k : Int} {u : Tok} (t : IsTup s.heap a vs.toArray) (h0 : 0 ≤ k) (h1 : k < (vs.length : Int)) (h2 : vs.length ≤ 100)
    (h : ∀ v, vs[k.toNat]? = some v → Q v s) (hs : subscripted slice false (.ref a) (.int k u) = operate [.ref a, .int k u] (getItem (.ref a) (.int k u)) := by with_unfolding_all rfl) :
    wpAny (model prog w) A (subscriptTail value slice (.ref a) (.int k u)) Q E s := by
  have hl : k.toNat < vs.length := by omega
  refine item_tupleT t (by omega) (by omega) (j := k.toNat) ?_ (List.getElem?_eq_getElem hl) (h _ (List.getElem?_eq_getElem hl)) hs
  have e : (if k < 0 then k + (vs.length : Int) else k) = k := if_neg (by omega)
  show (if 0 ≤ (if k < 0 then k + (vs.length : Int) else k) && (if k < 0 then k + (vs.length : Int) else k) < (vs.length : Int) then some (if k < 0 then k + (vs.length : Int) else k).toNat else none) = _
  rw [e, if_pos (by simp; omega)]
theorem fmod_lt5 (x : Int) : 0 ≤ x.fmod 5 ∧ x.fmod 5 < 5 := ⟨Int.fmod_nonneg_of_pos x (by decide), Int.fmod_lt_of_pos x (by decide)⟩
theorem fmod_lt4 (x : Int) : 0 ≤ x.fmod 4 ∧ x.fmod 4 < 4 := ⟨Int.fmod_nonneg_of_pos x (by decide), Int.fmod_lt_of_pos x (by decide)⟩
theorem kw_F4_1 : True := by
  k_with "subscriptTail Tuple cons BinOp ref int" => (k_here; k_dflt (refine' item_pick ?kq_t ?kq_k0 ?kq_k1 ?kq_k2 ?_; (case kq_t => exact News.isTup (by k_asm) (by k_mem)); (case kq_k0 => first | exact (fmod_lt5 _).1 | exact (fmod_lt4 _).1); (case kq_k1 => first | exact (fmod_lt5 _).2 | exact (fmod_lt4 _).2); (case kq_k2 => exact Nat.le_of_ble_eq_true rfl); intro _ _))
  exact True.intro

theorem StrsAre.append {vs ws : List Value} {ys zs : List Str} (H : StrsAre vs ys) (h : StrsAre ws zs) : StrsAre (vs ++ ws) (ys ++ zs) := by
  induction H with
  | nil => exact h
  | cons y t r ih => exact .cons y t ih
theorem StrsAre.take {vs : List Value} {ys : List Str} (H : StrsAre vs ys) : ∀ k : Nat, StrsAre (vs.take k) (ys.take k) := by
  induction H with
  | nil => intro k; cases k <;> exact .nil
  | cons y t h ih =>
    intro k
    cases k with
    | zero => exact .nil
    | succ k => exact .cons y t (ih k)
section
variable {A : Around} {E : Value → Shared → Prop} {Q : Value → Shared → Prop} {h₀ : Heap} {L : Addr} {m : Str → Option Value} {news : List (Addr × Obj)}
theorem sl_split {x y : Str} {t u : Tok} (F : Fr h₀ L s.heap m) (N : News h₀ L s.heap news) (hy : (y.length == 0) = false) (hsz : x.length ≤ 1000)
    (h : ∀ a vs h' k, StrsAre vs (Txt.split x y) → Fr h₀ L h' m → News h₀ L h' ((a, listOf vs.toArray 0) :: news) → Q (.ref a) { s with heap := h', toks := k }) :
    wpAny (model prog w) A (call (.builtin "str.split") [.str x t, .str y u]) Q E s :=
  splitN1A F N hy (fun l h' k e sa _ _ F' N' => h _ _ h' k (e ▸ sa) F' N') (by rw [sizeLine_eq]; omega)
theorem sl_add {l b : Addr} {vs ws : List Value} {ys zs : List Str} (F : Fr h₀ L s.heap m) (N : News h₀ L s.heap news) (hl : s.heap.IsList l vs.toArray) (hb : s.heap.IsList b ws.toArray) (ha : StrsAre vs ys) (hc : StrsAre ws zs) (hz : ys.length + zs.length ≤ 1000)
    (h : ∀ a us h', StrsAre us (ys ++ zs) → Fr h₀ L h' m → News h₀ L h' ((a, listOf us.toArray 0) :: news) → Q (.ref a) { s with heap := h' }) :
    wpAny (model prog w) A (binaryOp .Add (.ref l) (.ref b)) Q E s :=
  add_lists F N hl hb (fun h' F' N' => h _ _ h' (StrsAre.append ha hc) F' N') (by rw [sizeLine_eq, ha.len_eq, hc.len_eq]; omega)
theorem sl_butlast {value slice : Expr} {l : Addr} {vs : List Value} {ys : List Str} {u : Tok} (F : Fr h₀ L s.heap m) (N : News h₀ L s.heap news) (hl : s.heap.IsList l vs.toArray) (ha : StrsAre vs ys) (hz : ys.length ≤ 1000)
    (h : ∀ a us h', StrsAre us ys.dropLast → Fr h₀ L h' m → News h₀ L h' ((a, listOf us.toArray 0) :: news) → Q (.ref a) { s with heap := h' })
    (hs : subscripted slice false (.ref l) (.ref s.heap.objs.size) = operate [.ref s.heap.objs.size, .ref l] (getItem (.ref l) (.ref s.heap.objs.size))) (ht : ∀ r, letTemporaryGo value (.ref l) r = pure ()) :
    wpAny (model prog w) A (subscriptTail value slice (.ref l) (.ref s.heap.objs.size)) Q E { s with heap := s.heap.push { cls := .type "slice", data := .fields #[.none, .int (-1) u, .none] } } := by
  have e : (slicePick vs.toArray none (some (-1)) none).toList = vs.take (vs.length - 1) := by
    have := slicePick_butLast vs.toArray 1 (Nat.le_refl _)
    rw [show (-1 : Int) = -((1 : Nat) : Int) from rfl, this]; simp
  have sa : StrsAre (vs.take (vs.length - 1)) ys.dropLast := by
    rw [List.dropLast_eq_take, ← ha.len_eq]; exact StrsAre.take ha _
  exact kmk_slice_lit F N hl .none (.int _ _) e (fun D h' F' N' _ => h _ _ h' sa F' N') hs ht (by rw [sizeLine_eq, List.size_toArray, ha.len_eq]; omega)
theorem sl_join {D : Addr} {vs : List Value} {ys : List Str} {x : Str} {t : Tok} (hl : s.heap.IsList D vs.toArray) (hi : StrsAre vs ys) (hx : x.length ≤ 64) (hok : (ys.map (·.length)).sum + ys.length * 64 ≤ 16777216)
    (h : ∀ t' k, Q (.str (Txt.join x ys) t') { s with toks := k }) : wpAny (model prog w) A (call (.builtin "str.join") [.str x t, .ref D]) Q E s :=
  join_listC hl hi hx hok h
end
noncomputable def fdOf (x : Int) : FD := ⟨foldersL.getD (x.fmod 5).toNat [], stemsL.getD ((x.fdiv 5).fmod 5).toNat (Str.ofString "x"), endsL.getD ((x.fdiv 25).fmod 4).toNat none⟩
theorem five {k : Int} (h : 0 ≤ k ∧ k < 5) : k = 0 ∨ k = 1 ∨ k = 2 ∨ k = 3 ∨ k = 4 := by omega
theorem four {k : Int} (h : 0 ≤ k ∧ k < 4) : k = 0 ∨ k = 1 ∨ k = 2 ∨ k = 3 := by omega
theorem fdOf_mem (x : Int) : fdOf x ∈ allF := by
  refine mem_allF ?_ ?_ ?_
  · show foldersL.getD (x.fmod 5).toNat [] ∈ _
    rcases five (fmod_lt5 x) with h | h | h | h | h <;> rw [h] <;> decide
  · show stemsL.getD ((x.fdiv 5).fmod 5).toNat (Str.ofString "x") ∈ _
    rcases five (fmod_lt5 (x.fdiv 5)) with h | h | h | h | h <;> rw [h] <;> decide
  · show endsL.getD ((x.fdiv 25).fmod 4).toNat none ∈ _
    rcases four (fmod_lt4 (x.fdiv 25)) with h | h | h | h <;> rw [h] <;> decide
theorem pick_folders {h₀ h : Heap} {L l0 l1 l2 l3 l4 : Addr} {news : List (Addr × Obj)} {k : Int} {v : Value} {t1 t2 t3 t4 t5 : Tok} (N : News h₀ L h news)
    (hv : [Value.ref l0, .ref l1, .ref l2, .ref l3, .ref l4][k.toNat]? = some v) (hk : 0 ≤ k ∧ k < 5)
    (hm : ∀ p ∈ [(l0, listOf ([] : List Value).toArray 0), (l1, listOf [Value.str (Str.ofString "a") t1].toArray 0), (l2, listOf [Value.str (Str.ofString "a") t2, .str (Str.ofString "b") t3].toArray 0), (l3, listOf [Value.str (Str.ofString "a-") t4].toArray 0), (l4, listOf [Value.str (Str.ofString "b") t5].toArray 0)], p ∈ news) :
    ∃ a vs, v = .ref a ∧ News h₀ L h [(a, listOf vs.toArray 0)] ∧ StrsAre vs (foldersL.getD k.toNat []) := by
  have one : ∀ {a vs}, (a, listOf (List.toArray vs) 0) ∈ news → News h₀ L h [(a, listOf vs.toArray 0)] := fun q p hp => by
    rw [List.mem_singleton.mp hp]; exact N _ q
  rcases five hk with e | e | e | e | e <;> rw [e] at hv ⊢ <;> cases hv
  · exact ⟨_, [], rfl, one (hm _ (.head _)), .nil⟩
  · exact ⟨_, [_], rfl, one (hm _ (.tail _ (.head _))), .cons _ _ .nil⟩
  · exact ⟨_, [_, _], rfl, one (hm _ (.tail _ (.tail _ (.head _)))), .cons _ _ (.cons _ _ .nil)⟩
  · exact ⟨_, [_], rfl, one (hm _ (.tail _ (.tail _ (.tail _ (.head _))))), .cons _ _ .nil⟩
  · exact ⟨_, [_], rfl, one (hm _ (.tail _ (.tail _ (.tail _ (.tail _ (.head _)))))), .cons _ _ .nil⟩
theorem pick_stems {k : Int} {v : Value} {t1 t2 t3 t4 t5 : Tok} (hv : [Value.str (Str.ofString "x") t1, .str (Str.ofString "x.y") t2, .str (Str.ofString "xa") t3, .str (Str.ofString ".c") t4, .str (Str.ofString "a.x") t5][k.toNat]? = some v) (hk : 0 ≤ k ∧ k < 5) :
    ∃ t, v = .str (stemsL.getD k.toNat (Str.ofString "x")) t := by
  rcases five hk with e | e | e | e | e <;> rw [e] at hv ⊢ <;> cases hv <;> exact ⟨_, rfl⟩
theorem pick_ends {k : Int} {v : Value} {t2 t3 t4 : Tok} (hv : [Value.none, .str (Str.ofString "py") t2, .str (Str.ofString "pyc") t3, .str (Str.ofString "") t4][k.toNat]? = some v) (hk : 0 ≤ k ∧ k < 4) :
    (v = .none ∧ endsL.getD k.toNat none = none) ∨ ∃ t e, v = .str e t ∧ endsL.getD k.toNat none = some e := by
  rcases four hk with e | e | e | e <;> rw [e] at hv ⊢ <;> cases hv
  · exact .inl ⟨rfl, rfl⟩
  · exact .inr ⟨_, _, rfl, rfl⟩
  · exact .inr ⟨_, _, rfl, rfl⟩
  · exact .inr ⟨_, _, rfl, rfl⟩
noncomputable def jr (ys : List Str) : Bool := decide ((ys.map (·.length)).sum + ys.length * 64 ≤ 16777216)
noncomputable def bOk (f : FD) : Bool := decide (f.stem.length ≤ 10) && decide (f.folders.length ≤ 10) && decide (f.raw.length ≤ 10) && decide ((Txt.split f.stem (Str.ofString ".")).length ≤ 10) && jr f.raw.dropLast && jr (f.folders ++ [f.name]) && (match f.ending with
  | none => true
  | some e => decide (e.length ≤ 10))
theorem bOk_all : allF.all bOk = true := by decide +kernel
noncomputable def FileP (f : FD) (v : Value) (fr : List (Addr × Obj)) : Prop := ∃ a t b vs c us, v = .ref a ∧ fr = [(a, tupO [.str f.text t, .ref b, .ref c] 0), (b, listOf vs.toArray 0), (c, listOf us.toArray 0)] ∧ StrsAre vs f.folders ∧ StrsAre us f.pieces
theorem kw_F4_2 : True := by
  k_with "call builtin:str.split" => (k_here; k_dflt (refine' sl_split ?kq_F ?kq_N (by decide) (by omega) ?_; (case kq_F => k_asm); (case kq_N => k_asm)); intro _ _ _ _ _ _ _)
  k_with "binaryOp Add ref ref" => (k_here; k_dflt (refine' sl_add ?kq_F ?kq_N ?kq_l ?kq_b ?kq_sa ?kq_sb ?kq_z ?_; (case kq_F => k_asm); (case kq_N => k_asm); (case kq_l => exact News.isList (by k_asm) (by k_mem)); (case kq_b => exact News.isList (by k_asm) (by k_mem)); (case kq_sa => assumption); (case kq_sb => first | assumption | exact StrsAre.nil | exact StrsAre.cons _ _ StrsAre.nil); (case kq_z => simp only [List.length_cons, List.length_nil]; omega)); intro _ _ _ _ _ _)
  k_with "subscriptTail Name Slice ref ref" => (k_here; (with_reducible show wpAny _ _ (subscriptTail _ (PySem.Expr.Slice none (some _) none _) (Value.ref _) (Value.ref _)) _ _ _); k_dflt (refine' sl_butlast ?kq_F ?kq_N ?kq_l ?kq_sa ?kq_z ?_ ?kq_s ?kq_t; (case kq_F => k_asm); (case kq_N => k_asm); (case kq_l => exact News.isList (by k_asm) (by k_mem)); (case kq_sa => assumption); (case kq_z => simp only [List.length_append, List.length_cons, List.length_nil]; omega); (case kq_s => with_unfolding_all rfl); (case kq_t => kmk_pure)); intro _ _ _ _ _ _)
  k_with "call builtin:str.join" => (k_here; k_dflt (refine' sl_join ?kq_l ?kq_sa ?kq_x ?kq_ok ?_; (case kq_l => exact News.isList (by k_asm) (by k_mem)); (case kq_sa => assumption); (case kq_x => decide); (case kq_ok => assumption)); intro _ _)
  exact True.intro
theorem file_end {f : FD} {x : Str} {ys : List Str} {a b c L' : Addr} {t : Tok} {vs us : List Value} {h' : Heap} {tk' : Nat} {m' : Str → Option Value} {news' : List (Addr × Obj)} (ht : f.text = x) (hp : f.pieces = ys) (F : Fr s.heap L' h' m') (N : News s.heap L' h' news')
    (m1 : (a, tupO [.str x t, .ref b, .ref c] 0) ∈ news') (m2 : (b, listOf vs.toArray 0) ∈ news') (m3 : (c, listOf us.toArray 0) ∈ news') (h1 : StrsAre vs f.folders) (h2 : StrsAre us ys) :
    Back s (FileP f) (.ok (.ret (.ref a))) { s with heap := h', toks := tk' } := by
  subst ht hp
  refine back_of (fresh := [(a, tupO [.str f.text t, .ref b, .ref c] 0), (b, listOf vs.toArray 0), (c, listOf us.toArray 0)]) F N ?_ ⟨a, t, b, vs, c, us, rfl, rfl, h1, h2⟩
  simp only [List.forall_mem_cons]
  exact ⟨m1, m2, m3, fun _ h => nomatch h⟩
end
section
set_option maxRecDepth 100000
set_option maxHeartbeats 1000000
section
variable {prog : Program} {w : World} {A : Around} {s : Shared} {h₀ : Heap} {L : Addr} {env : Env}

theorem letOwned {E : Value → Shared → Prop} {target : Expr} {I : Addr} {v : Value} {o : Obj} {vs : Array Value} {Q : Unit → Shared → Prop} (ho : s.heap.get? I = some o) (hc : o.cls = .type "list_iterator") (hd : o.data = .fields vs) (h : Q () s) :
    wpAny (model prog w) A (letOwnedTupleGo target (.ref I) v) Q E s := by
  have key : wpAny (model prog w) A (do
      let (.ref r, .ref a) := ((Value.ref I), v) | return
      let o ← load r
      match o.cls, o.data with
      | .type n, .fields vs =>
        if ["enumerate", "zip", "dict_itemiterator", "dict_reverseitemiterator", "odict_iterator", "itertools.zip_longest", "itertools.pairwise"].contains n && vs[0]? == some (rawInt a) then
          rule "for.unpacks-the-owned-tuple"
          updateField r 0 .none
      | _, _ => pure ()) Q E s := by
    cases v with
    | ref a =>
      refine wpAny_bind (wpAny_load ho ?_)
      rw [hc, hd]
      exact wpAny_pure h
    | _ => exact wpAny_pure h
  cases target <;> first | exact key | exact wpAny_pure h

/-- the loop's code over a list's iterator, whatever the target -/
theorem forLoop_any {R : Result → Shared → Prop} {target : Expr} {I : Addr} {body : List Stmt} (J : Nat → Shared → Prop)
    (turn : ∀ n s, J n s → wpAny (model prog w) A (pyNext (.ref I)) (fun r s₁ => match r with
      | none => R (.ok .next) s₁
      | some v => (∃ o vs, s₁.heap.get? I = some o ∧ o.cls = .type "list_iterator" ∧ o.data = .fields vs) ∧ wpAny (model prog w) A (assign target env v) (fun _ s₂ => wpAny (model prog w) A (execs body env) (fun f s₃ => match f with
          | .next | .cont => ∃ m, m < n ∧ J m s₃
          | .brk => R (.ok .next) s₃
          | .ret v => R (.ok (.ret v)) s₃) (fun _ _ => False) s₂) (fun _ _ => False) s₁) (fun _ _ => False) s)
    (n : Nat) (h : J n s) : codeAny (model prog w) A (.forLoop target (.ref I) body [] env) R s := by
  refine codeAny_loop' rfl J (fun n s hI => ?_) n h
  show wpAny _ _ ((forTurn target (.ref I) body [] env).onRaise (fun x => do noteFrame x env; theTreesLotGoes x)) _ _ s
  refine wpAny_noted ?_
  simp only [forTurn]
  refine wpAny_bind (wpAny_standAt (wpAny_bind (wpAny_onRaise (wpAny_mono (turn n s hI) (fun r s₁ h₁ => ?_) fun _ _ h' => h'.elim))))
  cases r with
  | none => exact wpAny_pure (.inr ⟨rfl, codeAny_block (wpAny_execs_nil h₁)⟩)
  | some v =>
    with_reducible refine hideG fun G kG => ?_
    obtain ⟨⟨o, vs, ho, hc, hd⟩, h₁⟩ := h₁ <;> (with_reducible refine kG ?_; clear kG G)
    refine wpAny_bind (letOwned ho hc hd ?_)
    refine wpAny_bind (wpAny_mono h₁ (fun _ s₂ h₂ => wpAny_bind (wpAny_mono h₂ (fun f s₃ h₃ => ?_) fun _ _ h' => h'.elim)) fun _ _ h' => h'.elim)
    cases f with
    | next => exact wpAny_pure (.inl ⟨rfl, h₃⟩)
    | cont => exact wpAny_pure (.inl ⟨rfl, h₃⟩)
    | brk => exact wpAny_pure h₃
    | ret v => exact wpAny_pure h₃

noncomputable def IterO (o : Obj) (l : Addr) (i : Nat) : Prop := o.cls = .type "list_iterator" ∧ o.data = .fields #[.ref l, .int i 0]

noncomputable def NoIter (news : List (Addr × Obj)) : Prop := ∀ p ∈ news, ¬ (p.2.cls = .type "list_iterator" ∧ ∃ vs, p.2.data = .fields vs)
/-- what stands between the turns: the frame's names and the ledger, the iterator ahead of it -/
noncomputable def ForEnd (s : Shared) (h₀ : Heap) (L I l : Addr) (i : Nat) (J : (Str → Option Value) → List (Addr × Obj) → Prop) (s₃ : Shared) : Prop :=
  ∃ h' tk' m' news' oI, s₃ = { s with heap := h', toks := tk' } ∧ Fr h₀ L h' m' ∧ News h₀ L h' ((I, oI) :: news') ∧ IterO oI l i ∧ NoIter news' ∧ J m' news'
theorem iter_off {h : Heap} {I l : Addr} {oI : Obj} {i : Nat} {news : List (Addr × Obj)} (N : News h₀ L h ((I, oI) :: news)) (hI : IterO oI l i) (hn : NoIter news) : ∀ p ∈ news, p.1 ≠ I := by
  intro p hp e
  have a := (N p (.tail _ hp)).1
  have b := (N _ (.head _)).1
  rw [e] at a
  rw [b] at a
  exact hn p hp (by rw [← Option.some.inj a]; exact ⟨hI.1, _, hI.2⟩)

/-- a for over a list of the ground, by an invariant over the frame's names and the ledger -/
theorem for_frame {E : Value → Shared → Prop} {target : Expr} {body : List Stmt} {l : Addr} {vs : List Value} {Q : Flow → Shared → Prop} {m₀ : Str → Option Value} {news₀ : List (Addr × Obj)} (hh : A.handled = none)
    (J : Nat → (Str → Option Value) → List (Addr × Obj) → Prop) (F : Fr h₀ L s.heap m₀) (N : News h₀ L s.heap news₀) (hl : h₀.IsList l vs.toArray) (hn : NoIter news₀) (h0 : J 0 m₀ news₀)
    (turn : ∀ i v m news h tk I oI, vs[i]? = some v → J i m news → Fr h₀ L h m → News h₀ L h ((I, oI) :: news) → IterO oI l (i + 1) → (∀ p ∈ news, p.1 ≠ I) →
      wpAny (model prog w) A (assign target env v) (fun _ s₂ => wpAny (model prog w) A (execs body env) (fun f s₃ => match f with
          | .next | .cont => ForEnd s h₀ L I l (i + 1) (J (i + 1)) s₃
          | .brk => Q .next s₃
          | .ret v => Q (.ret v) s₃) (fun _ _ => False) s₂) (fun _ _ => False) { s with heap := h, toks := tk })
    (done : ∀ m news h tk, J vs.length m news → Fr h₀ L h m → News h₀ L h news → Q .next { s with heap := h, toks := tk }) :
    wpAny (model prog w) A (pyIter (.ref l)) (fun it s₂ => codeAny (model prog w) A (.forLoop target it body [] env) (fun r s' => match r with | .ok f => Q f s' | .error e => cameBackBy (model prog w) A env E e s') s₂) E s := by
  have hls : s.heap.IsList l vs.toArray := hl.at fun o e => F.keep l o e
  refine wpAny_pyIter_list hls ?_
  refine forLoop_any (fun n s' => ∃ i, n = vs.length + 1 - i ∧ i ≤ vs.length ∧ ForEnd s h₀ L s.heap.objs.size l i (J i) s') ?_ (vs.length + 1) ⟨0, rfl, Nat.zero_le _, _, s.toks, m₀, news₀, _, rfl, F.push _, News.push F N _, ⟨rfl, rfl⟩, hn, h0⟩
  rintro n s' hP9
  with_reducible refine hideG fun G kG => ?_
  obtain ⟨i, rfl, hi, h', tk', m', news', oI, rfl, F', N', hI, hn', hJ⟩ := hP9 <;> (with_reducible refine kG ?_; clear kG G)
  have off := iter_off N' hI hn'
  obtain ⟨hc, hd⟩ := hI
  have ho := (N' _ (.head _)).1
  have hil : h'.IsList l vs.toArray := hl.at fun o e => F'.keep l o e
  by_cases hlt : i < vs.length
  · have hx : vs.toArray[i]? = some vs[i] := by simp [hlt]
    refine wpAny_pyNext_list_item (i := i) ⟨oI, ho, hc, hd⟩ hil hx fun h₁ hit hs => ?_
    obtain ⟨o₁, ho₁, hc₁, hd₁⟩ := hit
    have F₁ : Fr h₀ L h₁ m' := F'.change hs (N' _ (.head _)).2.1 (N' _ (.head _)).2.2
    have N₁ : News h₀ L h₁ ((s.heap.objs.size, o₁) :: news') := by
      intro p hp
      rcases List.mem_cons.mp hp with rfl | hp
      · exact ⟨ho₁, (N' _ (.head _)).2⟩
      · have := N' p (.tail _ hp)
        exact ⟨(hs.2 p.1 (off p hp)).trans this.1, this.2⟩
    refine ⟨⟨o₁, _, ho₁, hc₁, hd₁⟩, wpAny_mono (turn i vs[i] m' news' h₁ tk' _ o₁ (by simp [hlt]) hJ F₁ N₁ ⟨hc₁, hd₁⟩ off) (fun _ s₂ h₂ => wpAny_mono h₂ (fun f s₃ h₃ => ?_) fun _ _ y => y) fun _ _ y => y⟩
    cases f with
    | next => exact ⟨vs.length + 1 - (i + 1), by omega, i + 1, rfl, hlt, h₃⟩
    | cont => exact ⟨vs.length + 1 - (i + 1), by omega, i + 1, rfl, hlt, h₃⟩
    | brk => exact h₃
    | ret v => exact h₃
  · have e : i = vs.length := by omega
    subst e
    refine wpAny_pyNext_list_end (i := vs.length) hh ⟨oI, ho, hc, hd⟩ hil (by simp) fun h₁ hs => ?_
    have hne := (N' _ (.head _)).2
    refine done m' news' h₁ tk' hJ ?_ fun p hp => ⟨hs p.1 p.2 (off p hp) (N' p (.tail _ hp)).1, (N' p (.tail _ hp)).2⟩
    with_reducible refine hideG fun G kG => ?_
    obtain ⟨oL, a1, a2, hoL, a3⟩ := F'.ns <;> (with_reducible refine kG ?_; clear kG G)
    refine ⟨⟨oL, a1, a2, hs _ _ (Ne.symm hne.1) hoL, a3⟩, fun b x e => hs _ _ (fun q => ?_) (F'.keep b x e), F'.above⟩
    rw [q, hne.2] at e; cases e

/-- a while by an invariant over the frame's names, the ledger as it is -/
noncomputable def WhEnd (s : Shared) (h₀ : Heap) (L : Addr) (news : List (Addr × Obj)) (n : Nat) (J : Nat → (Str → Option Value) → Prop) (s₃ : Shared) : Prop :=
  ∃ k h' tk' m', k < n ∧ s₃ = { s with heap := h', toks := tk' } ∧ Fr h₀ L h' m' ∧ News h₀ L h' news ∧ J k m'
theorem while_frame {E : Value → Shared → Prop} {test : Expr} {body : List Stmt} {pos : Pos} {Q : Flow → Shared → Prop} {m₀ : Str → Option Value} {news : List (Addr × Obj)} (n₀ : Nat)
    (J : Nat → (Str → Option Value) → Prop) (F : Fr h₀ L s.heap m₀) (N : News h₀ L s.heap news) (h0 : J n₀ m₀)
    (turn : ∀ n m h tk, J n m → Fr h₀ L h m → News h₀ L h news →
      wpAny (model prog w) A (isTrue test env (eval test env)) (fun b s₂ => WhlIf b (wpAny (model prog w) A (execs body env) (fun f s₃ => match f with
          | .next | .cont => WhEnd s h₀ L news n J s₃
          | .brk => Q .next s₃
          | .ret v => Q (.ret v) s₃) (fun _ _ => False) s₂) (Q .next s₂)) (fun _ _ => False) { s with heap := h, toks := tk }) :
    wpAny (model prog w) A (exec (.While test body [] pos) env) Q E s := by
  refine wpAny_While (codeAny_whileLoop (fun n s' => ∃ h' tk' m', s' = { s with heap := h', toks := tk' } ∧ Fr h₀ L h' m' ∧ News h₀ L h' news ∧ J n m') ?_ n₀ ⟨_, s.toks, m₀, rfl, F, N, h0⟩)
  rintro n s' hP9
  with_reducible refine hideG fun G kG => ?_
  obtain ⟨h', tk', m', rfl, F', N', hJ⟩ := hP9 <;> (with_reducible refine kG ?_; clear kG G)
  refine wpAny_mono (turn n m' h' tk' hJ F' N') (fun b s₂ h₂ => ?_) fun _ _ y => y.elim
  cases b with
  | true =>
    refine wpAny_mono (show wpAny _ _ _ _ _ _ from h₂) (fun f s₃ h₃ => ?_) fun _ _ y => y.elim
    cases f with
    | next => obtain ⟨k, h1, t1, m1, hk, e, r⟩ := h₃; exact ⟨k, hk, h1, t1, m1, e, r⟩
    | cont => obtain ⟨k, h1, t1, m1, hk, e, r⟩ := h₃; exact ⟨k, hk, h1, t1, m1, e, r⟩
    | brk => exact h₃
    | ret v => exact h₃
  | false => exact wpAny_execs_nil h₂
end
end
section
set_option maxRecDepth 100000
set_option maxHeartbeats 1000000
noncomputable abbrev slt (x y : Str) : Prop := x.cps.toList < y.cps.toList
noncomputable def cz (x y : Str) : Int := b2i (decide (y.cps.toList < x.cps.toList)) - b2i (decide (x.cps.toList < y.cps.toList))
theorem slt_irrefl (x : Str) : ¬ slt x x := List.lt_irrefl _
theorem slt_trans {x y z : Str} (a : slt x y) (b : slt y z) : slt x z := List.lt_trans a b
theorem slt_asymm {x y : Str} (a : slt x y) : ¬ slt y x := fun b => slt_irrefl x (slt_trans a b)
theorem str_ext {x y : Str} (h : x.cps.toList = y.cps.toList) : x = y := by
  obtain ⟨a⟩ := x; obtain ⟨b⟩ := y
  exact congrArg Str.mk (Array.toList_inj.mp h)
theorem slt_tri {x y : Str} (a : ¬ slt x y) (b : ¬ slt y x) : x = y :=
  str_ext (List.le_antisymm (List.not_lt.mp b) (List.not_lt.mp a))
theorem cz_neg (x y : Str) : decide (cz x y < 0) = decide (slt x y) := by
  unfold cz
  by_cases h : slt x y
  · have h' := slt_asymm h
    unfold slt at h h'
    simp [b2i, h, h', slt]
  · have h0 : ¬ x.cps.toList < y.cps.toList := h
    by_cases h' : slt y x
    · have h1 : y.cps.toList < x.cps.toList := h'
      simp [b2i, h0, h1, slt]
    · have h1 : ¬ y.cps.toList < x.cps.toList := h'
      simp [b2i, h0, h1, slt]
theorem cz_ne (x y : Str) : (cz x y != 0) = decide (slt x y ∨ slt y x) := by
  unfold cz
  by_cases h : slt x y
  · have h' := slt_asymm h
    have a : x.cps.toList < y.cps.toList := h
    have b : ¬ y.cps.toList < x.cps.toList := h'
    simp [b2i, a, b, slt]
  · have a : ¬ x.cps.toList < y.cps.toList := h
    by_cases h' : slt y x
    · have b : y.cps.toList < x.cps.toList := h'
      simp [b2i, a, b, slt]
    · have b : ¬ y.cps.toList < x.cps.toList := h'
      simp [b2i, a, b, slt]

noncomputable def FileAt (h : Heap) (v : Value) (f : FD) : Prop := f ∈ allF ∧ ∃ a t b vs c us, v = .ref a ∧ h.get? a = some (tupO [.str f.text t, .ref b, .ref c] 0) ∧ h.get? b = some (listOf vs.toArray 0) ∧ h.get? c = some (listOf us.toArray 0) ∧ StrsAre vs f.folders ∧ StrsAre us f.pieces
inductive FilesAt (h : Heap) : List Value → List FD → Prop
  | nil : FilesAt h [] []
  | cons {v : Value} {f : FD} {vs : List Value} {fs : List FD} : FileAt h v f → FilesAt h vs fs → FilesAt h (v :: vs) (f :: fs)
theorem FilesAt.length {h : Heap} {vs : List Value} {fs : List FD} (H : FilesAt h vs fs) : vs.length = fs.length := by
  induction H with
  | nil => rfl
  | cons _ _ ih => exact congrArg (· + 1) ih
theorem FilesAt.get {h : Heap} {vs : List Value} {fs : List FD} (H : FilesAt h vs fs) : ∀ {i : Nat} {v : Value}, vs[i]? = some v → ∃ f, fs[i]? = some f ∧ FileAt h v f := by
  induction H with
  | nil => intro i v e; simp at e
  | cons x r ih =>
    intro i v e
    cases i with
    | zero => simp at e; subst e; exact ⟨_, rfl, x⟩
    | succ i => simpa using ih (i := i) (by simpa using e)
theorem FilesAt.out {h : Heap} {vs : List Value} {fs : List FD} (H : FilesAt h vs fs) {i : Nat} {v : Value} (hv : vs[i]? = some v) {P : Prop}
    (k : ∀ f, fs[i]? = some f → f ∈ allF → ∀ a t b us c ws, v = .ref a → h.get? a = some (tupO [.str f.text t, .ref b, .ref c] 0) → h.get? b = some (listOf (List.toArray us) 0) → h.get? c = some (listOf (List.toArray ws) 0) → StrsAre us f.folders → StrsAre ws f.pieces → P) : P := by
  obtain ⟨f, hf, hm, a, t, b, us, c, ws, e1, e2, e3, e4, e5, e6⟩ := H.get hv
  exact k f hf hm a t b us c ws e1 e2 e3 e4 e5 e6
theorem FilesAt.take {h : Heap} {vs : List Value} {fs : List FD} (H : FilesAt h vs fs) : ∀ k, FilesAt h (vs.take k) (fs.take k) := by
  induction H with
  | nil => intro k; cases k <;> exact .nil
  | cons x r ih =>
    intro k
    cases k with
    | zero => exact .nil
    | succ k => exact .cons x (ih k)
theorem FilesAt.drop {h : Heap} {vs : List Value} {fs : List FD} (H : FilesAt h vs fs) : ∀ k, FilesAt h (vs.drop k) (fs.drop k) := by
  induction H with
  | nil => intro k; cases k <;> exact .nil
  | cons x r ih =>
    intro k
    cases k with
    | zero => exact .cons x r
    | succ k => exact ih k
theorem FilesAt.append {h : Heap} {vs : List Value} {fs : List FD} (H : FilesAt h vs fs) {us : List Value} {gs : List FD} (y : FilesAt h us gs) : FilesAt h (vs ++ us) (fs ++ gs) := by
  induction H with
  | nil => exact y
  | cons x r ih => exact .cons x ih
theorem FileAt.mono {h h' : Heap} (e : Ext h h') {v : Value} {f : FD} (x : FileAt h v f) : FileAt h' v f := by
  obtain ⟨m, a, t, b, vs, c, us, e1, e2, e3, e4, r⟩ := x
  exact ⟨m, a, t, b, vs, c, us, e1, e _ _ e2, e _ _ e3, e _ _ e4, r⟩
theorem FilesAt.mono {h h' : Heap} (e : Ext h h') {vs : List Value} {fs : List FD} (H : FilesAt h vs fs) : FilesAt h' vs fs := by
  induction H with
  | nil => exact .nil
  | cons x r ih => exact .cons (x.mono e) ih
theorem FilesAt.reverse {h : Heap} {vs : List Value} {fs : List FD} (H : FilesAt h vs fs) : FilesAt h vs.reverse fs.reverse := by
  induction H with
  | nil => exact .nil
  | cons x r ih => rw [List.reverse_cons, List.reverse_cons]; exact ih.append (.cons x .nil)
theorem FilesAt.allF {h : Heap} {vs : List Value} {fs : List FD} (H : FilesAt h vs fs) : ∀ f ∈ fs, f ∈ allF := by
  induction H with
  | nil => intro f h; exact nomatch h
  | cons x r ih =>
    intro f h
    rcases List.mem_cons.mp h with rfl | h
    · exact x.1
    · exact ih f h

/-- strictly rising by text -/
noncomputable def Rise (gs : List FD) : Prop := gs.Pairwise fun f g => slt f.text g.text
theorem rise_insert {gs : List FD} {f : FD} {k : Nat} (hr : Rise gs) (hk : k ≤ gs.length) (lo : k = 0 ∨ ∃ g, gs[k - 1]? = some g ∧ slt g.text f.text) (hi : ∀ j g, k ≤ j → gs[j]? = some g → slt f.text g.text) :
    Rise (gs.take k ++ f :: gs.drop k) := by
  unfold Rise at *
  have hsplit : gs = gs.take k ++ gs.drop k := (List.take_append_drop k gs).symm
  rw [hsplit, List.pairwise_append] at hr
  obtain ⟨h1, h2, h3⟩ := hr
  have below : ∀ a ∈ gs.take k, slt a.text f.text := by
    rcases lo with rfl | ⟨g, hg, hgf⟩
    · simp
    · intro a ha
      by_cases hk0 : k = 0
      · subst hk0; simp at ha
      have hlast : (gs.take k) = gs.take (k - 1) ++ [g] := by
        have : k = (k - 1) + 1 := by omega
        rw [this, List.take_add_one, hg]; simp
      rw [hlast] at ha h1
      rcases List.mem_append.mp ha with q | q
      · exact slt_trans ((List.pairwise_append.mp h1).2.2 a q g (by simp)) hgf
      · rw [List.mem_singleton.mp q]; exact hgf
  have above : ∀ b ∈ gs.drop k, slt f.text b.text := by
    intro b hb
    obtain ⟨j, hj, rfl⟩ := List.getElem_of_mem hb
    rw [List.getElem_drop]
    exact hi (k + j) _ (by omega) (List.getElem?_eq_getElem _)
  rw [List.pairwise_append, List.pairwise_cons]
  refine ⟨h1, ⟨above, h2⟩, ?_⟩
  intro a ha b hb
  rcases List.mem_cons.mp hb with rfl | hb
  · exact below a ha
  · exact h3 a ha b hb
end
section
set_option maxRecDepth 100000
set_option maxHeartbeats 1000000
theorem kw_F5_0 : True := by
  k_with_none
  k_with "call ref" => (k_here; k_dflt (refine wpAny_call ?_; refine' code_def0 ?kq_k2 ?kq_k3 ?kq_k4 ?kq_k5 ?kq_k6 ?kq_k7 ?kq_k8 ?kq_k9 ?kq_kB ?_ ?kq_c2 ?kq_c3 ?kq_c4 ?kq_c5; (case kq_k2 => k_asm); (case kq_k3 => k_asm); (case kq_k4 => k_asm); (case kq_k5 => k_asm); (case kq_k6 => k_is); (case kq_k7 => k_is); (case kq_k8 => k_room); (case kq_k9 => exact BindsTo.of_eq rfl); (case kq_c5 => decide); (case kq_kB => exact locs rfl); (case kq_c2 => exact rfl); (case kq_c3 => exact rfl); (case kq_c4 => exact rfl); k_whole; intro _ _ _ _ _ _ _ _; (try dsimp only); (try k_fold)))
  k_with "M enter" => (refine' enter0 ?kq_k3 ?kq_k5 ?kq_k6 ?kq_k7 ?kq_k8 ?kq_k9 ?kq_kB ?_ ?kq_c2 ?kq_c3 ?kq_c4 ?kq_c5; (case kq_k3 => assumption); (case kq_k5 => assumption); (case kq_k6 => k_is); (case kq_k7 => k_is); (case kq_k8 => decide); (case kq_k9 => exact BindsTo.of_eq rfl); (case kq_kB => exact locs rfl); (case kq_c2 => rfl); (case kq_c3 => rfl); (case kq_c4 => rfl); (case kq_c5 => decide); intro _ _ _ _; dsimp only; k_fold)
  k_with "M steps" => repeat' (first | (k_unfold; (try dsimp only)) | walk1 | (dsimp only; walk1))
  k_with "M end" => ((try dsimp only); (try k_unfold); (try dsimp only))
  k_with "ite" => first | (refine PySem.W.ite_pos (by assumption) ?_) | (refine PySem.W.ite_neg (by assumption) ?_) | (refine PySem.W.ite_neg (ne_true_of_eq_false (by assumption)) ?_)
  exact True.intro
theorem kfill_once5 : (fun (_ : OpenLaw) (_ : Params → Frag) => True) PySem.Challenge.rw_ny0070_01 hd.heap_39 := by k_fill; w_on; trivial
variable {prog : Program} {w : World} {mean : ExcName → Option Value} {mg mb : Str → Option Value} {s : Shared}
noncomputable def Fin9 (P : Prop) : Prop := P
theorem cut_stmt {M : Model} {A : Around} {Q : Flow → Shared → Prop} {E : Value → Shared → Prop} {st : Stmt} {rest : List Stmt} {env : Env} (J : Shared → Prop) (h1 : wpAny M A (exec st env) (fun f s' => Fin9 (f = .next ∧ J s')) E s)
    (h2 : ∀ s', J s' → wpAny M A (execs rest env) Q E s') : wpAny M A (execs (st :: rest) env) Q E s := by
  rw [execs_cons]
  refine wpAny_bind (wpAny_mono h1 (fun f s' h => ?_) fun _ _ e => e)
  obtain ⟨rfl, h⟩ := h
  exact h2 s' h
theorem Fr.known {h₀ h : Heap} {L : Addr} {m : Str → Option Value} {x : Str} {v : Value} (F : Fr h₀ L h m) (hx : m x = some v) : Fr h₀ L h (fun y => if y = x then some v else m y) := by
  have e : (fun y => if y = x then some v else m y) = m := by
    funext y
    by_cases q : y = x
    · rw [if_pos q, q, hx]
    · rw [if_neg q]
  rw [e]; exact F
theorem Fr.known2 {h₀ h : Heap} {L : Addr} {m : Str → Option Value} {x1 x2 : Str} {v1 v2 : Value} (F : Fr h₀ L h m) (e1 : m x1 = some v1) (e2 : m x2 = some v2) : Fr h₀ L h (fun y => if y = x1 then some v1 else if y = x2 then some v2 else m y) := by
  have e : (fun y => if y = x1 then some v1 else if y = x2 then some v2 else m y) = m := by
    funext y
    split
    · rename_i q; rw [q, e1]
    · split
      · rename_i q; rw [q, e2]
      · rfl
  rw [e]; exact F
theorem Fr.known3 {h₀ h : Heap} {L : Addr} {m : Str → Option Value} {x1 x2 x3 : Str} {v1 v2 v3 : Value} (F : Fr h₀ L h m) (e1 : m x1 = some v1) (e2 : m x2 = some v2) (e3 : m x3 = some v3) : Fr h₀ L h (fun y => if y = x1 then some v1 else if y = x2 then some v2 else if y = x3 then some v3 else m y) := by
  have e : (fun y => if y = x1 then some v1 else if y = x2 then some v2 else if y = x3 then some v3 else m y) = m := by
    funext y
    split
    · rename_i q; rw [q, e1]
    · split
      · rename_i q; rw [q, e2]
      · split
        · rename_i q; rw [q, e3]
        · rfl
  rw [e]; exact F
theorem Fr.known4 {h₀ h : Heap} {L : Addr} {m : Str → Option Value} {x1 x2 x3 x4 : Str} {v1 v2 v3 v4 : Value} (F : Fr h₀ L h m) (e1 : m x1 = some v1) (e2 : m x2 = some v2) (e3 : m x3 = some v3) (e4 : m x4 = some v4) : Fr h₀ L h (fun y => if y = x1 then some v1 else if y = x2 then some v2 else if y = x3 then some v3 else if y = x4 then some v4 else m y) := by
  have e : (fun y => if y = x1 then some v1 else if y = x2 then some v2 else if y = x3 then some v3 else if y = x4 then some v4 else m y) = m := by
    funext y
    split
    · rename_i q; rw [q, e1]
    · split
      · rename_i q; rw [q, e2]
      · split
        · rename_i q; rw [q, e3]
        · split
          · rename_i q; rw [q, e4]
          · rfl
  rw [e]; exact F
theorem strcoll_spec {x y : Str} {t u : Tok} 
   (X : (hd.heap_39 w.params).In s.heap) (T : Top hd.view_39 (looseW hd.view_39 []) mean mg mb s.heap) :
   codeAny (model prog w) (AA 700 700) (.call (.ref 118) ⟨[.str x t, .str y u], []⟩) (Back s (fun v fr => (∃ t', v = .int (cz x y) t') ∧ fr = [])) s := by
  walk_at "M enter"
  w_strict (walk_at "M steps")
  walk_at "M end"
  exact back_of (fresh := []) (by assumption) (by assumption) (fun _ h => nomatch h) ⟨⟨_, rfl⟩, rfl⟩
theorem list_pick {A : Around} {E : Value → Shared → Prop} {Q : Value → Shared → Prop} {value slice : Expr} {a : Addr} {vs : List Value} {k : Int} {u : Tok} (t : s.heap.IsList a vs.toArray) (h0 : 0 ≤ k) (h1 : k < (vs.length : Int)) (h2 : vs.length ≤ 100)
    (h : ∀ v, vs[k.toNat]? = some v → Q v s) (hs : subscripted slice false (.ref a) (.int k u) = operate [.ref a, .int k u] (getItem (.ref a) (.int k u)) := by with_unfolding_all rfl) :
    wpAny (model prog w) A (subscriptTail value slice (.ref a) (.int k u)) Q E s := by
  have hl : k.toNat < vs.length := by omega
  exact tail_any t.typeIs slot_list_getitem.lookup (wpAny_getItem_list (x := vs[k.toNat]) t h0 (by omega) (by simp [hl]) (h _ (List.getElem?_eq_getElem hl))) hs
theorem kw_F5_1 : True := by
  k_with "call ref" => (k_here; (with_reducible show wpAny _ _ (call (Value.ref 118) _) _ _ _); k_dflt (refine' use_back (strcoll_spec ?kq_kx ?kq_kt) ?kq_kf ?kq_kn ?_; (case kq_kx => k_in); (case kq_kt => exact Top.keeps (by assumption) (Fr.keep (by k_asm))); (case kq_kf => k_asm); (case kq_kn => k_asm); intro _ _ _ _ _ N' hne' e' hP'; obtain ⟨⟨_, hP1⟩, hP2⟩ := hP'; subst hP1; subst hP2; (simp only [List.nil_append] at N'); clear hne' e'; revert N'; intro _; (try dsimp only); (try k_fold)))
  exact True.intro
theorem len_plain {A : Around} {E : Value → Shared → Prop} {Q : Value → Shared → Prop} {a : Addr} {vs : List Value} (t : s.heap.IsList a vs.toArray) (h2 : vs.length ≤ 1000) (h : ∀ t' k, Q (.int (vs.length : Int) t') { s with toks := k }) :
    wpAny (model prog w) A (call (.builtin "len") [.ref a]) Q E s := len_list t (by rw [List.size_toArray]; omega) (by simpa using h _ _)
theorem kw_F5_2 : True := by
  k_with "call builtin:len" => (k_here; (with_reducible show wpAny _ _ (call (Value.builtin "len") [Value.ref _]) _ _ _); k_dflt (refine' len_plain ?kq_t ?kq_k2 ?_; (case kq_t => first | exact News.isList (by k_asm) (by k_mem)); (case kq_k2 => first | omega | (have := FilesAt.length (by with_reducible assumption); omega))); intro _ _)
  exact True.intro
-- a file's place, a row's file
section
variable {A : Around} {E : Value → Shared → Prop} {Q : Value → Shared → Prop} {h₀ : Heap} {L : Addr} {m : Str → Option Value} {value slice : Expr} {a b c : Addr} {x : Str} {t u : Tok}
theorem file_0 (F : Fr h₀ L s.heap m) (e : h₀.get? a = some (tupO [.str x t, .ref b, .ref c] 0)) (h : Q (.str x t) s)
    (hs : subscripted slice false (.ref a) (.int 0 u) = operate [.ref a, .int 0 u] (getItem (.ref a) (.int 0 u)) := by with_unfolding_all rfl) : wpAny (model prog w) A (subscriptTail value slice (.ref a) (.int 0 u)) Q E s :=
  item_tupleT (l := [.str x t, .ref b, .ref c]) ⟨_, F.keep _ _ e, rfl, 0, rfl⟩ (by decide) (by decide) (j := 0) rfl rfl h hs
theorem file_1 (F : Fr h₀ L s.heap m) (e : h₀.get? a = some (tupO [.str x t, .ref b, .ref c] 0)) (h : Q (.ref b) s)
    (hs : subscripted slice false (.ref a) (.int 1 u) = operate [.ref a, .int 1 u] (getItem (.ref a) (.int 1 u)) := by with_unfolding_all rfl) : wpAny (model prog w) A (subscriptTail value slice (.ref a) (.int 1 u)) Q E s :=
  item_tupleT (l := [.str x t, .ref b, .ref c]) ⟨_, F.keep _ _ e, rfl, 0, rfl⟩ (by decide) (by decide) (j := 1) rfl rfl h hs
theorem file_2 (F : Fr h₀ L s.heap m) (e : h₀.get? a = some (tupO [.str x t, .ref b, .ref c] 0)) (h : Q (.ref c) s)
    (hs : subscripted slice false (.ref a) (.int 2 u) = operate [.ref a, .int 2 u] (getItem (.ref a) (.int 2 u)) := by with_unfolding_all rfl) : wpAny (model prog w) A (subscriptTail value slice (.ref a) (.int 2 u)) Q E s :=
  item_tupleT (l := [.str x t, .ref b, .ref c]) ⟨_, F.keep _ _ e, rfl, 0, rfl⟩ (by decide) (by decide) (j := 2) rfl rfl h hs
end
theorem kw_F5_3 : True := by
  k_with "subscriptTail Name Constant ref int" => (k_here; first | (with_reducible refine file_0 (by k_asm) (by with_reducible assumption) ?_) | (with_reducible refine file_1 (by k_asm) (by with_reducible assumption) ?_) | (with_reducible refine file_2 (by k_asm) (by with_reducible assumption) ?_))
  k_with "subscriptTail Subscript Name BinOp Constant ref int" => (k_here; first | (with_reducible refine file_0 (by k_asm) (by with_reducible assumption) ?_) | (with_reducible refine file_1 (by k_asm) (by with_reducible assumption) ?_) | (with_reducible refine file_2 (by k_asm) (by with_reducible assumption) ?_))
  k_with "subscriptTail Name BinOp ref int" => (k_here; k_dflt (refine' list_pick ?kq_t ?kq_k0 ?kq_k1 ?kq_k2 ?_; (case kq_t => exact News.isList (by k_asm) (by k_mem)); (case kq_k0 => omega); (case kq_k1 => omega); (case kq_k2 => omega)); intro _ hv'; refine FilesAt.out (by with_reducible assumption) hv' ?_; clear hv'; intro _ _ _ _ _ _ _ _ _ e1' _ _ _ _ _; subst e1')
  exact True.intro
theorem cz_lt {x y : Str} : cz x y < 0 ↔ slt x y := by
  have := cz_neg x y
  rw [decide_eq_decide] at this
  exact this
theorem kw_F5_4 : True := by
  k_with "call builtin:list.insert" => (k_here; (try dsimp only [List.nil_append, List.cons_append]); (with_reducible show wpAny _ _ (call (Value.builtin _) [Value.ref _, Value.int _ _, _]) _ _ _); k_dflt (refine' kl_insert ?kq_F ?kq_N ?kq_f rfl ?kq_U ?kq_z ?_; (case kq_F => k_asm); (case kq_N => k_asm); (case kq_U => k_upd); (case kq_f => simp [Builtin.List.listFitsIndex]; omega); (case kq_z => rw [sizeLine_eq]; simp; omega)); intro _ _ _)
  exact True.intro
noncomputable def RowJ (h₀ : Heap) (i : Nat) (m : Str → Option Value) (news : List (Addr × Obj)) : Prop :=
  ∃ r rs n gs, m (Str.ofString "row") = some (.ref r) ∧ news = [(r, listOf (List.toArray rs) n)] ∧ FilesAt h₀ rs gs ∧ Rise gs ∧ gs.length ≤ i
theorem noiter_one {r : Addr} {its : Array Value} {n : Nat} : NoIter [(r, listOf its n)] := by
  intro p hp
  rw [List.mem_singleton.mp hp]
  rintro ⟨_, vs, q⟩
  cases q
theorem row_ins {h : Heap} {rs : List Value} {gs : List FD} {a : Addr} {f : FD} {kk : Int} (hA : FilesAt h rs gs) (hB : Rise gs) (hf : FileAt h (.ref a) f) (h0 : 0 ≤ kk) (h1 : kk ≤ (rs.length : Int))
    (lo : kk = 0 ∨ ∃ g, gs[(kk - 1).toNat]? = some g ∧ slt g.text f.text) (hi : ∀ j g, kk.toNat ≤ j → gs[j]? = some g → slt f.text g.text) :
    ∃ gs', FilesAt h (kl_ins rs.toArray.toList kk (.ref a)) gs' ∧ Rise gs' ∧ gs'.length = gs.length + 1 := by
  have hl := hA.length
  have e : kl_ins rs.toArray.toList kk (.ref a) = rs.take kk.toNat ++ .ref a :: rs.drop kk.toNat := by
    unfold kl_ins
    have hm : min kk.toNat rs.toArray.toList.length = kk.toNat := by simp; omega
    rw [if_neg (by omega), hm]
  refine ⟨gs.take kk.toNat ++ f :: gs.drop kk.toNat, ?_, rise_insert hB (by omega) ?_ hi, ?_⟩
  · rw [e]; exact (hA.take _).append (.cons hf (hA.drop _))
  · rcases lo with q | ⟨g, hg, hlt⟩
    · exact .inl (by omega)
    · by_cases q : kk = 0
      · exact .inl (by omega)
      · exact .inr ⟨g, by rw [← hg]; congr 1; omega, hlt⟩
  · simp only [List.length_append, List.length_take, List.length_cons, List.length_drop]; omega
theorem cz_zero {x y : Str} (h : cz x y ≠ 0) : slt x y ∨ slt y x := by
  have := cz_ne x y
  rw [(bne_iff_ne).mpr h] at this
  exact of_decide_eq_true this.symm
theorem row_low {gs : List FD} {kk : Int} {f g : FD} (hlow : kk = 0 ∨ ∃ g, gs[(kk - 1).toNat]? = some g ∧ ¬ slt f.text g.text) (_hi : ∀ j g, kk.toNat ≤ j → gs[j]? = some g → slt f.text g.text)
    (hg : gs[(kk - 1).toNat]? = some g) (hc : cz f.text g.text ≠ 0) : kk = 0 ∨ ∃ g, gs[(kk - 1).toNat]? = some g ∧ slt g.text f.text := by
  rcases hlow with q | ⟨g', hg', hn⟩
  · exact .inl q
  · rw [hg] at hg'
    cases hg'
    exact .inr ⟨g, hg, (cz_zero hc).resolve_left hn⟩
noncomputable def RowP (h : Heap) (v : Value) (fr : List (Addr × Obj)) : Prop := ∃ r rs n gs, v = .ref r ∧ fr = [(r, listOf (List.toArray rs) n)] ∧ FilesAt h rs gs ∧ Rise gs ∧ gs.length ≤ 50
theorem row_spec {l : Addr} {vs : List Value} {fs : List FD} (hl : s.heap.IsList l vs.toArray) (hf : FilesAt s.heap vs fs) (hlen : fs.length ≤ 50)
   (X : (hd.heap_39 w.params).In s.heap) (T : Top hd.view_39 (looseW hd.view_39 []) mean mg mb s.heap) :
   codeAny (model prog w) (AA 600 600) (.call (.ref 139) ⟨[.ref l], []⟩) (Back s (RowP s.heap)) s := by
  walk_at "M enter"
  rename_i L h1 F N
  with_reducible refine cut_stmt (fun s' => ∀ G : Prop, (∀ h' tk' r m, s' = { s with heap := h', toks := tk' } → Fr s.heap L h' m → m (Str.ofString "row") = some (.ref r) → m (Str.ofString "files") = some (.ref l) → News s.heap L h' [(r, listOf ([] : List Value).toArray 0)] → G) → G) ?_ ?_
  · w_strict (walk_at "M steps")
    exact ⟨rfl, fun _ k => k _ _ _ _ rfl (by with_reducible assumption) rfl rfl (by with_reducible assumption)⟩
  clear F N
  rintro s' hP9
  with_reducible refine hP9 _ ?_
  clear hP9
  intro h' tk' r m e9 F hrow hfiles N
  subst e9
  have F := Fr.known F hfiles
  with_reducible refine cut_stmt (fun s' => ∀ G : Prop, (∀ h' tk' m news, s' = { s with heap := h', toks := tk' } → Fr s.heap L h' m → News s.heap L h' news → RowJ s.heap vs.length m news → G) → G) ?_ ?_
  · with_reducible refine wpAny_For ?_ ?hs
    case hs => intro _; rfl
    w_strict (walk_at "M steps")
    refine for_frame (h₀ := s.heap) (L := L) (vs := vs) (Q := fun f s' => Fin9 (f = Flow.next ∧ ∀ G : Prop, (∀ h' tk' m news, s' = { s with heap := h', toks := tk' } → Fr s.heap L h' m → News s.heap L h' news → RowJ s.heap vs.length m news → G) → G)) rfl (RowJ s.heap) F N hl ?hn ?h0 ?turn ?done
    case hn => exact noiter_one
    case h0 => exact ⟨r, [], 0, [], by show (if _ then _ else _) = _; rw [if_neg (by decide)]; exact hrow, rfl, .nil, List.Pairwise.nil, Nat.le_refl _⟩
    case done => intro m news h tk hJ F N; exact ⟨rfl, fun _ k => k h tk m news rfl F N hJ⟩
    case turn =>
      clear F N hrow hfiles
      rintro i v m news h tk I oI hv hP9 F N hI hoff
      with_reducible refine hideG fun G kG => ?_
      obtain ⟨r, rs, n, gs, hrow, rfl, hA, hB, hC⟩ := hP9 <;> (with_reducible refine kG ?_; clear kG G)
      have F := Fr.known F hrow
      refine hf.out hv ?_
      intro f hfi hfm a t b fvs c us e10 e2 e3 e4 e5 e6
      subst e10
      have hilen : i < 50 := by have := (List.getElem?_eq_some_iff.mp hfi).1; omega
      with_reducible refine wpAny_assign_Name (stN F N ?_ ?_ ?_)
      case refine_2 => rfl
      case refine_3 => rfl
      intro h₁ F N
      with_reducible refine cut_stmt (fun s' => ∀ G : Prop, (∀ h' tk' m t, s' = { s with heap := h', toks := tk' } → Fr s.heap L h' m → m (Str.ofString "row") = some (.ref r) → m (Str.ofString "file") = some (.ref a) → m (Str.ofString "k") = some (.int (rs.length : Int) t) → News s.heap L h' [(I, oI), (r, listOf rs.toArray n)] → G) → G) ?_ ?_
      · w_strict (walk_at "M steps")
        exact ⟨rfl, fun _ k => k _ _ _ _ rfl (by with_reducible assumption) rfl rfl rfl (by with_reducible assumption)⟩
      clear F N hrow
      rintro s' hP9
      with_reducible refine hP9 _ ?_
      clear hP9
      intro h' tk' m t1 e9 F hrow hfile hk N
      subst e9
      with_reducible refine cut_stmt (fun s' => ∀ G : Prop, (∀ h' tk' m t kk, s' = { s with heap := h', toks := tk' } → Fr s.heap L h' m → m (Str.ofString "row") = some (.ref r) → m (Str.ofString "file") = some (.ref a) → m (Str.ofString "k") = some (.int kk t) → News s.heap L h' [(I, oI), (r, listOf rs.toArray n)] → 0 ≤ kk → kk ≤ (rs.length : Int) → (kk = 0 ∨ ∃ g, gs[(kk - 1).toNat]? = some g ∧ ¬ slt f.text g.text) → (∀ j g, kk.toNat ≤ j → gs[j]? = some g → slt f.text g.text) → G) → G) ?_ ?_
      · refine while_frame (h₀ := s.heap) (L := L) (news := [(I, oI), (r, listOf rs.toArray n)]) rs.length (fun n m => ∃ t, m (Str.ofString "row") = some (.ref r) ∧ m (Str.ofString "file") = some (.ref a) ∧ m (Str.ofString "k") = some (.int (n : Int) t) ∧ n ≤ rs.length ∧ (∀ j g, n ≤ j → gs[j]? = some g → slt f.text g.text)) F N ⟨t1, hrow, hfile, hk, Nat.le_refl _, ?_⟩ ?_
        · intro j g hj hg
          have := (List.getElem?_eq_some_iff.mp hg).1
          have := hA.length
          omega
        clear F N hrow hfile hk
        rintro n₁ m h tk hP9 F N
        with_reducible refine hideG fun G kG => ?_
        obtain ⟨t, hrow, hfile, hk, hn, hhi⟩ := hP9 <;> (with_reducible refine kG ?_; clear kG G)
        have F := Fr.known3 F hrow hfile hk
        have hrl := hA.length
        refine wpAny_mono (Q := fun b s₂ => Fin9 ((∃ h' tk' m, s₂ = { s with heap := h', toks := tk' } ∧ Fr s.heap L h' m ∧ m (Str.ofString "row") = some (.ref r) ∧ m (Str.ofString "file") = some (.ref a) ∧ m (Str.ofString "k") = some (.int (n₁ : Int) t) ∧ News s.heap L h' [(I, oI), (r, listOf rs.toArray n)]) ∧
          ((b = true ∧ 0 < n₁ ∧ ∃ g, gs[((n₁ : Int) - 1).toNat]? = some g ∧ slt f.text g.text) ∨ (b = false ∧ (n₁ = 0 ∨ ∃ g, gs[((n₁ : Int) - 1).toNat]? = some g ∧ ¬ slt f.text g.text))))) (E := fun _ _ => False) ?_ ?_ (fun _ _ y => y)
        · w_strict (walk_at "M steps")
          · exact ⟨⟨_, _, _, rfl, by with_reducible assumption, rfl, rfl, rfl, by with_reducible assumption⟩, .inl ⟨rfl, by omega, _, by with_reducible assumption, cz_lt.mp (by with_reducible assumption)⟩⟩
          · exact ⟨⟨_, _, _, rfl, by with_reducible assumption, rfl, rfl, rfl, by with_reducible assumption⟩, .inr ⟨rfl, .inr ⟨_, by with_reducible assumption, fun q => absurd (cz_lt.mpr q) (by with_reducible assumption)⟩⟩⟩
          · exact ⟨⟨_, _, _, rfl, by with_reducible assumption, rfl, rfl, rfl, by with_reducible assumption⟩, .inr ⟨rfl, .inl (by omega)⟩⟩
        · clear F N hrow hfile hk
          rintro b₁ s₂ hP9
          with_reducible refine hideG fun G kG => ?_
          obtain ⟨⟨h', tk', m, rfl, F, hrow, hfile, hk, N⟩, ⟨rfl, hpos, g, hg, hlt⟩ | ⟨rfl, hend⟩⟩ := hP9 <;> (with_reducible refine kG ?_; clear kG G)
          · refine WhlIf.yes rfl ?_
            have F := Fr.known3 F hrow hfile hk
            w_strict (walk_at "M steps")
            refine ⟨n₁ - 1, _, _, _, by omega, rfl, by with_reducible assumption, by with_reducible assumption, ?_⟩
            show ∃ t, _ ∧ _ ∧ _ = some (Value.int ((n₁ - 1 : Nat) : Int) t) ∧ _
            rw [show ((n₁ - 1 : Nat) : Int) = (n₁ : Int) - 1 by omega]
            refine ⟨_, rfl, rfl, rfl, by omega, ?_⟩
            · intro j g' hj hg'
              by_cases q : j = n₁ - 1
              · rw [show ((n₁ : Int) - 1).toNat = j by omega, hg'] at hg
                cases hg
                exact hlt
              · exact hhi j g' (by omega) hg'
          · refine WhlIf.no rfl ?_
            exact ⟨rfl, fun _ k => k _ _ _ _ _ rfl F hrow hfile hk N (by omega) (by omega) (by rcases hend with q | q; exact .inl (by omega); exact .inr q) (by simpa using hhi)⟩
      clear F N hrow hfile hk
      rintro s' hP9
      with_reducible refine hP9 _ ?_
      clear hP9
      intro h' tk' m t1 kk e9 F hrow hfile hk N hk0 hk1 hlow hhigh
      subst e9
      have F := Fr.known3 F hrow hfile hk
      have hrl := hA.length
      have hfa : FileAt s.heap (.ref a) f := ⟨hfm, a, t, b, fvs, c, us, rfl, e2, e3, e4, e5, e6⟩
      have hIr : I ≠ r := Ne.symm (hoff _ (.head _))
      w_strict (walk_at "M steps")
      · obtain ⟨gs', q1, q2, q3⟩ := row_ins hA hB hfa hk0 hk1 (.inl (by with_reducible assumption)) hhigh
        exact ⟨_, _, _, _, _, rfl, by with_reducible assumption, by with_reducible assumption, hI, noiter_one, r, _, _, gs', rfl, rfl, q1, q2, by omega⟩
      · obtain ⟨gs', q1, q2, q3⟩ := row_ins hA hB hfa hk0 hk1 (row_low hlow hhigh (by with_reducible assumption) (by with_reducible assumption)) hhigh
        exact ⟨_, _, _, _, _, rfl, by with_reducible assumption, by with_reducible assumption, hI, noiter_one, r, _, _, gs', rfl, rfl, q1, q2, by omega⟩
      · exact ⟨_, _, _, _, _, rfl, by with_reducible assumption, by with_reducible assumption, hI, noiter_one, r, rs, n, gs, rfl, rfl, hA, hB, by omega⟩
  · clear F N hrow hfiles
    rintro s' hP9
    with_reducible refine hP9 _ ?_
    clear hP9
    intro h' tk' m news e9 F N hP8
    subst e9
    with_reducible refine hideG fun G kG => ?_
    obtain ⟨r, rs, n, gs, hrow, rfl, hA, hB, hC⟩ := hP8 <;> (with_reducible refine kG ?_; clear kG G)
    have F := Fr.known F hrow
    w_strict (walk_at "M steps")
    walk_at "M end"
    exact back_of (by with_reducible assumption) (by with_reducible assumption) (fun _ h => h) ⟨_, _, _, _, rfl, rfl, hA, hB, by have := hf.length; omega⟩
end
section
set_option maxRecDepth 100000
set_option maxHeartbeats 4000000
theorem kw_F5c_0 : True := by
  k_with_none
  k_with "call ref" => (k_here; k_dflt (refine wpAny_call ?_; refine' code_def0 ?kq_k2 ?kq_k3 ?kq_k4 ?kq_k5 ?kq_k6 ?kq_k7 ?kq_k8 ?kq_k9 ?kq_kB ?_ ?kq_c2 ?kq_c3 ?kq_c4 ?kq_c5; (case kq_k2 => k_asm); (case kq_k3 => k_asm); (case kq_k4 => k_asm); (case kq_k5 => k_asm); (case kq_k6 => k_is); (case kq_k7 => k_is); (case kq_k8 => k_room); (case kq_k9 => exact BindsTo.of_eq rfl); (case kq_c5 => decide); (case kq_kB => exact locs rfl); (case kq_c2 => exact rfl); (case kq_c3 => exact rfl); (case kq_c4 => exact rfl); k_whole; intro _ _ _ _ _ _ _ _; (try dsimp only); (try k_fold)))
  k_with "M enter" => (refine' enter0 ?kq_k3 ?kq_k5 ?kq_k6 ?kq_k7 ?kq_k8 ?kq_k9 ?kq_kB ?_ ?kq_c2 ?kq_c3 ?kq_c4 ?kq_c5; (case kq_k3 => assumption); (case kq_k5 => assumption); (case kq_k6 => k_is); (case kq_k7 => k_is); (case kq_k8 => decide); (case kq_k9 => exact BindsTo.of_eq rfl); (case kq_kB => exact locs rfl); (case kq_c2 => rfl); (case kq_c3 => rfl); (case kq_c4 => rfl); (case kq_c5 => decide); intro _ _ _ _; dsimp only; k_fold)
  k_with "M steps" => repeat' (first | (k_unfold; (try dsimp only)) | walk1 | (dsimp only; walk1))
  k_with "M end" => ((try dsimp only); (try k_unfold); (try dsimp only))
  k_with "exec While Compare cons nil" => (k_here; refine whl_start 9 ?_)
  k_with "exec While BoolOp cons nil" => (k_here; refine whl_start 9 ?_)
  k_with "WhlRest" => (refine whl_turn (fun _ _ h => False.elim h) ?_)
  k_with "WhlIf" => first | (refine WhlIf.yes (by first | rfl | assumption | (simp only [decide_eq_true_eq]; omega)) ?_) | (refine WhlIf.no (by first | rfl | assumption | (simp only [decide_eq_false_iff_not]; omega)) ?_)
  k_with "WhlPost" => (unfold WhlPost; dsimp only)
  k_with "ite" => first | (refine PySem.W.ite_pos (by assumption) ?_) | (refine PySem.W.ite_neg (by assumption) ?_) | (refine PySem.W.ite_neg (ne_true_of_eq_false (by assumption)) ?_)
  k_with "subscriptTail Tuple cons BinOp ref int" => (k_here; k_dflt (refine' item_pick ?kq_t ?kq_k0 ?kq_k1 ?kq_k2 ?_; (case kq_t => exact News.isTup (by k_asm) (by k_mem)); (case kq_k0 => first | exact (fmod_lt5 _).1 | exact (fmod_lt4 _).1); (case kq_k1 => first | exact (fmod_lt5 _).2 | exact (fmod_lt4 _).2); (case kq_k2 => exact Nat.le_of_ble_eq_true rfl); intro _ _))
  k_with "call builtin:str.split" => (k_here; k_dflt (refine' sl_split ?kq_F ?kq_N (by decide) (by omega) ?_; (case kq_F => k_asm); (case kq_N => k_asm)); intro _ _ _ _ _ _ _)
  k_with "binaryOp Add ref ref" => (k_here; k_dflt (refine' sl_add ?kq_F ?kq_N ?kq_l ?kq_b ?kq_sa ?kq_sb ?kq_z ?_; (case kq_F => k_asm); (case kq_N => k_asm); (case kq_l => exact News.isList (by k_asm) (by k_mem)); (case kq_b => exact News.isList (by k_asm) (by k_mem)); (case kq_sa => assumption); (case kq_sb => first | assumption | exact StrsAre.nil | exact StrsAre.cons _ _ StrsAre.nil); (case kq_z => simp only [List.length_cons, List.length_nil]; omega)); intro _ _ _ _ _ _)
  k_with "subscriptTail Name Slice ref ref" => (k_here; (with_reducible show wpAny _ _ (subscriptTail _ (PySem.Expr.Slice none (some _) none _) (Value.ref _) (Value.ref _)) _ _ _); k_dflt (refine' sl_butlast ?kq_F ?kq_N ?kq_l ?kq_sa ?kq_z ?_ ?kq_s ?kq_t; (case kq_F => k_asm); (case kq_N => k_asm); (case kq_l => exact News.isList (by k_asm) (by k_mem)); (case kq_sa => assumption); (case kq_z => first | omega | (simp only [List.length_append, List.length_cons, List.length_nil]; omega)); (case kq_s => with_unfolding_all rfl); (case kq_t => kmk_pure)); intro _ _ _ _ _ _)
  k_with "call builtin:str.join" => (k_here; k_dflt (refine' sl_join ?kq_l ?kq_sa ?kq_x ?kq_ok ?_; (case kq_l => exact News.isList (by k_asm) (by k_mem)); (case kq_sa => assumption); (case kq_x => decide); (case kq_ok => assumption)); intro _ _)
  k_with "M file_end" => (refine' file_end ?kq_ht ?kq_hp ?kq_F ?kq_N ?kq_m1 ?kq_m2 ?kq_m3 ?kq_h1 ?kq_h2; (case kq_ht => with_reducible assumption); (case kq_hp => with_reducible assumption); (case kq_F => with_reducible assumption); (case kq_N => with_reducible assumption); (case kq_m1 => k_mem); (case kq_m2 => k_mem); (case kq_m3 => k_mem); (case kq_h1 => with_reducible assumption); (case kq_h2 => with_reducible assumption))
  exact True.intro
theorem kfill_once5c : (fun (_ : OpenLaw) (_ : Params → Frag) => True) PySem.Challenge.rw_ny0070_01 hd.heap_39 := by k_fill; w_on; trivial
variable {prog : Program} {w : World} {mean : ExcName → Option Value} {mg mb : Str → Option Value} {s : Shared}
theorem News.two {g h : Heap} {L : Addr} {news : List (Addr × Obj)} {p q : Addr × Obj} (N : News g L h news) (hp : p ∈ news) (hq : q ∈ news) : News g L h [p, q] := by
  intro r hr
  rcases List.mem_cons.mp hr with rfl | hr
  · exact N _ hp
  · rw [List.mem_singleton.mp hr]; exact N _ hq
theorem News.one {g h : Heap} {L : Addr} {news : List (Addr × Obj)} {p : Addr × Obj} (N : News g L h news) (hp : p ∈ news) : News g L h [p] := by
  intro r hr
  rw [List.mem_singleton.mp hr]; exact N _ hp
theorem file_spec {x : Int} {t : Tok} {f : FD} (hfx : fdOf x = f)
   (X : (hd.heap_39 w.params).In s.heap) (T : Top hd.view_39 (looseW hd.view_39 []) mean mg mb s.heap) :
   codeAny (model prog w) (AA 600 600) (.call (.ref 132) ⟨[.int x t], []⟩) (Back s (FileP f)) s := by
  walk_at "M enter"
  rename_i L h1 F N
  have hfm := fdOf_mem x
  rw [hfx] at hfm
  have hb := all_of bOk_all hfm
  simp only [bOk, jr, Bool.and_eq_true, decide_eq_true_eq] at hb
  obtain ⟨⟨⟨⟨⟨⟨hb1, hb2⟩, hb3⟩, hb6⟩, hb4⟩, hb5⟩, hb7⟩ := hb
  with_reducible refine cut_stmt (fun s' => ∀ G : Prop, (∀ h' tk' m a vs, s' = { s with heap := h', toks := tk' } → Fr s.heap L h' m → m (Str.ofString "x") = some (.int x t) → m (Str.ofString "folders") = some (.ref a) → News s.heap L h' [(a, listOf (List.toArray vs) 0)] → StrsAre vs f.folders → G) → G) ?_ ?_
  · w_strict (walk_at "M steps")
    rename_i v hv h9 F9 N9
    have q : ∃ a vs, v = .ref a ∧ News s.heap L h9 [(a, listOf (List.toArray vs) 0)] ∧ StrsAre vs (foldersL.getD (x.fmod 5).toNat []) := by
      refine pick_folders (t1 := ?_) (t2 := ?_) (t3 := ?_) (t4 := ?_) (t5 := ?_) N9 hv (fmod_lt5 x) ?_
      rotate_right
      simp only [List.forall_mem_cons]
      refine ⟨?_, ?_, ?_, ?_, ?_, ?_⟩
      k_mem
      k_mem
      k_mem
      k_mem
      k_mem
      simp
    clear hv N9
    obtain ⟨a, vs, e1, N1, hsa⟩ := q
    change StrsAre vs (fdOf x).folders at hsa
    rw [hfx] at hsa
    subst e1
    exact ⟨rfl, fun _ k => k _ _ _ a vs rfl F9 rfl rfl N1 hsa⟩
  clear F N
  rintro s' hP9
  with_reducible refine hP9 _ ?_
  clear hP9
  intro h' tk' m a vs e9 F hx hfo N hsa
  subst e9
  replace F := Fr.known2 F hx hfo
  with_reducible refine cut_stmt (fun s' => ∀ G : Prop, (∀ h' tk' m t2, s' = { s with heap := h', toks := tk' } → Fr s.heap L h' m → m (Str.ofString "x") = some (.int x t) → m (Str.ofString "folders") = some (.ref a) → m (Str.ofString "stem") = some (.str f.stem t2) → News s.heap L h' [(a, listOf (List.toArray vs) 0)] → G) → G) ?_ ?_
  · w_strict (walk_at "M steps")
    rename_i v hv h9 F9 N9
    have q := pick_stems hv (fmod_lt5 _)
    obtain ⟨t2, e2⟩ := q
    change v = .str (fdOf x).stem t2 at e2
    rw [hfx] at e2
    subst e2
    exact ⟨rfl, fun _ k => k _ _ _ t2 rfl F9 rfl rfl rfl (News.one N9 (by k_mem))⟩
  clear F N hx hfo m
  rintro s' hP9
  with_reducible refine hP9 _ ?_
  clear hP9
  intro h' tk' m t2 e9 F hx hfo hst N
  subst e9
  replace F := Fr.known3 F hx hfo hst
  with_reducible refine cut_stmt (fun s' => ∀ G : Prop, (∀ h' tk' m v3, s' = { s with heap := h', toks := tk' } → Fr s.heap L h' m → m (Str.ofString "folders") = some (.ref a) → m (Str.ofString "stem") = some (.str f.stem t2) → m (Str.ofString "ending") = some v3 → News s.heap L h' [(a, listOf (List.toArray vs) 0)] → ((v3 = .none ∧ f.ending = none) ∨ ∃ t e, v3 = .str e t ∧ f.ending = some e) → G) → G) ?_ ?_
  · w_strict (walk_at "M steps")
    rename_i v hv h9 F9 N9
    have e3 := pick_ends hv (fmod_lt4 _)
    change (v = .none ∧ (fdOf x).ending = none) ∨ ∃ t e, v = .str e t ∧ (fdOf x).ending = some e at e3
    rw [hfx] at e3
    exact ⟨rfl, fun _ k => k _ _ _ v rfl F9 rfl rfl rfl (News.one N9 (by k_mem)) e3⟩
  clear F N hx hfo hst m
  rintro s' hP9
  with_reducible refine hP9 _ ?_
  clear hP9
  intro h' tk' m v3 e9 F hfo hst hen N e3
  subst e9
  replace F := Fr.known3 F hfo hst hen
  with_reducible refine cut_stmt (fun s' => ∀ G : Prop, (∀ h' tk' m b us, s' = { s with heap := h', toks := tk' } → Fr s.heap L h' m → m (Str.ofString "folders") = some (.ref a) → m (Str.ofString "stem") = some (.str f.stem t2) → m (Str.ofString "ending") = some v3 → m (Str.ofString "pieces") = some (.ref b) → News s.heap L h' [(b, listOf (List.toArray us) 0), (a, listOf (List.toArray vs) 0)] → StrsAre us f.raw → G) → G) ?_ ?_
  · rcases e3 with ⟨rfl, hE⟩ | ⟨t3, e, rfl, hE⟩
    · have hr : f.raw = Txt.split f.stem (Str.ofString ".") ++ [] := by unfold FD.raw; rw [hE]
      w_strict (walk_at "M steps")
      exact ⟨rfl, fun _ k => k _ _ _ _ _ rfl (by with_reducible assumption) rfl rfl rfl rfl (News.two (by with_reducible assumption) (by k_mem) (by k_mem)) (by rw [hr]; with_reducible assumption)⟩
    · have hr : f.raw = Txt.split f.stem (Str.ofString ".") ++ [e] := by unfold FD.raw; rw [hE]
      w_strict (walk_at "M steps")
      exact ⟨rfl, fun _ k => k _ _ _ _ _ rfl (by with_reducible assumption) rfl rfl rfl rfl (News.two (by with_reducible assumption) (by k_mem) (by k_mem)) (by rw [hr]; with_reducible assumption)⟩
  clear F N hfo hst hen m
  rintro s' hP9
  with_reducible refine hP9 _ ?_
  clear hP9
  intro h' tk' m b us e9 F hfo hst hen hpi N hsu
  subst e9
  replace F := Fr.known4 F hfo hst hen hpi
  with_reducible refine cut_stmt (fun s' => ∀ G : Prop, (∀ h' tk' m b us, s' = { s with heap := h', toks := tk' } → Fr s.heap L h' m → m (Str.ofString "folders") = some (.ref a) → m (Str.ofString "stem") = some (.str f.stem t2) → m (Str.ofString "ending") = some v3 → m (Str.ofString "pieces") = some (.ref b) → News s.heap L h' [(b, listOf (List.toArray us) 0), (a, listOf (List.toArray vs) 0)] → StrsAre us f.pieces → G) → G) ?_ ?_
  · w_strict (walk_at "M steps")
    · have hp : f.pieces = f.raw.dropLast := by unfold FD.pieces; exact if_pos (by with_reducible assumption)
      exact ⟨rfl, fun _ k => k _ _ _ _ _ rfl (by with_reducible assumption) rfl rfl rfl rfl (News.two (by with_reducible assumption) (by k_mem) (by k_mem)) (by rw [hp]; with_reducible assumption)⟩
    · have hp : f.pieces = f.raw := by unfold FD.pieces; exact if_neg (ne_true_of_eq_false (by with_reducible assumption))
      exact ⟨rfl, fun _ k => k _ _ _ _ _ rfl (by with_reducible assumption) rfl rfl rfl rfl (News.two (by with_reducible assumption) (by k_mem) (by k_mem)) (by rw [hp]; with_reducible assumption)⟩
  clear F N hfo hst hen hpi hsu us b m
  rintro s' hP9
  with_reducible refine hP9 _ ?_
  clear hP9
  intro h' tk' m b us e9 F hfo hst hen hpi N hsu
  subst e9
  replace F := Fr.known4 F hfo hst hen hpi
  have hp : f.pieces = f.pieces := rfl
  rcases e3 with ⟨rfl, hE⟩ | ⟨t3, e, rfl, hE⟩
  · have hn : f.name = f.stem := by unfold FD.name; rw [hE]
    have ht : f.text = Txt.join (Str.ofString "/") (f.folders ++ [f.stem]) := by unfold FD.text; rw [hn]
    rw [hn] at hb5
    w_strict (walk_at "M steps")
    walk_at "M end"
    walk_at "M file_end"
  · have hn : f.name = f.stem ++ Str.ofString "." ++ e := by unfold FD.name; rw [hE]
    have ht : f.text = Txt.join (Str.ofString "/") (f.folders ++ [f.stem ++ Str.ofString "." ++ e]) := by unfold FD.text; rw [hn]
    rw [hn] at hb5
    rw [hE] at hb7
    replace hb7 := of_decide_eq_true hb7
    w_strict (walk_at "M steps")
    walk_at "M end"
    walk_at "M file_end"
end
section
set_option maxRecDepth 100000
set_option maxHeartbeats 1000000
section
variable {prog : Program} {w : World} {A : Around} {s : Shared} {env : Env}

/-- the tests of a comprehension's clause -/
noncomputable abbrev tests (ifs : List Expr) (env : Env) : Sem Bool := forIn ifs true fun c r => if r = true then do let ok ← isTrue c env (eval c env); pure (ForInStep.yield ok) else pure (ForInStep.yield r)

theorem compLoop_any {R : Result → Shared → Prop} {elt target iter : Expr} {ifs : List Expr} {scope : Scope} {pos : Pos} {I : Addr} {acc : Value} (J : Nat → Shared → Prop)
    (turn : ∀ n s, J n s → wpAny (model prog w) A (pyNext (.ref I)) (fun r s₁ => match r with
      | none => R (.ok .next) s₁
      | some v => (∃ o vs, s₁.heap.get? I = some o ∧ o.cls = .type "list_iterator" ∧ o.data = .fields vs) ∧ wpAny (model prog w) A (assign target env v) (fun _ s₂ =>
          wpAny (model prog w) A (tests ifs env) (fun ok s₃ =>
            if ok = true then wpAny (model prog w) A (eval elt env) (fun x s₄ =>
              wpAny (model prog w) A (call (.builtin "list.append") [acc, x]) (fun _ s₅ => ∃ m, m < n ∧ J m s₅) (fun _ _ => False) s₄) (fun _ _ => False) s₃
            else ∃ m, m < n ∧ J m s₃) (fun _ _ => False) s₂) (fun _ _ => False) s₁) (fun _ _ => False) s)
    (n : Nat) (h : J n s) : codeAny (model prog w) A (.compLoop (.ListComp elt [⟨target, iter, ifs, 0⟩] scope pos) 0 (.ref I) acc env) R s := by
  refine codeAny_loop rfl J (fun n s hI => ?_) n h
  show wpAny _ A ((compTurn (.ListComp elt [⟨target, iter, ifs, 0⟩] scope pos) 0 (.ref I) acc env).onRaise (fun x => do noteFrame x env; theTreesLotGoes x)) _ _ s
  refine wpAny_noted ?_
  rw [compTurn_list]
  refine wpAny_bind (wpAny_standAt (wpAny_bind (wpAny_mono (turn n s hI) (fun r s₁ h₁ => ?_) fun _ _ h' => h'.elim)))
  cases r with
  | none => exact wpAny_pure h₁
  | some v =>
    with_reducible refine hideG fun G kG => ?_
    obtain ⟨⟨o, vs, ho, hc, hd⟩, h₁⟩ := h₁ <;> (with_reducible refine kG ?_; clear kG G)
    refine wpAny_bind (letOwned ho hc hd ?_)
    refine wpAny_bind (wpAny_mono h₁ (fun _ s₂ h₂ => wpAny_bind (wpAny_mono h₂ (fun ok s₃ h₃ => ?_) fun _ _ h' => h'.elim)) fun _ _ h' => h'.elim)
    cases ok with
    | false => exact wpAny_pure ⟨rfl, h₃⟩
    | true =>
      exact wpAny_bind (wpAny_bind (wpAny_mono h₃ (fun x s₄ h₄ => wpAny_bind (wpAny_mono h₄ (fun _ s₅ h₅ => wpAny_pure (wpAny_pure ⟨rfl, h₅⟩)) fun _ _ h' => h'.elim)) fun _ _ h' => h'.elim))

/-- what stands behind a turn of a comprehension, ahead of the append -/
noncomputable def CompEnd (s : Shared) (g : Heap) (C D I : Addr) (oD oI : Obj) (J : List Value → List (Addr × Obj) → Prop) (ys : List Value) (s' : Shared) : Prop :=
  ∃ h' tk' mC mt, s' = { s with heap := h', toks := tk' } ∧ Fr g C h' mC ∧ News g C h' ((D, oD) :: (I, oI) :: mt) ∧ (∀ p ∈ mt, p.1 ≠ D ∧ p.1 ≠ I) ∧ J ys mt

theorem comp_core {E : Value → Shared → Prop} {elt target iter : Expr} {ifs : List Expr} {scope : Scope} {cl : List (Str × Addr)} {pos : Pos} {g : Heap} {l : Addr} {vs : List Value} {mt₀ : List (Addr × Obj)} {RR : Value → Addr → Result → Shared → Prop}
    (hh : A.handled = none) (hsz : vs.length ≤ 1000) (hcell : ∀ y ∈ scope.names, y.2 ≠ .cell) (hkind : scope.kind = .function)
    (hg : Ext g s.heap) (hgs : g.objs.size ≤ s.heap.objs.size) (hm : ∀ p ∈ mt₀, s.heap.get? p.1 = some p.2 ∧ g.get? p.1 = none) (hl : g.IsList l vs.toArray)
    (J : Nat → List Value → List (Addr × Obj) → Prop) (h0 : J 0 [] mt₀) (hlen : ∀ i ys mt, J i ys mt → ys.length ≤ i)
    (turn : ∀ C D I oI n i v ys mC mt h tk, vs[i]? = some v → J i ys mt → Fr g C h mC → News g C h ((D, listOf ys.toArray n) :: (I, oI) :: mt) → (∀ p ∈ mt, p.1 ≠ D ∧ p.1 ≠ I) → D ≠ I →
      wpAny (model prog w) A (assign target (compEnvC scope cl C env) v) (fun _ s₂ => wpAny (model prog w) A (tests ifs (compEnvC scope cl C env)) (fun ok s₃ =>
        if ok = true then wpAny (model prog w) A (eval elt (compEnvC scope cl C env)) (fun y s₄ => CompEnd s g C D I (listOf ys.toArray n) oI (J (i + 1)) (ys ++ [y]) s₄) (fun _ _ => False) s₃
        else CompEnd s g C D I (listOf ys.toArray n) oI (J (i + 1)) ys s₃) (fun _ _ => False) s₂) (fun _ _ => False) { s with heap := h, toks := tk })
    (done : ∀ C D n ys mC mt h tk, J vs.length ys mt → h.Ns C mC → Ext g h → C ≠ D → s.heap.get? D = none → s.heap.get? C = none → h.get? D = some (listOf ys.toArray n) → (∀ p ∈ mt, h.get? p.1 = some p.2 ∧ g.get? p.1 = none ∧ p.1 ≠ C ∧ p.1 ≠ D) → RR (.ref D) C (.ok .next) { s with heap := h, toks := tk }) :
    wpAny (model prog w) A (pyIter (.ref l)) (fun it s₂ => wpAny (model prog w) A (newList []) (fun acc s₃ => wpAny (model prog w) A (newFunctionEnv scope env.globals cl [] env.qual none .none (some env)) (fun cenv s₄ =>
      codeAny (model prog w) A (.compStart (.ListComp elt [⟨target, iter, ifs, 0⟩] scope pos) 0 it acc { cenv with scope := relabel scope env }) (RR acc cenv.locals) s₄) E s₃) E s₂) E s := by
  refine wpAny_pyIter_list (hl.at fun o e => hg l o e) ?_
  refine wpAny_newObj_type (wpAny_newFunctionEnv hcell (by intro y hy; simp at hy) (fun h₁ hns₁ hsb₁ => ?_) hkind)
  dsimp only at hns₁ hsb₁ ⊢
  generalize hH1 : s.heap.push { cls := .type "list_iterator", data := .fields #[.ref l, .int 0 0] } = H1 at hns₁ hsb₁ ⊢
  generalize hH2 : H1.push { cls := .type "list", dict := none, data := .seq ([] : List Value).toArray } = H2 at hns₁ hsb₁ ⊢
  have s1 : H1.objs.size = s.heap.objs.size + 1 := by rw [← hH1, Heap.size_push]
  have s2 : H2.objs.size = s.heap.objs.size + 2 := by rw [← hH2, Heap.size_push, s1]
  have up : ∀ b o, H2.get? b = some o → b ≠ H2.objs.size → h₁.get? b = some o := fun b o e hb => hsb₁.extBut b o hb (Heap.get?_push_of_some _ e)
  have old : Ext s.heap h₁ := fun b o e => up b o (hH2 ▸ Heap.get?_push_of_some _ (hH1 ▸ Heap.get?_push_of_some _ e)) (Nat.ne_of_lt (Nat.lt_of_lt_of_le (Heap.lt_size e) (by omega)))
  have gI : h₁.get? s.heap.objs.size = some { cls := .type "list_iterator", data := .fields #[.ref l, .int 0 0] } :=
    up _ _ (hH2 ▸ Heap.get?_push_of_some _ (hH1 ▸ Heap.get?_push_size _ rfl)) (neN (by omega))
  have gD : h₁.get? H1.objs.size = some (listOf ([] : List Value).toArray 0) := up _ _ (hH2 ▸ Heap.get?_push_size _ rfl) (neN (by omega))
  have fresh : ∀ a, s.heap.objs.size ≤ a → s.heap.get? a = none := fun a ha => by
    cases e : s.heap.get? a with
    | none => rfl
    | some o' => exact absurd (Heap.lt_size e) (Nat.not_lt.mpr ha)
  have gfresh : ∀ a, s.heap.objs.size ≤ a → g.get? a = none := fun a ha => by
    cases e : g.get? a with
    | none => rfl
    | some o' => have := hg _ _ e; rw [fresh a ha] at this; cases this
  have F₁ : Fr g H2.objs.size h₁ (fun x => ([] : List (Str × Value)).reverse.lookup x) := ⟨hns₁, fun b o e => old b o (hg b o e), by omega⟩
  have mlt : ∀ p ∈ mt₀, p.1 < s.heap.objs.size := fun p hp => Heap.lt_size (hm p hp).1
  have N₁ : News g H2.objs.size h₁ ((H1.objs.size, listOf ([] : List Value).toArray 0) :: (s.heap.objs.size, { cls := .type "list_iterator", data := .fields #[.ref l, .int 0 0] }) :: mt₀) := by
    intro p hp
    rcases List.mem_cons.mp hp with rfl | hp
    · exact ⟨gD, (neN (show H1.objs.size ≠ H2.objs.size by omega)), gfresh _ (by omega)⟩
    · rcases List.mem_cons.mp hp with rfl | hp
      · exact ⟨gI, (neN (show s.heap.objs.size ≠ H2.objs.size by omega)), gfresh _ (Nat.le_refl _)⟩
      · exact ⟨old _ _ (hm p hp).1, Nat.ne_of_lt (Nat.lt_of_lt_of_le (mlt p hp) (by omega)), (hm p hp).2⟩
  have loop : ∀ s₃ : Shared, s₃ = { s with heap := h₁, toks := s.toks + ([] : List (Str × Value)).length } →
      codeAny (model prog w) A (.compLoop (.ListComp elt [⟨target, iter, ifs, 0⟩] scope pos) 0 (.ref s.heap.objs.size) (.ref H1.objs.size) (compEnvC scope cl H2.objs.size env))
        (RR (.ref H1.objs.size) H2.objs.size) s₃ := by
    rintro s₃ rfl
    refine compLoop_any (fun k s' => ∃ i h' tk' mC mt ys n oI, k = vs.length + 1 - i ∧ i ≤ vs.length ∧ s' = { s with heap := h', toks := tk' } ∧ Fr g H2.objs.size h' mC ∧
        News g H2.objs.size h' ((H1.objs.size, listOf ys.toArray n) :: (s.heap.objs.size, oI) :: mt) ∧ (∀ p ∈ mt, p.1 ≠ H1.objs.size ∧ p.1 ≠ s.heap.objs.size) ∧ IterO oI l i ∧ J i ys mt) ?_ (vs.length + 1)
      ⟨0, h₁, _, _, mt₀, [], 0, _, rfl, Nat.zero_le _, rfl, F₁, N₁, fun p hp => ⟨Nat.ne_of_lt (Nat.lt_of_lt_of_le (mlt p hp) (by omega)), Nat.ne_of_lt (mlt p hp)⟩, ⟨rfl, rfl⟩, h0⟩
    rintro k s' hP9
    with_reducible refine hideG fun G kG => ?_
    obtain ⟨i, h', tk', mC, mt, ys, n, oI, rfl, hi, rfl, F', N', off, hI, hJ⟩ := hP9 <;> (with_reducible refine kG ?_; clear kG G)
    have hil : h'.IsList l vs.toArray := hl.at fun o e => F'.keep l o e
    have ho := (N' _ (.tail _ (.head _))).1
    obtain ⟨hc, hd⟩ := hI
    by_cases hlt : i < vs.length
    · have hx : vs.toArray[i]? = some vs[i] := by simp [hlt]
      refine wpAny_pyNext_list_item (i := i) ⟨oI, ho, hc, hd⟩ hil hx fun h₂ hit hs => ?_
      obtain ⟨o₁, ho₁, hc₁, hd₁⟩ := hit
      have F₂ : Fr g H2.objs.size h₂ mC := F'.change hs (N' _ (.tail _ (.head _))).2.1 (N' _ (.tail _ (.head _))).2.2
      have N₂ : News g H2.objs.size h₂ ((H1.objs.size, listOf ys.toArray n) :: (s.heap.objs.size, o₁) :: mt) := by
        intro p hp
        rcases List.mem_cons.mp hp with rfl | hp
        · exact ⟨(hs.2 H1.objs.size (neN (by omega))).trans (N' _ (.head _)).1, (N' _ (.head _)).2⟩
        · rcases List.mem_cons.mp hp with rfl | hp
          · exact ⟨ho₁, (N' _ (.tail _ (.head _))).2⟩
          · have := N' p (.tail _ (.tail _ hp))
            exact ⟨(hs.2 p.1 (off p hp).2).trans this.1, this.2⟩
      refine ⟨⟨o₁, _, ho₁, hc₁, hd₁⟩, wpAny_mono (turn H2.objs.size H1.objs.size s.heap.objs.size o₁ n i vs[i] ys mC mt h₂ tk' (by simp [hlt]) hJ F₂ N₂ off (neN (by omega))) (fun _ s₂ h₂ => wpAny_mono h₂ (fun ok s₃ h₃ => ?_) fun _ _ y => y) fun _ _ y => y⟩
      cases ok with
      | false =>
        simp only [Bool.false_eq_true, if_false] at h₃ ⊢
        with_reducible refine hideG fun G kG => ?_
        obtain ⟨h4, tk4, mC4, mt4, rfl, F4, N4, off4, J4⟩ := h₃ <;> (with_reducible refine kG ?_; clear kG G)
        exact ⟨vs.length + 1 - (i + 1), by omega, i + 1, h4, tk4, mC4, mt4, ys, n, o₁, rfl, hlt, rfl, F4, N4, off4, ⟨hc₁, hd₁⟩, J4⟩
      | true =>
        simp only [if_true] at h₃ ⊢
        refine wpAny_mono h₃ (fun y s₄ h₄ => ?_) fun _ _ y => y
        with_reducible refine hideG fun G kG => ?_
        obtain ⟨h4, tk4, mC4, mt4, rfl, F4, N4, off4, J4⟩ := h₄ <;> (with_reducible refine kG ?_; clear kG G)
        have hyl := hlen _ _ _ hJ
        refine append_K F4 N4 (.head ?_) (fun h5 F5 N5 => ?_) (by rw [sizeLine_eq, List.size_toArray]; omega)
        · intro p hp
          rcases List.mem_cons.mp hp with rfl | hp
          · exact neN (by omega)
          · exact (off4 p hp).1
        · refine ⟨vs.length + 1 - (i + 1), by omega, i + 1, h5, tk4, mC4, mt4, ys ++ [y], n + 1, o₁, rfl, hlt, rfl, F5, ?_, off4, ⟨hc₁, hd₁⟩, J4⟩
          have e : (ys ++ [y]).toArray = ys.toArray.push y := by simp
          rw [e]; exact N5
    · have e : i = vs.length := by omega
      subst e
      refine wpAny_pyNext_list_end (i := vs.length) hh ⟨oI, ho, hc, hd⟩ hil (by simp) fun h₂ hs => ?_
      have hne := (N' _ (.tail _ (.head _))).2
      with_reducible refine hideG fun G kG => ?_
      obtain ⟨oC, a1, a2, hoC, a3⟩ := F'.ns <;> (with_reducible refine kG ?_; clear kG G)
      refine done H2.objs.size H1.objs.size n ys mC mt h₂ tk' hJ ⟨oC, a1, a2, hs _ _ (Ne.symm hne.1) hoC, a3⟩ (fun b x e => hs _ _ (fun q => ?_) (F'.keep b x e)) (neN (by omega)) (fresh _ (by omega)) (fresh _ (by omega)) (hs _ _ (neN (by omega)) (N' _ (.head _)).1) fun p hp => ?_
      · rw [q, hne.2] at e; cases e
      · have q := N' p (.tail _ (.tail _ hp))
        exact ⟨hs _ _ (off p hp).2 q.1, q.2.2, q.2.1, (off p hp).1⟩
  refine codeAny_compStart_list (loop _ rfl) ?_
  exact wpAny_pyIter_listiter ⟨_, gI, rfl, rfl⟩ (loop _ rfl)
end
end
section
set_option maxRecDepth 100000
set_option maxHeartbeats 1000000
section
variable {prog : Program} {w : World} {A : Around} {s : Shared} {env : Env}
theorem comp_open {E : Value → Shared → Prop} {Q : Value → Shared → Prop} {elt target iter : Expr} {ifs : List Expr} {scope : Scope} {cl : List (Str × Addr)} {pos : Pos}
    (h : wpAny (model prog w) A (eval iter env) (fun x s₁ => wpAny (model prog w) A (pyIter x) (fun it s₂ => wpAny (model prog w) A (newList []) (fun acc s₃ =>
      wpAny (model prog w) A (newFunctionEnv scope env.globals cl [] env.qual none .none (some env)) (fun cenv s₄ =>
        codeAny (model prog w) A (.compStart (.ListComp elt [⟨target, iter, ifs, 0⟩] scope pos) 0 it acc { cenv with scope := relabel scope env }) (compPost (model prog w) A E none Q acc cenv.locals) s₄) E s₃) E s₂) E s₁) E s)
    (hclos : closureFor scope env = pure cl) (hs : ∀ x, foldedSetIterable iter env x = pure x) (hkind : scope.kind = .function) (hnames : ∀ x ∈ scope.names, x.2 = .local → scope.names.lookup x.1 = some .local) :
    wpAny (model prog w) A (eval (.ListComp elt [⟨target, iter, ifs, 0⟩] scope pos) env) Q E s := by
  rw [eval_ListComp]
  exact wpAny_comprehension_free (use := none) rfl hs hclos hkind hnames h

/-- a comprehension that changes nothing that stood: what stood is its ground -/
theorem comp_pure {E : Value → Shared → Prop} {Q : Value → Shared → Prop} {elt target iter : Expr} {ifs : List Expr} {scope : Scope} {cl : List (Str × Addr)} {pos : Pos} {l : Addr} {vs : List Value} {h₀ : Heap} {L : Addr} {m : Str → Option Value} {news : List (Addr × Obj)}
    (F : Fr h₀ L s.heap m) (N : News h₀ L s.heap news) (hl : s.heap.IsList l vs.toArray) (hsz : vs.length ≤ 1000) 
    (J : Nat → List Value → List (Addr × Obj) → Prop) (h0 : J 0 [] []) (hlen : ∀ i ys mt, J i ys mt → ys.length ≤ i)
    (turn : ∀ C D I oI n i v ys mC mt h tk, vs[i]? = some v → J i ys mt → Fr s.heap C h mC → News s.heap C h ((D, listOf ys.toArray n) :: (I, oI) :: mt) → (∀ p ∈ mt, p.1 ≠ D ∧ p.1 ≠ I) → D ≠ I →
      wpAny (model prog w) A (assign target (compEnvC scope cl C env) v) (fun _ s₂ => wpAny (model prog w) A (tests ifs (compEnvC scope cl C env)) (fun ok s₃ =>
        if ok = true then wpAny (model prog w) A (eval elt (compEnvC scope cl C env)) (fun y s₄ => CompEnd s s.heap C D I (listOf ys.toArray n) oI (J (i + 1)) (ys ++ [y]) s₄) (fun _ _ => False) s₃
        else CompEnd s s.heap C D I (listOf ys.toArray n) oI (J (i + 1)) ys s₃) (fun _ _ => False) s₂) (fun _ _ => False) { s with heap := h, toks := tk })
    (fin : ∀ D n ys mt h tk, J vs.length ys mt → Fr h₀ L h m → News h₀ L h ((D, listOf ys.toArray n) :: (mt ++ news)) → Ext s.heap h → s.heap.get? D = none → (∀ p ∈ mt, s.heap.get? p.1 = none ∧ p.1 ≠ D) → Q (.ref D) { s with heap := h, toks := tk })
    (hh : A.handled = none) (hcell : ∀ y ∈ scope.names, y.2 ≠ .cell) (hkind : scope.kind = .function) :
    wpAny (model prog w) A (pyIter (.ref l)) (fun it s₂ => wpAny (model prog w) A (newList []) (fun acc s₃ =>
      wpAny (model prog w) A (newFunctionEnv scope env.globals cl [] env.qual none .none (some env)) (fun cenv s₄ =>
        codeAny (model prog w) A (.compStart (.ListComp elt [⟨target, iter, ifs, 0⟩] scope pos) 0 it acc { cenv with scope := relabel scope env }) (compPost (model prog w) A E none Q acc cenv.locals) s₄) E s₃) E s₂) E s := by
  refine comp_core (g := s.heap) (mt₀ := []) hh hsz hcell hkind (Ext.refl _) (Nat.le_refl _) (fun _ h => nomatch h) hl J h0 hlen turn ?_
  intro C D n ys mC mt h tk hJ hns hext hCD hD hC hDo hmt
  refine ⟨mC, hns, fun h' hs' => ?_⟩
  have e' : Ext s.heap h' := fun b o e => hs'.extBut b o (by rintro rfl; rw [hC] at e; cases e) (hext b o e)
  have fr : ∀ p ∈ (D, listOf ys.toArray n) :: mt, h'.get? p.1 = some p.2 ∧ s.heap.get? p.1 = none := by
    intro p hp
    rcases List.mem_cons.mp hp with rfl | hp
    · exact ⟨hs'.extBut _ _ (Ne.symm hCD) hDo, hD⟩
    · exact ⟨hs'.extBut _ _ (hmt p hp).2.2.1 (hmt p hp).1, (hmt p hp).2.1⟩
  have N' := News.more F N e' fr
  exact fin D n ys mt h' tk hJ (Fr.ext F e') N' e' hD fun p hp => ⟨(hmt p hp).2.1, (hmt p hp).2.2.2⟩

section
variable {M : Model} {K : Frag} {h₀ : Heap} {L : Addr} {m mg mb : Str → Option Value} {p : Program} {loose : List Str} {E : Value → Shared → Prop} {x : Str} {pos : Pos} {v : Value} {Q : Value → Shared → Prop} {news : List (Addr × Obj)} {scope : Scope} {cl : List (Str × Addr)} {C c : Addr}
theorem nameC_L (F : Fr h₀ C s.heap m) (hv : m x = some v) (h : Q v s) (hk : (compEnvC scope cl C env).scope.kind = .function) (hx : (compEnvC scope cl C env).kindOf x = some .local) (hd : (x == ("__debug__" : Str)) = false) :
    wpAny M A (eval (.Name x pos) (compEnvC scope cl C env)) Q E s := wpAny_Name (wpAny_loadName_local hk hx F.ns hv h) hd
theorem nameC_B (F : Fr h₀ C s.heap m) (X : K.In h₀) (T : TopRead p loose mg mb h₀) (e : nsIn K mainGlobals x = some none) (hv : bootBuiltins x = some v) (hn : x ≠ "__name__") (h : Q v s)
    (hg : (compEnvC scope cl C env).globals = mainGlobals) (hb : (compEnvC scope cl C env).builtins = builtinsNs) (hk : (compEnvC scope cl C env).scope.kind = .function) (hx : (compEnvC scope cl C env).kindOf x = some .globalImplicit) (hd : (x == ("__debug__" : Str)) = false) :
    wpAny M A (eval (.Name x pos) (compEnvC scope cl C env)) Q E s :=
  Name_function_global hk hx (loadGlobal_builtin (env := compEnvC scope cl C env) (by rw [hg]; exact T.g.keeps F.keep) (mg_none_of X T.g e) (by rw [hb]; exact T.b.keeps F.keep) ((T.builtins x hn).trans hv) h) hd
theorem nameC_C {o : Obj} (F : Fr h₀ C s.heap m) (hc : cl.lookup x = some c) (ho : h₀.get? c = some o) (hd : o.data = .cell (some v)) (h : Q v s) (hk : (compEnvC scope cl C env).scope.kind = .function) (hx : (compEnvC scope cl C env).kindOf x = some .cell) (hb : (x == ("__debug__" : Str)) = false) :
    wpAny M A (eval (.Name x pos) (compEnvC scope cl C env)) Q E s := wpAny_Name (wpAny_loadName_cell hk hx hc ⟨o, F.keep _ _ ho, hd⟩ h) hb
theorem storeC {Q : Unit → Shared → Prop} (F : Fr h₀ C s.heap m) (N : News h₀ C s.heap news)
    (h : ∀ h', Fr h₀ C h' (fun y => if y = x then some v else m y) → News h₀ C h' news → Q () { s with heap := h', toks := s.toks + 1 })
    (hk : (compEnvC scope cl C env).scope.kind = .function) (hx : (compEnvC scope cl C env).kindOf x = some .local) : wpAny M A (storeName (compEnvC scope cl C env) x v) Q E s :=
  wpAny_storeName_local hx F.ns (fun h' hn hs => h h' (F.set hn hs) (N.set hs)) (by rw [hk]; rfl)
end
end
end
section
set_option maxRecDepth 100000
set_option maxHeartbeats 1000000
section
variable {prog : Program} {w : World} {A : Around} {s : Shared} {env : Env} {E : Value → Shared → Prop}
theorem tests_nil {Q : Bool → Shared → Prop} (h : Q true s) : wpAny (model prog w) A (tests [] env) Q E s := by
  unfold tests
  rw [List.forIn_nil]
  exact wpAny_pure h
theorem tests_one {c : Expr} {Q : Bool → Shared → Prop} (h : wpAny (model prog w) A (isTrue c env (eval c env)) Q E s) : wpAny (model prog w) A (tests [c] env) Q E s := by
  unfold tests
  rw [List.forIn_cons]
  simp only [if_true]
  refine wpAny_bind (wpAny_bind (wpAny_mono h (fun b s' q => wpAny_pure ?_) fun _ _ e => e))
  show wpAny _ _ (forIn [] b _) _ _ _
  rw [List.forIn_nil]
  exact wpAny_pure q

theorem readsAll_of_strs {h : Heap} {vs : List Value} {ss : List Str} (H : StrsAre vs ss) : ReadsAll h vs (ss.map PyData.str) [] := by
  induction H with
  | nil => exact .nil
  | cons k t r ih =>
    have := ReadsAll.cons (Reads.str (h := h) k t) ih
    simpa using this
theorem reads_of_strs {h : Heap} {a : Addr} {vs : List Value} {ss : List Str} (hl : h.IsList a vs.toArray) (hi : StrsAre vs ss) : Reads h (.ref a) (.list (ss.map PyData.str)) [a] := by
  with_reducible refine hideG fun G kG => ?_
  obtain ⟨o, ho, hc, n, hd⟩ := hl <;> (with_reducible refine kG ?_; clear kG G)
  exact Reads.list ho hc hd (by simpa using readsAll_of_strs hi)
noncomputable abbrev okL (ns : List Str) : Bool := ns.all PyData.strOk
theorem canLayAll0_strs : ∀ ns : List Str, okL ns = true → PyData.canLayAll0 (ns.map PyData.str) = true
  | [], _ => by simp [PyData.canLayAll0]
  | n :: r, h => by
    simp only [okL, List.all_cons, Bool.and_eq_true] at h
    simp [PyData.canLayAll0, PyData.canLay0, canLayAll0_strs r h.2, h.1]
theorem depthAll_strs : ∀ ns : List Str, PyData.depthAll (ns.map PyData.str) = 0
  | [] => rfl
  | _ :: r => by simp [PyData.depthAll, PyData.depth, depthAll_strs r]
theorem shaped_strs (ns : List Str) (h : okL ns = true) : SeqAt.shaped (.list (ns.map PyData.str)) = true := by
  simp [SeqAt.shaped, PyData.canLay0, PyData.depth, canLayAll0_strs ns h, depthAll_strs]
theorem same_strs : ∀ ns ms : List Str, PySem.Spec.sameAll (ns.map PyData.str) (ms.map PyData.str) = decide (ns = ms)
  | [], [] => by simp [PySem.Spec.sameAll]
  | [], _ :: _ => by simp [PySem.Spec.sameAll]
  | _ :: _, [] => by simp [PySem.Spec.sameAll]
  | n :: r, k :: q => by
    simp only [List.map_cons, PySem.Spec.sameAll, PySem.Spec.same, same_strs r q]
    by_cases h : n = k <;> by_cases h' : r = q <;> simp [h, h']
section
variable {a b : Addr} {vs us : List Value} {xs ys : List Str} {Q : Value → Shared → Prop}
theorem eq_strs (hl : s.heap.IsList a vs.toArray) (hi : StrsAre vs xs) (hl' : s.heap.IsList b us.toArray) (hi' : StrsAre us ys) (ox : okL xs = true) (oy : okL ys = true) (hu : A.units + 64 < cLine)
    (h : Q (.bool (decide (xs = ys))) s) : wpAny (model prog w) A (compareOp .Eq (.ref a) (.ref b)) Q E s :=
  eq_dataH_same (reads_of_strs hl hi) (reads_of_strs hl' hi') (shaped_strs xs ox) (shaped_strs ys oy) hu (SeqAt.noMix_of_shape (.list .str) rfl _ _ (list_map_has fun _ => rfl) (list_map_has fun _ => rfl)) (by simp only [PySem.Spec.same]; rw [same_strs]; exact h)
theorem ne_strs (hl : s.heap.IsList a vs.toArray) (hi : StrsAre vs xs) (hl' : s.heap.IsList b us.toArray) (hi' : StrsAre us ys) (ox : okL xs = true) (oy : okL ys = true) (hu : A.units + 64 < cLine)
    (h : Q (.bool (!decide (xs = ys))) s) : wpAny (model prog w) A (compareOp .NotEq (.ref a) (.ref b)) Q E s :=
  ne_dataH_same (reads_of_strs hl hi) (reads_of_strs hl' hi') (shaped_strs xs ox) (shaped_strs ys oy) hu (SeqAt.noMix_of_shape (.list .str) rfl _ _ (list_map_has fun _ => rfl) (list_map_has fun _ => rfl)) (by simp only [PySem.Spec.same]; rw [same_strs]; exact h)
end
/-- a list of lists of texts -/
inductive LstsAt (h : Heap) : List Value → List (List Str) → Prop
  | nil : LstsAt h [] []
  | cons {a : Addr} {n : Nat} {ws : List Value} {xs : List Str} {vs : List Value} {xss : List (List Str)} : h.get? a = some (listOf ws.toArray n) → StrsAre ws xs → LstsAt h vs xss → LstsAt h (.ref a :: vs) (xs :: xss)
theorem LstsAt.length {h : Heap} {vs : List Value} {xss : List (List Str)} (H : LstsAt h vs xss) : vs.length = xss.length := by
  induction H with
  | nil => rfl
  | cons _ _ _ ih => exact congrArg (· + 1) ih
theorem LstsAt.get {h : Heap} {vs : List Value} {xss : List (List Str)} (H : LstsAt h vs xss) : ∀ {i : Nat} {v : Value}, vs[i]? = some v → ∃ a n ws xs, v = .ref a ∧ xss[i]? = some xs ∧ h.get? a = some (listOf (List.toArray ws) n) ∧ StrsAre ws xs := by
  induction H with
  | nil => intro i v e; simp at e
  | cons x y r ih =>
    intro i v e
    cases i with
    | zero => simp at e; subst e; exact ⟨_, _, _, _, rfl, rfl, x, y⟩
    | succ i => simpa using ih (i := i) (by simpa using e)
theorem LstsAt.out {h : Heap} {vs : List Value} {xss : List (List Str)} (H : LstsAt h vs xss) {i : Nat} {v : Value} (hv : vs[i]? = some v) {P : Prop}
    (k : ∀ a n ws xs, v = .ref a → xss[i]? = some xs → h.get? a = some (listOf (List.toArray ws) n) → StrsAre ws xs → P) : P := by
  obtain ⟨a, n, ws, xs, e0, e1, e2, e3⟩ := H.get hv
  exact k a n ws xs e0 e1 e2 e3
theorem LstsAt.mono {h h' : Heap} (e : Ext h h') {vs : List Value} {xss : List (List Str)} (H : LstsAt h vs xss) : LstsAt h' vs xss := by
  induction H with
  | nil => exact .nil
  | cons x y r ih => exact .cons (e _ _ x) y ih
theorem LstsAt.snoc {h : Heap} {a : Addr} {n : Nat} {ws : List Value} {xs : List Str} (x : h.get? a = some (listOf ws.toArray n)) (y : StrsAre ws xs) {vs : List Value} {xss : List (List Str)} (H : LstsAt h vs xss) : LstsAt h (vs ++ [.ref a]) (xss ++ [xs]) := by
  induction H with
  | nil => exact .cons x y .nil
  | cons p q r ih => exact .cons p q ih
theorem LstsAt.reads {h : Heap} {vs : List Value} {xss : List (List Str)} (H : LstsAt h vs xss) : ∃ as, ReadsAll h vs (xss.map fun xs => PyData.list (xs.map PyData.str)) as := by
  induction H with
  | nil => exact ⟨_, .nil⟩
  | cons x y r ih =>
    obtain ⟨as, q⟩ := ih
    exact ⟨_, .cons (reads_of_strs ⟨_, x, rfl, _, rfl⟩ y) q⟩
theorem canLayAll0_lsts : ∀ xss : List (List Str), xss.all okL = true → PyData.canLayAll0 (xss.map fun xs => PyData.list (xs.map PyData.str)) = true
  | [], _ => by simp [PyData.canLayAll0]
  | n :: r, h => by
    simp only [List.all_cons, Bool.and_eq_true] at h
    simp [PyData.canLayAll0, PyData.canLay0, canLayAll0_strs n h.1, canLayAll0_lsts r h.2]
theorem depthAll_lsts : ∀ xss : List (List Str), PyData.depthAll (xss.map fun xs => PyData.list (xs.map PyData.str)) ≤ 1
  | [] => by simp [PyData.depthAll]
  | n :: r => by
    have := depthAll_lsts r
    simp only [List.map_cons, PyData.depthAll, PyData.depth, depthAll_strs]
    omega
theorem shaped_lsts (xss : List (List Str)) (h : xss.all okL = true) : SeqAt.shaped (.list (xss.map fun xs => PyData.list (xs.map PyData.str))) = true := by
  have := depthAll_lsts xss
  simp [SeqAt.shaped, PyData.canLay0, PyData.depth, canLayAll0_lsts xss h]
  omega
theorem ne_nil {a b : Addr} {vs : List Value} {xss : List (List Str)} {Q : Value → Shared → Prop} (hl : s.heap.IsList a vs.toArray) (hi : LstsAt s.heap vs xss) (hl' : s.heap.IsList b ([] : List Value).toArray) (ox : xss.all okL = true) (hu : A.units + 64 < cLine)
    (h : Q (.bool (!decide (xss = []))) s) : wpAny (model prog w) A (compareOp .NotEq (.ref a) (.ref b)) Q E s := by
  obtain ⟨as, ra⟩ := hi.reads
  with_reducible refine hideG fun G kG => ?_
  obtain ⟨o, ho, hc, n, hd⟩ := hl <;> (with_reducible refine kG ?_; clear kG G)
  have r1 : Reads s.heap (.ref a) (.list (xss.map fun xs => PyData.list (xs.map PyData.str))) (a :: as) := Reads.list ho hc hd (by simpa using ra)
  refine ne_dataH_same r1 (reads_of_strs (ss := []) hl' .nil) (shaped_lsts xss ox) (shaped_strs [] rfl) hu (SeqAt.noMix_of_shape (.list (.list .str)) rfl _ _ (list_map_has fun _ => list_map_has fun _ => rfl) rfl) ?_
  have e : PySem.Spec.same (.list (xss.map fun xs => PyData.list (xs.map PyData.str))) (.list (([] : List Str).map PyData.str)) = decide (xss = []) := by
    cases xss with
    | nil => simp [PySem.Spec.same, PySem.Spec.sameAll]
    | cons x r => simp [PySem.Spec.same, PySem.Spec.sameAll]
  rw [e]; exact h
theorem sl_upto {Q : Value → Shared → Prop} {h₀ : Heap} {L : Addr} {m : Str → Option Value} {news : List (Addr × Obj)} {value slice : Expr} {l : Addr} {vs : List Value} {ys : List Str} {u : Tok} {k : Nat} (F : Fr h₀ L s.heap m) (N : News h₀ L s.heap news) (hl : s.heap.IsList l vs.toArray) (ha : StrsAre vs ys) (hz : ys.length ≤ 1000)
    (h : ∀ a us h', StrsAre us (ys.take k) → Fr h₀ L h' m → News h₀ L h' ((a, listOf us.toArray 0) :: news) → Q (.ref a) { s with heap := h' })
    (hs : subscripted slice false (.ref l) (.ref s.heap.objs.size) = operate [.ref s.heap.objs.size, .ref l] (getItem (.ref l) (.ref s.heap.objs.size))) (ht : ∀ r, letTemporaryGo value (.ref l) r = pure ()) :
    wpAny (model prog w) A (subscriptTail value slice (.ref l) (.ref s.heap.objs.size)) Q E { s with heap := s.heap.push { cls := .type "slice", data := .fields #[.none, .int (k : Int) u, .none] } } := by
  have e : (slicePick vs.toArray none (some (k : Int)) none).toList = vs.take k := by
    rw [slicePick_upto' vs.toArray k]
  exact kmk_slice_lit F N hl .none (.int _ _) e (fun D h' F' N' _ => h _ _ h' (StrsAre.take ha k) F' N') hs ht (by rw [sizeLine_eq, List.size_toArray, ha.len_eq]; omega)
end
section
variable {prog : Program} {w : World} {A : Around} {s : Shared} {K : Frag} {p : Program} {loose : List Str} {mean : ExcName → Option Value} {mg mb : Str → Option Value}
    {R : Result → Shared → Prop} {name qual : Str} {params : Arguments} {body : List Stmt} {scope : Scope} {dV kV doc pm cdv ct oc : Value} {an od : Option Addr} {osl : Array (Option Value)} {f : Addr} {args : Args} {binds : List (Str × Value)}
theorem enterC (X : K.In s.heap) (T : Top p loose mean mg mb s.heap)
    (ho : K.lookup f = some ⟨oc, od, .func (fnOf name qual params body scope dV kV doc pm an cdv ct), osl⟩) (hcd : codeIn K cdv qual = true) (hroom : A.depth < recursionLimit)
    (hbind : BindsTo s (fnOf name qual params body scope dV kV doc pm an cdv ct) args binds) (hkind : (binds.all fun y => scope.names.lookup y.1 == some .local || scope.names.lookup y.1 == some .cell) = true)
    (hnd : ((cellsFrom 0 scope.names []).map (·.1)).Nodup)
    (h : ∀ L' h₁ tk cells, Fr s.heap L' h₁ (bindL (envOfC qual scope L' f cdv).kindOf binds fun _ => none) → News s.heap L' h₁ cells →
      CellsAre (bindC (envOfC qual scope L' f cdv).kindOf binds fun _ => none) (cellsFrom (L' + 1) scope.names []) cells →
      wpAny (model prog w) (A.deeper (envOfC qual scope L' f cdv)) (execs body (envOfC qual scope L' f cdv))
        (fun fl s' => R (.ok (.ret (match fl with | .ret v => v | _ => .none))) s')
        (fun _ _ => False)
        { s with heap := h₁, toks := tk })
    (hco : scope.isCoroutine = false) (hgen : scope.isGenerator = false) (hk : scope.kind = .function) : codeAny (model prog w) A (.call (.ref f) args) R s := by
  refine codeAny_call_function hroom (X _ _ ho) rfl hco hgen rfl (codeRec_of X hcd) (hbind _ _ _ _ ?_)
  refine wpAny_newFunctionEnv_cells hk (kindsX hkind _) fun env' he s' x => ?_
  subst he
  refine ⟨T.nolimit.keeps x.toInCall.keep, codeAny_func ?_⟩
  obtain ⟨h₁, tk, rfl, _⟩ := x.done
  have hk₁ := x.toInCall.keep
  obtain ⟨cells, NC, Y⟩ := Cl.news (h₀ := s.heap) (Nat.le_refl _) fun n c hm => ⟨x.cell n c (lookup_of_mem_nodup (cellsFrom_names scope.names 0 (s.heap.objs.size + 1) [] [] rfl ▸ hnd) hm), x.above n c hm⟩
  exact wpAny_mono (h s.heap.objs.size h₁ tk cells ⟨x.toInCall.ns, fun b o e => hk₁ b o e, Nat.le_refl _⟩ NC Y) (fun fl s' hl => hl) fun _ _ y => y.elim
end
end
section
set_option maxRecDepth 100000
set_option maxHeartbeats 1000000
theorem kw_F6d_0 : True := by
  k_with_none
  k_with "call ref" => (k_here; k_dflt (refine wpAny_call ?_; refine' code_def0 ?kq_k2 ?kq_k3 ?kq_k4 ?kq_k5 ?kq_k6 ?kq_k7 ?kq_k8 ?kq_k9 ?kq_kB ?_ ?kq_c2 ?kq_c3 ?kq_c4 ?kq_c5; (case kq_k2 => k_asm); (case kq_k3 => k_asm); (case kq_k4 => k_asm); (case kq_k5 => k_asm); (case kq_k6 => k_is); (case kq_k7 => k_is); (case kq_k8 => k_room); (case kq_k9 => exact BindsTo.of_eq rfl); (case kq_c5 => decide); (case kq_kB => exact locs rfl); (case kq_c2 => exact rfl); (case kq_c3 => exact rfl); (case kq_c4 => exact rfl); k_whole; intro _ _ _ _ _ _ _ _; (try dsimp only); (try k_fold)))
  k_with "M enter" => (refine' enter0 ?kq_k3 ?kq_k5 ?kq_k6 ?kq_k7 ?kq_k8 ?kq_k9 ?kq_kB ?_ ?kq_c2 ?kq_c3 ?kq_c4 ?kq_c5; (case kq_k3 => assumption); (case kq_k5 => assumption); (case kq_k6 => k_is); (case kq_k7 => k_is); (case kq_k8 => decide); (case kq_k9 => exact BindsTo.of_eq rfl); (case kq_kB => exact locs rfl); (case kq_c2 => rfl); (case kq_c3 => rfl); (case kq_c4 => rfl); (case kq_c5 => decide); intro _ _ _ _; dsimp only; k_fold)
  k_with "M steps" => repeat' (first | (k_unfold; (try dsimp only)) | walk1 | (dsimp only; walk1))
  k_with "M end" => ((try dsimp only); (try k_unfold); (try dsimp only))
  k_with "ite" => first | (refine PySem.W.ite_pos (by assumption) ?_) | (refine PySem.W.ite_neg (by assumption) ?_) | (refine PySem.W.ite_neg (ne_true_of_eq_false (by assumption)) ?_)
  exact True.intro
theorem kfill_once6 : (fun (_ : OpenLaw) (_ : Params → Frag) => True) PySem.Challenge.rw_ny0070_01 hd.heap_39 := by k_fill; w_on; trivial
variable {prog : Program} {w : World} {mean : ExcName → Option Value} {mg mb : Str → Option Value} {s : Shared}
theorem kw_F6d_1 : True := by
  k_with "M enterC" => (refine' enterC ?kq_k3 ?kq_k5 ?kq_k6 ?kq_k7 ?kq_k8 ?kq_k9 ?kq_kB ?kq_kD ?_ ?kq_c2 ?kq_c3 ?kq_c4; (case kq_k3 => assumption); (case kq_k5 => assumption); (case kq_k6 => k_is); (case kq_k7 => k_is); (case kq_k8 => decide); (case kq_k9 => exact BindsTo.of_eq rfl); (case kq_kB => rfl); (case kq_kD => decide +kernel); (case kq_c2 => rfl); (case kq_c3 => rfl); (case kq_c4 => rfl); intro _ _ _ _ _ _ Y'; k_cells Y'; (try dsimp only); (try k_unmd); k_fold)
  k_with "eval ListComp" => (k_dflt ((with_reducible refine' comp_open ?_ ?kq_hclos ?kq_hs ?kq_hkind ?kq_hnames); (case kq_hclos => rfl); (case kq_hs => intro _; rfl); (case kq_hkind => rfl); (case kq_hnames => decide)))
  k_with "eval Name" => (k_here; k_dflt (first
  | (refine' nameC_L ?kq_F ?kq_v ?_ ?kq_a ?kq_b ?kq_d; (case kq_F => k_asm); (case kq_a => rfl); (case kq_b => rfl); (case kq_d => decide); (case kq_v => rfl); k_whole)
  | (refine' nameC_C ?kq_F ?kq_c ?kq_o ?kq_d ?_ ?kq_a ?kq_b ?kq_e; (case kq_F => k_asm); (case kq_a => rfl); (case kq_b => rfl); (case kq_e => decide); (case kq_c => rfl); (case kq_o => with_reducible assumption); (case kq_d => with_reducible assumption); k_whole)
  | (refine' nameG_K ?kq_F ?kq_X ?kq_T ?kq_e ?_ ?kq_g ?kq_a ?kq_b ?kq_d; (case kq_g => rfl); (case kq_a => rfl); (case kq_b => rfl); (case kq_d => decide); (case kq_F => k_asm); (case kq_X => k_asm); (case kq_T => k_asm); (case kq_e => k_is); k_whole)
  | (refine' nameC_B ?kq_F ?kq_X ?kq_T ?kq_e ?kq_v ?kq_n ?_ ?kq_g ?kq_bb ?kq_a ?kq_b ?kq_d; (case kq_g => rfl); (case kq_bb => rfl); (case kq_a => rfl); (case kq_b => rfl); (case kq_d => decide); (case kq_F => k_asm); (case kq_X => k_asm); (case kq_T => k_asm); (case kq_e => k_is); (case kq_v => boot_fast); (case kq_n => decide); k_whole)))
  exact True.intro
theorem okL_take {ns : List Str} (k : Nat) (h : okL ns = true) : okL (ns.take k) = true := by
  rw [okL, List.all_eq_true] at *
  exact fun x hx => h x (List.mem_of_mem_take hx)
theorem base_list {h₀ h : Heap} {L a : Addr} {m : Str → Option Value} {vs : List Value} {n : Nat} (F : Fr h₀ L h m) (e : h₀.get? a = some (listOf vs.toArray n)) : h.IsList a vs.toArray := ⟨_, F.keep _ _ e, rfl, n, rfl⟩
theorem kw_F6d_2 : True := by
  k_with "M list" => first | exact base_list (by k_asm) (by with_reducible assumption) | exact News.isList (by k_asm) (by k_mem)
  k_with "call builtin:len" => (k_here; (with_reducible show wpAny _ _ (call (Value.builtin "len") [Value.ref _]) _ _ _); k_dflt (refine' len_plain ?kq_t ?kq_k2 ?_; (case kq_t => walk_at "M list"); (case kq_k2 => omega)); intro _ _)
  k_with "subscriptTail Name Slice ref ref" => (k_here; (with_reducible show wpAny _ _ (subscriptTail _ (PySem.Expr.Slice none (some _) none _) (Value.ref _) (Value.ref _)) _ _ _); k_dflt (refine' sl_upto ?kq_F ?kq_N ?kq_l ?kq_sa ?kq_z ?_ ?kq_s ?kq_t; (case kq_F => k_asm); (case kq_N => k_asm); (case kq_l => walk_at "M list"); (case kq_sa => with_reducible assumption); (case kq_z => omega); (case kq_s => with_unfolding_all rfl); (case kq_t => kmk_pure)); intro _ _ _ _ _ _)
  k_with "compareOp Eq ref ref" => (k_here; k_dflt (refine' eq_strs ?kq_l ?kq_sa ?kq_l2 ?kq_sb ?kq_ox ?kq_oy ?kq_u ?_; (case kq_l => walk_at "M list"); (case kq_l2 => walk_at "M list"); (case kq_sa => with_reducible assumption); (case kq_sb => with_reducible assumption); (case kq_ox => first | with_reducible assumption | exact okL_take _ (by with_reducible assumption)); (case kq_oy => with_reducible assumption); (case kq_u => exact Nat.le_of_ble_eq_true rfl)))
  k_with "compareOp NotEq ref ref" => (k_here; k_dflt (refine' ne_nil ?kq_l ?kq_sa ?kq_l2 ?kq_ox ?kq_u ?_; (case kq_l => walk_at "M list"); (case kq_l2 => walk_at "M list"); (case kq_sa => exact LstsAt.mono (Fr.keep (by k_asm)) (by with_reducible assumption)); (case kq_ox => with_reducible assumption); (case kq_u => exact Nat.le_of_ble_eq_true rfl)))
  exact True.intro
theorem listed_spec {c l : Addr} {us ls : List Value} {ps : List Str} {xss : List (List Str)} {n n' : Nat} (hc : s.heap.get? c = some (listOf us.toArray n)) (hp : StrsAre us ps) (hl : s.heap.get? l = some (listOf ls.toArray n')) (hx : LstsAt s.heap ls xss)
   (ho : okL ps = true) (hox : xss.all okL = true) (hz : ps.length ≤ 100) (hz' : xss.length ≤ 100) (hzx : ∀ xs ∈ xss, xs.length ≤ 100)
   (X : (hd.heap_39 w.params).In s.heap) (T : Top hd.view_39 (looseW hd.view_39 []) mean mg mb s.heap) :
   codeAny (model prog w) (AA 700 700) (.call (.ref 144) ⟨[.ref c, .ref l], []⟩) (Back s (fun v fr => v = .bool (!decide ((xss.filter fun xs => decide (ps.take xs.length = xs)) = [])) ∧ fr = [])) s := by
  walk_at "M enterC"
  w_strict (walk_at "M steps")
  rename_i L h₁ tk F oC dC N
  replace dC : oC.data = .cell (some (.ref c)) := dC
  have X' := X.keeps F.keep
  have T' := T.keeps F.keep
  have hc' := F.keep _ _ hc
  have hx' : LstsAt h₁ ls xss := hx.mono F.keep
  have hcell' := (N _ (.head _)).1
  refine comp_pure F N ⟨_, F.keep _ _ hl, rfl, _, rfl⟩ (by have := hx.length; omega) (fun i ys mt => mt = [] ∧ LstsAt s.heap ys ((xss.take i).filter fun xs => decide (ps.take xs.length = xs)) ∧ ys.length ≤ i) ⟨rfl, by simpa using LstsAt.nil, Nat.le_refl _⟩ (fun _ _ _ h => h.2.2) ?turn ?fin rfl (by decide) rfl
  case turn =>
    have hk₁ := F.keep
    clear X T hc hx' F N
    rintro C D I oI k i v ys mC mt h tk hv ⟨rfl, hJ, hJl⟩ F N hoff hDI
    refine hx.out hv ?_
    intro a na ws xs e10 hxs ha0 hws
    subst e10
    have ha := hk₁ _ _ ha0
    have hwl := hws.len_eq
    have hxm := List.mem_of_getElem? hxs
    have hxl := hzx xs hxm
    have hox1 : okL xs = true := List.all_eq_true.mp hox xs hxm
    refine wpAny_assign_Name (storeC F N ?_ rfl rfl)
    intro h' F N
    refine tests_one ?_
    refine wpAny_mono (Q := fun b s₂ => Fin9 (∃ h' tk' mC, s₂ = { s with heap := h', toks := tk' } ∧ Fr h₁ C h' mC ∧ mC (Str.ofString "one") = some (.ref a) ∧ News h₁ C h' [(D, listOf ys.toArray k), (I, oI)] ∧ b = decide (ps.take xs.length = xs))) (E := fun _ _ => False) ?_ ?_ (fun _ _ y => y)
    · w_strict (walk_at "M steps")
      exact ⟨_, _, _, rfl, by with_reducible assumption, rfl, cb_drop (by with_reducible assumption) (fun p hp => .tail _ hp), by rw [hwl]⟩
    · clear F N
      rintro b s₂ hP9
      with_reducible refine hideG fun G kG => ?_
      obtain ⟨h', tk', mC, rfl, F, hone, N, rfl⟩ := hP9 <;> (with_reducible refine kG ?_; clear kG G)
      have htk : xss.take (i + 1) = xss.take i ++ [xs] := by rw [List.take_add_one, hxs]; rfl
      have F := Fr.known F hone
      split
      · rename_i hb
        w_strict (walk_at "M steps")
        refine ⟨_, _, _, [], rfl, by with_reducible assumption, by with_reducible assumption, (fun _ h => nomatch h), rfl, ?_, by simp; omega⟩
        rw [htk, List.filter_append, List.filter_cons, if_pos hb]
        exact hJ.snoc ha0 hws
      · rename_i hb
        refine ⟨_, _, _, [], rfl, by with_reducible assumption, by with_reducible assumption, (fun _ h => nomatch h), rfl, ?_, by omega⟩
        rw [htk, List.filter_append, List.filter_cons, if_neg hb]
        simpa using hJ
  case fin =>
    rintro D k ys mt h tk ⟨rfl, hJ, hJl⟩ F' N' hext hD hmt
    rw [hx.length, List.take_length] at hJ
    have hox2 : (xss.filter fun xs => decide (ps.take xs.length = xs)).all okL = true := by
      rw [List.all_eq_true] at *
      exact fun x hx => hox x (List.mem_filter.mp hx).1
    clear F N
    simp only [List.nil_append] at N'
    w_strict (walk_at "M steps")
    walk_at "M end"
    exact back_of (fresh := []) (by with_reducible assumption) (by with_reducible assumption) (fun _ h => nomatch h) ⟨rfl, rfl⟩
end
section
set_option maxRecDepth 100000
set_option maxHeartbeats 1000000
noncomputable def listedB (ps : List Str) (xss : List (List Str)) : Bool := !decide ((xss.filter fun xs => decide (ps.take xs.length = xs)) = [])
noncomputable def ans (MD PL : List (List Str)) (f g : FD) : Str := if (listedB f.pieces MD || listedB g.folders PL) = true then Str.ofString "1" else Str.ofString "0"
noncomputable def Spk (e : Int) (gs : List FD) (f g : FD) : Prop := g ∈ gs ∧ g.pieces = f.pieces ∧ ∀ k ∈ gs, k.pieces = f.pieces → if e = 0 then ¬ slt k.text g.text else ¬ slt g.text k.text
theorem nslt_trans {x y z : Str} (a : ¬ slt y x) (b : ¬ slt z y) : ¬ slt z x := by
  have a' : x.cps.toList ≤ y.cps.toList := List.not_lt.mp a
  have b' : y.cps.toList ≤ z.cps.toList := List.not_lt.mp b
  exact List.not_lt.mpr (List.le_trans a' b')
theorem rising_pw : ∀ (p : Str) (l : List Str), risingS p l = true → (p :: l).Pairwise fun a b => ¬ slt b a
  | p, [], _ => by simp
  | p, x :: r, h => by
    change (!Spec.ltCps x.cps.toList p.cps.toList && risingS x r) = true at h
    rw [Bool.and_eq_true, Bool.not_eq_true', ltCps_eq, decide_eq_false_iff_not] at h
    have ih := rising_pw x r h.2
    refine List.pairwise_cons.mpr ⟨?_, ih⟩
    intro b hb
    rcases List.mem_cons.mp hb with rfl | hb
    · exact h.1
    · exact nslt_trans h.1 ((List.pairwise_cons.mp ih).1 b hb)
theorem sorted_pw {l : List Str} (h : sortedS l = true) : l.Pairwise fun a b => ¬ slt b a := by
  cases l with
  | nil => exact List.Pairwise.nil
  | cons x r => exact rising_pw x r h
theorem ends_of {ss : List Str} {e : Int} {x : Str} (hs : sortedS ss = true) (he : e = 0 ∨ e = -1) (hx : ss[(if e = 0 then 0 else ss.length - 1)]? = some x) : ∀ y ∈ ss, if e = 0 then ¬ slt y x else ¬ slt x y := by
  have pw := sorted_pw hs
  rw [List.pairwise_iff_getElem] at pw
  intro y hy
  obtain ⟨j, hj, rfl⟩ := List.getElem_of_mem hy
  rcases he with rfl | rfl
  · rw [if_pos rfl] at hx ⊢
    obtain ⟨h0, rfl⟩ := List.getElem?_eq_some_iff.mp hx
    by_cases q : j = 0
    · subst q; exact slt_irrefl _
    · exact pw 0 j h0 hj (by omega)
  · rw [if_neg (by decide)] at hx ⊢
    obtain ⟨h0, rfl⟩ := List.getElem?_eq_some_iff.mp hx
    by_cases q : j = ss.length - 1
    · subst q; exact slt_irrefl _
    · exact pw j (ss.length - 1) hj h0 (by omega)
theorem spk_of {gs : List FD} {f g2 : FD} {e : Int} {ss : List Str} {x : Str} (hinj : ∀ f ∈ gs, ∀ g ∈ gs, f.text = g.text → f = g) (hp : ss.Perm ((gs.filter fun g => decide (g.pieces = f.pieces)).map FD.text)) (hs : sortedS ss = true) (he : e = 0 ∨ e = -1)
    (hx : ss[(if e = 0 then 0 else ss.length - 1)]? = some x) (hg2 : g2 ∈ gs) (ht : g2.text = x) : Spk e gs f g2 := by
  have hxm := hp.mem_iff.mp (List.mem_of_getElem? hx)
  obtain ⟨g, hg, hgx⟩ := List.mem_map.mp hxm
  obtain ⟨hg1, hgp⟩ := List.mem_filter.mp hg
  have e2 : g2 = g := hinj _ hg2 _ hg1 (ht.trans hgx.symm)
  subst e2
  refine ⟨hg2, of_decide_eq_true hgp, fun k hk hkp => ?_⟩
  have hm : k.text ∈ ss := hp.mem_iff.mpr (List.mem_map.mpr ⟨k, List.mem_filter.mpr ⟨hk, decide_eq_true hkp⟩, rfl⟩)
  have := ends_of hs he hx _ hm
  rw [ht]; exact this
theorem same_pos {gs : List FD} {f : FD} {ss : List Str} (hf : f ∈ gs) (hp : ss.Perm ((gs.filter fun g => decide (g.pieces = f.pieces)).map FD.text)) : 0 < ss.length := by
  rw [hp.length_eq, List.length_map]
  exact List.length_pos_of_mem (List.mem_filter.mpr ⟨hf, decide_eq_true rfl⟩)
theorem spk_in {gs : List FD} {f : FD} {ss : List Str} {e : Int} {x : Str} (hp : ss.Perm ((gs.filter fun g => decide (g.pieces = f.pieces)).map FD.text)) (hx : ss[(if e = 0 then 0 else ss.length - 1)]? = some x) : ∃ g ∈ gs, g.text = x := by
  obtain ⟨g, hg, hgx⟩ := List.mem_map.mp (hp.mem_iff.mp (List.mem_of_getElem? hx))
  exact ⟨g, (List.mem_filter.mp hg).1, hgx⟩
end
section
set_option maxRecDepth 100000
set_option maxHeartbeats 3000000
theorem kw_F7_0 : True := by
  k_with_none
  k_with "call ref" => (k_here; k_dflt (refine wpAny_call ?_; refine' code_def0 ?kq_k2 ?kq_k3 ?kq_k4 ?kq_k5 ?kq_k6 ?kq_k7 ?kq_k8 ?kq_k9 ?kq_kB ?_ ?kq_c2 ?kq_c3 ?kq_c4 ?kq_c5; (case kq_k2 => k_asm); (case kq_k3 => k_asm); (case kq_k4 => k_asm); (case kq_k5 => k_asm); (case kq_k6 => k_is); (case kq_k7 => k_is); (case kq_k8 => k_room); (case kq_k9 => exact BindsTo.of_eq rfl); (case kq_c5 => decide); (case kq_kB => exact locs rfl); (case kq_c2 => exact rfl); (case kq_c3 => exact rfl); (case kq_c4 => exact rfl); k_whole; intro _ _ _ _ _ _ _ _; (try dsimp only); (try k_fold)))
  k_with "M enter" => (refine' enter0 ?kq_k3 ?kq_k5 ?kq_k6 ?kq_k7 ?kq_k8 ?kq_k9 ?kq_kB ?_ ?kq_c2 ?kq_c3 ?kq_c4 ?kq_c5; (case kq_k3 => assumption); (case kq_k5 => assumption); (case kq_k6 => k_is); (case kq_k7 => k_is); (case kq_k8 => decide); (case kq_k9 => exact BindsTo.of_eq rfl); (case kq_kB => exact locs rfl); (case kq_c2 => rfl); (case kq_c3 => rfl); (case kq_c4 => rfl); (case kq_c5 => decide); intro _ _ _ _; dsimp only; k_fold)
  k_with "M steps" => repeat' (first | (k_unfold; (try dsimp only)) | walk1 | (dsimp only; walk1))
  k_with "M end" => ((try dsimp only); (try k_unfold); (try dsimp only))
  k_with "ite" => first | (refine PySem.W.ite_pos (by assumption) ?_) | (refine PySem.W.ite_neg (by assumption) ?_) | (refine PySem.W.ite_neg (ne_true_of_eq_false (by assumption)) ?_)
  exact True.intro
theorem kfill_once7 : (fun (_ : OpenLaw) (_ : Params → Frag) => True) PySem.Challenge.rw_ny0070_01 hd.heap_39 := by k_fill; w_on; trivial
variable {prog : Program} {w : World} {mean : ExcName → Option Value} {mg mb : Str → Option Value} {s : Shared}
theorem kw_F7_1 : True := by
  k_with "M enterC" => (refine' enterC ?kq_k3 ?kq_k5 ?kq_k6 ?kq_k7 ?kq_k8 ?kq_k9 ?kq_kB ?kq_kD ?_ ?kq_c2 ?kq_c3 ?kq_c4; (case kq_k3 => assumption); (case kq_k5 => assumption); (case kq_k6 => k_is); (case kq_k7 => k_is); (case kq_k8 => decide); (case kq_k9 => exact BindsTo.of_eq rfl); (case kq_kB => rfl); (case kq_kD => decide +kernel); (case kq_c2 => rfl); (case kq_c3 => rfl); (case kq_c4 => rfl); intro _ _ _ _ _ _ Y'; k_cells Y'; (try dsimp only); (try k_unmd); k_fold)
  k_with "eval ListComp" => (k_dflt ((with_reducible refine' comp_open ?_ ?kq_hclos ?kq_hs ?kq_hkind ?kq_hnames); (case kq_hclos => rfl); (case kq_hs => intro _; rfl); (case kq_hkind => rfl); (case kq_hnames => decide)))
  k_with "eval Name" => (k_here; k_dflt (first
  | (refine' nameC_L ?kq_F ?kq_v ?_ ?kq_a ?kq_b ?kq_d; (case kq_F => k_asm); (case kq_a => rfl); (case kq_b => rfl); (case kq_d => decide); (case kq_v => rfl); k_whole)
  | (refine' nameC_C ?kq_F ?kq_c ?kq_o ?kq_d ?_ ?kq_a ?kq_b ?kq_e; (case kq_F => k_asm); (case kq_a => rfl); (case kq_b => rfl); (case kq_e => decide); (case kq_c => rfl); (case kq_o => with_reducible assumption); (case kq_d => with_reducible assumption); k_whole)
  | (refine' nameG_K ?kq_F ?kq_X ?kq_T ?kq_e ?_ ?kq_g ?kq_a ?kq_b ?kq_d; (case kq_g => rfl); (case kq_a => rfl); (case kq_b => rfl); (case kq_d => decide); (case kq_F => k_asm); (case kq_X => k_asm); (case kq_T => k_asm); (case kq_e => k_is); k_whole)
  | (refine' nameC_B ?kq_F ?kq_X ?kq_T ?kq_e ?kq_v ?kq_n ?_ ?kq_g ?kq_bb ?kq_a ?kq_b ?kq_d; (case kq_g => rfl); (case kq_bb => rfl); (case kq_a => rfl); (case kq_b => rfl); (case kq_d => decide); (case kq_F => k_asm); (case kq_X => k_asm); (case kq_T => k_asm); (case kq_e => k_is); (case kq_v => boot_fast); (case kq_n => decide); k_whole)))
  k_with "M list" => first | exact base_list (by k_asm) (by with_reducible assumption) | exact News.isList (by k_asm) (by k_mem)
  k_with "call builtin:len" => (k_here; (with_reducible show wpAny _ _ (call (Value.builtin "len") [Value.ref _]) _ _ _); k_dflt (refine' len_plain ?kq_t ?kq_k2 ?_; (case kq_t => walk_at "M list"); (case kq_k2 => omega)); intro _ _)
  k_with "subscriptTail Name Slice ref ref" => (k_here; (with_reducible show wpAny _ _ (subscriptTail _ (PySem.Expr.Slice none (some _) none _) (Value.ref _) (Value.ref _)) _ _ _); k_dflt (refine' sl_upto ?kq_F ?kq_N ?kq_l ?kq_sa ?kq_z ?_ ?kq_s ?kq_t; (case kq_F => k_asm); (case kq_N => k_asm); (case kq_l => walk_at "M list"); (case kq_sa => with_reducible assumption); (case kq_z => omega); (case kq_s => with_unfolding_all rfl); (case kq_t => kmk_pure)); intro _ _ _ _ _ _)
  k_with "compareOp Eq ref ref" => (k_here; k_dflt (refine' eq_strs ?kq_l ?kq_sa ?kq_l2 ?kq_sb ?kq_ox ?kq_oy ?kq_u ?_; (case kq_l => walk_at "M list"); (case kq_l2 => walk_at "M list"); (case kq_sa => with_reducible assumption); (case kq_sb => with_reducible assumption); (case kq_ox => first | with_reducible assumption | exact okL_take _ (by with_reducible assumption)); (case kq_oy => with_reducible assumption); (case kq_u => exact Nat.le_of_ble_eq_true rfl)))
  k_with "compareOp NotEq ref ref" => (k_here; k_dflt (refine' ne_nil ?kq_l ?kq_sa ?kq_l2 ?kq_ox ?kq_u ?_; (case kq_l => walk_at "M list"); (case kq_l2 => walk_at "M list"); (case kq_sa => exact LstsAt.mono (Fr.keep (by k_asm)) (by with_reducible assumption)); (case kq_ox => with_reducible assumption); (case kq_u => exact Nat.le_of_ble_eq_true rfl)))
  exact True.intro
section
variable {A : Around} {E : Value → Shared → Prop} {Q : Value → Shared → Prop}
theorem list_end {value slice : Expr} {a : Addr} {vs : List Value} {k : Int} {u : Tok} {v : Value} (t : s.heap.IsList a vs.toArray) (hk : k = 0 ∨ k = -1) (hv : vs[(if k = 0 then 0 else vs.length - 1)]? = some v) (h2 : vs.length ≤ 1000)
    (h : Q v s) (hs : subscripted slice false (.ref a) (.int k u) = operate [.ref a, .int k u] (getItem (.ref a) (.int k u)) := by with_unfolding_all rfl) :
    wpAny (model prog w) A (subscriptTail value slice (.ref a) (.int k u)) Q E s := by
  rcases hk with rfl | rfl
  · exact tail_any t.typeIs slot_list_getitem.lookup (wpAny_getItem_list (x := v) t (by decide) (by decide) (by simpa using hv) h) hs
  · rw [if_neg (by decide)] at hv
    have hl := (List.getElem?_eq_some_iff.mp hv).1
    have e : ((-1 : Int) + (vs.length : Int)).toNat = vs.length - 1 := by omega
    exact tail_any t.typeIs slot_list_getitem.lookup (wpAny_getItem_list_neg (x := v) t (by decide) (by rw [List.size_toArray]; omega) (by decide) (by rw [List.size_toArray, e]; simpa using hv) h) hs
theorem list_at0 {value slice : Expr} {a : Addr} {vs : List Value} {u : Tok} {v : Value} (t : s.heap.IsList a vs.toArray) (hv : vs[0]? = some v)
    (h : Q v s) (hs : subscripted slice false (.ref a) (.int 0 u) = operate [.ref a, .int 0 u] (getItem (.ref a) (.int 0 u)) := by with_unfolding_all rfl) :
    wpAny (model prog w) A (subscriptTail value slice (.ref a) (.int 0 u)) Q E s :=
  tail_any t.typeIs slot_list_getitem.lookup (wpAny_getItem_list (x := v) t (by decide) (by decide) (by simpa using hv) h) hs
end
theorem base_tup {h₀ h : Heap} {L a b c : Addr} {m : Str → Option Value} {x : Str} {t : Tok} (F : Fr h₀ L h m) (e : h₀.get? a = some (tupO [.str x t, .ref b, .ref c] 0)) : IsTup h a #[.str x t, .ref b, .ref c] := ⟨_, F.keep _ _ e, rfl, 0, rfl⟩
theorem kw_F7_2 : True := by
  k_with "assign Tuple" => (k_here; (with_reducible show wpAny _ _ (assign (Expr.Tuple _ _ _) _ (Value.ref _)) _ _ _); k_dflt (refine' unpackN_ ?kq_k1 ?kq_k2 ?kq_k3 ?kq_k4 ?kq_k5 ?kq_k6 ?_; (case kq_k1 => k_asm); (case kq_k2 => k_asm); (case kq_k3 => exact base_tup (by k_asm) (by with_reducible assumption)); (case kq_k4 => exact rfl); (case kq_k5 => exact rfl); (case kq_k6 => exact rfl)); intro _ _ _; (try dsimp only))
  k_with "subscriptTail Name Constant ref int" => (k_here; first | (with_reducible refine file_0 (by k_asm) (by with_reducible assumption) ?_) | (with_reducible refine file_1 (by k_asm) (by with_reducible assumption) ?_) | (with_reducible refine file_2 (by k_asm) (by with_reducible assumption) ?_))
  exact True.intro
noncomputable def DueJ (h₀ : Heap) (L : Addr) (gs : List FD) (e : Int) (MD PL : List (List Str)) (l dm dp : Addr) (i : Nat) (m : Str → Option Value) (news : List (Addr × Obj)) : Prop :=
  ∃ d ds n oS oP oE us vS vP te, m (Str.ofString "row") = some (.ref l) ∧ m (Str.ofString "mods") = some (.ref dm) ∧ m (Str.ofString "places") = some (.ref dp) ∧ m (Str.ofString "due") = some (.ref d) ∧
    news = [(d, listOf (List.toArray ds) n), (L + 3, oS), (L + 2, oP), (L + 1, oE)] ∧ L + 3 < d ∧ oS.data = .cell vS ∧ oP.data = .cell vP ∧ oE.data = .cell (some (.int e te)) ∧
    StrsAre ds us ∧ us.length = i ∧ ∀ (j : Nat) (f : FD) (u : Str), gs[j]? = some f → us[j]? = some u → ∃ g, Spk e gs f g ∧ u = ans MD PL f g
noncomputable def DueP (gs : List FD) (e : Int) (MD PL : List (List Str)) (v : Value) (fr : List (Addr × Obj)) : Prop :=
  ∃ d ds n us, v = .ref d ∧ fr = [(d, listOf (List.toArray ds) n)] ∧ StrsAre ds us ∧ us.length = gs.length ∧ ∀ (j : Nat) (f : FD) (u : Str), gs[j]? = some f → us[j]? = some u → ∃ g, Spk e gs f g ∧ u = ans MD PL f g
theorem due_noiter {L d : Addr} {its : Array Value} {n : Nat} {oS oP oE : Obj} {vS vP vE : Option Value} (a : oS.data = .cell vS) (b : oP.data = .cell vP) (c : oE.data = .cell vE) : NoIter [(d, listOf its n), (L + 3, oS), (L + 2, oP), (L + 1, oE)] := by
  intro p hp
  simp only [List.mem_cons, List.not_mem_nil, or_false] at hp
  rcases hp with rfl | rfl | rfl | rfl <;> rintro ⟨_, vs, q⟩
  · cases q
  · rw [a] at q; cases q
  · rw [b] at q; cases q
  · rw [c] at q; cases q
noncomputable def okF (f : FD) : Bool := okL f.pieces && decide (f.pieces.length ≤ 100) && okL f.folders && decide (f.folders.length ≤ 100)
theorem okF_all : allF.all okF = true := by decide +kernel
theorem okP {f : FD} (h : f ∈ allF) : okL f.pieces = true := by
  have := all_of okF_all h
  simp only [okF, Bool.and_eq_true] at this
  exact this.1.1.1
theorem okZ {f : FD} (h : f ∈ allF) : f.pieces.length ≤ 100 := by
  have := all_of okF_all h
  simp only [okF, Bool.and_eq_true, decide_eq_true_eq] at this
  exact this.1.1.2
theorem okQ {f : FD} (h : f ∈ allF) : okL f.folders = true := by
  have := all_of okF_all h
  simp only [okF, Bool.and_eq_true] at this
  exact this.1.2
theorem okW {f : FD} (h : f ∈ allF) : f.folders.length ≤ 100 := by
  have := all_of okF_all h
  simp only [okF, Bool.and_eq_true, decide_eq_true_eq] at this
  exact this.2
theorem kw_F7_3 : True := by
  k_with "subscriptTail Name Name ref int" => (k_here; k_dflt (refine' list_end ?kq_t ?kq_k0 ?kq_hv ?kq_k2 ?_; (case kq_t => walk_at "M list"); (case kq_k0 => with_reducible assumption); (case kq_hv => with_reducible assumption); (case kq_k2 => omega)))
  k_with "subscriptTail Name Constant ref int" => (k_here; (with_reducible refine' list_at0 ?kq_t ?kq_hv ?_); (case kq_t => k_dflt (exact News.isList (by k_asm) (by k_mem))); (case kq_hv => with_reducible assumption))
  exact True.intro
theorem listed_use {A : Around} {Q E : Value → Shared → Prop} {h₀ : Heap} {L : Addr} {m : Str → Option Value} {news : List (Addr × Obj)} {c l : Addr} {us ls : List Value} {ps : List Str} {xss : List (List Str)} {n n' : Nat} (F : Fr h₀ L s.heap m) (N : News h₀ L s.heap news)
   (X : (hd.heap_39 w.params).In h₀) (T : Top hd.view_39 (looseW hd.view_39 []) mean mg mb h₀) (hc : h₀.get? c = some (listOf us.toArray n)) (hp : StrsAre us ps) (hl : h₀.get? l = some (listOf ls.toArray n')) (hx : LstsAt h₀ ls xss)
   (ho : okL ps = true) (hox : xss.all okL = true) (hz : ps.length ≤ 100) (hz' : xss.length ≤ 100) (hzx : ∀ xs ∈ xss, xs.length ≤ 100)
   (k : ∀ h' tk', Fr h₀ L h' m → News h₀ L h' news → Q (.bool (listedB ps xss)) { s with heap := h', toks := tk' })
   (h1 : A.handled = none := by rfl) (h2 : A.depth ≤ 700 := by exact Nat.le_of_ble_eq_true rfl) (h4 : A.units ≤ 700 := by exact Nat.le_of_ble_eq_true rfl) :
   wpAny (model prog w) A (call (.ref 144) [.ref c, .ref l]) Q E s := by
  refine use_back (listed_spec (F.keep _ _ hc) hp (F.keep _ _ hl) (hx.mono F.keep) ho hox hz hz' hzx (X.keeps F.keep) (T.keeps F.keep)) F N ?_ h1 h2 rfl rfl h4
  rintro v fresh h' tk' F' N' _ _ ⟨rfl, rfl⟩
  exact k h' tk' F' N'
theorem kw_F7_4 : True := by
  k_with "call ref" => (k_here; (with_reducible refine' listed_use ?kq_F ?kq_N ?kq_X ?kq_T ?kq_hc ?kq_hp ?kq_hl ?kq_hx ?kq_ho ?kq_hox ?kq_hz ?kq_hz2 ?kq_hzx ?_ ?kq_h1 ?kq_h2 ?kq_h4); (case kq_h1 => k_dflt (exact rfl)); (case kq_h2 => k_dflt (exact Nat.le_of_ble_eq_true rfl)); (case kq_h4 => k_dflt (exact Nat.le_of_ble_eq_true rfl)); (case kq_F => k_asm); (case kq_N => k_asm); (case kq_X => k_asm); (case kq_T => k_asm); (case kq_hc => with_reducible assumption); (case kq_hp => with_reducible assumption); (case kq_hl => with_reducible assumption); (case kq_hx => with_reducible assumption); (case kq_ho => with_reducible assumption); (case kq_hox => with_reducible assumption); (case kq_hz => with_reducible assumption); (case kq_hz2 => with_reducible assumption); (case kq_hzx => with_reducible assumption); intro _ _ _ _)
  exact True.intro
theorem upd4 {d a1 a2 a3 a4 a5 a6 a7 : Addr} {o o' o1 o2 o3 o4 o5 o6 o7 : Obj} (h1 : a1 ≠ d) (h2 : a2 ≠ d) (h3 : a3 ≠ d) (h4 : a4 ≠ d) (h5 : a5 ≠ d) (h6 : a6 ≠ d) (h7 : a7 ≠ d) :
    Upd d o o' [(a1, o1), (a2, o2), (a3, o3), (a4, o4), (d, o), (a5, o5), (a6, o6), (a7, o7)] [(a1, o1), (a2, o2), (a3, o3), (a4, o4), (d, o'), (a5, o5), (a6, o6), (a7, o7)] := by
  refine .tail h1 (.tail h2 (.tail h3 (.tail h4 (.head ?_))))
  intro p hp
  simp only [List.mem_cons, List.not_mem_nil, or_false] at hp
  rcases hp with rfl | rfl | rfl
  · exact h5
  · exact h6
  · exact h7
theorem kw_F7_5 : True := by
  k_with "call builtin:list.append" => (k_here; (try dsimp only [List.nil_append, List.cons_append]); (with_reducible refine' append_K ?kq_F ?kq_N (upd4 ?kq_n1 ?kq_n2 ?kq_n3 ?kq_n4 ?kq_n5 ?kq_n6 ?kq_n7) ?_ ?kq_z); (case kq_F => k_asm); (case kq_N => k_asm); (case kq_n1 => exact neN (by omega)); (case kq_n2 => exact neN (by omega)); (case kq_n3 => exact neN (by omega)); (case kq_n4 => exact neN (by omega)); (case kq_n5 => exact neN (by omega)); (case kq_n6 => exact neN (by omega)); (case kq_n7 => exact neN (by omega)); (case kq_z => rw [sizeLine_eq, List.size_toArray]; omega); intro _ _ _)
  exact True.intro
theorem str_beq {x y : Str} : (x == y) = decide (x = y) := by
  by_cases h : x = y
  · subst h; simp
  · rw [decide_eq_false h]; simpa using h
theorem news_ne {h₀ h : Heap} {L D : Addr} {news : List (Addr × Obj)} (N : News h₀ L h news) (hD : h.get? D = none) : ∀ p ∈ news, D ≠ p.1 := fun p hp q => by
  have := (N p hp).1
  rw [← q, hD] at this; cases this
theorem news_lt {h₀ h : Heap} {L : Addr} {news : List (Addr × Obj)} (N : News h₀ L h news) : ∀ p ∈ news, p.1 < h.objs.size := fun p hp => Heap.lt_size (N p hp).1
theorem due_end {s₀ : Shared} {h₀ h' : Heap} {L d I l dm dp a1 a2 a3 : Addr} {o1 o2 o3 oI oS oP oE : Obj} {m' : Str → Option Value} {tk' n i : Nat} {ds : List Value} {us : List Str} {u : Str} {tu te : Tok} {gs : List FD} {e : Int} {MD PL : List (List Str)} {f g : FD} {vS vP : Option Value}
    (F : Fr h₀ L h' m') (N : News h₀ L h' [(a1, o1), (a2, o2), (a3, o3), (I, oI), (d, listOf (ds.toArray.push (.str u tu)) (n + 1)), (L + 3, oS), (L + 2, oP), (L + 1, oE)])
    (m1 : m' (Str.ofString "row") = some (.ref l)) (m2 : m' (Str.ofString "mods") = some (.ref dm)) (m3 : m' (Str.ofString "places") = some (.ref dp)) (m4 : m' (Str.ofString "due") = some (.ref d))
    (hI : IterO oI l (i + 1)) (hd : L + 3 < d) (dS : oS.data = .cell vS) (dP : oP.data = .cell vP) (dE : oE.data = .cell (some (.int e te))) (hds : StrsAre ds us) (hul : us.length = i)
    (hans : ∀ (j : Nat) (f : FD) (u : Str), gs[j]? = some f → us[j]? = some u → ∃ g, Spk e gs f g ∧ u = ans MD PL f g) (hfi : gs[i]? = some f) (hspk : Spk e gs f g) (hu : u = ans MD PL f g) :
    ForEnd s₀ h₀ L I l (i + 1) (DueJ h₀ L gs e MD PL l dm dp (i + 1)) { s₀ with heap := h', toks := tk' } := by
  refine ⟨h', tk', m', [(d, listOf (ds ++ [Value.str u tu]).toArray (n + 1)), (L + 3, oS), (L + 2, oP), (L + 1, oE)], oI, rfl, F, ?_, hI, due_noiter dS dP dE, d, ds ++ [Value.str u tu], n + 1, oS, oP, oE, us ++ [u], vS, vP, te, m1, m2, m3, m4, rfl, hd, dS, dP, dE, StrsAre.append hds (.cons _ _ .nil), by simp [hul], ?_⟩
  · have e9 : (ds ++ [Value.str u tu]).toArray = ds.toArray.push (.str u tu) := by simp
    rw [e9]
    exact cb_drop N fun p hp => .tail _ (.tail _ (.tail _ hp))
  · intro j f' u' h1 h2
    by_cases q : j < us.length
    · rw [List.getElem?_append_left q] at h2
      exact hans j f' u' h1 h2
    · have hj := (List.getElem?_eq_some_iff.mp h2).1
      rw [List.length_append, List.length_singleton] at hj
      have e9 : j = us.length := by omega
      subst e9
      rw [List.getElem?_append_right (Nat.le_refl _), Nat.sub_self] at h2
      cases h2
      rw [hul, hfi] at h1
      cases h1
      exact ⟨g, hspk, hu⟩
theorem kw_F7_6 : True := by
  k_with "M due_end" => ((try dsimp only); refine' due_end ?kq_F ?kq_N ?kq_m1 ?kq_m2 ?kq_m3 ?kq_m4 ?kq_hI ?kq_hd ?kq_dS ?kq_dP ?kq_dE ?kq_hds ?kq_hul ?kq_hans ?kq_hfi ?kq_hspk ?_; (case kq_F => with_reducible assumption); (case kq_N => with_reducible assumption); (case kq_m1 => rfl); (case kq_m2 => rfl); (case kq_m3 => rfl); (case kq_m4 => rfl); (case kq_hI => with_reducible assumption); (case kq_hd => with_reducible assumption); (case kq_dS => with_reducible assumption); (case kq_dP => with_reducible assumption); (case kq_dE => with_reducible assumption); (case kq_hds => with_reducible assumption); (case kq_hul => with_reducible assumption); (case kq_hans => with_reducible assumption); (case kq_hfi => with_reducible assumption); (case kq_hspk => with_reducible assumption))
  exact True.intro
theorem ans_1 {MD PL : List (List Str)} {f g : FD} (h : listedB f.pieces MD = true) : Str.ofString "1" = ans MD PL f g := by unfold ans; rw [h]; rfl
theorem ans_2 {MD PL : List (List Str)} {f g : FD} (h : listedB f.pieces MD = false) (h' : listedB g.folders PL = true) : Str.ofString "1" = ans MD PL f g := by unfold ans; rw [h, h']; rfl
theorem ans_3 {MD PL : List (List Str)} {f g : FD} (h : listedB f.pieces MD = false) (h' : listedB g.folders PL = false) : Str.ofString "0" = ans MD PL f g := by unfold ans; rw [h, h']; rfl
theorem due_spec {l dm dp : Addr} {vs ms qs : List Value} {gs : List FD} {e : Int} {te : Tok} {MD PL : List (List Str)} {n1 n2 n3 : Nat} (hl : s.heap.get? l = some (listOf vs.toArray n1)) (hf : FilesAt s.heap vs gs) (hlen : gs.length ≤ 50) (hinj : ∀ f ∈ gs, ∀ g ∈ gs, f.text = g.text → f = g) (he : e = 0 ∨ e = -1)
   (hm : s.heap.get? dm = some (listOf ms.toArray n2)) (hM : LstsAt s.heap ms MD) (hp : s.heap.get? dp = some (listOf qs.toArray n3)) (hP : LstsAt s.heap qs PL) (oM : MD.all okL = true) (oP : PL.all okL = true) (zM : MD.length ≤ 100) (zP : PL.length ≤ 100) (zM' : ∀ xs ∈ MD, xs.length ≤ 100) (zP' : ∀ xs ∈ PL, xs.length ≤ 100)
   (X : (hd.heap_39 w.params).In s.heap) (T : Top hd.view_39 (looseW hd.view_39 []) mean mg mb s.heap) :
   codeAny (model prog w) (AA 600 600) (.call (.ref 154) ⟨[.ref l, .int e te, .ref dm, .ref dp], []⟩) (Back s (DueP gs e MD PL)) s := by
  walk_at "M enterC"
  rename_i L h1 tk1 F oS oP' oE dS dP dE N
  replace N : News s.heap L h1 [(L + 3, oS), (L + 2, oP'), (L + 1, oE)] := N
  replace dS : oS.data = .cell none := dS
  replace dP : oP'.data = .cell none := dP
  replace dE : oE.data = .cell (some (.int e te)) := dE
  with_reducible refine cut_stmt (fun s' => ∀ G : Prop, (∀ h' tk' m news, s' = { s with heap := h', toks := tk' } → Fr s.heap L h' m → News s.heap L h' news → DueJ s.heap L gs e MD PL l dm dp 0 m news → G) → G) ?_ ?_
  · w_strict (walk_at "M steps")
    rename_i D _ hD _ _ _
    exact ⟨rfl, fun _ k => k _ _ _ _ rfl (by with_reducible assumption) (by with_reducible assumption) ⟨D, [], 0, oS, oP', oE, [], _, _, _, rfl, rfl, rfl, rfl, rfl, hD.1, dS, dP, dE, .nil, rfl, fun j f u _ h => by simp at h⟩⟩
  clear F N dS dP dE oS oP' oE
  rintro s' hP9
  with_reducible refine hP9 _ ?_
  clear hP9
  intro h' tk' m news e9 F N hJ
  subst e9
  with_reducible refine cut_stmt (fun s' => ∀ G : Prop, (∀ h' tk' m news, s' = { s with heap := h', toks := tk' } → Fr s.heap L h' m → News s.heap L h' news → DueJ s.heap L gs e MD PL l dm dp vs.length m news → G) → G) ?_ ?_
  · obtain ⟨d, ds, n, oS, oP', oE, us, vS, vP, te', h1, h2, h3, h4, rfl, hd, dS, dP, dE, r⟩ := hJ
    have F := Fr.known4 F h1 h2 h3 h4
    with_reducible refine wpAny_For ?_ ?hs
    case hs => intro _; rfl
    w_strict (walk_at "M steps")
    refine for_frame (h₀ := s.heap) (L := L) (vs := vs) (Q := fun f s' => Fin9 (f = Flow.next ∧ ∀ G : Prop, (∀ h' tk' m news, s' = { s with heap := h', toks := tk' } → Fr s.heap L h' m → News s.heap L h' news → DueJ s.heap L gs e MD PL l dm dp vs.length m news → G) → G)) rfl (DueJ s.heap L gs e MD PL l dm dp) F N ⟨_, hl, rfl, _, rfl⟩ (due_noiter dS dP dE) ⟨d, ds, n, oS, oP', oE, us, vS, vP, te', rfl, rfl, rfl, rfl, rfl, hd, dS, dP, dE, r⟩ ?turn ?done
    case done => intro m news h tk hJ F N; exact ⟨rfl, fun _ k => k h tk m news rfl F N hJ⟩
    case turn =>
      clear F N h1 h2 h3 h4 hd dS dP dE r
      clear d ds n oS oP' oE us vS vP te'
      rintro i v m news h tk I oI hv hP9 F N hI hoff
      with_reducible refine hideG fun G kG => ?_
      obtain ⟨d, ds, n, oS, oP', oE, us, vS, vP, te', h1, h2, h3, h4, rfl, hd, dS, dP, dE, hds, hul, hans⟩ := hP9 <;> (with_reducible refine kG ?_; clear kG G)
      have F := Fr.known4 F h1 h2 h3 h4
      refine hf.out hv ?_
      intro f hfi hfm a t b fvs c pus e10 e2 e3 e4 e5 e6
      subst e10
      have hd9 := ltN hd
      have hI1 := neN (Ne.symm (hoff _ (.head _)))
      have hI2 := neN (Ne.symm (hoff _ (.tail _ (.head _))))
      have hI3 := neN (Ne.symm (hoff _ (.tail _ (.tail _ (.head _)))))
      have hI4 := neN (Ne.symm (hoff _ (.tail _ (.tail _ (.tail _ (.head _))))))
      dsimp only at hI1 hI2 hI3 hI4
      w_strict (walk_at "M steps")
      rename_i h₁ oP2 F N dP2
      have X' := X.keeps F.keep
      have T' := T.keeps F.keep
      have hf1 := hf.mono F.keep
      have e4' := F.keep _ _ e4
      have hcell' : h₁.get? (L + 2) = some oP2 := (N (L + 2, oP2) (by k_mem)).1
      have hvl := hf.length
      refine comp_pure F N ⟨_, F.keep _ _ hl, rfl, _, rfl⟩ (by omega) (fun i ys mt => mt = [] ∧ StrsAre ys (((gs.take i).filter fun g => decide (g.pieces = f.pieces)).map FD.text) ∧ ys.length ≤ i) ⟨rfl, by simpa using StrsAre.nil, Nat.le_refl _⟩ (fun _ _ _ h => h.2.2) ?turn ?fin rfl (by decide) rfl
      case turn =>
        clear X T hf F N
        rintro C D I oI k i v ys mC mt h tk hv ⟨rfl, hJ, hJl⟩ F N hoff hDI
        refine hf1.out hv ?_
        intro g hgi hgm a1 t1 b1 gvs c1 gus e10 e12 e13 e14 e15 e16
        subst e10
        have okf := okP hfm
        have okg := okP hgm
        refine wpAny_assign_Name (storeC F N ?_ rfl rfl)
        intro h' F N
        refine tests_one ?_
        refine wpAny_mono (Q := fun b s₂ => Fin9 (∃ h' tk' mC, s₂ = { s with heap := h', toks := tk' } ∧ Fr h₁ C h' mC ∧ mC (Str.ofString "file") = some (.ref a1) ∧ News h₁ C h' [(D, listOf ys.toArray k), (I, oI)] ∧ b = decide (g.pieces = f.pieces))) (E := fun _ _ => False) ?_ ?_ (fun _ _ y => y)
        · w_strict (walk_at "M steps")
          exact ⟨_, _, _, rfl, by with_reducible assumption, rfl, by with_reducible assumption, rfl⟩
        · clear F N
          rintro b s₂ hP9
          with_reducible refine hideG fun G kG => ?_
          obtain ⟨h', tk', mC, rfl, F, hone, N, rfl⟩ := hP9 <;> (with_reducible refine kG ?_; clear kG G)
          have htk : gs.take (i + 1) = gs.take i ++ [g] := by rw [List.take_add_one, hgi]; rfl
          have F := Fr.known F hone
          split
          · rename_i hb
            w_strict (walk_at "M steps")
            refine ⟨_, _, _, [], rfl, by with_reducible assumption, by with_reducible assumption, (fun _ h => nomatch h), rfl, ?_, by simp; omega⟩
            rw [htk, List.filter_append, List.filter_cons, if_pos hb, List.map_append]
            exact StrsAre.append hJ (.cons _ _ .nil)
          · rename_i hb
            refine ⟨_, _, _, [], rfl, by with_reducible assumption, by with_reducible assumption, (fun _ h => nomatch h), rfl, ?_, by omega⟩
            rw [htk, List.filter_append, List.filter_cons, if_neg hb]
            simpa using hJ
      case fin =>
        rintro D1 k1 ys mt h2 tk2 ⟨rfl, hJ, hJl⟩ F' N' hext hD hmt
        rw [hvl, List.take_length] at hJ
        simp only [List.nil_append] at N'
        have hDn := news_ne N hD
        have k1' := neN (hDn _ (.head _))
        have k2' := neN (hDn _ (.tail _ (.head _)))
        have k3' := neN (hDn _ (.tail _ (.tail _ (.head _))))
        have k4' := neN (hDn _ (.tail _ (.tail _ (.tail _ (.head _)))))
        have k5' := neN (hDn _ (.tail _ (.tail _ (.tail _ (.tail _ (.head _))))))
        dsimp only at k1' k2' k3' k4' k5'
        clear F N hmt hD hext X' T' hf1 e4' hcell' hDn
        w_strict (walk_at "M steps")
        refine sorted_N_str F' N' (News.isList N' (.head _)) hJ (by omega) ?_
        intro h3 vs3 ss3 n3' F3 N3 hS3 hp3 hs3
        have hSn := news_lt N'
        have j1' := ltN (hSn _ (.head _))
        have j2' := ltN (hSn _ (.tail _ (.head _)))
        have j3' := ltN (hSn _ (.tail _ (.tail _ (.head _))))
        have j4' := ltN (hSn _ (.tail _ (.tail _ (.tail _ (.head _)))))
        dsimp only at j1' j2' j3' j4'
        generalize h2.objs.size = z2 at *
        clear F' N' hSn
        replace N3 : News s.heap L h3 ((z2 + 1, listOf vs3.toArray n3') :: _) := N3
        have hfg := List.mem_of_getElem? hfi
        have hpos := same_pos hfg hp3
        have hvl3 := hS3.len_eq
        have hs3l : ss3.length ≤ 50 := by
          rw [hp3.length_eq, List.length_map]
          exact Nat.le_trans (List.length_filter_le _ _) hlen
        obtain ⟨x, hx⟩ : ∃ x, ss3[(if e = 0 then 0 else ss3.length - 1)]? = some x := by
          refine ⟨_, List.getElem?_eq_getElem ?_⟩
          split <;> omega
        obtain ⟨tx, hvx⟩ := hS3.at hx
        rw [← hvl3] at hvx
        w_strict (walk_at "M steps")
        rename_i h₄ oS2 F N dS2
        have X' := X.keeps F.keep
        have T' := T.keeps F.keep
        have hf1 := hf.mono F.keep
        have hcS : h₄.get? (L + 3) = some oS2 := (N (L + 3, oS2) (by k_mem)).1
        have hcE : h₄.get? (L + 1) = some oE := (N (L + 1, oE) (by k_mem)).1
        have hsm : h₄.get? (z2 + 1) = some (listOf vs3.toArray n3') := (N (z2 + 1, listOf vs3.toArray n3') (by k_mem)).1
        refine comp_pure F N ⟨_, F.keep _ _ hl, rfl, _, rfl⟩ (by omega) (fun i ys mt => mt = [] ∧ FilesAt s.heap ys ((gs.take i).filter fun g => decide (g.text = x)) ∧ ys.length ≤ i) ⟨rfl, by simpa using FilesAt.nil, Nat.le_refl _⟩ (fun _ _ _ h => h.2.2) ?turn ?fin rfl (by decide) rfl
        case turn =>
          clear X T F N
          rintro C D I oI k i v ys mC mt h tk hv ⟨rfl, hJ, hJl⟩ F N hoff hDI
          obtain ⟨g, hgi, hgf⟩ := hf.get hv
          with_reducible refine hideG fun G kG => ?_
          obtain ⟨g', hgi', hgm, a1, t1, b1, gvs, c1, gus, e11, e12, e13, e14, e15, e16⟩ := hf1.get hv <;> (with_reducible refine kG ?_; clear kG G)
          rw [hgi] at hgi'
          cases hgi'
          subst e11
          refine wpAny_assign_Name (storeC F N ?_ rfl rfl)
          intro h' F N
          refine tests_one ?_
          refine wpAny_mono (Q := fun b s₂ => Fin9 (∃ h' tk' mC, s₂ = { s with heap := h', toks := tk' } ∧ Fr h₄ C h' mC ∧ mC (Str.ofString "file") = some (.ref a1) ∧ News h₄ C h' [(D, listOf ys.toArray k), (I, oI)] ∧ b = decide (g.text = x))) (E := fun _ _ => False) ?_ ?_ (fun _ _ y => y)
          · w_strict (walk_at "M steps")
            exact ⟨_, _, _, rfl, by with_reducible assumption, rfl, by with_reducible assumption, str_beq⟩
          · clear F N
            rintro b s₂ hP9
            with_reducible refine hideG fun G kG => ?_
            obtain ⟨h', tk', mC, rfl, F, hone, N, rfl⟩ := hP9 <;> (with_reducible refine kG ?_; clear kG G)
            have htk : gs.take (i + 1) = gs.take i ++ [g] := by rw [List.take_add_one, hgi]; rfl
            have F := Fr.known F hone
            split
            · rename_i hb
              w_strict (walk_at "M steps")
              refine ⟨_, _, _, [], rfl, by with_reducible assumption, by with_reducible assumption, (fun _ h => nomatch h), rfl, ?_, by simp; omega⟩
              rw [htk, List.filter_append, List.filter_cons, if_pos hb]
              exact hJ.append (.cons hgf .nil)
            · rename_i hb
              refine ⟨_, _, _, [], rfl, by with_reducible assumption, by with_reducible assumption, (fun _ h => nomatch h), rfl, ?_, by omega⟩
              rw [htk, List.filter_append, List.filter_cons, if_neg hb]
              simpa using hJ
        case fin =>
          rintro D2 k2 ys2 mt h5 tk5 ⟨rfl, hJ2, hJl2⟩ F' N' hext hD hmt
          rw [hvl, List.take_length] at hJ2
          simp only [List.nil_append] at N'
          have hDn := news_ne N hD
          have i1' := neN (hDn _ (.head _))
          have i2' := neN (hDn _ (.tail _ (.head _)))
          have i3' := neN (hDn _ (.tail _ (.tail _ (.head _))))
          have i4' := neN (hDn _ (.tail _ (.tail _ (.tail _ (.head _)))))
          have i5' := neN (hDn _ (.tail _ (.tail _ (.tail _ (.tail _ (.head _))))))
          have i6' := neN (hDn _ (.tail _ (.tail _ (.tail _ (.tail _ (.tail _ (.head _)))))))
          dsimp only at i1' i2' i3' i4' i5' i6'
          clear F N hmt hD hext X' T' hf1 hcS hcE hsm hDn
          obtain ⟨g0, hg0, hg0x⟩ := spk_in hp3 hx
          have hne2 : 0 < ys2.length := by
            rw [hJ2.length]
            exact List.length_pos_of_mem (List.mem_filter.mpr ⟨hg0, decide_eq_true hg0x⟩)
          have hv0 : ys2[0]? = some ys2[0] := List.getElem?_eq_getElem hne2
          with_reducible refine hideG fun G kG => ?_
          obtain ⟨g2, hg2i, hg2m, a2, t2, b2, gvs2, c2, gus2, e21, e22, e23, e24, e25, e26⟩ := hJ2.get hv0 <;> (with_reducible refine kG ?_; clear kG G)
          rw [e21] at hv0
          have hg2f := List.mem_filter.mp (List.mem_of_getElem? hg2i)
          have z1 := okZ hfm
          have hdl := hds.len_eq
          have hil := (List.getElem?_eq_some_iff.mp hfi).1
          have o1 := okP hfm
          have z2' := okW hg2m
          have o2 := okQ hg2m
          have hspk := spk_of hinj hp3 hs3 he hx hg2f.1 (of_decide_eq_true hg2f.2)
          w_strict (walk_at "M steps")
          · walk_at "M due_end"
            exact ans_1 (by with_reducible assumption)
          · walk_at "M due_end"
            exact ans_2 (by with_reducible assumption) (by with_reducible assumption)
          · walk_at "M due_end"
            exact ans_3 (by with_reducible assumption) (by with_reducible assumption)
  · clear F N hJ
    rintro s' hP9
    with_reducible refine hP9 _ ?_
    clear hP9
    intro h' tk' m news e9 F N hP8
    subst e9
    with_reducible refine hideG fun G kG => ?_
    obtain ⟨d, ds, n, oS, oP', oE, us, vS, vP, te', h1, h2, h3, h4, rfl, hd, dS, dP, dE, hds, hul, hans⟩ := hP8 <;> (with_reducible refine kG ?_; clear kG G)
    have F := Fr.known F h4
    w_strict (walk_at "M steps")
    walk_at "M end"
    exact back_of (fresh := [(d, listOf (List.toArray ds) n)]) (by with_reducible assumption) (by with_reducible assumption) (fun p hp => by rw [List.mem_singleton.mp hp]; exact .head _) ⟨d, ds, n, us, rfl, rfl, hds, by rw [hul]; exact hf.length, hans⟩
end
section
set_option maxRecDepth 100000
set_option maxHeartbeats 1000000
section
variable {prog : Program} {w : World} {A : Around} {s : Shared} {h₀ : Heap} {L : Addr} {env : Env} {m : Str → Option Value} {news : List (Addr × Obj)} {l : Addr} {vs : List Value} {n : Nat}
/-- a for over a list of the ledger, turn by turn -/
theorem led_start {E : Value → Shared → Prop} {target : Expr} {body : List Stmt} {R : Result → Shared → Prop} (F : Fr h₀ L s.heap m) (N : News h₀ L s.heap news) (hl : (l, listOf vs.toArray n) ∈ news)
    (h : ∀ I oI h', Fr h₀ L h' m → News h₀ L h' ((I, oI) :: news) → IterO oI l 0 → (∀ p ∈ news, p.1 < I) → codeAny (model prog w) A (.forLoop target (.ref I) body [] env) R { s with heap := h' }) :
    wpAny (model prog w) A (pyIter (.ref l)) (fun it s₂ => codeAny (model prog w) A (.forLoop target it body [] env) R s₂) E s :=
  wpAny_pyIter_list (News.isList N hl) (h _ _ _ (F.push _) (News.push F N _) ⟨rfl, rfl⟩ fun p hp => Heap.lt_size (N p hp).1)
theorem forLoop_unr {R : Result → Shared → Prop} {target : Expr} {I : Addr} {body : List Stmt} 
    (turn : wpAny (model prog w) A (pyNext (.ref I)) (fun r s₁ => match r with
      | none => R (.ok .next) s₁
      | some v => (∃ o vs, s₁.heap.get? I = some o ∧ o.cls = .type "list_iterator" ∧ o.data = .fields vs) ∧ wpAny (model prog w) A (assign target env v) (fun _ s₂ => wpAny (model prog w) A (execs body env) (fun f s₃ => match f with
          | .next | .cont => codeAny (model prog w) A (.forLoop target (.ref I) body [] env) R s₃
          | .brk => R (.ok .next) s₃
          | .ret v => R (.ok (.ret v)) s₃) (fun _ _ => False) s₂) (fun _ _ => False) s₁) (fun _ _ => False) s) :
    codeAny (model prog w) A (.forLoop target (.ref I) body [] env) R s := by
  refine codeAny_of_tree ?_
  show wpAny _ _ ((forTurn target (.ref I) body [] env).onRaise (fun x => do noteFrame x env; theTreesLotGoes x)) _ _ s
  refine wpAny_noted ?_
  simp only [forTurn]
  refine wpAny_bind (wpAny_standAt (wpAny_bind (wpAny_onRaise (wpAny_mono turn (fun r s₁ h₁ => ?_) fun _ _ h' => h'.elim))))
  cases r with
  | none => exact wpAny_pure ⟨rfl, codeAny_block (wpAny_execs_nil h₁)⟩
  | some v =>
    with_reducible refine hideG fun G kG => ?_
    obtain ⟨⟨o, vs, ho, hc, hd⟩, h₁⟩ := h₁ <;> (with_reducible refine kG ?_; clear kG G)
    refine wpAny_bind (letOwned ho hc hd ?_)
    refine wpAny_bind (wpAny_mono h₁ (fun _ s₂ h₂ => wpAny_bind (wpAny_mono h₂ (fun f s₃ h₃ => ?_) fun _ _ h' => h'.elim)) fun _ _ h' => h'.elim)
    cases f with
    | next => exact wpAny_pure ⟨rfl, h₃⟩
    | cont => exact wpAny_pure ⟨rfl, h₃⟩
    | brk => exact wpAny_pure h₃
    | ret v => exact wpAny_pure h₃
theorem led_turn {R : Result → Shared → Prop} {target : Expr} {I : Addr} {oI : Obj} {i : Nat} {v : Value} {body : List Stmt} (F : Fr h₀ L s.heap m) (N : News h₀ L s.heap ((I, oI) :: news)) (hI : IterO oI l i) (hl : (l, listOf vs.toArray n) ∈ news) (off : ∀ p ∈ news, p.1 ≠ I) (hv : vs[i]? = some v)
    (h : ∀ h' oI', Fr h₀ L h' m → News h₀ L h' ((I, oI') :: news) → IterO oI' l (i + 1) →
      wpAny (model prog w) A (assign target env v) (fun _ s₂ => wpAny (model prog w) A (execs body env) (fun f s₃ => match f with
          | .next | .cont => codeAny (model prog w) A (.forLoop target (.ref I) body [] env) R s₃
          | .brk => R (.ok .next) s₃
          | .ret v => R (.ok (.ret v)) s₃) (fun _ _ => False) s₂) (fun _ _ => False) { s with heap := h' }) :
    codeAny (model prog w) A (.forLoop target (.ref I) body [] env) R s := by
  obtain ⟨hc, hd⟩ := hI
  have ho := (N _ (.head _)).1
  refine forLoop_unr (wpAny_pyNext_list_item (i := i) ⟨oI, ho, hc, hd⟩ (News.isList N (.tail _ hl)) (x := v) (by simpa using hv) fun h₁ hit hs => ?_)
  obtain ⟨o₁, ho₁, hc₁, hd₁⟩ := hit
  refine ⟨⟨o₁, _, ho₁, hc₁, hd₁⟩, h h₁ o₁ (F.change hs (N _ (.head _)).2.1 (N _ (.head _)).2.2) ?_ ⟨hc₁, hd₁⟩⟩
  intro p hp
  rcases List.mem_cons.mp hp with rfl | hp
  · exact ⟨ho₁, (N _ (.head _)).2⟩
  · have := N p (.tail _ hp)
    exact ⟨(hs.2 p.1 (off p hp)).trans this.1, this.2⟩
theorem led_done {R : Result → Shared → Prop} {target : Expr} {I : Addr} {oI : Obj} {i : Nat} {body : List Stmt} (hh : A.handled = none) (F : Fr h₀ L s.heap m) (N : News h₀ L s.heap ((I, oI) :: news)) (hI : IterO oI l i) (hl : (l, listOf vs.toArray n) ∈ news) (off : ∀ p ∈ news, p.1 ≠ I) (hv : vs[i]? = none)
    (h : ∀ h', Fr h₀ L h' m → News h₀ L h' news → R (.ok .next) { s with heap := h' }) :
    codeAny (model prog w) A (.forLoop target (.ref I) body [] env) R s := by
  obtain ⟨hc, hd⟩ := hI
  have ho := (N _ (.head _)).1
  refine forLoop_unr (wpAny_pyNext_list_end (i := i) hh ⟨oI, ho, hc, hd⟩ (News.isList N (.tail _ hl)) (by simpa using hv) fun h₁ hs => ?_)
  have hne := (N _ (.head _)).2
  refine h h₁ ?_ fun p hp => ⟨hs p.1 p.2 (off p hp) (N p (.tail _ hp)).1, (N p (.tail _ hp)).2⟩
  with_reducible refine hideG fun G kG => ?_
  obtain ⟨oL, a1, a2, hoL, a3⟩ := F.ns <;> (with_reducible refine kG ?_; clear kG G)
  refine ⟨⟨oL, a1, a2, hs _ _ (Ne.symm hne.1) hoL, a3⟩, fun b x e => hs _ _ (fun q => ?_) (F.keep b x e), F.above⟩
  rw [q, hne.2] at e; cases e
end
end
section
set_option maxRecDepth 100000
set_option maxHeartbeats 1000000
theorem kw_F8n_0 : True := by
  k_with_none
  k_with "call ref" => (k_here; k_dflt (refine wpAny_call ?_; refine' code_def0 ?kq_k2 ?kq_k3 ?kq_k4 ?kq_k5 ?kq_k6 ?kq_k7 ?kq_k8 ?kq_k9 ?kq_kB ?_ ?kq_c2 ?kq_c3 ?kq_c4 ?kq_c5; (case kq_k2 => k_asm); (case kq_k3 => k_asm); (case kq_k4 => k_asm); (case kq_k5 => k_asm); (case kq_k6 => k_is); (case kq_k7 => k_is); (case kq_k8 => k_room); (case kq_k9 => exact BindsTo.of_eq rfl); (case kq_c5 => decide); (case kq_kB => exact locs rfl); (case kq_c2 => exact rfl); (case kq_c3 => exact rfl); (case kq_c4 => exact rfl); k_whole; intro _ _ _ _ _ _ _ _; (try dsimp only); (try k_fold)))
  k_with "M enter" => (refine' enter0 ?kq_k3 ?kq_k5 ?kq_k6 ?kq_k7 ?kq_k8 ?kq_k9 ?kq_kB ?_ ?kq_c2 ?kq_c3 ?kq_c4 ?kq_c5; (case kq_k3 => assumption); (case kq_k5 => assumption); (case kq_k6 => k_is); (case kq_k7 => k_is); (case kq_k8 => decide); (case kq_k9 => exact BindsTo.of_eq rfl); (case kq_kB => exact locs rfl); (case kq_c2 => rfl); (case kq_c3 => rfl); (case kq_c4 => rfl); (case kq_c5 => decide); intro _ _ _ _; dsimp only; k_fold)
  k_with "M steps" => repeat' (first | (k_unfold; (try dsimp only)) | walk1 | (dsimp only; walk1))
  k_with "M end" => ((try dsimp only); (try k_unfold); (try dsimp only))
  k_with "exec While Compare cons nil" => (k_here; refine whl_start 9 ?_)
  k_with "exec While BoolOp cons nil" => (k_here; refine whl_start 9 ?_)
  k_with "WhlRest" => (refine whl_turn (fun _ _ h => False.elim h) ?_)
  k_with "WhlIf" => first | (refine WhlIf.yes (by first | rfl | assumption | (simp only [decide_eq_true_eq]; omega)) ?_) | (refine WhlIf.no (by first | rfl | assumption | (simp only [decide_eq_false_iff_not]; omega)) ?_)
  k_with "WhlPost" => (unfold WhlPost; dsimp only)
  k_with "ite" => first | (refine PySem.W.ite_pos (by assumption) ?_) | (refine PySem.W.ite_neg (by assumption) ?_) | (refine PySem.W.ite_neg (ne_true_of_eq_false (by assumption)) ?_)
  exact True.intro
theorem kfill_once8 : (fun (_ : OpenLaw) (_ : Params → Frag) => True) PySem.Challenge.rw_ny0070_01 hd.heap_39 := by k_fill; w_on; trivial
variable {prog : Program} {w : World} {mean : ExcName → Option Value} {mg mb : Str → Option Value} {s : Shared}
theorem kw_F8n_1 : True := by
  k_with "exec For Name Name cons nil" => ((with_reducible refine wpAny_For ?_ ?kq_hs); (case kq_hs => k_dflt (intro _; rfl)))
  exact True.intro
theorem upd1 {d a1 a2 a3 : Addr} {o o' o1 o2 o3 : Obj} (h1 : a1 ≠ d) (h2 : a2 ≠ d) (h3 : a3 ≠ d) : Upd d o o' [(a1, o1), (d, o), (a2, o2), (a3, o3)] [(a1, o1), (d, o'), (a2, o2), (a3, o3)] := by
  refine .tail h1 (.head ?_)
  intro p hp
  simp only [List.mem_cons, List.not_mem_nil, or_false] at hp
  rcases hp with rfl | rfl
  · exact h2
  · exact h3
theorem kw_F8n_2 : True := by
  k_with "call builtin:list.append" => (k_here; (try dsimp only [List.nil_append, List.cons_append]); (with_reducible refine' append_K ?kq_F ?kq_N (upd1 ?kq_n1 ?kq_n2 ?kq_n3) ?_ ?kq_z); (case kq_F => k_asm); (case kq_N => k_asm); (case kq_n1 => exact neN (by omega)); (case kq_n2 => exact neN (by omega)); (case kq_n3 => exact neN (by omega)); (case kq_z => exact Nat.le_of_ble_eq_true rfl); intro _ _ _)
  k_with "M off" => (intro p hp; simp only [List.mem_cons, List.not_mem_nil, or_false] at hp; rcases hp with hq | hq | hq <;> (rw [hq]; exact Nat.ne_of_lt (by assumption)))
  k_with "call builtin:str.join" => (k_here; (try dsimp only [List.nil_append, List.cons_append]); (with_reducible show wpAny _ _ (call (Value.builtin _) [Value.str _ _, Value.ref _]) _ _ _); k_dflt (first
  | (refine' join_listC ?kq_l (StrsAre.cons _ _ (StrsAre.cons _ _ StrsAre.nil)) ?kq_x ?kq_ok ?_; (case kq_l => exact News.isList (by k_asm) (by k_mem)); (case kq_x => decide); (case kq_ok => decide))
  | (refine' join_listC ?kq_l (StrsAre.cons _ _ StrsAre.nil) ?kq_x ?kq_ok ?_; (case kq_l => exact News.isList (by k_asm) (by k_mem)); (case kq_x => decide); (case kq_ok => decide))); intro _ _)
  exact True.intro
theorem norm_ab {t : Tok} (X : (hd.heap_39 w.params).In s.heap) (T : Top hd.view_39 (looseW hd.view_39 []) mean mg mb s.heap) :
   codeAny (model prog w) (AA 650 650) (.call (.ref 70) ⟨[.str (Str.ofString "a/b") t], []⟩) (Back s (fun v fr => (∃ t', v = .str (Str.ofString "a/b") t') ∧ fr = [])) s := by
  walk_at "M enter"
  w_strict (walk_at "M steps")
  rename_i F N
  refine' led_start F N (n := 0) ?hl ?_
  case hl => k_mem
  intro I oI h' F' N' hI hlt
  have hoff := fun p hp => Nat.ne_of_lt (hlt p hp)
  have q1 := ltN (hlt _ (.head _))
  have q2 := ltN (hlt _ (.tail _ (.head _)))
  have q3 := ltN (hlt _ (.tail _ (.tail _ (.head _))))
  dsimp only at q1 q2 q3
  refine' led_turn F' N' hI ?hl hoff ?hv ?_
  case hl => k_mem
  case hv => rfl
  clear F N F' N'
  intro h1 oI1 F1 N1 hI1
  w_strict (walk_at "M steps")
  rename_i F2 N2
  dsimp only
  refine' led_turn F2 N2 hI1 ?hl ?ho ?hv ?_
  case hl => k_mem
  case hv => rfl
  case ho => walk_at "M off"
  clear F2 N2
  intro h2 oI2 F2 N2 hI2
  w_strict (walk_at "M steps")
  rename_i F3 N3
  dsimp only
  refine' led_done rfl F3 N3 hI2 ?hl ?ho ?hv ?_
  case hl => k_mem
  case hv => rfl
  case ho => walk_at "M off"
  clear F3 N3
  intro h3 F3 N3
  dsimp only
  w_strict (walk_at "M steps")
  walk_at "M end"
  exact back_of (fresh := []) (by with_reducible assumption) (by with_reducible assumption) (fun _ h => nomatch h) ⟨⟨_, rfl⟩, rfl⟩
theorem norm_1 {p : Str} {t : Tok} (hp : p = Str.ofString "a" ∨ p = Str.ofString "b" ∨ p = Str.ofString "a-") (X : (hd.heap_39 w.params).In s.heap) (T : Top hd.view_39 (looseW hd.view_39 []) mean mg mb s.heap) :
   codeAny (model prog w) (AA 650 650) (.call (.ref 70) ⟨[.str p t], []⟩) (Back s (fun v fr => (∃ t', v = .str p t') ∧ fr = [])) s := by
  rcases hp with rfl | rfl | rfl
  all_goals (
    walk_at "M enter"
    w_strict (walk_at "M steps")
    rename_i F N
    refine' led_start F N (n := 0) ?hl ?_
    case hl => k_mem
    intro I oI h' F' N' hI hlt
    have hoff := fun p hp => Nat.ne_of_lt (hlt p hp)
    have q1 := ltN (hlt _ (.head _))
    have q2 := ltN (hlt _ (.tail _ (.head _)))
    have q3 := ltN (hlt _ (.tail _ (.tail _ (.head _))))
    dsimp only at q1 q2 q3
    refine' led_turn F' N' hI ?hl hoff ?hv ?_
    case hl => k_mem
    case hv => rfl
    clear F N F' N'
    intro h1 oI1 F1 N1 hI1
    w_strict (walk_at "M steps")
    rename_i F3 N3
    dsimp only
    refine' led_done rfl F3 N3 hI1 ?hl ?ho ?hv ?_
    case hl => k_mem
    case hv => rfl
    case ho => walk_at "M off"
    clear F3 N3
    intro h3 F3 N3
    dsimp only
    w_strict (walk_at "M steps")
    walk_at "M end"
    exact back_of (fresh := []) (by with_reducible assumption) (by with_reducible assumption) (fun _ h => nomatch h) ⟨⟨_, rfl⟩, rfl⟩)
end
section
set_option maxRecDepth 100000
set_option maxHeartbeats 1000000
theorem kw_F8p_0 : True := by
  k_with_none
  k_with "call ref" => (k_here; k_dflt (refine wpAny_call ?_; refine' code_def0 ?kq_k2 ?kq_k3 ?kq_k4 ?kq_k5 ?kq_k6 ?kq_k7 ?kq_k8 ?kq_k9 ?kq_kB ?_ ?kq_c2 ?kq_c3 ?kq_c4 ?kq_c5; (case kq_k2 => k_asm); (case kq_k3 => k_asm); (case kq_k4 => k_asm); (case kq_k5 => k_asm); (case kq_k6 => k_is); (case kq_k7 => k_is); (case kq_k8 => k_room); (case kq_k9 => exact BindsTo.of_eq rfl); (case kq_c5 => decide); (case kq_kB => exact locs rfl); (case kq_c2 => exact rfl); (case kq_c3 => exact rfl); (case kq_c4 => exact rfl); k_whole; intro _ _ _ _ _ _ _ _; (try dsimp only); (try k_fold)))
  k_with "M enter" => (refine' enter0 ?kq_k3 ?kq_k5 ?kq_k6 ?kq_k7 ?kq_k8 ?kq_k9 ?kq_kB ?_ ?kq_c2 ?kq_c3 ?kq_c4 ?kq_c5; (case kq_k3 => assumption); (case kq_k5 => assumption); (case kq_k6 => k_is); (case kq_k7 => k_is); (case kq_k8 => decide); (case kq_k9 => exact BindsTo.of_eq rfl); (case kq_kB => exact locs rfl); (case kq_c2 => rfl); (case kq_c3 => rfl); (case kq_c4 => rfl); (case kq_c5 => decide); intro _ _ _ _; dsimp only; k_fold)
  k_with "M steps" => repeat' (first | (k_unfold; (try dsimp only)) | walk1 | (dsimp only; walk1))
  k_with "M end" => ((try dsimp only); (try k_unfold); (try dsimp only))
  k_with "exec While Compare cons nil" => (k_here; refine whl_start 9 ?_)
  k_with "exec While BoolOp cons nil" => (k_here; refine whl_start 9 ?_)
  k_with "WhlRest" => (refine whl_turn (fun _ _ h => False.elim h) ?_)
  k_with "WhlIf" => first | (refine WhlIf.yes (by first | rfl | assumption | (simp only [decide_eq_true_eq]; omega)) ?_) | (refine WhlIf.no (by first | rfl | assumption | (simp only [decide_eq_false_iff_not]; omega)) ?_)
  k_with "WhlPost" => (unfold WhlPost; dsimp only)
  k_with "ite" => first | (refine PySem.W.ite_pos (by assumption) ?_) | (refine PySem.W.ite_neg (by assumption) ?_) | (refine PySem.W.ite_neg (ne_true_of_eq_false (by assumption)) ?_)
  exact True.intro
theorem kfill_once9 : (fun (_ : OpenLaw) (_ : Params → Frag) => True) PySem.Challenge.rw_ny0070_01 hd.heap_39 := by k_fill; w_on; trivial
section
variable {prog : Program} {w : World} {A : Around} {s : Shared} {h₀ : Heap} {L : Addr} {m : Str → Option Value} {news : List (Addr × Obj)} {K : Frag} {p : Program} {loose : List Str} {mean : ExcName → Option Value} {mg mb : Str → Option Value}
    {R : Result → Shared → Prop} {name qual : Str} {params : Arguments} {body : List Stmt} {scope : Scope} {dV kV doc pm cdv ct oc : Value} {an od : Option Addr} {osl : Array (Option Value)} {f : Addr} {args : Args} {binds : List (Str × Value)}
theorem frame0 {E : Value → Shared → Prop} (F : Fr h₀ L s.heap m) (N : News h₀ L s.heap news) (hlim : h₀.NoLimit) (hloc : ∀ y ∈ binds, scope.names.lookup y.1 = some .local)
    (h : ∀ g L' h₁, Fr g L' h₁ (fun y => binds.reverse.lookup y) → News g L' h₁ news → Ext h₀ g →
      wpAny (model prog w) (A.deeper (envOf qual scope L' f cdv)) (execs body (envOf qual scope L' f cdv))
        (fun fl s' => LeaveK h₀ L m g R (match fl with | .ret v => v | _ => .none) s') (fun _ _ => False)
        { s with heap := h₁, toks := s.toks + binds.length })
    (hcell : ∀ x ∈ scope.names, x.2 ≠ .cell) (hk : scope.kind = .function) :
    wpAny (model prog w) A.in1 (newFunctionEnv scope mainGlobals [] binds (qual ++ ".<locals>.") (some f) cdv none builtinsNs) (fun env' s₂ => s₂.heap.NoLimit ∧ codeAny (model prog w) A (.func body env') R s₂) E s := by
  refine wpAny_newFunctionEnv hcell hloc (fun h₁ hns hsb => ⟨(hlim.keeps F.keep).fresh _ hsb, codeAny_func ?_⟩) hk
  have hk₁ : ∀ b o, s.heap.get? b = some o → h₁.get? b = some o := fun b o e => hsb.extBut b o (Nat.ne_of_lt (Heap.lt_size e)) (Heap.get?_push_of_some _ e)
  show wpAny (model prog w) (A.deeper (envOf qual scope s.heap.objs.size f cdv)) (execs body (envOf qual scope s.heap.objs.size f cdv)) _ _ _
  have nm : ∀ b o, h₀.get? b = some o → b ∉ news.map (·.1) := fun b o e q => by
    obtain ⟨p, hp, rfl⟩ := List.mem_map.mp q
    rw [(N p hp).2.2] at e; cases e
  have st : h₀.StaysIn (hideAll s.heap (news.map (·.1))) := fun b o e => hideAll_get _ (F.keep b o e) (nm b o e)
  with_reducible refine hideG fun G kG => ?_
  obtain ⟨oL, es, ep, hL, hLd, hLk, hLf⟩ := F.ns <;> (with_reducible refine kG ?_; clear kG G)
  have nL : L ∉ news.map (·.1) := fun q => by
    obtain ⟨p, hp, e⟩ := List.mem_map.mp q
    exact (N p hp).2.1 e
  have hLg := hideAll_get (news.map (·.1)) hL nL
  refine wpAny_mono (h _ s.heap.objs.size h₁ ⟨hns, fun b o e => hk₁ b o (of_hideAll _ e), Nat.le_of_eq (hideAll_size _ _)⟩
    (fun p hp => ⟨hk₁ _ _ (N p hp).1, Nat.ne_of_lt (Heap.lt_size (N p hp).1), hideAll_none _ (List.mem_map_of_mem hp)⟩) st) (fun fl s' hl => ?_) fun _ _ y => y.elim
  with_reducible refine hideG fun G kG => ?_
  obtain ⟨L', m', news', F', N', k⟩ := hl <;> (with_reducible refine kG ?_; clear kG G)
  refine k ⟨⟨oL, es, ep, F'.keep L oL hLg, hLd, hLk, hLf⟩, fun b o e => F'.keep b o (st b o e), F.above⟩ fun p hp => ⟨(N' p hp).1, fun q => ?_, ?_⟩
  · have := (N' p hp).2.2; rw [q, hLg] at this; cases this
  · cases q : h₀.get? p.1 with
    | none => rfl
    | some o => have := (N' p hp).2.2; rw [st _ _ q] at this; cases this
/-- a def of *rest and **more, called with places alone -/
theorem code_both0 {vs : List Value} {nm nr : Str} {front : List (Str × Value)} {g₁ : Addr → Sem (List (Str × Value))} {g₂ : Addr → Addr → Sem (List (Str × Value))}
    (F : Fr h₀ L s.heap m) (X₀ : K.In h₀) (N : News h₀ L s.heap news) (T : Top p loose mean mg mb h₀)
    (ho : K.lookup f = some ⟨oc, od, .func (fnOf name qual params body scope dV kV doc pm an cdv ct), osl⟩) (hcd : codeIn K cdv qual = true) (hroom : A.depth < recursionLimit)
    (hp : peekA K ⟨prog, w.params⟩ (bindArgs (fnOf name qual params body scope dV kV doc pm an cdv ct) args) = some (({ cls := .type "tuple", data := .seq vs.toArray } : Obj), g₁))
    (hp₂ : ∀ D, peekA K ⟨prog, w.params⟩ (g₁ D) = some (dictOf [] 0, g₂ D))
    (hk₂ : ∀ C D, g₂ C D = pure (front ++ [(nr, Value.ref C)] ++ [(nm, Value.ref D)]))
    (hloc : ∀ C D, ∀ y ∈ front ++ [(nr, Value.ref C)] ++ [(nm, Value.ref D)], scope.names.lookup y.1 = some .local)
    (h : ∀ C D o g L' h₁ tk, (∀ p ∈ news, p.1 < C) → C < D → (D == sysModules) = false → o.IsDictOf (strKind prog w) [] → PyProof.V.FlatPairs PyData.str ([] : List (Str × Value)) [] → Fr g L' h₁ (fun y => (front ++ [(nr, Value.ref C)] ++ [(nm, Value.ref D)]).reverse.lookup y) →
      News g L' h₁ ((D, o) :: (C, ({ cls := .type "tuple", data := .seq vs.toArray } : Obj)) :: news) → K.In g → Top p loose mean mg mb g →
      wpAny (model prog w) (A.deeper (envOf qual scope L' f cdv)) (execs body (envOf qual scope L' f cdv))
        (fun fl s' => LeaveK h₀ L m g R (match fl with | .ret v => v | _ => .none) s') (fun _ _ => False)
        { s with heap := h₁, toks := tk })
    (hco : scope.isCoroutine = false) (hgen : scope.isGenerator = false) (hk : scope.kind = .function)
    (hcell : ∀ x ∈ scope.names, x.2 ≠ .cell) : codeAny (model prog w) A (.call (.ref f) args) R s := by
  refine codeAny_call_function (fd := fnOf name qual params body scope dV kV doc pm an cdv ct) (body := body) hroom ((X₀.keeps F.keep) _ _ ho) rfl hco hgen rfl (codeRec_of (X₀.keeps F.keep) hcd) ?_
  refine wp_of_peekA (o := ({ cls := .type "tuple", data := .seq vs.toArray } : Obj)) F N (X₀.keeps F.keep) rfl _ g₁ hp fun h' F' N' l => ?_
  refine wp_of_peekA (s := { s with heap := h' }) (o := dictOf [] 0) F' N' (X₀.keeps F'.keep) rfl _ (g₂ s.heap.objs.size) (hp₂ _) fun h'' F'' N'' l' => ?_
  rw [hk₂]
  refine wpAny_pure ?_
  exact frame0 (s := { s with heap := h'' }) F'' N'' T.nolimit (hloc _ _)
    (fun g L' h₁ FL NG st => h _ _ _ g L' h₁ _ l (l' _ (.head _)) (F'.notModules (modules_low T.nolimit)) (kp_isDict s.toks 0 (by simp)) .nil FL NG (X₀.keeps st) (T.keeps st)) hcell hk
end
variable {prog : Program} {w : World} {mean : ExcName → Option Value} {mg mb : Str → Option Value} {s : Shared}
noncomputable def dirsL : List Str := [Str.ofString "a", Str.ofString "b", Str.ofString "a-", Str.ofString "a/b"]
theorem norm_spec {p : Str} {t : Tok} (hp : p ∈ dirsL) (X : (hd.heap_39 w.params).In s.heap) (T : Top hd.view_39 (looseW hd.view_39 []) mean mg mb s.heap) :
   codeAny (model prog w) (AA 650 650) (.call (.ref 70) ⟨[.str p t], []⟩) (Back s (fun v fr => (∃ t', v = .str p t') ∧ fr = [])) s := by
  simp only [dirsL, List.mem_cons, List.not_mem_nil, or_false] at hp
  rcases hp with h | h | h | h
  · exact norm_1 (.inl h) X T
  · exact norm_1 (.inr (.inl h)) X T
  · exact norm_1 (.inr (.inr h)) X T
  · subst h; exact norm_ab X T
theorem kw_F8p_1 : True := by
  k_with "call ref" => (k_here; (with_reducible show wpAny _ _ (call (Value.ref 70) _) _ _ _); k_dflt (refine' use_back (norm_spec ?kq_hp ?kq_kx ?kq_kt) ?kq_kf ?kq_kn ?_; (case kq_hp => with_reducible assumption); (case kq_kx => k_in); (case kq_kt => exact Top.keeps (by assumption) (Fr.keep (by k_asm))); (case kq_kf => k_asm); (case kq_kn => k_asm); intro _ _ _ _ _ N' hne' e' hP'; obtain ⟨⟨_, hP1⟩, hP2⟩ := hP'; subst hP1; subst hP2; (simp only [List.nil_append] at N'); clear hne' e'; revert N'; intro _; (try dsimp only); (try k_fold)))
  exact True.intro
theorem normpath_use {Q E : Value → Shared → Prop} {h₀ : Heap} {L : Addr} {m : Str → Option Value} {news : List (Addr × Obj)} {p : Str} {t : Tok} (hp : p ∈ dirsL) (F : Fr h₀ L s.heap m) (N : News h₀ L s.heap news)
   (X : (hd.heap_39 w.params).In h₀) (T : Top hd.view_39 (looseW hd.view_39 []) mean mg mb h₀)
   (k : ∀ t' h' tk', Fr h₀ L h' m → News h₀ L h' news → Q (.str p t') { s with heap := h', toks := tk' }) :
   wpAny (model prog w) (AA 620 620) (call (.ref 77) [.str p t]) Q E s := by
  refine wpAny_call ?_
  refine' code_both0 ?k2 ?k3 ?k4 ?k5 ?k6 ?k7 ?k8 ?kP ?kS ?kT ?kB ?_ ?c2 ?c3 ?c4 ?c5
  case k2 => exact F
  case k3 => exact X
  case k4 => exact N
  case k5 => exact T
  case k6 => k_is
  case k7 => k_is
  case k8 => k_room
  case kP => exact rfl
  case kS => exact fun _ => rfl
  case kT => exact fun _ _ => rfl
  case kB => exact fun _ _ => locs rfl
  case c2 => rfl
  case c3 => rfl
  case c4 => rfl
  case c5 => decide
  intro C' D' o' g' L' h' tk' l1 l2 lo' hs' fs' F' N' X' T'
  clear F N
  (try dsimp only)
  (try k_unmd)
  k_fold
  w_strict (walk_at "M steps")
  rename_i kF kN _ _
  exact k _ _ _ kF (cb_drop kN fun p hp => .tail _ (.tail _ hp))
end
section
set_option maxRecDepth 100000
set_option maxHeartbeats 2000000
noncomputable def oneTab (led : Bool) (j : Nat) (pl : Bool) : SetTable := { mask := 7, place := #[j], dummies := #[], finger := 0, led := led, moves := 0, plain := pl }
theorem lay_fresh (led : Bool) (h : Int) (x : Value) : layNew (.fresh 0 0 led) #[] h x = (#[(h, x)], oneTab led (SetTable.bits h % 8) true, false, false) := by
  rfl
theorem below_0 (j : Nat) : SetTable.below #[j] 0 = 0 := by
  simp [SetTable.below, SetTable.below.go]
theorem below_1 (j : Nat) : SetTable.below #[j] (j + 1) = 1 := by
  simp [SetTable.below, SetTable.below.go]
theorem oneTab_fits (led : Bool) (j : Nat) (pl : Bool) : (oneTab led j pl).fits 1 = true := by
  simp [SetTable.fits, oneTab, SetTable.fill]
/-- the set of one text, as it lies in the heap -/
noncomputable def setOne (led : Bool) (hx : Int) (v : Value) : Obj := { cls := .type "set", dict := none, data := .set #[(hx, v)] 1 (oneTab led (SetTable.bits hx % 8) false) }

section
variable {prog : Program} {w : World} {A : Around} {E : Value → Shared → Prop} {s : Shared}

theorem add1 {a : Addr} {led : Bool} {x : Str} {t : Tok} {Q : Bool → Shared → Prop}
    (ho : s.heap.get? a = some { cls := .type "set", dict := none, data := .set #[] 0 (.fresh 0 0 led) })
    (h : Q true { s with heap := s.heap.update a (Obj.putSet #[(hashStr w x, .str x t)] (oneTab led (SetTable.bits (hashStr w x) % 8) false)) }) :
    wpAny (model prog w) A (setAddHashed a (.str x t) (hashStr w x)) Q E s := by
  have hel : ElemsOf (PySem.strKind prog w) ((#[] : Array (Int × Value)).toList) := fun e he => by simp at he
  have hkey : (PySem.strKind prog w).is x (.str x t) = true := by simp [PySem.strKind, Value.isStrOf]
  unfold setAddHashed setAddHashedIn
  refine wpAny_holding (wpAny_bind (wpAny_setState_of ho rfl rfl ?_))
  dsimp only
  rw [byScan_of (knd := PySem.strKind prog w) rfl (by decide) hel]
  simp only [↓reduceIte]
  unfold setAddByScan
  refine wpAny_bind ?_
  refine wpAny_bind (wpAny_rule ?_)
  refine wpAny_bind (wpAny_setScan_of (knd := PySem.strKind prog w) hkey ho rfl rfl hel ?_)
  simp only [List.findIdx?_nil]
  rw [lay_fresh]
  dsimp only
  refine wpAny_bind (wpAny_pure ?_)
  rw [if_pos (by rfl)]
  refine wpAny_bind ?_
  rw [hashByValue_scannable 8 rfl]
  refine wpAny_pure ?_
  have e1 : (if plainKind (Value.str x t) = true then oneTab led (SetTable.bits (hashStr w x) % 8) true else { (oneTab led (SetTable.bits (hashStr w x) % 8) true) with plain := false }) = oneTab led (SetTable.bits (hashStr w x) % 8) false := rfl
  rw [e1]
  refine wpAny_bind (wpAny_storeSet_of ho rfl ?_ (fits_of_scanBound (by show 1 < scanBound; decide)))
  have e : (!false && (oneTab led (SetTable.bits (hashStr w x) % 8) false).tooFull) = false := by cases led <;> rfl
  rw [e]
  exact wpAny_pure (wpAny_pure h)

theorem new_set_led (a : Value) {Q₁ : Value → Shared → Prop}
    (h : Q₁ (.ref s.heap.objs.size) { s with heap := s.heap.push { cls := .type "set", dict := none, data := .set #[] 0 (.fresh 0 0 (!w.params.followText "set-order")) } }) :
    codeAny (model prog w) A (.call (.builtin "set.__new__") ⟨[.type "set", a], []⟩) (wants Q₁ E) s := by
  refine codeAny_of_tree ?_
  show wpAny _ A.in1 (do checkBuiltinCall "set.__new__" ⟨[.type "set", a], []⟩; again (.builtin "set.__new__" ⟨[.type "set", a], []⟩)) _ _ s
  refine wpAny_bind (wpAny_of_eq (PySem.F.newCall_set_1 a) (wpAny_pure ⟨plainId_quiet PySem.F.plain_set_new _, codeAny_builtin PySem.F.entry_set_new ?_⟩))
  rw [Around.under_plainId PySem.F.plain_set_new _]
  unfold Builtin.«set.__new__» Builtin.Frozenset.newClass
  have hsub := sub_set_self
  obtain ⟨hp, g, d, tk, os⟩ := s
  dsimp only
  wp_walk
  refine wpAny_askSetting (wpAny_pure ?_)
  dsimp only
  simp only [newObj]
  refine wpAny_bind (wpAny_alloc (wpAny_pure ?_))
  exact wpAny_pure h

theorem upd_loop1 {I S l : Addr} {led : Bool} {x : Str} {t : Tok} {R : Result → Shared → Prop} (hh : A.handled = none)
    (hI : s.heap.get? I = some { cls := .type "list_iterator", data := .fields #[.ref l, .int 0 0] }) (hl : s.heap.IsList l #[.str x t])
    (hneI : l ≠ I) (hSI : S ≠ I) (hSl : S ≠ l)
    (hS : s.heap.get? S = some { cls := .type "set", dict := none, data := .set #[] 0 (.fresh 0 0 led) })
    (hR : ∀ h' (tk : Nat), h'.get? S = some (setOne led (hashStr w x) (.str x t)) → (∀ b o, b ≠ S → b ≠ I → s.heap.get? b = some o → h'.get? b = some o) → R (.ok (.ret .none)) { s with heap := h', toks := tk }) :
    codeAny (model prog w) A (.builtin "set.update.loop" ⟨[.ref S, .ref I], []⟩) R s := by
  have W := (Walks.list (prog := prog) (w := w) (A := A.in1) (by simp [hh]) I l hneI #[.str x t])
  refine codeAny_builtin PyProof.Rows.F.entry_set_update_loop ?_
  rw [Around.under_plainId PyProof.Rows.F.plain_set_update_loop _]
  show wpAny _ A.in1 (pyNext (.ref I) >>= _) _ _ s
  refine wpAny_bind (W.item 0 s _ _ (by show 0 < 1; omega) ⟨⟨_, hI, rfl, rfl⟩, hl⟩ fun v h' tk hP hst' hm => ?_)
  have hv : v = .str x t := by simpa using hP.symm
  subst hv
  have hS' := hm S _ (by simp [hSI]) hS
  show wpAny _ A.in1 (holding [Value.str x t] (setAdd S (.str x t)) >>= _) _ _ _
  refine wpAny_bind (wpAny_holding ?_)
  unfold setAdd
  refine wpAny_holding ?_
  refine wpAny_bind ((PySem.strKind prog w).pyHash (k := x) (by simp [PySem.strKind, Value.isStrOf]) ?_)
  refine add1 (led := led) hS' ?_
  refine wpAny_pure ⟨plainId_quiet PyProof.Rows.F.plain_set_update_loop _, ?_⟩
  have hsb := Heap.SameBut.update h' S (Obj.putSet #[(hashStr w x, .str x t)] (oneTab led (SetTable.bits (hashStr w x) % 8) false))
  have hg : (h'.update S (Obj.putSet #[(hashStr w x, .str x t)] (oneTab led (SetTable.bits (hashStr w x) % 8) false))).get? S = some (setOne led (hashStr w x) (.str x t)) := by
    have := Heap.get?_update_self (Obj.putSet #[(hashStr w x, .str x t)] (oneTab led (SetTable.bits (hashStr w x) % 8) false)) hS' rfl
    exact this
  have hst2 := W.frame _ _ (h'.update S (Obj.putSet #[(hashStr w x, .str x t)] (oneTab led (SetTable.bits (hashStr w x) % 8) false))) hst' (fun b hb o e => by
    rw [hsb.2 b (fun h : b = S => by subst h; simp at hb; exact hb.elim hSI hSl)]; exact e)
  refine codeAny_builtin PyProof.Rows.F.entry_set_update_loop ?_
  rw [Around.under_plainId PyProof.Rows.F.plain_set_update_loop _]
  show wpAny _ A.in1 (pyNext (.ref I) >>= _) _ _ _
  refine wpAny_bind (W.done _ _ _ hst2 fun h2 tk2 hm2 => ?_)
  show wpAny _ A.in1 (ret Value.none) _ _ _
  refine wpAny_pure (hR h2 tk2 (hm2 S _ (by simp [hSI]) hg) fun b o hbS hbI e => ?_)
  refine hm2 b o (by simp [hbI]) ?_
  show (h'.update S _).get? b = some o
  rw [hsb.2 b hbS]
  exact hm b o (by simp [hbI]) e

set_option maxHeartbeats 3200000 in
theorem call_set1 {l : Addr} {x : Str} {t : Tok} {Q : Value → Shared → Prop}
    (hh : A.handled = none) (hl : s.heap.IsList l #[.str x t])
    (h : ∀ (h' : Heap) (tk : Nat), h'.get? s.heap.objs.size = some (setOne (!w.params.followText "set-order") (hashStr w x) (.str x t)) →
      (∀ b o, b < s.heap.objs.size → s.heap.get? b = some o → h'.get? b = some o) → Q (.ref s.heap.objs.size) { s with heap := h', toks := tk }) :
    wpAny (model prog w) A (call (.type "set") [.ref l]) Q E s := by
  obtain ⟨c, tl, hmro⟩ := PySem.F.called_set.mro
  have hmade := PySem.F.called_set.made
  have hsub := PySem.F.called_set.sub
  refine wpAny_call (codeAny_of_tree ?_)
  show wpAny _ _ (callAny (.type "set") _) _ _ _
  refine wpAny_pure ⟨Code.quiet_builtin _ (by decide +kernel), codeAny_builtin PySem.F.entry_type_call ?_⟩
  rw [Around.under_plain (weight_type_call_type "set" [.ref l] []) rfl]
  have h1 := PySem.F.called_set.notType
  have h2 := PySem.F.called_set.canCreate
  have hct := PySem.F.typeCall_set_1 (.ref l)
  repeat (any_goals (first | assumption | wp_step))
  generalize hled : (!w.params.followText "set-order") = led at h
  refine codeAny_mono (new_set_led (.ref l) (E := E) (Q₁ := fun obj s₁ => obj = .ref s.heap.objs.size ∧ s₁ = { s with heap := s.heap.push { cls := .type "set", dict := none, data := .set #[] 0 (.fresh 0 0 led) } }) (by rw [hled]; exact ⟨rfl, rfl⟩)) fun r s₁ hr => ?_
  cases r with
  | error e => exact hr
  | ok fl =>
    cases fl with
    | ret obj =>
      obtain ⟨rfl, rfl⟩ := hr
      have hS : (s.heap.push { cls := .type "set", dict := none, data := .set #[] 0 (.fresh 0 0 led) }).get? s.heap.objs.size = some { cls := .type "set", dict := none, data := .set #[] 0 (.fresh 0 0 led) } := Heap.get?_push_size _ rfl
      have hT : Shared.TypeIs { s with heap := s.heap.push { cls := .type "set", dict := none, data := .set #[] 0 (.fresh 0 0 led) } } (.ref s.heap.objs.size) "set" := ⟨_, hS, rfl⟩
      have hli := PySem.F.called_set.init.lookup
      have hbi := PySem.F.called_set.init.bind (.ref s.heap.objs.size)
      repeat (any_goals (first | assumption | wp_step))
      refine codeAny_mono (codeAny_call_builtin (R := wants (fun r s₂ => r = .none ∧ ∃ h' tk, s₂ = { s with heap := h', toks := tk } ∧
          h'.get? s.heap.objs.size = some (setOne led (hashStr w x) (.str x t)) ∧
          (∀ b o, b < s.heap.objs.size → s.heap.get? b = some o → h'.get? b = some o)) E) PySem.F.called_set.init.plain PySem.F.entry_set_init (check_set_init_1 hT ?_)) fun r₂ s₂ hr₂ => ?_
      · obtain ⟨ol, hol, hcl, nl, hdl⟩ := hl
        obtain ⟨ocls, odict, odata, oslots⟩ := ol
        simp only at hcl hdl
        subst hcl; subst hdl
        have hol' : (s.heap.push { cls := .type "set", dict := none, data := .set #[] 0 (.fresh 0 0 led) }).get? l = some { cls := .type "list", dict := odict, data := .seq #[.str x t] nl, slots := oslots } := Heap.get?_push_of_some _ hol
        have hsls := PySem.F.sub_list_set
        have hslf := PySem.F.sub_list_frozenset
        have hne : (Value.type "list" == Value.type "dict") = false := by decide
        have hl1 : (s.heap.push { cls := .type "set", dict := none, data := .set #[] 0 (.fresh 0 0 led) }).IsList l #[.str x t] := ⟨_, hol', rfl, nl, rfl⟩
        unfold Builtin.«set.__init__» noKeywords Builtin.Frozenset.updateFrom
        generalize hPI : pyIter = PI
        wp_walk
        subst hPI
        refine wpAny_pyIter_list hl1 ?_
        refine wpAny_bind (wpAny_runValue ?_)
        have hlS : l < s.heap.objs.size := Heap.lt_size hol
        have hh3 : A.in1.in1.in1.handled = none := by simp [hh]
        have hneI : l ≠ (s.heap.push { cls := .type "set", dict := none, data := .set #[] 0 (.fresh 0 0 led) }).objs.size := by
          rw [Heap.size_push]; exact Nat.ne_of_lt (Nat.lt_succ_of_lt hlS)
        refine upd_loop1 (l := l) (led := led) (x := x) (t := t) (by simp [hh]) (Heap.get?_push_size _ rfl) (hl1.push _) hneI (by rw [Heap.size_push]; exact Nat.ne_of_lt (Nat.lt_succ_self _)) (Nat.ne_of_gt hlS) (Heap.get?_push_of_some _ hS) fun h' tk hg hk => ?_
        refine wpAny_pure ?_
        show wpAny _ _ (ret Value.none) _ _ _
        refine wpAny_pure ⟨rfl, h', tk, rfl, hg, fun b o hb e => ?_⟩
        have hb1 : b ≠ s.heap.objs.size := Nat.ne_of_lt hb
        have hb2 : b ≠ (s.heap.push { cls := .type "set", dict := none, data := .set #[] 0 (.fresh 0 0 led) }).objs.size := by
          rw [Heap.size_push]; exact Nat.ne_of_lt (Nat.lt_succ_of_lt hb)
        exact hk b o hb1 hb2 (Heap.get?_push_of_some _ (Heap.get?_push_of_some _ e))
      · cases r₂ with
        | error e => exact hr₂
        | ok fl₂ =>
          cases fl₂ with
          | ret r =>
            with_reducible refine hideG fun G kG => ?_
            obtain ⟨rfl, h', tk, rfl, hS', hk'⟩ := hr₂ <;> (with_reducible refine kG ?_; clear kG G)
            repeat (any_goals (first | assumption | wp_step))
            exact h _ _ hS' hk'
          | _ => exact hr₂.elim
    | _ => exact hr.elim
end
end
section
set_option maxRecDepth 100000
set_option maxHeartbeats 1000000
theorem kw_F8i_0 : True := by
  k_with_none
  k_with "call ref" => (k_here; k_dflt (refine wpAny_call ?_; refine' code_def0 ?kq_k2 ?kq_k3 ?kq_k4 ?kq_k5 ?kq_k6 ?kq_k7 ?kq_k8 ?kq_k9 ?kq_kB ?_ ?kq_c2 ?kq_c3 ?kq_c4 ?kq_c5; (case kq_k2 => k_asm); (case kq_k3 => k_asm); (case kq_k4 => k_asm); (case kq_k5 => k_asm); (case kq_k6 => k_is); (case kq_k7 => k_is); (case kq_k8 => k_room); (case kq_k9 => exact BindsTo.of_eq rfl); (case kq_c5 => decide); (case kq_kB => exact locs rfl); (case kq_c2 => exact rfl); (case kq_c3 => exact rfl); (case kq_c4 => exact rfl); k_whole; intro _ _ _ _ _ _ _ _; (try dsimp only); (try k_fold)))
  k_with "M enter" => (refine' enter0 ?kq_k3 ?kq_k5 ?kq_k6 ?kq_k7 ?kq_k8 ?kq_k9 ?kq_kB ?_ ?kq_c2 ?kq_c3 ?kq_c4 ?kq_c5; (case kq_k3 => assumption); (case kq_k5 => assumption); (case kq_k6 => k_is); (case kq_k7 => k_is); (case kq_k8 => decide); (case kq_k9 => exact BindsTo.of_eq rfl); (case kq_kB => exact locs rfl); (case kq_c2 => rfl); (case kq_c3 => rfl); (case kq_c4 => rfl); (case kq_c5 => decide); intro _ _ _ _; dsimp only; k_fold)
  k_with "M steps" => repeat' (first | (k_unfold; (try dsimp only)) | walk1 | (dsimp only; walk1))
  k_with "M end" => ((try dsimp only); (try k_unfold); (try dsimp only))
  k_with "exec While Compare cons nil" => (k_here; refine whl_start 9 ?_)
  k_with "exec While BoolOp cons nil" => (k_here; refine whl_start 9 ?_)
  k_with "WhlRest" => (refine whl_turn (fun _ _ h => False.elim h) ?_)
  k_with "WhlIf" => first | (refine WhlIf.yes (by first | rfl | assumption | (simp only [decide_eq_true_eq]; omega)) ?_) | (refine WhlIf.no (by first | rfl | assumption | (simp only [decide_eq_false_iff_not]; omega)) ?_)
  k_with "WhlPost" => (unfold WhlPost; dsimp only)
  k_with "ite" => first | (refine PySem.W.ite_pos (by assumption) ?_) | (refine PySem.W.ite_neg (by assumption) ?_) | (refine PySem.W.ite_neg (ne_true_of_eq_false (by assumption)) ?_)
  exact True.intro
theorem kfill_once10 : (fun (_ : OpenLaw) (_ : Params → Frag) => True) PySem.Challenge.rw_ny0070_01 hd.heap_39 := by k_fill; w_on; trivial
section
variable {prog : Program} {w : World} {A : Around} {s : Shared} {K : Frag} {p : Program} {loose : List Str} {mean : ExcName → Option Value} {mg mb : Str → Option Value}
    {R : Result → Shared → Prop} {name qual : Str} {params : Arguments} {body : List Stmt} {scope : Scope} {dV kV doc pm cdv ct oc : Value} {an od : Option Addr} {osl : Array (Option Value)} {f : Addr} {args : Args} {binds : List (Str × Value)}
/-- a def entered where some objects may change -/
theorem enterM {g : Heap} {mt : List (Addr × Obj)} (X : K.In g) (T : Top p loose mean mg mb g) (hg : Ext g s.heap) (hgs : g.objs.size ≤ s.heap.objs.size) (hm : ∀ p ∈ mt, s.heap.get? p.1 = some p.2 ∧ g.get? p.1 = none)
    (ho : K.lookup f = some ⟨oc, od, .func (fnOf name qual params body scope dV kV doc pm an cdv ct), osl⟩) (hcd : codeIn K cdv qual = true) (hroom : A.depth < recursionLimit)
    (hbind : BindsTo s (fnOf name qual params body scope dV kV doc pm an cdv ct) args binds) (hloc : ∀ y ∈ binds, scope.names.lookup y.1 = some .local)
    (h : ∀ L' h₁, Fr g L' h₁ (fun y => binds.reverse.lookup y) → News g L' h₁ mt →
      wpAny (model prog w) (A.deeper (envOf qual scope L' f cdv)) (execs body (envOf qual scope L' f cdv))
        (fun fl s' => R (.ok (.ret (match fl with | .ret v => v | _ => .none))) s')
        (fun _ _ => False)
        { s with heap := h₁, toks := s.toks + binds.length })
    (hco : scope.isCoroutine = false) (hgen : scope.isGenerator = false) (hk : scope.kind = .function)
    (hcell : ∀ x ∈ scope.names, x.2 ≠ .cell) : codeAny (model prog w) A (.call (.ref f) args) R s := by
  refine codeAny_call_def (fd := fnOf name qual params body scope dV kV doc pm an cdv ct) (body := body) (binds := binds) hroom (hg _ _ (X _ _ ho)) rfl (T.nolimit.keeps hg) (codeRec_of (X.keeps hg) hcd) rfl hbind hcell hloc (fun h₁ hns hk₁ => ?_) hco hgen hk
  exact wpAny_mono (h s.heap.objs.size h₁ ⟨hns, fun b o e => hk₁ b o (hg b o e), hgs⟩ fun p hp => ⟨hk₁ _ _ (hm p hp).1, Nat.ne_of_lt (Heap.lt_size (hm p hp).1), (hm p hp).2⟩) (fun fl s' hl => hl) fun _ _ y => y.elim
end
section
variable {prog : Program} {w : World} {A : Around} {E : Value → Shared → Prop} {s : Shared} {h₀ : Heap} {L : Addr} {m : Str → Option Value} {news : List (Addr × Obj)} {l : Addr}
theorem set1_N {x : Str} {t : Tok} {Q : Value → Shared → Prop} (F : Fr h₀ L s.heap m) (N : News h₀ L s.heap news) (hh : A.handled = none) (hl : s.heap.IsList l #[.str x t])
    (h : ∀ D h' (tk : Nat), Fr h₀ L h' m → News h₀ L h' ((D, setOne (!w.params.followText "set-order") (hashStr w x) (.str x t)) :: news) → (∀ p ∈ news, p.1 < D) → Q (.ref D) { s with heap := h', toks := tk }) :
    wpAny (model prog w) A (call (.type "set") [.ref l]) Q E s := by
  refine call_set1 hh hl fun h' tk ho hk => ?_
  with_reducible refine hideG fun G kG => ?_
  obtain ⟨oL, _, _, hL, _⟩ := F.ns <;> (with_reducible refine kG ?_; clear kG G)
  have hLlt : L < s.heap.objs.size := Heap.lt_size hL
  refine h _ h' tk ⟨F.ns.at' fun o' e => hk L o' hLlt e, fun b o' e => hk b o' (Heap.lt_size (F.keep b o' e)) (F.keep b o' e), F.above⟩ (fun p hp => ?_) (fun p hp => Heap.lt_size (N p hp).1)
  rcases List.mem_cons.mp hp with rfl | hp
  · refine ⟨ho, Nat.ne_of_gt hLlt, ?_⟩
    cases hq : h₀.get? s.heap.objs.size with
    | none => rfl
    | some o' => exact absurd (Heap.lt_size (F.keep _ _ hq)) (Nat.lt_irrefl _)
  · exact ⟨hk _ _ (Heap.lt_size (N p hp).1) (N p hp).1, (N p hp).2.1, (N p hp).2.2⟩
theorem truthy_nil {Q : Bool → Shared → Prop} (hl : s.heap.IsList l #[]) (h : Q false { s with toks := s.toks + 1 + 1 }) : wpAny (model prog w) A (truthy (.ref l)) Q E s := wpAny_truthy_list hl (by decide) h
theorem truthy_some {Q : Bool → Shared → Prop} {v : Value} {vs : List Value} (hl : s.heap.IsList l (v :: vs).toArray) (hz : vs.length ≤ 100) (h : Q true { s with toks := s.toks + 1 + 1 }) : wpAny (model prog w) A (truthy (.ref l)) Q E s :=
  wpAny_truthy_list hl (by rw [List.size_toArray, List.length_cons]; omega) (by simpa using h)
end
variable {prog : Program} {w : World} {mean : ExcName → Option Value} {mg mb : Str → Option Value} {s : Shared}
theorem kw_F8i_1 : True := by
  k_with "M enterM" => (refine' enterM ?kq_k3 ?kq_k5 ?kq_g1 ?kq_g2 ?kq_g3 ?kq_k6 ?kq_k7 ?kq_k8 ?kq_k9 ?kq_kB ?_ ?kq_c2 ?kq_c3 ?kq_c4 ?kq_c5; (case kq_k3 => assumption); (case kq_k5 => assumption); (case kq_g1 => with_reducible assumption); (case kq_g2 => with_reducible assumption); (case kq_g3 => with_reducible assumption); (case kq_k6 => k_is); (case kq_k7 => k_is); (case kq_k8 => decide); (case kq_k9 => exact BindsTo.of_eq rfl); (case kq_kB => exact locs rfl); (case kq_c2 => rfl); (case kq_c3 => rfl); (case kq_c4 => rfl); (case kq_c5 => decide); intro _ _ _ _; dsimp only; k_fold)
  k_with "truthy ref" => (k_here; k_dflt (first | (refine truthy_nil (base_list (by k_asm) (by with_reducible assumption)) ?_) | (refine truthy_some (base_list (by k_asm) (by with_reducible assumption)) (by first | with_reducible assumption | decide) ?_)))
  k_with "eval ListComp" => (k_dflt ((with_reducible refine' comp_open ?_ ?kq_hclos ?kq_hs ?kq_hkind ?kq_hnames); (case kq_hclos => rfl); (case kq_hs => intro _; rfl); (case kq_hkind => rfl); (case kq_hnames => decide)))
  k_with "eval Name" => (k_here; k_dflt (first
  | (refine' nameC_L ?kq_F ?kq_v ?_ ?kq_a ?kq_b ?kq_d; (case kq_F => k_asm); (case kq_a => rfl); (case kq_b => rfl); (case kq_d => decide); (case kq_v => rfl); k_whole)
  | (refine' nameC_C ?kq_F ?kq_c ?kq_o ?kq_d ?_ ?kq_a ?kq_b ?kq_e; (case kq_F => k_asm); (case kq_a => rfl); (case kq_b => rfl); (case kq_e => decide); (case kq_c => rfl); (case kq_o => with_reducible assumption); (case kq_d => with_reducible assumption); k_whole)
  | (refine' nameG_K ?kq_F ?kq_X ?kq_T ?kq_e ?_ ?kq_g ?kq_a ?kq_b ?kq_d; (case kq_g => rfl); (case kq_a => rfl); (case kq_b => rfl); (case kq_d => decide); (case kq_F => k_asm); (case kq_X => k_asm); (case kq_T => k_asm); (case kq_e => k_is); k_whole)
  | (refine' nameC_B ?kq_F ?kq_X ?kq_T ?kq_e ?kq_v ?kq_n ?_ ?kq_g ?kq_bb ?kq_a ?kq_b ?kq_d; (case kq_g => rfl); (case kq_bb => rfl); (case kq_a => rfl); (case kq_b => rfl); (case kq_d => decide); (case kq_F => k_asm); (case kq_X => k_asm); (case kq_T => k_asm); (case kq_e => k_is); (case kq_v => boot_fast); (case kq_n => decide); k_whole)))
  k_with "call ref" => (k_here; (with_reducible show wpAny _ _ (call (Value.ref 77) _) _ _ _); k_dflt (refine wpAny_weak (normpath_use (by with_reducible assumption) (by k_asm) (by k_asm) (by k_in) (by with_reducible assumption) ?_)); intro _ _ _ _ _)
  k_with "call type:set" => (k_here; k_dflt (refine set1_N (by k_asm) (by k_asm) rfl (base_list (by k_asm) (by with_reducible assumption)) ?_); intro _ _ _ _ _ l1; (try k_lt l1); (try (revert l1; intro _)))
  exact True.intro
/-- the two kinds of module sets -/
noncomputable def SetP (w : World) (so : Obj) : List Str → Prop
  | [] => ∃ led, so = { cls := .type "set", dict := none, data := .set #[] 0 (.fresh 0 0 led) }
  | [x] => ∃ t, so = setOne (!w.params.followText "set-order") (hashStr w x) (.str x t)
  | _ => False
noncomputable def attrs (w : World) (sm D di : Addr) (t1 t2 t3 : Tok) : List DictEntry :=
  [{ hash := PyData.keyHash w.params (Str.ofString "_mods"), key := .str (Str.ofString "_mods") t1, val := .ref sm },
   { hash := PyData.keyHash w.params (Str.ofString "_dirs"), key := .str (Str.ofString "_dirs") t2, val := .ref D },
   { hash := PyData.keyHash w.params (Str.ofString "_ignore"), key := .str (Str.ofString "_ignore") t3, val := .ref di }]
/-- what a reader is made of -/
noncomputable def ReaderP (prog : Program) (w : World) (MS ps : List Str) (x dx : Addr) (fr : List (Addr × Obj)) : Prop :=
  ∃ di D sm so od ys k n t t1 t2 t3, fr = [(di, od), (D, listOf ys.toArray k), (sm, so), (x, instObj 100 dx), (dx, dictOf (attrs w sm D di t1 t2 t3) n)] ∧ SetP w so MS ∧ StrsAre ys ps ∧ (di == sysModules) = false ∧
    od.IsDictOf (PySem.strKind prog w) [(Str.ofString "<string>", .int 1 t)] ∧ @Ne Nat di D ∧ @Ne Nat di sm ∧ @Ne Nat di x ∧ @Ne Nat di dx
theorem init0 {g : Heap} {ml dl x dx : Addr} {v₀ : Value} {us : List Value} {ps : List Str} {R : Result → Shared → Prop} (X : (hd.heap_39 w.params).In g) (T : Top hd.view_39 (looseW hd.view_39 []) mean mg mb g)
   (hg : Ext g s.heap) (hgs : g.objs.size ≤ s.heap.objs.size) (hm : ∀ p ∈ [(x, instObj 100 dx), (dx, dictOf [] 0)], s.heap.get? p.1 = some p.2 ∧ g.get? p.1 = none) (hlt : @LT.lt Nat _ dx x)
   {k₁ k₂ : Nat} (hM : g.get? ml = some (listOf #[] k₁)) (hD : g.get? dl = some (listOf (v₀ :: us).toArray k₂)) (hu : us.length ≤ 100) (hps : StrsAre (v₀ :: us) ps) (hin : ∀ p ∈ ps, p ∈ dirsL)
   (hR : ∀ h' tk L m fr, Fr g L h' m → News g L h' fr → ReaderP prog w [] ps x dx fr → R (.ok (.ret .none)) { s with heap := h', toks := tk })
   : codeAny (model prog w) (AA 610 610) (.call (.ref 90) ⟨[.ref x, .ref ml, .ref dl], []⟩) R s := by
  refine' enterM ?k3 ?k5 ?g1 ?g2 ?g3 ?k6 ?k7 ?k8 ?k9 ?kB ?_ ?c2 ?c3 ?c4 ?c5; (case k3 => assumption); (case k5 => assumption); (case g1 => with_reducible assumption); (case g2 => with_reducible assumption); (case g3 => with_reducible assumption); (case k6 => k_is); (case k7 => k_is); (case k8 => decide); (case k9 => exact binds_K (K := hd.heap_39 w.params) (X.keeps hg) rfl (by k_is) rfl rfl rfl); (case kB => exact locs rfl); (case c2 => rfl); (case c3 => rfl); (case c4 => rfl); (case c5 => decide); intro L' h' F' N'; clear hm; dsimp only; k_fold
  w_strict (walk_at "M steps")
  rename_i sm h₁ led hs hz l1 h₂ F N
  have X' := X.keeps F.keep
  have T' := T.keeps F.keep
  have hl := hps.len_eq
  refine comp_pure F N ⟨_, F.keep _ _ hD, rfl, _, rfl⟩ (by simp; omega) (fun i ys mt => mt = [] ∧ StrsAre ys (ps.take i) ∧ ys.length ≤ i) ⟨rfl, .nil, Nat.le_refl _⟩ (fun _ _ _ h => h.2.2) ?turn ?fin rfl (by decide) rfl
  case turn =>
    clear F N X T hR
    rintro C D I oI k i v ys mC mt h tk hv ⟨rfl, hJ, hJl⟩ F N hoff hDI
    obtain ⟨q, t, rfl, hq⟩ := hps.item i v hv
    have hqd := hin q (List.mem_of_getElem? hq)
    refine wpAny_assign_Name (storeC F N ?_ rfl rfl)
    clear F N
    intro h' F N
    refine tests_nil ?_
    rw [if_pos rfl]
    w_strict (walk_at "M steps")
    refine ⟨_, _, _, [], rfl, by with_reducible assumption, by with_reducible assumption, (fun _ h => nomatch h), rfl, ?_, by simp; omega⟩
    have htk : ps.take (i + 1) = ps.take i ++ [q] := by rw [List.take_add_one, hq]; rfl
    rw [htk]
    exact StrsAre.append hJ (.cons _ _ .nil)
  case fin =>
    rintro D k ys mt h tk ⟨rfl, hJ, hJl⟩ F' N' hext hD hmt
    have n1 : @Ne Nat D dx := fun e => by rw [e] at hD; exact absurd (hD.symm.trans (N _ (.tail _ (.tail _ (.head _)))).1) (by simp)
    have n2 : @Ne Nat D x := fun e => by rw [e] at hD; exact absurd (hD.symm.trans (N _ (.tail _ (.head _))).1) (by simp)
    have n3 : @Ne Nat D sm := fun e => by rw [e] at hD; exact absurd (hD.symm.trans (N _ (.head _)).1) (by simp)
    clear hext hD hmt
    clear F N
    simp only [List.nil_append] at N'
    w_strict (walk_at "M steps")
    walk_at "M end"
    rename_i h3 h4 od hlo hid hif hap hl1 h5 F N
    rw [hl, List.take_length] at hJ
    refine hR _ _ _ _ _ F N ⟨_, D, sm, _, od, ys, k, _, _, _, _, _, rfl, ⟨led, rfl⟩, hJ, hlo, hid, neN (by omega), neN (by omega), neN (by omega), neN (by omega)⟩
theorem init1 {g : Heap} {ml dl x dx : Addr} {v₀ : Value} {us : List Value} {ps : List Str} {R : Result → Shared → Prop} (X : (hd.heap_39 w.params).In g) (T : Top hd.view_39 (looseW hd.view_39 []) mean mg mb g)
   (hg : Ext g s.heap) (hgs : g.objs.size ≤ s.heap.objs.size) (hm : ∀ p ∈ [(x, instObj 100 dx), (dx, dictOf [] 0)], s.heap.get? p.1 = some p.2 ∧ g.get? p.1 = none) (hlt : @LT.lt Nat _ dx x)
   {x₁ : Str} {t₁ : Tok} {k₁ k₂ : Nat} (hM : g.get? ml = some (listOf [.str x₁ t₁].toArray k₁)) (hD : g.get? dl = some (listOf (v₀ :: us).toArray k₂)) (hu : us.length ≤ 100) (hps : StrsAre (v₀ :: us) ps) (hin : ∀ p ∈ ps, p ∈ dirsL)
   (hR : ∀ h' tk L m fr, Fr g L h' m → News g L h' fr → ReaderP prog w [x₁] ps x dx fr → R (.ok (.ret .none)) { s with heap := h', toks := tk })
   : codeAny (model prog w) (AA 610 610) (.call (.ref 90) ⟨[.ref x, .ref ml, .ref dl], []⟩) R s := by
  refine' enterM ?k3 ?k5 ?g1 ?g2 ?g3 ?k6 ?k7 ?k8 ?k9 ?kB ?_ ?c2 ?c3 ?c4 ?c5; (case k3 => assumption); (case k5 => assumption); (case g1 => with_reducible assumption); (case g2 => with_reducible assumption); (case g3 => with_reducible assumption); (case k6 => k_is); (case k7 => k_is); (case k8 => decide); (case k9 => exact binds_K (K := hd.heap_39 w.params) (X.keeps hg) rfl (by k_is) rfl rfl rfl); (case kB => exact locs rfl); (case c2 => rfl); (case c3 => rfl); (case c4 => rfl); (case c5 => decide); intro L' h' F' N'; clear hm; dsimp only; k_fold
  w_strict (walk_at "M steps")
  rename_i sm h₁ tk₁ l1 h₂ F N
  have X' := X.keeps F.keep
  have T' := T.keeps F.keep
  have hl := hps.len_eq
  refine comp_pure F N ⟨_, F.keep _ _ hD, rfl, _, rfl⟩ (by simp; omega) (fun i ys mt => mt = [] ∧ StrsAre ys (ps.take i) ∧ ys.length ≤ i) ⟨rfl, .nil, Nat.le_refl _⟩ (fun _ _ _ h => h.2.2) ?turn ?fin rfl (by decide) rfl
  case turn =>
    clear F N X T hR
    rintro C D I oI k i v ys mC mt h tk hv ⟨rfl, hJ, hJl⟩ F N hoff hDI
    obtain ⟨q, t, rfl, hq⟩ := hps.item i v hv
    have hqd := hin q (List.mem_of_getElem? hq)
    refine wpAny_assign_Name (storeC F N ?_ rfl rfl)
    clear F N
    intro h' F N
    refine tests_nil ?_
    rw [if_pos rfl]
    w_strict (walk_at "M steps")
    refine ⟨_, _, _, [], rfl, by with_reducible assumption, by with_reducible assumption, (fun _ h => nomatch h), rfl, ?_, by simp; omega⟩
    have htk : ps.take (i + 1) = ps.take i ++ [q] := by rw [List.take_add_one, hq]; rfl
    rw [htk]
    exact StrsAre.append hJ (.cons _ _ .nil)
  case fin =>
    rintro D k ys mt h tk ⟨rfl, hJ, hJl⟩ F' N' hext hD hmt
    have n1 : @Ne Nat D dx := fun e => by rw [e] at hD; exact absurd (hD.symm.trans (N _ (.tail _ (.tail _ (.head _)))).1) (by simp)
    have n2 : @Ne Nat D x := fun e => by rw [e] at hD; exact absurd (hD.symm.trans (N _ (.tail _ (.head _))).1) (by simp)
    have n3 : @Ne Nat D sm := fun e => by rw [e] at hD; exact absurd (hD.symm.trans (N _ (.head _)).1) (by simp)
    clear hext hD hmt
    clear F N
    simp only [List.nil_append] at N'
    w_strict (walk_at "M steps")
    walk_at "M end"
    rename_i h3 h4 od hlo hid hif hap hl1 h5 F N
    rw [hl, List.take_length] at hJ
    refine hR _ _ _ _ _ F N ⟨_, D, sm, _, od, ys, k, _, _, _, _, _, rfl, ⟨t₁, rfl⟩, hJ, hlo, hid, neN (by omega), neN (by omega), neN (by omega), neN (by omega)⟩
theorem class_open {ml dl : Addr} {R : Result → Shared → Prop} (X : (hd.heap_39 w.params).In s.heap)
   (h : ∀ x dx h', @LT.lt Nat _ dx x → Ext s.heap h' → s.heap.objs.size ≤ h'.objs.size → (∀ p ∈ [(x, instObj 100 dx), (dx, dictOf [] 0)], h'.get? p.1 = some p.2 ∧ s.heap.get? p.1 = none) →
      codeAny (model prog w) (AA 610 610) (.call (.ref 90) ⟨[.ref x, .ref ml, .ref dl], []⟩) (InitBack x R) { s with heap := h' }) :
   codeAny (model prog w) (AA 600 600) (.call (.ref 100) ⟨[.ref ml, .ref dl], []⟩) R s := by
  obtain ⟨hh, g, d, t, os⟩ := s
  have none_of : ∀ a, hh.objs.size ≤ a → hh.get? a = none := fun a ha => by
    cases e : hh.get? a with
    | none => rfl
    | some o' => exact absurd (Heap.lt_size e) (Nat.not_lt.mpr ha)
  have k : Ext hh ((hh.push (dictOf [] 0)).push (instObj 100 hh.objs.size)) := fun b o e => Heap.get?_push_of_some _ (Heap.get?_push_of_some _ e)
  have e1 : makesIn (hd.heap_39 w.params) 100 = true := by k_is
  have e2 : findIn (hd.heap_39 w.params) (.ref 100) "__init__" = some (some (.ref 90)) := by k_is
  have e3 : typeIn (hd.heap_39 w.params) (.ref 90) = some (.type "function") := by k_is
  refine make_core (makes_of X e1) (looks_findIn X e2) (fun self => bind_fn X self e3) (.inl rfl) ?_
  refine codeAny_weak (h (hh.objs.size + 1) hh.objs.size _ (Nat.lt_succ_self _) k (by rw [Heap.size_push, Heap.size_push]; exact Nat.le_trans (Nat.le_succ _) (Nat.le_succ _)) ?_)
  intro p hp
  rcases List.mem_cons.mp hp with rfl | hp
  · refine ⟨?_, none_of _ (Nat.le_succ _)⟩
    have := Heap.get?_push_size (o := instObj 100 hh.objs.size) (hh.push (dictOf [] 0)) rfl
    rwa [Heap.size_push] at this
  · rcases List.mem_cons.mp hp with rfl | hp
    · exact ⟨Heap.get?_push_of_some _ (Heap.get?_push_size _ rfl), none_of _ (Nat.le_refl _)⟩
    · cases hp
theorem reader_spec {ml dl : Addr} {vs us : List Value} {MS ps : List Str} {k₁ k₂ : Nat} (X : (hd.heap_39 w.params).In s.heap) (T : Top hd.view_39 (looseW hd.view_39 []) mean mg mb s.heap)
   (hM : s.heap.get? ml = some (listOf vs.toArray k₁)) (hvs : StrsAre vs MS) (hMS : MS.length ≤ 1) (hD : s.heap.get? dl = some (listOf us.toArray k₂)) (hps : StrsAre us ps) (hin : ∀ p ∈ ps, p ∈ dirsL) (hp : 0 < ps.length) (hp' : ps.length ≤ 100) :
   codeAny (model prog w) (AA 600 600) (.call (.ref 100) ⟨[.ref ml, .ref dl], []⟩) (Back s (fun v fr => ∃ x dx, v = .ref x ∧ ReaderP prog w MS ps x dx fr)) s := by
  refine class_open X fun x dx h' hlt hg hgs hm => ?_
  have hl := hps.len_eq
  cases us with
  | nil => simp at hl; omega
  | cons v₀ us =>
    have fin : ∀ (h₁ : Heap) (tk : Nat) (L : Addr) (m : Str → Option Value) (fr : List (Addr × Obj)), Fr s.heap L h₁ m → News s.heap L h₁ fr → ReaderP prog w MS ps x dx fr →
        InitBack x (Back s (fun v fr => ∃ x dx, v = .ref x ∧ ReaderP prog w MS ps x dx fr)) (.ok (.ret .none)) { s with heap := h₁, toks := tk } :=
      fun h₁ tk L m fr F N hP => ⟨rfl, back_of F N (fun _ h => h) ⟨x, dx, rfl, hP⟩⟩
    cases hvs with
    | nil => exact init0 X T hg hgs hm hlt hM hD (by simp at hl; omega) hps hin fin
    | cons y t hr =>
      cases hr with
      | nil => exact init1 X T hg hgs hm hlt hM hD (by simp at hl; omega) hps hin fin
      | cons y' t' hr' => simp at hMS
end
section
set_option maxRecDepth 100000
set_option maxHeartbeats 2000000
theorem slot_si_next : Slot "set_iterator" "__next__" "set_iterator.__next__" :=
  .of (owner := "set_iterator") (n := "__next__") (by rw [typeLookup_type, builtinLookup_eq_fast]; kernel_rfl) (by decide +kernel) (by decide +kernel) (by decide +kernel)
    (by first | exact .inl (by decide +kernel) | exact .inr (by decide +kernel)) (by rw [isSubtype_type]; kernel_rfl)
theorem entry_si_next : entryFor table "set_iterator.__next__" = some Builtin.«set_iterator.__next__» := entryFor_of_tree (by kernel_rfl)
theorem args_si_next (a : Value) : argsOk "set_iterator.__next__" ⟨[a], []⟩ := by unfold argsOk; kernel_rfl
theorem entry_set_iter : entryFor table "set.__iter__" = some Builtin.«frozenset.__iter__» :=
  entryFor_alias (id' := "frozenset.__iter__") (by kernel_rfl) rfl (by decide +kernel) (by kernel_rfl)
section
variable {prog : Program} {w : World} {A : Around} {E : Value → Shared → Prop} {s : Shared} {a I : Addr}
theorem byText {Q : Bool → Shared → Prop} (h : Q (w.params.followText "set-order") s) : wpAny (model prog w) A setsByText Q E s := wpAny_bind (wpAny_askSetting (wpAny_pure h))
theorem wp_neg {α : Type} {M : Model} {c : Bool} {a b : Sem α} {Q : α → Shared → Prop} (hc : c = false) (h : wpAny M A b Q E s) : wpAny M A (if c = true then a else b) Q E s := by rw [if_neg (ne_true_of_eq_false hc)]; exact h
theorem wp_pos {α : Type} {M : Model} {c : Bool} {a b : Sem α} {Q : α → Shared → Prop} (hc : c = true) (h : wpAny M A a Q E s) : wpAny M A (if c = true then a else b) Q E s := by rw [if_pos hc]; exact h
noncomputable abbrev setIt (a : Addr) (c i n ep : Nat) : Obj := { cls := .type "set_iterator", data := .fields #[rawInt c, rawInt i, .ref a, rawInt n, rawInt ep] }
theorem iter_set {es : Array (Int × Value)} {ep : Nat} {t : SetTable} {Q : Value → Shared → Prop} (ho : s.heap.get? a = some { cls := .type "set", dict := none, data := .set es ep t }) (hf : t.fits es.size = true) (hz : es.size ≤ 1)
    (h : Q (.ref s.heap.objs.size) { s with heap := s.heap.push (setIt a 0 0 es.size ep) }) : wpAny (model prog w) A (pyIter (.ref a)) Q E s := by
  have hT : s.TypeIs (.ref a) "set" := ⟨_, ho, rfl⟩
  refine wpAny_pyIter_slot hT PySem.F.slot_set_iter (wpAny_call_entry PySem.F.slot_set_iter hT entry_set_iter ?_ (PySem.F.args_set_iter_1 _))
  unfold Builtin.«frozenset.__iter__»
  refine wpAny_bind (wpAny_of_eq (a := a) rfl ?_)
  unfold Builtin.Frozenset.sizeOf setEntries setDrawn setEpoch
  refine wpAny_bind (wpAny_bind (wpAny_bind (wpAny_setState_of ho rfl hf (wpAny_pure (wpAny_pure ?_)))))
  refine wpAny_bind (wpAny_bind (wpAny_setState_of ho rfl hf ?_))
  refine wpAny_bind (byText (wpAny_pure ?_))
  dsimp only
  refine wp_neg ?_ (wpAny_bind (wpAny_pure ?_))
  · show (!_ && (!_ && decide (es.size > 1))) = false
    have : decide (es.size > 1) = false := by simp; omega
    rw [this]; simp
  refine wpAny_bind (wpAny_bind (wpAny_setState_of ho rfl hf (wpAny_pure ?_)))
  exact wpAny_bind (wpAny_newObj_type (wpAny_pure ⟨_, rfl, "set_iterator", _, ⟨_, Heap.get?_push_size _ rfl, rfl⟩, slot_si_next.lookup, h⟩))
theorem pick1 {α : Type} (f : Nat → Nat) (e : α) : pickOrder f #[e] = #[e] := by
  simp [pickOrder, pickOrder.go, Nat.mod_one]
theorem pick0 {α : Type} (f : Nat → Nat) : pickOrder f (#[] : Array α) = #[] := rfl
theorem upd_fields {I : Addr} {o : Obj} {vs : Array Value} {f : Array Value → Array Value} (ho : s.heap.get? I = some o) (hd : o.data = .fields vs) :
    (s.heap.update I (Obj.mapFields f)).get? I = some (Obj.mapFields f o) := Heap.get?_update_self _ ho (Obj.isFreed_of_fields (Obj.data_mapFields hd _))
/-- the one element of a set of one text -/
theorem next_one {x : Str} {t : Tok} {Q : Option Value → Shared → Prop} (ho : s.heap.get? a = some (setOne (!w.params.followText "set-order") (hashStr w x) (.str x t))) (hI : s.heap.get? I = some (setIt a 0 0 1 1))
    (h : ∀ h' c, Heap.SameBut I s.heap h' → h'.get? I = some (setIt a c 1 1 1) → (w.params.followText "set-order" = true ∨ c = SetTable.bits (hashStr w x) % 8 + 1) → Q (some (.str x t)) { s with heap := h' }) :
    wpAny (model prog w) A (pyNext (.ref I)) Q E s := by
  have hT : s.TypeIs (.ref I) "set_iterator" := ⟨_, hI, rfl⟩
  unfold pyNext
  refine wpAny_bind (wpAny_attempt (wpAny_callSpecial?_slot (name := Str.ofString "__next__") hT slot_si_next
    (wpAny_call_entry slot_si_next hT entry_si_next ?_ (args_si_next _))))
  unfold Builtin.«set_iterator.__next__»
  refine wpAny_bind (wpAny_of_eq (a := ((.ref I), [])) rfl ?_)
  refine wpAny_bind (wpAny_fieldsOf hI rfl ?_)
  dsimp only
  unfold setEntries setNext
  refine wpAny_bind (wpAny_bind (wpAny_setState_of ho rfl (oneTab_fits _ _ _) (wpAny_pure ?_)))
  refine wp_neg (by rfl) ?_
  dsimp only [rawInt]
  have tail : ∀ c : Nat, (w.params.followText "set-order" = true ∨ c = SetTable.bits (hashStr w x) % 8 + 1) → wpAny (model prog w) A.in1 (do
      setField (Value.ref I) 0 (Value.int (↑c) 0)
      setField (Value.ref I) 1 (Value.int (((0 : Nat) : Int) + 1) 0)
      ret (Value.str x t)) (fun fin s' => ∃ v, fin = Fin.done (Flow.ret v) ∧ wpAny (model prog w) A (pure (some v)) Q E s') (fun e s' =>
      wpAny (model prog w) A (do
          let __do_lift ← isInstance e (Value.type "StopIteration")
          if __do_lift = true then pure none else throw e) Q E s') s := by
    intro c hc
    have h1 := upd_fields (f := (·.setIfInBounds 0 (Value.int (↑c) 0))) hI rfl
    have h2 := upd_fields (s := { s with heap := s.heap.update I (Obj.mapFields (·.setIfInBounds 0 (Value.int (↑c) 0))) }) (f := (·.setIfInBounds 1 (Value.int (((0 : Nat) : Int) + 1) 0))) h1 rfl
    refine wpAny_bind (wpAny_setField hI rfl (by show 0 < 5; omega) (wpAny_bind (wpAny_setField (s := { s with heap := s.heap.update I (Obj.mapFields (·.setIfInBounds 0 (Value.int (↑c) 0))) }) h1 rfl (by show 1 < 5; omega) (wpAny_pure ⟨_, rfl, wpAny_pure (h _ c ?_ h2 hc)⟩))))
    exact (Heap.SameBut.update ..).trans (Heap.SameBut.update ..)
  refine wpAny_bind (wpAny_bind (wpAny_setState_of ho rfl (oneTab_fits _ _ _) ?_))
  refine wpAny_bind (byText ?_)
  by_cases hb : w.params.followText "set-order" = true
  · refine wp_pos hb ?_
    refine wp_neg (by rfl) ?_
    unfold setWalk
    refine wpAny_bind (wpAny_bind (wpAny_setState_of ho rfl (oneTab_fits _ _ _) ?_))
    refine wpAny_bind (byText ?_)
    refine wp_pos hb ?_
    refine wpAny_bind (wpAny_askSetting (wpAny_pure ?_))
    refine wpAny_pure ?_
    rw [pick1]
    exact tail 0 (.inl hb)
  · have hb' : w.params.followText "set-order" = false := by simpa using hb
    refine wp_neg hb' ?_
    refine wp_neg (by rfl) ?_
    refine wpAny_bind (wpAny_of_eq (a := ()) (by rw [hb']; rfl) ?_)
    refine wpAny_pure ?_
    dsimp only [oneTab]
    rw [show (((0 : Nat) : Int)).toNat = 0 from rfl, below_0]
    exact tail _ (.inr rfl)
theorem stop_tail {vs : Array Value} {o : Obj} {Q : Option Value → Shared → Prop} (hh : A.handled = none) (hI : s.heap.get? I = some o) (hd : o.data = .fields vs) (hz : 2 < vs.size)
    (hQ : ∀ h', Heap.ExtBut I s.heap h' → Q none { s with heap := h' }) :
    wpAny (model prog w) A.in1 (do
      setField (Value.ref I) 2 Value.none
      let e ← newExc (Value.type "StopIteration") []
      raiseNew (α := Fin) e) (fun fin s' => ∃ v, fin = Fin.done (Flow.ret v) ∧ wpAny (model prog w) A (pure (some v)) Q E s') (fun e s' =>
      wpAny (model prog w) A (do
          let __do_lift ← isInstance e (Value.type "StopIteration")
          if __do_lift = true then pure none else throw e) Q E s') s := by
  refine wpAny_bind (wpAny_setField hI hd hz ?_)
  show wpAny _ _ (newExc (.type "StopIteration") [] >>= _) _ _ _
  refine wpAny_bind ?_
  simp only [newExc, newTuple]
  refine wpAny_bind (wpAny_newObj_type ?_ (by size_fits))
  refine wpAny_bind (m := firstArgMember _ _) (wpAny_of_eq (a := Value.none) (by first | rfl | (simp only [firstArgMember]; rfl)) ?_)
  refine wpAny_newObj_type ?_ (by size_fits)
  simp only [raiseNew]
  refine wpAny_bind (wpAny_handled ?_)
  rw [show A.in1.handled = none from hh]
  refine wpAny_bind (wpAny_pure (wpAny_throw ?_))
  refine wpAny_bind (wpAny_isInstance (T := "StopIteration") (b := true) ⟨_, Heap.get?_push_size _ rfl, rfl⟩ isSubtype_stop ?_)
  exact wpAny_pure (hQ _ (((Heap.SameBut.update ..).extBut.push _).push _))
theorem next_end {es : Array (Int × Value)} {ep c n : Nat} {tb : SetTable} {Q : Option Value → Shared → Prop} (hh : A.handled = none) (ho : s.heap.get? a = some { cls := .type "set", dict := none, data := .set es ep tb }) (hf : tb.fits es.size = true) (hI : s.heap.get? I = some (setIt a c n es.size ep))
    (hz : es.size ≤ 1) (hn : ∀ f, (pickOrder f es)[n]? = none) (hb : w.params.followText "set-order" = true ∨ ((tb.led = true ∨ es.isEmpty = true) ∧ es[SetTable.below tb.place c]? = none))
    (h : ∀ h', Heap.ExtBut I s.heap h' → Q none { s with heap := h' }) :
    wpAny (model prog w) A (pyNext (.ref I)) Q E s := by
  have hT : s.TypeIs (.ref I) "set_iterator" := ⟨_, hI, rfl⟩
  have tl := stop_tail (prog := prog) (w := w) (A := A) (E := E) (Q := Q) hh hI rfl (by show 2 < 5; omega) h
  unfold pyNext
  refine wpAny_bind (wpAny_attempt (wpAny_callSpecial?_slot (name := Str.ofString "__next__") hT slot_si_next
    (wpAny_call_entry slot_si_next hT entry_si_next ?_ (args_si_next _))))
  unfold Builtin.«set_iterator.__next__»
  refine wpAny_bind (wpAny_of_eq (a := ((.ref I), [])) rfl ?_)
  refine wpAny_bind (wpAny_fieldsOf hI rfl ?_)
  dsimp only
  unfold setEntries setNext
  refine wpAny_bind (wpAny_bind (wpAny_setState_of ho rfl hf (wpAny_pure ?_)))
  refine wp_neg (by simp) ?_
  dsimp only [rawInt]
  refine wpAny_bind (wpAny_bind (wpAny_setState_of ho rfl hf ?_))
  refine wpAny_bind (byText ?_)
  by_cases hbt : w.params.followText "set-order" = true
  · refine wp_pos hbt ?_
    refine wp_neg (by simp) ?_
    unfold setWalk
    refine wpAny_bind (wpAny_bind (wpAny_setState_of ho rfl hf ?_))
    refine wpAny_bind (byText ?_)
    refine wp_pos hbt ?_
    refine wpAny_bind (wpAny_askSetting (wpAny_pure ?_))
    refine wpAny_pure ?_
    rw [show ((n : Int)).toNat = n from Int.toNat_natCast n, hn]
    exact tl
  · have hb' : w.params.followText "set-order" = false := by simpa using hbt
    obtain ⟨hled, hno⟩ := hb.resolve_left hbt
    refine wp_neg hb' ?_
    refine wp_neg ?_ ?_
    · show (!_ && decide (es.size > 1)) = false
      have : decide (es.size > 1) = false := by simp; omega
      rw [this]; simp
    refine wpAny_bind (m := (if (!tb.led && !es.isEmpty) = true then unsupported "set:maker-not-led" else pure ())) (wp_neg (by rcases hled with e | e <;> rw [e] <;> simp) (wpAny_pure ?_))
    refine wpAny_pure ?_
    rw [show ((c : Int)).toNat = c from Int.toNat_natCast c]
    dsimp only
    rw [hno]
    exact tl
/-- a turn of a for over any iterator, its target a name -/
theorem forLoop_name {R : Result → Shared → Prop} {y : Str} {pos : Pos} {env : Env} {body : List Stmt}
    (turn : wpAny (model prog w) A (pyNext (.ref I)) (fun r s₁ => match r with
      | none => R (.ok .next) s₁
      | some v => wpAny (model prog w) A (assign (.Name y pos) env v) (fun _ s₂ => wpAny (model prog w) A (execs body env) (fun f s₃ => match f with
          | .next | .cont => codeAny (model prog w) A (.forLoop (.Name y pos) (.ref I) body [] env) R s₃
          | .brk => R (.ok .next) s₃
          | .ret v => R (.ok (.ret v)) s₃) (fun _ _ => False) s₂) (fun _ _ => False) s₁) (fun _ _ => False) s) :
    codeAny (model prog w) A (.forLoop (.Name y pos) (.ref I) body [] env) R s := by
  refine codeAny_of_tree ?_
  show wpAny _ _ ((forTurn (.Name y pos) (.ref I) body [] env).onRaise (fun x => do noteFrame x env; theTreesLotGoes x)) _ _ s
  refine wpAny_noted ?_
  simp only [forTurn]
  refine wpAny_bind (wpAny_standAt (wpAny_bind (wpAny_onRaise (wpAny_mono turn (fun r s₁ h₁ => ?_) fun _ _ h' => h'.elim))))
  cases r with
  | none => exact wpAny_pure ⟨rfl, codeAny_block (wpAny_execs_nil h₁)⟩
  | some v =>
    refine wpAny_bind (wpAny_of_eq (a := ()) rfl ?_)
    refine wpAny_bind (wpAny_mono h₁ (fun _ s₂ h₂ => wpAny_bind (wpAny_mono h₂ (fun f s₃ h₃ => ?_) fun _ _ h' => h'.elim)) fun _ _ h' => h'.elim)
    cases f with
    | next => exact wpAny_pure ⟨rfl, h₃⟩
    | cont => exact wpAny_pure ⟨rfl, h₃⟩
    | brk => exact wpAny_pure h₃
    | ret v => exact wpAny_pure h₃
noncomputable def SetEnd (s : Shared) (h₀ : Heap) (L I : Addr) (oI : Obj) (J : (Str → Option Value) → List (Addr × Obj) → Prop) (s₃ : Shared) : Prop :=
  ∃ h' tk' m' news', s₃ = { s with heap := h', toks := tk' } ∧ Fr h₀ L h' m' ∧ News h₀ L h' ((I, oI) :: news') ∧ (∀ p ∈ news', p.1 ≠ I) ∧ J m' news'
theorem stop_frame {h₀ h h₁ : Heap} {L : Addr} {m : Str → Option Value} {news : List (Addr × Obj)} {oI : Obj} (F : Fr h₀ L h m) (N : News h₀ L h ((I, oI) :: news)) (off : ∀ p ∈ news, p.1 ≠ I) (hs : Heap.ExtBut I h h₁) : Fr h₀ L h₁ m ∧ News h₀ L h₁ news := by
  have hne := (N _ (.head _)).2
  with_reducible refine hideG fun G kG => ?_
  obtain ⟨oL, a1, a2, hoL, a3⟩ := F.ns <;> (with_reducible refine kG ?_; clear kG G)
  refine ⟨⟨⟨oL, a1, a2, hs _ _ (Ne.symm hne.1) hoL, a3⟩, fun b x e => hs _ _ (fun q => ?_) (F.keep b x e), F.above⟩, fun p hp => ⟨hs p.1 p.2 (off p hp) (N p (.tail _ hp)).1, (N p (.tail _ hp)).2⟩⟩
  rw [q, hne.2] at e; cases e
/-- a for over a set of at most one text, that stands in the ground -/
theorem set_for {y : Str} {pos : Pos} {env : Env} {body : List Stmt} {h₀ : Heap} {L sm : Addr} {so : Obj} {MS : List Str} {m₀ : Str → Option Value} {news₀ : List (Addr × Obj)} {Q : Flow → Shared → Prop} (hh : A.handled = none)
    (J : (Str → Option Value) → List (Addr × Obj) → Prop) (F : Fr h₀ L s.heap m₀) (N : News h₀ L s.heap news₀) (hso : h₀.get? sm = some so) (hP : SetP w so MS) (h0 : MS = [] → J m₀ news₀)
    (turn : ∀ x t h tk I oI, MS = [x] → Fr h₀ L h m₀ → News h₀ L h ((I, oI) :: news₀) → (∀ p ∈ news₀, p.1 ≠ I) →
      wpAny (model prog w) A (assign (.Name y pos) env (.str x t)) (fun _ s₂ => wpAny (model prog w) A (execs body env) (fun f s₃ => match f with
          | .next | .cont => SetEnd s h₀ L I oI J s₃
          | .brk => Q .next s₃
          | .ret v => Q (.ret v) s₃) (fun _ _ => False) s₂) (fun _ _ => False) { s with heap := h, toks := tk })
    (done : ∀ m news h tk, J m news → Fr h₀ L h m → News h₀ L h news → Q .next { s with heap := h, toks := tk }) :
    wpAny (model prog w) A (pyIter (.ref sm)) (fun it s₂ => codeAny (model prog w) A (.forLoop (.Name y pos) it body [] env) (fun r s' => match r with | .ok f => Q f s' | .error e => cameBackBy (model prog w) A env E e s') s₂) E s := by
  have ho := F.keep _ _ hso
  have offs : ∀ p ∈ news₀, p.1 ≠ s.heap.objs.size := fun p hp => Nat.ne_of_lt (Heap.lt_size (N p hp).1)
  have hne : sm ≠ s.heap.objs.size := Nat.ne_of_lt (Heap.lt_size ho)
  match MS, hP with
  | [], hP =>
    obtain ⟨led, rfl⟩ := hP
    refine iter_set ho rfl (by decide) ?_
    have F1 := F.push (setIt sm 0 0 0 0)
    have N1 := News.push F N (setIt sm 0 0 0 0)
    refine forLoop_name (next_end (s := { s with heap := s.heap.push (setIt sm 0 0 0 0) }) hh (F1.keep _ _ hso) rfl (N1 _ (.head _)).1 (by decide) (fun f => rfl) (.inr ⟨.inr rfl, rfl⟩) fun h' hs => ?_)
    obtain ⟨F2, N2⟩ := stop_frame F1 N1 offs hs
    exact done _ _ _ _ (h0 rfl) F2 N2
  | [x], hP =>
    obtain ⟨t, rfl⟩ := hP
    refine iter_set ho (oneTab_fits _ _ _) (Nat.le_refl 1) ?_
    have F1 := F.push (setIt sm 0 0 1 1)
    have N1 := News.push F N (setIt sm 0 0 1 1)
    refine forLoop_name (next_one (s := { s with heap := s.heap.push (setIt sm 0 0 1 1) }) (F1.keep _ _ hso) (N1 _ (.head _)).1 fun h' c hs hI hc => ?_)
    have F2 : Fr h₀ L h' m₀ := F1.change hs (N1 _ (.head _)).2.1 (N1 _ (.head _)).2.2
    have N2 : News h₀ L h' ((s.heap.objs.size, setIt sm c 1 1 1) :: news₀) := by
      intro p hp
      rcases List.mem_cons.mp hp with rfl | hp
      · exact ⟨hI, (N1 _ (.head _)).2⟩
      · have := N1 p (.tail _ hp)
        exact ⟨(hs.2 p.1 (offs p hp)).trans this.1, this.2⟩
    have fin : ∀ s₃, SetEnd s h₀ L s.heap.objs.size (setIt sm c 1 1 1) J s₃ → codeAny (model prog w) A (.forLoop (.Name y pos) (.ref s.heap.objs.size) body [] env) (fun r s' => match r with | .ok f => Q f s' | .error e => cameBackBy (model prog w) A env E e s') s₃ := by
      rintro s₃ hP9
      with_reducible refine hideG fun G kG => ?_
      obtain ⟨h3, tk3, m3, news3, rfl, F3, N3, off3, hJ⟩ := hP9 <;> (with_reducible refine kG ?_; clear kG G)
      refine forLoop_name (next_end (s := { s with heap := h3, toks := tk3 }) hh (F3.keep _ _ hso) (oneTab_fits _ _ _) (N3 _ (.head _)).1 (Nat.le_refl 1) (fun f => by rw [pick1]; rfl) ?_ fun h4 hs4 => ?_)
      · by_cases hb : w.params.followText "set-order" = true
        · exact .inl hb
        · refine .inr ⟨.inl (by simpa [oneTab] using hb), ?_⟩
          rw [hc.resolve_left hb]; simp [oneTab, below_1]
      · obtain ⟨F4, N4⟩ := stop_frame F3 N3 off3 hs4
        exact done _ _ _ _ hJ F4 N4
    refine wpAny_mono (turn x t h' s.toks s.heap.objs.size _ rfl F2 N2 offs) (fun _ s₂ h₂ => wpAny_mono h₂ (fun f s₃ h₃ => ?_) fun _ _ y => y) fun _ _ y => y
    cases f with
    | next => exact fin _ h₃
    | cont => exact fin _ h₃
    | brk => exact h₃
    | ret v => exact h₃
end
end
section
set_option maxRecDepth 100000
set_option maxHeartbeats 1000000
theorem kw_F8u_0 : True := by
  k_with_none
  k_with "call ref" => (k_here; k_dflt (refine wpAny_call ?_; refine' code_def0 ?kq_k2 ?kq_k3 ?kq_k4 ?kq_k5 ?kq_k6 ?kq_k7 ?kq_k8 ?kq_k9 ?kq_kB ?_ ?kq_c2 ?kq_c3 ?kq_c4 ?kq_c5; (case kq_k2 => k_asm); (case kq_k3 => k_asm); (case kq_k4 => k_asm); (case kq_k5 => k_asm); (case kq_k6 => k_is); (case kq_k7 => k_is); (case kq_k8 => k_room); (case kq_k9 => exact BindsTo.of_eq rfl); (case kq_c5 => decide); (case kq_kB => exact locs rfl); (case kq_c2 => exact rfl); (case kq_c3 => exact rfl); (case kq_c4 => exact rfl); k_whole; intro _ _ _ _ _ _ _ _; (try dsimp only); (try k_fold)))
  k_with "M enter" => (refine' enter0 ?kq_k3 ?kq_k5 ?kq_k6 ?kq_k7 ?kq_k8 ?kq_k9 ?kq_kB ?_ ?kq_c2 ?kq_c3 ?kq_c4 ?kq_c5; (case kq_k3 => assumption); (case kq_k5 => assumption); (case kq_k6 => k_is); (case kq_k7 => k_is); (case kq_k8 => decide); (case kq_k9 => exact BindsTo.of_eq rfl); (case kq_kB => exact locs rfl); (case kq_c2 => rfl); (case kq_c3 => rfl); (case kq_c4 => rfl); (case kq_c5 => decide); intro _ _ _ _; dsimp only; k_fold)
  k_with "M steps" => repeat' (first | (k_unfold; (try dsimp only)) | walk1 | (dsimp only; walk1))
  k_with "M end" => ((try dsimp only); (try k_unfold); (try dsimp only))
  k_with "exec While Compare cons nil" => (k_here; refine whl_start 9 ?_)
  k_with "exec While BoolOp cons nil" => (k_here; refine whl_start 9 ?_)
  k_with "WhlRest" => (refine whl_turn (fun _ _ h => False.elim h) ?_)
  k_with "WhlIf" => first | (refine WhlIf.yes (by first | rfl | assumption | (simp only [decide_eq_true_eq]; omega)) ?_) | (refine WhlIf.no (by first | rfl | assumption | (simp only [decide_eq_false_iff_not]; omega)) ?_)
  k_with "WhlPost" => (unfold WhlPost; dsimp only)
  k_with "ite" => first | (refine PySem.W.ite_pos (by assumption) ?_) | (refine PySem.W.ite_neg (by assumption) ?_) | (refine PySem.W.ite_neg (ne_true_of_eq_false (by assumption)) ?_)
  exact True.intro
theorem kfill_once11 : (fun (_ : OpenLaw) (_ : Params → Frag) => True) PySem.Challenge.rw_ny0070_01 hd.heap_39 := by k_fill; w_on; trivial
section
variable {prog : Program} {w : World} {A : Around} {E : Value → Shared → Prop} {s : Shared} {h₀ : Heap} {L : Addr} {m : Str → Option Value} {news pre post : List (Addr × Obj)} {di sm : Addr} {od so : Obj} {kvs : List (Str × Value)} {x : Str} {t : Tok} {MS : List Str}
theorem dict_at (N : News h₀ L s.heap news) (hm : (di, od) ∈ news) (hid : od.IsDictOf (PySem.strKind prog w) kvs) : s.heap.DictOf (PySem.strKind prog w) di kvs := Heap.dictOf_iff.mpr ⟨od, (N _ hm).1, hid⟩
theorem in_d {Q : Value → Shared → Prop} (N : News h₀ L s.heap news) (hm : (di, od) ∈ news) (hid : od.IsDictOf (PySem.strKind prog w) kvs) (hds : (di == sysModules) = false) (h : Q (.bool (valueAt kvs x).isSome) { s with toks := s.toks + 1 }) :
    wpAny (model prog w) A (compareOp .In (.str x t) (.ref di)) Q E s := wpAny_in_of (strKind_is prog w x t) hds (dict_at N hm hid).mapOf h
theorem item_d {value slice : Expr} {v : Value} {Q : Value → Shared → Prop} (N : News h₀ L s.heap news) (hm : (di, od) ∈ news) (hid : od.IsDictOf (PySem.strKind prog w) kvs) (hv : valueAt kvs x = some v) (h : Q v { s with toks := s.toks + 1 })
    (hs : subscripted slice false (.ref di) (.str x t) = operate [.ref di, .str x t] (getItem (.ref di) (.str x t))) (hg : ∀ r, letTemporaryGo value (.ref di) r = pure ()) :
    wpAny (model prog w) A (subscriptTail value slice (.ref di) (.str x t)) Q E s :=
  subscriptTail_builtin (dict_at N hm hid).typeIs slot_dict_getitem.lookup (wpAny_getItem_of (strKind_is prog w x t) (dict_at N hm hid).mapOf hv h) hs hg
theorem get_d {v : Value} {Q : Value → Shared → Prop} (N : News h₀ L s.heap news) (hm : (di, od) ∈ news) (hid : od.IsDictOf (PySem.strKind prog w) kvs) (hv : valueAt kvs x = some v) (h : Q v { s with toks := s.toks + 1 }) :
    wpAny (model prog w) A (getItem (.ref di) (.str x t)) Q E s := wpAny_getItem_of (strKind_is prog w x t) (dict_at N hm hid).mapOf hv h
theorem set_d {v : Value} {Q : Unit → Shared → Prop} (F : Fr h₀ L s.heap m) (N : News h₀ L s.heap (pre ++ (di, od) :: post)) (hid : od.IsDictOf (PySem.strKind prog w) kvs) (h1 : ∀ p ∈ pre, p.1 ≠ di) (h2 : ∀ p ∈ post, p.1 ≠ di) (hz : kvs.length ≤ 1000)
    (h : ∀ h' od', Fr h₀ L h' m → News h₀ L h' (pre ++ (di, od') :: post) → od'.IsDictOf (PySem.strKind prog w) (stored kvs x v) → Q () { s with heap := h', toks := s.toks + 1 }) :
    wpAny (model prog w) A (setItem (.ref di) (.str x t) v) Q E s := by
  have hm : (di, od) ∈ pre ++ (di, od) :: post := by simp
  refine wpAny_setItem_pairs (strKind_is prog w x t) (dict_at N hm hid) (fun h' hd' hs => ?_) (by rw [sizeLine_eq]; omega)
  obtain ⟨od', ho', hid'⟩ := Heap.dictOf_iff.mp hd'
  refine h h' od' (F.change hs (N _ hm).2.1 (N _ hm).2.2) (fun p hp => ?_) hid'
  have keep : ∀ p ∈ pre ++ (di, od) :: post, p.1 ≠ di → h'.get? p.1 = some p.2 ∧ p.1 ≠ L ∧ h₀.get? p.1 = none := fun p hp hne => ⟨(hs.2 p.1 hne).trans (N p hp).1, (N p hp).2⟩
  rcases List.mem_append.mp hp with hp | hp
  · exact keep p (List.mem_append_left _ hp) (h1 p hp)
  · rcases List.mem_cons.mp hp with rfl | hp
    · exact ⟨ho', (N _ hm).2⟩
    · exact keep p (List.mem_append_right _ (.tail _ hp)) (h2 p hp)
theorem set_of {h : Heap} (ho : h.get? sm = some so) (hP : SetP w so MS) : ∃ n, h.SetOf (PySem.strKind prog w) sm (fun k => decide (k ∈ MS)) n := by
  match MS, hP with
  | [], ⟨led, e⟩ => subst e; exact ⟨0, _, #[], 0, _, ho, ⟨rfl, rfl, rfl⟩, rfl, (fun e he => by simp at he), (fun k => by simp), by decide, rfl, rfl⟩
  | [y], ⟨t, e⟩ =>
    subst e
    refine ⟨1, _, _, 1, _, ho, ⟨rfl, rfl, rfl⟩, rfl, (fun e he => ?_), (fun k => ?_), (show 1 < scanBound by decide), oneTab_fits _ _ _, rfl⟩
    · simp at he; subst he; exact ⟨⟨y, strKind_is prog w y t, rfl⟩, rfl⟩
    · constructor
      · intro hk
        have e : k = y := by simpa using hk
        subst e
        exact ⟨_, List.mem_singleton.mpr rfl, strKind_is prog w k t⟩
      · rintro ⟨e, he, hk⟩
        have e2 : e = (hashStr w y, Value.str y t) := List.mem_singleton.mp he
        subst e2
        have := (PySem.strKind prog w).inj _ _ _ hk (strKind_is prog w y t)
        simp [this]
theorem in_s {Q : Value → Shared → Prop} (F : Fr h₀ L s.heap m) (ho : h₀.get? sm = some so) (hP : SetP w so MS) (h : Q (.bool (decide (x ∈ MS))) { s with toks := s.toks + 1 }) :
    wpAny (model prog w) A (compareOp .In (.str x t) (.ref sm)) Q E s := by
  obtain ⟨n, hS⟩ := set_of (prog := prog) (F.keep _ _ ho) hP
  exact wpAny_inSet_of (strKind_is prog w x t) rfl hS h
end
variable {prog : Program} {w : World} {mean : ExcName → Option Value} {mg mb : Str → Option Value} {s : Shared}
theorem kw_F8u_1 : True := by
  k_with "M enterM" => (refine' enterM ?kq_k3 ?kq_k5 ?kq_g1 ?kq_g2 ?kq_g3 ?kq_k6 ?kq_k7 ?kq_k8 ?kq_k9 ?kq_kB ?_ ?kq_c2 ?kq_c3 ?kq_c4 ?kq_c5; (case kq_k3 => assumption); (case kq_k5 => assumption); (case kq_g1 => with_reducible assumption); (case kq_g2 => with_reducible assumption); (case kq_g3 => with_reducible assumption); (case kq_k6 => k_is); (case kq_k7 => k_is); (case kq_k8 => decide); (case kq_k9 => exact BindsTo.of_eq rfl); (case kq_kB => exact locs rfl); (case kq_c2 => rfl); (case kq_c3 => rfl); (case kq_c4 => rfl); (case kq_c5 => decide); intro _ _ _ _; dsimp only; k_fold)
  k_with "compareOp In str ref" => (k_here; k_dflt (first | (refine in_d (by k_asm) (by k_mem) (by with_reducible assumption) (by with_reducible assumption) ?_) | (refine in_s (by k_asm) (by with_reducible assumption) (by with_reducible assumption) ?_)))
  k_with "subscriptTail Attribute Name ref str" => (k_here; k_dflt (refine' item_d ?kq_N ?kq_m ?kq_i ?kq_v ?_ ?kq_s ?kq_g; (case kq_N => k_asm); (case kq_m => k_mem); (case kq_i => with_reducible assumption); (case kq_v => with_reducible assumption); (case kq_s => with_unfolding_all rfl); (case kq_g => intro _; with_unfolding_all rfl)))
  k_with "getItem ref" => (k_here; k_dflt (refine get_d (by k_asm) (by k_mem) (by with_reducible assumption) (by with_reducible assumption) ?_))
  k_with "exec For Name Attribute cons nil" => ((with_reducible refine wpAny_For ?_ ?kq_hs); (case kq_hs => k_dflt (intro _; rfl)))
  k_with "setItem ref" => (k_here; k_dflt (first
  | (refine' set_d (pre := []) ?kq_F ?kq_N ?kq_i ?kq_a ?kq_b ?kq_z ?_; (case kq_F => k_asm); (case kq_N => k_asm); (case kq_i => with_reducible assumption); (case kq_a => exact fun _ h => nomatch h); (case kq_b => k_all); (case kq_z => with_reducible assumption))
  | (refine' set_d (pre := [_]) ?kq_F ?kq_N ?kq_i ?kq_a ?kq_b ?kq_z ?_; (case kq_F => k_asm); (case kq_N => k_asm); (case kq_i => with_reducible assumption); (case kq_a => k_all); (case kq_b => k_all); (case kq_z => with_reducible assumption))); intro _ _ _ N' hid'; (try dsimp only [List.nil_append, List.cons_append] at N'); revert N' hid'; intro _ _)
  exact True.intro
theorem names_old {g : Heap} {x dx di sm D : Addr} {od : Obj} {kvs : List (Str × Value)} {f md : Str} {t t' t1 t2 t3 : Tok} {n : Nat} {v : Value} {R : Result → Shared → Prop} (X : (hd.heap_39 w.params).In g) (T : Top hd.view_39 (looseW hd.view_39 []) mean mg mb g)
   (hg : Ext g s.heap) (hgs : g.objs.size ≤ s.heap.objs.size) (hm : ∀ p ∈ [(di, od), (x, instObj 100 dx), (dx, dictOf (attrs w sm D di t1 t2 t3) n)], s.heap.get? p.1 = some p.2 ∧ g.get? p.1 = none)
   (hds : (di == sysModules) = false) (hid : od.IsDictOf (PySem.strKind prog w) kvs) (hv : valueAt kvs md = some v)
   (hR : ∀ h' tk L m, Fr g L h' m → News g L h' [(di, od), (x, instObj 100 dx), (dx, dictOf (attrs w sm D di t1 t2 t3) n)] → R (.ok (.ret v)) { s with heap := h', toks := tk })
   : codeAny (model prog w) (AA 650 650) (.call (.ref 97) ⟨[.ref x, .str f t, .str md t'], []⟩) R s := by
  dsimp only [attrs] at hm hR
  walk_at "M enterM"
  have hvs : (valueAt kvs md).isSome = true := by rw [hv]; rfl
  w_strict (walk_at "M steps")
  walk_at "M end"
  exact hR _ _ _ _ (by with_reducible assumption) (by with_reducible assumption)
noncomputable def hit (MS ps : List Str) (f md : Str) : Bool := decide (md ∈ MS) || MS.any (fun y => Txt.startswith md (y ++ Str.ofString ".")) || ps.any (fun y => Txt.startswith f (y ++ Str.ofString "/"))
theorem kw_F8u_2 : True := by
  k_with "binaryOp Add str str" => (k_here; k_dflt (refine add_str ?_ (by rw [sizeLine_eq]; refine Nat.le_trans (Nat.add_le_add (by with_reducible assumption) (Nat.le_refl _)) ?_; exact Nat.le_of_ble_eq_true rfl)); intro _ _)
  exact True.intro
theorem names_new {g : Heap} {x dx di sm D : Addr} {od so : Obj} {kvs : List (Str × Value)} {f md : Str} {t t' t1 t2 t3 : Tok} {n k : Nat} {ys : List Value} {MS ps : List Str} {R : Result → Shared → Prop} (X : (hd.heap_39 w.params).In g) (T : Top hd.view_39 (looseW hd.view_39 []) mean mg mb g)
   (hg : Ext g s.heap) (hgs : g.objs.size ≤ s.heap.objs.size) (hm : ∀ p ∈ [(di, od), (x, instObj 100 dx), (dx, dictOf (attrs w sm D di t1 t2 t3) n)], s.heap.get? p.1 = some p.2 ∧ g.get? p.1 = none)
   (n1 : @Ne Nat di x) (n2 : @Ne Nat di dx) (hds : (di == sysModules) = false) (hid : od.IsDictOf (PySem.strKind prog w) kvs) (hz : kvs.length ≤ 1000) (hv : valueAt kvs md = none)
   (hso : g.get? sm = some so) (hP : SetP w so MS) (hD : g.get? D = some (listOf ys.toArray k)) (hys : StrsAre ys ps) (hps : ps.length ≤ 100) (hMl : ∀ y ∈ MS, y.length ≤ 100) (hpl : ∀ y ∈ ps, y.length ≤ 100)
   (hR : ∀ h' tk L m od' t4 t5, Fr g L h' m → News g L h' [(di, od'), (x, instObj 100 dx), (dx, dictOf (attrs w sm D di t1 t2 t3) n)] → od'.IsDictOf (PySem.strKind prog w) (stored kvs md (.int (if hit MS ps f md = true then 1 else 0) t4)) → R (.ok (.ret (.int (if hit MS ps f md = true then 1 else 0) t5))) { s with heap := h', toks := tk })
   : codeAny (model prog w) (AA 650 650) (.call (.ref 97) ⟨[.ref x, .str f t, .str md t'], []⟩) R s := by
  dsimp only [attrs] at hm
  walk_at "M enterM"
  clear hm
  have hvs : (valueAt kvs md).isSome = false := by rw [hv]; rfl
  by_cases hmd : md ∈ MS
  · have hmd' : decide (md ∈ MS) = true := by simpa using hmd
    have hh : hit MS ps f md = true := by simp [hit, hmd]
    rw [hh] at hR
    w_strict (walk_at "M steps")
    walk_at "M end"
    rename_i F2 N2 hid2
    exact hR _ _ _ _ _ _ _ F2 N2 hid2
  · have hmd' : decide (md ∈ MS) = false := by simpa using hmd
    w_strict (walk_at "M steps")
    rename_i L₁ h₁ F N tk₀
    refine set_for rfl (fun m news => news = [(di, od), (x, instObj 100 dx), (dx, dictOf (attrs w sm D di t1 t2 t3) n)] ∧ m (Str.ofString "self") = some (.ref x) ∧ m (Str.ofString "filename") = some (.str f t) ∧ m (Str.ofString "modulename") = some (.str md t') ∧ MS.any (fun y => Txt.startswith md (y ++ Str.ofString ".")) = false) F N hso hP ?h0 ?turn ?fin
    case h0 => exact fun e => ⟨rfl, rfl, rfl, rfl, by rw [e]; rfl⟩
    case turn =>
      clear F N
      intro y ty h tk I oI hMS F N off
      have o1 : @Ne Nat di I := off _ (.head _)
      have o2 : @Ne Nat x I := off _ (.tail _ (.head _))
      have o3 : @Ne Nat dx I := off _ (.tail _ (.tail _ (.head _)))
      have hyl : y.length ≤ 100 := hMl y (by rw [hMS]; exact List.mem_singleton.mpr rfl)
      by_cases hst : Txt.startswith md (y ++ Str.ofString ".") = true
      · have hh : hit MS ps f md = true := by simp [hit, hMS, hst]
        rw [hh] at hR
        w_strict (walk_at "M steps")
        walk_at "M end"
        rename_i F2 N2 hid2
        exact hR _ _ _ _ _ _ _ F2 (cb_drop N2 fun p hp => .tail _ hp) hid2
      · have hst' : Txt.startswith md (y ++ Str.ofString ".") = false := by simpa using hst
        w_strict (walk_at "M steps")
        rename_i h2 F2 N2 t2' tk2
        exact ⟨_, _, _, _, rfl, F2, N2, off, rfl, rfl, rfl, rfl, by rw [hMS]; simp [hst']⟩
    case fin =>
      clear F N
      rintro m news h tk hP9 F N
      with_reducible refine hideG fun G kG => ?_
      obtain ⟨rfl, e1, e2, e3, hno⟩ := hP9 <;> (with_reducible refine kG ?_; clear kG G)
      dsimp only [attrs] at N
      have F := Fr.known3 F e1 e2 e3
      w_strict (walk_at "M steps")
      have hni : NoIter [(di, od), (x, instObj 100 dx), (dx, dictOf (attrs w sm D di t1 t2 t3) n)] := by
        intro p hp
        simp only [List.mem_cons, List.not_mem_nil, or_false] at hp
        rcases hp with rfl | rfl | rfl
        · obtain ⟨es, ep, hx, hdta, _⟩ := hid
          rintro ⟨_, vs, e⟩
          rw [hdta] at e; cases e
        · rintro ⟨_, vs, e⟩; cases e
        · rintro ⟨_, vs, e⟩; cases e
      refine for_frame rfl (fun i m news => news = [(di, od), (x, instObj 100 dx), (dx, dictOf (attrs w sm D di t1 t2 t3) n)] ∧ m (Str.ofString "self") = some (.ref x) ∧ m (Str.ofString "filename") = some (.str f t) ∧ m (Str.ofString "modulename") = some (.str md t') ∧ (ps.take i).any (fun y => Txt.startswith f (y ++ Str.ofString "/")) = false) F N ⟨_, hD, rfl, _, rfl⟩ hni ⟨rfl, rfl, rfl, rfl, rfl⟩ ?turn ?done
      case turn =>
        clear F N
        rintro i v m news h tk I oI hvi hP9 F N hI off
        with_reducible refine hideG fun G kG => ?_
        obtain ⟨rfl, e1, e2, e3, hno2⟩ := hP9 <;> (with_reducible refine kG ?_; clear kG G)
        obtain ⟨y, ty, rfl, hy⟩ := hys.item i v hvi
        have hyl : y.length ≤ 100 := hpl y (List.mem_of_getElem? hy)
        have o1 : @Ne Nat di I := off _ (.head _)
        have o2 : @Ne Nat x I := off _ (.tail _ (.head _))
        have o3 : @Ne Nat dx I := off _ (.tail _ (.tail _ (.head _)))
        have F := Fr.known3 F e1 e2 e3
        dsimp only [attrs] at N
        by_cases hst : Txt.startswith f (y ++ Str.ofString "/") = true
        · have hh : hit MS ps f md = true := by
            have : ps.any (fun y => Txt.startswith f (y ++ Str.ofString "/")) = true := List.any_eq_true.mpr ⟨y, List.mem_of_getElem? hy, hst⟩
            simp only [hit, this, Bool.or_true]
          rw [hh] at hR
          w_strict (walk_at "M steps")
          walk_at "M end"
          rename_i F2 N2 hid2
          exact hR _ _ _ _ _ _ _ F2 (cb_drop N2 fun p hp => .tail _ hp) hid2
        · have hst' : Txt.startswith f (y ++ Str.ofString "/") = false := by simpa using hst
          w_strict (walk_at "M steps")
          rename_i h2 F2 N2 t2' tk2
          refine ⟨_, _, _, _, oI, rfl, F2, N2, hI, hni, rfl, rfl, rfl, rfl, ?_⟩
          rw [List.take_add_one, hy, List.any_append, hno2]
          simp [hst']
      case done =>
        clear F N
        rintro m news h tk hP9 F N
        with_reducible refine hideG fun G kG => ?_
        obtain ⟨rfl, e1, e2, e3, hno2⟩ := hP9 <;> (with_reducible refine kG ?_; clear kG G)
        have F := Fr.known3 F e1 e2 e3
        dsimp only [attrs] at N
        rw [hys.len_eq, List.take_length] at hno2
        have hh : hit MS ps f md = false := by simp only [hit, hmd', hno, hno2, Bool.or_false]
        rw [hh] at hR
        w_strict (walk_at "M steps")
        walk_at "M end"
        rename_i F2 N2 hid2
        exact hR _ _ _ _ _ _ _ F2 N2 hid2
end
section
set_option maxRecDepth 100000
set_option maxHeartbeats 1000000
noncomputable def menuM : List (List (List Str)) := [[], [[Str.ofString "x"]], [[Str.ofString "a"]], [[Str.ofString "", Str.ofString "c"]]]
noncomputable def menuP : List (List (List Str)) := [[[Str.ofString "a"]], [[Str.ofString "a"], [Str.ofString "b"]], [[Str.ofString "a"], [Str.ofString "a", Str.ofString "b"]], [[Str.ofString "a"], [Str.ofString "a-"]]]
noncomputable def dots (MD : List (List Str)) : List Str := MD.map (Txt.join (Str.ofString "."))
noncomputable def slashes (PL : List (List Str)) : List Str := PL.map (Txt.join (Str.ofString "/"))
theorem fact_m : (allF.all fun f => menuM.all fun MD => (decide (f.mod ∈ dots MD) || (dots MD).any (fun y => Txt.startswith f.mod (y ++ Str.ofString "."))) == listedB f.pieces MD) = true := by decide +kernel
theorem fact_p : (allF.all fun g => menuP.all fun PL => (slashes PL).any (fun y => Txt.startswith g.text (y ++ Str.ofString "/")) == listedB g.folders PL) = true := by decide +kernel
theorem fact_s : (allF.all fun f => Txt.split f.mod (Str.ofString ".") == f.pieces) = true := by decide +kernel
theorem hit_ans {MD PL : List (List Str)} {f g : FD} (hM : MD ∈ menuM) (hP : PL ∈ menuP) (hf : f ∈ allF) (hg : g ∈ allF) : hit (dots MD) (slashes PL) g.text f.mod = (listedB f.pieces MD || listedB g.folders PL) := by
  have a := beq_iff_eq.mp (List.all_eq_true.mp (all_of fact_m hf) _ hM)
  have b := beq_iff_eq.mp (List.all_eq_true.mp (all_of fact_p hg) _ hP)
  rw [hit, a, b]
theorem mod_inj {f g : FD} (hf : f ∈ allF) (hg : g ∈ allF) : f.mod = g.mod ↔ f.pieces = g.pieces := by
  have a := beq_iff_eq.mp (all_of fact_s hf)
  have b := beq_iff_eq.mp (all_of fact_s hg)
  exact ⟨fun e => by rw [← a, ← b, e], fun e => by rw [FD.mod, FD.mod, e]⟩
end
section
set_option maxRecDepth 100000
set_option maxHeartbeats 1000000
section
variable {prog : Program} {w : World} {mean : ExcName → Option Value} {mg mb : Str → Option Value} {s : Shared}
/-- a call of a def that may change some ledger entries: what stands around is as it was -/
theorem around {g : Heap} {C : Addr} {mC : Str → Option Value} {pre mt : List (Addr × Obj)} (F : Fr g C s.heap mC) (N : News g C s.heap (pre ++ mt)) (off : ∀ p ∈ pre, ∀ q ∈ mt, p.1 ≠ q.1) :
    ∃ g', Ext g g' ∧ Ext g' s.heap ∧ g'.objs.size ≤ s.heap.objs.size ∧ (∀ p ∈ mt, s.heap.get? p.1 = some p.2 ∧ g'.get? p.1 = none) ∧
      ∀ h' L m mt', Fr g' L h' m → News g' L h' mt' → mt'.map (·.1) = mt.map (·.1) → Fr g C h' mC ∧ News g C h' (pre ++ mt') := by
  have nm : ∀ b o, g.get? b = some o → b ∉ mt.map (·.1) := fun b o e q => by
    obtain ⟨p, hp, rfl⟩ := List.mem_map.mp q
    rw [(N p (List.mem_append_right _ hp)).2.2] at e; cases e
  have st : Ext g (hideAll s.heap (mt.map (·.1))) := fun b o e => hideAll_get _ (F.keep b o e) (nm b o e)
  with_reducible refine hideG fun G kG => ?_
  obtain ⟨oL, es, ep, hL, hLd, hLk, hLf⟩ := F.ns <;> (with_reducible refine kG ?_; clear kG G)
  have nL : C ∉ mt.map (·.1) := fun q => by
    obtain ⟨p, hp, e⟩ := List.mem_map.mp q
    exact (N p (List.mem_append_right _ hp)).2.1 e
  refine ⟨hideAll s.heap (mt.map (·.1)), st, fun b o e => of_hideAll _ e, Nat.le_of_eq (hideAll_size _ _), fun p hp => ⟨(N p (List.mem_append_right _ hp)).1, hideAll_none _ (List.mem_map_of_mem hp)⟩, ?_⟩
  intro h' L m mt' F' N' hmt
  refine ⟨⟨⟨oL, es, ep, F'.keep _ _ (hideAll_get _ hL nL), hLd, hLk, hLf⟩, fun b o e => F'.keep _ _ (st b o e), F.above⟩, fun p hp => ?_⟩
  rcases List.mem_append.mp hp with hp | hp
  · have q := N p (List.mem_append_left _ hp)
    refine ⟨F'.keep _ _ (hideAll_get _ q.1 fun z => ?_), q.2⟩
    obtain ⟨r, hr, e⟩ := List.mem_map.mp z
    exact off p hp r hr e.symm
  · have hx : p.1 ∈ mt.map (·.1) := hmt ▸ List.mem_map_of_mem hp
    obtain ⟨r, hr, e⟩ := List.mem_map.mp hx
    have q := N r (List.mem_append_right _ hr)
    rw [e] at q
    exact ⟨(N' p hp).1, q.2⟩
noncomputable abbrev rl (w : World) (di x dx sm D : Addr) (od : Obj) (t1 t2 t3 : Tok) (n : Nat) : List (Addr × Obj) := [(di, od), (x, instObj 100 dx), (dx, dictOf (attrs w sm D di t1 t2 t3) n)]
theorem names_use {Q E : Value → Shared → Prop} {g : Heap} {C : Addr} {mC : Str → Option Value} {pre : List (Addr × Obj)} {x dx di sm D : Addr} {od so : Obj} {kvs : List (Str × Value)} {f md : Str} {t t' t1 t2 t3 : Tok} {n k : Nat} {ys : List Value} {MS ps : List Str}
   (F : Fr g C s.heap mC) (N : News g C s.heap (pre ++ rl w di x dx sm D od t1 t2 t3 n)) (off : ∀ p ∈ pre, ∀ q ∈ rl w di x dx sm D od t1 t2 t3 n, p.1 ≠ q.1)
   (X : (hd.heap_39 w.params).In g) (T : Top hd.view_39 (looseW hd.view_39 []) mean mg mb g)
   (n1 : @Ne Nat di x) (n2 : @Ne Nat di dx) (hds : (di == sysModules) = false) (hid : od.IsDictOf (PySem.strKind prog w) kvs) (hz : kvs.length ≤ 1000) (hint : ∀ v, valueAt kvs md = some v → ∃ c t, v = .int c t)
   (hso : g.get? sm = some so) (hP : SetP w so MS) (hD : g.get? D = some (listOf ys.toArray k)) (hys : StrsAre ys ps) (hps : ps.length ≤ 100) (hMl : ∀ y ∈ MS, y.length ≤ 100) (hpl : ∀ y ∈ ps, y.length ≤ 100)
   (hk : ∀ c t5 od' kvs' h' tk, Fr g C h' mC → News g C h' (pre ++ rl w di x dx sm D od' t1 t2 t3 n) → od'.IsDictOf (PySem.strKind prog w) kvs' →
      ((valueAt kvs md = some (.int c t5) ∧ kvs' = kvs) ∨ (valueAt kvs md = none ∧ c = (if hit MS ps f md = true then 1 else 0) ∧ ∃ t4, kvs' = stored kvs md (.int c t4))) → Q (.int c t5) { s with heap := h', toks := tk }) :
   wpAny (model prog w) (AA 650 650) (call (.ref 97) [.ref x, .str f t, .str md t']) Q E s := by
  with_reducible refine hideG fun G kG => ?_
  obtain ⟨g', e1, e2, e3, e4, e5⟩ := around F N off <;> (with_reducible refine kG ?_; clear kG G)
  refine wpAny_call ?_
  cases hv : valueAt kvs md with
  | some v =>
    obtain ⟨c, tc, rfl⟩ := hint v hv
    refine names_old (X.keeps e1) (T.keeps e1) e2 e3 e4 hds hid hv fun h' tk L m F' N' => ?_
    obtain ⟨F2, N2⟩ := e5 h' L m _ F' N' rfl
    exact hk c tc od kvs h' tk F2 N2 hid (.inl ⟨hv, rfl⟩)
  | none =>
    refine names_new (X.keeps e1) (T.keeps e1) e2 e3 e4 n1 n2 hds hid hz hv (e1 _ _ hso) hP (e1 _ _ hD) hys hps hMl hpl fun h' tk L m od' t4 t5 F' N' hid' => ?_
    obtain ⟨F2, N2⟩ := e5 h' L m _ F' N' rfl
    exact hk _ t5 od' _ h' tk F2 N2 hid' (.inr ⟨hv, rfl, t4, rfl⟩)
end
end
section
set_option maxRecDepth 100000
set_option maxHeartbeats 1000000
noncomputable def first (gs : List FD) (f : FD) : FD := (gs.find? fun g => decide (g.mod = f.mod)).getD f
noncomputable def bit (MD PL : List (List Str)) (f g : FD) : Int := if (listedB f.pieces MD || listedB g.folders PL) = true then 1 else 0
theorem bit_or (MD PL : List (List Str)) (f g : FD) : (bit MD PL f g = 1 ∧ ans MD PL f g = Str.ofString "1") ∨ (bit MD PL f g = 0 ∧ ans MD PL f g = Str.ofString "0") := by
  unfold bit ans
  by_cases h : (listedB f.pieces MD || listedB g.folders PL) = true
  · rw [if_pos h, if_pos h]; exact .inl ⟨rfl, rfl⟩
  · rw [if_neg h, if_neg h]; exact .inr ⟨rfl, rfl⟩
noncomputable def Memo (MD PL : List (List Str)) (gs : List FD) (kvs : List (Str × Value)) : Prop :=
  ∀ f ∈ allF, (gs.find? (fun g => decide (g.mod = f.mod)) = none ∧ valueAt kvs f.mod = none) ∨ ∃ g t, gs.find? (fun g => decide (g.mod = f.mod)) = some g ∧ valueAt kvs f.mod = some (.int (bit MD PL f g) t)
theorem fact_n : (allF.all fun f => decide (Str.ofString "<string>" ≠ f.mod)) = true := by decide +kernel
theorem memo_nil {MD PL : List (List Str)} {v : Value} : Memo MD PL [] [(Str.ofString "<string>", v)] := by
  intro f hf
  refine .inl ⟨rfl, ?_⟩
  have := of_decide_eq_true (all_of fact_n hf)
  simp [valueAt, this]
theorem find_snoc (gs : List FD) (f0 f : FD) : (gs ++ [f0]).find? (fun g => decide (g.mod = f.mod)) = (gs.find? fun g => decide (g.mod = f.mod)).or (if f0.mod = f.mod then some f0 else none) := by
  rw [List.find?_append]
  by_cases h : f0.mod = f.mod
  · simp [h]
  · simp [h]
theorem find_same {gs : List FD} {f f' : FD} (h : f.mod = f'.mod) : gs.find? (fun g => decide (g.mod = f.mod)) = gs.find? (fun g => decide (g.mod = f'.mod)) := by rw [h]
theorem valueAt_stored {kvs : List (Str × Value)} {k k' : Str} {v : Value} (hn : valueAt kvs k = none) : valueAt (stored kvs k v) k' = if k = k' then some v else valueAt kvs k' := by
  have ha : kvs.any (fun kv => decide (kv.1 = k)) = false := by
    rw [← valueAt_isSome_eq_any, hn]; rfl
  unfold stored
  rw [if_neg (by rw [ha]; decide)]
  by_cases h : k = k'
  · subst h
    rw [if_pos rfl]
    unfold valueAt at hn ⊢
    rw [Option.map_eq_none_iff] at hn
    rw [List.find?_append, hn]
    simp
  · rw [if_neg h]
    unfold valueAt
    rw [List.find?_append]
    simp [h]
theorem memo_old {MD PL : List (List Str)} {gs : List FD} {kvs : List (Str × Value)} {f0 : FD} {v : Value} (hM : Memo MD PL gs kvs) (hv : valueAt kvs f0.mod = some v) : Memo MD PL (gs ++ [f0]) kvs := by
  intro f hf
  rw [find_snoc]
  rcases hM f hf with ⟨a, b⟩ | ⟨g, t, a, b⟩
  · by_cases h : f0.mod = f.mod
    · rw [h, b] at hv; cases hv
    · rw [a, if_neg h]; exact .inl ⟨rfl, b⟩
  · rw [a]; exact .inr ⟨g, t, rfl, b⟩
theorem memo_new {MD PL : List (List Str)} {gs : List FD} {kvs : List (Str × Value)} {f0 : FD} {t : Tok} (h0 : f0 ∈ allF) (hM : Memo MD PL gs kvs) (hv : valueAt kvs f0.mod = none) : Memo MD PL (gs ++ [f0]) (stored kvs f0.mod (.int (bit MD PL f0 f0) t)) := by
  intro f hf
  rw [find_snoc, valueAt_stored hv]
  by_cases h : f0.mod = f.mod
  · rw [if_pos h, if_pos h]
    rcases hM f hf with ⟨a, b⟩ | ⟨g, t', a, b⟩
    · rw [a]
      refine .inr ⟨f0, t, rfl, ?_⟩
      have := (mod_inj h0 hf).mp h
      unfold bit
      rw [this]
    · rw [← h, hv] at b; cases b
  · rw [if_neg h, if_neg h, Option.or_none]
    exact hM f hf
/-- what the memo has of the file at place i is what the first of its name has -/
theorem memo_get {MD PL : List (List Str)} {gs : List FD} {kvs : List (Str × Value)} {i : Nat} {f0 : FD} {c : Int} {t : Tok} (h0 : f0 ∈ allF) (hM : Memo MD PL (gs.take i) kvs) (hv : valueAt kvs f0.mod = some (.int c t)) : c = bit MD PL f0 (first gs f0) := by
  rcases hM f0 h0 with ⟨a, b⟩ | ⟨g, t', a, b⟩
  · rw [hv] at b; cases b
  · rw [hv] at b
    cases b
    have : gs.find? (fun g => decide (g.mod = f0.mod)) = some g := by
      rw [← List.take_append_drop i gs, List.find?_append, a]; rfl
    rw [first, this]; rfl
theorem memo_here {MD PL : List (List Str)} {gs : List FD} {kvs : List (Str × Value)} {i : Nat} {f0 : FD} (h0 : f0 ∈ allF) (hi : gs[i]? = some f0) (hM : Memo MD PL (gs.take i) kvs) (hv : valueAt kvs f0.mod = none) : first gs f0 = f0 := by
  rcases hM f0 h0 with ⟨a, b⟩ | ⟨g, t', a, b⟩
  · have hd : gs.drop i = f0 :: gs.drop (i + 1) := by
      obtain ⟨hl, e⟩ := List.getElem?_eq_some_iff.mp hi
      rw [List.drop_eq_getElem_cons hl, e]
    have : gs.find? (fun g => decide (g.mod = f0.mod)) = some f0 := by
      rw [← List.take_append_drop i gs, List.find?_append, a, hd]; simp
    rw [first, this]; rfl
  · rw [hv] at b; cases b
theorem find_pw {R : FD → FD → Prop} {P : FD → Bool} : ∀ {gs : List FD}, gs.Pairwise R → ∀ {g k : FD}, g ∈ gs → P g = true → gs.find? P = some k → g = k ∨ R k g
  | [], _, g, k, hg, _, _ => nomatch hg
  | x :: r, hp, g, k, hg, hP, hk => by
    rw [List.find?_cons] at hk
    by_cases hx : P x = true
    · rw [hx] at hk
      cases hk
      rcases List.mem_cons.mp hg with rfl | hg
      · exact .inl rfl
      · exact .inr ((List.pairwise_cons.mp hp).1 g hg)
    · have hx' : P x = false := by simpa using hx
      rw [hx'] at hk
      rcases List.mem_cons.mp hg with rfl | hg
      · exact absurd hP hx
      · exact find_pw (List.pairwise_cons.mp hp).2 hg hP hk
theorem first_in {gs : List FD} {f : FD} (hf : f ∈ gs) : ∃ k, gs.find? (fun g => decide (g.mod = f.mod)) = some k ∧ first gs f = k ∧ k ∈ gs ∧ k.mod = f.mod := by
  cases h : gs.find? (fun g => decide (g.mod = f.mod)) with
  | none =>
    have := List.find?_eq_none.mp h f hf
    simp at this
  | some k =>
    refine ⟨k, rfl, by rw [first, h]; rfl, List.mem_of_find?_eq_some h, ?_⟩
    have := List.find?_some h
    exact of_decide_eq_true this
theorem spk_first {gs : List FD} {e : Int} {f g : FD} (hall : ∀ f ∈ gs, f ∈ allF) (he : (e = 0 ∧ gs.Pairwise fun f g => slt f.text g.text) ∨ (e = -1 ∧ gs.Pairwise fun f g => slt g.text f.text)) (hf : f ∈ gs) (h : Spk e gs f g) : g = first gs f := by
  obtain ⟨hg, hgp, hmin⟩ := h
  with_reducible refine hideG fun G kG => ?_
  obtain ⟨k, hk, e1, hkg, hkm⟩ := first_in hf <;> (with_reducible refine kG ?_; clear kG G)
  rw [e1]
  have hgm : g.mod = f.mod := (mod_inj (hall g hg) (hall f hf)).mpr hgp
  have hkp := (mod_inj (hall k hkg) (hall f hf)).mp hkm
  have hm := hmin k hkg hkp
  rcases he with ⟨rfl, pw⟩ | ⟨rfl, pw⟩
  · rw [if_pos rfl] at hm
    exact (find_pw pw hg (decide_eq_true hgm) hk).resolve_right hm
  · rw [if_neg (by decide)] at hm
    exact (find_pw pw hg (decide_eq_true hgm) hk).resolve_right hm
/-- told is due -/
theorem told_due {gs : List FD} {e : Int} {MD PL : List (List Str)} {us : List Str} (hall : ∀ f ∈ gs, f ∈ allF) (he : (e = 0 ∧ gs.Pairwise fun f g => slt f.text g.text) ∨ (e = -1 ∧ gs.Pairwise fun f g => slt g.text f.text))
    (hl : us.length = gs.length) (hu : ∀ (j : Nat) (f : FD) (u : Str), gs[j]? = some f → us[j]? = some u → ∃ g, Spk e gs f g ∧ u = ans MD PL f g) : us = gs.map fun f => ans MD PL f (first gs f) := by
  refine List.ext_getElem (by rw [hl, List.length_map]) fun j h1 h2 => ?_
  rw [List.getElem_map]
  have h3 : j < gs.length := by rw [List.length_map] at h2; exact h2
  obtain ⟨g, hs, hu⟩ := hu j gs[j] us[j] (List.getElem?_eq_getElem h3) (List.getElem?_eq_getElem h1)
  rw [hu, spk_first hall he (List.getElem_mem h3) hs]
theorem rise_inj {gs : List FD} (hr : Rise gs) : ∀ f ∈ gs, ∀ g ∈ gs, f.text = g.text → f = g := by
  intro f hf g hg e
  obtain ⟨i, hi, rfl⟩ := List.getElem_of_mem hf
  obtain ⟨j, hj, rfl⟩ := List.getElem_of_mem hg
  have pw := List.pairwise_iff_getElem.mp hr
  rcases Nat.lt_trichotomy i j with h | h | h
  · have := pw i j hi hj h
    rw [e] at this
    exact absurd this (slt_irrefl _)
  · subst h; rfl
  · have := pw j i hj hi h
    rw [e] at this
    exact absurd this (slt_irrefl _)
end
section
set_option maxRecDepth 100000
set_option maxHeartbeats 1000000
theorem kw_F8w_0 : True := by
  k_with_none
  k_with "M enter" => (refine' enter0 ?kq_k3 ?kq_k5 ?kq_k6 ?kq_k7 ?kq_k8 ?kq_k9 ?kq_kB ?_ ?kq_c2 ?kq_c3 ?kq_c4 ?kq_c5; (case kq_k3 => assumption); (case kq_k5 => assumption); (case kq_k6 => k_is); (case kq_k7 => k_is); (case kq_k8 => decide); (case kq_k9 => exact BindsTo.of_eq rfl); (case kq_kB => exact locs rfl); (case kq_c2 => rfl); (case kq_c3 => rfl); (case kq_c4 => rfl); (case kq_c5 => decide); intro _ _ _ _; dsimp only; k_fold)
  k_with "M steps" => repeat' (first | (k_unfold; (try dsimp only)) | walk1 | (dsimp only; walk1))
  k_with "M end" => ((try dsimp only); (try k_unfold); (try dsimp only))
  k_with "ite" => first | (refine PySem.W.ite_pos (by assumption) ?_) | (refine PySem.W.ite_neg (by assumption) ?_) | (refine PySem.W.ite_neg (ne_true_of_eq_false (by assumption)) ?_)
  exact True.intro
theorem kfill_once12 : (fun (_ : OpenLaw) (_ : Params → Frag) => True) PySem.Challenge.rw_ny0070_01 hd.heap_39 := by k_fill; w_on; trivial
variable {prog : Program} {w : World} {mean : ExcName → Option Value} {mg mb : Str → Option Value} {s : Shared}
theorem kw_F8w_1 : True := by
  k_with "M enterC" => (refine' enterC ?kq_k3 ?kq_k5 ?kq_k6 ?kq_k7 ?kq_k8 ?kq_k9 ?kq_kB ?kq_kD ?_ ?kq_c2 ?kq_c3 ?kq_c4; (case kq_k3 => assumption); (case kq_k5 => assumption); (case kq_k6 => k_is); (case kq_k7 => k_is); (case kq_k8 => decide); (case kq_k9 => exact BindsTo.of_eq rfl); (case kq_kB => rfl); (case kq_kD => decide +kernel); (case kq_c2 => rfl); (case kq_c3 => rfl); (case kq_c4 => rfl); intro _ _ _ _ _ _ Y'; k_cells Y'; (try dsimp only); (try k_unmd); k_fold)
  k_with "eval ListComp" => (k_dflt ((with_reducible refine' comp_open ?_ ?kq_hclos ?kq_hs ?kq_hkind ?kq_hnames); (case kq_hclos => rfl); (case kq_hs => intro _; rfl); (case kq_hkind => rfl); (case kq_hnames => decide)))
  k_with "eval Name" => (k_here; k_dflt (first
  | (refine' nameC_L ?kq_F ?kq_v ?_ ?kq_a ?kq_b ?kq_d; (case kq_F => k_asm); (case kq_a => rfl); (case kq_b => rfl); (case kq_d => decide); (case kq_v => rfl); k_whole)
  | (refine' nameC_C ?kq_F ?kq_c ?kq_o ?kq_d ?_ ?kq_a ?kq_b ?kq_e; (case kq_F => k_asm); (case kq_a => rfl); (case kq_b => rfl); (case kq_e => decide); (case kq_c => rfl); (case kq_o => with_reducible assumption); (case kq_d => with_reducible assumption); k_whole)
  | (refine' nameG_K ?kq_F ?kq_X ?kq_T ?kq_e ?_ ?kq_g ?kq_a ?kq_b ?kq_d; (case kq_g => rfl); (case kq_a => rfl); (case kq_b => rfl); (case kq_d => decide); (case kq_F => k_asm); (case kq_X => k_asm); (case kq_T => k_asm); (case kq_e => k_is); k_whole)
  | (refine' nameC_B ?kq_F ?kq_X ?kq_T ?kq_e ?kq_v ?kq_n ?_ ?kq_g ?kq_bb ?kq_a ?kq_b ?kq_d; (case kq_g => rfl); (case kq_bb => rfl); (case kq_a => rfl); (case kq_b => rfl); (case kq_d => decide); (case kq_F => k_asm); (case kq_X => k_asm); (case kq_T => k_asm); (case kq_e => k_is); (case kq_v => boot_fast); (case kq_n => decide); k_whole)))
  exact True.intro
theorem fact_len : ((menuM ++ menuP).all fun MD => decide (MD.length ≤ 2) && MD.all fun xs => decide ((xs.map (·.length)).sum + xs.length * 64 ≤ 16777216)) = true := by decide +kernel
theorem kw_F8w_2 : True := by
  k_with "call builtin:str.join" => (k_here; k_dflt (refine sl_join (base_list (by k_asm) (by with_reducible assumption)) (by with_reducible assumption) (by decide) (by with_reducible assumption) ?_); intro _ _)
  exact True.intro
theorem fact_dirs : (menuP.all fun PL => (slashes PL).all fun d => decide (d ∈ dirsL)) = true := by decide +kernel
theorem fact_dl : (menuP.all fun PL => decide (0 < PL.length) && (slashes PL).all fun d => decide (d.length ≤ 100)) = true := by decide +kernel
theorem fact_ml : (menuM.all fun MD => decide (MD.length ≤ 1) && (dots MD).all fun d => decide (d.length ≤ 100)) = true := by decide +kernel
theorem hidden {g : Heap} {C : Addr} {mC : Str → Option Value} {pre mt : List (Addr × Obj)} (F : Fr g C s.heap mC) (N : News g C s.heap (pre ++ mt)) (off : ∀ p ∈ pre, ∀ q ∈ mt, p.1 ≠ q.1) :
    ∃ g', Ext g g' ∧ Ext g' s.heap ∧ g'.objs.size ≤ s.heap.objs.size ∧ (∀ p ∈ mt, s.heap.get? p.1 = some p.2 ∧ g'.get? p.1 = none) ∧ (∀ p ∈ pre, g'.get? p.1 = some p.2) := by
  have nm : ∀ b o, g.get? b = some o → b ∉ mt.map (·.1) := fun b o e q => by
    obtain ⟨p, hp, rfl⟩ := List.mem_map.mp q
    rw [(N p (List.mem_append_right _ hp)).2.2] at e; cases e
  have st : Ext g (hideAll s.heap (mt.map (·.1))) := fun b o e => hideAll_get _ (F.keep b o e) (nm b o e)
  refine ⟨hideAll s.heap (mt.map (·.1)), st, fun b o e => of_hideAll _ e, Nat.le_of_eq (hideAll_size _ _), fun p hp => ⟨(N p (List.mem_append_right _ hp)).1, hideAll_none _ (List.mem_map_of_mem hp)⟩, fun p hp => ?_⟩
  refine hideAll_get _ (N p (List.mem_append_left _ hp)).1 fun z => ?_
  obtain ⟨r, hr, e⟩ := List.mem_map.mp z
  exact off p hp r hr e.symm
theorem ne_of_cls {h₀ h : Heap} {L : Addr} {news : List (Addr × Obj)} {p q : Addr × Obj} (N : News h₀ L h news) (hp : p ∈ news) (hq : q ∈ news) (hc : p.2.cls ≠ q.2.cls) : p.1 ≠ q.1 := fun e => by
  have a := (N p hp).1
  rw [e, (N q hq).1] at a
  exact hc (by rw [Option.some.inj a])
theorem setP_cls {so : Obj} {MS : List Str} (h : SetP w so MS) : so.cls = .type "set" := by
  match MS, h with
  | [], ⟨_, e⟩ => rw [e]
  | [_], ⟨_, e⟩ => rw [e]; rfl
noncomputable def ToldJ (prog : Program) (w : World) (gs : List FD) (MD PL : List (List Str)) (di x dx sm D : Addr) (t1 t2 t3 : Tok) (n : Nat) (i : Nat) (us : List Value) (mt : List (Addr × Obj)) : Prop :=
  ∃ od kvs, mt = rl w di x dx sm D od t1 t2 t3 n ∧ od.IsDictOf (PySem.strKind prog w) kvs ∧ kvs.length ≤ i + 1 ∧ Memo MD PL (gs.take i) kvs ∧ StrsAre us ((gs.take i).map fun f => ans MD PL f (first gs f)) ∧ us.length ≤ i
theorem kw_F8w_3 : True := by
  k_with "assign Tuple" => (k_here; (with_reducible show wpAny _ _ (assign (Expr.Tuple _ _ _) _ (Value.ref _)) _ _ _); k_dflt (refine' unpackN_ ?kq_k1 ?kq_k2 ?kq_k3 ?kq_k4 ?kq_k5 ?kq_k6 ?_; (case kq_k1 => k_asm); (case kq_k2 => k_asm); (case kq_k3 => exact base_tup (by k_asm) (by with_reducible assumption)); (case kq_k4 => exact rfl); (case kq_k5 => exact rfl); (case kq_k6 => exact rfl)); intro _ _ _; (try dsimp only))
  k_with "storeName" => (k_here; k_dflt (refine' storeC ?kq_F ?kq_N ?_ ?kq_a ?kq_b; (case kq_F => k_asm); (case kq_N => k_asm); (case kq_a => rfl); (case kq_b => rfl)); intro _ _ _)
  k_with "call ref" => (k_here; (with_reducible show wpAny _ _ (call (Value.ref 111) _) _ _ _); k_dflt (refine' use_back (modname_spec (by with_reducible assumption) ?kq_kx ?kq_kt) ?kq_kf ?kq_kn ?_; (case kq_kx => k_in); (case kq_kt => exact Top.keeps (by with_reducible assumption) (Fr.keep (by k_asm))); (case kq_kf => k_asm); (case kq_kn => k_asm); intro _ _ _ _ _ N' hne' e' hP'; obtain ⟨⟨_, hP1⟩, hP2⟩ := hP'; subst hP1; subst hP2; (simp only [List.nil_append] at N'); clear hne' e'; revert N'; intro _; (try dsimp only); (try k_fold)))
  exact True.intro
theorem told_spec {l dm dp : Addr} {vs ms qs : List Value} {gs : List FD} {MD PL : List (List Str)} {n1 n2 : Nat} (hl : s.heap.IsList l vs.toArray) (hf : FilesAt s.heap vs gs) (hlen : gs.length ≤ 50)
   (hdm : s.heap.get? dm = some (listOf ms.toArray n1)) (hms : LstsAt s.heap ms MD) (hdp : s.heap.get? dp = some (listOf qs.toArray n2)) (hqs : LstsAt s.heap qs PL) (hM : MD ∈ menuM) (hP : PL ∈ menuP)
   (X : (hd.heap_39 w.params).In s.heap) (T : Top hd.view_39 (looseW hd.view_39 []) mean mg mb s.heap) :
   codeAny (model prog w) (AA 590 590) (.call (.ref 149) ⟨[.ref l, .ref dm, .ref dp], []⟩) (Back s (fun v fr => ∃ a us n, v = .ref a ∧ fr = [(a, listOf us.toArray n)] ∧ StrsAre us (gs.map fun f => ans MD PL f (first gs f)))) s := by
  walk_at "M enterC"
  w_strict (walk_at "M steps")
  rename_i L h₁ tk F oC dC N
  have X' := X.keeps F.keep
  have T' := T.keeps F.keep
  have lM := List.all_eq_true.mp fact_len MD (List.mem_append_left _ hM)
  have lP := List.all_eq_true.mp fact_len PL (List.mem_append_right _ hP)
  rw [Bool.and_eq_true, decide_eq_true_eq, List.all_eq_true] at lM lP
  refine comp_pure F N ⟨_, F.keep _ _ hdm, rfl, _, rfl⟩ (by have := hms.length; omega) (fun i ys mt => mt = [] ∧ StrsAre ys (dots (MD.take i)) ∧ ys.length ≤ i) ⟨rfl, .nil, Nat.le_refl _⟩ (fun _ _ _ h => h.2.2) ?turn ?fin rfl (by decide) rfl
  case turn =>
    have hk₁ := F.keep
    clear X T F N
    rintro C D I oI k i v ys mC mt h tk hv ⟨rfl, hJ, hJl⟩ F N hoff hDI
    refine hms.out hv ?_
    intro a na ws xs e10 hxs ha0 hws
    subst e10
    have ha := hk₁ _ _ ha0
    have hok := of_decide_eq_true (lM.2 xs (List.mem_of_getElem? hxs))
    refine wpAny_assign_Name (storeC F N ?_ rfl rfl)
    clear F N
    intro h' F N
    refine tests_nil ?_
    rw [if_pos rfl]
    w_strict (walk_at "M steps")
    refine ⟨_, _, _, [], rfl, by with_reducible assumption, by with_reducible assumption, (fun _ h => nomatch h), rfl, ?_, by simp; omega⟩
    rw [List.take_add_one, hxs, dots, List.map_append]
    exact StrsAre.append hJ (.cons _ _ .nil)
  case fin =>
    have hne1 := fun D (hD : h₁.get? D = none) => news_ne N hD
    clear F N
    rintro D1 k1 ys1 mt h2 tk2 ⟨rfl, hJ1, hJl1⟩ F N hext1 hD1 hmt
    replace hne1 := hne1 D1 hD1
    clear hmt
    rw [hms.length, List.take_length] at hJ1
    simp only [List.nil_append] at N
    w_strict (walk_at "M steps")
    refine comp_pure F N ⟨_, F.keep _ _ hdp, rfl, _, rfl⟩ (by have := hqs.length; omega) (fun i ys mt => mt = [] ∧ StrsAre ys (slashes (PL.take i)) ∧ ys.length ≤ i) ⟨rfl, .nil, Nat.le_refl _⟩ (fun _ _ _ h => h.2.2) ?turn ?fin rfl (by decide) rfl
    case turn =>
      have hk₁ := F.keep
      have X2 := X.keeps F.keep
      have T2 := T.keeps F.keep
      clear X T F N X' T'
      rintro C D I oI k i v ys mC mt h tk hv ⟨rfl, hJ, hJl⟩ F N hoff hDI
      refine hqs.out hv ?_
      intro a na ws xs e10 hxs ha0 hws
      subst e10
      have ha := hk₁ _ _ ha0
      have hok := of_decide_eq_true (lP.2 xs (List.mem_of_getElem? hxs))
      refine wpAny_assign_Name (storeC F N ?_ rfl rfl)
      clear F N
      intro h' F N
      refine tests_nil ?_
      rw [if_pos rfl]
      w_strict (walk_at "M steps")
      refine ⟨_, _, _, [], rfl, by with_reducible assumption, by with_reducible assumption, (fun _ h => nomatch h), rfl, ?_, by simp; omega⟩
      rw [List.take_add_one, hxs, slashes, List.map_append]
      exact StrsAre.append hJ (.cons _ _ .nil)
    case fin =>
      have N2' := N
      clear F N
      rintro D2 k2 ys2 mt h3 tk3 ⟨rfl, hJ2, hJl2⟩ F N hext2 hD2 hmt
      clear hmt
      rw [hqs.length, List.take_length] at hJ2
      simp only [List.nil_append] at N
      have dM := List.all_eq_true.mp fact_ml MD hM
      have dP := List.all_eq_true.mp fact_dl PL hP
      have dD := List.all_eq_true.mp fact_dirs PL hP
      rw [Bool.and_eq_true, decide_eq_true_eq, List.all_eq_true] at dM dP
      rw [List.all_eq_true] at dD
      w_strict (walk_at "M steps")
      have ne1 := neN (hne1 _ (.head _))
      have ne2 := neN (news_ne N2' hD2 _ (.tail _ (.head _)))
      refine use_back (reader_spec (X.keeps F.keep) (T.keeps F.keep) (N _ (.tail _ (.head _))).1 hJ1 (by rw [dots, List.length_map]; exact dM.1) (N _ (.head _)).1 hJ2 (fun p hp => of_decide_eq_true (dD p hp)) (by rw [slashes, List.length_map]; exact dP.1) (by rw [slashes, List.length_map]; omega)) F N ?_
      rintro v fr h4 tk4 F4 N4 hne4 e4 hP9
      with_reducible refine hideG fun G kG => ?_
      obtain ⟨x, dx, rfl, di, D, sm, so, od, ys, k, n, t, t1, t2, t3, rfl, hSP, hYS, hds, hid, m1, m2, m3, m4⟩ := hP9 <;> (with_reducible refine kG ?_; clear kG G)
      clear F N N2'
      simp only [List.cons_append, List.nil_append] at N4
      have c1 := neN (hne4 _ (.head _) _ (.tail _ (.tail _ (.head _))))
      have c2 := neN (hne4 _ (.tail _ (.head _)) _ (.tail _ (.tail _ (.head _))))
      have c3 := neN (hne4 _ (.tail _ (.tail _ (.head _))) _ (.tail _ (.tail _ (.head _))))
      have c4 := neN (hne4 _ (.tail _ (.tail _ (.tail _ (.head _)))) _ (.tail _ (.tail _ (.head _))))
      have c5 := neN (hne4 _ (.tail _ (.tail _ (.tail _ (.tail _ (.head _))))) _ (.tail _ (.tail _ (.head _))))
      dsimp only at c1 c2 c3 c4 c5 ne1 ne2
      replace dC : oC.data = .cell none := dC
      clear hne4 hext1 hext2 hD1 hD2 hne1
      w_strict (walk_at "M steps")
      rename_i h5 oC5 F N dC5
      have q1 : @Ne Nat D x := ne_of_cls (p := (D, listOf ys.toArray k)) (q := (x, instObj 100 dx)) N (by k_mem) (by k_mem) (fun h => nomatch h)
      have q2 : @Ne Nat D dx := ne_of_cls (p := (D, listOf ys.toArray k)) (q := (dx, dictOf (attrs w sm D di t1 t2 t3) n)) N (by k_mem) (by k_mem) (fun h => absurd (Value.type.inj h) (by decide))
      have q3 : @Ne Nat sm x := ne_of_cls (p := (sm, so)) (q := (x, instObj 100 dx)) N (by k_mem) (by k_mem) (fun h => nomatch (setP_cls hSP).symm.trans h)
      have q4 : @Ne Nat sm dx := ne_of_cls (p := (sm, so)) (q := (dx, dictOf (attrs w sm D di t1 t2 t3) n)) N (by k_mem) (by k_mem) (fun h => absurd (Value.type.inj ((setP_cls hSP).symm.trans h)) (by decide))
      obtain ⟨g', g1, g2, g3, g4, g5⟩ := hidden (s := { s with heap := h5, toks := tk }) (pre := [(L + 1, oC5), (D, listOf ys.toArray k), (sm, so)]) (mt := rl w di x dx sm D od t1 t2 t3 n) F (cb_drop N (fun p hp => by
        simp only [List.cons_append, List.nil_append, List.mem_cons, List.not_mem_nil, or_false] at hp ⊢
        rcases hp with h | h | h | h | h | h <;> simp [h])) (by
        simp only [List.forall_mem_cons]
        exact ⟨⟨c1, c4, c5, fun _ h => nomatch h⟩, ⟨Ne.symm m1, q1, q2, fun _ h => nomatch h⟩, ⟨Ne.symm m2, q3, q4, fun _ h => nomatch h⟩, fun _ h => nomatch h⟩)
      have hls : g'.IsList l vs.toArray := hl.at fun o e => g1 l o e
      have hf' := hf.mono g1
      have hvl := hf.length
      have X5 := X.keeps g1
      have T5 := T.keeps g1
      have gC := g5 _ (.head _)
      have gD := g5 _ (.tail _ (.head _))
      have gS := g5 _ (.tail _ (.tail _ (.head _)))
      dsimp only at gC gD gS
      clear X T X' T'
      have hps : (slashes PL).length ≤ 100 := by rw [slashes, List.length_map]; omega
      have hMl : ∀ y ∈ dots MD, y.length ≤ 100 := fun y hy => of_decide_eq_true (dM.2 y hy)
      have hpl : ∀ y ∈ slashes PL, y.length ≤ 100 := fun y hy => of_decide_eq_true (dP.2 y hy)
      refine comp_core (g := g') (mt₀ := rl w di x dx sm D od t1 t2 t3 n) rfl (by omega) (by decide) rfl g2 g3 g4 hls (ToldJ prog w gs MD PL di x dx sm D t1 t2 t3 n) ?h0 ?hlen ?turn ?done
      case h0 => exact ⟨od, _, rfl, hid, by simp, memo_nil, .nil, Nat.le_refl _⟩
      case hlen => rintro i us mt ⟨_, _, _, _, _, _, _, h⟩; exact h
      case turn =>
        clear F N g2 g3 g4 g5 hid
        rintro C D' I oI kk i v us mC mt h tk' hv hP9 F N hoff hDI
        with_reducible refine hideG fun G kG => ?_
        obtain ⟨od', kvs, rfl, hid', hkl, hmem, hus, hul⟩ := hP9 <;> (with_reducible refine kG ?_; clear kG G)
        refine hf'.out hv ?_
        intro f hfi hfm a tt b fvs c pus e10 e2 e3 e4' e5 e6
        subst e10
        have hoff' : ∀ p ∈ [(D', listOf us.toArray kk), (I, oI)], ∀ q ∈ rl w di x dx sm D od' t1 t2 t3 n, p.1 ≠ q.1 := by
          intro p hp q hq
          rcases List.mem_cons.mp hp with rfl | hp
          · exact Ne.symm (hoff q hq).1
          · rw [List.mem_singleton.mp hp]; exact Ne.symm (hoff q hq).2
        have hilen : i < 50 := by have := (List.getElem?_eq_some_iff.mp hfi).1; omega
        have hz9 : kvs.length ≤ 1000 := by omega
        have hint : ∀ v, valueAt kvs f.mod = some v → ∃ c t, v = .int c t := by
          intro v hv
          rcases hmem f hfm with ⟨_, b⟩ | ⟨g, t, _, b⟩
          · rw [hv] at b; cases b
          · rw [hv] at b; cases b; exact ⟨_, _, rfl⟩
        dsimp only [rl, attrs] at N
        w_strict (walk_at "M steps")
        rename_i F2 t5 N2
        refine wpAny_weak (names_use (pre := [(D', listOf us.toArray kk), (I, oI)]) F2 N2 hoff' X5 T5 m3 m4 hds hid' hz9 hint gS hSP gD hYS hps hMl hpl ?_)
        intro c6 t6 od6 kvs6 h6 tk6 F6 N6 hid6 hc6
        have htk : gs.take (i + 1) = gs.take i ++ [f] := by rw [List.take_add_one, hfi]; rfl
        have key : Memo MD PL (gs.take (i + 1)) kvs6 ∧ kvs6.length ≤ i + 1 + 1 ∧ c6 = bit MD PL f (first gs f) := by
          rw [htk]
          rcases hc6 with ⟨hv6, rfl⟩ | ⟨hv6, hc6, t4, rfl⟩
          · exact ⟨memo_old hmem hv6, by omega, memo_get hfm hmem hv6⟩
          · have hb : c6 = bit MD PL f f := by rw [hc6, hit_ans hM hP hfm hfm]; rfl
            rw [hb]
            refine ⟨memo_new hfm hmem hv6, Nat.le_trans (stored_length_le _ _ _) (by omega), ?_⟩
            rw [memo_here hfm hfi hmem hv6]
        clear hc6 hid' F N F2 N2
        obtain ⟨k6a, k6b, k6c⟩ := key
        have us6 : ∀ u tu, u = ans MD PL f (first gs f) → StrsAre (us ++ [.str u tu]) ((gs.take (i + 1)).map fun f => ans MD PL f (first gs f)) := by
          intro u tu hu
          rw [htk, List.map_append, hu]
          exact StrsAre.append hus (.cons _ _ .nil)
        have hoff6 : ∀ p ∈ rl w di x dx sm D od6 t1 t2 t3 n, p.1 ≠ D' ∧ p.1 ≠ I := by
          simp only [List.forall_mem_cons] at hoff ⊢
          exact hoff
        rcases bit_or MD PL f (first gs f) with ⟨hb, ha⟩ | ⟨hb, ha⟩
        · rw [hb] at k6c
          subst k6c
          w_strict (walk_at "M steps")
          walk_at "M end"
          exact ⟨_, _, _, _, rfl, F6, N6, hoff6, od6, kvs6, rfl, hid6, k6b, k6a, us6 _ _ ha.symm, by simp; omega⟩
        · rw [hb] at k6c
          subst k6c
          w_strict (walk_at "M steps")
          walk_at "M end"
          exact ⟨_, _, _, _, rfl, F6, N6, hoff6, od6, kvs6, rfl, hid6, k6b, k6a, us6 _ _ ha.symm, by simp; omega⟩
      case done =>
        clear F N
        rintro C D' kk us mC mt h tk' hP9 hns hext hCD hD' hC hDo hmt
        with_reducible refine hideG fun G kG => ?_
        obtain ⟨od', kvs, rfl, hid', hkl, hmem, hus, hul⟩ := hP9 <;> (with_reducible refine kG ?_; clear kG G)
        refine ⟨mC, hns, fun h' hs' => ?_⟩
        have e' : Ext g' h' := fun b o e => hs'.extBut b o (by rintro rfl; exact absurd ((g2 _ _ e).symm.trans hC) (by simp)) (hext b o e)
        walk_at "M end"
        rw [hvl, List.take_length] at hus
        refine ⟨.ref D', [(D', listOf us.toArray kk)], h', _, rfl, rfl, g1.trans e', fun p hp => ?_, D', us, kk, rfl, rfl, hus⟩
        rw [List.mem_singleton.mp hp]
        refine ⟨hs'.extBut _ _ (Ne.symm hCD) hDo, ?_⟩
        cases q : s.heap.get? D' with
        | none => rfl
        | some o => exact absurd ((g2 _ _ (g1 _ _ q)).symm.trans hD') (by simp)
end
section
set_option maxRecDepth 100000
set_option maxHeartbeats 1000000
section
variable {prog : Program} {w : World} {A : Around} {s : Shared} {env : Env}
/-- y = [.. for ..], opened -/
theorem comp_assign {E : Value → Shared → Prop} {Q : Flow → Shared → Prop} {elt target iter : Expr} {ifs : List Expr} {scope : Scope} {cl : List (Str × Addr)} {pos spos py : Pos} {y : Str}
    (h : wpAny (model prog w) A (eval iter env) (fun x s₁ => wpAny (model prog w) A (pyIter x) (fun it s₂ => wpAny (model prog w) A (newList []) (fun acc s₃ =>
      wpAny (model prog w) A (newFunctionEnv scope env.globals cl [] env.qual none .none (some env)) (fun cenv s₄ =>
        codeAny (model prog w) A (.compStart (.ListComp elt [⟨target, iter, ifs, 0⟩] scope pos) 0 it acc { cenv with scope := relabel scope env }) (compPost (model prog w) A E (some (assign (.Name y py) env)) (fun _ s' => Q .next s') acc cenv.locals) s₄) E s₃) E s₂) E s₁) E s)
    (hsw : swapsWith (.ListComp elt [⟨target, iter, ifs, 0⟩] scope pos) (some (.Name y py)) spos.line env = pure true)
    (hclos : closureFor scope env = pure cl) (hs : ∀ x, foldedSetIterable iter env x = pure x) (hkind : scope.kind = .function) (hnames : ∀ x ∈ scope.names, x.2 = .local → scope.names.lookup x.1 = some .local) :
    wpAny (model prog w) A (exec (.Assign [.Name y py] (.ListComp elt [⟨target, iter, ifs, 0⟩] scope pos) spos) env) Q E s := by
  rw [exec_Assign_Name_used _ _ _ _ hsw]
  refine wpAny_bind (wpAny_standAt (wpAny_bind ?_))
  show wpAny _ A (do let _ ← comprehension (.ListComp elt [⟨target, iter, ifs, 0⟩] scope pos) scope env _ (newList []) false (eval iter env) (some (assign (.Name y py) env))) _ _ s
  exact wpAny_bind (wpAny_mono (wpAny_comprehension_free (use := some (assign (.Name y py) env)) (Q := fun _ s' => Q .next s') rfl hs hclos hkind hnames h) (fun _ s' hq => wpAny_pure (wpAny_pure hq)) fun _ _ e => e)

/-- a comprehension that changes nothing that stood, stored at a name -/
theorem comp_pure_assign {E : Value → Shared → Prop} {Q : Flow → Shared → Prop} {elt target iter : Expr} {ifs : List Expr} {scope : Scope} {cl : List (Str × Addr)} {pos py : Pos} {y : Str} {l : Addr} {vs : List Value} {h₀ : Heap} {m : Str → Option Value} {news : List (Addr × Obj)}
    (F : Fr h₀ env.locals s.heap m) (N : News h₀ env.locals s.heap news) (hl : s.heap.IsList l vs.toArray) (hsz : vs.length ≤ 1000) 
    (J : Nat → List Value → List (Addr × Obj) → Prop) (h0 : J 0 [] []) (hlen : ∀ i ys mt, J i ys mt → ys.length ≤ i)
    (turn : ∀ C D I oI n i v ys mC mt h tk, vs[i]? = some v → J i ys mt → Fr s.heap C h mC → News s.heap C h ((D, listOf ys.toArray n) :: (I, oI) :: mt) → (∀ p ∈ mt, p.1 ≠ D ∧ p.1 ≠ I) → D ≠ I →
      wpAny (model prog w) A (assign target (compEnvC scope cl C env) v) (fun _ s₂ => wpAny (model prog w) A (tests ifs (compEnvC scope cl C env)) (fun ok s₃ =>
        if ok = true then wpAny (model prog w) A (eval elt (compEnvC scope cl C env)) (fun y s₄ => CompEnd s s.heap C D I (listOf ys.toArray n) oI (J (i + 1)) (ys ++ [y]) s₄) (fun _ _ => False) s₃
        else CompEnd s s.heap C D I (listOf ys.toArray n) oI (J (i + 1)) ys s₃) (fun _ _ => False) s₂) (fun _ _ => False) { s with heap := h, toks := tk })
    (fin : ∀ D n ys mt h tk, J vs.length ys mt → Fr h₀ env.locals h (fun z => if z = y then some (.ref D) else m z) → News h₀ env.locals h ((D, listOf ys.toArray n) :: (mt ++ news)) → Q .next { s with heap := h, toks := tk })
    (hh : A.handled = none) (hcell : ∀ y ∈ scope.names, y.2 ≠ .cell) (hkind : scope.kind = .function) (hy : env.kindOf y = some .local) (hp : (env.scope.kind == .class || (env.scope.kind == .module && env.locals != env.globals)) = false) :
    wpAny (model prog w) A (pyIter (.ref l)) (fun it s₂ => wpAny (model prog w) A (newList []) (fun acc s₃ =>
      wpAny (model prog w) A (newFunctionEnv scope env.globals cl [] env.qual none .none (some env)) (fun cenv s₄ =>
        codeAny (model prog w) A (.compStart (.ListComp elt [⟨target, iter, ifs, 0⟩] scope pos) 0 it acc { cenv with scope := relabel scope env }) (compPost (model prog w) A E (some (assign (.Name y py) env)) (fun _ s' => Q .next s') acc cenv.locals) s₄) E s₃) E s₂) E s := by
  refine comp_core (g := s.heap) (mt₀ := []) hh hsz hcell hkind (Ext.refl _) (Nat.le_refl _) (fun _ h => nomatch h) hl J h0 hlen turn ?_
  intro C D n ys mC mt h tk hJ hns hext hCD hD hC hDo hmt
  have F1 := Fr.ext F hext
  have N1 := News.more (fresh := (D, listOf ys.toArray n) :: mt) F N hext (fun p hp => by
    rcases List.mem_cons.mp hp with rfl | hp
    · exact ⟨hDo, hD⟩
    · exact ⟨(hmt p hp).1, (hmt p hp).2.1⟩)
  have hLC : env.locals ≠ C := by rintro e; obtain ⟨o, _, _, ho, _⟩ := F.ns; rw [e, hC] at ho; cases ho
  have h0C : h₀.get? C = none := by
    cases q : h₀.get? C with
    | none => rfl
    | some o => have := F.keep _ _ q; rw [hC] at this; cases this
  have nC : ∀ p ∈ (D, listOf ys.toArray n) :: mt ++ news, p.1 ≠ C := by
    intro p hp e
    rcases List.mem_append.mp hp with hp | hp
    · rcases List.mem_cons.mp hp with rfl | hp
      · exact hCD e.symm
      · exact (hmt p hp).2.2.1 e
    · have := (N p hp).1; rw [e, hC] at this; cases this
  show wpAny _ A (assign (.Name y py) env (.ref D)) _ _ _
  refine wpAny_assign_Name (wpAny_storeName_local hy F1.ns (fun h₂ hn₂ hs₂ => ?_) hp)
  have F2 := F1.set hn₂ hs₂
  have N2 := N1.set hs₂
  refine ⟨mC, hns.sameBut hs₂ (Ne.symm hLC), fun h₃ hs₃ => ?_⟩
  refine fin D n ys mt h₃ _ hJ (F2.change hs₃ (Ne.symm hLC) h0C) fun p hp => ?_
  have q := N2 p hp
  exact ⟨(hs₃.2 p.1 (nC p hp)).trans q.1, q.2⟩
end
/-- what holds wherever the ground and the ledger's entries stand -/
noncomputable def Held (h₀ : Heap) (news : List (Addr × Obj)) (P : Heap → Prop) : Prop := ∀ h, Ext h₀ h → (∀ p ∈ news, h.get? p.1 = some p.2) → P h
theorem Held.now {h₀ h : Heap} {L : Addr} {m : Str → Option Value} {news : List (Addr × Obj)} {P : Heap → Prop} (H : Held h₀ news P) (F : Fr h₀ L h m) (N : News h₀ L h news) : P h := H h F.keep fun p hp => (N p hp).1
theorem Held.more {h₀ : Heap} {news news' : List (Addr × Obj)} {P : Heap → Prop} (H : Held h₀ news P) (hs : ∀ p ∈ news, p ∈ news') : Held h₀ news' P := fun h e k => H h e fun p hp => k p (hs p hp)
theorem Held.obj {h₀ : Heap} {news : List (Addr × Obj)} {a : Addr} {o : Obj} (hm : (a, o) ∈ news) : Held h₀ news (fun h => h.get? a = some o) := fun _ _ k => k _ hm
/-- an object that is no namespace: it stands in the ground or may be an entry -/
theorem held_one {h₀ h : Heap} {L a : Addr} {m : Str → Option Value} {o : Obj} (F : Fr h₀ L h m) (ho : h.get? a = some o) (hd : ∀ es ep, o.data ≠ .dict es ep) : ∃ led, News h₀ L h led ∧ Held h₀ led (fun h' => h'.get? a = some o) := by
  cases q : h₀.get? a with
  | some o' =>
    have := F.keep _ _ q
    rw [ho] at this
    cases this
    exact ⟨[], News.nil, fun h' e _ => e _ _ q⟩
  | none =>
    refine ⟨[(a, o)], fun p hp => ?_, fun h' _ k => k _ (.head _)⟩
    rw [List.mem_singleton.mp hp]
    refine ⟨ho, fun e => ?_, q⟩
    with_reducible refine hideG fun G kG => ?_
    obtain ⟨oL, es, ep, hL, hLd, hLk, hLf⟩ := F.ns <;> (with_reducible refine kG ?_; clear kG G)
    rw [← e, ho] at hL
    cases hL
    first | exact hd _ _ hLd | exact hd _ _ hLk | exact hd _ _ hLf
theorem News.app {h₀ h : Heap} {L : Addr} {a b : List (Addr × Obj)} (x : News h₀ L h a) (y : News h₀ L h b) : News h₀ L h (a ++ b) := fun p hp => (List.mem_append.mp hp).elim (x p) (y p)
theorem held_file {h₀ h : Heap} {L : Addr} {m : Str → Option Value} (F : Fr h₀ L h m) {v : Value} {f : FD} (x : FileAt h v f) : ∃ led, News h₀ L h led ∧ Held h₀ led (fun h' => FileAt h' v f) := by
  obtain ⟨mm, a, t, b, vs, c, us, e1, e2, e3, e4, r⟩ := x
  obtain ⟨l1, n1, k1⟩ := held_one F e2 (fun _ _ => nofun)
  obtain ⟨l2, n2, k2⟩ := held_one F e3 (fun _ _ => nofun)
  obtain ⟨l3, n3, k3⟩ := held_one F e4 (fun _ _ => nofun)
  refine ⟨l1 ++ (l2 ++ l3), News.app n1 (News.app n2 n3), fun h' e k => ?_⟩
  exact ⟨mm, a, t, b, vs, c, us, e1, k1 h' e fun p hp => k p (by simp [hp]), k2 h' e fun p hp => k p (by simp [hp]), k3 h' e fun p hp => k p (by simp [hp]), r⟩
theorem held_files {h₀ h : Heap} {L : Addr} {m : Str → Option Value} (F : Fr h₀ L h m) {vs : List Value} {fs : List FD} (H : FilesAt h vs fs) : ∃ led, News h₀ L h led ∧ Held h₀ led (fun h' => FilesAt h' vs fs) := by
  induction H with
  | nil => exact ⟨[], News.nil, fun _ _ _ => .nil⟩
  | cons x q ih =>
    obtain ⟨l0, n0, k0⟩ := ih
    obtain ⟨l1, n1, k1⟩ := held_file F x
    exact ⟨l1 ++ l0, News.app n1 n0, fun h' e k => .cons (k1 h' e fun p hp => k p (by simp [hp])) (k0 h' e fun p hp => k p (by simp [hp]))⟩
end
section
set_option maxRecDepth 100000
set_option maxHeartbeats 1000000
noncomputable def lawDef : Stmt := PySem.Challenge.rw_ny0070_01.prog.main.body.getLastD default
noncomputable def lawBody : List Stmt := match lawDef with
  | .FunctionDef _ _ b _ _ _ _ _ _ _ => b
  | _ => []
noncomputable def lawScope : Scope := match lawDef with
  | .FunctionDef _ _ _ _ _ _ sc _ _ _ => sc
  | _ => default
noncomputable def toldL (MD PL : List (List Str)) (gs : List FD) : List Str := gs.map fun f => ans MD PL f (first gs f)
theorem toldL_ok (MD PL : List (List Str)) (gs : List FD) : okL (toldL MD PL gs) = true := by
  rw [okL, List.all_eq_true]
  intro x hx
  obtain ⟨f, _, rfl⟩ := List.mem_map.mp hx
  rcases bit_or MD PL f (first gs f) with ⟨_, h⟩ | ⟨_, h⟩ <;> rw [h] <;> decide +kernel
theorem fact_ok : ((menuM ++ menuP).all fun MD => MD.all okL && decide (MD.length ≤ 100) && MD.all fun xs => decide (xs.length ≤ 100)) = true := by decide +kernel
theorem fact_mod : (allF.all fun f => PyData.strOk f.mod && decide ((f.pieces.map (·.length)).sum + f.pieces.length * 64 ≤ 16777216)) = true := by decide +kernel
section
variable {prog : Program} {w : World} {mean : ExcName → Option Value} {mg mb : Str → Option Value} {s : Shared} {A : Around} {Q E : Value → Shared → Prop} {h₀ : Heap} {L : Addr} {m : Str → Option Value} {news : List (Addr × Obj)}
theorem ne_same {a b : Addr} {vs us : List Value} {xs : List Str} (hl : s.heap.IsList a vs.toArray) (hi : StrsAre vs xs) (hl' : s.heap.IsList b us.toArray) (hi' : StrsAre us xs) (ox : okL xs = true) (hu : A.units + 64 < cLine)
    (h : Q (.bool false) s) : wpAny (model prog w) A (compareOp .NotEq (.ref a) (.ref b)) Q E s := ne_strs hl hi hl' hi' ox ox hu (by simpa using h)
theorem eq_same {a b : Addr} {vs us : List Value} {xs : List Str} (hl : s.heap.IsList a vs.toArray) (hi : StrsAre vs xs) (hl' : s.heap.IsList b us.toArray) (hi' : StrsAre us xs) (ox : okL xs = true) (hu : A.units + 64 < cLine)
    (h : Q (.bool true) s) : wpAny (model prog w) A (compareOp .Eq (.ref a) (.ref b)) Q E s := eq_strs hl hi hl' hi' ox ox hu (by simpa using h)
theorem files_now {h : Heap} {news₀ : List (Addr × Obj)} {vs : List Value} {fs : List FD} (F : Fr h₀ L h m) (N : News h₀ L h news) (H : Held h₀ news₀ (fun h => FilesAt h vs fs)) (hs : ∀ p ∈ news₀, p ∈ news) : FilesAt h vs fs := H h F.keep fun p hp => (N p (hs p hp)).1
theorem lsts_now {h : Heap} {news₀ : List (Addr × Obj)} {vs : List Value} {xss : List (List Str)} (F : Fr h₀ L h m) (N : News h₀ L h news) (H : Held h₀ news₀ (fun h => LstsAt h vs xss)) (hs : ∀ p ∈ news₀, p ∈ news) : LstsAt h vs xss := H h F.keep fun p hp => (N p (hs p hp)).1
theorem told_use {l dm dp : Addr} {vs ms qs : List Value} {gs : List FD} {MD PL : List (List Str)} {n0 n1 n2 : Nat} (F : Fr h₀ L s.heap m) (N : News h₀ L s.heap news) (X : (hd.heap_39 w.params).In h₀) (T : Top hd.view_39 (looseW hd.view_39 []) mean mg mb h₀)
   (hl : (l, listOf vs.toArray n0) ∈ news) (hf : FilesAt s.heap vs gs) (hlen : gs.length ≤ 50)
   (hdm : (dm, listOf ms.toArray n1) ∈ news) (hms : LstsAt s.heap ms MD) (hdp : (dp, listOf qs.toArray n2) ∈ news) (hqs : LstsAt s.heap qs PL) (hM : MD ∈ menuM) (hP : PL ∈ menuP)
   (k : ∀ a us n h' tk', Fr h₀ L h' m → News h₀ L h' ((a, listOf (List.toArray us) n) :: news) → StrsAre us (toldL MD PL gs) → Q (.ref a) { s with heap := h', toks := tk' })
   (h1 : A.handled = none := by rfl) (h2 : A.depth ≤ 590 := by exact Nat.le_of_ble_eq_true rfl) (h4 : A.units ≤ 590 := by exact Nat.le_of_ble_eq_true rfl) :
   wpAny (model prog w) A (call (.ref 149) [.ref l, .ref dm, .ref dp]) Q E s := by
  refine use_back (told_spec (News.isList N hl) hf hlen (N _ hdm).1 hms (N _ hdp).1 hqs hM hP (X.keeps F.keep) (T.keeps F.keep)) F N ?_ h1 h2 rfl rfl h4
  rintro v fresh h' tk' F' N' _ _ hP9
  with_reducible refine hideG fun G kG => ?_
  obtain ⟨a, us, n, rfl, rfl, hu⟩ := hP9 <;> (with_reducible refine kG ?_; clear kG G)
  exact k a us n h' tk' F' N' hu
theorem due_use {l dm dp : Addr} {vs ms qs : List Value} {gs : List FD} {e : Int} {te : Tok} {MD PL : List (List Str)} {n0 n1 n2 : Nat} (F : Fr h₀ L s.heap m) (N : News h₀ L s.heap news) (X : (hd.heap_39 w.params).In h₀) (T : Top hd.view_39 (looseW hd.view_39 []) mean mg mb h₀)
   (hl : (l, listOf vs.toArray n0) ∈ news) (hf : FilesAt s.heap vs gs) (hlen : gs.length ≤ 50) (he : (e = 0 ∧ gs.Pairwise fun f g => slt f.text g.text) ∨ (e = -1 ∧ gs.Pairwise fun f g => slt g.text f.text)) (hinj : ∀ f ∈ gs, ∀ g ∈ gs, f.text = g.text → f = g)
   (hdm : (dm, listOf ms.toArray n1) ∈ news) (hms : LstsAt s.heap ms MD) (hdp : (dp, listOf qs.toArray n2) ∈ news) (hqs : LstsAt s.heap qs PL) (hM : MD ∈ menuM) (hP : PL ∈ menuP)
   (k : ∀ a us n h' tk', Fr h₀ L h' m → News h₀ L h' ((a, listOf (List.toArray us) n) :: news) → StrsAre us (toldL MD PL gs) → Q (.ref a) { s with heap := h', toks := tk' })
   (h1 : A.handled = none := by rfl) (h2 : A.depth ≤ 600 := by exact Nat.le_of_ble_eq_true rfl) (h4 : A.units ≤ 600 := by exact Nat.le_of_ble_eq_true rfl) :
   wpAny (model prog w) A (call (.ref 154) [.ref l, .int e te, .ref dm, .ref dp]) Q E s := by
  have o1 := List.all_eq_true.mp fact_ok MD (List.mem_append_left _ hM)
  have o2 := List.all_eq_true.mp fact_ok PL (List.mem_append_right _ hP)
  simp only [Bool.and_eq_true, decide_eq_true_eq] at o1 o2
  have he' : e = 0 ∨ e = -1 := he.elim (fun h => .inl h.1) (fun h => .inr h.1)
  refine use_back (due_spec (N _ hl).1 hf hlen hinj he' (N _ hdm).1 hms (N _ hdp).1 hqs o1.1.1 o2.1.1 o1.1.2 o2.1.2 (fun xs hx => of_decide_eq_true (List.all_eq_true.mp o1.2 xs hx)) (fun xs hx => of_decide_eq_true (List.all_eq_true.mp o2.2 xs hx)) (X.keeps F.keep) (T.keeps F.keep)) F N ?_ h1 h2 rfl rfl h4
  rintro v fresh h' tk' F' N' _ _ hP9
  with_reducible refine hideG fun G kG => ?_
  obtain ⟨d, ds, n, us, rfl, rfl, hu, hul, huu⟩ := hP9 <;> (with_reducible refine kG ?_; clear kG G)
  have := told_due (FilesAt.allF hf) he hul huu
  rw [this] at hu
  exact k d ds n h' tk' F' N' hu
theorem row_use {l : Addr} {vs : List Value} {fs : List FD} {n0 : Nat} (F : Fr h₀ L s.heap m) (N : News h₀ L s.heap news) (X : (hd.heap_39 w.params).In h₀) (T : Top hd.view_39 (looseW hd.view_39 []) mean mg mb h₀)
   (hl : (l, listOf vs.toArray n0) ∈ news) (hf : FilesAt s.heap vs fs) (hlen : fs.length ≤ 50)
   (k : ∀ r rs n gs led h' tk', Fr h₀ L h' m → News h₀ L h' (((r, listOf (List.toArray rs) n) :: led) ++ news) → Held h₀ led (fun h => FilesAt h rs gs) → Rise gs → gs.length ≤ 50 → Q (.ref r) { s with heap := h', toks := tk' })
   (h1 : A.handled = none := by rfl) (h2 : A.depth ≤ 600 := by exact Nat.le_of_ble_eq_true rfl) (h4 : A.units ≤ 600 := by exact Nat.le_of_ble_eq_true rfl) :
   wpAny (model prog w) A (call (.ref 139) [.ref l]) Q E s := by
  refine use_back (row_spec (News.isList N hl) hf hlen (X.keeps F.keep) (T.keeps F.keep)) F N ?_ h1 h2 rfl rfl h4
  rintro v fresh h' tk' F' N' _ hext hP9
  with_reducible refine hideG fun G kG => ?_
  obtain ⟨r, rs, n, gs, rfl, rfl, hfa, hr, hgl⟩ := hP9 <;> (with_reducible refine kG ?_; clear kG G)
  obtain ⟨led, nl, hl⟩ := held_files F' (hfa.mono hext)
  exact k r rs n gs led h' tk' F' (fun p hp => by
    rcases List.mem_append.mp hp with hp | hp
    · rcases List.mem_cons.mp hp with rfl | hp
      · exact N' _ (.head _)
      · exact nl p hp
    · exact N' p (.tail _ hp)) hl hr hgl
end
end
section
set_option maxRecDepth 100000
set_option maxHeartbeats 1000000
theorem kw_F9c_0 : True := by
  k_with_none
  k_with "M enter" => (refine' enter0 ?kq_k3 ?kq_k5 ?kq_k6 ?kq_k7 ?kq_k8 ?kq_k9 ?kq_kB ?_ ?kq_c2 ?kq_c3 ?kq_c4 ?kq_c5; (case kq_k3 => assumption); (case kq_k5 => assumption); (case kq_k6 => k_is); (case kq_k7 => k_is); (case kq_k8 => decide); (case kq_k9 => exact BindsTo.of_eq rfl); (case kq_kB => exact locs rfl); (case kq_c2 => rfl); (case kq_c3 => rfl); (case kq_c4 => rfl); (case kq_c5 => decide); intro _ _ _ _; dsimp only; k_fold)
  k_with "M steps" => repeat' (first | (k_unfold; (try dsimp only)) | walk1 | (dsimp only; walk1))
  k_with "M end" => ((try dsimp only); (try k_unfold); (try dsimp only))
  k_with "ite" => first | (refine PySem.W.ite_pos (by assumption) ?_) | (refine PySem.W.ite_neg (by assumption) ?_) | (refine PySem.W.ite_neg (ne_true_of_eq_false (by assumption)) ?_)
  exact True.intro
theorem kfill_once14 : (fun (_ : OpenLaw) (_ : Params → Frag) => True) PySem.Challenge.rw_ny0070_01 hd.heap_39 := by k_fill; w_on; trivial
variable {prog : Program} {w : World} {mean : ExcName → Option Value} {mg mb : Str → Option Value} {s : Shared}
theorem kw_F9c_1 : True := by
  k_with "M enterC" => (refine' enterC ?kq_k3 ?kq_k5 ?kq_k6 ?kq_k7 ?kq_k8 ?kq_k9 ?kq_kB ?kq_kD ?_ ?kq_c2 ?kq_c3 ?kq_c4; (case kq_k3 => assumption); (case kq_k5 => assumption); (case kq_k6 => k_is); (case kq_k7 => k_is); (case kq_k8 => decide); (case kq_k9 => exact BindsTo.of_eq rfl); (case kq_kB => rfl); (case kq_kD => decide +kernel); (case kq_c2 => rfl); (case kq_c3 => rfl); (case kq_c4 => rfl); intro _ _ _ _ _ _ Y'; k_cells Y'; (try dsimp only); (try k_unmd); k_fold)
  k_with "eval ListComp" => (k_dflt ((with_reducible refine' comp_open ?_ ?kq_hclos ?kq_hs ?kq_hkind ?kq_hnames); (case kq_hclos => rfl); (case kq_hs => intro _; rfl); (case kq_hkind => rfl); (case kq_hnames => decide)))
  k_with "eval Name" => (k_here; k_dflt (first
  | (refine' nameC_L ?kq_F ?kq_v ?_ ?kq_a ?kq_b ?kq_d; (case kq_F => k_asm); (case kq_a => rfl); (case kq_b => rfl); (case kq_d => decide); (case kq_v => rfl); k_whole)
  | (refine' nameC_C ?kq_F ?kq_c ?kq_o ?kq_d ?_ ?kq_a ?kq_b ?kq_e; (case kq_F => k_asm); (case kq_a => rfl); (case kq_b => rfl); (case kq_e => decide); (case kq_c => rfl); (case kq_o => with_reducible assumption); (case kq_d => with_reducible assumption); k_whole)
  | (refine' nameG_K ?kq_F ?kq_X ?kq_T ?kq_e ?_ ?kq_g ?kq_a ?kq_b ?kq_d; (case kq_g => rfl); (case kq_a => rfl); (case kq_b => rfl); (case kq_d => decide); (case kq_F => k_asm); (case kq_X => k_asm); (case kq_T => k_asm); (case kq_e => k_is); k_whole)
  | (refine' nameC_B ?kq_F ?kq_X ?kq_T ?kq_e ?kq_v ?kq_n ?_ ?kq_g ?kq_bb ?kq_a ?kq_b ?kq_d; (case kq_g => rfl); (case kq_bb => rfl); (case kq_a => rfl); (case kq_b => rfl); (case kq_d => decide); (case kq_F => k_asm); (case kq_X => k_asm); (case kq_T => k_asm); (case kq_e => k_is); (case kq_v => boot_fast); (case kq_n => decide); k_whole)))
  k_with "M mem" => (repeat (first | with_reducible assumption | exact List.mem_cons_self | refine List.mem_cons_of_mem _ ?_))
  k_with "call ref" => (k_here; (with_reducible refine' told_use ?kq_F ?kq_N ?kq_X ?kq_T ?kq_hl ?kq_hf ?kq_hlen ?kq_hdm ?kq_hms ?kq_hdp ?kq_hqs ?kq_hM ?kq_hP ?_ ?kq_h1 ?kq_h2 ?kq_h4); (case kq_h1 => k_dflt (exact rfl)); (case kq_h2 => k_dflt (exact Nat.le_of_ble_eq_true rfl)); (case kq_h4 => k_dflt (exact Nat.le_of_ble_eq_true rfl)); (case kq_F => k_asm); (case kq_N => k_asm); (case kq_X => with_reducible assumption); (case kq_T => with_reducible assumption); (case kq_hl => walk_at "M mem"); (case kq_hdm => walk_at "M mem"); (case kq_hdp => walk_at "M mem"); (case kq_hf => first | exact files_now (by k_asm) (by k_asm) (by with_reducible assumption) (fun p hp => by walk_at "M mem") | exact FilesAt.reverse (files_now (by k_asm) (by k_asm) (by with_reducible assumption) (fun p hp => by walk_at "M mem"))); (case kq_hlen => with_reducible assumption); (case kq_hms => exact lsts_now (by k_asm) (by k_asm) (by with_reducible assumption) (fun p hp => by walk_at "M mem")); (case kq_hqs => exact lsts_now (by k_asm) (by k_asm) (by with_reducible assumption) (fun p hp => by walk_at "M mem")); (case kq_hM => with_reducible assumption); (case kq_hP => with_reducible assumption); intro _ _ _ _ _ _ _ _)
  k_with "call ref" => (k_here; (with_reducible refine' due_use ?kq_F ?kq_N ?kq_X ?kq_T ?kq_hl ?kq_hf ?kq_hlen ?kq_he ?kq_hinj ?kq_hdm ?kq_hms ?kq_hdp ?kq_hqs ?kq_hM ?kq_hP ?_ ?kq_h1 ?kq_h2 ?kq_h4); (case kq_h1 => k_dflt (exact rfl)); (case kq_h2 => k_dflt (exact Nat.le_of_ble_eq_true rfl)); (case kq_h4 => k_dflt (exact Nat.le_of_ble_eq_true rfl)); (case kq_F => k_asm); (case kq_N => k_asm); (case kq_X => with_reducible assumption); (case kq_T => with_reducible assumption); (case kq_hl => walk_at "M mem"); (case kq_hdm => walk_at "M mem"); (case kq_hdp => walk_at "M mem"); (case kq_hf => first | exact files_now (by k_asm) (by k_asm) (by with_reducible assumption) (fun p hp => by walk_at "M mem") | exact FilesAt.reverse (files_now (by k_asm) (by k_asm) (by with_reducible assumption) (fun p hp => by walk_at "M mem"))); (case kq_hlen => with_reducible assumption); (case kq_he => first | exact Or.inl ⟨rfl, by with_reducible assumption⟩ | exact Or.inr ⟨rfl, by with_reducible assumption⟩); (case kq_hinj => with_reducible assumption); (case kq_hms => exact lsts_now (by k_asm) (by k_asm) (by with_reducible assumption) (fun p hp => by walk_at "M mem")); (case kq_hqs => exact lsts_now (by k_asm) (by k_asm) (by with_reducible assumption) (fun p hp => by walk_at "M mem")); (case kq_hM => with_reducible assumption); (case kq_hP => with_reducible assumption); intro _ _ _ _ _ _ _ _)
  k_with "compareOp NotEq ref ref" => (k_here; k_dflt (refine' ne_same ?kq_l ?kq_sa ?kq_l2 ?kq_sb ?kq_ox ?kq_u ?_; (case kq_l => exact News.isList (by k_asm) (by walk_at "M mem")); (case kq_l2 => exact News.isList (by k_asm) (by walk_at "M mem")); (case kq_sa => with_reducible assumption); (case kq_sb => with_reducible assumption); (case kq_ox => exact toldL_ok _ _ _); (case kq_u => exact Nat.le_of_ble_eq_true rfl)))
  k_with "compareOp Eq ref ref" => (k_here; k_dflt (refine' eq_same ?kq_l ?kq_sa ?kq_l2 ?kq_sb ?kq_ox ?kq_u ?_; (case kq_l => exact News.isList (by k_asm) (by walk_at "M mem")); (case kq_l2 => exact News.isList (by k_asm) (by walk_at "M mem")); (case kq_sa => with_reducible assumption); (case kq_sb => with_reducible assumption); (case kq_ox => exact toldL_ok _ _ _); (case kq_u => exact Nat.le_of_ble_eq_true rfl)))
  k_with "subscriptTail Name Slice ref ref" => (k_here; (with_reducible show wpAny _ _ (subscriptTail _ (PySem.Expr.Slice none none (some _) _) (Value.ref _) (Value.ref _)) _ _ _); k_dflt (refine' krv_lit (zs := List.reverse _) ?kq_F ?kq_N ?kq_l ?kq_k ?kq_e ?_ ?kq_s ?kq_t ?kq_z; (case kq_F => k_asm); (case kq_N => k_asm); (case kq_l => exact News.isList (by k_asm) (by walk_at "M mem")); (case kq_k => exact IsPart.int _ _); (case kq_e => rfl); (case kq_s => with_unfolding_all rfl); (case kq_t => kmk_pure); (case kq_z => with_reducible assumption)); intro _ _ _ _ _)
  exact True.intro
theorem law_7 {s₁ : Shared} {L fa : Addr} {cd : Value} {h' : Heap} {tk' : Nat} {m : Str → Option Value} {dp dm r : Addr} {qs ms rs : List Value} {n n' nr : Nat} {PL MD : List (List Str)} {gs : List FD} {news : List (Addr × Obj)} {Q : Flow → Shared → Prop} {E : Value → Shared → Prop}
   (KX : (hd.heap_39 w.params).In s₁.heap) (T : Top hd.view_39 (looseW hd.view_39 []) mean mg mb s₁.heap) (F : Fr s₁.heap L h' m) (N : News s₁.heap L h' news) (hdp : m (Str.ofString "places") = some (.ref dp)) (hdm : m (Str.ofString "mods") = some (.ref dm)) (hrow : m (Str.ofString "row") = some (.ref r))
   (pdp : (dp, listOf qs.toArray n) ∈ news) (pdm : (dm, listOf ms.toArray n') ∈ news) (pr : (r, listOf rs.toArray nr) ∈ news) (HP : Held s₁.heap news (fun h => LstsAt h qs PL)) (HM : Held s₁.heap news (fun h => LstsAt h ms MD)) (HR : Held s₁.heap news (fun h => FilesAt h rs gs)) (hPL : PL ∈ menuP) (hMD : MD ∈ menuM)
   (hrise : Rise gs) (hlen : gs.length ≤ 50) (hQ : ∀ h' tk', Ext s₁.heap h' → Q (.ret (.bool true)) { s₁ with heap := h', toks := tk' }) :
   wpAny (model prog w) (callerA.deeper (envOf (Str.ofString "law") lawScope L fa cd)) (execs (lawBody.drop 6) (envOf (Str.ofString "law") lawScope L fa cd)) Q E { s₁ with heap := h', toks := tk' } := by
  conv in (List.drop 6 lawBody) => whnf
  rw [show lawScope = _ from by conv => lhs; whnf]
  replace F := Fr.known3 F hdp hdm hrow
  have hinj := rise_inj hrise
  have hrise' : gs.Pairwise fun f g => slt f.text g.text := hrise
  have hrev : gs.reverse.Pairwise fun f g => slt g.text f.text := List.pairwise_reverse.mpr hrise
  have hinj' : ∀ f ∈ gs.reverse, ∀ g ∈ gs.reverse, f.text = g.text → f = g := fun f hf g hg => hinj f (List.mem_reverse.mp hf) g (List.mem_reverse.mp hg)
  have hlen' : gs.reverse.length ≤ 50 := by rw [List.length_reverse]; exact hlen
  have hrs : rs.toArray.size ≤ sizeLine := by
    have := (HR.now F N).length
    rw [sizeLine_eq, List.size_toArray]; omega
  w_strict (walk_at "M steps")
  rename_i F9 N9 hu9
  exact hQ _ _ F9.keep
theorem kw_F9c_2 : True := by
  k_with "call ref" => (k_here; (with_reducible refine' row_use ?kq_F ?kq_N ?kq_X ?kq_T ?kq_hl ?kq_hf ?kq_hlen ?_ ?kq_h1 ?kq_h2 ?kq_h4); (case kq_h1 => k_dflt (exact rfl)); (case kq_h2 => k_dflt (exact Nat.le_of_ble_eq_true rfl)); (case kq_h4 => k_dflt (exact Nat.le_of_ble_eq_true rfl)); (case kq_F => k_asm); (case kq_N => k_asm); (case kq_X => with_reducible assumption); (case kq_T => with_reducible assumption); (case kq_hl => walk_at "M mem"); (case kq_hf => exact files_now (by k_asm) (by k_asm) (by with_reducible assumption) (fun p hp => by walk_at "M mem")); (case kq_hlen => with_reducible assumption); intro _ _ _ _ _ _ _ _ _ _ _ _)
  exact True.intro
theorem law_6 {s₁ : Shared} {L fa : Addr} {cd : Value} {h' : Heap} {tk' : Nat} {m : Str → Option Value} {dp dm r : Addr} {qs ms rs : List Value} {n n' nr : Nat} {PL MD : List (List Str)} {gs : List FD} {news : List (Addr × Obj)} {Q : Flow → Shared → Prop} {E : Value → Shared → Prop}
   (KX : (hd.heap_39 w.params).In s₁.heap) (T : Top hd.view_39 (looseW hd.view_39 []) mean mg mb s₁.heap) (F : Fr s₁.heap L h' m) (N : News s₁.heap L h' news) (hdp : m (Str.ofString "places") = some (.ref dp)) (hdm : m (Str.ofString "mods") = some (.ref dm)) (hrow : m (Str.ofString "files") = some (.ref r))
   (pdp : (dp, listOf qs.toArray n) ∈ news) (pdm : (dm, listOf ms.toArray n') ∈ news) (pr : (r, listOf rs.toArray nr) ∈ news) (HP : Held s₁.heap news (fun h => LstsAt h qs PL)) (HM : Held s₁.heap news (fun h => LstsAt h ms MD)) (HR : Held s₁.heap news (fun h => FilesAt h rs gs)) (hPL : PL ∈ menuP) (hMD : MD ∈ menuM)
   (hlen : gs.length ≤ 50) (hQ : ∀ h' tk', Ext s₁.heap h' → Q (.ret (.bool true)) { s₁ with heap := h', toks := tk' }) :
   wpAny (model prog w) (callerA.deeper (envOf (Str.ofString "law") lawScope L fa cd)) (execs (lawBody.drop 5) (envOf (Str.ofString "law") lawScope L fa cd)) Q E { s₁ with heap := h', toks := tk' } := by
  conv in (List.drop 5 lawBody) => whnf
  refine cut_stmt (fun s' => ∃ h' tk' m r rs nr gs news, s' = { s₁ with heap := h', toks := tk' } ∧ Fr s₁.heap L h' m ∧ News s₁.heap L h' news ∧ m (Str.ofString "places") = some (.ref dp) ∧ m (Str.ofString "mods") = some (.ref dm) ∧ m (Str.ofString "row") = some (.ref r) ∧ (dp, listOf qs.toArray n) ∈ news ∧ (dm, listOf ms.toArray n') ∈ news ∧ (r, listOf (List.toArray rs) nr) ∈ news ∧ Held s₁.heap news (fun h => LstsAt h qs PL) ∧ Held s₁.heap news (fun h => LstsAt h ms MD) ∧ Held s₁.heap news (fun h => FilesAt h rs gs) ∧ Rise gs ∧ gs.length ≤ 50) ?_ ?_
  · rw [show lawScope = _ from by conv => lhs; whnf]
    replace F := Fr.known3 F hdp hdm hrow
    w_strict (walk_at "M steps")
    rename_i r' rs' n' gs' led' h1 tk1 hh hr hg h2 F2 N2
    have up : ∀ p ∈ news, p ∈ (r', listOf rs'.toArray n') :: led' ++ news := fun p hp => List.mem_append_right _ hp
    exact ⟨by trivial, _, _, _, _, _, _, _, _, rfl, F2, N2, rfl, rfl, rfl, up _ pdp, up _ pdm, .head _, HP.more up, HM.more up, hh.more (fun p hp => List.mem_append_left _ (.tail _ hp)), hr, hg⟩
  · rintro s' ⟨h', tk', m, r, rs, nr, gs, news, rfl, F, N, hdp, hdm, hrow, pdp, pdm, pr, HP, HM, HR, hr, hg⟩
    exact law_7 KX T F N hdp hdm hrow pdp pdm pr HP HM HR hPL hMD hr hg hQ
end
section
set_option maxRecDepth 100000
set_option maxHeartbeats 1000000
theorem kw_F9d_0 : True := by
  k_with_none
  k_with "M enter" => (refine' enter0 ?kq_k3 ?kq_k5 ?kq_k6 ?kq_k7 ?kq_k8 ?kq_k9 ?kq_kB ?_ ?kq_c2 ?kq_c3 ?kq_c4 ?kq_c5; (case kq_k3 => assumption); (case kq_k5 => assumption); (case kq_k6 => k_is); (case kq_k7 => k_is); (case kq_k8 => decide); (case kq_k9 => exact BindsTo.of_eq rfl); (case kq_kB => exact locs rfl); (case kq_c2 => rfl); (case kq_c3 => rfl); (case kq_c4 => rfl); (case kq_c5 => decide); intro _ _ _ _; dsimp only; k_fold)
  k_with "M steps" => repeat' (first | (k_unfold; (try dsimp only)) | walk1 | (dsimp only; walk1))
  k_with "M end" => ((try dsimp only); (try k_unfold); (try dsimp only))
  k_with "ite" => first | (refine PySem.W.ite_pos (by assumption) ?_) | (refine PySem.W.ite_neg (by assumption) ?_) | (refine PySem.W.ite_neg (ne_true_of_eq_false (by assumption)) ?_)
  exact True.intro
theorem kfill_once15 : (fun (_ : OpenLaw) (_ : Params → Frag) => True) PySem.Challenge.rw_ny0070_01 hd.heap_39 := by k_fill; w_on; trivial
variable {prog : Program} {w : World} {mean : ExcName → Option Value} {mg mb : Str → Option Value} {s : Shared}
theorem kw_F9d_1 : True := by
  k_with "M enterC" => (refine' enterC ?kq_k3 ?kq_k5 ?kq_k6 ?kq_k7 ?kq_k8 ?kq_k9 ?kq_kB ?kq_kD ?_ ?kq_c2 ?kq_c3 ?kq_c4; (case kq_k3 => assumption); (case kq_k5 => assumption); (case kq_k6 => k_is); (case kq_k7 => k_is); (case kq_k8 => decide); (case kq_k9 => exact BindsTo.of_eq rfl); (case kq_kB => rfl); (case kq_kD => decide +kernel); (case kq_c2 => rfl); (case kq_c3 => rfl); (case kq_c4 => rfl); intro _ _ _ _ _ _ Y'; k_cells Y'; (try dsimp only); (try k_unmd); k_fold)
  k_with "eval ListComp" => (k_dflt ((with_reducible refine' comp_open ?_ ?kq_hclos ?kq_hs ?kq_hkind ?kq_hnames); (case kq_hclos => rfl); (case kq_hs => intro _; rfl); (case kq_hkind => rfl); (case kq_hnames => decide)))
  k_with "eval Name" => (k_here; k_dflt (first
  | (refine' nameC_L ?kq_F ?kq_v ?_ ?kq_a ?kq_b ?kq_d; (case kq_F => k_asm); (case kq_a => rfl); (case kq_b => rfl); (case kq_d => decide); (case kq_v => rfl); k_whole)
  | (refine' nameC_C ?kq_F ?kq_c ?kq_o ?kq_d ?_ ?kq_a ?kq_b ?kq_e; (case kq_F => k_asm); (case kq_a => rfl); (case kq_b => rfl); (case kq_e => decide); (case kq_c => rfl); (case kq_o => with_reducible assumption); (case kq_d => with_reducible assumption); k_whole)
  | (refine' nameG_K ?kq_F ?kq_X ?kq_T ?kq_e ?_ ?kq_g ?kq_a ?kq_b ?kq_d; (case kq_g => rfl); (case kq_a => rfl); (case kq_b => rfl); (case kq_d => decide); (case kq_F => k_asm); (case kq_X => k_asm); (case kq_T => k_asm); (case kq_e => k_is); k_whole)
  | (refine' nameC_B ?kq_F ?kq_X ?kq_T ?kq_e ?kq_v ?kq_n ?_ ?kq_g ?kq_bb ?kq_a ?kq_b ?kq_d; (case kq_g => rfl); (case kq_bb => rfl); (case kq_a => rfl); (case kq_b => rfl); (case kq_d => decide); (case kq_F => k_asm); (case kq_X => k_asm); (case kq_T => k_asm); (case kq_e => k_is); (case kq_v => boot_fast); (case kq_n => decide); k_whole)))
  k_with "M mem" => (repeat (first | with_reducible assumption | exact List.mem_cons_self | refine List.mem_cons_of_mem _ ?_))
  k_with "call builtin:str.join" => (k_here; k_dflt (refine sl_join (base_list (by k_asm) (by with_reducible assumption)) (by with_reducible assumption) (by decide) (by with_reducible assumption) ?_); intro _ _)
  k_with "assign Tuple" => (k_here; (with_reducible show wpAny _ _ (assign (Expr.Tuple _ _ _) _ (Value.ref _)) _ _ _); k_dflt (refine' unpackN_ ?kq_k1 ?kq_k2 ?kq_k3 ?kq_k4 ?kq_k5 ?kq_k6 ?_; (case kq_k1 => k_asm); (case kq_k2 => k_asm); (case kq_k3 => exact base_tup (by k_asm) (by with_reducible assumption)); (case kq_k4 => exact rfl); (case kq_k5 => exact rfl); (case kq_k6 => exact rfl)); intro _ _ _; (try dsimp only))
  k_with "storeName" => (k_here; k_dflt (refine' storeC ?kq_F ?kq_N ?_ ?kq_a ?kq_b; (case kq_F => k_asm); (case kq_N => k_asm); (case kq_a => rfl); (case kq_b => rfl)); intro _ _ _)
  k_with "call ref" => (k_here; (with_reducible show wpAny _ _ (call (Value.ref 111) _) _ _ _); k_dflt (refine' use_back (modname_spec (by with_reducible assumption) ?kq_kx ?kq_kt) ?kq_kf ?kq_kn ?_; (case kq_kx => k_in); (case kq_kt => exact Top.keeps (by with_reducible assumption) (Fr.keep (by k_asm))); (case kq_kf => k_asm); (case kq_kn => k_asm); intro _ _ _ _ _ N' hne' e' hP'; obtain ⟨⟨_, hP1⟩, hP2⟩ := hP'; subst hP1; subst hP2; (simp only [List.nil_append] at N'); clear hne' e'; revert N'; intro _; (try dsimp only); (try k_fold)))
  k_with "compareOp NotEq ref ref" => (k_here; k_dflt (refine' ne_same ?kq_l ?kq_sa ?kq_l2 ?kq_sb ?kq_ox ?kq_u ?_; (case kq_l => exact News.isList (by k_asm) (by walk_at "M mem")); (case kq_l2 => exact News.isList (by k_asm) (by walk_at "M mem")); (case kq_sa => with_reducible assumption); (case kq_sb => with_reducible assumption); (case kq_ox => with_reducible assumption); (case kq_u => exact Nat.le_of_ble_eq_true rfl)))
  exact True.intro
theorem law_5 {s₁ : Shared} {L fa : Addr} {cd : Value} {h' : Heap} {tk' : Nat} {m : Str → Option Value} {dp dm r : Addr} {qs ms rs : List Value} {n n' nr : Nat} {PL MD : List (List Str)} {gs : List FD} {news : List (Addr × Obj)} {Q : Flow → Shared → Prop} {E : Value → Shared → Prop}
   (KX : (hd.heap_39 w.params).In s₁.heap) (T : Top hd.view_39 (looseW hd.view_39 []) mean mg mb s₁.heap) (F : Fr s₁.heap L h' m) (N : News s₁.heap L h' news) (hdp : m (Str.ofString "places") = some (.ref dp)) (hdm : m (Str.ofString "mods") = some (.ref dm)) (hrow : m (Str.ofString "files") = some (.ref r))
   (pdp : (dp, listOf qs.toArray n) ∈ news) (pdm : (dm, listOf ms.toArray n') ∈ news) (pr : (r, listOf rs.toArray nr) ∈ news) (HP : Held s₁.heap news (fun h => LstsAt h qs PL)) (HM : Held s₁.heap news (fun h => LstsAt h ms MD)) (HR : Held s₁.heap news (fun h => FilesAt h rs gs)) (hPL : PL ∈ menuP) (hMD : MD ∈ menuM)
   (hlen : gs.length ≤ 50) (hQ : ∀ h' tk', Ext s₁.heap h' → Q (.ret (.bool true)) { s₁ with heap := h', toks := tk' }) :
   wpAny (model prog w) (callerA.deeper (envOf (Str.ofString "law") lawScope L fa cd)) (execs (lawBody.drop 4) (envOf (Str.ofString "law") lawScope L fa cd)) Q E { s₁ with heap := h', toks := tk' } := by
  conv in (List.drop 4 lawBody) => whnf
  refine cut_stmt (fun s' => ∃ h' tk' m news₁, s' = { s₁ with heap := h', toks := tk' } ∧ Fr s₁.heap L h' m ∧ News s₁.heap L h' news₁ ∧ m (Str.ofString "places") = some (.ref dp) ∧ m (Str.ofString "mods") = some (.ref dm) ∧ m (Str.ofString "files") = some (.ref r) ∧ (∀ p ∈ news, p ∈ news₁)) ?_ ?_
  · rw [show lawScope = _ from by conv => lhs; whnf]
    replace F := Fr.known3 F hdp hdm hrow
    have hf := HR.now F N
    have hvl := hf.length
    have X1 := KX.keeps F.keep
    have T1 := T.keeps F.keep
    have hok : okL (gs.map FD.mod) = true := by
      rw [okL, List.all_eq_true]
      intro x hx
      obtain ⟨f, hf', rfl⟩ := List.mem_map.mp hx
      have := all_of fact_mod (FilesAt.allF hf f hf')
      rw [Bool.and_eq_true] at this
      exact this.1
    w_strict (walk_at "M steps")
    refine comp_pure F N (News.isList N pr) (by omega) (fun i ys mt => mt = [] ∧ StrsAre ys ((gs.take i).map FD.mod) ∧ ys.length ≤ i) ⟨rfl, .nil, Nat.le_refl _⟩ (fun _ _ _ h => h.2.2) ?turn ?fin rfl (by decide) rfl
    case turn =>
      clear F N KX T
      rintro C D I oI k i v ys mC mt h tk hv ⟨rfl, hJ, hJl⟩ F N hoff hDI
      refine hf.out hv ?_
      intro f hfi hfm a tt b fvs c pus e10 e2 e3 e4 e5 e6
      subst e10
      w_strict (walk_at "M steps")
      rename_i F2 t2 N2
      refine ⟨_, _, _, [], rfl, F2, N2, (fun _ h => nomatch h), rfl, ?_, by simp; omega⟩
      rw [List.take_add_one, hfi, List.map_append]
      exact StrsAre.append hJ (.cons _ _ .nil)
    case fin =>
      clear F N X1 T1 hf
      rintro D1 k1 ys1 mt h2 tk2 ⟨rfl, hJ1, hJl1⟩ F N hext1 hD1 hmt
      clear hmt hext1 hD1
      rw [hvl, List.take_length] at hJ1
      simp only [List.nil_append] at N
      have up : ∀ p ∈ news, p ∈ (D1, listOf ys1.toArray k1) :: news := fun p hp => .tail _ hp
      have hf := (HR.more up).now F N
      have X1 := KX.keeps F.keep
      have T1 := T.keeps F.keep
      w_strict (walk_at "M steps")
      refine comp_pure F N (News.isList N (up _ pr)) (by omega) (fun i ys mt => mt = [] ∧ StrsAre ys ((gs.take i).map FD.mod) ∧ ys.length ≤ i) ⟨rfl, .nil, Nat.le_refl _⟩ (fun _ _ _ h => h.2.2) ?turn ?fin rfl (by decide) rfl
      case turn =>
        clear F N KX T
        rintro C D I oI k i v ys mC mt h tk hv ⟨rfl, hJ, hJl⟩ F N hoff hDI
        refine hf.out hv ?_
        intro f hfi hfm a tt b fvs c pus e10 e2 e3 e4 e5 e6
        subst e10
        have hokp := all_of fact_mod hfm
        rw [Bool.and_eq_true, decide_eq_true_eq] at hokp
        replace hokp := hokp.2
        w_strict (walk_at "M steps")
        refine ⟨_, _, _, [], rfl, by with_reducible assumption, by with_reducible assumption, (fun _ h => nomatch h), rfl, ?_, by simp; omega⟩
        rw [List.take_add_one, hfi, List.map_append]
        exact StrsAre.append hJ (.cons _ _ .nil)
      case fin =>
        clear F N X1 T1 hf
        rintro D2 k2 ys2 mt h3 tk3 ⟨rfl, hJ2, hJl2⟩ F N hext2 hD2 hmt
        clear hmt hext2 hD2
        rw [hvl, List.take_length] at hJ2
        simp only [List.nil_append] at N
        w_strict (walk_at "M steps")
        exact ⟨by trivial, _, _, _, _, rfl, F, N, rfl, rfl, rfl, fun p hp => .tail _ (.tail _ hp)⟩
  · rintro s' ⟨h', tk', m, news₁, rfl, F, N, hdp, hdm, hrow, up⟩
    exact law_6 KX T F N hdp hdm hrow (up _ pdp) (up _ pdm) (up _ pr) (HP.more up) (HM.more up) (HR.more up) hPL hMD hlen hQ
end
section
set_option maxRecDepth 100000
set_option maxHeartbeats 4000000
theorem kw_F9e_0 : True := by
  k_with_none
  k_with "M enter" => (refine' enter0 ?kq_k3 ?kq_k5 ?kq_k6 ?kq_k7 ?kq_k8 ?kq_k9 ?kq_kB ?_ ?kq_c2 ?kq_c3 ?kq_c4 ?kq_c5; (case kq_k3 => assumption); (case kq_k5 => assumption); (case kq_k6 => k_is); (case kq_k7 => k_is); (case kq_k8 => decide); (case kq_k9 => exact BindsTo.of_eq rfl); (case kq_kB => exact locs rfl); (case kq_c2 => rfl); (case kq_c3 => rfl); (case kq_c4 => rfl); (case kq_c5 => decide); intro _ _ _ _; dsimp only; k_fold)
  k_with "M steps" => repeat' (first | (k_unfold; (try dsimp only)) | walk1 | (dsimp only; walk1))
  k_with "M end" => ((try dsimp only); (try k_unfold); (try dsimp only))
  k_with "ite" => first | (refine PySem.W.ite_pos (by assumption) ?_) | (refine PySem.W.ite_neg (by assumption) ?_) | (refine PySem.W.ite_neg (ne_true_of_eq_false (by assumption)) ?_)
  exact True.intro
theorem kfill_once16 : (fun (_ : OpenLaw) (_ : Params → Frag) => True) PySem.Challenge.rw_ny0070_01 hd.heap_39 := by k_fill; w_on; trivial
variable {prog : Program} {w : World} {mean : ExcName → Option Value} {mg mb : Str → Option Value} {s : Shared}
theorem kw_F9e_1 : True := by
  k_with "M enterC" => (refine' enterC ?kq_k3 ?kq_k5 ?kq_k6 ?kq_k7 ?kq_k8 ?kq_k9 ?kq_kB ?kq_kD ?_ ?kq_c2 ?kq_c3 ?kq_c4; (case kq_k3 => assumption); (case kq_k5 => assumption); (case kq_k6 => k_is); (case kq_k7 => k_is); (case kq_k8 => decide); (case kq_k9 => exact BindsTo.of_eq rfl); (case kq_kB => rfl); (case kq_kD => decide +kernel); (case kq_c2 => rfl); (case kq_c3 => rfl); (case kq_c4 => rfl); intro _ _ _ _ _ _ Y'; k_cells Y'; (try dsimp only); (try k_unmd); k_fold)
  k_with "eval ListComp" => (k_dflt ((with_reducible refine' comp_open ?_ ?kq_hclos ?kq_hs ?kq_hkind ?kq_hnames); (case kq_hclos => rfl); (case kq_hs => intro _; rfl); (case kq_hkind => rfl); (case kq_hnames => decide)))
  k_with "eval Name" => (k_here; k_dflt (first
  | (refine' nameC_L ?kq_F ?kq_v ?_ ?kq_a ?kq_b ?kq_d; (case kq_F => k_asm); (case kq_a => rfl); (case kq_b => rfl); (case kq_d => decide); (case kq_v => rfl); k_whole)
  | (refine' nameC_C ?kq_F ?kq_c ?kq_o ?kq_d ?_ ?kq_a ?kq_b ?kq_e; (case kq_F => k_asm); (case kq_a => rfl); (case kq_b => rfl); (case kq_e => decide); (case kq_c => rfl); (case kq_o => with_reducible assumption); (case kq_d => with_reducible assumption); k_whole)
  | (refine' nameG_K ?kq_F ?kq_X ?kq_T ?kq_e ?_ ?kq_g ?kq_a ?kq_b ?kq_d; (case kq_g => rfl); (case kq_a => rfl); (case kq_b => rfl); (case kq_d => decide); (case kq_F => k_asm); (case kq_X => k_asm); (case kq_T => k_asm); (case kq_e => k_is); k_whole)
  | (refine' nameC_B ?kq_F ?kq_X ?kq_T ?kq_e ?kq_v ?kq_n ?_ ?kq_g ?kq_bb ?kq_a ?kq_b ?kq_d; (case kq_g => rfl); (case kq_bb => rfl); (case kq_a => rfl); (case kq_b => rfl); (case kq_d => decide); (case kq_F => k_asm); (case kq_X => k_asm); (case kq_T => k_asm); (case kq_e => k_is); (case kq_v => boot_fast); (case kq_n => decide); k_whole)))
  k_with "M mem" => (repeat (first | with_reducible assumption | exact List.mem_cons_self | refine List.mem_cons_of_mem _ ?_))
  k_with "exec Assign cons ListComp" => (k_dflt ((with_reducible refine' comp_assign ?_ ?kq_hsw ?kq_hclos ?kq_hs ?kq_hkind ?kq_hnames); (case kq_hsw => with_unfolding_all rfl); (case kq_hclos => rfl); (case kq_hs => intro _; rfl); (case kq_hkind => rfl); (case kq_hnames => decide)))
  k_with "storeName" => (k_here; k_dflt (refine' storeC ?kq_F ?kq_N ?_ ?kq_a ?kq_b; (case kq_F => k_asm); (case kq_N => k_asm); (case kq_a => rfl); (case kq_b => rfl)); intro _ _ _)
  k_with "call ref" => (k_here; (with_reducible show wpAny _ _ (call (Value.ref 132) _) _ _ _); k_dflt (refine' use_back (file_spec rfl ?kq_kx ?kq_kt) ?kq_kf ?kq_kn ?_; (case kq_kx => k_in); (case kq_kt => exact Top.keeps (by with_reducible assumption) (Fr.keep (by k_asm))); (case kq_kf => k_asm); (case kq_kn => k_asm)); intro _ _ _ _ _ _ _ _ hP'; obtain ⟨_, _, _, _, _, _, hP1, hP2, _, _⟩ := hP'; subst hP1; subst hP2)
  exact True.intro
noncomputable def Halt (P : Prop) : Prop := P
theorem halt {P : Prop} (h : Halt P) : P := h
theorem kw_F9e_2 : True := by
  k_with "pyIter ref" => refine halt ?_
  exact True.intro
theorem wpAny_flat {α : Type} {M : Model} {A : Around} {t : Sem α} {Q : α → Shared → Prop} {E : Value → Shared → Prop} {S s₁ : Shared} {h : Heap} (H : ∀ tk, wpAny M A t Q E { s₁ with heap := h, toks := tk }) (e : S = { s₁ with heap := h, toks := S.toks }) : wpAny M A t Q E S := by
  rw [e]; exact H _
noncomputable def FilesS (s₁ : Shared) (L dp dm : Addr) (news : List (Addr × Obj)) (s' : Shared) : Prop := ∃ h' tk' m r rs nr gs news₁, s' = { s₁ with heap := h', toks := tk' } ∧ Fr s₁.heap L h' m ∧ News s₁.heap L h' news₁ ∧ m (Str.ofString "places") = some (.ref dp) ∧ m (Str.ofString "mods") = some (.ref dm) ∧ m (Str.ofString "files") = some (.ref r) ∧ (∀ p ∈ news, p ∈ news₁) ∧ (r, listOf (List.toArray rs) nr) ∈ news₁ ∧ Held s₁.heap news₁ (fun h => FilesAt h rs gs) ∧ gs.length ≤ 50
theorem law_4 {s₁ : Shared} {L fa sc : Addr} {cd : Value} {svs : List Value} {ns : List Int} {h' : Heap} {tk' : Nat} {m : Str → Option Value} {dp dm : Addr} {qs ms : List Value} {n n' : Nat} {PL MD : List (List Str)} {news : List (Addr × Obj)} {Q : Flow → Shared → Prop} {E : Value → Shared → Prop}
   (KX : (hd.heap_39 w.params).In s₁.heap) (T : Top hd.view_39 (looseW hd.view_39 []) mean mg mb s₁.heap) (hL : s₁.heap.IsList sc svs.toArray) (hI : IntsAre svs ns) (hc1 : ¬ ((63 : Nat) : Int) < (ns.length : Int)) (F : Fr s₁.heap L h' m) (N : News s₁.heap L h' news) (hsc : m (Str.ofString "script") = some (.ref sc)) (hdp : m (Str.ofString "places") = some (.ref dp)) (hdm : m (Str.ofString "mods") = some (.ref dm))
   (pdp : (dp, listOf qs.toArray n) ∈ news) (pdm : (dm, listOf ms.toArray n') ∈ news) (HP : Held s₁.heap news (fun h => LstsAt h qs PL)) (HM : Held s₁.heap news (fun h => LstsAt h ms MD)) (hPL : PL ∈ menuP) (hMD : MD ∈ menuM)
   (hQ : ∀ h' tk', Ext s₁.heap h' → Q (.ret (.bool true)) { s₁ with heap := h', toks := tk' }) :
   wpAny (model prog w) (callerA.deeper (envOf (Str.ofString "law") lawScope L fa cd)) (execs (lawBody.drop 3) (envOf (Str.ofString "law") lawScope L fa cd)) Q E { s₁ with heap := h', toks := tk' } := by
  conv in (List.drop 3 lawBody) => whnf
  refine cut_stmt (FilesS s₁ L dp dm news) ?_ ?_
  · rw [show lawScope = _ from by conv => lhs; whnf]
    replace F := Fr.known3 F hsc hdp hdm
    w_strict (walk_at "M steps")
    rename_i lr ws h2 F2 N2 hI2 l2
    delta Halt
    refine wpAny_flat (s₁ := s₁) (h := h2) ?_ rfl
    intro tkk
    have X1 := KX.keeps F2.keep
    have T1 := T.keeps F2.keep
    have key : ∃ xs : List Int, IntsAre ws xs ∧ xs.length ≤ 14 := ⟨_, hI2, by
      rw [List.length_append, List.length_take]
      simp only [List.length_cons, List.length_nil]
      omega⟩
    clear hI2
    obtain ⟨xs, hI2, hx14⟩ := key
    have hwl : ws.length = xs.length := by
      have := hI2.sizeZ
      rw [List.size_toArray] at this
      exact Int.ofNat_inj.mp this
    with_reducible refine' comp_pure_assign (vs := ws) (Q := fun f s' => Fin9 (f = Flow.next ∧ FilesS s₁ L dp dm news s')) ?F ?N ?hl ?sz (fun i ys mt => (∀ h : Heap, (∀ p ∈ mt, h.get? p.1 = some p.2) → FilesAt h ys ((xs.take i).map fdOf)) ∧ ys.length ≤ i) ?h0 ?hlen ?turn ?fin ?hh ?cell ?kd ?hy ?hp
    case hh => rfl
    case kd => rfl
    case hl => exact News.isList N2 (.head _)
    case F => exact F2
    case N => exact N2
    case sz => omega
    case h0 => exact ⟨fun _ _ => .nil, Nat.le_refl _⟩
    case hlen => exact fun _ _ _ h => h.2
    case cell => decide
    case hy => rfl
    case hp => rfl
    case turn =>
      clear F2 N2 KX T
      rintro C D I oI k i v ys mC mt h tk hv ⟨hJ, hJl⟩ F N hoff hDI
      obtain ⟨x, tx, rfl, hx⟩ := hI2.at i v hv
      w_strict (walk_at "M steps")
      rename_i h3 tk3 F3 e3 a3 t3 b3 vs3 c3 us3 p3 p4 N3 hne3
      have hD := fun p hp => hne3 p hp (D, listOf ys.toArray k) (.head _)
      have hI' := fun p hp => hne3 p hp (I, oI) (.tail _ (.head _))
      refine ⟨_, _, _, [(a3, tupO [.str (fdOf x).text t3, .ref b3, .ref c3] 0), (b3, listOf vs3.toArray 0), (c3, listOf us3.toArray 0)] ++ mt, rfl, F3, fun p hp => ?_, fun p hp => ?_, fun h hh => ?_, by simp; omega⟩
      · rcases List.mem_cons.mp hp with rfl | hp
        · exact N3 _ (List.mem_append_right _ (.head _))
        · rcases List.mem_cons.mp hp with rfl | hp
          · exact N3 _ (List.mem_append_right _ (.tail _ (.head _)))
          · rcases List.mem_append.mp hp with hp | hp
            · exact N3 _ (List.mem_append_left _ hp)
            · exact N3 _ (List.mem_append_right _ (.tail _ (.tail _ hp)))
      · rcases List.mem_append.mp hp with hp | hp
        · exact ⟨Ne.symm (hD p hp), Ne.symm (hI' p hp)⟩
        · exact hoff p hp
      · have e9 : List.take (i + 1) xs = List.take i xs ++ [x] := by rw [List.take_add_one, hx]; rfl
        rw [e9, List.map_append]
        exact (hJ h fun p hp => hh p (List.mem_append_right _ hp)).append (.cons ⟨fdOf_mem x, a3, t3, b3, vs3, c3, us3, rfl, hh _ (.head _), hh _ (.tail _ (.head _)), hh _ (.tail _ (.tail _ (.head _))), p3, p4⟩ .nil)
    case fin =>
      rintro D k ys mt h tk ⟨hJ, hJl⟩ F N
      rw [hwl, List.take_length] at hJ
      refine ⟨by trivial, _, _, _, D, ys, k, _, _, rfl, F, N, rfl, rfl, rfl, fun p hp => ?_, .head _, fun h' e kk => hJ h' fun p hp => kk p (.tail _ (List.mem_append_left _ hp)), ?_⟩
      · exact .tail _ (List.mem_append_right _ (.tail _ (.tail _ (.tail _ hp))))
      · rw [List.length_map, ← hwl]; omega
  · rintro s' ⟨h', tk', m, r, rs, nr, gs, news₁, rfl, F, N, hdp, hdm, hrow, up, pr, HR, hlen⟩
    exact law_5 KX T F N hdp hdm hrow (up _ pdp) (up _ pdm) pr (HP.more up) (HM.more up) HR hPL hMD hlen hQ
end
section
set_option maxRecDepth 100000
set_option maxHeartbeats 4000000
theorem kw_F9_0 : True := by
  k_with_none
  k_with "M enter" => (refine' enter0 ?kq_k3 ?kq_k5 ?kq_k6 ?kq_k7 ?kq_k8 ?kq_k9 ?kq_kB ?_ ?kq_c2 ?kq_c3 ?kq_c4 ?kq_c5; (case kq_k3 => assumption); (case kq_k5 => assumption); (case kq_k6 => k_is); (case kq_k7 => k_is); (case kq_k8 => decide); (case kq_k9 => exact BindsTo.of_eq rfl); (case kq_kB => exact locs rfl); (case kq_c2 => rfl); (case kq_c3 => rfl); (case kq_c4 => rfl); (case kq_c5 => decide); intro _ _ _ _; dsimp only; k_fold)
  k_with "M steps" => repeat' (first | (k_unfold; (try dsimp only)) | walk1 | (dsimp only; walk1))
  k_with "M end" => ((try dsimp only); (try k_unfold); (try dsimp only))
  k_with "ite" => first | (refine PySem.W.ite_pos (by assumption) ?_) | (refine PySem.W.ite_neg (by assumption) ?_) | (refine PySem.W.ite_neg (ne_true_of_eq_false (by assumption)) ?_)
  exact True.intro
variable {prog : Program} {w : World} {mean : ExcName → Option Value} {mg mb : Str → Option Value} {s : Shared}
theorem kw_F9_1 : True := by
  k_with "M enterC" => (refine' enterC ?kq_k3 ?kq_k5 ?kq_k6 ?kq_k7 ?kq_k8 ?kq_k9 ?kq_kB ?kq_kD ?_ ?kq_c2 ?kq_c3 ?kq_c4; (case kq_k3 => assumption); (case kq_k5 => assumption); (case kq_k6 => k_is); (case kq_k7 => k_is); (case kq_k8 => decide); (case kq_k9 => exact BindsTo.of_eq rfl); (case kq_kB => rfl); (case kq_kD => decide +kernel); (case kq_c2 => rfl); (case kq_c3 => rfl); (case kq_c4 => rfl); intro _ _ _ _ _ _ Y'; k_cells Y'; (try dsimp only); (try k_unmd); k_fold)
  k_with "eval ListComp" => (k_dflt ((with_reducible refine' comp_open ?_ ?kq_hclos ?kq_hs ?kq_hkind ?kq_hnames); (case kq_hclos => rfl); (case kq_hs => intro _; rfl); (case kq_hkind => rfl); (case kq_hnames => decide)))
  k_with "eval Name" => (k_here; k_dflt (first
  | (refine' nameC_L ?kq_F ?kq_v ?_ ?kq_a ?kq_b ?kq_d; (case kq_F => k_asm); (case kq_a => rfl); (case kq_b => rfl); (case kq_d => decide); (case kq_v => rfl); k_whole)
  | (refine' nameC_C ?kq_F ?kq_c ?kq_o ?kq_d ?_ ?kq_a ?kq_b ?kq_e; (case kq_F => k_asm); (case kq_a => rfl); (case kq_b => rfl); (case kq_e => decide); (case kq_c => rfl); (case kq_o => with_reducible assumption); (case kq_d => with_reducible assumption); k_whole)
  | (refine' nameG_K ?kq_F ?kq_X ?kq_T ?kq_e ?_ ?kq_g ?kq_a ?kq_b ?kq_d; (case kq_g => rfl); (case kq_a => rfl); (case kq_b => rfl); (case kq_d => decide); (case kq_F => k_asm); (case kq_X => k_asm); (case kq_T => k_asm); (case kq_e => k_is); k_whole)
  | (refine' nameC_B ?kq_F ?kq_X ?kq_T ?kq_e ?kq_v ?kq_n ?_ ?kq_g ?kq_bb ?kq_a ?kq_b ?kq_d; (case kq_g => rfl); (case kq_bb => rfl); (case kq_a => rfl); (case kq_b => rfl); (case kq_d => decide); (case kq_F => k_asm); (case kq_X => k_asm); (case kq_T => k_asm); (case kq_e => k_is); (case kq_v => boot_fast); (case kq_n => decide); k_whole)))
  exact True.intro
theorem law_good {s₀ s₁ : Shared} {args : List WData} {h' : Heap} {tk' : Nat} (e : Ext s₁.heap h') (hg : s₁.gens = #[]) : GoodW PySem.Challenge.rw_ny0070_01.row.claim (classAt s₀.heap) (ExcName.means s₀.heap) args s₁ (.ok (.ret (.bool true))) { s₁ with heap := h', toks := tk' } := by
  refine ⟨.inl ⟨.bool true, .bool true, [], rfl, fun _ => ?_, .bool true, ?_, fun _ => ⟨List.nodup_nil, fun _ h => nomatch h⟩⟩, e, rfl, hg⟩
  · rfl
  · exact postW_of (by wrow_shape) (by wtm_val) (by w_fin)
theorem kw_F9_2 : True := by
  k_with "M mem" => (repeat (first | with_reducible assumption | exact List.mem_cons_self | refine List.mem_cons_of_mem _ ?_))
  k_with "subscriptTail Tuple cons BinOp ref int" => (k_here; k_dflt (refine' item_pick ?kq_t ?kq_k0 ?kq_k1 ?kq_k2 ?_; (case kq_t => exact News.isTup (by k_asm) (by walk_at "M mem")); (case kq_k0 => exact (fmod_lt4 _).1); (case kq_k1 => exact (fmod_lt4 _).2); (case kq_k2 => exact Nat.le_of_ble_eq_true rfl); intro _ _))
  exact True.intro
theorem pick_mods {g h : Heap} {L l0 l1 l2 l3 x1 x2 x3 : Addr} {news : List (Addr × Obj)} {k : Int} {v : Value} {t1 t2 t3 u3 : Tok} (_N : News g L h news) (hk : 0 ≤ k ∧ k < 4) (hv : [Value.ref l0, .ref l1, .ref l2, .ref l3][k.toNat]? = some v)
    (a0 : (l0, listOf (List.toArray ([] : List Value)) 0) ∈ news)
    (a1 : (l1, listOf (List.toArray [.ref x1]) 0) ∈ news) (b1 : (x1, listOf (List.toArray [.str (Str.ofString "x") t1]) 0) ∈ news)
    (a2 : (l2, listOf (List.toArray [.ref x2]) 0) ∈ news) (b2 : (x2, listOf (List.toArray [.str (Str.ofString "a") t2]) 0) ∈ news)
    (a3 : (l3, listOf (List.toArray [.ref x3]) 0) ∈ news) (b3 : (x3, listOf (List.toArray [.str (Str.ofString "") t3, .str (Str.ofString "c") u3]) 0) ∈ news) :
    ∃ dm ms n MD, v = .ref dm ∧ (dm, listOf (List.toArray ms) n) ∈ news ∧ Held g news (fun h => LstsAt h ms MD) ∧ MD ∈ menuM := by
  rcases four hk with e | e | e | e <;> rw [e] at hv <;> cases hv
  · exact ⟨_, [], _, _, rfl, a0, fun h e k => LstsAt.nil, .head _⟩
  · exact ⟨_, _, _, _, rfl, a1, fun h e k => LstsAt.cons (k (_, _) b1) (StrsAre.cons _ _ .nil) .nil, .tail _ (.head _)⟩
  · exact ⟨_, _, _, _, rfl, a2, fun h e k => LstsAt.cons (k (_, _) b2) (StrsAre.cons _ _ .nil) .nil, .tail _ (.tail _ (.head _))⟩
  · exact ⟨_, _, _, _, rfl, a3, fun h e k => LstsAt.cons (k (_, _) b3) (StrsAre.cons _ _ (StrsAre.cons _ _ .nil)) .nil, .tail _ (.tail _ (.tail _ (.head _)))⟩
theorem law_holds : PySem.Challenge.rw_ny0070_01.Holds := by
  refine hd ?_
  w_strict (k_go0; (all_goals try k_fold))
  rename_i w s₀ s₁ mg mb G Y fa o pm doc kV ho hg KX X V GL T B TE TW w9 w8 M w7 w6 hcd ns hs hlay0 hL1 hr1 hl2 w4 w3 sc svs w0 hL ra w1 r0 hI hr hc1 hc0 K0 hD h₁ F N
  clear hs hlay0 hL1 hr1 hl2 ra w1 r0 hr hc0 K0 hD GL B TE TW M X V Y
  generalize hLs : s₁.heap.objs.size = L at F N ⊢
  with_reducible refine cut_stmt (fun s' => ∀ G : Prop, (∀ h' tk' m tt t, s' = { s₁ with heap := h', toks := tk' } → Fr s₁.heap L h' m → m (Str.ofString "script") = some (.ref sc) → m (Str.ofString "total") = some (.int tt t) → G) → G) ?_ ?_
  · w_strict (walk_at "M steps")
    exact ⟨by trivial, fun _ k => k _ _ _ _ _ rfl (by with_reducible assumption) rfl rfl⟩
  clear F N
  rintro s' hP9
  with_reducible refine hP9 _ ?_
  clear hP9
  intro h' tk' m tt t e9 F hsc htt
  subst e9
  replace F := Fr.known2 F hsc htt
  have N : News s₁.heap L h' [] := News.nil
  with_reducible refine cut_stmt (fun s' => ∀ G : Prop, (∀ h' tk' m t dp qs n PL news, s' = { s₁ with heap := h', toks := tk' } → Fr s₁.heap L h' m → News s₁.heap L h' news → m (Str.ofString "script") = some (.ref sc) → m (Str.ofString "total") = some (.int tt t) → m (Str.ofString "places") = some (.ref dp) → (dp, listOf (List.toArray qs) n) ∈ news → Held s₁.heap news (fun h => LstsAt h qs PL) → PL ∈ menuP → G) → G) ?_ ?_
  · w_strict (walk_at "M steps")
    rename_i v hv
    rcases four (fmod_lt4 tt) with e | e | e | e <;> rw [e] at hv <;> cases hv <;> w_strict (walk_at "M steps")
    · refine ⟨by trivial, fun _ k => k _ _ _ _ _ _ _ _ _ rfl (by with_reducible assumption) (by with_reducible assumption) rfl rfl rfl (.head _) (fun h e k => ?_) (.head _)⟩
      exact LstsAt.cons (k (_, _) (by walk_at "M mem")) (StrsAre.cons _ _ .nil) .nil
    · refine ⟨by trivial, fun _ k => k _ _ _ _ _ _ _ _ _ rfl (by with_reducible assumption) (by with_reducible assumption) rfl rfl rfl (.head _) (fun h e k => ?_) (.tail _ (.head _))⟩
      exact LstsAt.cons (k (_, _) (by walk_at "M mem")) (StrsAre.cons _ _ .nil) (LstsAt.cons (k (_, _) (by walk_at "M mem")) (StrsAre.cons _ _ .nil) .nil)
    · refine ⟨by trivial, fun _ k => k _ _ _ _ _ _ _ _ _ rfl (by with_reducible assumption) (by with_reducible assumption) rfl rfl rfl (.head _) (fun h e k => ?_) (.tail _ (.tail _ (.head _)))⟩
      exact LstsAt.cons (k (_, _) (by walk_at "M mem")) (StrsAre.cons _ _ .nil) (LstsAt.cons (k (_, _) (by walk_at "M mem")) (StrsAre.cons _ _ (StrsAre.cons _ _ .nil)) .nil)
    · refine ⟨by trivial, fun _ k => k _ _ _ _ _ _ _ _ _ rfl (by with_reducible assumption) (by with_reducible assumption) rfl rfl rfl (.head _) (fun h e k => ?_) (.tail _ (.tail _ (.tail _ (.head _))))⟩
      exact LstsAt.cons (k (_, _) (by walk_at "M mem")) (StrsAre.cons _ _ .nil) (LstsAt.cons (k (_, _) (by walk_at "M mem")) (StrsAre.cons _ _ .nil) .nil)
  clear F N hsc htt
  clear m
  rintro s' hP9
  with_reducible refine hP9 _ ?_
  clear hP9
  intro h' tk' m t dp qs n PL news e9 F N hsc htt hdp pdp HP hPL
  subst e9
  replace F := Fr.known3 F hsc htt hdp
  with_reducible refine cut_stmt (fun s' => ∀ G : Prop, (∀ h' tk' m dm ms n' MD news, s' = { s₁ with heap := h', toks := tk' } → Fr s₁.heap L h' m → News s₁.heap L h' news → m (Str.ofString "script") = some (.ref sc) → m (Str.ofString "places") = some (.ref dp) → m (Str.ofString "mods") = some (.ref dm) → (dp, listOf (List.toArray qs) n) ∈ news → (dm, listOf (List.toArray ms) n') ∈ news → Held s₁.heap news (fun h => LstsAt h qs PL) → Held s₁.heap news (fun h => LstsAt h ms MD) → MD ∈ menuM → G) → G) ?_ ?_
  · w_strict (walk_at "M steps")
    rename_i v hv h9 F9 N9
    obtain ⟨dm, ms, n', MD, rfl, pdm, HM, hMD⟩ := pick_mods N9 (fmod_lt4 (tt.fdiv 4)) hv (by walk_at "M mem") (by walk_at "M mem") (by walk_at "M mem") (by walk_at "M mem") (by walk_at "M mem") (by walk_at "M mem") (by walk_at "M mem")
    exact ⟨by trivial, fun _ k => k _ _ _ _ _ _ _ _ rfl (by with_reducible assumption) (by with_reducible assumption) rfl rfl rfl (by walk_at "M mem") pdm (HP.more (fun p hp => by walk_at "M mem")) HM hMD⟩
  clear F N hsc htt hdp pdp HP
  clear m news
  rintro s' hP9
  with_reducible refine hP9 _ ?_
  clear hP9
  intro h' tk' m dm ms n' MD news e9 F N hsc hdp hdm pdp pdm HP HM hMD
  subst e9
  refine law_4 (prog := _) (mean := _) KX T hL hI hc1 F N hsc hdp hdm pdp pdm HP HM hPL hMD ?_
  intro h' tk' e
  exact law_good e hg
end
end Mine
theorem PySem.Challenge.cw_ny0070_01_holds : PySem.Challenge.rw_ny0070_01.Holds := by
  exact Mine.law_holds
