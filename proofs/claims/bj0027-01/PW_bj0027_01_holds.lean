import PyProof.Rows.All
import Wide.All
import OpenK.AllK
import Wide.FinOn
import PySem.Challenge.RW_bj0027_01
set_option Elab.async false
section
open PySem PySem.W PyProof.Rows
set_option maxRecDepth 100000
set_option maxHeartbeats 8000000
namespace Mine
open_top hd for PySem.Challenge.rw_bj0027_01
end Mine

theorem Mine.topOff : True := by
  w_top off
  trivial
end
theorem Mine.resetHd : True ∧ True := by
  first
  | (walk1; done)
  | exact ⟨trivial, trivial⟩
section
open PySem PySem.W PyProof.Rows PySem.Calls PySem.Spec
set_option maxRecDepth 100000
set_option maxHeartbeats 8000000
namespace Mine
noncomputable abbrev pr : Program := PySem.Challenge.rw_bj0027_01.row.prog
noncomputable abbrev vw : Program := hd.view_39
noncomputable abbrev KF (w : World) : Frag := hd.heap_39 w.params
noncomputable abbrev MO (w : World) : Model := model pr w

/-- all but the addresses of mu stays -/
def Ext (mu : List Addr) (h h' : Heap) : Prop := ∀ b o, b ∉ mu → h.get? b = some o → h'.get? b = some o
theorem Ext.refl {mu : List Addr} {h : Heap} : Ext mu h h := fun _ _ _ e => e
theorem Ext.trans {mu : List Addr} {h h' h'' : Heap} (a : Ext mu h h') (b : Ext mu h' h'') : Ext mu h h'' := fun x o n e => b x o n (a x o n e)
theorem Ext.mono {mu mu' : List Addr} {h h' : Heap} (a : Ext mu h h') (hs : ∀ x ∈ mu, x ∈ mu') : Ext mu' h h' := fun x o n e => a x o (fun q => n (hs x q)) e
theorem Ext.stays {h h' : Heap} (a : Ext [] h h') : h.StaysIn h' := fun x o e => a x o (fun q => nomatch q) e
theorem Ext.of_stays {mu : List Addr} {h h' : Heap} (a : h.StaysIn h') : Ext mu h h' := fun x o _ e => a x o e

/-- what is known of the ground -/
structure Gd (w : World) (mean : ExcName → Option Value) (mg mb : Str → Option Value) (B : Heap) : Prop where
  X : (hd.heap_39 w.params).In B
  T : Top topProg (looseW vw [] ++ (recsOf vw).map (·.name) ++ (litsOf vw).map (·.1) ++ (clssOf vw (looseW vw [])).map (·.name)) mean mg mb B

/-- the frames around -/
structure Cx (B : Heap) (A : Around) (outer : List Env) (s : Shared) : Prop where
  fr : A.frames = some outer
  ff : s.heap.FunFrames B outer
  kp : B.StaysIn s.heap
  hh : A.handled = none

section
variable {w : World} {mean : ExcName → Option Value} {mg mb : Str → Option Value} {B : Heap} {A : Around} {outer : List Env} {s : Shared}

theorem Cx.below (c : Cx B A outer s) : Below A B outer s.heap := ⟨c.fr, c.kp, c.ff⟩

/-- the ground behind a call: the heap without the lot that may turn -/
theorem rebase (G : Gd w mean mg mb B) (c : Cx B A outer s) (mu : List (Addr × Obj)) (hmu : ∀ p ∈ mu, s.heap.get? p.1 = some p.2) (hB : ∀ p ∈ mu, B.get? p.1 = none)
    (hf : ∀ env ∈ outer, ∀ p ∈ mu, env.frame ≠ some p.1) :
    Gd w mean mg mb (hideAll s.heap (mu.map (·.1))) ∧ Below A B outer (hideAll s.heap (mu.map (·.1))) ∧ Ext (mu.map (·.1)) s.heap (hideAll s.heap (mu.map (·.1))) := by
  have nm : ∀ b o, B.get? b = some o → b ∉ mu.map (·.1) := fun b o e q => by
    obtain ⟨p, hp, rfl⟩ := List.mem_map.mp q
    rw [hB p hp] at e; cases e
  have st : B.StaysIn (hideAll s.heap (mu.map (·.1))) := fun b o e => hideAll_get _ (c.kp b o e) (nm b o e)
  refine ⟨⟨G.X.keeps st, G.T.keeps st⟩, ⟨c.fr, st, funFrames_hideAll c.ff fun env he b hb hf' => ?_⟩, fun b o n e => hideAll_get _ e n⟩
  obtain ⟨p, hp, rfl⟩ := List.mem_map.mp hb
  exact hf env he p hp hf'

/-- the new frame of a call, over all that was there but the lot -/
theorem entered {h h₁ : Heap} {m : Str → Option Value} {mu : List (Addr × Obj)} (hmu : ∀ p ∈ mu, h.get? p.1 = some p.2) (kept : ∀ b o, h.get? b = some o → h₁.get? b = some o) (hns : h₁.Ns h.objs.size m) :
    Fr (hideAll h (mu.map (·.1))) h.objs.size h₁ m ∧ News (hideAll h (mu.map (·.1))) h.objs.size h₁ mu ∧ ∀ p ∈ mu, p.1 < h.objs.size :=
  have lt : ∀ p ∈ mu, p.1 < h.objs.size := fun p hp => Heap.lt_size (hmu p hp)
  ⟨⟨hns, fun b o e => kept b o (of_hideAll _ e), Nat.le_of_eq (hideAll_size _ _)⟩, fun p hp => ⟨kept _ _ (hmu p hp), Nat.ne_of_lt (lt p hp), hideAll_none _ (List.mem_map_of_mem hp)⟩, lt⟩
/-- with the cells that the call made -/
theorem News.cells {h h₁ : Heap} {L : Addr} {l : List Addr} {cells mu : List (Addr × Obj)} (NC : News h L h₁ cells) (N : News (hideAll h l) L h₁ mu) : News (hideAll h l) L h₁ (cells ++ mu) := fun p hp =>
  (List.mem_append.mp hp).elim (fun hc => ⟨(NC p hc).1, (NC p hc).2.1, Option.eq_none_iff_forall_ne_some.mpr fun o e => by
    have := of_hideAll _ e
    rw [(NC p hc).2.2] at this
    cases this⟩) (N p)

theorem callP (G : Gd w mean mg mb B) (c : Cx B A outer s) (mu : List (Addr × Obj)) (hmu : ∀ p ∈ mu, s.heap.get? p.1 = some p.2) (hB : ∀ p ∈ mu, B.get? p.1 = none)
    (hf : ∀ env ∈ outer, ∀ p ∈ mu, env.frame ≠ some p.1)
    {name qual : Str} {params : Arguments} {body : List Stmt} {scope : Scope} {dV kV doc pm cdv ct oc : Value} {an od : Option Addr} {osl : Array (Option Value)} {f : Addr} {pos : List Value} {binds : List (Str × Value)} {Q E : Value → Shared → Prop}
    (ho : List.lookup f (hd.heap_39 w.params) = some ⟨oc, od, .func (fnOf name qual params body scope dV kV doc pm an cdv ct), osl⟩) (hcd : codeIn (hd.heap_39 w.params) cdv qual = true) (hroom : A.depth < recursionLimit)
    (hbind : BindsTo s (fnOf name qual params body scope dV kV doc pm an cdv ct) ⟨pos, []⟩ binds) (hloc : ∀ y ∈ binds, scope.names.lookup y.1 = some .local)
    (hcell : ∀ x ∈ scope.names, x.2 ≠ .cell)
    (h : ∀ g L' h₁, Fr g L' h₁ (fun y => binds.reverse.lookup y) → News g L' h₁ mu → Below A B outer g → Gd w mean mg mb g → Ext (mu.map (·.1)) s.heap g → (∀ p ∈ mu, p.1 < L') → L' = s.heap.objs.size →
      wpAny (model pr w) (A.deeper (envOf qual scope L' f cdv)) (execs body (envOf qual scope L' f cdv))
        (fun fl s' => Q (match fl with | .ret v => v | _ => .none) s') (fun _ _ => False) { s with heap := h₁, toks := s.toks + binds.length })
    (hco : scope.isCoroutine = false := by rfl) (hgen : scope.isGenerator = false := by rfl) (hk : scope.kind = .function := by rfl) : wpAny (model pr w) A (call (.ref f) pos) Q E s := by
  obtain ⟨G', B', X'⟩ := rebase G c mu hmu hB hf
  refine wpAny_call ?_
  refine codeAny_call_def (fd := fnOf name qual params body scope dV kV doc pm an cdv ct) (body := body) (binds := binds) hroom (c.kp _ _ (G.X _ _ ho)) rfl (G.T.nolimit.keeps c.kp) (codeRec_of (G.X.keeps c.kp) hcd) rfl hbind hcell hloc (fun h₁ hns hk₁ => ?_) hco hgen hk
  obtain ⟨F₁, N₁, lt⟩ := entered hmu hk₁ hns
  exact wpAny_mono (h _ _ h₁ F₁ N₁ B' G' X' lt rfl) (fun _ _ hl => hl) fun _ _ y => y.elim

theorem callC (G : Gd w mean mg mb B) (c : Cx B A outer s) (mu : List (Addr × Obj)) (hmu : ∀ p ∈ mu, s.heap.get? p.1 = some p.2) (hB : ∀ p ∈ mu, B.get? p.1 = none)
    (hf : ∀ env ∈ outer, ∀ p ∈ mu, env.frame ≠ some p.1)
    {name qual : Str} {params : Arguments} {body : List Stmt} {scope : Scope} {dV kV doc pm cdv ct oc : Value} {an od : Option Addr} {osl : Array (Option Value)} {f : Addr} {pos : List Value} {binds : List (Str × Value)} {Q E : Value → Shared → Prop}
    (ho : List.lookup f (hd.heap_39 w.params) = some ⟨oc, od, .func (fnOf name qual params body scope dV kV doc pm an cdv ct), osl⟩) (hcd : codeIn (hd.heap_39 w.params) cdv qual = true) (hroom : A.depth < recursionLimit)
    (hbind : BindsTo s (fnOf name qual params body scope dV kV doc pm an cdv ct) ⟨pos, []⟩ binds)
    (hkind : (binds.all fun y => scope.names.lookup y.1 == some .local || scope.names.lookup y.1 == some .cell) = true)
    (hnd : ((cellsFrom 0 scope.names []).map (·.1)).Nodup)
    (h : ∀ g L' h₁ tk cells, Fr g L' h₁ (bindL (envOfC qual scope L' f cdv).kindOf binds fun _ => none) → News g L' h₁ (cells ++ mu) →
      CellsAre (bindC (envOfC qual scope L' f cdv).kindOf binds fun _ => none) (cellsFrom (L' + 1) scope.names []) cells → Below A B outer g → Gd w mean mg mb g → Ext (mu.map (·.1)) s.heap g → (∀ p ∈ mu, p.1 < L') → L' = s.heap.objs.size →
      wpAny (model pr w) (A.deeper (envOfC qual scope L' f cdv)) (execs body (envOfC qual scope L' f cdv))
        (fun fl s' => Q (match fl with | .ret v => v | _ => .none) s') (fun _ _ => False) { s with heap := h₁, toks := tk })
    (hco : scope.isCoroutine = false := by rfl) (hgen : scope.isGenerator = false := by rfl) (hk : scope.kind = .function := by rfl) : wpAny (model pr w) A (call (.ref f) pos) Q E s := by
  obtain ⟨G', B', X'⟩ := rebase G c mu hmu hB hf
  refine wpAny_call ?_
  refine codeAny_call_function hroom (c.kp _ _ (G.X _ _ ho)) rfl hco hgen rfl (codeRec_of (G.X.keeps c.kp) hcd) (hbind _ _ _ _ ?_)
  refine wpAny_newFunctionEnv_cells hk (kindsX hkind _) fun env' he s' x => ?_
  subst he
  refine ⟨(G.T.nolimit.keeps c.kp).keeps x.toInCall.keep, codeAny_func ?_⟩
  obtain ⟨h₁, tk, rfl, _⟩ := x.done
  obtain ⟨F₁, N₁, lt⟩ := entered hmu x.toInCall.keep x.toInCall.ns
  have named : ∀ n c, (n, c) ∈ cellsFrom (s.heap.objs.size + 1) scope.names [] → (cellsFrom (s.heap.objs.size + 1) scope.names []).lookup n = some c := fun n c hm =>
    lookup_of_mem_nodup (cellsFrom_names scope.names 0 (s.heap.objs.size + 1) [] [] rfl ▸ hnd) hm
  obtain ⟨cells, NC, Y⟩ := Cl.news (h₀ := s.heap) (Nat.le_refl _) fun n c hm => ⟨x.cell n c (named n c hm), x.above n c hm⟩
  exact wpAny_mono (h _ _ h₁ tk cells F₁ (News.cells NC N₁) Y B' G' X' lt rfl) (fun _ _ hl => hl) fun _ _ y => y.elim

/-- the frames around a call in this frame -/
theorem Cx.inner {env : Env} {L : Addr} {g : Heap} {m : Str → Option Value} {s' : Shared} {A' : Around} (K : Below A B outer g) (F : Fr g L s'.heap m) (hA : A'.frames = some (env :: outer)) (hf : env.frame = some L) (hk : env.scope.kind = .function) (hh : A'.handled = none) :
    Cx B A' (env :: outer) s' := by
  have hnew : B.get? L = none := by
    cases hq : B.get? L with
    | none => rfl
    | some o => exact absurd (Nat.lt_of_lt_of_le (Heap.lt_size (K.stays L o hq)) F.above) (Nat.lt_irrefl _)
  exact ⟨hA, .cons (by rw [hk]; decide) hf F.ns hnew (K.frames.of_keeps fun b o e _ => ⟨o, F.keep b o e, rfl⟩), fun b o e => F.keep b o (K.stays b o e), hh⟩
end
end Mine

end
theorem Mine.resetUB : True ∧ True := by
  first
  | (walk1; done)
  | exact ⟨trivial, trivial⟩
section
open PySem PySem.W PyProof.Rows PySem.Calls PySem.Spec
set_option maxRecDepth 100000
set_option maxHeartbeats 8000000
namespace Mine
theorem fillit : (PySem.Challenge.rw_bj0027_01 = PySem.Challenge.rw_bj0027_01 ∧ hd.heap_39 = hd.heap_39) := by k_fill; exact ⟨rfl, rfl⟩
def cellv (ns : List Int) (i : Int) : Int := if i < (ns.length : Int) then ((ns.getD i.toNat 0).natAbs : Int) else 5 * i + 2
theorem Ext.list {mu : List Addr} {h h' : Heap} {l : Addr} {its : Array Value} (e : Ext mu h h') (hl : h.IsList l its) (hm : l ∉ mu) : h'.IsList l its := let ⟨o, ho, r⟩ := hl; ⟨o, e l o hm ho, r⟩

theorem Ext.none {mu : List Addr} {h h' : Heap} {r : Addr} (e : Ext mu h h') (hm : r ∉ mu) (hr : h'.get? r = none) : h.get? r = none := by
  cases q : h.get? r with
  | none => rfl
  | some o => rw [e r o hm q] at hr; cases hr
section
variable {w : World} {mean : ExcName → Option Value} {mg mb : Str → Option Value} {B : Heap} {A : Around} {outer : List Env} {s : Shared}
theorem cell_spec (G : Gd w mean mg mb B) (c : Cx B A outer s)
    (hd : A.depth < recursionLimit) (hu : A.units + 100 < cLine)
    {l : Addr} {vs : List Value} {ns : List Int} (hl : s.heap.IsList l vs.toArray) (hi : IntsAre vs ns) (hlen : ns.length ≤ 63)
    {i : Int} {t0 : Tok} (h0 : 0 ≤ i) (h1 : i < 100) {Q E : Value → Shared → Prop}
    (hQ : ∀ t h' tk', Ext [] s.heap h' → Q (.int (cellv ns i) t) { s with heap := h', toks := tk' }) :
    wpAny (model pr w) A (call (.ref 76) [.ref l, .int i t0]) Q E s := by
  refine callP (f := 76) (binds := [(Str.ofString "script", .ref l), (Str.ofString "at", .int i t0)]) G c [] (fun _ h => nomatch h) (fun _ h => nomatch h) (fun _ _ _ h => nomatch h) (by k_is) (by k_is) hd (BindsTo.of_eq rfl) (locs rfl) (by decide) ?_ rfl rfl rfl
  intro g' L' h' F' N' B' G' X' _ _
  have hl' := X'.list hl (by simp)
  clear hl
  have hh := c.hh
  obtain ⟨KX', T'⟩ := G'
  clear G c B'
  try dsimp only

  change wpAny _ _ _ _ _ _
  k_fold
  k_steps
  · have e : cellv ns i = if ns.getD i.toNat 0 < 0 then -ns.getD i.toNat 0 else ns.getD i.toNat 0 := by
      unfold cellv; rw [if_pos (by assumption)]; split <;> omega
    rw [← e]
    exact hQ _ _ _ (X'.trans (Ext.of_stays F'.keep))
  · have e : cellv ns i = 5 * i + 2 := by unfold cellv; rw [if_neg (by assumption)]
    rw [← e]
    exact hQ _ _ _ (X'.trans (Ext.of_stays F'.keep))
end
end Mine

end
theorem Mine.resetUC : True ∧ True := by
  first
  | (walk1; done)
  | exact ⟨trivial, trivial⟩
section
open PySem PySem.W
namespace Mine
/-! the forest, in plain words -/
inductive Up (P : List (Int × Int)) : Int → Int → Nat → Prop
  | root {x : Int} : kdfHas P x = true → kdfLook P x 0 = x → Up P x x 0
  | step {x y r : Int} {n : Nat} : kdfHas P x = true → kdfLook P x 0 = y → y ≠ x → Up P y r n → Up P x r (n + 1)

theorem Up.has {P : List (Int × Int)} {x r : Int} {n : Nat} (h : Up P x r n) : kdfHas P x = true := by cases h <;> assumption
theorem Up.rootHas {P : List (Int × Int)} {x r : Int} {n : Nat} (h : Up P x r n) : kdfHas P r = true ∧ kdfLook P r 0 = r := by
  induction h with
  | root a b => exact ⟨a, b⟩
  | step _ _ _ _ ih => exact ih
theorem Up.det {P : List (Int × Int)} {x r r' : Int} {n n' : Nat} (h : Up P x r n) (h' : Up P x r' n') : r = r' ∧ n = n' := by
  induction h generalizing n' with
  | root a b =>
    cases h' with
    | root => exact ⟨rfl, rfl⟩
    | step _ c d _ => exact absurd (c.symm.trans b) d
  | step a b c _ ih =>
    cases h' with
    | root _ d => exact absurd (b.symm.trans d) c
    | step _ d e f =>
      rw [b] at d; subst d
      obtain ⟨h1, h2⟩ := ih f
      exact ⟨h1, by rw [h2]⟩
theorem Up.self {P : List (Int × Int)} {x r : Int} {n : Nat} (h : Up P x r n) : Up P r r 0 := .root h.rootHas.1 h.rootHas.2
theorem Up.eq_of_fix {P : List (Int × Int)} {x r : Int} {n : Nat} (h : Up P x r n) (hx : kdfLook P x 0 = x) : r = x ∧ n = 0 := by
  have := Up.det h (.root h.has hx)
  exact this
/-- one turn up -/
theorem Up.next {P : List (Int × Int)} {x r : Int} {n : Nat} (h : Up P x r n) (hx : kdfLook P x 0 ≠ x) : ∃ m, n = m + 1 ∧ Up P (kdfLook P x 0) r m ∧ x ≠ r := by
  cases h with
  | root _ b => exact absurd b hx
  | step a b c d =>
    subst b
    refine ⟨_, rfl, d, fun e => hx ?_⟩
    subst e
    exact d.rootHas.2

/-! the tables -/
theorem kdfHas_put {P : List (Int × Int)} {k v x : Int} : kdfHas (kdfPut P k v) x = (decide (x = k) || kdfHas P x) := kdyHas_put P k x v
theorem kdfHas_iff {P : List (Int × Int)} {x : Int} : kdfHas P x = true ↔ x ∈ P.map (·.1) := by
  unfold kdfHas
  rw [List.any_eq_true, List.mem_map]
  constructor
  · rintro ⟨p, hp, e⟩; exact ⟨p, hp, by simpa using e⟩
  · rintro ⟨p, hp, e⟩; exact ⟨p, hp, by simpa using e⟩
theorem kdfHas_false {P : List (Int × Int)} {x : Int} : kdfHas P x = false ↔ x ∉ P.map (·.1) := by
  rw [← kdfHas_iff]; cases kdfHas P x <;> simp
theorem kdfPut_old {P : List (Int × Int)} {k v : Int} (h : kdfHas P k = true) : kdfPut P k v = P.map (fun p => if decide (p.1 = k) then (p.1, v) else p) := by
  unfold kdfPut; unfold kdfHas at h; rw [if_pos h]
theorem kdfPut_new {P : List (Int × Int)} {k v : Int} (h : kdfHas P k = false) : kdfPut P k v = P ++ [(k, v)] := by
  unfold kdfPut; unfold kdfHas at h; rw [if_neg (by rw [h]; simp)]
theorem keys_put_old {P : List (Int × Int)} {k v : Int} (h : kdfHas P k = true) : (kdfPut P k v).map (·.1) = P.map (·.1) := by
  rw [kdfPut_old h, List.map_map]
  refine List.map_congr_left fun p _ => ?_
  show (if decide (p.1 = k) = true then (p.1, v) else p).1 = p.1
  split <;> rfl
theorem keys_put_new {P : List (Int × Int)} {k v : Int} (h : kdfHas P k = false) : (kdfPut P k v).map (·.1) = P.map (·.1) ++ [k] := by
  rw [kdfPut_new h]; simp
theorem look_cons {i v k d : Int} {P : List (Int × Int)} : kdfLook ((i, v) :: P) k d = if i = k then v else kdfLook P k d := by
  unfold kdfLook
  rw [List.find?_cons]
  by_cases h : i = k <;> simp [h]
theorem look_put {P : List (Int × Int)} {k v x d : Int} : kdfLook (kdfPut P k v) x d = if x = k then v else kdfLook P x d := by
  by_cases hk : kdfHas P k = true
  · rw [kdfPut_old hk]
    induction P with
    | nil => cases hk
    | cons p P ih =>
      obtain ⟨i, u⟩ := p
      rw [List.map_cons]
      by_cases hi : i = k
      · subst hi
        simp only [decide_true, if_true]
        rw [look_cons, look_cons]
        by_cases hx : i = x
        · subst hx; simp
        · rw [if_neg hx, if_neg (fun e => hx e.symm), if_neg hx]
          by_cases hk' : kdfHas P i = true
          · rw [ih hk', if_neg (fun e => hx e.symm)]
          · congr 1
            refine (List.map_congr_left fun p hp => ?_).trans (List.map_id P)
            have : p.1 ≠ i := fun e => hk' (kdfHas_iff.mpr (List.mem_map.mpr ⟨p, hp, e⟩))
            simp [this]
      · have hk' : kdfHas P k = true := by
          unfold kdfHas at hk ⊢
          simpa [hi] using hk
        have e : (if decide (i = k) = true then (i, v) else (i, u)) = (i, u) := by rw [if_neg (by simpa using hi)]
        show kdfLook ((if decide (i = k) = true then (i, v) else (i, u)) :: _) x d = _
        rw [e, look_cons, look_cons]
        by_cases hx : i = x
        · subst hx; rw [if_pos rfl, if_neg hi, if_pos rfl]
        · rw [if_neg hx, if_neg hx]; exact ih hk'
  · replace hk : kdfHas P k = false := by simpa using hk
    rw [kdfPut_new hk]
    induction P with
    | nil =>
      show kdfLook ((k, v) :: []) x d = _
      rw [look_cons]
      by_cases hx : x = k
      · rw [if_pos hx, if_pos hx.symm]
      · rw [if_neg hx, if_neg (fun e => hx e.symm)]
    | cons p P ih =>
      obtain ⟨i, u⟩ := p
      have hh : i ≠ k ∧ kdfHas P k = false := by
        unfold kdfHas at hk ⊢
        simpa using hk
      show kdfLook ((i, u) :: (P ++ [(k, v)])) x d = _
      rw [look_cons, look_cons, ih hh.2]
      by_cases hx : i = x
      · subst hx; rw [if_pos rfl, if_neg hh.1, if_pos rfl]
      · rw [if_neg hx, if_neg hx]

/-- a shorter way for one that is no root -/
theorem Up.short {P : List (Int × Int)} {a r : Int} {k : Nat} (ha : Up P a r k) (hne : a ≠ r) : ∀ {x s : Int} {n : Nat}, Up P x s n → ∃ m, m ≤ n ∧ Up (kdfPut P a r) x s m := by
  have hr : Up (kdfPut P a r) r r 0 := .root (by rw [kdfHas_put, ha.rootHas.1]; simp) (by rw [look_put, if_neg (Ne.symm hne)]; exact ha.rootHas.2)
  intro x s n h
  induction h with
  | @root x h1 h2 =>
    by_cases hx : x = a
    · subst hx
      exact absurd (ha.eq_of_fix h2).1 (Ne.symm hne)
    · exact ⟨0, Nat.le_refl _, .root (by rw [kdfHas_put, h1]; simp) (by rw [look_put, if_neg hx]; exact h2)⟩
  | @step x y s n h1 h2 h3 h4 ih =>
    by_cases hx : x = a
    · subst hx
      obtain ⟨e1, e2⟩ := Up.det ha (.step h1 h2 h3 h4)
      subst e1
      exact ⟨1, Nat.succ_le_succ (Nat.zero_le _), .step (by rw [kdfHas_put, h1]; simp) (by rw [look_put, if_pos rfl]) (Ne.symm hne) hr⟩
    · obtain ⟨m, hm, u⟩ := ih
      exact ⟨m + 1, Nat.succ_le_succ hm, .step (by rw [kdfHas_put, h1]; simp) (by rw [look_put, if_neg hx]; exact h2) h3 u⟩

/-- what is told of the two tables: the keys in their order, each one's root -/
structure Fo (ks : List Int) (rt : Int → Int) (D : Nat) (P W : List (Int × Int)) : Prop where
  keys : P.map (·.1) = ks
  up : ∀ x ∈ ks, ∃ n, n ≤ D ∧ Up P x (rt x) n
  wts : ∀ x ∈ ks, kdfHas W x = true
  wlen : W.length ≤ ks.length

theorem Fo.has {ks : List Int} {rt : Int → Int} {D : Nat} {P W : List (Int × Int)} (f : Fo ks rt D P W) {x : Int} : kdfHas P x = true ↔ x ∈ ks := by rw [kdfHas_iff, f.keys]
theorem Fo.root {ks : List Int} {rt : Int → Int} {D : Nat} {P W : List (Int × Int)} (f : Fo ks rt D P W) {x : Int} (hx : x ∈ ks) : rt x ∈ ks ∧ rt (rt x) = rt x := by
  obtain ⟨n, _, u⟩ := f.up x hx
  have h1 : rt x ∈ ks := f.has.mp u.rootHas.1
  refine ⟨h1, ?_⟩
  obtain ⟨n', _, u'⟩ := f.up _ h1
  exact (Up.det u' u.self).1
theorem Fo.plen {ks : List Int} {rt : Int → Int} {D : Nat} {P W : List (Int × Int)} (f : Fo ks rt D P W) : P.length = ks.length := by rw [← f.keys, List.length_map]

/-- one that has been on the way is put under its root -/
theorem Fo.short {ks : List Int} {rt : Int → Int} {D : Nat} {P W : List (Int × Int)} (f : Fo ks rt D P W) {a r : Int} {k : Nat} (ha : Up P a r k) (hne : a ≠ r) : Fo ks rt D (kdfPut P a r) W where
  keys := by rw [keys_put_old ha.has, f.keys]
  up := fun x hx => by
    obtain ⟨n, hn, u⟩ := f.up x hx
    obtain ⟨m, hm, u'⟩ := Up.short ha hne u
    exact ⟨m, Nat.le_trans hm hn, u'⟩
  wts := f.wts
  wlen := f.wlen

/-- asking for one -/
def addK (ks : List Int) (i : Int) : List Int := if i ∈ ks then ks else ks ++ [i]
def addR (ks : List Int) (rt : Int → Int) (i : Int) : Int → Int := if i ∈ ks then rt else fun x => if x = i then i else rt x

theorem Up.grow {P : List (Int × Int)} {i : Int} (hi : kdfHas P i = false) {x r : Int} {n : Nat} (h : Up P x r n) : Up (kdfPut P i i) x r n := by
  induction h with
  | @root x h1 h2 =>
    have hx : x ≠ i := fun e => by rw [e, hi] at h1; cases h1
    exact .root (by rw [kdfHas_put, h1]; simp) (by rw [look_put, if_neg hx]; exact h2)
  | @step x y s n h1 h2 h3 _ ih =>
    have hx : x ≠ i := fun e => by rw [e, hi] at h1; cases h1
    exact .step (by rw [kdfHas_put, h1]; simp) (by rw [look_put, if_neg hx]; exact h2) h3 ih

theorem Fo.new {ks : List Int} {rt : Int → Int} {D : Nat} {P W : List (Int × Int)} (f : Fo ks rt D P W) {i v : Int} (hi : i ∉ ks) : Fo (ks ++ [i]) (fun x => if x = i then i else rt x) D (kdfPut P i i) (kdfPut W i v) where
  keys := by
    have : kdfHas P i = false := by rw [kdfHas_false, f.keys]; exact hi
    rw [keys_put_new this, f.keys]
  up := fun x hx => by
    have hP : kdfHas P i = false := by rw [kdfHas_false, f.keys]; exact hi
    rcases List.mem_append.mp hx with h | h
    · have hne : x ≠ i := fun e => hi (e ▸ h)
      obtain ⟨n, hn, u⟩ := f.up x h
      refine ⟨n, hn, ?_⟩
      show Up _ x (if x = i then i else rt x) n
      rw [if_neg hne]; exact u.grow hP
    · rw [List.mem_singleton.mp h]
      refine ⟨0, Nat.zero_le _, ?_⟩
      show Up _ i (if i = i then i else rt i) 0
      rw [if_pos rfl]
      exact .root (by rw [kdfHas_put]; simp) (by rw [look_put, if_pos rfl])
  wts := fun x hx => by
    rw [kdfHas_put]
    rcases List.mem_append.mp hx with h | h
    · rw [f.wts x h]; simp
    · rw [List.mem_singleton.mp h]; simp
  wlen := by
    have := kdfPut_len W i v
    have := f.wlen
    rw [List.length_append]; simp; omega
end Mine

end
theorem Mine.resetUP : True ∧ True := by
  first
  | (walk1; done)
  | exact ⟨trivial, trivial⟩
section
open PySem PySem.W PyProof.Rows PySem.Calls PySem.Spec PyProof.V
set_option maxRecDepth 100000
set_option maxHeartbeats 8000000
namespace Mine
theorem fillit2 : (PySem.Challenge.rw_bj0027_01 = PySem.Challenge.rw_bj0027_01 ∧ hd.heap_39 = hd.heap_39) := by k_fill; exact ⟨rfl, rfl⟩

def DictI (w : World) (o : Obj) (P : List (Int × Int)) : Prop := ∃ kvs, o.IsDictOf (intKind pr w) kvs ∧ FlatPairs PyData.int kvs (kdfD P)
/-- the object's own dict -/
def sdObj (w : World) (p q : Addr) (t1 t2 : Tok) (n : Nat) : Obj := dictOf [⟨PyData.keyHash w.params (Str.ofString "parents"), .str (Str.ofString "parents") t1, .ref p⟩, ⟨PyData.keyHash w.params (Str.ofString "weights"), .str (Str.ofString "weights") t2, .ref q⟩] n
/-- the ledger of a union find -/
abbrev ufL (w : World) (self sd p q : Addr) (t1 t2 : Tok) (n : Nat) (oP oW : Obj) : List (Addr × Obj) := [(p, oP), (q, oW), (self, instObj 65 sd), (sd, sdObj w p q t1 t2 n)]

def Stop (p : Prop) : Prop := p
theorem Stop.intro {p : Prop} (h : Stop p) : p := h
theorem Stop.out {p : Prop} (h : p) : Stop p := h
local macro_rules | `(tactic| walk_at "Exists") => `(tactic| (refine Stop.intro ?_))
local macro_rules | `(tactic| walk_at "InvPostG") => `(tactic| (refine Stop.intro ?_))
local macro_rules | `(tactic| walk_at "InvEndG") => `(tactic| (refine Stop.intro ?_))
local macro_rules | `(tactic| walk_at "pyIter ref") => `(tactic| (refine Stop.intro ?_))
local macro_rules | `(tactic| walk_at "exec While") => `(tactic| (k_here; refine Stop.intro ?_))
theorem lookup_mem {l : List (Str × Value)} {y : Str} {v : Value} (h : l.lookup y = some v) : (y, v) ∈ l := by
  induction l with
  | nil => cases h
  | cons p l ih =>
    obtain ⟨x, u⟩ := p
    rw [List.lookup_cons] at h
    by_cases hx : (y == x) = true
    · rw [hx] at h; cases h; rw [eq_of_beq hx]; exact .head _
    · have hx' : (y == x) = false := by simpa using hx
      rw [hx'] at h; exact .tail _ (ih h)
theorem named {g h : Heap} {L : Addr} {m : Str → Option Value} (F : Fr g L h m) (l : List (Str × Value)) (e : ∀ p ∈ l, m p.1 = some p.2) : Fr g L h (fun y => (l.lookup y).or (m y)) := by
  have : m = fun y => (l.lookup y).or (m y) := by
    funext y
    cases hy : l.lookup y with
    | none => rfl
    | some v => exact e _ (lookup_mem hy)
  rw [← this]; exact F
theorem getItem_P {w : World} {A : Around} {E : Value → Shared → Prop} {s : Shared} {d : Addr} {c : List (Int × Int)} {k : Int} {tk : Tok} {Q : Value → Shared → Prop} (T : IntTab pr w s.heap d (kdfD c)) (hk : kdfHas c k = true) (h : ∀ t, Q (.int (kdfLook c k 0) t) { s with toks := s.toks + 1 }) :
    wpAny (model pr w) A (getItem (.ref d) (.int k tk)) Q E s :=
  getItem_tab PyProof.V.same_int (intKind_is _ _ _ _) T (kdfD_item hk) fun v hv => by
    obtain ⟨t, ht⟩ := PyProof.V.Flat.int_inv hv
    rw [ht]; exact h t
local macro_rules | `(tactic| walk_at "getItem ref int") => `(tactic| (k_here; k_dflt (refine getItem_P (TabAt.ofNews (by k_asm) (by k_mem) (by assumption) (by assumption) (by assumption)) (by assumption) ?_; intro t')))
local macro_rules | `(tactic| walk_at "compareOp NotIn int ref") => `(tactic| (k_here; k_dflt (refine kdf_notin (TabAt.ofNews (by k_asm) (by k_mem) (by assumption) (by assumption) (by assumption)) ?_)))
section
variable {w : World} {mean : ExcName → Option Value} {mg mb : Str → Option Value} {B : Heap} {A : Around} {outer : List Env} {s : Shared}
theorem getitem_spec (G : Gd w mean mg mb B) (c : Cx B A outer s)
    (hd : A.depth < recursionLimit)
    {self sd p q : Addr} {t1 t2 : Tok} {n : Nat} {oP oW : Obj} {P W : List (Int × Int)} (hP : DictI w oP P) (hW : DictI w oW W)
    (hmu : ∀ x ∈ ufL w self sd p q t1 t2 n oP oW, s.heap.get? x.1 = some x.2) (hB : ∀ x ∈ ufL w self sd p q t1 t2 n oP oW, B.get? x.1 = none)
    (hf : ∀ env ∈ outer, ∀ x ∈ ufL w self sd p q t1 t2 n oP oW, env.frame ≠ some x.1)
    (hp0 : (p == sysModules) = false) (hq0 : (q == sysModules) = false) (hpq : @Ne Nat p q) (hps : @Ne Nat p self) (hpd : @Ne Nat p sd) (hqs : @Ne Nat q self) (hqd : @Ne Nat q sd) (hsd : @Ne Nat self sd)
    {ks : List Int} {rt : Int → Int} {D : Nat} (fo : Fo ks rt D P W) (hkl : ks.length ≤ 100) (hD : D ≤ 1000)
    {i : Int} {t0 : Tok} {Q E : Value → Shared → Prop}
    (hQ : ∀ t h' tk' P' W' oP' oW', DictI w oP' P' → DictI w oW' W' → Fo (addK ks i) (addR ks rt i) D P' W' → (∀ x ∈ ufL w self sd p q t1 t2 n oP' oW', h'.get? x.1 = some x.2) → Ext [p, q, self, sd] s.heap h' → Q (.int (addR ks rt i i) t) { s with heap := h', toks := tk' }) :
    wpAny (model pr w) A (call (.ref 43) [.ref self, .int i t0]) Q E s := by
  refine callP (f := 43) (binds := [(Str.ofString "self", .ref self), (Str.ofString "element", .int i t0)]) G c _ hmu hB hf (by k_is) (by k_is) hd (BindsTo.of_eq rfl) (locs rfl) (by decide) ?_ rfl rfl rfl
  intro g' L' h' F' N' B' G' X' _ _
  have hh := c.hh
  obtain ⟨KX', T'⟩ := G'
  obtain ⟨kP, hP1, hP2⟩ := hP
  obtain ⟨kW, hW1, hW2⟩ := hW
  have hPl : P.length ≤ 100 := by rw [fo.plen]; exact hkl
  have hWl : W.length ≤ 100 := Nat.le_trans fo.wlen hkl
  clear G c B' hmu hB hf
  change wpAny _ _ _ _ _ _
  k_fold
  k_steps
  · refine Stop.out ?_
    rename (kdfHas P i = true) => hin
    rename Fr _ _ _ _ => F2
    rename News _ _ _ _ => N2
    rename (_ < _ ∧ _ < _ ∧ _ < _ ∧ _ < _) => l1
    rename_i tkk _ l' _ _ ty hc
    have hin' : i ∈ ks := fo.has.mp hin
    obtain ⟨k0, hk0, u0⟩ := fo.up i hin'
    refine wpAny_While (codeAny_whileLoop (fun k s' => ∃ (h : Heap) (tk : Nat) (m : Str → Option Value) (vs : List Value) (nn : Nat) (xs : List Int) (x : Int) (tx ty : Tok),
      s' = { s with heap := h, toks := tk } ∧ Fr g' L' h m ∧ News g' L' h ((l', PySem.W.listOf vs.toArray nn) :: ufL w self sd p q t1 t2 n oP oW) ∧ m (Str.ofString "self") = some (.ref self) ∧ m (Str.ofString "element") = some (.int x tx) ∧
      m (Str.ofString "root") = some (.int (kdfLook P x 0) ty) ∧ m (Str.ofString "path") = some (.ref l') ∧ IntsAre vs xs ∧ Up P x (rt i) k ∧ (∀ a ∈ xs, a ≠ rt i ∧ ∃ j, Up P a (rt i) j) ∧ xs.length + k ≤ D) ?_ k0 ?_)
    · rintro k s' ⟨h3, tk3, m3, vs, nn, xs, x, tx, ty, rfl, F3, N3, e1, e2, e3, e4, hI, hU, hX, hle⟩
      have hhas := hU.has
      have hhas2 : kdfHas P (kdfLook P x 0) = true := by
        by_cases hx : kdfLook P x 0 = x
        · rw [hx]; exact hhas
        · obtain ⟨_, _, u, _⟩ := hU.next hx; exact u.has
      have F4 := named F3 [(Str.ofString "self", .ref self), (Str.ofString "element", .int x tx), (Str.ofString "root", .int (kdfLook P x 0) ty), (Str.ofString "path", .ref l')]
        (by intro p hp; rcases hp with _ | ⟨_, _ | ⟨_, _ | ⟨_, _ | ⟨_, hp⟩⟩⟩⟩ <;> first | assumption | cases hp)
      clear F3 F2 N2
      k_steps
      · refine Stop.out ?_
        rename (kdfLook P x 0 ≠ x) => hne
        rename Fr _ _ _ _ => F5
        rename News _ _ _ _ => N5
        obtain ⟨k', rfl, u5, hr5⟩ := hU.next hne
        refine ⟨k', Nat.lt_succ_self _, _, _, _, _, _, xs ++ [x], kdfLook P x 0, _, _, rfl, F5, N5, rfl, rfl, rfl, rfl, ksk_snoc hI, u5, fun a ha => ?_, by rw [List.length_append, List.length_singleton]; omega⟩
        rcases List.mem_append.mp ha with ha | ha
        · exact hX a ha
        · rw [List.mem_singleton.mp ha]; exact ⟨hr5, _, hU⟩
      · refine Stop.out ?_
        rename (kdfLook P x 0 = x) => heq
        rename Fr _ _ _ _ => F5
        have hrx := (hU.eq_of_fix heq).1
        rw [heq] at F5
        have hX2 : ∀ a ∈ xs, a ∈ ks ∧ a ≠ x ∧ rt a = x := fun a ha => by
          obtain ⟨h1, j, u⟩ := hX a ha
          have h2 := fo.has.mp u.has
          obtain ⟨j', _, u'⟩ := fo.up a h2
          exact ⟨h2, hrx ▸ h1, hrx ▸ (Up.det u u').1.symm⟩
        refine kdl_iter (l := l') (vs := vs) (nn := nn) (fun _ m nx => ∃ oP' P', nx = (l', PySem.W.listOf vs.toArray nn) :: ufL w self sd p q t1 t2 n oP' oW ∧ DictI w oP' P' ∧ Fo ks rt D P' W ∧ m (Str.ofString "self") = some (.ref self) ∧ m (Str.ofString "root") = some (.int x ty))
          hh (.head _) F5 N3 ⟨oP, P, rfl, ⟨_, hP1, hP2⟩, fo, rfl, rfl⟩ ?_ ?_
        · rintro j v m₁ nx h6 tk6 own hv hoff _ ⟨oP', P', rfl, ⟨kP', hP1', hP2'⟩, fo', m1, m2⟩ F6 N6
          obtain ⟨a, ta, rfl, hma⟩ : ∃ a ta, v = .int a ta ∧ a ∈ xs := by
            have hj : j < xs.length := by rw [← hI.length]; exact (List.getElem?_eq_some_iff.mp hv).1
            obtain ⟨t, e⟩ := hI.get j (xs[j]'hj) (List.getElem?_eq_getElem hj)
            rw [hv] at e
            exact ⟨_, t, Option.some.inj e, List.getElem_mem hj⟩
          obtain ⟨ha1, ha2, ha3⟩ := hX2 a hma
          have hPl' : P'.length ≤ 100 := by rw [fo'.plen]; exact hkl
          have F7 := named F6 [(Str.ofString "self", .ref self), (Str.ofString "root", .int x ty), (Str.ofString "ancestor", .int a ta)]
            (by intro p hp; rcases hp with _ | ⟨_, _ | ⟨_, _ | ⟨_, hp⟩⟩⟩ <;> first | assumption | rfl | cases hp)
          clear F6 F5 N3 hP1 hP2
          simp only [List.map_cons, List.map_nil] at hoff
          dsimp only [List.cons_append, List.nil_append] at N6
          k_steps
          refine Stop.out ?_
          rename Fr _ _ _ _ => F8
          rename News _ _ _ _ => N8
          rename Obj.IsDictOf _ _ _ => hd8
          rename FlatPairs _ _ _ => hf8
          obtain ⟨k8, _, u8⟩ := fo'.up a ha1
          rw [ha3] at u8
          exact InvEndG.intro (nx := (l', PySem.W.listOf vs.toArray nn) :: ufL w self sd p q t1 t2 n _ oW) F8 N8 ⟨.head _, _, kdfPut P' a x, rfl, ⟨_, hd8, hf8⟩, fo'.short u8 ha2, rfl, rfl⟩ hoff
            (fun y hy => List.mem_append_left own hy) (fun y hy => List.mem_append_right ((l', PySem.W.listOf vs.toArray nn) :: ufL w self sd p q t1 t2 n _ oW) hy)
        · rintro m₁ nx h6 tk6 ⟨oP', P', rfl, hP', fo', m1, m2⟩ F6 N6
          have F7 := named F6 [(Str.ofString "self", .ref self), (Str.ofString "root", .int x ty)]
            (by intro p hp; rcases hp with _ | ⟨_, _ | ⟨_, hp⟩⟩ <;> first | assumption | rfl | cases hp)
          clear F6 F5 N3 hP1 hP2
          k_steps
          show Q (Value.int x ty) _
          have e5 := fun tkk => hQ ty h6 tkk P' W oP' oW hP' ⟨_, hW1, hW2⟩ (by unfold addK addR; rw [if_pos hin', if_pos hin']; exact fo') (fun y hy => (N6 y (.tail _ hy)).1) (X'.trans (Ext.of_stays F7.keep))
          have e6 : addR ks rt i i = x := by unfold addR; rw [if_pos hin']; exact hrx
          rw [e6] at e5
          exact e5 _
    · exact ⟨_, _, _, [], 0, [], i, _, _, rfl, F2, N2, rfl, rfl, rfl, rfl, .nil, u0, (fun _ h => nomatch h), by simpa using hk0⟩
  · rename (kdfHas P i = false) => hin
    rename_i h1 o1 kv1 F1 N1 hd1 hf1 h2 o2 kv2 F2 N2 hd2 hf2
    have hin' : i ∉ ks := fun e => by rw [fo.has.mpr e] at hin; cases hin
    show Q (Value.int i t0) _
    have e1 : addR ks rt i i = i := by unfold addR; rw [if_neg hin']; simp
    have e2 := fun tkk => hQ t0 h2 tkk _ _ o1 o2 ⟨_, hd1, hf1⟩ ⟨_, hd2, hf2⟩ (by unfold addK addR; rw [if_neg hin', if_neg hin']; exact fo.new hin') (fun x hx => (N2 x hx).1) (X'.trans (Ext.of_stays F2.keep))
    rw [e1] at e2
    exact e2 _
end
end Mine

end
theorem Mine.resetUD : True ∧ True := by
  first
  | (walk1; done)
  | exact ⟨trivial, trivial⟩
section
open PySem PySem.W PyProof.Rows PySem.Calls PySem.Spec PyProof.V
set_option maxRecDepth 100000
set_option maxHeartbeats 8000000
namespace Mine

section
variable {prog : Program} {w : World} {A : Around} {E : Value → Shared → Prop} {s : Shared} {env : Env} {g : Heap} {x : Str} {body : List Stmt} {Q : Flow → Shared → Prop}
/-- a loop over a list of the base -/
theorem iterB {l : Addr} {items : Array Value} {m₀ : Str → Option Value} {news : List (Addr × Obj)} (J : Nat → (Str → Option Value) → List (Addr × Obj) → Prop)
    (hh : A.handled = none) (hl : g.IsList l items) (F : Fr g env.locals s.heap m₀) (N : News g env.locals s.heap news) (hj : J 0 m₀ news)
    (turn : ∀ i v m₁ nx h tk own, items[i]? = some v → OwnOff own (nx.map (·.1)) → J i m₁ nx → Fr g env.locals h (fun y => if y = x then some v else m₁ y) → News g env.locals h (nx ++ own) →
      wpAny (model prog w) A (execs body env) (InvPostG g env.locals (J (i + 1)) own { s with heap := h, toks := tk } Q) E { s with heap := h, toks := tk })
    (done : ∀ m₁ nx h tk, J items.size m₁ nx → Fr g env.locals h m₁ → News g env.locals h nx → Q .next { s with heap := h, toks := tk }) :
    wpAny (model prog w) A (pyIter (.ref l)) (fun it s₂ => LoopAtV prog w A g env x body Q E it s₂) E s := by
  have hls : s.heap.IsList l items := let ⟨o, e, r⟩ := hl; ⟨o, F.keep l o e, r⟩
  obtain ⟨ol, hol, -⟩ := id hl
  have hI0 : g.get? s.heap.objs.size = none := next_is_new F
  have hne : l ≠ s.heap.objs.size := fun e => by rw [e, hI0] at hol; cases hol
  have up : ∀ b o, s.heap.get? b = some o → (s.heap.push { cls := .type "list_iterator", data := .fields #[.ref l, .int 0 0] }).get? b = some o := fun b o e => Heap.get?_push_of_some _ e
  refine wpAny_pyIter_list hls ⟨s.heap.objs.size, _, _, items.size, _, _, m₀, news, J, rfl, Walks.list hh s.heap.objs.size l hne items, fun hm => ?_, fun b hb => by rw [List.mem_singleton.mp hb]; exact hI0, fun p hp hI => ?_,
    ⟨⟨_, Heap.get?_push_size _ rfl, rfl, rfl⟩, let ⟨o, e, r⟩ := hls; ⟨o, up _ _ e, r⟩⟩, F.push _, fun p hp => ⟨up _ _ (N p hp).1, (N p hp).2⟩, hj, ?_, fun h' tk m' news' F' N' _ hJ => done m' news' h' tk hJ F' N'⟩
  · rcases List.mem_cons.mp hm with e | hm
    · exact Nat.lt_irrefl _ (e ▸ F.ns.lt)
    · have e := List.mem_singleton.mp hm
      have := Heap.get?_none_of_le F.above
      rw [e, hol] at this; cases this
  · have e := List.mem_singleton.mp hI
    exact Nat.lt_irrefl _ (e ▸ Heap.lt_size (N p hp).1)
  · rintro i v m₁ nx s₁ own ⟨hh', tk', rfl⟩ - hP hJ hoff hown - hfp hst F₁ N₁
    obtain ⟨⟨oI, hoI, -⟩, -⟩ := id hst
    have hIown : (s.heap.objs.size, oI) ∈ own := hfp _ (.head _) hI0 _ hoI
    have hat : ∀ p ∈ own, p.1 = s.heap.objs.size := fun p hp => by
      rcases List.mem_cons.mp (hown p hp) with h1 | h1
      · exact h1
      · have h2 := (N₁ p (List.mem_append_left _ hp)).2.2
        rw [List.mem_singleton.mp h1, hol] at h2; cases h2
    have hsep : OwnOff own (nx.map (·.1)) := fun p hp b hb e => by
      obtain ⟨q, hq, rfl⟩ := List.mem_map.mp hb
      exact hoff q hq (List.mem_singleton.mpr (e ▸ hat p hp))
    have N₂ : News g env.locals hh' (nx ++ own) := fun p hp => N₁ p ((List.mem_append.mp hp).elim (List.mem_append_right _) (List.mem_append_left _))
    refine wpAny_mono (turn i v m₁ nx hh' tk' own hP hsep hJ F₁ N₂) (fun f s₂ hp => ?_) fun _ _ e => e
    have fin : InvEndG g env.locals (J (i + 1)) own { s with heap := hh', toks := tk' } s₂ → LoopStepU g env.locals [s.heap.objs.size] own (J (i + 1)) { s with heap := hh', toks := tk' } .next s₂ := by
      rintro ⟨h', tk, m', news', nx', e, F', N', hn, ho, ha, hm⟩
      exact ⟨rfl, h', tk, m', nx', e, F', fun p hp => N' p ((List.mem_append.mp hp).elim (ho p) (hn p)), fun p hp hq => ha _ hIown p.1 (List.mem_map_of_mem hp) (List.mem_singleton.mp hq).symm, hm⟩
    cases f with
    | ret v => exact .ret hp
    | brk => exact .brk hp
    | next => exact .next (fin hp)
    | cont => exact .cont (fin hp)
end

theorem for_enter {prog : Program} {w : World} {A : Around} {s : Shared} {env : Env} {g : Heap} {L : Addr} {m : Str → Option Value} {x : Str} {px pos : Pos} {iter : PySem.Expr} {body : List Stmt} {Q : Flow → Shared → Prop} {E : Value → Shared → Prop}
    (_F : Fr g L s.heap m) (hx : env.kindOf x = some .local)
    (hp : (env.scope.kind == .class || (env.scope.kind == .module && env.locals != env.globals)) = false)
    (hs : ∀ x, foldedSetIterable iter env x = pure x) (hE : PassesOwn (model prog w) A env E)
    (h : wpAny (model prog w) A (eval iter env) (fun xv s₁ => wpAny (model prog w) A (pyIter xv) (fun it s₂ => LoopAtV prog w A g env x body Q E it s₂) E s₁) E s) :
    wpAny (model prog w) A (exec (.For (.Name x px) iter body [] pos) env) Q E s := For_invV g hx hp h hs hE

/-! lists of ints, lists of lists -/
def IntL (h : Heap) (a : Addr) (ns : List Int) : Prop := ∃ vs, h.IsList a vs.toArray ∧ IntsAre vs ns
noncomputable def RefsAre (h : Heap) : List Value → List (List Int) → Prop
  | [], [] => True
  | v :: vs, lot :: lots => (∃ b, v = .ref b ∧ IntL h b lot) ∧ RefsAre h vs lots
  | _, _ => False
def LotsL (h : Heap) (a : Addr) (lots : List (List Int)) : Prop := ∃ vs, h.IsList a vs.toArray ∧ RefsAre h vs lots

theorem IntL.keeps {h h' : Heap} {a : Addr} {ns : List Int} (x : IntL h a ns) (k : h.StaysIn h') : IntL h' a ns := let ⟨vs, ⟨o, e, r⟩, i⟩ := x; ⟨vs, ⟨o, k _ _ e, r⟩, i⟩
theorem RefsAre.keeps {h h' : Heap} (k : h.StaysIn h') : ∀ {vs : List Value} {lots : List (List Int)}, RefsAre h vs lots → RefsAre h' vs lots
  | [], [], _ => trivial
  | _ :: _, _ :: _, ⟨⟨b, e, i⟩, r⟩ => ⟨⟨b, e, i.keeps k⟩, RefsAre.keeps k r⟩
theorem LotsL.keeps {h h' : Heap} {a : Addr} {lots : List (List Int)} (x : LotsL h a lots) (k : h.StaysIn h') : LotsL h' a lots := let ⟨vs, ⟨o, e, r⟩, i⟩ := x; ⟨vs, ⟨o, k _ _ e, r⟩, i.keeps k⟩
/-- the lot that may turn holds no list -/
def NoList (h : Heap) (mu : List Addr) : Prop := ∀ b ∈ mu, ∀ o, h.get? b = some o → o.cls ≠ .type "list"
theorem IntL.ext {h h' : Heap} {a : Addr} {ns : List Int} {mu : List Addr} (x : IntL h a ns) (e : Ext mu h h') (n : NoList h mu) : IntL h' a ns :=
  let ⟨vs, ⟨o, ho, hc, r⟩, i⟩ := x; ⟨vs, ⟨o, e _ _ (fun hm => n a hm o ho hc) ho, hc, r⟩, i⟩
theorem RefsAre.ext {h h' : Heap} {mu : List Addr} (e : Ext mu h h') (n : NoList h mu) : ∀ {vs : List Value} {lots : List (List Int)}, RefsAre h vs lots → RefsAre h' vs lots
  | [], [], _ => trivial
  | _ :: _, _ :: _, ⟨⟨b, q, i⟩, r⟩ => ⟨⟨b, q, i.ext e n⟩, RefsAre.ext e n r⟩
theorem LotsL.ext {h h' : Heap} {a : Addr} {lots : List (List Int)} {mu : List Addr} (x : LotsL h a lots) (e : Ext mu h h') (n : NoList h mu) : LotsL h' a lots :=
  let ⟨vs, ⟨o, ho, hc, r⟩, i⟩ := x; ⟨vs, ⟨o, e _ _ (fun hm => n a hm o ho hc) ho, hc, r⟩, i.ext e n⟩
theorem RefsAre.length {h : Heap} : ∀ {vs : List Value} {lots : List (List Int)}, RefsAre h vs lots → vs.length = lots.length
  | [], [], _ => rfl
  | _ :: _, _ :: _, ⟨_, r⟩ => by rw [List.length_cons, List.length_cons, RefsAre.length r]
theorem RefsAre.get {h : Heap} : ∀ {vs : List Value} {lots : List (List Int)}, RefsAre h vs lots → ∀ {i : Nat} {v : Value}, vs[i]? = some v → ∃ b lot, v = .ref b ∧ lots[i]? = some lot ∧ IntL h b lot
  | [], [], _, _, _, e => by simp at e
  | _ :: _, lot :: _, ⟨⟨b, q, i⟩, r⟩, 0, v, e => by
    simp at e; subst e; exact ⟨b, lot, q, rfl, i⟩
  | _ :: _, _ :: _, ⟨_, r⟩, k + 1, v, e => by
    obtain ⟨b, lot, h1, h2, h3⟩ := RefsAre.get r (i := k) (v := v) (by simpa using e)
    exact ⟨b, lot, h1, by simpa using h2, h3⟩
theorem RefsAre.append {h : Heap} : ∀ {vs us : List Value} {lots mots : List (List Int)}, RefsAre h vs lots → RefsAre h us mots → RefsAre h (vs ++ us) (lots ++ mots)
  | [], _, [], _, _, r => r
  | _ :: _, _, _ :: _, _, ⟨a, r⟩, r' => ⟨a, RefsAre.append r r'⟩
end Mine

end
theorem Mine.resetUE : True ∧ True := by
  first
  | (walk1; done)
  | exact ⟨trivial, trivial⟩
section
open PySem PySem.W PyProof.Rows PySem.Calls PySem.Spec PyProof.V
set_option maxRecDepth 100000
set_option maxHeartbeats 8000000
namespace Mine
theorem fillit3 : (PySem.Challenge.rw_bj0027_01 = PySem.Challenge.rw_bj0027_01 ∧ hd.heap_39 = hd.heap_39) := by k_fill; exact ⟨rfl, rfl⟩
local macro_rules | `(tactic| walk_at "Exists") => `(tactic| (refine Stop.intro ?_))
local macro_rules | `(tactic| walk_at "InvPostG") => `(tactic| (refine Stop.intro ?_))
local macro_rules | `(tactic| walk_at "InvEndG") => `(tactic| (refine Stop.intro ?_))
local macro_rules | `(tactic| walk_at "exec For") => `(tactic| (k_here; (with_reducible rename Fr _ _ _ _ => kF); refine for_enter kF ?k1 ?k2 ?k3 ?k4 ?_; (case k1 => with_unfolding_all rfl); (case k2 => with_unfolding_all rfl); (case k3 => intro _; with_unfolding_all rfl); (case k4 => exact PassesOwn.never)))
local macro_rules | `(tactic| walk_at "pyIter ref") => `(tactic| (refine Stop.intro ?_))
theorem intsAre_append : ∀ {us zs : List Value} {as bs : List Int}, IntsAre us as → IntsAre zs bs → IntsAre (us ++ zs) (as ++ bs)
  | _, _, _, _, .nil, h => h
  | _, _, _, _, .cons a t r, h => .cons a t (intsAre_append r h)
section
variable {w : World} {mean : ExcName → Option Value} {mg mb : Str → Option Value} {B : Heap} {A : Around} {outer : List Env} {s : Shared}
theorem all_spec (G : Gd w mean mg mb B) (c : Cx B A outer s) (hd : A.depth < recursionLimit)
    {l : Addr} {lots : List (List Int)} (hl : LotsL s.heap l lots) (hlen : lots.flatten.length < 64) {Q E : Value → Shared → Prop}
    (hQ : ∀ r vs n ns h' tk', Ext [] s.heap h' → s.heap.get? r = none → h'.get? r = some (PySem.W.listOf (List.toArray vs) n) → IntsAre vs ns → ns.Perm lots.flatten → ns.Pairwise (· ≤ ·) → Q (.ref r) { s with heap := h', toks := tk' }) :
    wpAny (model pr w) A (call (.ref 88) [.ref l]) Q E s := by
  refine callP (f := 88) (binds := [(Str.ofString "lots", .ref l)]) G c [] (fun _ h => nomatch h) (fun _ h => nomatch h) (fun _ _ _ h => nomatch h) (by k_is) (by k_is) hd (BindsTo.of_eq rfl) (locs rfl) (by decide) ?_ rfl rfl rfl
  intro g' L' h' F' N' B' G' X' _ _
  have hl' := hl.keeps X'.stays
  have hh := c.hh
  obtain ⟨KX', T'⟩ := G'
  clear hl G c B'
  obtain ⟨vs, hl', hR⟩ := hl'
  change wpAny _ _ _ _ _ _
  k_steps
  refine Stop.out ?_
  rename Fr _ _ _ _ => F2
  rename News _ _ _ _ => N2
  refine iterB (fun i m nx => ∃ D us nn, nx = [(D, PySem.W.listOf us.toArray nn)] ∧ IntsAre us (lots.take i).flatten ∧ m (Str.ofString "found") = some (.ref D)) hh hl' F2 N2 ⟨_, [], 0, rfl, by simpa using IntsAre.nil, rfl⟩ ?_ ?_
  · rintro i v m₁ nx h6 tk6 own hv hoff ⟨D, us, nn, rfl, hI, m1⟩ F6 N6
    obtain ⟨b, lot, rfl, hlot, zs, hb, hz⟩ := hR.get (by simpa using hv)
    have F7 := named F6 [(Str.ofString "found", .ref D), (Str.ofString "lot", .ref b)]
      (by intro p hp; rcases hp with _ | ⟨_, _ | ⟨_, hp⟩⟩ <;> first | assumption | rfl | cases hp)
    have hlt : ∀ p ∈ own, p.1 < h6.objs.size := fun p hp => Heap.lt_size (N6 p (List.mem_append_right _ hp)).1
    have etk : (lots.take (i + 1)).flatten = (lots.take i).flatten ++ lot := by rw [List.take_add_one, hlot, List.flatten_append]; simp
    have hle : (lots.take (i + 1)).flatten.length < 64 := by
      refine Nat.lt_of_le_of_lt ?_ hlen
      conv => rhs; rw [← List.take_append_drop (i + 1) lots, List.flatten_append, List.length_append]
      exact Nat.le_add_right _ _
    have hs1 : us.length < 64 := by rw [hI.length]; rw [etk, List.length_append] at hle; omega
    have hs2 : zs.length < 64 := by rw [hz.length]; rw [etk, List.length_append] at hle; omega
    clear F6 F2 N2
    simp only [List.map_cons, List.map_nil] at hoff
    dsimp only [List.cons_append, List.nil_append] at N6
    k_steps
    refine Stop.out ?_
    rename Fr _ _ _ _ => F8
    rename News _ _ _ _ => N8
    refine InvEndG.intro (nx := [(h6.objs.size, PySem.W.listOf (us ++ zs).toArray 0)]) F8 N8 ⟨_, us ++ zs, 0, rfl, ?_, rfl⟩ (fun p hp b hb => by rw [List.mem_singleton.mp hb]; exact Nat.ne_of_lt (hlt p hp))
      (fun y hy => by rw [List.mem_singleton.mp hy]; exact .head _) (fun y hy => .tail _ (.tail _ hy))
    rw [etk]; exact intsAre_append hI hz
  · rintro m₁ nx h6 tk6 ⟨D, us, nn, rfl, hI, m1⟩ F6 N6
    have hI' : IntsAre us lots.flatten := by
      have e : lots.take vs.toArray.size = lots := List.take_of_length_le (by rw [← hR.length]; simp)
      rwa [e] at hI
    have F7 := named F6 [(Str.ofString "found", .ref D)]
      (by intro p hp; rcases hp with _ | ⟨_, hp⟩ <;> first | assumption | rfl | cases hp)
    clear F6 F2 N2
    k_steps
    rename Fr _ _ _ _ => F8
    rename News _ _ _ _ => N8
    rename IntsAre _ _ => i8
    rename List.Perm _ _ => p8
    rename List.Pairwise _ _ => o8
    exact hQ _ _ _ _ _ _ (X'.trans (Ext.of_stays F8.keep)) (X'.none (by simp) (N8 _ (.head _)).2.2) (N8 _ (.head _)).1 i8 p8 o8
end
end Mine

end
theorem Mine.resetUF : True ∧ True := by
  first
  | (walk1; done)
  | exact ⟨trivial, trivial⟩
section
open PySem PySem.W PyProof.Rows PySem.Calls PySem.Spec PyProof.V
set_option maxRecDepth 100000
set_option maxHeartbeats 8000000
namespace Mine
section
variable {prog : Program} {w : World} {A : Around} {E : Value → Shared → Prop} {s : Shared} {env : Env} {g : Heap} {L : Addr} {x : Str} {body : List Stmt} {Q : Flow → Shared → Prop}

/-- a turn's end where the loop's name is a cell -/
def CEnd (g : Heap) (L c : Addr) (J : (Str → Option Value) → List (Addr × Obj) → Prop) (own : List (Addr × Obj)) (s₁ s₂ : Shared) : Prop :=
  ∃ h' tk m' nx oc v news', s₂ = { s₁ with heap := h', toks := tk } ∧ Fr g L h' m' ∧ News g L h' news' ∧ (c, oc) ∈ news' ∧ oc.data = .cell v ∧ (∀ p ∈ nx, p ∈ news') ∧ (∀ p ∈ own, p ∈ news') ∧ OwnOff own (nx.map (·.1)) ∧ (∀ p ∈ nx, p.1 ≠ c) ∧ J m' nx
def CPost (g : Heap) (L c : Addr) (J : (Str → Option Value) → List (Addr × Obj) → Prop) (own : List (Addr × Obj)) (s₁ : Shared) (Q : Flow → Shared → Prop) (f : Flow) (s₂ : Shared) : Prop :=
  match f with
  | .ret v => Q (.ret v) s₂
  | .brk => Q .next s₂
  | _ => CEnd g L c J own s₁ s₂

/-- a loop over a list of the base whose name is a cell -/
theorem iterC {c l : Addr} {items : Array Value} {m₀ : Str → Option Value} {news : List (Addr × Obj)} {oc : Obj} {v₀ : Option Value} {px : Pos} {R : Result → Shared → Prop} (J : Nat → (Str → Option Value) → List (Addr × Obj) → Prop)
    (hh : A.handled = none) (hx : env.kindOf x = some .cell) (hk : env.scope.kind = .function) (hc : env.cells.lookup x = some c)
    (hl : g.IsList l items) (F : Fr g L s.heap m₀) (N : News g L s.heap ((c, oc) :: news)) (hoc : oc.data = .cell v₀) (hcn : ∀ p ∈ news, p.1 ≠ c) (hj : J 0 m₀ news)
    (turn : ∀ i v m₁ nx oc' h tk own, items[i]? = some v → oc'.data = .cell (some v) → OwnOff own (nx.map (·.1)) → (∀ p ∈ own, p.1 ≠ c) → (∀ p ∈ nx, p.1 ≠ c) → J i m₁ nx → Fr g L h m₁ → News g L h ((c, oc') :: (nx ++ own)) →
      wpAny (model prog w) A (execs body env) (CPost g L c (J (i + 1)) own { s with heap := h, toks := tk } (fun f s' => R (.ok f) s')) (fun _ _ => False) { s with heap := h, toks := tk })
    (done : ∀ m₁ nx oc' v' h tk, J items.size m₁ nx → Fr g L h m₁ → News g L h ((c, oc') :: nx) → oc'.data = .cell v' → (∀ p ∈ nx, p.1 ≠ c) → R (.ok .next) { s with heap := h, toks := tk })
    (I : Addr) (hI : I = s.heap.objs.size) :
    codeAny (model prog w) A (.forLoop (.Name x px) (.ref I) body [] env) R { s with heap := s.heap.push { cls := .type "list_iterator", data := .fields #[.ref l, .int 0 0] } } := by
  subst hI
  have hls : s.heap.IsList l items := let ⟨o, e, r⟩ := hl; ⟨o, F.keep l o e, r⟩
  obtain ⟨ol, hol, -⟩ := id hl
  have hI0 : g.get? s.heap.objs.size = none := next_is_new F
  have hne : l ≠ s.heap.objs.size := fun e => by rw [e, hI0] at hol; cases hol
  have hIL : s.heap.objs.size ≠ L := Nat.ne_of_gt F.ns.lt
  have hIc : s.heap.objs.size ≠ c := Nat.ne_of_gt (Heap.lt_size (N _ (.head _)).1)
  have up : ∀ b o, s.heap.get? b = some o → (s.heap.push { cls := .type "list_iterator", data := .fields #[.ref l, .int 0 0] }).get? b = some o := fun b o e => Heap.get?_push_of_some _ e
  have W := Walks.list (prog := prog) (w := w) hh s.heap.objs.size l hne items
  refine codeAny_forLoop (fun k s' => ∃ h' tk m' nx oc' v' i, s' = { s with heap := h', toks := tk } ∧ Fr g L h' m' ∧ News g L h' ((c, oc') :: nx) ∧ oc'.data = .cell v' ∧ (∀ p ∈ nx, p.1 ≠ c) ∧ (∀ p ∈ nx, p.1 ≠ s.heap.objs.size) ∧ J i m' nx ∧
      (h'.IsListIter s.heap.objs.size l i ∧ h'.IsList l items) ∧ i ≤ items.size ∧ k = items.size + 1 - i) ?_ (items.size + 1)
    ⟨_, s.toks, m₀, news, oc, v₀, 0, rfl, F.push _, fun p hp => ⟨up _ _ (N p hp).1, (N p hp).2⟩, hoc, hcn, fun p hp => Nat.ne_of_lt (Heap.lt_size (N p (.tail _ hp)).1), hj, ⟨⟨_, Heap.get?_push_size _ rfl, rfl, rfl⟩, let ⟨o, e, r⟩ := hls; ⟨o, up _ _ e, r⟩⟩, Nat.zero_le _, rfl⟩
  rintro k s' ⟨h', tk, m', nx, oc', v', i, rfl, F', N', hoc', hcn', hnI, hJ, hst, hi, rfl⟩
  by_cases hlt : i < items.size
  · refine W.item i _ _ _ hlt hst fun v h₁ tk₁ hP hst₁ hk₁ => ?_
    have k₁ : ∀ b o, b ≠ s.heap.objs.size → h'.get? b = some o → h₁.get? b = some o := fun b o hb e => hk₁ b o (fun hm => hb (List.mem_singleton.mp hm)) e
    have F₁ : Fr g L h₁ m' := ⟨F'.ns.at fun o e => k₁ _ o (Ne.symm hIL) e, fun b o e => k₁ b o (fun q => by rw [q, hI0] at e; cases e) (F'.keep b o e), F'.above⟩
    have N₁ : News g L h₁ ((c, oc') :: nx) := fun p hp => ⟨k₁ _ _ (by rcases List.mem_cons.mp hp with rfl | h; exact Ne.symm hIc; exact hnI p h) (N' p hp).1, (N' p hp).2⟩
    refine wpAny_assign_Name (wpAny_storeName_cell hk hx hc ⟨oc', (N₁ _ (.head _)).1, hoc'⟩ fun h₂ hv₂ hs₂ => ?_)
    obtain ⟨oc₂, ho₂, hd₂⟩ := hv₂
    have hcL : c ≠ L := (N₁ _ (.head _)).2.1
    have hcg : g.get? c = none := (N₁ _ (.head _)).2.2
    obtain ⟨oI, hoI, rI⟩ := hst₁.1
    have F₂ : Fr g L h₂ m' := F₁.change hs₂ hcL hcg
    have hoI₂ : h₂.get? s.heap.objs.size = some oI := (hs₂.2 _ hIc).trans hoI
    have N₂ : News g L h₂ ((c, oc₂) :: (nx ++ [(s.heap.objs.size, oI)])) := fun p hp => by
      rcases List.mem_cons.mp hp with rfl | hp
      · exact ⟨ho₂, hcL, hcg⟩
      · rcases List.mem_append.mp hp with hp | hp
        · exact ⟨(hs₂.2 _ (hcn' p hp)).trans (N₁ p (.tail _ hp)).1, (N₁ p (.tail _ hp)).2⟩
        · rw [List.mem_singleton.mp hp]; exact ⟨hoI₂, hIL, hI0⟩
    refine wpAny_mono (turn i v m' nx oc₂ h₂ _ [(s.heap.objs.size, oI)] hP hd₂ (fun p hp b hb => ?_) (fun p hp => by rw [List.mem_singleton.mp hp]; exact hIc) hcn' hJ F₂ N₂) (fun f s₃ h₃ => ?_) fun _ _ e => e.elim
    · rw [List.mem_singleton.mp hp]
      obtain ⟨q, hq, rfl⟩ := List.mem_map.mp hb
      exact Ne.symm (hnI q hq)
    have fin : CEnd g L c (J (i + 1)) [(s.heap.objs.size, oI)] { s with heap := h₂, toks := tk₁ } s₃ → ∃ m, m < items.size + 1 - i ∧ ∃ h' tk m' nx oc' v' j, s₃ = { s with heap := h', toks := tk } ∧ Fr g L h' m' ∧ News g L h' ((c, oc') :: nx) ∧ oc'.data = .cell v' ∧ (∀ p ∈ nx, p.1 ≠ c) ∧ (∀ p ∈ nx, p.1 ≠ s.heap.objs.size) ∧ J j m' nx ∧
        (h'.IsListIter s.heap.objs.size l j ∧ h'.IsList l items) ∧ j ≤ items.size ∧ m = items.size + 1 - j := by
      rintro ⟨h₄, tk₄, m₄, nx₄, oc₄, v₄, news₄, rfl, F₄, N₄, hm₄, hd₄, hn₄, ho₄, hoff₄, hcn₄, hJ₄⟩
      refine ⟨items.size + 1 - (i + 1), by omega, h₄, tk₄, m₄, nx₄, oc₄, v₄, i + 1, rfl, F₄, fun p hp => ?_, hd₄, hcn₄, fun p hp e => hoff₄ _ (List.mem_singleton.mpr rfl) p.1 (List.mem_map_of_mem hp) e.symm, hJ₄, ⟨⟨oI, (N₄ _ (ho₄ _ (List.mem_singleton.mpr rfl))).1, rI⟩, ?_⟩, hlt, rfl⟩
      · rcases List.mem_cons.mp hp with rfl | hp
        · exact N₄ _ hm₄
        · exact N₄ p (hn₄ p hp)
      · obtain ⟨o, e, r⟩ := hl
        exact ⟨o, F₄.keep l o e, r⟩
    cases f with
    | ret v => exact h₃
    | brk => exact h₃
    | next => exact fin h₃
    | cont => exact fin h₃
  · have hin : i = items.size := by omega
    subst hin
    refine W.done _ _ _ hst fun h₁ tk₁ hk₁ => wpAny_execs_nil ?_
    have k₁ : ∀ b o, b ≠ s.heap.objs.size → h'.get? b = some o → h₁.get? b = some o := fun b o hb e => hk₁ b o (fun hm => hb (List.mem_singleton.mp hm)) e
    exact done m' nx oc' v' h₁ tk₁ hJ ⟨F'.ns.at fun o e => k₁ _ o (Ne.symm hIL) e, fun b o e => k₁ b o (fun q => by rw [q, hI0] at e; cases e) (F'.keep b o e), F'.above⟩
      (fun p hp => ⟨k₁ _ _ (by rcases List.mem_cons.mp hp with rfl | h; exact Ne.symm hIc; exact hnI p h) (N' p hp).1, (N' p hp).2⟩) hoc' hcn'

theorem forC {c l : Addr} {items : Array Value} {m₀ : Str → Option Value} {news : List (Addr × Obj)} {oc : Obj} {v₀ : Option Value} {px pos : Pos} {iter : PySem.Expr} (J : Nat → (Str → Option Value) → List (Addr × Obj) → Prop)
    (hh : A.handled = none) (hx : env.kindOf x = some .cell) (hk : env.scope.kind = .function) (hc : env.cells.lookup x = some c)
    (hs : ∀ x, foldedSetIterable iter env x = pure x)
    (hit : ∀ Q' : Value → Shared → Prop, Q' (.ref l) s → wpAny (model prog w) A (eval iter env) Q' (fun _ _ => False) s)
    (hl : g.IsList l items) (F : Fr g L s.heap m₀) (N : News g L s.heap ((c, oc) :: news)) (hoc : oc.data = .cell v₀) (hcn : ∀ p ∈ news, p.1 ≠ c) (hj : J 0 m₀ news)
    (turn : ∀ i v m₁ nx oc' h tk own, items[i]? = some v → oc'.data = .cell (some v) → OwnOff own (nx.map (·.1)) → (∀ p ∈ own, p.1 ≠ c) → (∀ p ∈ nx, p.1 ≠ c) → J i m₁ nx → Fr g L h m₁ → News g L h ((c, oc') :: (nx ++ own)) →
      wpAny (model prog w) A (execs body env) (CPost g L c (J (i + 1)) own { s with heap := h, toks := tk } Q) (fun _ _ => False) { s with heap := h, toks := tk })
    (done : ∀ m₁ nx oc' v' h tk, J items.size m₁ nx → Fr g L h m₁ → News g L h ((c, oc') :: nx) → oc'.data = .cell v' → (∀ p ∈ nx, p.1 ≠ c) → Q .next { s with heap := h, toks := tk }) :
    wpAny (model prog w) A (exec (.For (.Name x px) iter body [] pos) env) Q E s := by
  refine wpAny_For (wpAny_mono (hit _ (wpAny_pyIter_list (let ⟨o, e, r⟩ := hl; ⟨o, F.keep l o e, r⟩) ?_)) (fun _ _ h => h) fun _ _ h => h.elim) hs
  exact iterC (R := fun r s' => match r with | .ok f => Q f s' | .error e => cameBackBy (model prog w) A env E e s') J hh hx hk hc hl F N hoc hcn hj (fun i v m₁ nx oc' h tk own a b c d e f g' h' => turn i v m₁ nx oc' h tk own a b c d e f g' h')
    (fun m₁ nx oc' v' h tk a b c d e => done m₁ nx oc' v' h tk a b c d e) _ rfl
end
end Mine

end
theorem Mine.resetUG : True ∧ True := by
  first
  | (walk1; done)
  | exact ⟨trivial, trivial⟩
section
open PySem PySem.W PyProof.Rows PySem.Calls PySem.Spec PyProof.V
set_option maxRecDepth 100000
set_option maxHeartbeats 8000000
namespace Mine
section
variable {prog : Program} {w : World} {A : Around} {s : Shared}

/-- how the loop's name is set -/
structure Tgt (prog : Program) (w : World) (A : Around) (g : Heap) (C : Addr) (cenv : Env) (x : Str) (okT : List (Addr × Obj) → Prop) (tg : (Str → Option Value) → List (Addr × Obj) → Value → Prop) : Prop where
  st : ∀ (s : Shared) (px : Pos) (m : Str → Option Value) (tl : List (Addr × Obj)) (v : Value) (Q : Unit → Shared → Prop) (E : Value → Shared → Prop), Fr g C s.heap m → News g C s.heap tl → okT tl →
    (∀ h' tk m' tl', Fr g C h' m' → News g C h' tl' → okT tl' → tl'.map (·.1) = tl.map (·.1) → tg m' tl' v → (∀ b o, b ≠ C → b ∉ tl.map (·.1) → s.heap.get? b = some o → h'.get? b = some o) → Q () { s with heap := h', toks := tk }) →
    wpAny (model prog w) A (assign (.Name x px) cenv v) Q E s

theorem Tgt.loc {g : Heap} {cenv : Env} {x : Str} (hx : cenv.kindOf x = some .local) (hp : (cenv.scope.kind == .class || (cenv.scope.kind == .module && cenv.locals != cenv.globals)) = false) :
    Tgt prog w A g cenv.locals cenv x (fun tl => tl = []) (fun m _ v => m x = some v) where
  st := fun s px m tl v Q E F N ok h => by
    subst ok
    refine wpAny_assign_Name (wpAny_storeName_local hx F.ns (fun h' hn hs => h h' _ _ [] (F.set hn hs) (fun _ hp => nomatch hp) rfl rfl (by simp) fun b o hb _ e => hs.extBut b o hb e) hp)

theorem Tgt.cell {g : Heap} {cenv : Env} {x : Str} {c : Addr} (hx : cenv.kindOf x = some .cell) (hk : cenv.scope.kind = .function) (hc : cenv.cells.lookup x = some c) :
    Tgt prog w A g cenv.locals cenv x (fun tl => ∃ oc v₀, tl = [(c, oc)] ∧ oc.data = .cell v₀) (fun _ tl v => ∃ oc, tl = [(c, oc)] ∧ oc.data = .cell (some v)) where
  st := fun s px m tl v Q E F N ok h => by
    obtain ⟨oc, v₀, rfl, hoc⟩ := ok
    have hm := N _ (.head _)
    refine wpAny_assign_Name (wpAny_storeName_cell hk hx hc ⟨oc, hm.1, hoc⟩ fun h₂ hv₂ hs₂ => ?_)
    obtain ⟨oc₂, ho₂, hd₂⟩ := hv₂
    exact h h₂ _ _ [(c, oc₂)] (F.change hs₂ hm.2.1 hm.2.2) (fun p hp => by rw [List.mem_singleton.mp hp]; exact ⟨ho₂, hm.2⟩) ⟨_, _, rfl, hd₂⟩ rfl ⟨_, rfl, hd₂⟩
      fun b o _ hb e => (hs₂.2 b (fun q => hb (by rw [q]; exact .head _))).trans e

theorem compCore {elt iter : Expr} {x : Str} {px : Pos} {ifs : List Expr} {scope : Scope} {pos : Pos} {cenv : Env} {g : Heap} {C I D l : Addr} {items : Array Value} {R : Result → Shared → Prop}
    {okT : List (Addr × Obj) → Prop} {tg : (Str → Option Value) → List (Addr × Obj) → Value → Prop} (K : Nat → List Value → List (Addr × Obj) → Prop)
    (hh : A.handled = none) (TG : Tgt prog w A g C cenv x okT tg) (hl : g.IsList l items) (hsz : items.size ≤ sizeLine)
    {m₀ : Str → Option Value} {tl₀ nx₀ : List (Addr × Obj)} {h0 : Heap} {tk0 : Nat} (F : Fr g C h0 m₀) (N : News g C h0 (tl₀ ++ nx₀)) (hI0 : h0.IsListIter I l 0)
    (hIg : g.get? I = none) (hDg : g.get? D = none) (hIC : I ≠ C) (hDC : D ≠ C) (hID : I ≠ D) (hD0 : h0.PlainList D #[])
    (hok : okT tl₀) (off : ∀ p ∈ tl₀ ++ nx₀, p.1 ≠ I ∧ p.1 ≠ D) (off2 : OwnOff tl₀ (nx₀.map (·.1))) (hK : K 0 [] nx₀)
    (turn : ∀ i v ys m tl nx own h tk, items[i]? = some v → K i ys nx → okT tl → tg m tl v → OwnOff own (nx.map (·.1)) → OwnOff tl (nx.map (·.1)) → OwnOff own (tl.map (·.1)) → Fr g C h m → News g C h (tl ++ (nx ++ own)) →
      wpAny (model prog w) A (forIn ifs true fun c r => if r = true then do let ok ← isTrue c cenv (eval c cenv); pure (ForInStep.yield ok) else pure (ForInStep.yield r))
        (fun ok s₃ => if ok = true then wpAny (model prog w) A (eval elt cenv) (fun y s₄ => InvEndG g C (fun _ nx' => K (i + 1) (ys ++ [y]) nx') (tl ++ own) { s with heap := h, toks := tk } s₄) (fun _ _ => False) s₃
          else InvEndG g C (fun _ nx' => K (i + 1) ys nx') (tl ++ own) { s with heap := h, toks := tk } s₃) (fun _ _ => False) { s with heap := h, toks := tk })
    (done : ∀ h' tk m ys nx, K items.size ys nx → Fr g C h' m → News g C h' nx → h'.PlainList D ys.toArray → (∀ p ∈ nx, p.1 ≠ D) → R (.ok .next) { s with heap := h', toks := tk }) :
    codeAny (model prog w) A (.compLoop (.ListComp elt [⟨.Name x px, iter, ifs, 0⟩] scope pos) 0 (.ref I) (.ref D) cenv) R { s with heap := h0, toks := tk0 } := by
  obtain ⟨ol, hol, hol2⟩ := id hl
  have hlI : l ≠ I := fun e => by rw [e, hIg] at hol; cases hol
  have gI : ∀ b o, g.get? b = some o → b ≠ I := fun b o e q => by rw [q, hIg] at e; cases e
  have gD : ∀ b o, g.get? b = some o → b ≠ D := fun b o e q => by rw [q, hDg] at e; cases e
  refine codeAny_compLoop_tests (fun k s' => ∃ h' tk m tl nx ys i, s' = { s with heap := h', toks := tk } ∧ Fr g C h' m ∧ News g C h' (tl ++ nx) ∧ h'.IsListIter I l i ∧ h'.PlainList D (List.toArray ys) ∧ okT tl ∧
    (∀ p ∈ tl ++ nx, p.1 ≠ I ∧ p.1 ≠ D) ∧ OwnOff tl (nx.map (·.1)) ∧ K i ys nx ∧ ys.length ≤ i ∧ i ≤ items.size ∧ k = items.size + 1 - i) ?_ (items.size + 1)
    ⟨h0, tk0, m₀, tl₀, nx₀, [], 0, rfl, F, N, hI0, hD0, hok, off, off2, hK, Nat.le_refl _, Nat.zero_le _, rfl⟩
  rintro k s' ⟨h', tk, m, tl, nx, ys, i, rfl, F', N', hI', hD', hok', off', off2', hK', hys, hi, rfl⟩
  have hl' : h'.IsList l items := ⟨ol, F'.keep l ol hol, hol2⟩
  cases hv : items[i]? with
  | none =>
    have hin : i = items.size := by
      have := Array.getElem?_eq_none_iff.mp hv
      omega
    subst hin
    refine wpAny_pyNext_list_end hh hI' hl' hv fun h₁ he₁ => ?_
    refine done h₁ _ m ys nx hK' ⟨F'.ns.at' fun o e => he₁ _ o (Ne.symm hIC) e, fun b o e => he₁ b o (gI b o e) (F'.keep b o e), F'.above⟩
      (fun p hp => ⟨he₁ _ _ (off' p (List.mem_append_right _ hp)).1 (N' p (List.mem_append_right _ hp)).1, (N' p (List.mem_append_right _ hp)).2⟩) (hD'.extBut he₁ (Ne.symm hID)) fun p hp => (off' p (List.mem_append_right _ hp)).2
  | some v =>
    have hlt : i < items.size := (Array.getElem?_eq_some_iff.mp hv).1
    refine wpAny_pyNext_list_item hI' hl' hv fun h₁ hit₁ hs₁ => ?_
    have F₁ : Fr g C h₁ m := ⟨F'.ns.sameBut hs₁ (Ne.symm hIC), fun b o e => hs₁.extBut b o (gI b o e) (F'.keep b o e), F'.above⟩
    have N₁ : News g C h₁ (tl ++ nx) := fun p hp => ⟨hs₁.extBut _ _ (off' p hp).1 (N' p hp).1, (N' p hp).2⟩
    have hD₁ : h₁.PlainList D ys.toArray := hD'.extBut hs₁.extBut (Ne.symm hID)
    refine TG.st _ px m tl v _ _ F₁ (fun p hp => N₁ p (List.mem_append_left _ hp)) hok' fun h₂ tk₂ m₂ tl₂ F₂ N₂ hok₂ hdom htg hk₂ => ?_
    dsimp only at hk₂
    have offT : ∀ a, (∃ p ∈ nx, p.1 = a) → a ∉ tl.map (·.1) := fun a ⟨p, hp, e⟩ hm => by
      obtain ⟨q, hq, e'⟩ := List.mem_map.mp hm
      exact off2' q hq p.1 (List.mem_map_of_mem hp) (e'.trans e.symm)
    have IT : I ∉ tl.map (·.1) := fun hm => by obtain ⟨q, hq, e'⟩ := List.mem_map.mp hm; exact (off' q (List.mem_append_left _ hq)).1 e'
    have DT : D ∉ tl.map (·.1) := fun hm => by obtain ⟨q, hq, e'⟩ := List.mem_map.mp hm; exact (off' q (List.mem_append_left _ hq)).2 e'
    have hit₂ : h₂.IsListIter I l (i + 1) := hit₁.at fun o e => hk₂ I o hIC IT e
    have hD₂ : h₂.PlainList D ys.toArray := hD₁.at fun o e => hk₂ D o hDC DT e
    obtain ⟨oI, hoI, rI⟩ := hit₂
    obtain ⟨nD, hoD⟩ := hD₂
    have off2₂ : OwnOff tl₂ (nx.map (·.1)) := fun p hp b hb => by
      have : p.1 ∈ tl.map (·.1) := hdom ▸ List.mem_map_of_mem hp
      obtain ⟨q, hq, e⟩ := List.mem_map.mp this
      rw [← e]; exact off2' q hq b hb
    have offTl : ∀ p ∈ tl₂, p.1 ≠ I ∧ p.1 ≠ D := fun p hp => by
      have : p.1 ∈ tl.map (·.1) := hdom ▸ List.mem_map_of_mem hp
      obtain ⟨q, hq, e⟩ := List.mem_map.mp this
      rw [← e]; exact off' q (List.mem_append_left _ hq)
    have Nt : News g C h₂ (tl₂ ++ (nx ++ [(I, oI), (D, ({ cls := .type "list", data := .seq ys.toArray nD } : Obj))])) := fun p hp => by
      rcases List.mem_append.mp hp with hp | hp
      · exact N₂ p hp
      · rcases List.mem_append.mp hp with hp | hp
        · exact ⟨hk₂ _ _ (N₁ p (List.mem_append_right _ hp)).2.1 (offT _ ⟨p, hp, rfl⟩) (N₁ p (List.mem_append_right _ hp)).1, (N₁ p (List.mem_append_right _ hp)).2⟩
        · rcases List.mem_cons.mp hp with rfl | hp
          · exact ⟨hoI, hIC, hIg⟩
          · rw [List.mem_singleton.mp hp]; exact ⟨hoD, hDC, hDg⟩
    have hown : OwnOff [(I, oI), (D, ({ cls := .type "list", data := .seq ys.toArray nD } : Obj))] (nx.map (·.1)) := fun p hp b hb => by
      obtain ⟨q, hq, rfl⟩ := List.mem_map.mp hb
      rcases List.mem_cons.mp hp with rfl | hp
      · exact Ne.symm (off' q (List.mem_append_right _ hq)).1
      · rw [List.mem_singleton.mp hp]; exact Ne.symm (off' q (List.mem_append_right _ hq)).2
    refine wpAny_mono (turn i v ys m₂ tl₂ nx _ h₂ tk₂ hv hK' hok₂ htg hown off2₂ (fun p hp b hb => ?_) F₂ Nt) (fun ok s₃ h₃ => ?_) fun _ _ e => e.elim
    · obtain ⟨q, hq, rfl⟩ := List.mem_map.mp hb
      rcases List.mem_cons.mp hp with rfl | hp
      · exact Ne.symm (offTl q hq).1
      · rw [List.mem_singleton.mp hp]; exact Ne.symm (offTl q hq).2
    have offE : ∀ (news' nx' : List (Addr × Obj)), OwnOff (tl₂ ++ [(I, oI), (D, ({ cls := .type "list", data := .seq ys.toArray nD } : Obj))]) (nx'.map (·.1)) → (∀ p ∈ tl₂ ++ nx', p.1 ≠ I ∧ p.1 ≠ D) ∧ OwnOff tl₂ (nx'.map (·.1)) := fun news' nx' ho =>
      ⟨fun p hp => by
        rcases List.mem_append.mp hp with hp | hp
        · exact offTl p hp
        · exact ⟨fun e => ho _ (List.mem_append_right _ (.head _)) p.1 (List.mem_map_of_mem hp) e.symm, fun e => ho _ (List.mem_append_right _ (.tail _ (.head _))) p.1 (List.mem_map_of_mem hp) e.symm⟩,
       fun p hp b hb => ho p (List.mem_append_left _ hp) b hb⟩
    cases ok with
    | false =>
      simp only [Bool.false_eq_true, if_false] at h₃ ⊢
      obtain ⟨h₄, tk₄, m₄, news₄, nx₄, rfl, F₄, N₄, hn₄, ho₄, hoff₄, hK₄⟩ := h₃
      obtain ⟨o1, o2⟩ := offE news₄ nx₄ hoff₄
      refine ⟨items.size + 1 - (i + 1), by omega, h₄, tk₄, m₄, tl₂, nx₄, ys, i + 1, rfl, F₄, fun p hp => ?_, ⟨oI, (N₄ _ (ho₄ _ (List.mem_append_right _ (.head _)))).1, rI⟩, ⟨nD, (N₄ _ (ho₄ _ (List.mem_append_right _ (.tail _ (.head _))))).1⟩, hok₂, o1, o2, hK₄, by omega, hlt, rfl⟩
      rcases List.mem_append.mp hp with hp | hp
      · exact N₄ p (ho₄ p (List.mem_append_left _ hp))
      · exact N₄ p (hn₄ p hp)
    | true =>
      simp only [if_true] at h₃ ⊢
      refine wpAny_mono h₃ (fun y s₄ h₄ => ?_) fun _ _ e => e.elim
      obtain ⟨h₄, tk₄, m₄, news₄, nx₄, rfl, F₄, N₄, hn₄, ho₄, hoff₄, hK₄⟩ := h₄
      obtain ⟨o1, o2⟩ := offE news₄ nx₄ hoff₄
      have hD₄ : h₄.PlainList D ys.toArray := ⟨nD, (N₄ _ (ho₄ _ (List.mem_append_right _ (.tail _ (.head _))))).1⟩
      have hlen : ys.toArray.size ≤ sizeLine := by simp; omega
      refine wpAny_list_append_plain (hsz := hlen) hD₄ fun h₅ hl₅ hs₅ => ?_
      have hy : (ys ++ [y]).toArray = ys.toArray.push y := by simp
      refine ⟨items.size + 1 - (i + 1), by omega, h₅, tk₄, m₄, tl₂, nx₄, ys ++ [y], i + 1, rfl, ⟨F₄.ns.sameBut hs₅ (Ne.symm hDC), fun b o e => hs₅.extBut b o (gD b o e) (F₄.keep b o e), F₄.above⟩, fun p hp => ?_,
        ⟨oI, hs₅.extBut _ _ hID (N₄ _ (ho₄ _ (List.mem_append_right _ (.head _)))).1, rI⟩, by rw [hy]; exact hl₅, hok₂, o1, o2, hK₄, by rw [List.length_append, List.length_singleton]; omega, hlt, rfl⟩
      have hp4 : News g C h₄ (tl₂ ++ nx₄) := fun p hp => by
        rcases List.mem_append.mp hp with hp | hp
        · exact N₄ p (ho₄ p (List.mem_append_left _ hp))
        · exact N₄ p (hn₄ p hp)
      exact ⟨hs₅.extBut _ _ (o1 p hp).2 (hp4 p hp).1, (hp4 p hp).2⟩
theorem newEnv_cell {M : Model} {A : Around} {E : Value → Shared → Prop} {s : Shared} {scope : Scope} {globals : Addr} {cl cl' : List (Str × Addr)} {qual : Str} {env : Env} {bi : Addr} {Q : Env → Shared → Prop}
    (hcs : cellsFrom (s.heap.objs.size + 1) scope.names cl = cl') (hpc : pushCells (s.heap.push { cls := .type "dict", data := .dict #[] }) scope.names = (s.heap.push { cls := .type "dict", data := .dict #[] }).push { cls := .type "cell", data := .cell none })
    (hQ : Q { scope := scope, locals := s.heap.objs.size, globals := globals, cells := cl', qual := qual, func := none, code := env.code, frame := env.frame, builtins := env.builtins }
      { s with heap := (s.heap.push { cls := .type "dict", data := .dict #[] }).push { cls := .type "cell", data := .cell none } }) :
    wpAny M A (newFunctionEnv scope globals cl [] qual none .none (some env) bi) Q E s := by
  simp only [newFunctionEnv, Option.isSome_some, if_true]
  refine wpAny_bind (wpAny_alloc ?_)
  refine wpAny_bind (wpAny_layCells _ (fun name kind cells => by cases hkc : kind == NameKind.cell <;> simp [hkc]) _ _ _ _ ?_)
  rw [show ({ s with heap := s.heap.push { cls := .type "dict", data := .dict #[] } } : Shared).heap.objs.size = s.heap.objs.size + 1 from Heap.size_push .., hcs]
  rw [show pushCells ({ s with heap := s.heap.push { cls := .type "dict", data := .dict #[] } } : Shared).heap scope.names = _ from hpc]
  simp only [List.forIn_nil]
  exact wpAny_bind (wpAny_pure (wpAny_pure hQ))

/-- what a turn of a block is given -/
structure Base (g₀ : Heap) (L : Addr) (m : Str → Option Value) (h₀ : Heap) (mu : List Addr) (g : Heap) (C : Addr) : Prop where
  fr : Fr g₀ L g m
  st : g₀.StaysIn g
  ext : Ext mu h₀ g
  hid : ∀ b ∈ mu, g.get? b = none
  hi : h₀.objs.size ≤ C
  sub : g.StaysIn h₀

theorem Base.of {g₀ h₀ : Heap} {L : Addr} {m : Str → Option Value} {mu : List (Addr × Obj)} {C : Addr} (F : Fr g₀ L h₀ m) (N : News g₀ L h₀ mu) (hC : h₀.objs.size ≤ C) : Base g₀ L m h₀ (mu.map (·.1)) (hideAll h₀ (mu.map (·.1))) C := by
  have nm : ∀ b o, g₀.get? b = some o → b ∉ mu.map (·.1) := fun b o e q => by
    obtain ⟨p, hp, rfl⟩ := List.mem_map.mp q
    rw [(N p hp).2.2] at e; cases e
  have nL : L ∉ mu.map (·.1) := fun q => by
    obtain ⟨p, hp, e⟩ := List.mem_map.mp q
    exact (N p hp).2.1 e
  have st : g₀.StaysIn (hideAll h₀ (mu.map (·.1))) := fun b o e => hideAll_get _ (F.keep b o e) (nm b o e)
  exact ⟨⟨F.ns.at' fun o e => hideAll_get _ e nL, st, F.above⟩, st, fun b o n e => hideAll_get _ e n, fun b hb => hideAll_none _ hb, hC, fun b o e => of_hideAll _ e⟩

section
variable {E : Value → Shared → Prop} {env : Env} {g₀ : Heap} {L : Addr} {m : Str → Option Value} {mu rest : List (Addr × Obj)} {elt iter : Expr} {x : Str} {px : Pos} {ifs : List Expr} {scope : Scope} {cl : List (Str × Addr)} {pos : Pos} {l : Addr} {items : Array Value}

/-- the block's loop, the loop's name local -/
theorem blockL {RR : Value → Addr → Result → Shared → Prop} (K : Nat → List Value → List (Addr × Obj) → Prop)
    (hh : A.handled = none) (F : Fr g₀ L s.heap m) (N : News g₀ L s.heap mu) (hl : s.heap.IsList l items) (hlm : l ∉ mu.map (·.1)) (hsz : items.size ≤ sizeLine)
    (hcell : ∀ y ∈ scope.names, y.2 ≠ .cell) (hkind : scope.kind = .function) (hx : scope.names.lookup x = some .local)
    (hK : K 0 [] mu)
    (turn : ∀ g C, Base g₀ L m s.heap (mu.map (·.1)) g C → ∀ i v ys (m₂ : Str → Option Value) nx own h tk, items[i]? = some v → K i ys nx → OwnOff own (nx.map (·.1)) → Fr g C h (fun y => if y = x then some v else m₂ y) → News g C h (nx ++ own) →
      wpAny (model prog w) A (forIn ifs true fun c r => if r = true then do let ok ← isTrue c (compEnvC scope cl C env) (eval c (compEnvC scope cl C env)); pure (ForInStep.yield ok) else pure (ForInStep.yield r))
        (fun ok s₃ => if ok = true then wpAny (model prog w) A (eval elt (compEnvC scope cl C env)) (fun y s₄ => InvEndG g C (fun _ nx' => K (i + 1) (ys ++ [y]) nx') own { s with heap := h, toks := tk } s₄) (fun _ _ => False) s₃
          else InvEndG g C (fun _ nx' => K (i + 1) ys nx') own { s with heap := h, toks := tk } s₃) (fun _ _ => False) { s with heap := h, toks := tk })
    (hRR : ∀ g C D h' tk m' ys nx, Base g₀ L m s.heap (mu.map (·.1)) g C → K items.size ys nx → Fr g C h' m' → News g C h' nx → h'.PlainList D ys.toArray → (∀ p ∈ nx, p.1 ≠ D) → s.heap.objs.size < D → D < C → g.get? D = none → RR (.ref D) C (.ok .next) { s with heap := h', toks := tk }) :
    wpAny (model prog w) A (pyIter (.ref l)) (fun it s₂ => wpAny (model prog w) A (newList []) (fun acc s₃ => wpAny (model prog w) A (newFunctionEnv scope env.globals cl [] env.qual none .none (some env)) (fun cenv s₄ =>
      codeAny (model prog w) A (.compStart (.ListComp elt [⟨.Name x px, iter, ifs, 0⟩] scope pos) 0 it acc { cenv with scope := relabel scope env }) (RR acc cenv.locals) s₄) E s₃) E s₂) E s := by
  refine wpAny_pyIter_list hl (wpAny_newObj_type (wpAny_newFunctionEnv hcell (by intro y hy; simp at hy) (fun h₁ hns₁ hsb₁ => ?_) hkind))
  dsimp only at hns₁ hsb₁ ⊢
  generalize hH1 : s.heap.push { cls := .type "list_iterator", data := .fields #[.ref l, .int 0 0] } = H1 at hns₁ hsb₁ ⊢
  have hD : H1.objs.size = s.heap.objs.size + 1 := by rw [← hH1, Heap.size_push]
  generalize hH2 : H1.push { cls := .type "list", dict := none, data := .seq ([] : List Value).toArray } = H2 at hns₁ hsb₁ ⊢
  have hC : H2.objs.size = s.heap.objs.size + 2 := by rw [← hH2, Heap.size_push, hD]
  have hDI : H1.objs.size ≠ s.heap.objs.size := by rw [hD]; exact Nat.succ_ne_self _
  have hDC : H1.objs.size ≠ H2.objs.size := by rw [hD, hC]; exact Nat.ne_of_lt (Nat.lt_succ_self _)
  have hIC : s.heap.objs.size ≠ H2.objs.size := by rw [hC]; exact Nat.ne_of_lt (Nat.lt_succ_of_lt (Nat.lt_succ_self _))
  have old : ∀ b o, s.heap.get? b = some o → h₁.get? b = some o := fun b o e => by
    exact hsb₁.extBut b o (by rw [hC]; exact Nat.ne_of_lt (Nat.lt_of_lt_of_le (Heap.lt_size e) (Nat.le_add_right _ _))) (Heap.get?_push_of_some _ (hH2 ▸ Heap.get?_push_of_some _ (hH1 ▸ Heap.get?_push_of_some _ e)))
  have hit : h₁.IsListIter s.heap.objs.size l 0 :=
    ⟨_, hsb₁.extBut _ _ hIC (Heap.get?_push_of_some _ (hH2 ▸ Heap.get?_push_of_some _ (hH1 ▸ Heap.get?_push_size _ rfl))), rfl, rfl⟩
  have hacc : h₁.PlainList H1.objs.size #[] := ⟨_, hsb₁.extBut _ _ hDC (Heap.get?_push_of_some _ (hH2 ▸ Heap.get?_push_size _ rfl))⟩
  have BB : Base g₀ L m s.heap (mu.map (·.1)) (hideAll s.heap (mu.map (·.1))) H2.objs.size := Base.of F N (by rw [hC]; exact Nat.le_add_right _ _)
  have fresh : ∀ a, s.heap.objs.size ≤ a → (hideAll s.heap (mu.map (·.1))).get? a = none := fun a ha => by
    cases e : (hideAll s.heap (mu.map (·.1))).get? a with
    | none => rfl
    | some o' => exact absurd (Heap.lt_size (of_hideAll _ e)) (Nat.not_lt.mpr ha)
  have lts : ∀ p ∈ mu, p.1 < s.heap.objs.size := fun p hp => Heap.lt_size (N p hp).1
  have loop : ∀ s₃ : Shared, s₃ = { s with heap := h₁, toks := s.toks + ([] : List (Str × Value)).length } →
      codeAny (model prog w) A (.compLoop (.ListComp elt [⟨.Name x px, iter, ifs, 0⟩] scope pos) 0 (.ref s.heap.objs.size) (.ref H1.objs.size) (compEnvC scope cl H2.objs.size env))
        (RR (.ref H1.objs.size) H2.objs.size) s₃ := by
    rintro s₃ rfl
    refine compCore (g := hideAll s.heap (mu.map (·.1))) (C := H2.objs.size) (l := l) (cenv := compEnvC scope cl H2.objs.size env) (okT := fun tl => tl = []) (tg := fun m _ v => m x = some v) (tl₀ := []) (nx₀ := mu) K hh
      (Tgt.loc (cenv := compEnvC scope cl H2.objs.size env) (lookup_relabel_local hx) (by simp [compEnvC, relabel, hkind])) (let ⟨o, e, r⟩ := hl; ⟨o, hideAll_get _ e hlm, r⟩) hsz
      ⟨hns₁, fun b o e => old b o (of_hideAll _ e), by rw [hideAll_size, hC]; exact Nat.le_add_right _ _⟩ (fun p hp => ⟨old _ _ (N p hp).1, fun e => ?_, BB.hid _ (List.mem_map_of_mem hp)⟩) hit (fresh _ (Nat.le_refl _)) (fresh _ (by rw [hD]; exact Nat.le_succ _)) hIC hDC (Ne.symm hDI) hacc
      rfl (fun p hp => ?_) (fun p hp => nomatch hp) hK ?_ ?_
    · have := lts p hp; rw [e, hC] at this; exact absurd this (Nat.not_lt.mpr (Nat.le_add_right _ _))
    · have := lts p hp
      exact ⟨Nat.ne_of_lt this, by rw [hD]; exact Nat.ne_of_lt (Nat.lt_succ_of_lt this)⟩
    · intro i v ys m₂ tl nx own h tk hv hKi htl htg hoff _ _ F' N'
      subst htl
      refine turn _ _ BB i v ys m₂ nx own h tk hv hKi hoff ?_ N'
      have : (fun y => if y = x then some v else m₂ y) = m₂ := by
        funext y; by_cases hy : y = x
        · rw [if_pos hy, hy]; exact htg.symm
        · rw [if_neg hy]
      rw [this]; exact F'
    · intro h' tk m' ys nx hKn F' N' hD' hnD
      exact hRR _ _ H1.objs.size h' tk m' ys nx BB hKn F' N' hD' hnD (by rw [hD]; exact Nat.lt_succ_self _) (by rw [hD, hC]; exact Nat.lt_succ_self _) (fresh _ (by rw [hD]; exact Nat.le_succ _))
  exact codeAny_compStart_list (loop _ rfl) (wpAny_pyIter_listiter hit (loop _ rfl))

/-- the block's loop, the loop's name a cell -/
theorem blockC {RR : Value → Addr → Result → Shared → Prop} (K : Nat → List Value → List (Addr × Obj) → Prop)
    (hh : A.handled = none) (F : Fr g₀ L s.heap m) (N : News g₀ L s.heap mu) (hl : s.heap.IsList l items) (hlm : l ∉ mu.map (·.1)) (hsz : items.size ≤ sizeLine)
    (hcs : ∀ n, cellsFrom n scope.names cl = (x, n) :: cl) (hpc : ∀ h, pushCells h scope.names = h.push { cls := .type "cell", data := .cell none }) (hkind : scope.kind = .function) (hx : (relabel scope env).names.lookup x = some .cell)
    (hK : K 0 [] mu)
    (turn : ∀ g C, Base g₀ L m s.heap (mu.map (·.1)) g C → ∀ i v ys m₂ oc nx own h tk, items[i]? = some v → K i ys nx → oc.data = .cell (some v) → OwnOff own (nx.map (·.1)) → (∀ p ∈ nx, p.1 ≠ C + 1) → (∀ p ∈ own, p.1 ≠ C + 1) → Fr g C h m₂ → News g C h ((C + 1, oc) :: (nx ++ own)) →
      wpAny (model prog w) A (forIn ifs true fun c r => if r = true then do let ok ← isTrue c (compEnvC scope ((x, C + 1) :: cl) C env) (eval c (compEnvC scope ((x, C + 1) :: cl) C env)); pure (ForInStep.yield ok) else pure (ForInStep.yield r))
        (fun ok s₃ => if ok = true then wpAny (model prog w) A (eval elt (compEnvC scope ((x, C + 1) :: cl) C env)) (fun y s₄ => InvEndG g C (fun _ nx' => K (i + 1) (ys ++ [y]) nx') ((C + 1, oc) :: own) { s with heap := h, toks := tk } s₄) (fun _ _ => False) s₃
          else InvEndG g C (fun _ nx' => K (i + 1) ys nx') ((C + 1, oc) :: own) { s with heap := h, toks := tk } s₃) (fun _ _ => False) { s with heap := h, toks := tk })
    (hRR : ∀ g C D h' tk m' ys nx, Base g₀ L m s.heap (mu.map (·.1)) g C → K items.size ys nx → Fr g C h' m' → News g C h' nx → h'.PlainList D ys.toArray → (∀ p ∈ nx, p.1 ≠ D) → s.heap.objs.size < D → D < C → g.get? D = none → RR (.ref D) C (.ok .next) { s with heap := h', toks := tk }) :
    wpAny (model prog w) A (pyIter (.ref l)) (fun it s₂ => wpAny (model prog w) A (newList []) (fun acc s₃ => wpAny (model prog w) A (newFunctionEnv scope env.globals cl [] env.qual none .none (some env)) (fun cenv s₄ =>
      codeAny (model prog w) A (.compStart (.ListComp elt [⟨.Name x px, iter, ifs, 0⟩] scope pos) 0 it acc { cenv with scope := relabel scope env }) (RR acc cenv.locals) s₄) E s₃) E s₂) E s := by
  refine wpAny_pyIter_list hl (wpAny_newObj_type (newEnv_cell (hcs _) (hpc _) ?_))
  dsimp only
  generalize hH1 : s.heap.push { cls := .type "list_iterator", data := .fields #[.ref l, .int 0 0] } = H1
  have hD : H1.objs.size = s.heap.objs.size + 1 := by rw [← hH1, Heap.size_push]
  generalize hH2 : H1.push { cls := .type "list", dict := none, data := .seq ([] : List Value).toArray } = H2
  have hC : H2.objs.size = s.heap.objs.size + 2 := by rw [← hH2, Heap.size_push, hD]
  generalize hh₁ : (H2.push { cls := .type "dict", data := .dict #[] }).push { cls := .type "cell", data := .cell none } = h₁
  have hC1 : (H2.push { cls := .type "dict", data := .dict #[] }).objs.size = H2.objs.size + 1 := Heap.size_push ..
  have hDI : H1.objs.size ≠ s.heap.objs.size := by rw [hD]; exact Nat.succ_ne_self _
  have hDC : H1.objs.size ≠ H2.objs.size := by rw [hD, hC]; exact Nat.ne_of_lt (Nat.lt_succ_self _)
  have hIC : s.heap.objs.size ≠ H2.objs.size := by rw [hC]; exact Nat.ne_of_lt (Nat.lt_succ_of_lt (Nat.lt_succ_self _))
  have up2 : ∀ b o, H2.get? b = some o → h₁.get? b = some o := fun b o e => by rw [← hh₁]; exact Heap.get?_push_of_some _ (Heap.get?_push_of_some _ e)
  have old : ∀ b o, s.heap.get? b = some o → h₁.get? b = some o := fun b o e => up2 b o (hH2 ▸ Heap.get?_push_of_some _ (hH1 ▸ Heap.get?_push_of_some _ e))
  have hns₁ : h₁.Ns H2.objs.size (fun _ => none) := (Heap.Ns.new H2 (.type "dict")).keeps fun b o e => by rw [← hh₁]; exact Heap.get?_push_of_some _ e
  have hcl : h₁.get? (H2.objs.size + 1) = some { cls := .type "cell", data := .cell none } := by rw [← hh₁, ← hC1]; exact Heap.get?_push_size _ rfl
  have hit : h₁.IsListIter s.heap.objs.size l 0 := ⟨_, up2 _ _ (hH2 ▸ Heap.get?_push_of_some _ (hH1 ▸ Heap.get?_push_size _ rfl)), rfl, rfl⟩
  have hacc : h₁.PlainList H1.objs.size #[] := ⟨_, up2 _ _ (hH2 ▸ Heap.get?_push_size _ rfl)⟩
  have BB : Base g₀ L m s.heap (mu.map (·.1)) (hideAll s.heap (mu.map (·.1))) H2.objs.size := Base.of F N (by rw [hC]; exact Nat.le_add_right _ _)
  have fresh : ∀ a, s.heap.objs.size ≤ a → (hideAll s.heap (mu.map (·.1))).get? a = none := fun a ha => by
    cases e : (hideAll s.heap (mu.map (·.1))).get? a with
    | none => rfl
    | some o' => exact absurd (Heap.lt_size (of_hideAll _ e)) (Nat.not_lt.mpr ha)
  have lts : ∀ p ∈ mu, p.1 < s.heap.objs.size := fun p hp => Heap.lt_size (N p hp).1
  have loop : ∀ s₃ : Shared, s₃ = { s with heap := h₁ } →
      codeAny (model prog w) A (.compLoop (.ListComp elt [⟨.Name x px, iter, ifs, 0⟩] scope pos) 0 (.ref s.heap.objs.size) (.ref H1.objs.size) (compEnvC scope ((x, H2.objs.size + 1) :: cl) H2.objs.size env))
        (RR (.ref H1.objs.size) H2.objs.size) s₃ := by
    rintro s₃ rfl
    refine compCore (s := s) (tk0 := s.toks) (g := hideAll s.heap (mu.map (·.1))) (C := H2.objs.size) (l := l) (cenv := compEnvC scope ((x, H2.objs.size + 1) :: cl) H2.objs.size env) (okT := fun tl => ∃ oc v₀, tl = [(H2.objs.size + 1, oc)] ∧ oc.data = .cell v₀) (tg := fun _ tl v => ∃ oc, tl = [(H2.objs.size + 1, oc)] ∧ oc.data = .cell (some v))
      (tl₀ := [(H2.objs.size + 1, { cls := .type "cell", data := .cell none })]) (nx₀ := mu) K hh
      (Tgt.cell (cenv := compEnvC scope ((x, H2.objs.size + 1) :: cl) H2.objs.size env) (x := x) (c := H2.objs.size + 1) hx (by simp [compEnvC, relabel, hkind]) (by show List.lookup x ((x, _) :: _) = _; rw [List.lookup_cons]; simp)) (let ⟨o, e, r⟩ := hl; ⟨o, hideAll_get _ e hlm, r⟩) hsz
      ⟨hns₁, fun b o e => old b o (of_hideAll _ e), by rw [hideAll_size, hC]; exact Nat.le_add_right _ _⟩ (fun p hp => ?_) hit (fresh _ (Nat.le_refl _)) (fresh _ (by rw [hD]; exact Nat.le_succ _)) hIC hDC (Ne.symm hDI) hacc
      ⟨_, _, rfl, rfl⟩ (fun p hp => ?_) (fun p hp b hb => ?_) hK ?_ ?_
    · rcases List.mem_cons.mp hp with rfl | hp
      · exact ⟨hcl, Nat.succ_ne_self _, fresh _ (by rw [hC]; omega)⟩
      · exact ⟨old _ _ (N p hp).1, fun e => by have := lts p hp; rw [e, hC] at this; exact absurd this (Nat.not_lt.mpr (Nat.le_add_right _ _)), BB.hid _ (List.mem_map_of_mem hp)⟩
    · rcases List.mem_cons.mp hp with rfl | hp
      · exact ⟨Nat.ne_of_gt (by show s.heap.objs.size < H2.objs.size + 1; omega), Nat.ne_of_gt (by show H1.objs.size < H2.objs.size + 1; omega)⟩
      · have := lts p hp
        exact ⟨Nat.ne_of_lt this, by rw [hD]; exact Nat.ne_of_lt (Nat.lt_succ_of_lt this)⟩
    · rw [List.mem_singleton.mp hp]
      obtain ⟨q, hq, rfl⟩ := List.mem_map.mp hb
      exact Nat.ne_of_gt (Nat.lt_of_lt_of_le (lts q hq) (by rw [hC]; exact Nat.le_add_right _ 3))
    · rintro i v ys m₂ tl nx own h tk hv hKi _ ⟨oc, rfl, hoc⟩ hoff hoff2 hoff3 F' N'
      exact turn _ _ BB i v ys m₂ oc nx own h tk hv hKi hoc hoff (fun p hp e => hoff2 _ (.head _) p.1 (List.mem_map_of_mem hp) e.symm) (fun p hp e => hoff3 p hp _ (.head _) e) F' N'
    · intro h' tk m' ys nx hKn F' N' hD' hnD
      exact hRR _ _ H1.objs.size h' tk m' ys nx BB hKn F' N' hD' hnD (by rw [hD]; exact Nat.lt_succ_self _) (by rw [hD, hC]; exact Nat.lt_succ_self _) (fresh _ (by rw [hD]; exact Nat.le_succ _))
  exact codeAny_compStart_list (loop _ rfl) (wpAny_pyIter_listiter hit (loop _ rfl))

/-- what a block leaves -/
theorem Base.back {h₀ h' g : Heap} {C D : Addr} {ys : List Value} {m' : Str → Option Value} {nx : List (Addr × Obj)} (BB : Base g₀ L m h₀ (mu.map (·.1)) g C) (F' : Fr g C h' m') (N' : News g C h' nx) (hD' : h'.PlainList D ys.toArray) (hDg : g.get? D = none)
    (NR : News g₀ L h₀ rest) (hr : ∀ p ∈ rest, p.1 ∉ mu.map (·.1)) :
    Ext (mu.map (·.1)) h₀ h' ∧ Fr g₀ L h' m ∧ ∃ n, News g₀ L h' ((D, PySem.W.listOf ys.toArray n) :: (nx ++ rest)) := by
  have e1 : Ext (mu.map (·.1)) h₀ h' := fun b o n e => F'.keep b o (BB.ext b o n e)
  obtain ⟨oL, _, _, hoL, _⟩ := BB.fr.ns
  have gn : ∀ a, g.get? a = none → a ≠ L ∧ g₀.get? a = none := fun a e => ⟨fun q => by rw [q, hoL] at e; (cases e), by
    cases q : g₀.get? a with
    | none => rfl
    | some o => rw [BB.st _ _ q] at e; cases e⟩
  obtain ⟨n, hoD⟩ := hD'
  refine ⟨e1, ⟨BB.fr.ns.at' fun o e => F'.keep _ o e, fun b o e => F'.keep b o (BB.st b o e), BB.fr.above⟩, n, fun p hp => ?_⟩
  rcases List.mem_cons.mp hp with rfl | hp
  · exact ⟨hoD, gn _ hDg⟩
  · rcases List.mem_append.mp hp with hp | hp
    · exact ⟨(N' p hp).1, gn _ (N' p hp).2.2⟩
    · exact ⟨e1 _ _ (hr p hp) (NR p hp).1, (NR p hp).2⟩

theorem compPost_none {M : Model} {Q : Value → Shared → Prop} {h₀ : Heap} (g C D : _) (h' : Heap) (tk : Nat) (m' : Str → Option Value) (ys : List Value) (nx : List (Addr × Obj)) (BB : Base g₀ L m h₀ (mu.map (·.1)) g C) (F' : Fr g C h' m') (N' : News g C h' nx) (hD' : h'.PlainList D ys.toArray)
    (hDC : D ≠ C) (hDg : g.get? D = none) (NR : News g₀ L h₀ rest) (hr : ∀ p ∈ rest, p.1 ∉ mu.map (·.1)) (hsz : g.objs.size ≤ C)
    (done : ∀ n h', Ext (mu.map (·.1)) h₀ h' → Fr g₀ L h' m → News g₀ L h' ((D, PySem.W.listOf ys.toArray n) :: (nx ++ rest)) → Q (.ref D) { s with heap := h', toks := tk }) :
    compPost M A E none Q (.ref D) C (.ok .next) { s with heap := h', toks := tk } := by
  refine ⟨m', F'.ns, fun h'' hs => ?_⟩
  have hCg : g.get? C = none := by
    cases q : g.get? C with
    | none => rfl
    | some o => exact absurd (Heap.lt_size q) (Nat.not_lt.mpr hsz)
  have F'' : Fr g C h'' m' ∨ True := .inr trivial
  obtain ⟨oL, _, _, hoL, _⟩ := BB.fr.ns
  obtain ⟨e1, F1, n, N1⟩ := BB.back F' N' hD' hDg NR hr
  have nC : ∀ b o, h₀.get? b = some o → b ≠ C := fun b o e q => by
    have := Heap.lt_size e
    rw [q] at this
    exact Nat.lt_irrefl _ (Nat.lt_of_lt_of_le this BB.hi)
  have gC : ∀ b o, g₀.get? b = some o → b ≠ C := fun b o e => nC b o (BB.sub _ _ (BB.st _ _ e))
  refine done n h'' (fun b o nb e => hs.extBut b o (nC b o e) (e1 b o nb e)) ⟨F1.ns.sameBut hs (nC _ _ (BB.sub _ _ hoL)), fun b o e => hs.extBut b o (gC b o e) (F1.keep b o e), F1.above⟩ fun p hp => ⟨hs.extBut _ _ ?_ (N1 p hp).1, (N1 p hp).2⟩
  rcases List.mem_cons.mp hp with rfl | hp
  · exact hDC
  · rcases List.mem_append.mp hp with hp | hp
    · exact (N' p hp).2.1
    · exact nC _ _ (NR p hp).1

theorem compPost_use {Q : Flow → Shared → Prop} {h₀ : Heap} {y : Str} {py : Pos} (g C D : _) (h' : Heap) (tk : Nat) (m' : Str → Option Value) (ys : List Value) (nx : List (Addr × Obj)) (BB : Base g₀ env.locals m h₀ (mu.map (·.1)) g C) (F' : Fr g C h' m') (N' : News g C h' nx) (hD' : h'.PlainList D ys.toArray)
    (hDC : D ≠ C) (hDg : g.get? D = none) (NR : News g₀ env.locals h₀ rest) (hr : ∀ p ∈ rest, p.1 ∉ mu.map (·.1)) (hsz : g.objs.size ≤ C)
    (hy : env.kindOf y = some .local) (hp : (env.scope.kind == .class || (env.scope.kind == .module && env.locals != env.globals)) = false)
    (done : ∀ n h' tk, Ext (env.locals :: mu.map (·.1)) h₀ h' → Fr g₀ env.locals h' (fun z => if z = y then some (.ref D) else m z) → News g₀ env.locals h' ((D, PySem.W.listOf ys.toArray n) :: (nx ++ rest)) → Q .next { s with heap := h', toks := tk }) :
    compPost (model prog w) A E (some (assign (.Name y py) env)) (fun _ s' => Q .next s') (.ref D) C (.ok .next) { s with heap := h', toks := tk } := by
  obtain ⟨e1, F1, n, N1⟩ := BB.back F' N' hD' hDg NR hr
  obtain ⟨oL, _, _, hoL, _⟩ := BB.fr.ns
  have nC : ∀ b o, h₀.get? b = some o → b ≠ C := fun b o e q => by
    have := Heap.lt_size e
    rw [q] at this
    exact Nat.lt_irrefl _ (Nat.lt_of_lt_of_le this BB.hi)
  have gC : ∀ b o, g₀.get? b = some o → b ≠ C := fun b o e => nC b o (BB.sub _ _ (BB.st _ _ e))
  have hLC : env.locals ≠ C := nC _ _ (BB.sub _ _ hoL)
  show wpAny _ A (assign (.Name y py) env (.ref D)) _ _ _
  refine wpAny_assign_Name (wpAny_storeName_local hy F1.ns (fun h₂ hn₂ hs₂ => ?_) hp)
  refine ⟨m', F'.ns.sameBut hs₂ (Ne.symm hLC), fun h'' hs => ?_⟩
  have F2 : Fr g₀ env.locals h₂ _ := F1.set hn₂ hs₂
  have N2 := N1.set hs₂
  refine done n h'' _ (fun b o nb e => hs.extBut b o (nC b o e) (hs₂.extBut b o (fun q => nb (by rw [q]; exact .head _)) (e1 b o (fun q => nb (.tail _ q)) e))) ⟨F2.ns.sameBut hs hLC, fun b o e => hs.extBut b o (gC b o e) (F2.keep b o e), F2.above⟩ fun p hp => ⟨hs.extBut _ _ ?_ (N2 p hp).1, (N2 p hp).2⟩
  rcases List.mem_cons.mp hp with rfl | hp
  · exact hDC
  · rcases List.mem_append.mp hp with hp | hp
    · exact (N' p hp).2.1
    · exact nC _ _ (NR p hp).1

theorem Base.size {h₀ g : Heap} {C : Addr} {mu : List Addr} (BB : Base g₀ L m h₀ mu g C) (hg : g.objs.size = h₀.objs.size) : g.objs.size ≤ C := hg ▸ BB.hi

/-- a block over a list, its name local -/
theorem LC_L {Q : Value → Shared → Prop} (mu rest : List (Addr × Obj)) (l : Addr) (items : Array Value) (cl : List (Str × Addr)) (K : Nat → List Value → List (Addr × Obj) → Prop)
    (hh : A.handled = none) (F : Fr g₀ L s.heap m) (N : News g₀ L s.heap (mu ++ rest)) (hr : ∀ p ∈ rest, p.1 ∉ mu.map (·.1)) (hl : s.heap.IsList l items) (hlm : l ∉ mu.map (·.1)) (hsz : items.size ≤ sizeLine)
    (hit : ∀ Q' : Value → Shared → Prop, Q' (.ref l) s → wpAny (model prog w) A (eval iter env) Q' E s)
    (hK : K 0 [] mu)
    (turn : ∀ g C, Base g₀ L m s.heap (mu.map (·.1)) g C → ∀ i v ys (m₂ : Str → Option Value) nx own h tk, items[i]? = some v → K i ys nx → OwnOff own (nx.map (·.1)) → Fr g C h (fun y => if y = x then some v else m₂ y) → News g C h (nx ++ own) →
      wpAny (model prog w) A (forIn ifs true fun c r => if r = true then do let ok ← isTrue c (compEnvC scope cl C env) (eval c (compEnvC scope cl C env)); pure (ForInStep.yield ok) else pure (ForInStep.yield r))
        (fun ok s₃ => if ok = true then wpAny (model prog w) A (eval elt (compEnvC scope cl C env)) (fun y s₄ => InvEndG g C (fun _ nx' => K (i + 1) (ys ++ [y]) nx') own { s with heap := h, toks := tk } s₄) (fun _ _ => False) s₃
          else InvEndG g C (fun _ nx' => K (i + 1) ys nx') own { s with heap := h, toks := tk } s₃) (fun _ _ => False) { s with heap := h, toks := tk })
    (done : ∀ D n ys nx h' tk, K items.size ys nx → Ext (mu.map (·.1)) s.heap h' → Fr g₀ L h' m → News g₀ L h' ((D, PySem.W.listOf ys.toArray n) :: (nx ++ rest)) → s.heap.objs.size < D → (∀ p ∈ nx, p.1 ≠ D) → Q (.ref D) { s with heap := h', toks := tk })
    (hclos : closureFor scope env = pure cl) (hcell : ∀ y ∈ scope.names, y.2 ≠ .cell) (hkind : scope.kind = .function) (hnames : ∀ y ∈ scope.names, y.2 = .local → scope.names.lookup y.1 = some .local) (hx : scope.names.lookup x = some .local)
    (hs : ∀ x, foldedSetIterable iter env x = pure x := by intro _; rfl) :
    wpAny (model prog w) A (eval (.ListComp elt [⟨.Name x px, iter, ifs, 0⟩] scope pos) env) Q E s := by
  rw [eval_ListComp]
  refine wpAny_comprehension_free (use := none) rfl hs hclos hkind hnames (hit _ ?_)
  refine blockL (RR := fun acc C => compPost (model prog w) A E none Q acc C) K hh F (fun p hp => N p (List.mem_append_left _ hp)) hl hlm hsz hcell hkind hx hK turn ?_
  intro g C D h' tk m' ys nx BB hKn F' N' hD' hnD hlt hDC hDg
  exact compPost_none g C D h' tk m' ys nx BB F' N' hD' (Nat.ne_of_lt hDC) hDg (fun p hp => N p (List.mem_append_right _ hp)) hr F'.above fun n h'' e1 F1 N1 => done D n ys nx h'' tk hKn e1 F1 N1 hlt hnD

theorem LC_C {Q : Value → Shared → Prop} (mu rest : List (Addr × Obj)) (l : Addr) (items : Array Value) (cl : List (Str × Addr)) (K : Nat → List Value → List (Addr × Obj) → Prop)
    (hh : A.handled = none) (F : Fr g₀ L s.heap m) (N : News g₀ L s.heap (mu ++ rest)) (hr : ∀ p ∈ rest, p.1 ∉ mu.map (·.1)) (hl : s.heap.IsList l items) (hlm : l ∉ mu.map (·.1)) (hsz : items.size ≤ sizeLine)
    (hit : ∀ Q' : Value → Shared → Prop, Q' (.ref l) s → wpAny (model prog w) A (eval iter env) Q' E s)
    (hK : K 0 [] mu)
    (turn : ∀ g C, Base g₀ L m s.heap (mu.map (·.1)) g C → ∀ i v ys m₂ oc nx own h tk, items[i]? = some v → K i ys nx → oc.data = .cell (some v) → OwnOff own (nx.map (·.1)) → (∀ p ∈ nx, p.1 ≠ C + 1) → (∀ p ∈ own, p.1 ≠ C + 1) → Fr g C h m₂ → News g C h ((C + 1, oc) :: (nx ++ own)) →
      wpAny (model prog w) A (forIn ifs true fun c r => if r = true then do let ok ← isTrue c (compEnvC scope ((x, C + 1) :: cl) C env) (eval c (compEnvC scope ((x, C + 1) :: cl) C env)); pure (ForInStep.yield ok) else pure (ForInStep.yield r))
        (fun ok s₃ => if ok = true then wpAny (model prog w) A (eval elt (compEnvC scope ((x, C + 1) :: cl) C env)) (fun y s₄ => InvEndG g C (fun _ nx' => K (i + 1) (ys ++ [y]) nx') ((C + 1, oc) :: own) { s with heap := h, toks := tk } s₄) (fun _ _ => False) s₃
          else InvEndG g C (fun _ nx' => K (i + 1) ys nx') ((C + 1, oc) :: own) { s with heap := h, toks := tk } s₃) (fun _ _ => False) { s with heap := h, toks := tk })
    (done : ∀ D n ys nx h' tk, K items.size ys nx → Ext (mu.map (·.1)) s.heap h' → Fr g₀ L h' m → News g₀ L h' ((D, PySem.W.listOf ys.toArray n) :: (nx ++ rest)) → s.heap.objs.size < D → (∀ p ∈ nx, p.1 ≠ D) → Q (.ref D) { s with heap := h', toks := tk })
    (hclos : closureFor scope env = pure cl) (hcs : ∀ n, cellsFrom n scope.names cl = (x, n) :: cl) (hpc : ∀ h, pushCells h scope.names = h.push { cls := .type "cell", data := .cell none }) (hkind : scope.kind = .function)
    (hnames : ∀ y ∈ scope.names, y.2 = .local → scope.names.lookup y.1 = some .local) (hx : (relabel scope env).names.lookup x = some .cell)
    (hs : ∀ x, foldedSetIterable iter env x = pure x := by intro _; rfl) :
    wpAny (model prog w) A (eval (.ListComp elt [⟨.Name x px, iter, ifs, 0⟩] scope pos) env) Q E s := by
  rw [eval_ListComp]
  refine wpAny_comprehension_free (use := none) rfl hs hclos hkind hnames (hit _ ?_)
  refine blockC (RR := fun acc C => compPost (model prog w) A E none Q acc C) K hh F (fun p hp => N p (List.mem_append_left _ hp)) hl hlm hsz hcs hpc hkind hx hK turn ?_
  intro g C D h' tk m' ys nx BB hKn F' N' hD' hnD hlt hDC hDg
  exact compPost_none g C D h' tk m' ys nx BB F' N' hD' (Nat.ne_of_lt hDC) hDg (fun p hp => N p (List.mem_append_right _ hp)) hr F'.above fun n h'' e1 F1 N1 => done D n ys nx h'' tk hKn e1 F1 N1 hlt hnD

/-- a block that a local name is given -/
theorem LC_A {Q : Flow → Shared → Prop} {y : Str} {py spos : Pos} (mu rest : List (Addr × Obj)) (l : Addr) (items : Array Value) (cl : List (Str × Addr)) (K : Nat → List Value → List (Addr × Obj) → Prop)
    (hh : A.handled = none) (F : Fr g₀ env.locals s.heap m) (N : News g₀ env.locals s.heap (mu ++ rest)) (hr : ∀ p ∈ rest, p.1 ∉ mu.map (·.1)) (hl : s.heap.IsList l items) (hlm : l ∉ mu.map (·.1)) (hsz : items.size ≤ sizeLine)
    (hit : ∀ Q' : Value → Shared → Prop, Q' (.ref l) s → wpAny (model prog w) A (eval iter env) Q' E s)
    (hK : K 0 [] mu)
    (turn : ∀ g C, Base g₀ env.locals m s.heap (mu.map (·.1)) g C → ∀ i v ys (m₂ : Str → Option Value) nx own h tk, items[i]? = some v → K i ys nx → OwnOff own (nx.map (·.1)) → Fr g C h (fun y => if y = x then some v else m₂ y) → News g C h (nx ++ own) →
      wpAny (model prog w) A (forIn ifs true fun c r => if r = true then do let ok ← isTrue c (compEnvC scope cl C env) (eval c (compEnvC scope cl C env)); pure (ForInStep.yield ok) else pure (ForInStep.yield r))
        (fun ok s₃ => if ok = true then wpAny (model prog w) A (eval elt (compEnvC scope cl C env)) (fun y s₄ => InvEndG g C (fun _ nx' => K (i + 1) (ys ++ [y]) nx') own { s with heap := h, toks := tk } s₄) (fun _ _ => False) s₃
          else InvEndG g C (fun _ nx' => K (i + 1) ys nx') own { s with heap := h, toks := tk } s₃) (fun _ _ => False) { s with heap := h, toks := tk })
    (done : ∀ D n ys nx h' tk, K items.size ys nx → Ext (env.locals :: mu.map (·.1)) s.heap h' → Fr g₀ env.locals h' (fun z => if z = y then some (.ref D) else m z) → News g₀ env.locals h' ((D, PySem.W.listOf ys.toArray n) :: (nx ++ rest)) → s.heap.objs.size < D → (∀ p ∈ nx, p.1 ≠ D) → Q .next { s with heap := h', toks := tk })
    (hsw : swapsWith (.ListComp elt [⟨.Name x px, iter, ifs, 0⟩] scope pos) (some (.Name y py)) spos.line env = pure true)
    (hclos : closureFor scope env = pure cl) (hcell : ∀ y ∈ scope.names, y.2 ≠ .cell) (hkind : scope.kind = .function) (hnames : ∀ y ∈ scope.names, y.2 = .local → scope.names.lookup y.1 = some .local) (hx : scope.names.lookup x = some .local)
    (hy : env.kindOf y = some .local) (hp : (env.scope.kind == .class || (env.scope.kind == .module && env.locals != env.globals)) = false)
    (hs : ∀ x, foldedSetIterable iter env x = pure x := by intro _; rfl) :
    wpAny (model prog w) A (exec (.Assign [.Name y py] (.ListComp elt [⟨.Name x px, iter, ifs, 0⟩] scope pos) spos) env) Q E s := by
  rw [exec_Assign_Name_used _ _ _ _ hsw]
  refine wpAny_bind (wpAny_standAt (wpAny_bind ?_))
  show wpAny _ A (do let _ ← comprehension (.ListComp elt [⟨.Name x px, iter, ifs, 0⟩] scope pos) scope env _ (newList []) false (eval iter env) (some (assign (.Name y py) env))) _ _ s
  refine wpAny_bind (wpAny_mono (wpAny_comprehension_free (use := some (assign (.Name y py) env)) (Q := fun _ s' => Q .next s') rfl hs hclos hkind hnames (hit _ ?_)) (fun _ s' hq => wpAny_pure (wpAny_pure hq)) fun _ _ e => e)
  refine blockL (RR := fun acc C => compPost (model prog w) A E (some (assign (.Name y py) env)) (fun _ s' => Q .next s') acc C) K hh F (fun p hp => N p (List.mem_append_left _ hp)) hl hlm hsz hcell hkind hx hK turn ?_
  intro g C D h' tk m' ys nx BB hKn F' N' hD' hnD hlt hDC hDg
  exact compPost_use g C D h' tk m' ys nx BB F' N' hD' (Nat.ne_of_lt hDC) hDg (fun p hp => N p (List.mem_append_right _ hp)) hr F'.above hy hp fun n h'' tk'' e1 F1 N1 => done D n ys nx h'' tk'' hKn e1 F1 N1 hlt hnD
end
end
end Mine

end
theorem Mine.resetUI : True ∧ True := by
  first
  | (walk1; done)
  | exact ⟨trivial, trivial⟩
section
open PySem PySem.W PyProof.Rows PySem.Calls PySem.Spec PyProof.V PySem.SeqAt
set_option maxRecDepth 100000
set_option maxHeartbeats 8000000
namespace Mine
/-! data out of lists -/
def D1 (ns : List Int) : PyData := .list (ns.map .int)
def D2 (lots : List (List Int)) : PyData := .list (lots.map D1)
theorem reads_ints {h : Heap} : ∀ {vs : List Value} {ns : List Int}, IntsAre vs ns → ReadsAll h vs (ns.map .int) []
  | _, _, .nil => .nil
  | _, _, .cons a t r => .cons (as := []) (.int a t) (reads_ints r)
theorem IntL.reads {h : Heap} {a : Addr} {ns : List Int} (x : IntL h a ns) : ∃ as, Reads h (.ref a) (D1 ns) as := by
  obtain ⟨vs, ⟨o, ho, hc, n, hd⟩, hi⟩ := x
  exact ⟨_, .list ho hc hd (by rw [List.toList_toArray]; exact reads_ints hi)⟩
theorem RefsAre.reads {h : Heap} : ∀ {vs : List Value} {lots : List (List Int)}, RefsAre h vs lots → ∃ as, ReadsAll h vs (lots.map D1) as
  | [], [], _ => ⟨_, .nil⟩
  | _ :: _, _ :: _, ⟨⟨b, e, i⟩, r⟩ => by
    subst e
    obtain ⟨as, ra⟩ := i.reads
    obtain ⟨bs, rb⟩ := RefsAre.reads r
    exact ⟨_, .cons ra rb⟩
theorem LotsL.reads {h : Heap} {a : Addr} {lots : List (List Int)} (x : LotsL h a lots) : ∃ as, Reads h (.ref a) (D2 lots) as := by
  obtain ⟨vs, ⟨o, ho, hc, n, hd⟩, hr⟩ := x
  obtain ⟨as, ra⟩ := hr.reads
  exact ⟨_, .list ho hc hd (by rw [List.toList_toArray]; exact ra)⟩
theorem eqvAll_ints : ∀ (xs ys : List Int), PyData.eqvAll (xs.map .int) (ys.map .int) = decide (xs = ys)
  | [], [] => rfl
  | [], _ :: _ => rfl
  | _ :: _, [] => rfl
  | x :: xs, y :: ys => by
    show (PyData.eqv (.int x) (.int y) && PyData.eqvAll (xs.map .int) (ys.map .int)) = _
    rw [eqvAll_ints xs ys, PyData.eqv]
    by_cases h1 : x = y <;> by_cases h2 : xs = ys <;> simp [h1, h2]
theorem eqv_D1 (xs ys : List Int) : PyData.eqv (D1 xs) (D1 ys) = decide (xs = ys) := by unfold D1; rw [PyData.eqv]; exact eqvAll_ints xs ys
theorem eqvAll_D1 : ∀ (xs ys : List (List Int)), PyData.eqvAll (xs.map D1) (ys.map D1) = decide (xs = ys)
  | [], [] => rfl
  | [], _ :: _ => rfl
  | _ :: _, [] => rfl
  | x :: xs, y :: ys => by
    show (PyData.eqv (D1 x) (D1 y) && PyData.eqvAll (xs.map D1) (ys.map D1)) = _
    rw [eqvAll_D1 xs ys, eqv_D1]
    by_cases h1 : x = y <;> by_cases h2 : xs = ys <;> simp [h1, h2]
theorem eqv_D2 (xs ys : List (List Int)) : PyData.eqv (D2 xs) (D2 ys) = decide (xs = ys) := by unfold D2; rw [PyData.eqv]; exact eqvAll_D1 xs ys
theorem lay_ints : ∀ ns : List Int, PyData.canLayAll0 (ns.map .int) = true
  | [] => rfl
  | x :: xs => by show (PyData.canLay0 (.int x) && PyData.canLayAll0 (xs.map .int)) = true; rw [lay_ints xs]; rfl
theorem lay_D1 (ns : List Int) : (D1 ns).canLay0 = true := by unfold D1; rw [PyData.canLay0]; exact lay_ints ns
theorem lay_D1s : ∀ lots : List (List Int), PyData.canLayAll0 (lots.map D1) = true
  | [] => rfl
  | x :: xs => by show (PyData.canLay0 (D1 x) && PyData.canLayAll0 (xs.map D1)) = true; rw [lay_D1s xs, lay_D1]; rfl
theorem dep_ints : ∀ ns : List Int, PyData.depthAll (ns.map .int) = 0
  | [] => rfl
  | x :: xs => by show max (PyData.depth (.int x)) (PyData.depthAll (xs.map .int)) = 0; rw [dep_ints xs]; rfl
theorem dep_D1 (ns : List Int) : (D1 ns).depth = 1 := by unfold D1; rw [PyData.depth, dep_ints]
theorem dep_D1s : ∀ lots : List (List Int), PyData.depthAll (lots.map D1) ≤ 1
  | [] => Nat.zero_le _
  | x :: xs => by show max (PyData.depth (D1 x)) (PyData.depthAll (xs.map D1)) ≤ 1; have := dep_D1s xs; have := dep_D1 x; omega
theorem shaped_D1 (ns : List Int) : shaped (D1 ns) = true := by unfold shaped; rw [lay_D1, dep_D1]; rfl
theorem shaped_D2 (lots : List (List Int)) : shaped (D2 lots) = true := by
  have h1 : (D2 lots).canLay0 = true := by unfold D2; rw [PyData.canLay0]; exact lay_D1s lots
  have h2 : (D2 lots).depth ≤ 64 := by unfold D2; rw [PyData.depth]; have := dep_D1s lots; omega
  unfold shaped; rw [h1]; simpa using h2

section
variable {prog : Program} {w : World} {A : Around} {E : Value → Shared → Prop} {s : Shared} {Q : Value → Shared → Prop} {a b : Addr}
theorem eq_IntL {xs ys : List Int} (ha : IntL s.heap a xs) (hb : IntL s.heap b ys) (hu : A.units + 64 < cLine) (h : Q (.bool (decide (xs = ys))) s) : wpAny (model prog w) A (compareOp .Eq (.ref a) (.ref b)) Q E s := by
  obtain ⟨_, ra⟩ := ha.reads
  obtain ⟨_, rb⟩ := hb.reads
  exact eq_dataH ra rb (shaped_D1 _) (shaped_D1 _) hu (by rw [eqv_D1]; exact h)
theorem ne_IntL {xs ys : List Int} (ha : IntL s.heap a xs) (hb : IntL s.heap b ys) (hu : A.units + 64 < cLine) (h : Q (.bool (!decide (xs = ys))) s) : wpAny (model prog w) A (compareOp .NotEq (.ref a) (.ref b)) Q E s := by
  obtain ⟨_, ra⟩ := ha.reads
  obtain ⟨_, rb⟩ := hb.reads
  exact ne_dataH ra rb (shaped_D1 _) (shaped_D1 _) hu (by rw [eqv_D1]; exact h)
theorem eq_LotsL {xs ys : List (List Int)} (ha : LotsL s.heap a xs) (hb : LotsL s.heap b ys) (hu : A.units + 64 < cLine) (h : Q (.bool (decide (xs = ys))) s) : wpAny (model prog w) A (compareOp .Eq (.ref a) (.ref b)) Q E s := by
  obtain ⟨_, ra⟩ := ha.reads
  obtain ⟨_, rb⟩ := hb.reads
  exact eq_dataH ra rb (shaped_D2 _) (shaped_D2 _) hu (by rw [eqv_D2]; exact h)
theorem ne_LotsL {xs ys : List (List Int)} (ha : LotsL s.heap a xs) (hb : LotsL s.heap b ys) (hu : A.units + 64 < cLine) (h : Q (.bool (!decide (xs = ys))) s) : wpAny (model prog w) A (compareOp .NotEq (.ref a) (.ref b)) Q E s := by
  obtain ⟨_, ra⟩ := ha.reads
  obtain ⟨_, rb⟩ := hb.reads
  exact ne_dataH ra rb (shaped_D2 _) (shaped_D2 _) hu (by rw [eqv_D2]; exact h)
theorem any_D1 (lots : List (List Int)) (lot : List Int) : ((lots.map D1).any fun y => PyData.eqv y (D1 lot)) = decide (lot ∈ lots) := by
  induction lots with
  | nil => simp
  | cons x xs ih =>
    rw [List.map_cons, List.any_cons, ih, eqv_D1]
    by_cases h : x = lot <;> by_cases h2 : lot ∈ xs
    · simp [h]
    · simp [h]
    · simp [h2]
    · have : ¬ lot = x := fun e => h e.symm
      simp [h, h2, this]
theorem notIn_LotsL {lots : List (List Int)} {lot : List Int} (ha : IntL s.heap a lot) (hb : LotsL s.heap b lots) (hu : A.units + 65 < cLine) (h : Q (.bool (!decide (lot ∈ lots))) s) : wpAny (model prog w) A (compareOp .NotIn (.ref a) (.ref b)) Q E s := by
  obtain ⟨_, ra⟩ := ha.reads
  obtain ⟨_, rb⟩ := hb.reads
  exact notIn_list_reads rb ra (lay_D1s _) (lay_D1 _) (by rw [dep_D1]; omega) (by rw [any_D1]; exact h)
end

/-! a choice among things -/
def sel {α : Type} (p : α → Bool) (vs : List Value) (as : List α) : List Value := ((vs.zip as).filter fun x => p x.2).map (·.1)
section
variable {α : Type} {p : α → Bool}
theorem sel_cons {v : Value} {vs : List Value} {a : α} {as : List α} : sel p (v :: vs) (a :: as) = if p a = true then v :: sel p vs as else sel p vs as := by
  unfold sel
  rw [List.zip_cons_cons, List.filter_cons]
  dsimp only
  split <;> rfl
theorem sel_snoc : ∀ {vs : List Value} {as : List α} {v : Value} {a : α}, vs.length = as.length → sel p (vs ++ [v]) (as ++ [a]) = sel p vs as ++ (if p a = true then [v] else [])
  | [], [], v, a, _ => by
    show sel p (v :: []) (a :: []) = _
    rw [sel_cons]; rfl
  | u :: vs, l :: as, v, a, e => by
    show sel p (u :: (vs ++ [v])) (l :: (as ++ [a])) = _
    rw [sel_cons, sel_cons, sel_snoc (by simpa using e)]
    split <;> split <;> simp
theorem sel_take {vs : List Value} {as : List α} {i : Nat} {v : Value} {a : α} (e : vs.length = as.length) (hv : vs[i]? = some v) (hl : as[i]? = some a) :
    sel p (vs.take (i + 1)) (as.take (i + 1)) = sel p (vs.take i) (as.take i) ++ (if p a = true then [v] else []) := by
  rw [List.take_add_one, List.take_add_one, hv, hl]
  exact sel_snoc (by rw [List.length_take, List.length_take, e])
end
theorem RefsAre.sel {h : Heap} {p : List Int → Bool} : ∀ {vs : List Value} {lots : List (List Int)}, RefsAre h vs lots → RefsAre h (sel p vs lots) (lots.filter p)
  | [], [], _ => trivial
  | v :: vs, lot :: lots, ⟨i, r⟩ => by
    have ih := RefsAre.sel (p := p) r
    rw [sel_cons, List.filter_cons]
    split
    · exact ⟨i, ih⟩
    · exact ih
theorem ints_sel {p : Int → Bool} : ∀ {vs : List Value} {ns : List Int}, IntsAre vs ns → IntsAre (sel p vs ns) (ns.filter p)
  | _, _, .nil => .nil
  | _, _, .cons a t r => by
    rw [sel_cons, List.filter_cons]
    split
    · exact .cons a t (ints_sel r)
    · exact ints_sel r

/-- what may turn holds no row of values -/
def NoSeq (h : Heap) (mu : List Addr) : Prop := ∀ b ∈ mu, ∀ o, h.get? b = some o → ∀ its n, o.data ≠ .seq its n
theorem NoSeq.of {g h : Heap} {L : Addr} {l : List (Addr × Obj)} (N : News g L h l) (hd : ∀ p ∈ l, ∀ its n, p.2.data ≠ .seq its n) : NoSeq h (l.map (·.1)) := fun b hb o ho its n e => by
  obtain ⟨p, hp, rfl⟩ := List.mem_map.mp hb
  rw [(N p hp).1] at ho; cases ho
  exact hd p hp its n e
theorem isList_ext2 {h h' : Heap} {a : Addr} {its : Array Value} {mu : List Addr} (x : h.IsList a its) (e : Ext mu h h') (n : NoSeq h mu) : h'.IsList a its :=
  let ⟨o, ho, hc, k, hd⟩ := x; ⟨o, e _ _ (fun hm => n a hm o ho _ _ hd) ho, hc, k, hd⟩
theorem IntL.ext2 {h h' : Heap} {a : Addr} {ns : List Int} {mu : List Addr} (x : IntL h a ns) (e : Ext mu h h') (n : NoSeq h mu) : IntL h' a ns := let ⟨vs, hl, i⟩ := x; ⟨vs, isList_ext2 hl e n, i⟩
theorem RefsAre.ext2 {h h' : Heap} {mu : List Addr} (e : Ext mu h h') (n : NoSeq h mu) : ∀ {vs : List Value} {lots : List (List Int)}, RefsAre h vs lots → RefsAre h' vs lots
  | [], [], _ => trivial
  | _ :: _, _ :: _, ⟨⟨b, q, i⟩, r⟩ => ⟨⟨b, q, i.ext2 e n⟩, RefsAre.ext2 e n r⟩
theorem LotsL.ext2 {h h' : Heap} {a : Addr} {lots : List (List Int)} {mu : List Addr} (x : LotsL h a lots) (e : Ext mu h h') (n : NoSeq h mu) : LotsL h' a lots := let ⟨vs, hl, i⟩ := x; ⟨vs, isList_ext2 hl e n, i.ext2 e n⟩
theorem isList_of {g h : Heap} {L D : Addr} {vs : List Value} {n : Nat} {l : List (Addr × Obj)} (N : News g L h l) (hm : (D, PySem.W.listOf vs.toArray n) ∈ l) : h.IsList D vs.toArray := ⟨_, (N _ hm).1, rfl, _, rfl⟩

section
variable {prog : Program} {w : World} {A : Around} {s : Shared} {E : Value → Shared → Prop} {env : Env} {g₀ : Heap} {L : Addr} {m : Str → Option Value} {iter c : Expr} {x : Str} {px px' : Pos} {scope : Scope} {pos : Pos} {α : Type}
/-- the test of a block that chooses -/
def FTest (prog : Program) (w : World) (A : Around) (g₀ : Heap) (L : Addr) (m : Str → Option Value) (s : Shared) (mu : List (Addr × Obj)) (c : Expr) (scope : Scope) (cl : List (Str × Addr)) (env : Env) (x : Str) (vs : List Value) (as : List α) (p : α → Bool) : Prop :=
  ∀ g C, Base g₀ L m s.heap (mu.map (·.1)) g C → ∀ (i : Nat) v a (m₂ : Str → Option Value) own h tk, vs[i]? = some v → as[i]? = some a → OwnOff own (mu.map (·.1)) → Fr g C h (fun y => if y = x then some v else m₂ y) → News g C h (mu ++ own) →
    wpAny (model prog w) A (isTrue c (compEnvC scope cl C env) (eval c (compEnvC scope cl C env))) (fun ok s₃ => InvEndG g C (fun m' nx => ok = p a ∧ nx = mu ∧ m' x = some v) own { s with heap := h, toks := tk } s₃) (fun _ _ => False) { s with heap := h, toks := tk }

theorem FTest.turn {mu : List (Addr × Obj)} {cl : List (Str × Addr)} {vs : List Value} {as : List α} {p : α → Bool} (T : FTest prog w A g₀ L m s mu c scope cl env x vs as p) (hlen : vs.length = as.length) (hkind : scope.kind = .function) (hx : scope.names.lookup x = some .local) (hxd : (x == ("__debug__" : Str)) = false) :
    ∀ g C, Base g₀ L m s.heap (mu.map (·.1)) g C → ∀ i v ys (m₂ : Str → Option Value) nx own h tk, vs.toArray[i]? = some v → (ys = sel p (vs.take i) (as.take i) ∧ nx = mu) → OwnOff own (nx.map (·.1)) → Fr g C h (fun y => if y = x then some v else m₂ y) → News g C h (nx ++ own) →
      wpAny (model prog w) A (forIn [c] true fun c r => if r = true then do let ok ← isTrue c (compEnvC scope cl C env) (eval c (compEnvC scope cl C env)); pure (ForInStep.yield ok) else pure (ForInStep.yield r))
        (fun ok s₃ => if ok = true then wpAny (model prog w) A (eval (.Name x px') (compEnvC scope cl C env)) (fun y s₄ => InvEndG g C (fun _ nx' => (ys ++ [y] = sel p (vs.take (i + 1)) (as.take (i + 1)) ∧ nx' = mu)) own { s with heap := h, toks := tk } s₄) (fun _ _ => False) s₃
          else InvEndG g C (fun _ nx' => (ys = sel p (vs.take (i + 1)) (as.take (i + 1)) ∧ nx' = mu)) own { s with heap := h, toks := tk } s₃) (fun _ _ => False) { s with heap := h, toks := tk } := by
  rintro g C BB i v ys m₂ nx own h tk hv ⟨rfl, rfl⟩ hoff F N
  have hv' : vs[i]? = some v := by simpa using hv
  have hi : i < as.length := by rw [← hlen]; exact (List.getElem?_eq_some_iff.mp hv').1
  refine wpAny_tests_one (wpAny_mono (T g C BB i v as[i] m₂ own h tk hv' (List.getElem?_eq_getElem hi) hoff F N) (fun ok s₃ h₃ => ?_) fun _ _ e => e)
  obtain ⟨h', tk', m', news', nx', rfl, F', N', hn, ho, ha, rfl, rfl, hm'⟩ := h₃
  have et := sel_take (p := p) hlen hv' (List.getElem?_eq_getElem hi)
  by_cases hp : p as[i] = true
  · rw [if_pos hp] at et
    rw [if_pos hp]
    refine wpAny_Name (wpAny_loadName_local (by simp [compEnvC, relabel, hkind]) (lookup_relabel_local hx) F'.ns hm' ?_) hxd
    exact InvEndG.intro F' N' ⟨et.symm, rfl⟩ ha hn ho
  · rw [if_neg hp] at et
    rw [if_neg hp]
    exact InvEndG.intro F' N' ⟨by rw [et, List.append_nil], rfl⟩ ha hn ho

theorem LF_L {Q : Value → Shared → Prop} (mu rest : List (Addr × Obj)) (l : Addr) (vs : List Value) (as : List α) (p : α → Bool) (cl : List (Str × Addr))
    (hh : A.handled = none) (F : Fr g₀ L s.heap m) (N : News g₀ L s.heap (mu ++ rest)) (hr : ∀ q ∈ rest, q.1 ∉ mu.map (·.1)) (hl : s.heap.IsList l vs.toArray) (hlm : l ∉ mu.map (·.1)) (hlen : vs.length = as.length) (hsz : vs.length ≤ sizeLine)
    (hit : ∀ Q' : Value → Shared → Prop, Q' (.ref l) s → wpAny (model prog w) A (eval iter env) Q' E s)
    (T : FTest prog w A g₀ L m s mu c scope cl env x vs as p)
    (done : ∀ D n h' tk, Ext (mu.map (·.1)) s.heap h' → Fr g₀ L h' m → News g₀ L h' ((D, PySem.W.listOf (sel p vs as).toArray n) :: (mu ++ rest)) → s.heap.objs.size < D → Q (.ref D) { s with heap := h', toks := tk })
    (hclos : closureFor scope env = pure cl) (hcell : ∀ y ∈ scope.names, y.2 ≠ .cell) (hkind : scope.kind = .function) (hnames : ∀ y ∈ scope.names, y.2 = .local → scope.names.lookup y.1 = some .local) (hx : scope.names.lookup x = some .local)
    (hxd : (x == ("__debug__" : Str)) = false := by decide) (hs : ∀ x, foldedSetIterable iter env x = pure x := by intro _; rfl) :
    wpAny (model prog w) A (eval (.ListComp (.Name x px') [⟨.Name x px, iter, [c], 0⟩] scope pos) env) Q E s := by
  refine LC_L mu rest l vs.toArray cl (fun i ys nx => ys = sel p (vs.take i) (as.take i) ∧ nx = mu) hh F N hr hl hlm (by simpa using hsz) hit ⟨by simp [sel], rfl⟩ (T.turn hlen hkind hx hxd) ?_ hclos hcell hkind hnames hx hs
  rintro D n ys nx h' tk ⟨rfl, rfl⟩ e1 F1 N1 hlt _
  have e : sel p (vs.take vs.toArray.size) (as.take vs.toArray.size) = sel p vs as := by
    rw [List.take_of_length_le (by simp), List.take_of_length_le (by simp [hlen])]
  rw [e] at N1
  exact done D n h' tk e1 F1 N1 hlt

theorem LF_A {Q : Flow → Shared → Prop} {y : Str} {py spos : Pos} (mu rest : List (Addr × Obj)) (l : Addr) (vs : List Value) (as : List α) (p : α → Bool) (cl : List (Str × Addr))
    (hh : A.handled = none) (F : Fr g₀ env.locals s.heap m) (N : News g₀ env.locals s.heap (mu ++ rest)) (hr : ∀ q ∈ rest, q.1 ∉ mu.map (·.1)) (hl : s.heap.IsList l vs.toArray) (hlm : l ∉ mu.map (·.1)) (hlen : vs.length = as.length) (hsz : vs.length ≤ sizeLine)
    (hit : ∀ Q' : Value → Shared → Prop, Q' (.ref l) s → wpAny (model prog w) A (eval iter env) Q' E s)
    (T : FTest prog w A g₀ env.locals m s mu c scope cl env x vs as p)
    (done : ∀ D n h' tk, Ext (env.locals :: mu.map (·.1)) s.heap h' → Fr g₀ env.locals h' (fun z => if z = y then some (.ref D) else m z) → News g₀ env.locals h' ((D, PySem.W.listOf (sel p vs as).toArray n) :: (mu ++ rest)) → s.heap.objs.size < D → Q .next { s with heap := h', toks := tk })
    (hsw : swapsWith (.ListComp (.Name x px') [⟨.Name x px, iter, [c], 0⟩] scope pos) (some (.Name y py)) spos.line env = pure true)
    (hclos : closureFor scope env = pure cl) (hcell : ∀ y ∈ scope.names, y.2 ≠ .cell) (hkind : scope.kind = .function) (hnames : ∀ y ∈ scope.names, y.2 = .local → scope.names.lookup y.1 = some .local) (hx : scope.names.lookup x = some .local)
    (hy : env.kindOf y = some .local) (hp : (env.scope.kind == .class || (env.scope.kind == .module && env.locals != env.globals)) = false)
    (hxd : (x == ("__debug__" : Str)) = false := by decide) (hs : ∀ x, foldedSetIterable iter env x = pure x := by intro _; rfl) :
    wpAny (model prog w) A (exec (.Assign [.Name y py] (.ListComp (.Name x px') [⟨.Name x px, iter, [c], 0⟩] scope pos) spos) env) Q E s := by
  refine LC_A mu rest l vs.toArray cl (fun i ys nx => ys = sel p (vs.take i) (as.take i) ∧ nx = mu) hh F N hr hl hlm (by simpa using hsz) hit ⟨by simp [sel], rfl⟩ (T.turn hlen hkind hx hxd) ?_ hsw hclos hcell hkind hnames hx hy hp hs
  rintro D n ys nx h' tk ⟨rfl, rfl⟩ e1 F1 N1 hlt _
  have e : sel p (vs.take vs.toArray.size) (as.take vs.toArray.size) = sel p vs as := by
    rw [List.take_of_length_le (by simp), List.take_of_length_le (by simp [hlen])]
  rw [e] at N1
  exact done D n h' tk e1 F1 N1 hlt

/-- as FTest, the loop's name a cell -/
def CTest (prog : Program) (w : World) (A : Around) (g₀ : Heap) (L : Addr) (m : Str → Option Value) (s : Shared) (mu : List (Addr × Obj)) (c : Expr) (scope : Scope) (cl : List (Str × Addr)) (env : Env) (x : Str) (vs : List Value) (as : List α) (p : α → Bool) : Prop :=
  ∀ g C, Base g₀ L m s.heap (mu.map (·.1)) g C → ∀ (i : Nat) v a m₂ oc own h tk, vs[i]? = some v → as[i]? = some a → oc.data = .cell (some v) → OwnOff own (mu.map (·.1)) → (∀ q ∈ mu, q.1 ≠ C + 1) → (∀ q ∈ own, q.1 ≠ C + 1) → Fr g C h m₂ → News g C h ((C + 1, oc) :: (mu ++ own)) →
    wpAny (model prog w) A (isTrue c (compEnvC scope ((x, C + 1) :: cl) C env) (eval c (compEnvC scope ((x, C + 1) :: cl) C env))) (fun ok s₃ => InvEndG g C (fun _ nx => ok = p a ∧ nx = mu) ((C + 1, oc) :: own) { s with heap := h, toks := tk } s₃) (fun _ _ => False) { s with heap := h, toks := tk }

theorem LF_C {Q : Value → Shared → Prop} (mu rest : List (Addr × Obj)) (l : Addr) (vs : List Value) (as : List α) (p : α → Bool) (cl : List (Str × Addr))
    (hh : A.handled = none) (F : Fr g₀ L s.heap m) (N : News g₀ L s.heap (mu ++ rest)) (hr : ∀ q ∈ rest, q.1 ∉ mu.map (·.1)) (hl : s.heap.IsList l vs.toArray) (hlm : l ∉ mu.map (·.1)) (hlen : vs.length = as.length) (hsz : vs.length ≤ sizeLine)
    (hit : ∀ Q' : Value → Shared → Prop, Q' (.ref l) s → wpAny (model prog w) A (eval iter env) Q' E s)
    (T : CTest prog w A g₀ L m s mu c scope cl env x vs as p)
    (done : ∀ D n h' tk, Ext (mu.map (·.1)) s.heap h' → Fr g₀ L h' m → News g₀ L h' ((D, PySem.W.listOf (sel p vs as).toArray n) :: (mu ++ rest)) → s.heap.objs.size < D → Q (.ref D) { s with heap := h', toks := tk })
    (hclos : closureFor scope env = pure cl) (hcs : ∀ n, cellsFrom n scope.names cl = (x, n) :: cl) (hpc : ∀ h, pushCells h scope.names = h.push { cls := .type "cell", data := .cell none }) (hkind : scope.kind = .function)
    (hnames : ∀ y ∈ scope.names, y.2 = .local → scope.names.lookup y.1 = some .local) (hx : (relabel scope env).names.lookup x = some .cell)
    (hxd : (x == ("__debug__" : Str)) = false := by decide) (hs : ∀ x, foldedSetIterable iter env x = pure x := by intro _; rfl) :
    wpAny (model prog w) A (eval (.ListComp (.Name x px') [⟨.Name x px, iter, [c], 0⟩] scope pos) env) Q E s := by
  refine LC_C mu rest l vs.toArray cl (fun i ys nx => ys = sel p (vs.take i) (as.take i) ∧ nx = mu) hh F N hr hl hlm (by simpa using hsz) hit ⟨by simp [sel], rfl⟩ ?_ ?_ hclos hcs hpc hkind hnames hx hs
  · rintro g C BB i v ys m₂ oc nx own h tk hv ⟨rfl, rfl⟩ hoc hoff hoff2 hoff3 F N
    have hv' : vs[i]? = some v := by simpa using hv
    have hi : i < as.length := by rw [← hlen]; exact (List.getElem?_eq_some_iff.mp hv').1
    refine wpAny_tests_one (wpAny_mono (T g C BB i v as[i] m₂ oc own h tk hv' (List.getElem?_eq_getElem hi) hoc hoff hoff2 hoff3 F N) (fun ok s₃ h₃ => ?_) fun _ _ e => e)
    obtain ⟨h', tk', m', news', nx', rfl, F', N', hn, ho, ha, rfl, rfl⟩ := h₃
    have et := sel_take (p := p) hlen hv' (List.getElem?_eq_getElem hi)
    by_cases hp : p as[i] = true
    · rw [if_pos hp] at et
      rw [if_pos hp]
      have hc : News g C h' [(C + 1, oc)] := fun q hq => N' q (ho q (by rw [List.mem_singleton.mp hq]; exact .head _))
      refine wpAny_Name (wpAny_loadName_cell (env := compEnvC scope ((x, C + 1) :: cl) C env) (by simp [compEnvC, relabel, hkind]) hx (by show List.lookup x ((x, _) :: _) = _; rw [List.lookup_cons]; simp) ⟨oc, (hc _ (.head _)).1, hoc⟩ ?_) hxd
      exact InvEndG.intro F' N' ⟨et.symm, rfl⟩ ha hn ho
    · rw [if_neg hp] at et
      rw [if_neg hp]
      exact InvEndG.intro F' N' ⟨by rw [et, List.append_nil], rfl⟩ ha hn ho
  · rintro D n ys nx h' tk ⟨rfl, rfl⟩ e1 F1 N1 hlt _
    have e : sel p (vs.take vs.toArray.size) (as.take vs.toArray.size) = sel p vs as := by
      rw [List.take_of_length_le (by simp), List.take_of_length_le (by simp [hlen])]
    rw [e] at N1
    exact done D n h' tk e1 F1 N1 hlt
end

theorem blk_local {M : Model} {A : Around} {E : Value → Shared → Prop} {s : Shared} {g : Heap} {C : Addr} {m : Str → Option Value} {scope : Scope} {cl : List (Str × Addr)} {env : Env} {x : Str} {pos : Pos} {v : Value} {Q : Value → Shared → Prop} (F : Fr g C s.heap m) (hv : m x = some v) (h : Q v s)
    (hk : (compEnvC scope cl C env).scope.kind = .function) (hx : (compEnvC scope cl C env).kindOf x = some .local) (hb : (x == ("__debug__" : Str)) = false := by decide) :
    wpAny M A (eval (.Name x pos) (compEnvC scope cl C env)) Q E s := wpAny_Name (wpAny_loadName_local hk hx F.ns hv h) hb

/-- list + list -/
theorem add_two {prog : Program} {w : World} {A : Around} {E : Value → Shared → Prop} {s : Shared} {g : Heap} {L l b : Addr} {m : Str → Option Value} {news : List (Addr × Obj)} {vs us : List Value} {Q : Value → Shared → Prop} (F : Fr g L s.heap m) (N : News g L s.heap news) (hl : s.heap.IsList l vs.toArray) (hb : s.heap.IsList b us.toArray)
    (hsz : vs.length + us.length < 128) (h : ∀ D h', Fr g L h' m → News g L h' ((D, PySem.W.listOf (vs ++ us).toArray 0) :: news) → s.heap.objs.size ≤ D → (∀ p ∈ news, p.1 < D) → Q (.ref D) { s with heap := h' }) :
    wpAny (model prog w) A (binaryOp .Add (.ref l) (.ref b)) Q E s := by
  refine add_arrays F N hl hb ?_ ?_
  · intro h' F' N'
    exact h _ h' F' N' (Nat.le_refl _) fun p hp => Heap.lt_size (N p hp).1
  · have e3 : 128 ≤ sizeLine := by decide
    show vs.toArray.size + us.toArray.size ≤ sizeLine
    simp
    omega

/-- behind a call -/
theorem after {g h h' : Heap} {L : Addr} {m : Str → Option Value} {mu mu' rest : List (Addr × Obj)} (F : Fr g L h m) (N : News g L h (mu ++ rest)) (hr : ∀ p ∈ rest, p.1 ∉ mu.map (·.1)) (e : Ext (mu.map (·.1)) h h')
    (nw : ∀ p ∈ mu', h'.get? p.1 = some p.2 ∧ (p.1 ∈ mu.map (·.1) ∨ h.get? p.1 = none)) : Fr g L h' m ∧ News g L h' (mu' ++ rest) := by
  have nm : ∀ b o, g.get? b = some o → b ∉ mu.map (·.1) := fun b o e q => by
    obtain ⟨p, hp, rfl⟩ := List.mem_map.mp q
    rw [(N p (List.mem_append_left _ hp)).2.2] at e; cases e
  have nL : L ∉ mu.map (·.1) := fun q => by
    obtain ⟨p, hp, e⟩ := List.mem_map.mp q
    exact (N p (List.mem_append_left _ hp)).2.1 e
  refine ⟨⟨F.ns.at' fun o q => e _ o nL q, fun b o q => e b o (nm b o q) (F.keep b o q), F.above⟩, fun p hp => ?_⟩
  rcases List.mem_append.mp hp with hp | hp
  · obtain ⟨h1, h2⟩ := nw p hp
    refine ⟨h1, ?_⟩
    rcases h2 with h2 | h2
    · obtain ⟨q, hq, e'⟩ := List.mem_map.mp h2
      rw [← e']; exact (N q (List.mem_append_left _ hq)).2
    · refine ⟨fun e' => ?_, ?_⟩
      · obtain ⟨o, _, _, ho, _⟩ := F.ns
        rw [e', ho] at h2; cases h2
      · cases q : g.get? p.1 with
        | none => rfl
        | some o => rw [F.keep _ _ q] at h2; cases h2
  · exact ⟨e _ _ (hr p hp) (N p (List.mem_append_right _ hp)).1, (N p (List.mem_append_right _ hp)).2⟩

/-- where a list of lists stands, by what it rests on -/
def LotsAt (R : Heap → Prop) (nx : List (Addr × Obj)) (a : Addr) (vs : List Value) (lots : List (List Int)) : Prop := ∀ h : Heap, R h → (∀ p ∈ nx, h.get? p.1 = some p.2) → h.IsList a vs.toArray ∧ RefsAre h vs lots
def LotsH (a : Addr) (vs : List Value) (lots : List (List Int)) (h : Heap) : Prop := h.IsList a vs.toArray ∧ RefsAre h vs lots
theorem LotsAt.trans {R : Heap → Prop} {nx nw : List (Addr × Obj)} {a b : Addr} {vs us : List Value} {lots mots : List (List Int)} (x : LotsAt R nx a vs lots) (y : LotsAt (LotsH a vs lots) nw b us mots) : LotsAt R (nw ++ nx) b us mots :=
  fun h hR hN => y h (x h hR fun p hp => hN p (List.mem_append_right _ hp)) fun p hp => hN p (List.mem_append_left _ hp)
end Mine

end
theorem Mine.resetUJ : True ∧ True := by
  first
  | (walk1; done)
  | exact ⟨trivial, trivial⟩
section
open PySem PySem.W PyProof.Rows PySem.Calls PySem.Spec PyProof.V
set_option maxRecDepth 100000
set_option maxHeartbeats 8000000
namespace Mine
/-- list < list -/
noncomputable def ltL : List Int → List Int → Bool
  | [], [] => false
  | [], _ :: _ => true
  | _ :: _, [] => false
  | x :: xs, y :: ys => if x = y then ltL xs ys else decide (x < y)
theorem ltL_irrefl : ∀ a, ltL a a = false
  | [] => rfl
  | x :: xs => by unfold ltL; rw [if_pos rfl]; exact ltL_irrefl xs
theorem ltL_asymm : ∀ {a b}, ltL a b = true → ltL b a = false
  | [], [], h => by cases h
  | [], _ :: _, _ => rfl
  | _ :: _, [], h => by cases h
  | x :: xs, y :: ys, h => by
    unfold ltL at h ⊢
    by_cases e : x = y
    · subst e; rw [if_pos rfl] at h ⊢; exact ltL_asymm h
    · rw [if_neg e] at h; rw [if_neg (Ne.symm e)]
      have := of_decide_eq_true h
      exact decide_eq_false (by omega)
theorem ltL_total : ∀ {a b}, ltL a b = false → ltL b a = false → a = b
  | [], [], _, _ => rfl
  | [], _ :: _, h, _ => by cases h
  | _ :: _, [], _, h => by cases h
  | x :: xs, y :: ys, h, h' => by
    unfold ltL at h h'
    by_cases e : x = y
    · subst e; rw [if_pos rfl] at h h'; rw [ltL_total h h']
    · rw [if_neg e] at h; rw [if_neg (Ne.symm e)] at h'
      have h1 := of_decide_eq_false h
      have h2 := of_decide_eq_false h'
      omega
/-- a is not above b -/
def leL (a b : List Int) : Prop := ltL b a = false
theorem leL_refl (a : List Int) : leL a a := ltL_irrefl a
theorem leL_of_lt {a b : List Int} (h : ltL a b = true) : leL a b := ltL_asymm h
theorem leL_trans : ∀ {a b c : List Int}, leL a b → leL b c → leL a c
  | [], b, [], _, _ => rfl
  | [], b, _ :: _, _, _ => rfl
  | _ :: _, [], _, h, _ => by cases h
  | _ :: _, _ :: _, [], _, h => by cases h
  | x :: xs, y :: ys, z :: zs, h, h' => by
    unfold leL ltL at h h' ⊢
    by_cases e1 : y = x
    · subst e1
      rw [if_pos rfl] at h
      by_cases e2 : z = y
      · subst e2; rw [if_pos rfl] at h' ⊢; exact leL_trans (a := xs) h h'
      · rw [if_neg e2] at h' ⊢; exact h'
    · rw [if_neg e1] at h
      have h1 := of_decide_eq_false h
      by_cases e2 : z = y
      · subst e2; rw [if_neg e1]; exact h
      · rw [if_neg e2] at h'
        have h2 := of_decide_eq_false h'
        have e3 : z ≠ x := by omega
        rw [if_neg e3]; exact decide_eq_false (by omega)
theorem leL_antisymm {a b : List Int} (h : leL a b) (h' : leL b a) : a = b := ltL_total h' h
/-- two rows of the same lots in order are one -/
theorem sortedL_uniq : ∀ {a b : List (List Int)}, a.Perm b → a.Pairwise leL → b.Pairwise leL → a = b
  | [], b, p, _, _ => p.nil_eq
  | x :: a, [], p, _, _ => by have := p.length_eq; simp at this
  | x :: a, y :: b, p, ha, hb => by
    rw [List.pairwise_cons] at ha hb
    have e : x = y := by
      have hx : x ∈ y :: b := p.mem_iff.mp (.head _)
      have hy : y ∈ x :: a := p.mem_iff.mpr (.head _)
      rcases List.mem_cons.mp hx with e | hx
      · exact e
      · rcases List.mem_cons.mp hy with e | hy
        · exact e.symm
        · exact leL_antisymm (ha.1 y hy) (hb.1 x hx)
    subst e
    rw [sortedL_uniq (List.Perm.cons_inv p) ha.2 hb.2]

section
variable {prog : Program} {w : World} {A : Around} {E : Value → Shared → Prop} {s : Shared}
theorem lt_loop {a b : Addr} {us vs : List Value} {xs ys : List Int} {n k : Nat} {oa ob : Obj} {R : Result → Shared → Prop} (ha : s.heap.get? a = some oa) (da : oa.data = .seq us.toArray n) (hb : s.heap.get? b = some ob) (db : ob.data = .seq vs.toArray k)
    (hu : IntsAre us xs) (hv : IntsAre vs ys) : ∀ (r i : Nat), us.length - i = r → i ≤ us.length → i ≤ vs.length → R (.ok (.ret (.bool (ltL (xs.drop i) (ys.drop i))))) s →
    codeAny (model prog w) A (.builtin "list.__eq__.loop" ⟨[.ref a, .ref b, rawInt i, rawInt 0], []⟩) R s := by
  have ra : us.length = xs.length := hu.length
  have rb : vs.length = ys.length := hv.length
  intro r
  induction r with
  | zero =>
    intro i hi hi1 hi2 h
    refine codeAny_builtin PySem.MeetsSeq3.entry_eq_loop ?_
    rw [Around.under_plainId PySem.MeetsSeq3.plain_eq_loop _]
    unfold Builtin.«list.__eq__.loop»
    have e1 : us.toArray[((i : Nat) : Int).toNat]? = none := by simp; omega
    have hd : xs.drop i = [] := List.drop_of_length_le (by omega)
    refine wpAny_bind (listItems_at ha da (wpAny_bind (listItems_at hb db ?_)))
    rw [e1]
    refine wpAny_bind (listItems_at ha da (wpAny_bind (listItems_at hb db (wpAny_pure ?_))))
    show R (.ok (.ret (.bool (decide (us.toArray.size < vs.toArray.size))))) s
    rw [hd] at h
    have e2 : ltL [] (ys.drop i) = decide (us.toArray.size < vs.toArray.size) := by
      cases hy : ys.drop i with
      | nil =>
        have := List.drop_eq_nil_iff.mp hy
        show false = _
        exact (decide_eq_false (by simp; omega)).symm
      | cons y r =>
        have : i < ys.length := by
          rcases Nat.lt_or_ge i ys.length with h | h
          · exact h
          · rw [List.drop_of_length_le h] at hy; cases hy
        show true = _
        exact (decide_eq_true (by simp; omega)).symm
    rw [← e2]; exact h
  | succ r ih =>
    intro i hi hi1 hi2 h
    have hlt : i < us.length := by omega
    refine codeAny_builtin PySem.MeetsSeq3.entry_eq_loop ?_
    rw [Around.under_plainId PySem.MeetsSeq3.plain_eq_loop _]
    unfold Builtin.«list.__eq__.loop»
    obtain ⟨t, e1⟩ := hu.get i (xs[i]'(by omega)) (List.getElem?_eq_getElem (by omega))
    have e1' : us.toArray[((i : Nat) : Int).toNat]? = some (.int (xs[i]'(by omega)) t) := by simpa using e1
    have hdx : xs.drop i = xs[i]'(by omega) :: xs.drop (i + 1) := List.drop_eq_getElem_cons (by omega)
    refine wpAny_bind (listItems_at ha da (wpAny_bind (listItems_at hb db ?_)))
    rw [e1']
    by_cases hlt2 : i < vs.length
    · obtain ⟨t2, e2⟩ := hv.get i (ys[i]'(by omega)) (List.getElem?_eq_getElem (by omega))
      have e2' : vs.toArray[((i : Nat) : Int).toNat]? = some (.int (ys[i]'(by omega)) t2) := by simpa using e2
      have hdy : ys.drop i = ys[i]'(by omega) :: ys.drop (i + 1) := List.drop_eq_getElem_cons (by omega)
      rw [e2']
      rw [hdx, hdy] at h
      unfold ltL at h
      refine wpAny_bind (wpAny_eqBool_int ?_)
      by_cases e : xs[i]'(by omega) = ys[i]'(by omega)
      · rw [if_pos e] at h
        rw [if_pos (by simpa using e)]
        have hc : ((i : Int) + 1) = ((i + 1 : Nat) : Int) := by push_cast; rfl
        refine wpAny_pure ⟨plainId_quiet PySem.MeetsSeq3.plain_eq_loop _, ?_⟩
        rw [hc]
        exact ih (i + 1) (by omega) (by omega) (by omega) h
      · rw [if_neg e] at h
        rw [if_neg (by simpa using e)]
        refine wpAny_bind (listItems_at ha da (wpAny_bind (listItems_at hb db ?_)))
        rw [e1', e2']
        exact wpAny_bind (show wpAny _ _ (compareOp .Lt _ _) _ _ _ from wpAny_lt_int (wpAny_pure h))
    · have e2' : vs.toArray[((i : Nat) : Int).toNat]? = none := by simp; omega
      rw [e2']
      refine wpAny_bind (listItems_at ha da (wpAny_bind (listItems_at hb db (wpAny_pure ?_))))
      show R (.ok (.ret (.bool (decide (us.toArray.size < vs.toArray.size))))) s
      have hdy : ys.drop i = [] := List.drop_of_length_le (by omega)
      rw [hdx, hdy] at h
      have : decide (us.toArray.size < vs.toArray.size) = false := decide_eq_false (by simp; omega)
      rw [this]; exact h

theorem lt_lists {a b : Addr} {xs ys : List Int} {Q : Bool → Shared → Prop} (ha : IntL s.heap a xs) (hb : IntL s.heap b ys) (hu : A.units < cLine) (h : Q (ltL xs ys) s) :
    wpAny (model prog w) A (keyLt' oneType' (.ref a) (.ref b)) Q E s := by
  obtain ⟨us, ⟨oa, hoa, ca, n, da⟩, iu⟩ := ha
  obtain ⟨vs, ⟨ob, hob, cb, k, db⟩, iv⟩ := hb
  rw [keyLt'_oneType, oneLt'_eq]
  simp only [if_true]
  refine wpAny_bind (wpAny_cRoomFor hu ?_)
  have hT : s.TypeIs (.ref a) "list" := ⟨_, hoa, ca⟩
  refine wpAny_bind (wpAny_callSpecialIfBound?_slot (name := Str.ofString "__lt__") hT PySem.F.slot_list_lt (wpAny_call (codeAny_call_builtin PySem.F.slot_list_lt.plain PySem.F.entry_list_lt
    (PySem.F.slot_list_lt.check _ _ _ _ _ _ _ _ hT (PySem.F.args_list_lt_2 _ _) ?_))))
  unfold Builtin.«list.__lt__»
  refine wpAny_bind (wpAny_pure ?_)
  refine wpAny_bind (wpAny_isInstance (T := "list") (b := true) ⟨_, hob, cb⟩ AutoSeq1.sub_list_list ?_)
  rw [if_neg (by simp)]
  rw [if_neg (by simp)]
  refine wpAny_pure ⟨plainId_quiet PySem.MeetsSeq3.plain_eq_loop _, ?_⟩
  refine lt_loop hoa da hob db iu iv us.length 0 (by simp) (Nat.zero_le _) (Nat.zero_le _) ?_
  exact wpAny_truthy_bool h
end
end Mine

end
theorem Mine.resetKS1 : True ∧ True := by
  first
  | (walk1; done)
  | exact ⟨trivial, trivial⟩
section
open PySem PySem.W PyProof.Rows PySem.Calls PySem.Spec PyProof.V
set_option maxRecDepth 100000
set_option maxHeartbeats 8000000
namespace Mine
theorem fillit4 : (PySem.Challenge.rw_bj0027_01 = PySem.Challenge.rw_bj0027_01 ∧ hd.heap_39 = hd.heap_39) := by k_fill; exact ⟨rfl, rfl⟩
local macro_rules | `(tactic| walk_at "Exists") => `(tactic| (refine Stop.intro ?_))
local macro_rules | `(tactic| walk_at "InvPostG") => `(tactic| (refine Stop.intro ?_))
local macro_rules | `(tactic| walk_at "InvEndG") => `(tactic| (refine Stop.intro ?_))
local macro_rules | `(tactic| walk_at "CPost") => `(tactic| (refine Stop.intro ?_))
local macro_rules | `(tactic| walk_at "exec For") => `(tactic| (k_here; refine Stop.intro ?_))
local macro_rules | `(tactic| walk_at "pyIter ref") => `(tactic| (refine Stop.intro ?_))
local macro_rules | `(tactic| walk_at "binaryOp Add ref ref") => `(tactic| (k_here; refine Stop.intro ?_))
local macro_rules | `(tactic| walk_at "compareOp Eq ref ref") => `(tactic| (k_here; refine Stop.intro ?_))
local macro_rules | `(tactic| walk_at "compareOp NotEq ref ref") => `(tactic| (k_here; refine Stop.intro ?_))
local macro_rules | `(tactic| walk_at "compareOp In int ref") => `(tactic| (k_here; refine Stop.intro ?_))
local macro_rules | `(tactic| walk_at "compareOp NotIn ref ref") => `(tactic| (k_here; refine Stop.intro ?_))
local macro_rules | `(tactic| walk_at "call ref") => `(tactic| (k_here; refine Stop.intro ?_))
local macro_rules | `(tactic| walk_at "eval ListComp") => `(tactic| (k_here; refine Stop.intro ?_))
local macro_rules | `(tactic| walk_at "exec Assign cons ListComp") => `(tactic| (k_here; refine Stop.intro ?_))
local macro_rules | `(tactic| walk_at "eval Name") => `(tactic| (k_here; (with_reducible show wpAny _ _ (eval (Expr.Name _ _) (compEnvC _ _ _ _)) _ _ _); k_dflt (first
  | (refine blk_local (by k_asm) (by rfl) ?_ (by rfl) (by rfl))
  | (refine lcf_cell (by k_asm) (by rfl) (by k_mem) (by k_asm) ?_ (by rfl) (by rfl))
  | (refine lcf_free (by k_asm) (by rfl) (by k_mem) (by k_asm) ?_ (by rfl) (by rfl)))))
/-- put each new one of them as a lot of its own -/
noncomputable def growL : List (List Int) → List Int → List (List Int)
  | lots, [] => lots
  | lots, one :: r => growL (if lots.filter (fun lot => decide (one ∈ lot)) = [] then lots ++ [[one]] else lots) r
theorem growL_len : ∀ (some : List Int) (lots : List (List Int)), (growL lots some).length ≤ lots.length + some.length
  | [], _ => Nat.le_refl _
  | one :: r, lots => by
    show (growL (if lots.filter (fun lot => decide (one ∈ lot)) = [] then lots ++ [[one]] else lots) r).length ≤ _
    have := growL_len r (if lots.filter (fun lot => decide (one ∈ lot)) = [] then lots ++ [[one]] else lots)
    split at this <;> split <;> simp_all <;> omega
theorem growL_snoc : ∀ (some : List Int) (one : Int) (lots : List (List Int)), growL lots (some ++ [one]) = if (growL lots some).filter (fun lot => decide (one ∈ lot)) = [] then growL lots some ++ [[one]] else growL lots some
  | [], _, _ => rfl
  | _ :: r, one, _ => growL_snoc r one _
theorem any_mem (ns : List Int) (a : Int) : ns.any (· == a) = decide (a ∈ ns) := by
  induction ns with
  | nil => simp
  | cons x xs ih =>
    rw [List.any_cons, ih]
    by_cases h : x = a
    · simp [h]
    · have : ¬ a = x := fun e => h e.symm
      simp [h, this]
/-- those that meet, those that do not -/
noncomputable def mineL (lots : List (List Int)) (some : List Int) : List (List Int) := (growL lots some).filter fun lot => !decide (some.filter (fun x => decide (x ∈ lot)) = [])
noncomputable def restL (lots : List (List Int)) (some : List Int) : List (List Int) := (growL lots some).filter fun lot => !decide (lot ∈ mineL lots some)
theorem growL_flat : ∀ (some : List Int) (lots : List (List Int)), (growL lots some).flatten.length ≤ lots.flatten.length + some.length
  | [], _ => Nat.le_refl _
  | one :: r, lots => by
    show (growL (if lots.filter (fun lot => decide (one ∈ lot)) = [] then lots ++ [[one]] else lots) r).flatten.length ≤ _
    have := growL_flat r (if lots.filter (fun lot => decide (one ∈ lot)) = [] then lots ++ [[one]] else lots)
    split at this
    · rename_i h
      rw [if_pos h]
      rw [List.flatten_append, List.length_append] at this
      simp at this ⊢
      omega
    · rename_i h
      rw [if_neg h]
      simp at this ⊢
      omega
theorem filter_flat {p : List Int → Bool} : ∀ lots : List (List Int), (lots.filter p).flatten.length ≤ lots.flatten.length
  | [] => Nat.le_refl _
  | x :: xs => by
    have := filter_flat (p := p) xs
    rw [List.filter_cons]
    split
    · rw [List.flatten_cons, List.flatten_cons, List.length_append, List.length_append]; omega
    · rw [List.flatten_cons, List.length_append]; omega
theorem CPost_next {g h' : Heap} {L c : Addr} {J : (Str → Option Value) → List (Addr × Obj) → Prop} {own nx news' : List (Addr × Obj)} {s₁ : Shared} {Q : Flow → Shared → Prop} {tk : Nat} {m' : Str → Option Value} {oc : Obj} {v : Option Value}
    (F : Fr g L h' m') (N : News g L h' news') (hm : (c, oc) ∈ news') (hd : oc.data = .cell v) (hj : J m' nx) (hn : ∀ p ∈ nx, p ∈ news') (ho : ∀ p ∈ own, p ∈ news') (ha : OwnOff own (nx.map (·.1))) (hc : ∀ p ∈ nx, p.1 ≠ c) :
    CPost g L c J own s₁ Q .next { s₁ with heap := h', toks := tk } := ⟨h', tk, m', nx, oc, v, news', rfl, F, N, hm, hd, hn, ho, ha, hc, hj⟩
section
variable {w : World} {mean : ExcName → Option Value} {mg mb : Str → Option Value} {B : Heap} {A : Around} {outer : List Env} {s : Shared}
theorem joined_spec (G : Gd w mean mg mb B) (c : Cx B A outer s) (hd : A.depth + 1 < recursionLimit)
    {l e : Addr} {lots : List (List Int)} {sm : List Int} {vs0 : List Value} (hl : s.heap.IsList l vs0.toArray) (hR : RefsAre s.heap vs0 lots) (he : IntL s.heap e sm) (hu : A.units + 100 < cLine) (hlen : lots.flatten.length + sm.length < 60) (hlen2 : lots.length + sm.length < 60) {Q E : Value → Shared → Prop}
    (hQ : ∀ r vs n f nw h' tk', Ext [] s.heap h' → (∀ p ∈ nw, s.heap.get? p.1 = none ∧ h'.get? p.1 = some p.2) → (r, PySem.W.listOf (List.toArray vs) n) ∈ nw → f.Perm (mineL lots sm).flatten → f.Pairwise (· ≤ ·) → LotsAt (LotsH l vs0 lots) nw r vs (restL lots sm ++ if f = [] then [] else [f]) → Q (.ref r) { s with heap := h', toks := tk' }) :
    wpAny (model pr w) A (call (.ref 81) [.ref l, .ref e]) Q E s := by
  refine callC (f := 81) (binds := [(Str.ofString "lots", .ref l), (Str.ofString "some", .ref e)]) G c [] (fun _ h => nomatch h) (fun _ h => nomatch h) (fun _ _ _ h => nomatch h) (by k_is) (by k_is) (by omega) (BindsTo.of_eq rfl) rfl (by decide +kernel) ?_ rfl rfl rfl
  intro g' L' h' tk' cells' F' N' Y' B' G' X' _ _
  have hl' : g'.IsList l vs0.toArray := let ⟨o, e, r⟩ := hl; ⟨o, X'.stays _ _ e, r⟩
  have hR0 := hR.keeps X'.stays
  have hLH : ∀ h : Heap, g'.StaysIn h → LotsH l vs0 lots h := fun h st => ⟨let ⟨o, e, r⟩ := hl'; ⟨o, st _ _ e, r⟩, hR0.keeps st⟩
  have he' := he.keeps X'.stays
  have hh := c.hh
  obtain ⟨KX', T'⟩ := G'
  have fr := c.fr
  clear hl c
  obtain ⟨us, he', hU⟩ := he'
  k_cells Y'
  rename_i o1 o2 o3 d1 d2 d3
  replace d1 : o1.data = .cell none := d1
  replace d2 : o2.data = .cell none := d2
  replace d3 : o3.data = .cell (some (.ref e)) := d3
  change wpAny _ _ _ _ _ _
  k_steps
  refine Stop.out ?_
  rename Fr _ _ _ _ => F2
  rename News _ _ _ _ => N2
  refine forC (news := [(L' + 1 + 1 + 1, o1), (L' + 1, o3)]) (fun i m nx => ∃ om os ll tail vs, nx = (L' + 1 + 1 + 1, om) :: (L' + 1, os) :: tail ∧ os.data = .cell (some (.ref e)) ∧ (∃ v, om.data = .cell v) ∧ m (Str.ofString "lots") = some (.ref ll) ∧ LotsAt (LotsH l vs0 lots) tail ll vs (growL lots (sm.take i)) ∧ ∀ p ∈ tail, L' + 1 + 1 + 1 < p.1)
    hh rfl rfl rfl (fun _ => rfl) ?_ he' F2 (fun p hp => N2 p (by grind)) d2 ?_ ?_ ?_ ?_
  · intro Q' hQ'
    k_steps
    exact hQ'
  · intro p hp
    rcases hp with _ | ⟨_, _ | ⟨_, hp⟩⟩
    · exact Nat.succ_ne_self _
    · exact Nat.ne_of_lt (Nat.lt_succ_self _)
    · cases hp
  · exact ⟨o1, o3, l, [], vs0, rfl, d3, ⟨_, d1⟩, rfl, fun h hLh _ => hLh, fun _ hp => nomatch hp⟩
  · rintro i v m₁ nx oc' h6 tk6 own hv hoc' hoff hownc hnxc ⟨om, os, ll, tail, vs, rfl, hos, ⟨vm, hom⟩, m1, hat, hta⟩ F6 N6
    obtain ⟨a, ta, rfl, hsa⟩ : ∃ a ta, v = .int a ta ∧ sm[i]? = some a := by
      have hv' : us[i]? = some v := by simpa using hv
      have hj : i < sm.length := by rw [← hU.length]; exact (List.getElem?_eq_some_iff.mp hv').1
      obtain ⟨t, e⟩ := hU.get i (sm[i]'hj) (List.getElem?_eq_getElem hj)
      rw [hv'] at e
      exact ⟨_, t, Option.some.inj e, List.getElem?_eq_getElem hj⟩
    have F7 := named F6 [(Str.ofString "lots", .ref ll)]
      (by intro p hp; rcases hp with _ | ⟨_, hp⟩ <;> first | assumption | rfl | cases hp)
    clear F6 F2 N2
    generalize hln : growL lots (sm.take i) = lotsN at hat
    obtain ⟨hlv, hRv⟩ := hat h6 (hLH _ F7.keep) (fun p hp => (N6 p (by grind)).1)
    have hsz : lotsN.length < 60 := by
      have := growL_len (sm.take i) lots
      rw [hln, List.length_take] at this
      omega
    have a6 : ∀ p ∈ (L' + 1 + 1, oc') :: ((L' + 1 + 1 + 1, om) :: (L' + 1, os) :: tail ++ own), @LT.lt Nat _ p.1 h6.objs.size := fun p hp => Heap.lt_size (N6 p hp).1
    have hvl : vs.length < 60 := by rw [hRv.length]; exact hsz
    have nos : NoSeq h6 [L' + 1 + 1] := NoSeq.of (l := [(L' + 1 + 1, oc')]) (fun p hp => N6 p (by grind)) (fun p hp its n e => by rw [List.mem_singleton.mp hp, hoc'] at e; cases e)
    have hlc : ll ≠ L' + 1 + 1 := fun q => by
      obtain ⟨o, ho, _, n, hd'⟩ := hlv
      exact nos _ (by rw [q]; exact .head _) o ho _ _ hd'
    k_steps
    refine Stop.out ?_
    refine LF_L (L := L') [(L' + 1 + 1, oc')] ((L' + 1 + 1 + 1, om) :: (L' + 1, os) :: tail ++ own) ll vs lotsN (fun lot => decide (a ∈ lot)) [(Str.ofString "one", L' + 1 + 1)] hh F7 N6 ?_ hlv ?_ hRv.length ?_ ?_ ?_ ?_ (by with_unfolding_all rfl) (by decide) rfl (by decide) rfl
    · intro q hq
      rw [List.map_singleton, List.mem_singleton]
      rcases List.mem_append.mp hq with hq | hq
      · exact hnxc q hq
      · exact hownc q hq
    · rw [List.map_singleton, List.mem_singleton]; exact hlc
    · rw [hRv.length]; exact Nat.le_of_lt (Nat.lt_of_lt_of_le hsz (by decide))
    · intro Q' hQ'
      k_steps
      exact hQ'
    · intro g C BB j v lot m₂ own' h7 tk7 hv hlot hoff' F8 N8
      obtain ⟨b, lot', rfl, hlot', zs, hb, hz⟩ := (hRv.ext2 BB.ext nos).get hv
      rw [hlot] at hlot'; cases hlot'
      clear F7 N6
      k_steps
      refine Stop.out ?_
      refine in_list_ints (let ⟨o, e, r⟩ := hb; ⟨o, F8.keep b o e, r⟩) hz ?_
      rw [any_mem]
      k_steps
      refine Stop.out ?_
      rename Fr _ _ _ _ => F9
      rename News _ _ _ _ => N9
      exact InvEndG.intro F9 N9 ⟨rfl, rfl, if_pos rfl⟩ hoff' (fun y hy => List.mem_append_left _ hy) (fun y hy => List.mem_append_right _ hy)
    intro D n h8 tk8 e8 F8 N8 hlt8
    k_steps
    refine Stop.out ?_
    rename Fr _ _ _ _ => F9
    rename News _ _ _ _ => N9
    obtain ⟨hl9, hR9⟩ := hat _ (hLH _ F9.keep) (fun p hp => (N9 p (by grind)).1)
    refine eq_LotsL ⟨_, isList_of N9 (.tail _ (.head _)), hR9.sel⟩ (ys := []) ⟨[], isList_of N9 (.head _), trivial⟩ (by show A.units + 3 + 64 < cLine; omega) ?_
    k_steps
    · refine Stop.out ?_
      rename (decide _ = true) => htt
      rename Fr _ _ _ _ => Fa
      rename News _ _ _ _ => Na
      obtain ⟨hla, hRa⟩ := hat _ (hLH _ Fa.keep) (fun p hp => (Na p (by grind)).1)
      refine add_two (us := [_]) Fa Na hla (isList_of Na (.head _)) (by show vs.length + 1 < 128; omega) ?_
      intro ln hb Fb Nb hln1 hln2
      k_steps
      refine Stop.out ?_
      rename Fr _ _ _ _ => Fc
      rename News _ _ _ _ => Nc
      rename (_ < _ ∧ _ < _ ∧ _ < _ ∧ AllLt _ _) => q3
      rename (_ < _ ∧ _ < _ ∧ AllLt _ _) => q2
      rename (_ < _ ∧ AllLt _ _) => q1
      obtain ⟨lq, lo, le, Nd, r1, r2, r3, r4⟩ : ∃ lq lo le, News g' L' _ ((ln, PySem.W.listOf (vs ++ [Value.ref lo]).toArray 0) :: (lq, PySem.W.listOf #[Value.ref lo] 0) :: (lo, PySem.W.listOf #[Value.int a ta] 0) :: (le, PySem.W.listOf #[] 0) :: (D, PySem.W.listOf (sel (fun lot => decide (a ∈ lot)) vs lotsN).toArray n) :: ([(L' + 1 + 1, oc')] ++ ((L' + 1 + 1 + 1, om) :: (L' + 1, os) :: tail ++ own)))
        ∧ @LT.lt Nat _ D le ∧ @LT.lt Nat _ le lo ∧ @LT.lt Nat _ lo lq ∧ @LT.lt Nat _ lq ln := ⟨_, _, _, Nc, q1.1, q2.1, q3.1, hln2 _ (.head _)⟩
      clear Nc
      have sub : ∀ p ∈ [(L' + 1 + 1, oc')] ++ ((L' + 1 + 1 + 1, om) :: (L' + 1, os) :: tail ++ own), p ∈ ((ln, PySem.W.listOf (vs ++ [Value.ref lo]).toArray 0) :: (lq, PySem.W.listOf #[Value.ref lo] 0) :: (lo, PySem.W.listOf #[Value.int a ta] 0) :: (le, PySem.W.listOf #[] 0) :: (D, PySem.W.listOf (sel (fun lot => decide (a ∈ lot)) vs lotsN).toArray n) :: ([(L' + 1 + 1, oc')] ++ ((L' + 1 + 1 + 1, om) :: (L' + 1, os) :: tail ++ own))) := fun p hp => List.mem_cons_of_mem _ (List.mem_cons_of_mem _ (List.mem_cons_of_mem _ (List.mem_cons_of_mem _ (List.mem_cons_of_mem _ hp))))
      have olt : ∀ p ∈ (L' + 1 + 1, oc') :: ((L' + 1 + 1 + 1, om) :: (L' + 1, os) :: tail ++ own), @LT.lt Nat _ p.1 lo ∧ @LT.lt Nat _ p.1 ln := fun p hp => by
        have a1 := a6 p hp
        have a2 : @LT.lt Nat _ h6.objs.size D := hlt8
        exact ⟨by omega, by omega⟩
      refine CPost_next (nx := (L' + 1 + 1 + 1, om) :: (L' + 1, os) :: (ln, PySem.W.listOf (vs ++ [Value.ref lo]).toArray 0) :: (lo, PySem.W.listOf #[Value.int a ta] 0) :: tail) Fc Nd (sub _ (.head _)) hoc' ⟨om, os, ln, (ln, PySem.W.listOf (vs ++ [Value.ref lo]).toArray 0) :: (lo, PySem.W.listOf #[Value.int a ta] 0) :: tail, vs ++ [Value.ref lo], rfl, hos, ⟨_, hom⟩, rfl, ?_, ?_⟩ ?_ ?_ ?_ ?_
      · have e : growL lots (sm.take (i + 1)) = lotsN ++ [[a]] := by
          rw [List.take_add_one, hsa]
          show growL lots (sm.take i ++ [a]) = _
          rw [growL_snoc, hln, if_pos (of_decide_eq_true htt)]
        rw [e]
        intro h st hN
        obtain ⟨_, hR⟩ := hat h st fun p hp => hN p (.tail _ (.tail _ hp))
        exact ⟨⟨_, hN _ (.head _), rfl, _, rfl⟩, hR.append ⟨⟨lo, rfl, [Value.int a ta], ⟨_, hN _ (.tail _ (.head _)), rfl, _, rfl⟩, .cons a ta .nil⟩, trivial⟩⟩
      · have a1 := olt (L' + 1 + 1 + 1, om) (.tail _ (.head _))
        intro p hp
        rcases hp with _ | ⟨_, _ | ⟨_, hp⟩⟩
        · exact a1.2
        · exact a1.1
        · exact hta p hp
      · intro p hp
        rcases hp with _ | ⟨_, _ | ⟨_, _ | ⟨_, _ | ⟨_, hp⟩⟩⟩⟩
        · exact sub _ (.tail _ (.head _))
        · exact sub _ (.tail _ (.tail _ (.head _)))
        · exact .head _
        · exact .tail _ (.tail _ (.head _))
        · exact sub _ (.tail _ (.tail _ (.tail _ (List.mem_append_left _ hp))))
      · exact fun p hp => sub p (.tail _ (.tail _ (.tail _ (List.mem_append_right _ hp))))
      · intro p hp b hb
        have a1 := olt p (.tail _ (.tail _ (.tail _ (List.mem_append_right _ hp))))
        rcases hb with _ | ⟨_, _ | ⟨_, _ | ⟨_, _ | ⟨_, hb⟩⟩⟩⟩
        · exact hoff p hp _ (.head _)
        · exact hoff p hp _ (.tail _ (.head _))
        · exact Nat.ne_of_lt a1.2
        · exact Nat.ne_of_lt a1.1
        · exact hoff p hp _ (.tail _ (.tail _ hb))
      · have a1 := olt (L' + 1 + 1, oc') (.head _)
        intro p hp
        rcases hp with _ | ⟨_, _ | ⟨_, _ | ⟨_, _ | ⟨_, hp⟩⟩⟩⟩
        · exact hnxc _ (.head _)
        · exact hnxc _ (.tail _ (.head _))
        · exact Nat.ne_of_gt a1.2
        · exact Nat.ne_of_gt a1.1
        · exact hnxc p (.tail _ (.tail _ hp))
    · refine Stop.out ?_
      rename (decide _ = false) => htt
      rename Fr _ _ _ _ => Fc
      rename News _ _ _ _ => Nc
      rename (_ < _ ∧ AllLt _ _) => q1
      refine CPost_next (nx := (L' + 1 + 1 + 1, om) :: (L' + 1, os) :: tail) Fc Nc (.tail _ (.tail _ (.head _))) hoc' ⟨om, os, _, tail, vs, rfl, hos, ⟨_, hom⟩, rfl, ?_, hta⟩ (fun p hp => .tail _ (.tail _ (List.mem_append_right _ (List.mem_append_left _ hp)))) (fun p hp => .tail _ (.tail _ (List.mem_append_right _ (List.mem_append_right _ hp)))) hoff hnxc
      have e : growL lots (sm.take (i + 1)) = lotsN := by
        rw [List.take_add_one, hsa]
        show growL lots (sm.take i ++ [a]) = lotsN
        rw [growL_snoc, hln, if_neg (of_decide_eq_false htt)]
      rw [e]; exact hat
  · rintro m₁ nx oc' v' h6 tk6 ⟨om, os, ll, tail, vs, rfl, hos, ⟨vm, hom⟩, m1, hat, hta⟩ F6 N6 hoc' hcn
    have esm : sm.take us.toArray.size = sm := List.take_of_length_le (by simp [hU.length])
    rw [esm] at hat
    have hsz : (growL lots sm).length < 60 := Nat.lt_of_le_of_lt (growL_len sm lots) hlen2
    generalize hln : growL lots sm = lotsN at hat hsz
    have hmr : mineL lots sm = lotsN.filter (fun lot => !decide (sm.filter (fun x => decide (x ∈ lot)) = [])) := by rw [← hln]; rfl
    have hrr : restL lots sm = lotsN.filter (fun lot => !decide (lot ∈ mineL lots sm)) := by rw [← hln]; rfl
    have hml : (mineL lots sm).flatten.length < 60 := Nat.lt_of_le_of_lt (Nat.le_trans (filter_flat _) (growL_flat sm lots)) hlen
    have F7 := named F6 [(Str.ofString "lots", .ref ll)]
      (by intro p hp; rcases hp with _ | ⟨_, hp⟩ <;> first | assumption | rfl | cases hp)
    clear F6 F2 N2
    obtain ⟨hlv, hRv⟩ := hat h6 (hLH _ F7.keep) (fun p hp => (N6 p (.tail _ (.tail _ (.tail _ hp)))).1)
    have hvl : vs.length < 60 := by rw [hRv.length]; exact hsz
    have hul : us.length < 60 := by rw [hU.length]; omega
    have a6 : ∀ p ∈ (L' + 1, os) :: (L' + 1 + 1, oc') :: (L' + 1 + 1 + 1, om) :: tail, @LT.lt Nat _ p.1 h6.objs.size := fun p hp => Heap.lt_size (N6 p (by rcases hp with _ | ⟨_, _ | ⟨_, _ | ⟨_, hp⟩⟩⟩; exact .tail _ (.tail _ (.head _)); exact .head _; exact .tail _ (.head _); exact .tail _ (.tail _ (.tail _ hp)))).1
    have nos : NoSeq h6 [L' + 1] := NoSeq.of (l := [(L' + 1, os)]) (fun p hp => N6 p (by rw [List.mem_singleton.mp hp]; exact .tail _ (.tail _ (.head _)))) (fun p hp its n e => by rw [List.mem_singleton.mp hp, hos] at e; cases e)
    have hlc : ll ≠ L' + 1 := fun q => by
      obtain ⟨o, ho, _, n, hd'⟩ := hlv
      exact nos _ (by rw [q]; exact .head _) o ho _ _ hd'
    have hec : e ≠ L' + 1 := fun q => by
      obtain ⟨o, ho, _, n, hd'⟩ := he'
      exact nos _ (by rw [q]; exact .head _) o (F7.keep _ _ ho) _ _ hd'
    k_steps
    refine Stop.out ?_
    refine wpAny_Assign_Name ?_ (by with_unfolding_all rfl)
    refine LF_C (L := L') [(L' + 1, os)] ((L' + 1 + 1, oc') :: (L' + 1 + 1 + 1, om) :: tail) ll vs lotsN (fun lot => !decide (sm.filter (fun x => decide (x ∈ lot)) = [])) [(Str.ofString "some", L' + 1)] hh F7 (fun p hp => N6 p ?_) ?_ hlv ?_ hRv.length ?_ ?_ ?_ ?_ (by with_unfolding_all rfl) (fun _ => by with_unfolding_all rfl) (fun _ => by with_unfolding_all rfl) rfl (by decide) (by with_unfolding_all rfl)
    · rcases hp with _ | ⟨_, _ | ⟨_, _ | ⟨_, hp⟩⟩⟩
      · exact .tail _ (.tail _ (.head _))
      · exact .head _
      · exact .tail _ (.head _)
      · exact .tail _ (.tail _ (.tail _ hp))
    · intro q hq
      rw [List.map_singleton, List.mem_singleton]
      rcases hq with _ | ⟨_, _ | ⟨_, hq⟩⟩
      · exact Nat.succ_ne_self _
      · exact Nat.ne_of_gt (by show L' + 1 < L' + 1 + 1 + 1; exact Nat.lt_succ_of_lt (Nat.lt_succ_self _))
      · exact Nat.ne_of_gt (Nat.lt_trans (Nat.lt_succ_of_lt (Nat.lt_succ_self _)) (hta q hq))
    · rw [List.map_singleton, List.mem_singleton]; exact hlc
    · exact Nat.le_of_lt (Nat.lt_of_lt_of_le hvl (by decide))
    · intro Q' hQ'
      k_steps
      exact hQ'
    · intro g C BB j v lot m₂ oc own' h7 tk7 hv hlot hoc hoff' hoff2' hown F8 N8
      obtain ⟨b, lot', rfl, hlot', zs, hb, hz⟩ := (hRv.ext2 BB.ext nos).get hv
      rw [hlot] at hlot'; cases hlot'
      have eg : g.IsList e us.toArray := isList_ext2 (let ⟨o, e, r⟩ := he'; ⟨o, F7.keep _ _ e, r⟩) BB.ext nos
      clear F7 N6
      k_steps
      refine Stop.out ?_
      refine LF_L (L := C) [(C + 1, oc)] ((L' + 1, os) :: own') e us sm (fun x => decide (x ∈ lot)) [(Str.ofString "lot", C + 1)] hh F8 N8 ?_ ?_ ?_ hU.length ?_ ?_ ?_ ?_ (by with_unfolding_all rfl) (by decide) rfl (by decide) rfl
      · intro q hq
        rw [List.map_singleton, List.mem_singleton]
        rcases hq with _ | ⟨_, hq⟩
        · exact hoff2' _ (.head _)
        · intro q'
          exact hown _ hq q'
      · exact let ⟨o, e, r⟩ := eg; ⟨o, F8.keep _ _ e, r⟩
      · rw [List.map_singleton, List.mem_singleton]
        intro q
        obtain ⟨o, ho, _⟩ := eg
        have := (N8 (C + 1, oc) (.head _)).2.2
        rw [← q, ho] at this; cases this
      · exact Nat.le_of_lt (Nat.lt_of_lt_of_le hul (by decide))
      · intro Q' hQ'
        k_steps
        exact hQ'
      · intro g3 C3 BB3 j3 v3 x3 m3 own3 h9 tk9 hv3 hx3 hoff3 F9 N9
        obtain ⟨t3, e3⟩ := hU.get j3 x3 hx3
        rw [hv3] at e3; cases e3
        have nos3 : NoSeq h7 [C + 1] := NoSeq.of (l := [(C + 1, oc)]) (fun p hp => N8 p (by rw [List.mem_singleton.mp hp]; exact .head _)) (fun p hp its n e => by rw [List.mem_singleton.mp hp, hoc] at e; cases e)
        have hb3 : g3.IsList b zs.toArray := isList_ext2 (let ⟨o, e, r⟩ := hb; ⟨o, F8.keep _ _ e, r⟩) BB3.ext nos3
        clear F8 N8
        k_steps
        refine Stop.out ?_
        refine in_list_ints (let ⟨o, e, r⟩ := hb3; ⟨o, F9.keep _ _ e, r⟩) hz ?_
        rw [any_mem]
        k_steps
        refine Stop.out ?_
        rename Fr _ _ _ _ => Fa
        rename News _ _ _ _ => Na
        exact InvEndG.intro Fa Na ⟨rfl, rfl, if_pos rfl⟩ hoff3 (fun y hy => List.mem_append_left _ hy) (fun y hy => List.mem_append_right _ hy)
      · intro D n h9 tk9 e9 F9 N9 hlt9
        k_steps
        refine Stop.out ?_
        rename Fr _ _ _ _ => Fa
        rename News _ _ _ _ => Na
        refine ne_IntL ⟨_, isList_of Na (.tail _ (.head _)), ints_sel hU⟩ (ys := []) ⟨[], isList_of Na (.head _), .nil⟩ (by show A.units + 3 + 64 < cLine; omega) ?_
        k_steps
        refine Stop.out ?_
        rename Fr _ _ _ _ => Fb
        rename News _ _ _ _ => Nb
        refine InvEndG.intro Fb Nb ⟨rfl, rfl⟩ ?_ ?_ ?_
        · intro p hp b' hb'
          rw [List.map_singleton, List.mem_singleton] at hb'
          rw [hb']
          rcases hp with _ | ⟨_, hp⟩
          · exact Ne.symm (hoff2' _ (.head _))
          · exact hoff' p hp _ (.head _)
        · intro p hp
          rw [List.mem_singleton.mp hp]
          exact .tail _ (.tail _ (.tail _ (.head _)))
        · intro p hp
          rcases hp with _ | ⟨_, hp⟩
          · exact .tail _ (.tail _ (.head _))
          · exact .tail _ (.tail _ (.tail _ (.tail _ hp)))
    intro D n h8 tk8 e8 F8 N8 hlt8
    dsimp only [List.cons_append, List.nil_append] at N8
    have hD : @LT.lt Nat _ h6.objs.size D := hlt8
    have a7 : ∀ p ∈ (L' + 1, os) :: (L' + 1 + 1, oc') :: (L' + 1 + 1 + 1, om) :: tail, @LT.lt Nat _ p.1 D := fun p hp => Nat.lt_trans (a6 p hp) hD
    have hoff3 : ∀ p ∈ (D, PySem.W.listOf (sel (fun lot => !decide (sm.filter (fun x => decide (x ∈ lot)) = [])) vs lotsN).toArray n) :: (L' + 1, os) :: (L' + 1 + 1, oc') :: tail, p.1 ≠ L' + 1 + 1 + 1 := by
      intro p hp
      rcases hp with _ | ⟨_, _ | ⟨_, _ | ⟨_, hp⟩⟩⟩
      · exact Nat.ne_of_gt (a7 (L' + 1 + 1 + 1, om) (.tail _ (.tail _ (.head _))))
      · exact Nat.ne_of_lt (by show L' + 1 < L' + 1 + 1 + 1; exact Nat.lt_succ_of_lt (Nat.lt_succ_self _))
      · exact Nat.ne_of_lt (Nat.lt_succ_self _)
      · exact Nat.ne_of_gt (hta p hp)
    refine storeX_C (news := (L' + 1 + 1 + 1, om) :: (D, PySem.W.listOf (sel (fun lot => !decide (sm.filter (fun x => decide (x ∈ lot)) = [])) vs lotsN).toArray n) :: (L' + 1, os) :: (L' + 1 + 1, oc') :: tail) F8 (fun p hp => N8 p ?_) (c := L' + 1 + 1 + 1) (by rfl) (UpdF.head hoff3) hom ?_
    · rcases hp with _ | ⟨_, _ | ⟨_, _ | ⟨_, _ | ⟨_, hp⟩⟩⟩⟩
      · exact .tail _ (.tail _ (.tail _ (.head _)))
      · exact .head _
      · exact .tail _ (.head _)
      · exact .tail _ (.tail _ (.head _))
      · exact .tail _ (.tail _ (.tail _ (.tail _ hp)))
    intro h9 om' F9 N9 hom'
    k_steps
    refine Stop.out ?_
    rename Fr _ _ _ _ => Fa
    rename News _ _ _ _ => Na
    obtain ⟨hl9, hR9⟩ := hat _ (hLH _ Fa.keep) (fun p hp => (Na p (.tail _ (.tail _ (.tail _ (.tail _ hp))))).1)
    have nos9 : NoSeq h9 [L' + 1 + 1 + 1] := NoSeq.of (l := [(L' + 1 + 1 + 1, om')]) (fun p hp => Na p (by rw [List.mem_singleton.mp hp]; exact .head _)) (fun p hp its n e => by rw [List.mem_singleton.mp hp, hom'] at e; cases e)
    have hlc9 : ll ≠ L' + 1 + 1 + 1 := fun q => by
      obtain ⟨o, ho, _, n, hd'⟩ := hl9
      exact nos9 _ (by rw [q]; exact .head _) o ho _ _ hd'
    have hM9 : LotsL h9 D (lotsN.filter (fun lot => !decide (sm.filter (fun x => decide (x ∈ lot)) = []))) := ⟨_, isList_of Na (.tail _ (.head _)), hR9.sel⟩
    rw [← hmr] at hM9
    generalize hmine : mineL lots sm = mine at hM9 hml hmr hrr hQ
    refine LF_A [(L' + 1 + 1 + 1, om')] ((D, PySem.W.listOf (sel (fun lot => !decide (sm.filter (fun x => decide (x ∈ lot)) = [])) vs lotsN).toArray n) :: (L' + 1, os) :: (L' + 1 + 1, oc') :: tail) ll vs lotsN (fun lot => !decide (lot ∈ mine)) [(Str.ofString "mine", L' + 1 + 1 + 1)] hh Fa Na ?_ hl9 ?_ hR9.length ?_ ?_ ?_ ?_ (by with_unfolding_all rfl) (by with_unfolding_all rfl) (by decide) rfl (by decide) rfl (by rfl) (by rfl)
    · intro q hq
      rw [List.map_singleton, List.mem_singleton]
      exact hoff3 q hq
    · rw [List.map_singleton, List.mem_singleton]; exact hlc9
    · exact Nat.le_of_lt (Nat.lt_of_lt_of_le hvl (by decide))
    · intro Q' hQ'
      k_steps
      exact hQ'
    · intro g C BB j v lot m₂ own' ha tka hv hlot hoff' Fb Nb
      obtain ⟨b, lot', rfl, hlot', hb⟩ := (hR9.ext2 BB.ext nos9).get hv
      rw [hlot] at hlot'; cases hlot'
      have hMg := hM9.ext2 BB.ext nos9
      clear Fa Na
      k_steps
      refine Stop.out ?_
      refine notIn_LotsL (hb.keeps Fb.keep) (hMg.keeps Fb.keep) (by show A.units + 3 + 65 < cLine; omega) ?_
      k_steps
      refine Stop.out ?_
      rename Fr _ _ _ _ => Fa
      rename News _ _ _ _ => Na
      exact InvEndG.intro Fa Na ⟨rfl, rfl, if_pos rfl⟩ hoff' (fun y hy => List.mem_append_left _ hy) (fun y hy => List.mem_append_right _ hy)
    intro R n2 ha tka ea Fb Nb hltb
    clear Fa Na
    dsimp only [List.cons_append, List.nil_append] at Nb
    k_steps
    refine Stop.out ?_
    rename Fr _ _ _ _ => Fa
    rename News _ _ _ _ => Na
    have hMa : LotsL ha D mine := by
      obtain ⟨_, hRa⟩ := hat _ (hLH _ Fa.keep) (fun p hp => (Na p (.tail _ (.tail _ (.tail _ (.tail _ (.tail _ hp)))))).1)
      refine ⟨_, isList_of Na (.tail _ (.tail _ (.head _))), ?_⟩
      rw [hmr]
      exact hRa.sel
    refine all_spec G (Cx.inner B' Fa (Around.frames_deeper fr) rfl rfl hh) (by show A.depth + 1 < recursionLimit; exact hd) hMa (Nat.lt_of_lt_of_le hml (by decide)) ?_
    intro f vf nf fs hb tkb eb hfn hfo hfi hfp hfs
    obtain ⟨Fc, Nc⟩ := after (mu := []) (mu' := [(f, PySem.W.listOf vf.toArray nf)]) Fa (rest := _) Na (by simp) eb (fun p hp => by rw [List.mem_singleton.mp hp]; exact ⟨hfo, .inr hfn⟩)
    clear Fa Na
    dsimp only [List.cons_append, List.nil_append] at Nc
    change wpAny _ _ _ _ _ _
    k_steps
    refine Stop.out ?_
    rename Fr _ _ _ _ => Fa
    rename News _ _ _ _ => Na
    refine ne_IntL ⟨_, isList_of Na (.tail _ (.head _)), hfi⟩ (ys := []) ⟨[], isList_of Na (.head _), .nil⟩ (by show A.units + 3 + 64 < cLine; omega) ?_
    have hsl : (sel (fun lot => !decide (lot ∈ mine)) vs lotsN).length < 60 := by
      have := (hRv.sel (p := fun lot => !decide (lot ∈ mine))).length
      have := List.length_filter_le (fun lot => !decide (lot ∈ mine)) lotsN
      omega
    have fin : ∀ (r : Addr) (us2 : List Value) (nn : Nat) (nw all : List (Addr × Obj)) (hz : Heap) (tkz : Nat) (mz : Str → Option Value), Fr g' L' hz mz → News g' L' hz all → (∀ p ∈ nw, p ∈ all) → (r, PySem.W.listOf us2.toArray nn) ∈ nw → LotsAt (LotsH l vs0 lots) nw r us2 (restL lots sm ++ if fs = [] then [] else [fs]) → Q (.ref r) { s with heap := hz, toks := tkz } :=
      fun r us2 nn nw all hz tkz mz Fz Nz sub hm hat' => hQ r us2 nn fs nw hz tkz (X'.trans (Ext.of_stays Fz.keep)) (fun p hp => ⟨X'.none (by simp) (Nz p (sub p hp)).2.2, (Nz p (sub p hp)).1⟩) hm hfp hfs hat'
    k_steps
    · refine Stop.out ?_
      rename (decide _ = true) => htt
      rename Fr _ _ _ _ => Fb
      rename News _ _ _ _ => Nb
      refine add_two (us := []) Fb Nb (isList_of Nb (.tail _ (.tail _ (.tail _ (.head _))))) (isList_of Nb (.head _)) (by show (sel (fun lot => !decide (lot ∈ mine)) vs lotsN).length + 0 < 128; omega) ?_
      intro ln hz Fz Nz _ _
      have hfs2 : fs = [] := by simpa using htt
      obtain ⟨lq, lw, Nd⟩ : ∃ lq lw, News g' L' hz ((ln, PySem.W.listOf (sel (fun lot => !decide (lot ∈ mine)) vs lotsN ++ []).toArray 0) :: (lq, PySem.W.listOf #[] 0) :: (lw, PySem.W.listOf #[] 0) :: (f, PySem.W.listOf vf.toArray nf) ::
        (R, PySem.W.listOf (sel (fun lot => !decide (lot ∈ mine)) vs lotsN).toArray n2) :: (L' + 1 + 1 + 1, om') :: (D, PySem.W.listOf (sel (fun lot => !decide (sm.filter (fun x => decide (x ∈ lot)) = [])) vs lotsN).toArray n) :: (L' + 1, os) :: (L' + 1 + 1, oc') :: tail) := ⟨_, _, Nz⟩
      have done := fun tkz => fin ln _ 0 ((ln, PySem.W.listOf (sel (fun lot => !decide (lot ∈ mine)) vs lotsN ++ []).toArray 0) :: (f, PySem.W.listOf vf.toArray nf) :: tail) _ hz tkz _ Fz Nd
        (by
          intro p hp
          rcases hp with _ | ⟨_, _ | ⟨_, hp⟩⟩
          · exact .head _
          · exact .tail _ (.tail _ (.tail _ (.head _)))
          · exact .tail _ (.tail _ (.tail _ (.tail _ (.tail _ (.tail _ (.tail _ (.tail _ (.tail _ hp)))))))))
        (.head _)
        (by
          intro h hR' hN
          obtain ⟨_, hRh⟩ := hat h hR' fun p hp => hN p (.tail _ (.tail _ hp))
          rw [if_pos hfs2, hrr]
          refine ⟨⟨_, hN _ (.head _), rfl, _, rfl⟩, ?_⟩
          rw [List.append_nil, List.append_nil]
          exact hRh.sel)
      k_steps
      exact done _
    · refine Stop.out ?_
      rename (decide _ = false) => htt
      rename Fr _ _ _ _ => Fb
      rename News _ _ _ _ => Nb
      refine add_two (us := [_]) Fb Nb (isList_of Nb (.tail _ (.tail _ (.tail _ (.head _))))) (isList_of Nb (.head _)) (by show (sel (fun lot => !decide (lot ∈ mine)) vs lotsN).length + 1 < 128; omega) ?_
      intro ln hz Fz Nz _ _
      have hfs2 : fs ≠ [] := by simpa using htt
      obtain ⟨lq, lw, Nd⟩ : ∃ lq lw, News g' L' hz ((ln, PySem.W.listOf (sel (fun lot => !decide (lot ∈ mine)) vs lotsN ++ [Value.ref f]).toArray 0) :: (lq, PySem.W.listOf #[Value.ref f] 0) :: (lw, PySem.W.listOf #[] 0) :: (f, PySem.W.listOf vf.toArray nf) ::
        (R, PySem.W.listOf (sel (fun lot => !decide (lot ∈ mine)) vs lotsN).toArray n2) :: (L' + 1 + 1 + 1, om') :: (D, PySem.W.listOf (sel (fun lot => !decide (sm.filter (fun x => decide (x ∈ lot)) = [])) vs lotsN).toArray n) :: (L' + 1, os) :: (L' + 1 + 1, oc') :: tail) := ⟨_, _, Nz⟩
      have done := fun tkz => fin ln _ 0 ((ln, PySem.W.listOf (sel (fun lot => !decide (lot ∈ mine)) vs lotsN ++ [Value.ref f]).toArray 0) :: (f, PySem.W.listOf vf.toArray nf) :: tail) _ hz tkz _ Fz Nd
        (by
          intro p hp
          rcases hp with _ | ⟨_, _ | ⟨_, hp⟩⟩
          · exact .head _
          · exact .tail _ (.tail _ (.tail _ (.head _)))
          · exact .tail _ (.tail _ (.tail _ (.tail _ (.tail _ (.tail _ (.tail _ (.tail _ (.tail _ hp)))))))))
        (.head _)
        (by
          intro h hR' hN
          obtain ⟨_, hRh⟩ := hat h hR' fun p hp => hN p (.tail _ (.tail _ hp))
          rw [if_neg hfs2, hrr]
          exact ⟨⟨_, hN _ (.head _), rfl, _, rfl⟩, hRh.sel.append ⟨⟨f, rfl, vf, ⟨_, hN _ (.tail _ (.head _)), rfl, _, rfl⟩, hfi⟩, trivial⟩⟩)
      k_steps
      exact done _
end
end Mine

end
theorem Mine.resetUH : True ∧ True := by
  first
  | (walk1; done)
  | exact ⟨trivial, trivial⟩
section
open PySem PySem.W PyProof.Rows PySem.Calls PySem.Spec PyProof.V
set_option maxRecDepth 100000
set_option maxHeartbeats 8000000
namespace Mine
/-! tables of sets: the places rise -/
theorem below_eq {xs : Array Nat} {j c : Nat} (hc : c ≤ xs.size) (h1 : ∀ i (h : i < xs.size), i < c → xs[i] < j) (h2 : ∀ i (h : i < xs.size), c ≤ i → j ≤ xs[i]) : SetTable.below xs j = c := by
  have key : ∀ (fuel lo hi : Nat), hi - lo ≤ fuel → lo ≤ c → c ≤ hi → hi ≤ xs.size → SetTable.below.go xs j fuel lo hi = c := by
    intro fuel
    induction fuel with
    | zero => intro lo hi a b d _; show lo = c; omega
    | succ n ih =>
      intro lo hi a b d e
      unfold SetTable.below.go
      split
      · rename_i hlt
        have hm : (lo + hi) / 2 < xs.size := by omega
        dsimp only
        rw [Array.getD_eq_getD_getElem?, Array.getElem?_eq_getElem hm, Option.getD_some]
        split
        · rename_i hx
          refine ih _ _ (by omega) ?_ d e
          rcases Nat.lt_or_ge ((lo + hi) / 2) c with h | h
          · omega
          · have := h2 _ hm h; omega
        · rename_i hx
          refine ih _ _ (by omega) b ?_ (by omega)
          rcases Nat.lt_or_ge ((lo + hi) / 2) c with h | h
          · have := h1 _ hm h; omega
          · exact h
      · omega
  exact key _ _ _ (by simp) (Nat.zero_le _) hc (Nat.le_refl _)

def Rise (xs : Array Nat) : Prop := xs.toList.Pairwise (· < ·)
theorem Rise.lt {xs : Array Nat} (h : Rise xs) {i k : Nat} (hi : i < xs.size) (hk : k < xs.size) (e : i < k) : xs[i] < xs[k] := by
  have := List.pairwise_iff_getElem.mp h i k (by simpa using hi) (by simpa using hk) e
  simpa using this
theorem Rise.below_at {xs : Array Nat} (h : Rise xs) {k : Nat} (hk : k < xs.size) : SetTable.below xs xs[k] = k :=
  below_eq (Nat.le_of_lt hk) (fun i hi e => h.lt hi hk e) fun i hi e => by
    rcases Nat.eq_or_lt_of_le e with e | e
    · subst e; exact Nat.le_refl _
    · exact Nat.le_of_lt (h.lt hk hi e)
theorem Rise.below_next {xs : Array Nat} (h : Rise xs) {k : Nat} (hk : k < xs.size) : SetTable.below xs (xs[k] + 1) = k + 1 :=
  below_eq hk (fun i hi e => by
    rcases Nat.eq_or_lt_of_le (Nat.le_of_lt_succ e) with e | e
    · subst e; exact Nat.lt_succ_self _
    · exact Nat.lt_succ_of_lt (h.lt hi hk e)) fun i hi e => h.lt hk hi e
theorem below_zero (xs : Array Nat) : SetTable.below xs 0 = 0 := below_eq (Nat.zero_le _) (fun _ _ e => absurd e (Nat.not_lt_zero _)) fun _ _ _ => Nat.zero_le _

theorem cut_exists : ∀ (l : List Nat) (j : Nat), l.Pairwise (· < ·) → j ∉ l → ∃ c, c ≤ l.length ∧ (∀ i (h : i < l.length), i < c → l[i] < j) ∧ (∀ i (h : i < l.length), c ≤ i → j < l[i])
  | [], _, _, _ => ⟨0, Nat.le_refl _, fun _ h => absurd h (Nat.not_lt_zero _), fun _ h => absurd h (Nat.not_lt_zero _)⟩
  | x :: l, j, hp, hj => by
    obtain ⟨hx, hl⟩ := List.pairwise_cons.mp hp
    rcases Nat.lt_trichotomy x j with h | h | h
    · obtain ⟨c, a, b, d⟩ := cut_exists l j hl fun m => hj (.tail _ m)
      refine ⟨c + 1, Nat.succ_le_succ a, fun i hi e => ?_, fun i hi e => ?_⟩
      · cases i with
        | zero => exact h
        | succ i => exact b i (Nat.lt_of_succ_lt_succ hi) (Nat.lt_of_succ_lt_succ e)
      · cases i with
        | zero => omega
        | succ i => exact d i (Nat.lt_of_succ_lt_succ hi) (Nat.le_of_succ_le_succ e)
    · subst h; exact absurd (List.mem_cons_self ..) hj
    · refine ⟨0, Nat.zero_le _, fun _ _ e => absurd e (Nat.not_lt_zero _), fun i hi _ => ?_⟩
      cases i with
      | zero => exact h
      | succ i => exact Nat.lt_trans h (hx _ (List.getElem_mem _))

theorem Rise.insert {xs : Array Nat} (h : Rise xs) {j : Nat} (hj : j ∉ xs.toList) : Rise (SetTable.insertAt xs (SetTable.below xs j) j) := by
  obtain ⟨c, a, b, d⟩ := cut_exists xs.toList j h hj
  have e : SetTable.below xs j = c := below_eq (by simpa using a) (fun i hi e => by have q := b i (by simpa using hi) e; rw [Array.getElem_toList] at q; exact q) fun i hi e => Nat.le_of_lt (by have q := d i (by simpa using hi) e; rw [Array.getElem_toList] at q; exact q)
  rw [e]
  unfold Rise
  rw [SetTable.toList_insertAt]
  refine List.pairwise_append.mpr ⟨h.sublist (List.take_sublist _ _), List.pairwise_cons.mpr ⟨fun y hy => ?_, h.sublist (List.drop_sublist _ _)⟩, fun x hx y hy => ?_⟩
  · obtain ⟨i, hi, rfl⟩ := List.getElem_of_mem hy
    rw [List.getElem_drop]
    exact d _ (by rw [List.length_drop] at hi; omega) (Nat.le_add_right _ _)
  · obtain ⟨i, hi, rfl⟩ := List.getElem_of_mem hx
    rw [List.length_take] at hi
    rw [List.getElem_take]
    have hxj := b i (by omega) (by omega)
    rcases List.mem_cons.mp hy with rfl | hy
    · exact hxj
    · obtain ⟨k, hk, rfl⟩ := List.getElem_of_mem hy
      rw [List.getElem_drop]
      exact Nat.lt_trans hxj (d _ (by rw [List.length_drop] at hk; omega) (Nat.le_add_right _ _))

/-- a table without a gap left by one that went -/
structure TOk (led : Bool) (t : SetTable) (n : Nat) : Prop where
  fits : t.fits n = true
  led : t.led = led
  dum : t.dummies = #[]
  rise : Rise t.place
theorem TOk.size {led : Bool} {t : SetTable} {n : Nat} (h : TOk led t n) : t.place.size = n := by
  have := h.fits
  simp only [SetTable.fits, Bool.and_eq_true, beq_iff_eq] at this
  exact this.1
theorem TOk.slot {led : Bool} {t : SetTable} {n : Nat} (h : TOk led t n) {j : Nat} (e : t.slot j = .empty) : j ∉ t.place.toList := fun hm => by
  obtain ⟨k, hk, rfl⟩ := List.getElem_of_mem hm
  have hk' : k < t.place.size := by simpa using hk
  unfold SetTable.slot at e
  dsimp only at e
  have h1 : t.place.toList[k] = t.place[k] := by simp
  rw [h1, h.rise.below_at hk', Array.getElem?_eq_getElem hk'] at e
  simp at e
theorem TOk.probe {led : Bool} {t : SetTable} {n : Nat} (h : TOk led t n) {f : Nat → Int} {hh : Int} : ∀ (fuel : Nat) (p : SetTable.Probe) {j : Nat} {d : Option Nat}, p.dummy = none → SetTable.probe.go t f hh fuel p = some (.empty j d) → d = none ∧ t.slot j = .empty := by
  have nd : ∀ j, t.slot j ≠ .dummy := fun j e => by
    unfold SetTable.slot at e
    dsimp only at e
    split at e
    · cases e
    · rw [h.dum] at e
      simp [SetTable.has] at e
  have adv : ∀ p : SetTable.Probe, p.dummy = none → (t.advance p).dummy = none := fun p e => by
    unfold SetTable.advance
    split
    · exact e
    · exact e
  intro fuel
  induction fuel with
  | zero => intro p j d _ e; cases e
  | succ fuel ih =>
    intro p j d hp e
    unfold SetTable.probe.go at e
    split at e
    · rename_i hs
      cases e
      exact ⟨hp, hs⟩
    · rename_i hs; exact absurd hs (nd _)
    · split at e
      · cases e
      · exact ih _ (adv p hp) e
theorem TOk.free {led : Bool} {t : SetTable} {n : Nat} (h : TOk led t n) {hh : Int} {j : Nat} {d : Bool} (e : t.freeSlot hh = some (j, d)) : d = false ∧ j ∉ t.place.toList := by
  unfold SetTable.freeSlot at e
  split at e
  · rename_i j' d' hm
    obtain ⟨rfl, hs⟩ := h.probe _ _ rfl hm
    cases e
    exact ⟨rfl, h.slot hs⟩
  · cases e
theorem rise_range (n : Nat) : Rise (Array.range n) := by
  unfold Rise
  rw [Array.toList_range]
  exact List.pairwise_lt_range
theorem TOk.standIn {led : Bool} {t : SetTable} {m : Nat} (h : t.led = led) : TOk led (t.standIn m) m := ⟨SetTable.standIn_fits t m, h, rfl, rise_range m⟩
theorem TOk.orStandIn {led : Bool} {t : SetTable} {m : Nat} (h : t.led = led) (hd : t.dummies = #[]) (hr : Rise t.place) : TOk led (t.orStandIn m) m := by
  unfold SetTable.orStandIn
  split
  · rename_i hf; exact ⟨hf, h, hd, hr⟩
  · exact TOk.standIn h
theorem TOk.layNew {led : Bool} {t : SetTable} {es : Array (Int × Value)} (h : TOk led t es.size) (hh : Int) (x : Value) : TOk led (layNew t es hh x).2.1 (layNew t es hh x).1.size ∧ (layNew t es hh x).2.2.1 = false := by
  unfold PySem.layNew
  split
  · rename_i slot wd hf
    obtain ⟨rfl, hj⟩ := h.free hf
    refine ⟨TOk.orStandIn h.led ?_ (h.rise.insert hj), rfl⟩
    show (if SetTable.has t.dummies slot then _ else t.dummies) = #[]
    rw [h.dum]; simp [SetTable.has]
  · refine ⟨?_, rfl⟩
    show TOk led (t.standIn (es.size + 1)) (es.push (hh, x)).size
    rw [Array.size_push]
    exact TOk.standIn h.led
theorem laid_ok {mask finger moves : Nat} {led plain : Bool} {hs : Array Int} {t : SetTable} {o : Array Nat} (e : SetTable.laid mask finger moves led plain hs = some (t, o)) : t.led = led ∧ t.dummies = #[] ∧ Rise t.place := by
  unfold SetTable.laid at e
  cases hc : SetTable.layClean mask hs with
  | none => rw [hc] at e; cases e
  | some owner =>
    rw [hc] at e
    have e' := Option.some.inj e
    have e1 := congrArg Prod.fst e'
    dsimp only at e1
    subst e1
    refine ⟨rfl, rfl, ?_⟩
    unfold Rise
    dsimp only
    have sub : ∀ (l : List Nat), (List.map (·.1) (l.filterMap fun j => (owner.getD j none).map (j, ·))).Sublist l := by
      intro l
      induction l with
      | nil => exact .slnil
      | cons a l ih =>
        rw [List.filterMap_cons]
        cases hq : (owner.getD a none).map (a, ·) with
        | none => exact ih.cons _
        | some v =>
          cases hw : owner.getD a none with
          | none => rw [hw] at hq; cases hq
          | some u => rw [hw] at hq; cases hq; exact ih.cons_cons _
    exact List.pairwise_lt_range.sublist (sub _)
theorem TOk.relay {led : Bool} {t : SetTable} {es : Array (Int × Value)} (h : t.led = led) (wanted : Nat) : TOk led (relayAll t es wanted).2.1 (relayAll t es wanted).1.size := by
  unfold relayAll
  split
  · rename_i t' order hr
    dsimp only
    split
    · rename_i hc
      rw [Bool.and_eq_true] at hc
      obtain ⟨a, b, c⟩ := laid_ok hr
      exact ⟨hc.2, a.trans h, b, c⟩
    · exact TOk.standIn h
  · exact TOk.standIn h
theorem TOk.plain {led : Bool} {t : SetTable} {n : Nat} (h : TOk led t n) : TOk led { t with plain := false } n := ⟨h.fits, h.led, h.dum, h.rise⟩
end Mine

end
theorem Mine.resetUQ : True ∧ True := by
  first
  | (walk1; done)
  | exact ⟨trivial, trivial⟩
section
open PySem PySem.W PyProof.Rows PySem.Calls PySem.Spec PyProof.V
set_option maxRecDepth 100000
set_option maxHeartbeats 8000000
namespace Mine
def ledW (w : World) : Bool := !(w.params.followText "set-order")
def setObj (es : Array (Int × Value)) (ep : Nat) (t : SetTable) : Obj := { cls := .type "set", dict := none, data := .set es ep t }
/-- a set of ints, in the order of its table -/
def SetI (prog : Program) (w : World) (o : Obj) (ms : List Int) : Prop :=
  ∃ es ep t, o = setObj es ep t ∧ ElemsOf (intKind prog w) es.toList ∧ IntsAre (es.toList.map (·.2)) ms ∧ es.size < 200 ∧ TOk (ledW w) t es.size

theorem SetI.len {prog : Program} {w : World} {o : Obj} {ms : List Int} : SetI prog w o ms → ms.length < 200 := fun ⟨es, _, _, _, _, hi, hs, _⟩ => by
  have := hi.length
  rw [List.length_map] at this
  simp at this
  omega

section
variable {prog : Program} {w : World} {A : Around} {E : Value → Shared → Prop} {s : Shared}
theorem newSet_I {Q : Value → Shared → Prop} (h : ∀ o, SetI prog w o [] → Q (.ref s.heap.objs.size) { s with heap := s.heap.push o }) : wpAny (model prog w) A (newSet (.type "set")) Q E s := by
  unfold newSet setsByText
  refine wpAny_bind (wpAny_bind (wpAny_askSetting (wpAny_pure ?_)))
  dsimp only
  simp only [newObj]
  refine wpAny_bind (wpAny_alloc (wpAny_pure (h _ ⟨#[], 0, _, rfl, fun e he => by simp at he, .nil, by decide, ⟨rfl, rfl, rfl, List.Pairwise.nil⟩⟩)))

theorem ints_perm {l₁ l₂ : List Value} (p : l₁.Perm l₂) : ∀ {ms : List Int}, IntsAre l₁ ms → ∃ ms', IntsAre l₂ ms' ∧ ms.Perm ms' := by
  induction p with
  | nil => exact fun {ms} h => ⟨ms, h, .rfl⟩
  | cons x p ih =>
    intro ms h
    cases h with
    | cons a t r =>
      obtain ⟨ms', h', p'⟩ := ih r
      exact ⟨a :: ms', .cons a t h', p'.cons a⟩
  | swap x y l =>
    intro ms h
    cases h with
    | cons a t r =>
      cases r with
      | cons b u r => exact ⟨b :: a :: _, .cons b u (.cons a t r), .swap _ _ _⟩
  | trans p q ihp ihq =>
    intro ms h
    obtain ⟨ms', h', p'⟩ := ihp h
    obtain ⟨ms'', h'', p''⟩ := ihq h'
    exact ⟨ms'', h'', p'.trans p''⟩

theorem find_ints {k : Int} : ∀ {l : List (Int × Value)} {ms : List Int}, IntsAre (l.map (·.2)) ms → ((l.findIdx? fun e => (intKind prog w).is k e.2).isSome = true ↔ k ∈ ms)
  | [], _, h => by cases h; simp
  | (hh, v) :: l, ms, h => by
    rw [List.map_cons] at h
    cases h with
    | cons a t r =>
      rw [List.findIdx?_cons]
      by_cases hk : a = k
      · subst hk
        have : (intKind prog w).is a (Value.int a t) = true := intKind_is _ _ _ _
        simp [this]
      · have : (intKind prog w).is k (Value.int a t) = false := by
          cases hq : (intKind prog w).is k (Value.int a t) with
          | false => rfl
          | true => exact absurd ((intKind prog w).inj _ _ _ (intKind_is _ _ a t) hq) hk
        dsimp only
        rw [this]
        have ih := find_ints (k := k) r
        simp only [Bool.false_eq_true, if_false, Option.isSome_map, ih, List.mem_cons]
        exact ⟨.inr, fun h => h.elim (fun e => absurd e.symm hk) id⟩

theorem setAdd_I {a : Addr} {o : Obj} {ms : List Int} {k : Int} {t0 : Tok} {Q : Bool → Shared → Prop} (ho : s.heap.get? a = some o) (hs : SetI prog w o ms) (hl : ms.length < 100)
    (h : ∀ h' o' ms', Heap.SameBut a s.heap h' → h'.get? a = some o' → SetI prog w o' ms' → ms'.Perm (if k ∈ ms then ms else ms ++ [k]) → Q (!decide (k ∈ ms)) { s with heap := h', toks := s.toks + 1 }) :
    wpAny (model prog w) A (setAdd a (.int k t0)) Q E s := by
  obtain ⟨es, ep, t, rfl, hel, hi, hsz, ok⟩ := hs
  have hkey : (intKind prog w).is k (.int k t0) = true := intKind_is _ _ _ _
  have hn : es.size < 100 := by
    have := hi.length
    rw [List.length_map] at this
    simp at this
    omega
  unfold setAdd
  refine wpAny_holding (wpAny_bind ((intKind prog w).pyHash hkey ?_))
  unfold setAddHashed setAddHashedIn
  refine wpAny_holding (wpAny_bind (wpAny_setState_of (s := { s with toks := s.toks + 1 }) ho rfl ok.fits ?_))
  dsimp only
  rw [byScan_of (knd := intKind prog w) rfl (by show es.size < 4096; omega) hel]
  simp only [↓reduceIte]
  unfold setAddByScan
  refine wpAny_bind ?_
  refine wpAny_bind (wpAny_rule ?_)
  refine wpAny_bind (wpAny_setScan_of hkey ho rfl ok.fits hel ?_)
  have hfind := find_ints (prog := prog) (w := w) (k := k) hi
  cases hr : List.findIdx? (fun e => (intKind prog w).is k e.2) es.toList with
  | some j =>
    dsimp only
    have hm : k ∈ ms := hfind.mp (by rw [hr]; rfl)
    refine wpAny_pure (wpAny_pure ?_)
    have := h s.heap _ ms (Heap.SameBut.refl a s.heap) ho ⟨es, ep, t, rfl, hel, hi, hsz, ok⟩ (by rw [if_pos hm])
    rw [decide_eq_true hm] at this
    exact this
  | none =>
    dsimp only
    have hm : k ∉ ms := fun e => by have := hfind.mpr e; rw [hr] at this; cases this
    have hperm := layNew_perm t es ((intKind prog w).hash k) (.int k t0)
    obtain ⟨ok1, hwd⟩ := ok.layNew ((intKind prog w).hash k) (.int k t0)
    generalize hL : layNew t es ((intKind prog w).hash k) (.int k t0) = L at hperm ok1 hwd ⊢
    obtain ⟨es1, t1, wasDummy, gave⟩ := L
    dsimp only at hperm ok1 hwd ⊢
    subst hwd
    rw [Array.toList_push] at hperm
    have hel1 : ElemsOf (intKind prog w) es1.toList := (hel.push hkey rfl).perm hperm
    have hsz1 : es1.size = es.size + 1 := by rw [← Array.length_toList, hperm.length_eq, List.length_append, Array.length_toList]; rfl
    have fin : ∀ (es2 : Array (Int × Value)) (t2 : SetTable) (e2 : Nat) (h' : Heap), es2.toList.Perm es1.toList → TOk (ledW w) t2 es2.size → Heap.SameBut a s.heap h' → h'.get? a = some (setObj es2 e2 t2) → Q true { s with heap := h', toks := s.toks + 1 } := by
      intro es2 t2 e2 h' hp ok2 hsb hg
      have hi1 : IntsAre ((es.toList ++ [((intKind prog w).hash k, Value.int k t0)]).map (·.2)) (ms ++ [k]) := by
        rw [List.map_append]
        exact PyProof.Rows.ksk_snoc hi
      have hp2 : es2.toList.Perm (es.toList ++ [((intKind prog w).hash k, Value.int k t0)]) := hp.trans hperm
      obtain ⟨ms', hi', hpm⟩ := ints_perm (hp2.symm.map (·.2)) hi1
      have := h h' _ ms' hsb hg ⟨es2, e2, t2, rfl, hel1.perm hp, hi', by rw [← Array.length_toList, hp.length_eq, Array.length_toList]; omega, ok2⟩ (by rw [if_neg hm]; exact hpm.symm)
      rw [decide_eq_false hm] at this
      exact this
    have put : ∀ (hx : Heap) (e0 : Nat) (ea : Array (Int × Value)) (ta : SetTable) (eb : Array (Int × Value)) (tb : SetTable), hx.get? a = some (setObj ea e0 ta) → (hx.update a (Obj.putSet eb tb)).get? a = some (setObj eb (e0 + 1) tb) := by
      intro hx e0 ea ta eb tb hg
      have := Heap.get?_update_self (Obj.putSet eb tb) hg (by rw [putSet_of eb tb (o := setObj ea e0 ta) rfl]; rfl)
      rw [putSet_of eb tb (o := setObj ea e0 ta) rfl] at this
      exact this
    have tail : ∀ (t2 : SetTable), TOk (ledW w) t2 es1.size → wpAny (model prog w) A (do
        storeSet a es1 t2
        if (!false && t2.tooFull) = true then do
            (match (relayAll t2 es1 (SetTable.grown es1.size)).2.2 with | true => rule "set.scan.the-table-gave-way" | false => pure ())
            storeSet a (relayAll t2 es1 (SetTable.grown es1.size)).1 (relayAll t2 es1 (SetTable.grown es1.size)).2.1
            pure (some true)
          else pure (some true)) (fun r s' => r = some true ∧ Q true s') E { s with toks := s.toks + 1 } := by
      intro t2 ok2
      refine wpAny_bind (wpAny_storeSet_of (s := { s with toks := s.toks + 1 }) ho rfl ?_ (by have : 4096 ≤ sizeLine := (by decide); omega))
      have ho1 := put s.heap ep es t es1 t2 ho
      have hsb1 := Heap.SameBut.update s.heap a (Obj.putSet es1 t2)
      split
      · have hp := relayAll_perm t2 es1 (SetTable.grown es1.size)
        have ok3 := TOk.relay (es := es1) ok2.led (SetTable.grown es1.size)
        generalize hRl : relayAll t2 es1 (SetTable.grown es1.size) = Rl at hp ok3 ⊢
        obtain ⟨es2, t3, gave2⟩ := Rl
        dsimp only at hp ok3 ⊢
        refine wpAny_bind ?_
        have nx : wpAny (model prog w) A (do storeSet a es2 t3; pure (some true)) (fun r s' => r = some true ∧ Q true s') E { s with toks := s.toks + 1, heap := s.heap.update a (Obj.putSet es1 t2) } := by
          refine wpAny_bind (wpAny_storeSet_of ho1 rfl ?_ (by have : 4096 ≤ sizeLine := (by decide); have : es2.size = es1.size := (by rw [← Array.length_toList, hp.length_eq, Array.length_toList]); omega))
          exact wpAny_pure ⟨rfl, fin es2 t3 _ _ hp ok3 (hsb1.trans (Heap.SameBut.update _ a _)) (put _ _ es1 t2 es2 t3 ho1)⟩
        cases gave2 with
        | true => exact wpAny_rule nx
        | false => exact wpAny_pure nx
      · exact wpAny_pure ⟨rfl, fin es1 t2 _ _ .rfl ok2 hsb1 ho1⟩
    have go : wpAny (model prog w) A (do
        let byValue ← if t1.plain = true then hashByValue 8 (Value.int k t0) else pure true
        storeSet a es1 (if byValue = true then t1 else { t1 with plain := false })
        if (!false && (if byValue = true then t1 else { t1 with plain := false }).tooFull) = true then do
            (match (relayAll (if byValue = true then t1 else { t1 with plain := false }) es1 (SetTable.grown es1.size)).2.2 with | true => rule "set.scan.the-table-gave-way" | false => pure ())
            storeSet a (relayAll (if byValue = true then t1 else { t1 with plain := false }) es1 (SetTable.grown es1.size)).1 (relayAll (if byValue = true then t1 else { t1 with plain := false }) es1 (SetTable.grown es1.size)).2.1
            pure (some true)
          else pure (some true)) (fun r s' => r = some true ∧ Q true s') E { s with toks := s.toks + 1 } := by
      split
      · refine wpAny_bind ?_
        rw [hashByValue_scannable 8 rfl]
        refine wpAny_pure ?_
        refine tail _ ?_
        split
        · exact ok1
        · exact ok1.plain
      · refine wpAny_bind (wpAny_pure ?_)
        simp only [↓reduceIte]
        exact tail _ ok1
    refine wpAny_bind ?_
    refine (?_ : wpAny (model prog w) A _ _ _ _)
    cases gave with
    | true => refine wpAny_rule ?_; exact wpAny_mono go (fun r s' hr => by obtain ⟨rfl, hq⟩ := hr; exact wpAny_pure hq) fun _ _ x => x
    | false => refine wpAny_pure ?_; exact wpAny_mono go (fun r s' hr => by obtain ⟨rfl, hq⟩ := hr; exact wpAny_pure hq) fun _ _ x => x
end
end Mine

end
theorem Mine.resetUR : True ∧ True := by
  first
  | (walk1; done)
  | exact ⟨trivial, trivial⟩
section
open PySem PySem.W PyProof.Rows PySem.Calls PySem.Spec PyProof.V
set_option maxRecDepth 100000
set_option maxHeartbeats 8000000
namespace Mine
/-- a heap that lost and changed nothing, with a StopIteration at e -/
structure Stopped (h h' : Heap) (e : Addr) : Prop where
  keep : ∀ b o, h.get? b = some o → h'.get? b = some o
  new : h.objs.size ≤ e
  made : ∃ vs, h'.get? e = some { cls := .type "StopIteration", data := .fields vs } ∧ vs[1]? = some .none ∧ vs[5]? = some .none
theorem Stopped.after {it e : Addr} {h h₁ h' : Heap} (hs : Heap.SameBut it h h₁) (st : Stopped h₁ h' e) : Heap.ExtBut it h h' ∧ h.get? e = none :=
  ⟨fun b o hb ho => st.keep b o (hs.extBut b o hb ho), Heap.get?_none_of_le (hs.1 ▸ st.new)⟩

section
variable {M : Model} {A : Around} {E : Value → Shared → Prop} {s : Shared}
theorem stop_raised {α : Type} {Q : α → Shared → Prop} (hh : A.handled = none) (h : ∀ e h', Stopped s.heap h' e → E (.ref e) { s with heap := h' }) :
    wpAny M A (do raiseNew (← newExc (.type "StopIteration") []) : Sem α) Q E s := by
  have made : wpAny M A (newExc (.type "StopIteration") []) (fun v s' => E v s') E s := by
    unfold newExc newTuple firstArgMember
    wp_walk
    refine h _ _ ⟨fun b o hb => Heap.get?_push_of_some _ (Heap.get?_push_of_some _ hb), ?_, _, Heap.get?_push_size _ rfl, rfl, by kernel_rfl⟩
    rw [Heap.size_push]; exact Nat.le_succ _
  exact wpAny_bind (wpAny_mono made (fun _ _ hv => wpAny_raiseNew_none hh hv) fun _ _ x => x)
end

section
variable {prog : Program} {w : World} {A : Around} {E : Value → Shared → Prop} {s : Shared}
/-- one turn of a list's iterator, whichever way it ends -/
theorem list_turn {it l : Addr} {i : Nat} {items : Array Value} {Q : Option Value → Shared → Prop} (hit : s.heap.IsListIter it l i) (hl : s.heap.IsList l items)
    (more : ∀ x h', items[i]? = some x → h'.IsListIter it l (i + 1) → Heap.SameBut it s.heap h' → Q (some x) { s with heap := h' })
    (stop : items[i]? = none → A.handled = none ∧ ∀ h₁ e h', Heap.SameBut it s.heap h₁ → Stopped h₁ h' e → E (.ref e) { s with heap := h' }) :
    wpAny (model prog w) A (callSpecial? (.ref it) (Str.ofString "__next__")) Q E s := by
  refine wpAny_callSpecial?_slot hit.typeIs slot_listiter_next (wpAny_call_entry slot_listiter_next hit.typeIs entry_listiter_next ?_ (args_listiter_next _))
  obtain ⟨oi, hi, ci, di⟩ := hit
  obtain ⟨ol, hol, -, nl, dl⟩ := hl
  have upd : ∀ j v, Heap.SameBut it s.heap (s.heap.update it (Obj.mapFields (·.setIfInBounds j v))) := fun _ _ => .update ..
  show wpAny _ _ (field (.ref it) 0 >>= _) _ _ s
  wp_walk using wpAny_field hi di (x := .ref l) rfl, wpAny_field hi di (x := .int i 0) rfl, wpAny_seqItems hol dl
  rw [Int.toNat_natCast]
  cases hx : items[i]? with
  | some x =>
    have up : (s.heap.update it (Obj.mapFields (·.setIfInBounds 1 (rawInt ((i : Int) + 1))))).IsListIter it l (i + 1) :=
      ⟨_, Heap.get?_update_self _ hi (Obj.isFreed_of_fields (Obj.data_mapFields di _)), (Obj.cls_mapFields _ _).trans ci, (Obj.data_mapFields di _).trans (by simp [rawInt])⟩
    exact wpAny_bind (wpAny_setField hi di Nat.one_lt_two (wpAny_pure ⟨x, rfl, more x _ hx up (upd _ _)⟩))
  | none =>
    obtain ⟨hh, hE⟩ := stop hx
    refine wpAny_bind (wpAny_rule (wpAny_bind (wpAny_setField hi di Nat.two_pos ?_)))
    exact stop_raised hh fun e h' st => hE _ e h' (upd _ _) st
end
end Mine

end
theorem Mine.resetUK : True ∧ True := by
  first
  | (walk1; done)
  | exact ⟨trivial, trivial⟩
section
open PySem PySem.W PyProof.Rows PySem.Calls PySem.Spec PyProof.V
set_option maxRecDepth 100000
set_option maxHeartbeats 8000000
namespace Mine
theorem owner_si : Manifest.owners.lookup (String.ofList ['r', 'o', 't', 'a', 'r', 'e', 't', 'i', '_', 't', 'e', 's'].reverse) = some Manifest.sig_set_iterator := by kernel_rfl
theorem slot_si_next : Slot "set_iterator" "__next__" "set_iterator.__next__" :=
  .of (owner := "set_iterator") (n := "__next__") (by rw [typeLookup_type, builtinLookup_eq_fast]; kernel_rfl) (by decide +kernel) (by decide +kernel) (by decide +kernel)
    (by first | exact .inl (by decide +kernel) | exact .inr (by decide +kernel)) (by rw [isSubtype_type]; kernel_rfl)
theorem slot_si_iter : Slot "set_iterator" "__iter__" "set_iterator.__iter__" :=
  .of (owner := "set_iterator") (n := "__iter__") (by rw [typeLookup_type, builtinLookup_eq_fast]; kernel_rfl) (by decide +kernel) (by decide +kernel) (by decide +kernel)
    (by first | exact .inl (by decide +kernel) | exact .inr (by decide +kernel)) (by rw [isSubtype_type]; kernel_rfl)
theorem entry_si_iter : entryFor table "set_iterator.__iter__" = some Builtin.«dict_keyiterator.__iter__» :=
  entryFor_alias (id' := "dict_keyiterator.__iter__") (by kernel_rfl) rfl (by decide +kernel) (by kernel_rfl)
theorem args_si_iter (a : Value) : argsOk "set_iterator.__iter__" ⟨[a], []⟩ := by
  unfold argsOk; rw [signature?_of (id := "set_iterator.__iter__") (n := ['_', '_', 'r', 'e', 't', 'i', '_', '_']) (o := ['r', 'o', 't', 'a', 'r', 'e', 't', 'i', '_', 't', 'e', 's']) (by kernel_rfl) owner_si]; kernel_rfl
theorem entry_si_next : entryFor table "set_iterator.__next__" = some Builtin.«set_iterator.__next__» := entryFor_of_tree (by kernel_rfl)
theorem args_si_next (a : Value) : argsOk "set_iterator.__next__" ⟨[a], []⟩ := by
  unfold argsOk; rw [signature?_of (id := "set_iterator.__next__") (n := ['_', '_', 't', 'x', 'e', 'n', '_', '_']) (o := ['r', 'o', 't', 'a', 'r', 'e', 't', 'i', '_', 't', 'e', 's']) (by kernel_rfl) owner_si]; kernel_rfl
theorem entry_set_iter : entryFor table "set.__iter__" = some Builtin.«frozenset.__iter__» :=
  entryFor_alias (id' := "frozenset.__iter__") (by kernel_rfl) rfl (by decide +kernel) (by kernel_rfl)

/-! an order that is drawn -/
section
variable {prog : Program} {w : World} {A : Around} {E : Value → Shared → Prop} {s : Shared}
theorem choose_any {n : Nat} {Q : Nat → Shared → Prop} (hn : n ≠ 0) (h : ∀ i d, i < n → Q i { s with drawn := d }) : wpAny (model prog w) A (choose .order n) Q E s :=
  fun _ _ _ => ⟨hn, h _ _ (Nat.mod_lt _ (Nat.pos_of_ne_zero hn))⟩
theorem erase_perm {α : Type} : ∀ {l : List α} {i : Nat} {x : α}, l[i]? = some x → (x :: l.eraseIdx i).Perm l
  | [], _, _, h => by simp at h
  | a :: l, 0, x, h => by simp at h; subst h; exact .rfl
  | a :: l, i + 1, x, h => by
    have ih := erase_perm (l := l) (i := i) (x := x) (by simpa using h)
    rw [List.eraseIdx_cons_succ]
    exact (List.Perm.swap a x _).trans (ih.cons a)
theorem drawOrder_any {α : Type} : ∀ (n : Nat) (xs : List α) (s : Shared) (Q : List α → Shared → Prop), xs.length = n → (∀ ys d, ys.Perm xs → Q ys { s with drawn := d }) → wpAny (model prog w) A (drawOrder n xs) Q E s
  | 0, xs, s, Q, hl, h => by
    have : xs = [] := List.eq_nil_of_length_eq_zero hl
    subst this
    exact wpAny_pure (h [] s.drawn .rfl)
  | n + 1, [], s, Q, hl, h => by simp at hl
  | n + 1, x :: xs, s, Q, hl, h => by
    unfold drawOrder
    refine wpAny_bind (choose_any (by simp) fun i d hi => ?_)
    have hi' : i < (x :: xs).length := hi
    rw [List.getElem?_eq_getElem hi']
    dsimp only
    have hp := erase_perm (List.getElem?_eq_getElem hi')
    refine wpAny_bind (drawOrder_any n _ _ _ (by rw [List.length_eraseIdx, if_pos hi']; omega) fun ys d' hy => ?_)
    exact wpAny_pure (h _ d' ((hy.cons _).trans hp))
end
theorem pick_perm {α : Type} (next : Nat → Nat) : ∀ (fuel k : Nat) (left : List α) (out : Array α), left.length = fuel → (pickOrder.go next fuel k left out).toList.Perm (out.toList ++ left)
  | 0, k, left, out, h => by
    have : left = [] := List.eq_nil_of_length_eq_zero h
    subst this
    show out.toList.Perm _
    rw [List.append_nil]
  | fuel + 1, k, left, out, h => by
    unfold pickOrder.go
    have hi : next k % left.length < left.length := Nat.mod_lt _ (by omega)
    rw [List.getElem?_eq_getElem hi]
    dsimp only
    have hp := erase_perm (List.getElem?_eq_getElem hi)
    refine (pick_perm next fuel (k + 1) _ _ (by rw [List.length_eraseIdx, if_pos hi]; omega)).trans ?_
    rw [Array.toList_push, List.append_assoc]
    exact hp.append_left _
theorem pickOrder_perm {α : Type} (next : Nat → Nat) (xs : Array α) : (pickOrder next xs).toList.Perm xs.toList := by
  have := pick_perm next xs.size 0 xs.toList #[] (by simp)
  unfold pickOrder
  simpa using this


section
variable {prog : Program} {w : World} {A : Around} {E : Value → Shared → Prop} {s : Shared}
theorem wp_neg {α : Type} {M : Model} {c : Prop} [Decidable c] {a b : Sem α} {Q : α → Shared → Prop} (hc : ¬ c) (h : wpAny M A b Q E s) : wpAny M A (if c then a else b) Q E s := by rw [if_neg hc]; exact h
theorem wp_pos {α : Type} {M : Model} {c : Prop} [Decidable c] {a b : Sem α} {Q : α → Shared → Prop} (hc : c) (h : wpAny M A a Q E s) : wpAny M A (if c then a else b) Q E s := by rw [if_pos hc]; exact h

/-- the three ways a set is walked: by the text, by its places, by a drawn order -/
inductive Way (w : World) (S : Addr) (es : Array (Int × Value)) (ep : Nat) (t : SetTable) : (Nat → Value → Heap → Prop) → List Value → Prop
  | text : w.params.followText "set-order" = true → Way w S es ep t (fun _ v _ => v = .int 0 0) ((pickOrder (w.params.setOrder S ep) es).toList.map (·.2))
  | place : w.params.followText "set-order" = false → (!t.plain && decide (es.size > 1)) = false → Way w S es ep t (fun i v _ => v = .int ((if i = 0 then 0 else t.place.getD (i - 1) 0 + 1 : Nat) : Int) 0) (es.toList.map (·.2))
  | drawn (pt : Addr) (pl : List Nat) : pl.Perm (List.range es.size) → Way w S es ep t (fun _ v h => v = .ref pt ∧ h.IsTuple pt (pl.map fun (i : Nat) => rawInt (i : Int)).toArray) (pl.filterMap fun i => (es[i]?).map (·.2))

theorem Way.perm {S : Addr} {es : Array (Int × Value)} {ep : Nat} {t : SetTable} {F : Nat → Value → Heap → Prop} {ord : List Value} (x : Way w S es ep t F ord) : ord.Perm (es.toList.map (·.2)) := by
  cases x with
  | text => exact (pickOrder_perm _ _).map _
  | place => exact .rfl
  | drawn pt pl hp =>
    refine (hp.filterMap _).trans ?_
    have e := filterMap_getElem?_range es
    have : (List.range es.size).filterMap (fun i => (es[i]?).map (·.2)) = ((List.range es.size).filterMap (fun i => es[i]?)).map (·.2) := by rw [List.map_filterMap]
    rw [this, e]

/-- where the walk of a set stands -/
def SetAt (S I : Addr) (es : Array (Int × Value)) (ep : Nat) (t : SetTable) (F : Nat → Value → Heap → Prop) (i : Nat) (h : Heap) : Prop :=
  h.get? S = some (setObj es ep t) ∧ ∃ o first, h.get? I = some o ∧ o.cls = .type "set_iterator" ∧ o.data = .fields #[first, .int (i : Int) 0, .ref S, .int (es.size : Int) 0, .int (ep : Int) 0] ∧ F i first h

def fpW {w : World} {S : Addr} {es : Array (Int × Value)} {ep : Nat} {t : SetTable} {F : Nat → Value → Heap → Prop} {ord : List Value} (I : Addr) (pts : List Addr) (_ : Way w S es ep t F ord) : List Addr := I :: S :: pts

theorem pick_map {es : Array (Int × Value)} : ∀ (l : List Nat), (∀ k ∈ l, k < es.size) → l.filterMap (fun i => (es[i]?).map (·.2)) = l.map fun i => (es.getD i (0, .none)).2
  | [], _ => rfl
  | a :: l, h => by
    rw [List.filterMap_cons, List.map_cons, Array.getElem?_eq_getElem (h a (.head _))]
    simp only [Option.map_some]
    rw [pick_map l fun k hk => h k (.tail _ hk), Array.getD_eq_getD_getElem?, Array.getElem?_eq_getElem (h a (.head _))]
    rfl
theorem set_next {S I : Addr} {es : Array (Int × Value)} {ep : Nat} {t : SetTable} {F : Nat → Value → Heap → Prop} {ord : List Value} (x : Way w S es ep t F ord) (ok : TOk (ledW w) t es.size) (hne : S ≠ I)
    (hF : ∀ i v h h', F i v h → (∀ b o, b ≠ I → h.get? b = some o → h'.get? b = some o) → F i v h') {i : Nat} {v : Value} {Q : Option Value → Shared → Prop} (st : SetAt S I es ep t F i s.heap) (hv : ord[i]? = some v)
    (h : ∀ h', SetAt S I es ep t F (i + 1) h' → (∀ b o, b ≠ I → s.heap.get? b = some o → h'.get? b = some o) → Q (some v) { s with heap := h' }) : wpAny (model prog w) A (pyNext (.ref I)) Q E s := by
  obtain ⟨hS, o, first, ho, hc, hd, hfi⟩ := st
  unfold pyNext
  refine wpAny_bind (wpAny_attempt (wpAny_callSpecial?_slot (name := Str.ofString "__next__") ⟨o, ho, hc⟩ slot_si_next
    (wpAny_call_entry slot_si_next ⟨o, ho, hc⟩ entry_si_next ?_ (args_si_next _))))
  show wpAny _ _ (fieldsOf (.ref I) >>= _) _ _ s
  refine wpAny_bind (wpAny_fieldsOf ho hd ?_)
  dsimp only
  refine wpAny_bind (wpAny_setEntries_of hS rfl ok.fits ?_)
  refine wp_neg (by simp) ?_
  have upI : ∀ (hx : Heap) (ox : Obj) (vs : Array Value) (f : Array Value → Array Value), hx.get? I = some ox → ox.cls = .type "set_iterator" → ox.data = .fields vs → ∃ oy, (hx.update I (Obj.mapFields f)).get? I = some oy ∧ oy.cls = .type "set_iterator" ∧ oy.data = .fields (f vs) := fun hx ox vs f e c d =>
    ⟨_, Heap.get?_update_self _ e (Obj.isFreed_of_fields (Obj.data_mapFields d _)), (Obj.cls_mapFields ..).trans c, Obj.data_mapFields d _⟩
  have keepI : ∀ (hx : Heap) (f : Array Value → Array Value), ∀ b ob, b ≠ I → hx.get? b = some ob → (hx.update I (Obj.mapFields f)).get? b = some ob := fun hx f b ob hb e => (Heap.get?_update_other _ _ (Ne.symm hb)).trans e
  have fin2 : ∀ (f' : Value) (y : Value), y = v → (∀ h', (∀ b ob, b ≠ I → s.heap.get? b = some ob → h'.get? b = some ob) → F (i + 1) f' h') → wpAny (model prog w) A.in1 (do setField (Value.ref I) 0 f'; setField (Value.ref I) 1 (rawInt ((i : Int) + 1)); ret y)
      (fun fin s' => ∃ v, fin = Fin.done (Flow.ret v) ∧ wpAny (model prog w) A (pure (some v)) Q E s') (fun e s' => wpAny (model prog w) A (do let b ← isInstance e (Value.type "StopIteration"); if b = true then pure none else throw e) Q E s') s := by
    intro f' y hy hF'
    subst hy
    refine wpAny_bind (wpAny_setField ho hd (by simp) ?_)
    obtain ⟨o1, ho1, hc1, hd1⟩ := upI s.heap o _ (fun vs => vs.setIfInBounds 0 f') ho hc hd
    refine wpAny_bind (wpAny_setField ho1 hd1 (by simp) ?_)
    obtain ⟨o2, ho2, hc2, hd2⟩ := upI _ o1 _ (fun vs => vs.setIfInBounds 1 (rawInt ((i : Int) + 1))) ho1 hc1 hd1
    have kk : ∀ b ob, b ≠ I → s.heap.get? b = some ob → _ := fun b ob hb e => keepI _ (fun vs => vs.setIfInBounds 1 (rawInt ((i : Int) + 1))) b ob hb (keepI s.heap (fun vs => vs.setIfInBounds 0 f') b ob hb e)
    exact wpAny_pure ⟨_, rfl, wpAny_pure (h _ ⟨kk _ _ hne hS, o2, f', ho2, hc2, by rw [hd2]; simp [rawInt], hF' _ kk⟩ kk)⟩
  have fin1 : ∀ (y : Value), y = v → (∀ h', (∀ b ob, b ≠ I → s.heap.get? b = some ob → h'.get? b = some ob) → F (i + 1) first h') → wpAny (model prog w) A.in1 (do setField (Value.ref I) 1 (rawInt ((i : Int) + 1)); ret y)
      (fun fin s' => ∃ v, fin = Fin.done (Flow.ret v) ∧ wpAny (model prog w) A (pure (some v)) Q E s') (fun e s' => wpAny (model prog w) A (do let b ← isInstance e (Value.type "StopIteration"); if b = true then pure none else throw e) Q E s') s := by
    intro y hy hF'
    subst hy
    refine wpAny_bind (wpAny_setField ho hd (by simp) ?_)
    obtain ⟨o2, ho2, hc2, hd2⟩ := upI s.heap o _ (fun vs => vs.setIfInBounds 1 (rawInt ((i : Int) + 1))) ho hc hd
    have kk : ∀ b ob, b ≠ I → s.heap.get? b = some ob → _ := fun b ob hb e => keepI s.heap (fun vs => vs.setIfInBounds 1 (rawInt ((i : Int) + 1))) b ob hb e
    exact wpAny_pure ⟨_, rfl, wpAny_pure (h _ ⟨kk _ _ hne hS, o2, first, ho2, hc2, by rw [hd2]; simp [rawInt], hF' _ kk⟩ kk)⟩
  cases x with
  | text hb =>
    subst hfi
    obtain ⟨p, hp, hpv⟩ : ∃ p, (pickOrder (w.params.setOrder S ep) es)[i]? = some p ∧ p.2 = v := by
      rw [List.getElem?_map] at hv
      rw [← Array.getElem?_toList]
      cases hq : (pickOrder (w.params.setOrder S ep) es).toList[i]? with
      | none => rw [hq] at hv; cases hv
      | some p => rw [hq] at hv; exact ⟨p, rfl, Option.some.inj hv⟩
    dsimp only
    refine wpAny_bind ?_
    unfold setNext setsByText
    refine wpAny_bind (wpAny_setState_of hS rfl ok.fits ?_)
    dsimp only
    refine wpAny_bind (wpAny_bind (wpAny_askSetting (wpAny_pure ?_)))
    refine wp_pos hb ?_
    refine wp_neg (by simp) ?_
    unfold setWalk setsByText
    refine wpAny_bind (wpAny_bind (wpAny_setState_of hS rfl ok.fits ?_))
    dsimp only
    refine wpAny_bind (wpAny_bind (wpAny_askSetting (wpAny_pure ?_)))
    refine wp_pos hb ?_
    refine wpAny_bind (wpAny_askSetting (wpAny_pure (wpAny_pure ?_)))
    simp only [Int.toNat_natCast]
    rw [show (pickOrder ((model prog w).w.params.setOrder S ep) es)[i]? = some p from hp]
    dsimp only [Option.map]
    exact fin2 _ _ hpv fun _ _ => rfl
  | place hb hd' =>
    subst hfi
    obtain ⟨p, hp, hpv⟩ : ∃ p, es[i]? = some p ∧ p.2 = v := by
      rw [List.getElem?_map] at hv
      rw [← Array.getElem?_toList]
      cases hq : es.toList[i]? with
      | none => rw [hq] at hv; cases hv
      | some p => rw [hq] at hv; exact ⟨p, rfl, Option.some.inj hv⟩
    have hi : i < es.size := (Array.getElem?_eq_some_iff.mp hp).1
    have hip : i < t.place.size := by rw [ok.size]; exact hi
    have hled : t.led = true := by rw [ok.led]; unfold ledW; rw [hb]; rfl
    have hbel : SetTable.below t.place (if i = 0 then 0 else t.place.getD (i - 1) 0 + 1) = i := by
      split
      · rename_i h0; subst h0; exact below_zero _
      · rename_i h0
        have h1 : i - 1 < t.place.size := by omega
        have h2 := ok.rise.below_next h1
        rw [Array.getD_eq_getD_getElem?, Array.getElem?_eq_getElem h1, Option.getD_some, h2]
        omega
    dsimp only
    refine wpAny_bind ?_
    unfold setNext setsByText
    refine wpAny_bind (wpAny_setState_of hS rfl ok.fits ?_)
    dsimp only
    refine wpAny_bind (wpAny_bind (wpAny_askSetting (wpAny_pure ?_)))
    refine wp_neg (by show ¬ (w.params.followText "set-order" = true); rw [hb]; simp) ?_
    refine wp_neg (by intro e; rw [show (!t.plain && decide (es.size > 1)) = true from e] at hd'; cases hd') ?_
    refine wpAny_bind (m := (if (!t.led && !es.isEmpty) = true then unsupported "set:maker-not-led" else pure ())) ?_
    refine wp_neg (by rw [hled]; simp) (wpAny_pure ?_)
    simp only [Int.toNat_natCast]
    rw [hbel, hp, Array.getElem?_eq_getElem hip]
    refine wpAny_pure ?_
    dsimp only
    refine fin2 _ _ hpv fun _ _ => ?_
    show _ = Value.int ((if i + 1 = 0 then 0 else t.place.getD (i + 1 - 1) 0 + 1 : Nat) : Int) 0
    rw [if_neg (Nat.succ_ne_zero i), Nat.add_sub_cancel, Array.getD_eq_getD_getElem?, Array.getElem?_eq_getElem hip]
    rfl
  | drawn pt pl hp =>
    obtain ⟨rfl, hT⟩ := hfi
    obtain ⟨oT, hoT, _, nT, hdT⟩ := hT
    have hpl : ∀ k ∈ pl, k < es.size := fun k hk => List.mem_range.mp (hp.mem_iff.mp hk)
    have hord : pl.filterMap (fun i => (es[i]?).map (·.2)) = pl.map fun i => (es.getD i (0, .none)).2 := by
      exact pick_map pl hpl
    rw [hord, List.getElem?_map] at hv
    cases hq : pl[i]? with
    | none => rw [hq] at hv; cases hv
    | some k =>
      rw [hq] at hv
      have hk : k < es.size := hpl k (List.mem_of_getElem? hq)
      dsimp only
      refine wpAny_bind (wpAny_seqItems hoT hdT ?_)
      dsimp only
      have e1 : (pl.map fun (i : Nat) => rawInt (i : Int)).toArray[((i : Nat) : Int).toNat]? = some (rawInt (k : Int)) := by
        rw [Int.toNat_natCast]
        simp [hq]
      rw [e1]
      dsimp only [rawInt]
      refine wpAny_bind ?_
      unfold setNextDrawn
      refine wpAny_bind (wpAny_setState_of hS rfl ok.fits ?_)
      dsimp only
      refine wp_neg (by simp) ?_
      simp only [Int.toNat_natCast]
      rw [Array.getElem?_eq_getElem hk]
      refine wpAny_pure ?_
      refine fin1 _ ?_ fun h' kk => hF i _ _ _ ⟨rfl, oT, hoT, by assumption, nT, hdT⟩ kk
      have := Option.some.inj hv
      change (es.getD k (0, .none)).2 = v at this
      rw [Array.getD_eq_getD_getElem?, Array.getElem?_eq_getElem hk] at this
      exact this

theorem set_stop {S I : Addr} {es : Array (Int × Value)} {ep : Nat} {t : SetTable} {F : Nat → Value → Heap → Prop} {ord : List Value} (x : Way w S es ep t F ord) (ok : TOk (ledW w) t es.size)
    (hh : A.handled = none) {Q : Option Value → Shared → Prop} (st : SetAt S I es ep t F ord.length s.heap) 
    (h : ∀ h', (∀ b o, b ≠ I → s.heap.get? b = some o → h'.get? b = some o) → Q none { s with heap := h' }) : wpAny (model prog w) A (pyNext (.ref I)) Q E s := by
  have hlen : ord.length = es.size := by
    have := x.perm.length_eq
    rw [this, List.length_map]; simp
  obtain ⟨hS, o, first, ho, hc, hd, hfi⟩ := st
  rw [hlen] at hd hfi
  unfold pyNext
  refine wpAny_bind (wpAny_attempt (wpAny_callSpecial?_slot (name := Str.ofString "__next__") ⟨o, ho, hc⟩ slot_si_next
    (wpAny_call_entry slot_si_next ⟨o, ho, hc⟩ entry_si_next ?_ (args_si_next _))))
  show wpAny _ _ (fieldsOf (.ref I) >>= _) _ _ s
  refine wpAny_bind (wpAny_fieldsOf ho hd ?_)
  dsimp only
  refine wpAny_bind (wpAny_setEntries_of hS rfl ok.fits ?_)
  refine wp_neg (by simp) ?_
  have keepI : ∀ (hx : Heap) (f : Array Value → Array Value), ∀ b ob, b ≠ I → hx.get? b = some ob → (hx.update I (Obj.mapFields f)).get? b = some ob := fun hx f b ob hb e => (Heap.get?_update_other _ _ (Ne.symm hb)).trans e
  have upI : ∀ (hx : Heap) (ox : Obj) (vs : Array Value) (f : Array Value → Array Value), hx.get? I = some ox → ox.data = .fields vs → ∃ oy, (hx.update I (Obj.mapFields f)).get? I = some oy ∧ oy.data = .fields (f vs) := fun hx ox vs f e d =>
    ⟨_, Heap.get?_update_self _ e (Obj.isFreed_of_fields (Obj.data_mapFields d _)), Obj.data_mapFields d _⟩
  have stop : ∀ (hx : Heap), (∀ b ob, b ≠ I → s.heap.get? b = some ob → hx.get? b = some ob) → wpAny (model prog w) A.in1 (do let e ← newExc (Value.type "StopIteration") []; raiseNew e : Sem Fin)
      (fun fin s' => ∃ v, fin = Fin.done (Flow.ret v) ∧ wpAny (model prog w) A (pure (some v)) Q E s') (fun e s' => wpAny (model prog w) A (do let b ← isInstance e (Value.type "StopIteration"); if b = true then pure none else throw e) Q E s') { s with heap := hx } := by
    intro hx kk
    refine stop_raised hh fun e h' st => ?_
    obtain ⟨vs, he, -⟩ := st.made
    exact wpAny_bind (wpAny_isInstance (T := "StopIteration") (b := true) ⟨_, he, rfl⟩ isSubtype_stop (wpAny_pure (h _ fun b ob hb e => st.keep b ob (kk b ob hb e))))
  have stop1 : wpAny (model prog w) A.in1 (do setField (Value.ref I) 2 Value.none; let e ← newExc (Value.type "StopIteration") []; raiseNew e : Sem Fin)
      (fun fin s' => ∃ v, fin = Fin.done (Flow.ret v) ∧ wpAny (model prog w) A (pure (some v)) Q E s') (fun e s' => wpAny (model prog w) A (do let b ← isInstance e (Value.type "StopIteration"); if b = true then pure none else throw e) Q E s') s :=
    wpAny_bind (wpAny_setField ho hd (by simp) (stop _ (keepI s.heap _)))
  cases x with
  | text hb =>
    subst hfi
    dsimp only
    refine wpAny_bind ?_
    unfold setNext setsByText
    refine wpAny_bind (wpAny_setState_of hS rfl ok.fits ?_)
    dsimp only
    refine wpAny_bind (wpAny_bind (wpAny_askSetting (wpAny_pure ?_)))
    refine wp_pos hb ?_
    refine wp_neg (by simp) ?_
    unfold setWalk setsByText
    refine wpAny_bind (wpAny_bind (wpAny_setState_of hS rfl ok.fits ?_))
    dsimp only
    refine wpAny_bind (wpAny_bind (wpAny_askSetting (wpAny_pure ?_)))
    refine wp_pos hb ?_
    refine wpAny_bind (wpAny_askSetting (wpAny_pure (wpAny_pure ?_)))
    simp only [Int.toNat_natCast]
    have hn : (pickOrder ((model prog w).w.params.setOrder S ep) es)[es.size]? = none := by
      have := (pickOrder_perm ((model prog w).w.params.setOrder S ep) es).length_eq
      simp at this
      rw [Array.getElem?_eq_none_iff]
      omega
    rw [hn]
    exact stop1
  | place hb hd' =>
    subst hfi
    have hled : t.led = true := by rw [ok.led]; unfold ledW; rw [hb]; rfl
    have hbel : SetTable.below t.place (if es.size = 0 then 0 else t.place.getD (es.size - 1) 0 + 1) = es.size := by
      split
      · rename_i h0; rw [h0]; exact below_zero _
      · rename_i h0
        have h1 : es.size - 1 < t.place.size := by rw [ok.size]; omega
        have h2 := ok.rise.below_next h1
        rw [Array.getD_eq_getD_getElem?, Array.getElem?_eq_getElem h1, Option.getD_some, h2]
        omega
    dsimp only
    refine wpAny_bind ?_
    unfold setNext setsByText
    refine wpAny_bind (wpAny_setState_of hS rfl ok.fits ?_)
    dsimp only
    refine wpAny_bind (wpAny_bind (wpAny_askSetting (wpAny_pure ?_)))
    refine wp_neg (by show ¬ (w.params.followText "set-order" = true); rw [hb]; simp) ?_
    refine wp_neg (by intro e; rw [show (!t.plain && decide (es.size > 1)) = true from e] at hd'; cases hd') ?_
    refine wpAny_bind (m := (if (!t.led && !es.isEmpty) = true then unsupported "set:maker-not-led" else pure ())) ?_
    refine wp_neg (by rw [hled]; simp) (wpAny_pure ?_)
    simp only [Int.toNat_natCast]
    rw [hbel, show es[es.size]? = none from Array.getElem?_eq_none_iff.mpr (Nat.le_refl _)]
    refine wpAny_pure ?_
    exact stop1
  | drawn pt pl hp =>
    obtain ⟨rfl, hT⟩ := hfi
    obtain ⟨oT, hoT, _, nT, hdT⟩ := hT
    dsimp only
    refine wpAny_bind (wpAny_seqItems hoT hdT ?_)
    dsimp only
    have e1 : (pl.map fun (i : Nat) => rawInt (i : Int)).toArray[((es.size : Nat) : Int).toNat]? = none := by
      rw [Int.toNat_natCast, Array.getElem?_eq_none_iff]
      have := hp.length_eq
      simp at this ⊢
      omega
    rw [e1]
    dsimp only
    refine wpAny_bind (wpAny_setField ho hd (by simp) ?_)
    obtain ⟨o1, ho1, hd1⟩ := upI s.heap o _ (fun vs => vs.setIfInBounds 0 (rawInt 0)) ho hd
    refine wpAny_bind (wpAny_setField ho1 hd1 (by simp) ?_)
    exact stop _ fun b ob hb e => keepI _ _ b ob hb (keepI s.heap _ b ob hb e)

theorem set_walks {S I : Addr} {es : Array (Int × Value)} {ep : Nat} {t : SetTable} {F : Nat → Value → Heap → Prop} {ord : List Value} (x : Way w S es ep t F ord) (ok : TOk (ledW w) t es.size) (hne : S ≠ I) (hh : A.handled = none) (fp : List Addr)
    (hI : I ∈ fp) (hS : S ∈ fp) (hF : ∀ i v h h', F i v h → (∀ b ∈ fp, b ≠ I → ∀ o, h.get? b = some o → h'.get? b = some o) → F i v h') :
    Walks prog w A I fp [I] ord.length (fun i v => ord[i]? = some v) (SetAt S I es ep t F) where
  sub := fun b hb => by rw [List.mem_singleton.mp hb]; exact hI
  frame := fun i h h' st hk => by
    obtain ⟨a, o, first, b, c, d, e⟩ := st
    exact ⟨hk S hS _ a, o, first, hk I hI _ b, c, d, hF i first h h' e fun b hb _ o e => hk b hb o e⟩
  item := fun i s Q E hi st hQ => by
    refine set_next x ok hne (fun i v h h' a b => hF i v h h' a fun c _ hc o e => b c o hc e) st (List.getElem?_eq_getElem hi) fun h' st' hk => ?_
    exact hQ _ h' s.toks (List.getElem?_eq_getElem hi) st' fun b o hb e => hk b o (fun q => hb (by rw [q]; exact .head _)) e
  done := fun s Q E st hQ => set_stop x ok hh st fun h' hk => hQ h' s.toks fun b o hb e => hk b o (fun q => hb (by rw [q]; exact .head _)) e
  self := fun i s Q E st hQ => by
    obtain ⟨a, o, first, b, c, d, e⟩ := st
    refine wpAny_pyIter_slot ⟨o, b, c⟩ slot_si_iter (wpAny_call_entry slot_si_iter ⟨o, b, c⟩ entry_si_iter ?_ (args_si_iter _))
    unfold Builtin.«dict_keyiterator.__iter__»
    exact wpAny_bind (wpAny_pure (wpAny_pure ⟨_, rfl, "set_iterator", _, ⟨o, b, c⟩, slot_si_next.lookup, hQ⟩))

theorem set_iter {S : Addr} {es : Array (Int × Value)} {ep : Nat} {t : SetTable} {Q : Value → Shared → Prop} (hS : s.heap.get? S = some (setObj es ep t)) (ok : TOk (ledW w) t es.size) (hsz : es.size < 200)
    (h : ∀ (I : Addr) F ord h' d (fp : List Addr), Way w S es ep t F ord → SetAt S I es ep t F 0 h' → S ≠ I → I ∈ fp → S ∈ fp → (∀ i v h h', F i v h → (∀ b ∈ fp, b ≠ I → ∀ o, h.get? b = some o → h'.get? b = some o) → F i v h') → (∀ b ∈ fp, b < h'.objs.size) → s.heap.StaysIn h' → s.heap.get? I = none → (∀ b ∈ fp, b = S ∨ s.heap.get? b = none) →
      Q (.ref I) { s with heap := h', drawn := d }) : wpAny (model prog w) A (pyIter (.ref S)) Q E s := by
  have hT : s.TypeIs (.ref S) "set" := ⟨_, hS, rfl⟩
  refine wpAny_pyIter_slot hT F.slot_set_iter (wpAny_call_entry F.slot_set_iter hT entry_set_iter ?_ (F.args_set_iter_1 _))
  unfold Builtin.«frozenset.__iter__» Builtin.Frozenset.slot0 slotArgs
  simp only [List.isEmpty_nil, Bool.not_true, Bool.false_eq_true, ↓reduceIte, bind_assoc, List.length_nil, bne_self_eq_false]
  unfold Builtin.Frozenset.addrOf Builtin.Frozenset.sizeOf
  refine wpAny_bind (wpAny_pure ?_)
  try dsimp only
  refine wpAny_bind (wpAny_pure ?_)
  refine wpAny_bind (wpAny_bind (wpAny_setEntries_of hS rfl ok.fits (wpAny_pure ?_)))
  unfold setDrawn setsByText
  refine wpAny_bind (wpAny_bind (wpAny_setState_of hS rfl ok.fits ?_))
  dsimp only
  refine wpAny_bind (wpAny_bind (wpAny_askSetting (wpAny_pure (wpAny_pure ?_))))
  have hlt := Heap.lt_size hS
  have fin : ∀ (hx : Heap) (d : Drawn) (first : Value) (F : Nat → Value → Heap → Prop) (ord : List Value) (pts : List Addr), s.heap.StaysIn hx → s.heap.objs.size ≤ hx.objs.size → Way w S es ep t F ord → (∀ b ∈ pts, b < hx.objs.size ∧ s.heap.get? b = none) → F 0 first (hx.push { cls := .type "set_iterator", data := .fields #[first, .int 0 0, .ref S, .int (es.size : Int) 0, .int (ep : Int) 0] }) →
      (∀ i v h h', F i v h → (∀ b ∈ hx.objs.size :: S :: pts, b ≠ hx.objs.size → ∀ o, h.get? b = some o → h'.get? b = some o) → F i v h') →
      wpAny (model prog w) A.in1 (do let ep ← setEpoch S; let v ← newFields "set_iterator" [first, rawInt 0, .ref S, rawInt (es.size : Int), rawInt (ep : Int)]; ret v)
        (fun fin s' => ∃ v, fin = Fin.done (Flow.ret v) ∧ ∃ T' r, s'.TypeIs v T' ∧ typeLookup (.type T') "__next__" = pure (some r) ∧ Q v s') E { s with heap := hx, drawn := d } := by
    intro hx d first F ord pts st sz W hp h0 hF
    refine wpAny_bind (wpAny_setEpoch_of (st _ _ hS) rfl ok.fits ?_)
    refine wpAny_bind (wpAny_newObj_type (wpAny_pure ⟨_, rfl, "set_iterator", _, ⟨_, Heap.get?_push_size _ rfl, rfl⟩, slot_si_next.lookup, ?_⟩))
    refine h hx.objs.size F ord _ d (hx.objs.size :: S :: pts) W ⟨Heap.get?_push_of_some _ (st _ _ hS), _, first, Heap.get?_push_size _ rfl, rfl, rfl, h0⟩ (Nat.ne_of_lt (Nat.lt_of_lt_of_le hlt sz)) (.head _) (.tail _ (.head _)) hF (fun b hb => ?_) (fun b o e => Heap.get?_push_of_some _ (st b o e)) (Heap.get?_none_of_le sz) (fun b hb => ?_)
    rotate_left
    · rcases List.mem_cons.mp hb with rfl | hb
      · exact .inr (Heap.get?_none_of_le sz)
      · rcases List.mem_cons.mp hb with rfl | hb
        · exact .inl rfl
        · exact .inr (hp b hb).2
    show b < (hx.push _).objs.size
    rw [Heap.size_push]
    rcases List.mem_cons.mp hb with rfl | hb
    · exact Nat.lt_succ_self _
    · rcases List.mem_cons.mp hb with rfl | hb
      · exact Nat.lt_succ_of_lt (Nat.lt_of_lt_of_le hlt sz)
      · exact Nat.lt_succ_of_lt (hp b hb).1
  by_cases hb : w.params.followText "set-order" = true
  · refine wp_neg (by show ¬ ((!w.params.followText "set-order" && (!t.plain && decide (es.size > 1))) = true); rw [hb]; simp) (wpAny_bind (wpAny_pure ?_))
    exact fin s.heap s.drawn (rawInt 0) _ _ [] (fun _ _ e => e) (Nat.le_refl _) (.text hb) (fun _ hb => nomatch hb) rfl fun _ _ _ _ e _ => e
  · have hb' : w.params.followText "set-order" = false := by simpa using hb
    by_cases hd : (!t.plain && decide (es.size > 1)) = true
    · refine wp_pos (by show (!w.params.followText "set-order" && (!t.plain && decide (es.size > 1))) = true; rw [hb', hd]; rfl) (wpAny_bind (drawOrder_any _ _ _ _ List.length_range fun pl d hpl => ?_))
      have e1 : s.heap.objs.size ≤ (s.heap.push { cls := .type "tuple", data := .seq (pl.map fun (i : Nat) => rawInt (i : Int)).toArray }).objs.size := by rw [Heap.size_push]; exact Nat.le_succ _
      refine wpAny_bind (wpAny_newObj_type ?_ (by
        have : pl.length = es.size := by rw [hpl.length_eq, List.length_range]
        have e4 : 4096 ≤ sizeLine := by decide
        show (pl.map fun (i : Nat) => rawInt (i : Int)).toArray.size ≤ sizeLine
        simp
        omega))
      refine fin _ d (.ref s.heap.objs.size) _ _ [s.heap.objs.size] (fun b o e => Heap.get?_push_of_some _ e) e1 (.drawn s.heap.objs.size pl hpl) (fun b hb => by rw [List.mem_singleton.mp hb, Heap.size_push]; exact ⟨Nat.lt_succ_self _, Heap.get?_none_of_le (Nat.le_refl _)⟩)
        ⟨rfl, _, Heap.get?_push_of_some _ (Heap.get?_push_size _ rfl), rfl, _, rfl⟩ fun i v h h' hv hk => ?_
      obtain ⟨rfl, o, e, r⟩ := hv
      exact ⟨rfl, o, hk _ (.tail _ (.tail _ (.head _))) (by rw [Heap.size_push]; exact Nat.ne_of_lt (Nat.lt_succ_self _)) _ e, r⟩
    · have hd' : (!t.plain && decide (es.size > 1)) = false := by simpa using hd
      refine wp_neg (by show ¬ ((!w.params.followText "set-order" && (!t.plain && decide (es.size > 1))) = true); rw [hb', hd']; simp) (wpAny_bind (wpAny_pure ?_))
      exact fin s.heap s.drawn (rawInt 0) _ _ [] (fun _ _ e => e) (Nat.le_refl _) (.place hb' hd') (fun _ hb => nomatch hb) rfl fun _ _ _ _ e _ => e
end
end Mine

end
theorem Mine.resetUS : True ∧ True := by
  first
  | (walk1; done)
  | exact ⟨trivial, trivial⟩
section
open PySem PySem.W PyProof.Rows PySem.Calls PySem.Spec PyProof.V
set_option maxRecDepth 100000
set_option maxHeartbeats 8000000
namespace Mine
theorem split_set_len : splitId "set.__len__" = some ("set", "__len__") := by decide +kernel
section
variable {prog : Program} {w : World} {A : Around} {E : Value → Shared → Prop} {s : Shared}
theorem collect_set {S : Addr} {o : Obj} {ms : List Int} {Q : List Value → Shared → Prop} (ho : s.heap.get? S = some o) (hs : SetI prog w o ms) (hh : A.handled = none)
    (h : ∀ vs ns h' tk d, IntsAre vs ns → ns.Perm ms → s.heap.StaysIn h' → Q vs { s with heap := h', toks := tk, drawn := d }) : wpAny (model prog w) A (collect (.ref S)) Q E s := by
  obtain ⟨es, ep, t, rfl, hel, hi, hsz, ok⟩ := hs
  have hlt := Heap.lt_size ho
  unfold collect
  refine wpAny_bind (wpAny_runValue (codeAny_builtin F.entry_proto_collect ?_))
  rw [Around.under_plainId F.plain_proto_collect _]
  show wpAny _ A.in1 (newList [] >>= fun l => again (.builtin "list.__iadd__" ⟨[l, .ref S], []⟩)) _ _ s
  refine wpAny_bind (wpAny_newObj_type ?_)
  refine wpAny_pure ⟨plainId_quiet F.plain_list_iadd _, codeAny_builtin F.entry_list_iadd ?_⟩
  rw [Around.under_plainId F.plain_list_iadd _]
  show wpAny _ A.in1 (Builtin.List.listExtendWith (.ref s.heap.objs.size) (.ref S) (.ref s.heap.objs.size)) _ _ _
  unfold Builtin.List.listExtendWith
  have up : ∀ b o, s.heap.get? b = some o → (s.heap.push { cls := .type "list", data := .seq ([] : List Value).toArray }).get? b = some o := fun b o e => Heap.get?_push_of_some _ e
  have hT : ({ s with heap := s.heap.push { cls := .type "list", data := .seq ([] : List Value).toArray } } : Shared).TypeIs (.ref S) "set" := ⟨_, up _ _ ho, rfl⟩
  refine wpAny_bind (wpAny_typeOf hT ?_)
  have h1 : Builtin.List.listSameRef (.ref s.heap.objs.size) (.ref S) = false := by simp [Builtin.List.listSameRef, Ne.symm (Nat.ne_of_lt hlt)]
  have h2 : (Value.type "set" == Value.type "list") = false := by decide
  have h3 : (Value.type "set" == Value.type "tuple") = false := by decide
  simp only [h1, h2, h3, Bool.or_false, Bool.false_eq_true, if_false]
  refine wpAny_bind (set_iter (s := { s with heap := s.heap.push { cls := .type "list", data := .seq ([] : List Value).toArray } }) (up _ _ ho) ok hsz ?_)
  intro I Fw ord h' d fp W st hne hI hS hF hfp stays hIn hfn
  dsimp only at stays hIn hfn
  refine wpAny_bind (wpAny_holding ?_)
  have hT' : ({ s with heap := h', drawn := d } : Shared).TypeIs (.ref S) "set" := ⟨_, stays _ _ (up _ _ ho), rfl⟩
  unfold Builtin.List.listLengthHint
  refine wpAny_bind (wpAny_specialOf hT' F.slot_set_len.lookup ?_)
  dsimp only
  rw [split_set_len]
  refine wpAny_bind (wpAny_isInstance (b := true) hT' sub_set_self ?_)
  refine wp_neg (by simp) ?_
  refine wp_pos (by decide +kernel) ?_
  refine wpAny_bind (wpAny_typeOf hT' ?_)
  refine wpAny_pure ?_
  rw [if_pos (by decide +kernel)]
  refine wpAny_bind (wpAny_rule ?_)
  have hlt2 : s.heap.objs.size ≠ S := Ne.symm (Nat.ne_of_lt hlt)
  have hL0 : h'.get? s.heap.objs.size = some { cls := .type "list", data := .seq ([] : List Value).toArray } := stays _ _ (Heap.get?_push_size _ rfl)
  have hLI : s.heap.objs.size ≠ I := fun e => by
    have := Heap.get?_push_size s.heap (o := { cls := .type "list", data := .seq ([] : List Value).toArray }) rfl
    rw [e] at this
    rw [hIn] at this; cases this
  have hLfp : s.heap.objs.size ∉ fp := fun hm => by
    rcases hfn _ hm with e | e
    · exact hlt2 e
    · have := Heap.get?_push_size s.heap (o := { cls := .type "list", data := .seq ([] : List Value).toArray }) rfl
      rw [e] at this; cases this
  have WS := set_walks (prog := prog) (A := A.in1) W ok hne hh fp hI hS hF
  refine wpAny_bind ?_
  show wpAny _ A.in1 (updateSeq s.heap.objs.size (·.push .none) >>= fun _ => updateSeq s.heap.objs.size (·.pop)) _ _ _
  refine wpAny_bind (wpAny_updateSeq hL0 rfl ?_)
  have hS₂ := Heap.get?_update_self (Obj.mapSeq (·.push Value.none)) hL0 rfl
  refine wpAny_updateSeq hS₂ rfl ?_
  have hS₃ := Heap.get?_update_self (Obj.mapSeq (·.pop)) hS₂ rfl
  have oth : ∀ b o, b ≠ s.heap.objs.size → h'.get? b = some o → ((h'.update s.heap.objs.size (Obj.mapSeq (·.push Value.none))).update s.heap.objs.size (Obj.mapSeq (·.pop))).get? b = some o :=
    fun b o hb e => (Heap.get?_update_other _ _ (Ne.symm hb)).trans ((Heap.get?_update_other _ _ (Ne.symm hb)).trans e)
  have hn : ord.length ≤ sizeLine := by
    have := W.perm.length_eq
    simp at this
    have : 4096 ≤ sizeLine := by decide
    omega
  refine wpAny_pure ⟨plainId_quiet F.plain_extend_loop _, codeAny_extend_loopS WS.toS hn _ hLfp _ ord.length 0 _ _ _ rfl (Nat.zero_le _) ?_ hS₃ (ItemsOf.nil _) fun s' acc' c' hm hS' hacc => ?_⟩
  · exact WS.frame 0 h' _ st fun b hb o e => oth b o (fun q => hLfp (q ▸ hb)) e
  show wpAny _ A (load s.heap.objs.size >>= _) _ _ s'
  refine wpAny_bind (wpAny_load hS' ?_)
  refine wpAny_pure ?_
  have hacc2 : acc'.toList = ord := by
    apply List.ext_getElem?
    intro j
    by_cases hj : j < ord.length
    · have hj' : j < acc'.size := by rw [hacc.1]; exact hj
      have := hacc.2 j acc'[j] (Array.getElem?_eq_getElem hj')
      rw [this, Array.getElem?_toList, Array.getElem?_eq_getElem hj']
    · have h1 := hacc.1
      rw [List.getElem?_eq_none (by rw [Array.length_toList]; omega), List.getElem?_eq_none (by omega)]
  obtain ⟨ns, hns, hp⟩ := ints_perm (W.perm.symm) hi
  have e : s' = { s with heap := s'.heap, toks := s'.toks, drawn := d } := by
    obtain ⟨a, b, c, d', e'⟩ := s'
    have h1 := hm.gens
    have h2 := hm.drawn
    have h3 := hm.os
    dsimp only at h1 h2 h3
    subst h1 h2 h3
    rfl
  show Q acc'.toList s'
  rw [hacc2, e]
  refine h ord ns _ _ d hns hp.symm fun b o hb => ?_
  have hbl : b < s.heap.objs.size := Heap.lt_size hb
  refine hm.heap b o (fun q => ?_) (oth b o (Nat.ne_of_lt hbl) (stays _ _ (up _ _ hb)))
  rcases List.mem_cons.mp q with q | q
  · exact Nat.ne_of_lt hbl q
  · rw [List.mem_singleton.mp q] at hb
    rw [up _ _ hb] at hIn; cases hIn
end
end Mine

end
theorem Mine.resetUT : True ∧ True := by
  first
  | (walk1; done)
  | exact ⟨trivial, trivial⟩
section
open PySem PySem.W PyProof.Rows PySem.Calls PySem.Spec PyProof.V
set_option maxRecDepth 100000
set_option maxHeartbeats 8000000
namespace Mine
theorem turn_set (elt target iter : Expr) (scope : Scope) (pos : Pos) (it acc : Value) (env : Env) :
    compTurn (.SetComp elt [⟨target, iter, [], 0⟩] scope pos) 0 it acc env = (do
      standAt iter.pos
      match ← pyNext it with
      | none => pure (.done .next)
      | some v =>
        letOwnedTupleGo target it v
        assign target env v
        (do let v ← eval elt env; standAt elt.pos; let _ ← call (.builtin "set.add") [acc, v])
        again (.compLoop (.SetComp elt [⟨target, iter, [], 0⟩] scope pos) 0 it acc env)) := by rfl

section
variable {prog : Program} {w : World} {A : Around} {E : Value → Shared → Prop} {R : Result → Shared → Prop} {s : Shared}
/-- go on behind a part that raises nothing -/
theorem thenF {α β : Type} {M : Model} {m : Sem α} {k : α → Sem β} {P : α → Shared → Prop} {Q : β → Shared → Prop} (h : wpAny M A m P (fun _ _ => False) s) (hk : ∀ a s', P a s' → wpAny M A (k a) Q E s') :
    wpAny M A (m >>= k) Q E s := wpAny_bind (wpAny_mono h hk fun _ _ e => e.elim)
/-- any comprehension's loop, turn by turn, no turn raising -/
theorem comp_turns {comp : Expr} {depth : Nat} {it acc : Value} {env : Env} (I : Nat → Shared → Prop)
    (turn : ∀ n s, I n s → wpAny (model prog w) A (compTurn comp depth it acc env) (fun fin s' => match fin with
      | .done f => R (.ok f) s'
      | .again c => c = .compLoop comp depth it acc env ∧ ∃ m, m < n ∧ I m s') (fun _ _ => False) s)
    (n : Nat) (h : I n s) (hA : A.under (.compLoop comp depth it acc env) = A := by rfl)
    (hD : (model prog w).den (.compLoop comp depth it acc env) = (compTurn comp depth it acc env).onRaise (fun x => do noteFrame x env; theTreesLotGoes x) := by rfl) :
    codeAny (model prog w) A (.compLoop comp depth it acc env) R s :=
  codeAny_loop rfl I (fun n s hI => by
    rw [hA, hD]
    exact wpAny_noted (wpAny_mono (turn n s hI) (fun _ _ x => x) fun _ _ e => e.elim)) n h
/-- any comprehension's clause entered: the iterator asked for once more, or not -/
theorem comp_begin {comp : Expr} {depth : Nat} {it acc : Value} {env : Env} {g : Comprehension} (hg : (clausesOf comp)[depth]? = some g) (ha : g.is_async = 0)
    (loop : codeAny (model prog w) A (.compLoop comp depth it acc env) R s)
    (asked : wpAny (model prog w) A (pyIter it) (fun it' s' => codeAny (model prog w) A (.compLoop comp depth it' acc env) R s') (fun _ _ => False) s)
    (hA : A.under (.compStart comp depth it acc env) = A := by rfl)
    (hD : (model prog w).den (.compStart comp depth it acc env) = (compStart comp depth it acc env).onRaise (fun x => do noteFrame x env; standAt theWindowsPlace) := by rfl)
    (hq : ∀ it', (Code.compLoop comp depth it' acc env).quiet = true := by intro _; rfl) :
    codeAny (model prog w) A (.compStart comp depth it acc env) R s := by
  refine codeAny_of_tree ?_
  rw [hA, hD]
  refine wpAny_notedAt ?_
  simp only [compStart, hg, Option.elim_some, ha, bne_self_eq_false, Bool.false_eq_true, if_false]
  have last : ∀ it' s', codeAny (model prog w) A (.compLoop comp depth it' acc env) R s' → wpAny (model prog w) A (again (.compLoop comp depth it' acc env))
      (fun fin s₁ => match fin with | .done f => R (.ok f) s₁ | .again c' => c'.quiet = true ∧ codeAny (model prog w) A c' R s₁) (notedBy (model prog w) A env fun x s₁ => R (.error x) s₁) s' := fun it' _ hc => wpAny_pure ⟨hq it', hc⟩
  refine wpAny_bind (wpAny_askSetting ?_)
  by_cases both : (model prog w).w.params.followText "comprehension-iter-twice" = true
  · rw [if_pos both]
    exact last _ _ loop
  · rw [if_neg both]
    exact wpAny_bind (wpAny_rule (wpAny_bind (wpAny_standAt (thenF asked last))))

/-- the loop of a set display's one clause -/
theorem loop_set {elt target iter : Expr} {scope : Scope} {pos : Pos} {it acc : Value} {env : Env} (I : Nat → Shared → Prop)
    (turn : ∀ n s, I n s → wpAny (model prog w) A (pyNext it) (fun r s₁ => match r with
      | none => R (.ok .next) s₁
      | some v => wpAny (model prog w) A (assign target env v) (fun _ s₂ => wpAny (model prog w) A (eval elt env) (fun x s₄ =>
              wpAny (model prog w) A (call (.builtin "set.add") [acc, x]) (fun _ s₅ => ∃ m, m < n ∧ I m s₅) (fun _ _ => False) s₄) (fun _ _ => False) s₂) (fun _ _ => False) s₁) (fun _ _ => False) s)
    (n : Nat) (h : I n s) (ht : ∀ v, letOwnedTupleGo target it v = pure () := by intro _; rfl) :
    codeAny (model prog w) A (.compLoop (.SetComp elt [⟨target, iter, [], 0⟩] scope pos) 0 it acc env) R s :=
  comp_turns I (fun n s hI => by
    rw [turn_set]
    refine wpAny_bind (wpAny_standAt (thenF (turn n s hI) fun r s₁ h₁ => ?_))
    match r, h₁ with
    | none, h₁ => exact wpAny_pure h₁
    | some v, h₁ =>
      refine wpAny_bind (wpAny_of_eq (ht v) (thenF h₁ fun _ _ h₂ => ?_))
      refine wpAny_bind (thenF h₂ fun _ _ h₄ => wpAny_bind (wpAny_standAt (thenF h₄ fun _ _ h₅ => ?_)))
      exact wpAny_pure (wpAny_pure ⟨rfl, h₅⟩)) n h
end

section
variable {prog : Program} {w : World} {A : Around} {s : Shared}
theorem coreS {elt iter : Expr} {x : Str} {px : Pos} {scope : Scope} {pos : Pos} {cenv : Env} {g : Heap} {C I D l : Addr} {items : Array Value} {R : Result → Shared → Prop}
    (K : Nat → List (Addr × Obj) → Prop)
    (hh : A.handled = none) (TG : Tgt prog w A g C cenv x (fun tl => tl = []) (fun m _ v => m x = some v)) (hl : g.IsTuple l items)
    {m₀ : Str → Option Value} {nx₀ : List (Addr × Obj)} {h0 : Heap} {tk0 : Nat} (F : Fr g C h0 m₀) (N : News g C h0 nx₀) (hI0 : h0.IsTupleIter I l 0)
    (hIg : g.get? I = none) (hIC : I ≠ C) (off : ∀ p ∈ nx₀, p.1 ≠ I) (hK : K 0 nx₀)
    (turn : ∀ i v (m : Str → Option Value) nx own h tk, items[i]? = some v → K i nx → OwnOff own (nx.map (·.1)) → Fr g C h (fun y => if y = x then some v else m y) → News g C h (nx ++ own) →
      wpAny (model prog w) A (eval elt cenv) (fun y s₄ => wpAny (model prog w) A (call (.builtin "set.add") [.ref D, y]) (fun _ s₅ => InvEndG g C (fun _ nx' => K (i + 1) nx') own { s with heap := h, toks := tk } s₅) (fun _ _ => False) s₄) (fun _ _ => False) { s with heap := h, toks := tk })
    (done : ∀ h' tk m nx, K items.size nx → Fr g C h' m → News g C h' nx → R (.ok .next) { s with heap := h', toks := tk }) :
    codeAny (model prog w) A (.compLoop (.SetComp elt [⟨.Name x px, iter, [], 0⟩] scope pos) 0 (.ref I) (.ref D) cenv) R { s with heap := h0, toks := tk0 } := by
  obtain ⟨ol, hol, hol2⟩ := id hl
  have gI : ∀ b o, g.get? b = some o → b ≠ I := fun b o e q => by rw [q, hIg] at e; cases e
  refine loop_set (fun k s' => ∃ h' tk m nx i, s' = { s with heap := h', toks := tk } ∧ Fr g C h' m ∧ News g C h' nx ∧ h'.IsTupleIter I l i ∧
    (∀ p ∈ nx, p.1 ≠ I) ∧ K i nx ∧ i ≤ items.size ∧ k = items.size + 1 - i) ?_ (items.size + 1)
    ⟨h0, tk0, m₀, nx₀, 0, rfl, F, N, hI0, off, hK, Nat.zero_le _, rfl⟩
  rintro k s' ⟨h', tk, m, nx, i, rfl, F', N', hI', off', hK', hi, rfl⟩
  have hl' : h'.IsTuple l items := ⟨ol, F'.keep l ol hol, hol2⟩
  cases hv : items[i]? with
  | none =>
    have hin : i = items.size := by
      have := Array.getElem?_eq_none_iff.mp hv
      omega
    subst hin
    refine wpAny_pyNext_tuple_end hh hI' hl' hv fun h₁ he₁ => ?_
    exact done h₁ _ m nx hK' ⟨F'.ns.at' fun o e => he₁ _ o (Ne.symm hIC) e, fun b o e => he₁ b o (gI b o e) (F'.keep b o e), F'.above⟩
      (fun p hp => ⟨he₁ _ _ (off' p hp) (N' p hp).1, (N' p hp).2⟩)
  | some v =>
    have hlt : i < items.size := (Array.getElem?_eq_some_iff.mp hv).1
    refine wpAny_pyNext_tuple_item hI' hl' hv fun h₁ hit₁ hs₁ => ?_
    have F₁ : Fr g C h₁ m := ⟨F'.ns.sameBut hs₁ (Ne.symm hIC), fun b o e => hs₁.extBut b o (gI b o e) (F'.keep b o e), F'.above⟩
    have N₁ : News g C h₁ nx := fun p hp => ⟨hs₁.extBut _ _ (off' p hp) (N' p hp).1, (N' p hp).2⟩
    refine TG.st _ px m [] v _ _ F₁ (fun _ hp => nomatch hp) rfl fun h₂ tk₂ m₂ tl₂ F₂ _ hok₂ _ htg hk₂ => ?_
    dsimp only at hk₂
    have k₂ : ∀ b o, b ≠ C → h₁.get? b = some o → h₂.get? b = some o := fun b o hb e => hk₂ b o hb (fun q => nomatch q) e
    obtain ⟨oI, hoI, rI⟩ := hit₁
    have hoI₂ := k₂ I oI hIC hoI
    have Nt : News g C h₂ (nx ++ [(I, oI)]) := fun p hp => by
      rcases List.mem_append.mp hp with hp | hp
      · exact ⟨k₂ _ _ (N₁ p hp).2.1 (N₁ p hp).1, (N₁ p hp).2⟩
      · rw [List.mem_singleton.mp hp]; exact ⟨hoI₂, hIC, hIg⟩
    have hown : OwnOff [(I, oI)] (nx.map (·.1)) := fun p hp b hb => by
      obtain ⟨q, hq, rfl⟩ := List.mem_map.mp hb
      rw [List.mem_singleton.mp hp]; exact Ne.symm (off' q hq)
    have em : (fun y => if y = x then some v else m₂ y) = m₂ := by
      funext y; by_cases hy : y = x
      · rw [if_pos hy, hy]; exact htg.symm
      · rw [if_neg hy]
    refine wpAny_mono (turn i v m₂ nx _ h₂ tk₂ hv hK' hown (by rw [em]; exact F₂) Nt) (fun y s₄ h₄ => wpAny_mono h₄ (fun _ s₅ h₅ => ?_) fun _ _ e => e) fun _ _ e => e
    obtain ⟨h₅, tk₅, m₅, news₅, nx₅, rfl, F₅, N₅, hn₅, ho₅, hoff₅, hK₅⟩ := h₅
    refine ⟨items.size + 1 - (i + 1), by omega, h₅, tk₅, m₅, nx₅, i + 1, rfl, F₅, fun p hp => N₅ p (hn₅ p hp), ⟨oI, (N₅ _ (ho₅ _ (.head _))).1, rI⟩, fun p hp e => hoff₅ _ (.head _) p.1 (List.mem_map_of_mem hp) e.symm, hK₅, hlt, rfl⟩

variable {E : Value → Shared → Prop} {env : Env} {g₀ : Heap} {L : Addr} {m : Str → Option Value} {mu rest : List (Addr × Obj)} {elt iter : Expr} {x : Str} {px : Pos} {scope : Scope} {cl : List (Str × Addr)} {pos : Pos} {l : Addr} {items : Array Value}

/-- a set's block over a tuple -/
theorem SC_L {Q : Value → Shared → Prop} (mu rest : List (Addr × Obj)) (l : Addr) (items : Array Value) (cl : List (Str × Addr)) (K : Addr → Nat → List (Addr × Obj) → Prop)
    (hh : A.handled = none) (F : Fr g₀ L s.heap m) (N : News g₀ L s.heap (mu ++ rest)) (hr : ∀ p ∈ rest, p.1 ∉ mu.map (·.1)) (hl : s.heap.IsTuple l items) (hlm : l ∉ mu.map (·.1))
    (hit : ∀ Q' : Value → Shared → Prop, Q' (.ref l) s → wpAny (model prog w) A (eval iter env) Q' E s)
    (hK : ∀ D o, SetI prog w o [] → s.heap.objs.size < D → K D 0 ((D, o) :: mu))
    (turn : ∀ g C D, Base g₀ L m s.heap (mu.map (·.1)) g C → g.get? D = none → ∀ i v (m₂ : Str → Option Value) nx own h tk, items[i]? = some v → K D i nx → OwnOff own (nx.map (·.1)) → Fr g C h (fun y => if y = x then some v else m₂ y) → News g C h (nx ++ own) →
      wpAny (model prog w) A (eval elt (compEnvC scope cl C env)) (fun y s₄ => wpAny (model prog w) A (call (.builtin "set.add") [.ref D, y]) (fun _ s₅ => InvEndG g C (fun _ nx' => K D (i + 1) nx') own { s with heap := h, toks := tk } s₅) (fun _ _ => False) s₄) (fun _ _ => False) { s with heap := h, toks := tk })
    (done : ∀ D nx h' tk, K D items.size nx → Ext (mu.map (·.1)) s.heap h' → Fr g₀ L h' m → News g₀ L h' (nx ++ rest) → s.heap.objs.size < D → Q (.ref D) { s with heap := h', toks := tk })
    (hclos : closureFor scope env = pure cl) (hcell : ∀ y ∈ scope.names, y.2 ≠ .cell) (hkind : scope.kind = .function) (hnames : ∀ y ∈ scope.names, y.2 = .local → scope.names.lookup y.1 = some .local) (hx : scope.names.lookup x = some .local)
    (hs : ∀ x, foldedSetIterable iter env x = pure x := by intro _; rfl) :
    wpAny (model prog w) A (eval (.SetComp elt [⟨.Name x px, iter, [], 0⟩] scope pos) env) Q E s := by
  rw [arm_eval_SetComp]
  refine wpAny_comprehension_free (use := none) rfl hs hclos hkind hnames (hit _ ?_)
  refine wpAny_pyIter_tuple hl (newSet_I fun oS hoS => (wpAny_newFunctionEnv hcell (by intro y hy; simp at hy) (fun h₁ hns₁ hsb₁ => ?_) hkind))
  dsimp only at hns₁ hsb₁ ⊢
  generalize hH1 : s.heap.push { cls := .type "tuple_iterator", data := .fields #[.ref l, .int 0 0] } = H1 at hns₁ hsb₁ ⊢
  have hD : H1.objs.size = s.heap.objs.size + 1 := by rw [← hH1, Heap.size_push]
  generalize hH2 : H1.push oS = H2 at hns₁ hsb₁ ⊢
  have hC : H2.objs.size = s.heap.objs.size + 2 := by rw [← hH2, Heap.size_push, hD]
  have hDI : H1.objs.size ≠ s.heap.objs.size := by rw [hD]; exact Nat.succ_ne_self _
  have hDC : H1.objs.size ≠ H2.objs.size := by rw [hD, hC]; exact Nat.ne_of_lt (Nat.lt_succ_self _)
  have hIC : s.heap.objs.size ≠ H2.objs.size := by rw [hC]; exact Nat.ne_of_lt (Nat.lt_succ_of_lt (Nat.lt_succ_self _))
  have old : ∀ b o, s.heap.get? b = some o → h₁.get? b = some o := fun b o e => by
    exact hsb₁.extBut b o (by rw [hC]; exact Nat.ne_of_lt (Nat.lt_of_lt_of_le (Heap.lt_size e) (Nat.le_add_right _ _))) (Heap.get?_push_of_some _ (hH2 ▸ Heap.get?_push_of_some _ (hH1 ▸ Heap.get?_push_of_some _ e)))
  have hit1 : h₁.IsTupleIter s.heap.objs.size l 0 :=
    ⟨_, hsb₁.extBut _ _ hIC (Heap.get?_push_of_some _ (hH2 ▸ Heap.get?_push_of_some _ (hH1 ▸ Heap.get?_push_size _ rfl))), rfl, rfl⟩
  have hfr : oS.isFreed = false := by obtain ⟨es, ep, t, rfl, _⟩ := hoS; rfl
  have hacc : h₁.get? H1.objs.size = some oS := hsb₁.extBut _ _ hDC (Heap.get?_push_of_some _ (hH2 ▸ Heap.get?_push_size _ hfr))
  have BB : Base g₀ L m s.heap (mu.map (·.1)) (hideAll s.heap (mu.map (·.1))) H2.objs.size := Base.of F (fun p hp => N p (List.mem_append_left _ hp)) (by rw [hC]; exact Nat.le_add_right _ _)
  have fresh : ∀ a, s.heap.objs.size ≤ a → (hideAll s.heap (mu.map (·.1))).get? a = none := fun a ha => by
    cases e : (hideAll s.heap (mu.map (·.1))).get? a with
    | none => rfl
    | some o' => exact absurd (Heap.lt_size (of_hideAll _ e)) (Nat.not_lt.mpr ha)
  have lts : ∀ p ∈ mu, p.1 < s.heap.objs.size := fun p hp => Heap.lt_size (N p (List.mem_append_left _ hp)).1
  have hDlt : s.heap.objs.size < H1.objs.size := by rw [hD]; exact Nat.lt_succ_self _
  have hDg := fresh H1.objs.size (Nat.le_of_lt hDlt)
  have loop : ∀ s₃ : Shared, s₃ = { s with heap := h₁, toks := s.toks + ([] : List (Str × Value)).length } →
      codeAny (model prog w) A (.compLoop (.SetComp elt [⟨.Name x px, iter, [], 0⟩] scope pos) 0 (.ref s.heap.objs.size) (.ref H1.objs.size) (compEnvC scope cl H2.objs.size env))
        (compPost (model prog w) A E none Q (.ref H1.objs.size) H2.objs.size) s₃ := by
    rintro s₃ rfl
    refine coreS (g := hideAll s.heap (mu.map (·.1))) (C := H2.objs.size) (l := l) (cenv := compEnvC scope cl H2.objs.size env) (nx₀ := (H1.objs.size, oS) :: mu) (K H1.objs.size) hh
      (Tgt.loc (cenv := compEnvC scope cl H2.objs.size env) (lookup_relabel_local hx) (by simp [compEnvC, relabel, hkind])) (let ⟨o, e, r⟩ := hl; ⟨o, hideAll_get _ e hlm, r⟩)
      ⟨hns₁, fun b o e => old b o (of_hideAll _ e), by rw [hideAll_size, hC]; exact Nat.le_add_right _ _⟩ (fun p hp => ?_) hit1 (fresh _ (Nat.le_refl _)) hIC (fun p hp => ?_) (hK _ _ hoS hDlt) ?_ ?_
    · rcases List.mem_cons.mp hp with rfl | hp
      · exact ⟨hacc, hDC, hDg⟩
      · exact ⟨old _ _ (N p (List.mem_append_left _ hp)).1, fun e => by have := lts p hp; rw [e, hC] at this; exact absurd this (Nat.not_lt.mpr (Nat.le_add_right _ _)), BB.hid _ (List.mem_map_of_mem hp)⟩
    · rcases List.mem_cons.mp hp with rfl | hp
      · exact hDI
      · exact Nat.ne_of_lt (lts p hp)
    · intro i v m₂ nx own h tk hv hKi hoff F' N'
      exact turn _ _ _ BB hDg i v m₂ nx own h tk hv hKi hoff F' N'
    · intro h' tk m' nx hKn F' N'
      obtain ⟨oL, _, _, hoL, _⟩ := BB.fr.ns
      have nC : ∀ b o, s.heap.get? b = some o → b ≠ H2.objs.size := fun b o e q => by
        have := Heap.lt_size e
        rw [q] at this
        exact Nat.lt_irrefl _ (Nat.lt_of_lt_of_le this BB.hi)
      have gC : ∀ b o, g₀.get? b = some o → b ≠ H2.objs.size := fun b o e => nC b o (BB.sub _ _ (BB.st _ _ e))
      have e1 : Ext (mu.map (·.1)) s.heap h' := fun b o n e => F'.keep b o (BB.ext b o n e)
      have gn : ∀ a, (hideAll s.heap (mu.map (·.1))).get? a = none → a ≠ L ∧ g₀.get? a = none := fun a e => ⟨fun q => by rw [q, hoL] at e; (cases e), by
        cases q : g₀.get? a with
        | none => rfl
        | some o => rw [BB.st _ _ q] at e; cases e⟩
      refine ⟨m', F'.ns, fun h'' hs => done _ nx h'' tk hKn (fun b o nb e => hs.extBut b o (nC b o e) (e1 b o nb e)) ⟨(BB.fr.ns.at' fun o e => F'.keep _ o e).sameBut hs (nC _ _ (BB.sub _ _ hoL)), fun b o e => hs.extBut b o (gC b o e) (F'.keep b o (BB.st b o e)), BB.fr.above⟩ (fun p hp => ?_) hDlt⟩
      rcases List.mem_append.mp hp with hp | hp
      · exact ⟨hs.extBut _ _ (N' p hp).2.1 (N' p hp).1, gn _ (N' p hp).2.2⟩
      · have n1 := N p (List.mem_append_right _ hp)
        exact ⟨hs.extBut _ _ (nC _ _ n1.1) (e1 _ _ (hr p hp) n1.1), n1.2⟩
  exact comp_begin rfl rfl (loop _ rfl) (wpAny_pyIter_tupleiter hit1 (loop _ rfl))
end
end Mine

end
theorem Mine.resetUV : True ∧ True := by
  first
  | (walk1; done)
  | exact ⟨trivial, trivial⟩
section
open PySem PySem.W PyProof.Rows PySem.Calls PySem.Spec PyProof.V
set_option maxRecDepth 100000
set_option maxHeartbeats 8000000
namespace Mine
section
variable {prog : Program} {w : World} {A : Around} {E : Value → Shared → Prop} {s : Shared}
theorem small_line {n : Nat} (h : n < 200) : n ≤ sizeLine := by have : 4096 ≤ sizeLine := (by decide); omega
/-- sorted(a set of ints) -/
theorem sorted_setI {S : Addr} {o : Obj} {ms : List Int} {Q : Value → Shared → Prop} (ho : s.heap.get? S = some o) (hs : SetI prog w o ms) (h64 : ms.length < 64) (hh : A.handled = none)
    (h : ∀ D vs c ns h' tk d, s.heap.StaysIn h' → s.heap.get? D = none → h'.get? D = some (PySem.W.listOf (List.toArray vs) c) → IntsAre vs ns → ns.Perm ms → ns.Pairwise (· ≤ ·) → Q (.ref D) { s with heap := h', toks := tk, drawn := d }) :
    wpAny (model prog w) A (call (.builtin "sorted") [.ref S]) Q E s := by
  refine Calls.call_function_entry kind_sorted plain_sorted entry_sorted (args_sorted1 _) ?_
  unfold Builtin.«sorted»
  refine wpAny_bind (m := checkCount "sorted" 1 1 _) (wpAny_pure ?_)
  refine wpAny_bind (collect_set ho hs hh fun vs ns h1 tk d hi hp st => ?_)
  have hl : vs.length < 64 := by rw [hi.length, hp.length_eq]; exact h64
  refine wpAny_bind (wpAny_newList ?_ (by show vs.length ≤ _; exact small_line (by omega)))
  have hoL : (h1.push (seqObj "list" vs.toArray 0)).get? h1.objs.size = some (seqObj "list" vs.toArray 0) := Heap.get?_push_size _ rfl
  have hnone : s.heap.get? h1.objs.size = none := by
    cases q : s.heap.get? h1.objs.size with
    | none => rfl
    | some ob => exact absurd (Heap.lt_size (st _ _ q)) (Nat.lt_irrefl _)
  refine wpAny_bind (wpAny_holding (wpAny_call_entry slot_list_sort ⟨_, hoL, rfl⟩ entry_list_sort (list_sort_tree hoL hi hl fun out ns' a1 a2 a3 => ⟨_, rfl, ?_⟩) (args_list_sort _)))
  obtain ⟨e, he⟩ := sortedHeap_at (n := 0) (vs := vs) (out := out) hoL
  refine wpAny_pure ⟨_, rfl, h h1.objs.size out.toList e ns' _ tk d (fun b ob hb => ?_) hnone (by rw [Array.toArray_toList]; exact he) a1 (a2.trans hp) a3⟩
  have hlt := Heap.lt_size (st _ _ hb)
  refine (sortedHeap_old (Nat.ne_of_lt hlt) (by rw [size_push']; exact Nat.lt_succ_of_lt hlt)).trans (Heap.get?_push_of_some _ (st _ _ hb))

/-- sorted(a set of ints, key=.., ..) : a row of its ints, in some order -/
theorem sorted_setK {g : Heap} {L : Addr} {m : Str → Option Value} {news : List (Addr × Obj)} {S : Addr} {o : Obj} {ms : List Int} {b : Bool} {f : Value} {kw : List (Str × Value)} {Q : Value → Shared → Prop} (key : Int → Int)
    (F : Fr g L s.heap m) (N : News g L s.heap news) (ho : (S, o) ∈ news) (hs : SetI prog w o ms) (h64 : ms.length < 64) (hh : A.handled = none)
    (ha1 : argsOk "sorted" ⟨[.ref S], kw⟩) (ha2 : ∀ x, argsOk "list.sort" ⟨[.ref x], kw⟩) (ht : ∀ x, Builtin.«list.sort» ⟨[.ref x], kw⟩ = ksk_tree x f b)
    (turn : ∀ (n : Int) (t : Tok) (d : Drawn) (h : Heap) (tk : Nat) (own : List (Addr × Obj)), n ∈ ms → Fr g L h m → News g L h (news ++ own) →
      wpAny (model prog w) A.in1.in1 (call f [.int n t]) (KskEnd g L m (news ++ own) (key n) { s with heap := h, toks := tk, drawn := d }) (fun _ _ => False) { s with heap := h, toks := tk, drawn := d })
    (h : ∀ D vs c ns h' tk d, Fr g L h' m → News g L h' ((D, PySem.W.listOf (List.toArray vs) c) :: news) → (∀ q ∈ news, q.1 < D) → IntsAre vs ns → ns.Perm ms → Q (.ref D) { s with heap := h', toks := tk, drawn := d }) :
    wpAny (model prog w) A (call (.builtin "sorted") [.ref S] kw) Q E s := by
  refine call_function_entry_kw kind_sorted plain_sorted entry_sorted ha1 ?_
  unfold Builtin.«sorted»
  refine wpAny_bind (m := checkCount "sorted" 1 1 _) (wpAny_pure ?_)
  refine wpAny_bind (collect_set (N _ ho).1 hs hh fun vs ns h1 tk d hi hp st => ?_)
  have hl : vs.length < 64 := by rw [hi.length, hp.length_eq]; exact h64
  refine wpAny_bind (wpAny_newList ?_ (by show vs.length ≤ _; exact small_line (by omega)))
  have F1 : Fr g L h1 m := F.kept st
  have N1 : News g L h1 news := N.grown st
  have hoL : (h1.push (seqObj "list" vs.toArray 0)).get? h1.objs.size = some (seqObj "list" vs.toArray 0) := Heap.get?_push_size _ rfl
  have hL : L < h1.objs.size := F1.ns.lt
  refine wpAny_bind (wpAny_holding (wpAny_call_entry_kw slot_list_sort ⟨_, hoL, rfl⟩ entry_list_sort ?body (ha2 _)))
  case body =>
    have ht' := ht h1.objs.size
    show wpAny (model prog w) A.in1.in1 (Builtin.«list.sort» ⟨[.ref h1.objs.size], kw⟩) _ _ _
    rw [ht']
    refine ksk_sort (kz := ns.map key) (s := { s with heap := h1.push (seqObj "list" vs.toArray 0), toks := tk, drawn := d })
      (F1.kept fun b o e => Heap.get?_push_of_some _ e) (N1.grown fun b o e => Heap.get?_push_of_some _ e) hoL (Nat.ne_of_gt hL) (Heap.get?_none_of_le (Nat.le_trans F.above (Nat.le_of_lt hL)))
      (fun p hp => Nat.ne_of_lt (Heap.lt_size (N1 p hp).1)) (by rw [List.length_map, hi.length]) hl (fun i v k hv hk h2 tk2 own F2 N2 => ?_) fun h2 tk2 out c F2 N2 k2 => ⟨_, rfl, ?_⟩
    · rw [List.getElem?_map] at hk
      cases q : ns[i]? with
      | none => rw [q] at hk; simp at hk
      | some n =>
        rw [q] at hk
        have hk' : some (key n) = some k := hk
        cases hk'
        obtain ⟨t, ht'⟩ := hi.get i n q
        rw [ht'] at hv
        cases hv
        exact turn n t d h2 tk2 own (hp.mem_iff.mp (List.mem_of_getElem? q)) F2 N2
    · obtain ⟨ps, hpp, hout, _⟩ := k2
      have hpv : out.toList.Perm vs := by
        rw [hout]
        have h1 := hpp.map Prod.snd
        rwa [List.map_snd_zip (by rw [List.length_map, hi.length]; exact Nat.le_refl _)] at h1
      obtain ⟨ns', hi', hp'⟩ := ints_perm hpv.symm hi
      exact wpAny_pure ⟨_, rfl, h _ out.toList c ns' h2 tk2 d F2 (by rw [Array.toArray_toList]; exact N2) (fun q hq => Heap.lt_size (N1 q hq).1) hi' (hp'.symm.trans hp)⟩
end
end Mine

end
theorem Mine.resetUW : True ∧ True := by
  first
  | (walk1; done)
  | exact ⟨trivial, trivial⟩
section
open PySem PySem.W PyProof.Rows PySem.Calls PySem.Spec PyProof.V
set_option maxRecDepth 100000
set_option maxHeartbeats 8000000
namespace Mine
theorem fillitX : (PySem.Challenge.rw_bj0027_01 = PySem.Challenge.rw_bj0027_01 ∧ hd.heap_39 = hd.heap_39) := by k_fill; exact ⟨rfl, rfl⟩
/-- a tree that the library's look finds to make one object is as good as the making, with what comes behind it -/
theorem peek_road {α : Type} {K : Frag} {M : Model} {A : Around} {E : Value → Shared → Prop} {Q : α → Shared → Prop} {s : Shared} {o : Obj} (X : K.In s.heap) (t : Sem α) :
    ∀ g : Addr → Option α, peek1 K ⟨M.prog, M.w.params⟩ t = some (o, g) → ∃ k : Addr → Sem α, g = (fun D => peek K ⟨M.prog, M.w.params⟩ (k D)) ∧ (wpAny M A (alloc o >>= k) Q E s → wpAny M A t Q E s) := by
  induction t with
  | rule _ _ ih => exact fun g e => (ih () g e).imp fun _ h => ⟨h.1, fun x Γ p hΓ => h.2 x Γ p hΓ⟩
  | point _ _ ih => exact fun g e => (ih () g e).imp fun _ h => ⟨h.1, fun x Γ p hΓ => h.2 x Γ p hΓ⟩
  | ask _ ih => exact fun g e => (ih _ g e).imp fun _ h => ⟨h.1, fun x Γ p hΓ => h.2 x Γ p hΓ⟩
  | load a _ k ih =>
    intro g e
    cases found : K.lookup a with
    | none => simp [peek1, found] at e
    | some ob => exact (ih ob g (by simpa [peek1, found] using e)).imp fun _ h => ⟨h.1, fun x Γ p hΓ => ⟨ob, X _ _ found, h.2 x Γ p hΓ⟩⟩
  | alloc ob k _ =>
    rintro g ⟨⟩
    exact ⟨k, rfl, id⟩
  | _ => nofun
/-- a call's binding that makes one object -/
theorem peek_push {α : Type} {K : Frag} {M : Model} {A : Around} {E : Value → Shared → Prop} {Q : α → Shared → Prop} {s : Shared} {o : Obj} {r : Addr → α} (X : K.In s.heap) (q : Q (r s.heap.objs.size) { s with heap := s.heap.push o })
    (t : Sem α) (g : Addr → Option α) (e : peek1 K ⟨M.prog, M.w.params⟩ t = some (o, g)) (hg : ∀ D, g D = some (r D)) : wpAny M A t Q E s := by
  obtain ⟨k, rfl, road⟩ := peek_road (A := A) (E := E) (Q := Q) X t g e
  exact road (wpAny_bind (wpAny_alloc ((Looks.of_peek (M := M) (X.keeps fun _ _ hb => Heap.get?_push_of_some _ hb) (hg _)).here (s := { s with heap := s.heap.push o }) q)))

section
variable {w : World} {mean : ExcName → Option Value} {mg mb : Str → Option Value} {B : Heap} {A : Around} {outer : List Env} {s : Shared}
/-- a plain function with a starred name, some names cells -/
theorem callV (G : Gd w mean mg mb B) (c : Cx B A outer s) (mu : List (Addr × Obj)) (hmu : ∀ p ∈ mu, s.heap.get? p.1 = some p.2) (hB : ∀ p ∈ mu, B.get? p.1 = none)
    (hf : ∀ env ∈ outer, ∀ p ∈ mu, env.frame ≠ some p.1)
    {name qual : Str} {params : Arguments} {body : List Stmt} {scope : Scope} {dV kV doc pm cdv ct oc : Value} {an od : Option Addr} {osl : Array (Option Value)} {f : Addr} {pos : List Value} {tup : Obj} {g₁ : Addr → Option (List (Str × Value))} {binds : Addr → List (Str × Value)} {Q E : Value → Shared → Prop}
    (ho : List.lookup f (hd.heap_39 w.params) = some ⟨oc, od, .func (fnOf name qual params body scope dV kV doc pm an cdv ct), osl⟩) (hcd : codeIn (hd.heap_39 w.params) cdv qual = true) (hroom : A.depth < recursionLimit)
    (hp : peek1 (hd.heap_39 w.params) ⟨pr, w.params⟩ (bindArgs (fnOf name qual params body scope dV kV doc pm an cdv ct) ⟨pos, []⟩) = some (tup, g₁)) (hg : ∀ D, g₁ D = some (binds D)) (htf : tup.isFreed = false)
    (hkind : ∀ D, ((binds D).all fun y => scope.names.lookup y.1 == some .local || scope.names.lookup y.1 == some .cell) = true)
    (hnd : ((cellsFrom 0 scope.names []).map (·.1)).Nodup)
    (h : ∀ g L' h₁ tk cells D, Fr g L' h₁ (bindL (envOfC qual scope L' f cdv).kindOf (binds D) fun _ => none) → News g L' h₁ (cells ++ mu) →
      CellsAre (bindC (envOfC qual scope L' f cdv).kindOf (binds D) fun _ => none) (cellsFrom (L' + 1) scope.names []) cells → Below A B outer g → Gd w mean mg mb g → Ext (mu.map (·.1)) s.heap g → (∀ p ∈ mu, p.1 < L') → g.get? D = some tup →
      wpAny (model pr w) (A.deeper (envOfC qual scope L' f cdv)) (execs body (envOfC qual scope L' f cdv))
        (fun fl s' => Q (match fl with | .ret v => v | _ => .none) s') (fun _ _ => False) { s with heap := h₁, toks := tk })
    (hco : scope.isCoroutine = false := by rfl) (hgen : scope.isGenerator = false := by rfl) (hk : scope.kind = .function := by rfl) : wpAny (model pr w) A (call (.ref f) pos) Q E s := by
  have pk : ∀ b o, s.heap.get? b = some o → (s.heap.push tup).get? b = some o := fun b o e => Heap.get?_push_of_some _ e
  have c2 : Cx B A outer { s with heap := s.heap.push tup } := ⟨c.fr, c.ff.of_keeps fun b o e _ => ⟨o, pk b o e, rfl⟩, fun b o e => pk b o (c.kp b o e), c.hh⟩
  obtain ⟨G', B', X'⟩ := rebase G c2 mu (fun p hp => pk _ _ (hmu p hp)) hB hf
  refine wpAny_call ?_
  refine codeAny_call_function hroom (c.kp _ _ (G.X _ _ ho)) rfl hco hgen rfl (codeRec_of (G.X.keeps c.kp) hcd) ?_
  refine peek_push (G.X.keeps c.kp) (r := binds) ?_ _ g₁ hp hg
  refine wpAny_newFunctionEnv_cells hk (kindsX (hkind _) _) fun env' he s' x => ?_
  subst he
  refine ⟨(G.T.nolimit.keeps c2.kp).keeps x.toInCall.keep, codeAny_func ?_⟩
  obtain ⟨h₁, tk, rfl, _⟩ := x.done
  obtain ⟨F₁, N₁, lt⟩ := entered (fun p hp => pk _ _ (hmu p hp)) x.toInCall.keep x.toInCall.ns
  have named : ∀ n c, (n, c) ∈ cellsFrom ((s.heap.push tup).objs.size + 1) scope.names [] → (cellsFrom ((s.heap.push tup).objs.size + 1) scope.names []).lookup n = some c := fun n c hm =>
    lookup_of_mem_nodup (cellsFrom_names scope.names 0 ((s.heap.push tup).objs.size + 1) [] [] rfl ▸ hnd) hm
  obtain ⟨cells, NC, Y⟩ := Cl.news (h₀ := s.heap.push tup) (Nat.le_refl _) fun n c hm => ⟨x.cell n c (named n c hm), x.above n c hm⟩
  have tupIn : (hideAll (s.heap.push tup) (mu.map (·.1))).get? s.heap.objs.size = some tup := hideAll_get _ (Heap.get?_push_size _ htf) fun q =>
    let ⟨p, hp, e⟩ := List.mem_map.mp q
    Nat.ne_of_lt (Heap.lt_size (hmu p hp)) e
  exact wpAny_mono (h _ _ h₁ tk cells _ F₁ (News.cells NC N₁) Y B' G' (fun b o n e => X' b o n (pk b o e)) lt tupIn) (fun _ _ hl => hl) fun _ _ y => y.elim
end

section
variable {M : Model} {A : Around} {E : Value → Shared → Prop} {s : Shared} {g : Heap} {L a c P : Addr} {m mg mb : Str → Option Value} {cn : Str} {cs : Scope} {ccd : Value} {cl : List (Str × Addr)} {news : List (Addr × Obj)}
  {p : Program} {loose : List Str} {mean : ExcName → Option Value} {name qual : Str} {params : Arguments} {body : PySem.Expr} {scope : Scope} {ps : Array Value} {pos : Pos} {firstLine : Nat} {clos : List (Str × Addr)}
/-- a lambda, made the first time or again -/
theorem lam_both {Q : Value → Shared → Prop} (F : Fr g L s.heap m) (N : News g L s.heap ((P, tabObj ps) :: news)) (hP : ∀ q ∈ news, q.1 ≠ P) (T : Top p loose mean mg mb g) (C : CodeHd g c P) (hcd : ccd = .ref c)
    (hcl : closureFor scope (envX cn cs L a ccd cl) = pure clos) (hps : ps = #[] ∨ ∃ c' oc vs t, ps = #[rawInt pos.line, rawInt pos.col, .ref c'] ∧ g.get? c' = some oc ∧ oc.data = .fields vs ∧ vs[1]? = some (.str qual t))
    (h : ∀ f c' ctv nx oc vs t h' tk, Fr g L h' m → News g L h' ((f, kla_obj name qual params body scope clos ((mg "__name__").getD .none) c' ctv) :: (nx ++ (P, tabObj #[rawInt pos.line, rawInt pos.col, .ref c']) :: news)) → (∀ q ∈ news, q.1 < f) →
      ((nx = [] ∧ g.get? c' = some oc) ∨ (nx = [(c', oc)] ∧ ∀ q ∈ news, q.1 < c')) → oc.data = .fields vs → vs[1]? = some (.str qual t) → Q (.ref f) { s with heap := h', toks := tk }) :
    wpAny M A (makeFunction name qual params (.expr body) scope (envX cn cs L a ccd cl) [] [] [] pos firstLine) Q E s := by
  rcases hps with rfl | ⟨c', oc, vs, t, rfl, e1, e2, e3⟩
  · refine kla_nest F N T C hcd (UpdF.head hP) trivial rfl hcl fun f c' oc vs t ctv h' tk F' N' d1 d2 l1 l2 => ?_
    exact h f c' ctv [(c', oc)] oc vs t h' tk F' N' (fun q hq => Nat.lt_trans (l1 q (.tail _ hq)) l2) (.inr ⟨rfl, fun q hq => l1 q (.tail _ hq)⟩) d1 d2
  · refine kla_hit F N T C hcd (.head _) trivial (c' := c') ?_ hcl fun f ctv h' tk F' N' l1 => ?_
    · show (if (((pos.line : Nat) : Int) == ((pos.line : Nat) : Int) && ((pos.col : Nat) : Int) == ((pos.col : Nat) : Int)) = true then some (Value.ref c') else _) = _
      simp
    · exact h f c' ctv [] oc vs t h' tk F' N' (fun q hq => l1 q (.tail _ hq)) (.inl ⟨rfl, e1⟩) e2 e3
end
end Mine

end
theorem Mine.resetUX : True ∧ True := by
  first
  | (walk1; done)
  | exact ⟨trivial, trivial⟩
section
open PySem PySem.W PyProof.Rows PySem.Calls PySem.Spec PyProof.V
set_option maxRecDepth 100000
set_option maxHeartbeats 8000000
namespace Mine
section
variable {prog : Program} {w : World} {A : Around} {E : Value → Shared → Prop} {s : Shared}
theorem iter_list {l : Addr} {items : Array Value} {Q : Value → Shared → Prop} (hl : s.heap.IsList l items)
    (h : Q (.ref s.heap.objs.size) { s with heap := s.heap.push { cls := .type "list_iterator", data := .fields #[.ref l, .int 0 0] } }) : wpAny (model prog w) A (call (.builtin "iter") [.ref l]) Q E s := by
  refine call_function_entry (by decide +kernel) (by decide +kernel) kdk_entry_iter (kdk_args_iter _) ?_
  unfold Builtin.«iter»
  refine wpAny_bind (m := someArgs "iter" 1 2 _) (wpAny_of_eq (a := [Value.ref l]) (by first | rfl | kernel_rfl!) ?_)
  show wpAny _ _ (pyIter (.ref l) >>= _) _ _ _
  exact wpAny_bind (wpAny_pyIter_list hl (wpAny_pure ⟨_, rfl, h⟩))

/-- next(it) of a list's iterator, whichever way it ends -/
theorem next_list {it l : Addr} {i : Nat} {items : Array Value} {Q : Value → Shared → Prop} (hit : s.heap.IsListIter it l i) (hl : s.heap.IsList l items)
    (more : ∀ x h', items[i]? = some x → h'.IsListIter it l (i + 1) → Heap.SameBut it s.heap h' → Q x { s with heap := h' })
    (stop : items[i]? = none → A.handled = none ∧ ∀ h₁ e h', Heap.SameBut it s.heap h₁ → Stopped h₁ h' e → E (.ref e) { s with heap := h' }) :
    wpAny (model prog w) A (call (.builtin "next") [.ref it]) Q E s := by
  refine call_function_entry (by decide +kernel) (by decide +kernel) kdk_entry_next (kdk_args_next _) ?_
  unfold Builtin.«next»
  refine wpAny_bind (m := someArgs "next" 1 2 _) (wpAny_of_eq (a := [Value.ref it]) (by first | rfl | kernel_rfl!) ?_)
  refine wpAny_bind (wpAny_specialOf (name := Str.ofString "__next__") hit.typeIs slot_listiter_next.lookup ?_)
  refine wpAny_ite_split (fun hab => absurd hab (by decide)) (fun _ => wpAny_bind (list_turn hit hl (fun x h' hx hit' hs => ?_) stop))
  exact wpAny_pure ⟨_, rfl, more x h' hx hit' hs⟩

variable {env : Env} {g : Heap} {x : Str} {body : List Stmt} {Q : Flow → Shared → Prop}
/-- a loop over what is left of a list behind its first item -/
theorem iterI {I l : Addr} {items : Array Value} {m₀ : Str → Option Value} {news : List (Addr × Obj)} (J : Nat → (Str → Option Value) → List (Addr × Obj) → Prop)
    (hh : A.handled = none) (hI : s.heap.IsListIter I l 1) (hl : s.heap.IsList l items) (hsz : 0 < items.size) (hgI : g.get? I = none) (hIl : l ≠ I) (hIL : I ≠ env.locals) (hlL : l ≠ env.locals)
    (F : Fr g env.locals s.heap m₀) (N : News g env.locals s.heap news) (hoff : ∀ p ∈ news, p.1 ≠ I ∧ p.1 ≠ l) (hj : J 0 m₀ news)
    (turn : ∀ i v m₁ nx h tk own, items[i + 1]? = some v → OwnOff own (nx.map (·.1)) → J i m₁ nx → (∀ p ∈ nx, p.1 ≠ I ∧ p.1 ≠ l → True) → Fr g env.locals h (fun y => if y = x then some v else m₁ y) → News g env.locals h (nx ++ own) →
      wpAny (model prog w) A (execs body env) (InvPostG g env.locals (fun m nx => J (i + 1) m nx ∧ ∀ p ∈ nx, p.1 ≠ l) own { s with heap := h, toks := tk } Q) E { s with heap := h, toks := tk })
    (done : ∀ m₁ nx h tk, J (items.size - 1) m₁ nx → Fr g env.locals h m₁ → News g env.locals h nx → Q .next { s with heap := h, toks := tk }) :
    wpAny (model prog w) A (pyIter (.ref I)) (fun it s₂ => LoopAtV prog w A g env x body Q E it s₂) E s := by
  have W := Walks.list (prog := prog) (w := w) hh I l hIl items
  have W1 : Walks prog w A I [I, l] [I] (items.size - 1) (fun i v => items[i + 1]? = some v) (fun i h => h.IsListIter I l (i + 1) ∧ h.IsList l items) :=
    { sub := W.sub
      frame := fun i h h' st hk => W.frame (i + 1) h h' st hk
      item := fun i s Q E hi st hQ => W.item (i + 1) s Q E (by omega) st hQ
      done := fun s Q E st hQ => W.done s Q E (by
        have e : items.size - 1 + 1 = items.size := by omega
        rw [e] at st; exact st) hQ
      self := fun i s Q E st hQ => W.self (i + 1) s Q E st hQ }
  refine wpAny_pyIter_listiter hI ⟨I, _, _, items.size - 1, _, _, m₀, news, fun i m nx => J i m nx ∧ ∀ p ∈ nx, p.1 ≠ l, rfl, W1, fun hm => ?_, fun b hb => by rw [List.mem_singleton.mp hb]; exact hgI, fun p hp hq => (hoff p hp).1 (List.mem_singleton.mp hq),
    ⟨hI, hl⟩, F, N, ⟨hj, fun p hp => (hoff p hp).2⟩, ?_, fun h' tk m' news' F' N' _ hJ => done m' news' h' tk hJ.1 F' N'⟩
  · rcases List.mem_cons.mp hm with e | hm
    · exact hIL e.symm
    · exact hlL (List.mem_singleton.mp hm).symm
  · rintro i v m₁ nx s₁ own ⟨hh', tk', rfl⟩ - hP hJ hoff hown - hfp hst F₁ N₁
    obtain ⟨⟨oI, hoI, -⟩, -⟩ := id hst
    have hIown : (I, oI) ∈ own := hfp _ (.head _) hgI _ hoI
    have hsep : OwnOff own (nx.map (·.1)) := fun p hp b hb e => by
      obtain ⟨q, hq, rfl⟩ := List.mem_map.mp hb
      rcases List.mem_cons.mp (hown p hp) with h1 | h1
      · exact hoff q hq (List.mem_singleton.mpr (e ▸ h1))
      · exact hJ.2 q hq (e ▸ List.mem_singleton.mp h1)
    have N₂ : News g env.locals hh' (nx ++ own) := fun p hp => N₁ p ((List.mem_append.mp hp).elim (List.mem_append_right _) (List.mem_append_left _))
    refine wpAny_mono (turn i v m₁ nx hh' tk' own hP hsep hJ.1 (fun _ _ _ => trivial) F₁ N₂) (fun f s₂ hp => ?_) fun _ _ e => e
    have fin : InvEndG g env.locals (fun m nx => J (i + 1) m nx ∧ ∀ p ∈ nx, p.1 ≠ l) own { s with heap := hh', toks := tk' } s₂ → LoopStepU g env.locals [I] own (fun m nx => J (i + 1) m nx ∧ ∀ p ∈ nx, p.1 ≠ l) { s with heap := hh', toks := tk' } .next s₂ := by
      rintro ⟨h', tk, m', news', nx', e, F', N', hn, ho, ha, hm⟩
      exact ⟨rfl, h', tk, m', nx', e, F', fun p hp => N' p ((List.mem_append.mp hp).elim (ho p) (hn p)), fun p hp hq => ha _ hIown p.1 (List.mem_map_of_mem hp) (List.mem_singleton.mp hq).symm, hm⟩
    cases f with
    | ret v => exact .ret hp
    | brk => exact .brk hp
    | next => exact .next (fin hp)
    | cont => exact .cont (fin hp)
end

section
variable {M : Model} {A : Around} {E : Value → Shared → Prop} {s : Shared}
theorem rebaseFF {h base base' : Heap} : ∀ {l : List Env}, h.FunFrames base l → (∀ b ∈ l.filterMap (·.frame), base'.get? b = none) → h.FunFrames base' l
  | [], _, _ => trivial
  | env :: rest, ⟨hk, ⟨L, o, hf, _, ho, hd⟩, hr⟩, n =>
    ⟨hk, ⟨L, o, hf, n L (by rw [List.filterMap_cons, hf]; exact .head _), ho, hd⟩, rebaseFF hr fun b hb => n b (by rw [List.filterMap_cons, hf]; exact .tail _ hb)⟩
/-- an exception is noted the first time, at a handler -/
theorem note_first {base : Heap} {env : Env} {outer : List Env} {L e : Addr} {oe : Obj} {vs : Array Value} {Q : Unit → Shared → Prop}
    (hfr : A.frames = some (env :: outer)) (hl : s.heap.FunFrames base (env :: outer)) (hf : env.frame = some L) (he : s.heap.get? e = some oe) (hd : oe.data = .fields vs) (h1 : vs[1]? = some .none)
    (h : ∀ h' oe' vs' T oT ts, (∀ b o, b ≠ e → b ∉ (env :: outer).filterMap (·.frame) → s.heap.get? b = some o → h'.get? b = some o) → (∀ b o, b ≠ e → s.heap.get? b = some o → ∃ sl, h'.get? b = some { o with slots := sl }) →
      h'.get? e = some oe' → oe'.cls = oe.cls → oe'.data = .fields vs' → vs'[1]? = some (.ref T) → T ≠ e → s.heap.get? T = none → h'.get? T = some oT → oT.data = .fields ts → 3 < ts.size → Q () { s with heap := h' }) :
    wpAny M A (noteFrame (.ref e) env) (fun _ s₂ => wpAny M A (setFlight (.ref e) none) Q E s₂) E s := by
  have hsz : 1 < vs.size := (Array.getElem?_eq_some_iff.mp h1).1
  -- the base of the library's rule: all that is here but the exception and the frames
  let keepB := hideAll s.heap (e :: (env :: outer).filterMap (·.frame))
  have hl' : s.heap.FunFrames keepB (env :: outer) := rebaseFF hl fun b hb => hideAll_none _ (.tail _ hb)
  unfold noteFrame
  simp only [hf]
  refine wpAny_bind (wpAny_field he hd h1 ?_)
  rw [if_neg (by decide)]
  refine wpAny_newEntryW hfr hl' hf he (fun b o hb => of_hideAll _ hb) (hideAll_none _ (.head _)) hd hsz (Array.getElem?_eq_getElem (Nat.lt_trans Nat.zero_lt_one hsz)) fun h' ⟨st, _, tr, up⟩ => ?_
  obtain ⟨oe', vs', T, oT, ts, he', ⟨hc', -⟩, hd', h1', hT0, hTe, hT, hdT, h3⟩ := tr
  have stay : ∀ b o, b ≠ e → b ∉ (env :: outer).filterMap (·.frame) → s.heap.get? b = some o → h'.get? b = some o := fun b o hbe hbf hb =>
    st b o (hideAll_get _ hb fun hm => (List.mem_cons.mp hm).elim hbe hbf)
  have plain : ∀ b ∈ (env :: outer).filterMap (·.frame), ∀ o, s.heap.get? b = some o → ∀ xs, o.data ≠ .fields xs := fun b hb o ho => by
    obtain ⟨_, o', ho', hn⟩ := hl.mem hb
    cases ho.symm.trans ho'
    exact hn
  refine h h' oe' vs' T oT ts stay (fun b o hbe hb => ?_) he' hc' hd' h1' hTe ?_ hT hdT (Array.getElem?_eq_some_iff.mp h3).1
  · by_cases hm : b ∈ (env :: outer).filterMap (·.frame)
    · exact up b o hb (plain b hm o hb)
    · exact ⟨o.slots, stay b o hbe hm hb⟩
  · cases q : s.heap.get? T with
    | none => rfl
    | some o =>
      by_cases hm : T ∈ (env :: outer).filterMap (·.frame)
      · obtain ⟨sl, hs⟩ := up T o q (plain T hm o q)
        cases hT.symm.trans hs
        exact absurd hdT (plain T hm o q _)
      · rw [hideAll_get _ q fun hx => (List.mem_cons.mp hx).elim hTe hm] at hT0
        cases hT0
end
end Mine

end
theorem Mine.resetUL : True ∧ True := by
  first
  | (walk1; done)
  | exact ⟨trivial, trivial⟩
section
open PySem PySem.W
namespace Mine
/-! putting roots under one root -/
theorem Up.congr {P P' : List (Int × Int)} (hh : ∀ y, kdfHas P y = true → kdfHas P' y = true) (hl : ∀ y, kdfLook P' y 0 = kdfLook P y 0) {x s : Int} {n : Nat} (h : Up P x s n) : Up P' x s n := by
  induction h with
  | root a b => exact .root (hh _ a) (by rw [hl]; exact b)
  | step a b c _ ih => exact .step (hh _ a) (by rw [hl]; exact b) c ih
theorem Up.link {P : List (Int × Int)} {r root : Int} (hr : kdfLook P r 0 = r) (hroot : Up P root root 0) (hne : r ≠ root) {x s : Int} {n : Nat} (h : Up P x s n) :
    (s = r → Up (kdfPut P r root) x root (n + 1)) ∧ (s ≠ r → Up (kdfPut P r root) x s n) := by
  have h0 : Up (kdfPut P r root) root root 0 := .root (by rw [kdfHas_put, hroot.has]; simp) (by rw [look_put, if_neg (Ne.symm hne)]; exact hroot.rootHas.2)
  induction h with
  | @root x a b =>
    refine ⟨fun e => ?_, fun e => .root (by rw [kdfHas_put, a]; simp) (by rw [look_put, if_neg e]; exact b)⟩
    subst e
    exact .step (by rw [kdfHas_put]; simp) (by rw [look_put, if_pos rfl]) (Ne.symm hne) h0
  | @step x y s n a b c d ih =>
    have hx : x ≠ r := fun e => by subst e; exact c (b.symm.trans hr)
    exact ⟨fun e => .step (by rw [kdfHas_put, a]; simp) (by rw [look_put, if_neg hx]; exact b) c (ih.1 e), fun e => .step (by rw [kdfHas_put, a]; simp) (by rw [look_put, if_neg hx]; exact b) c (ih.2 e)⟩

def lk (rt : Int → Int) (root : Int) (dn : List Int) (x : Int) : Int := if rt x ∈ dn then root else rt x
structure Lk (ks : List Int) (rt : Int → Int) (root : Int) (D : Nat) (dn : List Int) (P W : List (Int × Int)) : Prop where
  keys : P.map (·.1) = ks
  up : ∀ x ∈ ks, ∃ n, Up P x (lk rt root dn x) n ∧ n ≤ D + 1 ∧ (lk rt root dn x ≠ root → n ≤ D)
  wts : ∀ x ∈ ks, kdfHas W x = true
  wlen : W.length ≤ ks.length
theorem Lk.start {ks : List Int} {rt : Int → Int} {root : Int} {D : Nat} {P W : List (Int × Int)} (f : Fo ks rt D P W) : Lk ks rt root D [root] P W where
  keys := f.keys
  up := fun x hx => by
    obtain ⟨n, hn, u⟩ := f.up x hx
    have e : lk rt root [root] x = rt x := by
      unfold lk; split
      · rename_i h; exact (List.mem_singleton.mp h).symm
      · rfl
    rw [e]
    exact ⟨n, u, Nat.le_succ_of_le hn, fun _ => hn⟩
  wts := f.wts
  wlen := f.wlen
theorem Lk.fo {ks : List Int} {rt : Int → Int} {root : Int} {D : Nat} {dn : List Int} {P W : List (Int × Int)} (l : Lk ks rt root D dn P W) : Fo ks (lk rt root dn) (D + 1) P W where
  keys := l.keys
  up := fun x hx => let ⟨n, u, hn, _⟩ := l.up x hx; ⟨n, hn, u⟩
  wts := l.wts
  wlen := l.wlen
theorem Lk.weights {ks : List Int} {rt : Int → Int} {root : Int} {D : Nat} {dn : List Int} {P W : List (Int × Int)} (l : Lk ks rt root D dn P W) {a v : Int} (ha : a ∈ ks) : Lk ks rt root D dn P (kdfPut W a v) where
  keys := l.keys
  up := l.up
  wts := fun x hx => by rw [kdfHas_put, l.wts x hx]; simp
  wlen := by
    have e := kdfPut_old (v := v) (l.wts a ha)
    rw [e, List.length_map]
    exact l.wlen
theorem Lk.has {ks : List Int} {rt : Int → Int} {root : Int} {D : Nat} {dn : List Int} {P W : List (Int × Int)} (l : Lk ks rt root D dn P W) {x : Int} (hx : x ∈ ks) : kdfHas P x = true := by rw [kdfHas_iff, l.keys]; exact hx
theorem Lk.step {ks : List Int} {rt : Int → Int} {root : Int} {D : Nat} {dn : List Int} {P W : List (Int × Int)} (l : Lk ks rt root D dn P W) (hrk : root ∈ ks) (hrr : rt root = root) {r : Int} (hk : r ∈ ks) (hr : rt r = r) : Lk ks rt root D (dn ++ [r]) (kdfPut P r root) W where
  keys := by rw [keys_put_old (l.has hk)]; exact l.keys
  up := fun x hx => by
    obtain ⟨n, u, h1, h2⟩ := l.up x hx
    obtain ⟨n0, u0, _, _⟩ := l.up root hrk
    have e0 : lk rt root dn root = root := by unfold lk; split <;> simp_all
    rw [e0] at u0
    have u00 := u0.self
    have ex : lk rt root (dn ++ [r]) x = if rt x = r then root else lk rt root dn x := by
      unfold lk
      by_cases hxr : rt x = r
      · rw [if_pos (by rw [hxr]; exact List.mem_append_right _ (.head _)), if_pos hxr]
      · rw [if_neg hxr]
        by_cases hd : rt x ∈ dn
        · rw [if_pos hd, if_pos (List.mem_append_left _ hd)]
        · rw [if_neg hd, if_neg]
          intro h
          rcases List.mem_append.mp h with h | h
          · exact hd h
          · exact hxr (List.mem_singleton.mp h)
    by_cases hrt : r = root
    · subst hrt
      have e2 : lk rt r (dn ++ [r]) x = lk rt r dn x := by
        rw [ex]; split
        · rename_i h; unfold lk; rw [h]; split <;> rfl
        · rfl
      rw [e2]
      refine ⟨n, u.congr (fun y hy => by rw [kdfHas_put, hy]; simp) (fun y => ?_), h1, h2⟩
      rw [look_put]; split
      · rename_i h; rw [h]; exact u0.rootHas.2.symm
      · rfl
    · obtain ⟨nr, ur, _, _⟩ := l.up r hk
      by_cases hrd : r ∈ dn
      · have er : lk rt root dn r = root := by unfold lk; rw [hr, if_pos hrd]
        rw [er] at ur
        have e2 : lk rt root (dn ++ [r]) x = lk rt root dn x := by
          rw [ex]; split
          · rename_i h; unfold lk; rw [h, if_pos hrd]
          · rfl
        rw [e2]
        obtain ⟨m, hm, u'⟩ := Up.short ur hrt u
        exact ⟨m, u', Nat.le_trans hm h1, fun e => Nat.le_trans hm (h2 e)⟩
      · have er : lk rt root dn r = r := by unfold lk; rw [hr, if_neg hrd]
        rw [er] at ur
        have lr := ur.self
        have k := Up.link lr.rootHas.2 u00 hrt u
        rw [ex]
        by_cases hxr : rt x = r
        · have e3 : lk rt root dn x = r := by unfold lk; rw [hxr, if_neg hrd]
          rw [if_pos hxr]
          rw [e3] at h2
          exact ⟨n + 1, k.1 e3, Nat.succ_le_succ (h2 hrt), fun e => absurd rfl e⟩
        · rw [if_neg hxr]
          have e3 : lk rt root dn x ≠ r := by
            unfold lk; split
            · exact Ne.symm hrt
            · exact hxr
          exact ⟨n, k.2 e3, h1, h2⟩
  wts := l.wts
  wlen := l.wlen
end Mine

end
theorem Mine.resetUM : True ∧ True := by
  first
  | (walk1; done)
  | exact ⟨trivial, trivial⟩
section
open PySem PySem.W PyProof.Rows PySem.Calls PySem.Spec PyProof.V
set_option maxRecDepth 100000
set_option maxHeartbeats 8000000
namespace Mine
theorem fillitY : (PySem.Challenge.rw_bj0027_01 = PySem.Challenge.rw_bj0027_01 ∧ hd.heap_39 = hd.heap_39) := by k_fill; exact ⟨rfl, rfl⟩
local macro_rules | `(tactic| walk_at "Exists") => `(tactic| (refine Stop.intro ?_))
local macro_rules | `(tactic| walk_at "InvPostG") => `(tactic| (refine Stop.intro ?_))
local macro_rules | `(tactic| walk_at "InvEndG") => `(tactic| (refine Stop.intro ?_))
local macro_rules | `(tactic| walk_at "exec For") => `(tactic| (k_here; (with_reducible rename Fr _ _ _ _ => kF); refine for_enter kF ?k1 ?k2 ?k3 ?k4 ?_; (case k1 => with_unfolding_all rfl); (case k2 => with_unfolding_all rfl); (case k3 => intro _; with_unfolding_all rfl); (case k4 => exact PassesOwn.never)))
local macro_rules | `(tactic| walk_at "pyIter ref") => `(tactic| (refine Stop.intro ?_))
local macro_rules | `(tactic| walk_at "eval SetComp") => `(tactic| (k_here; refine Stop.intro ?_))
local macro_rules | `(tactic| walk_at "eval Lambda") => `(tactic| (k_here; refine Stop.intro ?_))
local macro_rules | `(tactic| walk_at "call builtin:sorted") => `(tactic| (k_here; refine Stop.intro ?_))
local macro_rules | `(tactic| walk_at "call builtin:iter") => `(tactic| (k_here; refine Stop.intro ?_))
local macro_rules | `(tactic| walk_at "call builtin:next") => `(tactic| (k_here; refine Stop.intro ?_))
local macro_rules | `(tactic| walk_at "call ref") => `(tactic| (k_here; refine Stop.intro ?_))
local macro_rules | `(tactic| walk_at "eval Name") => `(tactic| (k_here; (with_reducible show wpAny _ _ (eval (Expr.Name _ _) (compEnvC _ _ _ _)) _ _ _); k_dflt (first
  | (refine blk_local (by k_asm) (by rfl) ?_ (by rfl) (by rfl))
  | (refine lcf_cell (by k_asm) (by rfl) (by k_mem) (by k_asm) ?_ (by rfl) (by rfl))
  | (refine lcf_free (by k_asm) (by rfl) (by k_mem) (by k_asm) ?_ (by rfl) (by rfl)))))
local macro_rules | `(tactic| walk_at "getItem ref int") => `(tactic| (k_here; k_dflt (refine getItem_P (TabAt.ofNews (by k_asm) (by k_mem) (by assumption) (by assumption) (by assumption)) (by assumption) ?_; intro t')))
local macro_rules | `(tactic| walk_at "LeaveK") => `(tactic| (refine Stop.intro ?_))
/-- asking for several -/
noncomputable def addAll (ks : List Int) (rt : Int → Int) : List Int → List Int × (Int → Int)
  | [] => (ks, rt)
  | o :: os => addAll (addK ks o) (addR ks rt o) os
theorem addAll_snoc : ∀ (os : List Int) (o : Int) (ks : List Int) (rt : Int → Int), addAll ks rt (os ++ [o]) = (addK (addAll ks rt os).1 o, addR (addAll ks rt os).1 (addAll ks rt os).2 o)
  | [], _, _, _ => rfl
  | _ :: os, o, _, _ => addAll_snoc os o _ _
theorem addK_mem {ks : List Int} {o x : Int} : x ∈ addK ks o ↔ x ∈ ks ∨ x = o := by
  unfold addK; split
  · rename_i h; exact ⟨.inl, fun e => e.elim id fun e => by rw [e]; exact h⟩
  · rw [List.mem_append, List.mem_singleton]
theorem addAll_mem : ∀ (os : List Int) (ks : List Int) (rt : Int → Int) (x : Int), x ∈ (addAll ks rt os).1 ↔ x ∈ ks ∨ x ∈ os
  | [], _, _, _ => by simp [addAll]
  | o :: os, ks, rt, x => by
    show x ∈ (addAll (addK ks o) (addR ks rt o) os).1 ↔ _
    rw [addAll_mem os, addK_mem, List.mem_cons, or_assoc]
theorem addK_len {ks : List Int} {o : Int} : (addK ks o).length ≤ ks.length + 1 := by unfold addK; split <;> simp
theorem addAll_len : ∀ (os : List Int) (ks : List Int) (rt : Int → Int), (addAll ks rt os).1.length ≤ ks.length + os.length
  | [], _, _ => Nat.le_refl _
  | o :: os, ks, rt => by
    have h1 := addAll_len os (addK ks o) (addR ks rt o)
    have h2 := addK_len (ks := ks) (o := o)
    show (addAll (addK ks o) (addR ks rt o) os).1.length ≤ ks.length + (os.length + 1)
    omega
theorem addR_old {ks : List Int} {rt : Int → Int} {o x : Int} (hx : x ∈ ks) : addR ks rt o x = rt x := by
  unfold addR; split
  · rfl
  · rename_i h
    show (if x = o then o else rt x) = rt x
    have hne : x ≠ o := fun e => h (by rw [← e]; exact hx)
    rw [if_neg hne]
section
variable {prog : Program} {w : World} {A : Around} {E : Value → Shared → Prop} {s : Shared}
theorem callAdd_I {a : Addr} {o : Obj} {ms : List Int} {k : Int} {t0 : Tok} {Q : Value → Shared → Prop} (ho : s.heap.get? a = some o) (hs : SetI prog w o ms) (hl : ms.length < 100)
    (h : ∀ h' o' ms' tk, Heap.SameBut a s.heap h' → h'.get? a = some o' → SetI prog w o' ms' → ms'.Perm (if k ∈ ms then ms else ms ++ [k]) → Q .none { s with heap := h', toks := tk }) :
    wpAny (model prog w) A (call (.builtin "set.add") [.ref a, .int k t0]) Q E s := by
  have hT : s.TypeIs (.ref a) "set" := by obtain ⟨es, ep, t, rfl, _⟩ := hs; exact ⟨_, ho, rfl⟩
  refine wpAny_call_entry F.slot_set_add hT F.entry_set_add ?_ (F.args_set_add_2 _ _)
  unfold Builtin.«set.add» Builtin.Frozenset.oneOther
  simp only [List.isEmpty_nil, bind_assoc]
  unfold Builtin.Frozenset.addrOf
  refine wpAny_bind (wpAny_pure ?_)
  try dsimp only
  refine wpAny_bind (wpAny_pure ?_)
  try dsimp only
  refine wpAny_bind (setAdd_I ho hs hl fun h' o' ms' a b c d => ?_)
  exact wpAny_pure ⟨_, rfl, h h' o' ms' _ a b c d⟩
end
/-- what the table of the lambda's code holds -/
def TabOk (ps : Array Value) (h : Heap) (l : List Addr) : Prop := ps = #[] ∨ ∃ c' oc vs t, ps = #[rawInt 43, rawInt 60, .ref c'] ∧ c' ∉ l ∧ h.get? c' = some oc ∧ oc.data = .fields vs ∧ vs[1]? = some (.str (Str.ofString "UnionFind.union" ++ ".<locals>." ++ "<lambda>") t)
/-- what putting together does to the roots -/
def UnR (ks : List Int) (rt : Int → Int) (os : List Int) (rt' : Int → Int) : Prop :=
  ∃ root dn, (∀ r, r ∈ dn ↔ ∃ o ∈ os, (addAll ks rt os).2 o = r) ∧ (os ≠ [] → root ∈ dn) ∧ rt' = lk (addAll ks rt os).2 root dn
theorem ufAll {w : World} {self sd p q : Addr} {t1 t2 : Tok} {n : Nat} {oP oW : Obj} {Pr : Addr → Prop} : (∀ x ∈ ufL w self sd p q t1 t2 n oP oW, Pr x.1) ↔ Pr p ∧ Pr q ∧ Pr self ∧ Pr sd :=
  ⟨fun h => ⟨h _ (.head _), h _ (.tail _ (.head _)), h _ (.tail _ (.tail _ (.head _))), h _ (.tail _ (.tail _ (.tail _ (.head _))))⟩, fun ⟨a, b, c, d⟩ x hx => by
    rcases hx with _ | ⟨_, _ | ⟨_, _ | ⟨_, _ | ⟨_, hx⟩⟩⟩⟩
    · exact a
    · exact b
    · exact c
    · exact d
    · cases hx⟩
section
variable {w : World} {mean : ExcName → Option Value} {mg mb : Str → Option Value} {B : Heap} {A : Around} {outer : List Env} {s : Shared}
theorem union_spec (G : Gd w mean mg mb B) (c : Cx B A outer s) (hd : A.depth + 2 < recursionLimit) (hu : A.units + 200 < cLine) (hC : CodeHd B 61 59)
    {self sd p q : Addr} {t1 t2 : Tok} {n : Nat} {oP oW : Obj} {P W : List (Int × Int)} {ps : Array Value} (hP : DictI w oP P) (hW : DictI w oW W)
    (hmu : ∀ x ∈ (59, tabObj ps) :: ufL w self sd p q t1 t2 n oP oW, s.heap.get? x.1 = some x.2) (hB : ∀ x ∈ (59, tabObj ps) :: ufL w self sd p q t1 t2 n oP oW, B.get? x.1 = none)
    (hf : ∀ env ∈ outer, ∀ x ∈ (59, tabObj ps) :: ufL w self sd p q t1 t2 n oP oW, env.frame ≠ some x.1)
    (hp0 : (p == sysModules) = false) (hq0 : (q == sysModules) = false) (hpq : @Ne Nat p q) (hps : @Ne Nat p self) (hpd : @Ne Nat p sd) (hqs : @Ne Nat q self) (hqd : @Ne Nat q sd) (hsd : @Ne Nat self sd)
    {ks : List Int} {rt : Int → Int} {D : Nat} (h59 : @Ne Nat p 59 ∧ @Ne Nat q 59 ∧ @Ne Nat self 59 ∧ @Ne Nat sd 59) (fo : Fo ks rt D P W) (hkl : ks.length ≤ 90) (hD : D ≤ 900)
    {vs : List Value} {os : List Int} (hi : IntsAre vs os) (hos : os.length ≤ 4) {Q E : Value → Shared → Prop}
    (hTab : TabOk ps s.heap [59, p, q, self, sd]) (hQ : ∀ h' tk' d' P' W' oP' oW' ps' rt', DictI w oP' P' → DictI w oW' W' → UnR ks rt os rt' → Fo (addAll ks rt os).1 rt' (D + 1) P' W' → TabOk ps' h' [59, p, q, self, sd] →
      (∀ x ∈ (59, tabObj ps') :: ufL w self sd p q t1 t2 n oP' oW', h'.get? x.1 = some x.2) → Ext ([59, p, q, self, sd] ++ if os = [] then outer.filterMap (·.frame) else []) s.heap h' → (∀ b ∈ outer.filterMap (·.frame), ∀ o, s.heap.get? b = some o → ∃ sl, h'.get? b = some { o with slots := sl }) → Q .none { s with heap := h', toks := tk', drawn := d' }) :
    wpAny (model pr w) A (call (.ref 62) (.ref self :: vs)) Q E s := by
  refine callV (f := 62) (tup := { cls := .type "tuple", data := .seq vs.toArray }) (g₁ := fun D => some [(Str.ofString "self", .ref self), (Str.ofString "objects", .ref D)]) (binds := fun D => [(Str.ofString "self", .ref self), (Str.ofString "objects", .ref D)]) G c _ hmu hB hf (by k_is) (by k_is) (by omega) ?hp (fun _ => rfl) rfl (fun _ => rfl) (by decide +kernel) ?_ rfl rfl rfl
  case hp =>
    rcases hi with _ | ⟨a, t, _ | ⟨b, u, _ | ⟨d, v, _ | ⟨e, y, _ | ⟨f, z, r⟩⟩⟩⟩⟩
    · with_unfolding_all rfl
    · with_unfolding_all rfl
    · with_unfolding_all rfl
    · with_unfolding_all rfl
    · with_unfolding_all rfl
    · simp at hos
  intro g' L' h' tk' cells' T F' N' Y' B' G' X' hlt hT
  have hh := c.hh
  have fr := c.fr
  obtain ⟨KX', T'⟩ := G'
  have frB : ∀ b ∈ outer.filterMap (·.frame), B.get? b = none := fun b hb => (c.ff.mem hb).1
  have frO : ∀ b ∈ outer.filterMap (·.frame), ∃ o, s.heap.get? b = some o ∧ ∀ vs, o.data ≠ .fields vs := fun b hb => (c.ff.mem hb).2
  clear c
  k_cells Y'
  change wpAny _ _ _ _ _ _
  k_steps
  rename_i o1 d1
  replace d1 : o1.data = .cell (some (.ref self)) := d1
  refine Stop.out ?_
  rename Fr _ _ _ _ => F2
  rename News _ _ _ _ => N2
  have hl4 : @LT.lt Nat _ p (L' + 1) ∧ @LT.lt Nat _ q (L' + 1) ∧ @LT.lt Nat _ self (L' + 1) ∧ @LT.lt Nat _ sd (L' + 1) := (ufAll (Pr := fun y => @LT.lt Nat _ y (L' + 1))).mp fun x hx => Nat.lt_succ_of_lt (hlt x (.tail _ hx))
  have hlL4 : @LT.lt Nat _ p L' ∧ @LT.lt Nat _ q L' ∧ @LT.lt Nat _ self L' ∧ @LT.lt Nat _ sd L' := (ufAll (Pr := fun y => @LT.lt Nat _ y L')).mp fun x hx => hlt x (.tail _ hx)
  have hB4 := (ufAll (Pr := fun y => B.get? y = none)).mp fun x hx => hB x (.tail _ hx)
  have hf4 : ∀ en ∈ outer, _ := fun en he => (ufAll (Pr := fun y => en.frame ≠ some y)).mp fun x hx => hf en he x (.tail _ hx)
  have h59L : @LT.lt Nat _ 59 L' := hlt _ (.head _)
  have hnd59 : ∀ (oP' oW' : Obj), ∀ y ∈ (L' + 1, o1) :: ufL w self sd p q t1 t2 n oP' oW', y.1 ≠ 59 := fun oP' oW' y hy => by
    rcases List.mem_cons.mp hy with rfl | hy
    · exact Nat.ne_of_gt (Nat.lt_succ_of_lt h59L)
    · exact (ufAll (Pr := fun y => y ≠ 59)).mpr h59 y hy
  have hgn : ∀ x ∈ (59, tabObj ps) :: ufL w self sd p q t1 t2 n oP oW, g'.get? x.1 = none := fun x hx => (N2 x (.tail _ hx)).2.2
  have hfm : ∀ b ∈ outer.filterMap (·.frame), b ∉ ((59, tabObj ps) :: ufL w self sd p q t1 t2 n oP oW).map (·.1) := fun b hb hm => by
    obtain ⟨en, hen, e⟩ := List.mem_filterMap.mp hb
    obtain ⟨x, hx, e2⟩ := List.mem_map.mp hm
    exact hf en hen x hx (by rw [e, e2])
  refine SC_L (L := L') ((L' + 1, o1) :: ufL w self sd p q t1 t2 n oP oW) [(59, tabObj ps)] T vs.toArray [(Str.ofString "self", L' + 1)]
    (fun D' i nx => ∃ oS ms P' W' oP' oW', nx = (D', oS) :: (L' + 1, o1) :: ufL w self sd p q t1 t2 n oP' oW' ∧ L' + 1 < D' ∧ SetI pr w oS ms ∧ ms.length ≤ i ∧ DictI w oP' P' ∧ DictI w oW' W' ∧ Fo (addAll ks rt (os.take i)).1 (addAll ks rt (os.take i)).2 D P' W' ∧ (∀ r, r ∈ ms ↔ ∃ o ∈ os.take i, (addAll ks rt (os.take i)).2 o = r))
    hh F2 (fun p hp => N2 p ?_) ?_ ⟨_, F2.keep _ _ hT, rfl, _, rfl⟩ ?_ ?_ ?_ ?_ ?_ (by with_unfolding_all rfl) (by decide) rfl (by decide) rfl
  · rcases List.mem_append.mp hp with hp | hp
    · rcases List.mem_cons.mp hp with rfl | hp
      · exact .head _
      · exact .tail _ (.tail _ hp)
    · rw [List.mem_singleton.mp hp]; exact .tail _ (.head _)
  · intro x hx hm
    rw [List.mem_singleton.mp hx] at hm
    obtain ⟨y, hy, e⟩ := List.mem_map.mp hm
    exact hnd59 _ _ y hy e
  · intro hm
    obtain ⟨y, hy, e⟩ := List.mem_map.mp hm
    have := (N2 y (by rcases List.mem_cons.mp hy with rfl | hy; exact .head _; exact .tail _ (.tail _ hy))).2.2
    rw [e, hT] at this; cases this
  · intro Q' hQ'
    k_steps
    exact hQ'
  · intro D' oS hS hlD
    refine ⟨oS, [], P, W, oP, oW, rfl, ?_, hS, Nat.le_refl _, hP, hW, fo, fun r => by simp⟩
    exact Nat.lt_trans (Heap.lt_size (N2 _ (.head _)).1) hlD
  · rintro g C D' BB hDg i v m₂ nx own h tk hv ⟨oS, ms, P', W', oP', oW', rfl, hlD, hS, hml, hP', hW', fo', hmem⟩ hoff F N
    obtain ⟨a, ta, rfl, hsa⟩ : ∃ a ta, v = .int a ta ∧ os[i]? = some a := by
      have hv' : vs[i]? = some v := by simpa using hv
      have hj : i < os.length := by rw [← hi.length]; exact (List.getElem?_eq_some_iff.mp hv').1
      obtain ⟨t, e⟩ := hi.get i (os[i]'hj) (List.getElem?_eq_getElem hj)
      rw [hv'] at e
      exact ⟨_, t, Option.some.inj e, List.getElem?_eq_getElem hj⟩
    have hi4 : i < 4 := by
      have := (List.getElem?_eq_some_iff.mp hsa).1
      omega
    have Tg := T'.keeps BB.st
    have KXg := KX'.keeps BB.st
    dsimp only [List.cons_append, List.nil_append] at N
    have hown : ∀ x ∈ own, x.1 ≠ D' ∧ x.1 ≠ L' + 1 ∧ x.1 ≠ p ∧ x.1 ≠ q ∧ x.1 ≠ self ∧ x.1 ≠ sd := fun x hx =>
      ⟨hoff x hx _ (.head _), hoff x hx _ (.tail _ (.head _)), hoff x hx _ (.tail _ (.tail _ (.head _))), hoff x hx _ (.tail _ (.tail _ (.tail _ (.head _)))), hoff x hx _ (.tail _ (.tail _ (.tail _ (.tail _ (.head _))))), hoff x hx _ (.tail _ (.tail _ (.tail _ (.tail _ (.tail _ (.head _))))))⟩
    have Nu : News g C h (ufL w self sd p q t1 t2 n oP' oW' ++ ((D', oS) :: (L' + 1, o1) :: own)) := fun x hx => N x (by
      rcases List.mem_append.mp hx with hx | hx
      · rcases hx with _ | ⟨_, _ | ⟨_, _ | ⟨_, _ | ⟨_, hx⟩⟩⟩⟩
        · exact .tail _ (.tail _ (.head _))
        · exact .tail _ (.tail _ (.tail _ (.head _)))
        · exact .tail _ (.tail _ (.tail _ (.tail _ (.head _))))
        · exact .tail _ (.tail _ (.tail _ (.tail _ (.tail _ (.head _)))))
        · cases hx
      · rcases hx with _ | ⟨_, _ | ⟨_, hx⟩⟩
        · exact .head _
        · exact .tail _ (.head _)
        · exact .tail _ (.tail _ (.tail _ (.tail _ (.tail _ (.tail _ hx))))))
    have hlD1 : D' ≠ p ∧ D' ≠ q ∧ D' ≠ self ∧ D' ≠ sd := ⟨Nat.ne_of_gt (Nat.lt_trans hl4.1 hlD), Nat.ne_of_gt (Nat.lt_trans hl4.2.1 hlD), Nat.ne_of_gt (Nat.lt_trans hl4.2.2.1 hlD), Nat.ne_of_gt (Nat.lt_trans hl4.2.2.2 hlD)⟩
    have hre : ∀ x ∈ (D', oS) :: (L' + 1, o1) :: own, x.1 ∉ (ufL w self sd p q t1 t2 n oP' oW').map (·.1) := fun x hx hm => by
      have key : x.1 ≠ p ∧ x.1 ≠ q ∧ x.1 ≠ self ∧ x.1 ≠ sd := by
        rcases hx with _ | ⟨_, _ | ⟨_, hx⟩⟩
        · exact hlD1
        · exact ⟨Nat.ne_of_gt hl4.1, Nat.ne_of_gt hl4.2.1, Nat.ne_of_gt hl4.2.2.1, Nat.ne_of_gt hl4.2.2.2⟩
        · exact (hown x hx).2.2
      rcases hm with _ | ⟨_, _ | ⟨_, _ | ⟨_, _ | ⟨_, hm⟩⟩⟩⟩
      · exact key.1 rfl
      · exact key.2.1 rfl
      · exact key.2.2.1 rfl
      · exact key.2.2.2 rfl
      · cases hm
    have hlen : (addAll ks rt (os.take i)).1.length ≤ 100 := by
      have := addAll_len (os.take i) ks rt
      rw [List.length_take] at this
      omega
    have FL : Fr g' L' h _ := BB.fr.kept F.keep
    k_steps
    refine Stop.out ?_
    refine getitem_spec (A := (A.deeper _).in1) (outer := _ :: outer) (s := { s with heap := h, toks := tk }) (P := P') (W := W') G (Cx.inner B' FL (Around.frames_deeper fr) (by rfl) (by rfl) hh) (by show A.depth + 1 < recursionLimit; omega) hP' hW' (fun x hx => (Nu x (List.mem_append_left _ hx)).1) ((ufAll (Pr := fun y => B.get? y = none)).mpr hB4) ?_ hp0 hq0 hpq hps hpd hqs hqd hsd fo' hlen (by omega) ?_
    · intro en he x hx e
      rcases List.mem_cons.mp he with rfl | he
      · exact (Nat.ne_of_lt ((ufAll (Pr := fun y => @LT.lt Nat _ y L')).mpr hlL4 x hx)) (Option.some.inj e).symm
      · exact (ufAll (Pr := fun y => en.frame ≠ some y)).mpr (hf4 en he) x hx e
    intro t8 h8 tk8 P8 W8 oP8 oW8 hP8 hW8 fo8 hled e8
    obtain ⟨F8, N8⟩ := after (mu' := ufL w self sd p q t1 t2 n oP8 oW8) F Nu hre e8 (fun x hx => ⟨hled x hx, .inl ((ufAll (Pr := fun y => y ∈ (ufL w self sd p q t1 t2 n oP' oW').map (·.1))).mpr ⟨.head _, .tail _ (.head _), .tail _ (.tail _ (.head _)), .tail _ (.tail _ (.tail _ (.head _)))⟩ x hx)⟩)
    change wpAny _ _ _ _ _ _
    refine callAdd_I (N8 (D', oS) (List.mem_append_right _ (.head _))).1 hS (by omega) ?_
    intro h9 oS9 ms9 tk9 sb9 hg9 hS9 hp9
    have nD := N8 (D', oS) (List.mem_append_right _ (.head _))
    have F9 : Fr g C h9 _ := F8.change sb9 nD.2.1 nD.2.2
    have offD : ∀ x ∈ (L' + 1, o1) :: ufL w self sd p q t1 t2 n oP8 oW8, x.1 ≠ D' := fun x hx => by
      rcases List.mem_cons.mp hx with rfl | hx
      · exact Nat.ne_of_lt hlD
      · exact (ufAll (Pr := fun y => y ≠ D')).mpr ⟨Ne.symm hlD1.1, Ne.symm hlD1.2.1, Ne.symm hlD1.2.2.1, Ne.symm hlD1.2.2.2⟩ x hx
    have N9 : News g C h9 ((D', oS9) :: (L' + 1, o1) :: ufL w self sd p q t1 t2 n oP8 oW8 ++ own) := fun x hx => by
      rcases List.mem_append.mp hx with hx | hx
      · rcases List.mem_cons.mp hx with rfl | hx
        · exact ⟨hg9, nD.2⟩
        · have n8 := N8 x (by
            rcases List.mem_cons.mp hx with rfl | hx
            · exact List.mem_append_right _ (.tail _ (.head _))
            · exact List.mem_append_left _ hx)
          exact ⟨(sb9.2 _ (offD x hx)).trans n8.1, n8.2⟩
      · have n8 := N8 x (List.mem_append_right _ (.tail _ (.tail _ hx)))
        exact ⟨(sb9.2 _ (hown x hx).1).trans n8.1, n8.2⟩
    have etk : os.take (i + 1) = os.take i ++ [a] := by rw [List.take_add_one, hsa]; rfl
    refine InvEndG.intro (nx := (D', oS9) :: (L' + 1, o1) :: ufL w self sd p q t1 t2 n oP8 oW8) F9 N9 ⟨oS9, ms9, P8, W8, oP8, oW8, rfl, hlD, hS9, ?_, hP8, hW8, ?_, ?_⟩ ?_ (fun x hx => List.mem_append_left _ hx) (fun x hx => List.mem_append_right _ hx)
    · rw [hp9.length_eq]; split
      · omega
      · rw [List.length_append, List.length_singleton]; omega
    · rw [etk, addAll_snoc]; exact fo8
    · intro r
      rw [hp9.mem_iff, etk, addAll_snoc]
      have hstep : r ∈ (if addR (addAll ks rt (os.take i)).1 (addAll ks rt (os.take i)).2 a a ∈ ms then ms else ms ++ [addR (addAll ks rt (os.take i)).1 (addAll ks rt (os.take i)).2 a a]) ↔ r ∈ ms ∨ r = addR (addAll ks rt (os.take i)).1 (addAll ks rt (os.take i)).2 a a := by
        split
        · rename_i hin; exact ⟨.inl, fun e => e.elim id fun e => by rw [e]; exact hin⟩
        · rw [List.mem_append, List.mem_singleton]
      rw [hstep, hmem]
      constructor
      · rintro (⟨o, ho, e⟩ | e)
        · exact ⟨o, List.mem_append_left _ ho, by dsimp only; rw [addR_old ((addAll_mem _ _ _ _).mpr (.inr ho))]; exact e⟩
        · exact ⟨a, List.mem_append_right _ (.head _), e.symm⟩
      · rintro ⟨o, ho, e⟩
        rcases List.mem_append.mp ho with ho | ho
        · exact .inl ⟨o, ho, by dsimp only at e; rw [addR_old ((addAll_mem _ _ _ _).mpr (.inr ho))] at e; exact e⟩
        · rw [List.mem_singleton.mp ho] at e; dsimp only at e; exact .inr e.symm
    · intro x hx b hb
      obtain ⟨y, hy, rfl⟩ := List.mem_map.mp hb
      have k := hown x hx
      rcases List.mem_cons.mp hy with rfl | hy
      · exact k.1
      · rcases List.mem_cons.mp hy with rfl | hy
        · exact k.2.1
        · exact (ufAll (Pr := fun y => x.1 ≠ y)).mpr k.2.2 y hy
  · rintro D' nx h7 tk7 ⟨oS, ms, P', W', oP', oW', rfl, hlD, hS, hml, hP', hW', fo', hmem⟩ e7 F7 N7 hlt7
    have etk : os.take vs.toArray.size = os := List.take_of_length_le (by simp [hi.length])
    rw [etk] at fo' hmem
    clear F2 N2
    dsimp only [List.cons_append, List.nil_append] at N7
    k_steps
    refine Stop.out ?_
    refine kla_eval rfl ?_
    rename Fr _ _ _ _ => F8
    rename News _ _ _ _ => N8
    have n59 : ∀ x ∈ [(D', oS), (L' + 1, o1), (p, oP'), (q, oW'), (self, instObj 65 sd), (sd, sdObj w p q t1 t2 n)], x.1 ≠ 59 := fun x hx => by
      rcases List.mem_cons.mp hx with rfl | hx
      · exact Nat.ne_of_gt (Nat.lt_trans (Nat.lt_succ_of_lt (hlt _ (.head _))) hlD)
      · exact hnd59 oP' oW' x hx
    have Np : News g' L' h7 ((59, tabObj ps) :: [(D', oS), (L' + 1, o1), (p, oP'), (q, oW'), (self, instObj 65 sd), (sd, sdObj w p q t1 t2 n)]) := fun x hx => N8 x (by
      rcases List.mem_cons.mp hx with rfl | hx
      · exact .tail _ (.tail _ (.tail _ (.tail _ (.tail _ (.tail _ (.head _))))))
      · exact List.mem_append_left [_] hx)
    have hCg : CodeHd g' 61 59 := hC.keeps B'.stays
    refine lam_both F8 Np n59 T' hCg rfl rfl ?_ ?_
    · rcases hTab with e | ⟨c', oc, vs', t', e, hcl, e1, e2, e3⟩
      · exact .inl e
      · exact .inr ⟨c', oc, vs', t', e, X' _ _ (fun hm => by
          rcases hm with _ | ⟨_, hm⟩
          · exact hcl (.head _)
          · exact hcl (.tail _ hm)) e1, e2, e3⟩
    intro f c' ctv nx oc vs' t' h9 tk9 F9 N9 hlf hnx hoc hvs
    clear F8 Np N8
    change wpAny _ _ _ _ _ _
    k_steps
    refine Stop.out ?_
    rename Fr _ _ _ _ => Fa
    rename News _ _ _ _ => Na
    have hrec : ∀ h : Heap, g'.StaysIn h → (∀ x ∈ nx, h.get? x.1 = some x.2) → h.CodeRec (.ref c') (Str.ofString "UnionFind.union" ++ ".<locals>." ++ "<lambda>") := fun h st hx => by
      rcases hnx with ⟨_, e⟩ | ⟨rfl, _⟩
      · exact ⟨c', oc, vs', t', rfl, st _ _ e, hoc, hvs⟩
      · exact ⟨c', oc, vs', t', rfl, hx _ (.head _), hoc, hvs⟩
    refine sorted_setK (kw := [(Str.ofString "key", .ref f), (Str.ofString "reverse", .bool true)]) (b := true) (fun r => kdfLook W' r 0) Fa Na (.tail _ (List.mem_append_right _ (.tail _ (.head _)))) hS (by have e := hi.length; have := hml; rw [List.size_toArray] at this; omega) hh (ksk_s2 _ _ _) (fun _ => ksk_l2 _ _ _) (fun _ => ksk_t2 _ _ _) ?_ ?_
    · intro r tr d h tk own hr Fb Nb
      refine wpAny_call (kla_code B' Fb KX' Nb T' (Around.frames_deeper fr) rfl rfl (.head _) (hrec h Fb.keep fun x hx => (Nb x (.tail _ (List.mem_append_left _ (List.mem_append_left _ hx)))).1) (by show A.depth + 1 < recursionLimit; omega) rfl (locs rfl) ?_ rfl rfl rfl (by decide))
      intro g2 L2 h2 FG2 F2 N2 B2 X2 T2
      have hold : Stop (News g2 L2 h2 _) := N2
      have N3 : News g2 L2 h2 [(L' + 1, o1), (p, oP'), (q, oW'), (self, instObj 65 sd), (sd, sdObj w p q t1 t2 n)] := fun x hx => N2 x (.tail _ (List.mem_append_left _ (List.mem_append_right _ (.tail _ (.tail _ hx)))))
      have hrk : kdfHas W' r = true := by
        obtain ⟨o, ho, e⟩ := (hmem r).mp hr
        have ho2 : o ∈ (addAll ks rt os).1 := (addAll_mem _ _ _ _).mpr (.inr ho)
        rw [← e]
        exact fo'.wts _ (fo'.root ho2).1
      obtain ⟨kW, hW1, hW2⟩ := id hW'
      have hWl : W'.length ≤ 100 := by
        have := fo'.wlen
        have := addAll_len os ks rt
        omega
      clear N2
      change wpAny _ _ _ _ _ _
      k_steps
      refine Stop.out ?_
      rename Fr _ _ _ _ => Fc
      exact leaveK_ Fc hold fun Fz Nz => KskEnd.intro Fz Nz fun _ hp => hp
    · intro D2 vs2 c2 ns2 h10 tk10 d10 F10 N10 l10 hi10 hp10
      clear Fa Na
      change wpAny _ _ _ _ _ _
      k_steps
      refine Stop.out ?_
      have hil : h10.IsList D2 vs2.toArray := isList_of N10 (.head _)
      refine iter_list hil ?_
      have hnxo : OwnOff nx [L' + 1, p, q, self, sd, 59] := by
        intro x hx b hb
        rcases hnx with ⟨rfl, _⟩ | ⟨rfl, hlc⟩
        · cases hx
        · rw [List.mem_singleton.mp hx]
          have hc1 := hlc (L' + 1, o1) (.tail _ (.head _))
          have hc2 : @LT.lt Nat _ L' c' := Nat.lt_trans (Nat.lt_succ_self _) hc1
          rcases hb with _ | ⟨_, _ | ⟨_, _ | ⟨_, _ | ⟨_, _ | ⟨_, _ | ⟨_, hb⟩⟩⟩⟩⟩⟩
          · exact Nat.ne_of_gt hc1
          · exact Nat.ne_of_gt (Nat.lt_trans hlL4.1 hc2)
          · exact Nat.ne_of_gt (Nat.lt_trans hlL4.2.1 hc2)
          · exact Nat.ne_of_gt (Nat.lt_trans hlL4.2.2.1 hc2)
          · exact Nat.ne_of_gt (Nat.lt_trans hlL4.2.2.2 hc2)
          · exact Nat.ne_of_gt (Nat.lt_trans h59L hc2)
          · cases hb
      have hltN : ∀ x ∈ nx, @LT.lt Nat _ x.1 D2 := fun x hx => l10 x (.tail _ (List.mem_append_left _ hx))
      have hlt6 : ∀ (oa ob : Obj), ∀ x ∈ [(L' + 1, o1), (p, oa), (q, ob), (self, instObj 65 sd), (sd, sdObj w p q t1 t2 n), (59, tabObj #[rawInt 43, rawInt 60, .ref c'])], @LT.lt Nat _ x.1 D2 := fun oa ob x hx => by
        have k : ∀ y ∈ [(D', oS), (L' + 1, o1), (p, oP'), (q, oW'), (self, instObj 65 sd), (sd, sdObj w p q t1 t2 n)], @LT.lt Nat _ y.1 D2 := fun y hy => l10 y (.tail _ (List.mem_append_right _ (.tail _ hy)))
        have k59 : @LT.lt Nat _ 59 D2 := l10 (59, _) (.tail _ (List.mem_append_right _ (.head _)))
        rcases hx with _ | ⟨_, _ | ⟨_, _ | ⟨_, _ | ⟨_, _ | ⟨_, _ | ⟨_, hx⟩⟩⟩⟩⟩⟩
        · exact k (L' + 1, o1) (.tail _ (.head _))
        · exact k (p, oP') (.tail _ (.tail _ (.head _)))
        · exact k (q, oW') (.tail _ (.tail _ (.tail _ (.head _))))
        · exact k (self, instObj 65 sd) (.tail _ (.tail _ (.tail _ (.tail _ (.head _)))))
        · exact k (sd, sdObj w p q t1 t2 n) (.tail _ (.tail _ (.tail _ (.tail _ (.tail _ (.head _))))))
        · exact k59
        · cases hx
      have hcl5 : c' ∉ [59, p, q, self, sd] := fun hm => by
        rcases hnx with ⟨_, e⟩ | ⟨rfl, _⟩
        · have k : ∀ x ∈ (59, tabObj ps) :: ufL w self sd p q t1 t2 n oP oW, g'.get? x.1 = none := hgn
          rcases hm with _ | ⟨_, hm⟩
          · have := k _ (.head _); dsimp only at this; rw [this] at e; cases e
          · have := (ufAll (Pr := fun y => g'.get? y = none)).mp fun x hx => k x (.tail _ hx)
            rcases hm with _ | ⟨_, _ | ⟨_, _ | ⟨_, _ | ⟨_, hm⟩⟩⟩⟩
            · rw [this.1] at e; cases e
            · rw [this.2.1] at e; cases e
            · rw [this.2.2.1] at e; cases e
            · rw [this.2.2.2] at e; cases e
            · cases hm
        · have k := hnxo (c', oc) (.head _)
          rcases hm with _ | ⟨_, hm⟩
          · exact k 59 (.tail _ (.tail _ (.tail _ (.tail _ (.tail _ (.head _)))))) rfl
          · rcases hm with _ | ⟨_, _ | ⟨_, _ | ⟨_, _ | ⟨_, hm⟩⟩⟩⟩
            · exact k _ (.tail _ (.head _)) rfl
            · exact k _ (.tail _ (.tail _ (.head _))) rfl
            · exact k _ (.tail _ (.tail _ (.tail _ (.head _)))) rfl
            · exact k _ (.tail _ (.tail _ (.tail _ (.tail _ (.head _))))) rfl
            · cases hm
      have hltI : @LT.lt Nat _ D2 h10.objs.size := Heap.lt_size (N10 _ (.head _)).1
      have hltL : ∀ (oa ob : Obj), ∀ x ∈ (L' + 1, o1) :: (p, oa) :: (q, ob) :: (self, instObj 65 sd) :: (sd, sdObj w p q t1 t2 n) :: (59, tabObj #[rawInt 43, rawInt 60, .ref c']) :: nx, @LT.lt Nat _ x.1 D2 := fun oa ob x hx => by
        rcases List.mem_append.mp (show x ∈ [(L' + 1, o1), (p, oa), (q, ob), (self, instObj 65 sd), (sd, sdObj w p q t1 t2 n), (59, tabObj #[rawInt 43, rawInt 60, .ref c'])] ++ nx from hx) with hx | hx
        · exact hlt6 oa ob x hx
        · exact hltN x hx
      have Nb : News g' L' (h10.push { cls := .type "list_iterator", data := .fields #[.ref D2, .int 0 0] }) ((h10.objs.size, { cls := .type "list_iterator", data := .fields #[.ref D2, .int 0 0] }) :: (D2, PySem.W.listOf vs2.toArray c2) :: (L' + 1, o1) :: (p, oP') :: (q, oW') :: (self, instObj 65 sd) :: (sd, sdObj w p q t1 t2 n) :: (59, tabObj #[rawInt 43, rawInt 60, .ref c']) :: nx) := News.push F10 (fun x hx => N10 x (by
        rcases List.mem_cons.mp hx with rfl | hx
        · exact .head _
        · refine .tail _ (.tail _ ?_)
          rcases List.mem_append.mp (show x ∈ [(L' + 1, o1), (p, oP'), (q, oW'), (self, instObj 65 sd), (sd, sdObj w p q t1 t2 n), (59, tabObj #[rawInt 43, rawInt 60, .ref c'])] ++ nx from hx) with hx | hx
          · refine List.mem_append_right _ ?_
            rcases hx with _ | ⟨_, _ | ⟨_, _ | ⟨_, _ | ⟨_, _ | ⟨_, _ | ⟨_, hx⟩⟩⟩⟩⟩⟩
            · exact .tail _ (.tail _ (.head _))
            · exact .tail _ (.tail _ (.tail _ (.head _)))
            · exact .tail _ (.tail _ (.tail _ (.tail _ (.head _))))
            · exact .tail _ (.tail _ (.tail _ (.tail _ (.tail _ (.head _)))))
            · exact .tail _ (.tail _ (.tail _ (.tail _ (.tail _ (.tail _ (.head _))))))
            · exact .head _
            · cases hx
          · exact List.mem_append_left _ hx)) _ rfl
      have Fb : Fr g' L' (h10.push { cls := .type "list_iterator", data := .fields #[.ref D2, .int 0 0] }) _ := F10.push _
      clear N10 F10
      k_steps
      refine wpAny_Try_except ?_
      rename Fr _ _ _ _ => Fc
      rename News _ _ _ _ => Nc
      cases vs2 with
      | nil =>
        cases hi10
        k_steps
        refine Stop.out ?_
        rename Fr _ _ _ _ => Fd
        rename News _ _ _ _ => Nd
        refine next_list (it := h10.objs.size) (l := D2) (i := 0) ⟨_, (Nd _ (.head _)).1, rfl, rfl⟩ (isList_of Nd (.tail _ (.head _))) (fun x _ hx => by simp at hx) fun _ => ⟨hh, ?_⟩
        intro h₁ ex h11 hs₁ st11
        obtain ⟨fs, hex, hf1, -⟩ := st11.made
        obtain ⟨hs11, hen⟩ := st11.after hs₁
        have nI := Nd _ (.head _)
        have hgI : ∀ b o, g'.get? b = some o → b ≠ h10.objs.size := fun b o e q => by rw [q, nI.2.2] at e; cases e
        have Fe : Fr g' L' h11 _ := ⟨Fd.ns.at' fun o e => hs11 _ o (Ne.symm nI.2.1) e, fun b o e => hs11 b o (hgI b o e) (Fd.keep b o e), Fd.above⟩
        have hgn2 : g'.get? ex = none := by
          cases e : g'.get? ex with
          | none => rfl
          | some o => rw [Fd.keep _ _ e] at hen; cases hen
        have hLex : L' ≠ ex := fun e => by
          obtain ⟨o, _, _, ho, _⟩ := Fd.ns
          rw [e, hen] at ho; cases ho
        refine note_first (base := B) (Around.frames_deeper fr) ?hl rfl hex rfl hf1 ?_
        case hl => exact (Cx.inner (s' := { s with heap := h11 }) (A' := A.deeper _) B' Fe (Around.frames_deeper fr) rfl rfl hh).ff
        intro h12 oe12 vs12 T12 oT12 ts12 k1 k2 he12 hc12 hd12 h112 hTe12 hTn12 hT12 hdT12 hsz12
        have BS : B.StaysIn (hideAll g' (outer.filterMap (·.frame))) := fun b o e => hideAll_get _ (B'.stays b o e) fun hm => by rw [frB b hm] at e; cases e
        have KX3 := G.X.keeps BS
        have T3 := G.T.keeps BS
        have hgL : g'.get? L' = none := Heap.get?_none_of_le Fd.above
        have keep3 : ∀ b o, g'.get? b = some o → b ∉ outer.filterMap (·.frame) → h12.get? b = some o := fun b o e hb =>
          k1 b o (fun q => by rw [q, hgn2] at e; cases e) (fun hm => by
            rw [List.filterMap_cons] at hm
            rcases List.mem_cons.mp hm with q | hm
            · rw [q, hgL] at e; cases e
            · exact hb hm) (Fe.keep b o e)
        have F3ns : h12.Ns L' _ := (let ⟨o, es, ep, ho, hdd, r⟩ := Fe.ns; let ⟨sl, hs⟩ := k2 L' o hLex ho; ⟨_, es, ep, hs, hdd, r⟩)
        have F3 : Fr (hideAll g' (outer.filterMap (·.frame))) L' h12 _ := ⟨F3ns, fun b o e => keep3 b o (of_hideAll _ e) fun hm => (by rw [hideAll_none _ hm] at e; cases e), (by rw [hideAll_size]; exact Fd.above)⟩
        have hgk : ∀ b o, g'.get? b = some o → h11.get? b = some o := Fe.keep
        have hcD : _ = some oc := (show _ from by
          rcases hnx with ⟨_, e⟩ | ⟨rfl, _⟩
          · exact Fd.keep _ _ e
          · exact (Nd (c', oc) (List.mem_append_right [_, _, _, _, _, _, _, _] (.head _))).1)
        have hcI : c' ≠ h10.objs.size := by
          rcases hnx with ⟨_, e⟩ | ⟨rfl, _⟩
          · exact hgI _ _ e
          · exact Nat.ne_of_lt (Nat.lt_trans (hltN (c', oc) (.head _)) hltI)
        have hc11 : h11.get? c' = some oc := hs11 c' oc hcI hcD
        have hcL : c' ≠ L' := fun q => by
          obtain ⟨o, es, ep, ho, hdd, _⟩ := Fe.ns
          rw [← q, hc11] at ho
          cases ho
          rw [hoc] at hdd; cases hdd
        have hcF : c' ∉ outer.filterMap (·.frame) := fun hm => by
          obtain ⟨o, ho, hnf⟩ := frO _ hm
          have e := hgk _ _ (X' _ _ (hfm _ hm) ho)
          rw [hc11] at e; cases e
          exact hnf _ hoc
        have hled11 : ∀ x ∈ (59, tabObj #[rawInt 43, rawInt 60, .ref c']) :: ufL w self sd p q t1 t2 n oP' oW', h11.get? x.1 = some x.2 ∧ x.1 ≠ L' ∧ x.1 ≠ ex ∧ x.1 ∉ outer.filterMap (·.frame) := fun x hx => by
          have hxN : x ∈ (L' + 1, o1) :: (p, oP') :: (q, oW') :: (self, instObj 65 sd) :: (sd, sdObj w p q t1 t2 n) :: (59, tabObj #[rawInt 43, rawInt 60, .ref c']) :: nx := by
            rcases List.mem_cons.mp hx with rfl | hx
            · exact .tail _ (.tail _ (.tail _ (.tail _ (.tail _ (.head _)))))
            · exact .tail _ (List.mem_append_left _ hx)
          have n := Nd x (.tail _ (.tail _ hxN))
          refine ⟨hs11 _ _ (Nat.ne_of_lt (Nat.lt_trans (hltL _ _ x hxN) hltI)) n.1, n.2.1, (fun q => by have := n.1; rw [q, hen] at this; cases this), fun hm => ?_⟩
          obtain ⟨en, hen', e⟩ := List.mem_filterMap.mp hm
          rcases List.mem_cons.mp hx with rfl | hx
          · exact hf en hen' _ (.head _) e
          · exact (ufAll (Pr := fun y => en.frame ≠ some y)).mpr (hf4 en hen') x hx e
        clear Fd Nd Fe
        refine wpAny_handleBy_builtin (X := "StopIteration") (T := "StopIteration") (b := true) (by rw [isSubtype_type]; kernel_rfl) (by kernel_rfl) isSubtype_stop ?_
        refine nameX_B F3 KX3 (topRead_of T3) (by k_is) (v := .type "StopIteration") (by decide +kernel) (by decide) ?_
        refine ⟨rfl, ⟨_, he12, hc12⟩, ?_⟩
        rw [if_pos rfl]
        refine wpAny_setFlight_none he12 hd12 h112 hT12 hdT12 hsz12 ?_
        have hT13 : ∀ b ob, b ≠ T12 → h12.get? b = some ob → (h12.update T12 (Obj.mapFields (·.setIfInBounds 3 Value.none))).get? b = some ob := fun b ob hb e => (Heap.get?_update_other _ _ (Ne.symm hb)).trans e
        generalize hh13 : h12.update T12 (Obj.mapFields (·.setIfInBounds 3 Value.none)) = h13 at hT13
        have nT : ∀ b ob, h11.get? b = some ob → b ≠ T12 := fun b ob e q => by rw [q, hTn12] at e; cases e
        have up13 : ∀ b ob, h11.get? b = some ob → b ≠ ex → b ≠ L' → b ∉ outer.filterMap (·.frame) → h13.get? b = some ob := fun b ob e n1 n2 n3 => hT13 b ob (nT b ob e) (k1 b ob n1 (fun hm => by
          rw [List.filterMap_cons] at hm
          rcases List.mem_cons.mp hm with q | hm
          · exact n2 q
          · exact n3 hm) e)
        have hos0 : os = [] := by
          cases os with
          | nil => rfl
          | cons o r =>
            exfalso
            have : (addAll ks rt (o :: r)).2 o ∈ ms := (hmem _).mpr ⟨o, .head _, rfl⟩
            exact absurd (hp10.mem_iff.mpr this) (by simp)
        subst hos0
        have fin := fun tkz => hQ h13 tkz d10 P' W' oP' oW' #[rawInt 43, rawInt 60, .ref c'] (lk (addAll ks rt []).2 0 []) hP' hW' ⟨0, [], fun r => by simp, fun h => absurd rfl h, rfl⟩
          ⟨fo'.keys, fun x hx => by
            obtain ⟨n, hn, u⟩ := fo'.up x hx
            exact ⟨n, Nat.le_succ_of_le hn, by unfold lk; simpa using u⟩, fo'.wts, fo'.wlen⟩
          (.inr ⟨c', oc, vs', t', rfl, hcl5, up13 c' oc hc11 (fun q => by rw [q] at hcD; rw [hcD] at hen; cases hen) hcL hcF, hoc, hvs⟩)
          (fun x hx => up13 x.1 x.2 (hled11 x hx).1 (fun q => (hled11 x hx).2.2.1 q) (hled11 x hx).2.1 (hled11 x hx).2.2.2)
          (fun b ob nb e => by
            have nb1 : b ∉ [59, p, q, self, sd] := fun h => nb (List.mem_append_left _ h)
            have nb2 : b ∉ outer.filterMap (·.frame) := fun h => nb (List.mem_append_right _ (by rw [if_pos rfl]; exact h))
            have e2 := X' b ob nb1 e
            exact hT13 b ob (fun q => by
              have := hTn12
              rw [← q, hgk b ob e2] at this; cases this) (keep3 b ob e2 nb2))
          (fun b hb ob e => by
            have e2 := X' b ob (hfm b hb) e
            have e3 := hgk b ob e2
            obtain ⟨sl, hs⟩ := k2 b ob (fun q => by rw [q, hgn2] at e2; cases e2) e3
            exact ⟨sl, hT13 b _ (nT b ob e3) hs⟩)
        exact wpAny_execs_cons (wpAny_Return_none (fin _))
      | cons v0 vr =>
        refine wpAny_mono (E := fun _ _ => False) ?_ (fun _ _ h => h) (fun _ _ h => h.elim)
        k_steps
        refine Stop.out ?_
        rename Fr _ _ _ _ => Fd
        rename News _ _ _ _ => Nd
        refine next_list (it := h10.objs.size) (l := D2) (i := 0) ⟨_, (Nd _ (.head _)).1, rfl, rfl⟩ (isList_of Nd (.tail _ (.head _))) ?_ (fun hx => by simp at hx)
        intro x11 h11 hx11 hit11 hs11
        cases hx11
        cases hi10 with
        | cons a0 ta0 hir =>
        rename_i nsr
        have nI := Nd _ (.head _)
        have Fe : Fr g' L' h11 _ := Fd.change hs11 nI.2.1 nI.2.2
        obtain ⟨oI, hoI, rI⟩ := hit11
        have hIo : ∀ x ∈ (D2, PySem.W.listOf (Value.int a0 ta0 :: vr).toArray c2) :: (L' + 1, o1) :: (p, oP') :: (q, oW') :: (self, instObj 65 sd) :: (sd, sdObj w p q t1 t2 n) :: (59, tabObj #[rawInt 43, rawInt 60, .ref c']) :: nx, x.1 ≠ h10.objs.size := fun x hx => by
          rcases List.mem_cons.mp hx with rfl | hx
          · exact Nat.ne_of_lt hltI
          · exact Nat.ne_of_lt (Nat.lt_trans (hltL _ _ x hx) hltI)
        have Ne : News g' L' h11 ((h10.objs.size, oI) :: (D2, PySem.W.listOf (Value.int a0 ta0 :: vr).toArray c2) :: (L' + 1, o1) :: (p, oP') :: (q, oW') :: (self, instObj 65 sd) :: (sd, sdObj w p q t1 t2 n) :: (59, tabObj #[rawInt 43, rawInt 60, .ref c']) :: nx) := fun x hx => by
          rcases List.mem_cons.mp hx with rfl | hx
          · exact ⟨hoI, nI.2⟩
          · exact ⟨(hs11.2 _ (hIo x hx)).trans (Nd x (.tail _ hx)).1, (Nd x (.tail _ hx)).2⟩
        clear Fd Nd nI
        change wpAny _ _ _ _ _ _
        k_steps
        refine Stop.out ?_
        rename Fr _ _ _ _ => Ff
        rename News _ _ _ _ => Nf
        have hms : ∀ r ∈ a0 :: nsr, r ∈ (addAll ks rt os).1 ∧ (addAll ks rt os).2 r = r := fun r hr => by
          obtain ⟨o, ho, e⟩ := (hmem r).mp (hp10.mem_iff.mp hr)
          have ho2 : o ∈ (addAll ks rt os).1 := (addAll_mem _ _ _ _).mpr (.inr ho)
          rw [← e]
          exact fo'.root ho2
        have nD2 := Nf (D2, PySem.W.listOf (Value.int a0 ta0 :: vr).toArray c2) (.tail _ (.head _))
        have nI := Nf _ (.head _)
        have hlen : (addAll ks rt os).1.length ≤ 100 := by
          have := addAll_len os ks rt
          omega
        refine iterI (I := h10.objs.size) (l := D2) (items := (Value.int a0 ta0 :: vr).toArray) (news := (L' + 1, o1) :: (p, oP') :: (q, oW') :: (self, instObj 65 sd) :: (sd, sdObj w p q t1 t2 n) :: (59, tabObj #[rawInt 43, rawInt 60, .ref c']) :: nx)
          (fun i m nx' => ∃ P'' W'' oP'' oW'', nx' = (L' + 1, o1) :: (p, oP'') :: (q, oW'') :: (self, instObj 65 sd) :: (sd, sdObj w p q t1 t2 n) :: (59, tabObj #[rawInt 43, rawInt 60, .ref c']) :: nx ∧ DictI w oP'' P'' ∧ DictI w oW'' W'' ∧ Lk (addAll ks rt os).1 (addAll ks rt os).2 a0 D (a0 :: nsr.take i) P'' W'' ∧ m (Str.ofString "root") = some (.int a0 ta0))
          hh ⟨oI, nI.1, rI⟩ (isList_of Nf (.tail _ (.head _))) (by simp) nI.2.2 (hIo _ (.head _)) nI.2.1 nD2.2.1 Ff (fun x hx => Nf x (.tail _ (.tail _ hx))) (fun x hx => ⟨Nat.ne_of_lt (Nat.lt_trans (hltL _ _ x hx) hltI), Nat.ne_of_lt (hltL _ _ x hx)⟩) ⟨P', W', oP', oW', rfl, hP', hW', Lk.start fo', rfl⟩ ?_ ?_
        · rintro i v m₁ nx' h12 tk12 own hv hoff ⟨P'', W'', oP'', oW'', rfl, ⟨kP, hP1, hP2⟩, ⟨kW, hW1, hW2⟩, lk, m1⟩ - F12 N12
          obtain ⟨r, tr, rfl, hsr⟩ : ∃ r tr, v = .int r tr ∧ nsr[i]? = some r := by
            have hv' : vr[i]? = some v := by simpa using hv
            have hj : i < nsr.length := by rw [← hir.length]; exact (List.getElem?_eq_some_iff.mp hv').1
            obtain ⟨t, e⟩ := hir.get i (nsr[i]'hj) (List.getElem?_eq_getElem hj)
            rw [hv'] at e
            exact ⟨_, t, Option.some.inj e, List.getElem?_eq_getElem hj⟩
          obtain ⟨hrk, hrr⟩ := hms r (.tail _ (List.mem_of_getElem? hsr))
          obtain ⟨h0k, h0r⟩ := hms a0 (.head _)
          have hPl : P''.length ≤ 100 := by have e := congrArg List.length lk.keys; rw [List.length_map] at e; omega
          have hWl : W''.length ≤ 100 := Nat.le_trans lk.wlen hlen
          have hWa := lk.wts a0 h0k
          have hWr := lk.wts r hrk
          have F13 := named F12 [(Str.ofString "root", .int a0 ta0), (Str.ofString "r", .int r tr)]
            (by intro p hp; rcases hp with _ | ⟨_, _ | ⟨_, hp⟩⟩ <;> first | assumption | rfl | cases hp)
          clear F12 Ff Nf
          simp only [List.map_cons, List.map_nil] at hoff
          dsimp only [List.cons_append, List.nil_append] at N12
          have hoff2 : OwnOff (nx ++ own) [L' + 1, p, q, self, sd, 59] := fun x hx b hb => by
            rcases List.mem_append.mp hx with hx | hx
            · exact hnxo x hx b hb
            · exact hoff x hx b (show b ∈ [L' + 1, p, q, self, sd, 59] ++ List.map (fun x : Addr × Obj => x.fst) nx from List.mem_append_left _ hb)
          obtain ⟨ow, how⟩ : ∃ ow, ow = nx ++ own := ⟨_, rfl⟩
          rw [← how] at N12 hoff2
          have z1 : @Ne Nat p (L' + 1) := Nat.ne_of_lt hl4.1
          have z2 : @Ne Nat q (L' + 1) := Nat.ne_of_lt hl4.2.1
          have z3 : @Ne Nat p 59 := h59.1
          have z4 : @Ne Nat q 59 := h59.2.1
          have hoffn : ∀ x ∈ own, ∀ b ∈ nx.map (·.1), x.1 ≠ b := fun x hx b hb => hoff x hx b (show b ∈ [L' + 1, p, q, self, sd, 59] ++ List.map (fun x : Addr × Obj => x.fst) nx from List.mem_append_right _ hb)
          clear hoff hnxo
          k_steps
          refine Stop.out ?_
          rename_i tq1 tq2 hq1 oq1 kq1 Fq1 Nq1 dq1 fq1 hq2 oq2 kq2 Fq2 Nq2 dq2 fq2
          refine InvEndG.intro (nx := (L' + 1, o1) :: (p, oq2) :: (q, oq1) :: (self, instObj 65 sd) :: (sd, sdObj w p q t1 t2 n) :: (59, tabObj #[rawInt 43, rawInt 60, .ref c']) :: nx) Fq2 Nq2 ⟨⟨_, _, oq2, oq1, rfl, ⟨_, dq2, fq2⟩, ⟨_, dq1, fq1⟩, ?_, rfl⟩, fun x hx => Nat.ne_of_lt (hltL _ _ x hx)⟩ ?_ ?_ ?_
          · have e : nsr.take (i + 1) = nsr.take i ++ [r] := by rw [List.take_add_one, hsr]; rfl
            rw [e]
            exact (lk.weights h0k).step h0k h0r hrk hrr
          · intro x hx b hb
            have k1 : ∀ b ∈ [L' + 1, p, q, self, sd, 59], x.1 ≠ b := hoff2 x (by rw [how]; exact List.mem_append_right _ hx)
            rcases List.mem_append.mp (show b ∈ [L' + 1, p, q, self, sd, 59] ++ List.map (fun x : Addr × Obj => x.fst) nx from hb) with hb | hb
            · exact k1 b hb
            · exact hoffn x hx b hb
          · intro x hx
            rcases List.mem_append.mp (show x ∈ [(L' + 1, o1), (p, oq2), (q, oq1), (self, instObj 65 sd), (sd, sdObj w p q t1 t2 n), (59, tabObj #[rawInt 43, rawInt 60, .ref c'])] ++ nx from hx) with hx | hx
            · exact List.mem_append_left _ hx
            · rw [how]
              exact List.mem_append_right [_, _, _, _, _, _] (List.mem_append_left _ hx)
          · intro x hx
            rw [how]
            exact List.mem_append_right [_, _, _, _, _, _] (List.mem_append_right _ hx)
        · rintro m₁ nx' h12 tk12 ⟨P'', W'', oP'', oW'', rfl, hP'', hW'', lk', m1⟩ F12 N12
          have etk2 : nsr.take ((Value.int a0 ta0 :: vr).toArray.size - 1) = nsr := List.take_of_length_le (by simp [hir.length])
          rw [etk2] at lk'
          have fin := fun tkz => hQ h12 tkz d10 P'' W'' oP'' oW'' #[rawInt 43, rawInt 60, .ref c'] _ hP'' hW'' ⟨a0, a0 :: nsr, fun r => by rw [hp10.mem_iff]; exact hmem r, fun _ => .head _, rfl⟩ lk'.fo
            (.inr ⟨c', oc, vs', t', rfl, hcl5, by
              rcases hnx with ⟨_, e⟩ | ⟨rfl, _⟩
              · exact F12.keep _ _ e
              · exact (N12 (c', oc) (List.mem_append_right [_, _, _, _, _, _] (.head _))).1, hoc, hvs⟩)
            (fun x hx => (N12 x (by
              rcases List.mem_cons.mp hx with rfl | hx
              · exact .tail _ (.tail _ (.tail _ (.tail _ (.tail _ (.head _)))))
              · exact .tail _ (List.mem_append_left _ hx))).1) ((X'.trans (Ext.of_stays F12.keep)).mono fun x hx => List.mem_append_left _ hx)
            (fun b hb o e => ⟨o.slots, X'.trans (Ext.of_stays F12.keep) b o (hfm b hb) e⟩)
          clear Ff Nf
          k_steps
          exact fin _
end
end Mine

end
theorem Mine.resetUY : True ∧ True := by
  first
  | (walk1; done)
  | exact ⟨trivial, trivial⟩
section
open PySem PySem.W PyProof.Rows PySem.Calls PySem.Spec PyProof.V
set_option maxRecDepth 100000
set_option maxHeartbeats 8000000
namespace Mine
theorem fillitVA : (PySem.Challenge.rw_bj0027_01 = PySem.Challenge.rw_bj0027_01 ∧ hd.heap_39 = hd.heap_39) := by k_fill; exact ⟨rfl, rfl⟩
local macro_rules | `(tactic| walk_at "call ref") => `(tactic| (k_here; refine Stop.intro ?_))

theorem dictI_data {w : World} {o : Obj} {P : List (Int × Int)} (h : DictI w o P) : ∀ its n, o.data ≠ .seq its n := fun its n e => by
  obtain ⟨kvs, ⟨es, ep, ⟨h1, h2, _⟩⟩, _⟩ := h
  rw [h2] at e; cases e
theorem uf_noseq {w : World} {self sd p q : Addr} {t1 t2 : Tok} {n : Nat} {oP oW : Obj} {P W : List (Int × Int)} {h : Heap} (hP : DictI w oP P) (hW : DictI w oW W)
    (hmu : ∀ x ∈ ufL w self sd p q t1 t2 n oP oW, h.get? x.1 = some x.2) : NoSeq h [p, q, self, sd] := fun b hb o ho its k e => by
  have a1 := hmu _ (.head _)
  have a2 := hmu _ (.tail _ (.head _))
  have a3 := hmu _ (.tail _ (.tail _ (.head _)))
  have a4 := hmu _ (.tail _ (.tail _ (.tail _ (.head _))))
  rcases hb with _ | ⟨_, _ | ⟨_, _ | ⟨_, _ | ⟨_, hb⟩⟩⟩⟩
  · dsimp only at a1; rw [a1] at ho; cases ho; exact dictI_data hP _ _ e
  · dsimp only at a2; rw [a2] at ho; cases ho; exact dictI_data hW _ _ e
  · dsimp only at a3; rw [a3] at ho; cases ho; cases e
  · dsimp only at a4; rw [a4] at ho; cases ho; cases e
  · cases hb
theorem uf_noseq2 {w : World} {self sd p q : Addr} {t1 t2 : Tok} {n : Nat} {oP oW : Obj} {P W : List (Int × Int)} {ps : Array Value} {h : Heap} (hP : DictI w oP P) (hW : DictI w oW W)
    (hmu : ∀ x ∈ (59, tabObj ps) :: ufL w self sd p q t1 t2 n oP oW, h.get? x.1 = some x.2) : NoSeq h [59, p, q, self, sd] := fun b hb o ho its k e => by
  rcases List.mem_cons.mp hb with rfl | hb
  · have a0 := hmu _ (.head _)
    dsimp only at a0; rw [a0] at ho; cases ho; cases e
  · exact uf_noseq hP hW (fun x hx => hmu x (.tail _ hx)) b hb o ho its k e

section
variable {w : World} {mean : ExcName → Option Value} {mg mb : Str → Option Value} {B : Heap} {A : Around} {outer : List Env} {s : Shared}
theorem law_union_spec (G : Gd w mean mg mb B) (c : Cx B A outer s) (hd : A.depth + 3 < recursionLimit) (hu : A.units + 210 < cLine) (hC : CodeHd B 61 59)
    {self sd p q : Addr} {t1 t2 : Tok} {n : Nat} {oP oW : Obj} {P W : List (Int × Int)} {ps : Array Value} (hP : DictI w oP P) (hW : DictI w oW W)
    (hmu : ∀ x ∈ (59, tabObj ps) :: ufL w self sd p q t1 t2 n oP oW, s.heap.get? x.1 = some x.2) (hB : ∀ x ∈ (59, tabObj ps) :: ufL w self sd p q t1 t2 n oP oW, B.get? x.1 = none)
    (hf : ∀ env ∈ outer, ∀ x ∈ (59, tabObj ps) :: ufL w self sd p q t1 t2 n oP oW, env.frame ≠ some x.1)
    (hp0 : (p == sysModules) = false) (hq0 : (q == sysModules) = false) (hpq : @Ne Nat p q) (hps : @Ne Nat p self) (hpd : @Ne Nat p sd) (hqs : @Ne Nat q self) (hqd : @Ne Nat q sd) (hsd : @Ne Nat self sd)
    (h59 : @Ne Nat p 59 ∧ @Ne Nat q 59 ∧ @Ne Nat self 59 ∧ @Ne Nat sd 59)
    {ks : List Int} {rt : Int → Int} {D : Nat} (fo : Fo ks rt D P W) (hkl : ks.length ≤ 90) (hD : D ≤ 900)
    {e : Addr} {os : List Int} (he : IntL s.heap e os) (hos : os.length ≤ 4) (hos0 : os ≠ []) (hTab : TabOk ps s.heap [59, p, q, self, sd]) {Q E : Value → Shared → Prop}
    (hQ : ∀ h' tk' d' P' W' oP' oW' ps' rt', DictI w oP' P' → DictI w oW' W' → UnR ks rt os rt' → Fo (addAll ks rt os).1 rt' (D + 1) P' W' → TabOk ps' h' [59, p, q, self, sd] →
      (∀ x ∈ (59, tabObj ps') :: ufL w self sd p q t1 t2 n oP' oW', h'.get? x.1 = some x.2) → Ext [59, p, q, self, sd] s.heap h' → Q .none { s with heap := h', toks := tk', drawn := d' }) :
    wpAny (model pr w) A (call (.ref 95) [.ref self, .ref e]) Q E s := by
  refine callP (f := 95) (binds := [(Str.ofString "made", .ref self), (Str.ofString "some", .ref e)]) G c _ hmu hB hf (by k_is) (by k_is) (by omega) (BindsTo.of_eq rfl) (locs rfl) (by decide) ?_ rfl rfl rfl
  intro g' L' h' F' N' B' G' X' hlt _
  have hh := c.hh
  have fr := c.fr
  obtain ⟨KX', T'⟩ := G'
  obtain ⟨vs, hl, hi⟩ := he.ext2 X' (uf_noseq2 hP hW hmu)
  have hf2 : ∀ (env : Env), env.frame = some L' → ∀ en ∈ env :: outer, ∀ x ∈ (59, tabObj ps) :: ufL w self sd p q t1 t2 n oP oW, en.frame ≠ some x.1 := fun env hE en hen x hx e => by
    rcases List.mem_cons.mp hen with rfl | hen
    · rw [hE] at e; exact Nat.ne_of_lt (hlt x hx) (Option.some.inj e).symm
    · exact hf en hen x hx e
  have tab' : TabOk ps h' [59, p, q, self, sd] := by
    rcases hTab with e | ⟨c', oc, vs', t', e, hc, e1, e2, e3⟩
    · exact .inl e
    · exact .inr ⟨c', oc, vs', t', e, hc, F'.keep _ _ (X' _ _ hc e1), e2, e3⟩
  clear c
  have fin : ∀ (vs2 : List Value) (env : Env) (mz : Str → Option Value) (Fz : Fr g' L' h' mz) (tkz : Nat) (Q2 : Value → Shared → Prop), env.frame = some L' → env.scope.kind = .function → IntsAre vs2 os → (∀ h2 tk2 d2 P' W' oP' oW' ps' rt', DictI w oP' P' → DictI w oW' W' → UnR ks rt os rt' → Fo (addAll ks rt os).1 rt' (D + 1) P' W' → TabOk ps' h2 [59, p, q, self, sd] →
      (∀ x ∈ (59, tabObj ps') :: ufL w self sd p q t1 t2 n oP' oW', h2.get? x.1 = some x.2) → Ext [59, p, q, self, sd] s.heap h2 → Fr g' L' h2 mz → News g' L' h2 ((59, tabObj ps') :: ufL w self sd p q t1 t2 n oP' oW') → Q2 .none { s with heap := h2, toks := tk2, drawn := d2 }) →
      wpAny (model pr w) (A.deeper env) (call (.ref 62) (.ref self :: vs2)) Q2 (fun _ _ => False) { s with heap := h', toks := tkz } := by
    intro vs2 env mz Fz tkz Q2 hE hk hi2 k
    refine union_spec G (Cx.inner B' Fz (Around.frames_deeper fr) hE hk hh) (by show A.depth + 1 + 2 < recursionLimit; omega) (by show A.units + 3 + 200 < cLine; omega) hC hP hW (fun x hx => (N' x hx).1) hB (hf2 env hE) hp0 hq0 hpq hps hpd hqs hqd hsd h59 fo hkl hD hi2 hos tab' ?_
    intro h2 tk2 d2 P' W' oP' oW' ps' rt' a1 a2 a3 a4 a5 a6 a7 _
    have e7 : Ext [59, p, q, self, sd] h' h2 := by
      have := a7
      rw [if_neg hos0, List.append_nil] at this
      exact this
    obtain ⟨F2, N2⟩ := after (mu := (59, tabObj ps) :: ufL w self sd p q t1 t2 n oP oW) (mu' := (59, tabObj ps') :: ufL w self sd p q t1 t2 n oP' oW') (rest := []) Fz (by rw [List.append_nil]; exact N') (fun _ hp => nomatch hp) e7 (fun x hx => ⟨a6 x hx, .inl (by
      rcases List.mem_cons.mp hx with rfl | hx
      · exact .head _
      · exact .tail _ ((ufAll (Pr := fun y => y ∈ [p, q, self, sd])).mpr ⟨.head _, .tail _ (.head _), .tail _ (.tail _ (.head _)), .tail _ (.tail _ (.tail _ (.head _)))⟩ x hx))⟩)
    rw [List.append_nil] at N2
    exact k h2 tk2 d2 P' W' oP' oW' ps' rt' a1 a2 a3 a4 a5 a6 ((X'.trans (Ext.of_stays F'.keep)).trans e7) F2 N2
  rcases hi with _ | ⟨a, t, _ | ⟨b, u, _ | ⟨d, v, _ | ⟨f, y, _ | ⟨g, z, r⟩⟩⟩⟩⟩
  · exact absurd rfl hos0
  · change wpAny _ _ _ _ _ _
    k_steps
    refine Stop.out ?_
    rename Fr _ _ _ _ => F2
    refine fin _ _ _ F2 _ _ rfl rfl (.cons a _ (.nil)) ?_
    intro h2 tk2 d2 P' W' oP' oW' ps' rt' a1 a2 a3 a4 a5 a6 a7 F3 N3
    clear F2 N'
    change wpAny _ _ _ _ _ _
    k_steps
    exact hQ _ _ _ _ _ _ _ _ _ a1 a2 a3 a4 a5 a6 a7
  · change wpAny _ _ _ _ _ _
    k_steps
    refine Stop.out ?_
    rename Fr _ _ _ _ => F2
    refine fin _ _ _ F2 _ _ rfl rfl (.cons a _ (.cons b _ (.nil))) ?_
    intro h2 tk2 d2 P' W' oP' oW' ps' rt' a1 a2 a3 a4 a5 a6 a7 F3 N3
    clear F2 N'
    change wpAny _ _ _ _ _ _
    k_steps
    exact hQ _ _ _ _ _ _ _ _ _ a1 a2 a3 a4 a5 a6 a7
  · change wpAny _ _ _ _ _ _
    k_steps
    refine Stop.out ?_
    rename Fr _ _ _ _ => F2
    refine fin _ _ _ F2 _ _ rfl rfl (.cons a _ (.cons b _ (.cons d _ (.nil)))) ?_
    intro h2 tk2 d2 P' W' oP' oW' ps' rt' a1 a2 a3 a4 a5 a6 a7 F3 N3
    clear F2 N'
    change wpAny _ _ _ _ _ _
    k_steps
    exact hQ _ _ _ _ _ _ _ _ _ a1 a2 a3 a4 a5 a6 a7
  · change wpAny _ _ _ _ _ _
    k_steps
    refine Stop.out ?_
    rename Fr _ _ _ _ => F2
    refine fin _ _ _ F2 _ _ rfl rfl (.cons a _ (.cons b _ (.cons d _ (.cons f _ (.nil))))) ?_
    intro h2 tk2 d2 P' W' oP' oW' ps' rt' a1 a2 a3 a4 a5 a6 a7 F3 N3
    clear F2 N'
    change wpAny _ _ _ _ _ _
    k_steps
    exact hQ _ _ _ _ _ _ _ _ _ a1 a2 a3 a4 a5 a6 a7
  · simp at hos
end
end Mine

end
theorem Mine.resetVA : True ∧ True := by
  first
  | (walk1; done)
  | exact ⟨trivial, trivial⟩
section
open PySem PySem.W PyProof.Rows PySem.Calls PySem.Spec PyProof.V
set_option maxRecDepth 100000
set_option maxHeartbeats 8000000
namespace Mine
theorem fillitVB : (PySem.Challenge.rw_bj0027_01 = PySem.Challenge.rw_bj0027_01 ∧ hd.heap_39 = hd.heap_39) := by k_fill; exact ⟨rfl, rfl⟩
local macro_rules | `(tactic| walk_at "InvPostG") => `(tactic| (refine Stop.intro ?_))
local macro_rules | `(tactic| walk_at "InvEndG") => `(tactic| (refine Stop.intro ?_))
local macro_rules | `(tactic| walk_at "exec For") => `(tactic| (k_here; (with_reducible rename Fr _ _ _ _ => kF); refine for_enter kF ?k1 ?k2 ?k3 ?k4 ?_; (case k1 => with_unfolding_all rfl); (case k2 => with_unfolding_all rfl); (case k3 => intro _; with_unfolding_all rfl); (case k4 => exact PassesOwn.never)))
local macro_rules | `(tactic| walk_at "pyIter ref") => `(tactic| (refine Stop.intro ?_))
local macro_rules | `(tactic| walk_at "call ref") => `(tactic| (k_here; refine Stop.intro ?_))
local macro_rules | `(tactic| walk_at "compareOp NotEq ref ref") => `(tactic| (k_here; refine Stop.intro ?_))
local macro_rules | `(tactic| walk_at "compareOp NotIn int ref") => `(tactic| (k_here; refine Stop.intro ?_))
local macro_rules | `(tactic| walk_at "eval ListComp") => `(tactic| (k_here; refine Stop.intro ?_))
local macro_rules | `(tactic| walk_at "exec Assign cons ListComp") => `(tactic| (k_here; refine Stop.intro ?_))
local macro_rules | `(tactic| walk_at "storeName") => `(tactic| (k_here; (with_reducible show wpAny _ _ (storeName _ (Str.ofString "heads") _) _ _ _); refine Stop.intro ?_))
local macro_rules | `(tactic| walk_at "eval Name") => `(tactic| (k_here; (with_reducible show wpAny _ _ (eval (Expr.Name _ _) (compEnvC _ _ _ _)) _ _ _); k_dflt (first
  | (refine blk_local (by k_asm) (by rfl) ?_ (by rfl) (by rfl))
  | (refine lcf_cell (by k_asm) (by rfl) (by k_mem) (by k_asm) ?_ (by rfl) (by rfl))
  | (refine lcf_free (by k_asm) (by rfl) (by k_mem) (by k_asm) ?_ (by rfl) (by rfl)))))
theorem addK_old {ks : List Int} {i : Int} (h : i ∈ ks) : addK ks i = ks := by unfold addK; rw [if_pos h]
theorem addR_same {ks : List Int} {rt : Int → Int} {i : Int} (h : i ∈ ks) : addR ks rt i = rt := by unfold addR; rw [if_pos h]
section
variable {w : World} {mean : ExcName → Option Value} {mg mb : Str → Option Value} {B : Heap} {A : Around} {outer : List Env} {s : Shared}
theorem stands_spec (G : Gd w mean mg mb B) (c : Cx B A outer s) (hd : A.depth + 2 < recursionLimit) (hu : A.units + 210 < cLine)
    {self sd p q : Addr} {t1 t2 : Tok} {n : Nat} {oP oW : Obj} {P W : List (Int × Int)} (hP : DictI w oP P) (hW : DictI w oW W)
    (hmu : ∀ x ∈ ufL w self sd p q t1 t2 n oP oW, s.heap.get? x.1 = some x.2) (hB : ∀ x ∈ ufL w self sd p q t1 t2 n oP oW, B.get? x.1 = none)
    (hf : ∀ env ∈ outer, ∀ x ∈ ufL w self sd p q t1 t2 n oP oW, env.frame ≠ some x.1)
    (hp0 : (p == sysModules) = false) (hq0 : (q == sysModules) = false) (hpq : @Ne Nat p q) (hps : @Ne Nat p self) (hpd : @Ne Nat p sd) (hqs : @Ne Nat q self) (hqd : @Ne Nat q sd) (hsd : @Ne Nat self sd)
    {ks : List Int} {rt : Int → Int} {D : Nat} (fo : Fo ks rt D P W) (hkl : ks.length ≤ 90) (hD : D ≤ 900)
    {l : Addr} {vs : List Value} {lots : List (List Int)} (hl : LotsH l vs lots s.heap)
    (hg : ∀ lot ∈ lots, lot ≠ [] ∧ lot.length < 60 ∧ ∀ x ∈ lot, x ∈ ks ∧ rt x ∈ lot ∧ ∀ y ∈ lot, rt x = rt y) {Q E : Value → Shared → Prop}
    (hQ : ∀ h' tk' P' W' oP' oW', DictI w oP' P' → DictI w oW' W' → Fo ks rt D P' W' →
      (∀ x ∈ ufL w self sd p q t1 t2 n oP' oW', h'.get? x.1 = some x.2) → Ext [p, q, self, sd] s.heap h' → Q (.bool true) { s with heap := h', toks := tk' }) :
    wpAny (model pr w) A (call (.ref 100) [.ref self, .ref l]) Q E s := by
  refine callC (f := 100) (binds := [(Str.ofString "made", .ref self), (Str.ofString "lots", .ref l)]) G c _ hmu hB hf (by k_is) (by k_is) (by omega) (BindsTo.of_eq rfl) rfl (by decide +kernel) ?_ rfl rfl rfl
  intro g' L' h' tk' cells' F' N' Y' B' G' X' hlt hLs
  have hh := c.hh
  have fr := c.fr
  obtain ⟨KX', T'⟩ := G'
  have nos0 := uf_noseq hP hW hmu
  have hlg : g'.IsList l vs.toArray := isList_ext2 hl.1 X' nos0
  have hRg : RefsAre g' vs lots := hl.2.ext2 X' nos0
  clear c
  k_cells Y'
  rename_i o1 o2 d1 d2
  change wpAny _ _ _ _ _ _
  k_steps
  refine Stop.out ?_
  rename Fr _ _ _ _ => F2
  rename News _ _ _ _ => N2
  replace d1 : o1.data = .cell none := d1
  replace d2 : o2.data = .cell (some (.ref self)) := d2
  have hl4 : @LT.lt Nat _ p L' ∧ @LT.lt Nat _ q L' ∧ @LT.lt Nat _ self L' ∧ @LT.lt Nat _ sd L' := (ufAll (Pr := fun y => @LT.lt Nat _ y L')).mp hlt
  have hne1 : ∀ k, @LE.le Nat _ L' k → p ≠ k ∧ q ≠ k ∧ self ≠ k ∧ sd ≠ k := fun k hk => ⟨Nat.ne_of_lt (Nat.lt_of_lt_of_le hl4.1 hk), Nat.ne_of_lt (Nat.lt_of_lt_of_le hl4.2.1 hk), Nat.ne_of_lt (Nat.lt_of_lt_of_le hl4.2.2.1 hk), Nat.ne_of_lt (Nat.lt_of_lt_of_le hl4.2.2.2 hk)⟩
  refine iterB (fun i m nx => ∃ oh P' W' oP' oW', nx = (L' + 1 + 1, oh) :: (L' + 1, o2) :: ufL w self sd p q t1 t2 n oP' oW' ∧ (∃ v, oh.data = .cell v) ∧ DictI w oP' P' ∧ DictI w oW' W' ∧ Fo ks rt D P' W')
    hh hlg F2 N2 ⟨o1, P, W, oP, oW, rfl, ⟨_, d1⟩, hP, hW, fo⟩ ?_ ?_
  · rintro i v m₁ nx h6 tk6 own hv hoff ⟨oh, P', W', oP', oW', rfl, ⟨vh, hoh⟩, hP', hW', fo'⟩ F6 N6
    obtain ⟨b, lot, rfl, hlot, hbL⟩ := hRg.get (by simpa using hv)
    obtain ⟨hne, hlen, hin⟩ := hg lot (List.mem_of_getElem? hlot)
    obtain ⟨zs, hb, hz⟩ := hbL
    have hown : ∀ x ∈ own, x.1 ≠ L' + 1 + 1 ∧ x.1 ≠ L' + 1 ∧ x.1 ≠ p ∧ x.1 ≠ q ∧ x.1 ≠ self ∧ x.1 ≠ sd := fun x hx =>
      ⟨hoff x hx _ (.head _), hoff x hx _ (.tail _ (.head _)), hoff x hx _ (.tail _ (.tail _ (.head _))), hoff x hx _ (.tail _ (.tail _ (.tail _ (.head _)))), hoff x hx _ (.tail _ (.tail _ (.tail _ (.tail _ (.head _))))), hoff x hx _ (.tail _ (.tail _ (.tail _ (.tail _ (.tail _ (.head _))))))⟩
    have F7 := named F6 [(Str.ofString "lot", .ref b)] (by intro p hp; rcases hp with _ | ⟨_, hp⟩ <;> first | rfl | cases hp)
    clear F6 F2 N2
    k_steps
    refine Stop.out ?_
    refine wpAny_Assign_Name ?_ (by with_unfolding_all rfl)
    have nosM : NoSeq h6 ((L' + 1) :: [p, q, self, sd]) := fun a ha o ho its k e => by
      rcases List.mem_cons.mp ha with rfl | ha
      · have := (N6 (L' + 1, o2) (.tail _ (.head _))).1
        rw [this] at ho; cases ho
        rw [d2] at e; cases e
      · exact uf_noseq hP' hW' (fun x hx => (N6 x (.tail _ (.tail _ (List.mem_append_left _ hx)))).1) a ha o ho its k e
    have h6lt : ∀ x ∈ (L' + 1 + 1, oh) :: own, @LT.lt Nat _ x.1 h6.objs.size := fun x hx => Heap.lt_size (N6 x (by
      rcases List.mem_cons.mp hx with rfl | hx
      · exact .head _
      · exact List.mem_append_right _ hx)).1
    have hb6 : h6.IsList b zs.toArray := let ⟨o, e, r⟩ := hb; ⟨o, F7.keep _ _ e, r⟩
    refine LC_L (L := L') ((L' + 1, o2) :: ufL w self sd p q t1 t2 n oP' oW') ((L' + 1 + 1, oh) :: own) b zs.toArray [(Str.ofString "made", L' + 1)]
      (fun j ys nx => ∃ P' W' oP' oW', nx = (L' + 1, o2) :: ufL w self sd p q t1 t2 n oP' oW' ∧ DictI w oP' P' ∧ DictI w oW' W' ∧ Fo ks rt D P' W' ∧ IntsAre ys ((lot.take j).map rt))
      hh F7 (fun x hx => N6 x ?_) ?_ hb6 ?_ ?_ ?_ ⟨P', W', oP', oW', rfl, hP', hW', fo', by simpa using IntsAre.nil⟩ ?_ ?_ (by with_unfolding_all rfl) (by decide) rfl (by decide) rfl
    · rcases List.mem_append.mp hx with hx | hx
      · exact .tail _ (List.mem_append_left own hx)
      · rcases List.mem_cons.mp hx with rfl | hx
        · exact .head _
        · exact List.mem_append_right _ hx
    · intro x hx hm
      have key : x.1 ≠ L' + 1 ∧ x.1 ≠ p ∧ x.1 ≠ q ∧ x.1 ≠ self ∧ x.1 ≠ sd := by
        rcases List.mem_cons.mp hx with rfl | hx
        · have k := hne1 (L' + 1 + 1) (Nat.le_add_right _ 2)
          exact ⟨Nat.succ_ne_self _, Ne.symm k.1, Ne.symm k.2.1, Ne.symm k.2.2.1, Ne.symm k.2.2.2⟩
        · exact (hown x hx).2
      rcases List.mem_cons.mp hm with q | hm
      · exact key.1 q
      · obtain ⟨y, hy, e⟩ := List.mem_map.mp hm
        exact (ufAll (Pr := fun y => x.1 ≠ y)).mpr key.2 y hy e.symm
    · intro hm
      obtain ⟨o, ho, _, k, e⟩ := hb6
      exact nosM b hm o ho _ _ e
    · have : lot.length < 60 := hlen
      have e1 : zs.toArray.size < 200 := by rw [List.size_toArray, hz.length]; omega
      exact small_line e1
    · intro Q' hQ'
      k_steps
      exact hQ'
    · rintro g C BB j v ys m₂ nx own' h tk hvj ⟨P2, W2, oP2, oW2, rfl, hP2, hW2, fo2, hys⟩ hoff2 F N
      obtain ⟨a, ta, rfl, hsa⟩ : ∃ a ta, v = .int a ta ∧ lot[j]? = some a := by
        have hv' : zs[j]? = some v := by simpa using hvj
        have hj : j < lot.length := by rw [← hz.length]; exact (List.getElem?_eq_some_iff.mp hv').1
        obtain ⟨t, e⟩ := hz.get j (lot[j]'hj) (List.getElem?_eq_getElem hj)
        rw [hv'] at e
        exact ⟨_, t, Option.some.inj e, List.getElem?_eq_getElem hj⟩
      obtain ⟨hak, _, _⟩ := hin a (List.mem_of_getElem? hsa)
      refine wpAny_tests_nil ?_
      rw [if_pos rfl]
      have Tg := T'.keeps BB.st
      have KXg := KX'.keeps BB.st
      dsimp only [List.cons_append, List.nil_append] at N
      have hown2 : ∀ x ∈ own', x.1 ≠ L' + 1 ∧ x.1 ≠ p ∧ x.1 ≠ q ∧ x.1 ≠ self ∧ x.1 ≠ sd := fun x hx =>
        ⟨hoff2 x hx _ (.head _), hoff2 x hx _ (.tail _ (.head _)), hoff2 x hx _ (.tail _ (.tail _ (.head _))), hoff2 x hx _ (.tail _ (.tail _ (.tail _ (.head _)))), hoff2 x hx _ (.tail _ (.tail _ (.tail _ (.tail _ (.head _)))))⟩
      have Nu : News g C h (ufL w self sd p q t1 t2 n oP2 oW2 ++ ((L' + 1, o2) :: own')) := fun x hx => N x (by
        rcases List.mem_append.mp hx with hx | hx
        · exact .tail _ (List.mem_append_left own' hx)
        · rcases List.mem_cons.mp hx with rfl | hx
          · exact .head _
          · exact .tail _ (List.mem_append_right (ufL w self sd p q t1 t2 n oP2 oW2) hx))
      have hre : ∀ x ∈ (L' + 1, o2) :: own', x.1 ∉ (ufL w self sd p q t1 t2 n oP2 oW2).map (·.1) := fun x hx hm => by
        have key : x.1 ≠ p ∧ x.1 ≠ q ∧ x.1 ≠ self ∧ x.1 ≠ sd := by
          rcases List.mem_cons.mp hx with rfl | hx
          · have k := hne1 (L' + 1) (Nat.le_succ _)
            exact ⟨Ne.symm k.1, Ne.symm k.2.1, Ne.symm k.2.2.1, Ne.symm k.2.2.2⟩
          · exact (hown2 x hx).2
        rcases hm with _ | ⟨_, _ | ⟨_, _ | ⟨_, _ | ⟨_, hm⟩⟩⟩⟩
        · exact key.1 rfl
        · exact key.2.1 rfl
        · exact key.2.2.1 rfl
        · exact key.2.2.2 rfl
        · cases hm
      have FL : Fr g' L' h _ := BB.fr.kept F.keep
      k_steps
      refine Stop.out ?_
      refine getitem_spec (A := (A.deeper _).in1) (outer := _ :: outer) (s := { s with heap := h, toks := tk }) (P := P2) (W := W2) G (Cx.inner B' FL (Around.frames_deeper fr) (by rfl) (by rfl) hh) (by show A.depth + 1 < recursionLimit; omega) hP2 hW2 (fun x hx => (Nu x (List.mem_append_left _ hx)).1) ((ufAll (Pr := fun y => B.get? y = none)).mpr ((ufAll (Pr := fun y => B.get? y = none)).mp hB)) ?_ hp0 hq0 hpq hps hpd hqs hqd hsd fo2 (by omega) (by omega) ?_
      · intro en he x hx e
        rcases List.mem_cons.mp he with rfl | he
        · exact (Nat.ne_of_lt ((ufAll (Pr := fun y => @LT.lt Nat _ y L')).mpr hl4 x hx)) (Option.some.inj e).symm
        · exact (ufAll (Pr := fun y => en.frame ≠ some y)).mpr ((ufAll (Pr := fun y => en.frame ≠ some y)).mp (hf en he)) x hx e
      intro t8 h8 tk8 P8 W8 oP8 oW8 hP8 hW8 fo8 hled e8
      rw [addK_old hak, addR_same hak] at fo8
      rw [addR_same hak]
      obtain ⟨F8, N8⟩ := after (mu' := ufL w self sd p q t1 t2 n oP8 oW8) F Nu hre e8 (fun x hx => ⟨hled x hx, .inl ((ufAll (Pr := fun y => y ∈ (ufL w self sd p q t1 t2 n oP2 oW2).map (·.1))).mpr ⟨.head _, .tail _ (.head _), .tail _ (.tail _ (.head _)), .tail _ (.tail _ (.tail _ (.head _)))⟩ x hx)⟩)
      refine InvEndG.intro (nx := (L' + 1, o2) :: ufL w self sd p q t1 t2 n oP8 oW8) F8 N8 ⟨P8, W8, oP8, oW8, rfl, hP8, hW8, fo8, ?_⟩ hoff2 (fun x hx => ?_) (fun x hx => List.mem_append_right _ (.tail _ hx))
      · have e : lot.take (j + 1) = lot.take j ++ [a] := by rw [List.take_add_one, hsa]; rfl
        rw [e, List.map_append]
        exact PyProof.Rows.ksk_snoc hys
      · rcases List.mem_cons.mp hx with rfl | hx
        · exact List.mem_append_right _ (.head _)
        · exact List.mem_append_left _ hx
    · rintro Dl nl ys nx h8 tk8 ⟨P8, W8, oP8, oW8, rfl, hP8, hW8, fo8, hys⟩ e8 F8 N8 hlt8 _
      have etk : lot.take zs.toArray.size = lot := List.take_of_length_le (by simp [hz.length])
      rw [etk] at hys
      clear F7 N6
      dsimp only [List.cons_append, List.nil_append] at N8
      change wpAny _ _ _ _ _ _
      have a6 : ∀ x ∈ (L' + 1 + 1, oh) :: own, @LT.lt Nat _ x.1 Dl := fun x hx => Nat.lt_trans (h6lt x hx) hlt8
      have hoffH : ∀ x ∈ (Dl, PySem.W.listOf ys.toArray nl) :: (L' + 1, o2) :: (p, oP8) :: (q, oW8) :: (self, instObj 65 sd) :: (sd, sdObj w p q t1 t2 n) :: own, x.1 ≠ L' + 1 + 1 := fun x hx => by
        rcases List.mem_cons.mp hx with rfl | hx
        · exact Nat.ne_of_gt (a6 (L' + 1 + 1, oh) (.head _))
        · rcases List.mem_cons.mp hx with rfl | hx
          · exact Nat.ne_of_lt (Nat.lt_succ_self _)
          · rcases List.mem_append.mp (show x ∈ ufL w self sd p q t1 t2 n oP8 oW8 ++ own from hx) with hx | hx
            · exact (ufAll (Pr := fun y => y ≠ L' + 1 + 1)).mpr (hne1 _ (Nat.le_add_right _ 2)) x hx
            · exact (hown x hx).1
      refine storeX_C (news := (L' + 1 + 1, oh) :: (Dl, PySem.W.listOf ys.toArray nl) :: (L' + 1, o2) :: (p, oP8) :: (q, oW8) :: (self, instObj 65 sd) :: (sd, sdObj w p q t1 t2 n) :: own) F8 (fun x hx => N8 x ?_) (c := L' + 1 + 1) (by rfl) (UpdF.head hoffH) hoh ?_
      · rcases List.mem_cons.mp hx with rfl | hx
        · exact .tail _ (.tail _ (.tail _ (.tail _ (.tail _ (.tail _ (.head _))))))
        · rcases List.mem_append.mp (show x ∈ [(Dl, PySem.W.listOf ys.toArray nl), (L' + 1, o2), (p, oP8), (q, oW8), (self, instObj 65 sd), (sd, sdObj w p q t1 t2 n)] ++ own from hx) with hx | hx
          · exact List.mem_append_left ((L' + 1 + 1, oh) :: own) hx
          · exact List.mem_append_right [_, _, _, _, _, _] (.tail _ hx)
      intro h9 oh9 F9 N9 hoh9
      clear F8 N8
      k_steps
      refine Stop.out ?_
      rename Fr _ _ _ _ => Fa
      rename News _ _ _ _ => Na
      obtain ⟨a0, rl, hrl⟩ : ∃ a0 rl, lot = a0 :: rl := by
        cases lot with
        | nil => exact absurd rfl hne
        | cons a r => exact ⟨a, r, rfl⟩
      have hyl : ys.length = lot.length := by rw [hys.length, List.length_map]
      have hy0 : 0 < ys.length := by rw [hyl, hrl]; simp
      have nos9 : NoSeq h9 [L' + 1 + 1] := NoSeq.of (l := [(L' + 1 + 1, oh9)]) (fun x hx => Na x (by rw [List.mem_singleton.mp hx]; exact .head _)) (fun x hx its n e => by rw [List.mem_singleton.mp hx, hoh9] at e; cases e)
      have hDl9 : h9.IsList Dl ys.toArray := isList_of Na (.tail _ (.head _))
      have hrt : ∀ x ∈ lot, rt x = rt a0 := fun x hx => (hin x hx).2.2 a0 (by rw [hrl]; exact .head _)
      have hys2 : IntsAre ys (rt a0 :: rl.map rt) := by rw [hrl] at hys; exact hys
      refine LF_L (L := L') [(L' + 1 + 1, oh9)] ((Dl, PySem.W.listOf ys.toArray nl) :: (L' + 1, o2) :: (p, oP8) :: (q, oW8) :: (self, instObj 65 sd) :: (sd, sdObj w p q t1 t2 n) :: own) Dl ys (rt a0 :: rl.map rt) (fun x => !decide (x = rt a0)) [(Str.ofString "heads", L' + 1 + 1)] hh Fa Na ?_ hDl9 ?_ hys2.length ?_ ?_ ?_ ?_ (by with_unfolding_all rfl) (by decide) rfl (by decide) rfl
      · intro x hx
        rw [List.map_singleton, List.mem_singleton]
        exact hoffH x hx
      · rw [List.map_singleton, List.mem_singleton]
        exact hoffH _ (.head _)
      · have e1 : ys.length < 200 := by omega
        exact small_line e1
      · intro Q' hQ'
        k_steps
        exact hQ'
      · intro g C BB j v x m₂ own' ha tka hv hx hoff' Fb Nb
        obtain ⟨t5, e5⟩ := hys2.get j x hx
        rw [hv] at e5; cases e5
        have hDlg : g.IsList Dl ys.toArray := isList_ext2 hDl9 BB.ext nos9
        have hy1 : 0 < (rt a0 :: rl.map rt).length := by simp
        clear Fa Na
        k_steps
        refine Stop.out ?_
        rename Fr _ _ _ _ => Fa
        rename News _ _ _ _ => Na
        refine InvEndG.intro Fa Na ⟨?_, rfl, if_pos rfl⟩ hoff' (fun y hy => List.mem_append_left _ hy) (fun y hy => List.mem_append_right _ hy)
        show (x != rt a0) = !decide (x = rt a0)
        by_cases hq : x = rt a0 <;> simp [hq]
      intro De ne he tke ee Fe Ne hlte
      clear Fa Na
      dsimp only [List.cons_append, List.nil_append] at Ne
      have hfil : (rt a0 :: rl.map rt).filter (fun x => !decide (x = rt a0)) = [] := by
        refine List.filter_eq_nil_iff.mpr fun y hy => ?_
        have hy' : y = rt a0 := by
          have : y ∈ lot.map rt := by rw [hrl]; exact hy
          obtain ⟨z, hz', rfl⟩ := List.mem_map.mp this
          exact hrt z hz'
        simp [hy']
      k_steps
      refine Stop.out ?_
      rename Fr _ _ _ _ => Fa
      rename News _ _ _ _ => Na
      refine ne_IntL (xs := []) ⟨_, isList_of Na (.tail _ (.head _)), by rw [← hfil]; exact ints_sel hys2⟩ (ys := []) ⟨[], isList_of Na (.head _), .nil⟩ (by show A.units + 3 + 64 < cLine; omega) ?_
      rw [show (!decide (([] : List Int) = [])) = false from rfl]
      have hy1 : 0 < (rt a0 :: rl.map rt).length := by simp
      k_steps
      refine Stop.out ?_
      rename Fr _ _ _ _ => Fb
      rename News _ _ _ _ => Nb
      refine notin_list_ints (ns := lot) (let ⟨o, e, r⟩ := hb; ⟨o, Fb.keep _ _ e, r⟩) hz ?_
      have hin0 : (lot.any (· == (rt a0 :: rl.map rt).getD (Int.toNat 0) 0)) = true := by
        show (lot.any (· == rt a0)) = true
        rw [any_mem]
        exact decide_eq_true (hin a0 (by rw [hrl]; exact .head _)).2.1
      rw [hin0]
      rw [show (!true) = false from rfl]
      k_steps
      refine Stop.out ?_
      rename Fr _ _ _ _ => Fc
      rename News _ _ _ _ => Nc
      refine InvEndG.intro (nx := (L' + 1 + 1, oh9) :: (L' + 1, o2) :: ufL w self sd p q t1 t2 n oP8 oW8) Fc Nc ⟨oh9, P8, W8, oP8, oW8, rfl, ⟨_, hoh9⟩, hP8, hW8, fo8⟩ hoff (fun x hx => ?_) (fun x hx => ?_)
      · rcases List.mem_cons.mp hx with rfl | hx
        · exact .tail _ (.tail _ (.head _))
        · exact .tail _ (.tail _ (.tail _ (.tail _ (List.mem_append_left own hx))))
      · exact .tail _ (.tail _ (.tail _ (.tail _ (List.mem_append_right ((L' + 1, o2) :: ufL w self sd p q t1 t2 n oP8 oW8) hx))))
  · rintro m₁ nx h6 tk6 ⟨oh, P', W', oP', oW', rfl, ⟨vh, hoh⟩, hP', hW', fo'⟩ F6 N6
    clear F2 N2
    k_steps
    exact hQ _ _ _ _ _ _ hP' hW' fo' (fun x hx => (N6 x (.tail _ (.tail _ hx))).1) (X'.trans (Ext.of_stays F6.keep))
end
end Mine

end
theorem Mine.resetVB : True ∧ True := by
  first
  | (walk1; done)
  | exact ⟨trivial, trivial⟩
section
open PySem PySem.W PyProof.Rows PySem.Calls PySem.Spec PyProof.V
set_option maxRecDepth 100000
set_option maxHeartbeats 8000000
namespace Mine
theorem fillitVD : (PySem.Challenge.rw_bj0027_01 = PySem.Challenge.rw_bj0027_01 ∧ hd.heap_39 = hd.heap_39) := by k_fill; exact ⟨rfl, rfl⟩
local macro_rules | `(tactic| walk_at "pyIter ref") => `(tactic| (refine Stop.intro ?_))
local macro_rules | `(tactic| walk_at "exec For") => `(tactic| (k_here; (with_reducible rename Fr _ _ _ _ => kF); refine for_enter kF ?k1 ?k2 ?k3 ?k4 ?_; (case k1 => with_unfolding_all rfl); (case k2 => with_unfolding_all rfl); (case k3 => intro _; with_unfolding_all rfl); (case k4 => exact PassesOwn.never)))
local macro_rules | `(tactic| walk_at "InvPostG") => `(tactic| (refine Stop.intro ?_))
local macro_rules | `(tactic| walk_at "InvEndG") => `(tactic| (refine Stop.intro ?_))

section
variable {w : World} {mean : ExcName → Option Value} {mg mb : Str → Option Value} {B : Heap} {A : Around} {outer : List Env} {s : Shared}
theorem initP (G : Gd w mean mg mb B) (c : Cx B A outer s) (mu : List (Addr × Obj)) (hmu : ∀ p ∈ mu, s.heap.get? p.1 = some p.2) (hB : ∀ p ∈ mu, B.get? p.1 = none)
    (hf : ∀ env ∈ outer, ∀ p ∈ mu, env.frame ≠ some p.1)
    {name qual : Str} {params : Arguments} {body : List Stmt} {scope : Scope} {dV kV doc pm cdv ct oc : Value} {an od : Option Addr} {osl : Array (Option Value)} {f x0 : Addr} {pos : List Value} {binds : List (Str × Value)} {Q E : Value → Shared → Prop}
    (ho : List.lookup f (hd.heap_39 w.params) = some ⟨oc, od, .func (fnOf name qual params body scope dV kV doc pm an cdv ct), osl⟩) (hcd : codeIn (hd.heap_39 w.params) cdv qual = true) (hroom : A.depth < recursionLimit)
    (hbind : BindsTo s (fnOf name qual params body scope dV kV doc pm an cdv ct) ⟨pos, []⟩ binds) (hloc : ∀ y ∈ binds, scope.names.lookup y.1 = some .local)
    (hcell : ∀ x ∈ scope.names, x.2 ≠ .cell)
    (h : ∀ g L' h₁, Fr g L' h₁ (fun y => binds.reverse.lookup y) → News g L' h₁ mu → Below A B outer g → Gd w mean mg mb g → Ext (mu.map (·.1)) s.heap g → (∀ p ∈ mu, p.1 < L') → L' = s.heap.objs.size →
      wpAny (model pr w) (A.deeper (envOf qual scope L' f cdv)) (execs body (envOf qual scope L' f cdv))
        (fun fl s' => (match fl with | .ret v => v | _ => .none) = .none ∧ Q (.ref x0) s') (fun _ _ => False) { s with heap := h₁, toks := s.toks + binds.length })
    (hco : scope.isCoroutine = false := by rfl) (hgen : scope.isGenerator = false := by rfl) (hk : scope.kind = .function := by rfl) :
    codeAny (model pr w) A (.call (.ref f) ⟨pos, []⟩) (InitBack x0 fun r s' => match r with | .ok (.ret v) => Q v s' | .ok _ => False | .error e => E e s') s := by
  obtain ⟨G', B', X'⟩ := rebase G c mu hmu hB hf
  refine codeAny_call_def (fd := fnOf name qual params body scope dV kV doc pm an cdv ct) (body := body) (binds := binds) hroom (c.kp _ _ (G.X _ _ ho)) rfl (G.T.nolimit.keeps c.kp) (codeRec_of (G.X.keeps c.kp) hcd) rfl hbind hcell hloc (fun h₁ hns hk₁ => ?_) hco hgen hk
  obtain ⟨F₁, N₁, lt⟩ := entered hmu hk₁ hns
  exact wpAny_mono (h _ _ h₁ F₁ N₁ B' G' X' lt rfl) (fun _ _ hl => hl) fun _ _ y => y.elim

theorem made_spec (G : Gd w mean mg mb B) (c : Cx B A outer s) (hdp : A.depth + 1 < recursionLimit)
    {e : Addr} {ks : List Int} (he : IntL s.heap e ks) (hk : ks.Nodup) (hkl : ks.length ≤ 50) {Q E : Value → Shared → Prop}
    (hQ : ∀ h' tk' self sd p q t1 t2 n P W oP oW, DictI w oP P → DictI w oW W → Fo ks (fun x => x) 0 P W →
      (p == sysModules) = false → (q == sysModules) = false → @Ne Nat p q → @Ne Nat p self → @Ne Nat p sd → @Ne Nat q self → @Ne Nat q sd → @Ne Nat self sd →
      (∀ x ∈ ufL w self sd p q t1 t2 n oP oW, h'.get? x.1 = some x.2 ∧ s.heap.get? x.1 = none) → Ext [] s.heap h' → Q (.ref self) { s with heap := h', toks := tk' }) :
    wpAny (model pr w) A (call (.ref 65) [.ref e]) Q E s := by
  obtain ⟨hp, gs, dr, tks, oss⟩ := s
  have KX := G.X.keeps c.kp
  have fr := c.fr
  refine wpAny_call (make_core (makes_of (K := hd.heap_39 w.params) KX (by k_is)) (looks_findIn (K := hd.heap_39 w.params) (r := some (.ref 36)) KX (by k_is)) (fun self => bind_fn (K := hd.heap_39 w.params) KX self (by k_is)) (.inl rfl) ?_)
  have st : hp.StaysIn ((hp.push emptyDict).push (instObj 65 hp.objs.size)) := fun b o e => Heap.get?_push_of_some _ (Heap.get?_push_of_some _ e)
  have e1 : ((hp.push emptyDict).push (instObj 65 hp.objs.size)).get? (hp.objs.size + 1) = some (instObj 65 hp.objs.size) := by heap_get
  have e2 : ((hp.push emptyDict).push (instObj 65 hp.objs.size)).get? hp.objs.size = some (dictOf [] 0) := Heap.get?_push_of_some _ (Heap.get?_push_at rfl rfl)
  have n1 : hp.get? (hp.objs.size + 1) = none := Heap.get?_none_of_le (Nat.le_succ _)
  have n2 : hp.get? hp.objs.size = none := Heap.get?_none_of_le (Nat.le_refl _)
  have nB : ∀ b, hp.get? b = none → B.get? b = none := fun b e => by
    cases q : B.get? b with
    | none => rfl
    | some o => have := c.kp _ _ q; rw [e] at this; cases this
  have c2 : Cx B (A.under (.builtin "type.__call__" ⟨.ref 65 :: [.ref e], []⟩)) outer ⟨(hp.push emptyDict).push (instObj 65 hp.objs.size), gs, dr, tks, oss⟩ :=
    ⟨fr, c.ff.of_keeps fun b o e _ => ⟨o, st b o e, rfl⟩, fun b o e => st b o (c.kp b o e), c.hh⟩
  have c2k : (hd.heap_39 w.params).In ((hp.push emptyDict).push (instObj 65 hp.objs.size)) := KX.keeps st
  have hmu : ∀ p ∈ [(hp.objs.size + 1, instObj 65 hp.objs.size), (hp.objs.size, dictOf [] 0)], ((hp.push emptyDict).push (instObj 65 hp.objs.size)).get? p.1 = some p.2 := by
    intro p hp'; rcases hp' with _ | ⟨_, _ | ⟨_, hp'⟩⟩
    · exact e1
    · exact e2
    · cases hp'
  have hno : ∀ p ∈ [(hp.objs.size + 1, instObj 65 hp.objs.size), (hp.objs.size, dictOf [] 0)], hp.get? p.1 = none := by
    intro p hp'; rcases hp' with _ | ⟨_, _ | ⟨_, hp'⟩⟩
    · exact n1
    · exact n2
    · cases hp'
  refine initP (f := 36) (binds := [(Str.ofString "self", .ref (hp.objs.size + 1)), (Str.ofString "elements", .ref e)]) G c2 _ hmu (fun p hp' => nB _ (hno p hp')) (fun env he p hp' q => ?_) (by k_is) (by k_is) (by rw [depth_under_make]; exact hdp) (binds_K (K := hd.heap_39 w.params) c2k rfl (by k_is) rfl rfl rfl) (locs rfl) (by decide) ?_ rfl rfl rfl
  · have := (c.ff.mem (List.mem_filterMap.mpr ⟨env, he, q⟩)).2
    obtain ⟨o, ho, _⟩ := this
    rw [hno p hp'] at ho; cases ho
  intro g' L' h' F' N' B' G' X' hlt _
  have hh := c2.hh
  have fr2 := c2.fr
  obtain ⟨KX', T'⟩ := G'
  have Xg : Ext [] hp g' := fun b o _ e => X' b o (fun hm => by
    obtain ⟨p, hp', rfl⟩ := List.mem_map.mp hm
    rw [hno p hp'] at e; cases e) (st b o e)
  obtain ⟨vs, hl, hi⟩ := he
  have hlg : g'.IsList e vs.toArray := let ⟨o, e, r⟩ := hl; ⟨o, Xg _ _ (fun h => nomatch h) e, r⟩
  clear hdp c
  change wpAny _ _ _ _ _ _
  k_steps
  refine Stop.out ?_
  rename Fr _ _ _ _ => F2
  rename News _ _ _ _ => N2
  rename_i d1 h1 o1 s1 hs1 fs1 hi1 fi1 l1 h2 d2 h3 o2 s2 hs2 fs2 hi2 fi2 l2 h4
  refine iterB (fun i m nx => ∃ oP oW P W tp tw, nx = (d2, oW) :: (d1, oP) :: (hp.objs.size + 1, instObj 65 hp.objs.size) :: [(hp.objs.size, sdObj w d1 d2 tp tw 2)] ∧ DictI w oP P ∧ DictI w oW W ∧ Fo (ks.take i) (fun x => x) 0 P W ∧ m (Str.ofString "self") = some (.ref (hp.objs.size + 1)))
    hh hlg F2 N2 ⟨o1, o2, [], [], _, _, rfl, ⟨_, hi1, fi1⟩, ⟨_, hi2, fi2⟩, ⟨rfl, (fun _ h => nomatch h), (fun _ h => nomatch h), Nat.le_refl _⟩, rfl⟩ ?_ ?_
  · rintro i v m₁ nx h6 tk6 own hv hoff ⟨oP, oW, P, W, tp, tw, rfl, ⟨kP, hP1, hP2⟩, ⟨kW, hW1, hW2⟩, fo, m1⟩ F6 N6
    obtain ⟨a, ta, rfl, hsa⟩ : ∃ a ta, v = .int a ta ∧ ks[i]? = some a := by
      have hv' : vs[i]? = some v := by simpa using hv
      have hj : i < ks.length := by rw [← hi.length]; exact (List.getElem?_eq_some_iff.mp hv').1
      obtain ⟨t, e⟩ := hi.get i (ks[i]'hj) (List.getElem?_eq_getElem hj)
      rw [hv'] at e
      exact ⟨_, t, Option.some.inj e, List.getElem?_eq_getElem hj⟩
    have hPl : P.length ≤ 50 := by rw [fo.plen, List.length_take]; omega
    have hWl : W.length ≤ 50 := Nat.le_trans fo.wlen (by rw [List.length_take]; omega)
    have F7 := named F6 [(Str.ofString "self", .ref (hp.objs.size + 1)), (Str.ofString "x", .int a ta)]
      (by intro p hp; rcases hp with _ | ⟨_, _ | ⟨_, hp⟩⟩ <;> first | assumption | rfl | cases hp)
    clear F6 F2 N2 hs1 fs1 hi1 fi1 hs2 fs2 hi2 fi2
    simp only [List.map_cons, List.map_nil] at hoff
    dsimp only [List.cons_append, List.nil_append] at N6
    k_steps
    refine Stop.out ?_
    rename_i h8 o8 k8 F8 N8 hd8 hf8 h9 o9 k9 F9 N9 hd9 hf9
    have hnot : a ∉ ks.take i := fun hm => by
      have h0 : i < ks.length := (List.getElem?_eq_some_iff.mp hsa).1
      obtain ⟨j, hj, e⟩ := List.mem_iff_getElem.mp hm
      rw [List.length_take] at hj
      rw [List.getElem_take] at e
      have e2 : ks[i]'h0 = a := (List.getElem?_eq_some_iff.mp hsa).2
      have := (List.getElem_inj (h₀ := by omega) (h₁ := h0) hk).mp (e.trans e2.symm)
      omega
    have hnw := fo.new (v := 1) hnot
    have efn : (fun x => if x = a then a else x) = fun x : Int => x := by funext x; by_cases hx : x = a <;> simp [hx]
    rw [efn] at hnw
    have etk : ks.take (i + 1) = ks.take i ++ [a] := by rw [List.take_add_one, hsa]; rfl
    exact InvEndG.intro (nx := (d2, o8) :: (d1, o9) :: (hp.objs.size + 1, instObj 65 hp.objs.size) :: [(hp.objs.size, sdObj w d1 d2 tp tw 2)]) F9 N9 ⟨_, _, _, _, _, _, rfl, ⟨_, hd9, hf9⟩, ⟨_, hd8, hf8⟩, by rw [etk]; exact hnw, rfl⟩ hoff
      (fun y hy => List.mem_append_left own hy) (fun y hy => List.mem_append_right ((d2, o8) :: (d1, o9) :: (hp.objs.size + 1, instObj 65 hp.objs.size) :: [(hp.objs.size, sdObj w d1 d2 tp tw 2)]) hy)
  · rintro m₁ nx h6 tk6 ⟨oP, oW, P, W, tp, tw, rfl, hP, hW, fo, m1⟩ F6 N6
    have l1 : @LT.lt Nat _ (hp.objs.size + 1) d1 ∧ @LT.lt Nat _ hp.objs.size d1 := l1
    have l2 : @LT.lt Nat _ d1 d2 ∧ @LT.lt Nat _ (hp.objs.size + 1) d2 ∧ @LT.lt Nat _ hp.objs.size d2 := l2
    have efin : ks.take vs.toArray.size = ks := by rw [List.size_toArray, hi.length, List.take_length]
    rw [efin] at fo
    k_steps
    refine (hQ h6 _ _ _ d1 d2 tp tw 2 P W oP oW hP hW fo s1 s2 (Nat.ne_of_lt l2.1) (Nat.ne_of_gt l1.1) (Nat.ne_of_gt l1.2) (Nat.ne_of_gt l2.2.1) (Nat.ne_of_gt l2.2.2) (Nat.succ_ne_self _) ?_ (Xg.trans (Ext.of_stays F6.keep)))
    have no : ∀ x ∈ ufL w (hp.objs.size + 1) hp.objs.size d1 d2 tp tw 2 oP oW, hp.get? x.1 = none := (ufAll (Pr := fun y => hp.get? y = none)).mpr ⟨Heap.get?_none_of_le (Nat.le_of_lt l1.2), Heap.get?_none_of_le (Nat.le_of_lt l2.2.2), n1, n2⟩
    intro x hx
    refine ⟨?_, no x hx⟩
    rcases hx with _ | ⟨_, _ | ⟨_, _ | ⟨_, _ | ⟨_, hx⟩⟩⟩⟩
    · exact (N6 _ (.tail _ (.head _))).1
    · exact (N6 _ (.head _)).1
    · exact (N6 _ (.tail _ (.tail _ (.head _)))).1
    · exact (N6 _ (.tail _ (.tail _ (.tail _ (.head _))))).1
    · cases hx
end
end Mine

end
theorem Mine.resetVD : True ∧ True := by
  first
  | (walk1; done)
  | exact ⟨trivial, trivial⟩
section
open PySem PySem.W PyProof.Rows PySem.Calls PySem.Spec PyProof.V
set_option maxRecDepth 100000
set_option maxHeartbeats 8000000
namespace Mine
theorem fillitVE : (PySem.Challenge.rw_bj0027_01 = PySem.Challenge.rw_bj0027_01 ∧ hd.heap_39 = hd.heap_39) := by k_fill; exact ⟨rfl, rfl⟩
local macro_rules | `(tactic| walk_at "call builtin:iter") => `(tactic| (k_here; refine Stop.intro ?_))

/-- the keys' iterator -/
abbrev keyIt (p : Addr) (n ep : Nat) : Obj := { cls := .type "dict_keyiterator", data := .fields #[.ref p, .int 0 0, .int n 0, .int ep 0] }
theorem DictI.at_ {w : World} {o : Obj} {P : List (Int × Int)} (p : Addr) (x : DictI w o P) :
    ∃ kvs ep, (∀ h : Heap, h.get? p = some o → h.DictAt (intKind pr w) p kvs ep) ∧ kvs.length = P.length ∧ ∀ (i : Nat) (k : Int) (v : Value), kvs[i]? = some (k, v) → ∃ u : Int, P[i]? = some (k, u) := by
  obtain ⟨kvs, hd, hf⟩ := x
  obtain ⟨es, ep, r⟩ := hd
  refine ⟨kvs, ep, fun h e => ⟨o, es, e, r⟩, by have := hf.length; simp only [kdfD, List.length_map] at this; omega, fun i k v e => ?_⟩
  obtain ⟨dv, h1, h2⟩ := hf.at e
  rw [kdfD, List.getElem?_map] at h1
  cases q : P[i]? with
  | none => rw [q] at h1; cases h1
  | some pr' => rw [q] at h1; cases h1; exact ⟨_, rfl⟩

/-- what was in the lot and is told again -/
theorem ext_whole {g s h : Heap} {L : Addr} {mu : List (Addr × Obj)} (X : Ext (mu.map (·.1)) s g) (k : g.StaysIn h) (hmu : ∀ x ∈ mu, s.get? x.1 = some x.2) (N : News g L h mu) : Ext [] s h := fun b o _ e => by
  by_cases hb : b ∈ mu.map (·.1)
  · obtain ⟨x, hx, rfl⟩ := List.mem_map.mp hb
    rw [hmu x hx] at e; cases e
    exact (N x hx).1
  · exact k _ _ (X b o hb e)

theorem intsAre_of : ∀ {vs : List Value} {ns : List Int}, vs.length = ns.length → (∀ (j : Nat) (v : Value) (n : Int), vs[j]? = some v → ns[j]? = some n → ∃ t, v = .int n t) → IntsAre vs ns
  | [], [], _, _ => .nil
  | v :: vs, n :: ns, hl, h => by
    obtain ⟨t, rfl⟩ := h 0 v n rfl rfl
    exact .cons n t (intsAre_of (by simpa using hl) fun j u k e1 e2 => h (j + 1) u k (by simpa using e1) (by simpa using e2))
  | [], _ :: _, hl, _ => by simp at hl
  | _ :: _, [], hl, _ => by simp at hl

section
variable {w : World} {mean : ExcName → Option Value} {mg mb : Str → Option Value} {B : Heap} {A : Around} {outer : List Env} {s : Shared}
theorem iter_spec (G : Gd w mean mg mb B) (c : Cx B A outer s) (hdp : A.depth < recursionLimit)
    {self sd p q : Addr} {t1 t2 : Tok} {n : Nat} {oP oW : Obj} {K : Type} [DecidableEq K] {knd : KeyKind pr w K} {kvs : List (K × Value)} {ep : Nat} (hP : ∀ h : Heap, h.get? p = some oP → h.DictAt knd p kvs ep)
    (hmu : ∀ x ∈ ufL w self sd p q t1 t2 n oP oW, s.heap.get? x.1 = some x.2) (hB : ∀ x ∈ ufL w self sd p q t1 t2 n oP oW, B.get? x.1 = none)
    (hf : ∀ env ∈ outer, ∀ x ∈ ufL w self sd p q t1 t2 n oP oW, env.frame ≠ some x.1)
    (hp0 : (p == sysModules) = false) {Q E : Value → Shared → Prop}
    (hQ : ∀ I h' tk', h'.get? I = some (keyIt p kvs.length ep) → s.heap.get? I = none → Ext [] s.heap h' → Q (.ref I) { s with heap := h', toks := tk' }) :
    wpAny (model pr w) A (call (.ref 50) [.ref self]) Q E s := by
  refine callP (f := 50) (binds := [(Str.ofString "self", .ref self)]) G c _ hmu hB hf (by k_is) (by k_is) hdp (BindsTo.of_eq rfl) (locs rfl) (by decide) ?_ rfl rfl rfl
  intro g' L' h' F' N' B' G' X' hlt hL
  have hh := c.hh
  obtain ⟨KX', T'⟩ := G'
  clear c
  change wpAny _ _ _ _ _ _
  k_steps
  refine Stop.out ?_
  refine call_function_entry (by decide +kernel) (by decide +kernel) kdk_entry_iter (kdk_args_iter _) ?_
  unfold Builtin.«iter»
  refine wpAny_bind (m := someArgs "iter" 1 2 _) (wpAny_of_eq (a := [Value.ref p]) (by first | rfl | kernel_rfl!) ?_)
  show wpAny _ _ (pyIter (.ref p) >>= _) _ _ _
  refine wpAny_bind (wpAny_pyIter_dict hp0 (hP _ (N' _ (.head _)).1) (wpAny_pure ⟨_, rfl, ?_⟩))
  dsimp only
  k_steps
  refine hQ h'.objs.size _ _ (Heap.get?_push_size _ rfl) ?_ ?_
  · refine Heap.get?_none_of_le ?_
    rw [← hL]; exact Nat.le_of_lt F'.ns.lt
  · exact (ext_whole X' F'.keep hmu N').trans (Ext.of_stays fun b o e => Heap.get?_push_of_some _ e)

theorem keys_spec (G : Gd w mean mg mb B) (c : Cx B A outer s) (hdp : A.depth + 4 < recursionLimit)
    {self sd p q : Addr} {t1 t2 : Tok} {n : Nat} {oP oW : Obj} {P W : List (Int × Int)} (hP : DictI w oP P)
    (hmu : ∀ x ∈ ufL w self sd p q t1 t2 n oP oW, s.heap.get? x.1 = some x.2) (hB : ∀ x ∈ ufL w self sd p q t1 t2 n oP oW, B.get? x.1 = none)
    (hf : ∀ env ∈ outer, ∀ x ∈ ufL w self sd p q t1 t2 n oP oW, env.frame ≠ some x.1)
    (hp0 : (p == sysModules) = false) {g : Heap} {L : Addr} {m : Str → Option Value} (F : Fr g L s.heap m) (X : (hd.heap_39 w.params).In g)
    {ks : List Int} (hks : P.map (·.1) = ks) (hkl : ks.length ≤ 100) {Q E : Value → Shared → Prop}
    (hQ : ∀ D vs n h' tk', IntsAre vs ks → h'.get? D = some (PySem.W.listOf vs.toArray n) → s.heap.get? D = none → Ext [] s.heap h' → Q (.ref D) { s with heap := h', toks := tk' }) :
    wpAny (model pr w) A (call (.type "list") [.ref self]) Q E s := by
  refine callType_codes (Q₁ := fun obj s₁ => obj = .ref s.heap.objs.size ∧ s₁ = { s with heap := s.heap.push { cls := .type "list", data := .seq #[] } }) PySem.F.called_list (PySem.F.typeCall_list_1 _) PySem.F.entry_list_init
    (code_list_new _ ⟨rfl, rfl⟩) fun obj s₁ h₁ => ?_
  obtain ⟨rfl, rfl⟩ := h₁
  have hS : (s.heap.push { cls := .type "list", data := .seq #[] }).get? s.heap.objs.size = some { cls := .type "list", data := .seq #[] } := Heap.get?_push_size _ rfl
  refine ⟨⟨_, hS, rfl⟩, PySem.F.args_list_init_2 _ _, ?_⟩
  have hmus : ∀ x ∈ ufL w self sd p q t1 t2 n oP oW, @LT.lt Nat _ x.1 s.heap.objs.size := fun x hx => Heap.lt_size (hmu x hx)
  have hss : @LT.lt Nat _ self s.heap.objs.size := hmus _ (.tail _ (.tail _ (.head _)))
  have hps : @LT.lt Nat _ p s.heap.objs.size := hmus _ (.head _)
  show wpAny _ _ (do let old ← Builtin.List.listItems (.ref s.heap.objs.size); Builtin.List.listUpdate (.ref s.heap.objs.size) (fun _ => #[]); letGo old.toList.reverse; Builtin.List.listExtendWith (.ref s.heap.objs.size) (.ref self) .none) _ _ _
  refine wpAny_bind ?_
  unfold Builtin.List.listItems
  refine wpAny_bind (wpAny_seqItems hS rfl (wpAny_pure ?_))
  show wpAny _ _ (updateSeq s.heap.objs.size (fun _ => #[]) >>= fun _ => letGo (#[] : Array Value).toList.reverse >>= fun _ => Builtin.List.listExtendWith (.ref s.heap.objs.size) (.ref self) .none) _ _ _
  refine wpAny_bind (wpAny_updateSeq hS rfl ?_)
  have hS₂ := Heap.get?_update_self (Obj.mapSeq (fun _ => (#[] : Array Value))) hS rfl
  have oth : ∀ b o, s.heap.get? b = some o → ((s.heap.push { cls := .type "list", data := .seq #[] }).update s.heap.objs.size (Obj.mapSeq (fun _ => (#[] : Array Value)))).get? b = some o :=
    fun b o e => (Heap.get?_update_other _ _ (Nat.ne_of_gt (Heap.lt_size e))).trans (Heap.get?_push_of_some _ e)
  refine wpAny_bind (wpAny_letGo ?_)
  generalize hh1 : (s.heap.push { cls := .type "list", data := .seq #[] }).update s.heap.objs.size (Obj.mapSeq (fun _ => (#[] : Array Value))) = h1 at hS₂ oth
  have F1 : Fr g L h1 m := F.keeps oth
  have hss1 : h1.get? self = some (instObj 65 sd) := oth _ _ (hmu _ (.tail _ (.tail _ (.head _))))
  have X1 : (hd.heap_39 w.params).In h1 := X.keeps F1.keep
  have I1 : InstAt h1 self (instObj 65 sd) 65 (some (sdObj w p q t1 t2 n)) := ⟨hss1, rfl, rfl, oth _ _ (hmu _ (.tail _ (.tail _ (.tail _ (.head _)))))⟩
  have hSne : s.heap.objs.size ≠ self := Nat.ne_of_gt hss
  obtain ⟨kvs, ep, hPat, hkl2, hkk⟩ := hP.at_ p
  unfold Builtin.List.listExtendWith
  refine wpAny_bind (I1.type.here ?_)
  have e1 : Builtin.List.listSameRef (.ref s.heap.objs.size) (.ref self) = false := by simp [Builtin.List.listSameRef, hSne]
  have e2 : (Value.ref 65 == Value.type "list") = false := rfl
  have e3 : (Value.ref 65 == Value.type "tuple") = false := rfl
  simp only [e1, e2, e3, Bool.or_false, Bool.false_eq_true, if_false]
  refine wpAny_bind (owit_iter (f := 50) (C := 65) F1 X I1 (by k_is) (by k_is) ?_)
  refine iter_spec (A := A.in1.in1) (outer := outer) (s := { s with heap := h1 }) G ⟨c.fr, c.ff.of_keeps fun b o e _ => ⟨o, oth b o e, rfl⟩, fun b o e => oth b o (c.kp b o e), c.hh⟩ (by show A.depth < recursionLimit; omega) hPat (fun x hx => oth _ _ (hmu x hx)) hB hf hp0 ?_
  intro I h2 tk2 hI hIn X2
  unfold OwitIt
  refine wpAny_specialOf (T := "dict_keyiterator") ⟨_, hI, rfl⟩ PySem.F.slot_dict_keyiterator_next.lookup ?_
  dsimp only
  have k2 : ∀ b o, h1.get? b = some o → h2.get? b = some o := fun b o e => X2 b o (fun h => nomatch h) e
  have hS3 := k2 _ _ hS₂
  have I2 : InstAt h2 self (instObj 65 sd) 65 (some (sdObj w p q t1 t2 n)) := ⟨k2 _ _ hss1, rfl, rfl, k2 _ _ (oth _ _ (hmu _ (.tail _ (.tail _ (.tail _ (.head _))))))⟩
  have X2K : (hd.heap_39 w.params).In h2 := X1.keeps k2
  have hIS : s.heap.objs.size ≠ I := fun e => by rw [← e, hS₂] at hIn; cases hIn
  have hSf : s.heap.objs.size ∉ [I, p] := by
    simp only [List.mem_cons, List.not_mem_nil, or_false, not_or]; exact ⟨hIS, Nat.ne_of_gt hps⟩
  have hpI : p ≠ I := fun e => by rw [← e, oth _ _ (hmu _ (.head _))] at hIn; cases hIn
  refine wpAny_bind (wpAny_holding ?_)
  unfold Builtin.List.listLengthHint
  refine wpAny_bind (wpAny_bind (I2.type.here ((looks_findIn (K := hd.heap_39 w.params) (name := "__len__") (r := none) X2K (by k_is)).here ?_)))
  show wpAny _ _ (specialOf (Value.ref self) (Str.ofString "__length_hint__") >>= _) _ _ _
  refine wpAny_bind (wpAny_bind (I2.type.here ((looks_findIn (K := hd.heap_39 w.params) (name := Str.ofString "__length_hint__") (r := none) X2K (by k_is)).here ?_)))
  refine wpAny_pure ?_
  show wpAny _ _ (rule "list.extend.makes-room" >>= fun _ => Builtin.List.listTouch (.ref s.heap.objs.size) >>= fun _ =>
    again (.builtin "list.extend.loop" ⟨[.ref s.heap.objs.size, .ref I, .none], []⟩)) _ _ _
  refine wpAny_bind (wpAny_rule ?_)
  refine wpAny_bind ?_
  show wpAny _ _ (updateSeq s.heap.objs.size (·.push .none) >>= fun _ => updateSeq s.heap.objs.size (·.pop)) _ _ _
  refine wpAny_bind (wpAny_updateSeq hS3 rfl ?_)
  have hS4 := Heap.get?_update_self (Obj.mapSeq (·.push Value.none)) hS3 rfl
  refine wpAny_updateSeq (hz := by seq_fits) hS4 rfl ?_
  have hS5 := Heap.get?_update_self (Obj.mapSeq (·.pop)) hS4 rfl
  have oth2 : ∀ b o, b ≠ s.heap.objs.size → h2.get? b = some o → ((h2.update s.heap.objs.size (Obj.mapSeq (·.push Value.none))).update s.heap.objs.size (Obj.mapSeq (·.pop))).get? b = some o :=
    fun b o hb e => (Heap.get?_update_other _ _ (Ne.symm hb)).trans ((Heap.get?_update_other _ _ (Ne.symm hb)).trans e)
  generalize (h2.update s.heap.objs.size (Obj.mapSeq (·.push Value.none))).update s.heap.objs.size (Obj.mapSeq (·.pop)) = h3 at hS5 oth2
  have hline : kvs.length ≤ sizeLine := by
    have e1 : kvs.length ≤ 100 := by rw [hkl2, ← List.length_map (f := (·.1)), hks]; exact hkl
    exact Nat.le_trans e1 (by decide)
  refine wpAny_pure ⟨plainId_quiet PySem.F.plain_extend_loop _, codeAny_extend_loopS (Walks.dictKeys (knd := intKind pr w) (A := A.in1.in1) c.hh I p hpI kvs ep).toS hline _ hSf _ kvs.length 0 _ _ _ rfl (Nat.zero_le _)
    ⟨⟨_, oth2 _ _ (Ne.symm hIS) hI, rfl, rfl⟩, hPat _ (oth2 _ _ (Nat.ne_of_lt hps) (k2 _ _ (oth _ _ (hmu _ (.head _)))))⟩ hS5 (ItemsOf.nil _) fun s' acc' c' hm hS' hacc => ?_⟩
  rw [Moved.eq_with hm]
  refine ⟨rfl, hQ _ acc'.toList c' s'.heap s'.toks ?_ (by rw [Array.toArray_toList]; exact hS') (Heap.get?_none_of_le (Nat.le_refl _)) fun b o _ e => hm.heap b o (fun hmem => ?_) (oth2 _ _ (Nat.ne_of_lt (Heap.lt_size e)) (k2 _ _ (oth _ _ e)))⟩
  · have hl : acc'.toList.length = ks.length := by rw [Array.length_toList, hacc.1, hkl2, ← hks, List.length_map]
    refine intsAre_of hl fun j v k e1 e2 => ?_
    obtain ⟨k', x, e3, e4⟩ := hacc.2 j v (by rw [← Array.getElem?_toList]; exact e1)
    obtain ⟨u, e5⟩ := hkk j k' x e3
    have e6 : ks[j]? = some k' := by rw [← hks, List.getElem?_map, e5]; rfl
    rw [e2] at e6
    obtain rfl := Option.some.inj e6
    exact PyProof.V.Flat.int_inv (kdl_flat_int e4)
  · rcases List.mem_cons.mp hmem with e' | hmem
    · exact Nat.ne_of_lt (Heap.lt_size e) e'
    · rw [List.mem_singleton.mp hmem] at e
      rw [oth _ _ e] at hIn; cases hIn
end
end Mine

end
theorem Mine.resetVE : True ∧ True := by
  first
  | (walk1; done)
  | exact ⟨trivial, trivial⟩
section
open PySem PySem.W PyProof.Rows PySem.Calls PySem.Spec PyProof.V
set_option maxRecDepth 100000
set_option maxHeartbeats 8000000
namespace Mine
theorem fillitVF : (PySem.Challenge.rw_bj0027_01 = PySem.Challenge.rw_bj0027_01 ∧ hd.heap_39 = hd.heap_39) := by k_fill; exact ⟨rfl, rfl⟩
local macro_rules | `(tactic| walk_at "Exists") => `(tactic| (refine Stop.intro ?_))
local macro_rules | `(tactic| walk_at "InvPostG") => `(tactic| (refine Stop.intro ?_))
local macro_rules | `(tactic| walk_at "InvEndG") => `(tactic| (refine Stop.intro ?_))
local macro_rules | `(tactic| walk_at "pyIter ref") => `(tactic| (refine Stop.intro ?_))
local macro_rules | `(tactic| walk_at "exec While") => `(tactic| (k_here; refine Stop.intro ?_))
local macro_rules | `(tactic| walk_at "getItem ref int") => `(tactic| (k_here; k_dflt (refine getItem_P (TabAt.ofNews (by k_asm) (by k_mem) (by assumption) (by assumption) (by assumption)) (by assumption) ?_; intro t')))
local macro_rules | `(tactic| walk_at "compareOp NotIn int ref") => `(tactic| (k_here; k_dflt (refine kdf_notin (TabAt.ofNews (by k_asm) (by k_mem) (by assumption) (by assumption) (by assumption)) ?_)))
theorem look_put_of {P : List (Int × Int)} {a r y : Int} {rt : Int → Int} (h : y = a → r = rt y) (h2 : y ≠ a → kdfLook P y 0 = rt y) : kdfLook (kdfPut P a r) y 0 = rt y := by
  rw [look_put]
  by_cases e : y = a
  · rw [if_pos e]; exact h e
  · rw [if_neg e]; exact h2 e
section
variable {w : World} {mean : ExcName → Option Value} {mg mb : Str → Option Value} {B : Heap} {A : Around} {outer : List Env} {s : Shared}
theorem getitem_flat (G : Gd w mean mg mb B) (c : Cx B A outer s)
    (hd : A.depth < recursionLimit)
    {self sd p q : Addr} {t1 t2 : Tok} {n : Nat} {oP oW : Obj} {P W : List (Int × Int)} (hP : DictI w oP P) (hW : DictI w oW W)
    (hmu : ∀ x ∈ ufL w self sd p q t1 t2 n oP oW, s.heap.get? x.1 = some x.2) (hB : ∀ x ∈ ufL w self sd p q t1 t2 n oP oW, B.get? x.1 = none)
    (hf : ∀ env ∈ outer, ∀ x ∈ ufL w self sd p q t1 t2 n oP oW, env.frame ≠ some x.1)
    (hp0 : (p == sysModules) = false) (hq0 : (q == sysModules) = false) (hpq : @Ne Nat p q) (hps : @Ne Nat p self) (hpd : @Ne Nat p sd) (hqs : @Ne Nat q self) (hqd : @Ne Nat q sd) (hsd : @Ne Nat self sd)
    {ks : List Int} {rt : Int → Int} {D : Nat} (fo : Fo ks rt D P W) (hkl : ks.length ≤ 100) (hD : D ≤ 1000)
    {i : Int} {t0 : Tok} {Q E : Value → Shared → Prop}
    (hQ : ∀ t h' tk' P' W' oP' oW', DictI w oP' P' → DictI w oW' W' → Fo (addK ks i) (addR ks rt i) D P' W' → (∀ x ∈ ufL w self sd p q t1 t2 n oP' oW', h'.get? x.1 = some x.2) → Ext [p, q, self, sd] s.heap h' → (∀ y ∈ ks, kdfLook P y 0 = rt y → kdfLook P' y 0 = rt y) → kdfLook P' i 0 = addR ks rt i i → Q (.int (addR ks rt i i) t) { s with heap := h', toks := tk' }) :
    wpAny (model pr w) A (call (.ref 43) [.ref self, .int i t0]) Q E s := by
  refine callP (f := 43) (binds := [(Str.ofString "self", .ref self), (Str.ofString "element", .int i t0)]) G c _ hmu hB hf (by k_is) (by k_is) hd (BindsTo.of_eq rfl) (locs rfl) (by decide) ?_ rfl rfl rfl
  intro g' L' h' F' N' B' G' X' _ _
  have hh := c.hh
  obtain ⟨KX', T'⟩ := G'
  obtain ⟨kP, hP1, hP2⟩ := hP
  obtain ⟨kW, hW1, hW2⟩ := hW
  have hPl : P.length ≤ 100 := by rw [fo.plen]; exact hkl
  have hWl : W.length ≤ 100 := Nat.le_trans fo.wlen hkl
  clear G c B' hmu hB hf
  change wpAny _ _ _ _ _ _
  k_fold
  k_steps
  · refine Stop.out ?_
    rename (kdfHas P i = true) => hin
    rename Fr _ _ _ _ => F2
    rename News _ _ _ _ => N2
    rename (_ < _ ∧ _ < _ ∧ _ < _ ∧ _ < _) => l1
    rename_i tkk _ l' _ _ ty hc
    have hin' : i ∈ ks := fo.has.mp hin
    obtain ⟨k0, hk0, u0⟩ := fo.up i hin'
    refine wpAny_While (codeAny_whileLoop (fun k s' => ∃ (h : Heap) (tk : Nat) (m : Str → Option Value) (vs : List Value) (nn : Nat) (xs : List Int) (x : Int) (tx ty : Tok),
      s' = { s with heap := h, toks := tk } ∧ Fr g' L' h m ∧ News g' L' h ((l', PySem.W.listOf vs.toArray nn) :: ufL w self sd p q t1 t2 n oP oW) ∧ m (Str.ofString "self") = some (.ref self) ∧ m (Str.ofString "element") = some (.int x tx) ∧
      m (Str.ofString "root") = some (.int (kdfLook P x 0) ty) ∧ m (Str.ofString "path") = some (.ref l') ∧ IntsAre vs xs ∧ Up P x (rt i) k ∧ (∀ a ∈ xs, a ≠ rt i ∧ ∃ j, Up P a (rt i) j) ∧ xs.length + k ≤ D ∧ (x = i ∨ i ∈ xs)) ?_ k0 ?_)
    · rintro k s' ⟨h3, tk3, m3, vs, nn, xs, x, tx, ty, rfl, F3, N3, e1, e2, e3, e4, hI, hU, hX, hle, hix⟩
      have hhas := hU.has
      have hhas2 : kdfHas P (kdfLook P x 0) = true := by
        by_cases hx : kdfLook P x 0 = x
        · rw [hx]; exact hhas
        · obtain ⟨_, _, u, _⟩ := hU.next hx; exact u.has
      have F4 := named F3 [(Str.ofString "self", .ref self), (Str.ofString "element", .int x tx), (Str.ofString "root", .int (kdfLook P x 0) ty), (Str.ofString "path", .ref l')]
        (by intro p hp; rcases hp with _ | ⟨_, _ | ⟨_, _ | ⟨_, _ | ⟨_, hp⟩⟩⟩⟩ <;> first | assumption | cases hp)
      clear F3 F2 N2
      k_steps
      · refine Stop.out ?_
        rename (kdfLook P x 0 ≠ x) => hne
        rename Fr _ _ _ _ => F5
        rename News _ _ _ _ => N5
        obtain ⟨k', rfl, u5, hr5⟩ := hU.next hne
        refine ⟨k', Nat.lt_succ_self _, _, _, _, _, _, xs ++ [x], kdfLook P x 0, _, _, rfl, F5, N5, rfl, rfl, rfl, rfl, ksk_snoc hI, u5, fun a ha => ?_, by rw [List.length_append, List.length_singleton]; omega, .inr (hix.elim (fun e => List.mem_append_right _ (by rw [e]; exact .head _)) fun h => List.mem_append_left _ h)⟩
        rcases List.mem_append.mp ha with ha | ha
        · exact hX a ha
        · rw [List.mem_singleton.mp ha]; exact ⟨hr5, _, hU⟩
      · refine Stop.out ?_
        rename (kdfLook P x 0 = x) => heq
        rename Fr _ _ _ _ => F5
        have hrx := (hU.eq_of_fix heq).1
        rw [heq] at F5
        have hX2 : ∀ a ∈ xs, a ∈ ks ∧ a ≠ x ∧ rt a = x := fun a ha => by
          obtain ⟨h1, j, u⟩ := hX a ha
          have h2 := fo.has.mp u.has
          obtain ⟨j', _, u'⟩ := fo.up a h2
          exact ⟨h2, hrx ▸ h1, hrx ▸ (Up.det u u').1.symm⟩
        refine kdl_iter (l := l') (vs := vs) (nn := nn) (fun jj m nx => ∃ oP' P', nx = (l', PySem.W.listOf vs.toArray nn) :: ufL w self sd p q t1 t2 n oP' oW ∧ DictI w oP' P' ∧ Fo ks rt D P' W ∧ m (Str.ofString "self") = some (.ref self) ∧ m (Str.ofString "root") = some (.int x ty) ∧ (∀ y ∈ ks, kdfLook P y 0 = rt y → kdfLook P' y 0 = rt y) ∧ (∀ a ∈ xs.take jj, kdfLook P' a 0 = rt a))
          hh (.head _) F5 N3 ⟨oP, P, rfl, ⟨_, hP1, hP2⟩, fo, rfl, rfl, (fun _ _ e => e), (fun _ h => nomatch h)⟩ ?_ ?_
        · rintro j v m₁ nx h6 tk6 own hv hoff _ ⟨oP', P', rfl, ⟨kP', hP1', hP2'⟩, fo', m1, m2, fl1, fl2⟩ F6 N6
          obtain ⟨a, ta, rfl, hma, hja⟩ : ∃ a ta, v = .int a ta ∧ a ∈ xs ∧ xs[j]? = some a := by
            have hj : j < xs.length := by rw [← hI.length]; exact (List.getElem?_eq_some_iff.mp hv).1
            obtain ⟨t, e⟩ := hI.get j (xs[j]'hj) (List.getElem?_eq_getElem hj)
            rw [hv] at e
            exact ⟨_, t, Option.some.inj e, List.getElem_mem hj, List.getElem?_eq_getElem hj⟩
          obtain ⟨ha1, ha2, ha3⟩ := hX2 a hma
          have hPl' : P'.length ≤ 100 := by rw [fo'.plen]; exact hkl
          have F7 := named F6 [(Str.ofString "self", .ref self), (Str.ofString "root", .int x ty), (Str.ofString "ancestor", .int a ta)]
            (by intro p hp; rcases hp with _ | ⟨_, _ | ⟨_, _ | ⟨_, hp⟩⟩⟩ <;> first | assumption | rfl | cases hp)
          clear F6 F5 N3 hP1 hP2
          simp only [List.map_cons, List.map_nil] at hoff
          dsimp only [List.cons_append, List.nil_append] at N6
          k_steps
          refine Stop.out ?_
          rename Fr _ _ _ _ => F8
          rename News _ _ _ _ => N8
          rename Obj.IsDictOf _ _ _ => hd8
          rename FlatPairs _ _ _ => hf8
          obtain ⟨k8, _, u8⟩ := fo'.up a ha1
          rw [ha3] at u8
          exact InvEndG.intro (nx := (l', PySem.W.listOf vs.toArray nn) :: ufL w self sd p q t1 t2 n _ oW) F8 N8 ⟨.head _, _, kdfPut P' a x, rfl, ⟨_, hd8, hf8⟩, fo'.short u8 ha2, rfl, rfl, (fun y hy e => look_put_of (fun e2 => by rw [e2, ha3]) fun _ => fl1 y hy e), (fun b hb => look_put_of (fun e2 => by rw [e2, ha3]) fun e2 => by
              rw [List.take_add_one, hja] at hb
              rcases List.mem_append.mp hb with hb | hb
              · exact fl2 b hb
              · exact absurd (List.mem_singleton.mp hb) e2)⟩ hoff
            (fun y hy => List.mem_append_left own hy) (fun y hy => List.mem_append_right ((l', PySem.W.listOf vs.toArray nn) :: ufL w self sd p q t1 t2 n _ oW) hy)
        · rintro m₁ nx h6 tk6 ⟨oP', P', rfl, hP', fo', m1, m2, fl1, fl2⟩ F6 N6
          have F7 := named F6 [(Str.ofString "self", .ref self), (Str.ofString "root", .int x ty)]
            (by intro p hp; rcases hp with _ | ⟨_, _ | ⟨_, hp⟩⟩ <;> first | assumption | rfl | cases hp)
          clear F6 F5 N3 hP1 hP2
          k_steps
          show Q (Value.int x ty) _
          have e5 := fun tkk => hQ ty h6 tkk P' W oP' oW hP' ⟨_, hW1, hW2⟩ (by unfold addK addR; rw [if_pos hin', if_pos hin']; exact fo') (fun y hy => (N6 y (.tail _ hy)).1) (X'.trans (Ext.of_stays F7.keep)) fl1 (by
            unfold addR; rw [if_pos hin']
            rcases hix with e | hm
            · refine fl1 i hin' ?_
              rw [hrx, ← e]; exact heq
            · exact fl2 i (by rw [List.take_of_length_le (Nat.le_of_eq (by first | exact hI.length.symm | (rw [List.size_toArray]; exact hI.length.symm)))]; exact hm))
          have e6 : addR ks rt i i = x := by unfold addR; rw [if_pos hin']; exact hrx
          rw [e6] at e5
          exact e5 _
    · exact ⟨_, _, _, [], 0, [], i, _, _, rfl, F2, N2, rfl, rfl, rfl, rfl, .nil, u0, (fun _ h => nomatch h), by simpa using hk0, .inl rfl⟩
  · rename (kdfHas P i = false) => hin
    rename_i h1 o1 kv1 F1 N1 hd1 hf1 h2 o2 kv2 F2 N2 hd2 hf2
    have hin' : i ∉ ks := fun e => by rw [fo.has.mpr e] at hin; cases hin
    show Q (Value.int i t0) _
    have e1 : addR ks rt i i = i := by unfold addR; rw [if_neg hin']; simp
    have e2 := fun tkk => hQ t0 h2 tkk _ _ o1 o2 ⟨_, hd1, hf1⟩ ⟨_, hd2, hf2⟩ (by unfold addK addR; rw [if_neg hin', if_neg hin']; exact fo.new hin') (fun x hx => (N2 x hx).1) (X'.trans (Ext.of_stays F2.keep)) (fun y hy e => look_put_of (fun e2 => absurd (e2 ▸ hy : i ∈ ks) hin') fun _ => e) (by rw [look_put, if_pos rfl]; exact e1.symm)
    rw [e1] at e2
    exact e2 _
end
end Mine

end
theorem Mine.resetVF : True ∧ True := by
  first
  | (walk1; done)
  | exact ⟨trivial, trivial⟩
section
open PySem PySem.W PyProof.Rows PySem.Calls PySem.Spec PyProof.V
set_option maxRecDepth 100000
set_option maxHeartbeats 8000000
namespace Mine
theorem fillitVG0 : (PySem.Challenge.rw_bj0027_01 = PySem.Challenge.rw_bj0027_01 ∧ hd.heap_39 = hd.heap_39) := by k_fill; exact ⟨rfl, rfl⟩
local macro_rules | `(tactic| walk_at "exec For Tuple Call cons nil") => `(tactic| (k_here; refine Stop.intro ?_))
local macro_rules | `(tactic| walk_at "exec For") => `(tactic| (k_here; refine Stop.intro ?_))
local macro_rules | `(tactic| walk_at "pyIter ref") => `(tactic| (refine Stop.intro ?_))
local macro_rules | `(tactic| walk_at "call type:set") => `(tactic| (k_here; refine Stop.intro ?_))
local macro_rules | `(tactic| walk_at "call type:dict") => `(tactic| (k_here; refine Stop.intro ?_))

section
variable {w : World} {A : Around} {E : Value → Shared → Prop} {s : Shared}
/-- what set() makes: empty, its table's kind as the world asks -/
abbrev noSet (w : World) : Obj := setObj #[] 0 (.fresh 0 0 (ledW w))
theorem set_made {P : Value → Shared → Prop} (h : P (.ref s.heap.objs.size) { s with heap := s.heap.push (noSet w) }) :
    codeAny (model pr w) A (.call (.builtin "set.__new__") ⟨[.type "set"], []⟩) (wants P E) s := by
  refine codeAny_call_builtin PySem.F.plain_set_new PySem.F.entry_set_new (wpAny_of_eq PySem.F.newCall_set_0 ?_)
  have sub := sub_set_self
  obtain ⟨hp, gs, dr, tk, os⟩ := s
  unfold Builtin.«set.__new__» Builtin.Frozenset.newClass
  wp_walk
  exact wpAny_askSetting (wpAny_pure (wpAny_bind (wpAny_alloc (wpAny_pure (wpAny_pure h)))))

/-- __init__ of a new set without arguments changes nothing -/
theorem set_inited {a : Addr} {P : Shared → Prop} (there : s.heap.get? a = some (noSet w)) (h : P s) :
    codeAny (model pr w) A (.call (.builtin "set.__init__") ⟨[.ref a], []⟩) (wants (fun r s₂ => r = .none ∧ P s₂) E) s :=
  codeAny_call_builtin PySem.F.called_set.init.plain PySem.F.entry_set_init (check_set_init ⟨_, there, rfl⟩ (by
    unfold Builtin.«set.__init__» noKeywords
    wp_walk
    exact ⟨rfl, h⟩))

theorem call_set_I {Q : Value → Shared → Prop} (h : ∀ o, SetI pr w o [] → Q (.ref s.heap.objs.size) { s with heap := s.heap.push o }) :
    wpAny (model pr w) A (call (.type "set") []) Q E s := by
  have ⟨_, _, mro⟩ := PySem.F.called_set.mro
  have ⟨f1, f2, f3, f4, f5⟩ := And.intro PySem.F.called_set.made (And.intro PySem.F.called_set.sub (And.intro PySem.F.called_set.notType (And.intro PySem.F.called_set.canCreate PySem.F.typeCall_set_0)))
  refine wpAny_call (codeAny_of_tree (wpAny_pure ⟨Code.quiet_builtin _ (by decide +kernel), codeAny_builtin PySem.F.entry_type_call ?_⟩))
  rw [Around.under_plain (weight_type_call_type "set" [] []) rfl]
  repeat (any_goals (first | assumption | wp_step))
  refine codeAny_mono (set_made (E := E) (P := fun v s₁ => ∃ a, v = .ref a ∧ s₁.heap.get? a = some (noSet w) ∧ Q v s₁)
    ⟨_, rfl, Heap.get?_push_size _ rfl, h _ ⟨#[], 0, _, rfl, nofun, .nil, by decide, ⟨rfl, rfl, rfl, List.Pairwise.nil⟩⟩⟩) fun r s₁ hr => ?_
  rcases r with e | fl
  · exact hr
  cases fl with
  | ret v =>
    obtain ⟨a, rfl, there, hq⟩ := hr
    have hT : s₁.TypeIs (.ref a) "set" := ⟨_, there, rfl⟩
    have g1 := PySem.F.called_set.init.lookup
    have g2 := PySem.F.called_set.init.bind (.ref a)
    repeat (any_goals (first | assumption | wp_step))
    refine codeAny_mono (set_inited (E := E) (P := Q (.ref a)) there hq) fun r₂ s₂ hr₂ => ?_
    rcases r₂ with e | fl₂
    · exact hr₂
    cases fl₂ with
    | ret u =>
      obtain ⟨rfl, hq₂⟩ := hr₂
      repeat (any_goals (first | assumption | wp_step))
    | _ => exact hr₂.elim
  | _ => exact hr.elim
end

/-! the table of lots: a key, the lot's address, its object, what is in it -/
abbrev Row := Int × Addr × Obj × List Int
def rkv (T : List Row) : List (Int × Value) := T.map fun t => (t.1, Value.ref t.2.1)
def rnw (T : List Row) : List (Addr × Obj) := T.map fun t => (t.2.1, t.2.2.1)
theorem rkv_app {a b : List Row} : rkv (a ++ b) = rkv a ++ rkv b := List.map_append
theorem rnw_app {a b : List Row} : rnw (a ++ b) = rnw a ++ rnw b := List.map_append
theorem rkv_same {a b : List Row} {k : Int} {x : Addr} {o o' : Obj} {ms ms' : List Int} : rkv (a ++ (k, x, o', ms') :: b) = rkv (a ++ (k, x, o, ms) :: b) := by
  simp [rkv]
theorem rvalue_none {T : List Row} {k : Int} (h : k ∉ T.map (·.1)) : valueAt (rkv T) k = none := by
  have : (rkv T).find? (fun kv => decide (kv.1 = k)) = none := List.find?_eq_none.mpr fun x hx => by
    obtain ⟨t, ht, rfl⟩ := List.mem_map.mp hx
    intro e
    exact h (List.mem_map.mpr ⟨t, ht, by simpa using e⟩)
  unfold valueAt
  rw [this]; rfl
theorem rvalue_some {a b : List Row} {t : Row} (h : ((a ++ t :: b).map (·.1)).Nodup) : valueAt (rkv (a ++ t :: b)) t.1 = some (.ref t.2.1) := by
  have : (rkv (a ++ t :: b)).find? (fun kv => decide (kv.1 = t.1)) = some (t.1, .ref t.2.1) := by
    unfold rkv
    rw [List.map_append, List.map_cons, List.find?_append]
    have : (a.map fun t => (t.1, Value.ref t.2.1)).find? (fun kv => decide (kv.1 = t.1)) = none := List.find?_eq_none.mpr fun x hx => by
      obtain ⟨u, hu, rfl⟩ := List.mem_map.mp hx
      intro e
      rw [List.map_append, List.nodup_append] at h
      exact h.2.2 u.1 (List.mem_map_of_mem hu) t.1 (by simp) (by simpa using e)
    rw [this]
    simp
  unfold valueAt
  rw [this]; rfl
theorem rstored {T : List Row} {k : Int} {x : Addr} {o : Obj} {ms : List Int} (h : k ∉ T.map (·.1)) : stored (rkv T) k (.ref x) = rkv (T ++ [(k, x, o, ms)]) := by
  unfold stored
  have : ((rkv T).any fun kv => decide (kv.1 = k)) = false := by
    rw [List.any_eq_false]
    intro y hy
    obtain ⟨t, ht, rfl⟩ := List.mem_map.mp hy
    intro e
    exact h (List.mem_map.mpr ⟨t, ht, by simpa using e⟩)
  rw [if_neg (by rw [this]; decide)]
  simp [rkv]

/-- what is told of the lots behind the pairs ps: (one, its root) -/
structure Gr (T : List Row) (ps : List (Int × Int)) : Prop where
  nd : (T.map (·.1)).Nodup
  ms : ∀ t ∈ T, t.2.2.2.Perm ((ps.filter fun q => decide (q.2 = t.1)).map (·.1))
  all : ∀ q ∈ ps, q.2 ∈ T.map (·.1)
theorem Gr.nil : Gr [] [] := ⟨List.nodup_nil, fun _ h => (nomatch h), fun _ h => (nomatch h)⟩
theorem Gr.fresh {T : List Row} {ps : List (Int × Int)} (g : Gr T ps) {k : Int} {x : Addr} {o : Obj} (h : k ∉ T.map (·.1)) : Gr (T ++ [(k, x, o, [])]) ps := by
  refine ⟨?_, fun t ht => ?_, fun q hq => ?_⟩
  · rw [List.map_append, List.nodup_append]
    refine ⟨g.nd, by simp, fun a ha b hb e => ?_⟩
    have hb' : b = k := by simpa using hb
    subst e; subst hb'; exact h ha
  · rcases List.mem_append.mp ht with ht | ht
    · exact g.ms t ht
    · rw [List.mem_singleton.mp ht]
      have : (ps.filter fun q => decide (q.2 = k)) = [] := List.filter_eq_nil_iff.mpr fun q hq e => h (by have := g.all q hq; rwa [show q.2 = k by simpa using e] at this)
      show List.Perm [] ((ps.filter fun q => decide (q.2 = k)).map (·.1))
      rw [this]; exact .rfl
  · rw [List.map_append]; exact List.mem_append_left _ (g.all q hq)
theorem Gr.add {a b : List Row} {k v : Int} {x : Addr} {o o' : Obj} {ms ms' : List Int} {ps : List (Int × Int)} (g : Gr (a ++ (k, x, o, ms) :: b) ps) (h : ms'.Perm (ms ++ [v])) :
    Gr (a ++ (k, x, o', ms') :: b) (ps ++ [(v, k)]) := by
  have ek : (a ++ (k, x, o', ms') :: b).map (·.1) = (a ++ (k, x, o, ms) :: b).map (·.1) := by simp
  have nd := g.nd
  rw [List.map_append, List.map_cons, List.nodup_append, List.nodup_cons] at nd
  have other : ∀ t : Row, t ∈ a ∨ t ∈ b → t.1 ≠ k := fun t ht e => by
    rcases ht with ht | ht
    · exact nd.2.2 t.1 (List.mem_map_of_mem ht) k (by simp) e
    · exact nd.2.1.1 (by have h2 : t.1 ∈ b.map (·.1) := List.mem_map_of_mem ht
                         rw [e] at h2; exact h2)
  refine ⟨by rw [ek]; exact g.nd, fun t ht => ?_, fun q hq => ?_⟩
  · rw [List.filter_append, List.map_append]
    have hs : ∀ t : Row, t ∈ a ∨ t ∈ b → t.2.2.2.Perm ((ps.filter fun q => decide (q.2 = t.1)).map (·.1) ++ (([(v, k)] : List (Int × Int)).filter fun q => decide (q.2 = t.1)).map (·.1)) := fun t ht => by
      have : (([(v, k)] : List (Int × Int)).filter fun q => decide (q.2 = t.1)) = [] := by simp [Ne.symm (other t ht)]
      rw [this, List.map_nil, List.append_nil]
      exact g.ms t (by rcases ht with ht | ht; exact List.mem_append_left _ ht; exact List.mem_append_right _ (.tail _ ht))
    rcases List.mem_append.mp ht with ht | ht
    · exact hs t (.inl ht)
    · rcases List.mem_cons.mp ht with rfl | ht
      · have e : (([(v, k)] : List (Int × Int)).filter fun q => decide (q.2 = k)).map (·.1) = [v] := by simp
        show ms'.Perm (((ps.filter fun q => decide (q.2 = k)).map (·.1)) ++ (([(v, k)] : List (Int × Int)).filter fun q => decide (q.2 = k)).map (·.1))
        rw [e]
        exact h.trans ((g.ms (k, x, o, ms) (List.mem_append_right _ (.head _))).append_right _)
      · exact hs t (Or.inr (by assumption))
  · rw [ek]
    rcases List.mem_append.mp hq with hq | hq
    · exact g.all q hq
    · rw [List.mem_singleton.mp hq]; simp
end Mine

end
theorem Mine.resetVG0 : True ∧ True := by
  first
  | (walk1; done)
  | exact ⟨trivial, trivial⟩
section
open PySem PySem.W PyProof.Rows PySem.Calls PySem.Spec PyProof.V
set_option maxRecDepth 100000
set_option maxHeartbeats 8000000
namespace Mine
section
variable {prog : Program} {w : World} {K : Type} [DecidableEq K] {knd : KeyKind prog w K} {A : Around} {s : Shared} {env : Env} {h₀ : Heap}
/-- a loop over the pairs of a dict, the iterator known to live: the library's turns, with its rule for a pair's names -/
theorem items_loop {R : Result → Shared → Prop} {xk xv : Str} {pk pv pt : Pos} {x1} {body : List Stmt} {it d : Addr} {kvs : List (K × Value)} {ep : Nat} {m : Str → Option Value} {news : List (Addr × Obj)}
    (hh : A.handled = none) (hxk : env.kindOf xk = some .local) (hxv : env.kindOf xv = some .local)
    (hp : (env.scope.kind == .class || (env.scope.kind == .module && env.locals != env.globals)) = false)
    (off : env.locals ∉ [it, d]) (hdi : d ≠ it) (hin : h₀.get? it = none) (hnw : ∀ p ∈ news, p.1 ∉ [it])
    (start : (∃ ok ov, IsItemIter s.heap it d 0 kvs.length ep ok ov) ∧ s.heap.DictAt knd d kvs ep) (F : Fr h₀ env.locals s.heap m) (N : News h₀ env.locals s.heap news)
    (J : Nat → (Str → Option Value) → List (Addr × Obj) → Prop) (h0 : J 0 m news)
    (step : ∀ i k v key m₁ nx s₁ own, kvs[i]? = some (k, v) → knd.is k key = true → J i m₁ nx → (∀ p ∈ nx, p.1 ∉ [it]) → (∀ p ∈ own, p.1 ∈ [it, d]) → (∃ o, s₁.heap.get? it = some o) → s₁.heap.DictAt knd d kvs ep →
      Fr h₀ env.locals s₁.heap (fun y => if y = xv then some v else if y = xk then some key else m₁ y) → News h₀ env.locals s₁.heap (own ++ nx) →
      wpAny (model prog w) A (execs body env) (LoopStepU h₀ env.locals [it] own (J (i + 1)) s₁) (notedBy (model prog w) A env fun e s' => R (.error e) s') s₁)
    (hR : ∀ h' tk m' nx, Fr h₀ env.locals h' m' → News h₀ env.locals h' nx → (∀ p ∈ nx, p.1 ∉ [it]) → J kvs.length m' nx → R (.ok .next) { s with heap := h', toks := tk }) :
    codeAny (model prog w) A (.forLoop (.Tuple [.Name xk pk, .Name xv pv] x1 pt) (.ref it) body [] env) R s := by
  refine ktu_loop (kti_itemsTurns (knd := knd) hh it d hdi kvs ep) off (fun b hb => List.mem_singleton.mp hb ▸ hin) hnw start F N J h0 ?_ hR
  rintro i _ m₁ nx h₁ tk₁ own - ⟨T, key, k, v, rfl, hx, hkey, hT⟩ hJ hoff hown - - ⟨⟨_, _, live⟩, hat⟩ F₁ N₁
  refine kcp_assign hh hT hxk hxv hp F₁.ns fun h₂ tk₂ hn₂ kept => ?_
  have notL : ∀ b o, h₀.get? b = some o → b ≠ env.locals := fun b o e q => Nat.lt_irrefl _ (Nat.lt_of_lt_of_le (q ▸ Heap.lt_size e) F₁.above)
  refine wpAny_mono (step i k v key m₁ nx ⟨h₂, _, _, tk₂, _⟩ own hx hkey hJ hoff hown ⟨_, kept it _ (fun e => off (e ▸ .head _)) live⟩ (hat.at fun o e => kept d o (fun e => off (e ▸ .tail _ (.head _))) e)
    ⟨hn₂, fun b o e => kept b o (notL b o e) (F₁.keep b o e), F₁.above⟩ (fun q hq => ⟨kept _ _ (N₁ q hq).2.1 (N₁ q hq).1, (N₁ q hq).2⟩)) (fun _ _ x => .ofU ?_) fun _ _ x => x
  exact x
end
end Mine

end
theorem Mine.resetVG1 : True ∧ True := by
  first
  | (walk1; done)
  | exact ⟨trivial, trivial⟩
section
open PySem PySem.W PyProof.Rows PySem.Calls PySem.Spec PyProof.V
set_option maxRecDepth 100000
set_option maxHeartbeats 8000000
namespace Mine
theorem fillitVG : (PySem.Challenge.rw_bj0027_01 = PySem.Challenge.rw_bj0027_01 ∧ hd.heap_39 = hd.heap_39) := by k_fill; exact ⟨rfl, rfl⟩
local macro_rules | `(tactic| walk_at "exec For Tuple Call cons nil") => `(tactic| (k_here; refine Stop.intro ?_))
local macro_rules | `(tactic| walk_at "exec For") => `(tactic| (k_here; refine Stop.intro ?_))
local macro_rules | `(tactic| walk_at "pyIter ref") => `(tactic| (refine Stop.intro ?_))
local macro_rules | `(tactic| walk_at "call type:set nil nil") => `(tactic| (k_here; refine Stop.intro ?_))
local macro_rules | `(tactic| walk_at "call builtin:dict.setdefault") => `(tactic| (k_here; refine Stop.intro ?_))
local macro_rules | `(tactic| walk_at "call builtin:set.add") => `(tactic| (k_here; refine Stop.intro ?_))
local macro_rules | `(tactic| walk_at "getMethod ref") => `(tactic| (k_here; (with_reducible show wpAny _ _ (getMethod (Value.ref _) (Str.ofString "add") _) _ _ _); refine Stop.intro ?_))
local macro_rules | `(tactic| walk_at "call type:dict") => `(tactic| (k_here; refine Stop.intro ?_))

theorem rows_upd {g h h' : Heap} {L : Addr} {m : Str → Option Value} {l own pre : List (Addr × Obj)} {Ta Tb : List Row} {r : Int} {a : Addr} {o o' : Obj} {ms ms' : List Int} (F : Fr g L h m) (N : News g L h l)
    (hl : ∀ q, (q ∈ own ∨ q ∈ pre ∨ q ∈ rnw (Ta ++ (r, a, o, ms) :: Tb)) → q ∈ l) (hsb : Heap.SameBut a h h') (ho' : h'.get? a = some o') (hne : ∀ q, (q ∈ own ∨ q ∈ pre) → q.1 ≠ a) (hadr : ((Ta ++ (r, a, o, ms) :: Tb).map (·.2.1)).Nodup) :
    Fr g L h' m ∧ News g L h' (own ++ (pre ++ rnw (Ta ++ (r, a, o', ms') :: Tb))) := by
  have ha := N (a, o) (hl _ (.inr (.inr (by rw [rnw_app]; exact List.mem_append_right _ (.head _)))))
  refine ⟨F.change hsb ha.2.1 ha.2.2, fun q hq => ?_⟩
  have keep : ∀ q, q ∈ l → q.1 ≠ a → h'.get? q.1 = some q.2 ∧ q.1 ≠ L ∧ g.get? q.1 = none := fun q hq hn => ⟨hsb.extBut _ _ hn (N q hq).1, (N q hq).2⟩
  rw [List.map_append, List.map_cons, List.nodup_append, List.nodup_cons] at hadr
  rcases List.mem_append.mp hq with hq | hq
  · exact keep q (hl q (.inl hq)) (hne q (.inl hq))
  · rcases List.mem_append.mp hq with hq | hq
    · exact keep q (hl q (.inr (.inl hq))) (hne q (.inr hq))
    · rw [rnw_app] at hq
      rcases List.mem_append.mp hq with hq | hq
      · refine keep q (hl q (.inr (.inr (by rw [rnw_app]; exact List.mem_append_left _ hq)))) fun e => ?_
        obtain ⟨t, ht, rfl⟩ := List.mem_map.mp hq
        exact hadr.2.2 _ (List.mem_map_of_mem ht) a (by simp) e
      · rcases List.mem_cons.mp hq with rfl | hq
        · exact ⟨ho', ha.2⟩
        · refine keep q (hl q (.inr (.inr (by rw [rnw_app]; exact List.mem_append_right _ (.tail _ hq))))) fun e => ?_
          obtain ⟨t, ht, rfl⟩ := List.mem_map.mp hq
          refine hadr.2.1.1 ?_
          have h2 : t.2.1 ∈ Tb.map (·.2.1) := List.mem_map_of_mem ht
          rw [show t.2.1 = a from e] at h2; exact h2

section
variable {w : World} {mean : ExcName → Option Value} {mg mb : Str → Option Value} {B : Heap} {A : Around} {outer : List Env} {s : Shared}
theorem groups_spec (G : Gd w mean mg mb B) (c : Cx B A outer s) (hdp : A.depth + 2 < recursionLimit)
    {p : Addr} {oP : Obj} {P : List (Int × Int)} (hP : DictI w oP P) (hmu : s.heap.get? p = some oP) (hB : B.get? p = none)
    (hf : ∀ env ∈ outer, env.frame ≠ some p) (hp0 : (p == sysModules) = false) (hPl : P.length ≤ 90) (hPn : (P.map (·.1)).Nodup)
    {Q E : Value → Shared → Prop}
    (hQ : ∀ (r : Addr) oR (T : List Row) h' tk', h'.get? r = some oR → Obj.IsDictOf (intKind pr w) oR (rkv T) → (r == sysModules) = false → Gr T P → (∀ t ∈ T, SetI pr w t.2.2.1 t.2.2.2) →
      (∀ t ∈ T, h'.get? t.2.1 = some t.2.2.1 ∧ s.heap.get? t.2.1 = none ∧ @Ne Nat t.2.1 r) → (T.map (·.2.1)).Nodup → T.length ≤ P.length → T.map (·.1) = (P.map (·.2)).foldl addK [] → s.heap.get? r = none → Ext [] s.heap h' → Q (.ref r) { s with heap := h', toks := tk' }) :
    wpAny (model pr w) A (call (.ref 21) [.ref p]) Q E s := by
  refine callP (f := 21) (binds := [(Str.ofString "many_to_one", .ref p)]) G c [(p, oP)] (fun x hx => by rw [List.mem_singleton.mp hx]; exact hmu) (fun x hx => by rw [List.mem_singleton.mp hx]; exact hB) (fun env he x hx => by rw [List.mem_singleton.mp hx]; exact hf env he) (by k_is) (by k_is) (by omega) (BindsTo.of_eq rfl) (locs rfl) (by decide) ?_ rfl rfl rfl
  intro g' L' h' F' N' B' G' X' hlt hL
  have hh := c.hh
  obtain ⟨KX', T'⟩ := G'
  obtain ⟨kP, hP1, hP2⟩ := hP
  clear c
  change wpAny _ _ _ _ _ _
  k_steps
  refine Stop.out ?_
  refine For_pair_inv g' ?_ (by intro _; rfl)
  k_steps
  refine Stop.out ?_
  rename Fr _ _ _ _ => F2
  rename News _ _ _ _ => N2
  rename_i D h1 o1 lo1 hs1 fs1 hi1 fi1 l1 h1' F1 N1 Vw h2 l2
  have l1 : @LT.lt Nat _ p D := l1
  have l2 : @LT.lt Nat _ D Vw ∧ @LT.lt Nat _ p Vw := l2
  obtain ⟨ep, hPat⟩ : ∃ ep, ∀ h : Heap, h.get? p = some oP → h.DictAt (intKind pr w) p kP ep := let ⟨es, ep, r⟩ := hP1; ⟨ep, fun h e => ⟨oP, es, e, r⟩⟩
  have hp2 := N2 _ (.tail _ (.tail _ (.head _)))
  have hpI : @Ne Nat p h2.objs.size := Nat.ne_of_lt (Heap.lt_size hp2.1)
  have nwI : ∀ q ∈ [(Vw, ({ cls := .type "dict_items", data := .fields #[.ref p] } : Obj)), (D, o1), (p, oP)], @LT.lt Nat _ q.1 h2.objs.size := fun q hq => Heap.lt_size (N2 q hq).1
  refine wpAny_pyIter_items (knd := intKind pr w) (d := p) (kvs := kP) (ep := ep) ⟨_, (N2 _ (.head _)).1, rfl, rfl⟩ (hPat _ hp2.1) ?_
  intro pk pv pt x1
  have N2' : News g' L' h2 [(D, o1), (Vw, { cls := .type "dict_items", data := .fields #[.ref p] }), (p, oP)] := fun q hq => N2 q (by
    rcases hq with _ | ⟨_, _ | ⟨_, hq⟩⟩
    · exact .tail _ (.head _)
    · exact .head _
    · exact .tail _ (.tail _ hq))
  have nwI' : ∀ q ∈ [(D, o1), (Vw, ({ cls := .type "dict_items", data := .fields #[.ref p] } : Obj)), (p, oP)], @LT.lt Nat _ q.1 h2.objs.size := fun q hq => Heap.lt_size (N2' q hq).1
  have offL : L' ∉ [h2.objs.size, p] := fun hm => by
    rcases List.mem_cons.mp hm with e | hm
    · exact Nat.ne_of_lt F2.ns.lt e
    · exact hp2.2.1 (List.mem_singleton.mp hm).symm
  refine items_loop (knd := intKind pr w) (h₀ := g') (news := [(D, o1), (Vw, { cls := .type "dict_items", data := .fields #[.ref p] }), (p, oP)]) hh (by with_unfolding_all rfl) (by with_unfolding_all rfl) (by with_unfolding_all rfl) offL hpI (next_is_new F2)
    (fun q hq e => Nat.ne_of_lt (nwI' q hq) (List.mem_singleton.mp e)) ⟨⟨_, _, Heap.get?_push_size _ rfl⟩, (hPat _ hp2.1).push _⟩ (F2.push _) (fun q hq => ⟨Heap.get?_push_of_some _ (N2' q hq).1, (N2' q hq).2⟩)
    (fun i m nx => ∃ oD T, nx = (D, oD) :: (Vw, { cls := .type "dict_items", data := .fields #[.ref p] }) :: (p, oP) :: rnw T ∧ Obj.IsDictOf (intKind pr w) oD (rkv T) ∧ Gr T (P.take i) ∧ (∀ t ∈ T, SetI pr w t.2.2.1 t.2.2.2) ∧ (T.map (·.2.1)).Nodup ∧ m (Str.ofString "one_to_many") = some (.ref D) ∧ (∀ t ∈ T, @Ne Nat t.2.1 D ∧ @Ne Nat t.2.1 Vw ∧ @Ne Nat t.2.1 p) ∧ T.length ≤ i ∧ T.map (·.1) = ((P.take i).map (·.2)).foldl addK []) ?_ ?_ ?_
  · exact ⟨o1, [], rfl, hi1, Gr.nil, (fun _ h => nomatch h), List.nodup_nil, rfl, (fun _ h => nomatch h), Nat.le_refl _, rfl⟩
  · intro i k v key m₁ nx s₁ own hx hkey ⟨oD, T, hnx, hoD, gr, hset, hadr, m1, hoff, hTl, hord⟩ hnit hown hlive hat F6 N6
    obtain ⟨hp6, gs6, dr6, tk6, os6⟩ := s₁
    refine wpAny_passesOwn PassesOwn.never ?_
    obtain ⟨tv, rfl⟩ := Value.isInt_shape hkey
    obtain ⟨dv, hdv, hfl⟩ := hP2.at hx
    obtain ⟨r, hPi, rfl⟩ : ∃ r, P[i]? = some (k, r) ∧ dv = PyData.int r := by
      rw [kdfD, List.getElem?_map] at hdv
      cases q : P[i]? with
      | none => rw [q] at hdv; cases hdv
      | some pr' => rw [q] at hdv; cases hdv; exact ⟨_, rfl, rfl⟩
    obtain ⟨tr, rfl⟩ := PyProof.V.Flat.int_inv hfl
    subst hnx
    have F7 := named F6 [(Str.ofString "one_to_many", .ref D), (Str.ofString "v", .int k tv), (Str.ofString "k", .int r tr)]
      (by intro p hp; rcases hp with _ | ⟨_, _ | ⟨_, _ | ⟨_, hp⟩⟩⟩ <;> first | exact m1 | rfl | cases hp)
    have N7 : News g' L' hp6 ((D, oD) :: (Vw, { cls := .type "dict_items", data := .fields #[.ref p] }) :: (p, oP) :: (rnw T ++ own)) := fun q hq => N6 q (by
      rcases hq with _ | ⟨_, _ | ⟨_, _ | ⟨_, hq⟩⟩⟩
      · exact List.mem_append_right _ (.head _)
      · exact List.mem_append_right _ (.tail _ (.head _))
      · exact List.mem_append_right _ (.tail _ (.tail _ (.head _)))
      · rcases List.mem_append.mp hq with hq | hq
        · exact List.mem_append_right _ (.tail _ (.tail _ (.tail _ hq)))
        · exact List.mem_append_left _ hq)
    clear F2 N2 N2' F1 N1 hs1 fs1 hi1 fi1 F6
    k_steps
    refine Stop.out ?_
    refine call_set_I fun oN hoN => ?_
    rename Fr _ _ _ _ => F8
    obtain ⟨oit, hoit⟩ := hlive
    have hfreeN : oN.isFreed = false := by obtain ⟨es, ep, t, rfl, _⟩ := hoN; rfl
    have hItlt : @LT.lt Nat _ h2.objs.size hp6.objs.size := Heap.lt_size hoit
    have N8 : News g' L' (hp6.push oN) ((D, oD) :: (Vw, { cls := .type "dict_items", data := .fields #[.ref p] }) :: (p, oP) :: (rnw T ++ ((hp6.objs.size, oN) :: own))) := fun q hq => (N7.push F8 oN hfreeN) q (by
      rcases hq with _ | ⟨_, _ | ⟨_, _ | ⟨_, hq⟩⟩⟩
      · exact .tail _ (.head _)
      · exact .tail _ (.tail _ (.head _))
      · exact .tail _ (.tail _ (.tail _ (.head _)))
      · rcases List.mem_append.mp hq with hq | hq
        · exact .tail _ (.tail _ (.tail _ (.tail _ (List.mem_append_left _ hq))))
        · rcases List.mem_cons.mp hq with rfl | hq
          · exact .head _
          · exact .tail _ (.tail _ (.tail _ (.tail _ (List.mem_append_right _ hq)))))
    have F8' : Fr g' L' (hp6.push oN) _ := F8.push oN
    have hltN : ∀ q ∈ (D, oD) :: (Vw, ({ cls := .type "dict_items", data := .fields #[.ref p] } : Obj)) :: (p, oP) :: (rnw T ++ own), @LT.lt Nat _ q.1 hp6.objs.size := fun q hq => Heap.lt_size (N7 q hq).1
    clear F8 N7
    have hiP : i < P.length := (List.getElem?_eq_some_iff.mp hPi).1
    have hTlen : (rkv T).length ≤ sizeLine := by
      have : T.length ≤ 90 := by omega
      exact Nat.le_trans (by rw [rkv, List.length_map]; exact this) (by decide)
    have etk : P.take (i + 1) = P.take i ++ [(k, r)] := by rw [List.take_add_one, hPi]; rfl
    have hnew : k ∉ (P.take i).map (·.1) := fun hm => by
      rw [List.map_take] at hm
      obtain ⟨j, hj, e⟩ := List.mem_iff_getElem.mp hm
      rw [List.length_take] at hj
      rw [List.getElem_take] at e
      have h0 : i < (P.map (·.1)).length := by rw [List.length_map]; exact hiP
      have e2 : (P.map (·.1))[i]'h0 = k := by rw [List.getElem_map, (List.getElem?_eq_some_iff.mp hPi).2]
      have := (List.getElem_inj (h₀ := by omega) (h₁ := h0) hPn).mp (e.trans e2.symm)
      omega
    have eord : ((P.take (i + 1)).map (·.2)).foldl addK [] = addK (T.map (·.1)) r := by rw [etk, List.map_append, List.foldl_append, ← hord]; rfl
    have hDI : @Ne Nat D h2.objs.size := Nat.ne_of_lt (nwI' _ (.head _))
    have hVI : @Ne Nat Vw h2.objs.size := Nat.ne_of_lt (nwI' _ (.tail _ (.head _)))
    have hTI : ∀ t ∈ T, @Ne Nat t.2.1 h2.objs.size := fun t ht e => hnit (t.2.1, t.2.2.1) (.tail _ (.tail _ (.tail _ (List.mem_map.mpr ⟨t, ht, rfl⟩)))) (List.mem_singleton.mpr e)
    k_steps
    refine Stop.out ?_
    by_cases hr : r ∈ T.map (·.1)
    · obtain ⟨t, ht, rfl⟩ := List.mem_map.mp hr
      obtain ⟨Ta, Tb, rfl⟩ := List.append_of_mem ht
      refine kob_setdef_there (knd := intKind pr w) N8 (.head _) hoD lo1 (intKind_is _ _ _ _) (PySem.F.args_dict_setdefault_3 _ _ _) (rvalue_some gr.nd) hTlen ?_
      obtain ⟨r, a, o, ms⟩ := t
      have N9 := N8
      have F9 := F8'
      have hset9 := hset
      have gr9 := gr
      have hoff9 := hoff
      have hTI9 := hTI
      have hadr9 := hadr
      have hd9 := hoD
      have hTl9 : (Ta ++ (r, a, o, ms) :: Tb).length ≤ i + 1 := Nat.le_succ_of_le hTl
      have hord9 : ∀ {o' : Obj} {ms' : List Int}, (Ta ++ (r, a, o', ms') :: Tb).map (·.1) = ((P.take (i + 1)).map (·.2)).foldl addK [] := by
        intro o' ms'
        have e1 : addK ((Ta ++ (r, a, o, ms) :: Tb).map (·.1)) r = (Ta ++ (r, a, o, ms) :: Tb).map (·.1) := by unfold addK; rw [if_pos (by simp)]
        have e2 : (Ta ++ (r, a, o', ms') :: Tb).map (·.1) = (Ta ++ (r, a, o, ms) :: Tb).map (·.1) := by simp
        rw [e2, ← e1]; exact eord.symm
      generalize hp6.push oN = h9 at N9 F9
      have hoD9 : ∃ oD9, oD9 = oD := ⟨_, rfl⟩
      obtain ⟨oD9, eD9⟩ := hoD9
      rw [← eD9] at N9 hd9
      clear F8' N8
      k_steps
      refine Stop.out ?_
      have hset9' := hset9 _ (List.mem_append_right _ (.head _))
      have ha9 := (N9 (a, o) (.tail _ (.tail _ (.tail _ (List.mem_append_left _ (by rw [rnw_app]; exact List.mem_append_right _ (.head _))))))).1
      refine getMethod_builtin (s := ⟨h9, gs6, dr6, _, os6⟩) ⟨_, ha9, by obtain ⟨es, ep, t, rfl, _⟩ := hset9'; rfl⟩ PySem.F.plainAttrs_set PySem.F.slot_set_add PySem.F.type_set_add (fun b e => by cases e; exact ⟨_, ha9, by obtain ⟨es, ep, t, rfl, _⟩ := hset9'; rfl⟩) ?_
      k_steps
      refine Stop.out ?_
      have hperm : ms.Perm (((P.take i).filter fun q => decide (q.2 = r)).map (·.1)) := gr9.ms (r, a, o, ms) (List.mem_append_right _ (.head _))
      have hml : ms.length < 100 := by
        have e1 := hperm.length_eq
        rw [List.length_map] at e1
        have e2 := List.length_filter_le (fun q : Int × Int => decide (q.2 = r)) (P.take i)
        rw [List.length_take] at e2
        omega
      have hkm : k ∉ ms := fun hm => by
        obtain ⟨q, hq, e⟩ := List.mem_map.mp (hperm.mem_iff.mp hm)
        exact hnew (List.mem_map.mpr ⟨q, (List.mem_filter.mp hq).1, e⟩)
      refine callAdd_I ha9 hset9' hml fun h10 o' ms' tk10 hsb ho' hs' hpm => ?_
      rw [if_neg hkm] at hpm
      obtain ⟨F10, N10⟩ := rows_upd (own := own) (pre := [(D, oD9), (Vw, { cls := .type "dict_items", data := .fields #[.ref p] }), (p, oP)]) (ms' := ms') F9 N9 (fun q hq => by
        rcases hq with hq | hq | hq
        · exact .tail _ (.tail _ (.tail _ (List.mem_append_right _ (by first | exact hq | exact .tail _ hq))))
        · rcases hq with _ | ⟨_, _ | ⟨_, _ | ⟨_, hq⟩⟩⟩
          · exact .head _
          · exact .tail _ (.head _)
          · exact .tail _ (.tail _ (.head _))
          · cases hq
        · exact .tail _ (.tail _ (.tail _ (List.mem_append_left _ hq)))) hsb ho' (fun q hq => by
        have hof := hoff9 (r, a, o, ms) (List.mem_append_right _ (.head _))
        have hit9 := hTI9 (r, a, o, ms) (List.mem_append_right _ (.head _))
        rcases hq with hq | hq
        · rcases List.mem_cons.mp (hown q hq) with e | e
          · rw [e]; exact Ne.symm hit9
          · rw [List.mem_singleton.mp e]; exact Ne.symm hof.2.2
        · rcases hq with _ | ⟨_, _ | ⟨_, _ | ⟨_, hq⟩⟩⟩
          · exact Ne.symm hof.1
          · exact Ne.symm hof.2.1
          · exact Ne.symm hof.2.2
          · cases hq) hadr9
      have eadr : (Ta ++ (r, a, o', ms') :: Tb).map (·.2.1) = (Ta ++ (r, a, o, ms) :: Tb).map (·.2.1) := by simp
      have eall : ∀ {Pr : Addr → Prop}, (∀ t ∈ Ta ++ (r, a, o, ms) :: Tb, Pr t.2.1) → ∀ t ∈ Ta ++ (r, a, o', ms') :: Tb, Pr t.2.1 := fun {Pr} hA t ht => by
        have hx : t.2.1 ∈ (Ta ++ (r, a, o', ms') :: Tb).map (·.2.1) := List.mem_map_of_mem ht
        rw [eadr] at hx
        obtain ⟨u, hu, e⟩ := List.mem_map.mp hx
        exact e ▸ hA u hu
      clear F9 N9
      k_steps
      refine LoopStepU.intro F10 N10 (fun q hq e => ?_) ⟨oD9, Ta ++ (r, a, o', ms') :: Tb, rfl, by rw [rkv_same (o := o) (ms := ms)]; exact hd9, by rw [etk]; exact gr9.add hpm, fun t ht => ?_, by rw [eadr]; exact hadr9, rfl, eall (Pr := fun x => @Ne Nat x D ∧ @Ne Nat x Vw ∧ @Ne Nat x p) hoff9, by rw [List.length_append, List.length_cons] at hTl9 ⊢; exact hTl9, hord9⟩
      · have e := List.mem_singleton.mp e
        rcases hq with _ | ⟨_, _ | ⟨_, _ | ⟨_, hq⟩⟩⟩
        · exact hDI e
        · exact hVI e
        · exact hpI e
        · obtain ⟨t, ht, rfl⟩ := List.mem_map.mp hq
          exact eall (Pr := fun x => @Ne Nat x h2.objs.size) hTI9 t ht e
      · rcases List.mem_append.mp ht with ht | ht
        · exact hset9 t (List.mem_append_left _ ht)
        · rcases List.mem_cons.mp ht with rfl | ht
          · exact hs'
          · exact hset9 t (List.mem_append_right _ (.tail _ ht))
    · refine kob_setdef_new (knd := intKind pr w) F8' N8 (UpdF.head ?_) hoD lo1 (intKind_is _ _ _ _) (PySem.F.args_dict_setdefault_3 _ _ _) (rvalue_none hr) hTlen fun h9 oD9 F9 N9 hd9 => ?_
      · intro q hq
        rcases hq with _ | ⟨_, _ | ⟨_, hq⟩⟩
        · exact Nat.ne_of_gt l2.1
        · exact Nat.ne_of_lt l1
        · rcases List.mem_append.mp hq with hq | hq
          · obtain ⟨t, ht, rfl⟩ := List.mem_map.mp hq
            exact (hoff t ht).1
          · rcases List.mem_cons.mp hq with rfl | hq
            · exact Nat.ne_of_gt (hltN _ (.head _))
            · rcases List.mem_cons.mp (hown q hq) with e | e
              · rw [e]; exact Ne.symm hDI
              · rw [List.mem_singleton.mp e]; exact Nat.ne_of_lt l1
      have hltT : ∀ t ∈ T, @LT.lt Nat _ t.2.1 hp6.objs.size := fun t ht => hltN (t.2.1, t.2.2.1) (.tail _ (.tail _ (.tail _ (List.mem_append_left _ (List.mem_map.mpr ⟨t, ht, rfl⟩)))))
      have one : ∀ {Pr : Row → Prop}, (∀ t ∈ T, Pr t) → Pr (r, hp6.objs.size, oN, []) → ∀ t ∈ T ++ (r, hp6.objs.size, oN, ([] : List Int)) :: [], Pr t := fun {Pr} hA h1 t ht => by
        rcases List.mem_append.mp ht with ht | ht
        · exact hA t ht
        · rw [List.mem_singleton.mp ht]; exact h1
      have hset9 := one (Pr := fun t => SetI pr w t.2.2.1 t.2.2.2) hset hoN
      have gr9 := gr.fresh (x := hp6.objs.size) (o := oN) hr
      have hoff9 := one (Pr := fun t => @Ne Nat t.2.1 D ∧ @Ne Nat t.2.1 Vw ∧ @Ne Nat t.2.1 p) hoff ⟨Nat.ne_of_gt (hltN _ (.head _)), Nat.ne_of_gt (hltN _ (.tail _ (.head _))), Nat.ne_of_gt (hltN _ (.tail _ (.tail _ (.head _))))⟩
      have hTI9 := one (Pr := fun t => @Ne Nat t.2.1 h2.objs.size) hTI (Nat.ne_of_gt hItlt)
      have hadr9 : ((T ++ (r, hp6.objs.size, oN, ([] : List Int)) :: []).map (·.2.1)).Nodup := by
        rw [List.map_append, List.nodup_append]
        refine ⟨hadr, by simp, fun x hx y hy e => ?_⟩
        obtain ⟨t, ht, rfl⟩ := List.mem_map.mp hx
        have hy' : y = hp6.objs.size := by simpa using hy
        subst hy'
        exact Nat.ne_of_lt (hltT t ht) e
      have hTl9 : (T ++ (r, hp6.objs.size, oN, ([] : List Int)) :: []).length ≤ i + 1 := by rw [List.length_append]; simp; omega
      have hord9 : ∀ {o' : Obj} {ms' : List Int}, (T ++ (r, hp6.objs.size, o', ms') :: []).map (·.1) = ((P.take (i + 1)).map (·.2)).foldl addK [] := by
        intro o' ms'
        rw [eord]; unfold addK; rw [if_neg hr]; simp
      rw [rstored (o := oN) (ms := []) hr] at hd9
      have N9 : News g' L' h9 ((D, oD9) :: (Vw, { cls := .type "dict_items", data := .fields #[.ref p] }) :: (p, oP) :: (rnw (T ++ (r, hp6.objs.size, oN, ([] : List Int)) :: []) ++ own)) := fun q hq => N9 q (by
        rcases hq with _ | ⟨_, _ | ⟨_, _ | ⟨_, hq⟩⟩⟩
        · exact .head _
        · exact .tail _ (.head _)
        · exact .tail _ (.tail _ (.head _))
        · refine .tail _ (.tail _ (.tail _ ?_))
          rcases List.mem_append.mp hq with hq | hq
          · rw [rnw_app] at hq
            rcases List.mem_append.mp hq with hq | hq
            · exact List.mem_append_left _ hq
            · rw [List.mem_singleton.mp hq]; exact List.mem_append_right _ (.head _)
          · exact List.mem_append_right _ (.tail _ hq))
      clear F8' N8
      k_steps
      refine Stop.out ?_
      have hset9' := hset9 _ (List.mem_append_right _ (.head _))
      have ha9 := (N9 (hp6.objs.size, oN) (.tail _ (.tail _ (.tail _ (List.mem_append_left _ (by rw [rnw_app]; exact List.mem_append_right _ (.head _))))))).1
      refine getMethod_builtin (s := ⟨h9, gs6, dr6, _, os6⟩) ⟨_, ha9, by obtain ⟨es, ep, t, rfl, _⟩ := hset9'; rfl⟩ PySem.F.plainAttrs_set PySem.F.slot_set_add PySem.F.type_set_add (fun b e => by cases e; exact ⟨_, ha9, by obtain ⟨es, ep, t, rfl, _⟩ := hset9'; rfl⟩) ?_
      k_steps
      refine Stop.out ?_
      have hperm : ([] : List Int).Perm (((P.take i).filter fun q => decide (q.2 = r)).map (·.1)) := gr9.ms (r, hp6.objs.size, oN, ([] : List Int)) (List.mem_append_right _ (.head _))
      have hml : ([] : List Int).length < 100 := by
        have e1 := hperm.length_eq
        rw [List.length_map] at e1
        have e2 := List.length_filter_le (fun q : Int × Int => decide (q.2 = r)) (P.take i)
        rw [List.length_take] at e2
        omega
      have hkm : k ∉ ([] : List Int) := fun hm => by
        obtain ⟨q, hq, e⟩ := List.mem_map.mp (hperm.mem_iff.mp hm)
        exact hnew (List.mem_map.mpr ⟨q, (List.mem_filter.mp hq).1, e⟩)
      refine callAdd_I ha9 hset9' hml fun h10 o' ms' tk10 hsb ho' hs' hpm => ?_
      rw [if_neg hkm] at hpm
      obtain ⟨F10, N10⟩ := rows_upd (own := own) (pre := [(D, oD9), (Vw, { cls := .type "dict_items", data := .fields #[.ref p] }), (p, oP)]) (ms' := ms') F9 N9 (fun q hq => by
        rcases hq with hq | hq | hq
        · exact .tail _ (.tail _ (.tail _ (List.mem_append_right _ (by first | exact hq | exact .tail _ hq))))
        · rcases hq with _ | ⟨_, _ | ⟨_, _ | ⟨_, hq⟩⟩⟩
          · exact .head _
          · exact .tail _ (.head _)
          · exact .tail _ (.tail _ (.head _))
          · cases hq
        · exact .tail _ (.tail _ (.tail _ (List.mem_append_left _ hq)))) hsb ho' (fun q hq => by
        have hof := hoff9 (r, hp6.objs.size, oN, ([] : List Int)) (List.mem_append_right _ (.head _))
        have hit9 := hTI9 (r, hp6.objs.size, oN, ([] : List Int)) (List.mem_append_right _ (.head _))
        rcases hq with hq | hq
        · rcases List.mem_cons.mp (hown q hq) with e | e
          · rw [e]; exact Ne.symm hit9
          · rw [List.mem_singleton.mp e]; exact Ne.symm hof.2.2
        · rcases hq with _ | ⟨_, _ | ⟨_, _ | ⟨_, hq⟩⟩⟩
          · exact Ne.symm hof.1
          · exact Ne.symm hof.2.1
          · exact Ne.symm hof.2.2
          · cases hq) hadr9
      have eadr : (T ++ (r, hp6.objs.size, o', ms') :: []).map (·.2.1) = (T ++ (r, hp6.objs.size, oN, ([] : List Int)) :: []).map (·.2.1) := by simp
      have eall : ∀ {Pr : Addr → Prop}, (∀ t ∈ T ++ (r, hp6.objs.size, oN, ([] : List Int)) :: [], Pr t.2.1) → ∀ t ∈ T ++ (r, hp6.objs.size, o', ms') :: [], Pr t.2.1 := fun {Pr} hA t ht => by
        have hx : t.2.1 ∈ (T ++ (r, hp6.objs.size, o', ms') :: []).map (·.2.1) := List.mem_map_of_mem ht
        rw [eadr] at hx
        obtain ⟨u, hu, e⟩ := List.mem_map.mp hx
        exact e ▸ hA u hu
      clear F9 N9
      k_steps
      refine LoopStepU.intro F10 N10 (fun q hq e => ?_) ⟨oD9, T ++ (r, hp6.objs.size, o', ms') :: [], rfl, by rw [rkv_same (o := oN) (ms := [])]; exact hd9, by rw [etk]; exact gr9.add hpm, fun t ht => ?_, by rw [eadr]; exact hadr9, rfl, eall (Pr := fun x => @Ne Nat x D ∧ @Ne Nat x Vw ∧ @Ne Nat x p) hoff9, by rw [List.length_append, List.length_cons] at hTl9 ⊢; exact hTl9, hord9⟩
      · have e := List.mem_singleton.mp e
        rcases hq with _ | ⟨_, _ | ⟨_, _ | ⟨_, hq⟩⟩⟩
        · exact hDI e
        · exact hVI e
        · exact hpI e
        · obtain ⟨t, ht, rfl⟩ := List.mem_map.mp hq
          exact eall (Pr := fun x => @Ne Nat x h2.objs.size) hTI9 t ht e
      · rcases List.mem_append.mp ht with ht | ht
        · exact hset9 t (List.mem_append_left _ ht)
        · rcases List.mem_cons.mp ht with rfl | ht
          · exact hs'
          · exact hset9 t (List.mem_append_right _ (.tail _ ht))
  · rintro h6 tk6 m₁ nx F6 N6 - ⟨oD, T, rfl, hoD, gr, hset, hadr, m1, hoff, hTl, hord⟩
    have F7 := named F6 [(Str.ofString "one_to_many", .ref D)] (by intro p hp; rcases hp with _ | ⟨_, hp⟩ <;> first | exact m1 | cases hp)
    have hkl : kP.length = P.length := by have := hP2.length; simp only [kdfD, List.length_map] at this; omega
    clear F2 N2 N2' F1 N1 hs1 fs1 hi1 fi1 F6
    show wpAny _ _ _ _ _ _
    k_steps
    refine Stop.out ?_
    rw [hkl, List.take_length] at gr hord
    refine kt_call_dict (knd := intKind pr w) lo1 (Heap.dictOf_iff.mpr ⟨_, (N6 _ (.head _)).1, hoD⟩) (Nat.le_trans (by rw [rkv, List.length_map]; omega : (rkv T).length ≤ 90) (by decide)) fun h7 hm7 hs7 => ?_
    obtain ⟨oR, hoR, hdR⟩ := Heap.dictOf_iff.mp hm7
    have k7 : ∀ b o, h6.get? b = some o → h7.get? b = some o := fun b o e => hs7.extBut _ _ (Nat.ne_of_lt (Heap.lt_size e)) (Heap.get?_push_of_some _ e)
    have F8 := F7.keeps k7
    have hfr : ∀ x : Addr, @Ne Nat x p → g'.get? x = none → s.heap.get? x = none := fun x hx e => by
      cases q : s.heap.get? x with
      | none => rfl
      | some o => have := X' x o (fun hm => hx (List.mem_singleton.mp hm)) q; rw [e] at this; cases this
    have h6R : h6.get? h6.objs.size = none := Heap.get?_none_of_le (Nat.le_refl _)
    have gR : g'.get? h6.objs.size = none := by
      cases q : g'.get? h6.objs.size with
      | none => rfl
      | some o => have := F7.keep _ _ q; rw [h6R] at this; cases this
    k_steps
    have hpT : ∀ t ∈ T, @LT.lt Nat _ t.2.1 h6.objs.size ∧ h6.get? t.2.1 = some t.2.2.1 ∧ g'.get? t.2.1 = none := fun t ht => by
      have := N6 (t.2.1, t.2.2.1) (.tail _ (.tail _ (.tail _ (List.mem_map.mpr ⟨t, ht, rfl⟩))))
      exact ⟨Heap.lt_size this.1, this.1, this.2.2⟩
    refine hQ h6.objs.size oR T h7 _ hoR hdR (F7.notModules (modules_low T'.nolimit)) gr hset (fun t ht => ⟨k7 _ _ (hpT t ht).2.1, hfr _ (hoff t ht).2.2 (hpT t ht).2.2, Nat.ne_of_lt (hpT t ht).1⟩) hadr (by omega) hord
      (hfr _ (Nat.ne_of_gt (Heap.lt_size (N6 (p, oP) (.tail _ (.tail _ (.head _)))).1)) gR) ?_
    intro b o _ e
    by_cases hb : b = p
    · subst hb
      rw [hmu] at e; cases e
      exact k7 _ _ (N6 (b, oP) (.tail _ (.tail _ (.head _)))).1
    · exact F8.keep _ _ (X' b o (fun hm => hb (List.mem_singleton.mp hm)) e)
end
end Mine

end
theorem Mine.resetVG : True ∧ True := by
  first
  | (walk1; done)
  | exact ⟨trivial, trivial⟩
section
open PySem PySem.W PyProof.Rows PySem.Calls PySem.Spec PyProof.V
set_option maxRecDepth 100000
set_option maxHeartbeats 8000000
namespace Mine
theorem fillitVH : (PySem.Challenge.rw_bj0027_01 = PySem.Challenge.rw_bj0027_01 ∧ hd.heap_39 = hd.heap_39) := by k_fill; exact ⟨rfl, rfl⟩
local macro_rules | `(tactic| walk_at "Exists") => `(tactic| (refine Stop.intro ?_))
local macro_rules | `(tactic| walk_at "InvPostG") => `(tactic| (refine Stop.intro ?_))
local macro_rules | `(tactic| walk_at "InvEndG") => `(tactic| (refine Stop.intro ?_))
local macro_rules | `(tactic| walk_at "pyIter ref") => `(tactic| (refine Stop.intro ?_))
local macro_rules | `(tactic| walk_at "exec While") => `(tactic| (k_here; refine Stop.intro ?_))
local macro_rules | `(tactic| walk_at "getItem ref int") => `(tactic| (k_here; k_dflt (refine getItem_P (TabAt.ofNews (by k_asm) (by k_mem) (by assumption) (by assumption) (by assumption)) (by assumption) ?_; intro t')))
local macro_rules | `(tactic| walk_at "compareOp NotIn int ref") => `(tactic| (k_here; k_dflt (refine kdf_notin (TabAt.ofNews (by k_asm) (by k_mem) (by assumption) (by assumption) (by assumption)) ?_)))
def EpIs (o : Obj) (ep : Nat) : Prop := ∃ es, o.data = .dict es ep
section
variable {prog : Program} {w : World} {K : Type} [DecidableEq K] {knd : KeyKind prog w K} {A : Around} {E : Value → Shared → Prop} {s : Shared}
/-- where a known key stands, and what putting a value there does to the pairs -/
theorem place_of {es : Array DictEntry} {kvs : List (K × Value)} {k : K} (v : Value) (hp : Pairs knd es.toList kvs) (hn : (kvs.map (·.1)).Nodup) (hin : k ∈ kvs.map (·.1)) :
    ∃ i, (es.findIdx? fun e => knd.is k e.key) = some i ∧ Pairs knd (es.modify i fun e => { e with val := v }).toList (stored kvs k v) ∧ ((stored kvs k v).map (·.1)).Nodup := by
  obtain ⟨l⟩ := es
  have at' := hp.findIdx k
  cases hi : kvs.findIdx? fun kv => decide (kv.1 = k) with
  | none => exact absurd hin (not_mem_of_findIdx_none hi)
  | some i =>
    have there : stored kvs k v = _ := (stored.eq_1 kvs k v).trans (if_pos (any_of_findIdx_some hi))
    refine ⟨i, by rw [List.findIdx?_toArray]; exact at'.trans hi, ?_, ?_⟩
    · rw [there]
      simpa using hp.modify hn (at'.trans hi) v
    · rw [there, keys_map_store]
      exact hn
/-- d[key] = v at a known key: the epoch stays -/
theorem setItem_old {d : Addr} {o : Obj} {ep : Nat} {kvs : List (K × Value)} {k : K} {key v : Value} {Q : Unit → Shared → Prop} (hkey : knd.is k key = true) (ho : s.heap.get? d = some o) (hd0 : o.IsDictOf knd kvs) (he : EpIs o ep) (hin : k ∈ kvs.map (·.1))
    (hQ : ∀ h' o', h'.get? d = some o' → o'.IsDictOf knd (stored kvs k v) → EpIs o' ep → Heap.SameBut d s.heap h' → Q () { s with heap := h', toks := s.toks + 1 }) :
    wpAny (model prog w) A (setItem (.ref d) key v) Q E s := by
  have T : s.TypeIs (.ref d) "dict" := (Heap.dictOf_iff.mpr ⟨o, ho, hd0⟩ : s.heap.DictOf knd d kvs).typeIs
  obtain ⟨es, _, hc, hd, hk, hp, hn⟩ := hd0
  obtain ⟨_, he⟩ := he
  cases hd.symm.trans he
  obtain ⟨i, hi, hp', hn'⟩ := place_of v hp hn hin
  unfold setItem
  refine wpAny_holding (wpAny_bind (wpAny_sequenceKey T (by decide) ?_))
  refine wpAny_bind (wpAny_callSpecial?_slot (name := Str.ofString "__setitem__") T slot_dict_setitem (wpAny_call_entry slot_dict_setitem T entry_dict_setitem ?_ (args_dict_setitem _ _ _)))
  refine wpAny_bind (wpAny_notOrdered_dict T ?_)
  change wpAny _ _ (dictSet d key v >>= _) _ _ s
  unfold dictSet dictSetHashed
  refine wpAny_bind (wpAny_holding (wpAny_bind (knd.pyHash hkey (wpAny_holding ?_))))
  refine wpAny_bind (wpAny_dictFind_of (s := { s with toks := s.toks + 1 }) hkey ho hd hk ?_)
  rw [hi]
  have put := Heap.get?_update_self (Obj.mapDict fun es => es.modify i fun e => { e with val := v }) ho (Obj.isFreed_of_dict (Obj.data_mapDict hd _))
  have made : Obj.IsDictOf knd (Obj.mapDict (fun es => es.modify i fun e => { e with val := v }) o) (stored kvs k v) := ⟨_, ep, hc.mapDict _, Obj.data_mapDict hd _, hk.modify _ _, hp', hn'⟩
  exact wpAny_bind (wpAny_rule (wpAny_bind (wpAny_updateDict (s := { s with toks := s.toks + 1 }) ho hd (wpAny_point (wpAny_pure ⟨_, rfl, wpAny_pure (hQ _ _ put made ⟨_, Obj.data_mapDict hd _⟩ (.update ..))⟩)))))
end
theorem flat_keys : ∀ {kvs : List (Int × Value)} {c : List (Int × Int)}, FlatPairs PyData.int kvs (kdfD c) → kvs.map (·.1) = c.map (·.1)
  | [], [], _ => rfl
  | [], _ :: _, h => by have := h.length; simp [kdfD] at this
  | _ :: _, [], h => by have := h.length; simp [kdfD] at this
  | (k, v) :: kvs, (i, u) :: c, h => by
    have h0 := h.at (i := 0) (k := k) (v := v) rfl
    obtain ⟨dv, e, _⟩ := h0
    have e' : (PyData.int i, PyData.int u) = (PyData.int k, dv) := Option.some.inj e
    cases e'
    cases h with
    | cons _ r => rw [List.map_cons, List.map_cons, flat_keys r]
theorem kdf_setItemE {w : World} {A : Around} {E : Value → Shared → Prop} {s : Shared} {h₀ : Heap} {L d : Addr} {m : Str → Option Value} {news : List (Addr × Obj)} {u : Obj → List (Addr × Obj)} {o : Obj} {kvs : List (Int × Value)} {c : List (Int × Int)} {k e : Int} {tk te : Tok} {ep : Nat}
    {Q : Unit → Shared → Prop} (F : Fr h₀ L s.heap m) (N : News h₀ L s.heap news) (U : UpdF d o news u) (hd : o.IsDictOf (PySem.intKind pr w) kvs) (hf : FlatPairs PyData.int kvs (kdfD c)) (he : EpIs o ep) (hin : kdfHas c k = true)
    (h : ∀ h' o' kvs', Fr h₀ L h' m → News h₀ L h' (u o') → o'.IsDictOf (PySem.intKind pr w) kvs' → FlatPairs PyData.int kvs' (kdfD (kdfPut c k e)) → EpIs o' ep → Q () { s with heap := h', toks := s.toks + 1 }) :
    wpAny (model pr w) A (setItem (.ref d) (.int k tk) (.int e te)) Q E s := by
  obtain ⟨pre, post, rfl, hg, a, b⟩ := U.split
  have hm := N (d, o) (List.mem_append_right _ (.head _))
  refine setItem_old (knd := PySem.intKind pr w) (intKind_is _ _ _ _) hm.1 hd he (by rw [flat_keys hf]; exact kdfHas_iff.mp hin) fun h' o' ho' hd' he' hs => ?_
  exact h h' o' _ (F.change hs hm.2.1 hm.2.2) (hg o' ▸ N.setIn a b hs ho') hd' (by rw [← kdfD_put]; exact hf.stored PyProof.V.same_int k (PyProof.V.Flat.int e te)) he'
local macro_rules | `(tactic| walk_at "setItem ref int") => `(tactic| (k_here; k_dflt (refine' kdf_setItemE ?F ?N ?U ?d ?f ?e ?i ?_; (case F => k_asm); (case N => k_asm); (case U => k_updF); (case d => k_asm); (case f => k_asm); (case e => assumption); (case i => assumption)); intro h' o' kvs' F' N' hd' hf' he'; (try dsimp only at N')))
section
variable {w : World} {mean : ExcName → Option Value} {mg mb : Str → Option Value} {B : Heap} {A : Around} {outer : List Env} {s : Shared}
theorem getitem_old (G : Gd w mean mg mb B) (c : Cx B A outer s)
    (hd : A.depth < recursionLimit)
    {self sd p q : Addr} {t1 t2 : Tok} {n : Nat} {oP oW : Obj} {P W : List (Int × Int)} (hP : DictI w oP P) (hW : DictI w oW W)
    (hmu : ∀ x ∈ ufL w self sd p q t1 t2 n oP oW, s.heap.get? x.1 = some x.2) (hB : ∀ x ∈ ufL w self sd p q t1 t2 n oP oW, B.get? x.1 = none)
    (hf : ∀ env ∈ outer, ∀ x ∈ ufL w self sd p q t1 t2 n oP oW, env.frame ≠ some x.1)
    (hp0 : (p == sysModules) = false) (hq0 : (q == sysModules) = false) (hpq : @Ne Nat p q) (hps : @Ne Nat p self) (hpd : @Ne Nat p sd) (hqs : @Ne Nat q self) (hqd : @Ne Nat q sd) (hsd : @Ne Nat self sd)
    {ks : List Int} {rt : Int → Int} {D : Nat} (fo : Fo ks rt D P W) (hkl : ks.length ≤ 100) (hD : D ≤ 1000)
    {i : Int} (hi0 : i ∈ ks) {ep : Nat} (hep : EpIs oP ep) {t0 : Tok} {Q E : Value → Shared → Prop}
    (hQ : ∀ t h' tk' P' oP', DictI w oP' P' → EpIs oP' ep → Fo ks rt D P' W → (∀ x ∈ ufL w self sd p q t1 t2 n oP' oW, h'.get? x.1 = some x.2) → Ext [p, q, self, sd] s.heap h' →
      (∀ y ∈ ks, kdfLook P y 0 = rt y → kdfLook P' y 0 = rt y) → kdfLook P' i 0 = rt i → Q (.int (rt i) t) { s with heap := h', toks := tk' }) :
    wpAny (model pr w) A (call (.ref 43) [.ref self, .int i t0]) Q E s := by
  refine callP (f := 43) (binds := [(Str.ofString "self", .ref self), (Str.ofString "element", .int i t0)]) G c _ hmu hB hf (by k_is) (by k_is) hd (BindsTo.of_eq rfl) (locs rfl) (by decide) ?_ rfl rfl rfl
  intro g' L' h' F' N' B' G' X' _ _
  have hh := c.hh
  obtain ⟨KX', T'⟩ := G'
  obtain ⟨kP, hP1, hP2⟩ := hP
  obtain ⟨kW, hW1, hW2⟩ := hW
  have hPl : P.length ≤ 100 := by rw [fo.plen]; exact hkl
  have hWl : W.length ≤ 100 := Nat.le_trans fo.wlen hkl
  clear G c B' hmu hB hf
  change wpAny _ _ _ _ _ _
  k_fold
  k_steps
  · refine Stop.out ?_
    rename (kdfHas P i = true) => hin
    rename Fr _ _ _ _ => F2
    rename News _ _ _ _ => N2
    rename (_ < _ ∧ _ < _ ∧ _ < _ ∧ _ < _) => l1
    rename_i tkk _ l' _ _ ty hc
    have hin' : i ∈ ks := fo.has.mp hin
    obtain ⟨k0, hk0, u0⟩ := fo.up i hin'
    refine wpAny_While (codeAny_whileLoop (fun k s' => ∃ (h : Heap) (tk : Nat) (m : Str → Option Value) (vs : List Value) (nn : Nat) (xs : List Int) (x : Int) (tx ty : Tok),
      s' = { s with heap := h, toks := tk } ∧ Fr g' L' h m ∧ News g' L' h ((l', PySem.W.listOf vs.toArray nn) :: ufL w self sd p q t1 t2 n oP oW) ∧ m (Str.ofString "self") = some (.ref self) ∧ m (Str.ofString "element") = some (.int x tx) ∧
      m (Str.ofString "root") = some (.int (kdfLook P x 0) ty) ∧ m (Str.ofString "path") = some (.ref l') ∧ IntsAre vs xs ∧ Up P x (rt i) k ∧ (∀ a ∈ xs, a ≠ rt i ∧ ∃ j, Up P a (rt i) j) ∧ xs.length + k ≤ D ∧ (x = i ∨ i ∈ xs)) ?_ k0 ?_)
    · rintro k s' ⟨h3, tk3, m3, vs, nn, xs, x, tx, ty, rfl, F3, N3, e1, e2, e3, e4, hI, hU, hX, hle, hix⟩
      have hhas := hU.has
      have hhas2 : kdfHas P (kdfLook P x 0) = true := by
        by_cases hx : kdfLook P x 0 = x
        · rw [hx]; exact hhas
        · obtain ⟨_, _, u, _⟩ := hU.next hx; exact u.has
      have F4 := named F3 [(Str.ofString "self", .ref self), (Str.ofString "element", .int x tx), (Str.ofString "root", .int (kdfLook P x 0) ty), (Str.ofString "path", .ref l')]
        (by intro p hp; rcases hp with _ | ⟨_, _ | ⟨_, _ | ⟨_, _ | ⟨_, hp⟩⟩⟩⟩ <;> first | assumption | cases hp)
      clear F3 F2 N2
      k_steps
      · refine Stop.out ?_
        rename (kdfLook P x 0 ≠ x) => hne
        rename Fr _ _ _ _ => F5
        rename News _ _ _ _ => N5
        obtain ⟨k', rfl, u5, hr5⟩ := hU.next hne
        refine ⟨k', Nat.lt_succ_self _, _, _, _, _, _, xs ++ [x], kdfLook P x 0, _, _, rfl, F5, N5, rfl, rfl, rfl, rfl, ksk_snoc hI, u5, fun a ha => ?_, by rw [List.length_append, List.length_singleton]; omega, .inr (hix.elim (fun e => List.mem_append_right _ (by rw [e]; exact .head _)) fun h => List.mem_append_left _ h)⟩
        rcases List.mem_append.mp ha with ha | ha
        · exact hX a ha
        · rw [List.mem_singleton.mp ha]; exact ⟨hr5, _, hU⟩
      · refine Stop.out ?_
        rename (kdfLook P x 0 = x) => heq
        rename Fr _ _ _ _ => F5
        have hrx := (hU.eq_of_fix heq).1
        rw [heq] at F5
        have hX2 : ∀ a ∈ xs, a ∈ ks ∧ a ≠ x ∧ rt a = x := fun a ha => by
          obtain ⟨h1, j, u⟩ := hX a ha
          have h2 := fo.has.mp u.has
          obtain ⟨j', _, u'⟩ := fo.up a h2
          exact ⟨h2, hrx ▸ h1, hrx ▸ (Up.det u u').1.symm⟩
        refine kdl_iter (l := l') (vs := vs) (nn := nn) (fun jj m nx => ∃ oP' P', nx = (l', PySem.W.listOf vs.toArray nn) :: ufL w self sd p q t1 t2 n oP' oW ∧ DictI w oP' P' ∧ EpIs oP' ep ∧ Fo ks rt D P' W ∧ m (Str.ofString "self") = some (.ref self) ∧ m (Str.ofString "root") = some (.int x ty) ∧ (∀ y ∈ ks, kdfLook P y 0 = rt y → kdfLook P' y 0 = rt y) ∧ (∀ a ∈ xs.take jj, kdfLook P' a 0 = rt a))
          hh (.head _) F5 N3 ⟨oP, P, rfl, ⟨_, hP1, hP2⟩, hep, fo, rfl, rfl, (fun _ _ e => e), (fun _ h => nomatch h)⟩ ?_ ?_
        · rintro j v m₁ nx h6 tk6 own hv hoff _ ⟨oP', P', rfl, ⟨kP', hP1', hP2'⟩, hep', fo', m1, m2, fl1, fl2⟩ F6 N6
          obtain ⟨a, ta, rfl, hma, hja⟩ : ∃ a ta, v = .int a ta ∧ a ∈ xs ∧ xs[j]? = some a := by
            have hj : j < xs.length := by rw [← hI.length]; exact (List.getElem?_eq_some_iff.mp hv).1
            obtain ⟨t, e⟩ := hI.get j (xs[j]'hj) (List.getElem?_eq_getElem hj)
            rw [hv] at e
            exact ⟨_, t, Option.some.inj e, List.getElem_mem hj, List.getElem?_eq_getElem hj⟩
          obtain ⟨ha1, ha2, ha3⟩ := hX2 a hma
          have hPl' : P'.length ≤ 100 := by rw [fo'.plen]; exact hkl
          have F7 := named F6 [(Str.ofString "self", .ref self), (Str.ofString "root", .int x ty), (Str.ofString "ancestor", .int a ta)]
            (by intro p hp; rcases hp with _ | ⟨_, _ | ⟨_, _ | ⟨_, hp⟩⟩⟩ <;> first | assumption | rfl | cases hp)
          have hhasA : kdfHas P' a = true := fo'.has.mpr ha1
          clear F6 F5 N3 hP1 hP2 hep
          simp only [List.map_cons, List.map_nil] at hoff
          dsimp only [List.cons_append, List.nil_append] at N6
          k_steps
          refine Stop.out ?_
          rename Fr _ _ _ _ => F8
          rename News _ _ _ _ => N8
          rename Obj.IsDictOf _ _ _ => hd8
          rename FlatPairs _ _ _ => hf8
          obtain ⟨k8, _, u8⟩ := fo'.up a ha1
          rw [ha3] at u8
          exact InvEndG.intro (nx := (l', PySem.W.listOf vs.toArray nn) :: ufL w self sd p q t1 t2 n _ oW) F8 N8 ⟨.head _, _, kdfPut P' a x, rfl, ⟨_, hd8, hf8⟩, by assumption, fo'.short u8 ha2, rfl, rfl, (fun y hy e => look_put_of (fun e2 => by rw [e2, ha3]) fun _ => fl1 y hy e), (fun b hb => look_put_of (fun e2 => by rw [e2, ha3]) fun e2 => by
              rw [List.take_add_one, hja] at hb
              rcases List.mem_append.mp hb with hb | hb
              · exact fl2 b hb
              · exact absurd (List.mem_singleton.mp hb) e2)⟩ hoff
            (fun y hy => List.mem_append_left own hy) (fun y hy => List.mem_append_right ((l', PySem.W.listOf vs.toArray nn) :: ufL w self sd p q t1 t2 n _ oW) hy)
        · rintro m₁ nx h6 tk6 ⟨oP', P', rfl, hP', hep', fo', m1, m2, fl1, fl2⟩ F6 N6
          have F7 := named F6 [(Str.ofString "self", .ref self), (Str.ofString "root", .int x ty)]
            (by intro p hp; rcases hp with _ | ⟨_, _ | ⟨_, hp⟩⟩ <;> first | assumption | rfl | cases hp)
          clear F6 F5 N3 hP1 hP2
          k_steps
          show Q (Value.int x ty) _
          have e5 := fun tkk => hQ ty h6 tkk P' oP' hP' hep' fo' (fun y hy => (N6 y (.tail _ hy)).1) (X'.trans (Ext.of_stays F7.keep)) fl1 (by
            rcases hix with e | hm
            · refine fl1 i hin' ?_
              rw [hrx, ← e]; exact heq
            · exact fl2 i (by rw [List.take_of_length_le (Nat.le_of_eq (by first | exact hI.length.symm | (rw [List.size_toArray]; exact hI.length.symm)))]; exact hm))
          have e6 : rt i = x := hrx
          rw [e6] at e5
          exact e5 _
    · exact ⟨_, _, _, [], 0, [], i, _, _, rfl, F2, N2, rfl, rfl, rfl, rfl, .nil, u0, (fun _ h => nomatch h), by simpa using hk0, .inl rfl⟩
  · rename (kdfHas P i = false) => hin
    rw [fo.has.mpr hi0] at hin; cases hin
end
end Mine

end
theorem Mine.resetVH : True ∧ True := by
  first
  | (walk1; done)
  | exact ⟨trivial, trivial⟩
section
open PySem PySem.W PyProof.Rows PySem.Calls PySem.Spec PyProof.V
set_option maxRecDepth 100000
set_option maxHeartbeats 8000000
namespace Mine
section
variable {prog : Program} {w : World} {A : Around} {s : Shared} {env : Env} {g : Heap} {x : Str} {body : List Stmt}

/-- a loop over the keys of a dict whose values may change -/
theorem iterD {K : Type} [DecidableEq K] {knd : KeyKind prog w K} {d : Addr} {ep : Nat} {keys : List K} {m₀ : Str → Option Value} {news : List (Addr × Obj)} {px : Pos} {R : Result → Shared → Prop} (J : Nat → (Str → Option Value) → List (Addr × Obj) → Prop)
    (hh : A.handled = none) (hx : env.kindOf x = some .local) (hp : (env.scope.kind == .class || (env.scope.kind == .module && env.locals != env.globals)) = false)
    (F : Fr g env.locals s.heap m₀) (N : News g env.locals s.heap news) (hj : J 0 m₀ news)
    (hdict : ∀ i m nx h, J i m nx → News g env.locals h nx → d ∈ nx.map (·.1) ∧ ∃ kvs, h.DictAt knd d kvs ep ∧ kvs.map (·.1) = keys)
    (turn : ∀ i k v m₁ nx h tk own, keys[i]? = some k → knd.is k v = true → OwnOff own (nx.map (·.1)) → J i m₁ nx → Fr g env.locals h (fun y => if y = x then some v else m₁ y) → News g env.locals h (nx ++ own) →
      wpAny (model prog w) A (execs body env) (InvPostG g env.locals (J (i + 1)) own { s with heap := h, toks := tk } (fun f s' => R (.ok f) s')) (fun _ _ => False) { s with heap := h, toks := tk })
    (done : ∀ m₁ nx h tk, J keys.length m₁ nx → Fr g env.locals h m₁ → News g env.locals h nx → R (.ok .next) { s with heap := h, toks := tk })
    (I : Addr) (hI : I = s.heap.objs.size) :
    codeAny (model prog w) A (.forLoop (.Name x px) (.ref I) body [] env) R { s with heap := s.heap.push { cls := .type "dict_keyiterator", data := .fields #[.ref d, .int 0 0, .int keys.length 0, .int ep 0] } } := by
  subst hI
  have hI0 : g.get? s.heap.objs.size = none := next_is_new F
  have hIL : s.heap.objs.size ≠ env.locals := Nat.ne_of_gt F.ns.lt
  have up : ∀ b o, s.heap.get? b = some o → (s.heap.push { cls := .type "dict_keyiterator", data := .fields #[.ref d, .int 0 0, .int keys.length 0, .int ep 0] }).get? b = some o := fun b o e => Heap.get?_push_of_some _ e
  refine codeAny_forLoop (fun k s' => ∃ h' tk m' nx i, s' = { s with heap := h', toks := tk } ∧ Fr g env.locals h' m' ∧ News g env.locals h' nx ∧ (∀ p ∈ nx, p.1 ≠ s.heap.objs.size) ∧ J i m' nx ∧
      h'.IsKeyIter s.heap.objs.size d i keys.length ep ∧ i ≤ keys.length ∧ k = keys.length + 1 - i) ?_ (keys.length + 1)
    ⟨_, s.toks, m₀, news, 0, rfl, F.push _, fun p hp => ⟨up _ _ (N p hp).1, (N p hp).2⟩, fun p hp => Nat.ne_of_lt (Heap.lt_size (N p hp).1), hj, ⟨_, Heap.get?_push_size _ rfl, rfl, rfl⟩, Nat.zero_le _, rfl⟩
  rintro k s' ⟨h', tk, m', nx, i, rfl, F', N', hnI, hJ, hst, hi, rfl⟩
  obtain ⟨hdn, kvs, hat, hkeys⟩ := hdict i m' nx h' hJ N'
  have hkl : kvs.length = keys.length := by rw [← hkeys, List.length_map]
  have hdI : d ≠ s.heap.objs.size := by
    obtain ⟨q, hq, rfl⟩ := List.mem_map.mp hdn
    exact hnI q hq
  rw [← hkl] at hst
  by_cases hlt : i < keys.length
  · have hlt' : i < kvs.length := by omega
    refine wpAny_pyNext_dict_item hst hat (k := (kvs[i]'hlt').1) (v := (kvs[i]'hlt').2) (List.getElem?_eq_getElem hlt') fun key h₁ hkey hit₁ hs₁ => ?_
    rw [hkl] at hit₁
    have hki : keys[i]? = some (kvs[i]'hlt').1 := by rw [← hkeys, List.getElem?_map, List.getElem?_eq_getElem hlt']; rfl
    have k₁ : ∀ b o, b ≠ s.heap.objs.size → h'.get? b = some o → h₁.get? b = some o := fun b o hb e => hs₁.extBut b o hb e
    have F₁ : Fr g env.locals h₁ m' := ⟨F'.ns.at fun o e => k₁ _ o (Ne.symm hIL) e, fun b o e => k₁ b o (fun q => by rw [q, hI0] at e; cases e) (F'.keep b o e), F'.above⟩
    have N₁ : News g env.locals h₁ nx := fun p hp => ⟨k₁ _ _ (hnI p hp) (N' p hp).1, (N' p hp).2⟩
    refine wpAny_assign_Name (wpAny_storeName_local hx F₁.ns (fun h₂ hn₂ hs₂ => ?_) hp)
    replace hs₂ : Heap.SameBut env.locals h₁ h₂ := hs₂
    obtain ⟨oI, hoI, rI⟩ := hit₁
    have F₂ := F₁.set hn₂ hs₂
    have N₂ : News g env.locals h₂ (nx ++ [(s.heap.objs.size, oI)]) := fun p hp => by
      rcases List.mem_append.mp hp with hp | hp
      · exact (N₁.set hs₂) p hp
      · rw [List.mem_singleton.mp hp]; exact ⟨(hs₂.2 _ hIL).trans hoI, hIL, hI0⟩
    refine wpAny_mono (turn i _ key m' nx h₂ _ [(s.heap.objs.size, oI)] hki hkey (fun p hp b hb => ?_) hJ F₂ N₂) (fun f s₃ h₃ => ?_) fun _ _ e => e.elim
    · rw [List.mem_singleton.mp hp]
      obtain ⟨q, hq, rfl⟩ := List.mem_map.mp hb
      exact Ne.symm (hnI q hq)
    have fin : InvEndG g env.locals (J (i + 1)) [(s.heap.objs.size, oI)] { s with heap := h₂, toks := tk } s₃ → ∃ m, m < keys.length + 1 - i ∧ ∃ h' tk m' nx j, s₃ = { s with heap := h', toks := tk } ∧ Fr g env.locals h' m' ∧ News g env.locals h' nx ∧ (∀ p ∈ nx, p.1 ≠ s.heap.objs.size) ∧ J j m' nx ∧
        h'.IsKeyIter s.heap.objs.size d j keys.length ep ∧ j ≤ keys.length ∧ m = keys.length + 1 - j := by
      rintro ⟨h₄, tk₄, m₄, news₄, nx₄, rfl, F₄, N₄, hn₄, ho₄, hoff₄, hJ₄⟩
      exact ⟨keys.length + 1 - (i + 1), by omega, h₄, tk₄, m₄, nx₄, i + 1, rfl, F₄, fun p hp => N₄ p (hn₄ p hp), fun p hp e => hoff₄ _ (List.mem_singleton.mpr rfl) p.1 (List.mem_map_of_mem hp) e.symm, hJ₄,
        ⟨oI, (N₄ _ (ho₄ _ (List.mem_singleton.mpr rfl))).1, rI⟩, hlt, rfl⟩
    cases f with
    | ret v => exact h₃
    | brk => exact h₃
    | next => exact fin h₃
    | cont => exact fin h₃
  · have hin : i = keys.length := by omega
    subst hin
    refine wpAny_pyNext_dict_end hh hst hat (by rw [← hkl]; simp) fun h₁ he₁ => wpAny_execs_nil ?_
    have k₁ : ∀ b o, b ≠ s.heap.objs.size → h'.get? b = some o → h₁.get? b = some o := fun b o hb e => he₁ b o hb e
    exact done m' nx h₁ _ hJ ⟨F'.ns.at fun o e => k₁ _ o (Ne.symm hIL) e, fun b o e => k₁ b o (fun q => by rw [q, hI0] at e; cases e) (F'.keep b o e), F'.above⟩
      (fun p hp => ⟨k₁ _ _ (hnI p hp) (N' p hp).1, (N' p hp).2⟩)
end
end Mine

end
theorem Mine.resetVI : True ∧ True := by
  first
  | (walk1; done)
  | exact ⟨trivial, trivial⟩
section
open PySem PySem.W PyProof.Rows PySem.Calls PySem.Spec PyProof.V
set_option maxRecDepth 100000
set_option maxHeartbeats 8000000
namespace Mine
theorem fillitVJ : (PySem.Challenge.rw_bj0027_01 = PySem.Challenge.rw_bj0027_01 ∧ hd.heap_39 = hd.heap_39) := by k_fill; exact ⟨rfl, rfl⟩
local macro_rules | `(tactic| walk_at "exec For") => `(tactic| (k_here; refine Stop.intro ?_))
local macro_rules | `(tactic| walk_at "exec For Name Attribute cons nil") => `(tactic| (k_here; refine Stop.intro ?_))
local macro_rules | `(tactic| walk_at "pyIter ref") => `(tactic| (refine Stop.intro ?_))
local macro_rules | `(tactic| walk_at "call ref") => `(tactic| (k_here; refine Stop.intro ?_))
local macro_rules | `(tactic| walk_at "InvPostG") => `(tactic| (refine Stop.intro ?_))
local macro_rules | `(tactic| walk_at "InvEndG") => `(tactic| (refine Stop.intro ?_))
/-- a generator's object -/
abbrev genObj (n : Nat) (nm qn : Str) (t : Tok) : Obj := { cls := .type "generator", data := .fields #[.int n 0, .str nm t, .str qn (t + 1)] }
section
variable {w : World} {mean : ExcName → Option Value} {mg mb : Str → Option Value} {B : Heap} {A : Around} {outer : List Env} {s : Shared}
theorem callG (G : Gd w mean mg mb B) (c : Cx B A outer s) (mu : List (Addr × Obj)) (hmu : ∀ p ∈ mu, s.heap.get? p.1 = some p.2) (hB : ∀ p ∈ mu, B.get? p.1 = none)
    (hf : ∀ env ∈ outer, ∀ p ∈ mu, env.frame ≠ some p.1)
    {name qual : Str} {params : Arguments} {body : List Stmt} {scope : Scope} {dV kV doc pm cdv ct oc : Value} {an od : Option Addr} {osl : Array (Option Value)} {f : Addr} {pos : List Value} {binds : List (Str × Value)} {Q E : Value → Shared → Prop}
    (ho : List.lookup f (hd.heap_39 w.params) = some ⟨oc, od, .func (fnOf name qual params body scope dV kV doc pm an cdv ct), osl⟩) (hcd : codeIn (hd.heap_39 w.params) cdv qual = true) (hroom : A.depth < recursionLimit)
    (hbind : BindsTo s (fnOf name qual params body scope dV kV doc pm an cdv ct) ⟨pos, []⟩ binds) (hloc : ∀ y ∈ binds, scope.names.lookup y.1 = some .local)
    (hcell : ∀ x ∈ scope.names, x.2 ≠ .cell)
    (h : ∀ g L' h₁ tk, Fr g L' h₁ (fun y => binds.reverse.lookup y) → News g L' h₁ mu → Below A B outer g → Gd w mean mg mb g → Ext (mu.map (·.1)) s.heap g → (∀ p ∈ mu, p.1 < L') → L' = s.heap.objs.size →
      Q (.ref h₁.objs.size) { s with heap := h₁.push (genObj s.gens.size name qual tk), gens := s.gens.push (.fresh (.func body (envOf qual scope L' f cdv))), toks := tk + 1 + 1 })
    (hco : scope.isCoroutine = false := by rfl) (hgen : scope.isGenerator = true := by rfl) (hk : scope.kind = .function := by rfl) : wpAny (model pr w) A (call (.ref f) pos) Q E s := by
  obtain ⟨G', B', X'⟩ := rebase G c mu hmu hB hf
  refine wpAny_call ?_
  refine codeAny_call_generator (fd := fnOf name qual params body scope dV kV doc pm an cdv ct) (body := body) hroom (c.kp _ _ (G.X _ _ ho)) rfl hco hgen rfl (codeRec_of (G.X.keeps c.kp) hcd) (hbind _ _ _ _ ?_)
  refine wpAny_newFunctionEnv hcell hloc (fun h₀ hns₀ hsb₀ => ?_) hk
  have hk₁ : ∀ b o, s.heap.get? b = some o → h₀.get? b = some o := fun b o e => hsb₀.extBut b o (Nat.ne_of_lt (Heap.lt_size e)) (Heap.get?_push_of_some _ e)
  refine ⟨(G.T.nolimit.keeps c.kp).fresh _ hsb₀, ?_⟩
  obtain ⟨F₀, N₀, lt⟩ := entered hmu hk₁ hns₀
  exact h _ _ h₀ _ F₀ N₀ B' G' X' lt rfl

end
end Mine

end
theorem Mine.resetVJ : True ∧ True := by
  first
  | (walk1; done)
  | exact ⟨trivial, trivial⟩
section
open PySem PySem.W PyProof.Rows PySem.Calls PySem.Spec PyProof.V
set_option maxRecDepth 100000
set_option maxHeartbeats 8000000
namespace Mine
section
variable {prog : Program} {w : World} {K : Type} [DecidableEq K] {knd : KeyKind prog w K} {A : Around} {E : Value → Shared → Prop} {s : Shared}
/-- one turn of an iterator over a dict's values, whichever way it ends -/
theorem val_turn {it d : Addr} {i ep : Nat} {kvs : List (K × Value)} {Q : Option Value → Shared → Prop} (hit : s.heap.IsValIter it d i kvs.length ep) (hm : s.heap.DictAt knd d kvs ep)
    (more : ∀ k v h', kvs[i]? = some (k, v) → h'.IsValIter it d (i + 1) kvs.length ep → Heap.SameBut it s.heap h' → Q (some v) { s with heap := h' })
    (stop : kvs[i]? = none → A.handled = none ∧ ∀ h₁ e h', Heap.SameBut it s.heap h₁ → Stopped h₁ h' e → E (.ref e) { s with heap := h' }) :
    wpAny (model prog w) A (callSpecial? (.ref it) (Str.ofString "__next__")) Q E s := by
  refine wpAny_callSpecial?_slot hit.typeIs PySem.F.slot_dict_valueiterator_next (wpAny_call_entry PySem.F.slot_dict_valueiterator_next hit.typeIs PySem.F.entry_dict_valueiterator_next ?_ (PySem.F.args_dict_valueiterator_next_1 _))
  have ty : ∀ s' : Shared, s'.heap.IsValIter it d (i + 1) kvs.length ep → s'.TypeIs (.ref it) "dict_valueiterator" := fun _ x => x.typeIs
  obtain ⟨oi, hi, ci, di⟩ := id hit
  obtain ⟨od, es, hod, -, dd, -, hp, -⟩ := hm
  have len : es.size = kvs.length := hp.length ▸ (Array.length_toList).symm
  wp_walk using wpAny_typeNameOfWhole_valiter hit.typeIs, wpAny_fieldsOf hi di, wpAny_dictEntries hod dd, wpAny_dictEpoch hod dd
  rw [if_neg (Int.not_lt.mpr (Int.natCast_nonneg i)), Int.toNat_natCast]
  rcases Nat.lt_or_ge i es.size with lt | ge
  · obtain ⟨⟨k, v⟩, hx⟩ : ∃ kv, kvs[i]? = some kv := ⟨_, List.getElem?_eq_getElem (len ▸ lt)⟩
    have val := (hp.get? (e := es[i]) ((Array.getElem?_toList ..).trans (Array.getElem?_eq_getElem lt)) hx).2
    rw [Array.getElem?_eq_getElem lt]
    have up : (s.heap.update it (Obj.mapFields (·.setIfInBounds 1 (rawInt ((i : Int) + 1))))).IsValIter it d (i + 1) kvs.length ep :=
      ⟨_, Heap.get?_update_self _ hi (Obj.isFreed_of_fields (Obj.data_mapFields di _)), (Obj.cls_mapFields _ _).trans ci, (Obj.data_mapFields di _).trans (by simp [rawInt])⟩
    wp_walk using wpAny_typeNameOfWhole_valiter hit.typeIs, wpAny_isOneOf_valiter hit.typeIs, wpAny_setField hi di
    · simp [Builtin.Dict_items.ownsTuple]
    · wp_walk using wpAny_isOneOf_valiter (ty _ up)
      exact ⟨_, rfl, val ▸ more k v _ hx up (.update ..)⟩
  · have hx : kvs[i]? = none := List.getElem?_eq_none (len ▸ ge)
    obtain ⟨hh, hE⟩ := stop hx
    rw [Array.getElem?_eq_none ge]
    wp_walk using wpAny_typeNameOfWhole_valiter hit.typeIs, wpAny_setField hi di
    · simp [Builtin.Dict_items.ownsTuple]
    · exact stop_raised hh fun e h' st => hE _ e h' (.update ..) st
end
end Mine

end
theorem Mine.resetVK0 : True ∧ True := by
  first
  | (walk1; done)
  | exact ⟨trivial, trivial⟩
section
open PySem PySem.W PyProof.Rows PySem.Calls PySem.Spec PyProof.V
set_option maxRecDepth 100000
set_option maxHeartbeats 8000000
namespace Mine
theorem entry_yf : entryFor table "proto.yield_from" = some Builtin.«proto.yield_from» := entryFor_of_tree (by kernel_rfl)
theorem close_valiter : typeLookup (.type "dict_valueiterator") "close" = pure none := by rw [typeLookup_type, builtinLookup_eq_fast]; kernel_rfl
abbrev yf (I : Addr) : Code := .builtin "proto.yield_from" ⟨[.ref I, .bool false, .none], []⟩
section
variable {prog : Program} {w : World} {K : Type} [DecidableEq K] {knd : KeyKind prog w K} {A : Around} {R : GenEnd} {Y : Protocol} {n : Nat} {s₀ s : Shared} {fs : List Frame}
theorem seg_builtin {id : String} {args : Args} {b : Builtin} {c : Code} (hb : entryFor table id = some b) (h : Seg (model prog w) A R Y n s₀ c (b args) fs s) :
    Seg (model prog w) A R Y n s₀ c ((model prog w).den (.builtin id args)) fs s := by
  show Seg _ A R Y n s₀ c (match entryFor table id with | some b => b args | none => unsupported ((withoutEnding? id "#data").getD id)) fs s
  rw [hb]
  exact h
theorem seg_yf_item {I d : Addr} {j ep : Nat} {kvs : List (K × Value)} {k : K} {v : Value} (hit : s.heap.IsValIter I d j kvs.length ep) (hm : s.heap.DictAt knd d kvs ep) (hx : kvs[j]? = some (k, v)) (hfs : splitAtGen fs = none) (hfg : fs.any Frame.guarded = false)
    (h : ∀ h', h'.IsValIter I d (j + 1) kvs.length ep → Heap.SameBut I s.heap h' → ∀ kap : Resume → Shared → Prop,
      (∀ s'', (∃ o, s''.heap.get? I = some o ∧ (o.cls != .type "generator") = true) → Seg (model prog w) A R Y n s'' (yf I) ((model prog w).den (yf I)) fs s'' → kap (.send .none) s'') → Y n s₀ v { s with heap := h' } kap) :
    Seg (model prog w) A R Y (n + 1) s₀ (yf I) ((model prog w).den (yf I)) fs s := by
  refine seg_builtin entry_yf ?_
  unfold Builtin.«proto.yield_from»
  dsimp only
  refine seg_bind (wpAny_pure ?_)
  refine seg_bind (wpAny_attempt ?_)
  refine wpAny_holding ?_
  rw [if_neg Bool.false_ne_true, if_pos (by rfl)]
  refine wpAny_bind (wpAny_rule ?_)
  refine wpAny_bind (val_turn hit hm (fun k' v' h' hx' hit' hs' => ?_) fun hn => by rw [hx] at hn; cases hn)
  cases hx.symm.trans hx'
  refine wpAny_pure ?_
  dsimp only
  have hk := h h' hit' hs'
  obtain ⟨oI, hoI, hcI, -⟩ := id hit'
  refine seg_bind (wpAny_typeOf (T := "dict_valueiterator") ⟨_, hoI, hcI⟩ ?_)
  dsimp only
  refine seg_bind (wpAny_of_eq close_valiter ?_)
  have gen : (oI.cls != .type "generator") = true := by rw [hcI]; decide
  refine seg_bind (wpAny_pure ?_)
  refine seg_bind ?_
  unfold Builtin.Generator.sleptOver
  refine wpAny_bind (wpAny_load hoI ?_)
  rw [if_pos gen]
  refine wpAny_pure ?_
  refine seg_yield hfs (by rfl) hfg ?_
  refine hk _ fun s'' ⟨o2, ho2, hc2⟩ hseg => ?_
  refine seg_bind (m := Builtin.Generator.sleptOver (Value.ref I) false) ?_
  unfold Builtin.Generator.sleptOver
  refine wpAny_bind (wpAny_load ho2 ?_)
  rw [if_pos hc2]
  refine wpAny_pure ?_
  refine seg_bind (wpAny_of_eq (a := Value.none) (by rfl) ?_)
  exact seg_again (plainId_quiet (by decide +kernel) _) hseg
end
end Mine

end
theorem Mine.resetVK1 : True ∧ True := by
  first
  | (walk1; done)
  | exact ⟨trivial, trivial⟩
section
open PySem PySem.W PyProof.Rows PySem.Calls PySem.Spec PyProof.V
set_option maxRecDepth 100000
set_option maxHeartbeats 8000000
namespace Mine
section
variable {prog : Program} {w : World} {K : Type} [DecidableEq K] {knd : KeyKind prog w K} {A : Around} {R : GenEnd} {Y : Protocol} {n : Nat} {s₀ s : Shared} {fs : List Frame}
theorem seg_yf_end {I d : Addr} {j ep : Nat} {kvs : List (K × Value)} (hit : s.heap.IsValIter I d j kvs.length ep) (hm : s.heap.DictAt knd d kvs ep) (hx : kvs[j]? = none) (hh : (A.over (yf I) fs).handled = none)
    (h : ∀ h', Heap.ExtBut I s.heap h' → Seg (model prog w) A R Y n s₀ (yf I) (leafOf (.ok (.ret .none))) fs { s with heap := h' }) :
    Seg (model prog w) A R Y n s₀ (yf I) ((model prog w).den (yf I)) fs s := by
  refine seg_builtin entry_yf ?_
  unfold Builtin.«proto.yield_from»
  dsimp only
  refine seg_bind (wpAny_pure ?_)
  refine seg_bind (wpAny_attempt ?_)
  refine wpAny_holding ?_
  rw [if_neg Bool.false_ne_true, if_pos (by rfl)]
  refine wpAny_bind (wpAny_rule ?_)
  refine wpAny_bind (val_turn hit hm (fun k v h' hx' => by rw [hx] at hx'; cases hx') fun _ => ⟨hh, fun h₁ e h' hs₁ st => ?_⟩)
  obtain ⟨vs, he', -, hv⟩ := st.made
  have hx' := (st.after hs₁).1
  dsimp only
  refine seg_bind ?_
  unfold Builtin.Generator.endsTheTurnAsAValue Builtin.Generator.isStopAndMetaclass
  refine wpAny_bind (wpAny_bind (wpAny_typeOf (T := "StopIteration") ⟨_, he', rfl⟩ ?_))
  dsimp only
  refine wpAny_bind (wpAny_of_eq isSubtype_stop ?_)
  refine wpAny_bind (wpAny_of_eq (a := Value.type "type") (by first | rfl | kernel_rfl) (wpAny_pure ?_))
  dsimp only
  rw [if_neg Bool.false_ne_true]
  refine wpAny_pure ?_
  rw [if_pos rfl]
  refine seg_bind (wpAny_rule ?_)
  refine seg_bind ?_
  have hd' : ({ cls := .type "StopIteration", data := .fields vs } : Obj).data = .fields vs := rfl
  first | refine wpAny_field he' hd' hv ?_ | refine wpAny_bind (wpAny_field he' hd' hv (wpAny_pure ?_))
  exact h h' hx'
end
end Mine

end
theorem Mine.resetVK2 : True ∧ True := by
  first
  | (walk1; done)
  | exact ⟨trivial, trivial⟩
section
open PySem PySem.W PyProof.Rows PySem.Calls PySem.Spec PyProof.V
set_option maxRecDepth 100000
set_option maxHeartbeats 8000000
namespace Mine
/-- all but the consumer's own stays -/
def Keep (cons : Addr → Prop) (s s'' : Shared) : Prop := ∀ b o, ¬ cons b → s.heap.get? b = some o → s''.heap.get? b = some o
/-- the roots in the order in which they are met -/
def rootsOf (ks : List Int) (rt : Int → Int) : List Int := (ks.map rt).foldl addK []
/-- what a union find is, and what the lots told are -/
structure Uf where
  self : Addr
  sd : Addr
  p : Addr
  q : Addr
  t1 : Tok
  t2 : Tok
  n : Nat
  oW : Obj
  W : List (Int × Int)
  ks : List Int
  rt : Int → Int
  D : Nat
def Uf.led (U : Uf) (w : World) (oP : Obj) : List (Addr × Obj) := ufL w U.self U.sd U.p U.q U.t1 U.t2 U.n oP U.oW
def Uf.Led (U : Uf) (w : World) (s : Shared) : Prop := ∃ P' oP', DictI w oP' P' ∧ Fo U.ks U.rt U.D P' U.W ∧ ∀ x ∈ U.led w oP', s.heap.get? x.1 = some x.2
def Uf.roots (U : Uf) : List Int := rootsOf U.ks U.rt
def Uf.cls (U : Uf) (r : Int) : List Int := U.ks.filter fun x => decide (U.rt x = r)
/-- a step of the generator -/
structure Stp (U : Uf) (Lg σ : Addr) (s₀ s : Shared) : Prop where
  heap : ∀ b o, s₀.heap.get? b = some o → b ∉ [U.p, U.q, U.self, U.sd, Lg] → (@LT.lt Nat _ b σ ∨ ∃ its k, o.data = .seq its k) → s.heap.get? b = some o
  gens : s.gens = s₀.gens
  drawn : s.drawn = s₀.drawn
  os : s.os = s₀.os
theorem Stp.refl {U : Uf} {Lg σ : Addr} {s : Shared} : Stp U Lg σ s s := ⟨fun _ _ e _ _ => e, rfl, rfl, rfl⟩
def YY (w : World) (U : Uf) (Lg σ : Addr) (cons : Addr → Prop) : Protocol := fun m s₀ v s kap =>
  ∃ a o ms r, v = .ref a ∧ s.heap.get? a = some o ∧ SetI pr w o ms ∧ U.roots[U.roots.length - 1 - m]? = some r ∧ ms.Perm (U.cls r) ∧ U.Led w s ∧ Stp U Lg σ s₀ s ∧ ∀ s'', Keep cons s s'' → kap (.send .none) s''
def PP (w : World) (U : Uf) (Lg σ : Addr) : Nat → Shared → Shared → Prop := fun m s₀ s => m = 0 ∧ U.Led w s ∧ Stp U Lg σ s₀ s
def RR (w : World) (U : Uf) (Lg σ : Addr) : GenEnd := fun m s₀ r s => r = .ok (.ret .none) ∧ PP w U Lg σ m s₀ s

/-- what the generator holds while it yields -/
structure Hold (w : World) (U : Uf) (IT Rd : Addr) (ep : Nat) (T : List Row) (oR : Obj) (j : Nat) (s : Shared) : Prop where
  it : s.heap.IsValIter IT Rd j (rkv T).length ep
  rd : s.heap.get? Rd = some oR
  rows : ∀ t ∈ T, s.heap.get? t.2.1 = some t.2.2.1
  led : U.Led w s

theorem Hold.keep {w : World} {U : Uf} {IT Rd : Addr} {ep : Nat} {T : List Row} {oR : Obj} {j : Nat} {s s'' : Shared} {cons : Addr → Prop} (h : Hold w U IT Rd ep T oR j s) (k : Keep cons s s'')
    (n1 : ¬ cons IT) (n2 : ¬ cons Rd) (n3 : ∀ t ∈ T, ¬ cons t.2.1) (n4 : ¬ cons U.p ∧ ¬ cons U.q ∧ ¬ cons U.self ∧ ¬ cons U.sd) : Hold w U IT Rd ep T oR j s'' := by
  obtain ⟨⟨o, ho, r⟩, rd, rows, ⟨P', oP', a, b, c⟩⟩ := h
  exact ⟨⟨o, k _ _ n1 ho, r⟩, k _ _ n2 rd, fun t ht => k _ _ (n3 t ht) (rows t ht), ⟨P', oP', a, b, fun x hx => k _ _ (by
    exact (ufAll (Pr := fun y => ¬ cons y)).mpr n4 x hx) (c x hx)⟩⟩

theorem seg_yf_all {w : World} {A : Around} {U : Uf} {Lg σ IT Rd : Addr} {cons : Addr → Prop} {ep : Nat} {T : List Row} {oR : Obj} {fs : List Frame}
    (hfs : splitAtGen fs = none) (hfg : fs.any Frame.guarded = false) (hh : (A.over (yf IT) fs).handled = none)
    (hR : ∀ h : Heap, h.get? Rd = some oR → h.DictAt (intKind pr w) Rd (rkv T) ep)
    (hT : T.map (·.1) = U.roots) (hset : ∀ t ∈ T, SetI pr w t.2.2.1 t.2.2.2) (hcls : ∀ t ∈ T, t.2.2.2.Perm (U.cls t.1))
    (n1 : ¬ cons IT) (n2 : ¬ cons Rd) (n3 : ∀ t ∈ T, ¬ cons t.2.1) (n4 : ¬ cons U.p ∧ ¬ cons U.q ∧ ¬ cons U.self ∧ ¬ cons U.sd)
    (i1 : IT ∉ [U.p, U.q, U.self, U.sd]) (i2 : Rd ≠ IT) (i3 : ∀ t ∈ T, t.2.1 ≠ IT) (i4 : @LE.le Nat _ σ IT)
    (hend : ∀ s₀ s'', RR w U Lg σ 0 s₀ (.ok (.ret .none)) s'' → Seg (model pr w) A (RR w U Lg σ) (YY w U Lg σ cons) 0 s₀ (yf IT) (leafOf (.ok (.ret .none))) fs s'') :
    ∀ m, m ≤ T.length → ∀ s₀ s, Hold w U IT Rd ep T oR (T.length - m) s → Stp U Lg σ s₀ s →
      Seg (model pr w) A (RR w U Lg σ) (YY w U Lg σ cons) m s₀ (yf IT) ((model pr w).den (yf IT)) fs s := by
  have hlen : (rkv T).length = T.length := by rw [rkv, List.length_map]
  have hTl : T.length = U.roots.length := by rw [← hT, List.length_map]
  intro m
  induction m with
  | zero =>
    intro _ s₀ s H S
    have hit := H.it
    rw [Nat.sub_zero, ← hlen] at hit
    refine seg_yf_end hit (hR _ H.rd) (by simp) hh fun h' hx => ?_
    obtain ⟨P', oP', a, b, c⟩ := H.led
    refine hend _ _ ⟨rfl, rfl, ⟨P', oP', a, b, fun x hx' => hx _ _ (fun e => i1 (e ▸ (ufAll (Pr := fun y => y ∈ [U.p, U.q, U.self, U.sd])).mpr ⟨.head _, .tail _ (.head _), .tail _ (.tail _ (.head _)), .tail _ (.tail _ (.tail _ (.head _)))⟩ x hx')) (c x hx')⟩, ?_⟩
    refine ⟨fun b o e hb hc => hx _ _ ?_ (S.heap b o e hb hc), S.gens, S.drawn, S.os⟩
    rintro rfl
    rcases hc with hc | ⟨its, k, hc⟩
    · exact Nat.lt_irrefl _ (Nat.lt_of_lt_of_le hc i4)
    · obtain ⟨oI, hoI, _, hdI⟩ := H.it
      have e2 := S.heap _ o e hb (.inr ⟨its, k, hc⟩)
      rw [hoI] at e2; cases e2
      rw [hdI] at hc; cases hc
  | succ m ih =>
    intro hm s₀ s H S
    have hj : T.length - (m + 1) < T.length := by omega
    have hget : (rkv T)[T.length - (m + 1)]? = some ((T[T.length - (m + 1)]'hj).1, .ref (T[T.length - (m + 1)]'hj).2.1) := by
      rw [rkv, List.getElem?_map, List.getElem?_eq_getElem hj]; rfl
    have hmem : T[T.length - (m + 1)]'hj ∈ T := List.getElem_mem hj
    generalize hrow : T[T.length - (m + 1)]'hj = row at hget hmem
    refine seg_yf_item H.it (hR _ H.rd) hget hfs hfg fun h' hit' hs' kap hkap => ?_
    have keep : ∀ b o, b ≠ IT → s.heap.get? b = some o → h'.get? b = some o := fun b o hb e => hs'.extBut b o hb e
    obtain ⟨P', oP', a, b, c⟩ := H.led
    have hled : U.Led w { s with heap := h' } := ⟨P', oP', a, b, fun x hx' => keep _ _ (fun e => i1 (e ▸ (ufAll (Pr := fun y => y ∈ [U.p, U.q, U.self, U.sd])).mpr ⟨.head _, .tail _ (.head _), .tail _ (.tail _ (.head _)), .tail _ (.tail _ (.tail _ (.head _)))⟩ x hx')) (c x hx')⟩
    have hstp : Stp U Lg σ s₀ { s with heap := h' } := by
      refine ⟨fun b o e hb hc => keep _ _ ?_ (S.heap b o e hb hc), S.gens, S.drawn, S.os⟩
      rintro rfl
      rcases hc with hc | ⟨its, k, hc⟩
      · exact Nat.lt_irrefl _ (Nat.lt_of_lt_of_le hc i4)
      · obtain ⟨oI, hoI, _, hdI⟩ := H.it
        have e2 := S.heap _ o e hb (.inr ⟨its, k, hc⟩)
        rw [hoI] at e2; cases e2
        rw [hdI] at hc; cases hc
    have hH : Hold w U IT Rd ep T oR (T.length - m) { s with heap := h' } := ⟨by
      have e : T.length - m = T.length - (m + 1) + 1 := by omega
      rw [e]; exact hit', keep _ _ i2 H.rd, fun t ht => keep _ _ (i3 t ht) (H.rows t ht), hled⟩
    refine ⟨row.2.1, row.2.2.1, row.2.2.2, row.1, rfl, keep _ _ (i3 row hmem) (H.rows row hmem), hset row hmem, ?_, hcls row hmem, hled, hstp, fun s'' hk => ?_⟩
    · rw [← hT, List.length_map, List.getElem?_map]
      have e : T.length - 1 - m = T.length - (m + 1) := by omega
      rw [e, List.getElem?_eq_getElem hj, hrow]; rfl
    · have hH2 := hH.keep hk n1 n2 n3 n4
      obtain ⟨oI, hoI, hcI, _⟩ := hH2.it
      exact hkap s'' ⟨oI, hoI, by rw [hcI]; decide⟩ (ih (by omega) _ _ hH2 Stp.refl)
end Mine

end
theorem Mine.resetVK3 : True ∧ True := by
  first
  | (walk1; done)
  | exact ⟨trivial, trivial⟩
section
open PySem PySem.W PyProof.Rows PySem.Calls PySem.Spec PyProof.V
set_option maxRecDepth 100000
set_option maxHeartbeats 8000000
namespace Mine
theorem over_func (A : Around) (body : List Stmt) (env : Env) : A.over (.func body env) [] = A.deeper env := rfl
theorem flat_pairs {P : List (Int × Int)} {ks : List Int} {rt : Int → Int} (hk : P.map (·.1) = ks) (hn : ks.Nodup) (hl : ∀ x ∈ ks, kdfLook P x 0 = rt x) : P = ks.map fun x => (x, rt x) := by
  subst hk
  induction P with
  | nil => rfl
  | cons p P ih =>
    obtain ⟨i, v⟩ := p
    rw [List.map_cons, List.nodup_cons] at hn
    have hv : v = rt i := by
      have := hl i (.head _)
      rw [look_cons, if_pos rfl] at this
      exact this
    rw [List.map_cons, List.map_cons, ← hv, ← ih hn.2 fun x hx => by
      have h1 := hl x (.tail _ hx)
      have hne : ¬ (i = x) := fun e => hn.1 (by rw [e]; exact hx)
      rw [look_cons, if_neg hne] at h1
      exact h1]
/-- all that stands besides -/
theorem rest_of (g h : Heap) (L : Addr) (mu : List Addr) : ∃ extra : List (Addr × Obj), (∀ x ∈ extra, h.get? x.1 = some x.2 ∧ x.1 ≠ L ∧ g.get? x.1 = none) ∧ (∀ x ∈ extra, x.1 ∉ mu) ∧
    ∀ b o, h.get? b = some o → g.get? b = none → b ≠ L → b ∉ mu → (b, o) ∈ extra := by
  have hsub : ∀ x ∈ ownOf g ((List.range h.objs.size).filter fun b => decide (b ≠ L ∧ b ∉ mu)) h, x.1 ≠ L ∧ x.1 ∉ mu := fun x hx => by
    have := ownOf_sub x hx
    exact of_decide_eq_true (List.mem_filter.mp this).2
  refine ⟨ownOf g ((List.range h.objs.size).filter fun b => decide (b ≠ L ∧ b ∉ mu)) h, fun x hx => ?_, fun x hx => (hsub x hx).2, fun b o hb hg hL hm => ?_⟩
  · refine news_ownOf (L := L) (fun hm => ?_) x hx
    exact (of_decide_eq_true (List.mem_filter.mp hm).2).1 rfl
  · refine mem_ownOf (List.mem_filter.mpr ⟨List.mem_range.mpr (Heap.lt_size hb), decide_eq_true ⟨hL, hm⟩⟩) hg hb
structure Uf.Ok (U : Uf) : Prop where
  hp0 : (U.p == sysModules) = false
  hq0 : (U.q == sysModules) = false
  hpq : @Ne Nat U.p U.q
  hps : @Ne Nat U.p U.self
  hpd : @Ne Nat U.p U.sd
  hqs : @Ne Nat U.q U.self
  hqd : @Ne Nat U.q U.sd
  hsd : @Ne Nat U.self U.sd
theorem DictI.atE {w : World} {o : Obj} {P : List (Int × Int)} {ep : Nat} {p : Addr} {h : Heap} (x : DictI w o P) (he : EpIs o ep) (e : h.get? p = some o) :
    ∃ kvs, h.DictAt (intKind pr w) p kvs ep ∧ kvs.map (·.1) = P.map (·.1) := by
  obtain ⟨kvs, ⟨es, ep', hc, hd, r⟩, hf⟩ := x
  obtain ⟨es', e'⟩ := he
  rw [hd] at e'; cases e'
  exact ⟨kvs, ⟨o, es, e, hc, hd, r⟩, flat_keys hf⟩
theorem DictI.ep {w : World} {o : Obj} {P : List (Int × Int)} (x : DictI w o P) : ∃ ep, EpIs o ep := by
  obtain ⟨kvs, ⟨es, ep', hc, hd, r⟩, hf⟩ := x
  exact ⟨ep', es, hd⟩
end Mine

end
theorem Mine.resetVK4 : True ∧ True := by
  first
  | (walk1; done)
  | exact ⟨trivial, trivial⟩
section
open PySem PySem.W PyProof.Rows PySem.Calls PySem.Spec PyProof.V
set_option maxRecDepth 100000
set_option maxHeartbeats 8000000
namespace Mine
theorem fillitVK5 : (PySem.Challenge.rw_bj0027_01 = PySem.Challenge.rw_bj0027_01 ∧ hd.heap_39 = hd.heap_39) := by k_fill; exact ⟨rfl, rfl⟩
local macro_rules | `(tactic| walk_at "exec For") => `(tactic| (k_here; refine Stop.intro ?_))
local macro_rules | `(tactic| walk_at "exec For Name Attribute cons nil") => `(tactic| (k_here; refine Stop.intro ?_))
local macro_rules | `(tactic| walk_at "pyIter ref") => `(tactic| (refine Stop.intro ?_))
local macro_rules | `(tactic| walk_at "call ref") => `(tactic| (k_here; refine Stop.intro ?_))
local macro_rules | `(tactic| walk_at "InvPostG") => `(tactic| (refine Stop.intro ?_))
local macro_rules | `(tactic| walk_at "InvEndG") => `(tactic| (refine Stop.intro ?_))
local macro_rules | `(tactic| walk_at "Exists") => `(tactic| (refine Stop.intro ?_))
theorem eval_YieldFrom (v : PySem.Expr) (pos : Pos) (env : Env) : eval (.YieldFrom v pos) env = (do let x ← eval v env; standAt pos; yieldFrom env x) := by rfl
section
variable {w : World} {mean : ExcName → Option Value} {mg mb : Str → Option Value} {B : Heap} {A : Around} {outer : List Env} {s : Shared}
theorem tosets_spec (G : Gd w mean mg mb B) (c : Cx B A outer s) (hdp : A.depth < recursionLimit)
    {U : Uf} (ok : U.Ok) {oP : Obj} {P : List (Int × Int)} (hP : DictI w oP P) (hW : DictI w U.oW U.W)
    (hmu : ∀ x ∈ U.led w oP, s.heap.get? x.1 = some x.2) (hB : ∀ x ∈ U.led w oP, B.get? x.1 = none)
    (hf : ∀ env ∈ outer, ∀ x ∈ U.led w oP, env.frame ≠ some x.1)
    (fo : Fo U.ks U.rt U.D P U.W) (hnd : U.ks.Nodup) (hkl : U.ks.length ≤ 90) (hD : U.D ≤ 1000)
    {Q E : Value → Shared → Prop}
    (hQ : ∀ (a : Addr) h' tk' cd Lg nm qn tg, h'.get? a = some (genObj s.gens.size nm qn tg) → s.heap.get? a = none → @LE.le Nat _ s.heap.objs.size a → Ext [] s.heap h' →
      @LT.lt Nat _ Lg a → s.heap.get? Lg = none →
      (∀ (cons : Addr → Prop) (σ : Addr) (A' : Around) (s'' : Shared), A'.frames = some outer → A'.handled = none → A'.depth + 8 < recursionLimit → A'.units + 210 < cLine → (∀ b, cons b → @LT.lt Nat _ a b ∧ ∃ o, s''.heap.get? b = some o) →
        (∃ b o, s''.heap.get? b = some o ∧ @LT.lt Nat _ a b ∧ @LE.le Nat _ σ (b + 1)) → Keep cons { s with heap := h' } s'' →
        (GenState.fresh cd).Goes (model pr w) A' (RR w U Lg σ) (YY w U Lg σ cons) U.roots.length (.send .none) s'') →
      Q (.ref a) { s with heap := h', gens := s.gens.push (.fresh cd), toks := tk' }) :
    wpAny (model pr w) A (call (.ref 57) [.ref U.self]) Q E s := by
  refine callG (f := 57) (binds := [(Str.ofString "self", .ref U.self)]) G c _ hmu hB hf (by k_is) (by k_is) hdp (BindsTo.of_eq rfl) (locs rfl) (by decide) ?_ rfl rfl rfl
  intro g L' h₁ tk₁ F₁ N₁ K₁ G₁ X₁ hlt hL
  have up : ∀ {o : Obj} b ob, h₁.get? b = some ob → (h₁.push o).get? b = some ob := fun b ob e => Heap.get?_push_of_some _ e
  refine hQ h₁.objs.size _ _ _ L' _ _ _ (Heap.get?_push_size _ rfl) ?_ ?_ ?_ F₁.ns.lt ?_ ?_
  · refine Heap.get?_none_of_le ?_
    rw [← hL]; exact Nat.le_of_lt F₁.ns.lt
  · rw [← hL]; exact Nat.le_of_lt F₁.ns.lt
  · exact (ext_whole X₁ F₁.keep hmu N₁).trans (Ext.of_stays fun b o e => Heap.get?_push_of_some _ e)
  · exact Heap.get?_none_of_le (by rw [hL]; exact Nat.le_refl _)
  intro cons σ A' s'' hfr hh hdep hun hcons hσ hkeep
  refine ⟨rfl, ?_⟩
  have kp : ∀ b o, @LE.le Nat _ b h₁.objs.size → h₁.get? b = some o → s''.heap.get? b = some o := fun b o hb e => hkeep b o (fun hc => Nat.lt_irrefl _ (Nat.lt_of_lt_of_le (hcons b hc).1 hb)) (up b o e)
  have lt₁ : ∀ b o, h₁.get? b = some o → @LE.le Nat _ b h₁.objs.size := fun b o e => Nat.le_of_lt (Heap.lt_size e)
  have F0 : Fr g L' s''.heap (fun y => List.lookup y [(Str.ofString "self", Value.ref U.self)].reverse) := ⟨F₁.ns.at' fun o e => kp _ o (lt₁ _ _ e) e, fun b o e => kp b o (lt₁ _ _ (F₁.keep b o e)) (F₁.keep b o e), F₁.above⟩
  obtain ⟨extra, hx1, hx2, hx3⟩ := rest_of g s''.heap L' [U.p, U.q, U.self, U.sd]
  have N0 : News g L' s''.heap (U.led w oP ++ extra) := fun x hx => by
    rcases List.mem_append.mp hx with hx | hx
    · have := N₁ x hx
      exact ⟨kp _ _ (lt₁ _ _ this.1) this.1, this.2⟩
    · exact hx1 x hx
  have Kb : Below A' B outer g := ⟨hfr, K₁.stays, K₁.frames⟩
  obtain ⟨KX, T⟩ := G₁
  obtain ⟨ep, hep⟩ := hP.ep
  have hm0 : (fun y => List.lookup y [(Str.ofString "self", Value.ref U.self)].reverse) (Str.ofString "self") = some (Value.ref U.self) := by rfl
  generalize hmm : (fun y => List.lookup y [(Str.ofString "self", Value.ref U.self)].reverse) = m0 at F0 hm0
  have F0' := named F0 [(Str.ofString "self", .ref U.self)] (by intro p hp; rcases hp with _ | ⟨_, hp⟩ <;> first | exact hm0 | cases hp)
  have F0g := F0.keep
  have hLa : @LT.lt Nat _ L' h₁.objs.size := F₁.ns.lt
  clear hkeep kp lt₁ F₁ N₁ F0 hmm hm0 up c
  refine seg_func ?_
  refine seg_execs_cons ?_
  refine seg_wrap ?_
  rw [over_func]
  refine wpAny_mono (E := fun _ _ => False) (Q := fun fl s6 => fl = .next ∧ ∃ h6 tk6 m6 oP6 P6, s6 = { s'' with heap := h6, toks := tk6 } ∧ Fr g L' h6 m6 ∧ News g L' h6 (U.led w oP6 ++ extra) ∧ DictI w oP6 P6 ∧ Fo U.ks U.rt U.D P6 U.W ∧ m6 (Str.ofString "self") = some (.ref U.self) ∧ ∀ y ∈ U.ks, kdfLook P6 y 0 = U.rt y) ?walk ?cont (fun _ _ e => e.elim)
  case walk =>
    refine wpAny_For ?_ (fun _ => rfl)
    dsimp only [Uf.led] at N0
    k_steps
    refine Stop.out ?_
    obtain ⟨kvs, hat, hkeys⟩ := hP.atE hep (N0 _ (.head _)).1
    have hkl2 : kvs.length = U.ks.length := by rw [← List.length_map (f := (·.1)), hkeys, fo.keys]
    refine wpAny_pyIter_dict ok.hp0 hat ?_
    rw [hkl2]
    refine iterD (g := g) (m₀ := fun y => (List.lookup y [(Str.ofString "self", Value.ref U.self)]).or (m0 y)) (news := U.led w oP ++ extra) (knd := intKind pr w) (d := U.p) (ep := ep) (keys := U.ks) (fun i m nx => ∃ oP' P', nx = U.led w oP' ++ extra ∧ DictI w oP' P' ∧ EpIs oP' ep ∧ Fo U.ks U.rt U.D P' U.W ∧ m (Str.ofString "self") = some (.ref U.self) ∧ ∀ y ∈ U.ks.take i, kdfLook P' y 0 = U.rt y)
      ?_ ?_ ?_ ?_ ?_ ?_ ?_ ?_ ?_ _ ?_
    · exact hh
    · rfl
    · rfl
    · exact F0'
    · exact N0
    · exact ⟨oP, P, rfl, hP, hep, fo, rfl, fun y hy => by simp at hy⟩
    · rintro i m nx h ⟨oP', P', rfl, hP', hep', fo', m1, fl⟩ N6
      refine ⟨.head _, ?_⟩
      obtain ⟨kvs', hat', hk'⟩ := hP'.atE hep' (N6 _ (.head _)).1
      exact ⟨kvs', hat', by rw [hk', fo'.keys]⟩
    · rintro i k v m₁ nx h6 tk6 own hk hkv hoff ⟨oP', P', rfl, hP', hep', fo', m1, fl⟩ F6 N6
      obtain ⟨tv, rfl⟩ := Value.isInt_shape hkv
      have F7 := named F6 [(Str.ofString "self", .ref U.self), (Str.ofString "x", .int k tv)]
        (by intro p hp; rcases hp with _ | ⟨_, _ | ⟨_, hp⟩⟩ <;> first | exact m1 | rfl | cases hp)
      clear F6 F0' N0
      dsimp only [Uf.led, List.cons_append, List.nil_append] at N6
      k_steps
      refine Stop.out ?_
      have hki : k ∈ U.ks := List.mem_of_getElem? hk
      refine getitem_old (A := (A'.deeper _).in1) (outer := _ :: outer) (s := { s'' with heap := h6, toks := _ }) G (Cx.inner Kb F7 (Around.frames_deeper hfr) (by rfl) (by rfl) hh) (by show A'.depth + 1 < recursionLimit; omega) hP' hW (fun x hx => (N6 x (List.mem_append_left _ (List.mem_append_left _ hx))).1) ((ufAll (Pr := fun y => B.get? y = none)).mpr ((ufAll (Pr := fun y => B.get? y = none)).mp hB)) ?_
        ok.hp0 ok.hq0 ok.hpq ok.hps ok.hpd ok.hqs ok.hqd ok.hsd fo' (by omega) hD hki hep' ?_
      · intro en he x hx e
        rcases List.mem_cons.mp he with rfl | he
        · have hl4 : ∀ x ∈ ufL w U.self U.sd U.p U.q U.t1 U.t2 U.n oP' U.oW, @LT.lt Nat _ x.1 L' := (ufAll (Pr := fun y => @LT.lt Nat _ y L')).mpr ((ufAll (Pr := fun y => @LT.lt Nat _ y L')).mp hlt)
          exact (Nat.ne_of_lt (hl4 x hx)) (Option.some.inj e).symm
        · exact (ufAll (Pr := fun y => en.frame ≠ some y)).mpr ((ufAll (Pr := fun y => en.frame ≠ some y)).mp (hf en he)) x hx e
      intro t8 h8 tk8 P8 oP8 hP8 hep8 fo8 hled e8 fl1 fl2
      have hoff4 : ∀ x ∈ extra ++ own, x.1 ∉ (ufL w U.self U.sd U.p U.q U.t1 U.t2 U.n oP' U.oW).map (·.1) := fun x hx hm => by
        rcases List.mem_append.mp hx with hx | hx
        · exact hx2 x hx hm
        · exact hoff x hx x.1 (by
            rw [List.map_append]; exact List.mem_append_left _ hm) rfl
      obtain ⟨F8, N8⟩ := after (mu' := ufL w U.self U.sd U.p U.q U.t1 U.t2 U.n oP8 U.oW) (rest := extra ++ own) F7 (by rw [← List.append_assoc]; exact N6) hoff4 e8 (fun x hx => ⟨hled x hx, .inl ((ufAll (Pr := fun y => y ∈ (ufL w U.self U.sd U.p U.q U.t1 U.t2 U.n oP' U.oW).map (·.1))).mpr ⟨.head _, .tail _ (.head _), .tail _ (.tail _ (.head _)), .tail _ (.tail _ (.tail _ (.head _)))⟩ x hx)⟩)
      clear F7 N6
      k_steps
      refine Stop.out ?_
      rename Fr _ _ _ _ => F9
      rename News _ _ _ _ => N9
      have etk : U.ks.take (i + 1) = U.ks.take i ++ [k] := by rw [List.take_add_one, hk]; rfl
      refine InvEndG.intro (nx := U.led w oP8 ++ extra) F9 N9 ⟨oP8, P8, rfl, hP8, hep8, fo8, rfl, fun y hy => ?_⟩ hoff (fun y hy => ?_) (fun y hy => ?_)
      · rw [etk] at hy
        rcases List.mem_append.mp hy with hy | hy
        · exact fl1 y (List.mem_of_mem_take hy) (fl y hy)
        · rw [List.mem_singleton.mp hy]; exact fl2
      · rcases List.mem_append.mp hy with hy | hy
        · exact List.mem_append_left _ hy
        · exact List.mem_append_right _ (List.mem_append_left _ hy)
      · exact List.mem_append_right _ (List.mem_append_right _ hy)
    · rintro m₁ nx h6 tk6 ⟨oP', P', rfl, hP', hep', fo', m1, fl⟩ F6 N6
      refine ⟨rfl, h6, tk6, m₁, oP', P', rfl, F6, N6, hP', fo', m1, fun y hy => fl y (by rw [List.take_length]; exact hy)⟩
    · rfl
  case cont =>
    rintro fl s6 ⟨rfl, h6, tk6, m6, oP6, P6, rfl, F6, N6, hP6, fo6, m61, flat6⟩
    have F7 := named F6 [(Str.ofString "self", .ref U.self)] (by intro p hp; rcases hp with _ | ⟨_, hp⟩ <;> first | exact m61 | cases hp)
    clear F6 F0' N0
    dsimp only
    refine seg_execs_cons ?_
    rw [exec_Expr _ _ _ (by rfl) (by rfl)]
    refine seg_bind_wrap (wpAny_standAt ?_)
    rw [eval_YieldFrom, Sem.bind_eq_wrap', Sem.bind_eq_wrap', Sem.wrap_wrap, Sem.wrap_wrap]
    refine seg_wrap ?_
    rw [over_func]
    refine wpAny_mono (E := fun _ _ => False) (Q := fun x s7 => ∃ (Vw Rd : Addr) (h7 : Heap) (tk7 : Nat) (m7 : Str → Option Value) (oR : Obj) (Tb : List Row), x = .ref Vw ∧ s7 = { s'' with heap := h7, toks := tk7 } ∧ h7.IsValuesView Vw Rd ∧ h7.get? Rd = some oR ∧ Obj.IsDictOf (intKind pr w) oR (rkv Tb) ∧
      Gr Tb P6 ∧ (∀ t ∈ Tb, SetI pr w t.2.2.1 t.2.2.2) ∧ Tb.map (·.1) = (P6.map (·.2)).foldl addK [] ∧ (∀ t ∈ Tb, h7.get? t.2.1 = some t.2.2.1 ∧ h6.get? t.2.1 = none) ∧ h6.get? Rd = none ∧ Fr g L' h7 m7 ∧ News g L' h7 (U.led w oP6 ++ extra)) ?walk ?cont (fun _ _ e => e.elim)
    case walk =>
      dsimp only [Uf.led] at N6
      k_steps
      refine Stop.out ?_
      have hl4 : ∀ x ∈ ufL w U.self U.sd U.p U.q U.t1 U.t2 U.n oP6 U.oW, @LT.lt Nat _ x.1 L' := (ufAll (Pr := fun y => @LT.lt Nat _ y L')).mpr ((ufAll (Pr := fun y => @LT.lt Nat _ y L')).mp hlt)
      refine groups_spec (A := A'.deeper _) (outer := _ :: outer) (s := { s'' with heap := h6, toks := _ }) (p := U.p) G (Cx.inner Kb F7 (Around.frames_deeper hfr) (by rfl) (by rfl) hh) (by show A'.depth + 1 + 2 < recursionLimit; omega) hP6 (N6 _ (.head _)).1 (hB _ (.head _)) ?_ ok.hp0 (by rw [fo6.plen]; exact hkl) (by rw [fo6.keys]; exact hnd) ?_
      · intro en he e
        rcases List.mem_cons.mp he with rfl | he
        · exact (Nat.ne_of_lt (hl4 _ (.head _))) (Option.some.inj e).symm
        · exact hf en he _ (.head _) e
      intro Rd oR Tb h7 tk7 hoR hdR hR0 gr hset hrows hadr hTl hord hRn e7
      obtain ⟨F8, N8⟩ := after (mu := []) (mu' := (Rd, oR) :: rnw Tb) (rest := ufL w U.self U.sd U.p U.q U.t1 U.t2 U.n oP6 U.oW ++ extra) F7 N6 (fun _ _ h => nomatch h) e7 (fun x hx => by
        rcases List.mem_cons.mp hx with rfl | hx
        · exact ⟨hoR, .inr hRn⟩
        · obtain ⟨t, ht, rfl⟩ := List.mem_map.mp hx
          exact ⟨(hrows t ht).1, .inr (hrows t ht).2.1⟩)
      clear F7 N6
      have hTlen : (rkv Tb).length ≤ sizeLine := by
        have := fo6.plen
        exact Nat.le_trans (by rw [rkv, List.length_map]; omega : (rkv Tb).length ≤ 90) (by decide)
      dsimp only [List.cons_append, List.nil_append] at N8
      k_steps
      refine Stop.out ?_
      rename Fr _ _ _ _ => F9
      rename News _ _ _ _ => N9
      exact ⟨_, Rd, _, _, _, oR, Tb, rfl, rfl, ⟨_, (N9 _ (.head _)).1, rfl, rfl⟩, (N9 _ (.tail _ (.head _))).1, hdR, gr, hset, hord, fun t ht => ⟨(N9 (t.2.1, t.2.2.1) (.tail _ (.tail _ (List.mem_append_left _ (List.mem_map.mpr ⟨t, ht, rfl⟩))))).1, (hrows t ht).2.1⟩, hRn, F9, fun x hx => N9 x (.tail _ (.tail _ (List.mem_append_right _ hx)))⟩
    case cont =>
      rintro x s7 ⟨Vw, Rd, h7, tk7, m7, oR, Tb, rfl, rfl, hVw, hoR, hdR, gr, hset, hord, hrows, hRn, F9, N9⟩
      refine seg_bind_wrap (wpAny_standAt ?_)
      unfold yieldFrom
      refine seg_bind_wrap (wpAny_typeOf (T := "dict_values") hVw.typeIs ?_)
      rw [if_neg (by decide)]
      obtain ⟨esR, epR, hrR⟩ := id hdR
      have hatR : ∀ h : Heap, h.get? Rd = some oR → h.DictAt (intKind pr w) Rd (rkv Tb) epR := fun h e => ⟨oR, esR, e, hrR⟩
      refine seg_bind_wrap (wpAny_holding (wpAny_pyIter_values (knd := intKind pr w) hVw (hatR _ hoR) ?_))
      dsimp only
      have hP6e : P6 = U.ks.map fun x => (x, U.rt x) := flat_pairs fo6.keys hnd flat6
      have hord' : Tb.map (·.1) = U.roots := by rw [hord, hP6e, List.map_map]; rfl
      have hTl : Tb.length = U.roots.length := by rw [← hord', List.length_map]
      have hcls : ∀ t ∈ Tb, t.2.2.2.Perm (U.cls t.1) := fun t ht => by
        have h1 := gr.ms t ht
        rw [hP6e, List.filter_map, List.map_map] at h1
        have e : (((·.1) : Int × Int → Int) ∘ fun x => (x, U.rt x)) = id := rfl
        rw [e, List.map_id] at h1
        exact h1
      show Seg _ _ _ _ _ _ _ (.call (yf h7.objs.size) none false [] _) [] _
      refine seg_call fun p => ?_
      have k8 : ∀ {o8 : Obj} b o, h7.get? b = some o → (h7.push o8).get? b = some o := fun b o e => Heap.get?_push_of_some _ e
      have live7 : ∀ b o, s''.heap.get? b = some o → b ∉ [U.p, U.q, U.self, U.sd, L'] → h7.get? b = some o := fun b o e hb => by
        cases hg : g.get? b with
        | some o' =>
          have h1 := F0g b o' hg
          rw [e] at h1; cases h1
          exact F9.keep b o hg
        | none => exact (N9 _ (List.mem_append_right _ (hx3 b o e hg (fun q => hb (q ▸ .tail _ (.tail _ (.tail _ (.tail _ (.head _)))))) fun q => hb (List.mem_append_left [L'] q)))).1
      have hl4 : ∀ x ∈ U.led w oP, @LT.lt Nat _ x.1 L' := hlt
      have hl5 : @LT.lt Nat _ U.p L' ∧ @LT.lt Nat _ U.q L' ∧ @LT.lt Nat _ U.self L' ∧ @LT.lt Nat _ U.sd L' := (ufAll (Pr := fun y => @LT.lt Nat _ y L')).mp hlt
      have conL : ∀ b, cons b → @LT.lt Nat _ L' b := fun b hb => Nat.lt_trans hLa (hcons b hb).1
      have con5 : ∀ b, @LT.lt Nat _ L' b → b ∉ [U.p, U.q, U.self, U.sd, L'] := fun b hb hm => by
        rcases hm with _ | ⟨_, _ | ⟨_, _ | ⟨_, _ | ⟨_, _ | ⟨_, hm⟩⟩⟩⟩⟩
        · exact Nat.lt_irrefl _ (Nat.lt_trans hb hl5.1)
        · exact Nat.lt_irrefl _ (Nat.lt_trans hb hl5.2.1)
        · exact Nat.lt_irrefl _ (Nat.lt_trans hb hl5.2.2.1)
        · exact Nat.lt_irrefl _ (Nat.lt_trans hb hl5.2.2.2)
        · exact Nat.lt_irrefl _ hb
        · cases hm
      have con6 : ∀ b, cons b → ∃ o, h6.get? b = some o := fun b hb => by
        obtain ⟨o, ho⟩ := (hcons b hb).2
        have h5 := con5 b (conL b hb)
        refine ⟨o, (N6 _ (List.mem_append_right _ (hx3 b o ho ?_ (fun q => h5 (q ▸ .tail _ (.tail _ (.tail _ (.tail _ (.head _)))))) fun q => h5 (List.mem_append_left [L'] q)))).1⟩
        exact Heap.get?_none_of_le (Nat.le_trans F9.above (Nat.le_of_lt (conL b hb)))
      have hsz7 : ∀ b o, h7.get? b = some o → @LT.lt Nat _ b h7.objs.size := fun b o e => Heap.lt_size e
      have hl9 : ∀ x ∈ U.led w oP6, h7.get? x.1 = some x.2 := fun x hx => (N9 x (List.mem_append_left _ hx)).1
      have hl10 : @LT.lt Nat _ U.p h7.objs.size ∧ @LT.lt Nat _ U.q h7.objs.size ∧ @LT.lt Nat _ U.self h7.objs.size ∧ @LT.lt Nat _ U.sd h7.objs.size := (ufAll (Pr := fun y => @LT.lt Nat _ y h7.objs.size)).mp fun x hx => hsz7 _ _ (hl9 x hx)
      rw [← hTl]
      refine seg_yf_all (U := U) (Rd := Rd) (T := Tb) (oR := oR) (ep := epR) (by rfl) (by rfl) (by exact hh) hatR hord' hset hcls ?_ ?_ ?_ ?_ ?_ ?_ ?_ ?_ ?_ Tb.length (Nat.le_refl _) s'' _ ?_ ?_
      · intro hc
        obtain ⟨o, ho⟩ := (hcons _ hc).2
        exact Nat.lt_irrefl _ (hsz7 _ _ (live7 _ o ho (con5 _ (conL _ hc))))
      · intro hc
        obtain ⟨o, ho⟩ := con6 _ hc
        rw [hRn] at ho; cases ho
      · intro t ht hc
        obtain ⟨o, ho⟩ := con6 _ hc
        rw [(hrows t ht).2] at ho; cases ho
      · refine ⟨fun hc => ?_, fun hc => ?_, fun hc => ?_, fun hc => ?_⟩
        · exact Nat.lt_irrefl _ (Nat.lt_trans (conL _ hc) hl5.1)
        · exact Nat.lt_irrefl _ (Nat.lt_trans (conL _ hc) hl5.2.1)
        · exact Nat.lt_irrefl _ (Nat.lt_trans (conL _ hc) hl5.2.2.1)
        · exact Nat.lt_irrefl _ (Nat.lt_trans (conL _ hc) hl5.2.2.2)
      · intro hm
        simp only [List.mem_cons, List.not_mem_nil, or_false] at hm
        rcases hm with e | e | e | e
        · exact Nat.ne_of_lt hl10.1 e.symm
        · exact Nat.ne_of_lt hl10.2.1 e.symm
        · exact Nat.ne_of_lt hl10.2.2.1 e.symm
        · exact Nat.ne_of_lt hl10.2.2.2 e.symm
      · exact Nat.ne_of_lt (hsz7 _ _ hoR)
      · exact fun t ht => Nat.ne_of_lt (hsz7 _ _ (hrows t ht).1)
      · obtain ⟨b, o, ho, hab, hsb⟩ := hσ
        exact Nat.le_trans hsb (hsz7 _ _ (live7 b o ho (con5 b (Nat.lt_trans hLa hab))))
      · intro s₀ s2 h
        exact seg_leaf _ (seg_end (.ok (.ret .none)) h)
      · rw [Nat.sub_self]
        exact ⟨⟨_, Heap.get?_push_size _ rfl, rfl, rfl⟩, k8 _ _ hoR, fun t ht => k8 _ _ (hrows t ht).1, P6, oP6, hP6, fo6, fun x hx => k8 _ _ (hl9 x hx)⟩
      · exact ⟨fun b o e hb _ => k8 _ _ (live7 b o e hb), rfl, rfl, rfl⟩
end
end Mine

end
theorem Mine.resetVK5 : True ∧ True := by
  first
  | (walk1; done)
  | exact ⟨trivial, trivial⟩
section
open PySem PySem.W PyProof.Rows PySem.Calls PySem.Spec PyProof.V
set_option maxRecDepth 100000
set_option maxHeartbeats 8000000
namespace Mine
/-- what has been told -/
def ToldSo (U : Uf) (tolds : List (List Int)) (i : Nat) : Prop :=
  tolds.length = i ∧ ∀ (j : Nat) (lot : List Int), tolds[j]? = some lot → ∃ r, U.roots[j]? = some r ∧ lot.Perm (U.cls r) ∧ lot.Pairwise (· ≤ ·)
theorem ToldSo.nil {U : Uf} : ToldSo U [] 0 := ⟨rfl, fun _ _ h => by simp at h⟩
theorem ToldSo.snoc {U : Uf} {tolds : List (List Int)} {i : Nat} (x : ToldSo U tolds i) {lot : List Int} {r : Int} (hr : U.roots[i]? = some r) (hp : lot.Perm (U.cls r)) (ho : lot.Pairwise (· ≤ ·)) : ToldSo U (tolds ++ [lot]) (i + 1) := by
  refine ⟨by rw [List.length_append, x.1]; rfl, fun j l e => ?_⟩
  rcases Nat.lt_trichotomy j tolds.length with h | h | h
  · rw [List.getElem?_append_left h] at e; exact x.2 j l e
  · subst h
    rw [List.getElem?_append_right (Nat.le_refl _)] at e
    simp at e; subst e
    exact ⟨r, by rw [x.1]; exact hr, hp, ho⟩
  · rw [List.getElem?_eq_none (by rw [List.length_append]; simp; omega)] at e; cases e

section
variable {prog : Program} {w : World} {A : Around} {E : Value → Shared → Prop} {s : Shared}
/-- sorted(a set of ints): the new list stands behind all that lives -/
theorem sorted_setI2 {S : Addr} {o : Obj} {ms : List Int} {Q : Value → Shared → Prop} (ho : s.heap.get? S = some o) (hs : SetI prog w o ms) (h64 : ms.length < 64) (hh : A.handled = none)
    (h : ∀ D vs c ns h' tk d, s.heap.StaysIn h' → (∀ b ob, s.heap.get? b = some ob → @LT.lt Nat _ b D) → h'.get? D = some (PySem.W.listOf (List.toArray vs) c) → IntsAre vs ns → ns.Perm ms → ns.Pairwise (· ≤ ·) → Q (.ref D) { s with heap := h', toks := tk, drawn := d }) :
    wpAny (model prog w) A (call (.builtin "sorted") [.ref S]) Q E s := by
  refine Calls.call_function_entry kind_sorted plain_sorted entry_sorted (args_sorted1 _) ?_
  unfold Builtin.«sorted»
  refine wpAny_bind (m := checkCount "sorted" 1 1 _) (wpAny_pure ?_)
  refine wpAny_bind (collect_set ho hs hh fun vs ns h1 tk d hi hp st => ?_)
  have hl : vs.length < 64 := by rw [hi.length, hp.length_eq]; exact h64
  refine wpAny_bind (wpAny_newList ?_ (by show vs.length ≤ _; exact small_line (by omega)))
  have hoL : (h1.push (seqObj "list" vs.toArray 0)).get? h1.objs.size = some (seqObj "list" vs.toArray 0) := Heap.get?_push_size _ rfl
  refine wpAny_bind (wpAny_holding (wpAny_call_entry slot_list_sort ⟨_, hoL, rfl⟩ entry_list_sort (list_sort_tree hoL hi hl fun out ns' a1 a2 a3 => ⟨_, rfl, ?_⟩) (args_list_sort _)))
  obtain ⟨e, he⟩ := sortedHeap_at (n := 0) (vs := vs) (out := out) hoL
  refine wpAny_pure ⟨_, rfl, h h1.objs.size out.toList e ns' _ tk d (fun b ob hb => ?_) (fun b ob hb => Heap.lt_size (st _ _ hb)) (by rw [Array.toArray_toList]; exact he) a1 (a2.trans hp) a3⟩
  have hlt := Heap.lt_size (st _ _ hb)
  refine (sortedHeap_old (Nat.ne_of_lt hlt) (by rw [size_push']; exact Nat.lt_succ_of_lt hlt)).trans (Heap.get?_push_of_some _ (st _ _ hb))
end

/-- the generator as the call of to_sets hands it back -/
structure GenReady (w : World) (U : Uf) (outer : List Env) (s : Shared) (a Lg : Addr) (h' : Heap) (cd : Code) : Prop where
  gen : h'.IsGen a s.gens.size
  new : @LE.le Nat _ s.heap.objs.size a
  ext : Ext [] s.heap h'
  lg : @LT.lt Nat _ Lg a
  lgn : s.heap.get? Lg = none
  goes : ∀ (cons : Addr → Prop) (σ : Addr) (A' : Around) (s'' : Shared), A'.frames = some outer → A'.handled = none → A'.depth + 8 < recursionLimit → A'.units + 210 < cLine → (∀ b, cons b → @LT.lt Nat _ a b ∧ ∃ o, s''.heap.get? b = some o) →
        (∃ b o, s''.heap.get? b = some o ∧ @LT.lt Nat _ a b ∧ @LE.le Nat _ σ (b + 1)) → Keep cons { s with heap := h' } s'' →
        (GenState.fresh cd).Goes (model pr w) A' (RR w U Lg σ) (YY w U Lg σ cons) U.roots.length (.send .none) s''

theorem push_last {α : Type} (xs : Array α) (a b : α) : (xs.push a).setIfInBounds xs.size b = xs.push b := by
  refine Array.ext (by simp) fun i h1 h2 => ?_
  rw [Array.getElem_setIfInBounds, Array.getElem_push, Array.getElem_push]
  by_cases h : xs.size = i
  · subst h; simp
  · rw [if_neg h]
    have h3 : i < xs.size := by simp at h2; omega
    rw [dif_pos h3, dif_pos h3]
  · simpa using h2

section
variable {w : World} {A : Around} {E : Value → Shared → Prop} {s : Shared} {outer : List Env}
/-- a block over the generator -/
theorem genLoop {elt iter : Expr} {x : Str} {px : Pos} {scope : Scope} {pos : Pos} {cenv : Env} {g : Heap} {U : Uf} {a Lg D : Addr} {h' : Heap} {cd : Code} {R : Result → Shared → Prop} (GR : GenReady w U outer s a Lg h' cd)
    (hfr : A.frames = some outer) (hh : A.handled = none) (hdp : A.depth + 10 < recursionLimit) (hu : A.units + 220 < cLine)
    (hx : cenv.kindOf x = some .local) (hp : (cenv.scope.kind == .class || (cenv.scope.kind == .module && cenv.locals != cenv.globals)) = false)
    (hcls : ∀ r, (U.cls r).length < 64) (hN : U.roots.length < 100)
    (hgs : g.StaysIn s.heap) (hgl : ∀ b o, g.get? b = some o → b ∉ [U.p, U.q, U.self, U.sd]) (hnl : g.NoLimit)
    {h₁ : Heap} {m₁ : Str → Option Value} {tk₁ : Nat} {oP : Obj} {P : List (Int × Int)} (F₁ : Fr g cenv.locals h₁ m₁) (N₁ : News g cenv.locals h₁ (U.led w oP)) (hP : DictI w oP P) (fo : Fo U.ks U.rt U.D P U.W) (hlo : ∀ x ∈ U.led w oP, @LT.lt Nat _ x.1 s.heap.objs.size)
    (hD : h₁.PlainList D #[]) (hDC : @LT.lt Nat _ D cenv.locals) (haD : @LT.lt Nat _ a D) (hk₁ : ∀ b o, h'.get? b = some o → h₁.get? b = some o) (hDg : ∀ o, g.get? D ≠ some o)
    (helt : ∀ (s₂ : Shared) (m : Str → Option Value) (S : Addr) (o : Obj) (ms : List Int) (Q' : Value → Shared → Prop), Fr g cenv.locals s₂.heap (fun y => if y = x then some (.ref S) else m y) → s₂.heap.get? S = some o → SetI pr w o ms → ms.length < 64 →
      (∀ Dn vs c ns h3 tk d, s₂.heap.StaysIn h3 → (∀ b ob, s₂.heap.get? b = some ob → @LT.lt Nat _ b Dn) → h3.get? Dn = some (PySem.W.listOf (List.toArray vs) c) → IntsAre vs ns → ns.Perm ms → ns.Pairwise (· ≤ ·) → Q' (.ref Dn) { s₂ with heap := h3, toks := tk, drawn := d }) →
      wpAny (model pr w) A (eval elt cenv) Q' (fun _ _ => False) s₂)
    (done : ∀ h6 tk6 d6 m6 ys tl tolds oP6 P6, Fr g cenv.locals h6 m6 → News g cenv.locals h6 (U.led w oP6 ++ tl) → DictI w oP6 P6 → Fo U.ks U.rt U.D P6 U.W → h6.PlainList D (List.toArray ys) → (∀ x ∈ tl, x.1 ≠ D) →
      (∀ h : Heap, (∀ x ∈ tl, h.get? x.1 = some x.2) → RefsAre h ys tolds) → ToldSo U tolds U.roots.length → R (.ok .next) { s with heap := h6, gens := s.gens.push .finished, drawn := d6, toks := tk6 }) :
    codeAny (model pr w) A (.compLoop (.ListComp elt [⟨.Name x px, iter, [], 0⟩] scope pos) 0 (.ref a) (.ref D) cenv) R { s with heap := h₁, gens := s.gens.push (.fresh cd), toks := tk₁ } := by
  have haC : @LT.lt Nat _ a cenv.locals := Nat.lt_trans haD hDC
  have hgLg : g.get? Lg = none := by
    cases q : g.get? Lg with
    | none => rfl
    | some o => have := hgs _ _ q; rw [GR.lgn] at this; cases this
  have gsz : s.gens.size = s.gens.size := rfl
  have gget : ∀ gs : GenState, (s.gens.push gs)[s.gens.size]? = some gs := fun gs => by simp
  have gset : ∀ gs y : GenState, (s.gens.push gs).setIfInBounds s.gens.size y = s.gens.push y := fun gs y => push_last _ _ _
  have big : ∀ b, @LE.le Nat _ a b → b ∉ [U.p, U.q, U.self, U.sd, Lg] := fun b hb hm => by
    have h6 := (ufAll (Pr := fun y => @LT.lt Nat _ y s.heap.objs.size)).mp hlo
    have hsa := GR.new
    have hlg := GR.lg
    simp only [List.mem_cons, List.not_mem_nil, or_false] at hm
    have h7 : ∀ y, @LT.lt Nat _ y a → b ≠ y := fun y hy e => Nat.lt_irrefl _ (Nat.lt_of_lt_of_le hy (e ▸ hb))
    rcases hm with e | e | e | e | e
    · exact h7 _ (Nat.lt_of_lt_of_le h6.1 hsa) e
    · exact h7 _ (Nat.lt_of_lt_of_le h6.2.1 hsa) e
    · exact h7 _ (Nat.lt_of_lt_of_le h6.2.2.1 hsa) e
    · exact h7 _ (Nat.lt_of_lt_of_le h6.2.2.2 hsa) e
    · exact h7 _ hlg e
  refine codeAny_compLoop_tests (fun k s' => ∃ i gs d tk m ys tl tolds oP' P' h, s' = { s with heap := h, gens := s.gens.push gs, drawn := d, toks := tk } ∧ h.IsGen a s.gens.size ∧
      (∀ s'' : Shared, Keep (fun b => b = cenv.locals ∨ b = D) s' s'' → (∀ b, b = cenv.locals ∨ b = D → ∃ o, s''.heap.get? b = some o) → gs.Goes (model pr w) A.in1 (RR w U Lg (cenv.locals + 1)) (YY w U Lg (cenv.locals + 1) (fun b => b = cenv.locals ∨ b = D)) (U.roots.length - i) (.send .none) s'') ∧
      Fr g cenv.locals h m ∧ News g cenv.locals h (U.led w oP' ++ tl) ∧ DictI w oP' P' ∧ Fo U.ks U.rt U.D P' U.W ∧ h.PlainList D (List.toArray ys) ∧ (∀ x ∈ tl, @LT.lt Nat _ cenv.locals x.1 ∧ ∃ its k, x.2.data = .seq its k) ∧
      (∀ h : Heap, (∀ x ∈ tl, h.get? x.1 = some x.2) → RefsAre h ys tolds) ∧ ToldSo U tolds i ∧ ys.length = i ∧ i ≤ U.roots.length ∧ k = U.roots.length + 1 - i) ?_ (U.roots.length + 1)
    ⟨0, .fresh cd, s.drawn, tk₁, m₁, [], [], [], oP, P, h₁, rfl, GR.gen.keeps hk₁, fun s'' hk hl => ?_, F₁, by rw [List.append_nil]; exact N₁, hP, fo, hD, (fun _ h => nomatch h), fun _ _ => trivial, ToldSo.nil, rfl, Nat.zero_le _, rfl⟩
  rotate_left
  · obtain ⟨oC, hoC⟩ := hl _ (.inl rfl)
    refine GR.goes _ _ A.in1 s'' hfr hh (by show A.depth + 8 < _; omega) (by show A.units + 1 + 210 < _; omega) (fun b hb => ⟨?_, hl b hb⟩) ⟨_, oC, hoC, haC, Nat.le_refl _⟩ (fun b o hb e => hk b o hb (hk₁ b o e))
    rcases hb with rfl | rfl
    · exact haC
    · exact haD
  rintro k s' ⟨i, gs, d, tk, m, ys, tl, tolds, oP', P', h, rfl, hgen, hgo, F, N, hP', fo', hDl, htl, hRef, hto, hyl, hi, rfl⟩
  have hNl : h.NoLimit := hnl.keeps F.keep
  have hlive : ∀ b, b = cenv.locals ∨ b = D → ∃ o, h.get? b = some o := fun b hb => by
    rcases hb with rfl | rfl
    · obtain ⟨o, _, _, ho, _⟩ := F.ns; exact ⟨o, ho⟩
    · obtain ⟨n, e⟩ := hDl; exact ⟨_, e⟩
  have hled4 : ∀ x ∈ U.led w oP', h.get? x.1 = some x.2 := fun x hx => (N x (List.mem_append_left _ hx)).1
  -- what a step of the generator leaves
  have step : ∀ s₁ : Shared, Stp U Lg (cenv.locals + 1) (Shared.setGen { s with heap := h, gens := s.gens.push gs, drawn := d, toks := tk } s.gens.size .running) s₁ → U.Led w s₁ →
      s₁.gens = s.gens.push .running ∧ s₁.os = s.os ∧ s₁.heap.IsGen a s.gens.size ∧ Fr g cenv.locals s₁.heap m ∧ s₁.heap.PlainList D (List.toArray ys) ∧ ∃ oP8 P8, DictI w oP8 P8 ∧ Fo U.ks U.rt U.D P8 U.W ∧ News g cenv.locals s₁.heap (U.led w oP8 ++ tl) := by
    intro s₁ hst ⟨P8, oP8, hP8, fo8, hled8⟩
    have hstay := hst.heap
    refine ⟨?_, hst.os, ?_, ?_, ?_, oP8, P8, hP8, fo8, ?_⟩
    · rw [hst.gens]; exact gset _ _
    · obtain ⟨o, nm, qn, ho, r⟩ := hgen
      exact ⟨o, nm, qn, hstay a o ho (big a (Nat.le_refl _)) (.inl (Nat.lt_succ_of_lt haC)), r⟩
    · refine ⟨F.ns.at' fun o e => hstay _ o e (big _ (Nat.le_of_lt haC)) (.inl (Nat.lt_succ_self _)), fun b o e => ?_, F.above⟩
      refine hstay b o (F.keep b o e) (fun hm => ?_) (.inl (Nat.lt_succ_of_lt (Nat.lt_of_lt_of_le (Heap.lt_size e) F.above)))
      simp only [List.mem_cons, List.not_mem_nil, or_false] at hm
      have h4 := hgl b o e
      simp only [List.mem_cons, List.not_mem_nil, or_false, not_or] at h4
      rcases hm with e1 | e1 | e1 | e1 | e1
      · exact h4.1 e1
      · exact h4.2.1 e1
      · exact h4.2.2.1 e1
      · exact h4.2.2.2 e1
      · rw [e1, hgLg] at e; cases e
    · obtain ⟨n, e⟩ := hDl
      exact ⟨n, hstay D _ e (big D (Nat.le_of_lt haD)) (.inl (Nat.lt_succ_of_lt hDC))⟩
    · intro x hx
      rcases List.mem_append.mp hx with hx | hx
      · refine ⟨hled8 x hx, ?_⟩
        have h2 : ∀ x ∈ U.led w oP', x.1 ≠ cenv.locals ∧ g.get? x.1 = none := fun x hx => (N x (List.mem_append_left _ hx)).2
        exact (ufAll (Pr := fun y => y ≠ cenv.locals ∧ g.get? y = none)).mpr ((ufAll (Pr := fun y => y ≠ cenv.locals ∧ g.get? y = none)).mp h2) x hx
      · have h2 := N x (List.mem_append_right _ hx)
        obtain ⟨h3, its, k, h4⟩ := htl x hx
        exact ⟨hstay _ _ h2.1 (big _ (Nat.le_of_lt (Nat.lt_trans haC h3))) (.inr ⟨its, k, h4⟩), h2.2⟩
  by_cases hlt : i < U.roots.length
  · obtain ⟨n, hn⟩ : ∃ n, U.roots.length - i = n + 1 := ⟨U.roots.length - i - 1, by omega⟩
    rw [hn] at hgo
    refine wpAny_pyNext_gen (P := PP w U Lg (cenv.locals + 1)) (Y := YY w U Lg (cenv.locals + 1) (fun b => b = cenv.locals ∨ b = D)) (n := n + 1) hh hNl (by omega) hgen (gget gs) (hgo _ (fun _ _ _ e => e) hlive) ?_ ?_
    · rintro v s₁ gs' ⟨a2, o, ms, r, rfl, ho2, hset, hr, hperm, hled, hstp, hkap⟩
      obtain ⟨eg, eo, hgen1, F1, hD1, oP8, P8, hP8, fo8, N1⟩ := step s₁ hstp hled
      obtain ⟨H1, G1, d1, t1, O1⟩ := s₁
      dsimp only at eg eo hgen1 F1 hD1 N1 ho2
      subst eg eo
      have hri : U.roots[i]? = some r := by
        have e : U.roots.length - 1 - (n + 1 - 1) = i := by omega
        rw [e] at hr; exact hr
      have esg : Shared.setGen ⟨H1, s.gens.push .running, d1, t1, s.os⟩ s.gens.size gs' = ⟨H1, s.gens.push gs', d1, t1, s.os⟩ := by
        simp [Shared.setGen, push_last]
      dsimp only
      rw [esg]
      refine wpAny_assign_Name (wpAny_storeName_local hx F1.ns (fun h₂ hn₂ hs₂ => ?_) hp)
      have F2 : Fr g cenv.locals h₂ (fun y => if y = x then some (.ref a2) else m y) := F1.set hn₂ hs₂
      have a2C : a2 ≠ cenv.locals := fun e => by
        obtain ⟨oC, es, ep, hoC, hdC, _⟩ := F1.ns
        rw [e, hoC] at ho2
        cases ho2
        obtain ⟨es', ep', t', rfl, _⟩ := hset
        cases hdC
      have ho3 : h₂.get? a2 = some o := hs₂.extBut _ _ a2C ho2
      refine wpAny_tests_nil ?_
      rw [if_pos rfl]
      refine wpAny_mono (helt ⟨h₂, s.gens.push gs', d1, _, s.os⟩ m a2 o ms _ F2 ho3 hset (by rw [hperm.length_eq]; exact hcls r) fun Dn vs c ns h3 tk3 d3 st3 lt3 hDn hi3 hp3 hs3 => ?_) (fun _ _ h => h) (fun _ _ e => e.elim)
      have hD3 : h3.PlainList D (List.toArray ys) := by
        obtain ⟨nD, e⟩ := hD1
        exact ⟨nD, st3 _ _ (hs₂.extBut _ _ (Nat.ne_of_lt hDC) e)⟩
      refine wpAny_list_append_plain (hsz := by rw [List.size_toArray, hyl]; exact small_line (by omega)) hD3 fun h4 hl4' hs4 => ?_
      have hy : (ys ++ [Value.ref Dn]).toArray = ys.toArray.push (Value.ref Dn) := by simp
      have CDn : @LT.lt Nat _ cenv.locals Dn := by
        obtain ⟨oC, _, _, hoC, _⟩ := F2.ns
        exact lt3 _ _ hoC
      have hkeepA : ∀ b ob, b ≠ cenv.locals → b ≠ D → H1.get? b = some ob → h4.get? b = some ob := fun b ob h1 h2 e => hs4.extBut _ _ h2 (st3 _ _ (hs₂.extBut _ _ h1 e))
      have gD : ∀ b ob, g.get? b = some ob → b ≠ D := fun b ob e q => hDg ob (q ▸ e)
      have gC : ∀ b ob, g.get? b = some ob → b ≠ cenv.locals := fun b ob e q => by
        have := Nat.lt_of_lt_of_le (Heap.lt_size e) F1.above
        rw [q] at this; exact Nat.lt_irrefl _ this
      have ledD : ∀ x ∈ U.led w oP8, x.1 ≠ D := fun x hx => by
        have h5 : ∀ x ∈ U.led w oP8, @LT.lt Nat _ x.1 s.heap.objs.size := (ufAll (Pr := fun y => @LT.lt Nat _ y s.heap.objs.size)).mpr ((ufAll (Pr := fun y => @LT.lt Nat _ y s.heap.objs.size)).mp hlo)
        have h6 := h5 x hx
        exact Nat.ne_of_lt (Nat.lt_trans (Nat.lt_of_lt_of_le h6 GR.new) haD)
      refine ⟨U.roots.length + 1 - (i + 1), by omega, i + 1, gs', d3, tk3, (fun y => if y = x then some (.ref a2) else m y), ys ++ [.ref Dn], tl ++ [(Dn, PySem.W.listOf (List.toArray vs) c)], tolds ++ [ns], oP8, P8, h4, rfl, ?_, ?_, ?_, ?_, hP8, fo8, by rw [hy]; exact hl4', ?_, ?_, hto.snoc hri (hp3.trans hperm) hs3, by rw [List.length_append, hyl]; rfl, hlt, rfl⟩
      · obtain ⟨oa, nm, qn, hoa, ra⟩ := hgen1
        exact ⟨oa, nm, qn, hkeepA _ _ (Nat.ne_of_lt haC) (Nat.ne_of_lt haD) hoa, ra⟩
      · intro s'' hk hl
        have e : U.roots.length - (i + 1) = n := by omega
        rw [e]
        exact hkap s'' fun b ob hb e => hk b ob hb (hkeepA b ob (fun q => hb (.inl q)) (fun q => hb (.inr q)) e)
      · exact ⟨(F2.ns.at' fun ob e => st3 _ _ e).at' fun ob e => hs4.extBut _ _ (Nat.ne_of_gt hDC) e, fun b ob e => hkeepA b ob (gC b ob e) (gD b ob e) (F1.keep b ob e), F1.above⟩
      · intro y hy'
        rw [← List.append_assoc] at hy'
        rcases List.mem_append.mp hy' with hy' | hy'
        · have h2 := N1 y hy'
          refine ⟨hkeepA _ _ h2.2.1 ?_ h2.1, h2.2⟩
          rcases List.mem_append.mp hy' with hy' | hy'
          · exact ledD y hy'
          · exact Nat.ne_of_gt (Nat.lt_trans hDC (htl y hy').1)
        · rw [List.mem_singleton.mp hy']
          refine ⟨hs4.extBut _ _ (Nat.ne_of_gt (Nat.lt_trans hDC CDn)) hDn, Nat.ne_of_gt CDn, ?_⟩
          cases q : g.get? Dn with
          | none => rfl
          | some ob => exact absurd (Nat.lt_trans CDn (Nat.lt_of_lt_of_le (Heap.lt_size q) F1.above)) (Nat.lt_irrefl _)
      · intro y hy'
        rcases List.mem_append.mp hy' with hy' | hy'
        · exact htl y hy'
        · rw [List.mem_singleton.mp hy']; exact ⟨CDn, _, _, rfl⟩
      · intro h5 hh5
        exact (hRef h5 fun y hy' => hh5 y (List.mem_append_left _ hy')).append ⟨⟨Dn, rfl, vs, ⟨_, hh5 _ (List.mem_append_right _ (.head _)), rfl, _, rfl⟩, hi3⟩, trivial⟩
    · rintro s₁ ⟨hz, _⟩
      cases hz
  · have hin : i = U.roots.length := by omega
    subst hin
    rw [Nat.sub_self] at hgo
    refine wpAny_pyNext_gen (P := PP w U Lg (cenv.locals + 1)) (Y := YY w U Lg (cenv.locals + 1) (fun b => b = cenv.locals ∨ b = D)) (n := 0) hh hNl (by omega) hgen (gget gs) (hgo _ (fun _ _ _ e => e) hlive) ?_ ?_
    · rintro v s₁ gs' ⟨a2, o, ms, r, rfl, ho2, hset, hr, hperm, hled, hstp, hkap⟩
      exact (hkap s₁ fun _ _ _ e => e).elim
    · rintro s₁ ⟨_, hled, hstp⟩ h9 hk9
      obtain ⟨eg, eo, hgen1, F1, hD1, oP8, P8, hP8, fo8, N1⟩ := step s₁ hstp hled
      obtain ⟨H1, G1, d1, t1, O1⟩ := s₁
      dsimp only at eg eo hgen1 F1 hD1 N1 hk9
      subst eg eo
      have esg : Shared.setGen ⟨H1, s.gens.push .running, d1, t1, s.os⟩ s.gens.size .finished = ⟨H1, s.gens.push .finished, d1, t1, s.os⟩ := by
        simp [Shared.setGen, push_last]
      rw [esg]
      exact done h9 t1 d1 m ys tl tolds oP8 P8 ⟨F1.ns.at' fun o e => hk9 _ _ e, fun b o e => hk9 _ _ (F1.keep b o e), F1.above⟩ (fun y hy => ⟨hk9 _ _ (N1 y hy).1, (N1 y hy).2⟩) hP8 fo8 (hD1.at fun o e => hk9 _ _ e) (fun y hy => Nat.ne_of_gt (Nat.lt_trans hDC (htl y hy).1)) hRef hto
end
end Mine

end
theorem Mine.resetVL1 : True ∧ True := by
  first
  | (walk1; done)
  | exact ⟨trivial, trivial⟩
section
open PySem PySem.W PyProof.Rows PySem.Calls PySem.Spec PyProof.V
set_option maxRecDepth 100000
set_option maxHeartbeats 8000000
namespace Mine
section
variable {w : World} {A : Around} {E : Value → Shared → Prop} {s : Shared} {outer : List Env} {env : Env} {g₀ : Heap} {m : Str → Option Value} {rest : List (Addr × Obj)} {elt iter : PySem.Expr} {x : Str} {px : Pos} {scope : Scope} {cl : List (Str × Addr)} {pos : Pos}
theorem GC_A {Q : Flow → Shared → Prop} {y : Str} {py spos : Pos} {U : Uf} {oP : Obj} {P : List (Int × Int)} (hP : DictI w oP P) (fo : Fo U.ks U.rt U.D P U.W)
    (hfr : A.frames = some outer) (hh : A.handled = none) (hdp : A.depth + 10 < recursionLimit) (hu : A.units + 220 < cLine)
    (hcls : ∀ r, (U.cls r).length < 64) (hN : U.roots.length < 100) (hnl : g₀.NoLimit)
    (F : Fr g₀ env.locals s.heap m) (N : News g₀ env.locals s.heap (U.led w oP ++ rest)) (hr : ∀ q ∈ rest, q.1 ∉ (U.led w oP).map (·.1))
    (hit : ∀ Q' : Value → Shared → Prop, (∀ (a : Addr) h' tk' cd Lg, GenReady w U outer s a Lg h' cd → Q' (.ref a) { s with heap := h', gens := s.gens.push (.fresh cd), toks := tk' }) → wpAny (model pr w) A (eval iter env) Q' E s)
    (helt : ∀ g C, Base g₀ env.locals m s.heap ((U.led w oP).map (·.1)) g C → ∀ (s₂ : Shared) (m : Str → Option Value) (S : Addr) (o : Obj) (ms : List Int) (Q' : Value → Shared → Prop), Fr g C s₂.heap (fun y => if y = x then some (.ref S) else m y) → s₂.heap.get? S = some o → SetI pr w o ms → ms.length < 64 →
      (∀ Dn vs c ns h3 tk d, s₂.heap.StaysIn h3 → (∀ b ob, s₂.heap.get? b = some ob → @LT.lt Nat _ b Dn) → h3.get? Dn = some (PySem.W.listOf (List.toArray vs) c) → IntsAre vs ns → ns.Perm ms → ns.Pairwise (· ≤ ·) → Q' (.ref Dn) { s₂ with heap := h3, toks := tk, drawn := d }) →
      wpAny (model pr w) A (eval elt (compEnvC scope cl C env)) Q' (fun _ _ => False) s₂)
    (done : ∀ Dl n h' tk d ys tl tolds oP6 P6, Ext (env.locals :: (U.led w oP).map (·.1)) s.heap h' → Fr g₀ env.locals h' (fun z => if z = y then some (.ref Dl) else m z) → News g₀ env.locals h' ((Dl, PySem.W.listOf (List.toArray ys) n) :: ((U.led w oP6 ++ tl) ++ rest)) → DictI w oP6 P6 → Fo U.ks U.rt U.D P6 U.W →
      (∀ h : Heap, (∀ x ∈ tl, h.get? x.1 = some x.2) → RefsAre h ys tolds) → ToldSo U tolds U.roots.length → Q .next { s with heap := h', gens := s.gens.push .finished, toks := tk, drawn := d })
    (hsw : swapsWith (.ListComp elt [⟨.Name x px, iter, [], 0⟩] scope pos) (some (.Name y py)) spos.line env = pure true)
    (hclos : closureFor scope env = pure cl) (hcell : ∀ y ∈ scope.names, y.2 ≠ .cell) (hkind : scope.kind = .function) (hnames : ∀ y ∈ scope.names, y.2 = .local → scope.names.lookup y.1 = some .local) (hx : scope.names.lookup x = some .local) (hco : scope.isCoroutine = false)
    (hy : env.kindOf y = some .local) (hp : (env.scope.kind == .class || (env.scope.kind == .module && env.locals != env.globals)) = false)
    (hs : ∀ x, foldedSetIterable iter env x = pure x := by intro _; rfl) :
    wpAny (model pr w) A (exec (.Assign [.Name y py] (.ListComp elt [⟨.Name x px, iter, [], 0⟩] scope pos) spos) env) Q E s := by
  rw [exec_Assign_Name_used _ _ _ _ hsw]
  refine wpAny_bind (wpAny_standAt (wpAny_bind ?_))
  show wpAny _ A (do let _ ← comprehension (.ListComp elt [⟨.Name x px, iter, [], 0⟩] scope pos) scope env _ (newList []) false (eval iter env) (some (assign (.Name y py) env))) _ _ s
  refine wpAny_bind (wpAny_mono (wpAny_comprehension_free (use := some (assign (.Name y py) env)) (Q := fun _ s' => Q .next s') rfl hs hclos hkind hnames (hit _ fun a h' tk' cd Lg GR => ?_)) (fun _ s' hq => wpAny_pure (wpAny_pure hq)) fun _ _ e => e)
  refine wpAny_pyIter_gen GR.gen (wpAny_newObj_type (wpAny_newFunctionEnv hcell (by intro y hy; simp at hy) (fun h₁ hns₁ hsb₁ => ?_) hkind))
  dsimp only at hns₁ hsb₁ ⊢
  have hext : ∀ b o, s.heap.get? b = some o → h'.get? b = some o := fun b o e => GR.ext b o (fun h => nomatch h) e
  generalize hH2 : h'.push { cls := .type "list", dict := none, data := .seq ([] : List Value).toArray } = H2 at hns₁ hsb₁ ⊢
  have hC : H2.objs.size = h'.objs.size + 1 := by rw [← hH2, Heap.size_push]
  have haD : @LT.lt Nat _ a h'.objs.size := by obtain ⟨o, _, _, e, _⟩ := GR.gen; exact Heap.lt_size e
  have hDC : @LT.lt Nat _ h'.objs.size H2.objs.size := by rw [hC]; exact Nat.lt_succ_self _
  have hsC : @LE.le Nat _ s.heap.objs.size H2.objs.size := Nat.le_trans GR.new (Nat.le_of_lt (Nat.lt_trans haD hDC))
  have old : ∀ b o, h'.get? b = some o → h₁.get? b = some o := fun b o e => hsb₁.extBut b o (Nat.ne_of_lt (Nat.lt_trans (Heap.lt_size e) hDC)) (Heap.get?_push_of_some _ (hH2 ▸ Heap.get?_push_of_some _ e))
  have hacc : h₁.PlainList h'.objs.size #[] := ⟨0, hsb₁.extBut _ _ (Nat.ne_of_lt hDC) (Heap.get?_push_of_some _ (hH2 ▸ Heap.get?_push_size _ rfl))⟩
  have BB : Base g₀ env.locals m s.heap ((U.led w oP).map (·.1)) (hideAll s.heap ((U.led w oP).map (·.1))) H2.objs.size := Base.of F (fun p hp => N p (List.mem_append_left _ hp)) hsC
  have lts : ∀ p ∈ U.led w oP, @LT.lt Nat _ p.1 s.heap.objs.size := fun p hp => Heap.lt_size (N p (List.mem_append_left _ hp)).1
  have fresh : ∀ a, @LE.le Nat _ s.heap.objs.size a → (hideAll s.heap ((U.led w oP).map (·.1))).get? a = none := fun a ha => by
    cases e : (hideAll s.heap ((U.led w oP).map (·.1))).get? a with
    | none => rfl
    | some o' => exact absurd (Heap.lt_size (of_hideAll _ e)) (Nat.not_lt.mpr ha)
  have hDg := fresh h'.objs.size (Nat.le_trans GR.new (Nat.le_of_lt haD))
  have loop : ∀ s₃ : Shared, s₃ = { s with heap := h₁, gens := s.gens.push (.fresh cd), toks := tk' + ([] : List (Str × Value)).length } →
      codeAny (model pr w) A (.compLoop (.ListComp elt [⟨.Name x px, iter, [], 0⟩] scope pos) 0 (.ref a) (.ref h'.objs.size) (compEnvC scope cl H2.objs.size env))
        (compPost (model pr w) A E (some (assign (.Name y py) env)) (fun _ s' => Q .next s') (.ref h'.objs.size) H2.objs.size) s₃ := by
    rintro s₃ rfl
    have hnl' : (hideAll s.heap ((U.led w oP).map (·.1))).NoLimit := hnl.keeps BB.st
    have hgs' : (hideAll s.heap ((U.led w oP).map (·.1))).StaysIn s.heap := fun b o e => of_hideAll _ e
    have hgl' : ∀ b o, (hideAll s.heap ((U.led w oP).map (·.1))).get? b = some o → b ∉ [U.p, U.q, U.self, U.sd] := fun b o e hm => by
      rw [BB.hid b hm] at e; cases e
    have F₁ : Fr (hideAll s.heap ((U.led w oP).map (·.1))) (compEnvC scope cl H2.objs.size env).locals h₁ _ := ⟨hns₁, fun b o e => old _ _ (hext _ _ (of_hideAll _ e)), by rw [hideAll_size]; exact hsC⟩
    have N₁ : News (hideAll s.heap ((U.led w oP).map (·.1))) (compEnvC scope cl H2.objs.size env).locals h₁ (U.led w oP) := fun p hp => ⟨old _ _ (hext _ _ (N p (List.mem_append_left _ hp)).1), Nat.ne_of_lt (Nat.lt_of_lt_of_le (lts p hp) hsC), BB.hid _ (List.mem_map_of_mem hp)⟩
    refine genLoop (g := hideAll s.heap ((U.led w oP).map (·.1))) (cenv := compEnvC scope cl H2.objs.size env) (oP := oP) (P := P) GR hfr hh hdp hu (lookup_relabel_local hx) ?hp1 ?_ ?_ ?_ ?_ ?_ F₁ ?_ ?_ ?_ ?_ ?_ ?_ ?_ ?_ ?_ ?_ ?_
    case hp1 => simp [compEnvC, relabel, hkind]
    · exact hcls
    · exact hN
    · exact hgs'
    · exact hgl'
    · exact hnl'
    · exact N₁
    · exact hP
    · exact fo
    · exact lts
    · exact hacc
    · exact hDC
    · exact haD
    · exact old
    · exact fun o e => by rw [hDg] at e; cases e
    · exact helt _ _ BB
    · intro h6 tk6 d6 m6 ys tl tolds oP6 P6 F6 N6 hP6 fo6 hD6 htl hRef hto
      exact compPost_use (s := { s with gens := s.gens.push .finished, drawn := d6 }) (rest := rest) (hideAll s.heap ((U.led w oP).map (·.1))) H2.objs.size h'.objs.size h6 tk6 m6 ys (U.led w oP6 ++ tl) BB F6 N6 hD6 (Nat.ne_of_lt hDC) hDg (fun p hp => N p (List.mem_append_right _ hp)) hr (by rw [hideAll_size]; exact hsC) hy hp
        fun n h'' tk'' e1 F1 N1 => done h'.objs.size n h'' tk'' d6 ys tl tolds oP6 P6 e1 F1 N1 hP6 fo6 hRef hto
  exact codeAny_compStart_list (loop _ rfl) (wpAny_pyIter_gen (GR.gen.keeps old) (loop _ rfl))
end
end Mine

end
theorem Mine.resetVL2 : True ∧ True := by
  first
  | (walk1; done)
  | exact ⟨trivial, trivial⟩
section
open PySem PySem.W PyProof.Rows PySem.Calls PySem.Spec PyProof.V
set_option maxRecDepth 100000
set_option maxHeartbeats 8000000
namespace Mine
abbrev Kp (p : Array Nat) (i : Nat) : Nat := p.getD i 0
theorem Kp_congr {p q : Array Nat} {i j : Nat} (h : p[i]? = q[j]?) : Kp p i = Kp q j := by
  simp only [Kp, Array.getD_eq_getD_getElem?, h]
theorem Kp_mirror {p : Array Nat} {i j : Nat} (hj : j ≤ p.size) (k : Nat) : Kp (kas_rev p i j) k = if i ≤ k ∧ k < j then Kp p (i + j - 1 - k) else Kp p k := by
  have e := getElem?_mirror_all (i := i) hj k
  by_cases h : i ≤ k ∧ k < j
  · rw [if_pos h] at e ⊢; exact Kp_congr e
  · rw [if_neg h] at e ⊢; exact Kp_congr e
theorem Kp_bubble {p : Array Nat} {src d : Nat} (hs : src < p.size) (hd : d ≤ src) (k : Nat) : Kp (bubble p src d) k = if k = src - d then Kp p src else if src - d < k ∧ k ≤ src then Kp p (k - 1) else Kp p k := by
  have e := getElem?_bubble hs d hd k
  by_cases h : k = src - d
  · rw [if_pos h] at e ⊢; exact Kp_congr e
  · rw [if_neg h] at e ⊢
    by_cases h2 : src - d < k ∧ k ≤ src
    · rw [if_pos h2] at e ⊢; exact Kp_congr e
    · rw [if_neg h2] at e ⊢; exact Kp_congr e

/-- a rearrangement of the places 0 .. n-1 -/
structure Rg (n : Nat) (p : Array Nat) : Prop where
  pm : p.toList.Perm (List.range n)
theorem Rg.sz {n : Nat} {p : Array Nat} (r : Rg n p) : p.size = n := by
  have := r.pm.length_eq
  simpa using this
theorem Rg.lt {n : Nat} {p : Array Nat} (r : Rg n p) {i : Nat} (h : i < n) : Kp p i < n := by
  have hs := r.sz
  have hm : Kp p i ∈ p.toList := by
    have h' : i < p.size := by omega
    have : Kp p i = p[i] := by simp [Kp, Array.getD, h']
    rw [this]; simp
  simpa using r.pm.mem_iff.mp hm
theorem Rg.rev {n : Nat} {p : Array Nat} (r : Rg n p) (i j : Nat) : Rg n (kas_rev p i j) := ⟨(Array.perm_iff_toList_perm.mp (mirror_perm p i j _)).trans r.pm⟩
theorem Rg.bub {n : Nat} {p : Array Nat} (r : Rg n p) (k d : Nat) : Rg n (bubble p k d) := ⟨(Array.perm_iff_toList_perm.mp (bubble_perm p k d)).trans r.pm⟩

section
variable {n : Nat} {blt : Nat → Nat → Bool} {cmp : Nat → Nat → (Bool → Shared → Prop) → Shared → Prop} {Inv : Shared → Prop}
/-- the order that is asked for -/
structure Asks (n : Nat) (blt : Nat → Nat → Bool) (cmp : Nat → Nat → (Bool → Shared → Prop) → Shared → Prop) (Inv : Shared → Prop) : Prop where
  irr : ∀ a, blt a a = false
  asy : ∀ a b, blt a b = true → blt b a = false
  tr : ∀ a b c, blt b a = false → blt c b = false → blt c a = false
  ask : ∀ i j C s, i < n → j < n → Inv s → (∀ s', Inv s' → C (blt i j) s') → cmp i j C s

/-- the first k places are in order -/
def Asc (blt : Nat → Nat → Bool) (p : Array Nat) (k : Nat) : Prop := ∀ i j, i ≤ j → j < k → blt (Kp p j) (Kp p i) = false
def Dsc (blt : Nat → Nat → Bool) (p : Array Nat) (k : Nat) : Prop := ∀ i j, i ≤ j → j < k → blt (Kp p i) (Kp p j) = false

theorem kas_asc_ok (A : Asks n blt cmp Inv) {p : Array Nat} (hp : Rg n p) : ∀ (f m : Nat) (s : Shared) (Q : Nat → Shared → Prop), 1 ≤ m → m + f ≤ n → Asc blt p m → Inv s →
    (∀ m' s', Inv s' → m ≤ m' → m' ≤ m + f → Asc blt p m' → (m' < m + f → blt (Kp p m') (Kp p (m' - 1)) = true) → Q m' s') → (kas_asc p f m).kasWp cmp Q s
  | 0, m, s, Q, _, _, ha, hI, hQ => hQ m s hI (Nat.le_refl _) (Nat.le_refl _) ha fun h => absurd h (Nat.lt_irrefl _)
  | f + 1, m, s, Q, h1, hm, ha, hI, hQ => by
    show cmp (Kp p m) (Kp p (m - 1)) _ s
    refine A.ask _ _ _ _ (hp.lt (by omega)) (hp.lt (by omega)) hI fun s' hI' => ?_
    cases hb : blt (Kp p m) (Kp p (m - 1)) with
    | true => exact hQ m s' hI' (Nat.le_refl _) (by omega) ha fun _ => hb
    | false =>
      refine kas_asc_ok A hp f (m + 1) s' Q (by omega) (by omega) (fun i j hij hj => ?_) hI' fun m' s'' a b c d e => hQ m' s'' a (by omega) (by omega) d fun h => e (by omega)
      by_cases hjm : j < m
      · exact ha i j hij hjm
      · obtain rfl : j = m := by omega
        by_cases hi : i = j
        · subst hi; exact A.irr _
        · exact A.tr _ _ _ (ha i (j - 1) (by omega) (by omega)) hb

/-- the last q + 1 of the first m are alike -/
def Alike (blt : Nat → Nat → Bool) (p : Array Nat) (lo m : Nat) : Prop := ∀ i j, lo ≤ i → i < m → lo ≤ j → j < m → blt (Kp p i) (Kp p j) = false

theorem Dsc.revAlike (A : Asks n blt cmp Inv) {p : Array Nat} (hp : Rg n p) {lo m k : Nat} (hm : m ≤ k) (hk : k ≤ n) (d : Dsc blt p k) (al : Alike blt p lo m) : Dsc blt (kas_rev p lo m) k := fun i j hij hj => by
  have hs := hp.sz
  rw [Kp_mirror (by omega), Kp_mirror (by omega)]
  split
  · split
    · exact al _ _ (by omega) (by omega) (by omega) (by omega)
    · rename_i h1 h2
      refine A.tr _ (Kp p i) _ ?_ ?_
      · exact d i j hij hj
      · exact al _ _ (by omega) (by omega) (by omega) (by omega)
  · split
    · rename_i h1 h2
      by_cases hlt : i < lo
      · exact d i _ (by omega) (by omega)
      · exact absurd ⟨by omega, by omega⟩ h1
    · exact d i j hij hj

theorem kas_desc_ok (A : Asks n blt cmp Inv) : ∀ (f : Nat) (p : Array Nat) (m q : Nat) (s : Shared) (Q : Array Nat × Nat × Nat → Shared → Prop), Rg n p → 1 ≤ m → m + f ≤ n → Dsc blt p m → q + 1 ≤ m → Alike blt p (m - (q + 1)) m → Inv s →
    (∀ p' m' q' s', Inv s' → Rg n p' → m ≤ m' → m' ≤ m + f → Dsc blt p' m' → q' + 1 ≤ m' → Alike blt p' (m' - (q' + 1)) m' → Q (p', m', q') s') → (kas_desc f p m q).kasWp cmp Q s
  | 0, p, m, q, s, Q, hp, _, _, hd, hq, hal, hI, hQ => hQ p m q s hI hp (Nat.le_refl _) (Nat.le_refl _) hd hq hal
  | f + 1, p, m, q, s, Q, hp, h1, hm, hd, hq, hal, hI, hQ => by
    show cmp (Kp p m) (Kp p (m - 1)) _ s
    refine A.ask _ _ _ _ (hp.lt (by omega)) (hp.lt (by omega)) hI fun s' hI' => ?_
    cases hb : blt (Kp p m) (Kp p (m - 1)) with
    | true =>
      have ext : Dsc blt p (m + 1) := fun i j hij hj => by
        by_cases hjm : j < m
        · exact hd i j hij hjm
        · obtain rfl : j = m := by omega
          by_cases hi : i = j
          · subst hi; exact A.irr _
          · exact A.tr _ _ _ (A.asy _ _ hb) (hd i (j - 1) (by omega) (by omega))
      have one : ∀ p' : Array Nat, Alike blt p' (m + 1 - (0 + 1)) (m + 1) := fun p' i j a b c d => by
        obtain rfl : i = j := by omega
        exact A.irr _
      show KasT.kasWp cmp (if true = true then (if q > 0 then kas_desc f (kas_rev p (m - (q + 1)) m) (m + 1) 0 else kas_desc f p (m + 1) 0) else _) Q s'
      rw [if_pos rfl]
      split
      · exact kas_desc_ok A f _ (m + 1) 0 s' Q (hp.rev _ _) (by omega) (by omega) (ext.revAlike A hp (by omega) (by omega) hal) (by omega) (one _) hI' fun p' m' q' s'' a b c d => hQ p' m' q' s'' a b (by omega) (by omega)
      · exact kas_desc_ok A f _ (m + 1) 0 s' Q hp (by omega) (by omega) ext (by omega) (one _) hI' fun p' m' q' s'' a b c d => hQ p' m' q' s'' a b (by omega) (by omega)
    | false =>
      show KasT.kasWp cmp (if false = true then _ else .ask (Kp p (m - 1)) (Kp p m) fun d => if d = true then .ret (p, m, q) else kas_desc f p (m + 1) (q + 1)) Q s'
      rw [if_neg Bool.false_ne_true]
      show cmp (Kp p (m - 1)) (Kp p m) _ s'
      refine A.ask _ _ _ _ (hp.lt (by omega)) (hp.lt (by omega)) hI' fun s2 hI2 => ?_
      cases hb2 : blt (Kp p (m - 1)) (Kp p m) with
      | true => exact hQ p m q s2 hI2 hp (Nat.le_refl _) (by omega) hd hq hal
      | false =>
        refine kas_desc_ok A f p (m + 1) (q + 1) s2 Q hp (by omega) (by omega) (fun i j hij hj => ?_) (by omega) (fun i j a b c d => ?_) hI2 fun p' m' q' s'' a b c d => hQ p' m' q' s'' a b (by omega) (by omega)
        · by_cases hjm : j < m
          · exact hd i j hij hjm
          · obtain rfl : j = m := by omega
            by_cases hi : i = j
            · subst hi; exact A.irr _
            · exact A.tr _ _ _ hb2 (hd i (j - 1) (by omega) (by omega))
        · have al : ∀ i, m - (q + 1) ≤ i → i < m → blt (Kp p i) (Kp p m) = false ∧ blt (Kp p m) (Kp p i) = false := fun i h1 h2 =>
            ⟨A.tr _ _ _ hb2 (hal i (m - 1) h1 h2 (by omega) (by omega)), A.tr _ _ _ (hal (m - 1) i (by omega) (by omega) h1 h2) hb⟩
          by_cases hi : i = m
          · subst hi
            by_cases hj : j = i
            · subst hj; exact A.irr _
            · exact (al j (by omega) (by omega)).2
          · by_cases hj : j = m
            · subst hj; exact (al i (by omega) (by omega)).1
            · exact hal i j (by omega) (by omega) (by omega) (by omega)

theorem kas_tail3_ok (A : Asks n blt cmp Inv) {m nrem : Nat} {p : Array Nat} {s : Shared} {Q : Nat × Array Nat → Shared → Prop} (hp : Rg n p) (h1 : 1 ≤ m) (hm : m ≤ nrem) (hn : nrem ≤ n) (hd : Dsc blt p m) (hI : Inv s)
    (hQ : ∀ m' p' s', Inv s' → Rg n p' → 1 ≤ m' → m' ≤ nrem → Asc blt p' m' → Q (m', p') s') : (kas_tail3 m nrem p).kasWp cmp Q s := by
  unfold kas_tail3
  rw [KasT.kasWp_bind]
  have hs := hp.sz
  refine kas_asc_ok A (hp.rev 0 m) (nrem - m) m s _ h1 (by omega) (fun i j hij hj => ?_) hI fun m' s' hI' a b c _ => hQ m' _ s' hI' (hp.rev 0 m) (by omega) (by omega) c
  rw [Kp_mirror (by omega), Kp_mirror (by omega), if_pos (by omega), if_pos (by omega)]
  exact hd _ _ (by omega) (by omega)

theorem kas_descPart_ok (A : Asks n blt cmp Inv) {m nrem : Nat} {p : Array Nat} {s : Shared} {Q : Nat × Array Nat → Shared → Prop} (hp : Rg n p) (hm : m + 1 ≤ nrem) (hn : nrem ≤ n) (hd : Dsc blt p (m + 1)) (hI : Inv s)
    (hQ : ∀ m' p' s', Inv s' → Rg n p' → 1 ≤ m' → m' ≤ nrem → Asc blt p' m' → Q (m', p') s') : (kas_descPart m nrem p).kasWp cmp Q s := by
  unfold kas_descPart
  rw [KasT.kasWp_bind]
  refine kas_desc_ok A (nrem - (m + 1)) p (m + 1) 0 s _ hp (by omega) (by omega) hd (by omega) (fun i j a b c d => by obtain rfl : i = j := (by omega); exact A.irr _) hI fun p' m' q' s' hI' hp' a b hd' hq' hal' => ?_
  dsimp only
  split
  · exact kas_tail3_ok A (hp'.rev _ _) (by omega) (by omega) hn (hd'.revAlike A hp' (Nat.le_refl _) (by omega) hal') hI' hQ
  · exact kas_tail3_ok A hp' (by omega) (by omega) hn hd' hI' hQ

theorem kas_count_ok (A : Asks n blt cmp Inv) {nrem : Nat} {p : Array Nat} {s : Shared} {Q : Nat × Array Nat → Shared → Prop} (hp : Rg n p) (h1 : 1 ≤ nrem) (hn : nrem ≤ n) (hI : Inv s)
    (hQ : ∀ m' p' s', Inv s' → Rg n p' → 1 ≤ m' → m' ≤ nrem → Asc blt p' m' → Q (m', p') s') : (kas_count nrem p).kasWp cmp Q s := by
  unfold kas_count
  rw [KasT.kasWp_bind]
  have hs := hp.sz
  refine kas_asc_ok A hp (nrem - 1) 1 s _ (Nat.le_refl _) (by omega) (fun i j a b => by obtain rfl : i = j := (by omega); exact A.irr _) hI fun m s' hI' a b ha hl => ?_
  split
  · exact hQ m p s' hI' hp a (by omega) ha
  · rename_i hne
    have hne' : m ≠ nrem := by simpa using hne
    have hlt : blt (Kp p m) (Kp p (m - 1)) = true := hl (by omega)
    split
    · show cmp (Kp p 0) (Kp p (m - 1)) _ s'
      refine A.ask _ _ _ _ (hp.lt (by omega)) (hp.lt (by omega)) hI' fun s2 hI2 => ?_
      cases hb : blt (Kp p 0) (Kp p (m - 1)) with
      | true => exact hQ m p s2 hI2 hp a (by omega) ha
      | false =>
        show KasT.kasWp cmp (if false = true then _ else kas_descPart m nrem (kas_rev p 0 m)) Q s2
        rw [if_neg Bool.false_ne_true]
        have al : Alike blt p 0 m := fun i j _ hi _ hj => A.tr _ _ _ (ha j (m - 1) (by omega) (by omega)) (A.tr _ _ _ hb (ha 0 i (by omega) hi))
        refine kas_descPart_ok A (hp.rev 0 m) (by omega) hn (Dsc.revAlike A hp (by omega) (by omega) (fun i j hij hj => ?_) al) hI2 hQ
        by_cases hjm : j < m
        · exact al i j (by omega) (by omega) (by omega) hjm
        · obtain rfl : j = m := by omega
          by_cases hi : i = j
          · subst hi; exact A.irr _
          · exact A.tr _ _ _ (A.asy _ _ hlt) (al i (j - 1) (by omega) (by omega) (by omega) (by omega))
    · obtain rfl : m = 1 := by omega
      refine kas_descPart_ok A hp (by omega) hn (fun i j hij hj => ?_) hI' hQ
      by_cases hi : i = j
      · subst hi; exact A.irr _
      · obtain rfl : i = 0 := by omega
        obtain rfl : j = 1 := by omega
        exact A.asy _ _ hlt

theorem kas_place_ok (A : Asks n blt cmp Inv) {p : Array Nat} {k : Nat} (hp : Rg n p) (hk : k < n) (ha : Asc blt p k) : ∀ (f l r : Nat) (s : Shared) (Q : Nat → Shared → Prop), l ≤ r → r ≤ k → r - l ≤ f →
    (∀ i, i < l → blt (Kp p k) (Kp p i) = false) → (∀ i, r ≤ i → i < k → blt (Kp p k) (Kp p i) = true) → Inv s →
    (∀ l' s', Inv s' → l' ≤ k → (∀ i, i < l' → blt (Kp p k) (Kp p i) = false) → (∀ i, l' ≤ i → i < k → blt (Kp p k) (Kp p i) = true) → Q l' s') → (kas_place p k f l r).kasWp cmp Q s
  | 0, l, r, s, Q, hlr, hrk, hf, h1, h2, hI, hQ => by
    obtain rfl : l = r := by omega
    exact hQ l s hI hrk h1 h2
  | f + 1, l, r, s, Q, hlr, hrk, hf, h1, h2, hI, hQ => by
    unfold kas_place
    split
    · obtain rfl : l = r := by omega
      exact hQ l s hI hrk h1 h2
    · show cmp (Kp p k) (Kp p ((l + r) / 2)) _ s
      refine A.ask _ _ _ _ (hp.lt (by omega)) (hp.lt (by omega)) hI fun s' hI' => ?_
      cases hb : blt (Kp p k) (Kp p ((l + r) / 2)) with
      | true =>
        refine kas_place_ok A hp hk ha f l ((l + r) / 2) s' Q (by omega) (by omega) (by omega) h1 (fun i a b => ?_) hI' hQ
        -- k is below the middle, the middle is not above i
        cases hc : blt (Kp p k) (Kp p i) with
        | true => rfl
        | false =>
          have := A.tr _ _ _ (ha ((l + r) / 2) i a b) hc
          rw [hb] at this; cases this
      | false =>
        exact kas_place_ok A hp hk ha f ((l + r) / 2 + 1) r s' Q (by omega) hrk (by omega) (fun i a => A.tr _ _ _ (ha i ((l + r) / 2) (by omega) (by omega)) hb) h2 hI' hQ

theorem kas_bin_ok (A : Asks n blt cmp Inv) : ∀ (f : Nat) (p : Array Nat) (k : Nat) (s : Shared) (Q : Array Nat → Shared → Prop), Rg n p → k + f ≤ n → Asc blt p k → Inv s →
    (∀ p' s', Inv s' → Rg n p' → Asc blt p' (k + f) → Q p' s') → (kas_bin f p k).kasWp cmp Q s
  | 0, p, k, s, Q, hp, _, ha, hI, hQ => hQ p s hI hp ha
  | f + 1, p, k, s, Q, hp, hk, ha, hI, hQ => by
    have hs := hp.sz
    unfold kas_bin
    rw [KasT.kasWp_bind]
    refine kas_place_ok A hp (by omega) ha k 0 k s _ (Nat.zero_le _) (Nat.le_refl _) (by omega) (fun i h => absurd h (Nat.not_lt_zero _)) (fun i a b => absurd a (by omega)) hI fun l s' hI' hl lo hi => ?_
    refine kas_bin_ok A f _ (k + 1) s' Q (hp.bub _ _) (by omega) (fun i j hij hj => ?_) hI' fun p' s'' a b c => hQ p' s'' a b (by rw [show k + (f + 1) = k + 1 + f by omega]; exact c)
    rw [Kp_bubble (by omega) (by omega), Kp_bubble (by omega) (by omega), show k - (k - l) = l by omega]
    repeat' split
    all_goals first
      | (exfalso; omega)
      | exact A.irr _
      | exact lo _ (by omega)
      | exact A.asy _ _ (hi _ (by omega) (by omega))
      | exact ha _ _ (by omega) (by omega)

theorem kas_sort_ok (A : Asks n blt cmp Inv) {s : Shared} {Q : Array Nat → Shared → Prop} (h1 : 1 ≤ n) (hI : Inv s) (hQ : ∀ p s', Inv s' → Rg n p → Asc blt p n → Q p s') : (kas_sort n).kasWp cmp Q s := by
  unfold kas_sort
  rw [KasT.kasWp_bind]
  refine kas_count_ok A ⟨by simp⟩ h1 (Nat.le_refl _) hI fun m p s' hI' hp a b ha => ?_
  dsimp only
  split
  · refine kas_bin_ok A _ p _ s' Q hp (by omega) (fun i j hij hj => ?_) hI' fun p' s'' c d e => hQ p' s'' c d (by
      rw [show max m 1 + (n - max m 1) = n by omega] at e; exact e)
    exact ha i j hij (by omega)
  · obtain rfl : m = n := by omega
    exact hQ p s' hI' hp ha
end
end Mine

end
theorem Mine.resetKS2 : True ∧ True := by
  first
  | (walk1; done)
  | exact ⟨trivial, trivial⟩
section
open PySem PySem.W PyProof.Rows PySem.Calls PySem.Spec PyProof.V
set_option maxRecDepth 100000
set_option maxHeartbeats 8000000
namespace Mine
section
variable {prog : Program} {w : World} {A : Around} {E : Value → Shared → Prop} {s : Shared} {g : Heap} {L : Addr} {m : Str → Option Value} {news : List (Addr × Obj)}
/-- sorted(a row of one item or none) -/
theorem sorted_few {l : Addr} {vs : List Value} {Q : Value → Shared → Prop} (F : Fr g L s.heap m) (N : News g L s.heap news) (hl : s.heap.IsList l vs.toArray) (h2 : vs.length < 2)
    (h : ∀ D c h', Fr g L h' m → News g L h' ((D, PySem.W.listOf vs.toArray c) :: news) → (∀ q ∈ news, @LT.lt Nat _ q.1 D) → Q (.ref D) { s with heap := h' }) : wpAny (model prog w) A (call (.builtin "sorted") [.ref l]) Q E s := by
  refine Calls.call_function_entry kind_sorted plain_sorted entry_sorted (args_sorted1 _) ?_
  unfold Builtin.«sorted»
  refine wpAny_bind (m := checkCount "sorted" 1 1 _) (wpAny_pure ?_)
  refine wpAny_bind (collect_list hl ?_ (by rw [sizeLine_eq]; omega))
  refine wpAny_bind (wpAny_newList ?_ (by rw [sizeLine_eq]; omega))
  generalize hX : (s.heap.push (seqObj "list" #[] 0)).update s.heap.objs.size (Obj.mapSeq (· ++ vs.toArray)) = X
  have hXs : X.objs.size = s.heap.objs.size + 1 := by rw [← hX, Heap.size_update, size_push']
  have hXk : ∀ b o, s.heap.get? b = some o → X.get? b = some o := fun b o e => by
    rw [← hX]
    exact (Heap.get?_update_other _ _ (Nat.ne_of_gt (Heap.lt_size e))).trans (Heap.get?_push_of_some _ e)
  have hoL : (X.push (seqObj "list" vs.toArray 0)).get? X.objs.size = some (seqObj "list" vs.toArray 0) := Heap.get?_push_size _ rfl
  refine wpAny_bind (wpAny_holding (wpAny_call_entry slot_list_sort ⟨_, hoL, rfl⟩ entry_list_sort ?body (args_list_sort _)))
  case body =>
    rw [list_sort_plain]
    refine wpAny_bind (listItems_at hoL rfl (wpAny_bind (listUpdate_at hoL rfl ?_ (by rw [List.size_toArray, sizeLine_eq]; omega) (Nat.zero_le _))))
    obtain ⟨e1, ho1⟩ : ∃ e1, ((X.push (seqObj "list" vs.toArray 0)).update X.objs.size (Obj.mapSeq fun _ => #[])).get? X.objs.size = some (seqObj "list" #[] e1) := ⟨_, get?_update_seq hoL (fun _ => #[])⟩
    have hsz1 : ((X.push (seqObj "list" vs.toArray 0)).update X.objs.size (Obj.mapSeq fun _ => (#[] : Array Value))).objs.size = X.objs.size + 1 := by rw [Heap.size_update, size_push']
    have hk1 : ∀ b o, s.heap.get? b = some o → ((X.push (seqObj "list" vs.toArray 0)).update X.objs.size (Obj.mapSeq fun _ => (#[] : Array Value))).get? b = some o := fun b o e =>
      (Heap.get?_update_other _ _ (Nat.ne_of_gt (Heap.lt_size (hXk b o e)))).trans (Heap.get?_push_of_some _ (hXk b o e))
    refine wpAny_bind (seqEpoch_at ho1 rfl (wpAny_bind (wpAny_newTuple ?_ (by show vs.length ≤ _; rw [sizeLine_eq]; omega))))
    refine wpAny_bind (wpAny_newList ?_ (Nat.zero_le _))
    refine wpAny_holding ?_
    dsimp only
    generalize hY : (((X.push (seqObj "list" vs.toArray 0)).update X.objs.size (Obj.mapSeq fun _ => (#[] : Array Value))).push (seqObj "tuple" vs.toArray 0)).push (seqObj "list" #[] 0) = Y
    have ho6 : Y.get? X.objs.size = some (seqObj "list" #[] e1) := by rw [← hY]; exact Heap.get?_push_of_some _ (Heap.get?_push_of_some _ ho1)
    have hk6 : ∀ b o, s.heap.get? b = some o → Y.get? b = some o := fun b o e => by rw [← hY]; exact Heap.get?_push_of_some _ (Heap.get?_push_of_some _ (hk1 b o e))
    have hn2 : vs.toArray.size < 2 := by rw [List.size_toArray]; exact h2
    rw [if_pos hn2, if_pos hn2]
    refine wpAny_bind (wpAny_pure ?_)
    rw [StateT.run_pure]
    refine wpAny_bind (wpAny_pure ?_)
    dsimp only
    have hmap : (vs.toArray.zip vs.toArray).map (·.2) = vs.toArray := by
      apply Array.toList_inj.mp
      rw [Array.toList_map]
      simp [List.map_snd_zip]
    show wpAny _ _ (seqEpoch X.objs.size >>= _) _ _ { s with heap := Y }
    refine wpAny_bind (seqEpoch_at (s := { s with heap := Y }) ho6 rfl ?_)
    have e7 : (arrOf (SortSt.mk' general' (vs.toArray.zip vs.toArray) #[] 7 none)).map (·.2) = vs.toArray := hmap
    rw [e7]
    refine wpAny_bind (listUpdate_at (s := { s with heap := Y }) ho6 rfl ?_ (Nat.zero_le _) (by rw [List.size_toArray, sizeLine_eq]; omega))
    simp only [bne_self_eq_false, Bool.false_eq_true, if_false]
    have hk7 : ∀ b o, s.heap.get? b = some o → (Y.update X.objs.size (Obj.mapSeq fun _ => vs.toArray)).get? b = some o := fun b o e =>
      (Heap.get?_update_other _ _ (Nat.ne_of_gt (Heap.lt_size (hXk b o e)))).trans (hk6 b o e)
    have hLX : @LT.lt Nat _ L X.objs.size := by
      obtain ⟨o, _, _, ho, _⟩ := F.ns; exact Heap.lt_size (hXk _ _ ho)
    obtain ⟨c7, hc7⟩ : ∃ c, (Y.update X.objs.size (Obj.mapSeq fun _ => vs.toArray)).get? X.objs.size = some (seqObj "list" vs.toArray c) := ⟨_, get?_update_seq ho6 fun _ => vs.toArray⟩
    refine wpAny_pure ⟨_, rfl, wpAny_pure ⟨_, rfl, h X.objs.size c7 _ (F.kept hk7) (fun q hq => ?_) fun q hq => Heap.lt_size (hXk _ _ (N q hq).1)⟩⟩
    rcases List.mem_cons.mp hq with rfl | hq
    · refine ⟨hc7, Nat.ne_of_gt hLX, ?_⟩
      exact Heap.get?_none_of_le (Nat.le_trans F.above (Nat.le_of_lt hLX))
    · exact ⟨hk7 _ _ (N q hq).1, (N q hq).2⟩

theorem refsAre_at {h : Heap} {p : List Nat} {vs : List Value} {lots : List (List Int)} (hR : RefsAre h vs lots) (hp : ∀ i ∈ p, i < vs.length) : RefsAre h (p.map fun i => vs.getD i Value.none) (p.map fun i => lots.getD i []) := by
  induction p with
  | nil => trivial
  | cons i p ih =>
    have hi := hp i (.head _)
    obtain ⟨b, lot, h1, h2, h3⟩ := hR.get (List.getElem?_eq_getElem hi)
    refine ⟨⟨b, ?_, ?_⟩, ih fun j hj => hp j (.tail _ hj)⟩
    · show vs.getD i Value.none = _
      rw [List.getD_eq_getElem?_getD, List.getElem?_eq_getElem hi]; exact h1
    · show IntL h b (lots.getD i [])
      rw [List.getD_eq_getElem?_getD, h2]; exact h3

/-- sorted(a row of lots) -/
theorem sorted_lots {l : Addr} {vs : List Value} {lots : List (List Int)} {Q : Value → Shared → Prop} (F : Fr g L s.heap m) (N : News g L s.heap news) (hl : s.heap.IsList l vs.toArray)
    (hat : ∀ h, Fr g L h m → News g L h news → RefsAre h vs lots) (h64 : vs.length < 64) (hu : A.units + 10 < cLine)
    (h : ∀ D c h' us slots, Fr g L h' m → News g L h' ((D, PySem.W.listOf (List.toArray us) c) :: news) → (∀ q ∈ news, @LT.lt Nat _ q.1 D) → slots.Perm lots → slots.Pairwise leL → (∀ h, Fr g L h m → News g L h news → RefsAre h us slots) → Q (.ref D) { s with heap := h' }) :
    wpAny (model prog w) A (call (.builtin "sorted") [.ref l]) Q E s := by
  have hlen : vs.length = lots.length := (hat _ F N).length
  by_cases h2 : vs.length < 2
  · refine sorted_few F N hl h2 fun D c h' F' N' hlt => h D c h' vs lots F' N' hlt .rfl ?_ hat
    match lots, hlen ▸ h2 with
    | [], _ => exact .nil
    | [x], _ => exact List.pairwise_singleton _ _
  · refine kas_sorted (T := .type "list") F N hl (by omega) h64 (fun h' F' N' v hv => ?_) (by rfl) fun D e1 h' F' N' hlt => ?_
    · obtain ⟨i, hi, rfl⟩ := List.mem_iff_getElem.mp hv
      obtain ⟨b, lot, e, _, vs', ⟨o, ho, hc, _⟩, _⟩ := (hat h' F' N').get (List.getElem?_eq_getElem hi)
      rw [e]
      have : Looks (model prog w) h' (typeOf (.ref b)) o.cls := (Looks.ld ho).andThen .now
      rw [hc] at this; exact this
    · have hR := hat h' F' fun p hp => N' p (.tail _ hp)
      have AK : Asks vs.length (fun i j => ltL (lots.getD i []) (lots.getD j [])) (kas_ask prog w A.in1.in1 oneType' vs) (fun s' => s' = { s with heap := h' }) := by
        refine ⟨fun a => ltL_irrefl _, fun a b => ltL_asymm, fun a b c e1 e2 => leL_trans e1 e2, ?_⟩
        rintro i j C s' hi hj rfl hC
        obtain ⟨b, lot, e1, e2, e3⟩ := hR.get (List.getElem?_eq_getElem hi)
        obtain ⟨b', lot', e1', e2', e3'⟩ := hR.get (List.getElem?_eq_getElem hj)
        unfold kas_ask
        have f1 : vs.getD i Value.none = .ref b := by rw [List.getD_eq_getElem?_getD, List.getElem?_eq_getElem hi]; exact e1
        have f2 : vs.getD j Value.none = .ref b' := by rw [List.getD_eq_getElem?_getD, List.getElem?_eq_getElem hj]; exact e1'
        have f3 : lots.getD i [] = lot := by rw [List.getD_eq_getElem?_getD, e2]; rfl
        have f4 : lots.getD j [] = lot' := by rw [List.getD_eq_getElem?_getD, e2']; rfl
        rw [f1, f2]
        refine lt_lists (s := { s with heap := h' }) e3 e3' (by show A.units + 1 + 1 < cLine; omega) ?_
        rw [← f3, ← f4]
        exact hC _ rfl
      refine kas_sort_ok AK (by omega) rfl ?_
      rintro p s' rfl hp ha
      have hin : ∀ i ∈ p.toList, i < vs.length := fun i hi => by simpa using hp.pm.mem_iff.mp hi
      refine KasFin.intro F' N' (UpdF.head fun q hq => Nat.ne_of_lt (hlt q hq)) fun h'' c F'' N'' => h D c h'' _ (p.toList.map fun i => lots.getD i []) F'' N'' hlt ?_ ?_ fun h3 F3 N3 => refsAre_at (hat h3 F3 N3) hin
      · have h5 := hp.pm.map fun i => lots.getD i []
        refine h5.trans ?_
        rw [hlen]
        have : (List.range lots.length).map (fun i => lots.getD i []) = lots := by
          refine List.ext_getElem (by simp) fun i h1 h2 => ?_
          simp [List.getD_eq_getElem?_getD, List.getElem?_eq_getElem h2]
        rw [this]
      · rw [List.pairwise_iff_getElem]
        intro i j hi hj hij
        have hs := hp.sz
        rw [List.length_map, Array.length_toList] at hi hj
        have h6 := ha i j (Nat.le_of_lt hij) (by omega)
        have ki : Kp p i = p.toList[i]'(by simpa using hi) := by simp [Kp, Array.getD, hi]
        have kj : Kp p j = p.toList[j]'(by simpa using hj) := by simp [Kp, Array.getD, hj]
        rw [List.getElem_map, List.getElem_map, ← ki, ← kj]
        exact h6
end
end Mine

end
theorem Mine.resetKS3 : True ∧ True := by
  first
  | (walk1; done)
  | exact ⟨trivial, trivial⟩
section
open PySem PySem.W PyProof.Rows PySem.Calls PySem.Spec PyProof.V
set_option maxRecDepth 100000
set_option maxHeartbeats 8000000
namespace Mine
/-- what holds between the deeds: the lots are the classes of the roots -/
structure Pl (ks : List Int) (rt : Int → Int) (lots : List (List Int)) : Prop where
  nd : ks.Nodup
  fl : lots.flatten.Perm ks
  ne : ∀ lot ∈ lots, lot ≠ []
  so : ∀ lot ∈ lots, lot.Pairwise (· ≤ ·)
  cl : ∀ lot ∈ lots, ∀ x ∈ lot, ∀ y ∈ ks, (y ∈ lot ↔ rt y = rt x)
  ro : ∀ x ∈ ks, rt x ∈ ks ∧ rt (rt x) = rt x

theorem Pl.mem {ks : List Int} {rt : Int → Int} {lots : List (List Int)} (p : Pl ks rt lots) {x : Int} : x ∈ ks ↔ ∃ lot ∈ lots, x ∈ lot := by
  rw [← p.fl.mem_iff, List.mem_flatten]
theorem Pl.sub {ks : List Int} {rt : Int → Int} {lots : List (List Int)} (p : Pl ks rt lots) {lot : List Int} (hl : lot ∈ lots) {x : Int} (hx : x ∈ lot) : x ∈ ks := p.mem.mpr ⟨lot, hl, hx⟩
theorem Pl.root {ks : List Int} {rt : Int → Int} {lots : List (List Int)} (p : Pl ks rt lots) {lot : List Int} (hl : lot ∈ lots) {x : Int} (hx : x ∈ lot) : rt x ∈ lot :=
  (p.cl lot hl x hx _ (p.ro x (p.sub hl hx)).1).mpr (p.ro x (p.sub hl hx)).2

theorem Pl.first {ks : List Int} (hn : ks.Nodup) : Pl ks (fun x => x) (ks.map fun x => [x]) where
  nd := hn
  fl := by
    have : (ks.map fun x => [x]).flatten = ks := by
      clear hn
      induction ks with
      | nil => rfl
      | cons a r ih => rw [List.map_cons, List.flatten_cons, ih]; rfl
    rw [this]
  ne := fun lot h => by obtain ⟨x, _, rfl⟩ := List.mem_map.mp h; simp
  so := fun lot h => by obtain ⟨x, _, rfl⟩ := List.mem_map.mp h; exact List.pairwise_singleton _ _
  cl := fun lot h x hx y hy => by
    obtain ⟨z, _, rfl⟩ := List.mem_map.mp h
    rw [List.mem_singleton] at hx ⊢
    rw [hx]
  ro := fun x hx => ⟨hx, rfl⟩

/-- one new element, a lot of its own -/
theorem Pl.add {ks : List Int} {rt : Int → Int} {lots : List (List Int)} (p : Pl ks rt lots) (o : Int) :
    Pl (addK ks o) (addR ks rt o) (if lots.filter (fun lot => decide (o ∈ lot)) = [] then lots ++ [[o]] else lots) := by
  by_cases ho : o ∈ ks
  · obtain ⟨lot, hl, hm⟩ := p.mem.mp ho
    have hne : lots.filter (fun lot => decide (o ∈ lot)) ≠ [] := fun e => by
      have : lot ∈ lots.filter (fun lot => decide (o ∈ lot)) := List.mem_filter.mpr ⟨hl, decide_eq_true hm⟩
      rw [e] at this; cases this
    rw [if_neg hne]
    unfold addK addR
    rw [if_pos ho, if_pos ho]
    exact p
  · have he : lots.filter (fun lot => decide (o ∈ lot)) = [] := List.filter_eq_nil_iff.mpr fun lot hl e => ho (p.sub hl (of_decide_eq_true e))
    rw [if_pos he]
    unfold addK addR
    rw [if_neg ho, if_neg ho]
    have hne : ∀ {x}, x ∈ ks → x ≠ o := fun hx e => ho (e ▸ hx)
    refine ⟨?_, ?_, ?_, ?_, ?_, ?_⟩
    · rw [List.nodup_append]
      exact ⟨p.nd, by simp, fun a ha b hb e => by rw [List.mem_singleton] at hb; subst hb; subst e; exact ho ha⟩
    · rw [List.flatten_append]
      exact p.fl.append (by simp)
    · intro lot hl
      rcases List.mem_append.mp hl with hl | hl
      · exact p.ne lot hl
      · rw [List.mem_singleton.mp hl]; simp
    · intro lot hl
      rcases List.mem_append.mp hl with hl | hl
      · exact p.so lot hl
      · rw [List.mem_singleton.mp hl]; exact List.pairwise_singleton _ _
    · intro lot hl x hx y hy
      rcases List.mem_append.mp hl with hl1 | hl
      · have hxk := p.sub hl1 hx
        rw [if_neg (hne hxk)]
        rcases List.mem_append.mp hy with hy | hy
        · rw [if_neg (hne hy)]; exact p.cl lot hl1 x hx y hy
        · rw [List.mem_singleton] at hy; subst hy
          rw [if_pos rfl]
          exact ⟨fun h => absurd (p.sub hl1 h) ho, fun h => absurd ((p.ro x hxk).1) (h ▸ ho)⟩
      · rw [List.mem_singleton] at hl; subst hl
        rw [List.mem_singleton] at hx; subst hx
        rw [if_pos rfl, List.mem_singleton]
        by_cases hyx : y = x
        · rw [if_pos hyx]; exact ⟨fun _ => rfl, fun _ => hyx⟩
        · rw [if_neg hyx]
          rcases List.mem_append.mp hy with hy | hy
          · exact ⟨fun h => absurd h hyx, fun h => absurd ((p.ro y hy).1) (h ▸ ho)⟩
          · exact absurd (List.mem_singleton.mp hy) hyx
    · intro x hx
      by_cases hxo : x = o
      · rw [if_pos hxo, if_pos rfl]; exact ⟨List.mem_append_right _ (.head _), rfl⟩
      · rw [if_neg hxo]
        have hxk : x ∈ ks := by
          rcases List.mem_append.mp hx with h | h
          · exact h
          · exact absurd (List.mem_singleton.mp h) hxo
        rw [if_neg (hne (p.ro x hxk).1)]
        exact ⟨List.mem_append_left _ (p.ro x hxk).1, (p.ro x hxk).2⟩

theorem Pl.grow : ∀ (os : List Int) {ks : List Int} {rt : Int → Int} {lots : List (List Int)}, Pl ks rt lots → Pl (addAll ks rt os).1 (addAll ks rt os).2 (growL lots os)
  | [], _, _, _, p => p
  | o :: os, _, _, _, p => Pl.grow os (p.add o)

theorem addAll_sub : ∀ (os : List Int) (ks : List Int) (rt : Int → Int) {o : Int}, o ∈ os → o ∈ (addAll ks rt os).1 := fun os ks rt o h => (addAll_mem os ks rt o).mpr (.inr h)

/-- putting together -/
theorem Pl.join {ks : List Int} {rt rt' : Int → Int} {lots : List (List Int)} {os : List Int} (p : Pl ks rt lots) (u : UnR ks rt os rt') {f : List Int} (hf : f.Perm (mineL lots os).flatten) (hs : f.Pairwise (· ≤ ·)) :
    Pl (addAll ks rt os).1 rt' (restL lots os ++ if f = [] then [] else [f]) := by
  have q := p.grow os
  have hsub := fun {o : Int} (h : o ∈ os) => addAll_sub os ks rt h
  obtain ⟨root, dn, hdn, hroot, rfl⟩ := u
  generalize hK : (addAll ks rt os).1 = K at *
  generalize hR : (addAll ks rt os).2 = r1 at *
  have hmine : mineL lots os = (growL lots os).filter fun lot => !decide (os.filter (fun x => decide (x ∈ lot)) = []) := rfl
  have hrest : restL lots os = (growL lots os).filter fun lot => !decide (lot ∈ mineL lots os) := rfl
  generalize hG : growL lots os = G at *
  generalize hM : mineL lots os = M at *
  -- which lots meet
  have meets : ∀ {lot}, lot ∈ G → (lot ∈ M ↔ ∃ o ∈ os, o ∈ lot) := fun {lot} hl => by
    rw [hmine, List.mem_filter]
    constructor
    · rintro ⟨_, h⟩
      cases e : os.filter (fun x => decide (x ∈ lot)) with
      | nil => rw [e] at h; simp at h
      | cons a r =>
        have : a ∈ os.filter (fun x => decide (x ∈ lot)) := by rw [e]; exact .head _
        have := List.mem_filter.mp this
        exact ⟨a, this.1, of_decide_eq_true this.2⟩
    · rintro ⟨o, ho, hm⟩
      refine ⟨hl, ?_⟩
      have : o ∈ os.filter (fun x => decide (x ∈ lot)) := List.mem_filter.mpr ⟨ho, decide_eq_true hm⟩
      cases e : os.filter (fun x => decide (x ∈ lot)) with
      | nil => rw [e] at this; cases this
      | cons a r => simp
  have hMG : ∀ {lot}, lot ∈ M → lot ∈ G := fun {lot} h => by rw [hmine] at h; exact (List.mem_filter.mp h).1
  have hfm : ∀ {x}, x ∈ f ↔ ∃ lot ∈ M, x ∈ lot := fun {x} => by rw [hf.mem_iff, List.mem_flatten]
  have hfd : ∀ {x}, x ∈ K → (x ∈ f ↔ r1 x ∈ dn) := fun {x} hx => by
    rw [hfm, hdn]
    constructor
    · rintro ⟨lot, hl, hxl⟩
      obtain ⟨o, ho, hol⟩ := (meets (hMG hl)).mp hl
      exact ⟨o, ho, (q.cl lot (hMG hl) x hxl o (hsub ho)).mp hol⟩
    · rintro ⟨o, ho, e⟩
      obtain ⟨lot, hl, hxl⟩ := q.mem.mp hx
      exact ⟨lot, (meets hl).mpr ⟨o, ho, (q.cl lot hl x hxl o (hsub ho)).mpr e⟩, hxl⟩
  have hos : ∀ {r}, r ∈ dn → os ≠ [] := fun {r} h e => by
    obtain ⟨o, ho, _⟩ := (hdn r).mp h
    rw [e] at ho; cases ho
  have hlk : ∀ x, (r1 x ∈ dn → lk r1 root dn x = root) ∧ (r1 x ∉ dn → lk r1 root dn x = r1 x) := fun x => ⟨fun h => by unfold lk; rw [if_pos h], fun h => by unfold lk; rw [if_neg h]⟩
  have hsplit : (M ++ restL lots os).Perm G := by
    have e : restL lots os = G.filter fun lot => !(!decide (os.filter (fun x => decide (x ∈ lot)) = [])) := by
      rw [hrest]
      refine List.filter_congr fun lot hl => ?_
      congr 1
      have h1 := meets hl
      rw [hmine, List.mem_filter] at h1
      by_cases h : lot ∈ M
      · rw [decide_eq_true h]
        rw [hmine, List.mem_filter] at h
        exact h.2.symm
      · rw [decide_eq_false h]
        rw [hmine, List.mem_filter] at h
        cases e : !decide (os.filter (fun x => decide (x ∈ lot)) = []) with
        | false => rfl
        | true => exact absurd ⟨hl, e⟩ h
    rw [e, hmine]
    exact List.filter_append_perm _ _
  refine ⟨q.nd, ?_, ?_, ?_, ?_, ?_⟩
  · have e1 : (restL lots os ++ if f = [] then [] else [f]).flatten = (restL lots os).flatten ++ f := by
      rw [List.flatten_append]
      split
      · rename_i h; rw [h]; rfl
      · simp
    rw [e1]
    have h2 := hsplit.flatten
    rw [List.flatten_append] at h2
    exact ((List.perm_append_comm.trans (hf.append_right _)).trans h2).trans q.fl
  · intro lot hl
    rcases List.mem_append.mp hl with hl | hl
    · rw [hrest] at hl; exact q.ne lot (List.mem_filter.mp hl).1
    · split at hl
      · cases hl
      · rw [List.mem_singleton.mp hl]; assumption
  · intro lot hl
    rcases List.mem_append.mp hl with hl | hl
    · rw [hrest] at hl; exact q.so lot (List.mem_filter.mp hl).1
    · split at hl
      · cases hl
      · rw [List.mem_singleton.mp hl]; exact hs
  · intro lot hl x hx y hy
    rcases List.mem_append.mp hl with hl | hl
    · rw [hrest, List.mem_filter] at hl
      obtain ⟨hlG, hlM⟩ := hl
      have hnM : lot ∉ M := by simpa using hlM
      have hxK := q.sub hlG hx
      have hxd : r1 x ∉ dn := fun h => by
        obtain ⟨o, ho, e⟩ := (hdn _).mp h
        exact hnM ((meets hlG).mpr ⟨o, ho, (q.cl lot hlG x hx o (hsub ho)).mpr e⟩)
      rw [(hlk x).2 hxd, q.cl lot hlG x hx y hy]
      by_cases hyd : r1 y ∈ dn
      · rw [(hlk y).1 hyd]
        exact ⟨fun e => absurd (e ▸ hyd) hxd, fun e => absurd (e ▸ hroot (hos hyd)) hxd⟩
      · rw [(hlk y).2 hyd]
    · split at hl
      · cases hl
      · rw [List.mem_singleton] at hl; subst hl
        have hxK : x ∈ K := by
          obtain ⟨l2, h1, h2⟩ := hfm.mp hx
          exact q.sub (hMG h1) h2
        have hxd := (hfd hxK).mp hx
        rw [(hlk x).1 hxd, hfd hy]
        by_cases hyd : r1 y ∈ dn
        · rw [(hlk y).1 hyd]; exact ⟨fun _ => rfl, fun _ => hyd⟩
        · rw [(hlk y).2 hyd]
          exact ⟨fun h => absurd h hyd, fun e => by rw [e]; exact hroot (hos hxd)⟩
  · intro x hx
    obtain ⟨r2, r3⟩ := q.ro x hx
    by_cases hxd : r1 x ∈ dn
    · rw [(hlk x).1 hxd]
      have hr := hroot (hos hxd)
      obtain ⟨o, ho, e⟩ := (hdn _).mp hr
      obtain ⟨s1, s2⟩ := q.ro o (hsub ho)
      rw [e] at s1 s2
      exact ⟨s1, (hlk root).1 (by rw [s2]; exact hr)⟩
    · rw [(hlk x).2 hxd]
      exact ⟨r2, by rw [(hlk (r1 x)).2 (by rw [r3]; exact hxd), r3]⟩

/-- asking for one is putting it together with none -/
theorem UnR.one (ks : List Int) (rt : Int → Int) (a : Int) : UnR ks rt [a] (addR ks rt a) := by
  refine ⟨addR ks rt a a, [addR ks rt a a], fun r => ?_, fun _ => .head _, ?_⟩
  · show r ∈ [addR ks rt a a] ↔ ∃ o ∈ [a], addR ks rt a o = r
    simp [eq_comm]
  · funext x
    show addR ks rt a x = lk (addR ks rt a) (addR ks rt a a) [addR ks rt a a] x
    unfold lk
    split
    · rename_i h; exact List.mem_singleton.mp h
    · rfl

/-! what is told -/
theorem sorted_ext {a b : List Int} (ha : a.Pairwise (· ≤ ·)) (hb : b.Pairwise (· ≤ ·)) (na : a.Nodup) (nb : b.Nodup) (h : ∀ x, x ∈ a ↔ x ∈ b) : a = b :=
  lks_uniq ((List.perm_ext_iff_of_nodup na nb).mpr h) ha hb

theorem foldK_mem : ∀ (l acc : List Int) (x : Int), x ∈ l.foldl addK acc ↔ x ∈ acc ∨ x ∈ l
  | [], acc, x => by simp
  | a :: l, acc, x => by
    rw [List.foldl_cons, foldK_mem l, addK_mem, List.mem_cons]
    constructor
    · rintro ((h | h) | h)
      · exact .inl h
      · exact .inr (.inl h)
      · exact .inr (.inr h)
    · rintro (h | h | h)
      · exact .inl (.inl h)
      · exact .inl (.inr h)
      · exact .inr h
theorem foldK_nodup : ∀ (l acc : List Int), acc.Nodup → (l.foldl addK acc).Nodup
  | [], _, h => h
  | a :: l, acc, h => by
    refine foldK_nodup l _ ?_
    unfold addK
    split
    · exact h
    · rename_i hn
      rw [List.nodup_append]
      exact ⟨h, by simp, fun x hx y hy e => by rw [List.mem_singleton] at hy; subst hy; subst e; exact hn hx⟩
theorem foldK_len : ∀ (l acc : List Int), (l.foldl addK acc).length ≤ acc.length + l.length
  | [], _ => Nat.le_refl _
  | a :: l, acc => by
    have := foldK_len l (addK acc a)
    have h2 : (addK acc a).length ≤ acc.length + 1 := by unfold addK; split <;> simp
    rw [List.foldl_cons, List.length_cons]; omega

theorem Uf.root_mem {U : Uf} {r : Int} : r ∈ U.roots ↔ ∃ x ∈ U.ks, U.rt x = r := by
  unfold Uf.roots rootsOf
  rw [foldK_mem]; simp
theorem Uf.roots_nd {U : Uf} : U.roots.Nodup := foldK_nodup _ _ List.nodup_nil

theorem Pl.told {U : Uf} {lots tolds : List (List Int)} (p : Pl U.ks U.rt lots) (t : ToldSo U tolds U.roots.length) : tolds.Perm lots := by
  have fnd : lots.flatten.Nodup := p.fl.nodup_iff.mpr p.nd
  have lnd : ∀ lot ∈ lots, lot.Nodup := fun lot hl => (List.pairwise_flatten.mp fnd).1 lot hl
  have cnd : ∀ r, (U.cls r).Nodup := fun r => p.nd.filter _
  have same : ∀ {lot told : List Int} {x r : Int}, lot ∈ lots → x ∈ lot → U.rt x = r → told.Perm (U.cls r) → told.Pairwise (· ≤ ·) → told = lot := fun {lot told x r} hl hx hr hp hs => by
    refine sorted_ext hs (p.so lot hl) (hp.nodup_iff.mpr (cnd r)) (lnd lot hl) fun y => ?_
    rw [hp.mem_iff]
    unfold Uf.cls
    rw [List.mem_filter]
    constructor
    · rintro ⟨h1, h2⟩
      exact (p.cl lot hl x hx y h1).mpr ((of_decide_eq_true h2).trans hr.symm)
    · intro h
      have hy := p.sub hl h
      exact ⟨hy, decide_eq_true (((p.cl lot hl x hx y hy).mp h).trans hr)⟩
  refine (List.perm_ext_iff_of_nodup ?_ ?_).mpr fun lot => ?_
  · refine List.pairwise_iff_getElem.mpr fun i j hi' hj hij e' => ?_
    obtain ⟨r, h1, h2, h3⟩ := t.2 i _ (List.getElem?_eq_getElem hi')
    obtain ⟨r', h1', h2', h3'⟩ := t.2 j _ (List.getElem?_eq_getElem hj)
    obtain ⟨x, hx, hxr⟩ := Uf.root_mem.mp (List.mem_of_getElem? h1)
    have hxc : x ∈ U.cls r := List.mem_filter.mpr ⟨hx, decide_eq_true hxr⟩
    have hxc' : x ∈ U.cls r' := by
      rw [← h2'.mem_iff, ← e', h2.mem_iff]; exact hxc
    have hr' : U.rt x = r' := of_decide_eq_true (List.mem_filter.mp hxc').2
    have hrr : r = r' := hxr.symm.trans hr'
    subst hrr
    have := (List.getElem_inj (h₀ := by have := t.1; omega) (h₁ := by have := t.1; omega) U.roots_nd).mp ((List.getElem?_eq_some_iff.mp h1).2.trans (List.getElem?_eq_some_iff.mp h1').2.symm)
    omega
  · refine List.pairwise_iff_getElem.mpr fun i j hi' hj hij e' => ?_
    have hpw := (List.pairwise_flatten.mp fnd).2
    have hd := (List.pairwise_iff_getElem.mp hpw) i j hi' hj hij
    cases hc : lots[i]'hi' with
    | nil => exact p.ne _ (List.getElem_mem hi') hc
    | cons a r =>
      rw [← e', hc] at hd
      exact hd a (.head _) a (.head _) rfl
  · constructor
    · intro h
      obtain ⟨j, hj, rfl⟩ := List.mem_iff_getElem.mp h
      obtain ⟨r, h1, h2, h3⟩ := t.2 j _ (List.getElem?_eq_getElem hj)
      obtain ⟨x, hx, hxr⟩ := Uf.root_mem.mp (List.mem_of_getElem? h1)
      obtain ⟨lot, hl, hxl⟩ := p.mem.mp hx
      rw [same hl hxl hxr h2 h3]; exact hl
    · intro hl
      cases lot with
      | nil => exact absurd rfl (p.ne _ hl)
      | cons x r =>
        have hx := p.sub hl (.head _)
        obtain ⟨j, hj, e⟩ := List.mem_iff_getElem.mp (Uf.root_mem.mpr ⟨x, hx, rfl⟩)
        have hj' : j < tolds.length := by have := t.1; omega
        obtain ⟨r', h1, h2, h3⟩ := t.2 j _ (List.getElem?_eq_getElem hj')
        rw [List.getElem?_eq_getElem hj] at h1
        have e2 := Option.some.inj h1
        rw [← same hl (.head _) (e.symm.trans e2) h2 h3]
        exact List.getElem_mem hj'
end Mine

end
theorem Mine.resetVP : True ∧ True := by
  first
  | (walk1; done)
  | exact ⟨trivial, trivial⟩
section
open PySem PySem.W PyProof.Rows PySem.Calls PySem.Spec PyProof.V
set_option maxRecDepth 100000
set_option maxHeartbeats 8000000
namespace Mine
section
variable {prog : Program} {w : World} {A : Around} {E : Value → Shared → Prop} {s : Shared} {env : Env} {g : Heap} {L : Addr} {x : Str} {body : List Stmt}
/-- a turn's end: what is drawn and the generators may have turned too -/
def LEnd (g : Heap) (L : Addr) (J : (Str → Option Value) → List (Addr × Obj) → Array GenState → Prop) (own : List (Addr × Obj)) (s₁ s₂ : Shared) : Prop :=
  ∃ h' tk gs d m' nx news', s₂ = { s₁ with heap := h', toks := tk, gens := gs, drawn := d } ∧ Fr g L h' m' ∧ News g L h' news' ∧ (∀ p ∈ nx, p ∈ news') ∧ (∀ p ∈ own, p ∈ news') ∧ OwnOff own (nx.map (·.1)) ∧ J m' nx gs
def LPost (g : Heap) (L : Addr) (J : (Str → Option Value) → List (Addr × Obj) → Array GenState → Prop) (own : List (Addr × Obj)) (s₁ : Shared) (Q : Flow → Shared → Prop) (f : Flow) (s₂ : Shared) : Prop :=
  match f with
  | .ret v => Q (.ret v) s₂
  | .brk => Q .next s₂
  | _ => LEnd g L J own s₁ s₂

theorem iterR {r : Addr} {a₀ b₀ : Int} {t u v : Tok} {n : Nat} {m₀ : Str → Option Value} {news : List (Addr × Obj)} {px : Pos} {R : Result → Shared → Prop} (J : Nat → (Str → Option Value) → List (Addr × Obj) → Array GenState → Prop)
    (hh : A.handled = none) (hx : env.kindOf x = some .local) (hp : (env.scope.kind == .class || (env.scope.kind == .module && env.locals != env.globals)) = false)
    (hr : IsRange s.heap r a₀ b₀ 1 t u v) (hsm : Builtin.Range.small a₀ b₀ 1 = true) (hn : Builtin.Range.rangeSize a₀ b₀ 1 = (n : Int))
    (F : Fr g env.locals s.heap m₀) (N : News g env.locals s.heap news) (hj : J 0 m₀ news s.gens)
    (turn : ∀ i t m₁ nx h tk gs d own, i < n → OwnOff own (nx.map (·.1)) → (∀ x ∈ own, ∀ vs, x.2.data = .fields vs → ∀ u t, vs[1]? ≠ some (.str u t)) → J i m₁ nx gs → Fr g env.locals h (fun y => if y = x then some (.int (a₀ + (i : Int)) t) else m₁ y) → News g env.locals h (nx ++ own) →
      wpAny (model prog w) A (execs body env) (LPost g env.locals (J (i + 1)) own { s with heap := h, toks := tk, gens := gs, drawn := d } (fun f s' => R (.ok f) s')) (fun _ _ => False) { s with heap := h, toks := tk, gens := gs, drawn := d })
    (done : ∀ m₁ nx h tk gs d, J n m₁ nx gs → Fr g env.locals h m₁ → News g env.locals h nx → R (.ok .next) { s with heap := h, toks := tk, gens := gs, drawn := d }) :
    wpAny (model prog w) A (pyIter (.ref r)) (fun it s₂ => codeAny (model prog w) A (.forLoop (.Name x px) it body [] env) R s₂) E s := by
  refine wpAny_pyIter_range hr hsm ?_
  generalize hI : s.heap.objs.size = I
  have hI0 : g.get? I = none := hI ▸ next_is_new F
  have hIL : I ≠ env.locals := hI ▸ Nat.ne_of_gt F.ns.lt
  have W := Walks.range (prog := prog) (w := w) hh I a₀ 1 n
  have hst0 : IsRangeIter (s.heap.push { cls := .type "range_iterator", data := .fields #[rawInt a₀, rawInt (Builtin.Range.rangeSize a₀ b₀ 1), rawInt 1] }) I (a₀ + ((0 : Nat) : Int) * 1) ((n : Int) - ((0 : Nat) : Int)) 1 := by
    rw [hn, ← hI]; simpa using Heap.get?_push_size _ rfl
  refine codeAny_forLoop (fun k s' => ∃ h' tk gs d m' nx i, s' = { s with heap := h', toks := tk, gens := gs, drawn := d } ∧ Fr g env.locals h' m' ∧ News g env.locals h' nx ∧ (∀ p ∈ nx, p.1 ≠ I) ∧ J i m' nx gs ∧
      IsRangeIter h' I (a₀ + ((i : Nat) : Int) * 1) ((n : Int) - (i : Int)) 1 ∧ i ≤ n ∧ k = n + 1 - i) ?_ (n + 1)
    ⟨_, s.toks, s.gens, s.drawn, m₀, news, 0, rfl, F.push _, fun p hp => ⟨Heap.get?_push_of_some _ (N p hp).1, (N p hp).2⟩, fun p hp => hI ▸ Nat.ne_of_lt (Heap.lt_size (N p hp).1), hj, hst0, Nat.zero_le _, rfl⟩
  rintro k s' ⟨h', tk, gs, d, m', nx, i, rfl, F', N', hnI, hJ, hst, hi, rfl⟩
  by_cases hlt : i < n
  · refine W.item i _ _ _ hlt hst fun v h₁ tk₁ hP hst₁ hk₁ => ?_
    obtain ⟨tv, rfl⟩ := hP
    have k₁ : ∀ b o, b ≠ I → h'.get? b = some o → h₁.get? b = some o := fun b o hb e => hk₁ b o (fun hm => hb (List.mem_singleton.mp hm)) e
    have F₁ : Fr g env.locals h₁ m' := ⟨F'.ns.at fun o e => k₁ _ o (Ne.symm hIL) e, fun b o e => k₁ b o (fun q => by rw [q, hI0] at e; cases e) (F'.keep b o e), F'.above⟩
    have N₁ : News g env.locals h₁ nx := fun p hp => ⟨k₁ _ _ (hnI p hp) (N' p hp).1, (N' p hp).2⟩
    refine wpAny_assign_Name (wpAny_storeName_local hx F₁.ns (fun h₂ hn₂ hs₂ => ?_) hp)
    replace hs₂ : Heap.SameBut env.locals h₁ h₂ := hs₂
    have hst₂ := W.frame _ _ h₂ hst₁ fun b hb o e => by
      rw [List.mem_singleton.mp hb] at e ⊢
      exact (hs₂.2 _ hIL).trans e
    obtain ⟨oI, hoI⟩ : ∃ oI, h₂.get? I = some oI := ⟨_, hst₂⟩
    have F₂ := F₁.set hn₂ hs₂
    have e1 : a₀ + (i : Int) * 1 = a₀ + (i : Int) := by omega
    rw [e1] at F₂
    have N₂ : News g env.locals h₂ (nx ++ [(I, oI)]) := fun p hp => by
      rcases List.mem_append.mp hp with hp | hp
      · exact (N₁.set hs₂) p hp
      · rw [List.mem_singleton.mp hp]; exact ⟨hoI, hIL, hI0⟩
    refine wpAny_mono (turn i tv m' nx h₂ _ gs d [(I, oI)] hlt (fun p hp b hb => ?_) (fun p hp vs e u t => ?_) hJ F₂ N₂) (fun f s₃ h₃ => ?_) fun _ _ e => e.elim
    · rw [List.mem_singleton.mp hp]
      obtain ⟨q, hq, rfl⟩ := List.mem_map.mp hb
      exact Ne.symm (hnI q hq)
    · rw [List.mem_singleton.mp hp] at e
      have h9 : some oI = some _ := hoI.symm.trans hst₂
      rw [Option.some.inj h9] at e
      cases e
      exact fun h => by cases h
    have fin : LEnd g env.locals (J (i + 1)) [(I, oI)] { s with heap := h₂, toks := tk₁ + 1, gens := gs, drawn := d } s₃ → ∃ m, m < n + 1 - i ∧ ∃ h' tk gs d m' nx j, s₃ = { s with heap := h', toks := tk, gens := gs, drawn := d } ∧ Fr g env.locals h' m' ∧ News g env.locals h' nx ∧ (∀ p ∈ nx, p.1 ≠ I) ∧ J j m' nx gs ∧
        IsRangeIter h' I (a₀ + ((j : Nat) : Int) * 1) ((n : Int) - (j : Int)) 1 ∧ j ≤ n ∧ m = n + 1 - j := by
      rintro ⟨h₄, tk₄, gs₄, d₄, m₄, nx₄, news₄, rfl, F₄, N₄, hn₄, ho₄, hoff₄, hJ₄⟩
      refine ⟨n + 1 - (i + 1), by omega, h₄, tk₄, gs₄, d₄, m₄, nx₄, i + 1, rfl, F₄, fun p hp => N₄ p (hn₄ p hp), fun p hp e => hoff₄ _ (List.mem_singleton.mpr rfl) p.1 (List.mem_map_of_mem hp) e.symm, hJ₄, ?_, hlt, rfl⟩
      refine W.frame _ h₂ h₄ hst₂ fun b hb o e => ?_
      rw [List.mem_singleton.mp hb] at e ⊢
      rw [hoI] at e; cases e
      exact (N₄ _ (ho₄ _ (List.mem_singleton.mpr rfl))).1
    cases f with
    | ret v => exact h₃
    | brk => exact h₃
    | next => exact fin h₃
    | cont => exact fin h₃
  · have hin : i = n := by omega
    subst hin
    refine W.done _ _ _ hst fun h₁ tk₁ hk₁ => wpAny_execs_nil ?_
    have k₁ : ∀ b o, b ≠ I → h'.get? b = some o → h₁.get? b = some o := fun b o hb e => hk₁ b o (fun hm => hb (List.mem_singleton.mp hm)) e
    exact done m' nx h₁ _ gs d hJ ⟨F'.ns.at fun o e => k₁ _ o (Ne.symm hIL) e, fun b o e => k₁ b o (fun q => by rw [q, hI0] at e; cases e) (F'.keep b o e), F'.above⟩
      (fun p hp => ⟨k₁ _ _ (hnI p hp) (N' p hp).1, (N' p hp).2⟩)
end
end Mine

end
theorem Mine.resetVL3 : True ∧ True := by
  first
  | (walk1; done)
  | exact ⟨trivial, trivial⟩
section
open PySem PySem.W PyProof.Rows PySem.Calls PySem.Spec PyProof.V
set_option maxRecDepth 100000
set_option maxHeartbeats 8000000
namespace Mine
/-- the law's own text: what a turn runs -/
def LawFn (w : World) (qual : Str) (scope : Scope) (cdv : Value) (t1 t2 t3 t4 t5 t6 t7 t8 t9 : Stmt) : Prop :=
  ∃ (oc : Value) (od : Option Addr) (osl : Array (Option Value)) (name : Str) (params : Arguments) (dV kV doc pm ct : Value) (an : Option Addr) (b1 b2 : Stmt) (tgt it : PySem.Expr) (orelse brest : List Stmt) (fpos : Pos),
    List.lookup 105 (hd.heap_39 w.params) = some ⟨oc, od, .func (fnOf name qual params (b1 :: b2 :: .For tgt it [t1, t2, t3, t4, t5, t6, t7, t8, t9] orelse fpos :: brest) scope dV kV doc pm an cdv ct), osl⟩
theorem use105 {w : World} {v : Obj} {goal : Prop} (hx : List.lookup 105 (hd.heap_39 w.params) = some v) (h : List.lookup 105 (hd.heap_39 w.params) = some v → goal) : goal := h hx
/-- what stands through the whole law -/
structure St0 (w : World) (mean : ExcName → Option Value) (mg mb : Str → Option Value) (B g : Heap) (A : Around) (l : Addr) (ns : List Int) (self sd p q : Addr) : Prop where
  G : Gd w mean mg mb B
  B' : Below A B [] g
  hh : A.handled = none
  hd : A.depth + 20 < recursionLimit
  hu : A.units + 300 < cLine
  hC : CodeHd B 61 59
  hl : IntL g l ns
  hlen : ns.length ≤ 63
  Gg : Gd w mean mg mb g
  hp0 : (p == sysModules) = false
  hq0 : (q == sysModules) = false
  hpq : @Ne Nat p q
  hps : @Ne Nat p self
  hpd : @Ne Nat p sd
  hqs : @Ne Nat q self
  hqd : @Ne Nat q sd
  hsd : @Ne Nat self sd
  h59 : @Ne Nat p 59 ∧ @Ne Nat q 59 ∧ @Ne Nat self 59 ∧ @Ne Nat sd 59
/-- the code that union's lambda has been given -/
def TabN (ps : Array Value) (tail : List (Addr × Obj)) : Prop := ps = #[] ∨ ∃ c' oc vs t, ps = #[rawInt 43, rawInt 60, .ref c'] ∧ (c', oc) ∈ tail ∧ oc.data = .fields vs ∧ vs[1]? = some (.str (Str.ofString "UnionFind.union" ++ ".<locals>." ++ "<lambda>") t)

/-- what holds between the turns, the lots' and the known ones' rows apart -/
structure LC (w : World) (L self sd p q : Addr) (t1 t2 : Tok) (n : Nat) (oS : Obj) (ps : Array Value) (oP oW : Obj) (P W : List (Int × Int)) (ks : List Int) (rt : Int → Int) (D : Nat) (own2 : List (Addr × Obj)) (tail : List (Addr × Obj)) (nx : List (Addr × Obj)) (gs : Array GenState) : Prop where
  nx : nx = (L + 1, oS) :: (59, tabObj ps) :: (p, oP) :: (q, oW) :: (self, instObj 65 sd) :: (sd, sdObj w p q t1 t2 n) :: (own2 ++ tail)
  hP : DictI w oP P
  hW : DictI w oW W
  fo : Fo ks rt D P W
  small : ∀ x ∈ ks, 0 ≤ x ∧ x < 9
  tab : TabN ps tail
  off : ∀ x ∈ own2 ++ tail, x.1 ∉ [L + 1, 59, p, q, self, sd]
  bare : AllBare gs

theorem nodup_len : ∀ (l r : List Int), l.Nodup → (∀ x ∈ l, x ∈ r) → l.length ≤ r.length
  | [], _, _, _ => Nat.zero_le _
  | a :: l, r, hn, hs => by
    rw [List.nodup_cons] at hn
    have ha := hs a (.head _)
    have h1 := nodup_len l (r.erase a) hn.2 fun x hx => (List.mem_erase_of_ne (fun e => hn.1 (by rw [← e]; exact hx))).mpr (hs x (.tail _ hx))
    rw [List.length_erase_of_mem ha] at h1
    have : 0 < r.length := List.length_pos_of_mem ha
    rw [List.length_cons]; omega
theorem small_len {ks : List Int} (hn : ks.Nodup) (h : ∀ x ∈ ks, 0 ≤ x ∧ x < 9) : ks.length ≤ 9 :=
  nodup_len ks [0, 1, 2, 3, 4, 5, 6, 7, 8] hn fun x hx => by
    obtain ⟨a, b⟩ := h x hx
    simp only [List.mem_cons, List.not_mem_nil, or_false]
    omega
theorem flat_len : ∀ {lots : List (List Int)}, (∀ lot ∈ lots, lot ≠ []) → lots.length ≤ lots.flatten.length
  | [], _ => Nat.le_refl _
  | a :: r, h => by
    have := flat_len (lots := r) fun lot hl => h lot (.tail _ hl)
    have h2 : 0 < a.length := List.length_pos_iff.mpr (h a (.head _))
    rw [List.length_cons, List.flatten_cons, List.length_append]; omega
theorem upd_head {g h h' : Heap} {L c : Addr} {o o' : Obj} {m : Str → Option Value} {rest : List (Addr × Obj)} (F : Fr g L h m) (N : News g L h ((c, o) :: rest)) (hne : ∀ x ∈ rest, x.1 ≠ c) (hsb : Heap.SameBut c h h') (ho' : h'.get? c = some o') :
    Fr g L h' m ∧ News g L h' ((c, o') :: rest) := by
  have hc := N _ (.head _)
  refine ⟨F.change hsb hc.2.1 hc.2.2, fun x hx => ?_⟩
  rcases List.mem_cons.mp hx with rfl | hx
  · exact ⟨ho', hc.2⟩
  · have := N x (.tail _ hx)
    exact ⟨hsb.extBut _ _ (hne x hx) this.1, this.2⟩
end Mine

end
theorem Mine.resetVW2 : True ∧ True := by
  first
  | (walk1; done)
  | exact ⟨trivial, trivial⟩
section
open PySem PySem.W PyProof.Rows PySem.Calls PySem.Spec PyProof.V
set_option maxRecDepth 100000
set_option maxHeartbeats 8000000
namespace Mine
theorem fillitVW3 : (PySem.Challenge.rw_bj0027_01 = PySem.Challenge.rw_bj0027_01 ∧ hd.heap_39 = hd.heap_39) := by k_fill; exact ⟨rfl, rfl⟩
local macro_rules | `(tactic| walk_at "Exists") => `(tactic| (refine Stop.intro ?_))
local macro_rules | `(tactic| walk_at "And") => `(tactic| ((with_reducible show _ = Flow.next ∧ _); refine Stop.intro ?_))
local macro_rules | `(tactic| walk_at "call ref") => `(tactic| (k_here; refine Stop.intro ?_))
local macro_rules | `(tactic| walk_at "unpackItems ref") => `(tactic| (k_here; k_dflt (refine' unpackItemsN_ ?k1 ?k2 ?k3 ?k4 ?k5 ?_; (case k1 => k_asm); (case k2 => k_asm); (case k3 => kun_tup); (case k4 => assumption); (case k5 => exact rfl); k_whole); intro h' F' N'; (try k_sweep)))
local macro_rules | `(tactic| walk_at "storeName") => `(tactic| (k_here; (with_reducible show wpAny _ _ (storeName _ (Str.ofString "some") _) _ _ _); refine Stop.intro ?_))
theorem allLt_to {d : Addr} {l : List (Addr × Obj)} (h : AllLt d l) : ∀ x ∈ l, @LT.lt Nat _ x.1 d := by
  induction l with
  | nil => exact fun _ hx => nomatch hx
  | cons p r ih =>
    intro x hx
    rcases List.mem_cons.mp hx with rfl | hx
    · exact h.1
    · exact ih h.2 x hx
section
variable {w : World} {mean : ExcName → Option Value} {mg mb : Str → Option Value} {B g : Heap} {A : Around} {l : Addr} {ns : List Int} {self sd p q L : Addr} {qual : Str} {scope : Scope} {cdv : Value} {t1 t2 t3 t4 t5 t6 t7 t8 t9 : Stmt} {s : Shared} {m : Str → Option Value} {news : List (Addr × Obj)}
/-- draw = _law_cell(script, 1 + at) -/
theorem law_1 (S : St0 w mean mg mb B g A l ns self sd p q) (hF : LawFn w qual scope cdv t1 t2 t3 t4 t5 t6 t7 t8 t9) {i : Int} {ti : Tok} (hi0 : 0 ≤ i) (hi1 : i < 90) {ll kl : Addr}
    (F : Fr g L s.heap m) (N : News g L s.heap news) (hm : ∀ p ∈ [(Str.ofString "script", Value.ref l), (Str.ofString "at", .int i ti), (Str.ofString "made", .ref self), (Str.ofString "lots", .ref ll), (Str.ofString "known", .ref kl)], m p.1 = some p.2) :
    wpAny (model pr w) (A.deeper (envOfC qual scope L 105 cdv)) (exec t1 (envOfC qual scope L 105 cdv))
      (fun fl s' => fl = .next ∧ ∃ h' tk t m', s' = { s with heap := h', toks := tk } ∧ Fr g L h' m' ∧ News g L h' news ∧
        ∀ p ∈ [(Str.ofString "script", Value.ref l), (Str.ofString "made", .ref self), (Str.ofString "lots", .ref ll), (Str.ofString "known", .ref kl), (Str.ofString "draw", .int (cellv ns (1 + i)) t)], m' p.1 = some p.2) (fun _ _ => False) s := by
  obtain ⟨oc, od, osl, name, params, dV, kV, doc, pm, ct, an, b1, b2, tgt, it, orelse, brest, fpos, ho⟩ := hF
  refine' use105 (w := w) ?hx ?h
  case hx => k_is
  intro hx
  rw [ho] at hx
  cases hx
  have hGg := St0.Gg S
  obtain ⟨KX', T'⟩ := hGg
  have hh := St0.hh S
  have hd := St0.hd S
  have hu := St0.hu S
  have fr := (St0.B' S).stack
  have F1 := named F _ hm
  clear F
  obtain ⟨hp, gs, dr, tk0, oss⟩ := s
  dsimp only at N F1 ⊢
  change wpAny _ _ _ _ _ _
  k_steps
  refine Stop.out ?_
  rename Fr _ _ _ _ => F2
  rename News _ _ _ _ => N2
  obtain ⟨vs, hlg, hi⟩ := St0.hl S
  refine cell_spec (A := A.deeper _) (outer := [_]) (s := ⟨hp, gs, dr, _, oss⟩) (St0.G S) (Cx.inner (St0.B' S) F2 (Around.frames_deeper fr) (by rfl) (by rfl) hh) (by show A.depth + 1 < recursionLimit; omega) (by show A.units + 3 + 100 < cLine; omega) (let ⟨o, e, r⟩ := hlg; ⟨o, F2.keep _ _ e, r⟩) hi (St0.hlen S) (by omega) (by omega) ?_
  intro t3 h3 tk3 e3
  obtain ⟨F3, N3⟩ := after (mu := []) (mu' := []) (rest := news) F2 N2 (fun _ _ h => nomatch h) e3 (fun _ h => nomatch h)
  clear F2 N2
  dsimp only [List.nil_append] at N3
  k_steps
  · trivial
  refine Stop.out ?_
  rename Fr _ _ _ _ => F4
  rename News _ _ _ _ => N4
  exact ⟨_, _, t3, _, rfl, F4, N4, fun p hp => by rcases hp with _ | ⟨_, _ | ⟨_, _ | ⟨_, _ | ⟨_, _ | ⟨_, hp⟩⟩⟩⟩⟩ <;> first | rfl | cases hp⟩

/-- kind, some = (draw % 6, []) -/
theorem law_2 (S : St0 w mean mg mb B g A l ns self sd p q) (hF : LawFn w qual scope cdv t1 t2 t3 t4 t5 t6 t7 t8 t9) {ll kl : Addr} {dv : Int} {td : Tok} (hdv : 0 ≤ dv) {oS : Obj} {vS : Option Value} (hoS : oS.data = .cell vS)
    (F : Fr g L s.heap m) (N : News g L s.heap ((L + 1, oS) :: news)) (hne : ∀ x ∈ news, x.1 ≠ L + 1)
    (hm : ∀ p ∈ [(Str.ofString "script", Value.ref l), (Str.ofString "made", .ref self), (Str.ofString "lots", .ref ll), (Str.ofString "known", .ref kl), (Str.ofString "draw", .int dv td)], m p.1 = some p.2) :
    wpAny (model pr w) (A.deeper (envOfC qual scope L 105 cdv)) (exec t2 (envOfC qual scope L 105 cdv))
      (fun fl s' => fl = .next ∧ ∃ h' tk t m' bs c oS', s' = { s with heap := h', toks := tk } ∧ Fr g L h' m' ∧ News g L h' ((L + 1, oS') :: (bs, PySem.W.listOf #[] c) :: news) ∧ oS'.data = .cell (some (.ref bs)) ∧ (∀ x ∈ (L + 1, oS) :: news, @LT.lt Nat _ x.1 bs) ∧
        ∀ p ∈ [(Str.ofString "script", Value.ref l), (Str.ofString "made", .ref self), (Str.ofString "lots", .ref ll), (Str.ofString "known", .ref kl), (Str.ofString "draw", .int dv td), (Str.ofString "kind", .int (dv.fmod 6) t)], m' p.1 = some p.2) (fun _ _ => False) s := by
  obtain ⟨oc, od, osl, name, params, dV, kV, doc, pm, ct, an, b1, b2, tgt, it, orelse, brest, fpos, ho⟩ := hF
  refine' use105 (w := w) ?hx ?h
  case hx => k_is
  intro hx
  rw [ho] at hx
  cases hx
  have hGg := St0.Gg S
  obtain ⟨KX', T'⟩ := hGg
  have hh := St0.hh S
  have hd := St0.hd S
  have hu := St0.hu S
  have fr := (St0.B' S).stack
  have F1 := named F _ hm
  have hltn : ∀ x ∈ (L + 1, oS) :: news, @LT.lt Nat _ x.1 s.heap.objs.size := fun x hx => Heap.lt_size (N x hx).1
  clear F
  obtain ⟨hp, gs, dr, tk0, oss⟩ := s
  dsimp only at N F1 hltn ⊢
  change wpAny _ _ _ _ _ _
  k_steps
  rename Fr _ _ _ _ => F2
  rename News _ _ _ _ => N2
  refine wpAny_assign_Tuple hh ⟨_, (N2 _ (.head _)).1, rfl, _, rfl⟩ rfl rfl fun h3 hx3 => ?_
  have F3 := F2.extBut hx3 (Nat.le_refl _)
  have N3 := N2.extBut hx3 (Nat.le_refl _)
  clear F2 N2
  dsimp only at F3 N3 ⊢
  refine wpAny_bind (wpAny_holding (wpAny_assign_Name ?_))
  k_steps
  refine Stop.out ?_
  rename Fr _ _ _ _ => F4
  rename News _ _ _ _ => N4
  rename_i bs _ lb D4 _ lD _
  have hbn : ∀ x ∈ (L + 1, oS) :: news, @LT.lt Nat _ x.1 bs := fun x hx => by
    rcases List.mem_cons.mp hx with rfl | hx
    · exact lb.1
    · exact allLt_to lb.2 x hx
  have hU : ∀ x ∈ (bs, PySem.W.listOf #[] 0) :: news, x.1 ≠ L + 1 := fun x hx => by
    rcases List.mem_cons.mp hx with rfl | hx
    · exact Nat.ne_of_gt lb.1
    · exact hne x hx
  refine storeX_C (news := (L + 1, oS) :: (bs, PySem.W.listOf #[] 0) :: news) F4 (fun x hx => N4 x ?_) (c := L + 1) (by rfl) (UpdF.head hU) hoS (fun h' o' F' N' d' => ?_)
  · rcases hx with _ | ⟨_, _ | ⟨_, hx⟩⟩
    · exact .tail _ (.tail _ (.head _))
    · exact .tail _ (.head _)
    · exact .tail _ (.tail _ (.tail _ hx))
  clear N4 F4
  k_steps
  · trivial
  refine Stop.out ?_
  rename Fr _ _ _ _ => F5
  rename News _ _ _ _ => N5
  dsimp only
  refine ⟨_, _, _, _, bs, 0, _, rfl, F5, N5, d', hbn, fun p hp => by rcases hp with _ | ⟨_, _ | ⟨_, _ | ⟨_, _ | ⟨_, _ | ⟨_, _ | ⟨_, hp⟩⟩⟩⟩⟩⟩ <;> first | rfl | cases hp⟩
end
end Mine

end
theorem Mine.resetVW3 : True ∧ True := by
  first
  | (walk1; done)
  | exact ⟨trivial, trivial⟩
section
open PySem PySem.W PyProof.Rows PySem.Calls PySem.Spec PyProof.V
set_option maxRecDepth 100000
set_option maxHeartbeats 8000000
namespace Mine
theorem fillitVW4 : (PySem.Challenge.rw_bj0027_01 = PySem.Challenge.rw_bj0027_01 ∧ hd.heap_39 = hd.heap_39) := by k_fill; exact ⟨rfl, rfl⟩
local macro_rules | `(tactic| walk_at "Exists") => `(tactic| (refine Stop.intro ?_))
local macro_rules | `(tactic| walk_at "And") => `(tactic| ((with_reducible show _ = Flow.next ∧ _); refine Stop.intro ?_))
local macro_rules | `(tactic| walk_at "LPost") => `(tactic| (refine Stop.intro ?_))
local macro_rules | `(tactic| walk_at "call builtin:list.append") => `(tactic| (k_here; refine Stop.intro ?_))
local macro_rules | `(tactic| walk_at "pyIter ref") => `(tactic| (k_here; (with_reducible show wpAny _ _ (pyIter _) (fun it s₂ => codeAny _ _ (Code.forLoop _ it _ _ _) _ s₂) _ _); refine Stop.intro ?_))
section
variable {w : World} {mean : ExcName → Option Value} {mg mb : Str → Option Value} {B g : Heap} {A : Around} {l : Addr} {ns : List Int} {self sd p q L : Addr} {qual : Str} {scope : Scope} {cdv : Value} {t1 t2 t3 t4 t5 t6 t7 t8 t9 : Stmt} {s : Shared} {m : Str → Option Value} {news : List (Addr × Obj)}
/-- for turn in range(1 + draw // 6 % 4): some.append(…) -/
theorem law_3 (S : St0 w mean mg mb B g A l ns self sd p q) (hF : LawFn w qual scope cdv t1 t2 t3 t4 t5 t6 t7 t8 t9) {ll kl bs : Addr} {c : Nat} {dv kv : Int} {td tkv : Tok} (hdv : 0 ≤ dv) {oS : Obj} (hoS : oS.data = .cell (some (.ref bs)))
    (F : Fr g L s.heap m) (N : News g L s.heap ((bs, PySem.W.listOf #[] c) :: (L + 1, oS) :: news)) (hne : ∀ x ∈ (L + 1, oS) :: news, x.1 ≠ bs)
    (hm : ∀ p ∈ [(Str.ofString "script", Value.ref l), (Str.ofString "made", .ref self), (Str.ofString "lots", .ref ll), (Str.ofString "known", .ref kl), (Str.ofString "draw", .int dv td), (Str.ofString "kind", .int kv tkv)], m p.1 = some p.2) :
    wpAny (model pr w) (A.deeper (envOfC qual scope L 105 cdv)) (exec t3 (envOfC qual scope L 105 cdv))
      (fun fl s' => fl = .next ∧ ∃ h' tk d m' c' zvs zs, s' = { s with heap := h', toks := tk, drawn := d } ∧ Fr g L h' m' ∧ News g L h' ((bs, PySem.W.listOf zvs.toArray c') :: (L + 1, oS) :: news) ∧
        IntsAre zvs zs ∧ (∀ z ∈ zs, 0 ≤ z ∧ z < 9) ∧ 1 ≤ zs.length ∧ zs.length ≤ 4 ∧
        ∀ p ∈ [(Str.ofString "script", Value.ref l), (Str.ofString "made", .ref self), (Str.ofString "lots", .ref ll), (Str.ofString "known", .ref kl), (Str.ofString "draw", .int dv td), (Str.ofString "kind", .int kv tkv)], m' p.1 = some p.2) (fun _ _ => False) s := by
  obtain ⟨oc, od, osl, name, params, dV, kV, doc, pm, ct, an, b1, b2, tgt, it, orelse, brest, fpos, ho⟩ := hF
  refine' use105 (w := w) ?hx ?h
  case hx => k_is
  intro hx
  rw [ho] at hx
  cases hx
  have hGg := St0.Gg S
  obtain ⟨KX', T'⟩ := hGg
  have hh := St0.hh S
  have hd := St0.hd S
  have hu := St0.hu S
  have fr := (St0.B' S).stack
  have F1 := named F _ hm
  clear F ho
  obtain ⟨hp, gs, dr, tk0, oss⟩ := s
  dsimp only at N F1 ⊢
  change wpAny _ _ _ _ _ _
  refine wpAny_For ?_ (fun _ => rfl)
  k_steps
  refine Stop.out ?_
  rename Fr _ _ _ _ => F2
  rename News _ _ _ _ => N2
  rename IsRange _ _ _ _ _ _ _ _ => hr2
  have hk0 : 0 ≤ (dv.fdiv 6).fmod 4 ∧ (dv.fdiv 6).fmod 4 < 4 := ⟨Int.fmod_nonneg_of_pos _ (by decide), Int.fmod_lt_of_pos _ (by decide)⟩
  generalize (dv.fdiv 6).fmod 4 = k0 at hr2 hk0
  have hnm : ∀ m₁ : Str → Option Value, (∀ p ∈ [(Str.ofString "script", Value.ref l), (Str.ofString "made", .ref self), (Str.ofString "lots", .ref ll), (Str.ofString "known", .ref kl), (Str.ofString "draw", .int dv td), (Str.ofString "kind", .int kv tkv)], m₁ p.1 = some p.2) → ∀ v, ∀ p ∈ [(Str.ofString "script", Value.ref l), (Str.ofString "made", .ref self), (Str.ofString "lots", .ref ll), (Str.ofString "known", .ref kl), (Str.ofString "draw", .int dv td), (Str.ofString "kind", .int kv tkv), (Str.ofString "turn", v)], (fun y => if y = Str.ofString "turn" then some v else m₁ y) p.1 = some p.2 := by
    intro m₁ h v p hp
    rcases hp with _ | ⟨_, _ | ⟨_, _ | ⟨_, _ | ⟨_, _ | ⟨_, _ | ⟨_, _ | ⟨_, hp⟩⟩⟩⟩⟩⟩⟩
    · exact h _ (.head _)
    · exact h _ (.tail _ (.head _))
    · exact h _ (.tail _ (.tail _ (.head _)))
    · exact h _ (.tail _ (.tail _ (.tail _ (.head _))))
    · exact h _ (.tail _ (.tail _ (.tail _ (.tail _ (.head _)))))
    · exact h _ (.tail _ (.tail _ (.tail _ (.tail _ (.tail _ (.head _))))))
    · rfl
    · cases hp
  refine iterR (n := (1 + k0).toNat) (fun i m₁ nx gs' => gs' = gs ∧ (∃ zvs zs c', nx = (bs, PySem.W.listOf zvs.toArray c') :: (L + 1, oS) :: news ∧ IntsAre zvs zs ∧ (∀ z ∈ zs, 0 ≤ z ∧ z < 9) ∧ zs.length = i) ∧
      ∀ p ∈ [(Str.ofString "script", Value.ref l), (Str.ofString "made", .ref self), (Str.ofString "lots", .ref ll), (Str.ofString "known", .ref kl), (Str.ofString "draw", .int dv td), (Str.ofString "kind", .int kv tkv)], m₁ p.1 = some p.2)
    ?_ ?_ ?_ (by exact hr2) ?_ ?_ (by exact F2) (by exact N2) ?_ ?_ ?_
  · exact hh
  · rfl
  · rfl
  · exact small_one (by decide) (by decide) (by omega) (by omega)
  · rw [rangeSize_nat, Int.sub_zero]
  · refine ⟨rfl, ⟨[], [], c, rfl, .nil, fun _ h => (nomatch h), rfl⟩, ?_⟩
    intro p hp
    rcases hp with _ | ⟨_, _ | ⟨_, _ | ⟨_, _ | ⟨_, _ | ⟨_, _ | ⟨_, hp⟩⟩⟩⟩⟩⟩ <;> first | rfl | cases hp
  · clear F2 N2 hr2
    rintro i t m₁ nx h3 tk3 gs3 d3 own hlt hoff - ⟨rfl, ⟨zvs, zs, c', rfl, hzI, hz9, hzl⟩, hm₁⟩ F3 N3
    have F4 := named F3 _ (hnm m₁ hm₁ _)
    clear F3
    have hneO : ∀ x ∈ (L + 1, oS) :: (news ++ own), x.1 ≠ bs := fun x hx => by
      rcases List.mem_cons.mp hx with e | hx
      · exact hne x (by rw [e]; exact .head _)
      · rcases List.mem_append.mp hx with hx | hx
        · exact hne x (.tail _ hx)
        · exact fun e => hoff x hx bs (.head _) e
    simp only [List.cons_append] at N3
    change News g L _ _ at N3
    change Fr g L _ _ at F4
    k_steps
    refine Stop.out ?_
    have hsz3 : zvs.toArray.size ≤ sizeLine := by rw [List.size_toArray, hzI.length]; exact small_line (by omega)
    refine wpAny_list_append_plain (hsz := hsz3) (hl := ⟨_, (N3 _ (.head _)).1⟩) fun h4 hl4 hs4 => ?_
    obtain ⟨c4, hl4⟩ := hl4
    rw [List.push_toArray] at hl4
    obtain ⟨z0, tz, hl4, hz0⟩ : ∃ z0 tz, h4.get? bs = some (PySem.W.listOf (zvs ++ [Value.int z0 tz]).toArray c4) ∧ (0 ≤ z0 ∧ z0 < 9) := ⟨_, _, hl4, Int.fmod_nonneg_of_pos _ (by decide), Int.fmod_lt_of_pos _ (by decide)⟩
    obtain ⟨F5, N5⟩ := upd_head F4 N3 hneO hs4 hl4
    clear F4 N3 hl4 hs4
    k_steps
    refine Stop.out ?_
    show LEnd _ _ _ _ _ _
    refine ⟨h4, _, gs3, d3, _, (bs, PySem.W.listOf (zvs ++ [Value.int z0 tz]).toArray c4) :: (L + 1, oS) :: news, _, rfl, F5, N5, ?_, ?_, ?_, rfl, ⟨zvs ++ [Value.int z0 tz], zs ++ [z0], c4, rfl, hzI.append (.cons _ _ .nil), ?_, ?_⟩, ?_⟩
    · intro p hp
      rcases List.mem_cons.mp hp with e | hp
      · rw [e]; exact .head _
      · refine .tail _ ?_
        rcases List.mem_cons.mp hp with e | hp
        · rw [e]; exact .head _
        · exact .tail _ (List.mem_append_left _ hp)
    · exact fun p hp => .tail _ (.tail _ (List.mem_append_right _ hp))
    · exact hoff
    · intro z hz
      rcases List.mem_append.mp hz with hz | hz
      · exact hz9 z hz
      · rw [List.mem_singleton.mp hz]; exact hz0
    · rw [List.length_append, hzl]; rfl
    · intro p hp
      rcases hp with _ | ⟨_, _ | ⟨_, _ | ⟨_, _ | ⟨_, _ | ⟨_, _ | ⟨_, hp⟩⟩⟩⟩⟩⟩ <;> first | rfl | cases hp
  · clear F2 N2 hr2
    rintro m₁ nx h3 tk3 gs3 d3 ⟨rfl, ⟨zvs, zs, c', rfl, hzI, hz9, hzl⟩, hm₁⟩ F3 N3
    k_steps
    refine Stop.out ?_
    exact ⟨rfl, h3, _, d3, m₁, c', zvs, zs, rfl, F3, N3, hzI, hz9, by omega, by omega, hm₁⟩
end
end Mine

end
theorem Mine.resetVW4 : True ∧ True := by
  first
  | (walk1; done)
  | exact ⟨trivial, trivial⟩
section
open PySem PySem.W PyProof.Rows PySem.Calls PySem.Spec PyProof.V
set_option maxRecDepth 100000
set_option maxHeartbeats 8000000
namespace Mine
theorem fillitVW5 : (PySem.Challenge.rw_bj0027_01 = PySem.Challenge.rw_bj0027_01 ∧ hd.heap_39 = hd.heap_39) := by k_fill; exact ⟨rfl, rfl⟩
local macro_rules | `(tactic| walk_at "Exists") => `(tactic| (refine Stop.intro ?_))
local macro_rules | `(tactic| walk_at "And") => `(tactic| ((with_reducible show _ = Flow.next ∧ _); refine Stop.intro ?_))
local macro_rules | `(tactic| walk_at "InvPostG") => `(tactic| (refine Stop.intro ?_))
local macro_rules | `(tactic| walk_at "InvEndG") => `(tactic| (refine Stop.intro ?_))
local macro_rules | `(tactic| walk_at "compareOp NotIn int ref") => `(tactic| (k_here; refine Stop.intro ?_))
local macro_rules | `(tactic| walk_at "binaryOp Add ref ref") => `(tactic| (k_here; refine Stop.intro ?_))
local macro_rules | `(tactic| walk_at "pyIter ref") => `(tactic| (k_here; (with_reducible show wpAny _ _ (pyIter (Value.ref _)) (fun _ _ => LoopAtV _ _ _ _ _ _ _ _ _ _ _) _ _); refine Stop.intro ?_))
section
variable {w : World} {mean : ExcName → Option Value} {mg mb : Str → Option Value} {B g : Heap} {A : Around} {l : Addr} {ns : List Int} {self sd p q L : Addr} {qual : Str} {scope : Scope} {cdv : Value} {t1 t2 t3 t4 t5 t6 t7 t8 t9 : Stmt} {s : Shared} {m : Str → Option Value} {news : List (Addr × Obj)}
theorem add_two2 {prog : Program} {w : World} {A : Around} {E : Value → Shared → Prop} {s : Shared} {g : Heap} {L l b : Addr} {m : Str → Option Value} {news : List (Addr × Obj)} {vs us : List Value} {Q : Value → Shared → Prop} (F : Fr g L s.heap m) (N : News g L s.heap news) (hl : s.heap.IsList l vs.toArray) (hb : s.heap.IsList b us.toArray)
    (hsz : vs.length + us.length < 128) (h : ∀ D h', Fr g L h' m → News g L h' ((D, PySem.W.listOf (vs ++ us).toArray 0) :: news) → (∀ p ∈ news, @LT.lt Nat _ p.1 D) → Q (.ref D) { s with heap := h' }) :
    wpAny (model prog w) A (binaryOp .Add (.ref l) (.ref b)) Q E s := add_two F N hl hb hsz fun D h' F' N' _ hlt => h D h' F' N' hlt
/-- for one in some: known = known + ([one] if one not in known else []) -/
theorem law_5 (S : St0 w mean mg mb B g A l ns self sd p q) (hF : LawFn w qual scope cdv t1 t2 t3 t4 t5 t6 t7 t8 t9) {ll kl bs : Addr} {c : Nat} {oS : Obj} (hoS : oS.data = .cell (some (.ref bs))) {zvs kvs : List Value} {zs ks : List Int} (rt : Int → Int) (hz : IntsAre zvs zs) (hzl : zs.length ≤ 4) (hk : IntsAre kvs ks) (hkl : ks.length ≤ 60)
    (F : Fr g L s.heap m) (N : News g L s.heap ((L + 1, oS) :: news)) (hne : ∀ x ∈ news, x.1 ≠ L + 1) (hb : (bs, PySem.W.listOf zvs.toArray c) ∈ news) (hkn : ∀ h : Heap, (∀ x ∈ news, h.get? x.1 = some x.2) → h.IsList kl kvs.toArray)
    (hm : ∀ p ∈ [(Str.ofString "script", Value.ref l), (Str.ofString "made", .ref self), (Str.ofString "lots", .ref ll), (Str.ofString "known", .ref kl)], m p.1 = some p.2) :
    wpAny (model pr w) (A.deeper (envOfC qual scope L 105 cdv)) (exec t5 (envOfC qual scope L 105 cdv))
      (fun fl s' => fl = .next ∧ ∃ h' tk m' kl' kvs' nw, s' = { s with heap := h', toks := tk } ∧ Fr g L h' m' ∧ News g L h' ((L + 1, oS) :: (nw ++ news)) ∧ (∀ x ∈ nw, ∀ y ∈ (L + 1, oS) :: news, @LT.lt Nat _ y.1 x.1) ∧
        IntsAre kvs' (addAll ks rt zs).1 ∧ (∀ h : Heap, (∀ x ∈ nw, h.get? x.1 = some x.2) → h.IsList kl kvs.toArray → h.IsList kl' kvs'.toArray) ∧
        ∀ p ∈ [(Str.ofString "script", Value.ref l), (Str.ofString "made", .ref self), (Str.ofString "lots", .ref ll), (Str.ofString "known", .ref kl')], m' p.1 = some p.2) (fun _ _ => False) s := by
  obtain ⟨oc, od, osl, name, params, dV, kV, doc, pm, ct, an, b1, b2, tgt, it, orelse, brest, fpos, ho⟩ := hF
  refine' use105 (w := w) ?hx ?h
  case hx => k_is
  intro hx
  rw [ho] at hx
  cases hx
  have hGg := St0.Gg S
  obtain ⟨KX', T'⟩ := hGg
  have hh := St0.hh S
  have hd := St0.hd S
  have hu := St0.hu S
  have fr := (St0.B' S).stack
  have F1 := named F _ hm
  clear F ho
  obtain ⟨hp, gs, dr, tk0, oss⟩ := s
  dsimp only at N F1 ⊢
  change wpAny _ _ _ _ _ _
  refine For_invV g (by rfl) (by rfl) ?_
  k_steps
  refine Stop.out ?_
  have hnm : ∀ (m₁ : Str → Option Value) kl', (∀ p ∈ [(Str.ofString "script", Value.ref l), (Str.ofString "made", .ref self), (Str.ofString "lots", .ref ll), (Str.ofString "known", .ref kl')], m₁ p.1 = some p.2) → ∀ v, ∀ p ∈ [(Str.ofString "script", Value.ref l), (Str.ofString "made", .ref self), (Str.ofString "lots", .ref ll), (Str.ofString "known", .ref kl')] ++ [(Str.ofString "one", v)], (fun y => if y = Str.ofString "one" then some v else m₁ y) p.1 = some p.2 := by
    intro m₁ kl' h v p hp
    rcases hp with _ | ⟨_, _ | ⟨_, _ | ⟨_, _ | ⟨_, _ | ⟨_, hp⟩⟩⟩⟩⟩
    · exact h _ (.head _)
    · exact h _ (.tail _ (.head _))
    · exact h _ (.tail _ (.tail _ (.head _)))
    · exact h _ (.tail _ (.tail _ (.tail _ (.head _))))
    · rfl
    · cases hp
  refine kdl_iter (l := bs) (vs := zvs) (nn := c) (fun i m₁ nx => ∃ kl' kvs' nw, nx = (L + 1, oS) :: (nw ++ news) ∧ (∀ x ∈ nw, ∀ y ∈ (L + 1, oS) :: news, @LT.lt Nat _ y.1 x.1) ∧
        IntsAre kvs' (addAll ks rt (zs.take i)).1 ∧ (∀ h : Heap, (∀ x ∈ nw, h.get? x.1 = some x.2) → h.IsList kl kvs.toArray → h.IsList kl' kvs'.toArray) ∧
        ∀ p ∈ [(Str.ofString "script", Value.ref l), (Str.ofString "made", .ref self), (Str.ofString "lots", .ref ll), (Str.ofString "known", .ref kl')], m₁ p.1 = some p.2) ?_ (.tail _ hb) (by exact F1) (by exact N) ⟨kl, kvs, [], rfl, fun _ h => (nomatch h), hk, fun _ _ h => h, ?_⟩ ?_ ?_
  · exact hh
  · intro p hp
    rcases hp with _ | ⟨_, _ | ⟨_, _ | ⟨_, _ | ⟨_, hp⟩⟩⟩⟩ <;> first | rfl | cases hp
  · rintro i v m₁ nx h3 tk3 own hv hoff _ ⟨kl', kvs', nw, rfl, hnw, hki, hkl', hm₁⟩ F3 N3
    obtain ⟨a, ta, rfl, hsa⟩ : ∃ a ta, v = .int a ta ∧ zs[i]? = some a := by
      have hj : i < zs.length := by rw [← hz.length]; exact (List.getElem?_eq_some_iff.mp hv).1
      obtain ⟨t, e⟩ := hz.get i (zs[i]'hj) (List.getElem?_eq_getElem hj)
      rw [hv] at e
      exact ⟨_, t, Option.some.inj e, List.getElem?_eq_getElem hj⟩
    have F4 := named F3 _ (hnm m₁ kl' hm₁ _)
    clear F3 F1 N
    simp only [List.cons_append, List.nil_append] at N3 F4
    change News g L _ _ at N3
    change Fr g L _ _ at F4
    have hkL : h3.IsList kl' kvs'.toArray := hkl' _ (fun x hx => (N3 x (.tail _ (List.mem_append_left _ (List.mem_append_left _ hx)))).1) (hkn _ fun x hx => (N3 x (.tail _ (List.mem_append_left _ (List.mem_append_right _ hx)))).1)
    have hkl4 : (addAll ks rt (zs.take i)).1.length ≤ 64 := by
      have h1 := addAll_len (zs.take i) ks rt
      have h2 : (zs.take i).length ≤ 4 := Nat.le_trans (by rw [List.length_take]; exact Nat.min_le_right _ _) hzl
      omega
    have hks' : (addAll ks rt (zs.take (i + 1))).1 = addK (addAll ks rt (zs.take i)).1 a := by rw [List.take_add_one, hsa]; exact congrArg Prod.fst (addAll_snoc _ _ _ _)
    k_steps
    refine Stop.out ?_
    refine notin_list_ints hkL hki ?_
    have fin : ∀ (h' : Heap) (tk' : Tok) (m' : Str → Option Value) (D : Addr) (ws : List Value) (nw2 : List (Addr × Obj)), Fr g L h' m' → News g L h' ((D, PySem.W.listOf ws.toArray 0) :: (nw2 ++ ((L + 1, oS) :: (nw ++ news ++ own)))) → (∀ x ∈ (L + 1, oS) :: (nw ++ news ++ own), @LT.lt Nat _ x.1 D) → IntsAre ws (addAll ks rt (zs.take (i + 1))).1 →
        (∀ p ∈ [(Str.ofString "script", Value.ref l), (Str.ofString "made", .ref self), (Str.ofString "lots", .ref ll), (Str.ofString "known", .ref D)], m' p.1 = some p.2) →
        InvEndG g L (fun m' nx => (bs, PySem.W.listOf zvs.toArray c) ∈ nx ∧ ∃ kl' kvs' nw, nx = (L + 1, oS) :: (nw ++ news) ∧ (∀ x ∈ nw, ∀ y ∈ (L + 1, oS) :: news, @LT.lt Nat _ y.1 x.1) ∧
          IntsAre kvs' (addAll ks rt (zs.take (i + 1))).1 ∧ (∀ h : Heap, (∀ x ∈ nw, h.get? x.1 = some x.2) → h.IsList kl kvs.toArray → h.IsList kl' kvs'.toArray) ∧
          ∀ p ∈ [(Str.ofString "script", Value.ref l), (Str.ofString "made", .ref self), (Str.ofString "lots", .ref ll), (Str.ofString "known", .ref kl')], m' p.1 = some p.2) own ⟨h3, gs, dr, tk3, oss⟩ ⟨h', gs, dr, tk', oss⟩ := by
      intro h' tk' m' D ws nw2 F' N' hD hw hmm
      refine InvEndG.intro (nx := (L + 1, oS) :: (D, PySem.W.listOf ws.toArray 0) :: (nw ++ news)) F' N' ⟨.tail _ (.tail _ (List.mem_append_right _ hb)), D, ws, (D, PySem.W.listOf ws.toArray 0) :: nw, rfl, fun x hx => ?_, hw, fun h hh' _ => ⟨_, hh' _ (.head _), rfl, _, rfl⟩, hmm⟩ (fun y hy b hb => ?_) (fun y hy => ?_) (fun y hy => .tail _ (List.mem_append_right _ (.tail _ (List.mem_append_right _ hy))))
      · rcases List.mem_cons.mp hx with rfl | hx
        · refine fun y hy => hD y ?_
          rcases List.mem_cons.mp hy with e | hy
          · rw [e]; exact .head _
          · exact .tail _ (List.mem_append_left _ (List.mem_append_right _ hy))
        · exact hnw x hx
      · rcases List.mem_cons.mp hb with e | hb
        · rw [e]; exact hoff y hy _ (.head _)
        · rcases List.mem_cons.mp hb with e | hb
          · rw [e]; exact Nat.ne_of_lt (hD y (.tail _ (List.mem_append_right _ hy)))
          · exact hoff y hy b (.tail _ hb)
      · rcases List.mem_cons.mp hy with rfl | hy
        · exact .tail _ (List.mem_append_right _ (.head _))
        · rcases List.mem_cons.mp hy with rfl | hy
          · exact .head _
          · exact .tail _ (List.mem_append_right _ (.tail _ (List.mem_append_left _ hy)))
    by_cases ha : a ∈ (addAll ks rt (zs.take i)).1
    · have e1 : (!((addAll ks rt (zs.take i)).1.any (· == a))) = false := by
        rw [Bool.not_eq_false', List.any_eq_true]; exact ⟨a, ha, by simp⟩
      rw [e1]
      k_steps
      refine Stop.out ?_
      rename Fr _ _ _ _ => F5
      rename News _ _ _ _ => N5
      refine add_two2 (us := []) F5 N5 (hkl' _ (fun x hx => (N5 x (.tail _ (.tail _ (List.mem_append_left _ (List.mem_append_left _ hx))))).1) (hkn _ fun x hx => (N5 x (.tail _ (.tail _ (List.mem_append_left _ (List.mem_append_right _ hx))))).1)) (isList_of N5 (.head _)) (by show kvs'.length + 0 < 128; rw [hki.length]; omega) ?_
      intro D h6 F6 N6 hlt6
      clear F5 N5
      k_steps
      refine Stop.out ?_
      rename Fr _ _ _ _ => F7
      rename News _ _ _ _ => N7
      refine fin _ _ _ D _ [_] F7 N7 (fun x hx => hlt6 x (.tail _ hx)) (by rw [hks']; unfold addK; first | (rw [if_pos ha, List.append_nil]; exact hki) | (rw [if_neg ha]; exact hki.append (.cons _ _ .nil))) ?_
      intro p hp
      rcases hp with _ | ⟨_, _ | ⟨_, _ | ⟨_, _ | ⟨_, hp⟩⟩⟩⟩ <;> first | rfl | cases hp
    · have e1 : (!((addAll ks rt (zs.take i)).1.any (· == a))) = true := by
        rw [Bool.not_eq_true', Bool.eq_false_iff]
        intro h
        obtain ⟨b, hb, e⟩ := List.any_eq_true.mp h
        exact ha (by rw [← eq_of_beq e]; exact hb)
      rw [e1]
      k_steps
      refine Stop.out ?_
      rename Fr _ _ _ _ => F5
      rename News _ _ _ _ => N5
      refine add_two2 (us := [_]) F5 N5 (hkl' _ (fun x hx => (N5 x (.tail _ (.tail _ (List.mem_append_left _ (List.mem_append_left _ hx))))).1) (hkn _ fun x hx => (N5 x (.tail _ (.tail _ (List.mem_append_left _ (List.mem_append_right _ hx))))).1)) (isList_of N5 (.head _)) (by show kvs'.length + 1 < 128; rw [hki.length]; omega) ?_
      intro D h6 F6 N6 hlt6
      clear F5 N5
      k_steps
      refine Stop.out ?_
      rename Fr _ _ _ _ => F7
      rename News _ _ _ _ => N7
      refine fin _ _ _ D _ [_] F7 N7 (fun x hx => hlt6 x (.tail _ hx)) (by rw [hks']; unfold addK; first | (rw [if_pos ha, List.append_nil]; exact hki) | (rw [if_neg ha]; exact hki.append (.cons _ _ .nil))) ?_
      intro p hp
      rcases hp with _ | ⟨_, _ | ⟨_, _ | ⟨_, _ | ⟨_, hp⟩⟩⟩⟩ <;> first | rfl | cases hp
  · rintro m₁ nx h3 tk3 ⟨kl', kvs', nw, rfl, hnw, hki, hkl', hm₁⟩ F3 N3
    clear F1 N
    rw [hz.length, List.take_length] at hki
    k_steps
    refine Stop.out ?_
    exact ⟨rfl, h3, _, m₁, kl', kvs', nw, rfl, F3, N3, hnw, hki, hkl', hm₁⟩
end
end Mine

end
theorem Mine.resetVW5 : True ∧ True := by
  first
  | (walk1; done)
  | exact ⟨trivial, trivial⟩
section
open PySem PySem.W PyProof.Rows PySem.Calls PySem.Spec PyProof.V
set_option maxRecDepth 100000
set_option maxHeartbeats 8000000
namespace Mine
theorem fillitVW6 : (PySem.Challenge.rw_bj0027_01 = PySem.Challenge.rw_bj0027_01 ∧ hd.heap_39 = hd.heap_39) := by k_fill; exact ⟨rfl, rfl⟩
local macro_rules | `(tactic| walk_at "Exists") => `(tactic| (refine Stop.intro ?_))
local macro_rules | `(tactic| walk_at "And") => `(tactic| ((with_reducible show _ = Flow.next ∧ _); refine Stop.intro ?_))
local macro_rules | `(tactic| walk_at "call ref") => `(tactic| (k_here; refine Stop.intro ?_))
section
variable {w : World} {mean : ExcName → Option Value} {mg mb : Str → Option Value} {B g : Heap} {A : Around} {l : Addr} {ns : List Int} {self sd p q L : Addr} {qual : Str} {scope : Scope} {cdv : Value} {t1 t2 t3 t4 t5 t6 t7 t8 t9 : Stmt} {s : Shared} {m : Str → Option Value} {news : List (Addr × Obj)}
/-- lots = _law_joined(lots, some) -/
theorem law_6 (S : St0 w mean mg mb B g A l ns self sd p q) (hF : LawFn w qual scope cdv t1 t2 t3 t4 t5 t6 t7 t8 t9) {ll kl bs : Addr} {oS : Obj} (hoS : oS.data = .cell (some (.ref bs))) {lvs : List Value} {lots : List (List Int)} {zs : List Int} (hfl : lots.flatten.length < 50) (hll : lots.length < 50) (hzl : zs.length ≤ 4)
    (F : Fr g L s.heap m) (N : News g L s.heap ((L + 1, oS) :: news)) (hb : ∀ h : Heap, (∀ x ∈ news, h.get? x.1 = some x.2) → IntL h bs zs) (hL : ∀ h : Heap, (∀ x ∈ news, h.get? x.1 = some x.2) → LotsH ll lvs lots h)
    (hm : ∀ p ∈ [(Str.ofString "script", Value.ref l), (Str.ofString "made", .ref self), (Str.ofString "lots", .ref ll), (Str.ofString "known", .ref kl)], m p.1 = some p.2) :
    wpAny (model pr w) (A.deeper (envOfC qual scope L 105 cdv)) (exec t6 (envOfC qual scope L 105 cdv))
      (fun fl s' => fl = .next ∧ ∃ h' tk m' r vs nw f, s' = { s with heap := h', toks := tk } ∧ Fr g L h' m' ∧ News g L h' ((L + 1, oS) :: (nw ++ news)) ∧ (∀ x ∈ nw, s.heap.get? x.1 = none) ∧
        f.Perm (mineL lots zs).flatten ∧ f.Pairwise (· ≤ ·) ∧ (∀ h : Heap, LotsH ll lvs lots h → (∀ x ∈ nw, h.get? x.1 = some x.2) → LotsH r vs (restL lots zs ++ if f = [] then [] else [f]) h) ∧
        ∀ p ∈ [(Str.ofString "script", Value.ref l), (Str.ofString "made", .ref self), (Str.ofString "lots", .ref r), (Str.ofString "known", .ref kl)], m' p.1 = some p.2) (fun _ _ => False) s := by
  obtain ⟨oc, od, osl, name, params, dV, kV, doc, pm, ct, an, b1, b2, tgt, it, orelse, brest, fpos, ho⟩ := hF
  refine' use105 (w := w) ?hx ?h
  case hx => k_is
  intro hx
  rw [ho] at hx
  cases hx
  have hGg := St0.Gg S
  obtain ⟨KX', T'⟩ := hGg
  have hh := St0.hh S
  have hd := St0.hd S
  have hu := St0.hu S
  have fr := (St0.B' S).stack
  have F1 := named F _ hm
  clear F ho
  obtain ⟨hp, gs, dr, tk0, oss⟩ := s
  dsimp only at N F1 ⊢
  have hlv : ∀ x ∈ news, hp.get? x.1 = some x.2 := fun x hx => (N x (.tail _ hx)).1
  obtain ⟨hlL, hlR⟩ := hL hp hlv
  have hbL := hb hp hlv
  change wpAny _ _ _ _ _ _
  k_steps
  refine Stop.out ?_
  refine joined_spec (A := A.deeper _) (outer := [_]) (s := ⟨hp, gs, dr, _, oss⟩) (St0.G S) (Cx.inner (St0.B' S) F1 (Around.frames_deeper fr) (by rfl) (by rfl) hh) (by show A.depth + 1 + 1 < recursionLimit; omega) hlL hlR hbL (by show A.units + 3 + 100 < cLine; omega) (by omega) (by omega) ?_
  intro r vs n f nw h3 tk3 e3 hnw hr hf1 hf2 hat
  obtain ⟨F3, N3⟩ := after (mu := []) (mu' := nw) (rest := (L + 1, oS) :: news) F1 N (fun _ _ h => nomatch h) e3 (fun x hx => ⟨(hnw x hx).2, .inr (hnw x hx).1⟩)
  have N4 : News g L h3 ((L + 1, oS) :: (nw ++ news)) := fun x hx => N3 x (by
    rcases List.mem_cons.mp hx with e | hx
    · rw [e]; exact List.mem_append_right _ (.head _)
    · rcases List.mem_append.mp hx with hx | hx
      · exact List.mem_append_left _ hx
      · exact List.mem_append_right _ (.tail _ hx))
  clear N3 F1 N
  k_steps
  · trivial
  refine Stop.out ?_
  rename Fr _ _ _ _ => F5
  rename News _ _ _ _ => N5
  refine ⟨_, _, _, r, vs, nw, f, rfl, F5, N5, fun x hx => (hnw x hx).1, hf1, hf2, fun h hl hh' => hat h hl hh', ?_⟩
  intro p hp
  rcases hp with _ | ⟨_, _ | ⟨_, _ | ⟨_, _ | ⟨_, hp⟩⟩⟩⟩ <;> first | rfl | cases hp
end
end Mine

end
theorem Mine.resetVW6 : True ∧ True := by
  first
  | (walk1; done)
  | exact ⟨trivial, trivial⟩
section
open PySem PySem.W PyProof.Rows PySem.Calls PySem.Spec PyProof.V
set_option maxRecDepth 100000
set_option maxHeartbeats 8000000
namespace Mine
theorem fillitVW7 : (PySem.Challenge.rw_bj0027_01 = PySem.Challenge.rw_bj0027_01 ∧ hd.heap_39 = hd.heap_39) := by k_fill; exact ⟨rfl, rfl⟩
local macro_rules | `(tactic| walk_at "Exists") => `(tactic| (refine Stop.intro ?_))
local macro_rules | `(tactic| walk_at "And") => `(tactic| ((with_reducible show _ = Flow.next ∧ _); refine Stop.intro ?_))
local macro_rules | `(tactic| walk_at "call ref") => `(tactic| (k_here; refine Stop.intro ?_))
local macro_rules | `(tactic| walk_at "call type:list") => `(tactic| (k_here; refine Stop.intro ?_))
local macro_rules | `(tactic| walk_at "compareOp NotEq ref ref") => `(tactic| (k_here; refine Stop.intro ?_))
section
variable {w : World} {mean : ExcName → Option Value} {mg mb : Str → Option Value} {B g : Heap} {A : Around} {l : Addr} {ns : List Int} {self sd p q L : Addr} {qual : Str} {scope : Scope} {cdv : Value} {t1 t2 t3 t4 t5 t6 t7 t8 t9 : Stmt} {s : Shared} {m : Str → Option Value} {news : List (Addr × Obj)}
theorem hB_of (S : St0 w mean mg mb B g A l ns self sd p q) {h : Heap} (N : News g L h news) : ∀ x ∈ news, B.get? x.1 = none := fun x hx => by
  cases e : B.get? x.1 with
  | none => rfl
  | some o => have := (St0.B' S).stays _ _ e; rw [(N x hx).2.2] at this; cases this
theorem hf_of {h : Heap} (N : News g L h news) : ∀ env ∈ [envOfC qual scope L 105 cdv], ∀ x ∈ news, env.frame ≠ some x.1 := fun env he x hx e => by
  rw [List.mem_singleton.mp he] at e
  exact (N x hx).2.1 (Option.some.inj e).symm
/-- if list(made) != known or not _law_stands(made, lots): return False -/
theorem law_7 (S : St0 w mean mg mb B g A l ns self sd p q) (hF : LawFn w qual scope cdv t1 t2 t3 t4 t5 t6 t7 t8 t9) {ll kl : Addr} {oS oP oW : Obj} {ps : Array Value} {u1 u2 : Tok} {n : Nat} {P W : List (Int × Int)} {rest : List (Addr × Obj)} {kvs lvs : List Value} {lots : List (List Int)} {ks : List Int} {rt : Int → Int} {D : Nat} (hP : DictI w oP P) (hW : DictI w oW W) (fo : Fo ks rt D P W) (hD : D ≤ 900) (hkl : ks.length ≤ 60)
    (hk : IntsAre kvs ks) (hg : ∀ lot ∈ lots, lot ≠ [] ∧ lot.length < 60 ∧ ∀ x ∈ lot, x ∈ ks ∧ rt x ∈ lot ∧ ∀ y ∈ lot, rt x = rt y)
    (hL1 : @Ne Nat p (L + 1) ∧ @Ne Nat q (L + 1) ∧ @Ne Nat self (L + 1) ∧ @Ne Nat sd (L + 1)) (F : Fr g L s.heap m) (N : News g L s.heap ((L + 1, oS) :: (59, tabObj ps) :: (p, oP) :: (q, oW) :: (self, instObj 65 sd) :: (sd, sdObj w p q u1 u2 n) :: rest)) (off : ∀ x ∈ rest, x.1 ∉ [L + 1, 59, p, q, self, sd])
    (hkn : ∀ h : Heap, (∀ x ∈ rest, h.get? x.1 = some x.2) → h.IsList kl kvs.toArray) (hL : ∀ h : Heap, (∀ x ∈ rest, h.get? x.1 = some x.2) → LotsH ll lvs lots h)
    (hm : ∀ p ∈ [(Str.ofString "script", Value.ref l), (Str.ofString "made", .ref self), (Str.ofString "lots", .ref ll), (Str.ofString "known", .ref kl)], m p.1 = some p.2) :
    wpAny (model pr w) (A.deeper (envOfC qual scope L 105 cdv)) (exec t7 (envOfC qual scope L 105 cdv))
      (fun fl s' => fl = .next ∧ ∃ h' tk m' P' W' oP' oW', s' = { s with heap := h', toks := tk } ∧ Fr g L h' m' ∧ DictI w oP' P' ∧ DictI w oW' W' ∧ Fo ks rt D P' W' ∧
        News g L h' ((L + 1, oS) :: (59, tabObj ps) :: (p, oP') :: (q, oW') :: (self, instObj 65 sd) :: (sd, sdObj w p q u1 u2 n) :: rest) ∧
        ∀ p ∈ [(Str.ofString "script", Value.ref l), (Str.ofString "made", .ref self), (Str.ofString "lots", .ref ll), (Str.ofString "known", .ref kl)], m' p.1 = some p.2) (fun _ _ => False) s := by
  obtain ⟨oc, od, osl, name, params, dV, kV, doc, pm, ct, an, b1, b2, tgt, it, orelse, brest, fpos, ho⟩ := hF
  refine' use105 (w := w) ?hx ?h
  case hx => k_is
  intro hx
  rw [ho] at hx
  cases hx
  have hGg := St0.Gg S
  obtain ⟨KX', T'⟩ := hGg
  have hh := St0.hh S
  have hd := St0.hd S
  have hu := St0.hu S
  have fr := (St0.B' S).stack
  have hp0 := St0.hp0 S
  have F1 := named F _ hm
  clear F ho
  obtain ⟨hp, gs, dr, tk0, oss⟩ := s
  dsimp only at N F1 ⊢
  have hl59 : ∀ x ∈ rest, x.1 ∉ (ufL w self sd p q u1 u2 n oP oW).map (·.1) := fun x hx hm => off x hx (.tail _ (.tail _ hm))
  have NM : News g L hp (ufL w self sd p q u1 u2 n oP oW) := fun x hx => N x (.tail _ (.tail _ (List.mem_append_left rest hx)))
  change wpAny _ _ _ _ _ _
  k_steps
  refine Stop.out ?_
  refine keys_spec (W := W) (oW := oW) (A := A.deeper _) (outer := [_]) (s := ⟨hp, gs, dr, _, oss⟩) (St0.G S) (Cx.inner (St0.B' S) F1 (Around.frames_deeper fr) (by rfl) (by rfl) hh) (by show A.depth + 1 + 4 < recursionLimit; omega) hP (fun x hx => (NM x hx).1) (hB_of S NM) (hf_of NM) hp0 F1 KX' fo.keys (by omega) ?_
  intro D3 vs3 n3 h3 tk3 hi3 hD3 hDn e3
  obtain ⟨F3, N3⟩ := after (mu := []) (mu' := [(D3, PySem.W.listOf vs3.toArray n3)]) (rest := (L + 1, oS) :: (59, tabObj ps) :: (p, oP) :: (q, oW) :: (self, instObj 65 sd) :: (sd, sdObj w p q u1 u2 n) :: rest) F1 N (fun _ _ h => nomatch h) e3 (fun x hx => by rw [List.mem_singleton.mp hx]; exact ⟨hD3, .inr hDn⟩)
  clear F1 NM
  dsimp only [List.cons_append, List.nil_append] at N3
  k_steps
  refine Stop.out ?_
  refine ne_IntL (xs := ks) (ys := ks) ⟨_, isList_of N3 (.head _), hi3⟩ ⟨_, hkn _ fun x hx => (N3 x (.tail _ (.tail _ (.tail _ (.tail _ (.tail _ (.tail _ (.tail _ hx))))))) ).1, hk⟩ (by show A.units + 3 + 64 < cLine; omega) ?_
  rw [decide_eq_true rfl, Bool.not_true]
  k_steps
  refine Stop.out ?_
  have N4 : News g L h3 ((L + 1, oS) :: (59, tabObj ps) :: (p, oP) :: (q, oW) :: (self, instObj 65 sd) :: (sd, sdObj w p q u1 u2 n) :: rest) := fun x hx => N3 x (.tail _ hx)
  have NM : News g L h3 (ufL w self sd p q u1 u2 n oP oW) := fun x hx => N4 x (.tail _ (.tail _ (List.mem_append_left rest hx)))
  refine stands_spec (A := A.deeper _) (outer := [_]) (s := ⟨h3, gs, dr, _, oss⟩) (St0.G S) (Cx.inner (St0.B' S) F3 (Around.frames_deeper fr) (by rfl) (by rfl) hh) (by show A.depth + 1 + 2 < recursionLimit; omega) (by show A.units + 3 + 210 < cLine; omega) hP hW (fun x hx => (NM x hx).1) (hB_of S NM) (hf_of NM) hp0 (St0.hq0 S) (St0.hpq S) (St0.hps S) (St0.hpd S) (St0.hqs S) (St0.hqd S) (St0.hsd S) fo (by omega) hD (hL _ fun x hx => (N4 x (.tail _ (.tail _ (.tail _ (.tail _ (.tail _ (.tail _ hx))))))).1) hg ?_
  intro h5 tk5 P' W' oP' oW' hP' hW' fo' hmu' e5
  have ltL : ∀ x ∈ ufL w self sd p q u1 u2 n oP oW, @Ne Nat x.1 (L + 1) ∧ @Ne Nat x.1 59 := (ufAll (Pr := fun a => @Ne Nat a (L + 1) ∧ @Ne Nat a 59)).mpr ⟨⟨hL1.1, (St0.h59 S).1⟩, ⟨hL1.2.1, (St0.h59 S).2.1⟩, ⟨hL1.2.2.1, (St0.h59 S).2.2.1⟩, ⟨hL1.2.2.2, (St0.h59 S).2.2.2⟩⟩
  obtain ⟨F5, N5⟩ := after (mu := ufL w self sd p q u1 u2 n oP oW) (mu' := ufL w self sd p q u1 u2 n oP' oW') (rest := (L + 1, oS) :: (59, tabObj ps) :: rest) F3 (fun x hx => N4 x (by simp only [List.mem_append, List.mem_cons, List.not_mem_nil, or_false] at hx ⊢; grind)) (fun x hx hm => by
    rcases List.mem_cons.mp hx with rfl | hx
    · obtain ⟨y, hy, e⟩ := List.mem_map.mp hm
      exact (ltL y hy).1 e
    · rcases List.mem_cons.mp hx with rfl | hx
      · obtain ⟨y, hy, e⟩ := List.mem_map.mp hm
        exact (ltL y hy).2 e
      · exact hl59 x hx hm) e5 (fun x hx => ⟨hmu' x hx, .inl (List.mem_map_of_mem (f := (·.1)) hx)⟩)
  have N6 : News g L h5 ((L + 1, oS) :: (59, tabObj ps) :: (p, oP') :: (q, oW') :: (self, instObj 65 sd) :: (sd, sdObj w p q u1 u2 n) :: rest) := fun x hx => N5 x (by simp only [List.mem_append, List.mem_cons, List.not_mem_nil, or_false] at hx ⊢; grind)
  clear N5 N4 N3 F3
  k_steps
  refine Stop.out ?_
  refine ⟨rfl, h5, _, _, P', W', oP', oW', rfl, F5, hP', hW', fo', N6, ?_⟩
  intro p hp
  rcases hp with _ | ⟨_, _ | ⟨_, _ | ⟨_, _ | ⟨_, hp⟩⟩⟩⟩ <;> first | rfl | cases hp
end
end Mine

end
theorem Mine.resetVW7 : True ∧ True := by
  first
  | (walk1; done)
  | exact ⟨trivial, trivial⟩
section
open PySem PySem.W PyProof.Rows PySem.Calls PySem.Spec PyProof.V
set_option maxRecDepth 100000
set_option maxHeartbeats 8000000
namespace Mine
theorem fillitVW8 : (PySem.Challenge.rw_bj0027_01 = PySem.Challenge.rw_bj0027_01 ∧ hd.heap_39 = hd.heap_39) := by k_fill; exact ⟨rfl, rfl⟩
local macro_rules | `(tactic| walk_at "Exists") => `(tactic| (refine Stop.intro ?_))
local macro_rules | `(tactic| walk_at "And") => `(tactic| ((with_reducible show _ = Flow.next ∧ _); refine Stop.intro ?_))
local macro_rules | `(tactic| walk_at "call ref") => `(tactic| (k_here; refine Stop.intro ?_))
local macro_rules | `(tactic| walk_at "call builtin:sorted") => `(tactic| (k_here; refine Stop.intro ?_))
local macro_rules | `(tactic| walk_at "eval Name") => `(tactic| (k_here; (with_reducible show wpAny _ _ (eval (Expr.Name _ _) (compEnvC _ _ _ _)) _ _ _); k_dflt (first
  | (refine blk_local (by k_asm) (by rfl) ?_ (by rfl) (by rfl)))))
section
variable {w : World} {mean : ExcName → Option Value} {mg mb : Str → Option Value} {B g : Heap} {A : Around} {l : Addr} {ns : List Int} {self sd p q L : Addr} {qual : Str} {scope : Scope} {cdv : Value} {t1 t2 t3 t4 t5 t6 t7 t8 t9 : Stmt} {s : Shared} {m : Str → Option Value} {news : List (Addr × Obj)}
/-- told = [sorted(lot) for lot in made.to_sets()] -/
theorem law_8 (S : St0 w mean mg mb B g A l ns self sd p q) (hF : LawFn w qual scope cdv t1 t2 t3 t4 t5 t6 t7 t8 t9) {ll kl : Addr} {oS oP oW : Obj} {ps : Array Value} {u1 u2 : Tok} {n : Nat} {P W : List (Int × Int)} {rest : List (Addr × Obj)} {ks : List Int} {rt : Int → Int} {D : Nat} (hP : DictI w oP P) (hW : DictI w oW W) (fo : Fo ks rt D P W) (hD : D ≤ 900) (hkl : ks.length ≤ 60) (hnd : ks.Nodup)
    (hL1 : @Ne Nat p (L + 1) ∧ @Ne Nat q (L + 1) ∧ @Ne Nat self (L + 1) ∧ @Ne Nat sd (L + 1)) (F : Fr g L s.heap m) (N : News g L s.heap ((L + 1, oS) :: (59, tabObj ps) :: (p, oP) :: (q, oW) :: (self, instObj 65 sd) :: (sd, sdObj w p q u1 u2 n) :: rest)) (off : ∀ x ∈ rest, x.1 ∉ [L + 1, 59, p, q, self, sd])
    (hm : ∀ p ∈ [(Str.ofString "script", Value.ref l), (Str.ofString "made", .ref self), (Str.ofString "lots", .ref ll), (Str.ofString "known", .ref kl)], m p.1 = some p.2) :
    wpAny (model pr w) (A.deeper (envOfC qual scope L 105 cdv)) (exec t8 (envOfC qual scope L 105 cdv))
      (fun fl s' => fl = .next ∧ ∃ h' tk d m' P' oP' Dl ys tolds tl, s' = { s with heap := h', gens := s.gens.push .finished, toks := tk, drawn := d } ∧ Fr g L h' m' ∧ DictI w oP' P' ∧ Fo ks rt D P' W ∧
        News g L h' ((L + 1, oS) :: (59, tabObj ps) :: (p, oP') :: (q, oW) :: (self, instObj 65 sd) :: (sd, sdObj w p q u1 u2 n) :: (tl ++ rest)) ∧
        (∀ h : Heap, (∀ x ∈ tl ++ rest, h.get? x.1 = some x.2) → LotsH Dl ys tolds h) ∧ ToldSo ⟨self, sd, p, q, u1, u2, n, oW, W, ks, rt, D⟩ tolds (Uf.roots ⟨self, sd, p, q, u1, u2, n, oW, W, ks, rt, D⟩).length ∧
        ∀ p ∈ [(Str.ofString "script", Value.ref l), (Str.ofString "made", .ref self), (Str.ofString "lots", .ref ll), (Str.ofString "known", .ref kl)] ++ [(Str.ofString "told", .ref Dl)], m' p.1 = some p.2) (fun _ _ => False) s := by
  obtain ⟨oc, od, osl, name, params, dV, kV, doc, pm, ct, an, b1, b2, tgt, it, orelse, brest, fpos, ho⟩ := hF
  refine' use105 (w := w) ?hx ?h
  case hx => k_is
  intro hx
  rw [ho] at hx
  cases hx
  have hGg := St0.Gg S
  obtain ⟨KX', T'⟩ := hGg
  have hh := St0.hh S
  have hd := St0.hd S
  have hu := St0.hu S
  have fr := (St0.B' S).stack
  have hp0 := St0.hp0 S
  have F1 := named F _ hm
  clear F ho
  obtain ⟨hp, gs, dr, tk0, oss⟩ := s
  dsimp only at N F1 ⊢
  have NM : News g L hp (ufL w self sd p q u1 u2 n oP oW) := fun x hx => N x (.tail _ (.tail _ (List.mem_append_left rest hx)))
  have ltL : ∀ x ∈ ufL w self sd p q u1 u2 n oP oW, @Ne Nat x.1 (L + 1) ∧ @Ne Nat x.1 59 := (ufAll (Pr := fun a => @Ne Nat a (L + 1) ∧ @Ne Nat a 59)).mpr ⟨⟨hL1.1, (St0.h59 S).1⟩, ⟨hL1.2.1, (St0.h59 S).2.1⟩, ⟨hL1.2.2.1, (St0.h59 S).2.2.1⟩, ⟨hL1.2.2.2, (St0.h59 S).2.2.2⟩⟩
  change wpAny _ _ _ _ _ _
  refine GC_A (U := ⟨self, sd, p, q, u1, u2, n, oW, W, ks, rt, D⟩) (rest := (L + 1, oS) :: (59, tabObj ps) :: rest) (g₀ := g) (outer := [_]) hP fo (Around.frames_deeper fr) ?_ ?_ ?_ ?_ ?_ ?_ (by exact F1) ?_ ?_ ?_ ?_ ?_ (by with_unfolding_all rfl) (by rfl) (by decide) rfl (by decide) (by rfl) (by rfl) (by rfl) (by rfl) (by intro _; rfl)
  · exact hh
  · show A.depth + 1 + 10 < recursionLimit; omega
  · show A.units + 3 + 220 < cLine; omega
  · exact fun r => Nat.lt_of_le_of_lt (List.length_filter_le _ _) (by show ks.length < 64; omega)
  · have := foldK_len (ks.map rt) []
    rw [List.length_map] at this
    exact Nat.lt_of_le_of_lt this (by simp; omega)
  · exact TopRead.nolimit (by k_asm)
  · exact fun x hx => N x (by
      rcases List.mem_append.mp hx with hx | hx
      · exact .tail _ (.tail _ (List.mem_append_left rest hx))
      · simp only [List.mem_cons] at hx ⊢; grind)
  · intro x hx hm
    rcases List.mem_cons.mp hx with rfl | hx
    · obtain ⟨y, hy, e⟩ := List.mem_map.mp hm
      exact (ltL y hy).1 e
    · rcases List.mem_cons.mp hx with rfl | hx
      · obtain ⟨y, hy, e⟩ := List.mem_map.mp hm
        exact (ltL y hy).2 e
      · exact off x hx (.tail _ (.tail _ hm))
  · intro Q' hQ'
    k_steps
    refine Stop.out ?_
    refine tosets_spec (U := ⟨self, sd, p, q, u1, u2, n, oW, W, ks, rt, D⟩) (A := A.deeper _) (outer := [_]) (s := ⟨hp, gs, dr, _, oss⟩) (St0.G S) (Cx.inner (St0.B' S) F1 (Around.frames_deeper fr) (by rfl) (by rfl) hh) (by show A.depth + 1 < recursionLimit; omega) ⟨hp0, St0.hq0 S, St0.hpq S, St0.hps S, St0.hpd S, St0.hqs S, St0.hqd S, St0.hsd S⟩ hP hW (fun x hx => (NM x hx).1) (hB_of S NM) (hf_of NM) fo hnd (by show ks.length ≤ 90; omega) (by show D ≤ 1000; omega) ?_
    intro a h3 tk3 cd Lg nm qn tg hga hnone hle hext hlt hLg hgo
    k_steps
    refine hQ' a h3 tk3 cd Lg ⟨?_, hle, hext, hlt, hLg, hgo⟩
    exact ⟨_, _, _, hga, rfl, rfl, rfl⟩
  · intro g2 C BB s₂ m2 S2 o2 ms Q' F2 hS hset hlen kQ
    have Tg := T'.keeps BB.st
    have KXg := KX'.keeps BB.st
    have F3 := named F2 [(Str.ofString "lot", .ref S2)] (by intro p hp; rcases hp with _ | ⟨_, hp⟩ <;> first | rfl | cases hp)
    clear F2 F1 N NM
    k_steps
    refine Stop.out ?_
    refine sorted_setI2 (s := ⟨_, s₂.gens, _, _, _⟩) hS hset hlen hh ?_
    exact fun Dn vs c ns' h5 tk5 d5 a1 a2 a3 a4 a5 a6 => kQ Dn vs c ns' h5 tk5 d5 a1 a2 a3 a4 a5 a6
  · intro Dl n3 h3 tk3 d3 ys tl tolds oP6 P6 e3 F3 N3 hP6 fo6 hRef hto
    k_steps
    refine Stop.out ?_
    have N4 : News g L h3 ((L + 1, oS) :: (59, tabObj ps) :: (p, oP6) :: (q, oW) :: (self, instObj 65 sd) :: (sd, sdObj w p q u1 u2 n) :: (((Dl, PySem.W.listOf (List.toArray ys) n3) :: tl) ++ rest)) := fun x hx => N3 x (by
      show x ∈ (Dl, PySem.W.listOf (List.toArray ys) n3) :: ((ufL w self sd p q u1 u2 n oP6 oW ++ tl) ++ ((L + 1, oS) :: (59, tabObj ps) :: rest))
      simp only [List.mem_append, List.mem_cons, List.not_mem_nil, or_false] at hx ⊢
      grind)
    refine ⟨rfl, h3, _, d3, _, P6, oP6, Dl, ys, tolds, (Dl, PySem.W.listOf (List.toArray ys) n3) :: tl, rfl, F3, hP6, fo6, N4, fun h hh' => ⟨⟨_, hh' _ (List.mem_append_left _ (.head _)), rfl, _, rfl⟩, hRef h fun x hx => hh' x (List.mem_append_left _ (.tail _ hx))⟩, hto, ?_⟩
    intro p hp
    rcases hp with _ | ⟨_, _ | ⟨_, _ | ⟨_, _ | ⟨_, _ | ⟨_, hp⟩⟩⟩⟩⟩ <;> first | rfl | cases hp
end
end Mine

end
theorem Mine.resetVW8 : True ∧ True := by
  first
  | (walk1; done)
  | exact ⟨trivial, trivial⟩
section
open PySem PySem.W PyProof.Rows PySem.Calls PySem.Spec PyProof.V
set_option maxRecDepth 100000
set_option maxHeartbeats 8000000
namespace Mine
theorem fillitVW9 : (PySem.Challenge.rw_bj0027_01 = PySem.Challenge.rw_bj0027_01 ∧ hd.heap_39 = hd.heap_39) := by k_fill; exact ⟨rfl, rfl⟩
local macro_rules | `(tactic| walk_at "Exists") => `(tactic| (refine Stop.intro ?_))
local macro_rules | `(tactic| walk_at "And") => `(tactic| ((with_reducible show _ = Flow.next ∧ _); refine Stop.intro ?_))
local macro_rules | `(tactic| walk_at "call builtin:sorted") => `(tactic| (k_here; refine Stop.intro ?_))
local macro_rules | `(tactic| walk_at "compareOp NotEq ref ref") => `(tactic| (k_here; refine Stop.intro ?_))
section
variable {w : World} {mean : ExcName → Option Value} {mg mb : Str → Option Value} {B g : Heap} {A : Around} {l : Addr} {ns : List Int} {self sd p q L : Addr} {qual : Str} {scope : Scope} {cdv : Value} {t1 t2 t3 t4 t5 t6 t7 t8 t9 : Stmt} {s : Shared} {m : Str → Option Value} {news : List (Addr × Obj)}
/-- if sorted(told) != sorted(lots): return False -/
theorem law_9 (S : St0 w mean mg mb B g A l ns self sd p q) (hF : LawFn w qual scope cdv t1 t2 t3 t4 t5 t6 t7 t8 t9) {ll kl Dl : Addr} {tys lvs : List Value} {tolds lots : List (List Int)} (hperm : tolds.Perm lots) (hll : lots.length < 64)
    (F : Fr g L s.heap m) (N : News g L s.heap news)
    (hT : ∀ h : Heap, (∀ x ∈ news, h.get? x.1 = some x.2) → LotsH Dl tys tolds h) (hL : ∀ h : Heap, (∀ x ∈ news, h.get? x.1 = some x.2) → LotsH ll lvs lots h)
    (hm : ∀ p ∈ [(Str.ofString "script", Value.ref l), (Str.ofString "made", .ref self), (Str.ofString "lots", .ref ll), (Str.ofString "known", .ref kl)] ++ [(Str.ofString "told", .ref Dl)], m p.1 = some p.2) :
    wpAny (model pr w) (A.deeper (envOfC qual scope L 105 cdv)) (exec t9 (envOfC qual scope L 105 cdv))
      (fun fl s' => fl = .next ∧ ∃ h' tk m', s' = { s with heap := h', toks := tk } ∧ Fr g L h' m' ∧ News g L h' news ∧
        ∀ p ∈ [(Str.ofString "script", Value.ref l), (Str.ofString "made", .ref self), (Str.ofString "lots", .ref ll), (Str.ofString "known", .ref kl)], m' p.1 = some p.2) (fun _ _ => False) s := by
  obtain ⟨oc, od, osl, name, params, dV, kV, doc, pm, ct, an, b1, b2, tgt, it, orelse, brest, fpos, ho⟩ := hF
  refine' use105 (w := w) ?hx ?h
  case hx => k_is
  intro hx
  rw [ho] at hx
  cases hx
  have hGg := St0.Gg S
  obtain ⟨KX', T'⟩ := hGg
  have hh := St0.hh S
  have hd := St0.hd S
  have hu := St0.hu S
  have fr := (St0.B' S).stack
  have F1 := named F _ hm
  clear F ho
  obtain ⟨hp, gs, dr, tk0, oss⟩ := s
  dsimp only at N F1 ⊢
  have hv : ∀ {h : Heap}, News g L h news → ∀ x ∈ news, h.get? x.1 = some x.2 := fun N x hx => (N x hx).1
  obtain ⟨hT1, hT2⟩ := hT hp (hv N)
  have hl1 : tys.length = tolds.length := hT2.length
  change wpAny _ _ _ _ _ _
  simp only [List.cons_append, List.nil_append] at F1
  k_steps
  refine Stop.out ?_
  refine sorted_lots (A := A.deeper _) F1 N hT1 (fun h _ N => (hT h (hv N)).2) (by rw [hl1, hperm.length_eq]; exact hll) (by show A.units + 3 + 10 < cLine; omega) ?_
  intro D1 c1 h1 us1 sl1 F2 N2 hlt1 hp1 ho1 hR1
  have hL1 := (hL h1 (hv (fun x hx => N2 x (.tail _ hx)))).1
  have hL2 := (hL h1 (hv (fun x hx => N2 x (.tail _ hx)))).2
  have hl2 : lvs.length = lots.length := hL2.length
  k_steps
  refine Stop.out ?_
  refine sorted_lots (A := A.deeper _) F2 N2 hL1 (fun h _ N => (hL h (hv (fun x hx => N x (.tail _ hx)))).2) (by rw [hl2]; exact hll) (by show A.units + 3 + 10 < cLine; omega) ?_
  intro D2 c2 h2 us2 sl2 F3 N3 hlt2 hp2 ho2 hR2
  k_steps
  refine Stop.out ?_
  refine ne_LotsL (xs := sl1) (ys := sl2) ⟨_, isList_of N3 (.tail _ (.head _)), hR1 _ F3 (fun x hx => N3 x (.tail _ (.tail _ hx)))⟩ ⟨_, isList_of N3 (.head _), hR2 _ F3 (fun x hx => N3 x (.tail _ hx))⟩ (by show A.units + 3 + 64 < cLine; omega) ?_
  have e : sl1 = sl2 := sortedL_uniq ((hp1.trans hperm).trans hp2.symm) ho1 ho2
  rw [decide_eq_true e, Bool.not_true]
  k_steps
  refine Stop.out ?_
  refine ⟨rfl, h2, _, _, rfl, F3, fun x hx => N3 x (.tail _ (.tail _ hx)), ?_⟩
  intro p hp
  rcases hp with _ | ⟨_, _ | ⟨_, _ | ⟨_, _ | ⟨_, hp⟩⟩⟩⟩ <;> first | rfl | cases hp
end
end Mine

end
theorem Mine.resetVW9 : True ∧ True := by
  first
  | (walk1; done)
  | exact ⟨trivial, trivial⟩
section
open PySem PySem.W PyProof.Rows PySem.Calls PySem.Spec PyProof.V
set_option maxRecDepth 100000
set_option maxHeartbeats 8000000
namespace Mine
theorem fillitVWA : (PySem.Challenge.rw_bj0027_01 = PySem.Challenge.rw_bj0027_01 ∧ hd.heap_39 = hd.heap_39) := by k_fill; exact ⟨rfl, rfl⟩
theorem Fo.mono {ks : List Int} {rt : Int → Int} {D D' : Nat} {P W : List (Int × Int)} (f : Fo ks rt D P W) (h : D ≤ D') : Fo ks rt D' P W :=
  ⟨f.keys, fun x hx => let ⟨n, hn, u⟩ := f.up x hx; ⟨n, Nat.le_trans hn h, u⟩, f.wts, f.wlen⟩
/-- the code that union's lambda has been given -/
def TabG (g : Heap) (ps : Array Value) (tail : List (Addr × Obj)) : Prop := ps = #[] ∨ ∃ c' oc vs t, ps = #[rawInt 43, rawInt 60, .ref c'] ∧ ((c', oc) ∈ tail ∨ g.get? c' = some oc) ∧ oc.data = .fields vs ∧ vs[1]? = some (.str (Str.ofString "UnionFind.union" ++ ".<locals>." ++ "<lambda>") t)
theorem TabG.mono {g : Heap} {ps : Array Value} {a b : List (Addr × Obj)} (x : TabG g ps a) (h : ∀ y ∈ a, y ∈ b) : TabG g ps b := by
  rcases x with e | ⟨c', oc, vs, t, e, hc, r⟩
  · exact .inl e
  · exact .inr ⟨c', oc, vs, t, e, hc.imp (h _) id, r⟩
theorem TabG.ok {g h : Heap} {L : Addr} {m : Str → Option Value} {ps : Array Value} {a mu : List (Addr × Obj)} (x : TabG g ps a) (F : Fr g L h m) (Na : News g L h a) (Nm : News g L h mu) (off : ∀ y ∈ a, y.1 ∉ mu.map (·.1)) : TabOk ps h (mu.map (·.1)) := by
  rcases x with e | ⟨c', oc, vs, t, e, hc, r⟩
  · exact .inl e
  · refine .inr ⟨c', oc, vs, t, e, ?_, ?_, r⟩
    · rcases hc with hc | hc
      · exact off _ hc
      · intro hm
        obtain ⟨y, hy, e'⟩ := List.mem_map.mp hm
        rw [← e', (Nm y hy).2.2] at hc; cases hc
    · rcases hc with hc | hc
      · exact (Na _ hc).1
      · exact F.keep _ _ hc
theorem TabOk.g {g h : Heap} {L : Addr} {m : Str → Option Value} {ps : Array Value} {mu : List Addr} (x : TabOk ps h mu) (F : Fr g L h m) : ∃ nw, TabG g ps nw ∧ (∀ y ∈ nw, h.get? y.1 = some y.2 ∧ y.1 ≠ L ∧ g.get? y.1 = none ∧ y.1 ∉ mu ∧ ∃ vs u t, y.2.data = .fields vs ∧ vs[1]? = some (.str u t)) := by
  rcases x with e | ⟨c', oc, vs, t, e, hc, hg, hd, ht⟩
  · exact ⟨[], .inl e, fun _ h => nomatch h⟩
  · cases q : g.get? c' with
    | some o =>
      have := F.keep _ _ q
      rw [hg] at this; cases this
      exact ⟨[], .inr ⟨c', oc, vs, t, e, .inr q, hd, ht⟩, fun _ h => nomatch h⟩
    | none =>
      refine ⟨[(c', oc)], .inr ⟨c', oc, vs, t, e, .inl (.head _), hd, ht⟩, fun y hy => ?_⟩
      rw [List.mem_singleton.mp hy]
      refine ⟨hg, fun e' => ?_, q, hc, vs, _, t, hd, ht⟩
      obtain ⟨o, es, ep, ho, hdo, _⟩ := F.ns
      rw [← e'] at ho
      rw [show h.get? c' = some oc from hg] at ho; cases ho
      rw [hd] at hdo; cases hdo
/-- behind a call that may have looked at the frame -/
theorem afterL {g h h' : Heap} {L : Addr} {m : Str → Option Value} {mu mu' rest : List (Addr × Obj)} (F : Fr g L h m) (N : News g L h (mu ++ rest)) (hr : ∀ p ∈ rest, p.1 ∉ mu.map (·.1)) (e : Ext (mu.map (·.1) ++ [L]) h h') (hL : ∀ o, h.get? L = some o → ∃ sl, h'.get? L = some { o with slots := sl })
    (nw : ∀ p ∈ mu', h'.get? p.1 = some p.2 ∧ (p.1 ∈ mu.map (·.1) ∨ h.get? p.1 = none)) : Fr g L h' m ∧ News g L h' (mu' ++ rest) := by
  have nm : ∀ b o, g.get? b = some o → b ∉ mu.map (·.1) ++ [L] := fun b o e q => by
    rcases List.mem_append.mp q with q | q
    · obtain ⟨p, hp, rfl⟩ := List.mem_map.mp q
      rw [(N p (List.mem_append_left _ hp)).2.2] at e; cases e
    · rw [List.mem_singleton.mp q] at e
      exact absurd (Heap.lt_size e) (Nat.not_lt.mpr F.above)
  have hns : h'.Ns L m := by
    obtain ⟨o, es, ep, ho, r⟩ := F.ns
    obtain ⟨sl, hs⟩ := hL o ho
    exact ⟨_, es, ep, hs, r⟩
  refine ⟨⟨hns, fun b o q => e b o (nm b o q) (F.keep b o q), F.above⟩, fun p hp => ?_⟩
  rcases List.mem_append.mp hp with hp | hp
  · obtain ⟨h1, h2⟩ := nw p hp
    refine ⟨h1, ?_⟩
    rcases h2 with h2 | h2
    · obtain ⟨q, hq, e'⟩ := List.mem_map.mp h2
      rw [← e']; exact (N q (List.mem_append_left _ hq)).2
    · refine ⟨fun e' => ?_, ?_⟩
      · obtain ⟨o, _, _, ho, _⟩ := F.ns
        rw [e', ho] at h2; cases h2
      · cases q : g.get? p.1 with
        | none => rfl
        | some o => rw [F.keep _ _ q] at h2; cases h2
  · refine ⟨e _ _ (fun q => ?_) (N p (List.mem_append_right _ hp)).1, (N p (List.mem_append_right _ hp)).2⟩
    rcases List.mem_append.mp q with q | q
    · exact hr p hp q
    · exact (N p (List.mem_append_right _ hp)).2.1 (List.mem_singleton.mp q)
/-- what the turn's asking comes to -/
def L4Out (w : World) (g : Heap) (L l ll kl self sd p q : Addr) (u1 u2 : Tok) (n : Nat) (rest : List (Addr × Obj)) (ps : Array Value) (ks : List Int) (rt : Int → Int) (D : Nat) (s : Shared) (fl : Flow) (s' : Shared) : Prop :=
  fl = .next ∧ ∃ h' tk d m' oS' ps' oP' oW' P' W' rt' es evs eb ec nw, s' = { s with heap := h', toks := tk, drawn := d } ∧ Fr g L h' m' ∧
    News g L h' ((L + 1, oS') :: (59, tabObj ps') :: (p, oP') :: (q, oW') :: (self, instObj 65 sd) :: (sd, sdObj w p q u1 u2 n) :: (nw ++ rest)) ∧ oS'.data = .cell (some (.ref eb)) ∧ (eb, PySem.W.listOf (List.toArray evs) ec) ∈ nw ++ rest ∧ IntsAre evs es ∧
    es.length ≤ 4 ∧ (∀ e ∈ es, 0 ≤ e ∧ e < 9) ∧ UnR ks rt es rt' ∧ DictI w oP' P' ∧ DictI w oW' W' ∧ Fo (addAll ks rt es).1 rt' (D + 1) P' W' ∧ (TabG g ps' nw ∨ ps' = ps) ∧ (∀ x ∈ nw, x.1 ∉ [L + 1, 59, p, q, self, sd]) ∧ (∀ x ∈ nw, (∀ y ∈ rest, @Ne Nat y.1 x.1) ∨ ∃ vs u t, x.2.data = .fields vs ∧ vs[1]? = some (.str u t)) ∧
    ∀ p ∈ [(Str.ofString "script", Value.ref l), (Str.ofString "made", .ref self), (Str.ofString "lots", .ref ll), (Str.ofString "known", .ref kl)], m' p.1 = some p.2
end Mine

end
theorem Mine.resetVWA : True ∧ True := by
  first
  | (walk1; done)
  | exact ⟨trivial, trivial⟩
section
open PySem PySem.W PyProof.Rows PySem.Calls PySem.Spec PyProof.V
set_option maxRecDepth 100000
set_option maxHeartbeats 8000000
namespace Mine
section
variable {w : World} {A : Around} {E : Value → Shared → Prop} {s : Shared} {R : Result → Shared → Prop}
theorem compTurn_two0 (elt t1 i1 t2 i2 : Expr) (ifs : List Expr) (scope : Scope) (pos : Pos) (it acc : Value) (env : Env) :
    compTurn (.ListComp elt [⟨t1, i1, [], 0⟩, ⟨t2, i2, ifs, 0⟩] scope pos) 0 it acc env = (standAt i1.pos >>= fun _ => pyNext it >>= fun r => match r with
      | none => pure (.done .next)
      | some v => letOwnedTupleGo t1 it v >>= fun _ => assign t1 env v >>= fun _ =>
        eval i2 env >>= fun x => standAt i2.pos >>= fun _ => foldedSetIterable i2 env x >>= fun x => holding [x] (pyIter x) >>= fun it' => runOwn (.compStart (.ListComp elt [⟨t1, i1, [], 0⟩, ⟨t2, i2, ifs, 0⟩] scope pos) 1 it' acc env) env >>= fun _ =>
          again (.compLoop (.ListComp elt [⟨t1, i1, [], 0⟩, ⟨t2, i2, ifs, 0⟩] scope pos) 0 it acc env)) := by
  unfold compTurn
  simp
  first
    | rfl
    | (congr 1; funext _; congr 1; funext r; cases r <;> rfl)
theorem compTurn_two1 (elt t1 i1 t2 i2 : Expr) (ifs : List Expr) (scope : Scope) (pos : Pos) (it acc : Value) (env : Env) :
    compTurn (.ListComp elt [⟨t1, i1, [], 0⟩, ⟨t2, i2, ifs, 0⟩] scope pos) 1 it acc env = (do
      standAt i2.pos
      match ← pyNext it with
      | none => pure (.done .next)
      | some v =>
        letOwnedTupleGo t2 it v
        assign t2 env v
        let mut ok := true
        for c in ifs do
          if ok then ok ← isTrue c env (eval c env)
        if ok then
          (do let _ ← call (.builtin "list.append") [acc, ← eval elt env])
        again (.compLoop (.ListComp elt [⟨t1, i1, [], 0⟩, ⟨t2, i2, ifs, 0⟩] scope pos) 1 it acc env)) := by rfl
theorem comp2_outer {elt t1 i1 t2 i2 : Expr} {ifs : List Expr} {scope : Scope} {pos : Pos} {it acc : Value} {env : Env} (I : Nat → Shared → Prop)
    (turn : ∀ n s, I n s → wpAny (model pr w) A (pyNext it) (fun r s₁ => match r with
      | none => R (.ok .next) s₁
      | some v => wpAny (model pr w) A (assign t1 env v) (fun _ s₂ => wpAny (model pr w) A (eval i2 env) (fun x s₃ => wpAny (model pr w) A (pyIter x) (fun it' s₄ =>
          codeAny (model pr w) A (.compStart (.ListComp elt [⟨t1, i1, [], 0⟩, ⟨t2, i2, ifs, 0⟩] scope pos) 1 it' acc env) (fun r s₅ => match r with
            | .ok _ => ∃ m, m < n ∧ I m s₅
            | .error _ => False) s₄) (fun _ _ => False) s₃) (fun _ _ => False) s₂) (fun _ _ => False) s₁) (fun _ _ => False) s)
    (n : Nat) (h : I n s) (ht : ∀ v, letOwnedTupleGo t1 it v = pure () := by intro _; rfl) (hs : ∀ x, foldedSetIterable i2 env x = pure x := by intro _; rfl) :
    codeAny (model pr w) A (.compLoop (.ListComp elt [⟨t1, i1, [], 0⟩, ⟨t2, i2, ifs, 0⟩] scope pos) 0 it acc env) R s := by
  refine comp_turns I (fun n s hI => ?_) n h
  rw [compTurn_two0]
  refine wpAny_bind (wpAny_standAt (thenF (turn n s hI) fun r s₁ h₁ => ?_))
  match r, h₁ with
  | none, h₁ => exact wpAny_pure h₁
  | some v, h₁ =>
    refine wpAny_bind (wpAny_of_eq (ht v) (thenF h₁ fun _ _ h₂ => thenF h₂ fun x _ h₃ => ?_))
    refine wpAny_bind (wpAny_standAt (wpAny_bind (wpAny_of_eq (hs x) (wpAny_bind (wpAny_holding (wpAny_mono h₃ (fun it' s₄ h₄ => ?_) fun _ _ e => e.elim))))))
    refine wpAny_bind (wpAny_runOwn ?_)
    rw [Around.mark_none]
    exact codeAny_mono h₄ fun r _ h₅ => match r, h₅ with
      | .ok _, h₅ => wpAny_pure ⟨rfl, h₅⟩
      | .error _, h₅ => h₅.elim
theorem comp2_inner {elt t1 i1 t2 i2 : Expr} {ifs : List Expr} {scope : Scope} {pos : Pos} {it acc : Value} {env : Env} (I : Nat → Shared → Prop)
    (turn : ∀ n s, I n s → wpAny (model pr w) A (pyNext it) (fun r s₁ => match r with
      | none => R (.ok .next) s₁
      | some v => wpAny (model pr w) A (assign t2 env v) (fun _ s₂ =>
          wpAny (model pr w) A (forIn ifs true fun c r => if r = true then do let ok ← isTrue c env (eval c env); pure (ForInStep.yield ok) else pure (ForInStep.yield r)) (fun ok s₃ =>
            if ok = true then wpAny (model pr w) A (eval elt env) (fun x s₄ =>
              wpAny (model pr w) A (call (.builtin "list.append") [acc, x]) (fun _ s₅ => ∃ m, m < n ∧ I m s₅) (fun _ _ => False) s₄) (fun _ _ => False) s₃
            else ∃ m, m < n ∧ I m s₃) (fun _ _ => False) s₂) (fun _ _ => False) s₁) (fun _ _ => False) s)
    (n : Nat) (h : I n s) (ht : ∀ v, letOwnedTupleGo t2 it v = pure () := by intro _; rfl) :
    codeAny (model pr w) A (.compLoop (.ListComp elt [⟨t1, i1, [], 0⟩, ⟨t2, i2, ifs, 0⟩] scope pos) 1 it acc env) R s := by
  refine comp_turns I (fun n s hI => ?_) n h
  rw [compTurn_two1]
  refine wpAny_bind (wpAny_standAt (thenF (turn n s hI) fun r s₁ h₁ => ?_))
  match r, h₁ with
  | none, h₁ => exact wpAny_pure h₁
  | some v, h₁ =>
    refine wpAny_bind (wpAny_of_eq (ht v) (thenF h₁ fun _ _ h₂ => thenF h₂ fun ok _ h₃ => ?_))
    match ok, h₃ with
    | false, h₃ => exact wpAny_pure ⟨rfl, h₃⟩
    | true, h₃ => exact wpAny_bind (thenF h₃ fun _ _ h₄ => thenF h₄ fun _ _ h₅ => wpAny_pure (wpAny_pure ⟨rfl, h₅⟩))
end
end Mine

end
theorem Mine.resetVWC : True ∧ True := by
  first
  | (walk1; done)
  | exact ⟨trivial, trivial⟩
section
open PySem PySem.W PyProof.Rows PySem.Calls PySem.Spec PyProof.V
set_option maxRecDepth 100000
set_option maxHeartbeats 8000000
namespace Mine
section
variable {w : World} {A : Around} {E : Value → Shared → Prop} {s : Shared} {R : Result → Shared → Prop}
theorem inner2 {iter i2 c : Expr} {x1 x2 : Str} {p1 p2 p4 pos : Pos} {scope : Scope} {cenv : Env} {G h0 : Heap} {I I' D b : Addr} {items : Array Value} {ys0 : List Value} {m0 : Str → Option Value} {v1 : Value} {oI : Obj} {bp : Bool} {tk0 : Nat}
    (hh : A.handled = none) (hx2 : cenv.kindOf x2 = some .local) (hk : cenv.scope.kind = .function) (hp : (cenv.scope.kind == .class || (cenv.scope.kind == .module && cenv.locals != cenv.globals)) = false) (hxd : (x2 == ("__debug__" : Str)) = false) (x12 : x1 ≠ x2)
    (hl : G.IsList b items) (F : Fr G cenv.locals h0 m0) (hm0 : m0 x1 = some v1) (hI : h0.get? I = some oI) (hI' : h0.IsListIter I' b 0) (hD : h0.PlainList D ys0.toArray)
    (n1 : I' ≠ cenv.locals) (n2 : I' ≠ I) (n3 : I' ≠ D) (n4 : I ≠ cenv.locals) (n5 : D ≠ cenv.locals) (n6 : I ≠ D) (hI'g : G.get? I' = none) (hDg : G.get? D = none)
    (hsz : ys0.length + items.size ≤ sizeLine)
    (test : ∀ h m tk (i : Nat) v, items[i]? = some v → Fr G cenv.locals h m → m x1 = some v1 → m x2 = some v →
      wpAny (model pr w) A (isTrue c cenv (eval c cenv)) (fun ok s' => ok = bp ∧ ∃ tk', s' = { s with heap := h, toks := tk' }) (fun _ _ => False) { s with heap := h, toks := tk })
    (done : ∀ h' tk m, Fr G cenv.locals h' m → h'.get? I = some oI → h'.PlainList D (ys0 ++ if bp = true then items.toList else []).toArray → R (.ok .next) { s with heap := h', toks := tk }) :
    codeAny (model pr w) A (.compLoop (.ListComp (.Name x2 p4) [⟨.Name x1 p1, iter, [], 0⟩, ⟨.Name x2 p2, i2, [c], 0⟩] scope pos) 1 (.ref I') (.ref D) cenv) R { s with heap := h0, toks := tk0 } := by
  obtain ⟨ol, hol, hol2⟩ := id hl
  have hbI' : b ≠ I' := fun e => by rw [e, hI'g] at hol; cases hol
  have gI' : ∀ b o, G.get? b = some o → b ≠ I' := fun b o e q => by rw [q, hI'g] at e; cases e
  have gD : ∀ b o, G.get? b = some o → b ≠ D := fun b o e q => by rw [q, hDg] at e; cases e
  refine comp2_inner (fun k s' => ∃ h' tk m i, s' = { s with heap := h', toks := tk } ∧ Fr G cenv.locals h' m ∧ m x1 = some v1 ∧ h'.get? I = some oI ∧ h'.IsListIter I' b i ∧ h'.PlainList D (ys0 ++ if bp = true then items.toList.take i else []).toArray ∧ i ≤ items.size ∧ k = items.size + 1 - i) ?_ (items.size + 1)
    ⟨h0, tk0, m0, 0, rfl, F, hm0, hI, hI', by simpa using hD, Nat.zero_le _, rfl⟩
  rintro k s' ⟨h', tk, m, i, rfl, F', hm', hI₁, hit, hD', hi, rfl⟩
  have hl' : h'.IsList b items := ⟨ol, F'.keep b ol hol, hol2⟩
  cases hv : items[i]? with
  | none =>
    have hin : i = items.size := by
      have := Array.getElem?_eq_none_iff.mp hv
      omega
    subst hin
    refine wpAny_pyNext_list_end hh hit hl' hv fun h₁ he₁ => ?_
    have e : items.toList.take items.size = items.toList := List.take_of_length_le (by simp)
    rw [e] at hD'
    exact done h₁ _ m ⟨F'.ns.at' fun o e => he₁ _ o (Ne.symm n1) e, fun b o e => he₁ b o (gI' b o e) (F'.keep b o e), F'.above⟩ (he₁ _ _ (Ne.symm n2) hI₁) (hD'.extBut he₁ (Ne.symm n3))
  | some v =>
    have hlt : i < items.size := (Array.getElem?_eq_some_iff.mp hv).1
    refine wpAny_pyNext_list_item hit hl' hv fun h₁ hit₁ hs₁ => ?_
    have F₁ : Fr G cenv.locals h₁ m := ⟨F'.ns.sameBut hs₁ (Ne.symm n1), fun b o e => hs₁.extBut b o (gI' b o e) (F'.keep b o e), F'.above⟩
    have hD₁ := hD'.extBut hs₁.extBut (Ne.symm n3)
    refine wpAny_assign_Name (wpAny_storeName_local hx2 F₁.ns (fun h₂ hn₂ hs₂ => ?_) hp)
    have F₂ := F₁.set hn₂ hs₂
    have hm₂ : (fun y => if y = x2 then some v else m y) x1 = some v1 := by
      show (if x1 = x2 then _ else _) = _
      rw [if_neg x12]; exact hm'
    have hmx : (fun y => if y = x2 then some v else m y) x2 = some v := by
      show (if x2 = x2 then _ else _) = _
      rw [if_pos rfl]
    have hI₂ : h₂.get? I = some oI := hs₂.extBut _ _ n4 (hs₁.extBut _ _ (Ne.symm n2) hI₁)
    have hit₂ : h₂.IsListIter I' b (i + 1) := hit₁.at fun o e => hs₂.extBut _ _ n1 e
    have hD₂ := hD₁.extBut hs₂.extBut n5
    have hli : (items.toList)[i]? = some v := by simpa using hv
    refine wpAny_tests_one (wpAny_mono (test h₂ _ _ i v hv F₂ hm₂ hmx) (fun ok s₃ h₃ => ?_) fun _ _ e => e)
    obtain ⟨rfl, tk₃, rfl⟩ := h₃
    cases ok with
    | false =>
      simp only [Bool.false_eq_true, if_false] at hD₂ ⊢
      exact ⟨items.size + 1 - (i + 1), by omega, h₂, tk₃, _, i + 1, rfl, F₂, hm₂, hI₂, hit₂, by simpa using hD₂, hlt, rfl⟩
    | true =>
      simp only [if_true] at hD₂ ⊢
      refine wpAny_Name (wpAny_loadName_local hk hx2 F₂.ns hmx ?_) hxd
      have hlen : (ys0 ++ items.toList.take i).toArray.size ≤ sizeLine := by
        simp
        omega
      refine wpAny_list_append_plain (hsz := hlen) hD₂ fun h₅ hl₅ hs₅ => ?_
      have hy : (ys0 ++ items.toList.take (i + 1)).toArray = (ys0 ++ items.toList.take i).toArray.push v := by
        rw [List.take_add_one, hli]
        simp
      refine ⟨items.size + 1 - (i + 1), by omega, h₅, _, _, i + 1, rfl, ⟨F₂.ns.sameBut hs₅ (Ne.symm n5), fun b o e => hs₅.extBut b o (gD b o e) (F₂.keep b o e), F₂.above⟩, hm₂, hs₅.extBut _ _ n6 hI₂, hit₂.at fun o e => hs₅.extBut _ _ n3 e, by rw [hy]; exact hl₅, hlt, rfl⟩
end
end Mine

end
theorem Mine.resetVWD : True ∧ True := by
  first
  | (walk1; done)
  | exact ⟨trivial, trivial⟩
section
open PySem PySem.W PyProof.Rows PySem.Calls PySem.Spec PyProof.V
set_option maxRecDepth 100000
set_option maxHeartbeats 8000000
namespace Mine
section
variable {w : World} {A : Around} {E : Value → Shared → Prop} {s : Shared} {env : Env} {g₀ : Heap} {L : Addr} {m : Str → Option Value} {iter c : PySem.Expr} {x1 x2 : Str} {p1 p2 p3 p4 pos : Pos} {scope : Scope} {cl : List (Str × Addr)}
theorem filter_flat_snoc {bp : List Int → Bool} {lots : List (List Int)} {j : Nat} {lot : List Int} (h : lots[j]? = some lot) : ((lots.take (j + 1)).filter bp).flatten = ((lots.take j).filter bp).flatten ++ if bp lot = true then lot else [] := by
  rw [List.take_add_one, h, List.filter_append, List.flatten_append]
  congr 1
  cases e : bp lot <;> simp [e]
theorem blk2 {Q : Value → Shared → Prop} {l : Addr} {vs : List Value} {lots : List (List Int)} (bp : List Int → Bool)
    (hh : A.handled = none) (F : Fr g₀ L s.heap m) (hl : s.heap.IsList l vs.toArray) (hR : RefsAre s.heap vs lots) (hfl : lots.flatten.length ≤ 90) (hll : lots.length ≤ 90)
    (test : ∀ (h : Heap) C m tk lot b a t, Fr s.heap C h m → m x1 = some (.ref b) → m x2 = some (.int a t) → IntL s.heap b lot →
      wpAny (model pr w) A (isTrue c (compEnvC scope cl C env) (eval c (compEnvC scope cl C env))) (fun ok s' => ok = bp lot ∧ ∃ tk', s' = { s with heap := h, toks := tk' }) (fun _ _ => False) { s with heap := h, toks := tk })
    (done : ∀ D n ws h' tk, Ext [] s.heap h' → Fr g₀ L h' m → h'.get? D = some (PySem.W.listOf (List.toArray ws) n) → s.heap.get? D = none → IntsAre ws (lots.filter bp).flatten → Q (.ref D) { s with heap := h', toks := tk })
    (hcell : ∀ y ∈ scope.names, y.2 ≠ .cell) (hkind : scope.kind = .function) (hx1 : scope.names.lookup x1 = some .local) (hx2 : scope.names.lookup x2 = some .local) (x12 : x1 ≠ x2) (hxd1 : (x1 == ("__debug__" : Str)) = false) (hxd2 : (x2 == ("__debug__" : Str)) = false) :
    wpAny (model pr w) A (pyIter (.ref l)) (fun it s₂ => wpAny (model pr w) A (newList []) (fun acc s₃ => wpAny (model pr w) A (newFunctionEnv scope env.globals cl [] env.qual none .none (some env)) (fun cenv s₄ =>
      codeAny (model pr w) A (.compStart (.ListComp (.Name x2 p4) [⟨.Name x1 p1, iter, [], 0⟩, ⟨.Name x2 p2, .Name x1 p3, [c], 0⟩] scope pos) 0 it acc { cenv with scope := relabel scope env }) (compPost (model pr w) A E none Q acc cenv.locals) s₄) E s₃) E s₂) E s := by
  refine wpAny_pyIter_list hl (wpAny_newObj_type (wpAny_newFunctionEnv hcell (by intro y hy; simp at hy) (fun h₁ hns₁ hsb₁ => ?_) hkind))
  dsimp only at hns₁ hsb₁ ⊢
  generalize hH1 : s.heap.push { cls := .type "list_iterator", data := .fields #[.ref l, .int 0 0] } = H1 at hns₁ hsb₁ ⊢
  have hD : H1.objs.size = s.heap.objs.size + 1 := by rw [← hH1, Heap.size_push]
  generalize hH2 : H1.push { cls := .type "list", dict := none, data := .seq ([] : List Value).toArray } = H2 at hns₁ hsb₁ ⊢
  have hC : H2.objs.size = s.heap.objs.size + 2 := by rw [← hH2, Heap.size_push, hD]
  have hDI : H1.objs.size ≠ s.heap.objs.size := by rw [hD]; exact Nat.succ_ne_self _
  have hDC : H1.objs.size ≠ H2.objs.size := by rw [hD, hC]; exact Nat.ne_of_lt (Nat.lt_succ_self _)
  have hIC : s.heap.objs.size ≠ H2.objs.size := by rw [hC]; exact Nat.ne_of_lt (Nat.lt_succ_of_lt (Nat.lt_succ_self _))
  have old : ∀ b o, s.heap.get? b = some o → h₁.get? b = some o := fun b o e => by
    exact hsb₁.extBut b o (by rw [hC]; exact Nat.ne_of_lt (Nat.lt_of_lt_of_le (Heap.lt_size e) (Nat.le_add_right _ _))) (Heap.get?_push_of_some _ (hH2 ▸ Heap.get?_push_of_some _ (hH1 ▸ Heap.get?_push_of_some _ e)))
  have hit : h₁.IsListIter s.heap.objs.size l 0 :=
    ⟨_, hsb₁.extBut _ _ hIC (Heap.get?_push_of_some _ (hH2 ▸ Heap.get?_push_of_some _ (hH1 ▸ Heap.get?_push_size _ rfl))), rfl, rfl⟩
  have hacc : h₁.PlainList H1.objs.size #[] := ⟨_, hsb₁.extBut _ _ hDC (Heap.get?_push_of_some _ (hH2 ▸ Heap.get?_push_size _ rfl))⟩
  have fresh : ∀ a, s.heap.objs.size ≤ a → s.heap.get? a = none := fun a ha => by
    cases e : s.heap.get? a with
    | none => rfl
    | some o' => exact absurd (Heap.lt_size e) (Nat.not_lt.mpr ha)
  have hIg := fresh _ (Nat.le_refl _)
  have hDg := fresh H1.objs.size (by rw [hD]; exact Nat.le_succ _)
  have gI : ∀ b o, s.heap.get? b = some o → b ≠ s.heap.objs.size := fun b o e => Nat.ne_of_lt (Heap.lt_size e)
  have hC1 : (compEnvC scope cl H2.objs.size env).kindOf x1 = some .local := lookup_relabel_local hx1
  have hC2 : (compEnvC scope cl H2.objs.size env).kindOf x2 = some .local := lookup_relabel_local hx2
  have hk2 : (compEnvC scope cl H2.objs.size env).scope.kind = .function := by simp [compEnvC, relabel, hkind]
  have hp2 : ((compEnvC scope cl H2.objs.size env).scope.kind == .class || ((compEnvC scope cl H2.objs.size env).scope.kind == .module && (compEnvC scope cl H2.objs.size env).locals != (compEnvC scope cl H2.objs.size env).globals)) = false := by rw [hk2]; rfl
  have hvl : vs.length = lots.length := hR.length
  have hsl : 4096 ≤ sizeLine := by decide
  have loop : ∀ s₃ : Shared, s₃ = { s with heap := h₁, toks := s.toks + ([] : List (Str × Value)).length } →
      codeAny (model pr w) A (.compLoop (.ListComp (.Name x2 p4) [⟨.Name x1 p1, iter, [], 0⟩, ⟨.Name x2 p2, .Name x1 p3, [c], 0⟩] scope pos) 0 (.ref s.heap.objs.size) (.ref H1.objs.size) (compEnvC scope cl H2.objs.size env))
        (compPost (model pr w) A E none Q (.ref H1.objs.size) H2.objs.size) s₃ := by
    rintro s₃ rfl
    refine comp2_outer (fun k s' => ∃ h' tk m' j ys, s' = { s with heap := h', toks := tk } ∧ Fr s.heap H2.objs.size h' m' ∧ h'.IsListIter s.heap.objs.size l j ∧ h'.PlainList H1.objs.size (List.toArray ys) ∧ IntsAre ys ((lots.take j).filter bp).flatten ∧ j ≤ vs.length ∧ k = vs.length + 1 - j) ?_ (vs.length + 1)
      ⟨h₁, _, _, 0, [], rfl, ⟨hns₁, old, by rw [hC]; exact Nat.le_add_right _ _⟩, hit, hacc, by simpa using IntsAre.nil, Nat.zero_le _, rfl⟩
    rintro k s' ⟨h', tk, m', j, ys, rfl, F', hit', hD', hys, hj, rfl⟩
    have hl' : h'.IsList l vs.toArray := let ⟨o, e, r⟩ := hl; ⟨o, F'.keep _ _ e, r⟩
    cases hv : vs[j]? with
    | none =>
      have hin : j = vs.length := by
        have := List.getElem?_eq_none_iff.mp hv
        omega
      subst hin
      refine wpAny_pyNext_list_end hh hit' hl' (by simp) fun h₂ he₂ => ?_
      rw [hvl, List.take_length] at hys
      refine compPost_none (mu := []) (rest := []) (g₀ := g₀) (L := L) (m := m) (h₀ := s.heap) s.heap H2.objs.size H1.objs.size h₂ _ m' ys [] ⟨F, F.keep, Ext.refl, fun _ h => (nomatch h), by rw [hC]; exact Nat.le_add_right _ _, fun _ _ e => e⟩ ⟨F'.ns.at' fun o e => he₂ _ o (Ne.symm hIC) e, fun b o e => he₂ b o (gI b o e) (F'.keep b o e), F'.above⟩ (fun _ h => nomatch h) (hD'.extBut he₂ hDI) hDC hDg (fun _ h => nomatch h) (fun _ h => nomatch h) (by rw [hC]; exact Nat.le_add_right _ _) fun n h'' e1 F1 N1 => ?_
      exact done H1.objs.size n ys h'' _ e1 F1 (N1 _ (.head _)).1 hDg hys
    | some v =>
      have hlt : j < vs.length := (List.getElem?_eq_some_iff.mp hv).1
      obtain ⟨b, lot, rfl, hlot, hbL⟩ := hR.get hv
      obtain ⟨zs, hzl, hzi⟩ := hbL
      refine wpAny_pyNext_list_item hit' hl' (by simpa using hv) fun h₂ hit₂ hs₂ => ?_
      have F₂ : Fr s.heap H2.objs.size h₂ m' := ⟨F'.ns.sameBut hs₂ (Ne.symm hIC), fun b o e => hs₂.extBut b o (gI b o e) (F'.keep b o e), F'.above⟩
      have hD₂ := hD'.extBut hs₂.extBut hDI
      refine wpAny_assign_Name (wpAny_storeName_local hC1 F₂.ns (fun h₃ hn₃ hs₃ => ?_) hp2)
      replace hs₃ : Heap.SameBut H2.objs.size h₂ h₃ := hs₃
      have F₃ := F₂.set hn₃ hs₃
      have hit₃ : h₃.IsListIter s.heap.objs.size l (j + 1) := hit₂.at fun o e => hs₃.extBut _ _ hIC e
      have hD₃ := hD₂.extBut hs₃.extBut hDC
      have hm1 : (fun y => if y = x1 then some (Value.ref b) else m' y) x1 = some (.ref b) := by
        show (if x1 = x1 then _ else _) = _
        rw [if_pos rfl]
      refine blk_local F₃ hm1 ?_ hk2 hC1 hxd1
      have hb₃ : h₃.IsList b zs.toArray := let ⟨o, e, r⟩ := hzl; ⟨o, F₃.keep _ _ e, r⟩
      refine wpAny_pyIter_list hb₃ ?_
      dsimp only
      generalize hH4 : h₃.push { cls := .type "list_iterator", data := .fields #[.ref b, .int 0 0] } = H4
      have old4 : ∀ b o, h₃.get? b = some o → H4.get? b = some o := fun b o e => hH4 ▸ Heap.get?_push_of_some _ e
      have hit4 : H4.IsListIter h₃.objs.size b 0 := ⟨_, hH4 ▸ Heap.get?_push_size _ rfl, rfl, rfl⟩
      obtain ⟨oI, hoI, rI⟩ := hit₃
      obtain ⟨nD, hoD⟩ := hD₃
      have hC3 : @LT.lt Nat _ H2.objs.size h₃.objs.size := F₃.ns.lt
      have hI3 : @LT.lt Nat _ s.heap.objs.size h₃.objs.size := Heap.lt_size hoI
      have hD3 : @LT.lt Nat _ H1.objs.size h₃.objs.size := Heap.lt_size hoD
      have hlen : ys.length + zs.toArray.size ≤ sizeLine := by
        have h1 : ys.length ≤ 90 := by
          rw [hys.length]
          refine Nat.le_trans (filter_flat _) (Nat.le_trans ?_ hfl)
          conv => rhs; rw [← List.take_append_drop j lots, List.flatten_append, List.length_append]
          exact Nat.le_add_right _ _
        have h2 : zs.length ≤ 90 := by
          rw [hzi.length]
          refine Nat.le_trans ?_ hfl
          obtain ⟨a, r, e⟩ := List.append_of_mem (List.mem_of_getElem? hlot)
          rw [e, List.flatten_append, List.flatten_cons, List.length_append, List.length_append]
          omega
        simp; omega
      have F4 : Fr s.heap H2.objs.size H4 (fun y => if y = x1 then some (Value.ref b) else m' y) := ⟨F₃.ns.at' fun o e => old4 _ _ e, fun b o e => old4 _ _ (F₃.keep b o e), F₃.above⟩
      have inner : ∀ tkk, codeAny (model pr w) A (.compLoop (.ListComp (.Name x2 p4) [⟨.Name x1 p1, iter, [], 0⟩, ⟨.Name x2 p2, .Name x1 p3, [c], 0⟩] scope pos) 1 (.ref h₃.objs.size) (.ref H1.objs.size) (compEnvC scope cl H2.objs.size env))
          (fun r s₅ => match r with
            | .ok _ => ∃ m, m < vs.length + 1 - j ∧ ∃ h' tk m' j' ys, s₅ = { s with heap := h', toks := tk } ∧ Fr s.heap H2.objs.size h' m' ∧ h'.IsListIter s.heap.objs.size l j' ∧ h'.PlainList H1.objs.size (List.toArray ys) ∧ IntsAre ys ((lots.take j').filter bp).flatten ∧ j' ≤ vs.length ∧ m = vs.length + 1 - j'
            | .error _ => False) { s with heap := H4, toks := tkk } := by
        intro tkk
        refine inner2 (cenv := compEnvC scope cl H2.objs.size env) (bp := bp lot) (G := s.heap) (I := s.heap.objs.size) (oI := oI) (items := zs.toArray) (ys0 := ys) (b := b) hh hC2 hk2 hp2 hxd2 x12 hzl F4 hm1 (old4 _ _ hoI) hit4 ⟨nD, old4 _ _ hoD⟩ (Nat.ne_of_gt hC3) (Nat.ne_of_gt hI3) (Nat.ne_of_gt hD3) hIC hDC (Ne.symm hDI) (fresh _ (Nat.le_of_lt hI3)) hDg hlen ?_ ?_
        · intro h m₂ tk i v hvi F₅ h1 h2
          obtain ⟨a, ta, rfl⟩ : ∃ a ta, v = .int a ta := by
            have hv' : zs[i]? = some v := by simpa using hvi
            have hi : i < lot.length := by rw [← hzi.length]; exact (List.getElem?_eq_some_iff.mp hv').1
            obtain ⟨t, e⟩ := hzi.get i (lot[i]'hi) (List.getElem?_eq_getElem hi)
            rw [hv'] at e
            exact ⟨_, t, Option.some.inj e⟩
          exact test h _ m₂ tk lot b a ta F₅ h1 h2 ⟨zs, hzl, hzi⟩
        · intro h5 tk5 m5 F5 hI5 hD5
          refine ⟨vs.length + 1 - (j + 1), by omega, h5, tk5, m5, j + 1, ys ++ (if bp lot = true then zs else []), rfl, F5, ⟨oI, hI5, rI⟩, hD5, ?_, hlt, rfl⟩
          rw [filter_flat_snoc hlot]
          cases bp lot with
          | true => exact hys.append hzi
          | false => simpa using hys
      exact comp_begin rfl rfl (inner _) (wpAny_pyIter_listiter hit4 (inner _))
  exact codeAny_compStart_list (loop _ rfl) (wpAny_pyIter_listiter hit (loop _ rfl))
end
end Mine

end
theorem Mine.resetVWE : True ∧ True := by
  first
  | (walk1; done)
  | exact ⟨trivial, trivial⟩
section
open PySem PySem.W PyProof.Rows PySem.Calls PySem.Spec PyProof.V
set_option maxRecDepth 100000
set_option maxHeartbeats 8000000
namespace Mine
theorem fillitVWB : (PySem.Challenge.rw_bj0027_01 = PySem.Challenge.rw_bj0027_01 ∧ hd.heap_39 = hd.heap_39) := by k_fill; exact ⟨rfl, rfl⟩
local macro_rules | `(tactic| walk_at "L4Out") => `(tactic| (refine Stop.intro ?_))
local macro_rules | `(tactic| walk_at "call ref") => `(tactic| (k_here; refine Stop.intro ?_))
local macro_rules | `(tactic| walk_at "storeName") => `(tactic| (k_here; (with_reducible show wpAny _ _ (storeName _ (Str.ofString "some") _) _ _ _); refine Stop.intro ?_))
theorem blk_cell {M : Model} {A : Around} {E : Value → Shared → Prop} {s : Shared} {G : Heap} {C c : Addr} {o : Obj} {m : Str → Option Value} {scope : Scope} {cl : List (Str × Addr)} {env : Env} {x : Str} {pos : Pos} {v : Value} {Q : Value → Shared → Prop} (F : Fr G C s.heap m) (hc : cl.lookup x = some c) (hg : G.get? c = some o) (hd : o.data = .cell (some v)) (h : Q v s)
    (hk : (compEnvC scope cl C env).scope.kind = .function) (hx : (compEnvC scope cl C env).kindOf x = some .cell) (hb : (x == ("__debug__" : Str)) = false := by decide) :
    wpAny M A (eval (.Name x pos) (compEnvC scope cl C env)) Q E s := wpAny_Name (wpAny_loadName_cell hk hx hc ⟨o, F.keep _ _ hg, hd⟩ h) hb
local macro_rules | `(tactic| walk_at "pyIter ref") => `(tactic| (k_here; refine Stop.intro ?_))
local macro_rules | `(tactic| walk_at "compareOp NotIn int ref") => `(tactic| (k_here; refine Stop.intro ?_))
local macro_rules | `(tactic| walk_at "compareOp In int ref") => `(tactic| (k_here; refine Stop.intro ?_))
local macro_rules | `(tactic| walk_at "eval Name") => `(tactic| (k_here; (with_reducible show wpAny _ _ (eval (Expr.Name _ _) (compEnvC _ _ _ _)) _ _ _); refine Stop.intro ?_))
local macro_rules | `(tactic| walk_at "eval ListComp") => `(tactic| (k_here; refine Stop.intro ?_))
section
variable {w : World} {mean : ExcName → Option Value} {mg mb : Str → Option Value} {B g : Heap} {A : Around} {l : Addr} {ns : List Int} {self sd p q L : Addr} {qual : Str} {scope : Scope} {cdv : Value} {t1 t2 t3 t4 t5 t6 t7 t8 t9 : Stmt} {s : Shared} {m : Str → Option Value} {news : List (Addr × Obj)}
theorem law_4 (S : St0 w mean mg mb B g A l ns self sd p q) (hF : LawFn w qual scope cdv t1 t2 t3 t4 t5 t6 t7 t8 t9) {ll kl bs : Addr} {c : Nat} {zvs lvs : List Value} {zs : List Int} {kv : Int} {tkv : Tok} {oS oP oW : Obj} {ps : Array Value} {u1 u2 : Tok} {n : Nat} {P W : List (Int × Int)} {rest : List (Addr × Obj)} {lots : List (List Int)} {ks : List Int} {rt : Int → Int} {D : Nat} (hoS : oS.data = .cell (some (.ref bs))) (hP : DictI w oP P) (hW : DictI w oW W) (fo : Fo ks rt D P W) (hD : D ≤ 900) (hkl : ks.length ≤ 20) (pl : Pl ks rt lots)
    (hz : IntsAre zvs zs) (hz9 : ∀ z ∈ zs, 0 ≤ z ∧ z < 9) (hz1 : 1 ≤ zs.length) (hz4 : zs.length ≤ 4) (hbm : (bs, PySem.W.listOf zvs.toArray c) ∈ rest)
    (hL1 : @Ne Nat p (L + 1) ∧ @Ne Nat q (L + 1) ∧ @Ne Nat self (L + 1) ∧ @Ne Nat sd (L + 1)) (h591 : @Ne Nat 59 (L + 1)) (F : Fr g L s.heap m) (N : News g L s.heap ((L + 1, oS) :: (59, tabObj ps) :: (p, oP) :: (q, oW) :: (self, instObj 65 sd) :: (sd, sdObj w p q u1 u2 n) :: rest)) (off : ∀ x ∈ rest, x.1 ∉ [L + 1, 59, p, q, self, sd]) (tab : TabG g ps rest)
    (hL : ∀ h : Heap, (∀ x ∈ rest, h.get? x.1 = some x.2) → LotsH ll lvs lots h)
    (hm : ∀ p ∈ [(Str.ofString "script", Value.ref l), (Str.ofString "made", .ref self), (Str.ofString "lots", .ref ll), (Str.ofString "known", .ref kl)] ++ [(Str.ofString "kind", .int kv tkv)], m p.1 = some p.2) :
    wpAny (model pr w) (A.deeper (envOfC qual scope L 105 cdv)) (exec t4 (envOfC qual scope L 105 cdv))
      (L4Out w g L l ll kl self sd p q u1 u2 n rest ps ks rt D s) (fun _ _ => False) s := by
  obtain ⟨oc, od, osl, name, params, dV, kV, doc, pm, ct, an, b1, b2, tgt, it, orelse, brest, fpos, ho⟩ := hF
  refine' use105 (w := w) ?hx ?h
  case hx => k_is
  intro hx
  rw [ho] at hx
  cases hx
  have hGg := St0.Gg S
  obtain ⟨KX', T'⟩ := hGg
  have hh := St0.hh S
  have hd := St0.hd S
  have hu := St0.hu S
  have fr := (St0.B' S).stack
  have hp0 := St0.hp0 S
  have F1 := named F _ hm
  clear F ho
  obtain ⟨hp, gs, dr, tk0, oss⟩ := s
  dsimp only at N F1 ⊢
  have NM : News g L hp ((59, tabObj ps) :: ufL w self sd p q u1 u2 n oP oW) := fun x hx => N x (.tail _ (List.mem_append_left rest hx))
  have NR : News g L hp rest := fun x hx => N x (.tail _ (.tail _ (.tail _ (.tail _ (.tail _ (.tail _ hx))))))
  have hTab : TabOk ps hp [59, p, q, self, sd] := TabG.ok (mu := (59, tabObj ps) :: ufL w self sd p q u1 u2 n oP oW) tab F1 NR NM (fun x hx hm => off x hx (.tail _ hm))
  have ltL : ∀ x ∈ (59, tabObj ps) :: ufL w self sd p q u1 u2 n oP oW, @Ne Nat x.1 (L + 1) := fun x hx => by
    rcases List.mem_cons.mp hx with rfl | hx
    · exact h591
    · exact (ufAll (Pr := fun a => @Ne Nat a (L + 1))).mpr hL1 x hx
  have hrM : ∀ x ∈ (L + 1, oS) :: rest, x.1 ∉ ((59, tabObj ps) :: ufL w self sd p q u1 u2 n oP oW).map (·.1) := fun x hx hm => by
    rcases List.mem_cons.mp hx with rfl | hx
    · obtain ⟨y, hy, e⟩ := List.mem_map.mp hm
      exact ltL y hy e
    · exact off x hx (.tail _ hm)
  have NMr : News g L hp (((59, tabObj ps) :: ufL w self sd p q u1 u2 n oP oW) ++ ((L + 1, oS) :: rest)) := fun x hx => N x (by simp only [List.mem_append, List.mem_cons, List.not_mem_nil, or_false] at hx ⊢; grind)
  simp only [List.cons_append, List.nil_append] at F1
  change wpAny _ _ _ _ _ _
  k_steps
  · refine Stop.out ?_
    refine union_spec (vs := []) (os := []) (A := A.deeper _) (outer := [_]) (s := ⟨hp, gs, dr, _, oss⟩) (St0.G S) (Cx.inner (St0.B' S) F1 (Around.frames_deeper fr) (by rfl) (by rfl) hh) (by show A.depth + 1 + 2 < recursionLimit; omega) (by show A.units + 3 + 200 < cLine; omega) (St0.hC S) hP hW (fun x hx => (NM x hx).1) (hB_of S NM) (hf_of NM) hp0 (St0.hq0 S) (St0.hpq S) (St0.hps S) (St0.hpd S) (St0.hqs S) (St0.hqd S) (St0.hsd S) (St0.h59 S) fo (by omega) hD .nil (by decide) hTab ?_
    intro h3 tk3 d3 P' W' oP' oW' ps' rt' hP' hW' hu' fo' hT' hmu' e3 hsl
    have e3' : Ext (((59, tabObj ps) :: ufL w self sd p q u1 u2 n oP oW).map (·.1) ++ [L]) hp h3 := by
      have := e3
      rw [if_pos rfl] at this
      exact this
    obtain ⟨F3, N3⟩ := afterL (mu := (59, tabObj ps) :: ufL w self sd p q u1 u2 n oP oW) (mu' := (59, tabObj ps') :: ufL w self sd p q u1 u2 n oP' oW') (rest := (L + 1, oS) :: rest) F1 NMr hrM e3' (fun o ho => hsl L (.head _) o ho) (fun x hx => ⟨hmu' x hx, .inl (by
      rcases List.mem_cons.mp hx with rfl | hx
      · exact .head _
      · exact .tail _ (List.mem_map_of_mem (f := (·.1)) hx))⟩)
    obtain ⟨nwT, hTg, hnT⟩ := TabOk.g hT' F3
    have hS3 := N3 (L + 1, oS) (List.mem_append_right _ (.head _))
    have offT : ∀ x ∈ nwT, x.1 ∉ [L + 1, 59, p, q, self, sd] := fun x hx hm => by
      obtain ⟨a1, a2, a3, a4, vs, u, t, a5, a6⟩ := hnT x hx
      rcases List.mem_cons.mp hm with e | hm
      · rw [e, hS3.1] at a1
        have := Option.some.inj a1
        rw [← this, hoS] at a5; cases a5
      · exact a4 hm
    have N4 : News g L h3 ((L + 1, oS) :: (59, tabObj ps') :: (p, oP') :: (q, oW') :: (self, instObj 65 sd) :: (sd, sdObj w p q u1 u2 n) :: (nwT ++ rest)) := fun x hx => by
      by_cases hT : x ∈ nwT
      · exact ⟨(hnT x hT).1, (hnT x hT).2.1, (hnT x hT).2.2.1⟩
      · exact N3 x (by simp only [List.mem_append, List.mem_cons, List.not_mem_nil, or_false] at hx ⊢; grind)
    clear F1 N NM NMr NR N3
    k_steps
    refine Stop.out ?_
    rename Fr _ _ _ _ => F5
    rename News _ _ _ _ => N5
    rename_i b _ lb
    have hb : AllLt b ((L + 1, oS) :: (59, tabObj ps') :: (p, oP') :: (q, oW') :: (self, instObj 65 sd) :: (sd, sdObj w p q u1 u2 n) :: (nwT ++ rest)) := lb
    have hU : ∀ x ∈ (b, PySem.W.listOf #[] 0) :: (59, tabObj ps') :: (p, oP') :: (q, oW') :: (self, instObj 65 sd) :: (sd, sdObj w p q u1 u2 n) :: (nwT ++ rest), x.1 ≠ L + 1 := fun x hx => by
      rcases List.mem_cons.mp hx with rfl | hx
      · exact Nat.ne_of_gt (allLt_to hb _ (.head _))
      · rcases List.mem_append.mp (show x ∈ ((59, tabObj ps') :: ufL w self sd p q u1 u2 n oP' oW') ++ (nwT ++ rest) from hx) with hx | hx
        · rcases List.mem_cons.mp hx with rfl | hx
          · exact h591
          · exact (ufAll (Pr := fun a => @Ne Nat a (L + 1))).mpr hL1 x hx
        · rcases List.mem_append.mp hx with hx | hx
          · exact fun e => offT x hx (by rw [e]; exact .head _)
          · exact fun e => off x hx (by rw [e]; exact .head _)
    refine storeX_C (news := (L + 1, oS) :: (b, PySem.W.listOf #[] 0) :: (59, tabObj ps') :: (p, oP') :: (q, oW') :: (self, instObj 65 sd) :: (sd, sdObj w p q u1 u2 n) :: (nwT ++ rest)) F5 (fun x hx => N5 x (by simp only [List.mem_append, List.mem_cons, List.not_mem_nil, or_false] at hx ⊢; grind)) (c := L + 1) (by rfl) (UpdF.head hU) hoS (fun h' o' F' N' d' => ?_)
    clear F5 N5
    k_steps
    refine Stop.out ?_
    rename Fr _ _ _ _ => F6
    rename News _ _ _ _ => N6
    refine ⟨rfl, _, _, d3, _, o', ps', oP', oW', P', W', rt', [], [], b, 0, (b, PySem.W.listOf #[] 0) :: nwT, rfl, F6, fun x hx => N6 x (by simp only [List.mem_append, List.mem_cons, List.not_mem_nil, or_false] at hx ⊢; grind), d', .head _, .nil, by decide, fun _ h => (nomatch h), hu', hP', hW', fo', (.inl (hTg.mono fun x hx => .tail _ hx)), fun x hx => ?_, fun x hx => ?_, ?_⟩
    · rcases List.mem_cons.mp hx with rfl | hx
      · intro hm
        obtain ⟨y, hy, e⟩ : ∃ y ∈ (L + 1, oS) :: (59, tabObj ps') :: ufL w self sd p q u1 u2 n oP' oW', y.1 = b := by
          obtain ⟨y, hy, e⟩ := List.mem_map.mp (show b ∈ ((L + 1, oS) :: (59, tabObj ps') :: ufL w self sd p q u1 u2 n oP' oW').map (·.1) from hm)
          exact ⟨y, hy, e⟩
        exact absurd e (Nat.ne_of_lt (allLt_to hb y (List.mem_append_left (nwT ++ rest) hy)))
      · exact offT x hx
    · rcases List.mem_cons.mp hx with rfl | hx
      · exact .inl fun y hy => Nat.ne_of_lt (allLt_to hb y (List.mem_append_right ((L + 1, oS) :: (59, tabObj ps') :: ufL w self sd p q u1 u2 n oP' oW') (List.mem_append_right nwT hy)))
      · exact .inr (hnT x hx).2.2.2.2
    · intro p hp
      rcases hp with _ | ⟨_, _ | ⟨_, _ | ⟨_, _ | ⟨_, hp⟩⟩⟩⟩ <;> first | rfl | cases hp
  · obtain ⟨z0, zr, rfl⟩ : ∃ z0 zr, zs = z0 :: zr := by
      cases zs with
      | nil => exact absurd hz1 (by decide)
      | cons a r => exact ⟨a, r, rfl⟩
    have hb9 : zvs.toArray.size ≤ sizeLine := by rw [List.size_toArray, hz.length]; exact small_line (by omega)
    refine kmk_slice_ints (ms := [z0]) (s := ⟨hp, gs, dr, _, oss⟩) F1 N (isList_of NR hbm) (by kmk_part) (by kmk_part) hz (kmk_upto (y := 1) hz (by decide)) rfl ?_ (by with_unfolding_all rfl) (by kmk_pure) hb9
    intro D' ws h3 F3 N3 hlt3 hws _ _
    obtain ⟨t0, rfl⟩ : ∃ t0, ws = [.int z0 t0] := by
      cases hws with
      | cons _ t h => cases h; exact ⟨t, rfl⟩
    k_steps
    refine Stop.out ?_
    have hDoff : D' ∉ [L + 1, 59, p, q, self, sd] := fun hm => by
      obtain ⟨y, hy, e⟩ := List.mem_map.mp (show D' ∈ ((L + 1, oS) :: (59, tabObj ps) :: ufL w self sd p q u1 u2 n oP oW).map (·.1) from hm)
      exact absurd e (Nat.ne_of_lt (hlt3 y (List.mem_append_left rest hy)))
    have hU : ∀ x ∈ (D', PySem.W.listOf (List.toArray [Value.int z0 t0]) 0) :: (59, tabObj ps) :: (p, oP) :: (q, oW) :: (self, instObj 65 sd) :: (sd, sdObj w p q u1 u2 n) :: rest, x.1 ≠ L + 1 := fun x hx => by
      rcases List.mem_cons.mp hx with rfl | hx
      · exact Nat.ne_of_gt (hlt3 _ (.head _))
      · rcases List.mem_append.mp (show x ∈ ((59, tabObj ps) :: ufL w self sd p q u1 u2 n oP oW) ++ rest from hx) with hx | hx
        · rcases List.mem_cons.mp hx with rfl | hx
          · exact h591
          · exact (ufAll (Pr := fun a => @Ne Nat a (L + 1))).mpr hL1 x hx
        · exact fun e => off x hx (by rw [e]; exact .head _)
    refine storeX_C (news := (L + 1, oS) :: (D', PySem.W.listOf (List.toArray [Value.int z0 t0]) 0) :: (59, tabObj ps) :: (p, oP) :: (q, oW) :: (self, instObj 65 sd) :: (sd, sdObj w p q u1 u2 n) :: rest) F3 (fun x hx => N3 x (by simp only [List.mem_append, List.mem_cons, List.not_mem_nil, or_false] at hx ⊢; grind)) (c := L + 1) (by rfl) (UpdF.head hU) hoS (fun h' o' F' N' d' => ?_)
    clear F3 N3 F1 N NM NMr
    k_steps
    refine Stop.out ?_
    change wpAny _ (Around.in1 (A.deeper _)) (call (.ref 43) [.ref self, .int z0 _]) _ _ _
    have NU : News g L h' (ufL w self sd p q u1 u2 n oP oW) := fun x hx => N' x (.tail _ (.tail _ (.tail _ (List.mem_append_left rest hx))))
    refine getitem_spec (A := Around.in1 (A.deeper _)) (outer := [_]) (s := ⟨h', gs, dr, _, oss⟩) (St0.G S) (Cx.inner (St0.B' S) F' (Around.frames_deeper fr) (by rfl) (by rfl) hh) (by show A.depth + 1 < recursionLimit; omega) hP hW (fun x hx => (NU x hx).1) (hB_of S NU) (hf_of NU) hp0 (St0.hq0 S) (St0.hpq S) (St0.hps S) (St0.hpd S) (St0.hqs S) (St0.hqd S) (St0.hsd S) fo (by omega) (by omega) ?_
    intro t5 h5 tk5 P' W' oP' oW' hP' hW' fo' hmu' e5
    have hoff : ∀ x ∈ (L + 1, o') :: (D', PySem.W.listOf (List.toArray [Value.int z0 t0]) 0) :: (59, tabObj ps) :: rest, x.1 ∉ (ufL w self sd p q u1 u2 n oP oW).map (·.1) := fun x hx hm => by
      rcases List.mem_cons.mp hx with rfl | hx
      · obtain ⟨y, hy, e⟩ := List.mem_map.mp hm
        exact ltL y (.tail _ hy) e
      · rcases List.mem_cons.mp hx with rfl | hx
        · exact hDoff (.tail _ (.tail _ hm))
        · rcases List.mem_cons.mp hx with rfl | hx
          · obtain ⟨y, hy, e⟩ := List.mem_map.mp hm
            exact (ufAll (Pr := fun a => @Ne Nat a 59)).mpr (St0.h59 S) y hy e
          · exact off x hx (.tail _ (.tail _ hm))
    obtain ⟨F5, N5⟩ := after (mu := ufL w self sd p q u1 u2 n oP oW) (mu' := ufL w self sd p q u1 u2 n oP' oW') (rest := (L + 1, o') :: (D', PySem.W.listOf (List.toArray [Value.int z0 t0]) 0) :: (59, tabObj ps) :: rest) F' (fun x hx => N' x (by simp only [List.mem_append, List.mem_cons, List.not_mem_nil, or_false] at hx ⊢; grind)) hoff e5 (fun x hx => ⟨hmu' x hx, .inl (List.mem_map_of_mem (f := (·.1)) hx)⟩)
    have N6 : News g L h5 ((L + 1, o') :: (D', PySem.W.listOf (List.toArray [Value.int z0 t0]) 0) :: (59, tabObj ps) :: (p, oP') :: (q, oW') :: (self, instObj 65 sd) :: (sd, sdObj w p q u1 u2 n) :: rest) := fun x hx => N5 x (by simp only [List.mem_append, List.mem_cons, List.not_mem_nil, or_false] at hx ⊢; grind)
    clear F' N' N5 NU
    k_steps
    refine Stop.out ?_
    rw [eval_ListComp]
    refine wpAny_comprehension_free (use := none) rfl (by intro _; rfl) (by with_unfolding_all rfl) rfl (by decide) ?_
    have hR5 : ∀ x ∈ rest, h5.get? x.1 = some x.2 := fun x hx => (N6 x (List.mem_append_right ((L + 1, o') :: (D', PySem.W.listOf (List.toArray [Value.int z0 t0]) 0) :: (59, tabObj ps) :: ufL w self sd p q u1 u2 n oP' oW') hx)).1
    obtain ⟨hlL, hlR⟩ := hL h5 hR5
    have hlf : lots.flatten.length = ks.length := pl.fl.length_eq
    have hll : lots.length ≤ lots.flatten.length := flat_len pl.ne
    change wpAny _ _ (eval _ _) _ _ _
    k_steps
    refine Stop.out ?_
    have hD5 : h5.IsList D' (List.toArray [Value.int z0 t0]) := isList_of N6 (.tail _ (.head _))
    refine joined_spec (A := A.deeper _) (outer := [_]) (s := ⟨h5, gs, dr, _, oss⟩) (sm := [z0]) (St0.G S) (Cx.inner (St0.B' S) F5 (Around.frames_deeper fr) (by rfl) (by rfl) hh) (by show A.depth + 1 + 1 < recursionLimit; omega) hlL hlR ⟨_, hD5, .cons _ _ .nil⟩ (by show A.units + 3 + 100 < cLine; omega) (by show lots.flatten.length + 1 < 60; omega) (by show lots.length + 1 < 60; omega) ?_
    intro r7 vs7 n7 f7 nw7 h7 tk7 e7 hnw7 hr7 hf7 hf7' hat7
    obtain ⟨F7, N7⟩ := after (mu := []) (mu' := nw7) (rest := (L + 1, o') :: (D', PySem.W.listOf (List.toArray [Value.int z0 t0]) 0) :: (59, tabObj ps) :: (p, oP') :: (q, oW') :: (self, instObj 65 sd) :: (sd, sdObj w p q u1 u2 n) :: rest) F5 N6 (fun _ _ h => nomatch h) e7 (fun x hx => ⟨(hnw7 x hx).2, .inr (hnw7 x hx).1⟩)
    have N8 : News g L h7 ((L + 1, o') :: (D', PySem.W.listOf (List.toArray [Value.int z0 t0]) 0) :: (59, tabObj ps) :: (p, oP') :: (q, oW') :: (self, instObj 65 sd) :: (sd, sdObj w p q u1 u2 n) :: rest) := fun x hx => N7 x (List.mem_append_right _ hx)
    obtain ⟨hl7, hR7⟩ := hat7 h7 (hL h7 fun x hx => (N8 x (List.mem_append_right ((L + 1, o') :: (D', PySem.W.listOf (List.toArray [Value.int z0 t0]) 0) :: (59, tabObj ps) :: ufL w self sd p q u1 u2 n oP' oW') hx)).1) (fun x hx => (hnw7 x hx).2)
    have pl7 := pl.join (UnR.one ks rt z0) hf7 hf7'
    have hks7 : (addAll ks rt [z0]).1.length ≤ ks.length + 1 := addAll_len [z0] ks rt
    generalize hlots : (restL lots [z0] ++ if f7 = [] then [] else [f7]) = lots7 at hR7 pl7
    have hlf7 : lots7.flatten.length = (addAll ks rt [z0]).1.length := pl7.fl.length_eq
    have hll7 : lots7.length ≤ lots7.flatten.length := flat_len pl7.ne
    have Tg := T'.keeps F7.keep
    have KXg := KX'.keeps F7.keep
    have hS7 := (N8 _ (.head _)).1
    have hD7 := isList_of N8 (.tail _ (.head _))
    dsimp only at hS7
    refine blk2 (x1 := Str.ofString "lot") (x2 := Str.ofString "one") (fun lot => decide (z0 ∈ lot)) (A := A.deeper _) (s := ⟨h7, gs, dr, _, oss⟩) (by exact hh) F7 hl7 hR7 (by omega) (by omega) ?_ ?_ (by decide) rfl rfl rfl (by decide) (by decide) (by decide)
    · intro h C m9 tk9 lot b a ta F9 m1 m2 hb9
      have F10 := named F9 [(Str.ofString "lot", .ref b), (Str.ofString "one", .int a ta)] (by intro p hp; rcases hp with _ | ⟨_, _ | ⟨_, hp⟩⟩ <;> first | assumption | cases hp)
      obtain ⟨bvs, hbl, hbi⟩ := hb9
      clear F9 F7 F5 N6 N7 N8
      dsimp only at F10 hbl
      k_steps
      refine Stop.out ?_
      refine blk_cell F10 (c := L + 1) (o := o') (v := .ref D') (by rfl) hS7 d' ?_ (by rfl) (by rfl)
      k_steps
      refine Stop.out ?_
      refine blk_local F10 (v := .ref b) (by rfl) ?_ (by rfl) (by rfl)
      k_steps
      refine Stop.out ?_
      change wpAny _ _ (compareOp _ (Value.int z0 _) (Value.ref b)) _ _ _
      refine in_list_ints (let ⟨o, e, r⟩ := hbl; ⟨o, F10.keep _ _ e, r⟩) hbi ?_
      k_steps
      exact any_mem lot z0
    · intro D9 n9 ws9 h9 tk9 e9 F9 hD9 hDn9 hi9
      obtain ⟨F11, N11⟩ := after (mu := []) (mu' := [(D9, PySem.W.listOf (List.toArray ws9) n9)]) (rest := (L + 1, o') :: (D', PySem.W.listOf (List.toArray [Value.int z0 t0]) 0) :: (59, tabObj ps) :: (p, oP') :: (q, oW') :: (self, instObj 65 sd) :: (sd, sdObj w p q u1 u2 n) :: rest) F7 N8 (fun _ _ h => nomatch h) e9 (fun x hx => by rw [List.mem_singleton.mp hx]; exact ⟨hD9, .inr hDn9⟩)
      clear F9 F7 N7 N8 F5 N6
      dsimp only [List.cons_append, List.nil_append] at N11
      k_steps
      refine Stop.out ?_
      refine notin_list_ints (isList_of N11 (.head _)) hi9 ?_
      have hmem : addR ks rt z0 z0 ∈ (lots7.filter fun lot => decide (z0 ∈ lot)).flatten := by
        obtain ⟨lot, hl1, hl2⟩ := pl7.mem.mp (addAll_sub [z0] ks rt (.head _))
        exact List.mem_flatten.mpr ⟨lot, List.mem_filter.mpr ⟨hl1, decide_eq_true hl2⟩, pl7.root hl1 hl2⟩
      rw [any_mem, decide_eq_true hmem, Bool.not_true]
      k_steps
      refine Stop.out ?_
      refine ⟨rfl, _, _, _, _, o', ps, oP', oW', P', W', addR ks rt z0, [z0], [.int z0 t0], D', 0, [(D', PySem.W.listOf (List.toArray [Value.int z0 t0]) 0)], rfl, F11, fun x hx => N11 x (by simp only [List.mem_append, List.mem_cons, List.not_mem_nil, or_false] at hx ⊢; grind), d', .head _, .cons _ _ .nil, (by show 1 ≤ 4; decide), fun e he => by rw [List.mem_singleton.mp he]; exact hz9 z0 (.head _), UnR.one ks rt z0, hP', hW', Fo.mono fo' (Nat.le_succ D), (.inr rfl), fun x hx => by rw [List.mem_singleton.mp hx]; exact hDoff, fun x hx => by rw [List.mem_singleton.mp hx]; exact .inl fun y hy => Nat.ne_of_lt (hlt3 y (List.mem_append_right ((L + 1, oS) :: (59, tabObj ps) :: ufL w self sd p q u1 u2 n oP oW) hy)), ?_⟩
      intro p hp
      rcases hp with _ | ⟨_, _ | ⟨_, _ | ⟨_, _ | ⟨_, hp⟩⟩⟩⟩ <;> first | rfl | cases hp
  · refine Stop.out ?_
    have hbL : IntL hp bs zs := ⟨_, isList_of NR hbm, hz⟩
    refine law_union_spec (os := zs) (A := A.deeper _) (outer := [_]) (s := ⟨hp, gs, dr, _, oss⟩) (St0.G S) (Cx.inner (St0.B' S) F1 (Around.frames_deeper fr) (by rfl) (by rfl) hh) (by show A.depth + 1 + 3 < recursionLimit; omega) (by show A.units + 3 + 210 < cLine; omega) (St0.hC S) hP hW (fun x hx => (NM x hx).1) (hB_of S NM) (hf_of NM) hp0 (St0.hq0 S) (St0.hpq S) (St0.hps S) (St0.hpd S) (St0.hqs S) (St0.hqd S) (St0.hsd S) (St0.h59 S) fo (by omega) hD hbL hz4 (fun e => by rw [e] at hz1; exact absurd hz1 (by decide)) hTab ?_
    intro h3 tk3 d3 P' W' oP' oW' ps' rt' hP' hW' hu' fo' hT' hmu' e3
    obtain ⟨F3, N3⟩ := after (mu := (59, tabObj ps) :: ufL w self sd p q u1 u2 n oP oW) (mu' := (59, tabObj ps') :: ufL w self sd p q u1 u2 n oP' oW') (rest := (L + 1, oS) :: rest) F1 NMr hrM e3 (fun x hx => ⟨hmu' x hx, .inl (by
      rcases List.mem_cons.mp hx with rfl | hx
      · exact .head _
      · exact .tail _ (List.mem_map_of_mem (f := (·.1)) hx))⟩)
    obtain ⟨nwT, hTg, hnT⟩ := TabOk.g hT' F3
    have hS3 := N3 (L + 1, oS) (List.mem_append_right _ (.head _))
    have offT : ∀ x ∈ nwT, x.1 ∉ [L + 1, 59, p, q, self, sd] := fun x hx hm => by
      obtain ⟨a1, a2, a3, a4, vs, u, t, a5, a6⟩ := hnT x hx
      rcases List.mem_cons.mp hm with e | hm
      · rw [e, hS3.1] at a1
        have := Option.some.inj a1
        rw [← this, hoS] at a5; cases a5
      · exact a4 hm
    have N4 : News g L h3 ((L + 1, oS) :: (59, tabObj ps') :: (p, oP') :: (q, oW') :: (self, instObj 65 sd) :: (sd, sdObj w p q u1 u2 n) :: (nwT ++ rest)) := fun x hx => by
      by_cases hT : x ∈ nwT
      · exact ⟨(hnT x hT).1, (hnT x hT).2.1, (hnT x hT).2.2.1⟩
      · exact N3 x (by simp only [List.mem_append, List.mem_cons, List.not_mem_nil, or_false] at hx ⊢; grind)
    clear F1 N NM NMr NR N3
    k_steps
    refine Stop.out ?_
    refine ⟨rfl, _, _, d3, _, oS, ps', oP', oW', P', W', rt', zs, zvs, bs, c, nwT, rfl, F3, N4, hoS, List.mem_append_right _ hbm, hz, hz4, hz9, hu', hP', hW', fo', (.inl hTg), offT, (fun x hx => .inr (hnT x hx).2.2.2.2), ?_⟩
    intro p hp
    rcases hp with _ | ⟨_, _ | ⟨_, _ | ⟨_, _ | ⟨_, hp⟩⟩⟩⟩ <;> first | rfl | cases hp
end
end Mine

end
theorem Mine.resetVWB : True ∧ True := by
  first
  | (walk1; done)
  | exact ⟨trivial, trivial⟩
section
open PySem PySem.W PyProof.Rows PySem.Calls PySem.Spec PyProof.V
set_option maxRecDepth 100000
set_option maxHeartbeats 8000000
namespace Mine
theorem step1 {M : Model} {A : Around} {E : Value → Shared → Prop} {s : Shared} {env : Env} {st : Stmt} {more : List Stmt} {K : Shared → Prop} {Q : Flow → Shared → Prop} (h : wpAny M A (exec st env) (fun fl s' => fl = .next ∧ K s') (fun _ _ => False) s) (k : ∀ s', K s' → wpAny M A (execs more env) Q E s') : wpAny M A (execs (st :: more) env) Q E s :=
  wpAny_execs_cons (wpAny_mono h (fun f s' h' => by obtain ⟨rfl, hK⟩ := h'; exact k s' hK) (fun _ _ e => e.elim))
/-- what holds between the turns -/
structure Lp (w : World) (g : Heap) (L l self sd p q : Addr) (u1 u2 : Tok) (n : Nat) (i : Nat) (m : Str → Option Value) (nx : List (Addr × Obj)) (gs : Array GenState) (oS : Obj) (ps : Array Value) (oP oW : Obj) (P W : List (Int × Int)) (ks : List Int) (rt : Int → Int) (D : Nat) (lots : List (List Int)) (ll : Addr) (lvs : List Value) (kl : Addr) (kvs : List Value) (rest : List (Addr × Obj)) (v : Option Value) : Prop where
  nx : nx = (L + 1, oS) :: (59, tabObj ps) :: (p, oP) :: (q, oW) :: (self, instObj 65 sd) :: (sd, sdObj w p q u1 u2 n) :: rest
  hS : oS.data = .cell v
  hP : DictI w oP P
  hW : DictI w oW W
  fo : Fo ks rt D P W
  hD : D ≤ i
  pl : Pl ks rt lots
  sm : ∀ x ∈ ks, 0 ≤ x ∧ x < 9
  hk : IntsAre kvs ks
  hkn : ∀ h : Heap, (∀ x ∈ rest, h.get? x.1 = some x.2) → h.IsList kl kvs.toArray
  hL : ∀ h : Heap, (∀ x ∈ rest, h.get? x.1 = some x.2) → LotsH ll lvs lots h
  tab : TabG g ps rest
  off : ∀ x ∈ rest, x.1 ∉ [L + 1, 59, p, q, self, sd]
  bare : AllBare gs
  hm : ∀ p ∈ [(Str.ofString "script", Value.ref l), (Str.ofString "made", .ref self), (Str.ofString "lots", .ref ll), (Str.ofString "known", .ref kl)], m p.1 = some p.2
def JL (w : World) (g : Heap) (L l self sd p q : Addr) (u1 u2 : Tok) (n : Nat) (i : Nat) (m : Str → Option Value) (nx : List (Addr × Obj)) (gs : Array GenState) : Prop :=
  ∃ oS ps oP oW P W ks rt D lots ll lvs kl kvs rest v, Lp w g L l self sd p q u1 u2 n i m nx gs oS ps oP oW P W ks rt D lots ll lvs kl kvs rest v
theorem cellv_nn {ns : List Int} {i : Int} (h : 0 ≤ i) : 0 ≤ cellv ns i := by unfold cellv; split <;> omega
section
variable {w : World} {mean : ExcName → Option Value} {mg mb : Str → Option Value} {B g : Heap} {A : Around} {l : Addr} {ns : List Int} {self sd p q L : Addr} {qual : Str} {scope : Scope} {cdv : Value} {t1 t2 t3 t4 t5 t6 t7 t8 t9 : Stmt} {s : Shared}
theorem law_turn (S : St0 w mean mg mb B g A l ns self sd p q) (hF : LawFn w qual scope cdv t1 t2 t3 t4 t5 t6 t7 t8 t9) {u1 u2 : Tok} {n i : Nat} {t tk : Tok} {m₁ : Str → Option Value} {nx own : List (Addr × Obj)} {h : Heap} {gs : Array GenState} {d : Drawn} {Rr : Flow → Shared → Prop} {mA : Str → Option Value}
    (hL1 : @Ne Nat p (L + 1) ∧ @Ne Nat q (L + 1) ∧ @Ne Nat self (L + 1) ∧ @Ne Nat sd (L + 1)) (h591 : @Ne Nat 59 (L + 1)) (hi : i < 63) (hoff : OwnOff own (nx.map (·.1))) (hown : ∀ x ∈ own, ∀ vs, x.2.data = .fields vs → ∀ u t, vs[1]? ≠ some (.str u t))
    (J : JL w g L l self sd p q u1 u2 n i m₁ nx gs) (hmA : mA (Str.ofString "at") = some (.int (0 + (i : Int)) t)) (hmB : ∀ y, y ≠ Str.ofString "at" → mA y = m₁ y) (F : Fr g L h mA) (N : News g L h (nx ++ own)) :
    wpAny (model pr w) (A.deeper (envOfC qual scope L 105 cdv)) (execs [t1, t2, t3, t4, t5, t6, t7, t8, t9] (envOfC qual scope L 105 cdv))
      (LPost g L (JL w g L l self sd p q u1 u2 n (i + 1)) own { s with heap := h, toks := tk, gens := gs, drawn := d } Rr) (fun _ _ => False) { s with heap := h, toks := tk, gens := gs, drawn := d } := by
  obtain ⟨oS, ps, oP, oW, P, W, ks, rt, D, lots, ll, lvs, kl, kvs, rest, v, J⟩ := J
  have hnx := (Lp.nx J)
  subst hnx
  have hk9 : ks.length ≤ 9 := small_len (Lp.pl J).nd (Lp.sm J)
  have hlf : lots.flatten.length = ks.length := (Lp.pl J).fl.length_eq
  have hll : lots.length ≤ lots.flatten.length := flat_len (Lp.pl J).ne
  have offA : ∀ x ∈ own, x.1 ∉ [L + 1, 59, p, q, self, sd] := fun x hx hm => hoff x hx x.1 (by
    simp only [List.map_cons, List.mem_cons, List.not_mem_nil, or_false] at hm ⊢
    grind) rfl
  have neL : ∀ x ∈ (59, tabObj ps) :: ufL w self sd p q u1 u2 n oP oW, @Ne Nat x.1 (L + 1) := fun x hx => by
    rcases List.mem_cons.mp hx with rfl | hx
    · exact h591
    · exact (ufAll (Pr := fun a => @Ne Nat a (L + 1))).mpr hL1 x hx
  -- draw
  refine step1 (law_1 S hF (i := 0 + (i : Int)) (ti := t) (by omega) (by omega) (ll := ll) (kl := kl) F N ?_) ?_
  · intro p hp
    have e1 := (Lp.hm J)
    rcases hp with _ | ⟨_, _ | ⟨_, _ | ⟨_, _ | ⟨_, _ | ⟨_, hp⟩⟩⟩⟩⟩
    · exact (hmB _ (by show Str.ofString "script" ≠ Str.ofString "at"; decide)).trans (e1 _ (.head _))
    · exact hmA
    · exact (hmB _ (by show Str.ofString "made" ≠ Str.ofString "at"; decide)).trans (e1 _ (.tail _ (.head _)))
    · exact (hmB _ (by show Str.ofString "lots" ≠ Str.ofString "at"; decide)).trans (e1 _ (.tail _ (.tail _ (.head _))))
    · exact (hmB _ (by show Str.ofString "known" ≠ Str.ofString "at"; decide)).trans (e1 _ (.tail _ (.tail _ (.tail _ (.head _)))))
    · cases hp
  rintro s1 ⟨h1, tk1, tv1, m1, rfl, F1, N1, hm1⟩
  have hdv : 0 ≤ cellv ns (1 + (0 + (i : Int))) := cellv_nn (by omega)
  generalize cellv ns (1 + (0 + (i : Int))) = dv at hdv hm1
  simp only [List.cons_append] at N1
  -- kind, some
  have hneB : ∀ x ∈ (59, tabObj ps) :: (p, oP) :: (q, oW) :: (self, instObj 65 sd) :: (sd, sdObj w p q u1 u2 n) :: (rest ++ own), x.1 ≠ L + 1 := fun x hx => by
    rcases List.mem_append.mp (show x ∈ ((59, tabObj ps) :: ufL w self sd p q u1 u2 n oP oW) ++ (rest ++ own) from hx) with hx | hx
    · exact neL x hx
    · rcases List.mem_append.mp hx with hx | hx
      · exact fun e => (Lp.off J) x hx (by rw [e]; exact .head _)
      · exact fun e => offA x hx (by rw [e]; exact .head _)
  refine step1 (law_2 S hF hdv (Lp.hS J) F1 N1 hneB hm1) ?_
  rintro s2 ⟨h2, tk2, tv2, m2, bs, c2, oS2, rfl, F2, N2, hS2, hlt2, hm2⟩
  -- for turn
  have N2' : News g L h2 ((bs, PySem.W.listOf #[] c2) :: (L + 1, oS2) :: (59, tabObj ps) :: (p, oP) :: (q, oW) :: (self, instObj 65 sd) :: (sd, sdObj w p q u1 u2 n) :: (rest ++ own)) := fun x hx => N2 x (by
    rcases hx with _ | ⟨_, _ | ⟨_, hx⟩⟩
    · exact .tail _ (.head _)
    · exact .head _
    · exact .tail _ (.tail _ hx))
  refine step1 (law_3 S hF hdv hS2 F2 N2' (fun x hx => ?_) hm2) ?_
  · rcases List.mem_cons.mp hx with rfl | hx
    · exact Nat.ne_of_lt (show @LT.lt Nat _ (L + 1) bs from hlt2 (L + 1, oS) (.head _))
    · exact Nat.ne_of_lt (hlt2 x (.tail _ hx))
  rintro s3 ⟨h3, tk3, d3, m3, c3, zvs, zs, rfl, F3, N3, hz, hz9, hz1, hz4, hm3⟩
  -- the asking
  have hbs : bs ∉ [L + 1, 59, p, q, self, sd] := fun hm => by
    obtain ⟨y, hy, e⟩ := List.mem_map.mp (show bs ∈ ((L + 1, oS) :: (59, tabObj ps) :: ufL w self sd p q u1 u2 n oP oW).map (·.1) from hm)
    exact absurd e (Nat.ne_of_lt (hlt2 y (List.mem_append_left (rest ++ own) hy)))
  have off4 : ∀ x ∈ (bs, PySem.W.listOf (List.toArray zvs) c3) :: (rest ++ own), x.1 ∉ [L + 1, 59, p, q, self, sd] := fun x hx => by
    rcases List.mem_cons.mp hx with rfl | hx
    · exact hbs
    · rcases List.mem_append.mp hx with hx | hx
      · exact (Lp.off J) x hx
      · exact offA x hx
  have inR : ∀ {x}, x ∈ rest → x ∈ (bs, PySem.W.listOf (List.toArray zvs) c3) :: (rest ++ own) := fun hx => .tail _ (List.mem_append_left _ hx)
  have N3' : News g L h3 ((L + 1, oS2) :: (59, tabObj ps) :: (p, oP) :: (q, oW) :: (self, instObj 65 sd) :: (sd, sdObj w p q u1 u2 n) :: ((bs, PySem.W.listOf (List.toArray zvs) c3) :: (rest ++ own))) := fun x hx => N3 x (by
    rcases List.mem_append.mp (show x ∈ ((L + 1, oS2) :: (59, tabObj ps) :: ufL w self sd p q u1 u2 n oP oW) ++ ((bs, PySem.W.listOf (List.toArray zvs) c3) :: (rest ++ own)) from hx) with hx | hx
    · rcases List.mem_cons.mp hx with e | hx
      · rw [e]; exact .tail _ (.head _)
      · exact .tail _ (.tail _ (List.mem_append_left (rest ++ own) hx))
    · rcases List.mem_cons.mp hx with e | hx
      · rw [e]; exact .head _
      · exact .tail _ (.tail _ (List.mem_append_right ((59, tabObj ps) :: ufL w self sd p q u1 u2 n oP oW) hx)))
  have hm3' : ∀ p ∈ [(Str.ofString "script", Value.ref l), (Str.ofString "made", .ref self), (Str.ofString "lots", .ref ll), (Str.ofString "known", .ref kl)] ++ [(Str.ofString "kind", .int (dv.fmod 6) tv2)], m3 p.1 = some p.2 := fun p hp => hm3 p (by
    rcases hp with _ | ⟨_, _ | ⟨_, _ | ⟨_, _ | ⟨_, _ | ⟨_, hp⟩⟩⟩⟩⟩
    · exact .head _
    · exact .tail _ (.head _)
    · exact .tail _ (.tail _ (.head _))
    · exact .tail _ (.tail _ (.tail _ (.head _)))
    · exact .tail _ (.tail _ (.tail _ (.tail _ (.tail _ (.head _)))))
    · cases hp)
  refine wpAny_execs_cons (wpAny_mono (law_4 S hF hS2 (Lp.hP J) (Lp.hW J) (Lp.fo J) (Nat.le_trans (Lp.hD J) (by omega)) (by omega) (Lp.pl J) hz hz9 hz1 hz4 (.head _) hL1 h591 F3 N3' off4 ((Lp.tab J).mono fun y hy => inR hy) (fun h hh => (Lp.hL J) h fun x hx => hh x (inR hx)) hm3') (fun fl s4 h4 => ?_) (fun _ _ e => e.elim))
  obtain ⟨rfl, h4, tk4, d4, m4, oS4, ps4, oP4, oW4, P4, W4, rt4, es, evs, eb, ec, nw4, rfl, F4, N4, hS4, heb, hes, he4, he9, hU, hP4, hW4, fo4, hT4, offN, dat4, hm4⟩ := h4
  change wpAny _ _ (execs [t5, t6, t7, t8, t9] _) _ _ _
  -- known
  have hlive4 : ∀ {x}, x ∈ rest → x ∈ (59, tabObj ps4) :: (p, oP4) :: (q, oW4) :: (self, instObj 65 sd) :: (sd, sdObj w p q u1 u2 n) :: (nw4 ++ ((bs, PySem.W.listOf (List.toArray zvs) c3) :: (rest ++ own))) := fun hx => List.mem_append_right ((59, tabObj ps4) :: ufL w self sd p q u1 u2 n oP4 oW4) (List.mem_append_right nw4 (inR hx))
  have neL4 : ∀ x ∈ (59, tabObj ps4) :: (p, oP4) :: (q, oW4) :: (self, instObj 65 sd) :: (sd, sdObj w p q u1 u2 n) :: (nw4 ++ ((bs, PySem.W.listOf (List.toArray zvs) c3) :: (rest ++ own))), x.1 ≠ L + 1 := fun x hx => by
    rcases List.mem_append.mp (show x ∈ ((59, tabObj ps4) :: ufL w self sd p q u1 u2 n oP4 oW4) ++ (nw4 ++ ((bs, PySem.W.listOf (List.toArray zvs) c3) :: (rest ++ own))) from hx) with hx | hx
    · rcases List.mem_cons.mp hx with rfl | hx
      · exact h591
      · exact (ufAll (Pr := fun a => @Ne Nat a (L + 1))).mpr hL1 x hx
    · rcases List.mem_append.mp hx with hx | hx
      · exact fun e => offN x hx (by rw [e]; exact .head _)
      · exact fun e => off4 x hx (by rw [e]; exact .head _)
  refine step1 (law_5 (ll := ll) S hF hS4 rt hes he4 (Lp.hk J) (by omega) F4 N4 neL4 (List.mem_append_right ((59, tabObj ps4) :: ufL w self sd p q u1 u2 n oP4 oW4) heb) (fun h hh => (Lp.hkn J) h fun x hx => hh x (hlive4 hx)) hm4) ?_
  rintro s5 ⟨h5, tk5, m5, kl5, kvs5, nw5, rfl, F5, N5, hnw5, hk5, hkn5, hm5⟩
  -- lots
  refine step1 (law_6 (lots := lots) (lvs := lvs) (ll := ll) (kl := kl5) S hF hS4 (zs := es) (by omega) (by omega) he4 F5 N5 (fun h hh => ⟨evs, ⟨_, hh _ (List.mem_append_right nw5 (List.mem_append_right ((59, tabObj ps4) :: ufL w self sd p q u1 u2 n oP4 oW4) heb)), rfl, _, rfl⟩, hes⟩) (fun h hh => (Lp.hL J) h fun x hx => hh x (List.mem_append_right nw5 (hlive4 hx))) hm5) ?_
  rintro s6 ⟨h6, tk6, m6, r6, vs6, nw6, f6, rfl, F6, N6, hnw6, hf6, hf6', hL6, hm6⟩
  have pl6 := (Lp.pl J).join hU hf6 hf6'
  have sm6 : ∀ x ∈ (addAll ks rt es).1, 0 ≤ x ∧ x < 9 := fun x hx => by
    rcases (addAll_mem es ks rt x).mp hx with hx | hx
    · exact (Lp.sm J) x hx
    · exact he9 x hx
  generalize hks6 : (addAll ks rt es).1 = ks6 at pl6 sm6 fo4 hk5
  generalize hlots6 : (restL lots es ++ if f6 = [] then [] else [f6]) = lots6 at pl6 hL6
  have hk69 : ks6.length ≤ 9 := small_len pl6.nd sm6
  have hlf6 : lots6.flatten.length = ks6.length := pl6.fl.length_eq
  have hll6 : lots6.length ≤ lots6.flatten.length := flat_len pl6.ne
  -- the standing
  have N7 : News g L h6 ((L + 1, oS4) :: (59, tabObj ps4) :: (p, oP4) :: (q, oW4) :: (self, instObj 65 sd) :: (sd, sdObj w p q u1 u2 n) :: (nw6 ++ (nw5 ++ (nw4 ++ ((bs, PySem.W.listOf (List.toArray zvs) c3) :: (rest ++ own)))))) := fun x hx => N6 x (by
    rcases List.mem_cons.mp hx with e | hx
    · rw [e]; exact .head _
    · refine .tail _ ?_
      rcases List.mem_append.mp (show x ∈ ((59, tabObj ps4) :: ufL w self sd p q u1 u2 n oP4 oW4) ++ (nw6 ++ (nw5 ++ (nw4 ++ ((bs, PySem.W.listOf (List.toArray zvs) c3) :: (rest ++ own))))) from hx) with hx | hx
      · exact List.mem_append_right nw6 (List.mem_append_right nw5 (List.mem_append_left (nw4 ++ ((bs, PySem.W.listOf (List.toArray zvs) c3) :: (rest ++ own))) hx))
      · rcases List.mem_append.mp hx with hx | hx
        · exact List.mem_append_left _ hx
        · rcases List.mem_append.mp hx with hx | hx
          · exact List.mem_append_right nw6 (List.mem_append_left _ hx)
          · exact List.mem_append_right nw6 (List.mem_append_right nw5 (List.mem_append_right ((59, tabObj ps4) :: ufL w self sd p q u1 u2 n oP4 oW4) hx)))
  have hd6 : ∀ a ∈ [L + 1, 59, p, q, self, sd], ∃ y ∈ (L + 1, oS4) :: (59, tabObj ps4) :: ufL w self sd p q u1 u2 n oP4 oW4, y.1 = a := fun a ha => List.mem_map.mp (show a ∈ ((L + 1, oS4) :: (59, tabObj ps4) :: ufL w self sd p q u1 u2 n oP4 oW4).map (·.1) from ha)
  have in4 : ∀ y ∈ (L + 1, oS4) :: (59, tabObj ps4) :: ufL w self sd p q u1 u2 n oP4 oW4, y ∈ (L + 1, oS4) :: (59, tabObj ps4) :: (p, oP4) :: (q, oW4) :: (self, instObj 65 sd) :: (sd, sdObj w p q u1 u2 n) :: (nw4 ++ ((bs, PySem.W.listOf (List.toArray zvs) c3) :: (rest ++ own))) := fun y hy => List.mem_append_left (nw4 ++ ((bs, PySem.W.listOf (List.toArray zvs) c3) :: (rest ++ own))) hy
  have in5 : ∀ y ∈ (L + 1, oS4) :: (59, tabObj ps4) :: (p, oP4) :: (q, oW4) :: (self, instObj 65 sd) :: (sd, sdObj w p q u1 u2 n) :: (nw4 ++ ((bs, PySem.W.listOf (List.toArray zvs) c3) :: (rest ++ own))), h5.get? y.1 = some y.2 := fun y hy => (N5 y (by
    rcases List.mem_cons.mp hy with e | hy
    · rw [e]; exact .head _
    · exact .tail _ (List.mem_append_right nw5 hy))).1
  have off6 : ∀ x ∈ nw6, x.1 ∉ [L + 1, 59, p, q, self, sd] := fun x hx hm => by
    obtain ⟨y, hy, e⟩ := hd6 _ hm
    have h1 := in5 y (in4 y hy)
    have h2 : h5.get? x.1 = none := hnw6 x hx
    rw [e, h2] at h1; cases h1
  have off5 : ∀ x ∈ nw5, x.1 ∉ [L + 1, 59, p, q, self, sd] := fun x hx hm => by
    obtain ⟨y, hy, e⟩ := hd6 _ hm
    exact absurd e (Nat.ne_of_lt (hnw5 x hx y (in4 y hy)))
  have off7 : ∀ x ∈ nw6 ++ (nw5 ++ (nw4 ++ ((bs, PySem.W.listOf (List.toArray zvs) c3) :: (rest ++ own)))), x.1 ∉ [L + 1, 59, p, q, self, sd] := fun x hx => by
    rcases List.mem_append.mp hx with hx | hx
    · exact off6 x hx
    · rcases List.mem_append.mp hx with hx | hx
      · exact off5 x hx
      · rcases List.mem_append.mp hx with hx | hx
        · exact offN x hx
        · exact off4 x hx
  have hg6 : ∀ lot ∈ lots6, lot ≠ [] ∧ lot.length < 60 ∧ ∀ x ∈ lot, x ∈ ks6 ∧ rt4 x ∈ lot ∧ ∀ y ∈ lot, rt4 x = rt4 y := fun lot hl => by
    refine ⟨pl6.ne lot hl, ?_, fun x hx => ⟨pl6.sub hl hx, pl6.root hl hx, fun y hy => ((pl6.cl lot hl x hx y (pl6.sub hl hy)).mp hy).symm⟩⟩
    obtain ⟨a, r, e⟩ := List.append_of_mem hl
    have : lot.length ≤ lots6.flatten.length := by rw [e, List.flatten_append, List.flatten_cons, List.length_append, List.length_append]; omega
    omega
  have liveR : ∀ {h : Heap} {tl : List (Addr × Obj)}, (∀ x ∈ tl ++ (nw6 ++ (nw5 ++ (nw4 ++ ((bs, PySem.W.listOf (List.toArray zvs) c3) :: (rest ++ own))))), h.get? x.1 = some x.2) → ∀ x ∈ rest, h.get? x.1 = some x.2 := fun hh x hx => hh x (List.mem_append_right _ (List.mem_append_right nw6 (List.mem_append_right nw5 (List.mem_append_right nw4 (inR hx)))))
  refine step1 (law_7 (ll := r6) S hF hP4 hW4 fo4 (by have := Lp.hD J; omega) (by omega) hk5 hg6 hL1 F6 N7 off7 (fun h hh => hkn5 h (fun x hx => hh x (List.mem_append_right nw6 (List.mem_append_left _ hx))) ((Lp.hkn J) h (liveR (tl := []) hh))) (fun h hh => hL6 h ((Lp.hL J) h (liveR (tl := []) hh)) (fun x hx => hh x (List.mem_append_left _ hx))) hm6) ?_
  rintro s7 ⟨h7, tk7, m7, P7, W7, oP7, oW7, rfl, F7, hP7, hW7, fo7, N8, hm7⟩
  refine step1 (law_8 (ll := r6) S hF hP7 hW7 fo7 (by have := Lp.hD J; omega) (by omega) pl6.nd hL1 F7 N8 off7 hm7) ?_
  rintro s8 ⟨h8, tk8, d8, m8, P8, oP8, Dl, ys, tolds, tl, rfl, F8, hP8, fo8, N9, hT8, hto, hm8⟩
  have hperm : tolds.Perm lots6 := Pl.told (U := ⟨self, sd, p, q, u1, u2, n, oW7, W7, ks6, rt4, D + 1⟩) pl6 hto
  refine step1 (law_9 (ll := r6) S hF hperm (by omega) F8 N9 (fun h hh => hT8 h fun x hx => hh x (List.mem_append_right ((L + 1, oS4) :: (59, tabObj ps4) :: ufL w self sd p q u1 u2 n oP8 oW7) hx))
    (fun h hh => by
      have hh' : ∀ x ∈ tl ++ (nw6 ++ (nw5 ++ (nw4 ++ ((bs, PySem.W.listOf (List.toArray zvs) c3) :: (rest ++ own))))), h.get? x.1 = some x.2 := fun x hx => hh x (List.mem_append_right ((L + 1, oS4) :: (59, tabObj ps4) :: ufL w self sd p q u1 u2 n oP8 oW7) hx)
      exact hL6 h ((Lp.hL J) h (liveR hh')) (fun x hx => hh' x (List.mem_append_right tl (List.mem_append_left _ hx)))) hm8) ?_
  rintro s9 ⟨h9, tk9, m9, rfl, F9, N10, hm9⟩
  refine wpAny_execs_nil ?_
  show LEnd _ _ _ _ _ _
  refine ⟨h9, tk9, _, d8, m9, (L + 1, oS4) :: (59, tabObj ps4) :: (p, oP8) :: (q, oW7) :: (self, instObj 65 sd) :: (sd, sdObj w p q u1 u2 n) :: (nw6 ++ (nw5 ++ (nw4 ++ rest))), _, rfl, F9, N10, fun x hx => ?_, fun x hx => ?_, ?_, oS4, ps4, oP8, oW7, P8, W7, ks6, rt4, D + 1, lots6, r6, vs6, kl5, kvs5, nw6 ++ (nw5 ++ (nw4 ++ rest)), _,
    rfl, hS4, hP8, hW7, fo8, Nat.succ_le_succ (Lp.hD J), pl6, sm6, hk5, fun h hh => ?_, fun h hh => ?_, ?_, fun x hx => ?_, AllBare.push (Lp.bare J) rfl, hm9⟩
  · rcases List.mem_append.mp (show x ∈ ((L + 1, oS4) :: (59, tabObj ps4) :: ufL w self sd p q u1 u2 n oP8 oW7) ++ (nw6 ++ (nw5 ++ (nw4 ++ rest))) from hx) with hx | hx
    · exact List.mem_append_left (tl ++ (nw6 ++ (nw5 ++ (nw4 ++ ((bs, PySem.W.listOf (List.toArray zvs) c3) :: (rest ++ own)))))) hx
    · refine List.mem_append_right ((L + 1, oS4) :: (59, tabObj ps4) :: ufL w self sd p q u1 u2 n oP8 oW7) (List.mem_append_right tl ?_)
      rcases List.mem_append.mp hx with hx | hx
      · exact List.mem_append_left _ hx
      · refine List.mem_append_right nw6 ?_
        rcases List.mem_append.mp hx with hx | hx
        · exact List.mem_append_left _ hx
        · refine List.mem_append_right nw5 ?_
          rcases List.mem_append.mp hx with hx | hx
          · exact List.mem_append_left _ hx
          · exact List.mem_append_right nw4 (inR hx)
  · exact List.mem_append_right ((L + 1, oS4) :: (59, tabObj ps4) :: ufL w self sd p q u1 u2 n oP8 oW7) (List.mem_append_right tl (List.mem_append_right nw6 (List.mem_append_right nw5 (List.mem_append_right nw4 (.tail _ (List.mem_append_right rest hx))))))
  · intro x hx b hb
    obtain ⟨y, hy, rfl⟩ := List.mem_map.mp hb
    have ow4 : x ∈ (bs, PySem.W.listOf (List.toArray zvs) c3) :: (rest ++ own) := .tail _ (List.mem_append_right rest hx)
    have ow5 : x ∈ (L + 1, oS4) :: (59, tabObj ps4) :: (p, oP4) :: (q, oW4) :: (self, instObj 65 sd) :: (sd, sdObj w p q u1 u2 n) :: (nw4 ++ ((bs, PySem.W.listOf (List.toArray zvs) c3) :: (rest ++ own))) := List.mem_append_right ((L + 1, oS4) :: (59, tabObj ps4) :: ufL w self sd p q u1 u2 n oP4 oW4) (List.mem_append_right nw4 ow4)
    rcases List.mem_append.mp (show y ∈ ((L + 1, oS4) :: (59, tabObj ps4) :: ufL w self sd p q u1 u2 n oP8 oW7) ++ (nw6 ++ (nw5 ++ (nw4 ++ rest))) from hy) with hy | hy
    · intro e
      refine offA x hx ?_
      rw [e]
      exact List.mem_map_of_mem (f := (·.1)) hy
    · rcases List.mem_append.mp hy with hy | hy
      · intro e
        have h1 := in5 x ow5
        have h2 : h5.get? y.1 = none := hnw6 y hy
        rw [e, h2] at h1; cases h1
      · rcases List.mem_append.mp hy with hy | hy
        · exact Nat.ne_of_lt (hnw5 y hy x ow5)
        · rcases List.mem_append.mp hy with hy | hy
          · rcases dat4 y hy with h1 | ⟨vs, u, t, h1, h2⟩
            · exact h1 x ow4
            · intro e
              have e1 := (N4 x ow5).1
              have e2 := (N4 y (List.mem_append_right ((L + 1, oS4) :: (59, tabObj ps4) :: ufL w self sd p q u1 u2 n oP4 oW4) (List.mem_append_left _ hy))).1
              rw [e, e2] at e1
              exact hown x hx vs (by rw [← Option.some.inj e1]; exact h1) u t h2
          · exact hoff x hx y.1 (List.mem_map_of_mem (f := (·.1)) (List.mem_append_right ((L + 1, oS) :: (59, tabObj ps) :: ufL w self sd p q u1 u2 n oP oW) hy))
  · exact hkn5 h (fun x hx => hh x (List.mem_append_right nw6 (List.mem_append_left _ hx))) ((Lp.hkn J) h fun x hx => hh x (List.mem_append_right nw6 (List.mem_append_right nw5 (List.mem_append_right nw4 hx))))
  · exact hL6 h ((Lp.hL J) h fun x hx => hh x (List.mem_append_right nw6 (List.mem_append_right nw5 (List.mem_append_right nw4 hx)))) (fun x hx => hh x (List.mem_append_left _ hx))
  · rcases hT4 with h1 | rfl
    · exact h1.mono fun x hx => List.mem_append_right nw6 (List.mem_append_right nw5 (List.mem_append_left rest hx))
    · exact (Lp.tab J).mono fun x hx => List.mem_append_right nw6 (List.mem_append_right nw5 (List.mem_append_right nw4 hx))
  · rcases List.mem_append.mp hx with hx | hx
    · exact off6 x hx
    · rcases List.mem_append.mp hx with hx | hx
      · exact off5 x hx
      · rcases List.mem_append.mp hx with hx | hx
        · exact offN x hx
        · exact (Lp.off J) x hx
end
end Mine

end
theorem Mine.resetVWF : True ∧ True := by
  first
  | (walk1; done)
  | exact ⟨trivial, trivial⟩
section
open PySem PySem.W PyProof.Rows PySem.Calls PySem.Spec PyProof.V
set_option maxRecDepth 100000
set_option maxHeartbeats 8000000
namespace Mine
theorem fillitVW1 : (PySem.Challenge.rw_bj0027_01 = PySem.Challenge.rw_bj0027_01 ∧ hd.heap_39 = hd.heap_39) := by k_fill; exact ⟨rfl, rfl⟩
local macro_rules | `(tactic| walk_at "call ref") => `(tactic| (k_here; refine Stop.intro ?_))
local macro_rules | `(tactic| walk_at "Exists") => `(tactic| (refine Stop.intro ?_))
local macro_rules | `(tactic| walk_at "exec Assign cons ListComp") => `(tactic| (k_here; refine Stop.intro ?_))
local macro_rules | `(tactic| walk_at "eval ListComp") => `(tactic| (k_here; refine Stop.intro ?_))
local macro_rules | `(tactic| walk_at "eval Name") => `(tactic| (k_here; (with_reducible show wpAny _ _ (eval (Expr.Name _ _) (compEnvC _ _ _ _)) _ _ _); k_dflt (first
  | (refine blk_local (by k_asm) (by rfl) ?_ (by rfl) (by rfl))
  | (refine lcf_cell (by k_asm) (by rfl) (by k_mem) (by k_asm) ?_ (by rfl) (by rfl))
  | (refine lcf_free (by k_asm) (by rfl) (by k_mem) (by k_asm) ?_ (by rfl) (by rfl)))))
local macro_rules | `(tactic| walk_at "unpackItems ref") => `(tactic| (k_here; k_dflt (refine' unpackItemsN_ ?k1 ?k2 ?k3 ?k4 ?k5 ?_; (case k1 => k_asm); (case k2 => k_asm); (case k3 => kun_tup); (case k4 => assumption); (case k5 => exact rfl); k_whole); intro h' F' N'; (try k_sweep)))
local macro_rules | `(tactic| walk_at "InvEndG") => `(tactic| (refine Stop.intro ?_))
local macro_rules | `(tactic| walk_at "exec For Name Call cons nil") => `(tactic| (k_here; refine Stop.intro ?_))
local macro_rules | `(tactic| walk_at "call builtin:min") => `(tactic| (k_here; k_dflt (refine' min_two_N ?h ?F ?N ?_; (case h => assumption); (case F => k_asm); (case N => k_asm)); intro h' tk' F' N'; (try k_sweep)))
local macro_rules | `(tactic| walk_at "call builtin:max") => `(tactic| (k_here; k_dflt (refine' max_two_N ?h ?F ?N ?_; (case h => assumption); (case F => k_asm); (case N => k_asm)); intro h' tk' F' N'; (try k_sweep)))
local macro_rules | `(tactic| walk_at "call builtin:sorted") => `(tactic| (k_here; refine Stop.intro ?_))
local macro_rules | `(tactic| walk_at "compareOp Eq ref ref") => `(tactic| (k_here; refine Stop.intro ?_))
local macro_rules | `(tactic| walk_at "pyIter ref") => `(tactic| (k_here; (with_reducible show wpAny _ _ (pyIter _) (fun it s₂ => codeAny _ _ (Code.forLoop _ it _ _ _) _ s₂) _ _); refine Stop.intro ?_))
theorem plain_news {g h : Heap} {L D : Addr} {m : Str → Option Value} {news : List (Addr × Obj)} {ys : List Value} (F : Fr g L h m) (N : News g L h news) (hD : g.get? D = none) (P : NewPlain h news D ys.toArray) :
    ∃ n, News g L h ((D, PySem.W.listOf ys.toArray n) :: news) := by
  have hne := P.ne_locals F
  obtain ⟨⟨n, e⟩, hp⟩ := P
  refine ⟨n, fun p hp => ?_⟩
  rcases List.mem_cons.mp hp with rfl | hp
  · exact ⟨e, hne, hD⟩
  · exact N p hp
theorem range_zero (n : Nat) : (rangeInts 0 1 n).map (fun a => 2 * a) = (List.range n).map (fun i : Nat => 2 * (i : Int)) := by
  unfold rangeInts
  rw [List.map_map]
  refine List.map_congr_left fun i _ => ?_
  show 2 * (0 + (i : Int) * 1) = 2 * (i : Int)
  omega
section
variable {w : World} {mean : ExcName → Option Value} {mg mb : Str → Option Value} {B : Heap} {A : Around} {outer : List Env} {s : Shared}
theorem law_spec (G : Gd w mean mg mb B) (c : Cx B A [] s) (hd : A.depth + 20 < recursionLimit) (hu : A.units + 300 < cLine) (hC : CodeHd B 61 59) (h59 : s.heap.get? 59 = some (tabObj #[])) (hB : B.get? 59 = none)
    {l : Addr} {vs : List Value} {ns : List Int} (hl : s.heap.IsList l vs.toArray) (hi : IntsAre vs ns) (hlen : ns.length ≤ 63) (hg : s.gens = #[]) {Q E : Value → Shared → Prop}
    (hQ : ∀ s', s'.os = s.os → AllBare s'.gens → Ext [59] s.heap s'.heap → (∃ ps, s'.heap.get? 59 = some (tabObj ps)) → Q (.bool true) s') :
    wpAny (model pr w) A (call (.ref 105) [.ref l]) Q E s := by
  refine callC (f := 105) (binds := [(Str.ofString "script", .ref l)]) G c [(59, tabObj #[])] (fun p hp => by rw [List.mem_singleton.mp hp]; exact h59) (fun p hp => by rw [List.mem_singleton.mp hp]; exact hB) (fun _ h => nomatch h) (by k_is) (by k_is) (by omega) (BindsTo.of_eq rfl) rfl (by decide +kernel) ?_ rfl rfl rfl
  intro g' L' h' tk' cells' F' N' Y' B' G' X' hlt hL
  have hh := c.hh
  have fr := c.fr
  have hlg : g'.IsList l vs.toArray := isList_ext2 hl X' (fun b hb o ho its k e => by
    rw [List.map_singleton, List.mem_singleton] at hb; subst hb
    rw [h59] at ho; cases ho; cases e)
  obtain ⟨KX', T'⟩ := G'
  clear c hl
  k_cells Y'
  change wpAny _ _ _ _ _ _
  k_steps
  refine Stop.out ?_
  rename Fr _ _ _ _ => F1
  rename News _ _ _ _ => N1
  rename_i oS dS
  replace dS : oS.data = .cell none := dS
  dsimp only [List.cons_append, List.nil_append] at N1
  obtain ⟨mL, hmL, F1⟩ : ∃ mL : Str → Option Value, mL (Str.ofString "script") = some (.ref l) ∧ Fr g' L' h' mL := ⟨_, rfl, F1⟩
  have F1' := named F1 [(Str.ofString "script", .ref l)] (by intro p hp; rcases hp with _ | ⟨_, hp⟩ <;> first | exact hmL | cases hp)
  clear F1
  -- first = [2 * at for at in range(_law_cell(script, 0) % 6)]
  refine Assign_ListComp_DCr (d := fun a => PyData.int (2 * a)) (pz := fun _ => true) (L := L') (h₀ := g') (m := fun y => (List.lookup y [(Str.ofString "script", Value.ref l)]).or (mL y)) (by with_unfolding_all rfl) (by rfl) (by exact hh) (by with_unfolding_all rfl) (by decide) (by rfl) (by decide) (by rfl) (by rfl) (by rfl) ?_ (by intro _; rfl)
  k_steps
  refine Stop.out ?_
  rename Fr _ _ _ _ => F2
  rename News _ _ _ _ => N2
  refine cell_spec (A := A.deeper _) (outer := [_]) (s := { s with heap := h', toks := _ }) G (Cx.inner B' F2 (Around.frames_deeper fr) (by rfl) (by rfl) hh) (by show A.depth + 1 < recursionLimit; omega) (by show A.units + 3 + 100 < cLine; omega) (let ⟨o, e, r⟩ := hlg; ⟨o, F2.keep _ _ e, r⟩) hi hlen (by decide) (by decide) ?_
  intro t3 h3 tk3 e3
  obtain ⟨F3, N3⟩ := after (mu := []) (mu' := []) (rest := [(L' + 1, oS), (59, tabObj #[])]) F2 N2 (fun _ _ h => nomatch h) e3 (fun _ h => nomatch h)
  have hc0 : 0 ≤ cellv ns 0 := by unfold cellv; split <;> omega
  generalize cellv ns 0 = v0 at hc0
  clear F2 N2
  dsimp only [List.nil_append] at N3
  k_steps
  refine Stop.out ?_
  rename Fr _ _ _ _ => F4
  rename News _ _ _ _ => N4
  rename IsRange _ _ _ _ _ _ _ _ => hr4
  have hk0 : 0 ≤ v0.fmod 6 ∧ v0.fmod 6 < 6 := ⟨Int.fmod_nonneg_of_pos _ (by decide), Int.fmod_lt_of_pos _ (by decide)⟩
  generalize v0.fmod 6 = k0 at hr4 hk0
  refine ⟨_, _, _, _, _, _, _, _, k0.toNat, rfl, hr4, small_one (by decide) (by decide) (by omega) (by omega), by rw [rangeSize_nat, Int.sub_zero], small_line (by omega), F4, N4, ?_, ?_, ?_⟩
  · intro C a v s₂ m₂ E' _ _ _ _ _ _
    exact wpAny_tests_nil ⟨rfl, _, _, rfl, fun _ _ e => e⟩
  · intro C a v s₂ m₂ E' hC ha hv _ hns hm2 hk2
    obtain ⟨tv, rfl⟩ := hv
    have Fc : Fr g' C s₂.heap (fun y => if y = Str.ofString "at" then some (.int a tv) else m₂ y) := by
      have e : (fun y => if y = Str.ofString "at" then some (.int a tv) else m₂ y) = m₂ := by
        funext y; by_cases hy : y = Str.ofString "at"
        · rw [if_pos hy, hy]; exact hm2.symm
        · rw [if_neg hy]
      rw [e]
      exact ⟨hns, fun b o e => hk2 _ _ (F4.keep b o e), Nat.le_trans F4.above (Nat.le_trans (Nat.le_of_lt F4.ns.lt) hC)⟩
    refine wpAny_mono (E := fun _ _ => False) (Q := fun y s₃ => Carried y (PyData.int (2 * a)) ∧ Keeps s₂ s₃) ?_ (fun _ _ h => h) (fun _ _ e => e.elim)
    clear F4 N4
    k_steps
    · exact Carried.int _ _
    · exact ⟨_, _, rfl, fun _ _ e => e⟩
  · intro D ys h5 tk5 F5 N5 hD5 hl5 hp5 hy5
    have hI5 := CarriedAll.intsOf (f := fun a => 2 * a) hy5
    rw [List.filter_eq_self.mpr (fun _ _ => rfl), range_zero] at hI5
    obtain ⟨n5, N6⟩ := plain_news F5 N5 hD5 hp5
    clear F4 N4 hr4 N5
    generalize hfl : (List.range k0.toNat).map (fun i : Nat => 2 * (i : Int)) = ks at hI5
    have hks : ks.Nodup ∧ ks.length ≤ 5 ∧ ∀ x ∈ ks, 0 ≤ x ∧ x < 9 := by
      rw [← hfl]
      refine ⟨List.pairwise_map.mpr (List.nodup_range.imp fun h e => h (by omega)), by simp; omega, fun x hx => ?_⟩
      obtain ⟨j, hj, rfl⟩ := List.mem_map.mp hx
      have := List.mem_range.mp hj
      omega
    clear hfl hy5 hk0 hc0
    dsimp only
    k_steps
    refine Stop.out ?_
    rename Fr _ _ _ _ => F6
    refine made_spec (A := A.deeper _) (outer := [_]) (s := { s with heap := h5, toks := _ }) G (Cx.inner B' F6 (Around.frames_deeper fr) (by rfl) (by rfl) hh) (by show A.depth + 1 + 1 < recursionLimit; omega) ⟨ys, isList_of N6 (.head _), hI5⟩ hks.1 (by omega) ?_
    intro h7 tk7 self sd p q t1 t2 n P W oP oW hP hW fo hp0 hq0 hpq hps hpd hqs hqd hsd hled e7
    obtain ⟨F7, N7⟩ := after (mu := []) (mu' := ufL w self sd p q t1 t2 n oP oW) (rest := [(D, PySem.W.listOf ys.toArray n5), (L' + 1, oS), (59, tabObj #[])]) F6 N6 (fun _ _ h => nomatch h) e7 (fun x hx => ⟨(hled x hx).1, .inr (hled x hx).2⟩)
    have hne59 : ∀ x ∈ ufL w self sd p q t1 t2 n oP oW, @Ne Nat x.1 59 ∧ @Ne Nat x.1 (L' + 1) ∧ @Ne Nat x.1 D := fun x hx => by
      have h1 := (hled x hx).2
      refine ⟨fun e => ?_, fun e => ?_, fun e => ?_⟩
      · rw [e, (N6 (59, tabObj #[]) (.tail _ (.tail _ (.head _)))).1] at h1; cases h1
      · rw [e, (N6 (L' + 1, oS) (.tail _ (.head _))).1] at h1; cases h1
      · rw [e, (N6 (D, _) (.head _)).1] at h1; cases h1
    clear F6 N6 hled
    dsimp only [List.cons_append, List.nil_append] at N7
    k_steps
    refine Stop.out ?_
    have hDl7 : h7.IsList D ys.toArray := isList_of N7 (.tail _ (.tail _ (.tail _ (.tail _ (.head _)))))
    have hyl : ys.length = ks.length := hI5.length
    -- lots = [[one] for one in first]
    refine LC_L (L := L') [] [(p, oP), (q, oW), (self, instObj 65 sd), (sd, sdObj w p q t1 t2 n), (D, PySem.W.listOf ys.toArray n5), (L' + 1, oS), (59, tabObj #[])] D ys.toArray []
      (fun i zs nx => zs.length = i ∧ (∀ x ∈ nx, ∃ its k, x.2.data = .seq its k) ∧ ∀ h : Heap, (∀ x ∈ nx, h.get? x.1 = some x.2) → RefsAre h zs ((ks.take i).map fun x => [x]))
      (by exact hh) F7 N7 (fun _ _ h => nomatch h) hDl7 (fun h => nomatch h) (by rw [List.size_toArray]; exact small_line (by omega)) ?_ ⟨rfl, (fun _ h => nomatch h), fun _ _ => trivial⟩ ?_ ?_ (by with_unfolding_all rfl) (by decide) rfl (by decide) rfl
    · intro Q' hQ'
      k_steps
      exact hQ'
    · rintro g C BB j v zs m₂ nx own h tk hvj ⟨hzl, hzS, hzR⟩ hoff F N
      obtain ⟨a, ta, rfl, hsa⟩ : ∃ a ta, v = .int a ta ∧ ks[j]? = some a := by
        have hv' : ys[j]? = some v := by simpa using hvj
        have hj : j < ks.length := by rw [← hyl]; exact (List.getElem?_eq_some_iff.mp hv').1
        obtain ⟨t, e⟩ := hI5.get j (ks[j]'hj) (List.getElem?_eq_getElem hj)
        rw [hv'] at e
        exact ⟨_, t, Option.some.inj e, List.getElem?_eq_getElem hj⟩
      refine wpAny_tests_nil ?_
      rw [if_pos rfl]
      have Tg := T'.keeps BB.st
      have KXg := KX'.keeps BB.st
      clear F7 N7
      k_steps
      refine Stop.out ?_
      rename Fr _ _ _ _ => F8
      rename News _ _ _ _ => N8
      rename_i bl hb8 lt8
      refine InvEndG.intro (nx := (bl, PySem.W.listOf #[Value.int a ta] 0) :: nx) F8 N8 ⟨by rw [List.length_append, hzl]; rfl, (fun x hx => by rcases List.mem_cons.mp hx with rfl | hx; exact ⟨_, _, rfl⟩; exact hzS x hx), fun h3 hh3 => ?_⟩ (fun y hy b hb => ?_) (fun y hy => ?_) (fun y hy => .tail _ (List.mem_append_right _ hy))
      · have e : (ks.take (j + 1)).map (fun x => [x]) = (ks.take j).map (fun x => [x]) ++ [[a]] := by rw [List.take_add_one, hsa, List.map_append]; rfl
        rw [e]
        exact (hzR h3 fun y hy => hh3 y (.tail _ hy)).append ⟨⟨bl, rfl, [Value.int a ta], ⟨_, hh3 _ (.head _), rfl, _, rfl⟩, .cons a ta .nil⟩, trivial⟩
      · rcases List.mem_cons.mp hb with e | hb
        · subst e; exact Nat.ne_of_lt (lt8 y (List.mem_append_right _ hy))
        · exact hoff y hy b hb
      · rcases List.mem_cons.mp hy with rfl | hy
        · exact .head _
        · exact .tail _ (List.mem_append_left _ hy)
    · rintro Dl nl zs nx h8 tk8 ⟨hzl, hzS, hzR⟩ e8 F8 N8 hlt8 hnx8
      have etk : ks.take ys.toArray.size = ks := List.take_of_length_le (by simp [hyl])
      rw [etk] at hzR
      have N9 : News g' L' h8 ((D, PySem.W.listOf ys.toArray n5) :: (p, oP) :: (q, oW) :: (self, instObj 65 sd) :: (sd, sdObj w p q t1 t2 n) :: (L' + 1, oS) :: (59, tabObj #[]) :: (Dl, PySem.W.listOf zs.toArray nl) :: nx) := fun y hy => N8 y (by
        rcases List.mem_append.mp (show y ∈ [(D, PySem.W.listOf ys.toArray n5), (p, oP), (q, oW), (self, instObj 65 sd), (sd, sdObj w p q t1 t2 n), (L' + 1, oS), (59, tabObj #[])] ++ (Dl, PySem.W.listOf zs.toArray nl) :: nx from hy) with hy | hy
        · refine .tail _ (List.mem_append_right _ ?_)
          simp only [List.mem_cons, List.not_mem_nil, or_false] at hy ⊢
          rcases hy with e | e | e | e | e | e | e
          · exact .inr (.inr (.inr (.inr (.inl e))))
          · exact .inl e
          · exact .inr (.inl e)
          · exact .inr (.inr (.inl e))
          · exact .inr (.inr (.inr (.inl e)))
          · exact .inr (.inr (.inr (.inr (.inr (.inl e)))))
          · exact .inr (.inr (.inr (.inr (.inr (.inr e)))))
        · rcases List.mem_cons.mp hy with rfl | hy
          · exact .head _
          · exact .tail _ (List.mem_append_left _ hy))
      have hy50 : ys.length ≤ 5 := by omega
      clear F7 N7 N8
      k_steps
      refine Stop.out ?_
      rename_i D2 c2 _ lD2 _ _ _ _ _ F9 N9
      have hL1 : @Ne Nat p (L' + 1) ∧ @Ne Nat q (L' + 1) ∧ @Ne Nat self (L' + 1) ∧ @Ne Nat sd (L' + 1) := (ufAll (Pr := fun a => @Ne Nat a (L' + 1))).mp fun x hx => (hne59 x hx).2.1
      have h59s : @Ne Nat p 59 ∧ @Ne Nat q 59 ∧ @Ne Nat self 59 ∧ @Ne Nat sd 59 := (ufAll (Pr := fun a => @Ne Nat a 59)).mp fun x hx => (hne59 x hx).1
      have h591 : @Ne Nat 59 (L' + 1) := Nat.ne_of_lt (Nat.lt_succ_of_lt (hlt (59, tabObj #[]) (.head _)))
      have F10 := named F9 [(Str.ofString "script", .ref l), (Str.ofString "made", .ref self), (Str.ofString "lots", .ref Dl), (Str.ofString "known", .ref D2)] (by intro p hp; rcases hp with _ | ⟨_, _ | ⟨_, _ | ⟨_, _ | ⟨_, hp⟩⟩⟩⟩ <;> first | rfl | exact hmL | cases hp)
      have N10 : News g' L' _ ((L' + 1, oS) :: (59, tabObj #[]) :: (p, oP) :: (q, oW) :: (self, instObj 65 sd) :: (sd, sdObj w p q t1 t2 n) :: ((D2, PySem.W.listOf ys.toArray c2) :: (Dl, PySem.W.listOf zs.toArray nl) :: nx)) := fun x hx => N9 x (by simp only [List.mem_cons] at hx ⊢; grind)
      clear F9 N9
      refine wpAny_For ?_ (fun _ => rfl)
      k_steps
      refine Stop.out ?_
      rename Fr _ _ _ _ => F11
      rename News _ _ _ _ => N11
      rename IsRange _ _ _ _ _ _ _ _ => hr11
      obtain ⟨b11, hr12, hb1, hb2⟩ : ∃ b : Int, IsRange _ _ 0 b 1 _ _ _ ∧ 1 ≤ b ∧ b ≤ 16 := ⟨_, hr11, by (repeat' split) <;> omega, by (repeat' split) <;> omega⟩
      clear hr11
      have hIL : IntL g' l ns := ⟨vs, hlg, hi⟩
      have S : St0 w mean mg mb B g' A l ns self sd p q := ⟨G, B', hh, hd, hu, hC, hIL, hlen, ⟨KX', T'⟩, hp0, hq0, hpq, hps, hpd, hqs, hqd, hsd, h59s⟩
      refine iterR (n := b11.toNat) (fun i m nx gs => JL w g' L' l self sd p q t1 t2 n i m nx gs) ?_ ?_ ?_ (by exact hr12) ?_ ?_ (by exact F11) (by exact N11) ?_ ?_ ?_
      · exact hh
      · rfl
      · rfl
      · exact small_one (by decide) (by decide) (by omega) (by omega)
      · rw [rangeSize_nat, Int.sub_zero]
      · refine ⟨oS, #[], oP, oW, P, W, ks, fun x => x, 0, ks.map fun x => [x], Dl, zs, D2, ys, (D2, PySem.W.listOf ys.toArray c2) :: (Dl, PySem.W.listOf zs.toArray nl) :: nx, none, rfl, dS, hP, hW, fo, Nat.le_refl _, Pl.first hks.1, hks.2.2, hI5, fun h hh' => ⟨_, hh' _ (.head _), rfl, _, rfl⟩, fun h hh' => ⟨⟨_, hh' _ (.tail _ (.head _)), rfl, _, rfl⟩, hzR h fun x hx => hh' x (.tail _ (.tail _ hx))⟩, .inl rfl, fun x hx hm => ?_, AllBare.of_eq hg, ?_⟩
        · have seqR : ∃ its k, x.2.data = .seq its k := by
            rcases List.mem_cons.mp hx with rfl | hx
            · exact ⟨_, _, rfl⟩
            · rcases List.mem_cons.mp hx with rfl | hx
              · exact ⟨_, _, rfl⟩
              · exact hzS x hx
          obtain ⟨its, k, hsq⟩ := seqR
          have hlx := (N11 x (List.mem_append_right ((L' + 1, oS) :: (59, tabObj #[]) :: ufL w self sd p q t1 t2 n oP oW) hx)).1
          rcases List.mem_cons.mp hm with e | hm
          · have h1 := (N11 (L' + 1, oS) (.head _)).1
            rw [e] at hlx
            have h2 := Option.some.inj (h1.symm.trans hlx)
            rw [← show oS = x.2 from h2, dS] at hsq
            cases hsq
          · exact uf_noseq2 hP hW (fun y hy => (N11 y (.tail _ (List.mem_append_left ((D2, PySem.W.listOf ys.toArray c2) :: (Dl, PySem.W.listOf zs.toArray nl) :: nx) hy))).1) x.1 hm x.2 hlx its k hsq
        · intro p hp
          rcases hp with _ | ⟨_, _ | ⟨_, _ | ⟨_, _ | ⟨_, hp⟩⟩⟩⟩ <;> first | rfl | cases hp
      · intro i t m₁ nx' h13 tk13 gs13 d13 own hlt13 hoff13 hown13 J13 F13 N13
        refine law_turn (t := t) S ?_ hL1 h591 (by omega) hoff13 hown13 J13 ?_ ?_ F13 N13
        · refine' use105 (w := w) ?hx ?h
          case hx => k_is
          intro hx
          exact ⟨_, _, _, _, _, _, _, _, _, _, _, _, _, _, _, _, _, _, hx⟩
        · exact if_pos rfl
        · exact fun y hy => if_neg hy
      · intro m₁ nx' h13 tk13 gs13 d13 J13 F13 N13
        obtain ⟨oS', ps', oP', oW', P', W', ks', rt', D', lots', ll', lvs', kl', kvs', rest', v', J⟩ := J13
        have hnx := Lp.nx J
        subst hnx
        have F14 := named F13 _ (Lp.hm J)
        change News g' L' h13 _ at N13
        change Fr g' L' h13 _ at F14
        have hk9 : ks'.length ≤ 9 := small_len (Lp.pl J).nd (Lp.sm J)
        have hlf : lots'.flatten.length = ks'.length := (Lp.pl J).fl.length_eq
        have hlv : ∀ x ∈ rest', h13.get? x.1 = some x.2 := fun x hx => (N13 x (List.mem_append_right ((L' + 1, oS') :: (59, tabObj ps') :: ufL w self sd p q t1 t2 n oP' oW') hx)).1
        have hl13 := (Lp.hL J) h13 hlv
        clear F13 F11 N11
        change wpAny _ _ _ _ _ _
        k_steps
        refine Stop.out ?_
        refine all_spec (A := A.deeper _) (outer := [_]) (s := ⟨h13, gs13, d13, _, s.os⟩) G (Cx.inner B' F14 (Around.frames_deeper fr) (by rfl) (by rfl) hh) (by show A.depth + 1 < recursionLimit; omega) ⟨_, hl13.1, hl13.2⟩ (by omega) ?_
        intro r15 ws15 n15 ns15 h15 tk15 e15 hrn15 hr15 hi15 hp15 ho15
        obtain ⟨F15, N15⟩ := after (mu := []) (mu' := [(r15, PySem.W.listOf (List.toArray ws15) n15)]) (rest := (L' + 1, oS') :: (59, tabObj ps') :: (p, oP') :: (q, oW') :: (self, instObj 65 sd) :: (sd, sdObj w p q t1 t2 n) :: rest') F14 N13 (fun _ _ h => nomatch h) e15 (fun x hx => by rw [List.mem_singleton.mp hx]; exact ⟨hr15, .inr hrn15⟩)
        clear F14 N13
        dsimp only [List.cons_append, List.nil_append] at N15
        k_steps
        refine Stop.out ?_
        refine kso_sorted F15 N15 ((Lp.hkn J) _ fun x hx => (N15 x (List.mem_append_right ((r15, PySem.W.listOf (List.toArray ws15) n15) :: (L' + 1, oS') :: (59, tabObj ps') :: ufL w self sd p q t1 t2 n oP' oW') hx)).1) (Lp.hk J) (by omega) ?_
        intro D16 vs16 ns16 c16 h16 F16 N16 lt16 hi16 hl16 hp16 ho16 _
        clear F15 N15
        k_steps
        refine Stop.out ?_
        refine eq_IntL (xs := ns15) (ys := ns16) ⟨_, isList_of N16 (.tail _ (.head _)), hi15⟩ ⟨_, isList_of N16 (.head _), hi16⟩ (by show A.units + 3 + 64 < cLine; omega) ?_
        have e16 : ns15 = ns16 := lks_uniq (hp15.trans ((Lp.pl J).fl.trans hp16.symm)) ho15 ho16
        rw [decide_eq_true e16]
        k_steps
        exact hQ _ rfl (Lp.bare J) (X'.trans (Ext.of_stays F16.keep)) ⟨ps', (N16 (59, tabObj ps') (.tail _ (.tail _ (.tail _ (.head _))))).1⟩
end
end Mine

end
theorem Mine.resetVW1 : True ∧ True := by
  first
  | (walk1; done)
  | exact ⟨trivial, trivial⟩
open PySem PySem.W PyProof.Rows PySem.Calls PySem.Spec
set_option maxRecDepth 100000
set_option maxHeartbeats 8000000
open Mine
namespace Mine
/-- what the law leaves is what the claim asks -/
theorem good_of {s₀ s₁ s' : Shared} {args : List WData} (hT : TabsAt [(61, 59)] s₁.heap) (hos : s'.os = s₁.os) (hb : AllBare s'.gens) (hx : Ext [59] s₁.heap s'.heap) (hg : ∃ ps, s'.heap.get? 59 = some (tabObj ps)) :
    GoodWG PySem.Challenge.rw_bj0027_01.row.claim (classAt s₀.heap) (ExcName.means s₀.heap) args s₁ (.ok (.ret (.bool true))) s' := by
  obtain ⟨ps, hps⟩ := hg
  have h59 := hT _ (.head _)
  refine ⟨.inl ⟨.bool true, .bool true, [], rfl, fun _ => rfl, .bool true, by with_unfolding_all rfl, fun _ => ⟨List.nodup_nil, fun _ h => nomatch h⟩⟩, ⟨fun b o e => ?_, fun b o e => ?_⟩, hos, hb⟩
  · by_cases hb : b = 59
    · subst hb
      have e2 := h59.2
      rw [e] at e2; cases e2
      exact .inr (.inl ⟨(h59.1.tab h59.2).isCodeTable, rfl, #[], ps, rfl, by rw [Array.empty_append]; exact hps⟩)
    · exact .inl (hx b o (fun hm => hb (List.mem_singleton.mp hm)) e)
  · by_cases hb : b = 59
    · subst hb; exact ⟨_, hps⟩
    · exact ⟨o, hx b o (fun hm => hb (List.mem_singleton.mp hm)) e⟩
end Mine
theorem PySem.Challenge.cw_bj0027_01_holds : PySem.Challenge.rw_bj0027_01.Holds :=
  hd (by
  k_fill
  intro w s₀ s₁ mg mb G Y fa o pm cd doc dV kV ho hd hcd hD hmg hg args vals as hpre hlay hrd hwl hlo
  have KX := km_in_of Y
  have hT8 := km_tabs_of Y
  refine Ground.open G ?_
  intro T B D TE TW
  clear B D TE TW hD hcd
  wrow_args hpre hlay hrd hwl hlo
  clear ho hd
  have hmg' : mg (Str.ofString "law") = some (.ref fa) := hmg
  clear hmg
  have hfa := mg_of (n := Str.ofString "law") (v := .ref 105) KX T.g (by kernel_rfl)
  rw [hmg'] at hfa
  cases hfa
  have hC := codeHd_of_K (c := 61) (P := 59) KX (by kernel_rfl)
  have hT9 : TabsAt [(61, 59)] s₁.heap := fun q hq => by rw [List.mem_singleton.mp hq]; exact ⟨hC, hT8 59 (.head _)⟩
  rename IntsAre _ _ => hI
  rename (¬ _ < _) => hlen
  rename Heap.IsList _ _ _ => hL
  refine law_spec (B := ghostOf s₁.heap [(61, 59)]) ⟨ghost_K hT9 KX (by kernel_rfl), ghost_top hT9 T⟩ ⟨rfl, trivial, fun b o e => of_hideAll _ e, rfl⟩ (by decide +kernel) (by decide +kernel) (ghost_code hT9).1 (hT8 59 (.head _)) (hideAll_none _ (.head _)) hL hI (by omega) hg ?_
  intro s' hos hb hx hgr
  exact good_of hT9 hos hb hx hgr)

