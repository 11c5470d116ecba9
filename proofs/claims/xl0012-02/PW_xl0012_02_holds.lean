import PyProof.Rows.All
import Wide.All
import OpenK.AllK
import Wide.FinOn
import PySem.Challenge.RW_xl0012_02
set_option Elab.async false
set_option maxRecDepth 100000
set_option compiler.extract_closed false
section
open PySem PySem.W PyProof.Rows
namespace Mine2
noncomputable def says2 (K : Params → Frag) (w : World) (h : Heap) : Prop := (K w.params).In h ∧ h.TableAt 81 77 #[] ∧ h.TableAt 88 84 #[]
noncomputable def hook2 (K : Params → Frag) (as : List Addr) (e : ∀ P, as = (K P).map (·.1)) : Hook :=
  ⟨List (Option Obj) × Option Addr × Option Addr, fun s => (as.map s.heap.get?, s.heap.tab0At 81, s.heap.tab0At 88), fun w => ((K w.params).map fun p => some p.2, some 77, some 84), says2 K,
    fun w s x => ⟨InK.of e w s (congrArg Prod.fst x), (Heap.tab0At_spec (congrArg (fun x => x.2.1) x)).2, (Heap.tab0At_spec (congrArg (fun x => x.2.2) x)).2⟩,
    fun _ _ _ x k => ⟨x.1.keeps k, x.2.1.keeps k, x.2.2.keeps k⟩⟩
set_option maxHeartbeats 8000000 in
theorem said : OpenLaw.wellSaid PySem.Challenge.rw_xl0012_02 = true := by
  first
  | (rw [Fast.te9446332074065402090]; kernel_rfl)
  | kernel_rfl
noncomputable def view : Program := { PySem.Challenge.pw_xl0012_02 with main := { PySem.Challenge.pw_xl0012_02.main with body := [0, 2, 3, 4, 5, 6, 8, 9, 11, 12, 13, 15, 16, 17, 18, 19, 20].filterMap (PySem.Challenge.pw_xl0012_02.main.body[·]?) } }
end Mine2
open Lean in
local macro_rules | `(tactic| o_head (kHook $k $a $e)) => do
  let (hw, hc) := (mkIdent `hw, mkIdent `hc)
  `(tactic| (refine holds_open (q := Mine2.view) (loose := [Str.ofString "_Accumulator"]) (Xt := fun s => xlAt Mine2.view [] s && recOk (RowW.records (OpenRow.toRowW (OpenLaw.row PySem.Challenge.rw_xl0012_02))) s) (XP := XL Mine2.view []) (Yf := Hook.obs (Mine2.hook2 $k $a $e)) (Ya := Hook.val (Mine2.hook2 $k $a $e)) (YP := Hook.says (Mine2.hook2 $k $a $e)) (N := 2728) ?hl (Hook.of (Mine2.hook2 $k $a $e)) (Hook.keeps (Mine2.hook2 $k $a $e)) (fun s e => xl_of s (Bool.and_eq_true_iff.mp e).1) XL.keeps (by rfl) (by rfl) (by rfl) (fun s e => recFacts_of (Bool.and_eq_true_iff.mp e).2) (by rfl) (by first | assumption | decide +kernel) (by decide +kernel) ⟨rfl, rfl, rfl, rfl, rfl, by decide +kernel⟩ ?$hw ?$hc
             case hl => (intro w; first | (unfold openEnds fencedOpening topFrom xlAt recOk openGood; rw [Fast.te14082659384304107361, Fast.te10274390034422433532, Fast.te1435165496053646825, Fast.te14289696077712309145, Fast.te14364793385576792824, Fast.te4187177175401517315, Fast.te8920871248978507458, Fast.te964301259703733418, Fast.sDec_eq, Fast.te3247288618530077131, Fast.te821141287760084731, Fast.te5923862056798008813]; kernel_rfl) | kernel_rfl)))
local macro_rules | `(tactic| o_law) => `(tactic| refine holds_law Mine2.said fun said => ?_)
namespace Mine2
set_option maxHeartbeats 8000000 in
open_top hd for PySem.Challenge.rw_xl0012_02
end Mine2
end
namespace VC
open PySem PySem.W PyProof.Rows PySem.Calls PySem.Spec

/-- values without identity -/
inductive PV where
  | none | bool (b : Bool) | int (i : Int) | str (s : Str) | tup (vs : List PV) | ref (a : Addr)
/-- what a name may hold: a value, or a handle of a thing that may change -/
inductive LV where
  | v (p : PV) | o (k : Nat)
/-- the things that may change -/
inductive AO where
  | lst (vs : List PV)
  /-- a list as it was made: its object is known -/
  | lsd (vs : List PV)
  | acc (d : Nat) (vs : List PV)
  | dct (n : Option Int)
  | tab (c : Addr)
  | cel (p : Option PV)

structure PE where
  prog : Program
  w : World
  K : Frag
  view : Program
  loose : List Str
  mg : Str → Option Value
  mb : Str → Option Value
  C : Addr
  sl : Addr
  sv : List Value
  sn : List Int

noncomputable def PE.Gd (P : PE) (g : Heap) : Prop := P.K.In g ∧ TopRead P.view P.loose P.mg P.mb g
theorem PE.Gd.keeps {P : PE} {g g' : Heap} (G : P.Gd g) (k : ∀ b o, g.get? b = some o → g'.get? b = some o) : P.Gd g' := ⟨G.1.keeps k, G.2.keeps k⟩
/-- the ground that the law stands on -/
noncomputable def PE.Bs (P : PE) (base : Heap) : Prop := P.K.In base ∧ ∃ p loose mean, Top p loose mean P.mg P.mb base
/-- the list that the law is called with stands -/
noncomputable def PE.Sc (P : PE) (g : Heap) : Prop := g.IsList P.sl P.sv.toArray ∧ IntsAre P.sv P.sn ∧ ∃ bm ob, BMod g mainGlobals P.mg bm ob
theorem PE.Sc.keeps {P : PE} {g g' : Heap} (G : P.Sc g) (k : ∀ b o, g.get? b = some o → g'.get? b = some o) : P.Sc g' := by
  obtain ⟨⟨o, e, q⟩, r, bm, ob, B⟩ := G
  exact ⟨⟨o, k _ _ e, q⟩, r, bm, ob, B.keeps k⟩

mutual
noncomputable def VRel (h : Heap) : PV → Value → Prop
  | .none, v => v = .none
  | .bool b, v => v = .bool b
  | .int i, v => ∃ t, v = .int i t
  | .str s, v => ∃ t, v = .str s t
  | .tup ps, v => ∃ a ws, v = .ref a ∧ IsTup h a ws ∧ VRels h ps ws.toList
  | .ref a, v => v = .ref a
noncomputable def VRels (h : Heap) : List PV → List Value → Prop
  | [], ws => ws = []
  | p :: ps, ws => ∃ w ws', ws = w :: ws' ∧ VRel h p w ∧ VRels h ps ws'
end

noncomputable def KT (h h' : Heap) : Prop := ∀ b ws, IsTup h b ws → IsTup h' b ws
theorem KT.refl (h : Heap) : KT h h := fun _ _ x => x
theorem KT.trans {a b c : Heap} (x : KT a b) (y : KT b c) : KT a c := fun d ws z => y d ws (x d ws z)
theorem KT.of_keep {h h' : Heap} (k : ∀ b o, h.get? b = some o → h'.get? b = some o) : KT h h' := fun _ _ x => x.keeps k

mutual
theorem VRel.mono {h h' : Heap} (k : KT h h') : ∀ (p : PV) {v : Value}, VRel h p v → VRel h' p v
  | .none, _, r => r
  | .bool _, _, r => r
  | .int _, _, r => r
  | .str _, _, r => r
  | .tup ps, _, r => by
    obtain ⟨a, ws, e, t, rs⟩ := r
    exact ⟨a, ws, e, k _ _ t, VRels.mono k ps rs⟩
  | .ref _, _, r => r
theorem VRels.mono {h h' : Heap} (k : KT h h') : ∀ (ps : List PV) {ws : List Value}, VRels h ps ws → VRels h' ps ws
  | [], _, r => r
  | p :: ps, _, r => by
    obtain ⟨w, ws', e, r1, r2⟩ := r
    exact ⟨w, ws', e, VRel.mono k p r1, VRels.mono k ps r2⟩
end

theorem VRels.length {h : Heap} : ∀ {ps : List PV} {ws : List Value}, VRels h ps ws → ws.length = ps.length
  | [], _, r => by cases r; rfl
  | p :: ps, _, r => by
    obtain ⟨w, ws', e, _, r2⟩ := r
    rw [e, List.length_cons, List.length_cons, VRels.length r2]
theorem VRels.get {h : Heap} : ∀ {ps : List PV} {ws : List Value}, VRels h ps ws → ∀ (i : Nat) {p : PV}, ps[i]? = some p → ∃ w, ws[i]? = some w ∧ VRel h p w
  | [], _, _, i, p, e => by simp at e
  | q :: ps, _, r, i, p, e => by
    obtain ⟨w, ws', e', r1, r2⟩ := r
    subst e'
    cases i with
    | zero => simp at e; subst e; exact ⟨w, rfl, r1⟩
    | succ i => simpa using VRels.get r2 i (by simpa using e)
theorem VRels.get' {h : Heap} : ∀ {ps : List PV} {ws : List Value}, VRels h ps ws → ∀ (i : Nat) {w : Value}, ws[i]? = some w → ∃ p, ps[i]? = some p ∧ VRel h p w := by
  intro ps ws r i w e
  have hl := r.length
  have hi : i < ps.length := by rw [← hl]; exact (List.getElem?_eq_some_iff.mp e).1
  obtain ⟨w', e', r'⟩ := r.get i (List.getElem?_eq_getElem hi)
  rw [e] at e'
  cases e'
  exact ⟨_, List.getElem?_eq_getElem hi, r'⟩
theorem VRels.nil {h : Heap} : VRels h [] [] := rfl
theorem VRels.cons {h : Heap} {p : PV} {ps : List PV} {w : Value} {ws : List Value} (a : VRel h p w) (b : VRels h ps ws) : VRels h (p :: ps) (w :: ws) := ⟨w, ws, rfl, a, b⟩
theorem VRels.append {h : Heap} : ∀ {ps qs : List PV} {ws xs : List Value}, VRels h ps ws → VRels h qs xs → VRels h (ps ++ qs) (ws ++ xs)
  | [], _, _, _, a, b => by cases a; exact b
  | p :: ps, _, _, _, a, b => by
    obtain ⟨w, ws', e, r1, r2⟩ := a
    subst e
    exact ⟨w, _, rfl, r1, r2.append b⟩
theorem VRels.of_get {h : Heap} : ∀ {ps : List PV} {ws : List Value}, ps.length = ws.length → (∀ (i : Nat) (p : PV) (w : Value), ps[i]? = some p → ws[i]? = some w → VRel h p w) → VRels h ps ws
  | [], [], _, _ => rfl
  | [], _ :: _, e, _ => by simp at e
  | _ :: _, [], e, _ => by simp at e
  | p :: ps, w :: ws, e, f => ⟨w, ws, rfl, f 0 p w rfl rfl, VRels.of_get (by simpa using e) fun i p' w' a b => f (i + 1) p' w' (by simpa using a) (by simpa using b)⟩

noncomputable def LRel (h : Heap) (θ : List Addr) : LV → Value → Prop
  | .v p, v => VRel h p v
  | .o k, v => ∃ a, θ[k]? = some a ∧ v = .ref a
noncomputable def LRels (h : Heap) (θ : List Addr) : List LV → List Value → Prop
  | [], vs => vs = []
  | l :: ls, vs => ∃ v vs', vs = v :: vs' ∧ LRel h θ l v ∧ LRels h θ ls vs'

theorem pre_get {θ θ' : List Addr} (p : θ <+: θ') {k : Nat} {a : Addr} (e : θ[k]? = some a) : θ'[k]? = some a := by
  obtain ⟨t, rfl⟩ := p
  rw [List.getElem?_append_left (List.getElem?_eq_some_iff.mp e).1]; exact e
theorem LRel.mono {h h' : Heap} {θ θ' : List Addr} (k : KT h h') (p : θ <+: θ') : ∀ (l : LV) {v : Value}, LRel h θ l v → LRel h' θ' l v
  | .v p, _, r => VRel.mono k p r
  | .o _, _, r => let ⟨a, e, q⟩ := r; ⟨a, pre_get p e, q⟩
theorem LRels.mono {h h' : Heap} {θ θ' : List Addr} (k : KT h h') (p : θ <+: θ') : ∀ (ls : List LV) {vs : List Value}, LRels h θ ls vs → LRels h' θ' ls vs
  | [], _, r => r
  | l :: ls, _, r => by
    obtain ⟨v, vs', e, r1, r2⟩ := r
    exact ⟨v, vs', e, LRel.mono k p l r1, LRels.mono k p ls r2⟩

noncomputable def IK : Str := Str.ofString "_initial_size"

noncomputable def tabOf (K : Frag) (c : Addr) : Option Addr := match K.lookup c with
  | some ⟨_, _, .fields vs, _⟩ => (match vs.getD 11 .none with | .ref a => some a | _ => none)
  | _ => none

noncomputable def ORel (P : PE) (h : Heap) (θ : List Addr) : AO → Addr → Prop
  | .lst vs, a => ∃ ws, h.IsList a ws ∧ VRels h vs ws.toList
  | .lsd vs, a => ∃ ws n, h.get? a = some { cls := .type "list", data := .seq ws n } ∧ VRels h vs ws.toList
  | .acc d vs, a => ∃ o ws n dx, θ[d]? = some dx ∧ h.get? a = some o ∧ o.cls = .ref P.C ∧ o.dict = some dx ∧ o.data = .seq ws n ∧ VRels h vs ws.toList
  | .dct none, a => h.get? a = some (dictOf [] 0)
  | .dct (some i), a => ∃ tk t n, h.get? a = some (dictOf [⟨PyData.keyHash P.w.params IK, .str IK tk, .int i t⟩] n)
  | .tab c, a => tabOf P.K c = some a ∧ ∃ ps, h.get? a = some { cls := .none, data := .fields ps } ∧ TriplesOk ps.toList
  | .cel p, a => ∃ o ov, h.get? a = some o ∧ o.data = .cell ov ∧ match p, ov with
      | Option.none, Option.none => True
      | some p, some v => VRel h p v
      | _, _ => False

/-- the object is no tuple -/
noncomputable def NoTup (o : Obj) : Prop := ¬ (o.cls = .type "tuple" ∧ ∃ ws n, o.data = .seq ws n)

theorem ORel.alive {P : PE} {h : Heap} {θ : List Addr} : ∀ (ao : AO) {a : Addr}, ORel P h θ ao a → ∃ o, h.get? a = some o ∧ NoTup o
  | .lst _, _, r => by
    obtain ⟨ws, ⟨o, e, hc, _⟩, _⟩ := r
    exact ⟨_, e, fun q => by have := q.1; rw [hc] at this; simp at this⟩
  | .lsd _, _, r => by
    obtain ⟨ws, n, e, _⟩ := r
    exact ⟨_, e, fun q => by have := q.1; simp at this⟩
  | .acc _ _, _, r => by
    obtain ⟨o, ws, n, dx, _, e, hc, _⟩ := r
    exact ⟨_, e, fun q => by have := q.1; rw [hc] at this; simp at this⟩
  | .dct none, _, r => ⟨_, r, fun q => by simp at q⟩
  | .dct (some _), _, r => by
    obtain ⟨tk, t, n, e⟩ := r
    exact ⟨_, e, fun q => by simp at q⟩
  | .tab _, _, r => by
    obtain ⟨_, ps, hop, _⟩ := r
    exact ⟨_, hop, fun q => by obtain ⟨q, _⟩ := q; cases q⟩
  | .cel _, _, r => by
    obtain ⟨o, ov, e, d, _⟩ := r
    exact ⟨_, e, fun q => by obtain ⟨_, ws, n, e'⟩ := q; rw [d] at e'; cases e'⟩

structure HRel (P : PE) (h : Heap) (θ : List Addr) (hp : List AO) : Prop where
  len : θ.length = hp.length
  nd : θ.Nodup
  obj : ∀ (k : Nat) (a : Addr) (ao : AO), θ[k]? = some a → hp[k]? = some ao → ORel P h θ ao a
  accd : ∀ (i d : Nat) (vs : List PV), hp[i]? = some (.acc d vs) → d < i

theorem HRel.at {P : PE} {h : Heap} {θ : List Addr} {hp : List AO} (H : HRel P h θ hp) {k : Nat} {ao : AO} (e : hp[k]? = some ao) : ∃ a, θ[k]? = some a ∧ ORel P h θ ao a := by
  have hk : k < θ.length := by rw [H.len]; exact (List.getElem?_eq_some_iff.mp e).1
  exact ⟨_, List.getElem?_eq_getElem hk, H.obj _ _ _ (List.getElem?_eq_getElem hk) e⟩
theorem HRel.mem {P : PE} {h : Heap} {θ : List Addr} {hp : List AO} (H : HRel P h θ hp) {a : Addr} (m : a ∈ θ) : ∃ o, h.get? a = some o ∧ NoTup o := by
  obtain ⟨k, e⟩ := List.getElem?_of_mem m
  have hk : k < hp.length := by rw [← H.len]; exact (List.getElem?_eq_some_iff.mp e).1
  exact ORel.alive _ (H.obj _ _ _ e (List.getElem?_eq_getElem hk))

/-- what is known of a def's frames: its qualname, scope, address, code, its cells by handle -/
structure FE where
  qual : Str
  scope : Scope
  fa : Addr
  code : Value
  cells : List (Str × Nat)
  /-- the law itself -/
  top : Bool

structure Fx where
  A : Around
  g : Heap
  L : Addr
  cl : List (Str × Addr)

noncomputable abbrev FE.env (fe : FE) (X : Fx) : Env := envX fe.qual fe.scope X.L fe.fa fe.code X.cl

structure Cx (P : PE) (fe : FE) (n : Nat) (X : Fx) : Prop where
  hA : X.A.handled = none
  dep : X.A.depth + (6 * n + 6) < recursionLimit
  un : X.A.units + (60 * n + 120) < cLine
  gd : P.Gd X.g
  sc : P.Sc X.g
  below : ∃ outer A₀ base, X.A.frames = some (fe.env X :: outer) ∧ Below A₀ base outer X.g
  kind : fe.scope.kind = .function
  flat : fe.top = true → ∃ A₀ base, X.A.frames = some [fe.env X] ∧ Below A₀ base [] X.g ∧ P.Bs base

theorem Cx.mono {P : PE} {fe : FE} {n n' : Nat} {X : Fx} (C : Cx P fe n X) (h : n' ≤ n) : Cx P fe n' X :=
  ⟨C.hA, by have := C.dep; omega, by have := C.un; omega, C.gd, C.sc, C.below, C.kind, C.flat⟩

abbrev Loc := List (Str × LV)

structure SR (P : PE) (fe : FE) (X : Fx) (m : Str → Option Value) (loc : Loc) (hp : List AO) (θ : List Addr) (s : Shared) : Prop where
  fr : Fr X.g X.L s.heap m
  loc : ∀ (x : Str) (lv : LV), loc.lookup x = some lv → ∃ v, m x = some v ∧ LRel s.heap θ lv v
  H : HRel P s.heap θ hp
  free : ∀ a ∈ θ, X.g.get? a = none ∧ a ≠ X.L
  bare : AllBare s.gens
  cells : ∀ (x : Str) (k : Nat), fe.cells.lookup x = some k → ∃ a, X.cl.lookup x = some a ∧ θ[k]? = some a

structure St (L : Addr) (θ : List Addr) (s : Shared) (θ' : List Addr) (s' : Shared) : Prop where
  pre : θ <+: θ'
  keep : ∀ (b : Addr) (o : Obj), b ≠ L → b ∉ θ → s.heap.get? b = some o → s'.heap.get? b = some o
  fresh : ∀ a ∈ θ', a ∈ θ ∨ s.heap.get? a = none
  os : s'.os = s.os

theorem St.refl (L : Addr) (θ : List Addr) (s : Shared) : St L θ s θ s := ⟨List.prefix_refl _, fun _ _ _ _ e => e, fun _ h => .inl h, rfl⟩

theorem Fr.alive {g : Heap} {L : Addr} {h : Heap} {m : Str → Option Value} (F : Fr g L h m) : ∃ o, h.get? L = some o ∧ NoTup o := by
  obtain ⟨o, es, ep, e, d, _⟩ := F.ns
  exact ⟨o, e, fun q => by obtain ⟨_, ws, n, e'⟩ := q; rw [d] at e'; cases e'⟩

section
variable {P : PE} {fe : FE} {X : Fx} {m m' m'' : Str → Option Value} {loc loc' loc'' : Loc} {hp hp' hp'' : List AO} {θ θ' θ'' : List Addr} {s s' s'' : Shared}

theorem St.trans (a : St X.L θ s θ' s') (S : SR P fe X m' loc' hp' θ' s') (b : St X.L θ' s' θ'' s'') : St X.L θ s θ'' s'' where
  pre := a.pre.trans b.pre
  keep := fun c o h1 h2 e => b.keep c o h1 (fun hm => by
    rcases a.fresh c hm with h | h
    · exact h2 h
    · rw [e] at h; cases h) (a.keep c o h1 h2 e)
  fresh := fun c hc => by
    rcases b.fresh c hc with h | h
    · exact a.fresh c h
    · by_cases h1 : c ∈ θ
      · exact .inl h1
      · refine .inr ?_
        cases e : s.heap.get? c with
        | none => rfl
        | some o =>
          by_cases h2 : c = X.L
          · subst h2
            obtain ⟨o', e', _⟩ := Fr.alive S.fr
            rw [h] at e'; cases e'
          · have := a.keep c o h2 h1 e; rw [h] at this; cases this
  os := b.os.trans a.os

theorem SR.kt (S : SR P fe X m loc hp θ s) (st : St X.L θ s θ' s') : KT s.heap s'.heap := by
  intro b ws t
  obtain ⟨o, ho, hc, n, hd⟩ := t
  refine ⟨o, st.keep b o (fun q => ?_) (fun q => ?_) ho, hc, n, hd⟩
  · subst q
    obtain ⟨o', e', nt⟩ := Fr.alive S.fr
    rw [ho] at e'; cases e'
    exact nt ⟨hc, ws, n, hd⟩
  · obtain ⟨o', e', nt⟩ := S.H.mem q
    rw [ho] at e'; cases e'
    exact nt ⟨hc, ws, n, hd⟩

theorem SR.rel (S : SR P fe X m loc hp θ s) (st : St X.L θ s θ' s') {l : LV} {v : Value} (r : LRel s.heap θ l v) : LRel s'.heap θ' l v := LRel.mono (S.kt st) st.pre l r
theorem SR.rels (S : SR P fe X m loc hp θ s) (st : St X.L θ s θ' s') {ls : List LV} {vs : List Value} (r : LRels s.heap θ ls vs) : LRels s'.heap θ' ls vs := LRels.mono (S.kt st) st.pre ls r

/-- the heap stands, the counts may turn -/
theorem SR.same (S : SR P fe X m loc hp θ s) (hh : s'.heap = s.heap) (hg : s'.gens = s.gens) : SR P fe X m loc hp θ s' :=
  ⟨hh ▸ S.fr, hh ▸ S.loc, hh ▸ S.H, S.free, hg ▸ S.bare, S.cells⟩
theorem St.same (hh : s'.heap = s.heap) (ho : s'.os = s.os) : St X.L θ s θ s' := ⟨List.prefix_refl _, fun _ _ _ _ e => by rw [hh]; exact e, fun _ h => .inl h, ho⟩

theorem ORel.keep {h h' : Heap} (kt : KT h h') (p : θ <+: θ') : ∀ (ao : AO) {a : Addr}, (∀ o, h.get? a = some o → h'.get? a = some o) → ORel P h θ ao a → ORel P h' θ' ao a
  | .lst _, _, k, r => by
    obtain ⟨ws, ⟨o, e, q⟩, rs⟩ := r
    exact ⟨ws, ⟨o, k _ e, q⟩, VRels.mono kt _ rs⟩
  | .lsd _, _, k, r => by
    obtain ⟨ws, n, e, rs⟩ := r
    exact ⟨ws, n, k _ e, VRels.mono kt _ rs⟩
  | .acc _ _, _, k, r => by
    obtain ⟨o, ws, n, dx, e1, e, q1, q2, q3, rs⟩ := r
    exact ⟨o, ws, n, dx, pre_get p e1, k _ e, q1, q2, q3, VRels.mono kt _ rs⟩
  | .dct none, _, k, r => k _ r
  | .dct (some _), _, k, r => by
    obtain ⟨tk, t, n, e⟩ := r
    exact ⟨tk, t, n, k _ e⟩
  | .tab c, a, k, r => by
    obtain ⟨e, ps, hop, ht⟩ := r
    exact ⟨e, ps, k _ hop, ht⟩
  | .cel q, _, k, r => by
    obtain ⟨o, ov, e, d, rs⟩ := r
    refine ⟨o, ov, k _ e, d, ?_⟩
    cases q <;> cases ov <;> first | exact rs | exact VRel.mono kt _ rs

/-- everything but the frame stands as it stood -/
theorem St.keepL (k : ∀ (b : Addr) (o : Obj), b ≠ X.L → s.heap.get? b = some o → s'.heap.get? b = some o) (ho : s'.os = s.os) : St X.L θ s θ s' :=
  ⟨List.prefix_refl _, fun b o h _ e => k b o h e, fun _ h => .inl h, ho⟩
theorem SR.keepL (S : SR P fe X m loc hp θ s) (F' : Fr X.g X.L s'.heap m) (k : ∀ (b : Addr) (o : Obj), b ≠ X.L → s.heap.get? b = some o → s'.heap.get? b = some o) (bare : AllBare s'.gens) (ho : s'.os = s.os) : SR P fe X m loc hp θ s' := by
  have kt := S.kt (St.keepL (θ := θ) k ho)
  exact ⟨F', fun x lv e => let ⟨v, e1, r⟩ := S.loc x lv e; ⟨v, e1, LRel.mono kt (List.prefix_refl _) _ r⟩,
    ⟨S.H.len, S.H.nd, fun i a ao e1 e2 => ORel.keep kt (List.prefix_refl _) _ (fun o e => k a o (S.free a (List.mem_of_getElem? e1)).2 e) (S.H.obj i a ao e1 e2), S.H.accd⟩, S.free, bare, S.cells⟩
/-- nothing that stood has turned -/
theorem SR.grow (S : SR P fe X m loc hp θ s) (k : ∀ (b : Addr) (o : Obj), s.heap.get? b = some o → s'.heap.get? b = some o) (bare : AllBare s'.gens) (ho : s'.os = s.os) : SR P fe X m loc hp θ s' :=
  S.keepL ⟨S.fr.ns.keeps k, fun b o e => k b o (S.fr.keep b o e), S.fr.above⟩ (fun b o _ e => k b o e) bare ho
theorem St.grow (k : ∀ (b : Addr) (o : Obj), s.heap.get? b = some o → s'.heap.get? b = some o) (ho : s'.os = s.os) : St X.L θ s θ s' := St.keepL (fun b o _ e => k b o e) ho

/-- the frame's map turns -/
theorem SR.setLoc (S : SR P fe X m loc hp θ s) (F' : Fr X.g X.L s'.heap m') (k : ∀ (b : Addr) (o : Obj), b ≠ X.L → s.heap.get? b = some o → s'.heap.get? b = some o) (hg : s'.gens = s.gens) (ho : s'.os = s.os)
    (hl : ∀ (x : Str) (lv : LV), loc'.lookup x = some lv → ∃ v, m' x = some v ∧ LRel s.heap θ lv v) : SR P fe X m' loc' hp θ s' := by
  have kt := S.kt (St.keepL (θ := θ) k ho)
  exact ⟨F', fun x lv e => let ⟨v, e1, r⟩ := hl x lv e; ⟨v, e1, LRel.mono kt (List.prefix_refl _) _ r⟩,
    ⟨S.H.len, S.H.nd, fun i a ao e1 e2 => ORel.keep kt (List.prefix_refl _) _ (fun o e => k a o (S.free a (List.mem_of_getElem? e1)).2 e) (S.H.obj i a ao e1 e2), S.H.accd⟩, S.free, hg ▸ S.bare, S.cells⟩

theorem SR.lt (S : SR P fe X m loc hp θ s) {a : Addr} (h : a ∈ θ) : a < s.heap.objs.size := let ⟨_, e, _⟩ := S.H.mem h; Heap.lt_size e
theorem SR.ltL (S : SR P fe X m loc hp θ s) : X.L < s.heap.objs.size := S.fr.ns.lt

/-- a new thing gets a handle -/
theorem SR.new (S : SR P fe X m loc hp θ s) {a : Addr} {ao : AO} (k : ∀ (b : Addr) (o : Obj), s.heap.get? b = some o → s'.heap.get? b = some o) (hn : s.heap.get? a = none) (r : ORel P s'.heap (θ ++ [a]) ao a) (hacc : ∀ d vs, ao = .acc d vs → d < hp.length) (bare : AllBare s'.gens) (ho : s'.os = s.os) :
    SR P fe X m loc (hp ++ [ao]) (θ ++ [a]) s' ∧ St X.L θ s (θ ++ [a]) s' := by
  have st : St X.L θ s (θ ++ [a]) s' := ⟨List.prefix_append _ _, fun b o _ _ e => k b o e, fun b hb => by
    rcases List.mem_append.mp hb with h | h
    · exact .inl h
    · exact .inr (List.mem_singleton.mp h ▸ hn), ho⟩
  have kt := S.kt st
  refine ⟨⟨⟨S.fr.ns.keeps k, fun b o e => k b o (S.fr.keep b o e), S.fr.above⟩, fun x lv e => let ⟨v, e1, r⟩ := S.loc x lv e; ⟨v, e1, LRel.mono kt st.pre _ r⟩,
    ⟨by rw [List.length_append, List.length_append, S.H.len]; rfl, ?_, ?_, ?_⟩, ?_, bare, fun x i e => let ⟨b, e1, e2⟩ := S.cells x i e; ⟨b, e1, pre_get st.pre e2⟩⟩, st⟩
  · rw [List.nodup_append]
    refine ⟨S.H.nd, List.nodup_cons.mpr ⟨List.not_mem_nil, List.nodup_nil⟩, fun b hb c hc q => ?_⟩
    rw [List.mem_singleton.mp hc] at q
    obtain ⟨o, e, _⟩ := S.H.mem hb
    rw [q, hn] at e; cases e
  · intro i b ao' e1 e2
    by_cases hi : i < θ.length
    · rw [List.getElem?_append_left hi] at e1
      rw [List.getElem?_append_left (by rw [← S.H.len]; exact hi)] at e2
      exact ORel.keep kt st.pre _ (fun o e => k b o e) (S.H.obj i b ao' e1 e2)
    · rw [List.getElem?_append_right (by omega)] at e1
      rw [List.getElem?_append_right (by rw [← S.H.len]; omega)] at e2
      have h1 : i - θ.length = 0 := by
        rcases Nat.eq_zero_or_pos (i - θ.length) with h | h
        · exact h
        · rw [List.getElem?_eq_none (by simp; omega)] at e1; cases e1
      rw [← S.H.len] at e2
      rw [h1] at e1 e2
      cases e1; cases e2
      exact r
  · intro i d vs e
    by_cases hi : i < hp.length
    · rw [List.getElem?_append_left hi] at e
      exact S.H.accd i d vs e
    · rw [List.getElem?_append_right (by omega)] at e
      have h1 : i - hp.length = 0 := by
        rcases Nat.eq_zero_or_pos (i - hp.length) with h | h
        · exact h
        · rw [List.getElem?_eq_none (by simp; omega)] at e; cases e
      rw [h1] at e
      have := hacc d vs (Option.some.inj e)
      omega
  · intro b hb
    rcases List.mem_append.mp hb with h | h
    · exact S.free b h
    · rw [List.mem_singleton.mp h]
      refine ⟨?_, fun q => ?_⟩
      · cases e : X.g.get? a with
        | none => rfl
        | some o => have := S.fr.keep _ _ e; rw [hn] at this; cases this
      · obtain ⟨o, e, _⟩ := Fr.alive S.fr
        rw [← q, hn] at e; cases e

/-- one handle's thing turns -/
theorem SR.put (S : SR P fe X m loc hp θ s) {i : Nat} {a : Addr} {ao : AO} (hi : θ[i]? = some a) (k : ∀ (b : Addr) (o : Obj), b ≠ a → s.heap.get? b = some o → s'.heap.get? b = some o) (r : KT s.heap s'.heap → ORel P s'.heap θ ao a) (hacc : ∀ d vs, ao = .acc d vs → d < i) (bare : AllBare s'.gens) (ho : s'.os = s.os) :
    SR P fe X m loc (hp.set i ao) θ s' ∧ St X.L θ s θ s' := by
  have ha := List.mem_of_getElem? hi
  have st : St X.L θ s θ s' := ⟨List.prefix_refl _, fun b o _ h e => k b o (fun q => h (q ▸ ha)) e, fun b hb => .inl hb, ho⟩
  have kt := S.kt st
  refine ⟨⟨⟨?_, fun b o e => k b o (fun q => ?_) (S.fr.keep b o e), S.fr.above⟩, fun x lv e => let ⟨v, e1, r⟩ := S.loc x lv e; ⟨v, e1, LRel.mono kt st.pre _ r⟩,
    ⟨by rw [List.length_set]; exact S.H.len, S.H.nd, ?_, ?_⟩, S.free, bare, S.cells⟩, st⟩
  · obtain ⟨o, es, ep, e, q⟩ := S.fr.ns
    exact ⟨o, es, ep, k _ _ (Ne.symm (S.free a ha).2) e, q⟩
  · have := (S.free a ha).1
    rw [← q, e] at this; cases this
  · intro j b ao' e1 e2
    by_cases hj : j = i
    · subst hj
      rw [hi] at e1; cases e1
      rw [List.getElem?_set_self (by rw [← S.H.len]; exact (List.getElem?_eq_some_iff.mp hi).1)] at e2
      cases e2
      exact r kt
    · rw [List.getElem?_set_ne (Ne.symm hj)] at e2
      refine ORel.keep kt st.pre _ (fun o e => k b o (fun q => ?_) e) (S.H.obj j b ao' e1 e2)
      subst q
      obtain ⟨h1, q1⟩ := List.getElem?_eq_some_iff.mp e1
      obtain ⟨h2, q2⟩ := List.getElem?_eq_some_iff.mp hi
      have nd := List.pairwise_iff_getElem.mp S.H.nd
      rcases Nat.lt_trichotomy j i with h | h | h
      · exact nd j i h1 h2 h (q1.trans q2.symm)
      · exact hj h
      · exact nd i j h2 h1 h (q2.trans q1.symm)
  · intro j d vs e
    by_cases hj : j = i
    · subst hj
      rw [List.getElem?_set] at e
      split at e
      · split at e
        · exact hacc d vs (Option.some.inj e)
        · cases e
      · exact absurd rfl ‹_›
    · rw [List.getElem?_set_ne (Ne.symm hj)] at e
      exact S.H.accd j d vs e

/-- some of what is known is let go: later handles, names -/
theorem SR.drop (S : SR P fe X m loc hp θ s) (j : Nat) (hl : ∀ p ∈ loc', loc.lookup p.1 = some p.2 ∧ ∀ i, p.2 = .o i → i < j) (hc : ∀ (x : Str) (k : Nat), fe.cells.lookup x = some k → k < j) : SR P fe X m loc' (hp.take j) (θ.take j) s := by
  refine ⟨S.fr, fun x lv e => ?_, ⟨by rw [List.length_take, List.length_take, S.H.len], S.H.nd.sublist (List.take_sublist _ _), fun i a ao e1 e2 => ?_, fun i d vs e => ?_⟩, fun a ha => S.free a (List.mem_of_mem_take ha), S.bare, fun x k e => ?_⟩
  · have hm : (x, lv) ∈ loc' := by
      clear hl hc
      induction loc' with
      | nil => cases e
      | cons p r ih =>
        obtain ⟨y, l⟩ := p
        rw [List.lookup_cons] at e
        split at e
        · rename_i q; cases e; rw [beq_iff_eq.mp q]; exact .head _
        · exact .tail _ (ih e)
    obtain ⟨h1, h2⟩ := hl _ hm
    obtain ⟨v, e1, r⟩ := S.loc x lv h1
    refine ⟨v, e1, ?_⟩
    cases lv with
    | v p => exact r
    | o i =>
      obtain ⟨a, e2, e3⟩ := r
      exact ⟨a, by rw [List.getElem?_take_of_lt (h2 i rfl)]; exact e2, e3⟩
  · have hij : i < j := by
      have := (List.getElem?_eq_some_iff.mp e1).1
      rw [List.length_take] at this; omega
    rw [List.getElem?_take_of_lt hij] at e1 e2
    have r := S.H.obj i a ao e1 e2
    cases ao with
    | acc d vs =>
      obtain ⟨o, ws, n, dx, e3, r⟩ := r
      exact ⟨o, ws, n, dx, by rw [List.getElem?_take_of_lt (Nat.lt_trans (S.H.accd i d vs e2) hij)]; exact e3, r⟩
    | dct i => cases i <;> exact r
    | _ => exact r
  · have hij : i < j := by
      have := (List.getElem?_eq_some_iff.mp e).1
      rw [List.length_take] at this; omega
    rw [List.getElem?_take_of_lt hij] at e
    exact S.H.accd i d vs e
  · obtain ⟨a, e1, e2⟩ := S.cells x k e
    exact ⟨a, e1, by rw [List.getElem?_take_of_lt (hc x k e)]; exact e2⟩
theorem St.drop (a : St X.L θ s θ' s') (j : Nat) (hj : θ.length ≤ j) : St X.L θ s (θ'.take j) s' :=
  ⟨by obtain ⟨t, e⟩ := a.pre; rw [← e, List.take_append, List.take_of_length_le hj]; exact List.prefix_append _ _, a.keep, fun b hb => a.fresh b (List.mem_of_mem_take hb), a.os⟩
end

end VC
namespace VC
open PySem PySem.W PyProof.Rows PySem.Calls PySem.Spec

inductive Fl where
  | next | brk | cont
  | ret (lv : LV)
noncomputable def FRel (h : Heap) (θ : List Addr) : Fl → Flow → Prop
  | .next, f => f = .next
  | .brk, f => f = .brk
  | .cont, f => f = .cont
  | .ret lv, f => ∃ v, f = .ret v ∧ LRel h θ lv v

section
variable (P : PE) (fe : FE) (n : Nat)

/-- what is to be shown of what a tree hands on -/
abbrev Kt (X : Fx) (m : Str → Option Value) (loc : Loc) (θ : List Addr) (s : Shared) (K : LV → List AO → Prop) (Q : Value → Shared → Prop) : Prop :=
  ∀ v lv hp' θ' s', K lv hp' → SR P fe X m loc hp' θ' s' → LRel s'.heap θ' lv v → St X.L θ s θ' s' → Q v s'

noncomputable def TT (t : Env → Sem Value) (loc : Loc) (hp : List AO) (K : LV → List AO → Prop) : Prop :=
  ∀ (X : Fx) (m : Str → Option Value) (θ : List Addr) (s : Shared) (Q : Value → Shared → Prop) (E : Value → Shared → Prop), Cx P fe n X → SR P fe X m loc hp θ s →
    Kt P fe X m loc θ s K Q → wpAny (model P.prog P.w) X.A (t (fe.env X)) Q E s
abbrev TE (e : PySem.Expr) (loc : Loc) (hp : List AO) (K : LV → List AO → Prop) : Prop := TT P fe n (eval e) loc hp K
noncomputable def T1 (f : Value → Sem Value) (a : LV) (loc : Loc) (hp : List AO) (K : LV → List AO → Prop) : Prop :=
  ∀ (X : Fx) (m : Str → Option Value) (θ : List Addr) (s : Shared) (Q : Value → Shared → Prop) (E : Value → Shared → Prop) (va : Value), Cx P fe n X → SR P fe X m loc hp θ s → LRel s.heap θ a va →
    Kt P fe X m loc θ s K Q → wpAny (model P.prog P.w) X.A (f va) Q E s
noncomputable def T2 (f : Value → Value → Sem Value) (a b : LV) (loc : Loc) (hp : List AO) (K : LV → List AO → Prop) : Prop :=
  ∀ (X : Fx) (m : Str → Option Value) (θ : List Addr) (s : Shared) (Q : Value → Shared → Prop) (E : Value → Shared → Prop) (va vb : Value), Cx P fe n X → SR P fe X m loc hp θ s → LRel s.heap θ a va → LRel s.heap θ b vb →
    Kt P fe X m loc θ s K Q → wpAny (model P.prog P.w) X.A (f va vb) Q E s
noncomputable def TL (f : List Value → Sem Value) (as : List LV) (loc : Loc) (hp : List AO) (K : LV → List AO → Prop) : Prop :=
  ∀ (X : Fx) (m : Str → Option Value) (θ : List Addr) (s : Shared) (Q : Value → Shared → Prop) (E : Value → Shared → Prop) (vs : List Value), Cx P fe n X → SR P fe X m loc hp θ s → LRels s.heap θ as vs →
    Kt P fe X m loc θ s K Q → wpAny (model P.prog P.w) X.A (f vs) Q E s
/-- arguments, in order -/
noncomputable def TA (es : List PySem.Expr) (loc : Loc) (hp : List AO) (K : List LV → List AO → Prop) : Prop :=
  ∀ (X : Fx) (m : Str → Option Value) (θ : List Addr) (s : Shared) (Q : List Value → Shared → Prop) (E : Value → Shared → Prop) (pos : Pos), Cx P fe n X → SR P fe X m loc hp θ s →
    (∀ vs lvs hp' θ' s', K lvs hp' → SR P fe X m loc hp' θ' s' → LRels s'.heap θ' lvs vs → St X.L θ s θ' s' → Q vs s') → wpAny (model P.prog P.w) X.A (spliced (backTo pos (starEach es (fe.env X)))) Q E s
/-- a test -/
noncomputable def TB (t : Env → Sem Bool) (loc : Loc) (hp : List AO) (K : Bool → List AO → Prop) : Prop :=
  ∀ (X : Fx) (m : Str → Option Value) (θ : List Addr) (s : Shared) (Q : Bool → Shared → Prop) (E : Value → Shared → Prop), Cx P fe n X → SR P fe X m loc hp θ s →
    (∀ b hp' θ' s', K b hp' → SR P fe X m loc hp' θ' s' → St X.L θ s θ' s' → Q b s') → wpAny (model P.prog P.w) X.A (t (fe.env X)) Q E s
abbrev TI (e : PySem.Expr) (loc : Loc) (hp : List AO) (K : Bool → List AO → Prop) : Prop := TB P fe n (fun env => isTrue e env (eval e env)) loc hp K
noncomputable def B1 (f : Value → Sem Bool) (a : LV) (loc : Loc) (hp : List AO) (K : Bool → List AO → Prop) : Prop :=
  ∀ (X : Fx) (m : Str → Option Value) (θ : List Addr) (s : Shared) (Q : Bool → Shared → Prop) (E : Value → Shared → Prop) (va : Value), Cx P fe n X → SR P fe X m loc hp θ s → LRel s.heap θ a va →
    (∀ b hp' θ' s', K b hp' → SR P fe X m loc hp' θ' s' → St X.L θ s θ' s' → Q b s') → wpAny (model P.prog P.w) X.A (f va) Q E s
/-- a store -/
noncomputable def TU (t : Env → Value → Sem Unit) (a : LV) (loc : Loc) (hp : List AO) (K : Loc → List AO → Prop) : Prop :=
  ∀ (X : Fx) (m : Str → Option Value) (θ : List Addr) (s : Shared) (Q : Unit → Shared → Prop) (E : Value → Shared → Prop) (va : Value), Cx P fe n X → SR P fe X m loc hp θ s → LRel s.heap θ a va →
    (∀ loc' hp' m' θ' s', K loc' hp' → SR P fe X m' loc' hp' θ' s' → St X.L θ s θ' s' → Q () s') → wpAny (model P.prog P.w) X.A (t (fe.env X) va) Q E s
/-- statements -/
noncomputable def TS (t : Env → Sem Flow) (loc : Loc) (hp : List AO) (K : Fl → Loc → List AO → Prop) : Prop :=
  ∀ (X : Fx) (m : Str → Option Value) (θ : List Addr) (s : Shared) (Q : Flow → Shared → Prop) (E : Value → Shared → Prop), Cx P fe n X → SR P fe X m loc hp θ s →
    (∀ f fl loc' hp' m' θ' s', K fl loc' hp' → SR P fe X m' loc' hp' θ' s' → FRel s'.heap θ' fl f → St X.L θ s θ' s' → Q f s') → wpAny (model P.prog P.w) X.A (t (fe.env X)) Q E s
abbrev TX (st : Stmt) (loc : Loc) (hp : List AO) (K : Fl → Loc → List AO → Prop) : Prop := TS P fe n (exec st) loc hp K
abbrev TXs (st : List Stmt) (loc : Loc) (hp : List AO) (K : Fl → Loc → List AO → Prop) : Prop := TS P fe n (execs st) loc hp K
end

section
variable {P : PE} {fe : FE} {n : Nat} {loc : Loc} {hp : List AO} {K : LV → List AO → Prop}

/-! ### ends: a value handed on, the heap as it stood (or grown) -/
theorem kt_same {X : Fx} {m : Str → Option Value} {θ : List Addr} {s s' : Shared} {Q : Value → Shared → Prop} {v : Value} {lv : LV} (S : SR P fe X m loc hp θ s) (k : Kt P fe X m loc θ s K Q) (h : K lv hp) (hh : s'.heap = s.heap) (hg : s'.gens = s.gens) (ho : s'.os = s.os)
    (r : LRel s.heap θ lv v) : Q v s' := k v lv hp θ s' h (S.same hh hg) (by rw [hh]; exact r) (St.same hh ho)
theorem kt_grow {X : Fx} {m : Str → Option Value} {θ : List Addr} {s s' : Shared} {Q : Value → Shared → Prop} {v : Value} {lv : LV} (S : SR P fe X m loc hp θ s) (k : Kt P fe X m loc θ s K Q) (h : K lv hp)
    (kp : ∀ (b : Addr) (o : Obj), s.heap.get? b = some o → s'.heap.get? b = some o) (hg : AllBare s'.gens) (ho : s'.os = s.os)
    (r : LRel s'.heap θ lv v) : Q v s' := k v lv hp θ s' h (S.grow kp hg ho) r (St.grow kp ho)
theorem kt_keepL {X : Fx} {m : Str → Option Value} {θ : List Addr} {s s' : Shared} {Q : Value → Shared → Prop} {v : Value} {lv : LV} (S : SR P fe X m loc hp θ s) (k : Kt P fe X m loc θ s K Q) (h : K lv hp)
    (F' : Fr X.g X.L s'.heap m) (kp : ∀ (b : Addr) (o : Obj), b ≠ X.L → s.heap.get? b = some o → s'.heap.get? b = some o) (hg : AllBare s'.gens) (ho : s'.os = s.os)
    (r : LRel s'.heap θ lv v) : Q v s' := k v lv hp θ s' h (S.keepL F' kp hg ho) r (St.keepL kp ho)

/-! ### the frame's own news: everything that stands, but the frame -/
noncomputable def allNews (g : Heap) (L : Addr) (h : Heap) : List (Addr × Obj) :=
  (List.range h.objs.size).filterMap fun a => match h.get? a with
    | some o => if a ≠ L ∧ (g.get? a).isNone then some (a, o) else none
    | none => none
theorem allNews_mem {g : Heap} {L : Addr} {h : Heap} {p : Addr × Obj} : p ∈ allNews g L h ↔ h.get? p.1 = some p.2 ∧ p.1 ≠ L ∧ g.get? p.1 = none := by
  unfold allNews
  rw [List.mem_filterMap]
  constructor
  · rintro ⟨a, _, e⟩
    split at e
    · rename_i o ho
      split at e
      · rename_i q
        cases e
        exact ⟨ho, q.1, Option.isNone_iff_eq_none.mp q.2⟩
      · cases e
    · cases e
  · rintro ⟨h1, h2, h3⟩
    refine ⟨p.1, List.mem_range.mpr (Heap.lt_size h1), ?_⟩
    rw [h1]
    dsimp only
    rw [if_pos ⟨h2, Option.isNone_iff_eq_none.mpr h3⟩]
theorem allNews_news {g : Heap} {L : Addr} {h : Heap} : News g L h (allNews g L h) := fun _ hp => allNews_mem.mp hp
theorem allNews_keep {g : Heap} {L : Addr} {h h' : Heap} {m m' : Str → Option Value} (F : Fr g L h m) (F' : Fr g L h' m') (N : News g L h' (allNews g L h)) (b : Addr) (o : Obj) (hb : b ≠ L) (e : h.get? b = some o) : h'.get? b = some o := by
  cases q : g.get? b with
  | some o' =>
    have := F.keep b o' q
    rw [e] at this; cases this
    exact F'.keep b _ q
  | none => exact (N (b, o) (allNews_mem.mpr ⟨e, hb, q⟩)).1

/-! ### expressions -/
theorem TT.mono {t : Env → Sem Value} {K' : LV → List AO → Prop} (h : TT P fe n t loc hp K) (k : ∀ lv hp', K lv hp' → K' lv hp') : TT P fe n t loc hp K' :=
  fun X m θ s Q E C S kk => h X m θ s Q E C S fun v lv hp' θ' s' hk => kk v lv hp' θ' s' (k _ _ hk)

theorem TE_const_int {i : Int} {k : Nat} {pos : Pos} (h : K (.v (.int i)) hp) : TE P fe n (.Constant (.int i) k pos) loc hp K :=
  fun _ _ _ _ _ _ _ S kk => wpAny_Constant_int (kt_same S kk h rfl rfl rfl ⟨_, rfl⟩)
theorem TE_const_str {x : Str} {k : Nat} {pos : Pos} (h : K (.v (.str x)) hp) : TE P fe n (.Constant (.str x) k pos) loc hp K :=
  fun _ _ _ _ _ _ _ S kk => wpAny_Constant_str (kt_same S kk h rfl rfl rfl ⟨_, rfl⟩)
theorem TE_const_none {k : Nat} {pos : Pos} (h : K (.v .none) hp) : TE P fe n (.Constant .none k pos) loc hp K :=
  fun _ _ _ _ _ _ _ S kk => wpAny_Constant_none (kt_same S kk h rfl rfl rfl rfl)
theorem TE_local {x : Str} {pos : Pos} {lv : LV} (hx : fe.scope.names.lookup x = some .local) (hl : loc.lookup x = some lv) (h : K lv hp) (hd : (x == ("__debug__" : Str)) = false) : TE P fe n (.Name x pos) loc hp K := by
  intro X m θ s Q E C S kk
  obtain ⟨v, hv, r⟩ := S.loc x lv hl
  exact wpAny_Name (wpAny_loadName_local C.kind hx S.fr.ns hv (kt_same S kk h rfl rfl rfl r)) hd
theorem TE_global {x : Str} {pos : Pos} {v : Value} {p : PV} (hx : fe.scope.names.lookup x = some .globalImplicit) (e : nsIn P.K mainGlobals x = some (some v)) (r : ∀ h, VRel h p v) (h : K (.v p) hp) (hd : (x == ("__debug__" : Str)) = false) : TE P fe n (.Name x pos) loc hp K := by
  intro X m θ s Q E C S kk
  exact nameX_K S.fr C.gd.1 C.gd.2 e (kt_same S kk h rfl rfl rfl (r _)) C.kind hx hd

theorem TE_BinOp {l r : PySem.Expr} {op : Operator} {pos : Pos} (h : TE P fe n l loc hp fun a hp1 => TE P fe n r loc hp1 fun b hp2 => T2 P fe n (binaryOp op) a b loc hp2 K) : TE P fe n (.BinOp l op r pos) loc hp K := by
  intro X m θ s Q E C S kk
  refine wpAny_BinOp (h X m θ s _ E C S fun va a hp1 θ1 s1 h1 S1 r1 st1 => h1 X m θ1 s1 _ E C S1 fun vb b hp2 θ2 s2 h2 S2 r2 st2 => ?_)
  exact h2 X m θ2 s2 _ E va vb C S2 (S1.rel st2 r1) r2 fun v lv hp3 θ3 s3 h3 S3 r3 st3 => kk v lv hp3 θ3 s3 h3 S3 r3 ((st1.trans S1 st2).trans S2 st3)
theorem TE_Compare {l r : PySem.Expr} {op : CmpOp} {pos : Pos} (hm : behindInMarks op r = false) (h : TE P fe n l loc hp fun a hp1 => TE P fe n r loc hp1 fun b hp2 => T2 P fe n (compareOp op) a b loc hp2 K) : TE P fe n (.Compare l [op] [r] pos) loc hp K := by
  intro X m θ s Q E C S kk
  refine wpAny_Compare1 (h X m θ s _ E C S fun va a hp1 θ1 s1 h1 S1 r1 st1 => h1 X m θ1 s1 _ E C S1 fun vb b hp2 θ2 s2 h2 S2 r2 st2 => ?_) hm
  exact h2 X m θ2 s2 _ E va vb C S2 (S1.rel st2 r1) r2 fun v lv hp3 θ3 s3 h3 S3 r3 st3 => kk v lv hp3 θ3 s3 h3 S3 r3 ((st1.trans S1 st2).trans S2 st3)
theorem TE_UnaryOp {x : PySem.Expr} {op : UnaryOp} {pos : Pos} (h : TE P fe n x loc hp fun a hp1 => T1 P fe n (unaryOp op) a loc hp1 K) : TE P fe n (.UnaryOp op x pos) loc hp K := by
  intro X m θ s Q E C S kk
  refine wpAny_UnaryOp (h X m θ s _ E C S fun va a hp1 θ1 s1 h1 S1 r1 st1 => ?_)
  exact h1 X m θ1 s1 _ E va C S1 r1 fun v lv hp3 θ3 s3 h3 S3 r3 st3 => kk v lv hp3 θ3 s3 h3 S3 r3 (st1.trans S1 st3)
theorem TE_Or {x y : PySem.Expr} {pos : Pos} (h : TE P fe n x loc hp fun a hp1 => B1 P fe n truthy a loc hp1 fun b hp2 => (b = true → K a hp2) ∧ (b = false → TE P fe n y loc hp2 K)) : TE P fe n (.BoolOp .Or [x, y] pos) loc hp K := by
  intro X m θ s Q E C S kk
  refine wpAny_Or2 (h X m θ s _ E C S fun va a hp1 θ1 s1 h1 S1 r1 st1 => h1 X m θ1 s1 _ E va C S1 r1 fun b hp2 θ2 s2 h2 S2 st2 => ?_)
  cases b with
  | true => exact kk _ _ _ _ _ (h2.1 rfl) S2 (S1.rel st2 r1) (st1.trans S1 st2)
  | false => exact h2.2 rfl X m θ2 s2 Q E C S2 fun v lv hp3 θ3 s3 h3 S3 r3 st3 => kk v lv hp3 θ3 s3 h3 S3 r3 ((st1.trans S1 st2).trans S2 st3)
/-! ### arguments -/
theorem TA_nil {Kl : List LV → List AO → Prop} (h : Kl [] hp) : TA P fe n [] loc hp Kl := fun _ _ _ _ _ _ _ _ S kk => wpAny_items_nil (kk _ _ _ _ _ h S rfl (St.refl _ _ _))
theorem TA_cons {e : PySem.Expr} {r : List PySem.Expr} {Kl : List LV → List AO → Prop} (he : ∀ env, starEach (e :: r) env = (false, eval e env) :: starEach r env)
    (h : TE P fe n e loc hp fun a hp1 => TA P fe n r loc hp1 fun as hp2 => Kl (a :: as) hp2) : TA P fe n (e :: r) loc hp Kl := by
  intro X m θ s Q E pos C S kk
  refine wpAny_items_cons (h X m θ s _ E C S fun va a hp1 θ1 s1 h1 S1 r1 st1 => h1 X m θ1 s1 _ E pos C S1 fun vs as hp2 θ2 s2 h2 S2 r2 st2 => ?_) (he _)
  exact kk _ _ _ _ _ h2 S2 ⟨_, _, rfl, S1.rel st2 r1, r2⟩ (st1.trans S1 st2)

/-! ### tests -/
theorem TI_Not {x : PySem.Expr} {pos : Pos} {Kb : Bool → List AO → Prop} (h : TI P fe n x loc hp fun b => Kb (!b)) : TI P fe n (.UnaryOp .Not x pos) loc hp Kb := by
  intro X m θ s Q E C S kk
  exact wpAny_isTrue_Not (h X m θ s _ E C S fun b hp' θ' s' h1 S1 st1 => kk _ _ _ _ h1 S1 st1)
theorem TI_Compare {l r : PySem.Expr} {op : CmpOp} {pos : Pos} {Kb : Bool → List AO → Prop} (hm : behindInMarks op r = false)
    (h : TE P fe n l loc hp fun a hp1 => TE P fe n r loc hp1 fun b hp2 => T2 P fe n (compareOp op) a b loc hp2 fun c hp3 => B1 P fe n truthy c loc hp3 Kb) : TI P fe n (.Compare l [op] [r] pos) loc hp Kb := by
  intro X m θ s Q E C S kk
  refine wpAny_isTrue_Compare1 (h X m θ s _ E C S fun va a hp1 θ1 s1 h1 S1 r1 st1 => h1 X m θ1 s1 _ E C S1 fun vb b hp2 θ2 s2 h2 S2 r2 st2 => ?_) hm
  exact h2 X m θ2 s2 _ E va vb C S2 (S1.rel st2 r1) r2 fun v lv hp3 θ3 s3 h3 S3 r3 st3 => h3 X m θ3 s3 _ E v C S3 r3 fun b' hp4 θ4 s4 h4 S4 st4 => kk _ _ _ _ h4 S4 (((st1.trans S1 st2).trans S2 st3).trans S3 st4)
theorem TI_value {e : PySem.Expr} {Kb : Bool → List AO → Prop} (he : ∀ env whole, isTrue e env whole = (do let v ← whole; standAt e.pos; holding [v] (truthy v)))
    (h : TE P fe n e loc hp fun c hp3 => B1 P fe n truthy c loc hp3 Kb) : TI P fe n e loc hp Kb := by
  intro X m θ s Q E C S kk
  refine wpAny_isTrue_value (h X m θ s _ E C S fun va a hp1 θ1 s1 h1 S1 r1 st1 => ?_) (he _ _)
  exact h1 X m θ1 s1 _ E va C S1 r1 fun b' hp4 θ4 s4 h4 S4 st4 => kk _ _ _ _ h4 S4 (st1.trans S1 st4)
noncomputable def TAll (P : PE) (fe : FE) (n : Nat) (op : BoolOp) (es : List PySem.Expr) (loc : Loc) (hp : List AO) (Kb : Bool → List AO → Prop) : Prop := TB P fe n (allTrue op es) loc hp Kb
theorem TI_BoolOp {op : BoolOp} {es : List PySem.Expr} {pos : Pos} {Kb : Bool → List AO → Prop} (h : TAll P fe n op es loc hp Kb) : TI P fe n (.BoolOp op es pos) loc hp Kb := by
  intro X m θ s Q E C S kk
  exact wpAny_isTrue_BoolOp (h X m θ s _ E C S kk)
theorem TAll_And_nil {Kb : Bool → List AO → Prop} (h : Kb true hp) : TAll P fe n .And [] loc hp Kb := fun _ _ _ _ _ _ _ S kk => wpAny_allTrue_And_nil (kk _ _ _ _ h S (St.refl _ _ _))
theorem TAll_Or_nil {Kb : Bool → List AO → Prop} (h : Kb false hp) : TAll P fe n .Or [] loc hp Kb := fun _ _ _ _ _ _ _ S kk => wpAny_allTrue_Or_nil (kk _ _ _ _ h S (St.refl _ _ _))
theorem TAll_And_cons {x : PySem.Expr} {r : List PySem.Expr} {Kb : Bool → List AO → Prop} (h : TI P fe n x loc hp fun b hp1 => (b = true → TAll P fe n .And r loc hp1 Kb) ∧ (b = false → Kb false hp1)) : TAll P fe n .And (x :: r) loc hp Kb := by
  intro X m θ s Q E C S kk
  refine wpAny_allTrue_And_cons (h X m θ s _ E C S fun b hp1 θ1 s1 h1 S1 st1 => ?_)
  cases b with
  | true => exact h1.1 rfl X m θ1 s1 _ E C S1 fun b' hp4 θ4 s4 h4 S4 st4 => kk _ _ _ _ h4 S4 (st1.trans S1 st4)
  | false => exact kk _ _ _ _ (h1.2 rfl) S1 st1
theorem TAll_Or_cons {x : PySem.Expr} {r : List PySem.Expr} {Kb : Bool → List AO → Prop} (h : TI P fe n x loc hp fun b hp1 => (b = true → Kb true hp1) ∧ (b = false → TAll P fe n .Or r loc hp1 Kb)) : TAll P fe n .Or (x :: r) loc hp Kb := by
  intro X m θ s Q E C S kk
  refine wpAny_allTrue_Or_cons (h X m θ s _ E C S fun b hp1 θ1 s1 h1 S1 st1 => ?_)
  cases b with
  | true => exact kk _ _ _ _ (h1.1 rfl) S1 st1
  | false => exact h1.2 rfl X m θ1 s1 _ E C S1 fun b' hp4 θ4 s4 h4 S4 st4 => kk _ _ _ _ h4 S4 (st1.trans S1 st4)
theorem B1_bool {b : Bool} {Kb : Bool → List AO → Prop} (h : Kb b hp) : B1 P fe n truthy (.v (.bool b)) loc hp Kb := by
  intro X m θ s Q E va C S r kk
  have r : va = .bool b := r
  subst r
  exact wpAny_truthy_bool (kk _ _ _ _ h S (St.refl _ _ _))

/-! ### statements -/
variable {Kf : Fl → Loc → List AO → Prop}
theorem TS.mono {t : Env → Sem Flow} {Kf' : Fl → Loc → List AO → Prop} (h : TS P fe n t loc hp Kf) (k : ∀ fl loc' hp', Kf fl loc' hp' → Kf' fl loc' hp') : TS P fe n t loc hp Kf' :=
  fun X m θ s Q E C S kk => h X m θ s Q E C S fun f fl loc' hp' m' θ' s' hk => kk f fl loc' hp' m' θ' s' (k _ _ _ hk)
theorem TXs_nil (h : Kf .next loc hp) : TXs P fe n [] loc hp Kf := fun _ _ _ _ _ _ _ S kk => wpAny_execs_nil (kk _ _ _ _ _ _ _ h S rfl (St.refl _ _ _))
/-- what follows a statement -/
noncomputable def Then (P : PE) (fe : FE) (n : Nat) (r : List Stmt) (Kf : Fl → Loc → List AO → Prop) : Fl → Loc → List AO → Prop
  | .next, loc, hp => TXs P fe n r loc hp Kf
  | f, loc, hp => Kf f loc hp
theorem TXs_cons {st : Stmt} {r : List Stmt} (h : TX P fe n st loc hp (Then P fe n r Kf)) : TXs P fe n (st :: r) loc hp Kf := by
  intro X m θ s Q E C S kk
  refine wpAny_execs_cons (h X m θ s _ E C S fun f fl loc1 hp1 m1 θ1 s1 h1 S1 r1 st1 => ?_)
  cases fl with
  | next =>
    cases r1
    exact h1 X m1 θ1 s1 Q E C S1 fun f' fl' loc2 hp2 m2 θ2 s2 h2 S2 r2 st2 => kk _ _ _ _ _ _ _ h2 S2 r2 (st1.trans S1 st2)
  | brk => cases r1; exact kk _ _ _ _ _ _ _ h1 S1 rfl st1
  | cont => cases r1; exact kk _ _ _ _ _ _ _ h1 S1 rfl st1
  | ret lv =>
    obtain ⟨v, e, r1⟩ := r1
    subst e
    exact kk _ _ _ _ _ _ _ h1 S1 ⟨v, rfl, r1⟩ st1

noncomputable def setL (x : Str) (lv : LV) : Loc → Loc
  | [] => [(x, lv)]
  | (y, l) :: r => if x == y then (y, lv) :: r else (y, l) :: setL x lv r
theorem setL_lookup (x : Str) (lv : LV) (y : Str) : ∀ loc : Loc, (setL x lv loc).lookup y = if y = x then some lv else loc.lookup y
  | [] => by
    simp only [setL, List.lookup_cons, List.lookup_nil]
    by_cases h : y = x
    · subst h; simp
    · rw [if_neg h, beq_eq_false_iff_ne.mpr h]
  | (z, l) :: r => by
    unfold setL
    by_cases hz : x = z
    · subst hz
      rw [if_pos (by simp)]
      simp only [List.lookup_cons]
      by_cases h : y = x
      · subst h; simp
      · rw [if_neg h, beq_eq_false_iff_ne.mpr h]
    · rw [if_neg (by simpa using hz)]
      simp only [List.lookup_cons]
      by_cases h : y = z
      · subst h
        rw [if_neg (Ne.symm hz)]; simp
      · rw [beq_eq_false_iff_ne.mpr h]
        exact setL_lookup x lv y r

/-- a name is bound -/
theorem TU_local {x : Str} {lv : LV} {Ku : Loc → List AO → Prop} (hx : fe.scope.names.lookup x = some .local) (h : Ku (setL x lv loc) hp) : TU P fe n (fun env v => storeName env x v) lv loc hp Ku := by
  intro X m θ s Q E va C S r kk
  refine wpAny_storeName_local hx S.fr.ns (fun h' hn hs => ?_) (by show (fe.scope.kind == .class || (fe.scope.kind == .module && X.L != mainGlobals)) = false; rw [C.kind]; rfl)
  refine kk _ _ _ _ _ h (S.setLoc (S.fr.set hn hs) (fun b o hb e => (hs.2 b hb).trans e) rfl rfl fun y l e => ?_) (St.keepL (fun b o hb e => (hs.2 b hb).trans e) rfl)
  rw [setL_lookup] at e
  by_cases hy : y = x
  · subst hy
    rw [if_pos rfl] at e; cases e
    exact ⟨va, by simp, r⟩
  · rw [if_neg hy] at e
    obtain ⟨v, e1, r1⟩ := S.loc y l e
    exact ⟨v, by rw [if_neg hy]; exact e1, r1⟩
theorem TX_Assign {x : Str} {e : PySem.Expr} {pos' pos : Pos} (hs : ∀ X, swapsWith e (some (.Name x pos')) pos.line (fe.env X) = pure false)
    (h : TE P fe n e loc hp fun lv hp1 => TU P fe n (fun env v => storeName env x v) lv loc hp1 (Kf .next)) : TX P fe n (.Assign [.Name x pos'] e pos) loc hp Kf := by
  intro X m θ s Q E C S kk
  refine wpAny_Assign_Name (h X m θ s _ E C S fun va a hp1 θ1 s1 h1 S1 r1 st1 => ?_) (hs X)
  exact h1 X m θ1 s1 _ E va C S1 r1 fun loc2 hp2 m2 θ2 s2 h2 S2 st2 => kk _ _ _ _ _ _ _ h2 S2 rfl (st1.trans S1 st2)
theorem TX_Return {e : PySem.Expr} {pos : Pos} (h : TE P fe n e loc hp fun lv hp1 => Kf (.ret lv) loc hp1) : TX P fe n (.Return (some e) pos) loc hp Kf := by
  intro X m θ s Q E C S kk
  exact wpAny_Return_some (h X m θ s _ E C S fun va a hp1 θ1 s1 h1 S1 r1 st1 => kk _ _ _ _ _ _ _ h1 S1 ⟨_, rfl, r1⟩ st1)
theorem TX_If {test : PySem.Expr} {body orelse : List Stmt} {pos : Pos} (h : TI P fe n test loc hp fun b hp1 => (b = true → TXs P fe n body loc hp1 Kf) ∧ (b = false → TXs P fe n orelse loc hp1 Kf)) : TX P fe n (.If test body orelse pos) loc hp Kf := by
  intro X m θ s Q E C S kk
  refine wpAny_If (h X m θ s _ E C S fun b hp1 θ1 s1 h1 S1 st1 => ?_)
  cases b with
  | true => exact h1.1 rfl X m θ1 s1 _ E C S1 fun f' fl' loc2 hp2 m2 θ2 s2 h2 S2 r2 st2 => kk _ _ _ _ _ _ _ h2 S2 r2 (st1.trans S1 st2)
  | false => exact h1.2 rfl X m θ1 s1 _ E C S1 fun f' fl' loc2 hp2 m2 θ2 s2 h2 S2 r2 st2 => kk _ _ _ _ _ _ _ h2 S2 r2 (st1.trans S1 st2)
theorem TX_Break {pos : Pos} (h : Kf .brk loc hp) : TX P fe n (.Break pos) loc hp Kf := fun _ _ _ _ _ _ _ S kk => wpAny_Break (kk _ _ _ _ _ _ _ h S rfl (St.refl _ _ _))
theorem TX_Aug {x : Str} {op : Operator} {e : PySem.Expr} {pos' pos : Pos} {a : LV} (hx : fe.scope.names.lookup x = some .local) (hl : loc.lookup x = some a)
    (h : TE P fe n e loc hp fun b hp1 => T2 P fe n (inplaceOp op) a b loc hp1 fun c hp2 => TU P fe n (fun env v => storeName env x v) c loc hp2 (Kf .next)) : TX P fe n (.AugAssign (.Name x pos') op e pos) loc hp Kf := by
  intro X m θ s Q E C S kk
  obtain ⟨v, hv, r⟩ := S.loc x a hl
  refine wpAny_AugAssign_Name (wpAny_loadName_local C.kind hx S.fr.ns hv ?_)
  refine h X m θ s _ E C S fun vb b hp1 θ1 s1 h1 S1 r1 st1 => ?_
  refine h1 X m θ1 s1 _ E v vb C S1 (S.rel st1 r) r1 fun vc c hp2 θ2 s2 h2 S2 r2 st2 => ?_
  exact h2 X m θ2 s2 _ E vc C S2 r2 fun loc3 hp3 m3 θ3 s3 h3 S3 st3 => kk _ _ _ _ _ _ _ h3 S3 rfl ((st1.trans S1 st2).trans S2 st3)
theorem TX_Expr {e : PySem.Expr} {pos : Pos} (hi : ∀ X, interactive (fe.env X) = false) (hs : ∀ X, swapsWith e none pos.line (fe.env X) = pure false) (h : TE P fe n e loc hp fun _ hp1 => Kf .next loc hp1) : TX P fe n (.Expr e pos) loc hp Kf := by
  intro X m θ s Q E C S kk
  exact wpAny_Expr_any (h X m θ s _ E C S fun va a hp1 θ1 s1 h1 S1 r1 st1 => kk _ _ _ _ _ _ _ h1 S1 rfl st1) (hi X) (hs X)
end
end VC
namespace VC
open PySem PySem.W PyProof.Rows PySem.Calls PySem.Spec

section
variable {P : PE} {fe : FE} {n : Nat} {loc : Loc} {hp : List AO} {K : LV → List AO → Prop} {Kf : Fl → Loc → List AO → Prop}

/-- what a turn's end may let go -/
noncomputable def Sub (fe : FE) (j0 : Nat) (loc2 : Loc) (hp2 : List AO) (loc3 : Loc) (hp3 : List AO) : Prop :=
  ∃ j, j0 ≤ j ∧ hp3 = hp2.take j ∧ (∀ p ∈ loc3, loc2.lookup p.1 = some p.2 ∧ ∀ i, p.2 = .o i → i < j) ∧ (∀ (x : Str) (k : Nat), fe.cells.lookup x = some k → k < j)

theorem SR.sub {X : Fx} {m : Str → Option Value} {θ θ' : List Addr} {s s' : Shared} {loc2 loc3 : Loc} {hp2 hp3 : List AO} {j0 : Nat} (S : SR P fe X m loc2 hp2 θ' s') (st : St X.L θ s θ' s') (hj : θ.length = j0) (h : Sub fe j0 loc2 hp2 loc3 hp3) :
    ∃ θ'', SR P fe X m loc3 hp3 θ'' s' ∧ St X.L θ s θ'' s' := by
  obtain ⟨j, h1, rfl, h2, h3⟩ := h
  exact ⟨_, S.drop j h2 h3, st.drop j (hj ▸ h1)⟩

/-- a turn's end -/
noncomputable def Turn (fe : FE) (j0 : Nat) (I : Loc → List AO → Prop) (Kf : Fl → Loc → List AO → Prop) : Fl → Loc → List AO → Prop
  | .next, loc, hp => ∃ loc3 hp3, Sub fe j0 loc hp loc3 hp3 ∧ I loc3 hp3
  | .cont, loc, hp => ∃ loc3 hp3, Sub fe j0 loc hp loc3 hp3 ∧ I loc3 hp3
  | .brk, loc, hp => Kf .next loc hp
  | .ret v, loc, hp => Kf (.ret v) loc hp

theorem TX_While {test : PySem.Expr} {body : List Stmt} {pos : Pos} (I : Nat → Loc → List AO → Prop) (k0 : Nat) (h0 : I k0 loc hp)
    (ht : ∀ k loc1 hp1, I k loc1 hp1 → TI P fe n test loc1 hp1 fun b hp2 =>
      (b = true → TXs P fe n body loc1 hp2 (Turn fe hp.length (fun l h => ∃ k', k' < k ∧ I k' l h) Kf)) ∧ (b = false → Kf .next loc1 hp2)) :
    TX P fe n (.While test body [] pos) loc hp Kf := by
  intro X m θ s Q E C S kk
  refine wpAny_While ?_
  refine codeAny_whileLoop (fun k s' => ∃ loc1 hp1 m1 θ1, I k loc1 hp1 ∧ SR P fe X m1 loc1 hp1 θ1 s' ∧ St X.L θ s θ1 s') ?_ k0 ⟨loc, hp, m, θ, h0, S, St.refl _ _ _⟩
  rintro k s1 ⟨loc1, hp1, m1, θ1, hI, S1, st1⟩
  refine ht k loc1 hp1 hI X m1 θ1 s1 _ _ C S1 fun b hp2 θ2 s2 h2 S2 st2 => ?_
  cases b with
  | false =>
    rw [if_neg (by decide)]
    exact wpAny_execs_nil (kk _ _ _ _ _ _ _ (h2.2 rfl) S2 rfl (st1.trans S1 st2))
  | true =>
    rw [if_pos rfl]
    refine h2.1 rfl X m1 θ2 s2 _ _ C S2 fun f fl loc3 hp3 m3 θ3 s3 h3 S3 r3 st3 => ?_
    have st' := (st1.trans S1 st2).trans S2 st3
    cases fl with
    | next =>
      cases r3
      obtain ⟨l, h, hs, k', hk, hi⟩ := h3
      obtain ⟨θ4, S4, st4⟩ := S3.sub st' (S.H.len) hs
      exact ⟨k', hk, l, h, m3, θ4, hi, S4, st4⟩
    | cont =>
      cases r3
      obtain ⟨l, h, hs, k', hk, hi⟩ := h3
      obtain ⟨θ4, S4, st4⟩ := S3.sub st' (S.H.len) hs
      exact ⟨k', hk, l, h, m3, θ4, hi, S4, st4⟩
    | brk => cases r3; exact kk _ _ _ _ _ _ _ h3 S3 rfl st'
    | ret lv =>
      obtain ⟨v, e, r3⟩ := r3
      subst e
      exact kk _ _ _ _ _ _ _ h3 S3 ⟨v, rfl, r3⟩ st'

/-- a for over known items, by what holds ahead of each -/
noncomputable def ForI (P : PE) (fe : FE) (n : Nat) (j0 : Nat) (target : PySem.Expr) (body : List Stmt) (vs : List PV) (loc : Loc) (hp : List AO) (Kf : Fl → Loc → List AO → Prop) : Prop :=
  ∃ I : Nat → Loc → List AO → Prop, I 0 loc hp ∧
    (∀ i v loc1 hp1, vs[i]? = some v → I i loc1 hp1 → TU P fe n (fun env w => assign target env w) (.v v) loc1 hp1 fun loc2 hp2 => TXs P fe n body loc2 hp2 (Turn fe j0 (I (i + 1)) Kf)) ∧
    ∀ loc1 hp1, I vs.length loc1 hp1 → Kf .next loc1 hp1

theorem NoTup.ne {h : Heap} {I : Addr} {o : Obj} {b : Addr} {ws : Array Value} (e : h.get? I = some o) (nt : NoTup o) (t : IsTup h b ws) : b ≠ I := by
  rintro rfl
  obtain ⟨o', ho, hc, n, hd⟩ := t
  rw [e] at ho; cases ho
  exact nt ⟨hc, ws, n, hd⟩

/-- the iterator alone turns -/
theorem SR.but {X : Fx} {m : Str → Option Value} {θ : List Addr} {s s' : Shared} {I : Addr} {o : Obj} (S : SR P fe X m loc hp θ s) (hI : s.heap.get? I = some o) (nt : NoTup o) (h1 : I ∉ θ) (h2 : I ≠ X.L) (h3 : X.g.get? I = none)
    (k : ∀ (b : Addr) (o : Obj), b ≠ I → s.heap.get? b = some o → s'.heap.get? b = some o) (hg : s'.gens = s.gens) : SR P fe X m loc hp θ s' ∧ KT s.heap s'.heap := by
  have kt : KT s.heap s'.heap := fun b ws t => by
    have hb := NoTup.ne hI nt t
    obtain ⟨o', ho, r⟩ := t
    exact ⟨o', k b o' hb ho, r⟩
  refine ⟨⟨?_, fun x lv e => let ⟨v, e1, r⟩ := S.loc x lv e; ⟨v, e1, LRel.mono kt (List.prefix_refl _) _ r⟩,
    ⟨S.H.len, S.H.nd, fun i a ao e1 e2 => ORel.keep kt (List.prefix_refl _) _ (fun o e => k a o (fun q => h1 (q ▸ List.mem_of_getElem? e1)) e) (S.H.obj i a ao e1 e2), S.H.accd⟩, S.free, hg ▸ S.bare, S.cells⟩, kt⟩
  refine ⟨?_, fun b o e => k b o (fun q => by rw [q, h3] at e; cases e) (S.fr.keep b o e), S.fr.above⟩
  obtain ⟨oL, es, ep, e, q⟩ := S.fr.ns
  exact ⟨oL, es, ep, k _ _ (Ne.symm h2) e, q⟩

theorem for_core {target : PySem.Expr} {body : List Stmt} {vs : List PV} {X : Fx} {m : Str → Option Value} {θ θ2 : List Addr} {s s2 : Shared} {Q : Flow → Shared → Prop} {E : Value → Shared → Prop} {I : Addr} {fp : List Addr} {Pv : Nat → Value → Prop} {It : Nat → Heap → Prop} {j0 : Nat} {loc2 : Loc} {hp2 : List AO}
    (C : Cx P fe n X) (S2 : SR P fe X m loc2 hp2 θ2 s2) (st2 : St X.L θ s θ2 s2) (hj : θ.length = j0) (W : Walks P.prog P.w X.A I fp [I] vs.length Pv It) (hst : It 0 s2.heap)
    (hfp : ∀ b ∈ fp, b ∉ θ2 ∧ b ≠ X.L) (hgI : X.g.get? I = none) (hsI : s.heap.get? I = none) (hIt : ∀ i h, It i h → ∃ o, h.get? I = some o ∧ NoTup o) (hal : ∀ i h, It i h → ∀ b ∈ fp, ∃ o, h.get? b = some o)
    (hPv : ∀ i v, Pv i v → ∃ p, vs[i]? = some p ∧ VRel s2.heap p v)
    (hlet : ∀ i v (s' : Shared) (Q : Unit → Shared → Prop) (E : Value → Shared → Prop), It i s'.heap → Q () s' → wpAny (model P.prog P.w) X.A (letOwnedTupleGo target (.ref I) v) Q E s')
    (h : ForI P fe n j0 target body vs loc2 hp2 Kf)
    (kk : ∀ f fl loc' hp' m' θ' s', Kf fl loc' hp' → SR P fe X m' loc' hp' θ' s' → FRel s'.heap θ' fl f → St X.L θ s θ' s' → Q f s') :
    codeAny (model P.prog P.w) X.A (.forLoop target (.ref I) body [] (fe.env X)) (fun r s' => match r with | .ok f => Q f s' | .error e => cameBackBy (model P.prog P.w) X.A (fe.env X) E e s') s2 := by
  obtain ⟨J, h0, ht, he⟩ := h
  have hIfp : I ∈ fp := W.sub I (List.mem_singleton.mpr rfl)
  refine codeAny_forLoop_any (fun k s' => ∃ i loc1 hp1 m1 θ1, i ≤ vs.length ∧ k = vs.length - i ∧ J i loc1 hp1 ∧ SR P fe X m1 loc1 hp1 θ1 s' ∧ St X.L θ s θ1 s' ∧ KT s2.heap s'.heap ∧ (∀ b ∈ fp, b ∉ θ1 ∧ b ≠ X.L) ∧ It i s'.heap) ?_ vs.length
    ⟨0, loc2, hp2, m, θ2, Nat.zero_le _, rfl, h0, S2, st2, KT.refl _, hfp, hst⟩
  rintro k s1 ⟨i, loc1, hp1, m1, θ1, hi, rfl, hJ, S1, st1, kt1, hfp1, it1⟩
  obtain ⟨oI, eI, nt⟩ := hIt i _ it1
  by_cases hlt : i < vs.length
  · refine W.item i s1 _ _ hlt it1 fun v h' tk hv it' hk => ?_
    obtain ⟨p, hp', rp⟩ := hPv i v hv
    have hk' : ∀ (b : Addr) (o : Obj), b ≠ I → s1.heap.get? b = some o → h'.get? b = some o := fun b o hb e => hk b o (fun q => hb (List.mem_singleton.mp q)) e
    obtain ⟨S3, kt3⟩ := S1.but (s' := { s1 with heap := h', toks := tk }) eI nt (hfp1 I hIfp).1 (hfp1 I hIfp).2 hgI hk' rfl
    have st3 : St X.L θ s θ1 { s1 with heap := h', toks := tk } := ⟨st1.pre, fun b o h1 h2 e => hk' b o (fun q => by rw [q, hsI] at e; cases e) (st1.keep b o h1 h2 e), st1.fresh, st1.os⟩
    refine hlet (i + 1) v _ _ _ it' ?_
    refine ht i p loc1 hp1 hp' hJ X m1 θ1 _ _ _ v C S3 (VRel.mono (kt1.trans kt3) _ rp) fun loc4 hp4 m4 θ4 s4 h4 S4 st4 => ?_
    refine h4 X m4 θ4 s4 _ _ C S4 fun f fl loc5 hp5 m5 θ5 s5 h5 S5 r5 st5 => ?_
    have stT := st4.trans S4 st5
    have stA := st3.trans S3 stT
    have ktT := S3.kt stT
    have itT : It (i + 1) s5.heap := W.frame _ _ _ it' fun b hb o e => stT.keep b o (hfp1 b hb).2 (hfp1 b hb).1 e
    have alive : ∀ b ∈ fp, ∃ o, h'.get? b = some o := hal _ _ it'
    have nx : ∀ (l : Loc) (h : List AO), Sub fe j0 loc5 hp5 l h → J (i + 1) l h → ∃ k', k' < vs.length - i ∧ ∃ i loc1 hp1 m1 θ1, i ≤ vs.length ∧ k' = vs.length - i ∧ J i loc1 hp1 ∧ SR P fe X m1 loc1 hp1 θ1 s5 ∧ St X.L θ s θ1 s5 ∧ KT s2.heap s5.heap ∧ (∀ b ∈ fp, b ∉ θ1 ∧ b ≠ X.L) ∧ It i s5.heap := by
      intro l h hs hi'
      obtain ⟨j, q1, q2, q3, q4⟩ := hs
      refine ⟨vs.length - (i + 1), by omega, i + 1, l, h, m5, θ5.take j, by omega, rfl, hi', q2 ▸ S5.drop j q3 q4, stA.drop j (hj ▸ q1), (kt1.trans kt3).trans ktT, fun b hb => ⟨fun q => ?_, (hfp1 b hb).2⟩, itT⟩
      rcases stT.fresh b (List.mem_of_mem_take q) with q | q
      · exact (hfp1 b hb).1 q
      · obtain ⟨o, e⟩ := alive b hb
        have q' : h'.get? b = none := q
        rw [e] at q'; cases q'
    cases fl with
    | next =>
      cases r5
      obtain ⟨l, h, hs, hi'⟩ := h5
      exact nx l h hs hi'
    | cont =>
      cases r5
      obtain ⟨l, h, hs, hi'⟩ := h5
      exact nx l h hs hi'
    | brk => cases r5; exact kk _ _ _ _ _ _ _ h5 S5 rfl stA
    | ret lv =>
      obtain ⟨v', e, r5⟩ := r5
      subst e
      exact kk _ _ _ _ _ _ _ h5 S5 ⟨v', rfl, r5⟩ stA
  · have hin : i = vs.length := by omega
    subst hin
    refine W.done s1 _ _ it1 fun h' tk hk => ?_
    have hk' : ∀ (b : Addr) (o : Obj), b ≠ I → s1.heap.get? b = some o → h'.get? b = some o := fun b o hb e => hk b o (fun q => hb (List.mem_singleton.mp q)) e
    obtain ⟨S3, kt3⟩ := S1.but (s' := { s1 with heap := h', toks := tk }) eI nt (hfp1 I hIfp).1 (hfp1 I hIfp).2 hgI hk' rfl
    have st3 : St X.L θ s θ1 { s1 with heap := h', toks := tk } := ⟨st1.pre, fun b o h1 h2 e => hk' b o (fun q => by rw [q, hsI] at e; cases e) (st1.keep b o h1 h2 e), st1.fresh, st1.os⟩
    exact wpAny_execs_nil (kk _ _ _ _ _ _ _ (he _ _ hJ) S3 rfl st3)

theorem NoTup.of_cls {o : Obj} {c : Value} (h : o.cls = c) (hc : c ≠ .type "tuple") : NoTup o := fun q => hc (h ▸ q.1)

theorem letOwned_ref {prog : Program} {w : World} {A : Around} {target : PySem.Expr} {I l : Addr} {v : Value} {s : Shared} {Q : Unit → Shared → Prop} {E : Value → Shared → Prop} {o : Obj} {r : List Value} {k : String} (ho : s.heap.get? I = some o) (hc : o.cls = .type k) (hd : o.data = .fields (.ref l :: r).toArray) (h : Q () s) :
    wpAny (model prog w) A (letOwnedTupleGo target (.ref I) v) Q E s := by
  have core : ∀ (r' a' : Addr), ((Value.ref I, v) : Value × Value) = (Value.ref r', Value.ref a') → wpAny (model prog w) A (do
      let o ← load r'
      match o.cls, o.data with
      | .type n, .fields vs =>
        if ["enumerate", "zip", "dict_itemiterator", "dict_reverseitemiterator", "odict_iterator", "itertools.zip_longest", "itertools.pairwise"].contains n && vs[0]? == some (rawInt a') then
          rule "for.unpacks-the-owned-tuple"
          updateField r' 0 .none
      | _, _ => pure ()) Q E s := by
    intro r' a' q
    cases q
    refine wpAny_bind (wpAny_load ho ?_)
    rw [hc, hd]
    dsimp only
    rw [if_neg (by simp [rawInt])]
    exact wpAny_pure h
  unfold letOwnedTupleGo
  split
  · split
    · next q => exact core _ _ q
    · exact wpAny_pure h
  · split
    · next q => exact core _ _ q
    · exact wpAny_pure h
  · exact wpAny_pure h

/-- the loop behind a fresh iterator `oI` -/
theorem for_fresh {target : PySem.Expr} {body : List Stmt} {vs : List PV} {X : Fx} {m : Str → Option Value} {θ θ1 : List Addr} {s s1 : Shared} {Q : Flow → Shared → Prop} {E : Value → Shared → Prop} {ax : List Addr} {Pv : Nat → Value → Prop} {It : Nat → Heap → Prop} {j0 : Nat} {loc1 : Loc} {hp1 : List AO} {oI : Obj} {tk : Nat}
    (C : Cx P fe n X) (S : SR P fe X m loc hp θ s) (S1 : SR P fe X m loc1 hp1 θ1 s1) (st1 : St X.L θ s θ1 s1) (hj : θ.length = j0)
    (W : Walks P.prog P.w X.A s1.heap.objs.size (s1.heap.objs.size :: ax) [s1.heap.objs.size] vs.length Pv It) (hst : It 0 (s1.heap.push oI)) (hax : ∀ b ∈ ax, b ∉ θ1 ∧ b ≠ X.L)
    (hIt : ∀ i h, It i h → ∃ o, h.get? s1.heap.objs.size = some o ∧ NoTup o) (hal : ∀ i h, It i h → ∀ b ∈ ax, ∃ o, h.get? b = some o)
    (hPv : ∀ i v, Pv i v → ∃ p, vs[i]? = some p ∧ VRel s1.heap p v)
    (hlet : ∀ i v (s' : Shared) (Q : Unit → Shared → Prop) (E : Value → Shared → Prop), It i s'.heap → Q () s' → wpAny (model P.prog P.w) X.A (letOwnedTupleGo target (.ref s1.heap.objs.size) v) Q E s')
    (h : ForI P fe n j0 target body vs loc1 hp1 Kf)
    (kk : ∀ f fl loc' hp' m' θ' s', Kf fl loc' hp' → SR P fe X m' loc' hp' θ' s' → FRel s'.heap θ' fl f → St X.L θ s θ' s' → Q f s') :
    codeAny (model P.prog P.w) X.A (.forLoop target (.ref s1.heap.objs.size) body [] (fe.env X)) (fun r s' => match r with | .ok f => Q f s' | .error e => cameBackBy (model P.prog P.w) X.A (fe.env X) E e s') { s1 with heap := s1.heap.push oI, toks := tk } := by
  have kp : ∀ (b : Addr) (o : Obj), s1.heap.get? b = some o → (s1.heap.push oI).get? b = some o := fun b o e => Heap.get?_push_of_some _ e
  have S2 := S1.grow (s' := { s1 with heap := s1.heap.push oI, toks := tk }) kp S1.bare rfl
  have st2 : St X.L θ s θ1 { s1 with heap := s1.heap.push oI, toks := tk } := st1.trans S1 (St.grow kp rfl)
  refine for_core (I := s1.heap.objs.size) C S2 st2 hj W hst ?_ ?_ ?_ hIt ?_ ?_ hlet h kk
  · intro b hb
    rcases List.mem_cons.mp hb with rfl | hb
    · exact ⟨fun q => absurd (S1.lt q) (Nat.lt_irrefl _), fun q => absurd (q ▸ S1.ltL) (Nat.lt_irrefl _)⟩
    · exact hax b hb
  · cases e : X.g.get? s1.heap.objs.size with
    | none => rfl
    | some o => exact absurd (Heap.lt_size (S1.fr.keep _ _ e)) (Nat.lt_irrefl _)
  · cases e : s.heap.get? s1.heap.objs.size with
    | none => rfl
    | some o =>
      exfalso
      by_cases q1 : s1.heap.objs.size = X.L
      · exact absurd (q1 ▸ S1.ltL) (Nat.lt_irrefl _)
      · by_cases q2 : s1.heap.objs.size ∈ θ
        · exact absurd (S1.lt (List.IsPrefix.subset st1.pre q2)) (Nat.lt_irrefl _)
        · exact absurd (Heap.lt_size (st1.keep _ _ q1 q2 e)) (Nat.lt_irrefl _)
  · intro i h' it b hb
    rcases List.mem_cons.mp hb with rfl | hb
    · obtain ⟨o, e, _⟩ := hIt i h' it; exact ⟨o, e⟩
    · exact hal i h' it b hb
  · intro i v e
    obtain ⟨p, e1, r⟩ := hPv i v e
    exact ⟨p, e1, VRel.mono (KT.of_keep kp) _ r⟩

/-- over a list that was made for it (the last handle) -/
theorem TX_For_list {target iter : PySem.Expr} {body : List Stmt} {pos : Pos} (hs : ∀ X x, foldedSetIterable iter (fe.env X) x = pure x) (hc : ∀ (x : Str) (k : Nat), fe.cells.lookup x = some k → k < hp.length)
    (h : TE P fe n iter loc hp fun lv hp1 => ∃ hp' vs, lv = .o hp'.length ∧ hp1 = hp' ++ [.lst vs] ∧ hp.length ≤ hp'.length ∧ (∀ p ∈ loc, loc.lookup p.1 = some p.2 ∧ ∀ i, p.2 = .o i → i < hp'.length) ∧ ForI P fe n hp.length target body vs loc hp' Kf) :
    TX P fe n (.For target iter body [] pos) loc hp Kf := by
  intro X m θ s Q E C S kk
  refine wpAny_For (h X m θ s _ E C S fun v lv hp1 θ1 s1 h1 S1 r1 st1 => ?_) (hs X)
  obtain ⟨hp', vs, rfl, rfl, hle, hl, hF⟩ := h1
  obtain ⟨l, el, rfl⟩ := r1
  obtain ⟨ws, hL, rs⟩ := S1.H.obj _ l _ el (List.getElem?_concat_length ..)
  obtain ⟨_, hol, _⟩ := id hL
  refine wpAny_pyIter_list hL ?_
  have hlen1 : θ1.length = hp'.length + 1 := by rw [S1.H.len, List.length_append]; rfl
  have S1' := S1.drop (loc' := loc) hp'.length hl (fun x k e => Nat.lt_of_lt_of_le (hc x k e) hle)
  have st1' := st1.drop hp'.length (by rw [S.H.len]; exact hle)
  rw [List.take_left' rfl] at S1'
  have hlθ : l ∉ θ1.take hp'.length := fun q => by
    have nd := S1.H.nd
    have e : θ1 = θ1.take hp'.length ++ [l] := by
      conv => lhs; rw [← List.take_append_drop hp'.length θ1]
      rw [List.drop_eq_getElem_cons (by omega), List.drop_of_length_le (by omega)]
      rw [(List.getElem?_eq_some_iff.mp el).2]
    rw [e, List.nodup_append] at nd
    exact nd.2.2 l q l (List.mem_singleton.mpr rfl) rfl
  have hne : l ≠ s1.heap.objs.size := Nat.ne_of_lt (Heap.lt_size hol)
  have hsize : vs.length = ws.size := by rw [← rs.length]; simp
  refine for_fresh (vs := vs) (ax := [l]) (Pv := fun i v => ws[i]? = some v) (It := fun i h => h.IsListIter s1.heap.objs.size l i ∧ h.IsList l ws) C S S1' st1' S.H.len ?_ ?_ ?_ ?_ ?_ ?_ ?_ hF kk
  · rw [hsize]; exact Walks.list C.hA _ l hne ws
  · exact ⟨⟨_, Heap.get?_push_size _ rfl, rfl, rfl⟩, hL.push _⟩
  · intro b hb
    rw [List.mem_singleton.mp hb]
    exact ⟨hlθ, (S1.free l (List.mem_of_getElem? el)).2⟩
  · rintro i h ⟨⟨o, ho, hc, _⟩, _⟩
    exact ⟨o, ho, NoTup.of_cls hc (by simp)⟩
  · rintro i h ⟨_, ⟨o', ho', _⟩⟩ b hb
    rw [List.mem_singleton.mp hb]; exact ⟨o', ho'⟩
  · intro i v e
    exact rs.get' i (w := v) (by simpa using e)
  · rintro i v s' Q' E' ⟨⟨o, ho, hc, hd⟩, _⟩ hq
    exact letOwned_ref ho hc (r := [.int i 0]) hd hq

theorem SR.notTup {X : Fx} {m : Str → Option Value} {θ : List Addr} {s : Shared} (S : SR P fe X m loc hp θ s) {l : Addr} {ws : Array Value} (t : IsTup s.heap l ws) : l ∉ θ ∧ l ≠ X.L := by
  refine ⟨fun q => ?_, fun q => ?_⟩
  · obtain ⟨o, e, nt⟩ := S.H.mem q
    exact NoTup.ne e nt t rfl
  · obtain ⟨o, e, nt⟩ := Fr.alive S.fr
    exact NoTup.ne e nt t q

/-- over a tuple -/
theorem TX_For_tup {target iter : PySem.Expr} {body : List Stmt} {pos : Pos} (hs : ∀ X x, foldedSetIterable iter (fe.env X) x = pure x)
    (h : TE P fe n iter loc hp fun lv hp1 => ∃ vs, lv = .v (.tup vs) ∧ ForI P fe n hp.length target body vs loc hp1 Kf) :
    TX P fe n (.For target iter body [] pos) loc hp Kf := by
  intro X m θ s Q E C S kk
  refine wpAny_For (h X m θ s _ E C S fun v lv hp1 θ1 s1 h1 S1 r1 st1 => ?_) (hs X)
  obtain ⟨vs, rfl, hF⟩ := h1
  obtain ⟨l, ws, rfl, ht, rs⟩ := r1
  refine wpAny_pyIter_tuple ht ?_
  have hne : l ≠ s1.heap.objs.size := Nat.ne_of_lt ht.lt
  have hsize : vs.length = ws.size := by rw [← rs.length]; simp
  refine for_fresh (vs := vs) (ax := [l]) (Pv := fun i v => ws[i]? = some v) (It := fun i h => h.IsTupleIter s1.heap.objs.size l i ∧ h.IsTuple l ws) C S S1 st1 S.H.len ?_ ?_ ?_ ?_ ?_ ?_ ?_ hF kk
  · rw [hsize]; exact Walks.tuple C.hA _ l hne ws
  · exact ⟨⟨_, Heap.get?_push_size _ rfl, rfl, rfl⟩, IsTup.push ht _⟩
  · intro b hb
    rw [List.mem_singleton.mp hb]
    exact S1.notTup ht
  · rintro i h ⟨⟨o, ho, hc, _⟩, _⟩
    exact ⟨o, ho, NoTup.of_cls hc (by simp)⟩
  · rintro i h ⟨_, ⟨o', ho', _⟩⟩ b hb
    rw [List.mem_singleton.mp hb]; exact ⟨o', ho'⟩
  · intro i v e
    exact rs.get' i (w := v) (by simpa using e)
  · rintro i v s' Q' E' ⟨⟨o, ho, hc, hd⟩, _⟩ hq
    exact letOwned_ref ho hc (r := [.int i 0]) hd hq

/-- a name of the start's -/
theorem TE_boot {x : Str} {pos : Pos} {v : Value} (hx : fe.scope.names.lookup x = some .globalImplicit) (e : nsIn P.K mainGlobals x = some none) (hv : bootBuiltins x = some v) (hn : x ≠ "__name__") (hd : (x == ("__debug__" : Str)) = false)
    {X : Fx} {m : Str → Option Value} {θ : List Addr} {s : Shared} {Q : Value → Shared → Prop} {E : Value → Shared → Prop} (C : Cx P fe n X) (S : SR P fe X m loc hp θ s) (h : Q v s) : wpAny (model P.prog P.w) X.A (eval (.Name x pos) (fe.env X)) Q E s :=
  nameX_B S.fr C.gd.1 C.gd.2 e hv hn h C.kind hx hd

/-- the ints of a range as a made thing -/
noncomputable def RangeOf (h : Heap) (a b c : Int) (v : Value) : Prop := ∃ r t u w, v = .ref r ∧ IsRange h r a b c t u w
noncomputable def rangeVs (a b c : Int) : List PV := (rangeInts a c (Builtin.Range.rangeSize a b c).toNat).map .int

/-- `range(..)`: its arguments' ints -/
noncomputable def RArgs (Kr : Int → Int → Int → List AO → Prop) (as : List LV) (hp : List AO) : Prop :=
  (∃ b, as = [.v (.int b)] ∧ Kr 0 b 1 hp) ∨ (∃ a b, as = [.v (.int a), .v (.int b)] ∧ Kr a b 1 hp) ∨
    ∃ a b c, as = [.v (.int a), .v (.int b), .v (.int c)] ∧ c ≠ 0 ∧ Builtin.divisionGoesByPylong (b - a) c = false ∧ Kr a b c hp
theorem rangeSize_nn (a b c : Int) : 0 ≤ Builtin.Range.rangeSize a b c := by
  unfold Builtin.Range.rangeSize
  split
  · split
    · exact Int.add_nonneg (Int.ediv_nonneg (by omega) (by omega)) (by decide)
    · exact Int.le_refl _
  · split
    · exact Int.add_nonneg (Int.ediv_nonneg (by omega) (by omega)) (by decide)
    · exact Int.le_refl _

theorem LRels.ints1 {h : Heap} {θ : List Addr} {a : Int} {vs : List Value} (r : LRels h θ [.v (.int a)] vs) : ∃ t, vs = [.int a t] := by
  obtain ⟨v, _, rfl, ⟨t, rfl⟩, rfl⟩ := r
  exact ⟨t, rfl⟩
theorem LRels.ints2 {h : Heap} {θ : List Addr} {a b : Int} {vs : List Value} (r : LRels h θ [.v (.int a), .v (.int b)] vs) : ∃ t u, vs = [.int a t, .int b u] := by
  obtain ⟨v, _, rfl, ⟨t, rfl⟩, r⟩ := r
  obtain ⟨u, rfl⟩ := LRels.ints1 r
  exact ⟨t, u, rfl⟩
theorem LRels.ints3 {h : Heap} {θ : List Addr} {a b c : Int} {vs : List Value} (r : LRels h θ [.v (.int a), .v (.int b), .v (.int c)] vs) : ∃ t u w, vs = [.int a t, .int b u, .int c w] := by
  obtain ⟨v, _, rfl, ⟨t, rfl⟩, r⟩ := r
  obtain ⟨u, w, rfl⟩ := LRels.ints2 r
  exact ⟨t, u, w, rfl⟩

theorem range_use {args : List PySem.Expr} {Kr : Int → Int → Int → List AO → Prop} (h : TA P fe n args loc hp (RArgs Kr)) {p : Pos} {pos : Pos}
    (hx : fe.scope.names.lookup (Str.ofString "range") = some .globalImplicit) (e : nsIn P.K mainGlobals (Str.ofString "range") = some none)
    (hargs : ∀ env, ∃ e1 r, args = e1 :: r ∧ starEach (e1 :: r) env = (false, eval e1 env) :: starEach r env ∧ (backTo pos (starEach r env)).any (·.1) = false)
    {X : Fx} {m : Str → Option Value} {θ : List Addr} {s : Shared} {Q : Value → Shared → Prop} {E : Value → Shared → Prop} (C : Cx P fe n X) (S : SR P fe X m loc hp θ s)
    (kk : ∀ v a b c hp' θ' s', Kr a b c hp' → SR P fe X m loc hp' θ' s' → RangeOf s'.heap a b c v → St X.L θ s θ' s' → Q v s') :
    wpAny (model P.prog P.w) X.A (eval (.Call (.Name (Str.ofString "range") p) args [] pos) (fe.env X)) Q E s := by
  refine Call_ (TE_boot (v := .type "range") hx e (by decide +kernel) (by decide +kernel) (by decide +kernel) C S ?_)
  obtain ⟨e1, r, rfl, he, hp⟩ := hargs (fe.env X)
  have h2 := h X m θ s
  rw [he] at h2 ⊢
  refine PySem.callWith_type (by show (false || (backTo pos (starEach r (fe.env X))).any (·.1)) = false; rw [hp]; rfl) (Calls.evalArgs_plain ?_)
  refine h2 _ _ pos C S fun vs lvs hp' θ' s' hk S' rs st => ?_
  have fin : ∀ a b c t u w (s'' : Shared), Kr a b c hp' → s''.heap = s'.heap.push { cls := .type "range", data := .fields #[.int a t, .int b u, .int c w] } → s''.gens = s'.gens → s''.os = s'.os → Q (.ref s'.heap.objs.size) s'' := by
    intro a b c t u w s'' hk hh hg ho
    have kp : ∀ (b : Addr) (o : Obj), s'.heap.get? b = some o → s''.heap.get? b = some o := fun b o e => by rw [hh]; exact Heap.get?_push_of_some _ e
    exact kk _ a b c hp' θ' s'' hk (S'.grow kp (hg ▸ S'.bare) ho) ⟨_, t, u, w, rfl, by rw [hh]; exact IsRange.new ..⟩ (st.trans S' (St.grow kp ho))
  rcases hk with ⟨b, rfl, hk⟩ | ⟨a, b, rfl, hk⟩ | ⟨a, b, c, rfl, h0, hd, hk⟩
  · obtain ⟨t, rfl⟩ := rs.ints1
    exact call_range_1 (fin _ _ _ _ _ _ _ hk rfl rfl rfl)
  · obtain ⟨t, u, rfl⟩ := rs.ints2
    exact call_range_2 (fin _ _ _ _ _ _ _ hk rfl rfl rfl)
  · obtain ⟨t, u, w, rfl⟩ := rs.ints3
    exact call_range_3 h0 (fin _ _ _ _ _ _ _ hk rfl rfl rfl) (.inl hd)

/-- over a range -/
theorem TX_For_range {target : PySem.Expr} {args : List PySem.Expr} {body : List Stmt} {p rpos pos : Pos}
    (hx : fe.scope.names.lookup (Str.ofString "range") = some .globalImplicit) (e : nsIn P.K mainGlobals (Str.ofString "range") = some none)
    (hargs : ∀ env, ∃ e1 r, args = e1 :: r ∧ starEach (e1 :: r) env = (false, eval e1 env) :: starEach r env ∧ (backTo rpos (starEach r env)).any (·.1) = false)
    (h : TA P fe n args loc hp (RArgs fun a b c hp1 => Builtin.Range.small a b c = true ∧ ForI P fe n hp.length target body (rangeVs a b c) loc hp1 Kf)) :
    TX P fe n (.For target (.Call (.Name (Str.ofString "range") p) args [] rpos) body [] pos) loc hp Kf := by
  intro X m θ s Q E C S kk
  refine wpAny_For (range_use h hx e hargs C S fun v a b c hp1 θ1 s1 h1 S1 r1 st1 => ?_)
  obtain ⟨hsm, hF⟩ := h1
  obtain ⟨r, t, u, w, rfl, hr⟩ := r1
  refine wpAny_pyIter_range hr hsm ?_
  have hsz : ∃ N : Nat, Builtin.Range.rangeSize a b c = N ∧ (rangeVs a b c).length = N := by
    refine ⟨(Builtin.Range.rangeSize a b c).toNat, ?_, by simp [rangeVs, rangeInts]⟩
    have : 0 ≤ Builtin.Range.rangeSize a b c := by
      unfold Builtin.Range.rangeSize
      split
      · split
        · have : 0 ≤ (b - a - 1) / c := Int.ediv_nonneg (by omega) (by omega)
          omega
        · omega
      · split
        · have : 0 ≤ (a - b - 1) / (-c) := Int.ediv_nonneg (by omega) (by omega)
          omega
        · omega
    omega
  obtain ⟨N, hN, hlen⟩ := hsz
  refine for_fresh (vs := rangeVs a b c) (ax := []) (Pv := fun i v => i < N ∧ ∃ t, v = .int (a + i * c) t) (It := fun i h => IsRangeIter h s1.heap.objs.size (a + (i : Nat) * c) ((N : Int) - (i : Nat)) c) C S S1 st1 S.H.len ?_ ?_ ?_ ?_ ?_ ?_ ?_ hF kk
  · rw [hlen]
    have W := Walks.range (prog := P.prog) (w := P.w) C.hA s1.heap.objs.size a c N
    exact ⟨W.sub, W.frame, fun i s Q E hi st hQ => W.item i s Q E hi st fun v h' tk hv => hQ v h' tk ⟨hi, hv⟩, W.done, W.self⟩
  · rw [hN]
    have e1 : a + ((0 : Nat) : Int) * c = a := by simp
    have e2 : ((N : Int) - ((0 : Nat) : Int)) = N := by simp
    rw [e1, e2]
    exact Heap.get?_push_size _ rfl
  · intro b hb; cases hb
  · intro i h it
    exact ⟨_, it, NoTup.of_cls (c := .type "range_iterator") rfl (by simp)⟩
  · intro i h it b hb; cases hb
  · rintro i v ⟨hi, t, rfl⟩
    refine ⟨.int (a + i * c), ?_, t, rfl⟩
    unfold rangeVs
    rw [hN, Int.toNat_natCast, List.getElem?_map, rangeInts_get hi]; rfl
  · intro i v s' Q' E' it hq
    unfold letOwnedTupleGo
    have core : ∀ (r' a' : Addr), ((Value.ref s1.heap.objs.size, v) : Value × Value) = (Value.ref r', Value.ref a') → wpAny (model P.prog P.w) X.A (do
        let o ← load r'
        match o.cls, o.data with
        | .type n, .fields vs =>
          if ["enumerate", "zip", "dict_itemiterator", "dict_reverseitemiterator", "odict_iterator", "itertools.zip_longest", "itertools.pairwise"].contains n && vs[0]? == some (rawInt a') then
            rule "for.unpacks-the-owned-tuple"
            updateField r' 0 .none
        | _, _ => pure ()) Q' E' s' := by
      intro r' a' q
      cases q
      refine wpAny_bind (wpAny_load it ?_)
      dsimp only
      rw [if_neg (by
        intro h
        rw [show (["enumerate", "zip", "dict_itemiterator", "dict_reverseitemiterator", "odict_iterator", "itertools.zip_longest", "itertools.pairwise"].contains "range_iterator") = false from by decide, Bool.false_and] at h
        cases h)]
      exact wpAny_pure hq
    split
    · split
      · next q => exact core _ _ q
      · exact wpAny_pure hq
    · split
      · next q => exact core _ _ q
      · exact wpAny_pure hq
    · exact wpAny_pure hq
end
end VC
namespace VC
open PySem PySem.W PyProof.Rows PySem.Calls PySem.Spec

section
variable {P : PE} {fe : FE} {n : Nat} {loc : Loc} {hp : List AO} {K : LV → List AO → Prop} {Kf : Fl → Loc → List AO → Prop}

/-- a call of a def at the rank n: from any frame -/
noncomputable def TC (P : PE) (n : Nat) (f : Value) (as : List LV) (hp : List AO) (K : LV → List AO → Prop) : Prop :=
  ∀ (fe : FE) (X : Fx) (m : Str → Option Value) (loc : Loc) (θ : List Addr) (s : Shared) (Q : Value → Shared → Prop) (E : Value → Shared → Prop) (vals : List Value), Cx P fe n X → SR P fe X m loc hp θ s → LRels s.heap θ as vals →
    Kt P fe X m loc θ s K Q → wpAny (model P.prog P.w) X.A (call f vals) Q E s

theorem TE_CallFn {x : Str} {p pos : Pos} {e1 : PySem.Expr} {r : List PySem.Expr} {f : Addr} {n' : Nat} (hx : fe.scope.names.lookup x = some .globalImplicit) (hf : nsIn P.K mainGlobals x = some (some (.ref f))) (hk : keepIn P.K (.ref f) = true) (hn : n' ≤ n)
    (hd : (x == ("__debug__" : Str)) = false) (he : ∀ env, starEach (e1 :: r) env = (false, eval e1 env) :: starEach r env) (hpl : ∀ env, (backTo pos (starEach r env)).any (·.1) = false)
    (h : TA P fe n (e1 :: r) loc hp fun as hp1 => TC P n' (.ref f) as hp1 K) : TE P fe n (.Call (.Name x p) (e1 :: r) [] pos) loc hp K := by
  intro X m θ s Q E C S kk
  refine Call_ (nameX_K S.fr C.gd.1 C.gd.2 hf ?_ C.kind hx hd)
  refine callWith_K C.gd.1 hk (h X m θ s _ _ pos C S fun vs as hp1 θ1 s1 h1 S1 r1 st1 => ⟨C.gd.1.keeps S1.fr.keep, ?_⟩) (he _) (hpl _)
  exact h1 fe X m loc θ1 s1 Q E vs (C.mono hn) S1 r1 fun v lv hp2 θ2 s2 h2 S2 r2 st2 => kk _ _ _ _ _ h2 S2 r2 (st1.trans S1 st2)

/-! ### a def is entered -/
noncomputable def newsOf (h : Heap) (θ : List Addr) : List (Addr × Obj) := θ.filterMap fun a => (h.get? a).map fun o => (a, o)
theorem newsOf_mem {h : Heap} {θ : List Addr} {p : Addr × Obj} (hp : p ∈ newsOf h θ) : p.1 ∈ θ ∧ h.get? p.1 = some p.2 := by
  obtain ⟨a, ha, e⟩ := List.mem_filterMap.mp hp
  obtain ⟨o, ho, rfl⟩ := Option.map_eq_some_iff.mp e
  exact ⟨ha, ho⟩
theorem newsOf_map {h : Heap} : ∀ {θ : List Addr}, (∀ a ∈ θ, ∃ o, h.get? a = some o) → (newsOf h θ).map (·.1) = θ
  | [], _ => rfl
  | a :: θ, k => by
    obtain ⟨o, ho⟩ := k a (.head _)
    unfold newsOf
    rw [List.filterMap_cons, ho]
    exact congrArg (a :: ·) (newsOf_map fun b hb => k b (.tail _ hb))

theorem zip_lookup {β : Type} : ∀ {names : List Str} {vs : List β}, names.Nodup → ∀ x, (names.zip vs).reverse.lookup x = (names.zip vs).lookup x := by
  intro names vs nd x
  induction names generalizing vs with
  | nil => rfl
  | cons y r ih =>
    cases vs with
    | nil => rfl
    | cons v vs =>
      obtain ⟨hy, nd'⟩ := List.nodup_cons.mp nd
      rw [List.zip_cons_cons, List.reverse_cons, List.lookup_append, ih nd', List.lookup_cons]
      by_cases hx : x = y
      · subst hx
        have : ∀ (names : List Str) (vs : List β), x ∉ names → (names.zip vs).lookup x = none := by
          intro names
          induction names with
          | nil => intro vs _; rfl
          | cons z r ih =>
            intro vs h
            cases vs with
            | nil => rfl
            | cons v vs =>
              rw [List.zip_cons_cons, List.lookup_cons, beq_eq_false_iff_ne.mpr (fun (q : x = z) => h (by rw [q]; exact .head _))]
              exact ih vs fun q => h (.tail _ q)
        rw [this _ _ hy]
        simp
      · rw [beq_eq_false_iff_ne.mpr hx]
        simp [List.lookup_cons, beq_eq_false_iff_ne.mpr hx]

theorem zip_rel {h : Heap} {θ : List Addr} : ∀ {names : List Str} {as : List LV} {vs : List Value}, LRels h θ as vs → ∀ x lv, (names.zip as).lookup x = some lv → ∃ v, (names.zip vs).lookup x = some v ∧ LRel h θ lv v
  | [], _, _, _, x, lv, e => by cases e
  | y :: r, [], _, _, x, lv, e => by cases e
  | y :: r, a :: as, _, rs, x, lv, e => by
    obtain ⟨v, vs', rfl, r1, r2⟩ := rs
    rw [List.zip_cons_cons, List.lookup_cons] at e
    rw [List.zip_cons_cons, List.lookup_cons]
    by_cases hx : x = y
    · subst hx
      simp only [beq_self_eq_true] at e ⊢
      cases e
      exact ⟨v, rfl, r1⟩
    · rw [beq_eq_false_iff_ne.mpr hx] at e ⊢
      exact zip_rel r2 x lv e
theorem LRels.length {h : Heap} {θ : List Addr} : ∀ {as : List LV} {vs : List Value}, LRels h θ as vs → vs.length = as.length
  | [], _, r => by cases r; rfl
  | a :: as, _, r => by
    obtain ⟨v, vs', rfl, _, r2⟩ := r
    rw [List.length_cons, List.length_cons, r2.length]

/-- what comes back of a body -/
noncomputable def Back (K : LV → List AO → Prop) : Fl → Loc → List AO → Prop
  | .ret lv, _, hp => K lv hp
  | .next, _, hp => K (.v .none) hp
  | _, _, _ => False

theorem len1 {vals : List Value} (h : vals.length = 1) : ∃ a, vals = [a] := List.length_eq_one_iff.mp h
theorem len_uncons {vals : List Value} {k : Nat} (h : vals.length = k + 1) : ∃ a r, vals = a :: r ∧ r.length = k := by
  cases vals with
  | nil => cases h
  | cons a r => exact ⟨a, r, rfl, Nat.succ.inj h⟩
theorem len2 {vals : List Value} (h : vals.length = 2) : ∃ a b, vals = [a, b] := by
  obtain ⟨a, r, rfl, h2⟩ := len_uncons h
  obtain ⟨b, rfl⟩ := len1 h2
  exact ⟨a, b, rfl⟩
theorem len3 {vals : List Value} (h : vals.length = 3) : ∃ a b c, vals = [a, b, c] := by
  obtain ⟨a, r, rfl, h2⟩ := len_uncons h
  obtain ⟨b, c, rfl⟩ := len2 h2
  exact ⟨a, b, c, rfl⟩
theorem len4 {vals : List Value} (h : vals.length = 4) : ∃ a b c d, vals = [a, b, c, d] := by
  obtain ⟨a, r, rfl, h2⟩ := len_uncons h
  obtain ⟨b, c, d, rfl⟩ := len3 h2
  exact ⟨a, b, c, d, rfl⟩
/-- a call has come back: everything that stood, but the handles' things, stands -/
theorem SR.back {fe' : FE} {X X' : Fx} {m m' : Str → Option Value} {loc' : Loc} {hp' : List AO} {θ θ' : List Addr} {s s' : Shared} (S : SR P fe X m loc hp θ s) (S' : SR P fe' X' m' loc' hp' θ' s') (p : θ <+: θ')
    (k : ∀ (b : Addr) (o : Obj), b ∉ θ → s.heap.get? b = some o → s'.heap.get? b = some o) (fr : ∀ a ∈ θ', a ∈ θ ∨ s.heap.get? a = none) (ho : s'.os = s.os) : SR P fe X m loc hp' θ' s' ∧ St X.L θ s θ' s' := by
  have st : St X.L θ s θ' s' := ⟨p, fun b o _ h e => k b o h e, fr, ho⟩
  have kt := S.kt st
  obtain ⟨oL, es, ep, hL, hLd, hLk, hLf⟩ := S.fr.ns
  refine ⟨⟨⟨⟨oL, es, ep, k _ _ (fun q => (S.free _ q).2 rfl) hL, hLd, hLk, hLf⟩, fun b o e => k b o (fun q => ?_) (S.fr.keep b o e), S.fr.above⟩, fun x lv e => let ⟨v, e1, r⟩ := S.loc x lv e; ⟨v, e1, LRel.mono kt p _ r⟩, S'.H, fun a ha => ?_, S'.bare, fun x k e => let ⟨a, e1, e2⟩ := S.cells x k e; ⟨a, e1, pre_get p e2⟩⟩, st⟩
  · have := (S.free _ q).1; rw [e] at this; cases this
  · rcases fr a ha with h | h
    · exact S.free a h
    · refine ⟨?_, fun q => ?_⟩
      · cases e : X.g.get? a with
        | none => rfl
        | some o => have := S.fr.keep _ _ e; rw [h] at this; cases this
      · rw [q, hL] at h; cases h

theorem TC_enter {f : Addr} {oc : Value} {od : Option Addr} {osl : Array (Option Value)} {name qual : Str} {params : Arguments} {body : List Stmt} {scope : Scope} {dV kV doc pm cdv ct : Value} {an : Option Addr} {as : List LV} {names : List Str}
    (ho : P.K.lookup f = some ⟨oc, od, .func (fnOf name qual params body scope dV kV doc pm an cdv ct), osl⟩) (hcd : codeIn P.K cdv qual = true)
    (hbind : ∀ vals : List Value, vals.length = as.length → bindArgs (fnOf name qual params body scope dV kV doc pm an cdv ct) ⟨vals, []⟩ = pure (names.zip vals))
    (hnd : names.Nodup) (hloc : ∀ x ∈ names, scope.names.lookup x = some .local) (hcell : ∀ x ∈ scope.names, x.2 ≠ .cell) (hco : scope.isCoroutine = false) (hgen : scope.isGenerator = false) (hk : scope.kind = .function)
    (h : TXs P ⟨qual, scope, f, cdv, [], false⟩ n body (names.zip as) hp (Back K)) : TC P (n + 1) (.ref f) as hp K := by
  intro fe X m loc θ s Q E vals C S rs kk
  refine wpAny_call ?_
  obtain ⟨outer, A₀, base, hA, B⟩ := C.below
  have N : News X.g X.L s.heap (newsOf s.heap θ) := fun p hp => let ⟨h1, h2⟩ := newsOf_mem hp; ⟨h2, (S.free _ h1).2, (S.free _ h1).1⟩
  have hN : (newsOf s.heap θ).map (·.1) = θ := newsOf_map fun a ha => let ⟨o, e, _⟩ := S.H.mem ha; ⟨o, e⟩
  obtain ⟨_, BG, stG, _⟩ := groundX (R := fun _ _ => True) B S.fr N hA rfl C.kind
  rw [hN] at BG stG
  have X₀ := C.gd.1.keeps S.fr.keep
  refine codeAny_call_def (fd := fnOf name qual params body scope dV kV doc pm an cdv ct) (body := body) (binds := names.zip vals) (by have := C.dep; omega) (X₀ _ _ ho) rfl (C.gd.2.nolimit.keeps S.fr.keep) (codeRec_of X₀ hcd) rfl
    (BindsTo.of_eq (hbind _ rs.length)) hcell (fun y hy => hloc _ (List.of_mem_zip hy).1) (fun h₁ hns hk₁ => ?_) hco hgen hk
  let X' : Fx := ⟨X.A.deeper (envX qual scope s.heap.objs.size f cdv []), hideAll s.heap θ, s.heap.objs.size, []⟩
  let fe' : FE := ⟨qual, scope, f, cdv, [], false⟩
  have C' : Cx P fe' n X' := ⟨C.hA, by have := C.dep; show X.A.depth + 1 + _ < _; omega, by have := C.un; show X.A.units + 3 + _ < _; omega, C.gd.keeps stG, C.sc.keeps stG, ⟨_, _, _, Around.frames_deeper hA, BG⟩, hk, fun q => by cases q⟩
  have kp : ∀ (b : Addr) (o : Obj), s.heap.get? b = some o → h₁.get? b = some o := hk₁
  have S' : SR P fe' X' (fun x => (names.zip vals).reverse.lookup x) (names.zip as) hp θ { s with heap := h₁, toks := s.toks + (names.zip vals).length } := by
    refine ⟨⟨hns, fun b o e => hk₁ b o (of_hideAll _ e), Nat.le_of_eq (hideAll_size _ _)⟩, fun x lv e => ?_, ⟨S.H.len, S.H.nd, fun i a ao e1 e2 => ORel.keep (KT.of_keep kp) (List.prefix_refl _) _ (fun o e => kp a o e) (S.H.obj i a ao e1 e2), S.H.accd⟩, fun a ha => ⟨hideAll_none _ ha, ?_⟩, S.bare, fun x k e => by cases e⟩
    · obtain ⟨v, e1, r⟩ := zip_rel rs x lv e
      exact ⟨v, by rw [zip_lookup hnd]; exact e1, LRel.mono (KT.of_keep kp) (List.prefix_refl _) _ r⟩
    · exact Nat.ne_of_lt (S.lt ha)
  refine h X' _ θ _ _ _ C' S' fun fl f' loc3 hp3 m3 θ3 s3 h3 S3 r3 st3 => ?_
  have hL' : s.heap.get? s.heap.objs.size = none := by
    cases e : s.heap.get? s.heap.objs.size with
    | none => rfl
    | some o => exact absurd (Heap.lt_size e) (Nat.lt_irrefl _)
  obtain ⟨S4, st4⟩ := S.back S3 st3.pre (fun b o hb e => st3.keep b o (fun (q : b = s.heap.objs.size) => by rw [q, hL'] at e; cases e) hb (kp b o e)) (fun a ha => by
    rcases st3.fresh a ha with q | q
    · exact .inl q
    · refine .inr ?_
      cases e : s.heap.get? a with
      | none => rfl
      | some o =>
        have q' : h₁.get? a = none := q
        rw [kp a o e] at q'; cases q') st3.os
  cases f' with
  | ret lv =>
    obtain ⟨v, rfl, r3⟩ := r3
    exact kk v lv hp3 θ3 s3 h3 S4 r3 st4
  | next => cases r3; exact kk _ _ hp3 θ3 s3 h3 S4 (show VRel s3.heap .none Value.none from rfl) st4
  | brk => exact h3.elim
  | cont => exact h3.elim

/-! ### more stores -/
theorem TU_Name {x : Str} {pos : Pos} {a : LV} {Ku : Loc → List AO → Prop} (h : TU P fe n (fun env v => storeName env x v) a loc hp Ku) : TU P fe n (fun env w => assign (.Name x pos) env w) a loc hp Ku :=
  fun X m θ s Q E va C S r kk => PySem.wpAny_assign_Name (h X m θ s Q E va C S r kk)

/-- two names from two values shown beside each other: the last is stored first -/
theorem TX_Swap {x y : Str} {p q tp pos : Pos} {k' : Nat} {e : PySem.Expr} (hs : swapsWithSole [.Tuple [.Name x p, .Name y q] k' tp] e pos.line = fun _ => pure false)
    (hw : ∀ X, swappedStores [.Tuple [.Name x p, .Name y q] k' tp] e (fe.env X) = pure (some [x, y]))
    (h : TE P fe n e loc hp fun lv hp1 => ∃ a b, lv = .v (.tup [a, b]) ∧ TU P fe n (fun env v => storeName env y v) (.v b) loc hp1 fun loc1 hp2 => TU P fe n (fun env v => storeName env x v) (.v a) loc1 hp2 (Kf .next)) : TX P fe n (.Assign [.Tuple [.Name x p, .Name y q] k' tp] e pos) loc hp Kf := by
  intro X m θ s Q E C S kk
  refine Assign_Tuple_swapped (names := [x, y]) (h X m θ s _ E C S fun v lv hp1 θ1 s1 h1 S1 r1 st1 => ?_) (congrFun hs _) (hw X)
  obtain ⟨a, b, rfl, h1⟩ := h1
  obtain ⟨l, ws, rfl, ht, rs⟩ := r1
  obtain ⟨v1, _, e1, r1, v2, _, e2, r2, e3⟩ := rs
  subst e3 e2
  have hsz : ws.size = 2 := by rw [← Array.length_toList, e1]; rfl
  show wpAny _ _ (unpackItems (.ref l) 2 none) _ _ _
  rw [← hsz]
  refine unpackItems_tuple C.hA ht fun h' he => ?_
  rw [e1]
  have kp : ∀ (b : Addr) (o : Obj), s1.heap.get? b = some o → h'.get? b = some o := fun b o e => he b o (Nat.ne_of_lt (Heap.lt_size e)) e
  have S2 := S1.grow (s' := { s1 with heap := h' }) kp S1.bare rfl
  have sg : St X.L θ1 s1 θ1 { s1 with heap := h' } := St.grow kp rfl
  have kt : KT s1.heap h' := KT.of_keep kp
  show wpAny _ _ (do holding [v1] (bindName (fe.env X) y v2); assignInOrder [bindName (fe.env X) x] [v1]) _ _ _
  refine wpAny_bind (wpAny_holding (PySem.wpAny_bindName (h1 X m θ1 _ _ _ v2 C S2 (VRel.mono kt _ r2) fun loc2 hp2 m2 θ2 s2 h2 S3 st2 => ?_)))
  show wpAny _ _ (do holding [] (bindName (fe.env X) x v1); assignInOrder [] []) _ _ _
  refine wpAny_bind (wpAny_holding (PySem.wpAny_bindName (h2 X m2 θ2 s2 _ _ v1 C S3 (VRel.mono (kt.trans (S2.kt st2)) _ r1) fun loc3 hp3 m3 θ3 s3 h3 S4 st3 => ?_)))
  exact wpAny_pure (kk _ _ _ _ _ _ _ h3 S4 rfl (((st1.trans S1 sg).trans S2 st2).trans S3 st3))

theorem TX_Assign2 {x y : Str} {p q pos : Pos} {e : PySem.Expr} (hw : ∀ X, swappedStores [.Name x p, .Name y q] e (fe.env X) = pure none)
    (h : TE P fe n e loc hp fun lv hp1 => TU P fe n (fun env v => storeName env x v) lv loc hp1 fun loc1 hp2 => TU P fe n (fun env v => storeName env y v) lv loc1 hp2 (Kf .next)) : TX P fe n (.Assign [.Name x p, .Name y q] e pos) loc hp Kf := by
  intro X m θ s Q E C S kk
  refine wpAny_Assign_two (h X m θ s _ E C S fun va a hp1 θ1 s1 h1 S1 r1 st1 => ?_) rfl (hw X)
  refine PySem.wpAny_assign_Name (h1 X m θ1 s1 _ E va C S1 r1 fun loc2 hp2 m2 θ2 s2 h2 S2 st2 => ?_)
  refine PySem.wpAny_assign_Name (h2 X m2 θ2 s2 _ E va C S2 (S1.rel st2 r1) fun loc3 hp3 m3 θ3 s3 h3 S3 st3 => ?_)
  exact kk _ _ _ _ _ _ _ h3 S3 rfl ((st1.trans S1 st2).trans S2 st3)
end
end VC
namespace VC
open PySem PySem.W PyProof.Rows PySem.Calls PySem.Spec PySem.Builtin PySem.Builtin.Str

section
variable {P : PE} {fe : FE} {n : Nat} {loc : Loc} {hp : List AO} {K : LV → List AO → Prop} {Kf : Fl → Loc → List AO → Prop} {Kb : Bool → List AO → Prop}

theorem LRel.int {h : Heap} {θ : List Addr} {i : Int} {v : Value} (r : LRel h θ (.v (.int i)) v) : ∃ t, v = .int i t := r
theorem LRel.str {h : Heap} {θ : List Addr} {x : Str} {v : Value} (r : LRel h θ (.v (.str x)) v) : ∃ t, v = .str x t := r

/-! ### ints -/
section
variable {a b : Int}
theorem T2_ii {f : Value → Value → Sem Value} {c : Int} (hf : ∀ (A : Around) (s : Shared) (Q : Value → Shared → Prop) (E : Value → Shared → Prop) (t u : Tok), Q (.int c s.toks) { s with toks := s.toks + 1 } → wpAny (model P.prog P.w) A (f (.int a t) (.int b u)) Q E s)
    (h : K (.v (.int c)) hp) : T2 P fe n f (.v (.int a)) (.v (.int b)) loc hp K := by
  intro X m θ s Q E va vb C S ra rb kk
  obtain ⟨t, rfl⟩ := ra.int
  obtain ⟨u, rfl⟩ := rb.int
  exact hf X.A s Q E t u (kt_same S kk h rfl rfl rfl ⟨_, rfl⟩)
theorem T2_ib {f : Value → Value → Sem Value} {c : Bool} (hf : ∀ (A : Around) (s : Shared) (Q : Value → Shared → Prop) (E : Value → Shared → Prop) (t u : Tok), Q (.bool c) s → wpAny (model P.prog P.w) A (f (.int a t) (.int b u)) Q E s)
    (h : K (.v (.bool c)) hp) : T2 P fe n f (.v (.int a)) (.v (.int b)) loc hp K := by
  intro X m θ s Q E va vb C S ra rb kk
  obtain ⟨t, rfl⟩ := ra.int
  obtain ⟨u, rfl⟩ := rb.int
  exact hf X.A s Q E t u (kt_same S kk h rfl rfl rfl rfl)
theorem T2_add (h : K (.v (.int (a + b))) hp) : T2 P fe n (binaryOp .Add) (.v (.int a)) (.v (.int b)) loc hp K := T2_ii (fun _ _ _ _ _ _ k => PyProof.Rows.add_int k) h
theorem T2_sub (h : K (.v (.int (a - b))) hp) : T2 P fe n (binaryOp .Sub) (.v (.int a)) (.v (.int b)) loc hp K := T2_ii (fun _ _ _ _ _ _ k => PyProof.Rows.sub_int k) h
theorem T2_mul (hm : IntMulOk a b) (h : K (.v (.int (a * b))) hp) : T2 P fe n (binaryOp .Mult) (.v (.int a)) (.v (.int b)) loc hp K := T2_ii (fun _ _ _ _ _ _ k => PyProof.Rows.mul_int k hm) h
theorem T2_mod (hb : b ≠ 0) (h : K (.v (.int (a.fmod b))) hp) : T2 P fe n (binaryOp .Mod) (.v (.int a)) (.v (.int b)) loc hp K := T2_ii (fun _ _ _ _ _ _ k => PyProof.Rows.mod_int' hb k) h
theorem T2_fdiv (hb : b ≠ 0) (hp' : Builtin.divisionGoesByPylong a b = false) (h : K (.v (.int (a.fdiv b))) hp) : T2 P fe n (binaryOp .FloorDiv) (.v (.int a)) (.v (.int b)) loc hp K := T2_ii (fun _ _ _ _ _ _ k => PyProof.Rows.floordiv_int hb k (.inl hp')) h
theorem T2_iadd (h : K (.v (.int (a + b))) hp) : T2 P fe n (inplaceOp .Add) (.v (.int a)) (.v (.int b)) loc hp K := T2_ii (fun _ _ _ _ _ _ k => PyProof.Rows.iadd_int k) h
theorem T2_isub (h : K (.v (.int (a - b))) hp) : T2 P fe n (inplaceOp .Sub) (.v (.int a)) (.v (.int b)) loc hp K := T2_ii (fun _ _ _ _ _ _ k => PyProof.Rows.isub_int k) h
theorem T2_eq (h : K (.v (.bool (a == b))) hp) : T2 P fe n (compareOp .Eq) (.v (.int a)) (.v (.int b)) loc hp K := T2_ib (fun _ _ _ _ _ _ k => PyProof.Rows.eq_int k) h
theorem T2_ne (h : K (.v (.bool (a != b))) hp) : T2 P fe n (compareOp .NotEq) (.v (.int a)) (.v (.int b)) loc hp K := T2_ib (fun _ _ _ _ _ _ k => PyProof.Rows.ne_int k) h
theorem T2_lt (h : K (.v (.bool (decide (a < b)))) hp) : T2 P fe n (compareOp .Lt) (.v (.int a)) (.v (.int b)) loc hp K := T2_ib (fun _ _ _ _ _ _ k => PyProof.Rows.lt_int k) h
theorem T2_gt (h : K (.v (.bool (decide (b < a)))) hp) : T2 P fe n (compareOp .Gt) (.v (.int a)) (.v (.int b)) loc hp K := T2_ib (fun _ _ _ _ _ _ k => PyProof.Rows.gt_int k) h
theorem T2_ge (h : K (.v (.bool (decide (b ≤ a)))) hp) : T2 P fe n (compareOp .GtE) (.v (.int a)) (.v (.int b)) loc hp K := T2_ib (fun _ _ _ _ _ _ k => PyProof.Rows.ge_int k) h
theorem T1_neg (h : K (.v (.int (-a))) hp) : T1 P fe n (unaryOp .USub) (.v (.int a)) loc hp K := by
  intro X m θ s Q E va C S ra kk
  obtain ⟨t, rfl⟩ := ra.int
  exact PyProof.Rows.neg_int (kt_same S kk h rfl rfl rfl ⟨_, rfl⟩)
theorem B1_int (h : Kb (a != 0) hp) : B1 P fe n truthy (.v (.int a)) loc hp Kb := by
  intro X m θ s Q E va C S ra kk
  obtain ⟨t, rfl⟩ := ra.int
  exact PyProof.Rows.truthy_int (kk _ _ _ _ h S (St.refl _ _ _))
end

/-! ### texts -/
section
variable {x y : Str}
theorem T2_adds (hsz : x.length + y.length ≤ sizeLine) (h : K (.v (.str (x ++ y))) hp) : T2 P fe n (binaryOp .Add) (.v (.str x)) (.v (.str y)) loc hp K := by
  intro X m θ s Q E va vb C S ra rb kk
  obtain ⟨t, rfl⟩ := ra.str
  obtain ⟨u, rfl⟩ := rb.str
  exact PyProof.Rows.add_str (fun t' tk => kt_same S kk h rfl rfl rfl ⟨_, rfl⟩) hsz
theorem T2_eqs (h : K (.v (.bool (x == y))) hp) : T2 P fe n (compareOp .Eq) (.v (.str x)) (.v (.str y)) loc hp K := by
  intro X m θ s Q E va vb C S ra rb kk
  obtain ⟨t, rfl⟩ := ra.str
  obtain ⟨u, rfl⟩ := rb.str
  exact PyProof.Rows.eq_str (kt_same S kk h rfl rfl rfl rfl)
theorem T2_nes (h : K (.v (.bool (x != y))) hp) : T2 P fe n (compareOp .NotEq) (.v (.str x)) (.v (.str y)) loc hp K := by
  intro X m θ s Q E va vb C S ra rb kk
  obtain ⟨t, rfl⟩ := ra.str
  obtain ⟨u, rfl⟩ := rb.str
  exact PyProof.Rows.ne_str (kt_same S kk h rfl rfl rfl rfl)
theorem B1_str (hsz : x.length ≤ sizeLine) (h : Kb (x.length != 0) hp) : B1 P fe n truthy (.v (.str x)) loc hp Kb := by
  intro X m θ s Q E va C S ra kk
  obtain ⟨t, rfl⟩ := ra.str
  refine PySem.P.truthy_str (by have := sizeLine_eq; omega) ?_
  have e : ((x.length : Int) != 0) = (x.length != 0) := by
    rw [Bool.eq_iff_iff]; simp
  rw [e]
  exact kk _ _ _ _ h (S.same rfl rfl) (St.same rfl rfl)

/-- the code points that a slice takes -/
noncomputable def sliceS (x : Str) (l u st : Option Int) : Str :=
  if (st.getD 1 == 1 && (strSliceIndices l u (st.getD 1) x.length).length == x.length) = true then x else ⟨((strSliceIndices l u (st.getD 1) x.length).filterMap (x.cps[·]?)).toArray⟩

/-- a part of a slice -/
noncomputable def partOf : LV → Option (Option Int)
  | .v .none => some none
  | .v (.int i) => some (some i)
  | _ => none
noncomputable def TP (P : PE) (fe : FE) (n : Nat) (e : Option PySem.Expr) (loc : Loc) (hp : List AO) (K : LV → List AO → Prop) : Prop := match e with
  | none => K (.v .none) hp
  | some e => TE P fe n e loc hp K
theorem TP.use {e : Option PySem.Expr} {X : Fx} {m : Str → Option Value} {θ : List Addr} {s : Shared} {Q : Value → Shared → Prop} {E : Value → Shared → Prop} (h : TP P fe n e loc hp K) (C : Cx P fe n X) (S : SR P fe X m loc hp θ s)
    (kk : Kt P fe X m loc θ s K Q) : wpAny (model P.prog P.w) X.A (evalPart e (fe.env X)) Q E s := by
  cases e with
  | none => exact wpAny_pure (kk _ _ _ _ _ h S (show VRel s.heap .none _ from rfl) (St.refl _ _ _))
  | some e => exact h X m θ s Q E C S kk

/-- a cut: value, and the three parts -/
noncomputable def TSl (P : PE) (fe : FE) (n : Nat) (value slice : PySem.Expr) (o : LV) (l u st : Option Int) (loc : Loc) (hp : List AO) (K : LV → List AO → Prop) : Prop :=
  ∀ (X : Fx) (m : Str → Option Value) (θ : List Addr) (s : Shared) (Q : Value → Shared → Prop) (E : Value → Shared → Prop) (vo vl vu vst : Value), Cx P fe n X → SR P fe X m loc hp θ s → LRel s.heap θ o vo → IsPart vl l → IsPart vu u → IsPart vst st →
    Kt P fe X m loc θ s K Q → wpAny (model P.prog P.w) X.A (subscriptTail value slice vo (.ref s.heap.objs.size)) Q E { s with heap := s.heap.push { cls := .type "slice", data := .fields #[vl, vu, vst] } }

theorem partOf_is {h : Heap} {θ : List Addr} {lv : LV} {v : Value} {p : Option Int} (e : partOf lv = some p) (r : LRel h θ lv v) : IsPart v p := by
  cases lv with
  | o k => cases e
  | v q =>
    cases q with
    | none => cases e; have r : v = .none := r; subst r; exact .none
    | int i => cases e; obtain ⟨t, rfl⟩ := r.int; exact .int i t
    | _ => cases e

theorem TE_Slice {value : PySem.Expr} {lower upper step : Option PySem.Expr} {sp pos : Pos}
    (h : TE P fe n value loc hp fun o hp1 => TP P fe n lower loc hp1 fun l hp2 => TP P fe n upper loc hp2 fun u hp3 => TP P fe n step loc hp3 fun st hp4 =>
      ∃ pl pu ps, partOf l = some pl ∧ partOf u = some pu ∧ partOf st = some ps ∧ TSl P fe n value (.Slice lower upper step sp) o pl pu ps loc hp4 K) :
    TE P fe n (.Subscript value (.Slice lower upper step sp) pos) loc hp K := by
  intro X m θ s Q E C S kk
  refine Subscript_ (h X m θ s _ E C S fun vo o hp1 θ1 s1 h1 S1 r1 st1 => ?_)
  refine wpAny_Slice (h1.use C S1 fun vl l hp2 θ2 s2 h2 S2 r2 st2 => h2.use C S2 fun vu u hp3 θ3 s3 h3 S3 r3 st3 => h3.use C S3 fun vst st hp4 θ4 s4 h4 S4 r4 st4 => ?_)
  obtain ⟨pl, pu, ps, e1, e2, e3, h4⟩ := h4
  have ro := S3.rel st4 (S2.rel st3 (S1.rel st2 r1))
  have rl := S3.rel st4 (S2.rel st3 r2)
  have ru := S3.rel st4 r3
  exact h4 X m θ4 s4 Q E vo vl vu vst C S4 ro (partOf_is e1 rl) (partOf_is e2 ru) (partOf_is e3 r4) fun v lv hp5 θ5 s5 h5 S5 r5 st5 => kk _ _ _ _ _ h5 S5 r5 ((((st1.trans S1 st2).trans S2 st3).trans S3 st4).trans S4 st5)

theorem isPart_pv {v : Value} {p : Option Int} (h : IsPart v p) : ∃ q : Option (Int × Tok), v = partValue q ∧ q.map (·.1) = p := by
  cases h with
  | none => exact ⟨none, rfl, rfl⟩
  | int i t => exact ⟨some (i, t), rfl, rfl⟩

theorem TSl_str {value slice : PySem.Expr} {l u st : Option Int} (hst : st.getD 1 ≠ 0) (hs : ∀ o i, ∃ ops, subscripted slice false o i = operate ops (getItem o i)) (hsz : (sliceS x l u st).length ≤ sizeLine) (h : K (.v (.str (sliceS x l u st))) hp) :
    TSl P fe n value slice (.v (.str x)) l u st loc hp K := by
  intro X m θ s Q E vo vl vu vst C S ro pl pu ps kk
  obtain ⟨t, rfl⟩ := ro.str
  obtain ⟨ql, rfl, el⟩ := isPart_pv pl
  obtain ⟨qu, rfl, eu⟩ := isPart_pv pu
  obtain ⟨qs, rfl, es⟩ := isPart_pv ps
  obtain ⟨ops, hops⟩ := hs (.str x t) (.ref s.heap.objs.size)
  refine tail_of_ItemOn (ops := ops) ⟨"str", _, F.slot_str_getitem.lookup, typeIs_str _ _ _, wpAny_getItem_str_slice (l := ql) (u := qu) (st := qs) ⟨_, Heap.get?_push_size _ rfl, rfl, rfl⟩ (by rw [es]; simpa using hst) (post_val_or_str ?_)⟩ hops (fun r => ?_)
  · unfold slicePicked
    rw [el, eu, es]
    refine ⟨hsz, fun t' k => ?_⟩
    exact kt_grow S kk h (fun b o e => Heap.get?_push_of_some _ e) S.bare rfl ⟨_, rfl⟩
  · unfold letTemporaryGo
    split <;> first | rfl | (rename_i q; cases q)
end
end
end VC
namespace VC
open PySem PySem.W PyProof.Rows PySem.Calls PySem.Spec PySem.Builtin PySem.Builtin.Str PySem.SeqAt

section
variable {P : PE} {fe : FE} {n : Nat} {loc : Loc} {hp : List AO} {K : LV → List AO → Prop} {Kf : Fl → Loc → List AO → Prop} {Kb : Bool → List AO → Prop}

/-- a new thing gets a handle; the frame's object may turn -/
theorem SR.newL {X : Fx} {m : Str → Option Value} {θ : List Addr} {s s' : Shared} (S : SR P fe X m loc hp θ s) {a : Addr} {ao : AO} (F' : Fr X.g X.L s'.heap m) (k : ∀ (b : Addr) (o : Obj), b ≠ X.L → s.heap.get? b = some o → s'.heap.get? b = some o) (hn : s.heap.get? a = none) (r : ORel P s'.heap (θ ++ [a]) ao a) (hacc : ∀ d vs, ao = .acc d vs → d < hp.length) (bare : AllBare s'.gens) (ho : s'.os = s.os) :
    SR P fe X m loc (hp ++ [ao]) (θ ++ [a]) s' ∧ St X.L θ s (θ ++ [a]) s' := by
  have st : St X.L θ s (θ ++ [a]) s' := ⟨List.prefix_append _ _, fun b o h _ e => k b o h e, fun b hb => by
    rcases List.mem_append.mp hb with h | h
    · exact .inl h
    · exact .inr (List.mem_singleton.mp h ▸ hn), ho⟩
  have kt := S.kt st
  refine ⟨⟨F', fun x lv e => let ⟨v, e1, r⟩ := S.loc x lv e; ⟨v, e1, LRel.mono kt st.pre _ r⟩,
    ⟨by rw [List.length_append, List.length_append, S.H.len]; rfl, ?_, ?_, ?_⟩, ?_, bare, fun x i e => let ⟨b, e1, e2⟩ := S.cells x i e; ⟨b, e1, pre_get st.pre e2⟩⟩, st⟩
  · rw [List.nodup_append]
    refine ⟨S.H.nd, List.nodup_cons.mpr ⟨List.not_mem_nil, List.nodup_nil⟩, fun b hb c hc q => ?_⟩
    rw [List.mem_singleton.mp hc] at q
    obtain ⟨o, e, _⟩ := S.H.mem hb
    rw [q, hn] at e; cases e
  · intro i b ao' e1 e2
    by_cases hi : i < θ.length
    · rw [List.getElem?_append_left hi] at e1
      rw [List.getElem?_append_left (by rw [← S.H.len]; exact hi)] at e2
      exact ORel.keep kt st.pre _ (fun o e => k b o (S.free b (List.mem_of_getElem? e1)).2 e) (S.H.obj i b ao' e1 e2)
    · rw [List.getElem?_append_right (by omega)] at e1
      rw [List.getElem?_append_right (by rw [← S.H.len]; omega)] at e2
      have h1 : i - θ.length = 0 := by
        rcases Nat.eq_zero_or_pos (i - θ.length) with h | h
        · exact h
        · rw [List.getElem?_eq_none (by simp; omega)] at e1; cases e1
      rw [← S.H.len] at e2
      rw [h1] at e1 e2
      cases e1; cases e2
      exact r
  · intro i d vs e
    by_cases hi : i < hp.length
    · rw [List.getElem?_append_left hi] at e
      exact S.H.accd i d vs e
    · rw [List.getElem?_append_right (by omega)] at e
      have h1 : i - hp.length = 0 := by
        rcases Nat.eq_zero_or_pos (i - hp.length) with h | h
        · exact h
        · rw [List.getElem?_eq_none (by simp; omega)] at e; cases e
      rw [h1] at e
      have := hacc d vs (Option.some.inj e)
      omega
  · intro b hb
    rcases List.mem_append.mp hb with h | h
    · exact S.free b h
    · rw [List.mem_singleton.mp h]
      refine ⟨?_, fun q => ?_⟩
      · cases e : X.g.get? a with
        | none => rfl
        | some o =>
          have := S.fr.keep _ _ e; rw [hn] at this; cases this
      · obtain ⟨o, e, _⟩ := Fr.alive S.fr
        rw [← q, hn] at e; cases e

theorem kt_new {X : Fx} {m : Str → Option Value} {θ : List Addr} {s s' : Shared} {Q : Value → Shared → Prop} {a : Addr} {ao : AO} (S : SR P fe X m loc hp θ s) (kk : Kt P fe X m loc θ s K Q) (h : K (.o hp.length) (hp ++ [ao]))
    (F' : Fr X.g X.L s'.heap m) (k : ∀ (b : Addr) (o : Obj), b ≠ X.L → s.heap.get? b = some o → s'.heap.get? b = some o) (hn : s.heap.get? a = none) (r : ORel P s'.heap (θ ++ [a]) ao a) (hacc : ∀ d vs, ao = .acc d vs → d < hp.length) (bare : AllBare s'.gens) (ho : s'.os = s.os) : Q (.ref a) s' := by
  obtain ⟨S', st⟩ := S.newL F' k hn r hacc bare ho
  refine kk _ _ _ _ _ h S' ⟨a, ?_, rfl⟩ st
  rw [← S.H.len]
  exact List.getElem?_concat_length ..

theorem get?_size_none (h : Heap) (k : Nat) : h.get? (h.objs.size + k) = none := by
  cases e : h.get? (h.objs.size + k) with
  | none => rfl
  | some o => exact absurd (Heap.lt_size e) (Nat.not_lt.mpr (Nat.le_add_right _ _))

theorem SR.frKeep {X : Fx} {m : Str → Option Value} {θ : List Addr} {s : Shared} {h' : Heap} (S : SR P fe X m loc hp θ s) (kp : ∀ (b : Addr) (o : Obj), s.heap.get? b = some o → h'.get? b = some o) : Fr X.g X.L h' m :=
  ⟨S.fr.ns.keeps kp, fun b o e => kp b o (S.fr.keep b o e), S.fr.above⟩

/-- a list that has just been made -/
theorem kt_list {X : Fx} {m : Str → Option Value} {θ : List Addr} {s s' : Shared} {Q : Value → Shared → Prop} {a : Addr} {vs : List PV} {ws : Array Value} (S : SR P fe X m loc hp θ s) (kk : Kt P fe X m loc θ s K Q) (h : K (.o hp.length) (hp ++ [.lst vs]))
    (kp : ∀ (b : Addr) (o : Obj), s.heap.get? b = some o → s'.heap.get? b = some o) (hn : s.heap.get? a = none) (hl : s'.heap.IsList a ws) (rs : VRels s.heap vs ws.toList) (hg : s'.gens = s.gens) (ho : s'.os = s.os) : Q (.ref a) s' :=
  kt_new S kk h (S.frKeep kp) (fun b o _ e => kp b o e) hn ⟨ws, hl, VRels.mono (KT.of_keep kp) _ rs⟩ (fun _ _ e => by cases e) (hg ▸ S.bare) ho

/-- the same, by a library's frame -/
theorem kt_listN {X : Fx} {m : Str → Option Value} {θ : List Addr} {s s' : Shared} {Q : Value → Shared → Prop} {a : Addr} {vs : List PV} {ws : Array Value} {k : Nat} {sl : Array (Option Value)} (S : SR P fe X m loc hp θ s) (kk : Kt P fe X m loc θ s K Q) (h : K (.o hp.length) (hp ++ [.lst vs]))
    (F' : Fr X.g X.L s'.heap m) (N' : News X.g X.L s'.heap ((a, { cls := .type "list", data := .seq ws k, slots := sl }) :: allNews X.g X.L s.heap)) (hn : s.heap.get? a = none) (rs : VRels s.heap vs ws.toList) (hg : s'.gens = s.gens) (ho : s'.os = s.os) : Q (.ref a) s' := by
  have kp := allNews_keep S.fr F' fun p hp => N' p (.tail _ hp)
  refine kt_new S kk h F' kp hn ⟨ws, ⟨_, (N' _ (.head _)).1, rfl, _, rfl⟩, VRels.mono ?_ _ rs⟩ (fun _ _ e => by cases e) (hg ▸ S.bare) ho
  exact S.kt (St.keepL (θ := θ) kp ho)

/-! ### items -/
theorem TE_Sub {value idx : PySem.Expr} {pos : Pos} (h : TE P fe n value loc hp fun o hp1 => TE P fe n idx loc hp1 fun i hp2 => T2 P fe n (subscriptTail value idx) o i loc hp2 K) : TE P fe n (.Subscript value idx pos) loc hp K := by
  intro X m θ s Q E C S kk
  refine Subscript_ (h X m θ s _ E C S fun vo o hp1 θ1 s1 h1 S1 r1 st1 => h1 X m θ1 s1 _ E C S1 fun vi i hp2 θ2 s2 h2 S2 r2 st2 => ?_)
  exact h2 X m θ2 s2 Q E vo vi C S2 (S1.rel st2 r1) r2 fun v lv hp3 θ3 s3 h3 S3 r3 st3 => kk _ _ _ _ _ h3 S3 r3 ((st1.trans S1 st2).trans S2 st3)

abbrev OpsOk (slice : PySem.Expr) : Prop := ∀ o i, ∃ ops, subscripted slice false o i = operate ops (getItem o i)

theorem T2_item_str {value idx : PySem.Expr} {x : Str} {i : Int} (hs : OpsOk idx) (h1 : -(x.length : Int) ≤ i) (h2 : i < x.length) (hsz : x.length < 2 ^ 62) (h : K (.v (.str (Txt.item x i))) hp) : T2 P fe n (subscriptTail value idx) (.v (.str x)) (.v (.int i)) loc hp K := by
  intro X m θ s Q E va vb C S ra rb kk
  obtain ⟨t, rfl⟩ := ra.str
  obtain ⟨u, rfl⟩ := rb.int
  obtain ⟨ops, hops⟩ := hs (.str x t) (.int i u)
  refine tail_of_ItemOn (ops := ops) (SB.item (fitsSsize_of (N := 2 ^ 62) (by omega) (by omega) (by decide)) (charAt_isSome h1 h2) (kt_same S kk h rfl rfl rfl ⟨_, rfl⟩)) hops fun r => ?_
  unfold letTemporaryGo
  split <;> first | rfl | (rename_i q; cases q)

theorem T2_item_list {value idx : PySem.Expr} {k : Nat} {vs : List PV} {i : Int} {p : PV} (hs : OpsOk idx) (hl : hp[k]? = some (.lst vs)) (h0 : 0 ≤ i) (hi : i < 2 ^ 63) (hv : vs[i.toNat]? = some p) (h : K (.v p) hp) : T2 P fe n (subscriptTail value idx) (.o k) (.v (.int i)) loc hp K := by
  intro X m θ s Q E va vb C S ra rb kk
  obtain ⟨a, ea, rfl⟩ := ra
  obtain ⟨u, rfl⟩ := rb.int
  obtain ⟨ws, hL, rs⟩ := S.H.obj k a _ ea hl
  obtain ⟨w, ew, rw'⟩ := rs.get _ hv
  obtain ⟨ops, hops⟩ := hs (.ref a) (.int i u)
  exact tail_any hL.typeIs list_getitem_lookup (wpAny_getItem_list (x := w) hL h0 hi (by simpa using ew) (kt_same S kk h rfl rfl rfl rw')) hops

theorem T2_item_tup {value idx : PySem.Expr} {vs : List PV} {i : Int} {p : PV} {j : Nat} (hs : ∀ o i, subscripted idx false o i = operate [o, i] (getItem o i)) (hlo : -(2 ^ 63) ≤ i) (hhi : i < 2 ^ 63) (hj : seqIndex? i vs.length = some j) (hv : vs[j]? = some p) (h : K (.v p) hp) : T2 P fe n (subscriptTail value idx) (.v (.tup vs)) (.v (.int i)) loc hp K := by
  intro X m θ s Q E va vb C S ra rb kk
  obtain ⟨a, ws, rfl, ht, rs⟩ := ra
  obtain ⟨u, rfl⟩ := rb.int
  obtain ⟨w, ew, rw'⟩ := rs.get _ hv
  exact item_tupleT (l := ws.toList) (by simpa using ht) hlo hhi (by rw [rs.length]; exact hj) ew (kt_same S kk h rfl rfl rfl rw') (hs _ _)

/-! ### cuts of lists -/
noncomputable def pickPV (vs : List PV) (lo hi st : Option Int) : List PV :=
  (sliceRange (sliceBounds lo hi st vs.length).1 (sliceBounds lo hi st vs.length).2.1 (sliceBounds lo hi st vs.length).2.2).filterMap (vs[·]?)
theorem VRels.places {h : Heap} {vs : List PV} {ws : List Value} (r : VRels h vs ws) : ∀ js : List Nat, VRels h (js.filterMap (vs[·]?)) (js.filterMap (ws[·]?))
  | [] => VRels.nil
  | j :: js => by
    have ih := r.places js
    cases hn : vs[j]? with
    | some p =>
      obtain ⟨w, hw, rw'⟩ := r.get j hn
      simp only [List.filterMap_cons, hn, hw]
      exact .cons rw' ih
    | none =>
      have hw : ws[j]? = none := by
        rw [List.getElem?_eq_none_iff] at hn ⊢
        rw [r.length]; exact hn
      simp only [List.filterMap_cons, hn, hw]
      exact ih
theorem VRels.pick {h : Heap} {vs : List PV} {ws : Array Value} (r : VRels h vs ws.toList) (lo hi st : Option Int) : VRels h (pickPV vs lo hi st) (slicePick ws lo hi st).toList := by
  have e : (slicePick ws lo hi st).toList = (sliceRange (sliceBounds lo hi st vs.length).1 (sliceBounds lo hi st vs.length).2.1 (sliceBounds lo hi st vs.length).2.2).filterMap (ws.toList[·]?) := by
    have := r.length
    rw [Array.length_toList] at this
    simp [slicePick, this]
  rw [e]
  exact r.places _

/-! ### displays -/
theorem LRels.vals {h : Heap} {θ : List Addr} : ∀ {ps : List PV} {ws : List Value}, LRels h θ (ps.map .v) ws → VRels h ps ws
  | [], _, r => r
  | _ :: _, _, r => let ⟨w, ws', e, r1, r2⟩ := r; ⟨w, ws', e, r1, LRels.vals r2⟩

theorem TE_Tuple {elts : List PySem.Expr} {k : Nat} {pos : Pos} (h : TA P fe n elts loc hp fun as hp1 => ∃ ps : List PV, as = ps.map .v ∧ ps.length ≤ sizeLine ∧ K (.v (.tup ps)) hp1) : TE P fe n (.Tuple elts k pos) loc hp K := by
  intro X m θ s Q E C S kk
  refine wpAny_Tuple (h X m θ s _ E pos C S fun vs as hp1 θ1 s1 h1 S1 r1 st1 => ?_)
  obtain ⟨ps, rfl, hsz, h1⟩ := h1
  have rs := r1.vals
  refine ⟨by rw [rs.length]; exact hsz, ?_⟩
  have kp : ∀ (b : Addr) (o : Obj), s1.heap.get? b = some o → (s1.heap.push { cls := .type "tuple", data := .seq vs.toArray }).get? b = some o := fun b o e => Heap.get?_push_of_some _ e
  refine kt_grow S1 (fun v lv hp2 θ2 s2 h2 S2 r2 st2 => kk v lv hp2 θ2 s2 h2 S2 r2 (st1.trans S1 st2)) h1 kp S1.bare rfl ⟨_, vs.toArray, rfl, ⟨_, Heap.get?_push_size _ rfl, rfl, _, rfl⟩, VRels.mono (KT.of_keep kp) _ rs⟩

theorem TE_List {elts : List PySem.Expr} {pos : Pos} (h : TA P fe n elts loc hp fun as hp1 => ∃ ps : List PV, as = ps.map .v ∧ ps.length ≤ sizeLine ∧ K (.o hp1.length) (hp1 ++ [.lst ps])) : TE P fe n (.List elts pos) loc hp K := by
  intro X m θ s Q E C S kk
  refine wpAny_List (h X m θ s _ E pos C S fun vs as hp1 θ1 s1 h1 S1 r1 st1 => ?_)
  obtain ⟨ps, rfl, hsz, h1⟩ := h1
  have rs := r1.vals
  refine ⟨by rw [rs.length]; exact hsz, ?_⟩
  have kp : ∀ (b : Addr) (o : Obj), s1.heap.get? b = some o → (s1.heap.push { cls := .type "list", data := .seq vs.toArray }).get? b = some o := fun b o e => Heap.get?_push_of_some _ e
  exact kt_list S1 (fun v lv hp2 θ2 s2 h2 S2 r2 st2 => kk v lv hp2 θ2 s2 h2 S2 r2 (st1.trans S1 st2)) h1 kp (get?_size_none _ 0) ⟨_, Heap.get?_push_size _ rfl, rfl, _, rfl⟩ (by simpa using rs) rfl rfl

/-! ### more operators -/
theorem T2_muls {x : Str} {i : Int} (hok : MulOk x i) (h : K (.v (.str (Txt.mul x i))) hp) : T2 P fe n (binaryOp .Mult) (.v (.str x)) (.v (.int i)) loc hp K := by
  intro X m θ s Q E va vb C S ra rb kk
  obtain ⟨t, rfl⟩ := ra.str
  obtain ⟨u, rfl⟩ := rb.int
  exact SB.mul hok fun t' k => kt_same S kk h rfl rfl rfl ⟨_, rfl⟩

theorem T2_is_none {a : LV} (h : K (.v (.bool (match a with | .v .none => true | _ => false))) hp) : T2 P fe n (compareOp .Is) a (.v .none) loc hp K := by
  intro X m θ s Q E va vb C S ra rb kk
  have rb : vb = .none := rb
  subst rb
  refine is_none_gen (kt_same S kk h rfl rfl rfl ?_)
  cases a with
  | o k => obtain ⟨a, _, rfl⟩ := ra; rfl
  | v p => cases p with
    | none => cases ra; rfl
    | bool b => cases ra; rfl
    | int i => obtain ⟨t, rfl⟩ := ra.int; rfl
    | str x => obtain ⟨t, rfl⟩ := ra.str; rfl
    | tup ps => obtain ⟨a, ws, rfl, _⟩ := ra; rfl
    | ref a => cases ra; rfl

theorem reads_strs {h : Heap} {xs : List Str} {ws : List Value} (r : VRels h (xs.map .str) ws) : ReadsAll h ws (xs.map .str) [] := by
  induction xs generalizing ws with
  | nil => cases r; exact .nil
  | cons x xs ih =>
    obtain ⟨w, ws', rfl, ⟨t, rfl⟩, r2⟩ := r
    exact ReadsAll.cons (as := []) (.str x t) (ih r2)
theorem eqvAll_strs : ∀ xs ys : List Str, PyData.eqvAll (xs.map .str) (ys.map .str) = (xs == ys)
  | [], [] => rfl
  | [], _ :: _ => rfl
  | _ :: _, [] => rfl
  | x :: xs, y :: ys => by
    show ((x == y) && PyData.eqvAll (xs.map .str) (ys.map .str)) = (x :: xs == y :: ys)
    rw [eqvAll_strs xs ys]; rfl
theorem reads_tup {h : Heap} {θ : List Addr} {xs : List Str} {v : Value} (r : LRel h θ (.v (.tup (xs.map .str))) v) : Reads h v (.tuple (xs.map .str)) [] := by
  obtain ⟨a, ws, rfl, ⟨o, ho, hc, k, hd⟩, rs⟩ := r
  exact .tuple ho hc hd (reads_strs rs)
theorem T2_net {xs ys : List Str} (hx : shaped (.tuple (xs.map .str)) = true) (hy : shaped (.tuple (ys.map .str)) = true) (h : K (.v (.bool (xs != ys))) hp) : T2 P fe n (compareOp .NotEq) (.v (.tup (xs.map .str))) (.v (.tup (ys.map .str))) loc hp K := by
  intro X m θ s Q E va vb C S ra rb kk
  refine ne_dataH (reads_tup ra) (reads_tup rb) hx hy (by have := C.un; omega) (kt_same S kk h rfl rfl rfl ?_)
  show Value.bool (!PyData.eqvAll _ _) = _
  rw [eqvAll_strs]; rfl
end
end VC
namespace VC
open PySem PySem.W PyProof.Rows PySem.Calls PySem.Spec PySem.Builtin PySem.Builtin.Str PySem.SeqAt

section
variable {P : PE} {fe : FE} {n : Nat} {loc : Loc} {hp : List AO} {K : LV → List AO → Prop} {Kf : Fl → Loc → List AO → Prop} {Kb : Bool → List AO → Prop}

/-- a call by place alone -/
abbrev callP (f : Value) (vs : List Value) : Sem Value := call f vs
theorem LRels.one {h : Heap} {θ : List Addr} {a : LV} {vs : List Value} (r : LRels h θ [a] vs) : ∃ v, vs = [v] ∧ LRel h θ a v := by
  obtain ⟨v, _, rfl, r1, rfl⟩ := r
  exact ⟨v, rfl, r1⟩
theorem LRels.two {h : Heap} {θ : List Addr} {a b : LV} {vs : List Value} (r : LRels h θ [a, b] vs) : ∃ v w, vs = [v, w] ∧ LRel h θ a v ∧ LRel h θ b w := by
  obtain ⟨v, _, rfl, r1, r⟩ := r
  obtain ⟨w, rfl, r2⟩ := LRels.one r
  exact ⟨v, w, rfl, r1, r2⟩

/-! ### calls of the start's functions and types -/
theorem TE_CallB {x : Str} {id : String} {e1 : PySem.Expr} {r : List PySem.Expr} {p pos : Pos} (hx : fe.scope.names.lookup x = some .globalImplicit) (e : nsIn P.K mainGlobals x = some none) (hv : bootBuiltins x = some (.builtin id)) (hn : x ≠ "__name__") (hd : (x == ("__debug__" : Str)) = false)
    (he : ∀ env, starEach (e1 :: r) env = (false, eval e1 env) :: starEach r env) (hpl : ∀ env, (backTo pos (starEach r env)).any (·.1) = false)
    (h : TA P fe n (e1 :: r) loc hp fun as hp1 => TL P fe n (callP (.builtin id)) as loc hp1 K) : TE P fe n (.Call (.Name x p) (e1 :: r) [] pos) loc hp K := by
  intro X m θ s Q E C S kk
  refine Call_ (TE_boot hx e hv hn hd C S ?_)
  refine PyProof.Rows.callWith_builtin1 (h X m θ s _ E pos C S fun vs as hp1 θ1 s1 h1 S1 r1 st1 => ?_) (he _) (hpl _)
  exact h1 X m θ1 s1 Q E vs C S1 r1 fun v lv hp2 θ2 s2 h2 S2 r2 st2 => kk _ _ _ _ _ h2 S2 r2 (st1.trans S1 st2)
theorem TE_CallT {x : Str} {id : String} {e1 : PySem.Expr} {r : List PySem.Expr} {p pos : Pos} (hx : fe.scope.names.lookup x = some .globalImplicit) (e : nsIn P.K mainGlobals x = some none) (hv : bootBuiltins x = some (.type id)) (hn : x ≠ "__name__") (hd : (x == ("__debug__" : Str)) = false)
    (he : ∀ env, starEach (e1 :: r) env = (false, eval e1 env) :: starEach r env) (hpl : ∀ env, (backTo pos (starEach r env)).any (·.1) = false)
    (h : TA P fe n (e1 :: r) loc hp fun as hp1 => TL P fe n (callP (.type id)) as loc hp1 K) : TE P fe n (.Call (.Name x p) (e1 :: r) [] pos) loc hp K := by
  intro X m θ s Q E C S kk
  refine Call_ (TE_boot hx e hv hn hd C S ?_)
  have h2 := h X m θ s
  have he' := he (fe.env X)
  rw [he'] at h2 ⊢
  refine PySem.callWith_type (by show (false || (backTo pos (starEach r (fe.env X))).any (·.1)) = false; rw [hpl]; rfl) (Calls.evalArgs_plain ?_)
  refine h2 _ E pos C S fun vs as hp1 θ1 s1 h1 S1 r1 st1 => ?_
  exact h1 X m θ1 s1 Q E vs C S1 r1 fun v lv hp2 θ2 s2 h2 S2 r2 st2 => kk _ _ _ _ _ h2 S2 r2 (st1.trans S1 st2)

theorem TL_len_str {x : Str} (hsz : x.length < 2 ^ 62) (h : K (.v (.int x.length)) hp) : TL P fe n (callP (.builtin "len")) [.v (.str x)] loc hp K := by
  intro X m θ s Q E vs C S r kk
  obtain ⟨v, rfl, r1⟩ := r.one
  obtain ⟨t, rfl⟩ := r1.str
  exact PyProof.Rows.len_str (by omega) (kt_same S kk h rfl rfl rfl ⟨_, rfl⟩)
theorem TL_len_list {k : Nat} {vs : List PV} (hl : hp[k]? = some (.lst vs)) (hsz : vs.length < 2 ^ 62) (h : K (.v (.int vs.length)) hp) : TL P fe n (callP (.builtin "len")) [.o k] loc hp K := by
  intro X m θ s Q E vals C S r kk
  obtain ⟨v, rfl, a, ea, rfl⟩ := r.one
  obtain ⟨ws, hL, rs⟩ := S.H.obj k a _ ea hl
  have e : ws.size = vs.length := by rw [← rs.length, Array.length_toList]
  refine call_len_list hL (by rw [e]; omega) ?_
  rw [e]
  exact kt_same S kk h rfl rfl rfl ⟨_, rfl⟩
theorem VRels.ints {h : Heap} : ∀ {ns : List Int} {ws : List Value}, VRels h (ns.map .int) ws → IntsAre ws ns
  | [], _, r => by cases r; exact .nil
  | i :: ns, _, r => by
    obtain ⟨w, ws', rfl, ⟨t, rfl⟩, r2⟩ := r
    exact .cons i t r2.ints
theorem VRels.of_ints {h : Heap} : ∀ {ns : List Int} {ws : List Value}, IntsAre ws ns → VRels h (ns.map .int) ws
  | _, _, .nil => rfl
  | _, _, .cons i t r => ⟨_, _, rfl, ⟨t, rfl⟩, VRels.of_ints r⟩
theorem VRels.strs {h : Heap} : ∀ {ns : List Str} {ws : List Value}, VRels h (ns.map .str) ws → StrsAre ws ns
  | [], _, r => by cases r; exact .nil
  | i :: ns, _, r => by
    obtain ⟨w, ws', rfl, ⟨t, rfl⟩, r2⟩ := r
    exact .cons i t r2.strs

theorem TL_sum {k : Nat} {ns : List Int} (hl : hp[k]? = some (.lst (ns.map .int))) (h : K (.v (.int ns.sum)) hp) : TL P fe n (callP (.builtin "sum")) [.o k] loc hp K := by
  intro X m θ s Q E vals C S r kk
  obtain ⟨v, rfl, a, ea, rfl⟩ := r.one
  obtain ⟨ws, hL, rs⟩ := S.H.obj k a _ ea hl
  refine sumK (vs := ws.toList) C.hA S.fr allNews_news (by simpa using hL) rs.ints fun h' tk t' F' N' => ?_
  exact kt_keepL S kk h F' (allNews_keep S.fr F' N') S.bare rfl ⟨_, rfl⟩

theorem TL_min2 {a b : Int} (h : K (.v (.int (if b < a then b else a))) hp) : TL P fe n (callP (.builtin "min")) [.v (.int a), .v (.int b)] loc hp K := by
  intro X m θ s Q E vals C S r kk
  obtain ⟨_, _, rfl, r1, r2⟩ := r.two
  obtain ⟨t, rfl⟩ := r1.int
  obtain ⟨u, rfl⟩ := r2.int
  exact min_two_N C.hA S.fr allNews_news fun h' tk F' N' => kt_keepL S kk h F' (allNews_keep S.fr F' N') S.bare rfl ⟨_, rfl⟩
theorem TL_max2 {a b : Int} (h : K (.v (.int (if b > a then b else a))) hp) : TL P fe n (callP (.builtin "max")) [.v (.int a), .v (.int b)] loc hp K := by
  intro X m θ s Q E vals C S r kk
  obtain ⟨_, _, rfl, r1, r2⟩ := r.two
  obtain ⟨t, rfl⟩ := r1.int
  obtain ⟨u, rfl⟩ := r2.int
  exact max_two_N C.hA S.fr allNews_news fun h' tk F' N' => kt_keepL S kk h F' (allNews_keep S.fr F' N') S.bare rfl ⟨_, rfl⟩
theorem TL_abs {a : Int} (h : K (.v (.int (if a < 0 then -a else a))) hp) : TL P fe n (callP (.builtin "abs")) [.v (.int a)] loc hp K := by
  intro X m θ s Q E vals C S r kk
  obtain ⟨_, rfl, r1⟩ := r.one
  obtain ⟨t, rfl⟩ := r1.int
  exact call_abs_int fun u tk => kt_same S kk h rfl rfl rfl ⟨_, rfl⟩
/-! ### methods of texts -/
/-- a text's method is found -/
structure HG (name : Str) (id : String) : Prop where
  of : ∀ {M : Model} {A : Around} {s : Shared} {Q : Value × List Value → Shared → Prop} {E : Value → Shared → Prop} {x : Str} {t : Tok} {pl : Sem Bool}, Q (.builtin id, [.str x t]) s → wpAny M A (getMethod (.str x t) name pl) Q E s
theorem gm_lower : HG (Str.ofString "lower") "str.lower" := ⟨by intro M A s Q E x t pl h; with_reducible exact GM.lower (Q := Q) h⟩
theorem gm_count : HG (Str.ofString "count") "str.count" := ⟨by intro M A s Q E x t pl h; with_reducible exact GM.count (Q := Q) h⟩
theorem gm_join : HG (Str.ofString "join") "str.join" := ⟨by intro M A s Q E x t pl h; with_reducible exact GM.join (Q := Q) h⟩
theorem meth_eq {o : PySem.Expr} {name : Str} {apos pos : Pos} {args : List PySem.Expr} {env : Env} (hbase : attributeBase o name env (eval o env) = eval o env)
    (hform : methodCallForm (args.length + 0) (backTo pos (starEach args env)) [] = true) (hline : (apos.endLine == pos.line) = true) :
    eval (.Call (.Attribute o name apos) args [] pos) env = (do
      let ov ← eval o env
      standAt apos.atName
      let (f, first) ← holding [ov] (getMethod ov name (do return (← importBound o env).getD true))
      callWith pos f first (backTo pos (starEach args env)) []) := by
  rw [arm_eval_Call, hbase]
  show (do
    let ov ← eval o env
    standAt apos.atName
    methodCall o name apos pos env ov (args.length + 0) (backTo pos (starEach args env)) []) = _
  unfold methodCall calleeOf methodCallPos
  rw [hform]
  simp only [if_true, Bool.not_true, Bool.false_or, hline]
  rfl
theorem TE_MethS0 {o : PySem.Expr} {name : Str} {id : String} {apos pos : Pos} (hg : HG name id)
    (hbase : ∀ env, attributeBase o name env (eval o env) = eval o env) (hline : (apos.endLine == pos.line) = true)
    (h : TE P fe n o loc hp fun ov hp1 => ∃ x, ov = .v (.str x) ∧ TL P fe n (callP (.builtin id)) [ov] loc hp1 K) : TE P fe n (.Call (.Attribute o name apos) [] [] pos) loc hp K := by
  intro X m θ s Q E C S kk
  refine MethodCall_ (h X m θ s _ E C S fun v lv hp1 θ1 s1 h1 S1 r1 st1 => ?_) (meth_eq (hbase _) rfl hline)
  obtain ⟨x, rfl, h1⟩ := h1
  obtain ⟨t, rfl⟩ := r1.str
  refine hg.of (PyProof.Rows.callWith_method0 ?_)
  exact h1 X m θ1 s1 Q E _ C S1 ⟨_, _, rfl, r1, rfl⟩ fun v lv hp2 θ2 s2 h2 S2 r2 st2 => kk _ _ _ _ _ h2 S2 r2 (st1.trans S1 st2)
theorem TE_MethS1 {o e1 : PySem.Expr} {r : List PySem.Expr} {name : Str} {id : String} {apos pos : Pos} (hg : HG name id)
    (hbase : ∀ env, attributeBase o name env (eval o env) = eval o env) (hform : ∀ env, methodCallForm ((e1 :: r).length + 0) (backTo pos (starEach (e1 :: r) env)) [] = true) (hline : (apos.endLine == pos.line) = true)
    (hs : ∀ env, starEach (e1 :: r) env = (false, eval e1 env) :: starEach r env) (hpl : ∀ env, (backTo pos (starEach r env)).any (·.1) = false)
    (h : TE P fe n o loc hp fun ov hp1 => ∃ x, ov = .v (.str x) ∧ TA P fe n (e1 :: r) loc hp1 fun as hp2 => TL P fe n (callP (.builtin id)) (ov :: as) loc hp2 K) : TE P fe n (.Call (.Attribute o name apos) (e1 :: r) [] pos) loc hp K := by
  intro X m θ s Q E C S kk
  refine MethodCall_ (h X m θ s _ E C S fun v lv hp1 θ1 s1 h1 S1 r1 st1 => ?_) (meth_eq (hbase _) (hform _) hline)
  obtain ⟨x, rfl, h1⟩ := h1
  obtain ⟨t, rfl⟩ := r1.str
  refine hg.of (PyProof.Rows.callWith_method1 (h1 X m θ1 s1 _ E pos C S1 fun vs as hp2 θ2 s2 h2 S2 r2 st2 => ?_) (hs _) (hpl _))
  exact h2 X m θ2 s2 Q E _ C S2 ⟨_, _, rfl, S1.rel st2 r1, r2⟩ fun v lv hp3 θ3 s3 h3 S3 r3 st3 => kk _ _ _ _ _ h3 S3 r3 ((st1.trans S1 st2).trans S2 st3)

theorem TL_lower {x : Str} (hsz : x.length ≤ 5592405) (h : K (.v (.str (Txt.lower x))) hp) : TL P fe n (callP (.builtin "str.lower")) [.v (.str x)] loc hp K := by
  intro X m θ s Q E vals C S r kk
  obtain ⟨v, rfl, r1⟩ := r.one
  obtain ⟨t, rfl⟩ := r1.str
  exact PyProof.Rows.SCL.lower hsz fun _ => kt_same S kk h rfl rfl rfl ⟨_, rfl⟩
theorem TL_count {x y : Str} (h : K (.v (.int (Txt.count x y))) hp) : TL P fe n (callP (.builtin "str.count")) [.v (.str x), .v (.str y)] loc hp K := by
  intro X m θ s Q E vals C S r kk
  obtain ⟨_, _, rfl, r1, r2⟩ := r.two
  obtain ⟨t, rfl⟩ := r1.str
  obtain ⟨u, rfl⟩ := r2.str
  exact PySem.SC.count (kt_same S kk h rfl rfl rfl ⟨_, rfl⟩)
theorem TL_join_list {x : Str} {k : Nat} {ys : List Str} (hl : hp[k]? = some (.lst (ys.map .str))) (hok : (ys.map (·.length)).sum + ys.length * x.length ≤ 16777216) (h : K (.v (.str (Txt.join x ys))) hp) : TL P fe n (callP (.builtin "str.join")) [.v (.str x), .o k] loc hp K := by
  intro X m θ s Q E vals C S r kk
  obtain ⟨_, _, rfl, r1, a, ea, rfl⟩ := r.two
  obtain ⟨t, rfl⟩ := r1.str
  obtain ⟨ws, hL, rs⟩ := S.H.obj k a _ ea hl
  exact PyProof.Rows.join_list hL rs.strs hok fun t' k => kt_same S kk h rfl rfl rfl ⟨_, rfl⟩
/-! ### lists -/
theorem T2_addl {k j : Nat} {vs us : List PV} (hk : hp[k]? = some (.lst vs)) (hj : hp[j]? = some (.lst us)) (hsz : vs.length + us.length ≤ sizeLine) (h : K (.o hp.length) (hp ++ [.lst (vs ++ us)])) : T2 P fe n (binaryOp .Add) (.o k) (.o j) loc hp K := by
  intro X m θ s Q E va vb C S ra rb kk
  obtain ⟨a, ea, rfl⟩ := ra
  obtain ⟨b, eb, rfl⟩ := rb
  obtain ⟨ws, hL, rs⟩ := S.H.obj k a _ ea hk
  obtain ⟨xs, hM, rt⟩ := S.H.obj j b _ eb hj
  refine add_arrays S.fr allNews_news hL hM (fun h' F' N' => ?_) (by rw [← Array.length_toList, ← Array.length_toList, rs.length, rt.length]; exact hsz)
  exact kt_listN S kk h F' N' (get?_size_none _ 0) (by simpa using rs.append rt) rfl rfl

/-- an item of a list is set -/
theorem TX_SetItem {o i e : PySem.Expr} {pos' pos : Pos} (hs : ∀ X, swapsWith e (some (.Subscript o i pos')) pos.line (fe.env X) = pure false)
    (h : TE P fe n e loc hp fun v hp1 => TE P fe n o loc hp1 fun ov hp2 => TE P fe n i loc hp2 fun iv hp3 => ∃ p k vs j, v = .v p ∧ ov = .o k ∧ iv = .v (.int j) ∧ hp3[k]? = some (.lst vs) ∧ 0 ≤ j ∧ j < vs.length ∧ j < 2 ^ 63 ∧ Kf .next loc (hp3.set k (.lst (vs.set j.toNat p)))) : TX P fe n (.Assign [.Subscript o i pos'] e pos) loc hp Kf := by
  intro X m θ s Q E C S kk
  refine wpAny_Assign_Subscript (h X m θ s _ E C S fun v lv hp1 θ1 s1 h1 S1 r1 st1 => h1 X m θ1 s1 _ E C S1 fun ov lo hp2 θ2 s2 h2 S2 r2 st2 => h2 X m θ2 s2 _ E C S2 fun iv li hp3 θ3 s3 h3 S3 r3 st3 => ?_) (hs X)
  obtain ⟨p, k, vs, j, rfl, rfl, rfl, hk, h0, h1, h63, h4⟩ := h3
  have r1' := S2.rel st3 (S1.rel st2 r1)
  obtain ⟨a, ea, rfl⟩ := S2.rel st3 r2
  obtain ⟨u, rfl⟩ := r3.int
  obtain ⟨ws, hL, rs⟩ := S3.H.obj k a _ ea hk
  have hlen : ws.size = vs.length := by rw [← rs.length, Array.length_toList]
  refine wpAny_setItem_list hL h0 h63 (by omega) fun h' hL' hs' => ?_
  have kp : ∀ (b : Addr) (o : Obj), b ≠ a → s3.heap.get? b = some o → h'.get? b = some o := fun b o hb e => (hs'.2 b hb).trans e
  have rT : KT s3.heap h' → ORel P h' θ3 (.lst (vs.set j.toNat p)) a := fun kt => by
    refine ⟨_, hL', ?_⟩
    have rs' := VRels.mono kt _ rs
    have r1'' : VRel h' p v := VRel.mono kt p r1'
    rw [Array.toList_setIfInBounds]
    refine VRels.of_get (by rw [List.length_set, List.length_set, rs.length]) fun i q w e1 e2 => ?_
    by_cases hi : j.toNat = i
    · subst hi
      rw [List.getElem?_set_self (by omega)] at e1
      rw [List.getElem?_set_self (by rw [Array.length_toList]; omega)] at e2
      cases e1; cases e2
      exact r1''
    · rw [List.getElem?_set_ne hi] at e1 e2
      obtain ⟨w', e3, r3⟩ := rs'.get i e1
      rw [e2] at e3; cases e3
      exact r3
  obtain ⟨S4, st4⟩ := S3.put (s' := { s3 with heap := h' }) (ao := .lst (vs.set j.toNat p)) ea kp rT (fun _ _ e => by cases e) S3.bare rfl
  exact kk _ _ _ _ _ _ _ h4 S4 rfl (((st1.trans S1 st2).trans S2 st3).trans S3 st4)

theorem TE_list_range {args : List PySem.Expr} {p q rpos pos : Pos}
    (hx : fe.scope.names.lookup (Str.ofString "range") = some .globalImplicit) (e : nsIn P.K mainGlobals (Str.ofString "range") = some none)
    (hx' : fe.scope.names.lookup (Str.ofString "list") = some .globalImplicit) (e' : nsIn P.K mainGlobals (Str.ofString "list") = some none)
    (hargs : ∀ env, ∃ e1 r, args = e1 :: r ∧ starEach (e1 :: r) env = (false, eval e1 env) :: starEach r env ∧ (backTo rpos (starEach r env)).any (·.1) = false)
    (h : TA P fe n args loc hp (RArgs fun a b c hp1 => Builtin.Range.small a b c = true ∧ Builtin.Range.rangeSize a b c ≤ 2 ^ 24 ∧ K (.o hp1.length) (hp1 ++ [.lst (rangeVs a b c)]))) :
    TE P fe n (.Call (.Name (Str.ofString "list") p) [.Call (.Name (Str.ofString "range") q) args [] rpos] [] pos) loc hp K := by
  intro X m θ s Q E C S kk
  refine Call_ (TE_boot (v := .type "list") hx' e' (by decide +kernel) (by decide +kernel) (by decide +kernel) C S ?_)
  refine PySem.callWith_type (by rfl) (Calls.evalArgs_plain (x := eval (.Call (.Name (Str.ofString "range") q) args [] rpos) (fe.env X)) (rest := []) ?_)
  refine wpAny_items_cons (pos := pos) (e := .Call (.Name (Str.ofString "range") q) args [] rpos) (rest := []) (env := fe.env X) (range_use h hx e hargs C S fun v a b c hp1 θ1 s1 h1 S1 r1 st1 => wpAny_items_nil ?_) rfl
  obtain ⟨hsm, hN, hK⟩ := h1
  obtain ⟨r, t, u, w, rfl, hr⟩ := r1
  have h0 : 0 ≤ Builtin.Range.rangeSize a b c := rangeSize_nn a b c
  refine call_list_range (n := (Builtin.Range.rangeSize a b c).toNat) C.hA hr hsm (by omega) (by omega) fun h' tk acc' c' kp e hI => ?_
  refine kt_list S1 (fun v lv hp2 θ2 s2 h2 S2 r2 st2 => kk v lv hp2 θ2 s2 h2 S2 r2 (st1.trans S1 st2)) hK kp (get?_size_none _ 0) ⟨_, e, rfl, _, rfl⟩ ?_ rfl rfl
  refine VRels.of_get ?_ fun i p w e1 e2 => ?_
  · have q := hI.1
    rw [← Array.length_toList] at q
    rw [q]; simp [rangeVs, rangeInts]
  · unfold rangeVs at e1
    rw [List.getElem?_map] at e1
    obtain ⟨x, e3, rfl⟩ := Option.map_eq_some_iff.mp e1
    obtain ⟨t, rfl⟩ := hI.2 i w (by simpa using e2)
    have hi : i < (Builtin.Range.rangeSize a b c).toNat := by
      have := (List.getElem?_eq_some_iff.mp e3).1
      simpa [rangeInts] using this
    rw [rangeInts_get hi] at e3
    cases e3
    exact ⟨t, rfl⟩

/-- isinstance(x, bool) of an int -/
theorem TE_isbool {e1 : PySem.Expr} {p q pos : Pos} (hx : fe.scope.names.lookup (Str.ofString "isinstance") = some .globalImplicit) (e : nsIn P.K mainGlobals (Str.ofString "isinstance") = some none)
    (hx' : fe.scope.names.lookup (Str.ofString "bool") = some .globalImplicit) (e' : nsIn P.K mainGlobals (Str.ofString "bool") = some none)
    (he : ∀ env, starEach [e1, .Name (Str.ofString "bool") q] env = (false, eval e1 env) :: starEach [.Name (Str.ofString "bool") q] env)
    (h : TE P fe n e1 loc hp fun v hp1 => ∃ i, v = .v (.int i) ∧ K (.v (.bool false)) hp1) : TE P fe n (.Call (.Name (Str.ofString "isinstance") p) [e1, .Name (Str.ofString "bool") q] [] pos) loc hp K := by
  intro X m θ s Q E C S kk
  refine Call_ (TE_boot (v := .builtin "isinstance") hx e (by decide +kernel) (by decide +kernel) (by decide +kernel) C S ?_)
  refine PyProof.Rows.callWith_builtin1 ?_ (he _) (by rfl)
  refine wpAny_items_cons (h X m θ s _ E C S fun v lv hp1 θ1 s1 h1 S1 r1 st1 => wpAny_items_cons (TE_boot (v := .type "bool") hx' e' (by decide +kernel) (by decide +kernel) (by decide +kernel) C S1 (wpAny_items_nil ?_)) rfl) (he _)
  obtain ⟨i, rfl, h1⟩ := h1
  obtain ⟨t, rfl⟩ := r1.int
  exact IsiPair.int_bool (kt_same S1 (fun v lv hp2 θ2 s2 h2 S2 r2 st2 => kk v lv hp2 θ2 s2 h2 S2 r2 (st1.trans S1 st2)) h1 rfl rfl rfl rfl)
end
end VC
namespace VC
open PySem PySem.W PyProof.Rows PySem.Calls PySem.Spec PySem.Builtin PySem.Builtin.Str PySem.SeqAt

section
variable {P : PE} {fe : FE} {n : Nat} {loc loc' : Loc} {hp : List AO} {K : LV → List AO → Prop} {Kf : Fl → Loc → List AO → Prop} {Kb : Bool → List AO → Prop}
theorem base_Name {x name : Str} {p : Pos} {env : Env} {t : Sem Value} : attributeBase (.Name x p) name env t = t := rfl
theorem base_Const {c : Const} {k : Nat} {name : Str} {p : Pos} {env : Env} {t : Sem Value} : attributeBase (.Constant c k p) name env t = t := rfl
theorem bb_len : bootBuiltins (Str.ofString "len") = some (.builtin "len") := rfl
theorem bb_sum : bootBuiltins (Str.ofString "sum") = some (.builtin "sum") := rfl
theorem bb_chr : bootBuiltins (Str.ofString "chr") = some (.builtin "chr") := rfl
theorem bb_min : bootBuiltins (Str.ofString "min") = some (.builtin "min") := rfl
theorem bb_max : bootBuiltins (Str.ofString "max") = some (.builtin "max") := rfl
theorem bb_abs : bootBuiltins (Str.ofString "abs") = some (.builtin "abs") := rfl
theorem bb_str : bootBuiltins (Str.ofString "str") = some (.type "str") := rfl
theorem nsIn_of {K K' : Frag} (h : K = K') {a : Addr} {x : Str} {v : Option (Option Value)} (e : nsIn K' a x = v) : nsIn K a x = v := h ▸ e
theorem keepIn_of {K K' : Frag} (h : K = K') {f : Value} (e : keepIn K' f = true) : keepIn K f = true := h ▸ e
theorem setL_nil {x : Str} {lv : LV} : setL x lv [] = [(x, lv)] := rfl
theorem setL_hit {x y : Str} {lv l : LV} {r : Loc} (h : (x == y) = true) : setL x lv ((y, l) :: r) = (y, lv) :: r := by rw [setL, if_pos h]
theorem setL_miss {x y : Str} {lv l : LV} {r r' : Loc} (h : (x == y) = false) (e : setL x lv r = r') : setL x lv ((y, l) :: r) = (y, l) :: r' := by rw [setL, if_neg (by rw [h]; decide), e]
theorem TU_loc {x : Str} {lv : LV} {Ku : Loc → List AO → Prop} (hx : fe.scope.names.lookup x = some .local) (e : setL x lv loc = loc') (h : Ku loc' hp) : TU P fe n (fun env v => storeName env x v) lv loc hp Ku := TU_local hx (e ▸ h)
theorem Then_next {r : List Stmt} (h : TXs P fe n r loc hp Kf) : Then P fe n r Kf .next loc hp := h
theorem Then_ret {r : List Stmt} {lv : LV} (h : Kf (.ret lv) loc hp) : Then P fe n r Kf (.ret lv) loc hp := h
theorem Then_brk {r : List Stmt} (h : Kf .brk loc hp) : Then P fe n r Kf .brk loc hp := h
theorem Back_ret {lv : LV} (h : K lv hp) : Back K (.ret lv) loc hp := h
theorem Turn_brk {j0 : Nat} {I : Loc → List AO → Prop} (h : Kf .next loc hp) : Turn fe j0 I Kf .brk loc hp := h
theorem Turn_ret {j0 : Nat} {I : Loc → List AO → Prop} {lv : LV} (h : Kf (.ret lv) loc hp) : Turn fe j0 I Kf (.ret lv) loc hp := h
theorem TE_globalI {x : Str} {pos : Pos} {i : Int} {t : Tok} (hx : fe.scope.names.lookup x = some .globalImplicit) (e : nsIn P.K mainGlobals x = some (some (.int i t))) (hd : (x == ("__debug__" : Str)) = false) (h : K (.v (.int i)) hp) : TE P fe n (.Name x pos) loc hp K := TE_global (p := .int i) hx e (fun _ => ⟨t, rfl⟩) h hd
theorem TE_globalS {x : Str} {pos : Pos} {i : Str} {t : Tok} (hx : fe.scope.names.lookup x = some .globalImplicit) (e : nsIn P.K mainGlobals x = some (some (.str i t))) (hd : (x == ("__debug__" : Str)) = false) (h : K (.v (.str i)) hp) : TE P fe n (.Name x pos) loc hp K := TE_global (p := .str i) hx e (fun _ => ⟨t, rfl⟩) h hd
end
end VC
open VC PySem PySem.W PyProof.Rows PySem.Builtin

local macro_rules | `(tactic| k_call_by "vc set" 0) => `(tactic| first
  | exact setL_nil
  | (with_reducible refine' setL_hit ?k1; (case k1 => decide +kernel))
  | (with_reducible refine' setL_miss ?k1 ?k2; (case k1 => decide +kernel); (case k2 => k_call_by "vc set" 0)))
local macro_rules | `(tactic| k_call_by "vc E" 0) => `(tactic| first
  | (with_reducible first | refine TE_const_int ?_ | refine TE_const_str ?_ | refine TE_const_none ?_)
  | ((with_reducible refine' TE_local ?k1 ?k2 ?_ ?k3); (case k1 => rfl); (case k2 => rfl); (case k3 => decide +kernel))
  | ((with_reducible refine' TE_globalI ?k1 ?k2 ?k4 ?_); (case k1 => rfl); (case k2 => k_call_by "vc some" 0); (case k4 => decide +kernel))
  | ((with_reducible refine' TE_globalS ?k1 ?k2 ?k4 ?_); (case k1 => rfl); (case k2 => k_call_by "vc some" 0); (case k4 => decide +kernel))
  | with_reducible refine TE_BinOp ?_
  | ((with_reducible refine' TE_Compare ?k1 ?_); (case k1 => rfl))
  | (with_reducible first | refine TE_UnaryOp ?_ | refine TE_Or ?_ | refine TE_Slice ?_ | refine TE_Sub ?_ | refine TE_Tuple ?_ | refine TE_List ?_))
local macro_rules | `(tactic| k_call_by "vc A" 0) => `(tactic| first
  | with_reducible refine TA_nil ?_
  | ((with_reducible refine' TA_cons ?k1 ?_); (case k1 => exact fun _ => rfl)))
local macro_rules | `(tactic| k_call_by "vc I" 0) => `(tactic| first
  | with_reducible refine TI_Not ?_
  | ((with_reducible refine' TI_Compare ?k1 ?_); (case k1 => rfl))
  | with_reducible refine TI_BoolOp ?_
  | ((with_reducible refine' TI_value ?k1 ?_); (case k1 => exact fun _ _ => rfl)))
local macro_rules | `(tactic| k_call_by "vc All" 0) => `(tactic| first
  | (with_reducible first | refine TAll_And_nil ?_ | refine TAll_Or_nil ?_)
  | (with_reducible refine TAll_And_cons ?_)
  | (with_reducible refine TAll_Or_cons ?_))
local macro_rules | `(tactic| k_call_by "vc X" 0) => `(tactic| first
  | (with_reducible first | refine TXs_nil ?_ | refine TXs_cons ?_ | refine Then_next ?_ | refine Then_ret ?_ | refine Then_brk ?_ | refine Back_ret ?_ | refine Turn_brk ?_ | refine Turn_ret ?_ | refine TX_If ?_ | refine TX_Return ?_ | refine TX_Break ?_)
  | ((with_reducible refine' TX_Assign ?k1 ?_); (case k1 => exact fun _ => rfl))
  | ((with_reducible refine' TX_Assign2 ?k1 ?_); (case k1 => exact fun _ => rfl))
  | ((with_reducible refine' TX_Aug ?k1 ?k2 ?_); (case k1 => rfl); (case k2 => rfl))
  | ((with_reducible refine' TX_SetItem (i := PySem.Expr.Name _ _) ?k1 ?_); (case k1 => exact fun _ => rfl)))
local macro_rules | `(tactic| k_call_by "vc U" 0) => `(tactic| first
  | with_reducible refine TU_Name ?_
  | ((with_reducible refine' TU_loc ?k1 ?k2 ?_); (case k1 => rfl); (case k2 => k_call_by "vc set" 0)))
local macro_rules | `(tactic| k_call_by "vc O" 0) => `(tactic| first
  | (with_reducible first | refine T2_add ?_ | refine T2_sub ?_ | refine T2_mul ?_ ?_ | refine T2_mod ?_ ?_ | refine T2_fdiv ?_ ?_ ?_ | refine T2_iadd ?_ | refine T2_isub ?_ | refine T2_eq ?_ | refine T2_ne ?_ | refine T2_lt ?_ | refine T2_gt ?_ | refine T2_ge ?_ | refine T1_neg ?_ | refine B1_int ?_ | refine B1_bool ?_ | refine B1_str ?_ ?_ | refine T2_adds ?_ ?_ | refine T2_eqs ?_ | refine T2_nes ?_ | refine T2_muls ?_ ?_ | refine T2_is_none ?_))
local macro_rules | `(tactic| k_call_by "vc bb" 0) => `(tactic| with_reducible first | exact bb_len | exact bb_sum | exact bb_chr | exact bb_sorted | exact bb_min | exact bb_max | exact bb_abs | exact bb_isinstance)
local macro_rules | `(tactic| k_call_by "vc bt" 0) => `(tactic| with_reducible first | exact bb_int | exact bb_list | exact bb_range | exact bb_str | exact bb_bool)
local macro_rules | `(tactic| k_call_by "vc C" 0) => `(tactic| first
  | ((with_reducible refine' TE_CallB ?k1 ?k2 ?k3 ?k4 ?k5 ?k6 ?k7 ?_); (case k3 => k_call_by "vc bb" 0); (case k1 => rfl); (case k2 => k_call_by "vc none" 0); (case k4 => decide +kernel); (case k5 => decide +kernel); (case k6 => exact fun _ => rfl); (case k7 => exact fun _ => rfl))
  | ((with_reducible refine' TE_CallT ?k1 ?k2 ?k3 ?k4 ?k5 ?k6 ?k7 ?_); (case k3 => k_call_by "vc bt" 0); (case k1 => rfl); (case k2 => k_call_by "vc none" 0); (case k4 => decide +kernel); (case k5 => decide +kernel); (case k6 => exact fun _ => rfl); (case k7 => exact fun _ => rfl)))
local macro_rules | `(tactic| k_call_by "vc none" 0) => `(tactic| (refine nsIn_of (by assumption) ?_; rfl))
local macro_rules | `(tactic| k_call_by "vc some" 0) => `(tactic| (refine nsIn_of (by assumption) ?_; rfl))
local macro_rules | `(tactic| k_call_by "vc keep" 0) => `(tactic| (refine keepIn_of (by assumption) ?_; rfl))
local macro_rules | `(tactic| k_call_by "vc base" 0) => `(tactic| (intro _; with_reducible first | exact base_Name | exact base_Const | exact base_Sub))
local macro_rules | `(tactic| k_call_by "vc M" 0) => `(tactic| first
  | ((with_reducible refine' TE_MethS0 (name := Str.ofString "lower") (id := "str.lower") ?k1 ?k2 ?k3 ?_); (case k1 => exact gm_lower); (case k2 => k_call_by "vc base" 0); (case k3 => rfl))
  | ((with_reducible refine' TE_MethS1 (name := Str.ofString "count") (id := "str.count") ?k1 ?k2 ?k3 ?k4 ?k5 ?k6 ?_); (case k1 => exact gm_count); (case k2 => k_call_by "vc base" 0); (case k3 => exact fun _ => rfl); (case k4 => rfl); (case k5 => exact fun _ => rfl); (case k6 => exact fun _ => rfl))
  | ((with_reducible refine' TE_MethS1 (name := Str.ofString "join") (id := "str.join") ?k1 ?k2 ?k3 ?k4 ?k5 ?k6 ?_); (case k1 => exact gm_join); (case k2 => k_call_by "vc base" 0); (case k3 => exact fun _ => rfl); (case k4 => rfl); (case k5 => exact fun _ => rfl); (case k6 => exact fun _ => rfl)))
local macro_rules | `(tactic| k_call_by "vc L" 0) => `(tactic| first
  | (with_reducible first | refine TL_len_str ?_ ?_ | refine TL_min2 ?_ | refine TL_max2 ?_ | refine TL_abs ?_ | refine TL_lower ?_ ?_ | refine TL_count ?_))
local macro_rules | `(tactic| k_call_by "vc S" 0) => `(tactic| (with_reducible refine' ⟨_, _, _, ?k1, ?k2, ?k3, TSl_str ?k4 ?k5 ?_ ?_⟩; (case k1 => rfl); (case k2 => rfl); (case k3 => rfl); (case k4 => decide); (case k5 => exact fun _ _ => ⟨_, rfl⟩)))
local macro_rules | `(tactic| k_call_by "vc" 0) => `(tactic| first
  | k_call_by "vc E" 0 | k_call_by "vc X" 0 | k_call_by "vc U" 0 | k_call_by "vc A" 0 | k_call_by "vc I" 0 | k_call_by "vc All" 0 | k_call_by "vc O" 0 | k_call_by "vc C" 0 | k_call_by "vc M" 0 | k_call_by "vc L" 0 | k_call_by "vc S" 0 | (refine ⟨_, rfl, ?_⟩))
namespace VC
open PySem PySem.W PyProof.Rows PySem.Calls PySem.Spec PySem.Builtin PySem.Builtin.Str PySem.SeqAt

/-! ### texts as lists of code points -/
noncomputable def S (l : List Nat) : Str := ⟨l.toArray⟩
theorem S_len (l : List Nat) : (S l).length = l.length := by simp [S, Str.length]
theorem S_app (l m : List Nat) : S l ++ S m = S (l ++ m) := by
  show (⟨l.toArray ++ m.toArray⟩ : Str) = ⟨(l ++ m).toArray⟩
  simp
theorem S_inj {l m : List Nat} : S l = S m ↔ l = m := by
  constructor
  · intro h
    have : (S l).cps.toList = (S m).cps.toList := by rw [h]
    exact this
  · rintro rfl; rfl
theorem S_beq (l m : List Nat) : (S l == S m) = (l == m) := by
  rw [Bool.eq_iff_iff, beq_iff_eq, beq_iff_eq, S_inj]
theorem S_bne (l m : List Nat) : (S l != S m) = (l != m) := by
  show (!(S l == S m)) = !(l == m)
  rw [S_beq]

theorem pick_range (l : List Nat) (a : Nat) : ∀ k : Nat, (List.range k).filterMap (fun i => l[a + i]?) = (l.drop a).take k
  | 0 => rfl
  | k + 1 => by
    rw [List.range_succ, List.filterMap_append, pick_range l a k, List.take_add_one, List.getElem?_drop, List.filterMap_cons]
    cases l[a + k]? <;> rfl
noncomputable def bnd (n : Nat) (v : Option Int) (d : Nat) : Nat := match v with
  | none => d
  | some i => (max 0 (min (if i < 0 then i + n else i) n)).toNat
theorem clip_nat (i n : Nat) : max 0 (min (if (i : Int) < 0 then (i : Int) + n else (i : Int)) (n : Int)) = ((min i n : Nat) : Int) := by
  rw [if_neg (Int.not_lt.mpr (Int.natCast_nonneg i))]
  rcases Nat.le_total i n with h | h
  · rw [Nat.min_eq_left h, Int.min_eq_left (Int.ofNat_le.mpr h), Int.max_eq_right (Int.natCast_nonneg i)]
  · rw [Nat.min_eq_right h, Int.min_eq_right (Int.ofNat_le.mpr h), Int.max_eq_right (Int.natCast_nonneg n)]
theorem indices_S (lo hi : Option Int) (n : Nat) : strSliceIndices lo hi 1 n = (List.range (bnd n hi n - bnd n lo 0)).map (bnd n lo 0 + ·) := by
  rw [← sliceRange_one]
  unfold strSliceIndices bnd
  cases lo <;> cases hi <;> dsimp only <;> (congr 1 <;> simp <;> omega)
theorem bnd_le (n : Nat) (v : Option Int) (d : Nat) (h : d ≤ n) : bnd n v d ≤ n := by
  unfold bnd
  split
  · exact h
  · exact Int.toNat_le.mpr (Int.max_le.mpr ⟨Int.natCast_nonneg _, Int.min_le_right _ _⟩)
theorem sliceS_S (l : List Nat) (lo hi : Option Int) : sliceS (S l) lo hi none = S ((l.take (bnd l.length hi l.length)).drop (bnd l.length lo 0)) := by
  have e : ((strSliceIndices lo hi 1 (S l).length).filterMap ((S l).cps[·]?)) = (l.take (bnd l.length hi l.length)).drop (bnd l.length lo 0) := by
    rw [indices_S, S_len, List.filterMap_map]
    have : (fun i => l[bnd l.length lo 0 + i]?) = ((fun x => (S l).cps[x]?) ∘ fun x => bnd l.length lo 0 + x) := by
      funext i; simp [S]
    rw [← this, pick_range, List.drop_take]
  unfold sliceS
  rw [Option.getD_none, e]
  split
  · rename_i q
    have q2 := (Bool.and_eq_true_iff.mp q).2
    rw [indices_S, S_len, List.length_map, List.length_range, beq_iff_eq] at q2
    have h1 := bnd_le l.length hi l.length (Nat.le_refl _)
    have h2 := bnd_le l.length lo 0 (Nat.zero_le _)
    congr 1
    by_cases hl : l.length = 0
    · have := List.length_eq_zero_iff.mp hl; subst this; simp
    · have h3 : bnd l.length lo 0 = 0 := by omega
      have h4 : bnd l.length hi l.length = l.length := by omega
      rw [h3, h4]; simp
  · rfl
theorem sliceS_rev (l : List Nat) : sliceS (S l) none none (some (-1)) = S l.reverse := by
  unfold sliceS
  rw [if_neg (by rw [show ((some (-1 : Int)).getD 1 == 1) = false from rfl, Bool.false_and]; decide)]
  show S _ = S _
  rw [S_inj]
  show (strSliceIndices none none (-1) (S l).length).filterMap _ = _
  rw [picked_rev, S_len, List.filterMap_map]
  apply List.ext_getElem?
  intro i
  have e : (List.range l.length).filterMap ((fun x => (S l).cps[x]?) ∘ fun k => l.length - 1 - k) = (List.range l.length).map fun k => l[l.length - 1 - k]?.getD 0 := by
    have gen : ∀ (f : Nat → Option Nat) (g : Nat → Nat) (ks : List Nat), (∀ k ∈ ks, f k = some (g k)) → ks.filterMap f = ks.map g := by
      intro f g ks
      induction ks with
      | nil => intro _; rfl
      | cons k ks ih => intro h; rw [List.filterMap_cons, h k (.head _), List.map_cons, ← ih fun k hk => h k (.tail _ hk)]
    refine gen _ _ _ fun k hk => ?_
    have := List.mem_range.mp hk
    have h : l.length - 1 - k < l.length := by omega
    simp [S, h]
  rw [e, List.getElem?_map]
  by_cases hi : i < l.length
  · rw [List.getElem?_range hi, List.getElem?_reverse hi]
    have h : l.length - 1 - i < l.length := by omega
    simp [h]
  · rw [List.getElem?_eq_none (by simpa using hi), List.getElem?_eq_none (by simpa using hi)]; rfl
theorem item_S (l : List Nat) {i : Nat} (h : i < l.length) : Txt.item (S l) i = S [l[i]] := by
  unfold Txt.item Txt.charAt
  have e : seqIndex? (i : Int) (S l).length = some i := by
    have hj : (if (i : Int) < 0 then (i : Int) + (l.length : Nat) else (i : Int)) = i := if_neg (by omega)
    rw [S_len]
    simp only [seqIndex?, hj]
    rw [if_pos (by simp; omega)]; simp
  rw [e]
  simp [S, h]
theorem item_S_neg (l : List Nat) {k : Nat} (h0 : 0 < k) (h : k ≤ l.length) : Txt.item (S l) (-(k : Int)) = S [l[l.length - k]] := by
  unfold Txt.item Txt.charAt
  have e : seqIndex? (-(k : Int)) (S l).length = some (l.length - k) := by
    have hj : (if (-(k : Int)) < 0 then (-(k : Int)) + (l.length : Nat) else (-(k : Int))) = ((l.length - k : Nat) : Int) := by rw [if_pos (by omega)]; omega
    rw [S_len]
    simp only [seqIndex?, hj]
    rw [if_pos (by simp; omega)]; simp
  rw [e]
  have : l.length - k < l.length := by omega
  simp [S, this]
end VC

namespace VC
open PySem PySem.W PyProof.Rows PySem.Calls PySem.Spec PySem.Builtin PySem.Builtin.Str PySem.SeqAt
/-! ### what a turn lets go -/
noncomputable def okIdx : LV → Nat → Prop
  | .o i, j => i < j
  | .v _, _ => True
noncomputable def SubL (loc2 : Loc) (j : Nat) : Loc → Prop
  | [] => True
  | (x, lv) :: r => (loc2.lookup x = some lv ∧ okIdx lv j) ∧ SubL loc2 j r
theorem SubL_nil {loc2 : Loc} {j : Nat} : SubL loc2 j [] := trivial
theorem SubL_cons {loc2 : Loc} {j : Nat} {x : Str} {lv : LV} {r : Loc} (h : loc2.lookup x = some lv) (o : okIdx lv j) (hr : SubL loc2 j r) : SubL loc2 j ((x, lv) :: r) := ⟨⟨h, o⟩, hr⟩
theorem okIdx_v {p : PV} {j : Nat} : okIdx (.v p) j := trivial
theorem okIdx_o {i j : Nat} (h : i < j) : okIdx (.o i) j := h
theorem SubL.all {loc2 : Loc} {j : Nat} : ∀ {loc3 : Loc}, SubL loc2 j loc3 → ∀ p ∈ loc3, loc2.lookup p.1 = some p.2 ∧ ∀ i, p.2 = .o i → i < j
  | [], _, p, h => by cases h
  | (x, lv) :: r, h, p, hp => by
    rcases List.mem_cons.mp hp with rfl | hp
    · exact ⟨h.1.1, fun i e => by have := h.1.2; rw [show lv = .o i from e] at this; exact this⟩
    · exact h.2.all p hp
section
variable {P : PE} {fe : FE} {n : Nat} {loc loc' : Loc} {hp : List AO} {K : LV → List AO → Prop} {Kf : Fl → Loc → List AO → Prop} {Kb : Bool → List AO → Prop}
theorem Sub_all {j0 : Nat} {loc2 loc3 : Loc} {hp2 : List AO} (hj : j0 ≤ hp2.length) (h : SubL loc2 hp2.length loc3) (hc : ∀ (x : Str) (k : Nat), fe.cells.lookup x = some k → k < hp2.length) : Sub fe j0 loc2 hp2 loc3 hp2 :=
  ⟨hp2.length, hj, (List.take_length ..).symm, h.all, hc⟩
theorem Sub_take {j0 : Nat} {loc2 loc3 : Loc} {hp2 hp3 : List AO} (hj : j0 ≤ hp3.length) (e : hp3 = hp2.take hp3.length) (h : SubL loc2 hp3.length loc3) (hc : ∀ (x : Str) (k : Nat), fe.cells.lookup x = some k → k < hp3.length) : Sub fe j0 loc2 hp2 loc3 hp3 :=
  ⟨hp3.length, hj, e, h.all, hc⟩
theorem Turn_next {j0 : Nat} {I : Loc → List AO → Prop} {loc2 loc3 : Loc} {hp2 hp3 : List AO} (h : Sub fe j0 loc2 hp2 loc3 hp3) (hi : I loc3 hp3) : Turn fe j0 I Kf .next loc2 hp2 := ⟨_, _, h, hi⟩
end

/-! ### cuts, by their shape -/
theorem sl_none (l : List Nat) : (l.take (bnd l.length none l.length)).drop (bnd l.length none 0) = l := by simp [bnd]
theorem bnd_nat (n p : Nat) (d : Nat) : bnd n (some (p : Int)) d = min p n := congrArg Int.toNat (clip_nat p n)
theorem bnd_neg (n p : Nat) (d : Nat) (h : 0 < p) : bnd n (some (-(p : Int))) d = n - p := by
  show (max 0 (min (if (-(p : Int)) < 0 then (-(p : Int)) + n else (-(p : Int))) (n : Int))).toNat = n - p
  rw [if_pos (by omega), Int.min_eq_left (by omega)]
  rcases Nat.le_total p n with q | q
  · rw [Int.max_eq_right (by omega)]; omega
  · rw [Int.max_eq_left (by omega), Nat.sub_eq_zero_of_le q]; rfl
theorem sl_from (l : List Nat) (p : Nat) : (l.take (bnd l.length none l.length)).drop (bnd l.length (some (p : Int)) 0) = l.drop p := by
  rw [bnd_nat]
  show (l.take l.length).drop _ = _
  rw [List.take_length]
  by_cases h : p ≤ l.length
  · rw [Nat.min_eq_left h]
  · rw [Nat.min_eq_right (by omega), List.drop_length, List.drop_eq_nil_of_le (by omega)]
theorem sl_to (l : List Nat) (p : Nat) : (l.take (bnd l.length (some (p : Int)) l.length)).drop (bnd l.length none 0) = l.take p := by
  rw [bnd_nat]
  show (l.take _).drop 0 = _
  rw [List.drop_zero]
  by_cases h : p ≤ l.length
  · rw [Nat.min_eq_left h]
  · rw [Nat.min_eq_right (by omega), List.take_length, List.take_of_length_le (by omega)]
theorem sl_mid (l : List Nat) (p q : Nat) : (l.take (bnd l.length (some (q : Int)) l.length)).drop (bnd l.length (some (p : Int)) 0) = (l.take q).drop p := by
  have h := sl_to l q
  rw [show bnd l.length none 0 = 0 from rfl, List.drop_zero] at h
  rw [h, bnd_nat]
  by_cases h : p ≤ l.length
  · rw [Nat.min_eq_left h]
  · rw [Nat.min_eq_right (by omega), List.drop_eq_nil_of_le (by simp; omega), List.drop_eq_nil_of_le (by simp; omega)]
theorem sl_to_neg (l : List Nat) (p : Nat) (h : 0 < p) : (l.take (bnd l.length (some (-(p : Int))) l.length)).drop (bnd l.length none 0) = l.take (l.length - p) := by
  rw [bnd_neg _ _ _ h]
  show (l.take _).drop 0 = _
  rw [List.drop_zero]
theorem sl_from_neg (l : List Nat) (p : Nat) (h : 0 < p) : (l.take (bnd l.length none l.length)).drop (bnd l.length (some (-(p : Int))) 0) = l.drop (l.length - p) := by
  rw [bnd_neg _ _ _ h]
  show (l.take l.length).drop _ = _
  rw [List.take_length]

theorem szl {n : Nat} (h : n ≤ 100000) : n ≤ sizeLine := by have := sizeLine_eq; omega
section
variable {P : PE} {fe : FE} {n : Nat} {loc loc' : Loc} {hp : List AO} {K : LV → List AO → Prop} {Kf : Fl → Loc → List AO → Prop} {Kb : Bool → List AO → Prop} {l m r : List Nat}
/-- what holds behind a statement, said once -/
noncomputable def Mid (M : Loc → List AO → Prop) (Kf : Fl → Loc → List AO → Prop) : Fl → Loc → List AO → Prop
  | .next, l, h => M l h
  | f, l, h => Kf f l h
theorem TX_mid {st : Stmt} (M : Loc → List AO → Prop) (h : TX P fe n st loc hp (Mid M Kf)) (r : ∀ loc' hp', M loc' hp' → Kf .next loc' hp') : TX P fe n st loc hp Kf :=
  TS.mono h fun fl loc' hp' k => by cases fl <;> first | exact r _ _ k | exact k
theorem Mid_next {M : Loc → List AO → Prop} (h : M loc hp) : Mid M Kf .next loc hp := h
theorem on_true {A B : Prop} (h : A) : (true = true → A) ∧ (true = false → B) := ⟨fun _ => h, nofun⟩
theorem on_false {A B : Prop} (h : B) : (false = true → A) ∧ (false = false → B) := ⟨nofun, fun _ => h⟩
theorem on_false' {A B : Prop} (h : A) : (false = false → A) ∧ (false = true → B) := ⟨fun _ => h, nofun⟩
theorem on_true' {A B : Prop} (h : B) : (true = false → A) ∧ (true = true → B) := ⟨nofun, fun _ => h⟩
theorem TP_some {e : PySem.Expr} (h : TE P fe n e loc hp K) : TP P fe n (some e) loc hp K := h
theorem TP_none (h : K (.v .none) hp) : TP P fe n none loc hp K := h
theorem TSl_S {value slice : PySem.Expr} {lo hi : Option Int} (hsz : l.length ≤ 100000) (hs : OpsOk slice) (e : (l.take (bnd l.length hi l.length)).drop (bnd l.length lo 0) = r) (h : K (.v (.str (S r))) hp) :
    TSl P fe n value slice (.v (.str (S l))) lo hi none loc hp K := by
  have q := sliceS_S l lo hi
  rw [e] at q
  refine TSl_str (by decide) hs ?_ ?_
  · rw [q, S_len, ← e, List.length_drop, List.length_take]
    exact szl (by omega)
  · rw [q]; exact h
theorem TSl_rev {value slice : PySem.Expr} (hsz : l.length ≤ 100000) (hs : OpsOk slice) (h : K (.v (.str (S l.reverse))) hp) :
    TSl P fe n value slice (.v (.str (S l))) none none (some (-1)) loc hp K := by
  have q := sliceS_rev l
  refine TSl_str (by decide) hs ?_ ?_
  · rw [q, S_len, List.length_reverse]
    exact szl (by omega)
  · rw [q]; exact h
theorem B1_S (hsz : l.length ≤ 100000) (h : Kb (l.length != 0) hp) : B1 P fe n truthy (.v (.str (S l))) loc hp Kb := B1_str (by rw [S_len]; exact szl hsz) (by rw [S_len]; exact h)
theorem T2_eqS (h : K (.v (.bool (l == m))) hp) : T2 P fe n (compareOp .Eq) (.v (.str (S l))) (.v (.str (S m))) loc hp K := T2_eqs (by rw [S_beq]; exact h)
theorem T2_neS (h : K (.v (.bool (l != m))) hp) : T2 P fe n (compareOp .NotEq) (.v (.str (S l))) (.v (.str (S m))) loc hp K := T2_nes (by rw [S_bne]; exact h)
theorem T2_addS (h1 : l.length ≤ 100000) (h2 : m.length ≤ 100000) (h : K (.v (.str (S (l ++ m)))) hp) : T2 P fe n (binaryOp .Add) (.v (.str (S l))) (.v (.str (S m))) loc hp K :=
  T2_adds (by rw [S_len, S_len]; have := sizeLine_eq; omega) (by rw [S_app]; exact h)
theorem TL_len_S (hsz : l.length ≤ 100000) (h : K (.v (.int l.length)) hp) : TL P fe n (callP (.builtin "len")) [.v (.str (S l))] loc hp K := TL_len_str (by rw [S_len]; omega) (by rw [S_len]; exact h)
theorem T2_item_S {value idx : PySem.Expr} {i : Nat} (hs : OpsOk idx) (h2 : i < l.length) (hsz : l.length ≤ 100000) (h : K (.v (.str (S [l[i]]))) hp) : T2 P fe n (subscriptTail value idx) (.v (.str (S l))) (.v (.int (i : Int))) loc hp K :=
  T2_item_str hs (by rw [S_len]; omega) (by rw [S_len]; omega) (by rw [S_len]; omega) (by rw [item_S l h2]; exact h)
theorem T2_item_Sn {value idx : PySem.Expr} {i : Nat} (hs : OpsOk idx) (h0 : 0 < i) (h2 : i ≤ l.length) (hsz : l.length ≤ 100000) (h : K (.v (.str (S [l[l.length - i]]))) hp) : T2 P fe n (subscriptTail value idx) (.v (.str (S l))) (.v (.int (-(i : Int)))) loc hp K :=
  T2_item_str hs (by rw [S_len]; omega) (by rw [S_len]; omega) (by rw [S_len]; omega) (by rw [item_S_neg l h0 h2]; exact h)
end
end VC
open VC PySem PySem.W PyProof.Rows PySem.Builtin
local macro_rules | `(tactic| k_call_by "vc sub" 0) => `(tactic| (repeat' (first | with_reducible exact SubL_nil | refine SubL_cons (by rfl) ?_ ?_ | with_reducible exact okIdx_v | (with_reducible refine okIdx_o ?_; first | omega | (simp; done) | (simp; omega)))))
local macro_rules | `(tactic| k_call_by "vc len" 0) => `(tactic| first | assumption | omega | (simp only [List.length_drop, List.length_take, List.length_append, List.length_reverse, List.length_cons, List.length_nil]; omega))
local macro_rules | `(tactic| k_call_by "vc cut" 0) => `(tactic| first | exact sl_from _ _ | exact sl_to _ _ | exact sl_mid _ _ _ | exact sl_none _ | exact sl_to_neg _ _ (by omega) | exact sl_from_neg _ _ (by omega))
local macro_rules | `(tactic| k_call_by "vc" 0) => `(tactic| first
  | (with_reducible first | refine Mid_next ?_ | refine on_true ?_ | refine on_false ?_ | refine TP_some ?_ | refine TP_none ?_)
  | ((with_reducible refine' B1_S ?k1 ?_); (case k1 => k_call_by "vc len" 0))
  | (with_reducible first | refine T2_eqS ?_ | refine T2_neS ?_)
  | ((with_reducible refine' T2_addS ?k1 ?k2 ?_); (case k1 => k_call_by "vc len" 0); (case k2 => k_call_by "vc len" 0))
  | ((with_reducible refine' TL_len_S ?k1 ?_); (case k1 => k_call_by "vc len" 0))
  | ((with_reducible refine' ⟨_, _, _, ?k1, ?k2, ?k3, TSl_S ?k4 ?k5 ?k6 ?_⟩); (case k1 => rfl); (case k2 => rfl); (case k3 => rfl); (case k4 => k_call_by "vc len" 0); (case k5 => exact fun _ _ => ⟨_, rfl⟩); (case k6 => k_call_by "vc cut" 0))
  | ((with_reducible refine' ⟨_, _, _, ?k1, ?k2, ?k3, TSl_rev ?k4 ?k5 ?_⟩); (case k1 => rfl); (case k2 => rfl); (case k3 => rfl); (case k4 => k_call_by "vc len" 0); (case k5 => exact fun _ _ => ⟨_, rfl⟩))
  | ((with_reducible refine' T2_item_S ?k1 ?k2 ?k3 ?_); (case k1 => exact fun _ _ => ⟨_, rfl⟩); (case k2 => k_call_by "vc len" 0); (case k3 => k_call_by "vc len" 0))
  | ((with_reducible refine' T2_item_Sn ?k1 ?k2 ?k3 ?k4 ?_); (case k1 => exact fun _ _ => ⟨_, rfl⟩); (case k2 => k_call_by "vc len" 0); (case k3 => k_call_by "vc len" 0); (case k4 => k_call_by "vc len" 0)))
namespace VC
/-! ### the distance, on lists -/
section
variable {α : Type} [DecidableEq α]
noncomputable def cpl : List α → List α → Nat
  | a :: as, b :: bs => if a = b then cpl as bs + 1 else 0
  | _, _ => 0
noncomputable def big : Int := 9223372036854775807
noncomputable def innerN (cost : α → α → Int) (c : α) (x : List α) (row0 : List Int) (r0 : Int) : Nat → List Int × Int × Int × Int
  | 0 => (row0, r0, r0, big)
  | i + 1 => match innerN cost c x row0 r0 i, x[i]? with
    | (row, d, r, mn), some ch =>
      let sub := d + cost c ch
      let d' := row.getD i 0
      let ins := (if d' < r then d' else r) + 2
      let r' := if sub < ins then sub else ins
      (row.set i r', d', r', if r' < mn then r' else mn)
    | st, none => st
noncomputable def row0 (k : Nat) : List Int := (List.range k).map fun i : Nat => 2 + (i : Int) * 2
noncomputable def outerN (cost : α → α → Int) (x y : List α) (mx : Int) : Nat → Int ⊕ (List Int × Int)
  | 0 => .inr (row0 x.length, 0)
  | j + 1 => match outerN cost x y mx j, y[j]? with
    | .inr (row, _), some c =>
      let st := innerN cost c x row ((j : Int) * 2) x.length
      if mx < st.2.2.2 then .inl (mx + 1) else .inr (st.1, st.2.2.1)
    | st, _ => st
noncomputable def dp (cost : α → α → Int) (x y : List α) (mx : Int) : Int := match outerN cost x y mx y.length with
  | .inl v => v
  | .inr (_, r) => r
noncomputable def lev (cost : α → α → Int) (a b : List α) (mx : Int) : Int :=
  if a = b then 0 else
  let p := cpl a b
  let a1 := a.drop p
  let b1 := b.drop p
  let q := cpl a1.reverse b1.reverse
  let a2 := a1.take (a1.length - q)
  let b2 := b1.take (b1.length - q)
  if a2.length = 0 ∨ b2.length = 0 then 2 * ((a2.length : Int) + b2.length)
  else
    let x := if b2.length < a2.length then b2 else a2
    let y := if b2.length < a2.length then a2 else b2
    if mx < ((y.length : Int) - x.length) * 2 then mx + 1 else dp cost x y mx

theorem cpl_le : ∀ (a b : List α), cpl a b ≤ a.length ∧ cpl a b ≤ b.length
  | [], b => by simp [cpl]
  | _ :: _, [] => by simp [cpl]
  | a :: as, b :: bs => by
    unfold cpl
    have := cpl_le as bs
    split
    · simp only [List.length_cons]; omega
    · simp
theorem cpl_eq : ∀ (a b : List α) (i : Nat), i < cpl a b → a[i]? = b[i]?
  | [], b, i, h => by simp [cpl] at h
  | _ :: _, [], i, h => by simp [cpl] at h
  | a :: as, b :: bs, i, h => by
    unfold cpl at h
    split at h
    · rename_i e
      cases i with
      | zero => simp [e]
      | succ i => simpa using cpl_eq as bs i (by omega)
    · omega
theorem cpl_ne : ∀ (a b : List α), cpl a b < a.length → cpl a b < b.length → a[cpl a b]? ≠ b[cpl a b]?
  | [], b, h, _ => by simp at h
  | _ :: _, [], _, h => by simp at h
  | a :: as, b :: bs, h1, h2 => by
    unfold cpl at h1 h2 ⊢
    split
    · rename_i e
      rw [if_pos e] at h1 h2
      simpa using cpl_ne as bs (by simpa using h1) (by simpa using h2)
    · simpa using ‹¬ a = b›
theorem innerN_len (cost : α → α → Int) (c : α) (x : List α) (row0 : List Int) (r0 : Int) : ∀ i, (innerN cost c x row0 r0 i).1.length = row0.length
  | 0 => rfl
  | i + 1 => by
    have ih := innerN_len cost c x row0 r0 i
    unfold innerN
    split
    · rename_i e1 e2; rw [e1] at ih; simpa using ih
    · rename_i e1; simpa using ih
theorem outerN_succ {cost : α → α → Int} {x y : List α} {mx : Int} {j : Nat} {row : List Int} {r : Int} {c : α} (ho : outerN cost x y mx j = .inr (row, r)) (hy : y[j]? = some c) :
    outerN cost x y mx (j + 1) = if mx < (innerN cost c x row ((j : Int) * 2) x.length).2.2.2 then .inl (mx + 1) else .inr ((innerN cost c x row ((j : Int) * 2) x.length).1, (innerN cost c x row ((j : Int) * 2) x.length).2.2.1) := by
  rw [outerN, ho, hy]
theorem innerN_succ {cost : α → α → Int} {c : α} {x : List α} {row0 : List Int} {r0 : Int} {i : Nat} {row : List Int} {d r mn : Int} {ch : α} (hi : innerN cost c x row0 r0 i = (row, d, r, mn)) (hx : x[i]? = some ch) :
    innerN cost c x row0 r0 (i + 1) = (row.set i (if d + cost c ch < (if row.getD i 0 < r then row.getD i 0 else r) + 2 then d + cost c ch else (if row.getD i 0 < r then row.getD i 0 else r) + 2), row.getD i 0,
      (if d + cost c ch < (if row.getD i 0 < r then row.getD i 0 else r) + 2 then d + cost c ch else (if row.getD i 0 < r then row.getD i 0 else r) + 2),
      if (if d + cost c ch < (if row.getD i 0 < r then row.getD i 0 else r) + 2 then d + cost c ch else (if row.getD i 0 < r then row.getD i 0 else r) + 2) < mn then (if d + cost c ch < (if row.getD i 0 < r then row.getD i 0 else r) + 2 then d + cost c ch else (if row.getD i 0 < r then row.getD i 0 else r) + 2) else mn) := by
  rw [innerN, hi, hx]
theorem outerN_len (cost : α → α → Int) (x y : List α) (mx : Int) : ∀ (j : Nat) {row : List Int} {r : Int}, outerN cost x y mx j = .inr (row, r) → row.length = x.length
  | 0, row, r, h => by cases h; simp [row0]
  | j + 1, row, r, h => by
    unfold outerN at h
    split at h
    · rename_i row' r' c e1 e2
      dsimp only at h
      split at h
      · cases h
      · cases h
        rw [innerN_len]; exact outerN_len cost x y mx j e1
    · exact outerN_len cost x y mx j h
theorem outerN_stick (cost : α → α → Int) (x y : List α) (mx : Int) {v : Int} : ∀ (k j : Nat), outerN cost x y mx j = .inl v → outerN cost x y mx (j + k) = .inl v
  | 0, _, h => h
  | k + 1, j, h => by
    have ih := outerN_stick cost x y mx k j h
    show outerN cost x y mx ((j + k) + 1) = _
    unfold outerN
    rw [ih]
end
end VC

namespace VC
open PySem PySem.W PyProof.Rows PySem.Calls PySem.Spec PySem.Builtin PySem.Builtin.Str PySem.SeqAt
section
variable {P : PE} {fe : FE} {n : Nat} {loc loc' : Loc} {hp : List AO} {K : LV → List AO → Prop} {Kf : Fl → Loc → List AO → Prop} {Kb : Bool → List AO → Prop} {l m r : List Nat}
/-- a cut that ends ahead of the last q -/
theorem TE_cutpost {value : PySem.Expr} {x : Str} {p1 p2 p3 p4 pos : Pos} {k : Nat} {q : Nat} (hx : fe.scope.names.lookup x = some .local) (hl : loc.lookup x = some (.v (.int (-(q : Int))))) (hd : (x == ("__debug__" : Str)) = false)
    (h : TE P fe n value loc hp fun o hp1 => ∃ l, o = .v (.str (S l)) ∧ l.length ≤ 100000 ∧ K (.v (.str (S (l.take (l.length - q))))) hp1) :
    TE P fe n (.Subscript value (.Slice none (some (.BoolOp .Or [.Name x p1, .Constant .none k p2] p3)) none p4) pos) loc hp K := by
  refine TE_Slice (TT.mono h fun o hp1 ⟨l, e, hsz, hk⟩ => ?_)
  subst e
  refine TP_none (TP_some (TE_Or (TE_local hx hl (B1_int ⟨fun hq => ?_, fun hq => ?_⟩) hd)))
  · refine TP_none ⟨_, _, _, rfl, rfl, rfl, TSl_S hsz (fun _ _ => ⟨_, rfl⟩) (sl_to_neg _ _ ?_) hk⟩
    rcases Nat.eq_zero_or_pos q with rfl | h
    · cases hq
    · exact h
  · have : q = 0 := by simpa using hq
    subst this
    refine TE_const_none (TP_none ⟨_, _, _, rfl, rfl, rfl, TSl_S hsz (fun _ _ => ⟨_, rfl⟩) (sl_none _) ?_⟩)
    rw [Nat.sub_zero, List.take_length] at hk
    exact hk
theorem T2_mul2 {a b : Int} (ha : Builtin.Int.intBits a ≤ 64) (h : K (.v (.int (a * b))) hp) : T2 P fe n (binaryOp .Mult) (.v (.int a)) (.v (.int b)) loc hp K := T2_mul (IntMulOk.of_left ha) h
theorem T2_mul2r {a b : Int} (ha : Builtin.Int.intBits b ≤ 64) (h : K (.v (.int (a * b))) hp) : T2 P fe n (binaryOp .Mult) (.v (.int a)) (.v (.int b)) loc hp K := T2_mul (IntMulOk.of_right ha) h
theorem disp2 {a b : PV} {Q : List PV → Prop} (h : Q [a, b]) : ∃ ps : List PV, [LV.v a, LV.v b] = ps.map .v ∧ ps.length ≤ sizeLine ∧ Q ps := ⟨[a, b], rfl, szl (n := 2) (by decide), h⟩
theorem noPy {x y : Int} (h : (if y == 0 then 0 else y.natAbs.log2 / 30 + 1 : Nat) ≤ 300) : Builtin.divisionGoesByPylong x y = false := by
  unfold Builtin.divisionGoesByPylong
  dsimp only
  rw [decide_eq_false (by omega), Bool.false_and]
theorem last_get (hp : List AO) (a : AO) : (hp ++ [a])[hp.length]? = some a := List.getElem?_concat_length ..
theorem last_set (hp : List AO) (a b : AO) : (hp ++ [a]).set hp.length b = hp ++ [b] := by
  rw [List.set_append_right _ _ (Nat.le_refl _), Nat.sub_self]; rfl
theorem item_ints {row : List Int} {i : Nat} (h : i < row.length) : (row.map PV.int)[((i : Int)).toNat]? = some (.int (row.getD i 0)) := by
  rw [Int.toNat_natCast, List.getElem?_map, List.getElem?_eq_getElem h]
  simp [h]
theorem TE_call {x : Str} {p pos : Pos} {e1 : PySem.Expr} {r : List PySem.Expr} (f : Addr) (n' : Nat) (hx : fe.scope.names.lookup x = some .globalImplicit) (hf : nsIn P.K mainGlobals x = some (some (.ref f))) (hk : keepIn P.K (.ref f) = true) (hn : n' ≤ n)
    (hd : (x == ("__debug__" : Str)) = false) (he : ∀ env, starEach (e1 :: r) env = (false, eval e1 env) :: starEach r env) (hpl : ∀ env, (backTo pos (starEach r env)).any (·.1) = false)
    (h : TA P fe n (e1 :: r) loc hp fun as hp1 => TC P n' (.ref f) as hp1 K) : TE P fe n (.Call (.Name x p) (e1 :: r) [] pos) loc hp K := TE_CallFn hx hf hk hn hd he hpl h
theorem RArgs1 {Kr : Int → Int → Int → List AO → Prop} {b : Int} (h : Kr 0 b 1 hp) : RArgs Kr [.v (.int b)] hp := .inl ⟨_, rfl, h⟩
theorem RArgs2 {Kr : Int → Int → Int → List AO → Prop} {a b : Int} (h : Kr a b 1 hp) : RArgs Kr [.v (.int a), .v (.int b)] hp := .inr (.inl ⟨_, _, rfl, h⟩)
theorem RArgs3 {Kr : Int → Int → Int → List AO → Prop} {a b c : Int} (hc : c ≠ 0) (hd : Builtin.divisionGoesByPylong (b - a) c = false) (h : Kr a b c hp) : RArgs Kr [.v (.int a), .v (.int b), .v (.int c)] hp := .inr (.inr ⟨_, _, _, rfl, hc, hd, h⟩)
theorem rangeSize_one (a : Int) (m : Nat) : Builtin.Range.rangeSize a (a + m) 1 = m := by
  unfold Builtin.Range.rangeSize
  rw [if_pos (by decide)]
  split <;> omega
theorem rangeVs_one (a : Int) (m : Nat) : rangeVs a (a + m) 1 = (List.range m).map fun i : Nat => .int (a + i) := by
  unfold rangeVs rangeInts
  rw [rangeSize_one, Int.toNat_natCast, List.map_map]
  apply List.map_congr_left
  intro i _
  show PV.int (a + i * 1) = _
  rw [Int.mul_one]
theorem rangeVs_nat (m : Nat) : rangeVs 0 m 1 = (List.range m).map fun i : Nat => .int (i : Int) := by
  have h := rangeVs_one 0 m
  rw [Int.zero_add] at h
  rw [h]
  apply List.map_congr_left
  intro i _
  rw [Int.zero_add]
theorem rangeVs_get {m i : Nat} {v : PV} (h : ((List.range m).map fun i : Nat => PV.int (i : Int))[i]? = some v) : i < m ∧ v = .int (i : Int) := by
  rw [List.getElem?_map] at h
  obtain ⟨j, h1, rfl⟩ := Option.map_eq_some_iff.mp h
  have := List.getElem?_eq_some_iff.mp h1
  obtain ⟨h2, h3⟩ := this
  rw [List.getElem_range] at h3
  subst h3
  exact ⟨by simpa using h2, rfl⟩
theorem small_nat {m : Nat} (h : m ≤ 100000) : Builtin.Range.small 0 (m : Int) 1 = true := small_one (by omega) (by omega) (by omega) (by omega)
theorem rangeSize_two (m : Nat) : Builtin.Range.rangeSize 2 (2 * ((m : Int) + 1)) 2 = m := by
  unfold Builtin.Range.rangeSize
  rw [if_pos (by decide)]
  split <;> omega
theorem small_two {m : Nat} (h : m ≤ 100000) : Builtin.Range.small 2 (2 * ((m : Int) + 1)) 2 = true := by
  have f : ∀ i : Int, -1000000 ≤ i → i ≤ 1000000 → Builtin.Range.rangeFitsLong i = true := fun i h1 h2 => by
    unfold Builtin.Range.rangeFitsLong
    rw [Bool.and_eq_true, decide_eq_true_eq, decide_eq_true_eq]; omega
  unfold Builtin.Range.small
  rw [rangeSize_two, if_pos (by decide), f _ (by omega) (by omega), f _ (by omega) (by omega), f _ (by omega) (by omega), f _ (by omega) (by omega)]
  simp
theorem rangeVs_two (m : Nat) : rangeVs 2 (2 * ((m : Int) + 1)) 2 = (row0 m).map .int := by
  unfold rangeVs rangeInts row0
  rw [rangeSize_two, Int.toNat_natCast]
end
end VC
open VC PySem PySem.W PyProof.Rows PySem.Builtin
local macro_rules | `(tactic| k_call_by "vc" 0) => `(tactic| first
  | ((with_reducible refine' T2_mul2 ?k1 ?_); (case k1 => decide))
  | ((with_reducible refine' T2_mul2r ?k1 ?_); (case k1 => decide))
  | k_call_by "vc lrange" 0
  | with_reducible refine disp2 ?_
  | with_reducible refine ⟨_, _, rfl, ?_⟩
  | ((with_reducible refine' TX_Swap ?k1 ?k2 ?_); (case k1 => rfl); (case k2 => exact fun _ => rfl))
  | ((with_reducible refine' TE_cutpost ?k1 ?k2 ?k3 ?_); (case k1 => rfl); (case k2 => rfl); (case k3 => decide +kernel))
  | ((with_reducible refine' ⟨_, rfl, ?k1, ?_⟩); (case k1 => k_call_by "vc len" 0)))
local macro_rules | `(tactic| k_call_by "vc range" 0) => `(tactic| ((with_reducible refine' TX_For_range ?k1 ?k2 ?k3 ?_); (case k1 => rfl); (case k2 => k_call_by "vc none" 0); (case k3 => exact fun _ => ⟨_, _, rfl, rfl, rfl⟩)))
local macro_rules | `(tactic| k_call_by "vc lrange" 0) => `(tactic| ((with_reducible refine' TE_list_range ?k1 ?k2 ?k4 ?k5 ?k3 ?_); (case k1 => rfl); (case k2 => k_call_by "vc none" 0); (case k4 => rfl); (case k5 => k_call_by "vc none" 0); (case k3 => exact fun _ => ⟨_, _, rfl, rfl, rfl⟩)))
local macro_rules | `(tactic| k_call_by "vc call" $t) => `(tactic| ((with_reducible refine' TE_CallFn (f := $t) ?k1 ?k2 ?k3 ?k4 ?k5 ?k6 ?k7 ?_); (case k1 => rfl); (case k2 => k_call_by "vc some" 0); (case k3 => k_call_by "vc keep" 0); rotate_left 1; (case k5 => decide +kernel); (case k6 => exact fun _ => rfl); (case k7 => exact fun _ => rfl)))
namespace VC
open PySem PySem.W PyProof.Rows PySem.Calls PySem.Spec PySem.Builtin PySem.Builtin.Str PySem.SeqAt

/-! ### values that ask no heap -/
noncomputable def simple : PV → Prop
  | .int _ | .str _ => True
  | _ => False
noncomputable def VV : PV → Value → Prop
  | .int i, v => ∃ t, v = .int i t
  | .str x, v => ∃ t, v = .str x t
  | _, _ => False
theorem VV.rel {h : Heap} {p : PV} {v : Value} (r : VV p v) : VRel h p v := by cases p <;> first | exact r | exact r.elim
theorem VV.int {i : Int} {v : Value} (h : VV (.int i) v) : ∃ t, v = .int i t := h
theorem VV.str {x : Str} {v : Value} (h : VV (.str x) v) : ∃ t, v = .str x t := h
theorem VV.mk_int (i : Int) (t : Tok) : VV (.int i) (.int i t) := ⟨t, rfl⟩
theorem VV.mk_str (x : Str) (t : Tok) : VV (.str x) (.str x t) := ⟨t, rfl⟩
theorem VV.of {h : Heap} {p : PV} {v : Value} (q : simple p) (r : VRel h p v) : VV p v := by cases p <;> first | exact q.elim | exact r
theorem simple_inj {h : Heap} {p q : PV} {v : Value} (hp : simple p) (hq : simple q) (a : VRel h p v) (b : VRel h q v) : p = q := by
  cases p <;> first | exact hp.elim | skip
  all_goals cases q <;> first | exact hq.elim | skip
  all_goals (obtain ⟨t, rfl⟩ := a; obtain ⟨u, e⟩ := b; cases e)
  all_goals rfl

/-! ### a comprehension's element: it makes values, and turns nothing -/
structure QC (P : PE) (env : Env) (lc : List (Str × PV)) (fr : Option (Str × PV)) (s : Shared) : Prop where
  gd : P.Gd s.heap
  loc : ∃ m, s.heap.Ns env.locals m ∧ ∀ x p, lc.lookup x = some p → ∃ v, m x = some v ∧ VV p v
  cel : ∀ y q, fr = some (y, q) → ∃ a v, env.cells.lookup y = some a ∧ s.heap.IsCell a (some v) ∧ VV q v
theorem keeps_refl (s : Shared) : Keeps s s := ⟨s.heap, s.toks, rfl, fun _ _ e => e⟩
theorem keeps_tok (s : Shared) (tk : Nat) : Keeps s { s with toks := tk } := ⟨s.heap, tk, rfl, fun _ _ e => e⟩
theorem keeps_trans {a b c : Shared} (x : Keeps a b) (y : Keeps b c) : Keeps a c := by
  obtain ⟨h1, t1, rfl, k1⟩ := x
  obtain ⟨h2, t2, rfl, k2⟩ := y
  exact ⟨h2, t2, rfl, fun b o e => k2 b o (k1 b o e)⟩
theorem QC.keeps {P : PE} {env : Env} {lc : List (Str × PV)} {fr : Option (Str × PV)} {s s' : Shared} (q : QC P env lc fr s) (k : Keeps s s') : QC P env lc fr s' := by
  obtain ⟨h', tk, rfl, kp⟩ := k
  exact ⟨q.gd.keeps kp, let ⟨m, a, b⟩ := q.loc; ⟨m, a.keeps kp, b⟩, fun y r e => let ⟨a, v, h1, h2, h3⟩ := q.cel y r e; ⟨a, v, h1, h2.keeps kp, h3⟩⟩

section
variable {P : PE} {A : Around} {env : Env} {lc : List (Str × PV)} {fr : Option (Str × PV)}
noncomputable def TQ (P : PE) (A : Around) (env : Env) (lc : List (Str × PV)) (fr : Option (Str × PV)) (t : Sem Value) (q : PV) : Prop :=
  ∀ (s : Shared) (E : Value → Shared → Prop) (Q : Value → Shared → Prop), QC P env lc fr s → (∀ v s', VV q v → Keeps s s' → Q v s') → wpAny (model P.prog P.w) A t Q E s
noncomputable def TQ2 (P : PE) (A : Around) (f : Value → Value → Sem Value) (a b q : PV) : Prop :=
  ∀ (s : Shared) (E : Value → Shared → Prop) (Q : Value → Shared → Prop) (va vb : Value), VV a va → VV b vb → (∀ v s', VV q v → Keeps s s' → Q v s') → wpAny (model P.prog P.w) A (f va vb) Q E s
theorem TQ_int {i : Int} {k : Nat} {pos : Pos} : TQ P A env lc fr (eval (.Constant (.int i) k pos) env) (.int i) := fun _ _ _ _ h => wpAny_Constant_int (h _ _ (VV.mk_int _ _) (keeps_tok _ _))
theorem TQ_str {i : Str} {k : Nat} {pos : Pos} : TQ P A env lc fr (eval (.Constant (.str i) k pos) env) (.str i) := fun _ _ _ _ h => wpAny_Constant_str (h _ _ (VV.mk_str _ _) (keeps_tok _ _))
theorem TQ_local {x : Str} {p : PV} {pos : Pos} (hm : lc.lookup x = some p) (hk : env.scope.kind = .function) (hx : env.kindOf x = some .local) (hd : (x == ("__debug__" : Str)) = false) : TQ P A env lc fr (eval (.Name x pos) env) p := fun s E Q C h => by
  obtain ⟨m, a, hl⟩ := C.loc
  obtain ⟨v, b, c⟩ := hl x p hm
  exact wpAny_Name (wpAny_loadName_local hk hx a b (h _ _ c (keeps_refl _))) hd
theorem TQ_cell {y : Str} {q : PV} {pos : Pos} (hk : env.scope.kind = .function) (hx : env.kindOf y = some .cell) (hd : (y == ("__debug__" : Str)) = false) : TQ P A env lc (some (y, q)) (eval (.Name y pos) env) q := fun s E Q C h => by
  obtain ⟨a, v, h1, h2, h3⟩ := C.cel y q rfl
  exact wpAny_Name (wpAny_loadName_cell hk hx h1 h2 (h _ _ h3 (keeps_refl _))) hd
theorem TQ_bin {l r : PySem.Expr} {op : Operator} {pos : Pos} {a b q : PV} (hl : TQ P A env lc fr (eval l env) a) (hr : TQ P A env lc fr (eval r env) b) (ho : TQ2 P A (binaryOp op) a b q) : TQ P A env lc fr (eval (.BinOp l op r pos) env) q := fun s E Q C h =>
  wpAny_BinOp (hl s E _ C fun va s1 h1 k1 => hr s1 E _ (C.keeps k1) fun vb s2 h2 k2 => ho s2 E Q va vb h1 h2 fun v s3 h3 k3 => h v s3 h3 (keeps_trans (keeps_trans k1 k2) k3))
section
variable {a b : Int}
theorem TQ2_of {f : Value → Value → Sem Value} {c : Int} (hf : ∀ (s : Shared) (Q : Value → Shared → Prop) (E : Value → Shared → Prop) (t u : Tok), Q (.int c s.toks) { s with toks := s.toks + 1 } → wpAny (model P.prog P.w) A (f (.int a t) (.int b u)) Q E s) : TQ2 P A f (.int a) (.int b) (.int c) := by
  intro s E Q va vb ha hb h
  obtain ⟨t, rfl⟩ := ha.int
  obtain ⟨u, rfl⟩ := hb.int
  exact hf s Q E t u (h _ _ (VV.mk_int _ _) (keeps_tok _ _))
theorem TQ2_add : TQ2 P A (binaryOp .Add) (.int a) (.int b) (.int (a + b)) := TQ2_of fun _ _ _ _ _ k => PyProof.Rows.add_int k
theorem TQ2_sub : TQ2 P A (binaryOp .Sub) (.int a) (.int b) (.int (a - b)) := TQ2_of fun _ _ _ _ _ k => PyProof.Rows.sub_int k
theorem TQ2_mul (hm : Builtin.Int.intBits a ≤ 64) : TQ2 P A (binaryOp .Mult) (.int a) (.int b) (.int (a * b)) := TQ2_of fun _ _ _ _ _ k => PyProof.Rows.mul_int k (IntMulOk.of_left hm)
theorem TQ2_mod (hb : b ≠ 0) : TQ2 P A (binaryOp .Mod) (.int a) (.int b) (.int (a.fmod b)) := TQ2_of fun _ _ _ _ _ k => PyProof.Rows.mod_int' hb k
theorem TQ2_fdiv (hb : b ≠ 0) (hp' : Builtin.divisionGoesByPylong a b = false) : TQ2 P A (binaryOp .FloorDiv) (.int a) (.int b) (.int (a.fdiv b)) := TQ2_of fun _ _ _ _ _ k => PyProof.Rows.floordiv_int hb k (.inl hp')
end
theorem TQ2_adds {u v : Str} (hsz : u.length + v.length ≤ sizeLine) : TQ2 P A (binaryOp .Add) (.str u) (.str v) (.str (u ++ v)) := by
  intro s E Q va vb ha hb h
  obtain ⟨t, rfl⟩ := ha.str
  obtain ⟨w, rfl⟩ := hb.str
  exact PyProof.Rows.add_str (fun t' tk => h _ _ (VV.mk_str _ _) (keeps_tok _ _)) hsz
theorem TQ_chr {e1 : PySem.Expr} {q pos : Pos} {i : Int} (hk : env.scope.kind = .function) (hg : env.globals = mainGlobals) (hb : env.builtins = builtinsNs) (hx : env.kindOf (Str.ofString "chr") = some .globalImplicit) (e : nsIn P.K mainGlobals (Str.ofString "chr") = some none)
    (he : ∀ env, starEach [e1] env = [(false, eval e1 env)]) (h0 : 0 ≤ i) (h1 : i ≤ 0x10FFFF) (ha : TQ P A env lc fr (eval e1 env) (.int i)) : TQ P A env lc fr (eval (.Call (.Name (Str.ofString "chr") q) [e1] [] pos) env) (.str ⟨#[i.toNat]⟩) := fun s E Q C h => by
  refine Call_ (Name_function_global hk hx (loadGlobal_builtin (hg ▸ C.gd.2.g) (mg_none_of C.gd.1 C.gd.2.g e) (hb ▸ C.gd.2.b) ((C.gd.2.builtins _ (by decide +kernel)).trans (bb_chr)) ?_) (by decide +kernel))
  refine PyProof.Rows.callWith_builtin1 ?_ (he _) (by rfl)
  refine wpAny_items_cons (ha s E _ C fun va s1 a1 k1 => wpAny_items_nil ?_) (he _)
  obtain ⟨t, rfl⟩ := a1.int
  exact PySem.P.chr_of_int (by simp only [Bool.or_eq_false_iff, decide_eq_false_iff_not]; omega) (h _ _ (VV.mk_str _ _) (keeps_trans k1 (keeps_tok _ _)))
end

/-! ### what a comprehension goes over -/
section
variable {P : PE} {fe : FE} {n : Nat} {loc : Loc} {hp : List AO} {K : LV → List AO → Prop}
noncomputable def TIt (P : PE) (fe : FE) (n : Nat) (iter : PySem.Expr) (loc : Loc) (hp : List AO) (Ki : List PV → List AO → Prop) : Prop :=
  ∀ (X : Fx) (m : Str → Option Value) (θ : List Addr) (s : Shared) (Q : Value → Shared → Prop) (E : Value → Shared → Prop), Cx P fe n X → SR P fe X m loc hp θ s →
    (∀ vs hp1 θ1 s1 oI tk fp Pv It, Ki vs hp1 → SR P fe X m loc hp1 θ1 s1 → St X.L θ s θ1 s1 → Walks P.prog P.w X.A s1.heap.objs.size fp [s1.heap.objs.size] vs.length Pv It → It 0 (s1.heap.push oI) →
      (∀ b ∈ fp, b < s1.heap.objs.size + 1) → (∀ i v, Pv i v → ∃ p, vs[i]? = some p ∧ VRel s1.heap p v) → Q (.ref s1.heap.objs.size) { s1 with heap := s1.heap.push oI, toks := tk }) →
    wpAny (model P.prog P.w) X.A (eval iter (fe.env X)) (fun xv s1 => wpAny (model P.prog P.w) X.A (pyIter xv) Q E s1) E s

theorem TIt_list {iter : PySem.Expr} {Ki : List PV → List AO → Prop} (h : TE P fe n iter loc hp fun lv hp1 => ∃ k vs, lv = .o k ∧ hp1[k]? = some (.lst vs) ∧ Ki vs hp1) : TIt P fe n iter loc hp Ki := by
  intro X m θ s Q E C S kk
  refine h X m θ s _ E C S fun v lv hp1 θ1 s1 h1 S1 r1 st1 => ?_
  obtain ⟨k, vs, rfl, hk, h1⟩ := h1
  obtain ⟨l, el, rfl⟩ := r1
  obtain ⟨ws, hL, rs⟩ := S1.H.obj k l _ el hk
  obtain ⟨_, hol, _⟩ := id hL
  have hne : l ≠ s1.heap.objs.size := Nat.ne_of_lt (Heap.lt_size hol)
  have hsize : vs.length = ws.size := by rw [← rs.length]; simp
  refine wpAny_pyIter_list hL (kk vs hp1 θ1 s1 _ s1.toks [s1.heap.objs.size, l] (fun i v => ws[i]? = some v) (fun i h => h.IsListIter s1.heap.objs.size l i ∧ h.IsList l ws) h1 S1 st1 ?_ ⟨⟨_, Heap.get?_push_size _ rfl, rfl, rfl⟩, hL.push _⟩ ?_ ?_)
  · rw [hsize]; exact Walks.list C.hA _ l hne ws
  · intro b hb
    rcases List.mem_cons.mp hb with rfl | hb
    · exact Nat.lt_succ_self _
    · rw [List.mem_singleton.mp hb]; exact Nat.lt_succ_of_lt (Heap.lt_size hol)
  · intro i v e
    exact rs.get' i (w := v) (by simpa using e)
/-- the law's own list -/
theorem TIt_script {iter : PySem.Expr} {Ki : List PV → List AO → Prop} (h : TE P fe n iter loc hp fun lv hp1 => lv = .v (.ref P.sl) ∧ Ki (P.sn.map .int) hp1) : TIt P fe n iter loc hp Ki := by
  intro X m θ s Q E C S kk
  refine h X m θ s _ E C S fun v lv hp1 θ1 s1 h1 S1 r1 st1 => ?_
  obtain ⟨rfl, h1⟩ := h1
  have r1 : v = .ref P.sl := r1
  subst r1
  have sc := C.sc.keeps S1.fr.keep
  obtain ⟨hL, hI, _⟩ := sc
  have rs : VRels s1.heap (P.sn.map .int) P.sv.toArray.toList := by simpa using VRels.of_ints hI
  generalize P.sv.toArray = ws at hL rs
  generalize P.sl = l at hL
  obtain ⟨_, hol, _⟩ := id hL
  have hne : l ≠ s1.heap.objs.size := Nat.ne_of_lt (Heap.lt_size hol)
  have hsize : (P.sn.map PV.int).length = ws.size := by rw [← rs.length]; simp
  refine wpAny_pyIter_list hL (kk _ hp1 θ1 s1 _ s1.toks [s1.heap.objs.size, l] (fun i v => ws[i]? = some v) (fun i h => h.IsListIter s1.heap.objs.size l i ∧ h.IsList l ws) h1 S1 st1 ?_ ⟨⟨_, Heap.get?_push_size _ rfl, rfl, rfl⟩, hL.push _⟩ ?_ ?_)
  · rw [hsize]; exact Walks.list C.hA _ l hne ws
  · intro b hb
    rcases List.mem_cons.mp hb with rfl | hb
    · exact Nat.lt_succ_self _
    · rw [List.mem_singleton.mp hb]; exact Nat.lt_succ_of_lt (Heap.lt_size hol)
  · intro i v e
    exact rs.get' i (w := v) (by simpa using e)
theorem TIt_str {iter : PySem.Expr} {Ki : List PV → List AO → Prop} (h : TE P fe n iter loc hp fun lv hp1 => ∃ l, lv = .v (.str (S l)) ∧ Ki (l.map fun c => .str (S [c])) hp1) : TIt P fe n iter loc hp Ki := by
  intro X m θ s Q E C S kk
  refine h X m θ s _ E C S fun v lv hp1 θ1 s1 h1 S1 r1 st1 => ?_
  obtain ⟨l, rfl, h1⟩ := h1
  obtain ⟨t, rfl⟩ := r1.str
  refine wpAny_pyIter_str fun o St' hW h0 => ?_
  refine kk _ hp1 θ1 s1 _ s1.toks _ _ St' h1 S1 st1 (by have := hW X.A C.hA; simpa [VC.S] using this) h0 ?_ ?_
  · intro b hb; rw [List.mem_singleton.mp hb]; exact Nat.lt_succ_self _
  · rintro i v ⟨c, u, hc, rfl⟩
    refine ⟨.str (VC.S [c]), ?_, u, rfl⟩
    rw [List.getElem?_map]
    have : l[i]? = some c := by simpa [VC.S] using hc
    rw [this]; rfl
theorem TIt_range {args : List PySem.Expr} {p rpos : Pos} {Ki : List PV → List AO → Prop}
    (hx : fe.scope.names.lookup (Str.ofString "range") = some .globalImplicit) (e : nsIn P.K mainGlobals (Str.ofString "range") = some none)
    (hargs : ∀ env, ∃ e1 r, args = e1 :: r ∧ starEach (e1 :: r) env = (false, eval e1 env) :: starEach r env ∧ (backTo rpos (starEach r env)).any (·.1) = false)
    (h : TA P fe n args loc hp (RArgs fun a b c hp1 => Builtin.Range.small a b c = true ∧ Ki (rangeVs a b c) hp1)) : TIt P fe n (.Call (.Name (Str.ofString "range") p) args [] rpos) loc hp Ki := by
  intro X m θ s Q E C S kk
  refine range_use h hx e hargs C S fun v a b c hp1 θ1 s1 h1 S1 r1 st1 => ?_
  obtain ⟨hsm, h1⟩ := h1
  obtain ⟨r, t, u, w, rfl, hr⟩ := r1
  have hsz : ∃ N : Nat, Builtin.Range.rangeSize a b c = N ∧ (rangeVs a b c).length = N := by
    refine ⟨(Builtin.Range.rangeSize a b c).toNat, ?_, by simp [rangeVs, rangeInts]⟩
    exact (Int.toNat_of_nonneg (rangeSize_nn a b c)).symm
  obtain ⟨N, hN, hlen⟩ := hsz
  refine wpAny_pyIter_range hr hsm (kk (rangeVs a b c) hp1 θ1 s1 _ s1.toks [s1.heap.objs.size] (fun i v => i < N ∧ ∃ t, v = .int (a + i * c) t) (fun i h => IsRangeIter h s1.heap.objs.size (a + (i : Nat) * c) ((N : Int) - (i : Nat)) c) h1 S1 st1 ?_ ?_ ?_ ?_)
  · rw [hlen]
    have W := Walks.range (prog := P.prog) (w := P.w) C.hA s1.heap.objs.size a c N
    exact ⟨W.sub, W.frame, fun i s Q E hi st hQ => W.item i s Q E hi st fun v h' tk hv => hQ v h' tk ⟨hi, hv⟩, W.done, W.self⟩
  · rw [hN]
    have e1 : a + ((0 : Nat) : Int) * c = a := by simp
    have e2 : ((N : Int) - ((0 : Nat) : Int)) = N := by simp
    rw [e1, e2]
    exact Heap.get?_push_size _ rfl
  · intro b hb; rw [List.mem_singleton.mp hb]; exact Nat.lt_succ_self _
  · rintro i v ⟨hi, t, rfl⟩
    refine ⟨.int (a + i * c), ?_, t, rfl⟩
    unfold rangeVs
    rw [hN, Int.toNat_natCast, List.getElem?_map, rangeInts_get hi]; rfl

/-! ### the comprehension -/
/-- what its names may read of the frame around it -/
noncomputable def FrOk (fe : FE) (hp : List AO) : Option (Str × PV) → Prop
  | none => True
  | some (y, q) => simple q ∧ ∃ k, fe.cells.lookup y = some k ∧ hp[k]? = some (.cel (some q))
noncomputable def clOf (X : Fx) : Option (Str × PV) → List (Str × Addr)
  | none => []
  | some (y, _) => [(y, (X.cl.lookup y).getD 0)]

theorem paired_get {α β : Type} {F : α → β → Prop} {l₁ : List α} {l₂ : List β} (p : Paired F l₁ l₂) : ∀ (i : Nat) {a : α} {b : β}, l₁[i]? = some a → l₂[i]? = some b → F a b := by
  induction p with
  | nil => intro i a b h _; rw [List.getElem?_nil] at h; cases h
  | cons f r ih =>
    intro i a b h1 h2
    cases i with
    | zero => cases h1; cases h2; exact f
    | succ i => exact ih i h1 h2
theorem paired_len {α β : Type} {F : α → β → Prop} {l₁ : List α} {l₂ : List β} (p : Paired F l₁ l₂) : l₁.length = l₂.length := by
  induction p with
  | nil => rfl
  | cons f r ih => rw [List.length_cons, List.length_cons, ih]

theorem TE_ListComp {elt iter : PySem.Expr} {x : Str} {px : Pos} {scope : Scope} {pos : Pos} (fr : Option (Str × PV)) (g : PV → PV)
    (hfrc : ∀ y q, fr = some (y, q) → ∃ k, fe.cells.lookup y = some k)
    (hclos : ∀ X : Fx, (∀ y q, fr = some (y, q) → ∃ a, X.cl.lookup y = some a) → closureFor scope (fe.env X) = pure (clOf X fr)) (hcell : ∀ y ∈ scope.names, y.2 ≠ .cell) (hkind : scope.kind = .function)
    (hnames : ∀ y ∈ scope.names, y.2 = .local → scope.names.lookup y.1 = some .local) (hx : scope.names.lookup x = some .local)
    (hs : ∀ X x, foldedSetIterable iter (fe.env X) x = pure x)
    (h : TIt P fe n iter loc hp fun vs hp1 => vs.length ≤ sizeLine ∧ (∀ p ∈ vs, simple p) ∧ FrOk fe hp1 fr ∧ (∀ (X : Fx) (C : Addr) p, p ∈ vs → TQ P X.A (compEnvC scope (clOf X fr) C (fe.env X)) [(x, p)] fr (eval elt (compEnvC scope (clOf X fr) C (fe.env X))) (g p)) ∧
      K (.o hp1.length) (hp1 ++ [.lst (vs.map g)])) :
    TE P fe n (.ListComp elt [⟨.Name x px, iter, [], 0⟩] scope pos) loc hp K := by
  intro X m θ s Q E C S kk
  have hcl : ∀ y q, fr = some (y, q) → ∃ a, X.cl.lookup y = some a := fun y q e => by
    obtain ⟨k, h1⟩ := hfrc y q e
    obtain ⟨a, e1, _⟩ := S.cells y k h1
    exact ⟨a, e1⟩
  refine wpAny_ListComp_free (cl := clOf X fr) (fun _ => true) (fun v y => ∀ p, simple p → VV p v → VV (g p) y) (hclos X hcl) hcell hkind hnames hx (h X m θ s _ E C S fun vs hp1 θ1 s1 oI tk fp Pv It h1 S1 st1 W hst hfp hPv => ?_) (hs X)
  obtain ⟨hsz, hsim, hf, hq, hK⟩ := h1
  have kp0 : ∀ (b : Addr) (o : Obj), s1.heap.get? b = some o → (s1.heap.push oI).get? b = some o := fun b o e => Heap.get?_push_of_some _ e
  have ne : ∀ (b : Addr) (o : Obj), s1.heap.get? b = some o → b ∉ [s1.heap.objs.size] := fun b o e q => by
    rw [List.mem_singleton.mp q] at e; exact absurd (Heap.lt_size e) (Nat.lt_irrefl _)
  refine ⟨_, fp, _, vs.length, Pv, It, rfl, W, hsz, hst, (by rw [Heap.size_push]; exact hfp), ⟨?_, ?_⟩, ?_⟩
  · intro C' i v s₃ m₃ E' _ _ _ _ _ _
    show wpAny _ _ (pure true) _ _ _
    exact wpAny_pure ⟨rfl, keeps_refl _⟩
  · intro C' i v s₃ m₃ E' hC' hv _ hns hm hk _
    obtain ⟨p, hp', rp⟩ := hPv i v hv
    have hmem := List.mem_of_getElem? hp'
    have hp := hsim p hmem
    have kp3 : ∀ (b : Addr) (o : Obj), s1.heap.get? b = some o → s₃.heap.get? b = some o := fun b o e => hk b o (ne b o e) (kp0 b o e)
    refine hq X C' p hmem s₃ E' _ ⟨C.gd.keeps fun b o e => kp3 b o (S1.fr.keep b o e), ⟨m₃, hns, fun y q e => ?_⟩, fun y q e => ?_⟩ fun y s₄ hy hk4 => ⟨fun p' hs' hv' => ?_, hk4⟩
    · rw [List.lookup_cons] at e
      split at e
      · rename_i hy
        cases e
        rw [beq_iff_eq.mp hy]; exact ⟨v, hm, VV.of hp rp⟩
      · cases e
    · subst e
      obtain ⟨hq', k, h1, h2⟩ := hf
      obtain ⟨a, e1, e2⟩ := S1.cells y k h1
      obtain ⟨o, ov, e3, e5, e4⟩ := S1.H.obj k a _ e2 h2
      cases ov with
      | none => exact e4.elim
      | some u => exact ⟨a, u, by show List.lookup y [(y, (X.cl.lookup y).getD 0)] = _; rw [e1]; simp, ⟨o, kp3 a o e3, e5⟩, VV.of hq' e4⟩
    · have : p' = p := simple_inj (h := s1.heap) hs' hp hv'.rel rp
      subst this; exact hy
  · intro D h' tk' ys ws hD hL _ hlen hP hF hk
    have hD' : s1.heap.get? D = none := by
      cases e : s1.heap.get? D with
      | none => rfl
      | some o => have := kp0 D o e; rw [this] at hD; cases hD
    refine kt_list (s := s1) S1 (fun v lv hp2 θ2 s2 h2 S2 r2 st2 => kk v lv hp2 θ2 s2 h2 S2 r2 (st1.trans S1 st2)) hK (fun b o e => hk b o (ne b o e) (kp0 b o e)) hD' hL ?_ rfl rfl
    have hF' : Paired (fun v y => ∀ p, simple p → VV p v → VV (g p) y) ws ys.toList := by
      have e : ws.filter (fun _ => true) = ws := List.filter_eq_self.mpr fun _ _ => rfl
      rw [e] at hF; exact hF
    refine VRels.of_get (by rw [List.length_map, ← paired_len hF', hlen]) fun i q y e1 e2 => ?_
    rw [List.getElem?_map] at e1
    obtain ⟨p, e3, rfl⟩ := Option.map_eq_some_iff.mp e1
    have hi : i < ws.length := by rw [hlen]; exact (List.getElem?_eq_some_iff.mp e3).1
    have e4 := List.getElem?_eq_getElem hi
    obtain ⟨p', e5, r5⟩ := hPv i _ (hP i _ e4)
    rw [e3] at e5; cases e5
    have hp := hsim p (List.mem_of_getElem? e3)
    exact (paired_get hF' i e4 e2 p hp (VV.of hp r5)).rel

end
end VC
namespace VC
open PySem PySem.W PyProof.Rows PySem.Calls PySem.Spec PySem.Builtin PySem.Builtin.Str PySem.SeqAt

/-! ### a class on list: what the fragment says of it -/
structure AccF (K : Frag) (C : Addr) : Prop where
  cls : ∃ cd, clsIn K C = some cd
  ga : findIn K (.ref C) "__getattribute__" = some (some (.builtin "list.__getattribute__"))
  gat : findIn K (.ref C) "__getattr__" = some none
  sub : subIn K (.ref C) (.type "list") = some true
  noDeque : subIn K (.ref C) (.type "collections.deque") = some false
  noInt : subIn K (.ref C) (.type "type") = some false
  getitem : findIn K (.ref C) "__getitem__" = some (some (.builtin "list.__getitem__"))
  setitem : findIn K (.ref C) "__setitem__" = some (some (.builtin "list.__setitem__"))
  iter : findIn K (.ref C) "__iter__" = some (some (.builtin "list.__iter__"))
  append : findIn K (.ref C) "append" = some (some (.builtin "list.append"))

/-- an object: a row, and its own names -/
structure AccAt (h : Heap) (a : Addr) (o : Obj) (C : Addr) (ws : Array Value) (n : Nat) (od : Obj) : Prop where
  inst : InstAt h a o C (some od)
  data : o.data = .seq ws n

theorem canon_list_ga : (Manifest.canonical "list.__getattribute__" != "object.__getattribute__") = false := by decide +kernel

section
variable {prog : Program} {w : World} {A : Around} {E : Value → Shared → Prop} {s : Shared} {K : Frag} {C a : Addr} {o od : Obj} {ws : Array Value} {nn : Nat} {name : Str}

theorem acc_method {f : Value} {pl : Sem Bool} {Q : Value × List Value → Shared → Prop} (H : AccF K C) (X : K.In s.heap) (I : AccAt s.heap a o C ws nn od)
    (hf : findIn K (.ref C) name = some (some f)) (ht : typeIn K f = some (.type "function") ∨ typeIn K f = some (.type "method_descriptor")) (hs : lookIn name od = some none) (h : Q (f, [.ref a]) s) :
    wpAny (model prog w) A (getMethod (.ref a) name pl) Q E s := by
  have I := I.inst
  unfold getMethod specialOf
  refine wpAny_bind (wpAny_bind (I.type.here ((looks_findIn X H.ga).here ?_)))
  dsimp only
  rw [canon_list_ga, if_neg (by decide)]
  refine wpAny_bind (wpAny_bind (I.type.here ((looks_findIn X H.gat).here ?_)))
  refine wpAny_bind (wpAny_bind (I.type.here ((looks_findIn X hf).here ?_)))
  have fin : ∀ t : Value, typeIn K f = some t → (t = .type "function" ∨ t = .type "method_descriptor") → wpAny (model prog w) A (do
      let tf ← typeOf f
      if tf != .type "function" && tf != .type "method_descriptor" && tf != .type "wrapper_descriptor" then return (← getAttr (.ref a) name, [])
      if let .ref a := (Value.ref a) then
        if let some d := (← loadPart a (some headPart)).dict then
          if (← nsGet d name).isSome then return (← getAttr (.ref a) name, [])
      rule "call.method-form"
      return (f, [Value.ref a])) Q E s := by
    intro t ht ho
    refine wpAny_bind ((looks_typeIn X ht).here ?_)
    rw [if_neg (by rcases ho with rfl | rfl <;> decide +kernel)]
    refine wpAny_bind (wpAny_loadPart I.at_ ?_)
    have hd := I.dict
    cases e : o.dict with
    | none => exact wpAny_bind (wpAny_rule (wpAny_pure h))
    | some dx =>
      rw [e] at hd
      refine wpAny_bind (wpAny_bind (wpAny_loadPart hd ?_))
      rw [nsLook_of hs]
      refine wpAny_pure ?_
      exact wpAny_bind (wpAny_rule (wpAny_pure h))
  rcases ht with ht | ht
  · exact fin _ ht (.inl rfl)
  · exact fin _ ht (.inr rfl)

/-- a builtin of list's takes an object -/
theorem acc_check {id n : String} {rest : List Value} {kw : List (Str × Value)} {M : Model} {Q : Unit → Shared → Prop} (H : AccF K C) (X : K.In s.heap) (I : InstAt s.heap a o C (some od)) (hsplit : splitId id = some ("list", n))
    (hkind : (Manifest.find? "list").bind (·.attrs.lookup n) = some .slot ∨ (Manifest.find? "list").bind (·.attrs.lookup n) = some .method) (ha : argsOk id ⟨.ref a :: rest, kw⟩) (hQ : Q () s) :
    wpAny M A (checkBuiltinCall id ⟨.ref a :: rest, kw⟩) Q E s := by
  have hk : builtinKind id = (Manifest.find? "list").bind (·.attrs.lookup n) := by simp only [builtinKind, hsplit]
  rcases hkind with h | h <;>
  · simp only [checkBuiltinCall, hk, h, hsplit]
    unfold isInstance
    refine wpAny_bind (wpAny_bind (I.type.here ((looks_subIn X H.sub).here ?_)))
    simp only [Bool.not_true, Bool.false_eq_true, if_false]
    cases hsig : Manifest.signature? id with
    | none => exact wpAny_pure hQ
    | some sig =>
      simp only [argsOk, hsig] at ha
      have h2 : Bind.checkArgs id sig ⟨.ref a :: rest, kw⟩ = pure () := ha
      show wpAny M A (Bind.checkArgs id sig ⟨.ref a :: rest, kw⟩) Q E s
      rw [h2]; exact wpAny_pure hQ

/-- the end of a builtin's run -/
abbrev Done (prog : Program) (w : World) (A : Around) (Q E : Value → Shared → Prop) : Fin → Shared → Prop :=
  fun fin s' => match fin with | .done f => wants Q E (.ok f) s' | .again c' => c'.quiet = true ∧ codeAny (model prog w) A c' (wants Q E) s'
theorem acc_call {id n : String} {B : Builtin} {rest : List Value} {Q : Value → Shared → Prop} (H : AccF K C) (X : K.In s.heap) (I : InstAt s.heap a o C (some od)) (hsplit : splitId id = some ("list", n))
    (hkind : (Manifest.find? "list").bind (·.attrs.lookup n) = some .slot ∨ (Manifest.find? "list").bind (·.attrs.lookup n) = some .method) (plain : plainId id = true) (entry : entryFor table id = some B) (ha : argsOk id ⟨.ref a :: rest, []⟩)
    (h : wpAny (model prog w) A.in1 (B ⟨.ref a :: rest, []⟩) (Done prog w A Q E) (fun e s' => wants Q E (.error e) s') s) : wpAny (model prog w) A (call (.builtin id) (.ref a :: rest)) Q E s :=
  wpAny_call (codeAny_call_builtin plain entry (acc_check H X I hsplit hkind ha h))

/-! list.append -/
theorem acc_append {x : Value} {Q : Value → Shared → Prop} (H : AccF K C) (X : K.In s.heap) (I : AccAt s.heap a o C ws nn od) (hsz : ws.size ≤ sizeLine) (h : Q .none { s with heap := s.heap.update a (Obj.mapSeq fun xs => xs.push x) }) :
    wpAny (model prog w) A (call (.builtin "list.append") [.ref a, x]) Q E s := by
  refine acc_call H X I.inst (n := "append") (by decide +kernel) (.inr (by decide +kernel)) (by decide +kernel) PySem.F.entry_list_append (PySem.F.args_list_append_2 _ _) ?_
  unfold Builtin.«list.append» selfAndOne noKeywords
  refine wpAny_bind (wpAny_bind (wpAny_pure (wpAny_pure ?_)))
  show wpAny _ _ (Builtin.List.listUpdate (.ref a) (·.push x) >>= _) _ _ _
  unfold Builtin.List.listUpdate
  refine wpAny_bind (wpAny_updateSeq I.inst.at_ I.data ?_ hsz (by rw [Array.size_push]; omega))
  exact wpAny_pure h

/-- a special of list's, called on an object -/
theorem acc_special {id : String} {args : List Value} {Q : Option Value → Shared → Prop} (X : K.In s.heap) (I : InstAt s.heap a o C (some od)) (hf : findIn K (.ref C) name = some (some (.builtin id))) (hb : ∀ self, bindSpecial (.builtin id) self = pure (.builtin id, [self]))
    (h : wpAny (model prog w) A (call (.builtin id) (.ref a :: args)) (fun v => Q (some v)) E s) : wpAny (model prog w) A (callSpecial? (.ref a) name args) Q E s := by
  unfold callSpecial? specialOf
  refine wpAny_bind (wpAny_bind (I.type.here ((looks_findIn X hf).here ?_)))
  dsimp only
  rw [hb]
  exact wpAny_holding (wpAny_bind (wpAny_pure (wpAny_bind (wpAny_mono h (fun v s' h' => wpAny_pure h') fun _ _ h' => h'))))

theorem acc_seqKey {k : Value} {Q : Value → Shared → Prop} (H : AccF K C) (X : K.In s.heap) (I : InstAt s.heap a o C (some od)) (h : Q k s) : wpAny (model prog w) A (sequenceKey (.ref a) k name) Q E s := by
  unfold sequenceKey
  refine wpAny_bind (I.type.here ?_)
  dsimp only
  show wpAny _ _ (List.anyM (fun n => isSubtype (.ref C) (.type n)) ["collections.deque"] >>= _) _ _ _
  simp only [List.anyM]
  refine wpAny_bind (wpAny_bind ((looks_subIn X H.noDeque).here ?_))
  exact wpAny_pure (wpAny_pure h)

/-! list.__getitem__ with a slice -/
theorem acc_getslice {sl : Addr} {vl vu vst : Value} {lo hi st : Option Int} {Q : Value → Shared → Prop} (H : AccF K C) (X : K.In s.heap) (I : AccAt s.heap a o C ws nn od) (hs : s.heap.IsSliceOf sl vl vu vst) (pl : IsPart vl lo) (pu : IsPart vu hi) (ps : IsPart vst st) (h0 : st ≠ some 0) (hsz : ws.size ≤ sizeLine)
    (h : Q (.ref s.heap.objs.size) { s with heap := s.heap.push { cls := .type "list", data := .seq (slicePick ws lo hi st) } }) : wpAny (model prog w) A (getItem (.ref a) (.ref sl)) Q E s := by
  obtain ⟨os, hos, hcs, hds⟩ := id hs
  have hTs : s.TypeIs (.ref sl) "slice" := ⟨os, hos, hcs⟩
  unfold getItem
  refine wpAny_holding (wpAny_bind (acc_seqKey H X I.inst (wpAny_bind (acc_special X I.inst H.getitem PySem.F.slot_list_getitem.bind ?_))))
  refine acc_call H X I.inst (n := "__getitem__") (by decide +kernel) (.inr (by decide +kernel)) (by decide +kernel) PySem.F.entry_list_getitem (PySem.F.args_list_getitem_2 _ _) ?_
  show wpAny _ _ (Builtin.List.listSubscript? (.ref sl) >>= _) _ _ s
  refine wpAny_bind ?_
  unfold Builtin.List.listSubscript?
  refine wpAny_bind (wpAny_specialOf hTs slice_no_index ?_)
  simp only [Option.isNone_none, if_true]
  refine wpAny_pure ?_
  show wpAny _ _ (typeOf (.ref sl) >>= _) _ _ s
  refine wpAny_bind (wpAny_typeOf hTs ?_)
  rw [if_neg (by decide)]
  rw [listSliceParts_eq]
  have hstep : ¬ ((rawPart st == rawInt 0) = true) := by
    cases st with
    | none => exact Bool.false_ne_true
    | some c =>
      intro hh
      have : c = 0 := by simpa [rawPart, rawInt] using hh
      exact h0 (by rw [this])
  refine wpAny_bind (wpAny_bind (wpAny_field hos hds (x := vst) rfl (wpAny_bind (wpAny_listPart ps ?_))))
  rw [if_neg hstep]
  refine wpAny_bind (wpAny_field hos hds (x := vl) rfl (wpAny_bind (wpAny_listPart pl ?_)))
  refine wpAny_bind (wpAny_field hos hds (x := vu) rfl (wpAny_bind (wpAny_listPart pu (wpAny_pure ?_))))
  refine wpAny_bind (m := Builtin.List.listItems (.ref a)) ?_
  unfold Builtin.List.listItems
  refine wpAny_bind (wpAny_seqItems I.inst.at_ I.data (wpAny_pure ?_))
  refine wpAny_bind (wpAny_of_eq (sliceIndices_raw lo hi st ws.size h0) ?_)
  exact wpAny_bind (wpAny_newObj_type (wpAny_pure (wpAny_pure h)) (Nat.le_trans (slicePick_size_le ws lo hi st) hsz))

/-! list.pop, of the last -/
theorem acc_pop {A' : Around} {x : Value} {xs : Array Value} {Q E' : Value → Shared → Prop} (I : AccAt s.heap a o C ws nn od) (hx : ws = xs.push x) (hsz : ws.size ≤ sizeLine)
    (h : Q x { s with heap := s.heap.update a (Obj.mapSeq fun xs => xs.eraseIdxIfInBounds (ws.size - 1)) }) : wpAny (model prog w) A' (Builtin.«list.pop» ⟨[.ref a], []⟩) (Done prog w A Q E) E' s := by
  have hpos : 0 < ws.size := by rw [hx, Array.size_push]; omega
  have hy : ws[ws.size - 1]? = some x := by rw [hx]; simp
  have hne : ws.isEmpty = false := by
    rw [hx]; simp
  have hk : seqIndex? (-1) ws.size = some (ws.size - 1) := by
    have hj : (if (-1 : Int) < 0 then (-1 : Int) + (ws.size : Nat) else (-1 : Int)) = ((ws.size - 1 : Nat) : Int) := by rw [if_pos (by omega)]; omega
    simp only [seqIndex?, hj]
    rw [if_pos (by simp; omega)]; simp
  unfold Builtin.«list.pop»
  show wpAny _ _ (Builtin.List.listItems (.ref a) >>= _) _ _ _
  unfold Builtin.List.listItems
  refine wpAny_bind (wpAny_bind (wpAny_seqItems I.inst.at_ I.data (wpAny_pure ?_)))
  dsimp only
  rw [hne]
  simp only [hk, hy, Option.bind_some, Option.map_some]
  show wpAny _ _ (Builtin.List.listUpdate (.ref a) _ >>= _) _ _ _
  unfold Builtin.List.listUpdate
  refine wpAny_bind (wpAny_updateSeq I.inst.at_ I.data ?_ hsz (Nat.le_trans (MeetsSeq.size_erased ws _) (Nat.le_succ_of_le hsz)))
  exact wpAny_pure h

/-! list.__len__ -/
theorem acc_len {A' : Around} {Q E' : Value → Shared → Prop} (I : AccAt s.heap a o C ws nn od) (h : Q (.int ws.size s.toks) { s with toks := s.toks + 1 }) : wpAny (model prog w) A' (Builtin.«list.__len__» ⟨[.ref a], []⟩) (Done prog w A Q E) E' s := by
  unfold Builtin.«list.__len__»
  show wpAny _ _ (seqSize a >>= _) _ _ _
  unfold seqSize
  refine wpAny_bind (wpAny_bind (wpAny_loadPart I.inst.at_ ?_))
  rw [I.data]
  exact wpAny_pure (wpAny_bind (wpAny_mkInt (wpAny_pure h)))

/-! list.__setitem__ with a slice, from a list -/
theorem acc_setslice {sl b : Addr} {vl vu : Value} {lo hi : Option Int} {ys : Array Value} {Q : Unit → Shared → Prop} (H : AccF K C) (X : K.In s.heap) (I : AccAt s.heap a o C ws nn od) (hb : s.heap.IsList b ys) (hab : a ≠ b) (hs : s.heap.IsSliceOf sl vl vu .none) (pl : IsPart vl lo) (pu : IsPart vu hi)
    (hsz : ws.size + ys.size ≤ sizeLine)
    (h : Q () { s with heap := s.heap.update a (Obj.mapSeq fun xs => xs.extract 0 (sliceBounds lo hi none ws.size).1.toNat ++ ys ++ xs.extract (max (sliceBounds lo hi none ws.size).1 (sliceBounds lo hi none ws.size).2.1).toNat xs.size) }) : wpAny (model prog w) A (setItem (.ref a) (.ref sl) (.ref b)) Q E s := by
  obtain ⟨os, hos, hcs, hds⟩ := id hs
  obtain ⟨ob, hob, hcb, nb, hdb⟩ := id hb
  have hTs : s.TypeIs (.ref sl) "slice" := ⟨os, hos, hcs⟩
  unfold setItem
  refine wpAny_holding (wpAny_bind (acc_seqKey H X I.inst (wpAny_bind (acc_special X I.inst H.setitem PySem.F.slot_list_setitem.bind ?_))))
  refine acc_call H X I.inst (n := "__setitem__") (by decide +kernel) (.inl (by decide +kernel)) (by decide +kernel) PySem.F.entry_list_setitem (PySem.F.args_list_setitem_3 _ _ _) ?_
  show wpAny _ _ (Builtin.List.listSubscript? (.ref sl) >>= _) _ _ s
  refine wpAny_bind ?_
  unfold Builtin.List.listSubscript?
  refine wpAny_bind (wpAny_specialOf hTs slice_no_index ?_)
  simp only [Option.isNone_none, if_true]
  refine wpAny_pure ?_
  show wpAny _ _ (typeOf (.ref sl) >>= _) _ _ s
  refine wpAny_bind (wpAny_typeOf hTs ?_)
  rw [if_neg (by decide)]
  rw [listSliceParts_eq]
  refine wpAny_bind (wpAny_bind (wpAny_field hos hds (x := .none) rfl (wpAny_bind (wpAny_listPart .none ?_))))
  rw [if_neg (show ¬ ((rawPart none == rawInt 0) = true) from Bool.false_ne_true)]
  refine wpAny_bind (wpAny_field hos hds (x := vl) rfl (wpAny_bind (wpAny_listPart pl ?_)))
  refine wpAny_bind (wpAny_field hos hds (x := vu) rfl (wpAny_bind (wpAny_listPart pu (wpAny_pure ?_))))
  have hne : Builtin.List.listSameRef (.ref a) (.ref b) = false := beq_eq_false_iff_ne.mpr hab
  dsimp only
  rw [hne, if_neg Bool.false_ne_true]
  refine wpAny_bind (m := Builtin.List.listAllItems (.ref b) _) ?_
  unfold Builtin.List.listAllItems
  refine wpAny_bind (wpAny_typeOf (T := "list") ⟨ob, hob, hcb⟩ ?_)
  rw [if_pos (by decide)]
  unfold Builtin.List.listItems
  refine wpAny_bind (wpAny_seqItems hob hdb (wpAny_pure ?_))
  refine wpAny_bind (wpAny_bind (wpAny_seqItems I.inst.at_ I.data (wpAny_pure ?_)))
  refine wpAny_bind (wpAny_of_eq (sliceIndices_raw lo hi none ws.size (by simp)) ?_)
  have hst : (sliceBounds lo hi none ws.size).2.2 = 1 := rfl
  generalize hB : sliceBounds lo hi none ws.size = B at h hst ⊢
  obtain ⟨c1, c2, c3⟩ := B
  have hst : c3 = 1 := hst
  subst hst
  dsimp only at h ⊢
  rw [if_pos (by decide)]
  refine wpAny_bind (wpAny_rule ?_)
  have htl : Builtin.List.listTooLong (ws.size + ys.size) = false := by
    unfold Builtin.List.listTooLong; exact decide_eq_false (by omega)
  rw [htl, if_neg Bool.false_ne_true]
  unfold Builtin.List.listUpdate
  refine wpAny_bind (wpAny_updateSeq I.inst.at_ I.data ?_ (by omega) ?_)
  · exact wpAny_bind (wpAny_letGo (wpAny_pure (wpAny_pure h)))
  · rw [Array.size_append, Array.size_append, Array.size_extract, Array.size_extract, Nat.min_self]
    have h1 : c1.toNat ≤ (max c1 c2).toNat := Int.toNat_le_toNat (Int.le_max_left _ _)
    have h2 := Nat.min_le_left c1.toNat ws.size
    have h3 := Nat.min_le_right c1.toNat ws.size
    clear h I hb hs hos hcs hds hob hcb nb hdb hTs hne htl pl pu hab hB X H
    generalize (max c1 c2).toNat = B at h1 ⊢
    generalize min c1.toNat ws.size = A at h2 h3 ⊢
    omega

/-! list.__init__, without an argument -/
theorem acc_init {A' : Around} {Q E' : Value → Shared → Prop} (I : AccAt s.heap a o C ws nn od) (hsz : ws.size ≤ sizeLine) (h : Q .none { s with heap := s.heap.update a (Obj.mapSeq fun _ => #[]) }) : wpAny (model prog w) A' (Builtin.«list.__init__» ⟨[.ref a], []⟩) (Done prog w A Q E) E' s := by
  unfold Builtin.«list.__init__»
  show wpAny _ _ (Builtin.List.listItems (.ref a) >>= _) _ _ _
  unfold Builtin.List.listItems
  refine wpAny_bind (wpAny_bind (wpAny_seqItems I.inst.at_ I.data (wpAny_pure ?_)))
  unfold Builtin.List.listUpdate
  refine wpAny_bind (wpAny_updateSeq I.inst.at_ I.data ?_ hsz (by simp))
  exact wpAny_bind (wpAny_letGo (wpAny_pure h))
end
end VC
namespace VC
open PySem PySem.W PyProof.Rows PySem.Calls PySem.Spec PySem.Builtin PySem.Builtin.Str PySem.SeqAt

/-! ### an object of a class on list is made -/
noncomputable def lmakesIn (K : Frag) (C : Addr) : Bool := match K.lookup C with
  | some ⟨_, _, .cls cd, sl⟩ => !cd.abstract && !cd.hasDel && cd.hasDict && (sl.toList[4]?).join == some (.builtin "list.__new__") && !cd.mro.isEmpty && cd.mro.contains (.ref C) && cd.mro.contains (.type "list") &&
      specialIn K (.ref C) "__call__" == some (some (.builtin "type.__call__")) && instIn K (.ref C) (.type "type") == some true
  | _ => false
structure LMakes (M : Model) (h : Heap) (C : Addr) : Prop where
  obj : ∃ oc od cd sl, h.get? C = some ⟨oc, od, .cls cd, sl⟩ ∧ cd.abstract = false ∧ cd.hasDel = false ∧ cd.mro.isEmpty = false ∧ cd.hasDict = true
  made : Looks M h (Bind.madeBy (.ref C)) (some "list.__new__")
  base : Looks M h (Bind.staticBase (.ref C)) (.ref C)
  self : Looks M h (isSubtype (.ref C) (.ref C)) true
  list : Looks M h (isSubtype (.ref C) (.type "list")) true
  call : Looks M h (specialOf (.ref C) "__call__") (some (.builtin "type.__call__"))
  typ : Looks M h (isInstance (.ref C) (.type "type")) true
theorem lmakes_of {K : Frag} {M : Model} {h : Heap} (X : K.In h) {C : Addr} (e : lmakesIn K C = true) : LMakes M h C := by
  unfold lmakesIn at e
  split at e
  · rename_i oc od cd sl ho
    simp only [Bool.and_eq_true, Bool.not_eq_true', beq_iff_eq] at e
    obtain ⟨⟨⟨⟨⟨⟨⟨⟨e1, e2⟩, e9⟩, e3⟩, e4⟩, e5⟩, e6⟩, e7⟩, e8⟩ := e
    have hc : clsIn K C = some cd := by unfold clsIn; rw [ho]
    have hm : Looks M h (mroOf (.ref C)) cd.mro := (looks_clsIn X hc).andThen .now
    obtain ⟨c, l, hl⟩ : ∃ c l, cd.mro = c :: l := by cases q : cd.mro with | nil => rw [q] at e4; cases e4 | cons c l => exact ⟨c, l, rfl⟩
    have made : Looks M h (Bind.madeBy (.ref C)) (some "list.__new__") := by
      intro A Q E s k q
      unfold Bind.madeBy
      refine wpAny_bind (hm A _ E s k ?_)
      rw [hl, List.forIn_cons]
      refine wpAny_bind (wpAny_bind (wpAny_bind (wpAny_bind (wpAny_loadPart (k _ _ (X _ _ ho)) (wpAny_pure ?_)))))
      dsimp only
      rw [← Array.getElem?_toList, e3]
      exact wpAny_pure (wpAny_pure (wpAny_pure q))
    refine ⟨⟨oc, od, cd, sl, X _ _ ho, e1, e2, e4, e9⟩, made, ?_, looks_mroIn X ?_, looks_mroIn X ?_, looks_specialIn X e7, looks_instIn X e8⟩
    · intro A Q E s k q
      unfold Bind.staticBase
      refine wpAny_bind (hm A _ E s k ?_)
      rw [hl, List.forIn_cons]
      exact wpAny_bind (wpAny_bind (wpAny_bind (made A _ E s k (wpAny_pure (wpAny_pure (wpAny_pure q))))))
    · unfold mroIn; rw [hc, Option.bind_some, if_neg (by rw [e4]; decide), e5]
    · unfold mroIn; rw [hc, Option.bind_some, if_neg (by rw [e4]; decide), e6]
  · cases e

noncomputable abbrev rowObj (C dx : Addr) : Obj := { cls := .ref C, dict := some dx, data := .seq #[] }

theorem ln_split : splitId "list.__new__" = some ("list", "__new__") := by decide +kernel
theorem ln_kind : builtinKind "list.__new__" = some .builtinFn := by decide +kernel
section
variable {prog : Program} {w : World} {A : Around} {K : Frag} {C : Addr} {R : Result → Shared → Prop} {h : Heap} {g : Array GenState} {d : Drawn} {t : Nat} {os : OsState}
theorem lnew_check {M : Model} {rest : List Value} {Q : Unit → Shared → Prop} {E : Value → Shared → Prop} (Y : LMakes M h C) (hq : Q () ⟨h, g, d, t, os⟩) :
    wpAny M A (checkBuiltinCall "list.__new__" ⟨.ref C :: rest, []⟩) Q E ⟨h, g, d, t, os⟩ := by
  obtain ⟨⟨oc, od, cd, sl, hC, e1, e2, e4, e9⟩, made, base, self, list, call, typ⟩ := Y
  have hT : Looks M h (isType (.ref C)) true := fun A Q E s k q => wpAny_bind (wpAny_load (k _ _ hC) (wpAny_pure q))
  simp only [checkBuiltinCall, ln_kind, ln_split]
  repeat (first | simp only [bne_self_eq_false, Bool.false_eq_true, if_false, beq_self_eq_true, if_true, Bool.not_true] | lk)
  exact hq

theorem lnew {rest : List Value} (Y : LMakes (model prog w) h C) (hq : R (.ok (.ret (.ref (h.objs.size + 1)))) ⟨(h.push emptyDict).push (rowObj C h.objs.size), g, d, t, os⟩) :
    codeAny (model prog w) A (.call (.builtin "list.__new__") ⟨.ref C :: rest, []⟩) R ⟨h, g, d, t, os⟩ := by
  have Y' := Y
  obtain ⟨⟨oc, od, cd, sl, hC, e1, e2, e4, e9⟩, made, base, self, list, call, typ⟩ := Y
  have hT : Looks (model prog w) h (isType (.ref C)) true := fun A Q E s k q => wpAny_bind (wpAny_load (k _ _ hC) (wpAny_pure q))
  refine codeAny_of_tree ?_
  show wpAny _ A.in1 (do checkBuiltinCall "list.__new__" ⟨.ref C :: rest, []⟩; again (.builtin "list.__new__" ⟨.ref C :: rest, []⟩)) _ _ _
  refine wpAny_bind (lnew_check Y' (wpAny_pure ⟨plainId_quiet PySem.F.plain_list_new _, codeAny_builtin_stack PySem.F.entry_list_new rfl fun p st => ?_⟩))
  rw [Around.under_plainId PySem.F.plain_list_new _]
  have hown := owner_list_new
  simp only [hown]
  repeat (first | simp only [bne_self_eq_false, Bool.false_eq_true, if_false, beq_self_eq_true, if_true, Bool.not_true] | lk)
  refine nd_load (Heap.get?_push_of_some _ (Heap.get?_push_of_some _ hC)) ?_
  refine wpAny_pure ?_
  dsimp only
  rw [e2]
  refine wpAny_pure (wpAny_pure (wpAny_pure ?_))
  show R _ _
  rw [Heap.size_push]
  exact hq

theorem lmake_core {rest : List Value} {init : Value} (Y : LMakes (model prog w) h C) (hi : Looks (model prog w) h (typeLookup (.ref C) "__init__") (some init))
    (hb : ∀ self, Looks (model prog w) h (bindSpecial init self) (init, [self]))
    (hq : codeAny (model prog w) (A.under (.builtin "type.__call__" ⟨.ref C :: rest, []⟩)) (.call init ⟨.ref (h.objs.size + 1) :: rest, []⟩) (InitBack (h.objs.size + 1) R) ⟨(h.push emptyDict).push (rowObj C h.objs.size), g, d, t, os⟩) :
    codeAny (model prog w) A (.call (.ref C) ⟨rest, []⟩) R ⟨h, g, d, t, os⟩ := by
  have Y' := Y
  obtain ⟨⟨oc, od, cd, sl, hC, e1, e2, e4, e9⟩, made, base, self, list, call, typ⟩ := Y
  refine codeAny_of_tree ?_
  show wpAny _ _ (callAny (.ref C) _) _ _ _
  refine nd_load hC ?_
  show wpAny _ _ (callAny.viaDunder (.ref C) _) _ _ _
  unfold callAny.viaDunder
  refine wpAny_bind (call.at ?_)
  dsimp only
  rw [tc_bind]
  refine wpAny_bind (wpAny_pure (wpAny_bind (wpAny_pure ?_)))
  refine wpAny_pure (a := Fin.again (.call (.builtin "type.__call__") ⟨.ref C :: rest, []⟩)) (And.intro rfl ?_)
  refine codeAny_call_builtin_at (Code.quiet_builtin _ (by decide +kernel)) entry_typeCall (check_slot tc_kind tc_split typ (tc_args _ _ _) ?_)
  unfold Builtin.«type.__call__»
  have hm : Looks (model prog w) h (mroOf (.ref C)) cd.mro := ((Looks.ld (part := none) hC).andThen .now).andThen .now
  repeat (first | simp only [e4, Bool.false_eq_true, if_false] | with_reducible refine wpAny_call ?_ | lk)
  refine lnew Y' ?_
  have k : ∀ b o, h.get? b = some o → ((h.push emptyDict).push (rowObj C h.objs.size)).get? b = some o := fun b o e => Heap.get?_push_of_some _ (Heap.get?_push_of_some _ e)
  have hx : ((h.push emptyDict).push (rowObj C h.objs.size)).get? (h.objs.size + 1) = some (rowObj C h.objs.size) := by heap_get
  have t1 : Looks (model prog w) ((h.push emptyDict).push (rowObj C h.objs.size)) (typeOf (.ref (h.objs.size + 1))) (.ref C) := (Looks.ld hx).andThen .now
  have s1 := self.keeps k
  have i1 := hi.keeps k
  have b1 := (hb (.ref (h.objs.size + 1))).keeps k
  unfold isInstance callSpecial? specialOf
  repeat (first | with_reducible refine wpAny_call ?_ | lk)
  refine codeAny_mono hq fun r s' z => ?_
  rcases r with e | (v | _ | _ | _) <;> first | exact z | exact z.elim | skip
  obtain ⟨rfl, z⟩ := z
  exact wpAny_pure (wpAny_pure z)
end
end VC
namespace VC
open PySem PySem.W PyProof.Rows PySem.Calls PySem.Spec PySem.Builtin PySem.Builtin.Str PySem.SeqAt

/-! ### super() of a class on list: its builtin methods, bound -/
noncomputable def boundObj (T : String) (id : String) (x : Addr) : Obj := { cls := .type T, data := .fields #[.builtin id, .ref x] }

section
variable {prog : Program} {w : World} {A : Around} {E : Value → Shared → Prop} {h : Heap} {g : Array GenState} {d : Drawn} {t : Nat} {os : OsState} {C x : Addr} {ox : Obj}

theorem entry_mdget : entryFor table "method_descriptor.__get__" = some Builtin.«method_descriptor.__get__» := entryFor_of_tree (by kernel_rfl)
theorem entry_wdget : entryFor table "wrapper_descriptor.__get__" = some Builtin.«wrapper_descriptor.__get__» := entryFor_of_tree (by kernel_rfl)
theorem type_list_pop : typeOf (.builtin "list.pop") = pure (.type "method_descriptor") := by show builtinType _ = _; rw [builtinType_eq_fast]; kernel_rfl
theorem type_list_len : typeOf (.builtin "list.__len__") = pure (.type "wrapper_descriptor") := by show builtinType _ = _; rw [builtinType_eq_fast]; kernel_rfl
theorem type_list_init : typeOf (.builtin "list.__init__") = pure (.type "wrapper_descriptor") := by show builtinType _ = _; rw [builtinType_eq_fast]; kernel_rfl
theorem slot_mdget : Slot "method_descriptor" "__get__" "method_descriptor.__get__" := .of (owner := "method_descriptor") (n := "__get__") (by rw [typeLookup_type, builtinLookup_eq_fast]; kernel_rfl) (by decide +kernel) (by decide +kernel) (by decide +kernel) (.inl (by decide +kernel)) (by rw [isSubtype_type]; kernel_rfl)
theorem slot_wdget : Slot "wrapper_descriptor" "__get__" "wrapper_descriptor.__get__" := .of (owner := "wrapper_descriptor") (n := "__get__") (by rw [typeLookup_type, builtinLookup_eq_fast]; kernel_rfl) (by decide +kernel) (by decide +kernel) (by decide +kernel) (.inl (by decide +kernel)) (by rw [isSubtype_type]; kernel_rfl)
theorem args_mdget (a b c : Value) : argsOk "method_descriptor.__get__" ⟨[a, b, c], []⟩ := by unfold argsOk; kernel_rfl
theorem args_wdget (a b c : Value) : argsOk "wrapper_descriptor.__get__" ⟨[a, b, c], []⟩ := by unfold argsOk; kernel_rfl

/-- what binding one of list's gives -/
structure Binds (prog : Program) (w : World) (h : Heap) (C x : Addr) (id T : String) : Prop where
  tname : ∃ D, typeOf (.builtin id) = pure (.type D) ∧ ∃ gid, typeLookup (.type D) "__get__" = pure (some (.builtin gid)) ∧
    ∀ (A : Around) (E : Value → Shared → Prop) (g : Array GenState) (d : Drawn) (t : Nat) (os : OsState) (Q : Value → Shared → Prop), Q (.ref h.objs.size) ⟨h.push (boundObj T id x), g, d, t, os⟩ → wpAny (model prog w) A (call (.builtin gid) [.builtin id, .ref x, .ref C]) Q E ⟨h, g, d, t, os⟩

theorem sub_list {M : Model} {T : String} {Q : Bool → Shared → Prop} (e : T = "list") (H : Looks M h (isSubtype (.ref C) (.type "list")) true) (q : Q true ⟨h, g, d, t, os⟩) : wpAny M A (isSubtype (.ref C) (.type T)) Q E ⟨h, g, d, t, os⟩ := by
  subst e; exact H.at q

theorem binds_pop (hx : h.get? x = some ox) (hc : ox.cls = .ref C) (hl : Looks (model prog w) h (isSubtype (.ref C) (.type "list")) true) (hT : Looks (model prog w) h (isType (.ref C)) true) : Binds prog w h C x "list.pop" "builtin_function_or_method" := by
  refine ⟨"method_descriptor", type_list_pop, "method_descriptor.__get__", slot_mdget.lookup, fun A E g d t os Q hq => ?_⟩
  refine wpAny_call_entry slot_mdget type_list_pop entry_mdget ?_ (args_mdget _ _ _)
  unfold Builtin.«method_descriptor.__get__»
  repeat (first | (with_reducible refine sub_list (by decide +kernel) hl ?_) | (with_reducible refine nd_load hx ?_) | simp only [hc, Bool.false_eq_true, if_false, if_true, Bool.not_true] | lk)
  exact ⟨_, rfl, hq⟩
theorem binds_len (hx : h.get? x = some ox) (hc : ox.cls = .ref C) (hl : Looks (model prog w) h (isSubtype (.ref C) (.type "list")) true) : Binds prog w h C x "list.__len__" "method-wrapper" := by
  refine ⟨"wrapper_descriptor", type_list_len, "wrapper_descriptor.__get__", slot_wdget.lookup, fun A E g d t os Q hq => ?_⟩
  refine wpAny_call_entry slot_wdget type_list_len entry_wdget ?_ (args_wdget _ _ _)
  unfold Builtin.«wrapper_descriptor.__get__»
  repeat (first | (with_reducible refine sub_list (by decide +kernel) hl ?_) | (with_reducible refine nd_load hx ?_) | simp only [hc, Bool.false_eq_true, if_false, if_true, Bool.not_true] | lk)
  exact ⟨_, rfl, hq⟩
theorem binds_init (hx : h.get? x = some ox) (hc : ox.cls = .ref C) (hl : Looks (model prog w) h (isSubtype (.ref C) (.type "list")) true) : Binds prog w h C x "list.__init__" "method-wrapper" := by
  refine ⟨"wrapper_descriptor", type_list_init, "wrapper_descriptor.__get__", slot_wdget.lookup, fun A E g d t os Q hq => ?_⟩
  refine wpAny_call_entry slot_wdget type_list_init entry_wdget ?_ (args_wdget _ _ _)
  unfold Builtin.«wrapper_descriptor.__get__»
  repeat (first | (with_reducible refine sub_list (by decide +kernel) hl ?_) | (with_reducible refine nd_load hx ?_) | simp only [hc, Bool.false_eq_true, if_false, if_true, Bool.not_true] | lk)
  exact ⟨_, rfl, hq⟩

/-- super's reading of a builtin -/
theorem sup_ga {so D : Addr} {l₀ l : List Value} {K : Frag} {name : Str} {tk : Tok} {id T : String} {Q : Fin → Shared → Prop}
    (hso : h.get? so = some { cls := .type "super", dict := none, data := .fields #[.ref D, .ref x, .ref C], slots := #[] }) (hno : Looks (model prog w) h (opaqueClassAbove (.ref C)) none)
    (hC : Looks (model prog w) h (mroOf (.ref C)) l₀) (hl : (l₀.dropWhile (· != .ref D)).drop 1 = l) (X : K.In h)
    (hf : alongIn K name l = some (some (.builtin id))) (B : Binds prog w h C x id T) (hxC : x ≠ C) (hn : (name == ("__class__" : Str)) = false)
    (hq : Q (.done (.ret (.ref h.objs.size))) ⟨h.push (boundObj T id x), g, d, t, os⟩) :
    wpAny (model prog w) A (Builtin.«super.__getattribute__» ⟨[.ref so, .str name tk], []⟩) Q E ⟨h, g, d, t, os⟩ := by
  obtain ⟨DT, hDT, gid, hgid, hbind⟩ := B.tname
  have hne : (Value.ref x == Value.ref C) = false := by simp [hxC]
  have hdt : ({ cls := .type "super", dict := none, data := .fields #[.ref D, .ref x, .ref C], slots := #[] } : Obj).data = .fields #[.ref D, .ref x, .ref C] := rfl
  have f0 : (#[.ref D, .ref x, .ref C] : Array Value)[0]? = some (.ref D) := rfl
  have f1 : (#[.ref D, .ref x, .ref C] : Array Value)[1]? = some (.ref x) := rfl
  have f2 : (#[.ref D, .ref x, .ref C] : Array Value)[2]? = some (.ref C) := rfl
  unfold Builtin.«super.__getattribute__»
  repeat (first
    | (with_reducible refine wpAny_field hso hdt f0 ?_) | (with_reducible refine wpAny_field hso hdt f1 ?_) | (with_reducible refine wpAny_field hso hdt f2 ?_)
    | (with_reducible refine ks_wpAny_notOpaque hno ?_)
    | (with_reducible refine Looks.at hC ?_; rw [hl])
    | (refine ks_forIn_along X (fun _ _ => rfl) rfl ?_ hf)
    | (with_reducible refine wpAny_of_eq hDT ?_)
    | (with_reducible refine wpAny_of_eq hgid ?_)
    | (with_reducible refine hbind _ _ _ _ _ _ _ ?_)
    | (with_reducible refine ⟨_, rfl, ?_⟩)
    | (simp only [hn, hne, Bool.or_false, Bool.false_eq_true, if_false])
    | wp_step
    | dsimp only)
  all_goals exact hq

theorem sup_getMethod {so D : Addr} {l₀ l : List Value} {K : Frag} {name : Str} {pl : Sem Bool} {id T : String} {Q : Value × List Value → Shared → Prop}
    (hso : h.get? so = some { cls := .type "super", dict := none, data := .fields #[.ref D, .ref x, .ref C], slots := #[] }) (hno : Looks (model prog w) h (opaqueClassAbove (.ref C)) none)
    (hC : Looks (model prog w) h (mroOf (.ref C)) l₀) (hl : (l₀.dropWhile (· != .ref D)).drop 1 = l) (X : K.In h)
    (hf : alongIn K name l = some (some (.builtin id))) (B : Binds prog w h C x id T) (hxC : x ≠ C) (hn : (name == ("__class__" : Str)) = false)
    (hq : Q (.ref h.objs.size, []) ⟨h.push (boundObj T id x), g, d, t + 1, os⟩) :
    wpAny (model prog w) A (getMethod (.ref so) name pl) Q E ⟨h, g, d, t, os⟩ := by
  have hlk := PySem.F.ks_slot_super_ga.lookup
  have hcan := PySem.F.ks_canon_super_ga
  have hT : ∀ t', (⟨h, g, d, t', os⟩ : Shared).TypeIs (.ref so) "super" := fun _ => ⟨_, hso, rfl⟩
  unfold getMethod
  refine wpAny_bind (wpAny_specialOf (hT _) hlk ?_)
  show wpAny _ _ (if (Manifest.canonical "super.__getattribute__" != "object.__getattribute__") = true then _ else _) _ _ _
  rw [if_pos hcan]
  unfold getAttr getAttrBy
  refine wpAny_bind (wpAny_bind (wpAny_mkText (wpAny_holding (wpAny_bind (wpAny_typeOf (hT _) (wpAny_bind (wpAny_of_eq hlk ?_)))))))
  show wpAny _ _ (getAttrByItsOwn (.ref so) (.str name t) (.type "super") (.builtin "super.__getattribute__") true false) _ _ _
  unfold getAttrByItsOwn hookBefore callGetattribute boundAndCalled
  refine wpAny_bind (wpAny_of_eq (show (if onTheHeap (.type "super") then typeLookup (.type "super") "__getattr__" else pure none) = pure none from rfl) ?_)
  refine wpAny_bind (wpAny_attempt (wpAny_holding ?_))
  show wpAny _ _ (bindSpecial (.builtin "super.__getattribute__") (.ref so) >>= _) _ _ _
  refine wpAny_bind (wpAny_of_eq (PySem.F.ks_slot_super_ga.bind _) ?_)
  refine wpAny_mono (Q := fun v s' => v = .ref h.objs.size ∧ s' = ⟨h.push (boundObj T id x), g, d, t + 1, os⟩) (E := fun _ _ => False)
    (wpAny_call_entry PySem.F.ks_slot_super_ga (hT _) PySem.F.ks_entry_super_ga (sup_ga hso hno hC hl X hf B hxC hn ⟨_, rfl, rfl, rfl⟩) (PySem.F.ks_gaArgs_super _ _)) (fun v s' hv => ?_) fun _ _ z => z.elim
  obtain ⟨rfl, rfl⟩ := hv
  exact wpAny_pure (wpAny_pure hq)
end
section
variable {prog : Program} {w : World} {M : Model} {A : Around} {E : Value → Shared → Prop} {h : Heap} {g : Array GenState} {d : Drawn} {t : Nat} {os : OsState} {C x : Addr} {ox : Obj}
theorem bc_pop {cd : ClassData} {Q : Unit → Shared → Prop} (hx : h.get? x = some ox) (hc : ox.cls = .ref C) (hnc : ∀ c, ox.data ≠ .cls c) (hm : Looks M h (isSubtype (.ref C) (.type "module")) false) (hcd : Looks M h (classData C) cd) (hT : Looks M h (typeOf (.ref C)) (.type "type")) (hf : (toString cd.qualname.toString ++ toString "." ++ toString (Bind.lastOf "list.pop") != "*") = true) (hq : Q () ⟨h, g, d, t, os⟩) :
    wpAny M A (checkBoundCall "list.pop" ⟨[.ref x], []⟩) Q E ⟨h, g, d, t, os⟩ := by
  unfold checkBoundCall
  repeat (first | (with_reducible refine Looks.at hm ?_) | (with_reducible refine Looks.at hcd ?_) | (with_reducible refine Looks.at hT ?_) | (with_reducible refine ks_wpAny_isType_inst hx hnc ?_) | (with_reducible refine nd_load hx ?_) | simp only [hc, Bool.false_eq_true, if_false, if_true, Bool.not_true] | lk)
  rw [if_pos hf]
  refine wpAny_pure ?_
  repeat (first | (with_reducible refine Looks.at hm ?_) | lk)
  exact hq
theorem bc_len {cd : ClassData} {Q : Unit → Shared → Prop} (hx : h.get? x = some ox) (hc : ox.cls = .ref C) (hnc : ∀ c, ox.data ≠ .cls c) (hm : Looks M h (isSubtype (.ref C) (.type "module")) false) (hcd : Looks M h (classData C) cd) (hT : Looks M h (typeOf (.ref C)) (.type "type")) (hq : Q () ⟨h, g, d, t, os⟩) :
    wpAny M A (checkBoundCall "list.__len__" ⟨[.ref x], []⟩) Q E ⟨h, g, d, t, os⟩ := by
  unfold checkBoundCall
  repeat (first | (with_reducible refine Looks.at hm ?_) | (with_reducible refine Looks.at hcd ?_) | (with_reducible refine Looks.at hT ?_) | (with_reducible refine ks_wpAny_isType_inst hx hnc ?_) | (with_reducible refine nd_load hx ?_) | simp only [hc, Bool.false_eq_true, if_false, if_true, Bool.not_true] | lk)
  exact hq
theorem bc_init {cd : ClassData} {Q : Unit → Shared → Prop} (hx : h.get? x = some ox) (hc : ox.cls = .ref C) (hnc : ∀ c, ox.data ≠ .cls c) (hm : Looks M h (isSubtype (.ref C) (.type "module")) false) (hcd : Looks M h (classData C) cd) (hT : Looks M h (typeOf (.ref C)) (.type "type")) (hq : Q () ⟨h, g, d, t, os⟩) :
    wpAny M A (checkBoundCall "list.__init__" ⟨[.ref x], []⟩) Q E ⟨h, g, d, t, os⟩ := by
  unfold checkBoundCall
  repeat (first | (with_reducible refine Looks.at hm ?_) | (with_reducible refine Looks.at hcd ?_) | (with_reducible refine Looks.at hT ?_) | (with_reducible refine ks_wpAny_isType_inst hx hnc ?_) | (with_reducible refine nd_load hx ?_) | simp only [hc, Bool.false_eq_true, if_false, if_true, Bool.not_true] | lk)
  exact hq
end

section
variable {prog : Program} {w : World} {A : Around} {E : Value → Shared → Prop} {s : Shared} {b x : Addr}
theorem bound_call {id T : String} {B : Builtin} {Q : Value → Shared → Prop} (hb : s.heap.get? b = some (boundObj T id x)) (hT : T = "builtin_function_or_method" ∨ T = "method-wrapper")
    (hc : ∀ (Q' : Unit → Shared → Prop) (E' : Value → Shared → Prop), Q' () s → wpAny (model prog w) A.in1 (checkBoundCall id ⟨[.ref x], []⟩) Q' E' s) (plain : plainId id = true) (entry : entryFor table id = some B)
    (h : wpAny (model prog w) A.in1 (B ⟨[.ref x], []⟩) (Done prog w A Q E) (fun e s' => wants Q E (.error e) s') s) : wpAny (model prog w) A (call (.ref b) []) Q E s := by
  refine wpAny_call (codeAny_of_tree ?_)
  show wpAny _ A.in1 (callAny (.ref b) ⟨[], []⟩) _ _ _
  unfold callAny
  refine wpAny_bind (wpAny_load hb ?_)
  have fin : wpAny (model prog w) A.in1 (do checkBoundCall id ⟨[.ref x], []⟩; again (.builtin id ⟨[.ref x], []⟩)) (Done prog w A Q E) (fun e s' => wants Q E (.error e) s') s := by
    refine wpAny_bind (hc _ _ (wpAny_pure ⟨plainId_quiet plain _, codeAny_builtin entry ?_⟩))
    rw [Around.under_plainId plain _]
    exact h
  rcases hT with rfl | rfl
  · exact fin
  · exact fin
theorem bound_callWith {env : Env} {pos : Pos} {id T : String} {Q : Value → Shared → Prop} (hb : s.heap.get? b = some (boundObj T id x)) (hT : T = "builtin_function_or_method" ∨ T = "method-wrapper")
    (h : wpAny (model prog w) A (call (.ref b) ([] ++ [])) Q E s) : wpAny (model prog w) A (callWith pos (.ref b) [] (backTo pos (starEach [] env)) []) Q E s := by
  refine callWith_of (P := fun h => h.get? b = some (boundObj T id x)) rfl (fun h' e => ⟨.machine, .inr (.inl rfl), ?_⟩) (evalArgs_nil3 ⟨hb, h⟩)
  refine (Looks.ld (part := none) e).andThen ?_
  rcases hT with rfl | rfl <;> exact .now
end
end VC
namespace VC
open PySem PySem.W PyProof.Rows PySem.Calls PySem.Spec PySem.Builtin PySem.Builtin.Str PySem.SeqAt

section
variable {P : PE} {fe : FE} {n : Nat} {loc : Loc} {hp : List AO} {K : LV → List AO → Prop} {Kf : Fl → Loc → List AO → Prop} {X : Fx} {m : Str → Option Value} {θ : List Addr} {s s' : Shared}

/-- one handle's thing turns; the frame's object may turn -/
theorem SR.putL (S : SR P fe X m loc hp θ s) {i : Nat} {a : Addr} {ao : AO} (hi : θ[i]? = some a) (F' : Fr X.g X.L s'.heap m) (k : ∀ (b : Addr) (o : Obj), b ≠ a → b ≠ X.L → s.heap.get? b = some o → s'.heap.get? b = some o) (r : KT s.heap s'.heap → ORel P s'.heap θ ao a) (hacc : ∀ d vs, ao = .acc d vs → d < i) (bare : AllBare s'.gens) (ho : s'.os = s.os) :
    SR P fe X m loc (hp.set i ao) θ s' ∧ St X.L θ s θ s' := by
  have ha := List.mem_of_getElem? hi
  have st : St X.L θ s θ s' := ⟨List.prefix_refl _, fun b o hl h e => k b o (fun q => h (q ▸ ha)) hl e, fun b hb => .inl hb, ho⟩
  have kt := S.kt st
  refine ⟨⟨F', fun x lv e => let ⟨v, e1, r⟩ := S.loc x lv e; ⟨v, e1, LRel.mono kt st.pre _ r⟩,
    ⟨by rw [List.length_set]; exact S.H.len, S.H.nd, ?_, ?_⟩, S.free, bare, S.cells⟩, st⟩
  · intro j b ao' e1 e2
    by_cases hj : j = i
    · subst hj
      rw [hi] at e1; cases e1
      rw [List.getElem?_set_self (by rw [← S.H.len]; exact (List.getElem?_eq_some_iff.mp hi).1)] at e2
      cases e2
      exact r kt
    · rw [List.getElem?_set_ne (Ne.symm hj)] at e2
      refine ORel.keep kt st.pre _ (fun o e => k b o (fun q => ?_) (S.free b (List.mem_of_getElem? e1)).2 e) (S.H.obj j b ao' e1 e2)
      subst q
      obtain ⟨h1, q1⟩ := List.getElem?_eq_some_iff.mp e1
      obtain ⟨h2, q2⟩ := List.getElem?_eq_some_iff.mp hi
      have nd := List.pairwise_iff_getElem.mp S.H.nd
      rcases Nat.lt_trichotomy j i with h | h | h
      · exact nd j i h1 h2 h (q1.trans q2.symm)
      · exact hj h
      · exact nd i j h2 h1 h (q2.trans q1.symm)
  · intro j d vs e
    by_cases hj : j = i
    · subst hj
      rw [List.getElem?_set] at e
      split at e
      · split at e
        · exact hacc d vs (Option.some.inj e)
        · cases e
      · exact absurd rfl ‹_›
    · rw [List.getElem?_set_ne (Ne.symm hj)] at e
      exact S.H.accd j d vs e

/-! ### a def is entered: its defaults, too; with or without its class -/
noncomputable def clV (cc : Option Addr) : List (Str × Addr) := match cc with
  | none => []
  | some a => [(Str.ofString "__class__", a)]
/-- the body, known that it is the code that runs -/
noncomputable def TXS (P : PE) (fe : FE) (n : Nat) (cc : Option Addr) (body : List Stmt) (loc : Loc) (hp : List AO) (Kf : Fl → Loc → List AO → Prop) : Prop :=
  ∀ (X : Fx) (m : Str → Option Value) (θ : List Addr) (s : Shared) (Q : Flow → Shared → Prop) (E : Value → Shared → Prop), Cx P fe n X → X.cl = clV cc → SR P fe X m loc hp θ s →
    (∀ f fl loc' hp' m' θ' s', Kf fl loc' hp' → SR P fe X m' loc' hp' θ' s' → FRel s'.heap θ' fl f → St X.L θ s θ' s' → Q f s') → _root_.PySem.wpAt (model P.prog P.w) X.A (.func body (fe.env X)) (execs body (fe.env X)) Q E s
theorem TXS.of {cc : Option Addr} {body : List Stmt} (h : TXs P fe n body loc hp Kf) : TXS P fe n cc body loc hp Kf := fun X m θ s Q E C _ S kk => wpAt_of_wpAny (h X m θ s Q E C S kk)

theorem LRels.append {h : Heap} {θ : List Addr} : ∀ {as bs : List LV} {vs ws : List Value}, LRels h θ as vs → LRels h θ bs ws → LRels h θ (as ++ bs) (vs ++ ws)
  | [], _, _, _, a, b => by cases a; exact b
  | _ :: _, _, _, _, a, b => by
    obtain ⟨w, ws', e, r1, r2⟩ := a
    subst e
    exact ⟨w, _, rfl, r1, r2.append b⟩

/-- a call's code, from any frame -/
noncomputable def TCC (P : PE) (n : Nat) (f : Value) (as : List LV) (hp : List AO) (K : LV → List AO → Prop) : Prop :=
  ∀ (fe : FE) (X : Fx) (m : Str → Option Value) (loc : Loc) (θ : List Addr) (s : Shared) (R : Result → Shared → Prop) (vals : List Value), Cx P fe n X → SR P fe X m loc hp θ s → LRels s.heap θ as vals →
    Kt P fe X m loc θ s K (fun v s' => R (.ok (.ret v)) s') → codeAny (model P.prog P.w) X.A (.call f ⟨vals, []⟩) R s
theorem TC.of {f : Value} {as : List LV} (h : TCC P n f as hp K) : TC P n f as hp K := fun fe X m loc θ s Q E vals C S rs kk => wpAny_call (h fe X m loc θ s _ vals C S rs kk)
theorem TCC_enterS {f : Addr} {oc : Value} {od : Option Addr} {osl : Array (Option Value)} {name qual : Str} {params : Arguments} {body : List Stmt} {scope : Scope} {cc : Option Addr} {dV kV doc pm cdv ct : Value} {an : Option Addr} {as ds : List LV} {dvs : List Value} {names : List Str}
    (ho : P.K.lookup f = some ⟨oc, od, .func (fnX name qual params body scope (clV cc) dV kV doc pm an cdv ct), osl⟩) (hcd : codeIn P.K cdv qual = true)
    (hbind : ∀ (s : Shared) (vals : List Value), P.K.In s.heap → vals.length = as.length → BindsTo s (fnX name qual params body scope (clV cc) dV kV doc pm an cdv ct) ⟨vals, []⟩ (names.zip (vals ++ dvs)))
    (hds : ∀ h θ, LRels h θ ds dvs)
    (hnd : names.Nodup) (hloc : ∀ x ∈ names, scope.names.lookup x = some .local) (hcell : ∀ x ∈ scope.names, x.2 ≠ .cell) (hco : scope.isCoroutine = false) (hgen : scope.isGenerator = false) (hk : scope.kind = .function)
    (h : TXS P ⟨qual, scope, f, cdv, [], false⟩ n cc body (names.zip (as ++ ds)) hp (Back K)) : TCC P (n + 1) (.ref f) as hp K := by
  intro fe X m loc θ s R vals C S rs kk
  obtain ⟨outer, A₀, base, hA, B⟩ := C.below
  have N : News X.g X.L s.heap (newsOf s.heap θ) := fun p hp => let ⟨h1, h2⟩ := newsOf_mem hp; ⟨h2, (S.free _ h1).2, (S.free _ h1).1⟩
  have hN : (newsOf s.heap θ).map (·.1) = θ := newsOf_map fun a ha => let ⟨o, e, _⟩ := S.H.mem ha; ⟨o, e⟩
  obtain ⟨_, BG, stG, _⟩ := groundX (R := fun _ _ => True) B S.fr N hA rfl C.kind
  rw [hN] at BG stG
  have X₀ := C.gd.1.keeps S.fr.keep
  have rs2 : LRels s.heap θ (as ++ ds) (vals ++ dvs) := rs.append (hds _ _)
  refine ks_codeAny_call_defAt (fd := fnX name qual params body scope (clV cc) dV kV doc pm an cdv ct) (body := body) (binds := names.zip (vals ++ dvs)) (by have := C.dep; omega) (X₀ _ _ ho) rfl (C.gd.2.nolimit.keeps S.fr.keep) (codeRec_of X₀ hcd) rfl
    (hbind s vals X₀ rs.length) hcell (fun y hy => hloc _ (List.of_mem_zip hy).1) (fun h₁ hns hk₁ => ?_) hco hgen hk
  let X' : Fx := ⟨X.A.deeper (envX qual scope s.heap.objs.size f cdv (clV cc)), hideAll s.heap θ, s.heap.objs.size, clV cc⟩
  let fe' : FE := ⟨qual, scope, f, cdv, [], false⟩
  have C' : Cx P fe' n X' := ⟨C.hA, by have := C.dep; show X.A.depth + 1 + _ < _; omega, by have := C.un; show X.A.units + 3 + _ < _; omega, C.gd.keeps stG, C.sc.keeps stG, ⟨_, _, _, Around.frames_deeper hA, BG⟩, hk, fun q => by cases q⟩
  have kp : ∀ (b : Addr) (o : Obj), s.heap.get? b = some o → h₁.get? b = some o := hk₁
  have S' : SR P fe' X' (fun x => (names.zip (vals ++ dvs)).reverse.lookup x) (names.zip (as ++ ds)) hp θ { s with heap := h₁, toks := s.toks + (names.zip (vals ++ dvs)).length } := by
    refine ⟨⟨hns, fun b o e => hk₁ b o (of_hideAll _ e), Nat.le_of_eq (hideAll_size _ _)⟩, fun x lv e => ?_, ⟨S.H.len, S.H.nd, fun i a ao e1 e2 => ORel.keep (KT.of_keep kp) (List.prefix_refl _) _ (fun o e => kp a o e) (S.H.obj i a ao e1 e2), S.H.accd⟩, fun a ha => ⟨hideAll_none _ ha, ?_⟩, S.bare, fun x k e => by cases e⟩
    · obtain ⟨v, e1, r⟩ := zip_rel rs2 x lv e
      exact ⟨v, by rw [zip_lookup hnd]; exact e1, LRel.mono (KT.of_keep kp) (List.prefix_refl _) _ r⟩
    · exact Nat.ne_of_lt (S.lt ha)
  refine h X' _ θ _ _ _ C' rfl S' fun fl f' loc3 hp3 m3 θ3 s3 h3 S3 r3 st3 => ?_
  have hL' : s.heap.get? s.heap.objs.size = none := by
    cases e : s.heap.get? s.heap.objs.size with
    | none => rfl
    | some o => exact absurd (Heap.lt_size e) (Nat.lt_irrefl _)
  obtain ⟨S4, st4⟩ := S.back S3 st3.pre (fun b o hb e => st3.keep b o (fun (q : b = s.heap.objs.size) => by rw [q, hL'] at e; cases e) hb (kp b o e)) (fun a ha => by
    rcases st3.fresh a ha with q | q
    · exact .inl q
    · refine .inr ?_
      cases e : s.heap.get? a with
      | none => rfl
      | some o =>
        have q' : h₁.get? a = none := q
        rw [kp a o e] at q'; cases q') st3.os
  cases f' with
  | ret lv =>
    obtain ⟨v, rfl, r3⟩ := r3
    exact kk v lv hp3 θ3 s3 h3 S4 r3 st4
  | next => cases r3; exact kk _ _ hp3 θ3 s3 h3 S4 (show VRel s3.heap .none Value.none from rfl) st4
  | brk => exact h3.elim
  | cont => exact h3.elim


theorem TC_enterS {f : Addr} {oc : Value} {od : Option Addr} {osl : Array (Option Value)} {name qual : Str} {params : Arguments} {body : List Stmt} {scope : Scope} {cc : Option Addr} {dV kV doc pm cdv ct : Value} {an : Option Addr} {as ds : List LV} {dvs : List Value} {names : List Str}
    (ho : P.K.lookup f = some ⟨oc, od, .func (fnX name qual params body scope (clV cc) dV kV doc pm an cdv ct), osl⟩) (hcd : codeIn P.K cdv qual = true)
    (hbind : ∀ (s : Shared) (vals : List Value), P.K.In s.heap → vals.length = as.length → BindsTo s (fnX name qual params body scope (clV cc) dV kV doc pm an cdv ct) ⟨vals, []⟩ (names.zip (vals ++ dvs)))
    (hds : ∀ h θ, LRels h θ ds dvs)
    (hnd : names.Nodup) (hloc : ∀ x ∈ names, scope.names.lookup x = some .local) (hcell : ∀ x ∈ scope.names, x.2 ≠ .cell) (hco : scope.isCoroutine = false) (hgen : scope.isGenerator = false) (hk : scope.kind = .function)
    (h : TXS P ⟨qual, scope, f, cdv, [], false⟩ n cc body (names.zip (as ++ ds)) hp (Back K)) : TC P (n + 1) (.ref f) as hp K := TC.of (TCC_enterS ho hcd hbind hds hnd hloc hcell hco hgen hk h)

/-! ### instances -/
theorem acc_at (S : SR P fe X m loc hp θ s) {k d : Nat} {vs : List PV} {i : Option Int} (hk : hp[k]? = some (.acc d vs)) (hd : hp[d]? = some (.dct i)) :
    ∃ a o ws nn dx od, θ[k]? = some a ∧ θ[d]? = some dx ∧ o.dict = some dx ∧ s.heap.get? dx = some od ∧ AccAt s.heap a o P.C ws nn od ∧ VRels s.heap vs ws.toList ∧ ORel P s.heap θ (.dct i) dx := by
  obtain ⟨a, ea, o, ws, nn, dx, e1, e2, e3, e4, e5, rs⟩ := S.H.at hk
  have rd := S.H.obj d dx _ e1 hd
  have hod : ∃ od, s.heap.get? dx = some od := by
    cases i with
    | none => exact ⟨_, rd⟩
    | some i => obtain ⟨tk, t, n', e⟩ := rd; exact ⟨_, e⟩
  obtain ⟨od, hod⟩ := hod
  exact ⟨a, o, ws, nn, dx, od, ea, e1, e4, hod, ⟨⟨e2, e3, by unfold notCls; rw [e5], by rw [e4]; exact hod⟩, e5⟩, rs, rd⟩
theorem dct_look {h : Heap} {dx : Addr} {od : Obj} {i : Option Int} {name : Str} (hod : h.get? dx = some od) (r : ORel P h θ (.dct i) dx) (hn : (IK == name) = false) : lookIn name od = some none := by
  cases i with
  | none =>
    have r : h.get? dx = some (dictOf [] 0) := r
    rw [hod] at r; cases r; rfl
  | some i =>
    obtain ⟨tk, t, n', e⟩ := r
    rw [hod] at e; cases e
    rw [lookIn_dict]
    have hs : (Value.str IK tk).isStr name = false := hn
    have hr : (⟨PyData.keyHash P.w.params IK, .str IK tk, .int i t⟩ : DictEntry).refKey = false := rfl
    simp [getL, hs, hr]

/-- a method of its own is called -/
theorem TE_MethF0 {o : PySem.Expr} {nm : Str} {apos pos : Pos} {f : Addr} (n' : Nat) (H : AccF P.K P.C) (hf : findIn P.K (.ref P.C) nm = some (some (.ref f))) (ht : typeIn P.K (.ref f) = some (.type "function")) (hkeep : keepIn P.K (.ref f) = true) (hn : (IK == nm) = false) (hle : n' ≤ n)
    (hbase : ∀ env, attributeBase o nm env (eval o env) = eval o env) (hline : (apos.endLine == pos.line) = true)
    (h : TE P fe n o loc hp fun ov hp1 => ∃ k d vs i, ov = .o k ∧ hp1[k]? = some (.acc d vs) ∧ hp1[d]? = some (.dct i) ∧ TC P n' (.ref f) [.o k] hp1 K) : TE P fe n (.Call (.Attribute o nm apos) [] [] pos) loc hp K := by
  intro X m θ s Q E C S kk
  refine MethodCall_ (h X m θ s _ E C S fun v lv hp1 θ1 s1 h1 S1 r1 st1 => ?_) (meth_eq (hbase _) rfl hline)
  obtain ⟨k, d, vs, i, rfl, hk, hd, h1⟩ := h1
  obtain ⟨a, o, ws, nn, dx, od, ea, edx, hdx, hod, I, rs, rd⟩ := acc_at S1 hk hd
  obtain ⟨a', ea', rfl⟩ := r1
  rw [ea] at ea'; cases ea'
  have X1 := C.gd.1.keeps S1.fr.keep
  refine acc_method H X1 I hf (.inl ht) (dct_look hod rd hn) ?_
  refine callWith_K0 X1 hkeep ?_
  exact h1 fe X m loc θ1 s1 Q E _ (C.mono hle) S1 ⟨_, _, rfl, ⟨a, ea, rfl⟩, rfl⟩ fun v lv hp3 θ3 s3 h3 S3 r3 st3 => kk _ _ _ _ _ h3 S3 r3 (st1.trans S1 st3)
theorem TE_MethF1 {o e1 : PySem.Expr} {r : List PySem.Expr} {nm : Str} {apos pos : Pos} {f : Addr} (n' : Nat) (H : AccF P.K P.C) (hf : findIn P.K (.ref P.C) nm = some (some (.ref f))) (ht : typeIn P.K (.ref f) = some (.type "function")) (hkeep : keepIn P.K (.ref f) = true) (hn : (IK == nm) = false) (hle : n' ≤ n)
    (hbase : ∀ env, attributeBase o nm env (eval o env) = eval o env) (hform : ∀ env, methodCallForm ((e1 :: r).length + 0) (backTo pos (starEach (e1 :: r) env)) [] = true) (hline : (apos.endLine == pos.line) = true)
    (he : ∀ env, starEach (e1 :: r) env = (false, eval e1 env) :: starEach r env) (hpl : ∀ env, (backTo pos (starEach r env)).any (·.1) = false)
    (h : TE P fe n o loc hp fun ov hp1 => ∃ k d vs i, ov = .o k ∧ hp1[k]? = some (.acc d vs) ∧ hp1[d]? = some (.dct i) ∧ TA P fe n (e1 :: r) loc hp1 fun as hp2 => TC P n' (.ref f) (.o k :: as) hp2 K) : TE P fe n (.Call (.Attribute o nm apos) (e1 :: r) [] pos) loc hp K := by
  intro X m θ s Q E C S kk
  refine MethodCall_ (h X m θ s _ E C S fun v lv hp1 θ1 s1 h1 S1 r1 st1 => ?_) (meth_eq (hbase _) (hform _) hline)
  obtain ⟨k, d, vs, i, rfl, hk, hd, h1⟩ := h1
  obtain ⟨a, o, ws, nn, dx, od, ea, edx, hdx, hod, I, rs, rd⟩ := acc_at S1 hk hd
  obtain ⟨a', ea', rfl⟩ := r1
  rw [ea] at ea'; cases ea'
  have X1 := C.gd.1.keeps S1.fr.keep
  refine acc_method H X1 I hf (.inl ht) (dct_look hod rd hn) ?_
  refine callWith_K C.gd.1 hkeep (h1 X m θ1 s1 _ _ pos C S1 fun vs' as hp2 θ2 s2 h2 S2 r2 st2 => ⟨C.gd.1.keeps S2.fr.keep, ?_⟩) (he _) (hpl _)
  exact h2 fe X m loc θ2 s2 Q E _ (C.mono hle) S2 ⟨_, _, rfl, ⟨a, pre_get st2.pre ea, rfl⟩, r2⟩ fun v lv hp3 θ3 s3 h3 S3 r3 st3 => kk _ _ _ _ _ h3 S3 r3 ((st1.trans S1 st2).trans S2 st3)

/-- an object's row has turned -/
theorem acc_put (S : SR P fe X m loc hp θ s) {k d : Nat} {vs vs' : List PV} {a : Addr} {o od : Obj} {ws : Array Value} {nn : Nat} {f : Array Value → Array Value} (hk : hp[k]? = some (.acc d vs)) (ea : θ[k]? = some a) (I : AccAt s.heap a o P.C ws nn od) (hdx : ∃ dx, o.dict = some dx ∧ θ[d]? = some dx)
    (rs : VRels s.heap vs' (f ws).toList) : SR P fe X m loc (hp.set k (.acc d vs')) θ { s with heap := s.heap.update a (Obj.mapSeq f) } ∧ St X.L θ s θ { s with heap := s.heap.update a (Obj.mapSeq f) } := by
  obtain ⟨dx, hdx, edx⟩ := hdx
  obtain ⟨n', hd'⟩ := Obj.data_mapSeq I.data f
  have hget : (s.heap.update a (Obj.mapSeq f)).get? a = some (o.mapSeq f) := Heap.get?_update_self _ I.inst.at_ (by
    obtain ⟨c, d, dt, sl⟩ := o
    have e : dt = .seq ws nn := I.data
    subst e; rfl)
  have hdict : (o.mapSeq f).dict = o.dict := by
    obtain ⟨c, d, dt, sl⟩ := o
    have e : dt = .seq ws nn := I.data
    subst e; rfl
  refine S.put (ao := .acc d vs') ea (fun b o' hb e => (Heap.get?_update_other _ _ (Ne.symm hb)).trans e) (fun kt => ⟨_, f ws, n', dx, edx, hget, (Obj.cls_mapSeq ..).trans I.inst.cls, hdict.trans hdx, hd', VRels.mono kt _ rs⟩) (fun d' vs'' e => by cases e; exact S.H.accd k d vs hk) S.bare rfl

/-- list's append, on an object -/
theorem TE_Append {o e1 : PySem.Expr} {apos pos : Pos} (H : AccF P.K P.C) (hbase : ∀ env, attributeBase o (Str.ofString "append") env (eval o env) = eval o env) (hform : ∀ env, methodCallForm ([e1].length + 0) (backTo pos (starEach [e1] env)) [] = true) (hline : (apos.endLine == pos.line) = true)
    (he : ∀ env, starEach [e1] env = [(false, eval e1 env)])
    (h : TE P fe n o loc hp fun ov hp1 => ∃ k d vs i, ov = .o k ∧ hp1[k]? = some (.acc d vs) ∧ hp1[d]? = some (.dct i) ∧ TE P fe n e1 loc hp1 fun av hp2 => ∃ vs2 i2 p, av = .v p ∧ hp2[k]? = some (.acc d vs2) ∧ hp2[d]? = some (.dct i2) ∧ vs2.length ≤ 100000 ∧ K (.v .none) (hp2.set k (.acc d (vs2 ++ [p])))) :
    TE P fe n (.Call (.Attribute o (Str.ofString "append") apos) [e1] [] pos) loc hp K := by
  intro X m θ s Q E C S kk
  refine MethodCall_ (h X m θ s _ E C S fun v lv hp1 θ1 s1 h1 S1 r1 st1 => ?_) (meth_eq (hbase _) (hform _) hline)
  obtain ⟨k, d, vs, i, rfl, hk, hd, h1⟩ := h1
  obtain ⟨a, o, ws, nn, dx, od, ea, edx, hdx, hod, I, rs, rd⟩ := acc_at S1 hk hd
  obtain ⟨a', ea', rfl⟩ := r1
  rw [ea] at ea'; cases ea'
  have X1 := C.gd.1.keeps S1.fr.keep
  refine acc_method H X1 I H.append (.inr (by rfl)) (dct_look hod rd (by decide +kernel)) ?_
  refine PyProof.Rows.callWith_method1 ?_ (he _) (by rfl)
  refine wpAny_items_cons (h1 X m θ1 s1 _ E C S1 fun v av hp2 θ2 s2 h2 S2 r2 st2 => wpAny_items_nil ?_) (he _)
  obtain ⟨vs2, i2, p, rfl, hk2, hd2, hsz, h2⟩ := h2
  have ea2 := pre_get st2.pre ea
  obtain ⟨a2, o2, ws2, nn2, dx2, od2, ea3, edx2, hdx2, hod2, I2, rs2, rd2⟩ := acc_at S2 hk2 hd2
  rw [ea2] at ea3; cases ea3
  have hsize : ws2.size = vs2.length := by rw [← rs2.length, Array.length_toList]
  refine acc_append H (C.gd.1.keeps S2.fr.keep) I2 (szl (by omega)) ?_
  obtain ⟨S3, st3⟩ := acc_put (s := s2) S2 (vs' := vs2 ++ [p]) (f := fun xs => xs.push v) hk2 ea2 I2 ⟨dx2, hdx2, edx2⟩ (by
    rw [Array.toList_push]; exact VRels.append rs2 (VRels.cons (h := s2.heap) (p := p) r2 VRels.nil))
  exact kk _ _ _ _ _ h2 S3 (show Value.none = Value.none from rfl) ((st1.trans S1 st2).trans S2 st3)

/-! a cut of an object -/
theorem TSl_acc {value slice : PySem.Expr} {k d : Nat} {vs : List PV} {i : Option Int} {l u st : Option Int} (H : AccF P.K P.C) (hl : hp[k]? = some (.acc d vs)) (hd : hp[d]? = some (.dct i)) (hst : st ≠ some 0) (hs : OpsOk slice) (hsz : vs.length ≤ 100000) (h : K (.o hp.length) (hp ++ [.lst (pickPV vs l u st)])) :
    TSl P fe n value slice (.o k) l u st loc hp K := by
  intro X m θ s Q E vo vl vu vst C S ro pl pu ps kk
  obtain ⟨a, o, ws, nn, dx, od, ea, edx, hdx, hod, I, rs, rd⟩ := acc_at S hl hd
  obtain ⟨a', ea', rfl⟩ := ro
  rw [ea] at ea'; cases ea'
  have hsize : ws.size = vs.length := by rw [← rs.length, Array.length_toList]
  have kp : ∀ (b : Addr) (o : Obj), s.heap.get? b = some o → (s.heap.push { cls := .type "slice", data := .fields #[vl, vu, vst] }).get? b = some o := fun b o e => Heap.get?_push_of_some _ e
  have I' : AccAt (s.heap.push { cls := .type "slice", data := .fields #[vl, vu, vst] }) a o P.C ws nn od := ⟨⟨kp _ _ I.inst.at_, I.inst.cls, I.inst.no, by
    have := I.inst.dict; rw [hdx] at this ⊢; exact kp _ _ this⟩, I.data⟩
  have X1 := (C.gd.1.keeps S.fr.keep).keeps kp
  obtain ⟨ops, hops⟩ := hs (.ref a) (.ref s.heap.objs.size)
  unfold subscriptTail
  refine wpAny_bind ?_
  rw [getitemInPython_of_ne (by intro e; cases e)]
  unfold specialOf
  refine wpAny_bind (wpAny_bind (I'.inst.type.here ((looks_findIn X1 H.getitem).here ?_)))
  refine wpAny_pure ?_
  rw [hops]
  refine wpAny_bind (wpAny_operating ?_)
  refine acc_getslice H X1 I' (Heap.IsSliceOf.new ..) pl pu ps hst (szl (by omega)) ?_
  rw [Heap.size_push]
  refine wpAny_bind (wpAny_letTemporaryGo (wpAny_pure ?_))
  refine kt_list S kk h (fun b o e => Heap.get?_push_of_some _ (Heap.get?_push_of_some _ e)) (get?_size_none _ 1) ⟨{ cls := .type "list", data := .seq (slicePick ws l u st) }, ?_, rfl, _, rfl⟩ (rs.pick l u st) rfl rfl
  have e := Heap.get?_push_size (s.heap.push { cls := .type "slice", data := .fields #[vl, vu, vst] }) (o := { cls := .type "list", data := .seq (slicePick ws l u st) }) rfl
  rw [Heap.size_push] at e
  exact e

/-! a cut of an object is put -/
noncomputable def cutPV (vs : List PV) (lo hi : Option Int) (us : List PV) : List PV :=
  vs.take (sliceBounds lo hi none vs.length).1.toNat ++ us ++ vs.drop (max (sliceBounds lo hi none vs.length).1 (sliceBounds lo hi none vs.length).2.1).toNat
theorem VRels.take {h : Heap} : ∀ {vs : List PV} {ws : List Value}, VRels h vs ws → ∀ k, VRels h (vs.take k) (ws.take k)
  | [], _, r, k => by cases r; simp [VRels]
  | _ :: _, _, r, 0 => rfl
  | _ :: _, _, r, k + 1 => by obtain ⟨w, ws', rfl, r1, r2⟩ := r; exact ⟨w, _, rfl, r1, r2.take k⟩
theorem VRels.drop {h : Heap} : ∀ {vs : List PV} {ws : List Value}, VRels h vs ws → ∀ k, VRels h (vs.drop k) (ws.drop k)
  | [], _, r, k => by cases r; simp [VRels]
  | _ :: _, _, r, 0 => r
  | _ :: _, _, r, k + 1 => by obtain ⟨w, ws', rfl, r1, r2⟩ := r; exact r2.drop k

theorem TX_SetSlice {o e : PySem.Expr} {lower upper : Option PySem.Expr} {sp pos' pos : Pos} (H : AccF P.K P.C) (hs : ∀ X, swapsWith e (some (.Subscript o (.Slice lower upper none sp) pos')) pos.line (fe.env X) = pure false)
    (h : TE P fe n e loc hp fun v hp1 => TE P fe n o loc hp1 fun ov hp2 => TP P fe n lower loc hp2 fun l hp3 => TP P fe n upper loc hp3 fun u hp4 => ∃ k d vs i b us pl pu, ov = .o k ∧ v = .o b ∧ k ≠ b ∧ hp4[k]? = some (.acc d vs) ∧ hp4[d]? = some (.dct i) ∧ hp4[b]? = some (.lst us) ∧
      partOf l = some pl ∧ partOf u = some pu ∧ vs.length + us.length ≤ 100000 ∧ Kf .next loc (hp4.set k (.acc d (cutPV vs pl pu us)))) : TX P fe n (.Assign [.Subscript o (.Slice lower upper none sp) pos'] e pos) loc hp Kf := by
  intro X m θ s Q E C S kk
  refine wpAny_Assign_Subscript (h X m θ s _ E C S fun v lv hp1 θ1 s1 h1 S1 r1 st1 => h1 X m θ1 s1 _ E C S1 fun ov lo hp2 θ2 s2 h2 S2 r2 st2 => ?_) (hs X)
  refine wpAny_Slice (h2.use C S2 fun vl l hp3 θ3 s3 h3 S3 r3 st3 => h3.use C S3 fun vu u hp4 θ4 s4 h4 S4 r4 st4 => ?_)
  refine wpAny_pure ?_
  obtain ⟨k, d, vs, i, b, us, pl, pu, rfl, rfl, hkb, hk, hd, hb, e1, e2, hsz, h5⟩ := h4
  have ro := S3.rel st4 (S2.rel st3 r2)
  have rv := S3.rel st4 (S2.rel st3 (S1.rel st2 r1))
  have rl := S3.rel st4 r3
  obtain ⟨a, o, ws, nn, dx, od, ea, edx, hdx, hod, I, rs, rd⟩ := acc_at S4 hk hd
  obtain ⟨a', ea', rfl⟩ := ro
  rw [ea] at ea'; cases ea'
  obtain ⟨bb, eb, rfl⟩ := rv
  obtain ⟨ys, hL, ry⟩ := S4.H.obj b bb _ eb hb
  have hsize : ws.size = vs.length := by rw [← rs.length, Array.length_toList]
  have hysize : ys.size = us.length := by rw [← ry.length, Array.length_toList]
  have hab : a ≠ bb := fun q => by
    subst q
    obtain ⟨h1, q1⟩ := List.getElem?_eq_some_iff.mp ea
    obtain ⟨h2, q2⟩ := List.getElem?_eq_some_iff.mp eb
    have nd := List.pairwise_iff_getElem.mp S4.H.nd
    rcases Nat.lt_trichotomy k b with h | h | h
    · exact nd k b h1 h2 h (q1.trans q2.symm)
    · exact hkb h
    · exact nd b k h2 h1 h (q2.trans q1.symm)
  have kp : ∀ (b : Addr) (o : Obj), s4.heap.get? b = some o → (s4.heap.push { cls := .type "slice", data := .fields #[vl, vu, .none] }).get? b = some o := fun b o e => Heap.get?_push_of_some _ e
  have I' : AccAt (s4.heap.push { cls := .type "slice", data := .fields #[vl, vu, .none] }) a o P.C ws nn od := ⟨⟨kp _ _ I.inst.at_, I.inst.cls, I.inst.no, by
    have := I.inst.dict; rw [hdx] at this ⊢; exact kp _ _ this⟩, I.data⟩
  have S5 := S4.grow (s' := { s4 with heap := s4.heap.push { cls := .type "slice", data := .fields #[vl, vu, .none] } }) kp S4.bare rfl
  have sg : St X.L θ4 s4 θ4 { s4 with heap := s4.heap.push { cls := .type "slice", data := .fields #[vl, vu, .none] } } := St.grow kp rfl
  refine acc_setslice H ((C.gd.1.keeps S4.fr.keep).keeps kp) I' (hL.push _) hab (Heap.IsSliceOf.new ..) (partOf_is e1 rl) (partOf_is e2 r4) (szl (by omega)) ?_
  obtain ⟨S6, st6⟩ := acc_put (s := { s4 with heap := s4.heap.push { cls := .type "slice", data := .fields #[vl, vu, .none] } }) S5 (vs' := cutPV vs pl pu us) (f := fun xs => xs.extract 0 (sliceBounds pl pu none ws.size).1.toNat ++ ys ++ xs.extract (max (sliceBounds pl pu none ws.size).1 (sliceBounds pl pu none ws.size).2.1).toNat xs.size) hk ea I' ⟨dx, hdx, edx⟩ (by
    have kt : KT s4.heap (s4.heap.push { cls := .type "slice", data := .fields #[vl, vu, .none] }) := KT.of_keep kp
    have rs' := VRels.mono kt _ rs
    have ry' := VRels.mono kt _ ry
    unfold cutPV
    rw [hsize]
    simp only [Array.toList_append, Array.toList_extract, List.extract_eq_take_drop, Nat.sub_zero, List.drop_zero]
    refine ((rs'.take _).append ry').append ?_
    have e : List.take (vs.length - (max (sliceBounds pl pu none vs.length).1 (sliceBounds pl pu none vs.length).2.1).toNat) (List.drop (max (sliceBounds pl pu none vs.length).1 (sliceBounds pl pu none vs.length).2.1).toNat ws.toList) = List.drop (max (sliceBounds pl pu none vs.length).1 (sliceBounds pl pu none vs.length).2.1).toNat ws.toList := by
      refine List.take_of_length_le ?_
      rw [List.length_drop, Array.length_toList, hsize]
      exact Nat.le_refl _
    rw [e]
    exact rs'.drop _)
  exact kk _ _ _ _ _ _ _ h5 S6 rfl (((((st1.trans S1 st2).trans S2 st3).trans S3 st4).trans S4 sg).trans S5 st6)
end
end VC
namespace VC
open PySem PySem.W PyProof.Rows PySem.Calls PySem.Spec PySem.Builtin PySem.Builtin.Str PySem.SeqAt

section
variable {prog : Program} {w : World} {A : Around} {E : Value → Shared → Prop} {s : Shared} {h₀ : Heap} {L : Addr} {m mg mb : Str → Option Value} {news : List (Addr × Obj)} {K : Frag} {p : Program} {loose : List Str} {x C D f f2 cc cda so : Addr} {ox : Obj} {odx : Option Obj}
theorem sup_node {body : List Stmt} {q : Str} {scope : Scope} {p0 p1 : Pos} {attr : Str} {whole : Sem Value} {fd : FuncData} {ar : Arg} {vs : Array Value} {file : Str} {tf : Tok} {oc ccl cl : Value} {od cdd cld : Option Addr} {osl ccs csl : Array (Option Value)} {cdD : ClassData} {Q : Value → Shared → Prop}
    (F : Fr h₀ L s.heap m) (X₀ : K.In h₀) (N : News h₀ L s.heap news) (T : TopRead p loose mg mb h₀)
    (hf : K.lookup f = some ⟨oc, od, .func fd, osl⟩) (hp : (fd.params.posonlyargs ++ fd.params.args).head? = some ar) (hv : m ar.arg = some (.ref x)) (I : InstAt s.heap x ox C odx)
    (hcode : K.lookup cda = some ⟨ccl, cdd, .fields vs, ccs⟩) (hvs : vs[2]? = some (.str file tf)) (hfile : ((prog.main.file : Str) == file) = true)
    (hcell : K.lookup cc = some ⟨cl, cld, .cell (some (.ref D)), csl⟩) (hD : clsIn K D = some cdD) (hsub : mroIn K C (.ref D) = some true) (hsuper : nsIn K mainGlobals "super" = some none)
    (hat : (attr == ("__class__" : Str)) = false) (hks : scope.names.lookup ("super" : Str) = some .globalImplicit) (hkc : scope.names.lookup ("__class__" : Str) = some .free) (hka : scope.names.lookup ar.arg = some .local) (hk : scope.kind = .function)
    (htop : (prog.main.scope.names.lookup ("super" : Str)).isSome = false) (hboot : bootBuiltins "super" = some (.type "super"))
    (h : ∀ so h', Fr h₀ L h' m → News h₀ L h' ((so, ks_superObj D x C) :: news) → (∀ p ∈ news, p.1 < so) → Q (.ref so) { s with heap := h' }) :
    _root_.PySem.wpAt (model prog w) A (.func body (ksEnv q scope L f (.ref cda) cc)) (attributeBase (.Call (.Name "super" p0) [] [] p1) attr (ksEnv q scope L f (.ref cda) cc) whole) Q E s := by
  have X : K.In s.heap := X₀.keeps F.keep
  obtain ⟨hh, g, d, t, os⟩ := s
  obtain ⟨oD, hD1, hD2⟩ : ∃ oD, hh.get? D = some oD ∧ oD.data = .cls cdD := by
    unfold clsIn at hD
    split at hD
    · rename_i c d cd' sl ho
      cases hD
      exact ⟨_, X _ _ ho, rfl⟩
    · cases hD
  refine ks_wpAt_super_base (env := ksEnv q scope L f (.ref cda) cc) hks hkc hat rfl (X _ _ hf) rfl hp rfl (X _ _ hcode) rfl hvs hfile htop ?_
  refine ks_loadName_global hk hks (loadGlobal_builtin (env := ksEnv q scope L f (.ref cda) cc) (T.g.keeps F.keep) (mg_none_of X₀ T.g hsuper) (T.b.keeps F.keep) ((T.builtins _ (by decide +kernel)).trans hboot) ⟨rfl, ?_⟩)
  refine wpAny_loadName_free hk hkc rfl ⟨_, X _ _ hcell, rfl⟩ ?_
  refine wpAny_loadName_local hk hka F.ns hv ?_
  refine ks_wpAny_isType_cls hD1 hD2 ⟨rfl, ?_⟩
  refine ks_wpAny_call_super hD1 hD2 I.at_ I.cls (fun c e => ?_) (looks_mroIn X hsub) (fun h' e k => ?_)
  · have := I.no
    unfold notCls at this
    rw [e] at this
    exact Bool.noConfusion this
  · obtain ⟨F', N', l'⟩ := ks_newsPush (s := ⟨hh, g, d, t, os⟩) F N rfl e k
    exact h _ _ F' N' l'
end

theorem meth_eq0 {o : PySem.Expr} {name : Str} {apos pos : Pos} {env : Env} (hline : (apos.endLine == pos.line) = true) :
    eval (.Call (.Attribute o name apos) [] [] pos) env = (do
      let ov ← attributeBase o name env (eval o env)
      standAt apos.atName
      let (f, first) ← holding [ov] (getMethod ov name (do return (← importBound o env).getD true))
      callWith pos f first (backTo pos (starEach [] env)) []) := by
  rw [arm_eval_Call]
  show (do
    let ov ← attributeBase o name env (eval o env)
    standAt apos.atName
    methodCall o name apos pos env ov (([] : List PySem.Expr).length + 0) (backTo pos (starEach [] env)) []) = _
  unfold methodCall calleeOf methodCallPos
  rw [show methodCallForm (([] : List PySem.Expr).length + 0) (backTo pos (starEach [] env)) [] = true from rfl]
  simp only [if_true, Bool.not_true, Bool.false_or, hline]
  rfl

/-- what a def that says super() is known by -/
structure SupF (P : PE) (fe : FE) (cc : Addr) : Prop where
  fn : ∃ oc od fd osl ar, P.K.lookup fe.fa = some ⟨oc, od, .func fd, osl⟩ ∧ (fd.params.posonlyargs ++ fd.params.args).head? = some ar ∧ ar.arg = Str.ofString "self"
  code : ∃ cda ccl cdd vs ccs file tf, fe.code = .ref cda ∧ P.K.lookup cda = some ⟨ccl, cdd, .fields vs, ccs⟩ ∧ vs[2]? = some (.str file tf) ∧ ((P.prog.main.file : Str) == file) = true
  cell : ∃ cl cld csl, P.K.lookup cc = some ⟨cl, cld, .cell (some (.ref P.C)), csl⟩
  self : mroIn P.K P.C (.ref P.C) = some true
  super : nsIn P.K mainGlobals (Str.ofString "super") = some none
  s1 : fe.scope.names.lookup (Str.ofString "super") = some .globalImplicit
  s2 : fe.scope.names.lookup (Str.ofString "__class__") = some .free
  s3 : fe.scope.names.lookup (Str.ofString "self") = some .local
  s4 : fe.scope.kind = .function
  top : (P.prog.main.scope.names.lookup (Str.ofString "super")).isSome = false
  opq : nsIn P.K cStatics (Str.ofString "thirdparty.any") = some none
  modu : subIn P.K (.ref P.C) (.type "module") = some false
  typ : typeIn P.K (.ref P.C) = some (.type "type")

section
variable {P : PE} {fe : FE} {n : Nat} {loc : Loc} {hp : List AO} {K : LV → List AO → Prop} {Kf : Fl → Loc → List AO → Prop} {X : Fx} {m : Str → Option Value} {θ : List Addr} {s : Shared}
theorem sup_expr {cc : Addr} {body : List Stmt} {name : Str} {id T : String} {B : Builtin} {p0 p1 apos pos : Pos} {k d : Nat} {vs : List PV} {i : Option Int} {Q E : Value → Shared → Prop} (H : AccF P.K P.C) (SF : SupF P fe cc) (C : Cx P fe n X) (hcl : X.cl = clV (some cc)) (S : SR P fe X m loc hp θ s)
    (hl : loc.lookup (Str.ofString "self") = some (.o k)) (hk : hp[k]? = some (.acc d vs)) (hd : hp[d]? = some (.dct i)) (hline : (apos.endLine == pos.line) = true) (hm : ks_superIn P.K P.C P.C name = some (some (.builtin id))) (hn : (name == ("__class__" : Str)) = false)
    (hB : ∀ (h : Heap) (x : Addr) (ox : Obj), h.get? x = some ox → ox.cls = .ref P.C → Looks (model P.prog P.w) h (isSubtype (.ref P.C) (.type "list")) true → Looks (model P.prog P.w) h (isType (.ref P.C)) true → Binds P.prog P.w h P.C x id T)
    (hT : T = "builtin_function_or_method" ∨ T = "method-wrapper")
    (hbc : ∀ (A : Around) (h : Heap) (g : Array GenState) (dd : Drawn) (t : Nat) (os : OsState) (x : Addr) (ox : Obj) (cd : ClassData) (Q' : Unit → Shared → Prop) (E' : Value → Shared → Prop), clsIn P.K P.C = some cd → h.get? x = some ox → ox.cls = .ref P.C → (∀ c, ox.data ≠ .cls c) → Looks (model P.prog P.w) h (isSubtype (.ref P.C) (.type "module")) false → Looks (model P.prog P.w) h (classData P.C) cd →
      Looks (model P.prog P.w) h (typeOf (.ref P.C)) (.type "type") → Q' () ⟨h, g, dd, t, os⟩ → wpAny (model P.prog P.w) A (checkBoundCall id ⟨[.ref x], []⟩) Q' E' ⟨h, g, dd, t, os⟩)
    (plain : plainId id = true) (entry : entryFor table id = some B)
    (hbody : ∀ a o ws nn dx od s1, SR P fe X m loc hp θ s1 → St X.L θ s θ s1 → θ[k]? = some a → θ[d]? = some dx → o.dict = some dx → AccAt s1.heap a o P.C ws nn od → VRels s1.heap vs ws.toList → wpAny (model P.prog P.w) X.A.in1 (B ⟨[.ref a], []⟩) (Done P.prog P.w X.A Q E) (fun e s' => wants Q E (.error e) s') s1) :
    _root_.PySem.wpAt (model P.prog P.w) X.A (.func body (fe.env X)) (eval (.Call (.Attribute (.Call (.Name (Str.ofString "super") p0) [] [] p1) name apos) [] [] pos) (fe.env X)) Q E s := by
  obtain ⟨A, g, L, cl⟩ := X
  have hcl : cl = [(Str.ofString "__class__", cc)] := hcl
  subst hcl
  obtain ⟨qual, scope, fa, code, cells⟩ := fe
  obtain ⟨oc, od', fd, osl, ar, f1, f2, f3⟩ := SF.fn
  obtain ⟨cda, ccl, cdd, vs', ccs, file, tf, c1, c2, c3, c4⟩ := SF.code
  obtain ⟨cl, cld, csl, hcell⟩ := SF.cell
  obtain ⟨cd, hcls⟩ := H.cls
  have c1 : code = .ref cda := c1
  subst c1
  obtain ⟨a, o, ws, nn, dx, od, ea, edx, hdx, hod, I, rs, rd⟩ := acc_at S hk hd
  obtain ⟨v, hv, a', ea', rfl⟩ := S.loc _ _ hl
  rw [ea] at ea'; cases ea'
  refine ks_wpAt_MethodCall ?_ (meth_eq0 hline)
  have X0 := C.gd.1.keeps S.fr.keep
  refine sup_node (news := allNews g L s.heap) S.fr C.gd.1 allNews_news C.gd.2 f1 f2 (by rw [f3]; exact hv) I.inst c2 c3 c4 hcell hcls SF.self SF.super hn SF.s1 SF.s2 (by rw [f3]; exact SF.s3) SF.s4 SF.top rfl fun so h' F' N' l' => ?_
  have kpL := allNews_keep S.fr F' fun p hp => N' p (.tail _ hp)
  have S1 := S.keepL (s' := { s with heap := h' }) F' kpL S.bare rfl
  have st1 : St L θ s θ { s with heap := h' } := St.keepL (X := ⟨A, g, L, []⟩) kpL rfl
  obtain ⟨a1, o1, ws1, nn1, dx1, od1, ea1, edx1, hdx1, hod1, I1, rs1, rd1⟩ := acc_at S1 hk hd
  have ea1 : a = a1 := Option.some.inj (ea.symm.trans ea1)
  subst ea1
  have X1 : P.K.In h' := C.gd.1.keeps F'.keep
  have hm' : alongIn P.K name ((cd.mro.dropWhile (· != .ref P.C)).drop 1) = some (some (.builtin id)) := by
    unfold ks_superIn at hm; rw [hcls] at hm; exact hm
  have lsub : ∀ h'', P.K.In h'' → Looks (model P.prog P.w) h'' (isSubtype (.ref P.C) (.type "list")) true := fun h'' X'' => looks_subIn X'' H.sub
  have ltyp : ∀ h'', P.K.In h'' → Looks (model P.prog P.w) h'' (isType (.ref P.C)) true := fun h'' X'' => by
    unfold clsIn at hcls
    split at hcls
    · rename_i c d cd' sl ho
      exact fun A Q E s kk q => wpAny_bind (wpAny_load (kk _ _ (X'' _ _ ho)) (wpAny_pure q))
    · cases hcls
  have so1 := (N' (so, ks_superObj P.C a P.C) (.head _)).1
  have B1 := hB h' a o1 I1.inst.at_ I1.inst.cls (lsub _ X1) (ltyp _ X1)
  obtain ⟨hh, gg, dd, tt, oos⟩ := s
  refine sup_getMethod so1 (looks_opaque X1 SF.opq) (l₀ := cd.mro) (fun A Q E s k q => wpAny_bind ((looks_clsIn X1 hcls) A _ E s k (wpAny_pure q))) rfl X1 hm' B1 (ks_ne X1 I1.inst hcls) hn ?_
  have kp2 : ∀ (b : Addr) (o : Obj), h'.get? b = some o → (h'.push (boundObj T id a)).get? b = some o := fun b o e => Heap.get?_push_of_some _ e
  have S2 := S1.grow (s' := ⟨h'.push (boundObj T id a), gg, dd, tt + 1, oos⟩) kp2 S1.bare rfl
  have st2 : St L θ ⟨h', gg, dd, tt, oos⟩ θ ⟨h'.push (boundObj T id a), gg, dd, tt + 1, oos⟩ := St.grow (X := ⟨A, g, L, []⟩) kp2 rfl
  have hb : (h'.push (boundObj T id a)).get? h'.objs.size = some (boundObj T id a) := Heap.get?_push_size _ rfl
  refine bound_callWith (x := a) (id := id) (T := T) hb hT ?_
  have X2 := X1.keeps kp2
  obtain ⟨a2, o2, ws2, nn2, dx2, od2, ea2, edx2, hdx2, hod2, I2, rs2, rd2⟩ := acc_at S2 hk hd
  have ea2 : a = a2 := Option.some.inj (ea.symm.trans ea2)
  subst ea2
  refine bound_call (x := a) (id := id) (T := T) hb hT (fun Q' E' q => ?_) plain entry ?_
  · exact hbc _ _ _ _ _ _ a o2 cd Q' E' hcls I2.inst.at_ I2.inst.cls (fun c e => by have := I2.data; rw [e] at this; cases this) (looks_subIn X2 SF.modu) (looks_clsIn X2 hcls) (looks_typeIn X2 SF.typ) q
  · exact hbody a o2 ws2 nn2 dx2 od2 _ S2 (st1.trans S1 st2) ea edx2 hdx2 I2 rs2
end
end VC
namespace VC
open PySem PySem.W PyProof.Rows PySem.Calls PySem.Spec PySem.Builtin PySem.Builtin.Str PySem.SeqAt PySem.Builtin.ObjectAttr

theorem list_setattr_none : classOwn (.type "list") (Str.ofString "__setattr__") = pure none := by kernel_rfl
noncomputable def onlyList : List Value → Bool
  | [.type a, .type b] => a == "list" && b == "object"
  | .ref _ :: r => onlyList r
  | _ => false
theorem refuse_list (self : Value) (l : List Value) : refuseLoop self (Str.ofString "__setattr__") (.type "list" :: l) = refuseLoop self (Str.ofString "__setattr__") l := by
  unfold refuseLoop
  simp only [List.forIn_cons]
  rw [if_neg (by decide), if_neg (by decide), list_setattr_none]
  rfl
theorem refuse_onlyList (self : Value) : ∀ {l : List Value}, onlyList l = true → refuseLoop self (Str.ofString "__setattr__") l = pure ()
  | [.type a, .type b], e => by
    obtain ⟨h1, h2⟩ := Bool.and_eq_true_iff.mp e
    rw [beq_iff_eq.mp h1, beq_iff_eq.mp h2, refuse_list]
    exact PySem.F.store_object.passes self
  | .ref c :: r, e => by rw [refuseLoop_ref]; exact refuse_onlyList self (by cases r <;> first | exact e | cases e)
theorem onlyList_has : ∀ {l : List Value}, onlyList l = true → l.contains (.type "object") = true
  | [.type a, .type b], e => by
    obtain ⟨h1, h2⟩ := Bool.and_eq_true_iff.mp e
    rw [beq_iff_eq.mp h1, beq_iff_eq.mp h2]; simp
  | .ref c :: r, e => by rw [List.contains_cons, onlyList_has (l := r) (by cases r <;> first | exact e | cases e), Bool.or_true]
noncomputable def listOver (K : Frag) (C : Addr) : Bool := (clsIn K C).any fun cd => onlyList cd.mro

section
variable {prog : Program} {w : World} {A : Around} {K : Frag} {C x : Addr} {s : Shared} {h₀ : Heap} {L : Addr} {m : Str → Option Value} {news : List (Addr × Obj)} {R : Result → Shared → Prop}
theorem osaL_open {ox : Obj} {od : Option Obj} {name : Str} {tk : Tok} {v : Value} {r : Option Value} (X : K.In s.heap) (I : InstAt s.heap x ox C od) (hp : listOver K C = true) (ht : takerIn K C name = some r)
    (h : ∀ b, wpAny (model prog w) A.in1 (match r with | some a => setByDescriptor a (.ref x) v | none => storeInOwnDict (.ref x) (.ref C) (.str name tk) name v b)
      (fun fin s' => match fin with | .done f => R (.ok f) s' | .again c' => c'.quiet = true ∧ codeAny (model prog w) A c' R s') (fun e s' => R (.error e) s') s) :
    codeAny (model prog w) A (.call (.builtin "object.__setattr__") ⟨[.ref x, .str name tk, v], []⟩) R s := by
  have SF := PySem.F.store_object
  obtain ⟨cd, hc, ho⟩ := any_some hp
  have ne : cd.mro.isEmpty = false := by cases q : cd.mro with | nil => rw [q] at ho; cases ho | cons _ _ => rfl
  have sub : Looks (model prog w) s.heap (isInstance (.ref x) (.type "object")) true := I.type.andThen (looks_mroIn X (by unfold mroIn; rw [hc, Option.bind_some, if_neg (by rw [ne]; decide), onlyList_has ho]))
  refine codeAny_call_builtin SF.slot.plain SF.entry (@check_slot (model prog w) _ _ s "object.__setattr__" "object" "__setattr__" (.ref x) [.str name tk, v] [] _ SF.kind SF.split sub (SF.args (.ref x) (.str name tk) v) ?_)
  obtain ⟨attr, ha, hr⟩ := Option.bind_eq_some_iff.mp ht
  have hm : Looks (model prog w) s.heap (mroOf (.ref C)) cd.mro := (looks_clsIn X hc).andThen .now
  have L3 : Looks (model prog w) s.heap (storeTaker? attr) r := by
    cases attr with
    | none => cases hr; exact .now
    | some a =>
      obtain ⟨b, hb, rfl⟩ := Option.map_eq_some_iff.mp hr
      refine (looks_takesIn X hb).andThen ?_
      cases b <;> exact .now
  rw [osa_eq, refuse_eq]
  refine wpAny_bind (wpAny_bind (I.type.here (wpAny_bind (hm.here ?_))))
  rw [show refuseLoop (Value.ref x) ("__setattr__" : Str) cd.mro = pure () from refuse_onlyList _ ho]
  refine wpAny_pure (wpAny_bind (I.type.here (wpAny_bind ((looks_findIn X ha).here (wpAny_bind (L3.here ?_))))))
  exact h _

theorem osaL_dict {ox od od' : Obj} {dx : Addr} {name : Str} {tk : Tok} {v : Value} {pre post : List (Addr × Obj)} {es : List DictEntry} {n : Nat} (F : Fr h₀ L s.heap m) (N : News h₀ L s.heap (pre ++ (dx, od) :: post)) (X : K.In s.heap)
    (I : InstAt s.heap x ox C (some od)) (hd : ox.dict = some dx) (hp : listOver K C = true) (ht : takerIn K C name = some none) (hh : (clsIn K C).any (·.hasDict) = true)
    (hl : (lookIn name od).isSome = true) (h1 : ∀ p ∈ pre, p.1 ≠ dx) (h2 : ∀ p ∈ post, p.1 ≠ dx)
    (e : Obj.putName name (PyData.keyHash w.params name) (.str name s.toks) v od = od') (e' : od'.data = .dict es.toArray n) (hz : es.length ≤ 1000)
    (h : ∀ h', Fr h₀ L h' m → News h₀ L h' (pre ++ (dx, od') :: post) → R (.ok (.ret .none)) { s with heap := h', toks := s.toks + 1 }) :
    codeAny (model prog w) A (.call (.builtin "object.__setattr__") ⟨[.ref x, .str name tk, v], []⟩) R s := by
  refine osaL_open X I hp ht fun b => ?_
  obtain ⟨cd, hc, hd'⟩ := any_some hh
  obtain ⟨U1, U2⟩ := news_upd (f := Obj.putName name (PyData.keyHash w.params name) (.str name s.toks) v) F N h1 h2 e (by obtain ⟨_, _, dd, _⟩ := od'; cases e'; rfl)
  have D := (N (dx, od) (by simp)).1
  have D' := (U2 (dx, od') (by simp)).1
  obtain ⟨hx, hcl, hn, -⟩ := I
  obtain ⟨oc, odi, oda, osl⟩ := ox
  dsimp only at hcl hd
  subst hcl hd
  refine wpAny_bind (wpAny_pure (wpAny_bind (wpAny_bind (wpAny_loadPart hx (wpAny_bind ((looks_clsIn X hc).here ?_))))))
  rw [hd']
  refine wpAny_pure (a := some dx) (wpAny_bind (wpAny_pure (wpAny_bind ?_)))
  unfold nsSet
  refine wpAny_bind (wpAny_bind (wpAny_askSetting (wpAny_pure (wpAny_bind (wpAny_mkText (wpAny_bind (wpAny_loadPart D ?_)))))))
  unfold lookIn at hl
  split at hl
  · rename_i es₀ n₀ q
    rw [q]
    dsimp only
    have c : (!es₀.any (·.key.isStr name) && es₀.any (·.refKey)) = false := by
      rw [← Array.any_toList, ← Array.any_toList]
      split at hl
      · rename_i en he
        rw [List.any_eq_true.mpr ⟨en, List.mem_of_find?_eq_some he, List.find?_some he⟩]; rfl
      · split at hl
        · cases hl
        · rename_i z; rw [Bool.not_eq_true] at z; rw [z, Bool.and_false]
    rw [aRefKeyMayBeTheName_at, c]
    refine wpAny_updatePart D ?_
    refine wpAny_bind (wpAny_lookBehind D' (by rw [e']; exact pastItsLine_dict (by rw [List.size_toArray, sizeLine_eq]; omega)) ?_)
    exact wpAny_pure (h _ U1 U2)
  · cases hl

theorem setL_dict {E : Value → Shared → Prop} {ox : Obj} {dx : Addr} {name : Str} {v : Value} {es es' : List DictEntry} {n n' : Nat} {post : List (Addr × Obj)} {Q : Unit → Shared → Prop} (F : Fr h₀ L s.heap m) (X₀ : K.In h₀) (N : News h₀ L s.heap ((dx, dictOf es n) :: post)) (I : InstAt s.heap x ox C (some (dictOf es n))) (hd : ox.dict = some dx)
    (hs : findIn K (.ref C) "__setattr__" = some (some (.builtin "object.__setattr__"))) (hp : listOver K C = true) (ht : takerIn K C name = some none) (hh : hasDictIn K C = true) (hl : (getL name es).isSome = true) (h2 : ∀ p ∈ post, p.1 ≠ dx)
    (e : (putL name (PyData.keyHash w.params name) (.str name (s.toks + 1)) v es, putN name es n) = (es', n')) (hz : es'.length ≤ 1000)
    (h : ∀ h', Fr h₀ L h' m → News h₀ L h' ((dx, dictOf es' n') :: post) → Q () { s with heap := h', toks := s.toks + 2 }) :
    wpAny (model prog w) A (setAttr (.ref x) name v) Q E s := by
  obtain ⟨e1, e2⟩ := Prod.mk.inj e
  exact set_plain (X₀.keeps F.keep) I hs (osaL_dict (pre := []) (s := { s with toks := s.toks + 1 }) F N (X₀.keeps F.keep) I hd hp ht hh hl (by intro p hp; cases hp) h2 (by rw [putName_dict, e1, e2]) rfl hz fun h' F' N' => h h' F' N')
end

section
variable {P : PE} {fe : FE} {n : Nat} {loc : Loc} {hp : List AO} {K : LV → List AO → Prop} {Kf : Fl → Loc → List AO → Prop} {X : Fx} {m : Str → Option Value} {θ : List Addr} {s : Shared}

/-- what the store of an own name asks -/
structure SetF (K : Frag) (C : Addr) : Prop where
  set : findIn K (.ref C) (Str.ofString "__setattr__") = some (some (.builtin "object.__setattr__"))
  over : listOver K C = true
  taker : takerIn K C IK = some none
  dict : hasDictIn K C = true

theorem TX_SetSize {o e : PySem.Expr} {pos' pos : Pos} (SF : SetF P.K P.C) (hs : ∀ X, swapsWith e (some (.Attribute o IK pos')) pos.line (fe.env X) = pure false)
    (h : TE P fe n e loc hp fun v hp1 => TE P fe n o loc hp1 fun ov hp2 => ∃ i k d vs i0, v = .v (.int i) ∧ ov = .o k ∧ hp2[k]? = some (.acc d vs) ∧ hp2[d]? = some (.dct i0) ∧ Kf .next loc (hp2.set d (.dct (some i)))) : TX P fe n (.Assign [.Attribute o IK pos'] e pos) loc hp Kf := by
  intro X m θ s Q E C S kk
  refine plainObj_wpAny_Assign_Attribute (h X m θ s _ E C S fun v lv hp1 θ1 s1 h1 S1 r1 st1 => h1 X m θ1 s1 _ E C S1 fun ov lo hp2 θ2 s2 h2 S2 r2 st2 => ?_) (hs X)
  obtain ⟨i, k, d, vs, i0, rfl, rfl, hk, hd, h3⟩ := h2
  obtain ⟨t, rfl⟩ := (S1.rel st2 r1).int
  obtain ⟨a, o, ws, nn, dx, od, ea, edx, hdx, hod, I, rs, rd⟩ := acc_at S2 hk hd
  obtain ⟨a', ea', rfl⟩ := r2
  rw [ea] at ea'; cases ea'
  have fin : ∀ (es : List DictEntry) (n0 : Nat) (es' : List DictEntry) (n' : Nat), od = dictOf es n0 → (getL IK es).isSome = true → (putL IK (PyData.keyHash P.w.params IK) (.str IK (s2.toks + 1)) (.int i t) es, putN IK es n0) = (es', n') → es'.length ≤ 1000 → (∃ tk, es' = [⟨PyData.keyHash P.w.params IK, .str IK tk, .int i t⟩]) →
      wpAny (model P.prog P.w) X.A (setAttr (.ref a) IK (.int i t)) (fun _ => Q .next) E s2 := by
    intro es n0 es' n' e0 hl e hz hes
    subst e0
    obtain ⟨tk, rfl⟩ := hes
    have N : News X.g X.L s2.heap ((dx, dictOf es n0) :: (allNews X.g X.L s2.heap).filter fun p => decide (p.1 ≠ dx)) := by
      intro p hp
      rcases List.mem_cons.mp hp with rfl | hp
      · exact ⟨hod, (S2.free dx (List.mem_of_getElem? edx)).2, (S2.free dx (List.mem_of_getElem? edx)).1⟩
      · exact allNews_news p (List.mem_filter.mp hp).1
    refine setL_dict S2.fr C.gd.1 N I.inst hdx SF.set SF.over SF.taker SF.dict hl (fun p hp => by simpa using (List.mem_filter.mp hp).2) e hz fun h' F' N' => ?_
    have kp : ∀ (b : Addr) (o : Obj), b ≠ dx → b ≠ X.L → s2.heap.get? b = some o → h'.get? b = some o := fun b o hb hL e => by
      cases q : X.g.get? b with
      | some o' =>
        have := S2.fr.keep b o' q
        rw [e] at this; cases this
        exact F'.keep b _ q
      | none => exact (N' (b, o) (.tail _ (List.mem_filter.mpr ⟨allNews_mem.mpr ⟨e, hL, q⟩, by simpa using hb⟩))).1
    obtain ⟨S3, st3⟩ := S2.putL (s' := { s2 with heap := h', toks := s2.toks + 2 }) (ao := .dct (some i)) edx F' kp (fun _ => ⟨tk, t, n', (N' _ (.head _)).1⟩) (fun _ _ e => by cases e) S2.bare rfl
    exact kk _ _ _ _ _ _ _ h3 S3 rfl ((st1.trans S1 st2).trans S2 st3)
  cases i0 with
  | none =>
    have rd : s2.heap.get? dx = some (dictOf [] 0) := rd
    rw [hod] at rd
    exact fin [] 0 _ _ (Option.some.inj rd) rfl rfl (by simp [putL]) ⟨_, rfl⟩
  | some i0 =>
    obtain ⟨tk, t0, n0, e⟩ := rd
    rw [hod] at e
    have hs' : (Value.str IK tk).isStr IK = true := by simp [Value.isStr]
    have hput : putL IK (PyData.keyHash P.w.params IK) (.str IK (s2.toks + 1)) (.int i t) [⟨PyData.keyHash P.w.params IK, .str IK tk, .int i0 t0⟩] = [⟨PyData.keyHash P.w.params IK, .str IK tk, .int i t⟩] := by
      rw [putL, if_pos hs']
    refine fin [⟨PyData.keyHash P.w.params IK, .str IK tk, .int i0 t0⟩] n0 _ _ (Option.some.inj e) ?_ rfl ?_ ⟨tk, hput⟩
    · simp [getL, hs']
    · rw [hput]; simp
end
end VC
namespace VC
open PySem PySem.W PyProof.Rows PySem.Calls PySem.Spec PySem.Builtin PySem.Builtin.Str PySem.SeqAt PySem.Builtin.ObjectAttr

section
variable {P : PE} {fe : FE} {n : Nat} {loc : Loc} {hp : List AO} {K : LV → List AO → Prop} {Kf : Fl → Loc → List AO → Prop} {X : Fx} {m : Str → Option Value} {θ : List Addr} {s : Shared} {cc : Addr}

/-- what follows, known that it is the code that runs -/
noncomputable def ThenS (P : PE) (fe : FE) (n : Nat) (cc : Option Addr) (body r : List Stmt) (Kf : Fl → Loc → List AO → Prop) : Fl → Loc → List AO → Prop
  | .next, loc, hp => ∀ (X : Fx) (m : Str → Option Value) (θ : List Addr) (s : Shared) (Q : Flow → Shared → Prop) (E : Value → Shared → Prop), Cx P fe n X → X.cl = clV cc → SR P fe X m loc hp θ s →
    (∀ f fl loc' hp' m' θ' s', Kf fl loc' hp' → SR P fe X m' loc' hp' θ' s' → FRel s'.heap θ' fl f → St X.L θ s θ' s' → Q f s') → _root_.PySem.wpAt (model P.prog P.w) X.A (.func body (fe.env X)) (execs r (fe.env X)) Q E s
  | f, loc, hp => Kf f loc hp
/-- statements within a body -/
noncomputable def TXW (P : PE) (fe : FE) (n : Nat) (cc : Option Addr) (body r : List Stmt) (loc : Loc) (hp : List AO) (Kf : Fl → Loc → List AO → Prop) : Prop := ThenS P fe n cc body r Kf .next loc hp
theorem TXS.ofW {cc : Option Addr} {body : List Stmt} (h : TXW P fe n cc body body loc hp Kf) : TXS P fe n cc body loc hp Kf := h
theorem TXW_cons {cc : Option Addr} {body : List Stmt} {st : Stmt} {r : List Stmt} (h : TX P fe n st loc hp (ThenS P fe n cc body r Kf)) : TXW P fe n cc body (st :: r) loc hp Kf := by
  intro X m θ s Q E C hc S kk
  refine ks_wpAt_execs_cons (wpAt_of_wpAny (h X m θ s _ E C S fun f fl loc1 hp1 m1 θ1 s1 h1 S1 r1 st1 => ?_))
  cases fl with
  | next =>
    cases r1
    exact h1 X m1 θ1 s1 Q E C hc S1 fun f' fl' loc2 hp2 m2 θ2 s2 h2 S2 r2 st2 => kk _ _ _ _ _ _ _ h2 S2 r2 (st1.trans S1 st2)
  | brk => cases r1; exact kk _ _ _ _ _ _ _ h1 S1 rfl st1
  | cont => cases r1; exact kk _ _ _ _ _ _ _ h1 S1 rfl st1
  | ret lv =>
    obtain ⟨v, e, r1⟩ := r1
    subst e
    exact kk _ _ _ _ _ _ _ h1 S1 ⟨v, rfl, r1⟩ st1

/-- what a super() call of list's needs, per method -/
structure BiF (P : PE) (name : Str) (id T : String) (B : Builtin) : Prop where
  hm : ks_superIn P.K P.C P.C name = some (some (.builtin id))
  hn : (name == ("__class__" : Str)) = false
  hB : ∀ (h : Heap) (x : Addr) (ox : Obj), h.get? x = some ox → ox.cls = .ref P.C → Looks (model P.prog P.w) h (isSubtype (.ref P.C) (.type "list")) true → Looks (model P.prog P.w) h (isType (.ref P.C)) true → Binds P.prog P.w h P.C x id T
  hT : T = "builtin_function_or_method" ∨ T = "method-wrapper"
  hbc : ∀ (A : Around) (h : Heap) (g : Array GenState) (dd : Drawn) (t : Nat) (os : OsState) (x : Addr) (ox : Obj) (cd : ClassData) (Q' : Unit → Shared → Prop) (E' : Value → Shared → Prop), clsIn P.K P.C = some cd → h.get? x = some ox → ox.cls = .ref P.C → (∀ c, ox.data ≠ .cls c) → Looks (model P.prog P.w) h (isSubtype (.ref P.C) (.type "module")) false → Looks (model P.prog P.w) h (classData P.C) cd →
      Looks (model P.prog P.w) h (typeOf (.ref P.C)) (.type "type") → Q' () ⟨h, g, dd, t, os⟩ → wpAny (model P.prog P.w) A (checkBoundCall id ⟨[.ref x], []⟩) Q' E' ⟨h, g, dd, t, os⟩
  plain : plainId id = true
  entry : entryFor table id = some B

theorem biLen (hm : ks_superIn P.K P.C P.C (Str.ofString "__len__") = some (some (.builtin "list.__len__"))) : BiF P (Str.ofString "__len__") "list.__len__" "method-wrapper" Builtin.«list.__len__» :=
  ⟨hm, by decide +kernel, fun _ _ _ hx hc hl _ => binds_len hx hc hl, .inr rfl, fun _ _ _ _ _ _ _ _ _ _ _ _ hx hc hnc hmo hcd hty q => bc_len hx hc hnc hmo hcd hty q, by decide +kernel, PySem.F.entry_list_len⟩
theorem biInit (hm : ks_superIn P.K P.C P.C (Str.ofString "__init__") = some (some (.builtin "list.__init__"))) : BiF P (Str.ofString "__init__") "list.__init__" "method-wrapper" Builtin.«list.__init__» :=
  ⟨hm, by decide +kernel, fun _ _ _ hx hc hl _ => binds_init hx hc hl, .inr rfl, fun _ _ _ _ _ _ _ _ _ _ _ _ hx hc hnc hmo hcd hty q => bc_init hx hc hnc hmo hcd hty q, by decide +kernel, PySem.F.entry_list_init⟩
theorem biPop (hm : ks_superIn P.K P.C P.C (Str.ofString "pop") = some (some (.builtin "list.pop"))) (hf : ∀ cd, clsIn P.K P.C = some cd → (toString cd.qualname.toString ++ toString "." ++ toString (Bind.lastOf "list.pop") != "*") = true) : BiF P (Str.ofString "pop") "list.pop" "builtin_function_or_method" Builtin.«list.pop» :=
  ⟨hm, by decide +kernel, fun _ _ _ hx hc hl hT => binds_pop hx hc hl hT, .inl rfl, fun _ _ _ _ _ _ _ _ _ _ _ hcls hx hc hnc hmo hcd hty q => bc_pop hx hc hnc hmo hcd hty (hf _ hcls) q, by decide +kernel, PySem.F.entry_list_pop⟩

/-- `return super().name()` at a body's end -/
theorem TXW_RetSuper {body : List Stmt} {name : Str} {id T : String} {B : Builtin} {p0 p1 p2 p3 p4 : Pos} {k d : Nat} {vs : List PV} {i : Option Int} (H : AccF P.K P.C) (SF : SupF P fe cc) (BF : BiF P name id T B)
    (hl : loc.lookup (Str.ofString "self") = some (.o k)) (hk : hp[k]? = some (.acc d vs)) (hd : hp[d]? = some (.dct i)) (hline : (p2.endLine == p3.line) = true)
    (hbody : ∀ (X : Fx) (m : Str → Option Value) (θ : List Addr) (Q E : Value → Shared → Prop) (a : Addr) (o : Obj) (ws : Array Value) (nn : Nat) (dx : Addr) (od : Obj) (s1 : Shared), SR P fe X m loc hp θ s1 → θ[k]? = some a → θ[d]? = some dx → o.dict = some dx → AccAt s1.heap a o P.C ws nn od → VRels s1.heap vs ws.toList →
      (∀ v lv hp' s', Kf (.ret lv) loc hp' → SR P fe X m loc hp' θ s' → LRel s'.heap θ lv v → St X.L θ s1 θ s' → Q v s') → wpAny (model P.prog P.w) X.A.in1 (B ⟨[.ref a], []⟩) (Done P.prog P.w X.A Q E) (fun e s' => wants Q E (.error e) s') s1) :
    TXW P fe n (some cc) body [.Return (some (.Call (.Attribute (.Call (.Name (Str.ofString "super") p0) [] [] p1) name p2) [] [] p3)) p4] loc hp Kf := by
  intro X m θ s Q E C hc S kk
  refine ks_wpAt_execs_cons (ks_wpAt_Return_some ?_)
  refine sup_expr H SF C hc S hl hk hd hline BF.hm BF.hn BF.hB BF.hT BF.hbc BF.plain BF.entry fun a o ws nn dx od s1 S1 st1 ea edx hdx I rs => ?_
  exact hbody X m θ _ E a o ws nn dx od s1 S1 ea edx hdx I rs fun v lv hp' s' h1 S2 r2 st2 => kk _ _ _ _ _ _ _ h1 S2 ⟨v, rfl, r2⟩ (st1.trans S1 st2)

theorem TXW_Len {body : List Stmt} {p0 p1 p2 p3 p4 : Pos} {k d : Nat} {vs : List PV} {i : Option Int} (H : AccF P.K P.C) (SF : SupF P fe cc) (BF : BiF P (Str.ofString "__len__") "list.__len__" "method-wrapper" Builtin.«list.__len__»)
    (hl : loc.lookup (Str.ofString "self") = some (.o k)) (hk : hp[k]? = some (.acc d vs)) (hd : hp[d]? = some (.dct i)) (hline : (p2.endLine == p3.line) = true) (h : Kf (.ret (.v (.int vs.length))) loc hp) :
    TXW P fe n (some cc) body [.Return (some (.Call (.Attribute (.Call (.Name (Str.ofString "super") p0) [] [] p1) (Str.ofString "__len__") p2) [] [] p3)) p4] loc hp Kf :=
  TXW_RetSuper H SF BF hl hk hd hline fun X m θ Q E a o ws nn dx od s1 S1 ea edx hdx I rs kk => by
    have hsize : ws.size = vs.length := by rw [← rs.length, Array.length_toList]
    refine acc_len I ?_
    rw [hsize]
    exact kk _ (.v (.int vs.length)) hp _ h (S1.same rfl rfl) ⟨_, rfl⟩ (St.same rfl rfl)
theorem TXW_Pop {body : List Stmt} {p0 p1 p2 p3 p4 : Pos} {k d : Nat} {vs : List PV} {p : PV} {i : Option Int} (H : AccF P.K P.C) (SF : SupF P fe cc) (BF : BiF P (Str.ofString "pop") "list.pop" "builtin_function_or_method" Builtin.«list.pop»)
    (hl : loc.lookup (Str.ofString "self") = some (.o k)) (hk : hp[k]? = some (.acc d (vs ++ [p]))) (hd : hp[d]? = some (.dct i)) (hline : (p2.endLine == p3.line) = true) (hsz : vs.length ≤ 100000) (h : Kf (.ret (.v p)) loc (hp.set k (.acc d vs))) :
    TXW P fe n (some cc) body [.Return (some (.Call (.Attribute (.Call (.Name (Str.ofString "super") p0) [] [] p1) (Str.ofString "pop") p2) [] [] p3)) p4] loc hp Kf :=
  TXW_RetSuper H SF BF hl hk hd hline fun X m θ Q E a o ws nn dx od s1 S1 ea edx hdx I rs kk => by
    have hsize : ws.size = vs.length + 1 := by rw [← Array.length_toList, rs.length]; simp
    obtain ⟨w, hw, rw'⟩ := rs.get vs.length (p := p) (by simp)
    have hws : ws = (ws.pop).push w := by
      apply Array.ext'
      rw [Array.toList_push, Array.toList_pop]
      have hne : ws.toList ≠ [] := by intro e; have := congrArg List.length e; simp [hsize] at this
      have hlast : ws.toList.getLast hne = w := by
        rw [List.getLast_eq_getElem]
        have h2 : ws.toList.length - 1 = vs.length := by rw [Array.length_toList, hsize]; rfl
        have := (List.getElem?_eq_some_iff.mp hw).2
        simp only [h2]; exact this
      rw [← hlast]; exact (List.dropLast_concat_getLast hne).symm
    have hle : ws.size ≤ 100000 + 1 := by rw [hsize]; exact Nat.succ_le_succ hsz
    refine acc_pop I hws (by have := sizeLine_eq; omega) ?_
    have rs' : VRels s1.heap vs ((fun xs : Array Value => xs.eraseIdxIfInBounds (ws.size - 1)) ws).toList := by
      have h1 := rs.take vs.length
      rw [List.take_left' rfl] at h1
      have e : ((fun xs : Array Value => xs.eraseIdxIfInBounds (ws.size - 1)) ws).toList = ws.toList.take vs.length := by
        have hlt : ws.size - 1 < ws.size := by omega
        simp only [Array.eraseIdxIfInBounds, hlt, dif_pos, Array.toList_eraseIdx]
        rw [List.eraseIdx_eq_take_drop_succ]
        rw [List.drop_of_length_le (by rw [Array.length_toList]; omega), List.append_nil]
        congr 1; omega
      rw [e]; exact h1
    obtain ⟨S2, st2⟩ := acc_put (s := s1) S1 (f := fun xs => xs.eraseIdxIfInBounds (ws.size - 1)) hk ea I ⟨dx, hdx, edx⟩ rs'
    exact kk _ (.v p) _ _ h S2 (S1.rel (l := .v p) st2 rw') st2

/-- `super().name()` at a body's end, as a statement -/
theorem TXW_ExprSuper {body : List Stmt} {name : Str} {id T : String} {B : Builtin} {p0 p1 p2 p3 p4 : Pos} {k d : Nat} {vs : List PV} {i : Option Int} (H : AccF P.K P.C) (SF : SupF P fe cc) (BF : BiF P name id T B)
    (hl : loc.lookup (Str.ofString "self") = some (.o k)) (hk : hp[k]? = some (.acc d vs)) (hd : hp[d]? = some (.dct i)) (hline : (p2.endLine == p3.line) = true)
    (hi : ∀ X, interactive (fe.env X) = false) (hs : ∀ X, swapsWith (.Call (.Attribute (.Call (.Name (Str.ofString "super") p0) [] [] p1) name p2) [] [] p3) none p4.line (fe.env X) = pure false)
    (hbody : ∀ (X : Fx) (m : Str → Option Value) (θ : List Addr) (Q E : Value → Shared → Prop) (a : Addr) (o : Obj) (ws : Array Value) (nn : Nat) (dx : Addr) (od : Obj) (s1 : Shared), SR P fe X m loc hp θ s1 → θ[k]? = some a → θ[d]? = some dx → o.dict = some dx → AccAt s1.heap a o P.C ws nn od → VRels s1.heap vs ws.toList →
      (∀ v hp' s', Kf .next loc hp' → SR P fe X m loc hp' θ s' → St X.L θ s1 θ s' → Q v s') → wpAny (model P.prog P.w) X.A.in1 (B ⟨[.ref a], []⟩) (Done P.prog P.w X.A Q E) (fun e s' => wants Q E (.error e) s') s1) :
    TXW P fe n (some cc) body [.Expr (.Call (.Attribute (.Call (.Name (Str.ofString "super") p0) [] [] p1) name p2) [] [] p3) p4] loc hp Kf := by
  intro X m θ s Q E C hc S kk
  have key : _root_.PySem.wpAt (model P.prog P.w) X.A (.func body (fe.env X)) (exec (.Expr (.Call (.Attribute (.Call (.Name (Str.ofString "super") p0) [] [] p1) name p2) [] [] p3) p4) (fe.env X)) (fun f s' => f = .next ∧ Q .next s') E s := by
    refine ks_wpAt_Expr_any (Q := fun f s' => f = .next ∧ Q .next s') ?_ (hi X) (hs X)
    refine sup_expr (Q := fun _ s' => Flow.next = .next ∧ Q .next s') H SF C hc S hl hk hd hline BF.hm BF.hn BF.hB BF.hT BF.hbc BF.plain BF.entry fun a o ws nn dx od s1 S1 st1 ea edx hdx I rs => ?_
    exact hbody X m θ _ E a o ws nn dx od s1 S1 ea edx hdx I rs fun v hp' s' h1 S2 st2 => ⟨rfl, kk _ _ _ _ _ _ _ h1 S2 rfl (st1.trans S1 st2)⟩
  refine ks_wpAt_execs_cons (ks_wpAt_mono key (fun f s' hf => ?_) fun _ _ e => e)
  obtain ⟨rfl, hq⟩ := hf
  exact wpAt_of_wpAny (wpAny_execs_nil hq)
/-- `super().__init__()` at a body's end -/
theorem TXW_Init {body : List Stmt} {p0 p1 p2 p3 p4 : Pos} {k d : Nat} {vs : List PV} {i : Option Int} (H : AccF P.K P.C) (SF : SupF P fe cc) (BF : BiF P (Str.ofString "__init__") "list.__init__" "method-wrapper" Builtin.«list.__init__»)
    (hl : loc.lookup (Str.ofString "self") = some (.o k)) (hk : hp[k]? = some (.acc d vs)) (hd : hp[d]? = some (.dct i)) (hline : (p2.endLine == p3.line) = true) (hsz : vs.length ≤ 100000)
    (hi : ∀ X, interactive (fe.env X) = false) (hs : ∀ X, swapsWith (.Call (.Attribute (.Call (.Name (Str.ofString "super") p0) [] [] p1) (Str.ofString "__init__") p2) [] [] p3) none p4.line (fe.env X) = pure false) (h : Kf .next loc (hp.set k (.acc d []))) :
    TXW P fe n (some cc) body [.Expr (.Call (.Attribute (.Call (.Name (Str.ofString "super") p0) [] [] p1) (Str.ofString "__init__") p2) [] [] p3) p4] loc hp Kf :=
  TXW_ExprSuper H SF BF hl hk hd hline hi hs fun X m θ Q E a o ws nn dx od s1 S1 ea edx hdx I rs kk => by
    have hsize : ws.size = vs.length := by rw [← rs.length, Array.length_toList]
    refine acc_init I (szl (n := ws.size) (by omega)) ?_
    obtain ⟨S2, st2⟩ := acc_put (s := s1) S1 (vs' := []) (f := fun _ => #[]) hk ea I ⟨dx, hdx, edx⟩ rfl
    exact kk _ _ _ h S2 st2
end
end VC
namespace VC
open PySem PySem.W PyProof.Rows PySem.Calls PySem.Spec PySem.Builtin PySem.Builtin.Str PySem.SeqAt PySem.Builtin.ObjectAttr

section
variable {P : PE} {fe : FE} {n : Nat} {loc : Loc} {hp : List AO} {K : LV → List AO → Prop} {Kf : Fl → Loc → List AO → Prop} {X : Fx} {m : Str → Option Value} {θ : List Addr} {s : Shared} {cc : Addr}

theorem tcw (C : Addr) (rest : List Value) : (Code.builtin "type.__call__" ⟨.ref C :: rest, []⟩).weight = 1 := by kernel_rfl
theorem tcu (C : Addr) (rest : List Value) : (Code.builtin "type.__call__" ⟨.ref C :: rest, []⟩).cUnits = 1 := by kernel_rfl
theorem tce (C : Addr) (rest : List Value) : (Code.builtin "type.__call__" ⟨.ref C :: rest, []⟩).envs = [] := by kernel_rfl

/-- the class is called: a new object, its names by __init__ -/
theorem TC_new {fI : Addr} {as : List LV} (LM : lmakesIn P.K P.C = true) (hi : findIn P.K (.ref P.C) "__init__" = some (some (.ref fI))) (hf : typeIn P.K (.ref fI) = some (.type "function"))
    (h : TCC P n (.ref fI) (.o (hp.length + 1) :: as) (hp ++ [.dct none, .acc hp.length []]) (fun lv hp' => lv = .v .none ∧ K (.o (hp.length + 1)) hp')) : TC P (n + 1) (.ref P.C) as hp K := by
  intro fe X m loc θ s Q E vals C S rs kk
  have X1 := C.gd.1.keeps S.fr.keep
  refine wpAny_call ?_
  have kp : ∀ (b : Addr) (o : Obj), s.heap.get? b = some o → ((s.heap.push emptyDict).push (rowObj P.C s.heap.objs.size)).get? b = some o := fun b o e => Heap.get?_push_of_some _ (Heap.get?_push_of_some _ e)
  -- the dict, then the row, get handles
  have g1 : (s.heap.push emptyDict).get? s.heap.objs.size = some emptyDict := Heap.get?_push_size _ rfl
  obtain ⟨S1, st1⟩ := S.new (s' := { s with heap := s.heap.push emptyDict }) (ao := .dct none) (fun b o e => Heap.get?_push_of_some _ e) (get?_size_none s.heap 0) (show (s.heap.push emptyDict).get? (s.heap.objs.size + 0) = some (dictOf [] 0) from g1) (fun _ _ e => by cases e) S.bare rfl
  have g2 : ((s.heap.push emptyDict).push (rowObj P.C s.heap.objs.size)).get? (s.heap.objs.size + 1) = some (rowObj P.C s.heap.objs.size) := by
    have := Heap.get?_push_size (s.heap.push emptyDict) (o := rowObj P.C s.heap.objs.size) rfl
    rw [Heap.size_push] at this; exact this
  have hn2 : (s.heap.push emptyDict).get? (s.heap.objs.size + 1) = none := by
    have := get?_size_none (s.heap.push emptyDict) 0
    rw [Heap.size_push] at this; exact this
  obtain ⟨S2, st2⟩ := S1.new (s' := { s with heap := (s.heap.push emptyDict).push (rowObj P.C s.heap.objs.size) }) (a := s.heap.objs.size + 1) (ao := .acc hp.length []) (fun b o e => Heap.get?_push_of_some _ e) hn2
    ⟨_, #[], 0, s.heap.objs.size, by
      have : (θ ++ [s.heap.objs.size + 0]).length = hp.length + 1 := by rw [List.length_append, S.H.len]; rfl
      rw [List.getElem?_append_left (by omega), ← S.H.len]; exact List.getElem?_concat_length .., g2, rfl, rfl, rfl, rfl⟩ (fun d vs e => by cases e; rw [List.length_append]; simp) S1.bare rfl
  have hp2 : (hp ++ [AO.dct none]) ++ [.acc hp.length []] = hp ++ [.dct none, .acc hp.length []] := by simp
  rw [hp2] at S2
  have hθ : (θ ++ [s.heap.objs.size + 0] ++ [s.heap.objs.size + 1])[hp.length + 1]? = some (s.heap.objs.size + 1) := by
    rw [← S.H.len]
    have : θ.length + 1 = (θ ++ [s.heap.objs.size + 0]).length := by simp
    rw [this]; exact List.getElem?_concat_length ..
  obtain ⟨hh, g, dd, t, os⟩ := s
  refine lmake_core (lmakes_of X1 LM) (looks_findIn X1 hi) (fun self => bind_fn X1 self hf) ?_
  have stA := st1.trans S1 st2
  let X' : Fx := ⟨X.A.under (.builtin "type.__call__" ⟨.ref P.C :: vals, []⟩), X.g, X.L, X.cl⟩
  have C' : Cx P fe n X' := by
    obtain ⟨outer, A₀, base, hA, B⟩ := C.below
    refine ⟨C.hA, ?_, ?_, C.gd, C.sc, ⟨outer, A₀, base, ?_, B⟩, C.kind, fun q => by
      obtain ⟨A₁, b₁, h₁, B₁⟩ := C.flat q
      refine ⟨A₁, b₁, ?_, B₁⟩
      show pushEnvs (Code.builtin "type.__call__" ⟨.ref P.C :: vals, []⟩).envs X.A.frames = some [fe.env X]
      rw [tce]; exact h₁⟩
    · have := C.dep
      show X.A.depth + Code.weight _ + _ < _
      rw [tcw]; omega
    · have := C.un
      show X.A.units + Code.cUnits _ + _ < _
      rw [tcu]; omega
    · show pushEnvs (Code.builtin "type.__call__" ⟨.ref P.C :: vals, []⟩).envs X.A.frames = some (fe.env X :: outer)
      rw [tce]; exact hA
  have S' : SR P fe X' m loc (hp ++ [.dct none, .acc hp.length []]) (θ ++ [hh.objs.size + 0] ++ [hh.objs.size + 1]) ⟨(hh.push emptyDict).push (rowObj P.C hh.objs.size), g, dd, t, os⟩ := ⟨S2.fr, S2.loc, S2.H, S2.free, S2.bare, S2.cells⟩
  have rs' : LRels ((hh.push emptyDict).push (rowObj P.C hh.objs.size)) (θ ++ [hh.objs.size + 0] ++ [hh.objs.size + 1]) (.o (hp.length + 1) :: as) (.ref (hh.objs.size + 1) :: vals) := ⟨_, _, rfl, ⟨_, hθ, rfl⟩, S.rels stA rs⟩
  refine h fe X' m loc _ _ _ _ C' S' rs' fun v lv hp' θ' s' hk S3 r3 st3 => ?_
  obtain ⟨rfl, hk⟩ := hk
  have r3 : v = .none := r3
  subst r3
  have S4 : SR P fe X m loc hp' θ' s' := ⟨S3.fr, S3.loc, S3.H, S3.free, S3.bare, S3.cells⟩
  exact ⟨rfl, kk _ (.o (hp.length + 1)) hp' θ' s' hk S4 ⟨_, pre_get st3.pre hθ, rfl⟩ (stA.trans S2 st3)⟩

theorem TE_call0 {x : Str} {p pos : Pos} (f : Addr) (n' : Nat) (hx : fe.scope.names.lookup x = some .globalImplicit) (hf : nsIn P.K mainGlobals x = some (some (.ref f))) (hk : keepIn P.K (.ref f) = true) (hn : n' ≤ n)
    (hd : (x == ("__debug__" : Str)) = false) (h : TC P n' (.ref f) [] hp K) : TE P fe n (.Call (.Name x p) [] [] pos) loc hp K := by
  intro X m θ s Q E C S kk
  refine Call_ (nameX_K S.fr C.gd.1 C.gd.2 hf ?_ C.kind hx hd)
  refine callWith_K0 (C.gd.1.keeps S.fr.keep) hk ?_
  exact h fe X m loc θ s Q E [] (C.mono hn) S rfl kk
end
end VC
namespace VC
open PySem PySem.W PyProof.Rows PySem.Calls PySem.Spec PySem.Builtin PySem.Builtin.Str PySem.SeqAt PySem.Builtin.ObjectAttr

theorem pick_rangeA {α : Type} (l : List α) (a : Nat) : ∀ k : Nat, (List.range k).filterMap (fun i => l[a + i]?) = (l.drop a).take k
  | 0 => rfl
  | k + 1 => by
    rw [List.range_succ, List.filterMap_append, pick_rangeA l a k, List.take_add_one, List.getElem?_drop, List.filterMap_cons]
    cases l[a + k]? <;> rfl
theorem sb_from (i n : Nat) : sliceBounds (some (i : Int)) none none n = (((min i n : Nat) : Int), (n : Int), 1) := congrArg (fun x : Int => (x, (n : Int), (1 : Int))) (clip_nat i n)
theorem pickPV_from (vs : List PV) (i : Nat) : pickPV vs (some (i : Int)) none none = vs.drop i := by
  unfold pickPV
  have h1 : sliceBounds (some (i : Int)) none none vs.length = (((min i vs.length : Nat) : Int), (vs.length : Int), 1) := sb_from _ _
  rw [h1, sliceRange_one, List.filterMap_map]
  have : ((fun x => vs[x]?) ∘ fun x => min i vs.length + x) = fun j => vs[min i vs.length + j]? := rfl
  rw [this, pick_rangeA]
  rcases Nat.le_total i vs.length with h | h
  · rw [Nat.min_eq_left h, List.take_of_length_le (by rw [List.length_drop]; omega)]
  · rw [Nat.min_eq_right h, List.drop_length, List.take_nil, List.drop_of_length_le h]
theorem cutPV_from (vs us : List PV) (i : Nat) : cutPV vs (some (i : Int)) none us = vs.take i ++ us := by
  unfold cutPV
  have h1 : sliceBounds (some (i : Int)) none none vs.length = (((min i vs.length : Nat) : Int), (vs.length : Int), 1) := sb_from _ _
  rw [h1]
  have h2 : (max ((min i vs.length : Nat) : Int) (vs.length : Int)).toNat = vs.length := by rw [Int.max_eq_right (Int.ofNat_le.mpr (Nat.min_le_right _ _))]; rfl
  simp only [h2, List.drop_length, List.append_nil, Int.toNat_natCast]
  rcases Nat.le_total i vs.length with h | h
  · rw [Nat.min_eq_left h]
  · rw [Nat.min_eq_right h, List.take_length, List.take_of_length_le h]
theorem cutPV_all (vs us : List PV) : cutPV vs none none us = us := by
  unfold cutPV
  have h1 : sliceBounds none none none vs.length = ((0 : Int), (vs.length : Int), 1) := by
    rfl
  rw [h1]
  have h2 : (max (0 : Int) (vs.length : Int)).toNat = vs.length := by rw [Int.max_eq_right (Int.natCast_nonneg _)]; rfl
  simp only [h2, List.drop_length, List.append_nil]
  rfl
/-! ### lists of things: a place in the old part, a place behind -/
theorem get_old {hp ex : List AO} {k : Nat} {a : AO} (h : hp[k]? = some a) : (hp ++ ex)[k]? = some a := by
  rw [List.getElem?_append_left (List.getElem?_eq_some_iff.mp h).1]; exact h
theorem get_new0 (hp : List AO) (a : AO) (ex : List AO) : (hp ++ a :: ex)[hp.length]? = some a := by
  rw [List.getElem?_append_right (Nat.le_refl _), Nat.sub_self]; rfl
theorem set_old {hp ex : List AO} {k : Nat} {a b : AO} (h : hp[k]? = some a) : (hp ++ ex).set k b = hp.set k b ++ ex := List.set_append_left _ _ (List.getElem?_eq_some_iff.mp h).1
end VC
namespace VC
open PySem PySem.W PyProof.Rows PySem.Calls PySem.Spec PySem.Builtin PySem.Builtin.Str PySem.SeqAt

section
variable {prog : Program} {w : World} {A : Around} {E : Value → Shared → Prop} {s : Shared} {I : Addr} {fp wr : List Addr} {G : Array GenState → Array GenState → Prop} {n : Nat} {Pt : Nat → Value → Prop} {Stt : Nat → Shared → Prop}
/-- a walk, as if one item lay behind it -/
theorem walks_late (W : WalksS prog w A I fp wr G n Pt Stt) : WalksS prog w A I fp wr G (n + 1) (fun i v => ∃ j, i = j + 1 ∧ Pt j v) (fun i s => ∃ j, i = j + 1 ∧ Stt j s) where
  sub := W.sub
  grefl := W.grefl
  gtrans := W.gtrans
  frame := fun i s h' tk ⟨j, e, st⟩ ht hk => ⟨j, e, W.frame j s h' tk st ht hk⟩
  item := fun i s Q E hi ⟨j, e, st⟩ hQ => W.item j s Q E (by omega) st fun v s' hp st' hm => hQ v s' ⟨j, e, hp⟩ ⟨j + 1, by omega, st'⟩ hm
  done := fun s Q E ⟨j, e, st⟩ hQ => W.done s Q E ((show j = n by omega) ▸ st) hQ
  self := fun i s Q E ⟨j, _, st⟩ hQ => W.self j s Q E st hQ
noncomputable def fromSum (i : Int) (val : Nat → Int) : Nat → Int
  | 0 => i
  | j + 1 => val j
theorem preSum_from (i : Int) (val : Nat → Int) : ∀ n, preSum (fromSum i val) (n + 1) = i + preSum val n
  | 0 => by simp [preSum, fromSum]
  | n + 1 => by
    rw [preSum, preSum_from i val n]
    show i + preSum val n + val n = i + (preSum val n + val n)
    omega
theorem args_sum2 (a b : Value) : argsOk "sum" ⟨[a, b], []⟩ := by unfold argsOk; kernel_rfl
theorem call_sum2 {x : Value} {i : Int} {u : Tok} {Q : Value → Shared → Prop}
    (h : wpAny (model prog w) A.in1 (pyIter x) (fun it s₂ => ∃ I fp wr G n P St val, it = .ref I ∧ WalksS prog w A.in1 I fp wr G n P St ∧ St 0 s₂ ∧ (∀ b ∈ fp, b < s₂.heap.objs.size) ∧
      (∀ i v, P i v → ∃ t, v = .int (val i) t) ∧
      ∀ s' t', Moved wr G s₂ s' → Q (.int (i + preSum val n) t') s') E s) :
    wpAny (model prog w) A (call (.builtin "sum") [x, .int i u]) Q E s := by
  refine call_function_tree PySem.F.kind_sum PySem.F.plain_sum PySem.F.entry_sum (args_sum2 _ _) ?_
  unfold Builtin.«sum»
  simp only [List.length_cons, List.length_nil]
  rw [if_neg (by decide)]
  refine wpAny_bind (wpAny_of_eq (show Builtin.Builtins.bindParams "sum" ["start"] 0 ⟨[.int i u], []⟩ = pure [some (.int i u)] from rfl) ?_)
  refine wpAny_bind (wpAny_mono h (fun it s₂ h₂ => ?_) fun _ _ e => e)
  obtain ⟨I, fp, wr, G, n, P, St, val, rfl, W, hst, hfp, hval, hQ⟩ := h₂
  have hval' : ∀ k v, (∃ j, k = j + 1 ∧ P j v) → ∃ t, v = .int (fromSum i val k) t := by rintro k v ⟨j, rfl, hp⟩; exact hval j v hp
  have h1 : preSum (fromSum i val) 1 = i := by rw [preSum_from]; simp [preSum]
  dsimp only
  split
  · refine wpAny_bind (wpAny_rule (wpAny_bind (wpAny_mkInt (wpAny_bind (wpAny_pure ?_)))))
    simp only [List.forIn_cons, List.forIn_nil]
    refine wpAny_bind (wpAny_bind (wpAny_bind (wpAny_isInstance (T := "int") (b := false) (typeIs_int _ _ _) PySem.sub_int_str ?_)))
    simp only [Bool.false_eq_true, if_false]
    refine wpAny_pure (wpAny_bind (wpAny_bind (wpAny_isInstance (T := "int") (b := false) (typeIs_int _ _ _) PySem.sub_int_bytes ?_)))
    simp only [Bool.false_eq_true, if_false]
    refine wpAny_pure (wpAny_bind (wpAny_bind (wpAny_isInstance (T := "int") (b := false) (typeIs_int _ _ _) PySem.sub_int_bytearray ?_)))
    simp only [Bool.false_eq_true, if_false]
    refine wpAny_pure (wpAny_pure ?_)
    refine wpAny_bind (wpAny_newObj_type ?_)
    have hSf : s₂.heap.objs.size ∉ fp := fun hm => Nat.lt_irrefl _ (hfp _ hm)
    refine wpAny_pure ⟨plainId_quiet PySem.F.plain_sum_loop _, codeAny_sum_loopAnyS (walks_late W) (fromSum i val) hval' s₂.heap.objs.size hSf n 1 _ s₂.toks 0 0 (.inl rfl) (by omega) (by omega)
      ⟨0, rfl, W.frame 0 s₂ _ _ hst (by first | exact Nat.le_refl _ | exact Nat.le_succ _ | omega) fun b _ o e => Heap.get?_push_of_some _ e⟩ (by rw [h1]; exact Heap.get?_push_size _ rfl) fun s' t' hm => ?_⟩
    have := hQ s' t' (hm.drop_new (by first | exact Nat.le_refl _ | exact Nat.le_succ _ | omega))
    rw [preSum_from]
    exact this
  · refine wpAny_bind (wpAny_pure ?_)
    simp only [List.forIn_cons, List.forIn_nil]
    refine wpAny_bind (wpAny_bind (wpAny_bind (wpAny_isInstance (T := "int") (b := false) (typeIs_int _ _ _) PySem.sub_int_str ?_)))
    simp only [Bool.false_eq_true, if_false]
    refine wpAny_pure (wpAny_bind (wpAny_bind (wpAny_isInstance (T := "int") (b := false) (typeIs_int _ _ _) PySem.sub_int_bytes ?_)))
    simp only [Bool.false_eq_true, if_false]
    refine wpAny_pure (wpAny_bind (wpAny_bind (wpAny_isInstance (T := "int") (b := false) (typeIs_int _ _ _) PySem.sub_int_bytearray ?_)))
    simp only [Bool.false_eq_true, if_false]
    refine wpAny_pure (wpAny_pure ?_)
    refine wpAny_bind (wpAny_newObj_type ?_)
    have hSf : s₂.heap.objs.size ∉ fp := fun hm => Nat.lt_irrefl _ (hfp _ hm)
    refine wpAny_pure ⟨plainId_quiet PySem.F.plain_sum_loop _, codeAny_sum_loopAnyS (walks_late W) (fromSum i val) hval' s₂.heap.objs.size hSf n 1 _ _ 0 2 (.inr rfl) (by omega) (by omega)
      ⟨0, rfl, W.frame 0 s₂ _ _ hst (Nat.le_refl _) fun b _ o e => Heap.get?_push_of_some _ e⟩ (by rw [h1]; exact Heap.get?_push_size _ rfl) fun s' t' hm => ?_⟩
    have := hQ s' t' (hm.drop_new (Nat.le_refl _))
    rw [preSum_from]
    exact this
end
end VC
namespace VC
open PySem PySem.W PyProof.Rows PySem.Calls PySem.Spec PySem.Builtin PySem.Builtin.Str PySem.SeqAt

/-! ### going over an object's row, pair by pair -/
noncomputable def HasSeq (h : Heap) (a : Addr) (ws : Array Value) : Prop := ∃ o, h.get? a = some o ∧ ∃ n, o.data = .seq ws n
theorem HasSeq.at {h h' : Heap} {a : Addr} {ws : Array Value} (x : HasSeq h a ws) (k : ∀ o, h.get? a = some o → h'.get? a = some o) : HasSeq h' a ws := let ⟨o, e, r⟩ := x; ⟨o, k o e, r⟩

section
variable {prog : Program} {w : World} {A : Around} {E : Value → Shared → Prop} {s : Shared}
theorem next_item {it l : Addr} {i : Nat} {items : Array Value} {x : Value} {Q : Option Value → Shared → Prop} (hit : s.heap.IsListIter it l i) (hl : HasSeq s.heap l items) (hx : items[i]? = some x)
    (hQ : ∀ h', h'.IsListIter it l (i + 1) → Heap.SameBut it s.heap h' → Q (some x) { s with heap := h' }) : wpAny (model prog w) A (pyNext (.ref it)) Q E s := by
  obtain ⟨o, ho, hc, hd⟩ := id hit
  obtain ⟨ol, hol, nl, hdl⟩ := hl
  unfold pyNext
  refine wpAny_bind (wpAny_attempt (wpAny_callSpecial?_slot (name := Str.ofString "__next__") hit.typeIs slot_listiter_next (wpAny_call_entry slot_listiter_next hit.typeIs entry_listiter_next ?_ (args_listiter_next _))))
  show wpAny _ _ (field (.ref it) 0 >>= _) _ _ s
  refine wpAny_bind (wpAny_field ho hd (x := .ref l) rfl ?_)
  show wpAny _ _ (if (Value.ref l == Value.none) = true then _ else _) _ _ s
  rw [if_neg (show ¬ ((Value.ref l == Value.none) = true) from Bool.false_ne_true)]
  show wpAny _ _ (field (.ref it) 1 >>= _) _ _ s
  refine wpAny_bind (wpAny_field ho hd (x := .int i 0) rfl ?_)
  show wpAny _ _ (seqItems? (.ref l) >>= _) _ _ s
  refine wpAny_bind (wpAny_seqItems hol hdl ?_)
  simp only [Int.toNat_natCast, hx]
  refine wpAny_bind (wpAny_setField ho hd (by simp) (wpAny_pure ⟨x, rfl, wpAny_pure (hQ _ ?_ (Heap.SameBut.update ..))⟩))
  exact ⟨_, Heap.get?_update_self _ ho (Obj.isFreed_of_fields (Obj.data_mapFields hd _)), (Obj.cls_mapFields ..).trans hc, by
    rw [Obj.data_mapFields hd]; simp [rawInt]⟩
theorem next_end {it l : Addr} {i : Nat} {items : Array Value} {Q : Option Value → Shared → Prop} (hh : A.handled = none) (hit : s.heap.IsListIter it l i) (hl : HasSeq s.heap l items) (hx : items[i]? = none)
    (hQ : ∀ h', Heap.ExtBut it s.heap h' → Q none { s with heap := h' }) : wpAny (model prog w) A (pyNext (.ref it)) Q E s := by
  obtain ⟨o, ho, hc, hd⟩ := id hit
  obtain ⟨ol, hol, nl, hdl⟩ := hl
  unfold pyNext
  refine wpAny_bind (wpAny_attempt (wpAny_callSpecial?_slot (name := Str.ofString "__next__") hit.typeIs slot_listiter_next (wpAny_call_entry slot_listiter_next hit.typeIs entry_listiter_next ?_ (args_listiter_next _))))
  show wpAny _ _ (field (.ref it) 0 >>= _) _ _ s
  refine wpAny_bind (wpAny_field ho hd (x := .ref l) rfl ?_)
  show wpAny _ _ (if (Value.ref l == Value.none) = true then _ else _) _ _ s
  rw [if_neg (show ¬ ((Value.ref l == Value.none) = true) from Bool.false_ne_true)]
  show wpAny _ _ (field (.ref it) 1 >>= _) _ _ s
  refine wpAny_bind (wpAny_field ho hd (x := .int i 0) rfl ?_)
  show wpAny _ _ (seqItems? (.ref l) >>= _) _ _ s
  refine wpAny_bind (wpAny_seqItems hol hdl ?_)
  simp only [Int.toNat_natCast, hx]
  refine wpAny_bind (wpAny_rule (wpAny_bind (wpAny_setField ho hd (by simp) ?_)))
  show wpAny _ _ (newExc (.type "StopIteration") [] >>= _) _ _ _
  refine wpAny_bind ?_
  simp only [newExc, newTuple]
  refine wpAny_bind (wpAny_newObj_type ?_ (by size_fits))
  refine wpAny_bind (m := firstArgMember _ _) (wpAny_of_eq (a := Value.none) (by first | rfl | (simp only [firstArgMember]; rfl)) ?_)
  refine wpAny_newObj_type ?_ (by size_fits)
  simp only [raiseNew]
  refine wpAny_bind (wpAny_handled ?_)
  rw [show A.in1.handled = none from hh]
  refine wpAny_bind (wpAny_pure (wpAny_throw ?_))
  refine wpAny_bind (wpAny_isInstance (T := "StopIteration") (b := true) ⟨_, Heap.get?_push_size _ rfl, rfl⟩ isSubtype_stop ?_)
  exact wpAny_pure (hQ _ (((Heap.SameBut.update ..).extBut.push _).push _))
end

theorem walks_acc {prog : Program} {w : World} {A : Around} (hh : A.handled = none) (I ax : Addr) (hne : ax ≠ I) (items : Array Value) (Ts : Nat → Addr) (vals : Nat → Array Value)
    (hit : ∀ j, j < items.size → items[j]? = some (.ref (Ts j))) (hTI : ∀ j, j < items.size → Ts j ≠ I) :
    WalksU prog w A I (I :: ax :: (List.range items.size).map Ts) [I] items.size (fun j v => j < items.size ∧ v = vals j)
      (fun j h => h.IsListIter I ax j ∧ HasSeq h ax items ∧ ∀ k, k < items.size → h.IsTuple (Ts k) (vals k))
      (fun j T h => (j < items.size ∧ T = Ts j) ∧ h.IsListIter I ax (j + 1) ∧ HasSeq h ax items ∧ ∀ k, k < items.size → h.IsTuple (Ts k) (vals k)) where
  sub := fun b hb => by simp at hb; simp [hb]
  frame := fun _ _ _ st hk => ⟨st.1.at fun o e => hk I (by simp) o e, st.2.1.at fun o e => hk ax (by simp) o e,
    fun k hk' => (st.2.2 k hk').at fun o e => hk (Ts k) (List.mem_cons_of_mem _ (List.mem_cons_of_mem _ (List.mem_map.mpr ⟨k, List.mem_range.mpr hk', rfl⟩))) o e⟩
  item := fun i s Q E hi st hQ => by
    refine next_item st.1 st.2.1 (x := .ref (Ts i)) (hit i hi) fun h' hit' hs' => ?_
    have tup : ∀ k, k < items.size → h'.IsTuple (Ts k) (vals k) := fun k hk' => (st.2.2 k hk').extBut hs'.extBut (hTI k hk')
    exact hQ (Ts i) (vals i) h' s.toks ⟨hi, rfl⟩ (tup i hi) ⟨⟨hi, rfl⟩, hit', st.2.1.at fun o e => hs'.extBut ax o hne e, tup⟩ fun b o hb e => hs'.extBut b o (fun h => hb (by simp [h])) e
  go := fun _ _ _ _ _ s Q _ hm hQ => wpAny_letOwnedTupleGo_listiter hm.2.1 (hQ s.heap hm.2 fun _ _ _ e => e)
  apart := fun j T _ hm hmem => by
    rcases List.mem_cons.mp hmem with e | e
    · exact hTI j hm.1.1 (hm.1.2 ▸ e)
    · cases e
  done := fun s Q E st hQ => next_end hh st.1 st.2.1 (by simp) fun h' he' => hQ h' s.toks fun b o hb e => he' b o (fun h => hb (by simp [h])) e
  self := fun _ _ _ _ st hQ => wpAny_pyIter_listiter st.1 hQ

section
variable {prog : Program} {w : World} {A : Around} {E : Value → Shared → Prop} {s : Shared} {K : Frag} {C a : Addr} {o od : Obj} {ws : Array Value} {nn : Nat}
theorem acc_ifBound {id : String} {name : Str} {refuse : Sem Value} {Q : Option Value → Shared → Prop} (X : K.In s.heap) (I : InstAt s.heap a o C (some od)) (hf : findIn K (.ref C) name = some (some (.builtin id))) (hb : ∀ self, bindSpecial (.builtin id) self = pure (.builtin id, [self]))
    (hc : wpAny (model prog w) A (call (.builtin id) [.ref a]) (fun v => Q (some v)) E s) : wpAny (model prog w) A (callSpecialIfBoundUnlessNone? (.ref a) name refuse) Q E s := by
  unfold callSpecialIfBoundUnlessNone? bindSpecialIfBound? specialOf
  refine wpAny_holding (wpAny_bind (wpAny_bind (wpAny_bind (I.type.here ((looks_findIn X hf).here ?_)))))
  dsimp only
  rw [hb]
  refine wpAny_bind (wpAny_askSetting (wpAny_ite ?_))
  have fin : wpAny (model prog w) A (if (Value.builtin id == Value.none) = true then (refuse >>= fun v => pure (some v)) else (call (.builtin id) [.ref a] >>= fun v => pure (some v))) Q E s := by
    simp only [builtin_beq_none, Bool.false_eq_true, if_false]
    exact wpAny_bind (wpAny_mono hc (fun v s' h' => wpAny_pure h') fun _ _ h' => h')
  split
  · exact wpAny_bind (wpAny_pure (wpAny_pure fin))
  · exact wpAny_tryCatch (wpAny_bind (wpAny_pure (wpAny_pure fin)))
theorem acc_iter {Q : Value → Shared → Prop} (H : AccF K C) (X : K.In s.heap) (I : InstAt s.heap a o C (some od))
    (hQ : Q (.ref s.heap.objs.size) { s with heap := s.heap.push { cls := .type "list_iterator", data := .fields #[.ref a, .int 0 0] } }) : wpAny (model prog w) A (pyIter (.ref a)) Q E s := by
  unfold pyIter specialOf
  refine wpAny_bind (wpAny_bind (I.type.here ((looks_findIn X H.iter).here ?_)))
  dsimp only
  have hc : wpAny (model prog w) A (call (.builtin "list.__iter__") [.ref a]) (fun it s' => it = .ref s.heap.objs.size ∧ s' = { s with heap := s.heap.push { cls := .type "list_iterator", data := .fields #[.ref a, .int 0 0] } }) E s := by
    refine acc_call H X I (n := "__iter__") (by decide +kernel) (.inl (by decide +kernel)) (by decide +kernel) PySem.F.entry_list_iter (PySem.F.args_list_iter_1 _) ?_
    show wpAny _ _ (do ret (← newFields "list_iterator" [.ref a, rawInt 0])) _ _ s
    exact wpAny_bind (wpAny_newObj_type (wpAny_pure ⟨rfl, rfl⟩))
  refine wpAny_bind (acc_ifBound X I H.iter PySem.F.slot_list_iter.bind (wpAny_mono hc (fun v s' h' => ?_) fun _ _ e => e))
  obtain ⟨rfl, rfl⟩ := h'
  exact wpAny_bind (wpAny_specialOf (T := "list_iterator") ⟨_, Heap.get?_push_size _ rfl, rfl⟩ slot_listiter_next.lookup (wpAny_pure hQ))
end
end VC
namespace VC
open PySem PySem.W PyProof.Rows PySem.Calls PySem.Spec PySem.Builtin PySem.Builtin.Str PySem.SeqAt

section
variable {prog : Program} {w : World} {A : Around} {E : Value → Shared → Prop} {s : Shared} {K : Frag} {C a : Addr} {o od : Obj} {name : Str} {expr : Bool}
theorem ga_kind : (Manifest.find? "list").bind (·.attrs.lookup "__getattribute__") = some .slot ∨ (Manifest.find? "list").bind (·.attrs.lookup "__getattribute__") = some .method := .inl (by decide +kernel)
theorem ga_args (x y : Value) : argsOk "list.__getattribute__" ⟨[x, y], []⟩ := by unfold argsOk; kernel_rfl
theorem ga_bind (self : Value) : bindSpecial (.builtin "list.__getattribute__") self = pure (.builtin "list.__getattribute__", [self]) :=
  (Slot.of (T := "list") (name := "__getattribute__") (owner := "list") (n := "__getattribute__") (by rw [typeLookup_type, builtinLookup_eq_fast]; kernel_rfl) (by decide +kernel) (by decide +kernel) (by decide +kernel) (.inl (by decide +kernel)) (by rw [isSubtype_type]; kernel_rfl)).bind self

/-- an own name of an object is read -/
theorem acc_get {v : Value} {Q : Value → Shared → Prop} (H : AccF K C) (X : K.In s.heap) (I : InstAt s.heap a o C (some od)) (hf : findObj K C (some od) name = some (.value v)) (hh : handedIn v = true) (h : Q v { s with toks := s.toks + 1 }) :
    wpAny (model prog w) A (getAttr (.ref a) name expr) Q E s := by
  obtain ⟨hp, g, d, t, os⟩ := s
  have L0 := I.type (M := model prog w)
  have L1 := looks_findIn (M := model prog w) X H.ga
  have L2 := looks_findIn (M := model prog w) X H.gat
  have L3 := looks_find (M := model prog w) X I hf
  unfold getAttr getAttrBy
  refine wpAny_bind (wpAny_mkText (wpAny_holding (wpAny_bind (L0.at (wpAny_bind (L1.at ?_))))))
  show wpAny _ _ (getAttrByItsOwn (.ref a) (.str name t) (.ref C) (.builtin "list.__getattribute__") true expr) _ _ _
  unfold getAttrByItsOwn hookBefore callGetattribute boundAndCalled
  rw [show onTheHeap (Value.ref C) = true from rfl, if_pos rfl]
  refine wpAny_bind (L2.at ?_)
  rw [show (expr && onTheHeap (Value.builtin "list.__getattribute__")) = false from by cases expr <;> rfl, if_neg (by decide)]
  refine wpAny_bind (wpAny_attempt (wpAny_holding ?_))
  rw [ga_bind]
  refine wpAny_bind (wpAny_pure ?_)
  have key : wpAny (model prog w) A (call (.builtin "list.__getattribute__") [.ref a, .str name t]) (fun u s' => u = v ∧ s' = ⟨hp, g, d, t + 1, os⟩) (fun _ _ => False) ⟨hp, g, d, t + 1, os⟩ := by
    refine acc_call (s := ⟨hp, g, d, t + 1, os⟩) H X I (n := "__getattribute__") (by decide +kernel) ga_kind (by decide +kernel) PySem.F.entry_list_ga (ga_args _ _) ?_
    unfold Builtin.«object.__getattribute__»
    show wpAny _ _ (typeOf (.ref a) >>= _) _ _ _
    refine wpAny_bind (L0.at (wpAny_bind (L3.at ?_)))
    exact wpAny_pure ⟨rfl, rfl⟩
  refine wpAny_mono key (fun u s' hu => ?_) fun _ _ z => z.elim
  obtain ⟨rfl, rfl⟩ := hu
  dsimp only
  rw [handedOut_of hh]
  exact wpAny_pure h
end
end VC
namespace VC
open PySem PySem.W PyProof.Rows PySem.Calls PySem.Spec PySem.Builtin PySem.Builtin.Str PySem.SeqAt

/-! ### a generator over an object's pairs -/
structure CodeF (K : Frag) (c Pa : Addr) : Prop where
  row : ∃ dd vs sl file tf flags tg inF text tt, K.lookup c = some ⟨.type "code", dd, .fields vs, sl⟩ ∧ vs[11]? = some (.ref Pa) ∧ vs.getD 11 .none = .ref Pa ∧ vs.getD 18 .none = .str file tf ∧ vs.getD 7 .none = .int flags tg ∧ vs.getD 9 .none = .bool inF ∧ vs.getD 10 .none = .int text tt
  tab : tabOf K c = some Pa

section
variable {M : Model} {A : Around} {E : Value → Shared → Prop} {s : Shared} {K : Frag} {c Pa : Addr} {ps : Array Value}
theorem code_at (F : CodeF K c Pa) (X : K.In s.heap) (ht : s.heap.get? Pa = some { cls := .none, data := .fields ps }) (ok : TriplesOk ps.toList) : s.heap.IsCode c Pa ps ∧ s.heap.TableAt c Pa ps := by
  obtain ⟨dd, vs, sl, file, tf, flags, tg, inF, text, tt, h1, h2, h3, h4, h5, h6, h7⟩ := F.row
  have hc := X _ _ h1
  refine ⟨⟨_, vs, file, tf, flags, tg, inF, text, tt, _, hc, rfl, h3, h4, h5, h6, h7, ht, rfl, ok, fun q => ?_⟩, ⟨_, vs, hc, rfl, rfl, h2⟩, ht⟩
  rw [q, ht] at hc; cases hc
theorem gen_code {env : Env} {pos : Pos} {qualname : Str} {scope : Scope} {Q : Value → Shared → Prop} (hc : env.code = .ref c) (F : CodeF K c Pa) (X : K.In s.heap) (ht : s.heap.get? Pa = some { cls := .none, data := .fields ps }) (ok : TriplesOk ps.toList)
    (hQ : ∀ code h' tk ps', Heap.ExtBut Pa s.heap h' → h'.get? Pa = some { cls := .none, data := .fields ps' } → TriplesOk ps'.toList → s.heap.objs.size ≤ h'.objs.size → Q code { s with heap := h', toks := tk }) :
    wpAny M A (genexprCode env pos qualname scope) Q E s := by
  obtain ⟨h1, h2⟩ := code_at F X ht ok
  cases e : codeAmong pos ps.toList with
  | some v => exact wpAny_genexprCode_hit hc h1 e (hQ v s.heap s.toks ps (Heap.ExtBut.refl _ _) ht ok (Nat.le_refl _))
  | none =>
    refine wpAny_genexprCodeX hc h1 h2 e fun c' h' tk hx hge hlt hcode _ htab _ => ?_
    obtain ⟨_, _, _, _, _, _, _, _, _, op, _, _, _, _, _, _, _, hop, hpd, htr, _⟩ := hcode
    exact hQ _ h' tk _ hx htab.2 htr (Nat.le_trans hge (Nat.le_of_lt hlt))
end

noncomputable def pairPV (q : Str × Str) : PV := .tup [.str q.1, .str q.2]
theorem passing_all (n : Nat) : passing (fun _ => true) n 0 = List.range n := by
  unfold passing
  rw [List.drop_zero]
  exact List.filter_eq_self.mpr fun _ _ => rfl

section
variable {P : PE} {fe : FE} {n : Nat} {loc : Loc} {hp : List AO} {X : Fx} {m : Str → Option Value} {θ : List Addr} {s : Shared}
/-- what the pairs are on the heap -/
theorem pairs_at {h : Heap} : ∀ {vs : List (Str × Str)} {ws : List Value}, VRels h (vs.map pairPV) ws → ∃ (Ts : Nat → Addr) (vals : Nat → Array Value), ∀ j q, vs[j]? = some q → ws[j]? = some (.ref (Ts j)) ∧ IsTup h (Ts j) (vals j) ∧ ∃ t u, vals j = #[.str q.1 t, .str q.2 u]
  | [], _, r => ⟨fun _ => 0, fun _ => #[], fun j q e => by simp at e⟩
  | q0 :: vs, _, r => by
    obtain ⟨w, ws', rfl, r1, r2⟩ := r
    obtain ⟨a, us, rfl, ht, rs⟩ := r1
    obtain ⟨v1, _, e1, ⟨t, rfl⟩, v2, _, e2, ⟨u, rfl⟩, e3⟩ := rs
    obtain ⟨Ts, vals, hT⟩ := pairs_at r2
    refine ⟨fun j => match j with | 0 => a | j + 1 => Ts j, fun j => match j with | 0 => us | j + 1 => vals j, fun j q e => ?_⟩
    cases j with
    | zero =>
      simp at e; subst e
      refine ⟨rfl, ht, t, u, ?_⟩
      apply Array.ext'
      rw [e1, e2, e3]
    | succ j => simpa using hT j q (by simpa using e)

/-- what a made generator gives to whom it is handed -/
noncomputable def GenGives (P : PE) (A : Around) (K0 : Addr) (a : Addr) (n : Nat) (F : Nat → Value → Prop) (s : Shared) : Prop :=
  ∃ fp wr g St, WalksS P.prog P.w A.in4 a fp wr (GenOnlyQ g) n F St ∧ St 0 s ∧ (∀ i s', St i s' → s'.TypeIs (.ref a) "generator") ∧ a ∈ fp ∧ (∀ b ∈ fp, b < s.heap.objs.size) ∧ ∀ b ∈ wr, K0 ≤ b

theorem acc_gen {elt : PySem.Expr} {xa xb : Str} {pa pb pt pself : Pos} {kt k d kt' : Nat} {c Pa : Addr} {vs : List (Str × Str)} {i : Option Int} {scope : Scope} {pos : Pos} {g : Str × Str → PV} {Q E : Value → Shared → Prop} (H : AccF P.K P.C) (CF : CodeF P.K c Pa) (C : Cx P fe n X) (S : SR P fe X m loc hp θ s)
    (hcode : fe.code = .ref c) (htab : hp[kt]? = some (.tab c)) (hl : loc.lookup (Str.ofString "self") = some (.o k)) (hself : fe.scope.names.lookup (Str.ofString "self") = some .local) (hk : hp[k]? = some (.acc d (vs.map pairPV))) (hd : hp[d]? = some (.dct i))
    (hco : scope.isCoroutine = false) (hfree : ∀ y ∈ scope.names, y.2 ≠ .free) (hcell : ∀ y ∈ scope.names, y.2 ≠ .cell) (h0 : scope.names.lookup (".0" : Str) = some NameKind.local)
    (hxa : scope.names.lookup xa = some .local) (hxb : scope.names.lookup xb = some .local) (hab : xa ≠ xb) (hkind : scope.kind = .function)
    (helt : ∀ (A' : Around) (C' : Addr) (code : Value) q, q ∈ vs → A'.handled = none → TQ P A' (genEnv scope [] C' code builtinsNs (fe.env X)) [(xa, .str q.1), (xb, .str q.2)] none (eval elt (genEnv scope [] C' code builtinsNs (fe.env X))) (g q))
    (hQ : ∀ a s5, SR P fe X m loc hp θ s5 → St X.L θ s θ s5 → s.heap.objs.size ≤ s5.heap.objs.size → (∀ s', (∀ b o, b < s.heap.objs.size → s5.heap.get? b = some o → s'.heap.get? b = some o) → AllBare s'.gens → s'.os = s.os → SR P fe X m loc hp θ s' ∧ St X.L θ s θ s') → GenGives P X.A s.heap.objs.size a vs.length (fun j y => ∃ q, vs[j]? = some q ∧ VV (g q) y) s5 → Q (.ref a) s5) :
    wpAny (model P.prog P.w) X.A (eval (.GeneratorExp elt [⟨.Tuple [.Name xa pa, .Name xb pb] kt' pt, .Name (Str.ofString "self") pself, [], 0⟩] scope pos) (fe.env X)) Q E s := by
  obtain ⟨a, o, ws, nn, dx, od, ea, edx, hdx, hod, I, rs, rd⟩ := acc_at S hk hd
  obtain ⟨v, hv, a', ea', rfl⟩ := S.loc _ _ hl
  rw [ea] at ea'; cases ea'
  have X0 := C.gd.1.keeps S.fr.keep
  obtain ⟨bm, ob, BM⟩ := C.sc.2.2
  obtain ⟨pa', epa, htab0⟩ := S.H.at htab
  obtain ⟨etab, ps, hps, hok⟩ := htab0
  have epa' : pa' = Pa := Option.some.inj (etab.symm.trans CF.tab)
  subst epa'
  have hsize : ws.size = vs.length := by rw [← Array.length_toList, rs.length, List.length_map]
  obtain ⟨Ts, vals, hT⟩ := pairs_at rs
  have hT' : ∀ j, j < ws.size → ∃ q, vs[j]? = some q ∧ ws[j]? = some (.ref (Ts j)) ∧ IsTup s.heap (Ts j) (vals j) ∧ ∃ t u, vals j = #[.str q.1 t, .str q.2 u] := fun j hj => by
    have hj' : j < vs.length := by omega
    obtain ⟨h1, h2, h3⟩ := hT j _ (List.getElem?_eq_getElem hj')
    exact ⟨_, List.getElem?_eq_getElem hj', by simpa using h1, h2, h3⟩
  refine wpAny_GeneratorExp_walksQTD C.hA hco (closureFor_none hfree) hcell h0 hxa hxb hab hkind (by have := C.dep; omega) ?_ (fun _ => rfl)
  refine wpAny_Name (wpAny_loadName_local C.kind hself S.fr.ns hv ?_) (by decide +kernel)
  refine acc_iter H X0 I.inst ?_
  -- the iterator
  let I0 := s.heap.objs.size
  let o0 : Obj := { cls := .type "list_iterator", data := .fields #[.ref a, .int 0 0] }
  have kp : ∀ (b : Addr) (o : Obj), s.heap.get? b = some o → (s.heap.push o0).get? b = some o := fun b o e => Heap.get?_push_of_some _ e
  have S1 := S.grow (s' := { s with heap := s.heap.push o0 }) kp S.bare rfl
  have G1 := C.gd.keeps S1.fr.keep
  refine ⟨G1.2.nolimit, gen_code (Pa := pa') (ps := ps) hcode CF G1.1 (kp _ _ hps) hok fun code h₃ tk₃ ps' hx₃ hps₃ hok₃ hsz₃ => ?_⟩
  have hpg : X.g.get? pa' = none := (S.free pa' (List.mem_of_getElem? epa)).1
  have hne : ∀ b o, X.g.get? b = some o → b ≠ pa' := fun b o e q => by rw [q, hpg] at e; cases e
  have kg₃ : ∀ b o, X.g.get? b = some o → h₃.get? b = some o := fun b o e => hx₃ b o (hne b o e) (kp b o (S.fr.keep b o e))
  have G₃ := C.gd.keeps kg₃
  have BM₃ := BM.keeps kg₃
  refine wpAny_builtinsFor BM₃.ns BM₃.name BM₃.ne BM₃.obj BM₃.cls BM₃.dict BM₃.data ?_
  have alive : ∀ b o, s.heap.get? b = some o → b < s.heap.objs.size := fun b o e => Heap.lt_size e
  have haI : a ≠ I0 := Nat.ne_of_lt (alive _ _ I.inst.at_)
  have hTI : ∀ j, j < ws.size → Ts j ≠ I0 := fun j hj => by
    obtain ⟨q, _, _, ⟨o', ho', _⟩, _⟩ := hT' j hj
    exact Nat.ne_of_lt (alive _ _ ho')
  have hcst : cStatics ≠ I0 := by
    obtain ⟨mc, ⟨oc, _, _, hoc, _⟩, _⟩ := C.gd.2.nolimit
    exact Nat.ne_of_lt (alive _ _ (S.fr.keep _ _ hoc))
  have hIp : I0 ≠ pa' := Ne.symm (Nat.ne_of_lt (alive _ _ hps))
  have hap : a ≠ pa' := fun q => by
    have := I.inst.at_; rw [q, hps] at this; cases this
    have hd := I.data; cases hd
  have hTp : ∀ j, j < ws.size → Ts j ≠ pa' := fun j hj q => by
    obtain ⟨_, _, _, ⟨o', ho', hc', _⟩, _⟩ := hT' j hj
    rw [q, hps] at ho'; cases ho'; cases hc'
  refine ⟨I0, I0 :: a :: (List.range ws.size).map Ts, [I0], ws.size, _, _, _, fun _ => true, fun j y => ∃ q, vs[j]? = some q ∧ VV (g q) y, rfl, fun A' hA => walks_acc hA I0 a haI ws Ts vals (fun j hj => let ⟨_, _, h, _⟩ := hT' j hj; h) hTI, ?_, ?_, ?_, G₃.2.nolimit, ?_, ?_, ?_⟩
  · rintro j vals' ⟨hj, rfl⟩
    obtain ⟨q, _, _, _, t, u, e⟩ := hT' j hj
    exact ⟨_, _, e⟩
  · refine ⟨?_, ?_, fun j hj => ?_⟩
    · exact ⟨o0, hx₃ _ _ hIp (Heap.get?_push_size _ rfl), rfl, rfl⟩
    · exact ⟨o, hx₃ _ _ hap (kp _ _ I.inst.at_), nn, I.data⟩
    · obtain ⟨_, _, _, ⟨o', ho', r⟩, _⟩ := hT' j hj
      exact ⟨o', hx₃ _ _ (hTp j hj) (kp _ _ ho'), r⟩
  · intro b hb
    refine Nat.lt_of_lt_of_le ?_ hsz₃
    show b < (s.heap.push o0).objs.size
    rw [Heap.size_push]
    rcases List.mem_cons.mp hb with rfl | hb
    · exact Nat.lt_succ_self _
    · rcases List.mem_cons.mp hb with rfl | hb
      · exact Nat.lt_succ_of_lt (alive _ _ I.inst.at_)
      · obtain ⟨j, hj, rfl⟩ := List.mem_map.mp hb
        obtain ⟨_, _, _, ⟨o', ho', _⟩, _⟩ := hT' j (List.mem_range.mp hj)
        exact Nat.lt_succ_of_lt (alive _ _ ho')
  · intro q; exact hcst (List.mem_singleton.mp q)
  · intro href hhref
    refine ⟨fun A' E' j va vb s₂ m₂ _ _ _ _ _ _ _ _ => ?_, fun A' E' j va vb s₂ m₂ hA' _ _ hP _ hns hma hmb hkp => ?_⟩
    · show wpAny _ _ (pure true) _ _ _
      exact wpAny_pure ⟨rfl, keeps_refl _⟩
    · obtain ⟨hj, e⟩ := hP
      obtain ⟨q, hq, _, _, t, u, e'⟩ := hT' j hj
      rw [e'] at e
      have e1 : va = .str q.1 t := by have := congrArg (fun x : Array Value => x[0]?) e; simpa using this
      have e2 : vb = .str q.2 u := by have := congrArg (fun x : Array Value => x[1]?) e; simpa using this
      subst e1 e2
      have kg : ∀ b o, X.g.get? b = some o → s₂.heap.get? b = some o := fun b o e => hkp b (List.mem_range.mpr (Heap.lt_size (kg₃ b o e))) (fun q => by
        have := alive _ _ (S.fr.keep b o e)
        rw [List.mem_singleton.mp q] at this; exact absurd this (Nat.lt_irrefl _)) o (hhref b o (kg₃ b o e))
      refine helt A' _ code q (List.mem_of_getElem? hq) hA' s₂ E' _ ⟨C.gd.keeps kg, ⟨m₂, hns, fun y p e => ?_⟩, fun _ _ e => by cases e⟩ fun y s₃ hy hk3 => ⟨⟨q, hq, hy⟩, hk3⟩
      rw [List.lookup_cons] at e
      split at e
      · rename_i hy; cases e; rw [beq_iff_eq.mp hy]; exact ⟨_, hma, VV.mk_str _ _⟩
      · rw [List.lookup_cons] at e
        split at e
        · rename_i hy; cases e; rw [beq_iff_eq.mp hy]; exact ⟨_, hmb, VV.mk_str _ _⟩
        · cases e
  · intro ag h₅ tk gs hgb hag hsz₅ hk₅ W hat
    have k₅ : ∀ b o, b ≠ pa' → s.heap.get? b = some o → h₅.get? b = some o := fun b o hb e => hk₅ b o (hx₃ b o hb (kp b o e))
    have hset : hp.set kt (.tab c) = hp := by
      apply List.ext_getElem?
      intro j
      by_cases hj : kt = j
      · subst hj; rw [List.getElem?_set_self (List.getElem?_eq_some_iff.mp htab).1, htab]
      · rw [List.getElem?_set_ne hj]
    have key : ∀ s' : Shared, (∀ b o, b < s.heap.objs.size → h₅.get? b = some o → s'.heap.get? b = some o) → AllBare s'.gens → s'.os = s.os → SR P fe X m loc hp θ s' ∧ St X.L θ s θ s' := by
      intro s' hk' hb' ho'
      have F₅ : Fr X.g X.L s'.heap m := by
        obtain ⟨oL, es, ep, hL, r⟩ := S.fr.ns
        exact ⟨⟨oL, es, ep, hk' _ _ (alive _ _ hL) (k₅ _ _ (Ne.symm (S.free pa' (List.mem_of_getElem? epa)).2) hL), r⟩, fun b o e => hk' _ _ (alive _ _ (S.fr.keep b o e)) (hk₅ b o (kg₃ b o e)), S.fr.above⟩
      have r := S.putL (s' := s') (ao := .tab c) epa F₅ (fun b o hb _ e => hk' _ _ (alive _ _ e) (k₅ b o hb e)) (fun _ => ⟨CF.tab, ps', hk' _ _ (alive _ _ hps) (hk₅ _ _ hps₃), hok₃⟩) (fun _ _ e => by cases e) hb' ho'
      rw [hset] at r
      exact r
    obtain ⟨S5, st5⟩ := key { s with gens := s.gens.push gs, toks := tk, heap := h₅ } (fun b o _ e => e) (AllBare.push S.bare hgb) rfl
    have hlen : (passing (fun _ => true) ws.size 0).length = vs.length := by rw [passing_all, List.length_range, hsize]
    rw [hlen] at W
    have hle₅ : s.heap.objs.size ≤ h₅.objs.size := by
      rw [hsz₅]
      have : s.heap.objs.size ≤ h₃.objs.size := Nat.le_trans (by show _ ≤ (s.heap.push o0).objs.size; rw [Heap.size_push]; exact Nat.le_succ _) hsz₃
      exact Nat.le_trans this (Nat.le_trans (Nat.le_of_lt hag) (Nat.le_succ _))
    have eqF : (fun (j : Nat) (y : Value) => ∃ i, (passing (fun _ => true) ws.size 0)[j]? = some i ∧ ∃ q, vs[i]? = some q ∧ VV (g q) y) = fun j y => ∃ q, vs[j]? = some q ∧ VV (g q) y := by
      funext j y
      apply propext
      rw [passing_all]
      constructor
      · rintro ⟨i, e, r⟩
        obtain ⟨hi, e'⟩ := List.getElem?_eq_some_iff.mp e
        rw [List.getElem_range] at e'
        subst e'; exact r
      · rintro ⟨q, e, r⟩
        refine ⟨j, ?_, q, e, r⟩
        have hj : j < ws.size := by rw [hsize]; exact (List.getElem?_eq_some_iff.mp e).1
        rw [List.getElem?_range hj]
    rw [eqF] at W
    refine hQ ag _ S5 st5 hle₅ key ⟨_, _, _, _, W, hat, (fun i s' st => st.1.typeIs), List.mem_cons_self, ?_, ?_⟩
    · intro b hb
      show b < h₅.objs.size
      rw [hsz₅]
      rcases List.mem_cons.mp hb with rfl | hb
      · exact Nat.lt_succ_self _
      · rcases List.mem_cons.mp hb with rfl | hb
        · exact Nat.lt_succ_of_lt hag
        · exact Nat.lt_succ_of_lt (Nat.lt_trans (List.mem_range.mp hb) hag)
    · intro b hb
      have hs3 : s.heap.objs.size < h₃.objs.size := Nat.lt_of_lt_of_le (by show _ < (s.heap.push o0).objs.size; rw [Heap.size_push]; exact Nat.lt_succ_self _) hsz₃
      rcases List.mem_cons.mp hb with rfl | hb
      · exact Nat.le_of_lt hs3
      · rw [List.mem_singleton.mp hb]; exact Nat.le_refl _
end
end VC
namespace VC
open PySem PySem.W PyProof.Rows PySem.Calls PySem.Spec PySem.Builtin PySem.Builtin.Str PySem.SeqAt

section
variable {P : PE} {A : Around} {env : Env} {lc : List (Str × PV)} {fr : Option (Str × PV)}
theorem TQ_len {e1 : PySem.Expr} {q pos : Pos} {x : Str} (hk : env.scope.kind = .function) (hg : env.globals = mainGlobals) (hb : env.builtins = builtinsNs) (hx : env.kindOf (Str.ofString "len") = some .globalImplicit) (e : nsIn P.K mainGlobals (Str.ofString "len") = some none)
    (he : ∀ env, starEach [e1] env = [(false, eval e1 env)]) (hsz : x.length < 2 ^ 62) (ha : TQ P A env lc fr (eval e1 env) (.str x)) : TQ P A env lc fr (eval (.Call (.Name (Str.ofString "len") q) [e1] [] pos) env) (.int x.length) := fun s E Q C h => by
  refine Call_ (Name_function_global hk hx (loadGlobal_builtin (hg ▸ C.gd.2.g) (mg_none_of C.gd.1 C.gd.2.g e) (hb ▸ C.gd.2.b) ((C.gd.2.builtins _ (by decide +kernel)).trans (bb_len)) ?_) (by decide +kernel))
  refine PyProof.Rows.callWith_builtin1 ?_ (he _) (by rfl)
  refine wpAny_items_cons (ha s E _ C fun va s1 a1 k1 => wpAny_items_nil ?_) (he _)
  obtain ⟨t, rfl⟩ := a1.str
  exact PyProof.Rows.len_str (by omega) (h _ _ (VV.mk_int _ _) (keeps_trans k1 (keeps_tok _ _)))
theorem TQ_globS {y : Str} {i : Str} {t : Tok} {pos : Pos} (hk : env.scope.kind = .function) (hg : env.globals = mainGlobals) (hx : env.kindOf y = some .globalImplicit) (e : nsIn P.K mainGlobals y = some (some (.str i t))) (hd : (y == ("__debug__" : Str)) = false) : TQ P A env lc fr (eval (.Name y pos) env) (.str i) := fun s E Q C h => by
  exact Name_function_global hk hx (loadGlobal_global (hg ▸ C.gd.2.g) (mg_of C.gd.1 C.gd.2.g e) (h _ _ (VV.mk_str _ _) (keeps_refl _))) hd
/-- `sep.join((x, y))` -/
theorem TQ_join2 {o e1 e2 : PySem.Expr} {apos tp pos : Pos} {k : Nat} {x y z : Str} (hbase : ∀ env, attributeBase o (Str.ofString "join") env (eval o env) = eval o env) (hform : ∀ env, methodCallForm ([PySem.Expr.Tuple [e1, e2] k tp].length + 0) (backTo pos (starEach [.Tuple [e1, e2] k tp] env)) [] = true) (hline : (apos.endLine == pos.line) = true)
    (hs1 : ∀ env, starEach [e1, e2] env = (false, eval e1 env) :: starEach [e2] env) (hs2 : ∀ env, starEach [e2] env = (false, eval e2 env) :: starEach [] env)
    (hok : (y.length + z.length) + 2 * x.length ≤ 16777216)
    (ho : TQ P A env lc fr (eval o env) (.str x)) (h1 : TQ P A env lc fr (eval e1 env) (.str y)) (h2 : TQ P A env lc fr (eval e2 env) (.str z)) :
    TQ P A env lc fr (eval (.Call (.Attribute o (Str.ofString "join") apos) [.Tuple [e1, e2] k tp] [] pos) env) (.str (Txt.join x [y, z])) := fun s E Q C h => by
  refine MethodCall_ (ho s E _ C fun v s1 r1 k1 => ?_) (meth_eq (hbase _) (hform _) hline)
  obtain ⟨t, rfl⟩ := r1.str
  refine gm_join.of (PyProof.Rows.callWith_method1 (wpAny_items_cons (wpAny_Tuple (wpAny_items_cons (h1 s1 E _ (C.keeps k1) fun va s2 a2 k2 => wpAny_items_cons (h2 s2 E _ (C.keeps (keeps_trans k1 k2)) fun vb s3 a3 k3 => wpAny_items_nil ?_) (hs2 _)) (hs1 _))) (by rfl)) (by rfl) (by rfl))
  refine ⟨by show 2 ≤ sizeLine; decide, wpAny_items_nil ?_⟩
  obtain ⟨u, rfl⟩ := a2.str
  obtain ⟨w, rfl⟩ := a3.str
  refine PyProof.Rows.join_tuple (D := s3.heap.objs.size) (items := #[.str y u, .str z w]) ⟨_, Heap.get?_push_size _ rfl, rfl, _, rfl⟩ (ys := [y, z]) ?_ (by simpa using hok) fun t' tk => ?_
  · exact .cons _ _ (.cons _ _ .nil)
  · exact h _ _ (VV.mk_str _ _) (keeps_trans (keeps_trans (keeps_trans k1 k2) k3) ⟨_, tk, rfl, fun _ _ e => Heap.get?_push_of_some _ e⟩)
end
end VC
namespace VC
open PySem PySem.W PyProof.Rows PySem.Calls PySem.Spec PySem.Builtin PySem.Builtin.Str PySem.SeqAt

noncomputable def atI {α : Type} (f : α → Int) (vs : List α) (j : Nat) : Int := ((vs[j]?).map f).getD 0
theorem preSum_map {α : Type} (f : α → Int) (vs : List α) : ∀ n, n ≤ vs.length → preSum (atI f vs) n = ((vs.take n).map f).sum
  | 0, _ => by simp [preSum]
  | n + 1, h => by
    have hn : n < vs.length := h
    rw [preSum, preSum_map f vs n (Nat.le_of_lt hn), List.take_add_one, List.getElem?_eq_getElem hn, List.map_append, List.sum_append]
    rw [atI, List.getElem?_eq_getElem hn]
    simp only [Option.map_some, Option.getD_some, Option.toList_some, List.map_cons, List.map_nil, List.sum_cons, List.sum_nil, Int.add_zero]
theorem preSum_all {α : Type} (f : α → Int) (vs : List α) : preSum (atI f vs) vs.length = (vs.map f).sum := by
  rw [preSum_map f vs _ (Nat.le_refl _), List.take_length]

section
variable {P : PE} {fe : FE} {n : Nat} {loc : Loc} {hp : List AO} {K : LV → List AO → Prop}
theorem lookIn_IK {h : Heap} {dx : Addr} {od : Obj} {i : Int} {θ : List Addr} (hod : h.get? dx = some od) (r : ORel P h θ (.dct (some i)) dx) : ∃ t, lookIn IK od = some (some (.int i t)) := by
  obtain ⟨tk, t, n', e⟩ := r
  rw [hod] at e; cases e
  exact ⟨t, rfl⟩

theorem gives_moved {X : Fx} {m : Str → Option Value} {θ : List Addr} {s s5 : Shared} {g : Nat} {wr : List Addr} {s' : Shared} (S5 : SR P fe X m loc hp θ s5) (st5 : St X.L θ s θ s5)
    (key : ∀ s', (∀ b o, b < s.heap.objs.size → s5.heap.get? b = some o → s'.heap.get? b = some o) → AllBare s'.gens → s'.os = s.os → SR P fe X m loc hp θ s' ∧ St X.L θ s θ s')
    (hwr : ∀ b ∈ wr, s.heap.objs.size ≤ b) (hm : Moved wr (GenOnlyQ g) s5 s') : SR P fe X m loc hp θ s' ∧ St X.L θ s θ s' :=
  key s' (fun b o hb e => hm.heap b o (fun q => Nat.lt_irrefl _ (Nat.lt_of_lt_of_le hb (hwr b q))) e) (GenOnlyQ.bare hm.gens S5.bare) (hm.os.trans st5.os)

/-- `sum((elt for xa, xb in self), self.name)` -/
theorem TE_AccSum {elt : PySem.Expr} {xa xb : Str} {pa pb pt pself q pos pos2 ps2 ap : Pos} {kt k d kt' : Nat} {c Pa : Addr} {vs : List (Str × Str)} {i : Int} {scope : Scope} {v : Str × Str → Int} (H : AccF P.K P.C) (CF : CodeF P.K c Pa)
    (hcode : fe.code = .ref c) (htab : hp[kt]? = some (.tab c)) (hl : loc.lookup (Str.ofString "self") = some (.o k)) (hself : fe.scope.names.lookup (Str.ofString "self") = some .local) (hk : hp[k]? = some (.acc d (vs.map pairPV))) (hd : hp[d]? = some (.dct (some i)))
    (hx : fe.scope.names.lookup (Str.ofString "sum") = some .globalImplicit) (e : nsIn P.K mainGlobals (Str.ofString "sum") = some none)
    (hown : ∀ od t, lookIn IK od = some (some (.int i t)) → findObj P.K P.C (some od) IK = some (.value (.int i t)))
    (hco : scope.isCoroutine = false) (hfree : ∀ y ∈ scope.names, y.2 ≠ .free) (hcell : ∀ y ∈ scope.names, y.2 ≠ .cell) (h0 : scope.names.lookup (".0" : Str) = some NameKind.local)
    (hxa : scope.names.lookup xa = some .local) (hxb : scope.names.lookup xb = some .local) (hab : xa ≠ xb) (hkind : scope.kind = .function)
    (helt : ∀ (X : Fx) (C' : Addr) (code : Value) q, q ∈ vs → TQ P X.A (genEnv scope [] C' code builtinsNs (fe.env X)) [(xa, .str q.1), (xb, .str q.2)] none (eval elt (genEnv scope [] C' code builtinsNs (fe.env X))) (.int (v q)))
    (h : K (.v (.int (i + (vs.map v).sum))) hp) :
    TE P fe n (.Call (.Name (Str.ofString "sum") q) [.GeneratorExp elt [⟨.Tuple [.Name xa pa, .Name xb pb] kt' pt, .Name (Str.ofString "self") pself, [], 0⟩] scope pos2, .Attribute (.Name (Str.ofString "self") ps2) IK ap] [] pos) loc hp K := by
  intro X m θ s Q E C S kk
  refine Call_ (TE_boot hx e bb_sum (by decide) (by decide) C S ?_)
  refine PyProof.Rows.callWith_builtin1 (wpAny_items_cons (acc_gen (g := fun q => .int (v q)) H CF C S hcode htab hl hself hk hd hco hfree hcell h0 hxa hxb hab hkind ?_ fun a s5 S5 st5 hle key G => ?_) (by rfl)) (by rfl) (by rfl)
  · intro A' C' code q hq hA
    exact helt { X with A := A' } C' code q hq
  obtain ⟨a', o, ws, nn, dx, od, ea, edx, hdx, hod, I, rs, rd⟩ := acc_at S5 hk hd
  obtain ⟨v', hv, a'', ea', rfl⟩ := S5.loc _ _ hl
  rw [ea] at ea'; cases ea'
  obtain ⟨t, hlk⟩ := lookIn_IK hod rd
  have X0 := C.gd.1.keeps S5.fr.keep
  refine wpAny_items_cons (Attribute_name (wpAny_Name (wpAny_loadName_local C.kind hself S5.fr.ns hv ?_) (by decide +kernel))) (by rfl)
  refine acc_get H X0 I.inst (hown od t hlk) (by rfl) (wpAny_items_nil ?_)
  obtain ⟨fp, wr, g, Sg, W, hst, hty, hmem, hfp, hwr⟩ := G
  refine call_sum2 (W.in4_1.self 0 _ _ _ (W.frame 0 s5 s5.heap (s5.toks + 1) hst (Nat.le_succ _) fun _ _ _ e => e) ?_)
  refine ⟨a, fp, wr, _, _, _, _, atI v vs, rfl, W.in4_1, W.frame 0 s5 s5.heap (s5.toks + 1) hst (Nat.le_succ _) fun _ _ _ e => e, hfp, ?_, fun s' t' hm => ?_⟩
  · rintro j y ⟨q, hq, r⟩
    obtain ⟨t, rfl⟩ := r.int
    exact ⟨t, by simp [atI, hq]⟩
  · have hm' : Moved wr (GenOnlyQ g) s5 s' := ⟨hm.heap, hm.gens, hm.drawn, hm.os, Nat.le_of_succ_le hm.toks⟩
    obtain ⟨S', st'⟩ := gives_moved S5 st5 key hwr hm'
    rw [preSum_all]
    exact kk _ _ _ _ _ h S' ⟨_, rfl⟩ st'

/-- `sep.join((elt for xa, xb in self))` -/
theorem TE_AccJoin {elt o : PySem.Expr} {xa xb : Str} {pa pb pt pself pos pos2 apos : Pos} {kt k d kt' : Nat} {c Pa : Addr} {vs : List (Str × Str)} {i : Option Int} {scope : Scope} {v : Str × Str → Str} {x : Str} (H : AccF P.K P.C) (CF : CodeF P.K c Pa)
    (hcode : fe.code = .ref c) (htab : hp[kt]? = some (.tab c)) (hl : loc.lookup (Str.ofString "self") = some (.o k)) (hself : fe.scope.names.lookup (Str.ofString "self") = some .local) (hk : hp[k]? = some (.acc d (vs.map pairPV))) (hd : hp[d]? = some (.dct i))
    (hbase : ∀ env, attributeBase o (Str.ofString "join") env (eval o env) = eval o env) (hform : ∀ env, methodCallForm ([PySem.Expr.GeneratorExp elt [⟨.Tuple [.Name xa pa, .Name xb pb] kt' pt, .Name (Str.ofString "self") pself, [], 0⟩] scope pos2].length + 0) (backTo pos (starEach [PySem.Expr.GeneratorExp elt [⟨.Tuple [.Name xa pa, .Name xb pb] kt' pt, .Name (Str.ofString "self") pself, [], 0⟩] scope pos2] env)) [] = true) (hline : (apos.endLine == pos.line) = true)
    (hco : scope.isCoroutine = false) (hfree : ∀ y ∈ scope.names, y.2 ≠ .free) (hcell : ∀ y ∈ scope.names, y.2 ≠ .cell) (h0 : scope.names.lookup (".0" : Str) = some NameKind.local)
    (hxa : scope.names.lookup xa = some .local) (hxb : scope.names.lookup xb = some .local) (hab : xa ≠ xb) (hkind : scope.kind = .function)
    (hsz : vs.length ≤ 100000) (hok : JoinOk x (vs.map v) = true)
    (ho : TE P fe n o loc hp fun lv hp1 => lv = .v (.str x) ∧ hp1 = hp)
    (helt : ∀ (X : Fx) (C' : Addr) (code : Value) q, q ∈ vs → TQ P X.A (genEnv scope [] C' code builtinsNs (fe.env X)) [(xa, .str q.1), (xb, .str q.2)] none (eval elt (genEnv scope [] C' code builtinsNs (fe.env X))) (.str (v q)))
    (h : K (.v (.str (Txt.join x (vs.map v)))) hp) :
    TE P fe n (.Call (.Attribute o (Str.ofString "join") apos) [.GeneratorExp elt [⟨.Tuple [.Name xa pa, .Name xb pb] kt' pt, .Name (Str.ofString "self") pself, [], 0⟩] scope pos2] [] pos) loc hp K := by
  intro X m θ s0 Q E C S0 kk0
  refine MethodCall_ (ho X m θ s0 _ E C S0 fun ov lv hp1 θ1 s h1 S r1 st1 => ?_) (meth_eq (hbase _) (hform _) hline)
  obtain ⟨rfl, rfl⟩ := h1
  have kk : ∀ v lv hp2 θ2 s2, K lv hp2 → SR P fe X m loc hp2 θ2 s2 → LRel s2.heap θ2 lv v → St X.L θ1 s θ2 s2 → Q v s2 := fun v lv hp2 θ2 s2 h S2 r2 st2 => kk0 v lv hp2 θ2 s2 h S2 r2 (st1.trans S st2)
  obtain ⟨t, rfl⟩ := r1.str
  refine gm_join.of (PyProof.Rows.callWith_method1 (wpAny_items_cons (acc_gen (g := fun q => .str (v q)) H CF C S hcode htab hl hself hk hd hco hfree hcell h0 hxa hxb hab hkind ?_ fun a s5 S5 st5 hle key G => wpAny_items_nil ?_) (by rfl)) (by rfl) (by rfl))
  · intro A' C' code q hq hA
    exact helt { X with A := A' } C' code q hq
  obtain ⟨fp, wr, g, Sg, W, hst, hty, hmem, hfp, hwr⟩ := G
  refine PySem.SC.joinGen W.in4_2 hty hst hfp hmem ?_ ?_ (by show vs.length ≤ sizeLine; exact Nat.le_trans hsz (by decide))
  · rintro j y ⟨q, hq, r⟩
    obtain ⟨t, rfl⟩ := r.str
    exact ⟨_, _, rfl⟩
  intro s' l hm hi
  have el : l.map (·.1) = vs.map v := by
    obtain ⟨h1, h2⟩ := hi
    have hll : l.length = vs.length := by simpa [strValues] using h1
    apply List.ext_getElem?
    intro j
    by_cases hj : j < l.length
    · have := h2 j (.str (l[j]).1 (l[j]).2) (by simp [strValues, hj])
      obtain ⟨q, hq, r⟩ := this
      obtain ⟨t, e⟩ := r.str
      have e1 : (l[j]).1 = v q := (Value.str.inj e).1
      rw [List.getElem?_map, List.getElem?_map, hq, List.getElem?_eq_getElem hj]
      simp [e1]
    · rw [List.getElem?_map, List.getElem?_map, List.getElem?_eq_none (by omega), List.getElem?_eq_none (by omega)]
      rfl
  rw [el]
  refine ⟨hok, fun t' tk => ?_⟩
  obtain ⟨S', st'⟩ := gives_moved S5 st5 key hwr hm
  exact kk _ _ _ _ _ h (S'.same rfl rfl) ⟨_, rfl⟩ (st'.trans S' (St.same rfl rfl))
end
end VC
namespace VC
open PySem PySem.W PyProof.Rows PySem.Calls PySem.Spec PySem.Builtin PySem.Builtin.Str PySem.SeqAt

section
variable {P : PE} {fe : FE} {n : Nat} {loc : Loc} {hp : List AO} {K : LV → List AO → Prop}
theorem Cx.up {X : Fx} {n' : Nat} (C : Cx P fe n X) (h : n' + 1 ≤ n) (u : Nat) (hu : u ≤ 60) : Cx P fe n' { X with A := { X.A with units := X.A.units + u } } :=
  ⟨C.hA, by have := C.dep; show X.A.depth + _ < _; omega, by have := C.un; show X.A.units + u + _ < _; omega, C.gd, C.sc, C.below, C.kind, C.flat⟩
theorem SR.inA {X : Fx} {m : Str → Option Value} {θ : List Addr} {s : Shared} {A' : Around} (S : SR P fe X m loc hp θ s) : SR P fe { X with A := A' } m loc hp θ s := ⟨S.fr, S.loc, S.H, S.free, S.bare, S.cells⟩
theorem SR.outA {X : Fx} {m : Str → Option Value} {θ : List Addr} {s : Shared} {A' : Around} (S : SR P fe { X with A := A' } m loc hp θ s) : SR P fe X m loc hp θ s := ⟨S.fr, S.loc, S.H, S.free, S.bare, S.cells⟩
/-- `len` of one of the class with its own `__len__` -/
theorem TL_len_acc {k d : Nat} {vs : List PV} {i : Option Int} {f : Addr} (n' : Nat) (hf : findIn P.K (.ref P.C) "__len__" = some (some (.ref f))) (hfn : isFn P.K (.ref f) = true) (hle : n' + 1 ≤ n) (hk : hp[k]? = some (.acc d vs)) (hd : hp[d]? = some (.dct i))
    (h : TC P n' (.ref f) [.o k] hp fun lv hp' => ∃ j : Int, lv = .v (.int j) ∧ (0 ≤ j ∧ j < 2 ^ 63) ∧ K (.v (.int j)) hp') : TL P fe n (callP (.builtin "len")) [.o k] loc hp K := by
  intro X m θ s Q E vals C S r kk
  obtain ⟨v, rfl, r1⟩ := r.one
  obtain ⟨a, o, ws, nn, dx, od, ea, edx, hdx, hod, I, rs, rd⟩ := acc_at S hk hd
  obtain ⟨a', ea', rfl⟩ := r1
  rw [ea] at ea'; cases ea'
  refine len_K S.fr C.gd.1 I.inst hf hfn ?_
  refine h fe { X with A := X.A.in1 } m loc θ s _ E _ (C.up hle 1 (by decide)) S.inA ⟨_, _, rfl, ⟨a, ea, rfl⟩, rfl⟩ fun v lv hp3 θ3 s3 h3 S3 r3 st3 => ?_
  obtain ⟨j, rfl, hj, h3⟩ := h3
  obtain ⟨t, rfl⟩ := r3.int
  exact ⟨hj, kk _ _ _ _ _ h3 (S3.outA.same rfl rfl) ⟨_, rfl⟩ (St.trans st3 S3.outA (St.same rfl rfl))⟩
/-- `str` of one of the class with its own `__str__` -/
theorem TL_str_acc {k d : Nat} {vs : List PV} {i : Option Int} {f : Addr} (n' : Nat) (hf : findIn P.K (.ref P.C) "__str__" = some (some (.ref f))) (hfn : isFn P.K (.ref f) = true) (hle : n' + 1 ≤ n) (hk : hp[k]? = some (.acc d vs)) (hd : hp[d]? = some (.dct i))
    (h : TC P n' (.ref f) [.o k] hp fun lv hp' => ∃ j : Str, lv = .v (.str j) ∧ K (.v (.str j)) hp') : TL P fe n (callP (.type "str")) [.o k] loc hp K := by
  intro X m θ s Q E vals C S r kk
  obtain ⟨v, rfl, r1⟩ := r.one
  obtain ⟨a, o, ws, nn, dx, od, ea, edx, hdx, hod, I, rs, rd⟩ := acc_at S hk hd
  obtain ⟨a', ea', rfl⟩ := r1
  rw [ea] at ea'; cases ea'
  refine kso_call (by have := C.un; show X.A.units + 1 + 1 < _; omega) (C.gd.1.keeps S.fr.keep) I.inst hf hfn ?_
  refine h fe { X with A := X.A.in1.in1 } m loc θ s _ E _ (C.up hle 2 (by decide)) S.inA ⟨_, _, rfl, ⟨a, ea, rfl⟩, rfl⟩ fun v lv hp3 θ3 s3 h3 S3 r3 st3 => ?_
  obtain ⟨j, rfl, h3⟩ := h3
  obtain ⟨t, rfl⟩ := r3.str
  exact kk _ _ _ _ _ h3 S3.outA ⟨_, rfl⟩ st3
end
end VC
namespace VC
open PySem PySem.W PyProof.Rows PySem.Calls PySem.Spec PySem.Builtin PySem.Builtin.Str PySem.SeqAt
section
variable {P : PE} {fe : FE} {n : Nat} {loc : Loc} {hp : List AO} {K : LV → List AO → Prop}
theorem TE_const_S {x : Str} {l : List Nat} {k : Nat} {pos : Pos} (e : x = S l) (h : K (.v (.str (S l))) hp) : TE P fe n (.Constant (.str x) k pos) loc hp K := TE_const_str (e ▸ h)
theorem lit_0 : Str.ofString "" = S [] := by decide +kernel
theorem lit_257 : Str.ofString "257" = S [50, 53, 55] := by decide +kernel
theorem lit_sq : Str.ofString " \"" = S [32, 34] := by decide +kernel
theorem lit_q : Str.ofString "\"" = S [34] := by decide +kernel
theorem lit_s : Str.ofString " " = S [32] := by decide +kernel
theorem lit_257sq : Str.ofString "257 \"" = S [50, 53, 55, 32, 34] := by decide +kernel
end
end VC
open VC PySem PySem.W PyProof.Rows PySem.Builtin
local macro_rules | `(tactic| k_call_by "vc" 0) => `(tactic| (with_reducible refine' TE_const_S ?k1 ?_; (case k1 => first | with_reducible exact lit_0 | with_reducible exact lit_257 | with_reducible exact lit_sq | with_reducible exact lit_q | with_reducible exact lit_s | with_reducible exact lit_b | with_reducible exact lit_257sq | with_reducible exact lit_made | with_reducible exact lit_x | with_reducible exact lit_250 | with_reducible exact lit_157 | with_reducible exact lit_25 | with_reducible exact lit_mq | with_reducible exact lit_ssq | with_reducible exact lit_sqq | with_reducible exact lit_257sqs | with_reducible exact lit_qq)))
namespace VC
open PySem PySem.W PyProof.Rows PySem.Calls PySem.Spec PySem.Builtin PySem.Builtin.Str PySem.SeqAt
section
variable {P : PE} {fe : FE} {n : Nat} {loc : Loc} {hp : List AO} {K : LV → List AO → Prop}
/-- an empty list whose object stays known -/
theorem TE_ListD {pos : Pos} (h : K (.o hp.length) (hp ++ [.lsd []])) : TE P fe n (.List [] pos) loc hp K := by
  intro X m θ s Q E C S kk
  refine wpAny_List (wpAny_items_nil ⟨Nat.zero_le _, ?_⟩)
  have kp : ∀ (b : Addr) (o : Obj), s.heap.get? b = some o → (s.heap.push { cls := .type "list", data := .seq ([] : List Value).toArray }).get? b = some o := fun b o e => Heap.get?_push_of_some _ e
  exact kt_new S kk h (S.frKeep kp) (fun b o _ e => kp b o e) (get?_size_none _ 0) ⟨_, _, Heap.get?_push_size _ rfl, rfl⟩ nofun S.bare rfl
theorem TE_AppendL {o e1 : PySem.Expr} {apos pos : Pos} (hbase : ∀ env, attributeBase o (Str.ofString "append") env (eval o env) = eval o env) (hform : ∀ env, methodCallForm ([e1].length + 0) (backTo pos (starEach [e1] env)) [] = true) (hline : (apos.endLine == pos.line) = true)
    (he : ∀ env, starEach [e1] env = [(false, eval e1 env)])
    (h : TE P fe n o loc hp fun ov hp1 => ∃ k vs, ov = .o k ∧ hp1[k]? = some (.lsd vs) ∧ TE P fe n e1 loc hp1 fun av hp2 => ∃ vs2 p, av = .v p ∧ hp2[k]? = some (.lsd vs2) ∧ vs2.length ≤ 100000 ∧ K (.v .none) (hp2.set k (.lsd (vs2 ++ [p])))) :
    TE P fe n (.Call (.Attribute o (Str.ofString "append") apos) [e1] [] pos) loc hp K := by
  intro X m θ s Q E C S kk
  refine MethodCall_ (h X m θ s _ E C S fun v lv hp1 θ1 s1 h1 S1 r1 st1 => ?_) (meth_eq (hbase _) (hform _) hline)
  obtain ⟨k, vs, rfl, hk, h1⟩ := h1
  obtain ⟨a, ea, rfl⟩ := r1
  obtain ⟨ws, nn, hob, rs⟩ := S1.H.obj k a _ ea hk
  refine getMethod_list_append hob rfl rfl ?_
  refine PyProof.Rows.callWith_method1 ?_ (he _) (by rfl)
  refine wpAny_items_cons (h1 X m θ1 s1 _ E C S1 fun v av hp2 θ2 s2 h2 S2 r2 st2 => wpAny_items_nil ?_) (he _)
  obtain ⟨vs2, p, rfl, hk2, hsz, h2⟩ := h2
  have ea' := pre_get st2.pre ea
  obtain ⟨ws2, nn2, hob2, rs2⟩ := S2.H.obj k a _ ea' hk2
  refine append_at hob2 (fun h' hs' ho' => ?_) (by rw [show ws2.size = vs2.length by rw [← rs2.length, Array.length_toList]]; exact szl hsz)
  have kp : ∀ (b : Addr) (o : Obj), b ≠ a → s2.heap.get? b = some o → h'.get? b = some o := fun b o hb e => (hs'.2 b hb).trans e
  obtain ⟨S3, st3⟩ := S2.put (s' := { s2 with heap := h' }) (ao := .lsd (vs2 ++ [p])) ea' kp (fun kt => ⟨_, _, ho', by
    rw [Array.toList_push]
    exact (VRels.mono kt _ rs2).append ⟨_, _, rfl, VRel.mono kt p r2, rfl⟩⟩) nofun S2.bare rfl
  exact kk _ _ _ _ _ h2 S3 (show VRel h' .none Value.none from rfl) ((st1.trans S1 st2).trans S2 st3)
end
end VC
namespace VC
open PySem PySem.W PyProof.Rows PySem.Calls PySem.Spec PySem.Builtin PySem.Builtin.Str PySem.SeqAt

/-! ### entry of a function with one cell among its parameters -/
theorem bindL_other {kindOf : Str → Option NameKind} {x : Str} : ∀ {bs : List (Str × Value)} {m : Str → Option Value}, x ∉ bs.map (·.1) → bindL kindOf bs m x = m x
  | [], _, _ => rfl
  | (y, v) :: r, m, h => by
    have h1 : x ≠ y := fun q => h (q ▸ List.mem_cons_self)
    rw [bindL, bindL_other fun q => h (List.mem_cons_of_mem _ q)]
    split
    · exact if_neg h1
    · rfl
theorem bindL_at {kindOf : Str → Option NameKind} {x : Str} {v : Value} : ∀ {bs : List (Str × Value)} {m : Str → Option Value}, (bs.map (·.1)).Nodup → (x, v) ∈ bs → kindOf x = some .local → bindL kindOf bs m x = some v
  | (y, w) :: r, m, h, hm, hk => by
    rw [bindL]
    rcases List.mem_cons.mp hm with e | hm
    · cases e
      rw [bindL_other (List.nodup_cons.mp h).1, if_pos hk, if_pos rfl]
    · exact bindL_at (List.nodup_cons.mp h).2 hm hk
theorem bindC_other {kindOf : Str → Option NameKind} {x : Str} : ∀ {bs : List (Str × Value)} {m : Str → Option Value}, x ∉ bs.map (·.1) → bindC kindOf bs m x = m x
  | [], _, _ => rfl
  | (y, v) :: r, m, h => by
    have h1 : x ≠ y := fun q => h (q ▸ List.mem_cons_self)
    rw [bindC, bindC_other fun q => h (List.mem_cons_of_mem _ q)]
    split
    · rfl
    · exact if_neg h1
theorem bindC_at {kindOf : Str → Option NameKind} {x : Str} {v : Value} : ∀ {bs : List (Str × Value)} {m : Str → Option Value}, (bs.map (·.1)).Nodup → (x, v) ∈ bs → kindOf x ≠ some .local → bindC kindOf bs m x = some v
  | (y, w) :: r, m, h, hm, hk => by
    rw [bindC]
    rcases List.mem_cons.mp hm with e | hm
    · cases e
      rw [bindC_other (List.nodup_cons.mp h).1, if_neg hk, if_pos rfl]
    · exact bindC_at (List.nodup_cons.mp h).2 hm hk
theorem lookup_mem {x : Str} {lv : LV} : ∀ {l : Loc}, l.lookup x = some lv → (x, lv) ∈ l
  | (y, w) :: r, h => by
    rw [List.lookup_cons] at h
    split at h
    · rename_i q; cases h; rw [beq_iff_eq.mp q]; exact List.mem_cons_self
    · exact List.mem_cons_of_mem _ (lookup_mem h)
theorem zip_rel_mem {h : Heap} {θ : List Addr} {x : Str} {lv : LV} : ∀ {names : List Str} {as : List LV} {vals : List Value}, LRels h θ as vals → (x, lv) ∈ names.zip as → ∃ v, (x, v) ∈ names.zip vals ∧ LRel h θ lv v
  | [], _, _, _, hm => by simp at hm
  | y :: names, [], _, _, hm => by simp at hm
  | y :: names, a :: as, _, r, hm => by
    obtain ⟨w, ws', rfl, r1, r2⟩ := r
    rw [List.zip_cons_cons] at hm
    rcases List.mem_cons.mp hm with e | hm
    · cases e; exact ⟨w, by rw [List.zip_cons_cons]; exact List.mem_cons_self, r1⟩
    · obtain ⟨v, h1, h2⟩ := zip_rel_mem r2 hm
      exact ⟨v, by rw [List.zip_cons_cons]; exact List.mem_cons_of_mem _ h1, h2⟩

section
variable {P : PE} {n : Nat} {hp : List AO} {K : LV → List AO → Prop}
theorem TC_enterC {f : Addr} {oc : Value} {od : Option Addr} {osl : Array (Option Value)} {name qual : Str} {params : Arguments} {body : List Stmt} {scope : Scope} {dV kV doc pm cdv ct : Value} {an : Option Addr} {as : List LV} {names : List Str} (y : Str) (p : PV) {loc0 : Loc}
    (ho : P.K.lookup f = some ⟨oc, od, .func (fnX name qual params body scope [] dV kV doc pm an cdv ct), osl⟩) (hcd : codeIn P.K cdv qual = true)
    (hbind : ∀ (s : Shared) (vals : List Value), P.K.In s.heap → vals.length = as.length → BindsTo s (fnX name qual params body scope [] dV kV doc pm an cdv ct) ⟨vals, []⟩ (names.zip vals))
    (hnl : names.length = as.length) (hnd : names.Nodup) (hloc : ∀ x ∈ names, x ≠ y → scope.names.lookup x = some .local) (hcell : ∀ c, cellsFrom c scope.names [] = [(y, c)]) (hy : scope.names.lookup y = some .cell)
    (hl0 : ∀ q ∈ loc0, q ∈ names.zip as ∧ q.1 ≠ y) (hyp : (y, .v p) ∈ names.zip as)
    (hco : scope.isCoroutine = false) (hgen : scope.isGenerator = false) (hk : scope.kind = .function)
    (h : TXs P ⟨qual, scope, f, cdv, [(y, hp.length)], false⟩ n body loc0 (hp ++ [.cel (some p)]) (Back K)) : TC P (n + 1) (.ref f) as hp K := by
  refine TC.of ?_
  intro fe X m loc θ s R vals C S rs kk
  obtain ⟨outer, A₀, base, hA, B⟩ := C.below
  have N : News X.g X.L s.heap (newsOf s.heap θ) := fun p hp => let ⟨h1, h2⟩ := newsOf_mem hp; ⟨h2, (S.free _ h1).2, (S.free _ h1).1⟩
  have hN : (newsOf s.heap θ).map (·.1) = θ := newsOf_map fun a ha => let ⟨o, e, _⟩ := S.H.mem ha; ⟨o, e⟩
  obtain ⟨_, BG, stG, _⟩ := groundX (R := fun _ _ => True) B S.fr N hA rfl C.kind
  rw [hN] at BG stG
  have X₀ := C.gd.1.keeps S.fr.keep
  refine codeAny_call_function (by have := C.dep; omega) (X₀ _ _ ho) rfl hco hgen rfl (codeRec_of X₀ hcd) (hbind s vals X₀ rs.length _ _ _ _ ?_)
  refine wpAny_newFunctionEnv_cells hk (fun q hq => ?_) fun env' he s' x => ?_
  · have hq' := (List.of_mem_zip hq).1
    by_cases hqy : q.1 = y
    · refine .inr ⟨by rw [hqy]; exact hy, ?_⟩
      show ((cellsFrom (s.heap.objs.size + 1) scope.names []).lookup q.1).isSome = true
      rw [hcell, hqy, List.lookup_cons, beq_self_eq_true]; rfl
    · exact .inl (hloc _ hq' hqy)
  subst he
  refine ⟨(C.gd.2.nolimit.keeps S.fr.keep).keeps x.toInCall.keep, codeAny_func ?_⟩
  obtain ⟨h₁, tk, rfl, _⟩ := x.done
  have kp : ∀ (b : Addr) (o : Obj), s.heap.get? b = some o → h₁.get? b = some o := x.toInCall.keep
  have hcl : (newEnv scope s.heap.objs.size mainGlobals (cellsFrom (s.heap.objs.size + 1) scope.names []) (qual ++ ".<locals>.") (some f) cdv none builtinsNs) = envX qual scope s.heap.objs.size f cdv [(y, s.heap.objs.size + 1)] := by
    rw [hcell]; rfl
  have hmap : ((names.zip vals).map (·.1)).Nodup := by
    rw [List.map_fst_zip (by rw [rs.length]; omega)]
    exact hnd
  let c := s.heap.objs.size + 1
  have hcn : s.heap.get? c = none := by
    cases e : s.heap.get? c with
    | none => rfl
    | some o => exact absurd (Heap.lt_size e) (by show ¬ s.heap.objs.size + 1 < _; omega)
  obtain ⟨vp, hvp, rp⟩ := zip_rel_mem rs hyp
  have hcellc := x.cell y c (by show (cellsFrom (s.heap.objs.size + 1) scope.names []).lookup y = some c; rw [hcell, List.lookup_cons, beq_self_eq_true])
  rw [show bindC _ (names.zip vals) (fun _ => none) y = some vp from bindC_at hmap hvp (by show scope.names.lookup y ≠ some .local; rw [hy]; decide)] at hcellc
  obtain ⟨oc', hoc, hocd⟩ := hcellc
  obtain ⟨S1, st1⟩ := S.new (s' := { s with heap := h₁, toks := tk }) (a := c) (ao := .cel (some p)) kp hcn ⟨oc', some vp, hoc, hocd, VRel.mono (KT.of_keep kp) p rp⟩ nofun S.bare rfl
  let X' : Fx := ⟨X.A.deeper (envX qual scope s.heap.objs.size f cdv [(y, c)]), hideAll s.heap θ, s.heap.objs.size, [(y, c)]⟩
  let fe' : FE := ⟨qual, scope, f, cdv, [(y, hp.length)], false⟩
  have C' : Cx P fe' n X' := ⟨C.hA, by have := C.dep; show X.A.depth + 1 + _ < _; omega, by have := C.un; show X.A.units + 3 + _ < _; omega, C.gd.keeps stG, C.sc.keeps stG, ⟨_, _, _, Around.frames_deeper hA, BG⟩, hk, fun q => by cases q⟩
  have S' : SR P fe' X' (bindL (fun z => scope.names.lookup z) (names.zip vals) fun _ => none) loc0 (hp ++ [.cel (some p)]) (θ ++ [c]) { s with heap := h₁, toks := tk } := by
    refine ⟨⟨x.toInCall.ns, fun b o e => kp b o (of_hideAll _ e), Nat.le_of_eq (hideAll_size _ _)⟩, fun z lv e => ?_, S1.H, fun a ha => ?_, S.bare, fun z k e => ?_⟩
    · obtain ⟨hm, hne⟩ := hl0 _ (lookup_mem e)
      obtain ⟨v, hv, r⟩ := zip_rel_mem rs hm
      exact ⟨v, bindL_at hmap hv (hloc z (List.of_mem_zip hm).1 hne), LRel.mono (KT.of_keep kp) (List.prefix_append _ _) _ r⟩
    · rcases List.mem_append.mp ha with ha | ha
      · exact ⟨hideAll_none _ ha, Nat.ne_of_lt (S.lt ha)⟩
      · rw [List.mem_singleton.mp ha]
        refine ⟨?_, Nat.succ_ne_self _⟩
        cases e : (hideAll s.heap θ).get? c with
        | none => rfl
        | some o => rw [of_hideAll _ e] at hcn; cases hcn
    · have e : List.lookup z [(y, hp.length)] = some k := e
      rw [List.lookup_cons] at e
      split at e
      · rename_i q
        cases e
        rw [beq_iff_eq.mp q]
        exact ⟨c, by show List.lookup y [(y, c)] = some c; rw [List.lookup_cons, beq_self_eq_true], by rw [← S.H.len]; exact List.getElem?_concat_length ..⟩
      · cases e
  show wpAny (model P.prog P.w) (X.A.deeper (newEnv scope s.heap.objs.size mainGlobals (cellsFrom (s.heap.objs.size + 1) scope.names []) (qual ++ ".<locals>.") (some f) cdv none builtinsNs)) (execs body (newEnv scope s.heap.objs.size mainGlobals (cellsFrom (s.heap.objs.size + 1) scope.names []) (qual ++ ".<locals>.") (some f) cdv none builtinsNs)) _
    (fun e s' => wpAny (model P.prog P.w) (X.A.deeper (newEnv scope s.heap.objs.size mainGlobals (cellsFrom (s.heap.objs.size + 1) scope.names []) (qual ++ ".<locals>.") (some f) cdv none builtinsNs)) (leaving (newEnv scope s.heap.objs.size mainGlobals (cellsFrom (s.heap.objs.size + 1) scope.names []) (qual ++ ".<locals>.") (some f) cdv none builtinsNs) e) _ _ s') _
  rw [hcl]
  refine h X' _ (θ ++ [c]) _ _ _ C' S' fun fl f' loc3 hp3 m3 θ3 s3 h3 S3 r3 st3 => ?_
  have hL' : s.heap.get? s.heap.objs.size = none := by
    cases e : s.heap.get? s.heap.objs.size with
    | none => rfl
    | some o => exact absurd (Heap.lt_size e) (Nat.lt_irrefl _)
  obtain ⟨S4, st4⟩ := S.back S3 ((List.prefix_append _ _).trans st3.pre) (fun b o hb e => st3.keep b o (fun (q : b = s.heap.objs.size) => by rw [q, hL'] at e; cases e) (fun hm => by
    rcases List.mem_append.mp hm with hm | hm
    · exact hb hm
    · rw [List.mem_singleton.mp hm, hcn] at e; cases e) (kp b o e)) (fun a ha => by
    rcases st3.fresh a ha with q | q
    · rcases List.mem_append.mp q with q | q
      · exact .inl q
      · rw [List.mem_singleton.mp q]; exact .inr hcn
    · refine .inr ?_
      cases e : s.heap.get? a with
      | none => rfl
      | some o =>
        have q' : h₁.get? a = none := q
        rw [kp a o e] at q'; cases q') st3.os
  cases f' with
  | ret lv =>
    obtain ⟨v, rfl, r3⟩ := r3
    exact kk v lv hp3 θ3 s3 h3 S4 r3 st4
  | next => cases r3; exact kk _ _ hp3 θ3 s3 h3 S4 (show VRel s3.heap .none Value.none from rfl) st4
  | brk => exact h3.elim
  | cont => exact h3.elim
end
end VC
namespace VC
open PySem PySem.W PyProof.Rows PySem.Calls PySem.Spec PySem.Builtin PySem.Builtin.Str PySem.SeqAt
theorem Txt_join (x : Str) (l : List Str) : Txt.join x l = Str.join x l := beq_iff_eq.mp (join_plain_closes x l)
theorem Sjoin_nil : ∀ ls : List (List Nat), Str.join (S []) (ls.map S) = S ls.flatten
  | [] => rfl
  | l :: r => by
    have e : (S [] : Str) = ⟨#[]⟩ := rfl
    rw [List.map_cons, e, PyProof.Rows.join_nil_cons, ← e, Sjoin_nil r, S_app]
    rfl
theorem join_S (ls : List (List Nat)) : Txt.join (S []) (ls.map S) = S ls.flatten := by rw [Txt_join, Sjoin_nil]
theorem closure_go {env : Env} {y : Str} {a : Addr} (hc : cellOf env y = pure a) : ∀ (names : List (Str × NameKind)) (cs : List (Str × Addr)), (names.filter fun q => q.2 == .free) = [(y, .free)] →
    (forIn names cs (fun q __s => if (q.2 == .free) = true then (do let c ← cellOf env q.1; pure (ForInStep.yield ((q.1, c) :: __s))) else pure (ForInStep.yield __s)) : Sem _) = pure ((y, a) :: cs)
  | [], cs, h => by simp at h
  | q :: r, cs, h => by
    rw [List.forIn_cons]
    by_cases hq : (q.2 == .free) = true
    · rw [List.filter_cons, if_pos hq] at h
      obtain ⟨rfl, h2⟩ := List.cons.inj h
      simp only [hc, pure_bind]
      have hr : ∀ (r : List (Str × NameKind)) (cs : List (Str × Addr)), (r.filter fun q => q.2 == .free) = [] → (forIn r cs (fun q __s => if (q.2 == .free) = true then (do let c ← cellOf env q.1; pure (ForInStep.yield ((q.1, c) :: __s))) else pure (ForInStep.yield __s)) : Sem _) = pure cs := by
        intro r
        induction r with
        | nil => intro cs _; rfl
        | cons q r ih =>
          intro cs h
          have hq : ¬ (q.2 == .free) = true := fun hq => by rw [List.filter_cons, if_pos hq] at h; cases h
          rw [List.filter_cons, if_neg hq] at h
          rw [List.forIn_cons, if_neg hq, pure_bind]
          exact ih cs h
      exact hr r _ h2
    · rw [List.filter_cons, if_neg hq] at h
      rw [if_neg hq, pure_bind]
      exact closure_go hc r cs h
theorem closureFor_one {scope : Scope} {env : Env} {y : Str} {a : Addr} (h : (scope.names.filter fun q => q.2 == .free) = [(y, .free)]) (ha : env.cells.lookup y = some a) : closureFor scope env = pure [(y, a)] := by
  have hc : cellOf env y = pure a := by unfold cellOf; rw [ha]
  have := closure_go hc scope.names [] h
  unfold closureFor
  simp only [bind_pure_comp] at this ⊢
  rw [this]
  rfl
end VC
namespace VC
open PySem PySem.W PyProof.Rows PySem.Calls PySem.Spec PySem.Builtin PySem.Builtin.Str

section
variable {prog : Program} {w : World} {A : Around} {E : Value → Shared → Prop} {s : Shared} {K : Frag} {C e t : Addr}
/-- an exception of a class of its own, with its row of arguments -/
structure ExcO (h : Heap) (e C t : Addr) (vs : List Value) : Prop where
  ex : ∃ oe ws, h.get? e = some oe ∧ oe.cls = .ref C ∧ oe.data = .fields ws ∧ ws[0]? = some (.ref t)
  tu : h.TupAt t vs
end
end VC
namespace VC
open PySem PySem.W PyProof.Rows PySem.Calls PySem.Spec PySem.Builtin PySem.Builtin.Str

/-- statements that raise -/
noncomputable def TXR (P : PE) (fe : FE) (n : Nat) (st : List Stmt) (loc : Loc) (hp : List AO) (cls : Value) (as : List PV) : Prop :=
  ∀ (X : Fx) (m : Str → Option Value) (θ : List Addr) (s : Shared) (Q : Flow → Shared → Prop) (E : Value → Shared → Prop), Cx P fe n X → X.cl = [] → SR P fe X m loc hp θ s →
    (∀ m' loc' hp' θ' s' h' e vs, SR P fe X m' loc' hp' θ' s' → St X.L θ s θ' s' → Heap.MadeExcOf s'.heap h' e cls vs → VRels s'.heap as vs → E (.ref e) { s' with heap := h' }) → wpAny (model P.prog P.w) X.A (execs st (fe.env X)) Q E s

section
variable {P : PE} {fe : FE} {n : Nat} {loc : Loc} {hp : List AO}
end

/-- a call's code, from the law's own frame -/
noncomputable def TCt (P : PE) (n : Nat) (f : Value) (as : List LV) (hp : List AO) (K : LV → List AO → Prop) : Prop :=
  ∀ (fe : FE), fe.top = true → ∀ (X : Fx) (m : Str → Option Value) (loc : Loc) (θ : List Addr) (s : Shared) (R : Result → Shared → Prop) (vals : List Value), Cx P fe n X → SR P fe X m loc hp θ s → LRels s.heap θ as vals →
    Kt P fe X m loc θ s K (fun v s' => R (.ok (.ret v)) s') → codeAny (model P.prog P.w) X.A (.call f ⟨vals, []⟩) R s
section
variable {P : PE} {fe : FE} {n : Nat} {loc : Loc} {hp : List AO} {K : LV → List AO → Prop}
end

end VC
namespace VC
open PySem PySem.W PyProof.Rows PySem.Calls PySem.Spec PySem.Builtin PySem.Builtin.Str

section
variable {P : PE}
variable {n : Nat} {fe : FE} {X : Fx} {m : Str → Option Value} {loc : Loc} {θ : List Addr} {hp : List AO} {s : Shared} {R : Result → Shared → Prop} {outer : List Env} {base : Heap} {A₀ : Around}
end
end VC
namespace VC
open PySem PySem.W PyProof.Rows PySem.Calls PySem.Spec PySem.Builtin PySem.Builtin.Str

/-- the tables of codes that stand at the start -/
noncomputable def TabsAt (P : PE) (ts : List (Addr × Addr)) (h : Heap) : Prop := ∀ t ∈ ts, tabOf P.K t.1 = some t.2 ∧ ∃ ps, h.get? t.2 = some { cls := .none, data := .fields ps } ∧ TriplesOk ps.toList
theorem TabsAt.hrel {P : PE} {ts : List (Addr × Addr)} {h : Heap} (T : TabsAt P ts h) (nd : (ts.map (·.2)).Nodup) : HRel P h (ts.map (·.2)) (ts.map fun t => .tab t.1) := by
  refine ⟨by simp, nd, fun k a ao e1 e2 => ?_, fun i d vs e => ?_⟩
  · rw [List.getElem?_map] at e1 e2
    cases hk : ts[k]? with
    | none => rw [hk] at e1; cases e1
    | some t =>
      rw [hk] at e1 e2
      cases e1; cases e2
      exact T t (List.mem_of_getElem? hk)
  · rw [List.getElem?_map] at e
    cases hk : ts[i]? with
    | none => rw [hk] at e; cases e
    | some t => rw [hk] at e; cases e

section
variable {P : PE} {n : Nat} {K : LV → List AO → Prop} {s : Shared} {R : Result → Shared → Prop} {ts : List (Addr × Addr)}
/-- how a law ends -/
abbrev LawEnd (P : PE) (K : LV → List AO → Prop) (ts : List (Addr × Addr)) (s : Shared) (R : Result → Shared → Prop) : Prop :=
  ∀ v lv hp' θ' s', K lv hp' → LRel s'.heap θ' lv v → (∀ b o, b ∉ ts.map (·.2) → s.heap.get? b = some o → s'.heap.get? b = some o) → HRel P s'.heap θ' hp' → ts.map (·.2) <+: θ' → s'.os = s.os → AllBare s'.gens → R (.ok (.ret v)) s'

theorem law_enter {f : Addr} {oc : Value} {od : Option Addr} {osl : Array (Option Value)} {name qual : Str} {params : Arguments} {body : List Stmt} {scope : Scope} {dV kV doc pm cdv ct : Value} {an : Option Addr} {x : Str} {p : PV} {v : Value}
    (ho : P.K.lookup f = some ⟨oc, od, .func (fnX name qual params body scope [] dV kV doc pm an cdv ct), osl⟩) (hcd : codeIn P.K cdv qual = true)
    (hbind : ∀ (s : Shared) (v : Value), BindsTo s (fnX name qual params body scope [] dV kV doc pm an cdv ct) ⟨[v], []⟩ [(x, v)])
    (hloc : scope.names.lookup x = some .local) (hcell : ∀ c, cellsFrom c scope.names [] = []) (hco : scope.isCoroutine = false) (hgen : scope.isGenerator = false) (hk : scope.kind = .function)
    (hroom : callerA.depth + 1 + (6 * n + 6) < recursionLimit) (hun : callerA.units + 3 + (60 * n + 120) < cLine)
    (T : TabsAt P ts s.heap) (nd : (ts.map (·.2)).Nodup) (gd : P.Gd (hideAll s.heap (ts.map (·.2)))) (sc : P.Sc (hideAll s.heap (ts.map (·.2)))) (bs : P.Bs (hideAll s.heap (ts.map (·.2)))) (bare : AllBare s.gens) (hv : VRel s.heap p v)
    (h : TXs P ⟨qual, scope, f, cdv, [], true⟩ n body [(x, .v p)] (ts.map fun t => .tab t.1) (Back K)) (kk : LawEnd P K ts s R) : codeAny (model P.prog P.w) callerA (.call (.ref f) ⟨[v], []⟩) R s := by
  have X₀ : P.K.In s.heap := gd.1.keeps fun b o e => of_hideAll _ e
  have NL : s.heap.NoLimit := gd.2.nolimit.keeps fun b o e => of_hideAll _ e
  have H0 := T.hrel nd
  refine codeAny_call_function (by omega) (X₀ _ _ ho) rfl hco hgen rfl (codeRec_of X₀ hcd) (hbind s v _ _ _ _ ?_)
  refine wpAny_newFunctionEnv_cells hk (fun q hq => .inl (by rw [List.mem_singleton.mp hq]; exact hloc)) fun env' he s' y => ?_
  subst he
  refine ⟨NL.keeps y.toInCall.keep, codeAny_func ?_⟩
  obtain ⟨h₁, tk, rfl, _⟩ := y.done
  have kp : ∀ (b : Addr) (o : Obj), s.heap.get? b = some o → h₁.get? b = some o := y.toInCall.keep
  have hcl : (newEnv scope s.heap.objs.size mainGlobals (cellsFrom (s.heap.objs.size + 1) scope.names []) (qual ++ ".<locals>.") (some f) cdv none builtinsNs) = envX qual scope s.heap.objs.size f cdv [] := by
    rw [hcell]; rfl
  let X' : Fx := ⟨callerA.deeper (envX qual scope s.heap.objs.size f cdv []), hideAll s.heap (ts.map (·.2)), s.heap.objs.size, []⟩
  let fe' : FE := ⟨qual, scope, f, cdv, [], true⟩
  have BG : Below callerA (hideAll s.heap (ts.map (·.2))) [] (hideAll s.heap (ts.map (·.2))) := below_caller _
  have fr : callerA.frames = some [] := rfl
  have C' : Cx P fe' n X' := ⟨rfl, by show callerA.depth + 1 + _ < _; omega, by show callerA.units + 3 + _ < _; omega, gd, sc, ⟨_, _, _, Around.frames_deeper fr, BG⟩, hk, fun _ => ⟨_, _, Around.frames_deeper fr, BG, bs⟩⟩
  have S' : SR P fe' X' (bindL (fun z => scope.names.lookup z) [(x, v)] fun _ => none) [(x, .v p)] (ts.map fun t => .tab t.1) (ts.map (·.2)) { s with heap := h₁, toks := tk } := by
    refine ⟨⟨y.toInCall.ns, fun b o e => kp b o (of_hideAll _ e), Nat.le_of_eq (hideAll_size _ _)⟩, fun z lv e => ?_, ⟨H0.len, H0.nd, fun i a ao e1 e2 => ORel.keep (KT.of_keep kp) (List.prefix_refl _) _ (fun o e => kp a o e) (H0.obj i a ao e1 e2), H0.accd⟩, fun a ha => ⟨hideAll_none _ ha, ?_⟩, bare, fun z k e => by cases e⟩
    · have hm := lookup_mem e
      simp only [List.mem_singleton, Prod.mk.injEq] at hm
      obtain ⟨rfl, rfl⟩ := hm
      exact ⟨v, bindL_at (by simp) (by simp) hloc, VRel.mono (KT.of_keep kp) p hv⟩
    · obtain ⟨o, ho', _⟩ := H0.mem ha
      exact Nat.ne_of_lt (Heap.lt_size ho')
  show wpAny (model P.prog P.w) (callerA.deeper (newEnv scope s.heap.objs.size mainGlobals (cellsFrom (s.heap.objs.size + 1) scope.names []) (qual ++ ".<locals>.") (some f) cdv none builtinsNs)) (execs body (newEnv scope s.heap.objs.size mainGlobals (cellsFrom (s.heap.objs.size + 1) scope.names []) (qual ++ ".<locals>.") (some f) cdv none builtinsNs)) _
    (fun e s' => wpAny (model P.prog P.w) (callerA.deeper (newEnv scope s.heap.objs.size mainGlobals (cellsFrom (s.heap.objs.size + 1) scope.names []) (qual ++ ".<locals>.") (some f) cdv none builtinsNs)) (leaving (newEnv scope s.heap.objs.size mainGlobals (cellsFrom (s.heap.objs.size + 1) scope.names []) (qual ++ ".<locals>.") (some f) cdv none builtinsNs) e) _ _ s') _
  rw [hcl]
  refine h X' _ _ _ _ _ C' S' fun fl f' loc3 hp3 m3 θ3 s3 h3 S3 r3 st3 => ?_
  have hL' : s.heap.get? s.heap.objs.size = none := by
    cases e : s.heap.get? s.heap.objs.size with
    | none => rfl
    | some o => exact absurd (Heap.lt_size e) (Nat.lt_irrefl _)
  have kp3 : ∀ b o, b ∉ ts.map (·.2) → s.heap.get? b = some o → s3.heap.get? b = some o := fun b o hb e => st3.keep b o (fun (q : b = s.heap.objs.size) => by rw [q, hL'] at e; cases e) hb (kp b o e)
  cases f' with
  | ret lv =>
    obtain ⟨v, rfl, r3⟩ := r3
    exact kk v lv hp3 θ3 s3 h3 r3 kp3 S3.H st3.pre st3.os S3.bare
  | next => cases r3; exact kk .none (.v .none) hp3 θ3 s3 h3 (show VRel s3.heap .none Value.none from rfl) kp3 S3.H st3.pre st3.os S3.bare
  | brk => exact h3.elim
  | cont => exact h3.elim

end
end VC
namespace VC
open PySem PySem.W PyProof.Rows PySem.Calls PySem.Spec PySem.Builtin PySem.Builtin.Str PySem.SeqAt

/-! ### texts -/
theorem foldl_app (a : Array Nat) : ∀ (k : Nat) (b : Array Nat), ((List.replicate k a).foldl (· ++ ·) b).toList = b.toList ++ (List.replicate k a.toList).flatten
  | 0, b => by simp
  | k + 1, b => by rw [List.replicate_succ, List.foldl_cons, foldl_app a k, Array.toList_append, List.replicate_succ, List.flatten_cons, List.append_assoc]
noncomputable def rep (k : Nat) (l : List Nat) : List Nat := (List.replicate k l).flatten
theorem rep_nil (k : Nat) : rep k [] = [] := by
  induction k with
  | zero => rfl
  | succ k ih => rw [rep, List.replicate_succ, List.flatten_cons, List.nil_append]; exact ih
theorem rep_succ (k : Nat) (l : List Nat) : rep (k + 1) l = l ++ rep k l := by rw [rep, List.replicate_succ, List.flatten_cons]; rfl
theorem rep_one (k : Nat) (c : Nat) : rep k [c] = List.replicate k c := by
  induction k with
  | zero => rfl
  | succ k ih => rw [rep_succ, ih, List.replicate_succ]; rfl
theorem mul_S (l : List Nat) (k : Nat) : Txt.mul (S l) (k : Int) = S (rep k l) := by
  unfold Txt.mul
  by_cases h : (k : Int) < 1
  · rw [if_pos h]
    have : k = 0 := by omega
    subst this; rfl
  · rw [if_neg h]
    by_cases h2 : ((k : Int) == 1 || (S l).length == 0) = true
    · rw [if_pos h2]
      rcases Bool.or_eq_true_iff.mp h2 with q | q
      · have : k = 1 := by have := beq_iff_eq.mp q; omega
        subst this
        rw [rep_succ]; simp [rep]
      · rw [S_len] at q
        have := List.length_eq_zero_iff.mp (beq_iff_eq.mp q)
        subst this
        rw [rep_nil]
    · rw [if_neg h2]
      have e := foldl_app l.toArray k #[]
      have e2 : ((List.replicate (k : Int).toNat (S l).cps).foldl (· ++ ·) #[]) = (rep k l).toArray := by
        apply Array.toList_inj.mp
        rw [show (k : Int).toNat = k by omega]
        exact e.trans (by simp [rep])
      rw [e2]; rfl
theorem rep_len (k : Nat) (l : List Nat) : (rep k l).length = k * l.length := by
  induction k with
  | zero => simp [rep]
  | succ k ih => rw [rep_succ, List.length_append, ih, Nat.succ_mul]; omega
theorem placed_S {f : Nat → Nat → List Nat} {g : Nat → Nat} (l : List Nat) (h : ∀ i (hi : i < l.length), f i l[i] = [g l[i]]) : (⟨placed (S l) f⟩ : Str) = S (l.map g) := by
  have : placed (S l) f = (l.map g).toArray := by
    unfold placed
    apply Array.toList_inj.mp
    rw [Array.toList_flatten]
    have e : ((S l).cps.mapIdx fun i c => (f i c).toArray).toList = l.mapIdx fun i c => (f i c).toArray := by simp [S]
    rw [e]
    have e2 : (l.mapIdx fun i c => (f i c).toArray).map Array.toList = l.map fun c => [g c] := by
      apply List.ext_getElem (by simp)
      intro i h1 h2
      simp at h1 ⊢
      exact h i h1
    rw [e2]
    show _ = l.map g
    clear e2 e h
    induction l with
    | nil => rfl
    | cons c r ih => rw [List.map_cons, List.flatten_cons, ih]; rfl
  rw [this]; rfl
/-- the other case -/
noncomputable def swp (c : Nat) : Nat := if 65 ≤ c ∧ c ≤ 90 then c + 32 else if 97 ≤ c ∧ c ≤ 122 then c - 32 else c
noncomputable def lowr (c : Nat) : Nat := if 65 ≤ c ∧ c ≤ 90 then c + 32 else c
theorem lowr_ok : ∀ c, c < 128 → Unicode.lowerOf c = [lowr c] := by decide +kernel
theorem lowerAt_S {l : List Nat} {i : Nat} (hi : i < l.length) (h : l[i] < 128) : Unicode.lowerAt (S l).cps i = Unicode.lowerOf l[i] := by
  unfold Unicode.lowerAt
  have e : (S l).cps[i]? = some l[i] := by simp [S, hi]
  rw [e]
  have : (l[i] == 0x3A3) = false := by
    rw [beq_eq_false_iff_ne]; omega
  simp [this]
theorem lower_S (l : List Nat) (h : ∀ c ∈ l, c < 128) : Txt.lower (S l) = S (l.map lowr) := by
  refine placed_S l fun i hi => ?_
  have hc := h _ (List.getElem_mem hi)
  rw [lowerAt_S hi hc, lowr_ok _ hc]
theorem count_S (l : List Nat) (c : Nat) : Txt.count (S l) (S [c]) = (l.count c : Int) := by
  rw [show (S [c]) = ⟨#[c]⟩ from rfl, count_cnt]
  show cnt c l = _
  induction l with
  | nil => rfl
  | cons d r ih =>
    rw [cnt_cons, ih, List.count_cons]
    by_cases h : d = c
    · rw [if_pos h, if_pos (by simpa using h)]; omega
    · rw [if_neg h, if_neg (by simpa using h)]; omega
/-- texts with a text between -/
noncomputable def sepd (sep : List Nat) : List (List Nat) → List Nat
  | [] => []
  | [x] => x
  | x :: y :: r => x ++ sep ++ sepd sep (y :: r)
theorem bits_le {a : Int} (h0 : -1000000 ≤ a) (h1 : a ≤ 1000000) : Builtin.Int.intBits a ≤ 64 := by
  unfold Builtin.Int.intBits
  split
  · omega
  · rename_i h
    have h2 : a.natAbs ≠ 0 := by
      intro q; apply h; rw [beq_iff_eq]; omega
    have : a.natAbs.log2 < 63 := (Nat.log2_lt h2).mpr (by omega)
    omega
section
variable {P : PE} {fe : FE} {n : Nat} {loc : Loc} {hp : List AO} {K : LV → List AO → Prop} {l : List Nat}
theorem T2_mulI {a b : Int} (h0 : -1000000 ≤ a) (h1 : a ≤ 1000000) (h : K (.v (.int (a * b))) hp) : T2 P fe n (binaryOp .Mult) (.v (.int a)) (.v (.int b)) loc hp K := T2_mul (IntMulOk.of_left (bits_le h0 h1)) h
theorem T2_mulS {k : Nat} (h1 : l.length ≤ 1000) (h2 : k ≤ 1000) (h : K (.v (.str (S (rep k l)))) hp) : T2 P fe n (binaryOp .Mult) (.v (.str (S l))) (.v (.int (k : Int))) loc hp K := by
  refine T2_muls ⟨?_, fun h3 h4 => ?_, fun h3 h4 => ?_⟩ (by rw [mul_S]; exact h)
  · simp; omega
  · rw [S_len]
    have hk : (1 : Int) ≤ k := by omega
    have : (9007199254740992 : Int) ≤ (2 ^ 63 - 1) / (k : Int) := by
      apply Int.le_ediv_of_mul_le (by omega)
      omega
    omega
  · rw [S_len]
    have : l.length * (k : Int).toNat ≤ 1000 * 1000 := Nat.mul_le_mul h1 (by omega)
    unfold tooLong
    simp only [decide_eq_false_iff_not]
    have := sizeLine_eq
    omega
theorem T2_mulSI {i : Int} (h1 : l.length ≤ 1000) (h0 : 0 ≤ i) (h2 : i ≤ 1000) (h : K (.v (.str (S (rep i.toNat l)))) hp) : T2 P fe n (binaryOp .Mult) (.v (.str (S l))) (.v (.int i)) loc hp K := by
  obtain ⟨k, rfl⟩ := Int.eq_ofNat_of_zero_le h0
  exact T2_mulS h1 (by omega) h
theorem TL_countS {c : Nat} (h : K (.v (.int (l.count c : Nat))) hp) : TL P fe n (callP (.builtin "str.count")) [.v (.str (S l)), .v (.str (S [c]))] loc hp K :=
  TL_count (by rw [count_S]; exact h)
theorem filterMap_ints (ns : List Int) : ∀ js : List Nat, js.filterMap ((ns.map PV.int)[·]?) = (js.filterMap (ns[·]?)).map .int
  | [] => rfl
  | j :: js => by
    rw [List.filterMap_cons, List.filterMap_cons, filterMap_ints ns js, List.getElem?_map]
    cases ns[j]? <;> rfl
/-- a slice of the law's own list -/
theorem TSl_script {value slice : PySem.Expr} {lo u st : Option Int} (hst : st ≠ some 0) (hs : OpsOk slice) (hsz : P.sn.length ≤ 1000) (hh : ∀ ks : List Int, ks.length ≤ P.sn.length → K (.o hp.length) (hp ++ [.lst (ks.map .int)])) :
    TSl P fe n value slice (.v (.ref P.sl)) lo u st loc hp K := by
  intro X m θ s Q E vo vl vu vst C S ro pl pu ps kk
  have ro : vo = .ref P.sl := ro
  subst ro
  obtain ⟨hL, hI, _⟩ := C.sc.keeps S.fr.keep
  have rs : VRels s.heap (P.sn.map .int) P.sv.toArray.toList := by simpa using VRels.of_ints hI
  generalize P.sv.toArray = ws at hL rs
  generalize P.sl = a at hL
  have hlen : (pickPV (P.sn.map .int) lo u st).length ≤ P.sn.length := by
    have h1 := (rs.pick lo u st).length
    have h2 := rs.length
    have h3 := slicePick_size_le ws lo u st
    rw [Array.length_toList] at h1 h2
    rw [List.length_map] at h2
    omega
  have h : K (.o hp.length) (hp ++ [.lst (pickPV (P.sn.map .int) lo u st)]) := by
    have e : pickPV (P.sn.map .int) lo u st = ((sliceRange (sliceBounds lo u st (P.sn.map PV.int).length).1 (sliceBounds lo u st (P.sn.map PV.int).length).2.1 (sliceBounds lo u st (P.sn.map PV.int).length).2.2).filterMap (P.sn[·]?)).map .int := filterMap_ints _ _
    rw [e, List.length_map] at hlen
    rw [e]
    exact hh _ hlen
  obtain ⟨ops, hops⟩ := hs (.ref a) (.ref s.heap.objs.size)
  refine tail_any (Heap.IsList.typeIs (s := { s with heap := s.heap.push { cls := .type "slice", data := .fields #[vl, vu, vst] } }) (hL.push _)) list_getitem_lookup (wpAny_getItem_list_slice (hL.push _) (Heap.IsSliceOf.new ..) pl pu ps hst ?_ (by have := rs.length; rw [Array.length_toList, List.length_map] at this; rw [this]; exact szl (by omega))) hops
  rw [Heap.size_push]
  refine kt_list S kk h (fun b o e => Heap.get?_push_of_some _ (Heap.get?_push_of_some _ e)) (get?_size_none _ 1) ⟨{ cls := .type "list", data := .seq (slicePick ws lo u st) }, ?_, rfl, _, rfl⟩ (rs.pick lo u st) rfl rfl
  have e := Heap.get?_push_size (s.heap.push { cls := .type "slice", data := .fields #[vl, vu, vst] }) (o := { cls := .type "list", data := .seq (slicePick ws lo u st) }) rfl
  rw [Heap.size_push] at e
  exact e
/-- what is known of a list may be forgotten -/
theorem TXs_weak {Kf : Fl → Loc → List AO → Prop} {st : List Stmt} {k : Nat} {vs : List PV} (hk : hp[k]? = some (.lsd vs)) (h : TXs P fe n st loc (hp.set k (.lst vs)) Kf) : TXs P fe n st loc hp Kf := by
  intro X m θ s Q E C S kk
  obtain ⟨a, ea, ws, nn, e, rs⟩ := S.H.at hk
  obtain ⟨S', _⟩ := S.put (s' := s) (ao := .lst vs) ea (fun _ _ _ q => q) (fun _ => ⟨ws, ⟨_, e, rfl, _, rfl⟩, rs⟩) (fun _ _ q => by cases q) S.bare rfl
  exact h X m θ s Q E C S' kk
end
end VC
open VC PySem PySem.W PyProof.Rows PySem.Builtin
local macro_rules | `(tactic| k_call_by "vc O" 0) => `(tactic| first
  | ((with_reducible refine' T2_mulSI ?k1 ?k2 ?k3 ?_); (case k1 => k_call_by "vc len" 0); (case k2 => omega); (case k3 => omega))
  | ((with_reducible refine' T2_mulI ?k1 ?k2 ?_); (case k1 => omega); (case k2 => omega))
  | ((with_reducible refine' T2_mod ?k1 ?_); (case k1 => first | decide | assumption))
  | ((with_reducible refine' T2_fdiv ?k1 ?k2 ?_); (case k1 => decide); (case k2 => exact noPy (by decide))))
local macro_rules | `(tactic| k_call_by "vc L" 0) => `(tactic| first
  | with_reducible refine TL_countS ?_)
open PySem PySem.W PyProof.Rows PySem.Builtin VC
namespace Mine2

noncomputable def costS (a b : Str) : Int := if (a == b) = true then 0 else if (Txt.lower a == Txt.lower b) = true then 1 else 2
theorem sub_cost (P : PE) (hK : P.K = Mine2.hd.heap_1 P.w.params) {a b : Str} {hp : List AO} {K : LV → List AO → Prop} (ha : a.length ≤ 1000) (hb : b.length ≤ 1000) (h : K (.v (.int (costS a b))) hp) : TC P 1 (.ref 28) [.v (.str a), .v (.str b)] hp K := by
  refine TC_enter (f := 28) (oc := ?oc) (od := ?od) (osl := ?osl) (name := ?name) (qual := ?qual) (params := ?params) (body := ?body) (scope := ?scope) (dV := ?dV) (kV := ?kV) (doc := ?doc) (pm := ?pm) (cdv := ?cdv) (ct := ?ct) (an := ?an) (names := ?names) ?ho ?hcd ?hbind ?hnd ?hloc ?hcell ?hco ?hgen ?hk ?h
  case ho => rw [hK]; rfl
  case hcd => rw [hK]; rfl
  case names => exact ["ch_a", "ch_b"]
  case hbind => intro vals hl; obtain ⟨v, w, rfl⟩ := len2 hl; rfl
  case hnd => decide
  case hloc => decide
  case hcell => decide
  case hco => rfl
  case hgen => rfl
  case hk => rfl
  show TXs _ _ _ _ [(_, _), (_, _)] _ _
  repeat k_call_by "vc" 0
  refine ⟨fun hb => ?_, fun hb => ?_⟩
  · repeat k_call_by "vc" 0
    unfold costS at h; rw [if_pos hb] at h; exact h
  repeat k_call_by "vc" 0
  · omega
  repeat k_call_by "vc" 0
  · omega
  repeat k_call_by "vc" 0
  refine ⟨fun hc => ?_, fun hc => ?_⟩
  · repeat k_call_by "vc" 0
    unfold costS at h; rw [if_neg (by rw [hb]; decide), if_pos hc] at h; exact h
  repeat k_call_by "vc" 0
  unfold costS at h; rw [if_neg (by rw [hb]; decide), if_neg (by rw [hc]; decide)] at h; exact h
end Mine2
open PySem PySem.W PyProof.Rows PySem.Builtin VC
namespace Mine2
noncomputable def cst (x y : Nat) : Int := costS (S [x]) (S [y])
set_option maxHeartbeats 4000000 in
theorem lev_tc (P : PE) (hK : P.K = Mine2.hd.heap_1 P.w.params) {la lb : List Nat} {mx : Int} {hp : List AO} {K : LV → List AO → Prop} (ha : la.length ≤ 40) (hb : lb.length ≤ 40)
    (h : ∀ ex, K (.v (.int (lev cst la lb mx))) (hp ++ ex)) : TC P 2 (.ref 35) [.v (.str (S la)), .v (.str (S lb)), .v (.int mx)] hp K := by
  refine TC_enter (f := 35) (oc := ?oc) (od := ?od) (osl := ?osl) (name := ?name) (qual := ?qual) (params := ?params) (body := ?body) (scope := ?scope) (dV := ?dV) (kV := ?kV) (doc := ?doc) (pm := ?pm) (cdv := ?cdv) (ct := ?ct) (an := ?an) (names := ?names) ?ho ?hcd ?hbind ?hnd ?hloc ?hcell ?hco ?hgen ?hk ?h
  case ho => rw [hK]; rfl
  case hcd => rw [hK]; rfl
  case names => exact ["a", "b", "max_cost"]
  case hbind => intro vals hl; obtain ⟨v, w, u, rfl⟩ := len3 hl; rfl
  case hnd => decide
  case hloc => decide
  case hcell => decide
  case hco => rfl
  case hgen => rfl
  case hk => rfl
  show TXs _ _ _ _ [(_, _), (_, _), (_, _)] _ _
  repeat k_call_by "vc" 0
  refine ⟨fun hc => ?_, fun hc => ?_⟩
  · have hc := beq_iff_eq.mp hc
    have e : lev cst la lb mx = 0 := by unfold lev; rw [if_pos hc]
    rw [e] at h
    repeat k_call_by "vc" 0
    exact List.append_nil hp ▸ h []
  have hc : la ≠ lb := by simpa using hc
  repeat k_call_by "vc" 0
  have hcl := cpl_le la lb
  refine TX_mid (fun loc1 hp1 => hp1 = hp ∧ loc1 = [(Str.ofString "a", .v (.str (S la))), (Str.ofString "b", .v (.str (S lb))), (Str.ofString "max_cost", .v (.int mx)), (Str.ofString "pre", .v (.int (cpl la lb : Nat)))]) ?loop ?rest
  case loop =>
    refine TX_While (I := fun k loc1 hp1 => hp1 = hp ∧ ∃ p : Nat, p ≤ cpl la lb ∧ k = cpl la lb - p ∧ loc1 = [(Str.ofString "a", .v (.str (S la))), (Str.ofString "b", .v (.str (S lb))), (Str.ofString "max_cost", .v (.int mx)), (Str.ofString "pre", .v (.int (p : Int)))]) (cpl la lb) ⟨rfl, 0, Nat.zero_le _, rfl, rfl⟩ ?_
    rintro k loc1 hp1 ⟨rfl, p, hpl, rfl, rfl⟩
    repeat k_call_by "vc" 0
    refine ⟨fun h1 => ?t1, fun h1 => ?f1⟩
    case f1 =>
      repeat k_call_by "vc" 0
      have e : p = cpl la lb := by simp at h1; omega
      subst e; exact ⟨rfl, rfl⟩
    have h1 : p < la.length := by simp at h1; omega
    repeat k_call_by "vc" 0
    refine ⟨fun h2 => ?t2, fun h2 => ?f2⟩
    case f2 =>
      repeat k_call_by "vc" 0
      have e : p = cpl la lb := by simp at h2; omega
      subst e; exact ⟨rfl, rfl⟩
    have h2 : p < lb.length := by simp at h2; omega
    repeat k_call_by "vc" 0
    refine ⟨fun h3 => ?t3, fun h3 => ?f3⟩
    case f3 =>
      repeat k_call_by "vc" 0
      have e : p = cpl la lb := Nat.le_antisymm hpl (Nat.not_lt.mp fun q => by
        have := cpl_eq la lb p q
        rw [List.getElem?_eq_getElem h1, List.getElem?_eq_getElem h2] at this
        have := Option.some.inj this
        simp_all)
      subst e; exact ⟨rfl, rfl⟩
    have h3 : p < cpl la lb := by
      rcases Nat.lt_or_ge p (cpl la lb) with q | q
      · exact q
      · exfalso
        have e : p = cpl la lb := Nat.le_antisymm hpl q
        have q := cpl_ne la lb (by omega) (by omega)
        rw [← e, List.getElem?_eq_getElem h1, List.getElem?_eq_getElem h2] at q
        exact q (by simp at h3; rw [h3])
    repeat k_call_by "vc" 0
    refine Turn_next (Sub_all (Nat.le_refl _) (by k_call_by "vc sub" 0) nofun) ⟨_, ?_, rfl, p + 1, h3, rfl, rfl⟩
    omega
  rintro loc1 hp1 ⟨rfl, rfl⟩
  repeat k_call_by "vc" 0
  generalize hla1 : List.drop (cpl la lb) la = la1
  generalize hlb1 : List.drop (cpl la lb) lb = lb1
  have ha1 : la1.length ≤ 40 := by rw [← hla1, List.length_drop]; omega
  have hb1 : lb1.length ≤ 40 := by rw [← hlb1, List.length_drop]; omega
  generalize hcq : cpl la1.reverse lb1.reverse = cq
  have hcl2 := cpl_le la1.reverse lb1.reverse
  rw [hcq, List.length_reverse, List.length_reverse] at hcl2
  refine TX_mid (fun loc1 hp1' => hp1' = hp1 ∧ loc1 = [(Str.ofString "a", .v (.str (S la1))), (Str.ofString "b", .v (.str (S lb1))), (Str.ofString "max_cost", .v (.int mx)), (Str.ofString "pre", .v (.int (cpl la lb : Nat))), (Str.ofString "post", .v (.int (-(cq : Int))))]) ?loop2 ?rest2
  case loop2 =>
    refine TX_While (I := fun k loc1 hp1' => hp1' = hp1 ∧ ∃ q : Nat, q ≤ cq ∧ k = cq - q ∧ loc1 = [(Str.ofString "a", .v (.str (S la1))), (Str.ofString "b", .v (.str (S lb1))), (Str.ofString "max_cost", .v (.int mx)), (Str.ofString "pre", .v (.int (cpl la lb : Nat))), (Str.ofString "post", .v (.int (-(q : Int))))]) cq ⟨rfl, 0, Nat.zero_le _, rfl, rfl⟩ ?_
    rintro k loc1 hp1' ⟨rfl, q, hql, rfl, rfl⟩
    repeat k_call_by "vc" 0
    refine ⟨fun h1 => ?u1, fun h1 => ?v1⟩
    case v1 =>
      repeat k_call_by "vc" 0
      have e : q = cq := by simp at h1; omega
      subst e; exact ⟨rfl, rfl⟩
    have h1 : q < la1.length := by simp at h1; omega
    repeat k_call_by "vc" 0
    refine ⟨fun h2 => ?u2, fun h2 => ?v2⟩
    case v2 =>
      repeat k_call_by "vc" 0
      have e : q = cq := by simp at h2; omega
      subst e; exact ⟨rfl, rfl⟩
    have h2 : q < lb1.length := by simp at h2; omega
    have ei : -(q : Int) - 1 = -((q + 1 : Nat) : Int) := by omega
    repeat k_call_by "vc" 0
    rw [ei]
    repeat k_call_by "vc" 0
    rw [ei]
    repeat k_call_by "vc" 0
    have g1 : la1.reverse[q]? = some (la1[la1.length - (q + 1)]'(by omega)) := by rw [List.getElem?_reverse h1, ← List.getElem?_eq_getElem]; congr 1; omega
    have g2 : lb1.reverse[q]? = some (lb1[lb1.length - (q + 1)]'(by omega)) := by rw [List.getElem?_reverse h2, ← List.getElem?_eq_getElem]; congr 1; omega
    refine ⟨fun h3 => ?u3, fun h3 => ?v3⟩
    case v3 =>
      repeat k_call_by "vc" 0
      have e : q = cq := Nat.le_antisymm hql (Nat.not_lt.mp fun z => by
        rw [← hcq] at z
        have := cpl_eq _ _ q z
        rw [g1, g2] at this
        have := Option.some.inj this
        simp_all)
      subst e; exact ⟨rfl, rfl⟩
    have h3 : q < cq := by
      rcases Nat.lt_or_ge q cq with z | z
      · exact z
      · exfalso
        have e : q = cq := Nat.le_antisymm hql z
        have z := cpl_ne la1.reverse lb1.reverse (by rw [hcq, List.length_reverse]; omega) (by rw [hcq, List.length_reverse]; omega)
        rw [hcq, ← e, g1, g2] at z
        exact z (by simp at h3; rw [h3])
    repeat k_call_by "vc" 0
    rw [ei]
    refine Turn_next (Sub_all (Nat.le_refl _) (by k_call_by "vc sub" 0) nofun) ⟨_, ?_, rfl, q + 1, h3, rfl, rfl⟩
    omega
  rintro loc1 hp1' ⟨rfl, rfl⟩
  repeat k_call_by "vc" 0
  generalize hla2 : List.take (la1.length - cq) la1 = la2
  generalize hlb2 : List.take (lb1.length - cq) lb1 = lb2
  have ha2 : la2.length ≤ 40 := by rw [← hla2, List.length_take]; omega
  have hb2 : lb2.length ≤ 40 := by rw [← hlb2, List.length_take]; omega
  have hl : lev cst la lb mx = if la2.length = 0 ∨ lb2.length = 0 then 2 * ((la2.length : Int) + lb2.length) else
      if mx < (((if lb2.length < la2.length then la2 else lb2).length : Int) - (if lb2.length < la2.length then lb2 else la2).length) * 2 then mx + 1 else dp cst (if lb2.length < la2.length then lb2 else la2) (if lb2.length < la2.length then la2 else lb2) mx := by
    unfold lev; rw [if_neg hc]; simp only [hla1, hlb1, hcq, hla2, hlb2]
  rw [hl] at h
  clear hl
  refine ⟨fun h1 => ?z1, fun h1 => ?y1⟩
  case z1 =>
    repeat k_call_by "vc" 0
    rw [if_pos (.inl (by simpa using h1))] at h
    exact List.append_nil hp1' ▸ h []
  have h1 : 0 < la2.length := by simp at h1; exact List.length_pos_iff.mpr h1
  repeat k_call_by "vc" 0
  refine ⟨fun h2 => ?z2, fun h2 => ?y2⟩
  case z2 =>
    repeat k_call_by "vc" 0
    rw [if_pos (.inr (by simpa using h2))] at h
    exact List.append_nil hp1' ▸ h []
  have h2 : 0 < lb2.length := by simp at h2; exact List.length_pos_iff.mpr h2
  rw [if_neg (by omega)] at h
  repeat k_call_by "vc" 0
  rw [decide_eq_false (by omega : ¬ (40 : Int) < la2.length)]
  repeat k_call_by "vc" 0
  rw [decide_eq_false (by omega : ¬ (40 : Int) < lb2.length)]
  refine on_false (TAll_Or_nil (on_false (TXs_nil (Then_next (TXs_cons ?_)))))
  generalize hx : (if lb2.length < la2.length then lb2 else la2) = x at h
  generalize hy : (if lb2.length < la2.length then la2 else lb2) = y at h
  refine TX_mid (fun loc1 hp1 => hp1 = hp1' ∧ loc1 = [(Str.ofString "a", .v (.str (S x))), (Str.ofString "b", .v (.str (S y))), (Str.ofString "max_cost", .v (.int mx)), (Str.ofString "pre", .v (.int (cpl la lb : Nat))), (Str.ofString "post", .v (.int (-(cq : Int))))]) ?swap ?rest3
  case swap =>
    repeat k_call_by "vc" 0
    refine ⟨fun h3 => ?z3, fun h3 => ?y3⟩
    case y3 =>
      repeat k_call_by "vc" 0
      have h3 : ¬ lb2.length < la2.length := by simpa using h3
      rw [if_neg h3] at hx hy
      subst hx hy
      exact ⟨rfl, rfl⟩
    have h3 : lb2.length < la2.length := by simpa using h3
    rw [if_pos h3] at hx hy
    subst hx hy
    repeat k_call_by "vc" 0
    exact ⟨rfl, rfl⟩
  rintro loc1 hp1 ⟨rfl, rfl⟩
  have hxl : x.length ≤ 40 := by rw [← hx]; split <;> assumption
  have hyl : y.length ≤ 40 := by rw [← hy]; split <;> assumption
  have hxy : x.length ≤ y.length := by rw [← hx, ← hy]; split <;> omega
  repeat k_call_by "vc" 0
  refine ⟨fun h4 => ?z4, fun h4 => ?y4⟩
  case z4 =>
    repeat k_call_by "vc" 0
    rw [if_pos (by simpa using h4)] at h
    exact List.append_nil hp1 ▸ h []
  rw [if_neg (by simpa using h4)] at h
  repeat k_call_by "vc" 0
  refine RArgs3 (by decide) (noPy (by decide)) ⟨small_two (by omega), by rw [rangeSize_two]; omega, ?_⟩
  rw [rangeVs_two]
  repeat k_call_by "vc" 0
  k_call_by "vc range" 0
  repeat k_call_by "vc" 0
  refine RArgs1 ⟨small_nat (by omega), ?_⟩
  rw [rangeVs_nat]
  refine ⟨fun j loc1 hp1' => ∃ row r, outerN cst x y mx j = .inr (row, r) ∧ hp1' = hp1 ++ [.lst (row.map .int)] ∧ loc1 = [(Str.ofString "a", .v (.str (S x))), (Str.ofString "b", .v (.str (S y))), (Str.ofString "max_cost", .v (.int mx)), (Str.ofString "pre", .v (.int (cpl la lb : Nat))), (Str.ofString "post", .v (.int (-(cq : Int)))), (Str.ofString "row", .o hp1.length), (Str.ofString "result", .v (.int r))], ⟨_, 0, rfl, rfl, rfl⟩, ?ostep, ?oexit⟩
  case oexit =>
    rintro loc1 hp1' ⟨row, r, ho, rfl, rfl⟩
    rw [List.length_map, List.length_range] at ho
    repeat k_call_by "vc" 0
    have e : dp cst x y mx = r := by unfold dp; rw [ho]
    rw [e] at h
    exact h _
  rintro j v loc1 hp1' hv ⟨row, r, ho, rfl, rfl⟩
  obtain ⟨hj, rfl⟩ := rangeVs_get hv
  have hrow := outerN_len cst x y mx j ho
  repeat k_call_by "vc" 0
  generalize hc0 : y[j] = c
  have hyj : y[j]? = some c := by rw [List.getElem?_eq_getElem hj, hc0]
  have hnext := outerN_succ ho hyj
  refine TX_mid (fun loc2 hp2 => ∃ row' d r' mn, innerN cst c x row ((j : Int) * 2) x.length = (row', d, r', mn) ∧ hp2 = hp1 ++ [.lst (row'.map .int)] ∧ loc2 = [(Str.ofString "a", .v (.str (S x))), (Str.ofString "b", .v (.str (S y))), (Str.ofString "max_cost", .v (.int mx)), (Str.ofString "pre", .v (.int (cpl la lb : Nat))), (Str.ofString "post", .v (.int (-(cq : Int)))), (Str.ofString "row", .o hp1.length), (Str.ofString "result", .v (.int r')), (Str.ofString "bindex", .v (.int (j : Int))), (Str.ofString "bchar", .v (.str (S [c]))), (Str.ofString "distance", .v (.int d)), (Str.ofString "minimum", .v (.int mn))]) ?iloop ?irest
  case irest =>
    rintro loc2 hp2 ⟨row', d, r', mn, hin, rfl, rfl⟩
    rw [hin] at hnext
    repeat k_call_by "vc" 0
    refine ⟨fun h5 => ?z5, fun h5 => ?y5⟩
    case z5 =>
      have h5 := of_decide_eq_true h5
      repeat k_call_by "vc" 0
      have e : dp cst x y mx = mx + 1 := by
        rw [if_pos h5] at hnext
        have := outerN_stick cst x y mx (y.length - (j + 1)) _ hnext
        rw [show j + 1 + (y.length - (j + 1)) = y.length by omega] at this
        unfold dp; rw [this]
      rw [e] at h
      exact h _
    rw [if_neg (by simpa using h5)] at hnext
    repeat k_call_by "vc" 0
    refine Turn_next (Sub_all (by simp) (by k_call_by "vc sub" 0) nofun) ⟨_, _, hnext, rfl, rfl⟩
  k_call_by "vc range" 0
  repeat k_call_by "vc" 0
  refine RArgs1 ⟨small_nat (by omega), ?_⟩
  rw [rangeVs_nat]
  refine ⟨fun i loc2 hp2 => ∃ row' d r' mn, innerN cst c x row ((j : Int) * 2) i = (row', d, r', mn) ∧ hp2 = hp1 ++ [.lst (row'.map .int)] ∧ loc2 = [(Str.ofString "a", .v (.str (S x))), (Str.ofString "b", .v (.str (S y))), (Str.ofString "max_cost", .v (.int mx)), (Str.ofString "pre", .v (.int (cpl la lb : Nat))), (Str.ofString "post", .v (.int (-(cq : Int)))), (Str.ofString "row", .o hp1.length), (Str.ofString "result", .v (.int r')), (Str.ofString "bindex", .v (.int (j : Int))), (Str.ofString "bchar", .v (.str (S [c]))), (Str.ofString "distance", .v (.int d)), (Str.ofString "minimum", .v (.int mn))], ⟨_, _, _, _, rfl, rfl, rfl⟩, ?istep, ?iexit⟩
  case iexit =>
    rintro loc2 hp2 ⟨row', d, r', mn, hin, rfl, rfl⟩
    rw [List.length_map, List.length_range] at hin
    exact ⟨_, _, _, _, hin, rfl, rfl⟩
  rintro i v loc2 hp2 hv ⟨row', d, r', mn, hin, rfl, rfl⟩
  obtain ⟨hi, rfl⟩ := rangeVs_get hv
  have hrow' := innerN_len cst c x row ((j : Int) * 2) i
  rw [hin] at hrow'
  have hi' : i < row'.length := by simp at hrow'; omega
  have hnx := innerN_succ hin (List.getElem?_eq_getElem hi)
  repeat k_call_by "vc" 0
  refine TE_call 28 1 (by rfl) (by k_call_by "vc some" 0) (by k_call_by "vc keep" 0) (Nat.le_refl _) (by decide +kernel) (fun _ => rfl) (fun _ => rfl) ?_
  repeat k_call_by "vc" 0
  refine sub_cost P hK (by rw [S_len]; simp) (by rw [S_len]; simp) ?_
  rw [show costS (S [c]) (S [x[i]]) = cst c x[i] from rfl]
  repeat k_call_by "vc" 0
  refine T2_item_list (fun _ _ => ⟨_, rfl⟩) (last_get _ _) (by omega) (by omega) (item_ints hi') ?_
  repeat k_call_by "vc" 0
  refine ⟨_, hp1.length, row'.map .int, (i : Int), rfl, rfl, rfl, last_get _ _, by omega, by rw [List.length_map]; omega, by omega, ?_⟩
  rw [last_set, Int.toNat_natCast, ← List.map_set]
  repeat k_call_by "vc" 0
  refine ⟨fun h6 => ?z6, fun h6 => ?y6⟩
  case z6 =>
    have h6 := of_decide_eq_true h6
    rw [if_pos h6] at hnx
    repeat k_call_by "vc" 0
    exact Turn_next (Sub_all (by simp) (by k_call_by "vc sub" 0) nofun) ⟨_, _, _, _, hnx, rfl, rfl⟩
  rw [if_neg (of_decide_eq_false h6)] at hnx
  repeat k_call_by "vc" 0
  exact Turn_next (Sub_all (by simp) (by k_call_by "vc sub" 0) nofun) ⟨_, _, _, _, hnx, rfl, rfl⟩
end Mine2
open PySem PySem.W PyProof.Rows PySem.Builtin VC
namespace Mine2
structure Ok (P : PE) : Prop where
  hK : P.K = hd.heap_1 P.w.params
  hC : P.C = 115
  hp : P.prog = PySem.Challenge.pw_xl0012_02
theorem accF {P : PE} (O : Ok P) : AccF P.K P.C := by rw [O.hK, O.hC]; exact ⟨⟨_, rfl⟩, rfl, rfl, rfl, rfl, rfl, rfl, rfl, rfl, rfl⟩
theorem setF {P : PE} (O : Ok P) : SetF P.K P.C := by rw [O.hK, O.hC]; exact ⟨rfl, rfl, rfl, rfl⟩

theorem push_tc {P : PE} (O : Ok P) {k d : Nat} {vs : List PV} {i : Option Int} {f t : Str} {hp : List AO} {K : LV → List AO → Prop} (hk : hp[k]? = some (.acc d vs)) (hd' : hp[d]? = some (.dct i)) (hsz : vs.length ≤ 100000) (h : K (.v .none) (hp.set k (.acc d (vs ++ [.tup [.str f, .str t]])))) :
    TC P 1 (.ref 59) [.o k, .v (.str f), .v (.str t)] hp K := by
  have hK := O.hK
  refine TC_enter (f := 59) (oc := ?oc) (od := ?od) (osl := ?osl) (name := ?name) (qual := ?qual) (params := ?params) (body := ?body) (scope := ?scope) (dV := ?dV) (kV := ?kV) (doc := ?doc) (pm := ?pm) (cdv := ?cdv) (ct := ?ct) (an := ?an) (names := ?names) ?ho ?hcd ?hbind ?hnd ?hloc ?hcell ?hco ?hgen ?hk ?h
  case ho => rw [hK]; rfl
  case hcd => rw [hK]; rfl
  case names => exact ["self", "fws", "string"]
  case hbind => intro vals hl; obtain ⟨v, w, u, rfl⟩ := len3 hl; rfl
  case hnd => decide
  case hloc => decide
  case hcell => decide
  case hco => rfl
  case hgen => rfl
  case hk => rfl
  show TXs _ _ _ _ [(_, _), (_, _), (_, _)] _ _
  refine TXs_cons (TX_Expr (fun _ => rfl) (fun _ => rfl) ?_)
  refine TE_Append (accF O) (by k_call_by "vc base" 0) (fun _ => rfl) (by rfl) (fun _ => rfl) ?_
  k_call_by "vc" 0
  refine ⟨k, d, vs, i, rfl, hk, hd', ?_⟩
  repeat k_call_by "vc" 0
  refine ⟨vs, i, _, rfl, hk, hd', hsz, ?_⟩
  repeat k_call_by "vc" 0
  exact h

theorem supF {P : PE} (O : Ok P) {fe : FE} (h1 : ∃ oc od fd osl ar, P.K.lookup fe.fa = some ⟨oc, od, .func fd, osl⟩ ∧ (fd.params.posonlyargs ++ fd.params.args).head? = some ar ∧ ar.arg = Str.ofString "self")
    (h2 : ∃ cda ccl cdd vs ccs file tf, fe.code = .ref cda ∧ P.K.lookup cda = some ⟨ccl, cdd, .fields vs, ccs⟩ ∧ vs[2]? = some (.str file tf) ∧ ((P.prog.main.file : Str) == file) = true)
    (s1 : fe.scope.names.lookup (Str.ofString "super") = some .globalImplicit) (s2 : fe.scope.names.lookup (Str.ofString "__class__") = some .free) (s3 : fe.scope.names.lookup (Str.ofString "self") = some .local) (s4 : fe.scope.kind = .function) : SupF P fe 39 := by
  refine ⟨h1, h2, ?_, ?_, ?_, s1, s2, s3, s4, ?_, ?_, ?_, ?_⟩
  · rw [O.hK, O.hC]; exact ⟨_, _, _, rfl⟩
  · rw [O.hK, O.hC]; rfl
  · rw [O.hK]; rfl
  · rw [O.hp]; rfl
  · rw [O.hK]; rfl
  · rw [O.hK, O.hC]; rfl
  · rw [O.hK, O.hC]; rfl

theorem part_count_tc {P : PE} (O : Ok P) {k d : Nat} {vs : List PV} {i : Option Int} {hp : List AO} {K : LV → List AO → Prop} (hk : hp[k]? = some (.acc d vs)) (hd' : hp[d]? = some (.dct i)) (h : K (.v (.int vs.length)) hp) :
    TC P 1 (.ref 112) [.o k] hp K := by
  have hK := O.hK
  refine TC_enterS (f := 112) (cc := some 39) (as := [.o k]) (ds := []) (dvs := []) (oc := ?oc) (od := ?od) (osl := ?osl) (name := ?name) (qual := ?qual) (params := ?params) (body := ?body) (scope := ?scope) (dV := ?dV) (kV := ?kV) (doc := ?doc) (pm := ?pm) (cdv := ?cdv) (ct := ?ct) (an := ?an) (names := ?names) ?ho ?hcd ?hbind ?hds ?hnd ?hloc ?hcell ?hco ?hgen ?hk ?h
  case ho => rw [hK]; rfl
  case hcd => rw [hK]; rfl
  case names => exact ["self"]
  case hbind => intro s vals _ hl; obtain ⟨v, rfl⟩ := len1 hl; exact PySem.BindsTo.of_eq rfl
  case hds => intro _ _; rfl
  case hnd => decide
  case hloc => decide
  case hcell => decide
  case hco => rfl
  case hgen => rfl
  case hk => rfl
  refine TXS.ofW (TXW_Len (k := k) (d := d) (i := i) (accF O) (supF O ?_ ?_ rfl rfl rfl rfl) (biLen ?_) (by rfl) hk hd' (by rfl) h)
  · rw [hK]; exact ⟨_, _, _, _, _, rfl, rfl, rfl⟩
  · rw [hK, O.hp]; exact ⟨_, _, _, _, _, _, _, rfl, rfl, rfl, rfl⟩
  · rw [hK, O.hC]; rfl

theorem pop_tc {P : PE} (O : Ok P) {k d : Nat} {vs : List PV} {p : PV} {i : Option Int} {hp : List AO} {K : LV → List AO → Prop} (hk : hp[k]? = some (.acc d (vs ++ [p]))) (hd' : hp[d]? = some (.dct i)) (hsz : vs.length ≤ 100000) (h : K (.v p) (hp.set k (.acc d vs))) :
    TC P 2 (.ref 75) [.o k] hp K := by
  have hK := O.hK
  refine TC_enterS (f := 75) (cc := some 39) (as := [.o k]) (ds := []) (dvs := []) (oc := ?oc) (od := ?od) (osl := ?osl) (name := ?name) (qual := ?qual) (params := ?params) (body := ?body) (scope := ?scope) (dV := ?dV) (kV := ?kV) (doc := ?doc) (pm := ?pm) (cdv := ?cdv) (ct := ?ct) (an := ?an) (names := ?names) ?ho ?hcd ?hbind ?hds ?hnd ?hloc ?hcell ?hco ?hgen ?hk ?h
  case ho => rw [hK]; rfl
  case hcd => rw [hK]; rfl
  case names => exact ["self"]
  case hbind => intro s vals X hl; obtain ⟨v, rfl⟩ := len1 hl; exact PySem.BindsTo.of_eq rfl
  case hds => intro _ _; exact rfl
  case hnd => decide
  case hloc => decide
  case hcell => decide
  case hco => rfl
  case hgen => rfl
  case hk => rfl
  refine TXS.ofW (TXW_cons ?_)
  k_call_by "vc" 0
  k_call_by "vc" 0
  refine TE_MethF0 (f := 112) 1 (accF O) (by rw [hK, O.hC]; rfl) (by rw [hK]; rfl) (by rw [hK]; rfl) (by decide +kernel) (Nat.le_refl _) (by k_call_by "vc base" 0) (by rfl) ?_
  k_call_by "vc" 0
  refine ⟨k, d, _, i, rfl, hk, hd', part_count_tc O hk hd' ?_⟩
  repeat k_call_by "vc" 0
  have e : ((((vs ++ [p]).length : Nat) : Int) == 0) = false := by simp; omega
  rw [e]
  refine on_false (TXs_nil ?_)
  refine TXW_Pop (k := k) (d := d) (i := i) (accF O) (supF O ?_ ?_ rfl rfl rfl rfl) (biPop ?_ ?_) (by rfl) hk hd' (by rfl) hsz h
  · rw [hK]; exact ⟨_, _, _, _, _, rfl, rfl, rfl⟩
  · rw [hK, O.hp]; exact ⟨_, _, _, _, _, _, _, rfl, rfl, rfl, rfl⟩
  · rw [hK, O.hC]; rfl
  · rw [hK, O.hC]; intro cd e; cases e; decide +kernel

theorem pop0_tc {P : PE} (O : Ok P) {k d : Nat} {i : Option Int} {hp : List AO} {K : LV → List AO → Prop} (hk : hp[k]? = some (.acc d [])) (hd' : hp[d]? = some (.dct i)) (h : K (.v (.tup [.str (S []), .str (S [])])) hp) :
    TC P 2 (.ref 75) [.o k] hp K := by
  have hK := O.hK
  refine TC_enterS (f := 75) (cc := some 39) (as := [.o k]) (ds := []) (dvs := []) (oc := ?oc) (od := ?od) (osl := ?osl) (name := ?name) (qual := ?qual) (params := ?params) (body := ?body) (scope := ?scope) (dV := ?dV) (kV := ?kV) (doc := ?doc) (pm := ?pm) (cdv := ?cdv) (ct := ?ct) (an := ?an) (names := ?names) ?ho ?hcd ?hbind ?hds ?hnd ?hloc ?hcell ?hco ?hgen ?hk ?h
  case ho => rw [hK]; rfl
  case hcd => rw [hK]; rfl
  case names => exact ["self"]
  case hbind => intro s vals X hl; obtain ⟨v, rfl⟩ := len1 hl; exact PySem.BindsTo.of_eq rfl
  case hds => intro _ _; exact rfl
  case hnd => decide
  case hloc => decide
  case hcell => decide
  case hco => rfl
  case hgen => rfl
  case hk => rfl
  refine TXS.ofW (TXW_cons ?_)
  k_call_by "vc" 0
  k_call_by "vc" 0
  refine TE_MethF0 (f := 112) 1 (accF O) (by rw [hK, O.hC]; rfl) (by rw [hK]; rfl) (by rw [hK]; rfl) (by decide +kernel) (Nat.le_refl _) (by k_call_by "vc base" 0) (by rfl) ?_
  k_call_by "vc" 0
  refine ⟨k, d, _, i, rfl, hk, hd', part_count_tc O hk hd' ?_⟩
  repeat k_call_by "vc" 0
  refine ⟨fun _ => ?_, fun e => by cases e⟩
  repeat k_call_by "vc" 0
  exact h

end Mine2
open PySem PySem.W PyProof.Rows PySem.Builtin VC
namespace Mine2
theorem pop_from_tc {P : PE} (O : Ok P) {k d j : Nat} {vs : List PV} {i : Option Int} {hp : List AO} {K : LV → List AO → Prop} (hk : hp[k]? = some (.acc d vs)) (hd' : hp[d]? = some (.dct i)) (hsz : vs.length ≤ 100000) (h : K (.o hp.length) (hp.set k (.acc d (vs.take j)) ++ [.lst (vs.drop j), .lst []])) :
    TC P 1 (.ref 67) [.o k, .v (.int (j : Int))] hp K := by
  have hK := O.hK
  refine TC_enterS (f := 67) (cc := none) (as := [.o k, .v (.int (j : Int))]) (ds := []) (dvs := []) (oc := ?oc) (od := ?od) (osl := ?osl) (name := ?name) (qual := ?qual) (params := ?params) (body := ?body) (scope := ?scope) (dV := ?dV) (kV := ?kV) (doc := ?doc) (pm := ?pm) (cdv := ?cdv) (ct := ?ct) (an := ?an) (names := ?names) ?ho ?hcd ?hbind ?hds ?hnd ?hloc ?hcell ?hco ?hgen ?hk ?h
  case ho => rw [hK]; rfl
  case hcd => rw [hK]; rfl
  case names => exact ["self", "i"]
  case hbind => intro s vals X hl; obtain ⟨v, w, rfl⟩ := len2 hl; exact binds_K X rfl (by rw [hK]; rfl) rfl rfl rfl
  case hds => intro _ _; rfl
  case hnd => decide
  case hloc => decide
  case hcell => decide
  case hco => rfl
  case hgen => rfl
  case hk => rfl
  refine TXS.of ?_
  show TXs _ _ _ _ [(_, _), (_, _)] _ _
  refine TXs_cons ?_
  k_call_by "vc" 0
  k_call_by "vc" 0
  k_call_by "vc" 0
  k_call_by "vc" 0
  k_call_by "vc" 0
  k_call_by "vc" 0
  k_call_by "vc" 0
  refine ⟨_, _, _, rfl, rfl, rfl, TSl_acc (accF O) hk hd' (by decide) (fun _ _ => ⟨_, rfl⟩) hsz ?_⟩
  rw [pickPV_from]
  repeat k_call_by "vc" 0
  refine TX_SetSlice (accF O) ?sw1 ?_
  case sw1 => exact fun _ => rfl
  k_call_by "vc" 0
  k_call_by "vc" 0
  refine ⟨[], rfl, by decide, ?_⟩
  repeat k_call_by "vc" 0
  refine ⟨k, d, vs, i, _, [], _, _, rfl, rfl, ?_, get_old (get_old hk), get_old (get_old hd'), ?_, rfl, rfl, by simpa using hsz, ?_⟩
  · have := (List.getElem?_eq_some_iff.mp hk).1; simp; omega
  · exact List.getElem?_concat_length ..
  rw [cutPV_from, List.append_nil, List.append_assoc, set_old hk]
  repeat k_call_by "vc" 0
  exact h

theorem reset_tc {P : PE} (O : Ok P) {k d b : Nat} {vs us : List PV} {i : Option Int} {hp : List AO} {K : LV → List AO → Prop} (hk : hp[k]? = some (.acc d vs)) (hd' : hp[d]? = some (.dct i)) (hb : hp[b]? = some (.lst us)) (hsz : vs.length + us.length ≤ 100000) (h : K (.v .none) ((hp.set k (.acc d us)).set d (.dct (some 0)))) :
    TC P 1 (.ref 97) [.o k, .o b] hp K := by
  have hK := O.hK
  refine TC_enterS (f := 97) (cc := none) (as := [.o k, .o b]) (ds := []) (dvs := []) (oc := ?oc) (od := ?od) (osl := ?osl) (name := ?name) (qual := ?qual) (params := ?params) (body := ?body) (scope := ?scope) (dV := ?dV) (kV := ?kV) (doc := ?doc) (pm := ?pm) (cdv := ?cdv) (ct := ?ct) (an := ?an) (names := ?names) ?ho ?hcd ?hbind ?hds ?hnd ?hloc ?hcell ?hco ?hgen ?hk ?h
  case ho => rw [hK]; rfl
  case hcd => rw [hK]; rfl
  case names => exact ["self", "startval"]
  case hbind => intro s vals X hl; obtain ⟨v, w, rfl⟩ := len2 hl; exact binds_K X rfl (by rw [hK]; rfl) rfl rfl rfl
  case hds => intro _ _; rfl
  case hnd => decide
  case hloc => decide
  case hcell => decide
  case hco => rfl
  case hgen => rfl
  case hk => rfl
  refine TXS.of ?_
  show TXs _ _ _ _ [(_, _), (_, _)] _ _
  repeat k_call_by "vc" 0
  have hkb : k ≠ b := by rintro rfl; rw [hk] at hb; cases hb
  have hkd : k ≠ d := by rintro rfl; rw [hk] at hd'; cases hd'
  refine TX_SetSlice (accF O) ?sw3 ?_
  case sw3 => exact fun _ => rfl
  repeat k_call_by "vc" 0
  refine ⟨k, d, vs, i, b, us, _, _, rfl, rfl, hkb, hk, hd', hb, rfl, rfl, hsz, ?_⟩
  rw [cutPV_all]
  repeat k_call_by "vc" 0
  refine TX_SetSize (setF O) (fun _ => rfl) ?_
  repeat k_call_by "vc" 0
  refine ⟨0, k, d, us, i, rfl, rfl, ?_, ?_, ?_⟩
  · rw [List.getElem?_set_self (List.getElem?_eq_some_iff.mp hk).1]
  · rw [List.getElem?_set_ne hkd]; exact hd'
  repeat k_call_by "vc" 0
  exact h
end Mine2
open PySem PySem.W PyProof.Rows PySem.Builtin VC
namespace Mine2
theorem lenF {P : PE} (O : Ok P) : CodeF P.K 81 77 := by rw [O.hK]; exact ⟨⟨_, _, _, _, _, _, _, _, _, _, rfl, rfl, rfl, rfl, rfl, rfl, rfl⟩, rfl⟩
theorem strF {P : PE} (O : Ok P) : CodeF P.K 88 84 := by rw [O.hK]; exact ⟨⟨_, _, _, _, _, _, _, _, _, _, rfl, rfl, rfl, rfl, rfl, rfl, rfl⟩, rfl⟩
noncomputable def wgt (q : Str × Str) : Int := (q.1.length : Int) + q.2.length
noncomputable def cat (q : Str × Str) : Str := Txt.join (Str.ofString "") [q.1, q.2]

theorem len_tc {P : PE} (O : Ok P) {k d kt : Nat} {vs : List (Str × Str)} {i : Int} {hp : List AO} {K : LV → List AO → Prop} (htab : hp[kt]? = some (.tab 81)) (hk : hp[k]? = some (.acc d (vs.map pairPV))) (hd' : hp[d]? = some (.dct (some i))) (hsz : ∀ q ∈ vs, q.1.length ≤ 100000 ∧ q.2.length ≤ 100000) (h : K (.v (.int (i + (vs.map wgt).sum))) hp) :
    TC P 1 (.ref 82) [.o k] hp K := by
  have hK := O.hK
  refine TC_enterS (f := 82) (cc := none) (as := [.o k]) (ds := []) (dvs := []) (oc := ?oc) (od := ?od) (osl := ?osl) (name := ?name) (qual := ?qual) (params := ?params) (body := ?body) (scope := ?scope) (dV := ?dV) (kV := ?kV) (doc := ?doc) (pm := ?pm) (cdv := ?cdv) (ct := ?ct) (an := ?an) (names := ?names) ?ho ?hcd ?hbind ?hds ?hnd ?hloc ?hcell ?hco ?hgen ?hk ?h
  case ho => rw [hK]; rfl
  case hcd => rw [hK]; rfl
  case names => exact ["self"]
  case hbind => intro s vals _ hl; obtain ⟨v, rfl⟩ := len1 hl; exact PySem.BindsTo.of_eq rfl
  case hds => intro _ _; rfl
  case hnd => decide
  case hloc => decide
  case hcell => decide
  case hco => rfl
  case hgen => rfl
  case hk => rfl
  refine TXS.of ?_
  show TXs _ _ _ _ [(_, _)] _ _
  refine TXs_cons ?_
  k_call_by "vc" 0
  refine TE_AccSum (v := wgt) (accF O) (lenF O) rfl htab rfl rfl hk hd' rfl (by rw [hK]; rfl) ?_ rfl (by decide) (by decide) rfl rfl rfl (by decide) rfl ?_ ?_
  · intro od t hl
    rw [O.hC]
    exact findObj_own (by rw [hK]; rfl) (by rw [hK]; rfl) (by rw [hK]; rfl) hl
  · intro X C' code q hq
    refine TQ_bin (TQ_len rfl rfl rfl rfl (by rw [hK]; rfl) (fun _ => rfl) ?_ (TQ_local (by rfl) rfl rfl (by decide))) (TQ_len rfl rfl rfl rfl (by rw [hK]; rfl) (fun _ => rfl) ?_ (TQ_local (by rfl) rfl rfl (by decide))) TQ2_add
    · have := (hsz q hq).1; omega
    · have := (hsz q hq).2; omega
  · repeat k_call_by "vc" 0
    exact h

theorem str_tc {P : PE} (O : Ok P) {k d kt : Nat} {vs : List (Str × Str)} {i : Option Int} {hp : List AO} {K : LV → List AO → Prop} (htab : hp[kt]? = some (.tab 88)) (hk : hp[k]? = some (.acc d (vs.map pairPV))) (hd' : hp[d]? = some (.dct i)) (hn : vs.length ≤ 100000) (hsz : ∀ q ∈ vs, q.1.length ≤ 100000 ∧ q.2.length ≤ 100000)
    (hj : JoinOk (Str.ofString "") (vs.map cat) = true) (h : K (.v (.str (Txt.join (Str.ofString "") (vs.map cat)))) hp) :
    TC P 1 (.ref 89) [.o k] hp K := by
  have hK := O.hK
  refine TC_enterS (f := 89) (cc := none) (as := [.o k]) (ds := []) (dvs := []) (oc := ?oc) (od := ?od) (osl := ?osl) (name := ?name) (qual := ?qual) (params := ?params) (body := ?body) (scope := ?scope) (dV := ?dV) (kV := ?kV) (doc := ?doc) (pm := ?pm) (cdv := ?cdv) (ct := ?ct) (an := ?an) (names := ?names) ?ho ?hcd ?hbind ?hds ?hnd ?hloc ?hcell ?hco ?hgen ?hk ?h
  case ho => rw [hK]; rfl
  case hcd => rw [hK]; rfl
  case names => exact ["self"]
  case hbind => intro s vals _ hl; obtain ⟨v, rfl⟩ := len1 hl; exact PySem.BindsTo.of_eq rfl
  case hds => intro _ _; rfl
  case hnd => decide
  case hloc => decide
  case hcell => decide
  case hco => rfl
  case hgen => rfl
  case hk => rfl
  refine TXS.of ?_
  show TXs _ _ _ _ [(_, _)] _ _
  refine TXs_cons ?_
  k_call_by "vc" 0
  refine TE_AccJoin (v := cat) (x := Str.ofString "") (accF O) (strF O) rfl htab rfl rfl hk hd' (fun _ => rfl) (fun _ => rfl) rfl rfl (by decide) (by decide) rfl rfl rfl (by decide) rfl hn hj ?_ ?_ ?_
  · k_call_by "vc" 0
    exact ⟨rfl, rfl⟩
  · intro X C' code q hq
    refine TQ_join2 (fun _ => rfl) (fun _ => rfl) rfl (fun _ => rfl) (fun _ => rfl) ?_ (TQ_globS rfl rfl rfl (by rw [hK]; rfl) (by decide)) (TQ_local (by rfl) rfl rfl (by decide)) (TQ_local (by rfl) rfl rfl (by decide))
    have h1 := (hsz q hq).1
    have h2 := (hsz q hq).2
    have : (Str.ofString "").length = 0 := rfl
    omega
  · repeat k_call_by "vc" 0
    exact h
end Mine2
open PySem PySem.W PyProof.Rows PySem.Builtin VC
namespace Mine2
/-- what a quoted text says -/
noncomputable def unq : List Nat → List Nat
  | [] => []
  | c :: r => if c = 34 then (match r with
      | d :: r' => if d = 34 then 34 :: unq r' else []
      | [] => []) else c :: unq r

theorem unq_cons {c : Nat} (r : List Nat) (h : ¬ c = 34) : unq (c :: r) = c :: unq r := by
  rw [unq.eq_def]
  exact if_neg h
theorem parse_tc {P : PE} (O : Ok P) {l : List Nat} {hp : List AO} {K : LV → List AO → Prop} (hl : l.length ≤ 90000) (h3 : l.take 3 = [50, 53, 55])
    (h0 : (l.take 5).drop 3 ≠ [32, 34] → K (.v (.str (S []))) hp) (h1 : (l.take 5).drop 3 = [32, 34] → K (.v (.str (S (unq (l.drop 5))))) hp) :
    TC P 1 (.ref 151) [.v (.str (S l))] hp K := by
  have hK := O.hK
  refine TC_enterS (f := 151) (cc := none) (as := [.v (.str (S l))]) (ds := []) (dvs := []) (oc := ?oc) (od := ?od) (osl := ?osl) (name := ?name) (qual := ?qual) (params := ?params) (body := ?body) (scope := ?scope) (dV := ?dV) (kV := ?kV) (doc := ?doc) (pm := ?pm) (cdv := ?cdv) (ct := ?ct) (an := ?an) (names := ?names) ?ho ?hcd ?hbind ?hds ?hnd ?hloc ?hcell ?hco ?hgen ?hk ?h
  case ho => rw [hK]; rfl
  case hcd => rw [hK]; rfl
  case names => exact ["resp"]
  case hbind => intro s vals _ hl; obtain ⟨v, rfl⟩ := len1 hl; exact PySem.BindsTo.of_eq rfl
  case hds => intro _ _; rfl
  case hnd => decide
  case hloc => decide
  case hcell => decide
  case hco => rfl
  case hgen => rfl
  case hk => rfl
  refine TXS.of ?_
  show TXs _ _ _ _ [(_, _)] _ _
  refine TXs_cons ?_
  repeat k_call_by "vc" 0
  rw [h3]
  refine ⟨fun h => by simp at h, fun _ => ?_⟩
  repeat k_call_by "vc" 0
  refine ⟨fun h => ?_, fun h => ?_⟩
  · repeat k_call_by "vc" 0
    exact h0 (by simpa using h)
  have h5 : 5 ≤ l.length := by
    have e : (l.take 5).drop 3 = [32, 34] := by simpa using h
    have := congrArg List.length e
    simp at this; omega
  repeat k_call_by "vc" 0
  refine TX_mid (fun loc1 hp1 => hp1 = hp ∧ loc1.lookup (Str.ofString "dirname") = some (.v (.str (S (unq (l.drop 5)))))) ?loop ?rest
  case rest =>
    rintro loc1 hp1 ⟨rfl, hl1⟩
    refine TXs_cons ?_
    refine TX_Return (TE_local (by rfl) hl1 ?_ (by decide +kernel))
    repeat k_call_by "vc" 0
    exact h1 (by simpa using h)
  refine TX_While (I := fun k loc1 hp1 => hp1 = hp ∧ ∃ (p : Nat) (acc : List Nat), p ≤ l.length ∧ k = l.length - p ∧ acc.length ≤ p ∧ acc ++ unq (l.drop p) = unq (l.drop 5) ∧ loc1 = [(Str.ofString "resp", .v (.str (S l))), (Str.ofString "dirname", .v (.str (S acc))), (Str.ofString "i", .v (.int (p : Int))), (Str.ofString "n", .v (.int (l.length : Int)))]) (l.length - 5) ⟨rfl, 5, [], h5, rfl, by decide, rfl, rfl⟩ ?_
  rintro k loc1 hp1 ⟨rfl, p, acc, hp1, rfl, hacc, hun, rfl⟩
  repeat k_call_by "vc" 0
  refine ⟨fun g1 => ?_, fun g1 => ?_⟩
  case refine_2 =>
    have e : p = l.length := by simp at g1; omega
    subst e
    rw [List.drop_length, unq, List.append_nil] at hun
    exact ⟨rfl, by rw [← hun]; rfl⟩
  have hp2 : p < l.length := by simp at g1; omega
  have hdr : l.drop p = l[p] :: l.drop (p + 1) := List.drop_eq_getElem_cons hp2
  have ei : (p : Int) + 1 = ((p + 1 : Nat) : Int) := rfl
  repeat k_call_by "vc" 0
  rw [ei]
  repeat k_call_by "vc" 0
  refine ⟨fun g2 => ?_, fun g2 => ?_⟩
  case refine_1 =>
    have e2 : l[p] = 34 := by simpa using g2
    repeat k_call_by "vc" 0
    refine ⟨fun g3 => ?_, fun g3 => ?_⟩
    case refine_1 =>
      repeat k_call_by "vc" 0
      have e3 : l.drop (p + 1) = [] := List.drop_eq_nil_of_le (by simp at g3; omega)
      rw [hdr, e3, e2] at hun
      have : unq [34] = [] := rfl
      rw [this, List.append_nil] at hun
      exact ⟨rfl, by rw [← hun]; rfl⟩
    have hp3 : p + 1 < l.length := by simp at g3; omega
    have hdr2 : l.drop (p + 1) = l[p + 1] :: l.drop (p + 2) := List.drop_eq_getElem_cons hp3
    have ei2 : ((p + 1 : Nat) : Int) + 1 = ((p + 2 : Nat) : Int) := rfl
    repeat k_call_by "vc" 0
    refine ⟨fun g4 => ?_, fun g4 => ?_⟩
    case refine_1 =>
      repeat k_call_by "vc" 0
      have e4 : ¬ l[p + 1] = 34 := by simpa using g4
      rw [hdr, hdr2, e2, unq, if_pos rfl] at hun
      simp only [if_neg e4, List.append_nil] at hun
      exact ⟨rfl, by rw [← hun]; rfl⟩
    have e4 : l[p + 1] = 34 := by simpa using g4
    repeat k_call_by "vc" 0
    refine Turn_next (Sub_all (Nat.le_refl _) (by k_call_by "vc sub" 0) nofun) ⟨_, ?_, rfl, p + 2, acc ++ [l[p]], hp3, rfl, ?_, ?_, rfl⟩
    · omega
    · simp; omega
    · rw [← hun, hdr, hdr2, e4, e2, List.append_assoc]
      rw [unq, if_pos rfl]
      simp
  have e2 : ¬ l[p] = 34 := by simpa using g2
  repeat k_call_by "vc" 0
  refine Turn_next (Sub_all (Nat.le_refl _) (by k_call_by "vc sub" 0) nofun) ⟨_, ?_, rfl, p + 1, acc ++ [l[p]], hp2, rfl, ?_, ?_, rfl⟩
  · omega
  · simp; omega
  · rw [← hun, hdr, List.append_assoc, unq_cons _ e2]
    rfl
end Mine2
open PySem PySem.W PyProof.Rows PySem.Builtin VC
namespace VC
/-! ### the distance under another spelling of the letters -/
section
variable {α β : Type} [DecidableEq α] [DecidableEq β]
structure Same (f : α → β) (cost : α → α → Int) (cost' : β → β → Int) (U : List α) : Prop where
  eq : ∀ x ∈ U, ∀ y ∈ U, f x = f y ↔ x = y
  co : ∀ x ∈ U, ∀ y ∈ U, cost' (f x) (f y) = cost x y
variable {f : α → β} {cost : α → α → Int} {cost' : β → β → Int} {U : List α}
theorem cpl_map (H : Same f cost cost' U) : ∀ (a b : List α), (∀ x ∈ a, x ∈ U) → (∀ x ∈ b, x ∈ U) → cpl (a.map f) (b.map f) = cpl a b
  | [], _, _, _ => by simp [cpl]
  | _ :: _, [], _, _ => by simp [cpl]
  | a :: as, b :: bs, ha, hb => by
    rw [List.map_cons, List.map_cons]
    unfold cpl
    have e := H.eq a (ha a List.mem_cons_self) b (hb b List.mem_cons_self)
    rw [cpl_map H as bs (fun x hx => ha x (List.mem_cons_of_mem _ hx)) (fun x hx => hb x (List.mem_cons_of_mem _ hx))]
    by_cases h : a = b
    · rw [if_pos h, if_pos (e.mpr h)]
    · rw [if_neg h, if_neg (fun q => h (e.mp q))]
theorem innerN_map (H : Same f cost cost' U) {c : α} (hc : c ∈ U) {x : List α} (hx : ∀ y ∈ x, y ∈ U) (row : List Int) (r0 : Int) : ∀ i, innerN cost' (f c) (x.map f) row r0 i = innerN cost c x row r0 i
  | 0 => rfl
  | i + 1 => by
    unfold innerN
    rw [innerN_map H hc hx row r0 i, List.getElem?_map]
    cases hi : x[i]? with
    | none => rfl
    | some ch =>
      have e := H.co c hc ch (hx ch (List.mem_of_getElem? hi))
      simp only [Option.map_some, e]
theorem outerN_map (H : Same f cost cost' U) {x y : List α} (hx : ∀ z ∈ x, z ∈ U) (hy : ∀ z ∈ y, z ∈ U) (mx : Int) : ∀ j, outerN cost' (x.map f) (y.map f) mx j = outerN cost x y mx j
  | 0 => by unfold outerN; rw [List.length_map]
  | j + 1 => by
    unfold outerN
    rw [outerN_map H hx hy mx j, List.getElem?_map]
    cases hj : y[j]? with
    | none => cases outerN cost x y mx j <;> rfl
    | some c =>
      have hc := hy c (List.mem_of_getElem? hj)
      cases outerN cost x y mx j with
      | inl v => rfl
      | inr r => simp only [Option.map_some, innerN_map H hc hx, List.length_map]
theorem map_eq_iff (H : Same f cost cost' U) : ∀ {a b : List α}, (∀ x ∈ a, x ∈ U) → (∀ x ∈ b, x ∈ U) → (a.map f = b.map f ↔ a = b)
  | [], [], _, _ => by simp
  | [], _ :: _, _, _ => by simp
  | _ :: _, [], _, _ => by simp
  | a :: as, b :: bs, ha, hb => by
    rw [List.map_cons, List.map_cons, List.cons.injEq, List.cons.injEq, H.eq a (ha a List.mem_cons_self) b (hb b List.mem_cons_self), map_eq_iff H (fun x hx => ha x (List.mem_cons_of_mem _ hx)) (fun x hx => hb x (List.mem_cons_of_mem _ hx))]
theorem lev_map (H : Same f cost cost' U) {a b : List α} (ha : ∀ x ∈ a, x ∈ U) (hb : ∀ x ∈ b, x ∈ U) (mx : Int) : lev cost' (a.map f) (b.map f) mx = lev cost a b mx := by
  unfold lev
  by_cases h : a = b
  · rw [if_pos h, if_pos ((map_eq_iff H ha hb).mpr h)]
  rw [if_neg h, if_neg (fun q => h ((map_eq_iff H ha hb).mp q))]
  dsimp only
  rw [cpl_map H a b ha hb, ← List.map_drop, ← List.map_drop]
  have ha1 : ∀ x ∈ a.drop (cpl a b), x ∈ U := fun x hx => ha x (List.mem_of_mem_drop hx)
  have hb1 : ∀ x ∈ b.drop (cpl a b), x ∈ U := fun x hx => hb x (List.mem_of_mem_drop hx)
  generalize a.drop (cpl a b) = a1 at ha1
  generalize b.drop (cpl a b) = b1 at hb1
  rw [← List.map_reverse, ← List.map_reverse, cpl_map H a1.reverse b1.reverse (fun x hx => ha1 x (List.mem_reverse.mp hx)) (fun x hx => hb1 x (List.mem_reverse.mp hx)), List.length_map, List.length_map, ← List.map_take, ← List.map_take]
  have ha2 : ∀ x ∈ a1.take (a1.length - cpl a1.reverse b1.reverse), x ∈ U := fun x hx => ha1 x (List.mem_of_mem_take hx)
  have hb2 : ∀ x ∈ b1.take (b1.length - cpl a1.reverse b1.reverse), x ∈ U := fun x hx => hb1 x (List.mem_of_mem_take hx)
  generalize a1.take (a1.length - cpl a1.reverse b1.reverse) = a2 at ha2
  generalize b1.take (b1.length - cpl a1.reverse b1.reverse) = b2 at hb2
  simp only [List.length_map]
  have hd : ∀ {x y : List α}, (∀ z ∈ x, z ∈ U) → (∀ z ∈ y, z ∈ U) → dp cost' (x.map f) (y.map f) mx = dp cost x y mx := fun hx hy => by
    unfold dp; rw [List.length_map, outerN_map H hx hy]
  by_cases hs : b2.length < a2.length
  · simp only [if_pos hs, List.length_map, hd hb2 ha2]
  · simp only [if_neg hs, List.length_map, hd ha2 hb2]
end
end VC
namespace Mine2
noncomputable def cA (x y : Nat) : Int := if x = y then 0 else if lowr x = lowr y then 1 else 2
theorem cst_cA {x y : Nat} (hx : x < 128) (hy : y < 128) : cst x y = cA x y := by
  unfold cst costS cA
  rw [lower_S [x] (by simpa using hx), lower_S [y] (by simpa using hy), S_beq, S_beq]
  by_cases h : x = y
  · rw [if_pos (by simpa using h), if_pos h]
  · rw [if_neg (by simpa using h), if_neg h]
    by_cases h2 : lowr x = lowr y
    · rw [if_pos (by simpa using h2), if_pos h2]
    · rw [if_neg (by simpa using h2), if_neg h2]
theorem unq_app : ∀ (l r : List Nat), (∀ x ∈ l, x ≠ 34) → unq (l ++ r) = l ++ unq r
  | [], _, _ => rfl
  | x :: l, r, h => by
    rw [List.cons_append, unq_cons _ (h x List.mem_cons_self), unq_app l r (fun y hy => h y (List.mem_cons_of_mem _ hy))]; rfl
theorem unq_qq (r : List Nat) : unq (34 :: 34 :: r) = 34 :: unq r := by rw [unq.eq_def]; rfl
theorem unq_pairs : ∀ (k : Nat) (r : List Nat), unq (List.replicate (2 * k) 34 ++ r) = List.replicate k 34 ++ unq r
  | 0, r => rfl
  | k + 1, r => by
    rw [show 2 * (k + 1) = 2 * k + 1 + 1 by omega, List.replicate_succ, List.replicate_succ, List.cons_append, List.cons_append, unq_qq, unq_pairs k r, List.replicate_succ]; rfl
abbrev Pc := List Nat × List Nat
noncomputable def pcPV (q : Pc) : PV := .tup [.str (S q.1), .str (S q.2)]
section
variable {P : PE} {fe : FE} {n : Nat} {loc : VC.Loc} {hp : List AO} {K : LV → List AO → Prop}
theorem len_pc (O : Ok P) {k d kt : Nat} {vs : List Pc} {i : Int} (htab : hp[kt]? = some (.tab 81)) (hk : hp[k]? = some (.acc d (vs.map pcPV))) (hd' : hp[d]? = some (.dct (some i))) (hn : vs.length ≤ 1000) (hsz : ∀ q ∈ vs, q.1.length + q.2.length ≤ 1000) (h0 : 0 ≤ i) (h1 : i ≤ 1000)
    (h : K (.v (.int (i + ((vs.map fun q => q.1.length + q.2.length).sum : Nat)))) hp) : TL P fe (n + 2) (callP (.builtin "len")) [.o k] loc hp K := by
  have hK := O.hK
  have e1 : vs.map pcPV = (vs.map fun q => (S q.1, S q.2)).map pairPV := by rw [List.map_map]; rfl
  have e2 : (((vs.map fun q => (S q.1, S q.2)).map wgt).sum) = ((vs.map fun q => q.1.length + q.2.length).sum : Nat) := by
    clear hsz hn hk e1 h
    induction vs with
    | nil => rfl
    | cons q r ih =>
      rw [List.map_cons, List.map_cons, List.map_cons, List.sum_cons, List.sum_cons, ih]
      unfold wgt
      dsimp only
      rw [S_len, S_len]; omega
  have e3 : (vs.map fun q => q.1.length + q.2.length).sum ≤ 1000 * vs.length := by
    clear hn hk e1 e2 h
    induction vs with
    | nil => simp
    | cons q r ih =>
      rw [List.map_cons, List.sum_cons, List.length_cons]
      have h1 := hsz q List.mem_cons_self
      have h2 := ih fun q hq => hsz q (List.mem_cons_of_mem _ hq)
      omega
  refine TL_len_acc (f := 82) 1 (by rw [hK, O.hC]; rfl) (by rw [hK]; rfl) (by omega) hk hd' ?_
  refine len_tc O htab (by rw [← e1]; exact hk) hd' ?_ ⟨_, rfl, ?_, by rw [e2]; exact h⟩
  · intro q hq
    obtain ⟨r, hr, rfl⟩ := List.mem_map.mp hq
    have := hsz r hr
    dsimp only
    rw [S_len, S_len]; omega
  · rw [e2]; omega
theorem joinOk_of {ys : List Str} (h : (ys.map (·.length)).sum ≤ 1000000) : JoinOk (Str.ofString "") ys = true := by
  unfold JoinOk
  rw [List.foldl_toArray]
  have e : ∀ (ys : List Str) (acc : Nat), ys.foldl (fun a x => a + x.length + (Str.ofString "").length) acc = acc + (ys.map (·.length)).sum := by
    intro ys
    induction ys with
    | nil => intro acc; rfl
    | cons y r ih => intro acc; rw [List.foldl_cons, ih, List.map_cons, List.sum_cons]; rw [show (Str.ofString "").length = 0 from rfl]; omega
  rw [e]
  have hs := sizeLine_eq
  unfold PySem.Builtin.Str.tooLong
  simp only [gt_iff_lt, Bool.not_eq_true', decide_eq_false_iff_not]
  omega
theorem cat_S (q : Pc) : cat (S q.1, S q.2) = S (q.1 ++ q.2) := by
  unfold cat
  have := join_S [q.1, q.2]
  rw [← lit_0] at this
  rw [show [(S q.1, S q.2).1, (S q.1, S q.2).2] = [q.1, q.2].map S from rfl, this]
  simp
theorem str_pc (O : Ok P) {k d kt : Nat} {vs : List Pc} {i : Option Int} (htab : hp[kt]? = some (.tab 88)) (hk : hp[k]? = some (.acc d (vs.map pcPV))) (hd' : hp[d]? = some (.dct i)) (hn : vs.length ≤ 1000) (hsz : ∀ q ∈ vs, q.1.length + q.2.length ≤ 1000)
    (h : K (.v (.str (S (vs.map fun q => q.1 ++ q.2).flatten))) hp) : TL P fe (n + 2) (callP (.type "str")) [.o k] loc hp K := by
  have hK := O.hK
  have e1 : vs.map pcPV = (vs.map fun q => (S q.1, S q.2)).map pairPV := by rw [List.map_map]; rfl
  have e4 : (vs.map fun q => (S q.1, S q.2)).map cat = (vs.map fun q => q.1 ++ q.2).map S := by
    rw [List.map_map, List.map_map]
    exact List.map_congr_left fun q _ => cat_S q
  have e2 : Txt.join (Str.ofString "") ((vs.map fun q => (S q.1, S q.2)).map cat) = S (vs.map fun q => q.1 ++ q.2).flatten := by
    rw [e4, lit_0, join_S]
  refine TL_str_acc (f := 89) 1 (by rw [hK, O.hC]; rfl) (by rw [hK]; rfl) (by omega) hk hd' ?_
  refine str_tc O htab (by rw [← e1]; exact hk) hd' (by rw [List.length_map]; omega) ?_ ?_ ⟨_, rfl, by rw [e2]; exact h⟩
  · intro q hq
    obtain ⟨r, hr, rfl⟩ := List.mem_map.mp hq
    have := hsz r hr
    dsimp only
    rw [S_len, S_len]; omega
  · refine joinOk_of ?_
    rw [e4]
    have e3 : ((vs.map fun q => q.1 ++ q.2).map S |>.map (·.length)).sum ≤ 1000 * vs.length := by
      clear hn hk e1 e2 e4 h
      induction vs with
      | nil => simp
      | cons q r ih =>
        rw [List.map_cons, List.map_cons, List.map_cons, List.sum_cons, List.length_cons, S_len, List.length_append]
        have h1 := hsz q List.mem_cons_self
        have h2 := ih fun q hq => hsz q (List.mem_cons_of_mem _ hq)
        omega
    omega
end
theorem fmodN (a b : Nat) : ((a : Int)).fmod (b : Int) = ((a % b : Nat) : Int) := by
  rw [Int.fmod_eq_emod_of_nonneg _ (by omega)]; omega
theorem fdivN (a b : Nat) : ((a : Int)).fdiv (b : Int) = ((a / b : Nat) : Int) := by
  rw [Int.fdiv_eq_ediv_of_nonneg _ (by omega)]; omega
theorem strOk_S (l : List Nat) (h : ∀ c ∈ l, c < 128) : PyData.strOk (S l) = true := by
  unfold PyData.strOk
  rw [Array.all_eq_true']
  intro c hc
  have : c ∈ l := by simpa [S] using hc
  have := h c this
  simp; omega
theorem shaped2 (a b : List Nat) (ha : ∀ c ∈ a, c < 128) (hb : ∀ c ∈ b, c < 128) : SeqAt.shaped (.tuple ([S a, S b].map .str)) = true := by
  simp [SeqAt.shaped, PyData.canLay0, PyData.depth, PyData.canLayAll0, PyData.depthAll, strOk_S a ha, strOk_S b hb]
end Mine2
open PySem PySem.W PyProof.Rows PySem.Builtin VC
namespace Mine2
/-- the letter at a place of the row -/
noncomputable def ch (r : Nat) (p : Int) : Nat := (97 - 32 * ((p.fdiv r).fmod 2) + p.fmod r).toNat
/-- the places from a to b -/
noncomputable def span (a b : Int) : List Int := (List.range (b - a).toNat).map fun i : Nat => a + (i : Int)
noncomputable def str (a b : Int) (r : Nat) : List Nat := (span a b).map (ch r)
theorem rangeVs_span {a b : Int} (h : a ≤ b) : rangeVs a b 1 = (span a b).map .int := by
  obtain ⟨m, rfl⟩ : ∃ m : Nat, b = a + m := ⟨(b - a).toNat, by omega⟩
  rw [rangeVs_one]
  unfold span
  rw [List.map_map, show (a + (m : Int) - a).toNat = m by omega]; rfl
theorem span_len (a b : Int) : (span a b).length = (b - a).toNat := by unfold span; simp
theorem str_len (a b : Int) (r : Nat) : (str a b r).length = (b - a).toNat := by unfold str; rw [List.length_map, span_len]
theorem fmod_pos (p : Int) {r : Nat} (h : 0 < r) : 0 ≤ p.fmod r ∧ p.fmod r < r := by
  exact ⟨Int.fmod_nonneg_of_pos _ (by omega), Int.fmod_lt_of_pos _ (by omega)⟩
theorem fmod2 (p : Int) : p.fmod 2 = 0 ∨ p.fmod 2 = 1 := by
  have h1 := Int.fmod_nonneg_of_pos (a := p) (b := 2) (by decide)
  have h2 := Int.fmod_lt_of_pos (a := p) (b := 2) (by decide)
  omega
theorem noPyN {x : Int} {r : Nat} (h : r ≤ 1000) : Builtin.divisionGoesByPylong x (r : Int) = false := by
  refine noPy ?_
  split
  · omega
  · rename_i hz
    have h2 : (r : Int).natAbs ≠ 0 := by
      intro q; apply hz; rw [beq_iff_eq]; omega
    have : (r : Int).natAbs.log2 < 63 := (Nat.log2_lt h2).mpr (by omega)
    omega
noncomputable def chP (r : Nat) (p : PV) : PV := match p with | .int i => .str (S [ch r i]) | _ => .none
theorem stretch_tc {P : PE} (O : Ok P) {a b : Int} {r : Nat} {hp : List AO} {K : LV → List AO → Prop} (hr : 0 < r) (hr2 : r ≤ 10) (hab : a ≤ b) (h1 : -100000 ≤ a) (h2 : b ≤ 100000) (h3 : b - a ≤ 1000)
    (h : ∀ ex, K (.v (.str (S (str a b r)))) (hp ++ ex)) :
    TC P 1 (.ref 156) [.v (.int a), .v (.int b), .v (.int (r : Int))] hp K := by
  have hK := O.hK
  refine TC_enterC (f := 156) (as := [.v (.int a), .v (.int b), .v (.int (r : Int))]) (loc0 := [(Str.ofString "low", .v (.int a)), (Str.ofString "high", .v (.int b))]) (oc := ?oc) (od := ?od) (osl := ?osl) (name := ?name) (qual := ?qual) (params := ?params) (body := ?body) (scope := ?scope) (dV := ?dV) (kV := ?kV) (doc := ?doc) (pm := ?pm) (cdv := ?cdv) (ct := ?ct) (an := ?an) (names := ?names) (Str.ofString "ring") (.int (r : Int)) ?ho ?hcd ?hbind ?hnl ?hnd ?hloc ?hcell ?hy ?hl0 ?hyp ?hco ?hgen ?hk ?h
  case ho => rw [hK]; rfl
  case hcd => rw [hK]; rfl
  case names => exact ["low", "high", "ring"]
  case hbind => intro s vals _ hl; obtain ⟨v, w, u, rfl⟩ := len3 hl; exact PySem.BindsTo.of_eq rfl
  case hnl => rfl
  case hnd => decide
  case hloc => decide
  case hcell => intro _; rfl
  case hy => rfl
  case hl0 =>
    intro q hq
    simp only [List.mem_cons, List.not_mem_nil, or_false] at hq
    rcases hq with rfl | rfl
    · exact ⟨.head _, (by decide : Str.ofString "low" ≠ Str.ofString "ring")⟩
    · exact ⟨.tail _ (.head _), (by decide : Str.ofString "high" ≠ Str.ofString "ring")⟩
  case hyp => exact .tail _ (.tail _ (.head _))
  case hco => rfl
  case hgen => rfl
  case hk => rfl
  refine TXs_cons ?_
  repeat k_call_by "vc" 0
  refine TE_ListComp (some (Str.ofString "ring", .int (r : Int))) (chP r) (fun y q e => by cases e; exact ⟨hp.length, rfl⟩) ?clos (by decide) rfl (by decide) rfl (fun _ _ => rfl) ?_
  case clos =>
    intro X hX
    obtain ⟨a, ha⟩ := hX _ _ rfl
    rw [clOf, ha]
    exact closureFor_one (by decide) ha
  refine TIt_range rfl (by k_call_by "vc none" 0) (fun _ => ⟨_, _, rfl, rfl, rfl⟩) ?_
  repeat k_call_by "vc" 0
  refine RArgs2 ⟨?sm, ?_⟩
  case sm => exact small_one (by omega) (by omega) (by omega) (by omega)
  rw [rangeVs_span hab]
  refine ⟨by rw [List.length_map, span_len]; exact szl (by omega), ?_, ?_, ?_, ?_⟩
  · intro p hp
    obtain ⟨i, _, rfl⟩ := List.mem_map.mp hp
    trivial
  · exact ⟨trivial, hp.length, rfl, List.getElem?_concat_length ..⟩
  · intro X C p hpm
    obtain ⟨i, hi, rfl⟩ := List.mem_map.mp hpm
    have g1 := fmod_pos i hr
    have g2 := fmod2 (i.fdiv r)
    show TQ _ _ _ _ _ _ (PV.str ⟨#[ch r i]⟩)
    unfold ch
    refine TQ_chr rfl rfl rfl rfl (by k_call_by "vc none" 0) (fun _ => rfl) (by omega) (by omega) ?_
    exact TQ_bin (TQ_bin TQ_int (TQ_bin TQ_int (TQ_bin (TQ_bin (TQ_local (by rfl) rfl rfl (by decide)) (TQ_cell rfl rfl (by decide)) (TQ2_fdiv (by omega) (noPyN (by omega)))) TQ_int (TQ2_mod (by decide))) (TQ2_mul (by decide))) TQ2_sub) (TQ_bin (TQ_local (by rfl) rfl rfl (by decide)) (TQ_cell rfl rfl (by decide)) (TQ2_mod (by omega))) TQ2_add
  have em : ((span a b).map PV.int).map (chP r) = (((span a b).map fun i => [ch r i]).map S).map PV.str := by
    rw [List.map_map, List.map_map, List.map_map]; rfl
  rw [em]
  repeat k_call_by "vc" 0
  refine TL_join_list (List.getElem?_concat_length ..) ?_ ?_
  · have e : ∀ qs : List Int, ((((qs.map fun i => [ch r i]).map S).map (·.length)).sum) = qs.length := by
      intro qs
      induction qs with
      | nil => rfl
      | cons q qs ih => rw [List.map_cons, List.map_cons, List.map_cons, List.sum_cons, ih, S_len, List.length_cons, List.length_cons, List.length_nil]; omega
    rw [e, S_len, List.length_map, List.length_map, span_len, List.length_nil]; omega
  rw [join_S]
  have ef : ∀ qs : List Int, (qs.map fun i => [ch r i]).flatten = qs.map (ch r) := by
    intro qs
    induction qs with
    | nil => rfl
    | cons q qs ih => rw [List.map_cons, List.flatten_cons, ih]; rfl
  rw [ef]
  repeat k_call_by "vc" 0
  rw [List.append_assoc]
  exact h _
end Mine2
open PySem PySem.W PyProof.Rows PySem.Builtin VC
namespace Mine2
/-- a blank ahead of each -/
noncomputable def spaced (l : List Nat) : List Nat := (l.map fun c => [32, c]).flatten
theorem spaced_len (l : List Nat) : (spaced l).length = 2 * l.length := by
  induction l with
  | nil => rfl
  | cons c r ih =>
    have e : spaced (c :: r) = 32 :: c :: spaced r := rfl
    rw [e, List.length_cons, List.length_cons, ih, List.length_cons]; omega
noncomputable def spP (p : PV) : PV := match p with | .str x => .str (S [32] ++ x) | _ => .none
noncomputable def pq (c : Nat) : Pc := ([32], [c])
theorem spaced_tc {P : PE} (O : Ok P) {l : List Nat} {hp : List AO} {K : LV → List AO → Prop} (hl : l.length ≤ 1000) (h : ∀ ex, K (.v (.str (S (spaced l)))) (hp ++ ex)) :
    TC P 1 (.ref 168) [.v (.str (S l))] hp K := by
  have hK := O.hK
  refine TC_enterS (f := 168) (cc := none) (as := [.v (.str (S l))]) (ds := []) (dvs := []) (oc := ?oc) (od := ?od) (osl := ?osl) (name := ?name) (qual := ?qual) (params := ?params) (body := ?body) (scope := ?scope) (dV := ?dV) (kV := ?kV) (doc := ?doc) (pm := ?pm) (cdv := ?cdv) (ct := ?ct) (an := ?an) (names := ?names) ?ho ?hcd ?hbind ?hds ?hnd ?hloc ?hcell ?hco ?hgen ?hk ?h
  case ho => rw [hK]; rfl
  case hcd => rw [hK]; rfl
  case names => exact ["letters"]
  case hbind => intro s vals _ hl; obtain ⟨v0, rfl⟩ := len1 hl; exact PySem.BindsTo.of_eq rfl
  case hds => intro _ _; rfl
  case hnd => decide
  case hloc => decide
  case hcell => decide
  case hco => rfl
  case hgen => rfl
  case hk => rfl
  refine TXS.of ?_
  show TXs _ _ _ _ [(_, _)] _ _
  refine TXs_cons ?_
  repeat k_call_by "vc" 0
  refine TE_ListComp none spP (fun y q e => by cases e) ?clos (by decide) rfl (by decide) rfl (fun _ _ => rfl) ?_
  case clos => intro X hX; rfl
  refine TIt_str ?_
  repeat k_call_by "vc" 0
  refine ⟨by rw [List.length_map]; exact szl (by omega), ?_, trivial, ?_, ?_⟩
  · intro p hp
    obtain ⟨i, _, rfl⟩ := List.mem_map.mp hp
    trivial
  · intro X C p hp
    obtain ⟨i, _, rfl⟩ := List.mem_map.mp hp
    rw [lit_s]
    exact TQ_bin TQ_str (TQ_local (by rfl) rfl rfl (by decide)) (TQ2_adds (by rw [S_len, S_len]; simp; have := sizeLine_eq; omega))
  have em : (l.map fun c => PV.str (S [c])).map spP = ((l.map fun c => [32, c]).map S).map PV.str := by
    rw [List.map_map, List.map_map, List.map_map]
    apply List.map_congr_left
    intro c _
    show PV.str (S [32] ++ S [c]) = PV.str (S [32, c])
    rw [S_app]; rfl
  rw [em]
  repeat k_call_by "vc" 0
  refine TL_join_list (List.getElem?_concat_length ..) ?_ ?_
  · have e : ∀ qs : List Nat, ((((qs.map fun i => [32, i]).map S).map (·.length)).sum) = 2 * qs.length := by
      intro qs
      induction qs with
      | nil => rfl
      | cons q qs ih => rw [List.map_cons, List.map_cons, List.map_cons, List.sum_cons, ih, S_len, List.length_cons, List.length_cons, List.length_cons, List.length_nil]; omega
    rw [e, S_len, List.length_map, List.length_map, List.length_nil]; omega
  rw [join_S]
  repeat k_call_by "vc" 0
  exact h _
end Mine2
open PySem PySem.W PyProof.Rows PySem.Builtin VC
namespace Mine2
theorem init0_tcc {P : PE} (O : Ok P) {k d : Nat} {i0 : Option Int} {hp : List AO} {K : LV → List AO → Prop} (hk : hp[k]? = some (.acc d [])) (hd' : hp[d]? = some (.dct i0)) (hkd : k ≠ d) (h : K (.v .none) (hp.set d (.dct (some 0)))) :
    TCC P 1 (.ref 52) [.o k] hp K := by
  have hK := O.hK
  refine TCC_enterS (f := 52) (cc := some 39) (as := [.o k]) (ds := [.v (.int 0)]) (dvs := [.int 0 246]) (oc := ?oc) (od := ?od) (osl := ?osl) (name := ?name) (qual := ?qual) (params := ?params) (body := ?body) (scope := ?scope) (dV := ?dV) (kV := ?kV) (doc := ?doc) (pm := ?pm) (cdv := ?cdv) (ct := ?ct) (an := ?an) (names := ?names) ?ho ?hcd ?hbind ?hds ?hnd ?hloc ?hcell ?hco ?hgen ?hk ?h
  case ho => rw [hK]; rfl
  case hcd => rw [hK]; rfl
  case names => exact ["self", "initial_size"]
  case hbind => intro s vals X hl; obtain ⟨v, rfl⟩ := len1 hl; exact binds_K X rfl (by rw [hK]; rfl) rfl rfl rfl
  case hds => intro _ _; exact ⟨_, _, rfl, ⟨_, rfl⟩, rfl⟩
  case hnd => decide
  case hloc => decide
  case hcell => decide
  case hco => rfl
  case hgen => rfl
  case hk => rfl
  refine TXS.ofW (TXW_cons ?_)
  refine TX_SetSize (setF O) (fun _ => rfl) ?_
  repeat k_call_by "vc" 0
  refine ⟨0, k, d, _, i0, rfl, rfl, hk, hd', ?_⟩
  have hdl : d < hp.length := (List.getElem?_eq_some_iff.mp hd').1
  refine TXW_Init (k := k) (d := d) (i := some 0) (vs := []) (accF O) (supF O ?_ ?_ rfl rfl rfl rfl) (biInit ?_) (by rfl) ?_ ?_ (by rfl) (by decide) (fun _ => rfl) (fun _ => rfl) ?_
  · rw [hK]; exact ⟨_, _, _, _, _, rfl, rfl, rfl⟩
  · rw [hK, O.hp]; exact ⟨_, _, _, _, _, _, _, rfl, rfl, rfl, rfl⟩
  · rw [hK, O.hC]; rfl
  · rw [List.getElem?_set_ne (Ne.symm hkd)]; exact hk
  · rw [List.getElem?_set_self hdl]
  · have e : (hp.set d (AO.dct (some 0))).set k (.acc d []) = hp.set d (.dct (some 0)) := by
      apply List.ext_getElem?
      intro j
      by_cases hj : k = j
      · subst hj
        rw [List.getElem?_set_self (by rw [List.length_set]; exact (List.getElem?_eq_some_iff.mp hk).1), List.getElem?_set_ne (Ne.symm hkd), hk]
      · rw [List.getElem?_set_ne hj]
    rw [e]; exact h

theorem new0_tc {P : PE} (O : Ok P) {hp : List AO} {K : LV → List AO → Prop} (h : K (.o (hp.length + 1)) (hp ++ [.dct (some 0), .acc hp.length []])) :
    TC P 2 (.ref 115) [] hp K := by
  have hK := O.hK
  have hC := O.hC
  have e1 : (hp ++ [AO.dct none, .acc hp.length []])[hp.length + 1]? = some (.acc hp.length []) := by rw [List.getElem?_append_right (by omega)]; simp
  have e2 : (hp ++ [AO.dct none, .acc hp.length []])[hp.length]? = some (.dct none) := by rw [List.getElem?_append_right (by omega)]; simp
  have e3 : (hp ++ [AO.dct none, .acc hp.length []]).set hp.length (.dct (some 0)) = hp ++ [.dct (some 0), .acc hp.length []] := by rw [List.set_append_right _ _ (Nat.le_refl _)]; simp
  have := TC_new (P := P) (n := 1) (fI := 52) (as := []) (hp := hp) (K := K) (by rw [hK, hC]; rfl) (by rw [hK, hC]; rfl) (by rw [hK]; rfl) (init0_tcc O e1 e2 (by omega) ⟨rfl, by rw [e3]; exact h⟩)
  rw [hC] at this
  exact this

theorem pq_sum (l : List Nat) : ((l.map pq).map fun q => q.1.length + q.2.length).sum = 2 * l.length := by
  induction l with
  | nil => rfl
  | cons c r ih => rw [List.map_cons, List.map_cons, List.sum_cons, ih, List.length_cons]; show (1 + 1) + _ = _; omega
theorem pq_flat (l : List Nat) : ((l.map pq).map fun q => q.1 ++ q.2).flatten = spaced l := by
  induction l with
  | nil => rfl
  | cons c r ih => rw [List.map_cons, List.map_cons, List.flatten_cons, ih]; rfl
theorem pq_small (l : List Nat) : ∀ q ∈ l.map pq, q.1.length + q.2.length ≤ 1000 := by
  intro q hq
  obtain ⟨c, _, rfl⟩ := List.mem_map.mp hq
  show 1 + 1 ≤ 1000
  omega
theorem lies_tc {P : PE} (O : Ok P) {k d kt ks : Nat} {l : List Nat} {hp : List AO} {K : LV → List AO → Prop} (htab : hp[kt]? = some (.tab 81)) (htab2 : hp[ks]? = some (.tab 88)) (hk : hp[k]? = some (.acc d ((l.map pq).map pcPV))) (hd' : hp[d]? = some (.dct (some 0))) (hl : l.length ≤ 100)
    (h : ∀ ex, K (.v (.bool true)) (hp ++ ex)) : TC P 3 (.ref 175) [.o k, .v (.str (S l))] hp K := by
  have hK := O.hK
  refine TC_enterS (f := 175) (cc := none) (as := [.o k, .v (.str (S l))]) (ds := []) (dvs := []) (oc := ?oc) (od := ?od) (osl := ?osl) (name := ?name) (qual := ?qual) (params := ?params) (body := ?body) (scope := ?scope) (dV := ?dV) (kV := ?kV) (doc := ?doc) (pm := ?pm) (cdv := ?cdv) (ct := ?ct) (an := ?an) (names := ?names) ?ho ?hcd ?hbind ?hds ?hnd ?hloc ?hcell ?hco ?hgen ?hk ?h
  case ho => rw [hK]; rfl
  case hcd => rw [hK]; rfl
  case names => exact ["pile", "letters"]
  case hbind => intro s vals _ hl; obtain ⟨v0, v1, rfl⟩ := len2 hl; exact PySem.BindsTo.of_eq rfl
  case hds => intro _ _; rfl
  case hnd => decide
  case hloc => decide
  case hcell => decide
  case hco => rfl
  case hgen => rfl
  case hk => rfl
  refine TXS.of ?_
  show TXs _ _ _ _ [(_, _), (_, _)] _ _
  refine TXs_cons ?_
  repeat k_call_by "vc" 0
  refine len_pc O htab hk hd' (by rw [List.length_map]; omega) (pq_small l) (by decide) (by decide) ?_
  rw [pq_sum]
  repeat k_call_by "vc" 0
  have e1 : (0 : Int) + ((2 * l.length : Nat) : Int) = 2 * (l.length : Int) := by omega
  refine ⟨fun q => absurd q (by rw [e1]; simp), fun _ => ?_⟩
  repeat k_call_by "vc" 0
  refine TE_MethF0 (f := 112) 1 (accF O) (by rw [hK, O.hC]; rfl) (by rw [hK]; rfl) (by rw [hK]; rfl) (by decide +kernel) (by omega) (by k_call_by "vc base" 0) (by rfl) ?_
  k_call_by "vc" 0
  refine ⟨k, d, _, _, rfl, hk, hd', ?_⟩
  refine part_count_tc O hk hd' ?_
  rw [List.length_map, List.length_map]
  repeat k_call_by "vc" 0
  refine ⟨fun q => absurd q (by simp), fun _ => ?_⟩
  repeat k_call_by "vc" 0
  refine str_pc O htab2 hk hd' (by rw [List.length_map]; omega) (pq_small l) ?_
  rw [pq_flat]
  repeat k_call_by "vc" 0
  refine TE_CallFn (n' := 1) (f := 168) rfl (by k_call_by "vc some" 0) (by k_call_by "vc keep" 0) (by omega) (by decide) (fun _ => rfl) (fun _ => rfl) ?_
  repeat k_call_by "vc" 0
  refine spaced_tc O (by omega) fun ex => ?_
  repeat k_call_by "vc" 0
  rw [show (spaced l == spaced l) = true by simp]
  exact h ex
end Mine2
open PySem PySem.W PyProof.Rows PySem.Builtin VC
namespace Mine2
theorem set_same {l : List AO} {k : Nat} {a : AO} (h : l[k]? = some a) : l.set k a = l := by
  apply List.ext_getElem?
  intro j
  by_cases hj : k = j
  · subst hj; rw [List.getElem?_set_self (List.getElem?_eq_some_iff.mp h).1, h]
  · rw [List.getElem?_set_ne hj]
/-- two piles, each with its dict -/
structure Two (hp : List AO) (kn dn kf df : Nat) : Prop where
  n : kn < hp.length
  f : kf < hp.length
  nf : kn ≠ kf
  a1 : dn ≠ kn
  a2 : dn ≠ kf
  a3 : df ≠ kn
  a4 : df ≠ kf
  d1 : hp[dn]? = some (.dct (some 0))
  d2 : hp[df]? = some (.dct (some 0))
noncomputable def two (hp : List AO) (kn dn kf df : Nat) (N F : List Nat) : List AO := (hp.set kn (.acc dn ((N.map pq).map pcPV))).set kf (.acc df ((F.map pq).map pcPV))
section
variable {hp : List AO} {kn dn kf df : Nat} {N F N' F' : List Nat}
theorem two_len : (two hp kn dn kf df N F).length = hp.length := by unfold two; simp
theorem two_n (T : Two hp kn dn kf df) : (two hp kn dn kf df N F)[kn]? = some (.acc dn ((N.map pq).map pcPV)) := by
  unfold two
  rw [List.getElem?_set_ne (Ne.symm T.nf), List.getElem?_set_self T.n]
theorem two_f (T : Two hp kn dn kf df) : (two hp kn dn kf df N F)[kf]? = some (.acc df ((F.map pq).map pcPV)) := by
  unfold two
  rw [List.getElem?_set_self (by rw [List.length_set]; exact T.f)]
theorem two_dn (T : Two hp kn dn kf df) : (two hp kn dn kf df N F)[dn]? = some (.dct (some 0)) := by
  unfold two
  rw [List.getElem?_set_ne (Ne.symm T.a2), List.getElem?_set_ne (Ne.symm T.a1), T.d1]
theorem two_df (T : Two hp kn dn kf df) : (two hp kn dn kf df N F)[df]? = some (.dct (some 0)) := by
  unfold two
  rw [List.getElem?_set_ne (Ne.symm T.a4), List.getElem?_set_ne (Ne.symm T.a3), T.d2]
theorem two_setN (T : Two hp kn dn kf df) : (two hp kn dn kf df N F).set kn (.acc dn ((N'.map pq).map pcPV)) = two hp kn dn kf df N' F := by
  unfold two
  rw [List.set_comm _ _ (Ne.symm T.nf), List.set_set]
theorem two_setF : (two hp kn dn kf df N F).set kf (.acc df ((F'.map pq).map pcPV)) = two hp kn dn kf df N F' := by
  unfold two
  rw [List.set_set]
theorem two_setD (T : Two hp kn dn kf df) : (two hp kn dn kf df N F).set df (.dct (some 0)) = two hp kn dn kf df N F := set_same (two_df T)
end
theorem two_o {hp : List AO} {kn dn kf df : Nat} {N F : List Nat} {k : Nat} {a : AO} (h : hp[k]? = some a) (h1 : k ≠ kn) (h2 : k ≠ kf) : (two hp kn dn kf df N F)[k]? = some a := by
  unfold two
  rw [List.getElem?_set_ne (Ne.symm h2), List.getElem?_set_ne (Ne.symm h1), h]
theorem spaced_no (l : List Nat) (h : ∀ c ∈ l, c ≠ 34) : ∀ x ∈ spaced l, x ≠ 34 := by
  intro x hx
  unfold spaced at hx
  rw [List.mem_flatten] at hx
  obtain ⟨y, hy, hxy⟩ := hx
  obtain ⟨c, hc, rfl⟩ := List.mem_map.mp hy
  simp only [List.mem_cons, List.not_mem_nil, or_false] at hxy
  rcases hxy with rfl | rfl
  · decide
  · exact h _ hc
theorem unq_reps (n : Nat) : unq (List.replicate n 34) = List.replicate (n / 2) 34 := by
  rcases (show n % 2 = 0 ∨ n % 2 = 1 by omega) with h | h
  · obtain ⟨k, rfl⟩ : ∃ k, n = 2 * k := ⟨n / 2, by omega⟩
    have := unq_pairs k []
    rw [List.append_nil] at this
    rw [this, show 2 * k / 2 = k by omega]
    show _ ++ [] = _
    rw [List.append_nil]
  · obtain ⟨k, rfl⟩ : ∃ k, n = 2 * k + 1 := ⟨n / 2, by omega⟩
    rw [← List.replicate_append_replicate, unq_pairs, show (2 * k + 1) / 2 = k by omega]
    show _ ++ [] = _
    rw [List.append_nil]
theorem taken_near_tc {P : PE} (O : Ok P) {kn dn kf : Nat} {hr : Int} {c : Nat} {ln l : List Nat} {hp : List AO} {K : LV → List AO → Prop} (hk : hp[kn]? = some (.acc dn (((ln ++ [c]).map pq).map pcPV))) (hd' : hp[dn]? = some (.dct (some 0))) (hl : l.length ≤ 100) (hln : ln.length ≤ 100) (h0 : hr ≠ 0)
    (h : K (.v (pcPV (pq c))) (hp.set kn (.acc dn ((ln.map pq).map pcPV)))) : TC P 3 (.ref 182) [.o kn, .o kf, .v (.int hr), .v (.str (S l))] hp K := by
  have hK := O.hK
  refine TC_enterS (f := 182) (cc := none) (as := [.o kn, .o kf, .v (.int hr), .v (.str (S l))]) (ds := []) (dvs := []) (oc := ?oc) (od := ?od) (osl := ?osl) (name := ?name) (qual := ?qual) (params := ?params) (body := ?body) (scope := ?scope) (dV := ?dV) (kV := ?kV) (doc := ?doc) (pm := ?pm) (cdv := ?cdv) (ct := ?ct) (an := ?an) (names := ?names) ?ho ?hcd ?hbind ?hds ?hnd ?hloc ?hcell ?hco ?hgen ?hk ?h
  case ho => rw [hK]; rfl
  case hcd => rw [hK]; rfl
  case names => exact ["near", "far", "here", "letters"]
  case hbind => intro s vals _ hl; obtain ⟨v0, v1, v2, v3, rfl⟩ := len4 hl; exact PySem.BindsTo.of_eq rfl
  case hds => intro _ _; rfl
  case hnd => decide
  case hloc => decide
  case hcell => decide
  case hco => rfl
  case hgen => rfl
  case hk => rfl
  refine TXS.of ?_
  show TXs _ _ _ _ [(_, _), (_, _), (_, _), (_, _)] _ _
  refine TXs_cons ?_
  repeat k_call_by "vc" 0
  refine ⟨fun q => absurd (by simpa using q) h0, fun _ => ?_⟩
  repeat k_call_by "vc" 0
  refine ⟨fun q => absurd (by simpa using q) h0, fun _ => ?_⟩
  repeat k_call_by "vc" 0
  rw [List.map_append, List.map_append] at hk
  refine TE_MethF0 (f := 75) 2 (accF O) (by rw [hK, O.hC]; rfl) (by rw [hK]; rfl) (by rw [hK]; rfl) (by decide +kernel) (by omega) (by k_call_by "vc base" 0) (by rfl) ?_
  k_call_by "vc" 0
  refine ⟨kn, dn, _, _, rfl, hk, hd', ?_⟩
  refine pop_tc O (p := pcPV (pq c)) hk hd' (by rw [List.length_map, List.length_map]; omega) ?_
  repeat k_call_by "vc" 0
  exact h
theorem taken_far_tc {P : PE} (O : Ok P) {kn dn kf df ks : Nat} {l : List Nat} {hp : List AO} {K : LV → List AO → Prop} (T : Two hp kn dn kf df) (hks : hp[ks]? = some (.tab 88)) (hk1 : ks ≠ kn) (hk2 : ks ≠ kf) (hl : l.length ≤ 100) (h34 : ∀ c ∈ l, c ≠ 34)
    (h0 : l = [] → ∀ E, K (.v (.tup [.str (S []), .str (S [])])) (two hp kn dn kf df [] [] ++ E))
    (h1 : ∀ c, l = [c] → ∀ E, K (.v (pcPV (pq c))) (two hp kn dn kf df [] [] ++ E))
    (h2 : ∀ c r, l = c :: r → 0 < r.length → ∀ E, K (.v (pcPV (pq c))) (two hp kn dn kf df (r.take (l.length / 2 - 1)).reverse (l.drop (l.length / 2)) ++ E)) :
    TC P 3 (.ref 182) [.o kn, .o kf, .v (.int 0), .v (.str (S l))] (two hp kn dn kf df [] l) K := by
  have hK := O.hK
  refine TC_enterS (f := 182) (cc := none) (as := [.o kn, .o kf, .v (.int 0), .v (.str (S l))]) (ds := []) (dvs := []) (oc := ?oc) (od := ?od) (osl := ?osl) (name := ?name) (qual := ?qual) (params := ?params) (body := ?body) (scope := ?scope) (dV := ?dV) (kV := ?kV) (doc := ?doc) (pm := ?pm) (cdv := ?cdv) (ct := ?ct) (an := ?an) (names := ?names) ?ho ?hcd ?hbind ?hds ?hnd ?hloc ?hcell ?hco ?hgen ?hk ?h
  case ho => rw [hK]; rfl
  case hcd => rw [hK]; rfl
  case names => exact ["near", "far", "here", "letters"]
  case hbind => intro s vals _ hl; obtain ⟨v0, v1, v2, v3, rfl⟩ := len4 hl; exact PySem.BindsTo.of_eq rfl
  case hds => intro _ _; rfl
  case hnd => decide
  case hloc => decide
  case hcell => decide
  case hco => rfl
  case hgen => rfl
  case hk => rfl
  refine TXS.of ?_
  show TXs _ _ _ _ [(_, _), (_, _), (_, _), (_, _)] _ _
  refine TXs_cons ?_
  have ehf : ((l.length : Nat) : Int).fdiv 2 = ((l.length / 2 : Nat) : Int) := fdivN _ 2
  repeat ((fail_if_success with_reducible refine Then_next ?_); k_call_by "vc" 0)
  rw [ehf]
  have hlf : l.length / 2 ≤ 100 := by omega
  generalize hhf : l.length / 2 = hf at hlf h2
  refine Then_next ?_
  refine TXs_cons ?_
  refine TX_mid (fun loc1 hp1 => ∃ tv rv E, loc1 = [(Str.ofString "near", .o kn), (Str.ofString "far", .o kf), (Str.ofString "here", .v (.int 0)), (Str.ofString "letters", .v (.str (S l))), (Str.ofString "half", .v (.int (hf : Int))), (Str.ofString "told", .v tv), (Str.ofString "rest", .o rv)] ∧ hp1 = two hp kn dn kf df (l.take hf).reverse (l.drop hf) ++ E) ?_ ?rest
  case rest =>
    rintro loc1 hp1 ⟨tv, rv, E, rfl, rfl⟩
    refine Then_next ?_
    refine TXs_cons ?_
    repeat k_call_by "vc" 0
    refine ⟨fun _ => ?_, fun q => absurd q (by decide)⟩
    repeat k_call_by "vc" 0
    refine ⟨fun q => ?_, fun q => ?_⟩
    · have hz : hf = 0 := by simpa using q
      subst hz
      repeat k_call_by "vc" 0
      refine TE_MethF0 (f := 75) 2 (accF O) (by rw [hK, O.hC]; rfl) (by rw [hK]; rfl) (by rw [hK]; rfl) (by decide +kernel) (by omega) (by k_call_by "vc base" 0) (by rfl) ?_
      k_call_by "vc" 0
      refine ⟨kf, df, _, _, rfl, get_old (two_f T), get_old (two_df T), ?_⟩
      match l, hhf with
      | [], _ =>
        refine pop0_tc O (get_old (two_f T)) (get_old (two_df T)) ?_
        repeat k_call_by "vc" 0
        exact h0 rfl E
      | [c], _ =>
        refine pop_tc O (vs := []) (p := pcPV (pq c)) (get_old (two_f T)) (get_old (two_df T)) (by simp) ?_
        rw [set_old (two_f T), show ([] : List PV) = (([] : List Nat).map pq).map pcPV from rfl, two_setF]
        repeat k_call_by "vc" 0
        exact h1 c rfl E
      | _ :: _ :: r, hhf => simp at hhf; omega
    · have hz : hf ≠ 0 := by simpa using q
      match l, hhf with
      | [], hhf => exact absurd hhf.symm hz
      | c :: r, hhf =>
        have er : 0 < r.length := by rw [List.length_cons] at hhf; omega
        have e4 : ((c :: r).take hf).reverse = (r.take (hf - 1)).reverse ++ [c] := by
          obtain ⟨k, rfl⟩ : ∃ k, hf = k + 1 := ⟨hf - 1, by omega⟩
          rw [List.take_succ_cons, List.reverse_cons]; rfl
        rw [e4]
        have q0 : (two hp kn dn kf df ((r.take (hf - 1)).reverse ++ [c]) ((c :: r).drop hf) ++ E)[kn]? = some (.acc dn ((((r.take (hf - 1)).reverse).map pq).map pcPV ++ [pcPV (pq c)])) := by
          have := get_old (ex := E) (two_n T (N := (r.take (hf - 1)).reverse ++ [c]) (F := (c :: r).drop hf))
          rw [List.map_append, List.map_append] at this; exact this
        repeat k_call_by "vc" 0
        refine TE_MethF0 (f := 75) 2 (accF O) (by rw [hK, O.hC]; rfl) (by rw [hK]; rfl) (by rw [hK]; rfl) (by decide +kernel) (by omega) (by k_call_by "vc base" 0) (by rfl) ?_
        k_call_by "vc" 0
        refine ⟨kn, dn, _, _, rfl, q0, get_old (two_dn T), ?_⟩
        refine pop_tc O (p := pcPV (pq c)) q0 (get_old (two_dn T)) (by rw [List.length_map, List.length_map, List.length_reverse, List.length_take]; omega) ?_
        rw [set_old (two_n T), two_setN T]
        repeat k_call_by "vc" 0
        exact h2 c r rfl er E
  repeat k_call_by "vc" 0
  refine ⟨fun _ => ?_, fun q => absurd q (by decide)⟩
  repeat k_call_by "vc" 0
  refine TE_CallFn (n' := 1) (f := 151) rfl (by k_call_by "vc some" 0) (by k_call_by "vc keep" 0) (by omega) (by decide) (fun _ => rfl) (fun _ => rfl) ?_
  repeat k_call_by "vc" 0
  refine str_pc O (two_o hks hk1 hk2) (two_f T) (two_df T) (by rw [List.length_map]; omega) (pq_small l) ?_
  rw [pq_flat]
  have hsl := spaced_len l
  repeat k_call_by "vc" 0
  refine TE_MethF0 (f := 112) 1 (accF O) (by rw [hK, O.hC]; rfl) (by rw [hK]; rfl) (by rw [hK]; rfl) (by decide +kernel) (by omega) (by k_call_by "vc base" 0) (by rfl) ?_
  k_call_by "vc" 0
  refine ⟨kf, df, _, _, rfl, two_f T, two_df T, ?_⟩
  refine part_count_tc O (two_f T) (two_df T) ?_
  rw [List.length_map, List.length_map]
  have hrl : (rep ((l.length : Nat) : Int).toNat [34]).length ≤ 100 := by rw [rep_len]; simp; omega
  repeat k_call_by "vc" 0
  refine parse_tc O (by simp only [List.length_append, List.length_cons, List.length_nil]; omega) rfl (fun q => absurd rfl q) fun _ => ?_
  have et : unq (List.drop 5 ([50, 53, 55, 32, 34] ++ spaced l ++ rep ((l.length : Nat) : Int).toNat [34])) = spaced l ++ rep ((hf : Nat) : Int).toNat [34] := by
    have : List.drop 5 ([50, 53, 55, 32, 34] ++ spaced l ++ rep ((l.length : Nat) : Int).toNat [34]) = spaced l ++ rep ((l.length : Nat) : Int).toNat [34] := rfl
    rw [this, unq_app _ _ (spaced_no l h34), Int.toNat_natCast, rep_one, unq_reps, hhf, Int.toNat_natCast, rep_one]
  rw [et]
  have hrl2 : (rep ((hf : Nat) : Int).toNat [34]).length ≤ 100 := by rw [rep_len]; simp; omega
  repeat k_call_by "vc" 0
  refine TE_CallFn (n' := 1) (f := 168) rfl (by k_call_by "vc some" 0) (by k_call_by "vc keep" 0) (by omega) (by decide) (fun _ => rfl) (fun _ => rfl) ?_
  repeat k_call_by "vc" 0
  refine spaced_tc O (by omega) fun E1 => ?_
  repeat k_call_by "vc" 0
  refine ⟨fun q => absurd q (by simp), fun _ => ?_⟩
  repeat k_call_by "vc" 0
  refine TE_MethF1 (f := 67) 1 (accF O) (by rw [hK, O.hC]; rfl) (by rw [hK]; rfl) (by rw [hK]; rfl) (by decide +kernel) (by omega) (by k_call_by "vc base" 0) (fun _ => rfl) (by rfl) (fun _ => rfl) (fun _ => rfl) ?_
  k_call_by "vc" 0
  refine ⟨kf, df, _, _, rfl, get_old (two_f T), get_old (two_df T), ?_⟩
  have ec : (spaced l ++ rep ((hf : Nat) : Int).toNat [34]).count 34 = hf := by
    rw [List.count_append, rep_one, List.count_replicate, List.count_eq_zero.mpr (fun q => spaced_no l h34 34 q rfl)]
    simp
  repeat k_call_by "vc" 0
  rw [ec]
  refine pop_from_tc O (j := hf) (get_old (two_f T)) (get_old (two_df T)) (by rw [List.length_map, List.length_map]; omega) ?_
  rw [set_old (two_f T), ← List.map_take, ← List.map_take, ← List.map_drop, ← List.map_drop, two_setF, List.length_append, two_len, List.append_assoc]
  have hb : (two hp kn dn kf df [] (l.take hf) ++ (E1 ++ [AO.lst (((l.drop hf).map pq).map pcPV), AO.lst []]))[hp.length + E1.length]? = some (.lst (((l.drop hf).map pq).map pcPV)) := by
    rw [← List.append_assoc]
    have := get_new0 (two hp kn dn kf df [] (l.take hf) ++ E1) (AO.lst (((l.drop hf).map pq).map pcPV)) [AO.lst []]
    rwa [List.length_append, two_len] at this
  generalize E1 ++ [AO.lst (((l.drop hf).map pq).map pcPV), AO.lst []] = E2 at hb
  have hrv0 : hp.length ≤ hp.length + E1.length := by omega
  generalize hp.length + E1.length = rv at hb hrv0
  repeat ((fail_if_success with_reducible refine Then_next ?_); k_call_by "vc" 0)
  refine Then_next ?_
  generalize spaced l ++ rep ((hf : Nat) : Int).toNat [34] = tv
  refine TXs_cons ?_
  k_call_by "vc range" 0
  repeat k_call_by "vc" 0
  refine RArgs1 ⟨small_one (by omega) (by omega) (by omega) (by omega), ?_⟩
  rw [rangeVs_nat]
  have hfl : hf ≤ l.length := by omega
  have hrv := (List.getElem?_eq_some_iff.mp hb).1
  rw [List.length_append, two_len] at hrv
  have hkn := T.n
  have hkf := T.f
  refine ⟨fun j loc1 hp1 => j ≤ hf ∧ hp1 = two hp kn dn kf df ((l.take hf).drop (hf - j)).reverse (l.take (hf - j)) ++ E2 ∧ loc1 = [(Str.ofString "near", .o kn), (Str.ofString "far", .o kf), (Str.ofString "here", .v (.int 0)), (Str.ofString "letters", .v (.str (S l))), (Str.ofString "half", .v (.int (hf : Int))), (Str.ofString "told", .v (.str (S tv))), (Str.ofString "rest", .o rv)], ⟨Nat.zero_le _, ?init, rfl⟩, ?step, ?done⟩
  case init => rw [Nat.sub_zero, List.drop_eq_nil_of_le (by rw [List.length_take]; omega)]; rfl
  case done =>
    rintro loc1 hp1 ⟨_, rfl, rfl⟩
    rw [List.length_map, List.length_range, Nat.sub_self, List.drop_zero, List.take_zero]
    have hb' : (two hp kn dn kf df (l.take hf).reverse [] ++ E2)[rv]? = some (.lst (((l.drop hf).map pq).map pcPV)) := by
      rw [List.getElem?_append_right (by rw [two_len]; exact hrv0), two_len] at hb ⊢
      exact hb
    refine Then_next ?_
    refine TXs_cons ?_
    refine TX_Expr (fun _ => rfl) (fun _ => rfl) ?_
    refine TE_MethF1 (f := 97) 1 (accF O) (by rw [hK, O.hC]; rfl) (by rw [hK]; rfl) (by rw [hK]; rfl) (by decide +kernel) (by omega) (by k_call_by "vc base" 0) (fun _ => rfl) (by rfl) (fun _ => rfl) (fun _ => rfl) ?_
    k_call_by "vc" 0
    refine ⟨kf, df, _, _, rfl, get_old (two_f T), get_old (two_df T), ?_⟩
    repeat k_call_by "vc" 0
    refine reset_tc O (get_old (two_f T)) (get_old (two_df T)) hb' (by rw [List.length_map, List.length_map, List.length_map, List.length_map, List.length_drop]; simp; omega) ?_
    rw [set_old (two_f T), two_setF, set_old (two_df T), two_setD T]
    repeat k_call_by "vc" 0
    exact ⟨_, _, _, rfl, rfl⟩
  rintro j v loc1 hp1 hv ⟨_, rfl, rfl⟩
  obtain ⟨hj, rfl⟩ := rangeVs_get hv
  have hx : hf - (j + 1) < l.length := by omega
  have e1 : l.take (hf - j) = l.take (hf - (j + 1)) ++ [l[hf - (j + 1)]] := by
    rw [show hf - j = hf - (j + 1) + 1 by omega, List.take_add_one, List.getElem?_eq_getElem hx]; rfl
  have e2 : ((l.take hf).drop (hf - (j + 1))).reverse = ((l.take hf).drop (hf - j)).reverse ++ [l[hf - (j + 1)]] := by
    have hx2 : hf - (j + 1) < (l.take hf).length := by rw [List.length_take]; omega
    rw [List.drop_eq_getElem_cons hx2, List.reverse_cons, List.getElem_take, show hf - (j + 1) + 1 = hf - j by omega]
  generalize hxe : l[hf - (j + 1)] = x at e1 e2
  rw [e1]
  repeat k_call_by "vc" 0
  refine TE_MethF0 (f := 75) 2 (accF O) (by rw [hK, O.hC]; rfl) (by rw [hK]; rfl) (by rw [hK]; rfl) (by decide +kernel) (by omega) (by k_call_by "vc base" 0) (by rfl) ?_
  k_call_by "vc" 0
  have q0 : (two hp kn dn kf df ((l.take hf).drop (hf - j)).reverse (l.take (hf - (j + 1)) ++ [x]) ++ E2)[kf]? = some (.acc df (((l.take (hf - (j + 1))).map pq).map pcPV ++ [pcPV (pq x)])) := by
    have := get_old (ex := E2) (two_f T (N := ((l.take hf).drop (hf - j)).reverse) (F := l.take (hf - (j + 1)) ++ [x]))
    rw [List.map_append, List.map_append] at this; exact this
  refine ⟨kf, df, _, _, rfl, q0, get_old (two_df T), ?_⟩
  refine pop_tc O (p := pcPV (pq x)) q0 (get_old (two_df T)) (by rw [List.length_map, List.length_map, List.length_take]; omega) ?_
  rw [set_old (two_f T), two_setF]
  repeat k_call_by "vc" 0
  refine TX_Expr (fun _ => rfl) (fun _ => rfl) ?_
  refine TE_MethF1 (f := 59) 1 (accF O) (by rw [hK, O.hC]; rfl) (by rw [hK]; rfl) (by rw [hK]; rfl) (by decide +kernel) (by decide) (by k_call_by "vc base" 0) (fun _ => rfl) (by rfl) (fun _ => rfl) (fun _ => rfl) ?_
  k_call_by "vc" 0
  refine ⟨kn, dn, _, _, rfl, get_old (two_n T), get_old (two_dn T), ?_⟩
  repeat k_call_by "vc" 0
  refine T2_item_tup (vs := [.str (S [32]), .str (S [x])]) (p := .str (S [32])) (j := 0) (fun _ _ => rfl) (by decide) (by decide) rfl rfl ?_
  repeat k_call_by "vc" 0
  refine T2_item_tup (vs := [.str (S [32]), .str (S [x])]) (p := .str (S [x])) (j := 1) (fun _ _ => rfl) (by decide) (by decide) rfl rfl ?_
  repeat k_call_by "vc" 0
  refine push_tc O (get_old (two_n T)) (get_old (two_dn T)) (by rw [List.length_map, List.length_map, List.length_reverse, List.length_drop, List.length_take]; omega) ?_
  have e3 : (((l.take hf).drop (hf - j)).reverse.map pq).map pcPV ++ [PV.tup [.str (S [32]), .str (S [x])]] = (((l.take hf).drop (hf - (j + 1))).reverse.map pq).map pcPV := by
    rw [e2, List.map_append, List.map_append]; rfl
  rw [e3, set_old (two_n T), two_setN T]
  repeat k_call_by "vc" 0
  have hLn : (two hp kn dn kf df ((l.take hf).drop (hf - (j + 1))).reverse (l.take (hf - (j + 1))) ++ E2).length = hp.length + E2.length := by rw [List.length_append, two_len]
  refine Turn_next (Sub_all (by rw [List.length_append, List.length_append, two_len, two_len]; omega) (by k_call_by "vc sub" 0) nofun) ⟨hj, rfl, rfl⟩
end Mine2
open PySem PySem.W PyProof.Rows PySem.Builtin VC
namespace VC
section
variable {P : PE} {fe : FE} {n : Nat} {loc : Loc} {hp : List AO} {K : LV → List AO → Prop}
theorem T2_p0 {value idx : PySem.Expr} {p q : PV} (hs : ∀ o i, subscripted idx false o i = operate [o, i] (getItem o i)) (h : K (.v p) hp) : T2 P fe n (subscriptTail value idx) (.v (.tup [p, q])) (.v (.int 0)) loc hp K :=
  T2_item_tup (j := 0) hs (by decide) (by decide) rfl rfl h
theorem T2_p1 {value idx : PySem.Expr} {p q : PV} (hs : ∀ o i, subscripted idx false o i = operate [o, i] (getItem o i)) (h : K (.v q) hp) : T2 P fe n (subscriptTail value idx) (.v (.tup [p, q])) (.v (.int 1)) loc hp K :=
  T2_item_tup (j := 1) hs (by decide) (by decide) rfl rfl h
end
end VC
local macro_rules | `(tactic| k_call_by "vc O" 0) => `(tactic| first
  | ((with_reducible refine' T2_p0 ?k1 ?_); (case k1 => exact fun _ _ => rfl))
  | ((with_reducible refine' T2_p1 ?k1 ?_); (case k1 => exact fun _ _ => rfl)))
namespace Mine2
noncomputable def mn (a b : Int) : Int := if b < a then b else a
noncomputable def mx (a b : Int) : Int := if b > a then b else a
noncomputable def ab (a : Int) : Int := if a < 0 then -a else a
noncomputable def wayS (a b c d r best lap : Int) : Int :=
  if 0 < mn b (d + lap * r) - mx a (c + lap * r) then mn best (2 * (ab (a - (c + lap * r)) + ab (b - (d + lap * r))) + lap.fmod 2 * (mn b (d + lap * r) - mx a (c + lap * r))) else best
noncomputable def way (a b c d r : Int) : Int := wayS a b c d r (wayS a b c d r (2 * mx (b - a) (d - c)) ((a - c).fdiv r)) ((a - c).fdiv r + 1)
theorem way_tc {P : PE} (O : Ok P) {a b c d : Int} {r : Nat} {hp : List AO} {K : LV → List AO → Prop} (hr : 0 < r) (hr2 : r ≤ 10) (ha : -10000 ≤ a ∧ a ≤ 10000) (hb : -10000 ≤ b ∧ b ≤ 10000) (hc : -10000 ≤ c ∧ c ≤ 10000) (hd : -10000 ≤ d ∧ d ≤ 10000)
    (h : K (.v (.int (way a b c d r))) hp) :
    TC P 1 (.ref 163) [.v (.tup [.int a, .int b]), .v (.tup [.int c, .int d]), .v (.int (r : Int))] hp K := by
  have hK := O.hK
  refine TC_enterS (f := 163) (cc := none) (as := [.v (.tup [.int a, .int b]), .v (.tup [.int c, .int d]), .v (.int (r : Int))]) (ds := []) (dvs := []) (oc := ?oc) (od := ?od) (osl := ?osl) (name := ?name) (qual := ?qual) (params := ?params) (body := ?body) (scope := ?scope) (dV := ?dV) (kV := ?kV) (doc := ?doc) (pm := ?pm) (cdv := ?cdv) (ct := ?ct) (an := ?an) (names := ?names) ?ho ?hcd ?hbind ?hds ?hnd ?hloc ?hcell ?hco ?hgen ?hk ?h
  case ho => rw [hK]; rfl
  case hcd => rw [hK]; rfl
  case names => exact ["one", "other", "ring"]
  case hbind => intro s vals _ hl; obtain ⟨v0, v1, v2, rfl⟩ := len3 hl; exact PySem.BindsTo.of_eq rfl
  case hds => intro _ _; rfl
  case hnd => decide
  case hloc => decide
  case hcell => decide
  case hco => rfl
  case hgen => rfl
  case hk => rfl
  refine TXS.of ?_
  show TXs _ _ _ _ [(_, _), (_, _), (_, _)] _ _
  refine TXs_cons ?_
  repeat k_call_by "vc" 0
  · omega
  · exact noPyN (by omega)
  have hq : -30000 ≤ (a - c).fdiv (r : Int) ∧ (a - c).fdiv (r : Int) ≤ 30000 := by
    rw [Int.fdiv_eq_ediv_of_nonneg _ (by omega)]
    exact ⟨Int.le_ediv_of_mul_le (by omega) (by omega), Int.ediv_le_of_le_mul (by omega) (by omega)⟩
  have hw : way a b c d r = wayS a b c d r (wayS a b c d r (2 * mx (b - a) (d - c)) ((a - c).fdiv r)) ((a - c).fdiv r + 1) := rfl
  generalize (a - c).fdiv (r : Int) = q at hq hw
  repeat ((fail_if_success with_reducible refine Then_next ?_); k_call_by "vc" 0)
  refine Then_next ?_
  refine TXs_cons ?_
  refine TX_For_tup (fun _ _ => rfl) ?_
  repeat k_call_by "vc" 0
  refine ⟨fun j loc1 hp1 => hp1 = hp ∧ loc1 = [(Str.ofString "one", .v (.tup [.int a, .int b])), (Str.ofString "other", .v (.tup [.int c, .int d])), (Str.ofString "ring", .v (.int (r : Int))), (Str.ofString "best", .v (.int (if j = 0 then 2 * mx (b - a) (d - c) else if j = 1 then wayS a b c d r (2 * mx (b - a) (d - c)) q else way a b c d r))), (Str.ofString "near", .v (.int q))], ⟨rfl, rfl⟩, ?step, ?done⟩
  case done =>
    rintro loc1 hp1 ⟨rfl, rfl⟩
    repeat k_call_by "vc" 0
    exact h
  rintro j v loc1 hp1 hv ⟨rfl, rfl⟩
  have hv2 : ∃ lap, v = .int lap ∧ -40000 ≤ lap ∧ lap ≤ 40000 ∧ (if j + 1 = 0 then 2 * mx (b - a) (d - c) else if j + 1 = 1 then wayS a b c d r (2 * mx (b - a) (d - c)) q else way a b c d r) = wayS a b c d r (if j = 0 then 2 * mx (b - a) (d - c) else if j = 1 then wayS a b c d r (2 * mx (b - a) (d - c)) q else way a b c d r) lap := by
    match j, hv with
    | 0, hv => cases hv; exact ⟨q, rfl, by omega, by omega, rfl⟩
    | 1, hv => cases hv; exact ⟨q + 1, rfl, by omega, by omega, hw⟩
    | j + 2, hv => simp at hv
  obtain ⟨lap, rfl, hl1, hl2, he⟩ := hv2
  generalize (if j = 0 then 2 * mx (b - a) (d - c) else if j = 1 then wayS a b c d r (2 * mx (b - a) (d - c)) q else way a b c d r) = best at he ⊢
  repeat k_call_by "vc" 0
  have hm2 := fmod2 lap
  refine ⟨fun g => ?_, fun g => ?_⟩
  · repeat k_call_by "vc" 0
    have e2 : wayS a b c d r best lap = mn best (2 * (ab (a - (c + lap * r)) + ab (b - (d + lap * r))) + lap.fmod 2 * (mn b (d + lap * r) - mx a (c + lap * r))) := by
      unfold wayS
      exact if_pos (of_decide_eq_true g)
    refine Turn_next (Sub_all (loc3 := [(Str.ofString "one", .v (.tup [.int a, .int b])), (Str.ofString "other", .v (.tup [.int c, .int d])), (Str.ofString "ring", .v (.int (r : Int))), (Str.ofString "best", .v (.int (mn best (2 * (ab (a - (c + lap * r)) + ab (b - (d + lap * r))) + lap.fmod 2 * (mn b (d + lap * r) - mx a (c + lap * r)))))), (Str.ofString "near", .v (.int q))]) (by omega) (by k_call_by "vc sub" 0) nofun) ⟨rfl, ?_⟩
    rw [he, e2]
  · repeat k_call_by "vc" 0
    have e2 : wayS a b c d r best lap = best := by
      unfold wayS
      exact if_neg (of_decide_eq_false g)
    refine Turn_next (Sub_all (loc3 := [(Str.ofString "one", .v (.tup [.int a, .int b])), (Str.ofString "other", .v (.tup [.int c, .int d])), (Str.ofString "ring", .v (.int (r : Int))), (Str.ofString "best", .v (.int best)), (Str.ofString "near", .v (.int q))]) (by omega) (by k_call_by "vc sub" 0) nofun) ⟨rfl, ?_⟩
    rw [he, e2]
end Mine2
open PySem PySem.W PyProof.Rows PySem.Builtin VC
namespace Mine2
noncomputable def lawFn (p : Params) : FuncData := match (hd.heap_1 p).lookup 187 with | some ⟨_, _, .func fd, _⟩ => fd | _ => default
noncomputable def lawB (p : Params) (k : Nat) : List Stmt := (match (lawFn p).body with | .stmts b => b | _ => []).drop k
noncomputable def lawFE (p : Params) : FE := ⟨(lawFn p).qualname, (lawFn p).scope, 187, (lawFn p).code, [], true⟩
theorem modsum : ∀ ks : List Int, ∃ t : Nat, ((ks.map fun x => x.fmod 1000003).sum) = (t : Int)
  | [] => ⟨0, rfl⟩
  | k :: r => by
    obtain ⟨t, e⟩ := modsum r
    have h := Int.fmod_nonneg_of_pos (a := k) (b := 1000003) (by decide)
    refine ⟨(k.fmod 1000003).toNat + t, ?_⟩
    rw [List.map_cons, List.sum_cons, e]; omega
noncomputable def modP (p : PV) : PV := match p with | .int i => .int (i.fmod 1000003) | _ => .none
theorem modP_map (ks : List Int) : (ks.map PV.int).map modP = (ks.map fun x => x.fmod 1000003).map PV.int := by rw [List.map_map, List.map_map]; rfl
noncomputable def sp (q : Int × Int) : PV := .tup [.int q.1, .int q.2]
/-- the things of the law, in order -/
noncomputable def base (X : List PV) (F B : List Nat) (Sp : List (Int × Int)) : List AO := [.tab 81, .tab 88, .lst X, .dct (some 0), .acc 3 ((F.map pq).map pcPV), .dct (some 0), .acc 5 ((B.map pq).map pcPV), .lsd (Sp.map sp)]
theorem lawA {P : PE} (O : Ok P) (hsn : P.sn.length ≤ 63) {Kf : Fl → VC.Loc → List AO → Prop}
    (h : ∀ (t r lo : Nat) (X : List PV), 3 ≤ r → r ≤ 5 → lo < 12 → ∀ rest, rest = lawB P.w.params 8 →
      TXs P (lawFE P.w.params) 10 rest [(Str.ofString "script", .v (.ref P.sl)), (Str.ofString "total", .v (.int (t : Int))), (Str.ofString "ring", .v (.int (r : Int))), (Str.ofString "low", .v (.int (lo : Int))), (Str.ofString "cut", .v (.int (lo : Int))), (Str.ofString "high", .v (.int (lo : Int))), (Str.ofString "front", .o 4), (Str.ofString "back", .o 6), (Str.ofString "spans", .o 7)] (base X [] [] []) Kf) :
    TXs P (lawFE P.w.params) 10 (lawB P.w.params 0) [(Str.ofString "script", .v (.ref P.sl))] [.tab 81, .tab 88] Kf := by
  have hK := O.hK
  refine TXs_cons ?_
  repeat k_call_by "vc" 0
  refine TE_ListComp none modP (fun y q e => by cases e) ?clos (by decide) rfl (by decide) rfl (fun _ _ => rfl) ?_
  case clos => intro X hX; rfl
  refine TIt_script ?_
  repeat k_call_by "vc" 0
  refine ⟨rfl, by rw [List.length_map]; exact szl (by omega), ?_, trivial, ?_, ?_⟩
  · intro p hp
    obtain ⟨i, _, rfl⟩ := List.mem_map.mp hp
    trivial
  · intro X C p hp
    obtain ⟨i, _, rfl⟩ := List.mem_map.mp hp
    exact TQ_bin (TQ_local (by rfl) rfl rfl (by decide)) TQ_int (TQ2_mod (by decide))
  rw [modP_map]
  obtain ⟨t1, e1⟩ := modsum P.sn
  repeat k_call_by "vc" 0
  refine TL_sum (List.getElem?_concat_length ..) ?_
  rw [e1]
  generalize (P.sn.map fun x => x.fmod 1000003).map PV.int = X
  repeat ((fail_if_success with_reducible refine Then_next ?_); k_call_by "vc" 0)
  have q1 : 8 + (t1 : Int) = ((8 + t1 : Nat) : Int) := by omega
  rw [q1]
  generalize 8 + t1 = t
  refine Then_next ?_
  refine TXs_cons ?_
  have q2 : 3 + (t : Int).fmod 3 = ((3 + t % 3 : Nat) : Int) := by have := fmodN t 3; push_cast at this ⊢; rw [this]
  have q3 : ((t : Int).fdiv 3).fmod 12 = ((t / 3 % 12 : Nat) : Int) := by
    rw [show (t : Int).fdiv 3 = ((t / 3 : Nat) : Int) from fdivN t 3]; exact fmodN _ 12
  repeat ((fail_if_success with_reducible refine Then_next ?_); k_call_by "vc" 0)
  rw [q2]
  have hr1 : 3 ≤ 3 + t % 3 := by omega
  have hr2 : 3 + t % 3 ≤ 5 := by omega
  generalize 3 + t % 3 = r at hr1 hr2
  refine Then_next ?_
  refine TXs_cons ?_
  repeat ((fail_if_success with_reducible refine Then_next ?_); k_call_by "vc" 0)
  rw [q3]
  have hlo : t / 3 % 12 < 12 := by omega
  generalize t / 3 % 12 = lo at hlo
  repeat k_call_by "vc" 0
  refine TE_call0 115 2 rfl (by k_call_by "vc some" 0) (by k_call_by "vc keep" 0) (by omega) (by decide) ?_
  refine new0_tc O ?_
  repeat k_call_by "vc" 0
  refine TE_call0 115 2 rfl (by k_call_by "vc some" 0) (by k_call_by "vc keep" 0) (by omega) (by decide) ?_
  refine new0_tc O ?_
  repeat ((fail_if_success with_reducible refine Then_next ?_); k_call_by "vc" 0)
  refine Then_next ?_
  show TXs _ _ _ _ [(_, _), (_, _), (_, _), (_, _), (_, _), (_, _), (Str.ofString "front", .o 4), (Str.ofString "back", .o 6)] [.tab 81, .tab 88, .lst X, .dct (some 0), .acc 3 [], .dct (some 0), .acc 5 []] Kf
  refine TXs_cons ?_
  refine TX_Assign (fun _ => rfl) ?_
  refine TE_ListD ?_
  repeat ((fail_if_success with_reducible refine Then_next ?_); k_call_by "vc" 0)
  refine Then_next ?_
  show TXs _ _ _ _ [(_, _), (_, _), (_, _), (_, _), (_, _), (_, _), (Str.ofString "front", .o 4), (Str.ofString "back", .o 6), (Str.ofString "spans", .o 7)] (base X [] [] []) Kf
  with_reducible exact h t r lo X hr1 hr2 hlo _ (by kernel_rfl)
end Mine2
open PySem PySem.W PyProof.Rows PySem.Builtin VC
namespace Mine2
theorem span_nil {a b : Int} (h : b ≤ a) : span a b = [] := by
  unfold span; rw [show (b - a).toNat = 0 by omega]; rfl
theorem span_cons {a b : Int} (h : a < b) : span a b = a :: span (a + 1) b := by
  unfold span
  obtain ⟨m, hm⟩ : ∃ m : Nat, (b - a).toNat = m + 1 := ⟨(b - a).toNat - 1, by omega⟩
  rw [hm, show (b - (a + 1)).toNat = m by omega, List.range_succ_eq_map, List.map_cons, List.map_map]
  congr 1
  · simp
  · apply List.map_congr_left
    intro i _
    show a + ((i + 1 : Nat) : Int) = a + 1 + (i : Int)
    omega
theorem span_app {a b c : Int} (h1 : a ≤ b) (h2 : b ≤ c) : span a c = span a b ++ span b c := by
  obtain ⟨m, rfl⟩ : ∃ m : Nat, b = a + m := ⟨(b - a).toNat, by omega⟩
  clear h1
  induction m generalizing a with
  | zero => rw [span_nil (show a + ((0 : Nat) : Int) ≤ a by omega)]; simp
  | succ m ih =>
    rw [span_cons (show a < c by omega), span_cons (show a < a + ((m + 1 : Nat) : Int) by omega)]
    have := ih (a := a + 1) (by omega)
    rw [show a + 1 + (m : Int) = a + ((m + 1 : Nat) : Int) by omega] at this
    rw [this]; rfl
theorem str_nil {a b : Int} (r : Nat) (h : b ≤ a) : str a b r = [] := by unfold str; rw [span_nil h]; rfl
theorem str_cons {a b : Int} (r : Nat) (h : a < b) : str a b r = ch r a :: str (a + 1) b r := by unfold str; rw [span_cons h]; rfl
theorem str_app {a b c : Int} (r : Nat) (h1 : a ≤ b) (h2 : b ≤ c) : str a c r = str a b r ++ str b c r := by unfold str; rw [span_app h1 h2, List.map_append]
theorem str_one (a : Int) (r : Nat) : str a (a + 1) r = [ch r a] := by rw [str_cons r (by omega), str_nil r (by omega)]
theorem str_snoc {a b : Int} (r : Nat) (h : a < b) : str a b r = str a (b - 1) r ++ [ch r (b - 1)] := by
  rw [str_app r (show a ≤ b - 1 by omega) (show b - 1 ≤ b by omega)]
  congr 1
  have := str_one (b - 1) r
  rwa [show b - 1 + 1 = b by omega] at this
theorem str_take {a b : Int} (r k : Nat) (h : a + k ≤ b) : (str a b r).take k = str a (a + k) r := by
  rw [str_app r (show a ≤ a + k by omega) h, List.take_left' (by rw [str_len]; omega)]
theorem str_drop {a b : Int} (r k : Nat) (h : a + k ≤ b) : (str a b r).drop k = str (a + k) b r := by
  rw [str_app r (show a ≤ a + k by omega) h, List.drop_left' (by rw [str_len]; omega)]
theorem ch_lt {r : Nat} (h0 : 0 < r) (h : r ≤ 10) (p : Int) : ch r p < 128 ∧ ch r p ≠ 34 := by
  have g1 := fmod_pos p h0
  have g2 := fmod2 (p.fdiv r)
  unfold ch
  omega
noncomputable def forB (p : Params) (k : Nat) : List Stmt := (match lawB p 8 with | .For _ _ b _ _ :: _ => b | _ => []).drop k
noncomputable def innB (p : Params) : List Stmt := match forB p 0 with | .For _ _ b _ _ :: _ => b | _ => []
end Mine2
open PySem PySem.W PyProof.Rows PySem.Builtin VC
namespace Mine2
theorem base_setF {X : List PV} {F B F' : List Nat} {Sp : List (Int × Int)} {E : List AO} : (base X F B Sp ++ E).set 4 (.acc 3 ((F'.map pq).map pcPV)) = base X F' B Sp ++ E := rfl
theorem base_setB {X : List PV} {F B B' : List Nat} {Sp : List (Int × Int)} {E : List AO} : (base X F B Sp ++ E).set 6 (.acc 5 ((B'.map pq).map pcPV)) = base X F B' Sp ++ E := rfl
theorem push_pq (l : List Nat) (c : Nat) : (l.map pq).map pcPV ++ [PV.tup [.str (S [32]), .str (S [c])]] = ((l ++ [c]).map pq).map pcPV := by rw [List.map_append, List.map_append]; rfl
/-- the names of the law in its loops -/
noncomputable abbrev locL (sl : Addr) (t r : Nat) (lo cu hi : Int) (x i : Nat) : VC.Loc := [(Str.ofString "script", .v (.ref sl)), (Str.ofString "total", .v (.int (t : Int))), (Str.ofString "ring", .v (.int (r : Int))), (Str.ofString "low", .v (.int lo)), (Str.ofString "cut", .v (.int cu)), (Str.ofString "high", .v (.int hi)), (Str.ofString "front", .o 4), (Str.ofString "back", .o 6), (Str.ofString "spans", .o 7), (Str.ofString "x", .v (.int (x : Int))), (Str.ofString "again", .v (.int (i : Int)))]
set_option maxHeartbeats 4000000 in
theorem step0 {P : PE} (O : Ok P) {t r x i : Nat} {lo cu hi : Int} {X : List PV} {Sp : List (Int × Int)} {E : List AO} {Kf : Fl → VC.Loc → List AO → Prop} (hr : 3 ≤ r) (hr2 : r ≤ 5) (h1 : lo ≤ cu) (h2 : cu ≤ hi) (h3 : hi - lo ≤ r) (b1 : -5000 ≤ lo) (b2 : hi ≤ 5000) (hx : x % 4 = 0)
    (h : ∀ (lo' cu' hi' : Int) (tl : VC.Loc) (ex : List AO), lo' ≤ cu' → cu' ≤ hi' → hi' - lo' ≤ r → lo - 1 ≤ lo' → hi' ≤ hi + 1 →
      Kf .next (locL P.sl t r lo' cu' hi' x i ++ tl) (base X (str lo' cu' r).reverse (str cu' hi' r) Sp ++ E ++ ex)) :
    TXs P (lawFE P.w.params) 10 (innB P.w.params) (locL P.sl t r lo cu hi x i) (base X (str lo cu r).reverse (str cu hi r) Sp ++ E) Kf := by
  have hK := O.hK
  have hx4 : (x : Int).fmod 4 = 0 := by have := fmodN x 4; rw [hx] at this; exact this
  refine TXs_cons ?_
  repeat k_call_by "vc" 0
  refine ⟨fun _ => ?_, fun q => absurd q (by rw [hx4]; decide)⟩
  repeat k_call_by "vc" 0
  refine ⟨fun q => ?_, fun q => ?_⟩
  · have hq := of_decide_eq_true q
    repeat k_call_by "vc" 0
    refine TX_Expr (fun _ => rfl) (fun _ => rfl) ?_
    refine TE_MethF1 (f := 59) 1 (accF O) (by rw [hK, O.hC]; rfl) (by rw [hK]; rfl) (by rw [hK]; rfl) (by decide +kernel) (by decide) (by k_call_by "vc base" 0) (fun _ => rfl) (by rfl) (fun _ => rfl) (fun _ => rfl) ?_
    k_call_by "vc" 0
    refine ⟨4, 3, _, _, rfl, rfl, rfl, ?_⟩
    repeat k_call_by "vc" 0
    refine TE_CallFn (n' := 1) (f := 156) rfl (by k_call_by "vc some" 0) (by k_call_by "vc keep" 0) (by omega) (by decide) (fun _ => rfl) (fun _ => rfl) ?_
    repeat k_call_by "vc" 0
    refine stretch_tc O (by omega) (by omega) (by omega) (by omega) (by omega) (by omega) fun ex => ?_
    rw [str_one]
    repeat k_call_by "vc" 0
    refine push_tc O (d := 3) (vs := ((str lo cu r).reverse.map pq).map pcPV) rfl rfl (by rw [List.length_map, List.length_map, List.length_reverse, str_len]; omega) ?_
    rw [List.append_assoc, push_pq, base_setF, ← List.reverse_cons]
    have e1 := str_cons r (show lo - 1 < cu by omega)
    rw [show lo - 1 + 1 = lo by omega] at e1
    rw [← e1, ← List.append_assoc]
    repeat k_call_by "vc" 0
    exact h (lo - 1) cu hi [] ex (by omega) h2 (by omega) (by omega) (by omega)
  · repeat k_call_by "vc" 0
    refine ⟨fun q => absurd q (by rw [hx4]; decide), fun _ => ⟨fun q => absurd q (by decide), fun _ => ?_⟩⟩
    repeat k_call_by "vc" 0
    refine ⟨fun q => absurd q (by rw [hx4]; decide), fun _ => ?_⟩
    repeat k_call_by "vc" 0
    refine ⟨fun q => absurd q (by rw [hx4]; decide), fun _ => ?_⟩
    repeat k_call_by "vc" 0
    have e := h lo cu hi [] [] h1 h2 h3 (by omega) (by omega)
    rw [List.append_nil, List.append_nil] at e
    exact e
set_option maxHeartbeats 4000000 in
theorem step1 {P : PE} (O : Ok P) {t r x i : Nat} {lo cu hi : Int} {X : List PV} {Sp : List (Int × Int)} {E : List AO} {Kf : Fl → VC.Loc → List AO → Prop} (hr : 3 ≤ r) (hr2 : r ≤ 5) (h1 : lo ≤ cu) (h2 : cu ≤ hi) (h3 : hi - lo ≤ r) (b1 : -5000 ≤ lo) (b2 : hi ≤ 5000) (hx : x % 4 = 1)
    (h : ∀ (lo' cu' hi' : Int) (tl : VC.Loc) (ex : List AO), lo' ≤ cu' → cu' ≤ hi' → hi' - lo' ≤ r → lo - 1 ≤ lo' → hi' ≤ hi + 1 →
      Kf .next (locL P.sl t r lo' cu' hi' x i ++ tl) (base X (str lo' cu' r).reverse (str cu' hi' r) Sp ++ E ++ ex)) :
    TXs P (lawFE P.w.params) 10 (innB P.w.params) (locL P.sl t r lo cu hi x i) (base X (str lo cu r).reverse (str cu hi r) Sp ++ E) Kf := by
  have hK := O.hK
  have hx4 : (x : Int).fmod 4 = 1 := by have := fmodN x 4; rw [hx] at this; exact this
  refine TXs_cons ?_
  repeat k_call_by "vc" 0
  refine ⟨fun q => absurd q (by rw [hx4]; decide), fun _ => ⟨fun q => absurd q (by decide), fun _ => ?_⟩⟩
  repeat k_call_by "vc" 0
  refine ⟨fun _ => ?_, fun q => absurd q (by rw [hx4]; decide)⟩
  repeat k_call_by "vc" 0
  refine ⟨fun q => ?_, fun q => ?_⟩
  · have hq := of_decide_eq_true q
    repeat k_call_by "vc" 0
    refine TX_Expr (fun _ => rfl) (fun _ => rfl) ?_
    refine TE_MethF1 (f := 59) 1 (accF O) (by rw [hK, O.hC]; rfl) (by rw [hK]; rfl) (by rw [hK]; rfl) (by decide +kernel) (by decide) (by k_call_by "vc base" 0) (fun _ => rfl) (by rfl) (fun _ => rfl) (fun _ => rfl) ?_
    k_call_by "vc" 0
    refine ⟨6, 5, _, _, rfl, rfl, rfl, ?_⟩
    repeat k_call_by "vc" 0
    refine TE_CallFn (n' := 1) (f := 156) rfl (by k_call_by "vc some" 0) (by k_call_by "vc keep" 0) (by omega) (by decide) (fun _ => rfl) (fun _ => rfl) ?_
    repeat k_call_by "vc" 0
    refine stretch_tc O (by omega) (by omega) (by omega) (by omega) (by omega) (by omega) fun ex => ?_
    rw [str_one]
    repeat k_call_by "vc" 0
    refine push_tc O (d := 5) (vs := ((str cu hi r).map pq).map pcPV) rfl rfl (by rw [List.length_map, List.length_map, str_len]; omega) ?_
    rw [List.append_assoc, push_pq, base_setB]
    have e1 := str_snoc r (show cu < hi + 1 by omega)
    rw [show hi + 1 - 1 = hi by omega] at e1
    rw [← e1, ← List.append_assoc]
    repeat k_call_by "vc" 0
    exact h lo cu (hi + 1) [] ex h1 (by omega) (by omega) (by omega) (by omega)
  · repeat k_call_by "vc" 0
    refine ⟨fun q => absurd q (by rw [hx4]; decide), fun _ => ?_⟩
    repeat k_call_by "vc" 0
    refine ⟨fun q => absurd q (by rw [hx4]; decide), fun _ => ?_⟩
    repeat k_call_by "vc" 0
    have e := h lo cu hi [] [] h1 h2 h3 (by omega) (by omega)
    rw [List.append_nil, List.append_nil] at e
    exact e
end Mine2
open PySem PySem.W PyProof.Rows PySem.Builtin VC
namespace Mine2
/-- the same with the line -/
noncomputable abbrev locM (sl : Addr) (t r : Nat) (lo cu hi : Int) (x i : Nat) (l : List Nat) : VC.Loc := [(Str.ofString "script", .v (.ref sl)), (Str.ofString "total", .v (.int (t : Int))), (Str.ofString "ring", .v (.int (r : Int))), (Str.ofString "low", .v (.int lo)), (Str.ofString "cut", .v (.int cu)), (Str.ofString "high", .v (.int hi)), (Str.ofString "front", .o 4), (Str.ofString "back", .o 6), (Str.ofString "spans", .o 7), (Str.ofString "x", .v (.int (x : Int))), (Str.ofString "again", .v (.int (i : Int))), (Str.ofString "line", .v (.str (S l)))]
/-- how many are taken -/
noncomputable def kk (a b : Int) : Int := if a < b then 1 else 0
theorem twoFB {X : List PV} {Sp : List (Int × Int)} {E : List AO} : Two (base X [] [] Sp ++ E) 4 3 6 5 :=
  ⟨by simp [base], by simp [base], by decide, by decide, by decide, by decide, by decide, rfl, rfl⟩
theorem twoBF {X : List PV} {Sp : List (Int × Int)} {E : List AO} : Two (base X [] [] Sp ++ E) 6 5 4 3 :=
  ⟨by simp [base], by simp [base], by decide, by decide, by decide, by decide, by decide, rfl, rfl⟩
theorem str_first {a b : Int} (r : Nat) (h : a ≤ b) : (str a b r).take 1 = str a (a + kk a b) r := by
  unfold kk
  by_cases q : a < b
  · rw [if_pos q, str_take r 1 (by omega)]; rfl
  · rw [if_neg q, str_nil r (by omega), str_nil r (by omega)]; rfl
theorem str_last {a b : Int} (r : Nat) (h : a ≤ b) : (str a b r).drop ((str a b r).length - 1) = str (b - kk a b) b r := by
  unfold kk
  by_cases q : a < b
  · rw [if_pos q, str_len, str_drop r _ (by omega)]
    congr 1; omega
  · rw [if_neg q, str_nil r (by omega), str_nil r (by omega)]; rfl
theorem kk_len {a b : Int} (r : Nat) : (str a (a + kk a b) r).length = (kk a b).toNat := by rw [str_len]; congr 1; omega
theorem kk_len2 {a b : Int} (r : Nat) : (str (b - kk a b) b r).length = (kk a b).toNat := by rw [str_len]; congr 1; omega
theorem kk_01 (a b : Int) : 0 ≤ kk a b ∧ kk a b ≤ 1 := by unfold kk; split <;> omega
theorem str_128 {a b : Int} {r : Nat} (h0 : 0 < r) (h : r ≤ 10) : ∀ c ∈ str a b r, c < 128 := by
  intro c hc
  unfold str at hc
  obtain ⟨i, _, rfl⟩ := List.mem_map.mp hc
  exact (ch_lt h0 h i).1
theorem str_34 {a b : Int} {r : Nat} (h0 : 0 < r) (h : r ≤ 10) : ∀ c ∈ str a b r, c ≠ 34 := by
  intro c hc
  unfold str at hc
  obtain ⟨i, _, rfl⟩ := List.mem_map.mp hc
  exact (ch_lt h0 h i).2
theorem rep_128 (n : Nat) : ∀ c ∈ List.replicate n 32, c < 128 := by
  intro c hc
  rw [List.eq_of_mem_replicate hc]; decide
theorem taken_front {P : PE} (O : Ok P) {X : List PV} {Sp : List (Int × Int)} {E : List AO} {r : Nat} {lo cu hi : Int} {K : LV → List AO → Prop} (hr : 3 ≤ r) (hr2 : r ≤ 5) (h1 : lo ≤ cu) (h2 : cu ≤ hi) (h3 : hi - lo ≤ r)
    (h : ∀ ex, K (.v (.tup [.str (S (List.replicate (kk lo hi).toNat 32)), .str (S (str lo (lo + kk lo hi) r))])) (base X (str (lo + kk lo hi) (mx (if cu = lo then lo + (((hi - lo).toNat / 2 : Nat) : Int) else cu) (lo + kk lo hi)) r).reverse (str (mx (if cu = lo then lo + (((hi - lo).toNat / 2 : Nat) : Int) else cu) (lo + kk lo hi)) hi r) Sp ++ E ++ ex)) :
    TC P 3 (.ref 182) [.o 4, .o 6, .v (.int (cu - lo)), .v (.str (S (str lo hi r)))] (base X (str lo cu r).reverse (str cu hi r) Sp ++ E) K := by
  have hT : base X (str lo cu r).reverse (str cu hi r) Sp ++ E = two (base X [] [] Sp ++ E) 4 3 6 5 (str lo cu r).reverse (str cu hi r) := rfl
  have hU : ∀ F B ex, two (base X [] [] Sp ++ E) 4 3 6 5 F B ++ ex = base X F B Sp ++ E ++ ex := fun _ _ _ => rfl
  by_cases hc : cu = lo
  · subst hc
    rw [if_pos rfl] at h
    rw [hT, Int.sub_self, str_nil r (Int.le_refl cu)]
    refine taken_far_tc O twoFB (ks := 1) rfl (by decide) (by decide) (by rw [str_len]; omega) (str_34 (by omega) (by omega)) (fun e ex => ?_) (fun c e ex => ?_) (fun c l e e0 ex => ?_)
    · have q : hi = cu := by
        have := congrArg List.length e
        rw [str_len] at this
        simp at this; omega
      subst q
      have e := h ex
      rw [show kk hi hi = 0 by unfold kk; rw [if_neg (by omega)], show ((hi - hi).toNat / 2 : Nat) = 0 by rw [Int.sub_self]; rfl, show mx (hi + ((0 : Nat) : Int)) (hi + 0) = hi by unfold mx; split <;> omega, show hi + 0 = hi by omega, str_nil r (Int.le_refl hi)] at e
      rw [hU]; exact e
    · have q : hi = cu + 1 := by
        have := congrArg List.length e
        rw [str_len] at this
        simp at this; omega
      subst q
      rw [str_one] at e
      cases e
      have e := h ex
      rw [show kk cu (cu + 1) = 1 by unfold kk; rw [if_pos (by omega)], show ((cu + 1 - cu).toNat / 2 : Nat) = 0 by rw [show (cu + 1 - cu).toNat = 1 by omega], show mx (cu + ((0 : Nat) : Int)) (cu + 1) = cu + 1 by unfold mx; split <;> omega, str_nil r (Int.le_refl (cu + 1)), str_one] at e
      rw [hU]; exact e
    · have q : cu + 1 < hi := by
        have := congrArg List.length e
        rw [str_len, List.length_cons] at this
        omega
      rw [str_cons r (show cu < hi by omega)] at e
      cases e
      have e := h ex
      rw [show kk cu hi = 1 by unfold kk; rw [if_pos (by omega)], show mx (cu + (((hi - cu).toNat / 2 : Nat) : Int)) (cu + 1) = cu + (((hi - cu).toNat / 2 : Nat) : Int) by unfold mx; split <;> omega, str_one] at e
      rw [hU, str_len, str_take r _ (by omega), str_drop r _ (by omega), show cu + 1 + (((hi - cu).toNat / 2 - 1 : Nat) : Int) = cu + (((hi - cu).toNat / 2 : Nat) : Int) by omega]
      exact e
  · rw [if_neg hc] at h
    have e := h []
    rw [show kk lo hi = 1 by unfold kk; rw [if_pos (by omega)], show mx cu (lo + 1) = cu by unfold mx; split <;> omega, str_one, List.append_nil] at e
    refine taken_near_tc O (dn := 3) (c := ch r lo) (ln := (str (lo + 1) cu r).reverse) (by rw [str_cons r (show lo < cu by omega), List.reverse_cons]; rfl) rfl (by rw [str_len]; omega) (by rw [List.length_reverse, str_len]; omega) (by omega) ?_
    rw [base_setF]
    exact e
set_option maxHeartbeats 4000000 in
theorem step2 {P : PE} (O : Ok P) {t r x i : Nat} {lo cu hi : Int} {X : List PV} {Sp : List (Int × Int)} {E : List AO} {Kf : Fl → VC.Loc → List AO → Prop} (hr : 3 ≤ r) (hr2 : r ≤ 5) (h1 : lo ≤ cu) (h2 : cu ≤ hi) (h3 : hi - lo ≤ r) (b1 : -5000 ≤ lo) (b2 : hi ≤ 5000) (hx : x % 4 = 2)
    (h : ∀ (lo' cu' hi' : Int) (tl : VC.Loc) (ex : List AO), lo' ≤ cu' → cu' ≤ hi' → hi' - lo' ≤ r → lo - 1 ≤ lo' → hi' ≤ hi + 1 →
      Kf .next (locL P.sl t r lo' cu' hi' x i ++ tl) (base X (str lo' cu' r).reverse (str cu' hi' r) Sp ++ E ++ ex)) :
    TXs P (lawFE P.w.params) 10 (innB P.w.params) (locL P.sl t r lo cu hi x i) (base X (str lo cu r).reverse (str cu hi r) Sp ++ E) Kf := by
  have hK := O.hK
  have hx4 : (x : Int).fmod 4 = 2 := by have := fmodN x 4; rw [hx] at this; exact this
  refine TXs_cons ?_
  repeat k_call_by "vc" 0
  refine ⟨fun q => absurd q (by rw [hx4]; decide), fun _ => ⟨fun q => absurd q (by decide), fun _ => ?_⟩⟩
  repeat k_call_by "vc" 0
  refine ⟨fun q => absurd q (by rw [hx4]; decide), fun _ => ⟨fun q => absurd q (by decide), fun _ => ?_⟩⟩
  repeat k_call_by "vc" 0
  refine ⟨fun _ => ?_, fun q => absurd q (by rw [hx4]; decide)⟩
  repeat k_call_by "vc" 0
  refine TE_CallFn (n' := 1) (f := 156) rfl (by k_call_by "vc some" 0) (by k_call_by "vc keep" 0) (by omega) (by decide) (fun _ => rfl) (fun _ => rfl) ?_
  repeat k_call_by "vc" 0
  refine stretch_tc O (by omega) (by omega) (by omega) (by omega) (by omega) (by omega) fun ex => ?_
  repeat ((fail_if_success with_reducible refine Then_next ?_); k_call_by "vc" 0)
  refine Then_next ?_
  refine TXs_cons ?_
  repeat k_call_by "vc" 0
  refine TE_CallFn (n' := 3) (f := 182) rfl (by k_call_by "vc some" 0) (by k_call_by "vc keep" 0) (by omega) (by decide) (fun _ => rfl) (fun _ => rfl) ?_
  repeat k_call_by "vc" 0
  rw [List.append_assoc]
  refine taken_front O hr hr2 h1 h2 h3 fun E2 => ?_
  rw [List.append_assoc, List.append_assoc]
  generalize ex ++ E2 = E3
  generalize hE' : E ++ E3 = E'
  repeat k_call_by "vc" 0
  refine ⟨_, _, _, rfl, rfl, rfl, TSl_S (by rw [str_len]; omega) (fun _ _ => ⟨_, rfl⟩) (by rw [show (1 : Int) = ((1 : Nat) : Int) from rfl, sl_to, str_first r (by omega)]) ?_⟩
  have hk1 := kk_01 lo hi
  have hk := kk_len r (a := lo) (b := hi)
  have hk2 : (str lo (lo + kk lo hi) r).length ≤ 10 := by rw [hk]; omega
  repeat k_call_by "vc" 0
  refine ⟨_, _, _, rfl, rfl, rfl, TSl_S (by rw [str_len]; omega) (fun _ _ => ⟨_, rfl⟩) (by rw [show (1 : Int) = ((1 : Nat) : Int) from rfl, sl_to, str_first r (by omega)]) ?_⟩
  repeat k_call_by "vc" 0
  rw [hk, Int.toNat_natCast, rep_one]
  refine T2_net (xs := [S (List.replicate (kk lo hi).toNat 32), S (str lo (lo + kk lo hi) r)]) (ys := [S (List.replicate (kk lo hi).toNat 32), S (str lo (lo + kk lo hi) r)]) (shaped2 _ _ (rep_128 _) (str_128 (by omega) (by omega))) (shaped2 _ _ (rep_128 _) (str_128 (by omega) (by omega))) ?_
  repeat k_call_by "vc" 0
  refine ⟨fun q => absurd q (by simp), fun _ => ?_⟩
  repeat ((fail_if_success with_reducible refine Then_next ?_); k_call_by "vc" 0)
  refine Then_next ?_
  refine TXs_cons ?_
  have el : (((str lo hi r).length : Nat) : Int).fdiv 2 = (((hi - lo).toNat / 2 : Nat) : Int) := by rw [str_len]; exact fdivN _ 2
  have hll : (str lo hi r).length ≤ 10 := by rw [str_len]; omega
  refine TX_mid (fun loc1 hp1 => hp1 = base X (str (lo + kk lo hi) (mx (if cu = lo then lo + (((hi - lo).toNat / 2 : Nat) : Int) else cu) (lo + kk lo hi)) r).reverse (str (mx (if cu = lo then lo + (((hi - lo).toNat / 2 : Nat) : Int) else cu) (lo + kk lo hi)) hi r) Sp ++ E' ∧ loc1 = locM P.sl t r lo (if cu = lo then lo + (((hi - lo).toNat / 2 : Nat) : Int) else cu) hi x i (str lo hi r)) ?_ ?rest
  · repeat k_call_by "vc" 0
    refine ⟨fun q => ?_, fun q => ?_⟩
    · have q' : cu = lo := by simpa using q
      repeat k_call_by "vc" 0
      rw [el]
      refine ⟨rfl, ?_⟩
      rw [if_pos q']
    · have q' : ¬ cu = lo := by simpa using q
      repeat k_call_by "vc" 0
      refine ⟨rfl, ?_⟩
      rw [if_neg q']
  rintro loc1 hp1 ⟨rfl, rfl⟩
  have hcu : ∀ z, z = (if cu = lo then lo + (((hi - lo).toNat / 2 : Nat) : Int) else cu) → lo ≤ z ∧ z ≤ hi := by
    rintro z rfl
    split <;> omega
  generalize hz : (if cu = lo then lo + (((hi - lo).toNat / 2 : Nat) : Int) else cu) = z at hcu
  have hzz := hcu z rfl
  refine Then_next ?_
  refine TXs_cons ?_
  repeat k_call_by "vc" 0
  repeat ((fail_if_success with_reducible refine Then_next ?_); k_call_by "vc" 0)
  rw [str_first r (by omega), hk, show (((kk lo hi).toNat : Nat) : Int) = kk lo hi by omega]
  subst hE'
  rw [← List.append_assoc]
  have g : kk lo hi = 1 ∧ lo < hi ∨ kk lo hi = 0 ∧ ¬ lo < hi := by unfold kk; split <;> omega
  have g2 : mx z (lo + kk lo hi) = z ∧ lo + kk lo hi ≤ z ∨ mx z (lo + kk lo hi) = lo + kk lo hi ∧ z < lo + kk lo hi := by unfold mx; split <;> omega
  exact h (lo + kk lo hi) (mx z (lo + kk lo hi)) hi [(Str.ofString "line", .v (.str (S (str lo hi r))))] E3 (by omega) (by omega) (by omega) (by omega) (by omega)
end Mine2
open PySem PySem.W PyProof.Rows PySem.Builtin VC
namespace Mine2
theorem taken_back {P : PE} (O : Ok P) {X : List PV} {Sp : List (Int × Int)} {E : List AO} {r : Nat} {lo cu hi : Int} {K : LV → List AO → Prop} (hr : 3 ≤ r) (hr2 : r ≤ 5) (h1 : lo ≤ cu) (h2 : cu ≤ hi) (h3 : hi - lo ≤ r)
    (h : ∀ ex, K (.v (.tup [.str (S (List.replicate (kk lo hi).toNat 32)), .str (S (str (hi - kk lo hi) hi r))])) (base X (str lo (mn (if cu = hi then hi - (((hi - lo).toNat / 2 : Nat) : Int) else cu) (hi - kk lo hi)) r).reverse (str (mn (if cu = hi then hi - (((hi - lo).toNat / 2 : Nat) : Int) else cu) (hi - kk lo hi)) (hi - kk lo hi) r) Sp ++ E ++ ex)) :
    TC P 3 (.ref 182) [.o 6, .o 4, .v (.int (hi - cu)), .v (.str (S (str lo hi r).reverse))] (base X (str lo cu r).reverse (str cu hi r) Sp ++ E) K := by
  have hT : base X (str lo cu r).reverse (str cu hi r) Sp ++ E = two (base X [] [] Sp ++ E) 6 5 4 3 (str cu hi r) (str lo cu r).reverse := rfl
  have hU : ∀ F B ex, two (base X [] [] Sp ++ E) 6 5 4 3 B F ++ ex = base X F B Sp ++ E ++ ex := fun _ _ _ => rfl
  have h34 : ∀ c ∈ (str lo hi r).reverse, c ≠ 34 := fun c hc => str_34 (by omega) (by omega) c (List.mem_reverse.mp hc)
  by_cases hc : cu = hi
  · subst hc
    rw [if_pos rfl] at h
    rw [hT, Int.sub_self, str_nil r (Int.le_refl cu)]
    refine taken_far_tc O twoBF (ks := 1) rfl (by decide) (by decide) (by rw [List.length_reverse, str_len]; omega) h34 (fun e ex => ?_) (fun c e ex => ?_) (fun c l e e0 ex => ?_)
    · have q : cu = lo := by
        have := congrArg List.length e
        rw [List.length_reverse, str_len] at this
        simp at this; omega
      subst q
      have e := h ex
      rw [show kk cu cu = 0 by unfold kk; rw [if_neg (by omega)], show ((cu - cu).toNat / 2 : Nat) = 0 by rw [Int.sub_self]; rfl, show mn (cu - ((0 : Nat) : Int)) (cu - 0) = cu by unfold mn; split <;> omega, show cu - 0 = cu by omega, str_nil r (Int.le_refl cu)] at e
      rw [hU]; exact e
    · have q : cu = lo + 1 := by
        have := congrArg List.length e
        rw [List.length_reverse, str_len] at this
        simp at this; omega
      subst q
      rw [str_one] at e
      cases e
      have e := h ex
      rw [show kk lo (lo + 1) = 1 by unfold kk; rw [if_pos (by omega)], show ((lo + 1 - lo).toNat / 2 : Nat) = 0 by rw [show (lo + 1 - lo).toNat = 1 by omega], show lo + 1 - 1 = lo by omega, show mn (lo + 1 - ((0 : Nat) : Int)) lo = lo by unfold mn; split <;> omega, str_nil r (Int.le_refl lo), str_one] at e
      rw [hU]; exact e
    · have q : lo + 1 < cu := by
        have := congrArg List.length e
        rw [List.length_reverse, str_len, List.length_cons] at this
        omega
      rw [str_snoc r (show lo < cu by omega), List.reverse_append] at e
      cases e
      have e := h ex
      have o1 := str_one (cu - 1) r
      rw [show cu - 1 + 1 = cu by omega] at o1
      rw [show kk lo cu = 1 by unfold kk; rw [if_pos (by omega)], show mn (cu - (((cu - lo).toNat / 2 : Nat) : Int)) (cu - 1) = cu - (((cu - lo).toNat / 2 : Nat) : Int) by unfold mn; split <;> omega, o1] at e
      rw [hU, List.drop_reverse, List.length_reverse, str_len, str_take r _ (by omega)]
      have o2 : (([] : List Nat).append (str lo (cu - 1) r).reverse).take ((cu - lo).toNat / 2 - 1) = (str (cu - (((cu - lo).toNat / 2 : Nat) : Int)) (cu - 1) r).reverse := by
        show ((str lo (cu - 1) r).reverse).take _ = _
        rw [List.take_reverse, str_len, str_drop r _ (by omega)]
        congr 2; omega
      rw [o2, List.reverse_reverse, show lo + (((cu - lo).toNat - (cu - lo).toNat / 2 : Nat) : Int) = cu - (((cu - lo).toNat / 2 : Nat) : Int) by omega]
      exact e
  · rw [if_neg hc] at h
    have e := h []
    have o1 := str_one (hi - 1) r
    rw [show hi - 1 + 1 = hi by omega] at o1
    rw [show kk lo hi = 1 by unfold kk; rw [if_pos (by omega)], show mn cu (hi - 1) = cu by unfold mn; split <;> omega, o1, List.append_nil] at e
    refine taken_near_tc O (dn := 5) (c := ch r (hi - 1)) (ln := str cu (hi - 1) r) (by rw [str_snoc r (show cu < hi by omega)]; rfl) rfl (by rw [List.length_reverse, str_len]; omega) (by rw [str_len]; omega) (by omega) ?_
    rw [base_setB]
    exact e
set_option maxHeartbeats 4000000 in
theorem step3 {P : PE} (O : Ok P) {t r x i : Nat} {lo cu hi : Int} {X : List PV} {Sp : List (Int × Int)} {E : List AO} {Kf : Fl → VC.Loc → List AO → Prop} (hr : 3 ≤ r) (hr2 : r ≤ 5) (h1 : lo ≤ cu) (h2 : cu ≤ hi) (h3 : hi - lo ≤ r) (b1 : -5000 ≤ lo) (b2 : hi ≤ 5000) (hx : x % 4 = 3)
    (h : ∀ (lo' cu' hi' : Int) (tl : VC.Loc) (ex : List AO), lo' ≤ cu' → cu' ≤ hi' → hi' - lo' ≤ r → lo - 1 ≤ lo' → hi' ≤ hi + 1 →
      Kf .next (locL P.sl t r lo' cu' hi' x i ++ tl) (base X (str lo' cu' r).reverse (str cu' hi' r) Sp ++ E ++ ex)) :
    TXs P (lawFE P.w.params) 10 (innB P.w.params) (locL P.sl t r lo cu hi x i) (base X (str lo cu r).reverse (str cu hi r) Sp ++ E) Kf := by
  have hK := O.hK
  have hx4 : (x : Int).fmod 4 = 3 := by have := fmodN x 4; rw [hx] at this; exact this
  refine TXs_cons ?_
  repeat k_call_by "vc" 0
  refine ⟨fun q => absurd q (by rw [hx4]; decide), fun _ => ⟨fun q => absurd q (by decide), fun _ => ?_⟩⟩
  repeat k_call_by "vc" 0
  refine ⟨fun q => absurd q (by rw [hx4]; decide), fun _ => ⟨fun q => absurd q (by decide), fun _ => ?_⟩⟩
  repeat k_call_by "vc" 0
  refine ⟨fun q => absurd q (by rw [hx4]; decide), fun _ => ?_⟩
  repeat k_call_by "vc" 0
  refine ⟨fun _ => ?_, fun q => absurd q (by rw [hx4]; decide)⟩
  repeat k_call_by "vc" 0
  refine TE_CallFn (n' := 1) (f := 156) rfl (by k_call_by "vc some" 0) (by k_call_by "vc keep" 0) (by omega) (by decide) (fun _ => rfl) (fun _ => rfl) ?_
  repeat k_call_by "vc" 0
  refine stretch_tc O (by omega) (by omega) (by omega) (by omega) (by omega) (by omega) fun ex => ?_
  repeat ((fail_if_success with_reducible refine Then_next ?_); k_call_by "vc" 0)
  refine Then_next ?_
  refine TXs_cons ?_
  repeat k_call_by "vc" 0
  have hll : (str lo hi r).length ≤ 10 := by rw [str_len]; omega
  refine TE_CallFn (n' := 3) (f := 182) rfl (by k_call_by "vc some" 0) (by k_call_by "vc keep" 0) (by omega) (by decide) (fun _ => rfl) (fun _ => rfl) ?_
  repeat k_call_by "vc" 0
  rw [List.append_assoc]
  refine taken_back O hr hr2 h1 h2 h3 fun E2 => ?_
  rw [List.append_assoc, List.append_assoc]
  generalize ex ++ E2 = E3
  generalize hE' : E ++ E3 = E'
  have hk1 := kk_01 lo hi
  have hk := kk_len2 r (a := lo) (b := hi)
  have hk2 : (str (hi - kk lo hi) hi r).length ≤ 10 := by rw [hk]; omega
  clear hll
  repeat k_call_by "vc" 0
  refine ⟨_, _, _, rfl, rfl, rfl, TSl_S (by rw [str_len]; omega) (fun _ _ => ⟨_, rfl⟩) (by rw [show (-1 : Int) = -((1 : Nat) : Int) from rfl, sl_from_neg _ _ (by decide), str_last r (by omega)]) ?_⟩
  repeat k_call_by "vc" 0
  refine ⟨_, _, _, rfl, rfl, rfl, TSl_S (by rw [str_len]; omega) (fun _ _ => ⟨_, rfl⟩) (by rw [show (-1 : Int) = -((1 : Nat) : Int) from rfl, sl_from_neg _ _ (by decide), str_last r (by omega)]) ?_⟩
  repeat k_call_by "vc" 0
  rw [hk, Int.toNat_natCast, rep_one]
  refine T2_net (xs := [S (List.replicate (kk lo hi).toNat 32), S (str (hi - kk lo hi) hi r)]) (ys := [S (List.replicate (kk lo hi).toNat 32), S (str (hi - kk lo hi) hi r)]) (shaped2 _ _ (rep_128 _) (str_128 (by omega) (by omega))) (shaped2 _ _ (rep_128 _) (str_128 (by omega) (by omega))) ?_
  repeat k_call_by "vc" 0
  refine ⟨fun q => absurd q (by simp), fun _ => ?_⟩
  repeat ((fail_if_success with_reducible refine Then_next ?_); k_call_by "vc" 0)
  refine Then_next ?_
  refine TXs_cons ?_
  have el : (((str lo hi r).length : Nat) : Int).fdiv 2 = (((hi - lo).toNat / 2 : Nat) : Int) := by rw [str_len]; exact fdivN _ 2
  have hll : (str lo hi r).length ≤ 10 := by rw [str_len]; omega
  refine TX_mid (fun loc1 hp1 => hp1 = base X (str lo (mn (if cu = hi then hi - (((hi - lo).toNat / 2 : Nat) : Int) else cu) (hi - kk lo hi)) r).reverse (str (mn (if cu = hi then hi - (((hi - lo).toNat / 2 : Nat) : Int) else cu) (hi - kk lo hi)) (hi - kk lo hi) r) Sp ++ E' ∧ loc1 = locM P.sl t r lo (if cu = hi then hi - (((hi - lo).toNat / 2 : Nat) : Int) else cu) hi x i (str lo hi r)) ?_ ?rest
  · repeat k_call_by "vc" 0
    refine ⟨fun q => ?_, fun q => ?_⟩
    · have q' : cu = hi := by simpa using q
      repeat k_call_by "vc" 0
      rw [el]
      refine ⟨rfl, ?_⟩
      rw [if_pos q']
    · have q' : ¬ cu = hi := by simpa using q
      repeat k_call_by "vc" 0
      refine ⟨rfl, ?_⟩
      rw [if_neg q']
  clear hll
  rintro loc1 hp1 ⟨rfl, rfl⟩
  have hcu : ∀ z, z = (if cu = hi then hi - (((hi - lo).toNat / 2 : Nat) : Int) else cu) → lo ≤ z ∧ z ≤ hi := by
    rintro z rfl
    split <;> omega
  generalize hz : (if cu = hi then hi - (((hi - lo).toNat / 2 : Nat) : Int) else cu) = z at hcu
  have hzz := hcu z rfl
  refine Then_next ?_
  refine TXs_cons ?_
  repeat k_call_by "vc" 0
  refine ⟨_, _, _, rfl, rfl, rfl, TSl_S (by rw [str_len]; omega) (fun _ _ => ⟨_, rfl⟩) (by rw [show (-1 : Int) = -((1 : Nat) : Int) from rfl, sl_from_neg _ _ (by decide), str_last r (by omega)]) ?_⟩
  repeat ((fail_if_success with_reducible refine Then_next ?_); k_call_by "vc" 0)
  rw [hk, show (((kk lo hi).toNat : Nat) : Int) = kk lo hi by omega]
  subst hE'
  rw [← List.append_assoc]
  have g : kk lo hi = 1 ∧ lo < hi ∨ kk lo hi = 0 ∧ ¬ lo < hi := by unfold kk; split <;> omega
  have g2 : mn z (hi - kk lo hi) = z ∧ z ≤ hi - kk lo hi ∨ mn z (hi - kk lo hi) = hi - kk lo hi ∧ hi - kk lo hi < z := by unfold mn; split <;> omega
  refine Then_next ?_
  refine TXs_cons ?_
  repeat k_call_by "vc" 0
  exact h lo (mn z (hi - kk lo hi)) (hi - kk lo hi) [(Str.ofString "line", .v (.str (S (str lo hi r))))] E3 (by omega) (by omega) (by omega) (by omega) (by omega)
theorem stepL {P : PE} (O : Ok P) {t r x i : Nat} {lo cu hi : Int} {X : List PV} {Sp : List (Int × Int)} {E : List AO} {Kf : Fl → VC.Loc → List AO → Prop} (hr : 3 ≤ r) (hr2 : r ≤ 5) (h1 : lo ≤ cu) (h2 : cu ≤ hi) (h3 : hi - lo ≤ r) (b1 : -5000 ≤ lo) (b2 : hi ≤ 5000)
    (h : ∀ (lo' cu' hi' : Int) (tl : VC.Loc) (ex : List AO), lo' ≤ cu' → cu' ≤ hi' → hi' - lo' ≤ r → lo - 1 ≤ lo' → hi' ≤ hi + 1 →
      Kf .next (locL P.sl t r lo' cu' hi' x i ++ tl) (base X (str lo' cu' r).reverse (str cu' hi' r) Sp ++ E ++ ex)) :
    TXs P (lawFE P.w.params) 10 (innB P.w.params) (locL P.sl t r lo cu hi x i) (base X (str lo cu r).reverse (str cu hi r) Sp ++ E) Kf := by
  rcases (show x % 4 = 0 ∨ x % 4 = 1 ∨ x % 4 = 2 ∨ x % 4 = 3 by omega) with q | q | q | q
  · exact step0 O hr hr2 h1 h2 h3 b1 b2 q h
  · exact step1 O hr hr2 h1 h2 h3 b1 b2 q h
  · exact step2 O hr hr2 h1 h2 h3 b1 b2 q h
  · exact step3 O hr hr2 h1 h2 h3 b1 b2 q h
end Mine2
open PySem PySem.W PyProof.Rows PySem.Builtin VC
namespace Mine2
theorem stepL' {P : PE} (O : Ok P) {body : List Stmt} (hb : body = innB P.w.params) {t r x i : Nat} {lo cu hi : Int} {X : List PV} {Sp : List (Int × Int)} {E : List AO} {Kf : Fl → VC.Loc → List AO → Prop} (hr : 3 ≤ r) (hr2 : r ≤ 5) (h1 : lo ≤ cu) (h2 : cu ≤ hi) (h3 : hi - lo ≤ r) (b1 : -5000 ≤ lo) (b2 : hi ≤ 5000)
    (h : ∀ (lo' cu' hi' : Int) (tl : VC.Loc) (ex : List AO), lo' ≤ cu' → cu' ≤ hi' → hi' - lo' ≤ r → lo - 1 ≤ lo' → hi' ≤ hi + 1 →
      Kf .next (locL P.sl t r lo' cu' hi' x i ++ tl) (base X (str lo' cu' r).reverse (str cu' hi' r) Sp ++ E ++ ex)) :
    TXs P (lawFE P.w.params) 10 body (locL P.sl t r lo cu hi x i) (base X (str lo cu r).reverse (str cu hi r) Sp ++ E) Kf := by
  subst hb
  exact stepL O hr hr2 h1 h2 h3 b1 b2 h
theorem base_len {X : List PV} {F B : List Nat} {Sp : List (Int × Int)} {E : List AO} : (base X F B Sp ++ E).length = 8 + E.length := by rw [List.length_append]; rfl
theorem base_setS {X : List PV} {F B : List Nat} {Sp : List (Int × Int)} {p : Int × Int} {E : List AO} : (base X F B Sp ++ E).set 7 (.lsd (Sp.map sp ++ [sp p])) = base X F B (Sp ++ [p]) ++ E := by
  have e : (Sp ++ [p]).map sp = Sp.map sp ++ [sp p] := List.map_append
  unfold base
  rw [e]; rfl
/-- the names of the law in its outer loop -/
noncomputable abbrev locX (sl : Addr) (t r : Nat) (lo cu hi : Int) (x : Nat) : VC.Loc := [(Str.ofString "script", .v (.ref sl)), (Str.ofString "total", .v (.int (t : Int))), (Str.ofString "ring", .v (.int (r : Int))), (Str.ofString "low", .v (.int lo)), (Str.ofString "cut", .v (.int cu)), (Str.ofString "high", .v (.int hi)), (Str.ofString "front", .o 4), (Str.ofString "back", .o 6), (Str.ofString "spans", .o 7), (Str.ofString "x", .v (.int (x : Int)))]
set_option maxHeartbeats 4000000 in
theorem turnL {P : PE} (O : Ok P) {t r x : Nat} {lo cu hi : Int} {X : List PV} {Sp : List (Int × Int)} {E : List AO} {Kf : Fl → VC.Loc → List AO → Prop} (hr : 3 ≤ r) (hr2 : r ≤ 5) (h1 : lo ≤ cu) (h2 : cu ≤ hi) (h3 : hi - lo ≤ r) (b1 : -4000 ≤ lo) (b2 : hi ≤ 4000) (hSp : Sp.length ≤ 100)
    (h : ∀ (lo' cu' hi' : Int) (tl : VC.Loc) (ex : List AO), lo' ≤ cu' → cu' ≤ hi' → hi' - lo' ≤ r → lo - 3 ≤ lo' → hi' ≤ hi + 3 →
      Kf .next (locX P.sl t r lo' cu' hi' x ++ tl) (base X (str lo' cu' r).reverse (str cu' hi' r) (Sp ++ [(lo', hi')]) ++ E ++ ex)) :
    TXs P (lawFE P.w.params) 10 (forB P.w.params 0) (locX P.sl t r lo cu hi x) (base X (str lo cu r).reverse (str cu hi r) Sp ++ E) Kf := by
  have hK := O.hK
  have hm : 1 + ((x : Int).fdiv 4).fmod 3 = ((1 + x / 4 % 3 : Nat) : Int) := by
    rw [show (x : Int).fdiv 4 = ((x / 4 : Nat) : Int) from fdivN x 4, show ((x / 4 : Nat) : Int).fmod 3 = ((x / 4 % 3 : Nat) : Int) from fmodN _ 3]; omega
  have hmb : 1 + x / 4 % 3 ≤ 3 := by omega
  refine TXs_cons ?_
  k_call_by "vc range" 0
  repeat k_call_by "vc" 0
  rw [hm]
  generalize 1 + x / 4 % 3 = m at hmb
  refine RArgs1 ⟨small_one (by omega) (by omega) (by omega) (by omega), ?_⟩
  rw [rangeVs_nat]
  refine ⟨fun j loc1 hp1 => ∃ lo' cu' hi' : Int, lo' ≤ cu' ∧ cu' ≤ hi' ∧ hi' - lo' ≤ r ∧ lo - (j : Int) ≤ lo' ∧ hi' ≤ hi + (j : Int) ∧ j ≤ m ∧ loc1 = locX P.sl t r lo' cu' hi' x ∧ hp1 = base X (str lo' cu' r).reverse (str cu' hi' r) Sp ++ E, ⟨lo, cu, hi, h1, h2, h3, by omega, by omega, by omega, rfl, rfl⟩, ?step, ?done⟩
  case step =>
    rintro j v loc1 hp1 hv ⟨lo', cu', hi', g1, g2, g3, g4, g5, g6, rfl, rfl⟩
    obtain ⟨hj, rfl⟩ := rangeVs_get hv
    k_call_by "vc" 0
    k_call_by "vc" 0
    refine stepL' O (by kernel_rfl) hr hr2 g1 g2 g3 (by omega) (by omega) fun lo2 cu2 hi2 tl ex k1 k2 k3 k4 k5 => ?_
    have hbl := base_len (X := X) (F := (str lo2 cu2 r).reverse) (B := str cu2 hi2 r) (Sp := Sp) (E := E)
    refine Turn_next (Sub_take (loc3 := locX P.sl t r lo2 cu2 hi2 x) (hp3 := base X (str lo2 cu2 r).reverse (str cu2 hi2 r) Sp ++ E) (by simp [base]) (by rw [List.take_left' rfl]) (by k_call_by "vc sub" 0) nofun) ⟨lo2, cu2, hi2, k1, k2, k3, by omega, by omega, hj, rfl, rfl⟩
  case done =>
    rintro loc1 hp1 ⟨lo', cu', hi', g1, g2, g3, g4, g5, g6, rfl, rfl⟩
    rw [List.length_map, List.length_range] at g4 g5
    refine Then_next ?_
    refine TXs_cons ?_
    repeat k_call_by "vc" 0
    refine TE_CallFn (n' := 3) (f := 175) rfl (by k_call_by "vc some" 0) (by k_call_by "vc keep" 0) (by omega) (by decide) (fun _ => rfl) (fun _ => rfl) ?_
    repeat k_call_by "vc" 0
    refine TE_CallFn (n' := 1) (f := 156) rfl (by k_call_by "vc some" 0) (by k_call_by "vc keep" 0) (by omega) (by decide) (fun _ => rfl) (fun _ => rfl) ?_
    repeat k_call_by "vc" 0
    refine stretch_tc O (by omega) (by omega) (by omega) (by omega) (by omega) (by omega) fun ex => ?_
    have hll : (str lo' cu' r).length ≤ 10 := by rw [str_len]; omega
    have hl2 : (str cu' hi' r).length ≤ 10 := by rw [str_len]; omega
    repeat k_call_by "vc" 0
    refine lies_tc O (k := 4) (d := 3) (kt := 0) (ks := 1) (l := (str lo' cu' r).reverse) rfl rfl rfl rfl (by rw [List.length_reverse]; omega) fun ex2 => ?_
    rw [List.append_assoc, List.append_assoc]
    generalize ex ++ ex2 = ex
    repeat k_call_by "vc" 0
    refine ⟨fun q => absurd q (by decide), fun _ => ?_⟩
    repeat k_call_by "vc" 0
    refine TE_CallFn (n' := 3) (f := 175) rfl (by k_call_by "vc some" 0) (by k_call_by "vc keep" 0) (by omega) (by decide) (fun _ => rfl) (fun _ => rfl) ?_
    repeat k_call_by "vc" 0
    refine TE_CallFn (n' := 1) (f := 156) rfl (by k_call_by "vc some" 0) (by k_call_by "vc keep" 0) (by omega) (by decide) (fun _ => rfl) (fun _ => rfl) ?_
    repeat k_call_by "vc" 0
    refine stretch_tc O (by omega) (by omega) (by omega) (by omega) (by omega) (by omega) fun ex3 => ?_
    repeat k_call_by "vc" 0
    refine lies_tc O (k := 6) (d := 5) (kt := 0) (ks := 1) (l := str cu' hi' r) rfl rfl rfl rfl (by omega) fun ex4 => ?_
    rw [List.append_assoc, List.append_assoc, List.append_assoc]
    generalize ex ++ (ex3 ++ ex4) = ex
    repeat k_call_by "vc" 0
    refine ⟨fun q => absurd q (by decide), fun _ => ?_⟩
    repeat k_call_by "vc" 0
    refine TX_Expr (fun _ => rfl) (fun _ => rfl) ?_
    refine TE_AppendL (fun _ => rfl) (fun _ => rfl) (by rfl) (fun _ => rfl) ?_
    repeat k_call_by "vc" 0
    refine ⟨7, Sp.map sp, rfl, rfl, ?_⟩
    repeat k_call_by "vc" 0
    refine ⟨Sp.map sp, sp (lo', hi'), rfl, rfl, by rw [List.length_map]; omega, ?_⟩
    rw [base_setS, ← List.append_assoc]
    repeat k_call_by "vc" 0
    have e := h lo' cu' hi' [] ex g1 g2 g3 (by omega) (by omega)
    rw [List.append_nil] at e
    exact e
end Mine2
open PySem PySem.W PyProof.Rows PySem.Builtin VC
namespace Mine2
/-! the plain law: how far two stretches are apart -/
/-- the cost of two places of the ring with a twist -/
noncomputable def cR (r i j : Nat) : Int := if i = j then 0 else if i % r = j % r then 1 else 2
noncomputable def turned (r e n : Nat) : List Nat := (List.range n).map fun j => (e + j) % (2 * r)
noncomputable def okAt (r m n e : Nat) : Bool := (List.range 2).all fun t => lev (cR r) (List.range m) (turned r e n) (way 0 m e (e + n : Nat) r - (t : Nat)) == way 0 m e (e + n : Nat) r
noncomputable def okRing (r : Nat) : Bool := (List.range (r + 1)).all fun m => (List.range (r + 1)).all fun n => (List.range (2 * r)).all fun e => okAt r m n e
theorem ok3 : okRing 3 = true := by decide +kernel
theorem ok4 : okRing 4 = true := by decide +kernel
theorem ok5 : okRing 5 = true := by decide +kernel
theorem ok_of {r m n e t : Nat} (hr : 3 ≤ r) (hr2 : r ≤ 5) (hm : m ≤ r) (hn : n ≤ r) (he : e < 2 * r) (ht : t < 2) :
    lev (cR r) (List.range m) (turned r e n) (way 0 m e (e + n : Nat) r - (t : Nat)) = way 0 m e (e + n : Nat) r := by
  have h : okRing r = true := by
    rcases (show r = 3 ∨ r = 4 ∨ r = 5 by omega) with rfl | rfl | rfl
    · exact ok3
    · exact ok4
    · exact ok5
  have h1 := List.all_eq_true.mp h m (List.mem_range.mpr (by omega))
  have h2 := List.all_eq_true.mp h1 n (List.mem_range.mpr (by omega))
  have h3 := List.all_eq_true.mp h2 e (List.mem_range.mpr he)
  have h4 := List.all_eq_true.mp h3 t (List.mem_range.mpr ht)
  exact beq_iff_eq.mp h4
/-! the letters come again after two rounds -/
theorem ch_turn {r : Nat} (h0 : 0 < r) (p k : Int) : ch r (p + 2 * r * k) = ch r p := by
  unfold ch
  have hr : (r : Int) ≠ 0 := by omega
  have e0 : p + 2 * r * k = p + 2 * k * r := by rw [Int.mul_assoc, Int.mul_assoc, Int.mul_comm (r : Int) k]
  have e1 : (p + 2 * r * k).fdiv r = p.fdiv r + 2 * k := by rw [e0]; exact Int.add_mul_fdiv_right _ _ hr
  have e2 : (p + 2 * r * k).fmod r = p.fmod r := by rw [e0]; exact Int.add_mul_fmod_self_right _ _ _
  have e3 : (p.fdiv r + 2 * k).fmod 2 = (p.fdiv r).fmod 2 := Int.add_mul_fmod_self_left _ _ _
  rw [e1, e2, e3]
noncomputable def chOk (r a i j : Nat) : Bool := decide (ch r (a + i : Nat) < 128) && ((ch r (a + i : Nat) == ch r (a + j : Nat)) == (i == j)) && (cA (ch r (a + i : Nat)) (ch r (a + j : Nat)) == cR r i j)
noncomputable def chRing (r : Nat) : Bool := (List.range (2 * r)).all fun a => (List.range (2 * r)).all fun i => (List.range (2 * r)).all fun j => chOk r a i j
theorem chOk3 : chRing 3 = true := by decide +kernel
theorem chOk4 : chRing 4 = true := by decide +kernel
theorem chOk5 : chRing 5 = true := by decide +kernel
theorem same_ring {r : Nat} (hr : 3 ≤ r) (hr2 : r ≤ 5) (a : Int) : Same (fun i : Nat => ch r (a + i)) (cR r) cst (List.range (2 * r)) := by
  have h : chRing r = true := by
    rcases (show r = 3 ∨ r = 4 ∨ r = 5 by omega) with rfl | rfl | rfl
    · exact chOk3
    · exact chOk4
    · exact chOk5
  obtain ⟨g1, g2⟩ := fmod_pos a (r := 2 * r) (by omega)
  obtain ⟨a', ha'⟩ : ∃ a' : Nat, a.fmod ((2 * r : Nat) : Int) = a' := ⟨_, (Int.toNat_of_nonneg g1).symm⟩
  have ea : a = a' + 2 * r * a.fdiv ((2 * r : Nat) : Int) := by
    have := Int.fmod_add_mul_fdiv a ((2 * r : Nat) : Int)
    rw [ha'] at this
    push_cast at this ⊢
    omega
  have e : ∀ i : Nat, ch r (a + i) = ch r ((a' + i : Nat) : Int) := fun i => by
    rw [← ch_turn (by omega) ((a' + i : Nat) : Int) (a.fdiv ((2 * r : Nat) : Int))]
    congr 1
    push_cast at ea ⊢
    omega
  have key : ∀ i ∈ List.range (2 * r), ∀ j ∈ List.range (2 * r), chOk r a' i j = true := fun i hi j hj =>
    List.all_eq_true.mp (List.all_eq_true.mp (List.all_eq_true.mp h a' (List.mem_range.mpr (by omega))) i hi) j hj
  refine ⟨fun i hi j hj => ?_, fun i hi j hj => ?_⟩
  · have k := key i hi j hj
    unfold chOk at k
    simp only [Bool.and_eq_true, decide_eq_true_eq] at k
    have k2 := beq_iff_eq.mp k.1.2
    show ch r (a + i) = ch r (a + j) ↔ _
    rw [e i, e j]
    constructor
    · intro q
      rw [beq_iff_eq.mpr q] at k2
      exact beq_iff_eq.mp k2.symm
    · intro q
      rw [beq_iff_eq.mpr q] at k2
      exact beq_iff_eq.mp k2
  · have k := key i hi j hj
    have k' := key j hj i hi
    unfold chOk at k k'
    simp only [Bool.and_eq_true, decide_eq_true_eq] at k k'
    show cst (ch r (a + i)) (ch r (a + j)) = _
    rw [e i, e j, cst_cA k.1.1 k'.1.1]
    exact beq_iff_eq.mp k.2
theorem mn_add (x y s : Int) : mn (x + s) (y + s) = mn x y + s := by unfold mn; split <;> split <;> omega
theorem mx_add (x y s : Int) : mx (x + s) (y + s) = mx x y + s := by unfold mx; split <;> split <;> omega
theorem wayS_shift {a b c d r best lap a' b' c' d' lap' s : Int} (ha : a = a' + s) (hb : b = b' + s) (hc : c + lap * r = c' + lap' * r + s) (hd : d + lap * r = d' + lap' * r + s) (hl : lap.fmod 2 = lap'.fmod 2) : wayS a b c d r best lap = wayS a' b' c' d' r best lap' := by
  unfold wayS
  rw [hc, hd, hl, ha, hb, mn_add, mx_add]
  rw [show mn b' (d' + lap' * r) + s - (mx a' (c' + lap' * r) + s) = mn b' (d' + lap' * r) - mx a' (c' + lap' * r) by omega, show a' + s - (c' + lap' * r + s) = a' - (c' + lap' * r) by omega, show b' + s - (d' + lap' * r + s) = b' - (d' + lap' * r) by omega]
theorem way_turn {r m n e : Nat} (hr : 0 < r) (a k : Int) : way a (a + m) (a + e + 2 * r * k) (a + e + 2 * r * k + n) r = way 0 m e (e + n : Nat) r := by
  have hr' : (r : Int) ≠ 0 := by omega
  have e0 : (2 : Int) * r * k = 2 * k * r := by rw [Int.mul_assoc, Int.mul_assoc, Int.mul_comm (r : Int) k]
  have e1 : (a - (a + e + 2 * r * k)).fdiv r = (0 - (e : Int)).fdiv r + -(2 * k) := by
    rw [show a - (a + e + 2 * r * k) = 0 - (e : Int) + -(2 * k) * r by rw [e0, Int.neg_mul]; omega]
    exact Int.add_mul_fdiv_right _ _ hr'
  unfold way
  rw [e1]
  generalize (0 - (e : Int)).fdiv r = l
  have e2 : a + m - a = (m : Int) - 0 := by omega
  have e3 : a + e + 2 * r * k + n - (a + e + 2 * r * k) = ((e + n : Nat) : Int) - e := by push_cast; omega
  rw [e2, e3]
  have hs : ∀ best l, wayS a (a + m) (a + e + 2 * r * k) (a + e + 2 * r * k + n) r best (l + -(2 * k)) = wayS 0 m e (e + n : Nat) r best l := fun best l => by
    refine wayS_shift (s := a) (by omega) (by omega) ?_ ?_ ?_
    · rw [Int.add_mul, e0, Int.neg_mul]; omega
    · rw [Int.add_mul, e0, Int.neg_mul]; push_cast; omega
    · rw [show -(2 * k) = 2 * (-k) by omega]; exact Int.add_mul_fmod_self_left _ _ _
  rw [show l + -(2 * k) + 1 = (l + 1) + -(2 * k) by omega, hs, hs]
/-- the law of the last loop, but for the walk -/
theorem lev_way {r t : Nat} {a b c d : Int} (hr : 3 ≤ r) (hr2 : r ≤ 5) (h1 : a ≤ b) (h2 : b - a ≤ r) (h3 : c ≤ d) (h4 : d - c ≤ r) (ht : t < 2) : lev cst (str a b r) (str c d r) (way a b c d r - (t : Nat)) = way a b c d r := by
  obtain ⟨m, rfl⟩ : ∃ m : Nat, b = a + m := ⟨(b - a).toNat, by omega⟩
  obtain ⟨n, rfl⟩ : ∃ n : Nat, d = c + n := ⟨(d - c).toNat, by omega⟩
  obtain ⟨g1, g2⟩ := fmod_pos (c - a) (r := 2 * r) (by omega)
  obtain ⟨e, he⟩ : ∃ e : Nat, (c - a).fmod ((2 * r : Nat) : Int) = e := ⟨_, (Int.toNat_of_nonneg g1).symm⟩
  obtain ⟨k, ec⟩ : ∃ k : Int, c = a + e + 2 * r * k := by
    refine ⟨(c - a).fdiv ((2 * r : Nat) : Int), ?_⟩
    have := Int.fmod_add_mul_fdiv (c - a) ((2 * r : Nat) : Int)
    rw [he] at this
    push_cast at this ⊢
    omega
  subst ec
  rw [way_turn (by omega)]
  have s1 : str a (a + m) r = (List.range m).map fun i : Nat => ch r (a + i) := by
    unfold str span
    rw [List.map_map, show (a + (m : Int) - a).toNat = m by omega]; rfl
  have s2 : str (a + e + 2 * r * k) (a + e + 2 * r * k + n) r = (turned r e n).map fun i : Nat => ch r (a + i) := by
    unfold str span turned
    rw [List.map_map, List.map_map, show (a + e + 2 * r * k + n - (a + e + 2 * r * k)).toNat = n by omega]
    apply List.map_congr_left
    intro j _
    show ch r (a + e + 2 * r * k + j) = ch r (a + ((e + j) % (2 * r) : Nat))
    have q := Nat.div_add_mod (e + j) (2 * r)
    have q' : ((2 * r * ((e + j) / (2 * r)) + (e + j) % (2 * r) : Nat) : Int) = ((e + j : Nat) : Int) := by rw [q]
    push_cast at q'
    rw [← ch_turn (by omega) (a + ((e + j) % (2 * r) : Nat)) (k + (((e + j) / (2 * r) : Nat) : Int))]
    congr 1
    rw [Int.mul_add]
    push_cast
    omega
  rw [s1, s2, lev_map (same_ring hr hr2 a) (fun x hx => ?_) (fun x hx => ?_)]
  · exact ok_of hr hr2 (by omega) (by omega) (by omega) ht
  · exact List.mem_range.mpr (by have := List.mem_range.mp hx; omega)
  · obtain ⟨j, _, rfl⟩ := List.mem_map.mp hx
    exact List.mem_range.mpr (Nat.mod_lt _ (by omega))
noncomputable def pairOk (r : Nat) : Bool := (List.range 2).all fun t => lev (cR r) [0, 1] [1, 0] (4 - (t : Nat)) == 4
theorem pairOk_all : ∀ r ∈ [3, 4, 5], pairOk r = true := by decide +kernel
/-- two neighbours that change places -/
theorem lev_pair {r t : Nat} {a : Int} (hr : 3 ≤ r) (hr2 : r ≤ 5) (ht : t < 2) : lev cst (str a (a + 2) r) (str a (a + 2) r).reverse (4 - (t : Nat)) = 4 := by
  have s1 : str a (a + 2) r = [0, 1].map fun i : Nat => ch r (a + i) := by
    unfold str span
    rw [List.map_map, show (a + 2 - a).toNat = 2 by omega]; rfl
  have s2 : (str a (a + 2) r).reverse = [1, 0].map fun i : Nat => ch r (a + i) := by rw [s1]; rfl
  rw [s2, s1, lev_map (same_ring hr hr2 a) (fun x hx => ?_) (fun x hx => ?_)]
  · have h := pairOk_all r (by simp only [List.mem_cons, List.not_mem_nil, or_false]; omega)
    exact beq_iff_eq.mp (List.all_eq_true.mp h t (List.mem_range.mpr ht))
  · simp only [List.mem_cons, List.not_mem_nil, or_false] at hx
    exact List.mem_range.mpr (by omega)
  · simp only [List.mem_cons, List.not_mem_nil, or_false] at hx
    exact List.mem_range.mpr (by omega)
end Mine2
open PySem PySem.W PyProof.Rows PySem.Builtin VC
namespace Mine2
theorem fsi_bin {a b : PySem.Expr} {op : Operator} {p : Pos} {env : Env} {x : Value} : foldedSetIterable (.BinOp a op b p) env x = pure x := rfl
theorem turnL' {P : PE} (O : Ok P) {body : List Stmt} (hb : body = forB P.w.params 0) {t r x : Nat} {lo cu hi : Int} {X : List PV} {Sp : List (Int × Int)} {E : List AO} {Kf : Fl → VC.Loc → List AO → Prop} (hr : 3 ≤ r) (hr2 : r ≤ 5) (h1 : lo ≤ cu) (h2 : cu ≤ hi) (h3 : hi - lo ≤ r) (b1 : -4000 ≤ lo) (b2 : hi ≤ 4000) (hSp : Sp.length ≤ 100)
    (h : ∀ (lo' cu' hi' : Int) (tl : VC.Loc) (ex : List AO), lo' ≤ cu' → cu' ≤ hi' → hi' - lo' ≤ r → lo - 3 ≤ lo' → hi' ≤ hi + 3 →
      Kf .next (locX P.sl t r lo' cu' hi' x ++ tl) (base X (str lo' cu' r).reverse (str cu' hi' r) (Sp ++ [(lo', hi')]) ++ E ++ ex)) :
    TXs P (lawFE P.w.params) 10 body (locX P.sl t r lo cu hi x) (base X (str lo cu r).reverse (str cu hi r) Sp ++ E) Kf := by
  subst hb
  exact turnL O hr hr2 h1 h2 h3 b1 b2 hSp h
/-- the names of the law outside its loops -/
noncomputable abbrev loc9 (sl : Addr) (t r : Nat) (lo cu hi : Int) : VC.Loc := [(Str.ofString "script", .v (.ref sl)), (Str.ofString "total", .v (.int (t : Int))), (Str.ofString "ring", .v (.int (r : Int))), (Str.ofString "low", .v (.int lo)), (Str.ofString "cut", .v (.int cu)), (Str.ofString "high", .v (.int hi)), (Str.ofString "front", .o 4), (Str.ofString "back", .o 6), (Str.ofString "spans", .o 7)]
/-- the spans that the law keeps -/
noncomputable def SpOk (r : Nat) (Sp : List (Int × Int)) : Prop := ∀ q ∈ Sp, q.1 ≤ q.2 ∧ q.2 - q.1 ≤ r ∧ -4000 ≤ q.1 ∧ q.2 ≤ 4000
noncomputable def xs0 : List Int := [9, 6, 9, 10, 9, 8, 11, 7, 2, 4, 0, 7, 5]
theorem xs_nat (ks : List Int) : ∀ y ∈ xs0 ++ ks.map (fun x => x.fmod 1000003), ∃ x : Nat, y = x := by
  intro y hy
  have : 0 ≤ y := by
    rcases List.mem_append.mp hy with h | h
    · exact (by decide : ∀ z ∈ xs0, 0 ≤ z) y h
    · obtain ⟨z, _, rfl⟩ := List.mem_map.mp h
      exact Int.fmod_nonneg_of_pos _ (by decide)
  exact ⟨y.toNat, (Int.toNat_of_nonneg this).symm⟩
set_option maxHeartbeats 400000 in
theorem lawB' {P : PE} (O : Ok P) (hsn : P.sn.length ≤ 63) {t r : Nat} {lo0 : Nat} {X : List PV} {Kf : Fl → VC.Loc → List AO → Prop} (hr : 3 ≤ r) (hr2 : r ≤ 5) (hlo : lo0 < 12)
    (h : ∀ (lo cu hi : Int) (F B : List Nat) (Sp : List (Int × Int)) (E : List AO), SpOk r Sp → Sp.length ≤ 100 → -4000 ≤ lo → lo ≤ 4000 → ∀ rest, rest = lawB P.w.params 9 →
      TXs P (lawFE P.w.params) 10 rest (loc9 P.sl t r lo cu hi) (base X F B Sp ++ E) Kf) :
    TXs P (lawFE P.w.params) 10 (lawB P.w.params 8) (loc9 P.sl t r lo0 lo0 lo0) (base X [] [] []) Kf := by
  have hK := O.hK
  refine TXs_cons ?_
  refine TX_For_list ?s1 ?s2 ?_
  case s2 => nofun
  case s1 => exact fun _ _ => fsi_bin
  repeat k_call_by "vc" 0
  refine ⟨xs0.map .int, rfl, by decide, ?_⟩
  repeat k_call_by "vc" 0
  refine TE_ListComp none modP (fun y q e => by cases e) ?clos (by decide) rfl (by decide) rfl (fun _ _ => rfl) ?_
  case clos => intro X hX; rfl
  refine TIt_list ?_
  repeat k_call_by "vc" 0
  refine ⟨_, _, _, rfl, rfl, rfl, TSl_script (by decide) (fun _ _ => ⟨_, rfl⟩) (by omega) fun ks hks => ?_⟩
  refine ⟨_, _, rfl, List.getElem?_concat_length .., by rw [List.length_map]; exact szl (by omega), ?_, trivial, ?_, ?_⟩
  · intro p hp
    obtain ⟨i, _, rfl⟩ := List.mem_map.mp hp
    trivial
  · intro X C p hp
    obtain ⟨i, _, rfl⟩ := List.mem_map.mp hp
    exact TQ_bin (TQ_local (by rfl) rfl rfl (by decide)) TQ_int (TQ2_mod (by decide))
  rw [modP_map]
  have hxs := xs_nat ks
  have hml : (ks.map fun x => x.fmod 1000003).length ≤ 63 := by rw [List.length_map]; omega
  generalize (ks.map fun x => x.fmod 1000003) = ms at hxs hml
  refine T2_addl (k := 8) (j := 10) (vs := xs0.map .int) (us := ms.map .int) rfl rfl ?_ ?_
  · rw [List.length_map, List.length_map]; exact szl (by show 13 + _ ≤ _; omega)
  rw [← List.map_append]
  have hyl : (xs0 ++ ms).length ≤ 76 := by rw [List.length_append]; show 13 + _ ≤ _; omega
  generalize xs0 ++ ms = ys at hxs hyl
  refine ⟨_, _, rfl, rfl, ?hl0, ?lok, ?fi⟩
  case hl0 => exact Nat.le_add_right 8 3
  case lok =>
    have hbl : (base X [] [] [] ++ [AO.lst (xs0.map PV.int)] ++ [AO.lst (ks.map PV.int)] ++ [AO.lst (ms.map PV.int)]).length = 11 := rfl
    exact SubL.all (by k_call_by "vc sub" 0)
  refine ⟨fun j loc1 hp1 => ∃ (lo cu hi : Int) (Sp : List (Int × Int)) (E : List AO), lo ≤ cu ∧ cu ≤ hi ∧ hi - lo ≤ r ∧ (lo0 : Int) - 3 * (j : Int) ≤ lo ∧ hi ≤ lo0 + 3 * (j : Int) ∧ j ≤ ys.length ∧ SpOk r Sp ∧ Sp.length = j ∧ loc1 = loc9 P.sl t r lo cu hi ∧ hp1 = base X (str lo cu r).reverse (str cu hi r) Sp ++ E,
    ⟨lo0, lo0, lo0, [], [.lst (xs0.map .int), .lst (ks.map .int), .lst (ms.map .int)], by omega, by omega, by omega, by omega, by omega, by omega, nofun, rfl, rfl, ?hini⟩, ?step, ?done⟩
  case hini => rw [str_nil r (Int.le_refl _)]; rfl
  case step =>
    rintro j v loc1 hp1 hv ⟨lo, cu, hi, Sp, E, g1, g2, g3, g4, g5, g6, g7, g8, rfl, rfl⟩
    rw [List.getElem?_map] at hv
    obtain ⟨y, hy, rfl⟩ := Option.map_eq_some_iff.mp hv
    obtain ⟨x, rfl⟩ := hxs y (List.mem_of_getElem? hy)
    have hj := (List.getElem?_eq_some_iff.mp hy).1
    k_call_by "vc" 0
    k_call_by "vc" 0
    refine turnL' O (by kernel_rfl) hr hr2 g1 g2 g3 (by omega) (by omega) (by omega) fun lo2 cu2 hi2 tl ex k1 k2 k3 k4 k5 => ?_
    have hbl : (base X (str lo2 cu2 r).reverse (str cu2 hi2 r) (Sp ++ [(lo2, hi2)]) ++ E ++ ex).length = 8 + (E ++ ex).length := by rw [List.append_assoc, base_len]
    refine Turn_next (Sub_all (loc3 := loc9 P.sl t r lo2 cu2 hi2) (by simp [base]) (by k_call_by "vc sub" 0) nofun) ⟨lo2, cu2, hi2, Sp ++ [(lo2, hi2)], E ++ ex, k1, k2, k3, by omega, by omega, by omega, ?_, by rw [List.length_append]; show _ + 1 = _; omega, rfl, by rw [List.append_assoc]⟩
    intro q hq
    rcases List.mem_append.mp hq with h1 | h1
    · exact g7 q h1
    · rw [List.mem_singleton.mp h1]
      exact ⟨by omega, k3, by show _ ≤ lo2; omega, by show hi2 ≤ _; omega⟩
  case done =>
    rintro loc1 hp1 ⟨lo, cu, hi, Sp, E, g1, g2, g3, g4, g5, g6, g7, g8, rfl, rfl⟩
    rw [List.length_map] at g4 g5 g6 g8
    refine Then_next ?_
    with_reducible exact h lo cu hi _ _ Sp E g7 (by omega) (by omega) (by omega) _ (by kernel_rfl)
end Mine2
open PySem PySem.W PyProof.Rows PySem.Builtin VC
namespace Mine2
noncomputable def baseW (X : List PV) (F B : List Nat) (Sp : List (Int × Int)) : List AO := [.tab 81, .tab 88, .lst X, .dct (some 0), .acc 3 ((F.map pq).map pcPV), .dct (some 0), .acc 5 ((B.map pq).map pcPV), .lst (Sp.map sp)]
theorem base_weak {X : List PV} {F B : List Nat} {Sp : List (Int × Int)} {E : List AO} : (base X F B Sp ++ E).set 7 (.lst (Sp.map sp)) = baseW X F B Sp ++ E := rfl
theorem rangeVs_cut (L : Nat) : rangeVs 0 ((L : Int) - 4) 1 = rangeVs 0 ((L - 4 : Nat) : Int) 1 := by
  by_cases h : 4 ≤ L
  · rw [show (L : Int) - 4 = ((L - 4 : Nat) : Int) by omega]
  · have e1 : Builtin.Range.rangeSize 0 ((L : Int) - 4) 1 = 0 := by
      unfold Builtin.Range.rangeSize
      rw [if_pos (by decide), if_neg (by omega)]
    have e2 : Builtin.Range.rangeSize 0 ((L - 4 : Nat) : Int) 1 = 0 := by
      unfold Builtin.Range.rangeSize
      rw [if_pos (by decide), if_neg (by omega)]
    unfold rangeVs
    rw [e1, e2]
set_option maxHeartbeats 400000 in
theorem lawZ {P : PE} (O : Ok P) {t r : Nat} {lo cu hi : Int} {X : List PV} {F B : List Nat} {Sp : List (Int × Int)} {E : List AO} {K : LV → List AO → Prop} (hr : 3 ≤ r) (hr2 : r ≤ 5) (hS : SpOk r Sp) (hSl : Sp.length ≤ 100) (b1 : -4000 ≤ lo) (b2 : lo ≤ 4000)
    (h : ∀ ex, K (.v (.bool true)) (baseW X F B Sp ++ ex)) :
    TXs P (lawFE P.w.params) 10 (lawB P.w.params 9) (loc9 P.sl t r lo cu hi) (base X F B Sp ++ E) (Back K) := by
  have hK := O.hK
  refine TXs_weak (k := 7) (vs := Sp.map sp) rfl ?_
  rw [base_weak]
  refine TXs_cons ?_
  k_call_by "vc range" 0
  repeat k_call_by "vc" 0
  refine TL_len_list (vs := Sp.map sp) rfl (by rw [List.length_map]; omega) ?_
  rw [List.length_map]
  repeat k_call_by "vc" 0
  refine RArgs1 ⟨small_one (by omega) (by omega) (by omega) (by omega), ?_⟩
  rw [rangeVs_cut, rangeVs_nat]
  refine ⟨fun j loc1 hp1 => loc1 = loc9 P.sl t r lo cu hi ∧ hp1 = baseW X F B Sp ++ E, ⟨rfl, rfl⟩, ?step, ?done⟩
  case step =>
    rintro j v loc1 hp1 hv ⟨rfl, rfl⟩
    obtain ⟨hj, rfl⟩ := rangeVs_get hv
    obtain ⟨⟨a, b⟩, e1⟩ : ∃ q, Sp[j]? = some q := ⟨_, List.getElem?_eq_getElem (by omega)⟩
    obtain ⟨⟨c, d⟩, e2⟩ : ∃ q, Sp[j + 4]? = some q := ⟨_, List.getElem?_eq_getElem (by omega)⟩
    obtain ⟨k1, k2, k3, k4⟩ := hS _ (List.mem_of_getElem? e1)
    obtain ⟨m1, m2, m3, m4⟩ := hS _ (List.mem_of_getElem? e2)
    dsimp only at k1 k2 k3 k4 m1 m2 m3 m4
    have f1 : (Sp.map sp)[((j : Nat) : Int).toNat]? = some (.tup [.int a, .int b]) := by rw [Int.toNat_natCast, List.getElem?_map, e1]; rfl
    have f2 : (Sp.map sp)[((j : Int) + 4).toNat]? = some (.tup [.int c, .int d]) := by rw [show ((j : Int) + 4).toNat = j + 4 by omega, List.getElem?_map, e2]; rfl
    repeat k_call_by "vc" 0
    refine T2_item_list (fun _ _ => ⟨_, rfl⟩) (vs := Sp.map sp) rfl (by omega) (by omega) f1 ?_
    repeat k_call_by "vc" 0
    refine T2_item_list (fun _ _ => ⟨_, rfl⟩) (vs := Sp.map sp) rfl (by omega) (by omega) f2 ?_
    repeat k_call_by "vc" 0
    refine TE_CallFn (n' := 1) (f := 163) rfl (by k_call_by "vc some" 0) (by k_call_by "vc keep" 0) (by omega) (by decide) (fun _ => rfl) (fun _ => rfl) ?_
    repeat k_call_by "vc" 0
    refine way_tc O (by omega) (by omega) (by omega) (by omega) (by omega) (by omega) ?_
    have hL := lev_way (t := j % 2) hr hr2 k1 k2 m1 m2 (by omega)
    generalize way a b c d r = due at hL
    repeat ((fail_if_success with_reducible refine Then_next ?_); k_call_by "vc" 0)
    refine Then_next ?_
    refine TXs_cons ?_
    repeat k_call_by "vc" 0
    refine TE_CallFn (n' := 1) (f := 156) rfl (by k_call_by "vc some" 0) (by k_call_by "vc keep" 0) (by omega) (by decide) (fun _ => rfl) (fun _ => rfl) ?_
    repeat k_call_by "vc" 0
    refine stretch_tc O (by omega) (by omega) k1 (by omega) (by omega) (by omega) fun ex => ?_
    repeat ((fail_if_success with_reducible refine Then_next ?_); k_call_by "vc" 0)
    refine Then_next ?_
    refine TXs_cons ?_
    repeat k_call_by "vc" 0
    refine TE_CallFn (n' := 1) (f := 156) rfl (by k_call_by "vc some" 0) (by k_call_by "vc keep" 0) (by omega) (by decide) (fun _ => rfl) (fun _ => rfl) ?_
    repeat k_call_by "vc" 0
    refine stretch_tc O (by omega) (by omega) m1 (by omega) (by omega) (by omega) fun ex2 => ?_
    repeat ((fail_if_success with_reducible refine Then_next ?_); k_call_by "vc" 0)
    refine Then_next ?_
    refine TXs_cons ?_
    repeat k_call_by "vc" 0
    refine TE_CallFn (n' := 2) (f := 35) rfl (by k_call_by "vc some" 0) (by k_call_by "vc keep" 0) (by omega) (by decide) (fun _ => rfl) (fun _ => rfl) ?_
    repeat k_call_by "vc" 0
    rw [show ((j : Nat) : Int).fmod 2 = ((j % 2 : Nat) : Int) from fmodN j 2]
    refine lev_tc P hK (by rw [str_len]; omega) (by rw [str_len]; omega) fun ex3 => ?_
    rw [hL]
    repeat ((fail_if_success with_reducible refine Then_next ?_); k_call_by "vc" 0)
    refine Then_next ?_
    refine TXs_cons ?_
    repeat k_call_by "vc" 0
    refine ⟨fun q => absurd q (by simp), fun _ => ?_⟩
    k_call_by "vc" 0
    k_call_by "vc" 0
    refine TE_isbool rfl (by k_call_by "vc none" 0) rfl (by k_call_by "vc none" 0) (fun _ => rfl) ?_
    repeat k_call_by "vc" 0
    have hbl : (baseW X F B Sp ++ E).length = 8 + E.length := by rw [List.length_append]; rfl
    rw [List.append_assoc, List.append_assoc]
    refine Turn_next (Sub_take (loc3 := loc9 P.sl t r lo cu hi) (hp3 := baseW X F B Sp ++ E) (by rw [List.length_append]; omega) (by rw [List.take_left' rfl]) (by k_call_by "vc sub" 0) nofun) ⟨rfl, rfl⟩
  case done =>
    rintro loc1 hp1 ⟨rfl, rfl⟩
    refine Then_next ?_
    refine TXs_cons ?_
    repeat k_call_by "vc" 0
    refine TE_CallFn (n' := 1) (f := 156) rfl (by k_call_by "vc some" 0) (by k_call_by "vc keep" 0) (by omega) (by decide) (fun _ => rfl) (fun _ => rfl) ?_
    repeat k_call_by "vc" 0
    refine stretch_tc O (by omega) (by omega) (by omega) (by omega) (by omega) (by omega) fun ex => ?_
    have hl2 : (str lo (lo + 2) r).length ≤ 40 := by rw [str_len]; omega
    repeat k_call_by "vc" 0
    refine TE_CallFn (n' := 2) (f := 35) rfl (by k_call_by "vc some" 0) (by k_call_by "vc keep" 0) (by omega) (by decide) (fun _ => rfl) (fun _ => rfl) ?_
    repeat k_call_by "vc" 0
    rw [show ((t : Nat) : Int).fmod 2 = ((t % 2 : Nat) : Int) from fmodN t 2]
    refine lev_tc P hK hl2 (by rw [List.length_reverse]; exact hl2) fun ex3 => ?_
    rw [lev_pair hr hr2 (by omega)]
    repeat k_call_by "vc" 0
    rw [List.append_assoc, List.append_assoc]
    exact h _
end Mine2
open PySem PySem.W PyProof.Rows PySem.Builtin VC
namespace VC
/-- some tables of codes are hidden -/
structure Hid (h : Heap) (l : List Addr) : Prop where
  fl : ∀ b ∈ l, ∃ ps, h.get? b = some { cls := .none, data := .fields ps }
variable {h : Heap} {l : List Addr}
theorem Hid.get (H : Hid h l) {b : Addr} {o : Obj} (e : h.get? b = some o) (nd : ∀ vs, o.data ≠ .fields vs) : (hideAll h l).get? b = some o := by
  refine hideAll_get l e fun hm => ?_
  obtain ⟨ps, e'⟩ := H.fl b hm
  rw [e] at e'
  cases e'
  exact nd _ rfl
theorem Hid.ns (H : Hid h l) {a : Addr} {m : Str → Option Value} (N : h.Ns a m) : (hideAll h l).Ns a m := by
  obtain ⟨o, es, ep, e, d, r⟩ := N
  exact ⟨o, es, ep, H.get e (fun vs q => by rw [d] at q; cases q), d, r⟩
/-- a program that says nothing -/
noncomputable def mute (p : Program) : Program := { p with main := { p.main with body := [.Import [⟨"sys", none, ⟨0, 0, 0, 0⟩⟩] ⟨0, 0, 0, 0⟩] } }
theorem Hid.top (H : Hid h l) {p : Program} {loose : List Str} {mean : ExcName → Option Value} {mg mb : Str → Option Value} (T : Top p loose mean mg mb h) :
    Top (mute p) (loose ++ ((recsOf p).map (·.name) ++ ((litsOf p).map (·.1) ++ (clssOf p loose).map (·.name)))) mean mg mb (hideAll h l) where
  g := H.ns T.g
  b := H.ns T.b
  nolimit := let ⟨mc, a, b⟩ := T.nolimit; ⟨mc, H.ns a, b⟩
  nodigits := let ⟨mc, a, b⟩ := T.nodigits; ⟨mc, H.ns a, b⟩
  fn := fun d hd => by cases hd
  own := fun o ho => by cases ho
  const := fun x d hd => by cases hd
  free := fun x h1 h2 _ _ _ => by
    simp only [List.mem_append, not_or] at h2
    exact T.free x h1 h2.1 h2.2.1 h2.2.2.1 h2.2.2.2
  builtins := T.builtins
  tab := fun d hd => by cases hd
  bmain := let ⟨bm, ob, a, b, c, d, e, f⟩ := T.bmain; ⟨bm, ob, a, b, H.get c (fun vs q => by rw [f] at q; cases q), d, e, f⟩
  seer := fun q => by rw [show importsNone (mute p) = false from rfl] at q; cases q
theorem Hid.read (H : Hid h l) {p : Program} {loose : List Str} {mg mb : Str → Option Value} (T : TopRead p loose mg mb h) : TopRead p loose mg mb (hideAll h l) :=
  ⟨H.ns T.g, H.ns T.b, let ⟨mc, a, b⟩ := T.nolimit; ⟨mc, H.ns a, b⟩, T.builtins, T.free⟩
theorem Hid.bmod (H : Hid h l) {g : Addr} {mg : Str → Option Value} {bm : Addr} {ob : Obj} (M : BMod h g mg bm ob) : BMod (hideAll h l) g mg bm ob := by
  obtain ⟨a1, a2, a3, a4, a5, a6, a7⟩ := M
  exact ⟨H.ns a1, a2, a3, H.get a4 (fun vs q => by rw [a7] at q; cases q), a5, a6, a7⟩
theorem Hid.kin (_H : Hid h l) {K : Frag} (X : K.In h) (hn : ∀ b ∈ l, K.lookup b = none) : K.In (hideAll h l) := by
  intro a o e
  refine hideAll_get l (X a o e) fun hm => ?_
  rw [hn a hm] at e; cases e
theorem Hid.lst (H : Hid h l) {a : Addr} {ws : Array Value} (L : h.IsList a ws) : (hideAll h l).IsList a ws := by
  obtain ⟨o, e, c, n, d⟩ := L
  exact ⟨o, H.get e (fun vs q => by rw [d] at q; cases q), c, n, d⟩
/-- what a law's end leaves -/
theorem oldK_of {h' : Heap} {ts : List (Addr × Addr)} (kp : ∀ b o, b ∉ ts.map (·.2) → h.get? b = some o → h'.get? b = some o) (Tb : ∀ t ∈ ts, h.TableAt t.1 t.2 #[]) (T' : ∀ t ∈ ts, ∃ ps, h'.get? t.2 = some { cls := .none, data := .fields ps } ∧ TriplesOk ps.toList) : OldK h h' := by
  refine ⟨fun b o e => ?_, fun b o e => ?_⟩
  · by_cases hb : b ∈ ts.map (·.2)
    · obtain ⟨t, ht, rfl⟩ := List.mem_map.mp hb
      obtain ⟨ps, e', tr⟩ := T' t ht
      have e0 := (Tb t ht).2
      rw [e] at e0
      cases e0
      exact .inr (.inl ⟨(Tb t ht).isCodeTable, rfl, #[], ps, rfl, by simpa using e'⟩)
    · exact .inl (kp b o hb e)
  · by_cases hb : b ∈ ts.map (·.2)
    · obtain ⟨t, ht, rfl⟩ := List.mem_map.mp hb
      obtain ⟨ps, e', tr⟩ := T' t ht
      exact ⟨_, e'⟩
    · exact ⟨o, kp b o hb e⟩
end VC
namespace Mine2
theorem law_end {P : PE} (O : Ok P) {K : LV → List AO → Prop} (h : ∀ hp', hp'[0]? = some (.tab 81) → hp'[1]? = some (.tab 88) → K (.v (.bool true)) hp') {t r : Nat} {lo cu hi : Int} {X : List PV} {F B : List Nat} {Sp : List (Int × Int)} {E : List AO}
   (hr : 3 ≤ r) (hr2 : r ≤ 5) (hS : SpOk r Sp) (hSl : Sp.length ≤ 100) (b1 : -4000 ≤ lo) (b2 : lo ≤ 4000) : 
    TXs P (lawFE P.w.params) 10 (lawB P.w.params 9) (loc9 P.sl t r lo cu hi) (base X F B Sp ++ E) (Back K) := by
  with_reducible refine lawZ O hr hr2 hS hSl b1 b2 ?_
  intro ex
  exact h _ rfl rfl
theorem law_loops {P : PE} (O : Ok P) {K : LV → List AO → Prop} (hsn : P.sn.length ≤ 63) (h : ∀ hp', hp'[0]? = some (.tab 81) → hp'[1]? = some (.tab 88) → K (.v (.bool true)) hp') {t r lo : Nat} {X : List PV}
   (hr : 3 ≤ r) (hr2 : r ≤ 5) (hlo : lo < 12) : 
    TXs P (lawFE P.w.params) 10 (lawB P.w.params 8) (loc9 P.sl t r lo lo lo) (base X [] [] []) (Back K) := by
  with_reducible refine lawB' O hsn hr hr2 hlo ?_
  intro lo cu hi F B Sp E hS hSl b1 b2 rest hrest
  rw [hrest]
  with_reducible exact law_end O h hr hr2 hS hSl b1 b2
theorem law_body {P : PE} (O : Ok P) {K : LV → List AO → Prop} (hsn : P.sn.length ≤ 63) (h : ∀ hp', hp'[0]? = some (.tab 81) → hp'[1]? = some (.tab 88) → K (.v (.bool true)) hp') : 
    TXs P (lawFE P.w.params) 10 (lawB P.w.params 0) [(Str.ofString "script", .v (.ref P.sl))] [.tab 81, .tab 88] (Back K) := by
  with_reducible refine lawA O hsn ?_
  intro t r lo X hr hr2 hlo rest hrest
  rw [hrest]
  with_reducible exact law_loops O hsn h hr hr2 hlo
set_option maxHeartbeats 4000000 in
theorem law_code {P : PE} (O : Ok P) {s : Shared} {R : Result → Shared → Prop} (hsn : P.sn.length ≤ 63) (T : TabsAt P [(81, 77), (88, 84)] s.heap) (gd : P.Gd (hideAll s.heap [77, 84])) (sc : P.Sc (hideAll s.heap [77, 84])) (bs : P.Bs (hideAll s.heap [77, 84])) (bare : AllBare s.gens)
    (kk : LawEnd P (fun lv hp => lv = .v (.bool true) ∧ hp[0]? = some (.tab 81) ∧ hp[1]? = some (.tab 88)) [(81, 77), (88, 84)] s R) : codeAny (model P.prog P.w) callerA (.call (.ref 187) ⟨[.ref P.sl], []⟩) R s := by
  have hK := O.hK
  refine' law_enter (n := 10) (f := 187) (ts := [(81, 77), (88, 84)]) (x := Str.ofString "script") (p := .ref P.sl) (ho := ?ho) (hcd := ?hcd) (hbind := ?hbind) ?hloc ?hcell ?hco ?hgen ?hk ?hroom ?hun T ?nd gd sc bs bare rfl ?h kk
  case ho => rw [hK]; rfl
  case hcd => rw [hK]; rfl
  case hbind => intro s v; exact PySem.BindsTo.of_eq rfl
  case hloc => rfl
  case hcell => intro _; rfl
  case hco => rfl
  case hgen => rfl
  case hk => rfl
  case hroom => decide
  case hun => decide
  case nd => decide
  case h => exact law_body O hsn fun hp' a b => ⟨rfl, a, b⟩
end Mine2
open PySem PySem.W PyProof.Rows VC
namespace Mine2
theorem tail1 {w : World} {s₁ : Shared} {mg mb : Str → Option Value} {view : Program} {loose : List Str} {mean : ExcName → Option Value} {ns : List Int} {vs : List Value} {a : Addr} {R : Result → Shared → Prop} (Y1 : says2 hd.heap_1 w s₁.heap) (T : Top view loose mean mg mb s₁.heap) (hg : s₁.gens = #[])
    (hLs : s₁.heap.IsList a vs.toArray) (hI : IntsAre vs ns) (hlen : ns.length ≤ 63) (kk : ∀ s' : Shared, OldK s₁.heap s'.heap → s'.os = s₁.os → AllBare s'.gens → R (.ok (.ret (.bool true))) s') :
    codeAny (model PySem.Challenge.pw_xl0012_02 w) callerA (.call (.ref 187) ⟨[.ref a], []⟩) R s₁ := by
  have Tb : ∀ t ∈ ([(81, 77), (88, 84)] : List (Addr × Addr)), s₁.heap.TableAt t.1 t.2 #[] := by
    intro t ht
    simp only [List.mem_cons, List.not_mem_nil, or_false] at ht
    rcases ht with rfl | rfl
    · exact Y1.2.1
    · exact Y1.2.2
  have Hd : Hid s₁.heap [77, 84] := ⟨fun b hb => by
    simp only [List.mem_cons, List.not_mem_nil, or_false] at hb
    rcases hb with rfl | rfl
    · exact ⟨_, Y1.2.1.2⟩
    · exact ⟨_, Y1.2.2.2⟩⟩
  obtain ⟨bm, ob, M⟩ := bmod_of_top T
  let P : PE := ⟨PySem.Challenge.pw_xl0012_02, w, hd.heap_1 w.params, view, loose, mg, mb, 115, a, vs, ns⟩
  have O : Ok P := ⟨rfl, rfl, rfl⟩
  have KX : P.K.In (hideAll s₁.heap [77, 84]) := Hd.kin Y1.1 (fun b hb => by
    simp only [List.mem_cons, List.not_mem_nil, or_false] at hb
    rcases hb with rfl | rfl <;> rfl)
  refine law_code (P := P) O hlen (fun t ht => ⟨?_, ?_⟩) ⟨KX, Hd.read (topRead_of T)⟩ ⟨Hd.lst hLs, hI, bm, ob, Hd.bmod M⟩ ⟨KX, _, _, _, Hd.top T⟩ (AllBare.of_eq hg) ?_
  · simp only [List.mem_cons, List.not_mem_nil, or_false] at ht
    rcases ht with rfl | rfl <;> rfl
  · exact ⟨#[], (Tb t ht).2, trivial⟩
  rintro v lv hp' θ' s' ⟨rfl, e0, e1⟩ rv kp H pre hos hb
  have rv : v = .bool true := rv
  subst rv
  refine kk s' (oldK_of (ts := [(81, 77), (88, 84)]) kp Tb fun t ht => ?_) hos hb
  obtain ⟨rest, hθ⟩ := pre
  simp only [List.mem_cons, List.not_mem_nil, or_false] at ht
  rcases ht with rfl | rfl
  · obtain ⟨_, ps, q1, q2⟩ := H.obj 0 77 _ (by rw [← hθ]; rfl) e0
    exact ⟨ps, q1, q2⟩
  · obtain ⟨_, ps, q1, q2⟩ := H.obj 1 84 _ (by rw [← hθ]; rfl) e1
    exact ⟨ps, q1, q2⟩
end Mine2
set_option maxHeartbeats 8000000 in
theorem PySem.Challenge.cw_xl0012_02_holds : PySem.Challenge.rw_xl0012_02.Holds := by
  w_on
  refine Mine2.hd ?_
  intro w s₀ s₁ mg mb G Y fa o pm cd doc dV kV ho hd' hcd hD hmg hg args vals as hpre hlay hrd hwl hlo
  have Y1 : Mine2.says2 Mine2.hd.heap_1 w s₁.heap := Y
  have X := (Ground.X G).1
  have V := (Ground.X G).2
  refine Ground.open G ?_
  intro T B D TE TW
  obtain ⟨bm, ob, M⟩ := bmod_of_top T
  have efa : fa = 187 := by
    have e1 := mg_of (n := Str.ofString "law") (v := .ref 187) Y1.1 T.g rfl
    have e2 : mg (Str.ofString "law") = some (.ref fa) := hmg
    rw [e1] at e2
    cases e2; rfl
  subst efa
  clear hmg
  wrow_args hpre hlay hrd hwl hlo
  first | refine callC_kw (enter_call ?_) | refine enter_call ?_ | refine callC_kw (enter_callW ?_) | refine enter_callW ?_ | w_how
  rename IntsAre _ _ => hI
  rename Heap.IsList _ _ _ => hLs
  rename ¬ ((63 : Nat) : Int) < _ => hlen
  exact Mine2.tail1 Y1 T hg hLs hI (by omega) fun s' h1 h2 h3 => ⟨.inl ⟨.bool true, .bool true, [], rfl, fun _ => rfl, ReadsW.bool _, by kernel_rfl, fun _ => ⟨List.nodup_nil, nofun⟩⟩, h1, h2, h3⟩
