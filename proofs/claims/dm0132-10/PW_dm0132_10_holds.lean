import PyProof.Rows.All
import Wide.All
import OpenK.AllK
import Wide.FinOn
import KE.KIsAll
import KE.KStar
import KE.KBoundM
import PyProof.DictWalks
import KE.LcSums
import PyProof.Rows.StrBool
import PyProof.FString4
import KE.KItem
import KE.KxMul
import PyProof.P3In
import PyProof.Rows.SetFrom
import PyProof.Rows.SortRev
import PyProof.Rows.MinMaxN
import PyProof.Rows.Range3
import PyProof.Rows.CallKwBuiltin
import Lean
import PySem.Challenge.RW_dm0132_10
set_option tactic.hygienic false
set_option genInjectivity false
set_option genSizeOf false
set_option genSizeOfSpec false
section
open PySem PySem.W PySem.Calls PyProof.Rows
set_option Elab.async false
set_option maxRecDepth 10000
set_option linter.unusedVariables false
set_option linter.unusedSimpArgs false
namespace Mine.Internal
inductive AV where
  | val (v : Value)
  | int (i : Int)
  | str (s : Str)
  | list (xs : List AV)
  | tup (xs : List AV)
  | exc (cls : Value) (args : List AV)
  deriving Inhabited
abbrev AV.none : AV := .val .none
abbrev AV.bool (b : Bool) : AV := .val (.bool b)
abbrev AV.ref (a : Addr) : AV := .val (.ref a)
abbrev ZM := Addr → Option Obj
noncomputable def ZLe (Z Z' : ZM) : Prop := ∀ a o, Z a = some o → Z' a = some o
theorem ZLe.refl (Z : ZM) : ZLe Z Z := fun z_ z_ h => h
theorem ZLe.trans {Z Z' Z'' : ZM} (h : ZLe Z Z') (h' : ZLe Z' Z'') : ZLe Z Z'' := fun a o e => h' a o (h a o e)
mutual
inductive VR (Z : ZM) : AV → Value → Prop
  | val {v : Value} : VR Z (.val v) v
  | int {i : Int} {t : Tok} : VR Z (.int i) (.int i t)
  | str {x : Str} {t : Tok} : VR Z (.str x) (.str x t)
  | list {xs : List AV} {a : Addr} {vs : Array Value} {n : Nat} : Z a = some ⟨.type "list", Option.none, .seq vs n, #[]⟩ → VRs Z xs vs.toList → VR Z (.list xs) (.ref a)
  | tup {xs : List AV} {a : Addr} {vs : Array Value} {n : Nat} : Z a = some ⟨.type "tuple", Option.none, .seq vs n, #[]⟩ → VRs Z xs vs.toList → VR Z (.tup xs) (.ref a)
  | exc {cls : Value} {xs : List AV} {a t : Addr} {o : Obj} {vs : Array Value} {tb : Value} {rest : List Value} {ws : Array Value} {n : Nat} : Z a = some o → o.cls = cls → o.data = .fields vs → vs.toList = .ref t :: tb :: .none :: rest →
      Z t = some ⟨.type "tuple", Option.none, .seq ws n, #[]⟩ → VRs Z xs ws.toList → VR Z (.exc cls xs) (.ref a)
inductive VRs (Z : ZM) : List AV → List Value → Prop
  | nil : VRs Z [] []
  | cons {x : AV} {xs : List AV} {v : Value} {vs : List Value} : VR Z x v → VRs Z xs vs → VRs Z (x :: xs) (v :: vs)
end
theorem VRs.one {Z : ZM} {a : AV} {vs : List Value} (h : VRs Z [a] vs) : ∃ v, vs = [v] ∧ VR Z a v := by
  cases h with | cons h1 h2 => cases h2; exact ⟨_, rfl, h1⟩
theorem VR.mono {Z Z' : ZM} (h : ZLe Z Z') (a : AV) (v : Value) (q : VR Z a v) : VR Z' a v :=
  VR.rec (motive_1 := fun a v z_ => VR Z' a v) (motive_2 := fun xs vs z_ => VRs Z' xs vs) .val .int .str (fun e z_ ih => .list (h _ _ e) ih) (fun e z_ ih => .tup (h _ _ e) ih) (fun e1 e2 e3 e4 e5 z_ ih => .exc (h _ _ e1) e2 e3 e4 (h _ _ e5) ih) .nil (fun z_ z_ i1 i2 => .cons i1 i2) q
theorem VRs.mono {Z Z' : ZM} (h : ZLe Z Z') (a : List AV) (v : List Value) (q : VRs Z a v) : VRs Z' a v :=
  VRs.rec (motive_1 := fun a v z_ => VR Z' a v) (motive_2 := fun xs vs z_ => VRs Z' xs vs) .val .int .str (fun e z_ ih => .list (h _ _ e) ih) (fun e z_ ih => .tup (h _ _ e) ih) (fun e1 e2 e3 e4 e5 z_ ih => .exc (h _ _ e1) e2 e3 e4 (h _ _ e5) ih) .nil (fun z_ z_ i1 i2 => .cons i1 i2) q
structure OD where
  rel : ZM → Obj → Prop
  mono : ∀ Z Z' o, ZLe Z Z' → rel Z o → rel Z' o
abbrev AM := Addr → Option OD
noncomputable def one (a : Addr) (d : OD) : AM := fun b => if b = a then some d else Option.none
noncomputable def AM.put (M : AM) (a : Addr) (d : OD) : AM := fun b => if b = a then some d else M b
noncomputable def AM.or (M N : AM) : AM := fun b => (M b).or (N b)
noncomputable def Apart (M N : AM) : Prop := ∀ b, M b = Option.none ∨ N b = Option.none
abbrev AHs := List AM
abbrev AEnv := List (Str × AV)
structure Cx where
  prog : Program
  w : World
  A : Around
  base : Heap
  K : Frag
  env : Env
  fr : Env
  outer : List Env
  PO : ZM
  os : OsState
  lv : Nat
noncomputable def VarIs (env : Env) (h : Heap) (m : Str → Option Value) (x : Str) (v : Value) : Prop :=
  (env.kindOf x = some .local ∧ m x = some v) ∨
  ((env.kindOf x = some .cell ∨ env.kindOf x = some .free) ∧ ∃ c, env.cells.lookup x = some c ∧ h.IsCell c (some v))
noncomputable def Cx.mine (c : Cx) (b : Addr) : Prop := b = c.env.locals ∨ (c.PO b = Option.none ∧ ∃ x, c.env.cells.lookup x = some b)
noncomputable def Fz (o : Obj) : Prop := (∃ vs n, o.data = .seq vs n) ∨ ∃ vs, o.data = .fields vs
structure Owned (c : Cx) (Z : ZM) (s : Shared) (b : Addr) (d : OD) : Prop where
  ob : ∃ o, s.heap.get? b = some o ∧ d.rel Z o
  base : c.base.get? b = Option.none
  po : c.PO b = Option.none
  mine : ¬ c.mine b
  z : Z b = Option.none
theorem Owned.keep {c : Cx} {Z : ZM} {s s' : Shared} {b : Addr} {d : OD} (h : Owned c Z s b d) (hk : ∀ o, s.heap.get? b = some o → s'.heap.get? b = some o) : Owned c Z s' b d :=
  ⟨h.ob.elim fun o q => ⟨o, hk o q.1, q.2⟩, h.base, h.po, h.mine, h.z⟩
structure St (c : Cx) (ρ : AEnv) (H : AHs) (Z : ZM) (s : Shared) : Prop where
  base : c.base.StaysIn s.heap
  ns : ∃ m, s.heap.Ns c.env.locals m ∧ ∀ x a, ρ.lookup x = some a → ∃ v, VR Z a v ∧ VarIs c.env s.heap m x v
  cells : ∀ x b, c.env.cells.lookup x = some b → ∃ v, s.heap.IsCell b v
  po : ∀ b o, c.PO b = some o → ∃ sl, s.heap.get? b = some { o with slots := sl } ∧ Z b = Option.none ∧ ((∀ es ep, o.data ≠ .dict es ep) → sl = o.slots)
  own : ∀ M ∈ H, ∀ b d, M b = some d → Owned c Z s b d
  apart : H.Pairwise Apart
  fz : ∀ b o, Z b = some o → s.heap.get? b = some o ∧ Fz o
  hdl : ∀ e, c.A.handled = some e → ∃ x o vs, e = .ref x ∧ Z x = some o ∧ o.data = .fields vs ∧ vs[2]? = some .none
  gens : s.gens = #[]
  os : s.os = c.os
structure Glb (base : Heap) (K : Frag) : Prop where
  kin : K.In base
  top : ∃ p loose mg mb, TopRead p loose mg mb base
  mods : ∃ mm, base.Ns sysModules mm
structure Cx.Ok (c : Cx) : Prop where
  glb : Glb c.base c.K
  kind : c.env.scope.kind = .function
  globals : c.env.globals = mainGlobals
  builtins : c.env.builtins = builtinsNs
  frame : c.env.frame = c.fr.frame
  frames : c.A.frames = some (c.fr :: c.outer)
  frK : c.fr.scope.kind = .function
  frL : ∃ L, c.fr.frame = some L ∧ c.base.objs.size ≤ L ∧ (L = c.env.locals ∨ ∃ o, c.PO L = some o ∧ ∃ es ep, o.data = .dict es ep)
  above : c.base.objs.size ≤ c.env.locals
  nloc : c.PO c.env.locals = Option.none
  outs : ∀ e ∈ c.outer, e.scope.kind = .function ∧ ∃ L o, e.frame = some L ∧ c.base.get? L = Option.none ∧ c.PO L = some o ∧ ∃ es ep, o.data = .dict es ep
  poB : ∀ b o, c.PO b = some o → c.base.get? b = Option.none
  cellI : ∀ x y b, c.env.cells.lookup x = some b → c.env.cells.lookup y = some b → x = y
  cellB : ∀ x b, c.env.cells.lookup x = some b → c.base.get? b = Option.none ∧ b ≠ c.env.locals
  room : c.A.depth + c.lv ≤ 900
  units : c.A.units + 20 * c.lv ≤ 9000
noncomputable def AEnv.put : AEnv → Str → AV → AEnv
  | [], x, a => [(x, a)]
  | (y, b) :: r, x, a => if y = x then (x, a) :: r else (y, b) :: AEnv.put r x a
theorem AEnv.lookup_put (ρ : AEnv) (x y : Str) (a : AV) : (AEnv.put ρ x a).lookup y = if y = x then some a else ρ.lookup y := by
  induction ρ with
  | nil =>
    by_cases h : y = x
    · subst h; simp [AEnv.put, List.lookup]
    · have : (y == x) = false := by simpa using h
      simp [AEnv.put, List.lookup, this, h]
  | cons p r ih =>
    obtain ⟨z, b⟩ := p
    unfold AEnv.put
    by_cases hz : z = x
    · subst hz
      rw [if_pos rfl]
      by_cases h : y = z
      · subst h; simp [List.lookup]
      · have : (y == z) = false := by simpa using h
        simp [List.lookup, this, h]
    · rw [if_neg hz]
      by_cases h : y = z
      · subst h; simp [List.lookup, hz]
      · have : (y == z) = false := by simpa using h
        simp only [List.lookup, this, ih]
noncomputable def AEnv.Sub (ρ' ρ : AEnv) : Prop := ∀ x a, ρ'.lookup x = some a → ρ.lookup x = some a
theorem AEnv.Sub.refl (ρ : AEnv) : AEnv.Sub ρ ρ := fun z_ z_ h => h
section
variable {c : Cx} {ρ ρ' : AEnv} {H : AHs} {Z Z' : ZM} {s s' : Shared}
theorem VarIs.keeps {env : Env} {h h' : Heap} {m : Str → Option Value} {x : Str} {v : Value} (V : VarIs env h m x v) (hk : ∀ b o, h.get? b = some o → h'.get? b = some o) : VarIs env h' m x v := by
  rcases V with V | ⟨hc, cc, e1, o, e2, e3⟩
  · exact .inl V
  · exact .inr ⟨hc, cc, e1, o, hk _ _ e2, e3⟩
theorem St.ext (S : St c ρ H Z s) (hk : ∀ b o, s.heap.get? b = some o → s'.heap.get? b = some o) (hg : s'.gens = s.gens) (ho : s'.os = s.os) : St c ρ H Z s' where
  base := fun b o e => hk b o (S.base b o e)
  ns := let ⟨m, hn, hv⟩ := S.ns; ⟨m, hn.keeps hk, fun x a e => let ⟨v, h1, h2⟩ := hv x a e; ⟨v, h1, h2.keeps hk⟩⟩
  cells := fun x b e => let ⟨v, o, h1, h2⟩ := S.cells x b e; ⟨v, o, hk _ _ h1, h2⟩
  po := fun b o e => let ⟨sl, h, hz⟩ := S.po b o e; ⟨sl, hk _ _ h, hz⟩
  own := fun M hM b d e => (S.own M hM b d e).keep (hk b)
  apart := S.apart
  fz := fun b o e => let ⟨h1, h2⟩ := S.fz b o e; ⟨hk _ _ h1, h2⟩
  hdl := S.hdl
  gens := hg.trans S.gens
  os := ho.trans S.os
theorem St.tok (S : St c ρ H Z s) (t : Nat) : St c ρ H Z { s with toks := t } := S.ext (fun z_ z_ e => e) rfl rfl
theorem St.sub (S : St c ρ H Z s) (h : AEnv.Sub ρ' ρ) : St c ρ' H Z s :=
  { S with ns := let ⟨m, hn, hv⟩ := S.ns; ⟨m, hn, fun x a e => hv x a (h x a e)⟩ }
theorem St.perm {H' : AHs} (S : St c ρ H Z s) (h : H'.Perm H) : St c ρ H' Z s :=
  { S with own := fun M hM => S.own M (h.mem_iff.mp hM), apart := h.symm.pairwise S.apart (fun ha b => (ha b).symm) }
theorem St.drop {H' : AHs} (S : St c ρ H Z s) (h : H'.Sublist H) : St c ρ H' Z s :=
  { S with own := fun M hM => S.own M (h.subset hM), apart := S.apart.sublist h }
theorem St.read {i : Nat} {M : AM} {a : Addr} {d : OD} (S : St c ρ H Z s) (hi : H[i]? = some M) (ha : M a = some d) : ∃ o, s.heap.get? a = some o ∧ d.rel Z o :=
  (S.own M (List.mem_of_getElem? hi) a d ha).1
theorem St.localsLt (S : St c ρ H Z s) : ∃ o es ep, s.heap.get? c.env.locals = some o ∧ o.data = .dict es ep := by
  obtain ⟨m, ⟨o, es, ep, h1, h2, _⟩, _⟩ := S.ns
  exact ⟨o, es, ep, h1, h2⟩
theorem St.fresh_mine (S : St c ρ H Z s) {b : Addr} (hb : s.heap.get? b = Option.none) : ¬ c.mine b := by
  rintro (rfl | ⟨_, x, hx⟩)
  · obtain ⟨o, _, _, h, _⟩ := S.localsLt; rw [hb] at h; cases h
  · obtain ⟨v, o, h, _⟩ := S.cells x b hx; rw [hb] at h; cases h
set_option tactic.hygienic true in
theorem St.new {b : Addr} {o : Obj} {d : OD} (S : St c ρ H Z s) (hk : ∀ b o, s.heap.get? b = some o → s'.heap.get? b = some o) (hg : s'.gens = s.gens) (ho : s'.os = s.os)
    (hb : s.heap.get? b = Option.none) (hb' : s'.heap.get? b = some o) (hd : d.rel Z o) : St c ρ (one b d :: H) Z s' := by
  have S' := S.ext hk hg ho
  refine { S' with own := ?_, apart := ?_ }
  · intro M hM b' d' e
    rcases List.mem_cons.mp hM with rfl | hM
    · unfold one at e
      split at e
      · rename_i hbb; subst hbb; cases e
        refine ⟨⟨o, hb', hd⟩, ?_, ?_, S.fresh_mine hb, ?_⟩
        · cases q : c.base.get? b' with
          | none => rfl
          | some o' => have := S.base _ _ q; rw [hb] at this; cases this
        · cases q : c.PO b' with
          | none => rfl
          | some o' => obtain ⟨sl, h, _⟩ := S.po _ _ q; rw [hb] at h; cases h
        · cases q : Z b' with
          | none => rfl
          | some o' => have := (S.fz _ _ q).1; rw [hb] at this; cases this
      · cases e
    · exact S'.own M hM b' d' e
  · refine List.pairwise_cons.mpr ⟨fun M hM b' => ?_, S.apart⟩
    by_cases hbb : b' = b
    · subst hbb
      right
      cases q : M b' with
      | none => rfl
      | some d' => obtain ⟨⟨o', h, _⟩, _⟩ := S.own M hM b' d' q; rw [hb] at h; cases h
    · left; simp [one, hbb]
set_option tactic.hygienic true in
theorem St.mut {i : Nat} {M : AM} {a : Addr} {d d' : OD} {o' : Obj} (S : St c ρ H Z s) (hi : H[i]? = some M) (ha : M a = some d)
    (hk : ∀ b o, b ≠ a → s.heap.get? b = some o → s'.heap.get? b = some o) (hg : s'.gens = s.gens) (ho : s'.os = s.os) (ha' : s'.heap.get? a = some o') (hd : d'.rel Z o') :
    St c ρ (H.set i (M.put a d')) Z s' := by
  have hM := List.mem_of_getElem? hi
  obtain ⟨⟨o, ho1, ho2⟩, hb, hp, hm, hz⟩ := S.own M hM a d ha
  have hil : i < H.length := (List.getElem?_eq_some_iff.mp hi).1
  have hiM : H[i] = M := (List.getElem?_eq_some_iff.mp hi).2
  have nl : c.env.locals ≠ a := fun e => hm (.inl e.symm)
  have nb : ∀ b o, c.base.get? b = some o → b ≠ a := fun b o e q => by rw [q, hb] at e; cases e
  have np : ∀ b o, c.PO b = some o → b ≠ a := fun b o e q => by rw [q, hp] at e; cases e
  have nz : ∀ b o, Z b = some o → b ≠ a := fun b o e q => by rw [q, hz] at e; cases e
  have nc : ∀ x b, c.env.cells.lookup x = some b → b ≠ a := fun x b e q => hm (.inr ⟨hp, x, q ▸ e⟩)
  have cellk : ∀ x b v, c.env.cells.lookup x = some b → s.heap.IsCell b v → s'.heap.IsCell b v := fun x b v e ⟨o, h1, h2⟩ => ⟨o, hk _ _ (nc x b e) h1, h2⟩
  refine ⟨fun b o e => hk b o (nb b o e) (S.base b o e), ?_, fun x b e => let ⟨v, h⟩ := S.cells x b e; ⟨v, cellk x b v e h⟩, fun b o e => let ⟨sl, h, hz'⟩ := S.po b o e; ⟨sl, hk _ _ (np b o e) h, hz'⟩, ?_, ?_,
    fun b o e => let ⟨h1, h2⟩ := S.fz b o e; ⟨hk _ _ (nz b o e) h1, h2⟩, S.hdl, hg.trans S.gens, ho.trans S.os⟩
  · obtain ⟨m, ⟨ol, es, ep, h1, h2⟩, hv⟩ := S.ns
    refine ⟨m, ⟨ol, es, ep, hk _ _ nl h1, h2⟩, fun x av e => ?_⟩
    obtain ⟨v, hv1, hv2⟩ := hv x av e
    refine ⟨v, hv1, ?_⟩
    rcases hv2 with hv2 | ⟨hc, cc, e1, e2⟩
    · exact .inl hv2
    · exact .inr ⟨hc, cc, e1, cellk x cc _ e1 e2⟩
  · intro N hN b e he
    rcases List.mem_or_eq_of_mem_set hN with hN' | rfl
    · obtain ⟨j, hj, hje⟩ := List.getElem_of_mem hN
      by_cases hji : j = i
      · subst hji
        have : N = M.put a d' := by rw [← hje]; simp
        subst this
        unfold AM.put at he
        split at he
        · rename_i hba; subst hba; cases he; exact ⟨⟨o', ha', hd⟩, hb, hp, hm, hz⟩
        · rename_i hba
          exact (S.own M hM b e he).keep fun o => hk b o hba
      · have hN2 : H[j]'(by simpa using hj) = N := by rw [← hje, List.getElem_set_ne (Ne.symm hji)]
        refine (S.own N hN' b e he).keep fun o => hk b o fun q => ?_
        subst q
        have hjl : j < H.length := by simpa using hj
        have hap : Apart M N ∨ Apart N M := by
          rcases Nat.lt_or_gt_of_ne hji with hl | hl
          · right; have := List.pairwise_iff_getElem.mp S.apart j i hjl hil hl; rwa [hN2, hiM] at this
          · left; have := List.pairwise_iff_getElem.mp S.apart i j hil hjl hl; rwa [hN2, hiM] at this
        rcases hap with hap | hap
        · rcases hap b with q | q
          · rw [ha] at q; cases q
          · rw [he] at q; cases q
        · rcases hap b with q | q
          · rw [he] at q; cases q
          · rw [ha] at q; cases q
    · unfold AM.put at he
      split at he
      · rename_i hba; subst hba; cases he; exact ⟨⟨o', ha', hd⟩, hb, hp, hm, hz⟩
      · rename_i hba
        exact (S.own M hM b e he).keep fun o => hk b o hba
  · refine List.pairwise_iff_getElem.mpr fun j k hj hk' hjk => ?_
    have hjl : j < H.length := by simpa using hj
    have hkl : k < H.length := by simpa using hk'
    have hdom : ∀ b, (M.put a d') b = Option.none ↔ M b = Option.none := fun b => by
      unfold AM.put
      split
      · rename_i q; subst q; simp [ha]
      · exact Iff.rfl
    have := List.pairwise_iff_getElem.mp S.apart j k hjl hkl hjk
    by_cases hji : j = i
    · subst hji
      have hki : ¬ j = k := by (exact Nat.ne_of_lt (by assumption))
      rw [List.getElem_set_self, List.getElem_set_ne hki]
      intro b; rw [hdom]; rw [hiM] at this; exact this b
    · by_cases hki : k = i
      · subst hki
        rw [List.getElem_set_self, List.getElem_set_ne (Ne.symm hji)]
        intro b; rw [hdom]; rw [hiM] at this; exact this b
      · rw [List.getElem_set_ne (Ne.symm hki), List.getElem_set_ne (Ne.symm hji)]; exact this
end
section
variable {c : Cx} {ρ ρ' : AEnv} {H : AHs} {Z Z' : ZM} {s s' : Shared} {M : Model} {A : Around} {E : Value → Shared → Prop}
theorem Cx.Ok.baseLoc (ok : c.Ok) : c.base.get? c.env.locals = Option.none := by
  cases q : c.base.get? c.env.locals with
  | none => rfl
  | some o => exact absurd (Heap.lt_size q) (Nat.not_lt.mpr ok.above)
noncomputable def Cx.Stores (c : Cx) (x : Str) : Prop := c.env.kindOf x = some .local ∨ (c.env.kindOf x = some .cell ∧ ∃ b, c.env.cells.lookup x = some b ∧ c.PO b = Option.none)
theorem St.store {x : Str} {a : AV} {v : Value} {Q : Unit → Shared → Prop} (ok : c.Ok) (S : St c ρ H Z s) (hx : c.Stores x) (hv : VR Z a v)
    (h : ∀ s', St c (AEnv.put ρ x a) H Z s' → Q () s') : wpAny M A (storeName c.env x v) Q E s := by
  obtain ⟨m, hn, hvars⟩ := S.ns
  rcases hx with hl | ⟨hl, b, hb, hpb⟩
  · refine wpAny_storeName_local hl hn (fun h' hn' hs => h _ ?_) (by rw [ok.kind]; rfl)
    have hs2 : ∀ b, b ≠ c.env.locals → ∀ o, s.heap.get? b = some o → h'.get? b = some o := fun b hb o e => (hs.2 b hb).trans e
    refine ⟨fun b o e => hs2 b (fun q => by rw [q, ok.baseLoc] at e; cases e) o (S.base b o e), ⟨_, hn', fun y ay e => ?_⟩, fun y b e => ?_, fun b o e => ?_, fun N hN b d e => ?_, S.apart, fun b o e => ?_, S.hdl, S.gens, S.os⟩
    · rw [AEnv.lookup_put] at e
      by_cases hyx : y = x
      · subst hyx
        rw [if_pos rfl] at e; cases e
        exact ⟨v, hv, .inl ⟨hl, if_pos rfl⟩⟩
      · rw [if_neg hyx] at e
        obtain ⟨w, hw, hw2⟩ := hvars y ay e
        refine ⟨w, hw, ?_⟩
        rcases hw2 with ⟨q1, q2⟩ | ⟨hc, cc, e1, o, e2, e3⟩
        · exact .inl ⟨q1, (if_neg hyx).trans q2⟩
        · exact .inr ⟨hc, cc, e1, o, hs2 cc (ok.cellB y cc e1).2 o e2, e3⟩
    · obtain ⟨w, o, e1, e2⟩ := S.cells y b e
      exact ⟨w, o, hs2 b (ok.cellB y b e).2 o e1, e2⟩
    · obtain ⟨sl, e1, e2⟩ := S.po b o e
      exact ⟨sl, hs2 b (fun q => by rw [q, ok.nloc] at e; cases e) _ e1, e2⟩
    · have q := S.own N hN b d e
      exact q.keep (hs2 b fun e => q.mine (.inl e))
    · obtain ⟨e1, e2⟩ := S.fz b o e
      refine ⟨hs2 b (fun q => ?_) o e1, e2⟩
      obtain ⟨ol, es, ep, q1, q2⟩ := S.localsLt
      rw [q, q1] at e1; cases e1; rcases e2 with ⟨_, _, e2⟩ | ⟨_, e2⟩ <;> (rw [q2] at e2; cases e2)
  · obtain ⟨v₀, hc₀⟩ := S.cells x b hb
    refine wpAny_storeName_cell ok.kind hl hb hc₀ fun h' hn' hs => h _ ?_
    have hs2 : ∀ b', b' ≠ b → ∀ o, s.heap.get? b' = some o → h'.get? b' = some o := fun b' hb' o e => (hs.2 b' hb').trans e
    refine ⟨fun b' o e => hs2 b' (fun q => by rw [q, (ok.cellB x b hb).1] at e; cases e) o (S.base b' o e), ⟨m, hn.sameBut hs (Ne.symm (ok.cellB x b hb).2), fun y ay e => ?_⟩, fun y b' e => ?_, fun b' o e => ?_, fun N hN b' d e => ?_, S.apart, fun b' o e => ?_, S.hdl, S.gens, S.os⟩
    · rw [AEnv.lookup_put] at e
      by_cases hyx : y = x
      · subst hyx
        rw [if_pos rfl] at e; cases e
        exact ⟨v, hv, .inr ⟨.inl hl, b, hb, hn'⟩⟩
      · rw [if_neg hyx] at e
        obtain ⟨w, hw, hw2⟩ := hvars y ay e
        refine ⟨w, hw, ?_⟩
        rcases hw2 with ⟨q1, q2⟩ | ⟨hc, cc, e1, o, e2, e3⟩
        · exact .inl ⟨q1, q2⟩
        · exact .inr ⟨hc, cc, e1, o, hs2 cc (fun q => hyx (ok.cellI _ _ _ e1 (q ▸ hb))) o e2, e3⟩
    · by_cases hbb : b' = b
      · subst hbb; exact ⟨_, hn'⟩
      · obtain ⟨w, o, e1, e2⟩ := S.cells y b' e
        exact ⟨w, o, hs2 b' hbb o e1, e2⟩
    · obtain ⟨sl, e1, e2⟩ := S.po b' o e
      exact ⟨sl, hs2 b' (fun q => by rw [q, hpb] at e; cases e) _ e1, e2⟩
    · have q := S.own N hN b' d e
      exact q.keep (hs2 b' fun e => q.mine (.inr ⟨e ▸ hpb, x, e ▸ hb⟩))
    · obtain ⟨e1, e2⟩ := S.fz b' o e
      refine ⟨hs2 b' (fun q => ?_) o e1, e2⟩
      obtain ⟨oc, q1, q2⟩ := hc₀
      rw [q, q1] at e1; cases e1; rcases e2 with ⟨_, _, e2⟩ | ⟨_, e2⟩ <;> (rw [q2] at e2; cases e2)
noncomputable def ZM.put (Z : ZM) (a : Addr) (o : Obj) : ZM := fun b => if b = a then some o else Z b
set_option tactic.hygienic true in
theorem St.freeze {i : Nat} {a : Addr} {d : OD} (S : St c ρ H Z s) (hi : H[i]? = some (one a d)) (hd : ∀ o, d.rel Z o → Fz o) :
    ∃ o, s.heap.get? a = some o ∧ d.rel Z o ∧ ZLe Z (Z.put a o) ∧ St c ρ (H.eraseIdx i) (Z.put a o) s := by
  have hM := List.mem_of_getElem? hi
  obtain ⟨⟨o, ho1, ho2⟩, hb, hp, hm, hz⟩ := S.own _ hM a d (by simp [one])
  have hle : ZLe Z (Z.put a o) := fun b o' e => by
    unfold ZM.put
    split
    · rename_i q; subst q; rw [hz] at e; cases e
    · exact e
  refine ⟨o, ho1, ho2, hle, ?_⟩
  have hil : i < H.length := (List.getElem?_eq_some_iff.mp hi).1
  have hiM : H[i] = one a d := (List.getElem?_eq_some_iff.mp hi).2
  refine ⟨S.base, ?_, S.cells, fun b o' e => let ⟨sl, h, hz'⟩ := S.po b o' e; ⟨sl, h, (if_neg (fun q => by rw [q, hp] at e; cases e)).trans hz'.1, hz'.2⟩, fun N hN b e he => ?_, S.apart.sublist (List.eraseIdx_sublist ..), fun b o' e => ?_, fun e he => let ⟨x, o', vs, h0, h1, h2⟩ := S.hdl e he; ⟨x, o', vs, h0, hle _ _ h1, h2⟩, S.gens, S.os⟩
  · obtain ⟨m, hn, hv⟩ := S.ns
    exact ⟨m, hn, fun x av e => let ⟨v, h1, h2⟩ := hv x av e; ⟨v, VR.mono hle _ _ h1, h2⟩⟩
  · have hN' := (List.eraseIdx_sublist H i).subset hN
    obtain ⟨⟨ob, q1, q2⟩, r1, r2, r3, r4⟩ := S.own N hN' b e he
    refine ⟨⟨ob, q1, e.mono _ _ _ hle q2⟩, r1, r2, r3, ?_⟩
    unfold ZM.put
    split
    · rename_i q
      subst q
      exfalso
      obtain ⟨j, hj, hji⟩ := List.mem_eraseIdx_iff_getElem.mp hN
      obtain ⟨hjl, hne, hje⟩ : ∃ h : j < H.length, j ≠ i ∧ H[j] = N := ⟨hj, hji.1, hji.2⟩
      have hap : Apart (one b d) N ∨ Apart N (one b d) := by
        rcases Nat.lt_or_gt_of_ne hne with hl | hl
        · right; have := List.pairwise_iff_getElem.mp S.apart j i hjl hil hl; rwa [hje, hiM] at this
        · left; have := List.pairwise_iff_getElem.mp S.apart i j hil hjl hl; rwa [hje, hiM] at this
      rcases hap with hap | hap
      · rcases hap b with q | q
        · simp [one] at q
        · rw [he] at q; cases q
      · rcases hap b with q | q
        · rw [he] at q; cases q
        · simp [one] at q
    · exact r4
  · unfold ZM.put at e
    split at e
    · rename_i q; subst q; cases e; exact ⟨ho1, hd _ ho2⟩
    · exact S.fz b o' e
theorem St.merge {M N : AM} {F : AHs} (S : St c ρ (M :: N :: F) Z s) : St c ρ (M.or N :: F) Z s := by
  have hp := List.pairwise_cons.mp S.apart
  have hp2 := List.pairwise_cons.mp hp.2
  refine { S with own := ?_, apart := ?_ }
  · intro P hP b d e
    rcases List.mem_cons.mp hP with rfl | hP
    · unfold AM.or at e
      cases q : M b with
      | some d' => rw [q] at e; cases e; exact S.own M (.head _) b _ q
      | none => rw [q] at e; exact S.own N (.tail _ (.head _)) b _ e
    · exact S.own P (.tail _ (.tail _ hP)) b d e
  · refine List.pairwise_cons.mpr ⟨fun P hP b => ?_, hp2.2⟩
    rcases hp.1 P (.tail _ hP) b with q | q
    · rcases hp2.1 P hP b with q' | q'
      · left; simp [AM.or, q, q']
      · exact .inr q'
    · exact .inr q
theorem St.split {M N : AM} {F : AHs} (S : St c ρ (M :: F) Z s) (P Q : AM) (h : ∀ b, M b = (P.or Q) b) (ha : Apart P Q) : St c ρ (P :: Q :: F) Z s := by
  have hp := List.pairwise_cons.mp S.apart
  refine { S with own := ?_, apart := ?_ }
  · intro R hR b d e
    rcases List.mem_cons.mp hR with rfl | hR
    · exact S.own M (.head _) b d ((h b).trans (by simp [AM.or, e]))
    · rcases List.mem_cons.mp hR with rfl | hR
      · refine S.own M (.head _) b d ((h b).trans ?_)
        rcases ha b with q | q
        · simp [AM.or, q, e]
        · rw [e] at q; cases q
      · exact S.own R (.tail _ hR) b d e
  · refine List.pairwise_cons.mpr ⟨fun R hR b => ?_, List.pairwise_cons.mpr ⟨fun R hR b => ?_, hp.2⟩⟩
    · rcases List.mem_cons.mp hR with rfl | hR
      · exact ha b
      · rcases hp.1 R hR b with q | q
        · rw [h b] at q
          left; unfold AM.or at q; cases hq : P b with | none => rfl | some d => rw [hq] at q; cases q
        · exact .inr q
    · rcases hp.1 R hR b with q | q
      · rw [h b] at q
        left; unfold AM.or at q; cases hq : P b with | none => rw [hq] at q; exact q | some d => rw [hq] at q; cases q
      · exact .inr q
end
noncomputable def oExc (cls : Value) (args : List AV) (tb : Option Addr) : OD where
  rel Z o := o.cls = cls ∧ ∃ vs t rest, o.data = .fields vs ∧ vs.toList = .ref t :: (match tb with | some T => Value.ref T | Option.none => Value.none) :: .none :: rest ∧ VR Z (.tup args) (.ref t)
  mono Z Z' o hz h := by
    obtain ⟨h1, vs, t, rest, h2, h3, h4⟩ := h
    exact ⟨h1, vs, t, rest, h2, h3, VR.mono hz _ _ h4⟩
noncomputable def oTb : OD where
  rel _ o := ∃ ts, o.data = .fields ts ∧ 3 < ts.size
  mono _ _ _ _ h := h
noncomputable def ExcF (x : Addr) (cls : Value) (args : List AV) (E : AM) : Prop :=
  ∃ tb, E x = some (oExc cls args tb) ∧ ∀ T, tb = some T → T ≠ x ∧ E T = some oTb
section
variable {α β : Type}
inductive Post (c : Cx) (rel : ZM → β → α → Prop) (Z : ZM) (Q : β → AEnv → AHs → Prop) (v : α) (s' : Shared) : Prop
  | mk (b : β) (ρ' : AEnv) (H' : AHs) (Z' : ZM) (hz : ZLe Z Z') (hr : rel Z' b v) (S : St c ρ' H' Z' s') (q : Q b ρ' H') : Post c rel Z Q v s'
abbrev AX := Value → List AV → AEnv → AHs → Prop
noncomputable def noX : AX := fun z_ z_ z_ z_ => False
inductive Exc (c : Cx) (Z : ZM) (X : AX) (e : Value) (s' : Shared) : Prop
  | mk (x : Addr) (cls : Value) (args : List AV) (E : AM) (ρ' : AEnv) (H' : AHs) (Z' : ZM) (he : e = .ref x) (hE : ExcF x cls args E) (hz : ZLe Z Z') (S : St c ρ' (E :: H') Z' s') (q : X cls args ρ' H') : Exc c Z X e s'
noncomputable def T (c : Cx) (rel : ZM → β → α → Prop) (t : Sem α) (ρ : AEnv) (H : AHs) (Q : β → AEnv → AHs → Prop) (X : AX) : Prop :=
  ∀ Z s, St c ρ H Z s → wpAny (model c.prog c.w) c.A t (Post c rel Z Q) (Exc c Z X) s
noncomputable def T1 (c : Cx) (rel : ZM → β → α → Prop) (f : Value → Sem α) (a : AV) (ρ : AEnv) (H : AHs) (Q : β → AEnv → AHs → Prop) (X : AX) : Prop :=
  ∀ Z s v, St c ρ H Z s → VR Z a v → wpAny (model c.prog c.w) c.A (f v) (Post c rel Z Q) (Exc c Z X) s
noncomputable def T2 (c : Cx) (rel : ZM → β → α → Prop) (f : Value → Value → Sem α) (a b : AV) (ρ : AEnv) (H : AHs) (Q : β → AEnv → AHs → Prop) (X : AX) : Prop :=
  ∀ Z s v w, St c ρ H Z s → VR Z a v → VR Z b w → wpAny (model c.prog c.w) c.A (f v w) (Post c rel Z Q) (Exc c Z X) s
noncomputable def T3 (c : Cx) (rel : ZM → β → α → Prop) (f : Value → Value → Value → Sem α) (a b e : AV) (ρ : AEnv) (H : AHs) (Q : β → AEnv → AHs → Prop) (X : AX) : Prop :=
  ∀ Z s v w u, St c ρ H Z s → VR Z a v → VR Z b w → VR Z e u → wpAny (model c.prog c.w) c.A (f v w u) (Post c rel Z Q) (Exc c Z X) s
end
noncomputable def rUnit : ZM → Unit → Unit → Prop := fun z_ z_ z_ => True
noncomputable def rBool : ZM → Bool → Bool → Prop := fun z_ a b => a = b
set_option tactic.hygienic true in
inductive AF where
  | next | brk | cont
  | ret (a : AV)
set_option tactic.hygienic true in
noncomputable def rFlow : ZM → AF → Flow → Prop
  | _, .next, f => f = .next
  | _, .brk, f => f = .brk
  | _, .cont, f => f = .cont
  | Z, .ret a, f => ∃ v, f = .ret v ∧ VR Z a v
section
variable {α β γ δ : Type} {c : Cx} {rel : ZM → β → α → Prop} {ρ : AEnv} {H : AHs} {Q Q' : β → AEnv → AHs → Prop} {X X' : AX} {Z Z' : ZM}
theorem Post.le (hz : ZLe Z Z') {v : α} {s : Shared} (h : Post c rel Z' Q v s) : Post c rel Z Q v s := by
  obtain ⟨b, ρ', H', Z'', h1, h2, h3, h4⟩ := h
  exact ⟨b, ρ', H', Z'', hz.trans h1, h2, h3, h4⟩
theorem Exc.le (hz : ZLe Z Z') {v : Value} {s : Shared} (h : Exc c Z' X v s) : Exc c Z X v s := by
  obtain ⟨x, cls, args, E, ρ', H', Z'', h0, h00, h1, h2, h3⟩ := h
  exact ⟨x, cls, args, E, ρ', H', Z'', h0, h00, hz.trans h1, h2, h3⟩
theorem Post.imp {v : α} {s : Shared} (h : Post c rel Z Q v s) (hq : ∀ b ρ' H', Q b ρ' H' → Q' b ρ' H') : Post c rel Z Q' v s := by
  obtain ⟨b, ρ', H', Z'', h1, h2, h3, h4⟩ := h
  exact ⟨b, ρ', H', Z'', h1, h2, h3, hq _ _ _ h4⟩
theorem Exc.imp {v : Value} {s : Shared} (h : Exc c Z X v s) (hx : ∀ cl as ρ' H', X cl as ρ' H' → X' cl as ρ' H') : Exc c Z X' v s := by
  obtain ⟨x, cls, args, E, ρ', H', Z'', h0, h00, h1, h2, h3⟩ := h
  exact ⟨x, cls, args, E, ρ', H', Z'', h0, h00, h1, h2, hx _ _ _ _ h3⟩
theorem Post.now {v : α} {b : β} {s : Shared} (S : St c ρ H Z s) (hv : rel Z b v) (h : Q b ρ H) : Post c rel Z Q v s := ⟨b, ρ, H, Z, .refl _, hv, S, h⟩
theorem wpLe {t : Sem α} {s : Shared} (hz : ZLe Z Z') (h : wpAny (model c.prog c.w) c.A t (Post c rel Z' Q) (Exc c Z' X) s) : wpAny (model c.prog c.w) c.A t (Post c rel Z Q) (Exc c Z X) s :=
  wpAny_mono h (fun z_ z_ => Post.le hz) (fun z_ z_ => Exc.le hz)
theorem T.imp {t : Sem α} (h : T c rel t ρ H Q X) (hq : ∀ b ρ' H', Q b ρ' H' → Q' b ρ' H') (hx : ∀ cl as ρ' H', X cl as ρ' H' → X' cl as ρ' H') : T c rel t ρ H Q' X' :=
  fun Z s S => wpAny_mono (h Z s S) (fun z_ z_ p => p.imp hq) (fun z_ z_ p => p.imp hx)
noncomputable def Imp (c : Cx) (ρ : AEnv) (H : AHs) (ρ' : AEnv) (H' : AHs) : Prop := ∀ Z s, St c ρ H Z s → ∃ Z', ZLe Z Z' ∧ St c ρ' H' Z' s
theorem seq1 {t : Sem Value} {f : Value → Sem α} {s : Shared} (h : T c VR t ρ H (fun a ρ₁ H₁ => T1 c rel f a ρ₁ H₁ Q X) X) (S : St c ρ H Z s) :
    wpAny (model c.prog c.w) c.A t (fun v s₁ => wpAny (model c.prog c.w) c.A (f v) (Post c rel Z Q) (Exc c Z X) s₁) (Exc c Z X) s :=
  wpAny_mono (h Z s S) (fun v s₁ ⟨a, ρ₁, H₁, Z₁, hz, hv, S₁, h₁⟩ => wpLe hz (h₁ Z₁ s₁ v S₁ hv)) fun z_ z_ x => x
theorem seq2 {t u : Sem Value} {f : Value → Value → Sem α} {s : Shared} (h : T c VR t ρ H (fun a ρ₁ H₁ => T c VR u ρ₁ H₁ (fun b ρ₂ H₂ => T2 c rel f a b ρ₂ H₂ Q X) X) X) (S : St c ρ H Z s) :
    wpAny (model c.prog c.w) c.A t (fun v s₁ => wpAny (model c.prog c.w) c.A u (fun w s₂ => wpAny (model c.prog c.w) c.A (f v w) (Post c rel Z Q) (Exc c Z X) s₂) (Exc c Z X) s₁) (Exc c Z X) s :=
  wpAny_mono (h Z s S) (fun v s₁ ⟨a, ρ₁, H₁, Z₁, hz, hv, S₁, h₁⟩ => wpAny_mono (h₁ Z₁ s₁ S₁)
    (fun w s₂ ⟨b, ρ₂, H₂, Z₂, hz₂, hw, S₂, h₂⟩ => wpLe (hz.trans hz₂) (h₂ Z₂ s₂ v w S₂ (VR.mono hz₂ _ _ hv) hw)) fun z_ z_ x => x.le hz) fun z_ z_ x => x
end
abbrev TE (c : Cx) (e : Expr) (ρ : AEnv) (H : AHs) (Q : AV → AEnv → AHs → Prop) (X : AX) : Prop := T c VR (eval e c.env) ρ H Q X
abbrev TB (c : Cx) (e : Expr) (ρ : AEnv) (H : AHs) (Q : Bool → AEnv → AHs → Prop) (X : AX) : Prop := T c rBool (isTrue e c.env (eval e c.env)) ρ H Q X
abbrev TX (c : Cx) (st : Stmt) (ρ : AEnv) (H : AHs) (Q : AF → AEnv → AHs → Prop) (X : AX) : Prop := T c rFlow (exec st c.env) ρ H Q X
abbrev TS (c : Cx) (sts : List Stmt) (ρ : AEnv) (H : AHs) (Q : AF → AEnv → AHs → Prop) (X : AX) : Prop := T c rFlow (execs sts c.env) ρ H Q X
section
variable {c : Cx} {ρ : AEnv} {H : AHs} {X : AX} {Q : AF → AEnv → AHs → Prop} {QV : AV → AEnv → AHs → Prop} {QB : Bool → AEnv → AHs → Prop}
set_option tactic.hygienic true in
theorem TS.nil (h : Q .next ρ H) : TS c [] ρ H Q X := fun _ _ S => wpAny_execs_nil (Post.now (b := AF.next) S rfl h)
set_option tactic.hygienic true in
noncomputable def andThen (k : AEnv → AHs → Prop) (Q : AF → AEnv → AHs → Prop) : AF → AEnv → AHs → Prop
  | .next => k
  | f => Q f
set_option tactic.hygienic true in
theorem TS.cons {st : Stmt} {rest : List Stmt} (h : TX c st ρ H (andThen (fun ρ' H' => TS c rest ρ' H' Q X) Q) X) : TS c (st :: rest) ρ H Q X := fun Z s S => by
  refine wpAny_execs_cons (wpAny_mono (h Z s S) (fun f s₁ hp => ?_) fun _ _ x => x)
  obtain ⟨af, ρ₁, H₁, Z₁, hz, hf, S₁, h₁⟩ := hp
  cases af with
  | next => cases hf; exact wpLe hz (h₁ Z₁ s₁ S₁)
  | brk => cases hf; exact ⟨.brk, ρ₁, H₁, Z₁, hz, rfl, S₁, h₁⟩
  | cont => cases hf; exact ⟨.cont, ρ₁, H₁, Z₁, hz, rfl, S₁, h₁⟩
  | ret a => obtain ⟨v, rfl, hv⟩ := hf; exact ⟨.ret a, ρ₁, H₁, Z₁, hz, ⟨v, rfl, hv⟩, S₁, h₁⟩
theorem TX.iff {test : Expr} {body orelse : List Stmt} {pos : Pos} (h : TB c test ρ H (fun b ρ' H' => if b then TS c body ρ' H' Q X else TS c orelse ρ' H' Q X) X) : TX c (.If test body orelse pos) ρ H Q X := fun Z s S => by
  refine wpAny_If (wpAny_mono (h Z s S) (fun b s₁ hp => ?_) fun z_ z_ x => x)
  obtain ⟨b', ρ₁, H₁, Z₁, hz, hf, S₁, h₁⟩ := hp
  have hf' : b' = b := hf
  subst hf'
  cases b' with
  | true => exact wpLe hz (h₁ Z₁ s₁ S₁)
  | false => exact wpLe hz (h₁ Z₁ s₁ S₁)
theorem TX.ret {e : Expr} {pos : Pos} (h : TE c e ρ H (fun a ρ' H' => Q (.ret a) ρ' H') X) : TX c (.Return (some e) pos) ρ H Q X := fun Z s S => by
  refine wpAny_Return_some (wpAny_mono (h Z s S) (fun v s₁ ⟨a, ρ₁, H₁, Z₁, hz, hf, S₁, h₁⟩ => ⟨.ret a, ρ₁, H₁, Z₁, hz, ⟨v, rfl, hf⟩, S₁, h₁⟩) fun z_ z_ x => x)
set_option tactic.hygienic true in
theorem TX.pass {pos : Pos} (h : Q .next ρ H) : TX c (.Pass pos) ρ H Q X := fun _ _ S => wpAny_Pass (Post.now (b := AF.next) S rfl h)
theorem TX.brk {pos : Pos} (h : Q .brk ρ H) : TX c (.Break pos) ρ H Q X := fun z_ z_ S => wpAny_Break (Post.now (b := AF.brk) S rfl h)
theorem TX.cont {pos : Pos} (h : Q .cont ρ H) : TX c (.Continue pos) ρ H Q X := fun z_ z_ S => wpAny_Continue (Post.now (b := AF.cont) S rfl h)
set_option tactic.hygienic true in
theorem TX.expr {e : Expr} {pos : Pos} (h : TE c e ρ H (fun _ ρ' H' => Q .next ρ' H') X) (hi : interactive c.env = false) (hs : swapsWith e Option.none pos.line c.env = pure false) : TX c (.Expr e pos) ρ H Q X := fun Z s S => by
  refine wpAny_Expr_any (wpAny_mono (h Z s S) (fun v s₁ ⟨a, ρ₁, H₁, Z₁, hz, hf, S₁, h₁⟩ => ⟨.next, ρ₁, H₁, Z₁, hz, rfl, S₁, h₁⟩) fun _ _ x => x) hi hs
set_option tactic.hygienic true in
theorem TX.assign {x : Str} {pos' pos : Pos} {value : Expr} (ok : c.Ok) (h : TE c value ρ H (fun a ρ' H' => Q .next (AEnv.put ρ' x a) H') X) (hx : c.Stores x)
    (hs : swapsWith value (some (.Name x pos')) pos.line c.env = pure false) : TX c (.Assign [.Name x pos'] value pos) ρ H Q X := fun Z s S => by
  refine wpAny_Assign_Name (wpAny_mono (h Z s S) (fun v s₁ ⟨a, ρ₁, H₁, Z₁, hz, hv, S₁, h₁⟩ => ?_) fun _ _ x => x) hs
  exact S₁.store ok hx hv fun s' S' => ⟨.next, _, H₁, Z₁, hz, rfl, S', h₁⟩
theorem TE.int {i : Int} {k : Nat} {pos : Pos} (h : QV (.int i) ρ H) : TE c (.Constant (.int i) k pos) ρ H QV X := fun z_ s S => wpAny_Constant_int (Post.now (S.tok _) .int h)
theorem TE.str {x : Str} {k : Nat} {pos : Pos} (h : QV (.str x) ρ H) : TE c (.Constant (.str x) k pos) ρ H QV X := fun z_ s S => wpAny_Constant_str (Post.now (S.tok _) .str h)
theorem TE.none {k : Nat} {pos : Pos} (h : QV AV.none ρ H) : TE c (.Constant .none k pos) ρ H QV X := fun z_ s S => wpAny_Constant_none (Post.now S .val h)
theorem TE.bool {b : Bool} {k : Nat} {pos : Pos} (h : QV (AV.bool b) ρ H) : TE c (.Constant (.bool b) k pos) ρ H QV X := fun z_ s S => wpAny_Constant_bool (Post.now S .val h)
theorem TE.var {x : Str} {pos : Pos} {a : AV} (ok : c.Ok) (hx : ρ.lookup x = some a) (h : QV a ρ H) (hd : (x == ("__debug__" : Str)) = false) (hd2 : (x == ("__classdict__" : Str)) = false) : TE c (.Name x pos) ρ H QV X := fun Z s S => by
  obtain ⟨m, hn, hv⟩ := S.ns
  obtain ⟨v, hv1, hv2⟩ := hv x a hx
  refine wpAny_Name ?_ hd
  rcases hv2 with ⟨hl, hm⟩ | ⟨hl | hl, cc, e1, e2⟩
  · exact wpAny_loadName_local ok.kind hl hn hm (Post.now S hv1 h)
  · exact wpAny_loadName_cell ok.kind hl e1 e2 (Post.now S hv1 h)
  · exact wpAny_loadName_free ok.kind hl e1 e2 (Post.now S hv1 h) hd2
noncomputable def AV.of : Value → AV
  | .int i _ => .int i
  | .str s _ => .str s
  | v => .val v
theorem VR.of (Z : ZM) (v : Value) : VR Z (AV.of v) v := by
  cases v <;> first | exact .val | exact .int | exact .str
theorem TE.glob {x : Str} {pos : Pos} {v : Value} (ok : c.Ok) (hk : c.env.kindOf x = some .globalImplicit) (hx : nsIn c.K mainGlobals x = some (some v)) (h : QV (AV.of v) ρ H) (hd : (x == ("__debug__" : Str)) = false) : TE c (.Name x pos) ρ H QV X := fun Z s S => by
  obtain ⟨p, loose, mg, mb, TR⟩ := ok.glb.top
  exact Name_function_global ok.kind hk (loadGlobal_global (env := c.env) (by rw [ok.globals]; exact TR.g.keeps S.base) (mg_of ok.glb.kin TR.g hx) (Post.now S (VR.of Z v) h)) hd
theorem TE.blt {x : Str} {pos : Pos} {v : Value} (ok : c.Ok) (hk : c.env.kindOf x = some .globalImplicit) (hx : nsIn c.K mainGlobals x = some Option.none) (hb : bootBuiltins x = some v) (hn : x ≠ "__name__") (h : QV (AV.of v) ρ H) (hd : (x == ("__debug__" : Str)) = false) : TE c (.Name x pos) ρ H QV X := fun Z s S => by
  obtain ⟨p, loose, mg, mb, TR⟩ := ok.glb.top
  exact Name_function_global ok.kind hk (loadGlobal_builtin (env := c.env) (by rw [ok.globals]; exact TR.g.keeps S.base) (mg_none_of ok.glb.kin TR.g hx) (by rw [ok.builtins]; exact TR.b.keeps S.base) ((TR.builtins x hn).trans hb) (Post.now S (VR.of Z v) h)) hd
theorem TE.binop {l r : Expr} {op : Operator} {pos : Pos} (h : TE c l ρ H (fun a ρ₁ H₁ => TE c r ρ₁ H₁ (fun b ρ₂ H₂ => T2 c VR (binaryOp op) a b ρ₂ H₂ QV X) X) X) : TE c (.BinOp l op r pos) ρ H QV X := fun Z s S => wpAny_BinOp (seq2 h S)
theorem TE.cmp {l r : Expr} {op : CmpOp} {pos : Pos} (h : TE c l ρ H (fun a ρ₁ H₁ => TE c r ρ₁ H₁ (fun b ρ₂ H₂ => T2 c VR (compareOp op) a b ρ₂ H₂ QV X) X) X) (hm : behindInMarks op r = false) :
    TE c (.Compare l [op] [r] pos) ρ H QV X := fun Z s S => wpAny_Compare1 (seq2 h S) hm
theorem TB.cmp {l r : Expr} {op : CmpOp} {pos : Pos} (h : TE c l ρ H (fun a ρ₁ H₁ => TE c r ρ₁ H₁ (fun b ρ₂ H₂ => T2 c VR (compareOp op) a b ρ₂ H₂ (fun v ρ₃ H₃ => ∃ t, v = AV.bool t ∧ QB t ρ₃ H₃) X) X) X) (hm : behindInMarks op r = false) :
    TB c (.Compare l [op] [r] pos) ρ H QB X := fun Z s S => by
  refine wpAny_isTrue_Compare1 (wpAny_mono (seq2 h S) (fun v s₁ h₁ => wpAny_mono h₁ (fun w s₂ h₂ => wpAny_mono h₂ (fun u s₃ h₃ => ?_) fun z_ z_ x => x) fun z_ z_ x => x) fun z_ z_ x => x) hm
  obtain ⟨a, ρ₃, H₃, Z₃, hz, hv, S₃, t, rfl, hq⟩ := h₃
  cases hv
  exact wpAny_truthy_bool ⟨t, ρ₃, H₃, Z₃, hz, rfl, S₃, hq⟩
theorem TB.not {x : Expr} {pos : Pos} (h : TB c x ρ H (fun b ρ' H' => QB (!b) ρ' H') X) : TB c (.UnaryOp .Not x pos) ρ H QB X := fun Z s S =>
  wpAny_isTrue_Not (wpAny_mono (h Z s S) (fun b s₁ ⟨b', ρ₁, H₁, Z₁, hz, hf, S₁, h₁⟩ => by cases hf; exact ⟨!b, ρ₁, H₁, Z₁, hz, rfl, S₁, h₁⟩) fun z_ z_ x => x)
theorem TE.ifExp {test body orelse : Expr} {pos : Pos} (h : TB c test ρ H (fun b ρ' H' => if b then TE c body ρ' H' QV X else TE c orelse ρ' H' QV X) X) : TE c (.IfExp test body orelse pos) ρ H QV X := fun Z s S => by
  refine wpAny_IfExp (wpAny_mono (h Z s S) (fun b s₁ hp => ?_) fun z_ z_ x => x)
  obtain ⟨b', ρ₁, H₁, Z₁, hz, hf, S₁, h₁⟩ := hp
  have hf' : b' = b := hf
  subst hf'
  cases b' with
  | true => exact wpLe hz (h₁ Z₁ s₁ S₁)
  | false => exact wpLe hz (h₁ Z₁ s₁ S₁)
theorem TB.and1 {x : Expr} {pos : Pos} (h : TB c x ρ H QB X) : T c rBool (allTrue .And [x] c.env) ρ H QB X := fun Z s S =>
  wpAny_allTrue_And_cons (wpAny_mono (h Z s S) (fun b s₁ hp => by cases b <;> first | exact hp | exact wpAny_allTrue_And_nil hp) fun z_ z_ x => x)
theorem TB.andC {x y : Expr} {rest : List Expr} (h : TB c x ρ H (fun b ρ' H' => if b then T c rBool (allTrue .And (y :: rest) c.env) ρ' H' QB X else QB false ρ' H') X) : T c rBool (allTrue .And (x :: y :: rest) c.env) ρ H QB X := fun Z s S =>
  wpAny_allTrue_And_cons (wpAny_mono (h Z s S) (fun b s₁ ⟨b', ρ₁, H₁, Z₁, hz, hf, S₁, h₁⟩ => by
    cases hf
    cases b with
    | true => exact wpLe hz (h₁ Z₁ s₁ S₁)
    | false => exact ⟨false, ρ₁, H₁, Z₁, hz, rfl, S₁, h₁⟩) fun z_ z_ x => x)
theorem TB.or1 {x : Expr} (h : TB c x ρ H QB X) : T c rBool (allTrue .Or [x] c.env) ρ H QB X := fun Z s S =>
  wpAny_allTrue_Or_cons (wpAny_mono (h Z s S) (fun b s₁ hp => by cases b <;> first | exact hp | exact wpAny_allTrue_Or_nil hp) fun z_ z_ x => x)
theorem TB.orC {x y : Expr} {rest : List Expr} (h : TB c x ρ H (fun b ρ' H' => if b then QB true ρ' H' else T c rBool (allTrue .Or (y :: rest) c.env) ρ' H' QB X) X) : T c rBool (allTrue .Or (x :: y :: rest) c.env) ρ H QB X := fun Z s S =>
  wpAny_allTrue_Or_cons (wpAny_mono (h Z s S) (fun b s₁ ⟨b', ρ₁, H₁, Z₁, hz, hf, S₁, h₁⟩ => by
    cases hf
    cases b with
    | true => exact ⟨true, ρ₁, H₁, Z₁, hz, rfl, S₁, h₁⟩
    | false => exact wpLe hz (h₁ Z₁ s₁ S₁)) fun z_ z_ x => x)
theorem TB.boolop {op : BoolOp} {values : List Expr} {pos : Pos} (h : T c rBool (allTrue op values c.env) ρ H QB X) : TB c (.BoolOp op values pos) ρ H QB X := fun Z s S => wpAny_isTrue_BoolOp (h Z s S)
end
end Mine.Internal
end

section
open PySem PySem.W PySem.Calls PyProof.Rows
set_option Elab.async false
set_option maxRecDepth 10000
set_option linter.unusedVariables false
set_option linter.unusedSimpArgs false
namespace Mine.Internal
section
variable {c : Cx} {ρ : AEnv} {H : AHs} {X : AX} {QV : AV → AEnv → AHs → Prop} {QB : Bool → AEnv → AHs → Prop} {a b : Int}
theorem VR.toInt {Z : ZM} {v : Value} (h : VR Z (.int a) v) : ∃ t, v = .int a t := by cases h; exact ⟨_, rfl⟩
theorem VR.toStr {Z : ZM} {x : Str} {v : Value} (h : VR Z (.str x) v) : ∃ t, v = .str x t := by cases h; exact ⟨_, rfl⟩
theorem VR.toVal {Z : ZM} {x v : Value} (h : VR Z (.val x) v) : v = x := by cases h; rfl
theorem T2.add (h : QV (.int (a + b)) ρ H) : T2 c VR (binaryOp .Add) (.int a) (.int b) ρ H QV X := fun Z s v w S hv hw => by
  obtain ⟨t, rfl⟩ := hv.toInt; obtain ⟨u, rfl⟩ := hw.toInt
  with_reducible exact PyProof.Rows.add_int (Post.now (S.tok _) VR.int h)
theorem T2.sub (h : QV (.int (a - b)) ρ H) : T2 c VR (binaryOp .Sub) (.int a) (.int b) ρ H QV X := fun Z s v w S hv hw => by
  obtain ⟨t, rfl⟩ := hv.toInt; obtain ⟨u, rfl⟩ := hw.toInt
  with_reducible exact PyProof.Rows.sub_int (Post.now (S.tok _) VR.int h)
theorem T2.mul (hm : IntMulOk a b) (h : QV (.int (a * b)) ρ H) : T2 c VR (binaryOp .Mult) (.int a) (.int b) ρ H QV X := fun Z s v w S hv hw => by
  obtain ⟨t, rfl⟩ := hv.toInt; obtain ⟨u, rfl⟩ := hw.toInt
  with_reducible exact PyProof.Rows.mul_int (Post.now (S.tok _) VR.int h) hm
theorem T2.floordiv (hb : b ≠ 0) (hs : b.natAbs.log2 < 9000) (h : QV (.int (a.fdiv b)) ρ H) : T2 c VR (binaryOp .FloorDiv) (.int a) (.int b) ρ H QV X := fun Z s v w S hv hw => by
  obtain ⟨t, rfl⟩ := hv.toInt; obtain ⟨u, rfl⟩ := hw.toInt
  with_reducible exact PyProof.Rows.floordiv_int hb (Post.now (S.tok _) VR.int h) (.inl (PyProof.noPylong_of_log2 hs))
theorem T2.mod (hb : b ≠ 0) (hs : b.natAbs.log2 < 9000) (h : QV (.int (a.fmod b)) ρ H) : T2 c VR (binaryOp .Mod) (.int a) (.int b) ρ H QV X := fun Z s v w S hv hw => by
  obtain ⟨t, rfl⟩ := hv.toInt; obtain ⟨u, rfl⟩ := hw.toInt
  with_reducible exact PyProof.Rows.mod_int hb (Post.now (S.tok _) VR.int h)
theorem T2.pow (hb : 0 ≤ b) (hs : (Builtin.Int.intBits a : Int) * b ≤ 2 ^ 27) (h : QV (.int (a ^ b.toNat)) ρ H) : T2 c VR (binaryOp .Pow) (.int a) (.int b) ρ H QV X := fun Z s v w S hv hw => by
  obtain ⟨t, rfl⟩ := hv.toInt; obtain ⟨u, rfl⟩ := hw.toInt
  with_reducible exact PyProof.Rows.pow_int hb hs (Post.now (S.tok _) VR.int h)
theorem T2.and (h : QV (.int (Builtin.bitAnd a b)) ρ H) : T2 c VR (binaryOp .BitAnd) (.int a) (.int b) ρ H QV X := fun Z s v w S hv hw => by
  obtain ⟨t, rfl⟩ := hv.toInt; obtain ⟨u, rfl⟩ := hw.toInt
  with_reducible exact PyProof.Rows.and_int (Post.now (S.tok _) VR.int h)
theorem T2.iadd (h : QV (.int (a + b)) ρ H) : T2 c VR (inplaceOp .Add) (.int a) (.int b) ρ H QV X := fun Z s v w S hv hw => by
  obtain ⟨t, rfl⟩ := hv.toInt; obtain ⟨u, rfl⟩ := hw.toInt
  with_reducible exact PyProof.Rows.iadd_int (Post.now (S.tok _) VR.int h)
theorem T2.isub (h : QV (.int (a - b)) ρ H) : T2 c VR (inplaceOp .Sub) (.int a) (.int b) ρ H QV X := fun Z s v w S hv hw => by
  obtain ⟨t, rfl⟩ := hv.toInt; obtain ⟨u, rfl⟩ := hw.toInt
  with_reducible exact PyProof.Rows.isub_int (Post.now (S.tok _) VR.int h)
theorem T2.imul (hm : IntMulOk a b) (h : QV (.int (a * b)) ρ H) : T2 c VR (inplaceOp .Mult) (.int a) (.int b) ρ H QV X := fun Z s v w S hv hw => by
  obtain ⟨t, rfl⟩ := hv.toInt; obtain ⟨u, rfl⟩ := hw.toInt
  with_reducible exact PyProof.Rows.imul_int (Post.now (S.tok _) VR.int h) hm
theorem T2.lt (h : QV (.bool (decide (a < b))) ρ H) : T2 c VR (compareOp .Lt) (.int a) (.int b) ρ H QV X := fun Z s v w S hv hw => by
  obtain ⟨t, rfl⟩ := hv.toInt; obtain ⟨u, rfl⟩ := hw.toInt
  with_reducible exact PyProof.Rows.lt_int (Post.now S VR.val h)
theorem T2.le (h : QV (.bool (decide (a ≤ b))) ρ H) : T2 c VR (compareOp .LtE) (.int a) (.int b) ρ H QV X := fun Z s v w S hv hw => by
  obtain ⟨t, rfl⟩ := hv.toInt; obtain ⟨u, rfl⟩ := hw.toInt
  with_reducible exact PyProof.Rows.le_int (Post.now S VR.val h)
theorem T2.gt (h : QV (.bool (decide (b < a))) ρ H) : T2 c VR (compareOp .Gt) (.int a) (.int b) ρ H QV X := fun Z s v w S hv hw => by
  obtain ⟨t, rfl⟩ := hv.toInt; obtain ⟨u, rfl⟩ := hw.toInt
  with_reducible exact PyProof.Rows.gt_int (Post.now S VR.val h)
theorem T2.ge (h : QV (.bool (decide (b ≤ a))) ρ H) : T2 c VR (compareOp .GtE) (.int a) (.int b) ρ H QV X := fun Z s v w S hv hw => by
  obtain ⟨t, rfl⟩ := hv.toInt; obtain ⟨u, rfl⟩ := hw.toInt
  with_reducible exact PyProof.Rows.ge_int (Post.now S VR.val h)
theorem T2.eqInt (h : QV (.bool (decide (a = b))) ρ H) : T2 c VR (compareOp .Eq) (.int a) (.int b) ρ H QV X := fun Z s v w S hv hw => by
  obtain ⟨t, rfl⟩ := hv.toInt; obtain ⟨u, rfl⟩ := hw.toInt
  with_reducible exact PyProof.Rows.eq_int (Post.now S VR.val (by have : (a == b) = decide (a = b) := rfl; rw [this]; exact h))
theorem T2.neInt (h : QV (.bool (decide (a ≠ b))) ρ H) : T2 c VR (compareOp .NotEq) (.int a) (.int b) ρ H QV X := fun Z s v w S hv hw => by
  obtain ⟨t, rfl⟩ := hv.toInt; obtain ⟨u, rfl⟩ := hw.toInt
  have e : (a != b) = decide (a ≠ b) := by by_cases q : a = b <;> simp [q]
  with_reducible exact PyProof.Rows.ne_int (Post.now S VR.val (by rw [e]; exact h))
theorem TE.neg {e : Expr} {pos : Pos} (h : TE c e ρ H (fun a ρ₁ H₁ => T1 c VR (unaryOp .USub) a ρ₁ H₁ QV X) X) : TE c (.UnaryOp .USub e pos) ρ H QV X := fun Z s S => wpAny_UnaryOp (seq1 h S)
theorem T1.neg (h : QV (.int (-a)) ρ H) : T1 c VR (unaryOp .USub) (.int a) ρ H QV X := fun Z s v S hv => by
  obtain ⟨t, rfl⟩ := hv.toInt
  with_reducible exact PyProof.Rows.neg_int (Post.now (S.tok _) VR.int h)
noncomputable def AV.isNone : AV → Bool
  | .val .none => true
  | _ => false
theorem VR.isNone {Z : ZM} {x : AV} {v : Value} (h : VR Z x v) : (v == Value.none) = x.isNone := by
  cases x with
  | val w => cases h.toVal; cases v <;> rfl
  | int i => obtain ⟨t, rfl⟩ := h.toInt; rfl
  | str i => obtain ⟨t, rfl⟩ := h.toStr; rfl
  | list xs => cases h; rfl
  | tup xs => cases h; rfl
  | exc cl xs => cases h; rfl
theorem T2.isNone {x : AV} (h : QV (.bool x.isNone) ρ H) : T2 c VR (compareOp .Is) x (.val .none) ρ H QV X := fun Z s v w S hv hw => by
  cases hw.toVal
  with_reducible exact is_none (Post.now S VR.val (by rw [hv.isNone]; exact h))
theorem T2.isNotNone {x : AV} (h : QV (.bool (!x.isNone)) ρ H) : T2 c VR (compareOp .IsNot) x (.val .none) ρ H QV X := fun Z s v w S hv hw => by
  cases hw.toVal
  with_reducible exact isNot_none (Post.now S VR.val (by rw [hv.isNone]; exact h))
end
mutual
noncomputable def AV.toPy : AV → PyData
  | .val v => match v with
    | .bool b => .bool b
    | _ => .none
  | .int i => .int i
  | .str s => .str s
  | .list xs => .list (AV.toPys xs)
  | .tup xs => .tuple (AV.toPys xs)
  | .exc _ _ => .none
noncomputable def AV.toPys : List AV → List PyData
  | [] => []
  | x :: xs => AV.toPy x :: AV.toPys xs
end
mutual
noncomputable def AV.isData : AV → Bool
  | .val v => match v with
    | .bool _ => true
    | .none => true
    | _ => false
  | .int _ => true
  | .str s => PyData.strOk s
  | .list xs => AV.isDatas xs
  | .tup xs => AV.isDatas xs
  | .exc _ _ => false
noncomputable def AV.isDatas : List AV → Bool
  | [] => true
  | x :: xs => AV.isData x && AV.isDatas xs
end
theorem and_left'' {a b : Bool} (h : (a && b) = true) : a = true := by cases a with | false => cases h | true => rfl
theorem and_right'' {a b : Bool} (h : (a && b) = true) : b = true := by cases a with | false => cases h | true => exact h
theorem and_both {a b : Bool} (h : a = true) (h' : b = true) : (a && b) = true := by subst h; exact h'
mutual
theorem AV.canLay : ∀ a : AV, a.isData = true → a.toPy.canLay0 = true
  | .val v, h => by cases v <;> first | rfl | exact Bool.noConfusion (show false = true from h)
  | .int _, _ => rfl
  | .str _, h => h
  | .list xs, h => AV.canLays xs h
  | .tup xs, h => AV.canLays xs h
  | .exc _ _, h => Bool.noConfusion (show false = true from h)
theorem AV.canLays : ∀ a : List AV, AV.isDatas a = true → PyData.canLayAll0 (AV.toPys a) = true
  | [], _ => rfl
  | x :: xs, h => and_both (AV.canLay x (and_left'' h)) (AV.canLays xs (and_right'' h))
end
theorem reads_val {h : Heap} {v : Value} (hd : (AV.val v).isData = true) : ∃ as, Reads h v (AV.val v).toPy as := by
  cases v <;> first | exact ⟨_, .none⟩ | exact ⟨_, .bool _⟩ | exact Bool.noConfusion (show false = true from hd)
theorem VR.reads {Z : ZM} {h : Heap} (hz : ∀ b o, Z b = some o → h.get? b = some o) (a : AV) (v : Value) (q : VR Z a v) : a.isData = true → ∃ as, Reads h v a.toPy as :=
  VR.rec (motive_1 := fun a v z_ => a.isData = true → ∃ as, Reads h v a.toPy as) (motive_2 := fun a v z_ => AV.isDatas a = true → ∃ as, ReadsAll h v (AV.toPys a) as)
    (fun {v} hd => reads_val hd) (fun z_ => ⟨_, .int _ _⟩) (fun z_ => ⟨_, .str _ _⟩) (fun e z_ ih hd => (ih hd).elim fun as h' => ⟨_, .list (hz _ _ e) rfl rfl h'⟩) (fun e z_ ih hd => (ih hd).elim fun as h' => ⟨_, .tuple (hz _ _ e) rfl rfl h'⟩) (fun z_ z_ z_ z_ z_ z_ z_ hd => Bool.noConfusion (show false = true from hd))
    (fun z_ => ⟨_, .nil⟩) (fun z_ z_ i1 i2 hd => (i1 (and_left'' hd)).elim fun as h1 => (i2 (and_right'' hd)).elim fun bs h2 => ⟨_, .cons h1 h2⟩) q
theorem VRs.reads {Z : ZM} {h : Heap} (hz : ∀ b o, Z b = some o → h.get? b = some o) (a : List AV) (v : List Value) (q : VRs Z a v) : AV.isDatas a = true → ∃ as, ReadsAll h v (AV.toPys a) as :=
  VRs.rec (motive_1 := fun a v z_ => a.isData = true → ∃ as, Reads h v a.toPy as) (motive_2 := fun a v z_ => AV.isDatas a = true → ∃ as, ReadsAll h v (AV.toPys a) as)
    (fun {v} hd => reads_val hd) (fun z_ => ⟨_, .int _ _⟩) (fun z_ => ⟨_, .str _ _⟩) (fun e z_ ih hd => (ih hd).elim fun as h' => ⟨_, .list (hz _ _ e) rfl rfl h'⟩) (fun e z_ ih hd => (ih hd).elim fun as h' => ⟨_, .tuple (hz _ _ e) rfl rfl h'⟩) (fun z_ z_ z_ z_ z_ z_ z_ hd => Bool.noConfusion (show false = true from hd))
    (fun z_ => ⟨_, .nil⟩) (fun z_ z_ i1 i2 hd => (i1 (and_left'' hd)).elim fun as h1 => (i2 (and_right'' hd)).elim fun bs h2 => ⟨_, .cons h1 h2⟩) q
theorem VRs.length {Z : ZM} {xs : List AV} {vs : List Value} (h : VRs Z xs vs) : vs.length = xs.length := by
  induction xs generalizing vs with
  | nil => cases h; rfl
  | cons x xs ih => cases h with | cons a b => exact congrArg Nat.succ (ih b)
theorem VRs.append {Z : ZM} {xs ys : List AV} {vs ws : List Value} (h : VRs Z xs vs) (h' : VRs Z ys ws) : VRs Z (xs ++ ys) (vs ++ ws) := by
  induction xs generalizing vs with
  | nil => cases h; exact h'
  | cons x xs ih => cases h with | cons a b => exact .cons a (ih b)
theorem VRs.get {Z : ZM} : ∀ {xs : List AV} {vs : List Value} {i : Nat} {x : AV}, VRs Z xs vs → xs[i]? = some x → ∃ v, vs[i]? = some v ∧ VR Z x v
  | _, _, i, _, .nil, h => by simp at h
  | _, _, 0, _, .cons a b, h => by simp at h; subst h; exact ⟨_, rfl, a⟩
  | _, _, i + 1, _, .cons a b, h => by simp at h; exact b.get h
theorem VRs.take {Z : ZM} : ∀ {xs : List AV} {vs : List Value} (n : Nat), VRs Z xs vs → VRs Z (xs.take n) (vs.take n)
  | _, _, 0, _ => by simp only [List.take_zero]; exact .nil
  | _, _, _ + 1, .nil => .nil
  | _, _, n + 1, .cons a b => .cons a (b.take n)
theorem VRs.drop {Z : ZM} : ∀ {xs : List AV} {vs : List Value} (n : Nat), VRs Z xs vs → VRs Z (xs.drop n) (vs.drop n)
  | _, _, 0, h => h
  | _, _, _ + 1, .nil => .nil
  | _, _, n + 1, .cons a b => b.drop n
noncomputable def oList (xs : List AV) : OD where
  rel Z o := ∃ vs n, o = ⟨.type "list", Option.none, .seq vs n, #[]⟩ ∧ VRs Z xs vs.toList
  mono Z Z' o hz h := let ⟨vs, n, e, r⟩ := h; ⟨vs, n, e, VRs.mono hz _ _ r⟩
inductive LV (H : AHs) : AV → List AV → Prop
  | fz {xs : List AV} : LV H (.list xs) xs
  | own {i : Nat} {M : AM} {l : Addr} {xs : List AV} : H[i]? = some M → M l = some (oList xs) → LV H (.val (.ref l)) xs
theorem LV.obj {H : AHs} {a : AV} {xs : List AV} {c : Cx} {ρ : AEnv} {Z : ZM} {s : Shared} {v : Value} (h : LV H a xs) (S : St c ρ H Z s) (hv : VR Z a v) :
    ∃ l vs n, v = .ref l ∧ s.heap.get? l = some ⟨.type "list", Option.none, .seq vs n, #[]⟩ ∧ VRs Z xs vs.toList := by
  cases h with
  | fz => cases hv with | list e1 e5 => exact ⟨_, _, _, rfl, (S.fz _ _ e1).1, e5⟩
  | own h1 h2 =>
    cases hv
    obtain ⟨o, e1, vs, n, rfl, e2⟩ := S.read h1 h2
    exact ⟨_, _, _, rfl, e1, e2⟩
theorem LV.isList {H : AHs} {a : AV} {xs : List AV} {c : Cx} {ρ : AEnv} {Z : ZM} {s : Shared} {v : Value} (h : LV H a xs) (S : St c ρ H Z s) (hv : VR Z a v) :
    ∃ l vs, v = .ref l ∧ s.heap.IsList l vs ∧ VRs Z xs vs.toList :=
  let ⟨l, vs, n, e, e1, e5⟩ := h.obj S hv; ⟨l, vs, e, ⟨_, e1, rfl, n, rfl⟩, e5⟩
inductive DV (H : AHs) : AV → PyData → Prop
  | data {a : AV} : a.isData = true → DV H a a.toPy
  | own {i : Nat} {M : AM} {l : Addr} {xs : List AV} : H[i]? = some M → M l = some (oList xs) → AV.isDatas xs = true → DV H (.val (.ref l)) (.list (AV.toPys xs))
theorem DV.reads {H : AHs} {a : AV} {d : PyData} {c : Cx} {ρ : AEnv} {Z : ZM} {s : Shared} {v : Value} (h : DV H a d) (S : St c ρ H Z s) (hv : VR Z a v) : (∃ as, Reads s.heap v d as) ∧ d.canLay0 = true := by
  have hz : ∀ b o, Z b = some o → s.heap.get? b = some o := fun b o e => (S.fz b o e).1
  cases h with
  | data hd => exact ⟨VR.reads hz _ _ hv hd, AV.canLay _ hd⟩
  | own h1 h2 hd =>
    cases hv
    obtain ⟨o, e1, vs, n, rfl, e2⟩ := S.read h1 h2
    obtain ⟨as, r⟩ := VRs.reads hz _ _ e2 hd
    refine ⟨⟨_, .list e1 rfl rfl r⟩, ?_⟩
    simpa [PyData.canLay0] using AV.canLays _ hd
section
variable {c : Cx} {ρ : AEnv} {H : AHs} {X : AX} {QV : AV → AEnv → AHs → Prop} {x y : AV} {d e : PyData}
theorem Cx.Ok.u64 (ok : c.Ok) : c.A.units + 65 < cLine := by
  have := ok.units
  have h : cLine = 9900 := rfl
  lia
theorem T2.eqD (ok : c.Ok) (hx : DV H x d) (hy : DV H y e) (hd : d.depth ≤ 64) (h : QV (.bool (PyData.eqv d e)) ρ H) : T2 c VR (compareOp .Eq) x y ρ H QV X := fun Z s v w S hv hw => by
  obtain ⟨⟨as, r1⟩, c1⟩ := hx.reads S hv
  obtain ⟨⟨bs, r2⟩, c2⟩ := hy.reads S hw
  have hu := ok.u64
  have h2 : min d.depth e.depth ≤ d.depth := Nat.min_le_left _ _
  exact SeqAt.compareEq_reads r1 r2 c1 c2 (by lia) (Post.now S .val h)
theorem T2.neD (ok : c.Ok) (hx : DV H x d) (hy : DV H y e) (hd : d.depth ≤ 64) (h : QV (.bool (!PyData.eqv d e)) ρ H) : T2 c VR (compareOp .NotEq) x y ρ H QV X := fun Z s v w S hv hw => by
  obtain ⟨⟨as, r1⟩, c1⟩ := hx.reads S hv
  obtain ⟨⟨bs, r2⟩, c2⟩ := hy.reads S hw
  have hu := ok.u64
  have h2 : min d.depth e.depth ≤ d.depth := Nat.min_le_left _ _
  exact SeqAt.compareNe_reads r1 r2 c1 c2 (by lia) (Post.now S .val h)
theorem T2.inL {ys : List PyData} (ok : c.Ok) (hx : DV H x d) (hy : DV H y (.list ys)) (hd : d.depth ≤ 64) (h : QV (.bool (ys.any fun z => PyData.eqv z d)) ρ H) : T2 c VR (compareOp .In) x y ρ H QV X := fun Z s v w S hv hw => by
  obtain ⟨⟨as, r1⟩, c1⟩ := hx.reads S hv
  obtain ⟨⟨bs, r2⟩, c2⟩ := hy.reads S hw
  have hu := ok.u64
  have h2 : min (PyData.depthAll ys) d.depth ≤ d.depth := Nat.min_le_right _ _
  exact SeqAt.in_list_reads r2 r1 (by simpa [PyData.canLay0] using c2) c1 (by lia) (Post.now S .val h)
theorem T2.notInL {ys : List PyData} (ok : c.Ok) (hx : DV H x d) (hy : DV H y (.list ys)) (hd : d.depth ≤ 64) (h : QV (.bool (!ys.any fun z => PyData.eqv z d)) ρ H) : T2 c VR (compareOp .NotIn) x y ρ H QV X := fun Z s v w S hv hw => by
  obtain ⟨⟨as, r1⟩, c1⟩ := hx.reads S hv
  obtain ⟨⟨bs, r2⟩, c2⟩ := hy.reads S hw
  have hu := ok.u64
  have h2 : min (PyData.depthAll ys) d.depth ≤ d.depth := Nat.min_le_right _ _
  exact SeqAt.notIn_list_reads r2 r1 (by simpa [PyData.canLay0] using c2) c1 (by lia) (Post.now S .val h)
end
end Mine.Internal
end

section
open PySem PySem.W PySem.Calls PyProof.Rows
set_option Elab.async false
set_option maxRecDepth 10000
set_option linter.unusedVariables false
set_option linter.unusedSimpArgs false
namespace Mine.Internal
section
variable {c : Cx} {ρ : AEnv} {H : AHs} {Z : ZM} {s s' : Shared}
theorem St.newF {b : Addr} {o : Obj} (S : St c ρ H Z s) (hk : ∀ b o, s.heap.get? b = some o → s'.heap.get? b = some o) (hg : s'.gens = s.gens) (ho : s'.os = s.os)
    (hb : s.heap.get? b = Option.none) (hb' : s'.heap.get? b = some o) (hd : Fz o) : ZLe Z (Z.put b o) ∧ St c ρ H (Z.put b o) s' := by
  have S1 := S.new (d := ⟨fun z_ o' => o' = o, fun z_ z_ z_ z_ h => h⟩) hk hg ho hb hb' rfl
  obtain ⟨o', e1, e2, e3, e4⟩ := S1.freeze (i := 0) rfl (fun o' h => by cases h; exact hd)
  have e2' : o' = o := e2
  subst e2'
  exact ⟨e3, e4⟩
theorem ZM.put_self (Z : ZM) (a : Addr) (o : Obj) : Z.put a o a = some o := by simp [ZM.put]
theorem St.fresh (S : St c ρ H Z s) : s.heap.get? s.heap.objs.size = Option.none := Heap.get?_none_of_le (Nat.le_refl _)
theorem St.push {o : Obj} {d : OD} (S : St c ρ H Z s) (hf : o.isFreed = false) (hd : d.rel Z o) : St c ρ (one s.heap.objs.size d :: H) Z { s with heap := s.heap.push o } :=
  S.new (fun b o' e => Heap.get?_push_of_some _ e) rfl rfl S.fresh (Heap.get?_push_size _ hf) hd
theorem St.pushF {o : Obj} (S : St c ρ H Z s) (hd : Fz o) (hf : o.isFreed = false) : ZLe Z (Z.put s.heap.objs.size o) ∧ St c ρ H (Z.put s.heap.objs.size o) { s with heap := s.heap.push o } :=
  S.newF (fun b o' e => Heap.get?_push_of_some _ e) rfl rfl S.fresh (Heap.get?_push_size _ hf) hd
theorem Post.newL {vs : List Value} {xs : List AV} {QV : AV → AEnv → AHs → Prop} (S : St c ρ H Z s) (hv : VRs Z xs vs) (h : ∀ l, QV (.ref l) ρ (one l (oList xs) :: H)) :
    Post c VR Z QV (.ref s.heap.objs.size) { s with heap := s.heap.push { cls := .type "list", data := .seq vs.toArray } } :=
  ⟨_, ρ, _, Z, .refl _, .val, S.push (d := oList xs) rfl ⟨_, _, rfl, hv⟩, h _⟩
theorem Post.newLF {vs : List Value} {xs : List AV} {QV : AV → AEnv → AHs → Prop} (S : St c ρ H Z s) (hv : VRs Z xs vs) (h : QV (.list xs) ρ H) :
    Post c VR Z QV (.ref s.heap.objs.size) { s with heap := s.heap.push { cls := .type "list", data := .seq vs.toArray } } :=
  let ⟨hz, S'⟩ := S.pushF (o := { cls := .type "list", data := .seq vs.toArray }) (.inl ⟨_, _, rfl⟩) rfl
  ⟨_, ρ, _, _, hz, .list (ZM.put_self _ _ _) (VRs.mono hz _ _ hv), S', h⟩
theorem Post.newT {vs : List Value} {xs : List AV} {QV : AV → AEnv → AHs → Prop} (S : St c ρ H Z s) (hv : VRs Z xs vs) (h : QV (.tup xs) ρ H) :
    Post c VR Z QV (.ref s.heap.objs.size) { s with heap := s.heap.push { cls := .type "tuple", data := .seq vs.toArray } } :=
  let ⟨hz, S'⟩ := S.pushF (o := { cls := .type "tuple", data := .seq vs.toArray }) (.inl ⟨_, _, rfl⟩) rfl
  ⟨_, ρ, _, _, hz, .tup (ZM.put_self _ _ _) (VRs.mono hz _ _ hv), S', h⟩
end
abbrev TEs (c : Cx) (es : List Expr) (pos : Pos) (ρ : AEnv) (H : AHs) (Q : List AV → AEnv → AHs → Prop) (X : AX) : Prop := T c VRs (spliced (backTo pos (starEach es c.env))) ρ H Q X
section
variable {c : Cx} {ρ : AEnv} {H : AHs} {X : AX} {QV : AV → AEnv → AHs → Prop} {QL : List AV → AEnv → AHs → Prop}
theorem TEs.nil {pos : Pos} (h : QL [] ρ H) : TEs c [] pos ρ H QL X := fun Z s S => wpAny_items_nil (Post.now S .nil h)
theorem TEs.cons {e : Expr} {rest : List Expr} {pos : Pos} (h : TE c e ρ H (fun a ρ₁ H₁ => TEs c rest pos ρ₁ H₁ (fun as ρ₂ H₂ => QL (a :: as) ρ₂ H₂) X) X)
    (he : starEach (e :: rest) c.env = (false, eval e c.env) :: starEach rest c.env) : TEs c (e :: rest) pos ρ H QL X := fun Z s S => by
  refine wpAny_items_cons (wpAny_mono (h Z s S) (fun v s₁ ⟨a, ρ₁, H₁, Z₁, hz, hv, S₁, h₁⟩ => wpAny_mono (h₁ Z₁ s₁ S₁) (fun vs s₂ ⟨as, ρ₂, H₂, Z₂, hz₂, hvs, S₂, h₂⟩ => ?_) fun z_ z_ x => x.le hz) fun z_ z_ x => x) he
  exact ⟨_, ρ₂, H₂, Z₂, hz.trans hz₂, .cons (VR.mono hz₂ _ _ hv) hvs, S₂, h₂⟩
theorem TE.listO {elts : List Expr} {pos : Pos} (h : TEs c elts pos ρ H (fun as ρ₁ H₁ => as.length ≤ 1000000 ∧ ∀ l, QV (.ref l) ρ₁ (one l (oList as) :: H₁)) X) : TE c (.List elts pos) ρ H QV X := fun Z s S => by
  refine wpAny_List (wpAny_mono (h Z s S) (fun vs s₁ ⟨as, ρ₁, H₁, Z₁, hz, hv, S₁, hl, h₁⟩ => ⟨?_, (Post.newL S₁ hv h₁).le hz⟩) fun z_ z_ x => x)
  rw [hv.length]; have : sizeLine = 16777216 := rfl; (exact Nat.le_trans (by assumption) (Nat.le_of_ble_eq_true rfl))
theorem TE.list {elts : List Expr} {pos : Pos} (h : TEs c elts pos ρ H (fun as ρ₁ H₁ => as.length ≤ 1000000 ∧ QV (.list as) ρ₁ H₁) X) : TE c (.List elts pos) ρ H QV X := fun Z s S => by
  refine wpAny_List (wpAny_mono (h Z s S) (fun vs s₁ ⟨as, ρ₁, H₁, Z₁, hz, hv, S₁, hl, h₁⟩ => ⟨?_, (Post.newLF S₁ hv h₁).le hz⟩) fun z_ z_ x => x)
  rw [hv.length]; have : sizeLine = 16777216 := rfl; (exact Nat.le_trans (by assumption) (Nat.le_of_ble_eq_true rfl))
theorem TE.tup {elts : List Expr} {k : Nat} {pos : Pos} (h : TEs c elts pos ρ H (fun as ρ₁ H₁ => as.length ≤ 1000000 ∧ QV (.tup as) ρ₁ H₁) X) : TE c (.Tuple elts k pos) ρ H QV X := fun Z s S => by
  refine wpAny_Tuple (wpAny_mono (h Z s S) (fun vs s₁ ⟨as, ρ₁, H₁, Z₁, hz, hv, S₁, hl, h₁⟩ => ⟨?_, (Post.newT S₁ hv h₁).le hz⟩) fun z_ z_ x => x)
  rw [hv.length]; have : sizeLine = 16777216 := rfl; (exact Nat.le_trans (by assumption) (Nat.le_of_ble_eq_true rfl))
theorem TE.sub {value slice : Expr} {pos : Pos} (h : TE c value ρ H (fun a ρ₁ H₁ => TE c slice ρ₁ H₁ (fun b ρ₂ H₂ => T2 c VR (subscriptTail value slice) a b ρ₂ H₂ QV X) X) X) : TE c (.Subscript value slice pos) ρ H QV X := fun Z s S => Subscript_ (seq2 h S)
noncomputable def isSlice : Expr → Bool
  | .Slice _ _ _ _ => true
  | _ => false
theorem subscripted_plain {slice : Expr} (h : isSlice slice = false) (o i : Value) : subscripted slice false o i = operate [o, i] (getItem o i) := by
  cases slice <;> first | rfl | exact Bool.noConfusion (show true = false from h)
theorem T2.item {value slice : Expr} {a x : AV} {xs : List AV} {k : Int} (hl : LV H a xs) (h0 : 0 ≤ k) (hk : k < 2 ^ 63) (hx : xs[k.toNat]? = some x) (h : QV x ρ H) (hs : isSlice slice = false) :
    T2 c VR (subscriptTail value slice) a (.int k) ρ H QV X := fun Z s v w S hv hw => by
  obtain ⟨t, rfl⟩ := hw.toInt
  obtain ⟨l, vs, rfl, hL, hvs⟩ := hl.isList S hv
  obtain ⟨y, hy, hxy⟩ := hvs.get hx
  exact tail_any hL.typeIs slot_list_getitem.lookup (wpAny_getItem_list hL h0 hk (by simpa using hy) (Post.now S hxy h)) (subscripted_plain hs _ _)
theorem T2.itemNeg {value slice : Expr} {a x : AV} {xs : List AV} {k : Int} (hl : LV H a xs) (h0 : k < 0) (h1 : -(xs.length : Int) ≤ k) (hk : -2 ^ 63 ≤ k) (hx : xs[(k + xs.length).toNat]? = some x) (h : QV x ρ H) (hs : isSlice slice = false) :
    T2 c VR (subscriptTail value slice) a (.int k) ρ H QV X := fun Z s v w S hv hw => by
  obtain ⟨t, rfl⟩ := hw.toInt
  obtain ⟨l, vs, rfl, hL, hvs⟩ := hl.isList S hv
  have hn : vs.size = xs.length := by rw [← hvs.length, Array.length_toList]
  obtain ⟨y, hy, hxy⟩ := hvs.get hx
  exact tail_any hL.typeIs slot_list_getitem.lookup (wpAny_getItem_list_neg hL h0 (by rw [hn]; exact h1) hk (by rw [hn]; simpa using hy) (Post.now S hxy h)) (subscripted_plain hs _ _)
theorem VR.toTup {Z : ZM} {xs : List AV} {v : Value} (h : VR Z (.tup xs) v) : ∃ l vs n, v = .ref l ∧ Z l = some ⟨.type "tuple", Option.none, .seq vs n, #[]⟩ ∧ VRs Z xs vs.toList := by
  cases h with | tup e1 e5 => exact ⟨_, _, _, rfl, e1, e5⟩
theorem VR.isTup {Z : ZM} {xs : List AV} {v : Value} {s : Shared} (h : VR Z (.tup xs) v) (S : St c ρ H Z s) : ∃ l vs, v = .ref l ∧ IsTup s.heap l vs ∧ VRs Z xs vs.toList := by
  obtain ⟨l, vs, n, e, e1, e5⟩ := h.toTup
  exact ⟨l, vs, e, ⟨_, (S.fz _ _ e1).1, rfl, n, rfl⟩, e5⟩
theorem T2.itemT {value slice : Expr} {x : AV} {xs : List AV} {k : Int} {j : Nat} (hlo : -2 ^ 63 ≤ k) (hk : k < 2 ^ 63) (hj : seqIndex? k xs.length = some j) (hx : xs[j]? = some x) (h : QV x ρ H) (hs : isSlice slice = false) :
    T2 c VR (subscriptTail value slice) (.tup xs) (.int k) ρ H QV X := fun Z s v w S hv hw => by
  obtain ⟨t, rfl⟩ := hw.toInt
  obtain ⟨l, vs, rfl, hL, hvs⟩ := hv.isTup S
  have hn : vs.size = xs.length := by rw [← hvs.length, Array.length_toList]
  obtain ⟨y, hy, hxy⟩ := hvs.get hx
  exact tail_any hL.typeIs slot_tuple_getitem.lookup (PyProof.Rows.getItem_tuple hL hlo hk (by rw [hn]; exact hj) (by simpa using hy) (Post.now S hxy h)) (subscripted_plain hs _ _)
inductive SlOf : AV → AV → List AV → List AV → Prop
  | upto {k : Int} {xs : List AV} : 0 ≤ k → SlOf .none (.int k) xs (xs.take k.toNat)
  | from {k : Int} {xs : List AV} : 0 ≤ k → SlOf (.int k) .none xs (xs.drop k.toNat)
set_option tactic.hygienic true in
theorem SlOf.parts {Z : ZM} {lo hi : AV} {xs ys : List AV} {vl vu : Value} {vs : Array Value} (h : SlOf lo hi xs ys) (hl : VR Z lo vl) (hu : VR Z hi vu) (hx : VRs Z xs vs.toList) :
    ∃ l u ws, IsPart vl l ∧ IsPart vu u ∧ slicePick vs l u Option.none = List.toArray ws ∧ VRs Z ys ws := by
  cases h with
  | upto h0 =>
    cases hl; cases hu
    rename_i k t
    obtain ⟨n, rfl⟩ := Int.eq_ofNat_of_zero_le h0
    exact ⟨_, _, _, .none, .int _ _, slicePick_upto' vs n, hx.take n⟩
  | «from» h0 =>
    cases hl; cases hu
    rename_i k t
    obtain ⟨n, rfl⟩ := Int.eq_ofNat_of_zero_le h0
    exact ⟨_, _, _, .int _ _, .none, slicePick_from' vs n, hx.drop n⟩
theorem T.partNone (h : QV .none ρ H) : T c VR (evalPart Option.none c.env) ρ H QV X := fun Z s S => wpAny_pure (Post.now S .val h)
theorem T.partSome {e : Expr} (h : TE c e ρ H QV X) : T c VR (evalPart (some e) c.env) ρ H QV X := h
theorem slice_core {value : Expr} {lower upper : Option Expr} {p pos : Pos} {R : AV → List AV → AEnv → AHs → Prop}
    (hR : ∀ ys ρ' H' Z' s' ws, R .none ys ρ' H' → St c ρ' H' Z' s' → VRs Z' ys ws → Post c VR Z' QV (.ref s'.heap.objs.size) { s' with heap := s'.heap.push { cls := .type "list", data := .seq ws.toArray } })
    (h : TE c value ρ H (fun a ρ₁ H₁ => T c VR (evalPart lower c.env) ρ₁ H₁ (fun lo ρ₂ H₂ => T c VR (evalPart upper c.env) ρ₂ H₂ (fun hi ρ₃ H₃ => ∃ xs ys, LV H₃ a xs ∧ SlOf lo hi xs ys ∧ xs.length ≤ 1000000 ∧ R .none ys ρ₃ H₃) X) X) X) :
    TE c (.Subscript value (.Slice lower upper Option.none p) pos) ρ H QV X := fun Z s S => by
  refine Subscript_ (wpAny_mono (h Z s S) (fun v s₁ ⟨a, ρ₁, H₁, Z₁, hz, hv, S₁, h₁⟩ => wpAny_Slice (wpAny_mono (h₁ Z₁ s₁ S₁) (fun vl s₂ ⟨lo, ρ₂, H₂, Z₂, hz₂, hl, S₂, h₂⟩ => wpAny_mono (h₂ Z₂ s₂ S₂)
    (fun vu s₃ ⟨hi, ρ₃, H₃, Z₃, hz₃, hu, S₃, xs, ys, hL, hS, hn, hq⟩ => ?_) fun z_ z_ x => x.le (hz.trans hz₂)) fun z_ z_ x => x.le hz)) fun z_ z_ x => x)
  obtain ⟨l, vs, rfl, hLi, hvs⟩ := hL.isList S₃ (VR.mono (hz₂.trans hz₃) _ _ hv)
  obtain ⟨pl, pu, ws, h1, h2, h3, h4⟩ := hS.parts (VR.mono hz₃ _ _ hl) hu hvs
  refine wpAny_pure ?_
  refine tail_any (hLi.push _).typeIs slot_list_getitem.lookup (wpAny_getItem_list_slice (hLi.push _) (Heap.IsSliceOf.new ..) h1 h2 .none (by simp) ?_ ?_) (ops := [_, _]) rfl
  · rw [h3]
    exact (hR ys ρ₃ H₃ Z₃ _ ws hq (S₃.ext (s' := { s₃ with heap := s₃.heap.push { cls := .type "slice", data := .fields #[vl, vu, .none] } }) (fun b o e => Heap.get?_push_of_some _ e) rfl rfl) h4).le ((hz.trans hz₂).trans hz₃)
  · have : vs.size = xs.length := by rw [← hvs.length, Array.length_toList]
    have h9 : sizeLine = 16777216 := rfl
    lia
theorem TE.slice {value : Expr} {lower upper : Option Expr} {p pos : Pos}
    (h : TE c value ρ H (fun a ρ₁ H₁ => T c VR (evalPart lower c.env) ρ₁ H₁ (fun lo ρ₂ H₂ => T c VR (evalPart upper c.env) ρ₂ H₂ (fun hi ρ₃ H₃ => ∃ xs ys, LV H₃ a xs ∧ SlOf lo hi xs ys ∧ xs.length ≤ 1000000 ∧ QV (.list ys) ρ₃ H₃) X) X) X) :
    TE c (.Subscript value (.Slice lower upper Option.none p) pos) ρ H QV X :=
  slice_core (R := fun z_ ys ρ' H' => QV (.list ys) ρ' H') (fun ys ρ' H' Z' s' ws hq S hv => Post.newLF S hv hq) h
theorem TE.sliceO {value : Expr} {lower upper : Option Expr} {p pos : Pos}
    (h : TE c value ρ H (fun a ρ₁ H₁ => T c VR (evalPart lower c.env) ρ₁ H₁ (fun lo ρ₂ H₂ => T c VR (evalPart upper c.env) ρ₂ H₂ (fun hi ρ₃ H₃ => ∃ xs ys, LV H₃ a xs ∧ SlOf lo hi xs ys ∧ xs.length ≤ 1000000 ∧ ∀ l, QV (.ref l) ρ₃ (one l (oList ys) :: H₃)) X) X) X) :
    TE c (.Subscript value (.Slice lower upper Option.none p) pos) ρ H QV X :=
  slice_core (R := fun z_ ys ρ' H' => ∀ l, QV (.ref l) ρ' (one l (oList ys) :: H')) (fun ys ρ' H' Z' s' ws hq S hv => Post.newL S hv hq) h
end
end Mine.Internal
end

section
open PySem PySem.W PySem.Calls PyProof.Rows
set_option Elab.async false
set_option maxRecDepth 10000
set_option linter.unusedVariables false
set_option linter.unusedSimpArgs false
namespace Mine.Internal
noncomputable def TC (c : Cx) (f : AV) (as : List AV) (ρ : AEnv) (H : AHs) (Q : AV → AEnv → AHs → Prop) (X : AX) : Prop :=
  ∀ Z s fv vs, St c ρ H Z s → VR Z f fv → VRs Z as vs → wpAny (model c.prog c.w) c.A (call fv vs) (Post c VR Z Q) (Exc c Z X) s
noncomputable def Keepy (c : Cx) (v : Value) : Prop := (∃ id, v = .builtin id) ∨ (∃ T, v = .type T) ∨ keepIn c.K v = true
theorem Keepy.looks {c : Cx} {v : Value} (k : Keepy c v) (ok : c.Ok) (h : Heap) (X : c.base.StaysIn h) : ∃ k, (k = Keeper.frame ∨ k = Keeper.machine ∨ k = Keeper.boundFrame) ∧ Looks (model c.prog c.w) h (keeperOf v) k := by
  rcases k with ⟨id, rfl⟩ | ⟨T, rfl⟩ | hk
  · exact ⟨.machine, .inr (.inl rfl), Looks.of_pure rfl⟩
  · exact ⟨.machine, .inr (.inl rfl), Looks.of_pure rfl⟩
  · exact keeps_K hk h (ok.glb.kin.keeps X)
section
variable {c : Cx} {ρ : AEnv} {H : AHs} {X : AX} {QV : AV → AEnv → AHs → Prop}
noncomputable def plainArgs (args : List Expr) : Bool := args.all fun | .Starred _ _ => false | _ => true
theorem starEach_cons {env : Env} {e : Expr} {rest : List Expr} (h : plainArgs (e :: rest) = true) : starEach (e :: rest) env = (false, eval e env) :: starEach rest env := by
  cases e <;> first | rfl | exact Bool.noConfusion (show false = true from h)
theorem starEach_plain {env : Env} : ∀ {args : List Expr}, plainArgs args = true → starEach args env = args.map fun e => (false, eval e env)
  | [], _ => rfl
  | e :: rest, h => by
    rw [List.map_cons, ← starEach_plain (and_right'' h)]
    exact starEach_cons h
theorem evalArgs_nilT {M : Model} {A : Around} {E : Value → Shared → Prop} {s : Shared} {f : Value} {Q : Args → Shared → Prop} (h : wpAny M A (spliced []) (fun vs s' => Q ⟨vs, []⟩ s') E s) : wpAny M A (evalArgs f true [] []) Q E s := by
  unfold evalArgs
  show wpAny M A (spliced [] >>= _) Q E s
  refine wpAny_bind (wpAny_mono h (fun vs s' h' => ?_) fun z_ z_ x => x)
  refine wpAny_holding ?_
  exact wpAny_bind (wpAny_pure (wpAny_bind (wpAny_pure (wpAny_pure h'))))
theorem callWith_T {pos : Pos} {fv : Value} {first : List Value} {args : List Expr} {Z : ZM} {s : Shared} {R : List AV → AEnv → AHs → Prop} (ok : c.Ok) (hk : Keepy c fv) (hp : plainArgs args = true) (S : St c ρ H Z s)
    (h : TEs c args pos ρ H R X)
    (hR : ∀ as ρ' H' Z' s' vs, ZLe Z Z' → R as ρ' H' → St c ρ' H' Z' s' → VRs Z' as vs → wpAny (model c.prog c.w) c.A (call fv (first ++ vs)) (Post c VR Z' QV) (Exc c Z' X) s') :
    wpAny (model c.prog c.w) c.A (callWith pos fv first (backTo pos (starEach args c.env)) []) (Post c VR Z QV) (Exc c Z X) s := by
  have hany : (backTo pos (starEach args c.env)).any (·.1) = false := by
    rw [starEach_plain hp]; simp [backTo, List.any_eq_false]
  have h2 : wpAny (model c.prog c.w) c.A (spliced (backTo pos (starEach args c.env))) (fun vs s₁ => c.base.StaysIn s₁.heap ∧ wpAny (model c.prog c.w) c.A (call fv (first ++ vs)) (Post c VR Z QV) (Exc c Z X) s₁) (Exc c Z X) s :=
    wpAny_mono (h Z s S) (fun vs s₁ ⟨as, ρ₁, H₁, Z₁, hz, hv, S₁, h₁⟩ => ⟨S₁.base, wpLe hz (hR as ρ₁ H₁ Z₁ s₁ vs hz h₁ S₁ hv)⟩) fun z_ z_ x => x
  refine callWith_of (P := c.base.StaysIn) (by rw [hany]; rfl) (hk.looks ok) ?_
  cases args with
  | nil => exact evalArgs_nilT h2
  | cons e rest =>
    rw [starEach_cons hp] at h2 ⊢
    exact evalArgs_plain h2
theorem TE.callN {x : Str} {p pos : Pos} {args : List Expr} (ok : c.Ok) (h : TE c (.Name x p) ρ H (fun f ρ₁ H₁ => ∃ fv, f = .val fv ∧ Keepy c fv ∧ TEs c args pos ρ₁ H₁ (fun as ρ₂ H₂ => TC c (.val fv) as ρ₂ H₂ QV X) X) X)
    (hp : plainArgs args = true) : TE c (.Call (.Name x p) args [] pos) ρ H QV X := fun Z s S => by
  show wpAny _ _ (eval (.Name x p) c.env >>= fun f => callWith pos f [] (backTo pos (starEach args c.env)) []) _ _ s
  refine wpAny_bind (wpAny_mono (h Z s S) (fun v s₁ ⟨f, ρ₁, H₁, Z₁, hz, hv, S₁, fv, hf, hk, h₁⟩ => ?_) fun z_ z_ x => x)
  subst hf
  cases hv
  exact wpLe hz (callWith_T ok hk hp S₁ h₁ fun as ρ' H' Z' s' vs hz' hr S' hvs => hr Z' s' v vs S' .val hvs)
noncomputable def MethIs (c : Cx) (H : AHs) (a : AV) (name : Str) (fv : Value) : Prop :=
  ∀ ρ Z s v pl Q E, St c ρ H Z s → VR Z a v → Q (fv, [v]) s → wpAny (model c.prog c.w) c.A (getMethod v name pl) Q E s
theorem TE.meth {o : Expr} {name : Str} {apos pos : Pos} {args : List Expr} (ok : c.Ok)
    (h : TE c o ρ H (fun a ρ₁ H₁ => ∃ fv, MethIs c H₁ a name fv ∧ Keepy c fv ∧ TEs c args pos ρ₁ H₁ (fun as ρ₂ H₂ => TC c (.val fv) (a :: as) ρ₂ H₂ QV X) X) X)
    (hp : plainArgs args = true) (hn : args.length < 30) (hbase : attributeBase o name c.env (eval o c.env) = eval o c.env) (hline : (apos.endLine == pos.line) = true) :
    TE c (.Call (.Attribute o name apos) args [] pos) ρ H QV X := fun Z s S => by
  have hall : (backTo pos (starEach args c.env)).all (fun x => !x.1) = true := by
    rw [starEach_plain hp]; simp [backTo]
  have hform : methodCallForm (args.length + 0) (backTo pos (starEach args c.env)) [] = true := by
    unfold methodCallForm; rw [hall]; simp [hn]
  show wpAny _ _ (attributeBase o name c.env (eval o c.env) >>= fun ov => standAt apos.atName >>= fun z_ => methodCall o name apos pos c.env ov (args.length + 0) (backTo pos (starEach args c.env)) []) _ _ s
  rw [hbase]
  refine wpAny_bind (wpAny_mono (h Z s S) (fun v s₁ ⟨a, ρ₁, H₁, Z₁, hz, hv, S₁, fv, hm, hk, h₁⟩ => wpAny_bind (wpAny_standAt ?_)) fun z_ z_ x => x)
  unfold methodCall calleeOf methodCallPos
  rw [hform]
  refine wpAny_bind (wpAny_holding ?_)
  rw [if_pos rfl]
  refine hm _ _ _ _ _ _ _ S₁ hv ?_
  refine wpAny_bind ?_
  simp only [hline, Bool.not_true, Bool.false_or, if_true]
  refine wpAny_pure ?_
  exact wpLe hz (callWith_T ok hk hp S₁ h₁ fun as ρ' H' Z' s' vs hz' hr S' hvs => hr Z' s' fv (v :: vs) S' .val (.cons (VR.mono hz' _ _ hv) hvs))
end
section
variable {c : Cx} {ρ : AEnv} {H : AHs} {X : AX} {QV : AV → AEnv → AHs → Prop} {a : AV} {xs : List AV}
theorem MethIs.list {name : Str} {id : String} (hl : LV H a xs) (slot : Slot "list" name id) (hty : typeOf (.builtin id) = pure (.type "method_descriptor")) : MethIs c H a name (.builtin id) := fun ρ Z s v pl Q E S hv h => by
  obtain ⟨l, vs, n, rfl, e1, e5⟩ := hl.obj S hv
  exact getMethod_builtin ⟨_, e1, rfl⟩ PySem.F.plainAttrs_list slot hty (fun a e => by cases e; exact ⟨_, e1, rfl⟩) h
end
end Mine.Internal
end

section
open PySem PySem.W PySem.Calls PyProof.Rows
set_option Elab.async false
set_option maxRecDepth 10000
set_option linter.unusedVariables false
set_option linter.unusedSimpArgs false
namespace Mine.Internal
inductive SV (H : AHs) : AV → List AV → Prop
  | l {a : AV} {xs : List AV} : LV H a xs → SV H a xs
  | t {xs : List AV} : SV H (.tup xs) xs
theorem SV.obj {H : AHs} {a : AV} {xs : List AV} {c : Cx} {ρ : AEnv} {Z : ZM} {s : Shared} {v : Value} (h : SV H a xs) (S : St c ρ H Z s) (hv : VR Z a v) :
    ∃ T l vs n, (T = "list" ∨ T = "tuple") ∧ v = .ref l ∧ s.heap.get? l = some ⟨.type T, Option.none, .seq vs n, #[]⟩ ∧ VRs Z xs vs.toList := by
  cases h with
  | l h => obtain ⟨l, vs, n, e, e1, e5⟩ := h.obj S hv; exact ⟨_, l, vs, n, .inl rfl, e, e1, e5⟩
  | t => obtain ⟨l, vs, n, e, e1, e5⟩ := hv.toTup; exact ⟨_, l, vs, n, .inr rfl, e, (S.fz _ _ e1).1, e5⟩
theorem one_put {a : Addr} {d d' : OD} : (one a d).put a d' = one a d' := by
  funext b; unfold AM.put one; split <;> rfl
theorem VRs.toArr {Z : ZM} {xs : List AV} {vs : Array Value} (h : VRs Z xs vs.toList) : vs.size = xs.length := by rw [← h.length, Array.length_toList]
section
variable {c : Cx} {ρ : AEnv} {H : AHs} {X : AX} {QV : AV → AEnv → AHs → Prop} {i : Nat} {M : AM} {l : Addr} {xs ys : List AV} {a : AV}
theorem sizeLineIs : sizeLine = 16777216 := rfl
theorem TC.append (hi : H[i]? = some M) (hl : M l = some (oList xs)) (hn : xs.length ≤ 1000000) (h : QV .none ρ (H.set i (M.put l (oList (xs ++ [a]))))) :
    TC c (.val (.builtin "list.append")) [.ref l, a] ρ H QV X := fun Z s fv vs S hf hv => by
  cases hf
  cases hv with | cons h1 h2 => cases h1; cases h2 with | cons h2 h3 => cases h3; exact (by
    obtain ⟨o, e1, us, n, rfl, e2⟩ := S.read hi hl
    have hsz := e2.toArr
    have hL := sizeLineIs
    refine append_at e1 (fun h' hs ho' => ?_) (by lia)
    exact ⟨.none, ρ, _, Z, .refl _, .val, S.mut hi hl (d' := oList (xs ++ [a])) (s' := { s with heap := h' }) (fun b o hb e => (hs.2 b hb).trans e) rfl rfl ho' ⟨_, _, rfl, by simpa using e2.append (.cons h2 .nil)⟩, h⟩)
theorem TC.extend (hi : H[i]? = some M) (hl : M l = some (oList xs)) (hn : xs.length + ys.length ≤ 1000000) (ha : SV H a ys) (h : QV .none ρ (H.set i (M.put l (oList (xs ++ ys))))) :
    TC c (.val (.builtin "list.extend")) [.ref l, a] ρ H QV X := fun Z s fv vs S hf hv => by
  cases hf
  cases hv with | cons h1 h2 => cases h1; cases h2 with | cons h2 h3 => cases h3; exact (by
    obtain ⟨o, e1, us, n, rfl, e2⟩ := S.read hi hl
    obtain ⟨T, b, ws, n2, hT, rfl, e3, e4⟩ := ha.obj S h2
    have hsz := e2.toArr
    have hsz2 := e4.toArr
    have hL := sizeLineIs
    have fin : ∀ k : Nat, Post c VR Z QV .none { s with heap := s.heap.update l (Obj.mapSeq fun x => x ++ ws), toks := s.toks } := fun k =>
      ⟨.none, ρ, _, Z, .refl _, .val, S.mut hi hl (d' := oList (xs ++ ys)) (s' := { s with heap := s.heap.update l (Obj.mapSeq fun x => x ++ ws) }) (fun b o hb e => (Heap.get?_update_other _ _ (Ne.symm hb)).trans e) rfl rfl
        (IsL.update (n := n) e1 fun x => x ++ ws) ⟨_, _, rfl, by simpa using e2.append e4⟩, h⟩
    rcases hT with rfl | rfl
    · exact call_meets PySem.F.slot_list_extend ⟨_, e1, rfl⟩ PySem.F.entry_list_extend (PySem.F.args_list_extend_2 _ _) (AutoSeq1.list_extend_list_list_0 l us n b ws n2 (extend_door (by lia)) (by lia) (by lia)) ⟨e1, e3, fin 0⟩
    · exact call_meets PySem.F.slot_list_extend ⟨_, e1, rfl⟩ PySem.F.entry_list_extend (PySem.F.args_list_extend_2 _ _) (AutoSeq1.list_extend_list_tuple_0 l us n b ws n2 (extend_door (by lia)) (by lia) (by lia)) ⟨e1, e3, fin 0⟩)
theorem TC.clear (hi : H[i]? = some M) (hl : M l = some (oList xs)) (hn : xs.length ≤ 1000000) (h : QV .none ρ (H.set i (M.put l (oList [])))) :
    TC c (.val (.builtin "list.clear")) [.ref l] ρ H QV X := fun Z s fv vs S hf hv => by
  cases hf
  cases hv with | cons h1 h2 => cases h1; cases h2; exact (by
    obtain ⟨o, e1, us, n, rfl, e2⟩ := S.read hi hl
    have hsz := e2.toArr
    have hL := sizeLineIs
    exact call_meets PySem.F.slot_list_clear ⟨_, e1, rfl⟩ PySem.F.entry_list_clear (PySem.F.args_list_clear_1 _) (AutoSeq1.list_clear_list_0 l us n (by lia)) ⟨e1,
      ⟨.none, ρ, _, Z, .refl _, .val, S.mut hi hl (d' := oList []) (s' := { s with heap := s.heap.update l (Obj.mapSeq fun x => #[]) }) (fun b o hb e => (Heap.get?_update_other _ _ (Ne.symm hb)).trans e) rfl rfl
        (IsL.update (n := n) e1 fun x => #[]) ⟨_, _, rfl, .nil⟩, h⟩⟩)
theorem VRs.snoc {Z : ZM} {x : AV} {xs : List AV} {vs : List Value} (h : VRs Z (xs ++ [x]) vs) : ∃ us v, vs = us ++ [v] ∧ VRs Z xs us ∧ VR Z x v := by
  induction xs generalizing vs with
  | nil => cases h with | cons a b => cases b; exact ⟨[], _, rfl, .nil, a⟩
  | cons y ys ih => cases h with | cons a b =>
    obtain ⟨us, v, e, h1, h2⟩ := ih b
    exact ⟨_ :: us, v, by rw [e]; rfl, .cons a h1, h2⟩
theorem TC.pop (hi : H[i]? = some M) (hl : M l = some (oList (xs ++ [a]))) (hn : xs.length ≤ 1000000) (h : QV a ρ (H.set i (M.put l (oList xs)))) :
    TC c (.val (.builtin "list.pop")) [.ref l] ρ H QV X := fun Z s fv vs S hf hv => by
  cases hf
  cases hv with | cons h1 h2 => cases h1; cases h2; exact (by
    obtain ⟨o, e1, us, n, rfl, e2⟩ := S.read hi hl
    have hsz := e2.toArr
    have hL := sizeLineIs
    obtain ⟨p, v, e, h1, h2⟩ := e2.snoc
    have eu : us = (p ++ [v]).toArray := by rw [← e, Array.toArray_toList]
    subst eu
    have hk : (p ++ [v]).toArray.size - 1 = p.length := by rw [List.size_toArray, List.length_append]; rfl
    have hy : (p ++ [v]).toArray[(p ++ [v]).toArray.size - 1]? = some v := by rw [hk]; simp
    simp only [List.length_append, List.length_singleton] at hsz
    refine call_meets PySem.F.slot_list_pop ⟨_, e1, rfl⟩ PySem.F.entry_list_pop (PySem.F.args_list_pop_1 _) (MeetsSeq.list_pop_last l _ n v hy (by lia)) ⟨e1,
      ⟨a, ρ, _, Z, .refl _, h2, S.mut hi hl (d' := oList xs) (s' := { s with heap := s.heap.update l (Obj.mapSeq fun xs => xs.eraseIdxIfInBounds ((p ++ [v]).toArray.size - 1)) }) (fun b o hb e => (Heap.get?_update_other _ _ (Ne.symm hb)).trans e) rfl rfl
        (IsL.update (n := n) e1 _) ⟨_, _, rfl, ?_⟩, h⟩⟩
    rw [hk, kl_erase]
    simpa using h1)
theorem TC.lenL (hl : LV H a xs) (hn : xs.length ≤ 1000000) (h : QV (.int xs.length) ρ H) : TC c (.val (.builtin "len")) [a] ρ H QV X := fun Z s fv vs S hf hv => by
  cases hf
  cases hv with | cons h1 h2 => cases h2; exact (by
    obtain ⟨l, us, rfl, hL, e2⟩ := hl.isList S h1
    have hsz := e2.toArr
    refine len_list hL (by omega) ?_
    rw [hsz]
    exact Post.now (S.tok _) .int h)
end
end Mine.Internal
end

section
open PySem PySem.W PySem.Calls PyProof.Rows
set_option Elab.async false
set_option maxRecDepth 10000
set_option linter.unusedVariables false
set_option linter.unusedSimpArgs false
namespace Mine.Internal
set_option genInjectivity true in
inductive Key where
  | i (n : Int)
  | s (x : Str)
  deriving DecidableEq
noncomputable def Key.av : Key → AV
  | .i n => .int n
  | .s x => .str x
noncomputable def Key.is : Key → Value → Bool
  | .i n, v => Value.isInt n v
  | .s x, v => Value.isStrOf x v
noncomputable def Key.hash (w : World) : Key → Int
  | .i n => hashInt n
  | .s x => hashStr w x
theorem eqBool_mixed {prog : Program} {w : World} {A : Around} {E : Value → Shared → Prop} {s : Shared} {a b : Value} {Q : Bool → Shared → Prop} (hne : (a == b) = false) (hf : ∀ x y z u, ¬ (a = .float x y ∧ b = .float z u))
    (h : ∀ Q', Q' (.bool false) s → wpAny (model prog w) A (compareOp .Eq a b) Q' E s) (hq : Q false s) : wpAny (model prog w) A (eqBool a b) Q E s := by
  unfold eqBool
  refine wpAny_holding ?_
  rw [hne]
  have key : wpAny (model prog w) A (richCompare .Eq a b >>= fun v => truthOfDropped v) Q E s := wpAny_bind (h _ (wpAny_truthy_bool hq))
  simp only [Bool.false_eq_true, if_false]
  cases a <;> first
    | exact key
    | exact wpAny_bind (wpAny_pure key)
    | (cases b <;> first | exact key | exact wpAny_bind (wpAny_pure key) | exact absurd ⟨rfl, rfl⟩ (hf _ _ _ _))
set_option tactic.hygienic true in
noncomputable def mixKind (prog : Program) (w : World) : KeyKind prog w Key where
  is := Key.is
  hash := Key.hash w
  inj := fun v a b ha hb => by
    cases a <;> cases b <;> simp only [Key.is] at ha hb
    · rw [Value.isInt_inj _ _ _ ha hb]
    · obtain ⟨t, rfl⟩ := Value.isInt_shape ha; simp [Value.isStrOf] at hb
    · obtain ⟨t, rfl⟩ := Value.isStrOf_shape ha; simp [Value.isInt] at hb
    · rw [Value.isStrOf_inj _ _ _ ha hb]
  byValue := fun k v h => by
    cases k <;> simp only [Key.is] at h
    · obtain ⟨t, rfl⟩ := Value.isInt_shape h; rfl
    · obtain ⟨t, rfl⟩ := Value.isStrOf_shape h; rfl
  pyHash := fun {A E s k v Q} hv h => by
    cases k <;> simp only [Key.is] at hv
    · obtain ⟨t, rfl⟩ := Value.isInt_shape hv; exact wpAny_pyHash_int h
    · obtain ⟨t, rfl⟩ := Value.isStrOf_shape hv; exact wpAny_pyHash_str h
  eqBool := fun {A E s a b u v Q} hu hv h => by
    cases a <;> cases b <;> simp only [Key.is] at hu hv
    · obtain ⟨t, rfl⟩ := Value.isInt_shape hu
      obtain ⟨u, rfl⟩ := Value.isInt_shape hv
      refine wpAny_eqBool_int ?_
      rename_i m n
      have e : (m == n) = decide (Key.i m = Key.i n) := by by_cases q : m = n <;> simp [q]
      rw [e]; exact h
    · obtain ⟨t, rfl⟩ := Value.isInt_shape hu
      obtain ⟨u, rfl⟩ := Value.isStrOf_shape hv
      exact eqBool_mixed rfl (by rintro _ _ _ _ ⟨h, _⟩; cases h) (fun _ q => EqMixed.eq_int_str q) (by simpa using h)
    · obtain ⟨t, rfl⟩ := Value.isStrOf_shape hu
      obtain ⟨u, rfl⟩ := Value.isInt_shape hv
      exact eqBool_mixed rfl (by rintro _ _ _ _ ⟨h, _⟩; cases h) (fun _ q => EqMixed.eq_str_int q) (by simpa using h)
    · obtain ⟨t, rfl⟩ := Value.isStrOf_shape hu
      obtain ⟨u, rfl⟩ := Value.isStrOf_shape hv
      refine wpAny_eqBool_str ?_
      rename_i m n
      have e : decide (m = n) = decide (Key.s m = Key.s n) := by by_cases q : m = n <;> simp [q]
      rw [e]; exact h
  «strs» := fun k x t v h => by
    cases k <;> simp only [Key.is] at h ⊢
    · simp [Value.isInt] at h
    · obtain ⟨u, hu⟩ := Value.isStrOf_shape h
      injection hu with hx
      subst hx
      cases v <;> rfl
theorem Key.vr_is {Z : ZM} {k : Key} {v : Value} (h : VR Z k.av v) : Key.is k v = true := by
  cases k with
  | i n => obtain ⟨t, rfl⟩ := VR.toInt h; simp [Key.is, Value.isInt]
  | s x => obtain ⟨t, rfl⟩ := VR.toStr h; simp [Key.is, Value.isStrOf]
theorem Key.is_vr {Z : ZM} {k : Key} {v : Value} (h : Key.is k v = true) : VR Z k.av v := by
  cases k with
  | i n => obtain ⟨t, rfl⟩ := Value.isInt_shape h; exact .int
  | s x => obtain ⟨t, rfl⟩ := Value.isStrOf_shape h; exact .str
theorem Key.scannable {k : Key} {v : Value} (h : Key.is k v = true) : v.scannable = true := by
  cases k with
  | i n => obtain ⟨t, rfl⟩ := Value.isInt_shape h; rfl
  | s x => obtain ⟨t, rfl⟩ := Value.isStrOf_shape h; rfl
noncomputable def DRel (p : Program) (w : World) (kvs : List (Key × AV)) (us : List (Key × Value)) (Z : ZM) : Prop := us.map Prod.fst = kvs.map Prod.fst ∧ VRs Z (kvs.map Prod.snd) (us.map Prod.snd)
noncomputable def oDict (p : Program) (w : World) (kvs : List (Key × AV)) (ep : Nat) : OD where
  rel Z o := ∃ es us, o = ⟨.type "dict", Option.none, .dict es ep, #[]⟩ ∧ KeysOf (mixKind p w) es ∧ Pairs (mixKind p w) es.toList us ∧ DRel p w kvs us Z ∧ (us.map Prod.fst).Nodup
  mono Z Z' o hz h := let ⟨es, us, h1, h2, h3, h4, h6⟩ := h; ⟨es, us, h1, h2, h3, ⟨h4.1, VRs.mono hz _ _ h4.2⟩, h6⟩
noncomputable def kvAt (kvs : List (Key × AV)) (k : Key) : Option AV := (kvs.find? fun kv => kv.1 = k).map Prod.snd
noncomputable def kvSet (kvs : List (Key × AV)) (k : Key) (a : AV) : List (Key × AV) :=
  if kvs.any (fun kv => kv.1 = k) then kvs.map (fun kv => if kv.1 = k then (kv.1, a) else kv) else kvs ++ [(k, a)]
noncomputable def kvDel (kvs : List (Key × AV)) (k : Key) : List (Key × AV) := kvs.filter fun kv => kv.1 ≠ k
theorem DRel.cons_inv {p : Program} {w : World} {k : Key} {a : AV} {kvs : List (Key × AV)} {us : List (Key × Value)} {Z : ZM} (h : DRel p w ((k, a) :: kvs) us Z) :
    ∃ v us', us = (k, v) :: us' ∧ VR Z a v ∧ DRel p w kvs us' Z := by
  obtain ⟨h1, h2⟩ := h
  cases us with
  | nil => simp at h1
  | cons u us' =>
    obtain ⟨k', v⟩ := u
    simp only [List.map_cons, List.cons.injEq] at h1
    obtain ⟨rfl, h1⟩ := h1
    simp only [List.map_cons] at h2
    cases h2 with
    | cons a b => exact ⟨v, us', rfl, a, h1, b⟩
theorem DRel.cons {p : Program} {w : World} {k : Key} {a : AV} {kvs : List (Key × AV)} {us : List (Key × Value)} {v : Value} {Z : ZM} (h1 : VR Z a v) (h2 : DRel p w kvs us Z) : DRel p w ((k, a) :: kvs) ((k, v) :: us) Z :=
  ⟨by simp [h2.1], by simp only [List.map_cons]; exact .cons h1 h2.2⟩
theorem DRel.nil_inv {p : Program} {w : World} {us : List (Key × Value)} {Z : ZM} (h : DRel p w [] us Z) : us = [] := by
  obtain ⟨h1, _⟩ := h; simpa using h1
theorem DRel.at {p : Program} {w : World} {k : Key} {Z : ZM} : ∀ {kvs : List (Key × AV)} {us : List (Key × Value)}, DRel p w kvs us Z →
    (kvAt kvs k = Option.none ∧ valueAt us k = Option.none) ∨ ∃ a v, kvAt kvs k = some a ∧ valueAt us k = some v ∧ VR Z a v
  | [], us, h => by rw [h.nil_inv]; exact .inl ⟨rfl, rfl⟩
  | (k', a) :: kvs, us, h => by
    obtain ⟨v, us', rfl, h1, h2⟩ := h.cons_inv
    by_cases q : k' = k
    · subst q; right; exact ⟨a, v, by simp [kvAt], by simp [valueAt], h1⟩
    · rcases h2.at (k := k) with ⟨e1, e2⟩ | ⟨a', v', e1, e2, e3⟩
      · left; constructor
        · simp only [kvAt, List.find?_cons, q, decide_false]; exact e1
        · simp only [valueAt, List.find?_cons, q, decide_false]; exact e2
      · right
        refine ⟨a', v', ?_, ?_, e3⟩
        · simp only [kvAt, List.find?_cons, q, decide_false]; exact e1
        · simp only [valueAt, List.find?_cons, q, decide_false]; exact e2
theorem DRel.any {p : Program} {w : World} {k : Key} {Z : ZM} {kvs : List (Key × AV)} {us : List (Key × Value)} (h : DRel p w kvs us Z) : us.any (fun kv => decide (kv.1 = k)) = kvs.any (fun kv => decide (kv.1 = k)) := by
  have e1 : us.any (fun kv => decide (kv.1 = k)) = (us.map Prod.fst).any (fun x => decide (x = k)) := by rw [List.any_map]; rfl
  have e2 : kvs.any (fun kv => decide (kv.1 = k)) = (kvs.map Prod.fst).any (fun x => decide (x = k)) := by rw [List.any_map]; rfl
  rw [e1, e2, h.1]
theorem DRel.mapSet {p : Program} {w : World} {k : Key} {Z : ZM} {a : AV} {v : Value} (hv : VR Z a v) : ∀ {kvs : List (Key × AV)} {us : List (Key × Value)}, DRel p w kvs us Z →
    DRel p w (kvs.map (fun kv => if kv.1 = k then (kv.1, a) else kv)) (us.map (fun kv => if kv.1 = k then (kv.1, v) else kv)) Z
  | [], us, h => by rw [h.nil_inv]; exact ⟨rfl, .nil⟩
  | (k', b) :: kvs, us, h => by
    obtain ⟨u, us', rfl, h1, h2⟩ := h.cons_inv
    simp only [List.map_cons]
    by_cases q : k' = k
    · simp only [q, if_true]; exact .cons hv (h2.mapSet hv)
    · simp only [q, if_false]; exact .cons h1 (h2.mapSet hv)
theorem DRel.append {p : Program} {w : World} {k : Key} {Z : ZM} {a : AV} {v : Value} (hv : VR Z a v) {kvs : List (Key × AV)} {us : List (Key × Value)} (h : DRel p w kvs us Z) : DRel p w (kvs ++ [(k, a)]) (us ++ [(k, v)]) Z :=
  ⟨by simp [h.1], by simp only [List.map_append]; exact h.2.append (.cons hv .nil)⟩
theorem DRel.set {p : Program} {w : World} {k : Key} {Z : ZM} {a : AV} {v : Value} (hv : VR Z a v) {kvs : List (Key × AV)} {us : List (Key × Value)} (h : DRel p w kvs us Z) : DRel p w (kvSet kvs k a) (stored us k v) Z := by
  unfold kvSet stored
  rw [h.any]
  split
  · exact h.mapSet hv
  · exact h.append hv
theorem DRel.filter {p : Program} {w : World} {Z : ZM} (f : Key → Bool) : ∀ {kvs : List (Key × AV)} {us : List (Key × Value)}, DRel p w kvs us Z → DRel p w (kvs.filter fun kv => f kv.1) (us.filter fun kv => f kv.1) Z
  | [], us, h => by rw [h.nil_inv]; exact ⟨rfl, .nil⟩
  | (k', b) :: kvs, us, h => by
    obtain ⟨u, us', rfl, h1, h2⟩ := h.cons_inv
    cases q : f k' with
    | true => rw [List.filter_cons_of_pos (by simpa using q), List.filter_cons_of_pos (by simpa using q)]; exact .cons h1 (h2.filter f)
    | false => rw [List.filter_cons_of_neg (by simpa using q), List.filter_cons_of_neg (by simpa using q)]; exact h2.filter f
theorem oDict.dictAt {p : Program} {w : World} {kvs : List (Key × AV)} {ep : Nat} {Z : ZM} {o : Obj} {h : Heap} {d : Addr} (hr : (oDict p w kvs ep).rel Z o) (ho : h.get? d = some o) : ∃ us, h.DictAt (mixKind p w) d us ep ∧ DRel p w kvs us Z := by
  obtain ⟨es, us, rfl, h2, h3, h4, h5⟩ := hr
  exact ⟨us, ⟨_, es, ho, ⟨rfl, rfl, rfl⟩, rfl, h2, h3, h5⟩, h4⟩
theorem oDict.of {p : Program} {w : World} {kvs : List (Key × AV)} {Z : ZM} {h : Heap} {d : Addr} {us : List (Key × Value)} (hd : h.DictOf (mixKind p w) d us) (hr : DRel p w kvs us Z) : ∃ o ep, h.get? d = some o ∧ (oDict p w kvs ep).rel Z o := by
  obtain ⟨o, es, ep, ho, hc, hd, h2, h3, h4⟩ := hd
  obtain ⟨c1, c2, c3⟩ := hc
  obtain ⟨cl, dd, dt, sl⟩ := o
  simp only at c1 c2 c3 hd
  subst c1 c2 c3 hd
  exact ⟨_, ep, ho, es, us, rfl, h2, h3, hr, h4⟩
section
variable {c : Cx} {ρ : AEnv} {H : AHs} {X : AX} {QV : AV → AEnv → AHs → Prop} {QU : Unit → AEnv → AHs → Prop} {i : Nat} {M : AM} {d : Addr} {kvs : List (Key × AV)} {ep : Nat} {k : Key} {a : AV}
theorem Cx.Ok.sysMods (ok : c.Ok) (hb : c.base.get? d = Option.none) : (d == sysModules) = false := by
  obtain ⟨mm, o, es, ep, h, _⟩ := ok.glb.mods
  have : d ≠ sysModules := fun e => by rw [e, h] at hb; cases hb
  simpa using this
theorem St.dict {Z : ZM} {s : Shared} (S : St c ρ H Z s) (ok : c.Ok) (hi : H[i]? = some M) (hd : M d = some (oDict c.prog c.w kvs ep)) :
    ∃ us, s.heap.DictAt (mixKind c.prog c.w) d us ep ∧ DRel c.prog c.w kvs us Z ∧ (d == sysModules) = false := by
  obtain ⟨o, e1, e2⟩ := S.read hi hd
  obtain ⟨us, e3, e4⟩ := oDict.dictAt e2 e1
  exact ⟨us, e3, e4, ok.sysMods (S.own M (List.mem_of_getElem? hi) d _ hd).base⟩
theorem T2.itemD {value slice : Expr} (ok : c.Ok) (hi : H[i]? = some M) (hd : M d = some (oDict c.prog c.w kvs ep)) (ha : kvAt kvs k = some a) (h : QV a ρ H) (hs : isSlice slice = false) :
    T2 c VR (subscriptTail value slice) (.ref d) k.av ρ H QV X := fun Z s v w S hv hw => by
  cases hv
  obtain ⟨us, hD, hr, hsm⟩ := S.dict ok hi hd
  rcases hr.at (k := k) with ⟨e1, _⟩ | ⟨a', v, e1, e2, e3⟩
  · rw [ha] at e1; cases e1
  · rw [ha] at e1; cases e1
    exact tail_any hD.dictOf.typeIs slot_dict_getitem.lookup (wpAny_getItem_of (knd := mixKind c.prog c.w) (Key.vr_is hw) hD.dictOf.mapOf e2 (Post.now (S.tok _) e3 h)) (subscripted_plain hs _ _)
theorem T2.inD (ok : c.Ok) (hi : H[i]? = some M) (hd : M d = some (oDict c.prog c.w kvs ep)) (h : QV (.bool (kvAt kvs k).isSome) ρ H) : T2 c VR (compareOp .In) k.av (.ref d) ρ H QV X := fun Z s v w S hv hw => by
  cases hw
  obtain ⟨us, hD, hr, hsm⟩ := S.dict ok hi hd
  have e : (valueAt us k).isSome = (kvAt kvs k).isSome := by
    rcases hr.at (k := k) with ⟨e1, e2⟩ | ⟨a', v, e1, e2, e3⟩ <;> rw [e1, e2] <;> rfl
  exact wpAny_in_of (knd := mixKind c.prog c.w) (Key.vr_is hv) hsm hD.dictOf.mapOf (by rw [e]; exact Post.now (S.tok _) .val h)
theorem TC.dictGet (ok : c.Ok) (hi : H[i]? = some M) (hd : M d = some (oDict c.prog c.w kvs ep)) (h : QV ((kvAt kvs k).getD .none) ρ H) : TC c (.val (.builtin "dict.get")) [.ref d, k.av] ρ H QV X := fun Z s fv vs S hf hv => by
  cases hf
  cases hv with | cons h1 h2 => cases h1; cases h2 with | cons h2 h3 => cases h3; exact (by
    obtain ⟨us, hD, hr, hsm⟩ := S.dict ok hi hd
    refine call_meetsIn PySem.F.slot_dict_get hD.dictOf.typeIs PySem.F.entry_dict_get (PySem.F.args_dict_get_2 _ _) (meets_dict_get (mixKind c.prog c.w) d (k := k) (Key.vr_is h2) hsm) ⟨_, hD.dictOf.mapOf, ?_⟩
    rcases hr.at (k := k) with ⟨e1, e2⟩ | ⟨a', v, e1, e2, e3⟩
    · rw [e2]; rw [e1] at h; exact Post.now (S.tok _) .val h
    · rw [e2]; rw [e1] at h; exact Post.now (S.tok _) e3 h)
theorem MethIs.dict {name : Str} {id : String} (ok : c.Ok) (hi : H[i]? = some M) (hd : M d = some (oDict c.prog c.w kvs ep)) (slot : Slot "dict" name id) (hty : typeOf (.builtin id) = pure (.type "method_descriptor")) : MethIs c H (.ref d) name (.builtin id) := fun ρ Z s v pl Q E S hv h => by
  cases hv
  obtain ⟨us, hD, hr, hsm⟩ := S.dict ok hi hd
  exact getMethod_builtin hD.dictOf.typeIs PySem.F.plainAttrs_dict slot hty hD.dictOf.mapOf.noDict h
theorem T3.setD (ok : c.Ok) (hi : H[i]? = some M) (hd : M d = some (oDict c.prog c.w kvs ep)) (hn : kvs.length ≤ 1000000) (h : ∀ ep', QU () ρ (H.set i (M.put d (oDict c.prog c.w (kvSet kvs k a) ep')))) :
    T3 c rUnit setItem (.ref d) k.av a ρ H QU X := fun Z s v w u S hv hw hu => by
  cases hv
  obtain ⟨us, hD, hr, hsm⟩ := S.dict ok hi hd
  have hsz : us.length = kvs.length := by have := congrArg List.length hr.1; simpa using this
  refine wpAny_setItem_pairs (knd := mixKind c.prog c.w) (k := k) (Key.vr_is hw) hD.dictOf (fun h' hm' hs' => ?_) (by have := sizeLineIs; lia)
  obtain ⟨o', ep', e1, e2⟩ := oDict.of hm' (hr.set (k := k) hu)
  exact ⟨(), ρ, _, Z, .refl _, trivial, S.mut hi hd (d' := oDict c.prog c.w (kvSet kvs k a) ep') (fun b o hb e => (hs'.2 b hb).trans e) rfl rfl e1 e2, h ep'⟩
theorem T2.delD (ok : c.Ok) (hi : H[i]? = some M) (hd : M d = some (oDict c.prog c.w kvs ep)) (hn : kvs.length ≤ 1000000) (ha : (kvAt kvs k).isSome = true) (h : ∀ ep', QU () ρ (H.set i (M.put d (oDict c.prog c.w (kvDel kvs k) ep')))) :
    T2 c rUnit delItem (.ref d) k.av ρ H QU X := fun Z s v w S hv hw => by
  cases hv
  obtain ⟨us, hD, hr, hsm⟩ := S.dict ok hi hd
  have hsz : us.length = kvs.length := by have := congrArg List.length hr.1; simpa using this
  have e : (valueAt us k).isSome = (kvAt kvs k).isSome := by
    rcases hr.at (k := k) with ⟨e1, e2⟩ | ⟨a', v, e1, e2, e3⟩ <;> rw [e1, e2] <;> rfl
  refine wpAny_delItem_slot hD.dictOf.typeIs (by decide) PySem.F.slot_dict_delitem (call_meetsIn PySem.F.slot_dict_delitem hD.dictOf.typeIs PySem.F.entry_dict_delitem (PySem.F.args_dict_delitem_2 _ _) (meets_dict_delitem_pairs (mixKind c.prog c.w) d (k := k) (Key.vr_is hw))
    ⟨us, hD.dictOf, by have := sizeLineIs; lia, by rw [e]; exact ha, fun h' hm' hs' => ?_⟩)
  obtain ⟨o', ep', e1, e2⟩ := oDict.of hm' (hr.filter (fun x => decide (x ≠ k)))
  exact ⟨(), ρ, _, Z, .refl _, trivial, S.mut hi hd (d' := oDict c.prog c.w (kvDel kvs k) ep') (fun b o hb e => (hs'.2 b hb).trans e) rfl rfl e1 e2, h ep'⟩
theorem TE.dict0 {pos : Pos} (h : ∀ d, QV (.ref d) ρ (one d (oDict c.prog c.w [] 0) :: H)) : TE c (.Dict [] [] pos) ρ H QV X := fun Z s S => by
  show wpAny _ _ (standAt pos >>= fun z_ => newDict) _ _ s
  refine wpAny_bind (wpAny_standAt (wpAny_newObj_type ?_))
  exact ⟨_, ρ, _, Z, .refl _, .val, S.push (d := oDict c.prog c.w [] 0) rfl ⟨#[], [], rfl, fun z_ he => by simp at he, .nil, ⟨rfl, .nil⟩, .nil⟩, h _⟩
end
noncomputable def oSet (p : Program) (w : World) (ks : List Key) : OD where
  rel Z o := ∃ es ep t, o = ⟨.type "set", Option.none, .set es ep t, #[]⟩ ∧ ElemsOf (mixKind p w) es.toList ∧ (∀ k, k ∈ ks ↔ ∃ e ∈ es.toList, Key.is k e.2 = true) ∧ es.size < scanBound ∧ t.fits es.size = true ∧ es.size = ks.length
  mono _ _ _ _ h := h
section
variable {c : Cx} {ρ : AEnv} {H : AHs} {X : AX} {QV : AV → AEnv → AHs → Prop} {i : Nat} {M : AM} {d : Addr} {ks : List Key} {k : Key}
theorem St.setOf {Z : ZM} {s : Shared} (S : St c ρ H Z s) (hi : H[i]? = some M) (hd : M d = some (oSet c.prog c.w ks)) : s.heap.SetOf (mixKind c.prog c.w) d (fun k => decide (k ∈ ks)) ks.length := by
  obtain ⟨o, e1, es, ep, t, rfl, h1, h2, h3, h4, h5⟩ := S.read hi hd
  exact ⟨_, es, ep, t, e1, ⟨rfl, rfl, rfl⟩, rfl, h1, fun k => by rw [decide_eq_true_eq]; exact h2 k, h3, h4, h5⟩
theorem T2.inS (hi : H[i]? = some M) (hd : M d = some (oSet c.prog c.w ks)) (h : QV (.bool (decide (k ∈ ks))) ρ H) : T2 c VR (compareOp .In) k.av (.ref d) ρ H QV X := fun Z s v w S hv hw => by
  cases hw
  have hS := S.setOf hi hd
  exact wpAny_inSet_of (knd := mixKind c.prog c.w) (Key.vr_is hv) (Key.scannable (Key.vr_is hv)) hS (Post.now (S.tok _) .val h)
theorem TC.setAdd (hi : H[i]? = some M) (hd : M d = some (oSet c.prog c.w ks)) (hk : k ∉ ks) (hn : ks.length < 4000) (h : QV .none ρ (H.set i (M.put d (oSet c.prog c.w (ks ++ [k]))))) : TC c (.val (.builtin "set.add")) [.ref d, k.av] ρ H QV X := fun Z s fv vs S hf hv => by
  cases hf
  cases hv with | cons h1 h2 => cases h1; cases h2 with | cons h2 h3 => cases h3; exact (by
    have hS := S.setOf hi hd
    refine call_set_add (knd := mixKind c.prog c.w) (k := k) (Key.vr_is h2) (Key.scannable (Key.vr_is h2)) hS (by have : scanBound = 4096 := rfl; (exact Nat.lt_of_le_of_lt (by assumption) (by decide))) fun h' hs' hS' => ?_
    rw [if_neg (by simpa using hk)] at hS'
    obtain ⟨o, es, ep, t, e1, ⟨x1, x2, x3⟩, e3, e4, e5, e6, e7, e8⟩ := hS'
    obtain ⟨cl, dd, dt, sl⟩ := o
    simp only at x1 x2 x3 e3
    subst x1 x2 x3 e3
    refine ⟨.none, ρ, _, Z, .refl _, .val, S.mut hi hd (d' := oSet c.prog c.w (ks ++ [k])) (fun b o hb e => (hs'.2 b hb).trans e) rfl rfl e1 ⟨es, ep, t, rfl, e4, fun k' => ?_, e6, e7, by simpa using e8⟩, h⟩
    have := e5 k'
    simp only [Bool.or_eq_true, decide_eq_true_eq] at this
    rw [List.mem_append, List.mem_singleton]
    exact this)
theorem MethIs.set {name : Str} {id : String} (hi : H[i]? = some M) (hd : M d = some (oSet c.prog c.w ks)) (slot : Slot "set" name id) (hty : typeOf (.builtin id) = pure (.type "method_descriptor")) : MethIs c H (.ref d) name (.builtin id) := fun ρ Z s v pl Q E S hv h => by
  cases hv
  have hS := S.setOf hi hd
  exact getMethod_builtin hS.typeIs PySem.F.plainAttrs_set slot hty hS.noDict h
theorem TC.newSet (h : ∀ d, QV (.ref d) ρ (one d (oSet c.prog c.w []) :: H)) : TC c (.val (.type "set")) [] ρ H QV X := fun Z s fv vs S hf hv => by
  cases hf
  cases hv
  refine call_set_0 fun led => ?_
  exact ⟨_, ρ, _, Z, .refl _, .val, S.push (d := oSet c.prog c.w []) rfl ⟨#[], 0, _, rfl, fun e he => by simp at he, fun k => by simp, by decide, by rfl, rfl⟩, h _⟩
end
end Mine.Internal
end

section
open PySem PySem.W PySem.Calls PyProof.Rows
set_option Elab.async false
set_option maxRecDepth 10000
set_option linter.unusedVariables false
set_option linter.unusedSimpArgs false
namespace Mine.Internal
section
variable {c : Cx} {ρ : AEnv} {H : AHs} {Z : ZM} {s : Shared} {A : Around} {E : Value → Shared → Prop} {M : Model}
theorem St.funFrames (S : St c ρ H Z s) (ok : c.Ok) (hfr : c.fr = c.env) : s.heap.FunFrames c.base (c.fr :: c.outer) := by
  have go : ∀ l : List Env, (∀ e ∈ l, e.scope.kind = .function ∧ ∃ L o, e.frame = some L ∧ c.base.get? L = Option.none ∧ c.PO L = some o ∧ ∃ es ep, o.data = .dict es ep) → s.heap.FunFrames c.base l := by
    intro l
    induction l with
    | nil => intro _; trivial
    | cons e r ih =>
      intro h
      obtain ⟨hk, L, o, h1, h2, h3, h4⟩ := h e (.head _)
      obtain ⟨sl, h5, _⟩ := S.po L o h3
      exact ⟨by rw [hk]; decide, ⟨L, _, h1, h2, h5, fun vs q => by obtain ⟨es, ep, h4⟩ := h4; have q' : o.data = .fields vs := q; rw [h4] at q'; cases q'⟩, ih fun e' he' => h e' (.tail _ he')⟩
  obtain ⟨L, h1, h2, h3⟩ := ok.frL
  refine ⟨by rw [ok.frK]; decide, ?_, go _ ok.outs⟩
  have hb : c.base.get? L = Option.none := Heap.get?_none_of_le h2
  rcases h3 with rfl | ⟨o, h3, h4⟩
  · obtain ⟨o, es, ep, e1, e2⟩ := S.localsLt
    exact ⟨_, o, h1, hb, e1, fun vs q => by rw [e2] at q; cases q⟩
  · obtain ⟨sl, h5, _⟩ := S.po L o h3
    exact ⟨L, _, h1, hb, h5, fun vs q => by obtain ⟨es, ep, h4⟩ := h4; have q' : o.data = .fields vs := q; rw [h4] at q'; cases q'⟩
theorem St.slots {h' : Heap} (S : St c ρ H Z s) (ok : c.Ok) (hs : Heap.SlotsOnly ((c.fr :: c.outer).filterMap (·.frame)) s.heap h') : St c ρ H Z { s with heap := h' } := by
  have hfr : ∀ b ∈ (c.fr :: c.outer).filterMap (·.frame), c.base.get? b = Option.none ∧ (b = c.env.locals ∨ ∃ o, c.PO b = some o ∧ ∃ es ep, o.data = .dict es ep) := by
    intro b hb
    obtain ⟨e, he, hf⟩ := List.mem_filterMap.mp hb
    rcases List.mem_cons.mp he with rfl | he
    · obtain ⟨L, h1, h2, h3⟩ := ok.frL
      rw [h1] at hf; cases hf
      refine ⟨Heap.get?_none_of_le h2, ?_⟩
      rcases h3 with h3 | ⟨o, h3, h4⟩
      · exact .inl h3
      · exact .inr ⟨o, h3, h4⟩
    · obtain ⟨_, L, o, h1, h2, h3, h4⟩ := ok.outs e he
      rw [h1] at hf; cases hf
      exact ⟨h2, .inr ⟨o, h3, h4⟩⟩
  have same : ∀ b, (c.base.get? b ≠ Option.none ∨ (b ≠ c.env.locals ∧ c.PO b = Option.none)) → h'.get? b = s.heap.get? b := by
    intro b hb
    refine hs.2.1 b fun hm => ?_
    obtain ⟨h1, h2⟩ := hfr b hm
    rcases hb with hb | ⟨hb1, hb2⟩
    · exact hb h1
    · rcases h2 with h2 | ⟨o, h2, _⟩
      · exact hb1 h2
      · rw [hb2] at h2; cases h2
  have cellk : ∀ b v, s.heap.IsCell b v → h'.IsCell b v := fun b v ⟨o, e1, e2⟩ => let ⟨sl, e3⟩ := hs.2.2 b o e1; ⟨_, e3, e2⟩
  refine ⟨fun b o e => (same b (.inl (by rw [e]; exact fun x => nomatch x))).trans (S.base b o e), ?_, fun x b e => let ⟨v, h⟩ := S.cells x b e; ⟨v, cellk b v h⟩, fun b o e => ?_, fun N hN b d e => ?_, S.apart, fun b o e => ?_, S.hdl, S.gens, S.os⟩
  · obtain ⟨m, ⟨o, es, ep, e1, e2, e3⟩, hv⟩ := S.ns
    obtain ⟨sl, e4⟩ := hs.2.2 _ o e1
    refine ⟨m, ⟨_, es, ep, e4, e2, e3⟩, fun x a e => ?_⟩
    obtain ⟨v, h1, h2⟩ := hv x a e
    refine ⟨v, h1, ?_⟩
    rcases h2 with h2 | ⟨hc, cc, q1, q2⟩
    · exact .inl h2
    · exact .inr ⟨hc, cc, q1, cellk cc _ q2⟩
  · obtain ⟨sl, h1, hz⟩ := S.po b o e
    obtain ⟨sl', h2⟩ := hs.2.2 b _ h1
    refine ⟨sl', h2, hz.1, fun hf => ?_⟩
    by_cases hm : b ∈ (c.fr :: c.outer).filterMap (·.frame)
    · exfalso
      rcases (hfr b hm).2 with q | ⟨o', q1, es, ep, q2⟩
      · rw [q, ok.nloc] at e; cases e
      · rw [e] at q1; cases q1; exact hf es ep q2
    · have q := hs.2.1 b hm
      rw [h1, h2] at q
      injection q with q
      have q' := congrArg Obj.slots q
      simp only at q'
      rw [q']; exact hz.2 hf
  · obtain ⟨⟨o, q1, q2⟩, r1, r2, r3, r4⟩ := S.own N hN b d e
    exact ⟨⟨o, (same b (.inr ⟨fun q => r3 (.inl q), r2⟩)).trans q1, q2⟩, r1, r2, r3, r4⟩
  · obtain ⟨h1, h2⟩ := S.fz b o e
    refine ⟨(same b ?_).trans h1, h2⟩
    right
    constructor
    · rintro rfl
      obtain ⟨ol, es, ep, q1, q2⟩ := S.localsLt
      rw [h1] at q1; cases q1
      rcases h2 with ⟨_, _, h2⟩ | ⟨_, h2⟩ <;> (rw [h2] at q2; cases q2)
    · cases q : c.PO b with
      | none => rfl
      | some o' =>
        obtain ⟨sl, q1, q2, _⟩ := S.po b o' q
        rw [e] at q2; cases q2
theorem St.mutHead {E₀ : AM} {a : Addr} {d d' : OD} {o' : Obj} {s' : Shared} (S : St c ρ (E₀ :: H) Z s) (ha : E₀ a = some d)
    (hk : ∀ b o, b ≠ a → s.heap.get? b = some o → s'.heap.get? b = some o) (hg : s'.gens = s.gens) (ho : s'.os = s.os) (ha' : s'.heap.get? a = some o') (hd : d'.rel Z o') : St c ρ (E₀.put a d' :: H) Z s' :=
  S.mut (i := 0) rfl ha hk hg ho ha' hd
theorem setTb {E₀ : AM} {T : Addr} {v : Value} {Q : Unit → Shared → Prop} (S : St c ρ (E₀ :: H) Z s) (hT : E₀ T = some oTb) (h : ∀ s', St c ρ (E₀ :: H) Z s' → Q () s') : wpAny M A (setField (.ref T) 3 v) Q E s := by
  obtain ⟨o, e1, ts, e2, e3⟩ := S.read (i := 0) rfl hT
  refine wpAny_setField e1 e2 e3 (h _ ?_)
  have e4 := Obj.data_mapFields e2 (·.setIfInBounds 3 v)
  have S' := S.mutHead (s' := { s with heap := s.heap.update T (Obj.mapFields (·.setIfInBounds 3 v)) }) hT (d' := oTb) (fun b o hb e => (Heap.get?_update_other _ _ (Ne.symm hb)).trans e) rfl rfl (Heap.get?_update_self _ e1 (Obj.isFreed_of_fields e4)) ⟨_, e4, by simpa using e3⟩
  have : E₀.put T oTb = E₀ := by funext b; unfold AM.put; split <;> simp_all
  rwa [this] at S'
theorem setFlightT {E₀ : AM} {x : Addr} {cls : Value} {args : List AV} {fl : Option Addr} {Q : Unit → Shared → Prop} (S : St c ρ (E₀ :: H) Z s) (hE : ExcF x cls args E₀) (h : ∀ s', St c ρ (E₀ :: H) Z s' → Q () s') :
    wpAny M A (setFlight (.ref x) fl) Q E s := by
  obtain ⟨tb, h1, h2⟩ := hE
  obtain ⟨o, e1, e2, vs, t, rest, e3, e4, e5⟩ := S.read (i := 0) rfl h1
  unfold setFlight
  cases tb with
  | none =>
    refine wpAny_bind (wpAny_field e1 e3 (x := .none) (by rw [← Array.getElem?_toList, e4]; rfl) ?_)
    rw [if_neg (by decide)]
    exact wpAny_pure (h _ S)
  | some T =>
    obtain ⟨h3, h4⟩ := h2 T rfl
    refine wpAny_bind (wpAny_field e1 e3 (x := .ref T) (by rw [← Array.getElem?_toList, e4]; rfl) ?_)
    rw [if_pos (show (Value.ref T != Value.none) = true from by simp)]
    exact setTb S h4 h
noncomputable def ExcT (x : Addr) (cls : Value) (args : List AV) (E : AM) : Prop := ∃ T, E x = some (oExc cls args (some T)) ∧ T ≠ x ∧ E T = some oTb
theorem ExcT.f {x : Addr} {cls : Value} {args : List AV} {E : AM} (h : ExcT x cls args E) : ExcF x cls args E :=
  let ⟨T, h1, h2, h3⟩ := h; ⟨some T, h1, fun T' e => by cases e; exact ⟨h2, h3⟩⟩
theorem noteFrameT {E₀ : AM} {x : Addr} {cls : Value} {args : List AV} {Q : Unit → Shared → Prop} (S : St c ρ (E₀ :: H) Z s) (ok : c.Ok) (hfr : c.fr = c.env) (hA : A.frames = some (c.fr :: c.outer)) (hE : ExcF x cls args E₀)
    (h : ∀ E' s', ExcT x cls args E' → St c ρ (E' :: H) Z s' → Q () s') : wpAny M A (noteFrame (.ref x) c.env) Q E s := by
  obtain ⟨tb, h1, h2⟩ := hE
  obtain ⟨L, hL⟩ : ∃ L, c.fr.frame = some L := let ⟨L, h, _⟩ := ok.frL; ⟨L, h⟩
  have hL' : c.env.frame = some L := hfr ▸ hL
  -- the new entry
  have entry : ∀ (hd : Value) (hn : Bool) (s : Shared), St c ρ (E₀ :: H) Z s → wpAny M A (do let a ← frameOf c.env; let pl ← entryPlaceOf L hn; let b ← EntryCells.newEntry hd a .none (rawInt L) .none pl; setField (.ref x) 1 b) Q E s := by
    intro hd hn s S
    rw [← hfr]
    refine wpAny_bind (wpAny_frameOf_fun hA (S.funFrames ok hfr) hL fun h₁ hs₁ => ?_)
    have S₁ := S.slots ok hs₁
    refine wpAny_bind (wpAny_entryPlaceOf fun pl hpl => ?_)
    unfold EntryCells.newEntry newFields
    refine wpAny_bind (wpAny_newObj_type ?_ (hpl.sizeOk5 _ _ _ _ _))
    have hsz : 3 < ([hd, Value.ref L, .none, rawInt L, .none] ++ (if pl.isEmpty then List.replicate 6 Value.none else pl)).toArray.size := by simp <;> omega
    have S₂ := S₁.push (d := oTb) (o := { cls := .type "traceback", data := .fields ([hd, Value.ref L, .none, rawInt L, .none] ++ (if pl.isEmpty then List.replicate 6 Value.none else pl)).toArray }) rfl ⟨_, rfl, hsz⟩
    have S₃ := S₂.perm (H' := E₀ :: one h₁.objs.size oTb :: H) (List.Perm.swap ..)
    obtain ⟨o, e1, e2, vs, t, rest, e3, e4, e5⟩ := S₃.read (i := 0) rfl h1
    have h1sz : 1 < vs.size := by have : vs.toList.length = vs.size := by simp
                                  rw [e4] at this; simp at this; lia
    have hxT : x ≠ h₁.objs.size := by
      obtain ⟨⟨o', q1, _⟩, _⟩ := S₁.own _ (.head _) x _ h1
      exact Nat.ne_of_lt (Heap.lt_size q1)
    refine wpAny_setField e1 e3 h1sz ?_
    have e6 := Obj.data_mapFields e3 (·.setIfInBounds 1 (Value.ref h₁.objs.size))
    have S₄ := S₃.mutHead (s' := { s with heap := (h₁.push { cls := .type "traceback", data := .fields ([hd, Value.ref L, .none, rawInt L, .none] ++ (if pl.isEmpty then List.replicate 6 Value.none else pl)).toArray }).update x (Obj.mapFields (·.setIfInBounds 1 (Value.ref h₁.objs.size))) }) h1 (d' := oExc cls args (some h₁.objs.size))
      (fun b o hb e => (Heap.get?_update_other _ _ (Ne.symm hb)).trans e) rfl rfl (Heap.get?_update_self _ e1 (Obj.isFreed_of_fields e6)) ⟨by rw [Obj.cls_mapFields]; exact e2, _, t, rest, e6, by
        rw [Array.toList_setIfInBounds, e4]; rfl, e5⟩
    refine h _ _ ⟨h₁.objs.size, ?_, Ne.symm hxT, ?_⟩ S₄.merge
    · simp [AM.or, AM.put]
    · have : (E₀.put x (oExc cls args (some h₁.objs.size))) h₁.objs.size = Option.none := by
        unfold AM.put
        rw [if_neg (Ne.symm hxT)]
        cases q : E₀ h₁.objs.size with
        | none => rfl
        | some d =>
          obtain ⟨⟨o', q1, _⟩, _⟩ := S₁.own _ (.head _) _ _ q
          exact absurd (Heap.lt_size q1) (Nat.lt_irrefl _)
      simp [AM.or, this, one]
  obtain ⟨o, e1, e2, vs, t, rest, e3, e4, e5⟩ := S.read (i := 0) rfl h1
  unfold noteFrame
  simp only [hL']
  cases tb with
  | none =>
    refine wpAny_bind (wpAny_field e1 e3 (x := .none) (by rw [← Array.getElem?_toList, e4]; rfl) ?_)
    rw [if_neg (by decide)]
    exact entry _ _ s S
  | some T =>
    obtain ⟨h3, h4⟩ := h2 T rfl
    refine wpAny_bind (wpAny_field e1 e3 (x := .ref T) (by rw [← Array.getElem?_toList, e4]; rfl) ?_)
    rw [if_pos (show (Value.ref T != Value.none) = true from by simp)]
    obtain ⟨oT, q1, ts, q2, q3⟩ := S.read (i := 0) rfl h4
    refine wpAny_bind (wpAny_field q1 q2 (x := ts[3]) (by simp [q3]) ?_)
    split
    · exact wpAny_pure (h _ _ ⟨T, h1, h3, h4⟩ S)
    · exact wpAny_bind (setTb S h4 fun s' S' => entry _ _ s' S')
end
end Mine.Internal
end

section
open PySem PySem.W PySem.Calls PyProof.Rows
set_option Elab.async false
set_option maxRecDepth 10000
set_option linter.unusedVariables false
set_option linter.unusedSimpArgs false
namespace Mine.Internal
structure Fun (c : Cx) (sc : Scope) : Prop where
  ok : c.Ok
  scope : c.env.scope = sc
  fr : c.fr = c.env
  cell : ∀ x, sc.names.lookup x = some .cell → ∃ b, c.env.cells.lookup x = some b
  own : ∀ x b, c.env.cells.lookup x = some b → c.PO b = Option.none
theorem Fun.stores {c : Cx} {sc : Scope} (F : Fun c sc) {x : Str} (h : sc.names.lookup x = some .local ∨ sc.names.lookup x = some .cell) : c.Stores x := by
  rcases h with h | h
  · left; unfold Env.kindOf; rw [F.scope]; exact h
  · right
    obtain ⟨b, hb⟩ := F.cell x h
    exact ⟨by unfold Env.kindOf; rw [F.scope]; exact h, b, hb, F.own x b hb⟩
theorem Fun.kind {c : Cx} {sc : Scope} (F : Fun c sc) (x : Str) : c.env.kindOf x = sc.names.lookup x := by unfold Env.kindOf; rw [F.scope]
structure Callee (c : Cx) (scope : Scope) (c' : Cx) : Prop where
  fn : Fun c' scope
  prog : c'.prog = c.prog
  w : c'.w = c.w
  K : c'.K = c.K
  base : c'.base = c.base
  os : c'.os = c.os
  handled : c'.A.handled = c.A.handled
  lv : c'.lv = c.lv - 1
open Classical in
noncomputable def Cx.callee (c : Cx) (h : Heap) (env' : Env) : Cx :=
  { c with A := c.A.deeper env', env := env', fr := env', outer := c.fr :: c.outer, PO := fun b => if c.mine b then h.get? b else c.PO b, lv := c.lv - 1 }
theorem Cx.callee_mine {c : Cx} {h : Heap} {e : Env} {b : Addr} (hm : c.mine b) : (c.callee h e).PO b = h.get? b := if_pos hm
theorem Cx.callee_other {c : Cx} {h : Heap} {e : Env} {b : Addr} (hm : ¬ c.mine b) : (c.callee h e).PO b = c.PO b := if_neg hm
section
variable {c : Cx} {ρ : AEnv} {H : AHs} {Z : ZM} {s s' : Shared}
theorem Cx.poOf (c : Cx) (ok : c.Ok) {b : Addr} {o : Obj} (h : c.PO b = some o) : ¬ c.mine b := by
  rintro (rfl | ⟨h', _⟩)
  · rw [ok.nloc] at h; cases h
  · rw [h'] at h; cases h
theorem St.mineAt (S : St c ρ H Z s) {b : Addr} (h : c.mine b) : ∃ o, s.heap.get? b = some o ∧ ¬ Fz o := by
  rcases h with rfl | ⟨_, x, hx⟩
  · obtain ⟨o, es, ep, e1, e2⟩ := S.localsLt
    exact ⟨o, e1, by rintro (⟨_, _, h⟩ | ⟨_, h⟩) <;> (rw [e2] at h; cases h)⟩
  · obtain ⟨v, o, e1, e2⟩ := S.cells x b hx
    exact ⟨o, e1, by rintro (⟨_, _, h⟩ | ⟨_, h⟩) <;> (rw [e2] at h; cases h)⟩
theorem St.back {env' : Env} {ρ' : AEnv} {H' : AHs} {Z' : ZM} (S : St c ρ H Z s) (ok : c.Ok) (S' : St (c.callee s.heap env') ρ' H' Z' s') (hz : ZLe Z Z') : St c ρ H' Z' s' := by
  have po : ∀ b o, c.mine b → s.heap.get? b = some o → ∃ sl, s'.heap.get? b = some { o with slots := sl } := fun b o hm e =>
    let ⟨sl, h, _⟩ := S'.po b o ((Cx.callee_mine hm).trans e); ⟨sl, h⟩
  have cellk : ∀ x b v, c.env.cells.lookup x = some b → s.heap.IsCell b v → s'.heap.IsCell b v := by
    intro x b v hx ⟨o, e1, e2⟩
    by_cases hm : c.mine b
    · obtain ⟨sl, e3⟩ := po b o hm e1
      exact ⟨_, e3, e2⟩
    · have hpo : c.PO b ≠ Option.none := fun q => hm (.inr ⟨q, x, hx⟩)
      obtain ⟨o', hpo⟩ := Option.ne_none_iff_exists'.mp hpo
      obtain ⟨sl, q1, _⟩ := S.po b o' hpo
      rw [e1] at q1; cases q1
      obtain ⟨sl', q2, _⟩ := S'.po b o' ((Cx.callee_other hm).trans hpo)
      exact ⟨_, q2, e2⟩
  refine ⟨S'.base, ?_, fun x b e => let ⟨v, h⟩ := S.cells x b e; ⟨v, cellk x b v e h⟩, fun b o e => S'.po b o ?_, fun N hN b d e => ?_, S'.apart, S'.fz, S'.hdl, S'.gens, S'.os⟩
  · obtain ⟨m, ⟨o, es, ep, e1, e2, e3⟩, hv⟩ := S.ns
    obtain ⟨sl, e4⟩ := po _ o (.inl rfl) e1
    refine ⟨m, ⟨_, es, ep, e4, e2, e3⟩, fun x a e => ?_⟩
    obtain ⟨v, h1, h2⟩ := hv x a e
    refine ⟨v, VR.mono hz _ _ h1, ?_⟩
    rcases h2 with h2 | ⟨hc, cc, q1, q2⟩
    · exact .inl h2
    · exact .inr ⟨hc, cc, q1, cellk x cc _ q1 q2⟩
  · exact (Cx.callee_other (c.poOf ok e)).trans e
  · obtain ⟨q1, r1, r2, r3, r4⟩ := S'.own N hN b d e
    by_cases hm : c.mine b
    · rw [Cx.callee_mine hm] at r2
      obtain ⟨o, h1, _⟩ := S.mineAt hm
      rw [h1] at r2; cases r2
    · rw [Cx.callee_other hm] at r2
      exact ⟨q1, r1, r2, hm, r4⟩
end
theorem bindL_miss {ko : Str → Option NameKind} {x : Str} : ∀ (binds : List (Str × Value)) (m : Str → Option Value), x ∉ binds.map Prod.fst → bindL ko binds m x = m x
  | [], _, _ => rfl
  | (n, v) :: r, m, h => by
    simp only [List.map_cons, List.mem_cons, not_or] at h
    unfold bindL
    rw [bindL_miss r _ h.2]
    split
    · exact if_neg h.1
    · rfl
theorem bindC_miss {ko : Str → Option NameKind} {x : Str} : ∀ (binds : List (Str × Value)) (m : Str → Option Value), x ∉ binds.map Prod.fst → bindC ko binds m x = m x
  | [], _, _ => rfl
  | (n, v) :: r, m, h => by
    simp only [List.map_cons, List.mem_cons, not_or] at h
    unfold bindC
    rw [bindC_miss r _ h.2]
    split
    · rfl
    · exact if_neg h.1
theorem bindL_hit {ko : Str → Option NameKind} {x : Str} {v : Value} (hk : ko x = some .local) : ∀ (binds : List (Str × Value)) (m : Str → Option Value), (binds.map Prod.fst).Nodup → binds.lookup x = some v → bindL ko binds m x = some v
  | (n, u) :: r, m, hn, h => by
    simp only [List.map_cons, List.nodup_cons] at hn
    unfold bindL
    rw [List.lookup_cons] at h
    cases hb : x == n with
    | true =>
      rw [hb] at h; cases h
      have e := beq_iff_eq.mp hb
      subst e
      rw [bindL_miss r _ hn.1, if_pos hk]; exact if_pos rfl
    | false => rw [hb] at h; exact bindL_hit hk r _ hn.2 h
theorem bindC_hit {ko : Str → Option NameKind} {x : Str} {v : Value} (hk : ko x = some .cell) : ∀ (binds : List (Str × Value)) (m : Str → Option Value), (binds.map Prod.fst).Nodup → binds.lookup x = some v → bindC ko binds m x = some v
  | (n, u) :: r, m, hn, h => by
    simp only [List.map_cons, List.nodup_cons] at hn
    unfold bindC
    rw [List.lookup_cons] at h
    cases hb : x == n with
    | true =>
      rw [hb] at h; cases h
      have e := beq_iff_eq.mp hb
      subst e
      rw [bindC_miss r _ hn.1, if_neg (by rw [hk]; decide)]; exact if_pos rfl
    | false => rw [hb] at h; exact bindC_hit hk r _ hn.2 h
theorem lookup_par {Z : ZM} {x : Str} {a : AV} : ∀ {ρ : AEnv} {binds : List (Str × Value)}, binds.map Prod.fst = ρ.map Prod.fst → VRs Z (ρ.map Prod.snd) (binds.map Prod.snd) → ρ.lookup x = some a → ∃ v, binds.lookup x = some v ∧ VR Z a v
  | [], _, _, _, h => by simp at h
  | (y, b) :: ρ, [], h1, _, _ => by simp at h1
  | (y, b) :: ρ, (n, u) :: binds, h1, h2, h => by
    simp only [List.map_cons, List.cons.injEq] at h1
    obtain ⟨rfl, h1⟩ := h1
    simp only [List.map_cons] at h2
    cases h2 with
    | cons q1 q2 =>
      rw [List.lookup_cons] at h ⊢
      cases hb : x == n with
      | true => rw [hb] at h; cases h; exact ⟨u, rfl, q1⟩
      | false => rw [hb] at h; exact lookup_par h1 q2 h
section
variable {c : Cx} {ρ : AEnv} {H : AHs} {Z : ZM} {s s' : Shared}
theorem St.enter {ρ0 : AEnv} {binds : List (Str × Value)} {fd : FuncData} {f : Addr} (S : St c ρ H Z s) (ok : c.Ok) (hfr : c.fr = c.env) (hlv : 1 ≤ c.lv) (hk : fd.scope.kind = .function) (hg : fd.globals = mainGlobals) (hb : fd.builtins = builtinsNs)
    (h1 : binds.map Prod.fst = ρ0.map Prod.fst) (h2 : VRs Z (ρ0.map Prod.snd) (binds.map Prod.snd)) (hn : (ρ0.map Prod.fst).Nodup)
    (hkind : ∀ x ∈ ρ0.map Prod.fst, fd.scope.names.lookup x = some .local ∨ fd.scope.names.lookup x = some .cell)
    (x : InCallC s (callEnvC fd s.heap.objs.size f).locals (bindL (callEnvC fd s.heap.objs.size f).kindOf binds fun z_ => Option.none) (callEnvC fd s.heap.objs.size f).cells (bindC (callEnvC fd s.heap.objs.size f).kindOf binds fun z_ => Option.none) s') :
    Callee c fd.scope (c.callee s.heap (callEnvC fd s.heap.objs.size f)) ∧ St (c.callee s.heap (callEnvC fd s.heap.objs.size f)) ρ0 H Z s' := by
  obtain ⟨xI, xc, xa, xab⟩ := x
  obtain ⟨h₁, tk, rfl⟩ := xI.same
  have hkeep := xI.keep
  have hLsz : c.base.objs.size ≤ s.heap.objs.size := by
    obtain ⟨o, es, ep, e1, _⟩ := S.localsLt
    exact Nat.le_trans ok.above (Nat.le_of_lt (Heap.lt_size e1))
  have hfreshL : s.heap.get? s.heap.objs.size = Option.none := Heap.get?_none_of_le (Nat.le_refl _)
  have nm : ¬ c.mine s.heap.objs.size := S.fresh_mine hfreshL
  have poL : c.PO s.heap.objs.size = Option.none := by
    cases q : c.PO s.heap.objs.size with
    | none => rfl
    | some o => obtain ⟨sl, h, _⟩ := S.po _ _ q; rw [hfreshL] at h; cases h
  have cellGt : ∀ n b, (callEnvC fd s.heap.objs.size f).cells.lookup n = some b → s.heap.objs.size < b := fun n b e => xab n b (mem_of_lookup e)
  have poCell : ∀ n b, (callEnvC fd s.heap.objs.size f).cells.lookup n = some b → (c.callee s.heap (callEnvC fd s.heap.objs.size f)).PO b = Option.none := by
    intro n b e
    have hfb : s.heap.get? b = Option.none := Heap.get?_none_of_le (Nat.le_of_lt (cellGt n b e))
    rw [Cx.callee_other (S.fresh_mine hfb)]
    cases q : c.PO b with
    | none => rfl
    | some o => obtain ⟨sl, h, _⟩ := S.po _ _ q; rw [hfb] at h; cases h
  have okc : (c.callee s.heap (callEnvC fd s.heap.objs.size f)).Ok := by
    refine ⟨ok.glb, hk, hg, hb, rfl, Around.frames_deeper ok.frames, hk, ⟨s.heap.objs.size, rfl, hLsz, .inl rfl⟩, hLsz, ?_, ?_, ?_, ?_, ?_, ?_, ?_⟩
    · exact (Cx.callee_other nm).trans poL
    · intro e he
      rcases List.mem_cons.mp he with rfl | he
      · obtain ⟨L, q1, q2, q3⟩ := ok.frL
        refine ⟨ok.frK, L, ?_⟩
        rcases q3 with rfl | ⟨o, q3, q4⟩
        · obtain ⟨o, es, ep, e1, e2⟩ := S.localsLt
          exact ⟨o, q1, ok.baseLoc, (Cx.callee_mine (.inl rfl)).trans e1, es, ep, e2⟩
        · exact ⟨o, q1, Heap.get?_none_of_le q2, (Cx.callee_other (c.poOf ok q3)).trans q3, q4⟩
      · obtain ⟨q0, L, o, q1, q2, q3, q4⟩ := ok.outs e he
        exact ⟨q0, L, o, q1, q2, (Cx.callee_other (c.poOf ok q3)).trans q3, q4⟩
    · intro b o e
      by_cases hm : c.mine b
      · have e' := (Cx.callee_mine hm).symm.trans e
        obtain ⟨o', q1, q2⟩ := S.mineAt hm
        rw [e'] at q1; cases q1
        rcases hm with rfl | ⟨_, y, hy⟩
        · exact ok.baseLoc
        · exact (ok.cellB y b hy).1
      · exact ok.poB b o ((Cx.callee_other hm).symm.trans e)
    · intro y z b e1 e2
      exact name_of_addr xa (mem_of_lookup e1) (mem_of_lookup e2)
    · intro y b e
      have := cellGt y b e
      exact ⟨Heap.get?_none_of_le (by show c.base.objs.size ≤ b; (exact Nat.le_of_lt (Nat.lt_of_le_of_lt (by assumption) (by assumption)))), Nat.ne_of_gt this⟩
    · have := ok.room
      show c.A.depth + 1 + (c.lv - 1) ≤ 900
      lia
    · have := ok.units
      show c.A.units + 3 + 20 * (c.lv - 1) ≤ 9000
      lia
  refine ⟨⟨⟨okc, rfl, rfl, fun y hy => ?_, poCell⟩, rfl, rfl, rfl, rfl, rfl, rfl, rfl⟩, ?_⟩
  · exact Option.isSome_iff_exists.mp (cellsFrom_some fd.scope.names (s.heap.objs.size + 1) [] (.inl hy))
  · refine ⟨fun b o e => hkeep b o (S.base b o e), ⟨_, xI.ns, fun y a e => ?_⟩, fun y b e => ⟨_, xc y b e⟩, fun b o e => ?_, fun N hN b d e => ?_, S.apart, fun b o e => ?_, S.hdl, S.gens, S.os⟩
    · obtain ⟨v, q1, q2⟩ := lookup_par h1 h2 e
      refine ⟨v, q2, ?_⟩
      have hmem : y ∈ ρ0.map Prod.fst := List.mem_map.mpr ⟨(y, a), mem_of_lookup e, rfl⟩
      rcases hkind y hmem with hl | hl
      · exact .inl ⟨hl, bindL_hit hl binds _ (h1 ▸ hn) q1⟩
      · obtain ⟨b, hb⟩ := Option.isSome_iff_exists.mp (cellsFrom_some fd.scope.names (s.heap.objs.size + 1) [] (.inl hl))
        refine .inr ⟨.inl hl, b, hb, ?_⟩
        have := xc y b hb
        rw [bindC_hit (ko := (callEnvC fd s.heap.objs.size f).kindOf) hl binds _ (h1 ▸ hn) q1] at this
        exact this
    · by_cases hm : c.mine b
      · refine ⟨o.slots, hkeep b o ((Cx.callee_mine hm).symm.trans e), ?_, fun z_ => rfl⟩
        obtain ⟨o', q1, q2⟩ := S.mineAt hm
        cases qz : Z b with
        | none => rfl
        | some oz =>
          obtain ⟨q3, q4⟩ := S.fz b oz qz
          rw [q1] at q3; cases q3
          exact absurd q4 q2
      · have e' := (Cx.callee_other hm).symm.trans e
        obtain ⟨sl, q, q2⟩ := S.po b o e'
        exact ⟨sl, hkeep b _ q, q2⟩
    · obtain ⟨⟨o, q1, q2⟩, r1, r2, r3, r4⟩ := S.own N hN b d e
      refine ⟨⟨o, hkeep b o q1, q2⟩, r1, ?_, ?_, r4⟩
      · exact (Cx.callee_other r3).trans r2
      · have hlt := Heap.lt_size q1
        rintro (q | ⟨_, y, q⟩)
        · have q' : b = s.heap.objs.size := q
          exact absurd hlt (by rw [q']; exact Nat.lt_irrefl _)
        · exact absurd hlt (Nat.not_lt.mpr (Nat.le_of_lt (cellGt y b q)))
    · obtain ⟨q1, q2⟩ := S.fz b o e
      exact ⟨hkeep b o q1, q2⟩
structure FnAt (K : Frag) (f : Addr) (qual : Str) (params : Arguments) (body : List Stmt) (scope : Scope) (dV : Value) (fd : FuncData) : Prop where
  at_ : ∃ oc od osl, K.lookup f = some ⟨oc, od, .func fd, osl⟩
  code : codeIn K fd.code qual = true
  q : fd.qualname = qual
  p : fd.params = params
  b : fd.body = .stmts body
  sc : fd.scope = scope
  g : fd.globals = mainGlobals
  cl : fd.closure = []
  bl : fd.builtins = builtinsNs
  d : fd.defaults = dV
  co : fd.scope.isCoroutine = false
  gen : fd.scope.isGenerator = false
  kind : fd.scope.kind = .function
noncomputable def Binds (c : Cx) (fd : FuncData) (as : List AV) (ρ0 : AEnv) : Prop := ∀ ρ H Z s vs, St c ρ H Z s → VRs Z as vs → ∀ (Q : List (Str × Value) → Shared → Prop) (E : Value → Shared → Prop),
  (∀ binds s₁ Z₁, ZLe Z Z₁ → St c ρ H Z₁ s₁ → binds.map Prod.fst = ρ0.map Prod.fst → VRs Z₁ (ρ0.map Prod.snd) (binds.map Prod.snd) → Q binds s₁) → wpAny (model c.prog c.w) c.A.in1 (bindArgs fd ⟨vs, []⟩) Q E s
noncomputable def AF.val : AF → AV
  | .ret a => a
  | _ => .none
theorem lookup_isSome_of {names : List (Str × NameKind)} {n : Nat} {x : Str} (h : names.lookup x = some .cell) : ((cellsFrom n names []).lookup x).isSome = true := cellsFrom_some names n [] (.inl h)
noncomputable def TK (c : Cx) (f : AV) (as : List AV) (ρ : AEnv) (H : AHs) (Q : AV → AEnv → AHs → Prop) (X : AX) : Prop :=
  ∀ Z s fv vs, St c ρ H Z s → VR Z f fv → VRs Z as vs → codeAny (model c.prog c.w) c.A (.call fv ⟨vs, []⟩) (fun r s' => match r with | .ok (.ret v) => Post c VR Z Q v s' | .ok _ => False | .error e => Exc c Z X e s') s
theorem TK.tc {f : AV} {as : List AV} {QV : AV → AEnv → AHs → Prop} {X : AX} (h : TK c f as ρ H QV X) : TC c f as ρ H QV X := fun Z s fv vs S hf hv => wpAny_call (h Z s fv vs S hf hv)
set_option tactic.hygienic true in
theorem TK.func {f : Addr} {qual : Str} {params : Arguments} {body : List Stmt} {scope : Scope} {dV : Value} {fd : FuncData} {as : List AV} {ρ0 : AEnv} {QV : AV → AEnv → AHs → Prop} {X : AX}
    (ok : c.Ok) (hfr : c.fr = c.env) (hlv : 1 ≤ c.lv) (hf : FnAt c.K f qual params body scope dV fd) (hb : Binds c fd as ρ0) (hn : (ρ0.map Prod.fst).Nodup)
    (hkind : ∀ x ∈ ρ0.map Prod.fst, scope.names.lookup x = some .local ∨ scope.names.lookup x = some .cell)
    (h : ∀ c', Callee c scope c' → TS c' body ρ0 H (fun fl _ H' => QV fl.val ρ H') (fun cl args _ H' => X cl args ρ H')) : TK c (.val (.ref f)) as ρ H QV X := fun Z s fv vs S hfv hv => by
  cases hfv
  obtain ⟨oc, od, osl, hat⟩ := hf.at_
  obtain ⟨p, loose, mg, mb, TR⟩ := ok.glb.top
  have hroom : c.A.depth < recursionLimit := by have := ok.room; have : recursionLimit = 1000 := rfl; lia
  refine codeAny_call_function hroom (S.base _ _ (ok.glb.kin _ _ hat)) rfl hf.co hf.gen hf.b (hf.q ▸ (codeRec_of ok.glb.kin hf.code).keeps S.base) (hb ρ H Z s vs S hv _ _ fun binds s₁ Z₁ hz S₁ h1 h2 => ?_)
  rw [hf.cl]
  refine wpAny_newFunctionEnv_cells hf.kind (fun x hx => ?_) fun env' he s' x => ?_
  · have hx' : x.1 ∈ ρ0.map Prod.fst := h1 ▸ List.mem_map_of_mem hx
    rw [hf.sc]
    rcases hkind x.1 hx' with q | q
    · exact .inl q
    · exact .inr ⟨q, lookup_isSome_of q⟩
  · subst he
    refine ⟨TR.nolimit.keeps (fun b o e => x.toInCall.keep b o (S₁.base b o e)), codeAny_func ?_⟩
    have hE : newEnv fd.scope s₁.heap.objs.size fd.globals (cellsFrom (s₁.heap.objs.size + 1) fd.scope.names []) (fd.qualname ++ ".<locals>.") (some f) fd.code Option.none fd.builtins = callEnvC fd s₁.heap.objs.size f := rfl
    rw [hE] at x ⊢
    obtain ⟨hc, S'⟩ := S₁.enter ok hfr hlv hf.kind hf.g hf.bl h1 h2 hn (fun y hy => by rw [hf.sc]; exact hkind y hy) x
    have hb' := h _ (hf.sc ▸ hc) Z₁ s' S'
    refine wpAny_mono hb' (fun fl s₂ hp => ?_) fun e s₂ hx => ?_
    · obtain ⟨af, ρ', H', Z₂, hz₂, hr, S₂, hq⟩ := hp
      have Sb := S₁.back ok S₂ hz₂
      cases af with
      | next => cases hr; exact ⟨_, ρ, H', Z₂, hz.trans hz₂, .val, Sb, hq⟩
      | brk => cases hr; exact ⟨_, ρ, H', Z₂, hz.trans hz₂, .val, Sb, hq⟩
      | cont => cases hr; exact ⟨_, ρ, H', Z₂, hz.trans hz₂, .val, Sb, hq⟩
      | ret a => obtain ⟨v, rfl, hv'⟩ := hr; exact ⟨a, ρ, H', Z₂, hz.trans hz₂, hv', Sb, hq⟩
    · obtain ⟨y, cls, args, E₀, ρ', H', Z₂, rfl, hE₀, hz₂, S₂, hq⟩ := hx
      unfold leaving
      refine wpAny_bind (noteFrameT S₂ hc.fn.ok rfl hc.fn.ok.frames hE₀ fun E' s₃ hE' S₃ => ?_)
      refine setFlightT S₃ hE'.f fun s₄ S₄ => ?_
      exact ⟨y, cls, args, E', ρ, H', Z₂, rfl, hE'.f, hz.trans hz₂, S₁.back ok S₄ hz₂, hq⟩
end
end Mine.Internal
end

section
open PySem PySem.W PySem.Calls PyProof.Rows
set_option Elab.async false
set_option maxRecDepth 10000
set_option linter.unusedVariables false
set_option linter.unusedSimpArgs false
namespace Mine.Internal
noncomputable def bindEq (fd : FuncData) (ns : List Str) : Nat → List Value → Prop
  | 0, us => bindArgs fd ⟨us, []⟩ = pure (ns.zip us)
  | n + 1, us => ∀ v, bindEq fd ns n (us ++ [v])
theorem bindEq.z {fd : FuncData} {ns : List Str} {us : List Value} (h : bindArgs fd ⟨us, []⟩ = pure (ns.zip us)) : bindEq fd ns 0 us := h
theorem bindEq.all {fd : FuncData} {ns : List Str} : ∀ {n : Nat} {us : List Value}, bindEq fd ns n us → ∀ vs : List Value, vs.length = n → bindArgs fd ⟨us ++ vs, []⟩ = pure (ns.zip (us ++ vs)) := by
  intro n
  induction n with
  | zero => intro us h vs hl; rw [List.length_eq_zero_iff.mp hl, List.append_nil]; exact h
  | succ n ih =>
    intro us h vs hl
    cases vs with
    | nil => cases hl
    | cons v vs => rw [List.append_cons]; exact ih (h v) vs (Nat.succ.inj hl)
noncomputable def bindEqV (fd : FuncData) (ns : List Str) (va : Str) : Nat → List Value → Prop
  | 0, us => ∀ ws, bindArgs fd ⟨us ++ ws, []⟩ = newTuple ws >>= fun t => pure (ns.zip us ++ [(va, t)])
  | n + 1, us => ∀ v, bindEqV fd ns va n (us ++ [v])
theorem bindEqV.z {fd : FuncData} {ns : List Str} {va : Str} {us : List Value} (h : ∀ ws, bindArgs fd ⟨us ++ ws, []⟩ = newTuple ws >>= fun t => pure (ns.zip us ++ [(va, t)])) : bindEqV fd ns va 0 us := h
theorem bindEqV.all {fd : FuncData} {ns : List Str} {va : Str} {ws : List Value} : ∀ {n : Nat} {us : List Value}, bindEqV fd ns va n us → ∀ vs : List Value, vs.length = n → bindArgs fd ⟨us ++ vs ++ ws, []⟩ = newTuple ws >>= fun t => pure (ns.zip (us ++ vs) ++ [(va, t)]) := by
  intro n
  induction n with
  | zero => intro us h vs hl; rw [List.length_eq_zero_iff.mp hl, List.append_nil]; exact h ws
  | succ n ih =>
    intro us h vs hl
    cases vs with
    | nil => cases hl
    | cons v vs => rw [List.append_cons]; exact ih (h v) vs (Nat.succ.inj hl)
theorem zip_fst : ∀ (ns : List Str) (us : List Value), us.length = ns.length → (ns.zip us).map Prod.fst = ns
  | [], us, h => by simp
  | n :: r, [], h => by simp at h
  | n :: r, u :: us, h => by simp [zip_fst r us (by simpa using h)]
theorem zip_snd : ∀ (ns : List Str) (us : List Value), us.length = ns.length → (ns.zip us).map Prod.snd = us
  | [], us, h => by simp at h; simp [h]
  | n :: r, [], h => by simp at h
  | n :: r, u :: us, h => by simp [zip_snd r us (by simpa using h)]
theorem zipA_fst : ∀ (ns : List Str) (us : List AV), us.length = ns.length → (ns.zip us).map Prod.fst = ns
  | [], us, h => by simp
  | n :: r, [], h => by simp at h
  | n :: r, u :: us, h => by simp [zipA_fst r us (by simpa using h)]
theorem zipA_snd : ∀ (ns : List Str) (us : List AV), us.length = ns.length → (ns.zip us).map Prod.snd = us
  | [], us, h => by simp at h; simp [h]
  | n :: r, [], h => by simp at h
  | n :: r, u :: us, h => by simp [zipA_snd r us (by simpa using h)]
theorem Binds.pos {c : Cx} {fd : FuncData} {ns : List Str} {as : List AV} (hb : bindEq fd ns as.length []) (hl : as.length = ns.length) :
    Binds c fd as (ns.zip as) := fun ρ H Z s vs S hv Q E h => by
  have e : bindArgs fd ⟨vs, []⟩ = pure (ns.zip vs) := hb.all vs hv.length
  rw [e]
  refine wpAny_pure (h _ _ _ (.refl _) S ?_ ?_)
  · rw [zip_fst _ _ (hv.length.trans hl), zipA_fst _ _ hl]
  · rw [zip_snd _ _ (hv.length.trans hl), zipA_snd _ _ hl]; exact hv
theorem VRs.split {Z : ZM} : ∀ {xs ys : List AV} {vs : List Value}, VRs Z (xs ++ ys) vs → ∃ us ws, vs = us ++ ws ∧ VRs Z xs us ∧ VRs Z ys ws
  | [], ys, vs, h => ⟨[], vs, rfl, .nil, h⟩
  | x :: xs, ys, _, .cons a b => let ⟨us, ws, e, h1, h2⟩ := VRs.split (xs := xs) b; ⟨_ :: us, ws, by rw [e]; rfl, .cons a h1, h2⟩
theorem Binds.var {c : Cx} {fd : FuncData} {ns : List Str} {va : Str} {as bs : List AV} (hb : bindEqV fd ns va as.length []) (hl : as.length = ns.length) (hbs : bs.length ≤ 1000000) :
    Binds c fd (as ++ bs) (ns.zip as ++ [(va, .tup bs)]) := fun ρ H Z s vs S hv Q E h => by
  obtain ⟨us, ws, rfl, h1, h2⟩ := hv.split
  have e : bindArgs fd ⟨us ++ ws, []⟩ = newTuple ws >>= fun t => pure (ns.zip us ++ [(va, t)]) := hb.all us h1.length
  rw [e]
  obtain ⟨hz, S'⟩ := S.pushF (o := { cls := .type "tuple", data := .seq ws.toArray }) (.inl ⟨_, _, rfl⟩) rfl
  refine wpAny_bind (wpAny_newTuple (wpAny_pure (h _ _ _ hz S' ?_ ?_)) (by rw [h2.length]; have := sizeLineIs; (exact Nat.le_trans (by assumption) (Nat.le_of_ble_eq_true rfl))))
  · rw [List.map_append, List.map_append, zip_fst _ _ (h1.length.trans hl), zipA_fst _ _ hl]; rfl
  · rw [List.map_append, List.map_append, zip_snd _ _ (h1.length.trans hl), zipA_snd _ _ hl]
    exact (VRs.mono hz _ _ h1).append (.cons (.tup (ZM.put_self _ _ _) (VRs.mono hz _ _ h2)) .nil)
theorem Binds.dflt {c : Cx} {fd : FuncData} {p q : Str} {a : AV} {T : Addr} {d : Value} {n : Nat} (ok : c.Ok) (hb : ∀ v, ∃ K : Option (Array Value) → Sem (List (Str × Value)), bindArgs fd ⟨[v], []⟩ = seqItems? (.ref T) >>= K ∧ K (some #[d]) = pure [(p, v), (q, d)]) (ho : ∃ o, c.K.lookup T = some o ∧ o.data = .seq #[d] n) :
    Binds c fd [a] [(p, a), (q, AV.of d)] := fun ρ H Z s vs S hv Q E h => by
  obtain ⟨v, rfl, h1⟩ := hv.one
  obtain ⟨o, ho, hs⟩ := ho
  obtain ⟨K, e1, e2⟩ := hb v
  rw [e1]
  refine wpAny_bind (wpAny_seqItems (S.base _ _ (ok.glb.kin _ _ ho)) hs ?_)
  rw [e2]
  exact wpAny_pure (h _ _ _ (.refl _) S rfl (.cons h1 (.cons (VR.of Z d) .nil)))
end Mine.Internal
end

section
open PySem PySem.W PySem.Calls PyProof.Rows
set_option Elab.async false
set_option maxRecDepth 10000
set_option linter.unusedVariables false
set_option linter.unusedSimpArgs false
namespace Mine.Internal
noncomputable def oInst (C dx : Addr) : OD where
  rel _ o := o = instObj C dx
  mono _ _ _ _ h := h
noncomputable def NsRel (Z : ZM) (fs : AEnv) (es : List DictEntry) : Prop := es.length ≤ fs.length ∧ ∀ x, (fs.lookup x = Option.none → getL x es = some Option.none) ∧ ∀ a, fs.lookup x = some a → ∃ v, getL x es = some (some v) ∧ handedIn v = true ∧ VR Z a v
noncomputable def oNs (fs : AEnv) : OD where
  rel Z o := ∃ es n, o = dictOf es n ∧ NsRel Z fs es
  mono Z Z' o hz h := let ⟨es, n, e, hl, r⟩ := h; ⟨es, n, e, hl, fun x => ⟨(r x).1, fun a ha => let ⟨v, h1, h2, h3⟩ := (r x).2 a ha; ⟨v, h1, h2, VR.mono hz _ _ h3⟩⟩⟩
theorem isStr_str {x y : Str} {t : Tok} : (Value.str x t).isStr y = decide (x = y) := by
  by_cases h : x = y <;> simp [Value.isStr, h]
theorem isStr_both {v : Value} {x y : Str} (h : v.isStr x = true) : v.isStr y = decide (x = y) := by
  cases v <;> simp [Value.isStr] at h
  subst h; exact isStr_str
theorem find_putL {x y : Str} {hs : Int} {t : Tok} {v : Value} : ∀ es : List DictEntry, (putL x hs (.str x t) v es).find? (·.key.isStr y) = if y = x then some (match es.find? (·.key.isStr x) with | some e => ⟨e.hash, e.key, v⟩ | Option.none => ⟨hs, .str x t, v⟩) else es.find? (·.key.isStr y)
  | [] => by
    by_cases h : y = x
    · subst h; simp [putL, isStr_str]
    · have h2 : ¬ x = y := fun e => h e.symm
      simp [putL, isStr_str, h, h2]
  | e :: r => by
    unfold putL
    cases hk : e.key.isStr x with
    | true =>
      rw [if_pos rfl, List.find?_cons, List.find?_cons]
      simp only [hk]
      by_cases h : y = x
      · subst h; simp [hk]
      · have h2 : ¬ x = y := fun e => h e.symm
        rw [if_neg h, List.find?_cons]
        rw [isStr_both hk]
        simp [h2]
    | false =>
      rw [if_neg (by decide), List.find?_cons, find_putL r, List.find?_cons, List.find?_cons]
      simp only [hk]
      by_cases h : y = x
      · subst h; simp [hk]
      · simp only [if_neg h]
theorem refKey_putL {x : Str} {hs : Int} {t : Tok} {v : Value} : ∀ es : List DictEntry, (putL x hs (.str x t) v es).any (·.refKey) = es.any (·.refKey)
  | [] => rfl
  | e :: r => by
    unfold putL
    split
    · simp only [List.any_cons]; rfl
    · simp only [List.any_cons, refKey_putL r]
set_option tactic.hygienic true in
theorem getL_putL {x y : Str} {hs : Int} {t : Tok} {v : Value} (es : List DictEntry) : getL y (putL x hs (.str x t) v es) = if y = x then some (some v) else getL y es := by
  unfold getL
  rw [find_putL, refKey_putL]
  by_cases h : y = x
  · rw [if_pos h, if_pos h]; split <;> rename_i q <;> first | (cases q; split <;> rfl) | cases q
  · rw [if_neg h, if_neg h]
theorem length_putL {x : Str} {hs : Int} {k v : Value} : ∀ es : List DictEntry, (putL x hs k v es).length = if es.any (·.key.isStr x) then es.length else es.length + 1
  | [] => rfl
  | e :: r => by
    unfold putL
    cases hk : e.key.isStr x with
    | true => simp [hk]
    | false => simp [hk, length_putL r]; split <;> rfl
set_option tactic.hygienic true in
theorem any_of_getL {x : Str} {es : List DictEntry} {v : Value} (h : getL x es = some (some v)) : es.any (·.key.isStr x) = true := by
  unfold getL at h
  split at h
  · rename_i e he; exact List.any_eq_true.mpr ⟨e, List.mem_of_find?_eq_some he, List.find?_some (p := fun x_1 : DictEntry => x_1.key.isStr x) he⟩
  · split at h <;> cases h
theorem AEnv.length_put {x : Str} {a : AV} : ∀ fs : AEnv, (AEnv.put fs x a).length = if (fs.lookup x).isSome then fs.length else fs.length + 1
  | [] => rfl
  | (y, b) :: r => by
    unfold AEnv.put
    by_cases h : y = x
    · subst h; simp [List.lookup_cons]
    · have h2 : (x == y) = false := by simpa using fun e => h e.symm
      rw [if_neg h, List.lookup_cons, h2]
      simp only [List.length_cons, AEnv.length_put r]
      split <;> rfl
theorem NsRel.put {Z : ZM} {fs : AEnv} {es : List DictEntry} {x : Str} {a : AV} {v : Value} {hs : Int} {t : Tok} (h : NsRel Z fs es) (hh : handedIn v = true) (hv : VR Z a v) : NsRel Z (AEnv.put fs x a) (putL x hs (.str x t) v es) := by
  obtain ⟨hl, r⟩ := h
  refine ⟨?_, fun y => ?_⟩
  · rw [length_putL, AEnv.length_put]
    cases q : fs.lookup x with
    | none => simp only [Option.isSome_none, Bool.false_eq_true, if_false]; split <;> lia
    | some b =>
      obtain ⟨u, hu, _⟩ := (r x).2 b q
      rw [any_of_getL hu]; simpa using hl
  · rw [AEnv.lookup_put, getL_putL]
    by_cases h : y = x
    · subst h
      rw [if_pos rfl, if_pos rfl]
      exact ⟨fun q => (by cases q), fun b q => (by cases q; exact ⟨v, rfl, hh, hv⟩)⟩
    · simp only [if_neg h]; exact r y
theorem NsRel.look {Z : ZM} {fs : AEnv} {es : List DictEntry} (h : NsRel Z fs es) (x : Str) : ∃ r, getL x es = some r := by
  cases q : fs.lookup x with
  | none => exact ⟨_, (h.2 x).1 q⟩
  | some a => obtain ⟨v, e, _⟩ := (h.2 x).2 a q; exact ⟨_, e⟩
noncomputable def SlRel (Z : ZM) (xs : List (Option AV)) (vs : Array (Option Value)) : Prop := ∀ (i : Nat) (a : AV), xs[i]? = some (some a) → ∃ v, vs[i]? = some (some v) ∧ handedIn v = true ∧ VR Z a v
noncomputable def oSlots (C dx : Addr) (xs : List (Option AV)) : OD where
  rel Z o := ∃ vs, o = ⟨.ref C, some dx, .plain, vs⟩ ∧ SlRel Z xs vs
  mono Z Z' o hz h := let ⟨vs, e, r⟩ := h; ⟨vs, e, fun i a ha => let ⟨v, h1, h2, h3⟩ := r i a ha; ⟨v, h1, h2, VR.mono hz _ _ h3⟩⟩
theorem SlRel.set {Z : ZM} {xs : List (Option AV)} {vs : Array (Option Value)} {i : Nat} {a : AV} {v : Value} (h : SlRel Z xs vs) (hi : i < xs.length) (hh : handedIn v = true) (hv : VR Z a v) :
    SlRel Z (xs.set i (some a)) ((vs ++ Array.replicate (i + 1 - vs.size) Option.none).setIfInBounds i (some v)) := by
  intro j b hj
  by_cases hij : i = j
  · subst hij
    rw [List.getElem?_set_self hi] at hj
    cases hj
    refine ⟨v, ?_, hh, hv⟩
    rw [Array.getElem?_setIfInBounds_self_of_lt]
    rw [Array.size_append, Array.size_replicate]; omega
  · rw [List.getElem?_set_ne hij] at hj
    obtain ⟨u, h1, h2, h3⟩ := h j b hj
    refine ⟨u, ?_, h2, h3⟩
    rw [Array.getElem?_setIfInBounds_ne hij, Array.getElem?_append_left, h1]
    exact (Array.getElem?_eq_some_iff.mp h1).1
noncomputable def AV.plain : AV → Bool
  | .val v => handedIn v
  | _ => true
theorem VR.handed {Z : ZM} {a : AV} {v : Value} (h : VR Z a v) (hp : a.plain = true) : handedIn v = true := by
  cases h <;> first | exact hp | rfl
structure DictCls (K : Frag) (C : Addr) : Prop where
  get : plainGet K C "" = true
  dict : hasDictIn K C = true
  set : findIn K (.ref C) "__setattr__" = some (some (.builtin "object.__setattr__"))
  over : plainOver K C = true
section
variable {c : Cx} {ρ : AEnv} {H : AHs} {X : AX} {QV : AV → AEnv → AHs → Prop} {QU : Unit → AEnv → AHs → Prop} {i j : Nat} {M N : AM} {x dx C : Addr} {fs : AEnv} {name : Str} {a : AV}
theorem Cx.Ok.kIn (ok : c.Ok) {Z : ZM} {s : Shared} (S : St c ρ H Z s) : c.K.In s.heap := ok.glb.kin.keeps S.base
theorem St.inst {Z : ZM} {s : Shared} (S : St c ρ H Z s) (hi : H[i]? = some M) (hx : M x = some (oInst C dx)) (hj : H[j]? = some N) (hd : N dx = some (oNs fs)) :
    ∃ es n, InstAt s.heap x (instObj C dx) C (some (dictOf es n)) ∧ s.heap.get? dx = some (dictOf es n) ∧ NsRel Z fs es := by
  obtain ⟨o, e1, rfl⟩ := S.read hi hx
  obtain ⟨o, e2, es, n, rfl, hr⟩ := S.read hj hd
  exact ⟨es, n, ⟨e1, rfl, rfl, e2⟩, e2, hr⟩
theorem T1.getD (ok : c.Ok) (hc : DictCls c.K C) (hi : H[i]? = some M) (hx : M x = some (oInst C dx)) (hj : H[j]? = some N) (hd : N dx = some (oNs fs)) (hn : findIn c.K (.ref C) name = some Option.none) (hf : fs.lookup name = some a) (h : QV a ρ H) {ex : Bool} :
    T1 c VR (fun v => getAttr v name ex) (.ref x) ρ H QV X := fun Z s v S hv => by
  cases hv
  obtain ⟨es, n, I, _, hr⟩ := S.inst hi hx hj hd
  obtain ⟨u, e1, e2, e3⟩ := (hr.2 name).2 a hf
  exact get_value (ok.kIn S) I (plainGet_of hc.get).1 (findObj_own hc.dict hn rfl e1) e2 (Post.now (S.tok _) e3 h)
theorem MethIs.inst {f : Addr} (ok : c.Ok) (hc : DictCls c.K C) (hi : H[i]? = some M) (hx : M x = some (oInst C dx)) (hj : H[j]? = some N) (hd : N dx = some (oNs fs)) (hn : findIn c.K (.ref C) name = some (some (.ref f))) (ht : typeIn c.K (.ref f) = some (.type "function")) (hf : fs.lookup name = Option.none) :
    MethIs c H (.ref x) name (.ref f) := fun ρ Z s v pl Q E S hv h => by
  cases hv
  obtain ⟨es, n, I, _, hr⟩ := S.inst hi hx hj hd
  refine method_fn (ok.kIn S) I (plainGet_of hc.get).1 (plainGet_of hc.get).2 hn ht ?_ h
  show (lookIn name (dictOf es n)).map _ = _
  rw [lookIn_dict, (hr.2 name).1 hf]; rfl
set_option tactic.hygienic true in
theorem osa_put {prog : Program} {w : World} {A : Around} {K : Frag} {s : Shared} {R : Result → Shared → Prop} {tk : Tok} {v : Value} {es : List DictEntry} {n : Nat} (X : K.In s.heap)
    (I : InstAt s.heap x (instObj C dx) C (some (dictOf es n))) (hp : plainOver K C = true) (ht : takerIn K C name = some Option.none) (hh : (clsIn K C).any (·.hasDict) = true) (D : s.heap.get? dx = some (dictOf es n)) (hl : (getL name es).isSome = true) (hz : es.length ≤ 900)
    (h : ∀ h', (∀ b o, b ≠ dx → s.heap.get? b = some o → h'.get? b = some o) → h'.get? dx = some (dictOf (putL name (PyData.keyHash w.params name) (.str name s.toks) v es) (putN name es n)) → R (.ok (.ret .none)) { s with heap := h', toks := s.toks + 1 }) :
    codeAny (model prog w) A (.call (.builtin "object.__setattr__") ⟨[.ref x, .str name tk, v], []⟩) R s := by
  refine osa_open X I hp ht fun b => ?_
  obtain ⟨cd, hc, hd'⟩ := any_some hh
  have D' : (s.heap.update dx (Obj.putName name (PyData.keyHash w.params name) (.str name s.toks) v)).get? dx = some (dictOf (putL name (PyData.keyHash w.params name) (.str name s.toks) v es) (putN name es n)) := by
    rw [← putName_dict]; exact Heap.get?_update_self _ D (by rw [putName_dict]; rfl)
  have hx := I.at_
  refine wpAny_bind (wpAny_pure (wpAny_bind (wpAny_bind (wpAny_loadPart hx (wpAny_bind ((looks_clsIn X hc).here ?_))))))
  rw [hd']
  refine wpAny_pure (a := some dx) (wpAny_bind (wpAny_pure (wpAny_bind ?_)))
  unfold nsSet
  refine wpAny_bind (wpAny_bind (wpAny_askSetting (wpAny_pure (wpAny_bind (wpAny_mkText (wpAny_bind (wpAny_loadPart D ?_)))))))
  have cc : (!es.toArray.any (·.key.isStr name) && es.toArray.any (·.refKey)) = false := by
    rw [List.any_toArray, List.any_toArray]
    unfold getL at hl
    split at hl
    · rename_i en he
      rw [List.any_eq_true.mpr ⟨en, List.mem_of_find?_eq_some he, List.find?_some he⟩]; rfl
    · split at hl
      · cases hl
      · rename_i z; rw [Bool.not_eq_true] at z; rw [z, Bool.and_false]
  dsimp only [dictOf]
  rw [aRefKeyMayBeTheName_at, cc]
  refine wpAny_updatePart D ?_
  refine wpAny_bind (wpAny_lookBehind D' (pastItsLine_dict (by rw [List.size_toArray, sizeLine_eq, length_putL]; split <;> lia)) ?_)
  exact wpAny_pure (h _ (fun b o hb e => (Heap.get?_update_other _ _ (Ne.symm hb)).trans e) D')
theorem T2.setD (ok : c.Ok) (hc : DictCls c.K C) (hi : H[i]? = some M) (hx : M x = some (oInst C dx)) (hj : H[j]? = some N) (hd : N dx = some (oNs fs)) (hn : findIn c.K (.ref C) name = some Option.none) (hz : fs.length ≤ 900) (hp : a.plain = true)
    (h : QU () ρ (H.set j (N.put dx (oNs (AEnv.put fs name a))))) : T2 c rUnit (fun v u => setAttr v name u) (.ref x) a ρ H QU X := fun Z s v u S hv hu => by
  cases hv
  obtain ⟨es, n, I, D, hr⟩ := S.inst hi hx hj hd
  obtain ⟨r, hl⟩ := hr.look name
  refine set_plain (ok.kIn S) I hc.set (osa_put (s := { s with toks := s.toks + 1 }) (ok.kIn (S.tok _)) I hc.over (by unfold takerIn; rw [hn]; rfl) hc.dict D (by rw [hl]; rfl) (by have := hr.1; (exact Nat.le_trans (by assumption) (by assumption))) fun h' hk hD' => ?_)
  exact ⟨(), ρ, _, Z, .refl _, trivial, S.mut hj hd (d' := oNs (AEnv.put fs name a)) (s' := { s with heap := h', toks := s.toks + 1 + 1 }) hk rfl rfl hD' ⟨_, _, rfl, hr.put (hu.handed hp) hu⟩, h⟩
structure SlotCls (K : Frag) (C : Addr) : Prop where
  get : plainGet K C "" = true
  cls : isClsIn K C = true
  set : findIn K (.ref C) "__setattr__" = some (some (.builtin "object.__setattr__"))
  over : plainOver K C = true
structure SlotAt (K : Frag) (C : Addr) (name : Str) (k : Nat) : Prop where
  ex : ∃ p, findIn K (.ref C) name = some (some (.ref p)) ∧ specialIn K (.ref p) "__get__" = some (some (.builtin "member_descriptor.__get__")) ∧ takesIn K (.ref p) = some true ∧ slotIn K p C = some k ∧ typeIn K (.ref p) = some (.type "member_descriptor")
  lt : k < 1000
theorem T1.getS {xs : List (Option AV)} {k : Nat} (ok : c.Ok) (hc : SlotCls c.K C) (hi : H[i]? = some M) (hx : M x = some (oSlots C dx xs)) (hj : H[j]? = some N) (hd : N dx = some (oNs fs)) (hn : SlotAt c.K C name k) (hf : xs[k]? = some (some a)) (h : QV a ρ H) {ex : Bool} :
    T1 c VR (fun v => getAttr v name ex) (.ref x) ρ H QV X := fun Z s v S hv => by
  cases hv
  obtain ⟨o, e1, vs, rfl, hr⟩ := S.read hi hx
  obtain ⟨o, e2, es, n, rfl, _⟩ := S.read hj hd
  obtain ⟨u, q1, q2, q3⟩ := hr k a hf
  obtain ⟨p, p1, p2, p3, p4, p5⟩ := hn.ex
  have I : InstAt s.heap x ⟨.ref C, some dx, .plain, vs⟩ C (some (dictOf es n)) := ⟨e1, rfl, rfl, e2⟩
  refine get_bind (ok.kIn S) I (plainGet_of hc.get).1 (findObj_data hc.cls p1 p2 p3) (plainGet_of hc.get).2 (wpAny_call (slot_get (s := { s with toks := s.toks + 1 }) (ok.kIn (S.tok _)) I p4 (by rw [q1]; rfl) (handed_on q2 ?_)))
  exact Post.now (S.tok _) q3 h
open PySem.Builtin PySem.Builtin.ObjectAttr PySem.Builtin.Getset_descriptor in
theorem slot_put {prog : Program} {w : World} {A : Around} {K : Frag} {s : Shared} {R : Result → Shared → Prop} {ox : Obj} {od : Option Obj} {v : Value} {p k : Nat} (X : K.In s.heap) (I : InstAt s.heap x ox C od)
    (hp : slotIn K p C = some k) (hi : k < 1000)
    (h : R (.ok (.ret .none)) { s with heap := s.heap.update x fun o => { o with slots := (o.slots ++ Array.replicate (k + 1 - o.slots.size) Option.none).setIfInBounds k (some v) } }) :
    codeAny (model prog w) A (.call (.builtin "member_descriptor.__set__") ⟨[.ref p, .ref x, v], []⟩) R s := by
  obtain ⟨n, tn, owner, behind, tb, d, sl, cd, ho, hc, hm, hb, rfl⟩ := slot_of X hp
  obtain ⟨hh, g, dr, t, os⟩ := s
  have L0 := I.type (M := model prog w)
  have L1 := looks_mroIn (M := model prog w) X hm
  have L2 : Looks (model prog w) hh (PySem.Builtin.Slots.slotNamesOf (.ref C)) cd.slotNames := (looks_clsIn X hc).andThen .now
  have hx := I.at_
  dsimp only at ho hx L0 L1
  have f0 := looks_field (M := model prog w) ho 0 (v := .str n tn) rfl
  have f1 := looks_field (M := model prog w) ho 1 (v := owner) rfl
  have f3 := looks_field (M := model prog w) ho 3 (v := .builtin "proto.slot#set") rfl
  have f4 := looks_field (M := model prog w) ho 4 (v := .int behind tb) rfl
  refine codeAny_call_builtin KF.slot_mset.plain KF.entry_mset (KF.slot_mset.check _ _ _ _ _ _ _ _ ⟨_, ho, rfl⟩ (KF.args_mset _ _ _) ?_)
  unfold Builtin.«member_descriptor.__set__» descrSet descrStoreThrough descrCheckInstance descrNameAndClass isInstance
  have f5 : Looks (model prog w) hh (descrItself (.ref p)) [.ref p] := ((Looks.ld (part := Option.none) ho).andThen .now).andThen (Looks.of_pure (by kernel_rfl))
  repeat lk
  refine ⟨Code.quiet_builtin _ (by decide +kernel), codeAny_builtin KF.entry_slotset ?_⟩
  unfold Builtin.«proto.slot#set» PySem.Builtin.Slots.target
  repeat lk
  rw [if_neg hb]
  refine wpAny_pure (wpAny_bind ?_)
  unfold setSlotAt
  dsimp only
  rw [if_neg (by rw [sizeLine_eq]; lia)]
  exact wpAny_updatePart hx (wpAny_pure h)
theorem T2.setS {xs : List (Option AV)} {k : Nat} (ok : c.Ok) (hc : SlotCls c.K C) (hi : H[i]? = some M) (hx : M x = some (oSlots C dx xs)) (hj : H[j]? = some N) (hd : N dx = some (oNs fs)) (hn : SlotAt c.K C name k) (hk : k < xs.length) (hp : a.plain = true)
    (h : QU () ρ (H.set i (M.put x (oSlots C dx (xs.set k (some a)))))) : T2 c rUnit (fun v u => setAttr v name u) (.ref x) a ρ H QU X := fun Z s v u S hv hu => by
  cases hv
  obtain ⟨o, e1, vs, rfl, hr⟩ := S.read hi hx
  obtain ⟨o, e2, es, n, rfl, _⟩ := S.read hj hd
  obtain ⟨p, p1, p2, p3, p4, p5⟩ := hn.ex
  have I : InstAt s.heap x ⟨.ref C, some dx, .plain, vs⟩ C (some (dictOf es n)) := ⟨e1, rfl, rfl, e2⟩
  refine set_plain (ok.kIn S) I hc.set (osa_descr (s := { s with toks := s.toks + 1 }) KF.slot_mset (ok.kIn (S.tok _)) I hc.over (by unfold takerIn; rw [p1, Option.bind_some]; show Option.map _ (takesIn c.K (.ref p)) = _; rw [p3]; rfl) p5 ?_)
  refine slot_put (s := { s with toks := s.toks + 1 }) (ok.kIn (S.tok _)) I p4 hn.lt ?_
  exact ⟨(), ρ, _, Z, .refl _, trivial, S.mut hi hx (d' := oSlots C dx (xs.set k (some a))) (s' := { s with heap := _, toks := s.toks + 1 }) (fun b o hb e => (Heap.get?_update_other _ _ (Ne.symm hb)).trans e) rfl rfl
    (Heap.get?_update_self _ e1 rfl) ⟨_, rfl, hr.set hk (hu.handed hp) hu⟩, h⟩
end
end Mine.Internal
end

section
open PySem PySem.W PySem.Calls PyProof.Rows
set_option Elab.async false
set_option maxRecDepth 10000
set_option linter.unusedVariables false
set_option linter.unusedSimpArgs false
namespace Mine.Internal
abbrev TA (c : Cx) (t : PySem.Expr) (a : AV) (ρ : AEnv) (H : AHs) (Q : Unit → AEnv → AHs → Prop) (X : AX) : Prop := T1 c rUnit (assign t c.env) a ρ H Q X
section
variable {c : Cx} {ρ : AEnv} {H : AHs} {X : AX} {QV : AV → AEnv → AHs → Prop} {QU : Unit → AEnv → AHs → Prop} {QB : Bool → AEnv → AHs → Prop} {Q : AF → AEnv → AHs → Prop} {a : AV}
theorem TE.attr {value : Expr} {attr : Str} {pos : Pos} (h : TE c value ρ H (fun a ρ₁ H₁ => T1 c VR (fun v => getAttr v attr true) a ρ₁ H₁ QV X) X)
    (hb : attributeBase value attr c.env (eval value c.env) = eval value c.env) : TE c (.Attribute value attr pos) ρ H QV X := fun Z s S => by
  rw [arm_eval_Attribute, hb]
  refine wpAny_bind (wpAny_mono (seq1 h S) (fun o s₁ h₁ => wpAny_bind (wpAny_standAt (wpAny_bind (wpAny_holding (wpAny_mono h₁ (fun r s₂ h₂ => ?_) fun z_ z_ y => y))))) fun z_ z_ y => y)
  exact wpAny_bind (wpAny_letTemporaryGo (wpAny_pure h₂))
theorem TA.name {x : Str} {pos : Pos} (ok : c.Ok) (hx : c.Stores x) (h : QU () (AEnv.put ρ x a) H) : TA c (.Name x pos) a ρ H QU X := fun Z s v S hv =>
  wpAny_assign_Name (S.store ok hx hv fun s' S' => ⟨(), _, H, Z, .refl _, trivial, S', h⟩)
theorem TA.attr {o : Expr} {attr : Str} {pos : Pos} (h : TE c o ρ H (fun ov ρ₁ H₁ => T2 c rUnit (fun u v => setAttr u attr v) ov a ρ₁ H₁ QU X) X) : TA c (.Attribute o attr pos) a ρ H QU X := fun Z s v S hv => by
  rw [arm_assign_Attribute]
  refine wpAny_bind (wpAny_holding (wpAny_mono (h Z s S) (fun ov s₁ ⟨oa, ρ₁, H₁, Z₁, hz, ho, S₁, h₁⟩ => ?_) fun z_ z_ x => x))
  refine wpAny_bind (wpAny_standAt (wpAny_bind (wpAny_holding (wpAny_mono (h₁ Z₁ s₁ ov v S₁ ho (VR.mono hz _ _ hv)) (fun z_ z_ h₂ => wpAny_release (h₂.le hz)) fun z_ z_ x => x.le hz))))
theorem TA.sub {o i : Expr} {pos : Pos} (h : TE c o ρ H (fun ov ρ₁ H₁ => TE c i ρ₁ H₁ (fun iv ρ₂ H₂ => T3 c rUnit setItem ov iv a ρ₂ H₂ QU X) X) X) : TA c (.Subscript o i pos) a ρ H QU X := fun Z s v S hv => by
  rw [arm_assign_Subscript]
  refine wpAny_bind (wpAny_holding (wpAny_mono (h Z s S) (fun ov s₁ ⟨oa, ρ₁, H₁, Z₁, hz, ho, S₁, h₁⟩ => ?_) fun z_ z_ x => x))
  refine wpAny_bind (wpAny_holding (wpAny_mono (h₁ Z₁ s₁ S₁) (fun iv s₂ ⟨ia, ρ₂, H₂, Z₂, hz₂, hi, S₂, h₂⟩ => ?_) fun z_ z_ x => x.le hz))
  exact wpAny_bind (wpAny_standAt (wpAny_bind (wpAny_holding (wpAny_mono (h₂ Z₂ s₂ ov iv v S₂ (VR.mono hz₂ _ _ ho) hi (VR.mono (hz.trans hz₂) _ _ hv)) (fun z_ z_ h₂ => wpAny_release (h₂.le (hz.trans hz₂))) fun z_ z_ x => x.le (hz.trans hz₂)))))
noncomputable def TAs (c : Cx) : List Expr → List AV → AEnv → AHs → (Unit → AEnv → AHs → Prop) → AX → Prop
  | [], _, ρ, H, Q, _ => Q () ρ H
  | t :: ts, [], _, _, _, _ => False
  | t :: ts, a :: as, ρ, H, Q, X => TA c t a ρ H (fun z_ ρ₁ H₁ => TAs c ts as ρ₁ H₁ Q X) X
noncomputable def plainTs (ts : List Expr) : Bool := ts.all fun | .Starred _ _ => false | _ => true
theorem assignEach_plain {env : Env} : ∀ {ts : List Expr}, plainTs ts = true → assignEach ts env = ts.map fun t => (false, assign t env)
  | [], _ => rfl
  | t :: ts, h => by
    have h' : plainTs ts = true := and_right'' h
    rw [List.map_cons, ← assignEach_plain h']
    cases t <;> first | rfl | exact Bool.noConfusion (show false = true from h)
theorem assignInOrder_T : ∀ {ts : List Expr} {as : List AV} {vs : List Value} {ρ : AEnv} {H : AHs} {Z : ZM} {s : Shared} {QU : Unit → AEnv → AHs → Prop} {X : AX}, ts.length = as.length → TAs c ts as ρ H QU X → St c ρ H Z s → VRs Z as vs →
    wpAny (model c.prog c.w) c.A (assignInOrder (ts.map fun t => assign t c.env) vs) (Post c rUnit Z QU) (Exc c Z X) s
  | [], [], _, ρ, H, Z, s, QU, X, _, h, S, .nil => wpAny_pure (Post.now S trivial h)
  | t :: ts, a :: as, _, ρ, H, Z, s, QU, X, hl, h, S, .cons (v := v) (vs := vs) hv hvs => by
    show wpAny _ _ (holding vs (assign t c.env v) >>= fun z_ => assignInOrder (ts.map fun t => assign t c.env) vs) _ _ _
    refine wpAny_bind (wpAny_holding (wpAny_mono (h Z s v S hv) (fun _ s₁ ⟨_, ρ₁, H₁, Z₁, hz, _, S₁, h₁⟩ => wpLe hz (assignInOrder_T (by simpa using hl) h₁ S₁ (VRs.mono hz _ _ hvs))) fun z_ z_ x => x))
  | [], _ :: _, _, _, _, _, _, _, _, hl, _, _, _ => by simp at hl
  | _ :: _, [], _, _, _, _, _, _, _, hl, _, _, _ => by simp at hl
theorem TA.tup {ts : List Expr} {k : Nat} {pos : Pos} {as : List AV} (hh : c.A.handled = Option.none) (hp : plainTs ts = true) (hl : ts.length = as.length) (h : TAs c ts as ρ H QU X) : TA c (.Tuple ts k pos) (.tup as) ρ H QU X := fun Z s v S hv => by
  obtain ⟨l, vs, n, rfl, e1, e5⟩ := hv.toTup
  have hn := e5.toArr
  refine wpAny_assign_Tuple (items := vs) hh ⟨_, (S.fz _ _ e1).1, rfl, n, rfl⟩ (by rw [assignEach_plain hp, List.length_map, hl, hn]) (by rw [assignEach_plain hp]; simp) fun h' he => ?_
  rw [assignEach_plain hp, List.map_map]
  have S' := S.ext (s' := { s with heap := h' }) (fun b o e => he b o (Nat.ne_of_lt (Heap.lt_size e)) e) rfl rfl
  exact assignInOrder_T hl h S' e5
noncomputable def TAll (c : Cx) (a : AV) : List Expr → AEnv → AHs → (Unit → AEnv → AHs → Prop) → AX → Prop
  | [], ρ, H, Q, _ => Q () ρ H
  | t :: ts, ρ, H, Q, X => TA c t a ρ H (fun z_ ρ₁ H₁ => TAll c a ts ρ₁ H₁ Q X) X
theorem assignAll_T : ∀ {ts : List Expr} {v : Value} {ρ : AEnv} {H : AHs} {Z : ZM} {s : Shared} {QU : Unit → AEnv → AHs → Prop} {X : AX}, TAll c a ts ρ H QU X → St c ρ H Z s → VR Z a v →
    wpAny (model c.prog c.w) c.A (assignAll v (ts.map fun t => assign t c.env)) (Post c rUnit Z QU) (Exc c Z X) s
  | [], v, ρ, H, Z, s, QU, X, h, S, hv => wpAny_pure (Post.now S trivial h)
  | [t], v, ρ, H, Z, s, QU, X, h, S, hv => h Z s v S hv
  | t :: u :: ts, v, ρ, H, Z, s, QU, X, h, S, hv => by
    show wpAny _ _ (holding [v] (assign t c.env v) >>= fun z_ => assignAll v ((u :: ts).map fun t => assign t c.env)) _ _ _
    exact wpAny_bind (wpAny_holding (wpAny_mono (h Z s v S hv) (fun _ s₁ ⟨_, ρ₁, H₁, Z₁, hz, _, S₁, h₁⟩ => wpLe hz (assignAll_T (ts := u :: ts) h₁ S₁ (VR.mono hz _ _ hv))) fun z_ z_ x => x))
set_option tactic.hygienic true in
theorem TX.assigns {ts : List Expr} {value : Expr} {pos : Pos} (hp : plainTs ts = true) (h : TE c value ρ H (fun a ρ₁ H₁ => TAll c a ts ρ₁ H₁ (fun _ => Q .next) X) X)
    (hs : swapsWithSole ts value pos.line c.env = pure false) (hw : swappedStores ts value c.env = pure Option.none) : TX c (.Assign ts value pos) ρ H Q X := fun Z s S => by
  refine wpAny_Assign_stores (wpAny_mono (h Z s S) (fun v s₁ ⟨a, ρ₁, H₁, Z₁, hz, hv, S₁, h₁⟩ => ?_) fun _ _ x => x) hs hw
  rw [assignEach_plain hp, List.map_map]
  exact wpAny_mono (assignAll_T h₁ S₁ hv) (fun _ s₂ ⟨_, ρ₂, H₂, Z₂, hz₂, _, S₂, h₂⟩ => ⟨.next, ρ₂, H₂, Z₂, hz.trans hz₂, rfl, S₂, h₂⟩) fun _ _ x => x.le hz
theorem TE.named {t value : Expr} {pos : Pos} (h : TE c value ρ H (fun a ρ₁ H₁ => TA c t a ρ₁ H₁ (fun z_ ρ₂ H₂ => QV a ρ₂ H₂) X) X) : TE c (.NamedExpr t value pos) ρ H QV X := fun Z s S => by
  refine wpAny_NamedExpr (wpAny_mono (h Z s S) (fun v s₁ ⟨a, ρ₁, H₁, Z₁, hz, hv, S₁, h₁⟩ => ?_) fun z_ z_ x => x)
  exact wpAny_mono (h₁ Z₁ s₁ v S₁ hv) (fun _ s₂ ⟨_, ρ₂, H₂, Z₂, hz₂, _, S₂, h₂⟩ => ⟨a, ρ₂, H₂, Z₂, hz.trans hz₂, VR.mono hz₂ _ _ hv, S₂, h₂⟩) fun z_ z_ x => x.le hz
set_option tactic.hygienic true in
theorem TX.augN {x : Str} {p pos : Pos} {op : Operator} {value : Expr} (ok : c.Ok) (hx : c.Stores x) (hl : ρ.lookup x = some a) (h : TE c value ρ H (fun b ρ₁ H₁ => T2 c VR (inplaceOp op) a b ρ₁ H₁ (fun r ρ₂ H₂ => Q .next (AEnv.put ρ₂ x r) H₂) X) X)
    (hd : (x == ("__classdict__" : Str)) = false) : TX c (.AugAssign (.Name x p) op value pos) ρ H Q X := fun Z s S => by
  obtain ⟨m, hn, hv⟩ := S.ns
  obtain ⟨v, hv1, hv2⟩ := hv x a hl
  refine wpAny_AugAssign_Name ?_
  have go : wpAny (model c.prog c.w) c.A (eval value c.env) (fun u s₂ => wpAny (model c.prog c.w) c.A (inplaceOp op v u) (fun r s₃ => wpAny (model c.prog c.w) c.A (storeName c.env x r) (fun _ => Post c rFlow Z Q .next) (Exc c Z X) s₃) (Exc c Z X) s₂) (Exc c Z X) s := by
    refine wpAny_mono (h Z s S) (fun u s₁ ⟨b, ρ₁, H₁, Z₁, hz, hu, S₁, h₁⟩ => ?_) fun _ _ x => x
    refine wpAny_mono (h₁ Z₁ s₁ v u S₁ (VR.mono hz _ _ hv1) hu) (fun r s₂ ⟨ra, ρ₂, H₂, Z₂, hz₂, hr, S₂, h₂⟩ => ?_) fun _ _ x => x.le hz
    exact S₂.store ok hx hr fun s' S' => ⟨.next, _, H₂, Z₂, hz.trans hz₂, rfl, S', h₂⟩
  rcases hv2 with ⟨hl, hm⟩ | ⟨hl | hl, cc, e1, e2⟩
  · exact wpAny_loadName_local ok.kind hl hn hm go
  · exact wpAny_loadName_cell ok.kind hl e1 e2 go
  · exact wpAny_loadName_free ok.kind hl e1 e2 go hd
set_option tactic.hygienic true in
theorem TX.augA {o : Expr} {attr : Str} {tpos pos : Pos} {op : Operator} {value : Expr}
    (h : TE c o ρ H (fun ov ρ₁ H₁ => T1 c VR (fun v => getAttr v attr true) ov ρ₁ H₁ (fun old ρ₂ H₂ => TE c value ρ₂ H₂ (fun b ρ₃ H₃ => T2 c VR (inplaceOp op) old b ρ₃ H₃ (fun r ρ₄ H₄ => T2 c rUnit (fun u v => setAttr u attr v) ov r ρ₄ H₄ (fun _ => Q .next) X) X) X) X) X) :
    TX c (.AugAssign (.Attribute o attr tpos) op value pos) ρ H Q X := fun Z s S => by
  refine wpAny_AugAssign_AttributeAny (wpAny_mono (h Z s S) (fun ov s₁ ⟨oa, ρ₁, H₁, Z₁, hz₁, ho, S₁, h₁⟩ => ?_) fun _ _ x => x)
  refine wpAny_mono (h₁ Z₁ s₁ ov S₁ ho) (fun old s₂ ⟨da, ρ₂, H₂, Z₂, hz₂, hd, S₂, h₂⟩ => ?_) fun _ _ x => x.le hz₁
  refine wpAny_mono (h₂ Z₂ s₂ S₂) (fun v s₃ ⟨b, ρ₃, H₃, Z₃, hz₃, hb, S₃, h₃⟩ => ?_) fun _ _ x => x.le (hz₁.trans hz₂)
  refine wpAny_mono (h₃ Z₃ s₃ old v S₃ (VR.mono hz₃ _ _ hd) hb) (fun r s₄ ⟨ra, ρ₄, H₄, Z₄, hz₄, hr, S₄, h₄⟩ => ?_) fun _ _ x => x.le ((hz₁.trans hz₂).trans hz₃)
  refine wpAny_mono (h₄ Z₄ s₄ ov r S₄ (VR.mono ((hz₂.trans hz₃).trans hz₄) _ _ ho) hr) (fun _ s₅ ⟨_, ρ₅, H₅, Z₅, hz₅, _, S₅, h₅⟩ => ?_) fun _ _ x => x.le (((hz₁.trans hz₂).trans hz₃).trans hz₄)
  exact ⟨.next, ρ₅, H₅, Z₅, ((((hz₁.trans hz₂).trans hz₃).trans hz₄).trans hz₅), rfl, S₅, h₅⟩
set_option tactic.hygienic true in
theorem TX.augS {o i : Expr} {tpos pos : Pos} {op : Operator} {value : Expr} (hs : isSlice i = false)
    (h : TE c o ρ H (fun ov ρ₀ H₀ => TE c i ρ₀ H₀ (fun iv ρ₁ H₁ => T2 c VR getItem ov iv ρ₁ H₁ (fun old ρ₂ H₂ => TE c value ρ₂ H₂ (fun b ρ₃ H₃ => T2 c VR (inplaceOp op) old b ρ₃ H₃ (fun r ρ₄ H₄ => T3 c rUnit setItem ov iv r ρ₄ H₄ (fun _ => Q .next) X) X) X) X) X) X) :
    TX c (.AugAssign (.Subscript o i tpos) op value pos) ρ H Q X := fun Z s S => by
  refine wpAny_AugAssign_SubscriptAny (wpAny_mono (h Z s S) (fun ov s₀ ⟨oa, ρ₀, H₀, Z₀, hz₀, ho, S₀, h₀⟩ => ?_) fun _ _ x => x) (by cases i <;> first | (intros; rfl) | exact Bool.noConfusion (show true = false from hs))
  refine wpAny_mono (h₀ Z₀ s₀ S₀) (fun iv s₁ ⟨ia, ρ₁, H₁, Z₁, hz₁, hi, S₁, h₁⟩ => ?_) fun _ _ x => x.le hz₀
  have hz01 := hz₀.trans hz₁
  refine wpAny_mono (h₁ Z₁ s₁ ov iv S₁ (VR.mono hz₁ _ _ ho) hi) (fun old s₂ ⟨da, ρ₂, H₂, Z₂, hz₂, hd, S₂, h₂⟩ => ?_) fun _ _ x => x.le hz01
  refine wpAny_mono (h₂ Z₂ s₂ S₂) (fun v s₃ ⟨b, ρ₃, H₃, Z₃, hz₃, hb, S₃, h₃⟩ => ?_) fun _ _ x => x.le (hz01.trans hz₂)
  refine wpAny_mono (h₃ Z₃ s₃ old v S₃ (VR.mono hz₃ _ _ hd) hb) (fun r s₄ ⟨ra, ρ₄, H₄, Z₄, hz₄, hr, S₄, h₄⟩ => ?_) fun _ _ x => x.le ((hz01.trans hz₂).trans hz₃)
  have hz24 := (hz₂.trans hz₃).trans hz₄
  refine wpAny_mono (h₄ Z₄ s₄ ov iv r S₄ (VR.mono (hz₁.trans hz24) _ _ ho) (VR.mono hz24 _ _ hi) hr) (fun _ s₅ ⟨_, ρ₅, H₅, Z₅, hz₅, _, S₅, h₅⟩ => ?_) fun _ _ x => x.le (hz01.trans hz24)
  exact ⟨.next, ρ₅, H₅, Z₅, (hz01.trans hz24).trans hz₅, rfl, S₅, h₅⟩
set_option tactic.hygienic true in
theorem TX.delS {o i : Expr} {tpos pos : Pos} (h : TE c o ρ H (fun ov ρ₁ H₁ => TE c i ρ₁ H₁ (fun iv ρ₂ H₂ => T2 c rUnit delItem ov iv ρ₂ H₂ (fun _ => Q .next) X) X) X) : TX c (.Delete [.Subscript o i tpos] pos) ρ H Q X := fun Z s S => by
  refine wpAny_Delete (wpAny_deleteEach_cons ?_)
  rw [arm_delete_Subscript]
  refine wpAny_bind (wpAny_mono (seq2 h S) (fun ov s₁ h₁ => wpAny_bind (wpAny_holding (wpAny_mono h₁ (fun iv s₂ h₂ => wpAny_bind (wpAny_standAt (wpAny_bind (wpAny_holding (wpAny_mono h₂ (fun _ s₃ h₃ => wpAny_release (wpAny_deleteEach_nil ?_)) fun _ _ x => x))))) fun _ _ x => x))) fun _ _ x => x)
  obtain ⟨_, ρ', H', Z', hz, _, S', h'⟩ := h₃
  exact ⟨.next, ρ', H', Z', hz, rfl, S', h'⟩
abbrev TT (c : Cx) (a : AV) (ρ : AEnv) (H : AHs) (Q : Bool → AEnv → AHs → Prop) (X : AX) : Prop := T1 c rBool truthy a ρ H Q X
noncomputable def isNotU : UnaryOp → Bool
  | .Not => false
  | _ => true
noncomputable def plainTest : Expr → Bool
  | .UnaryOp op _ _ => isNotU op
  | .BoolOp _ _ _ => false
  | .IfExp _ _ _ _ => false
  | .Compare _ _ _ _ => false
  | _ => true
set_option tactic.hygienic true in
theorem TB.of {e : Expr} (hp : plainTest e = true) (h : TE c e ρ H (fun a ρ₁ H₁ => TT c a ρ₁ H₁ QB X) X) : TB c e ρ H QB X := fun Z s S => by
  have he : isTrue e c.env (eval e c.env) = (do let v ← eval e c.env; standAt e.pos; holding [v] (truthy v)) := by
    cases e <;> first | rfl | exact Bool.noConfusion (show false = true from hp) | (rename_i op _ _; cases op <;> first | rfl | exact Bool.noConfusion (show false = true from hp))
  rw [he]
  exact wpAny_bind (wpAny_mono (seq1 h S) (fun v s₁ h₁ => wpAny_bind (wpAny_standAt (wpAny_holding h₁))) fun _ _ x => x)
theorem TT.bool {b : Bool} (h : QB b ρ H) : TT c (.bool b) ρ H QB X := fun Z s v S hv => by cases hv; exact wpAny_truthy_bool (Post.now (b := b) S rfl h)
theorem TT.none (h : QB false ρ H) : TT c .none ρ H QB X := fun Z s v S hv => by cases hv; exact PyProof.Rows.truthy_none (Post.now (b := false) S rfl h)
theorem TT.list {xs : List AV} (hl : LV H a xs) (hn : xs.length ≤ 1000000) (h : QB (!xs.isEmpty) ρ H) : TT c a ρ H QB X := fun Z s v S hv => by
  obtain ⟨l, vs, rfl, hL, e2⟩ := hl.isList S hv
  have hsz := e2.toArr
  refine wpAny_truthy_list hL (by omega) ?_
  have : vs.isEmpty = xs.isEmpty := by
    unfold Array.isEmpty; rw [hsz]; cases xs <;> simp
  rw [this]
  exact Post.now (b := !xs.isEmpty) (S.tok _) rfl h
end
end Mine.Internal
end

section
open PySem PySem.W PySem.Calls PyProof.Rows
set_option Elab.async false
set_option maxRecDepth 10000
set_option linter.unusedVariables false
set_option linter.unusedSimpArgs false
namespace Mine.Internal
noncomputable def Cx.hold (c : Cx) (b : Addr) (o : Obj) : Cx := { c with PO := fun x => if x = b then some o else c.PO x }
noncomputable def oAny (P : Obj → Prop) : OD where
  rel _ o := P o
  mono _ _ _ _ h := h
section
variable {c : Cx} {ρ : AEnv} {H : AHs} {Z : ZM} {s : Shared} {b : Addr} {o : Obj} {d : OD} {sc : Scope}
structure Free (c : Cx) (b : Addr) : Prop where
  base : c.base.get? b = Option.none
  po : c.PO b = Option.none
  mine : ¬ c.mine b
theorem St.free (S : St c ρ (one b d :: H) Z s) : Free c b := by
  obtain ⟨_, h1, h2, h3, _⟩ := S.own _ (.head _) b d (by simp [one])
  exact ⟨h1, h2, h3⟩
set_option tactic.hygienic true in
theorem Free.ok (f : Free c b) (ok : c.Ok) : (c.hold b o).Ok := by
  have hl : ¬ c.env.locals = b := fun e => f.mine (.inl e.symm)
  have keep : ∀ L o', c.PO L = some o' → (c.hold b o).PO L = some o' := fun L o' e => (if_neg (fun q => by rw [q, f.po] at e; cases e)).trans e
  refine ⟨ok.glb, ok.kind, ok.globals, ok.builtins, ok.frame, ok.frames, ok.frK, ?_, ok.above, (if_neg hl).trans ok.nloc, ?_, ?_, ok.cellI, ok.cellB, ok.room, ok.units⟩
  · obtain ⟨L, h1, h2, h3⟩ := ok.frL
    refine ⟨L, h1, h2, ?_⟩
    rcases h3 with h3 | ⟨o', h3, h4⟩
    · exact .inl h3
    · exact .inr ⟨o', keep L o' h3, h4⟩
  · intro e he
    obtain ⟨h0, L, o', h1, h2, h3, h4⟩ := ok.outs e he
    exact ⟨h0, L, o', h1, h2, keep L o' h3, h4⟩
  · intro b' o' e
    have e : (if b' = b then some o else c.PO b') = some o' := e
    split at e
    · rename_i q; subst q; exact f.base
    · exact ok.poB b' o' e
theorem Free.cell (f : Free c b) {x : Str} {b' : Addr} (h : c.env.cells.lookup x = some b') : b' ≠ b := fun q => f.mine (.inr ⟨f.po, x, q ▸ h⟩)
theorem Free.fun (f : Free c b) (F : Fun c sc) : Fun (c.hold b o) sc :=
  ⟨f.ok F.ok, F.scope, F.fr, F.cell, fun x b' h => (if_neg (f.cell h)).trans (F.own x b' h)⟩
theorem hold_mine (f : Free c b) {b' : Addr} : (c.hold b o).mine b' ↔ c.mine b' := by
  unfold Cx.mine
  constructor
  · rintro (h | ⟨h1, x, h2⟩)
    · exact .inl h
    · refine .inr ⟨?_, x, h2⟩
      have h1 : (if b' = b then some o else c.PO b') = Option.none := h1
      split at h1
      · cases h1
      · exact h1
  · rintro (h | ⟨h1, x, h2⟩)
    · exact .inl h
    · exact .inr ⟨(if_neg (f.cell h2)).trans h1, x, h2⟩
theorem St.hold (S : St c ρ (one b d :: H) Z s) (ho : s.heap.get? b = some o) : St (c.hold b o) ρ H Z s := by
  have f := S.free
  have hap := List.pairwise_cons.mp S.apart
  refine ⟨S.base, S.ns, S.cells, fun b' o' e => ?_, fun M hM b' d' e => ?_, hap.2, S.fz, S.hdl, S.gens, S.os⟩
  · have e : (if b' = b then some o else c.PO b') = some o' := e
    by_cases q : b' = b
    · subst q
      rw [if_pos rfl] at e
      injection e with e
      subst e
      obtain ⟨_, _, _, _, hz⟩ := S.own _ (.head _) b' d (by simp [one])
      exact ⟨o.slots, ho, hz, fun z_ => rfl⟩
    · rw [if_neg q] at e; exact S.po b' o' e
  · obtain ⟨h1, h2, h3, h4, h5⟩ := S.own M (.tail _ hM) b' d' e
    have hb : b' ≠ b := by
      rintro rfl
      rcases hap.1 M hM b' with q | q
      · simp [one] at q
      · rw [e] at q; cases q
    exact ⟨h1, h2, (if_neg hb).trans h3, fun q => h4 ((hold_mine f).mp q), h5⟩
set_option tactic.hygienic true in
theorem St.unhold (f : Free c b) (S : St (c.hold b o) ρ H Z s) : St c ρ (one b (oAny fun o' => (∀ es ep, o.data ≠ .dict es ep) → o' = o) :: H) Z s := by
  obtain ⟨sl, h1, hz, hsl⟩ := S.po b o (if_pos rfl)
  refine ⟨S.base, S.ns, S.cells, fun b' o' e => S.po b' o' ?_, fun M hM b' d' e => ?_, List.pairwise_cons.mpr ⟨fun M hM b' => ?_, S.apart⟩, S.fz, S.hdl, S.gens, S.os⟩
  · exact (if_neg (fun q => by rw [q, f.po] at e; cases e)).trans e
  · rcases List.mem_cons.mp hM with rfl | hM
    · unfold one at e
      split at e
      · rename_i q; subst q; cases e
        exact ⟨⟨_, h1, fun hf => by rw [hsl hf]⟩, f.base, f.po, f.mine, hz⟩
      · cases e
    · obtain ⟨q1, q2, q3, q4, q5⟩ := S.own M hM b' d' e
      have q3 : (if b' = b then some o else c.PO b') = Option.none := q3
      split at q3
      · cases q3
      · exact ⟨q1, q2, q3, fun q => q4 ((hold_mine f).mpr q), q5⟩
  · by_cases hb : b' = b
    · subst hb
      right
      cases q : M b' with
      | none => rfl
      | some d' =>
        obtain ⟨_, _, q3, _⟩ := S.own M hM b' d' q
        have q3 : (if b' = b' then some o else c.PO b') = Option.none := q3
        rw [if_pos rfl] at q3; cases q3
    · left; simp [one, hb]
theorem St.unhold' (f : Free c b) (S : St (c.hold b o) ρ H Z s) : St c ρ H Z s := (S.unhold f).drop (List.sublist_cons_self ..)
theorem Exc.unhold {X : AX} {e : Value} (f : Free c b) (h : Exc (c.hold b o) Z X e s) : Exc c Z X e s := by
  obtain ⟨x, cls, args, E, ρ', H', Z', h1, h2, h3, h4, h5⟩ := h
  exact ⟨x, cls, args, E, ρ', H', Z', h1, h2, h3, h4.unhold' f, h5⟩
end
section
variable {c : Cx} {ρ : AEnv} {H : AHs} {Z : ZM} {s : Shared} {sc : Scope} {X : AX} {Q : AF → AEnv → AHs → Prop}
theorem loopErr {e : Value} (F : Fun c sc) (hx : Exc c Z X e s) : notedBy (model c.prog c.w) c.A c.env (fun e s' => cameBackBy (model c.prog c.w) c.A c.env (Exc c Z X) e s') e s := by
  obtain ⟨x, cls, args, E, ρ', H', Z', rfl, hE, hz, S, hX⟩ := hx
  unfold notedBy
  refine noteFrameT S F.ok F.fr F.ok.frames hE fun E' s' hE' S' => ?_
  unfold cameBackBy
  obtain ⟨T, h1, h2, h3⟩ := hE'
  obtain ⟨o, e1, e2, vs, t, rest, e3, e4, e5⟩ := S'.read (i := 0) rfl h1
  refine wpAny_bind (wpAny_field e1 e3 (x := .ref T) (by rw [← Array.getElem?_toList, e4]; rfl) ?_)
  rw [if_neg (show ¬ (Value.ref T == Value.none) = true from by simp)]
  exact setFlightT S' ⟨some T, h1, fun T' e => by cases e; exact ⟨h2, h3⟩⟩ fun s'' S'' => ⟨x, cls, args, E', ρ', H', Z', rfl, ⟨some T, h1, fun T' e => by cases e; exact ⟨h2, h3⟩⟩, hz, S'', hX⟩
set_option tactic.hygienic true in
noncomputable def turned (again : AEnv → AHs → Prop) (Q : AF → AEnv → AHs → Prop) : AF → AEnv → AHs → Prop
  | .next => again
  | .cont => again
  | .brk => Q .next
  | .ret a => Q (.ret a)
set_option tactic.hygienic true in
theorem TX.while {test : Expr} {body orelse : List Stmt} {pos : Pos} (F : Fun c sc) (I : Nat → AEnv → AHs → Prop)
    (h : ∀ n ρ H, I n ρ H → TB c test ρ H (fun b ρ₁ H₁ => if b then TS c body ρ₁ H₁ (turned (fun ρ₂ H₂ => ∃ m, m < n ∧ I m ρ₂ H₂) Q) X else TS c orelse ρ₁ H₁ Q X) X)
    (n : Nat) (h0 : I n ρ H) : TX c (.While test body orelse pos) ρ H Q X := fun Z s S => by
  refine wpAny_While (codeAny_whileLoop (fun n s => ∃ ρ H Z₁, ZLe Z Z₁ ∧ St c ρ H Z₁ s ∧ I n ρ H) (fun n s ⟨ρ, H, Z₁, hz, S, hI⟩ => ?_) n ⟨ρ, H, Z, .refl _, S, h0⟩)
  refine wpAny_mono (h n ρ H hI Z₁ s S) (fun b s₁ ⟨b', ρ₁, H₁, Z₂, hz₂, hf, S₁, h₁⟩ => ?_) fun _ _ x => loopErr F (x.le hz)
  cases hf
  have hz' := hz.trans hz₂
  cases b with
  | false =>
    simp only [Bool.false_eq_true, if_false] at h₁ ⊢
    exact wpAny_mono (h₁ Z₂ s₁ S₁) (fun f s₂ h₂ => h₂.le hz') fun _ _ x => loopErr F (x.le hz')
  | true =>
    simp only [if_true] at h₁ ⊢
    refine wpAny_mono (h₁ Z₂ s₁ S₁) (fun f s₂ h₂ => ?_) fun _ _ x => loopErr F (x.le hz')
    obtain ⟨af, ρ₂, H₂, Z₃, hz₃, hf, S₂, h₃⟩ := h₂
    cases af with
    | next => cases hf; obtain ⟨m, hm, hI'⟩ := h₃; exact ⟨m, hm, ρ₂, H₂, Z₃, hz'.trans hz₃, S₂, hI'⟩
    | cont => cases hf; obtain ⟨m, hm, hI'⟩ := h₃; exact ⟨m, hm, ρ₂, H₂, Z₃, hz'.trans hz₃, S₂, hI'⟩
    | brk => cases hf; exact ⟨.next, ρ₂, H₂, Z₃, hz'.trans hz₃, rfl, S₂, h₃⟩
    | ret a => obtain ⟨v, rfl, hv⟩ := hf; exact ⟨.ret a, ρ₂, H₂, Z₃, hz'.trans hz₃, ⟨v, rfl, hv⟩, S₂, h₃⟩
structure Itr (c : Cx) (P : AHs → Prop) (xs : List AV) where
  at_ : Nat → OD
  tg : Expr → Prop := fun z_ => True
  data : ∀ n Z o, (at_ n).rel Z o → ∃ vs, o.data = .fields vs
  step : ∀ n a, xs[n]? = some a → ∀ target ρ H Z s it (Q : Value → Shared → Prop) E, tg target → St c ρ (one it (at_ n) :: H) Z s → P H →
    (∀ v s' Z', ZLe Z Z' → VR Z' a v → St c ρ (one it (at_ (n + 1)) :: H) Z' s' → Q v s') →
    wpAny (model c.prog c.w) c.A (pyNext (.ref it)) (fun r s₁ => match r with | Option.none => False | some v => wpAny (model c.prog c.w) c.A (letOwnedTupleGo target (.ref it) v) (fun z_ s₂ => Q v s₂) E s₁) E s
  stop : ∀ ρ H Z s it (Q : Option Value → Shared → Prop) E, St c ρ (one it (at_ xs.length) :: H) Z s → P H →
    (∀ s', St c ρ H Z s' → Q Option.none s') → wpAny (model c.prog c.w) c.A (pyNext (.ref it)) Q E s
theorem St.moved {h' : Heap} {it : Addr} {d d' : OD} {o' : Obj} {t : Nat} (S : St c ρ (one it d :: H) Z s) (hk : ∀ b o, b ≠ it → s.heap.get? b = some o → h'.get? b = some o) (ho : h'.get? it = some o') (hp : d'.rel Z o') :
    St c ρ (one it d' :: H) Z { s with heap := h', toks := t } := by
  have := S.mut (i := 0) (a := it) (d := d) (d' := d') (s' := { s with heap := h', toks := t }) rfl (by simp [one]) hk rfl rfl ho hp
  simpa [one_put] using this
theorem St.dropped {h' : Heap} {it : Addr} {d : OD} (S : St c ρ (one it d :: H) Z s) (hk : ∀ b o, b ≠ it → s.heap.get? b = some o → h'.get? b = some o) : St c ρ H Z { s with heap := h' } := by
  obtain ⟨o, ho, _⟩ := S.read (i := 0) (a := it) (d := d) rfl (by simp [one])
  have S1 := S.hold ho
  have f := S.free
  -- everything but the iterator is as it was
  have hap := List.pairwise_cons.mp S.apart
  have nl : c.env.locals ≠ it := fun e => f.mine (.inl e.symm)
  refine ⟨fun b o e => hk b o (fun q => by rw [q, f.base] at e; cases e) (S.base b o e), ?_, fun x b e => ?_, fun b o e => ?_, fun M hM b d' e => ?_, hap.2, fun b o e => ?_, S.hdl, S.gens, S.os⟩
  · obtain ⟨m, ⟨ol, es, ep, h1, h2⟩, hv⟩ := S.ns
    refine ⟨m, ⟨ol, es, ep, hk _ _ nl h1, h2⟩, fun x a e => ?_⟩
    obtain ⟨v, h3, h4⟩ := hv x a e
    refine ⟨v, h3, ?_⟩
    rcases h4 with h4 | ⟨hc, cc, e1, oc, e2, e3⟩
    · exact .inl h4
    · exact .inr ⟨hc, cc, e1, oc, hk _ _ (f.cell e1) e2, e3⟩
  · obtain ⟨v, oc, e1, e2⟩ := S.cells x b e
    exact ⟨v, oc, hk _ _ (f.cell e) e1, e2⟩
  · obtain ⟨sl, e1, e2⟩ := S.po b o e
    exact ⟨sl, hk _ _ (fun q => by rw [q, f.po] at e; cases e) e1, e2⟩
  · refine (S.own M (.tail _ hM) b d' e).keep fun o' => hk b o' fun q => ?_
    subst q
    rcases hap.1 M hM b with q | q
    · simp [one] at q
    · rw [e] at q; cases q
  · obtain ⟨e1, e2⟩ := S.fz b o e
    refine ⟨hk _ _ (fun q => ?_) e1, e2⟩
    subst q
    obtain ⟨_, _, _, _, hz⟩ := S.own _ (.head _) b d (by simp [one])
    rw [e] at hz; cases hz
set_option tactic.hygienic true in
theorem forLoop_T {P : AHs → Prop} {xs : List AV} {target : Expr} {body orelse : List Stmt} {it : Addr} (F : Fun c sc) (J : Itr c P xs) (htg : J.tg target) (I : Nat → AEnv → AHs → Prop) (hP : ∀ n ρ H, I n ρ H → P H)
    (hb : ∀ n a ρ H it o, xs[n]? = some a → I n ρ H → Fun (c.hold it o) sc → TA (c.hold it o) target a ρ H (fun _ ρ₁ H₁ => TS (c.hold it o) body ρ₁ H₁ (turned (I (n + 1)) Q) X) X)
    (he : ∀ ρ H, I xs.length ρ H → TS c orelse ρ H Q X) (h0 : I 0 ρ H) (S : St c ρ (one it (J.at_ 0) :: H) Z s) :
    codeAny (model c.prog c.w) c.A (.forLoop target (.ref it) body orelse c.env) (fun r s' => match r with | .ok f => Post c rFlow Z Q f s' | .error e => cameBackBy (model c.prog c.w) c.A c.env (Exc c Z X) e s') s := by
  refine codeAny_forLoop_any (fun n s => ∃ k ρ H Z₁, n + k = xs.length ∧ ZLe Z Z₁ ∧ St c ρ (one it (J.at_ k) :: H) Z₁ s ∧ I k ρ H) (fun n s ⟨k, ρ, H, Z₁, hk, hz, S, hI⟩ => ?_) xs.length ⟨0, ρ, H, Z, rfl, .refl _, S, h0⟩
  have f := S.free
  by_cases hlt : k < xs.length
  · have hx : xs[k]? = some xs[k] := by simp [hlt]
    refine wpAny_mono (J.step k _ hx target ρ H Z₁ s it (fun v s₁' => wpAny (model c.prog c.w) c.A (assign target c.env v) (fun _ s₂ => wpAny (model c.prog c.w) c.A (execs body c.env) (fun f s₃ => match f with
            | .next | .cont => ∃ m, m < n ∧ ∃ k ρ H Z₁, m + k = xs.length ∧ ZLe Z Z₁ ∧ St c ρ (one it (J.at_ k) :: H) Z₁ s₃ ∧ I k ρ H
            | .brk => Post c rFlow Z Q .next s₃
            | .ret v => Post c rFlow Z Q (.ret v) s₃) (notedBy (model c.prog c.w) c.A c.env fun e s' => cameBackBy (model c.prog c.w) c.A c.env (Exc c Z X) e s') s₂) (notedBy (model c.prog c.w) c.A c.env fun e s' => cameBackBy (model c.prog c.w) c.A c.env (Exc c Z X) e s') s₁')
      (notedBy (model c.prog c.w) c.A c.env fun e s' => cameBackBy (model c.prog c.w) c.A c.env (Exc c Z X) e s') htg S (hP _ _ _ hI) fun v s₁' Z₁' hz₁ hv S₀ => ?_) (fun r s₁ h => ?_) fun _ _ x => x
    · obtain ⟨o', ho', hat'⟩ := S₀.read (i := 0) (a := it) rfl (by simp [one]; rfl)
      have hz := hz.trans hz₁
      have S1 := S₀.hold ho'
      refine wpAny_mono (hb k _ ρ H it o' hx hI (f.fun F) Z₁' _ v S1 hv) (fun _ s₁ ⟨_, ρ₁, H₁, Z₂, hz₂, _, S₁, h₁⟩ => ?_) fun _ _ x => loopErr F ((x.unhold f).le hz)
      have hz' := hz.trans hz₂
      refine wpAny_mono (h₁ Z₂ s₁ S₁) (fun fl s₂ ⟨af, ρ₂, H₂, Z₃, hz₃, hf, S₂, h₂⟩ => ?_) fun _ _ x => loopErr F ((x.unhold f).le hz')
      have again : I (k + 1) ρ₂ H₂ → ∃ m, m < n ∧ ∃ k ρ H Z₁, m + k = xs.length ∧ ZLe Z Z₁ ∧ St c ρ (one it (J.at_ k) :: H) Z₁ s₂ ∧ I k ρ H := fun hI' => by
        refine ⟨n - 1, by lia, k + 1, ρ₂, H₂, Z₃, by lia, hz'.trans hz₃, ?_, hI'⟩
        have S3 := S₂.unhold f
        obtain ⟨o3, e3, h3⟩ := S3.read (i := 0) (a := it) rfl (by simp [one]; rfl)
        obtain ⟨vs', hvs'⟩ := J.data _ _ _ hat'
        obtain rfl : o3 = o' := h3 (fun es ep q => by rw [hvs'] at q; cases q)
        exact S3.moved (t := s₂.toks) (fun b o _ e => e) e3 ((J.at_ _).mono _ _ _ (hz₂.trans hz₃) hat')
      cases af with
      | next => cases hf; exact again h₂
      | cont => cases hf; exact again h₂
      | brk => cases hf; exact ⟨.next, ρ₂, H₂, Z₃, hz'.trans hz₃, rfl, S₂.unhold' f, h₂⟩
      | ret a => obtain ⟨v, rfl, hv⟩ := hf; exact ⟨.ret a, ρ₂, H₂, Z₃, hz'.trans hz₃, ⟨v, rfl, hv⟩, S₂.unhold' f, h₂⟩
    · cases r with
      | none => exact h.elim
      | some v => exact h
  · have hk0 : k = xs.length := by lia
    subst hk0
    refine J.stop ρ H Z₁ s it _ _ S (hP _ _ _ hI) fun s' S' => ?_
    exact wpAny_mono (he ρ H hI Z₁ _ S') (fun fl s₂ h₂ => h₂.le hz) fun _ _ x => loopErr F (x.le hz)
noncomputable def IterOf {P : AHs → Prop} {xs : List AV} (c : Cx) (H : AHs) (a : AV) (J : Itr c P xs) : Prop := ∀ ρ Z s v (Q : Value → Shared → Prop) E, St c ρ H Z s → VR Z a v →
  (∀ it s', St c ρ (one it (J.at_ 0) :: H) Z s' → Q (.ref it) s') → wpAny (model c.prog c.w) c.A (pyIter v) Q E s
inductive ForOf (c : Cx) (sc : Scope) (target : Expr) (body orelse : List Stmt) (Q : AF → AEnv → AHs → Prop) (X : AX) (a : AV) (ρ₁ : AEnv) (H₁ : AHs) : Prop
  | mk (P : AHs → Prop) (xs : List AV) (J : Itr c P xs) (I : Nat → AEnv → AHs → Prop) (h1 : IterOf c H₁ a J) (htg : J.tg target) (h2 : ∀ n ρ H, I n ρ H → P H) (h3 : I 0 ρ₁ H₁)
      (h4 : ∀ n a ρ H it o, xs[n]? = some a → I n ρ H → Fun (c.hold it o) sc → TA (c.hold it o) target a ρ H (fun z_ ρ₁ H₁ => TS (c.hold it o) body ρ₁ H₁ (turned (I (n + 1)) Q) X) X)
      (h5 : ∀ ρ H, I xs.length ρ H → TS c orelse ρ H Q X) : ForOf c sc target body orelse Q X a ρ₁ H₁
theorem TX.for {target iter : Expr} {body orelse : List Stmt} {pos : Pos} (F : Fun c sc) (h : TE c iter ρ H (ForOf c sc target body orelse Q X) X)
    (hs : ∀ x, foldedSetIterable iter c.env x = pure x) : TX c (.For target iter body orelse pos) ρ H Q X := fun Z s S => by
  refine wpAny_For (wpAny_mono (h Z s S) (fun v s₁ hp => ?_) fun z_ z_ x => x) hs
  obtain ⟨a, ρ₁, H₁, Z₁, hz, hv, S₁, hf⟩ := hp
  cases hf with | mk P xs J I h1 htg h2 h3 h4 h5 => ?_
  refine h1 ρ₁ Z₁ s₁ v _ _ S₁ hv fun it s₂ S₂ => ?_
  refine codeAny_mono (forLoop_T F J htg I h2 h4 h5 h3 S₂) fun r s' hr => ?_
  cases r with
  | ok f => exact hr.le hz
  | error e =>
    unfold cameBackBy at hr ⊢
    exact wpAny_mono hr (fun z_ z_ x => x.le hz) fun z_ z_ x => x.le hz
end
end Mine.Internal
end

section
open PySem PySem.W PySem.Calls PyProof.Rows
set_option Elab.async false
set_option maxRecDepth 10000
set_option linter.unusedVariables false
set_option linter.unusedSimpArgs false
namespace Mine.Internal
theorem letGo_other {M : Model} {A : Around} {E : Value → Shared → Prop} {s : Shared} {it : Addr} {o : Obj} {T : String} {vs : Array Value} {target : Expr} {v : Value} {Q : Unit → Shared → Prop} (ho : s.heap.get? it = some o) (hc : o.cls = .type T)
    (hn : (["enumerate", "zip", "dict_itemiterator", "dict_reverseitemiterator", "odict_iterator", "itertools.zip_longest", "itertools.pairwise"].contains T) = false) (hd : o.data = .fields vs) (hQ : Q () s) :
    wpAny M A (letOwnedTupleGo target (.ref it) v) Q E s := by
  have key : ∀ a : Addr, wpAny M A (do
      let o ← load it
      match o.cls, o.data with
      | .type n, .fields vs =>
        if ["enumerate", "zip", "dict_itemiterator", "dict_reverseitemiterator", "odict_iterator", "itertools.zip_longest", "itertools.pairwise"].contains n && vs[0]? == some (rawInt a) then
          rule "for.unpacks-the-owned-tuple"
          updateField it 0 .none
      | _, _ => pure ()) Q E s := fun a => by
    refine wpAny_bind (wpAny_load ho ?_)
    rw [hc, hd]
    simp only [hn, Bool.false_and, Bool.false_eq_true, if_false]
    exact wpAny_pure hQ
  cases target <;> first | exact wpAny_pure hQ | (cases v <;> first | exact key _ | exact wpAny_pure hQ)
section
variable {c : Cx} {ρ : AEnv} {H : AHs} {sc : Scope} {X : AX} {Q : AF → AEnv → AHs → Prop} {QV : AV → AEnv → AHs → Prop}
theorem St.keepBut {Z : ZM} {s : Shared} {h' : Heap} {it : Addr} {d d' : OD} {o' : Obj} {t : Nat} (S : St c ρ (one it d :: H) Z s) (hs : Heap.SameBut it s.heap h') (ho : h'.get? it = some o') (hp : d'.rel Z o') :
    St c ρ (one it d' :: H) Z { s with heap := h', toks := t } := S.moved (fun b o hb e => (hs.2 b hb).trans e) ho hp
theorem St.dropE {Z : ZM} {s : Shared} {h' : Heap} {it : Addr} {d : OD} (S : St c ρ (one it d :: H) Z s) (hs : Heap.ExtBut it s.heap h') : St c ρ H Z { s with heap := h' } := S.dropped (fun b o hb e => hs b o hb e)
noncomputable def oLIter (a : AV) (n : Nat) : OD where
  rel Z o := ∃ l, o.cls = .type "list_iterator" ∧ o.data = .fields #[.ref l, .int n 0] ∧ VR Z a (.ref l)
  mono Z Z' o hz h := let ⟨l, h1, h2, h3⟩ := h; ⟨l, h1, h2, VR.mono hz _ _ h3⟩
set_option tactic.hygienic true in
theorem LV.skip {M : AM} {H : AHs} {a : AV} {xs : List AV} (h : LV H a xs) : LV (M :: H) a xs := by
  cases h with
  | fz => exact .fz
  | own h1 h2 => rename_i i _ _; exact .own (i := i + 1) (by simpa using h1) h2
noncomputable def Itr.list (c : Cx) (hh : c.A.handled = Option.none) (a : AV) (xs : List AV) : Itr c (fun H => LV H a xs) xs where
  at_ := oLIter a
  data := fun n Z o ⟨l, h1, h2, h3⟩ => ⟨_, h2⟩
  step := fun n x hx target ρ H Z s it Q E z_ S hP hQ => by
    obtain ⟨o, ho, l, h1, h2, h3⟩ := S.read (i := 0) (a := it) (d := oLIter a n) rfl (by simp [one])
    obtain ⟨l', vs, e, hL, hvs⟩ := hP.skip.isList S h3
    cases e
    obtain ⟨v, hv, hvr⟩ := hvs.get hx
    refine wpAny_pyNext_list_item ⟨o, ho, h1, h2⟩ hL (x := v) (by simpa using hv) fun h' hit hs => ?_
    obtain ⟨o', ho', q1, q2⟩ := hit
    exact letGo_other ho' q1 (by decide) q2 (hQ v _ Z (.refl _) hvr (S.keepBut hs ho' ⟨l, q1, q2, h3⟩))
  stop := fun ρ H Z s it Q E S hP hQ => by
    obtain ⟨o, ho, l, h1, h2, h3⟩ := S.read (i := 0) (a := it) (d := oLIter a xs.length) rfl (by simp [one])
    obtain ⟨l', vs, e, hL, hvs⟩ := hP.skip.isList S h3
    cases e
    exact wpAny_pyNext_list_end hh ⟨o, ho, h1, h2⟩ hL (by have := hvs.toArr; simp [this]) fun h' he => hQ _ (S.dropE he)
theorem IterOf.list {hh : c.A.handled = Option.none} {a : AV} {xs : List AV} (hl : LV H a xs) : IterOf c H a (Itr.list c hh a xs) := fun ρ Z s v Q E S hv hQ => by
  obtain ⟨l, vs, rfl, hL, hvs⟩ := hl.isList S hv
  exact wpAny_pyIter_list hL (hQ _ _ (S.push (d := oLIter a 0) (o := { cls := .type "list_iterator", data := .fields #[.ref l, .int 0 0] }) rfl ⟨l, rfl, rfl, hv⟩))
noncomputable def oTIter (a : AV) (n : Nat) : OD where
  rel Z o := ∃ l, o.cls = .type "tuple_iterator" ∧ o.data = .fields #[.ref l, .int n 0] ∧ VR Z a (.ref l)
  mono Z Z' o hz h := let ⟨l, h1, h2, h3⟩ := h; ⟨l, h1, h2, VR.mono hz _ _ h3⟩
theorem VR.isTuple {Z : ZM} {s : Shared} {xs : List AV} {v : Value} (h : VR Z (.tup xs) v) (S : St c ρ H Z s) : ∃ l vs, v = .ref l ∧ s.heap.IsTuple l vs ∧ VRs Z xs vs.toList := by
  obtain ⟨l, vs, n, e, e1, e5⟩ := h.toTup
  exact ⟨l, vs, e, ⟨_, (S.fz _ _ e1).1, rfl, n, rfl⟩, e5⟩
noncomputable def Itr.tup (c : Cx) (hh : c.A.handled = Option.none) (xs : List AV) : Itr c (fun z_ => True) xs where
  at_ := oTIter (.tup xs)
  data := fun n Z o ⟨l, h1, h2, h3⟩ => ⟨_, h2⟩
  step := fun n x hx target ρ H Z s it Q E z_ S hP hQ => by
    obtain ⟨o, ho, l, h1, h2, h3⟩ := S.read (i := 0) (a := it) (d := oTIter (.tup xs) n) rfl (by simp [one])
    obtain ⟨l', vs, e, hL, hvs⟩ := h3.isTuple S
    cases e
    obtain ⟨v, hv, hvr⟩ := hvs.get hx
    refine wpAny_pyNext_tuple_item ⟨o, ho, h1, h2⟩ hL (x := v) (by simpa using hv) fun h' hit hs => ?_
    obtain ⟨o', ho', q1, q2⟩ := hit
    exact letGo_other ho' q1 (by decide) q2 (hQ v _ Z (.refl _) hvr (S.keepBut hs ho' ⟨l, q1, q2, h3⟩))
  stop := fun ρ H Z s it Q E S hP hQ => by
    obtain ⟨o, ho, l, h1, h2, h3⟩ := S.read (i := 0) (a := it) (d := oTIter (.tup xs) xs.length) rfl (by simp [one])
    obtain ⟨l', vs, e, hL, hvs⟩ := h3.isTuple S
    cases e
    exact wpAny_pyNext_tuple_end hh ⟨o, ho, h1, h2⟩ hL (by have := hvs.toArr; simp [this]) fun h' he => hQ _ (S.dropE he)
theorem IterOf.tup {hh : c.A.handled = Option.none} {xs : List AV} : IterOf c H (.tup xs) (Itr.tup c hh xs) := fun ρ Z s v Q E S hv hQ => by
  obtain ⟨l, vs, rfl, hL, hvs⟩ := hv.isTuple S
  exact wpAny_pyIter_tuple hL (hQ _ _ (S.push (d := oTIter (.tup xs) 0) (o := { cls := .type "tuple_iterator", data := .fields #[.ref l, .int 0 0] }) rfl ⟨l, rfl, rfl, hv⟩))
noncomputable def oRange (a b st : Int) : OD where
  rel _ o := ∃ t u v, o = { cls := .type "range", dict := Option.none, data := .fields #[.int a t, .int b u, .int st v], slots := #[] }
  mono _ _ _ _ h := h
noncomputable def oRIter (x left step : Int) : OD where
  rel _ o := o = { cls := .type "range_iterator", dict := Option.none, data := .fields #[rawInt x, rawInt left, rawInt step], slots := #[] }
  mono _ _ _ _ h := h
noncomputable def rangeAV (a : Int) (st : Int) (n : Nat) : List AV := (List.range n).map fun (k : Nat) => .int (a + st * (k : Int))
theorem rangeAV_get {a st : Int} {n k : Nat} {x : AV} (h : (rangeAV a st n)[k]? = some x) : k < n ∧ x = .int (a + st * k) := by
  unfold rangeAV at h
  rw [List.getElem?_map] at h
  by_cases hk : k < n
  · rw [List.getElem?_range hk] at h
    exact ⟨hk, by simpa using h.symm⟩
  · rw [List.getElem?_eq_none (by simpa using hk)] at h; cases h
theorem rangeAV_length {a st : Int} {n : Nat} : (rangeAV a st n).length = n := by simp [rangeAV]
theorem TC.range1 {n : Int} (h : ∀ r, QV (.ref r) ρ (one r (oRange 0 n 1) :: H)) : TC c (.val (.type "range")) [.int n] ρ H QV X := fun Z s fv vs S hf hv => by
  cases hf
  cases hv with | cons h1 h2 => cases h1; cases h2; exact (by
    refine call_range_1 ?_
    exact ⟨_, ρ, _, Z, .refl _, .val, (S.push (d := oRange 0 n 1) (o := { cls := .type "range", data := .fields #[.int 0 s.toks, .int n _, .int 1 (s.toks + 1)] }) rfl ⟨_, _, _, rfl⟩).tok _, h _⟩)
theorem TC.range2 {a b : Int} (h : ∀ r, QV (.ref r) ρ (one r (oRange a b 1) :: H)) : TC c (.val (.type "range")) [.int a, .int b] ρ H QV X := fun Z s fv vs S hf hv => by
  cases hf
  cases hv with | cons h1 h2 => cases h1; cases h2 with | cons h2 h3 => cases h2; cases h3; exact (by
    refine call_range_2 ?_
    exact ⟨_, ρ, _, Z, .refl _, .val, (S.push (d := oRange a b 1) (o := { cls := .type "range", data := .fields #[.int a _, .int b _, .int 1 s.toks] }) rfl ⟨_, _, _, rfl⟩).tok _, h _⟩)
noncomputable def oKIter (d : Addr) (len ep n : Nat) : OD where
  rel _ o := o.cls = .type "dict_keyiterator" ∧ o.data = .fields #[.ref d, .int n 0, .int len 0, .int ep 0]
  mono _ _ _ _ h := h
noncomputable def DIn (c : Cx) (d : Addr) (kvs : List (Key × AV)) (ep : Nat) (H : AHs) : Prop := ∃ (i : Nat) (M : AM), H[i]? = some M ∧ M d = some (oDict c.prog c.w kvs ep)
theorem DIn.at {d : Addr} {kvs : List (Key × AV)} {ep : Nat} {Z : ZM} {s : Shared} {M : AM} (h : DIn c d kvs ep H) (ok : c.Ok) (S : St c ρ (M :: H) Z s) : ∃ us, s.heap.DictAt (mixKind c.prog c.w) d us ep ∧ DRel c.prog c.w kvs us Z ∧ (d == sysModules) = false ∧ us.length = kvs.length := by
  obtain ⟨i, N, h1, h2⟩ := h
  obtain ⟨us, q1, q2, q3⟩ := S.dict ok (i := i + 1) (by simpa using h1) h2
  exact ⟨us, q1, q2, q3, by have := congrArg List.length q2.1; simpa using this⟩
theorem DIn.at' {d : Addr} {kvs : List (Key × AV)} {ep : Nat} {Z : ZM} {s : Shared} (h : DIn c d kvs ep H) (ok : c.Ok) (S : St c ρ H Z s) : ∃ us, s.heap.DictAt (mixKind c.prog c.w) d us ep ∧ DRel c.prog c.w kvs us Z ∧ (d == sysModules) = false ∧ us.length = kvs.length := by
  obtain ⟨i, N, h1, h2⟩ := h
  obtain ⟨us, q1, q2, q3⟩ := S.dict ok h1 h2
  exact ⟨us, q1, q2, q3, by have := congrArg List.length q2.1; simpa using this⟩
theorem DRel.get {kvs : List (Key × AV)} {us : List (Key × Value)} {Z : ZM} {n : Nat} {k : Key} {a : AV} {p : Program} {w : World} (h : DRel p w kvs us Z) (hx : kvs[n]? = some (k, a)) : ∃ v, us[n]? = some (k, v) ∧ VR Z a v := by
  induction n generalizing kvs us with
  | zero =>
    cases kvs with
    | nil => simp at hx
    | cons p r =>
      simp at hx; subst hx
      obtain ⟨v, us', rfl, h1, h2⟩ := h.cons_inv
      exact ⟨v, rfl, h1⟩
  | succ n ih =>
    cases kvs with
    | nil => simp at hx
    | cons p r =>
      obtain ⟨k', a'⟩ := p
      obtain ⟨v, us', rfl, h1, h2⟩ := h.cons_inv
      exact ih h2 (by simpa using hx)
theorem map_get_inv {α β : Type} {f : α → β} {l : List α} {n : Nat} {y : β} (h : (l.map f)[n]? = some y) : ∃ x, l[n]? = some x ∧ y = f x := by
  rw [List.getElem?_map] at h
  cases q : l[n]? with
  | none => rw [q] at h; cases h
  | some x => rw [q] at h; simp at h; exact ⟨x, rfl, h.symm⟩
noncomputable def Itr.keys (c : Cx) (ok : c.Ok) (hh : c.A.handled = Option.none) (d : Addr) (kvs : List (Key × AV)) (ep : Nat) : Itr c (DIn c d kvs ep) (kvs.map fun kv => kv.1.av) where
  at_ := oKIter d kvs.length ep
  data := fun k Z o h => ⟨_, h.2⟩
  step := fun n x hx target ρ H Z s it Q E z_ S hP hQ => by
    obtain ⟨o, ho, h1, h2⟩ := S.read (i := 0) (a := it) (d := oKIter d kvs.length ep n) rfl (by simp [one])
    obtain ⟨us, q1, q2, q3, q4⟩ := hP.at ok S
    obtain ⟨⟨k, a⟩, hk, rfl⟩ := map_get_inv hx
    obtain ⟨v, hv, hvr⟩ := q2.get hk
    refine wpAny_pyNext_dict_item (i := n) (ep := ep) ⟨o, ho, h1, by rw [h2, q4]⟩ q1 hv fun key h' hkey hit hs => ?_
    obtain ⟨o', ho', p1, p2⟩ := hit
    refine letGo_other ho' p1 (by decide) p2 (hQ _ _ Z (.refl _) (Key.is_vr hkey) (S.keepBut hs ho' ⟨p1, by rw [p2, q4]⟩))
  stop := fun ρ H Z s it Q E S hP hQ => by
    obtain ⟨o, ho, h1, h2⟩ := S.read (i := 0) (a := it) (d := oKIter d kvs.length ep (kvs.map fun kv => kv.1.av).length) rfl (by simp [one])
    obtain ⟨us, q1, q2, q3, q4⟩ := hP.at ok S
    exact wpAny_pyNext_dict_end (i := kvs.length) (ep := ep) hh ⟨o, ho, h1, by rw [h2, q4, List.length_map]⟩ q1 (by simp [q4]) fun h' he => hQ _ (S.dropE he)
theorem IterOf.keys {ok : c.Ok} {hh : c.A.handled = Option.none} {d : Addr} {kvs : List (Key × AV)} {ep : Nat} (hd : DIn c d kvs ep H) : IterOf c H (.ref d) (Itr.keys c ok hh d kvs ep) := fun ρ Z s v Q E S hv hQ => by
  cases hv
  obtain ⟨us, q1, q2, q3, q4⟩ := hd.at' ok S
  refine wpAny_pyIter_dict q3 q1 (hQ _ _ (S.push (d := oKIter d kvs.length ep 0) (o := { cls := .type "dict_keyiterator", data := .fields #[.ref d, .int 0 0, .int us.length 0, .int ep 0] }) rfl ⟨rfl, by rw [q4]; rfl⟩))
noncomputable def oVView (d : Addr) : OD where
  rel _ o := o.cls = .type "dict_values" ∧ o.data = .fields #[.ref d]
  mono _ _ _ _ h := h
noncomputable def oVIter (d : Addr) (len ep n : Nat) : OD where
  rel _ o := o.cls = .type "dict_valueiterator" ∧ o.data = .fields #[.ref d, .int n 0, .int len 0, .int ep 0]
  mono _ _ _ _ h := h
theorem TC.dictValues {d : Addr} {kvs : List (Key × AV)} {ep : Nat} (ok : c.Ok) (hd : DIn c d kvs ep H) (h : ∀ v, QV (.ref v) ρ (one v (oVView d) :: H)) : TC c (.val (.builtin "dict.values")) [.ref d] ρ H QV X := fun Z s fv vs S hf hv => by
  cases hf
  cases hv with | cons h1 h2 => cases h1; cases h2; exact (by
    obtain ⟨us, q1, q2, q3, q4⟩ := hd.at' ok S
    refine call_meetsIn PySem.F.slot_dict_values q1.dictOf.typeIs PySem.F.entry_dict_values (PySem.F.args_dict_values_1 _) (meets_dict_values (mixKind c.prog c.w) d q3) ⟨⟨_, q1.dictOf⟩, ?_⟩
    exact ⟨_, ρ, _, Z, .refl _, .val, S.push (d := oVView d) (o := { cls := .type "dict_values", data := .fields #[.ref d] }) rfl ⟨rfl, rfl⟩, h _⟩)
noncomputable def Itr.values (c : Cx) (ok : c.Ok) (hh : c.A.handled = Option.none) (d : Addr) (kvs : List (Key × AV)) (ep : Nat) : Itr c (DIn c d kvs ep) (kvs.map Prod.snd) where
  at_ := oVIter d kvs.length ep
  data := fun k Z o h => ⟨_, h.2⟩
  step := fun n x hx target ρ H Z s it Q E z_ S hP hQ => by
    obtain ⟨o, ho, h1, h2⟩ := S.read (i := 0) (a := it) (d := oVIter d kvs.length ep n) rfl (by simp [one])
    obtain ⟨us, q1, q2, q3, q4⟩ := hP.at ok S
    obtain ⟨⟨k, a⟩, hk, rfl⟩ := map_get_inv hx
    obtain ⟨v, hv, hvr⟩ := q2.get hk
    refine wpAny_pyNext_values_item (i := n) (ep := ep) ⟨o, ho, h1, by rw [h2, q4]⟩ q1 hv fun h' hit hs => ?_
    obtain ⟨o', ho', p1, p2⟩ := hit
    refine letGo_other ho' p1 (by decide) p2 (hQ _ _ Z (.refl _) hvr (S.keepBut hs ho' ⟨p1, by rw [p2, q4]⟩))
  stop := fun ρ H Z s it Q E S hP hQ => by
    obtain ⟨o, ho, h1, h2⟩ := S.read (i := 0) (a := it) (d := oVIter d kvs.length ep (kvs.map Prod.snd).length) rfl (by simp [one])
    obtain ⟨us, q1, q2, q3, q4⟩ := hP.at ok S
    exact wpAny_pyNext_values_end (i := kvs.length) (ep := ep) hh ⟨o, ho, h1, by rw [h2, q4, List.length_map]⟩ q1 (by simp [q4]) fun h' he => hQ _ (S.dropE he)
theorem IterOf.values {ok : c.Ok} {hh : c.A.handled = Option.none} {i : Nat} {M : AM} {v d : Addr} {kvs : List (Key × AV)} {ep : Nat} (hi : H[i]? = some M) (hv : M v = some (oVView d)) (hd : DIn c d kvs ep H) : IterOf c H (.ref v) (Itr.values c ok hh d kvs ep) := fun ρ Z s v' Q E S hv' hQ => by
  cases hv'
  obtain ⟨o, ho, h1, h2⟩ := S.read hi hv
  obtain ⟨us, q1, q2, q3, q4⟩ := hd.at' ok S
  refine wpAny_pyIter_values ⟨o, ho, h1, h2⟩ q1 (hQ _ _ (S.push (d := oVIter d kvs.length ep 0) (o := { cls := .type "dict_valueiterator", data := .fields #[.ref d, .int 0 0, .int us.length 0, .int ep 0] }) rfl ⟨rfl, by rw [q4]; rfl⟩))
end
end Mine.Internal
end

section
open PySem PySem.W PySem.Calls PyProof.Rows
set_option Elab.async false
set_option maxRecDepth 10000
set_option linter.unusedVariables false
set_option linter.unusedSimpArgs false
namespace Mine.Internal
section
variable {c : Cx} {ρ : AEnv} {H : AHs} {sc : Scope} {X : AX} {Q : AF → AEnv → AHs → Prop} {QV : AV → AEnv → AHs → Prop}
end
end Mine.Internal
end

section
open PySem PySem.W PySem.Calls PyProof.Rows
set_option Elab.async false
set_option maxRecDepth 10000
set_option linter.unusedVariables false
set_option linter.unusedSimpArgs false
namespace Mine.Internal
noncomputable def Cx.under (c : Cx) (C : Addr) (vs : List Value) : Cx := { c with A := c.A.under (.builtin "type.__call__" ⟨.ref C :: vs, []⟩), lv := c.lv - 1 }
section
variable {c : Cx} {ρ : AEnv} {H : AHs} {sc : Scope} {X : AX} {QV : AV → AEnv → AHs → Prop}
theorem Cx.Ok.under (ok : c.Ok) (hlv : 1 ≤ c.lv) (C : Addr) (vs : List Value) : (c.under C vs).Ok := by
  refine ⟨ok.glb, ok.kind, ok.globals, ok.builtins, ok.frame, ok.frames, ok.frK, ok.frL, ok.above, ok.nloc, ok.outs, ok.poB, ok.cellI, ok.cellB, ?_, ?_⟩
  · have := ok.room
    show c.A.depth + 1 + (c.lv - 1) ≤ 900
    lia
  · have := ok.units
    show c.A.units + 1 + 20 * (c.lv - 1) ≤ 9000
    lia
theorem St.under {Z : ZM} {s : Shared} (C : Addr) (vs : List Value) : St (c.under C vs) ρ H Z s ↔ St c ρ H Z s :=
  ⟨fun S => ⟨S.base, S.ns, S.cells, S.po, fun M hM b d e => have q := S.own M hM b d e; ⟨q.ob, q.base, q.po, q.mine, q.z⟩, S.apart, S.fz, S.hdl, S.gens, S.os⟩, fun S => ⟨S.base, S.ns, S.cells, S.po, fun M hM b d e => have q := S.own M hM b d e; ⟨q.ob, q.base, q.po, q.mine, q.z⟩, S.apart, S.fz, S.hdl, S.gens, S.os⟩⟩
set_option tactic.hygienic true in
theorem TK.make {C fI : Addr} {as : List AV} (ok : c.Ok) (hlv : 1 ≤ c.lv) (hm : makesIn c.K C = true) (hi : findIn c.K (.ref C) "__init__" = some (some (.ref fI))) (hf : typeIn c.K (.ref fI) = some (.type "function"))
    (h : ∀ x dx vs, TK (c.under C vs) (.val (.ref fI)) (.ref x :: as) ρ (one x (oInst C dx) :: one dx (oNs []) :: H) (fun v ρ' H' => v = AV.none ∧ QV (.ref x) ρ' H') X) : TK c (.val (.ref C)) as ρ H QV X := fun Z s fv vs S hfv hv => by
  cases hfv
  obtain ⟨hh, g, d, t, os⟩ := s
  have S1 := S.push (d := oNs []) (o := emptyDict) rfl ⟨[], 0, rfl, Nat.le_refl _, fun x => ⟨fun _ => rfl, fun a q => by cases q⟩⟩
  have S2 := S1.push (d := oInst C hh.objs.size) (o := instObj C hh.objs.size) rfl rfl
  rw [Heap.size_push] at S2
  refine make_core (makes_of (ok.kIn S) hm) (looks_findIn (ok.kIn S) hi) (fun self => bind_fn (ok.kIn S) self hf) (.inl rfl) ?_
  refine codeAny_mono (h (hh.objs.size + 1) hh.objs.size vs Z _ _ _ ((St.under C vs).mpr S2) .val (.cons .val hv)) fun r s' hr => ?_
  cases r with
  | error e =>
    obtain ⟨x, cls, args, E, ρ', H', Z', h1, h2, h3, h4, h5⟩ := hr
    exact ⟨x, cls, args, E, ρ', H', Z', h1, h2, h3, (St.under C vs).mp h4, h5⟩
  | ok f =>
    cases f with
    | ret v =>
      obtain ⟨a, ρ', H', Z', h1, h2, h3, rfl, h4⟩ := hr
      cases h2
      exact ⟨rfl, _, ρ', H', Z', h1, .val, (St.under C vs).mp h3, h4⟩
    | next => exact hr.elim
    | brk => exact hr.elim
    | cont => exact hr.elim
end
end Mine.Internal
end

section
open PySem PySem.W PySem.Calls PyProof.Rows
set_option Elab.async false
set_option maxRecDepth 10000
set_option linter.unusedVariables false
set_option linter.unusedSimpArgs false
namespace Mine.Internal
section
variable {c : Cx} {ρ : AEnv} {H : AHs} {sc : Scope} {X : AX} {Q : AF → AEnv → AHs → Prop} {Z : ZM} {s : Shared}
theorem Exc.made {h' : Heap} {e : Addr} {cls : Value} {vs : List Value} {as : List AV} (S : St c ρ H Z s) (hv : VRs Z as vs) (hk : ∀ b o, s.heap.get? b = some o → h'.get? b = some o) (hn : s.heap.get? e = Option.none)
    (ht : ∃ t, h'.get? e = some { cls := cls, data := .fields #[.ref t, .none, .none, .none, .bool false, .none] } ∧ s.heap.get? t = Option.none ∧ h'.get? t = some { cls := .type "tuple", data := .seq vs.toArray }) (hX : X cls as ρ H) :
    Exc c Z X (.ref e) { s with heap := h' } := by
  obtain ⟨t, h1, h2, h3⟩ := ht
  have hne : t ≠ e := fun q => by rw [q, h1] at h3; cases h3
  have S1 := S.new (s' := { s with heap := h' }) (b := e) (d := ⟨fun z_ o => o = { cls := cls, data := .fields #[.ref t, .none, .none, .none, .bool false, .none] }, fun z_ z_ z_ z_ h => h⟩) hk rfl rfl hn h1 rfl
  have S2 := S.new (s' := { s with heap := h' }) (b := t) (d := ⟨fun z_ o => o = { cls := .type "tuple", data := .seq vs.toArray }, fun z_ z_ z_ z_ h => h⟩) hk rfl rfl h2 h3 rfl
  -- both pieces at once
  have S3 : St c ρ (one t ⟨fun z_ o => o = { cls := .type "tuple", data := .seq vs.toArray }, fun z_ z_ z_ z_ h => h⟩ :: one e ⟨fun z_ o => o = { cls := cls, data := .fields #[.ref t, .none, .none, .none, .bool false, .none] }, fun z_ z_ z_ z_ h => h⟩ :: H) Z { s with heap := h' } := by
    refine { S1 with own := fun M hM => ?_, apart := List.pairwise_cons.mpr ⟨fun M hM b => ?_, S1.apart⟩ }
    · rcases List.mem_cons.mp hM with rfl | hM
      · exact S2.own _ (.head _)
      · exact S1.own _ hM
    · rcases List.mem_cons.mp hM with rfl | hM
      · by_cases hb : b = t
        · right; simp [one, hb, hne]
        · left; simp [one, hb]
      · exact (List.pairwise_cons.mp S2.apart).1 M hM b
  obtain ⟨o, e1, e2, hz, S4⟩ := S3.freeze (i := 0) rfl (fun o h => by cases h; exact .inl ⟨_, _, rfl⟩)
  cases e2
  simp only [List.eraseIdx_cons_zero] at S4
  have S5 := S4.mut (i := 0) (a := e) (d' := oExc cls as Option.none) (s' := { s with heap := h' }) rfl (by simp [one]; rfl) (fun z_ z_ z_ e => e) rfl rfl h1
    ⟨rfl, _, t, _, rfl, rfl, .tup (ZM.put_self _ _ _) (by simpa using VRs.mono hz _ _ hv)⟩
  simp only [List.set_cons_zero, one_put] at S5
  exact ⟨e, cls, as, _, ρ, H, _, rfl, ⟨Option.none, by simp [one], fun T q => by cases q⟩, hz, S5, hX⟩
theorem evalArgs_T {f : Value} {args : List Expr} {pos : Pos} {R : List AV → AEnv → AHs → Prop} {QA : Args → Shared → Prop} (hp : plainArgs args = true) (S : St c ρ H Z s) (h : TEs c args pos ρ H R X)
    (hR : ∀ as ρ' H' Z' s' vs, ZLe Z Z' → R as ρ' H' → St c ρ' H' Z' s' → VRs Z' as vs → QA ⟨vs, []⟩ s') :
    wpAny (model c.prog c.w) c.A (evalArgs f true (backTo pos (starEach args c.env)) []) QA (Exc c Z X) s := by
  have h2 : wpAny (model c.prog c.w) c.A (spliced (backTo pos (starEach args c.env))) (fun vs s₁ => QA ⟨vs, []⟩ s₁) (Exc c Z X) s :=
    wpAny_mono (h Z s S) (fun vs s₁ ⟨as, ρ₁, H₁, Z₁, hz, hv, S₁, h₁⟩ => hR as ρ₁ H₁ Z₁ s₁ vs hz h₁ S₁ hv) fun z_ z_ x => x
  cases args with
  | nil => exact evalArgs_nilT h2
  | cons e rest =>
    rw [starEach_cons hp] at h2 ⊢
    exact evalArgs_plain (wpAny_mono h2 (fun vs s₂ h₃ => h₃) fun z_ z_ y => y)
theorem TX.raise {x : Str} {np cpos pos : Pos} {args : List Expr} {T newId initId : String} (FC : ExcCallFacts T newId initId) (G : ExcRaiseFacts T) (hh : c.A.handled = Option.none) (hp : plainArgs args = true)
    (h : TE c (.Name x np) ρ H (fun f ρ₁ H₁ => f = .val (.type T) ∧ TEs c args cpos ρ₁ H₁ (fun as ρ₂ H₂ => as.length ≤ 1000 ∧ X (.type T) as ρ₂ H₂) X) X) :
    TX c (.Raise (some (.Call (.Name x np) args [] cpos)) Option.none pos) ρ H Q X := fun Z s S => by
  refine wpAny_Raise_call FC G hh (by rw [starEach_plain hp]; simp [backTo, List.any_eq_false]) (wpAny_mono (h Z s S) (fun f s₁ ⟨a, ρ₁, H₁, Z₁, hz, hf, S₁, he, h₁⟩ => ⟨(by subst he; exact hf.toVal), ?_⟩) fun z_ z_ x => x)
  refine wpAny_mono (evalArgs_T hp S₁ h₁ fun as ρ₂ H₂ Z₂ s₂ vs hz₂ hr S₂ hv => ?_) (fun a s₂ q => q) fun z_ z_ x => x.le hz
  refine ⟨rfl, by rw [hv.length]; have := sizeLineIs; lia, fun h' e hm => ?_⟩
  exact (Exc.made S₂ hv hm.keeps hm.new hm.there hr.2).le (hz.trans hz₂)
inductive OwnIn (K : Frag) (C : Addr) (newId : String) (bmB : List Value) : Prop
  | mk (nm qn : Str) (N : Addr) (bs bm : List Value) (hd : Bool) (sn : List Str) (sub : List Value) (ab : Bool) (col dd k0 k1 k2 k3 k5) (ho : K.lookup C = some (excClassObj nm qn C N bs bm hd sn sub ab col dd k0 k1 k2 k3 k5 newId))
      (hok : nsOkIn K N = true) (hni : nsIn K N "__init__" = some Option.none) (ht : tailIn K bmB bm = true) (hb : bm.contains (.type "BaseException") = true) : OwnIn K C newId bmB
inductive OwnAt (K : Frag) (C : Addr) (newId : String) (bmB : List Value) (h : Heap) : Prop
  | mk (nm qn : Str) (N : Addr) (bs bm : List Value) (hd : Bool) (sn : List Str) (sub : List Value) (ab : Bool) (col dd k0 k1 k2 k3 k5) (mN : Str → Option Value) (h1 : h.get? C = some (excClassObj nm qn C N bs bm hd sn sub ab col dd k0 k1 k2 k3 k5 newId))
      (h2 : h.Ns N mN) (h3 : mN "__init__" = Option.none) (h4 : OwnTail h bmB bm) (h5 : tailIn K bmB bm = true) (h6 : bm.contains (.type "BaseException") = true) : OwnAt K C newId bmB h
structure OwnExc (K : Frag) (C : Addr) (B newId initId : String) (bmB : List Value) : Prop where
  base : ExcBaseFacts B newId initId bmB
  in_ : OwnIn K C newId bmB
theorem OwnExc.at {K : Frag} {C : Addr} {newId : String} {bmB : List Value} {h : Heap} (q : OwnIn K C newId bmB) (Y : K.In h) : OwnAt K C newId bmB h := by
  cases q with | mk nm qn N bs bm hd sn sub ab col dd k0 k1 k2 k3 k5 ho hok hni ht hb => exact ⟨nm, qn, N, bs, bm, hd, sn, sub, ab, col, dd, k0, k1, k2, k3, k5, _, Y _ _ ho, .of_isNs (isNs_of_in Y hok), nsMap_none_of_in Y hok hni, tail_of_in Y ht, ht, hb⟩
theorem TX.raiseOwn {x : Str} {np cpos pos : Pos} {args : List Expr} {C : Addr} {B newId initId : String} {bmB : List Value} (ok : c.Ok) (O : OwnExc c.K C B newId initId bmB) (hh : c.A.handled = Option.none) (hp : plainArgs args = true)
    (h : TE c (.Name x np) ρ H (fun f ρ₁ H₁ => f = .val (.ref C) ∧ TEs c args cpos ρ₁ H₁ (fun as ρ₂ H₂ => as.length ≤ 1000 ∧ X (.ref C) as ρ₂ H₂) X) X) :
    TX c (.Raise (some (.Call (.Name x np) args [] cpos)) Option.none pos) ρ H Q X := fun Z s S => by
  obtain ⟨nm, qn, N, bs, bm, hd, sn, sub, ab, col, dd, k0, k1, k2, k3, k5, mN, h1, h2, h3, h4, h5, h6⟩ := OwnExc.at O.in_ ok.glb.kin
  refine wpAny_Raise_call_subT (C := C) (N := N) (mN := mN) (bm := bm) (nm := nm) (q := qn) (bs := bs) (hdct := hd) (sn := sn) (sub := sub) (ab := ab) (col := col) (dd := dd) (k0 := k0) (k1 := k1) (k2 := k2) (k3 := k3) (k5 := k5) O.base h6 hh (by rw [starEach_plain hp]; simp [backTo, List.any_eq_false]) h3
    (wpAny_mono (h Z s S) (fun f s₁ ⟨a, ρ₁, H₁, Z₁, hz, hf, S₁, he, h₁⟩ => ⟨(by subst he; exact hf.toVal), ?_⟩) fun z_ z_ x => x)
  refine wpAny_mono (evalArgs_T hp S₁ h₁ fun as ρ₂ H₂ Z₂ s₂ vs hz₂ hr S₂ hv => ?_) (fun a s₂ q => q) fun z_ z_ x => x.le hz
  refine ⟨rfl, by rw [hv.length]; have := sizeLineIs; lia, S₂.base _ _ h1, h2.keeps S₂.base, ?_, fun h' e hm => ?_⟩
  · exact tail_of_in (ok.glb.kin.keeps S₂.base) h5
  · exact (Exc.made S₂ hv hm.keeps hm.new hm.there hr.2).le (hz.trans hz₂)
end
end Mine.Internal
end

section
open PySem PySem.W PySem.Calls PyProof.Rows
set_option Elab.async false
set_option maxRecDepth 10000
set_option linter.unusedVariables false
set_option linter.unusedSimpArgs false
namespace Mine.Internal
noncomputable def AEnv.del (ρ : AEnv) (n : Str) : AEnv := ρ.filter fun p => p.1 ≠ n
theorem AEnv.lookup_del (ρ : AEnv) (n y : Str) : (AEnv.del ρ n).lookup y = if y = n then Option.none else ρ.lookup y := by
  induction ρ with
  | nil => simp [AEnv.del]
  | cons p r ih =>
    obtain ⟨z, b⟩ := p
    unfold AEnv.del at ih ⊢
    by_cases hz : z = n
    · subst hz
      rw [List.filter_cons_of_neg (by simp), ih, List.lookup_cons]
      by_cases hy : y = z
      · simp [hy]
      · have : (y == z) = false := by simpa using hy
        simp [hy, this]
    · rw [List.filter_cons_of_pos (by simpa using hz), List.lookup_cons, List.lookup_cons, ih]
      by_cases hy : y = z
      · subst hy; simp [hz]
      · have : (y == z) = false := by simpa using hy
        simp [this]
section
variable {c : Cx} {ρ ρ' : AEnv} {H : AHs} {sc : Scope} {X : AX} {Q : AF → AEnv → AHs → Prop} {Z : ZM} {s : Shared} {M : Model} {A : Around} {E : Value → Shared → Prop}
theorem St.setNs {h' : Heap} {m' : Str → Option Value} {t : Nat} (ok : c.Ok) (S : St c ρ H Z s) (hn' : h'.Ns c.env.locals m') (hs : Heap.SameBut c.env.locals s.heap h')
    (hv : ∀ x a, ρ'.lookup x = some a → ∃ v, VR Z a v ∧ VarIs c.env h' m' x v) : St c ρ' H Z { s with heap := h', toks := t } := by
  have hs2 : ∀ b, b ≠ c.env.locals → ∀ o, s.heap.get? b = some o → h'.get? b = some o := fun b hb o e => (hs.2 b hb).trans e
  refine ⟨fun b o e => hs2 b (fun q => by rw [q, ok.baseLoc] at e; cases e) o (S.base b o e), ⟨_, hn', hv⟩, fun y b e => ?_, fun b o e => ?_, fun N hN b d e => ?_, S.apart, fun b o e => ?_, S.hdl, S.gens, S.os⟩
  · obtain ⟨w, o, e1, e2⟩ := S.cells y b e
    exact ⟨w, o, hs2 b (ok.cellB y b e).2 o e1, e2⟩
  · obtain ⟨sl, e1, e2⟩ := S.po b o e
    exact ⟨sl, hs2 b (fun q => by rw [q, ok.nloc] at e; cases e) _ e1, e2⟩
  · have q := S.own N hN b d e
    exact q.keep (hs2 b fun e => q.mine (.inl e))
  · obtain ⟨e1, e2⟩ := S.fz b o e
    refine ⟨hs2 b (fun q => ?_) o e1, e2⟩
    obtain ⟨ol, es, ep, q1, q2⟩ := S.localsLt
    rw [q, q1] at e1; cases e1; rcases e2 with ⟨_, _, e2⟩ | ⟨_, e2⟩ <;> (rw [q2] at e2; cases e2)
theorem nameGoes_T {n : Str} {pos : Pos} {Q : Unit → Shared → Prop} (ok : c.Ok) (S : St c ρ H Z s) (hl : c.env.kindOf n = some .local) (h : ∀ s', St c (AEnv.del ρ n) H Z s' → Q () s') :
    wpAny M A (do bindName c.env n .none; unbindBehindTheSuite c.env n pos) Q E s := by
  refine wpAny_bind (wpAny_bindName (S.store ok (.inl hl) (a := AV.none) .val fun s₁ S₁ => ?_))
  obtain ⟨m, hn, hv⟩ := S₁.ns
  obtain ⟨v, h1, h2⟩ := hv n AV.none (by rw [AEnv.lookup_put]; simp)
  cases h1
  have hm : m n = some .none := by
    rcases h2 with ⟨_, h2⟩ | ⟨hc, _⟩
    · exact h2
    · rw [hl] at hc; rcases hc with hc | hc <;> cases hc
  unfold unbindBehindTheSuite
  refine wpAny_onRaise (wpAny_unbindName_local hl hn hm (by rw [ok.kind]; rfl) fun h' u hn' hs => h _ ?_)
  have S2 := S₁.setNs (ρ' := AEnv.del ρ n) (t := s₁.toks) ok hn' hs fun x a e => ?_
  · exact S2
  · rw [AEnv.lookup_del] at e
    by_cases hx : x = n
    · rw [if_pos hx] at e; cases e
    · rw [if_neg hx] at e
      obtain ⟨v, q1, q2⟩ := hv x a (by rw [AEnv.lookup_put, if_neg hx]; exact e)
      refine ⟨v, q1, ?_⟩
      rcases q2 with ⟨q3, q4⟩ | ⟨hc, cc, e1, o, e2, e3⟩
      · exact .inl ⟨q3, (if_neg hx).trans q4⟩
      · exact .inr ⟨hc, cc, e1, o, (hs.2 cc (ok.cellB x cc e1).2).trans e2, e3⟩
noncomputable def Cx.marked (c : Cx) (x : Addr) : Cx := { c with A := c.A.mark (some (.ref x)) }
theorem Cx.Ok.marked (ok : c.Ok) (x : Addr) : (c.marked x).Ok :=
  ⟨ok.glb, ok.kind, ok.globals, ok.builtins, ok.frame, ok.frames, ok.frK, ok.frL, ok.above, ok.nloc, ok.outs, ok.poB, ok.cellI, ok.cellB, ok.room, ok.units⟩
theorem Fun.marked (F : Fun c sc) (x : Addr) : Fun (c.marked x) sc := ⟨F.ok.marked x, F.scope, F.fr, F.cell, F.own⟩
theorem St.unmark {x : Addr} (S : St (c.marked x) ρ H Z s) (hh : c.A.handled = Option.none) : St c ρ H Z s :=
  ⟨S.base, S.ns, S.cells, S.po, fun M hM b d e => have q := S.own M hM b d e; ⟨q.ob, q.base, q.po, q.mine, q.z⟩, S.apart, S.fz, fun e q => (by rw [hh] at q; cases q), S.gens, S.os⟩
theorem St.mark {x : Addr} {o : Obj} {vs : Array Value} (S : St c ρ H Z s) (hx : Z x = some o) (hd : o.data = .fields vs) (h2 : vs[2]? = some .none) : St (c.marked x) ρ H Z s :=
  ⟨S.base, S.ns, S.cells, S.po, fun M hM b d e => have q := S.own M hM b d e; ⟨q.ob, q.base, q.po, q.mine, q.z⟩, S.apart, S.fz, fun e q => (by cases q; exact ⟨x, o, vs, rfl, hx, hd, h2⟩), S.gens, S.os⟩
theorem St.caught {x : Addr} {cls : Value} {args : List AV} {E₀ : AM} (S : St c ρ (E₀ :: H) Z s) (hE : ExcF x cls args E₀) :
    ∃ Z' o, ZLe Z Z' ∧ VR Z' (.exc cls args) (.ref x) ∧ s.heap.get? x = some o ∧ o.cls = cls ∧ (∃ vs, Z' x = some o ∧ o.data = .fields vs ∧ vs[2]? = some .none) ∧ St c ρ H Z' s := by
  obtain ⟨tb, h1, h2⟩ := hE
  have S1 := S.split (one x (oExc cls args tb)) (fun b => if b = x then Option.none else E₀ b) (N := E₀) (fun b => by
    unfold AM.or one
    by_cases hb : b = x
    · subst hb; simp [h1]
    · simp [hb]) (fun b => by
    by_cases hb : b = x
    · right; simp [hb]
    · left; simp [one, hb])
  obtain ⟨o, e1, ⟨hc, vs, t, rest, e2, e3, e4⟩, hz, S2⟩ := S1.freeze (i := 0) rfl (fun o ⟨_, vs, _, _, h, _⟩ => .inr ⟨vs, h⟩)
  simp only [List.eraseIdx_cons_zero] at S2
  refine ⟨_, o, hz, ?_, e1, hc, ⟨vs, ZM.put_self _ _ _, e2, by rw [← Array.getElem?_toList, e3]; rfl⟩, S2.drop (List.sublist_cons_self ..)⟩
  obtain ⟨l, ws, n, q, q1, q2⟩ := e4.toTup
  cases q
  exact .exc (ZM.put_self _ _ _) hc e2 e3 (hz _ _ q1) (VRs.mono hz _ _ q2)
noncomputable def Catches (c : Cx) (cls spec : Value) : Prop := ∀ x o (s : Shared) (A : Around) (Q : Bool → Shared → Prop) E, c.base.StaysIn s.heap → s.heap.get? x = some o → o.cls = cls → Q true s → wpAny (model c.prog c.w) A (excMatches (.ref x) spec) Q E s
theorem Catches.builtin {T : String} (hexc : isSubtype (.type T) (.type "BaseException") = pure true) (hnt : isSubtype (.type ((Manifest.find? T).elim "type" fun x => x.metatype)) (.type "tuple") = pure false)
    (hsub : isSubtype (.type T) (.type T) = pure true) : Catches c (.type T) (.type T) := fun x o s A Q E hb ho hc h =>
  wpAny_excMatches_type ⟨o, ho, hc⟩ hexc hnt hsub h
theorem Catches.own {C : Addr} {B newId initId : String} {bmB : List Value} (ok : c.Ok) (O : OwnExc c.K C B newId initId bmB) : Catches c (.ref C) (.ref C) := fun x o s A Q E hb ho hc h => by
  obtain ⟨nm, qn, N, bs, bm, hd, sn, sub, ab, col, dd, k0, k1, k2, k3, k5, mN, h1, h2, h3, h4, h5, h6⟩ := OwnExc.at O.in_ ok.glb.kin
  obtain ⟨hp, g, d, tk, os⟩ := s
  exact wpAny_excMatches_sub_self (hb _ _ h1) ho hc h6 h
noncomputable def bindAs (nm : Option Str) (ρ : AEnv) (a : AV) : AEnv := match nm with
  | Option.none => ρ
  | some n => AEnv.put ρ n a
noncomputable def goneAs (nm : Option Str) (ρ : AEnv) : AEnv := match nm with
  | Option.none => ρ
  | some n => AEnv.del ρ n
noncomputable def Evals (c : Cx) (t : Expr) (v : Value) : Prop := ∀ ρ H Z s (A : Around) (Q : Value → Shared → Prop) E, St c ρ H Z s → Q v s → wpAny (model c.prog c.w) A (eval t c.env) Q E s
theorem Evals.glob {x : Str} {pos : Pos} {v : Value} (ok : c.Ok) (hk : c.env.kindOf x = some .globalImplicit) (hx : nsIn c.K mainGlobals x = some (some v)) (hd : (x == ("__debug__" : Str)) = false) : Evals c (.Name x pos) v := fun ρ H Z s A Q E S h => by
  obtain ⟨p, loose, mg, mb, TR⟩ := ok.glb.top
  exact Name_function_global ok.kind hk (loadGlobal_global (env := c.env) (by rw [ok.globals]; exact TR.g.keeps S.base) (mg_of ok.glb.kin TR.g hx) h) hd
theorem Evals.blt {x : Str} {pos : Pos} {v : Value} (ok : c.Ok) (hk : c.env.kindOf x = some .globalImplicit) (hx : nsIn c.K mainGlobals x = some Option.none) (hb : bootBuiltins x = some v) (hn : x ≠ "__name__") (hd : (x == ("__debug__" : Str)) = false) : Evals c (.Name x pos) v := fun ρ H Z s A Q E S h => by
  obtain ⟨p, loose, mg, mb, TR⟩ := ok.glb.top
  exact Name_function_global ok.kind hk (loadGlobal_builtin (env := c.env) (by rw [ok.globals]; exact TR.g.keeps S.base) (mg_none_of ok.glb.kin TR.g hx) (by rw [ok.builtins]; exact TR.b.keeps S.base) ((TR.builtins x hn).trans hb) h) hd
theorem TX.try1 {body : List Stmt} {t : Expr} {nm : Option Str} {b₀ : Stmt} {suite : List Stmt} {hpos pos : Pos} {spec : Value} (F : Fun c sc) (hh : c.A.handled = Option.none) (hnm : ∀ n, nm = some n → c.env.kindOf n = some .local) (ht : Evals c t spec)
    (hb : TS c body ρ H Q (fun cls args ρ' H' => Catches c cls spec ∧ ∀ x, Fun (c.marked x) sc → 
      TS (c.marked x) (b₀ :: suite) (bindAs nm ρ' (.exc cls args)) H' (fun f ρ₂ H₂ => Q f (goneAs nm ρ₂) H₂) noX)) :
    TX c (.Try body [.ExceptHandler (some t) nm (b₀ :: suite) hpos] [] [] pos) ρ H Q X := fun Z s S => by
  refine wpAny_Try_except (wpAny_mono (hb Z s S) (fun f s₁ hp => ?_) fun e s₁ hx => ?_)
  · cases f <;> first | exact hp | exact wpAny_execs_nil hp
  · obtain ⟨x, cls, args, E₀, ρ₁, H₁, Z₁, rfl, hE, hz, S₁, hC, hX⟩ := hx
    refine noteFrameT S₁ F.ok F.fr F.ok.frames hE fun E₁ s₂ hE₁ S₂ => ?_
    refine setFlightT S₂ hE₁.f fun s₃ S₃ => ?_
    obtain ⟨T, g1, g2, g3⟩ := id hE₁
    obtain ⟨o, e1, e2, _⟩ := S₃.read (i := 0) rfl g1
    refine wpAny_handleBy_cons (codeAny_handlers_test (ht _ _ _ _ _ _ _ S₃ ?_)) (by intro q; cases q)
    refine hC x o s₃ _ _ _ S₃.base e1 e2 ?_
    have hm : c.A.mark (some (.ref x)) = (c.marked x).A := rfl
    -- the suite
    have run : ∀ (ρ₄ : AEnv) (Z₄ : ZM) (s₄ : Shared) (Qf : Flow → Shared → Prop) (EE : Value → Shared → Prop), ZLe Z Z₄ → St (c.marked x) (bindAs nm ρ₁ (.exc cls args)) H₁ Z₄ s₄ →
        (∀ f s₅ Z₅ ρ₅ H₅ af, ZLe Z Z₅ → rFlow Z₅ af f → St c ρ₅ H₅ Z₅ s₅ → Q af (goneAs nm ρ₅) H₅ → Qf f s₅) →
        wpAny (model c.prog c.w) (c.A.mark (some (.ref x))) (execs (b₀ :: suite) c.env) Qf EE s₄ := fun ρ₄ Z₄ s₄ Qf EE hz₄ S₄ hk => by
      refine wpAny_mono (hX x (F.marked x) Z₄ s₄ S₄) (fun f s₅ ⟨af, ρ₅, H₅, Z₅, hz₅, hf, S₅, h₅⟩ => hk f s₅ Z₅ ρ₅ H₅ af (hz₄.trans hz₅) hf (S₅.unmark hh) h₅) fun e s₅ ⟨_, _, _, _, _, _, _, _, _, _, _, hf⟩ => hf.elim
    cases nm with
    | none =>
      refine codeAny_handlers_suite (setFlightT S₃ hE₁.f fun s₄ S₄ => ?_)
      obtain ⟨Z', o', hz', hvr, _, _, ⟨vs, p1, p2, p3⟩, S5⟩ := S₄.caught hE₁.f
      exact run ρ₁ Z' s₄ _ _ (hz.trans hz') (S5.mark p1 p2 p3) fun f s₅ Z₅ ρ₅ H₅ af hz₅ hf S₅ h₅ => ⟨af, ρ₅, H₅, Z₅, hz₅, hf, S₅, h₅⟩
    | some n =>
      refine codeAny_handlers_suite_as (setFlightT S₃ hE₁.f fun s₄ S₄ => ?_)
      obtain ⟨Z', o', hz', hvr, _, _, ⟨vs, p1, p2, p3⟩, S5⟩ := S₄.caught hE₁.f
      refine S5.store F.ok (.inl (hnm n rfl)) hvr fun s₆ S6 => ?_
      refine run ρ₁ Z' s₆ _ _ (hz.trans hz') (S6.mark p1 p2 p3) fun f s₅ Z₅ ρ₅ H₅ af hz₅ hf S₅ h₅ => ?_
      exact nameGoes_T F.ok S₅ (hnm n rfl) fun s₇ S7 => ⟨af, _, H₅, Z₅, hz₅, hf, S7, h₅⟩
end
end Mine.Internal
end

section
open PySem PySem.W PySem.Calls PyProof.Rows
set_option Elab.async false
set_option maxRecDepth 100000
set_option linter.unusedVariables false
set_option linter.unusedSimpArgs false
namespace Mine.Internal
theorem lk_ve_class : typeLookup (.type "ValueError") "__class__" = pure (some (.builtin "object.__class__")) := by rw [typeLookup_type, builtinLookup_eq_fast]; kernel_rfl
theorem sub_ve_class_owner : isSubtype (.type "ValueError") (.type (".".intercalate ("object.__class__".cutAt '.').dropLast)) = pure true := by
  rw [PySem.F.owner_object_class, isSubtype_type]; kernel_rfl
section
variable {prog : Program} {w : World} {A : Around} {E : Value → Shared → Prop} {h : Heap} {g : Array GenState} {d : Drawn} {t : Nat} {os : OsState} {a : Addr} {o : Obj}
theorem ve_class_get {R : Result → Shared → Prop} (hx : h.get? a = some o) (hc : o.cls = .type "ValueError") (hq : R (.ok (.ret (.type "ValueError"))) ⟨h, g, d, t, os⟩) :
    codeAny (model prog w) A (.call (.builtin "getset_descriptor.__get__") ⟨[.builtin "object.__class__", .ref a, .type "ValueError"], []⟩) R ⟨h, g, d, t, os⟩ := by
  have hT : (⟨h, g, d, t, os⟩ : Shared).TypeIs (.ref a) "ValueError" := ⟨_, hx, hc⟩
  have hT5 : (⟨h, g, d, t, os⟩ : Shared).TypeIs (.builtin "object.__class__") "getset_descriptor" := PySem.F.typeOf_object_class
  have f8 := sub_ve_class_owner
  refine codeAny_call_builtin PySem.F.slot_gs_get.plain PySem.F.entry_gs_get (PySem.F.slot_gs_get.check _ _ _ _ _ _ _ _ hT5 (PySem.F.args_gs_get _ _ _) ?_)
  repeat (any_goals (first | assumption | wp_step))
  refine ⟨Code.quiet_builtin _ (by decide +kernel), codeAny_builtin PySem.F.entry_object_class ?_⟩
  repeat (any_goals (first | assumption | wp_step))
theorem ve_class_entry {tk : Tok} {Q : Fin → Shared → Prop} (hx : h.get? a = some o) (hc : o.cls = .type "ValueError") (hq : Q (.done (.ret (.type "ValueError"))) ⟨h, g, d, t, os⟩) :
    wpAny (model prog w) A (Builtin.«object.__getattribute__» ⟨[.ref a, .str "__class__" tk], []⟩) Q E ⟨h, g, d, t, os⟩ := by
  have hT : (⟨h, g, d, t, os⟩ : Shared).TypeIs (.ref a) "ValueError" := ⟨_, hx, hc⟩
  have hT5 : (⟨h, g, d, t, os⟩ : Shared).TypeIs (.builtin "object.__class__") "getset_descriptor" := PySem.F.typeOf_object_class
  have f4 := lk_ve_class
  have f5 := PySem.F.typeOf_object_class
  have f6 := PySem.F.slot_gs_get.lookup
  have f7 := PySem.F.slot_gs_set.lookup
  repeat (any_goals (first | assumption | wp_step))
  refine ve_class_get hx hc ?_
  repeat (any_goals (first | assumption | wp_step))
theorem ve_class_by {tk : Tok} {Q : Value → Shared → Prop} (hx : h.get? a = some o) (hc : o.cls = .type "ValueError") (hq : Q (.type "ValueError") ⟨h, g, d, t, os⟩) : wpAny (model prog w) A (getAttrBy (.ref a) (.str "__class__" tk) false) Q E ⟨h, g, d, t, os⟩ := by
  have hT : (⟨h, g, d, t, os⟩ : Shared).TypeIs (.ref a) "ValueError" := ⟨_, hx, hc⟩
  have FX := PySem.F.excAttr_ValueError
  have f2 := FX.ga.lookup
  have f3 := FX.ga.bind (.ref a)
  repeat (any_goals (first | assumption | wp_step))
  refine codeAny_call_builtin FX.ga.plain PySem.F.entry_bexc_ga (FX.ga.check _ _ _ _ _ _ _ _ hT (PySem.F.args_bexc_ga _ _) (ve_class_entry hx hc ?_))
  repeat (any_goals (first | assumption | wp_step))
theorem ve_class_attr {Q : Option Value → Shared → Prop} (hx : h.get? a = some o) (hc : o.cls = .type "ValueError") (hq : Q (some (.type "ValueError")) ⟨h, g, d, t + 1, os⟩) : wpAny (model prog w) A (getAttr? (.ref a) "__class__") Q E ⟨h, g, d, t, os⟩ := by
  unfold getAttr? getAttrBy?
  repeat (any_goals (first | assumption | with_reducible apply ve_class_by hx hc | wp_step))
end
theorem kitx_ve {K : Frag} {a : Addr} : KitX K (.ref a) (.type "ValueError") (KitAt a "ValueError") := kitx_of kitAt_ty (fun {_ _ _ _ _ s} p k => by
  obtain ⟨h, g, d, t, os⟩ := s; obtain ⟨o, h1, h2⟩ := p; exact ve_class_attr h1 h2 k)
section
variable {c : Cx} {ρ : AEnv} {H : AHs} {X : AX} {QV : AV → AEnv → AHs → Prop} {as : List AV} {C : Value} {b : Bool}
theorem VR.toExc {Z : ZM} {cls : Value} {xs : List AV} {v : Value} (h : VR Z (.exc cls xs) v) : ∃ a o vs t rest, v = .ref a ∧ Z a = some o ∧ o.cls = cls ∧ o.data = .fields vs ∧ vs.toList = .ref t :: rest ∧ VR Z (.tup xs) (.ref t) := by
  cases h with | exc h1 h2 h3 h4 h5 h6 => exact ⟨_, _, _, _, _, rfl, h1, h2, h3, h4, .tup h5 h6⟩
theorem TC.isiVE (ok : c.Ok) (e : kitOne c.K (.type "ValueError") C = some b) (h : QV (.bool b) ρ H) : TC c (.val (.builtin "isinstance")) [.exc (.type "ValueError") as, .val C] ρ H QV X := fun Z s fv vs S hf hv => by
  cases hf
  cases hv with | cons h1 h2 => cases h2 with | cons h2 h3 => cases h2; cases h3; exact (by
    obtain ⟨a, o, vs, t, rest, rfl, e1, e2, e3, e4, e5⟩ := h1.toExc
    exact kia_one kitx_ve (ok.kIn S) ⟨o, (S.fz _ _ e1).1, e2⟩ e (by intro q; cases q) fun tk => Post.now (S.tok _) .val h)
theorem TC.isiList {a : AV} {xs : List AV} (ok : c.Ok) (hl : LV H a xs) (e : kitOne c.K (.type "list") C = some b) (h : QV (.bool b) ρ H) : TC c (.val (.builtin "isinstance")) [a, .val C] ρ H QV X := fun Z s fv vs S hf hv => by
  cases hf
  cases hv with | cons h1 h2 => cases h2 with | cons h2 h3 => cases h2; cases h3; exact (by
    obtain ⟨l, us, n, rfl, e1, e2⟩ := hl.obj S h1
    exact kia_one kitx_list (ok.kIn S) ⟨_, e1, rfl⟩ e (by intro q; cases q) fun tk => Post.now (S.tok _) .val h)
theorem T1.argsVE {ex : Bool} (h : QV (.tup as) ρ H) : T1 c VR (fun v => getAttr v "args" ex) (.exc (.type "ValueError") as) ρ H QV X := fun Z s v S hv => by
  obtain ⟨a, o, vs, t, rest, rfl, e1, e2, e3, e4, e5⟩ := hv.toExc
  have h0 : vs[0]? = some (.ref t) := by rw [← Array.getElem?_toList, e4]; rfl
  obtain ⟨hh, g, d, tk, os⟩ := s
  exact args_attr PySem.F.excAttr_ValueError (S.fz _ _ e1).1 e2 e3 h0 (Post.now (S.tok _) e5 h)
noncomputable def tailQIn (K : Frag) (bmB : List Value) : List Value → Bool
  | [] => bmB == []
  | v :: r => (v :: r) == bmB || match v with
    | .ref A => (match K.lookup A with
      | some ⟨_, _, .cls cd, _⟩ => nsOkIn K cd.ns && quietNames.all (fun n => nsIn K cd.ns n == some Option.none) && tailQIn K bmB r
      | _ => false)
    | _ => false
set_option tactic.hygienic true in
theorem tailQ_of_in {K : Frag} {h : Heap} {bmB : List Value} (Y : K.In h) : ∀ {l : List Value}, tailQIn K bmB l = true → OwnTailQ h bmB l
  | [], e => by rw [← beq_iff_eq.mp e]; exact .base
  | v :: r, e => by
    unfold tailQIn at e
    rcases Bool.or_eq_true_iff.mp e with q | q
    · rw [beq_iff_eq.mp q]; exact .base
    · split at q
      · split at q
        · rename_i ho
          simp only [Bool.and_eq_true] at q
          refine .own (Y _ _ ho) (.of_isNs (isNs_of_in Y q.1.1)) (fun n hn => ?_) (tailQ_of_in Y q.2)
          have := List.all_eq_true.mp q.1.2 n hn
          exact nsMap_none_of_in Y q.1.1 (by simpa using this)
        · cases q
      · cases q
noncomputable def quietIn (K : Frag) (C : Addr) (bmB : List Value) : Bool := (clsIn K C).any fun cd => cd.mro.head? == some (.ref C) && tailQIn K bmB cd.mro.tail && nsOkIn K cd.ns && quietNames.all (fun n => nsIn K cd.ns n == some Option.none)
set_option tactic.hygienic true in
theorem T1.argsOwn {ex : Bool} {C : Addr} {B newId initId : String} {bmB : List Value} (ok : c.Ok) (O : OwnExc c.K C B newId initId bmB) (FB : ExcAttrBase B bmB) (hq : quietIn c.K C bmB = true) (h : QV (.tup as) ρ H) :
    T1 c VR (fun v => getAttr v "args" ex) (.exc (.ref C) as) ρ H QV X := fun Z s v S hv => by
  obtain ⟨a, o, vs, t, rest, rfl, e1, e2, e3, e4, e5⟩ := hv.toExc
  have h0 : vs[0]? = some (.ref t) := by rw [← Array.getElem?_toList, e4]; rfl
  obtain ⟨nm, qn, N, bs, bm, hd, sn, sub, ab, col, dd, k0, k1, k2, k3, k5, mN, h1, h2, h3, h4, h5, h6⟩ := OwnExc.at O.in_ (ok.kIn S)
  obtain ⟨cd, q1, q2⟩ := any_some hq
  simp only [Bool.and_eq_true] at q2
  have hcd : cd.mro = .ref C :: bm ∧ cd.ns = N := by
    unfold clsIn at q1
    split at q1
    · rename_i ho
      cases q1
      have := ok.kIn S _ _ ho
      rw [h1] at this
      injection this with this
      injection this with _ _ this
      injection this with this
      subst this
      exact ⟨rfl, rfl⟩
    · cases q1
  obtain ⟨hm, rfl⟩ := hcd
  rw [hm] at q2
  have hT : OwnTailQ s.heap bmB bm := tailQ_of_in (ok.kIn S) q2.1.1.2
  have hns : ∀ n, nsIn c.K cd.ns n = some Option.none → s.heap.nsMap cd.ns n = Option.none := fun n q => nsMap_none_of_in (ok.kIn S) q2.1.2 q
  have hN2 : s.heap.Ns cd.ns (s.heap.nsMap cd.ns) := .of_isNs (isNs_of_in (ok.kIn S) q2.1.2)
  obtain ⟨hh, g, d, tk, os⟩ := s
  refine args_attr_own FB h1 hN2 (fun n hn => hns n (by have := List.all_eq_true.mp q2.2 n hn; simpa using this)) hT (S.fz _ _ e1).1 e2 e3 h0 (Post.now (S.tok _) e5 h)
end
end Mine.Internal
end

section
open PySem PySem.W PySem.Calls PyProof.Rows
set_option Elab.async false
set_option maxRecDepth 100000
set_option linter.unusedVariables false
set_option linter.unusedSimpArgs false
namespace Mine.Internal
section
variable {c : Cx} {ρ : AEnv} {H : AHs} {sc : Scope} {X : AX} {QV : AV → AEnv → AHs → Prop} {QL : List AV → AEnv → AHs → Prop}
theorem starOf_T {Z : ZM} {s : Shared} {a : AV} {xs : List AV} {v : Value} {Q : List Value → Shared → Prop} {E : Value → Shared → Prop} (hs : SV H a xs) (hn : xs.length ≤ 1000000) (S : St c ρ H Z s) (hv : VR Z a v)
    (h : ∀ vs s', St c ρ H Z s' → VRs Z xs vs → Q vs s') : StarOf (model c.prog c.w) c.A E v Q s := by
  obtain ⟨T, l, vs, n, hT, rfl, e1, e2⟩ := hs.obj S hv
  have hsz := e2.toArr
  have hT' : s.TypeIs (.ref l) T := ⟨_, e1, rfl⟩
  have z : wpAny (model c.prog c.w) c.A (collect (.ref l)) Q E s :=
    wpAny_collect_seq l hT e1 rfl rfl (fun h' hk => h _ _ (S.ext (s' := { s with heap := h' }) hk rfl rfl) e2) (by have := sizeLineIs; lia)
  unfold StarOf notIterableAtAll
  rcases hT with rfl | rfl
  · exact wpAny_bind (wpAny_specialOf hT' PySem.F.slot_list_iter.lookup (wpAny_pure ⟨rfl, z⟩))
  · exact wpAny_bind (wpAny_specialOf hT' PySem.F.slot_tuple_iter.lookup (wpAny_pure ⟨rfl, z⟩))
theorem TEs.star {e : Expr} {p pos : Pos} {rest : List Expr} (h : TE c e ρ H (fun a ρ₁ H₁ => ∃ xs, SV H₁ a xs ∧ xs.length ≤ 1000000 ∧ TEs c rest pos ρ₁ H₁ (fun as ρ₂ H₂ => QL (xs ++ as) ρ₂ H₂) X) X) : TEs c (.Starred e p :: rest) pos ρ H QL X := fun Z s S => by
  refine items_star (wpAny_mono (h Z s S) (fun v s₁ ⟨a, ρ₁, H₁, Z₁, hz, hv, S₁, xs, hs, hn, h₁⟩ => ?_) fun z_ z_ x => x) (he := rfl)
  refine starOf_T hs hn S₁ hv fun vs s₂ S₂ hvs => ?_
  refine wpAny_mono (h₁ Z₁ s₂ S₂) (fun ws s₃ ⟨as, ρ₂, H₂, Z₂, hz₂, hw, S₃, h₂⟩ => ?_) fun z_ z_ x => x.le hz
  exact ⟨xs ++ as, ρ₂, H₂, Z₂, hz.trans hz₂, (VRs.mono hz₂ _ _ hvs).append hw, S₃, h₂⟩
noncomputable def BoundIs (c : Cx) (H : AHs) (x : Addr) (name : Str) (f : Addr) : Prop := ∀ ρ Z s (Q : Value → Shared → Prop) E ex, St c ρ H Z s → Q (.ref s.heap.objs.size) { s with heap := s.heap.push (methodObj (.ref f) (.ref x)), toks := s.toks + 1 } →
  wpAny (model c.prog c.w) c.A (getAttr (.ref x) name ex) Q E s
structure FnKnown (K : Frag) (f : Addr) : Prop where
  fn : typeIn K (.ref f) = some (.type "function")
  get : specialIn K (.ref f) "__get__" = some (some (.builtin "function.__get__"))
  takes : takesIn K (.ref f) = some false
  data : ∃ o fd, K.lookup f = some o ∧ o.data = .func fd
theorem BoundIs.inst {i j : Nat} {M N : AM} {x dx C f : Addr} {fs : AEnv} {name : Str} (ok : c.Ok) (hc : DictCls c.K C) (hi : H[i]? = some M) (hx : M x = some (oInst C dx)) (hj : H[j]? = some N) (hd : N dx = some (oNs fs)) (hn : findIn c.K (.ref C) name = some (some (.ref f))) (hf : FnKnown c.K f) (hl : fs.lookup name = Option.none)
    (hcn : copiedNames.contains name = false) : BoundIs c H x name f := fun ρ Z s Q E ex S h => by
  obtain ⟨es, n, I, _, hr⟩ := S.inst hi hx hj hd
  exact get_bind (ok.kIn S) I (plainGet_of hc.get).1 (findObj_fn hc.dict hn hf.get hf.takes hcn (by show lookIn name (dictOf es n) = _; rw [lookIn_dict, (hr.2 name).1 hl])) (plainGet_of hc.get).2
    (wpAny_call (fn_get (s := { s with toks := s.toks + 1 }) (ok.kIn (S.tok _)) hf.fn (handed_on rfl h)))
theorem St.heldObj {b : Addr} {o : Obj} {Z : ZM} {s : Shared} (S : St (c.hold b o) ρ H Z s) (hd : ∀ es ep, o.data ≠ .dict es ep) : s.heap.get? b = some o := by
  obtain ⟨sl, h1, h2, h3⟩ := S.po b o (if_pos rfl)
  rw [h3 hd] at h1
  exact h1
theorem call_method {prog : Program} {w : World} {A : Around} {E : Value → Shared → Prop} {s : Shared} {q f x : Addr} {vs : List Value} {Q : Value → Shared → Prop} (hq : s.heap.get? q = some (methodObj (.ref f) (.ref x)))
    (h : codeAny (model prog w) A (.call (.ref f) ⟨.ref x :: vs, []⟩) (fun r s' => match r with | .ok (.ret v) => Q v s' | .ok _ => False | .error e => E e s') s) : wpAny (model prog w) A (call (.ref q) vs) Q E s := by
  refine wpAny_call (codeAny_of_tree ?_)
  show wpAny _ A.in1 (callAny (.ref q) ⟨vs, []⟩) _ _ s
  simp only [callAny]
  refine wpAny_bind (wpAny_load hq ?_)
  simp only [methodObj]
  exact wpAny_pure ⟨rfl, h⟩
theorem methStar_core {o : Expr} {name : Str} {apos pos : Pos} {args : List Expr} (F : Fun c sc) (hst : (backTo pos (starEach args c.env)).any (·.1) = true) (hn : args.length < 30)
    (h : TE c o ρ H (fun a ρ₁ H₁ => ∃ x f, a = .ref x ∧ BoundIs c H₁ x name f ∧ FnKnown c.K f ∧ ∀ q mo, (∃ vs, mo.data = .fields vs) → Fun (c.hold q mo) sc →
      ∀ Z s, St (c.hold q mo) ρ₁ H₁ Z s → wpAny (model c.prog c.w) c.A (evalArgs (.ref q) true (backTo pos (starEach args c.env)) []) (fun a s₁ => ∃ as ρ₂ H₂ Z₁, a.kw = [] ∧ ZLe Z Z₁ ∧ VRs Z₁ as a.pos ∧ St (c.hold q mo) ρ₂ H₂ Z₁ s₁ ∧ TK c (.val (.ref f)) (.ref x :: as) ρ₂ H₂ QV X) (Exc (c.hold q mo) Z X) s) X)
    (hbase : attributeBase o name c.env (eval o c.env) = eval o c.env) :
    TE c (.Call (.Attribute o name apos) args [] pos) ρ H QV X := fun Z s S => by
  have hform : methodCallForm (args.length + 0) (backTo pos (starEach args c.env)) [] = false := by
    unfold methodCallForm
    have : (backTo pos (starEach args c.env)).all (fun x => !x.1) = false := by
      rw [Bool.eq_false_iff]
      intro q
      obtain ⟨y, hy, hy2⟩ := List.any_eq_true.mp hst
      have := List.all_eq_true.mp q y hy
      simp [hy2] at this
    rw [this]; rfl
  show wpAny _ _ (attributeBase o name c.env (eval o c.env) >>= fun ov => standAt apos.atName >>= fun z_ => methodCall o name apos pos c.env ov (args.length + 0) (backTo pos (starEach args c.env)) []) _ _ s
  rw [hbase]
  refine wpAny_bind (wpAny_mono (h Z s S) (fun v s₁ ⟨a, ρ₁, H₁, Z₁, hz, hv, S₁, x, f, he, hB, hF, h₁⟩ => wpAny_bind (wpAny_standAt ?_)) fun z_ z_ x => x)
  subst he
  cases hv
  unfold methodCall calleeOf methodCallPos
  rw [hform]
  refine wpAny_bind (wpAny_holding ?_)
  rw [if_neg (by decide)]
  refine wpAny_bind (hB _ _ _ _ _ _ S₁ (wpAny_pure ?_))
  refine wpAny_bind ?_
  simp only [Bool.not_false, Bool.true_or, if_true]
  refine wpAny_pure ?_
  have S₂ := (S₁.push (d := oAny fun z_ => True) (o := methodObj (.ref f) (.ref x)) rfl trivial).tok (s₁.toks + 1)
  have fr := S₂.free
  have hq : (s₁.heap.push (methodObj (.ref f) (.ref x))).get? s₁.heap.objs.size = some (methodObj (.ref f) (.ref x)) := Heap.get?_push_size _ rfl
  have S₃ := S₂.hold hq
  refine ks_call (P := fun h => h.get? s₁.heap.objs.size = some (methodObj (.ref f) (.ref x)) ∧ c.K.In h) hst ?_ ?_
  · rintro h ⟨h1, h2⟩
    refine ⟨.boundFrame, .inr (.inr rfl), ?_⟩
    obtain ⟨of, fd, g1, g2⟩ := hF.data
    unfold keeperOf
    refine (Looks.ld h1).andThen ?_
    simp only [methodObj]
    refine (Looks.ld (h2 _ _ g1)).andThen ?_
    rw [g2]
    exact .now
  · refine wpAny_mono (h₁ _ _ ⟨_, rfl⟩ (fr.fun F) Z₁ _ S₃) (fun a s₄ ⟨as, ρ₂, H₂, Z₂, hkw, hz₂, hvs, S₄, hk⟩ => ⟨⟨S₄.heldObj (fun z_ z_ q => by cases q), F.ok.kIn (S₄.unhold' fr)⟩, ?_⟩) fun z_ z_ x => (x.unhold fr).le hz
    obtain ⟨apos', akw⟩ := a
    obtain rfl : akw = [] := hkw
    refine call_method (S₄.heldObj (fun z_ z_ q => by cases q)) (codeAny_mono (hk Z₂ s₄ _ _ (S₄.unhold' fr) .val (.cons .val hvs)) fun r s' hr => ?_)
    cases r with
    | error e => exact hr.le (hz.trans hz₂)
    | ok fl => cases fl <;> first | exact hr.le (hz.trans hz₂) | exact hr.elim
theorem TE.methS1 {o e : Expr} {name : Str} {apos pos p : Pos} (F : Fun c sc)
    (h : TE c o ρ H (fun a ρ₁ H₁ => ∃ x f, a = .ref x ∧ BoundIs c H₁ x name f ∧ FnKnown c.K f ∧ ∀ q mo, Fun (c.hold q mo) sc → TE (c.hold q mo) e ρ₁ H₁ (fun b ρ₂ H₂ => ∃ xs, SV H₂ b xs ∧ xs.length ≤ 1000000 ∧ TK c (.val (.ref f)) (.ref x :: xs) ρ₂ H₂ QV X) X) X)
    (hbase : attributeBase o name c.env (eval o c.env) = eval o c.env) : TE c (.Call (.Attribute o name apos) [.Starred e p] [] pos) ρ H QV X := by
  refine methStar_core F rfl (by simp) (T.imp h (fun a ρ₁ H₁ ⟨x, f, h1, h2, h3, h4⟩ => ⟨x, f, h1, h2, h3, fun q mo hmo hF Z s S => ?_⟩) fun z_ z_ z_ z_ x => x) hbase
  refine ks_lone (wpAny_mono (h4 q mo hF Z s S) (fun v s₁ ⟨b, ρ₂, H₂, Z₂, hz, hv, S₁, xs, hs, hn, hk⟩ => ?_) fun z_ z_ x => x)
  exact starOf_T (c := c.hold q mo) hs hn S₁ hv fun vs s₂ S₂ hvs => ⟨xs, ρ₂, H₂, Z₂, rfl, hz, hvs, S₂, hk⟩
end
end Mine.Internal
end

section
open PySem PySem.W PySem.Calls PyProof.Rows
set_option Elab.async false
set_option maxRecDepth 100000
set_option linter.unusedVariables false
set_option linter.unusedSimpArgs false
namespace Mine.Internal
theorem f_iter : entryFor table "iter" = some Builtin.«iter» := entryFor_of_fast (by kernel_rfl)
theorem f_iterArgs (a : Value) : argsOk "iter" ⟨[a], []⟩ := by unfold argsOk; kernel_rfl
theorem f_liGa : Slot "list_iterator" "__getattribute__" "object.__getattribute__" :=
  .of (owner := "object") (n := "__getattribute__") (by rw [typeLookup_type, builtinLookup_eq_fast]; kernel_rfl) (by decide +kernel) (by decide +kernel) (by decide +kernel)
    (by first | exact .inl (by decide +kernel) | exact .inr (by decide +kernel)) (by rw [isSubtype_type]; kernel_rfl)
theorem f_ogaEntry : entryFor table "object.__getattribute__" = some Builtin.«object.__getattribute__» := entryFor_of_tree (by kernel_rfl)
theorem f_ogaArgs (a b : Value) : argsOk "object.__getattribute__" ⟨[a, b], []⟩ := by unfold argsOk; kernel_rfl
theorem f_liGattr : typeLookup (.type "list_iterator") "__getattr__" = pure Option.none := by rw [typeLookup_type, builtinLookup_eq_fast]; kernel_rfl
theorem f_nextType : typeOf (.builtin "list_iterator.__next__") = pure (.type "wrapper_descriptor") := by kernel_rfl
theorem f_wdGet : Slot "wrapper_descriptor" "__get__" "wrapper_descriptor.__get__" :=
  .of (owner := "wrapper_descriptor") (n := "__get__") (by rw [typeLookup_type, builtinLookup_eq_fast]; kernel_rfl) (by decide +kernel) (by decide +kernel) (by decide +kernel)
    (by first | exact .inl (by decide +kernel) | exact .inr (by decide +kernel)) (by rw [isSubtype_type]; kernel_rfl)
theorem f_wdEntry : entryFor table "wrapper_descriptor.__get__" = some Builtin.«wrapper_descriptor.__get__» := entryFor_of_tree (by kernel_rfl)
theorem f_wdArgs (a b c : Value) : argsOk "wrapper_descriptor.__get__" ⟨[a, b, c], []⟩ := by unfold argsOk; kernel_rfl
theorem f_wdSet : typeLookup (.type "wrapper_descriptor") "__set__" = pure Option.none := by rw [typeLookup_type, builtinLookup_eq_fast]; kernel_rfl
theorem f_wdDel : typeLookup (.type "wrapper_descriptor") "__delete__" = pure Option.none := by rw [typeLookup_type, builtinLookup_eq_fast]; kernel_rfl
theorem f_liOwner : (".".intercalate ("list_iterator.__next__".cutAt '.').dropLast) = "list_iterator" := by
  have e0 : "list_iterator.__next__".cutAt '.' = ["list_iterator", "__next__"] := by first | rfl | decide +kernel
  rw [e0]; decide +kernel
theorem f_liSub : isSubtype (.type "list_iterator") (.type "list_iterator") = pure true := by rw [isSubtype_type]; kernel_rfl
abbrev nextObj (it : Addr) : Obj := { cls := .type "method-wrapper", data := .fields #[.builtin "list_iterator.__next__", .ref it] }
section
variable {prog : Program} {w : World} {A : Around} {E : Value → Shared → Prop} {h : Heap} {g : Array GenState} {d : Drawn} {t : Nat} {os : OsState} {it : Addr} {o : Obj}
theorem next_get {R : Result → Shared → Prop} (hx : h.get? it = some o) (hc : o.cls = .type "list_iterator") (hq : R (.ok (.ret (.ref h.objs.size))) ⟨h.push (nextObj it), g, d, t, os⟩) :
    codeAny (model prog w) A (.call (.builtin "wrapper_descriptor.__get__") ⟨[.builtin "list_iterator.__next__", .ref it, .type "list_iterator"], []⟩) R ⟨h, g, d, t, os⟩ := by
  have hT : (⟨h, g, d, t, os⟩ : Shared).TypeIs (.ref it) "list_iterator" := ⟨_, hx, hc⟩
  have hT5 : (⟨h, g, d, t, os⟩ : Shared).TypeIs (.builtin "list_iterator.__next__") "wrapper_descriptor" := f_nextType
  have f8 : isSubtype (.type "list_iterator") (.type (".".intercalate ("list_iterator.__next__".cutAt '.').dropLast)) = pure true := by rw [f_liOwner]; exact f_liSub
  refine codeAny_call_builtin f_wdGet.plain f_wdEntry (f_wdGet.check _ _ _ _ _ _ _ _ hT5 (f_wdArgs _ _ _) ?_)
  repeat (any_goals (first | assumption | wp_step))
theorem next_attr {ex : Bool} {Q : Value → Shared → Prop} (hx : h.get? it = some o) (hc : o.cls = .type "list_iterator") (hnd : o.dict = Option.none) (hnc : ∃ vs, o.data = .fields vs) (hq : Q (.ref h.objs.size) ⟨h.push (nextObj it), g, d, t + 1, os⟩) :
    wpAny (model prog w) A (getAttr (.ref it) "__next__" ex) Q E ⟨h, g, d, t, os⟩ := by
  have hT : (⟨h, g, d, t, os⟩ : Shared).TypeIs (.ref it) "list_iterator" := ⟨_, hx, hc⟩
  have hT5 : (⟨h, g, d, t, os⟩ : Shared).TypeIs (.builtin "list_iterator.__next__") "wrapper_descriptor" := f_nextType
  have f3 := f_liGa.lookup
  have f3b := f_liGa.bind (.ref it)
  have hx0 : (ex && onTheHeap (Value.builtin "object.__getattribute__")) = false := by cases ex <;> rfl
  have f4 := slot_listiter_next.lookup
  have f5 := f_nextType
  have f6 := f_wdGet.lookup
  have f7 := f_wdSet
  have f8 := f_wdDel
  have f9 := f_liGattr
  obtain ⟨vs, hvs⟩ := hnc
  obtain ⟨oc, od, dd, sl⟩ := o
  dsimp only at hc hnd hvs
  subst hc hnd hvs
  unfold getAttr getAttrBy
  repeat (any_goals (first | assumption | wp_step))
  refine codeAny_call_builtin f_liGa.plain f_ogaEntry (f_liGa.check _ _ _ _ _ _ _ _ (show (⟨h, g, d, t + 1, os⟩ : Shared).TypeIs (.ref it) "list_iterator" from hT) (f_ogaArgs _ _) ?_)
  unfold Builtin.«object.__getattribute__»
  have hT1 : (⟨h, g, d, t + 1, os⟩ : Shared).TypeIs (.ref it) "list_iterator" := hT
  have hT51 : (⟨h, g, d, t + 1, os⟩ : Shared).TypeIs (.builtin "list_iterator.__next__") "wrapper_descriptor" := f_nextType
  repeat (any_goals (first | assumption | wp_step))
  refine next_get hx rfl ?_
  refine wpAny_pure ?_
  exact wpAny_pure hq
end
noncomputable def oLIt (a : AV) (n : Nat) : OD where
  rel Z o := ∃ l sl, o = ⟨.type "list_iterator", Option.none, .fields #[.ref l, .int n 0], sl⟩ ∧ VR Z a (.ref l)
  mono Z Z' o hz h := let ⟨l, sl, h1, h3⟩ := h; ⟨l, sl, h1, VR.mono hz _ _ h3⟩
noncomputable def oNext (it : Addr) : OD where
  rel _ o := o = nextObj it
  mono _ _ _ _ h := h
theorem f_nextCheck (it : Addr) : checkBoundCall "list_iterator.__next__" ⟨[.ref it], []⟩ = pure () := by first | kernel_rfl | rfl
section
variable {c : Cx} {ρ : AEnv} {H : AHs} {sc : Scope} {X : AX} {QV : AV → AEnv → AHs → Prop} {i j : Nat} {M N : AM} {it mw : Addr} {a x : AV} {xs : List AV} {n : Nat}
theorem TC.iterL (hl : LV H a xs) (h : ∀ it, QV (.ref it) ρ (one it (oLIt a 0) :: H)) : TC c (.val (.builtin "iter")) [a] ρ H QV X := fun Z s fv vs S hf hv => by
  cases hf
  cases hv with | cons h1 h2 => cases h2; exact (by
    obtain ⟨l, us, rfl, hL, hvs⟩ := hl.isList S h1
    refine call_function_entry (by decide +kernel) (by decide +kernel) f_iter (f_iterArgs _) ?_
    unfold Builtin.«iter»
    refine wpAny_bind (m := someArgs "iter" 1 2 _) (wpAny_of_eq (a := [Value.ref l]) (by first | rfl | kernel_rfl!) ?_)
    show wpAny _ _ (pyIter (.ref l) >>= _) _ _ _
    refine wpAny_bind (wpAny_pyIter_list hL ?_)
    exact wpAny_pure ⟨_, rfl, _, ρ, _, Z, .refl _, .val, S.push (d := oLIt a 0) (o := { cls := .type "list_iterator", data := .fields #[.ref l, .int 0 0] }) rfl ⟨l, _, rfl, h1⟩, h _⟩)
theorem T1.nextA {ex : Bool} (hi : H[i]? = some M) (hit : M it = some (oLIt a n)) (h : ∀ mw, QV (.ref mw) ρ (one mw (oNext it) :: H)) : T1 c VR (fun v => getAttr v "__next__" ex) (.ref it) ρ H QV X := fun Z s v S hv => by
  cases hv
  obtain ⟨o, ho, l, sl, rfl, hvr⟩ := S.read hi hit
  obtain ⟨hh, g, d, t, os⟩ := s
  exact next_attr ho rfl rfl ⟨_, rfl⟩ ⟨_, ρ, _, Z, .refl _, .val, (S.push (d := oNext it) (o := nextObj it) rfl rfl).tok _, h _⟩
theorem next_call {prog : Program} {w : World} {A : Around} {E : Value → Shared → Prop} {s : Shared} {Q : Value → Shared → Prop} (ho : s.heap.get? mw = some (nextObj it))
    (h : wpAny (model prog w) A.in1 (Builtin.«list_iterator.__next__» ⟨[.ref it], []⟩) (fun fin s' => match fin with
      | .done f => (match (Except.ok f : Result) with | .ok (.ret v) => Q v s' | .ok _ => False | .error e => E e s')
      | .again c' => c'.quiet = true ∧ codeAny (model prog w) A c' (fun r s' => match r with | .ok (.ret v) => Q v s' | .ok _ => False | .error e => E e s') s') E s) : wpAny (model prog w) A (call (.ref mw) []) Q E s := by
  refine wpAny_call (codeAny_of_tree ?_)
  show wpAny _ A.in1 (callAny (.ref mw) ⟨[], []⟩) _ _ s
  simp only [callAny]
  refine wpAny_bind (wpAny_load ho ?_)
  simp only [nextObj, show (Value.type "method-wrapper" == Value.type "method" || Value.type "method-wrapper" == Value.type "builtin_function_or_method" || Value.type "method-wrapper" == Value.type "method-wrapper") = true by decide, if_true]
  refine wpAny_bind (wpAny_of_eq (a := ()) (f_nextCheck it) ?_)
  refine wpAny_bind (wpAny_pure (wpAny_pure ?_))
  refine ⟨plainId_quiet (by decide +kernel) _, codeAny_builtin entry_listiter_next ?_⟩
  rw [Around.under_plainId (id := "list_iterator.__next__") (by decide +kernel) _]
  exact h
set_option tactic.hygienic true in
theorem TC.next (hi : H[i]? = some M) (hmw : M mw = some (oNext it)) (hj : H[j]? = some N) (hit : N it = some (oLIt a n)) (hl : LV H a xs) (hx : xs[n]? = some x) (h : QV x ρ (H.set j (N.put it (oLIt a (n + 1))))) :
    TC c (.val (.ref mw)) [] ρ H QV X := fun Z s fv vs S hf hv => by
  cases hf; cases hv
  obtain ⟨o, ho, rfl⟩ := S.read hi hmw
  obtain ⟨oi, hoi, l, sl, rfl, hvr⟩ := S.read hj hit
  obtain ⟨l', us, m, e, e1, hvs⟩ := hl.obj S hvr
  cases e
  obtain ⟨v, hv, hxv⟩ := hvs.get hx
  have hv' : us[n]? = some v := by simpa using hv
  refine next_call ho ?_
  show wpAny _ _ (field (.ref it) 0 >>= _) _ _ s
  refine wpAny_bind (wpAny_field hoi rfl (x := .ref l) rfl ?_)
  show wpAny _ _ (if (Value.ref l == Value.none) = true then _ else _) _ _ s
  rw [if_neg (show ¬ ((Value.ref l == Value.none) = true) from Bool.false_ne_true)]
  show wpAny _ _ (field (.ref it) 1 >>= _) _ _ s
  refine wpAny_bind (wpAny_field hoi rfl (x := .int n 0) rfl ?_)
  show wpAny _ _ (seqItems? (.ref l) >>= _) _ _ s
  refine wpAny_bind (wpAny_seqItems e1 rfl ?_)
  simp only [Int.toNat_natCast, hv']
  refine wpAny_bind (wpAny_setField hoi rfl (by simp) (wpAny_pure ?_))
  exact ⟨x, ρ, _, Z, .refl _, hxv, S.mut hj hit (d' := oLIt a (n + 1)) (s' := { s with heap := s.heap.update it (Obj.mapFields (·.setIfInBounds 1 (rawInt ((n : Int) + 1)))) }) (fun b o hb e => (Heap.get?_update_other _ _ (Ne.symm hb)).trans e) rfl rfl
    (Heap.get?_update_self _ hoi rfl) ⟨l, sl, rfl, hvr⟩, h⟩
theorem TC.nextEnd (hh : c.A.handled = Option.none) (hi : H[i]? = some M) (hmw : M mw = some (oNext it)) (hj : H[j]? = some N) (hit : N it = some (oLIt a n)) (hl : LV H a xs) (hx : xs.length ≤ n) (h : X (.type "StopIteration") [] ρ (H.set j (N.put it (oAny fun z_ => True)))) :
    TC c (.val (.ref mw)) [] ρ H QV X := fun Z s fv vs S hf hv => by
  cases hf; cases hv
  obtain ⟨o, ho, rfl⟩ := S.read hi hmw
  obtain ⟨oi, hoi, l, sl, rfl, hvr⟩ := S.read hj hit
  obtain ⟨l', us, m, e, e1, hvs⟩ := hl.obj S hvr
  cases e
  have hv' : us[n]? = Option.none := by have := hvs.toArr; simp; lia
  refine next_call ho ?_
  show wpAny _ _ (field (.ref it) 0 >>= _) _ _ s
  refine wpAny_bind (wpAny_field hoi rfl (x := .ref l) rfl ?_)
  show wpAny _ _ (if (Value.ref l == Value.none) = true then _ else _) _ _ s
  rw [if_neg (show ¬ ((Value.ref l == Value.none) = true) from Bool.false_ne_true)]
  show wpAny _ _ (field (.ref it) 1 >>= _) _ _ s
  refine wpAny_bind (wpAny_field hoi rfl (x := .int n 0) rfl ?_)
  show wpAny _ _ (seqItems? (.ref l) >>= _) _ _ s
  refine wpAny_bind (wpAny_seqItems e1 rfl ?_)
  simp only [Int.toNat_natCast, hv']
  refine wpAny_bind (wpAny_rule (wpAny_bind (wpAny_setField hoi rfl (by simp) ?_)))
  have S1 := S.mut hj hit (d' := oAny fun z_ => True) (s' := { s with heap := s.heap.update it (Obj.mapFields (·.setIfInBounds 0 .none)) }) (fun b o hb e => (Heap.get?_update_other _ _ (Ne.symm hb)).trans e) rfl rfl
    (Heap.get?_update_self _ hoi rfl) trivial
  show wpAny _ _ (newExc (.type "StopIteration") [] >>= _) _ _ _
  refine wpAny_bind ?_
  simp only [newExc, newTuple]
  refine wpAny_bind (wpAny_newObj_type ?_ (by size_fits))
  refine wpAny_bind (m := firstArgMember _ _) (wpAny_of_eq (a := Value.none) (by first | rfl | (simp only [firstArgMember]; rfl)) ?_)
  refine wpAny_newObj_type ?_ (by size_fits)
  simp only [raiseNew]
  refine wpAny_bind (wpAny_handled ?_)
  rw [show c.A.in1.handled = Option.none from hh]
  refine wpAny_bind (wpAny_pure (wpAny_throw ?_))
  exact Exc.made (s := { s with heap := s.heap.update it (Obj.mapFields (·.setIfInBounds 0 .none)) }) S1 .nil (fun b o e => Heap.get?_push_of_some _ (Heap.get?_push_of_some _ e)) (Heap.get?_none_of_le (by rw [Heap.size_push]; exact Nat.le_succ _))
    ⟨_, Heap.get?_push_size _ rfl, Heap.get?_none_of_le (Nat.le_refl _), Heap.get?_push_of_some _ (Heap.get?_push_size _ rfl)⟩ h
theorem TE.callE {f : Expr} {pos : Pos} {args : List Expr} (he : eval (.Call f args [] pos) c.env = (do callWith pos (← eval f c.env) [] (backTo pos (starEach args c.env)) []))
    (h : TE c f ρ H (fun a ρ₁ H₁ => ∃ (mw it : Addr) (i : Nat) (M : AM), a = .ref mw ∧ H₁[i]? = some M ∧ M mw = some (oNext it) ∧ args = [] ∧ TC c (.val (.ref mw)) [] ρ₁ H₁ QV X) X) : TE c (.Call f args [] pos) ρ H QV X := fun Z s S => by
  rw [he]
  refine wpAny_bind (wpAny_mono (h Z s S) (fun v s₁ ⟨a, ρ₁, H₁, Z₁, hz, hv, S₁, mw, it, i, M, rfl', hi, hmw, ha, h₁⟩ => ?_) fun z_ z_ x => x)
  subst rfl' ha
  cases hv
  obtain ⟨o, ho, rfl⟩ := S₁.read hi hmw
  refine callWith_of (P := fun h => h.get? mw = some (nextObj it)) rfl ?_ ?_
  · intro h hq
    refine ⟨.machine, .inr (.inl rfl), ?_⟩
    unfold keeperOf
    exact (Looks.ld hq).andThen (Looks.of_pure (by simp [nextObj]))
  · exact evalArgs_nilT (wpAny_items_nil (pos := pos) (env := c.env) ⟨ho, wpLe hz (h₁ Z₁ s₁ _ _ S₁ .val .nil)⟩)
end
end Mine.Internal
end

section
open PySem PySem.W PySem.Calls PyProof.Rows
set_option Elab.async false
set_option maxRecDepth 10000
set_option linter.unusedVariables false
set_option linter.unusedSimpArgs false
namespace Mine.Internal
theorem cellsFrom_app : ∀ (names : List (Str × NameKind)) (n : Nat) (acc : List (Str × Addr)), cellsFrom n names acc = cellsFrom n names [] ++ acc
  | [], n, acc => rfl
  | (x, k) :: r, n, acc => by
    unfold cellsFrom
    split
    · rw [cellsFrom_app r (n + 1) ((x, n) :: acc), cellsFrom_app r (n + 1) [(x, n)], List.append_assoc]; rfl
    · exact cellsFrom_app r n acc
theorem lookup_relabelL {env : Env} {x : Str} : ∀ names : List (Str × NameKind), (names.map fun (n, k) => if (k == NameKind.free && env.scope.kind == .function && env.kindOf n == some .cell) then (n, NameKind.cell) else (n, k)).lookup x =
    (names.lookup x).map fun k => if (k == .free && env.scope.kind == .function && env.kindOf x == some .cell) then NameKind.cell else k
  | [] => rfl
  | (n, k) :: r => by
    have ih := lookup_relabelL (env := env) (x := x) r
    rw [List.map_cons]
    show List.lookup x ((if (k == NameKind.free && env.scope.kind == .function && env.kindOf n == some .cell) = true then (n, NameKind.cell) else (n, k)) :: _) = _
    cases hx : x == n with
    | true =>
      have e := beq_iff_eq.mp hx
      subst e
      by_cases hc : (k == NameKind.free && env.scope.kind == .function && env.kindOf x == some .cell) = true
      · rw [if_pos hc, List.lookup_cons, List.lookup_cons, hx]; exact (congrArg some (if_pos hc)).symm
      · rw [if_neg hc, List.lookup_cons, List.lookup_cons, hx]; exact (congrArg some (if_neg hc)).symm
    | false =>
      by_cases hc : (k == NameKind.free && env.scope.kind == .function && env.kindOf n == some .cell) = true
      · rw [if_pos hc, List.lookup_cons, List.lookup_cons, hx]; exact ih
      · rw [if_neg hc, List.lookup_cons, List.lookup_cons, hx]; exact ih
theorem lookup_relabel {scope : Scope} {env : Env} {x : Str} : (relabel scope env).names.lookup x = (scope.names.lookup x).map fun k => if (k == .free && env.scope.kind == .function && env.kindOf x == some .cell) then NameKind.cell else k :=
  lookup_relabelL scope.names
open Classical in
noncomputable def Cx.comp (c : Cx) (scope : Scope) (cl : List (Str × Addr)) (h : Heap) : Cx :=
  { c with
    env := { scope := relabel scope c.env, locals := h.objs.size, globals := c.env.globals, cells := cellsFrom (h.objs.size + 1) scope.names cl, qual := c.env.qual, func := Option.none, code := c.env.code, frame := c.env.frame, builtins := c.env.builtins }
    PO := fun b => if c.mine b then h.get? b else c.PO b }
section
variable {c : Cx} {ρ : AEnv} {H : AHs} {Z : ZM} {s s' : Shared} {scope : Scope} {cl : List (Str × Addr)} {h : Heap}
theorem Cx.comp_mine {b : Addr} (hm : c.mine b) : (c.comp scope cl h).PO b = h.get? b := if_pos hm
theorem Cx.comp_other {b : Addr} (hm : ¬ c.mine b) : (c.comp scope cl h).PO b = c.PO b := if_neg hm
theorem St.compBack {ρ' : AEnv} {H' : AHs} {Z' : ZM} {h' : Heap} (S : St c ρ H Z s) (ok : c.Ok) (S' : St (c.comp scope cl s.heap) ρ' H' Z' s') (hz : ZLe Z Z') (hs : Heap.SameBut s.heap.objs.size s'.heap h') :
    St c ρ H' Z' { s' with heap := h' } := by
  have hC : s.heap.get? s.heap.objs.size = Option.none := Heap.get?_none_of_le (Nat.le_refl _)
  have nm : ¬ c.mine s.heap.objs.size := S.fresh_mine hC
  have up : ∀ b o, b ≠ s.heap.objs.size → s'.heap.get? b = some o → h'.get? b = some o := fun b o hb e => (hs.2 b hb).trans e
  have po : ∀ b o, c.mine b → s.heap.get? b = some o → ∃ sl, h'.get? b = some { o with slots := sl } := fun b o hm e =>
    let ⟨sl, q, _⟩ := S'.po b o ((Cx.comp_mine hm).trans e); ⟨sl, up _ _ (fun q => nm (q ▸ hm)) q⟩
  have cellk : ∀ x b v, c.env.cells.lookup x = some b → s.heap.IsCell b v → h'.IsCell b v := by
    intro x b v hx ⟨o, e1, e2⟩
    by_cases hm : c.mine b
    · obtain ⟨sl, e3⟩ := po b o hm e1
      exact ⟨_, e3, e2⟩
    · have hpo : c.PO b ≠ Option.none := fun q => hm (.inr ⟨q, x, hx⟩)
      obtain ⟨o', hpo⟩ := Option.ne_none_iff_exists'.mp hpo
      obtain ⟨sl, q1, _⟩ := S.po b o' hpo
      rw [e1] at q1; cases q1
      obtain ⟨sl', q2, _⟩ := S'.po b o' ((Cx.comp_other hm).trans hpo)
      exact ⟨_, up _ _ (fun q => by rw [q, hC] at e1; cases e1) q2, e2⟩
  refine ⟨fun b o e => up b o (fun q => ?_) (S'.base b o e), ?_, fun x b e => let ⟨v, h⟩ := S.cells x b e; ⟨v, cellk x b v e h⟩, fun b o e => ?_, fun N hN b d e => ?_, S'.apart, fun b o e => ?_, S'.hdl, S'.gens, S'.os⟩
  · have := S.base _ _ e; rw [q, hC] at this; cases this
  · obtain ⟨m, ⟨o, es, ep, e1, e2, e3⟩, hv⟩ := S.ns
    obtain ⟨sl, e4⟩ := po _ o (.inl rfl) e1
    refine ⟨m, ⟨_, es, ep, e4, e2, e3⟩, fun x a e => ?_⟩
    obtain ⟨v, h1, h2⟩ := hv x a e
    refine ⟨v, VR.mono hz _ _ h1, ?_⟩
    rcases h2 with h2 | ⟨hc, cc, q1, q2⟩
    · exact .inl h2
    · exact .inr ⟨hc, cc, q1, cellk x cc _ q1 q2⟩
  · have hm := c.poOf ok e
    obtain ⟨sl, q1, q2⟩ := S'.po b o ((Cx.comp_other hm).trans e)
    refine ⟨sl, up _ _ (fun q => ?_) q1, q2⟩
    obtain ⟨sl', q3, _⟩ := S.po b o e
    rw [q, hC] at q3; cases q3
  · obtain ⟨⟨o, q0, q0'⟩, r1, r2, r3, r4⟩ := S'.own N hN b d e
    have hb : b ≠ s.heap.objs.size := fun q => r3 (.inl q)
    by_cases hm : c.mine b
    · rw [Cx.comp_mine hm] at r2
      obtain ⟨o', h1, _⟩ := S.mineAt hm
      rw [h1] at r2; cases r2
    · rw [Cx.comp_other hm] at r2
      exact ⟨⟨o, up _ _ hb q0, q0'⟩, r1, r2, hm, r4⟩
  · obtain ⟨q1, q2⟩ := S'.fz b o e
    refine ⟨up _ _ (fun q => ?_) q1, q2⟩
    obtain ⟨ol, es, ep, p1, p2⟩ := S'.localsLt
    have hl : (c.comp scope cl s.heap).env.locals = s.heap.objs.size := rfl
    rw [hl, ← q, q1] at p1; cases p1
    rcases q2 with ⟨_, _, q2⟩ | ⟨_, q2⟩ <;> (rw [q2] at p2; cases p2)
structure Closes (c : Cx) (scope : Scope) (cl : List (Str × Addr)) : Prop where
  clos : closureFor scope c.env = pure cl
  cells : ∀ x b, (x, b) ∈ cl → c.env.cells.lookup x = some b
  nodup : (cl.map Prod.fst).Nodup
  kind : scope.kind = .function
theorem Closes.pair (k : Closes c scope cl) (ok : c.Ok) : cl.Pairwise fun x y => x.2 ≠ y.2 := by
  have hc := k.cells
  have hn := k.nodup
  revert hc hn
  generalize cl = l
  intro hc hn
  induction l with
  | nil => exact .nil
  | cons p r ih =>
    simp only [List.map_cons, List.nodup_cons] at hn
    refine List.pairwise_cons.mpr ⟨fun q hq e => hn.1 ?_, ih (fun x b hm => hc x b (.tail _ hm)) hn.2⟩
    have h1 := hc p.1 p.2 (.head _)
    have h2 := hc q.1 q.2 (.tail _ hq)
    rw [← e] at h2
    rw [ok.cellI _ _ _ h1 h2]
    exact List.mem_map_of_mem hq
theorem freshCells (names : List (Str × NameKind)) (h : Heap) (o : Obj) : CellsOk (pushCells (h.push o) names) (h.objs.size + 1) (cellsFrom (h.objs.size + 1) names []) := by
  have ok := cellsFrom_ok names (h.push o) (h.objs.size + 1) [] ⟨fun z_ z_ hm => (nomatch hm), List.Pairwise.nil⟩ (by rw [Heap.size_push]; exact Nat.le_refl _)
  rwa [Heap.size_push] at ok
theorem lookup_append {α : Type} {x : Str} : ∀ (l l' : List (Str × α)), (l ++ l').lookup x = (l.lookup x).or (l'.lookup x)
  | [], l' => rfl
  | (y, a) :: r, l' => by
    rw [List.cons_append, List.lookup_cons, List.lookup_cons]
    cases x == y with
    | true => rfl
    | false => exact lookup_append r l'
theorem lookup_none_of {α : Type} {x : Str} : ∀ {l : List (Str × α)}, x ∉ l.map Prod.fst → l.lookup x = Option.none
  | [], _ => rfl
  | (y, a) :: r, h => by
    simp only [List.map_cons, List.mem_cons, not_or] at h
    have : (x == y) = false := by simpa using h.1
    rw [List.lookup_cons, this]; exact lookup_none_of h.2
set_option tactic.hygienic true in
theorem cellsFrom_mem {x : Str} {b : Addr} : ∀ {names : List (Str × NameKind)} {n : Nat}, (x, b) ∈ cellsFrom n names [] → (x, NameKind.cell) ∈ names
  | [], n, h => by cases h
  | (y, k) :: r, n, h => by
    unfold cellsFrom at h
    split at h
    · rename_i hk
      rw [cellsFrom_app, List.mem_append] at h
      rcases h with h | h
      · exact .tail _ (cellsFrom_mem h)
      · simp at h; obtain ⟨rfl, rfl⟩ := h
        have : k = .cell := by simpa using hk
        subst this; exact .head _
    · exact .tail _ (cellsFrom_mem h)
theorem mem_names {names : List (Str × NameKind)} (hn : (names.map Prod.fst).Nodup) {x : Str} {k k' : NameKind} (h : (x, k) ∈ names) (h' : names.lookup x = some k') : k = k' := by
  induction names with
  | nil => cases h
  | cons p r ih =>
    obtain ⟨y, q⟩ := p
    simp only [List.map_cons, List.nodup_cons] at hn
    rw [List.lookup_cons] at h'
    cases hx : x == y with
    | true =>
      rw [hx] at h'; cases h'
      have e := beq_iff_eq.mp hx
      subst e
      rcases List.mem_cons.mp h with e | h
      · cases e; rfl
      · exact absurd (List.mem_map.mpr ⟨_, h, rfl⟩) hn.1
    | false =>
      rw [hx] at h'
      rcases List.mem_cons.mp h with e | h
      · cases e; simp at hx
      · exact ih hn.2 h h'
theorem St.compEnter {ρ0 : AEnv} (S : St c ρ H Z s) (ok : c.Ok) (k : Closes c scope cl) (hnn : (scope.names.map Prod.fst).Nodup)
    (hρ : ∀ x a, ρ0.lookup x = some a → ρ.lookup x = some a ∧ ∃ b, cl.lookup x = some b ∧ scope.names.lookup x = some .free ∧ c.env.kindOf x = some .cell) :
    (c.comp scope cl s.heap).Ok ∧ St (c.comp scope cl s.heap) ρ0 H Z { s with heap := pushCells (s.heap.push { cls := .type "dict", data := .dict #[] }) scope.names } := by
  have hkeep : ∀ b o, s.heap.get? b = some o → (pushCells (s.heap.push { cls := .type "dict", data := .dict #[] }) scope.names).get? b = some o := fun b o e => pushCells_keeps _ _ b o (Heap.get?_push_of_some _ e)
  have hLsz : c.base.objs.size ≤ s.heap.objs.size := by
    obtain ⟨o, es, ep, e1, _⟩ := S.localsLt
    exact Nat.le_trans ok.above (Nat.le_of_lt (Heap.lt_size e1))
  have hfreshL : s.heap.get? s.heap.objs.size = Option.none := Heap.get?_none_of_le (Nat.le_refl _)
  have nm : ¬ c.mine s.heap.objs.size := S.fresh_mine hfreshL
  have ff : ∀ b, s.heap.objs.size ≤ b → c.PO b = Option.none := fun b hb => by
    cases q : c.PO b with
    | none => rfl
    | some o => obtain ⟨sl, h, _⟩ := S.po _ _ q; rw [Heap.get?_none_of_le hb] at h; cases h
  have fresh := freshCells scope.names s.heap { cls := .type "dict", data := .dict #[] }
  have hcells : (c.comp scope cl s.heap).env.cells = cellsFrom (s.heap.objs.size + 1) scope.names [] ++ cl := cellsFrom_app ..
  have clB : ∀ x b, (x, b) ∈ cl → b < s.heap.objs.size := fun x b hm => by
    obtain ⟨v, o, e, _⟩ := S.cells x b (k.cells x b hm)
    exact Heap.lt_size e
  have both : ∀ x b, (c.comp scope cl s.heap).env.cells.lookup x = some b → (x, b) ∈ cellsFrom (s.heap.objs.size + 1) scope.names [] ∨ (x, b) ∈ cl := fun x b e => by
    rw [hcells] at e
    rcases List.mem_append.mp (mem_of_lookup e) with h | h
    · exact .inl h
    · exact .inr h
  have hpair : ((c.comp scope cl s.heap).env.cells).Pairwise fun x y => x.2 ≠ y.2 := by
    rw [hcells]
    refine List.pairwise_append.mpr ⟨fresh.apart, k.pair ok, fun p hp q hq e => ?_⟩
    have h1 := (fresh.empty p.1 p.2 hp).2
    have h2 := clB q.1 q.2 hq
    rw [← e] at h2
    exact absurd h2 (Nat.not_lt.mpr (Nat.le_of_succ_le h1))
  constructor
  · refine ⟨ok.glb, k.kind, ok.globals, ok.builtins, ok.frame, ok.frames, ok.frK, ?_, hLsz, (Cx.comp_other nm).trans (ff _ (Nat.le_refl _)), ?_, ?_, ?_, ?_, ok.room, ok.units⟩
    · obtain ⟨L, q1, q2, q3⟩ := ok.frL
      refine ⟨L, q1, q2, .inr ?_⟩
      rcases q3 with rfl | ⟨o, q3, q4⟩
      · obtain ⟨o, es, ep, e1, e2⟩ := S.localsLt
        exact ⟨o, (Cx.comp_mine (.inl rfl)).trans e1, es, ep, e2⟩
      · exact ⟨o, (Cx.comp_other (c.poOf ok q3)).trans q3, q4⟩
    · intro e he
      obtain ⟨q0, L, o, q1, q2, q3, q4⟩ := ok.outs e he
      exact ⟨q0, L, o, q1, q2, (Cx.comp_other (c.poOf ok q3)).trans q3, q4⟩
    · intro b o e
      by_cases hm : c.mine b
      · rcases hm with rfl | ⟨_, y, hy⟩
        · exact ok.baseLoc
        · exact (ok.cellB y b hy).1
      · exact ok.poB b o ((Cx.comp_other hm).symm.trans e)
    · intro y z b e1 e2
      exact name_of_addr hpair (mem_of_lookup e1) (mem_of_lookup e2)
    · intro y b e
      rcases both y b e with h | h
      · have := (fresh.empty y b h).2
        exact ⟨Heap.get?_none_of_le (by show c.base.objs.size ≤ b; (exact Nat.le_of_lt (Nat.lt_of_le_of_lt (by assumption) (by assumption)))), Nat.ne_of_gt (by show s.heap.objs.size < b; assumption)⟩
      · exact ⟨(ok.cellB y b (k.cells y b h)).1, Nat.ne_of_lt (clB y b h)⟩
  · have hns : (pushCells (s.heap.push { cls := .type "dict", data := .dict #[] }) scope.names).Ns s.heap.objs.size (fun z_ => Option.none) := (Heap.Ns.new s.heap (.type "dict")).keeps (pushCells_keeps _ _)
    refine ⟨fun b o e => hkeep b o (S.base b o e), ⟨_, hns, fun x a e => ?_⟩, fun x b e => ?_, fun b o e => ?_, fun N hN b d e => ?_, S.apart, fun b o e => ?_, S.hdl, S.gens, S.os⟩
    · obtain ⟨h1, b, h2, h3, h4⟩ := hρ x a e
      obtain ⟨m, hn, hv⟩ := S.ns
      obtain ⟨v, q1, q2⟩ := hv x a h1
      refine ⟨v, q1, .inr ⟨.inl ?_, b, ?_, ?_⟩⟩
      · show (relabel scope c.env).names.lookup x = some .cell
        rw [lookup_relabel, h3]
        simp [ok.kind, h4]
      · rw [hcells, lookup_append, lookup_none_of, Option.none_or]; exact h2
        intro hm
        obtain ⟨⟨x', b'⟩, hm1, hm2⟩ := List.mem_map.mp hm
        simp only at hm2
        subst hm2
        have := mem_names hnn (cellsFrom_mem hm1) h3
        cases this
      · rcases q2 with ⟨q3, _⟩ | ⟨_, cc, q4, o, q5, q6⟩
        · rw [h4] at q3; cases q3
        · have := k.cells x b (mem_of_lookup h2)
          rw [this] at q4; cases q4
          exact ⟨o, hkeep _ _ q5, q6⟩
    · rcases both x b e with h | h
      · exact ⟨_, (fresh.empty x b h).1⟩
      · obtain ⟨v, o, e1, e2⟩ := S.cells x b (k.cells x b h)
        exact ⟨v, o, hkeep _ _ e1, e2⟩
    · by_cases hm : c.mine b
      · refine ⟨o.slots, hkeep b o ((Cx.comp_mine hm).symm.trans e), ?_, fun z_ => rfl⟩
        obtain ⟨o', q1, q2⟩ := S.mineAt hm
        cases qz : Z b with
        | none => rfl
        | some oz =>
          obtain ⟨q3, q4⟩ := S.fz b oz qz
          rw [q1] at q3; cases q3
          exact absurd q4 q2
      · obtain ⟨sl, q, q2⟩ := S.po b o ((Cx.comp_other hm).symm.trans e)
        exact ⟨sl, hkeep b _ q, q2⟩
    · obtain ⟨⟨o, q1, q2⟩, r1, r2, r3, r4⟩ := S.own N hN b d e
      refine ⟨⟨o, hkeep b o q1, q2⟩, r1, (Cx.comp_other r3).trans r2, ?_, r4⟩
      have hlt := Heap.lt_size q1
      rintro (q | ⟨qp, y, q⟩)
      · have q' : b = s.heap.objs.size := q
        exact absurd hlt (by rw [q']; exact Nat.lt_irrefl _)
      · rcases both y b q with h | h
        · exact absurd hlt (Nat.not_lt.mpr (Nat.le_of_succ_le (fresh.empty y b h).2))
        · have hy := k.cells y b h
          exact r3 (.inr ⟨r2, y, hy⟩)
    · obtain ⟨q1, q2⟩ := S.fz b o e
      exact ⟨hkeep b o q1, q2⟩
theorem compEnv_T {ρ0 : AEnv} {M : Model} {A : Around} {E : Value → Shared → Prop} {Q : Env → Shared → Prop} (S : St c ρ H Z s) (ok : c.Ok) (k : Closes c scope cl) (hnn : (scope.names.map Prod.fst).Nodup)
    (hρ : ∀ x a, ρ0.lookup x = some a → ρ.lookup x = some a ∧ ∃ b, cl.lookup x = some b ∧ scope.names.lookup x = some .free ∧ c.env.kindOf x = some .cell)
    (h : ∀ env s', { env with scope := relabel scope c.env } = (c.comp scope cl s.heap).env → env.locals = s.heap.objs.size → (c.comp scope cl s.heap).Ok → St (c.comp scope cl s.heap) ρ0 H Z s' → Q env s') :
    wpAny M A (newFunctionEnv scope c.env.globals cl [] c.env.qual Option.none .none (some c.env)) Q E s := by
  obtain ⟨okc, Sc⟩ := S.compEnter ok k hnn hρ
  simp only [newFunctionEnv, Option.isSome_some, if_true]
  refine wpAny_bind (wpAny_alloc ?_)
  refine wpAny_bind (wpAny_layCells _ (fun name kind cells => by cases hkc : kind == NameKind.cell <;> simp [hkc]) _ _ _ _ ?_)
  rw [show ({ s with heap := s.heap.push { cls := .type "dict", data := .dict #[] } } : Shared).heap.objs.size = s.heap.objs.size + 1 from Heap.size_push ..]
  refine wpAny_bind ?_
  show wpAny _ _ (pure _) _ _ _
  exact wpAny_pure (wpAny_pure (h _ _ rfl rfl okc Sc))
end
end Mine.Internal
end

section
open PySem PySem.W PySem.Calls PyProof.Rows
set_option Elab.async false
set_option maxRecDepth 10000
set_option linter.unusedVariables false
set_option linter.unusedSimpArgs false
namespace Mine.Internal
structure CFun (c : Cx) : Prop where
  ok : c.Ok
  cell : ∀ x, c.env.kindOf x = some .cell → ∃ b, c.env.cells.lookup x = some b
theorem Fun.cf {c : Cx} {sc : Scope} (F : Fun c sc) : CFun c := ⟨F.ok, fun x h => F.cell x ((F.kind x).symm.trans h)⟩
section
variable {c : Cx} {scope : Scope}
theorem closure_ex : ∀ (names : List (Str × NameKind)) (acc : List (Str × Addr)), (names.map Prod.fst).Nodup → (∀ x, (x, NameKind.free) ∈ names → ∃ b, c.env.cells.lookup x = some b) → (∀ p ∈ acc, p.1 ∉ names.map Prod.fst) → (acc.map Prod.fst).Nodup → (∀ x b, (x, b) ∈ acc → c.env.cells.lookup x = some b) →
    ∃ cl, (forIn names acc fun (p : Str × NameKind) cs => if p.2 == NameKind.free then (do let a ← cellOf c.env p.1; pure (ForInStep.yield ((p.1, a) :: cs))) else pure (ForInStep.yield cs) : Sem (List (Str × Addr))) = pure cl ∧ (cl.map Prod.fst).Nodup ∧ (∀ x b, (x, b) ∈ cl → c.env.cells.lookup x = some b) ∧
      (∀ x, (x, NameKind.free) ∈ names → ∃ b, (x, b) ∈ cl) ∧ ∀ p ∈ acc, p ∈ cl
  | [], acc, _, _, _, h1, h2 => ⟨acc, rfl, h1, h2, fun x h => (by cases h), fun p h => h⟩
  | (n, k) :: r, acc, hn, hf, ha, h1, h2 => by
    simp only [List.map_cons, List.nodup_cons] at hn
    rw [List.forIn_cons]
    by_cases hk : k = .free
    · subst hk
      obtain ⟨b, hb⟩ := hf n (.head _)
      have e : cellOf c.env n = pure b := by unfold cellOf; rw [hb]
      obtain ⟨cl, q1, q2, q3, q4, q5⟩ := closure_ex r ((n, b) :: acc) hn.2 (fun x h => hf x (.tail _ h)) (fun p hp => by
        rcases List.mem_cons.mp hp with rfl | hp
        · exact hn.1
        · exact fun h => ha p hp (.tail _ h)) (by
        simp only [List.map_cons, List.nodup_cons]
        refine ⟨fun h => ?_, h1⟩
        obtain ⟨p, hp, e⟩ := List.mem_map.mp h
        exact ha p hp (by rw [e]; exact .head _)) (fun x b' h => by
        rcases List.mem_cons.mp h with e | h
        · cases e; exact hb
        · exact h2 x b' h)
      refine ⟨cl, ?_, q2, q3, fun x h => ?_, fun p hp => q5 p (.tail _ hp)⟩
      · simp only [beq_self_eq_true, if_true, e]
        exact q1
      · rcases List.mem_cons.mp h with e | h
        · cases e; exact ⟨b, q5 _ (.head _)⟩
        · exact q4 x h
    · obtain ⟨cl, q1, q2, q3, q4, q5⟩ := closure_ex r acc hn.2 (fun x h => hf x (.tail _ h)) (fun p hp h => ha p hp (.tail _ h)) h1 h2
      have hk' : (k == NameKind.free) = false := by simpa using hk
      refine ⟨cl, ?_, q2, q3, fun x h => ?_, q5⟩
      · simp only [hk', Bool.false_eq_true, if_false]
        exact q1
      · rcases List.mem_cons.mp h with e | h
        · cases e; exact absurd rfl hk
        · exact q4 x h
theorem mem_lookup {α : Type} {l : List (Str × α)} (hn : (l.map Prod.fst).Nodup) {x : Str} {a : α} (h : (x, a) ∈ l) : l.lookup x = some a := by
  induction l with
  | nil => cases h
  | cons p r ih =>
    obtain ⟨y, b⟩ := p
    simp only [List.map_cons, List.nodup_cons] at hn
    rw [List.lookup_cons]
    rcases List.mem_cons.mp h with e | hr
    · cases e; simp
    · have : (x == y) = false := by
        simp only [beq_eq_false_iff_ne]
        intro e; subst e
        exact hn.1 (List.mem_map.mpr ⟨(x, a), hr, rfl⟩)
      rw [this]; exact ih hn.2 hr
theorem Closes.ex (hk : scope.kind = .function) (hnn : (scope.names.map Prod.fst).Nodup) (hf : ∀ x, (x, NameKind.free) ∈ scope.names → ∃ b, c.env.cells.lookup x = some b) :
    ∃ cl, Closes c scope cl ∧ ∀ x, scope.names.lookup x = some .free → ∃ b, cl.lookup x = some b := by
  obtain ⟨cl, q1, q2, q3, q4, _⟩ := closure_ex (c := c) scope.names [] hnn hf (fun z_ h => (by cases h)) .nil (fun z_ z_ h => (by cases h))
  refine ⟨cl, ⟨?_, q3, q2, hk⟩, fun x h => ?_⟩
  · unfold closureFor
    show (do let cs ← forIn scope.names [] _; pure cs) = pure cl
    have e : (forIn scope.names ([] : List (Str × Addr)) fun (x : Str × NameKind) (cs : List (Str × Addr)) => (match x with | (name, kind) => do if kind == NameKind.free then (do let a ← cellOf c.env name; pure (ForInStep.yield ((name, a) :: cs))) else pure (ForInStep.yield cs) : Sem _)) = pure cl := q1
    first
      | exact (congrArg (· >>= fun cs => pure cs) e)
      | (rw [e]; rfl)
  · obtain ⟨b, hb⟩ := q4 x (mem_of_lookup h)
    exact ⟨b, mem_lookup q2 hb⟩
end
noncomputable def Selfs {c : Cx} {P : AHs → Prop} {xs : List AV} (J : Itr c P xs) : Prop := ∀ n ρ H Z s it (Q : Value → Shared → Prop) E, St c ρ (one it (J.at_ n) :: H) Z s → Q (.ref it) s → wpAny (model c.prog c.w) c.A (pyIter (.ref it)) Q E s
noncomputable def TIfs (c : Cx) : List Expr → AEnv → AHs → (Bool → AEnv → AHs → Prop) → AX → Prop
  | [], ρ, H, Q, _ => Q true ρ H
  | t :: ts, ρ, H, Q, X => TB c t ρ H (fun b ρ₁ H₁ => if b then TIfs c ts ρ₁ H₁ Q X else Q false ρ₁ H₁) X
section
variable {c : Cx} {ρ : AEnv} {H : AHs} {Z : ZM} {s : Shared} {X : AX}
theorem ifs_false {M : Model} {A : Around} {E : Value → Shared → Prop} {env : Env} {Q : Bool → Shared → Prop} : ∀ (ts : List Expr) (s : Shared), Q false s →
    wpAny M A (forIn ts false fun c r => if r = true then do let ok ← isTrue c env (eval c env); pure (ForInStep.yield ok) else pure (ForInStep.yield r)) Q E s
  | [], s, h => by rw [List.forIn_nil]; exact wpAny_pure h
  | t :: ts, s, h => by
    rw [List.forIn_cons, if_neg (by decide)]
    exact wpAny_bind (wpAny_pure (ifs_false ts s h))
theorem ifs_T : ∀ {ts : List Expr} {ρ : AEnv} {H : AHs} {Z : ZM} {s : Shared} {QB : Bool → AEnv → AHs → Prop}, TIfs c ts ρ H QB X → St c ρ H Z s →
    wpAny (model c.prog c.w) c.A (forIn ts true fun t r => if r = true then do let ok ← isTrue t c.env (eval t c.env); pure (ForInStep.yield ok) else pure (ForInStep.yield r)) (Post c rBool Z QB) (Exc c Z X) s
  | [], ρ, H, Z, s, QB, h, S => by rw [List.forIn_nil]; exact wpAny_pure (Post.now (b := true) S rfl h)
  | t :: ts, ρ, H, Z, s, QB, h, S => by
    rw [List.forIn_cons, if_pos rfl]
    refine wpAny_bind (wpAny_bind (wpAny_mono (h Z s S) (fun b s₁ ⟨b', ρ₁, H₁, Z₁, hz, hf, S₁, h₁⟩ => wpAny_pure ?_) fun z_ z_ x => x))
    cases hf
    cases b with
    | true => exact wpLe hz (ifs_T (by simpa using h₁) S₁)
    | false => exact ifs_false ts _ ⟨false, ρ₁, H₁, Z₁, hz, rfl, S₁, by simpa using h₁⟩
set_option tactic.hygienic true in
noncomputable def TurnIs (elt target : Expr) (ifs : List Expr) (gens : List Comprehension) (scope : Scope) (pos : Pos) (dp : Nat) (env : Env) : Prop := ∃ p0 : Pos, ∀ it acc, compTurn (.ListComp elt gens scope pos) dp it acc env = (do
      standAt p0
      match ← pyNext it with
      | Option.none => pure (.done .next)
      | some v =>
        letOwnedTupleGo target it v
        assign target env v
        let mut ok := true
        for c in ifs do
          if ok then ok ← isTrue c env (eval c env)
        if ok then
          (do let _ ← call (.builtin "list.append") [acc, ← eval elt env])
        again (.compLoop (.ListComp elt gens scope pos) dp it acc env))
theorem compTurn_item {P : AHs → Prop} {xs : List AV} {elt target : Expr} {ifs : List Expr} {gens : List Comprehension} {dp : Nat} {scope : Scope} {pos : Pos} {it D : Addr} {k : Nat} {ys : List AV} {QF : Fin → Shared → Prop} {EF : Value → Shared → Prop} (ht : TurnIs elt target ifs gens scope pos dp c.env) (J : Itr c P xs) (htg : J.tg target)
    (I : Nat → List AV → AEnv → AHs → Prop) (hP : ∀ n ys ρ H M, I n ys ρ H → P (M :: H)) (hlen : ∀ n ys ρ H, I n ys ρ H → ys.length ≤ 1000000)
    (hb : ∀ n a ys ρ H it o D oD, xs[n]? = some a → I n ys ρ H → Free c it → Free (c.hold it o) D → TA ((c.hold it o).hold D oD) target a ρ H (fun z_ ρ₁ H₁ => TIfs ((c.hold it o).hold D oD) ifs ρ₁ H₁ (fun b ρ₂ H₂ =>
      if b then TE ((c.hold it o).hold D oD) elt ρ₂ H₂ (fun y ρ₃ H₃ => I (n + 1) (ys ++ [y]) ρ₃ H₃) noX else I (n + 1) ys ρ₂ H₂) noX) noX)
    (hlt : k < xs.length) (hI : I k ys ρ H) (S : St c ρ (one it (J.at_ k) :: one D (oList ys) :: H) Z s)
    (hA : ∀ ys' ρ' H' Z' s', ZLe Z Z' → St c ρ' (one it (J.at_ (k + 1)) :: one D (oList ys') :: H') Z' s' → I (k + 1) ys' ρ' H' → QF (.again (.compLoop (.ListComp elt gens scope pos) dp (.ref it) (.ref D) c.env)) s') :
    wpAny (model c.prog c.w) c.A (compTurn (.ListComp elt gens scope pos) dp (.ref it) (.ref D) c.env) QF EF s := by
  have f := S.free
  have noE : ∀ {cc : Cx} {e : Value} {s' : Shared} {Z' : ZM} {EE : Value → Shared → Prop}, Exc cc Z' noX e s' → EE e s' := fun ⟨_, _, _, _, _, _, _, _, _, _, _, h⟩ => h.elim
  have hx : xs[k]? = some xs[k] := by simp [hlt]
  obtain ⟨p0, ht0⟩ := ht
  rw [ht0]
  refine wpAny_bind (wpAny_standAt (wpAny_bind ?_))
  refine wpAny_mono (J.step k _ hx target ρ _ Z s it (fun v s₂ => wpAny (model c.prog c.w) c.A (assign target c.env v >>= fun z_ => (forIn ifs true fun t r => if r = true then do let ok ← isTrue t c.env (eval t c.env); pure (ForInStep.yield ok) else pure (ForInStep.yield r)) >>= fun ok =>
      if ok = true then (eval elt c.env >>= fun x => call (.builtin "list.append") [.ref D, x] >>= fun z_ => pure ()) >>= fun z_ => again (.compLoop (.ListComp elt gens scope pos) dp (.ref it) (.ref D) c.env)
      else again (.compLoop (.ListComp elt gens scope pos) dp (.ref it) (.ref D) c.env)) QF EF s₂) EF htg S (hP _ _ _ _ _ hI) fun v s₁' Z₁' hz₁ hv S₀ => ?_) (fun r s₁ h => ?_) fun z_ z_ x => x
  · obtain ⟨o', ho', hat'⟩ := S₀.read (i := 0) (a := it) rfl (by simp [one]; rfl)
    have S1 := S₀.hold ho'
    have fD := S1.free
    obtain ⟨oD, hoD, hrD⟩ := S1.read (i := 0) (a := D) rfl (by simp [one]; rfl)
    have S2 := S1.hold hoD
    have hnd : ∀ es ep, oD.data ≠ .dict es ep := by
      obtain ⟨us, m, rfl, _⟩ := hrD
      intro es ep q; cases q
    have hnit : ∀ es ep, o'.data ≠ .dict es ep := by
      obtain ⟨vs', hvs'⟩ := J.data _ _ _ hat'
      intro es ep q; rw [hvs'] at q; cases q
    have back : ∀ {ρ₃ H₃ Z₃ s₃}, ZLe Z₁' Z₃ → St ((c.hold it o').hold D oD) ρ₃ H₃ Z₃ s₃ → St (c.hold it o') ρ₃ (one D (oList ys) :: H₃) Z₃ s₃ := by
      intro ρ₃ H₃ Z₃ s₃ hz₃ S₃
      have Sx := S₃.unhold fD
      obtain ⟨o4, e4, h4⟩ := Sx.read (i := 0) (a := D) rfl (by simp [one]; rfl)
      obtain rfl : o4 = oD := h4 hnd
      exact Sx.moved (t := s₃.toks) (fun b o z_ e => e) e4 ((oList ys).mono _ _ _ hz₃ hrD)
    have back2 : ∀ {ρ₃ H₃ Z₃ s₃ zs}, ZLe Z₁' Z₃ → St (c.hold it o') ρ₃ (one D (oList zs) :: H₃) Z₃ s₃ → St c ρ₃ (one it (J.at_ (k + 1)) :: one D (oList zs) :: H₃) Z₃ s₃ := by
      intro ρ₃ H₃ Z₃ s₃ zs hz₃ S₃
      have Sx := S₃.unhold f
      obtain ⟨o4, e4, h4⟩ := Sx.read (i := 0) (a := it) rfl (by simp [one]; rfl)
      obtain rfl : o4 = o' := h4 hnit
      exact Sx.moved (t := s₃.toks) (fun b o z_ e => e) e4 ((J.at_ (k + 1)).mono _ _ _ hz₃ hat')
    refine wpAny_bind (wpAny_mono (hb k _ ys ρ H it o' D oD hx hI f fD Z₁' _ v S2 hv) (fun _ s₁ ⟨_, ρ₁, H₁, Z₂, hz₂, _, S₁, h₁⟩ => ?_) fun z_ z_ x => noE x)
    refine wpAny_bind (wpAny_mono (ifs_T (c := (c.hold it o').hold D oD) h₁ S₁) (fun b s₂ ⟨b', ρ₂, H₂, Z₃, hz₃, hf, S₂, h₂⟩ => ?_) fun z_ z_ x => noE x)
    cases hf
    cases b with
    | false =>
      simp only [Bool.false_eq_true, if_false] at h₂ ⊢
      exact wpAny_pure (hA ys ρ₂ H₂ Z₃ s₂ ((hz₁.trans hz₂).trans hz₃) (back2 (hz₂.trans hz₃) (back (hz₂.trans hz₃) S₂)) h₂)
    | true =>
      simp only [if_true] at h₂ ⊢
      refine wpAny_bind (wpAny_bind (wpAny_mono (h₂ Z₃ s₂ S₂) (fun x s₃ ⟨y, ρ₃, H₃, Z₄, hz₄, hy, S₃, h₃⟩ => ?_) fun z_ z_ x => noE x))
      have hz24 := (hz₂.trans hz₃).trans hz₄
      have Sa := back hz24 S₃
      have ap := TC.append (c := c.hold it o') (X := noX) (i := 0) (M := one D (oList ys)) (l := D) (xs := ys) (a := y) (ρ := ρ₃) (H := one D (oList ys) :: H₃) rfl (by simp [one]) (hlen _ _ _ _ hI)
        (QV := fun z_ ρ' H' => ρ' = ρ₃ ∧ H' = one D (oList (ys ++ [y])) :: H₃) ⟨rfl, by simp [one_put]⟩
      refine wpAny_bind (wpAny_mono (ap Z₄ s₃ _ _ Sa .val (.cons .val (.cons hy .nil))) (fun _ s₄ ⟨_, ρ₄, H₄, Z₅, hz₅, _, S₄, e1, e2⟩ => ?_) fun z_ z_ x => noE x)
      subst e2
      rw [e1] at S₄
      exact wpAny_pure (wpAny_pure (hA (ys ++ [y]) ρ₃ H₃ Z₅ s₄ ((hz₁.trans hz24).trans hz₅) (back2 (hz24.trans hz₅) S₄) h₃))
  · cases r with
    | none => exact h.elim
    | some v => exact wpAny_bind h
set_option tactic.hygienic true in
theorem compLoop_T {P : AHs → Prop} {xs : List AV} {elt target : Expr} {ifs : List Expr} {gens : List Comprehension} {dp : Nat} {scope : Scope} {pos : Pos} {it D : Addr} {ys0 : List AV} {R : Result → Shared → Prop} (ht : TurnIs elt target ifs gens scope pos dp c.env) (J : Itr c P xs) (htg : J.tg target)
    (I : Nat → List AV → AEnv → AHs → Prop) (hP : ∀ n ys ρ H M, I n ys ρ H → P (M :: H)) (hlen : ∀ n ys ρ H, I n ys ρ H → ys.length ≤ 1000000)
    (hb : ∀ n a ys ρ H it o D oD, xs[n]? = some a → I n ys ρ H → Free c it → Free (c.hold it o) D → TA ((c.hold it o).hold D oD) target a ρ H (fun _ ρ₁ H₁ => TIfs ((c.hold it o).hold D oD) ifs ρ₁ H₁ (fun b ρ₂ H₂ =>
      if b then TE ((c.hold it o).hold D oD) elt ρ₂ H₂ (fun y ρ₃ H₃ => I (n + 1) (ys ++ [y]) ρ₃ H₃) noX else I (n + 1) ys ρ₂ H₂) noX) noX)
    (hR : ∀ ys ρ H Z₁ s', ZLe Z Z₁ → I xs.length ys ρ H → St c ρ (one D (oList ys) :: H) Z₁ s' → R (.ok .next) s') (h0 : I 0 ys0 ρ H) (S : St c ρ (one it (J.at_ 0) :: one D (oList ys0) :: H) Z s) :
    codeAny (model c.prog c.w) c.A (.compLoop (.ListComp elt gens scope pos) dp (.ref it) (.ref D) c.env) R s := by
  refine codeAny_loop rfl (fun n s => ∃ k ys ρ H Z₁, n + k = xs.length + 1 ∧ k ≤ xs.length ∧ ZLe Z Z₁ ∧ St c ρ (one it (J.at_ k) :: one D (oList ys) :: H) Z₁ s ∧ I k ys ρ H) (fun n s ⟨k, ys, ρ, H, Z₁, hk, hkl, hz, S, hI⟩ => ?_) (xs.length + 1) ⟨0, ys0, ρ, H, Z, rfl, Nat.zero_le _, .refl _, S, h0⟩
  show wpAny _ c.A ((compTurn (.ListComp elt gens scope pos) dp (.ref it) (.ref D) c.env).onRaise (fun x => do noteFrame x c.env; theTreesLotGoes x)) _ _ s
  refine wpAny_noted ?_
  by_cases hlt : k < xs.length
  · exact compTurn_item ht J htg I hP hlen hb hlt hI S fun ys' ρ' H' Z' s' hz' S' hI' => ⟨rfl, n - 1, by lia, k + 1, ys', ρ', H', Z', by lia, by assumption, hz.trans hz', S', hI'⟩
  · have hk0 : k = xs.length := by lia
    subst hk0
    obtain ⟨p0, ht0⟩ := ht
    rw [ht0]
    refine wpAny_bind (wpAny_standAt (wpAny_bind ?_))
    refine J.stop ρ _ Z₁ s it _ _ S (hP _ _ _ _ _ hI) fun s' S' => ?_
    exact wpAny_pure (hR ys ρ H Z₁ s' hz hI S')
end
end Mine.Internal
end

section
open PySem PySem.W PySem.Calls PyProof.Rows
set_option Elab.async false
set_option maxRecDepth 10000
set_option linter.unusedVariables false
set_option linter.unusedSimpArgs false
namespace Mine.Internal
section
variable {c : Cx} {ρ : AEnv} {H : AHs} {Z : ZM} {s : Shared} {X : AX} {QV : AV → AEnv → AHs → Prop} {scope : Scope} {cl : List (Str × Addr)}
structure CIn (c : Cx) (scope : Scope) (cc : Cx) : Prop where
  cf : CFun cc
  stores : ∀ x, scope.names.lookup x = some .local ∨ scope.names.lookup x = some .cell → cc.Stores x
  kind : ∀ x k, scope.names.lookup x = some k → k ≠ .free → cc.env.kindOf x = some k
  free : ∀ x, scope.names.lookup x = some .free → c.env.kindOf x = some .cell → cc.env.kindOf x = some .cell
theorem CIn.hold {cc : Cx} {b : Addr} {o : Obj} (k : CIn c scope cc) (f : Free cc b) : CIn c scope (cc.hold b o) := by
  refine ⟨⟨f.ok k.cf.ok, k.cf.cell⟩, fun x hx => ?_, k.kind, k.free⟩
  rcases k.stores x hx with h | ⟨h1, b', h2, h3⟩
  · exact .inl h
  · exact .inr ⟨h1, b', h2, (if_neg (f.cell h2)).trans h3⟩
theorem CIn.comp (S : St c ρ H Z s) (hfk : c.env.scope.kind = .function) (okc : (c.comp scope cl s.heap).Ok) (hcl : ∀ x, scope.names.lookup x = some .free → ∃ b, cl.lookup x = some b) : CIn c scope (c.comp scope cl s.heap) := by
  have hcells : (c.comp scope cl s.heap).env.cells = cellsFrom (s.heap.objs.size + 1) scope.names [] ++ cl := cellsFrom_app ..
  have hkd : ∀ x, (c.comp scope cl s.heap).env.kindOf x = (scope.names.lookup x).map fun k => if (k == .free && c.env.scope.kind == .function && c.env.kindOf x == some .cell) then NameKind.cell else k := fun x => lookup_relabel
  have newc : ∀ x, scope.names.lookup x = some .cell → ∃ b, (cellsFrom (s.heap.objs.size + 1) scope.names []).lookup x = some b := fun x h => Option.isSome_iff_exists.mp (cellsFrom_some scope.names (s.heap.objs.size + 1) [] (.inl h))
  refine ⟨⟨okc, fun x h => ?_⟩, fun x hx => ?_, fun x k h hk => ?_, fun x h hc => by rw [hkd, h, hfk, hc]; rfl⟩
  · rw [hkd] at h
    cases q : scope.names.lookup x with
    | none => rw [q] at h; cases h
    | some k =>
      rw [q] at h
      simp only [Option.map_some, Option.some.injEq] at h
      rw [hcells, lookup_append]
      by_cases hf : k = .free
      · subst hf
        obtain ⟨b, hb⟩ := hcl x q
        rw [hb]
        cases (cellsFrom (s.heap.objs.size + 1) scope.names []).lookup x with
        | none => exact ⟨b, rfl⟩
        | some b' => exact ⟨b', rfl⟩
      · have hf' : (k == NameKind.free) = false := by simpa using hf
        rw [hf'] at h
        simp at h
        subst h
        obtain ⟨b, hb⟩ := newc x q
        rw [hb]; exact ⟨b, rfl⟩
  · rcases hx with h | h
    · left; rw [hkd, h]; rfl
    · right
      obtain ⟨b, hb⟩ := newc x h
      refine ⟨by rw [hkd, h]; rfl, b, by rw [hcells, lookup_append, hb]; rfl, ?_⟩
      have hbge : s.heap.objs.size + 1 ≤ b := (freshCells scope.names s.heap { cls := .type "dict", data := .dict #[] }).empty x b (mem_of_lookup hb) |>.2
      have hfb : s.heap.get? b = Option.none := Heap.get?_none_of_le (Nat.le_of_succ_le hbge)
      rw [Cx.comp_other (S.fresh_mine hfb)]
      cases q : c.PO b with
      | none => rfl
      | some o => obtain ⟨sl, h, _⟩ := S.po _ _ q; rw [hfb] at h; cases h
  · rw [hkd, h]
    have hf' : (k == NameKind.free) = false := by simpa using hk
    simp only [Option.map_some, hf', Bool.false_and, Bool.false_eq_true, if_false]
noncomputable def oNsD : OD where
  rel _ o := ∃ es ep, o.data = .dict es ep ∧ StrKeys es
  mono _ _ _ _ h := h
set_option tactic.hygienic true in
theorem St.compBackC {ρ' : AEnv} {H' : AHs} {Z' : ZM} {s' : Shared} (S : St c ρ H Z s) (ok : c.Ok) (S' : St (c.comp scope cl s.heap) ρ' H' Z' s') (hz : ZLe Z Z') : St c ρ (one s.heap.objs.size oNsD :: H') Z' s' := by
  have S1 : St c ρ H' Z' s' := S.compBack ok S' hz (Heap.SameBut.refl ..)
  have hC : s.heap.get? s.heap.objs.size = Option.none := Heap.get?_none_of_le (Nat.le_refl _)
  obtain ⟨m, ⟨o, es, ep, e1, e2, e3, _⟩, _⟩ := S'.ns
  have e1 : s'.heap.get? s.heap.objs.size = some o := e1
  refine { S1 with own := fun M hM b d e => ?_, apart := List.pairwise_cons.mpr ⟨fun M hM b => ?_, S1.apart⟩ }
  · rcases List.mem_cons.mp hM with rfl | hM
    · unfold one at e
      split at e
      · rename_i q; subst q; cases e
        refine ⟨⟨o, e1, es, ep, e2, e3⟩, ?_, ?_, S.fresh_mine hC, ?_⟩
        · cases q : c.base.get? s.heap.objs.size with
          | none => rfl
          | some o' => have := S.base _ _ q; rw [hC] at this; cases this
        · cases q : c.PO s.heap.objs.size with
          | none => rfl
          | some o' => obtain ⟨sl, h, _⟩ := S.po _ _ q; rw [hC] at h; cases h
        · cases q : Z' s.heap.objs.size with
          | none => rfl
          | some o' =>
            obtain ⟨q1, q2⟩ := S'.fz _ _ q
            rw [e1] at q1; cases q1
            rcases q2 with ⟨_, _, q2⟩ | ⟨_, q2⟩ <;> (rw [q2] at e2; cases e2)
      · cases e
    · exact S1.own M hM b d e
  · by_cases hb : b = s.heap.objs.size
    · right
      cases q : M b with
      | none => rfl
      | some d => obtain ⟨_, _, _, r3, _⟩ := S'.own M hM b d q; exact absurd (.inl hb) r3
    · left; simp [one, hb]
theorem St.nsC {C : Addr} (S : St c ρ (one C oNsD :: H) Z s) : ∃ m, s.heap.Ns C m := by
  obtain ⟨o, e, es, ep, h1, h2⟩ := S.read (i := 0) (a := C) (d := oNsD) rfl (by simp [one])
  exact ⟨_, o, es, ep, e, h1, h2, fun z_ => rfl⟩
inductive CompOf (c : Cx) (scope : Scope) (elt target : Expr) (ifs : List Expr) (QV : AV → AEnv → AHs → Prop) (a : AV) (ρ₁ : AEnv) (H₁ : AHs) : Prop
  | mk (P : AHs → Prop) (xs : List AV) (J0 : Itr c P xs) (J : ∀ cl h, (c.comp scope cl h).Ok → Itr (c.comp scope cl h) P xs) (I : Nat → List AV → AEnv → AHs → Prop) (ρ0 : AEnv)
      (q1 : IterOf c H₁ a J0) (q2 : ∀ cl h o, (J cl h o).at_ = J0.at_) (q3 : ∀ cl h o, (J cl h o).tg target) (q4 : ∀ cl h o, Selfs (J cl h o))
      (q5 : ∀ n ys ρ H M, I n ys ρ H → P (M :: H)) (q6 : ∀ n ys ρ H, I n ys ρ H → ys.length ≤ 1000000) (q7 : ∀ x a, ρ0.lookup x = some a → ρ₁.lookup x = some a ∧ scope.names.lookup x = some .free) (q8 : I 0 [] ρ0 H₁)
      (q9 : ∀ cc n a ys ρ H, xs[n]? = some a → I n ys ρ H → CIn c scope cc → cc.prog = c.prog → cc.w = c.w → cc.K = c.K → cc.A = c.A → TA cc target a ρ H (fun z_ ρ₁ H₁ => TIfs cc ifs ρ₁ H₁ (fun b ρ₂ H₂ =>
        if b then TE cc elt ρ₂ H₂ (fun y ρ₃ H₃ => I (n + 1) (ys ++ [y]) ρ₃ H₃) noX else I (n + 1) ys ρ₂ H₂) noX) noX)
      (q10 : ∀ ys ρ₂ H' D, I xs.length ys ρ₂ H' → QV (.ref D) ρ₁ (one D (oList ys) :: H')) : CompOf c scope elt target ifs QV a ρ₁ H₁
set_option tactic.hygienic true in
theorem comp_core {elt target iter : Expr} {ifs : List Expr} {pos : Pos} {use : Option (Value → Sem Unit)} {QQ : Value → Shared → Prop} (F : CFun c) (hk : scope.kind = .function) (hnn : (scope.names.map Prod.fst).Nodup) (hfree : ∀ x, (x, NameKind.free) ∈ scope.names → c.env.kindOf x = some .cell)
    (hs : ∀ x, foldedSetIterable iter c.env x = pure x)
    (h : TE c iter ρ H (CompOf c scope elt target ifs QV) X)
    (S : St c ρ H Z s)
    (hQ : ∀ C D s₁ Z₁ ρ₁ H₁, ZLe Z Z₁ → St c ρ₁ (one C oNsD :: H₁) Z₁ s₁ → QV (.ref D) ρ₁ H₁ → compPost (model c.prog c.w) c.A (Exc c Z X) use QQ (.ref D) C (.ok .next) s₁) :
    wpAny (model c.prog c.w) c.A (comprehension (.ListComp elt [⟨target, iter, ifs, 0⟩] scope pos) scope c.env (firstIterPos [⟨target, iter, ifs, 0⟩] pos) (newList []) false (eval iter c.env) use) QQ (Exc c Z X) s := by
  obtain ⟨cl, kC, hcl⟩ := Closes.ex (c := c) hk hnn (fun x h => F.cell x (hfree x h))
  refine wpAny_comprehension_free rfl hs kC.clos hk (fun x hx hl => by obtain ⟨n, k⟩ := x; cases hl; exact mem_lookup hnn hx) ?_
  refine wpAny_mono (h Z s S) (fun v s₁ hp => ?_) fun _ _ x => x
  obtain ⟨a, ρ₁, H₁, Z₁, hz, hv, S₁, hc⟩ := hp
  cases hc with | mk P xs J0 J I ρ0 q1 q2 q3 q4 q5 q6 q7 q8 q9 q10 => ?_
  refine q1 ρ₁ Z₁ s₁ v _ _ S₁ hv fun it s₂ S₂ => ?_
  refine wpAny_newObj_type ?_ (by size_fits)
  have S₃ := S₂.push (d := oList []) (o := { cls := .type "list", data := .seq ([] : List Value).toArray }) rfl ⟨_, _, rfl, .nil⟩
  have S₄ := S₃.perm (H' := one it (J0.at_ 0) :: one s₂.heap.objs.size (oList []) :: H₁) (List.Perm.swap ..)
  refine compEnv_T (ρ0 := ρ0) S₄ F.ok kC hnn (fun x a e => ?_) fun env s₅ he hl okc S₅ => ?_
  · obtain ⟨e1, e2⟩ := q7 x a e
    obtain ⟨b, hb⟩ := hcl x e2
    exact ⟨e1, b, hb, e2, hfree x (mem_of_lookup e2)⟩
  · rw [he, hl]
    have kI := CIn.comp (scope := scope) (cl := cl) S₄ F.ok.kind okc hcl
    rw [← q2 cl _ okc] at S₅
    have loop : codeAny (model c.prog c.w) c.A (.compLoop (.ListComp elt [⟨target, iter, ifs, 0⟩] scope pos) 0 (.ref it) (.ref s₂.heap.objs.size) (c.comp scope cl (s₂.heap.push { cls := .type "list", data := .seq ([] : List Value).toArray })).env) (compPost (model c.prog c.w) c.A (Exc c Z X) use QQ (.ref s₂.heap.objs.size) (s₂.heap.push { cls := .type "list", data := .seq ([] : List Value).toArray }).objs.size) s₅ := by
      refine compLoop_T (c := c.comp scope cl _) ⟨iter.pos, fun _ _ => rfl⟩ (J cl _ okc) (q3 cl _ okc) I q5 q6 (fun n a ys ρ H it o D oD hx hI f fD => ?_) (fun ys ρ₂ H₂ Z₂ s₆ hz₂ hI S₆ => ?_) q8 S₅
      · exact q9 _ n a ys ρ H hx hI ((kI.hold f).hold fD) rfl rfl rfl rfl
      · exact hQ _ _ s₆ Z₂ ρ₁ _ (hz.trans hz₂) (S₄.compBackC F.ok S₆ hz₂) (q10 ys ρ₂ H₂ _ hI)
    exact codeAny_compStart_list loop (q4 cl _ okc 0 _ _ _ _ _ _ _ S₅ loop)
structure CompScope (c : Cx) (scope : Scope) : Prop where
  kind : scope.kind = .function
  nodup : (scope.names.map Prod.fst).Nodup
  free : ∀ x, (x, NameKind.free) ∈ scope.names → c.env.kindOf x = some .cell
theorem TE.comp {elt target iter : Expr} {ifs : List Expr} {pos : Pos} (F : CFun c) (hsc : CompScope c scope) (hs : ∀ x, foldedSetIterable iter c.env x = pure x)
    (h : TE c iter ρ H (CompOf c scope elt target ifs QV) X) : TE c (.ListComp elt [⟨target, iter, ifs, 0⟩] scope pos) ρ H QV X := fun Z s S => by
  show wpAny _ _ (eval (.ListComp elt [⟨target, iter, ifs, 0⟩] scope pos) c.env) _ _ s
  rw [eval_ListComp]
  refine comp_core F hsc.kind hsc.nodup hsc.free hs h S fun C D s₁ Z₁ ρ₁ H₁ hz S₁ hq => ?_
  obtain ⟨m, hn⟩ := S₁.nsC
  exact ⟨m, hn, fun h' hs' => ⟨_, ρ₁, H₁, Z₁, hz, .val, S₁.dropped (fun b o hb e => (hs'.2 b hb).trans e), hq⟩⟩
set_option tactic.hygienic true in
theorem TX.assignComp {elt target iter : Expr} {ifs : List Expr} {y : Str} {py pos spos : Pos} {Q : AF → AEnv → AHs → Prop} (F : CFun c) (hsc : CompScope c scope) (hs : ∀ x, foldedSetIterable iter c.env x = pure x) (hy : c.Stores y)
    (hsw : swapsWith (.ListComp elt [⟨target, iter, ifs, 0⟩] scope pos) (some (.Name y py)) spos.line c.env = pure true)
    (h : TE c iter ρ H (CompOf c scope elt target ifs (fun a ρ₁ H₁ => Q .next (AEnv.put ρ₁ y a) H₁)) X) : TX c (.Assign [.Name y py] (.ListComp elt [⟨target, iter, ifs, 0⟩] scope pos) spos) ρ H Q X := fun Z s S => by
  show wpAny _ _ (exec (.Assign [.Name y py] (.ListComp elt [⟨target, iter, ifs, 0⟩] scope pos) spos) c.env) _ _ s
  rw [exec_Assign_Name_used _ _ _ _ hsw]
  refine wpAny_bind (wpAny_standAt (wpAny_bind ?_))
  show wpAny _ c.A (do let _ ← comprehension (.ListComp elt [⟨target, iter, ifs, 0⟩] scope pos) scope c.env _ (newList []) false (eval iter c.env) (some (PySem.assign (PySem.Expr.Name y py) c.env))) _ _ s
  refine wpAny_bind (wpAny_mono (comp_core (QV := fun a ρ₁ H₁ => Q .next (AEnv.put ρ₁ y a) H₁) (QQ := fun _ s' => Post c rFlow Z Q .next s') F hsc.kind hsc.nodup hsc.free hs h S fun C D s₁ Z₁ ρ₁ H₁ hz S₁ hq => ?_) (fun _ s' hq => wpAny_pure (wpAny_pure hq)) fun _ _ e => e)
  show wpAny _ c.A (PySem.assign (PySem.Expr.Name y py) c.env (.ref D)) _ _ _
  refine wpAny_assign_Name (S₁.store F.ok hy (a := .ref D) .val fun s₂ S₂ => ?_)
  obtain ⟨m, hn⟩ := S₂.nsC
  exact ⟨m, hn, fun h' hs' => ⟨.next, _, H₁, Z₁, hz, rfl, S₂.dropped (fun b o hb e => (hs'.2 b hb).trans e), hq⟩⟩
theorem Post.frz {v : Value} (h : Post c VR Z (fun a ρ' H' => ∃ D ys H'', a = .ref D ∧ H' = one D (oList ys) :: H'' ∧ QV (.list ys) ρ' H'') v s) : Post c VR Z QV v s := by
  obtain ⟨a, ρ', H', Z', hz, hv, S, D, ys, H'', rfl, rfl, hq⟩ := h
  cases hv
  obtain ⟨o, e1, ⟨vs, n, e2, e3⟩, hz2, S2⟩ := S.freeze (i := 0) rfl (fun o ⟨vs, n, h, _⟩ => .inl ⟨vs, n, by rw [h]⟩)
  simp only [List.eraseIdx_cons_zero] at S2
  subst e2
  exact ⟨_, ρ', H'', _, hz.trans hz2, .list (ZM.put_self _ _ _) (VRs.mono hz2 _ _ e3), S2, hq⟩
theorem TE.frz {e : Expr} (h : TE c e ρ H (fun a ρ' H' => ∃ D ys H'', a = .ref D ∧ H' = one D (oList ys) :: H'' ∧ QV (.list ys) ρ' H'') X) : TE c e ρ H QV X := fun Z s S =>
  wpAny_mono (h Z s S) (fun z_ z_ p => p.frz) fun z_ z_ x => x
theorem self_iter {prog : Program} {w : World} {A : Around} {E : Value → Shared → Prop} {it : Addr} {o : Obj} {T id nid : String} {Q : Value → Shared → Prop} (ho : s.heap.get? it = some o) (hc : o.cls = .type T) (sl : Slot T "__iter__" id) (en : entryFor table id = some Builtin.«dict_keyiterator.__iter__») (ar : argsOk id ⟨[.ref it], []⟩) (nx : Slot T "__next__" nid)
    (h : Q (.ref it) s) : wpAny (model prog w) A (pyIter (.ref it)) Q E s := by
  have hT : s.TypeIs (.ref it) T := ⟨o, ho, hc⟩
  refine wpAny_pyIter_slot hT sl (wpAny_call_entry sl hT en ?_ ar)
  show wpAny _ _ (ret (.ref it)) _ _ s
  exact wpAny_pure ⟨_, rfl, T, _, hT, nx.lookup, h⟩
theorem Selfs.list {hh : c.A.handled = Option.none} {a : AV} {xs : List AV} : Selfs (Itr.list c hh a xs) := fun n ρ H Z s it Q E S h => by
  obtain ⟨o, ho, l, h1, h2, h3⟩ := S.read (i := 0) (a := it) (d := oLIter a n) rfl (by simp [one]; rfl)
  exact self_iter ho h1 slot_listiter_iter entry_listiter_iter (args_listiter_iter _) slot_listiter_next h
theorem Selfs.values {ok : c.Ok} {hh : c.A.handled = Option.none} {d : Addr} {kvs : List (Key × AV)} {ep : Nat} : Selfs (Itr.values c ok hh d kvs ep) := fun n ρ H Z s it Q E S h => by
  obtain ⟨o, ho, h1, h2⟩ := S.read (i := 0) (a := it) (d := oVIter d kvs.length ep n) rfl (by simp [one]; rfl)
  exact self_iter ho h1 PySem.F.slot_dict_valueiterator_iter PySem.entry_dict_valueiterator_iter (PySem.F.args_dict_valueiterator_iter_1 _) PySem.F.slot_dict_valueiterator_next h
end
end Mine.Internal
end

section
open PySem PySem.W PySem.Calls PyProof.Rows
set_option Elab.async false
set_option maxRecDepth 10000
set_option linter.unusedVariables false
set_option linter.unusedSimpArgs false
namespace Mine.Internal
section
variable {c : Cx} {ρ : AEnv} {H : AHs} {X : AX} {QV : AV → AEnv → AHs → Prop} {a b : AV} {xs ys : List AV}
theorem TC.tupOf (hl : LV H a xs) (hn : xs.length ≤ 1000000) (h : QV (.tup xs) ρ H) : TC c (.val (.type "tuple")) [a] ρ H QV X := fun Z s fv vs S hf hv => by
  cases hf
  cases hv with | cons h1 h2 => cases h2; exact (by
    obtain ⟨l, us, rfl, hL, e2⟩ := hl.isList S h1
    have hsz := e2.toArr
    refine call_tuple_list hL (fun h' hk => ?_) (by have := sizeLineIs; lia)
    have S1 := S.ext (s' := { s with heap := h' }) hk rfl rfl
    have p := Post.newT (QV := QV) S1 e2 h
    simpa using p)
theorem T2.addL (hl : LV H a xs) (hb : LV H b ys) (hn : xs.length + ys.length ≤ 1000000) (h : ∀ D, QV (.ref D) ρ (one D (oList (xs ++ ys)) :: H)) : T2 c VR (binaryOp .Add) a b ρ H QV X := fun Z s v w S hv hw => by
  obtain ⟨l, us, n, rfl, e1, e2⟩ := hl.obj S hv
  obtain ⟨l', us', n', rfl, e1', e2'⟩ := hb.obj S hw
  have h1 := e2.toArr
  have h2 := e2'.toArr
  refine P.add_list (n := n) (n2 := n') e1 e1' ?_ (by have := sizeLineIs; lia)
  have e : VRs Z (xs ++ ys) (us ++ us').toList := by rw [Array.toList_append]; exact e2.append e2'
  exact ⟨_, ρ, _, Z, .refl _, .val, S.push (d := oList (xs ++ ys)) (o := { cls := .type "list", data := .seq (us ++ us') }) rfl ⟨_, _, rfl, e⟩, h _⟩
theorem TC.reprBool {i : Bool} (h : QV (.str (if i then "True" else "False")) ρ H) : TC c (.val (.builtin "repr")) [.bool i] ρ H QV X := fun Z s fv vs S hf hv => by
  cases hf
  cases hv with | cons h1 h2 => cases h1; cases h2; exact P.repr_of_bool (Post.now (S.tok _) .str h)
end
end Mine.Internal
end

section
open PySem PySem.W PySem.Calls PyProof.Rows
set_option Elab.async false
set_option maxRecDepth 10000
set_option linter.unusedVariables false
set_option linter.unusedSimpArgs false
namespace Mine.Internal
section
variable {c : Cx} {ρ : AEnv} {H : AHs} {X : AX} {QV : AV → AEnv → AHs → Prop} {a b : AV} {xs ys : List AV}
theorem VRs.ints {Z : ZM} : ∀ {ns : List Int} {vs : List Value}, VRs Z (ns.map AV.int) vs → ∃ l : List (Int × Tok), vs = l.map (fun p => Value.int p.1 p.2) ∧ l.map Prod.fst = ns
  | [], _, .nil => ⟨[], rfl, rfl⟩
  | n :: ns, _, .cons h1 h2 => by
    obtain ⟨t, rfl⟩ := h1.toInt
    obtain ⟨l, e1, e2⟩ := VRs.ints h2
    exact ⟨(n, t) :: l, by rw [e1]; rfl, by rw [List.map_cons, e2]⟩
theorem TC.sumL {ns : List Int} (hh : c.A.handled = Option.none) (hl : LV H a (ns.map AV.int)) (h : QV (.int ns.sum) ρ H) : TC c (.val (.builtin "sum")) [a] ρ H QV X := fun Z s fv vs S hf hv => by
  cases hf
  cases hv with | cons h1 h2 => cases h2; exact (by
    obtain ⟨l, us, rfl, hL, e2⟩ := hl.isList S h1
    obtain ⟨ps, e3, e4⟩ := e2.ints
    have hx : us = intItems ps.toArray := by
      apply Array.ext'
      rw [e3]; simp [intItems]
    rw [hx] at hL
    refine sum_intListG hh hL fun h' tk t' hk => ?_
    have e5 : preSum (numAt ps.toArray) ps.toArray.size = ns.sum := by
      rw [preSum_eq, List.take_of_length_le (by simp), ← e4]
    rw [e5]
    exact Post.now (S.ext (s' := { s with heap := h', toks := tk }) hk rfl rfl) .int h)
end
end Mine.Internal
end

section
open PySem PySem.W PySem.Calls PyProof.Rows
set_option Elab.async false
set_option maxRecDepth 10000
set_option linter.unusedVariables false
set_option linter.unusedSimpArgs false
namespace Mine.Internal
theorem f_unchain : entryFor table "proto.unchain" = some Builtin.«proto.unchain» := entryFor_of_tree (by kernel_rfl)
noncomputable def Hdl (A : Around) (h : Heap) : Prop := ∀ e, A.handled = some e → ∃ x o vs, e = .ref x ∧ h.get? x = some o ∧ o.data = .fields vs ∧ vs[2]? = some .none
theorem raiseNewH {prog : Program} {w : World} {A : Around} {E : Value → Shared → Prop} {s : Shared} {α : Type} {Q : α → Shared → Prop} {e : Addr} {oe : Obj} {vs : Array Value} (hd : Hdl A s.heap) (he : s.heap.get? e = some oe) (hv : oe.data = .fields vs) (h2 : 2 < vs.size) (hne : ∀ x, A.handled = some (.ref x) → x ≠ e)
    (h : ∀ h' o', (∀ b o, b ≠ e → s.heap.get? b = some o → h'.get? b = some o) → h'.get? e = some o' → o'.cls = oe.cls → E (.ref e) { s with heap := h' }) : wpAny (model prog w) A (raiseNew (.ref e) : Sem α) Q E s := by
  unfold raiseNew
  refine wpAny_bind (wpAny_handled ?_)
  cases hA : A.handled with
  | none => exact wpAny_bind (wpAny_pure (wpAny_throw (h s.heap oe (fun z_ z_ z_ e => e) he rfl)))
  | some hv' =>
    obtain ⟨x, o, us, rfl, q1, q2, q3⟩ := hd _ hA
    have hxe : (Value.ref x != Value.ref e) = true := by
      have := hne x hA
      simpa using this
    simp only [hxe, if_true]
    refine wpAny_bind (wpAny_holding (wpAny_runValue (codeAny_builtin f_unchain ?_)))
    unfold Builtin.«proto.unchain»
    refine wpAny_bind (wpAny_field q1 q2 q3 ?_)
    rw [if_pos (by decide)]
    refine wpAny_pure ?_
    refine wpAny_bind ?_
    have e4 := Obj.data_mapFields hv (·.setIfInBounds 2 (Value.ref x))
    refine wpAny_setField he hv h2 (wpAny_throw (h _ _ (fun b o hb e => (Heap.get?_update_other _ _ (Ne.symm hb)).trans e) (Heap.get?_update_self _ he (Obj.isFreed_of_fields e4)) (Obj.cls_mapFields ..)))
end Mine.Internal
end

section
open PySem PySem.W PySem.Calls PyProof.Rows
set_option Elab.async false
set_option maxRecDepth 10000
set_option linter.unusedVariables false
set_option linter.unusedSimpArgs false
namespace Mine.Internal
section
variable {prog : Program} {w : World} {A : Around} {E : Value → Shared → Prop} {s : Shared}
theorem stopH {α : Type} {Q : α → Shared → Prop} (hd : Hdl A s.heap) (h : ∀ h' e o', (∀ b o, s.heap.get? b = some o → h'.get? b = some o) → h'.get? e = some o' → o'.cls = .type "StopIteration" → E (.ref e) { s with heap := h' }) :
    wpAny (model prog w) A (newExc (.type "StopIteration") [] >>= fun e => (raiseNew e : Sem α)) Q E s := by
  refine wpAny_bind ?_
  simp only [newExc, newTuple]
  refine wpAny_bind (wpAny_newObj_type ?_ (by size_fits))
  refine wpAny_bind (m := firstArgMember _ _) (wpAny_of_eq (a := Value.none) (by first | rfl | (simp only [firstArgMember]; rfl)) ?_)
  refine wpAny_newObj_type ?_ (by size_fits)
  have up : ∀ b o, s.heap.get? b = some o → ((s.heap.push { cls := .type "tuple", data := .seq ([] : List Value).toArray }).push { cls := .type "StopIteration", data := .fields #[.ref s.heap.objs.size, .none, .none, .none, .bool false, .none] }).get? b = some o := fun b o e => Heap.get?_push_of_some _ (Heap.get?_push_of_some _ e)
  refine raiseNewH (vs := #[.ref s.heap.objs.size, .none, .none, .none, .bool false, .none]) (fun e he => ?_) (Heap.get?_push_size _ rfl) rfl (by simp) (fun x hx => ?_) (fun h' o' hk ho' hc => ?_)
  · obtain ⟨x, o, vs, q0, q1, q2, q3⟩ := hd e he
    exact ⟨x, o, vs, q0, up _ _ q1, q2, q3⟩
  · obtain ⟨y, o, vs, q0, q1, q2, q3⟩ := hd _ hx
    cases q0
    exact Nat.ne_of_lt (by rw [Heap.size_push]; exact Nat.lt_succ_of_lt (Heap.lt_size q1))
  · refine h h' _ o' (fun b o e => hk b o (fun q => ?_) (up b o e)) ho' hc
    have := Heap.lt_size e
    rw [q, Heap.size_push] at this
    exact Nat.lt_irrefl _ (Nat.lt_of_succ_lt this)
theorem range_endH {it : Addr} {x left step : Int} {Q : Option Value → Shared → Prop} (hd : Hdl A s.heap) (hit : IsRangeIter s.heap it x left step) (hleft : left ≤ 0)
    (hQ : ∀ h', (∀ b o, s.heap.get? b = some o → h'.get? b = some o) → Q Option.none { s with heap := h' }) : wpAny (model prog w) A (pyNext (.ref it)) Q E s := by
  have hT : s.TypeIs (.ref it) "range_iterator" := ⟨_, hit, rfl⟩
  unfold pyNext
  refine wpAny_bind (wpAny_attempt (wpAny_callSpecial?_slot (name := Str.ofString "__next__") hT PySem.F.slot_range_iterator_next
    (wpAny_call_entry PySem.F.slot_range_iterator_next hT PySem.F.entry_range_iterator_next ?_ (PySem.F.args_range_iterator_next_1 _))))
  show wpAny _ _ (field (.ref it) 0 >>= _) _ _ s
  refine wpAny_bind (wpAny_field hit rfl (x := rawInt x) rfl ?_)
  show wpAny _ _ (field (.ref it) 1 >>= _) _ _ s
  refine wpAny_bind (wpAny_field hit rfl (x := rawInt left) rfl ?_)
  show wpAny _ _ (field (.ref it) 2 >>= _) _ _ s
  refine wpAny_bind (wpAny_field hit rfl (x := rawInt step) rfl ?_)
  show wpAny _ _ (if left ≤ 0 then _ else _) _ _ s
  rw [if_pos hleft]
  refine wpAny_bind (wpAny_rule ?_)
  refine wpAny_bind ?_
  refine stopH (A := A.in1) hd fun h' e o' hk ho' hc => ?_
  refine wpAny_bind (wpAny_isInstance (T := "StopIteration") (b := true) ⟨o', ho', hc⟩ isSubtype_stop ?_)
  exact wpAny_pure (hQ _ hk)
end
end Mine.Internal
end

section
open PySem PySem.W PySem.Calls PyProof.Rows
set_option Elab.async false
set_option maxRecDepth 10000
set_option linter.unusedVariables false
set_option linter.unusedSimpArgs false
namespace Mine.Internal
section
variable {c : Cx} {ρ : AEnv} {H : AHs} {Z : ZM} {s : Shared} {X : AX} {QV : AV → AEnv → AHs → Prop}
theorem St.hdlA (S : St c ρ H Z s) : Hdl c.A s.heap := fun e he => by
  obtain ⟨x, o, vs, h0, h1, h2, h3⟩ := S.hdl e he
  exact ⟨x, o, vs, h0, (S.fz _ _ h1).1, h2, h3⟩
noncomputable def Itr.rangeA (c : Cx) (a st : Int) (n : Nat) : Itr c (fun z_ => True) (rangeAV a st n) where
  at_ := fun k => oRIter (a + st * k) (n - k) st
  data := fun k Z o h => ⟨_, congrArg Obj.data h⟩
  step := fun k x hx target ρ H Z s it Q E z_ S hP hQ => by
    obtain ⟨o, ho, rfl⟩ := S.read (i := 0) (a := it) (d := oRIter (a + st * k) (n - k) st) rfl (by simp [one])
    obtain ⟨hk, rfl⟩ := rangeAV_get hx
    refine wpAny_pyNext_range_item ho (by lia) fun h' hit hs => ?_
    refine letGo_other hit rfl (by decide) rfl (hQ _ _ Z (.refl _) .int (S.keepBut hs hit ?_))
    have e1 : a + st * (k : Int) + st = a + st * ((k + 1 : Nat) : Int) := by rw [Int.natCast_add, Int.mul_add, Int.natCast_one, Int.mul_one, Int.add_assoc]
    have e2 : (n : Int) - k - 1 = n - ((k + 1 : Nat) : Int) := by lia
    show _ = _
    rw [← e1, ← e2]
  stop := fun ρ H Z s it Q E S hP hQ => by
    obtain ⟨o, ho, rfl⟩ := S.read (i := 0) (a := it) (d := oRIter (a + st * (rangeAV a st n).length) (n - (rangeAV a st n).length) st) rfl (by simp [one])
    exact range_endH S.hdlA ho (by rw [rangeAV_length]; lia) fun h' he => hQ _ (S.dropped fun b o z_ e => he b o e)
theorem IterOf.rangeA {i : Nat} {M : AM} {r : Addr} {a b st : Int} {n : Nat} (hi : H[i]? = some M) (hr : M r = some (oRange a b st)) (hs : Builtin.Range.small a b st = true) (hn : Builtin.Range.rangeSize a b st = n) :
    IterOf c H (.ref r) (Itr.rangeA c a st n) := fun ρ Z s v Q E S hv hQ => by
  cases hv
  obtain ⟨o, ho, t, u, v, rfl⟩ := S.read hi hr
  refine wpAny_pyIter_range ho hs (hQ _ _ ?_)
  refine S.push (d := oRIter (a + st * (0 : Nat)) (n - (0 : Nat)) st) (o := { cls := .type "range_iterator", data := .fields #[rawInt a, rawInt (Builtin.Range.rangeSize a b st), rawInt st] }) rfl ?_
  show _ = _
  rw [hn]; simp
theorem Selfs.rangeA {a st : Int} {m : Nat} : Selfs (Itr.rangeA c a st m) := fun n ρ H Z s it Q E S h => by
  obtain ⟨o, ho, h1⟩ := S.read (i := 0) (a := it) (d := oRIter (a + st * n) (m - n) st) rfl (by simp [one]; rfl)
  exact self_iter ho (by rw [h1]) PySem.F.slot_range_iterator_iter PySem.F.entry_range_iterator_iter (PySem.F.args_range_iterator_iter_1 _) PySem.F.slot_range_iterator_next h
end
end Mine.Internal
end

section
open PySem PySem.W PySem.Calls PyProof.Rows
set_option Elab.async false
set_option maxRecDepth 10000
set_option linter.unusedVariables false
set_option linter.unusedSimpArgs false
namespace Mine.Internal
structure Gl where
  prog : Program
  w : World
  K : Frag
  globs : List (Str × Value)
  blts : List (Str × Value)
  keeps : List Addr
structure Gl.Ok (g : Gl) : Prop where
  glob : ∀ x v, g.globs.lookup x = some v → nsIn g.K mainGlobals x = some (some v)
  blt : ∀ x v, g.blts.lookup x = some v → nsIn g.K mainGlobals x = some Option.none ∧ bootBuiltins x = some v ∧ x ≠ "__name__"
  keep : ∀ a, g.keeps.contains a = true → keepIn g.K (.ref a) = true
structure Fm where
  g : Gl
  raw : List (Str × NameKind)
  fn : Bool
  hn : Bool
  lv : Nat
  own : Pos → Bool
noncomputable def Fm.kind (F : Fm) (x : Str) : Option NameKind := match F.raw.lookup x with
  | some .free => match F.fn with
    | true => some .free
    | false => some .cell
  | k => k
noncomputable def Fm.stores (F : Fm) (x : Str) : Bool := match F.raw.lookup x with
  | some .local => true
  | some .cell => true
  | _ => false
noncomputable def goodNames (raw : List (Str × NameKind)) : Prop := ∀ x k, raw.lookup x = some k → (x == ("__debug__" : Str)) = false ∧ (x == ("__classdict__" : Str)) = false
structure Knows (F : Fm) (c : Cx) : Prop where
  prog : c.prog = F.g.prog
  w : c.w = F.g.w
  K : c.K = F.g.K
  gok : F.g.Ok
  cf : CFun c
  fn : F.fn = true → ∃ sc, Fun c sc ∧ sc.names = F.raw
  kind : ∀ x k, F.kind x = some k → c.env.kindOf x = some k
  stores : ∀ x, F.stores x = true → c.Stores x
  hdl : F.hn = true → c.A.handled = Option.none
  lv : F.lv ≤ c.lv
  good : goodNames F.raw
theorem Knows.ok {F : Fm} {c : Cx} (k : Knows F c) : c.Ok := k.cf.ok
section
variable {α β : Type}
structure W1 (F : Fm) (rel : ZM → β → α → Prop) (f : Value → Sem α) (a : AV) (ρ : AEnv) (H : AHs) (Q : β → AEnv → AHs → Prop) (X : AX) : Prop where
  h : ∀ c, Knows F c → T1 c rel f a ρ H Q X
structure W2 (F : Fm) (rel : ZM → β → α → Prop) (f : Value → Value → Sem α) (a b : AV) (ρ : AEnv) (H : AHs) (Q : β → AEnv → AHs → Prop) (X : AX) : Prop where
  h : ∀ c, Knows F c → T2 c rel f a b ρ H Q X
structure W3 (F : Fm) (rel : ZM → β → α → Prop) (f : Value → Value → Value → Sem α) (a b e : AV) (ρ : AEnv) (H : AHs) (Q : β → AEnv → AHs → Prop) (X : AX) : Prop where
  h : ∀ c, Knows F c → T3 c rel f a b e ρ H Q X
end
structure WC (F : Fm) (f : AV) (as : List AV) (ρ : AEnv) (H : AHs) (Q : AV → AEnv → AHs → Prop) (X : AX) : Prop where
  h : ∀ c, Knows F c → TC c f as ρ H Q X
structure WE (F : Fm) (e : Expr) (ρ : AEnv) (H : AHs) (Q : AV → AEnv → AHs → Prop) (X : AX) : Prop where
  h : ∀ c, Knows F c → TE c e ρ H Q X
structure WX (F : Fm) (st : Stmt) (ρ : AEnv) (H : AHs) (Q : AF → AEnv → AHs → Prop) (X : AX) : Prop where
  h : ∀ c, Knows F c → TX c st ρ H Q X
structure WMeth (F : Fm) (a : AV) (name : Str) (args : List Expr) (pos : Pos) (ρ : AEnv) (H : AHs) (Q : AV → AEnv → AHs → Prop) (X : AX) : Prop where
  h : ∀ c, Knows F c → ∃ fv, MethIs c H a name fv ∧ Keepy c fv ∧ TEs c args pos ρ H (fun as ρ₂ H₂ => TC c (.val fv) (a :: as) ρ₂ H₂ Q X) X
inductive WSlice (F : Fm) (p : Pos) (a lo hi : AV) (ρ : AEnv) (H : AHs) (Q : AV → AEnv → AHs → Prop) : Prop
  | mk (xs ys : List AV) (h1 : LV H a xs) (h2 : SlOf lo hi xs ys) (h3 : xs.length ≤ 1000000) (h4 : Q (.list ys) ρ H) : WSlice F p a lo hi ρ H Q
theorem WSlice.h {F : Fm} {p : Pos} {a lo hi : AV} {ρ : AEnv} {H : AHs} {Q : AV → AEnv → AHs → Prop} (h : WSlice F p a lo hi ρ H Q) : ∃ xs ys, LV H a xs ∧ SlOf lo hi xs ys ∧ xs.length ≤ 1000000 ∧ Q (.list ys) ρ H := by
  cases h with | mk xs ys h1 h2 h3 h4 => exact ⟨xs, ys, h1, h2, h3, h4⟩
inductive WSliceO (F : Fm) (p : Pos) (a lo hi : AV) (ρ : AEnv) (H : AHs) (Q : AV → AEnv → AHs → Prop) : Prop
  | mk (xs ys : List AV) (h1 : LV H a xs) (h2 : SlOf lo hi xs ys) (h3 : xs.length ≤ 1000000) (h4 : ∀ l, Q (.ref l) ρ (one l (oList ys) :: H)) : WSliceO F p a lo hi ρ H Q
theorem WSliceO.h {F : Fm} {p : Pos} {a lo hi : AV} {ρ : AEnv} {H : AHs} {Q : AV → AEnv → AHs → Prop} (h : WSliceO F p a lo hi ρ H Q) : ∃ xs ys, LV H a xs ∧ SlOf lo hi xs ys ∧ xs.length ≤ 1000000 ∧ ∀ l, Q (.ref l) ρ (one l (oList ys) :: H) := by
  cases h with | mk xs ys h1 h2 h3 h4 => exact ⟨xs, ys, h1, h2, h3, h4⟩
inductive AppOf (l : Addr) (QV : AV → AEnv → AHs → Prop) (a : AV) (ρ : AEnv) (H : AHs) : Prop
  | mk (i : Nat) (M : AM) (xs : List AV) (h1 : H[i]? = some M) (h2 : M l = some (oList xs)) (h3 : xs.length ≤ 1000000) (h4 : QV .none ρ (H.set i (M.put l (oList (xs ++ [a]))))) : AppOf l QV a ρ H
inductive GetOf (g : Gl) (d : Addr) (QV : AV → AEnv → AHs → Prop) (a : AV) (ρ : AEnv) (H : AHs) : Prop
  | mk (k : Key) (i : Nat) (M : AM) (kvs : List (Key × AV)) (ep : Nat) (h0 : a = k.av) (h1 : H[i]? = some M) (h2 : M d = some (oDict g.prog g.w kvs ep)) (h3 : QV ((kvAt kvs k).getD .none) ρ H) : GetOf g d QV a ρ H
inductive ExtOf (l : Addr) (QV : AV → AEnv → AHs → Prop) (a : AV) (ρ : AEnv) (H : AHs) : Prop
  | mk (i : Nat) (M : AM) (xs ys : List AV) (h1 : H[i]? = some M) (h2 : M l = some (oList xs)) (h3 : SV H a ys) (h4 : xs.length + ys.length ≤ 1000000) (h5 : QV .none ρ (H.set i (M.put l (oList (xs ++ ys))))) : ExtOf l QV a ρ H
inductive SAddOf (g : Gl) (d : Addr) (QV : AV → AEnv → AHs → Prop) (a : AV) (ρ : AEnv) (H : AHs) : Prop
  | mk (k : Key) (i : Nat) (M : AM) (ks : List Key) (h0 : a = k.av) (h1 : H[i]? = some M) (h2 : M d = some (oSet g.prog g.w ks)) (h3 : k ∉ ks) (h4 : ks.length < 4000) (h5 : QV .none ρ (H.set i (M.put d (oSet g.prog g.w (ks ++ [k]))))) : SAddOf g d QV a ρ H
inductive RaiseOk (c : Cx) : Value → Prop
  | blt {T newId initId : String} : ExcCallFacts T newId initId → ExcRaiseFacts T → RaiseOk c (.type T)
  | own {C : Addr} {B newId initId : String} {bmB : List Value} : OwnExc c.K C B newId initId bmB → RaiseOk c (.ref C)
structure WRaise (F : Fm) (v : Value) : Prop where
  h : ∀ c, Knows F c → RaiseOk c v
structure WCatch (F : Fm) (cls spec : Value) : Prop where
  h : ∀ c, Knows F c → Catches c cls spec
structure Gh (P : AEnv → AHs → Prop) (ρ : AEnv) (H : AHs) : Prop where
  h : ∀ c Z s G, St c ρ (G ++ H) Z s → ∃ ρ' H' Z', ZLe Z Z' ∧ St c ρ' (G ++ H') Z' s ∧ P ρ' H'
noncomputable def wIf (b : Bool) (A B : Prop) : Prop := match b with
  | true => A
  | false => B
noncomputable def wOk (b : Bool) (A : Prop) : Prop := match b with
  | true => A
  | false => False
noncomputable def wName (F : Fm) (x : Str) (ρ : AEnv) (H : AHs) (Q : AV → AEnv → AHs → Prop) : Prop := match F.raw.lookup x with
  | some .globalImplicit => (match F.g.globs.lookup x with
    | some v => Q (AV.of v) ρ H
    | Option.none => (match F.g.blts.lookup x with
      | some v => Q (AV.of v) ρ H
      | Option.none => False))
  | some _ => (match ρ.lookup x with
    | some a => Q a ρ H
    | Option.none => False)
  | Option.none => False
noncomputable def twoInts (a b : AV) : Option (Int × Int) := match a with
  | .int x => (match b with
    | .int y => some (x, y)
    | _ => Option.none)
  | _ => Option.none
noncomputable def twoLists (a b : AV) : Option (List AV × List AV) := match a with
  | .list x => (match b with
    | .list y => some (x, y)
    | _ => Option.none)
  | _ => Option.none
noncomputable def binInt (op : Operator) (x y : Int) (Q : AV → Prop) (D : Prop) : Prop := match op with
  | .Add => Q (.int (x + y))
  | .Sub => Q (.int (x - y))
  | .Mult => IntMulOk x y ∧ Q (.int (x * y))
  | .FloorDiv => (y ≠ 0 ∧ y.natAbs.log2 < 9000) ∧ Q (.int (x.fdiv y))
  | .Mod => (y ≠ 0 ∧ y.natAbs.log2 < 9000) ∧ Q (.int (x.fmod y))
  | .Pow => (0 ≤ y ∧ (Builtin.Int.intBits x : Int) * y ≤ 2 ^ 27) ∧ Q (.int (x ^ y.toNat))
  | .BitAnd => Q (.int (Builtin.bitAnd x y))
  | _ => D
noncomputable def binList (op : Operator) (xs ys : List AV) (Q : AV → Prop) (D : Prop) : Prop := match op with
  | .Add => xs.length + ys.length ≤ 1000000 ∧ Q (.list (xs ++ ys))
  | _ => D
noncomputable def wBin (F : Fm) (op : Operator) (a b : AV) (ρ : AEnv) (H : AHs) (Q : AV → AEnv → AHs → Prop) (X : AX) : Prop := match twoInts a b with
  | some (x, y) => binInt op x y (fun v => Q v ρ H) (W2 F VR (binaryOp op) a b ρ H Q X)
  | Option.none => (match twoLists a b with
    | some (x, y) => binList op x y (fun v => Q v ρ H) (W2 F VR (binaryOp op) a b ρ H Q X)
    | Option.none => W2 F VR (binaryOp op) a b ρ H Q X)
noncomputable def inpInt (op : Operator) (x y : Int) (Q : AV → Prop) (D : Prop) : Prop := match op with
  | .Add => Q (.int (x + y))
  | .Sub => Q (.int (x - y))
  | .Mult => IntMulOk x y ∧ Q (.int (x * y))
  | _ => D
noncomputable def wInp (F : Fm) (op : Operator) (a b : AV) (ρ : AEnv) (H : AHs) (Q : AV → AEnv → AHs → Prop) (X : AX) : Prop := match twoInts a b with
  | some (x, y) => inpInt op x y (fun v => Q v ρ H) (W2 F VR (inplaceOp op) a b ρ H Q X)
  | Option.none => W2 F VR (inplaceOp op) a b ρ H Q X
noncomputable def cmpInt (op : CmpOp) (x y : Int) (Q : AV → Prop) (D : Prop) : Prop := match op with
  | .Lt => Q (.bool (decide (x < y)))
  | .LtE => Q (.bool (decide (x ≤ y)))
  | .Gt => Q (.bool (decide (y < x)))
  | .GtE => Q (.bool (decide (y ≤ x)))
  | .Eq => Q (.bool (decide (x = y)))
  | .NotEq => Q (.bool (decide (x ≠ y)))
  | _ => D
noncomputable def cmpNone (op : CmpOp) (a : AV) (Q : AV → Prop) (D : Prop) : Prop := match op with
  | .Is => Q (.bool a.isNone)
  | .IsNot => Q (.bool (!a.isNone))
  | _ => D
inductive CmpKind where
  | is | in | ord
noncomputable def cmpKind : CmpOp → CmpKind
  | .Is => .is
  | .IsNot => .is
  | .In => .in
  | .NotIn => .in
  | _ => .ord
noncomputable def wCmp (F : Fm) (op : CmpOp) (a b : AV) (ρ : AEnv) (H : AHs) (Q : AV → AEnv → AHs → Prop) (X : AX) : Prop := match cmpKind op with
  | .in => W2 F VR (compareOp op) a b ρ H Q X
  | .is => (match b.isNone with
    | true => cmpNone op a (fun v => Q v ρ H) (W2 F VR (compareOp op) a b ρ H Q X)
    | false => W2 F VR (compareOp op) a b ρ H Q X)
  | .ord => (match twoInts a b with
    | some (x, y) => cmpInt op x y (fun v => Q v ρ H) (W2 F VR (compareOp op) a b ρ H Q X)
    | Option.none => W2 F VR (compareOp op) a b ρ H Q X)
noncomputable def wNeg (F : Fm) (a : AV) (ρ : AEnv) (H : AHs) (Q : AV → AEnv → AHs → Prop) (X : AX) : Prop := match a with
  | .int x => Q (.int (-x)) ρ H
  | a => W1 F VR (unaryOp .USub) a ρ H Q X
noncomputable def valB : Value → Option Bool
  | .bool b => some b
  | .none => some false
  | _ => Option.none
noncomputable def wTruth (F : Fm) (a : AV) (ρ : AEnv) (H : AHs) (Q : Bool → AEnv → AHs → Prop) (X : AX) : Prop := match a with
  | .val v => (match valB v with
    | some b => Q b ρ H
    | Option.none => W1 F rBool truthy (.val v) ρ H Q X)
  | .list xs => xs.length ≤ 1000000 ∧ Q (!xs.isEmpty) ρ H
  | a => W1 F rBool truthy a ρ H Q X
noncomputable def isBool : AV → Option Bool
  | .val v => (match v with
    | .bool b => some b
    | _ => Option.none)
  | _ => Option.none
noncomputable def asB (Q : Bool → AEnv → AHs → Prop) (v : AV) (ρ : AEnv) (H : AHs) : Prop := match isBool v with
  | some b => Q b ρ H
  | Option.none => False
noncomputable def wItem (xs : List AV) (k : Int) (Q : AV → Prop) : Prop := match k with
  | .ofNat n => (match xs[n]? with
    | some x => (n : Int) < 2 ^ 63 ∧ Q x
    | Option.none => False)
  | .negSucc n => wOk (decide (n < xs.length)) (match xs[xs.length - 1 - n]? with
    | some x => (n : Int) < 2 ^ 62 ∧ Q x
    | Option.none => False)
noncomputable def itemOf (a b : AV) : Option (List AV × Int) := match a with
  | .list xs => (match b with
    | .int k => some (xs, k)
    | _ => Option.none)
  | .tup xs => (match b with
    | .int k => some (xs, k)
    | _ => Option.none)
  | _ => Option.none
noncomputable def wSub (F : Fm) (value slice : Expr) (a b : AV) (ρ : AEnv) (H : AHs) (Q : AV → AEnv → AHs → Prop) (X : AX) : Prop := match itemOf a b with
  | some (xs, k) => wItem xs k fun x => Q x ρ H
  | Option.none => W2 F VR (subscriptTail value slice) a b ρ H Q X
noncomputable def wStore (F : Fm) (x : Str) (a : AV) (ρ : AEnv) (H : AHs) (Q : AEnv → AHs → Prop) : Prop := wOk (F.stores x) (Q (AEnv.put ρ x a) H)
structure Rec where
  E : Fm → Expr → AEnv → AHs → (AV → AEnv → AHs → Prop) → AX → Prop
  B : Fm → Expr → AEnv → AHs → (Bool → AEnv → AHs → Prop) → AX → Prop
  Es : Fm → List Expr → AEnv → AHs → (List AV → AEnv → AHs → Prop) → AX → Prop
  A : Fm → Expr → AV → AEnv → AHs → (Unit → AEnv → AHs → Prop) → AX → Prop
  S : Fm → List Stmt → AEnv → AHs → (AF → AEnv → AHs → Prop) → AX → Prop
inductive EV where
  | name (x : Str) (p : Pos)
  | attr (o : Expr) (n : Str) (p : Pos)
  | call (f : Expr) (as : List Expr) (kw : List Keyword) (p : Pos)
  | sub (o i : Expr) (p : Pos)
  | slice (lo hi st : Option Expr) (p : Pos)
  | star (e : Expr) (p : Pos)
  | other
noncomputable def lookE : Expr → EV
  | .Name x p => .name x p
  | .Attribute o n p => .attr o n p
  | .Call f as kw p => .call f as kw p
  | .Subscript o i p => .sub o i p
  | .Slice lo hi st p => .slice lo hi st p
  | .Starred e p => .star e p
  | _ => .other
noncomputable def EV.expr : EV → Option Expr
  | .name x p => some (.Name x p)
  | .attr o n p => some (.Attribute o n p)
  | .call f as kw p => some (.Call f as kw p)
  | .sub o i p => some (.Subscript o i p)
  | .slice lo hi st p => some (.Slice lo hi st p)
  | .star e p => some (.Starred e p)
  | .other => Option.none
theorem lookE_or (e : Expr) : lookE e = .other ∨ (lookE e).expr = some e := by cases e <;> first | exact .inr rfl | exact .inl rfl
theorem lookE_is {e e' : Expr} {v : EV} (h : lookE e = v) (hv : v.expr = some e') : e = e' := by
  rcases lookE_or e with h' | h'
  · rw [← h, h'] at hv; cases hv
  · rw [h, hv] at h'; exact (Option.some.inj h').symm
noncomputable def baseOk : Expr → Bool
  | .Call (.Name _ _) [] [] _ => false
  | _ => true
noncomputable def notSet : Expr → Bool
  | .Set _ _ _ => false
  | _ => true
noncomputable def notComp : Expr → Bool
  | .ListComp _ _ _ _ => false
  | .SetComp _ _ _ _ => false
  | .DictComp _ _ _ _ _ => false
  | _ => true
noncomputable def keepV (F : Fm) : Value → Bool
  | .builtin _ => true
  | .type _ => true
  | .ref a => F.g.keeps.contains a
  | _ => false
noncomputable def keepB (F : Fm) : AV → Bool
  | .val v => keepV F v
  | _ => false
noncomputable def wPart (r : Rec) (F : Fm) (e : Option Expr) (ρ : AEnv) (H : AHs) (Q : AV → AEnv → AHs → Prop) (X : AX) : Prop := match e with
  | Option.none => Q .none ρ H
  | some e => r.E F e ρ H Q X
noncomputable def wConst (k : Const) (ρ : AEnv) (H : AHs) (Q : AV → AEnv → AHs → Prop) : Prop := match k with
  | .int i => Q (.int i) ρ H
  | .str s => Q (.str s) ρ H
  | .none => Q .none ρ H
  | .bool b => Q (.bool b) ρ H
  | _ => False
noncomputable def sliceOf (e : Expr) : Option (Option Expr × Option Expr × Pos) := match lookE e with
  | .slice lo hi st sp => (match st with
    | Option.none => some (lo, hi, sp)
    | some _ => Option.none)
  | _ => Option.none
inductive CallForm where
  | name (x : Str) (p : Pos)
  | meth (o : Expr) (name : Str) (apos : Pos)
  | other
noncomputable def callForm (f : Expr) (kw : List Keyword) : CallForm := match kw with
  | [] => (match lookE f with
    | .name x p => .name x p
    | .attr o name apos => .meth o name apos
    | _ => .other)
  | _ :: _ => .other
noncomputable def isUSub : UnaryOp → Bool
  | .USub => true
  | _ => false
noncomputable def one1 {α β : Type} (as : List α) (bs : List β) : Option (α × β) := match as with
  | [a] => (match bs with
    | [b] => some (a, b)
    | _ => Option.none)
  | _ => Option.none
noncomputable def bothNil {α β : Type} (as : List α) (bs : List β) : Bool := as.isEmpty && bs.isEmpty
noncomputable def stepE (r : Rec) (F : Fm) (e : Expr) (ρ : AEnv) (H : AHs) (Q : AV → AEnv → AHs → Prop) (X : AX) : Prop := match e with
  | .Constant k _ _ => wConst k ρ H Q
  | .Name x _ => wName F x ρ H Q
  | .BinOp l op rr _ => r.E F l ρ H (fun a ρ₁ H₁ => r.E F rr ρ₁ H₁ (fun b ρ₂ H₂ => wBin F op a b ρ₂ H₂ Q X) X) X
  | .Compare l ops rs _ => (match one1 ops rs with
    | some (op, rr) => wOk (notSet rr) (r.E F l ρ H (fun a ρ₁ H₁ => r.E F rr ρ₁ H₁ (fun b ρ₂ H₂ => wCmp F op a b ρ₂ H₂ Q X) X) X)
    | Option.none => False)
  | .UnaryOp op x _ => wOk (isUSub op) (r.E F x ρ H (fun a ρ₁ H₁ => wNeg F a ρ₁ H₁ Q X) X)
  | .IfExp t b o _ => r.B F t ρ H (fun q ρ₁ H₁ => wIf q (r.E F b ρ₁ H₁ Q X) (r.E F o ρ₁ H₁ Q X)) X
  | .List es p => r.Es F es ρ H (fun as ρ₁ H₁ => as.length ≤ 1000000 ∧ wIf (F.own p) (∀ l, Q (.ref l) ρ₁ (one l (oList as) :: H₁)) (Q (.list as) ρ₁ H₁)) X
  | .Tuple es _ _ => r.Es F es ρ H (fun as ρ₁ H₁ => as.length ≤ 1000000 ∧ Q (.tup as) ρ₁ H₁) X
  | .Dict ks vs _ => wOk (bothNil ks vs) (∀ d, Q (.ref d) ρ (one d (oDict F.g.prog F.g.w [] 0) :: H))
  | .Subscript v s p => (match sliceOf s with
    | some (lo, hi, sp) => r.E F v ρ H (fun a ρ₁ H₁ => wPart r F lo ρ₁ H₁ (fun l ρ₂ H₂ => wPart r F hi ρ₂ H₂ (fun h ρ₃ H₃ => wIf (F.own p) (WSliceO F sp a l h ρ₃ H₃ Q) (WSlice F sp a l h ρ₃ H₃ Q)) X) X) X
    | Option.none => wOk (!isSlice s) (r.E F v ρ H (fun a ρ₁ H₁ => r.E F s ρ₁ H₁ (fun b ρ₂ H₂ => wSub F v s a b ρ₂ H₂ Q X) X) X))
  | .Attribute v attr _ => wOk (baseOk v) (r.E F v ρ H (fun a ρ₁ H₁ => W1 F VR (fun v => getAttr v attr true) a ρ₁ H₁ Q X) X)
  | .NamedExpr t v _ => r.E F v ρ H (fun a ρ₁ H₁ => r.A F t a ρ₁ H₁ (fun z_ => Q a) X) X
  | .Call f args kw pos => (match callForm f kw with
    | .name x p => wOk (plainArgs args) (r.E F (.Name x p) ρ H (fun f ρ₁ H₁ => wOk (keepB F f) (r.Es F args ρ₁ H₁ (fun as ρ₂ H₂ => WC F f as ρ₂ H₂ Q X) X)) X)
    | .meth o name apos => wIf (plainArgs args && decide (args.length < 30) && baseOk o && (apos.endLine == pos.line)) (r.E F o ρ H (fun a ρ₁ H₁ => WMeth F a name args pos ρ₁ H₁ Q X) X) (WE F (.Call f args kw pos) ρ H Q X)
    | .other => WE F (.Call f args kw pos) ρ H Q X)
  | e => WE F e ρ H Q X
noncomputable def wAll (r : Rec) (F : Fm) (op : BoolOp) : List Expr → AEnv → AHs → (Bool → AEnv → AHs → Prop) → AX → Prop
  | [], _, _, _, _ => False
  | [x], ρ, H, Q, X => r.B F x ρ H Q X
  | x :: y :: rest, ρ, H, Q, X => match op with
    | .And => r.B F x ρ H (fun b ρ₁ H₁ => wIf b (wAll r F op (y :: rest) ρ₁ H₁ Q X) (Q false ρ₁ H₁)) X
    | .Or => r.B F x ρ H (fun b ρ₁ H₁ => wIf b (Q true ρ₁ H₁) (wAll r F op (y :: rest) ρ₁ H₁ Q X)) X
noncomputable def isNot : UnaryOp → Bool
  | .Not => true
  | _ => false
noncomputable def stepB (r : Rec) (F : Fm) (e : Expr) (ρ : AEnv) (H : AHs) (Q : Bool → AEnv → AHs → Prop) (X : AX) : Prop := match e with
  | .UnaryOp op x _ => wOk (isNot op) (r.B F x ρ H (fun b => Q (!b)) X)
  | .BoolOp op vs _ => wAll r F op vs ρ H Q X
  | .Compare l ops rs _ => (match one1 ops rs with
    | some (op, rr) => wOk (notSet rr) (r.E F l ρ H (fun a ρ₁ H₁ => r.E F rr ρ₁ H₁ (fun b ρ₂ H₂ => wCmp F op a b ρ₂ H₂ (asB Q) X) X) X)
    | Option.none => False)
  | e => wOk (plainTest e) (r.E F e ρ H (fun a ρ₁ H₁ => wTruth F a ρ₁ H₁ Q X) X)
noncomputable def starOf (e : Expr) : Option Expr := match lookE e with
  | .star e _ => some e
  | _ => Option.none
noncomputable def wEs (r : Rec) (F : Fm) : List Expr → AEnv → AHs → (List AV → AEnv → AHs → Prop) → AX → Prop
  | [], ρ, H, Q, _ => Q [] ρ H
  | e :: rest, ρ, H, Q, X => match starOf e with
    | some e' => r.E F e' ρ H (fun a ρ₁ H₁ => ∃ xs, SV H₁ a xs ∧ xs.length ≤ 1000000 ∧ wEs r F rest ρ₁ H₁ (fun as ρ₂ H₂ => Q (xs ++ as) ρ₂ H₂) X) X
    | Option.none => r.E F e ρ H (fun a ρ₁ H₁ => wEs r F rest ρ₁ H₁ (fun as ρ₂ H₂ => Q (a :: as) ρ₂ H₂) X) X
noncomputable def wAs (r : Rec) (F : Fm) : List Expr → List AV → AEnv → AHs → (Unit → AEnv → AHs → Prop) → AX → Prop
  | [], _, ρ, H, Q, _ => Q () ρ H
  | t :: ts, [], _, _, _, _ => False
  | t :: ts, a :: as, ρ, H, Q, X => r.A F t a ρ H (fun z_ ρ₁ H₁ => wAs r F ts as ρ₁ H₁ Q X) X
noncomputable def stepA (r : Rec) (F : Fm) (t : Expr) (a : AV) (ρ : AEnv) (H : AHs) (Q : Unit → AEnv → AHs → Prop) (X : AX) : Prop := match t with
  | .Name x _ => wStore F x a ρ H (Q ())
  | .Attribute o attr _ => r.E F o ρ H (fun ov ρ₁ H₁ => W2 F rUnit (fun u v => setAttr u attr v) ov a ρ₁ H₁ Q X) X
  | .Subscript o i _ => r.E F o ρ H (fun ov ρ₁ H₁ => r.E F i ρ₁ H₁ (fun iv ρ₂ H₂ => W3 F rUnit setItem ov iv a ρ₂ H₂ Q X) X) X
  | .Tuple ts _ _ => (match a with
    | .tup as => wOk (F.hn && plainTs ts && (ts.length == as.length)) (wAs r F ts as ρ H Q X)
    | _ => False)
  | _ => False
noncomputable def wAllT (r : Rec) (F : Fm) (a : AV) : List Expr → AEnv → AHs → (Unit → AEnv → AHs → Prop) → AX → Prop
  | [], ρ, H, Q, _ => Q () ρ H
  | t :: ts, ρ, H, Q, X => r.A F t a ρ H (fun z_ ρ₁ H₁ => wAllT r F a ts ρ₁ H₁ Q X) X
noncomputable def tupVal : Expr → Bool
  | .Subscript _ _ _ => true
  | .IfExp _ _ _ _ => true
  | .Name _ _ => true
  | .Call _ _ _ _ => true
  | _ => false
noncomputable def asgOk (ts : List Expr) (v : Expr) : Bool := match ts with
  | [] => false
  | t :: rest => (match rest with
    | _ :: _ => true
    | [] => (match t with
      | .Name _ _ => notComp v
      | .Attribute _ _ _ => true
      | .Subscript _ _ _ => true
      | .Tuple _ _ _ => tupVal v
      | _ => false))
noncomputable def globVal (F : Fm) (x : Str) : Option Value := match F.raw.lookup x with
  | some .globalImplicit => (match F.g.globs.lookup x with
    | some v => some v
    | Option.none => F.g.blts.lookup x)
  | _ => Option.none
noncomputable def nmOk (F : Fm) : Option Str → Bool
  | Option.none => true
  | some n => F.kind n == some .local
inductive AugT where
  | name (x : Str)
  | attr (o : Expr) (a : Str)
  | sub (o i : Expr)
  | other
noncomputable def augT : Expr → AugT
  | .Name x _ => .name x
  | .Attribute o a _ => .attr o a
  | .Subscript o i _ => .sub o i
  | _ => .other
noncomputable def delOf : List Expr → Option (Expr × Expr)
  | [e] => (match lookE e with
    | .sub o i _ => some (o, i)
    | _ => Option.none)
  | _ => Option.none
noncomputable def raiseOf (e : Option Expr) (cause : Option Expr) : Option (Str × List Expr) := match e with
  | some e => (match lookE e with
    | .call f args kw _ => (match callForm f kw with
      | .name x _ => (match cause with
        | Option.none => some (x, args)
        | some _ => Option.none)
      | _ => Option.none)
    | _ => Option.none)
  | Option.none => Option.none
noncomputable def handlerOf (hs : List ExceptHandler) (o f : List Stmt) : Option (Str × Option Str × Stmt × List Stmt) := match bothNil o f with
  | true => (match hs with
    | [h] => (match h with
      | .ExceptHandler t nm b _ => (match t with
        | some t => (match lookE t with
          | .name x _ => (match b with
            | b₀ :: suite => some (x, nm, b₀, suite)
            | [] => Option.none)
          | _ => Option.none)
        | Option.none => Option.none))
    | _ => Option.none)
  | false => Option.none
noncomputable def wRet (r : Rec) (F : Fm) (e : Option Expr) (ρ : AEnv) (H : AHs) (Q : AF → AEnv → AHs → Prop) (X : AX) : Prop := match e with
  | some e => r.E F e ρ H (fun a => Q (.ret a)) X
  | Option.none => False
set_option tactic.hygienic true in
noncomputable def wAug (r : Rec) (F : Fm) (t : AugT) (op : Operator) (v : Expr) (ρ : AEnv) (H : AHs) (Q : AF → AEnv → AHs → Prop) (X : AX) : Prop := match t with
  | .name x => wOk (F.stores x) (match ρ.lookup x with
    | some a => r.E F v ρ H (fun b ρ₁ H₁ => wInp F op a b ρ₁ H₁ (fun c ρ₂ H₂ => Q .next (AEnv.put ρ₂ x c) H₂) X) X
    | Option.none => False)
  | .attr o attr => r.E F o ρ H (fun ov ρ₁ H₁ => W1 F VR (fun v => getAttr v attr true) ov ρ₁ H₁ (fun old ρ₂ H₂ => r.E F v ρ₂ H₂ (fun b ρ₃ H₃ => wInp F op old b ρ₃ H₃ (fun c ρ₄ H₄ => W2 F rUnit (fun u v => setAttr u attr v) ov c ρ₄ H₄ (fun _ => Q .next) X) X) X) X) X
  | .sub o i => wOk (!isSlice i) (r.E F o ρ H (fun ov ρ₀ H₀ => r.E F i ρ₀ H₀ (fun iv ρ₁ H₁ => W2 F VR getItem ov iv ρ₁ H₁ (fun old ρ₂ H₂ => r.E F v ρ₂ H₂ (fun b ρ₃ H₃ => wInp F op old b ρ₃ H₃ (fun c ρ₄ H₄ => W3 F rUnit setItem ov iv c ρ₄ H₄ (fun _ => Q .next) X) X) X) X) X) X)
  | .other => False
noncomputable def wRaise (r : Rec) (F : Fm) (x : Str) (args : List Expr) (ρ : AEnv) (H : AHs) (X : AX) : Prop := wOk (F.hn && plainArgs args) (match globVal F x with
    | some v => WRaise F v ∧ r.Es F args ρ H (fun as ρ₁ H₁ => as.length ≤ 1000 ∧ X v as ρ₁ H₁) X
    | Option.none => False)
noncomputable def wTry (r : Rec) (F : Fm) (body : List Stmt) (x : Str) (nm : Option Str) (b₀ : Stmt) (suite : List Stmt) (ρ : AEnv) (H : AHs) (Q : AF → AEnv → AHs → Prop) : Prop := wOk (F.fn && F.hn && nmOk F nm) (match globVal F x with
    | some v => r.S F body ρ H Q (fun cls args ρ' H' => WCatch F cls v ∧ r.S { F with hn := false } (b₀ :: suite) (bindAs nm ρ' (.exc cls args)) H' (fun f ρ₂ H₂ => Q f (goneAs nm ρ₂) H₂) noX)
    | Option.none => False)
set_option tactic.hygienic true in
noncomputable def stepX (r : Rec) (F : Fm) (st : Stmt) (ρ : AEnv) (H : AHs) (Q : AF → AEnv → AHs → Prop) (X : AX) : Prop := match st with
  | .Return e _ => wRet r F e ρ H Q X
  | .Pass _ => Q .next ρ H
  | .Break _ => Q .brk ρ H
  | .Continue _ => Q .cont ρ H
  | .If t b o _ => r.B F t ρ H (fun q ρ₁ H₁ => wIf q (r.S F b ρ₁ H₁ Q X) (r.S F o ρ₁ H₁ Q X)) X
  | .Expr e _ => wOk (notComp e) (r.E F e ρ H (fun _ => Q .next) X)
  | .Assign ts v p => wIf (asgOk ts v && plainTs ts) (r.E F v ρ H (fun a ρ₁ H₁ => wAllT r F a ts ρ₁ H₁ (fun _ => Q .next) X) X) (WX F (.Assign ts v p) ρ H Q X)
  | .AugAssign t op v _ => wAug r F (augT t) op v ρ H Q X
  | .Delete ts _ => (match delOf ts with
    | some (o, i) => r.E F o ρ H (fun ov ρ₁ H₁ => r.E F i ρ₁ H₁ (fun iv ρ₂ H₂ => W2 F rUnit delItem ov iv ρ₂ H₂ (fun _ => Q .next) X) X) X
    | Option.none => False)
  | .Raise e cause _ => (match raiseOf e cause with
    | some (x, args) => wRaise r F x args ρ H X
    | Option.none => False)
  | .Try body hs o f p => (match handlerOf hs o f with
    | some (x, nm, b₀, suite) => wTry r F body x nm b₀ suite ρ H Q
    | Option.none => False)
  | st => WX F st ρ H Q X
set_option tactic.hygienic true in
noncomputable def wS (r : Rec) (F : Fm) : List Stmt → AEnv → AHs → (AF → AEnv → AHs → Prop) → AX → Prop
  | [], ρ, H, Q, _ => Q .next ρ H
  | st :: rest, ρ, H, Q, X => stepX r F st ρ H (andThen (Gh (fun ρ' H' => wS r F rest ρ' H' Q X)) Q) X
noncomputable def wRec : Nat → Rec
  | 0 => ⟨WE, fun F e ρ H Q X => False, fun z_ z_ z_ z_ z_ z_ => False, fun z_ z_ z_ z_ z_ z_ z_ => False, fun z_ z_ z_ z_ z_ z_ => False⟩
  | n + 1 => ⟨stepE (wRec n), stepB (wRec n), wEs (wRec n), stepA (wRec n), wS (wRec n)⟩
end Mine.Internal
end

section
open PySem PySem.W PySem.Calls PyProof.Rows
set_option Elab.async false
set_option maxRecDepth 10000
set_option linter.unusedVariables false
set_option linter.unusedSimpArgs false
namespace Mine.Internal
section
variable {F : Fm} {c : Cx} {ρ : AEnv} {H : AHs} {X : AX} {QV : AV → AEnv → AHs → Prop} {QB : Bool → AEnv → AHs → Prop} {QU : Unit → AEnv → AHs → Prop} {Q : AF → AEnv → AHs → Prop}
structure Rec.Sound (r : Rec) : Prop where
  E : ∀ F c, Knows F c → ∀ e ρ H Q X, r.E F e ρ H Q X → TE c e ρ H Q X
  B : ∀ F c, Knows F c → ∀ e ρ H Q X, r.B F e ρ H Q X → TB c e ρ H Q X
  Es : ∀ F c, Knows F c → ∀ es pos ρ H Q X, r.Es F es ρ H Q X → TEs c es pos ρ H Q X
  A : ∀ F c, Knows F c → ∀ t a ρ H Q X, r.A F t a ρ H Q X → TA c t a ρ H Q X
  S : ∀ F c, Knows F c → ∀ ss ρ H Q X, r.S F ss ρ H Q X → TS c ss ρ H Q X
theorem wOk_elim {b : Bool} {A : Prop} (h : wOk b A) : b = true ∧ A := by cases b; exact h.elim; exact ⟨rfl, h⟩
theorem wIf_elim {b : Bool} {A B : Prop} (h : wIf b A B) : (b = true ∧ A) ∨ (b = false ∧ B) := by cases b; exact .inr ⟨rfl, h⟩; exact .inl ⟨rfl, h⟩
theorem Knows.kindG (k : Knows F c) {x : Str} (h : F.raw.lookup x = some .globalImplicit) : c.env.kindOf x = some .globalImplicit := k.kind x _ (by unfold Fm.kind; rw [h])
set_option tactic.hygienic true in
theorem wName_sound {x : Str} {pos : Pos} (k : Knows F c) (h : wName F x ρ H QV) : TE c (.Name x pos) ρ H QV X := by
  unfold wName at h
  split at h
  · rename_i hk
    have hd := (k.good x _ hk).1
    split at h
    · rename_i v hv
      exact TE.glob k.ok (k.kindG hk) (by rw [k.K]; exact k.gok.glob x v hv) h hd
    · split at h
      · rename_i v hv
        obtain ⟨h1, h2, h3⟩ := k.gok.blt x v hv
        exact TE.blt k.ok (k.kindG hk) (by rw [k.K]; exact h1) h2 h3 h hd
      · exact h.elim
  · rename_i hk hne
    obtain ⟨hd, hd2⟩ := k.good x _ hne
    split at h
    · rename_i a ha
      exact TE.var k.ok ha h hd hd2
    · exact h.elim
  · exact h.elim
set_option tactic.hygienic true in
theorem globVal_evals {x : Str} {pos : Pos} {v : Value} (k : Knows F c) (h : globVal F x = some v) : Evals c (.Name x pos) v := by
  unfold globVal at h
  split at h
  · rename_i hk
    have hd := (k.good x _ hk).1
    split at h
    · rename_i v' hv
      cases h
      exact Evals.glob k.ok (k.kindG hk) (by rw [k.K]; exact k.gok.glob x v hv) hd
    · obtain ⟨h1, h2, h3⟩ := k.gok.blt x v h
      exact Evals.blt k.ok (k.kindG hk) (by rw [k.K]; exact h1) h2 h3 hd
  · cases h
set_option tactic.hygienic true in
theorem globVal_TE {x : Str} {pos : Pos} {v : Value} (k : Knows F c) (h : globVal F x = some v) (hq : QV (AV.of v) ρ H) : TE c (.Name x pos) ρ H QV X := by
  unfold globVal at h
  split at h
  · rename_i hk
    have hd := (k.good x _ hk).1
    split at h
    · rename_i v' hv
      cases h
      exact TE.glob k.ok (k.kindG hk) (by rw [k.K]; exact k.gok.glob x v hv) hq hd
    · obtain ⟨h1, h2, h3⟩ := k.gok.blt x v h
      exact TE.blt k.ok (k.kindG hk) (by rw [k.K]; exact h1) h2 h3 hq hd
  · cases h
theorem T2.addLF {a b : AV} {xs ys : List AV} (hl : LV H a xs) (hb : LV H b ys) (hn : xs.length + ys.length ≤ 1000000) (h : QV (.list (xs ++ ys)) ρ H) : T2 c VR (binaryOp .Add) a b ρ H QV X := fun Z s v w S h1 h2 =>
  wpAny_mono (T2.addL (QV := fun a ρ' H' => ∃ D ys H'', a = .ref D ∧ H' = one D (oList ys) :: H'' ∧ QV (.list ys) ρ' H'') (X := X) hl hb hn (fun D => ⟨D, _, _, rfl, rfl, h⟩) Z s v w S h1 h2) (fun z_ z_ p => p.frz) fun z_ z_ x => x
theorem twoInts_eq {a b : AV} {x y : Int} (h : twoInts a b = some (x, y)) : a = .int x ∧ b = .int y := by
  cases a <;> first | cases h | skip
  cases b <;> first | (cases h; done) | skip
  cases h; exact ⟨rfl, rfl⟩
theorem twoLists_eq {a b : AV} {x y : List AV} (h : twoLists a b = some (x, y)) : a = .list x ∧ b = .list y := by
  cases a <;> first | cases h | skip
  cases b <;> first | (cases h; done) | skip
  cases h; exact ⟨rfl, rfl⟩
set_option tactic.hygienic true in
theorem isNone_eq {a : AV} (h : a.isNone = true) : a = .none := by
  cases a <;> first | cases h | skip
  rename_i v
  cases v <;> first | rfl | cases h
theorem wBin_sound {op : Operator} {a b : AV} (k : Knows F c) (h : wBin F op a b ρ H QV X) : T2 c VR (binaryOp op) a b ρ H QV X := by
  unfold wBin at h
  cases hi : twoInts a b with
  | some p =>
    obtain ⟨x, y⟩ := p
    rw [hi] at h
    obtain ⟨rfl, rfl⟩ := twoInts_eq hi
    cases op <;> first
      | exact W2.h h c k
      | exact T2.add h
      | exact T2.sub h
      | exact T2.mul h.1 h.2
      | exact T2.floordiv h.1.1 h.1.2 h.2
      | exact T2.mod h.1.1 h.1.2 h.2
      | exact T2.pow h.1.1 h.1.2 h.2
      | exact T2.and h
  | none =>
    rw [hi] at h
    cases hl : twoLists a b with
    | none => rw [hl] at h; exact W2.h h c k
    | some p =>
      obtain ⟨x, y⟩ := p
      rw [hl] at h
      obtain ⟨rfl, rfl⟩ := twoLists_eq hl
      cases op <;> first
        | exact W2.h h c k
        | exact T2.addLF .fz .fz h.1 h.2
theorem wInp_sound {op : Operator} {a b : AV} (k : Knows F c) (h : wInp F op a b ρ H QV X) : T2 c VR (inplaceOp op) a b ρ H QV X := by
  unfold wInp at h
  cases hi : twoInts a b with
  | some p =>
    obtain ⟨x, y⟩ := p
    rw [hi] at h
    obtain ⟨rfl, rfl⟩ := twoInts_eq hi
    cases op <;> first
      | exact W2.h h c k
      | exact T2.iadd h
      | exact T2.isub h
      | exact T2.imul h.1 h.2
  | none => rw [hi] at h; exact W2.h h c k
theorem wCmp_sound {op : CmpOp} {a b : AV} (k : Knows F c) (h : wCmp F op a b ρ H QV X) : T2 c VR (compareOp op) a b ρ H QV X := by
  unfold wCmp at h
  cases hk : cmpKind op with
  | «in» => rw [hk] at h; exact W2.h h c k
  | is =>
    rw [hk] at h
    cases hn : b.isNone with
    | true =>
      simp only [hn] at h
      cases isNone_eq hn
      cases op <;> first
        | exact W2.h h c k
        | exact T2.isNone h
        | exact T2.isNotNone h
    | false => simp only [hn] at h; exact W2.h h c k
  | ord =>
    rw [hk] at h
    cases hi : twoInts a b with
    | some p =>
      obtain ⟨x, y⟩ := p
      simp only [hi] at h
      obtain ⟨rfl, rfl⟩ := twoInts_eq hi
      cases op <;> first
        | exact W2.h h c k
        | exact T2.lt h
        | exact T2.le h
        | exact T2.gt h
        | exact T2.ge h
        | exact T2.eqInt h
        | exact T2.neInt h
    | none => simp only [hi] at h; exact W2.h h c k
theorem wNeg_sound {a : AV} (k : Knows F c) (h : wNeg F a ρ H QV X) : T1 c VR (unaryOp .USub) a ρ H QV X := by
  cases a <;> first
    | exact W1.h h c k
    | exact T1.neg h
set_option tactic.hygienic true in
theorem wTruth_sound {a : AV} (k : Knows F c) (h : wTruth F a ρ H QB X) : TT c a ρ H QB X := by
  cases a <;> first
    | exact W1.h h c k
    | exact TT.list .fz h.1 h.2
    | skip
  rename_i v
  cases v <;> first
    | exact W1.h h c k
    | exact TT.bool h
    | exact TT.none h
set_option tactic.hygienic true in
theorem asB_ex {v : AV} (h : asB QB v ρ H) : ∃ t, v = AV.bool t ∧ QB t ρ H := by
  cases v <;> first | exact h.elim | skip
  rename_i v
  cases v <;> first | exact h.elim | exact ⟨_, rfl, h⟩
set_option tactic.hygienic true in
theorem wItem_elim {xs : List AV} {k : Int} {Q : AV → Prop} (h : wItem xs k Q) : ∃ x j, Q x ∧ xs[j]? = some x ∧ ((0 ≤ k ∧ k < 2 ^ 63 ∧ j = k.toNat) ∨ (k < 0 ∧ -(xs.length : Int) ≤ k ∧ -2 ^ 63 ≤ k ∧ j = (k + xs.length).toNat)) := by
  unfold wItem at h
  split at h
  · rename_i n
    split at h
    · rename_i x hx
      exact ⟨x, n, h.2, hx, .inl ⟨Int.natCast_nonneg n, h.1, rfl⟩⟩
    · exact h.elim
  · rename_i n
    obtain ⟨h1, h⟩ := wOk_elim h
    have h1 : n < xs.length := by simpa using h1
    split at h
    · rename_i x hx
      have h2 := h.1
      refine ⟨x, _, h.2, hx, .inr ⟨?_, ?_, ?_, ?_⟩⟩
      · rw [Int.negSucc_eq]; omega
      · rw [Int.negSucc_eq]; omega
      · rw [Int.negSucc_eq]; omega
      · rw [Int.negSucc_eq]; omega
    · exact h.elim
theorem seqIndex_of {n : Nat} {k : Int} {j : Nat} (hj : j < n) (h : (0 ≤ k ∧ k < 2 ^ 63 ∧ j = k.toNat) ∨ (k < 0 ∧ -(n : Int) ≤ k ∧ -2 ^ 63 ≤ k ∧ j = (k + n).toNat)) : seqIndex? k n = some j := by
  unfold seqIndex?
  rcases h with ⟨h1, h2, h3⟩ | ⟨h1, h2, h3, h4⟩
  · have h0 : ¬ k < 0 := by lia
    simp only [if_neg h0, Bool.and_eq_true, decide_eq_true_eq]
    rw [if_pos ⟨by omega, by lia⟩, h3]
  · simp only [if_pos h1, Bool.and_eq_true, decide_eq_true_eq]
    rw [if_pos ⟨by lia, by lia⟩, h4]
theorem itemOf_eq {a b : AV} {xs : List AV} {k : Int} (h : itemOf a b = some (xs, k)) : b = .int k ∧ (a = .list xs ∨ a = .tup xs) := by
  cases a <;> first | cases h | skip
  · cases b <;> first | (cases h; done) | skip
    cases h; exact ⟨rfl, .inl rfl⟩
  · cases b <;> first | (cases h; done) | skip
    cases h; exact ⟨rfl, .inr rfl⟩
theorem wSub_sound {value slice : Expr} {a b : AV} (k : Knows F c) (hs : isSlice slice = false) (h : wSub F value slice a b ρ H QV X) : T2 c VR (subscriptTail value slice) a b ρ H QV X := by
  unfold wSub at h
  cases hi : itemOf a b with
  | some p =>
    obtain ⟨xs, i⟩ := p
    rw [hi] at h
    obtain ⟨x, j, hq, hx, h'⟩ := wItem_elim h
    clear h
    have h := h'
    obtain ⟨rfl, rfl | rfl⟩ := itemOf_eq hi
    · rcases h with h | h
      · exact T2.item .fz h.1 h.2.1 (by rw [← h.2.2]; exact hx) hq hs
      · exact T2.itemNeg .fz h.1 h.2.1 h.2.2.1 (by rw [← h.2.2.2]; exact hx) hq hs
    · refine T2.itemT ?_ ?_ (seqIndex_of (List.getElem?_eq_some_iff.mp hx).1 h) hx hq hs
      · rcases h with h | h <;> lia
      · rcases h with h | h <;> lia
  | none => rw [hi] at h; exact W2.h h c k
set_option tactic.hygienic true in
theorem keepB_sound {f : AV} (k : Knows F c) (h : keepB F f = true) : ∃ fv, f = .val fv ∧ Keepy c fv := by
  cases f <;> first | cases h | skip
  rename_i v
  cases v <;> first | (cases h; done) | skip
  · exact ⟨_, rfl, .inr (.inl ⟨_, rfl⟩)⟩
  · exact ⟨_, rfl, .inl ⟨_, rfl⟩⟩
  · exact ⟨_, rfl, .inr (.inr (by rw [k.K]; exact k.gok.keep _ h))⟩
set_option tactic.hygienic true in
theorem baseOk_sound {o : Expr} {name : Str} {env : Env} {t : Sem Value} (h : baseOk o = true) : attributeBase o name env t = t := by
  cases o <;> first | rfl | skip
  rename_i f args kw p
  cases f <;> first | rfl | skip
  cases args <;> first | rfl | skip
  cases kw <;> first | rfl | cases h
theorem notSet_marks {op : CmpOp} {e : Expr} (h : notSet e = true) : behindInMarks op e = false := by
  cases e <;> first | rfl | cases h
theorem notComp_swaps {e : Expr} {t : Option Expr} {l : Nat} {env : Env} (h : notComp e = true) : swapsWith e t l env = pure false := by
  cases e <;> first | rfl | cases h
theorem callForm_name {f : Expr} {kw : List Keyword} {x : Str} {p : Pos} (h : callForm f kw = .name x p) : f = .Name x p ∧ kw = [] := by
  cases kw with
  | cons _ _ => cases h
  | nil =>
    unfold callForm at h
    cases hv : lookE f <;> rw [hv] at h <;> first | (cases h; done) | skip
    cases h; exact ⟨lookE_is hv rfl, rfl⟩
theorem callForm_meth {f o : Expr} {kw : List Keyword} {x : Str} {p : Pos} (h : callForm f kw = .meth o x p) : f = .Attribute o x p ∧ kw = [] := by
  cases kw with
  | cons _ _ => cases h
  | nil =>
    unfold callForm at h
    cases hv : lookE f <;> rw [hv] at h <;> first | (cases h; done) | skip
    cases h; exact ⟨lookE_is hv rfl, rfl⟩
theorem one1_eq {α β : Type} {as : List α} {bs : List β} {a : α} {b : β} (h : one1 as bs = some (a, b)) : as = [a] ∧ bs = [b] := by
  cases as with
  | nil => cases h
  | cons x xs =>
    cases xs with
    | cons _ _ => cases h
    | nil =>
      cases bs with
      | nil => cases h
      | cons y ys =>
        cases ys with
        | cons _ _ => cases h
        | nil => cases h; exact ⟨rfl, rfl⟩
set_option tactic.hygienic true in
theorem sliceOf_eq {s : Expr} {lo hi : Option Expr} {sp : Pos} (h : sliceOf s = some (lo, hi, sp)) : s = .Slice lo hi Option.none sp := by
  unfold sliceOf at h
  cases hv : lookE s <;> rw [hv] at h <;> first | (cases h; done) | skip
  rename_i l u st p
  cases st <;> cases h
  exact lookE_is hv rfl
theorem bothNil_eq {α β : Type} {as : List α} {bs : List β} (h : bothNil as bs = true) : as = [] ∧ bs = [] := by
  cases as <;> cases bs <;> first | exact ⟨rfl, rfl⟩ | cases h
theorem delOf_eq {ts : List Expr} {o i : Expr} (h : delOf ts = some (o, i)) : ∃ p, ts = [.Subscript o i p] := by
  cases ts with
  | nil => cases h
  | cons t ts =>
    cases ts with
    | cons _ _ => cases h
    | nil =>
      unfold delOf at h
      dsimp only at h
      cases hv : lookE t <;> rw [hv] at h <;> first | (cases h; done) | skip
      cases h
      exact ⟨_, by rw [lookE_is hv rfl]⟩
set_option tactic.hygienic true in
theorem raiseOf_eq {e cause : Option Expr} {x : Str} {args : List Expr} (h : raiseOf e cause = some (x, args)) : cause = Option.none ∧ ∃ p q, e = some (.Call (.Name x p) args [] q) := by
  cases e with
  | none => cases h
  | some e =>
    unfold raiseOf at h
    dsimp only at h
    cases hv : lookE e <;> rw [hv] at h <;> first | (cases h; done) | skip
    rename_i f as kw q
    dsimp only at h
    cases hc : callForm f kw <;> rw [hc] at h <;> first | (cases h; done) | skip
    cases cause <;> cases h
    obtain ⟨rfl, rfl⟩ := callForm_name hc
    exact ⟨rfl, _, _, by rw [lookE_is hv rfl]⟩
theorem handlerOf_eq {hs : List ExceptHandler} {o f : List Stmt} {x : Str} {nm : Option Str} {b₀ : Stmt} {suite : List Stmt} (h : handlerOf hs o f = some (x, nm, b₀, suite)) :
    o = [] ∧ f = [] ∧ ∃ p q, hs = [.ExceptHandler (some (.Name x p)) nm (b₀ :: suite) q] := by
  unfold handlerOf at h
  cases hb : bothNil o f <;> rw [hb] at h
  · cases h
  · obtain ⟨rfl, rfl⟩ := bothNil_eq hb
    cases hs with
    | nil => cases h
    | cons e es =>
      cases es with
      | cons _ _ => cases h
      | nil =>
        obtain ⟨t, n, b, q⟩ := e
        cases t with
        | none => cases h
        | some t =>
          dsimp only at h
          cases hv : lookE t <;> rw [hv] at h <;> first | (cases h; done) | skip
          cases b <;> cases h
          exact ⟨rfl, rfl, _, _, by rw [lookE_is hv rfl]⟩
end
end Mine.Internal
end

section
open PySem PySem.W PySem.Calls PyProof.Rows
set_option Elab.async false
set_option maxRecDepth 10000
set_option linter.unusedVariables false
set_option linter.unusedSimpArgs false
namespace Mine.Internal
section
variable {F : Fm} {c : Cx} {ρ : AEnv} {H : AHs} {X : AX} {QV : AV → AEnv → AHs → Prop} {QB : Bool → AEnv → AHs → Prop} {QU : Unit → AEnv → AHs → Prop} {Q : AF → AEnv → AHs → Prop} {r : Rec}
theorem T.impQ {α β : Type} {rel : ZM → β → α → Prop} {t : Sem α} {Q Q' : β → AEnv → AHs → Prop} (h : T c rel t ρ H Q X) (hq : ∀ b ρ' H', Q b ρ' H' → Q' b ρ' H') : T c rel t ρ H Q' X := h.imp hq fun z_ z_ z_ z_ x => x
theorem wPart_sound (S : r.Sound) (k : Knows F c) {e : Option Expr} (h : wPart r F e ρ H QV X) : T c VR (evalPart e c.env) ρ H QV X := by
  cases e with
  | none => exact T.partNone h
  | some e => exact T.partSome (S.E F c k e ρ H QV X h)
theorem wConst_sound {k : Const} {n : Nat} {p : Pos} (h : wConst k ρ H QV) : TE c (.Constant k n p) ρ H QV X := by
  cases k <;> first
    | exact TE.int h
    | exact TE.str h
    | exact TE.none h
    | exact TE.bool h
    | exact h.elim
set_option tactic.hygienic true in
theorem stepE_sound (S : r.Sound) (k : Knows F c) {e : Expr} (h : stepE r F e ρ H QV X) : TE c e ρ H QV X := by
  cases e
  case Constant => exact wConst_sound h
  case Name => exact wName_sound k h
  case BinOp => exact TE.binop ((S.E F c k _ _ _ _ _ h).impQ fun a ρ₁ H₁ h => (S.E F c k _ _ _ _ _ h).impQ fun b ρ₂ H₂ h => wBin_sound k h)
  case Compare l ops rs p =>
    unfold stepE at h
    dsimp only at h
    cases ho : one1 ops rs with
    | none => rw [ho] at h; exact h.elim
    | some q =>
      obtain ⟨op, rr⟩ := q
      obtain ⟨rfl, rfl⟩ := one1_eq ho
      obtain ⟨h0, h⟩ := wOk_elim h
      exact TE.cmp ((S.E F c k _ _ _ _ _ h).impQ fun a ρ₁ H₁ h => (S.E F c k _ _ _ _ _ h).impQ fun b ρ₂ H₂ h => wCmp_sound k h) (notSet_marks h0)
  case UnaryOp op x p =>
    cases op <;> first | exact h.elim | exact TE.neg ((S.E F c k _ _ _ _ _ h).impQ fun a ρ₁ H₁ h => wNeg_sound k h)
  case IfExp =>
    exact TE.ifExp ((S.B F c k _ _ _ _ _ h).impQ fun b ρ₁ H₁ h => by
      cases b
      · exact S.E F c k _ _ _ _ _ h
      · exact S.E F c k _ _ _ _ _ h)
  case List es p =>
    unfold stepE at h
    dsimp only at h
    cases hp : F.own p with
    | true => rw [hp] at h; exact TE.listO ((S.Es F c k _ _ _ _ _ _ h).impQ fun a ρ₁ H₁ h => h)
    | false => rw [hp] at h; exact TE.list ((S.Es F c k _ _ _ _ _ _ h).impQ fun a ρ₁ H₁ h => h)
  case Tuple => exact TE.tup (S.Es F c k _ _ _ _ _ _ h)
  case Dict =>
    obtain ⟨h0, h⟩ := wOk_elim h
    obtain ⟨rfl, rfl⟩ := bothNil_eq h0
    exact TE.dict0 (by rw [k.prog, k.w]; exact h)
  case Subscript v s p =>
    unfold stepE at h
    dsimp only at h
    cases hs : sliceOf s with
    | some q =>
      obtain ⟨lo, hi, sp⟩ := q
      rw [hs] at h
      cases sliceOf_eq hs
      cases hp : F.own p with
      | true =>
        rw [hp] at h
        exact TE.sliceO ((S.E F c k _ _ _ _ _ h).impQ fun a ρ₁ H₁ h => (wPart_sound S k h).impQ fun l ρ₂ H₂ h => (wPart_sound S k h).impQ fun u ρ₃ H₃ h => WSliceO.h h)
      | false =>
        rw [hp] at h
        exact TE.slice ((S.E F c k _ _ _ _ _ h).impQ fun a ρ₁ H₁ h => (wPart_sound S k h).impQ fun l ρ₂ H₂ h => (wPart_sound S k h).impQ fun u ρ₃ H₃ h => WSlice.h h)
    | none =>
      rw [hs] at h
      obtain ⟨h0, h⟩ := wOk_elim h
      exact TE.sub ((S.E F c k _ _ _ _ _ h).impQ fun a ρ₁ H₁ h => (S.E F c k _ _ _ _ _ h).impQ fun b ρ₂ H₂ h => wSub_sound k (by simpa using h0) h)
  case Attribute =>
    obtain ⟨h0, h⟩ := wOk_elim h
    exact TE.attr ((S.E F c k _ _ _ _ _ h).impQ fun a ρ₁ H₁ h => W1.h h c k) (baseOk_sound h0)
  case NamedExpr => exact TE.named ((S.E F c k _ _ _ _ _ h).impQ fun a ρ₁ H₁ h => S.A F c k _ _ _ _ _ _ h)
  case Call f args kw pos =>
    unfold stepE at h
    dsimp only at h
    cases hf : callForm f kw with
    | name x p =>
      rw [hf] at h
      obtain ⟨rfl, rfl⟩ := callForm_name hf
      obtain ⟨h0, h⟩ := wOk_elim h
      exact TE.callN k.ok ((S.E F c k _ _ _ _ _ h).impQ fun f ρ₁ H₁ h => by
        obtain ⟨h1, h⟩ := wOk_elim h
        obtain ⟨fv, rfl, hk⟩ := keepB_sound k h1
        exact ⟨fv, rfl, hk, (S.Es F c k _ _ _ _ _ _ h).impQ fun as ρ₂ H₂ h => WC.h h c k⟩) h0
    | meth o name apos =>
      rw [hf] at h
      obtain ⟨rfl, rfl⟩ := callForm_meth hf
      rcases wIf_elim h with ⟨h0, h⟩ | ⟨_, h⟩
      · simp only [Bool.and_eq_true, decide_eq_true_eq] at h0
        obtain ⟨⟨⟨h1, h2⟩, h3⟩, h4⟩ := h0
        exact TE.meth k.ok ((S.E F c k _ _ _ _ _ h).impQ fun a ρ₁ H₁ h => WMeth.h h c k) h1 h2 (baseOk_sound h3) h4
      · exact h.h c k
    | other => rw [hf] at h; exact WE.h h c k
  all_goals exact WE.h h c k
theorem wAll_sound (S : r.Sound) (k : Knows F c) {op : BoolOp} : ∀ {vs : List Expr} {ρ : AEnv} {H : AHs} {QB : Bool → AEnv → AHs → Prop}, wAll r F op vs ρ H QB X → T c rBool (allTrue op vs c.env) ρ H QB X
  | [], _, _, _, h => h.elim
  | [x], ρ, H, QB, h => by
    cases op with
    | And => exact TB.and1 (pos := default) (S.B F c k _ _ _ _ _ h)
    | Or => exact TB.or1 (S.B F c k _ _ _ _ _ h)
  | x :: y :: rest, ρ, H, QB, h => by
    cases op with
    | And => exact TB.andC ((S.B F c k _ _ _ _ _ h).impQ fun b ρ₁ H₁ h => by
        cases b
        · exact h
        · exact wAll_sound S k h)
    | Or => exact TB.orC ((S.B F c k _ _ _ _ _ h).impQ fun b ρ₁ H₁ h => by
        cases b
        · exact wAll_sound S k h
        · exact h)
theorem plainB_sound (S : r.Sound) (k : Knows F c) {e : Expr} (h : wOk (plainTest e) (r.E F e ρ H (fun a ρ₁ H₁ => wTruth F a ρ₁ H₁ QB X) X)) : TB c e ρ H QB X := by
  obtain ⟨h0, h⟩ := wOk_elim h
  exact TB.of h0 ((S.E F c k _ _ _ _ _ h).impQ fun a ρ₁ H₁ h => wTruth_sound k h)
set_option tactic.hygienic true in
theorem stepB_sound (S : r.Sound) (k : Knows F c) {e : Expr} (h : stepB r F e ρ H QB X) : TB c e ρ H QB X := by
  cases e
  case UnaryOp op x p => cases op <;> first | exact h.elim | exact TB.not (S.B F c k _ _ _ _ _ h)
  case BoolOp => exact TB.boolop (wAll_sound S k h)
  case Compare l ops rs p =>
    unfold stepB at h
    dsimp only at h
    cases ho : one1 ops rs with
    | none => rw [ho] at h; exact h.elim
    | some q =>
      obtain ⟨op, rr⟩ := q
      obtain ⟨rfl, rfl⟩ := one1_eq ho
      obtain ⟨h0, h⟩ := wOk_elim h
      exact TB.cmp ((S.E F c k _ _ _ _ _ h).impQ fun a ρ₁ H₁ h => (S.E F c k _ _ _ _ _ h).impQ fun b ρ₂ H₂ h => (fun Z s v w St hv hw => wpAny_mono (wCmp_sound k h Z s v w St hv hw) (fun _ _ p => p.imp fun _ _ _ => asB_ex) fun _ _ x => x)) (notSet_marks h0)
  all_goals exact plainB_sound S k h
theorem starOf_none {e : Expr} {rest : List Expr} {env : Env} (h : starOf e = Option.none) : starEach (e :: rest) env = (false, eval e env) :: starEach rest env := by
  cases e <;> first | rfl | cases h
theorem starOf_some {e e' : Expr} (h : starOf e = some e') : ∃ p, e = .Starred e' p := by
  unfold starOf at h
  cases hv : lookE e <;> rw [hv] at h <;> first | (cases h; done) | skip
  cases h
  exact ⟨_, lookE_is hv rfl⟩
theorem wEs_sound (S : r.Sound) (k : Knows F c) {pos : Pos} : ∀ {es : List Expr} {ρ : AEnv} {H : AHs} {Q : List AV → AEnv → AHs → Prop}, wEs r F es ρ H Q X → TEs c es pos ρ H Q X
  | [], _, _, _, h => TEs.nil h
  | e :: rest, ρ, H, Q, h => by
    unfold wEs at h
    cases he : starOf e with
    | some e' =>
      rw [he] at h
      obtain ⟨p, rfl⟩ := starOf_some he
      exact TEs.star ((S.E F c k _ _ _ _ _ h).impQ fun a ρ₁ H₁ ⟨xs, h1, h2, h3⟩ => ⟨xs, h1, h2, wEs_sound S k h3⟩)
    | none =>
      rw [he] at h
      exact TEs.cons ((S.E F c k _ _ _ _ _ h).impQ fun a ρ₁ H₁ h => wEs_sound S k h) (starOf_none he)
theorem wAs_sound (S : r.Sound) (k : Knows F c) : ∀ {ts : List Expr} {as : List AV} {ρ : AEnv} {H : AHs} {Q : Unit → AEnv → AHs → Prop}, wAs r F ts as ρ H Q X → TAs c ts as ρ H Q X
  | [], _, _, _, _, h => h
  | _ :: _, [], _, _, _, h => h.elim
  | t :: ts, a :: as, ρ, H, Q, h => fun Z s v St hv => wpAny_mono (S.A F c k _ _ _ _ _ _ h Z s v St hv) (fun z_ z_ p => p.imp fun z_ z_ z_ h => wAs_sound S k h) fun z_ z_ x => x
set_option tactic.hygienic true in
theorem stepA_sound (S : r.Sound) (k : Knows F c) {t : Expr} {a : AV} (h : stepA r F t a ρ H QU X) : TA c t a ρ H QU X := by
  cases t
  case Name =>
    obtain ⟨h0, h⟩ := wOk_elim h
    exact TA.name k.ok (k.stores _ h0) h
  case Attribute => exact TA.attr ((S.E F c k _ _ _ _ _ h).impQ fun a ρ₁ H₁ h => W2.h h c k)
  case Subscript => exact TA.sub ((S.E F c k _ _ _ _ _ h).impQ fun a ρ₁ H₁ h => (S.E F c k _ _ _ _ _ h).impQ fun b ρ₂ H₂ h => W3.h h c k)
  case Tuple =>
    cases a <;> first | exact h.elim | skip
    obtain ⟨h0, h⟩ := wOk_elim h
    simp only [Bool.and_eq_true, beq_iff_eq] at h0
    exact TA.tup (k.hdl h0.1.1) h0.1.2 h0.2 (wAs_sound S k h)
  all_goals exact h.elim
theorem wAllT_sound (S : r.Sound) (k : Knows F c) {a : AV} : ∀ {ts : List Expr} {ρ : AEnv} {H : AHs} {Q : Unit → AEnv → AHs → Prop}, wAllT r F a ts ρ H Q X → TAll c a ts ρ H Q X
  | [], _, _, _, h => h
  | t :: ts, ρ, H, Q, h => fun Z s v St hv => wpAny_mono (S.A F c k _ _ _ _ _ _ h Z s v St hv) (fun z_ z_ p => p.imp fun z_ z_ z_ h => wAllT_sound S k h) fun z_ z_ x => x
theorem swaps_attr {v a : Expr} {b : Str} {p : Pos} {l : Nat} {env : Env} : swapsWith v (some (.Attribute a b p)) l env = pure false := by cases v <;> rfl
theorem swaps_sub {v a b : Expr} {p : Pos} {l : Nat} {env : Env} : swapsWith v (some (.Subscript a b p)) l env = pure false := by cases v <;> rfl
theorem tupVal_both {v : Expr} {l : Nat} {env : Env} {a : List Expr} {k : Nat} {p : Pos} (h : tupVal v = true) : swapsWith v (some (.Tuple a k p)) l env = pure false ∧ swappedStores [.Tuple a k p] v env = pure Option.none := by
  cases v <;> first | (cases h; done) | exact ⟨rfl, rfl⟩
set_option tactic.hygienic true in
theorem asgOk_both {ts : List Expr} {v : Expr} {l : Nat} {env : Env} (h : asgOk ts v = true) : swapsWithSole ts v l env = pure false ∧ swappedStores ts v env = pure Option.none := by
  cases ts with
  | nil => cases h
  | cons t ts =>
    cases ts with
    | cons _ _ =>
      refine ⟨rfl, ?_⟩
      cases t <;> rfl
    | nil =>
      show swapsWith v (some t) l env = pure false ∧ _
      cases t
      case Attribute => exact ⟨swaps_attr, rfl⟩
      case Subscript => exact ⟨swaps_sub, rfl⟩
      case Name => exact ⟨notComp_swaps h, rfl⟩
      case Tuple => exact tupVal_both h
      all_goals cases h
end
end Mine.Internal
end

section
open PySem PySem.W PySem.Calls PyProof.Rows
set_option Elab.async false
set_option maxRecDepth 10000
set_option linter.unusedVariables false
set_option linter.unusedSimpArgs false
namespace Mine.Internal
section
variable {F : Fm} {c : Cx} {ρ : AEnv} {H : AHs} {X : AX} {QV : AV → AEnv → AHs → Prop} {QB : Bool → AEnv → AHs → Prop} {QU : Unit → AEnv → AHs → Prop} {Q : AF → AEnv → AHs → Prop} {r : Rec}
theorem T1.impQ {α β : Type} {rel : ZM → β → α → Prop} {f : Value → Sem α} {a : AV} {Q Q' : β → AEnv → AHs → Prop} (h : T1 c rel f a ρ H Q X) (hq : ∀ b ρ' H', Q b ρ' H' → Q' b ρ' H') : T1 c rel f a ρ H Q' X :=
  fun Z s v St hv => wpAny_mono (h Z s v St hv) (fun z_ z_ p => p.imp hq) fun z_ z_ x => x
theorem T2.impQ {α β : Type} {rel : ZM → β → α → Prop} {f : Value → Value → Sem α} {a b : AV} {Q Q' : β → AEnv → AHs → Prop} (h : T2 c rel f a b ρ H Q X) (hq : ∀ b ρ' H', Q b ρ' H' → Q' b ρ' H') : T2 c rel f a b ρ H Q' X :=
  fun Z s v w St hv hw => wpAny_mono (h Z s v w St hv hw) (fun z_ z_ p => p.imp hq) fun z_ z_ x => x
theorem nmOk_sound (k : Knows F c) {nm : Option Str} (h : nmOk F nm = true) : ∀ n, nm = some n → c.env.kindOf n = some .local := fun n e => by
  subst e
  exact k.kind n _ (by simpa [nmOk] using h)
theorem Knows.marked (k : Knows F c) {sc : Scope} {x : Addr} (Fm : Fun (c.marked x) sc) : Knows { F with hn := false } (c.marked x) where
  prog := k.prog
  w := k.w
  K := k.K
  gok := k.gok
  cf := Fm.cf
  fn := fun h => let ⟨sc', h1, h2⟩ := k.fn h; ⟨sc', h1.marked x, h2⟩
  kind := k.kind
  stores := k.stores
  hdl := fun h => by cases h
  lv := k.lv
  good := k.good
theorem stores_good (k : Knows F c) {x : Str} (h : F.stores x = true) : (x == ("__classdict__" : Str)) = false := by
  unfold Fm.stores at h
  cases e : F.raw.lookup x with
  | none => rw [e] at h; cases h
  | some q => exact (k.good _ _ e).2
set_option tactic.hygienic true in
theorem wAug_sound (S : r.Sound) (k : Knows F c) {t v : Expr} {op : Operator} {p : Pos} (h : wAug r F (augT t) op v ρ H Q X) : TX c (.AugAssign t op v p) ρ H Q X := by
  cases t
  case Name x p' =>
    obtain ⟨h0, h⟩ := wOk_elim h
    cases hl : ρ.lookup x with
    | none => rw [hl] at h; exact h.elim
    | some a =>
      rw [hl] at h
      exact TX.augN k.ok (k.stores _ h0) hl ((S.E F c k _ _ _ _ _ h).impQ fun b ρ₁ H₁ h => wInp_sound k h) (stores_good k h0)
  case Attribute => exact TX.augA ((S.E F c k _ _ _ _ _ h).impQ fun ov ρ₁ H₁ h => (W1.h h c k).impQ fun old ρ₂ H₂ h => (S.E F c k _ _ _ _ _ h).impQ fun b ρ₃ H₃ h => (wInp_sound k h).impQ fun r ρ₄ H₄ h => W2.h h c k)
  case Subscript =>
    obtain ⟨h0, h⟩ := wOk_elim h
    exact TX.augS (by simpa using h0) ((S.E F c k _ _ _ _ _ h).impQ fun ov ρ₀ H₀ h => (S.E F c k _ _ _ _ _ h).impQ fun iv ρ₁ H₁ h => (W2.h h c k).impQ fun old ρ₂ H₂ h => (S.E F c k _ _ _ _ _ h).impQ fun b ρ₃ H₃ h => (wInp_sound k h).impQ fun r ρ₄ H₄ h => W3.h h c k)
  all_goals exact h.elim
theorem wRaise_sound (S : r.Sound) (k : Knows F c) {x : Str} {args : List Expr} {p q pos : Pos} (h : wRaise r F x args ρ H X) : TX c (.Raise (some (.Call (.Name x p) args [] q)) Option.none pos) ρ H Q X := by
  obtain ⟨h0, h⟩ := wOk_elim h
  obtain ⟨h0, h1⟩ := Bool.and_eq_true_iff.mp h0
  cases hv : globVal F x with
  | none => rw [hv] at h; exact h.elim
  | some v =>
    rw [hv] at h
    obtain ⟨hr, h⟩ := h
    rcases hr.h c k with ⟨FC, G⟩ | O
    · exact TX.raise FC G (k.hdl h0) h1 (globVal_TE k hv ⟨rfl, S.Es F c k _ _ _ _ _ _ h⟩)
    · exact TX.raiseOwn k.ok O (k.hdl h0) h1 (globVal_TE k hv ⟨rfl, S.Es F c k _ _ _ _ _ _ h⟩)
theorem wTry_sound (S : r.Sound) (k : Knows F c) {body : List Stmt} {x : Str} {nm : Option Str} {b₀ : Stmt} {suite : List Stmt} {p q pos : Pos} (h : wTry r F body x nm b₀ suite ρ H Q) : TX c (.Try body [.ExceptHandler (some (.Name x p)) nm (b₀ :: suite) q] [] [] pos) ρ H Q X := by
  obtain ⟨h0, h⟩ := wOk_elim h
  simp only [Bool.and_eq_true] at h0
  cases hv : globVal F x with
  | none => rw [hv] at h; exact h.elim
  | some v =>
    rw [hv] at h
    obtain ⟨sc, Fs, _⟩ := k.fn h0.1.1
    exact TX.try1 Fs (k.hdl h0.1.2) (nmOk_sound k h0.2) (globVal_evals k hv) ((S.S F c k _ _ _ _ _ h).imp (fun z_ z_ z_ h => h) fun cls args ρ' H' ⟨h1, h2⟩ => ⟨h1.h c k, fun x Fx => S.S _ _ (k.marked Fx) _ _ _ _ _ h2⟩)
set_option tactic.hygienic true in
theorem stepX_sound (S : r.Sound) (k : Knows F c) {st : Stmt} (h : stepX r F st ρ H Q X) : TX c st ρ H Q X := by
  cases st
  case Return e p =>
    cases e with
    | none => exact h.elim
    | some e => exact TX.ret (S.E F c k _ _ _ _ _ h)
  case Pass => exact TX.pass h
  case Break => exact TX.brk h
  case Continue => exact TX.cont h
  case If => exact TX.iff ((S.B F c k _ _ _ _ _ h).impQ fun b ρ₁ H₁ h => by
      cases b
      · exact S.S F c k _ _ _ _ _ h
      · exact S.S F c k _ _ _ _ _ h)
  case Expr =>
    obtain ⟨h0, h⟩ := wOk_elim h
    exact TX.expr (S.E F c k _ _ _ _ _ h) (by unfold interactive; rw [k.ok.kind]; rfl) (notComp_swaps h0)
  case Assign =>
    rcases wIf_elim h with ⟨h0, h⟩ | ⟨_, h⟩
    · obtain ⟨h0, h1⟩ := Bool.and_eq_true_iff.mp h0
      exact TX.assigns h1 ((S.E F c k _ _ _ _ _ h).impQ fun a ρ₁ H₁ h => wAllT_sound S k h) (asgOk_both h0).1 (asgOk_both (l := 0) h0).2
    · exact h.h c k
  case AugAssign => exact wAug_sound S k h
  case Delete ts p =>
    unfold stepX at h
    dsimp only at h
    cases hd : delOf ts with
    | none => rw [hd] at h; exact h.elim
    | some q =>
      obtain ⟨o, i⟩ := q
      rw [hd] at h
      obtain ⟨p', rfl⟩ := delOf_eq hd
      exact TX.delS ((S.E F c k _ _ _ _ _ h).impQ fun ov ρ₁ H₁ h => (S.E F c k _ _ _ _ _ h).impQ fun iv ρ₂ H₂ h => W2.h h c k)
  case Raise e cause p =>
    unfold stepX at h
    dsimp only at h
    cases hd : raiseOf e cause with
    | none => rw [hd] at h; exact h.elim
    | some q =>
      obtain ⟨x, args⟩ := q
      rw [hd] at h
      obtain ⟨rfl, p', q', rfl⟩ := raiseOf_eq hd
      exact wRaise_sound S k h
  case Try body hs o f p =>
    unfold stepX at h
    dsimp only at h
    cases hd : handlerOf hs o f with
    | none => rw [hd] at h; exact h.elim
    | some q =>
      obtain ⟨x, nm, b₀, suite⟩ := q
      rw [hd] at h
      obtain ⟨rfl, rfl, p', q', rfl⟩ := handlerOf_eq hd
      exact wTry_sound S k h
  all_goals exact WX.h h c k
set_option tactic.hygienic true in
theorem andThen_imp {P P' : AEnv → AHs → Prop} (hp : ∀ ρ H, P ρ H → P' ρ H) : ∀ (f : AF) ρ H, andThen P Q f ρ H → andThen P' Q f ρ H
  | .next, ρ, H, h => hp ρ H h
  | .brk, _, _, h => h
  | .cont, _, _, h => h
  | .ret _, _, _, h => h
theorem Gh.t {α β : Type} {rel : ZM → β → α → Prop} {t : Sem α} {Q : β → AEnv → AHs → Prop} {P : AEnv → AHs → Prop} (g : Gh P ρ H) (h : ∀ ρ' H', P ρ' H' → T c rel t ρ' H' Q X) : T c rel t ρ H Q X := fun Z s S => by
  obtain ⟨ρ', H', Z', hz, S', p⟩ := g.h c Z s [] S
  exact wpLe hz (h ρ' H' p Z' s S')
theorem wS_sound (S : r.Sound) (k : Knows F c) : ∀ {ss : List Stmt} {ρ : AEnv} {H : AHs} {Q : AF → AEnv → AHs → Prop}, wS r F ss ρ H Q X → TS c ss ρ H Q X
  | [], _, _, _, h => TS.nil h
  | st :: rest, ρ, H, Q, h => TS.cons ((stepX_sound S k h).impQ (andThen_imp fun z_ z_ g => g.t fun z_ z_ h => wS_sound S k h))
theorem wRec_sound : ∀ n, (wRec n).Sound
  | 0 => ⟨fun F c k z_ z_ z_ z_ z_ h => WE.h h c k, fun z_ z_ z_ z_ z_ z_ z_ z_ h => h.elim, fun z_ z_ z_ z_ z_ z_ z_ z_ z_ h => h.elim, fun z_ z_ z_ z_ z_ z_ z_ z_ z_ h => h.elim, fun z_ z_ z_ z_ z_ z_ z_ z_ h => h.elim⟩
  | n + 1 => have S := wRec_sound n; ⟨fun z_ z_ k z_ z_ z_ z_ z_ h => stepE_sound S k h, fun z_ z_ k z_ z_ z_ z_ z_ h => stepB_sound S k h, fun z_ z_ k z_ z_ z_ z_ z_ z_ h => wEs_sound S k h, fun z_ z_ k z_ z_ z_ z_ z_ z_ h => stepA_sound S k h, fun z_ z_ k z_ z_ z_ z_ z_ h => wS_sound S k h⟩
end
end Mine.Internal
end

section
open PySem PySem.W PySem.Calls PyProof.Rows
set_option Elab.async false
set_option maxRecDepth 10000
set_option linter.unusedVariables false
set_option linter.unusedSimpArgs false
namespace Mine.Internal
noncomputable def SubL : AEnv → AEnv → Prop
  | [], _ => True
  | (x, a) :: r, ρ => ρ.lookup x = some a ∧ SubL r ρ
theorem SubL.sub : ∀ {ρ' ρ : AEnv}, SubL ρ' ρ → AEnv.Sub ρ' ρ
  | [], _, _ => fun x a h => by cases h
  | (y, b) :: r, ρ, h => fun x a e => by
    rw [List.lookup_cons] at e
    cases hb : x == y with
    | true => rw [hb] at e; cases e; cases beq_iff_eq.mp hb; exact h.1
    | false => rw [hb] at e; exact SubL.sub h.2 x a e
section
variable {F : Fm} {c : Cx} {ρ ρ' : AEnv} {H H' : AHs} {Z : ZM} {s : Shared} {X : AX} {QV : AV → AEnv → AHs → Prop} {QU : Unit → AEnv → AHs → Prop} {Q : AF → AEnv → AHs → Prop} {n : Nat}
theorem Gh.go {P : AEnv → AHs → Prop} (h : P ρ H) : Gh P ρ H := ⟨fun c Z s G S => ⟨ρ, H, Z, .refl _, S, h⟩⟩
theorem Gh.imp {P P' : AEnv → AHs → Prop} (h : Gh P ρ H) (hp : ∀ ρ H, P ρ H → P' ρ H) : Gh P' ρ H := ⟨fun c Z s G S => let ⟨ρ', H', Z', hz, S', p⟩ := h.h c Z s G S; ⟨ρ', H', Z', hz, S', hp _ _ p⟩⟩
theorem Gh.sub {P : AEnv → AHs → Prop} (ρ' : AEnv) (h1 : SubL ρ' ρ) (h : Gh P ρ' H) : Gh P ρ H := ⟨fun c Z s G S => h.h c Z s G (S.sub h1.sub)⟩
theorem Gh.freeze {P : AEnv → AHs → Prop} {i : Nat} {l : Addr} {xs : List AV} (x : Str) (hi : H[i]? = some (one l (oList xs))) (hx : ρ.lookup x = some (.ref l)) (h : Gh P (AEnv.put ρ x (.list xs)) (H.eraseIdx i)) : Gh P ρ H := ⟨fun c Z s G S => by
  obtain ⟨o, e1, ⟨vs, n, e2, e3⟩, hz, S2⟩ := S.freeze (i := G.length + i) (a := l) (d := oList xs) (by rw [List.getElem?_append_right (Nat.le_add_right ..), Nat.add_sub_cancel_left]; exact hi) (fun o ⟨vs, n, h, _⟩ => .inl ⟨vs, n, by rw [h]⟩)
  subst e2
  rw [List.eraseIdx_append_of_length_le (Nat.le_add_right ..), Nat.add_sub_cancel_left] at S2
  have S3 : St c (AEnv.put ρ x (.list xs)) (G ++ H.eraseIdx i) (Z.put l ⟨.type "list", Option.none, .seq vs n, #[]⟩) s := by
    obtain ⟨m, hn, hv⟩ := S2.ns
    refine { S2 with ns := ⟨m, hn, fun y a e => ?_⟩ }
    rw [AEnv.lookup_put] at e
    by_cases hy : y = x
    · rw [if_pos hy] at e; cases e
      obtain ⟨v, q1, q2⟩ := hv x _ hx
      cases q1
      exact ⟨.ref l, .list (ZM.put_self _ _ _) (VRs.mono hz _ _ e3), hy ▸ q2⟩
    · rw [if_neg hy] at e; exact hv y a e
  obtain ⟨ρ', H', Z', hz', S', p⟩ := h.h c _ s G S3
  exact ⟨ρ', H', Z', hz.trans hz', S', p⟩⟩
theorem set_perm {i : Nat} {M N : AM} (hi : H[i]? = some M) : (H.set i N).Perm (N :: (H.take i ++ H.drop (i + 1))) ∧ H.Perm (M :: (H.take i ++ H.drop (i + 1))) := by
  have hil := (List.getElem?_eq_some_iff.mp hi).1
  have hiM := (List.getElem?_eq_some_iff.mp hi).2
  have e1 : H = H.take i ++ M :: H.drop (i + 1) := by rw [← hiM]; simp
  have e2 : H.set i N = H.take i ++ N :: H.drop (i + 1) := by rw [List.set_eq_take_append_cons_drop, if_pos hil]
  refine ⟨e2 ▸ List.perm_middle, ?_⟩
  conv => lhs; rw [e1]
  exact List.perm_middle
theorem Gh.absorb {P : AEnv → AHs → Prop} {M N : AM} {i : Nat} (hi : H[i]? = some M) (h : Apart N M → Gh P ρ (H.set i (N.or M))) : Gh P ρ (N :: H) := ⟨fun c Z s G S => by
  have hNM : Apart N M := (List.pairwise_cons.mp (List.pairwise_append.mp S.apart).2.1).1 M (List.mem_of_getElem? hi)
  refine (h hNM).h c Z s G ?_
  obtain ⟨p1, p2⟩ := set_perm (N := N.or M) hi
  have S1 : St c ρ (N :: M :: (G ++ (H.take i ++ H.drop (i + 1)))) Z s := S.perm (by
    refine List.Perm.trans ?_ (List.Perm.append_left G (p2.symm.cons N))
    exact ((List.perm_middle (l₁ := G)).trans (List.Perm.cons N (List.perm_middle (l₁ := G)))).symm)
  refine S1.merge.perm ?_
  exact (List.Perm.append_left G p1).trans List.perm_middle⟩
set_option tactic.hygienic true in
theorem rFlow.mono {Z Z' : ZM} (hz : ZLe Z Z') : ∀ {a : AF} {f : Flow}, rFlow Z a f → rFlow Z' a f
  | .next, _, h => h
  | .brk, _, h => h
  | .cont, _, h => h
  | .ret _, _, ⟨v, e, h⟩ => ⟨v, e, VR.mono hz _ _ h⟩
theorem TS.gh {ss : List Stmt} {Q' : AF → AEnv → AHs → Prop} {X' : AX} (h : TS c ss ρ H (fun f => Gh (Q' f)) (fun cl as => Gh (X' cl as))) : TS c ss ρ H Q' X' := fun Z s S =>
  wpAny_mono (h Z s S) (fun f s₁ p => by
    obtain ⟨b, ρ₁, H₁, Z₁, hz, hr, S₁, g⟩ := p
    obtain ⟨ρ₂, H₂, Z₂, hz₂, S₂, q⟩ := g.h c Z₁ s₁ [] S₁
    exact ⟨b, ρ₂, H₂, Z₂, hz.trans hz₂, rFlow.mono hz₂ hr, S₂, q⟩) fun e s₁ p => by
    obtain ⟨x, cls, args, E, ρ₁, H₁, Z₁, h0, h00, hz, S₁, g⟩ := p
    obtain ⟨ρ₂, H₂, Z₂, hz₂, S₂, q⟩ := g.h c Z₁ s₁ [E] S₁
    exact ⟨x, cls, args, E, ρ₂, H₂, Z₂, h0, h00, hz.trans hz₂, S₂, q⟩
theorem WMeth.of {a : AV} {name : Str} {args : List Expr} {pos : Pos} {fv : Value} (hm : ∀ c, Knows F c → MethIs c H a name fv) (hk : keepV F fv = true)
    (h : (wRec n).Es F args ρ H (fun as ρ₂ H₂ => WC F (.val fv) (a :: as) ρ₂ H₂ QV X) X) : WMeth F a name args pos ρ H QV X where
  h := fun c k => ⟨fv, hm c k, let ⟨_, e, q⟩ := keepB_sound (f := .val fv) k hk; by cases e; exact q, ((wRec_sound n).Es F c k _ _ _ _ _ _ h).impQ fun z_ z_ z_ h => h.h c k⟩
section
variable {i j : Nat} {M N : AM} {l : Addr} {xs : List AV} {a : AV} {e : Expr} {pos : Pos}
theorem WMeth.append (hi : LV H (.ref l) xs)
    (h : (wRec n).E F e ρ H (AppOf l QV) X) (hs : starOf e = Option.none) : WMeth F (.ref l) "append" [e] pos ρ H QV X :=
  ⟨fun c k => ⟨_, MethIs.list hi slot_list_append rfl, .inl ⟨_, rfl⟩, TEs.cons (((wRec_sound n).E F c k _ _ _ _ _ h).impQ fun a ρ₁ H₁ ⟨i, M, xs, h1, h2, h3, h4⟩ => TEs.nil (TC.append h1 h2 h3 h4)) (starOf_none hs)⟩⟩
end
end
end Mine.Internal
end

section
open PySem PySem.W PySem.Calls PyProof.Rows
set_option Elab.async false
set_option maxRecDepth 10000
set_option linter.unusedVariables false
set_option linter.unusedSimpArgs false
namespace Mine.Internal
noncomputable def Fm.callee (F : Fm) (sc : Scope) : Fm := { F with raw := sc.names, fn := true, lv := F.lv - 1 }
noncomputable def Fm.down (F : Fm) : Fm := { F with lv := F.lv - 1 }
structure WK (F : Fm) (f : AV) (as : List AV) (ρ : AEnv) (H : AHs) (Q : AV → AEnv → AHs → Prop) (X : AX) : Prop where
  h : ∀ c, Knows F c → TK c f as ρ H Q X
section
variable {F : Fm} {c : Cx} {ρ ρ' : AEnv} {H H' : AHs} {Z : ZM} {s : Shared} {X : AX} {QV : AV → AEnv → AHs → Prop} {QU : Unit → AEnv → AHs → Prop} {Q : AF → AEnv → AHs → Prop} {n : Nat}
theorem WK.wc {f : AV} {as : List AV} (h : WK F f as ρ H QV X) : WC F f as ρ H QV X := ⟨fun c k => (h.h c k).tc⟩
theorem Fm.kind_fn {F : Fm} (h : F.fn = true) {x : Str} : F.kind x = F.raw.lookup x := by
  unfold Fm.kind
  cases e : F.raw.lookup x with
  | none => rfl
  | some k => cases k <;> first | rfl | (dsimp only; rw [h])
theorem Fm.stores_raw {F : Fm} {x : Str} (h : F.stores x = true) : F.raw.lookup x = some .local ∨ F.raw.lookup x = some .cell := by
  unfold Fm.stores at h
  cases e : F.raw.lookup x with
  | none => rw [e] at h; cases h
  | some k => rw [e] at h; cases k <;> first | exact .inl rfl | exact .inr rfl | cases h
theorem Knows.callee (k : Knows F c) {sc : Scope} {c' : Cx} (hc : Callee c sc c') (good : goodNames sc.names) : Knows (F.callee sc) c' where
  prog := hc.prog.trans k.prog
  w := hc.w.trans k.w
  K := hc.K.trans k.K
  gok := k.gok
  cf := hc.fn.cf
  fn := fun z_ => ⟨sc, hc.fn, rfl⟩
  kind := fun x q h => (hc.fn.kind x).trans (by rw [← h]; exact (Fm.kind_fn (F := F.callee sc) rfl).symm)
  stores := fun x h => hc.fn.stores (Fm.stores_raw h)
  hdl := fun h => hc.handled.trans (k.hdl h)
  lv := by have := k.lv; rw [hc.lv]; exact Nat.sub_le_sub_right this 1
  good := good
theorem Knows.under (k : Knows F c) (h1 : 1 ≤ F.lv) (C : Addr) (vs : List Value) : Knows F.down (c.under C vs) where
  prog := k.prog
  w := k.w
  K := k.K
  gok := k.gok
  cf := ⟨k.ok.under (Nat.le_trans h1 k.lv) C vs, k.cf.cell⟩
  fn := fun h => let ⟨sc, f, e⟩ := k.fn h; ⟨sc, ⟨k.ok.under (Nat.le_trans h1 k.lv) C vs, f.scope, f.fr, f.cell, f.own⟩, e⟩
  kind := k.kind
  stores := k.stores
  hdl := k.hdl
  lv := Nat.sub_le_sub_right k.lv 1
  good := k.good
theorem WK.func {f : Addr} {qual : Str} {params : Arguments} {body : List Stmt} {scope : Scope} {dV : Value} {fd : FuncData} {as : List AV} {ρ0 : AEnv} (n : Nat)
    (hfn : F.fn = true) (hlv : 1 ≤ F.lv) (hf : FnAt F.g.K f qual params body scope dV fd) (hb : ∀ c, Knows F c → Binds c fd as ρ0) (hn : (ρ0.map Prod.fst).Nodup)
    (hkind : ∀ x ∈ ρ0.map Prod.fst, scope.names.lookup x = some .local ∨ scope.names.lookup x = some .cell) (good : goodNames scope.names)
    (h : (wRec n).S (F.callee scope) body ρ0 H (fun fl => Gh (fun z_ H' => QV fl.val ρ H')) (fun cl args => Gh (fun z_ H' => X cl args ρ H'))) : WK F (.val (.ref f)) as ρ H QV X where
  h := fun c k => let ⟨sc, Fs, _⟩ := k.fn hfn
    TK.func k.ok Fs.fr (Nat.le_trans hlv k.lv) (k.K ▸ hf) (hb c k) hn hkind fun c' hc => TS.gh ((wRec_sound n).S _ _ (k.callee hc good) _ _ _ _ _ h)
theorem WK.make {C fI : Addr} {as : List AV} (hlv : 1 ≤ F.lv) (hm : makesIn F.g.K C = true) (hi : findIn F.g.K (.ref C) "__init__" = some (some (.ref fI))) (hf : typeIn F.g.K (.ref fI) = some (.type "function"))
    (h : ∀ x dx, WK F.down (.val (.ref fI)) (.ref x :: as) ρ (one x (oInst C dx) :: one dx (oNs []) :: H) (fun v ρ' H' => v = AV.none ∧ QV (.ref x) ρ' H') X) : WK F (.val (.ref C)) as ρ H QV X where
  h := fun c k => TK.make k.ok (Nat.le_trans hlv k.lv) (k.K ▸ hm) (k.K ▸ hi) (k.K ▸ hf) fun x dx vs => (h x dx).h _ (k.under hlv C vs)
theorem St.weaken {i : Nat} {M : AM} {a : Addr} {d d' : OD} (S : St c ρ H Z s) (hi : H[i]? = some M) (ha : M a = some d) (hd : ∀ Z o, d.rel Z o → d'.rel Z o) : St c ρ (H.set i (M.put a d')) Z s := by
  obtain ⟨o, h1, h2⟩ := S.read hi ha
  exact S.mut hi ha (fun z_ z_ z_ e => e) rfl rfl h1 (hd _ _ h2)
theorem slots0 {C dx : Addr} {k : Nat} : ∀ Z o, (oInst C dx).rel Z o → (oSlots C dx (List.replicate k Option.none)).rel Z o := fun Z o h => ⟨#[], h, fun i a e => by
  rw [List.getElem?_replicate] at e
  split at e <;> cases e⟩
theorem TK.ghost {f : AV} {as : List AV} (h : TK c f as ρ' H' QV X) (hi : Imp c ρ H ρ' H') : TK c f as ρ H QV X := fun Z s fv vs S hf hv => by
  obtain ⟨Z', hz, S'⟩ := hi Z s S
  refine codeAny_mono (h Z' s fv vs S' (VR.mono hz _ _ hf) (VRs.mono hz _ _ hv)) fun r s' q => ?_
  cases r with
  | ok fl => cases fl <;> first | exact q | exact Post.le hz q
  | error e => exact Exc.le hz q
theorem WK.makeS {C fI : Addr} {as : List AV} (k : Nat) (hlv : 1 ≤ F.lv) (hm : makesIn F.g.K C = true) (hi : findIn F.g.K (.ref C) "__init__" = some (some (.ref fI))) (hf : typeIn F.g.K (.ref fI) = some (.type "function"))
    (h : ∀ x dx, WK F.down (.val (.ref fI)) (.ref x :: as) ρ (one x (oSlots C dx (List.replicate k Option.none)) :: one dx (oNs []) :: H) (fun v ρ' H' => v = AV.none ∧ QV (.ref x) ρ' H') X) : WK F (.val (.ref C)) as ρ H QV X :=
  WK.make hlv hm hi hf fun x dx => ⟨fun c q => TK.ghost ((h x dx).h c q) fun Z s S => ⟨Z, .refl _, by
    have := S.weaken (i := 0) (M := one x (oInst C dx)) (a := x) (d := oInst C dx) (d' := oSlots C dx (List.replicate k Option.none)) rfl (by simp [one]) slots0
    rw [one_put] at this
    exact this⟩⟩
end
end Mine.Internal
end

section
open PySem PySem.W PySem.Calls PyProof.Rows
set_option Elab.async false
set_option maxRecDepth 10000
set_option linter.unusedVariables false
set_option linter.unusedSimpArgs false
namespace Mine.Internal
theorem one_self {a : Addr} {d : OD} : one a d a = some d := if_pos rfl
section
variable {F : Fm} {ρ : AEnv} {H : AHs} {X : AX} {QV : AV → AEnv → AHs → Prop} {QU : Unit → AEnv → AHs → Prop} {n i j : Nat} {M N : AM} {x dx C : Addr} {fs : AEnv} {xs : List (Option AV)} {name : Str} {a : AV} {k : Nat} {ex : Bool}
theorem W2.setS (hc : SlotCls F.g.K C) (hi : H[i]? = some M) (hx : M x = some (oSlots C dx xs)) (hj : H[j]? = some N) (hd : N dx = some (oNs fs)) (hn : SlotAt F.g.K C name k) (hk : k < xs.length) (hp : a.plain = true)
    (h : QU () ρ (H.set i (M.put x (oSlots C dx (xs.set k (some a)))))) : W2 F rUnit (fun v u => setAttr v name u) (.ref x) a ρ H QU X :=
  ⟨fun c q => T2.setS q.ok (q.K ▸ hc) hi hx hj hd (q.K ▸ hn) hk hp h⟩
theorem W1.getS (hc : SlotCls F.g.K C) (hi : H[i]? = some M) (hx : M x = some (oSlots C dx xs)) (hj : H[j]? = some N) (hd : N dx = some (oNs fs)) (hn : SlotAt F.g.K C name k) (hf : xs[k]? = some (some a)) (h : QV a ρ H) :
    W1 F VR (fun v => getAttr v name ex) (.ref x) ρ H QV X := ⟨fun c q => T1.getS q.ok (q.K ▸ hc) hi hx hj hd (q.K ▸ hn) hf h⟩
theorem W2.setD (hc : DictCls F.g.K C) (hi : H[i]? = some M) (hx : M x = some (oInst C dx)) (hj : H[j]? = some N) (hd : N dx = some (oNs fs)) (hn : findIn F.g.K (.ref C) name = some Option.none) (hz : fs.length ≤ 900) (hp : a.plain = true)
    (h : QU () ρ (H.set j (N.put dx (oNs (AEnv.put fs name a))))) : W2 F rUnit (fun v u => setAttr v name u) (.ref x) a ρ H QU X :=
  ⟨fun c q => T2.setD q.ok (q.K ▸ hc) hi hx hj hd (q.K ▸ hn) hz hp h⟩
theorem W1.getD (hc : DictCls F.g.K C) (hi : H[i]? = some M) (hx : M x = some (oInst C dx)) (hj : H[j]? = some N) (hd : N dx = some (oNs fs)) (hn : findIn F.g.K (.ref C) name = some Option.none) (hf : fs.lookup name = some a) (h : QV a ρ H) :
    W1 F VR (fun v => getAttr v name ex) (.ref x) ρ H QV X := ⟨fun c q => T1.getD q.ok (q.K ▸ hc) hi hx hj hd (q.K ▸ hn) hf h⟩
theorem WMeth.inst {f : Addr} {args : List Expr} {pos : Pos} (hc : DictCls F.g.K C) (hi : H[i]? = some M) (hx : M x = some (oInst C dx)) (hj : H[j]? = some N) (hd : N dx = some (oNs fs)) (hn : findIn F.g.K (.ref C) name = some (some (.ref f))) (ht : typeIn F.g.K (.ref f) = some (.type "function")) (hf : fs.lookup name = Option.none) (hk : F.g.keeps.contains f = true)
    (h : (wRec n).Es F args ρ H (fun as ρ₂ H₂ => WC F (.val (.ref f)) (.ref x :: as) ρ₂ H₂ QV X) X) : WMeth F (.ref x) name args pos ρ H QV X :=
  WMeth.of (fun c q => MethIs.inst q.ok (q.K ▸ hc) hi hx hj hd (q.K ▸ hn) (q.K ▸ ht) hf) hk h
end
end Mine.Internal
end

section
open PySem PySem.W PySem.Calls PyProof.Rows
set_option Elab.async false
set_option maxRecDepth 10000
set_option linter.unusedVariables false
set_option linter.unusedSimpArgs false
namespace Mine.Internal
noncomputable def kindLC (sc : Scope) (x : Str) : Bool := match sc.names.lookup x with
  | some .local => true
  | some .cell => true
  | _ => false
noncomputable def goodB (raw : List (Str × NameKind)) : Bool := raw.all fun p => !(p.1 == ("__debug__" : Str)) && !(p.1 == ("__classdict__" : Str))
theorem goodB_good {raw : List (Str × NameKind)} (h : goodB raw = true) : goodNames raw := fun x k e => by
  have := List.all_eq_true.mp h (x, k) (mem_of_lookup e)
  simpa using this
theorem kindLC_or {sc : Scope} {x : Str} (h : kindLC sc x = true) : sc.names.lookup x = some .local ∨ sc.names.lookup x = some .cell := by
  unfold kindLC at h
  cases e : sc.names.lookup x with
  | none => rw [e] at h; cases h
  | some k => rw [e] at h; cases k <;> first | exact .inl rfl | exact .inr rfl | cases h
noncomputable def fdAt (K : Frag) (a : Addr) : Option FuncData := match K.lookup a with
  | some o => (match o.data with
    | .func fd => some fd
    | _ => Option.none)
  | Option.none => Option.none
noncomputable def namesOf (fd : FuncData) : List Str := fd.params.args.map (·.arg) ++ fd.params.vararg.toList.map (·.arg)
noncomputable def fnChk (K : Frag) (fd : FuncData) : Bool := codeIn K fd.code fd.qualname && fd.globals == mainGlobals && fd.closure.isEmpty && fd.builtins == builtinsNs && !fd.scope.isCoroutine && !fd.scope.isGenerator && decide (fd.scope.kind = .function) &&
  (namesOf fd).all (kindLC fd.scope) && goodB fd.scope.names && decide ((namesOf fd).Nodup) && fd.params.posonlyargs.isEmpty && fd.params.kwonlyargs.isEmpty && fd.params.kw_defaults.isEmpty && fd.params.kwarg.isNone
structure FnIs (K : Frag) (f : Addr) (fd : FuncData) (body : List Stmt) : Prop where
  at_ : fdAt K f = some fd
  chk : fnChk K fd = true
  b : fd.body = .stmts body
theorem FnIs.fnAt {K : Frag} {f : Addr} {fd : FuncData} {body : List Stmt} (h : FnIs K f fd body) : FnAt K f fd.qualname fd.params body fd.scope fd.defaults fd ∧ (∀ x ∈ namesOf fd, fd.scope.names.lookup x = some .local ∨ fd.scope.names.lookup x = some .cell) ∧ goodNames fd.scope.names ∧ (namesOf fd).Nodup ∧ fd.params = ⟨[], fd.params.args, fd.params.vararg, [], [], Option.none, fd.params.defaults⟩ := by
  obtain ⟨h1, h2, h3⟩ := h
  unfold fnChk at h2
  simp only [Bool.and_eq_true, decide_eq_true_eq, beq_iff_eq, Bool.not_eq_true', List.isEmpty_iff, Option.isNone_iff_eq_none] at h2
  obtain ⟨⟨⟨⟨⟨⟨⟨⟨⟨⟨⟨⟨⟨a1, a2⟩, a3⟩, a4⟩, a5⟩, a6⟩, a7⟩, a8⟩, a9⟩, a10⟩, a11⟩, a12⟩, a13⟩, a14⟩ := h2
  refine ⟨⟨?_, a1, rfl, rfl, h3, rfl, a2, a3, a4, rfl, a5, a6, a7⟩, fun x hx => kindLC_or (List.all_eq_true.mp a8 x hx), goodB_good a9, a10, ?_⟩
  · unfold fdAt at h1
    cases e : K.lookup f with
    | none => rw [e] at h1; cases h1
    | some o =>
      rw [e] at h1
      obtain ⟨oc, od, dat, osl⟩ := o
      cases dat <;> first | (cases h1; done) | skip
      cases h1
      exact ⟨_, _, _, rfl⟩
  · cases hp : fd.params with
    | mk a b c d e f g => rw [hp] at a11 a12 a13 a14; simp only at a11 a12 a13 a14; subst a11 a12 a13 a14; rfl
section
variable {F : Fm} {ρ ρ0 : AEnv} {H : AHs} {X : AX} {QV : AV → AEnv → AHs → Prop} {f : Addr} {fd : FuncData} {body : List Stmt} {as bs : List AV}
theorem WK.pos (n : Nat) (hf : FnIs F.g.K f fd body) (hfn : F.fn = true) (hlv : 1 ≤ F.lv) (hv : fd.params.vararg = Option.none) (hb : bindEq fd (fd.params.args.map (·.arg)) as.length []) (hl : as.length = fd.params.args.length) (hρ : (fd.params.args.map (·.arg)).zip as = ρ0)
    (h : (wRec n).S (F.callee fd.scope) body ρ0 H (fun fl => Gh (fun z_ H' => QV fl.val ρ H')) (fun cl args => Gh (fun z_ H' => X cl args ρ H'))) : WK F (.val (.ref f)) as ρ H QV X := by
  obtain ⟨h1, h2, h3, h4, h5⟩ := hf.fnAt
  have hn : namesOf fd = fd.params.args.map (·.arg) := by unfold namesOf; rw [hv]; simp
  have e : ρ0.map Prod.fst = namesOf fd := by rw [← hρ, hn]; exact zipA_fst _ _ (by simpa using hl)
  refine WK.func (ρ0 := ρ0) n hfn hlv h1 (fun c k => ?_) (by rw [e]; exact h4) (by rw [e]; exact h2) h3 h
  rw [← hρ]
  exact Binds.pos hb (by simpa using hl)
theorem WK.var {va : Str} (n : Nat) (hf : FnIs F.g.K f fd body) (hfn : F.fn = true) (hlv : 1 ≤ F.lv) (hv : fd.params.vararg.map (·.arg) = some va) (hb : bindEqV fd (fd.params.args.map (·.arg)) va as.length []) (hl : as.length = fd.params.args.length) (hbs : bs.length ≤ 1000000) (hρ : (fd.params.args.map (·.arg)).zip as ++ [(va, .tup bs)] = ρ0)
    (h : (wRec n).S (F.callee fd.scope) body ρ0 H (fun fl => Gh (fun z_ H' => QV fl.val ρ H')) (fun cl args => Gh (fun z_ H' => X cl args ρ H'))) : WK F (.val (.ref f)) (as ++ bs) ρ H QV X := by
  obtain ⟨h1, h2, h3, h4, h5⟩ := hf.fnAt
  obtain ⟨a, hv', rfl⟩ := Option.map_eq_some_iff.mp hv
  clear hv
  have hv := hv'
  have hn : namesOf fd = fd.params.args.map (·.arg) ++ [a.arg] := by unfold namesOf; rw [hv]; rfl
  have e : ρ0.map Prod.fst = namesOf fd := by rw [← hρ, hn, List.map_append, zipA_fst _ _ (by simpa using hl)]; rfl
  refine WK.func (ρ0 := ρ0) n hfn hlv h1 (fun c k => ?_) (by rw [e]; exact h4) (by rw [e]; exact h2) h3 h
  rw [← hρ]
  exact Binds.var hb (by simpa using hl) hbs
theorem two_args {ps : List Arg} {p q : Str} (h : ps.map (·.arg) = [p, q]) : ∃ P Q : Arg, ps = [P, Q] ∧ P.arg = p ∧ Q.arg = q := by
  cases ps with
  | nil => cases h
  | cons P ps =>
    cases ps with
    | nil => cases h
    | cons Q ps =>
      cases ps with
      | nil => cases h; exact ⟨P, Q, rfl, rfl, rfl⟩
      | cons _ _ => cases h
theorem WK.dflt {p q : Str} {a : AV} {T : Addr} {d : Value} {m : Nat} (n : Nat) (hf : FnIs F.g.K f fd body) (hfn : F.fn = true) (hlv : 1 ≤ F.lv) (hps : fd.params.args.map (·.arg) = [p, q]) (hv : fd.params.vararg = Option.none) (hb : ∀ v, ∃ K : Option (Array Value) → Sem (List (Str × Value)), bindArgs fd ⟨[v], []⟩ = seqItems? (.ref T) >>= K ∧ K (some #[d]) = pure [(p, v), (q, d)]) (ho : ∃ o, F.g.K.lookup T = some o ∧ o.data = .seq #[d] m)
    (h : (wRec n).S (F.callee fd.scope) body [(p, a), (q, AV.of d)] H (fun fl => Gh (fun z_ H' => QV fl.val ρ H')) (fun cl args => Gh (fun z_ H' => X cl args ρ H'))) : WK F (.val (.ref f)) [a] ρ H QV X := by
  obtain ⟨h1, h2, h3, h4, h5⟩ := hf.fnAt
  obtain ⟨P, Q, e, rfl, rfl⟩ := two_args hps
  have hn : namesOf fd = [P.arg, Q.arg] := by unfold namesOf; rw [hv, e]; rfl
  rw [hn] at h4 h2
  refine WK.func (ρ0 := [(P.arg, a), (Q.arg, AV.of d)]) n hfn hlv h1 (fun c k => ?_) h4 h2 h3 h
  exact Binds.dflt (n := m) k.ok hb (k.K ▸ ho)
end
end Mine.Internal
end

section
open PySem PySem.W PySem.Calls PyProof.Rows
set_option Elab.async false
set_option maxRecDepth 10000
set_option linter.unusedVariables false
set_option linter.unusedSimpArgs false
namespace Mine.Internal
section
variable {F : Fm} {ρ : AEnv} {H : AHs} {X : AX} {QV : AV → AEnv → AHs → Prop} {QU : Unit → AEnv → AHs → Prop} {QB : Bool → AEnv → AHs → Prop} {Q : AF → AEnv → AHs → Prop} {n i j : Nat} {M N : AM} {d l : Addr} {kvs : List (Key × AV)} {ep : Nat} {k : Key} {a b : AV} {xs ys : List AV} {e value slice : Expr} {pos : Pos}
theorem Knows.od {c : Cx} (q : Knows F c) : oDict F.g.prog F.g.w kvs ep = oDict c.prog c.w kvs ep := by rw [q.prog, q.w]
theorem Knows.os {c : Cx} {ks : List Key} (q : Knows F c) : oSet F.g.prog F.g.w ks = oSet c.prog c.w ks := by rw [q.prog, q.w]
theorem W2.itemD (hi : H[i]? = some M) (hd : M d = some (oDict F.g.prog F.g.w kvs ep)) (ha : kvAt kvs k = some a) (h : QV a ρ H) (hs : isSlice slice = false) : W2 F VR (subscriptTail value slice) (.ref d) k.av ρ H QV X :=
  ⟨fun c q => T2.itemD q.ok hi (q.od ▸ hd) ha h hs⟩
theorem W2.inD (hi : H[i]? = some M) (hd : M d = some (oDict F.g.prog F.g.w kvs ep)) (h : QV (.bool (kvAt kvs k).isSome) ρ H) : W2 F VR (compareOp .In) k.av (.ref d) ρ H QV X :=
  ⟨fun c q => T2.inD q.ok hi (q.od ▸ hd) h⟩
theorem W3.setD (hi : H[i]? = some M) (hd : M d = some (oDict F.g.prog F.g.w kvs ep)) (hn : kvs.length ≤ 1000000) (h : ∀ ep', QU () ρ (H.set i (M.put d (oDict F.g.prog F.g.w (kvSet kvs k a) ep')))) : W3 F rUnit setItem (.ref d) k.av a ρ H QU X :=
  ⟨fun c q => T3.setD q.ok hi (q.od ▸ hd) hn fun ep' => q.od ▸ h ep'⟩
theorem W2.delD (hi : H[i]? = some M) (hd : M d = some (oDict F.g.prog F.g.w kvs ep)) (hn : kvs.length ≤ 1000000) (ha : (kvAt kvs k).isSome = true) (h : ∀ ep', QU () ρ (H.set i (M.put d (oDict F.g.prog F.g.w (kvDel kvs k) ep')))) : W2 F rUnit delItem (.ref d) k.av ρ H QU X :=
  ⟨fun c q => T2.delD q.ok hi (q.od ▸ hd) hn ha fun ep' => q.od ▸ h ep'⟩
theorem WMeth.get (hi : H[i]? = some M) (hd : M d = some (oDict F.g.prog F.g.w kvs ep))
    (h : (wRec n).E F e ρ H (GetOf F.g d QV) X) (hs : starOf e = Option.none) : WMeth F (.ref d) "get" [e] pos ρ H QV X :=
  ⟨fun c q => ⟨_, MethIs.dict q.ok hi (q.od ▸ hd) PySem.F.slot_dict_get rfl, .inl ⟨_, rfl⟩, TEs.cons (((wRec_sound n).E F c q _ _ _ _ _ h).impQ fun a ρ₁ H₁ h => by
    obtain ⟨k, i, M, kvs, ep, rfl, h1, h2, h3⟩ := h
    exact TEs.nil (TC.dictGet q.ok h1 (q.od ▸ h2) h3)) (starOf_none hs)⟩⟩
theorem WC.len (hl : LV H a xs) (hn : xs.length ≤ 1000000) (h : QV (.int xs.length) ρ H) : WC F (.val (.builtin "len")) [a] ρ H QV X := ⟨fun c q => TC.lenL hl hn h⟩
theorem TC.lenT {c : Cx} (hn : xs.length ≤ 1000000) (h : QV (.int xs.length) ρ H) : TC c (.val (.builtin "len")) [.tup xs] ρ H QV X := fun Z s fv vs S hf hv => by
  cases hf
  cases hv with | cons h1 h2 => cases h2; exact (by
    obtain ⟨l, us, n, rfl, hL, e2⟩ := h1.toTup
    have hsz := e2.toArr
    refine PySem.P.len_tuple (S.fz _ _ hL).1 (by lia) ?_
    rw [hsz]
    exact Post.now (S.tok _) .int h)
theorem WC.lenT (hn : xs.length ≤ 1000000) (h : QV (.int xs.length) ρ H) : WC F (.val (.builtin "len")) [.tup xs] ρ H QV X := ⟨fun c q => TC.lenT hn h⟩
theorem WC.tupOf (hl : LV H a xs) (hn : xs.length ≤ 1000000) (h : QV (.tup xs) ρ H) : WC F (.val (.type "tuple")) [a] ρ H QV X := ⟨fun c q => TC.tupOf hl hn h⟩
theorem WC.reprBool {i : Bool} (h : QV (.str (if i then "True" else "False")) ρ H) : WC F (.val (.builtin "repr")) [.bool i] ρ H QV X := ⟨fun c q => TC.reprBool h⟩
theorem WC.sum {ns : List Int} (hh : F.hn = true) (hl : LV H a (ns.map AV.int)) (h : QV (.int ns.sum) ρ H) : WC F (.val (.builtin "sum")) [a] ρ H QV X := ⟨fun c q => TC.sumL (q.hdl hh) hl h⟩
theorem WC.range1 {n : Int} (h : ∀ r, QV (.ref r) ρ (one r (oRange 0 n 1) :: H)) : WC F (.val (.type "range")) [.int n] ρ H QV X := ⟨fun c q => TC.range1 h⟩
theorem WC.range2 {a b : Int} (h : ∀ r, QV (.ref r) ρ (one r (oRange a b 1) :: H)) : WC F (.val (.type "range")) [.int a, .int b] ρ H QV X := ⟨fun c q => TC.range2 h⟩
theorem WC.set0 (h : ∀ d, QV (.ref d) ρ (one d (oSet F.g.prog F.g.w []) :: H)) : WC F (.val (.type "set")) [] ρ H QV X := ⟨fun c q => TC.newSet fun d => q.os ▸ h d⟩
theorem WMeth.clear (hi : H[i]? = some M) (hl : M l = some (oList xs)) (hn : xs.length ≤ 1000000) (h : QV .none ρ (H.set i (M.put l (oList [])))) : WMeth F (.ref l) "clear" [] pos ρ H QV X :=
  ⟨fun c q => ⟨_, MethIs.list (.own hi hl) PySem.F.slot_list_clear rfl, .inl ⟨_, rfl⟩, TEs.nil (TC.clear hi hl hn h)⟩⟩
theorem WMeth.pop (hi : H[i]? = some M) (hl : M l = some (oList (xs ++ [a]))) (hn : xs.length ≤ 1000000) (h : QV a ρ (H.set i (M.put l (oList xs)))) : WMeth F (.ref l) "pop" [] pos ρ H QV X :=
  ⟨fun c q => ⟨_, MethIs.list (.own hi hl) PySem.F.slot_list_pop rfl, .inl ⟨_, rfl⟩, TEs.nil (TC.pop hi hl hn h)⟩⟩
theorem WMeth.extend (hi : LV H (.ref l) xs)
    (h : (wRec n).E F e ρ H (ExtOf l QV) X) (hs : starOf e = Option.none) : WMeth F (.ref l) "extend" [e] pos ρ H QV X :=
  ⟨fun c k => ⟨_, MethIs.list hi PySem.F.slot_list_extend rfl, .inl ⟨_, rfl⟩, TEs.cons (((wRec_sound n).E F c k _ _ _ _ _ h).impQ fun a ρ₁ H₁ h => by
    obtain ⟨i, M, xs, ys, h1, h2, h3, h4, h5⟩ := h
    exact TEs.nil (TC.extend h1 h2 h4 h3 h5)) (starOf_none hs)⟩⟩
theorem WMeth.setAdd {ks : List Key} (hi : H[i]? = some M) (hd : M d = some (oSet F.g.prog F.g.w ks))
    (h : (wRec n).E F e ρ H (SAddOf F.g d QV) X) (hs : starOf e = Option.none) : WMeth F (.ref d) "add" [e] pos ρ H QV X :=
  ⟨fun c q => ⟨_, MethIs.set hi (q.os ▸ hd) PySem.F.slot_set_add rfl, .inl ⟨_, rfl⟩, TEs.cons (((wRec_sound n).E F c q _ _ _ _ _ h).impQ fun a ρ₁ H₁ h => by
    obtain ⟨k, i, M, ks, rfl, h1, h2, h3, h4, h5⟩ := h
    exact TEs.nil (TC.setAdd h1 (q.os ▸ h2) h3 h4 (q.os ▸ h5))) (starOf_none hs)⟩⟩
theorem W2.inS {ks : List Key} (hi : H[i]? = some M) (hd : M d = some (oSet F.g.prog F.g.w ks)) (h : QV (.bool (decide (k ∈ ks))) ρ H) : W2 F VR (compareOp .In) k.av (.ref d) ρ H QV X := ⟨fun c q => T2.inS hi (q.os ▸ hd) h⟩
theorem W1.truthL (hl : LV H a xs) (hn : xs.length ≤ 1000000) (h : QB (!xs.isEmpty) ρ H) : W1 F rBool truthy a ρ H QB X := ⟨fun c q => TT.list hl hn h⟩
theorem W2.itemNeg {k : Int} {x : AV} (hl : LV H a xs) (h0 : k < 0) (h1 : -(xs.length : Int) ≤ k) (hk : -2 ^ 63 ≤ k) (hx : xs[(k + xs.length).toNat]? = some x) (h : QV x ρ H) (hs : isSlice slice = false) : W2 F VR (subscriptTail value slice) a (.int k) ρ H QV X := ⟨fun c q => T2.itemNeg hl h0 h1 hk hx h hs⟩
theorem W2.eqD {x y : AV} {d e : PyData} (hx : DV H x d) (hy : DV H y e) (hd : d.depth ≤ 64) (h : QV (.bool (PyData.eqv d e)) ρ H) : W2 F VR (compareOp .Eq) x y ρ H QV X := ⟨fun c q => T2.eqD q.ok hx hy hd h⟩
theorem W2.neD {x y : AV} {d e : PyData} (hx : DV H x d) (hy : DV H y e) (hd : d.depth ≤ 64) (h : QV (.bool (!PyData.eqv d e)) ρ H) : W2 F VR (compareOp .NotEq) x y ρ H QV X := ⟨fun c q => T2.neD q.ok hx hy hd h⟩
theorem W2.inL {x y : AV} {d : PyData} {ys : List PyData} (hx : DV H x d) (hy : DV H y (.list ys)) (hd : d.depth ≤ 64) (h : QV (.bool (ys.any fun z => PyData.eqv z d)) ρ H) : W2 F VR (compareOp .In) x y ρ H QV X := ⟨fun c q => T2.inL q.ok hx hy hd h⟩
theorem W2.notInL {x y : AV} {d : PyData} {ys : List PyData} (hx : DV H x d) (hy : DV H y (.list ys)) (hd : d.depth ≤ 64) (h : QV (.bool (!ys.any fun z => PyData.eqv z d)) ρ H) : W2 F VR (compareOp .NotIn) x y ρ H QV X := ⟨fun c q => T2.notInL q.ok hx hy hd h⟩
end
end Mine.Internal
end

section
open PySem PySem.W PySem.Calls PyProof.Rows
set_option Elab.async false
set_option maxRecDepth 10000
set_option linter.unusedVariables false
set_option linter.unusedSimpArgs false
namespace Mine.Internal
structure WIter (F : Fm) (H : AHs) (a : AV) (target : Expr) (P : AHs → Prop) (xs : List AV) : Prop where
  h : ∀ c, Knows F c → ∃ J : Itr c P xs, IterOf c H a J ∧ J.tg target
section
variable {F : Fm} {H : AHs} {a : AV} {xs : List AV} {target : Expr} {i : Nat} {M : AM}
theorem WIter.list (hh : F.hn = true) (hl : LV H a xs) : WIter F H a target (fun H => LV H a xs) xs := ⟨fun c q => ⟨Itr.list c (q.hdl hh) a xs, IterOf.list hl, trivial⟩⟩
theorem WIter.tup (hh : F.hn = true) : WIter F H (.tup xs) target (fun z_ => True) xs := ⟨fun c q => ⟨Itr.tup c (q.hdl hh) xs, IterOf.tup, trivial⟩⟩
theorem WIter.range {r : Addr} {a b st : Int} {n : Nat} (hi : H[i]? = some M) (hr : M r = some (oRange a b st)) (hs : Builtin.Range.small a b st = true) (hn : Builtin.Range.rangeSize a b st = n) : WIter F H (.ref r) target (fun z_ => True) (rangeAV a st n) :=
  ⟨fun c q => ⟨Itr.rangeA c a st n, IterOf.rangeA hi hr hs hn, trivial⟩⟩
noncomputable def DIn0 (g : Gl) (d : Addr) (kvs : List (Key × AV)) (ep : Nat) (H : AHs) : Prop := ∃ (i : Nat) (M : AM), H[i]? = some M ∧ M d = some (oDict g.prog g.w kvs ep)
theorem Knows.dIn {c : Cx} {d : Addr} {kvs : List (Key × AV)} {ep : Nat} (q : Knows F c) : DIn0 F.g d kvs ep = DIn c d kvs ep := by unfold DIn0 DIn; rw [q.prog, q.w]
theorem WIter.keys {d : Addr} {kvs : List (Key × AV)} {ep : Nat} (hh : F.hn = true) (hd : DIn0 F.g d kvs ep H) : WIter F H (.ref d) target (DIn0 F.g d kvs ep) (kvs.map fun kv => kv.1.av) :=
  ⟨fun c q => by rw [q.dIn] at hd ⊢; exact ⟨Itr.keys c q.ok (q.hdl hh) d kvs ep, IterOf.keys hd, trivial⟩⟩
end
inductive WLoop (n : Nat) (F : Fm) (target : Expr) (body orelse : List Stmt) (Q : AF → AEnv → AHs → Prop) (X : AX) (a : AV) (ρ : AEnv) (H : AHs) : Prop
  | mk {P : AHs → Prop} {xs : List AV} (I : Nat → AEnv → AHs → Prop) (it : WIter F H a target P xs) (hP : ∀ m ρ H, I m ρ H → P H) (h0 : I 0 ρ H)
      (hb : ∀ m x ρ H, xs[m]? = some x → I m ρ H → (wRec n).A F target x ρ H (fun z_ ρ₁ H₁ => (wRec n).S F body ρ₁ H₁ (turned (Gh (I (m + 1))) Q) X) X)
      (he : ∀ ρ H, I xs.length ρ H → (wRec n).S F orelse ρ H Q X) : WLoop n F target body orelse Q X a ρ H
section
variable {F : Fm} {c : Cx} {ρ : AEnv} {H : AHs} {X : AX} {QV : AV → AEnv → AHs → Prop} {Q : AF → AEnv → AHs → Prop} {n : Nat} {target iter test : Expr} {body orelse : List Stmt} {pos : Pos}
theorem Knows.hold (q : Knows F c) {b : Addr} {o : Obj} {sc : Scope} (Fh : Fun (c.hold b o) sc) (hsc : sc.names = F.raw) (hfn : F.fn = true) : Knows F (c.hold b o) where
  prog := q.prog
  w := q.w
  K := q.K
  gok := q.gok
  cf := Fh.cf
  fn := fun z_ => ⟨sc, Fh, hsc⟩
  kind := q.kind
  stores := fun x h => Fh.stores (by rw [hsc]; exact Fm.stores_raw h)
  hdl := q.hdl
  lv := q.lv
  good := q.good
theorem TS.ghQ {ss : List Stmt} {Q' : AF → AEnv → AHs → Prop} (h : TS c ss ρ H Q X) (hq : ∀ f ρ H, Q f ρ H → Gh (Q' f) ρ H) : TS c ss ρ H Q' X := fun Z s S =>
  wpAny_mono (h Z s S) (fun f s₁ p => by
    obtain ⟨b, ρ₁, H₁, Z₁, hz, hr, S₁, g⟩ := p
    obtain ⟨ρ₂, H₂, Z₂, hz₂, S₂, q⟩ := (hq _ _ _ g).h c Z₁ s₁ [] S₁
    exact ⟨b, ρ₂, H₂, Z₂, hz.trans hz₂, rFlow.mono hz₂ hr, S₂, q⟩) fun z_ z_ x => x
theorem TE.ghQ {e : Expr} {QV' : AV → AEnv → AHs → Prop} (h : TE c e ρ H QV X) (hq : ∀ a ρ H, QV a ρ H → Gh (QV' a) ρ H) : TE c e ρ H QV' X := fun Z s S =>
  wpAny_mono (h Z s S) (fun f s₁ p => by
    obtain ⟨b, ρ₁, H₁, Z₁, hz, hr, S₁, g⟩ := p
    obtain ⟨ρ₂, H₂, Z₂, hz₂, S₂, q⟩ := (hq _ _ _ g).h c Z₁ s₁ [] S₁
    exact ⟨b, ρ₂, H₂, Z₂, hz.trans hz₂, VR.mono hz₂ _ _ hr, S₂, q⟩) fun z_ z_ x => x
set_option tactic.hygienic true in
theorem turned_gh {I : AEnv → AHs → Prop} : ∀ (f : AF) ρ H, turned (Gh I) Q f ρ H → Gh (turned I Q f) ρ H
  | .next, _, _, h => h
  | .cont, _, _, h => h
  | .brk, _, _, h => .go h
  | .ret _, _, _, h => .go h
theorem foldedSet_of {x : Value} (h : notSet iter = true) : foldedSetIterable iter c.env x = pure x := by cases iter <;> first | rfl | cases h
theorem WX.for (n : Nat) (hfn : F.fn = true) (hs : notSet iter = true) (h : (wRec n).E F iter ρ H (fun a => Gh (WLoop n F target body orelse Q X a)) X) : WX F (.For target iter body orelse pos) ρ H Q X := ⟨fun c q => by
  obtain ⟨sc, Fs, hsc⟩ := q.fn hfn
  refine TX.for Fs (TE.ghQ ((wRec_sound n).E F c q _ _ _ _ _ h) fun a ρ H g => g.imp fun ρ H h => ?_) fun x => foldedSet_of hs
  cases h with | mk I it hP h0 hb he => ?_
  obtain ⟨J, j1, j2⟩ := it.h c q
  exact .mk _ _ J I j1 j2 hP h0 (fun m a ρ H it o hx hI Fh => (((wRec_sound n).A F _ (q.hold Fh hsc hfn) _ _ _ _ _ _ (hb m a ρ H hx hI))).impQ fun z_ z_ z_ h => TS.ghQ ((wRec_sound n).S F _ (q.hold Fh hsc hfn) _ _ _ _ _ h) turned_gh)
    fun ρ H hI => (wRec_sound n).S F c q _ _ _ _ _ (he ρ H hI)⟩
theorem WX.while (n : Nat) (hfn : F.fn = true) (I : Nat → AEnv → AHs → Prop) (m : Nat) (h0 : I m ρ H)
    (h : ∀ m ρ H, I m ρ H → (wRec n).B F test ρ H (fun b ρ₁ H₁ => wIf b ((wRec n).S F body ρ₁ H₁ (turned (Gh (fun ρ₂ H₂ => ∃ m', m' < m ∧ I m' ρ₂ H₂)) Q) X) ((wRec n).S F orelse ρ₁ H₁ Q X)) X) : WX F (.While test body orelse pos) ρ H Q X := ⟨fun c q => by
  obtain ⟨sc, Fs, hsc⟩ := q.fn hfn
  refine TX.while Fs I (fun m ρ H hI => ((wRec_sound n).B F c q _ _ _ _ _ (h m ρ H hI)).impQ fun b ρ₁ H₁ hb => ?_) m h0
  cases b with
  | true => exact TS.ghQ ((wRec_sound n).S F c q _ _ _ _ _ hb) turned_gh
  | false => exact (wRec_sound n).S F c q _ _ _ _ _ hb⟩
end
noncomputable def Fm.comp (F : Fm) (sc : Scope) : Fm := { F with raw := sc.names, fn := false, lv := 0 }
noncomputable def compOk (F : Fm) (sc : Scope) : Bool := decide (sc.kind = .function) && decide ((sc.names.map Prod.fst).Nodup) && sc.names.all (fun p => !(p.2 == .free) || (F.kind p.1 == some .cell)) && goodB sc.names
structure WIterC (F : Fm) (sc : Scope) (H : AHs) (a : AV) (target : Expr) (P : AHs → Prop) (xs : List AV) : Prop where
  h : ∀ c, Knows F c → ∃ (J0 : Itr c P xs) (J : ∀ cl h, (c.comp sc cl h).Ok → Itr (c.comp sc cl h) P xs), IterOf c H a J0 ∧ (∀ cl h o, (J cl h o).at_ = J0.at_) ∧ (∀ cl h o, (J cl h o).tg target) ∧ (∀ cl h o, Selfs (J cl h o))
noncomputable def wIfs (r : Rec) (F : Fm) : List Expr → AEnv → AHs → (Bool → AEnv → AHs → Prop) → Prop
  | [], ρ, H, Q => Q true ρ H
  | t :: ts, ρ, H, Q => r.B F t ρ H (fun b ρ₁ H₁ => wIf b (wIfs r F ts ρ₁ H₁ Q) (Q false ρ₁ H₁)) noX
noncomputable def freeOf (sc : Scope) (ρ : AEnv) : AEnv := ρ.filter fun p => sc.names.lookup p.1 == some .free
section
variable {F : Fm} {H : AHs} {a : AV} {xs : List AV} {target : Expr} {i : Nat} {M : AM} {sc : Scope}
theorem WIterC.list (hh : F.hn = true) (hl : LV H a xs) : WIterC F sc H a target (fun H => LV H a xs) xs :=
  ⟨fun c q => ⟨Itr.list c (q.hdl hh) a xs, fun cl h o => Itr.list (c.comp sc cl h) (q.hdl hh) a xs, IterOf.list hl, fun z_ z_ z_ => rfl, fun z_ z_ z_ => trivial, fun z_ z_ z_ => Selfs.list⟩⟩
theorem WIterC.range {r : Addr} {a b st : Int} {n : Nat} (hi : H[i]? = some M) (hr : M r = some (oRange a b st)) (hs : Builtin.Range.small a b st = true) (hn : Builtin.Range.rangeSize a b st = n) : WIterC F sc H (.ref r) target (fun z_ => True) (rangeAV a st n) :=
  ⟨fun c q => ⟨Itr.rangeA c a st n, fun cl h o => Itr.rangeA _ a st n, IterOf.rangeA hi hr hs hn, fun z_ z_ z_ => rfl, fun z_ z_ z_ => trivial, fun z_ z_ z_ => Selfs.rangeA⟩⟩
theorem WMeth.values {d : Addr} {kvs : List (Key × AV)} {ep : Nat} {pos : Pos} {ρ : AEnv} {X : AX} {QV : AV → AEnv → AHs → Prop} (hi : H[i]? = some M) (hd : M d = some (oDict F.g.prog F.g.w kvs ep)) (h : ∀ v, QV (.ref v) ρ (one v (oVView d) :: H)) : WMeth F (.ref d) "values" [] pos ρ H QV X :=
  ⟨fun c q => ⟨_, MethIs.dict q.ok hi (q.od ▸ hd) PySem.F.slot_dict_values rfl, .inl ⟨_, rfl⟩, TEs.nil (TC.dictValues q.ok ⟨i, M, hi, q.od ▸ hd⟩ h)⟩⟩
theorem WIterC.values {v d : Addr} {kvs : List (Key × AV)} {ep : Nat} (hh : F.hn = true) (hi : H[i]? = some M) (hv : M v = some (oVView d)) (hd : DIn0 F.g d kvs ep H) : WIterC F sc H (.ref v) target (DIn0 F.g d kvs ep) (kvs.map Prod.snd) :=
  ⟨fun c q => by
    rw [q.dIn] at hd ⊢
    exact ⟨Itr.values c q.ok (q.hdl hh) d kvs ep, fun cl h o => Itr.values _ o (q.hdl hh) d kvs ep, IterOf.values hi hv hd, fun z_ z_ z_ => rfl, fun z_ z_ z_ => trivial, fun z_ z_ z_ => Selfs.values⟩⟩
end
inductive WCompO (n : Nat) (F : Fm) (sc : Scope) (elt target : Expr) (ifs : List Expr) (QV : AV → AEnv → AHs → Prop) (a : AV) (ρ : AEnv) (H : AHs) : Prop
  | mk {α : Type} {P : AHs → Prop} (zs : List α) (φ : α → AV) (g : α → Option AV) (it : WIterC F sc H a target P (zs.map φ)) (hP : ∀ M, P (M :: H)) (hl : zs.length ≤ 1000000)
      (hb : ∀ z ∈ zs, (wRec n).A (F.comp sc) target (φ z) (freeOf sc ρ) H (fun z_ ρ₁ H₁ => wIfs (wRec n) (F.comp sc) ifs ρ₁ H₁ (fun b ρ₂ H₂ => wIf b ((wRec n).E (F.comp sc) elt ρ₂ H₂ (fun y ρ₃ H₃ => H₃ = H ∧ SubL (freeOf sc ρ) ρ₃ ∧ g z = some y) noX) (H₂ = H ∧ SubL (freeOf sc ρ) ρ₂ ∧ g z = Option.none))) noX)
      (hQ : ∀ D, QV (.ref D) ρ (one D (oList (zs.filterMap g)) :: H)) : WCompO n F sc elt target ifs QV a ρ H
section
variable {F : Fm} {c cc : Cx} {ρ : AEnv} {H : AHs} {X : AX} {QV : AV → AEnv → AHs → Prop} {Q : AF → AEnv → AHs → Prop} {n : Nat} {target iter elt : Expr} {ifs : List Expr} {pos : Pos} {sc : Scope}
theorem compOk_scope (q : Knows F c) (h : compOk F sc = true) : CompScope c sc ∧ goodNames sc.names := by
  unfold compOk at h
  simp only [Bool.and_eq_true, decide_eq_true_eq] at h
  refine ⟨⟨h.1.1.1, h.1.1.2, fun x hx => ?_⟩, goodB_good h.2⟩
  have := List.all_eq_true.mp h.1.2 _ hx
  exact q.kind x _ (by simpa using this)
theorem Knows.comp (q : Knows F c) (h : compOk F sc = true) (k : CIn c sc cc) (h1 : cc.prog = c.prog) (h2 : cc.w = c.w) (h3 : cc.K = c.K) (h4 : cc.A = c.A) : Knows (F.comp sc) cc where
  prog := h1.trans q.prog
  w := h2.trans q.w
  K := h3.trans q.K
  gok := q.gok
  cf := k.cf
  fn := fun h => by cases h
  kind := fun x kd e => by
    have hs := compOk_scope q h
    unfold Fm.kind Fm.comp at e
    cases hl : sc.names.lookup x with
    | none => simp only [hl] at e; cases e
    | some kk =>
      simp only [hl] at e
      by_cases hf : kk = .free
      · subst hf
        cases e
        exact k.free x hl (hs.1.free x (mem_of_lookup hl))
      · have : kd = kk := by cases kk <;> first | (cases e; rfl) | exact absurd rfl hf
        subst this
        exact k.kind x _ hl hf
  stores := fun x e => k.stores x (Fm.stores_raw (F := F.comp sc) e)
  hdl := fun e => by rw [h4]; exact q.hdl e
  lv := Nat.zero_le _
  good := (compOk_scope q h).2
theorem wIfs_sound (q : Knows F c) : ∀ {ts : List Expr} {ρ : AEnv} {H : AHs} {QB : Bool → AEnv → AHs → Prop}, wIfs (wRec n) F ts ρ H QB → TIfs c ts ρ H QB noX
  | [], _, _, _, h => h
  | t :: ts, ρ, H, QB, h => ((wRec_sound n).B F c q _ _ _ _ _ h).impQ fun b ρ₁ H₁ h => by
    cases b with
    | true => exact wIfs_sound q h
    | false => exact h
theorem TIfs.imp' {QB QB' : Bool → AEnv → AHs → Prop} : ∀ {ts : List Expr} {ρ : AEnv} {H : AHs}, TIfs c ts ρ H QB X → (∀ b ρ H, QB b ρ H → QB' b ρ H) → TIfs c ts ρ H QB' X
  | [], _, _, h, hq => hq _ _ _ h
  | t :: ts, _, _, h, hq => T.impQ h fun b ρ₁ H₁ h => by
    cases b with
    | true => exact TIfs.imp' h hq
    | false => exact hq _ _ _ h
theorem lookup_filter {p : Str × AV → Bool} {x : Str} {a : AV} (hp : ∀ u v y, p (y, u) = p (y, v)) : ∀ {ρ : AEnv}, (ρ.filter p).lookup x = some a → ρ.lookup x = some a ∧ p (x, a) = true
  | [], h => by cases h
  | (y, b) :: r, h => by
    rw [List.filter_cons] at h
    rw [List.lookup_cons]
    cases hb : x == y with
    | true =>
      have e := beq_iff_eq.mp hb
      subst e
      by_cases hq : p (x, b) = true
      · rw [if_pos hq, List.lookup_cons, hb] at h; cases h; exact ⟨rfl, hq⟩
      · rw [if_neg hq] at h
        have := lookup_filter hp h
        exact absurd (hp a b x ▸ this.2) hq
    | false =>
      by_cases hq : p (y, b) = true
      · rw [if_pos hq, List.lookup_cons, hb] at h; exact lookup_filter hp h
      · rw [if_neg hq] at h; exact lookup_filter hp h
theorem take_filterMap {α : Type} {xs : List α} {g : α → Option AV} {m : Nat} {x : α} (hx : xs[m]? = some x) : (xs.take (m + 1)).filterMap g = (xs.take m).filterMap g ++ (g x).toList := by
  rw [List.take_add_one, hx, List.filterMap_append]
  cases hg : g x <;> simp [hg]
set_option tactic.hygienic true in
theorem compO_sound (q : Knows F c) (hc : compOk F sc = true) {a : AV} (h : WCompO n F sc elt target ifs QV a ρ H) : CompOf c sc elt target ifs QV a ρ H := by
  cases h with | mk zs φ g it hP hl hb hQ => ?_
  rename_i α P
  obtain ⟨J0, J, j1, j2, j3, j4⟩ := it.h c q
  refine .mk P (zs.map φ) J0 J (fun m ys ρ' H' => H' = H ∧ ys = (zs.take m).filterMap g ∧ AEnv.Sub (freeOf sc ρ) ρ') (freeOf sc ρ) j1 j2 j3 j4 (fun m ys ρ' H' M hI => hI.1 ▸ hP M) (fun m ys ρ' H' hI => ?_) (fun x a e => ?_) ⟨rfl, rfl, .refl _⟩ (fun cc m x ys ρ' H' hx hI k h1 h2 h3 h4 => ?_) (fun ys ρ₂ H' D hI => ?_)
  · rw [hI.2.1]
    exact Nat.le_trans (List.length_filterMap_le ..) (Nat.le_trans (List.length_take_le' ..) hl)
  · have := lookup_filter (fun _ _ _ => rfl) e
    exact ⟨this.1, by simpa using this.2⟩
  · obtain ⟨rfl, rfl, hs⟩ := hI
    obtain ⟨z, hz, rfl⟩ : ∃ z, zs[m]? = some z ∧ x = φ z := by
      rw [List.getElem?_map] at hx
      cases e : zs[m]? with
      | none => rw [e] at hx; cases hx
      | some z => rw [e] at hx; cases hx; exact ⟨z, rfl, rfl⟩
    have qc := q.comp hc k h1 h2 h3 h4
    have hA := (wRec_sound n).A _ _ qc _ _ _ _ _ _ (hb z (List.mem_of_getElem? hz))
    refine fun Z s v S hv => wpAny_mono (hA Z s v (S.sub hs) hv) (fun _ _ p => p.imp fun _ ρ₁ H₁ h => ?_) fun _ _ x => x
    refine (wIfs_sound qc h).imp' fun b ρ₂ H₂ h => ?_
    cases b with
    | true =>
      refine T.impQ ((wRec_sound n).E _ _ qc _ _ _ _ _ h) fun y ρ₃ H₃ e => ⟨e.1, ?_, e.2.1.sub⟩
      rw [take_filterMap hz, e.2.2]; rfl
    | false => exact ⟨h.1, by rw [take_filterMap hz, h.2.2]; simp, h.2.1.sub⟩
  · obtain ⟨rfl, rfl, hs⟩ := hI
    rw [List.length_map, List.take_length]
    exact hQ D
theorem WE.compO (n : Nat) (hc : compOk F sc = true) (hs : notSet iter = true) (h : (wRec n).E F iter ρ H (fun a => Gh (WCompO n F sc elt target ifs QV a)) X) : WE F (.ListComp elt [⟨target, iter, ifs, 0⟩] sc pos) ρ H QV X := ⟨fun c q =>
  TE.comp q.cf (compOk_scope q hc).1 (fun x => foldedSet_of hs) (TE.ghQ ((wRec_sound n).E F c q _ _ _ _ _ h) fun a ρ H g => g.imp fun ρ H h => compO_sound q hc h)⟩
theorem WE.comp (n : Nat) (hc : compOk F sc = true) (hs : notSet iter = true) (h : (wRec n).E F iter ρ H (fun a => Gh (WCompO n F sc elt target ifs (fun a ρ' H' => ∃ D ys H'', a = .ref D ∧ H' = one D (oList ys) :: H'' ∧ QV (.list ys) ρ' H'') a)) X) : WE F (.ListComp elt [⟨target, iter, ifs, 0⟩] sc pos) ρ H QV X :=
  ⟨fun c q => TE.frz ((WE.compO n hc hs h).h c q)⟩
noncomputable def swapsB (F : Fm) (sc : Scope) (y : Str) (py pos : Pos) : Bool := (F.kind y == some .local) && (py.line == pos.line) && !(sc.names.any fun (n, k) => n == y && (k == .local || k == .cell))
theorem swapsB_sound {y : Str} {py : Pos} {l : Nat} (q : Knows F c) (h : swapsB F sc y py pos = true) : swapsWith (.ListComp elt [⟨target, iter, ifs, 0⟩] sc pos) (some (.Name y py)) l c.env = pure true ∧ c.Stores y := by
  unfold swapsB at h
  simp only [Bool.and_eq_true] at h
  have hk := q.kind y .local (by simpa using h.1.1)
  refine ⟨?_, .inl hk⟩
  show (pure (c.env.blockKind == .function && c.env.kindOf y == some .local && py.line == pos.line && !(sc.names.any fun (n, k) => n == y && (k == .local || k == .cell))) : Sem Bool) = pure true
  have hb : c.env.blockKind = .function := by unfold Env.blockKind; rw [q.ok.kind]; rfl
  rw [hb, hk, h.2, h.1.2]
  rfl
set_option tactic.hygienic true in
theorem WX.assignCompO {y : Str} {py spos : Pos} (n : Nat) (hc : compOk F sc = true) (hs : notSet iter = true) (hw : swapsB F sc y py pos = true) (h : (wRec n).E F iter ρ H (fun a => Gh (WCompO n F sc elt target ifs (fun a ρ₁ H₁ => Q .next (AEnv.put ρ₁ y a) H₁) a)) X) :
    WX F (.Assign [.Name y py] (.ListComp elt [⟨target, iter, ifs, 0⟩] sc pos) spos) ρ H Q X := ⟨fun c q =>
  TX.assignComp q.cf (compOk_scope q hc).1 (fun x => foldedSet_of hs) (swapsB_sound (elt := elt) (target := target) (iter := iter) (ifs := ifs) (l := 0) q hw).2 (swapsB_sound q hw).1 (TE.ghQ ((wRec_sound n).E F c q _ _ _ _ _ h) fun a ρ H g => g.imp fun ρ H h => compO_sound q hc h)⟩
set_option tactic.hygienic true in
theorem WX.assignCell {y : Str} {py spos : Pos} (n : Nat) (hw : (F.kind y == some .cell) = true) (hst : F.stores y = true) (h : (wRec n).E F (.ListComp elt [⟨target, iter, ifs, 0⟩] sc pos) ρ H (fun a ρ₁ H₁ => Q .next (AEnv.put ρ₁ y a) H₁) X) :
    WX F (.Assign [.Name y py] (.ListComp elt [⟨target, iter, ifs, 0⟩] sc pos) spos) ρ H Q X := ⟨fun c q =>
  TX.assign q.ok ((wRec_sound n).E F c q _ _ _ _ _ h) (q.stores y hst) (by
    have hk := q.kind y .cell (by simpa using hw)
    show (pure (c.env.blockKind == .function && c.env.kindOf y == some .local && py.line == pos.line && !(sc.names.any fun (n, k) => n == y && (k == .local || k == .cell))) : Sem Bool) = pure false
    rw [hk]
    congr 1
    simp)⟩
end
end Mine.Internal
end

section
open PySem PySem.W PySem.Calls PyProof.Rows
set_option Elab.async false
set_option maxRecDepth 100000
set_option linter.unusedVariables false
set_option linter.unusedSimpArgs false
namespace Mine.Internal
open PySem.Sem (wp)
theorem meets_bool_list (l : Addr) (items : Array Value) (hfit : (items.size : Int) < 2 ^ 63) :
    Meets (Builtin.«bool.__new__» ⟨[.type "bool", .ref l], []⟩) (fun z_ R s => s.heap.IsList l items ∧ R (.ok (.ret (.bool (!items.isEmpty)))) { s with toks := s.toks + 1 + 1 }) :=
  Meets.of_wp fun prog w A R s hs => by
    obtain ⟨hl, hs⟩ := hs
    obtain ⟨hp, g, d, tk, os⟩ := s
    have f1 := F.conv_sub_bool
    repeat (any_goals (first | assumption | (with_reducible refine wpAny_truthy_list hl (by omega) ?_) | wp_step))
    all_goals first | exact ⟨_, rfl, hs⟩ | exact hs | skip
section
variable {F : Fm} {c : Cx} {ρ : AEnv} {H : AHs} {X : AX} {QV : AV → AEnv → AHs → Prop} {a : AV} {xs : List AV} {n : Nat} {pos : Pos}
theorem TC.boolL (hl : LV H a xs) (hn : xs.length ≤ 1000000) (h : QV (.bool (!xs.isEmpty)) ρ H) : TC c (.val (.type "bool")) [a] ρ H QV X := fun Z s fv vs S hf hv => by
  cases hf
  cases hv with | cons h1 h2 => cases h2; exact (by
    obtain ⟨l, us, rfl, hL, e2⟩ := hl.isList S h1
    have hsz := e2.toArr
    refine call_bool_1 (meets_bool_list l us (by omega)) ⟨hL, rfl, ?_⟩
    have e : (!us.isEmpty) = !xs.isEmpty := by
      unfold Array.isEmpty; rw [hsz]; cases xs <;> simp
    rw [e]
    exact Post.now ((S.tok _)) .val h)
theorem WC.boolL (hl : LV H a xs) (hn : xs.length ≤ 1000000) (h : QV (.bool (!xs.isEmpty)) ρ H) : WC F (.val (.type "bool")) [a] ρ H QV X := ⟨fun c q => TC.boolL hl hn h⟩
theorem WE.or2 {x y : Expr} (n : Nat) (h : (wRec n).E F x ρ H (fun a ρ₁ H₁ => wTruth F a ρ₁ H₁ (fun b ρ₂ H₂ => wIf b (QV a ρ₂ H₂) ((wRec n).E F y ρ₂ H₂ QV X)) X) X) : WE F (.BoolOp .Or [x, y] pos) ρ H QV X := ⟨fun c q Z s S => by
  refine wpAny_Or2 (wpAny_mono ((wRec_sound n).E F c q _ _ _ _ _ h Z s S) (fun v s₁ p => ?_) fun z_ z_ x => x)
  obtain ⟨a, ρ₁, H₁, Z₁, hz, hv, S₁, h₁⟩ := p
  refine wpAny_mono (wTruth_sound q h₁ Z₁ s₁ v S₁ hv) (fun b s₂ p => ?_) fun z_ z_ x => x.le hz
  obtain ⟨b', ρ₂, H₂, Z₂, hz₂, hb, S₂, h₂⟩ := p
  have hb : b' = b := hb
  subst hb
  cases b' with
  | true => exact ⟨a, ρ₂, H₂, Z₂, hz.trans hz₂, VR.mono hz₂ _ _ hv, S₂, h₂⟩
  | false => exact wpLe (hz.trans hz₂) ((wRec_sound n).E F c q _ _ _ _ _ h₂ Z₂ s₂ S₂)⟩
end
section
variable {F : Fm}
theorem raise_ve : WRaise F (.type "ValueError") := ⟨fun c q => .blt PySem.F.excCall_ValueError PySem.F.excRaise_ValueError⟩
theorem catch_ve : WCatch F (.type "ValueError") (.type "ValueError") := ⟨fun c q => Catches.builtin PySem.F.isExc_ValueError PySem.F.notTuple_ValueError PySem.F.self_ValueError⟩
theorem catch_stop : WCatch F (.type "StopIteration") (.type "StopIteration") := ⟨fun c q => Catches.builtin (by rw [isSubtype_type]; kernel_rfl) (by rw [show ((Manifest.find? "StopIteration").elim "type" fun x => x.metatype) = "type" from by kernel_rfl, isSubtype_type]; kernel_rfl) isSubtype_stop⟩
end
end Mine.Internal
end

section
open PySem PySem.W PySem.Calls PyProof.Rows
set_option Elab.async false
set_option maxRecDepth 10000
set_option linter.unusedVariables false
set_option linter.unusedSimpArgs false
namespace Mine.Internal
section
variable {F : Fm} {c : Cx} {ρ : AEnv} {H : AHs} {X : AX} {QV : AV → AEnv → AHs → Prop} {n : Nat} {pos : Pos} {e : Expr} {k : Key}
theorem WE.fstr1 (h : (wRec n).E F e ρ H QV X) : WE F (.JoinedStr [e] pos) ρ H QV X := ⟨fun c q Z s S => JoinedStr_one ((wRec_sound n).E F c q _ _ _ _ _ h Z s S)⟩
end
end Mine.Internal
end

section
open PySem PySem.W PySem.Calls PyProof.Rows
set_option Elab.async false
set_option maxRecDepth 10000
set_option linter.unusedVariables false
set_option linter.unusedSimpArgs false
namespace Mine.Internal
section
variable {F : Fm} {c : Cx} {ρ : AEnv} {H : AHs} {X : AX} {QV : AV → AEnv → AHs → Prop} {n i j m : Nat} {M N : AM} {pos p : Pos} {e v sl : Expr} {k : Key} {a x : AV} {xs : List AV} {it mw : Addr} {ex : Bool}
theorem Gh.empty {P : AEnv → AHs → Prop} (h : Gh P ρ ((fun z_ => Option.none) :: H)) : Gh P ρ H := ⟨fun c Z s G S => by
  obtain ⟨ρ', H', Z', hz, S', p⟩ := h.h c Z s G (by
    have hp := List.pairwise_append.mp S.apart
    refine { S with own := fun M hM => ?_, apart := List.pairwise_append.mpr ⟨hp.1, List.pairwise_cons.mpr ⟨fun z_ z_ z_ => .inl rfl, hp.2.1⟩, fun a ha b hb => ?_⟩ }
    · rcases List.mem_append.mp hM with h | h
      · exact S.own M (List.mem_append_left _ h)
      · rcases List.mem_cons.mp h with rfl | h
        · exact fun b d e => by cases e
        · exact S.own M (List.mem_append_right _ h)
    · rcases List.mem_cons.mp hb with rfl | hb
      · exact fun z_ => .inr rfl
      · exact hp.2.2 a ha b hb)
  exact ⟨ρ', H', Z', hz, S', p⟩⟩
theorem WC.iter (hl : LV H a xs) (h : ∀ it, QV (.ref it) ρ (one it (oLIt a 0) :: H)) : WC F (.val (.builtin "iter")) [a] ρ H QV X := ⟨fun c q => TC.iterL hl h⟩
set_option tactic.hygienic true in
theorem W1.next (hi : H[i]? = some M) (hit : M it = some (oLIt a n)) (h : ∀ mw, QV (.ref mw) ρ (one mw (oNext it) :: H)) : W1 F VR (fun v => getAttr v "__next__" ex) (.ref it) ρ H QV X := ⟨fun c q => T1.nextA hi hit h⟩
set_option tactic.hygienic true in
theorem WC.next (hi : H[i]? = some M) (hmw : M mw = some (oNext it)) (hit : M it = some (oLIt a n)) (hl : LV H a xs) (hx : xs[n]? = some x) (h : QV x ρ (H.set i (M.put it (oLIt a (n + 1))))) : WC F (.val (.ref mw)) [] ρ H QV X := ⟨fun c q => TC.next hi hmw hi hit hl hx h⟩
theorem WC.nextEnd (hh : F.hn = true) (hi : H[i]? = some M) (hmw : M mw = some (oNext it)) (hit : M it = some (oLIt a n)) (hl : LV H a xs) (hx : xs.length ≤ n) (h : X (.type "StopIteration") [] ρ (H.set i (M.put it (oAny fun z_ => True)))) : WC F (.val (.ref mw)) [] ρ H QV X :=
  ⟨fun c q => TC.nextEnd (q.hdl hh) hi hmw hi hit hl hx h⟩
inductive NextOf (F : Fm) (QV : AV → AEnv → AHs → Prop) (X : AX) (a : AV) (ρ : AEnv) (H : AHs) : Prop
  | mk {mw it : Addr} {i : Nat} {M : AM} (e : a = .ref mw) (hi : H[i]? = some M) (hm : M mw = some (oNext it)) (h : WC F (.val (.ref mw)) [] ρ H QV X) : NextOf F QV X a ρ H
theorem WE.callNext (n : Nat) (h : (wRec n).E F (.Subscript v sl p) ρ H (NextOf F QV X) X) : WE F (.Call (.Subscript v sl p) [] [] pos) ρ H QV X := ⟨fun c q => TE.callE rfl (((wRec_sound n).E F c q _ _ _ _ _ h).impQ fun a ρ₁ H₁ h => by
  cases h with | mk e hi hm h => exact ⟨_, _, _, _, e, hi, hm, rfl, h.h c q⟩)⟩
end
end Mine.Internal
end

section
open PySem PySem.W PySem.Calls PyProof.Rows
set_option Elab.async false
set_option maxRecDepth 10000
set_option linter.unusedVariables false
set_option linter.unusedSimpArgs false
namespace Mine.Internal
section
variable {prog : Program} {w : World} {A : Around} {R : Result → Shared → Prop} {s : Shared} {elt t1 i1 t2 i2 : Expr} {f1 f2 : List Expr} {scope : Scope} {pos : Pos}
end
section
variable {c : Cx} {ρ : AEnv} {H : AHs} {Z : ZM} {s : Shared} {elt t1 i1 t2 i2 : Expr} {f1 f2 : List Expr} {scope : Scope} {pos : Pos}
end
end Mine.Internal
end

section
open PySem PySem.W PySem.Calls PyProof.Rows
set_option Elab.async false
set_option maxRecDepth 10000
set_option linter.unusedVariables false
set_option linter.unusedSimpArgs false
namespace Mine.Internal
theorem Gh.drop {P : AEnv → AHs → Prop} {ρ : AEnv} {H H' : AHs} (hs : H'.Sublist H) (h : Gh P ρ H') : Gh P ρ H := ⟨fun c Z s G S => h.h c Z s G (S.drop (List.Sublist.append_left hs G))⟩
section
variable {c : Cx} {ρ : AEnv} {H : AHs} {Z : ZM} {s : Shared} {X : AX} {QV : AV → AEnv → AHs → Prop} {scope : Scope} {elt t1 i1 t2 i2 : Expr} {f1 f2 : List Expr} {pos : Pos}
end
section
variable {F : Fm} {H : AHs} {target : Expr} {i : Nat} {M : AM}
end
section
variable {F : Fm} {c : Cx} {ρ : AEnv} {H : AHs} {X : AX} {QV : AV → AEnv → AHs → Prop} {sc : Scope} {elt t1 i1 t2 i2 : Expr} {f2 : List Expr} {pos : Pos} {n : Nat}
end
end Mine.Internal
end

section
open PySem PySem.W PySem.Calls PyProof.Rows
set_option Elab.async false
set_option maxRecDepth 10000
set_option linter.unusedVariables false
set_option linter.unusedSimpArgs false
namespace Mine.Internal
section
variable {F : Fm} {c : Cx} {ρ : AEnv} {H : AHs} {X : AX} {QV : AV → AEnv → AHs → Prop} {Q : AF → AEnv → AHs → Prop} {sc : Scope} {elt t1 i1 t2 i2 : Expr} {f1 f2 : List Expr} {pos py spos : Pos} {n : Nat} {y : Str}
end
theorem rangeAV_01 {n : Nat} : rangeAV 0 1 n = (List.range n).map fun (k : Nat) => AV.int (k : Int) := by
  unfold rangeAV
  exact List.map_congr_left fun k z_ => by rw [Int.zero_add, Int.one_mul]
theorem range_facts {b : Int} {n : Nat} (hb : b = n) (hn : n ≤ 1000000) : Builtin.Range.small 0 b 1 = true ∧ Builtin.Range.rangeSize 0 b 1 = n := by
  subst hb
  refine ⟨small_one (by decide) (by decide) (by (exact Int.natCast_nonneg _)) (by omega), ?_⟩
  rw [rangeSize_one]
  split <;> lia
section
variable {F : Fm} {H : AHs} {target : Expr} {i n : Nat} {M : AM} {r : Addr} {b : Int} {sc : Scope}
theorem WIter.rng (hi : H[i]? = some M) (hr : M r = some (oRange 0 b 1)) (hb : b = n) (hn : n ≤ 1000000) : WIter F H (.ref r) target (fun z_ => True) ((List.range n).map fun (k : Nat) => AV.int (k : Int)) :=
  rangeAV_01 ▸ WIter.range hi hr (range_facts hb hn).1 (range_facts hb hn).2
theorem WIterC.rng (hi : H[i]? = some M) (hr : M r = some (oRange 0 b 1)) (hb : b = n) (hn : n ≤ 1000000) : WIterC F sc H (.ref r) target (fun z_ => True) ((List.range n).map fun (k : Nat) => AV.int (k : Int)) :=
  rangeAV_01 ▸ WIterC.range hi hr (range_facts hb hn).1 (range_facts hb hn).2
end
end Mine.Internal
end

section
open PySem PySem.W PySem.Calls PyProof.Rows
set_option Elab.async false
set_option maxRecDepth 10000
set_option linter.unusedVariables false
set_option linter.unusedSimpArgs false
namespace Mine.Internal
structure Enc {α : Type} (f : α → AV) (D : α → Prop) (dp : Nat) [DecidableEq α] : Prop where
  eq : ∀ a b, PyData.eqv (f a).toPy (f b).toPy = decide (a = b)
  dat : ∀ a, D a → (f a).isData = true
  dep : ∀ a, (f a).toPy.depth ≤ dp
noncomputable def Key.Ok (k : Key) : Prop := k.av.isData = true
theorem encKey : Enc Key.av Key.Ok 0 where
  eq := fun a b => by
    cases a with
    | i m =>
      cases b with
      | i n =>
        show (m == n) = _
        by_cases h : m = n
        · subst h; simp
        · rw [decide_eq_false (by intro e; cases e; exact h rfl)]; simpa using h
      | s y => rfl
    | s x =>
      cases b with
      | i n => rfl
      | s y =>
        show (x == y) = _
        by_cases h : x = y
        · subst h; simp
        · rw [decide_eq_false (by intro e; cases e; exact h rfl)]; simpa using h
  dat := fun a h => h
  dep := fun a => by cases a <;> exact Nat.le_refl _
theorem encInt : Enc AV.int (fun z_ => True) 0 where
  eq := fun a b => by
    show (a == b) = _
    by_cases h : a = b
    · subst h; simp
    · rw [decide_eq_false h]; simpa using h
  dat := fun a z_ => rfl
  dep := fun a => Nat.le_refl _
section
variable {α : Type} [DecidableEq α] {f : α → AV} {D : α → Prop} {dp : Nat}
theorem Enc.eqs (E : Enc f D dp) : ∀ a b : List α, PyData.eqvAll (AV.toPys (a.map f)) (AV.toPys (b.map f)) = decide (a = b)
  | [], [] => rfl
  | [], _ :: _ => rfl
  | _ :: _, [] => rfl
  | x :: a, y :: b => by
    show (PyData.eqv (f x).toPy (f y).toPy && PyData.eqvAll (AV.toPys (a.map f)) (AV.toPys (b.map f))) = _
    rw [E.eq, E.eqs a b]
    by_cases h : x = y
    · subst h; by_cases h2 : a = b <;> simp [h2]
    · simp [h]
theorem Enc.dats (E : Enc f D dp) : ∀ a : List α, (∀ x ∈ a, D x) → AV.isDatas (a.map f) = true
  | [], _ => rfl
  | x :: a, h => by
    show ((f x).isData && AV.isDatas (a.map f)) = true
    rw [E.dat x (h x (List.mem_cons_self ..)), E.dats a fun y hy => h y (List.mem_cons_of_mem _ hy)]; rfl
theorem Enc.deps (E : Enc f D dp) : ∀ a : List α, PyData.depthAll (AV.toPys (a.map f)) ≤ dp
  | [] => Nat.zero_le _
  | x :: a => Nat.max_le.mpr ⟨E.dep x, E.deps a⟩
theorem Enc.list (E : Enc f D dp) : Enc (fun l : List α => AV.list (l.map f)) (fun l => ∀ x ∈ l, D x) (dp + 1) where
  eq := E.eqs
  dat := fun l h => E.dats l h
  dep := fun l => Nat.succ_le_succ (E.deps l)
theorem Enc.tup (E : Enc f D dp) : Enc (fun l : List α => AV.tup (l.map f)) (fun l => ∀ x ∈ l, D x) (dp + 1) where
  eq := E.eqs
  dat := fun l h => E.dats l h
  dep := fun l => Nat.succ_le_succ (E.deps l)
theorem Enc.any (E : Enc f D dp) {x : α} : ∀ l : List α, ((AV.toPys (l.map f)).any fun z => PyData.eqv z (f x).toPy) = decide (x ∈ l)
  | [] => rfl
  | y :: l => by
    show (PyData.eqv (f y).toPy (f x).toPy || (AV.toPys (l.map f)).any _) = _
    rw [E.eq, E.any l]
    by_cases h : y = x
    · subst h; simp
    · have : ¬ x = y := fun e => h e.symm
      simp [h, this]
end
noncomputable def pairAV (p : Key × Key) : AV := .tup [p.1.av, p.2.av]
theorem encPair : Enc pairAV (fun p => p.1.Ok ∧ p.2.Ok) 1 where
  eq := fun a b => by
    have := encKey.eqs [a.1, a.2] [b.1, b.2]
    refine this.trans ?_
    obtain ⟨a1, a2⟩ := a
    obtain ⟨b1, b2⟩ := b
    by_cases h : a1 = b1 ∧ a2 = b2
    · obtain ⟨rfl, rfl⟩ := h; simp
    · rw [decide_eq_false (by simpa using h), decide_eq_false (by simpa using h)]
  dat := fun a h => encKey.dats [a.1, a.2] (by intro x hx; rcases List.mem_cons.mp hx with rfl | hx; exact h.1; rcases List.mem_cons.mp hx with rfl | hx; exact h.2; cases hx)
  dep := fun a => Nat.succ_le_succ (encKey.deps [a.1, a.2])
section
variable {F : Fm} {ρ : AEnv} {H : AHs} {X : AX} {QV : AV → AEnv → AHs → Prop} {α : Type} [DecidableEq α] {f : α → AV} {D : α → Prop} {dp : Nat} {a b : α} {l : List α}
theorem W2.eqE (E : Enc f D dp) (hd : dp ≤ 60) (ha : D a) (hb : D b) (h : QV (.bool (decide (a = b))) ρ H) : W2 F VR (compareOp .Eq) (f a) (f b) ρ H QV X := W2.eqD (.data (E.dat a ha)) (.data (E.dat b hb)) (Nat.le_trans (E.dep a) (by (exact Nat.le_trans (by assumption) (Nat.le_of_ble_eq_true rfl)))) (by rw [E.eq]; exact h)
theorem W2.neE (E : Enc f D dp) (hd : dp ≤ 60) (ha : D a) (hb : D b) (h : QV (.bool (!decide (a = b))) ρ H) : W2 F VR (compareOp .NotEq) (f a) (f b) ρ H QV X := W2.neD (.data (E.dat a ha)) (.data (E.dat b hb)) (Nat.le_trans (E.dep a) (by (exact Nat.le_trans (by assumption) (Nat.le_of_ble_eq_true rfl)))) (by rw [E.eq]; exact h)
theorem W2.inE (E : Enc f D dp) (hd : dp ≤ 60) (ha : D a) (hl : ∀ x ∈ l, D x) (h : QV (.bool (decide (a ∈ l))) ρ H) : W2 F VR (compareOp .In) (f a) (.list (l.map f)) ρ H QV X :=
  W2.inL (.data (E.dat a ha)) (.data (E.list.dat l hl)) (Nat.le_trans (E.dep a) (by (exact Nat.le_trans (by assumption) (Nat.le_of_ble_eq_true rfl)))) (by rw [E.any]; exact h)
theorem W2.notInE (E : Enc f D dp) (hd : dp ≤ 60) (ha : D a) (hl : ∀ x ∈ l, D x) (h : QV (.bool (!decide (a ∈ l))) ρ H) : W2 F VR (compareOp .NotIn) (f a) (.list (l.map f)) ρ H QV X :=
  W2.notInL (.data (E.dat a ha)) (.data (E.list.dat l hl)) (Nat.le_trans (E.dep a) (by (exact Nat.le_trans (by assumption) (Nat.le_of_ble_eq_true rfl)))) (by rw [E.any]; exact h)
theorem wCmp.neK {j k : Key} (hj : j.Ok) (hk : k.Ok) (h : QV (.bool (!decide (j = k))) ρ H) : wCmp F .NotEq j.av k.av ρ H QV X := by
  cases j with
  | i m =>
    cases k with
    | i n => show QV (.bool (decide (m ≠ n))) ρ H; rw [show decide (m ≠ n) = !decide (Key.i m = Key.i n) by simp]; exact h
    | s y => exact W2.neE encKey (by decide) hj hk h
  | s x => exact W2.neE encKey (by decide) hj hk h
end
end Mine.Internal
end

section
open PySem PySem.W PySem.Calls PyProof.Rows
set_option Elab.async false
set_option maxRecDepth 100000
set_option linter.unusedVariables false
set_option linter.unusedSimpArgs false
namespace Mine.Internal
theorem VRs.set {Z : ZM} {a : AV} {v : Value} (hv : VR Z a v) : ∀ {xs : List AV} {vs : List Value} (k : Nat), VRs Z xs vs → VRs Z (xs.set k a) (vs.set k v)
  | _, _, _, .nil => .nil
  | _, _, 0, .cons _ h => .cons hv h
  | _, _, k + 1, .cons h0 h => .cons h0 (VRs.set hv k h)
theorem Gh.perm {P : AEnv → AHs → Prop} {ρ : AEnv} {H : AHs} (H' : AHs) (hp : H'.Perm H) (h : Gh P ρ H') : Gh P ρ H := ⟨fun c Z s G S => h.h c Z s G (S.perm (List.Perm.append_left G hp))⟩
section
variable {F : Fm} {ρ : AEnv} {H : AHs} {X : AX} {QV : AV → AEnv → AHs → Prop} {QU : Unit → AEnv → AHs → Prop} {a b x : AV} {xs : List AV} {k : Int} {i : Nat} {M : AM} {l : Addr}
theorem W2.getI (hl : LV H a xs) (h0 : 0 ≤ k) (hk : k < 2 ^ 63) (hx : xs[k.toNat]? = some x) (h : QV x ρ H) : W2 F VR getItem a (.int k) ρ H QV X := ⟨fun c q Z s v w S hv hw => by
  obtain ⟨t, rfl⟩ := hw.toInt
  obtain ⟨l, vs, rfl, hL, hvs⟩ := hl.isList S hv
  obtain ⟨y, hy, hxy⟩ := hvs.get hx
  exact wpAny_getItem_list hL h0 hk (by simpa using hy) (Post.now S hxy h)⟩
theorem W3.setI (hi : H[i]? = some M) (hl : M l = some (oList xs)) (h0 : 0 ≤ k) (hk : k < 2 ^ 63) (hx : k < xs.length) (h : QU () ρ (H.set i (M.put l (oList (xs.set k.toNat a))))) : W3 F rUnit setItem (.ref l) (.int k) a ρ H QU X := ⟨fun c q Z s v w z S hv hw hz => by
  cases hv
  obtain ⟨t, rfl⟩ := hw.toInt
  obtain ⟨o, e1, us, n, rfl, e2⟩ := S.read hi hl
  have hsz := e2.toArr
  refine ki_setAt e1 h0 hk (by rw [hsz]; exact hx) ?_
  exact ⟨(), ρ, _, Z, .refl _, trivial, S.mut hi hl (d' := oList (xs.set k.toNat a)) (s' := { s with heap := s.heap.update l (Obj.mapSeq (·.setIfInBounds k.toNat z)) }) (fun b o hb e => (Heap.get?_update_other _ _ (Ne.symm hb)).trans e) rfl rfl (IsL.update (n := n) e1 _) ⟨_, _, rfl, by simpa using VRs.set hz k.toNat e2⟩, h⟩⟩
end
end Mine.Internal
end

section
open PySem PySem.W PySem.Calls PyProof.Rows
set_option Elab.async false
set_option maxRecDepth 10000
set_option linter.unusedVariables false
set_option linter.unusedSimpArgs false
namespace Mine.Internal
section
variable {F : Fm} {ρ : AEnv} {H : AHs} {X : AX} {QV : AV → AEnv → AHs → Prop} {n : Nat} {i j : Nat} {M N : AM} {x dx C f : Addr} {fs : AEnv} {name : Str}
structure WBound (F : Fm) (H : AHs) (x : Addr) (name : Str) (f : Addr) : Prop where
  h : ∀ c, Knows F c → BoundIs c H x name f ∧ FnKnown c.K f
theorem WBound.inst (hc : DictCls F.g.K C) (hi : H[i]? = some M) (hx : M x = some (oInst C dx)) (hj : H[j]? = some N) (hd : N dx = some (oNs fs)) (hn : findIn F.g.K (.ref C) name = some (some (.ref f))) (hf : FnKnown F.g.K f) (hl : fs.lookup name = Option.none) (hcn : copiedNames.contains name = false) : WBound F H x name f :=
  ⟨fun c q => ⟨BoundIs.inst q.ok (q.K ▸ hc) hi hx hj hd (q.K ▸ hn) (q.K ▸ hf) hl hcn, q.K ▸ hf⟩⟩
theorem WE.methS1 (n : Nat) {o e : Expr} {apos pos p : Pos} (hb : baseOk o = true) (hfn : F.fn = true)
    (h : (wRec n).E F o ρ H (fun a ρ₁ H₁ => ∃ x f, a = .ref x ∧ WBound F H₁ x name f ∧ (wRec n).E F e ρ₁ H₁ (fun b ρ₂ H₂ => ∃ xs, SV H₂ b xs ∧ xs.length ≤ 1000000 ∧ WK F (.val (.ref f)) (.ref x :: xs) ρ₂ H₂ QV X) X) X) :
    WE F (.Call (.Attribute o name apos) [.Starred e p] [] pos) ρ H QV X := ⟨fun c q => by
  obtain ⟨sc, Fn, hsc⟩ := q.fn hfn
  refine TE.methS1 Fn (((wRec_sound n).E F c q _ _ _ _ _ h).impQ fun a ρ₁ H₁ ⟨x, f, h1, h2, h3⟩ => ⟨x, f, h1, (h2.h c q).1, (h2.h c q).2, fun b mo Fh => ?_⟩) (baseOk_sound hb)
  exact ((wRec_sound n).E F _ (q.hold Fh hsc hfn) _ _ _ _ _ h3).impQ fun b ρ₂ H₂ ⟨xs, g1, g2, g3⟩ => ⟨xs, g1, g2, g3.h c q⟩⟩
end
end Mine.Internal
end

section
open PySem PySem.W PySem.Calls PyProof.Rows
set_option Elab.async false
set_option maxRecDepth 100000
set_option linter.unusedVariables false
namespace Mine.Internal
abbrev PW : Program := PySem.Challenge.pw_dm0132_10
abbrev RW : OpenLaw := PySem.Challenge.rw_dm0132_10
noncomputable def nthS (l : List Stmt) (n : Nat) : Stmt := (l[n]?).getD (.Pass ⟨0, 0, 0, 0⟩)
noncomputable def clsBody : Stmt → List Stmt
  | .ClassDef _ _ _ b _ _ _ _ _ _ _ => b
  | _ => []
noncomputable def fArgs : Stmt → Arguments
  | .FunctionDef _ a _ _ _ _ _ _ _ _ => a
  | _ => ⟨[], [], Option.none, [], [], Option.none, []⟩
noncomputable def fBody : Stmt → List Stmt
  | .FunctionDef _ _ b _ _ _ _ _ _ _ => b
  | _ => []
noncomputable def fScope : Stmt → Scope
  | .FunctionDef _ _ _ _ _ _ s _ _ _ => s
  | _ => ⟨.function, [], false, false, []⟩
noncomputable def fPos : Stmt → Pos
  | .FunctionDef _ _ _ _ _ _ _ _ _ p => p
  | _ => ⟨0, 0, 0, 0⟩
noncomputable section
noncomputable def fnAt (i : Nat) : Stmt := nthS PW.main.body i
noncomputable def methAt (i j : Nat) : Stmt := nthS (clsBody (nthS PW.main.body i)) j
noncomputable def k2 (P : Params) : Obj := { cls := Value.none, data := Data.dict #[] }
noncomputable def k3 (P : Params) : Obj := { cls := Value.type "dict", data := Data.dict #[{ hash := PyData.keyHash P (Str.ofString "__name__"), key := Value.str (Str.ofString "__name__") 165, val := Value.str (Str.ofString "law_dm0132_10") 376 }, { hash := PyData.keyHash P (Str.ofString "__doc__"), key := Value.str (Str.ofString "__doc__") 166, val := Value.none }, { hash := PyData.keyHash P (Str.ofString "__package__"), key := Value.str (Str.ofString "__package__") 167, val := Value.none }, { hash := PyData.keyHash P (Str.ofString "__loader__"), key := Value.str (Str.ofString "__loader__") 168, val := Value.builtin "__main__.__loader__#opaque" }, { hash := PyData.keyHash P (Str.ofString "__spec__"), key := Value.str (Str.ofString "__spec__") 169, val := Value.none }, { hash := PyData.keyHash P (Str.ofString "__annotations__"), key := Value.str (Str.ofString "__annotations__") 170, val := Value.ref 6 }, { hash := PyData.keyHash P (Str.ofString "__builtins__"), key := Value.str (Str.ofString "__builtins__") 171, val := Value.ref 4 }, { hash := PyData.keyHash P (Str.ofString "__file__"), key := Value.str (Str.ofString "__file__") 173, val := Value.str (Str.ofString "/claim/cut.py") 172 }, { hash := PyData.keyHash P (Str.ofString "__cached__"), key := Value.str (Str.ofString "__cached__") 174, val := Value.none }, { hash := PyData.keyHash P (Str.ofString "_wall"), key := Value.str (Str.ofString "_wall") 193, val := Value.ref 21 }, { hash := PyData.keyHash P (Str.ofString "_NODE_OUT"), key := Value.str (Str.ofString "_NODE_OUT") 198, val := Value.int (-1) 197 }, { hash := PyData.keyHash P (Str.ofString "_NODE_DONE"), key := Value.str (Str.ofString "_NODE_DONE") 201, val := Value.int (-2) 200 }, { hash := PyData.keyHash P (Str.ofString "_NodeInfo"), key := Value.str (Str.ofString "_NodeInfo") 238, val := Value.ref 40 }, { hash := PyData.keyHash P (Str.ofString "CycleError"), key := Value.str (Str.ofString "CycleError") 256, val := Value.ref 55 }, { hash := PyData.keyHash P (Str.ofString "TopologicalSorter"), key := Value.str (Str.ofString "TopologicalSorter") 375, val := Value.ref 137 }, { hash := PyData.keyHash P (Str.ofString "_law_moves"), key := Value.str (Str.ofString "_law_moves") 383, val := Value.ref 146 }, { hash := PyData.keyHash P (Str.ofString "law"), key := Value.str (Str.ofString "law") 389, val := Value.ref 151 }] 17 }
noncomputable def k6 (P : Params) : Obj := { cls := Value.type "dict", data := Data.dict #[] }
noncomputable def k20 (P : Params) : Obj := { cls := Value.type "code", data := Data.fields #[Value.str (Str.ofString "_wall") 187, Value.str (Str.ofString "_wall") 188, Value.str (Str.ofString "/claim/cut.py") 189, Value.int 1 0, Value.int 1 0, Value.int 0 0, Value.int 0 0, Value.int 3 0, Value.ref 15, Value.bool true, Value.int 181 0, Value.ref 16, Value.none, Value.ref 17, Value.ref 18, Value.ref 19, Value.int 191 0, Value.int 1 0, Value.str (Str.ofString "/claim/cut.py") 192] }
noncomputable def k21 (P : Params) : Obj := { cls := Value.type "function", data := Data.func { name := Str.ofString "_wall", qualname := Str.ofString "_wall", params := fArgs (fnAt 0), body := FuncBody.stmts (fBody (fnAt 0)), scope := fScope (fnAt 0), globals := 3, closure := [], defaults := Value.none, kwdefaults := Value.none, pyModule := Value.str (Str.ofString "__main__") 164, code := Value.ref 20 } }
noncomputable def k35 (P : Params) : Obj := { cls := Value.type "code", data := Data.fields #[Value.str (Str.ofString "__init__") 218, Value.str (Str.ofString "_NodeInfo.__init__") 219, Value.str (Str.ofString "/claim/cut.py") 220, Value.int 10 0, Value.int 2 0, Value.int 0 0, Value.int 0 0, Value.int 3 0, Value.ref 30, Value.bool true, Value.int 181 0, Value.ref 31, Value.none, Value.ref 32, Value.ref 33, Value.ref 34, Value.int 223 0, Value.int 10 0, Value.str (Str.ofString "/claim/cut.py") 224] }
noncomputable def k36 (P : Params) : Obj := { cls := Value.type "function", data := Data.func { name := Str.ofString "__init__", qualname := Str.ofString "_NodeInfo.__init__", params := fArgs (methAt 4 1), body := FuncBody.stmts (fBody (methAt 4 1)), scope := fScope (methAt 4 1), globals := 3, closure := [], defaults := Value.none, kwdefaults := Value.none, pyModule := Value.str (Str.ofString "cpy313.graphlib") 194, code := Value.ref 35 } }
noncomputable def k39 (P : Params) : Obj := { cls := Value.type "dict", data := Data.dict #[{ hash := PyData.keyHash P (Str.ofString "__module__"), key := Value.str (Str.ofString "__module__") 209, val := Value.str (Str.ofString "cpy313.graphlib") 194 }, { hash := PyData.keyHash P (Str.ofString "__firstlineno__"), key := Value.str (Str.ofString "__firstlineno__") 213, val := Value.int 7 212 }, { hash := PyData.keyHash P (Str.ofString "__slots__"), key := Value.str (Str.ofString "__slots__") 217, val := Value.ref 29 }, { hash := PyData.keyHash P (Str.ofString "__init__"), key := Value.str (Str.ofString "__init__") 225, val := Value.ref 36 }, { hash := PyData.keyHash P (Str.ofString "__static_attributes__"), key := Value.str (Str.ofString "__static_attributes__") 229, val := Value.ref 37 }, { hash := PyData.keyHash P (Str.ofString "node"), key := Value.str (Str.ofString "node") 231, val := Value.ref 41 }, { hash := PyData.keyHash P (Str.ofString "npredecessors"), key := Value.str (Str.ofString "npredecessors") 233, val := Value.ref 42 }, { hash := PyData.keyHash P (Str.ofString "successors"), key := Value.str (Str.ofString "successors") 235, val := Value.ref 43 }, { hash := PyData.keyHash P (Str.ofString "__doc__"), key := Value.str (Str.ofString "__doc__") 236, val := Value.none }] 5 }
noncomputable def k40 (P : Params) : Obj := { cls := Value.type "type", data := Data.cls { name := Str.ofString "_NodeInfo", bases := [Value.type "object"], mro := [Value.ref 40, Value.type "object"], ns := 39, qualname := Str.ofString "_NodeInfo", hasDict := false, slotNames := [Str.ofString "node", Str.ofString "npredecessors", Str.ofString "successors"] }, slots := #[none, none, some (Value.str (Str.ofString "_NodeInfo") 202), some (Value.str (Str.ofString "_NodeInfo") 210), some (Value.builtin "object.__new__"), some (Value.bool false)] }
noncomputable def k41 (P : Params) : Obj := { cls := Value.type "member_descriptor", data := Data.fields #[Value.str (Str.ofString "node") 230, Value.ref 40, Value.builtin "proto.slot", Value.builtin "proto.slot#set", Value.int 2 0] }
noncomputable def k42 (P : Params) : Obj := { cls := Value.type "member_descriptor", data := Data.fields #[Value.str (Str.ofString "npredecessors") 232, Value.ref 40, Value.builtin "proto.slot", Value.builtin "proto.slot#set", Value.int 1 0] }
noncomputable def k43 (P : Params) : Obj := { cls := Value.type "member_descriptor", data := Data.fields #[Value.str (Str.ofString "successors") 234, Value.ref 40, Value.builtin "proto.slot", Value.builtin "proto.slot#set", Value.int 0 0] }
noncomputable def k54 (P : Params) : Obj := { cls := Value.type "dict", data := Data.dict #[{ hash := PyData.keyHash P (Str.ofString "__module__"), key := Value.str (Str.ofString "__module__") 246, val := Value.str (Str.ofString "cpy313.graphlib") 194 }, { hash := PyData.keyHash P (Str.ofString "__firstlineno__"), key := Value.str (Str.ofString "__firstlineno__") 250, val := Value.int 14 249 }, { hash := PyData.keyHash P (Str.ofString "__static_attributes__"), key := Value.str (Str.ofString "__static_attributes__") 251, val := Value.ref 53 }, { hash := PyData.keyHash P (Str.ofString "__weakref__"), key := Value.str (Str.ofString "__weakref__") 253, val := Value.ref 56 }, { hash := PyData.keyHash P (Str.ofString "__doc__"), key := Value.str (Str.ofString "__doc__") 254, val := Value.none }] 3 }
noncomputable def k55 (P : Params) : Obj := { cls := Value.type "type", data := Data.cls { name := Str.ofString "CycleError", bases := [Value.type "ValueError"], mro := [Value.ref 55, Value.type "ValueError", Value.type "Exception", Value.type "BaseException", Value.type "object"], ns := 54, qualname := Str.ofString "CycleError" }, slots := #[some (Value.ref 46), none, some (Value.str (Str.ofString "CycleError") 239), some (Value.str (Str.ofString "CycleError") 247), some (Value.builtin "ValueError.__new__"), some (Value.bool true)] }
noncomputable def k56 (P : Params) : Obj := { cls := Value.type "getset_descriptor", data := Data.fields #[Value.str (Str.ofString "__weakref__") 252, Value.ref 55, Value.builtin "ExceptionGroup.__weakref__", Value.none] }
noncomputable def k66 (P : Params) : Obj := { cls := Value.type "tuple", data := Data.seq #[Value.none] }
noncomputable def k72 (P : Params) : Obj := { cls := Value.type "code", data := Data.fields #[Value.str (Str.ofString "__init__") 269, Value.str (Str.ofString "TopologicalSorter.__init__") 270, Value.str (Str.ofString "/claim/cut.py") 271, Value.int 18 0, Value.int 2 0, Value.int 0 0, Value.int 0 0, Value.int 3 0, Value.ref 67, Value.bool true, Value.int 181 0, Value.ref 68, Value.none, Value.ref 69, Value.ref 70, Value.ref 71, Value.int 276 0, Value.int 18 0, Value.str (Str.ofString "/claim/cut.py") 277] }
noncomputable def k73 (P : Params) : Obj := { cls := Value.type "function", data := Data.func { name := Str.ofString "__init__", qualname := Str.ofString "TopologicalSorter.__init__", params := fArgs (methAt 6 0), body := FuncBody.stmts (fBody (methAt 6 0)), scope := fScope (methAt 6 0), globals := 3, closure := [], defaults := Value.ref 66, kwdefaults := Value.none, pyModule := Value.str (Str.ofString "cpy313.graphlib") 194, code := Value.ref 72 } }
noncomputable def k79 (P : Params) : Obj := { cls := Value.type "code", data := Data.fields #[Value.str (Str.ofString "_get_nodeinfo") 279, Value.str (Str.ofString "TopologicalSorter._get_nodeinfo") 280, Value.str (Str.ofString "/claim/cut.py") 281, Value.int 27 0, Value.int 2 0, Value.int 0 0, Value.int 0 0, Value.int 3 0, Value.ref 74, Value.bool true, Value.int 181 0, Value.ref 75, Value.none, Value.ref 76, Value.ref 77, Value.ref 78, Value.int 285 0, Value.int 27 0, Value.str (Str.ofString "/claim/cut.py") 286] }
noncomputable def k80 (P : Params) : Obj := { cls := Value.type "function", data := Data.func { name := Str.ofString "_get_nodeinfo", qualname := Str.ofString "TopologicalSorter._get_nodeinfo", params := fArgs (methAt 6 1), body := FuncBody.stmts (fBody (methAt 6 1)), scope := fScope (methAt 6 1), globals := 3, closure := [], defaults := Value.none, kwdefaults := Value.none, pyModule := Value.str (Str.ofString "cpy313.graphlib") 194, code := Value.ref 79 } }
noncomputable def k86 (P : Params) : Obj := { cls := Value.type "code", data := Data.fields #[Value.str (Str.ofString "add") 288, Value.str (Str.ofString "TopologicalSorter.add") 289, Value.str (Str.ofString "/claim/cut.py") 290, Value.int 32 0, Value.int 2 0, Value.int 0 0, Value.int 0 0, Value.int 7 0, Value.ref 81, Value.bool true, Value.int 181 0, Value.ref 82, Value.none, Value.ref 83, Value.ref 84, Value.ref 85, Value.int 297 0, Value.int 32 0, Value.str (Str.ofString "/claim/cut.py") 298] }
noncomputable def k87 (P : Params) : Obj := { cls := Value.type "function", data := Data.func { name := Str.ofString "add", qualname := Str.ofString "TopologicalSorter.add", params := fArgs (methAt 6 2), body := FuncBody.stmts (fBody (methAt 6 2)), scope := fScope (methAt 6 2), globals := 3, closure := [], defaults := Value.none, kwdefaults := Value.none, pyModule := Value.str (Str.ofString "cpy313.graphlib") 194, code := Value.ref 86 } }
noncomputable def k91 (P : Params) : Obj := { cls := Value.type "code", data := Data.fields #[Value.str (Str.ofString "prepare") 300, Value.str (Str.ofString "TopologicalSorter.prepare") 301, Value.str (Str.ofString "/claim/cut.py") 302, Value.int 41 0, Value.int 1 0, Value.int 0 0, Value.int 0 0, Value.int 3 0, Value.ref 88, Value.bool true, Value.int 181 0, Value.ref 89, Value.none, Value.none, Value.none, Value.ref 90, Value.int 303 0, Value.int 41 0, Value.str (Str.ofString "/claim/cut.py") 304] }
noncomputable def k92 (P : Params) : Obj := { cls := Value.type "function", data := Data.func { name := Str.ofString "prepare", qualname := Str.ofString "TopologicalSorter.prepare", params := fArgs (methAt 6 3), body := FuncBody.stmts (fBody (methAt 6 3)), scope := fScope (methAt 6 3), globals := 3, closure := [], defaults := Value.none, kwdefaults := Value.none, pyModule := Value.str (Str.ofString "cpy313.graphlib") 194, code := Value.ref 91 } }
noncomputable def k98 (P : Params) : Obj := { cls := Value.type "code", data := Data.fields #[Value.str (Str.ofString "get_ready") 306, Value.str (Str.ofString "TopologicalSorter.get_ready") 307, Value.str (Str.ofString "/claim/cut.py") 308, Value.int 49 0, Value.int 1 0, Value.int 0 0, Value.int 0 0, Value.int 3 0, Value.ref 93, Value.bool true, Value.int 181 0, Value.ref 94, Value.none, Value.ref 95, Value.ref 96, Value.ref 97, Value.int 313 0, Value.int 49 0, Value.str (Str.ofString "/claim/cut.py") 314] }
noncomputable def k99 (P : Params) : Obj := { cls := Value.type "function", data := Data.func { name := Str.ofString "get_ready", qualname := Str.ofString "TopologicalSorter.get_ready", params := fArgs (methAt 6 4), body := FuncBody.stmts (fBody (methAt 6 4)), scope := fScope (methAt 6 4), globals := 3, closure := [], defaults := Value.none, kwdefaults := Value.none, pyModule := Value.str (Str.ofString "cpy313.graphlib") 194, code := Value.ref 98 } }
noncomputable def k105 (P : Params) : Obj := { cls := Value.type "code", data := Data.fields #[Value.str (Str.ofString "is_active") 316, Value.str (Str.ofString "TopologicalSorter.is_active") 317, Value.str (Str.ofString "/claim/cut.py") 318, Value.int 60 0, Value.int 1 0, Value.int 0 0, Value.int 0 0, Value.int 3 0, Value.ref 100, Value.bool true, Value.int 181 0, Value.ref 101, Value.none, Value.ref 102, Value.ref 103, Value.ref 104, Value.int 320 0, Value.int 60 0, Value.str (Str.ofString "/claim/cut.py") 321] }
noncomputable def k106 (P : Params) : Obj := { cls := Value.type "function", data := Data.func { name := Str.ofString "is_active", qualname := Str.ofString "TopologicalSorter.is_active", params := fArgs (methAt 6 5), body := FuncBody.stmts (fBody (methAt 6 5)), scope := fScope (methAt 6 5), globals := 3, closure := [], defaults := Value.none, kwdefaults := Value.none, pyModule := Value.str (Str.ofString "cpy313.graphlib") 194, code := Value.ref 105 } }
noncomputable def k112 (P : Params) : Obj := { cls := Value.type "code", data := Data.fields #[Value.str (Str.ofString "__bool__") 323, Value.str (Str.ofString "TopologicalSorter.__bool__") 324, Value.str (Str.ofString "/claim/cut.py") 325, Value.int 65 0, Value.int 1 0, Value.int 0 0, Value.int 0 0, Value.int 3 0, Value.ref 107, Value.bool true, Value.int 181 0, Value.ref 108, Value.none, Value.ref 109, Value.ref 110, Value.ref 111, Value.int 327 0, Value.int 65 0, Value.str (Str.ofString "/claim/cut.py") 328] }
noncomputable def k113 (P : Params) : Obj := { cls := Value.type "function", data := Data.func { name := Str.ofString "__bool__", qualname := Str.ofString "TopologicalSorter.__bool__", params := fArgs (methAt 6 6), body := FuncBody.stmts (fBody (methAt 6 6)), scope := fScope (methAt 6 6), globals := 3, closure := [], defaults := Value.none, kwdefaults := Value.none, pyModule := Value.str (Str.ofString "cpy313.graphlib") 194, code := Value.ref 112 } }
noncomputable def k119 (P : Params) : Obj := { cls := Value.type "code", data := Data.fields #[Value.str (Str.ofString "done") 330, Value.str (Str.ofString "TopologicalSorter.done") 331, Value.str (Str.ofString "/claim/cut.py") 332, Value.int 68 0, Value.int 1 0, Value.int 0 0, Value.int 0 0, Value.int 7 0, Value.ref 114, Value.bool true, Value.int 181 0, Value.ref 115, Value.none, Value.ref 116, Value.ref 117, Value.ref 118, Value.int 341 0, Value.int 68 0, Value.str (Str.ofString "/claim/cut.py") 342] }
noncomputable def k120 (P : Params) : Obj := { cls := Value.type "function", data := Data.func { name := Str.ofString "done", qualname := Str.ofString "TopologicalSorter.done", params := fArgs (methAt 6 7), body := FuncBody.stmts (fBody (methAt 6 7)), scope := fScope (methAt 6 7), globals := 3, closure := [], defaults := Value.none, kwdefaults := Value.none, pyModule := Value.str (Str.ofString "cpy313.graphlib") 194, code := Value.ref 119 } }
noncomputable def k126 (P : Params) : Obj := { cls := Value.type "code", data := Data.fields #[Value.str (Str.ofString "_find_cycle") 344, Value.str (Str.ofString "TopologicalSorter._find_cycle") 345, Value.str (Str.ofString "/claim/cut.py") 346, Value.int 91 0, Value.int 1 0, Value.int 0 0, Value.int 0 0, Value.int 3 0, Value.ref 121, Value.bool true, Value.int 181 0, Value.ref 122, Value.none, Value.ref 123, Value.ref 124, Value.ref 125, Value.int 354 0, Value.int 91 0, Value.str (Str.ofString "/claim/cut.py") 355] }
noncomputable def k127 (P : Params) : Obj := { cls := Value.type "function", data := Data.func { name := Str.ofString "_find_cycle", qualname := Str.ofString "TopologicalSorter._find_cycle", params := fArgs (methAt 6 8), body := FuncBody.stmts (fBody (methAt 6 8)), scope := fScope (methAt 6 8), globals := 3, closure := [], defaults := Value.none, kwdefaults := Value.none, pyModule := Value.str (Str.ofString "cpy313.graphlib") 194, code := Value.ref 126 } }
noncomputable def k133 (P : Params) : Obj := { cls := Value.type "code", data := Data.fields #[Value.str (Str.ofString "static_order") 357, Value.str (Str.ofString "TopologicalSorter.static_order") 358, Value.str (Str.ofString "/claim/cut.py") 359, Value.int 120 0, Value.int 1 0, Value.int 0 0, Value.int 0 0, Value.int 3 0, Value.ref 128, Value.bool true, Value.int 181 0, Value.ref 129, Value.none, Value.ref 130, Value.ref 131, Value.ref 132, Value.int 361 0, Value.int 120 0, Value.str (Str.ofString "/claim/cut.py") 362] }
noncomputable def k134 (P : Params) : Obj := { cls := Value.type "function", data := Data.func { name := Str.ofString "static_order", qualname := Str.ofString "TopologicalSorter.static_order", params := fArgs (methAt 6 9), body := FuncBody.stmts (fBody (methAt 6 9)), scope := fScope (methAt 6 9), globals := 3, closure := [], defaults := Value.none, kwdefaults := Value.none, pyModule := Value.str (Str.ofString "cpy313.graphlib") 194, code := Value.ref 133 } }
noncomputable def k136 (P : Params) : Obj := { cls := Value.type "dict", data := Data.dict #[{ hash := PyData.keyHash P (Str.ofString "__module__"), key := Value.str (Str.ofString "__module__") 264, val := Value.str (Str.ofString "cpy313.graphlib") 194 }, { hash := PyData.keyHash P (Str.ofString "__firstlineno__"), key := Value.str (Str.ofString "__firstlineno__") 268, val := Value.int 16 267 }, { hash := PyData.keyHash P (Str.ofString "__init__"), key := Value.str (Str.ofString "__init__") 278, val := Value.ref 73 }, { hash := PyData.keyHash P (Str.ofString "_get_nodeinfo"), key := Value.str (Str.ofString "_get_nodeinfo") 287, val := Value.ref 80 }, { hash := PyData.keyHash P (Str.ofString "add"), key := Value.str (Str.ofString "add") 299, val := Value.ref 87 }, { hash := PyData.keyHash P (Str.ofString "prepare"), key := Value.str (Str.ofString "prepare") 305, val := Value.ref 92 }, { hash := PyData.keyHash P (Str.ofString "get_ready"), key := Value.str (Str.ofString "get_ready") 315, val := Value.ref 99 }, { hash := PyData.keyHash P (Str.ofString "is_active"), key := Value.str (Str.ofString "is_active") 322, val := Value.ref 106 }, { hash := PyData.keyHash P (Str.ofString "__bool__"), key := Value.str (Str.ofString "__bool__") 329, val := Value.ref 113 }, { hash := PyData.keyHash P (Str.ofString "done"), key := Value.str (Str.ofString "done") 343, val := Value.ref 120 }, { hash := PyData.keyHash P (Str.ofString "_find_cycle"), key := Value.str (Str.ofString "_find_cycle") 356, val := Value.ref 127 }, { hash := PyData.keyHash P (Str.ofString "static_order"), key := Value.str (Str.ofString "static_order") 363, val := Value.ref 134 }, { hash := PyData.keyHash P (Str.ofString "__static_attributes__"), key := Value.str (Str.ofString "__static_attributes__") 368, val := Value.ref 135 }, { hash := PyData.keyHash P (Str.ofString "__dict__"), key := Value.str (Str.ofString "__dict__") 370, val := Value.ref 138 }, { hash := PyData.keyHash P (Str.ofString "__weakref__"), key := Value.str (Str.ofString "__weakref__") 372, val := Value.ref 139 }, { hash := PyData.keyHash P (Str.ofString "__doc__"), key := Value.str (Str.ofString "__doc__") 373, val := Value.none }] 4 }
noncomputable def k137 (P : Params) : Obj := { cls := Value.type "type", data := Data.cls { name := Str.ofString "TopologicalSorter", bases := [Value.type "object"], mro := [Value.ref 137, Value.type "object"], ns := 136, qualname := Str.ofString "TopologicalSorter" }, slots := #[none, none, some (Value.str (Str.ofString "TopologicalSorter") 257), some (Value.str (Str.ofString "TopologicalSorter") 265), some (Value.builtin "object.__new__"), some (Value.bool true)] }
noncomputable def k138 (P : Params) : Obj := { cls := Value.type "getset_descriptor", data := Data.fields #[Value.str (Str.ofString "__dict__") 369, Value.ref 137, Value.builtin "function.__dict__", Value.builtin "function.__dict__#set"] }
noncomputable def k139 (P : Params) : Obj := { cls := Value.type "getset_descriptor", data := Data.fields #[Value.str (Str.ofString "__weakref__") 371, Value.ref 137, Value.builtin "ExceptionGroup.__weakref__", Value.none] }
noncomputable def k145 (P : Params) : Obj := { cls := Value.type "code", data := Data.fields #[Value.str (Str.ofString "_law_moves") 378, Value.str (Str.ofString "_law_moves") 379, Value.str (Str.ofString "/claim/cut.py") 380, Value.int 123 0, Value.int 2 0, Value.int 0 0, Value.int 0 0, Value.int 3 0, Value.ref 142, Value.bool true, Value.int 181 0, Value.ref 143, Value.none, Value.none, Value.none, Value.ref 144, Value.int 381 0, Value.int 123 0, Value.str (Str.ofString "/claim/cut.py") 382] }
noncomputable def k146 (P : Params) : Obj := { cls := Value.type "function", data := Data.func { name := Str.ofString "_law_moves", qualname := Str.ofString "_law_moves", params := fArgs (fnAt 8), body := FuncBody.stmts (fBody (fnAt 8)), scope := fScope (fnAt 8), globals := 3, closure := [], defaults := Value.none, kwdefaults := Value.none, pyModule := Value.str (Str.ofString "law_dm0132_10") 376, code := Value.ref 145 } }
noncomputable def k150 (P : Params) : Obj := { cls := Value.type "code", data := Data.fields #[Value.str (Str.ofString "law") 384, Value.str (Str.ofString "law") 385, Value.str (Str.ofString "/claim/cut.py") 386, Value.int 131 0, Value.int 1 0, Value.int 0 0, Value.int 0 0, Value.int 3 0, Value.ref 147, Value.bool true, Value.int 181 0, Value.ref 148, Value.none, Value.none, Value.none, Value.ref 149, Value.int 387 0, Value.int 131 0, Value.str (Str.ofString "/claim/cut.py") 388] }
noncomputable def k151 (P : Params) : Obj := { cls := Value.type "function", data := Data.func { name := Str.ofString "law", qualname := Str.ofString "law", params := fArgs (fnAt 9), body := FuncBody.stmts (fBody (fnAt 9)), scope := fScope (fnAt 9), globals := 3, closure := [], defaults := Value.none, kwdefaults := Value.none, pyModule := Value.str (Str.ofString "law_dm0132_10") 376, code := Value.ref 150 } }
noncomputable def K0 (P : Params) : Frag := [(2, k2 P), (3, k3 P), (6, k6 P), (20, k20 P), (21, k21 P), (35, k35 P), (36, k36 P), (39, k39 P), (40, k40 P), (41, k41 P), (42, k42 P), (43, k43 P), (54, k54 P), (55, k55 P), (56, k56 P), (66, k66 P), (72, k72 P), (73, k73 P), (79, k79 P), (80, k80 P), (86, k86 P), (87, k87 P), (91, k91 P), (92, k92 P), (98, k98 P), (99, k99 P), (105, k105 P), (106, k106 P), (112, k112 P), (113, k113 P), (119, k119 P), (120, k120 P), (126, k126 P), (127, k127 P), (133, k133 P), (134, k134 P), (136, k136 P), (137, k137 P), (138, k138 P), (139, k139 P), (145, k145 P), (146, k146 P), (150, k150 P), (151, k151 P)]
noncomputable def KA : List Addr := [2, 3, 6, 20, 21, 35, 36, 39, 40, 41, 42, 43, 54, 55, 56, 66, 72, 73, 79, 80, 86, 87, 91, 92, 98, 99, 105, 106, 112, 113, 119, 120, 126, 127, 133, 134, 136, 137, 138, 139, 145, 146, 150, 151]
noncomputable def Q0 : Program := view PW [9]
noncomputable def D0 : DefRec := ⟨"law", fArgs (fnAt 9), fBody (fnAt 9), fScope (fnAt 9), fPos (fnAt 9)⟩
noncomputable def loose0 : List Str := ["_wall", "_NODE_OUT", "_NODE_DONE", "_NodeInfo", "CycleError", "TopologicalSorter", "_law_moves"]
abbrev H0 : Hook := kHook K0 KA (fun z_ => by kernel_rfl)
theorem said0 : RW.wellSaid = true := by kernel_rfl
theorem left0 : LeftO PW Q0 loose0 (fun s => xlAt Q0 [] s && recOk (RowW.records RW.row.toRowW) s) H0.obs H0.val 2510 := fun w => by kernel_rfl
end
end Mine.Internal
end

section
open PySem PySem.W PySem.Calls PyProof.Rows
set_option Elab.async false
set_option maxRecDepth 100000
set_option maxHeartbeats 0
set_option linter.unusedVariables false
namespace Mine.Internal
theorem lookup_mem {α : Type} {P : Str → α → Prop} : ∀ {l : List (Str × α)}, (∀ p ∈ l, P p.1 p.2) → ∀ x v, l.lookup x = some v → P x v
  | [], _, x, v, h => by cases h
  | (y, u) :: l, h, x, v, e => by
    rw [List.lookup_cons] at e
    cases hb : x == y with
    | true => rw [hb] at e; cases e; cases beq_iff_eq.mp hb; exact h _ (List.mem_cons_self ..)
    | false => rw [hb] at e; exact lookup_mem (fun p hp => h p (List.mem_cons_of_mem _ hp)) x v e
theorem all_nil {α : Type} {P : α → Prop} : ∀ p ∈ ([] : List α), P p := fun z_ h => by cases h
theorem all_cons {α : Type} {P : α → Prop} {a : α} {l : List α} (h : P a) (t : ∀ p ∈ l, P p) : ∀ p ∈ a :: l, P p := fun p hp => by
  rcases List.mem_cons.mp hp with rfl | hp
  · exact h
  · exact t p hp
noncomputable section
noncomputable def globs0 : List (Str × Value) := [("_NODE_OUT", .int (-1) 197), ("_NODE_DONE", .int (-2) 200), ("_NodeInfo", .ref 40), ("CycleError", .ref 55), ("TopologicalSorter", .ref 137), ("_law_moves", .ref 146)]
noncomputable def blts0 : List (Str × Value) := [("ValueError", .type "ValueError"), ("StopIteration", .type "StopIteration"), ("len", .builtin "len"), ("range", .type "range"), ("tuple", .type "tuple"), ("list", .type "list"), ("set", .type "set"), ("bool", .type "bool"), ("iter", .builtin "iter"), ("isinstance", .builtin "isinstance"), ("repr", .builtin "repr"), ("sum", .builtin "sum"), ("sorted", .builtin "sorted"), ("min", .builtin "min")]
noncomputable def keeps0 : List Addr := [40, 55, 137, 146, 36, 73, 80, 87, 92, 99, 106, 113, 120, 127]
noncomputable def G0 (w : World) : Gl := ⟨PW, w, K0 w.params, globs0, blts0, keeps0⟩
theorem G0.ok (w : World) : (G0 w).Ok where
  glob := lookup_mem (by
    show ∀ p ∈ globs0, nsIn (K0 w.params) mainGlobals p.1 = some (some p.2)
    unfold globs0
    repeat (refine all_cons (by kernel_rfl) ?_)
    exact all_nil)
  blt := lookup_mem (P := fun x v => nsIn (K0 w.params) mainGlobals x = some Option.none ∧ bootBuiltins x = some v ∧ x ≠ "__name__") (by
    show ∀ p ∈ blts0, _
    unfold blts0
    repeat (refine all_cons ⟨by kernel_rfl, by kernel_rfl, by decide +kernel⟩ ?_)
    exact all_nil)
  keep := fun a h => by
    have key : ∀ a ∈ keeps0, keepIn (K0 w.params) (.ref a) = true := by
      unfold keeps0
      repeat (refine all_cons (by kernel_rfl) ?_)
      exact all_nil
    exact key a (List.contains_iff_mem.mp h)
end
end Mine.Internal
end

section
open PySem PySem.W PySem.Calls PyProof.Rows
set_option Elab.async false
set_option maxRecDepth 100000
set_option maxHeartbeats 0
set_option linter.unusedVariables false
namespace Mine.Internal
noncomputable section
noncomputable def own0 (p : Pos) : Bool := [(13, 28), (93, 18), (94, 20), (126, 14), (134, 47), (137, 16), (140, 14), (146, 14), (155, 18), (184, 16), (186, 41)].contains (p.line, p.endCol)
noncomputable def Fr (w : World) (raw : List (Str × NameKind)) (hn : Bool) (lv : Nat) : Fm := ⟨G0 w, raw, true, hn, lv, own0⟩
theorem slotNI (P : Params) : SlotCls (K0 P) 40 := ⟨by kernel_rfl, by kernel_rfl, by kernel_rfl, by kernel_rfl⟩
theorem slot_succ (P : Params) : SlotAt (K0 P) 40 "successors" 2 := ⟨⟨43, by kernel_rfl, by kernel_rfl, by kernel_rfl, by kernel_rfl, by kernel_rfl⟩, by decide⟩
theorem slot_npred (P : Params) : SlotAt (K0 P) 40 "npredecessors" 1 := ⟨⟨42, by kernel_rfl, by kernel_rfl, by kernel_rfl, by kernel_rfl, by kernel_rfl⟩, by decide⟩
theorem slot_node (P : Params) : SlotAt (K0 P) 40 "node" 0 := ⟨⟨41, by kernel_rfl, by kernel_rfl, by kernel_rfl, by kernel_rfl, by kernel_rfl⟩, by decide⟩
noncomputable def fdK (P : Params) (a : Addr) : FuncData := (fdAt (K0 P) a).getD default
theorem fn36 (P : Params) : FnIs (K0 P) 36 (fdK P 36) (fBody (methAt 4 1)) := ⟨by kernel_rfl, by kernel_rfl, by kernel_rfl⟩
theorem ni_init {w : World} {raw : List (Str × NameKind)} {hn : Bool} {lv : Nat} (hlv : 1 ≤ lv) {ρ : AEnv} {H : AHs} {Q : AV → AEnv → AHs → Prop} {X : AX} {x dx : Addr} {node : AV} (hp : node.plain = true)
    (h : ∀ l, Q .none ρ (one l (oList []) :: one x (oSlots 40 dx [some node, some (.int 0), some (.ref l)]) :: one dx (oNs []) :: H)) :
    WK (Fr w raw hn lv) (.val (.ref 36)) [.ref x, node] ρ (one x (oSlots 40 dx [Option.none, Option.none, Option.none]) :: one dx (oNs []) :: H) Q X := by
  refine WK.pos (ρ0 := [("self", .ref x), ("node", node)]) 50 (fn36 _) rfl hlv (by kernel_rfl) (fun z_ z_ => .z (by kernel_rfl)) (by kernel_rfl) (by kernel_rfl) ?_
  refine W2.setS (i := 0) (j := 1) (slotNI _) rfl one_self rfl one_self (slot_node _) (by decide) hp ?_
  rw [one_put]
  refine .go ?_
  refine W2.setS (i := 0) (j := 1) (slotNI _) rfl one_self rfl one_self (slot_npred _) (Nat.le_of_ble_eq_true rfl) rfl ?_
  rw [one_put]
  refine .go ?_
  refine ⟨by decide, fun l => ?_⟩
  refine W2.setS (i := 1) (j := 2) (slotNI _) rfl one_self rfl one_self (slot_succ _) (Nat.le_of_ble_eq_true rfl) rfl ?_
  rw [one_put]
  exact .go (.go (h l))
end
end Mine.Internal
end

section
open PySem PySem.W PySem.Calls PyProof.Rows
set_option Elab.async false
set_option maxRecDepth 10000
set_option linter.unusedVariables false
set_option linter.unusedSimpArgs false
namespace Mine.Internal
structure LN where
  k : Key
  np : Int
  sc : List Key
  x : Addr
  dx : Addr
  l : Addr
structure LS where
  x : Addr
  dx : Addr
  d : Addr
  r : Addr
  ep : Nat
  ns : List LN
  ready : Option (List Key)
  passed : Int
  fin : Int
noncomputable def kav (ks : List Key) : List AV := ks.map Key.av
noncomputable def LN.cells (n : LN) : List (Addr × OD) := [(n.x, oSlots 40 n.dx [some n.k.av, some (.int n.np), some (.ref n.l)]), (n.dx, oNs []), (n.l, oList (kav n.sc))]
noncomputable def rdAV (r : Addr) : Option (List Key) → AV
  | Option.none => .none
  | some _ => .ref r
noncomputable def LS.fields (L : LS) : AEnv := [("_node2info", .ref L.d), ("_ready_nodes", rdAV L.r L.ready), ("_npassedout", .int L.passed), ("_nfinished", .int L.fin)]
noncomputable def LS.kvs (L : LS) : List (Key × AV) := L.ns.map fun n => (n.k, .ref n.x)
noncomputable def rdCells (r : Addr) : Option (List Key) → List (Addr × OD)
  | Option.none => []
  | some rs => [(r, oList (kav rs))]
noncomputable def LS.cells (w : World) (L : LS) : List (Addr × OD) := (L.x, oInst 137 L.dx) :: (L.dx, oNs L.fields) :: (L.d, oDict PW w L.kvs L.ep) :: (rdCells L.r L.ready ++ L.ns.flatMap LN.cells)
structure Lays (M : AM) (cs : List (Addr × OD)) : Prop where
  nd : (cs.map Prod.fst).Nodup
  at_ : ∀ a d, (a, d) ∈ cs → M a = some d
structure Srt (w : World) (M : AM) (L : LS) : Prop where
  lay : Lays M (L.cells w)
  keys : (L.ns.map LN.k).Nodup
theorem Lays.put {M : AM} {A B : List (Addr × OD)} {a : Addr} {d d' : OD} (h : Lays M (A ++ (a, d) :: B)) : Lays (M.put a d') (A ++ (a, d') :: B) := by
  have hn := h.nd
  simp only [List.map_append, List.map_cons] at hn
  refine ⟨by simpa only [List.map_append, List.map_cons] using hn, fun b e hb => ?_⟩
  have hn2 := List.nodup_append.mp hn
  rcases List.mem_append.mp hb with hb | hb
  · have : b ≠ a := hn2.2.2 b (List.mem_map.mpr ⟨_, hb, rfl⟩) a (List.mem_cons_self ..)
    exact (if_neg this).trans (h.at_ b e (List.mem_append_left _ hb))
  · rcases List.mem_cons.mp hb with hb | hb
    · cases hb; exact if_pos rfl
    · have : b ≠ a := fun q => (List.nodup_cons.mp hn2.2.1).1 (q ▸ List.mem_map.mpr ⟨_, hb, rfl⟩)
      exact (if_neg this).trans (h.at_ b e (List.mem_append_right _ (List.mem_cons_of_mem _ hb)))
theorem Lays.perm {M : AM} {cs cs' : List (Addr × OD)} (h : Lays M cs) (p : cs'.Perm cs) : Lays M cs' := ⟨(p.map Prod.fst).nodup_iff.mpr h.nd, fun a d m => h.at_ a d (p.mem_iff.mp m)⟩
theorem Lays.join {M N : AM} {cs ds : List (Addr × OD)} (h : Lays M cs) (h' : Lays N ds) (ap : Apart N M) : Lays (N.or M) (ds ++ cs) := by
  refine ⟨?_, fun a d m => ?_⟩
  · rw [List.map_append]
    refine List.nodup_append.mpr ⟨h'.nd, h.nd, fun a ha b hb e => ?_⟩
    subst e
    obtain ⟨⟨_, d⟩, h1, rfl⟩ := List.mem_map.mp ha
    obtain ⟨⟨_, d'⟩, h2, e⟩ := List.mem_map.mp hb
    cases e
    rcases ap _ with q | q
    · rw [h'.at_ _ _ h1] at q; cases q
    · rw [h.at_ _ _ h2] at q; cases q
  · unfold AM.or
    rcases List.mem_append.mp m with m | m
    · rw [h'.at_ _ _ m]; rfl
    · rcases ap a with q | q
      · rw [q]; exact h.at_ _ _ m
      · rw [h.at_ _ _ m] at q; cases q
theorem Lays.one {a : Addr} {d : OD} : Lays (one a d) [(a, d)] := ⟨List.nodup_cons.mpr ⟨List.not_mem_nil, List.nodup_nil⟩, fun b e m => by
  rcases List.mem_singleton.mp m with m; cases m; exact one_self⟩
section
variable {w : World} {M : AM} {L : LS} {n : LN}
theorem Srt.inst (S : Srt w M L) : M L.x = some (oInst 137 L.dx) := S.lay.at_ _ _ (List.mem_cons_self ..)
theorem Srt.flds (S : Srt w M L) : M L.dx = some (oNs L.fields) := S.lay.at_ _ _ (List.mem_cons_of_mem _ (List.mem_cons_self ..))
theorem Srt.dict (S : Srt w M L) : M L.d = some (oDict PW w L.kvs L.ep) := S.lay.at_ _ _ (List.mem_cons_of_mem _ (List.mem_cons_of_mem _ (List.mem_cons_self ..)))
theorem Srt.rd {rs : List Key} (S : Srt w M L) (h : L.ready = some rs) : M L.r = some (oList (kav rs)) := S.lay.at_ _ _ (List.mem_cons_of_mem _ (List.mem_cons_of_mem _ (List.mem_cons_of_mem _ (List.mem_append_left _ (by rw [h]; exact List.mem_singleton_self _)))))
theorem Srt.cell {a : Addr} {d : OD} (S : Srt w M L) (hn : n ∈ L.ns) (h : (a, d) ∈ n.cells) : M a = some d := S.lay.at_ _ _ (List.mem_cons_of_mem _ (List.mem_cons_of_mem _ (List.mem_cons_of_mem _ (List.mem_append_right _ (List.mem_flatMap.mpr ⟨n, hn, h⟩)))))
theorem Srt.nx (S : Srt w M L) (hn : n ∈ L.ns) : M n.x = some (oSlots 40 n.dx [some n.k.av, some (.int n.np), some (.ref n.l)]) := S.cell hn (List.mem_cons_self ..)
theorem Srt.ndx (S : Srt w M L) (hn : n ∈ L.ns) : M n.dx = some (oNs []) := S.cell hn (List.mem_cons_of_mem _ (List.mem_cons_self ..))
theorem Srt.nl (S : Srt w M L) (hn : n ∈ L.ns) : M n.l = some (oList (kav n.sc)) := S.cell hn (List.mem_cons_of_mem _ (List.mem_cons_of_mem _ (List.mem_cons_self ..)))
noncomputable def LS.upd (L : LS) (k : Key) (f : LN → LN) : LS := { L with ns := L.ns.map fun n => if n.k = k then f n else n }
theorem map_split {ns pre post : List LN} {f : LN → LN} (e : ns = pre ++ n :: post) (hk : (ns.map LN.k).Nodup) : (ns.map fun m => if m.k = n.k then f m else m) = pre ++ f n :: post := by
  subst e
  simp only [List.map_append, List.map_cons] at hk
  have h2 := List.nodup_append.mp hk
  have h3 := List.nodup_cons.mp h2.2.1
  have id1 : ∀ l : List LN, (∀ m ∈ l, m.k ≠ n.k) → l.map (fun m => if m.k = n.k then f m else m) = l := fun l hl => by
    conv => rhs; rw [← List.map_id l]
    exact List.map_congr_left fun m hm => if_neg (hl m hm)
  rw [List.map_append, List.map_cons, if_pos rfl, id1 pre fun m hm => h2.2.2 _ (List.mem_map.mpr ⟨m, hm, rfl⟩) _ (List.mem_cons_self ..), id1 post fun m hm q => h3.1 (q ▸ List.mem_map.mpr ⟨m, hm, rfl⟩)]
theorem LS.upd_keys {k : Key} {f : LN → LN} (hf : ∀ m, (f m).k = m.k) : (L.upd k f).ns.map LN.k = L.ns.map LN.k := by
  simp only [LS.upd, List.map_map]
  exact List.map_congr_left fun m z_ => by
    simp only [Function.comp]
    split
    · exact hf m
    · rfl
theorem Srt.putN {a : Addr} {d' : OD} {f : LN → LN} (S : Srt w M L) (hn : n ∈ L.ns) (hk : ∀ m, (f m).k = m.k) (hx : ∀ m, (f m).x = m.x) (j : Nat) (d : OD) (A B : List (Addr × OD)) (h1 : n.cells = A ++ (a, d) :: B) (h2 : (f n).cells = A ++ (a, d') :: B) : Srt w (M.put a d') (L.upd n.k f) := by
  obtain ⟨pre, post, e⟩ := List.append_of_mem hn
  refine ⟨?_, by rw [LS.upd_keys hk]; exact S.keys⟩
  have hl := S.lay
  have ekv : (L.upd n.k f).kvs = L.kvs := by
    simp only [LS.kvs, LS.upd, List.map_map]
    exact List.map_congr_left fun m z_ => by
      simp only [Function.comp]
      split
      · rw [hk, hx]
      · rfl
  have ens : (L.upd n.k f).ns = pre ++ f n :: post := map_split e S.keys
  have ec : L.cells w = ((L.x, oInst 137 L.dx) :: (L.dx, oNs L.fields) :: (L.d, oDict PW w L.kvs L.ep) :: (rdCells L.r L.ready ++ pre.flatMap LN.cells ++ A)) ++ (a, d) :: (B ++ post.flatMap LN.cells) := by
    simp only [LS.cells, e, List.flatMap_append, List.flatMap_cons, h1, List.cons_append, List.append_assoc, List.nil_append]
  have ec' : (L.upd n.k f).cells w = ((L.x, oInst 137 L.dx) :: (L.dx, oNs L.fields) :: (L.d, oDict PW w L.kvs L.ep) :: (rdCells L.r L.ready ++ pre.flatMap LN.cells ++ A)) ++ (a, d') :: (B ++ post.flatMap LN.cells) := by
    simp only [LS.cells, ekv, ens, List.flatMap_append, List.flatMap_cons, h2, List.cons_append, List.append_assoc, List.nil_append]
    rfl
  rw [ec] at hl
  rw [ec']
  exact hl.put
theorem Srt.setNp (S : Srt w M L) (hn : n ∈ L.ns) (v : Int) : Srt w (M.put n.x (oSlots 40 n.dx [some n.k.av, some (.int v), some (.ref n.l)])) (L.upd n.k fun m => { m with np := v }) :=
  S.putN (f := fun m => { m with np := v }) hn (fun z_ => rfl) (fun z_ => rfl) 0 _ [] _ rfl rfl
theorem Srt.setSc (S : Srt w M L) (hn : n ∈ L.ns) (ks : List Key) : Srt w (M.put n.l (oList (kav ks))) (L.upd n.k fun m => { m with sc := ks }) :=
  S.putN (f := fun m => { m with sc := ks }) hn (fun z_ => rfl) (fun z_ => rfl) 2 _ [_, _] _ rfl rfl
theorem Srt.setFld {L' : LS} (S : Srt w M L) (h : L' = { L with ready := L'.ready, passed := L'.passed, fin := L'.fin }) (hr : rdCells L.r L'.ready = rdCells L.r L.ready) : Srt w (M.put L.dx (oNs L'.fields)) L' := by
  have hl : Lays M ([(L.x, oInst 137 L.dx)] ++ (L.dx, oNs L.fields) :: ((L.d, oDict PW w L.kvs L.ep) :: (rdCells L.r L.ready ++ L.ns.flatMap LN.cells))) := S.lay
  refine ⟨?_, by rw [h]; exact S.keys⟩
  have : L'.cells w = [(L.x, oInst 137 L.dx)] ++ (L.dx, oNs L'.fields) :: ((L.d, oDict PW w L.kvs L.ep) :: (rdCells L.r L.ready ++ L.ns.flatMap LN.cells)) := by
    rw [← hr, h]; rfl
  rw [this]
  exact hl.put
theorem Srt.setRd {rs : List Key} (S : Srt w M L) (h : L.ready = some rs) (ks : List Key) : Srt w (M.put L.r (oList (kav ks))) { L with ready := some ks } := by
  have hl : Lays M ([(L.x, oInst 137 L.dx), (L.dx, oNs L.fields), (L.d, oDict PW w L.kvs L.ep)] ++ (L.r, oList (kav rs)) :: L.ns.flatMap LN.cells) := by
    have := S.lay; simp only [LS.cells, h, rdCells] at this; exact this
  refine ⟨?_, S.keys⟩
  have : ({ L with ready := some ks } : LS).cells w = [(L.x, oInst 137 L.dx), (L.dx, oNs L.fields), (L.d, oDict PW w L.kvs L.ep)] ++ (L.r, oList (kav ks)) :: L.ns.flatMap LN.cells := by
    simp only [LS.cells, rdCells, LS.fields, h, rdAV]; rfl
  rw [this]
  exact hl.put
end
end Mine.Internal
end

section
open PySem PySem.W PySem.Calls PyProof.Rows
set_option Elab.async false
set_option maxRecDepth 100000
set_option linter.unusedVariables false
set_option linter.unusedSimpArgs false
namespace Mine.Internal
set_option genInjectivity true in
structure NI where
  np : Int
  sc : List Key
set_option genInjectivity true in
structure TSt where
  nodes : List (Key × NI)
  ready : Option (List Key)
  passed : Int
  fin : Int
noncomputable def TSt.keys (t : TSt) : List Key := t.nodes.map Prod.fst
noncomputable def TSt.getI (t : TSt) (k : Key) : TSt := if k ∈ t.keys then t else { t with nodes := t.nodes ++ [(k, ⟨0, []⟩)] }
noncomputable def TSt.upd (t : TSt) (k : Key) (f : NI → NI) : TSt := { t with nodes := t.nodes.map fun p => if p.1 = k then (p.1, f p.2) else p }
noncomputable def TSt.link (t : TSt) (p k : Key) : TSt := (t.getI p).upd p fun i => { i with sc := i.sc ++ [k] }
noncomputable def TSt.add (t : TSt) (k : Key) (ps : List Key) : TSt := ps.foldl (fun t p => t.link p k) ((t.getI k).upd k fun i => { i with np := i.np + ps.length })
noncomputable def LN.ni (n : LN) : Key × NI := (n.k, ⟨n.np, n.sc⟩)
noncomputable def LS.st (L : LS) : TSt := ⟨L.ns.map LN.ni, L.ready, L.passed, L.fin⟩
theorem LS.st_keys (L : LS) : L.st.keys = L.ns.map LN.k := by simp [LS.st, TSt.keys, LN.ni]
theorem LS.st_upd {L : LS} {k : Key} {f : LN → LN} {g : NI → NI} (h : ∀ m, (f m).ni = (m.k, g ⟨m.np, m.sc⟩)) : (L.upd k f).st = L.st.upd k g := by
  simp only [LS.st, LS.upd, TSt.upd, List.map_map, TSt.mk.injEq, and_true]
  refine List.map_congr_left fun m z_ => ?_
  simp only [Function.comp]
  show LN.ni (if m.k = k then f m else m) = if (LN.ni m).1 = k then ((LN.ni m).1, g (LN.ni m).2) else LN.ni m
  by_cases hk : m.k = k
  · rw [if_pos hk, h, if_pos (show (LN.ni m).1 = k from hk)]; rfl
  · rw [if_neg hk, if_neg (show ¬ (LN.ni m).1 = k from hk)]
theorem cls137 (P : Params) : DictCls (K0 P) 137 := ⟨by kernel_rfl, by kernel_rfl, by kernel_rfl, by kernel_rfl⟩
theorem no_n2i (P : Params) : findIn (K0 P) (.ref 137) "_node2info" = some Option.none := by kernel_rfl
theorem no_rd (P : Params) : findIn (K0 P) (.ref 137) "_ready_nodes" = some Option.none := by kernel_rfl
theorem no_po (P : Params) : findIn (K0 P) (.ref 137) "_npassedout" = some Option.none := by kernel_rfl
theorem no_nf (P : Params) : findIn (K0 P) (.ref 137) "_nfinished" = some Option.none := by kernel_rfl
theorem fn73 (P : Params) : FnIs (K0 P) 73 (fdK P 73) (fBody (methAt 6 0)) := ⟨by kernel_rfl, by kernel_rfl, by kernel_rfl⟩
theorem fn80 (P : Params) : FnIs (K0 P) 80 (fdK P 80) (fBody (methAt 6 1)) := ⟨by kernel_rfl, by kernel_rfl, by kernel_rfl⟩
theorem fn87 (P : Params) : FnIs (K0 P) 87 (fdK P 87) (fBody (methAt 6 2)) := ⟨by kernel_rfl, by kernel_rfl, by kernel_rfl⟩
theorem fn92 (P : Params) : FnIs (K0 P) 92 (fdK P 92) (fBody (methAt 6 3)) := ⟨by kernel_rfl, by kernel_rfl, by kernel_rfl⟩
theorem fn99 (P : Params) : FnIs (K0 P) 99 (fdK P 99) (fBody (methAt 6 4)) := ⟨by kernel_rfl, by kernel_rfl, by kernel_rfl⟩
theorem fn106 (P : Params) : FnIs (K0 P) 106 (fdK P 106) (fBody (methAt 6 5)) := ⟨by kernel_rfl, by kernel_rfl, by kernel_rfl⟩
theorem fn120 (P : Params) : FnIs (K0 P) 120 (fdK P 120) (fBody (methAt 6 7)) := ⟨by kernel_rfl, by kernel_rfl, by kernel_rfl⟩
theorem fn127 (P : Params) : FnIs (K0 P) 127 (fdK P 127) (fBody (methAt 6 8)) := ⟨by kernel_rfl, by kernel_rfl, by kernel_rfl⟩
section
variable {F : Fm} {w : World} {ρ : AEnv} {H : AHs} {X : AX} {QV : AV → AEnv → AHs → Prop} {QU : Unit → AEnv → AHs → Prop} {n i j : Nat} {M N : AM} {L : LS} {m : LN} {name : Str} {a : AV} {ex : Bool}
theorem gK (hF : F.g = G0 w) : F.g.K = K0 w.params := by rw [hF]; rfl
theorem W1.fld {x : Addr} (hF : F.g = G0 w) (S : Srt w M L) (hx : L.x = x) (hi : H[i]? = some M) (hn : findIn (K0 w.params) (.ref 137) name = some Option.none) (hf : L.fields.lookup name = some a) (h : QV a ρ H) : W1 F VR (fun v => getAttr v name ex) (.ref x) ρ H QV X :=
  hx ▸ W1.getD (gK hF ▸ cls137 _) hi S.inst hi S.flds (gK hF ▸ hn) hf h
theorem W2.fld {L' : LS} {x : Addr} (hF : F.g = G0 w) (S : Srt w M L) (hx : L.x = x) (hi : H[i]? = some M) (hn : findIn (K0 w.params) (.ref 137) name = some Option.none) (hp : a.plain = true) (e : AEnv.put L.fields name a = L'.fields) (h : QU () ρ (H.set i (M.put L.dx (oNs L'.fields)))) : W2 F rUnit (fun v u => setAttr v name u) (.ref x) a ρ H QU X :=
  hx ▸ W2.setD (gK hF ▸ cls137 _) hi S.inst hi S.flds (gK hF ▸ hn) (show (4 : Nat) ≤ 900 from by decide) hp (e ▸ h)
theorem WMeth.srt {f x : Addr} {args : List Expr} {pos : Pos} (hF : F.g = G0 w) (S : Srt w M L) (hx : L.x = x) (hi : H[i]? = some M) (hn : findIn (K0 w.params) (.ref 137) name = some (some (.ref f))) (ht : typeIn (K0 w.params) (.ref f) = some (.type "function")) (hf : L.fields.lookup name = Option.none) (hk : keeps0.contains f = true)
    (h : (wRec n).Es F args ρ H (fun as ρ₂ H₂ => WC F (.val (.ref f)) (.ref x :: as) ρ₂ H₂ QV X) X) : WMeth F (.ref x) name args pos ρ H QV X := by
  subst hx
  exact WMeth.inst (gK hF ▸ cls137 _) hi S.inst hi S.flds (gK hF ▸ hn) (gK hF ▸ ht) hf (by rw [hF]; exact hk) h
theorem W1.np (hF : F.g = G0 w) (hi : H[i]? = some M) (S : Srt w M L) (hm : m ∈ L.ns) (h : QV (.int m.np) ρ H) : W1 F VR (fun v => getAttr v "npredecessors" ex) (.ref m.x) ρ H QV X :=
  W1.getS (gK hF ▸ slotNI _) hi (S.nx hm) hi (S.ndx hm) (gK hF ▸ slot_npred _) rfl h
theorem W1.nd (hF : F.g = G0 w) (hi : H[i]? = some M) (S : Srt w M L) (hm : m ∈ L.ns) (h : QV m.k.av ρ H) : W1 F VR (fun v => getAttr v "node" ex) (.ref m.x) ρ H QV X :=
  W1.getS (gK hF ▸ slotNI _) hi (S.nx hm) hi (S.ndx hm) (gK hF ▸ slot_node _) rfl h
theorem W1.scs (hF : F.g = G0 w) (hi : H[i]? = some M) (S : Srt w M L) (hm : m ∈ L.ns) (h : QV (.ref m.l) ρ H) : W1 F VR (fun v => getAttr v "successors" ex) (.ref m.x) ρ H QV X :=
  W1.getS (gK hF ▸ slotNI _) hi (S.nx hm) hi (S.ndx hm) (gK hF ▸ slot_succ _) rfl h
theorem W2.np {v : Int} (hF : F.g = G0 w) (hi : H[i]? = some M) (S : Srt w M L) (hm : m ∈ L.ns) (h : ∀ M', Srt w M' (L.upd m.k fun q => { q with np := v }) → QU () ρ (H.set i M')) : W2 F rUnit (fun v u => setAttr v "npredecessors" u) (.ref m.x) (.int v) ρ H QU X :=
  W2.setS (k := 1) (gK hF ▸ slotNI _) hi (S.nx hm) hi (S.ndx hm) (gK hF ▸ slot_npred _) (Nat.le_of_ble_eq_true rfl) rfl (h _ (S.setNp hm v))
end
section
variable {w : World} {M : AM} {L : LS} {m : LN} {k : Key}
theorem kvAt_none : ∀ {ns : List LN}, k ∉ ns.map LN.k → kvAt (ns.map fun n => (n.k, AV.ref n.x)) k = Option.none
  | [], _ => rfl
  | n :: ns, h => by
    simp only [List.map_cons, List.mem_cons, not_or] at h
    simp only [List.map_cons, kvAt, List.find?_cons, decide_eq_false (fun e => h.1 (Eq.symm e))]
    exact kvAt_none h.2
theorem kvAt_some : ∀ {ns : List LN}, (ns.map LN.k).Nodup → m ∈ ns → kvAt (ns.map fun n => (n.k, AV.ref n.x)) m.k = some (.ref m.x)
  | n :: ns, hn, hm => by
    simp only [List.map_cons, List.nodup_cons] at hn
    simp only [List.map_cons, kvAt, List.find?_cons]
    rcases List.mem_cons.mp hm with rfl | hm
    · simp
    · have : n.k ≠ m.k := fun e => hn.1 (e ▸ List.mem_map.mpr ⟨m, hm, rfl⟩)
      rw [decide_eq_false this]
      exact kvAt_some hn.2 hm
theorem Srt.at (S : Srt w M L) (hm : m ∈ L.ns) : kvAt L.kvs m.k = some (.ref m.x) := kvAt_some S.keys hm
theorem Srt.no (S : Srt w M L) (hk : k ∉ L.ns.map LN.k) : kvAt L.kvs k = Option.none := kvAt_none hk
theorem LS.upd_congr {f g : LN → LN} (hk : (L.ns.map LN.k).Nodup) (hm : m ∈ L.ns) (h : f m = g m) : L.upd m.k f = L.upd m.k g := by
  obtain ⟨pre, post, e⟩ := List.append_of_mem hm
  unfold LS.upd
  rw [map_split e hk, map_split e hk, h]
theorem LS.has {L : LS} (h : k ∈ L.ns.map LN.k) : ∃ m ∈ L.ns, m.k = k := List.mem_map.mp h
theorem kvSet_new {kvs : List (Key × AV)} {a : AV} (h : kvAt kvs k = Option.none) : kvSet kvs k a = kvs ++ [(k, a)] := by
  unfold kvSet
  rw [if_neg]
  intro e
  obtain ⟨p, hp, hk⟩ := List.any_eq_true.mp e
  unfold kvAt at h
  rw [Option.map_eq_none_iff, List.find?_eq_none] at h
  exact h p hp hk
theorem Srt.addN {x dx l : Addr} {ep : Nat} {M1 : AM} {np : Int} {sc : List Key} (S : Srt w M L) (hk : k ∉ L.ns.map LN.k) (hM : M1 = M.put L.d (oDict PW w (kvSet L.kvs k (.ref x)) ep))
    (a1 : Apart (one l (oList (kav sc))) M1) (a2 : Apart (one x (oSlots 40 dx [some k.av, some (.int np), some (.ref l)])) ((one l (oList (kav sc))).or M1)) (a3 : Apart (one dx (oNs [])) ((one x (oSlots 40 dx [some k.av, some (.int np), some (.ref l)])).or ((one l (oList (kav sc))).or M1))) :
    Srt w ((one dx (oNs [])).or ((one x (oSlots 40 dx [some k.av, some (.int np), some (.ref l)])).or ((one l (oList (kav sc))).or M1))) { L with ns := L.ns ++ [⟨k, np, sc, x, dx, l⟩], ep := ep } := by
  have hl : Lays M ([(L.x, oInst 137 L.dx), (L.dx, oNs L.fields)] ++ (L.d, oDict PW w L.kvs L.ep) :: (rdCells L.r L.ready ++ L.ns.flatMap LN.cells)) := S.lay
  have h1 := hl.put (d' := oDict PW w (kvSet L.kvs k (.ref x)) ep)
  rw [← hM] at h1
  have h2 := ((h1.join .one a1).join .one a2).join .one a3
  refine ⟨h2.perm ?_, ?_⟩
  · have e : ({ L with ns := L.ns ++ [⟨k, np, sc, x, dx, l⟩], ep := ep } : LS).kvs = kvSet L.kvs k (.ref x) := by
      rw [kvSet_new (kvs := L.kvs) (kvAt_none hk)]; simp [LS.kvs]
    show List.Perm ((L.x, oInst 137 L.dx) :: (L.dx, oNs L.fields) :: (L.d, oDict PW w ({ L with ns := L.ns ++ [⟨k, np, sc, x, dx, l⟩], ep := ep } : LS).kvs ep) :: (rdCells L.r L.ready ++ (L.ns ++ [(⟨k, np, sc, x, dx, l⟩ : LN)]).flatMap LN.cells)) _
    rw [e, List.flatMap_append]
    have hp : ∀ (A B C : List (Addr × OD)), (A ++ (B ++ C)).Perm (C ++ (A ++ B)) := fun A B C => by
      rw [← List.append_assoc]; exact List.perm_append_comm
    have := hp [(L.x, oInst 137 L.dx), (L.dx, oNs L.fields), (L.d, oDict PW w (kvSet L.kvs k (.ref x)) ep)] (rdCells L.r L.ready ++ L.ns.flatMap LN.cells) (List.flatMap LN.cells [(⟨k, np, sc, x, dx, l⟩ : LN)])
    rw [List.append_assoc] at this
    exact this.trans (List.Perm.swap ..)
  · show ((L.ns ++ [(⟨k, np, sc, x, dx, l⟩ : LN)]).map LN.k).Nodup
    rw [List.map_append]
    exact List.nodup_append.mpr ⟨S.keys, by simp, fun a ha b hb e => hk (by simp at hb; rw [← hb, ← e]; exact ha)⟩
end
end Mine.Internal
end

section
open PySem PySem.W PySem.Calls PyProof.Rows
set_option Elab.async false
set_option maxRecDepth 100000
set_option maxHeartbeats 0
set_option linter.unusedVariables false
set_option linter.unusedSimpArgs false
namespace Mine.Internal
section
variable {w : World} {raw : List (Str × NameKind)} {hn : Bool} {lv : Nat} {ρ : AEnv} {H : AHs} {Q : AV → AEnv → AHs → Prop} {X : AX}
noncomputable def TSt.new : TSt := ⟨[], Option.none, 0, 0⟩
theorem sorter_new (hlv : 2 ≤ lv) (h : ∀ M L, Srt w M L → L.st = TSt.new → Q (.ref L.x) ρ (M :: H)) : WC (Fr w raw hn lv) (.val (.ref 137)) [] ρ H Q X := by
  refine WK.wc (WK.make (fI := 73) (by show 1 ≤ lv; (exact Nat.le_of_lt (by assumption))) (by kernel_rfl) (by kernel_rfl) (by kernel_rfl) fun x dx => ?_)
  refine WK.dflt (p := "self") (q := "graph") (T := 66) (d := .none) (m := 0) 50 (fn73 _) rfl (by show 1 ≤ lv - 1; (exact Nat.le_sub_of_add_le (by assumption))) (by kernel_rfl) (by kernel_rfl) (fun z_ => ⟨_, rfl, by kernel_rfl⟩) ⟨_, rfl, rfl⟩ ?_
  intro d
  refine W2.setD (i := 1) (j := 2) (cls137 _) rfl one_self rfl one_self (no_n2i _) (Nat.le_of_ble_eq_true rfl) rfl ?_
  rw [one_put]
  refine .go (W2.setD (i := 1) (j := 2) (cls137 _) rfl one_self rfl one_self (no_rd _) (Nat.le_of_ble_eq_true rfl) rfl ?_)
  rw [one_put]
  refine .go (W2.setD (i := 1) (j := 2) (cls137 _) rfl one_self rfl one_self (no_po _) (Nat.le_of_ble_eq_true rfl) rfl ?_)
  rw [one_put]
  refine .go (W2.setD (i := 1) (j := 2) (cls137 _) rfl one_self rfl one_self (no_nf _) (Nat.le_of_ble_eq_true rfl) rfl ?_)
  rw [one_put]
  refine .go (.go ?_)
  refine Gh.absorb (i := 1) rfl fun a1 => ?_
  refine Gh.absorb (i := 0) rfl fun a2 => .go ⟨rfl, h _ ⟨x, dx, d, 0, 0, [], Option.none, 0, 0⟩ ⟨?_, List.nodup_nil⟩ rfl⟩
  refine ((Lays.one.join .one a1).join .one a2).perm ?_
  exact (List.Perm.swap ..).cons _
theorem set_same {i : Nat} {M : AM} (h : H[i]? = some M) : H.set i M = H := by
  obtain ⟨h1, h2⟩ := List.getElem?_eq_some_iff.mp h
  rw [← h2]; exact List.set_getElem_self h1
theorem nodeinfo_new {node : AV} (hlv : 2 ≤ lv) (hp : node.plain = true) (h : ∀ l x dx, Q (.ref x) ρ (one l (oList []) :: one x (oSlots 40 dx [some node, some (.int 0), some (.ref l)]) :: one dx (oNs []) :: H)) :
    WC (Fr w raw hn lv) (.val (.ref 40)) [node] ρ H Q X :=
  WK.wc (WK.makeS (fI := 36) 3 (by show 1 ≤ lv; (exact Nat.le_of_lt (by assumption))) (by kernel_rfl) (by kernel_rfl) (by kernel_rfl) fun x dx => ni_init (lv := lv - 1) (by (exact Nat.le_sub_of_add_le (by assumption))) hp fun l => ⟨rfl, h l x dx⟩)
theorem Key.plain {k : Key} : k.av.plain = true := by cases k <;> rfl
theorem get_nodeinfo {i : Nat} {M : AM} {L : LS} {k : Key} {x : Addr} (hlv : 3 ≤ lv) (hx : L.x = x) (hi : H[i]? = some M) (S : Srt w M L) (hsz : L.ns.length ≤ 1000000)
    (h : ∀ M' L', Srt w M' L' → L'.x = L.x → L'.st = L.st.getI k → ∀ n ∈ L'.ns, n.k = k → Q (.ref n.x) ρ (H.set i M')) :
    WC (Fr w raw hn lv) (.val (.ref 80)) [.ref x, k.av] ρ H Q X := by
  subst hx
  refine WK.wc (WK.pos (ρ0 := [("self", .ref L.x), ("node", k.av)]) 50 (fn80 _) rfl (by show 1 ≤ lv; (exact Nat.zero_lt_of_lt (by assumption))) (by kernel_rfl) (fun z_ z_ => .z (by kernel_rfl)) (by kernel_rfl) (by kernel_rfl) ?_)
  refine W1.fld rfl S rfl hi (no_n2i _) rfl ?_
  refine WMeth.get (n := 40) hi S.dict ⟨k, i, M, _, _, rfl, hi, S.dict, ?_⟩ rfl
  by_cases hk : k ∈ L.ns.map LN.k
  · obtain ⟨m, hm, rfl⟩ := LS.has hk
    rw [S.at hm]
    refine .go (.go ?_)
    have e : L.st.getI m.k = L.st := by unfold TSt.getI; rw [LS.st_keys, if_pos hk]
    have := h M L S rfl e.symm m hm rfl
    rw [set_same hi] at this
    exact this
  · rw [S.no hk]
    refine nodeinfo_new (lv := lv - 1) (by (exact Nat.le_sub_of_add_le (by assumption))) Key.plain fun l x dx => ?_
    have hi3 : (one l (oList []) :: one x (oSlots 40 dx [some k.av, some (.int 0), some (.ref l)]) :: one dx (oNs []) :: H)[i + 3]? = some M := hi
    refine W1.fld rfl S rfl hi3 (no_n2i _) rfl ?_
    refine W3.setD hi3 S.dict (by rw [LS.kvs, List.length_map]; exact hsz) fun ep => ?_
    refine .go (.go ?_)
    show Gh _ _ (one l (oList []) :: one x _ :: one dx (oNs []) :: H.set i (M.put L.d (oDict PW w (kvSet L.kvs k (.ref x)) ep)))
    have hil := (List.getElem?_eq_some_iff.mp hi).1
    refine Gh.absorb (i := i + 2) (M := M.put L.d (oDict PW w (kvSet L.kvs k (.ref x)) ep)) (by simp [hil]) fun a1 => ?_
    refine Gh.absorb (i := i + 1) (M := (one l (oList [])).or (M.put L.d (oDict PW w (kvSet L.kvs k (.ref x)) ep))) (by simp [hil]) fun a2 => ?_
    refine Gh.absorb (i := i) (M := (one x (oSlots 40 dx [some k.av, some (.int 0), some (.ref l)])).or ((one l (oList [])).or (M.put L.d (oDict PW w (kvSet L.kvs k (.ref x)) ep)))) (by simp [hil]) fun a3 => ?_
    refine .go ?_
    have e : L.st.getI k = { L.st with nodes := L.st.nodes ++ [(k, ⟨0, []⟩)] } := by unfold TSt.getI; rw [LS.st_keys, if_neg hk]
    have := h _ _ (S.addN (np := 0) (sc := []) hk rfl a1 a2 a3) rfl (by rw [e]; simp [LS.st, LN.ni]) ⟨k, 0, [], x, dx, l⟩ (List.mem_append_right _ (List.mem_singleton_self _)) rfl
    simp only [List.set_cons_succ, List.set_set] at this ⊢
    exact this
end
end Mine.Internal
end

section
open PySem PySem.W PySem.Calls PyProof.Rows
set_option Elab.async false
set_option maxRecDepth 100000
set_option maxHeartbeats 0
set_option linter.unusedVariables false
set_option linter.unusedSimpArgs false
namespace Mine.Internal
section
variable {w : World} {raw : List (Str × NameKind)} {hn : Bool} {lv : Nat} {ρ : AEnv} {H : AHs} {Q : AV → AEnv → AHs → Prop} {X : AX}
structure TSt.Small (t : TSt) (b : Nat) : Prop where
  n : t.nodes.length ≤ b
  s : ∀ p ∈ t.nodes, p.2.sc.length ≤ b
theorem TSt.Small.getI {t : TSt} {b : Nat} {k : Key} (h : t.Small b) : (t.getI k).Small (b + 1) := by
  unfold TSt.getI
  split
  · exact ⟨Nat.le_succ_of_le h.n, fun p hp => Nat.le_succ_of_le (h.s p hp)⟩
  · refine ⟨by have := h.n; simp; omega, fun p hp => ?_⟩
    rcases List.mem_append.mp hp with hp | hp
    · exact Nat.le_succ_of_le (h.s p hp)
    · rw [List.mem_singleton.mp hp]; exact Nat.zero_le _
theorem TSt.Small.upd {t : TSt} {b : Nat} {k : Key} {f : NI → NI} {e : Nat} (h : t.Small b) (hf : ∀ i, (f i).sc.length ≤ i.sc.length + e) : (t.upd k f).Small (b + e) := by
  refine ⟨by have := h.n; simp [TSt.upd]; (exact Nat.le_add_right_of_le (by assumption)), fun p hp => ?_⟩
  obtain ⟨q, hq, rfl⟩ := List.mem_map.mp hp
  have := h.s q hq
  have h2 := hf q.2
  split
  · show (f q.2).sc.length ≤ b + e; lia
  · (exact Nat.le_add_right_of_le (by assumption))
theorem TSt.Small.np {t : TSt} {b : Nat} {k : Key} {g : NI → Int} (h : t.Small b) : (t.upd k fun i => { i with np := g i }).Small b := h.upd (e := 0) fun z_ => Nat.le_refl _
theorem LS.small {L : LS} {b : Nat} (h : L.st.Small b) : L.ns.length ≤ b ∧ ∀ n ∈ L.ns, n.sc.length ≤ b :=
  ⟨by have := h.n; simpa [LS.st] using this, fun n hn => h.s n.ni (List.mem_map.mpr ⟨n, hn, rfl⟩)⟩
theorem kav_get {ps : List Key} {m : Nat} {x : AV} (h : (kav ps)[m]? = some x) : ∃ p, ps[m]? = some p ∧ x = p.av := by
  unfold kav at h; rw [List.getElem?_map] at h
  cases e : ps[m]? with
  | none => rw [e] at h; cases h
  | some p => rw [e] at h; cases h; exact ⟨p, rfl, rfl⟩
theorem kav_len {ps : List Key} : (kav ps).length = ps.length := List.length_map ..
theorem foldl_take {α β : Type} {f : β → α → β} {b : β} {ps : List α} {m : Nat} {p : α} (h : ps[m]? = some p) : (ps.take (m + 1)).foldl f b = f ((ps.take m).foldl f b) p := by
  rw [List.take_add_one, h, List.foldl_append]; rfl
inductive AddI (w : World) (H : AHs) (L : LS) (i : Nat) (k : Key) (ps : List Key) (b : Nat) (m : Nat) (ρ' : AEnv) (H' : AHs) : Prop
  | mk (M' : AM) (L' : LS) (h0 : ρ' = ([("self", .ref L.x), ("node", k.av)] : AEnv)) (h1 : H' = H.set i M') (h2 : Srt w M' L') (h3 : L'.x = L.x) (h4 : L'.st = (ps.take m).foldl (fun t p => t.link p k) ((L.st.getI k).upd k fun q => { q with np := q.np + ps.length })) (h5 : L'.st.Small (b + 1 + 2 * m)) : AddI w H L i k ps b m ρ' H'
theorem add_ok {i : Nat} {M : AM} {L : LS} {k : Key} {ps : List Key} (hlv : 4 ≤ lv) (hi : H[i]? = some M) (S : Srt w M L) (hr : L.ready = Option.none) {b : Nat} (hsm : L.st.Small b) (hb : b + 2 * ps.length < 999990)
    (h : ∀ M' L', Srt w M' L' → L'.x = L.x → L'.st = L.st.add k ps → Q .none ρ (H.set i M')) :
    WK (Fr w raw true lv) (.val (.ref 87)) ([.ref L.x, k.av] ++ kav ps) ρ H Q X := by
  refine WK.var (va := "predecessors") (ρ0 := [("self", .ref L.x), ("node", k.av), ("predecessors", .tup (kav ps))]) 50 (fn87 _) rfl (by show 1 ≤ lv; (exact Nat.zero_lt_of_lt (by assumption))) (by kernel_rfl) (fun z_ z_ => .z fun ws => by cases ws <;> kernel_rfl) (by kernel_rfl) (by rw [kav_len]; lia) (by kernel_rfl) ?_
  refine W1.fld rfl S rfl hi (no_rd _) rfl ?_
  rw [hr]
  refine .go ?_
  refine WMeth.srt (n := 40) (f := 80) rfl S rfl hi (by kernel_rfl) (by kernel_rfl) rfl (by kernel_rfl) ?_
  refine get_nodeinfo (lv := lv - 1) (by (exact Nat.le_sub_of_add_le (by assumption))) rfl hi S (by have := (LS.small hsm).1; lia) fun M1 L1 S1 hx1 hst1 n hn hk => ?_
  have hil := (List.getElem?_eq_some_iff.mp hi).1
  have hi1 : (H.set i M1)[i]? = some M1 := by simp [hil]
  refine .go (W1.np rfl hi1 S1 hn ?_)
  refine WC.lenT (by rw [kav_len]; lia) ?_
  refine W2.np rfl hi1 S1 hn fun M2 S2 => ?_
  refine .go ?_
  have hst2 : (L1.upd n.k fun q => { q with np := n.np + (kav ps).length }).st = (L.st.getI k).upd k fun q => { q with np := q.np + ps.length } := by
    rw [← hst1, ← hk, LS.upd_congr (g := fun q => { q with np := q.np + ps.length }) S1.keys hn (by rw [kav_len])]
    exact LS.st_upd fun m => rfl
  refine WX.for 40 rfl rfl ?_
  refine Gh.sub [("self", .ref L.x), ("node", k.av)] ⟨rfl, rfl, trivial⟩ (.go (WLoop.mk (xs := kav ps) (AddI w H L i k ps b) (WIter.tup rfl) (fun z_ z_ z_ z_ => trivial) ?_ ?_ ?_))
  · exact ⟨M2, _, rfl, List.set_set .., S2, hx1, hst2, by rw [hst2]; exact hsm.getI.np⟩
  · rintro m x ρ' H' hx ⟨M', L', rfl, rfl, S', hx', hst', hl'⟩
    obtain ⟨p, hp, rfl⟩ := kav_get hx
    have hm : m < ps.length := (List.getElem?_eq_some_iff.mp hp).1
    have hi' : (H.set i M')[i]? = some M' := by simp [hil]
    refine WMeth.srt (n := 40) (f := 80) rfl S' hx' hi' (by kernel_rfl) (by kernel_rfl) rfl (by kernel_rfl) ?_
    refine get_nodeinfo (lv := lv - 1) (by (exact Nat.le_sub_of_add_le (by assumption))) hx' hi' S' (by have := (LS.small hl').1; lia) fun M3 L3 S3 hx3 hst3 n3 hn3 hk3 => ?_
    rw [List.set_set]
    have hi3 : (H.set i M3)[i]? = some M3 := by simp [hil]
    have hs3 : L3.st.Small (b + 1 + 2 * m + 1) := by rw [hst3]; exact hl'.getI
    refine .go (W1.scs rfl hi3 S3 hn3 ?_)
    refine WMeth.append (n := 30) (.own hi3 (S3.nl hn3)) ⟨i, M3, _, hi3, S3.nl hn3, by rw [kav_len]; have := (LS.small hs3).2 n3 hn3; lia, ?_⟩ rfl
    rw [List.set_set]
    have e3 : (L3.upd n3.k fun q => { q with sc := n3.sc ++ [k] }).st = (L'.st.getI p).upd p fun q => { q with sc := q.sc ++ [k] } := by
      rw [← hst3, ← hk3, LS.upd_congr (g := fun q => { q with sc := q.sc ++ [k] }) S3.keys hn3 rfl]
      exact LS.st_upd fun m => rfl
    refine .go (Gh.sub [("self", .ref L.x), ("node", k.av)] ⟨rfl, rfl, trivial⟩ (.go ⟨_, L3.upd n3.k fun q => { q with sc := n3.sc ++ [k] }, rfl, rfl, ?_, hx3.trans hx', ?_, ?_⟩))
    · have := S3.setSc hn3 (n3.sc ++ [k])
      simp only [kav, List.map_append, List.map_cons, List.map_nil] at this ⊢
      exact this
    · rw [foldl_take hp, ← hst']; exact e3
    · rw [e3]
      exact (TSt.Small.upd (e := 1) hl'.getI fun i => by simp)
  · rintro ρ' H' ⟨M', L', rfl, rfl, S', hx', hst', hl'⟩
    rw [kav_len, List.take_length] at hst'
    exact .go (.go (h M' L' S' hx' hst'))
end
end Mine.Internal
end

section
open PySem PySem.W PySem.Calls PyProof.Rows
set_option Elab.async false
set_option maxRecDepth 100000
set_option maxHeartbeats 0
set_option linter.unusedVariables false
set_option linter.unusedSimpArgs false
namespace Mine.Internal
noncomputable def TSt.outs (t : TSt) (ks : List Key) : TSt := { t with nodes := t.nodes.map fun p => if p.1 ∈ ks then (p.1, { p.2 with np := -1 }) else p }
noncomputable def TSt.getReady (t : TSt) (rs : List Key) : TSt := { t.outs rs with ready := some [], passed := t.passed + rs.length }
theorem TSt.outs_snoc {t : TSt} {ks : List Key} {k : Key} : (t.outs ks).upd k (fun i => { i with np := -1 }) = t.outs (ks ++ [k]) := by
  unfold TSt.outs TSt.upd
  simp only [List.map_map, TSt.mk.injEq, and_true]
  refine List.map_congr_left fun ⟨a, i⟩ _ => ?_
  simp only [Function.comp]
  by_cases h1 : a ∈ ks
  · by_cases h2 : a = k
    · subst h2; simp [h1]
    · simp [h1, h2]
  · by_cases h2 : a = k
    · subst h2; simp [h1]
    · simp [h1, h2]
theorem TSt.outs_nil {t : TSt} : t.outs [] = t := by
  unfold TSt.outs; simp
theorem TSt.outs_keys {t : TSt} {ks : List Key} : (t.outs ks).keys = t.keys := by
  unfold TSt.outs TSt.keys
  rw [List.map_map]
  exact List.map_congr_left fun p z_ => by simp only [Function.comp]; split <;> rfl
theorem LS.mem_of {L : LS} {k : Key} (h : k ∈ L.st.keys) : ∃ m ∈ L.ns, m.k = k := by rw [LS.st_keys] at h; exact LS.has h
theorem LS.st_fld {L : LS} : L.st.ready = L.ready ∧ L.st.passed = L.passed ∧ L.st.fin = L.fin := ⟨rfl, rfl, rfl⟩
section
variable {w : World} {raw : List (Str × NameKind)} {hn : Bool} {lv : Nat} {ρ : AEnv} {H : AHs} {Q : AV → AEnv → AHs → Prop} {X : AX}
inductive RdyI (w : World) (H : AHs) (L : LS) (i : Nat) (rs : List Key) (m : Nat) (ρ' : AEnv) (H' : AHs) : Prop
  | mk (M' : AM) (L' : LS) (h0 : ρ' = ([("self", .ref L.x), ("result", .tup (kav rs)), ("n2i", .ref L'.d)] : AEnv)) (h1 : H' = H.set i M') (h2 : Srt w M' L') (h3 : L'.x = L.x) (h4 : L'.st = L.st.outs (rs.take m)) (h5 : L'.r = L.r) : RdyI w H L i rs m ρ' H'
theorem get_ready_ok {i : Nat} {M : AM} {L : LS} {rs : List Key} {x : Addr} (hlv : 2 ≤ lv) (hx : L.x = x) (hi : H[i]? = some M) (S : Srt w M L) (hr : L.ready = some rs) (hks : ∀ k ∈ rs, k ∈ L.st.keys) (hb : rs.length ≤ 1000000)
    (h : ∀ M' L', Srt w M' L' → L'.x = x → L'.st = L.st.getReady rs → Q (.tup (kav rs)) ρ (H.set i M')) :
    WK (Fr w raw true lv) (.val (.ref 99)) [.ref x] ρ H Q X := by
  subst hx
  have hil := (List.getElem?_eq_some_iff.mp hi).1
  refine WK.pos (ρ0 := [("self", .ref L.x)]) 50 (fn99 _) rfl (by show 1 ≤ lv; (exact Nat.le_of_lt (by assumption))) (by kernel_rfl) (fun z_ => .z (by kernel_rfl)) (by kernel_rfl) (by kernel_rfl) ?_
  refine W1.fld rfl S rfl hi (no_rd _) rfl ?_
  rw [hr]
  refine .go (W1.fld rfl S rfl hi (no_rd _) rfl ?_)
  rw [hr]
  refine WC.tupOf (.own hi (S.rd hr)) (by rw [kav_len]; exact hb) ?_
  refine .go (W1.fld rfl S rfl hi (no_n2i _) rfl ?_)
  refine .go (WX.for 40 rfl rfl (.go (WLoop.mk (xs := kav rs) (RdyI w H L i rs) (WIter.tup rfl) (fun z_ z_ z_ z_ => trivial) ?_ ?_ ?_)))
  · exact ⟨M, L, rfl, (set_same hi).symm, S, rfl, TSt.outs_nil.symm, rfl⟩
  · rintro m y ρ' H' hy ⟨M', L', rfl, rfl, S', hx', hst', hr'⟩
    obtain ⟨p, hp, rfl⟩ := kav_get hy
    have hi' : (H.set i M')[i]? = some M' := by simp [hil]
    obtain ⟨n, hn, rfl⟩ := LS.mem_of (L := L') (k := p) (by rw [hst', TSt.outs_keys]; exact hks p (List.mem_of_getElem? hp))
    refine W2.itemD hi' S'.dict (S'.at hn) ?_ rfl
    refine W2.np rfl hi' S' hn fun M3 S3 => ?_
    rw [List.set_set]
    refine .go (Gh.sub [("self", .ref L.x), ("result", .tup (kav rs)), ("n2i", .ref L'.d)] ⟨rfl, rfl, rfl, trivial⟩ (.go ⟨M3, L'.upd n.k fun q => { q with np := -1 }, rfl, rfl, S3, hx', ?_, hr'⟩))
    rw [LS.st_upd (g := fun i => { i with np := -1 }) fun m => rfl, hst', TSt.outs_snoc, List.take_add_one, hp]
    rfl
  · rintro ρ' H' ⟨M', L', rfl, rfl, S', hx', hst', hr'⟩
    rw [kav_len, List.take_length] at hst'
    have hi' : (H.set i M')[i]? = some M' := by simp [hil]
    have hrd' : L'.ready = some rs := by rw [← LS.st_fld.1, hst', ← hr]; rfl
    refine .go (W1.fld rfl S' hx' hi' (no_rd _) rfl ?_)
    rw [hrd']
    refine WMeth.clear hi' (S'.rd hrd') (by rw [kav_len]; exact hb) ?_
    rw [List.set_set]
    have S4 := S'.setRd hrd' []
    have hi4 : (H.set i (M'.put L'.r (oList (kav []))))[i]? = some (M'.put L'.r (oList (kav []))) := by simp [hil]
    refine .go (W1.fld rfl S4 hx' hi4 (no_po _) rfl ?_)
    refine WC.lenT (by rw [kav_len]; exact hb) ?_
    refine W2.fld (L' := { L' with ready := some [], passed := L'.passed + (kav rs).length }) rfl S4 hx' hi4 (no_po _) rfl rfl ?_
    rw [List.set_set]
    refine .go (.go (h _ _ (S4.setFld rfl rfl) hx' ?_))
    unfold TSt.getReady
    rw [← hst', kav_len]
    have e : L.st.passed = L'.passed := by rw [← LS.st_fld.2.1, hst']; rfl
    rw [e]
    rfl
end
end Mine.Internal
end

section
open PySem PySem.W PySem.Calls PyProof.Rows
set_option Elab.async false
set_option maxRecDepth 100000
set_option maxHeartbeats 0
set_option linter.unusedVariables false
set_option linter.unusedSimpArgs false
namespace Mine.Internal
noncomputable def TSt.shape (t : TSt) : List (Key × List Key) := t.nodes.map fun p => (p.1, p.2.sc)
noncomputable def TSt.npOf (t : TSt) (k : Key) : Int := ((t.nodes.find? fun p => p.1 = k).map fun p => p.2.np).getD 0
noncomputable def TSt.scOf (t : TSt) (k : Key) : List Key := ((t.shape.find? fun p => p.1 = k).map fun p => p.2).getD []
noncomputable def TSt.rd (t : TSt) : List Key := t.ready.getD []
noncomputable def TSt.dec (t : TSt) (s : Key) : TSt := if t.npOf s - 1 = 0 then { t.upd s (fun i => { i with np := i.np - 1 }) with ready := some (t.rd ++ [s]) } else t.upd s fun i => { i with np := i.np - 1 }
noncomputable def TSt.done1 (t : TSt) (k : Key) : TSt := { (t.scOf k).foldl TSt.dec (t.upd k fun i => { i with np := -2 }) with fin := t.fin + 1 }
theorem TSt.shape_keys {t : TSt} : t.keys = t.shape.map Prod.fst := by simp [TSt.keys, TSt.shape]
theorem TSt.upd_shape {t : TSt} {k : Key} {g : NI → Int} : (t.upd k fun i => { i with np := g i }).shape = t.shape := by
  unfold TSt.upd TSt.shape
  rw [List.map_map]
  exact List.map_congr_left fun p z_ => by simp only [Function.comp]; split <;> rfl
theorem TSt.dec_shape {t : TSt} {s : Key} : (t.dec s).shape = t.shape := by
  unfold TSt.dec; split
  · exact TSt.upd_shape (g := fun i => i.np - 1)
  · exact TSt.upd_shape (g := fun i => i.np - 1)
theorem TSt.dec_fin {t : TSt} {s : Key} : (t.dec s).fin = t.fin ∧ (t.dec s).passed = t.passed := by unfold TSt.dec; split <;> exact ⟨rfl, rfl⟩
theorem TSt.decs_shape {ss : List Key} : ∀ {t : TSt}, (ss.foldl TSt.dec t).shape = t.shape ∧ (ss.foldl TSt.dec t).fin = t.fin ∧ (ss.foldl TSt.dec t).passed = t.passed := by
  induction ss with
  | nil => exact ⟨rfl, rfl, rfl⟩
  | cons s ss ih => intro t; simp only [List.foldl_cons]; rw [ih.1, ih.2.1, ih.2.2]; exact ⟨TSt.dec_shape, TSt.dec_fin⟩
theorem TSt.done1_shape {t : TSt} {k : Key} : (t.done1 k).shape = t.shape := by
  unfold TSt.done1
  exact TSt.decs_shape.1.trans (TSt.upd_shape (g := fun z_ => -2))
theorem TSt.dones_shape {ks : List Key} : ∀ {t : TSt}, (ks.foldl TSt.done1 t).shape = t.shape := by
  induction ks with
  | nil => exact rfl
  | cons s ss ih => intro t; simp only [List.foldl_cons]; rw [ih]; exact TSt.done1_shape
theorem TSt.small_shape {t : TSt} {b : Nat} : t.Small b ↔ t.shape.length ≤ b ∧ ∀ p ∈ t.shape, p.2.length ≤ b := by
  constructor
  · exact fun h => ⟨by have := h.n; simpa [TSt.shape] using this, fun p hp => by obtain ⟨q, hq, rfl⟩ := List.mem_map.mp hp; exact h.s q hq⟩
  · exact fun h => ⟨by have := h.1; simpa [TSt.shape] using this, fun p hp => h.2 _ (List.mem_map.mpr ⟨p, hp, rfl⟩)⟩
section
variable {w : World} {M : AM} {L : LS} {n : LN}
theorem find_mem {α : Type} {f : α → Key} : ∀ {l : List α} {a : α}, (l.map f).Nodup → a ∈ l → l.find? (fun p => f p = f a) = some a
  | x :: l, a, hn, ha => by
    rw [List.map_cons, List.nodup_cons] at hn
    rw [List.find?_cons]
    rcases List.mem_cons.mp ha with rfl | ha
    · simp
    · have : f x ≠ f a := fun e => hn.1 (e ▸ List.mem_map.mpr ⟨a, ha, rfl⟩)
      rw [decide_eq_false this]
      exact find_mem hn.2 ha
theorem Srt.npOf (S : Srt w M L) (hn : n ∈ L.ns) : L.st.npOf n.k = n.np := by
  unfold TSt.npOf
  have := find_mem (f := Prod.fst) (l := L.st.nodes) (a := n.ni) (by rw [show L.st.nodes.map Prod.fst = L.ns.map LN.k from LS.st_keys L]; exact S.keys) (List.mem_map.mpr ⟨n, hn, rfl⟩)
  rw [show (fun p : Key × NI => decide (p.1 = n.k)) = fun p => decide (p.1 = n.ni.1) from rfl, this]
  rfl
theorem Srt.scOf (S : Srt w M L) (hn : n ∈ L.ns) : L.st.scOf n.k = n.sc := by
  unfold TSt.scOf
  have := find_mem (f := Prod.fst) (l := L.st.shape) (a := (n.k, n.sc)) (by rw [← TSt.shape_keys, LS.st_keys]; exact S.keys) (List.mem_map.mpr ⟨n.ni, List.mem_map.mpr ⟨n, hn, rfl⟩, rfl⟩)
  rw [show (fun p : Key × List Key => decide (p.1 = n.k)) = fun p => decide (p.1 = (n.k, n.sc).1) from rfl, this]
  rfl
noncomputable def LS.lay (L : LS) : List (Key × List Key × Addr × Addr × Addr) := L.ns.map fun n => (n.k, n.sc, n.x, n.dx, n.l)
theorem LS.lay_upd {k : Key} {v : Int} : (L.upd k fun q => { q with np := v }).lay = L.lay := by
  unfold LS.lay LS.upd
  rw [List.map_map]
  exact List.map_congr_left fun m z_ => by simp only [Function.comp]; split <;> rfl
theorem LS.lay_mem {L' : LS} (h : L'.lay = L.lay) (hn : n ∈ L.ns) : ∃ n' ∈ L'.ns, n'.k = n.k ∧ n'.sc = n.sc ∧ n'.x = n.x ∧ n'.dx = n.dx ∧ n'.l = n.l := by
  have : (n.k, n.sc, n.x, n.dx, n.l) ∈ L'.lay := h ▸ List.mem_map.mpr ⟨n, hn, rfl⟩
  obtain ⟨n', h1, h2⟩ := List.mem_map.mp this
  simp only [Prod.mk.injEq] at h2
  exact ⟨n', h1, h2⟩
end
section
variable {w : World} {raw : List (Str × NameKind)} {hn : Bool} {lv : Nat} {ρ : AEnv} {H : AHs} {Q : AV → AEnv → AHs → Prop} {X : AX}
theorem wIf.of {b : Bool} {A B : Prop} (h1 : b = true → A) (h2 : b = false → B) : wIf b A B := by cases b; exact h2 rfl; exact h1 rfl
theorem is_active_ok {i : Nat} {M : AM} {L : LS} {rs : List Key} {x : Addr} (hlv : 2 ≤ lv) (S : Srt w M L) (hx : L.x = x) (hi : H[i]? = some M) (hr : L.ready = some rs) (hb : rs.length ≤ 1000000)
    (h : Q (.bool (decide (L.fin < L.passed) || !rs.isEmpty)) ρ H) : WK (Fr w raw true lv) (.val (.ref 106)) [.ref x] ρ H Q X := by
  subst hx
  refine WK.pos (ρ0 := [("self", .ref L.x)]) 50 (fn106 _) rfl (by show 1 ≤ lv; (exact Nat.le_of_lt (by assumption))) (by kernel_rfl) (fun z_ => .z (by kernel_rfl)) (by kernel_rfl) (by kernel_rfl) ?_
  refine W1.fld rfl S rfl hi (no_rd _) rfl ?_
  rw [hr]
  refine .go (WE.or2 40 (W1.fld rfl S rfl hi (no_nf _) rfl (W1.fld rfl S rfl hi (no_po _) rfl (wIf.of (fun e => ?_) fun e => ?_))))
  · rw [e, Bool.true_or] at h
    rw [e]
    exact .go h
  · rw [e, Bool.false_or] at h
    refine W1.fld rfl S rfl hi (no_rd _) rfl ?_
    rw [hr]
    refine WC.boolL (.own hi (S.rd hr)) (by rw [kav_len]; exact hb) (.go ?_)
    have e : (kav rs).isEmpty = rs.isEmpty := by cases rs <;> rfl
    rw [e]
    exact h
inductive DoneI (w : World) (H : AHs) (L : LS) (i : Nat) (rs ks : List Key) (b : Nat) (m : Nat) (ρ' : AEnv) (H' : AHs) : Prop
  | mk (M' : AM) (L' : LS) (h0 : ρ' = ([("self", .ref L.x), ("n2i", .ref L.d)] : AEnv)) (h1 : H' = H.set i M') (h2 : Srt w M' L') (h3 : L'.x = L.x) (h4 : L'.d = L.d) (h5 : L'.st = (ks.take m).foldl TSt.done1 L.st) (h6 : L'.st.ready.isSome = true) (h7 : L'.st.rd.length ≤ rs.length + m * b) : DoneI w H L i rs ks b m ρ' H'
inductive DecI (w : World) (H : AHs) (L L' : LS) (n : LN) (i m : Nat) (rs : List Key) (b : Nat) (j : Nat) (ρ' : AEnv) (H' : AHs) : Prop
  | mk (M3 : AM) (L3 : LS) (h0 : ρ' = ([("self", .ref L.x), ("n2i", .ref L.d)] : AEnv)) (h1 : H' = H.set i M3) (h2 : Srt w M3 L3) (h3 : L3.x = L.x) (h4 : L3.d = L.d) (h5 : L3.lay = (L'.upd n.k fun q => { q with np := -2 }).lay) (h6 : L3.st = (n.sc.take j).foldl TSt.dec (L'.st.upd n.k fun i => { i with np := -2 })) (h7 : L3.st.ready.isSome = true) (h8 : L3.st.rd.length ≤ rs.length + m * b + j) : DecI w H L L' n i m rs b j ρ' H'
theorem done_ok {i : Nat} {M : AM} {L : LS} {rs ks : List Key} {x : Addr} {b : Nat} (hlv : 2 ≤ lv) (S : Srt w M L) (hx : L.x = x) (hi : H[i]? = some M) (hr : L.ready = some rs) (hsm : L.st.Small b) (hb : rs.length + ks.length * b ≤ 900000) (hk1 : ks.length ≤ 1000000)
    (hcl : ∀ p ∈ L.st.shape, ∀ s ∈ p.2, s ∈ L.st.keys) (hks : ∀ m k, ks[m]? = some k → k ∈ L.st.keys ∧ ((ks.take m).foldl TSt.done1 L.st).npOf k = -1)
    (h : ∀ M' L', Srt w M' L' → L'.x = x → L'.st = ks.foldl TSt.done1 L.st → Q .none ρ (H.set i M')) :
    WK (Fr w raw true lv) (.val (.ref 120)) ([.ref x] ++ kav ks) ρ H Q X := by
  subst hx
  have hil := (List.getElem?_eq_some_iff.mp hi).1
  refine WK.var (va := "nodes") (ρ0 := [("self", .ref L.x), ("nodes", .tup (kav ks))]) 60 (fn120 _) rfl (by show 1 ≤ lv; (exact Nat.le_of_lt (by assumption))) (by kernel_rfl) (fun z_ => .z fun ws => by cases ws <;> kernel_rfl) (by kernel_rfl) (by rw [kav_len]; exact hk1) (by kernel_rfl) ?_
  refine W1.fld rfl S rfl hi (no_rd _) rfl ?_
  rw [hr]
  refine .go (W1.fld rfl S rfl hi (no_n2i _) rfl ?_)
  refine .go (WX.for 50 rfl rfl (Gh.sub [("self", .ref L.x), ("n2i", .ref L.d)] ⟨rfl, rfl, trivial⟩ (.go (WLoop.mk (xs := kav ks) (DoneI w H L i rs ks b) (WIter.tup rfl) (fun z_ z_ z_ z_ => trivial) ?_ ?_ ?_))))
  · exact ⟨M, L, rfl, (set_same hi).symm, S, rfl, rfl, rfl, by rw [LS.st_fld.1, hr]; rfl, by simp [TSt.rd, LS.st_fld.1, hr]⟩
  · rintro m y ρ' H' hy ⟨M', L', rfl, rfl, S', hx', hd', hst', hrd', hrl'⟩
    obtain ⟨p, hp, rfl⟩ := kav_get hy
    obtain ⟨hpk, hpn⟩ := hks m p hp
    have hm : m < ks.length := (List.getElem?_eq_some_iff.mp hp).1
    have hi' : (H.set i M')[i]? = some M' := by simp [hil]
    have hkeys : L'.st.keys = L.st.keys := by rw [TSt.shape_keys, TSt.shape_keys, hst', TSt.dones_shape]
    obtain ⟨n, hn, rfl⟩ := LS.mem_of (L := L') (k := p) (by rw [hkeys]; exact hpk)
    rw [← hst', S'.npOf hn] at hpn
    refine WMeth.get (n := 40) hi' (hd' ▸ S'.dict) ⟨n.k, i, M', _, _, rfl, hi', hd' ▸ S'.dict, ?_⟩ rfl
    rw [S'.at hn]
    refine .go (W1.np rfl hi' S' hn ?_)
    rw [hpn]
    refine .go (.go (W2.np rfl hi' S' hn fun M2 S2 => ?_))
    rw [List.set_set]
    have hi2 : (H.set i M2)[i]? = some M2 := by simp [hil]
    have hn2 : ({ n with np := -2 } : LN) ∈ (L'.upd n.k fun q => { q with np := -2 }).ns := List.mem_map.mpr ⟨n, hn, if_pos rfl⟩
    have hst2 : (L'.upd n.k fun q => { q with np := -2 }).st = L'.st.upd n.k fun i => { i with np := -2 } := LS.st_upd fun m => rfl
    have hsh2 : (L'.upd n.k fun q => { q with np := -2 }).st.shape = L.st.shape := by rw [hst2, TSt.upd_shape (g := fun z_ => -2), hst', TSt.dones_shape]
    have hsc : n.sc.length ≤ b := by
      have := (TSt.small_shape.mp hsm).2 (n.k, n.sc) (by rw [← hsh2]; exact List.mem_map.mpr ⟨_, List.mem_map.mpr ⟨_, hn2, rfl⟩, rfl⟩)
      exact this
    have hscl : ∀ s ∈ n.sc, s ∈ L.st.keys := hcl (n.k, n.sc) (by rw [← hsh2]; exact List.mem_map.mpr ⟨_, List.mem_map.mpr ⟨_, hn2, rfl⟩, rfl⟩)
    refine .go (WX.for 40 rfl rfl (W1.scs (m := { n with np := -2 }) rfl hi2 S2 hn2 (Gh.sub [("self", .ref L.x), ("n2i", .ref L.d)] ⟨rfl, rfl, trivial⟩ (.go (WLoop.mk (xs := kav n.sc)
      (DecI w H L L' n i m rs b) (WIter.list rfl (.own hi2 (S2.nl hn2))) ?_ ?_ ?_ ?_)))))
    · rintro j ρ' H' ⟨M3, L3, rfl, rfl, S3, _, _, hlay3, _⟩
      obtain ⟨n3, h3, e1, e2, e3, e4, e5⟩ := LS.lay_mem hlay3 hn2
      have hi3 : (H.set i M3)[i]? = some M3 := by simp [hil]
      have := S3.nl h3
      rw [e2, e5] at this
      exact .own hi3 this
    · exact ⟨M2, _, rfl, rfl, S2, hx', hd', rfl, hst2, by rw [hst2]; exact hrd', by rw [hst2]; exact hrl'⟩
    · rintro j y ρ' H' hy ⟨M3, L3, rfl, rfl, S3, hx3, hd3, hlay3, hst3, hrd3, hrl3⟩
      obtain ⟨q, hq, rfl⟩ := kav_get hy
      have hj : j < n.sc.length := (List.getElem?_eq_some_iff.mp hq).1
      have hi3 : (H.set i M3)[i]? = some M3 := by simp [hil]
      have hk3 : L3.st.keys = L.st.keys := by rw [TSt.shape_keys, TSt.shape_keys, hst3, TSt.decs_shape.1, ← hst2, hsh2]
      obtain ⟨n3, hn3, rfl⟩ := LS.mem_of (L := L3) (k := q) (by rw [hk3]; exact hscl q (List.mem_of_getElem? hq))
      refine W2.itemD hi3 (hd3 ▸ S3.dict) (S3.at hn3) ?_ rfl
      refine .go (W1.np rfl hi3 S3 hn3 ?_)
      refine W2.np rfl hi3 S3 hn3 fun M4 S4 => ?_
      rw [List.set_set]
      have hi4 : (H.set i M4)[i]? = some M4 := by simp [hil]
      have hn4 : ({ n3 with np := n3.np - 1 } : LN) ∈ (L3.upd n3.k fun q => { q with np := n3.np - 1 }).ns := List.mem_map.mpr ⟨n3, hn3, if_pos rfl⟩
      have hst4 : (L3.upd n3.k fun q => { q with np := n3.np - 1 }).st = L3.st.upd n3.k fun i => { i with np := i.np - 1 } := by
        rw [LS.upd_congr (g := fun q => { q with np := q.np - 1 }) S3.keys hn3 rfl]; exact LS.st_upd fun m => rfl
      have hlay4 : (L3.upd n3.k fun q => { q with np := n3.np - 1 }).lay = (L'.upd n.k fun q => { q with np := -2 }).lay := LS.lay_upd.trans hlay3
      have e3 : L3.st.npOf n3.k = n3.np := S3.npOf hn3
      refine .go (W1.np (m := { n3 with np := n3.np - 1 }) rfl hi4 S4 hn4 (wIf.of (fun e => ?_) fun e => ?_))
      · have e : n3.np - 1 = 0 := of_decide_eq_true e
        have hr4 : (L3.upd n3.k fun q => { q with np := n3.np - 1 }).ready = some L3.st.rd := by
          obtain ⟨rs3, h3⟩ := Option.isSome_iff_exists.mp hrd3
          show L3.st.ready = _
          unfold TSt.rd; rw [h3]; rfl
        refine W1.fld rfl S4 hx3 hi4 (no_rd _) rfl ?_
        rw [hr4]
        refine WMeth.append (n := 30) (.own hi4 (S4.rd hr4)) ⟨i, M4, _, hi4, S4.rd hr4, by rw [kav_len]; have := Nat.mul_le_mul_right b hm; rw [Nat.succ_mul] at this; lia, ?_⟩ rfl
        rw [List.set_set]
        have S5 := S4.setRd hr4 (L3.st.rd ++ [n3.k])
        rw [show kav (L3.st.rd ++ [n3.k]) = kav L3.st.rd ++ [n3.k.av] by simp [kav]] at S5
        have hd : L3.st.dec n3.k = { L3.st.upd n3.k (fun i => { i with np := i.np - 1 }) with ready := some (L3.st.rd ++ [n3.k]) } := by unfold TSt.dec; rw [if_pos (by rw [e3]; exact e)]
        refine .go (.go (Gh.sub [("self", .ref L.x), ("n2i", .ref L.d)] ⟨rfl, rfl, trivial⟩ (.go ⟨_, _, rfl, rfl, S5, hx3, hd3, hlay4, ?_, rfl, ?_⟩)))
        · rw [foldl_take hq, ← hst3, hd, ← hst4]; rfl
        · show (L3.st.rd ++ [n3.k]).length ≤ _
          rw [List.length_append, List.length_singleton]; (exact Nat.lt_succ_of_le (by assumption))
      · have e : ¬ n3.np - 1 = 0 := of_decide_eq_false e
        have hd : L3.st.dec n3.k = L3.st.upd n3.k fun i => { i with np := i.np - 1 } := by unfold TSt.dec; rw [if_neg (by rw [e3]; exact e)]
        refine .go (Gh.sub [("self", .ref L.x), ("n2i", .ref L.d)] ⟨rfl, rfl, trivial⟩ (.go ⟨_, _, rfl, rfl, S4, hx3, hd3, hlay4, ?_, hrd3, ?_⟩))
        · rw [foldl_take hq, ← hst3, hd, ← hst4]
        · exact Nat.le_succ_of_le hrl3
    · rintro ρ' H' ⟨M3, L3, rfl, rfl, S3, hx3, hd3, hlay3, hst3, hrd3, hrl3⟩
      rw [kav_len] at hrl3 hst3
      rw [List.take_length] at hst3
      have hi3 : (H.set i M3)[i]? = some M3 := by simp [hil]
      refine .go (W1.fld rfl S3 hx3 hi3 (no_nf _) rfl ?_)
      refine W2.fld (L' := { L3 with fin := L3.fin + 1 }) rfl S3 hx3 hi3 (no_nf _) rfl rfl ?_
      rw [List.set_set]
      refine .go (Gh.sub [("self", .ref L.x), ("n2i", .ref L.d)] ⟨rfl, rfl, trivial⟩ (.go ⟨_, { L3 with fin := L3.fin + 1 }, rfl, rfl, S3.setFld rfl rfl, hx3, hd3, ?_, hrd3, ?_⟩))
      · rw [foldl_take hp, ← hst']
        unfold TSt.done1
        rw [S'.scOf hn, ← hst3]
        have e : L3.fin = L'.st.fin := by rw [← LS.st_fld.2.2, hst3, TSt.decs_shape.2.1]; rfl
        rw [← e]; rfl
      · show L3.st.rd.length ≤ _
        rw [Nat.succ_mul]; lia
  · rintro ρ' H' ⟨M', L', rfl, rfl, S', hx', hd', hst', hrd', hrl'⟩
    rw [kav_len, List.take_length] at hst'
    exact .go (.go (h M' L' S' hx' hst'))
end
end Mine.Internal
end

section
open PySem PySem.W PySem.Calls PyProof.Rows
set_option Elab.async false
set_option maxRecDepth 100000
set_option linter.unusedVariables false
set_option linter.unusedSimpArgs false
namespace Mine.Internal
structure FR where
  n : LN
  p : Nat
  mw : Addr
  it : Addr
noncomputable def FR.cells (f : FR) : List (Addr × OD) := [(f.mw, oNext f.it), (f.it, oLIt (.ref f.n.l) f.p)]
noncomputable def fk (fs : List FR) : List Key := fs.map fun f => f.n.k
noncomputable def stk (fs : List FR) : List AV := kav (fk fs).reverse
noncomputable def itk (fs : List FR) : List AV := (fs.map fun f => AV.ref f.mw).reverse
noncomputable def skv : List FR → List (Key × AV)
  | [] => []
  | f :: fs => skv fs ++ [(f.n.k, .int fs.length)]
noncomputable def Topo (sc : Key → List Key) : List Key → Prop
  | [] => True
  | x :: l => (∀ s ∈ sc x, s ∈ l) ∧ Topo sc l
noncomputable def Top (B : List Key) (f : FR) : Option Key → Prop
  | some k => ∃ j, f.p = j + 1 ∧ f.n.sc[j]? = some k ∧ ∀ i s, i < j → f.n.sc[i]? = some s → s ∈ B
  | Option.none => ∀ i s, i < f.p → f.n.sc[i]? = some s → s ∈ B
noncomputable def Linked (B : List Key) : List FR → Option Key → Prop
  | [], _ => True
  | f :: fs, nx => Top B f nx ∧ Linked B fs (some f.n.k)
theorem Top.mono {B B' : List Key} (h : ∀ x ∈ B, x ∈ B') {f : FR} : ∀ {nx : Option Key}, Top B f nx → Top B' f nx
  | some k, ⟨j, h1, h2, h3⟩ => ⟨j, h1, h2, fun i s hi hs => h s (h3 i s hi hs)⟩
  | Option.none, q => fun i s hi hs => h s (q i s hi hs)
theorem Linked.mono {B B' : List Key} (h : ∀ x ∈ B, x ∈ B') : ∀ {fs : List FR} {nx : Option Key}, Linked B fs nx → Linked B' fs nx
  | [], _, _ => trivial
  | _ :: _, _, ⟨h1, h2⟩ => ⟨h1.mono h, h2.mono h⟩
theorem Linked.settle {B : List Key} {fs : List FR} {k : Key} (h : Linked B fs (some k)) (hk : k ∈ B) : Linked B fs Option.none := by
  cases fs with
  | nil => trivial
  | cons f fs =>
    obtain ⟨⟨j, h1, h2, h3⟩, h4⟩ := h
    refine ⟨fun i s hi hs => ?_, h4⟩
    rcases Nat.lt_or_ge i j with q | q
    · exact h3 i s q hs
    · have : i = j := by lia
      subst this
      rw [h2] at hs; cases hs; exact hk
structure DInv (L : LS) (sn : List Key) (fs : List FR) (B : List Key) : Prop where
  topo : Topo L.st.scOf B
  seen : ∀ x, x ∈ sn ↔ x ∈ B ∨ x ∈ fk fs
  nd : (fk fs).Nodup
  snd : sn.Nodup
  disj : ∀ x ∈ B, x ∉ fk fs
  ok : ∀ f ∈ fs, f.n ∈ L.ns ∧ f.p ≤ f.n.sc.length
  sub : ∀ x ∈ sn, x ∈ L.st.keys
noncomputable def todo (ns : List LN) (seen : List Key) : Nat := (ns.map fun n => if n.k ∈ seen then 0 else n.sc.length + 2).sum
noncomputable def left (fs : List FR) : Nat := (fs.map fun f => f.n.sc.length - f.p + 1).sum
theorem todo_new {ns : List LN} {seen : List Key} {n : LN} (hk : (ns.map LN.k).Nodup) (hn : n ∈ ns) (hs : n.k ∉ seen) : todo ns (seen ++ [n.k]) + (n.sc.length + 2) = todo ns seen := by
  obtain ⟨pre, post, rfl⟩ := List.append_of_mem hn
  simp only [List.map_append, List.map_cons] at hk
  have h2 := List.nodup_append.mp hk
  have h3 := List.nodup_cons.mp h2.2.1
  have same : ∀ l : List LN, (∀ m ∈ l, m.k ≠ n.k) → (l.map fun m => if m.k ∈ seen ++ [n.k] then 0 else m.sc.length + 2) = l.map fun m => if m.k ∈ seen then 0 else m.sc.length + 2 := fun l hl =>
    List.map_congr_left fun m hm => by
      have : (m.k ∈ seen ++ [n.k]) = (m.k ∈ seen) := by simp [hl m hm]
      simp only [this]
  unfold todo
  rw [List.map_append, List.map_append, List.map_cons, List.map_cons, same pre fun m hm => h2.2.2 _ (List.mem_map.mpr ⟨m, hm, rfl⟩) _ (List.mem_cons_self ..), same post fun m hm q => h3.1 (q ▸ List.mem_map.mpr ⟨m, hm, rfl⟩)]
  simp only [List.sum_append, List.sum_cons, if_neg hs]
  rw [if_pos (by simp)]
  lia
section
variable {L : LS} {seen B : List Key} {fs : List FR} {f : FR}
theorem DInv.push {n : LN} {mw it : Addr} (D : DInv L seen fs B) (hn : n ∈ L.ns) (hs : n.k ∉ seen) : DInv L (seen ++ [n.k]) (⟨n, 0, mw, it⟩ :: fs) B where
  topo := D.topo
  seen := fun x => by
    rw [List.mem_append, List.mem_singleton, D.seen x]
    show _ ↔ x ∈ B ∨ x ∈ n.k :: fk fs
    rw [List.mem_cons]
    constructor
    · rintro ((h | h) | h)
      · exact .inl h
      · exact .inr (.inr h)
      · exact .inr (.inl h)
    · rintro (h | h | h)
      · exact .inl (.inl h)
      · exact .inr h
      · exact .inl (.inr h)
  nd := List.nodup_cons.mpr ⟨fun h => hs ((D.seen _).mpr (.inr h)), D.nd⟩
  snd := List.nodup_append.mpr ⟨D.snd, by simp, fun a ha b hb e => hs (by simp at hb; rw [← hb, ← e]; exact ha)⟩
  disj := fun x hx h => by
    have h : x ∈ n.k :: fk fs := h
    rcases List.mem_cons.mp h with h | h
    · exact hs ((D.seen _).mpr (.inl (h ▸ hx)))
    · exact D.disj x hx h
  ok := fun f hf => by
    rcases List.mem_cons.mp hf with rfl | hf
    · exact ⟨hn, Nat.zero_le _⟩
    · exact D.ok f hf
  sub := fun x hx => by
    rcases List.mem_append.mp hx with hx | hx
    · exact D.sub x hx
    · rw [List.mem_singleton.mp hx, LS.st_keys]; exact List.mem_map.mpr ⟨n, hn, rfl⟩
theorem DInv.step (D : DInv L seen (f :: fs) B) (hp : f.p < f.n.sc.length) : DInv L seen ({ f with p := f.p + 1 } :: fs) B :=
  { D with
    seen := D.seen
    nd := D.nd
    disj := D.disj
    ok := fun g hg => by
      rcases List.mem_cons.mp hg with rfl | hg
      · exact ⟨(D.ok f (List.mem_cons_self ..)).1, hp⟩
      · exact D.ok g (List.mem_cons_of_mem _ hg) }
theorem DInv.pop {w : World} {M : AM} (S : Srt w M L) (D : DInv L seen (f :: fs) B) (hl : Linked B (f :: fs) Option.none) (hp : f.n.sc.length ≤ f.p) : DInv L seen fs (f.n.k :: B) ∧ Linked (f.n.k :: B) fs Option.none := by
  have hf := D.ok f (List.mem_cons_self ..)
  have hnd := List.nodup_cons.mp D.nd
  refine ⟨⟨⟨fun s hs => ?_, D.topo⟩, fun x => ?_, hnd.2, D.snd, fun x hx h => ?_, fun g hg => D.ok g (List.mem_cons_of_mem _ hg), D.sub⟩, ?_⟩
  · rw [S.scOf hf.1] at hs
    obtain ⟨i, hi, e⟩ := List.getElem_of_mem hs
    exact hl.1 i s (by (exact Nat.lt_of_lt_of_le (by assumption) (by assumption))) (by rw [List.getElem?_eq_getElem hi, e])
  · rw [D.seen x]
    show x ∈ B ∨ x ∈ f.n.k :: fk fs ↔ _
    rw [List.mem_cons, List.mem_cons]
    constructor
    · rintro (h | h | h)
      · exact .inl (.inr h)
      · exact .inl (.inl h)
      · exact .inr h
    · rintro ((h | h) | h)
      · exact .inr (.inl h)
      · exact .inl h
      · exact .inr (.inr h)
  · rcases List.mem_cons.mp hx with rfl | hx
    · exact hnd.1 h
    · exact D.disj x hx (List.mem_cons_of_mem _ h)
  · exact (hl.2.mono fun x hx => List.mem_cons_of_mem _ hx).settle (List.mem_cons_self ..)
end
structure Ring (sc : Key → List Key) (r : List Key) : Prop where
  ex : ∃ k mid, r = (k :: mid) ++ [k] ∧ (k :: mid).Nodup
  st : ∀ i a b, r[i]? = some a → r[i + 1]? = some b → b ∈ sc a
theorem skv_keys : ∀ {fs : List FR}, (skv fs).map Prod.fst = (fk fs).reverse
  | [] => rfl
  | f :: fs => by simp only [skv, List.map_append, fk, List.map_cons, List.reverse_cons, skv_keys]; rfl
theorem skv_len : ∀ {fs : List FR}, (skv fs).length = fs.length
  | [] => rfl
  | f :: fs => by simp only [skv, List.length_append, skv_len, List.length_cons, List.length_nil]
theorem kvAt_append {l l' : List (Key × AV)} {k : Key} : kvAt (l ++ l') k = (kvAt l k).or (kvAt l' k) := by
  unfold kvAt
  rw [List.find?_append]
  cases l.find? fun kv => decide (kv.1 = k) <;> rfl
theorem kvAt_not {l : List (Key × AV)} {k : Key} (h : k ∉ l.map Prod.fst) : kvAt l k = Option.none := by
  unfold kvAt
  rw [Option.map_eq_none_iff, List.find?_eq_none]
  exact fun p hp e => h (List.mem_map.mpr ⟨p, hp, of_decide_eq_true e⟩)
theorem skv_at {k : Key} : ∀ {fs : List FR}, (fk fs).Nodup → k ∈ fk fs → ∃ j, kvAt (skv fs) k = some (.int (j : Nat)) ∧ (fk fs).reverse[j]? = some k
  | f :: fs, hn, hk => by
    have hn2 := List.nodup_cons.mp hn
    simp only [skv, kvAt_append]
    show ∃ j, _ ∧ (f.n.k :: fk fs).reverse[j]? = some k
    rw [List.reverse_cons]
    rcases List.mem_cons.mp hk with rfl | hk
    · refine ⟨fs.length, ?_, ?_⟩
      · rw [kvAt_not (by rw [skv_keys, List.mem_reverse]; exact hn2.1)]; simp [kvAt]
      · rw [List.getElem?_append_right (by simp [fk])]; simp [fk]
    · obtain ⟨j, h1, h2⟩ := skv_at hn2.2 hk
      refine ⟨j, by rw [h1]; rfl, ?_⟩
      rw [List.getElem?_append_left (List.getElem?_eq_some_iff.mp h2).1]; exact h2
theorem skv_del {f : FR} {fs : List FR} (hn : (fk (f :: fs)).Nodup) : kvDel (skv (f :: fs)) f.n.k = skv fs := by
  have hn2 := List.nodup_cons.mp hn
  unfold kvDel
  simp only [skv, List.filter_append]
  have h1 : (skv fs).filter (fun kv => decide (kv.1 ≠ f.n.k)) = skv fs := List.filter_eq_self.mpr fun p hp => decide_eq_true fun e => hn2.1 (by
    have : p.1 ∈ (skv fs).map Prod.fst := List.mem_map.mpr ⟨p, hp, rfl⟩
    rw [skv_keys, e, List.mem_reverse] at this; exact this)
  rw [h1]; simp
theorem ring_of {L : LS} {w : World} {M : AM} {seen B : List Key} {fs : List FR} {k : Key} {j : Nat} (S : Srt w M L) (D : DInv L seen fs B) (hl : Linked B fs (some k)) (hj : (fk fs).reverse[j]? = some k) : Ring L.st.scOf ((fk fs).reverse.drop j ++ [k]) := by
  have hlen : j < (fk fs).reverse.length := (List.getElem?_eq_some_iff.mp hj).1
  have hd : (fk fs).reverse.drop j = k :: (fk fs).reverse.drop (j + 1) := by
    rw [List.drop_eq_getElem_cons hlen, (List.getElem?_eq_some_iff.mp hj).2]
  have hnd : (fk fs).reverse.Nodup := (List.reverse_perm (fk fs)).nodup_iff.mpr D.nd
  -- the steps along the stack and the last one
  have key : ∀ {fs : List FR} {k : Key}, (∀ f ∈ fs, f.n ∈ L.ns) → Linked B fs (some k) → ∀ i a b, ((fk fs).reverse ++ [k])[i]? = some a → ((fk fs).reverse ++ [k])[i + 1]? = some b → b ∈ L.st.scOf a := by
    intro fs
    induction fs with
    | nil => intro k _ _ i a b h1 h2; simp [fk] at h2
    | cons f fs ih =>
      intro k hok hl i a b h1 h2
      have e : (fk (f :: fs)).reverse = (fk fs).reverse ++ [f.n.k] := by simp [fk]
      rw [e] at h1 h2
      have hL : ((fk fs).reverse ++ [f.n.k]).length = fs.length + 1 := by simp [fk]
      rcases Nat.lt_or_ge (i + 1) (fs.length + 1) with q | q
      · rw [List.getElem?_append_left (by lia)] at h1 h2
        exact ih (fun g hg => hok g (List.mem_cons_of_mem _ hg)) hl.2 i a b h1 h2
      · have hi2 : i + 1 < ((fk fs).reverse ++ [f.n.k] ++ [k]).length := (List.getElem?_eq_some_iff.mp h2).1
        have hL2 : ((fk fs).reverse ++ [f.n.k] ++ [k]).length = fs.length + 2 := by simp [fk]
        have hi : i = fs.length := by lia
        subst hi
        rw [List.getElem?_append_left (by (exact Nat.le_of_eq (Eq.symm (by assumption)))), List.getElem?_append_right (by simp [fk])] at h1
        rw [List.getElem?_append_right (by (exact Nat.le_of_eq (by assumption)))] at h2
        simp [fk] at h1 h2
        subst h1 h2
        obtain ⟨jj, _, h2, _⟩ := hl.1
        rw [S.scOf (hok f (List.mem_cons_self ..))]
        exact List.mem_of_getElem? h2
  refine ⟨⟨k, (fk fs).reverse.drop (j + 1), by rw [hd], by rw [← hd]; exact hnd.sublist (List.drop_sublist ..)⟩, fun i a b h1 h2 => ?_⟩
  have ed : (fk fs).reverse.drop j ++ [k] = ((fk fs).reverse ++ [k]).drop j := by rw [List.drop_append_of_le_length (Nat.le_of_lt hlen)]
  rw [ed, List.getElem?_drop] at h1 h2
  exact key (fun f hf => (D.ok f hf).1) hl (j + i) a b h1 (by rw [Nat.add_assoc]; exact h2)
end Mine.Internal
end

section
open PySem PySem.W PySem.Calls PyProof.Rows
set_option Elab.async false
set_option maxRecDepth 100000
set_option maxHeartbeats 0
set_option linter.unusedVariables false
set_option linter.unusedSimpArgs false
namespace Mine.Internal
noncomputable def dH (w : World) (I : AM) (d e t s : Addr) (ep : Nat) (seen : List Key) (fs : List FR) (H : AHs) : AHs :=
  I :: one d (oDict PW w (skv fs) ep) :: one e (oSet PW w seen) :: one t (oList (itk fs)) :: one s (oList (stk fs)) :: H
theorem DInv.nil {L : LS} : DInv L [] [] [] where
  topo := trivial
  seen := fun x => by simp [fk]
  nd := List.nodup_nil
  snd := List.nodup_nil
  disj := fun x hx => by cases hx
  ok := fun f hf => by cases hf
  sub := fun x hx => by cases hx
noncomputable def dρn (L : LS) (d e t s : Addr) (a : AV) : AEnv := [("n2i", .ref L.d), ("stack", .ref s), ("itstack", .ref t), ("seen", .ref e), ("node2stacki", .ref d), ("node", a)]
noncomputable def dρ (L : LS) (d e t s : Addr) : AEnv := [("n2i", .ref L.d), ("stack", .ref s), ("itstack", .ref t), ("seen", .ref e), ("node2stacki", .ref d)]
noncomputable def subBody : Stmt → List Stmt
  | .For _ _ b _ _ => b
  | .While _ b _ _ => b
  | _ => []
noncomputable def innerW : Stmt := nthS (subBody (nthS (subBody (nthS (fBody (methAt 6 8)) 5)) 1)) 1
theorem itk_cons {f : FR} {fs : List FR} : itk (f :: fs) = itk fs ++ [.ref f.mw] := by simp [itk]
theorem stk_cons {f : FR} {fs : List FR} : stk (f :: fs) = stk fs ++ [f.n.k.av] := by simp [stk, kav, fk]
theorem itk_len {fs : List FR} : (itk fs).length = fs.length := by simp [itk]
theorem stk_len {fs : List FR} : (stk fs).length = fs.length := by simp [stk, kav, fk]
section
variable {w : World} {raw : List (Str × NameKind)} {lv : Nat} {ρ : AEnv} {H : AHs} {X : AX} {Q : AF → AEnv → AHs → Prop} {i : Nat} {M : AM} {L : LS} {d e t s : Addr}
theorem nodup_len : ∀ {l m : List Key}, l.Nodup → (∀ x ∈ l, x ∈ m) → l.length ≤ m.length
  | [], _, _, _ => Nat.zero_le _
  | a :: l, m, hn, h => by
    have hn := List.nodup_cons.mp hn
    have hm := h a (List.mem_cons_self ..)
    have := nodup_len (m := m.erase a) hn.2 fun x hx => (List.mem_erase_of_ne (fun e : x = a => hn.1 (e ▸ hx))).mpr (h x (List.mem_cons_of_mem _ hx))
    rw [List.length_erase_of_mem hm] at this
    have h2 := List.length_pos_of_mem hm
    show l.length + 1 ≤ m.length
    lia
theorem DInv.len {sn B : List Key} {fs : List FR} (D : DInv L sn fs B) : fs.length ≤ L.ns.length ∧ sn.length ≤ L.ns.length := by
  have hk : L.st.keys.length = L.ns.length := by rw [LS.st_keys, List.length_map]
  refine ⟨?_, hk ▸ nodup_len D.snd D.sub⟩
  have := nodup_len D.nd fun x hx => D.sub x ((D.seen x).mpr (.inr hx))
  rw [hk] at this
  simpa [fk] using this
inductive DfsI (w : World) (H : AHs) (L : LS) (d e t s : Addr) (seen : List Key) (k0 : Key) (μ0 : Nat) (μ : Nat) (ρ' : AEnv) (H' : AHs) : Prop
  | mk (I : AM) (ep : Nat) (sn : List Key) (fs : List FR) (B : List Key) (h0 : ρ' = dρ L d e t s) (h1 : H' = dH w I d e t s ep sn fs H) (h2 : Lays I (fs.flatMap FR.cells)) (h3 : DInv L sn fs B) (h4 : Linked B fs Option.none) (h5 : μ = todo L.ns sn + left fs) (h6 : μ ≤ μ0) (h7 : (∀ x ∈ seen, x ∈ sn)) (h8 : k0 ∈ sn) : DfsI w H L d e t s seen k0 μ0 μ ρ' H'
set_option tactic.hygienic true in
theorem dfs_inner {seen : List Key} {k0 : Key} {μ0 : Nat} (S : Srt w M L) (hi : H[i]? = some M) (hsm : L.st.Small 3000) (hcl : ∀ p ∈ L.st.shape, ∀ s ∈ p.2, s ∈ L.st.keys)
    (hQ1 : ∀ I ep sn fs B k, Lays I (fs.flatMap FR.cells) → DInv L sn fs B → Linked B fs (some k) → k ∈ L.st.keys → todo L.ns sn + left fs < μ0 → (∀ x ∈ seen, x ∈ sn) → k0 ∈ sn → fs ≠ [] → Q .next (dρn L d e t s k.av) (dH w I d e t s ep sn fs H))
    (hQ2 : ∀ I ep sn B, DInv L sn [] B → (∀ x ∈ seen, x ∈ sn) → k0 ∈ sn → Q .brk (dρ L d e t s) (dH w I d e t s ep sn [] H))
    {I : AM} {ep : Nat} {sn : List Key} {fs : List FR} {B : List Key} (hI : Lays I (fs.flatMap FR.cells)) (D : DInv L sn fs B) (hl : Linked B fs Option.none) (hμ : todo L.ns sn + left fs ≤ μ0) (hsub : ∀ x ∈ seen, x ∈ sn) (hk0 : k0 ∈ sn) :
    WX ((Fr w raw true lv).callee (fdK w.params 127).scope) innerW (dρ L d e t s) (dH w I d e t s ep sn fs H) Q X := by
  have hsz := (LS.small hsm).1
  refine WX.while 60 rfl (DfsI w H L d e t s seen k0 μ0) _ ⟨I, ep, sn, fs, B, rfl, rfl, hI, D, hl, rfl, hμ, hsub, hk0⟩ ?_
  clear hI D hl hμ hsub hk0 I ep sn fs B
  rintro μ ρ' H' ⟨I, ep, sn, fs, B, rfl, rfl, hI, D, hl, rfl, hμ, hsub, hk0⟩
  have hfl := D.len.1
  refine W1.truthL (.own (i := 4) rfl one_self) (by rw [stk_len]; lia) ?_
  cases fs with
  | nil => exact hQ2 I ep sn B D hsub hk0
  | cons f fs =>
    have e1 : (!(stk (f :: fs)).isEmpty) = true := by rw [stk_cons]; simp
    rw [e1]
    have hfn := D.ok f (List.mem_cons_self ..)
    have hfl : fs.length + 1 ≤ L.ns.length := hfl
    refine WE.callNext 40 (W2.itemNeg (x := .ref f.mw) (.own (i := 3) rfl one_self) (by decide) ?_ (by decide) ?_ ?_ rfl)
    · rw [itk_len]; simp; lia
    · rw [itk_cons, List.length_append, itk_len, List.getElem?_append_right (by rw [itk_len]; simp; lia)]
      rw [itk_len, show ((-1 : Int) + ((fs.length + [AV.ref f.mw].length : Nat) : Int)).toNat - fs.length = 0 by simp; lia]
      rfl
    · have hmw : I f.mw = some (oNext f.it) := hI.at_ _ _ (List.mem_flatMap.mpr ⟨f, List.mem_cons_self .., List.mem_cons_self ..⟩)
      have hit : I f.it = some (oLIt (.ref f.n.l) f.p) := hI.at_ _ _ (List.mem_flatMap.mpr ⟨f, List.mem_cons_self .., List.mem_cons_of_mem _ (List.mem_cons_self ..)⟩)
      refine .mk rfl (i := 0) rfl hmw ?_
      rcases Nat.lt_or_ge f.p f.n.sc.length with hp | hp
      · obtain ⟨k, hk⟩ : ∃ k, f.n.sc[f.p]? = some k := ⟨_, List.getElem?_eq_getElem hp⟩
        refine WC.next (i := 0) rfl hmw hit (.own (i := i + 5) hi (S.nl hfn.1)) (x := k.av) (by rw [kav, List.getElem?_map, hk]; rfl) ?_
        refine .go (hQ1 (I.put f.it (oLIt (.ref f.n.l) (f.p + 1))) ep sn ({ f with p := f.p + 1 } :: fs) B k ?_ (D.step hp) ⟨⟨f.p, rfl, hk, fun j s hj hs => hl.1 j s hj hs⟩, hl.2⟩ ?_ ?_ hsub hk0 (by simp))
        · have : Lays I ([(f.mw, oNext f.it)] ++ (f.it, oLIt (.ref f.n.l) f.p) :: fs.flatMap FR.cells) := hI
          exact this.put
        · have : (f.n.k, f.n.sc) ∈ L.st.shape := List.mem_map.mpr ⟨f.n.ni, List.mem_map.mpr ⟨f.n, hfn.1, rfl⟩, rfl⟩
          exact hcl _ this k (List.mem_of_getElem? hk)
        · have : left ({ f with p := f.p + 1 } :: fs) < left (f :: fs) := by
            show (f.n.sc.length - (f.p + 1) + 1) + left fs < (f.n.sc.length - f.p + 1) + left fs
            lia
          lia
      · refine WC.nextEnd rfl (i := 0) rfl hmw hit (.own (i := i + 5) hi (S.nl hfn.1)) (by rw [kav_len]; exact hp) ⟨catch_stop, ?_⟩
        obtain ⟨D2, hl2⟩ := D.pop S hl hp
        refine WMeth.pop (i := 4) (xs := stk fs) (a := f.n.k.av) rfl (by rw [stk_cons]; exact one_self) (by rw [stk_len]; lia) ?_
        refine W2.delD (i := 1) rfl one_self (by rw [skv_len]; simp; lia) ?_ fun ep' => ?_
        · obtain ⟨j, hj, _⟩ := skv_at D.nd (List.mem_cons_self ..)
          rw [hj]; rfl
        · refine .go (WMeth.pop (i := 3) (xs := itk fs) (a := .ref f.mw) rfl (by rw [itk_cons]; exact one_self) (by rw [itk_len]; lia) ?_)
          rw [skv_del D.nd, one_put, one_put, one_put]
          refine .go (.go (.go ⟨todo L.ns sn + left fs, ?_, I.put f.it (oAny fun _ => True), ep', sn, fs, f.n.k :: B, rfl, rfl, ?_, D2, hl2, rfl, ?_, hsub, hk0⟩))
          · show _ < todo L.ns sn + ((f.n.sc.length - f.p + 1) + left fs); lia
          · have : Lays I ([(f.mw, oNext f.it)] ++ (f.it, oLIt (.ref f.n.l) f.p) :: fs.flatMap FR.cells) := hI
            have h3 := this.put (d' := oAny fun _ => True)
            exact ⟨(List.nodup_cons.mp (List.nodup_cons.mp h3.nd).2).2, fun a d hm => h3.at_ a d (List.mem_cons_of_mem _ (List.mem_cons_of_mem _ hm))⟩
          · have : todo L.ns sn + ((f.n.sc.length - f.p + 1) + left fs) ≤ μ0 := hμ
            lia
end
end Mine.Internal
end

section
open PySem PySem.W PySem.Calls PyProof.Rows
set_option Elab.async false
set_option maxRecDepth 100000
set_option maxHeartbeats 0
set_option linter.unusedVariables false
set_option linter.unusedSimpArgs false
namespace Mine.Internal
section
variable {w : World} {raw : List (Str × NameKind)} {hn : Bool} {lv : Nat} {ρ : AEnv} {H : AHs} {Q : AV → AEnv → AHs → Prop} {X : AX}
theorem dH_sub {I : AM} {d e t s : Addr} {ep : Nat} {sn : List Key} {fs : List FR} : H.Sublist (dH w I d e t s ep sn fs H) :=
  (((((List.Sublist.refl H).cons _).cons _).cons _).cons _).cons _
inductive FcI (w : World) (H : AHs) (L : LS) (d e t s : Addr) (m : Nat) (ρ' : AEnv) (H' : AHs) : Prop
  | mk (I : AM) (ep : Nat) (seen B : List Key) (h0 : ρ' = dρ L d e t s) (h1 : H' = dH w I d e t s ep seen [] H) (h2 : DInv L seen [] B) (h3 : ∀ k ∈ (L.ns.map LN.k).take m, k ∈ seen) : FcI w H L d e t s m ρ' H'
inductive FcJ (w : World) (H : AHs) (L : LS) (d e t s : Addr) (seen : List Key) (k0 : Key) (μ : Nat) (ρ' : AEnv) (H' : AHs) : Prop
  | mk (I : AM) (ep : Nat) (sn : List Key) (fs : List FR) (B : List Key) (k : Key) (h0 : ρ' = dρn L d e t s k.av) (h1 : H' = dH w I d e t s ep sn fs H) (h2 : Lays I (fs.flatMap FR.cells)) (h3 : DInv L sn fs B) (h4 : Linked B fs (some k)) (h5 : k ∈ L.st.keys) (h6 : μ = todo L.ns sn + left fs) (h7 : (∀ x ∈ seen, x ∈ sn)) (h8 : ((k0 ∈ sn ∧ fs ≠ []) ∨ (k = k0 ∧ k ∉ sn ∧ fs = []))) : FcJ w H L d e t s seen k0 μ ρ' H'
set_option tactic.hygienic true in
theorem find_cycle_ok {i : Nat} {M : AM} {L : LS} {x : Addr} (hlv : 2 ≤ lv) (S : Srt w M L) (hx : L.x = x) (hi : H[i]? = some M) (hsm : L.st.Small 3000) (hcl : ∀ p ∈ L.st.shape, ∀ s ∈ p.2, s ∈ L.st.keys)
    (h1 : ∀ B, Topo L.st.scOf B → (∀ k ∈ L.st.keys, k ∈ B) → Q .none ρ H) (h2 : ∀ r, Ring L.st.scOf r → r.length ≤ 4000 → Q (.list (kav r)) ρ H) : WK (Fr w raw true lv) (.val (.ref 127)) [.ref x] ρ H Q X := by
  subst hx
  have hil := (List.getElem?_eq_some_iff.mp hi).1
  refine WK.pos (ρ0 := [("self", .ref L.x)]) 90 (fn127 _) rfl (by show 1 ≤ lv; (exact Nat.le_of_lt (by assumption))) (by kernel_rfl) (fun _ => .z (by kernel_rfl)) (by kernel_rfl) (by kernel_rfl) ?_
  refine W1.fld rfl S rfl hi (no_n2i _) rfl (.go ⟨by decide, fun s => .go ⟨by decide, fun t => .go (WC.set0 fun e => .go fun d => .go ?_)⟩⟩)
  have hsz := (LS.small hsm).1
  have hscs := (LS.small hsm).2
  refine WX.for 80 rfl rfl (Gh.sub (dρ L d e t s) ⟨rfl, rfl, rfl, rfl, rfl, trivial⟩ (Gh.empty (.go (WLoop.mk (xs := L.kvs.map fun kv => kv.1.av)
    (FcI w H L d e t s)
    (WIter.keys rfl ⟨i + 5, M, hi, S.dict⟩) ?_ ?_ ?_ ?_))))
  · rintro m ρ' H' ⟨I, ep, seen, B, rfl, rfl, _⟩
    exact ⟨i + 5, M, hi, S.dict⟩
  · exact ⟨fun _ => Option.none, 0, [], [], rfl, rfl, DInv.nil, fun k hk => by cases hk⟩
  · rintro m y ρ' H' hy ⟨I, ep, seen, B, rfl, rfl, D, hseen⟩
    obtain ⟨k0, hk0, rfl⟩ : ∃ k, (L.ns.map LN.k)[m]? = some k ∧ y = k.av := by
      rw [LS.kvs, List.map_map, List.getElem?_map] at hy
      cases e0 : L.ns[m]? with
      | none => rw [e0] at hy; cases hy
      | some n => rw [e0] at hy; cases hy; exact ⟨n.k, by rw [List.getElem?_map, e0]; rfl, rfl⟩
    have hk0k : k0 ∈ L.st.keys := by rw [LS.st_keys]; exact List.mem_of_getElem? hk0
    have htake : ∀ k ∈ (L.ns.map LN.k).take (m + 1), k ∈ (L.ns.map LN.k).take m ∨ k = k0 := fun k hk => by
      rw [List.take_add_one, hk0] at hk; simpa using hk
    refine W2.inS (i := 2) rfl one_self ?_
    refine wIf.of (fun hin => ?_) fun hout => ?_
    · have hin := of_decide_eq_true hin
      exact Gh.sub (dρ L d e t s) ⟨rfl, rfl, rfl, rfl, rfl, trivial⟩ (.go ⟨I, ep, seen, B, rfl, rfl, D, fun k hk => (htake k hk).elim (hseen k) fun q => q ▸ hin⟩)
    · have hout := of_decide_eq_false hout
      refine .go (WX.while 70 rfl (FcJ w H L d e t s seen k0) (todo L.ns seen + 0) ?_ ?_)
      · exact ⟨I, ep, seen, [], B, k0, rfl, rfl, ⟨List.nodup_nil, fun a d h => by cases h⟩, D, trivial, hk0k, rfl, fun x hx => hx, .inr ⟨rfl, hout, rfl⟩⟩
      · rintro μ ρ' H' ⟨I, ep, sn, fs, B, k, rfl, rfl, hI, D, hL, hkk, rfl, hsub, hst⟩
        refine W2.inS (i := 2) rfl one_self ?_
        refine wIf.of (fun hin => ?_) fun hout => ?_
        · have hin := of_decide_eq_true hin
          have hne : k0 ∈ sn ∧ fs ≠ [] := hst.elim id fun q => absurd hin q.2.1
          refine W2.inD (i := 1) rfl one_self ?_
          refine wIf.of (fun hon => ?_) fun hoff => ?_
          · have hk : k ∈ fk fs := by
              rcases (D.seen k).mp hin with q | q
              · rw [kvAt_not (by rw [skv_keys, List.mem_reverse]; exact D.disj k q)] at hon; cases hon
              · exact q
            obtain ⟨j, hj1, hj2⟩ := skv_at D.nd hk
            refine W2.itemD (i := 1) rfl one_self hj1 ?_ rfl
            refine ⟨stk fs, (stk fs).drop j, .own (i := 4) rfl one_self, .from (Int.natCast_nonneg j), by rw [stk_len]; have := D.len.1; lia, ?_⟩
            refine ⟨Nat.le_of_ble_eq_true rfl, ?_, ?_⟩
            · have h3 := List.length_drop (i := j) (l := stk fs)
              rw [stk_len] at h3
              have := D.len.1
              simp only [List.length_cons, List.length_nil]
              lia
            · refine Gh.drop dH_sub (.go ?_)
              have e : (stk fs).drop j ++ [k.av] = kav ((fk fs).reverse.drop j ++ [k]) := by simp [stk, kav, List.map_drop]
              show Q (.list ((stk fs).drop j ++ [k.av])) ρ H
              rw [e]
              exact h2 _ (ring_of S D hL hj2) (by have := D.len.1; rw [List.length_append, List.length_drop, List.length_reverse, show (fk fs).length = fs.length from List.length_map .., List.length_singleton]; lia)
          · have hk : k ∈ B := by
              rcases (D.seen k).mp hin with q | q
              · exact q
              · obtain ⟨j, hj1, _⟩ := skv_at D.nd q
                rw [hj1] at hoff; cases hoff
            refine .go (Gh.sub (dρ L d e t s) ⟨rfl, rfl, rfl, rfl, rfl, trivial⟩ (.go (dfs_inner (seen := seen) (k0 := k0) (μ0 := todo L.ns sn + left fs) S hi hsm hcl ?_ ?_ hI D (hL.settle hk) (Nat.le_refl _) hsub hne.1)))
            · exact fun I' ep' sn' fs' B' k' a1 a2 a3 a4 a5 a6 a7 a8 => .go (.go ⟨_, a5, I', ep', sn', fs', B', k', rfl, rfl, a1, a2, a3, a4, rfl, a6, .inl ⟨a7, a8⟩⟩)
            · exact fun I' ep' sn' B' a1 a2 a3 => .go (.go ⟨I', ep', sn', B', rfl, rfl, a1, fun k hk => (htake k hk).elim (fun q => a2 k (hseen k q)) fun q => q ▸ a3⟩)
        · have hout := of_decide_eq_false hout
          obtain ⟨n, hn, rfl⟩ := LS.mem_of hkk
          have hk0' : k0 ∈ sn ++ [n.k] := by
            rcases hst with q | q
            · exact List.mem_append_left _ q.1
            · exact List.mem_append_right _ (by rw [q.1]; exact List.mem_singleton_self _)
          have hfl := D.len
          refine WMeth.setAdd (n := 40) (i := 2) rfl one_self ⟨n.k, 2, _, sn, rfl, rfl, one_self, hout, by lia, ?_⟩ rfl
          rw [one_put]
          refine .go (WMeth.append (n := 50) (.own (i := 3) rfl one_self) ?_ rfl)
          refine W2.itemD (i := i + 5) hi S.dict (S.at hn) ?_ rfl
          refine W1.scs (i := i + 5) rfl hi S hn ?_
          refine WC.iter (.own (i := i + 5) hi (S.nl hn)) fun it => ?_
          refine W1.next (i := 0) rfl one_self fun mw => ?_
          refine ⟨5, _, _, rfl, one_self, by rw [itk_len]; lia, ?_⟩
          rw [one_put]
          refine .go (WC.len (.own (i := 6) rfl one_self) (by rw [stk_len]; lia) ?_)
          refine W3.setD (i := 3) rfl one_self (by rw [skv_len]; lia) fun ep' => ?_
          rw [one_put]
          refine .go (WMeth.append (n := 30) (.own (i := 6) rfl one_self) ⟨6, _, _, rfl, one_self, by rw [stk_len]; lia, ?_⟩ rfl)
          rw [one_put]
          have hkv : kvSet (skv fs) n.k (.int (stk fs).length) = skv (⟨n, 0, mw, it⟩ :: fs) := by
            rw [kvSet_new (kvAt_not (by rw [skv_keys, List.mem_reverse]; exact fun q => hout ((D.seen _).mpr (.inr q)))), stk_len]; rfl
          rw [hkv]
          refine .go ?_
          refine Gh.absorb (i := 1) (M := I) rfl fun a1 => ?_
          refine Gh.absorb (i := 0) (M := (one mw (oNext it)).or I) rfl fun a2 => ?_
          refine Gh.sub (dρ L d e t s) ⟨rfl, rfl, rfl, rfl, rfl, trivial⟩ (.go ?_)
          have D' : DInv L (sn ++ [n.k]) (⟨n, 0, mw, it⟩ :: fs) B := D.push hn hout
          have htd := todo_new S.keys hn hout
          have hlt : todo L.ns (sn ++ [n.k]) + left (⟨n, 0, mw, it⟩ :: fs) < todo L.ns sn + left fs := by
            show _ + ((n.sc.length - 0 + 1) + left fs) < _; lia
          have hI' : Lays ((one it (oLIt (.ref n.l) 0)).or ((one mw (oNext it)).or I)) ((⟨n, 0, mw, it⟩ :: fs).flatMap FR.cells) := ((hI.join .one a1).join .one a2).perm (List.Perm.swap ..)
          have key := dfs_inner (raw := raw) (lv := lv) (X := fun cl args => Gh fun _ H' => X cl args ρ H') (seen := seen) (k0 := k0) (μ0 := todo L.ns sn + left fs) (d := d) (e := e) (t := t) (s := s) (ep := ep') S hi hsm hcl (Q := ?_) ?_ ?_ hI' D' ⟨fun i s hi => absurd hi (Nat.not_lt_zero _), hL⟩ (Nat.le_of_lt hlt) (fun x hx => List.mem_append_left _ (hsub x hx)) hk0'
          · unfold dH at key
            rw [itk_cons, stk_cons] at key
            exact key
          · exact fun I' ep' sn' fs' B' k' a1 a2 a3 a4 a5 a6 a7 a8 => .go (.go ⟨_, a5, I', ep', sn', fs', B', k', rfl, rfl, a1, a2, a3, a4, rfl, a6, .inl ⟨a7, a8⟩⟩)
          · exact fun I' ep' sn' B' a1 a2 a3 => .go (.go ⟨I', ep', sn', B', rfl, rfl, a1, fun k hk => (htake k hk).elim (fun q => a2 k (hseen k q)) fun q => q ▸ a3⟩)
  · rintro ρ' H' ⟨I, ep, seen, B, rfl, rfl, D, hseen⟩
    refine .go (Gh.drop dH_sub (.go (h1 B D.topo fun k hk => ?_)))
    have : k ∈ seen := hseen k (by rw [LS.kvs, List.length_map, List.length_map, ← List.length_map (f := LN.k), List.take_length, ← LS.st_keys]; exact hk)
    rcases (D.seen k).mp this with q | q
    · exact q
    · cases q
end
end Mine.Internal
end

section
open PySem PySem.W PySem.Calls PyProof.Rows
set_option Elab.async false
set_option maxRecDepth 100000
set_option maxHeartbeats 0
set_option linter.unusedVariables false
set_option linter.unusedSimpArgs false
namespace Mine.Internal
noncomputable def TSt.zero (t : TSt) : List Key := t.nodes.filterMap fun p => if p.2.np = 0 then some p.1 else Option.none
noncomputable def TSt.prep (t : TSt) : TSt := { t with ready := some t.zero }
theorem Srt.newRd {w : World} {M : AM} {L : LS} {D : Addr} {ks : List Key} {xs : List AV} (S : Srt w M L) (hr : L.ready = Option.none) (e : xs = kav ks) (a : Apart (one D (oList xs)) (M.put L.dx (oNs ({ L with ready := some ks, r := D } : LS).fields))) :
    Srt w ((one D (oList xs)).or (M.put L.dx (oNs ({ L with ready := some ks, r := D } : LS).fields))) { L with ready := some ks, r := D } := by
  subst e
  have hl : Lays M ([(L.x, oInst 137 L.dx)] ++ (L.dx, oNs L.fields) :: ((L.d, oDict PW w L.kvs L.ep) :: L.ns.flatMap LN.cells)) := by
    have := S.lay; unfold LS.cells at this; rw [hr] at this; exact this
  have h1 := (hl.put (d' := oNs ({ L with ready := some ks, r := D } : LS).fields)).join .one a
  refine ⟨h1.perm ?_, S.keys⟩
  exact (List.perm_middle (l₁ := [_, _, _]))
theorem LS.kvs_snd {L : LS} : L.kvs.map Prod.snd = L.ns.map fun n => AV.ref n.x := by simp [LS.kvs]
theorem WIterC.srt {F : Fm} {w : World} {sc : Scope} {H : AHs} {target : Expr} {v : Addr} {i j : Nat} {M N : AM} {L : LS} (hF : F.g = G0 w) (hh : F.hn = true) (hj : H[j]? = some N) (hv : N v = some (oVView L.d)) (hi : H[i]? = some M) (S : Srt w M L) : WIterC F sc H (.ref v) target (DIn0 (G0 w) L.d L.kvs L.ep) (L.ns.map fun n => .ref n.x) := by
  have := WIterC.values (F := F) (sc := sc) (target := target) hh hj hv (show DIn0 F.g L.d L.kvs L.ep H from ⟨i, M, hi, by rw [hF]; exact S.dict⟩)
  rw [hF, LS.kvs_snd] at this
  exact this
section
variable {w : World} {raw : List (Str × NameKind)} {lv : Nat} {ρ : AEnv} {H : AHs} {Q : AV → AEnv → AHs → Prop} {X : AX}
theorem own_cycle (P : Params) : OwnExc (K0 P) 55 "ValueError" "ValueError.__new__" "ValueError.__init__" [.type "ValueError", .type "Exception", .type "BaseException", .type "object"] := ⟨PySem.F.excBase_ValueError, .mk _ _ _ _ _ _ _ _ _ _ _ _ _ _ _ _ rfl (by kernel_rfl) (by kernel_rfl) (by kernel_rfl) (by kernel_rfl)⟩
theorem raise_cy {F : Fm} (hF : F.g = G0 w) : WRaise F (.ref 55) := ⟨fun c q => .own (by rw [q.K, gK hF]; exact own_cycle _)⟩
theorem catch_cy {F : Fm} (hF : F.g = G0 w) : WCatch F (.ref 55) (.ref 55) := ⟨fun c q => Catches.own q.ok (by rw [q.K, gK hF]; exact own_cycle _)⟩
theorem prepare_ok {i : Nat} {M : AM} {L : LS} {x : Addr} (hlv : 3 ≤ lv) (S : Srt w M L) (hx : L.x = x) (hi : H[i]? = some M) (hr : L.ready = Option.none) (hsm : L.st.Small 3000) (hcl : ∀ p ∈ L.st.shape, ∀ s ∈ p.2, s ∈ L.st.keys)
    (h1 : ∀ M' L' B, Srt w M' L' → L'.x = x → L'.st = L.st.prep → Topo L.st.scOf B → (∀ k ∈ L.st.keys, k ∈ B) → Q .none ρ (H.set i M'))
    (h2 : ∀ M' L' r, Srt w M' L' → L'.x = x → L'.st = L.st.prep → Ring L.st.scOf r → X (.ref 55) [.str "nodes are in a cycle", .list (kav r)] ρ (H.set i M')) :
    WK (Fr w raw true lv) (.val (.ref 92)) [.ref x] ρ H Q X := by
  subst hx
  have hil := (List.getElem?_eq_some_iff.mp hi).1
  refine WK.pos (ρ0 := [("self", .ref L.x)]) 60 (fn92 _) rfl (by show 1 ≤ lv; (exact Nat.zero_lt_of_lt (by assumption))) (by kernel_rfl) (fun z_ => .z (by kernel_rfl)) (by kernel_rfl) (by kernel_rfl) ?_
  refine W1.fld rfl S rfl hi (no_rd _) rfl ?_
  rw [hr]
  refine .go (WE.compO 40 (by kernel_rfl) rfl ?_)
  refine W1.fld rfl S rfl hi (no_n2i _) rfl (WMeth.values hi S.dict fun v => ?_)
  refine .go (.mk L.ns (fun n => .ref n.x) (fun n => if n.np = 0 then some n.k.av else Option.none) (WIterC.srt (i := i + 1) (j := 0) rfl rfl rfl one_self hi S) (fun N => ⟨i + 2, M, hi, S.dict⟩) (by have := (LS.small hsm).1; (exact Nat.le_trans (by assumption) (Nat.le_of_ble_eq_true rfl))) ?_ ?_)
  · intro n hn
    refine W1.np (i := i + 1) rfl hi S hn ?_
    refine wIf.of (fun e => ?_) fun e => ?_
    · exact W1.nd (i := i + 1) rfl hi S hn ⟨rfl, trivial, if_pos (of_decide_eq_true e)⟩
    · exact ⟨rfl, trivial, if_neg (of_decide_eq_false e)⟩
  · intro D
    have hks : (L.ns.filterMap fun n => if n.np = 0 then some n.k.av else Option.none) = kav L.st.zero := by
      unfold TSt.zero kav LS.st
      rw [List.filterMap_map, List.map_filterMap]
      refine congrArg (fun f => List.filterMap f L.ns) (funext fun n => ?_)
      by_cases e : n.np = 0
      · simp [LN.ni, e]
      · simp [LN.ni, e]
    rw [hks]
    refine W2.fld (i := i + 2) (L' := { L with ready := some L.st.zero, r := D }) rfl S rfl hi (no_rd _) rfl rfl ?_
    refine Gh.drop (H' := one D (oList (kav L.st.zero)) :: H.set i (M.put L.dx (oNs ({ L with ready := some L.st.zero, r := D } : LS).fields))) ((List.sublist_cons_self ..).cons_cons _) ?_
    refine Gh.absorb (i := i) (M := M.put L.dx (oNs ({ L with ready := some L.st.zero, r := D } : LS).fields)) (by simp [hil]) fun a1 => .go ?_
    rw [List.set_set]
    have S1 := S.newRd hr rfl a1
    have hi1 : (H.set i ((one D (oList (kav L.st.zero))).or (M.put L.dx (oNs ({ L with ready := some L.st.zero, r := D } : LS).fields))))[i]? = some ((one D (oList (kav L.st.zero))).or (M.put L.dx (oNs ({ L with ready := some L.st.zero, r := D } : LS).fields))) := by simp [hil]
    refine WMeth.srt (n := 30) (f := 127) rfl S1 rfl hi1 (by kernel_rfl) (by kernel_rfl) rfl (by kernel_rfl) ?_
    refine WK.wc (find_cycle_ok (lv := lv - 1) (by (exact Nat.le_sub_of_add_le (by assumption))) S1 rfl hi1 ⟨hsm.n, hsm.s⟩ hcl (fun B hB hk => ?_) fun r hr hrl => ?_)
    · exact .go (.go (.go (h1 _ _ B S1 rfl rfl hB hk)))
    · obtain ⟨⟨k, mid, e, _⟩, _⟩ := id hr
      have hne : (!(kav r).isEmpty) = true := by rw [e]; rfl
      refine .go ⟨by rw [kav_len]; (exact Nat.le_trans (by assumption) (Nat.le_of_ble_eq_true rfl)), ?_⟩
      rw [hne]
      refine ⟨raise_cy rfl, ?_⟩
      refine WE.fstr1 (n := 20) ⟨Nat.le_of_ble_eq_true rfl, ?_⟩
      exact .go (h2 _ _ r S1 rfl rfl hr)
end
end Mine.Internal
end

section
open PySem PySem.W PySem.Calls PyProof.Rows
set_option Elab.async false
set_option maxRecDepth 100000
set_option maxHeartbeats 0
set_option linter.unusedVariables false
set_option linter.unusedSimpArgs false
namespace Mine.Internal
section
variable {w : World} {raw : List (Str × NameKind)} {lv : Nat} {ρ : AEnv} {H : AHs} {Q : AV → AEnv → AHs → Prop} {X : AX}
end
end Mine.Internal
end

section
open PySem PySem.W PySem.Calls PyProof.Rows
set_option Elab.async false
set_option maxRecDepth 100000
set_option linter.unusedVariables false
set_option linter.unusedSimpArgs false
namespace Mine.Internal
section
variable {F : Fm} {ρ : AEnv} {H : AHs} {X : AX} {QV : AV → AEnv → AHs → Prop} {n : Nat} {name : Str} {a : AV} {xs : List AV} {as : List AV} {C : Value} {b : Bool}
theorem WC.isiL (hl : LV H a xs) (e : kitOne F.g.K (.type "list") C = some b) (h : QV (.bool b) ρ H) : WC F (.val (.builtin "isinstance")) [a, .val C] ρ H QV X := ⟨fun c q => TC.isiList q.ok hl (q.K ▸ e) h⟩
theorem WC.isiVE (e : kitOne F.g.K (.type "ValueError") C = some b) (h : QV (.bool b) ρ H) : WC F (.val (.builtin "isinstance")) [.exc (.type "ValueError") as, .val C] ρ H QV X := ⟨fun c q => TC.isiVE q.ok (q.K ▸ e) h⟩
theorem W1.argsVE {ex : Bool} (h : QV (.tup as) ρ H) : W1 F VR (fun v => getAttr v "args" ex) (.exc (.type "ValueError") as) ρ H QV X := ⟨fun c q => T1.argsVE h⟩
end
end Mine.Internal
end

section
open PySem PySem.W PySem.Calls PyProof.Rows
set_option Elab.async false
set_option maxRecDepth 100000
set_option linter.unusedVariables false
set_option linter.unusedSimpArgs false
namespace Mine.Internal
section
variable {prog : Program} {w : World} {A : Around} {E : Value → Shared → Prop} {s : Shared}
theorem list_endH {it l : Addr} {i : Nat} {items : Array Value} {Q : Option Value → Shared → Prop} (hd : Hdl A s.heap) (hne : ∀ x, A.handled = some (.ref x) → x ≠ it) (hit : s.heap.IsListIter it l i) (hl : s.heap.IsList l items) (hx : items[i]? = Option.none)
    (hQ : ∀ h', Heap.ExtBut it s.heap h' → Q Option.none { s with heap := h' }) : wpAny (model prog w) A (pyNext (.ref it)) Q E s := by
  obtain ⟨o, ho, hc, hdt⟩ := id hit
  obtain ⟨ol, hol, _, nl, hdl⟩ := hl
  unfold pyNext
  refine wpAny_bind (wpAny_attempt (wpAny_callSpecial?_slot (name := Str.ofString "__next__") hit.typeIs slot_listiter_next (wpAny_call_entry slot_listiter_next hit.typeIs entry_listiter_next ?_ (args_listiter_next _))))
  show wpAny _ _ (field (.ref it) 0 >>= _) _ _ s
  refine wpAny_bind (wpAny_field ho hdt (x := .ref l) rfl ?_)
  show wpAny _ _ (if (Value.ref l == Value.none) = true then _ else _) _ _ s
  rw [if_neg (show ¬ ((Value.ref l == Value.none) = true) from Bool.false_ne_true)]
  show wpAny _ _ (field (.ref it) 1 >>= _) _ _ s
  refine wpAny_bind (wpAny_field ho hdt (x := .int i 0) rfl ?_)
  show wpAny _ _ (seqItems? (.ref l) >>= _) _ _ s
  refine wpAny_bind (wpAny_seqItems hol hdl ?_)
  simp only [Int.toNat_natCast, hx]
  refine wpAny_bind (wpAny_rule (wpAny_bind (wpAny_setField ho hdt (by simp) ?_)))
  show wpAny _ _ (newExc (.type "StopIteration") [] >>= _) _ _ _
  have up : ∀ b o', b ≠ it → s.heap.get? b = some o' → (s.heap.update it (Obj.mapFields (·.setIfInBounds 0 Value.none))).get? b = some o' := fun b o' hb e => (Heap.get?_update_other _ _ (Ne.symm hb)).trans e
  refine stopH (A := A.in1) (fun e he => ?_) fun h' e o' hk ho' hc' => ?_
  · obtain ⟨x, ox, vs, q0, q1, q2, q3⟩ := hd e he
    exact ⟨x, ox, vs, q0, up x ox (hne x (by rw [← q0]; exact he)) q1, q2, q3⟩
  refine wpAny_bind (wpAny_isInstance (T := "StopIteration") (b := true) ⟨o', ho', hc'⟩ isSubtype_stop ?_)
  exact wpAny_pure (hQ _ fun b ob hb e => hk b ob (up b ob hb e))
end
end Mine.Internal
end

section
open PySem PySem.W PySem.Calls PyProof.Rows
set_option Elab.async false
set_option maxRecDepth 100000
set_option linter.unusedVariables false
set_option linter.unusedSimpArgs false
namespace Mine.Internal
theorem take_snoc' {α : Type} {ns : List α} {m : Nat} {p : α} (h : ns[m]? = some p) : ns.take (m + 1) = ns.take m ++ [p] := by rw [List.take_add_one, h]; rfl
noncomputable def addK (acc : List Key) (k : Key) : List Key := if k ∈ acc then acc else acc ++ [k]
noncomputable def metK (ks : List Key) : List Key := ks.foldl addK []
theorem metK_snoc {ks : List Key} {k : Key} : metK (ks ++ [k]) = addK (metK ks) k := by simp [metK]
theorem addK_len {acc : List Key} {k : Key} : (addK acc k).length ≤ acc.length + 1 := by unfold addK; split <;> simp
theorem metK_len (ks : List Key) : (metK ks).length ≤ ks.length := by
  have key : ∀ (ks acc : List Key), (ks.foldl addK acc).length ≤ acc.length + ks.length := by
    intro ks
    induction ks with
    | nil => intro acc; exact Nat.le_refl _
    | cons k ks ih => intro acc; have := ih (addK acc k); have h2 := addK_len (acc := acc) (k := k); simp only [List.foldl_cons, List.length_cons]; lia
  simpa [metK] using key ks []
section
variable {prog : Program} {w : World} {A : Around} {R : Result → Shared → Prop} {s₀ : Shared} {S I l : Addr} {items : Array Value} {ks : List Key}
structure LoopH (prog : Program) (w : World) (A : Around) (s₀ : Shared) (S I l : Addr) (items : Array Value) (ks : List Key) (i : Nat) (s : Shared) : Prop where
  same : ∃ h tk, s = { s₀ with heap := h, toks := tk }
  it : s.heap.IsListIter I l i
  ls : s.heap.IsList l items
  st : s.heap.SetOf (mixKind prog w) S (fun k => decide (k ∈ metK (ks.take i))) (metK (ks.take i)).length
  old : ∀ b o, b ≠ S → b ≠ I → s₀.heap.get? b = some o → s.heap.get? b = some o
theorem loopH_run (hd : ∀ e, A.handled = some e → ∃ x o vs, e = .ref x ∧ x ≠ S ∧ x ≠ I ∧ s₀.heap.get? x = some o ∧ o.data = .fields vs ∧ vs[2]? = some .none) (hSI : S ≠ I) (hSl : S ≠ l) (hlI : l ≠ I)
    (hk : ∀ (i : Nat) (v : Value), items[i]? = some v → ∃ k : Key, ks[i]? = some k ∧ Key.is k v = true) (hsz : items.size = ks.length) (hb : ks.length + 1 < scanBound)
    (hR : ∀ s : Shared, (∃ h tk, s = { s₀ with heap := h, toks := tk }) → s.heap.SetOf (mixKind prog w) S (fun k => decide (k ∈ metK ks)) (metK ks).length → (∀ b o, b ≠ S → b ≠ I → s₀.heap.get? b = some o → s.heap.get? b = some o) → R (.ok (.ret .none)) s) :
    ∀ (m i : Nat) (s : Shared), items.size - i = m → i ≤ items.size → LoopH prog w A s₀ S I l items ks i s → codeAny (model prog w) A (.builtin "set.update.loop" ⟨[.ref S, .ref I], []⟩) R s := by
  intro m
  induction m with
  | zero =>
    intro i s hm hi L
    have hin : i = items.size := Nat.le_antisymm hi (Nat.le_of_sub_eq_zero hm)
    subst hin
    refine codeAny_builtin PyProof.Rows.F.entry_set_update_loop ?_
    rw [Around.under_plainId PyProof.Rows.F.plain_set_update_loop _]
    show wpAny _ A.in1 (pyNext (.ref I) >>= _) _ _ s
    refine wpAny_bind (list_endH (A := A.in1) (l := l) (i := items.size) (fun e he => ?_) (fun x hx => ?_) L.it L.ls (by simp) fun h' hs => ?_)
    · obtain ⟨x, o, vs, q0, q1, q2, q3, q4, q5⟩ := hd e he
      exact ⟨x, o, vs, q0, L.old x o q1 q2 q3, q4, q5⟩
    · obtain ⟨x', o, vs, q0, q1, q2, _⟩ := hd _ hx
      cases q0; exact q2
    · show wpAny _ A.in1 (ret Value.none) _ _ _
      obtain ⟨h0, tk, e⟩ := L.same
      refine wpAny_pure (hR _ ⟨h', s.toks, by rw [e]⟩ ?_ fun b o h1 h2 e => hs b o h2 (L.old b o h1 h2 e))
      have hst := L.st
      rw [hsz, List.take_length] at hst
      obtain ⟨o, es, ep, t, ho, rest⟩ := hst
      exact ⟨o, es, ep, t, hs S o hSI ho, rest⟩
  | succ m ih =>
    intro i s hm hi L
    have hlt : i < items.size := Nat.lt_of_sub_eq_succ hm
    obtain ⟨k, hki, hkv⟩ := hk i items[i] (by simp [hlt])
    refine codeAny_builtin PyProof.Rows.F.entry_set_update_loop ?_
    rw [Around.under_plainId PyProof.Rows.F.plain_set_update_loop _]
    show wpAny _ A.in1 (pyNext (.ref I) >>= _) _ _ s
    refine wpAny_bind (wpAny_pyNext_list_item L.it L.ls (x := items[i]) (by simp [hlt]) fun h' hit hs => ?_)
    show wpAny _ A.in1 (holding [items[i]] (setAdd S items[i]) >>= _) _ _ _
    refine wpAny_bind (wpAny_holding ?_)
    unfold setAdd
    refine wpAny_holding ?_
    refine wpAny_bind ((mixKind prog w).pyHash (k := k) hkv ?_)
    have hst : h'.SetOf (mixKind prog w) S (fun k => decide (k ∈ metK (ks.take i))) (metK (ks.take i)).length := by
      obtain ⟨o, es, ep, t, ho, rest⟩ := L.st
      exact ⟨o, es, ep, t, hs.extBut S o hSI ho, rest⟩
    have hroom : (metK (ks.take i)).length + 1 < scanBound := by
      have h1 := metK_len (ks.take i)
      have h2 := List.length_take_le' i ks
      lia
    refine wpAny_setAddHashed_of (knd := mixKind prog w) hkv (Key.scannable hkv) hst hroom fun h2 hsb hS2 => ?_
    obtain ⟨h0, tk, e⟩ := L.same
    refine wpAny_pure ⟨plainId_quiet PyProof.Rows.F.plain_set_update_loop _, ih (i + 1) _ (by rw [Nat.sub_succ, hm]; rfl) hlt ⟨⟨h2, _, by rw [e]⟩, ?_, ?_, ?_, fun b o h1 h2' q => ?_⟩⟩
    · obtain ⟨o, ho, r⟩ := hit
      exact ⟨o, (hsb.2 I (Ne.symm hSI)).trans ho, r⟩
    · obtain ⟨o, ho, r⟩ := L.ls.extBut hs.extBut hlI
      exact ⟨o, (hsb.2 l (Ne.symm hSl)).trans ho, r⟩
    · have e1 : metK (ks.take (i + 1)) = addK (metK (ks.take i)) k := by rw [take_snoc' hki, metK_snoc]
      rw [e1]
      refine SetOf_congr hS2 (fun k' => ?_) ?_
      · unfold addK
        by_cases hin : k ∈ metK (ks.take i)
        · rw [if_pos hin]
          by_cases hk' : k' = k
          · subst hk'; simp [hin]
          · simp [hk']
        · rw [if_neg hin]
          simp [List.mem_append]
      · unfold addK
        by_cases hin : k ∈ metK (ks.take i)
        · simp [hin]
        · simp [hin]
    · exact (hsb.2 b h1).trans (hs.extBut b o h2' (L.old b o h1 h2' q))
end
end Mine.Internal
end

section
open PySem PySem.W PySem.Calls PyProof.Rows
set_option Elab.async false
set_option maxRecDepth 100000
set_option maxHeartbeats 3200000
set_option linter.unusedVariables false
set_option linter.unusedSimpArgs false
namespace Mine.Internal
section
variable {prog : Program} {w : World} {A : Around} {E : Value → Shared → Prop} {s : Shared}
theorem setListH {l : Addr} {items : Array Value} {ks : List Key} {Q : Value → Shared → Prop} (hd : Hdl A s.heap) (hl : s.heap.IsList l items)
    (hk : ∀ (i : Nat) (v : Value), items[i]? = some v → ∃ k : Key, ks[i]? = some k ∧ Key.is k v = true) (hsz : items.size = ks.length) (hb : ks.length + 1 < scanBound)
    (h : ∀ (h' : Heap) (tk : Nat), h'.SetOf (mixKind prog w) s.heap.objs.size (fun k => decide (k ∈ metK ks)) (metK ks).length → (∀ b o, b < s.heap.objs.size → s.heap.get? b = some o → h'.get? b = some o) → Q (.ref s.heap.objs.size) { s with heap := h', toks := tk }) :
    wpAny (model prog w) A (call (.type "set") [.ref l]) Q E s := by
  obtain ⟨c, tl, hmro⟩ := PySem.F.called_set.mro
  have hmade := PySem.F.called_set.made
  have hsub := PySem.F.called_set.sub
  refine wpAny_call (codeAny_of_tree ?_)
  show wpAny _ _ (callAny (.type "set") _) _ _ _
  refine wpAny_pure ⟨Code.quiet_builtin _ (by decide +kernel), codeAny_builtin PySem.F.entry_type_call ?_⟩
  rw [Around.under_plain (weight_type_call_type "set" [.ref l] []) rfl]
  have h1 := PySem.F.called_set.notType
  have h2 := PySem.F.called_set.canCreate
  have hct := PySem.F.typeCall_set_1 (.ref l)
  repeat (any_goals (first | assumption | wp_step))
  refine codeAny_mono (code_set_new_1 (.ref l) (E := E) (Q₁ := fun obj s₁ => ∃ led : Bool, obj = .ref s.heap.objs.size ∧ s₁ = { s with heap := s.heap.push { cls := .type "set", dict := none, data := .set #[] 0 (.fresh 0 0 led) } }) fun led => ⟨led, rfl, rfl⟩) fun r s₁ hr => ?_
  cases r with
  | error e => exact hr
  | ok fl =>
    cases fl with
    | ret obj =>
      obtain ⟨led, rfl, rfl⟩ := hr
      have hS : (s.heap.push { cls := .type "set", dict := none, data := .set #[] 0 (.fresh 0 0 led) }).get? s.heap.objs.size = some { cls := .type "set", dict := none, data := .set #[] 0 (.fresh 0 0 led) } := Heap.get?_push_size _ rfl
      have hT : Shared.TypeIs { s with heap := s.heap.push { cls := .type "set", dict := none, data := .set #[] 0 (.fresh 0 0 led) } } (.ref s.heap.objs.size) "set" := ⟨_, hS, rfl⟩
      have hli := PySem.F.called_set.init.lookup
      have hbi := PySem.F.called_set.init.bind (.ref s.heap.objs.size)
      repeat (any_goals (first | assumption | wp_step))
      refine codeAny_mono (codeAny_call_builtin (R := wants (fun r s₂ => r = .none ∧ ∃ h' tk, s₂ = { s with heap := h', toks := tk } ∧
          h'.SetOf (mixKind prog w) s.heap.objs.size (fun k => decide (k ∈ metK ks)) (metK ks).length ∧
          (∀ b o, b < s.heap.objs.size → s.heap.get? b = some o → h'.get? b = some o)) E) PySem.F.called_set.init.plain PySem.F.entry_set_init (check_set_init_1 hT ?_)) fun r₂ s₂ hr₂ => ?_
      · obtain ⟨ol, hol, hcl, nl, hdl⟩ := hl
        obtain ⟨ocls, odict, odata, oslots⟩ := ol
        simp only at hcl hdl
        subst hcl; subst hdl
        have hol' : (s.heap.push { cls := .type "set", dict := none, data := .set #[] 0 (.fresh 0 0 led) }).get? l = some { cls := .type "list", dict := odict, data := .seq items nl, slots := oslots } := Heap.get?_push_of_some _ hol
        have hsls := PySem.F.sub_list_set
        have hslf := PySem.F.sub_list_frozenset
        have hne : (Value.type "list" == Value.type "dict") = false := by decide
        have hl1 : (s.heap.push { cls := .type "set", dict := none, data := .set #[] 0 (.fresh 0 0 led) }).IsList l items := ⟨_, hol', rfl, nl, rfl⟩
        unfold Builtin.«set.__init__» noKeywords Builtin.Frozenset.updateFrom
        generalize hPI : pyIter = PI
        wp_walk
        subst hPI
        refine wpAny_pyIter_list hl1 ?_
        refine wpAny_bind (wpAny_runValue ?_)
        have hlS : l < s.heap.objs.size := Heap.lt_size hol
        have hsz1 : (s.heap.push { cls := .type "set", dict := none, data := .set #[] 0 (.fresh 0 0 led) }).objs.size = s.heap.objs.size + 1 := Heap.size_push ..
        refine loopH_run (s₀ := _) (S := s.heap.objs.size) (l := l) (items := items) (ks := ks) (fun e he => ?_) ?_ (Nat.ne_of_gt hlS) ?_ hk hsz hb ?_ (items.size - 0) 0 _ rfl (Nat.zero_le _) ⟨⟨_, _, rfl⟩, ⟨_, Heap.get?_push_size _ rfl, rfl, rfl⟩, hl1.push _, ?_, fun z_ z_ z_ z_ e => Heap.get?_push_of_some _ e⟩
        · obtain ⟨x, o, vs, q0, q1, q2, q3⟩ := hd e he
          have hx := Heap.lt_size q1
          exact ⟨x, o, vs, q0, Nat.ne_of_lt hx, fun q => Nat.ne_of_lt (Nat.lt_succ_of_lt hx) (q.trans hsz1), Heap.get?_push_of_some _ q1, q2, q3⟩
        · exact fun q => Nat.ne_of_lt (Nat.lt_succ_self _) (q.trans hsz1)
        · exact fun q => Nat.ne_of_lt (Nat.lt_succ_of_lt hlS) (q.trans hsz1)
        · rintro s' ⟨h', tk, rfl⟩ hS' hold
          show wpAny _ _ _ _ _ _
          refine wpAny_pure ?_
          show wpAny _ _ (ret Value.none) _ _ _
          refine wpAny_pure ⟨rfl, h', tk, rfl, hS', fun b o hb e => ?_⟩
          exact hold b o (Nat.ne_of_lt hb) (fun q => Nat.ne_of_lt (Nat.lt_succ_of_lt hb) (q.trans hsz1)) (Heap.get?_push_of_some _ e)
        · have hget : ((s.heap.push { cls := .type "set", dict := none, data := .set #[] 0 (.fresh 0 0 led) }).push { cls := .type "list_iterator", data := .fields #[.ref l, .int 0 0] }).get? s.heap.objs.size
              = some { cls := .type "set", dict := none, data := .set #[] 0 (.fresh 0 0 led) } := Heap.get?_push_of_some _ hS
          exact SetOf_congr ((setObjOf_fresh (knd := mixKind prog w) led).setOf hget (by unfold scanBound; (exact Nat.le_add_left ..))) (fun z_ => rfl) rfl
      · cases r₂ with
        | error e => exact hr₂
        | ok fl₂ =>
          cases fl₂ with
          | ret r =>
            obtain ⟨rfl, h', tk, rfl, hS', hk'⟩ := hr₂
            repeat (any_goals (first | assumption | wp_step))
            exact h _ _ hS' hk'
          | _ => exact hr₂.elim
    | _ => exact hr.elim
end
end Mine.Internal
end

section
open PySem PySem.W PySem.Calls PyProof.Rows
set_option Elab.async false
set_option maxRecDepth 100000
set_option linter.unusedVariables false
set_option linter.unusedSimpArgs false
namespace Mine.Internal
theorem VRs.keys {Z : ZM} : ∀ {ks : List Key} {vs : List Value}, VRs Z (kav ks) vs → ∀ (i : Nat) (v : Value), vs[i]? = some v → ∃ k : Key, ks[i]? = some k ∧ Key.is k v = true
  | [], _, .nil, i, v, e => by simp at e
  | k :: ks, _, .cons h hs, 0, v, e => ⟨k, rfl, by cases e; exact Key.vr_is h⟩
  | k :: ks, _, .cons h hs, i + 1, v, e => hs.keys i v e
section
variable {c : Cx} {ρ : AEnv} {H : AHs} {X : AX} {QV : AV → AEnv → AHs → Prop} {a : AV} {ks : List Key} {i : Nat} {M : AM} {d : Addr}
theorem TC.setList (hl : LV H a (kav ks)) (hn : ks.length ≤ 4000) (h : ∀ d, QV (.ref d) ρ (one d (oSet c.prog c.w (metK ks)) :: H)) : TC c (.val (.type "set")) [a] ρ H QV X := fun Z s fv vs S hf hv => by
  cases hf
  cases hv with | cons h1 h2 => cases h2; exact (by
    obtain ⟨l, us, rfl, hL, e2⟩ := hl.isList S h1
    have hsz : us.size = ks.length := by have := e2.toArr; rw [this]; exact List.length_map ..
    refine setListH S.hdlA hL (fun j v e => e2.keys j v (by rw [Array.getElem?_toList]; exact e)) hsz (by have : scanBound = 4096 := rfl; lia) fun h' tk hS hk => ?_
    obtain ⟨o, es, ep, t, e1, ex, ed, h1, h2, h3, h4, h5⟩ := hS
    exact ⟨_, ρ, _, Z, .refl _, .val, S.new (d := oSet c.prog c.w (metK ks)) (fun b o e => hk b o (Heap.lt_size e) e) rfl rfl S.fresh e1 ⟨es, ep, t, by
      obtain ⟨_, _, _, _⟩ := o; cases ex.1; cases ex.2.1; cases ex.2.2; cases ed; rfl, h1, fun k => (decide_eq_true_iff (p := k ∈ metK ks)).symm.trans (h2 k), h3, h4, h5⟩, h _⟩)
theorem TC.lenSet (hi : H[i]? = some M) (hd : M d = some (oSet c.prog c.w ks)) (h : QV (.int ks.length) ρ H) : TC c (.val (.builtin "len")) [.ref d] ρ H QV X := fun Z s fv vs S hf hv => by
  cases hf
  cases hv with | cons h1 h2 => cases h2; cases h1; exact (by
    obtain ⟨o, e1, es, ep, t, rfl, h1, h2, h3, h4, h5⟩ := S.read hi hd
    exact call_len_set e1 ⟨rfl, rfl, rfl⟩ rfl h4 (by have : scanBound = 4096 := rfl; omega) (Post.now (S.tok _) (by rw [h5]; exact .int) h))
end
section
variable {F : Fm} {ρ : AEnv} {H : AHs} {X : AX} {QV : AV → AEnv → AHs → Prop} {a : AV} {ks : List Key} {i : Nat} {M : AM} {d : Addr}
theorem WC.setL (hl : LV H a (kav ks)) (hn : ks.length ≤ 4000) (h : ∀ d, QV (.ref d) ρ (one d (oSet F.g.prog F.g.w (metK ks)) :: H)) : WC F (.val (.type "set")) [a] ρ H QV X := ⟨fun c q => TC.setList hl hn fun d => q.os ▸ h d⟩
theorem WC.lenS (hi : H[i]? = some M) (hd : M d = some (oSet F.g.prog F.g.w ks)) (h : QV (.int ks.length) ρ H) : WC F (.val (.builtin "len")) [.ref d] ρ H QV X := ⟨fun c q => TC.lenSet hi (q.os ▸ hd) h⟩
end
end Mine.Internal
end

section
open PySem PyProof.Rows
set_option Elab.async false
set_option maxRecDepth 100000
set_option linter.unusedVariables false
set_option linter.unusedSimpArgs false
namespace Mine.Internal
abbrev SM := StateT SortSt Sem
noncomputable def lft (pre : Array Keyed) (pend : Array (Nat × Nat × Nat)) (st : SortSt) : SortSt := SortSt.mk' (kindOf st) (pre ++ arrOf st) pend (gallopOf st) (failedOf st)
noncomputable def Com (pre : Array Keyed) (pend : Array (Nat × Nat × Nat)) {α : Type} (P : α → Prop) (m m0 : SM α) : Prop := ∃ m1 : SM { a // P a }, m0 = m1 >>= (fun a => pure a.1) ∧ ∀ st, m.run (lft pre pend st) = m1.run st >>= fun p => pure (p.1.1, lft pre pend p.2)
section
variable {pre : Array Keyed} {pend : Array (Nat × Nat × Nat)} {α β : Type} {P : α → Prop} {P' : β → Prop}
theorem Com.ret {a : α} (h : P a) : Com pre pend P (pure a : SM α) (pure a) := ⟨pure ⟨a, h⟩, by rw [pure_bind], fun st => by simp [StateT.run_pure]⟩
theorem Com.seq {m m0 : SM α} {f f0 : α → SM β} (h : Com pre pend P m m0) (hf : ∀ a, P a → Com pre pend P' (f a) (f0 a)) : Com pre pend P' (m >>= f) (m0 >>= f0) := by
  obtain ⟨m1, e1, h1⟩ := h
  have hf' : ∀ a : { a // P a }, ∃ g : SM { b // P' b }, f0 a.1 = g >>= (fun b => pure b.1) ∧ ∀ st, (f a.1).run (lft pre pend st) = g.run st >>= fun p => pure (p.1.1, lft pre pend p.2) := fun a => hf a.1 a.2
  refine ⟨m1 >>= fun a => (hf' a).choose, ?_, fun st => ?_⟩
  · rw [e1, bind_assoc, bind_assoc]
    refine bind_congr fun a => ?_
    rw [pure_bind]
    exact (hf' a).choose_spec.1
  · rw [StateT.run_bind, StateT.run_bind, h1 st, bind_assoc, bind_assoc]
    refine bind_congr fun p => ?_
    rw [pure_bind]
    exact (hf' p.1).choose_spec.2 p.2
theorem Com.up {m : Sem α} : Com pre pend (fun z_ => True) (liftM m : SM α) (liftM m) := by
  have e : (liftM m : SM α) = (StateT.lift m : SM α) := rfl
  rw [e]
  refine ⟨StateT.lift (m >>= fun a => pure ⟨a, trivial⟩), ?_, fun st => ?_⟩
  · funext st
    show (StateT.lift m : SM α).run st = ((StateT.lift (m >>= fun a => pure ⟨a, trivial⟩) : SM { a : α // True }) >>= fun a => pure a.1).run st
    rw [StateT.run_bind, StateT.run_lift, StateT.run_lift, bind_assoc, bind_assoc]
    refine bind_congr fun a => ?_
    rw [pure_bind, pure_bind]; rfl
  · rw [StateT.run_lift, StateT.run_lift, bind_assoc, bind_assoc]
    refine bind_congr fun a => ?_
    rw [pure_bind, pure_bind]
theorem Com.ite {b : Prop} [Decidable b] {m n m0 n0 : SM α} (h1 : Com pre pend P m m0) (h2 : Com pre pend P n n0) : Com pre pend P (if b then m else n) (if b then m0 else n0) := by
  split <;> assumption
noncomputable def keepsI (I : β → Prop) : ForInStep β → Prop
  | .done b => I b
  | .yield b => I b
theorem Com.each {I : β → Prop} {f f0 : Nat → β → SM (ForInStep β)} (h : ∀ x b, I b → Com pre pend (keepsI I) (f x b) (f0 x b)) : ∀ (l : List Nat) (b : β), I b → Com pre pend I (forIn l b f) (forIn l b f0)
  | [], b, hb => by rw [List.forIn_nil, List.forIn_nil]; exact Com.ret hb
  | x :: l, b, hb => by
    rw [List.forIn_cons, List.forIn_cons]
    refine Com.seq (h x b hb) fun r hr => ?_
    cases r with
    | done b => exact Com.ret hr
    | yield b => exact Com.each h l b hr
theorem Com.range (I : β → Prop) {a b : Nat} {c : β} {f f0 : Nat → β → SM (ForInStep β)} (hc : I c) (h : ∀ x b, I b → Com pre pend (keepsI I) (f x b) (f0 x b)) : Com pre pend I (forIn [a:b] c f) (forIn [a:b] c f0) := by
  rw [Std.Legacy.Range.forIn_eq_forIn_range', Std.Legacy.Range.forIn_eq_forIn_range']
  exact Com.each h _ _ hc
theorem Com.state {f f0 : SortSt → SM β} (h : ∀ st, Com pre pend P' (f (lft pre pend st)) (f0 st)) : Com pre pend P' ((get : SM SortSt) >>= f) ((get : SM SortSt) >>= f0) := by
  refine ⟨(get : SM SortSt) >>= fun st => (h st).choose, ?_, fun st => ?_⟩
  · rw [bind_assoc]
    exact bind_congr fun st => (h st).choose_spec.1
  · rw [StateT.run_bind, StateT.run_bind, StateT.run_get, StateT.run_get, pure_bind, pure_bind]
    exact (h st).choose_spec.2 st
theorem Com.edit {g g0 : SortSt → SortSt} (h : ∀ st, g (lft pre pend st) = lft pre pend (g0 st)) : Com pre pend (fun z_ => True) (modify g : SM PUnit) (modify g0) := by
  refine ⟨(modify g0 : SM PUnit) >>= fun a => pure ⟨a, trivial⟩, by rw [bind_assoc]; simp only [pure_bind, bind_pure], fun st => ?_⟩
  rw [StateT.run_bind, StateT.run_modify, StateT.run_modify, pure_bind, StateT.run_pure, pure_bind, h st]
theorem Com.lt (x y : Keyed) : Com pre pend (fun z_ => True) (lt' x y) (lt' x y) := by
  rw [lt'_eq]
  refine Com.state fun st => ?_
  refine Com.seq Com.up fun r z_ => ?_
  cases r with
  | ok b => exact Com.ret trivial
  | error e => exact Com.seq (Com.edit fun z_ => rfl) fun z_ z_ => Com.ret trivial
theorem Com.elem {arr : Array Keyed} {i j : Nat} (h : (pre ++ arr)[i]? = arr[j]?) : Com pre pend (fun z_ => True) (elem' (pre ++ arr) i) (elem' arr j) := by
  rw [elem'_eq, elem'_eq, h]
  cases arr[j]? with
  | some p => exact Com.ret trivial
  | none => exact Com.up
theorem pre_at (i : Nat) (arr : Array Keyed) : (pre ++ arr)[pre.size + i]? = arr[i]? := by
  rw [Array.getElem?_append_right (Nat.le_add_right ..), Nat.add_sub_cancel_left]
theorem Com.ltAt {a b i j : Nat} (ha : a = pre.size + i) (hb : b = pre.size + j) : Com pre pend (fun z_ => True) (ltAt' a b) (ltAt' i j) := by
  subst ha hb
  rw [ltAt'_eq, ltAt'_eq]
  refine Com.state fun st => ?_
  exact Com.seq (Com.elem (pre_at i _)) fun x z_ => Com.seq (Com.elem (pre_at j _)) fun y z_ => Com.lt x y
theorem pre_swap (xs : Array Keyed) (i j : Nat) : (pre ++ xs).swapIfInBounds (pre.size + i) (pre.size + j) = pre ++ xs.swapIfInBounds i j := by
  refine Array.ext_getElem? fun k => ?_
  by_cases hi : i < xs.size
  · by_cases hj : j < xs.size
    · rw [getElem?_swapIB (by rw [Array.size_append]; exact Nat.add_lt_add_left hi _) (by rw [Array.size_append]; exact Nat.add_lt_add_left hj _)]
      rw [pre_at, pre_at]
      by_cases hk : k < pre.size
      · rw [if_neg (Nat.ne_of_gt (Nat.lt_of_lt_of_le hk (Nat.le_add_right ..))), if_neg (Nat.ne_of_gt (Nat.lt_of_lt_of_le hk (Nat.le_add_right ..))), Array.getElem?_append_left hk, Array.getElem?_append_left hk]
      · obtain ⟨k, rfl⟩ : ∃ k', k = pre.size + k' := ⟨k - pre.size, (Nat.add_sub_cancel' (Nat.le_of_not_lt hk)).symm⟩
        rw [pre_at, pre_at, getElem?_swapIB hi hj]
        simp only [Nat.add_left_cancel_iff]
    · rw [Array.swapIfInBounds_def, Array.swapIfInBounds_def]
      rw [dif_pos (by rw [Array.size_append]; exact Nat.add_lt_add_left hi _), dif_neg (by rw [Array.size_append]; exact fun q => hj (Nat.lt_of_add_lt_add_left q)), dif_pos hi, dif_neg hj]
  · rw [Array.swapIfInBounds_def, Array.swapIfInBounds_def, dif_neg (by rw [Array.size_append]; exact fun q => hi (Nat.lt_of_add_lt_add_left q)), dif_neg hi]
theorem pre_swaps {γ : Type} (p q p0 q0 : γ → Nat) : ∀ (l : List γ) (xs : Array Keyed), (∀ k ∈ l, p k = pre.size + p0 k ∧ q k = pre.size + q0 k) → l.foldl (fun a k => a.swapIfInBounds (p k) (q k)) (pre ++ xs) = pre ++ l.foldl (fun a k => a.swapIfInBounds (p0 k) (q0 k)) xs
  | [], xs, _ => rfl
  | k :: l, xs, h => by
    obtain ⟨h1, h2⟩ := h k (List.mem_cons_self ..)
    rw [List.foldl_cons, List.foldl_cons, h1, h2, pre_swap]
    exact pre_swaps p q p0 q0 l _ fun k hk => h k (List.mem_cons_of_mem _ hk)
theorem Com.reverse {a b i j : Nat} (ha : a = pre.size + i) (hb : b = pre.size + j) : Com pre pend (fun z_ => True) (reverseSlice' a b) (reverseSlice' i j) := by
  subst ha hb
  rw [reverseSlice'_eq, reverseSlice'_eq]
  refine Com.edit fun st => ?_
  show setArr (lft pre pend st) (mirror (pre ++ arrOf st) _ _ _) = lft pre pend (setArr st (mirror (arrOf st) i j ((j - i) / 2)))
  have e : mirror (pre ++ arrOf st) (pre.size + i) (pre.size + j) ((pre.size + j - (pre.size + i)) / 2) = pre ++ mirror (arrOf st) i j ((j - i) / 2) := by
    unfold mirror
    rw [Nat.add_sub_add_left]
    refine pre_swaps _ _ _ _ _ _ fun k hk => ?_
    have hk := Nat.lt_of_lt_of_le (List.mem_range.mp hk) (Nat.le_trans (Nat.div_le_self _ 2) (Nat.sub_le j i))
    exact ⟨Nat.add_assoc .., by rw [Nat.add_sub_assoc (Nat.lt_of_le_of_lt (Nat.zero_le k) hk), Nat.add_sub_assoc (Nat.le_sub_one_of_lt hk)]⟩
  rw [e]; rfl
theorem Com.move {a b i j : Nat} (ha : a = pre.size + i) (hb : b = pre.size + j) : Com pre pend (fun z_ => True) (moveDown' a b) (moveDown' i j) := by
  subst ha hb
  rw [moveDown'_eq, moveDown'_eq]
  refine Com.edit fun st => ?_
  show setArr (lft pre pend st) (bubble (pre ++ arrOf st) _ _) = lft pre pend (setArr st (bubble (arrOf st) i (i - j)))
  have e : bubble (pre ++ arrOf st) (pre.size + i) (pre.size + i - (pre.size + j)) = pre ++ bubble (arrOf st) i (i - j) := by
    unfold bubble
    rw [Nat.add_sub_add_left]
    refine pre_swaps _ _ _ _ _ _ fun k hk => ?_
    have hk := Nat.lt_of_lt_of_le (List.mem_range.mp hk) (Nat.sub_le i j)
    have h1 : pre.size + i - k = pre.size + (i - k) := Nat.add_sub_assoc (Nat.le_of_lt hk) _
    exact ⟨h1, by rw [h1, Nat.add_sub_assoc (Nat.sub_pos_of_lt hk)]⟩
  rw [e]; rfl
theorem Com.wp {prog : Program} {w : World} {A : Around} {E : Value → Shared → Prop} {s : Shared} {m m0 : SM α} {Q : α → SortSt → Prop} {st : SortSt} (h : Com pre pend P m m0) (hw : wpS (model prog w) A E s m0 (fun r st' => Q r (lft pre pend st')) st) :
    wpS (model prog w) A E s m Q (lft pre pend st) := by
  obtain ⟨m1, e, h1⟩ := h
  subst e
  have e2 : m.run (lft pre pend st) = (m1 >>= fun a => (pure a.1 : SM α)).run st >>= fun p => pure (p.1, lft pre pend p.2) := by
    rw [h1 st, StateT.run_bind, bind_assoc]
    refine bind_congr fun p => ?_
    rw [StateT.run_pure, pure_bind]
  unfold wpS at hw ⊢
  rw [e2]
  exact wpAny_bind (wpAny_mono hw (fun p s' h' => wpAny_pure h') fun z_ z_ e => e)
end
end Mine.Internal
end

section
open PySem PyProof.Rows
set_option Elab.async false
set_option maxRecDepth 100000
set_option linter.unusedVariables false
set_option linter.unusedSimpArgs false
namespace Mine.Internal
section
variable {pre : Array Keyed} {pend : Array (Nat × Nat × Nat)}
theorem com_binary {n ok : Nat} : Com pre pend (fun z_ => True) (binarySort' pre.size n ok) (binarySort' 0 n ok) := by
  rw [binarySort'_eq, binarySort'_eq]
  refine Com.seq (Com.range (fun z_ => True) trivial fun k b z_ => ?_) fun r z_ => ?_
  · refine Com.seq (Com.range (fun z_ => True) trivial fun x b z_ => ?_) fun r z_ => ?_
    · dsimp only
      refine Com.ite (Com.ret trivial) (Com.seq (Com.ltAt (by lia) (by lia)) fun a z_ => ?_)
      cases a with
      | none => exact Com.ret trivial
      | some b => exact Com.ite (Com.ret trivial) (Com.ret trivial)
    · obtain ⟨r, l, q⟩ := r
      cases r with
      | none => exact Com.seq (Com.move (by lia) (by lia)) fun z_ z_ => Com.ret trivial
      | some b => exact Com.ret trivial
  · obtain ⟨r, u⟩ := r
    cases r <;> exact Com.ret trivial
noncomputable def atOne (s : Option (Option Nat) × Nat) : Prop := 1 ≤ s.2
noncomputable def atTwo (s : Option (Option Nat) × Nat × Nat) : Prop := s.2.2 + 1 ≤ s.2.1
theorem com_asc {a nrem : Nat} (ha : 1 ≤ a) : Com pre pend atOne (forIn [a:nrem] ((none, a) : Option (Option Nat) × Nat) fun z_ s => do
    let x ← ltAt' (pre.size + s.2) (pre.size + s.2 - 1)
    match x with
    | some smaller => if smaller = true then pure (ForInStep.done (none, s.2)) else pure (ForInStep.yield (none, s.2 + 1))
    | _ => pure (ForInStep.done (some none, s.2))) (ascLoop a nrem) := by
  unfold ascLoop
  refine Com.range atOne ha fun x b hb => ?_
  have hb : 1 ≤ b.2 := hb
  refine Com.seq (Com.ltAt rfl (Nat.add_sub_assoc hb _)) fun a z_ => ?_
  cases a with
  | none => exact Com.ret hb
  | some q => exact Com.ite (Com.ret hb) (Com.ret (Nat.le_succ_of_le hb))
theorem Com.dup {α : Type} {P : α → Prop} {b : Prop} [Decidable b] {m n m0 n0 : SM α} (hn : Com pre pend P n n0) (h : Com pre pend P n n0 → Com pre pend P m m0) : Com pre pend P (if b then m else n) (if b then m0 else n0) := Com.ite (h hn) hn
theorem com_countRun {nrem : Nat} : Com pre pend (fun z_ => True) (countRun' pre.size nrem) (countRun' 0 nrem) := by
  rw [countRun0_eq, countRun'_eq]
  refine Com.seq (com_asc (Nat.le_refl 1)) fun s hs => ?_
  obtain ⟨r, n⟩ := s
  have hs : 1 ≤ n := hs
  dsimp only
  cases r with
  | some r => exact Com.ret trivial
  | none =>
    refine Com.ite (Com.ret trivial) (Com.dup ?_ fun hd => ?_)
    · unfold descPart descLoop
      refine Com.seq Com.up fun z_ z_ => Com.seq (Com.range atTwo (show 0 + 1 ≤ n + 1 by (exact Nat.lt_succ_of_lt (by assumption))) fun x s hs => ?_) fun s hs => ?_
      · obtain ⟨r, m, q⟩ := s
        have hs : q + 1 ≤ m := hs
        dsimp only
        have h1 := Nat.add_sub_assoc (Nat.le_trans (Nat.le_add_left 1 q) hs) pre.size
        refine Com.seq (Com.ltAt rfl h1) fun a z_ => ?_
        cases a with
        | none => exact Com.ret hs
        | some b =>
          refine Com.ite (Com.ite (Com.seq (Com.reverse (Nat.add_sub_assoc hs _) rfl) fun z_ z_ => Com.ret (show 0 + 1 ≤ m + 1 by (exact Nat.le_add_left ..))) (Com.ret (show 0 + 1 ≤ m + 1 by (exact Nat.le_add_left ..)))) ?_
          refine Com.seq (Com.ltAt h1 rfl) fun a z_ => ?_
          cases a with
          | none => exact Com.ret hs
          | some b => exact Com.ite (Com.ret hs) (Com.ret (show q + 1 + 1 ≤ m + 1 by (exact Nat.lt_succ_of_le (by assumption))))
      · obtain ⟨r, m, q⟩ := s
        have hs : q + 1 ≤ m := hs
        dsimp only
        cases r with
        | some r => exact Com.ret trivial
        | none =>
          refine Com.dup ?_ fun ht => Com.seq (Com.reverse (Nat.add_sub_assoc hs _) rfl) fun z_ z_ => ht
          unfold tail3
          refine Com.seq (Com.reverse rfl rfl) fun z_ z_ => Com.seq (com_asc (show 1 ≤ m by (exact Nat.zero_lt_of_lt (by assumption)))) fun s z_ => ?_
          obtain ⟨r, n⟩ := s
          cases r <;> exact Com.ret trivial
    · refine Com.seq (Com.ltAt rfl (Nat.add_sub_assoc hs _)) fun a z_ => ?_
      cases a with
      | none => exact Com.ret trivial
      | some b => exact Com.ite (Com.ret trivial) (Com.seq (Com.reverse rfl rfl) fun z_ z_ => hd)
end
end Mine.Internal
end

section
open PySem PyProof.Rows
set_option Elab.async false
set_option maxRecDepth 100000
set_option linter.unusedVariables false
set_option linter.unusedSimpArgs false
namespace Mine.Internal
noncomputable def gallop' : Bool → Keyed → Array Keyed → Nat → Nat → Nat → SM (Option Nat) := sortPriv% PySem.Builtin.gallop
theorem gallop'_eq (left : Bool) (key : Keyed) (arr : Array Keyed) (base n hint : Nat) : gallop' left key arr base n hint = (do
  let beyond (i : Nat) : SM (Option Bool) := do
    let x ← elem' arr (base + i)
    if left then lt' x key else return (← lt' key x).map (!·)
  let mut lastofs := 0
  let mut ofs := 1
  let mut lo := 0
  let mut hi := 0
  let some right ← beyond hint | return none
  if right then
    let maxofs := n - hint
    for _ in [0:n] do
      if ofs ≥ maxofs then break
      let some more ← beyond (hint + ofs) | return none
      if !more then break
      lastofs := ofs
      ofs := 2 * ofs + 1
    lo := hint + lastofs + 1
    hi := hint + min ofs maxofs
  else
    let maxofs := hint + 1
    for _ in [0:n] do
      if ofs ≥ maxofs then break
      let some found ← beyond (hint - ofs) | return none
      if found then break
      lastofs := ofs
      ofs := 2 * ofs + 1
    lo := hint + 1 - min ofs maxofs
    hi := hint - lastofs
  for _ in [0:n] do
    if lo ≥ hi then break
    let m := lo + (hi - lo) / 2
    let some more ← beyond m | return none
    if more then lo := m + 1 else hi := m
  return some hi) := rfl
noncomputable def IntK (p : Keyed) : Prop := ∃ n t, p.1 = .int n t
noncomputable def kk (p : Keyed) : Int := numOf p.1
section
variable {prog : Program} {w : World} {A : Around} {E : Value → Shared → Prop} {s : Shared}
theorem wpS_lt {st : SortSt} {x y : Keyed} {Q : Option Bool → SortSt → Prop} (hk : kindOf st = oneType') (hx : IntK x) (hy : IntK y) (h : Q (some (decide (kk x < kk y))) st) : wpS (model prog w) A E s (lt' x y) Q st := by
  obtain ⟨x1, x2⟩ := x
  obtain ⟨y1, y2⟩ := y
  obtain ⟨a, t, rfl⟩ := hx
  obtain ⟨b, u, rfl⟩ := hy
  rw [lt'_eq]
  refine wpS_bind (wpS_get ?_)
  rw [hk, keyLt'_oneType]
  refine wpS_bind (wpS_lift (wpAny_attempt (oneLt_int ⟨rfl, ?_⟩)))
  exact wpS_pure h
theorem wpS_elem {st : SortSt} {arr : Array Keyed} {i : Nat} {Q : Keyed → SortSt → Prop} (hi : i < arr.size) (h : Q arr[i] st) : wpS (model prog w) A E s (elem' arr i) Q st := by
  rw [elem'_eq, getElem?_pos arr i hi]
  exact wpS_pure h
noncomputable def Pd (left : Bool) (k : Int) (x : Int) : Bool := if left then decide (x < k) else decide (x ≤ k)
theorem Pd_mono {left : Bool} {k x y : Int} (h : x ≤ y) (hp : Pd left k y = true) : Pd left k x = true := by
  unfold Pd at *
  cases left
  · simp only [Bool.false_eq_true, if_false, decide_eq_true_eq] at *; (exact Int.le_trans (by assumption) (by assumption))
  · simp only [if_true, decide_eq_true_eq] at *; lia
noncomputable def bey (left : Bool) (key : Keyed) (arr : Array Keyed) (base i : Nat) : SM (Option Bool) := do
  let x ← elem' arr (base + i)
  if left then lt' x key else return (← lt' key x).map (!·)
structure Gal (prog : Program) (w : World) (A : Around) (E : Value → Shared → Prop) (s : Shared) (left : Bool) (key : Keyed) (arr : Array Keyed) (base n : Nat) (st : SortSt) (P : Nat → Bool) : Prop where
  ask : ∀ i, i < n → ∀ Q : Option Bool → SortSt → Prop, Q (some (P i)) st → wpS (model prog w) A E s (bey left key arr base i) Q st
  mono : ∀ p q, p ≤ q → q < n → P q = true → P p = true
variable {st : SortSt} {left : Bool} {key : Keyed} {arr : Array Keyed} {base n : Nat} {P : Nat → Bool}
theorem gal_of (hk : kindOf st = oneType') (hkey : IntK key) (harr : ∀ x ∈ arr.toList, IntK x) (hbn : base + n ≤ arr.size) (hs : ∀ p q, p ≤ q → q < n → K arr (base + p) ≤ K arr (base + q)) : Gal prog w A E s left key arr base n st fun i => Pd left (kk key) (K arr (base + i)) where
  mono := fun p q h1 h2 h3 => Pd_mono (hs p q h1 h2) h3
  ask := by
    intro i hi Q hq
    have hsz : base + i < arr.size := by lia
    refine wpS_bind (wpS_elem hsz ?_)
    have hx : IntK arr[base + i] := harr _ (by simp)
    have e : K arr (base + i) = kk arr[base + i] := by unfold K kk; rw [getElem?_pos arr _ hsz]
    rw [e] at hq
    cases left with
    | true => exact wpS_lt hk hx hkey hq
    | false =>
      refine wpS_bind (wpS_lt hk hkey hx (wpS_pure ?_))
      have : (Option.map (fun x => !x) (some (decide (kk key < kk arr[base + i])))) = some (Pd false (kk key) (kk arr[base + i])) := by
        show some (!decide (kk key < kk arr[base + i])) = some (decide (kk arr[base + i] ≤ kk key))
        congr 1
        rw [← decide_not]
        exact decide_eq_decide.mpr Int.not_lt
      rw [this]; exact hq
theorem mid_lt {lo hi : Nat} (h : lo < hi) : lo + (hi - lo) / 2 < hi := by
  have := Nat.add_lt_add_left (Nat.div_lt_self (Nat.sub_pos_of_lt h) (show 1 < 2 by decide)) lo
  rwa [Nat.add_sub_cancel' (Nat.le_of_lt h)] at this
theorem Gal.bisect (G : Gal prog w A E s left key arr base n st P) {lo hi : Nat} {Q : Option (Option Nat) × Nat × Nat → SortSt → Prop} (h0 : lo ≤ hi) (h1 : hi ≤ n) (hl : ∀ j, j < lo → P j = true) (hr : ∀ j, hi ≤ j → j < n → P j = false)
    (h : ∀ r, r ≤ n → (∀ j, j < r → P j = true) → (∀ j, r ≤ j → j < n → P j = false) → Q (none, r, r) st) :
    wpS (model prog w) A E s (forIn [0:n] ((none, lo, hi) : Option (Option Nat) × Nat × Nat) fun z_ s =>
      if s.2.1 ≥ s.2.2 then pure (ForInStep.done (none, s.2.1, s.2.2))
      else do
        let x ← bey left key arr base (s.2.1 + (s.2.2 - s.2.1) / 2)
        match x with
        | some more => if more = true then pure (ForInStep.yield (none, s.2.1 + (s.2.2 - s.2.1) / 2 + 1, s.2.2)) else pure (ForInStep.yield (none, s.2.1, s.2.1 + (s.2.2 - s.2.1) / 2))
        | _ => pure (ForInStep.done (some none, s.2.1, s.2.2))) Q st := by
  refine wpS_forRange (I := fun x c st' => st' = st ∧ ∃ lo hi, c = (none, lo, hi) ∧ lo ≤ hi ∧ hi ≤ n ∧ hi + x ≤ n + lo ∧ (∀ j, j < lo → P j = true) ∧ (∀ j, hi ≤ j → j < n → P j = false)) ?_ ?_ ⟨rfl, lo, hi, rfl, h0, h1, Nat.le_trans h1 (Nat.le_add_right ..), hl, hr⟩
  · rintro x c st' _ hx ⟨rfl, lo, hi, rfl, h0, h1, h2, hl, hr⟩
    dsimp only
    by_cases hge : lo ≥ hi
    · rw [if_pos hge]
      have : lo = hi := Nat.le_antisymm h0 hge
      subst this
      exact wpS_pure (h lo h1 hl hr)
    · rw [if_neg hge]
      have m1 := Nat.le_add_right lo ((hi - lo) / 2)
      have m2 := mid_lt (Nat.lt_of_not_le hge)
      generalize lo + (hi - lo) / 2 = m at m1 m2 ⊢
      refine wpS_bind (G.ask _ (Nat.lt_of_lt_of_le m2 h1) _ ?_)
      dsimp only
      cases hp : P m with
      | true =>
        rw [if_pos rfl]
        exact wpS_pure ⟨rfl, _, hi, rfl, m2, h1, Nat.le_trans (Nat.succ_le_succ h2) (Nat.add_le_add_left (Nat.succ_le_succ m1) n), fun j hj => G.mono j _ (Nat.le_of_lt_succ hj) (Nat.lt_of_lt_of_le m2 h1) hp, hr⟩
      | false =>
        rw [if_neg Bool.false_ne_true]
        refine wpS_pure ⟨rfl, lo, _, rfl, m1, Nat.le_of_lt (Nat.lt_of_lt_of_le m2 h1), Nat.le_trans (Nat.le_of_eq (Nat.add_right_comm m x 1)) (Nat.le_trans (Nat.add_le_add_right m2 x) h2), hl, fun j h3 h4 => ?_⟩
        cases hj : P j with
        | false => rfl
        | true => rw [G.mono _ j h3 h4 hj] at hp; cases hp
  · rintro c st' ⟨rfl, lo, hi, rfl, h0, h1, h2, hl, hr⟩
    have : lo = hi := Nat.le_antisymm h0 (Nat.le_of_add_le_add_right (Nat.le_trans h2 (Nat.le_of_eq (Nat.add_comm n lo))))
    subst this
    exact h lo h1 hl hr
theorem dbl_lt {x of : Nat} (h : x + 1 ≤ of) : of < 2 * of + 1 ∧ x + 1 + 1 ≤ 2 * of + 1 :=
  have h2 := Nat.le_mul_of_pos_left of (show 0 < 2 by decide)
  ⟨Nat.lt_succ_of_le h2, Nat.succ_le_succ (Nat.le_trans h h2)⟩
theorem wpS_gallop {hint : Nat} {Q : Option Nat → SortSt → Prop} (G : Gal prog w A E s left key arr base n st P) (hh : hint < n)
    (h : ∀ r, r ≤ n → (∀ j, j < r → P j = true) → (∀ j, r ≤ j → j < n → P j = false) → Q (some r) st) : wpS (model prog w) A E s (gallop' left key arr base n hint) Q st := by
  rw [gallop'_eq]
  dsimp only
  refine wpS_bind (G.ask hint hh _ ?_)
  dsimp only
  have hle := Nat.le_of_lt hh
  cases hp : P hint with
  | true =>
    rw [if_pos rfl]
    refine wpS_bind (wpS_mono (wpS_forRange (I := fun x c st' => st' = st ∧ ∃ la of, c = (none, la, of) ∧ la < of ∧ x + 1 ≤ of ∧ hint + la < n ∧ P (hint + la) = true)
      (Q := fun c st' => st' = st ∧ ∃ la of, c = (none, la, of) ∧ la < of ∧ hint + la < n ∧ P (hint + la) = true ∧ (n - hint ≤ of ∨ (hint + of < n ∧ P (hint + of) = false))) ?_ ?_ ⟨rfl, 0, 1, rfl, Nat.le_refl _, Nat.le_refl _, hh, hp⟩) ?_)
    · rintro x c st' _ hx ⟨rfl, la, of, rfl, h0, h1, h2, h3⟩
      dsimp only
      by_cases hge : of ≥ n - hint
      · rw [if_pos hge]; exact wpS_pure ⟨rfl, la, of, rfl, h0, h2, h3, .inl hge⟩
      · rw [if_neg hge]
        have hb : hint + of < n := Nat.add_lt_of_lt_sub' (Nat.lt_of_not_le hge)
        refine wpS_bind (G.ask _ hb _ ?_)
        dsimp only
        cases hq : P (hint + of) with
        | true => rw [if_neg (by simp)]; exact wpS_pure ⟨rfl, of, 2 * of + 1, rfl, (dbl_lt h1).1, (dbl_lt h1).2, hb, hq⟩
        | false => rw [if_pos (by simp)]; exact wpS_pure ⟨rfl, la, of, rfl, h0, h2, h3, .inr ⟨hb, hq⟩⟩
    · rintro c st' ⟨rfl, la, of, rfl, h0, h1, h2, h3⟩
      exact ⟨rfl, la, of, rfl, h0, h2, h3, .inl (Nat.le_trans (Nat.sub_le ..) (Nat.le_of_lt h1))⟩
    · rintro c st' ⟨rfl, la, of, rfl, h0, h2, h3, h4⟩
      dsimp only
      refine wpS_bind (G.bisect (Nat.add_le_add_left (Nat.le_min.mpr ⟨h0, Nat.le_sub_of_add_le' h2⟩) hint) (Nat.le_trans (Nat.add_le_add_left (Nat.min_le_right ..) hint) (Nat.le_of_eq (Nat.add_sub_cancel' hle))) (fun j hj => G.mono j _ (Nat.le_of_lt_succ hj) h2 h3) (fun j h5 h6 => ?_) fun r h5 h6 h7 => wpS_pure (h r h5 h6 h7))
      rcases h4 with h4 | ⟨h4, h8⟩
      · rw [Nat.min_eq_right h4, Nat.add_sub_cancel' hle] at h5
        exact absurd h5 (Nat.not_le.mpr h6)
      · rw [Nat.min_eq_left (Nat.le_sub_of_add_le' (Nat.le_of_lt h4))] at h5
        cases hj : P j with
        | false => rfl
        | true => rw [G.mono _ j h5 h6 hj] at h8; cases h8
  | false =>
    rw [if_neg Bool.false_ne_true]
    refine wpS_bind (wpS_mono (wpS_forRange (I := fun x c st' => st' = st ∧ ∃ la of, c = (none, la, of) ∧ la < of ∧ x + 1 ≤ of ∧ la ≤ hint ∧ P (hint - la) = false)
      (Q := fun c st' => st' = st ∧ ∃ la of, c = (none, la, of) ∧ la < of ∧ la ≤ hint ∧ P (hint - la) = false ∧ (hint + 1 ≤ of ∨ (of ≤ hint ∧ P (hint - of) = true))) ?_ ?_ ⟨rfl, 0, 1, rfl, Nat.le_refl _, Nat.le_refl _, Nat.zero_le _, hp⟩) ?_)
    · rintro x c st' _ hx ⟨rfl, la, of, rfl, h0, h1, h2, h3⟩
      dsimp only
      by_cases hge : of ≥ hint + 1
      · rw [if_pos hge]; exact wpS_pure ⟨rfl, la, of, rfl, h0, h2, h3, .inl hge⟩
      · rw [if_neg hge]
        have hb : of ≤ hint := Nat.le_of_not_lt hge
        refine wpS_bind (G.ask _ (Nat.lt_of_le_of_lt (Nat.sub_le ..) hh) _ ?_)
        dsimp only
        cases hq : P (hint - of) with
        | true => rw [if_pos rfl]; exact wpS_pure ⟨rfl, la, of, rfl, h0, h2, h3, .inr ⟨hb, hq⟩⟩
        | false => rw [if_neg Bool.false_ne_true]; exact wpS_pure ⟨rfl, of, 2 * of + 1, rfl, (dbl_lt h1).1, (dbl_lt h1).2, hb, hq⟩
    · rintro c st' ⟨rfl, la, of, rfl, h0, h1, h2, h3⟩
      exact ⟨rfl, la, of, rfl, h0, h2, h3, .inl (Nat.le_trans hh (Nat.le_of_lt h1))⟩
    · rintro c st' ⟨rfl, la, of, rfl, h0, h2, h3, h4⟩
      dsimp only
      have hlo : hint + 1 - min of (hint + 1) ≤ hint - la := by
        have := Nat.sub_le_sub_left (Nat.le_min.mpr ⟨h0, Nat.succ_le_succ h2⟩) (hint + 1)
        rwa [Nat.add_sub_add_right] at this
      refine wpS_bind (G.bisect hlo (Nat.le_trans (Nat.sub_le ..) hle) (fun j hj => ?_) (fun j h5 h6 => ?_) fun r h5 h6 h7 => wpS_pure (h r h5 h6 h7))
      · rcases h4 with h4 | ⟨h4, h8⟩
        · rw [Nat.min_eq_right h4, Nat.sub_self] at hj; exact absurd hj (Nat.not_lt_zero j)
        · rw [Nat.min_eq_left (Nat.le_succ_of_le h4), Nat.succ_sub h4] at hj
          exact G.mono j _ (Nat.le_of_lt_succ hj) (Nat.lt_of_le_of_lt (Nat.sub_le ..) hh) h8
      · cases hj : P j with
        | false => rfl
        | true => rw [G.mono _ j h5 h6 hj] at h3; cases h3
end
end Mine.Internal
end

section
open PySem PyProof.Rows
set_option Elab.async false
set_option maxRecDepth 100000
set_option linter.unusedVariables false
set_option linter.unusedSimpArgs false
namespace Mine.Internal
section
variable {α : Type} {R : α → α → Prop}
structure MI (R : α → α → Prop) (T O A B : List α) : Prop where
  perm : (O ++ A ++ B).Perm T
  a : (O ++ A).Pairwise R
  b : (O ++ B).Pairwise R
variable {T O A B C : List α}
theorem MI.swap (h : MI R T O A B) : MI R T O B A := ⟨by
  refine List.Perm.trans ?_ h.perm
  rw [List.append_assoc, List.append_assoc]
  exact List.Perm.append_left _ List.perm_append_comm, h.b, h.a⟩
theorem MI.takeA (h : MI R T O (C ++ A) B) (hc : ∀ c ∈ C, ∀ x ∈ B, R c x) : MI R T (O ++ C) A B := by
  refine ⟨?_, ?_, ?_⟩
  · have := h.perm
    rwa [← List.append_assoc] at this
  · rw [List.append_assoc]; exact h.a
  · rw [List.pairwise_append]
    have h1 := h.a
    rw [← List.append_assoc] at h1
    refine ⟨(List.pairwise_append.mp h1).1, (List.pairwise_append.mp h.b).2.1, fun x hx y hy => ?_⟩
    rcases List.mem_append.mp hx with hx | hx
    · exact (List.pairwise_append.mp h.b).2.2 x hx y hy
    · exact hc x hx y hy
theorem MI.takeB (h : MI R T O A (C ++ B)) (hc : ∀ c ∈ C, ∀ x ∈ A, R c x) : MI R T (O ++ C) A B := (h.swap.takeA hc).swap
theorem MI.endA (h : MI R T O [] B) : (O ++ B).Perm T ∧ (O ++ B).Pairwise R := ⟨by have := h.perm; rwa [List.append_nil] at this, h.b⟩
theorem MI.endB (h : MI R T O A []) : (O ++ A).Perm T ∧ (O ++ A).Pairwise R := ⟨by have := h.perm; rwa [List.append_nil] at this, h.a⟩
theorem MI.endBA (h : MI R T O A B) (hc : ∀ x ∈ B, ∀ y ∈ A, R x y) : (O ++ B ++ A).Perm T ∧ (O ++ B ++ A).Pairwise R := by
  refine ⟨h.swap.perm, ?_⟩
  rw [List.pairwise_append]
  refine ⟨h.b, (List.pairwise_append.mp h.a).2.1, fun x hx y hy => ?_⟩
  rcases List.mem_append.mp hx with hx | hx
  · exact (List.pairwise_append.mp h.a).2.2 x hx y hy
  · exact hc x hx y hy
end
noncomputable def leK (x y : Keyed) : Prop := kk x ≤ kk y
noncomputable def geK (x y : Keyed) : Prop := kk y ≤ kk x
structure ML (a b out : Array Keyed) (ia ib : Nat) : Prop where
  ha : ia ≤ a.size
  hb : ib ≤ b.size
  mi : MI leK (a.toList ++ b.toList) out.toList (a.toList.drop ia) (b.toList.drop ib)
theorem drop_at {a : Array Keyed} {i : Nat} (h : i < a.size) : a.toList.drop i = a[i] :: a.toList.drop (i + 1) := by
  rw [List.drop_eq_getElem_cons (by simpa using h)]; simp
theorem drop_chunk {l : List Keyed} {i k : Nat} : l.drop i = (l.drop i).take k ++ l.drop (i + k) := by
  rw [← List.drop_drop, List.take_append_drop]
theorem ext_list {a : Array Keyed} {i j : Nat} : (a.extract i j).toList = (a.toList.drop i).take (j - i) := by
  rw [Array.toList_extract, List.extract_eq_take_drop]
theorem ext_all {a : Array Keyed} {i : Nat} : (a.extract i a.size).toList = a.toList.drop i := by
  rw [ext_list, List.take_of_length_le (by simp)]
theorem sorted_drop {l : List Keyed} (h : l.Pairwise leK) (i : Nat) : (l.drop i).Pairwise leK := h.sublist (List.drop_sublist ..)
theorem head_le {x y : Keyed} {l : List Keyed} (h : (x :: l).Pairwise leK) (hy : kk y ≤ kk x) : ∀ z ∈ x :: l, leK y z := fun z hz => by
  rcases List.mem_cons.mp hz with rfl | hz
  · exact hy
  · exact Int.le_trans hy ((List.pairwise_cons.mp h).1 z hz)
structure MPre (a b : Array Keyed) : Prop where
  sa : a.toList.Pairwise leK
  sb : b.toList.Pairwise leK
  na : 1 ≤ a.size
  nb : 1 ≤ b.size
  ia : ∀ x ∈ a.toList, IntK x
  ib : ∀ x ∈ b.toList, IntK x
  first : ∀ x ∈ a.toList, leK (b[0]'nb) x
  last : ∀ x ∈ b.toList, leK x (a[a.size - 1]'(Nat.sub_lt na Nat.one_pos))
section
variable {a b out : Array Keyed} {ia ib : Nat}
theorem ML.pushB (h : ML a b out ia ib) (hb : ib < b.size) (hc : ∀ z ∈ a.toList.drop ia, leK b[ib] z) : ML a b (out.push b[ib]) ia (ib + 1) := ⟨h.ha, hb, by
  have := h.mi
  rw [drop_at hb] at this
  rw [Array.toList_push]
  exact MI.takeB (C := [b[ib]]) this fun c hc' => by rw [List.mem_singleton.mp hc']; exact hc⟩
theorem ML.pushA (h : ML a b out ia ib) (ha : ia < a.size) (hc : ∀ z ∈ b.toList.drop ib, leK a[ia] z) : ML a b (out.push a[ia]) (ia + 1) ib := ⟨ha, h.hb, by
  have := h.mi
  rw [drop_at ha] at this
  rw [Array.toList_push]
  exact MI.takeA (C := [a[ia]]) this fun c hc' => by rw [List.mem_singleton.mp hc']; exact hc⟩
theorem ML.chunkA (h : ML a b out ia ib) {k : Nat} (hk : ia + k ≤ a.size) (hc : ∀ c ∈ (a.toList.drop ia).take k, ∀ z ∈ b.toList.drop ib, leK c z) : ML a b (out ++ a.extract ia (ia + k)) (ia + k) ib := ⟨hk, h.hb, by
  have := h.mi
  rw [drop_chunk (k := k) (l := a.toList)] at this
  rw [Array.toList_append, ext_list, Nat.add_sub_cancel_left]
  exact MI.takeA this hc⟩
theorem ML.chunkB (h : ML a b out ia ib) {k : Nat} (hk : ib + k ≤ b.size) (hc : ∀ c ∈ (b.toList.drop ib).take k, ∀ z ∈ a.toList.drop ia, leK c z) : ML a b (out ++ b.extract ib (ib + k)) ia (ib + k) := ⟨h.ha, hk, by
  have := h.mi
  rw [drop_chunk (k := k) (l := b.toList)] at this
  rw [Array.toList_append, ext_list, Nat.add_sub_cancel_left]
  exact MI.takeB this hc⟩
noncomputable def MOut (a b m : Array Keyed) : Prop := m.toList.Perm (a.toList ++ b.toList) ∧ m.toList.Pairwise leK
theorem ML.doneB (h : ML a b out ia ib) (e : ib = b.size) : MOut a b (out ++ a.extract ia a.size ++ b.extract ib b.size) := by
  unfold MOut
  have := h.mi
  subst e
  rw [Array.toList_append, Array.toList_append, ext_all, ext_all, List.drop_of_length_le (l := b.toList) (by simp), List.append_nil]
  rw [List.drop_of_length_le (l := b.toList) (by simp)] at this
  exact this.endB
theorem ML.doneA (h : ML a b out ia ib) (e : ia = a.size) : MOut a b (out ++ a.extract ia a.size ++ b.extract ib b.size) := by
  unfold MOut
  have := h.mi
  subst e
  rw [Array.toList_append, Array.toList_append, ext_all, ext_all, List.drop_of_length_le (by simp), List.append_nil]
  rw [List.drop_of_length_le (l := a.toList) (by simp)] at this
  exact this.endA
theorem ML.lastA (P : MPre a b) (h : ML a b out ia ib) (e : ia + 1 = a.size) : MOut a b (out ++ b.extract ib b.size ++ a.extract ia a.size) := by
  unfold MOut
  rw [Array.toList_append, Array.toList_append, ext_all, ext_all]
  refine h.mi.endBA fun x hx y hy => ?_
  rw [drop_at (by (exact Nat.le_of_eq (by assumption))), List.drop_of_length_le (by simp; (exact Nat.le_of_eq (Eq.symm (by assumption))))] at hy
  rw [List.mem_singleton.mp hy]
  have := P.last x (List.mem_of_mem_drop hx)
  have e2 : a.size - 1 = ia := by rw [← e]; rfl
  simpa only [e2] using this
theorem ML.start (P : MPre a b) : ML a b #[b[0]'P.nb] 0 1 := ⟨Nat.zero_le _, P.nb, by
  have h0 : MI leK (a.toList ++ b.toList) [] a.toList ([b[0]'P.nb] ++ b.toList.drop 1) := by
    have e : [b[0]'P.nb] ++ b.toList.drop 1 = b.toList := by
      have := drop_at (a := b) (i := 0) P.nb
      rw [List.drop_zero] at this
      exact this.symm
    rw [e]
    exact ⟨.refl _, P.sa, P.sb⟩
  exact h0.takeB fun c hc => by rw [List.mem_singleton.mp hc]; exact P.first⟩
end
end Mine.Internal
end

section
open PySem PyProof.Rows
set_option Elab.async false
set_option maxRecDepth 100000
set_option linter.unusedVariables false
set_option linter.unusedSimpArgs false
namespace Mine.Internal
noncomputable def setMinGallop' : Nat → SM Unit := sortPriv% PySem.Builtin.setMinGallop
noncomputable def mergeLo' : Array Keyed → Array Keyed → SM (Array Keyed) := sortPriv% PySem.Builtin.mergeLo
abbrev setGallop (st : SortSt) (g : Nat) : SortSt := SortSt.mk' (kindOf st) (arrOf st) (pendingOf st) g (failedOf st)
theorem setMinGallop'_eq (g : Nat) : setMinGallop' g = modify (fun s => setGallop s g) := rfl
section
variable {prog : Program} {w : World} {A : Around} {E : Value → Shared → Prop} {s : Shared} {a b : Array Keyed}
noncomputable def SameG (st st' : SortSt) : Prop := ∃ g, st' = setGallop st g
theorem SameG.refl {st : SortSt} : SameG st st := ⟨gallopOf st, rfl⟩
theorem SameG.set {st st' : SortSt} (h : SameG st st') (g : Nat) : SameG st (setGallop st' g) := by
  obtain ⟨g', rfl⟩ := h; exact ⟨g, rfl⟩
theorem SameG.kind {st st' : SortSt} (h : SameG st st') : kindOf st' = kindOf st := by obtain ⟨g, rfl⟩ := h; rfl
theorem K_kk {xs : Array Keyed} {i : Nat} (h : i < xs.size) : K xs i = kk xs[i] := by unfold K kk; rw [getElem?_pos xs i h]
theorem K_sorted {xs : Array Keyed} (h : xs.toList.Pairwise leK) {i j : Nat} (hij : i ≤ j) (hj : j < xs.size) : K xs i ≤ K xs j := by
  rw [K_kk hj, K_kk (show i < xs.size by (exact Nat.lt_of_le_of_lt (by assumption) (by assumption)))]
  rcases Nat.lt_or_eq_of_le hij with h1 | h1
  · have := List.pairwise_iff_getElem.mp h i j (by simp; (exact Nat.lt_of_le_of_lt (by assumption) (by assumption))) (by simpa using hj) h1
    simpa [leK] using this
  · subst h1; exact Int.le_refl _
theorem mem_at {xs : Array Keyed} {i : Nat} {z : Keyed} (h : z ∈ xs.toList.drop i) : ∃ j, i + j < xs.size ∧ kk z = K xs (i + j) := by
  obtain ⟨j, hj, rfl⟩ := List.getElem_of_mem h
  have h2 := hj
  rw [List.length_drop, Array.length_toList] at h2
  have hj' : i + j < xs.size := Nat.add_lt_of_lt_sub' h2
  exact ⟨j, hj', by rw [K_kk hj', List.getElem_drop, Array.getElem_toList]⟩
theorem mem_chunk {xs : Array Keyed} {i k : Nat} {z : Keyed} (h : z ∈ (xs.toList.drop i).take k) : ∃ j, j < k ∧ i + j < xs.size ∧ kk z = K xs (i + j) := by
  obtain ⟨j, hj, rfl⟩ := List.getElem_of_mem h
  have h2 := hj
  rw [List.length_take, List.length_drop, Array.length_toList] at h2
  have hj' : i + j < xs.size := Nat.add_lt_of_lt_sub' (Nat.lt_of_lt_of_le h2 (Nat.min_le_right ..))
  exact ⟨j, Nat.lt_of_lt_of_le h2 (Nat.min_le_left ..), hj', by rw [K_kk hj', List.getElem_take, List.getElem_drop, Array.getElem_toList]⟩
theorem slice_gal {st : SortSt} {xs : Array Keyed} {left : Bool} {key : Keyed} {i : Nat} (hk : kindOf st = oneType') (hkey : IntK key) (hx : ∀ x ∈ xs.toList, IntK x) (hs : xs.toList.Pairwise leK) (hi : i ≤ xs.size) :
    Gal prog w A E s left key xs i (xs.size - i) st fun j => Pd left (kk key) (K xs (i + j)) :=
  gal_of hk hkey hx (Nat.le_of_eq (Nat.add_sub_cancel' hi)) fun p q h1 h2 => K_sorted hs (Nat.add_le_add_left h1 i) (Nat.add_lt_of_lt_sub' h2)
structure Lv (a b : Array Keyed) (X : Nat) (out : Array Keyed) (ia ib : Nat) : Prop where
  ml : ML a b out ia ib
  la : ia + 1 < a.size
  lb : ib < b.size
  px : X ≤ ia + ib
noncomputable def Ended (a b : Array Keyed) (r : Option (Array Keyed)) : Prop := ∃ m, r = some m ∧ MOut a b m
theorem mem_arr {xs : Array Keyed} {i : Nat} (h : i < xs.size) : xs[i] ∈ xs.toList := by simp
abbrev L7 := Option (Array Keyed) × Array Keyed × Nat × Nat × Nat × Nat × Nat
noncomputable def lo3 (a b : Array Keyed) (ia g ac k : Nat) (out : Array Keyed) (ib : Nat) : SM (ForInStep L7) := do
  let x ← elem' a ia
  if (ia + 1 + 1 == a.size) = true then pure (ForInStep.done (some (out.push x ++ b.extract ib b.size ++ a.extract (ia + 1) a.size), out.push x, ia + 1, ib, g, ac, k))
  else if (decide (ac < 7) && decide (k < 7)) = true then pure (ForInStep.done (none, out.push x, ia + 1, ib, g, ac, k))
  else pure (ForInStep.yield (none, out.push x, ia + 1, ib, g, ac, k))
noncomputable def lo2 (a b : Array Keyed) (ib g ac bc : Nat) (out : Array Keyed) (ia : Nat) : SM (ForInStep L7) := do
  let y ← elem' b ib
  if (ib + 1 == b.size) = true then pure (ForInStep.done (some (out.push y ++ a.extract ia a.size ++ b.extract (ib + 1) b.size), out.push y, ia, ib + 1, g, ac, bc))
  else do
    let x ← elem' a ia
    let q ← gallop' true x b (ib + 1) (b.size - (ib + 1)) 0
    match q with
    | some k =>
      if k > 0 then
        if (ib + 1 + k == b.size) = true then pure (ForInStep.done (some (out.push y ++ b.extract (ib + 1) (ib + 1 + k) ++ a.extract ia a.size ++ b.extract (ib + 1 + k) b.size), out.push y ++ b.extract (ib + 1) (ib + 1 + k), ia, ib + 1 + k, g, ac, k))
        else lo3 a b ia g ac k (out.push y ++ b.extract (ib + 1) (ib + 1 + k)) (ib + 1 + k)
      else lo3 a b ia g ac k (out.push y) (ib + 1)
    | _ => pure (ForInStep.done (some (out.push y ++ a.extract ia a.size ++ b.extract (ib + 1) b.size), out.push y, ia, ib + 1, g, ac, bc))
noncomputable def lo1 (a b : Array Keyed) (out : Array Keyed) (ia ib ac bc g : Nat) : SM (ForInStep L7) := do
  setMinGallop' g
  let y ← elem' b ib
  let q ← gallop' false y a ia (a.size - ia) 0
  match q with
  | some k =>
    if k > 0 then
      if (ia + k + 1 == a.size) = true then pure (ForInStep.done (some (out ++ a.extract ia (ia + k) ++ b.extract ib b.size ++ a.extract (ia + k) a.size), out ++ a.extract ia (ia + k), ia + k, ib, g, k, bc))
      else if (ia + k == a.size) = true then pure (ForInStep.done (some (out ++ a.extract ia (ia + k) ++ a.extract (ia + k) a.size ++ b.extract ib b.size), out ++ a.extract ia (ia + k), ia + k, ib, g, k, bc))
      else lo2 a b ib g k bc (out ++ a.extract ia (ia + k)) (ia + k)
    else lo2 a b ib g k bc out ia
  | _ => pure (ForInStep.done (some (out ++ a.extract ia a.size ++ b.extract ib b.size), out, ia, ib, g, ac, bc))
theorem Lv.no {X ia ib : Nat} {out : Array Keyed} (L : Lv a b X out ia ib) (h : a.size + b.size ≤ X) : False :=
  absurd (Nat.lt_of_lt_of_le (Nat.add_lt_add (Nat.lt_of_succ_lt L.la) L.lb) h) (Nat.not_lt.mpr L.px)
theorem into_rest {i k j n : Nat} (h : i + k + j < n) : k + j < n - i := Nat.lt_sub_of_add_lt (by rw [Nat.add_comm, ← Nat.add_assoc]; exact h)
noncomputable def LQ (a b : Array Keyed) (X : Nat) (st st' : SortSt) (r : ForInStep L7) : Prop := match r with
  | .done c => SameG st st' ∧ (Ended a b c.1 ∨ c.1 = none ∧ Lv a b X c.2.1 c.2.2.1 c.2.2.2.1)
  | .yield c => SameG st st' ∧ c.1 = none ∧ Lv a b X c.2.1 c.2.2.1 c.2.2.2.1
theorem lo3_spec {st st1 : SortSt} {X ia ib g ac k : Nat} {out : Array Keyed} (P : MPre a b) (hS : SameG st st1) (L : Lv a b X out ia ib) (hc : ∀ z ∈ b.toList.drop ib, leK (a[ia]'(Nat.lt_of_succ_lt L.la)) z) : wpS (model prog w) A E s (lo3 a b ia g ac k out ib) (fun r st' => LQ a b X st st' r) st1 := by
  have la := L.la
  have la' : ia < a.size := Nat.lt_of_succ_lt la
  refine wpS_bind (wpS_elem la' ?_)
  have M := L.ml.pushA la' hc
  by_cases e : (ia + 1 + 1 == a.size) = true
  · rw [if_pos e]; exact wpS_pure ⟨hS, .inl ⟨_, rfl, M.lastA P (eq_of_beq e)⟩⟩
  · rw [if_neg e]
    have L' : Lv a b X (out.push a[ia]) (ia + 1) ib := ⟨M, Nat.lt_of_le_of_ne la fun q => e (beq_of_eq q), L.lb, Nat.le_trans L.px (Nat.add_le_add_right (Nat.le_succ ia) ib)⟩
    split
    · exact wpS_pure ⟨hS, .inr ⟨rfl, L'⟩⟩
    · exact wpS_pure ⟨hS, rfl, L'⟩
theorem lo2_spec {st st1 : SortSt} {X ia ib g ac bc : Nat} {out : Array Keyed} (hk : kindOf st = oneType') (P : MPre a b) (hS : SameG st st1) (L : Lv a b X out ia ib) (hc : ∀ z ∈ a.toList.drop ia, leK (b[ib]'L.lb) z) : wpS (model prog w) A E s (lo2 a b ib g ac bc out ia) (fun r st' => LQ a b X st st' r) st1 := by
  have lb := L.lb
  have la' : ia < a.size := Nat.lt_of_succ_lt L.la
  refine wpS_bind (wpS_elem lb ?_)
  have M := L.ml.pushB lb hc
  by_cases e : (ib + 1 == b.size) = true
  · rw [if_pos e]; exact wpS_pure ⟨hS, .inl ⟨_, rfl, M.doneB (eq_of_beq e)⟩⟩
  rw [if_neg e]
  have lb' : ib + 1 < b.size := Nat.lt_of_le_of_ne lb fun q => e (beq_of_eq q)
  refine wpS_bind (wpS_elem la' (wpS_bind (wpS_gallop (slice_gal (hS.kind.trans hk) (P.ia _ (mem_arr la')) P.ib P.sb (Nat.le_of_lt lb')) (Nat.sub_pos_of_lt lb') fun k hr h1 h2 => ?_)))
  dsimp only
  have h1 : ∀ j, j < k → K b (ib + 1 + j) < kk a[ia] := fun j hj => of_decide_eq_true (h1 j hj)
  have h2 : ∀ j, k ≤ j → j < b.size - (ib + 1) → kk a[ia] ≤ K b (ib + 1 + j) := fun j h3 h4 => Int.not_lt.mp (of_decide_eq_false (h2 j h3 h4))
  have hd : ∀ z ∈ b.toList.drop (ib + 1 + k), leK a[ia] z := fun z hz => by
    obtain ⟨j, hj, e⟩ := mem_at hz
    show kk a[ia] ≤ kk z
    rw [e, Nat.add_assoc]
    exact h2 (k + j) (Nat.le_add_right ..) (into_rest hj)
  by_cases hk0 : k > 0
  · rw [if_pos hk0]
    have hle : ib + 1 + k ≤ b.size := Nat.add_le_of_le_sub' (Nat.le_of_lt lb') hr
    have M2 := M.chunkB (k := k) hle fun c hc z hz => by
      obtain ⟨j, hj, _, e⟩ := mem_chunk hc
      have h3 := head_le (drop_at la' ▸ sorted_drop P.sa ia) (y := c) (by rw [e]; exact Int.le_of_lt (h1 j hj)) z
      rw [← drop_at la'] at h3
      exact h3 hz
    by_cases e : (ib + 1 + k == b.size) = true
    · rw [if_pos e]; exact wpS_pure ⟨hS, .inl ⟨_, rfl, M2.doneB (eq_of_beq e)⟩⟩
    · rw [if_neg e]
      exact lo3_spec P hS ⟨M2, L.la, Nat.lt_of_le_of_ne hle fun q => e (beq_of_eq q), Nat.le_trans L.px (Nat.add_le_add_left (Nat.le_trans (Nat.le_succ ib) (Nat.le_add_right ..)) ia)⟩ hd
  · rw [if_neg hk0]
    have k0 : k = 0 := Nat.eq_zero_of_not_pos hk0
    subst k0
    exact lo3_spec P hS ⟨M, L.la, lb', Nat.le_succ_of_le L.px⟩ hd
theorem lo1_spec {st st1 : SortSt} {X ia ib g ac bc : Nat} {out : Array Keyed} (hk : kindOf st = oneType') (P : MPre a b) (hS : SameG st st1) (L : Lv a b X out ia ib) : wpS (model prog w) A E s (lo1 a b out ia ib ac bc g) (fun r st' => LQ a b X st st' r) st1 := by
  have lb := L.lb
  have la' : ia < a.size := Nat.lt_of_succ_lt L.la
  unfold lo1
  rw [setMinGallop'_eq]
  refine wpS_bind (wpS_modify ?_)
  have hS := hS.set g
  generalize setGallop st1 g = st1 at hS
  refine wpS_bind (wpS_elem lb (wpS_bind (wpS_gallop (slice_gal (hS.kind.trans hk) (P.ib _ (mem_arr lb)) P.ia P.sa (Nat.le_of_lt la')) (Nat.sub_pos_of_lt la') fun k hr h1 h2 => ?_)))
  dsimp only
  have h1 : ∀ j, j < k → K a (ia + j) ≤ kk b[ib] := fun j hj => of_decide_eq_true (h1 j hj)
  have h2 : ∀ j, k ≤ j → j < a.size - ia → kk b[ib] ≤ K a (ia + j) := fun j h3 h4 => Int.le_of_lt (Int.not_le.mp (of_decide_eq_false (h2 j h3 h4)))
  have hd : ∀ z ∈ a.toList.drop (ia + k), leK b[ib] z := fun z hz => by
    obtain ⟨j, hj, e⟩ := mem_at hz
    show kk b[ib] ≤ kk z
    rw [e, Nat.add_assoc]
    exact h2 (k + j) (Nat.le_add_right ..) (into_rest hj)
  by_cases hk0 : k > 0
  · rw [if_pos hk0]
    have hle : ia + k ≤ a.size := Nat.add_le_of_le_sub' (Nat.le_of_lt la') hr
    have M2 := L.ml.chunkA (k := k) hle fun c hc z hz => by
      obtain ⟨j, hj, _, e⟩ := mem_chunk hc
      have h3 := head_le (drop_at lb ▸ sorted_drop P.sb ib) (y := c) (by rw [e]; exact h1 j hj) z
      rw [← drop_at lb] at h3
      exact h3 hz
    by_cases e : (ia + k + 1 == a.size) = true
    · rw [if_pos e]; exact wpS_pure ⟨hS, .inl ⟨_, rfl, M2.lastA P (eq_of_beq e)⟩⟩
    · rw [if_neg e]
      by_cases e2 : (ia + k == a.size) = true
      · rw [if_pos e2]; exact wpS_pure ⟨hS, .inl ⟨_, rfl, M2.doneA (eq_of_beq e2)⟩⟩
      · rw [if_neg e2]
        exact lo2_spec hk P hS ⟨M2, Nat.lt_of_le_of_ne (Nat.lt_of_le_of_ne hle fun q => e2 (beq_of_eq q)) fun q => e (beq_of_eq q), lb, Nat.le_trans L.px (Nat.add_le_add_right (Nat.le_add_right ..) ib)⟩ hd
  · rw [if_neg hk0]
    have k0 : k = 0 := Nat.eq_zero_of_not_pos hk0
    subst k0
    exact lo2_spec hk P hS L hd
abbrev L6 := Option (Array Keyed) × Array Keyed × Nat × Nat × Nat × Nat
abbrev L5 := Option (Array Keyed) × Array Keyed × Nat × Nat × Nat
noncomputable def lo0 (a b : Array Keyed) (g : Nat) (out : Array Keyed) (ia ib ac bc : Nat) : SM (ForInStep L6) := do
  let y ← elem' b ib
  let x ← elem' a ia
  let q ← lt' y x
  match q with
  | some v =>
    if v = true then do
      let z ← elem' b ib
      if (ib + 1 == b.size) = true then pure (ForInStep.done (some (out.push z ++ a.extract ia a.size ++ b.extract (ib + 1) b.size), out.push z, ia, ib + 1, 0, bc + 1))
      else if bc + 1 ≥ g then pure (ForInStep.done (none, out.push z, ia, ib + 1, 0, bc + 1))
      else pure (ForInStep.yield (none, out.push z, ia, ib + 1, 0, bc + 1))
    else do
      let z ← elem' a ia
      if (ia + 1 + 1 == a.size) = true then pure (ForInStep.done (some (out.push z ++ b.extract ib b.size ++ a.extract (ia + 1) a.size), out.push z, ia + 1, ib, ac + 1, 0))
      else if ac + 1 ≥ g then pure (ForInStep.done (none, out.push z, ia + 1, ib, ac + 1, 0))
      else pure (ForInStep.yield (none, out.push z, ia + 1, ib, ac + 1, 0))
  | _ => pure (ForInStep.done (some (out ++ a.extract ia a.size ++ b.extract ib b.size), out, ia, ib, ac, bc))
noncomputable def loG (a b : Array Keyed) (c : L7) : SM (ForInStep L7) :=
  if c.2.2.2.2.1 > 1 then lo1 a b c.2.1 c.2.2.1 c.2.2.2.1 c.2.2.2.2.2.1 c.2.2.2.2.2.2 (c.2.2.2.2.1 - 1) else lo1 a b c.2.1 c.2.2.1 c.2.2.2.1 c.2.2.2.2.2.1 c.2.2.2.2.2.2 c.2.2.2.2.1
noncomputable def loU (c : L7) : SM (ForInStep L5) := match c.1 with
  | some r => pure (ForInStep.done (some r, c.2.1, c.2.2.1, c.2.2.2.1, c.2.2.2.2.1))
  | none => do
    setMinGallop' (c.2.2.2.2.1 + 1)
    pure (ForInStep.yield (none, c.2.1, c.2.2.1, c.2.2.2.1, c.2.2.2.2.1 + 1))
noncomputable def loT (a b : Array Keyed) (g : Nat) (c : L6) : SM (ForInStep L5) := match c.1 with
  | some r => pure (ForInStep.done (some r, c.2.1, c.2.2.1, c.2.2.2.1, g))
  | none => do
    liftM (rule "list.sort.gallop")
    let d ← forIn [:a.size + b.size] ((none, c.2.1, c.2.2.1, c.2.2.2.1, g + 1, c.2.2.2.2.1, c.2.2.2.2.2) : L7) fun z_ d => loG a b d
    loU d
noncomputable def loS (a b : Array Keyed) (c : L5) : SM (ForInStep L5) := do
  let d ← forIn [:a.size + b.size] ((none, c.2.1, c.2.2.1, c.2.2.2.1, 0, 0) : L6) fun z_ d => lo0 a b c.2.2.2.2 d.2.1 d.2.2.1 d.2.2.2.1 d.2.2.2.2.1 d.2.2.2.2.2
  loT a b c.2.2.2.2 d
noncomputable def L5Q (a b : Array Keyed) (X : Nat) (st st' : SortSt) (r : ForInStep L5) : Prop := match r with
  | .done c => SameG st st' ∧ Ended a b c.1
  | .yield c => SameG st st' ∧ c.1 = none ∧ Lv a b (X + 1) c.2.1 c.2.2.1 c.2.2.2.1
noncomputable def L6Q (a b : Array Keyed) (X : Nat) (st1 st' : SortSt) (r : ForInStep L6) : Prop := match r with
  | .done c => st' = st1 ∧ (Ended a b c.1 ∨ c.1 = none ∧ Lv a b (X + 1) c.2.1 c.2.2.1 c.2.2.2.1)
  | .yield c => st' = st1 ∧ c.1 = none ∧ Lv a b (X + 1) c.2.1 c.2.2.1 c.2.2.2.1
theorem lo0_spec {st1 : SortSt} {X g ia ib ac bc : Nat} {out : Array Keyed} (hk : kindOf st1 = oneType') (P : MPre a b) (L : Lv a b X out ia ib) : wpS (model prog w) A E s (lo0 a b g out ia ib ac bc) (fun r st' => L6Q a b X st1 st' r) st1 := by
  have la := L.la
  have lb := L.lb
  have la' : ia < a.size := Nat.lt_of_succ_lt la
  refine wpS_bind (wpS_elem lb (wpS_bind (wpS_elem la' (wpS_bind (wpS_lt hk (P.ib _ (mem_arr lb)) (P.ia _ (mem_arr la')) ?_)))))
  by_cases hw : kk b[ib] < kk a[ia]
  · rw [decide_eq_true hw]
    refine wpS_bind (wpS_elem lb ?_)
    have M := L.ml.pushB lb (by
      rw [drop_at la']
      exact head_le (drop_at la' ▸ sorted_drop P.sa ia) (Int.le_of_lt hw))
    by_cases e : (ib + 1 == b.size) = true
    · rw [if_pos e]; exact wpS_pure ⟨rfl, .inl ⟨_, rfl, M.doneB (eq_of_beq e)⟩⟩
    · rw [if_neg e]
      have V : Lv a b (X + 1) (out.push b[ib]) ia (ib + 1) := ⟨M, la, Nat.lt_of_le_of_ne lb fun q => e (beq_of_eq q), Nat.succ_le_succ L.px⟩
      split
      · exact wpS_pure ⟨rfl, .inr ⟨rfl, V⟩⟩
      · exact wpS_pure ⟨rfl, rfl, V⟩
  · rw [decide_eq_false hw]
    refine wpS_bind (wpS_elem la' ?_)
    have M := L.ml.pushA la' (by
      rw [drop_at lb]
      exact head_le (drop_at lb ▸ sorted_drop P.sb ib) (Int.not_lt.mp hw))
    by_cases e : (ia + 1 + 1 == a.size) = true
    · rw [if_pos e]; exact wpS_pure ⟨rfl, .inl ⟨_, rfl, M.lastA P (eq_of_beq e)⟩⟩
    · rw [if_neg e]
      have V : Lv a b (X + 1) (out.push a[ia]) (ia + 1) ib := ⟨M, Nat.lt_of_le_of_ne la fun q => e (beq_of_eq q), lb, by rw [Nat.succ_add]; exact Nat.succ_le_succ L.px⟩
      split
      · exact wpS_pure ⟨rfl, .inr ⟨rfl, V⟩⟩
      · exact wpS_pure ⟨rfl, rfl, V⟩
theorem loU_spec {st st1 : SortSt} {X : Nat} {c : L7} (hS : SameG st st1) (h : Ended a b c.1 ∨ c.1 = none ∧ Lv a b (X + 1) c.2.1 c.2.2.1 c.2.2.2.1) : wpS (model prog w) A E s (loU c) (fun r st' => L5Q a b X st st' r) st1 := by
  unfold loU
  rcases h with ⟨m, e, hm⟩ | ⟨e, L⟩
  · rw [e]; exact wpS_pure ⟨hS, m, rfl, hm⟩
  · rw [e, setMinGallop'_eq]
    exact wpS_bind (wpS_modify (wpS_pure ⟨hS.set _, rfl, L⟩))
theorem loT_spec {st st1 : SortSt} {X g : Nat} {c : L6} (hk : kindOf st = oneType') (P : MPre a b) (hS : SameG st st1) (h : Ended a b c.1 ∨ c.1 = none ∧ Lv a b (X + 1) c.2.1 c.2.2.1 c.2.2.2.1) : wpS (model prog w) A E s (loT a b g c) (fun r st' => L5Q a b X st st' r) st1 := by
  unfold loT
  rcases h with ⟨m, e, hm⟩ | ⟨e, L⟩
  · rw [e]; exact wpS_pure ⟨hS, m, rfl, hm⟩
  · rw [e]
    refine wpS_bind (wpS_lift (wpAny_rule ⟨rfl, ?_⟩))
    refine wpS_bind (wpS_mono (wpS_forRange
      (I := fun z_ c st' => SameG st st' ∧ c.1 = none ∧ Lv a b (X + 1) c.2.1 c.2.2.1 c.2.2.2.1)
      (Q := fun c st' => SameG st st' ∧ (Ended a b c.1 ∨ c.1 = none ∧ Lv a b (X + 1) c.2.1 c.2.2.1 c.2.2.2.1)) ?_ (fun z_ z_ h => ⟨h.1, .inr h.2⟩) ⟨hS, rfl, L⟩) fun z_ z_ h => loU_spec h.1 h.2)
    intro x c st' _ _ h
    unfold loG
    split
    · exact wpS_mono (lo1_spec hk P h.1 h.2.2) fun r st' h => by cases r <;> exact h
    · exact wpS_mono (lo1_spec hk P h.1 h.2.2) fun r st' h => by cases r <;> exact h
theorem loS_spec {st st1 : SortSt} {X : Nat} {c : L5} (hk : kindOf st = oneType') (P : MPre a b) (hS : SameG st st1) (L : Lv a b X c.2.1 c.2.2.1 c.2.2.2.1) : wpS (model prog w) A E s (loS a b c) (fun r st' => L5Q a b X st st' r) st1 := by
  refine wpS_bind (wpS_mono (wpS_forRange
    (I := fun x c st' => st' = st1 ∧ c.1 = none ∧ Lv a b (X + x) c.2.1 c.2.2.1 c.2.2.2.1)
    (Q := fun c st' => st' = st1 ∧ (Ended a b c.1 ∨ c.1 = none ∧ Lv a b (X + 1) c.2.1 c.2.2.1 c.2.2.2.1)) ?_ (fun z_ z_ h => (h.2.2.no (Nat.le_add_left ..)).elim) ⟨rfl, rfl, L⟩) ?_)
  · rintro x c st' _ hx ⟨rfl, _, L⟩
    refine wpS_mono (lo0_spec (hS.kind.trans hk) P L) fun r st' h => ?_
    cases r with
    | done c => exact ⟨h.1, h.2.imp id fun q => ⟨q.1, q.2.ml, q.2.la, q.2.lb, Nat.le_trans (Nat.succ_le_succ (Nat.le_add_right X x)) q.2.px⟩⟩
    | yield c => exact h
  · rintro c st' ⟨rfl, h⟩
    exact loT_spec hk P hS h
noncomputable def loM (a b : Array Keyed) : SM (Array Keyed) := do
  rule "list.sort.merge-lo"
  let y ← elem' b 0
  if (1 == b.size) = true then pure (#[y] ++ a.extract 0 a.size ++ b.extract 1 b.size)
  else if (0 + 1 == a.size) = true then pure (#[y] ++ b.extract 1 b.size ++ a.extract 0 a.size)
  else do
    let st ← get
    let c ← forIn [:a.size + b.size] ((none, #[y], 0, 1, gallopOf st) : L5) fun z_ c => loS a b c
    match c.1 with
    | some r => pure r
    | none => unsupported "internal:list.sort.merge-bound"
set_option smartUnfolding false in
theorem mergeLo'_eq (a b : Array Keyed) : mergeLo' a b = loM a b := rfl
theorem wpS_mergeLo {st : SortSt} {Q : Array Keyed → SortSt → Prop} (hk : kindOf st = oneType') (P : MPre a b) (h : ∀ m st', SameG st st' → MOut a b m → Q m st') : wpS (model prog w) A E s (mergeLo' a b) Q st := by
  rw [mergeLo'_eq]
  refine wpS_bind (wpS_lift (wpAny_rule ⟨rfl, ?_⟩))
  refine wpS_bind (wpS_elem P.nb ?_)
  have m0 := ML.start P
  generalize (#[b[0]'P.nb] : Array Keyed) = out0 at m0
  by_cases e1 : (1 == b.size) = true
  · rw [if_pos e1]
    exact wpS_pure (h _ _ .refl (m0.doneB (eq_of_beq e1)))
  rw [if_neg e1]
  by_cases e2 : (0 + 1 == a.size) = true
  · rw [if_pos e2]
    exact wpS_pure (h _ _ .refl (m0.lastA P (eq_of_beq e2)))
  rw [if_neg e2]
  refine wpS_bind (wpS_get (wpS_bind (wpS_mono (wpS_forRange
    (I := fun x c st' => SameG st st' ∧ c.1 = none ∧ Lv a b x c.2.1 c.2.2.1 c.2.2.2.1)
    (Q := fun c st' => SameG st st' ∧ Ended a b c.1) ?_ (fun z_ z_ h => (h.2.2.no (Nat.le_refl _)).elim) ⟨.refl, rfl, ⟨m0, Nat.lt_of_le_of_ne P.na fun q => e2 (beq_of_eq q), Nat.lt_of_le_of_ne P.nb fun q => e1 (beq_of_eq q), Nat.zero_le _⟩⟩) ?_)))
  · intro X c st1 _ hX hc
    exact wpS_mono (loS_spec hk P hc.1 hc.2.2) fun r st' h => by cases r <;> exact h
  · rintro c st' ⟨hS, m, e, hm⟩
    rw [e]
    exact wpS_pure (h m st' hS hm)
end
end Mine.Internal
end

section
open PySem PyProof.Rows
set_option Elab.async false
set_option maxRecDepth 100000
set_option linter.unusedVariables false
set_option linter.unusedSimpArgs false
namespace Mine.Internal
noncomputable def mergeHi' : Array Keyed → Array Keyed → SM (Array Keyed) := sortPriv% PySem.Builtin.mergeHi
noncomputable def rv (xs : Array Keyed) (n : Nat) : List Keyed := (xs.toList.take n).reverse
theorem rv_at {xs : Array Keyed} {n : Nat} (h : 1 ≤ n) (hn : n ≤ xs.size) : rv xs n = xs[n - 1] :: rv xs (n - 1) := by
  obtain ⟨m, rfl⟩ : ∃ m, n = m + 1 := ⟨n - 1, (Nat.sub_add_cancel h).symm⟩
  unfold rv
  rw [List.take_add_one, List.getElem?_eq_getElem (by rw [Array.length_toList]; exact hn), List.reverse_append]
  simp
theorem rv_chunk {xs : Array Keyed} {m n : Nat} (h : m ≤ n) (hn : n ≤ xs.size) : rv xs n = (xs.extract m n).toList.reverse ++ rv xs m := by
  unfold rv
  rw [← List.reverse_append, ext_list]
  congr 1
  conv => lhs; rw [← List.take_append_drop m (xs.toList.take n)]
  rw [List.take_take, Nat.min_eq_left h, List.drop_take]
theorem rv_mem {xs : Array Keyed} {n : Nat} {z : Keyed} (hn : n ≤ xs.size) (h : z ∈ rv xs n) : ∃ j, j < n ∧ kk z = K xs j := by
  obtain ⟨j, hj, rfl⟩ := List.getElem_of_mem (List.mem_reverse.mp h)
  have h2 := hj
  rw [List.length_take] at h2
  have hj' : j < n := Nat.lt_of_lt_of_le h2 (Nat.min_le_left ..)
  exact ⟨j, hj', by rw [K_kk (show j < xs.size by (exact Nat.lt_of_lt_of_le (by assumption) (by assumption)))]; simp⟩
theorem ext_rv {xs : Array Keyed} {n : Nat} : (xs.extract 0 n).toList.reverse = rv xs n := by
  unfold rv; rw [ext_list]; simp
structure MH (a b out : Array Keyed) (na nb : Nat) : Prop where
  ha : na ≤ a.size
  hb : nb ≤ b.size
  mi : MI geK (a.toList ++ b.toList) out.toList (rv a na) (rv b nb)
section
variable {a b out : Array Keyed} {na nb : Nat}
theorem geK_rev {l : List Keyed} (h : l.Pairwise leK) : l.reverse.Pairwise geK := List.pairwise_reverse.mpr h
theorem MOut.rev {m : Array Keyed} {l : List Keyed} (h : l.Perm (a.toList ++ b.toList) ∧ l.Pairwise geK) (e : m.toList.reverse = l) : MOut a b m := by
  subst e
  exact ⟨(List.reverse_perm _).symm.trans h.1, List.pairwise_reverse.mp h.2⟩
theorem MH.pushA (h : MH a b out na nb) (h1 : 1 ≤ na) (hc : ∀ j, j < nb → K b j ≤ K a (na - 1)) : MH a b (out.push (a[na - 1]'(Nat.lt_of_lt_of_le (Nat.sub_lt h1 Nat.one_pos) h.ha))) (na - 1) nb := ⟨Nat.le_trans (Nat.sub_le ..) h.ha, h.hb, by
  have m := h.mi
  rw [rv_at h1 h.ha] at m
  rw [Array.toList_push]
  refine MI.takeA (C := [_]) m fun c hc' z hz => ?_
  rw [List.mem_singleton.mp hc']
  obtain ⟨j, hj, e⟩ := rv_mem h.hb hz
  show kk z ≤ kk _
  rw [e, ← K_kk]
  exact hc j hj⟩
theorem MH.pushB (h : MH a b out na nb) (h1 : 1 ≤ nb) (hc : ∀ j, j < na → K a j ≤ K b (nb - 1)) : MH a b (out.push (b[nb - 1]'(Nat.lt_of_lt_of_le (Nat.sub_lt h1 Nat.one_pos) h.hb))) na (nb - 1) := ⟨h.ha, Nat.le_trans (Nat.sub_le ..) h.hb, by
  have m := h.mi
  rw [rv_at h1 h.hb] at m
  rw [Array.toList_push]
  refine MI.takeB (C := [_]) m fun c hc' z hz => ?_
  rw [List.mem_singleton.mp hc']
  obtain ⟨j, hj, e⟩ := rv_mem h.ha hz
  show kk z ≤ kk _
  rw [e, ← K_kk]
  exact hc j hj⟩
theorem ext_mem {xs : Array Keyed} {m n : Nat} {z : Keyed} (hn : n ≤ xs.size) (h : z ∈ (xs.extract m n).toList) : ∃ i, m ≤ i ∧ i < n ∧ kk z = K xs i := by
  rw [ext_list] at h
  obtain ⟨j, hj, h2, e⟩ := mem_chunk h
  exact ⟨m + j, Nat.le_add_right .., Nat.add_lt_of_lt_sub' hj, e⟩
theorem MH.chunkA (h : MH a b out na nb) {m : Nat} (hm : m ≤ na) (hc : ∀ i, m ≤ i → i < na → ∀ j, j < nb → K b j ≤ K a i) : MH a b (out ++ (a.extract m na).reverse) m nb := ⟨by have := h.ha; (exact Nat.le_trans (by assumption) (by assumption)), h.hb, by
  have q := h.mi
  rw [rv_chunk hm h.ha] at q
  rw [Array.toList_append, Array.toList_reverse]
  refine q.takeA fun c hc' z hz => ?_
  obtain ⟨i, h1, h2, e1⟩ := ext_mem h.ha (List.mem_reverse.mp hc')
  obtain ⟨j, hj, e⟩ := rv_mem h.hb hz
  show kk z ≤ kk c
  rw [e, e1]
  exact hc i h1 h2 j hj⟩
theorem MH.chunkB (h : MH a b out na nb) {m : Nat} (hm : m ≤ nb) (hc : ∀ i, m ≤ i → i < nb → ∀ j, j < na → K a j ≤ K b i) : MH a b (out ++ (b.extract m nb).reverse) na m := ⟨h.ha, by have := h.hb; (exact Nat.le_trans (by assumption) (by assumption)), by
  have q := h.mi
  rw [rv_chunk hm h.hb] at q
  rw [Array.toList_append, Array.toList_reverse]
  refine q.takeB fun c hc' z hz => ?_
  obtain ⟨i, h1, h2, e1⟩ := ext_mem h.hb (List.mem_reverse.mp hc')
  obtain ⟨j, hj, e⟩ := rv_mem h.ha hz
  show kk z ≤ kk c
  rw [e, e1]
  exact hc i h1 h2 j hj⟩
theorem MH.doneA (h : MH a b out na nb) (e : na = 0) : MOut a b (a.extract 0 na ++ b.extract 0 nb ++ out.reverse) := by
  subst e
  refine MOut.rev h.mi.endA ?_
  rw [Array.toList_append, Array.toList_append, List.reverse_append, List.reverse_append, ext_rv, ext_rv, Array.toList_reverse, List.reverse_reverse]
  show out.toList ++ (rv b nb ++ []) = _
  rw [List.append_nil]
theorem MH.doneB (h : MH a b out na nb) (e : nb = 0) : MOut a b (a.extract 0 na ++ b.extract 0 nb ++ out.reverse) := by
  subst e
  refine MOut.rev h.mi.endB ?_
  rw [Array.toList_append, Array.toList_append, List.reverse_append, List.reverse_append, ext_rv, ext_rv, Array.toList_reverse, List.reverse_reverse]
  rfl
theorem MH.firstB (P : MPre a b) (h : MH a b out na nb) (e : nb = 1) : MOut a b (b.extract 0 nb ++ a.extract 0 na ++ out.reverse) := by
  subst e
  refine MOut.rev (h.mi.swap.endBA fun x hx y hy => ?_) ?_
  · obtain ⟨j, hj, e⟩ := rv_mem h.hb hy
    have j0 : j = 0 := Nat.lt_one_iff.mp hj
    subst j0
    obtain ⟨i, hi, e1⟩ := rv_mem h.ha hx
    have hi' : i < a.size := by have := h.ha; (exact Nat.lt_of_lt_of_le (by assumption) (by assumption))
    show kk y ≤ kk x
    rw [e, e1, K_kk P.nb, K_kk hi']
    exact P.first _ (mem_arr hi')
  · rw [Array.toList_append, Array.toList_append, List.reverse_append, List.reverse_append, ext_rv, ext_rv, Array.toList_reverse, List.reverse_reverse, List.append_assoc]
theorem MH.start (P : MPre a b) : MH a b #[a[a.size - 1]'(Nat.sub_lt P.na (Nat.lt_succ_self 0))] (a.size - 1) b.size := by
  have h0 : MH a b #[] a.size b.size := ⟨Nat.le_refl _, Nat.le_refl _, by
    have e : ∀ xs : Array Keyed, rv xs xs.size = xs.toList.reverse := fun xs => by unfold rv; rw [List.take_of_length_le (by simp)]
    rw [e, e]
    exact ⟨((List.reverse_perm _).append (List.reverse_perm _)), geK_rev P.sa, geK_rev P.sb⟩⟩
  have hl : a.size - 1 < a.size := Nat.sub_lt P.na (Nat.lt_succ_self 0)
  exact h0.pushA P.na fun j hj => by
    rw [K_kk hj, K_kk hl]
    exact P.last _ (mem_arr hj)
end
end Mine.Internal
end

section
open PySem PyProof.Rows
set_option Elab.async false
set_option maxRecDepth 100000
set_option linter.unusedVariables false
set_option linter.unusedSimpArgs false
namespace Mine.Internal
section
variable {prog : Program} {w : World} {A : Around} {E : Value → Shared → Prop} {s : Shared} {a b : Array Keyed}
structure Lh (a b : Array Keyed) (X : Nat) (na nb : Nat) (out : Array Keyed) : Prop where
  mh : MH a b out na nb
  la : 1 ≤ na
  lb : 2 ≤ nb
  px : X + na + nb ≤ a.size + b.size
abbrev H7 := Option (Array Keyed) × Nat × Nat × Array Keyed × Nat × Nat × Nat
noncomputable def hi3 (a b : Array Keyed) (na g ac k : Nat) (nb : Nat) (out : Array Keyed) : SM (ForInStep H7) := do
  let x ← elem' a (na - 1)
  if (na - 1 == 0) = true then pure (ForInStep.done (some (a.extract 0 (na - 1) ++ b.extract 0 nb ++ (out.push x).reverse), na - 1, nb, out.push x, g, ac, k))
  else if (decide (ac < 7) && decide (k < 7)) = true then pure (ForInStep.done (none, na - 1, nb, out.push x, g, ac, k))
  else pure (ForInStep.yield (none, na - 1, nb, out.push x, g, ac, k))
noncomputable def hi2 (a b : Array Keyed) (nb g ac bc : Nat) (na : Nat) (out : Array Keyed) : SM (ForInStep H7) := do
  let y ← elem' b (nb - 1)
  if (nb - 1 == 1) = true then pure (ForInStep.done (some (b.extract 0 (nb - 1) ++ a.extract 0 na ++ (out.push y).reverse), na, nb - 1, out.push y, g, ac, bc))
  else do
    let x ← elem' a (na - 1)
    let q ← gallop' true x b 0 (nb - 1) (nb - 1 - 1)
    match q with
    | some at_ =>
      if nb - 1 - at_ > 0 then
        if (at_ == 1) = true then pure (ForInStep.done (some (b.extract 0 at_ ++ a.extract 0 na ++ (out.push y ++ (b.extract at_ (nb - 1)).reverse).reverse), na, at_, out.push y ++ (b.extract at_ (nb - 1)).reverse, g, ac, nb - 1 - at_))
        else if (at_ == 0) = true then pure (ForInStep.done (some (a.extract 0 na ++ b.extract 0 at_ ++ (out.push y ++ (b.extract at_ (nb - 1)).reverse).reverse), na, at_, out.push y ++ (b.extract at_ (nb - 1)).reverse, g, ac, nb - 1 - at_))
        else hi3 a b na g ac (nb - 1 - at_) at_ (out.push y ++ (b.extract at_ (nb - 1)).reverse)
      else hi3 a b na g ac (nb - 1 - at_) (nb - 1) (out.push y)
    | _ => pure (ForInStep.done (some (a.extract 0 na ++ b.extract 0 (nb - 1) ++ (out.push y).reverse), na, nb - 1, out.push y, g, ac, bc))
noncomputable def hi1 (a b : Array Keyed) (na nb : Nat) (out : Array Keyed) (ac bc g : Nat) : SM (ForInStep H7) := do
  setMinGallop' g
  let y ← elem' b (nb - 1)
  let q ← gallop' false y a 0 na (na - 1)
  match q with
  | some at_ =>
    if na - at_ > 0 then
      if (at_ == 0) = true then pure (ForInStep.done (some (a.extract 0 at_ ++ b.extract 0 nb ++ (out ++ (a.extract at_ na).reverse).reverse), at_, nb, out ++ (a.extract at_ na).reverse, g, na - at_, bc))
      else hi2 a b nb g (na - at_) bc at_ (out ++ (a.extract at_ na).reverse)
    else hi2 a b nb g (na - at_) bc na out
  | _ => pure (ForInStep.done (some (a.extract 0 na ++ b.extract 0 nb ++ out.reverse), na, nb, out, g, ac, bc))
theorem Lh.no {X na nb : Nat} {out : Array Keyed} (L : Lh a b X na nb out) (h : a.size + b.size ≤ X) : False :=
  absurd (Nat.lt_of_lt_of_le (Nat.lt_add_of_pos_right L.la) (Nat.le_add_right _ nb)) (Nat.not_lt.mpr (Nat.le_trans L.px h))
theorem Lh.ia {X na nb : Nat} {out : Array Keyed} (L : Lh a b X na nb out) : na - 1 < a.size := Nat.lt_of_lt_of_le (Nat.sub_lt L.la Nat.one_pos) L.mh.ha
theorem Lh.ib {X na nb : Nat} {out : Array Keyed} (L : Lh a b X na nb out) : nb - 1 < b.size := Nat.lt_of_lt_of_le (Nat.sub_lt (Nat.lt_of_succ_lt L.lb) Nat.one_pos) L.mh.hb
noncomputable def HQ (a b : Array Keyed) (X : Nat) (st st' : SortSt) (r : ForInStep H7) : Prop := match r with
  | .done c => SameG st st' ∧ (Ended a b c.1 ∨ c.1 = none ∧ Lh a b X c.2.1 c.2.2.1 c.2.2.2.1)
  | .yield c => SameG st st' ∧ c.1 = none ∧ Lh a b X c.2.1 c.2.2.1 c.2.2.2.1
theorem hi3_spec {st st1 : SortSt} {X na nb g ac k : Nat} {out : Array Keyed} (P : MPre a b) (hS : SameG st st1) (L : Lh a b X na nb out) (hc : ∀ j, j < nb → K b j ≤ K a (na - 1)) : wpS (model prog w) A E s (hi3 a b na g ac k nb out) (fun r st' => HQ a b X st st' r) st1 := by
  have la' := L.ia
  refine wpS_bind (wpS_elem la' ?_)
  have M := L.mh.pushA L.la hc
  by_cases e : (na - 1 == 0) = true
  · rw [if_pos e]; exact wpS_pure ⟨hS, .inl ⟨_, rfl, M.doneA (eq_of_beq e)⟩⟩
  · rw [if_neg e]
    have L' : Lh a b X (na - 1) nb (out.push (a[na - 1])) := ⟨M, Nat.pos_of_ne_zero fun q => e (beq_of_eq q), L.lb, Nat.le_trans (Nat.add_le_add_right (Nat.add_le_add_left (Nat.sub_le ..) X) nb) L.px⟩
    split
    · exact wpS_pure ⟨hS, .inr ⟨rfl, L'⟩⟩
    · exact wpS_pure ⟨hS, rfl, L'⟩
theorem zero_gal {st : SortSt} {xs : Array Keyed} {left : Bool} {key : Keyed} {n : Nat} (hk : kindOf st = oneType') (hkey : IntK key) (hx : ∀ x ∈ xs.toList, IntK x) (hs : xs.toList.Pairwise leK) (hn : n ≤ xs.size) :
    Gal prog w A E s left key xs 0 n st fun j => Pd left (kk key) (K xs (0 + j)) :=
  gal_of hk hkey hx (by rw [Nat.zero_add]; exact hn) fun p q h1 h2 => K_sorted hs (Nat.add_le_add_left h1 0) (by rw [Nat.zero_add]; exact Nat.lt_of_lt_of_le h2 hn)
theorem hi2_spec {st st1 : SortSt} {X na nb g ac bc : Nat} {out : Array Keyed} (hk : kindOf st = oneType') (P : MPre a b) (hS : SameG st st1) (L : Lh a b X na nb out) (hc : ∀ j, j < na → K a j ≤ K b (nb - 1)) : wpS (model prog w) A E s (hi2 a b nb g ac bc na out) (fun r st' => HQ a b X st st' r) st1 := by
  have lb1 : 1 ≤ nb - 1 := Nat.le_sub_of_add_le L.lb
  refine wpS_bind (wpS_elem L.ib ?_)
  have M := L.mh.pushB (Nat.le_of_lt L.lb) hc
  by_cases e : (nb - 1 == 1) = true
  · rw [if_pos e]; exact wpS_pure ⟨hS, .inl ⟨_, rfl, M.firstB P (eq_of_beq e)⟩⟩
  rw [if_neg e]
  have la' := L.ia
  refine wpS_bind (wpS_elem la' (wpS_bind (wpS_gallop (zero_gal (hS.kind.trans hk) (P.ia _ (mem_arr la')) P.ib P.sb (Nat.le_trans (Nat.sub_le ..) L.mh.hb)) (Nat.sub_lt lb1 Nat.one_pos) fun r hr h1 h2 => ?_)))
  dsimp only
  have h1 : ∀ j, j < r → K b j ≤ K a (na - 1) := fun j hj => by
    have := of_decide_eq_true (h1 j hj)
    rw [Nat.zero_add] at this
    rw [K_kk la']; exact Int.le_of_lt this
  have h2 : ∀ j, r ≤ j → j < nb - 1 → K a (na - 1) ≤ K b j := fun j h3 h4 => by
    have := of_decide_eq_false (h2 j h3 h4)
    rw [Nat.zero_add] at this
    rw [K_kk la']; exact Int.not_lt.mp this
  by_cases hk0 : nb - 1 - r > 0
  · rw [if_pos hk0]
    have M2 := M.chunkB (m := r) hr fun i h3 h4 j hj => Int.le_trans (K_sorted P.sa (Nat.le_sub_one_of_lt hj) la') (h2 i h3 h4)
    by_cases e : (r == 1) = true
    · rw [if_pos e]; exact wpS_pure ⟨hS, .inl ⟨_, rfl, M2.firstB P (eq_of_beq e)⟩⟩
    · rw [if_neg e]
      by_cases e2 : (r == 0) = true
      · rw [if_pos e2]; exact wpS_pure ⟨hS, .inl ⟨_, rfl, M2.doneB (eq_of_beq e2)⟩⟩
      · rw [if_neg e2]
        exact hi3_spec P hS ⟨M2, L.la, Nat.lt_of_le_of_ne (Nat.pos_of_ne_zero fun q => e2 (beq_of_eq q)) fun q => e (beq_of_eq q.symm), Nat.le_trans (Nat.add_le_add_left (Nat.le_trans hr (Nat.sub_le ..)) _) L.px⟩ h1
  · rw [if_neg hk0]
    have k0 : nb - 1 ≤ r := Nat.le_of_sub_eq_zero (Nat.eq_zero_of_not_pos hk0)
    exact hi3_spec P hS ⟨M, L.la, Nat.lt_of_le_of_ne lb1 fun q => e (beq_of_eq q.symm), Nat.le_trans (Nat.add_le_add_left (Nat.sub_le ..) _) L.px⟩ fun j hj => h1 j (Nat.lt_of_lt_of_le hj k0)
theorem hi1_spec {st st1 : SortSt} {X na nb g ac bc : Nat} {out : Array Keyed} (hk : kindOf st = oneType') (P : MPre a b) (hS : SameG st st1) (L : Lh a b X na nb out) : wpS (model prog w) A E s (hi1 a b na nb out ac bc g) (fun r st' => HQ a b X st st' r) st1 := by
  unfold hi1
  rw [setMinGallop'_eq]
  refine wpS_bind (wpS_modify ?_)
  have hS := hS.set g
  generalize setGallop st1 g = st1 at hS
  have lb' := L.ib
  refine wpS_bind (wpS_elem lb' (wpS_bind (wpS_gallop (zero_gal (hS.kind.trans hk) (P.ib _ (mem_arr lb')) P.ia P.sa L.mh.ha) (Nat.sub_lt L.la Nat.one_pos) fun r hr h1 h2 => ?_)))
  dsimp only
  have h1 : ∀ j, j < r → K a j ≤ K b (nb - 1) := fun j hj => by
    have := of_decide_eq_true (h1 j hj)
    rw [Nat.zero_add] at this
    rw [K_kk lb']; exact this
  have h2 : ∀ j, r ≤ j → j < na → K b (nb - 1) ≤ K a j := fun j h3 h4 => by
    have := of_decide_eq_false (h2 j h3 h4)
    rw [Nat.zero_add] at this
    rw [K_kk lb']; exact Int.le_of_lt (Int.not_le.mp this)
  by_cases hk0 : na - r > 0
  · rw [if_pos hk0]
    have M2 := L.mh.chunkA (m := r) hr fun i h3 h4 j hj => Int.le_trans (K_sorted P.sb (Nat.le_sub_one_of_lt hj) lb') (h2 i h3 h4)
    by_cases e : (r == 0) = true
    · rw [if_pos e]; exact wpS_pure ⟨hS, .inl ⟨_, rfl, M2.doneA (eq_of_beq e)⟩⟩
    · rw [if_neg e]
      exact hi2_spec hk P hS ⟨M2, Nat.pos_of_ne_zero fun q => e (beq_of_eq q), L.lb, Nat.le_trans (Nat.add_le_add_right (Nat.add_le_add_left hr X) nb) L.px⟩ h1
  · rw [if_neg hk0]
    exact hi2_spec hk P hS L fun j hj => h1 j (Nat.lt_of_lt_of_le hj (Nat.le_of_sub_eq_zero (Nat.eq_zero_of_not_pos hk0)))
abbrev H6 := Option (Array Keyed) × Nat × Nat × Array Keyed × Nat × Nat
abbrev H5 := Option (Array Keyed) × Nat × Nat × Array Keyed × Nat
noncomputable def hi0 (a b : Array Keyed) (g na nb : Nat) (out : Array Keyed) (ac bc : Nat) : SM (ForInStep H6) := do
  let y ← elem' b (nb - 1)
  let x ← elem' a (na - 1)
  let q ← lt' y x
  match q with
  | some v =>
    if v = true then do
      let z ← elem' a (na - 1)
      if (na - 1 == 0) = true then pure (ForInStep.done (some (a.extract 0 (na - 1) ++ b.extract 0 nb ++ (out.push z).reverse), na - 1, nb, out.push z, ac + 1, 0))
      else if ac + 1 ≥ g then pure (ForInStep.done (none, na - 1, nb, out.push z, ac + 1, 0))
      else pure (ForInStep.yield (none, na - 1, nb, out.push z, ac + 1, 0))
    else do
      let z ← elem' b (nb - 1)
      if (nb - 1 == 1) = true then pure (ForInStep.done (some (b.extract 0 (nb - 1) ++ a.extract 0 na ++ (out.push z).reverse), na, nb - 1, out.push z, 0, bc + 1))
      else if bc + 1 ≥ g then pure (ForInStep.done (none, na, nb - 1, out.push z, 0, bc + 1))
      else pure (ForInStep.yield (none, na, nb - 1, out.push z, 0, bc + 1))
  | _ => pure (ForInStep.done (some (a.extract 0 na ++ b.extract 0 nb ++ out.reverse), na, nb, out, ac, bc))
noncomputable def hiG (a b : Array Keyed) (c : H7) : SM (ForInStep H7) :=
  if c.2.2.2.2.1 > 1 then hi1 a b c.2.1 c.2.2.1 c.2.2.2.1 c.2.2.2.2.2.1 c.2.2.2.2.2.2 (c.2.2.2.2.1 - 1) else hi1 a b c.2.1 c.2.2.1 c.2.2.2.1 c.2.2.2.2.2.1 c.2.2.2.2.2.2 c.2.2.2.2.1
noncomputable def hiU (c : H7) : SM (ForInStep H5) := match c.1 with
  | some r => pure (ForInStep.done (some r, c.2.1, c.2.2.1, c.2.2.2.1, c.2.2.2.2.1))
  | none => do
    setMinGallop' (c.2.2.2.2.1 + 1)
    pure (ForInStep.yield (none, c.2.1, c.2.2.1, c.2.2.2.1, c.2.2.2.2.1 + 1))
noncomputable def hiT (a b : Array Keyed) (g : Nat) (c : H6) : SM (ForInStep H5) := match c.1 with
  | some r => pure (ForInStep.done (some r, c.2.1, c.2.2.1, c.2.2.2.1, g))
  | none => do
    liftM (rule "list.sort.gallop")
    let d ← forIn [:a.size + b.size] ((none, c.2.1, c.2.2.1, c.2.2.2.1, g + 1, c.2.2.2.2.1, c.2.2.2.2.2) : H7) fun z_ d => hiG a b d
    hiU d
noncomputable def hiS (a b : Array Keyed) (c : H5) : SM (ForInStep H5) := do
  let d ← forIn [:a.size + b.size] ((none, c.2.1, c.2.2.1, c.2.2.2.1, 0, 0) : H6) fun z_ d => hi0 a b c.2.2.2.2 d.2.1 d.2.2.1 d.2.2.2.1 d.2.2.2.2.1 d.2.2.2.2.2
  hiT a b c.2.2.2.2 d
noncomputable def hiM (a b : Array Keyed) : SM (Array Keyed) := do
  rule "list.sort.merge-hi"
  let y ← elem' a (a.size - 1)
  if (a.size - 1 == 0) = true then pure (a.extract 0 (a.size - 1) ++ b.extract 0 b.size ++ (#[y] : Array Keyed).reverse)
  else if (b.size == 1) = true then pure (b.extract 0 b.size ++ a.extract 0 (a.size - 1) ++ (#[y] : Array Keyed).reverse)
  else do
    let st ← get
    let c ← forIn [:a.size + b.size] ((none, a.size - 1, b.size, #[y], gallopOf st) : H5) fun z_ c => hiS a b c
    match c.1 with
    | some r => pure r
    | none => unsupported "internal:list.sort.merge-bound"
set_option smartUnfolding false in
theorem mergeHi'_eq (a b : Array Keyed) : mergeHi' a b = hiM a b := rfl
noncomputable def H5Q (a b : Array Keyed) (X : Nat) (st st' : SortSt) (r : ForInStep H5) : Prop := match r with
  | .done c => SameG st st' ∧ Ended a b c.1
  | .yield c => SameG st st' ∧ c.1 = none ∧ Lh a b (X + 1) c.2.1 c.2.2.1 c.2.2.2.1
noncomputable def H6Q (a b : Array Keyed) (X : Nat) (st1 st' : SortSt) (r : ForInStep H6) : Prop := match r with
  | .done c => st' = st1 ∧ (Ended a b c.1 ∨ c.1 = none ∧ Lh a b (X + 1) c.2.1 c.2.2.1 c.2.2.2.1)
  | .yield c => st' = st1 ∧ c.1 = none ∧ Lh a b (X + 1) c.2.1 c.2.2.1 c.2.2.2.1
theorem hi_pxA {X na nb t : Nat} (h : X + na + nb ≤ t) (h1 : 1 ≤ na) : X + 1 + (na - 1) + nb ≤ t := by
  rw [Nat.add_assoc X 1, Nat.add_sub_cancel' h1]; exact h
theorem hi_pxB {X na nb t : Nat} (h : X + na + nb ≤ t) (h1 : 1 ≤ nb) : X + 1 + na + (nb - 1) ≤ t := by
  rw [Nat.add_assoc X 1, Nat.add_comm 1 na, ← Nat.add_assoc X na 1, Nat.add_assoc (X + na), Nat.add_sub_cancel' h1]; exact h
theorem hi0_spec {st1 : SortSt} {X g na nb ac bc : Nat} {out : Array Keyed} (hk : kindOf st1 = oneType') (P : MPre a b) (L : Lh a b X na nb out) : wpS (model prog w) A E s (hi0 a b g na nb out ac bc) (fun r st' => H6Q a b X st1 st' r) st1 := by
  have lb1 : 1 ≤ nb := Nat.le_of_lt L.lb
  have la' := L.ia
  have lb' := L.ib
  refine wpS_bind (wpS_elem lb' (wpS_bind (wpS_elem la' (wpS_bind (wpS_lt hk (P.ib _ (mem_arr lb')) (P.ia _ (mem_arr la')) ?_)))))
  by_cases hw : kk b[nb - 1] < kk a[na - 1]
  · rw [decide_eq_true hw]
    refine wpS_bind (wpS_elem la' ?_)
    have M := L.mh.pushA L.la fun j hj => Int.le_trans (K_sorted P.sb (Nat.le_sub_one_of_lt hj) lb') (by rw [K_kk lb', K_kk la']; exact Int.le_of_lt hw)
    by_cases e : (na - 1 == 0) = true
    · rw [if_pos e]; exact wpS_pure ⟨rfl, .inl ⟨_, rfl, M.doneA (eq_of_beq e)⟩⟩
    · rw [if_neg e]
      have V : Lh a b (X + 1) (na - 1) nb (out.push a[na - 1]) := ⟨M, Nat.pos_of_ne_zero fun q => e (beq_of_eq q), L.lb, hi_pxA L.px L.la⟩
      split
      · exact wpS_pure ⟨rfl, .inr ⟨rfl, V⟩⟩
      · exact wpS_pure ⟨rfl, rfl, V⟩
  · rw [decide_eq_false hw]
    refine wpS_bind (wpS_elem lb' ?_)
    have M := L.mh.pushB lb1 fun j hj => Int.le_trans (K_sorted P.sa (Nat.le_sub_one_of_lt hj) la') (by rw [K_kk lb', K_kk la']; exact Int.not_lt.mp hw)
    by_cases e : (nb - 1 == 1) = true
    · rw [if_pos e]; exact wpS_pure ⟨rfl, .inl ⟨_, rfl, M.firstB P (eq_of_beq e)⟩⟩
    · rw [if_neg e]
      have V : Lh a b (X + 1) na (nb - 1) (out.push b[nb - 1]) := ⟨M, L.la, Nat.lt_of_le_of_ne (Nat.le_sub_of_add_le L.lb) fun q => e (beq_of_eq q.symm), hi_pxB L.px lb1⟩
      split
      · exact wpS_pure ⟨rfl, .inr ⟨rfl, V⟩⟩
      · exact wpS_pure ⟨rfl, rfl, V⟩
theorem hiU_spec {st st1 : SortSt} {X : Nat} {c : H7} (hS : SameG st st1) (h : Ended a b c.1 ∨ c.1 = none ∧ Lh a b (X + 1) c.2.1 c.2.2.1 c.2.2.2.1) : wpS (model prog w) A E s (hiU c) (fun r st' => H5Q a b X st st' r) st1 := by
  unfold hiU
  rcases h with ⟨m, e, hm⟩ | ⟨e, L⟩
  · rw [e]; exact wpS_pure ⟨hS, m, rfl, hm⟩
  · rw [e, setMinGallop'_eq]
    exact wpS_bind (wpS_modify (wpS_pure ⟨hS.set _, rfl, L⟩))
theorem hiT_spec {st st1 : SortSt} {X g : Nat} {c : H6} (hk : kindOf st = oneType') (P : MPre a b) (hS : SameG st st1) (h : Ended a b c.1 ∨ c.1 = none ∧ Lh a b (X + 1) c.2.1 c.2.2.1 c.2.2.2.1) : wpS (model prog w) A E s (hiT a b g c) (fun r st' => H5Q a b X st st' r) st1 := by
  unfold hiT
  rcases h with ⟨m, e, hm⟩ | ⟨e, L⟩
  · rw [e]; exact wpS_pure ⟨hS, m, rfl, hm⟩
  · rw [e]
    refine wpS_bind (wpS_lift (wpAny_rule ⟨rfl, ?_⟩))
    refine wpS_bind (wpS_mono (wpS_forRange
      (I := fun z_ c st' => SameG st st' ∧ c.1 = none ∧ Lh a b (X + 1) c.2.1 c.2.2.1 c.2.2.2.1)
      (Q := fun c st' => SameG st st' ∧ (Ended a b c.1 ∨ c.1 = none ∧ Lh a b (X + 1) c.2.1 c.2.2.1 c.2.2.2.1)) ?_ (fun z_ z_ h => ⟨h.1, .inr h.2⟩) ⟨hS, rfl, L⟩) fun z_ z_ h => hiU_spec h.1 h.2)
    intro x c st' _ _ h
    unfold hiG
    split
    · exact wpS_mono (hi1_spec hk P h.1 h.2.2) fun r st' h => by cases r <;> exact h
    · exact wpS_mono (hi1_spec hk P h.1 h.2.2) fun r st' h => by cases r <;> exact h
theorem Lh.go {X x na nb : Nat} {out : Array Keyed} (h : Lh a b (X + x + 1) na nb out) : Lh a b (X + 1) na nb out :=
  ⟨h.mh, h.la, h.lb, Nat.le_trans (Nat.add_le_add_right (Nat.add_le_add_right (Nat.succ_le_succ (Nat.le_add_right X x)) na) nb) h.px⟩
theorem hiS_spec {st st1 : SortSt} {X : Nat} {c : H5} (hk : kindOf st = oneType') (P : MPre a b) (hS : SameG st st1) (L : Lh a b X c.2.1 c.2.2.1 c.2.2.2.1) : wpS (model prog w) A E s (hiS a b c) (fun r st' => H5Q a b X st st' r) st1 := by
  refine wpS_bind (wpS_mono (wpS_forRange
    (I := fun x c st' => st' = st1 ∧ c.1 = none ∧ Lh a b (X + x) c.2.1 c.2.2.1 c.2.2.2.1)
    (Q := fun c st' => st' = st1 ∧ (Ended a b c.1 ∨ c.1 = none ∧ Lh a b (X + 1) c.2.1 c.2.2.1 c.2.2.2.1)) ?_ (fun z_ z_ h => (h.2.2.no (Nat.le_add_left ..)).elim) ⟨rfl, rfl, L⟩) ?_)
  · rintro x c st' _ hx ⟨rfl, _, L⟩
    refine wpS_mono (hi0_spec (hS.kind.trans hk) P L) fun r st' h => ?_
    cases r with
    | done c => exact ⟨h.1, h.2.imp id fun q => ⟨q.1, q.2.go⟩⟩
    | yield c => exact h
  · rintro c st' ⟨rfl, h⟩
    exact hiT_spec hk P hS h
theorem wpS_mergeHi {st : SortSt} {Q : Array Keyed → SortSt → Prop} (hk : kindOf st = oneType') (P : MPre a b) (h : ∀ m st', SameG st st' → MOut a b m → Q m st') : wpS (model prog w) A E s (mergeHi' a b) Q st := by
  rw [mergeHi'_eq]
  refine wpS_bind (wpS_lift (wpAny_rule ⟨rfl, ?_⟩))
  have hl : a.size - 1 < a.size := Nat.sub_lt P.na Nat.one_pos
  refine wpS_bind (wpS_elem hl ?_)
  have m0 := MH.start P
  generalize (#[a[a.size - 1]] : Array Keyed) = out0 at m0
  by_cases e1 : (a.size - 1 == 0) = true
  · rw [if_pos e1]
    exact wpS_pure (h _ _ .refl (m0.doneA (eq_of_beq e1)))
  rw [if_neg e1]
  by_cases e2 : (b.size == 1) = true
  · rw [if_pos e2]
    exact wpS_pure (h _ _ .refl (m0.firstB P (eq_of_beq e2)))
  rw [if_neg e2]
  refine wpS_bind (wpS_get (wpS_bind (wpS_mono (wpS_forRange
    (I := fun x c st' => SameG st st' ∧ c.1 = none ∧ Lh a b x c.2.1 c.2.2.1 c.2.2.2.1)
    (Q := fun c st' => SameG st st' ∧ Ended a b c.1) ?_ (fun z_ z_ h => (h.2.2.no (Nat.le_refl _)).elim) ⟨.refl, rfl, ⟨m0, Nat.pos_of_ne_zero fun q => e1 (beq_of_eq q), Nat.lt_of_le_of_ne P.nb fun q => e2 (beq_of_eq q.symm), by rw [Nat.zero_add]; exact Nat.add_le_add_right (Nat.sub_le ..) _⟩⟩) ?_)))
  · intro X c st1 _ hX hc
    exact wpS_mono (hiS_spec hk P hc.1 hc.2.2) fun r st' h => by cases r <;> exact h
  · rintro c st' ⟨hS, m, e, hm⟩
    rw [e]
    exact wpS_pure (h m st' hS hm)
end
end Mine.Internal
end

section
open PySem PyProof.Rows
set_option Elab.async false
set_option maxRecDepth 100000
set_option linter.unusedVariables false
set_option linter.unusedSimpArgs false
namespace Mine.Internal
noncomputable def wb (arr : Array Keyed) (at_ : Nat) (l : List (Keyed × Nat)) : Array Keyed := l.foldl (fun a q => a.setIfInBounds (at_ + q.2) q.1) arr
theorem mergeAt'_eq (i : Nat) : mergeAt' i = (do
  let s ← get
  let (some (sa, na, power), some (sb, nb, _)) := ((pendingOf s)[i]?, (pendingOf s)[i + 1]?) | unsupported "internal:list.sort.pending"
  set (setPending s (((pendingOf s).setIfInBounds i (sa, na + nb, power)).eraseIdxIfInBounds (i + 1)))
  let some k ← gallop' false (← elem' (arrOf s) sb) (arrOf s) sa na 0 | return false
  let (sa, na) := (sa + k, na - k)
  if na == 0 then return true
  let some nb ← gallop' true (← elem' (arrOf s) (sa + na - 1)) (arrOf s) sb nb (nb - 1) | return false
  if nb == 0 then return true
  let x := (arrOf s).extract sa sb
  let y := (arrOf s).extract sb (sb + nb)
  let merged ← if na ≤ nb then mergeLo' x y else mergeHi' x y
  modify fun s => setArr s (wb (arrOf s) sa merged.toList.zipIdx)
  return (failedOf (← get)).isNone) := rfl
theorem wb_list {at_ : Nat} : ∀ (ms : List Keyed) (k : Nat) (arr : Array Keyed), at_ + k + ms.length ≤ arr.size → (wb arr at_ (ms.zipIdx k)).toList = arr.toList.take (at_ + k) ++ ms ++ arr.toList.drop (at_ + k + ms.length)
  | [], k, arr, _ => by simp [wb]
  | p :: ms, k, arr, h => by
    rw [List.length_cons] at h
    have ih := wb_list (at_ := at_) ms (k + 1) (arr.setIfInBounds (at_ + k) p) (by rw [Array.size_setIfInBounds]; exact Nat.le_trans (Nat.le_of_eq (Nat.succ_add _ _)) h)
    have hlt : at_ + k < arr.toList.length := by rw [Array.length_toList]; exact Nat.lt_of_lt_of_le (Nat.lt_add_of_pos_right (Nat.succ_pos _)) h
    rw [List.zipIdx_cons]
    show (wb (arr.setIfInBounds (at_ + k) p) at_ (ms.zipIdx (k + 1))).toList = _
    rw [ih, Array.toList_setIfInBounds, List.length_cons]
    rw [show at_ + (k + 1) = at_ + k + 1 by rfl, show at_ + k + (ms.length + 1) = at_ + k + 1 + ms.length from (Nat.succ_add _ _).symm]
    have e1 : (arr.toList.set (at_ + k) p).take (at_ + k + 1) = arr.toList.take (at_ + k) ++ [p] := by
      rw [List.take_add_one, List.getElem?_set_self hlt, List.take_set_of_le (Nat.le_refl _)]; rfl
    rw [List.drop_set_of_lt (show at_ + k < at_ + k + 1 + ms.length by (exact Nat.le_add_right ..)), e1, List.append_assoc _ [p]]; rfl
theorem wb_at {arr : Array Keyed} {at_ : Nat} {ms : List Keyed} (h : at_ + ms.length ≤ arr.size) (i : Nat) : (wb arr at_ ms.zipIdx)[i]? = if i < at_ ∨ at_ + ms.length ≤ i then arr[i]? else ms[i - at_]? := by
  have e := wb_list (at_ := at_) ms 0 arr h
  rw [Nat.add_zero] at e
  have hl : (arr.toList.take at_).length = at_ := by rw [List.length_take, Array.length_toList]; exact Nat.min_eq_left (Nat.le_trans (Nat.le_add_right ..) h)
  rw [← Array.getElem?_toList, e, ← Array.getElem?_toList, List.append_assoc, List.getElem?_append, hl]
  by_cases h1 : i < at_
  · rw [if_pos h1, if_pos (.inl h1), List.getElem?_take_of_lt h1]
  · rw [if_neg h1, List.getElem?_append]
    by_cases h2 : at_ + ms.length ≤ i
    · rw [if_neg (Nat.not_lt.mpr (Nat.le_sub_of_add_le' h2)), if_pos (.inr h2), List.getElem?_drop, Nat.sub_sub, Nat.add_sub_cancel' h2]
    · rw [if_pos (Nat.sub_lt_left_of_lt_add (Nat.le_of_not_lt h1) (Nat.lt_of_not_le h2)), if_neg fun q => q.elim h1 h2]
theorem wb_out {arr : Array Keyed} {at_ : Nat} {ms : List Keyed} (h : at_ + ms.length ≤ arr.size) {i : Nat} (hi : i < at_ ∨ at_ + ms.length ≤ i) : K (wb arr at_ ms.zipIdx) i = K arr i := K_congr (by rw [wb_at h, if_pos hi])
theorem wb_in {arr : Array Keyed} {at_ : Nat} {ms : List Keyed} (h : at_ + ms.length ≤ arr.size) {j : Nat} (hj : j < ms.length) : K (wb arr at_ ms.zipIdx) (at_ + j) = kk ms[j] := by
  have e := wb_at h (at_ + j)
  rw [if_neg fun q => q.elim (fun q => absurd q (Nat.not_lt.mpr (Nat.le_add_right ..))) fun q => absurd (Nat.le_of_add_le_add_left q) (Nat.not_le.mpr hj), Nat.add_sub_cancel_left, List.getElem?_eq_getElem hj] at e
  unfold K kk; rw [e]
theorem wb_perm {arr : Array Keyed} {at_ : Nat} {ms : List Keyed} (h : at_ + ms.length ≤ arr.size) (hp : ms.Perm ((arr.toList.drop at_).take ms.length)) : (wb arr at_ ms.zipIdx).Perm arr := by
  refine Array.perm_iff_toList_perm.mpr ?_
  have e := wb_list (at_ := at_) ms 0 arr h
  rw [Nat.add_zero] at e
  rw [e]
  have e2 : arr.toList = arr.toList.take at_ ++ ((arr.toList.drop at_).take ms.length ++ arr.toList.drop (at_ + ms.length)) := by
    rw [← List.drop_drop, List.take_append_drop, List.take_append_drop]
  conv => rhs; rw [e2]
  rw [List.append_assoc]
  exact List.Perm.append_left _ (hp.append_right _)
structure SB (a₀ : Array Keyed) (st : SortSt) : Prop where
  perm : (arrOf st).Perm a₀
  kind : kindOf st = oneType'
  failed : failedOf st = none
theorem SB.int {a₀ : Array Keyed} {st : SortSt} (h : SB a₀ st) (h0 : IntKeys a₀) : ∀ x ∈ (arrOf st).toList, IntK x := fun x hx => h0 x ((Array.perm_iff_toList_perm.mp h.perm).mem_iff.mp hx)
noncomputable def Srt' (xs : Array Keyed) (i j : Nat) : Prop := ∀ p q, i ≤ p → p ≤ q → q < j → K xs p ≤ K xs q
theorem Srt'.list {xs : Array Keyed} {i j : Nat} (h : Srt' xs i j) (hj : j ≤ xs.size) : (xs.extract i j).toList.Pairwise leK := by
  rw [List.pairwise_iff_getElem]
  intro p q hp hq hpq
  have hs : (xs.extract i j).size = j - i := by rw [Array.size_extract, Nat.min_eq_left hj]
  have hq' : q < j - i := by rw [← hs, ← Array.length_toList]; exact hq
  have e : ∀ p (h : p < j - i) (h2 : p < (xs.extract i j).toList.length), kk ((xs.extract i j).toList[p]) = K xs (i + p) := fun p h h2 => by
    rw [K_kk (Nat.lt_of_lt_of_le (Nat.add_lt_of_lt_sub' h) hj)]; simp
  show kk _ ≤ kk _
  rw [e p (by (exact Nat.lt_trans (by assumption) (by assumption))), e q hq']
  exact h _ _ (Nat.le_add_right ..) (Nat.add_le_add_left (Nat.le_of_lt hpq) i) (Nat.add_lt_of_lt_sub' hq')
section
variable {prog : Program} {w : World} {A : Around} {E : Value → Shared → Prop} {s : Shared} {a₀ : Array Keyed}
structure Mrg (a₀ : Array Keyed) (st st' : SortSt) (p : Array (Nat × Nat × Nat)) (sa e : Nat) : Prop where
  sb : SB a₀ st'
  pend : pendingOf st' = p
  srt : Srt' (arrOf st') sa e
  rest : ∀ k, k < sa ∨ e ≤ k → K (arrOf st') k = K (arrOf st) k
structure Cut (xs : Array Keyed) (sa c1 md c2 e : Nat) : Prop where
  s1 : Srt' xs sa md
  s2 : Srt' xs md e
  sz : e ≤ xs.size
  h1 : sa ≤ c1
  h2 : c1 < md
  h3 : md < c2
  h4 : c2 ≤ e
  k1 : ∀ p, sa ≤ p → p < c1 → K xs p ≤ K xs md
  k2 : ∀ p, c1 ≤ p → p < md → K xs md ≤ K xs p
  r1 : ∀ p, md ≤ p → p < c2 → K xs p ≤ K xs (md - 1)
  r2 : ∀ p, c2 ≤ p → p < e → K xs (md - 1) ≤ K xs p
theorem Cut.md_sz {xs : Array Keyed} {sa c1 md c2 e : Nat} (C : Cut xs sa c1 md c2 e) : md ≤ xs.size := Nat.le_trans (Nat.le_of_lt C.h3) (Nat.le_trans C.h4 C.sz)
theorem Cut.c2_sz {xs : Array Keyed} {sa c1 md c2 e : Nat} (C : Cut xs sa c1 md c2 e) : c2 ≤ xs.size := Nat.le_trans C.h4 C.sz
theorem Cut.pos {xs : Array Keyed} {sa c1 md c2 e : Nat} (C : Cut xs sa c1 md c2 e) : md - 1 < md := Nat.sub_lt (Nat.lt_of_le_of_lt (Nat.zero_le _) C.h2) Nat.one_pos
theorem ext_size {xs : Array Keyed} {i j : Nat} (h : j ≤ xs.size) : (xs.extract i j).size = j - i := by rw [Array.size_extract, Nat.min_eq_left h]
theorem Cut.mpre {xs : Array Keyed} {sa c1 md c2 e : Nat} (C : Cut xs sa c1 md c2 e) (hx : ∀ x ∈ xs.toList, IntK x) : MPre (xs.extract c1 md) (xs.extract md c2) := by
  have ea := ext_size (i := c1) C.md_sz
  have eb := ext_size (i := md) C.c2_sz
  have sub : ∀ i j, ∀ x ∈ (xs.extract i j).toList, x ∈ xs.toList := fun i j x h => by
    rw [ext_list] at h
    exact List.mem_of_mem_drop (List.mem_of_mem_take h)
  refine ⟨Srt'.list (fun p q h1 h2 h3 => C.s1 p q (Nat.le_trans C.h1 h1) h2 h3) C.md_sz, Srt'.list (fun p q h1 h2 h3 => C.s2 p q h1 h2 (Nat.lt_of_lt_of_le h3 C.h4)) C.c2_sz, by rw [ea]; exact Nat.sub_pos_of_lt C.h2, by rw [eb]; exact Nat.sub_pos_of_lt C.h3, fun x h => hx x (sub _ _ x h), fun x h => hx x (sub _ _ x h), fun x h => ?_, fun x h => ?_⟩
  · obtain ⟨i, h1, h2, e⟩ := ext_mem C.md_sz h
    show kk _ ≤ kk x
    rw [e, Array.getElem_extract, ← K_kk]
    exact C.k2 i h1 h2
  · obtain ⟨i, h1, h2, e⟩ := ext_mem C.c2_sz h
    show kk x ≤ kk _
    rw [e, Array.getElem_extract, ← K_kk, ea, ← Nat.add_sub_assoc (Nat.sub_pos_of_lt C.h2), Nat.add_sub_cancel' (Nat.le_of_lt C.h2)]
    exact C.r1 i h1 h2
theorem Cut.done {xs m : Array Keyed} {sa c1 md c2 e : Nat} (C : Cut xs sa c1 md c2 e) (hm : MOut (xs.extract c1 md) (xs.extract md c2) m) :
    (wb xs c1 m.toList.zipIdx).Perm xs ∧ Srt' (wb xs c1 m.toList.zipIdx) sa e ∧ ∀ i, i < sa ∨ e ≤ i → K (wb xs c1 m.toList.zipIdx) i = K xs i := by
  have h12 : c1 ≤ c2 := Nat.le_of_lt (Nat.lt_trans C.h2 C.h3)
  have hl : m.toList.length = c2 - c1 := by
    rw [hm.1.length_eq, List.length_append, Array.length_toList, Array.length_toList, ext_size C.md_sz, ext_size C.c2_sz, Nat.add_comm]
    exact Nat.sub_add_sub_cancel (Nat.le_of_lt C.h3) (Nat.le_of_lt C.h2)
  have he : c1 + m.toList.length = c2 := by rw [hl, Nat.add_sub_cancel' h12]
  have hle : c1 + m.toList.length ≤ xs.size := by rw [he]; exact C.c2_sz
  have hb : ∀ z ∈ m.toList, K xs md ≤ kk z ∧ kk z ≤ K xs (md - 1) := fun z hz => by
    rcases List.mem_append.mp (hm.1.mem_iff.mp hz) with h | h
    · obtain ⟨i, h1, h2, e⟩ := ext_mem C.md_sz h
      rw [e]
      exact ⟨C.k2 i h1 h2, C.s1 i (md - 1) (Nat.le_trans C.h1 h1) (Nat.le_sub_one_of_lt h2) C.pos⟩
    · obtain ⟨i, h1, h2, e⟩ := ext_mem C.c2_sz h
      rw [e]
      exact ⟨C.s2 md i (Nat.le_refl _) h1 (Nat.lt_of_lt_of_le h2 C.h4), C.r1 i h1 h2⟩
  have hlh : K xs md ≤ K xs (md - 1) := C.k2 (md - 1) (Nat.le_sub_one_of_lt C.h2) C.pos
  have o : ∀ i, i < c1 ∨ c2 ≤ i → K (wb xs c1 m.toList.zipIdx) i = K xs i := fun i hi => wb_out hle (by rw [he]; exact hi)
  have inn : ∀ i, c1 ≤ i → i < c2 → ∃ h : i - c1 < m.toList.length, K (wb xs c1 m.toList.zipIdx) i = kk m.toList[i - c1] := fun i h1 h2 => by
    have hj : i - c1 < m.toList.length := by rw [hl]; exact Nat.sub_lt_sub_right h1 h2
    have e := wb_in hle hj
    rw [Nat.add_sub_cancel' h1] at e
    exact ⟨hj, e⟩
  have lo : ∀ i, c1 ≤ i → i < c2 → K xs md ≤ K (wb xs c1 m.toList.zipIdx) i := fun i h1 h2 => by
    obtain ⟨hj, e⟩ := inn i h1 h2
    rw [e]; exact (hb _ (List.getElem_mem _)).1
  have up : ∀ i, c1 ≤ i → i < c2 → K (wb xs c1 m.toList.zipIdx) i ≤ K xs (md - 1) := fun i h1 h2 => by
    obtain ⟨hj, e⟩ := inn i h1 h2
    rw [e]; exact (hb _ (List.getElem_mem _)).2
  refine ⟨wb_perm hle ?_, fun p q h1 h2 h3 => ?_, fun i hi => o i (hi.imp (fun q => Nat.lt_of_lt_of_le q C.h1) (Nat.le_trans C.h4))⟩
  · refine hm.1.trans (List.Perm.of_eq ?_)
    rw [ext_list, ext_list, hl]
    have e : xs.toList.drop md = (xs.toList.drop c1).drop (md - c1) := by rw [List.drop_drop, Nat.add_sub_cancel' (Nat.le_of_lt C.h2)]
    have e2 : c2 - c1 = (md - c1) + (c2 - md) := by rw [Nat.add_comm]; exact (Nat.sub_add_sub_cancel (Nat.le_of_lt C.h3) (Nat.le_of_lt C.h2)).symm
    rw [e, e2, List.take_add]
  · rcases Nat.lt_or_ge p c1 with p1 | p1
    · rw [o p (.inl p1)]
      rcases Nat.lt_or_ge q c1 with q1 | q1
      · rw [o q (.inl q1)]; exact C.s1 p q h1 h2 (Nat.lt_trans q1 C.h2)
      · rcases Nat.lt_or_ge q c2 with q2 | q2
        · exact Int.le_trans (C.k1 p h1 p1) (lo q q1 q2)
        · rw [o q (.inr q2)]
          exact Int.le_trans (C.k1 p h1 p1) (Int.le_trans hlh (C.r2 q q2 h3))
    · have q1 := Nat.le_trans p1 h2
      rcases Nat.lt_or_ge q c2 with q2 | q2
      · have p2 := Nat.lt_of_le_of_lt h2 q2
        obtain ⟨j1, e1⟩ := inn p p1 p2
        obtain ⟨j2, e2⟩ := inn q q1 q2
        rw [e1, e2]
        rcases Nat.lt_or_eq_of_le h2 with hlt | heq
        · exact List.pairwise_iff_getElem.mp hm.2 _ _ j1 j2 (Nat.sub_lt_sub_right p1 hlt)
        · subst heq; exact Int.le_refl _
      · rw [o q (.inr q2)]
        rcases Nat.lt_or_ge p c2 with p2 | p2
        · exact Int.le_trans (up p p1 p2) (C.r2 q q2 h3)
        · rw [o p (.inr p2)]
          exact C.s2 p q (Nat.le_trans (Nat.le_of_lt C.h3) p2) h2 h3
theorem Srt'.join {xs : Array Keyed} {sa md e : Nat} (s1 : Srt' xs sa md) (s2 : Srt' xs md e) (h : ∀ p, sa ≤ p → p < md → ∀ q, md ≤ q → q < e → K xs p ≤ K xs q) : Srt' xs sa e := fun p q h1 h2 h3 => by
  rcases Nat.lt_or_ge q md with q1 | q1
  · exact s1 p q h1 h2 q1
  · rcases Nat.lt_or_ge p md with p1 | p1
    · exact h p h1 p1 q q1 h3
    · exact s2 p q p1 h2 h3
theorem wpS_mergeAt {st : SortSt} {Q : Bool → SortSt → Prop} {i sa na pw nb qw : Nat} (h0 : IntKeys a₀) (hB : SB a₀ st) (hp : (pendingOf st)[i]? = some (sa, na, pw)) (hq : (pendingOf st)[i + 1]? = some (sa + na, nb, qw)) (hna : 1 ≤ na) (hnb : 1 ≤ nb) (hsz : sa + na + nb ≤ (arrOf st).size)
    (s1 : Srt' (arrOf st) sa (sa + na)) (s2 : Srt' (arrOf st) (sa + na) (sa + na + nb))
    (h : ∀ st', Mrg a₀ st st' (((pendingOf st).setIfInBounds i (sa, na + nb, pw)).eraseIdxIfInBounds (i + 1)) sa (sa + na + nb) → Q true st') : wpS (model prog w) A E s (mergeAt' i) Q st := by
  rw [mergeAt'_eq]
  refine wpS_bind (wpS_get ?_)
  dsimp only
  rw [hp, hq]
  dsimp only
  have hx := hB.int h0
  generalize hP : ((pendingOf st).setIfInBounds i (sa, na + nb, pw)).eraseIdxIfInBounds (i + 1) = P at h
  have e0 : (set (setPending st P) : SM PUnit) = modify fun z_ => setPending st P := rfl
  rw [e0]
  refine wpS_bind (wpS_modify ?_)
  have hB1 : SB a₀ (setPending st P) := ⟨hB.perm, hB.kind, hB.failed⟩
  have hxk := hB.kind
  generalize hxs : arrOf st = xs at *
  have fin : Srt' xs sa (sa + na + nb) → Q true (setPending st P) := fun q => h _ ⟨hB1, rfl, by show Srt' (arrOf st) _ _; rw [hxs]; exact q, fun k z_ => rfl⟩
  have hsb : sa + na < xs.size := Nat.lt_of_lt_of_le (Nat.lt_add_of_pos_right hnb) hsz
  have inA : ∀ {q : Nat}, q < na → sa + q < sa + na := fun h => Nat.add_lt_add_left h sa
  refine wpS_bind (wpS_elem hsb (wpS_bind (wpS_gallop (gal_of hxk (hx _ (mem_arr hsb)) hx (Nat.le_of_lt hsb) fun p q h1 h2 => s1 _ _ (Nat.le_add_right ..) (Nat.add_le_add_left h1 sa) (inA h2)) hna fun k hk h1 h2 => ?_)))
  dsimp only
  have k1 : ∀ p, sa ≤ p → p < sa + k → K xs p ≤ K xs (sa + na) := fun p g1 g2 => by
    obtain ⟨j, rfl⟩ := Nat.exists_eq_add_of_le g1
    rw [K_kk hsb]; exact of_decide_eq_true (h1 j (Nat.lt_of_add_lt_add_left g2))
  have k2 : ∀ p, sa + k ≤ p → p < sa + na → K xs (sa + na) ≤ K xs p := fun p g1 g2 => by
    obtain ⟨j, rfl⟩ := Nat.exists_eq_add_of_le (Nat.le_trans (Nat.le_add_right sa k) g1)
    rw [K_kk hsb]; exact Int.le_of_lt (Int.not_le.mp (of_decide_eq_false (h2 j (Nat.le_of_add_le_add_left g1) (Nat.lt_of_add_lt_add_left g2))))
  by_cases e1 : (na - k == 0) = true
  · rw [if_pos e1]
    have e1 : na ≤ k := Nat.le_of_sub_eq_zero (eq_of_beq e1)
    exact wpS_pure (fin (s1.join s2 fun p g1 g2 q g3 g4 => Int.le_trans (k1 p g1 (Nat.lt_of_lt_of_le g2 (Nat.add_le_add_left e1 sa))) (s2 _ q (Nat.le_refl _) g3 g4)))
  rw [if_neg e1]
  have e1 : k < na := Nat.lt_of_not_le fun q => e1 (beq_of_eq (Nat.sub_eq_zero_of_le q))
  have el : sa + k + (na - k) = sa + na := by rw [Nat.add_assoc, Nat.add_sub_cancel' (Nat.le_of_lt e1)]
  rw [el]
  have hla : sa + na - 1 < xs.size := Nat.lt_of_le_of_lt (Nat.sub_le ..) hsb
  have hpm : sa + na - 1 < sa + na := Nat.sub_lt (Nat.lt_of_lt_of_le hna (Nat.le_add_left ..)) Nat.one_pos
  refine wpS_bind (wpS_elem hla (wpS_bind (wpS_gallop (gal_of hxk (hx _ (mem_arr hla)) hx hsz fun p q h1 h2 => s2 _ _ (Nat.le_add_right ..) (Nat.add_le_add_left h1 _) (Nat.add_lt_add_left h2 _)) (Nat.sub_lt hnb Nat.one_pos) fun r hr h3 h4 => ?_)))
  dsimp only
  have r1 : ∀ p, sa + na ≤ p → p < sa + na + r → K xs p ≤ K xs (sa + na - 1) := fun p g1 g2 => by
    obtain ⟨j, rfl⟩ := Nat.exists_eq_add_of_le g1
    rw [K_kk hla]; exact Int.le_of_lt (of_decide_eq_true (h3 j (Nat.lt_of_add_lt_add_left g2)))
  have r2 : ∀ p, sa + na + r ≤ p → p < sa + na + nb → K xs (sa + na - 1) ≤ K xs p := fun p g1 g2 => by
    obtain ⟨j, rfl⟩ := Nat.exists_eq_add_of_le (Nat.le_trans (Nat.le_add_right _ r) g1)
    rw [K_kk hla]; exact Int.not_lt.mp (of_decide_eq_false (h4 j (Nat.le_of_add_le_add_left g1) (Nat.lt_of_add_lt_add_left g2)))
  by_cases e2 : (r == 0) = true
  · rw [if_pos e2]
    have e2 : r = 0 := eq_of_beq e2
    subst e2
    exact wpS_pure (fin (s1.join s2 fun p g1 g2 q g3 g4 => Int.le_trans (s1 p _ g1 (Nat.le_sub_one_of_lt g2) hpm) (r2 q g3 g4)))
  rw [if_neg e2]
  have e2 : 0 < r := Nat.pos_of_ne_zero fun q => e2 (beq_of_eq q)
  have C : Cut xs sa (sa + k) (sa + na) (sa + na + r) (sa + na + nb) := ⟨s1, s2, hsz, Nat.le_add_right .., inA e1, Nat.lt_add_of_pos_right e2, Nat.add_le_add_left hr _, k1, k2, r1, r2⟩
  have tail : ∀ (m : Array Keyed) (st' : SortSt), SameG (setPending st P) st' → MOut (xs.extract (sa + k) (sa + na)) (xs.extract (sa + na) (sa + na + r)) m → wpS (model prog w) A E s (do
      modify fun s => setArr s (wb (arrOf s) (sa + k) m.toList.zipIdx)
      let s' ← get
      pure (failedOf s').isNone) Q st' := fun m st' hS hm => by
    obtain ⟨g, rfl⟩ := hS
    refine wpS_bind (wpS_modify (wpS_bind (wpS_get (wpS_pure ?_))))
    obtain ⟨c1, c2, c3⟩ := C.done hm
    show Q (failedOf st).isNone _
    rw [hB.failed]
    refine h _ ⟨⟨?_, hxk, hB.failed⟩, rfl, ?_, ?_⟩
    · show (wb (arrOf st) (sa + k) m.toList.zipIdx).Perm a₀
      rw [hxs]
      exact c1.trans (hxs ▸ hB.perm)
    · show Srt' (wb (arrOf st) (sa + k) m.toList.zipIdx) _ _
      rw [hxs]; exact c2
    · show ∀ i, _ → K (wb (arrOf st) (sa + k) m.toList.zipIdx) i = _
      rw [hxs]; exact c3
  by_cases e3 : na - k ≤ r
  · rw [if_pos e3]
    exact wpS_bind (wpS_mergeLo hxk (C.mpre hx) fun m st' hS hm => tail m st' hS hm)
  · rw [if_neg e3]
    exact wpS_bind (wpS_mergeHi hxk (C.mpre hx) fun m st' hS hm => tail m st' hS hm)
end
end Mine.Internal
end

section
open PySem PyProof.Rows
set_option Elab.async false
set_option maxRecDepth 100000
set_option linter.unusedVariables false
set_option linter.unusedSimpArgs false
namespace Mine.Internal
noncomputable def prs (p : Array (Nat × Nat × Nat)) : List (Nat × Nat) := p.toList.map fun t => (t.1, t.2.1)
noncomputable def Runs (xs : Array Keyed) : Nat → List (Nat × Nat) → Nat → Prop
  | lo, [], hi => lo = hi
  | lo, t :: r, hi => t.1 = lo ∧ 1 ≤ t.2 ∧ Srt' xs lo (lo + t.2) ∧ Runs xs (lo + t.2) r hi
section
variable {xs ys : Array Keyed}
theorem Runs.le {r : List (Nat × Nat)} : ∀ {lo hi : Nat}, Runs xs lo r hi → lo + r.length ≤ hi := by
  induction r with
  | nil => intro lo hi h; exact Nat.le_of_eq h
  | cons t r ih =>
    intro lo hi h
    obtain ⟨_, h1, _, h2⟩ := h
    have := ih h2
    rw [List.length_cons]; exact Nat.le_trans (Nat.le_of_eq (Nat.succ_add lo _).symm) (Nat.le_trans (Nat.add_le_add_right (Nat.add_le_add_left h1 lo) _) this)
theorem Srt'.congr {i j : Nat} (h : Srt' xs i j) (e : ∀ k, i ≤ k → k < j → K ys k = K xs k) : Srt' ys i j := fun p q h1 h2 h3 => by
  rw [e p h1 (by (exact Nat.lt_of_le_of_lt (by assumption) (by assumption))), e q (by (exact Nat.le_trans (by assumption) (by assumption))) h3]; exact h p q h1 h2 h3
theorem Runs.congr {r : List (Nat × Nat)} : ∀ {lo hi : Nat}, Runs xs lo r hi → (∀ k, lo ≤ k → k < hi → K ys k = K xs k) → Runs ys lo r hi := by
  induction r with
  | nil => intro lo hi h _; exact h
  | cons t r ih =>
    intro lo hi h e
    obtain ⟨h0, h1, h2, h3⟩ := h
    have hl := h3.le
    exact ⟨h0, h1, h2.congr fun k q1 q2 => e k q1 (Nat.lt_of_lt_of_le q2 (Nat.le_trans (Nat.le_add_right ..) hl)), ih h3 fun k q1 q2 => e k (Nat.le_trans (Nat.le_add_right ..) q1) q2⟩
theorem Runs.app {r q : List (Nat × Nat)} : ∀ {lo hi : Nat}, Runs xs lo (r ++ q) hi ↔ ∃ mid, Runs xs lo r mid ∧ Runs xs mid q hi := by
  induction r with
  | nil => intro lo hi; exact ⟨fun h => ⟨lo, rfl, h⟩, fun ⟨m, h1, h2⟩ => by have h1 : lo = m := h1; subst h1; exact h2⟩
  | cons t r ih =>
    intro lo hi
    constructor
    · rintro ⟨h0, h1, h2, h3⟩
      obtain ⟨m, h4, h5⟩ := ih.mp h3
      exact ⟨m, ⟨h0, h1, h2, h4⟩, h5⟩
    · rintro ⟨m, ⟨h0, h1, h2, h4⟩, h5⟩
      exact ⟨h0, h1, h2, ih.mpr ⟨m, h4, h5⟩⟩
end
structure PI (a₀ : Array Keyed) (st : SortSt) (hi : Nat) : Prop where
  sb : SB a₀ st
  runs : Runs (arrOf st) 0 (prs (pendingOf st)) hi
  le : hi ≤ a₀.size
theorem two_at {α : Type} {l : List α} {i : Nat} (h : i + 1 < l.length) : ∃ A x y B, l = A ++ x :: y :: B ∧ A.length = i := by
  refine ⟨l.take i, l[i], l[i + 1], l.drop (i + 2), ?_, by rw [List.length_take]; exact Nat.min_eq_left (Nat.le_of_lt (Nat.lt_of_succ_lt h))⟩
  rw [← List.drop_eq_getElem_cons h, ← List.drop_eq_getElem_cons (by (exact Nat.le_of_lt (by assumption))), List.take_append_drop]
section
variable {prog : Program} {w : World} {A : Around} {E : Value → Shared → Prop} {s : Shared} {a₀ : Array Keyed}
theorem wpS_mergePI {st : SortSt} {Q : Bool → SortSt → Prop} {i hi : Nat} (h0 : IntKeys a₀) (hP : PI a₀ st hi) (hi2 : i + 1 < (pendingOf st).size)
    (h : ∀ st', PI a₀ st' hi → (pendingOf st').size + 1 = (pendingOf st).size → (∀ k, hi ≤ k → K (arrOf st') k = K (arrOf st) k) → Q true st') : wpS (model prog w) A E s (mergeAt' i) Q st := by
  obtain ⟨L, ⟨sa, na, pw⟩, ⟨sb, nb, qw⟩, R, e, hl⟩ := two_at (l := (pendingOf st).toList) (i := i) (by rw [Array.length_toList]; exact hi2)
  have hr := hP.runs
  have hsz : (arrOf st).size = a₀.size := hP.sb.perm.size_eq
  have hle := hP.le
  unfold prs at hr
  rw [e, List.map_append, List.map_cons, List.map_cons] at hr
  obtain ⟨mid, r1, rfl, n1, s1, rfl, n2, s2, r2⟩ := Runs.app.mp hr
  have n1 : 1 ≤ na := n1
  have n2 : 1 ≤ nb := n2
  have hl2 : sa + na + nb + _ ≤ hi := r2.le
  refine wpS_mergeAt h0 hP.sb (i := i) (sa := sa) (na := na) (nb := nb) (pw := pw) (qw := qw) ?_ ?_ n1 n2 (by rw [hsz]; exact Nat.le_trans (Nat.le_trans (Nat.le_add_right ..) hl2) hle) s1 s2 fun st' M => ?_
  · rw [← Array.getElem?_toList, e, List.getElem?_append_right (by (exact Nat.le_of_eq (by assumption))), hl, Nat.sub_self]; rfl
  · rw [← Array.getElem?_toList, e, List.getElem?_append_right (by rw [hl]; exact Nat.le_succ _), hl, Nat.add_sub_cancel_left]; rfl
  · have e2 : (pendingOf st').toList = L ++ (sa, na + nb, pw) :: R := by
      rw [M.pend, Array.toList_eraseIdxIfInBounds, Array.toList_setIfInBounds, e, List.set_append_right _ _ (by (exact Nat.le_of_eq (by assumption))), hl, Nat.sub_self, List.set_cons_zero, List.eraseIdx_append_of_length_le (by lia), hl, Nat.add_sub_cancel_left]; rfl
    refine h st' ⟨M.sb, ?_, hle⟩ ?_ fun k hk => M.rest k (.inr (Nat.le_trans (Nat.le_trans (Nat.le_add_right ..) hl2) hk))
    · unfold prs
      rw [e2, List.map_append, List.map_cons]
      refine Runs.app.mpr ⟨sa, r1.congr fun k z_ q2 => M.rest k (.inl q2), rfl, by show 1 ≤ na + nb; (exact Nat.le_add_right_of_le (by assumption)), ?_, ?_⟩
      · show Srt' _ sa (sa + (na + nb))
        rw [← Nat.add_assoc]; exact M.srt
      · show Runs _ (sa + (na + nb)) _ _
        rw [← Nat.add_assoc]
        exact r2.congr fun k q1 z_ => M.rest k (.inr q1)
    · rw [← Array.length_toList, ← Array.length_toList, e2, e, List.length_append, List.length_append, List.length_cons, List.length_cons, List.length_cons]; rfl
theorem K_pre {pre xs : Array Keyed} (i : Nat) : K (pre ++ xs) (pre.size + i) = K xs i := K_congr (pre_at i xs)
theorem K_front {pre xs ys : Array Keyed} {k : Nat} (h : k < pre.size) : K (pre ++ xs) k = K (pre ++ ys) k := K_congr (by rw [Array.getElem?_append_left h, Array.getElem?_append_left h])
theorem lft_self {st : SortSt} {lo : Nat} (h : lo ≤ (arrOf st).size) : lft ((arrOf st).extract 0 lo) (pendingOf st) (SortSt.mk' (kindOf st) ((arrOf st).extract lo (arrOf st).size) #[] (gallopOf st) (failedOf st)) = st := by
  have e : (arrOf st).extract 0 lo ++ (arrOf st).extract lo (arrOf st).size = arrOf st := by
    rw [Array.extract_append_extract]; simp [Nat.max_eq_right h]
  show SortSt.mk' (kindOf st) ((arrOf st).extract 0 lo ++ (arrOf st).extract lo (arrOf st).size) (pendingOf st) (gallopOf st) (failedOf st) = st
  rw [e]
structure Ran (a₀ : Array Keyed) (st st' : SortSt) (lo m : Nat) : Prop where
  sb : SB a₀ st'
  pend : pendingOf st' = pendingOf st
  srt : Srt' (arrOf st') lo (lo + m)
  rest : ∀ k, k < lo → K (arrOf st') k = K (arrOf st) k
theorem ran_of {st : SortSt} {pre a₁ : Array Keyed} {pend : Array (Nat × Nat × Nat)} {st0 st0' : SortSt} {m : Nat} (he : lft pre pend st0 = st) (hB : SB a₀ st) (h0 : arrOf st0 = a₁) (h1 : SBase a₁ st0') (h2 : SortedTo (arrOf st0') m) : Ran a₀ st (lft pre pend st0') pre.size m := by
  subst he
  refine ⟨⟨?_, h1.kind, h1.failed⟩, rfl, fun p q g1 g2 g3 => ?_, fun k hk => K_front hk⟩
  · refine Array.Perm.trans ?_ hB.perm
    show (pre ++ arrOf st0').Perm (pre ++ arrOf st0)
    rw [h0]
    exact Array.perm_iff_toList_perm.mpr (by rw [Array.toList_append, Array.toList_append]; exact List.Perm.append_left _ (Array.perm_iff_toList_perm.mp h1.perm))
  · have e : ∀ i, pre.size ≤ i → K (pre ++ arrOf st0') i = K (arrOf st0') (i - pre.size) := fun i hi => by
      have := K_pre (pre := pre) (xs := arrOf st0') (i - pre.size)
      rwa [show pre.size + (i - pre.size) = i by (exact Nat.add_sub_cancel' (by assumption))] at this
    show K (pre ++ arrOf st0') p ≤ K (pre ++ arrOf st0') q
    rw [e p g1, e q (by (exact Nat.le_trans (by assumption) (by assumption)))]
    exact h2 (p - pre.size) (q - pre.size) (Nat.sub_le_sub_right g2 _) (Nat.sub_lt_left_of_lt_add (Nat.le_trans g1 g2) g3)
theorem suffix_int {xs : Array Keyed} (h : ∀ x ∈ xs.toList, IntK x) {i j : Nat} : IntKeys (xs.extract i j) := fun x hx => by
  rw [ext_list] at hx
  exact h x (List.mem_of_mem_drop (List.mem_of_mem_take hx))
theorem wpS_countAt {st : SortSt} {Q : Option Nat → SortSt → Prop} {lo : Nat} (h0 : IntKeys a₀) (hB : SB a₀ st) (hlo : lo < a₀.size) (h : ∀ m st', Ran a₀ st st' lo m → 1 ≤ m → m ≤ a₀.size - lo → Q (some m) st') :
    wpS (model prog w) A E s (countRun' lo (a₀.size - lo)) Q st := by
  have hsz : (arrOf st).size = a₀.size := hB.perm.size_eq
  have hlo' : lo ≤ (arrOf st).size := by rw [hsz]; exact Nat.le_of_lt hlo
  have he := lft_self (st := st) (lo := lo) hlo'
  have hps : ((arrOf st).extract 0 lo).size = lo := ext_size hlo'
  have hss : ((arrOf st).extract lo (arrOf st).size).size = a₀.size - lo := by rw [ext_size (Nat.le_refl _), hsz]
  have key := Com.wp (com_countRun (pre := (arrOf st).extract 0 lo) (pend := pendingOf st) (nrem := a₀.size - lo)) (prog := prog) (w := w) (A := A) (E := E) (s := s) (Q := Q) (st := SortSt.mk' (kindOf st) ((arrOf st).extract lo (arrOf st).size) #[] (gallopOf st) (failedOf st))
    (wpS_countRun (suffix_int (hB.int h0)) (Nat.le_of_eq hss.symm) (Nat.sub_pos_of_lt hlo) ⟨Array.Perm.refl _, hB.kind, hB.failed, rfl⟩ fun m st' g1 g2 g3 g4 => by
      have R := ran_of he hB rfl g1 g4
      rw [hps] at R
      exact h m _ R g2 g3)
  rw [he, hps] at key
  exact key
theorem wpS_binAt {st : SortSt} {Q : Bool → SortSt → Prop} {lo n ok : Nat} (h0 : IntKeys a₀) (hB : SB a₀ st) (hlo : lo < a₀.size) (hn : n ≤ a₀.size - lo) (hok : ok ≤ n) (hs : Srt' (arrOf st) lo (lo + ok)) (h : ∀ st', Ran a₀ st st' lo n → Q true st') :
    wpS (model prog w) A E s (binarySort' lo n ok) Q st := by
  have hsz : (arrOf st).size = a₀.size := hB.perm.size_eq
  have hlo' : lo ≤ (arrOf st).size := by rw [hsz]; exact Nat.le_of_lt hlo
  have he := lft_self (st := st) (lo := lo) hlo'
  have hps : ((arrOf st).extract 0 lo).size = lo := ext_size hlo'
  have hss : ((arrOf st).extract lo (arrOf st).size).size = a₀.size - lo := by rw [ext_size (Nat.le_refl _), hsz]
  have hK : ∀ i, K (arrOf st) (lo + i) = K ((arrOf st).extract lo (arrOf st).size) i := fun i => by
    have := K_pre (pre := (arrOf st).extract 0 lo) (xs := (arrOf st).extract lo (arrOf st).size) i
    rw [hps, show (arrOf st).extract 0 lo ++ (arrOf st).extract lo (arrOf st).size = arrOf st from congrArg (fun st => arrOf st) he] at this
    exact this
  have key := Com.wp (com_binary (pre := (arrOf st).extract 0 lo) (pend := pendingOf st) (n := n) (ok := ok)) (prog := prog) (w := w) (A := A) (E := E) (s := s) (Q := Q) (st := SortSt.mk' (kindOf st) ((arrOf st).extract lo (arrOf st).size) #[] (gallopOf st) (failedOf st))
    (wpS_binarySort (suffix_int (hB.int h0)) (by rw [hss]; exact hn) hok ⟨Array.Perm.refl _, hB.kind, hB.failed, rfl⟩ (fun i j q1 q2 => by
      show K ((arrOf st).extract lo (arrOf st).size) i ≤ K ((arrOf st).extract lo (arrOf st).size) j
      rw [← hK, ← hK]; exact hs _ _ (Nat.le_add_right ..) (Nat.add_le_add_left q1 lo) (Nat.add_lt_add_left q2 lo)) fun st' g1 g4 => by
      have R := ran_of he hB rfl g1 g4
      rw [hps] at R
      exact h _ R)
  rw [he, hps] at key
  exact key
end
end Mine.Internal
end

section
open PySem PyProof.Rows
set_option Elab.async false
set_option maxRecDepth 100000
set_option linter.unusedVariables false
set_option linter.unusedSimpArgs false
namespace Mine.Internal
section
variable {prog : Program} {w : World} {A : Around} {E : Value → Shared → Prop} {s : Shared} {a₀ : Array Keyed}
theorem Ran.pi {st st' : SortSt} {lo m : Nat} (R : Ran a₀ st st' lo m) (hP : PI a₀ st lo) : PI a₀ st' lo := ⟨R.sb, by rw [R.pend]; exact hP.runs.congr fun k z_ hk => R.rest k hk, hP.le⟩
theorem PI.push {st : SortSt} {lo n : Nat} (hP : PI a₀ st lo) (h1 : 1 ≤ n) (hs : Srt' (arrOf st) lo (lo + n)) (hn : lo + n ≤ a₀.size) : PI a₀ (setPending st ((pendingOf st).push (lo, n, 0))) (lo + n) := by
  refine ⟨⟨hP.sb.perm, hP.sb.kind, hP.sb.failed⟩, ?_, hn⟩
  show Runs (arrOf st) 0 (prs ((pendingOf st).push (lo, n, 0))) (lo + n)
  unfold prs
  rw [Array.toList_push, List.map_append]
  exact Runs.app.mpr ⟨lo, hP.runs, rfl, h1, hs, rfl⟩
theorem prs_power {p : Array (Nat × Nat × Nat)} {i pw : Nat} : prs (p.modify i fun x => (x.1, x.2.1, pw)) = prs p := by
  unfold prs
  rw [Array.toList_modify]
  refine List.ext_getElem? fun k => ?_
  rw [List.getElem?_map, List.getElem?_map, List.getElem?_modify]
  cases p.toList[k]? with
  | none => rfl
  | some t => simp only [Option.map_some, Option.map_eq_map]; split <;> rfl
theorem PI.power {st : SortSt} {lo i pw : Nat} (hP : PI a₀ st lo) : PI a₀ (setPending st ((pendingOf st).modify i fun x => (x.1, x.2.1, pw))) lo := by
  refine ⟨⟨hP.sb.perm, hP.sb.kind, hP.sb.failed⟩, ?_, hP.le⟩
  show Runs (arrOf st) 0 (prs ((pendingOf st).modify i fun x => (x.1, x.2.1, pw))) lo
  rw [prs_power]; exact hP.runs
theorem PI.len {st : SortSt} {hi : Nat} (hP : PI a₀ st hi) : (pendingOf st).size ≤ hi := by
  have := hP.runs.le
  unfold prs at this
  rw [List.length_map, Array.length_toList, Nat.zero_add] at this
  exact this
theorem PI.sorted {st : SortSt} (hP : PI a₀ st a₀.size) (h1 : (pendingOf st).size ≤ 1) (h0 : 1 ≤ a₀.size) : SortedTo (arrOf st) a₀.size := by
  have hr := hP.runs
  have hl : (prs (pendingOf st)).length ≤ 1 := by unfold prs; rw [List.length_map, Array.length_toList]; exact h1
  generalize prs (pendingOf st) = l at hr hl
  match l, hr, hl with
  | [], hr, _ => have hr : 0 = a₀.size := hr; rw [← hr] at h0; exact absurd h0 (by decide)
  | [t], hr, _ =>
    obtain ⟨_, _, hs, he⟩ := hr
    have he : 0 + t.2 = a₀.size := he
    rw [he] at hs
    exact fun p q h1 h2 => hs p q (Nat.zero_le _) h1 h2
theorem two_below {n : Nat} (h : 2 ≤ n) : n - 2 + 1 < n := by
  obtain ⟨k, rfl⟩ := Nat.exists_eq_add_of_le h
  rw [Nat.add_sub_cancel_left, Nat.add_comm 2]; exact Nat.lt_succ_self _
noncomputable def pushRun (size lo n : Nat) : SM (ForInStep (Option Unit × Nat)) := do
  let st ← get
  match (pendingOf st).back? with
  | some (s1, n1, _) => do
    let r ← forIn [:size] ((none, ()) : Option Unit × Unit) fun z_ z_ => do
      let st ← get
      match (if (pendingOf st).size > 1 then (pendingOf st)[(pendingOf st).size - 2]? else none) with
      | some (_, _, older) =>
        if older ≤ power' size (2 * s1 + n1) (2 * s1 + n1 + n1 + n) size then pure (ForInStep.done (none, ()))
        else do
          let b ← mergeAt' ((pendingOf st).size - 2)
          if (!b) = true then pure (ForInStep.done (some (), ())) else pure (ForInStep.yield (none, ()))
      | _ => pure (ForInStep.done (none, ()))
    match r.1 with
    | some r => pure (ForInStep.done (some r, lo))
    | none => do
      modify fun s => setPending s ((pendingOf s).modify ((pendingOf s).size - 1) fun x => (x.1, x.2.1, power' size (2 * s1 + n1) (2 * s1 + n1 + n1 + n) size))
      modify fun s => setPending s ((pendingOf s).push (lo, n, 0))
      pure (ForInStep.yield (none, lo + n))
  | _ => do
    modify fun s => setPending s ((pendingOf s).push (lo, n, 0))
    pure (ForInStep.yield (none, lo + n))
theorem pushRun_spec {st : SortSt} {lo n : Nat} {Q : ForInStep (Option Unit × Nat) → SortSt → Prop} (h0 : IntKeys a₀) (hP : PI a₀ st lo) (h1 : 1 ≤ n) (hs : Srt' (arrOf st) lo (lo + n)) (hn : lo + n ≤ a₀.size)
    (h : ∀ st', PI a₀ st' (lo + n) → Q (.yield (none, lo + n)) st') : wpS (model prog w) A E s (pushRun a₀.size lo n) Q st := by
  unfold pushRun
  refine wpS_bind (wpS_get ?_)
  cases (pendingOf st).back? with
  | none => exact wpS_bind (wpS_modify (wpS_pure (h _ (hP.push h1 hs hn))))
  | some t =>
    obtain ⟨s1, n1, t⟩ := t
    dsimp only
    generalize power' a₀.size (2 * s1 + n1) (2 * s1 + n1 + n1 + n) a₀.size = pw
    refine wpS_bind (wpS_mono (wpS_forRange
      (I := fun z_ c st' => c = (none, ()) ∧ PI a₀ st' lo ∧ Srt' (arrOf st') lo (lo + n))
      (Q := fun c st' => c = (none, ()) ∧ PI a₀ st' lo ∧ Srt' (arrOf st') lo (lo + n)) ?_ (fun z_ z_ h => h) ⟨rfl, hP, hs⟩) ?_)
    · rintro x c st1 _ _ ⟨rfl, hP1, hs1⟩
      refine wpS_bind (wpS_get ?_)
      by_cases hp : (pendingOf st1).size > 1
      · have e2 : (pendingOf st1).size - 2 < (pendingOf st1).size := Nat.sub_lt (Nat.lt_of_succ_lt hp) (by decide)
        have e3 : (pendingOf st1).size - 2 + 1 < (pendingOf st1).size := two_below hp
        rw [if_pos hp, getElem?_pos (pendingOf st1) _ e2]
        dsimp only
        split
        · exact wpS_pure ⟨rfl, hP1, hs1⟩
        · refine wpS_bind (wpS_mergePI h0 hP1 e3 fun st2 hP2 z_ hk => ?_)
          rw [if_neg (by decide)]
          exact wpS_pure ⟨rfl, hP2, hs1.congr fun k q1 z_ => hk k q1⟩
      · rw [if_neg hp]
        exact wpS_pure ⟨rfl, hP1, hs1⟩
    · rintro c st1 ⟨rfl, hP1, hs1⟩
      exact wpS_bind (wpS_modify (wpS_bind (wpS_modify (wpS_pure (h _ ((hP1.power).push h1 hs1 hn))))))
noncomputable def srB (size mr lo : Nat) : SM (ForInStep (Option Unit × Nat)) :=
  if lo ≥ size then pure (ForInStep.done (none, lo))
  else do
    let r ← countRun' lo (size - lo)
    match r with
    | some m =>
      if m < mr then do
        liftM (rule "list.sort.binary-insertion")
        let b ← binarySort' lo (min (size - lo) mr) m
        if (!b) = true then pure (ForInStep.done (some (), lo)) else pushRun size lo (min (size - lo) mr)
      else pushRun size lo m
    | _ => pure (ForInStep.done (some (), lo))
noncomputable def srI (p : Array (Nat × Nat × Nat)) : Nat := if (if p.size - 2 > 0 then p[p.size - 2 - 1]?.map (·.2.1) else none).any (· < (p[p.size - 2 + 1]?.elim 0 (·.2.1))) then p.size - 2 - 1 else p.size - 2
noncomputable def srM : SM (ForInStep (Option Unit × Unit)) := do
  let st ← get
  if (pendingOf st).size ≤ 1 then pure (ForInStep.done (none, ()))
  else do
    let b ← mergeAt' (srI (pendingOf st))
    if (!b) = true then pure (ForInStep.done (some (), ())) else pure (ForInStep.yield (none, ()))
noncomputable def srN : SM Unit := do
  let st ← get
  let c ← forIn [:(arrOf st).size] ((none, 0) : Option Unit × Nat) fun z_ c => srB (arrOf st).size (minRun' (arrOf st).size (arrOf st).size 0) c.2
  match c.1 with
  | some r => pure r
  | none => do
    let d ← forIn [:(arrOf st).size] ((none, ()) : Option Unit × Unit) fun z_ z_ => srM
    match d.1 with
    | some r => pure r
    | none => pure ()
set_option smartUnfolding false in
theorem sortRunsN : sortRuns' = srN := rfl
theorem srI_lt {p : Array (Nat × Nat × Nat)} (h : ¬ p.size ≤ 1) : srI p + 1 < p.size := by
  have hle : srI p ≤ p.size - 2 := by
    unfold srI
    generalize ((if p.size - 2 > 0 then p[p.size - 2 - 1]?.map (·.2.1) else none).any _) = b
    cases b
    · exact Nat.le_refl _
    · exact Nat.sub_le ..
  exact Nat.lt_of_le_of_lt (Nat.succ_le_succ hle) (two_below (Nat.lt_of_not_le h))
noncomputable def SQ (a₀ : Array Keyed) (x : Nat) (r : ForInStep (Option Unit × Nat)) (st' : SortSt) : Prop := match r with
  | .done c' => c' = (none, a₀.size) ∧ PI a₀ st' a₀.size
  | .yield c' => ∃ lo, c' = (none, lo) ∧ PI a₀ st' lo ∧ (x + 1 ≤ lo ∨ lo = a₀.size)
theorem srB_spec {st' : SortSt} {x lo mr : Nat} (h0 : IntKeys a₀) (hP : PI a₀ st' lo) (hlo : x ≤ lo ∨ lo = a₀.size) : wpS (model prog w) A E s (srB a₀.size mr lo) (fun r st' => SQ a₀ x r st') st' := by
  unfold srB
  by_cases hge : lo ≥ a₀.size
  · rw [if_pos hge]
    have e : lo = a₀.size := Nat.le_antisymm hP.le hge
    subst e
    exact wpS_pure ⟨rfl, hP⟩
  rw [if_neg hge]
  have hlt := Nat.lt_of_not_le hge
  refine wpS_bind (wpS_countAt h0 hP.sb hlt fun m st2 R2 hm1 hm2 => ?_)
  dsimp only
  have fit : ∀ {n : Nat}, n ≤ a₀.size - lo → lo + n ≤ a₀.size := fun h => Nat.le_trans (Nat.add_le_add_left h lo) (Nat.le_of_eq (Nat.add_sub_cancel' (Nat.le_of_lt hlt)))
  have more : ∀ {n : Nat}, 1 ≤ n → x + 1 ≤ lo + n ∨ lo + n = a₀.size := fun h => .inl (Nat.add_le_add (hlo.resolve_right (Nat.ne_of_lt hlt)) h)
  by_cases hmr : m < mr
  · rw [if_pos hmr]
    refine wpS_bind (wpS_lift (wpAny_rule ⟨rfl, ?_⟩))
    have hmin := Nat.min_le_left (a₀.size - lo) mr
    have hmn : m ≤ min (a₀.size - lo) mr := Nat.le_min.mpr ⟨hm2, Nat.le_of_lt hmr⟩
    refine wpS_bind (wpS_binAt h0 R2.sb hlt hmin hmn R2.srt fun st3 R4 => ?_)
    rw [if_neg (by decide)]
    have R3 : Ran a₀ st' st3 lo (min (a₀.size - lo) mr) := ⟨R4.sb, R4.pend.trans R2.pend, R4.srt, fun k hk => (R4.rest k hk).trans (R2.rest k hk)⟩
    have h1 := Nat.le_trans hm1 hmn
    exact pushRun_spec h0 (R3.pi hP) h1 R3.srt (fit hmin) fun st4 hP4 => ⟨_, rfl, hP4, more h1⟩
  · rw [if_neg hmr]
    exact pushRun_spec h0 (R2.pi hP) hm1 R2.srt (fit hm2) fun st4 hP4 => ⟨_, rfl, hP4, more hm1⟩
set_option tactic.hygienic true in
theorem wpS_sortRunsL {st : SortSt} {Q : Unit → SortSt → Prop} (h0 : IntKeys a₀) (hB : SBase a₀ st) (h2 : 2 ≤ a₀.size)
    (h : ∀ st', (arrOf st').Perm a₀ → failedOf st' = none → SortedTo (arrOf st') a₀.size → Q () st') : wpS (model prog w) A E s sortRuns' Q st := by
  rw [sortRunsN]
  refine wpS_bind (wpS_get ?_)
  rw [hB.size]
  have hP0 : PI a₀ st 0 := ⟨⟨hB.perm, hB.kind, hB.failed⟩, by rw [hB.pend]; rfl, Nat.zero_le _⟩
  refine wpS_bind (wpS_mono (wpS_forRange
    (I := fun x c st' => ∃ lo, c = (none, lo) ∧ PI a₀ st' lo ∧ (x ≤ lo ∨ lo = a₀.size))
    (Q := fun c st' => c = (none, a₀.size) ∧ PI a₀ st' a₀.size) ?step ?fin ⟨0, rfl, hP0, .inl (Nat.le_refl _)⟩) ?post)
  case fin =>
    rintro c st' ⟨lo, rfl, hP, hx⟩
    have e : lo = a₀.size := hx.elim (fun q => Nat.le_antisymm hP.le q) id
    subst e
    exact ⟨rfl, hP⟩
  case step =>
    rintro x c st' _ hx ⟨lo, rfl, hP, hlo⟩
    exact wpS_mono (srB_spec h0 hP hlo) fun r st' h => by cases r <;> exact h
  case post =>
    rintro c st1 ⟨rfl, hP1⟩
    refine wpS_bind (wpS_mono (wpS_forRange
      (I := fun x c st' => c = (none, ()) ∧ PI a₀ st' a₀.size ∧ (pendingOf st').size + x ≤ a₀.size)
      (Q := fun c st' => c = (none, ()) ∧ PI a₀ st' a₀.size ∧ (pendingOf st').size ≤ 1) ?step2 ?fin2 ⟨rfl, hP1, hP1.len⟩) ?post2)
    case fin2 =>
      rintro c st' ⟨rfl, hP, hl⟩
      exact ⟨rfl, hP, Nat.le_of_add_le_add_right (Nat.le_trans hl (Nat.le_add_left ..))⟩
    case post2 =>
      rintro c st' ⟨rfl, hP, hl⟩
      exact wpS_pure (h st' hP.sb.perm hP.sb.failed (hP.sorted hl (Nat.le_of_lt h2)))
    case step2 =>
      rintro x c st' _ hx ⟨rfl, hP, hl⟩
      refine wpS_bind (wpS_get ?_)
      by_cases h1 : (pendingOf st').size ≤ 1
      · rw [if_pos h1]; exact wpS_pure ⟨rfl, hP, h1⟩
      · rw [if_neg h1]
        refine wpS_bind (wpS_mergePI h0 hP (srI_lt h1) fun st2 hP2 hs2 _ => ?_)
        rw [if_neg (by decide)]
        exact wpS_pure ⟨rfl, hP2, by rw [Nat.add_comm x, ← Nat.add_assoc, hs2]; exact hl⟩
end
end Mine.Internal
end

section
open PySem PyProof.Rows
set_option Elab.async false
set_option maxRecDepth 100000
set_option linter.unusedVariables false
set_option linter.unusedSimpArgs false
namespace Mine.Internal
noncomputable def revKw : List (Str × Value) := [(Str.ofString "reverse", .bool true)]
section
variable {prog : Program} {w : World} {A : Around} {E : Value → Shared → Prop} {s : Shared}
theorem list_sort_treeL {a : Addr} {vs : List Value} {ns : List Int} {n : Nat} {P : Fin → Shared → Prop} (ho : s.heap.get? a = some (seqObj "list" vs.toArray n))
    (hI : IntsAre vs ns) (hl : vs.length ≤ 1000)
    (h : ∀ (out : Array Value) (ns' : List Int), IntsAre out.toList ns' → ns'.Perm ns → ns'.Pairwise (· ≥ ·) → P (.done (.ret .none)) { s with heap := sortedHeap s.heap a vs out }) :
    wpAny (model prog w) A (Builtin.«list.sort» ⟨[.ref a], [(Str.ofString "reverse", .bool true)]⟩) P E s := by
  rw [list_sort_rev]
  have ha : a < s.heap.objs.size := Heap.lt_size ho
  refine wpAny_bind (listItems_at ho rfl ?_)
  refine wpAny_bind (listUpdate_at ho rfl ?_ (hsz := by rw [List.size_toArray, sizeLine_eq]; (exact Nat.le_trans (by assumption) (Nat.le_of_ble_eq_true rfl))))
  obtain ⟨e1, ho1⟩ : ∃ e1, (s.heap.update a (Obj.mapSeq fun z_ => #[])).get? a = some (seqObj "list" #[] e1) := ⟨_, get?_update_seq ho (fun z_ => #[])⟩
  refine wpAny_bind (seqEpoch_at ho1 rfl ?_)
  refine wpAny_bind (wpAny_newTuple ?_)
  refine wpAny_bind (wpAny_newList ?_)
  refine wpAny_holding ?_
  have ho6 : (((s.heap.update a (Obj.mapSeq fun z_ => #[])).push (seqObj "tuple" vs.toArray 0)).push (seqObj "list" #[] 0)).get? a = some (seqObj "list" #[] e1) := by
    rw [Heap.get?_push_ne _ _ _ (by rw [size_push', Heap.size_update]; exact Nat.ne_of_lt (Nat.lt_succ_of_lt ha)), Heap.get?_push_ne _ _ _ (by rw [Heap.size_update]; exact Nat.ne_of_lt ha)]
    exact ho1
  show wpAny (model prog w) A _ P E { s with heap := ((s.heap.update a (Obj.mapSeq fun z_ => #[])).push (seqObj "tuple" vs.toArray 0)).push (seqObj "list" #[] 0) }
  have hsz : vs.toArray.size = vs.length := by simp
  have fin : ∀ st' : SortSt, (arrOf st').Perm (pairsOf vs) → SortedTo (arrOf st') (pairsOf vs).size →
      P (.done (.ret .none)) { s with heap := sortedHeap s.heap a vs ((arrOf st').map (·.2)).reverse } := by
    intro st' hp hs
    obtain ⟨ns', h1, h2, h3⟩ := sorted_out_rev hI hp hs true
    exact h _ ns' h1 h2 h3
  have hstart : (vs.toArray.zip vs.toArray).reverse.Perm (pairsOf vs) :=
    Array.perm_iff_toList_perm.mpr (by rw [Array.toList_reverse]; exact List.reverse_perm _)
  have hup : ∀ xs : Array Keyed, xs.Perm (pairsOf vs) → (Array.map (fun x => x.snd) xs).reverse.size ≤ sizeLine + 1 := fun xs hp => by
    rw [Array.size_reverse, Array.size_map, hp.size_eq, pairsOf_size, sizeLine_eq]; (exact Nat.le_trans (by assumption) (Nat.le_of_ble_eq_true rfl))
  rw [if_pos rfl]
  dsimp only
  refine wpAny_bind (wpAny_rule ?_)
  by_cases h2 : vs.toArray.size < 2
  · rw [if_pos h2, if_pos h2]
    refine wpAny_bind (wpAny_pure ?_)
    rw [StateT.run_pure]
    refine wpAny_bind (wpAny_pure ?_)
    dsimp only
    refine wpAny_bind (seqEpoch_at ho6 rfl ?_)
    refine wpAny_bind (listUpdate_at ho6 rfl ?_ (hsz2 := hup _ hstart))
    simp only [bne_self_eq_false, Bool.false_eq_true, if_false]
    refine wpAny_pure (fin (SortSt.mk' general' (vs.toArray.zip vs.toArray).reverse #[] 7 none) hstart ?_)
    intro i j hij hj
    have : i = j := by rw [pairsOf_size] at hj; lia
    subst this; exact Int.le_refl _
  · rw [if_neg h2, if_neg h2]
    obtain ⟨v₁, v₂, rest, rfl⟩ : ∃ v₁ v₂ rest, vs = v₁ :: v₂ :: rest := by
      match vs, hsz, h2 with
      | [], _, h2 => simp at h2
      | [_], _, h2 => simp at h2
      | v₁ :: v₂ :: rest, _, _ => exact ⟨v₁, v₂, rest, rfl⟩
    rw [keyKind_ints hI]
    refine wpAny_bind (wpAny_pure ?_)
    refine wpAny_bind (wpAny_mono (wpS_sortRunsL (a₀ := pairsOf (v₁ :: v₂ :: rest))
      (st := SortSt.mk' oneType' ((v₁ :: v₂ :: rest).toArray.zip (v₁ :: v₂ :: rest).toArray).reverse #[] 7 none)
      (Q := fun z_ st' => (arrOf st').Perm (pairsOf (v₁ :: v₂ :: rest)) ∧ failedOf st' = none ∧ SortedTo (arrOf st') (pairsOf (v₁ :: v₂ :: rest)).size)
      hI.intKeys ⟨hstart, rfl, rfl, rfl⟩ (by rw [pairsOf_size]; simp) fun st' a1 a2 a3 => ⟨a1, a2, a3⟩) ?_ fun z_ z_ e => e)
    rintro ⟨⟨⟩, st'⟩ s' ⟨rfl, hp, hf, hs⟩
    dsimp only
    refine wpAny_bind (seqEpoch_at ho6 rfl ?_)
    refine wpAny_bind (listUpdate_at ho6 rfl ?_ (hsz2 := hup _ hp))
    rw [hf]
    simp only [bne_self_eq_false, Bool.false_eq_true, if_false]
    exact wpAny_pure (fin st' hp hs)
theorem sorted_intsL {l : Addr} {vs : List Value} {ns : List Int} {Q : Value → Shared → Prop} (hl : s.heap.IsList l vs.toArray) (hI : IntsAre vs ns) (hn : vs.length ≤ 1000)
    (h : ∀ (out : Array Value) (ns' : List Int), IntsAre out.toList ns' → ns'.Perm ns → ns'.Pairwise (· ≥ ·) → Q (.ref (s.heap.objs.size + 1)) { s with heap := sortedAll s.heap vs out }) :
    wpAny (model prog w) A (call (.builtin "sorted") [.ref l] revKw) Q E s := by
  refine call_function_entry_kw kind_sorted plain_sorted entry_sorted (args_sorted_rev _ _) ?_
  unfold Builtin.«sorted»
  refine wpAny_bind (m := checkCount "sorted" 1 1 _) (wpAny_pure ?_)
  refine wpAny_bind (collect_list hl ?_)
  refine wpAny_bind (wpAny_newList ?_)
  have hsz : ((s.heap.push (seqObj "list" #[] 0)).update s.heap.objs.size (Obj.mapSeq (· ++ vs.toArray))).objs.size = s.heap.objs.size + 1 := by
    rw [Heap.size_update, size_push']
  have hoL : (((s.heap.push (seqObj "list" #[] 0)).update s.heap.objs.size (Obj.mapSeq (· ++ vs.toArray))).push (seqObj "list" vs.toArray 0)).get? (s.heap.objs.size + 1) = some (seqObj "list" vs.toArray 0) := by
    rw [← hsz]; exact Heap.get?_push_size _ rfl
  show wpAny _ _ _ _ _ { s with heap := ((s.heap.push (seqObj "list" #[] 0)).update s.heap.objs.size (Obj.mapSeq (· ++ vs.toArray))).push (seqObj "list" vs.toArray 0) }
  rw [hsz]
  refine wpAny_bind (wpAny_holding (wpAny_call_entry_kw slot_list_sort ⟨_, hoL, rfl⟩ entry_list_sort (list_sort_treeL hoL hI hn fun out ns' a1 a2 a3 => ⟨_, rfl, ?_⟩) (args_list_sort_rev _ _)))
  exact wpAny_pure ⟨_, rfl, h out ns' a1 a2 a3⟩
end
end Mine.Internal
end

section
open PySem PySem.W PySem.Calls PyProof.Rows
set_option Elab.async false
set_option maxRecDepth 100000
set_option linter.unusedVariables false
set_option linter.unusedSimpArgs false
namespace Mine.Internal
theorem VRs.ofInts {Z : ZM} : ∀ {vs : List Value} {ns : List Int}, IntsAre vs ns → VRs Z (ns.map AV.int) vs
  | _, _, .nil => .nil
  | _, _, .cons n t h => .cons .int (VRs.ofInts h)
theorem VRs.toInts {Z : ZM} : ∀ {ns : List Int} {vs : List Value}, VRs Z (ns.map AV.int) vs → IntsAre vs ns
  | [], _, .nil => .nil
  | n :: ns, _, .cons h hs => by
    obtain ⟨t, rfl⟩ := h.toInt
    exact .cons n t hs.toInts
section
variable {F : Fm} {c : Cx} {ρ : AEnv} {H : AHs} {X : AX} {QV : AV → AEnv → AHs → Prop} {a : AV} {ns : List Int}
theorem TC.minL (hh : c.A.handled = Option.none) (hl : LV H a (ns.map AV.int)) (hne : 0 < ns.length) (h : ∀ m ∈ ns, (∀ x ∈ ns, m ≤ x) → QV (.int m) ρ H) : TC c (.val (.builtin "min")) [a] ρ H QV X := fun Z s fv vs S hf hv => by
  cases hf
  cases hv with | cons h1 h2 => cases h2; exact (by
    obtain ⟨l, us, rfl, hL, e2⟩ := hl.isList S h1
    obtain ⟨xs, e⟩ := e2.toInts.allInts.items
    have hns : ns = xs.toList.map (·.1) := by
      rw [← e2.toInts.numsOf, ← nums_intItems, ← e]
    have hsz : 0 < xs.size := by
      have h3 := hne; rw [hns, List.length_map, Array.length_toList] at h3; exact h3
    rw [Array.toArray_toList] at e
    rw [e] at hL
    refine min_intList hh hL hsz fun v h' tk hv hk => ?_
    obtain ⟨t, rfl⟩ := intItems_at hv
    obtain ⟨h1, h2⟩ := argBest_lt (numAt xs) (xs.size - 1)
    refine Post.now (S.ext (s' := { s with heap := h', toks := tk }) hk rfl rfl) .int (h _ ?_ fun x hx => ?_)
    · rw [hns, numAt_eq]; exact getD_mem (by rw [List.length_map, Array.length_toList]; omega)
    · rw [hns] at hx
      obtain ⟨j, hj, rfl⟩ := mem_getD hx
      rw [List.length_map, Array.length_toList] at hj
      rw [← numAt_eq]; exact h2 j (by (exact Nat.le_sub_of_add_le (by assumption))))
theorem WC.minL (hh : F.hn = true) (hl : LV H a (ns.map AV.int)) (hne : 0 < ns.length) (h : ∀ m ∈ ns, (∀ x ∈ ns, m ≤ x) → QV (.int m) ρ H) : WC F (.val (.builtin "min")) [a] ρ H QV X := ⟨fun c q => TC.minL (q.hdl hh) hl hne h⟩
inductive SortOf (QV : AV → AEnv → AHs → Prop) (as : List AV) (ρ : AEnv) (H : AHs) : Prop
  | mk (a : AV) (ns : List Int) (h0 : as = [a]) (h1 : LV H a (ns.map AV.int)) (h2 : ns.length ≤ 1000) (h3 : ∀ (D : Addr) (ns' : List Int), ns'.Perm ns → ns'.Pairwise (· ≥ ·) → QV (.ref D) ρ (one D (oList (ns'.map AV.int)) :: H)) : SortOf QV as ρ H
theorem TE.sortedRev {x : Str} {e : Expr} {p p2 p3 pos : Pos} {k : Nat} (hp : plainArgs [e] = true) (h : TE c (.Name x p) ρ H (fun f ρ₁ H₁ => f = .val (.builtin "sorted") ∧ TEs c [e] pos ρ₁ H₁ (SortOf QV) X) X) :
    TE c (.Call (.Name x p) [e] [⟨some (Str.ofString "reverse"), .Constant (.bool true) k p2, p3⟩] pos) ρ H QV X := fun Z s S => by
  refine wpAny_Call_Name_kw (wpAny_mono (h Z s S) (fun v s₁ ⟨f, ρ₁, H₁, Z₁, hz, hv, S₁, hf, h₁⟩ => ?_) fun z_ z_ x => x)
  subst hf
  cases hv
  refine wpLe hz (callWith_kw (wpAny_mono (h₁ Z₁ s₁ S₁) (fun vs s₂ ⟨as, ρ₂, H₂, Z₂, hz₂, hvs, S₂, g⟩ => ?_) fun z_ z_ x => x) (by rw [starEach_cons hp]; rfl) (by rw [starEach_plain hp]; rfl))
  cases g with | mk a ns h0 h1 h2 h3 => ?_
  subst h0
  refine kws_cons (wpAny_Constant_bool (kws_nil ?_))
  show wpAny _ _ (call (.builtin "sorted") vs [(Str.ofString "reverse", .bool true)]) _ _ _
  refine wpLe hz₂ ?_
  cases hvs with | cons g1 g2 => cases g2; exact (by
    obtain ⟨l, us, rfl, hL, e2⟩ := h1.isList S₂ g1
    have hI := e2.toInts
    have hlen : us.toList.length ≤ 1000 := by have := e2.length; rw [List.length_map] at this; lia
    refine sorted_intsL (vs := us.toList) (by rw [Array.toArray_toList]; exact hL) hI hlen fun out ns' o1 o2 o3 => ?_
    obtain ⟨e, he⟩ := sortedAll_at s₂.heap us.toList out
    exact ⟨_, ρ₂, _, Z₂, .refl _, .val, S₂.new (d := oList (ns'.map AV.int)) (fun b o e => sortedAll_old e) rfl rfl (Heap.get?_none_of_le (Nat.le_succ _)) he ⟨out, e, rfl, VRs.ofInts o1⟩, h3 _ ns' o2 o3⟩)
theorem WE.sortedRev (n : Nat) {x : Str} {e : Expr} {p p2 p3 pos : Pos} {k : Nat} (hp : plainArgs [e] = true) (h : (wRec n).E F (.Name x p) ρ H (fun f ρ₁ H₁ => f = .val (.builtin "sorted") ∧ (wRec n).Es F [e] ρ₁ H₁ (SortOf QV) X) X) :
    WE F (.Call (.Name x p) [e] [⟨some (Str.ofString "reverse"), .Constant (.bool true) k p2, p3⟩] pos) ρ H QV X := ⟨fun c q =>
  TE.sortedRev hp (((wRec_sound n).E F c q _ _ _ _ _ h).impQ fun f ρ₁ H₁ ⟨h1, h2⟩ => ⟨h1, (wRec_sound n).Es F c q _ _ _ _ _ _ h2⟩)⟩
theorem TC.range3 {a b st : Int} (hc : st ≠ 0) (hp : Builtin.divisionGoesByPylong (b - a) st = false) (h : ∀ r, QV (.ref r) ρ (one r (oRange a b st) :: H)) : TC c (.val (.type "range")) [.int a, .int b, .int st] ρ H QV X := fun Z s fv vs S hf hv => by
  cases hf
  cases hv with | cons h1 h2 => cases h1; cases h2 with | cons h2 h3 => cases h2; cases h3 with | cons h3 h4 => cases h3; cases h4; exact (by
    refine call_range_3 hc ?_ (.inl hp)
    exact ⟨_, ρ, _, Z, .refl _, .val, (S.push (d := oRange a b st) (o := { cls := .type "range", data := .fields #[.int a _, .int b _, .int st _] }) rfl ⟨_, _, _, rfl⟩).tok _, h _⟩)
theorem WC.range3 {a b st : Int} (hc : st ≠ 0) (hp : Builtin.divisionGoesByPylong (b - a) st = false) (h : ∀ r, QV (.ref r) ρ (one r (oRange a b st) :: H)) : WC F (.val (.type "range")) [.int a, .int b, .int st] ρ H QV X := ⟨fun c q => TC.range3 hc hp h⟩
theorem down_facts : ∀ n : Fin 20, Builtin.Range.small ((n.1 : Int) - 1) (-1) (-1) = true ∧ Builtin.Range.rangeSize ((n.1 : Int) - 1) (-1) (-1) = n.1 ∧ Builtin.divisionGoesByPylong (-1 - ((n.1 : Int) - 1)) (-1) = false := by decide +kernel
theorem rangeAV_down {n : Nat} : rangeAV ((n : Int) - 1) (-1) n = (List.range n).map fun (k : Nat) => AV.int (((n - 1 - k : Nat)) : Int) := by
  unfold rangeAV
  refine List.map_congr_left fun k hk => ?_
  have := List.mem_range.mp hk
  congr 1; omega
theorem WIter.down {target : Expr} {i n : Nat} {M : AM} {r : Addr} (hi : H[i]? = some M) (hr : M r = some (oRange ((n : Int) - 1) (-1) (-1))) (hn : n < 20) : WIter F H (.ref r) target (fun z_ => True) ((List.range n).map fun (k : Nat) => AV.int (((n - 1 - k : Nat)) : Int)) :=
  rangeAV_down ▸ WIter.range hi hr (down_facts ⟨n, hn⟩).1 (down_facts ⟨n, hn⟩).2.1
end
end Mine.Internal
end

section
open PySem PySem.W PySem.Calls PyProof.Rows
set_option Elab.async false
set_option maxRecDepth 100000
set_option linter.unusedVariables false
set_option linter.unusedSimpArgs false
namespace Mine.Internal
noncomputable def okAll (ks : List Key) : Prop := ∀ k ∈ ks, k.Ok
noncomputable def okPairs (cs : List (Key × Key)) : Prop := ∀ p ∈ cs, p.1.Ok ∧ p.2.Ok
noncomputable def cav (cs : List (Key × Key)) : List AV := cs.map pairAV
theorem filterMap_if {α β : Type} {p : α → Bool} {f : α → β} {l : List α} : (l.filterMap fun a => if p a = true then some (f a) else Option.none) = (l.filter p).map f := by
  induction l with
  | nil => rfl
  | cons a l ih => by_cases h : p a = true <;> simp [h, ih]
theorem take_snoc {α : Type} {ns : List α} {m : Nat} {p : α} (h : ns[m]? = some p) : ns.take (m + 1) = ns.take m ++ [p] := by rw [List.take_add_one, h]; rfl
noncomputable def cntOf (cs : List (Key × Key)) (k : Key) : Nat := (cs.filter fun p => decide (p.2 = k)).length
noncomputable def endsOf (cs : List (Key × Key)) (k : Key) : List Key := (cs.filter fun p => decide (p.1 = k)).map Prod.snd
noncomputable def stN (ns : List Key) (cs : List (Key × Key)) (k : Key) (n : Nat) : TSt := ⟨ns.map fun x => (x, ⟨(cntOf cs x : Int) + (if x = k then (n : Int) else 0), endsOf cs x⟩), Option.none, 0, 0⟩
noncomputable def stOf (ns : List Key) (cs : List (Key × Key)) : TSt := ⟨ns.map fun k => (k, ⟨(cntOf cs k : Int), endsOf cs k⟩), Option.none, 0, 0⟩
theorem stN_keys {ns : List Key} {cs : List (Key × Key)} {k : Key} {n : Nat} : (stN ns cs k n).keys = ns := by
  show (ns.map _).map Prod.fst = ns
  rw [List.map_map]
  exact List.map_id ns
theorem stN_zero {ns : List Key} {cs : List (Key × Key)} {k : Key} : stN ns cs k 0 = stOf ns cs := by
  unfold stN stOf
  congr 1
  refine List.map_congr_left fun x z_ => ?_
  congr 2
  split <;> rfl
noncomputable def InC (ns : List Key) (cs : List (Key × Key)) : Prop := ∀ p ∈ cs, p.1 ∈ ns ∧ p.2 ∈ ns
theorem InC.none {ns : List Key} {cs : List (Key × Key)} {k : Key} (h : InC ns cs) (hk : k ∉ ns) : cntOf cs k = 0 ∧ endsOf cs k = [] := by
  unfold cntOf endsOf
  rw [List.length_eq_zero_iff, List.map_eq_nil_iff, List.filter_eq_nil_iff, List.filter_eq_nil_iff]
  exact ⟨fun p hp e => hk (of_decide_eq_true e ▸ (h p hp).2), fun p hp e => hk (of_decide_eq_true e ▸ (h p hp).1)⟩
theorem mem_addK {ns : List Key} {k x : Key} : x ∈ addK ns k ↔ x ∈ ns ∨ x = k := by
  unfold addK
  split
  · exact ⟨.inl, fun h => h.elim id fun e => e ▸ ‹k ∈ ns›⟩
  · rw [List.mem_append, List.mem_singleton]
set_option tactic.hygienic true in
theorem addK_nodup {ns : List Key} {k : Key} (h : ns.Nodup) : (addK ns k).Nodup := by
  unfold addK
  split
  · exact h
  · rename_i hk
    exact List.nodup_append.mpr ⟨h, List.nodup_cons.mpr ⟨List.not_mem_nil, List.nodup_nil⟩, fun a ha b hb e => hk (by rw [List.mem_singleton] at hb; rw [← hb, ← e]; exact ha)⟩
set_option tactic.hygienic true in
theorem getI_stN {ns : List Key} {cs : List (Key × Key)} {k x : Key} {n : Nat} (h : InC ns cs) (hk : k ∈ ns ∨ n = 0) : (stN ns cs k n).getI x = stN (addK ns x) cs k n := by
  unfold TSt.getI addK
  rw [stN_keys]
  split
  · rfl
  · rename_i hx
    obtain ⟨h1, h2⟩ := h.none hx
    have h3 : (if x = k then (n : Int) else 0) = 0 := by
      split
      · rename_i e
        rcases hk with hk | hk
        · exact absurd (e ▸ hk) hx
        · lia
      · rfl
    unfold stN
    rw [List.map_append, List.map_cons, List.map_nil, h1, h2, h3]; rfl
theorem upd_stN {ns : List Key} {cs : List (Key × Key)} {k : Key} {m n : Nat} : ((stN ns cs k m).upd k fun i => { i with np := i.np + n }) = stN ns cs k (m + n) := by
  unfold stN TSt.upd
  simp only [List.map_map]
  congr 1
  refine List.map_congr_left fun x z_ => ?_
  simp only [Function.comp]
  by_cases hx : x = k
  · rw [if_pos hx, if_pos hx, if_pos hx, Int.natCast_add, Int.add_assoc]
  · rw [if_neg hx, if_neg hx, if_neg hx]
theorem link_stN {ns : List Key} {cs : List (Key × Key)} {k p : Key} {n : Nat} (h : InC ns cs) (hk : k ∈ ns) : (stN ns cs k (n + 1)).link p k = stN (addK ns p) (cs ++ [(p, k)]) k n := by
  unfold TSt.link
  rw [getI_stN h (.inl hk)]
  unfold stN TSt.upd
  simp only [List.map_map]
  congr 1
  refine List.map_congr_left fun x z_ => ?_
  simp only [Function.comp, cntOf, endsOf, List.filter_append, List.length_append, List.map_append]
  by_cases h1 : x = k
  · subst h1
    by_cases h2 : x = p
    · subst h2; simp; lia
    · have h3 : ¬ p = x := fun q => h2 q.symm
      simp [h2, h3]; lia
  · have h4 : ¬ k = x := fun q => h1 q.symm
    by_cases h2 : x = p
    · subst h2; simp [h1, h4]
    · have h3 : ¬ p = x := fun q => h2 q.symm
      simp [h1, h2, h3, h4]
theorem links_stN {k : Key} : ∀ {ps ns : List Key} {cs : List (Key × Key)}, InC ns cs → k ∈ ns → ps.foldl (fun t p => t.link p k) (stN ns cs k ps.length) = stOf (ps.foldl addK ns) (cs ++ ps.map fun p => (p, k))
  | [], ns, cs, _, _ => by simp [stN_zero]
  | p :: ps, ns, cs, h, hk => by
    have hk' : k ∈ addK ns p := mem_addK.mpr (.inl hk)
    have h' : InC (addK ns p) (cs ++ [(p, k)]) := fun q hq => by
      rcases List.mem_append.mp hq with hq | hq
      · exact ⟨mem_addK.mpr (.inl (h q hq).1), mem_addK.mpr (.inl (h q hq).2)⟩
      · rw [List.mem_singleton.mp hq]; exact ⟨mem_addK.mpr (.inr rfl), hk'⟩
    rw [List.foldl_cons, List.length_cons, link_stN h hk, links_stN h' hk', List.append_assoc]; rfl
theorem add_stOf {ns : List Key} {cs : List (Key × Key)} {k : Key} {ps : List Key} (h : InC ns cs) : (stOf ns cs).add k ps = stOf (ps.foldl addK (addK ns k)) (cs ++ ps.map fun p => (p, k)) := by
  unfold TSt.add
  rw [← stN_zero (k := k), getI_stN h (.inr rfl), upd_stN, Nat.zero_add]
  refine links_stN (fun q hq => ⟨mem_addK.mpr (.inl (h q hq).1), mem_addK.mpr (.inl (h q hq).2)⟩) (mem_addK.mpr (.inr rfl))
theorem mem_addKs {x : Key} : ∀ {ps ns : List Key}, x ∈ ps.foldl addK ns ↔ x ∈ ns ∨ x ∈ ps
  | [], ns => by simp
  | p :: ps, ns => by rw [List.foldl_cons, mem_addKs, mem_addK, List.mem_cons, or_assoc]
theorem addKs_nodup : ∀ {ps ns : List Key}, ns.Nodup → (ps.foldl addK ns).Nodup
  | [], _, h => h
  | p :: ps, ns, h => addKs_nodup (ps := ps) (addK_nodup h)
noncomputable def FreeP (cs : List (Key × Key)) (o : List Key) (k : Key) : Prop := ∀ p ∈ cs, p.2 = k → p.1 ∈ o
noncomputable def ValidO (cs : List (Key × Key)) (o : List Key) : Prop := ∀ i k, o[i]? = some k → FreeP cs (o.take i) k
theorem FreeP.mono {cs : List (Key × Key)} {o o' : List Key} {k : Key} (h : FreeP cs o k) (hs : ∀ x ∈ o, x ∈ o') : FreeP cs o' k := fun p hp e => hs _ (h p hp e)
theorem ValidO.nil {cs : List (Key × Key)} : ValidO cs [] := fun i k h => by simp at h
theorem ValidO.snoc {cs : List (Key × Key)} {o : List Key} {k : Key} : ValidO cs (o ++ [k]) ↔ ValidO cs o ∧ FreeP cs o k := by
  constructor
  · intro h
    refine ⟨fun i x hx => ?_, ?_⟩
    · have hi := (List.getElem?_eq_some_iff.mp hx).1
      have := h i x (by rw [List.getElem?_append_left hi]; exact hx)
      rwa [List.take_append_of_le_length (Nat.le_of_lt hi)] at this
    · have := h o.length k (by simp)
      simpa using this
  · rintro ⟨h1, h2⟩ i x hx
    by_cases hi : i < o.length
    · rw [List.getElem?_append_left hi] at hx
      rw [List.take_append_of_le_length (Nat.le_of_lt hi)]
      exact h1 i x hx
    · have hi2 := (List.getElem?_eq_some_iff.mp hx).1
      simp at hi2
      have : i = o.length := by lia
      subst this
      simp at hx
      subst hx
      simpa using h2
theorem scOf_stOf {ns : List Key} {cs : List (Key × Key)} {k : Key} (hk : k ∈ ns) : (stOf ns cs).scOf k = endsOf cs k := by
  unfold TSt.scOf TSt.shape stOf
  simp only [List.map_map]
  have : ∀ l : List Key, k ∈ l → (l.map ((fun p : Key × NI => (p.1, p.2.sc)) ∘ fun k => (k, (⟨(cntOf cs k : Int), endsOf cs k⟩ : NI)))).find? (fun p => decide (p.1 = k)) = some (k, endsOf cs k) := by
    intro l
    induction l with
    | nil => intro h; cases h
    | cons x l ih =>
      intro h
      rw [List.map_cons, List.find?_cons]
      by_cases hx : x = k
      · subst hx; simp
      · simp only [Function.comp, decide_eq_false hx]
        exact ih (by rcases List.mem_cons.mp h with h | h; exact absurd h.symm hx; exact h)
  rw [this ns hk]; rfl
theorem mem_endsOf {cs : List (Key × Key)} {a b : Key} : b ∈ endsOf cs a ↔ (a, b) ∈ cs := by
  unfold endsOf
  rw [List.mem_map]
  constructor
  · rintro ⟨⟨x, y⟩, hp, rfl⟩
    rw [List.mem_filter] at hp
    have : x = a := by simpa using hp.2
    subst this; exact hp.1
  · intro h; exact ⟨(a, b), List.mem_filter.mpr ⟨h, by simp⟩, rfl⟩
end Mine.Internal
end

section
open PySem PySem.W PySem.Calls PyProof.Rows
set_option Elab.async false
set_option maxRecDepth 100000
set_option linter.unusedVariables false
set_option linter.unusedSimpArgs false
namespace Mine.Internal
noncomputable def openOf (cs : List (Key × Key)) (o : List Key) (k : Key) : Nat := cs.countP fun p => decide (p.2 = k) && !decide (p.1 ∈ o)
theorem openOf_zero {cs : List (Key × Key)} {o : List Key} {k : Key} : openOf cs o k = 0 ↔ FreeP cs o k := by
  unfold openOf FreeP
  rw [List.countP_eq_zero]
  constructor
  · intro h p hp he
    have := h p hp
    simp [he] at this
    exact this
  · intro h p hp
    by_cases he : p.2 = k
    · simp [he, h p hp he]
    · simp [he]
structure RSt (ns : List Key) (cs : List (Key × Key)) (o l rd : List Key) (T : TSt) : Prop where
  shape : T.shape = ns.map fun k => (k, endsOf cs k)
  np : ∀ k ∈ ns, T.npOf k = if k ∈ o then -2 else if k ∈ l then -1 else (openOf cs o k : Int)
  ready : T.ready = some rd
  passed : T.passed = o.length + l.length
  fin : T.fin = o.length
  nd : (o ++ l ++ rd).Nodup
  sub : ∀ k ∈ o ++ l ++ rd, k ∈ ns
  free : ∀ k ∈ o ++ l ++ rd, FreeP cs o k
  all : ∀ k ∈ ns, k ∉ o → k ∉ l → FreeP cs o k → k ∈ rd
theorem RSt.keys {ns : List Key} {cs : List (Key × Key)} {o l rd : List Key} {T : TSt} (R : RSt ns cs o l rd T) : T.keys = ns := by
  rw [TSt.shape_keys, R.shape, List.map_map]; exact List.map_id ns
theorem RSt.small {ns : List Key} {cs : List (Key × Key)} {o l rd : List Key} {T : TSt} {b : Nat} (R : RSt ns cs o l rd T) (h1 : ns.length ≤ b) (h2 : cs.length ≤ b) : T.Small b := by
  refine TSt.small_shape.mpr ⟨by rw [R.shape, List.length_map]; exact h1, fun p hp => ?_⟩
  rw [R.shape] at hp
  obtain ⟨k, _, rfl⟩ := List.mem_map.mp hp
  show (endsOf cs k).length ≤ b
  rw [endsOf, List.length_map]
  exact Nat.le_trans (List.length_filter_le ..) h2
theorem RSt.closed {ns : List Key} {cs : List (Key × Key)} {o l rd : List Key} {T : TSt} (R : RSt ns cs o l rd T) (hcs : ∀ p ∈ cs, p.1 ∈ ns ∧ p.2 ∈ ns) : ∀ p ∈ T.shape, ∀ s ∈ p.2, s ∈ T.keys := by
  intro p hp s hs
  rw [R.keys]
  rw [R.shape] at hp
  obtain ⟨k, _, rfl⟩ := List.mem_map.mp hp
  exact (hcs _ (mem_endsOf.mp hs)).2
theorem RSt.scOf {ns : List Key} {cs : List (Key × Key)} {o l rd : List Key} {T : TSt} (R : RSt ns cs o l rd T) {k : Key} (hk : k ∈ ns) : T.scOf k = endsOf cs k := by
  have e : T.shape = (stOf ns cs).shape := by rw [R.shape]; simp [TSt.shape, stOf]
  unfold TSt.scOf
  rw [e]
  exact scOf_stOf hk
theorem npOf_map {l : List (Key × NI)} {g : Key × NI → NI} {k : Key} (hk : k ∈ l.map Prod.fst) : ∃ i : NI, (l.find? fun p => decide (p.1 = k)) = some (k, i) ∧ ((l.map fun p => (p.1, g p)).find? fun p => decide (p.1 = k)) = some (k, g (k, i)) := by
  induction l with
  | nil => cases hk
  | cons p l ih =>
    obtain ⟨a, i⟩ := p
    by_cases ha : a = k
    · subst ha; exact ⟨i, by simp, by simp⟩
    · obtain ⟨j, h1, h2⟩ := ih (by rcases List.mem_cons.mp hk with h | h; exact absurd h.symm ha; exact h)
      refine ⟨j, ?_, ?_⟩
      · rw [List.find?_cons]; simp only [decide_eq_false ha]; exact h1
      · rw [List.map_cons, List.find?_cons]; simp only [decide_eq_false ha]; exact h2
theorem TSt.npOf_upd {t : TSt} {k x : Key} {g : NI → Int} (hx : x ∈ t.keys) : ∃ i, t.npOf x = i.np ∧ (t.upd k fun i => { i with np := g i }).npOf x = if x = k then g i else i.np := by
  have e : (t.upd k fun i => { i with np := g i }).nodes = t.nodes.map fun p => (p.1, if p.1 = k then { p.2 with np := g p.2 } else p.2) := by
    show t.nodes.map _ = _
    refine List.map_congr_left fun p z_ => ?_
    by_cases h : p.1 = k
    · rw [if_pos h, if_pos h]
    · rw [if_neg h, if_neg h]
  obtain ⟨i, h1, h2⟩ := npOf_map (l := t.nodes) (g := fun p => if p.1 = k then { p.2 with np := g p.2 } else p.2) hx
  refine ⟨i, ?_, ?_⟩
  · unfold TSt.npOf; rw [h1]; rfl
  · unfold TSt.npOf
    rw [e, h2]
    by_cases h : x = k
    · simp [h]
    · simp [h]
theorem TSt.npOf_dec {t : TSt} {s x : Key} (hx : x ∈ t.keys) : (t.dec s).npOf x = t.npOf x - if x = s then 1 else 0 := by
  have h : (t.dec s).npOf x = (t.upd s fun i => { i with np := i.np - 1 }).npOf x := by unfold TSt.dec; split <;> rfl
  rw [h]
  obtain ⟨i, h1, h2⟩ := TSt.npOf_upd (k := s) (g := fun i => i.np - 1) hx
  rw [h2, h1]
  by_cases e : x = s
  · simp [e]
  · simp [e]
theorem TSt.npOf_outs {t : TSt} {ks : List Key} {x : Key} (hx : x ∈ t.keys) : (t.outs ks).npOf x = if x ∈ ks then -1 else t.npOf x := by
  have e : (t.outs ks).nodes = t.nodes.map fun p => (p.1, if p.1 ∈ ks then { p.2 with np := -1 } else p.2) := by
    show t.nodes.map _ = _
    refine List.map_congr_left fun p z_ => ?_
    by_cases h : p.1 ∈ ks
    · rw [if_pos h, if_pos h]
    · rw [if_neg h, if_neg h]
  obtain ⟨i, h1, h2⟩ := npOf_map (l := t.nodes) (g := fun p => if p.1 ∈ ks then { p.2 with np := -1 } else p.2) hx
  unfold TSt.npOf
  rw [e, h1, h2]
  by_cases h : x ∈ ks
  · simp [h]
  · simp [h]
theorem TSt.outs_shape {t : TSt} {ks : List Key} : (t.outs ks).shape = t.shape := by
  unfold TSt.outs TSt.shape
  rw [List.map_map]
  exact List.map_congr_left fun p z_ => by simp only [Function.comp]; split <;> rfl
theorem TSt.dec_keys {t : TSt} {s : Key} : (t.dec s).keys = t.keys := by rw [TSt.shape_keys, TSt.shape_keys, TSt.dec_shape]
theorem decs_np : ∀ (ss : List Key) {t : TSt} {rd : List Key}, t.ready = some rd → (∀ s ∈ ss, s ∈ t.keys ∧ (ss.count s : Int) ≤ t.npOf s) →
    (∀ x ∈ t.keys, (ss.foldl TSt.dec t).npOf x = t.npOf x - ss.count x) ∧ ∃ rd', (ss.foldl TSt.dec t).ready = some (rd ++ rd') ∧ rd'.Nodup ∧ ∀ s, s ∈ rd' ↔ s ∈ ss ∧ t.npOf s = ss.count s := by
  intro ss
  induction ss with
  | nil => intro t rd hr _; exact ⟨fun x z_ => by simp, [], by simp [hr], List.nodup_nil, fun s => by simp⟩
  | cons s ss ih =>
    intro t rd hr hss
    have hs := hss s (List.mem_cons_self ..)
    have hcnt : ∀ x, (s :: ss).count x = ss.count x + if x = s then 1 else 0 := fun x => by
      rw [List.count_cons]
      by_cases e : x = s
      · subst e; simp
      · have : ¬ (s == x) = true := fun q => e ((beq_iff_eq.mp q).symm)
        simp [e, this]
    have hdec : ∀ x ∈ t.keys, (t.dec s).npOf x = t.npOf x - if x = s then 1 else 0 := fun x hx => TSt.npOf_dec hx
    have hpre : ∀ x ∈ ss, x ∈ (t.dec s).keys ∧ (ss.count x : Int) ≤ (t.dec s).npOf x := fun x hx => by
      obtain ⟨h1, h2⟩ := hss x (List.mem_cons_of_mem _ hx)
      refine ⟨by rw [TSt.dec_keys]; exact h1, ?_⟩
      rw [hdec x h1]
      rw [hcnt] at h2
      by_cases e : x = s
      · rw [if_pos e] at h2 ⊢; lia
      · rw [if_neg e] at h2 ⊢; lia
    have hnum : ∀ {rd1 : List Key}, (t.dec s).ready = some rd1 → (∀ x ∈ t.keys, ((s :: ss).foldl TSt.dec t).npOf x = t.npOf x - (s :: ss).count x) := fun {rd1} h1 x hx => by
      show (ss.foldl TSt.dec (t.dec s)).npOf x = _
      rw [(ih h1 hpre).1 x (by rw [TSt.dec_keys]; exact hx), hdec x hx, hcnt]
      by_cases e : x = s
      · rw [if_pos e, if_pos e]; lia
      · rw [if_neg e, if_neg e]; lia
    have hc := hs.2
    rw [hcnt, if_pos rfl] at hc
    by_cases hz : t.npOf s - 1 = 0
    · have h1 : (t.dec s).ready = some (rd ++ [s]) := by unfold TSt.dec; rw [if_pos hz]; simp [TSt.rd, hr]
      obtain ⟨_, rd', h2, h3, h4⟩ := ih h1 hpre
      refine ⟨hnum h1, s :: rd', by show (ss.foldl TSt.dec (t.dec s)).ready = _; rw [h2]; simp, List.nodup_cons.mpr ⟨fun hin => ?_, h3⟩, fun x => ?_⟩
      · have := (h4 s).mp hin
        rw [hdec s hs.1, if_pos rfl] at this
        have hp := List.count_pos_iff.mpr this.1
        lia
      · rw [List.mem_cons, List.mem_cons, h4, hcnt]
        by_cases e : x = s
        · subst e
          rw [if_pos rfl]
          exact ⟨fun z_ => ⟨.inl rfl, by lia⟩, fun z_ => .inl rfl⟩
        · rw [if_neg e]
          constructor
          · rintro (h | ⟨h, h'⟩)
            · exact absurd h e
            · rw [hdec x (hss x (List.mem_cons_of_mem _ h)).1, if_neg e] at h'
              exact ⟨.inr h, by lia⟩
          · rintro ⟨h | h, h'⟩
            · exact absurd h e
            · refine .inr ⟨h, ?_⟩
              rw [hdec x (hss x (List.mem_cons_of_mem _ h)).1, if_neg e]; lia
    · have h1 : (t.dec s).ready = some rd := by unfold TSt.dec; rw [if_neg hz]; exact hr
      obtain ⟨_, rd', h2, h3, h4⟩ := ih h1 hpre
      refine ⟨hnum h1, rd', h2, h3, fun x => ?_⟩
      rw [List.mem_cons, h4, hcnt]
      by_cases e : x = s
      · subst e
        rw [if_pos rfl, hdec x hs.1, if_pos rfl]
        constructor
        · rintro ⟨h, h'⟩; exact ⟨.inl rfl, by lia⟩
        · rintro ⟨_, h'⟩
          refine ⟨List.count_pos_iff.mp ?_, by lia⟩
          lia
      · rw [if_neg e]
        constructor
        · rintro ⟨h, h'⟩
          rw [hdec x (hss x (List.mem_cons_of_mem _ h)).1, if_neg e] at h'
          exact ⟨.inr h, by lia⟩
        · rintro ⟨h | h, h'⟩
          · exact absurd h e
          · refine ⟨h, ?_⟩
            rw [hdec x (hss x (List.mem_cons_of_mem _ h)).1, if_neg e]; lia
section
variable {ns : List Key} {cs : List (Key × Key)} {o l rd : List Key} {T : TSt}
theorem npOf_stOf {k : Key} (hk : k ∈ ns) : (stOf ns cs).npOf k = cntOf cs k := by
  unfold TSt.npOf stOf
  have : ∀ l : List Key, k ∈ l → (l.map fun k => (k, (⟨(cntOf cs k : Int), endsOf cs k⟩ : NI))).find? (fun p => decide (p.1 = k)) = some (k, ⟨(cntOf cs k : Int), endsOf cs k⟩) := by
    intro l
    induction l with
    | nil => intro h; cases h
    | cons x l ih =>
      intro h
      rw [List.map_cons, List.find?_cons]
      by_cases hx : x = k
      · subst hx; simp
      · simp only [decide_eq_false hx]
        exact ih (by rcases List.mem_cons.mp h with h | h; exact absurd h.symm hx; exact h)
  rw [this ns hk]; rfl
theorem cntOf_open {k : Key} : cntOf cs k = openOf cs [] k := by
  unfold cntOf openOf
  rw [List.countP_eq_length_filter]
  simp
theorem RSt.prep (hns : ns.Nodup) : RSt ns cs [] [] (stOf ns cs).zero (stOf ns cs).prep := by
  have hz : (stOf ns cs).zero = ns.filter fun k => decide (openOf cs [] k = 0) := by
    unfold TSt.zero stOf
    rw [List.filterMap_map, ← List.filterMap_eq_filter]
    refine congrArg (fun f => List.filterMap f ns) (funext fun k => ?_)
    show (if ((cntOf cs k : Nat) : Int) = 0 then some k else Option.none) = _
    rw [cntOf_open]
    by_cases h : openOf cs [] k = 0
    · simp [h, Option.guard]
    · have : ¬ ((openOf cs [] k : Nat) : Int) = 0 := by lia
      simp [h, this, Option.guard]
  refine ⟨by simp [TSt.prep, TSt.shape, stOf], fun k hk => ?_, rfl, rfl, rfl, ?_, fun k hk => ?_, fun k hk => ?_, fun k hk z_ z_ hf => ?_⟩
  · show (stOf ns cs).npOf k = _
    rw [npOf_stOf hk, cntOf_open]; simp
  · rw [hz]; exact hns.sublist List.filter_sublist
  · rw [hz] at hk; simp at hk; exact hk.1
  · rw [hz] at hk; simp at hk; exact openOf_zero.mp hk.2
  · rw [hz]; exact List.mem_filter.mpr ⟨hk, by simpa using openOf_zero.mpr hf⟩
theorem RSt.getReady (R : RSt ns cs o l rd T) : RSt ns cs o (l ++ rd) [] (T.getReady rd) := by
  have hk := R.keys
  refine ⟨(TSt.outs_shape (t := T)).trans R.shape, fun k hk' => ?_, rfl, ?_, R.fin, ?_, ?_, ?_, fun k hk' h1 h2 h3 => ?_⟩
  · show (T.outs rd).npOf k = _
    rw [TSt.npOf_outs (by rw [hk]; exact hk'), R.np k hk']
    have hnd := R.nd
    by_cases h : k ∈ rd
    · have h1 : k ∉ o := fun q => (List.nodup_append.mp hnd).2.2 k (List.mem_append_left _ q) k h rfl
      rw [if_pos h, if_neg h1, if_pos (List.mem_append_right _ h)]
    · rw [if_neg h]
      have : k ∈ l ++ rd ↔ k ∈ l := by rw [List.mem_append]; exact ⟨fun q => q.resolve_right h, .inl⟩
      simp only [this]
  · show T.passed + _ = _
    rw [R.passed, List.length_append]; lia
  · simpa [List.append_assoc] using R.nd
  · intro k hk'; exact R.sub k (by simpa [List.append_assoc] using hk')
  · intro k hk'; exact R.free k (by simpa [List.append_assoc] using hk')
  · rw [List.mem_append, not_or] at h2
    exact absurd (R.all k hk' h1 h2.1 h3) h2.2
theorem openOf_snoc {k s : Key} (hk : k ∉ o) : openOf cs o s = openOf cs (o ++ [k]) s + (endsOf cs k).count s := by
  unfold openOf endsOf
  induction cs with
  | nil => rfl
  | cons p cs ih =>
    obtain ⟨a, b⟩ := p
    rw [List.countP_cons, List.countP_cons, ih, List.filter_cons]
    by_cases h1 : a = k
    · subst h1
      by_cases h2 : b = s
      · subst h2; simp [hk]; (exact Nat.add_assoc ..)
      · have : ¬ (b == s) = true := by simpa using h2
        simp [h2, List.count_cons, this]
    · simp [h1]; lia
theorem RSt.done (R : RSt ns cs o l rd T) (hcs : ∀ p ∈ cs, p.1 ∈ ns ∧ p.2 ∈ ns) {k : Key} {l' : List Key} (hl : l.Perm (k :: l')) : ∃ rd', RSt ns cs (o ++ [k]) l' (rd ++ rd') (T.done1 k) ∧ T.npOf k = -1 ∧ (T.done1 k).npOf k = -2 := by
  have hkl : k ∈ l := hl.mem_iff.mpr (List.mem_cons_self ..)
  have hk : k ∈ ns := R.sub k (by simp [hkl])
  have hnd := R.nd
  have hko : k ∉ o := fun q => (List.nodup_append.mp (List.nodup_append.mp hnd).1).2.2 k q k hkl rfl
  have hnp : T.npOf k = -1 := by rw [R.np k hk, if_neg hko, if_pos hkl]
  have hkeys := R.keys
  have hnl : ∀ s, s ∈ endsOf cs k → s ∉ o ∧ s ∉ l ∧ s ∉ rd := fun s hs => by
    have hn : ¬ FreeP cs o s := fun hf => hko (hf _ (mem_endsOf.mp hs) rfl)
    exact ⟨fun q => hn (R.free s (by simp [q])), fun q => hn (R.free s (by simp [q])), fun q => hn (R.free s (by simp [q]))⟩
  have hks : k ∉ endsOf cs k := fun q => (hnl k q).2.1 hkl
  have hsk : ∀ s ∈ endsOf cs k, ¬ s = k := fun s hs q => hks (q ▸ hs)
  have hends : ∀ s ∈ endsOf cs k, s ∈ ns := fun s hs => (hcs _ (mem_endsOf.mp hs)).2
  have hu : ∀ x ∈ ns, (T.upd k fun i => { i with np := -2 }).npOf x = if x = k then -2 else T.npOf x := fun x hx => by
    obtain ⟨i, h1, h2⟩ := TSt.npOf_upd (t := T) (k := k) (g := fun z_ => -2) (x := x) (by rw [hkeys]; exact hx)
    rw [h2, h1]
  have huk : (T.upd k fun i => { i with np := -2 }).keys = ns := by rw [TSt.shape_keys, TSt.upd_shape (g := fun z_ => -2), ← TSt.shape_keys, hkeys]
  have hpre : ∀ s ∈ endsOf cs k, s ∈ (T.upd k fun i => { i with np := -2 }).keys ∧ ((endsOf cs k).count s : Int) ≤ (T.upd k fun i => { i with np := -2 }).npOf s := fun s hs => by
    refine ⟨by rw [huk]; exact hends s hs, ?_⟩
    rw [hu s (hends s hs), if_neg (hsk s hs), R.np s (hends s hs), if_neg (hnl s hs).1, if_neg (hnl s hs).2.1, openOf_snoc hko]
    lia
  obtain ⟨h1, rd', h2, h3, h4⟩ := decs_np (endsOf cs k) (t := T.upd k fun i => { i with np := -2 }) (rd := rd) R.ready hpre
  have hd : T.done1 k = { (endsOf cs k).foldl TSt.dec (T.upd k fun i => { i with np := -2 }) with fin := T.fin + 1 } := by unfold TSt.done1; rw [R.scOf hk]
  have hnp' : ∀ x ∈ ns, (T.done1 k).npOf x = (if x = k then -2 else T.npOf x) - (endsOf cs k).count x := fun x hx => by
    rw [hd, ← hu x hx]; exact h1 x (by rw [huk]; exact hx)
  have hml : ∀ x, x ∈ l ↔ x = k ∨ x ∈ l' := fun x => by rw [hl.mem_iff, List.mem_cons]
  have hmo : ∀ x, x ∈ o ++ [k] ↔ x ∈ o ∨ x = k := fun x => by rw [List.mem_append, List.mem_singleton]
  have hrd' : ∀ s, s ∈ rd' ↔ s ∈ endsOf cs k ∧ openOf cs (o ++ [k]) s = 0 := fun s => by
    rw [h4]
    constructor
    · rintro ⟨hs, he⟩
      refine ⟨hs, ?_⟩
      rw [hu s (hends s hs), if_neg (hsk s hs), R.np s (hends s hs), if_neg (hnl s hs).1, if_neg (hnl s hs).2.1, openOf_snoc hko] at he
      lia
    · rintro ⟨hs, he⟩
      refine ⟨hs, ?_⟩
      rw [hu s (hends s hs), if_neg (hsk s hs), R.np s (hends s hs), if_neg (hnl s hs).1, if_neg (hnl s hs).2.1, openOf_snoc hko]
      lia
  have hall : ∀ x, x ∈ o ++ [k] ++ l' ++ (rd ++ rd') ↔ x ∈ o ++ l ++ rd ∨ x ∈ rd' := fun x => by
    simp only [List.mem_append, List.mem_singleton, hml]
    constructor
    · rintro (((h | h) | h) | (h | h))
      · exact .inl (.inl (.inl h))
      · exact .inl (.inl (.inr (.inl h)))
      · exact .inl (.inl (.inr (.inr h)))
      · exact .inl (.inr h)
      · exact .inr h
    · rintro (((h | (h | h)) | h) | h)
      · exact .inl (.inl (.inl h))
      · exact .inl (.inl (.inr h))
      · exact .inl (.inr h)
      · exact .inr (.inl h)
      · exact .inr (.inr h)
  refine ⟨rd', ⟨TSt.done1_shape.trans R.shape, fun x hx => ?_, by rw [hd]; exact h2, ?_, ?_, ?_, fun x hx => ?_, fun x hx => ?_, fun x hx hxo hxl hf => ?_⟩, hnp, ?_⟩
  · rw [hnp' x hx]
    by_cases e : x = k
    · subst e
      rw [if_pos rfl, if_pos ((hmo x).mpr (.inr rfl)), List.count_eq_zero.mpr hks]; rfl
    · rw [if_neg e, R.np x hx]
      by_cases ho : x ∈ o
      · have hn : x ∉ endsOf cs k := fun q => (hnl x q).1 ho
        rw [if_pos ho, if_pos ((hmo x).mpr (.inl ho)), List.count_eq_zero.mpr hn]; rfl
      · have ho' : x ∉ o ++ [k] := fun q => ((hmo x).mp q).elim ho e
        rw [if_neg ho, if_neg ho']
        by_cases hxl : x ∈ l
        · have hn : x ∉ endsOf cs k := fun q => (hnl x q).2.1 hxl
          rw [if_pos hxl, if_pos (((hml x).mp hxl).resolve_left e), List.count_eq_zero.mpr hn]; rfl
        · have hxl' : x ∉ l' := fun q => hxl ((hml x).mpr (.inr q))
          rw [if_neg hxl, if_neg hxl', openOf_snoc hko]; lia
  · have h5 : (T.done1 k).passed = T.passed := by rw [hd]; exact TSt.decs_shape.2.2
    rw [h5, R.passed]
    have := hl.length_eq
    rw [List.length_append, this]; simp; lia
  · show (T.done1 k).fin = _
    rw [hd]
    show T.fin + 1 = _
    rw [R.fin, List.length_append]; simp
  · have hp : (o ++ [k] ++ l' ++ (rd ++ rd')).Perm ((o ++ l ++ rd) ++ rd') := by
      rw [← List.append_assoc]
      refine List.Perm.append_right _ (List.Perm.append_right _ ?_)
      rw [List.append_assoc]
      exact List.Perm.append_left _ hl.symm
    rw [hp.nodup_iff]
    refine List.nodup_append.mpr ⟨hnd, h3, fun a ha b hb e => ?_⟩
    subst e
    have := hnl a ((hrd' a).mp hb).1
    simp [this] at ha
  · rcases (hall x).mp hx with h | h
    · exact R.sub x h
    · exact hends x ((hrd' x).mp h).1
  · rcases (hall x).mp hx with h | h
    · exact (R.free x h).mono fun y hy => (hmo y).mpr (.inl hy)
    · exact openOf_zero.mp ((hrd' x).mp h).2
  · have hxo' : x ∉ o ∧ x ≠ k := ⟨fun q => hxo ((hmo x).mpr (.inl q)), fun q => hxo ((hmo x).mpr (.inr q))⟩
    have hxl' : x ∉ l := fun q => ((hml x).mp q).elim hxo'.2 hxl
    by_cases hf0 : FreeP cs o x
    · exact List.mem_append_left _ (R.all x hx hxo'.1 hxl' hf0)
    · refine List.mem_append_right _ ((hrd' x).mpr ⟨?_, openOf_zero.mpr hf⟩)
      refine Classical.byContradiction fun hc => hf0 fun p hp he => ?_
      rcases (hmo p.1).mp (hf p hp he) with h | h
      · exact h
      · exact absurd (mem_endsOf.mpr (by rw [← he, ← h]; exact hp)) hc
  · rw [hnp' k hk, if_pos rfl, List.count_eq_zero.mpr hks]; rfl
theorem RSt.dones (hcs : ∀ p ∈ cs, p.1 ∈ ns ∧ p.2 ∈ ns) : ∀ {l o rd : List Key} {T : TSt}, RSt ns cs o l rd T → ∀ m, m ≤ l.length → ∃ rd', RSt ns cs (o ++ l.take m) (l.drop m) rd' ((l.take m).foldl TSt.done1 T) := by
  intro l o rd T R m
  induction m with
  | zero => intro _; exact ⟨rd, by simpa using R⟩
  | succ m ih =>
    intro hm
    obtain ⟨rd1, R1⟩ := ih (by (exact Nat.le_of_lt (by assumption)))
    have hd : l.drop m = l[m] :: l.drop (m + 1) := List.drop_eq_getElem_cons (by assumption)
    obtain ⟨rd2, R2, _, _⟩ := R1.done hcs (k := l[m]) (l' := l.drop (m + 1)) (by rw [hd])
    refine ⟨rd1 ++ rd2, ?_⟩
    rw [take_snoc (List.getElem?_eq_getElem (show m < l.length by assumption)), List.foldl_append, ← List.append_assoc]
    exact R2
end
end Mine.Internal
end

section
open PySem PySem.W PySem.Calls PyProof.Rows
set_option Elab.async false
set_option maxRecDepth 100000
set_option linter.unusedVariables false
set_option linter.unusedSimpArgs false
namespace Mine.Internal
noncomputable def stg (s k : Nat) : Nat := s / 3 ^ k % 3
noncomputable def thF (th : List (Key × Key)) (k : Nat) : Key := ((th[k]?).map Prod.fst).getD (.i 0)
noncomputable def thG (th : List (Key × Key)) (k : Nat) : Key := ((th[k]?).map Prod.snd).getD (.i 0)
noncomputable def heldL (th : List (Key × Key)) (s : Nat) : List Key := ((List.range th.length).filter fun k => decide (stg s k = 1)).map (thF th)
noncomputable def want (th : List (Key × Key)) (s k : Nat) : Key := if stg s k = 0 then thF th k else thG th k
noncomputable def canGo (th : List (Key × Key)) (s k : Nat) : Bool := decide (stg s k < 2) && !decide (want th s k ∈ heldL th s)
noncomputable def movesOf (th : List (Key × Key)) (s : Nat) : List Nat := ((List.range th.length).filter (canGo th s)).map fun k => s + 3 ^ k
inductive Abl (th : List (Key × Key)) (k : Nat) : Nat → Prop
  | here {s : Nat} (h : stg s k = 2) : Abl th k s
  | step {s m : Nat} (hm : m ∈ movesOf th s) (h : Abl th k m) : Abl th k s
inductive Whl (th : List (Key × Key)) : Nat → Prop
  | here {s : Nat} (h : ∀ k, k < th.length → stg s k = 2) : Whl th s
  | step {s m : Nat} (hm : m ∈ movesOf th s) (h : Whl th m) : Whl th s
inductive Rch (th : List (Key × Key)) : Nat → Prop
  | nil : Rch th 0
  | step {s m : Nat} (h : Rch th s) (hm : m ∈ movesOf th s) : Rch th m
noncomputable def AllEnd (th : List (Key × Key)) (s : Nat) : Prop := ∀ k, k < th.length → stg s k = 2
noncomputable def stepsAt (th : List (Key × Key)) (s k : Nat) : List (Key × Key) :=
  if stg s k = 0 then [(thF th k, .i k), (thG th k, .i k)] else if stg s k = 1 then [(.i k, thF th k), (thG th k, .i k)] else []
noncomputable def stepsOf (th : List (Key × Key)) (s : Nat) : List (Key × Key) := (List.range th.length).flatMap (stepsAt th s)
structure LockTh (th : List (Key × Key)) : Prop where
  f : ∀ k, k < th.length → ∃ a, thF th k = .s a
  g : ∀ k, k < th.length → ∃ a, thG th k = .s a
  ne : ∀ k, k < th.length → thF th k ≠ thG th k
noncomputable def Sup (cs : List (Key × Key)) (U : Key → Prop) : Prop := ∀ y, U y → ∃ x, U x ∧ (x, y) ∈ cs
noncomputable def Stk (cs : List (Key × Key)) (k : Key) : Prop := ∃ U, Sup cs U ∧ U k
theorem stg_lt (s k : Nat) : stg s k < 3 := Nat.mod_lt _ (by decide)
theorem pow3 (k : Nat) : 0 < 3 ^ k := Nat.pow_pos (by decide)
theorem succ_div {q : Nat} (h : q % 3 < 2) : (q + 1) / 3 = q / 3 ∧ (q + 1) % 3 = q % 3 + 1 := by lia
theorem add_div_pow (s k : Nat) : (s + 3 ^ k) / 3 ^ k = s / 3 ^ k + 1 := Nat.add_div_right _ (pow3 k)
theorem div_up {s k : Nat} (h : stg s k < 2) : (s + 3 ^ k) / 3 ^ (k + 1) = s / 3 ^ (k + 1) := by
  rw [Nat.pow_succ, ← Nat.div_div_eq_div_mul, ← Nat.div_div_eq_div_mul, add_div_pow]
  exact (succ_div h).1
theorem stg_up {s k : Nat} (h : stg s k < 2) : stg (s + 3 ^ k) k = stg s k + 1 := by
  unfold stg; rw [add_div_pow]; exact (succ_div h).2
theorem stg_other {s k j : Nat} (h : stg s k < 2) (hj : j ≠ k) : stg (s + 3 ^ k) j = stg s j := by
  rcases Nat.lt_or_gt_of_ne hj with q | q
  · obtain ⟨d, rfl⟩ : ∃ d, k = j + (d + 1) := ⟨k - j - 1, by omega⟩
    unfold stg
    rw [Nat.pow_add, Nat.add_mul_div_left _ _ (pow3 j), Nat.pow_succ, Nat.add_mul_mod_self_right]
  · obtain ⟨d, rfl⟩ : ∃ d, j = (k + 1) + d := ⟨j - k - 1, by omega⟩
    unfold stg
    rw [Nat.pow_add, ← Nat.div_div_eq_div_mul, ← Nat.div_div_eq_div_mul, div_up h]
theorem up_lt {s k n : Nat} (h : stg s k < 2) (hk : k < n) (hs : s < 3 ^ n) : s + 3 ^ k < 3 ^ n := by
  obtain ⟨d, rfl⟩ : ∃ d, n = (k + 1) + d := ⟨n - k - 1, by omega⟩
  rw [Nat.pow_add, Nat.mul_comm] at hs ⊢
  rw [← Nat.div_lt_iff_lt_mul (pow3 _)] at hs ⊢
  rw [div_up h]; exact hs
section
variable {th : List (Key × Key)} {s m k j : Nat}
theorem mem_moves : m ∈ movesOf th s ↔ ∃ k, k < th.length ∧ stg s k < 2 ∧ want th s k ∉ heldL th s ∧ m = s + 3 ^ k := by
  unfold movesOf canGo
  rw [List.mem_map]
  constructor
  · rintro ⟨k, hk, rfl⟩
    rw [List.mem_filter, List.mem_range] at hk
    obtain ⟨h1, h2⟩ := hk
    simp only [Bool.and_eq_true, decide_eq_true_eq, Bool.not_eq_true', decide_eq_false_iff_not] at h2
    exact ⟨k, h1, h2.1, h2.2, rfl⟩
  · rintro ⟨k, h1, h2, h3, rfl⟩
    refine ⟨k, List.mem_filter.mpr ⟨List.mem_range.mpr h1, ?_⟩, rfl⟩
    simp only [Bool.and_eq_true, decide_eq_true_eq, Bool.not_eq_true', decide_eq_false_iff_not]
    exact ⟨h2, h3⟩
theorem mem_held {x : Key} : x ∈ heldL th s ↔ ∃ k, k < th.length ∧ stg s k = 1 ∧ thF th k = x := by
  unfold heldL
  rw [List.mem_map]
  constructor
  · rintro ⟨k, hk, rfl⟩
    rw [List.mem_filter, List.mem_range] at hk
    exact ⟨k, hk.1, of_decide_eq_true hk.2, rfl⟩
  · rintro ⟨k, h1, h2, rfl⟩
    exact ⟨k, List.mem_filter.mpr ⟨List.mem_range.mpr h1, decide_eq_true h2⟩, rfl⟩
set_option tactic.hygienic true in
theorem mem_steps {x y : Key} : (x, y) ∈ stepsOf th s ↔ ∃ k, k < th.length ∧ ((stg s k = 0 ∧ y = .i k ∧ (x = thF th k ∨ x = thG th k)) ∨ (stg s k = 1 ∧ ((x = .i k ∧ y = thF th k) ∨ (x = thG th k ∧ y = .i k)))) := by
  unfold stepsOf stepsAt
  rw [List.mem_flatMap]
  constructor
  · rintro ⟨k, hk, h⟩
    refine ⟨k, List.mem_range.mp hk, ?_⟩
    split at h
    · next h0 =>
      simp only [List.mem_cons, List.not_mem_nil, or_false, Prod.mk.injEq] at h
      rcases h with ⟨rfl, rfl⟩ | ⟨rfl, rfl⟩
      · exact .inl ⟨h0, rfl, .inl rfl⟩
      · exact .inl ⟨h0, rfl, .inr rfl⟩
    · split at h
      · next h1 =>
        simp only [List.mem_cons, List.not_mem_nil, or_false, Prod.mk.injEq] at h
        exact .inr ⟨h1, h⟩
      · cases h
  · rintro ⟨k, hk, h⟩
    refine ⟨k, List.mem_range.mpr hk, ?_⟩
    rcases h with ⟨h0, rfl, h⟩ | ⟨h1, h⟩
    · rw [if_pos h0]; rcases h with rfl | rfl <;> simp
    · rw [if_neg (by lia), if_pos h1]; rcases h with ⟨rfl, rfl⟩ | ⟨rfl, rfl⟩ <;> simp
theorem moves_lt (hs : s < 3 ^ th.length) (hm : m ∈ movesOf th s) : m < 3 ^ th.length ∧ s < m := by
  obtain ⟨k, h1, h2, _, rfl⟩ := mem_moves.mp hm
  exact ⟨up_lt h2 h1 hs, Nat.lt_add_of_pos_right (pow3 k)⟩
theorem sup_in {U : Key → Prop} (L : LockTh th) (hU : Sup (stepsOf th s) U) {x : Key} (hx : U x) (hl : ∃ a, x = .s a) : x ∈ heldL th s := by
  obtain ⟨z, _, hz⟩ := hU x hx
  obtain ⟨a, rfl⟩ := hl
  obtain ⟨k, hk, h⟩ := mem_steps.mp hz
  rcases h with ⟨_, h, _⟩ | ⟨h1, ⟨_, h⟩ | ⟨_, h⟩⟩
  · cases h
  · exact mem_held.mpr ⟨k, hk, h1, h.symm⟩
  · cases h
theorem sup_thread {U : Key → Prop} (L : LockTh th) (hU : Sup (stepsOf th s) U) {j : Nat} (hj : U (.i j)) : j < th.length ∧ (stg s j = 0 ∧ (U (thF th j) ∨ U (thG th j)) ∨ stg s j = 1 ∧ U (thG th j)) := by
  obtain ⟨z, h0, hz⟩ := hU _ hj
  obtain ⟨k, hk, h⟩ := mem_steps.mp hz
  rcases h with ⟨h1, h, h2⟩ | ⟨h1, ⟨_, h⟩ | ⟨h2, h⟩⟩
  · have e : k = j := by injection h with h; lia
    subst e
    exact ⟨hk, .inl ⟨h1, by rcases h2 with rfl | rfl; exact .inl h0; exact .inr h0⟩⟩
  · obtain ⟨a, ha⟩ := L.f k hk
    rw [ha] at h; cases h
  · have e : k = j := by injection h with h; lia
    subst e
    exact ⟨hk, .inr ⟨h1, h2 ▸ h0⟩⟩
theorem sup_move {U : Key → Prop} (L : LockTh th) (hU : Sup (stepsOf th s) U) (hm : m ∈ movesOf th s) : Sup (stepsOf th m) U := by
  obtain ⟨j, hj, h2, hw, rfl⟩ := mem_moves.mp hm
  intro y hy
  obtain ⟨x, hx, hxy⟩ := hU y hy
  refine ⟨x, hx, ?_⟩
  obtain ⟨k, hk, h⟩ := mem_steps.mp hxy
  by_cases e : k = j
  · subst e
    rcases h with ⟨h0, rfl, h⟩ | ⟨h1, h⟩
    · rcases h with rfl | rfl
      · exact absurd (sup_in L hU hx (L.f k hk)) (by unfold want at hw; rw [if_pos h0] at hw; exact hw)
      · exact mem_steps.mpr ⟨k, hk, .inr ⟨by rw [stg_up h2, h0], .inr ⟨rfl, rfl⟩⟩⟩
    · have no : ¬ U (.i k) := fun h => by
        rcases (sup_thread L hU h).2 with ⟨g, _⟩ | ⟨_, g⟩
        · lia
        · exact absurd (sup_in L hU g (L.g k hk)) (by unfold want at hw; rw [if_neg (by lia)] at hw; exact hw)
      rcases h with ⟨rfl, _⟩ | ⟨_, rfl⟩
      · exact absurd hx no
      · exact absurd hy no
  · refine mem_steps.mpr ⟨k, hk, ?_⟩
    rw [stg_other h2 e]; exact h
theorem abl_free (L : LockTh th) (h : Abl th k s) : ¬ Stk (stepsOf th s) (.i k) := by
  induction h with
  | here h =>
    rintro ⟨U, hU, hk⟩
    have := (sup_thread L hU hk).2
    lia
  | step hm _ ih =>
    rintro ⟨U, hU, hk⟩
    exact ih ⟨U, sup_move L hU hm, hk⟩
theorem steps_less (hk : ∀ i, i < th.length → stg m i = stg s i ∨ stg m i = 2) : ∀ p ∈ stepsOf th m, p ∈ stepsOf th s := by
  rintro ⟨x, y⟩ hp
  obtain ⟨k, h1, h⟩ := mem_steps.mp hp
  refine mem_steps.mpr ⟨k, h1, ?_⟩
  rcases hk k h1 with e | e
  · rw [← e]; exact h
  · lia
noncomputable def Good (th : List (Key × Key)) (s : Nat) : Prop := ∃ U, Sup (stepsOf th s) U ∧ (∀ k, k < th.length → ¬ U (.i k) → Abl th k s) ∧ ((∀ k, k < th.length → ¬ U (.i k)) → Whl th s)
theorem Good.back (hm : m ∈ movesOf th s) (hk : ∀ p ∈ stepsOf th m, p ∈ stepsOf th s) (h : Good th m) : Good th s := by
  obtain ⟨U, h1, h2, h3⟩ := h
  exact ⟨U, fun y hy => (h1 y hy).imp fun x hx => ⟨hx.1, hk _ hx.2⟩, fun k hk hu => .step hm (h2 k hk hu), fun h => .step hm (h3 h)⟩
theorem Good.back2 {m' : Nat} (hm' : m' ∈ movesOf th s) (hm : m ∈ movesOf th m') (hk : ∀ p ∈ stepsOf th m, p ∈ stepsOf th s) (h : Good th m) : Good th s := by
  obtain ⟨U, h1, h2, h3⟩ := h
  exact ⟨U, fun y hy => (h1 y hy).imp fun x hx => ⟨hx.1, hk _ hx.2⟩, fun k hk hu => .step hm' (.step hm (h2 k hk hu)), fun h => .step hm' (.step hm (h3 h))⟩
theorem rest_lt3 {s d m N : Nat} (hs : s + d = N) (l1 : m < N) (l2 : s < m) : N - m < d := by
  subst hs; exact Nat.sub_lt_left_of_lt_add (Nat.le_of_lt l1) (Nat.add_lt_add_right l2 d)
theorem good (L : LockTh th) : ∀ (d s : Nat), s + d = 3 ^ th.length → 0 < d → Good th s := by
  intro d
  induction d using Nat.strongRecOn with
  | ind d ih =>
    intro s hs hd
    have hs' : s < 3 ^ th.length := hs ▸ Nat.lt_add_of_pos_right hd
    by_cases hA : ∃ j, j < th.length ∧ stg s j = 1 ∧ thG th j ∉ heldL th s
    · obtain ⟨j, hj, h1, hg⟩ := hA
      have hm : s + 3 ^ j ∈ movesOf th s := mem_moves.mpr ⟨j, hj, by lia, by unfold want; rw [if_neg (by lia)]; exact hg, rfl⟩
      obtain ⟨l1, l2⟩ := moves_lt hs' hm
      refine Good.back hm (steps_less fun i hi => ?_) (ih _ (rest_lt3 hs l1 l2) _ (Nat.add_sub_cancel' (Nat.le_of_lt l1)) (Nat.sub_pos_of_lt l1))
      by_cases e : i = j
      · subst e; right; rw [stg_up (by lia), h1]
      · left; exact stg_other (by lia) e
    by_cases hB : ∃ j, j < th.length ∧ stg s j = 0 ∧ thF th j ∉ heldL th s ∧ thG th j ∉ heldL th s
    · obtain ⟨j, hj, h1, hf, hg⟩ := hB
      have hm : s + 3 ^ j ∈ movesOf th s := mem_moves.mpr ⟨j, hj, by lia, by unfold want; rw [if_pos h1]; exact hf, rfl⟩
      have h1' : stg (s + 3 ^ j) j = 1 := by rw [stg_up (by lia), h1]
      have hm2 : s + 3 ^ j + 3 ^ j ∈ movesOf th (s + 3 ^ j) := mem_moves.mpr ⟨j, hj, by lia, by
        unfold want; rw [if_neg (by lia)]
        intro hh
        obtain ⟨i, hi, g1, g2⟩ := mem_held.mp hh
        by_cases e : i = j
        · subst e; exact L.ne i hi g2
        · rw [stg_other (by lia) e] at g1
          exact hg (mem_held.mpr ⟨i, hi, g1, g2⟩), rfl⟩
      obtain ⟨l1, l2⟩ := moves_lt hs' hm
      obtain ⟨l3, l4⟩ := moves_lt l1 hm2
      refine Good.back2 hm hm2 (steps_less fun i hi => ?_) (ih _ (rest_lt3 hs l3 (Nat.lt_trans l2 l4)) _ (Nat.add_sub_cancel' (Nat.le_of_lt l3)) (Nat.sub_pos_of_lt l3))
      by_cases e : i = j
      · subst e; right; rw [stg_up (by lia), h1']
      · left; rw [stg_other (by lia) e, stg_other (by lia) e]
    refine ⟨fun x => (∃ k, k < th.length ∧ x = .i k ∧ stg s k < 2) ∨ ∃ k, k < th.length ∧ stg s k = 1 ∧ x = thF th k, ?_, fun k hk hu => ?_, fun h => .here fun k hk => ?_⟩
    · rintro y (⟨k, hk, rfl, h⟩ | ⟨k, hk, h, rfl⟩)
      · have h3 : stg s k = 0 ∨ stg s k = 1 := by lia
        rcases h3 with h0 | h1
        · by_cases hf : thF th k ∈ heldL th s
          · obtain ⟨i, hi, g1, g2⟩ := mem_held.mp hf
            exact ⟨thF th k, .inr ⟨i, hi, g1, g2.symm⟩, mem_steps.mpr ⟨k, hk, .inl ⟨h0, rfl, .inl rfl⟩⟩⟩
          · have hg : thG th k ∈ heldL th s := Classical.byContradiction fun hg => hB ⟨k, hk, h0, hf, hg⟩
            obtain ⟨i, hi, g1, g2⟩ := mem_held.mp hg
            exact ⟨thG th k, .inr ⟨i, hi, g1, g2.symm⟩, mem_steps.mpr ⟨k, hk, .inl ⟨h0, rfl, .inr rfl⟩⟩⟩
        · have hg : thG th k ∈ heldL th s := Classical.byContradiction fun hg => hA ⟨k, hk, h1, hg⟩
          obtain ⟨i, hi, g1, g2⟩ := mem_held.mp hg
          exact ⟨thG th k, .inr ⟨i, hi, g1, g2.symm⟩, mem_steps.mpr ⟨k, hk, .inr ⟨h1, .inr ⟨rfl, rfl⟩⟩⟩⟩
      · exact ⟨.i k, .inl ⟨k, hk, rfl, by lia⟩, mem_steps.mpr ⟨k, hk, .inr ⟨h, .inl ⟨rfl, rfl⟩⟩⟩⟩
    · refine .here ?_
      have := stg_lt s k
      by_cases h : stg s k < 2
      · exact absurd (.inl ⟨k, hk, rfl, h⟩) hu
      · lia
    · have := stg_lt s k
      by_cases h' : stg s k < 2
      · exact absurd (.inl ⟨k, hk, rfl, h'⟩) (h k hk)
      · lia
theorem free_abl (L : LockTh th) (hs : s < 3 ^ th.length) (hk : k < th.length) (h : ¬ Stk (stepsOf th s) (.i k)) : Abl th k s := by
  obtain ⟨U, h1, h2, _⟩ := good L (3 ^ th.length - s) s (Nat.add_sub_cancel' (Nat.le_of_lt hs)) (Nat.sub_pos_of_lt hs)
  exact h2 k hk fun hu => h ⟨U, h1, hu⟩
theorem free_whl (L : LockTh th) (hs : s < 3 ^ th.length) (h : ∀ x, ¬ Stk (stepsOf th s) x) : Whl th s := by
  obtain ⟨U, h1, _, h3⟩ := good L (3 ^ th.length - s) s (Nat.add_sub_cancel' (Nat.le_of_lt hs)) (Nat.sub_pos_of_lt hs)
  exact h3 fun k hk hu => h _ ⟨U, h1, hu⟩
end
end Mine.Internal
end

section
open PySem PySem.W PySem.Calls PyProof.Rows
set_option Elab.async false
set_option maxRecDepth 100000
set_option linter.unusedVariables false
set_option linter.unusedSimpArgs false
namespace Mine.Internal
section
variable {cs : List (Key × Key)} {ns o B r : List Key} {U : Key → Prop} {V : Key → Prop}
theorem topo_free (hcs : InC ns cs) (hB : Topo (stOf ns cs).scOf B) (hk : ∀ k ∈ ns, k ∈ B) (x : Key) : ¬ Stk cs x := by
  rintro ⟨U, hU, hx⟩
  have key : ∀ B, Topo (stOf ns cs).scOf B → (∀ e, U e → e ∈ B) → False := by
    intro B
    induction B with
    | nil => intro _ h; have := h x hx; cases this
    | cons y l ih =>
      intro hT h
      refine ih hT.2 fun e he => ?_
      obtain ⟨q, hq, hqe⟩ := hU e he
      have hes : e ∈ (stOf ns cs).scOf q := by
        rw [scOf_stOf (hcs _ hqe).1, mem_endsOf]; exact hqe
      rcases List.mem_cons.mp (h _ hq) with h1 | h1
      · rw [h1] at hes; exact hT.1 e hes
      · have sub : ∀ l, Topo (stOf ns cs).scOf l → ∀ a ∈ l, ∀ s ∈ (stOf ns cs).scOf a, s ∈ l := by
          intro l
          induction l with
          | nil => intro _ a ha; cases ha
          | cons y l ih2 =>
            intro hT a ha s hs
            rcases List.mem_cons.mp ha with rfl | ha
            · exact List.mem_cons_of_mem _ (hT.1 s hs)
            · exact List.mem_cons_of_mem _ (ih2 hT.2 a ha s hs)
        exact sub l hT.2 _ h1 e hes
  exact key B hB fun e he => hk e (by obtain ⟨q, _, hq⟩ := hU e he; exact (hcs _ hq).2)
theorem topo_none (hT : Topo (stOf ns cs).scOf B) (hcs : InC ns cs) (hV : ∀ y, V y → ∃ x, V x ∧ (y, x) ∈ cs) : ∀ y ∈ B, ¬ V y := by
  induction B with
  | nil => intro y hy; cases hy
  | cons y l ih =>
    have h1 := ih hT.2
    intro z hz hv
    rcases List.mem_cons.mp hz with rfl | hz
    · obtain ⟨x, hx, hxy⟩ := hV _ hv
      exact h1 x (hT.1 x (by rw [scOf_stOf (hcs _ hxy).1, mem_endsOf]; exact hxy)) hx
    · exact h1 z hz hv
theorem valid_free (h : ValidO cs o) : ∀ k ∈ o, ¬ Stk cs k := by
  have key : ∀ (i : Nat) (k : Key), o[i]? = some k → ¬ Stk cs k := by
    intro i
    induction i using Nat.strongRecOn with
    | ind i ih =>
      rintro k hk ⟨U, hU, hx⟩
      obtain ⟨x, hx, hxk⟩ := hU k hx
      have hm : x ∈ o.take i := h i k hk _ hxk rfl
      obtain ⟨j, hj, e⟩ := List.getElem_of_mem hm
      have hj' : j < i := by rw [List.length_take] at hj; lia
      refine ih j hj' x ?_ ⟨U, hU, hx⟩
      rw [← e, List.getElem_take]
      exact List.getElem?_eq_getElem _
  intro k hk
  obtain ⟨i, hi, rfl⟩ := List.getElem_of_mem hk
  exact key i _ (List.getElem?_eq_getElem hi)
theorem rest_stk (hcs : InC ns cs) (hw : ∀ k ∈ ns, k ∉ o → ¬ FreeP cs o k) : ∀ k ∈ ns, k ∉ o → Stk cs k := fun k hk hko => by
  refine ⟨fun y => y ∈ ns ∧ y ∉ o, ?_, hk, hko⟩
  rintro y ⟨h1, h2⟩
  have := hw y h1 h2
  unfold FreeP at this
  have ⟨p, hp⟩ := Classical.not_forall.mp this
  have ⟨h3, h4⟩ := Classical.not_imp.mp hp
  have ⟨h5, h6⟩ := Classical.not_imp.mp h4
  exact ⟨p.1, ⟨(hcs p h3).1, h6⟩, by rw [← h5]; exact h3⟩
theorem sc_mem {a b : Key} (h : b ∈ (stOf ns cs).scOf a) : (a, b) ∈ cs := by
  by_cases ha : a ∈ ns
  · rw [scOf_stOf ha, mem_endsOf] at h; exact h
  · exfalso
    unfold TSt.scOf at h
    have : ((stOf ns cs).shape.find? fun p => decide (p.1 = a)) = Option.none := by
      rw [List.find?_eq_none]
      intro p hp hpe
      simp only [TSt.shape, stOf, List.map_map, List.mem_map] at hp
      obtain ⟨x, hx, rfl⟩ := hp
      exact ha (by have : x = a := by simpa using hpe
                   exact this ▸ hx)
    rw [this] at h
    simp at h
structure RingOk (cs : List (Key × Key)) (ns : List Key) (r : List Key) : Prop where
  ne : ∃ a mid, r = (a :: mid) ++ [a] ∧ (a :: mid).Nodup
  st : ∀ i a b, r[i]? = some a → r[i + 1]? = some b → (a, b) ∈ cs
  sub : ∀ a ∈ r, a ∈ ns
  len : r.length ≤ ns.length + 1
  two : 2 ≤ r.length
theorem ring_ok (hcs : InC ns cs) (h : Ring (stOf ns cs).scOf r) : RingOk cs ns r := by
  obtain ⟨⟨a, mid, he, hnd⟩, hst⟩ := h
  have hs : ∀ i a b, r[i]? = some a → r[i + 1]? = some b → (a, b) ∈ cs := fun i a b h1 h2 => sc_mem (hst i a b h1 h2)
  have hl : r.length = mid.length + 2 := by rw [he]; simp
  have hsub : ∀ x ∈ r, x ∈ ns := fun x hx => by
    obtain ⟨i, hi, rfl⟩ := List.getElem_of_mem hx
    by_cases h : i + 1 < r.length
    · exact (hcs _ (hs i _ _ (List.getElem?_eq_getElem hi) (List.getElem?_eq_getElem h))).1
    · obtain ⟨j, rfl⟩ : ∃ j, i = j + 1 := ⟨i - 1, by omega⟩
      exact (hcs _ (hs j _ _ (List.getElem?_eq_getElem (by (exact Nat.le_of_lt (by assumption)))) (List.getElem?_eq_getElem hi))).2
  refine ⟨⟨a, mid, he, hnd⟩, hs, hsub, ?_, by lia⟩
  have := nodup_len hnd (m := ns) fun x hx => hsub x (by rw [he]; exact List.mem_append_left _ hx)
  rw [List.length_cons] at this
  lia
theorem metK_nodup : ∀ {l acc : List Key}, (acc ++ l).Nodup → l.foldl addK acc = acc ++ l
  | [], acc, _ => (List.append_nil acc).symm
  | x :: l, acc, h => by
    have hx : x ∉ acc := fun hm => (List.nodup_append.mp h).2.2 x hm x (List.mem_cons_self ..) rfl
    have e : addK acc x = acc ++ [x] := if_neg hx
    rw [List.foldl_cons, e, metK_nodup (by rw [List.append_assoc]; exact h), List.append_assoc]; rfl
theorem RingOk.met (h : RingOk cs ns r) : (metK r).length = r.length - 1 := by
  obtain ⟨a, mid, he, hnd⟩ := h.ne
  have e1 : metK (a :: mid) = a :: mid := metK_nodup (acc := []) hnd
  rw [he, metK_snoc, e1, addK, if_pos (List.mem_cons_self ..)]
  simp
set_option tactic.hygienic true in
theorem RingOk.next (h : RingOk cs ns r) : ∀ a ∈ r, ∃ b ∈ r, (a, b) ∈ cs := fun x hx => by
  obtain ⟨a, mid, he, hnd⟩ := h.ne
  have key : ∀ i, r[i]? = some x → i + 1 < r.length → ∃ b ∈ r, (x, b) ∈ cs := fun i h1 h2 =>
    ⟨_, List.getElem_mem h2, h.st i _ _ h1 (List.getElem?_eq_getElem h2)⟩
  obtain ⟨i, hi, e⟩ := List.getElem_of_mem hx
  by_cases h2 : i + 1 < r.length
  · exact key i (by rw [← e]; exact List.getElem?_eq_getElem hi) h2
  · refine key 0 ?_ (by have := h.two; assumption)
    have hl : r.length = mid.length + 2 := by rw [he]; simp
    have hxa : x = a := by
      have : i = mid.length + 1 := by lia
      subst this
      have h9 : r[mid.length + 1]? = some x := by rw [← e]; exact List.getElem?_eq_getElem hi
      rw [he, List.getElem?_append_right (by simp)] at h9
      simpa using h9.symm
    rw [he, hxa]; rfl
end
section
variable {th : List (Key × Key)} {s m k j : Nat}
theorem pair_at {p : Key × Key} (hp : p ∈ th) : ∃ j, j < th.length ∧ thF th j = p.1 ∧ thG th j = p.2 := by
  obtain ⟨j, hj, e⟩ := List.getElem_of_mem hp
  have h1 : th[j]? = some p := by rw [← e]; exact List.getElem?_eq_getElem hj
  exact ⟨j, hj, by unfold thF; rw [h1]; rfl, by unfold thG; rw [h1]; rfl⟩
theorem at_pair (hj : j < th.length) : (thF th j, thG th j) ∈ th := by
  have h1 : th[j]? = some th[j] := List.getElem?_eq_getElem hj
  unfold thF thG; rw [h1]; exact List.getElem_mem hj
theorem stg_zero (k : Nat) : stg 0 k = 0 := by unfold stg; rw [Nat.zero_div]
theorem take_firsts (P : Nat → Prop) : ∀ A : List Key, A.Nodup → (∀ a ∈ A, ∃ j, j < th.length ∧ thF th j = a ∧ P j) →
    ∃ s, Rch th s ∧ s < 3 ^ th.length ∧ (∀ k, k < th.length → stg s k = 0 ∨ (stg s k = 1 ∧ thF th k ∈ A)) ∧ ∀ a ∈ A, ∃ j, j < th.length ∧ thF th j = a ∧ P j ∧ stg s j = 1 := by
  intro A
  induction A with
  | nil => exact fun z_ z_ => ⟨0, .nil, pow3 _, fun k z_ => .inl (stg_zero k), fun a ha => by cases ha⟩
  | cons a A ih =>
    intro hn h
    have hn2 := List.nodup_cons.mp hn
    obtain ⟨s, h1, h2, h3, h4⟩ := ih hn2.2 fun b hb => h b (List.mem_cons_of_mem _ hb)
    obtain ⟨j, hj, hf, hp⟩ := h a (List.mem_cons_self ..)
    have h0 : stg s j = 0 := (h3 j hj).resolve_right fun q => hn2.1 (hf ▸ q.2)
    have hm : s + 3 ^ j ∈ movesOf th s := mem_moves.mpr ⟨j, hj, by lia, by
      unfold want; rw [if_pos h0, hf]
      intro hh
      obtain ⟨i, hi, g1, g2⟩ := mem_held.mp hh
      rcases h3 i hi with q | ⟨_, q⟩
      · lia
      · exact hn2.1 (g2 ▸ q), rfl⟩
    have hup : stg (s + 3 ^ j) j = 1 := by rw [stg_up (by lia), h0]
    refine ⟨s + 3 ^ j, .step h1 hm, (moves_lt h2 hm).1, fun k hk => ?_, fun b hb => ?_⟩
    · by_cases e : k = j
      · subst e; exact .inr ⟨hup, by rw [hf]; exact List.mem_cons_self ..⟩
      · rw [stg_other (by lia) e]
        exact (h3 k hk).imp id fun q => ⟨q.1, List.mem_cons_of_mem _ q.2⟩
    · rcases List.mem_cons.mp hb with rfl | hb
      · exact ⟨j, hj, hf, hp, hup⟩
      · obtain ⟨i, hi, g1, g2, g3⟩ := h4 b hb
        have e : i ≠ j := fun e => by subst e; lia
        exact ⟨i, hi, g1, g2, by rw [stg_other (by lia) e]; exact g3⟩
noncomputable def Dead (th : List (Key × Key)) (A : List Key) (s : Nat) : Prop := ∀ a ∈ A, ∃ j, j < th.length ∧ thF th j = a ∧ thG th j ∈ A ∧ stg s j = 1
theorem Dead.move {A : List Key} (h : Dead th A s) (hm : m ∈ movesOf th s) : Dead th A m := fun a ha => by
  obtain ⟨j, hj, h1, h2, h3⟩ := h a ha
  obtain ⟨k, hk, h4, h5, rfl⟩ := mem_moves.mp hm
  have e : j ≠ k := fun e => by
    subst e
    unfold want at h5
    rw [if_neg (by lia)] at h5
    obtain ⟨i, hi, g1, _, g3⟩ := h _ h2
    exact h5 (mem_held.mpr ⟨i, hi, g3, g1⟩)
  exact ⟨j, hj, h1, h2, by rw [stg_other h4 e]; exact h3⟩
theorem dead_end {A : List Key} : ∀ (d s : Nat), s + d = 3 ^ th.length → 0 < d → Rch th s → Dead th A s → ∃ t, Rch th t ∧ t < 3 ^ th.length ∧ movesOf th t = [] ∧ Dead th A t := by
  intro d
  induction d using Nat.strongRecOn with
  | ind d ih =>
    intro s hs hd hr hD
    cases e : movesOf th s with
    | nil => exact ⟨s, hr, hs ▸ Nat.lt_add_of_pos_right hd, e, hD⟩
    | cons m l =>
      have hm : m ∈ movesOf th s := by rw [e]; exact List.mem_cons_self ..
      obtain ⟨l1, l2⟩ := moves_lt (hs ▸ Nat.lt_add_of_pos_right hd) hm
      exact ih _ (rest_lt3 hs l1 l2) m (Nat.add_sub_cancel' (Nat.le_of_lt l1)) (Nat.sub_pos_of_lt l1) (.step hr hm) (hD.move hm)
set_option tactic.hygienic true in
theorem ring_dead {ns r : List Key} (h : RingOk th ns r) : ∃ t, Rch th t ∧ t < 3 ^ th.length ∧ movesOf th t = [] ∧ ¬ AllEnd th t := by
  obtain ⟨a, mid, he, hnd⟩ := h.ne
  have hin : ∀ x, x ∈ r ↔ x ∈ a :: mid := fun x => by
    rw [he, List.mem_append, List.mem_singleton]
    exact ⟨fun q => q.elim id fun q => q ▸ List.mem_cons_self .., .inl⟩
  obtain ⟨s, h1, h2, _, h4⟩ := take_firsts (th := th) (fun j => thG th j ∈ a :: mid) (a :: mid) hnd fun x hx => by
    obtain ⟨b, hb, hxb⟩ := h.next x ((hin x).mpr hx)
    obtain ⟨j, hj, e1, e2⟩ := pair_at hxb
    exact ⟨j, hj, e1, by rw [e2]; exact (hin b).mp hb⟩
  obtain ⟨t, t1, t2, t3, t4⟩ := dead_end (A := a :: mid) (3 ^ th.length - s) s (Nat.add_sub_cancel' (Nat.le_of_lt h2)) (Nat.sub_pos_of_lt h2) h1 h4
  refine ⟨t, t1, t2, t3, fun hE => ?_⟩
  obtain ⟨j, hj, _, _, g⟩ := t4 a (List.mem_cons_self ..)
  have := hE j hj
  lia
theorem dead_held (hm : movesOf th s = []) : (∀ y, y ∈ heldL th s → ∃ x, x ∈ heldL th s ∧ (y, x) ∈ th) ∧ (¬ AllEnd th s → ∃ y, y ∈ heldL th s) := by
  have no : ∀ k, k < th.length → stg s k < 2 → want th s k ∈ heldL th s := fun k hk h2 => Classical.byContradiction fun h => by
    have : s + 3 ^ k ∈ movesOf th s := mem_moves.mpr ⟨k, hk, h2, h, rfl⟩
    rw [hm] at this; cases this
  constructor
  · intro y hy
    obtain ⟨k, hk, h1, rfl⟩ := mem_held.mp hy
    have := no k hk (by lia)
    unfold want at this
    rw [if_neg (by lia)] at this
    exact ⟨_, this, at_pair hk⟩
  · intro hE
    obtain ⟨k, hk⟩ := Classical.not_forall.mp hE
    obtain ⟨h1, h2⟩ := Classical.not_imp.mp hk
    exact ⟨_, no k h1 (by have := stg_lt s k; lia)⟩
theorem topo_alive {ns B : List Key} (hcs : InC ns th) (hT : Topo (stOf ns th).scOf B) (hk : ∀ k ∈ ns, k ∈ B) (hm : movesOf th s = []) : AllEnd th s := by
  refine Classical.byContradiction fun h => ?_
  obtain ⟨h1, h2⟩ := dead_held hm
  obtain ⟨y, hy⟩ := h2 h
  obtain ⟨x, _, hx⟩ := h1 y hy
  exact topo_none (V := fun y => y ∈ heldL th s) hT hcs h1 y (hk y (hcs _ hx).1) hy
theorem abl_iff : Abl th k s ↔ stg s k = 2 ∨ ∃ m ∈ movesOf th s, Abl th k m := by
  constructor
  · intro h
    cases h with
    | here h => exact .inl h
    | step hm h => exact .inr ⟨_, hm, h⟩
  · rintro (h | ⟨m, hm, h⟩)
    · exact .here h
    · exact .step hm h
theorem whl_iff : Whl th s ↔ AllEnd th s ∨ ∃ m ∈ movesOf th s, Whl th m := by
  constructor
  · intro h
    cases h with
    | here h => exact .inl h
    | step hm h => exact .inr ⟨_, hm, h⟩
  · rintro (h | ⟨m, hm, h⟩)
    · exact .here h
    · exact .step hm h
open Classical in
noncomputable def ablL (th : List (Key × Key)) (s : Nat) : List Nat := (List.range th.length).filter fun k => decide (Abl th k s)
open Classical in
noncomputable def whlB (th : List (Key × Key)) (s : Nat) : Bool := decide (Whl th s)
end
end Mine.Internal
end

section
open PySem PySem.W PySem.Calls PyProof.Rows
set_option Elab.async false
set_option maxRecDepth 100000
set_option maxHeartbeats 0
set_option linter.unusedVariables false
set_option linter.unusedSimpArgs false
namespace Mine.Internal
theorem filterMap_some {α β : Type} {f : α → β} {l : List α} : (l.filterMap fun a => some (f a)) = l.map f := by
  induction l with
  | nil => rfl
  | cons a l ih => simp [ih]
theorem range_at {n j k : Nat} (h : (List.range n)[j]? = some k) : j < n ∧ k = j := by
  have hj := (List.getElem?_eq_some_iff.mp h).1
  rw [List.length_range] at hj
  rw [List.getElem?_range hj] at h
  exact ⟨hj, by cases h; rfl⟩
theorem wItem.nat {xs : List AV} {n : Nat} {x : AV} {Q : AV → Prop} (hx : xs[n]? = some x) (hn : (n : Int) < 2 ^ 63) (h : Q x) : wItem xs (n : Int) Q := by
  show (match xs[n]? with | some x => (n : Int) < 2 ^ 63 ∧ Q x | Option.none => False)
  rw [hx]
  exact ⟨hn, h⟩
noncomputable def nAV (p : Nat) : AV := .int (p : Int)
theorem encNat : Enc nAV (fun z_ => True) 0 where
  eq := fun a b => by
    refine (encInt.eq (a : Int) (b : Int)).trans ?_
    exact decide_eq_decide.mpr Int.ofNat_inj
  dat := fun z_ z_ => rfl
  dep := fun z_ => Nat.le_refl _
theorem W2.inLV {α : Type} [DecidableEq α] {f : α → AV} {D : α → Prop} {dp : Nat} {F : Fm} {ρ : AEnv} {H : AHs} {QV : AV → AEnv → AHs → Prop} {X : AX} (E : Enc f D dp) (hd : dp ≤ 60) {x : α} {xs : List α} {a : AV} (hl : LV H a (xs.map f)) (hx : D x) (hxs : ∀ y ∈ xs, D y) (h : QV (.bool (decide (x ∈ xs))) ρ H) : W2 F VR (compareOp .In) (f x) a ρ H QV X := by
  cases hl with
  | fz => exact W2.inE E hd hx hxs h
  | own h1 h2 => exact W2.inL (.data (E.dat x hx)) (.own h1 h2 (E.dats _ hxs)) (Nat.le_trans (E.dep x) (by (exact Nat.le_trans (by assumption) (Nat.le_of_ble_eq_true rfl)))) (by rw [E.any]; exact h)
theorem W2.notInLV {α : Type} [DecidableEq α] {f : α → AV} {D : α → Prop} {dp : Nat} {F : Fm} {ρ : AEnv} {H : AHs} {QV : AV → AEnv → AHs → Prop} {X : AX} (E : Enc f D dp) (hd : dp ≤ 60) {x : α} {xs : List α} {a : AV} (hl : LV H a (xs.map f)) (hx : D x) (hxs : ∀ y ∈ xs, D y) (h : QV (.bool (!decide (x ∈ xs))) ρ H) : W2 F VR (compareOp .NotIn) (f x) a ρ H QV X := by
  cases hl with
  | fz => exact W2.notInE E hd hx hxs h
  | own h1 h2 => exact W2.notInL (.data (E.dat x hx)) (.own h1 h2 (E.dats _ hxs)) (Nat.le_trans (E.dep x) (by (exact Nat.le_trans (by assumption) (Nat.le_of_ble_eq_true rfl)))) (by rw [E.any]; exact h)
theorem wItem.zero {xs : List AV} {x : AV} {Q : AV → Prop} (hx : xs[0]? = some x) (h : Q x) : wItem xs 0 Q := wItem.nat (n := 0) hx (by decide) h
theorem wItem.m1 {xs : List AV} {x : AV} {Q : AV → Prop} (hl : 0 < xs.length) (hx : xs[xs.length - 1]? = some x) (h : Q x) : wItem xs (-1) Q := by
  show wOk (decide (0 < xs.length)) (match xs[xs.length - 1]? with | some x => ((0 : Nat) : Int) < 2 ^ 62 ∧ Q x | Option.none => False)
  rw [decide_eq_true hl, hx]
  exact ⟨by decide, h⟩
theorem wItem.int {xs : List AV} {k : Int} {x : AV} {Q : AV → Prop} (h0 : 0 ≤ k) (hk : k < 2 ^ 63) (hx : xs[k.toNat]? = some x) (h : Q x) : wItem xs k Q := by
  obtain ⟨n, rfl⟩ := Int.eq_ofNat_of_zero_le h0
  exact wItem.nat hx hk h
theorem fm_none {α : Type} {l : List α} : (l.filterMap fun z_ => (Option.none : Option AV)) = [] := by
  induction l with
  | nil => rfl
  | cons a l ih => simpa using ih
theorem stOf_small {ns : List Key} {cs : List (Key × Key)} {b : Nat} (h1 : ns.length ≤ b) (h2 : cs.length ≤ b) : (stOf ns cs).Small b := by
  refine TSt.small_shape.mpr ⟨by simp [TSt.shape, stOf]; exact h1, fun p hp => ?_⟩
  simp only [TSt.shape, stOf, List.map_map, List.mem_map] at hp
  obtain ⟨k, _, rfl⟩ := hp
  show (endsOf cs k).length ≤ b
  rw [endsOf, List.length_map]
  exact Nat.le_trans (List.length_filter_le ..) h2
theorem FnIs.known {K : Frag} {f : Addr} {fd : FuncData} {body : List Stmt} (h : FnIs K f fd body) : ∃ o fd, K.lookup f = some o ∧ o.data = .func fd := by
  have h1 := h.at_
  unfold fdAt at h1
  cases e : K.lookup f with
  | none => rw [e] at h1; cases h1
  | some o =>
    rw [e] at h1
    obtain ⟨oc, od, dat, osl⟩ := o
    cases dat <;> first | (cases h1; done) | skip
    cases h1
    exact ⟨_, _, rfl, rfl⟩
theorem InC.nil {ns : List Key} : InC ns [] := fun p hp => by cases hp
theorem rangeAV_ab {a n : Nat} : rangeAV (a : Int) 1 n = (List.range n).map fun (k : Nat) => AV.int ((a + k : Nat) : Int) := by
  unfold rangeAV
  exact List.map_congr_left fun k z_ => by rw [Int.one_mul, Int.natCast_add]
theorem range_ab {a b : Nat} (hb : b ≤ 1000000) (ha : a ≤ 1000000) : Builtin.Range.small (a : Int) (b : Int) 1 = true ∧ Builtin.Range.rangeSize (a : Int) (b : Int) 1 = (b - a : Nat) := by
  refine ⟨small_one (by (exact Int.natCast_nonneg _)) (by omega) (by (exact Int.natCast_nonneg _)) (by omega), ?_⟩
  rw [rangeSize_one]
  split <;> lia
section
variable {F : Fm} {H : AHs} {target : Expr} {i : Nat} {M : AM} {r : Addr} {a b : Nat} {x y : Int} {sc : Scope}
theorem WIterC.rngAB (a b : Nat) (hi : H[i]? = some M) (hr : M r = some (oRange x y 1)) (hx : x = a) (hy : y = b) (hb : b ≤ 1000000) (ha : a ≤ 1000000) : WIterC F sc H (.ref r) target (fun z_ => True) ((List.range (b - a)).map fun (k : Nat) => AV.int ((a + k : Nat) : Int)) := by
  subst hx hy
  exact rangeAV_ab ▸ WIterC.range hi hr (range_ab hb ha).1 (range_ab hb ha).2
end
noncomputable def iav (ns : List Int) : List AV := ns.map AV.int
theorem iav_len (ns : List Int) : (iav ns).length = ns.length := List.length_map ..
theorem p3_ok {k : Nat} (h : k ≤ 8) : (0 : Int) ≤ (k : Int) ∧ (Builtin.Int.intBits 3 : Int) * (k : Int) ≤ 2 ^ 27 := by
  refine ⟨Int.natCast_nonneg k, ?_⟩
  rw [show Builtin.Int.intBits 3 = 2 from rfl]; lia
theorem p3_int (k : Nat) : (3 : Int) ^ (k : Int).toNat = ((3 ^ k : Nat) : Int) := by rw [Int.toNat_natCast, Int.natCast_pow]; rfl
theorem p3_div {k : Nat} (h : k ≤ 8) : (3 : Int) ^ (k : Int).toNat ≠ 0 ∧ ((3 : Int) ^ (k : Int).toNat).natAbs.log2 < 9000 := by
  rw [p3_int]
  refine ⟨Int.ofNat_ne_zero.mpr (Nat.ne_of_gt (pow3 k)), ?_⟩
  rw [Int.natAbs_natCast]
  refine Nat.lt_of_le_of_lt (Nat.log2_le_self _) (Nat.lt_of_le_of_lt (Nat.pow_le_pow_right (by decide) h) (by decide))
theorem three_mod : (3 : Int) ≠ 0 ∧ (3 : Int).natAbs.log2 < 9000 := ⟨by decide, by decide⟩
theorem stg_int (m k : Nat) : ((m : Int).fdiv ((3 : Int) ^ (k : Int).toNat)).fmod 3 = ((stg m k : Nat) : Int) := by
  rw [p3_int, Int.fdiv_eq_ediv_of_nonneg _ (Int.natCast_nonneg _), ← Int.natCast_ediv, Int.fmod_eq_emod_of_nonneg _ (by decide)]
  rfl
noncomputable def stgL (n s : Nat) : List Nat := (List.range n).map (stg s)
theorem stgL_len {n s : Nat} : (stgL n s).length = n := by rw [stgL, List.length_map, List.length_range]
theorem stgL_at {n s k : Nat} (h : k < n) : ((stgL n s).map nAV)[k]? = some (nAV (stg s k)) := by
  rw [List.getElem?_map, stgL, List.getElem?_map, List.getElem?_range h]; rfl
theorem cav_at {th : List (Key × Key)} {k : Nat} (h : k < th.length) : (cav th)[k]? = some (.tup [(thF th k).av, (thG th k).av]) := by
  have h1 : th[k]? = some th[k] := List.getElem?_eq_getElem h
  unfold cav thF thG
  rw [List.getElem?_map, h1]; rfl
theorem cav_len {cs : List (Key × Key)} : (cav cs).length = cs.length := List.length_map ..
theorem thF_ok {th : List (Key × Key)} (h : okPairs th) {k : Nat} (hk : k < th.length) : (thF th k).Ok := (h _ (at_pair hk)).1
theorem thG_ok {th : List (Key × Key)} (h : okPairs th) {k : Nat} (hk : k < th.length) : (thG th k).Ok := (h _ (at_pair hk)).2
theorem fn146 (P : Params) : FnIs (K0 P) 146 (fdK P 146) (fBody (fnAt 8)) := ⟨by kernel_rfl, by kernel_rfl, by kernel_rfl⟩
theorem is_eq {a : Nat} (b : Nat) (h : decide ((a : Int) = (b : Int)) = true) : a = b := Int.ofNat_inj.mp (of_decide_eq_true h)
theorem not_eq {a : Nat} (b : Nat) (h : decide ((a : Int) = (b : Int)) = false) : ¬ a = b := fun q => of_decide_eq_false h (congrArg _ q)
theorem is_lt {a : Nat} (b : Nat) (h : decide ((a : Int) < (b : Int)) = true) : a < b := Int.ofNat_lt.mp (of_decide_eq_true h)
theorem not_lt {a : Nat} (b : Nat) (h : decide ((a : Int) < (b : Int)) = false) : ¬ a < b := fun q => of_decide_eq_false h (Int.ofNat_lt.mpr q)
theorem want_at {th : List (Key × Key)} {s k : Nat} (h : stg s k < 2) : [(thF th k).av, (thG th k).av][stg s k]? = some (want th s k).av := by
  unfold want
  rcases (show stg s k = 0 ∨ stg s k = 1 by lia) with e | e
  · rw [e]; rfl
  · rw [e]; rfl
theorem want_ok {th : List (Key × Key)} (h : okPairs th) {s k : Nat} (hk : k < th.length) : (want th s k).Ok := by
  unfold want; split
  · exact thF_ok h hk
  · exact thG_ok h hk
theorem heldL_ok {th : List (Key × Key)} (h : okPairs th) {s : Nat} : ∀ x ∈ heldL th s, x.Ok := fun x hx => by
  obtain ⟨k, hk, _, rfl⟩ := mem_held.mp hx
  exact thF_ok h hk
theorem mv_snoc {p : Nat → Bool} {s k : Nat} : (((List.range (k + 1)).filter p).map fun k => s + 3 ^ k).map nAV = (((List.range k).filter p).map fun k => s + 3 ^ k).map nAV ++ (if p k = true then [nAV (s + 3 ^ k)] else []) := by
  rw [List.range_succ, List.filter_append, List.map_append, List.map_append]
  by_cases h : p k = true
  · rw [if_pos h, List.filter_cons_of_pos h]; rfl
  · rw [if_neg h, List.filter_cons_of_neg h]; rfl
theorem canGo_of {th : List (Key × Key)} {s k : Nat} (h1 : stg s k < 2) : canGo th s k = !decide (want th s k ∈ heldL th s) := by
  unfold canGo; rw [decide_eq_true h1]; rfl
noncomputable def mvE (th : List (Key × Key)) (s : Nat) (l : Addr) : AEnv := [("threads", .list (cav th)), ("state", nAV s), ("stages", .list ((stgL th.length s).map nAV)), ("held", .list (kav (heldL th s))), ("moves", .ref l)]
inductive MvI (th : List (Key × Key)) (s : Nat) (l r : Addr) (H : AHs) (m : Nat) (ρ' : AEnv) (H' : AHs) : Prop
  | mk (h0 : ρ' = mvE th s l) (h1 : H' = one r (oRange 0 (th.length : Int) 1) :: one l (oList ((((List.range m).filter (canGo th s)).map fun k => s + 3 ^ k).map nAV)) :: H) : MvI th s l r H m ρ' H'
section
variable {w : World} {raw : List (Str × NameKind)} {lv : Nat} {ρ : AEnv} {H : AHs} {Q : AV → AEnv → AHs → Prop} {X : AX}
theorem moves_ok {th : List (Key × Key)} {s : Nat} (hlv : 1 ≤ lv) (hn : th.length ≤ 5) (hth : okPairs th) (h : ∀ l, Q (.ref l) ρ (one l (oList ((movesOf th s).map nAV)) :: H)) : WC (Fr w raw true lv) (.val (.ref 146)) [.list (cav th), nAV s] ρ H Q X := by
  refine WK.wc (WK.pos (ρ0 := [("threads", .list (cav th)), ("state", nAV s)]) 60 (fn146 _) rfl (by show 1 ≤ lv; omega) (by kernel_rfl) (fun z_ z_ => .z (by kernel_rfl)) (by kernel_rfl) (by kernel_rfl) ?_)
  refine WX.assignCell 40 (by kernel_rfl) (by kernel_rfl) ?_
  refine WE.comp 30 (by kernel_rfl) rfl ?_
  refine WC.len .fz (by rw [cav_len]; (exact Nat.le_trans (by assumption) (Nat.le_of_ble_eq_true rfl))) ?_
  rw [cav_len]
  refine WC.range1 fun r => .go ?_
  refine .mk (List.range th.length) nAV (fun k => some (nAV (stg s k))) (WIterC.rng (i := 0) rfl one_self rfl (by (exact Nat.le_trans (by assumption) (Nat.le_of_ble_eq_true rfl)))) (fun z_ => trivial) (by rw [List.length_range]; (exact Nat.le_trans (by assumption) (Nat.le_of_ble_eq_true rfl))) ?_ ?_
  · intro k hk
    have hk := List.mem_range.mp hk
    refine ⟨p3_ok (by lia), p3_div (by lia), three_mod, ?_⟩
    rw [stg_int]
    exact ⟨rfl, ⟨rfl, trivial⟩, rfl⟩
  · intro D
    rw [filterMap_some]
    refine ⟨_, _, _, rfl, rfl, ?_⟩
    refine Gh.sub [("threads", .list (cav th)), ("state", nAV s), ("stages", .list ((stgL th.length s).map nAV))] ⟨rfl, rfl, ?_, trivial⟩ (Gh.drop (H' := H) (List.sublist_cons_self ..) (.go ?_))
    · rw [stgL, List.map_map]; rfl
    refine WX.assignCompO 40 (by kernel_rfl) rfl (by kernel_rfl) ?_
    refine WC.len .fz (by rw [cav_len]; (exact Nat.le_trans (by assumption) (Nat.le_of_ble_eq_true rfl))) ?_
    rw [cav_len]
    refine WC.range1 fun r => .go ?_
    refine .mk (List.range th.length) nAV (fun k => if decide (stg s k = 1) = true then some (thF th k).av else Option.none) (WIterC.rng (i := 0) rfl one_self rfl (by (exact Nat.le_trans (by assumption) (Nat.le_of_ble_eq_true rfl)))) (fun z_ => trivial) (by rw [List.length_range]; (exact Nat.le_trans (by assumption) (Nat.le_of_ble_eq_true rfl))) ?_ ?_
    · intro k hk
      have hk := List.mem_range.mp hk
      refine wItem.nat (stgL_at hk) (by omega) ?_
      refine wIf.of (fun h1 => ?_) fun h1 => ?_
      · have h1 := is_eq 1 h1
        refine wItem.nat (cav_at hk) (by omega) ?_
        exact ⟨by decide, rfl, ⟨rfl, rfl, trivial⟩, by rw [if_pos (decide_eq_true h1)]⟩
      · have h1 := not_eq 1 h1
        exact ⟨rfl, ⟨rfl, rfl, trivial⟩, by rw [if_neg (by simpa using h1)]⟩
    · intro D
      rw [filterMap_if]
      refine Gh.freeze (i := 0) "held" rfl rfl ?_
      refine Gh.sub [("threads", .list (cav th)), ("state", nAV s), ("stages", .list ((stgL th.length s).map nAV)), ("held", .list (kav (heldL th s)))] ⟨rfl, rfl, rfl, ?_, trivial⟩ (Gh.drop (H' := H) (List.sublist_cons_self ..) (.go ?_))
      · rw [heldL, kav, List.map_map]; rfl
      refine ⟨Nat.le_of_ble_eq_true rfl, fun l => .go ?_⟩
      refine WX.for 40 rfl rfl ?_
      refine WC.len .fz (by rw [cav_len]; (exact Nat.le_trans (by assumption) (Nat.le_of_ble_eq_true rfl))) ?_
      rw [cav_len]
      refine WC.range1 fun r => .go ?_
      refine WLoop.mk (MvI th s l r H) (WIter.rng (i := 0) rfl one_self rfl (by (exact Nat.le_trans (by assumption) (Nat.le_of_ble_eq_true rfl)))) (fun z_ z_ z_ z_ => trivial) ⟨rfl, rfl⟩ ?_ ?_
      · rintro m y ρ' H' hy ⟨rfl, rfl⟩
        obtain ⟨k, hk, rfl⟩ := map_get_inv hy
        obtain ⟨hm, rfl⟩ := range_at hk
        refine wItem.nat (stgL_at hm) (by omega) ?_
        refine wIf.of (fun h1 => ?_) fun h1 => ?_
        · have h1 := is_lt 2 h1
          refine wItem.nat (cav_at hm) (by omega) ?_
          refine wItem.nat (stgL_at hm) (by omega) ?_
          refine wItem.nat (xs := [(thF th k).av, (thG th k).av]) (want_at h1) (by omega) ?_
          refine W2.notInE (a := want th s k) (l := heldL th s) encKey (by decide) (want_ok hth hm) (heldL_ok hth) ?_
          refine wIf.of (fun h2 => ?_) fun h2 => ?_
          · refine WMeth.append (n := 30) (.own (i := 1) rfl one_self) ?_ rfl
            refine ⟨p3_ok (by lia), ?_⟩
            rw [p3_int]
            refine ⟨1, _, _, rfl, one_self, by rw [List.length_map, List.length_map]; exact Nat.le_trans (List.length_filter_le ..) (by rw [List.length_range]; lia), ?_⟩
            rw [one_put]
            refine .go (Gh.sub (mvE th s l) ⟨rfl, rfl, rfl, rfl, rfl, trivial⟩ (.go (.go ⟨rfl, ?_⟩)))
            rw [mv_snoc, if_pos (by rw [canGo_of h1]; exact h2)]; rfl
          · refine Gh.sub (mvE th s l) ⟨rfl, rfl, rfl, rfl, rfl, trivial⟩ (.go (.go ⟨rfl, ?_⟩))
            rw [mv_snoc, if_neg (by rw [canGo_of h1, h2]; exact Bool.false_ne_true), List.append_nil]
        · have h1 := not_lt 2 h1
          refine Gh.sub (mvE th s l) ⟨rfl, rfl, rfl, rfl, rfl, trivial⟩ (.go (.go ⟨rfl, ?_⟩))
          rw [mv_snoc, if_neg (by unfold canGo; rw [decide_eq_false h1]; exact Bool.false_ne_true), List.append_nil]
      · rintro ρ' H' ⟨rfl, rfl⟩
        rw [List.length_map, List.length_range]
        exact .go (Gh.drop (List.sublist_cons_self ..) (.go (h l)))
end
end Mine.Internal
end

section
open PySem PySem.W PySem.Calls PyProof.Rows
set_option Elab.async false
set_option maxRecDepth 100000
set_option maxHeartbeats 0
set_option linter.unusedVariables false
set_option linter.unusedSimpArgs false
namespace Mine.Internal
theorem fn151 (P : Params) : FnIs (K0 P) 151 (fdK P 151) (fBody (fnAt 9)) := ⟨by kernel_rfl, by kernel_rfl, by kernel_rfl⟩
noncomputable def locks4 : List Key := [.s "", .s "0", .s "a", .s "b"]
theorem locks4_ok : okAll locks4 := fun k hk => by
  rcases List.mem_cons.mp hk with rfl | hk; · show PyData.strOk _ = true; kernel_rfl
  rcases List.mem_cons.mp hk with rfl | hk; · show PyData.strOk _ = true; kernel_rfl
  rcases List.mem_cons.mp hk with rfl | hk; · show PyData.strOk _ = true; kernel_rfl
  rcases List.mem_cons.mp hk with rfl | hk; · show PyData.strOk _ = true; kernel_rfl
  cases hk
theorem locks4_nodup : locks4.Nodup := by decide +kernel
theorem locks4_str : ∀ k ∈ locks4, ∃ a, k = .s a := fun k hk => by
  rcases List.mem_cons.mp hk with rfl | hk; · exact ⟨_, rfl⟩
  rcases List.mem_cons.mp hk with rfl | hk; · exact ⟨_, rfl⟩
  rcases List.mem_cons.mp hk with rfl | hk; · exact ⟨_, rfl⟩
  rcases List.mem_cons.mp hk with rfl | hk; · exact ⟨_, rfl⟩
  cases hk
noncomputable def lks (sz : Nat) : List Key := locks4.take sz
theorem lks_len {sz : Nat} (h : sz ≤ 4) : (lks sz).length = sz := by rw [lks, List.length_take]; exact Nat.min_eq_left h
theorem lks_av {sz : Nat} : (kav locks4).take sz = kav (lks sz) := List.map_take.symm
noncomputable def lk (i : Nat) : Key := (locks4[i]?).getD (.i 0)
theorem lk_mem {i : Nat} (h : i < 4) : lk i ∈ locks4 := by
  have h1 : locks4[i]? = some locks4[i] := List.getElem?_eq_getElem h
  unfold lk; rw [h1]; exact List.getElem_mem h
theorem lk_inj {i j : Nat} (hi : i < 4) (hj : j < 4) (h : lk i = lk j) : i = j := by
  have h1 : locks4[i]? = some locks4[i] := List.getElem?_eq_getElem hi
  have h2 : locks4[j]? = some locks4[j] := List.getElem?_eq_getElem hj
  unfold lk at h; rw [h1, h2] at h
  have h : locks4[i] = locks4[j] := h
  have hp := List.pairwise_iff_getElem.mp locks4_nodup
  rcases Nat.lt_trichotomy i j with hh | hh | hh
  · exact absurd h (hp _ _ hi hj hh)
  · exact hh
  · exact absurd h.symm (hp _ _ hj hi hh)
theorem lks_at {sz i : Nat} (h4 : sz ≤ 4) (hi : i < sz) : (kav (lks sz))[i]? = some (lk i).av := by
  have h4 : i < locks4.length := Nat.lt_of_lt_of_le hi h4
  have h1 : locks4[i]? = some locks4[i] := List.getElem?_eq_getElem h4
  rw [kav, lks, List.getElem?_map, List.getElem?_take, if_pos hi, lk, h1]; rfl
noncomputable def thA (sz : Nat) (x : Int) : Nat := (x.fmod sz).toNat
noncomputable def thB (sz : Nat) (x : Int) : Nat := ((x.fmod sz + 1 + (x.fdiv sz).fmod ((sz : Int) - 1)).fmod sz).toNat
noncomputable def thOf (sz : Nat) (x : Int) : Key × Key := (lk (thA sz x), lk (thB sz x))
section
variable {sz : Nat} {x : Int}
theorem mod_nat (h2 : 2 ≤ sz) (y : Int) : ((y.fmod sz).toNat : Int) = y.fmod sz ∧ (y.fmod sz).toNat < sz := by
  have hp : (0 : Int) < sz := Int.natCast_pos.mpr (Nat.lt_of_lt_of_le Nat.two_pos h2)
  have h0 : 0 ≤ y.fmod sz := Int.fmod_nonneg_of_pos _ hp
  exact ⟨Int.toNat_of_nonneg h0, (Int.toNat_lt h0).mpr (Int.fmod_lt_of_pos _ hp)⟩
theorem next_ne : ∀ sz : Fin 5, ∀ a : Fin 5, ∀ c : Fin 5, a.1 < sz.1 → c.1 + 1 < sz.1 → (a.1 + 1 + c.1) % sz.1 ≠ a.1 := by decide +kernel
theorem thAB_ne (h2 : 2 ≤ sz) (h4 : sz ≤ 4) : thA sz x ≠ thB sz x := by
  unfold thA thB
  have hp : (0 : Int) < sz := Int.natCast_pos.mpr (Nat.lt_of_lt_of_le Nat.two_pos h2)
  have hq : (0 : Int) < (sz : Int) - 1 := Int.sub_pos_of_lt (Int.ofNat_lt.mpr h2)
  have a0 := Int.fmod_nonneg_of_pos x hp
  have a1 := Int.fmod_lt_of_pos x hp
  have c0 := Int.fmod_nonneg_of_pos (x.fdiv sz) hq
  have c1 := Int.fmod_lt_of_pos (x.fdiv sz) hq
  generalize (x.fdiv sz).fmod ((sz : Int) - 1) = c at c0 c1 ⊢
  generalize x.fmod sz = a at a0 a1 ⊢
  obtain ⟨a, rfl⟩ := Int.eq_ofNat_of_zero_le a0
  obtain ⟨c, rfl⟩ := Int.eq_ofNat_of_zero_le c0
  have a2 : a < sz := Int.ofNat_lt.mp a1
  have c2 : c + 1 < sz := by lia
  rw [Int.fmod_eq_emod_of_nonneg _ (Int.natCast_nonneg _)]
  show a ≠ (a + 1 + c) % sz
  have h5 : sz < 5 := Nat.lt_succ_of_le h4
  exact (next_ne ⟨sz, h5⟩ ⟨a, Nat.lt_trans a2 h5⟩ ⟨c, Nat.lt_trans (Nat.lt_of_succ_lt c2) h5⟩ a2 c2).symm
theorem thOf_mem (h2 : 2 ≤ sz) (h4 : sz ≤ 4) : (thOf sz x).1 ∈ locks4 ∧ (thOf sz x).2 ∈ locks4 :=
  ⟨lk_mem (Nat.lt_of_lt_of_le (mod_nat h2 _).2 h4), lk_mem (Nat.lt_of_lt_of_le (mod_nat h2 _).2 h4)⟩
theorem thOf_ne (h2 : 2 ≤ sz) (h4 : sz ≤ 4) : (thOf sz x).1 ≠ (thOf sz x).2 := fun e => thAB_ne h2 h4 (lk_inj (Nat.lt_of_lt_of_le (mod_nat h2 _).2 h4) (Nat.lt_of_lt_of_le (mod_nat h2 _).2 h4) e)
end
structure ThOk (th : List (Key × Key)) : Prop where
  lo : 2 ≤ th.length
  hi : th.length ≤ 5
  mem : ∀ p ∈ th, p.1 ∈ locks4 ∧ p.2 ∈ locks4
  ne : ∀ p ∈ th, p.1 ≠ p.2
theorem ThOk.ok {th : List (Key × Key)} (h : ThOk th) : okPairs th := fun p hp => ⟨locks4_ok _ (h.mem p hp).1, locks4_ok _ (h.mem p hp).2⟩
theorem ThOk.lock {th : List (Key × Key)} (h : ThOk th) : LockTh th := ⟨fun k hk => locks4_str _ (h.mem _ (at_pair hk)).1, fun k hk => locks4_str _ (h.mem _ (at_pair hk)).2, fun k hk => h.ne _ (at_pair hk)⟩
theorem thOk_of {sz : Nat} {ns : List Int} (h2 : 2 ≤ sz) (h4 : sz ≤ 4) (hl : 2 ≤ ns.length) (hn : ns.length ≤ 5) : ThOk (ns.map (thOf sz)) := by
  refine ⟨by rw [List.length_map]; exact hl, by rw [List.length_map]; exact hn, fun p hp => ?_, fun p hp => ?_⟩
  · obtain ⟨x, _, rfl⟩ := List.mem_map.mp hp; exact thOf_mem h2 h4
  · obtain ⟨x, _, rfl⟩ := List.mem_map.mp hp; exact thOf_ne h2 h4
theorem iav_get {ns : List Int} {k : Nat} (h : k < ns.length) : (iav ns)[k]? = some (.int (ns[k]'h)) := by
  rw [iav, List.getElem?_map, List.getElem?_eq_getElem h]; rfl
theorem iav_lenM {ns : List Int} (h : ns.length ≤ 63) : (iav ns).length ≤ 1000000 := by rw [iav_len]; (exact Nat.le_trans (by assumption) (Nat.le_of_ble_eq_true rfl))
theorem sz_ex (sc : List Int) : ∃ sz : Nat, 2 + sc.sum.fmod 3 = (sz : Int) ∧ 2 ≤ sz ∧ sz ≤ 4 := by
  have h0 : 0 ≤ sc.sum.fmod 3 := Int.fmod_nonneg_of_pos _ (by decide)
  have h1 : sc.sum.fmod 3 < 3 := Int.fmod_lt_of_pos _ (by decide)
  exact ⟨(2 + sc.sum.fmod 3).toNat, by lia, by lia, by lia⟩
theorem idx_ok (m : Int) {ns : List Int} (h3 : 2 ≤ ns.length) (h6 : ns.length ≤ 5) : 0 ≤ m.fmod ns.length ∧ (m.fmod ns.length).toNat < ns.length ∧ m.fmod ns.length < 2 ^ 63 ∧ m.fmod ns.length < ((iav ns).length : Int) := by
  have hm0 : 0 ≤ m.fmod ns.length := Int.fmod_nonneg_of_pos _ (by lia)
  have hm1 : m.fmod ns.length < ns.length := Int.fmod_lt_of_pos _ (by lia)
  rw [iav_len]
  exact ⟨hm0, by omega, by omega, hm1⟩
theorem len_div {n : Nat} (h3 : 1 ≤ n) (h6 : n ≤ 8) : (n : Int) ≠ 0 ∧ (n : Int).natAbs.log2 < 9000 := ⟨by lia, Nat.lt_of_le_of_lt (Nat.log2_le_self _) (by (exact Nat.lt_of_le_of_lt (by assumption) (by decide)))⟩
noncomputable def ns5 : List Int := [0, 1, 0, 0, 0]
noncomputable def FL (w : World) (raw : List (Str × NameKind)) (lv : Nat) : Fm := (Fr w raw true lv).callee (fdK w.params 151).scope
noncomputable def lawFrom (k : Nat) : List Stmt := (fBody (fnAt 9)).drop k
noncomputable def ρA (sc : List Int) (sz : Nat) (nb : Addr) : AEnv := [("script", .list (iav sc)), ("locks", .list (kav (lks sz))), ("many", nAV sz), ("numbers", .ref nb)]
noncomputable def ρB (sz : Nat) (nb tb : Addr) : AEnv := [("locks", .list (kav (lks sz))), ("many", nAV sz), ("numbers", .ref nb), ("threads", .ref tb)]
noncomputable def ρT (th : List (Key × Key)) : AEnv := [("threads", .list (cav th))]
inductive HeadI (H : AHs) (sc : List Int) (sz : Nat) (nb r : Addr) (m : Nat) (ρ' : AEnv) (H' : AHs) : Prop
  | mk (ns : List Int) (h0 : ρ' = ρA sc sz nb) (h1 : H' = one r (oRange 0 sc.length 1) :: one nb (oList (iav ns)) :: H) (h2 : 2 ≤ ns.length) (h3 : ns.length ≤ 5) : HeadI H sc sz nb r m ρ' H'
inductive ThI (H : AHs) (ns : List Int) (sz : Nat) (nb tb : Addr) (m : Nat) (ρ' : AEnv) (H' : AHs) : Prop
  | mk (h0 : ρ' = ρB sz nb tb) (h1 : H' = one tb (oList (cav ((ns.take m).map (thOf sz)))) :: one nb (oList (iav ns)) :: H) : ThI H ns sz nb tb m ρ' H'
section
variable {w : World} {raw : List (Str × NameKind)} {lv : Nat} {ρ : AEnv} {H : AHs} {Q : AF → AEnv → AHs → Prop} {X : AX}
theorem law_head {sc : List Int} (hlv : 6 ≤ lv) (hsc : sc.length ≤ 63) (h : ∀ (sz : Nat) (ns : List Int) (nb : Addr), 2 ≤ sz → sz ≤ 4 → 2 ≤ ns.length → ns.length ≤ 5 → wS (wRec 59) (FL w raw lv) (lawFrom 4) (ρA sc sz nb) (one nb (oList (iav ns)) :: H) Q X) :
    wS (wRec 59) (FL w raw lv) (lawFrom 0) [("script", .list (iav sc))] H Q X := by
  refine ⟨Nat.le_of_ble_eq_true rfl, ?_⟩
  refine WC.sum (ns := sc) rfl .fz ?_
  refine ⟨⟨by decide, by decide⟩, ?_⟩
  obtain ⟨sz, hsz, hs2, hs4⟩ := sz_ex sc
  refine ⟨kav locks4, (kav locks4).take (2 + sc.sum.fmod 3).toNat, .fz, .upto (hsz ▸ Int.natCast_nonneg sz), Nat.le_of_ble_eq_true rfl, .go ?_⟩
  rw [hsz, Int.toNat_natCast, lks_av]
  refine WC.len .fz (by rw [kav_len, lks_len hs4]; (exact Nat.le_trans (by assumption) (Nat.le_of_ble_eq_true rfl))) (.go ?_)
  rw [kav_len, lks_len hs4]
  refine ⟨Nat.le_of_ble_eq_true rfl, ?_⟩
  refine WC.len .fz (iav_lenM hsc) ?_
  rw [iav_len]
  refine ⟨iav ns5, (iav ns5).take (2 + sc.length), .fz, .upto (by (exact Int.natCast_nonneg _)), Nat.le_of_ble_eq_true rfl, fun nb => .go ?_⟩
  have htk : (iav ns5).take (2 + sc.length) = iav (ns5.take (2 + sc.length)) := List.map_take.symm
  rw [htk]
  have htl : (ns5.take (2 + sc.length)).length = min (2 + sc.length) 5 := List.length_take ..
  refine WX.for 50 rfl rfl (WC.len .fz (iav_lenM hsc) ?_)
  rw [iav_len]
  refine WC.range1 fun r => .go ?_
  refine WLoop.mk (xs := (List.range sc.length).map fun (k : Nat) => AV.int (k : Int)) (HeadI H sc sz nb r) (WIter.rng (i := 0) rfl one_self rfl (by (exact Nat.le_trans (by assumption) (Nat.le_of_ble_eq_true rfl)))) (fun z_ z_ z_ z_ => trivial) ⟨_, rfl, rfl, by lia, by lia⟩ ?_ ?_
  · rintro m y ρ' H₂ hy ⟨ns, rfl, rfl, hn3, hn6⟩
    obtain ⟨k, hk, rfl⟩ := map_get_inv hy
    have hk2 : k < sc.length := by obtain ⟨h1, rfl⟩ := range_at hk; exact h1
    refine WC.len (.own (i := 1) rfl one_self) (iav_lenM (by (exact Nat.le_trans (by assumption) (Nat.le_of_ble_eq_true rfl)))) ?_
    rw [iav_len]
    obtain ⟨hm0, hm1, hm2, hm3⟩ := idx_ok (2 + (k : Int)) hn3 hn6
    refine ⟨len_div (by (exact Nat.le_of_lt (by assumption))) (by (exact Nat.le_trans (by assumption) (Nat.le_of_ble_eq_true rfl))), ?_⟩
    refine W2.getI (.own (i := 1) rfl one_self) hm0 hm2 (iav_get hm1) ?_
    refine wItem.nat (iav_get hk2) (by omega) ?_
    refine W3.setI (i := 1) rfl one_self hm0 hm2 hm3 ?_
    refine .go (Gh.sub (ρA sc sz nb) ⟨rfl, rfl, rfl, rfl, trivial⟩ (.go ⟨ns.set ((2 + (k : Int)).fmod ns.length).toNat (ns[((2 + (k : Int)).fmod ns.length).toNat]'hm1 + sc[k]), rfl, ?_, ?_, ?_⟩))
    · rw [List.set_cons_succ, List.set_cons_zero, one_put]; simp only [iav, List.map_set]
    · rw [List.length_set]; exact hn3
    · rw [List.length_set]; exact hn6
  · rintro ρ' H₂ ⟨ns, rfl, rfl, hn3, hn6⟩
    exact Gh.drop (List.sublist_cons_self ..) (.go (h sz ns nb hs2 hs4 hn3 hn6))
theorem law_threads {sc ns : List Int} {sz : Nat} {nb : Addr} (h2 : 2 ≤ sz) (h4 : sz ≤ 4) (hl : 2 ≤ ns.length) (hn : ns.length ≤ 5) (h : ∀ th, ThOk th → wS (wRec 59) (FL w raw lv) (lawFrom 6) (ρT th) H Q X) :
    wS (wRec 59) (FL w raw lv) (lawFrom 4) (ρA sc sz nb) (one nb (oList (iav ns)) :: H) Q X := by
  refine ⟨Nat.le_of_ble_eq_true rfl, fun tb => Gh.sub (ρB sz nb tb) ⟨rfl, rfl, rfl, rfl, trivial⟩ (.go ?_)⟩
  refine WX.for 50 rfl rfl (.go ?_)
  refine WLoop.mk (xs := iav ns) (ThI H ns sz nb tb) (WIter.list rfl (.own (i := 1) rfl one_self)) ?_ ⟨rfl, rfl⟩ ?_ ?_
  · rintro m ρ' H' ⟨rfl, rfl⟩
    exact .own (i := 1) rfl one_self
  · rintro m y ρ' H' hy ⟨rfl, rfl⟩
    obtain ⟨x, hx, rfl⟩ := map_get_inv hy
    have hxs := (List.getElem?_eq_some_iff.mp hx).1
    have hd := len_div (n := sz) (by (exact Nat.le_of_lt (by assumption))) (by (exact Nat.le_trans (by assumption) (Nat.le_of_ble_eq_true rfl)))
    have hA := mod_nat h2 x
    have hB := mod_nat h2 (x.fmod sz + 1 + (x.fdiv sz).fmod ((sz : Int) - 1))
    refine WMeth.append (n := 30) (.own (i := 0) rfl one_self) ?_ rfl
    refine ⟨hd, ?_⟩
    refine wItem.int (by rw [← hA.1]; exact Int.natCast_nonneg _) (by rw [← hA.1]; omega) (lks_at h4 hA.2) ?_
    refine ⟨hd, hd, ⟨by lia, ?_⟩, hd, ?_⟩
    · rw [show ((sz : Int) - 1).natAbs = sz - 1 by lia]; exact Nat.lt_of_le_of_lt (Nat.log2_le_self _) (by omega)
    refine wItem.int (by rw [← hB.1]; exact Int.natCast_nonneg _) (by rw [← hB.1]; omega) (lks_at h4 hB.2) ?_
    refine ⟨Nat.le_of_ble_eq_true rfl, ?_⟩
    refine ⟨0, _, _, rfl, one_self, by rw [cav_len, List.length_map]; exact Nat.le_trans (List.length_take_le ..) (by lia), ?_⟩
    rw [one_put]
    refine .go (Gh.sub (ρB sz nb tb) ⟨rfl, rfl, rfl, rfl, trivial⟩ (.go ⟨rfl, ?_⟩))
    rw [take_snoc hx, List.map_append, show cav ((ns.take m).map (thOf sz) ++ [x].map (thOf sz)) = cav ((ns.take m).map (thOf sz)) ++ cav ([x].map (thOf sz)) from List.map_append ..]; rfl
  · rintro ρ' H' ⟨rfl, rfl⟩
    rw [iav_len, List.take_length]
    refine Gh.freeze (i := 0) "threads" rfl rfl ?_
    exact Gh.sub (ρT (ns.map (thOf sz))) ⟨rfl, trivial⟩ (Gh.drop (List.sublist_cons_self ..) (.go (h _ (thOk_of h2 h4 hl hn))))
end
end Mine.Internal
end

section
open PySem PySem.W PySem.Calls PyProof.Rows
set_option Elab.async false
set_option maxRecDepth 100000
set_option maxHeartbeats 0
set_option linter.unusedVariables false
set_option linter.unusedSimpArgs false
namespace Mine.Internal
theorem nodupN_len : ∀ {l m : List Nat}, l.Nodup → (∀ x ∈ l, x ∈ m) → l.length ≤ m.length
  | [], _, _, _ => Nat.zero_le _
  | a :: l, m, hn, h => by
    have hn := List.nodup_cons.mp hn
    have ha := h a (List.mem_cons_self ..)
    have := nodupN_len (l := l) (m := m.erase a) hn.2 fun x hx => (List.mem_erase_of_ne (fun e : x = a => hn.1 (e ▸ hx))).mpr (h x (List.mem_cons_of_mem _ hx))
    rw [List.length_erase_of_mem ha] at this
    have := List.length_pos_of_mem ha
    rw [List.length_cons]; lia
theorem moves_nodup {th : List (Key × Key)} {s : Nat} : (movesOf th s).Nodup := by
  unfold movesOf
  refine List.pairwise_map.mpr ?_
  refine List.Pairwise.imp (fun {a b} h e => ?_) (List.Pairwise.filter _ (List.pairwise_lt_range (n := th.length)))
  have := Nat.pow_lt_pow_right (show 1 < 3 by decide) h
  lia
theorem moves_len {th : List (Key × Key)} {s : Nat} : (movesOf th s).length ≤ th.length := by
  unfold movesOf
  rw [List.length_map]
  exact Nat.le_trans (List.length_filter_le ..) (by rw [List.length_range]; exact Nat.le_refl _)
structure CI (th : List (Key × Key)) (m : Nat) (come : List Nat) : Prop where
  nd : come.Nodup
  z : 0 ∈ come
  r : ∀ c ∈ come, Rch th c ∧ c < 3 ^ th.length
  cl : ∀ s, s < m → s ∈ come → ∀ x ∈ movesOf th s, x ∈ come
theorem CI.zero {th : List (Key × Key)} : CI th 0 [0] := ⟨by simp, by simp, fun c hc => by rw [List.mem_singleton.mp hc]; exact ⟨.nil, pow3 _⟩, fun s hs => absurd hs (Nat.not_lt_zero s)⟩
theorem CI.len {th : List (Key × Key)} {m : Nat} {come : List Nat} (h : CI th m come) (hn : th.length ≤ 5) : come.length ≤ 243 := by
  have h1 := nodupN_len (m := List.range (3 ^ th.length)) h.nd fun x hx => List.mem_range.mpr (h.r x hx).2
  rw [List.length_range] at h1
  exact Nat.le_trans h1 (Nat.le_trans (Nat.pow_le_pow_right (by decide) hn) (by decide))
noncomputable def moreOf (th : List (Key × Key)) (m : Nat) (come : List Nat) : List Nat := (movesOf th m).filter fun x => !decide (x ∈ come)
theorem CI.no {th : List (Key × Key)} {m : Nat} {come : List Nat} (h : CI th m come) (hm : m ∉ come) : CI th (m + 1) come :=
  ⟨h.nd, h.z, h.r, fun s hs hc => h.cl s (Nat.lt_of_le_of_ne (Nat.le_of_lt_succ hs) fun e => hm (e ▸ hc)) hc⟩
theorem mem_more {th : List (Key × Key)} {m x : Nat} {come : List Nat} : x ∈ moreOf th m come ↔ x ∈ movesOf th m ∧ x ∉ come := by
  unfold moreOf
  rw [List.mem_filter]; simp
theorem CI.yes {th : List (Key × Key)} {m : Nat} {come : List Nat} (h : CI th m come) (hm : m ∈ come) : CI th (m + 1) (come ++ moreOf th m come) := by
  refine ⟨List.nodup_append.mpr ⟨h.nd, List.Pairwise.filter _ moves_nodup, fun a ha b hb e => (mem_more.mp hb).2 (e ▸ ha)⟩, List.mem_append_left _ h.z, fun c hc => ?_, fun s hs hc x hx => ?_⟩
  · rcases List.mem_append.mp hc with hc | hc
    · exact h.r c hc
    · have := (mem_more.mp hc).1
      exact ⟨.step (h.r m hm).1 this, (moves_lt (h.r m hm).2 this).1⟩
  · have hd : s ∈ come → x ∈ come ++ moreOf th m come := fun hc => by
      rcases Nat.lt_or_ge s m with q | q
      · exact List.mem_append_left _ (h.cl s q hc x hx)
      · have e : s = m := Nat.le_antisymm (Nat.le_of_lt_succ hs) q
        subst e
        by_cases hxc : x ∈ come
        · exact List.mem_append_left _ hxc
        · exact List.mem_append_right _ (mem_more.mpr ⟨hx, hxc⟩)
    rcases List.mem_append.mp hc with hc | hc
    · exact hd hc
    · have := moves_lt (h.r m hm).2 (mem_more.mp hc).1
      lia
theorem CI.all {th : List (Key × Key)} {come : List Nat} (h : CI th (3 ^ th.length) come) : ∀ s, Rch th s → s ∈ come := fun s hs => by
  induction hs with
  | nil => exact h.z
  | step _ hm ih => exact h.cl _ (h.r _ ih).2 ih _ hm
noncomputable def ρC (th : List (Key × Key)) (cb : Addr) : AEnv := [("threads", .list (cav th)), ("come", .ref cb)]
inductive ComeI (H : AHs) (th : List (Key × Key)) (cb r : Addr) (m : Nat) (ρ' : AEnv) (H' : AHs) : Prop
  | mk (come : List Nat) (h0 : ρ' = ρC th cb) (h1 : H' = one r (oRange 0 ((3 ^ th.length : Nat) : Int) 1) :: one cb (oList (come.map nAV)) :: H) (h2 : CI th m come) : ComeI H th cb r m ρ' H'
section
variable {w : World} {raw : List (Str × NameKind)} {lv : Nat} {ρ : AEnv} {H : AHs} {Q : AF → AEnv → AHs → Prop} {X : AX}
theorem law_come {th : List (Key × Key)} (hlv : 9 ≤ lv) (ok : ThOk th) (h : ∀ cb come, CI th (3 ^ th.length) come → wS (wRec 59) (FL w raw lv) (lawFrom 8) (ρC th cb) (one cb (oList (come.map nAV)) :: H) Q X) :
    wS (wRec 59) (FL w raw lv) (lawFrom 6) (ρT th) H Q X := by
  have h5 := ok.hi
  have hp : 3 ^ th.length ≤ 243 := Nat.le_trans (Nat.pow_le_pow_right (by decide) h5) (by decide)
  refine ⟨Nat.le_of_ble_eq_true rfl, fun cb => .go ?_⟩
  refine WX.for 50 rfl rfl ?_
  refine WC.len .fz (by rw [cav_len]; (exact Nat.le_trans (by assumption) (Nat.le_of_ble_eq_true rfl))) ?_
  rw [cav_len]
  refine ⟨p3_ok (by (exact Nat.le_trans (by assumption) (Nat.le_of_ble_eq_true rfl))), ?_⟩
  rw [p3_int]
  refine WC.range1 fun r => .go ?_
  refine WLoop.mk (ComeI H th cb r) (WIter.rng (n := 3 ^ th.length) (i := 0) rfl one_self rfl (by (exact Nat.le_trans (by assumption) (Nat.le_of_ble_eq_true rfl)))) (fun z_ z_ z_ z_ => trivial) ⟨[0], rfl, rfl, .zero⟩ ?_ ?_
  · rintro m y ρ' H' hy ⟨come, rfl, rfl, hC⟩
    obtain ⟨k, hk, rfl⟩ := map_get_inv hy
    obtain ⟨hm, rfl⟩ := range_at hk
    have hcl := hC.len h5
    refine W2.inLV (x := k) (xs := come) encNat (by decide) (.own (i := 1) rfl one_self) trivial (fun z_ z_ => trivial) ?_
    refine wIf.of (fun h1 => ?_) fun h1 => ?_
    · have h1 : k ∈ come := of_decide_eq_true h1
      refine WMeth.extend (n := 30) (.own (i := 1) rfl one_self) ?_ rfl
      refine WE.comp 25 (by kernel_rfl) rfl ?_
      refine moves_ok (lv := lv - 1) (by lia) h5 ok.ok fun l => .go ?_
      refine .mk (movesOf th k) nAV (fun x => if (!decide (x ∈ come)) = true then some (nAV x) else Option.none) (WIterC.list rfl (.own (i := 0) rfl one_self)) (fun M => .own (i := 1) rfl one_self) (by have := moves_len (th := th) (s := k); lia) ?_ ?_
      · intro x hx
        refine W2.notInLV (x := x) (xs := come) encNat (by decide) (.own (i := 2) rfl one_self) trivial (fun z_ z_ => trivial) ?_
        refine wIf.of (fun h2 => ?_) fun h2 => ?_
        · exact ⟨rfl, ⟨rfl, trivial⟩, by rw [if_pos h2]⟩
        · exact ⟨rfl, ⟨rfl, trivial⟩, by rw [if_neg (by rw [h2]; exact Bool.false_ne_true)]⟩
      · intro D
        rw [filterMap_if]
        refine ⟨_, _, _, rfl, rfl, ?_⟩
        refine ⟨2, _, _, (moreOf th k come).map nAV, rfl, one_self, .l .fz, ?_, ?_⟩
        · have := moves_len (th := th) (s := k)
          have := List.length_filter_le (fun x => !decide (x ∈ come)) (movesOf th k)
          rw [List.length_map, List.length_map]; unfold moreOf; lia
        rw [one_put, ← List.map_append]
        refine .go (Gh.sub (ρC th cb) ⟨rfl, rfl, trivial⟩ (Gh.drop (List.sublist_cons_self ..) (.go (.go ⟨_, rfl, rfl, hC.yes h1⟩))))
    · have h1 : k ∉ come := of_decide_eq_false h1
      exact Gh.sub (ρC th cb) ⟨rfl, rfl, trivial⟩ (.go (.go ⟨_, rfl, rfl, hC.no h1⟩))
  · rintro ρ' H' ⟨come, rfl, rfl, hC⟩
    rw [List.length_map, List.length_range] at hC
    exact Gh.drop (List.sublist_cons_self ..) (.go (h cb come hC))
end
end Mine.Internal
end

section
open PySem PySem.W PySem.Calls PyProof.Rows
set_option Elab.async false
set_option maxRecDepth 100000
set_option maxHeartbeats 0
set_option linter.unusedVariables false
set_option linter.unusedSimpArgs false
namespace Mine.Internal
structure SS (th : List (Key × Key)) (ss : List Nat) : Prop where
  nd : ss.Nodup
  lt : ∀ s ∈ ss, s < 3 ^ th.length
  r : ∀ s ∈ ss, Rch th s
  all : ∀ s, Rch th s → s ∈ ss
  cl : ∀ (i s : Nat), ss[i]? = some s → ∀ x ∈ movesOf th s, x ∈ ss.take i
  len : ss.length ≤ 243
theorem ss_of {th : List (Key × Key)} {come : List Nat} {ns : List Int} (hC : CI th (3 ^ th.length) come) (h5 : th.length ≤ 5) (hp : ns.Perm (come.map fun (c : Nat) => (c : Int))) (hs : ns.Pairwise (· ≥ ·)) : ∃ ss, SS th ss ∧ ns.map AV.int = ss.map nAV := by
  have hns : ∀ x ∈ ns, ∃ c : Nat, x = (c : Int) := fun x hx => by
    obtain ⟨c, _, rfl⟩ := List.mem_map.mp (hp.mem_iff.mp hx)
    exact ⟨c, rfl⟩
  have e1 : (ns.map Int.toNat).map (fun (c : Nat) => (c : Int)) = ns := by
    rw [List.map_map]
    refine (List.map_congr_left fun x hx => ?_).trans (List.map_id ns)
    obtain ⟨c, rfl⟩ := hns x hx
    rfl
  have hp2 : (ns.map Int.toNat).Perm come := by
    have := hp.map Int.toNat
    rw [List.map_map] at this
    have e2 : come.map (Int.toNat ∘ fun (c : Nat) => (c : Int)) = come := (List.map_congr_left fun x z_ => rfl).trans (List.map_id come)
    rwa [e2] at this
  have hge : (ns.map Int.toNat).Pairwise (· ≥ ·) := List.pairwise_map.mpr (hs.imp fun {a b} (h : b ≤ a) => by show b.toNat ≤ a.toNat; lia)
  have hm : ∀ s, s ∈ ns.map Int.toNat ↔ s ∈ come := fun s => hp2.mem_iff
  refine ⟨ns.map Int.toNat, ⟨hp2.nodup_iff.mpr hC.nd, fun s h => (hC.r s ((hm s).mp h)).2, fun s h => (hC.r s ((hm s).mp h)).1, fun s h => (hm s).mpr (hC.all s h), fun i s hi x hx => ?_, by rw [hp2.length_eq]; exact hC.len h5⟩, ?_⟩
  · have hs' := (hm s).mp (List.mem_of_getElem? hi)
    have hlt := hC.r s hs'
    have hxc := hC.cl s hlt.2 hs' x hx
    have hgt := (moves_lt hlt.2 hx).2
    obtain ⟨j, hj, e⟩ := List.getElem_of_mem ((hm x).mpr hxc)
    obtain ⟨hi1, hi2⟩ := List.getElem?_eq_some_iff.mp hi
    have hp3 := List.pairwise_iff_getElem.mp hge
    have hji : j < i := by
      rcases Nat.lt_trichotomy j i with q | q | q
      · exact q
      · subst q; lia
      · have := hp3 i j hi1 hj q; lia
    refine List.mem_iff_getElem?.mpr ⟨j, ?_⟩
    rw [List.getElem?_take, if_pos hji, ← e]; exact List.getElem?_eq_getElem hj
  · conv => lhs; rw [← e1]
    rw [List.map_map]; rfl
noncomputable def kI (s : Nat) : Key := .i (s : Int)
theorem kI_inj {a b : Nat} : kI a = kI b ↔ a = b := by
  unfold kI
  exact ⟨fun h => by injection h with h; (exact Int.ofNat_inj.mp (by assumption)), fun h => by rw [h]⟩
noncomputable def kvOf (f : Nat → AV) (ds : List Nat) : List (Key × AV) := ds.map fun s => (kI s, f s)
theorem kvOf_at {f : Nat → AV} {x : Nat} : ∀ {ds : List Nat}, x ∈ ds → kvAt (kvOf f ds) (kI x) = some (f x)
  | d :: ds, h => by
    unfold kvAt kvOf
    rw [List.map_cons, List.find?_cons]
    by_cases e : d = x
    · subst e; rw [decide_eq_true rfl]; rfl
    · rw [decide_eq_false (fun q => e (kI_inj.mp q))]
      exact kvOf_at (ds := ds) ((List.mem_cons.mp h).resolve_left fun q => e q.symm)
theorem kvOf_new {f : Nat → AV} {x : Nat} {ds : List Nat} (h : x ∉ ds) : kvSet (kvOf f ds) (kI x) (f x) = kvOf f (ds ++ [x]) := by
  rw [kvSet_new (kvAt_not ?_)]
  · unfold kvOf; rw [List.map_append]; rfl
  · unfold kvOf
    rw [List.map_map]
    intro hm
    obtain ⟨y, hy, e⟩ := List.mem_map.mp hm
    exact h (kI_inj.mp e ▸ hy)
noncomputable def ablAV (th : List (Key × Key)) (s : Nat) : AV := .list ((ablL th s).map nAV)
noncomputable def whlAV (th : List (Key × Key)) (s : Nat) : AV := .bool (whlB th s)
noncomputable def endB (th : List (Key × Key)) (s : Nat) : Bool := decide (∀ k ∈ List.range th.length, stg s k = 2)
theorem endB_iff {th : List (Key × Key)} {s : Nat} : endB th s = true ↔ AllEnd th s := by
  unfold endB AllEnd
  rw [decide_eq_true_iff]
  exact ⟨fun h k hk => h k (List.mem_range.mpr hk), fun h k hk => h k (List.mem_range.mp hk)⟩
noncomputable def stuckB (th : List (Key × Key)) (s : Nat) : Bool := decide (movesOf th s = []) && !endB th s
noncomputable def stuckL (th : List (Key × Key)) (ds : List Nat) : List Nat := ds.filter (stuckB th)
theorem stuckL_snoc {th : List (Key × Key)} {ds : List Nat} {s : Nat} : stuckL th (ds ++ [s]) = stuckL th ds ++ if stuckB th s = true then [s] else [] := by
  unfold stuckL
  rw [List.filter_append]
  by_cases h : stuckB th s = true
  · rw [if_pos h, List.filter_cons_of_pos h]; rfl
  · rw [if_neg h, List.filter_cons_of_neg h]; rfl
theorem min_end {th : List (Key × Key)} {s : Nat} {m : Int} (h2 : 2 ≤ th.length) (hm : m ∈ (stgL th.length s).map fun (k : Nat) => (k : Int)) (hl : ∀ x ∈ (stgL th.length s).map (fun (k : Nat) => (k : Int)), m ≤ x) : decide (m = 2) = endB th s ∧ decide (m < 2) = !endB th s := by
  obtain ⟨v, hv, rfl⟩ := List.mem_map.mp hm
  unfold stgL at hv
  obtain ⟨k, hk, rfl⟩ := List.mem_map.mp hv
  have hk' := List.mem_range.mp hk
  have hlt := stg_lt s k
  by_cases e : AllEnd th s
  · have h1 := endB_iff.mpr e
    have h3 := e k hk'
    rw [h1, h3]; exact ⟨rfl, rfl⟩
  · have h1 : endB th s = false := Bool.eq_false_iff.mpr fun q => e (endB_iff.mp q)
    obtain ⟨j, hj⟩ := Classical.not_forall.mp e
    obtain ⟨hj1, hj2⟩ := Classical.not_imp.mp hj
    have h4 := hl ((stg s j : Nat) : Int) (List.mem_map.mpr ⟨stg s j, List.mem_map.mpr ⟨j, List.mem_range.mpr hj1, rfl⟩, rfl⟩)
    have h5 := stg_lt s j
    rw [h1]
    have h6 : stg s k < 2 := by lia
    exact ⟨decide_eq_false (by lia), decide_eq_true (by lia)⟩
open Classical in
theorem ablL_eq {th : List (Key × Key)} {s : Nat} : ablL th s = (List.range th.length).filter fun k => decide (stg s k = 2) || !decide (((movesOf th s).filter fun x => decide (k ∈ ablL th x)) = []) := by
  conv => lhs; unfold ablL
  refine List.filter_congr fun k hk => ?_
  have hk' := List.mem_range.mp hk
  have hin : ∀ x, k ∈ ablL th x ↔ Abl th k x := fun x => by unfold ablL; rw [List.mem_filter, decide_eq_true_iff]; exact ⟨fun h => h.2, fun h => ⟨hk, h⟩⟩
  have hf : ((movesOf th s).filter fun x => decide (k ∈ ablL th x)) = [] ↔ ¬ ∃ x ∈ movesOf th s, Abl th k x := by
    rw [List.filter_eq_nil_iff]
    exact ⟨fun h ⟨x, hx, hA⟩ => h x hx (decide_eq_true ((hin x).mpr hA)), fun h x hx hA => h ⟨x, hx, (hin x).mp (of_decide_eq_true hA)⟩⟩
  refine Bool.eq_iff_iff.mpr ?_
  rw [decide_eq_true_iff, abl_iff, Bool.or_eq_true, decide_eq_true_iff, Bool.not_eq_true', decide_eq_false_iff_not, hf, Classical.not_not]
open Classical in
theorem whlB_eq {th : List (Key × Key)} {s : Nat} : whlB th s = (endB th s || !decide (((movesOf th s).filter fun x => whlB th x) = [])) := by
  have hin : ∀ x, whlB th x = true ↔ Whl th x := fun x => by unfold whlB; rw [decide_eq_true_iff]
  have hf : ((movesOf th s).filter fun x => whlB th x) = [] ↔ ¬ ∃ x ∈ movesOf th s, Whl th x := by
    rw [List.filter_eq_nil_iff]
    exact ⟨fun h ⟨x, hx, hA⟩ => h x hx ((hin x).mpr hA), fun h x hx hA => h ⟨x, hx, (hin x).mp hA⟩⟩
  refine Bool.eq_iff_iff.mpr ?_
  rw [hin, whl_iff, Bool.or_eq_true, endB_iff, Bool.not_eq_true', decide_eq_false_iff_not, hf, Classical.not_not]
end Mine.Internal
end

section
open PySem PySem.W PySem.Calls PyProof.Rows
set_option Elab.async false
set_option maxRecDepth 100000
set_option maxHeartbeats 0
set_option linter.unusedVariables false
set_option linter.unusedSimpArgs false
namespace Mine.Internal
noncomputable def forBody : Stmt → List Stmt
  | .For _ _ b _ _ => b
  | _ => []
noncomputable def stmtAt (k : Nat) (ss : List Stmt) : Stmt := ss.getD k (.Pass default)
noncomputable def chB : List Stmt := forBody (stmtAt 11 (fBody (fnAt 9)))
structure K10 where
  th : List (Key × Key)
  ss : List Nat
  m : Nat
  s : Nat
  ab : Addr
  wb : Addr
  sb : Addr
  D : Addr
structure K10.Ok (k : K10) : Prop where
  t : ThOk k.th
  S : SS k.th k.ss
  at_ : k.ss[k.m]? = some k.s
noncomputable def K10.e (k : K10) (more : AEnv) : AEnv := ("threads", .list (cav k.th)) :: ("able", .ref k.ab) :: ("whole", .ref k.wb) :: ("stuck", .ref k.sb) :: ("state", nAV k.s) :: more
noncomputable def K10.h (w : World) (k : K10) (ka kw : Nat) (ea ew : Nat) (sl : List Nat) (H : AHs) : AHs := one k.D (oList (k.ss.map nAV)) :: one k.sb (oList (sl.map nAV)) :: one k.wb (oDict PW w (kvOf (whlAV k.th) (k.ss.take kw)) ew) :: one k.ab (oDict PW w (kvOf (ablAV k.th) (k.ss.take ka)) ea) :: H
section
variable {k : K10}
theorem K10.Ok.lt (ok : k.Ok) : k.s < 3 ^ k.th.length := ok.S.lt _ (List.mem_of_getElem? ok.at_)
theorem K10.Ok.new (ok : k.Ok) : k.s ∉ k.ss.take k.m := fun h => by
  obtain ⟨i, hi, e⟩ := List.getElem_of_mem h
  have hi2 : i < k.m := by rw [List.length_take] at hi; lia
  obtain ⟨hm, em⟩ := List.getElem?_eq_some_iff.mp ok.at_
  rw [List.getElem_take] at e
  exact List.pairwise_iff_getElem.mp ok.S.nd i k.m (by (exact Nat.lt_trans (by assumption) (by assumption))) hm hi2 (e.trans em.symm)
theorem K10.Ok.snoc (ok : k.Ok) : k.ss.take (k.m + 1) = k.ss.take k.m ++ [k.s] := take_snoc ok.at_
theorem K10.Ok.mv (ok : k.Ok) : ∀ x ∈ movesOf k.th k.s, x ∈ k.ss.take k.m := ok.S.cl _ _ ok.at_
theorem K10.Ok.lenT (ok : k.Ok) (m : Nat) : (k.ss.take m).length ≤ 243 := Nat.le_trans (List.length_take_le' ..) ok.S.len
end
noncomputable def ρM (th : List (Key × Key)) (ab wb sb : Addr) : AEnv := [("threads", .list (cav th)), ("able", .ref ab), ("whole", .ref wb), ("stuck", .ref sb)]
inductive MainI (w : World) (th : List (Key × Key)) (ss : List Nat) (ab wb sb D : Addr) (H : AHs) (m : Nat) (ρ' : AEnv) (H' : AHs) : Prop
  | mk (ea ew : Nat) (h0 : ρ' = ρM th ab wb sb) (h1 : H' = K10.h w ⟨th, ss, m, 0, ab, wb, sb, D⟩ m m ea ew (stuckL th (ss.take m)) H) : MainI w th ss ab wb sb D H m ρ' H'
section
variable {w : World} {raw : List (Str × NameKind)} {lv : Nat} {ρ : AEnv} {H : AHs} {Q : AF → AEnv → AHs → Prop} {X : AX}
set_option tactic.hygienic true in
theorem law_loop {th : List (Key × Key)} {come : List Nat} {cb : Addr} (ok : ThOk th) (hC : CI th (3 ^ th.length) come)
    (hb : ∀ (k : K10) (Q : AF → AEnv → AHs → Prop) (X : AX) (ea ew : Nat), k.Ok → (∀ ea ew more, Q .next (k.e more) (K10.h w k (k.m + 1) (k.m + 1) ea ew (stuckL k.th (k.ss.take (k.m + 1))) H)) →
      wS (wRec 49) (FL w raw lv) (chB.drop 0) (k.e []) (K10.h w k k.m k.m ea ew (stuckL k.th (k.ss.take k.m)) H) Q X)
    (h : ∀ ab wb sb ss, SS th ss → wS (wRec 59) (FL w raw lv) (lawFrom 12) (ρM th ab wb sb) (one sb (oList ((stuckL th ss).map nAV)) :: H) Q X) :
    wS (wRec 59) (FL w raw lv) (lawFrom 8) (ρC th cb) (one cb (oList (come.map nAV)) :: H) Q X := by
  have h5 := ok.hi
  have hcl := hC.len h5
  refine fun ab => .go ?_
  refine fun wb => .go ?_
  refine ⟨Nat.le_of_ble_eq_true rfl, fun sb => .go ?_⟩
  refine WX.for 50 rfl rfl ?_
  refine WE.sortedRev 40 rfl ⟨rfl, ?_⟩
  refine .mk (.ref cb) (come.map fun (c : Nat) => (c : Int)) rfl (by rw [List.map_map]; exact .own (i := 3) rfl one_self) (by rw [List.length_map]; (exact Nat.le_trans (by assumption) (Nat.le_of_ble_eq_true rfl))) fun D ns hp hs => ?_
  obtain ⟨ss, hS, e⟩ := ss_of hC h5 hp hs
  rw [e]
  refine Gh.sub (ρM th ab wb sb) ⟨rfl, rfl, rfl, rfl, trivial⟩ (Gh.drop (H' := K10.h w ⟨th, ss, 0, 0, ab, wb, sb, D⟩ 0 0 0 0 (stuckL th (ss.take 0)) H) (((((List.sublist_cons_self _ H).cons_cons _).cons_cons _).cons_cons _).cons_cons _) (.go ?_))
  refine WLoop.mk (MainI w th ss ab wb sb D H) (WIter.list rfl (.own (i := 0) rfl one_self)) ?_ ⟨0, 0, rfl, rfl⟩ ?_ ?_
  · rintro m ρ' H' ⟨ea, ew, rfl, rfl⟩
    exact .own (i := 0) rfl one_self
  · rintro m y ρ' H' hy ⟨ea, ew, rfl, rfl⟩
    obtain ⟨s, hs, rfl⟩ := map_get_inv hy
    refine hb ⟨th, ss, m, s, ab, wb, sb, D⟩ _ _ ea ew ⟨ok, hS, hs⟩ fun ea ew more => ?_
    exact Gh.sub (ρM th ab wb sb) ⟨rfl, rfl, rfl, rfl, trivial⟩ (.go ⟨ea, ew, rfl, rfl⟩)
  · rintro ρ' H' ⟨ea, ew, rfl, rfl⟩
    rw [List.length_map]
    have e2 : stuckL th (ss.take ss.length) = stuckL th ss := by rw [List.take_length]
    refine Gh.drop (H' := one sb (oList ((stuckL th ss).map nAV)) :: H) ?_ (.go (h ab wb sb ss hS))
    rw [← e2]
    exact (((List.sublist_cons_self _ H).trans (List.sublist_cons_self _ _)).cons_cons _).trans (List.sublist_cons_self ..)
end
end Mine.Internal
end

section
open PySem PySem.W PySem.Calls PyProof.Rows
set_option Elab.async false
set_option maxRecDepth 100000
set_option maxHeartbeats 0
set_option linter.unusedVariables false
set_option linter.unusedSimpArgs false
namespace Mine.Internal
noncomputable def K10.stages (k : K10) : AV := .list ((stgL k.th.length k.s).map nAV)
noncomputable def K10.moves (k : K10) : AV := .list ((movesOf k.th k.s).map nAV)
section
variable {w : World} {raw : List (Str × NameKind)} {lv : Nat} {ρ : AEnv} {H : AHs} {Q : AF → AEnv → AHs → Prop} {X : AX}
theorem body_stages {k : K10} (ok : k.Ok) (h : wS (wRec 49) (FL w raw lv) (chB.drop 1) (k.e [("stages", k.stages)]) H Q X) :
    wS (wRec 49) (FL w raw lv) (chB.drop 0) (k.e []) H Q X := by
  have h5 := ok.t.hi
  refine WX.assignCell 40 (by kernel_rfl) (by kernel_rfl) ?_
  refine WE.comp 30 (by kernel_rfl) rfl ?_
  refine WC.len .fz (by rw [cav_len]; (exact Nat.le_trans (by assumption) (Nat.le_of_ble_eq_true rfl))) ?_
  rw [cav_len]
  refine WC.range1 fun r => .go ?_
  refine .mk (List.range k.th.length) nAV (fun j => some (nAV (stg k.s j))) (WIterC.rng (i := 0) rfl one_self rfl (by (exact Nat.le_trans (by assumption) (Nat.le_of_ble_eq_true rfl)))) (fun z_ => trivial) (by rw [List.length_range]; (exact Nat.le_trans (by assumption) (Nat.le_of_ble_eq_true rfl))) ?_ ?_
  · intro j hj
    have hj := List.mem_range.mp hj
    refine ⟨p3_ok (by lia), p3_div (by lia), three_mod, ?_⟩
    rw [stg_int]
    exact ⟨rfl, ⟨rfl, trivial⟩, rfl⟩
  · intro D
    rw [filterMap_some]
    refine ⟨_, _, _, rfl, rfl, ?_⟩
    refine Gh.sub (k.e [("stages", k.stages)]) ⟨rfl, rfl, rfl, rfl, rfl, ?_, trivial⟩ (Gh.drop (H' := H) (List.sublist_cons_self ..) (.go h))
    unfold K10.stages; rw [stgL, List.map_map]; rfl
theorem body_moves {k : K10} (hlv : 9 ≤ lv) (ok : k.Ok) (h : wS (wRec 49) (FL w raw lv) (chB.drop 2) (k.e [("stages", k.stages), ("moves", k.moves)]) H Q X) :
    wS (wRec 49) (FL w raw lv) (chB.drop 1) (k.e [("stages", k.stages)]) H Q X := by
  have h5 := ok.t.hi
  refine moves_ok (lv := lv - 1) (by lia) h5 ok.t.ok fun l => Gh.freeze (i := 0) "moves" rfl rfl ?_
  exact Gh.sub (k.e [("stages", k.stages), ("moves", k.moves)]) ⟨rfl, rfl, rfl, rfl, rfl, rfl, rfl, trivial⟩ (.go h)
theorem body_able {k : K10} {ea ew : Nat} {sl : List Nat} (hlv : 9 ≤ lv) (ok : k.Ok) (h : ∀ ea, wS (wRec 49) (FL w raw lv) (chB.drop 3) (k.e [("stages", k.stages), ("moves", k.moves)]) (K10.h w k (k.m + 1) k.m ea ew sl H) Q X) :
    wS (wRec 49) (FL w raw lv) (chB.drop 2) (k.e [("stages", k.stages), ("moves", k.moves)]) (K10.h w k k.m k.m ea ew sl H) Q X := by
  have h5 := ok.t.hi
  refine WE.comp 30 (by kernel_rfl) rfl ?_
  refine WC.len .fz (by rw [cav_len]; (exact Nat.le_trans (by assumption) (Nat.le_of_ble_eq_true rfl))) ?_
  rw [cav_len]
  refine WC.range1 fun r => .go ?_
  refine .mk (List.range k.th.length) nAV (fun j => if (decide (stg k.s j = 2) || !decide (((movesOf k.th k.s).filter fun x => decide (j ∈ ablL k.th x)) = [])) = true then some (nAV j) else Option.none) (WIterC.rng (i := 0) rfl one_self rfl (by (exact Nat.le_trans (by assumption) (Nat.le_of_ble_eq_true rfl)))) (fun z_ => trivial) (by rw [List.length_range]; (exact Nat.le_trans (by assumption) (Nat.le_of_ble_eq_true rfl))) ?_ ?_
  · intro j hj
    have hj := List.mem_range.mp hj
    refine wItem.nat (stgL_at hj) (by omega) ?_
    refine wIf.of (fun h1 => ?_) fun h1 => ?_
    · have h1 := is_eq 2 h1
      exact ⟨rfl, ⟨rfl, rfl, rfl, trivial⟩, by rw [if_pos (by rw [decide_eq_true h1]; rfl)]⟩
    · have h1 := not_eq 2 h1
      refine WE.comp 25 (by kernel_rfl) rfl (.go (.mk (movesOf k.th k.s) nAV (fun x => if decide (j ∈ ablL k.th x) = true then some (nAV x) else Option.none) (WIterC.list rfl .fz) (fun z_ => .fz) (by have := moves_len (th := k.th) (s := k.s); lia) ?_ ?_))
      · intro x hx
        refine W2.itemD (k := kI x) (i := 4) rfl one_self (kvOf_at (ok.mv x hx)) ?_ rfl
        refine W2.inE (a := j) (l := ablL k.th x) encNat (by decide) trivial (fun z_ z_ => trivial) ?_
        refine wIf.of (fun h2 => ?_) fun h2 => ?_
        · exact ⟨rfl, ⟨rfl, rfl, trivial⟩, by rw [if_pos h2]⟩
        · exact ⟨rfl, ⟨rfl, rfl, trivial⟩, by rw [if_neg (by rw [h2]; exact Bool.false_ne_true)]⟩
      · intro D
        rw [filterMap_if]
        refine ⟨_, _, _, rfl, rfl, ?_⟩
        refine ⟨Nat.le_of_ble_eq_true rfl, ?_⟩
        refine W2.neE (a := (movesOf k.th k.s).filter fun x => decide (j ∈ ablL k.th x)) (b := []) encNat.list (by decide) (fun z_ z_ => trivial) (fun z_ z_ => trivial) ?_
        rw [decide_eq_false h1, Bool.false_or]
        refine wIf.of (fun h2 => ?_) fun h2 => ?_
        · exact ⟨rfl, ⟨rfl, rfl, rfl, trivial⟩, by rw [if_pos h2]⟩
        · exact ⟨rfl, ⟨rfl, rfl, rfl, trivial⟩, by rw [if_neg (by rw [h2]; exact Bool.false_ne_true)]⟩
  · intro D
    rw [filterMap_if, ← ablL_eq]
    refine ⟨_, _, _, rfl, rfl, ?_⟩
    refine W3.setD (k := kI k.s) (i := 4) rfl one_self ?_ fun ea' => ?_
    · unfold kvOf; rw [List.length_map]; have := ok.lenT k.m; (exact Nat.le_trans (by assumption) (Nat.le_of_ble_eq_true rfl))
    rw [one_put]
    have e1 : kvSet (kvOf (ablAV k.th) (k.ss.take k.m)) (kI k.s) (AV.list ((ablL k.th k.s).map nAV)) = kvOf (ablAV k.th) (k.ss.take (k.m + 1)) := by rw [ok.snoc]; exact kvOf_new ok.new
    rw [e1]
    refine Gh.sub (k.e [("stages", k.stages), ("moves", k.moves)]) ⟨rfl, rfl, rfl, rfl, rfl, rfl, rfl, trivial⟩ (Gh.drop (H' := K10.h w k (k.m + 1) k.m ea' ew sl H) (List.sublist_cons_self ..) (.go (h ea')))
end
end Mine.Internal
end

section
open PySem PySem.W PySem.Calls PyProof.Rows
set_option Elab.async false
set_option maxRecDepth 100000
set_option maxHeartbeats 0
set_option linter.unusedVariables false
set_option linter.unusedSimpArgs false
namespace Mine.Internal
noncomputable def stN' (k : K10) : List Int := (stgL k.th.length k.s).map fun (j : Nat) => (j : Int)
theorem stN_lv {k : K10} {H : AHs} : LV H (.list ((stgL k.th.length k.s).map nAV)) ((stN' k).map AV.int) := by
  unfold stN'; rw [List.map_map]; exact .fz
theorem stN_len {k : K10} (ok : k.Ok) : 0 < (stN' k).length := by
  unfold stN'; rw [List.length_map, stgL_len]; have := ok.t.lo; (exact Nat.le_of_lt (by assumption))
section
variable {w : World} {raw : List (Str × NameKind)} {lv : Nat} {ρ : AEnv} {H : AHs} {Q : AF → AEnv → AHs → Prop} {X : AX}
theorem body_whole {k : K10} {ea ew : Nat} {sl : List Nat} (hlv : 9 ≤ lv) (ok : k.Ok) (h : ∀ ew, wS (wRec 49) (FL w raw lv) (chB.drop 4) (k.e [("stages", k.stages), ("moves", k.moves)]) (K10.h w k (k.m + 1) (k.m + 1) ea ew sl H) Q X) :
    wS (wRec 49) (FL w raw lv) (chB.drop 3) (k.e [("stages", k.stages), ("moves", k.moves)]) (K10.h w k (k.m + 1) k.m ea ew sl H) Q X := by
  have hset : ∀ ew' : Nat, kvSet (kvOf (whlAV k.th) (k.ss.take k.m)) (kI k.s) (AV.bool (whlB k.th k.s)) = kvOf (whlAV k.th) (k.ss.take (k.m + 1)) := fun z_ => by rw [ok.snoc]; exact kvOf_new ok.new
  have hlen : (kvOf (whlAV k.th) (k.ss.take k.m)).length ≤ 1000000 := by unfold kvOf; rw [List.length_map]; have := ok.lenT k.m; (exact Nat.le_trans (by assumption) (Nat.le_of_ble_eq_true rfl))
  refine WE.or2 40 ?_
  refine WC.minL rfl stN_lv (stN_len ok) fun m hm hl => ?_
  obtain ⟨e1, e2⟩ := min_end ok.t.lo hm hl
  refine wIf.of (fun h1 => ?_) fun h1 => ?_
  · have ew1 : whlB k.th k.s = true := by rw [whlB_eq, ← e1, h1]; rfl
    rw [h1, ← ew1]
    refine W3.setD (k := kI k.s) (i := 2) rfl one_self hlen fun ew' => ?_
    rw [one_put, hset 0]
    refine .go (h ew')
  · have e3 : endB k.th k.s = false := by rw [← e1]; exact h1
    refine WE.comp 25 (by kernel_rfl) rfl (.go (.mk (movesOf k.th k.s) nAV (fun x => if whlB k.th x = true then some (nAV x) else Option.none) (WIterC.list rfl .fz) (fun z_ => .fz) (by have := moves_len (th := k.th) (s := k.s); have := ok.t.hi; lia) ?_ ?_))
    · intro x hx
      refine W2.itemD (k := kI x) (i := 2) rfl one_self (kvOf_at (ok.mv x hx)) ?_ rfl
      refine wIf.of (fun h2 => ?_) fun h2 => ?_
      · exact ⟨rfl, ⟨rfl, trivial⟩, by rw [if_pos h2]⟩
      · exact ⟨rfl, ⟨rfl, trivial⟩, by rw [if_neg (by rw [h2]; exact Bool.false_ne_true)]⟩
    · intro D
      rw [filterMap_if]
      refine ⟨_, _, _, rfl, rfl, ?_⟩
      refine ⟨Nat.le_of_ble_eq_true rfl, ?_⟩
      refine W2.neE (a := (movesOf k.th k.s).filter fun x => whlB k.th x) (b := []) encNat.list (by decide) (fun z_ z_ => trivial) (fun z_ z_ => trivial) ?_
      have ew1 : whlB k.th k.s = !decide (((movesOf k.th k.s).filter fun x => whlB k.th x) = []) := by rw [whlB_eq, e3, Bool.false_or]
      rw [← ew1]
      refine W3.setD (k := kI k.s) (i := 2) rfl one_self hlen fun ew' => ?_
      rw [one_put, hset 0]
      refine .go (h ew')
theorem body_stuck {k : K10} {ka kw ea ew : Nat} {sl : List Nat} (hlv : 9 ≤ lv) (ok : k.Ok) (hl : sl.length ≤ 243) (h : wS (wRec 49) (FL w raw lv) (chB.drop 5) (k.e [("stages", k.stages), ("moves", k.moves)]) (K10.h w k ka kw ea ew (sl ++ if stuckB k.th k.s = true then [k.s] else []) H) Q X) :
    wS (wRec 49) (FL w raw lv) (chB.drop 4) (k.e [("stages", k.stages), ("moves", k.moves)]) (K10.h w k ka kw ea ew sl H) Q X := by
  have hno : ∀ {P : Prop}, stuckB k.th k.s = false → (wS (wRec 49) (FL w raw lv) (chB.drop 5) (k.e [("stages", k.stages), ("moves", k.moves)]) (K10.h w k ka kw ea ew sl H) Q X → P) → P := fun e g => g (by
    rw [if_neg (by rw [e]; exact Bool.false_ne_true), List.append_nil] at h; exact h)
  refine ⟨Nat.le_of_ble_eq_true rfl, ?_⟩
  refine W2.eqE (a := movesOf k.th k.s) (b := []) encNat.list (by decide) (fun z_ z_ => trivial) (fun z_ z_ => trivial) ?_
  refine wIf.of (fun h1 => ?_) fun h1 => ?_
  · refine WC.minL rfl stN_lv (stN_len ok) fun m hm hl2 => ?_
    obtain ⟨e1, e2⟩ := min_end ok.t.lo hm hl2
    refine wIf.of (fun h2 => ?_) fun h2 => ?_
    · have hs : stuckB k.th k.s = true := by unfold stuckB; rw [h1, ← e2, h2]; rfl
      rw [if_pos hs] at h
      refine WMeth.append (n := 30) (.own (i := 1) rfl one_self) ⟨1, _, _, rfl, one_self, by rw [List.length_map]; (exact Nat.le_trans (by assumption) (Nat.le_of_ble_eq_true rfl)), ?_⟩ rfl
      have e : (sl.map nAV ++ [nAV k.s]) = (sl ++ [k.s]).map nAV := by rw [List.map_append]; rfl
      rw [one_put, e]
      refine .go (.go h)
    · have hs : stuckB k.th k.s = false := by unfold stuckB; rw [← e2, h2, Bool.and_false]
      exact hno hs fun h => .go h
  · have hs : stuckB k.th k.s = false := by unfold stuckB; rw [h1, Bool.false_and]
    exact hno hs fun h => .go h
end
end Mine.Internal
end

section
open PySem PySem.W PySem.Calls PyProof.Rows
set_option Elab.async false
set_option maxRecDepth 100000
set_option maxHeartbeats 0
set_option linter.unusedVariables false
set_option linter.unusedSimpArgs false
namespace Mine.Internal
noncomputable def uni (th : List (Key × Key)) : List Key := (List.range th.length).map kI ++ locks4
theorem uni_len {th : List (Key × Key)} (h : th.length ≤ 5) : (uni th).length ≤ 9 := by
  unfold uni; rw [List.length_append, List.length_map, List.length_range, show locks4.length = 4 from rfl]; lia
theorem uni_i {th : List (Key × Key)} {j : Nat} (h : j < th.length) : kI j ∈ uni th := List.mem_append_left _ (List.mem_map.mpr ⟨j, List.mem_range.mpr h, rfl⟩)
theorem uni_l {th : List (Key × Key)} {x : Key} (h : x ∈ locks4) : x ∈ uni th := List.mem_append_right _ h
theorem uni_ok {th : List (Key × Key)} {x : Key} (h : x ∈ uni th) : x.Ok := by
  rcases List.mem_append.mp h with h | h
  · obtain ⟨j, _, rfl⟩ := List.mem_map.mp h; rfl
  · exact locks4_ok x h
theorem ThOk.f {th : List (Key × Key)} (h : ThOk th) {j : Nat} (hj : j < th.length) : thF th j ∈ uni th := uni_l (h.mem _ (at_pair hj)).1
theorem ThOk.g {th : List (Key × Key)} (h : ThOk th) {j : Nat} (hj : j < th.length) : thG th j ∈ uni th := uni_l (h.mem _ (at_pair hj)).2
structure Nds (th : List (Key × Key)) (ns : List Key) (cs : List (Key × Key)) : Prop where
  nd : ns.Nodup
  inc : InC ns cs
  sub : ∀ x ∈ ns, x ∈ uni th
theorem Nds.nil {th : List (Key × Key)} : Nds th [] [] := ⟨List.nodup_nil, InC.nil, fun z_ h => by cases h⟩
theorem Nds.len {th : List (Key × Key)} {ns : List Key} {cs : List (Key × Key)} (h : Nds th ns cs) (h5 : th.length ≤ 5) : ns.length ≤ 9 := Nat.le_trans (nodup_len h.nd h.sub) (uni_len h5)
theorem Nds.add {th : List (Key × Key)} {ns : List Key} {cs : List (Key × Key)} (h : Nds th ns cs) {k : Key} {ps : List Key} (hk : k ∈ uni th) (hp : ∀ p ∈ ps, p ∈ uni th) : Nds th (ps.foldl addK (addK ns k)) (cs ++ ps.map fun p => (p, k)) := by
  have hm : ∀ x, x ∈ ps.foldl addK (addK ns k) ↔ (x ∈ ns ∨ x = k) ∨ x ∈ ps := fun x => by rw [mem_addKs, mem_addK]
  refine ⟨addKs_nodup (addK_nodup h.nd), fun p hp => ?_, fun x hx => ?_⟩
  · rcases List.mem_append.mp hp with hp | hp
    · exact ⟨(hm _).mpr (.inl (.inl (h.inc p hp).1)), (hm _).mpr (.inl (.inl (h.inc p hp).2))⟩
    · obtain ⟨q, hq, rfl⟩ := List.mem_map.mp hp
      exact ⟨(hm _).mpr (.inr hq), (hm _).mpr (.inl (.inr rfl))⟩
  · rcases (hm x).mp hx with (hx | rfl) | hx
    · exact h.sub x hx
    · exact hk
    · exact hp x hx
theorem mem_add {ns : List Key} {k x : Key} {ps : List Key} (h : x ∈ ns ∨ x = k) : x ∈ ps.foldl addK (addK ns k) := mem_addKs.mpr (.inl (mem_addK.mpr h))
noncomputable def stepsTo (th : List (Key × Key)) (s m : Nat) : List (Key × Key) := (List.range m).flatMap (stepsAt th s)
theorem stepsTo_snoc {th : List (Key × Key)} {s m : Nat} : stepsTo th s (m + 1) = stepsTo th s m ++ stepsAt th s m := by
  unfold stepsTo; rw [List.range_succ, List.flatMap_append, List.flatMap_singleton]
theorem stepsAt_len {th : List (Key × Key)} {s m : Nat} : (stepsAt th s m).length ≤ 2 := by
  unfold stepsAt; repeat' split
  all_goals exact Nat.le_of_ble_eq_true rfl
theorem stepsTo_len {th : List (Key × Key)} {s m : Nat} : (stepsTo th s m).length ≤ 2 * m := by
  induction m with
  | zero => exact Nat.le_refl _
  | succ m ih =>
    have := stepsAt_len (th := th) (s := s) (m := m)
    rw [stepsTo_snoc, List.length_append]; lia
inductive Told (w : World) (th : List (Key × Key)) (cs : List (Key × Key)) (m : Nat) (x : Addr) (M : AM) : Prop
  | mk (L : LS) (ns : List Key) (S : Srt w M L) (hx : L.x = x) (hst : L.st = stOf ns cs) (N : Nds th ns cs) (has : ∀ j, j < m → kI j ∈ ns) : Told w th cs m x M
noncomputable def K10.e2 (k : K10) (x : Addr) (st : AV) : AEnv := k.e [("stages", k.stages), ("sorter", .ref x), ("steps", st)]
inductive BuI (w : World) (k : K10) (x pb r : Addr) (H : AHs) (m : Nat) (ρ' : AEnv) (H' : AHs) : Prop
  | mk (M : AM) (h0 : ρ' = k.e2 x (.ref pb)) (h1 : H' = one r (oRange 0 (k.th.length : Int) 1) :: one pb (oList (cav (stepsTo k.th k.s m))) :: M :: H) (T : Told w k.th (stepsTo k.th k.s m) m x M) : BuI w k x pb r H m ρ' H'
section
variable {w : World} {raw : List (Str × NameKind)} {lv : Nat} {ρ : AEnv} {H : AHs} {X : AX}
theorem told_add {Q : AV → AEnv → AHs → Prop} {i m m' : Nat} {M : AM} {x : Addr} {th : List (Key × Key)} {cs : List (Key × Key)} {k : Key} {ps : List Key} (hlv : 5 ≤ lv) (h5 : th.length ≤ 5) (T : Told w th cs m x M) (hi : H[i]? = some M) (hcs : cs.length ≤ 20) (hps : ps.length ≤ 2) (hk : k ∈ uni th) (hp : ∀ p ∈ ps, p ∈ uni th)
    (hm : ∀ j, j < m' → j < m ∨ kI j = k) (h : ∀ M', Told w th (cs ++ ps.map fun p => (p, k)) m' x M' → Q .none ρ (H.set i M')) : WC (Fr w raw true lv) (.val (.ref 87)) ([.ref x, k.av] ++ kav ps) ρ H Q X := by
  cases T with | mk L ns S hx hst N has => ?_
  subst hx
  have hl := N.len h5
  refine WK.wc (add_ok (i := i) (b := 3000) (by (exact Nat.le_of_lt (by assumption))) hi S (congrArg TSt.ready hst) (by rw [hst]; exact stOf_small (by (exact Nat.le_trans (by assumption) (Nat.le_of_ble_eq_true rfl))) (by (exact Nat.le_trans (by assumption) (Nat.le_of_ble_eq_true rfl)))) (by lia) fun M2 L2 S2 hx2 hst2 => h M2 ⟨L2, _, S2, hx2, by rw [hst2, hst, add_stOf N.inc], N.add hk hp, fun j hj => mem_add ((hm j hj).imp (has j) id)⟩)
variable {Q : AF → AEnv → AHs → Prop}
theorem body_new {k : K10} (hlv : 9 ≤ lv) (h : ∀ x pb M, Told w k.th [] 0 x M → wS (wRec 49) (FL w raw lv) (chB.drop 7) (k.e2 x (.ref pb)) (one pb (oList []) :: M :: H) Q X) :
    wS (wRec 49) (FL w raw lv) (chB.drop 5) (k.e [("stages", k.stages), ("moves", k.moves)]) H Q X := by
  refine sorter_new (lv := lv - 1) (by lia) fun M L S hst => .go ?_
  refine ⟨Nat.le_of_ble_eq_true rfl, fun pb => ?_⟩
  refine Gh.sub (k.e2 L.x (.ref pb)) ⟨rfl, rfl, rfl, rfl, rfl, rfl, rfl, rfl, trivial⟩ (.go (h L.x pb M ⟨L, [], S, rfl, hst, .nil, fun j hj => absurd hj (Nat.not_lt_zero j)⟩))
end
end Mine.Internal
end

section
open PySem PySem.W PySem.Calls PyProof.Rows
set_option Elab.async false
set_option maxRecDepth 100000
set_option maxHeartbeats 0
set_option linter.unusedVariables false
set_option linter.unusedSimpArgs false
namespace Mine.Internal
theorem cav_app {cs ds : List (Key × Key)} : cav cs ++ cav ds = cav (cs ++ ds) := (List.map_append ..).symm
theorem lt_or {j k : Nat} (h : j < k + 1) : j < k ∨ kI j = kI k := (Nat.lt_or_eq_of_le (Nat.le_of_lt_succ h)).imp id fun e => by rw [e]
section
variable {w : World} {raw : List (Str × NameKind)} {lv : Nat} {ρ : AEnv} {H : AHs} {Q : AF → AEnv → AHs → Prop} {X : AX}
theorem body_build {k : K10} {x pb : Addr} {M : AM} (hlv : 9 ≤ lv) (ok : k.Ok) (T : Told w k.th [] 0 x M) (h : ∀ M, Told w k.th (stepsOf k.th k.s) k.th.length x M → wS (wRec 49) (FL w raw lv) (chB.drop 8) (k.e2 x (.list (cav (stepsOf k.th k.s)))) (M :: H) Q X) :
    wS (wRec 49) (FL w raw lv) (chB.drop 7) (k.e2 x (.ref pb)) (one pb (oList []) :: M :: H) Q X := by
  have h5 := ok.t.hi
  refine WX.for 40 rfl rfl ?_
  refine WC.len .fz (by rw [cav_len]; (exact Nat.le_trans (by assumption) (Nat.le_of_ble_eq_true rfl))) ?_
  rw [cav_len]
  refine WC.range1 fun r => .go ?_
  refine WLoop.mk (BuI w k x pb r H) (WIter.rng (n := k.th.length) (i := 0) rfl one_self rfl (by (exact Nat.le_trans (by assumption) (Nat.le_of_ble_eq_true rfl)))) (fun z_ z_ z_ z_ => trivial) ⟨M, rfl, rfl, T⟩ ?_ ?_
  · rintro m y ρ' H' hy ⟨M, rfl, rfl, T⟩
    obtain ⟨j, hj, rfl⟩ := map_get_inv hy
    obtain ⟨hm, rfl⟩ := range_at hj
    have hcl := stepsTo_len (th := k.th) (s := k.s) (m := j)
    have hsn := stepsTo_snoc (th := k.th) (s := k.s) (m := j)
    have hF := ok.t.f hm
    have hG := ok.t.g hm
    have hK := uni_i hm
    refine wItem.nat (cav_at hm) (by omega) (.go ?_)
    refine wItem.nat (stgL_at hm) (by omega) ?_
    refine wIf.of (fun h1 => ?_) fun h1 => ?_
    · have h1 := is_eq 0 h1
      have e : stepsAt k.th k.s j = [thF k.th j, thG k.th j].map fun p => (p, kI j) := by unfold stepsAt; rw [if_pos h1]; rfl
      have T' := T
      cases T' with | mk L ns S hx hst N has => ?_
      refine WMeth.srt (n := 30) (i := 2) (f := 87) rfl S hx rfl (by kernel_rfl) (by kernel_rfl) rfl (by kernel_rfl) ?_
      refine told_add (i := 2) (k := kI j) (ps := [thF k.th j, thG k.th j]) (m' := j + 1) (lv := lv - 1) (by lia) h5 T rfl (by lia) (Nat.le_refl _) hK (fun p hp => by rcases List.mem_cons.mp hp with rfl | hp; exact hF; rw [List.mem_singleton.mp hp]; exact hG) (fun j hj => lt_or hj) fun M' T' => .go ?_
      refine WMeth.extend (n := 30) (.own (i := 1) rfl one_self) ?_ rfl
      refine ⟨Nat.le_of_ble_eq_true rfl, Nat.le_of_ble_eq_true rfl, Nat.le_of_ble_eq_true rfl, 1, _, _, cav (stepsAt k.th k.s j), rfl, one_self, .l (by rw [e]; exact .fz), by rw [cav_len, cav_len]; have := stepsAt_len (th := k.th) (s := k.s) (m := j); lia, ?_⟩
      rw [one_put, cav_app, ← hsn]
      refine .go (Gh.sub (k.e2 x (.ref pb)) ⟨rfl, rfl, rfl, rfl, rfl, rfl, rfl, rfl, trivial⟩ (.go (.go ⟨M', rfl, rfl, by rw [hsn, e]; exact T'⟩)))
    · have h1 := not_eq 0 h1
      refine wItem.nat (stgL_at hm) (by omega) ?_
      refine wIf.of (fun h2 => ?_) fun h2 => ?_
      · have h2 := is_eq 1 h2
        have e : stepsAt k.th k.s j = [kI j].map (fun p => (p, thF k.th j)) ++ [thG k.th j].map fun p => (p, kI j) := by unfold stepsAt; rw [if_neg h1, if_pos h2]; rfl
        have T' := T
        cases T' with | mk L ns S hx hst N has => ?_
        refine WMeth.srt (n := 30) (i := 2) (f := 87) rfl S hx rfl (by kernel_rfl) (by kernel_rfl) rfl (by kernel_rfl) ?_
        refine told_add (i := 2) (k := thF k.th j) (ps := [kI j]) (m' := j) (lv := lv - 1) (by lia) h5 T rfl (by lia) (Nat.le_of_ble_eq_true rfl) hF (fun p hp => by rw [List.mem_singleton.mp hp]; exact hK) (fun j hj => .inl hj) fun M1 T1 => .go ?_
        have T1' := T1
        cases T1' with | mk L1 ns1 S1 hx1 hst1 N1 has1 => ?_
        refine WMeth.srt (n := 30) (i := 2) (f := 87) rfl S1 hx1 rfl (by kernel_rfl) (by kernel_rfl) rfl (by kernel_rfl) ?_
        refine told_add (i := 2) (k := kI j) (ps := [thG k.th j]) (m' := j + 1) (lv := lv - 1) (by lia) h5 T1 rfl (by rw [List.length_append, List.length_map, List.length_singleton]; lia) (Nat.le_of_ble_eq_true rfl) hK (fun p hp => by rw [List.mem_singleton.mp hp]; exact hG) (fun j hj => lt_or hj) fun M' T' => .go ?_
        refine WMeth.extend (n := 30) (.own (i := 1) rfl one_self) ?_ rfl
        refine ⟨Nat.le_of_ble_eq_true rfl, Nat.le_of_ble_eq_true rfl, Nat.le_of_ble_eq_true rfl, 1, _, _, cav (stepsAt k.th k.s j), rfl, one_self, .l (by rw [e]; exact .fz), by rw [cav_len, cav_len]; have := stepsAt_len (th := k.th) (s := k.s) (m := j); lia, ?_⟩
        rw [one_put, cav_app, ← hsn]
        refine .go (Gh.sub (k.e2 x (.ref pb)) ⟨rfl, rfl, rfl, rfl, rfl, rfl, rfl, rfl, trivial⟩ (.go (.go (.go ⟨M', rfl, rfl, by rw [hsn, e, ← List.append_assoc]; exact T'⟩))))
      · have h2 := not_eq 1 h2
        have e : stepsAt k.th k.s j = [] := by unfold stepsAt; rw [if_neg h1, if_neg h2]
        have T' := T
        cases T' with | mk L ns S hx hst N has => ?_
        refine WMeth.srt (n := 30) (i := 2) (f := 87) rfl S hx rfl (by kernel_rfl) (by kernel_rfl) rfl (by kernel_rfl) ?_
        refine told_add (i := 2) (k := kI j) (ps := []) (m' := j + 1) (lv := lv - 1) (by lia) h5 T rfl (by lia) (by decide) hK (fun p hp => by cases hp) (fun j hj => lt_or hj) fun M' T' => ?_
        have T' : Told w k.th (stepsTo k.th k.s (j + 1)) (j + 1) x M' := by rw [hsn, e]; exact T'
        have e3 : stepsTo k.th k.s j = stepsTo k.th k.s (j + 1) := by rw [hsn, e, List.append_nil]
        refine .go (Gh.sub (k.e2 x (.ref pb)) ⟨rfl, rfl, rfl, rfl, rfl, rfl, rfl, rfl, trivial⟩ (.go (.go (.go ⟨M', rfl, by rw [e3]; rfl, T'⟩))))
  · rintro ρ' H' ⟨M, rfl, rfl, T⟩
    have e : stepsTo k.th k.s ((List.range k.th.length).map fun (j : Nat) => AV.int (j : Int)).length = stepsOf k.th k.s := by rw [List.length_map, List.length_range]; rfl
    rw [e] at T ⊢
    rw [List.length_map, List.length_range] at T
    refine Gh.drop (List.sublist_cons_self ..) (Gh.freeze (i := 0) "steps" rfl rfl ?_)
    exact Gh.sub (k.e2 x (.list (cav (stepsOf k.th k.s)))) ⟨rfl, rfl, rfl, rfl, rfl, rfl, rfl, rfl, trivial⟩ (.go (h M T))
end
end Mine.Internal
end

section
open PySem PySem.W PySem.Calls PyProof.Rows
set_option Elab.async false
set_option maxRecDepth 100000
set_option maxHeartbeats 0
set_option linter.unusedVariables false
set_option linter.unusedSimpArgs false
namespace Mine.Internal
theorem quiet55 (P : Params) : quietIn (K0 P) 55 [.type "ValueError", .type "Exception", .type "BaseException", .type "object"] = true := by kernel_rfl
theorem W1.argsCy {w : World} {F : Fm} {as : List AV} {ρ : AEnv} {H : AHs} {QV : AV → AEnv → AHs → Prop} {X : AX} {ex : Bool} (hF : F.g = G0 w) (h : QV (.tup as) ρ H) : W1 F VR (fun v => getAttr v "args" ex) (.exc (.ref 55) as) ρ H QV X :=
  ⟨fun c q => T1.argsOwn q.ok (by rw [q.K, gK hF]; exact own_cycle _) PySem.F.attrBase_ValueError (by rw [q.K, gK hF]; exact quiet55 _) h⟩
theorem stOf_keys' {ns : List Key} {cs : List (Key × Key)} : (stOf ns cs).keys = ns := by
  rw [← stN_zero (k := .i 0)]; exact stN_keys
noncomputable def cyMsg : Str := "nodes are in a cycle"
noncomputable def cyArgs (r : List Key) : AV := .tup [.str cyMsg, .list (kav r)]
theorem cyArgs_data {r : List Key} (h : okAll r) : (cyArgs r).isData = true := by
  show (PyData.strOk cyMsg && ((AV.list (kav r)).isData && true)) = true
  have h2 : (AV.list (kav r)).isData = true := encKey.list.dat r h
  rw [show PyData.strOk cyMsg = true by kernel_rfl, h2]; rfl
theorem cyArgs_depth (r : List Key) : (cyArgs r).toPy.depth ≤ 64 := by
  have := encKey.list.dep r
  show Nat.succ (max 0 (max (AV.list (kav r)).toPy.depth 0)) ≤ 64
  have h2 : (AV.list (kav r)).toPy.depth ≤ 1 := this
  (exact Nat.lt_of_le_of_lt (by assumption) (by decide))
theorem cyArgs_eqv (r : List Key) : PyData.eqv (cyArgs r).toPy (cyArgs r).toPy = true := by
  have := encKey.list.eq r r
  show ((cyMsg == cyMsg) && (PyData.eqv (AV.list (kav r)).toPy (AV.list (kav r)).toPy && true)) = true
  have h2 : PyData.eqv (AV.list (kav r)).toPy (AV.list (kav r)).toPy = decide (r = r) := this
  rw [h2]; simp
theorem W2.neCy {F : Fm} {r : List Key} {ρ : AEnv} {H : AHs} {QV : AV → AEnv → AHs → Prop} {X : AX} (hr : okAll r) (h : QV (.bool false) ρ H) : W2 F VR (compareOp .NotEq) (.tup [.str "nodes are in a cycle", .list (kav r)]) (.tup [.str "nodes are in a cycle", .list (kav r)]) ρ H QV X := by
  have e := cyArgs_eqv r
  refine W2.neD (x := cyArgs r) (y := cyArgs r) (.data (cyArgs_data hr)) (.data (cyArgs_data hr)) (cyArgs_depth r) ?_
  rw [e]; exact h
noncomputable def firstMsg : Str := "prepare() must be called first"
theorem is_active_no {w : World} {raw : List (Str × NameKind)} {lv : Nat} {ρ : AEnv} {H : AHs} {Q : AV → AEnv → AHs → Prop} {X : AX} {i : Nat} {M : AM} {L : LS} {x : Addr} (hlv : 2 ≤ lv) (S : Srt w M L) (hx : L.x = x) (hi : H[i]? = some M) (hr : L.ready = Option.none)
    (h : X (.type "ValueError") [.str "prepare() must be called first"] ρ H) : WK (Fr w raw true lv) (.val (.ref 106)) [.ref x] ρ H Q X := by
  subst hx
  refine WK.pos (ρ0 := [("self", .ref L.x)]) 60 (fn106 _) rfl (by show 1 ≤ lv; (exact Nat.le_of_lt (by assumption))) (by kernel_rfl) (fun z_ => .z (by kernel_rfl)) (by kernel_rfl) (by kernel_rfl) ?_
  refine W1.fld rfl S rfl hi (no_rd _) rfl ?_
  rw [hr]
  exact ⟨raise_ve, Nat.le_of_ble_eq_true rfl, .go h⟩
theorem first_str_ok : ∀ x ∈ [Key.s firstMsg], x.Ok := fun x hx => by rw [List.mem_singleton.mp hx]; show PyData.strOk _ = true; kernel_rfl
inductive Rdy (w : World) (th : List (Key × Key)) (cs : List (Key × Key)) (x : Addr) (M : AM) : Prop
  | mk (L : LS) (ns : List Key) (S : Srt w M L) (hx : L.x = x) (hst : L.st = (stOf ns cs).prep) (N : Nds th ns cs) (has : ∀ j, j < th.length → kI j ∈ ns) : Rdy w th cs x M
noncomputable def K10.cs (k : K10) : List (Key × Key) := stepsOf k.th k.s
noncomputable def K10.e3 (k : K10) (x : Addr) : AEnv := k.e2 x (.list (cav k.cs))
theorem K10.Ok.cl {k : K10} (ok : k.Ok) : k.cs.length ≤ 10 := by
  have h1 : k.cs.length ≤ 2 * k.th.length := stepsTo_len (th := k.th) (s := k.s) (m := k.th.length)
  have := ok.t.hi; lia
theorem K10.Ok.one_in {k : K10} (ok : k.Ok) : k.s ∈ k.ss.take (k.m + 1) := by rw [ok.snoc]; exact List.mem_append_right _ (List.mem_singleton_self _)
section
variable {w : World} {raw : List (Str × NameKind)} {lv : Nat} {ρ : AEnv} {H : AHs} {Q : AF → AEnv → AHs → Prop} {X : AX}
theorem body_first {k : K10} {x : Addr} {M : AM} (hlv : 9 ≤ lv) (T : Told w k.th k.cs k.th.length x M) (h : wS (wRec 49) (FL w raw lv) (chB.drop 9) (k.e3 x) (M :: H) Q X) :
    wS (wRec 49) (FL w raw lv) (chB.drop 8) (k.e3 x) (M :: H) Q X := by
  cases T with | mk L ns S hx hst N has => ?_
  refine WMeth.srt (n := 30) (i := 0) (f := 106) rfl S hx rfl (by kernel_rfl) (by kernel_rfl) rfl (by kernel_rfl) ?_
  refine WK.wc (is_active_no (i := 0) (lv := lv - 1) (by lia) S hx rfl (congrArg TSt.ready hst) ?_)
  refine ⟨catch_ve, ?_⟩
  refine WC.isiVE (b := false) (by kernel_rfl) ?_
  refine W1.argsVE ?_
  refine ⟨Nat.le_of_ble_eq_true rfl, ?_⟩
  refine W2.neE (a := [Key.s firstMsg]) (b := [Key.s firstMsg]) encKey.tup (by decide) first_str_ok first_str_ok ?_
  rw [decide_eq_true rfl]
  refine .go ?_
  refine Gh.sub (k.e3 x) ⟨rfl, rfl, rfl, rfl, rfl, rfl, rfl, rfl, trivial⟩ (.go ?_)
  exact h
theorem body_prep {k : K10} {x : Addr} {M : AM} {ea ew : Nat} {sl : List Nat} (ok : k.Ok) (hlv : 9 ≤ lv) (T : Told w k.th k.cs k.th.length x M)
    (h : ∀ M, Rdy w k.th k.cs x M → wS (wRec 49) (FL w raw lv) (chB.drop 10) (k.e3 x) (M :: K10.h w k (k.m + 1) (k.m + 1) ea ew sl H) Q X) :
    wS (wRec 49) (FL w raw lv) (chB.drop 9) (k.e3 x) (M :: K10.h w k (k.m + 1) (k.m + 1) ea ew sl H) Q X := by
  cases T with | mk L ns S hx hst N has => ?_
  have h5 := ok.t.hi
  have hnl := N.len h5
  have hcl := ok.cl
  refine WMeth.srt (n := 30) (i := 0) (f := 92) rfl S hx rfl (by kernel_rfl) (by kernel_rfl) rfl (by kernel_rfl) ?_
  refine WK.wc (prepare_ok (i := 0) (lv := lv - 1) (by lia) S hx rfl (congrArg TSt.ready hst) (hst ▸ stOf_small (by (exact Nat.le_trans (by assumption) (Nat.le_of_ble_eq_true rfl))) (by (exact Nat.le_trans (by assumption) (Nat.le_of_ble_eq_true rfl)))) ?_ (fun M' L' B S' hx' hst' hT hB => ?_) fun M' L' r S' hx' hst' hR => ?_)
  · rw [hst]
    intro p hp s hs
    simp only [TSt.shape, stOf, List.map_map, List.mem_map] at hp
    obtain ⟨x, hx, rfl⟩ := hp
    rw [stOf_keys']
    exact (N.inc _ (mem_endsOf.mp hs)).2
  · have hwl : whlB k.th k.s = true := by
      unfold whlB
      exact @decide_eq_true _ (Classical.propDecidable _) (free_whl ok.t.lock ok.lt (topo_free N.inc (hst ▸ hT) fun x hx => hB x (by rw [hst, stOf_keys']; exact hx)))
    refine W2.itemD (k := kI k.s) (i := 3) rfl one_self (kvOf_at ok.one_in) ?_ rfl
    unfold whlAV
    rw [hwl]
    have h' := h M' ⟨L', ns, S', hx', hst'.trans (congrArg TSt.prep hst), N, has⟩
    refine .go (.go ?_)
    exact h'
  · have R := ring_ok N.inc (hst ▸ hR)
    refine ⟨catch_cy rfl, ?_⟩
    refine W1.argsCy rfl ?_
    refine ⟨by decide, .go ?_⟩
    have hrk : okAll r := fun y hy => uni_ok (N.sub y (R.sub y hy))
    refine WC.isiL (b := true) .fz (by kernel_rfl) ?_
    refine W1.argsCy rfl ?_
    refine ⟨Nat.le_of_ble_eq_true rfl, ?_⟩
    refine W2.neCy hrk ?_
    refine .go ?_
    obtain ⟨a, mid, he, hnd⟩ := R.ne
    have h0 : (kav r)[0]? = some a.av := by rw [he]; rfl
    have h9 : (kav r)[(kav r).length - 1]? = some a.av := by
      rw [he, kav, List.map_append, List.length_append]
      simp
    refine wItem.zero h0 ?_
    refine wItem.m1 (by rw [kav_len]; have := R.two; (exact Nat.le_of_lt (by assumption))) h9 ?_
    have ha : a.Ok := hrk a (by rw [he]; exact List.mem_cons_self ..)
    refine wCmp.neK ha ha ?_
    rw [decide_eq_true rfl]
    have hlen : r.length ≤ 10 := Nat.le_trans R.len (by (exact Nat.lt_succ_of_le (by assumption)))
    refine WC.setL .fz (by (exact Nat.le_trans (by assumption) (Nat.le_of_ble_eq_true rfl))) fun d => ?_
    refine WC.lenS (i := 0) rfl one_self ?_
    refine WC.len .fz (by rw [kav_len]; (exact Nat.le_trans (by assumption) (Nat.le_of_ble_eq_true rfl))) ?_
    rw [R.met, kav_len]
    have htwo := R.two
    refine wIf.of (fun h1 => absurd (of_decide_eq_true h1) (by lia)) fun h1 => ?_
    refine .go ?_
    refine WE.comp 30 (by kernel_rfl) rfl ?_
    refine WC.len .fz (by rw [kav_len]; (exact Nat.le_trans (by assumption) (Nat.le_of_ble_eq_true rfl))) ?_
    rw [kav_len]
    refine WC.range2 fun rr => .go ?_
    refine .mk (List.range (r.length - 1)) (fun (z : Nat) => AV.int ((1 + z : Nat) : Int)) (fun z_ => Option.none) (WIterC.rngAB 1 r.length (i := 0) rfl one_self rfl rfl (by (exact Nat.le_trans (by assumption) (Nat.le_of_ble_eq_true rfl))) (by (exact Nat.le_add_left ..))) (fun z_ => trivial) (by rw [List.length_range]; lia) ?_ ?_
    · intro z hz
      have hz := List.mem_range.mp hz
      have g1 := List.getElem?_eq_getElem (l := r) (i := z) (by lia)
      have g2 := List.getElem?_eq_getElem (l := r) (i := z + 1) (by lia)
      have hst := R.st z _ _ g1 g2
      have o1 := hrk _ (List.getElem_mem (show z < r.length by lia))
      have o2 := hrk _ (List.getElem_mem (show z + 1 < r.length by lia))
      generalize r[z] = u at g1 hst o1
      generalize r[z + 1] = v at g2 hst o2
      refine wItem.int (k := ((1 + z : Nat) : Int) - 1) (x := u.av) (by lia) (by lia) (by rw [show (((1 + z : Nat) : Int) - 1).toNat = z by lia, kav, List.getElem?_map, g1]; rfl) ?_
      refine wItem.int (k := ((1 + z : Nat) : Int)) (x := v.av) (by (exact Int.natCast_nonneg _)) (by omega) (by rw [show ((1 + z : Nat) : Int).toNat = z + 1 by (exact Nat.add_comm ..), kav, List.getElem?_map, g2]; rfl) ?_
      refine ⟨Nat.le_of_ble_eq_true rfl, ?_⟩
      refine W2.notInE (a := (u, v)) (l := k.cs) encPair (by decide) ⟨o1, o2⟩ (fun p hp => ⟨uni_ok (N.sub _ (N.inc p hp).1), uni_ok (N.sub _ (N.inc p hp).2)⟩) ?_
      refine wIf.of (fun h2 => absurd hst (by simpa using h2)) fun z_ => ?_
      exact ⟨rfl, ⟨rfl, rfl, trivial⟩, rfl⟩
    · intro D
      rw [fm_none]
      refine ⟨_, _, _, rfl, rfl, ?_⟩
      refine ⟨Nat.le_of_ble_eq_true rfl, ?_⟩
      refine W2.neE (a := ([] : List Key)) (b := []) encKey.list (by decide) (fun z_ h => by cases h) (fun z_ h => by cases h) ?_
      rw [decide_eq_true rfl]
      refine .go ?_
      have h' := h M' ⟨L', ns, S', hx', hst'.trans (congrArg TSt.prep hst), N, has⟩
      refine Gh.sub (k.e3 x) ⟨rfl, rfl, rfl, rfl, rfl, rfl, rfl, rfl, trivial⟩ (Gh.drop (H' := M' :: K10.h w k (k.m + 1) (k.m + 1) ea ew sl H) ((List.sublist_cons_self ..).trans (List.sublist_cons_self ..)) (.go ?_))
      exact h'
end
end Mine.Internal
end

section
open PySem PySem.W PySem.Calls PyProof.Rows
set_option Elab.async false
set_option maxRecDepth 100000
set_option maxHeartbeats 0
set_option linter.unusedVariables false
set_option linter.unusedSimpArgs false
namespace Mine.Internal
noncomputable def bstr (b : Bool) : Str := if b then "True" else "False"
theorem bstr_ok (b : Bool) : (Key.s (bstr b)).Ok := by cases b <;> (show PyData.strOk _ = true; kernel_rfl)
theorem bstrs_ok (b : Bool) : ∀ x ∈ [Key.s (bstr b), Key.s (bstr b)], x.Ok := fun x hx => by
  rcases List.mem_cons.mp hx with rfl | hx
  · exact bstr_ok b
  · rw [List.mem_singleton.mp hx]; exact bstr_ok b
inductive Rnd (w : World) (th : List (Key × Key)) (cs : List (Key × Key)) (ns : List Key) (x : Addr) (o l rd : List Key) (M : AM) : Prop
  | mk (L : LS) (S : Srt w M L) (hx : L.x = x) (R : RSt ns cs o l rd L.st) (v : ValidO cs o) (N : Nds th ns cs) (has : ∀ j, j < th.length → kI j ∈ ns) : Rnd w th cs ns x o l rd M
theorem Rdy.rnd {w : World} {th cs : List (Key × Key)} {x : Addr} {M : AM} (h : Rdy w th cs x M) : ∃ ns rd, Rnd w th cs ns x [] [] rd M := by
  cases h with | mk L ns S hx hst N has => exact ⟨ns, _, L, S, hx, hst ▸ RSt.prep N.nd, .nil, N, has⟩
noncomputable def trB : List Stmt := forBody (stmtAt 11 chB)
noncomputable def K10.e4 (k : K10) (x ob : Addr) (more : AEnv) : AEnv := k.e (("stages", k.stages) :: ("sorter", .ref x) :: ("steps", .list (cav k.cs)) :: ("out", .ref ob) :: more)
section
variable {w : World} {raw : List (Str × NameKind)} {lv : Nat} {ρ : AEnv} {H : AHs} {X : AX} {th cs : List (Key × Key)} {ns : List Key} {x : Addr} {o l rd : List Key} {M : AM}
theorem Rnd.len (h5 : th.length ≤ 5) (T : Rnd w th cs ns x o l rd M) : o.length + l.length + rd.length ≤ 9 := by
  cases T with | mk L S hx R v N has => ?_
  have h := nodup_len (m := ns) R.nd R.sub
  have := N.len h5
  rw [List.length_append, List.length_append] at h
  (exact Nat.le_trans (by assumption) (by assumption))
theorem Rnd.okR (T : Rnd w th cs ns x o l rd M) : okAll (o ++ l ++ rd) := by
  cases T with | mk L S hx R v N has => exact fun y hy => uni_ok (N.sub y (R.sub y hy))
theorem rnd_active {Q : AV → AEnv → AHs → Prop} {i : Nat} {b : Bool} (hlv : 3 ≤ lv) (h5 : th.length ≤ 5) (T : Rnd w th cs ns x o l rd M) (hi : H[i]? = some M) (hb : b = (!l.isEmpty || !rd.isEmpty)) (h : Q (.bool b) ρ H) : WC (Fr w raw true lv) (.val (.ref 106)) [.ref x] ρ H Q X := by
  have hl := T.len h5
  cases T with | mk L S hx R v N has => ?_
  refine WK.wc (is_active_ok (i := i) (by (exact Nat.le_of_lt (by assumption))) S hx hi R.ready (by lia) ?_)
  have e1 : L.fin = (o.length : Int) := R.fin
  have e2 : L.passed = (o.length : Int) + l.length := R.passed
  have e3 : decide (L.fin < L.passed) = !l.isEmpty := by
    rw [e1, e2]
    cases l with
    | nil => exact decide_eq_false (by simp)
    | cons a l => exact decide_eq_true (by rw [List.length_cons]; lia)
  rw [e3, ← hb]; exact h
theorem rnd_ready {Q : AV → AEnv → AHs → Prop} {i : Nat} (hlv : 3 ≤ lv) (h5 : th.length ≤ 5) (T : Rnd w th cs ns x o l rd M) (hi : H[i]? = some M) (h : ∀ M', Rnd w th cs ns x o (l ++ rd) [] M' → Q (.tup (kav rd)) ρ (H.set i M')) : WC (Fr w raw true lv) (.val (.ref 99)) [.ref x] ρ H Q X := by
  have hl := T.len h5
  cases T with | mk L S hx R v N has => ?_
  refine WK.wc (get_ready_ok (i := i) (rs := rd) (by (exact Nat.le_of_lt (by assumption))) hx hi S R.ready (fun y hy => by rw [R.keys]; exact R.sub y (by simp [hy])) (by lia) fun M' L' S' hx' hst' => h M' ⟨L', S', hx', hst' ▸ R.getReady, v, N, has⟩)
theorem WMeth.rnd {F : Fm} {Q : AV → AEnv → AHs → Prop} {n i : Nat} {f : Addr} {name : Str} {args : List Expr} {pos : Pos} (hF : F.g = G0 w) (T : Rnd w th cs ns x o l rd M) (hi : H[i]? = some M) (hn : findIn (K0 w.params) (.ref 137) name = some (some (.ref f))) (ht : typeIn (K0 w.params) (.ref f) = some (.type "function")) (hf : ∀ L : LS, L.fields.lookup name = Option.none) (hk : keeps0.contains f = true)
    (h : (wRec n).Es F args ρ H (fun as ρ₂ H₂ => WC F (.val (.ref f)) (.ref x :: as) ρ₂ H₂ Q X) X) : WMeth F (.ref x) name args pos ρ H Q X := by
  cases T with | mk L S hx R v N has => exact WMeth.srt (n := n) hF S hx hi hn ht (hf L) hk h
variable {Q : AF → AEnv → AHs → Prop}
theorem turn_a {k : K10} {ob : Addr} {t : Nat} {ol : List Key} (hlv : 9 ≤ lv) (ok : k.Ok) (T : Rnd w k.th k.cs ns x o [] rd M) (h : ∀ M', Rnd w k.th k.cs ns x o rd [] M' → wS (wRec 39) (FL w raw lv) (trB.drop 4) (k.e4 x ob [("turn", nAV t), ("given", .tup (kav rd))]) (one ob (oList (kav ol)) :: M' :: H) Q X) :
    wS (wRec 39) (FL w raw lv) (trB.drop 0) (k.e4 x ob [("turn", nAV t)]) (one ob (oList (kav ol)) :: M :: H) Q X := by
  have h5 := ok.t.hi
  have hlen := T.len h5
  have hrok : okAll rd := fun y hy => T.okR y (List.mem_append_right _ hy)
  refine WMeth.rnd (n := 30) (i := 1) (f := 106) rfl T rfl (by kernel_rfl) (by kernel_rfl) (fun z_ => rfl) (by kernel_rfl) ?_
  refine rnd_active (i := 1) (lv := lv - 1) (b := !rd.isEmpty) (by lia) h5 T rfl rfl ?_
  refine ⟨Nat.le_of_ble_eq_true rfl, fun ab => .go ?_⟩
  refine WMeth.rnd (n := 30) (i := 2) (f := 99) rfl T rfl (by kernel_rfl) (by kernel_rfl) (fun z_ => rfl) (by kernel_rfl) ?_
  refine rnd_ready (i := 2) (lv := lv - 1) (by lia) h5 T rfl fun M1 T1 => .go ?_
  rw [List.nil_append] at T1
  refine WMeth.append (n := 30) (.own (i := 0) rfl one_self) ?_ rfl
  refine WMeth.rnd (n := 28) (i := 2) (f := 106) rfl T1 rfl (by kernel_rfl) (by kernel_rfl) (fun z_ => rfl) (by kernel_rfl) ?_
  refine rnd_active (i := 2) (lv := lv - 1) (b := !rd.isEmpty) (by lia) h5 T1 rfl (by simp) ?_
  refine ⟨0, _, _, rfl, one_self, Nat.le_of_ble_eq_true rfl, ?_⟩
  rw [one_put]
  refine Gh.freeze (i := 0) "active" rfl rfl (.go ?_)
  refine WE.comp 25 (by kernel_rfl) rfl (.go (.mk [!rd.isEmpty, !rd.isEmpty] AV.bool (fun z => some (AV.str (bstr z))) (WIterC.list rfl .fz) (fun z_ => .fz) (Nat.le_of_ble_eq_true rfl) ?_ ?_))
  · intro z hz
    refine WC.reprBool ?_
    exact ⟨rfl, trivial, rfl⟩
  · intro D
    rw [filterMap_some]
    refine ⟨_, _, _, rfl, rfl, ?_⟩
    have hb : (!decide (rd = [])) = !rd.isEmpty := by cases rd <;> rfl
    refine ⟨Nat.le_of_ble_eq_true rfl, ?_⟩
    refine W2.neE (a := rd) (b := []) encKey.tup (by decide) hrok (fun z_ h => by cases h) ?_
    refine WC.reprBool ?_
    refine ⟨Nat.le_of_ble_eq_true rfl, ?_⟩
    refine W2.neE (a := rd) (b := []) encKey.tup (by decide) hrok (fun z_ h => by cases h) ?_
    refine WC.reprBool ?_
    rw [hb]
    refine ⟨Nat.le_of_ble_eq_true rfl, ?_⟩
    refine W2.neE (a := [.s (bstr (!rd.isEmpty)), .s (bstr (!rd.isEmpty))]) (b := [.s (bstr (!rd.isEmpty)), .s (bstr (!rd.isEmpty))]) encKey.list (by decide) (bstrs_ok _) (bstrs_ok _) ?_
    rw [decide_eq_true rfl]
    refine WMeth.rnd (n := 30) (i := 1) (f := 99) rfl T1 rfl (by kernel_rfl) (by kernel_rfl) (fun z_ => rfl) (by kernel_rfl) ?_
    refine rnd_ready (i := 1) (lv := lv - 1) (by lia) h5 T1 rfl fun M2 T2 => ?_
    rw [List.append_nil] at T2
    refine ⟨Nat.le_of_ble_eq_true rfl, ?_⟩
    refine W2.neE (a := ([] : List Key)) (b := []) encKey.tup (by decide) (fun z_ h => by cases h) (fun z_ h => by cases h) ?_
    rw [decide_eq_true rfl]
    refine Gh.sub (k.e4 x ob [("turn", nAV t), ("given", .tup (kav rd))]) ⟨rfl, rfl, rfl, rfl, rfl, rfl, rfl, rfl, rfl, rfl, rfl, trivial⟩ (.go ?_)
    exact h M2 T2
end
end Mine.Internal
end

section
open PySem PySem.W PySem.Calls PyProof.Rows
set_option Elab.async false
set_option maxRecDepth 100000
set_option maxHeartbeats 0
set_option linter.unusedVariables false
set_option linter.unusedSimpArgs false
namespace Mine.Internal
theorem two_mod : (2 : Int) ≠ 0 ∧ (2 : Int).natAbs.log2 < 9000 := ⟨by decide, by decide⟩
theorem fnKnown120 (P : Params) : FnKnown (K0 P) 120 := ⟨by kernel_rfl, by kernel_rfl, by kernel_rfl, (fn120 P).known⟩
theorem ValidO.app {cs : List (Key × Key)} {o : List Key} (h : ValidO cs o) : ∀ {l : List Key}, (∀ x ∈ l, FreeP cs o x) → ValidO cs (o ++ l) := by
  intro l
  have key : ∀ (l a : List Key), ValidO cs (o ++ a) → (∀ x ∈ l, FreeP cs o x) → ValidO cs (o ++ a ++ l) := by
    intro l
    induction l with
    | nil => intro a h _; rw [List.append_nil]; exact h
    | cons x l ih =>
      intro a h hl
      have h1 : ValidO cs (o ++ (a ++ [x])) := by
        rw [← List.append_assoc]
        exact ValidO.snoc.mpr ⟨h, (hl x (List.mem_cons_self ..)).mono fun y hy => List.mem_append_left _ hy⟩
      have h2 := ih (a ++ [x]) h1 fun y hy => hl y (List.mem_cons_of_mem _ hy)
      rw [show o ++ a ++ x :: l = o ++ (a ++ [x]) ++ l by simp]; exact h2
  intro hl
  have := key l [] (by rw [List.append_nil]; exact h) hl
  rwa [List.append_nil] at this
section
variable {w : World} {raw : List (Str × NameKind)} {lv : Nat} {ρ : AEnv} {H : AHs} {X : AX} {th cs : List (Key × Key)} {ns : List Key} {x : Addr} {o l rd : List Key} {M : AM}
theorem rnd_done1 {Q : AV → AEnv → AHs → Prop} {i : Nat} {y : Key} {l' : List Key} (hlv : 3 ≤ lv) (h5 : th.length ≤ 5) (hcl : cs.length ≤ 10) (T : Rnd w th cs ns x o l rd M) (hi : H[i]? = some M) (hl : l.Perm (y :: l')) (h : ∀ rd' M', Rnd w th cs ns x (o ++ [y]) l' rd' M' → Q .none ρ (H.set i M')) : WC (Fr w raw true lv) (.val (.ref 120)) ([.ref x] ++ kav [y]) ρ H Q X := by
  have hlen := T.len h5
  cases T with | mk L S hx R v N has => ?_
  obtain ⟨rd', R', h1, _⟩ := R.done N.inc hl
  have hy : y ∈ o ++ l ++ rd := List.mem_append_left _ (List.mem_append_right _ (hl.mem_iff.mpr (List.mem_cons_self ..)))
  have hnl := N.len h5
  refine WK.wc (done_ok (i := i) (ks := [y]) (b := 40) (by (exact Nat.le_of_lt (by assumption))) S hx hi R.ready (R.small (by (exact Nat.le_trans (by assumption) (Nat.le_of_ble_eq_true rfl))) (by (exact Nat.le_trans (by assumption) (Nat.le_of_ble_eq_true rfl)))) (by simp; lia) (by simp) (R.closed N.inc) ?_ fun M3 L3 S3 hx3 hst3 => h (rd ++ rd') M3 ⟨L3, S3, hx3, hst3 ▸ R', ValidO.snoc.mpr ⟨v, R.free y hy⟩, N, has⟩)
  intro m z hz
  cases m with
  | succ m => simp at hz
  | zero =>
    have : z = y := by simpa using hz.symm
    subst this
    exact ⟨by rw [R.keys]; exact R.sub z hy, h1⟩
theorem rnd_dones {Q : AV → AEnv → AHs → Prop} {i : Nat} (hlv : 3 ≤ lv) (h5 : th.length ≤ 5) (hcl : cs.length ≤ 10) (T : Rnd w th cs ns x o l [] M) (hi : H[i]? = some M) (h : ∀ rd' M', Rnd w th cs ns x (o ++ l) [] rd' M' → Q .none ρ (H.set i M')) : WK (Fr w raw true lv) (.val (.ref 120)) (.ref x :: kav l) ρ H Q X := by
  have hlen := T.len h5
  cases T with | mk L S hx R v N has => ?_
  have hnl := N.len h5
  refine done_ok (i := i) (ks := l) (b := 40) (by (exact Nat.le_of_lt (by assumption))) S hx hi R.ready (R.small (by (exact Nat.le_trans (by assumption) (Nat.le_of_ble_eq_true rfl))) (by (exact Nat.le_trans (by assumption) (Nat.le_of_ble_eq_true rfl)))) (by simp; lia) (by lia) (R.closed N.inc) ?_ fun M3 L3 S3 hx3 hst3 => ?_
  · intro j z hz
    obtain ⟨hj, hzj⟩ := List.getElem?_eq_some_iff.mp hz
    obtain ⟨rd1, R1⟩ := RSt.dones N.inc R j (by (exact Nat.le_of_lt (by assumption)))
    have hd : l.drop j = z :: l.drop (j + 1) := by rw [← hzj]; exact List.drop_eq_getElem_cons hj
    obtain ⟨_, _, h1, _⟩ := R1.done N.inc (k := z) (l' := l.drop (j + 1)) (by rw [hd])
    exact ⟨by rw [R.keys]; exact R.sub z (by simp [List.mem_of_getElem? hz]), h1⟩
  · obtain ⟨rd3, R3⟩ := RSt.dones N.inc R l.length (Nat.le_refl _)
    rw [List.take_length, List.drop_length] at R3
    exact h rd3 M3 ⟨L3, S3, hx3, hst3 ▸ R3, v.app fun y hy => R.free y (by simp [hy]), N, has⟩
theorem rnd_bound {i : Nat} (T : Rnd w th cs ns x o l rd M) (hi : H[i]? = some M) {F : Fm} (hF : F.g = G0 w) : WBound F H x "done" 120 := by
  cases T with | mk L S hx R v N has => ?_
  refine WBound.inst (C := 137) (i := i) (j := i) (M := M) (N := M) (dx := L.dx) (fs := L.fields) ?_ hi (hx ▸ S.inst) hi S.flds ?_ ?_ rfl (by kernel_rfl)
  · rw [hF]; exact cls137 _
  · rw [hF]; kernel_rfl
  · rw [hF]; exact fnKnown120 _
end
end Mine.Internal
end

section
open PySem PySem.W PySem.Calls PyProof.Rows
set_option Elab.async false
set_option maxRecDepth 100000
set_option maxHeartbeats 0
set_option linter.unusedVariables false
set_option linter.unusedSimpArgs false
namespace Mine.Internal
structure Dn (o rd : List Key) (m : Nat) (o' : List Key) : Prop where
  len : o'.length = o.length + m
  mem : ∀ z, z ∈ o' ↔ z ∈ o ∨ z ∈ rd.drop (rd.length - m)
theorem Dn.zero {o rd : List Key} : Dn o rd 0 o := ⟨rfl, fun z => by rw [Nat.sub_zero, List.drop_length]; simp⟩
theorem down0 {n m : Nat} : n - (m + 1) = n - 1 - m := by rw [Nat.sub_sub, Nat.add_comm 1 m]
theorem down1 {n m : Nat} (hm : m < n) : n - 1 - m + 1 = n - m := by rw [Nat.sub_right_comm, Nat.sub_add_cancel (Nat.sub_pos_of_lt hm)]
set_option tactic.hygienic true in
theorem Dn.next {o rd o' : List Key} {m : Nat} {y : Key} (h : Dn o rd m o') (hm : m < rd.length) (hy : rd[rd.length - 1 - m]? = some y) : Dn o rd (m + 1) (o' ++ [y]) := by
  refine ⟨by rw [List.length_append, h.len, List.length_singleton]; (exact Nat.add_assoc ..), fun z => ?_⟩
  obtain ⟨h1, h2⟩ := List.getElem?_eq_some_iff.mp hy
  have e : rd.drop (rd.length - (m + 1)) = y :: rd.drop (rd.length - m) := by
    rw [down0, List.drop_eq_getElem_cons h1, h2, down1 hm]
  rw [e, List.mem_append, h.mem z, List.mem_singleton, List.mem_cons, or_assoc]
  exact or_congr Iff.rfl Or.comm
theorem take_last {rd : List Key} {m : Nat} {y : Key} (hm : m < rd.length) (hy : rd[rd.length - 1 - m]? = some y) : (rd.take (rd.length - m)).Perm (y :: rd.take (rd.length - 1 - m)) := by
  rw [← down1 hm, take_snoc hy]
  exact List.perm_append_singleton ..
inductive DnI (w : World) (k : K10) (ns : List Key) (x ob r : Addr) (t : Nat) (o rd ol : List Key) (H : AHs) (m : Nat) (ρ' : AEnv) (H' : AHs) : Prop
  | mk (o' rd' : List Key) (M : AM) (h0 : ρ' = k.e4 x ob [("turn", nAV t), ("given", .tup (kav rd))]) (h1 : H' = one r (oRange ((rd.length : Int) - 1) (-1) (-1)) :: one ob (oList (kav ol)) :: M :: H) (D : Dn o rd m o') (T : Rnd w k.th k.cs ns x o' (rd.take (rd.length - m)) rd' M) : DnI w k ns x ob r t o rd ol H m ρ' H'
section
variable {w : World} {raw : List (Str × NameKind)} {lv : Nat} {ρ : AEnv} {H : AHs} {X : AX} {ns : List Key} {x : Addr} {o rd : List Key} {M : AM} {Q : AF → AEnv → AHs → Prop}
set_option tactic.hygienic true in
theorem turn_b {k : K10} {ob : Addr} {t : Nat} {ol : List Key} (hlv : 9 ≤ lv) (ok : k.Ok) (hol : ol.length ≤ 1000) (T : Rnd w k.th k.cs ns x o rd [] M)
    (h : ∀ o' rd' M' more, Dn o rd rd.length o' → Rnd w k.th k.cs ns x o' [] rd' M' → Q .next (k.e4 x ob (("turn", nAV t) :: more)) (one ob (oList (kav (ol ++ rd))) :: M' :: H)) :
    wS (wRec 39) (FL w raw lv) (trB.drop 4) (k.e4 x ob [("turn", nAV t), ("given", .tup (kav rd))]) (one ob (oList (kav ol)) :: M :: H) Q X := by
  have h5 := ok.t.hi
  have hcl := ok.cl
  have hlen := T.len h5
  refine WMeth.extend (n := 30) (.own (i := 0) rfl one_self) ⟨0, _, _, kav rd, rfl, one_self, .t, by rw [kav_len, kav_len]; lia, ?_⟩ rfl
  rw [one_put, show kav ol ++ kav rd = kav (ol ++ rd) from (List.map_append ..).symm]
  refine .go ⟨two_mod, ?_⟩
  refine wIf.of (fun h1 => ?_) fun h1 => ?_
  · refine WE.methS1 (n := 30) rfl rfl ⟨x, 120, rfl, rnd_bound (i := 1) T rfl rfl, kav rd, .t, by rw [kav_len]; lia, ?_⟩
    refine rnd_dones (i := 1) (lv := lv - 1) (by lia) h5 hcl T rfl fun rd' M' T' => ?_
    have h' := h (o ++ rd) rd' M' [("given", .tup (kav rd))] ⟨by rw [List.length_append], fun z => by rw [Nat.sub_self, List.drop_zero, List.mem_append]⟩ T'
    refine .go (.go ?_)
    exact h'
  · refine WX.for 30 rfl rfl ?_
    refine WC.lenT (by rw [kav_len]; lia) ?_
    rw [kav_len]
    refine WC.range3 (by decide) (down_facts ⟨rd.length, by lia⟩).2.2 fun r => .go ?_
    refine WLoop.mk (DnI w k ns x ob r t o rd (ol ++ rd) H) (WIter.down (n := rd.length) (i := 0) rfl one_self (by lia)) (fun _ _ _ _ => trivial) ⟨o, [], M, rfl, rfl, .zero, by rw [Nat.sub_zero, List.take_length]; exact T⟩ ?_ ?_
    · rintro m y ρ' H' hy ⟨o', rd', M, rfl, rfl, D, T⟩
      obtain ⟨j, hj, rfl⟩ := map_get_inv hy
      obtain ⟨hm, rfl⟩ := range_at hj
      have hi : rd.length - 1 - j < rd.length := Nat.lt_of_le_of_lt (Nat.sub_le ..) (Nat.sub_lt (Nat.lt_of_le_of_lt (Nat.zero_le j) hm) Nat.one_pos)
      have hz := List.getElem?_eq_getElem hi
      generalize rd[rd.length - 1 - j] = z at hz
      have hkz : (kav rd)[rd.length - 1 - j]? = some z.av := by rw [kav, List.getElem?_map, hz]; rfl
      refine WMeth.rnd (n := 28) (i := 2) (f := 120) rfl T rfl (by kernel_rfl) (by kernel_rfl) (fun _ => rfl) (by kernel_rfl) ?_
      refine wItem.nat hkz (by omega) ?_
      refine rnd_done1 (i := 2) (y := z) (lv := lv - 1) (by lia) h5 hcl T rfl (take_last hm hz) fun rd2 M2 T2 => .go ?_
      have D2 := D.next hm hz
      have e2 : rd.length - 1 - j = rd.length - (j + 1) := down0.symm
      refine wIf.of (fun g1 => ?_) fun g1 => ?_
      · have g1 := of_decide_eq_true g1
        have hne : (rd.take (rd.length - 1 - j)).isEmpty = false := by
          rw [List.isEmpty_eq_false_iff]
          intro e
          have e1 := congrArg List.length e
          rw [List.length_take, List.length_nil] at e1
          omega
        refine WMeth.rnd (n := 22) (i := 2) (f := 106) rfl T2 rfl (by kernel_rfl) (by kernel_rfl) (fun _ => rfl) (by kernel_rfl) ?_
        refine rnd_active (i := 2) (lv := lv - 1) (b := true) (by lia) h5 T2 rfl (by rw [hne]; rfl) ?_
        refine WC.reprBool ?_
        refine W2.neE (a := .s (bstr true)) (b := .s (bstr true)) encKey (by decide) (bstr_ok _) (bstr_ok _) ?_
        rw [decide_eq_true rfl]
        exact Gh.sub (k.e4 x ob [("turn", nAV t), ("given", .tup (kav rd))]) ⟨rfl, rfl, rfl, rfl, rfl, rfl, rfl, rfl, rfl, rfl, rfl, trivial⟩ (.go (.go ⟨o' ++ [z], rd2, M2, rfl, rfl, D2, by rw [← e2]; exact T2⟩))
      · exact Gh.sub (k.e4 x ob [("turn", nAV t), ("given", .tup (kav rd))]) ⟨rfl, rfl, rfl, rfl, rfl, rfl, rfl, rfl, rfl, rfl, rfl, trivial⟩ (.go (.go ⟨o' ++ [z], rd2, M2, rfl, rfl, D2, by rw [← e2]; exact T2⟩))
    · rintro ρ' H' ⟨o', rd', M, rfl, rfl, D, T⟩
      rw [List.length_map, List.length_range] at D T
      rw [Nat.sub_self, List.take_zero] at T
      have h' := h o' rd' M [("given", .tup (kav rd))] D T
      refine .go (Gh.drop (List.sublist_cons_self ..) (.go ?_))
      exact h'
end
end Mine.Internal
end

section
open PySem PySem.W PySem.Calls PyProof.Rows
set_option Elab.async false
set_option maxRecDepth 100000
set_option maxHeartbeats 0
set_option linter.unusedVariables false
set_option linter.unusedSimpArgs false
namespace Mine.Internal
section
variable {w : World} {th cs : List (Key × Key)} {ns : List Key} {x : Addr} {o l rd o' rd' : List Key} {M M' : AM} {m : Nat}
theorem Rnd.stay (T : Rnd w th cs ns x o [] [] M) (T' : Rnd w th cs ns x o' [] rd' M') (h : ∀ z, z ∈ o' ↔ z ∈ o) : rd' = [] := by
  cases T with | mk L S hx R v N has => ?_
  cases T' with | mk L' S' hx' R' v' N' has' => ?_
  refine List.eq_nil_iff_forall_not_mem.mpr fun y hy => ?_
  have hm : y ∈ o' ++ [] ++ rd' := List.mem_append_right _ hy
  have hyo : y ∉ o := fun hyo => (List.nodup_append.mp R'.nd).2.2 y (List.mem_append_left _ ((h y).mpr hyo)) y hy rfl
  have := R.all y (R'.sub y hm) hyo (by simp) ((R'.free y hm).mono fun z => (h z).mp)
  cases this
theorem Rnd.abl {s : Nat} (L : LockTh th) (hs : s < 3 ^ th.length) (T : Rnd w th (stepsOf th s) ns x o [] [] M) {j : Nat} (hj : j < th.length) : kI j ∈ o ↔ Abl th j s := by
  cases T with | mk L' S hx R v N has => ?_
  constructor
  · intro h
    exact free_abl L hs hj (valid_free v _ h)
  · intro h
    refine Classical.byContradiction fun hn => abl_free L h (rest_stk (o := o) N.inc (fun k hk hko hf => ?_) (kI j) (has j hj) hn)
    have := R.all k hk hko (by simp) hf
    cases this
structure Bt (o rd ol : List Key) (m : Nat) : Prop where
  len : ol.length = o.length
  mem : ∀ z, z ∈ ol ↔ z ∈ o
  p : rd = [] ∨ m ≤ o.length
inductive TurnI (w : World) (k : K10) (ns : List Key) (x ob r : Addr) (H : AHs) (m : Nat) (ρ' : AEnv) (H' : AHs) : Prop
  | mk (o rd ol : List Key) (M : AM) (h0 : ρ' = k.e4 x ob []) (h1 : H' = one ob (oList (kav ol)) :: M :: one r (oRange 0 10 1) :: H) (B : Bt o rd ol m) (T : Rnd w k.th k.cs ns x o [] rd M) : TurnI w k ns x ob r H m ρ' H'
set_option tactic.hygienic true in
theorem Bt.next {ol : List Key} {k : K10} (B : Bt o rd ol m) (T : Rnd w k.th k.cs ns x o [] rd M) (T' : Rnd w k.th k.cs ns x o' [] rd' M') (D : Dn o rd rd.length o') : Bt o' rd' (ol ++ rd) (m + 1) := by
  have hm : ∀ z, z ∈ o' ↔ z ∈ o ∨ z ∈ rd := fun z => by rw [D.mem z, Nat.sub_self, List.drop_zero]
  refine ⟨by rw [List.length_append, B.len, D.len], fun z => by rw [List.mem_append, B.mem, hm], ?_⟩
  by_cases hr : rd = []
  · subst hr
    exact .inl (T.stay T' fun z => by rw [hm]; simp)
  · have h1 := List.length_pos_iff.mpr hr
    have h2 := B.p.resolve_left hr
    have := D.len
    exact .inr (by lia)
end
section
variable {w : World} {raw : List (Str × NameKind)} {lv : Nat} {ρ : AEnv} {H : AHs} {X : AX} {x : Addr} {M : AM} {Q : AF → AEnv → AHs → Prop}
set_option tactic.hygienic true in
theorem body_turns {k : K10} (hlv : 9 ≤ lv) (ok : k.Ok) (T : Rdy w k.th k.cs x M)
    (h : ∀ ob ol, okAll ol → (∀ j, j < k.th.length → (kI j ∈ ol ↔ Abl k.th j k.s)) → ol.length ≤ 9 → wS (wRec 49) (FL w raw lv) (chB.drop 12) (k.e4 x ob []) (one ob (oList (kav ol)) :: H) Q X) :
    wS (wRec 49) (FL w raw lv) (chB.drop 10) (k.e3 x) (M :: H) Q X := by
  have h5 := ok.t.hi
  obtain ⟨ns, rd, T⟩ := T.rnd
  refine ⟨Nat.le_of_ble_eq_true rfl, fun ob => .go ?_⟩
  refine WX.for 40 rfl rfl ?_
  refine WC.range1 fun r => Gh.perm (one ob (oList (kav [])) :: M :: one r (oRange 0 10 1) :: H) ?_ (Gh.sub (k.e4 x ob []) ⟨rfl, rfl, rfl, rfl, rfl, rfl, rfl, rfl, rfl, trivial⟩ (.go ?_))
  · exact List.perm_middle (a := one r (oRange 0 10 1)) (l₁ := [one ob (oList (kav [])), M]) (l₂ := H)
  refine WLoop.mk (TurnI w k ns x ob r H) (WIter.rng (n := 10) (i := 2) rfl one_self rfl (by decide)) (fun _ _ _ _ => trivial) ⟨[], rd, [], M, rfl, rfl, ⟨rfl, fun z => Iff.rfl, .inr (Nat.zero_le _)⟩, T⟩ ?_ ?_
  · rintro m y ρ' H' hy ⟨o, rd, ol, M, rfl, rfl, B, T⟩
    obtain ⟨t, ht, rfl⟩ := map_get_inv hy
    have hl := T.len h5
    refine (?_ : wS (wRec 39) (FL w raw lv) _ (k.e4 x ob [("turn", nAV t)]) (one ob (oList (kav ol)) :: M :: one r (oRange 0 10 1) :: H) _ _)
    refine turn_a (k := k) (t := t) hlv ok T fun M1 T1 => ?_
    refine turn_b (k := k) hlv ok (by have := B.len; lia) T1 fun o' rd' M' more D T' => ?_
    exact Gh.sub (k.e4 x ob []) ⟨rfl, rfl, rfl, rfl, rfl, rfl, rfl, rfl, rfl, trivial⟩ (.go ⟨o', rd', ol ++ rd, M', rfl, rfl, B.next T T' D, T'⟩)
  · rintro ρ' H' ⟨o, rd, ol, M, rfl, rfl, B, T⟩
    have hl := T.len h5
    have hrd : rd = [] := B.p.resolve_right (by show ¬ 10 ≤ o.length; rw [List.length_nil] at hl; lia)
    subst hrd
    have hok : okAll ol := fun y hy => T.okR y (by simp [(B.mem y).mp hy])
    refine Gh.drop (H' := one ob (oList (kav ol)) :: H) (((List.sublist_cons_self _ H).trans (List.sublist_cons_self _ _)).cons_cons _) (.go (h ob ol hok (fun j hj => (B.mem _).trans (T.abl ok.t.lock ok.lt hj)) (by have := B.len; lia)))
set_option tactic.hygienic true in
theorem body_check {k : K10} {ob : Addr} {ol : List Key} {ea ew : Nat} {sl : List Nat} (hlv : 9 ≤ lv) (ok : k.Ok) (hok : okAll ol) (hA : ∀ j, j < k.th.length → (kI j ∈ ol ↔ Abl k.th j k.s)) (hl : ol.length ≤ 9)
    (h : Q .next (k.e []) (K10.h w k (k.m + 1) (k.m + 1) ea ew sl H)) :
    wS (wRec 49) (FL w raw lv) (chB.drop 12) (k.e4 x ob []) (one ob (oList (kav ol)) :: K10.h w k (k.m + 1) (k.m + 1) ea ew sl H) Q X := by
  have h5 := ok.t.hi
  have hin : ∀ j, j ∈ ablL k.th k.s ↔ j < k.th.length ∧ Abl k.th j k.s := fun j => by
    unfold ablL
    rw [List.mem_filter, List.mem_range]
    exact and_congr Iff.rfl (@decide_eq_true_iff _ (Classical.propDecidable _))
  refine WE.comp 30 (by kernel_rfl) rfl ?_
  refine WC.len .fz (by rw [cav_len]; (exact Nat.le_trans (by assumption) (Nat.le_of_ble_eq_true rfl))) ?_
  rw [cav_len]
  refine WC.range1 fun r => .go ?_
  refine .mk (List.range k.th.length) nAV (fun j => if decide (kI j ∈ ol) = true then some (nAV j) else Option.none) (WIterC.rng (i := 0) rfl one_self rfl (by (exact Nat.le_trans (by assumption) (Nat.le_of_ble_eq_true rfl)))) (fun _ => trivial) (by rw [List.length_range]; (exact Nat.le_trans (by assumption) (Nat.le_of_ble_eq_true rfl))) ?_ ?_
  · intro j hj
    refine W2.inLV (x := kI j) (xs := ol) encKey (by decide) (.own (i := 1) rfl one_self) rfl hok ?_
    refine wIf.of (fun h2 => ?_) fun h2 => ?_
    · exact ⟨rfl, ⟨rfl, trivial⟩, by rw [if_pos h2]⟩
    · exact ⟨rfl, ⟨rfl, trivial⟩, by rw [if_neg (by rw [h2]; exact Bool.false_ne_true)]⟩
  · intro D
    rw [filterMap_if]
    refine ⟨_, _, _, rfl, rfl, ?_⟩
    have e : (List.range k.th.length).filter (fun j => decide (kI j ∈ ol)) = ablL k.th k.s := by
      unfold ablL
      refine List.filter_congr fun j hj => ?_
      refine Bool.eq_iff_iff.mpr ?_
      rw [decide_eq_true_iff, hA j (List.mem_range.mp hj)]
      exact (@decide_eq_true_iff _ (Classical.propDecidable _)).symm
    rw [e]
    refine W2.itemD (k := kI k.s) (i := 5) rfl one_self (kvOf_at ok.one_in) ?_ rfl
    unfold ablAV
    refine W2.neE (a := ablL k.th k.s) (b := ablL k.th k.s) encNat.list (by decide) (fun _ _ => trivial) (fun _ _ => trivial) ?_
    rw [decide_eq_true rfl]
    refine Gh.sub (k.e []) ⟨rfl, rfl, rfl, rfl, rfl, trivial⟩ (Gh.drop (H' := K10.h w k (k.m + 1) (k.m + 1) ea ew sl H) ((List.sublist_cons_self ..).trans (List.sublist_cons_self ..)) (.go ?_))
    exact h
end
end Mine.Internal
end

section
open PySem PySem.W PySem.Calls PyProof.Rows
set_option Elab.async false
set_option maxRecDepth 100000
set_option maxHeartbeats 0
set_option linter.unusedVariables false
set_option linter.unusedSimpArgs false
namespace Mine.Internal
section
variable {w : World} {raw : List (Str × NameKind)} {lv : Nat} {ρ : AEnv} {H : AHs} {X : AX} {Q : AF → AEnv → AHs → Prop}
set_option tactic.hygienic true in
theorem body_ok {k : K10} {ea ew : Nat} (hlv : 9 ≤ lv) (ok : k.Ok) (h : ∀ ea ew more, Q .next (k.e more) (K10.h w k (k.m + 1) (k.m + 1) ea ew (stuckL k.th (k.ss.take (k.m + 1))) H)) :
    wS (wRec 49) (FL w raw lv) (chB.drop 0) (k.e []) (K10.h w k k.m k.m ea ew (stuckL k.th (k.ss.take k.m)) H) Q X := by
  refine body_stages ok (body_moves hlv ok (body_able hlv ok fun ea => body_whole hlv ok fun ew => body_stuck hlv ok ?_ ?_))
  · exact Nat.le_trans (List.length_filter_le ..) (ok.lenT k.m)
  · rw [← stuckL_snoc, ← ok.snoc]
    refine body_new hlv fun x pb M T => body_build hlv ok T fun M T => ?_
    refine body_first hlv T (body_prep ok hlv T fun M R => body_turns hlv ok R fun ob ol h1 h2 h3 => body_check hlv ok h1 h2 h3 (h ea ew []))
theorem law_main {th : List (Key × Key)} {come : List Nat} {cb : Addr} (hlv : 9 ≤ lv) (ok : ThOk th) (hC : CI th (3 ^ th.length) come)
    (h : ∀ ab wb sb ss, SS th ss → wS (wRec 59) (FL w raw lv) (lawFrom 12) (ρM th ab wb sb) (one sb (oList ((stuckL th ss).map nAV)) :: H) Q X) :
    wS (wRec 59) (FL w raw lv) (lawFrom 8) (ρC th cb) (one cb (oList (come.map nAV)) :: H) Q X :=
  law_loop ok hC (fun k Q X ea ew hk h => body_ok hlv hk h) h
end
end Mine.Internal
end

section
open PySem PySem.W PySem.Calls PyProof.Rows
set_option Elab.async false
set_option maxRecDepth 100000
set_option maxHeartbeats 0
set_option linter.unusedVariables false
set_option linter.unusedSimpArgs false
namespace Mine.Internal
theorem stuck_none {th : List (Key × Key)} {ss : List Nat} {ns B : List Key} (hcs : InC ns th) (hT : Topo (stOf ns th).scOf B) (hk : ∀ k ∈ ns, k ∈ B) : stuckL th ss = [] := by
  unfold stuckL
  rw [List.filter_eq_nil_iff]
  intro s _ h
  unfold stuckB at h
  rw [Bool.and_eq_true, decide_eq_true_iff] at h
  have := endB_iff.mpr (topo_alive hcs hT hk h.1)
  rw [this] at h
  exact absurd h.2 (by decide)
theorem stuck_some {th : List (Key × Key)} {ss : List Nat} {ns r : List Key} (hS : SS th ss) (hR : RingOk th ns r) : stuckL th ss ≠ [] := by
  obtain ⟨t, h1, _, h3, h4⟩ := ring_dead hR
  intro e
  unfold stuckL at e
  rw [List.filter_eq_nil_iff] at e
  refine e t (hS.all t h1) ?_
  unfold stuckB
  rw [Bool.and_eq_true, decide_eq_true_iff, Bool.not_eq_true']
  exact ⟨h3, Bool.eq_false_iff.mpr fun q => h4 (endB_iff.mp q)⟩
noncomputable def ρE (th : List (Key × Key)) (sb x : Addr) : AEnv := [("stuck", .ref sb), ("sorter", .ref x)]
inductive EndI (w : World) (th : List (Key × Key)) (sb x : Addr) (H : AHs) (m : Nat) (ρ' : AEnv) (H' : AHs) : Prop
  | mk (M : AM) (h0 : ρ' = ρE th sb x) (h1 : H' = M :: H) (T : Told w th (th.take m) 0 x M) : EndI w th sb x H m ρ' H'
section
variable {w : World} {raw : List (Str × NameKind)} {lv : Nat} {ρ : AEnv} {H : AHs} {X : AX} {Q : AF → AEnv → AHs → Prop}
theorem W2.eqB {F : Fm} {QV : AV → AEnv → AHs → Prop} {a b : Bool} (h : QV (.bool (decide (a = b))) ρ H) : W2 F VR (compareOp .Eq) (.bool a) (.bool b) ρ H QV X := by
  refine W2.eqD (x := .bool a) (y := .bool b) (.data rfl) (.data rfl) (Nat.zero_le _) ?_
  have e : PyData.eqv (AV.bool a).toPy (AV.bool b).toPy = decide (a = b) := by cases a <;> cases b <;> kernel_rfl
  rw [e]; exact h
theorem law_end {th : List (Key × Key)} {ss : List Nat} {ab wb sb : Addr} (hlv : 9 ≤ lv) (ok : ThOk th) (hS : SS th ss) (h : ∀ ρ' H', Q (.ret (.bool true)) ρ' H') :
    wS (wRec 59) (FL w raw lv) (lawFrom 12) (ρM th ab wb sb) (one sb (oList ((stuckL th ss).map nAV)) :: H) Q X := by
  have h5 := ok.hi
  refine sorter_new (lv := lv - 1) (by lia) fun M L S hst => .go ?_
  refine WX.for 50 rfl rfl (Gh.sub (ρE th sb L.x) ⟨rfl, rfl, trivial⟩ (.go ?_))
  refine WLoop.mk (xs := cav th) (EndI w th sb L.x (one sb (oList ((stuckL th ss).map nAV)) :: H)) (WIter.list rfl .fz) (fun z_ z_ z_ z_ => .fz) ⟨M, rfl, rfl, L, [], S, rfl, hst, .nil, fun j hj => absurd hj (Nat.not_lt_zero j)⟩ ?_ ?_
  · rintro m y ρ' H' hy ⟨M, rfl, rfl, T⟩
    obtain ⟨⟨a, b⟩, hp, rfl⟩ := map_get_inv hy
    have hin := ok.mem _ (List.mem_of_getElem? hp)
    have T' := T
    cases T' with | mk L1 ns S hx hst N has => ?_
    refine WMeth.srt (n := 30) (i := 0) (f := 87) rfl S hx rfl (by kernel_rfl) (by kernel_rfl) rfl (by kernel_rfl) ?_
    refine told_add (i := 0) (k := b) (ps := [a]) (m' := 0) (lv := lv - 1) (by lia) h5 T rfl (Nat.le_trans (List.length_take_le' ..) (by (exact Nat.le_trans (by assumption) (Nat.le_of_ble_eq_true rfl)))) (Nat.le_of_ble_eq_true rfl) (uni_l hin.2) (fun p hp => by rw [List.mem_singleton.mp hp]; exact uni_l hin.1) (fun j hj => absurd hj (Nat.not_lt_zero j)) fun M' T' => ?_
    exact .go (Gh.sub (ρE th sb L.x) ⟨rfl, rfl, trivial⟩ (.go ⟨M', rfl, rfl, by rw [take_snoc hp]; exact T'⟩))
  · rintro ρ' H' ⟨M, rfl, rfl, T⟩
    rw [cav_len, List.take_length] at T
    cases T with | mk L1 ns S hx hst N has => ?_
    have hnl := N.len h5
    refine Gh.freeze (i := 1) "stuck" rfl rfl (.go ?_)
    refine WMeth.srt (n := 30) (i := 0) (f := 127) rfl S hx rfl (by kernel_rfl) (by kernel_rfl) rfl (by kernel_rfl) ?_
    refine WK.wc (find_cycle_ok (i := 0) (lv := lv - 1) (by lia) S hx rfl (hst ▸ stOf_small (by (exact Nat.le_trans (by assumption) (Nat.le_of_ble_eq_true rfl))) (by (exact Nat.le_trans (by assumption) (Nat.le_of_ble_eq_true rfl)))) ?_ (fun B hT hB => ?_) fun r hR z_ => ?_)
    · rw [hst]
      intro p hp s hs
      simp only [TSt.shape, stOf, List.map_map, List.mem_map] at hp
      obtain ⟨x, hx, rfl⟩ := hp
      rw [stOf_keys']
      exact (N.inc _ (mem_endsOf.mp hs)).2
    · have e := stuck_none (ss := ss) N.inc (hst ▸ hT) fun x hx => hB x (by rw [hst, stOf_keys']; exact hx)
      refine ⟨Nat.le_of_ble_eq_true rfl, ?_⟩
      refine W2.eqE (a := stuckL th ss) (b := []) encNat.list (by decide) (fun z_ z_ => trivial) (fun z_ z_ => trivial) ?_
      rw [e]
      refine W2.eqB ?_
      exact h _ _
    · have e := stuck_some hS (ring_ok N.inc (hst ▸ hR))
      refine ⟨Nat.le_of_ble_eq_true rfl, ?_⟩
      refine W2.eqE (a := stuckL th ss) (b := []) encNat.list (by decide) (fun z_ z_ => trivial) (fun z_ z_ => trivial) ?_
      rw [decide_eq_false e]
      refine W2.eqB ?_
      exact h _ _
theorem law_ok {sc : List Int} (hlv : 9 ≤ lv) (hsc : sc.length ≤ 63) (h : ∀ ρ' H', Q (.ret (.bool true)) ρ' H') : wS (wRec 59) (FL w raw lv) (lawFrom 0) [("script", .list (iav sc))] H Q X := by
  refine law_head (by lia) hsc fun sz ns nb h2 h4 hl hn => law_threads h2 h4 hl hn fun th ok => law_come hlv ok fun cb come hC => law_main hlv ok hC fun ab wb sb ss hS => law_end hlv ok hS h
end
end Mine.Internal
end

section
open PySem PySem.W PySem.Calls PyProof.Rows
set_option Elab.async false
set_option maxRecDepth 100000
set_option maxHeartbeats 0
set_option linter.unusedVariables false
set_option linter.unusedSimpArgs false
namespace Mine.Internal
noncomputable def cx1 (w : World) (h : Heap) (env : Env) (os : OsState) : Cx := { prog := PW, w := w, A := callerA.deeper env, base := h, K := K0 w.params, env := env, fr := env, outer := [], PO := fun z_ => Option.none, os := os, lv := 20 }
theorem vrs_ints {Z : ZM} : ∀ {vs : List Value} {ns : List Int}, IntsAre vs ns → VRs Z (iav ns) vs
  | _, _, .nil => .nil
  | _, _, .cons n t h => .cons .int (vrs_ints h)
section
variable {w : World} {s s' : Shared}
theorem enter1 {ρ0 : AEnv} {binds : List (Str × Value)} {fd : FuncData} {f : Addr} {Z : ZM} (G : Glb s.heap (K0 w.params)) (hk : fd.scope.kind = .function) (hg : fd.globals = mainGlobals) (hb : fd.builtins = builtinsNs)
    (h1 : binds.map Prod.fst = ρ0.map Prod.fst) (h2 : VRs Z (ρ0.map Prod.snd) (binds.map Prod.snd)) (hn : (ρ0.map Prod.fst).Nodup) (hZ : ∀ b o, Z b = some o → s.heap.get? b = some o ∧ Fz o) (hgens : s.gens = #[])
    (hkind : ∀ x ∈ ρ0.map Prod.fst, fd.scope.names.lookup x = some .local ∨ fd.scope.names.lookup x = some .cell)
    (x : InCallC s (callEnvC fd s.heap.objs.size f).locals (bindL (callEnvC fd s.heap.objs.size f).kindOf binds fun z_ => Option.none) (callEnvC fd s.heap.objs.size f).cells (bindC (callEnvC fd s.heap.objs.size f).kindOf binds fun z_ => Option.none) s') :
    Fun (cx1 w s.heap (callEnvC fd s.heap.objs.size f) s.os) fd.scope ∧ St (cx1 w s.heap (callEnvC fd s.heap.objs.size f) s.os) ρ0 [] Z s' := by
  obtain ⟨xI, xc, xa, xab⟩ := x
  obtain ⟨h₁, tk, rfl⟩ := xI.same
  have hkeep := xI.keep
  have hfreshL : s.heap.get? s.heap.objs.size = Option.none := Heap.get?_none_of_le (Nat.le_refl _)
  have cellGt : ∀ n b, (callEnvC fd s.heap.objs.size f).cells.lookup n = some b → s.heap.objs.size < b := fun n b e => xab n b (mem_of_lookup e)
  refine ⟨⟨⟨G, hk, hg, hb, rfl, Around.frames_deeper rfl, hk, ⟨s.heap.objs.size, rfl, Nat.le_refl _, .inl rfl⟩, Nat.le_refl _, rfl, ?_, ?_, ?_, ?_, ?_, ?_⟩, rfl, rfl, fun y hy => ?_, fun z_ z_ z_ => rfl⟩, ?_⟩
  · intro e he; cases he
  · intro b o e; cases e
  · intro y z b e1 e2
    exact name_of_addr xa (mem_of_lookup e1) (mem_of_lookup e2)
  · intro y b e
    have := cellGt y b e
    exact ⟨Heap.get?_none_of_le (Nat.le_of_lt this), Nat.ne_of_gt this⟩
  · show callerA.depth + 1 + 20 ≤ 900
    decide
  · show callerA.units + 3 + 20 * 20 ≤ 9000
    decide
  · exact Option.isSome_iff_exists.mp (cellsFrom_some fd.scope.names (s.heap.objs.size + 1) [] (.inl hy))
  · refine ⟨hkeep, ⟨_, xI.ns, fun y a e => ?_⟩, fun y b e => ⟨_, xc y b e⟩, fun b o e => ?_, fun N hN => ?_, List.Pairwise.nil, fun b o e => ?_, fun e he => ?_, hgens, rfl⟩
    · obtain ⟨v, q1, q2⟩ := lookup_par h1 h2 e
      refine ⟨v, q2, ?_⟩
      have hmem : y ∈ ρ0.map Prod.fst := List.mem_map.mpr ⟨(y, a), mem_of_lookup e, rfl⟩
      rcases hkind y hmem with hl | hl
      · exact .inl ⟨hl, bindL_hit hl binds _ (h1 ▸ hn) q1⟩
      · obtain ⟨b, hb⟩ := Option.isSome_iff_exists.mp (cellsFrom_some fd.scope.names (s.heap.objs.size + 1) [] (.inl hl))
        refine .inr ⟨.inl hl, b, hb, ?_⟩
        have := xc y b hb
        rw [bindC_hit (ko := (callEnvC fd s.heap.objs.size f).kindOf) hl binds _ (h1 ▸ hn) q1] at this
        exact this
    · cases e
    · cases hN
    · obtain ⟨q1, q2⟩ := hZ b o e
      exact ⟨hkeep b o q1, q2⟩
    · cases he
end
theorem wRec_S {n : Nat} {F : Fm} {ss : List Stmt} {ρ : AEnv} {H : AHs} {Q : AF → AEnv → AHs → Prop} {X : AX} (h : wS (wRec n) F ss ρ H Q X) : (wRec (n + 1)).S F ss ρ H Q X := h
theorem knows1 {w : World} {raw : List (Str × NameKind)} {h : Heap} {env : Env} {os : OsState} (hf : Fun (cx1 w h env os) (fdK w.params 151).scope) : Knows (FL w raw 10) (cx1 w h env os) where
  prog := rfl
  w := rfl
  K := rfl
  gok := G0.ok w
  cf := hf.cf
  fn := fun z_ => ⟨_, hf, rfl⟩
  kind := fun x q e => (hf.kind x).trans (by rw [← e]; exact (Fm.kind_fn (F := FL w raw 10) rfl).symm)
  stores := fun x e => hf.stores (Fm.stores_raw e)
  hdl := fun z_ => rfl
  lv := by show 9 ≤ 20; decide
  good := ((fn151 w.params).fnAt).2.2.1
set_option tactic.hygienic true in
theorem run_law {w : World} {s : Shared} {a : Addr} {vs : List Value} {ns : List Int} {R : Result → Shared → Prop} (G : Glb s.heap (K0 w.params)) (hgens : s.gens = #[]) {n : Nat} (ho : s.heap.get? a = some ⟨.type "list", Option.none, .seq vs.toArray n, #[]⟩) (hI : IntsAre vs ns) (hl : ns.length ≤ 63)
    (hR : ∀ s', (∀ b o, s.heap.get? b = some o → s'.heap.get? b = some o) → s'.gens = #[] → s'.os = s.os → R (.ok (.ret (.bool true))) s') : codeAny (model PW w) callerA (.call (.ref 151) ⟨[.ref a], []⟩) R s := by
  obtain ⟨hf, hkc, good, hnd, hp⟩ := (fn151 w.params).fnAt
  obtain ⟨oc, od, osl, hat⟩ := hf.at_
  obtain ⟨p, loose, mg, mb, TR⟩ := G.top
  have hargs : (fdK w.params 151).params.args.map (·.arg) = [Str.ofString "script"] := by kernel_rfl
  have hb : bindArgs (fdK w.params 151) ⟨[.ref a], []⟩ = pure [(Str.ofString "script", Value.ref a)] := by
    kernel_rfl
  refine codeAny_call_function (by decide) (G.kin _ _ hat) rfl hf.co hf.gen hf.b (codeRec_of G.kin hf.code) ?_
  rw [hb]
  refine wpAny_pure ?_
  rw [hf.cl]
  refine wpAny_newFunctionEnv_cells hf.kind (fun x hx => ?_) fun env' he s' x => ?_
  · rw [List.mem_singleton.mp hx]
    exact .inl (by kernel_rfl)
  · subst he
    refine ⟨TR.nolimit.keeps (fun b o e => x.toInCall.keep b o e), codeAny_func ?_⟩
    have hE : newEnv (fdK w.params 151).scope s.heap.objs.size (fdK w.params 151).globals (cellsFrom (s.heap.objs.size + 1) (fdK w.params 151).scope.names []) ((fdK w.params 151).qualname ++ ".<locals>.") (some 151) (fdK w.params 151).code Option.none (fdK w.params 151).builtins = callEnvC (fdK w.params 151) s.heap.objs.size 151 := rfl
    rw [hE] at x ⊢
    obtain ⟨F1, S1⟩ := enter1 (ρ0 := [("script", .list (iav ns))]) (Z := fun b => if b = a then some ⟨.type "list", Option.none, .seq vs.toArray n, #[]⟩ else Option.none) G hf.kind hf.g hf.bl rfl (.cons (.list (if_pos rfl) (vrs_ints hI)) .nil) (List.nodup_cons.mpr ⟨List.not_mem_nil, List.nodup_nil⟩) (fun b o e => by
      split at e
      · rename_i hba; cases e; exact ⟨hba ▸ ho, .inl ⟨_, _, rfl⟩⟩
      · cases e) hgens (fun y hy => by rw [List.mem_singleton.mp hy]; exact .inl (by kernel_rfl)) x
    have hw := law_ok (w := w) (raw := []) (lv := 10) (H := []) (X := noX) (Q := fun fl _ _ => fl = .ret (.bool true)) (by decide) hl (fun _ _ => rfl)
    have e0 : lawFrom 0 = fBody (fnAt 9) := List.drop_zero
    rw [e0] at hw
    have ht := (wRec_sound (59 + 1)).S _ _ (knows1 (raw := []) F1) _ _ _ _ _ (wRec_S hw)
    refine wpAny_mono (ht _ s' S1) (fun fl s₂ hp => ?_) fun e s₂ hx => ?_
    · obtain ⟨af, ρ', H', Z₂, hz₂, hr, S₂, hq⟩ := hp
      subst hq
      obtain ⟨v, rfl, hv⟩ := hr
      cases hv
      exact hR s₂ S₂.base S₂.gens S₂.os
    · obtain ⟨y, cls, args, E₀, ρ', H', Z₂, rfl, hE₀, hz₂, S₂, hq⟩ := hx
      cases hq
end Mine.Internal
end

section
open PySem PySem.W PySem.Calls PyProof.Rows
set_option Elab.async false
set_option maxHeartbeats 0
set_option maxRecDepth 100000
namespace Mine.Internal
theorem head0 (call : WalkO Q0 loose0 (XL Q0 []) H0.says RW.row.toRowW D0 [] fun f vs => PySem.call f vs) : RW.Holds := holds_law said0 fun said => holds_open (q := Q0) (loose := loose0)
 (Xt := fun s => xlAt Q0 [] s && recOk (RowW.records RW.row.toRowW) s) (XP := XL Q0 []) (Yf := H0.obs) (Ya := H0.val) (YP := H0.says) (d := D0) (kwd := []) (N := 2510) left0 H0.of H0.keeps (fun s e => xl_of s (Bool.and_eq_true_iff.mp e).1) XL.keeps
 (by kernel_rfl) (by kernel_rfl) (by kernel_rfl) (fun s e => recFacts_of (Bool.and_eq_true_iff.mp e).2) (by rfl) said (by kernel_rfl) ⟨rfl, rfl, rfl, rfl, rfl, by decide +kernel⟩ (by w_witness2) call
theorem well_list {P : Params} {h : Heap} {a : Addr} {ns : List Int} {vs : List Value} (hw : Well P h (.ref a) (ofPy (.list (ns.map .int)))) (hL : h.IsList a vs.toArray) : h.get? a = some ⟨.type "list", Option.none, .seq vs.toArray 0, #[]⟩ := by
  obtain ⟨o, e1, e2, n, e3⟩ := hL
  generalize hx : ofPy (.list (ns.map PyData.int)) = x at hw
  cases hw with
  | list h1 h2 => 
    rw [h1] at e1 ⊢
    cases e1
    cases e3
    rfl
  | _ => simp [ofPy] at hx
set_option tactic.hygienic true in
theorem fin : RW.Holds := by
  refine head0 ?_
  intro w s₀ s₁ mg mb G Y fa o pm cd doc dV kV ho hd hcd hD hmg hg args vals as hpre hlay hrd hwl hlo
  have KX := kIn_of Y
  refine Ground.open G ?_
  intro T B D TE TW
  wrow_args hpre hlay hrd hwl hlo
  refine enter_call ?_
  w_top on
  rename_i ns _ _ _ _ _ _ a vs _ hL _ hW _ hI _ hlen _
  have hfa : fa = 151 := by
    have h1 := mg_of (n := "law") (v := .ref 151) KX T.g (by kernel_rfl)
    have h2 : mg "law" = some (.ref fa) := hmg
    rw [h1] at h2
    cases h2; rfl
  subst hfa
  have GB : Glb s₁.heap (K0 w.params) := ⟨KX, ⟨_, _, _, _, topRead_of T⟩, let ⟨mm, h, _⟩ := (T.seer (by kernel_rfl)).mods; ⟨mm, h⟩⟩
  refine run_law GB hg (well_list hW hL) hI (by lia) fun s' hk hgn hos => ?_
  refine ⟨.inl ⟨.bool true, .bool true, [], rfl, ?_, ?_, ?_, ?_⟩, .of_keep hk, hos, .of_eq hgn⟩
  · intro cls; rfl
  · exact .bool true
  · kernel_rfl
  · intro _
    exact ⟨List.nodup_nil, fun _ h => by cases h⟩
end Mine.Internal
end

set_option maxHeartbeats 4000000 in
theorem PySem.Challenge.cw_dm0132_10_holds : PySem.Challenge.rw_dm0132_10.Holds := by
  exact Mine.Internal.fin
