import PyProof.Rows.All
import Wide.All
import OpenK.AllK
import Wide.FinOn
import PySem.Challenge.RW_md0025_01
set_option Elab.async false
set_option linter.unusedVariables false
set_option linter.unusedSimpArgs false
set_option maxRecDepth 100000

/-! part MSaid -/
namespace Mine
noncomputable section
open PySem PySem.W PyProof.Rows
open Sem (wp)
abbrev prg : Program := PySem.Challenge.pw_md0025_01
abbrev row : OpenRow := PySem.Challenge.rw_md0025_01.row

theorem holds_from (h : row.wellSaid = true → row.Holds) : PySem.Challenge.rw_md0025_01.Holds := by
  w_on
  o_law
  rename_i said
  exact h said
end
end Mine

/-! part MGlue -/
namespace Mine
noncomputable section
open PySem PySem.W PyProof.Rows
open Sem (wp)
abbrev ctx0 : Ctx := ⟨.builtin "claim.caller" {}, none, none, [], none⟩

/-- the last running state before a halt -/
theorem last_running {den : Code → Sem PySem.Fin} {p : Program} {w : World} : ∀ (n : Nat) (s : Shared) (t : Thread) {o : Outcome} {s'' : Shared},
    runN den p w n s t = .halted o s'' → ∃ m s₁ t₁, runN den p w m s t = .running s₁ t₁ ∧ step den p w s₁ t₁ = .halt o s'' ∧ runN den p w (m + 1) s t = .halted o s''
  | 0, s, t, o, s'', h => by cases h
  | n + 1, s, t, o, s'', h => by
    simp only [runN] at h
    cases hs : step den p w s t with
    | go s' t' =>
      rw [hs] at h
      obtain ⟨m, s₁, t₁, h1, h2, h3⟩ := last_running n s' t' h
      exact ⟨m + 1, s₁, t₁, by simp only [runN, hs]; exact h1, h2, by rw [runN, hs]; exact h3⟩
    | halt o' s' =>
      rw [hs] at h
      cases h
      exact ⟨0, s, t, rfl, hs, by simp only [runN, hs]⟩

theorem go_ne {s s' : Shared} {t : Thread} {o : Outcome} (h : Step.go s t = .halt o s') : False := nomatch h
theorem halt_inj {s s' : Shared} {o o' : Outcome} (h : Step.halt o s = .halt o' s') : o = o' ∧ s = s' := by injection h with a b; exact ⟨a, b⟩
theorem fin_done {s s' : Shared} {o : Outcome} {f : Flow} (h : finish o s = .halt (.done f) s') : s = s' ∧ o = .done f := by
  unfold finish at h
  split at h
  · exact nomatch (halt_inj h).1
  · exact ⟨(halt_inj h).2, (halt_inj h).1⟩
theorem step_done {den : Code → Sem PySem.Fin} {p : Program} {w : World} {s s'' : Shared} {t : Thread} {f : Flow} (h : step den p w s t = .halt (.done f) s'') : through t = true ∧ s = s'' := by
  obtain ⟨heap, gens, drawn, toks, os⟩ := s
  obtain ⟨cur, code, pos, stack⟩ := t
  cases cur with
  | pure a =>
    cases a with
    | again c => exact (go_ne h).elim
    | done g =>
      cases stack with
      | nil => exact ⟨rfl, (fin_done h).1⟩
      | cons fr rest => cases fr <;> exact (go_ne h).elim
  | raise e =>
    cases stack with
    | nil => exact nomatch (fin_done h).2
    | cons fr rest => cases fr <;> exact (go_ne h).elim
  | unsupported what => exact nomatch (halt_inj (o := .unsupported _) h).1
  | finish e =>
    unfold step at h; dsimp only at h
    by_cases c : leftWithCleanup gens = true
    · rw [if_pos c] at h; exact nomatch (halt_inj h).1
    · rw [if_neg c] at h; exact nomatch (halt_inj h).1
  | load a _ k =>
    unfold step at h; dsimp only at h
    cases hg : heap.get? a with
    | none => rw [hg] at h; exact nomatch (halt_inj (o := .stuck _) h).1
    | some o => rw [hg] at h; exact (go_ne h).elim
  | update a _ g k =>
    unfold step at h; dsimp only at h
    by_cases c : (heap.get? a).isSome = true
    · rw [if_pos c] at h; exact (go_ne h).elim
    · rw [if_neg c] at h; exact nomatch (halt_inj h).1
  | register _ _ => exact nomatch (halt_inj (o := .unsupported _) h).1
  | choose src n k =>
    unfold step at h; dsimp only at h
    by_cases c : n = 0
    · rw [if_pos c] at h; exact nomatch (halt_inj h).1
    · rw [if_neg c] at h; exact (go_ne h).elim
  | genState g k =>
    unfold step at h; dsimp only at h
    cases hg : gens[g]? with
    | none => rw [hg] at h; exact nomatch (halt_inj (o := .stuck _) h).1
    | some o => rw [hg] at h; exact (go_ne h).elim
  | resume g r l k =>
    unfold step at h; dsimp only at h
    cases hg : gens[g]? with
    | none => rw [hg] at h; exact nomatch (halt_inj (o := .stuck _) h).1
    | some o =>
      rw [hg] at h
      cases o with
      | fresh c =>
        cases r with
        | send v => cases v <;> exact (go_ne h).elim
        | throw e => exact (go_ne h).elim
      | _ => exact (go_ne h).elim
  | yield v g0 l kk =>
    unfold step at h; dsimp only at h
    cases hg : splitAtGen stack with
    | none => rw [hg] at h; exact nomatch (halt_inj (o := .stuck _) h).1
    | some o => rw [hg] at h; exact (go_ne h).elim
  | fork _ _ => exact nomatch (halt_inj (o := .unsupported _) h).1
  | await => exact nomatch (halt_inj (o := .unsupported _) h).1
  | _ => exact (go_ne h).elim

theorem halted_later {den : Code → Sem PySem.Fin} {p : Program} {w : World} (k : Nat) : ∀ (n : Nat) (s : Shared) (t : Thread) {o : Outcome} {s' : Shared},
    runN den p w n s t = .halted o s' → runN den p w (n + k) s t = .halted o s'
  | 0, s, t, o, s', h => by cases h
  | n + 1, s, t, o, s', h => by
    rw [show n + 1 + k = n + k + 1 by omega]
    simp only [runN] at h ⊢
    cases hs : step den p w s t with
    | go s1 t1 => rw [hs] at h; exact halted_later k n s1 t1 h
    | halt o1 s1 => rw [hs] at h; exact h

theorem halted_unique {den : Code → Sem PySem.Fin} {p : Program} {w : World} {n m : Nat} {s : Shared} {t : Thread} {o o' : Outcome} {s' s'' : Shared}
    (h : runN den p w n s t = .halted o s') (h' : runN den p w m s t = .halted o' s'') : o = o' ∧ s' = s'' := by
  have a := halted_later m n s t h
  have b := halted_later n m s t h'
  rw [Nat.add_comm] at b
  rw [a] at b
  injection b with x y
  exact ⟨x, y⟩

/-- a tree that ends (by the logic, at the claim's own caller) is run to its end by the machine -/
theorem runs_through {p : Program} {w : World} {t : Sem PySem.Fin} {s : Shared} {R : Flow → Shared → Prop} (hreg : s.asleep)
    (h : wp (model p w) ctx0 t (fun fin _ s' => ∃ f, fin = .done f ∧ R f s' ∧ s'.gens = #[]) (fun _ _ _ => False) default s) :
    ∃ n t₁ s₁ f, schedN (denote table) p w n (.single s ⟨t, .builtin "claim.caller" {}, default, []⟩) = .running (.single s₁ t₁) ∧ through t₁ = true ∧ R f s₁ ∧ s₁.gens = #[] ∧ s₁.heap.life = s.heap.life ∧
      schedN (denote table) p w (n + 1) (.single s ⟨t, .builtin "claim.caller" {}, default, []⟩) = .halted (.done f) s₁ := by
  have h1 : wp (model p w) ctx0 t (Sem.finPost (model p w) ctx0 fun r s' => (∃ f, r = .ok f ∧ R f s' ∧ s'.gens = #[]) ∧ leftWithCleanup s'.gens = false)
      (fun e _ s' => (∃ f, (Except.error e : Result) = .ok f ∧ R f s' ∧ s'.gens = #[]) ∧ leftWithCleanup s'.gens = false) default s := by
    refine Sem.wp_mono _ _ _ (fun fin q s' h' => ?_) (fun _ _ _ h' => h'.elim) _ _ h
    obtain ⟨f, rfl, hR, hg⟩ := h'
    exact ⟨⟨f, rfl, hR, hg⟩, by rw [hg]; simp [leftWithCleanup]⟩
  obtain ⟨n, r, s', hn, f, rfl, hR, hg⟩ := (wp_iff_halts t (fun r s' => ∃ f, r = .ok f ∧ R f s' ∧ s'.gens = #[]) default s).mp h1
  obtain ⟨s'', hs, hf, hcalm⟩ := runNI_real (denote table) p w hn rfl
  obtain rfl : s'' = s' := Shared.eq_of_forget_eq hf hg
  obtain ⟨m, s₁, t₁, hm, hst, hs1⟩ := last_running n _ _ hs
  obtain ⟨hth, rfl⟩ := step_done hst
  have hno : ∀ {k s' t'}, runN (denote table) p w k s ⟨t, .builtin "claim.caller" {}, default, []⟩ = .running s' t' → t'.calm = true := fun {k s' t'} e => hcalm k s' t' e
  have key : ∀ k, schedN (denote table) p w k (.single s ⟨t, .builtin "claim.caller" {}, default, []⟩) = (runN (denote table) p w k s ⟨t, .builtin "claim.caller" {}, default, []⟩).lift := by
    intro k
    rcases schedN_single (denote table) p w k s ⟨t, .builtin "claim.caller" {}, default, []⟩ hreg with e | ⟨k', s', t', e, e'⟩ | ⟨k', s', e⟩
    · exact e
    · rw [hno e] at e'; cases e'
    · obtain ⟨e', _⟩ := halted_unique e hs; cases e'
  refine ⟨m, t₁, s₁, f, by rw [key, hm]; rfl, hth, hR, hg, runN_life_running hm, by rw [key, hs1]; rfl⟩

/-- what the top leaves, as the claim asks it -/
structure TopOut (w : World) (TF : World → Heap → Prop) (s₀ s₁ : Shared) : Prop where
  os : s₁.os = s₀.os
  keep : ∀ b o, s₀.heap.get? b = some o → b ≠ mainNs → s₁.heap.get? b = some o
  keyed : keysAreStrs s₁.heap mainNs
  glob : ∃ mg, s₁.heap.Ns mainGlobals mg ∧ mg "__builtins__" = some (.ref 4) ∧ (∀ x v, mg x = some v → x ∈ startupNames ∨ x ∈ prg.boundNames) ∧ (∀ x ∈ laidNames, mg x = (boot_heap w.params).nsMap mainGlobals x)
  law : isTheDefsW prg s₁.heap (Str.ofString "law")
  tf : TF w s₁.heap

theorem boot_isNs (P : Params) : (boot_heap P).isNs mainGlobals = true := by kernel_rfl
theorem boot_blt (P : Params) : (boot_heap P).isNs builtinsNs = true := by kernel_rfl
theorem boot_bltView (P : Params) : (boot_heap P).bltView = bltViewBooted := by kernel_rfl

theorem ints_of {R : WRecords} {cl : Str → Option Addr} {h : Heap} : ∀ (vs : List Value) (ds : List WData) (as : List Addr), ReadsAllW R cl h vs ds as → WShape.hasItems R ds .int = true → ∃ ns : List Int, IntsAre vs ns ∧ ns.length = ds.length
  | _, _, _, .nil, _ => ⟨[], .nil, rfl⟩
  | _, _, _, .cons (v := v) (vs := vs) (d := d) (ds := ds) r1 r2, x => by
    rw [WShape.hasItems, Bool.and_eq_true] at x
    obtain ⟨ns, hn, hl⟩ := ints_of _ _ _ r2 x.2
    obtain ⟨i, rfl⟩ := hasW_int x.1
    cases r1
    exact ⟨_ :: ns, .cons _ _ hn, by simp [hl]⟩

theorem glue {TF : World → Heap → Prop} (hk : ∀ w h h', TF w h → (∀ b o, h.get? b = some o → h'.get? b = some o) → TF w h')
    (top : ∀ (w : World) (s₀ : Shared), s₀.heap = boot_heap w.params → s₀.gens = #[] →
      wp (model prg w) ctx0 (topStub prg).cur (fun fin _ s' => ∃ f, fin = .done f ∧ TopOut w TF s₀ s' ∧ s'.gens = #[]) (fun _ _ _ => False) default s₀)
    (call : ∀ (w : World) (s₁ : Shared) (l : Addr) (vs : List Value) (ns : List Int), TF w s₁.heap → s₁.gens = #[] → s₁.heap.IsList l vs.toArray → IntsAre vs ns → ns.length ≤ 63 →
      wp (model prg w) ctx0 (callStub (Str.ofString "law") [.ref l]).cur (fun fin _ s' => ∃ f, fin = .done f ∧ (f = .ret (.bool true) ∧ (∀ b o, s₁.heap.get? b = some o → s'.heap.get? b = some o) ∧ s'.os = s₁.os) ∧ s'.gens = #[])
        (fun _ _ _ => False) default s₁) : PySem.Challenge.rw_md0025_01.Holds := by
  refine holds_from fun said => ?_
  have hw : row.toRowW.promised := ⟨[.list []], by decide +kernel, by decide +kernel⟩
  refine ⟨said, hw, ⟨⟨rfl, rfl, rfl, rfl, rfl, by decide +kernel⟩, by decide +kernel, rfl⟩, hw.witness, fun w => ?_⟩
  have hop : opening prg = plainProg prg.main.scope.names := rfl
  obtain ⟨sb, hsb, hv⟩ := Option.map_eq_some_iff.mp (boot_plain w prg.main.scope.names)
  rw [← hop, ← table_eq_tree] at hsb
  have AI := AfterImport.of_importEnds hsb
  refine ⟨⟨sb, AI⟩, fun s hs => ?_⟩
  obtain rfl : s = sb := AfterImport.unique hs AI
  have hfence : fenceModules? prg s = some s := rfl
  obtain ⟨hh, hv⟩ := Prod.mk.inj hv
  obtain ⟨hg, _⟩ := Prod.mk.inj hv
  obtain ⟨n, t₁, s₁, f, hrun, hth, TO, hg1, hlife, _⟩ := runs_through AI.life (top w s hh hg)
  have hmain : s₁.heap.get? mainNs ≠ none := by
    obtain ⟨o, _, _, e, _⟩ := TO.keyed
    rw [e]; nofun
  obtain ⟨mg, hmg, hmb, hnames, hlaid⟩ := TO.glob
  have hgof : ∀ x, globalOf s₁.heap x = mg x := by
    intro x
    obtain ⟨o, es, ep, ho, hd, _, hf⟩ := hmg
    have ho' : s₁.heap.get? mainNs = some o := ho
    unfold globalOf
    rw [ho']
    simp only [hd]
    exact hf x
  have hst : s₁.heap.get? cStatics = s.heap.get? cStatics := by
    rw [hh]
    have : (boot_heap w.params).get? cStatics = some (boot_o_2 w.params) := rfl
    rw [this]
    exact TO.keep _ _ (by rw [hh]; exact this) (by decide)
  have hstat : ∀ k, staticOf s₁.heap k = staticOf s.heap k := fun k => by unfold staticOf; rw [hst]
  have hnone : ∀ k, staticOf s.heap k = none := fun k => by rw [hh]; rfl
  have hgob : ∀ x, globalOf s.heap x = (boot_heap w.params).nsMap mainGlobals x := fun x => by rw [hh]; exact Pin.globalOf_eq (boot_isNs _) x
  have hblt : s₁.heap.get? builtinsNs = (boot_heap w.params).get? builtinsNs := by
    have : (boot_heap w.params).get? builtinsNs = some (boot_o_0 w.params) := rfl
    rw [this]
    exact TO.keep _ _ (by rw [hh]; exact this) (by decide)
  have hbm : s₁.heap.get? 4 = some (boot_o_4 w.params) := TO.keep _ _ (by rw [hh]; rfl) (by decide)
  have TR : TopRan prg w s s₁ := by
    refine ⟨⟨n, t₁, hrun, hth⟩, hlife, Shared.rest_eq TO.os, fun b o e hn => TO.keep b o e fun q => hn (.inl q), fun k v e => ?_, fun k => .inl (hstat k), TO.keyed, fun x hx => ?_, ⟨4, _, (hgof _).trans hmb, hbm, rfl, rfl⟩, ?_, fun x v e => hnames x v ((hgof x).symm.trans e), fun x hx => ?_⟩
    · rw [hstat, hnone] at e; cases e
    · have e1 : builtinOf s₁.heap x = builtinOf (boot_heap w.params) x := by unfold builtinOf; rw [hblt]
      exact e1.trans ((Pin.builtinOf_eq (boot_blt _) x).trans (Heap.of_bltView (boot_blt _) (boot_bltView _) x hx))
    · rw [hg1]; intro g hg'; simp at hg'
    · rw [hgof, hgob]; exact hlaid x hx
  refine ⟨s, hfence, hg, s₁, TR, fun n hn => ?_, (fun x hx => (nomatch hx)), (fun x hx => (nomatch hx)), ?_⟩
  · obtain rfl : n = Str.ofString "law" := by
      have hn' : n ∈ [Str.ofString "law"] := hn
      simpa using hn'
    exact TO.law
  · intro args hpre hlay ord hord
    obtain ⟨ha, hp⟩ := pre_splitW hpre
    obtain ⟨d, r, rfl, hd, hr⟩ := hasAllW_cons ha
    obtain rfl := hasAllW_nil hr
    obtain ⟨ds, rfl, hit⟩ := hasW_list (e := .int) hd
    have hlen : ds.length ≤ 63 := by
      have h3 : WTm.holds [] (.and (.not (.lt (.lit (.int 63)) (.len (.arg 0)))) (.lit (.bool true))) { args := [.list ds] } = true := hp
      simp [WTm.holds, WTm.value] at h3
      by_cases hc : (63 : Int) < ds.length
      · simp [less?, Num.less?, hc] at h3
      · omega
    obtain ⟨⟨vs, s₂⟩, hlaid⟩ := Option.isSome_iff_exists.mp (layAllW_isSome (P := w.params) (ord := ord) (R := []) (cl := classAt s₁.heap) (fun c hc => (nomatch hc)) [.list ds] [.list .int] s₁ ha)
    have keeps := layAllW_keeps _ _ _ hlaid
    have hal := layAllW_rest _ _ _ hlaid
    obtain ⟨as, hrd, hin, hold⟩ := reads_layAllW hord _ _ _ hlaid hlay s₂.heap (fun _ _ e => e)
    cases hrd with
    | cons r1 r2 =>
      cases r2
      cases r1 with
      | list ho hc hdt hri =>
        rename_i l o vs n as'
        obtain ⟨ns, hns, hnl⟩ := ints_of _ _ _ hri hit
        obtain ⟨n', t', s', f', hrun', hth', ⟨rfl, hkeep, hos⟩, hg', hlife', hhalt⟩ := runs_through (Shared.asleep_of_life (hal.2.2.2.trans hlife) AI.life)
          (call w s₂ l vs.toList ns (hk _ _ _ TO.tf keeps) (hal.1.trans hg1) ⟨o, ho, hc, n, by rw [hdt]⟩ hns (by omega))
        refine ⟨_, s₂, hlaid, n' + 1, _, s', hhalt, .inl ⟨.bool true, rfl, fun _ => rfl, ⟨.bool true, [.list ds], [], _, .bool true, .cons (.list (hkeep _ _ ho) hc hdt (hri.keepsK fun b o e _ => hkeep b o e)) .nil, ?_, fun _ => ⟨.nil, (fun _ h => (nomatch h)), fun _ h => (nomatch h)⟩, fun _ _ => ident_freeW rfl rfl rfl _ _⟩,
          (fun i hi => (nomatch hi)), (fun b o e _ _ _ => .inl (hkeep b o e)), (fun i hi => (nomatch hi))⟩, (fun _ i x hx => ?_), (fun h => (nomatch h)), ?_, ?_⟩
        · show (WShape.has [] (.bool true) .bool && WTm.holds [] (.eq .res (.lit (.bool true))) { args := [.list ds], res := some (.bool true), after := [.list ds] }) = true
          kernel_rfl
        · rw [hg1] at hx; simp at hx
        · rw [hlife', hal.2.2.2]
        · exact Shared.rest_eq (hos.trans hal.2.2.1)
end
end Mine

/-! part MW -/
namespace Mine
noncomputable section
open PySem PySem.W PyProof.Rows
open Sem (wp)
/-- built-ins that, standing on the stack with an object as their first argument, hold its memory -/
def badIds : List String := ["bytearray.__contains__", "bytearray.__mod__", "bytearray.__rmod__", "_struct.pack_into.held", "bytearray.find.held"] ++ Builtin.Bytes.decodersThatHold
def badCode : Code → Bool
  | .builtin id _ => badIds.contains id
  | _ => false
def Cln (Γ : Ctx) : Prop := badCode Γ.code = false ∧ ∀ x ∈ Γ.below, badCode x.1 = false

/-- the judgement: over heaps alone, no exception, nothing bad on the stack -/
def W (w : World) (A : Around) {α : Type} (t : Sem α) (Q : α → Heap → Prop) (h : Heap) : Prop :=
  ∀ s : Shared, s.heap = h → ∀ Γ p, Γ.In A → Cln Γ → wp (model prg w) Γ t (fun a _ s' => s'.gens = s.gens ∧ s'.os = s.os ∧ Q a s'.heap) (fun _ _ _ => False) p s
def WC (w : World) (A : Around) (c : Code) (R : Flow → Heap → Prop) (h : Heap) : Prop :=
  ∀ s : Shared, s.heap = h → ∀ Γ p, Γ.code = c → Γ.Below A → (∀ x ∈ Γ.below, badCode x.1 = false) →
    wpCode (model prg w) Γ (fun r s' => s'.gens = s.gens ∧ s'.os = s.os ∧ ∃ f, r = .ok f ∧ R f s'.heap) p s

section
variable {w : World} {A : Around} {α β : Type} {h : Heap}

theorem W.of {t : Sem α} {Q : α → Heap → Prop} (x : ∀ s : Shared, s.heap = h → wpAny (model prg w) A t (fun a s' => s'.gens = s.gens ∧ s'.os = s.os ∧ Q a s'.heap) (fun _ _ => False) s) : W w A t Q h :=
  fun s hs Γ p hΓ _ => x s hs Γ p hΓ
/-- a leaf of the library that turns nothing but the tokens -/
theorem W.val {t : Sem α} {Q : α → Heap → Prop} (v : Tok → α) (x : ∀ (s : Shared) (R : α → Shared → Prop), R (v s.toks) { s with toks := s.toks + 1 } → wpAny (model prg w) A t R (fun _ _ => False) s) (hq : ∀ k, Q (v k) h) : W w A t Q h :=
  W.of fun s hs => x s _ ⟨rfl, rfl, hs ▸ hq _⟩
theorem W.same {t : Sem α} {Q : α → Heap → Prop} (v : α) (x : ∀ (s : Shared) (R : α → Shared → Prop), R v s → wpAny (model prg w) A t R (fun _ _ => False) s) (hq : Q v h) : W w A t Q h :=
  W.of fun s hs => x s _ ⟨rfl, rfl, hs ▸ hq⟩

theorem W.mono {t : Sem α} {Q Q' : α → Heap → Prop} (x : W w A t Q h) (hq : ∀ a h', Q a h' → Q' a h') : W w A t Q' h :=
  fun s hs Γ p hΓ hc => Sem.wp_mono _ Γ t (fun a _ s' ⟨g, o, q⟩ => ⟨g, o, hq a s'.heap q⟩) (fun _ _ _ e => e) p s (x s hs Γ p hΓ hc)
theorem W.pure {a : α} {Q : α → Heap → Prop} (x : Q a h) : W w A (Pure.pure a) Q h := fun s hs Γ p _ _ => ⟨rfl, rfl, hs ▸ x⟩
theorem W.bind {m : Sem α} {f : α → Sem β} {Q : β → Heap → Prop} (x : W w A m (fun a h' => W w A (f a) Q h') h) : W w A (m >>= f) Q h := fun s hs Γ p hΓ hc => by
  rw [Sem.wp_bind']
  refine Sem.wp_mono _ Γ m (fun a p' s' ⟨g, o, q⟩ => ?_) (fun _ _ _ e => e) p s (x s hs Γ p hΓ hc)
  exact Sem.wp_mono _ Γ (f a) (fun b _ s'' ⟨g', o', q'⟩ => ⟨g'.trans g, o'.trans o, q'⟩) (fun _ _ _ e => e) p' s' (q s' rfl Γ p' hΓ hc)
theorem W.holding {vs : List Value} {m : Sem α} {Q : α → Heap → Prop} (x : W w A m Q h) : W w A (holding vs m) Q h := fun s hs Γ p hΓ hc => by
  rw [Sem.wp_holding]; exact x s hs Γ p hΓ hc
theorem W.keep {vs : List Value} {m : Sem α} {Q : α → Heap → Prop} (x : W w A m Q h) : W w A (m.keep vs) Q h := fun s hs Γ p hΓ hc => by
  rw [Sem.wp_keep]; exact x s hs Γ p hΓ hc
theorem W.standAt {q : Pos} {Q : Unit → Heap → Prop} (x : Q () h) : W w A (standAt q) Q h := fun s hs Γ p _ _ => ⟨rfl, rfl, hs ▸ x⟩
theorem W.point {Q : Unit → Heap → Prop} (x : Q () h) : W w A point Q h := fun s hs Γ p _ _ => ⟨rfl, rfl, hs ▸ x⟩
theorem W.eq {t : Sem α} {a : α} {Q : α → Heap → Prop} (e : t = Pure.pure a) (x : Q a h) : W w A t Q h := e ▸ W.pure x
theorem W.cast {t t' : Sem α} {Q : α → Heap → Prop} (e : t = t') (x : W w A t' Q h) : W w A t Q h := e ▸ x
theorem W.operate {vs : List Value} {m : Sem Value} {Q : Value → Heap → Prop} (x : W w A m Q h) : W w A (operate vs m) Q h := fun s hs Γ p hΓ hc => by
  rw [Sem.wp_operate]; exact x s hs Γ p hΓ hc
theorem W.release {vs ks : List Value} {Q : Unit → Heap → Prop} (x : Q () h) : W w A (release vs ks) Q h := fun s hs Γ p hΓ hc => by
  rw [Sem.wp_release]; exact ⟨rfl, rfl, hs ▸ x⟩
theorem W.bindName {env : Env} {n : Str} {v : Value} {Q : Unit → Heap → Prop} (x : W w A (storeName env n v) Q h) : W w A (bindName env n v) Q h := fun s hs Γ p hΓ hc => by
  rw [Sem.wp_bindName]; exact x s hs Γ p hΓ hc
theorem W.onRaise {m : Sem α} {k : Value → Sem Unit} {Q : α → Heap → Prop} (x : W w A m Q h) : W w A (m.onRaise k) Q h := fun s hs Γ p hΓ hc => by
  rw [Sem.wp_onRaise]
  exact Sem.wp_mono _ Γ m (fun _ _ _ e => e) (fun _ _ _ e => e.elim) p s (x s hs Γ p hΓ hc)
theorem W.load {a : Addr} {o : Obj} {Q : Obj → Heap → Prop} (ho : h.get? a = some o) (x : Q o h) : W w A (load a) Q h := W.of fun s hs => wpAny_load (hs ▸ ho) ⟨rfl, rfl, hs ▸ x⟩
theorem W.ite {c : Prop} [Decidable c] {a b : Sem α} {Q : α → Heap → Prop} (x : if c then W w A a Q h else W w A b Q h) : W w A (if c then a else b) Q h := by split <;> simp_all
theorem W.iteT {c : Bool} {a b : Sem α} {Q : α → Heap → Prop} (e : c = true) (x : W w A a Q h) : W w A (if c = true then a else b) Q h := by rw [if_pos e]; exact x
theorem W.iteF {c : Bool} {a b : Sem α} {Q : α → Heap → Prop} (e : c = false) (x : W w A b Q h) : W w A (if c = true then a else b) Q h := by
  rw [if_neg (by rw [e]; exact Bool.false_ne_true)]; exact x

theorem Cln.enter {Γ : Ctx} (hc : Cln Γ) (c : Code) (hd : Option Value) (p : Pos) : ∀ x ∈ (Γ.enter c hd p).below, badCode x.1 = false := by
  intro x hx
  rcases List.mem_cons.mp hx with rfl | hx
  · exact hc.1
  · exact hc.2 x hx

theorem W.run {c : Code} {Q : Flow → Heap → Prop} (x : WC w A c Q h) : W w A (run c) Q h := fun s hs Γ p hΓ hc => by
  rw [Sem.wp_run]
  refine wpCode_mono (fun r s' ⟨g, o, f, e, q⟩ => ?_) (x s hs _ p rfl (hΓ.enter c none p (by intro x; cases x)) (hc.enter c none p))
  subst e
  exact ⟨g, o, q⟩
theorem W.runValue {c : Code} {Q : Value → Heap → Prop} (x : WC w A c (fun f h' => ∃ v, f = .ret v ∧ Q v h') h) : W w A (runValue c) Q h := fun s hs Γ p hΓ hc => by
  rw [Sem.wp_runValue]
  refine wpCode_mono (fun r s' ⟨g, o, f, e, v, e', q⟩ => ?_) (x s hs _ p rfl (hΓ.enter c none p (by intro x; cases x)) (hc.enter c none p))
  subst e e'
  exact ⟨g, o, q⟩
theorem W.call {f : Value} {pos : List Value} {kw : List (Str × Value)} {Q : Value → Heap → Prop} (x : WC w A (.call f ⟨pos, kw⟩) (fun f h' => ∃ v, f = .ret v ∧ Q v h') h) : W w A (call f pos kw) Q h := W.runValue x
theorem W.runOwn {c : Code} {env : Env} {Q : Flow → Heap → Prop} (x : WC w A c Q h) : W w A (runOwn c env) Q h := by
  unfold PySem.runOwn
  exact W.onRaise (W.run x)

theorem WC.tree {c : Code} {R : Flow → Heap → Prop} (hb : badCode c = false)
    (x : W w (A.under c) ((model prg w).den c) (fun fin h' => match fin with | .done f => R f h' | .again c' => c'.quiet = true ∧ WC w A c' R h') h) : WC w A c R h := fun s hs Γ p hc hΓ hcl => by
  rw [wpCode_iff_wp, hc]
  refine Sem.wp_mono _ Γ _ (fun fin p' s' ⟨g, o, q⟩ => ?_) (fun _ _ _ e => e.elim) p s (x s hs Γ p (hc ▸ hΓ.in) ⟨hc ▸ hb, hcl⟩)
  cases fin with
  | done f => exact ⟨g, o, f, rfl, q⟩
  | again c' =>
    refine ⟨q.1, wpCode_mono (fun r s'' ⟨g', o', q'⟩ => ⟨g'.trans g, o'.trans o, q'⟩) (q.2 s' rfl (Γ.goto c') p' rfl (hΓ.goto c') hcl)⟩

theorem WC.loop {c : Code} {R : Flow → Heap → Prop} (hq : c.quiet = true) (hb : badCode c = false) (I : Nat → Heap → Prop)
    (turn : ∀ n h, I n h → W w (A.under c) ((model prg w).den c) (fun fin h' => match fin with | .done f => R f h' | .again c' => (c' = c ∧ ∃ m, m < n ∧ I m h') ∨ (c'.quiet = true ∧ WC w A c' R h')) h)
    (n : Nat) : ∀ h, I n h → WC w A c R h := by
  induction n using Nat.strongRecOn with
  | ind n ih =>
    intro h hI
    refine WC.tree hb ((turn n h hI).mono fun fin h' q => ?_)
    cases fin with
    | done f => exact q
    | again c' =>
      rcases q with ⟨rfl, m, hm, hI'⟩ | q
      · exact ⟨hq, ih m hm h' hI'⟩
      · exact q
end
end
end Mine

/-! part MBaF -/
namespace Mine
noncomputable section
open PySem PySem.W PyProof.Rows
open Sem (wp)
abbrev ba (b : Array UInt8) : Obj := { cls := .type "bytearray", data := .bytearray b }

namespace Fct
theorem mro : mroOf (.type "bytearray") = pure [.type "bytearray", .type "object"] := by rw [mroOf_type]; kernel_rfl
theorem new : typeLookup (.type "bytearray") "__new__" = pure (some (.builtin "bytearray.__new__")) := by rw [typeLookup_type, builtinLookup_eq_fast]; kernel_rfl
theorem init : Slot "bytearray" "__init__" "bytearray.__init__" :=
  .of (owner := "bytearray") (n := "__init__") (by rw [typeLookup_type, builtinLookup_eq_fast]; kernel_rfl) (by decide +kernel) (by decide +kernel) (by decide +kernel)
    (by first | exact .inl (by decide +kernel) | exact .inr (by decide +kernel)) (by rw [isSubtype_type]; kernel_rfl)
theorem called : TypeCalled "bytearray" "bytearray.__new__" "bytearray.__init__" :=
  ⟨by decide +kernel, by decide +kernel, ⟨_, _, mro⟩, madeBy_type mro new (by decide +kernel), by decide +kernel, by rw [isSubtype_type]; kernel_rfl, init⟩
theorem typeCall (a : Value) : checkTypeCall "bytearray" ⟨[a], []⟩ = pure () := by kernel_rfl
theorem newCall (a : Value) : checkBuiltinCall "bytearray.__new__" ⟨[.type "bytearray", a], []⟩ = pure () := by kernel_rfl
theorem plainNew : plainId "bytearray.__new__" = true := by decide +kernel
theorem plainInit : plainId "bytearray.__init__" = true := by decide +kernel
theorem entryNew : entryFor table "bytearray.__new__" = some Builtin.«list.__new__» := entryFor_alias (id' := "list.__new__") (by rw [fastTable_eq_tree]; kernel_rfl) (by first | rfl | decide +kernel) (by decide +kernel) (by rw [fastTable_eq_tree]; kernel_rfl)
set_option maxRecDepth 1000000 in
set_option maxHeartbeats 4000000 in
theorem ownerNew : ("bytearray.__new__".splitOn ".__new__").headD "" = "bytearray" := by simp +decide [String.splitOn, String.splitOnAux]
theorem entryInit : entryFor table "bytearray.__init__" = some Builtin.«bytearray.__init__» := entryFor_of_tree (by kernel_rfl)
theorem release : typeLookup (.type "bytearray") "__release_buffer__" = pure (some (.builtin "bytearray.__release_buffer__")) := by rw [typeLookup_type, builtinLookup_eq_fast]; kernel_rfl
theorem buffer : typeLookup (.type "bytearray") "__buffer__" = pure (some (.builtin "bytearray.__buffer__")) := by rw [typeLookup_type, builtinLookup_eq_fast]; kernel_rfl
theorem noIndex : typeLookup (.type "bytearray") "__index__" = pure none := by rw [typeLookup_type, builtinLookup_eq_fast]; kernel_rfl
theorem sub : isSubtype (.type "bytearray") (.type "bytearray") = pure true := by rw [isSubtype_type]; kernel_rfl
theorem bind (v : Value) : Builtin.Bytes.bindOptional "bytearray.__init__" "bytearray" ["source", "encoding", "errors"] [v] [] = pure [some v, none, none] := by kernel_rfl
end Fct

section
variable {w : World} {A : Around} {h : Heap}
theorem code_ba_new {s : Shared} {E : Value → Shared → Prop} (a : Value) {Q₁ : Value → Shared → Prop}
    (hq : Q₁ (.ref s.heap.objs.size) { s with heap := s.heap.push (ba #[]) }) :
    codeAny (model prg w) A (.call (.builtin "bytearray.__new__") ⟨[.type "bytearray", a], []⟩) (wants Q₁ E) s := by
  refine codeAny_of_tree ?_
  show wpAny _ A.in1 (do checkBuiltinCall "bytearray.__new__" ⟨[.type "bytearray", a], []⟩; again (.builtin "bytearray.__new__" ⟨[.type "bytearray", a], []⟩)) _ _ s
  refine wpAny_bind (wpAny_of_eq (Fct.newCall a) (wpAny_pure ⟨plainId_quiet Fct.plainNew _, codeAny_builtin_stack Fct.entryNew rfl fun p st => ?_⟩))
  rw [Around.under_plainId Fct.plainNew _]
  have hsub := Fct.sub
  have hown := Fct.ownerNew
  obtain ⟨hp, g, d, tk, os⟩ := s
  simp only [hown]
  wp_walk
  exact hq

theorem type_call_eq {T newId initId : String} {args : List Value} (ft : TypeCalled T newId initId) (hct : checkTypeCall T ⟨args, []⟩ = pure ()) :
    Builtin.«type.__call__» ⟨.type T :: args, []⟩ = (do
      let obj ← holding [.builtin newId] (call (.builtin newId) (.type T :: args) [])
      if !(← isInstance obj (.type T)) then rule "type.call.new-gave-other-type"; return ← ret obj
      match ← holding [obj] (callSpecial? obj "__init__" args []) with
      | none => ret obj
      | some r =>
        if r != .none then
          rule "type.call.init-returned-value"
          raiseError "TypeError" s!"__init__() should return None, not '{← typeNameOf r}'"
        ret obj) := by
  obtain ⟨c, tl, hmro⟩ := ft.mro
  have hmade := ft.made
  have h1 := ft.notType
  have h2 := ft.canCreate
  unfold Builtin.«type.__call__»
  simp only [h1, h2, hct, hmro, hmade, pure_bind, Bool.false_eq_true, if_false, List.isEmpty_cons]
  rfl
end
end
end Mine

/-! part MBa2 -/
namespace Mine
noncomputable section
open PySem PySem.W PyProof.Rows
open Sem (wp)
section
variable {w : World} {A : Around} {h : Heap}

theorem WC.ofAny {c : Code} {R : Flow → Heap → Prop} (x : ∀ s : Shared, s.heap = h → codeAny (model prg w) A c (fun r s' => s'.gens = s.gens ∧ s'.os = s.os ∧ ∃ f, r = .ok f ∧ R f s'.heap) s) : WC w A c R h :=
  fun s hs Γ p hc hΓ _ => x s hs Γ p hc hΓ

theorem den_builtin {id : String} {b : Builtin} {args : Args} (hb : entryFor table id = some b) : (model prg w).den (.builtin id args) = b args := by
  simp only [model, denote, hb]

/-- a call of a plain built-in -/
theorem WC.builtin {id : String} {b : Builtin} {args : Args} {R : Flow → Heap → Prop} (hp : plainId id = true) (hb : entryFor table id = some b) (hbad : badIds.contains id = false)
    (hck : ∀ s : Shared, s.heap = h → ∀ Q : Unit → Shared → Prop, Q () s → wpAny (model prg w) A.in1 (checkBuiltinCall id args) Q (fun _ _ => False) s)
    (x : W w A.in1 (b args) (fun fin h' => match fin with | .done f => R f h' | .again c' => c'.quiet = true ∧ WC w A c' R h') h) : WC w A (.call (.builtin id) args) R h := by
  refine WC.tree rfl ?_
  show W w A.in1 (do checkBuiltinCall id args; again (.builtin id args)) _ h
  refine W.bind (W.of fun s hs => hck s hs _ ⟨rfl, rfl, ?_⟩)
  refine W.pure ⟨plainId_quiet hp _, WC.tree hbad ?_⟩
  rw [Around.under_plainId hp]
  rw [den_builtin hb, hs]
  exact x

theorem callType_W {T newId initId : String} {Bi : Builtin} {args : List Value} {Q Q₁ : Value → Heap → Prop} (ft : TypeCalled T newId initId)
    (hct : checkTypeCall T ⟨args, []⟩ = pure ()) (entryI : entryFor table initId = some Bi) (hbad : badIds.contains initId = false)
    (hnew : WC w A.in1 (.call (.builtin newId) ⟨.type T :: args, []⟩) (fun f h' => ∃ v, f = .ret v ∧ Q₁ v h') h)
    (hnext : ∀ obj h₁, Q₁ obj h₁ → (∀ s : Shared, s.heap = h₁ → s.TypeIs obj T) ∧ argsOk initId ⟨obj :: args, []⟩ ∧ W w A.in1.in1 (Bi ⟨obj :: args, []⟩) (fun fin h' => fin = .done (.ret .none) ∧ Q obj h') h₁) :
    W w A (call (.type T) args) Q h := by
  refine W.call (WC.tree rfl ?_)
  show W w A.in1 (callAny (.type T) _) _ h
  refine W.pure ⟨Code.quiet_builtin _ (by decide +kernel), WC.tree (by show badIds.contains "type.__call__" = false; decide +kernel) ?_⟩
  rw [Around.under_plain (weight_type_call_type T args []) rfl]
  rw [den_builtin F.entry_type_call]
  refine W.cast (type_call_eq ft hct) ?_
  refine W.bind (W.holding (W.call ?_))
  have hmono : ∀ {c : Code} {R R' : Flow → Heap → Prop}, WC w A.in1 c R h → (∀ f h', R f h' → R' f h') → WC w A.in1 c R' h := fun x k s hs Γ p hc hΓ hcl => wpCode_mono (fun r s' ⟨g, o, f, e, q⟩ => ⟨g, o, f, e, k f _ q⟩) (x s hs Γ p hc hΓ hcl)
  refine hmono hnew fun f h₁ ⟨v, e, q⟩ => ⟨v, e, ?_⟩
  obtain ⟨hT, hok, hx⟩ := hnext v h₁ q
  refine W.bind (W.of fun s hs => wpAny_isInstance (hT s hs) ft.sub ⟨rfl, rfl, ?_⟩)
  refine W.iteF rfl ?_
  rw [hs]
  refine W.bind (W.holding ?_)
  unfold callSpecial?
  refine W.bind (W.of fun s hs => wpAny_specialOf (hT s hs) ft.init.lookup ⟨rfl, rfl, ?_⟩)
  rw [hs]
  refine W.holding ?_
  rw [ft.init.bind]
  refine W.bind (W.pure ?_)
  refine W.bind (W.call (WC.builtin ft.init.plain entryI hbad (fun s hs Q hQ => ft.init.check _ _ _ _ _ _ _ _ (hT s hs) hok hQ) (hx.mono fun fin h' q' => ?_)))
  obtain ⟨rfl, q'⟩ := q'
  refine ⟨.none, rfl, W.pure ?_⟩
  refine W.iteF rfl ?_
  exact W.pure ⟨v, rfl, q'⟩
end
end
end Mine

/-! part MBa3 -/
namespace Mine
noncomputable section
open PySem PySem.W PyProof.Rows
open Sem (wp)
section
variable {w : World} {A : Around} {h : Heap}

theorem szl : sizeLine = 16777216 := by decide
theorem typeIs_ba {s : Shared} {a : Addr} {b : Array UInt8} (hs : s.heap.get? a = some (ba b)) : s.TypeIs (.ref a) "bytearray" := ⟨_, hs, rfl⟩

theorem ownRelease_any {s : Shared} {a : Addr} {b : Array UInt8} {E : Value → Shared → Prop} {Q : Bool → Shared → Prop} (hs : s.heap.get? a = some (ba b)) (x : Q false s) : wpAny (model prg w) A (Builtin.Bytes.ownRelease (.ref a)) Q E s := by
  unfold Builtin.Bytes.ownRelease Builtin.Bytes.slotIsOwn
  refine wpAny_bind (wpAny_bind (wpAny_specialOf (typeIs_ba hs) Fct.release ?_))
  refine wpAny_ite_false (by decide +kernel) ?_
  rw [show "bytearray.__release_buffer__".dropRight ("__release_buffer__".length + 1) = "bytearray" by decide +kernel]
  refine wpAny_isInstance (U := "bytearray") (typeIs_ba hs) Fct.sub ?_
  exact wpAny_pure x

theorem exported_W {self : Value} {Q : Bool → Heap → Prop} (x : Q false h) : W w A (Builtin.Bytes.exported self) Q h := fun s hs Γ p hΓ hc => by
  unfold Builtin.Bytes.exported
  have key : ∀ b : Bool, b = false → Q b s.heap := fun b e => by rw [e, hs]; exact x
  have hl : ∀ y ∈ (Γ.code, p) :: Γ.below, badCode y.1 = false := by
    intro y hy
    rcases List.mem_cons.mp hy with rfl | hy
    · exact hc.1
    · exact hc.2 y hy
  refine ⟨rfl, rfl, key _ ?_⟩
  rw [List.any_eq_false]
  intro y hy
  have hb := hl y hy
  split
  · exact absurd (show badIds.contains "bytearray.__contains__" = false from hb) (by decide +kernel)
  · exact absurd (show badIds.contains "bytearray.__mod__" = false from hb) (by decide +kernel)
  · exact absurd (show badIds.contains "bytearray.__rmod__" = false from hb) (by decide +kernel)
  · exact absurd (show badIds.contains "_struct.pack_into.held" = false from hb) (by decide +kernel)
  · exact absurd (show badIds.contains "bytearray.find.held" = false from hb) (by decide +kernel)
  · rename_i id v _ _ _ _ _ _ _ _
    have this : badIds.contains id = false := hb
    unfold badIds at this
    simp only [List.contains_eq_mem, List.mem_append, decide_eq_false_iff_not, not_or] at this
    simp [this.2]
  · simp

theorem write_any {s : Shared} {a : Addr} {b : Array UInt8} {f : Array UInt8 → Array UInt8} {E : Value → Shared → Prop} {Q : Unit → Shared → Prop} (hs : s.heap.get? a = some (ba b)) (hz : (f b).size ≤ sizeLine)
    (x : Q () { s with heap := s.heap.update a (Obj.mapBytearray f) }) : wpAny (model prg w) A (Builtin.Bytes.write (.ref a) f) Q E s := by
  show wpAny _ _ (updateBytearray a f) _ _ _
  unfold updateBytearray
  refine wpAny_bind (wpAny_load hs ?_)
  refine wpAny_bind (wpAny_update hs ?_)
  have e : (s.heap.update a (Obj.mapBytearray f)).get? a = some (ba (f b)) := Heap.get?_update_self (Obj.mapBytearray f) hs rfl
  refine wpAny_lookBehind (s := { s with heap := s.heap.update a (Obj.mapBytearray f) }) e ?_ x
  show (if (f b).size > sizeLine then some "bytearray:memory" else none) = none
  rw [if_neg]
  omega

theorem or_F {a b : Sem Bool} {Q : Bool → Heap → Prop} (x : W w A a (fun c h' => c = false ∧ W w A b Q h') h) : W w A (a <||> b) Q h := by
  refine W.bind (x.mono fun c h' q => ?_)
  obtain ⟨rfl, q⟩ := q
  exact q


theorem upd_ba {h : Heap} {a : Addr} {b : Array UInt8} {f : Array UInt8 → Array UInt8} (hs : h.get? a = some (ba b)) : (h.update a (Obj.mapBytearray f)).get? a = some (ba (f b)) := Heap.get?_update_self (Obj.mapBytearray f) hs rfl

theorem init_int {a : Addr} {n : Int} {t : Tok} {Q : Heap → Prop} (hs : h.get? a = some (ba #[])) (h0 : 0 ≤ n) (h1 : n ≤ 1000000)
    (x : ∀ h', Heap.SameBut a h h' → h'.get? a = some (ba (Array.replicate n.toNat 0)) → Q h') :
    W w A (Builtin.«bytearray.__init__» ⟨[.ref a, .int n t], []⟩) (fun fin h' => fin = .done (.ret .none) ∧ Q h') h := by
  unfold Builtin.«bytearray.__init__»
  dsimp only
  refine W.bind (W.of fun s e => ownRelease_any (b := #[]) (e ▸ hs) ⟨rfl, rfl, ?_⟩)
  refine W.iteF rfl ?_
  refine W.bind (W.eq (Fct.bind _) ?_)
  dsimp only
  refine W.bind (W.eq (a := ()) rfl ?_)
  refine W.bind (W.eq (a := ()) rfl ?_)
  refine W.bind (or_F (exported_W ⟨rfl, ?_⟩))
  refine W.bind ?_
  unfold Builtin.Bytes.exportsOf
  rw [e]
  refine W.bind (W.load hs ?_)
  refine W.pure (W.pure ?_)
  refine W.iteF rfl ?_
  refine W.bind (W.of fun s e => write_any (b := #[]) (e ▸ hs) (Nat.zero_le _) ⟨rfl, rfl, ?_⟩)
  rw [e]
  have hs' : (h.update a (Obj.mapBytearray fun _ => #[])).get? a = some (ba #[]) := Heap.get?_update_self (Obj.mapBytearray fun _ => #[]) hs rfl
  show W w A _ _ (h.update a (Obj.mapBytearray fun _ => #[]))
  have sb : Heap.SameBut a h (h.update a (Obj.mapBytearray fun _ => #[])) := Heap.SameBut.update ..
  generalize h.update a (Obj.mapBytearray fun _ => #[]) = h₁ at hs' sb ⊢
  refine W.bind (W.eq (a := none) rfl ?_)
  refine W.iteF rfl ?_
  refine W.bind (W.eq (a := ()) rfl ?_)
  refine W.bind (W.of fun s e => wpAny_specialOf (T := "int") rfl int_index ⟨rfl, rfl, ?_⟩)
  rw [e]
  refine W.iteT rfl ?_
  refine W.bind (W.eq (a := .ok n) rfl ?_)
  dsimp only
  refine W.iteF (by simp [Builtin.Bytes.fitsIndex]; omega) ?_
  refine W.ite ?_
  rw [if_neg (by omega)]
  refine W.iteF (by simp; omega) ?_
  refine W.iteF (by simp only [Builtin.Bytes.tooLong, decide_eq_false_iff_not, szl]; omega) ?_
  refine W.bind (W.of fun s e => wpAny_rule ⟨rfl, rfl, ?_⟩)
  rw [e]
  refine W.ite ?_
  by_cases hn : n > 0
  · rw [if_pos hn]
    refine W.bind (W.of fun s e' => write_any (b := #[]) (by rw [e']; exact hs') (by simp only [Array.size_replicate, szl]; omega) ⟨rfl, rfl, ?_⟩)
    refine W.pure ⟨rfl, x _ ?_ ?_⟩
    · rw [e']; exact sb.trans (Heap.SameBut.update ..)
    · rw [e']; exact upd_ba hs'
  · rw [if_neg hn]
    refine W.pure ⟨rfl, x _ ?_ ?_⟩
    · exact sb
    · have : n.toNat = 0 := by omega
      rw [this]; exact hs'

theorem tw {p : Value → Bool} : ∀ {vs : List Value} {ns : List Int}, IntsAre vs ns → (∀ n ∈ ns, 0 ≤ n ∧ n < 256) → (∀ i t, p (.int i t) = (decide (0 ≤ i) && decide (i < 256))) → vs.takeWhile p = vs
  | _, _, .nil, _, _ => rfl
  | _, _, .cons n t (vs := vs) (ns := ns) r, hr, hp => by
    obtain ⟨h0, h1⟩ := hr n (.head _)
    rw [List.takeWhile_cons_of_pos (by rw [hp]; simp; omega), tw r (fun m hm => hr m (.tail _ hm)) hp]
theorem fm {f : Value → Option UInt8} : ∀ {vs : List Value} {ns : List Int}, IntsAre vs ns → (∀ i t, f (.int i t) = some i.toNat.toUInt8) → vs.filterMap f = ns.map fun n => n.toNat.toUInt8
  | _, _, .nil, _ => rfl
  | _, _, .cons n t (vs := vs) (ns := ns) r, hp => by rw [List.filterMap_cons, hp, fm r hp]; rfl

theorem init_list {a l : Addr} {vs : List Value} {ns : List Int} {Q : Heap → Prop} (hs : h.get? a = some (ba #[])) (hl : h.IsList l vs.toArray) (hi : IntsAre vs ns) (hr : ∀ n ∈ ns, 0 ≤ n ∧ n < 256) (hz : ns.length ≤ 1000000)
    (x : ∀ h', Heap.SameBut a h h' → h'.get? a = some (ba (ns.map fun n => n.toNat.toUInt8).toArray) → Q h') :
    W w A (Builtin.«bytearray.__init__» ⟨[.ref a, .ref l], []⟩) (fun fin h' => fin = .done (.ret .none) ∧ Q h') h := by
  unfold Builtin.«bytearray.__init__»
  dsimp only
  refine W.bind (W.of fun s e => ownRelease_any (b := #[]) (e ▸ hs) ⟨rfl, rfl, ?_⟩)
  refine W.iteF rfl ?_
  refine W.bind (W.eq (Fct.bind _) ?_)
  dsimp only
  refine W.bind (W.eq (a := ()) rfl ?_)
  refine W.bind (W.eq (a := ()) rfl ?_)
  refine W.bind (or_F (exported_W ⟨rfl, ?_⟩))
  refine W.bind ?_
  unfold Builtin.Bytes.exportsOf
  rw [e]
  refine W.bind (W.load hs ?_)
  refine W.pure (W.pure ?_)
  refine W.iteF rfl ?_
  refine W.bind (W.of fun s e => write_any (b := #[]) (e ▸ hs) (Nat.zero_le _) ⟨rfl, rfl, ?_⟩)
  rw [e]
  have hs' : (h.update a (Obj.mapBytearray fun _ => #[])).get? a = some (ba #[]) := Heap.get?_update_self (Obj.mapBytearray fun _ => #[]) hs rfl
  show W w A _ _ (h.update a (Obj.mapBytearray fun _ => #[]))
  have sb : Heap.SameBut a h (h.update a (Obj.mapBytearray fun _ => #[])) := Heap.SameBut.update ..
  generalize h.update a (Obj.mapBytearray fun _ => #[]) = h₁ at hs' sb ⊢
  have hla : l ≠ a := by
    rintro rfl
    obtain ⟨o, ho, hc, _⟩ := hl
    rw [hs] at ho; cases ho; exact absurd hc (by decide)
  have hl' : h₁.IsList l vs.toArray := hl.extBut sb.extBut hla
  have hT : ∀ s : Shared, s.heap = h₁ → s.TypeIs (.ref l) "list" := fun s e => Heap.IsList.typeIs (e ▸ hl')
  obtain ⟨ol, hol, hoc, nl, hod⟩ := id hl'
  refine W.bind ?_
  unfold asStr?
  refine W.bind (W.load hol ?_)
  rw [hod]
  refine W.pure ?_
  refine W.iteF rfl ?_
  refine W.bind (W.eq (a := ()) rfl ?_)
  refine W.bind (W.of fun s e => wpAny_specialOf (hT s e) F.bm_no_index ⟨rfl, rfl, ?_⟩)
  refine W.iteF rfl ?_
  refine W.bind ?_
  unfold Builtin.Bytes.buffer?
  rw [e]
  refine W.bind (W.of fun s e => wpAny_specialOf (hT s e) F.bm_no_buffer ⟨rfl, rfl, ?_⟩)
  dsimp only
  rw [e]
  refine W.bind (W.of fun s e => wpAny_specialOf (hT s e) F.bm_no_buffer ⟨rfl, rfl, ?_⟩)
  dsimp only
  rw [e]
  refine W.pure ?_
  dsimp only
  refine W.bind (W.of fun s e => wpAny_typeOf (hT s e) ⟨rfl, rfl, ?_⟩)
  refine W.iteT (by decide) ?_
  rw [e]
  refine W.bind ?_
  unfold seqItems?
  refine W.bind (W.load hol ?_)
  rw [hod]
  refine W.pure ?_
  dsimp only
  rw [tw hi hr ?hp, fm hi ?hf]
  case hp => intros; rfl
  case hf => intros; rfl
  rw [show vs.toArray[vs.length]? = none by simp]
  dsimp only
  refine W.bind (W.of fun s e => wpAny_rule ⟨rfl, rfl, ?_⟩)
  rw [e]
  refine W.bind (W.of fun s e' => write_any (b := #[]) (by rw [e']; exact hs') (by simp only [List.size_toArray, List.length_map, szl]; omega) ⟨rfl, rfl, ?_⟩)
  rw [e']
  exact W.pure ⟨rfl, x _ (sb.trans (Heap.SameBut.update ..)) (upd_ba hs')⟩

theorem init_ba {a c : Addr} {b : Array UInt8} {Q : Heap → Prop} (hs : h.get? a = some (ba #[])) (hl : h.get? c = some (ba b)) (hca : c ≠ a) (hz : b.size ≤ 1000000)
    (x : ∀ h', Heap.SameBut a h h' → h'.get? a = some (ba b) → Q h') :
    W w A (Builtin.«bytearray.__init__» ⟨[.ref a, .ref c], []⟩) (fun fin h' => fin = .done (.ret .none) ∧ Q h') h := by
  unfold Builtin.«bytearray.__init__»
  dsimp only
  refine W.bind (W.of fun s e => ownRelease_any (b := #[]) (e ▸ hs) ⟨rfl, rfl, ?_⟩)
  refine W.iteF rfl ?_
  refine W.bind (W.eq (Fct.bind _) ?_)
  dsimp only
  refine W.bind (W.eq (a := ()) rfl ?_)
  refine W.bind (W.eq (a := ()) rfl ?_)
  refine W.bind (or_F (exported_W ⟨rfl, ?_⟩))
  refine W.bind ?_
  unfold Builtin.Bytes.exportsOf
  rw [e]
  refine W.bind (W.load hs ?_)
  refine W.pure (W.pure ?_)
  refine W.iteF rfl ?_
  refine W.bind (W.of fun s e => write_any (b := #[]) (e ▸ hs) (Nat.zero_le _) ⟨rfl, rfl, ?_⟩)
  rw [e]
  have hs' : (h.update a (Obj.mapBytearray fun _ => #[])).get? a = some (ba #[]) := Heap.get?_update_self (Obj.mapBytearray fun _ => #[]) hs rfl
  show W w A _ _ (h.update a (Obj.mapBytearray fun _ => #[]))
  have sb : Heap.SameBut a h (h.update a (Obj.mapBytearray fun _ => #[])) := Heap.SameBut.update ..
  generalize h.update a (Obj.mapBytearray fun _ => #[]) = h₁ at hs' sb ⊢
  have hl' : h₁.get? c = some (ba b) := (sb.2 c hca).trans hl
  have hT : ∀ s : Shared, s.heap = h₁ → s.TypeIs (.ref c) "bytearray" := fun s e => typeIs_ba (e ▸ hl')
  refine W.bind ?_
  unfold asStr?
  refine W.bind (W.load hl' ?_)
  refine W.pure ?_
  refine W.iteF rfl ?_
  refine W.bind (W.eq (a := ()) rfl ?_)
  refine W.bind (W.of fun s e => wpAny_specialOf (hT s e) Fct.noIndex ⟨rfl, rfl, ?_⟩)
  refine W.iteF rfl ?_
  refine W.bind ?_
  unfold Builtin.Bytes.buffer?
  rw [e]
  refine W.bind (W.of fun s e => wpAny_specialOf (hT s e) Fct.buffer ⟨rfl, rfl, ?_⟩)
  dsimp only
  rw [e]
  refine W.bind (W.of fun s e => ?_)
  unfold Builtin.Bytes.slotIsOwn
  refine wpAny_bind (wpAny_specialOf (hT s e) Fct.buffer ?_)
  refine wpAny_ite_false (by decide +kernel) ?_
  rw [show "bytearray.__buffer__".dropRight ("__buffer__".length + 1) = "bytearray" by decide +kernel]
  refine wpAny_isInstance (U := "bytearray") (hT s e) Fct.sub ⟨rfl, rfl, ?_⟩
  refine W.iteF rfl ?_
  rw [e]
  refine W.bind (W.of fun s e => wpAny_specialOf (hT s e) Fct.buffer ⟨rfl, rfl, ?_⟩)
  rw [e]
  refine W.bind (W.of fun s e => ownRelease_any (b := b) (e ▸ hl') ⟨rfl, rfl, ?_⟩)
  refine W.iteF rfl ?_
  rw [e]
  refine W.bind ?_
  unfold Builtin.Bytes.payload Builtin.Bytes.payload?
  refine W.bind (W.bind (W.load hl' ?_))
  refine W.pure ?_
  refine W.pure ?_
  refine W.pure ?_
  dsimp only
  refine W.bind (W.of fun s e => wpAny_rule ⟨rfl, rfl, ?_⟩)
  rw [e]
  refine W.bind (W.of fun s e' => write_any (b := #[]) (by rw [e']; exact hs') (by simp only [szl]; omega) ⟨rfl, rfl, ?_⟩)
  rw [e']
  exact W.pure ⟨rfl, x _ (sb.trans (Heap.SameBut.update ..)) (upd_ba hs')⟩
end
end
end Mine

/-! part MFm -/
namespace Mine
noncomputable section
open PySem PySem.W PyProof.Rows
open Sem (wp)
/-- all that stood stands -/
def Ext (h h' : Heap) : Prop := ∀ b o, h.get? b = some o → h'.get? b = some o
theorem Ext.refl (h : Heap) : Ext h h := fun _ _ e => e
theorem Ext.trans {a b c : Heap} (x : Ext a b) (y : Ext b c) : Ext a c := fun q o e => y q o (x q o e)
theorem Ext.push (h : Heap) (o : Obj) : Ext h (h.push o) := fun b o' e => Heap.get?_push_of_some _ e
theorem Ext.size {h h' : Heap} (x : Ext h h') {a : Addr} {o : Obj} (e : h.get? a = some o) : a < h'.objs.size := Heap.lt_size (x a o e)

section
variable {w : World} {A : Around} {h : Heap}

theorem ba_new {v : Value} {Q : Value → Heap → Prop}
    (x : ∀ (b : Addr) (h₁ : Heap), b = h.objs.size → h₁ = h.push (ba #[]) → argsOk "bytearray.__init__" ⟨[.ref b, v], []⟩ ∧ W w A.in1.in1 (Builtin.«bytearray.__init__» ⟨[.ref b, v], []⟩) (fun fin h' => fin = .done (.ret .none) ∧ Q (.ref b) h') h₁) : W w A (call (.type "bytearray") [v]) Q h := by
  refine callType_W (Q₁ := fun obj h₁ => obj = .ref h.objs.size ∧ h₁ = h.push (ba #[])) Fct.called (Fct.typeCall v) Fct.entryInit (by decide +kernel) (WC.ofAny fun s hs => ?_) ?_
  · refine codeAny_mono (code_ba_new (E := fun _ _ => False) (Q₁ := fun v s' => s'.gens = s.gens ∧ s'.os = s.os ∧ v = .ref h.objs.size ∧ s'.heap = h.push (ba #[])) v ⟨rfl, rfl, by rw [hs], by rw [hs]⟩) fun r s' q => ?_
    cases r with
    | error e => exact q.elim
    | ok f =>
      cases f with
      | ret v => exact ⟨q.1, q.2.1, _, rfl, v, rfl, q.2.2⟩
      | _ => exact q.elim
  · rintro obj h₁ ⟨rfl, rfl⟩
    have e : (h.push (ba #[])).get? h.objs.size = some (ba #[]) := Heap.get?_push_size _ rfl
    exact ⟨fun s hs => ⟨_, hs ▸ e, rfl⟩, x _ _ rfl rfl⟩

theorem args_init (a b : Value) : argsOk "bytearray.__init__" ⟨[a, b], []⟩ := by unfold argsOk; kernel_rfl

theorem same_ext {h₀ h₁ h' : Heap} {a : Addr} (x : Ext h₀ h₁) (ha : h₀.get? a = none) (sb : Heap.SameBut a h₁ h') : Ext h₀ h' := fun b o e => by
  refine (sb.2 b fun q => ?_).trans (x b o e)
  rw [q, ha] at e; cases e
theorem get_size (h : Heap) : h.get? h.objs.size = none := by
  cases e : h.get? h.objs.size with
  | none => rfl
  | some o => exact absurd (Heap.lt_size e) (Nat.lt_irrefl _)

theorem baInt_W {n : Int} {t : Tok} {Q : Value → Heap → Prop} (h0 : 0 ≤ n) (h1 : n ≤ 1000000)
    (x : ∀ r h', Ext h h' → h.objs.size ≤ r → h'.get? r = some (ba (Array.replicate n.toNat 0)) → Q (.ref r) h') : W w A (call (.type "bytearray") [.int n t]) Q h := by
  refine ba_new fun b h₁ eb e1 => ⟨args_init _ _, ?_⟩
  subst eb e1
  refine init_int (Heap.get?_push_size _ rfl) h0 h1 fun h' sb e => x _ _ (same_ext (Ext.push _ _) (get_size h) sb) (Nat.le_refl _) e
theorem baList_W {l : Addr} {vs : List Value} {ns : List Int} {Q : Value → Heap → Prop} (hl : h.IsList l vs.toArray) (hi : IntsAre vs ns) (hr : ∀ n ∈ ns, 0 ≤ n ∧ n < 256) (hz : ns.length ≤ 1000000)
    (x : ∀ r h', Ext h h' → h.objs.size ≤ r → h'.get? r = some (ba (ns.map fun n => n.toNat.toUInt8).toArray) → Q (.ref r) h') : W w A (call (.type "bytearray") [.ref l]) Q h := by
  refine ba_new fun b h₁ eb e1 => ⟨args_init _ _, ?_⟩
  subst eb e1
  refine init_list (Heap.get?_push_size _ rfl) (hl.push _) hi hr hz fun h' sb e => x _ _ (same_ext (Ext.push _ _) (get_size h) sb) (Nat.le_refl _) e
theorem baBa_W {c : Addr} {b : Array UInt8} {Q : Value → Heap → Prop} (hl : h.get? c = some (ba b)) (hz : b.size ≤ 1000000)
    (x : ∀ r h', Ext h h' → h.objs.size ≤ r → h'.get? r = some (ba b) → Q (.ref r) h') : W w A (call (.type "bytearray") [.ref c]) Q h := by
  refine ba_new fun b h₁ eb e1 => ⟨args_init _ _, ?_⟩
  subst eb e1
  refine init_ba (Heap.get?_push_size _ rfl) (Heap.get?_push_of_some _ hl) (Nat.ne_of_lt (Heap.lt_size hl)) hz fun h' sb e => x _ _ (same_ext (Ext.push _ _) (get_size h) sb) (Nat.le_refl _) e
end

/-- a frame: its names (the newest first), what it made, what stood before it -/
structure Fm (B : Heap) (L : Addr) (h : Heap) (bs : List (Str × Value)) (os : List (Addr × Obj)) : Prop where
  ns : ∃ m, h.Ns L m ∧ ∀ x v, bs.lookup x = some v → m x = some v
  keep : Ext B h
  above : B.objs.size ≤ L
  objs : ∀ p ∈ os, h.get? p.1 = some p.2 ∧ p.1 ≠ L ∧ B.objs.size ≤ p.1
  nd : (os.map (·.1)).Nodup

section
variable {w : World} {A : Around} {B h h' : Heap} {L : Addr} {bs bs' : List (Str × Value)} {os os' : List (Addr × Obj)}

theorem Fm.ltL (F : Fm B L h bs os) : L < h.objs.size := F.ns.choose_spec.1.lt
theorem Fm.ext (F : Fm B L h bs os) (x : Ext h h') : Fm B L h' bs os :=
  ⟨let ⟨m, a, b⟩ := F.ns; ⟨m, a.keeps x, b⟩, F.keep.trans x, F.above, fun p hp => ⟨x _ _ (F.objs p hp).1, (F.objs p hp).2⟩, F.nd⟩
theorem Fm.new (F : Fm B L h bs os) (x : Ext h h') {r : Addr} {o : Obj} (hr : h.objs.size ≤ r) (e : h'.get? r = some o) : Fm B L h' bs ((r, o) :: os) := by
  have F' := F.ext x
  refine ⟨F'.ns, F'.keep, F'.above, fun p hp => ?_, ?_⟩
  · rcases List.mem_cons.mp hp with rfl | hp
    · exact ⟨e, Nat.ne_of_gt (Nat.lt_of_lt_of_le F.ltL hr), Nat.le_trans (Nat.le_of_lt (Nat.lt_of_le_of_lt F.above F.ltL)) hr⟩
    · exact F'.objs p hp
  · refine List.nodup_cons.mpr ⟨fun hm => ?_, F.nd⟩
    obtain ⟨p, hp, e'⟩ := List.mem_map.mp hm
    have l1 := Heap.lt_size (F.objs p hp).1
    have e2 : p.1 = r := e'
    rw [e2] at l1
    exact absurd l1 (Nat.not_lt.mpr hr)
theorem Fm.push (F : Fm B L h bs os) (o : Obj) (hf : o.isFreed = false := by rfl) : Fm B L (h.push o) bs ((h.objs.size, o) :: os) := F.new (Ext.push _ _) (Nat.le_refl _) (Heap.get?_push_size _ hf)
theorem Fm.get (F : Fm B L h bs os) {a : Addr} {o : Obj} (hm : (a, o) ∈ os) : h.get? a = some o := (F.objs _ hm).1
theorem Fm.base (F : Fm B L h bs os) {a : Addr} {o : Obj} (e : B.get? a = some o) : h.get? a = some o := F.keep _ _ e
/-- fewer names, fewer objects -/
theorem Fm.less (F : Fm B L h bs os) (hb : ∀ x v, bs'.lookup x = some v → bs.lookup x = some v) (hs : List.Sublist os' os) : Fm B L h bs' os' :=
  ⟨let ⟨m, a, b⟩ := F.ns; ⟨m, a, fun x v e => b x v (hb x v e)⟩, F.keep, F.above, fun p hp => F.objs p (hs.subset hp), F.nd.sublist (hs.map _)⟩
theorem Fm.names (F : Fm B L h bs os) (hb : ∀ x v, bs'.lookup x = some v → bs.lookup x = some v) : Fm B L h bs' os := F.less hb (.refl _)
theorem Fm.perm (F : Fm B L h bs os) (hp : os.Perm os') : Fm B L h bs os' :=
  ⟨F.ns, F.keep, F.above, fun p h => F.objs p (hp.mem_iff.mpr h), (hp.map _).nodup_iff.mp F.nd⟩
theorem Fm.set (F : Fm B L h bs os) {x : Str} {v : Value} (hn : ∀ m, h.Ns L m → h'.Ns L (fun y => if y = x then some v else m y)) (hs : Heap.SameBut L h h') : Fm B L h' ((x, v) :: bs) os := by
  obtain ⟨m, a, b⟩ := F.ns
  refine ⟨⟨_, hn m a, fun y u e => ?_⟩, fun b o e => (hs.2 b (Nat.ne_of_lt (Nat.lt_of_lt_of_le (Heap.lt_size e) F.above))).trans (F.keep b o e), F.above, fun p hp => ⟨(hs.2 _ (F.objs p hp).2.1).trans (F.objs p hp).1, (F.objs p hp).2⟩, F.nd⟩
  rw [List.lookup_cons] at e
  by_cases q : y = x
  · subst q; simpa using e
  · have q' : (y == x) = false := beq_eq_false_iff_ne.mpr q
    rw [q'] at e
    simp only [q, if_false]
    exact b y u e
/-- an object of the frame's own turns -/
theorem Fm.upd (F : Fm B L h bs ((a, o) :: os)) {f : Obj → Obj} {o' : Obj} (e : f o = o') (hf : o'.isFreed = false := by rfl) : Fm B L (h.update a f) bs ((a, o') :: os) := by
  have D := F.objs _ (.head _)
  have hnd := List.nodup_cons.mp F.nd
  obtain ⟨m, ⟨oL, es, ep, hL, r⟩, b⟩ := F.ns
  refine ⟨⟨m, ⟨oL, es, ep, (Heap.get?_update_ne _ _ _ _ (Ne.symm D.2.1)).trans hL, r⟩, b⟩, fun b x q => (Heap.get?_update_ne _ _ _ _ fun z => ?_).trans (F.keep b x q), F.above, fun p hp => ?_, F.nd⟩
  · have l1 : B.objs.size ≤ a := D.2.2
    have l2 := Heap.lt_size q
    rw [z] at l2
    exact absurd l2 (Nat.not_lt.mpr l1)
  · rcases List.mem_cons.mp hp with rfl | hp
    · exact ⟨e ▸ Heap.get?_update_self _ D.1 (e ▸ hf), D.2⟩
    · have P := F.objs p (.tail _ hp)
      exact ⟨(Heap.get?_update_ne _ _ _ _ fun z => hnd.1 (List.mem_map.mpr ⟨p, hp, z⟩)).trans P.1, P.2⟩
/-- the same by what it keeps -/
theorem Fm.turn (F : Fm B L h bs ((a, o) :: os)) {o' : Obj} (sb : Heap.SameBut a h h') (e : h'.get? a = some o') : Fm B L h' bs ((a, o') :: os) := by
  have D := F.objs _ (.head _)
  have hnd := List.nodup_cons.mp F.nd
  obtain ⟨m, ⟨oL, es, ep, hL, r⟩, b⟩ := F.ns
  refine ⟨⟨m, ⟨oL, es, ep, (sb.2 _ (Ne.symm D.2.1)).trans hL, r⟩, b⟩, fun b x q => (sb.2 _ fun z => ?_).trans (F.keep b x q), F.above, fun p hp => ?_, F.nd⟩
  · have l1 : B.objs.size ≤ a := D.2.2
    have l2 := Heap.lt_size q
    rw [z] at l2
    exact absurd l2 (Nat.not_lt.mpr l1)
  · rcases List.mem_cons.mp hp with rfl | hp
    · exact ⟨e, D.2⟩
    · have P := F.objs p (.tail _ hp)
      exact ⟨(sb.2 _ fun z => hnd.1 (List.mem_map.mpr ⟨p, hp, z⟩)).trans P.1, P.2⟩
end
end
end Mine

/-! part MRul -/
namespace Mine
noncomputable section
open PySem PySem.W PyProof.Rows
open Sem (wp)
section
variable {w : World} {A : Around} {h : Heap} {env : Env}

/-! statements -/
theorem rNil {Q : Flow → Heap → Prop} (x : Q .next h) : W w A (execs [] env) Q h := W.pure x
theorem rCons {st rest} {Q : Flow → Heap → Prop} (x : W w A (exec st env) (fun f h' => match f with | .next => W w A (execs rest env) Q h' | f => Q f h') h) : W w A (execs (st :: rest) env) Q h := by
  rw [execs_cons]
  refine W.bind (x.mono fun f h' q => ?_)
  cases f <;> first | exact q | exact W.pure q
/-- a statement that falls through -/
theorem rSeq {st rest} {Q : Flow → Heap → Prop} (x : W w A (exec st env) (fun f h' => f = .next ∧ W w A (execs rest env) Q h') h) : W w A (execs (st :: rest) env) Q h :=
  rCons (x.mono fun f h' q => by obtain ⟨rfl, q⟩ := q; exact q)

theorem rAssign {x pos' value pos} {Q : Flow → Heap → Prop} (y : W w A (eval value env) (fun v h₁ => W w A (storeName env x v) (fun _ => Q .next) h₁) h)
    (hs : swapsWith value (some (.Name x pos')) pos.line env = pure false := by rfl) : W w A (exec (.Assign [.Name x pos'] value pos) env) Q h := by
  rw [exec_Assign_Name env x pos' value pos hs]
  exact W.bind (W.standAt (W.bind (y.mono fun v h₁ q => W.bind (W.standAt (W.bind (W.bindName (q.mono fun _ _ e => W.pure e)))))))
theorem rAugName {x pos' op value pos} {Q : Flow → Heap → Prop}
    (y : W w A (loadName env x) (fun old h₁ => W w A (eval value env) (fun v h₂ => W w A (inplaceOp op old v) (fun r h₃ => W w A (storeName env x r) (fun _ => Q .next) h₃) h₂) h₁) h) :
    W w A (exec (.AugAssign (.Name x pos') op value pos) env) Q h := by
  rw [exec_AugAssign_Name]
  exact W.bind (W.standAt (W.bind (y.mono fun old h₁ q => W.bind (W.holding (q.mono fun v h₂ q => W.bind (W.standAt (W.bind (W.operate (q.mono fun r h₃ q => W.bind (W.standAt (W.bind (W.bindName (q.mono fun _ _ e => W.pure e)))))))))))))
theorem rStoreSub {o i pos' value pos} {Q : Flow → Heap → Prop}
    (y : W w A (eval value env) (fun v h₁ => W w A (eval o env) (fun ov h₂ => W w A (eval i env) (fun iv h₃ => W w A (setItem ov iv v) (fun _ => Q .next) h₃) h₂) h₁) h)
    (hs : swapsWith value (some (.Subscript o i pos')) pos.line env = pure false := by rfl) : W w A (exec (.Assign [.Subscript o i pos'] value pos) env) Q h := by
  rw [exec_Assign_Subscript o i pos' value pos hs]
  refine W.bind (W.standAt (W.bind (y.mono fun v h₁ q => W.bind ?_)))
  rw [arm_assign_Subscript]
  refine W.bind (W.holding (q.mono fun ov h₂ q => ?_))
  refine W.bind (W.holding (q.mono fun iv h₃ q => ?_))
  refine W.bind (W.standAt ?_)
  exact W.bind (W.holding (q.mono fun _ h₄ q => W.release (W.pure q)))
theorem rAugSub {o i pos' op value pos} {Q : Flow → Heap → Prop}
    (y : W w A (eval o env) (fun ov h₁ => W w A (eval i env) (fun iv h₂ => W w A (getItem ov iv) (fun old h₃ =>
      W w A (eval value env) (fun v h₄ => W w A (inplaceOp op old v) (fun new h₅ => W w A (setItem ov iv new) (fun _ => Q .next) h₅) h₄) h₃) h₂) h₁) h)
    (ha : ∀ ov iv new, augStore i ov iv new = (do holding [new, ov, iv] (setItem ov iv new); release [new, ov, iv] []; pure .next) := by intro _ _ _; rfl) :
    W w A (exec (.AugAssign (.Subscript o i pos') op value pos) env) Q h := by
  have e : exec (.AugAssign (.Subscript o i pos') op value pos) env = (do
      standAt pos
      let ov ← eval o env
      let iv ← holding [ov] (eval i env)
      let new ← holding [ov, iv] do
        standAt pos'
        let old ← getItem ov iv
        let v ← holding [old] (eval value env)
        standAt pos
        operate [old, v] (inplaceOp op old v)
      standAt pos'
      augStore i ov iv new) := rfl
  rw [e]
  refine W.bind (W.standAt (W.bind (y.mono fun ov h₁ q => ?_)))
  refine W.bind (W.holding (q.mono fun iv h₂ q => ?_))
  refine W.bind (W.holding ?_)
  refine W.bind (W.standAt ?_)
  refine W.bind (q.mono fun old h₃ q => ?_)
  refine W.bind (W.holding (q.mono fun v h₄ q => ?_))
  refine W.bind (W.standAt ?_)
  refine W.operate (q.mono fun new h₅ q => ?_)
  refine W.bind (W.standAt ?_)
  rw [ha]
  exact W.bind (W.holding (q.mono fun _ h₆ q => W.bind (W.release (W.pure q))))
theorem rIf {test body orelse pos} {Q : Flow → Heap → Prop}
    (y : W w A (isTrue test env (eval test env)) (fun b h₂ => if b then W w A (execs body env) Q h₂ else W w A (execs orelse env) Q h₂) h) : W w A (exec (.If test body orelse pos) env) Q h := by
  rw [exec_If]
  refine W.bind (W.standAt (W.bind (y.mono fun b h₂ q => ?_)))
  cases b <;> exact q
theorem rReturn {e pos} {Q : Flow → Heap → Prop} (y : W w A (eval e env) (fun v => Q (.ret v)) h) : W w A (exec (.Return (some e) pos) env) Q h := by
  rw [exec_Return_some]
  exact W.bind (W.standAt (W.bind (y.mono fun v h₁ q => W.pure q)))
theorem rBreak {pos} {Q : Flow → Heap → Prop} (y : Q .brk h) : W w A (exec (.Break pos) env) Q h := by
  rw [arm_exec_Break]; exact W.bind (W.standAt (W.pure y))
theorem rExpr {e pos} {Q : Flow → Heap → Prop} (y : W w A (eval e env) (fun _ => Q .next) h) (hi : interactive env = false := by rfl) (hs : swapsWith e none pos.line env = pure false := by rfl) :
    W w A (exec (.Expr e pos) env) Q h := by
  rw [exec_Expr env e pos hi hs]
  exact W.bind (W.standAt (W.bind (y.mono fun v h₁ q => W.of fun s hs => wpAny_dropValue ⟨rfl, rfl, hs ▸ q⟩)))

theorem rWhile {test body pos} {Q : Flow → Heap → Prop} (I : Nat → Heap → Prop) (n : Nat)
    (turn : ∀ n h, I n h → W w A (isTrue test env (eval test env)) (fun b h₂ => if b then W w A (execs body env) (fun f h₃ => match f with
            | .next | .cont => ∃ m, m < n ∧ I m h₃
            | .brk => Q .next h₃
            | .ret v => Q (.ret v) h₃) h₂ else Q .next h₂) h)
    (hi : I n h) : W w A (exec (.While test body [] pos) env) Q h := by
  rw [exec_While]
  refine W.bind (W.standAt (W.runOwn (WC.loop rfl rfl I (fun n h hI => ?_) n h hi)))
  show W w A ((whileTurn test body [] env).onRaise _) _ h
  refine W.onRaise ?_
  unfold whileTurn
  refine W.bind ((turn n h hI).mono fun b h₂ q => ?_)
  cases b with
  | false => exact W.bind (rNil (W.pure q))
  | true =>
    rw [if_pos rfl] at q
    refine W.bind (W.mono q fun f h₃ q => ?_)
    cases f with
    | next => exact W.pure (.inl ⟨rfl, q⟩)
    | cont => exact W.pure (.inl ⟨rfl, q⟩)
    | brk => exact W.pure q
    | ret v => exact W.pure q

/-- a for over an iterator: n turns -/
theorem rForLoop {target it body} {Q : Flow → Heap → Prop} (n : Nat) (I : Nat → Heap → Prop)
    (turn : ∀ i h, i < n → I i h → W w A (pyNext it) (fun r h₁ => ∃ v, r = some v ∧ W w A (assign target env v) (fun _ h₂ => W w A (execs body env) (fun f h₃ => match f with
            | .next | .cont => I (i + 1) h₃
            | .brk => Q .next h₃
            | .ret v => Q (.ret v) h₃) h₂) h₁) h)
    (stop : ∀ h, I n h → W w A (pyNext it) (fun r h₁ => r = none ∧ Q .next h₁) h)
    (hi : I 0 h) (ht : ∀ v, letOwnedTupleGo target it v = pure () := by intro _; rfl) : WC w A (.forLoop target it body [] env) Q h := by
  refine WC.loop rfl rfl (fun m h => ∃ i, i ≤ n ∧ m = n - i ∧ I i h) (fun m h hI => ?_) n h ⟨0, Nat.zero_le _, rfl, hi⟩
  obtain ⟨i, hle, rfl, hI⟩ := hI
  show W w A ((forTurn target it body [] env).onRaise _) _ h
  refine W.onRaise ?_
  unfold forTurn
  refine W.bind (W.standAt (W.bind (W.onRaise ?_)))
  by_cases hlt : i < n
  · refine (turn i h hlt hI).mono fun r h₁ q => ?_
    obtain ⟨v, rfl, q⟩ := q
    refine W.bind (W.eq (ht v) ?_)
    refine W.bind (q.mono fun _ h₂ q => W.bind (q.mono fun f h₃ q => ?_))
    cases f with
    | next => exact W.pure (.inl ⟨rfl, n - (i + 1), by omega, i + 1, by omega, rfl, q⟩)
    | cont => exact W.pure (.inl ⟨rfl, n - (i + 1), by omega, i + 1, by omega, rfl, q⟩)
    | brk => exact W.pure q
    | ret v => exact W.pure q
  · obtain rfl : i = n := by omega
    refine (stop h hI).mono fun r h₁ q => ?_
    obtain ⟨rfl, q⟩ := q
    refine W.pure (.inr ⟨rfl, WC.tree rfl ?_⟩)
    show W w A (do return PySem.Fin.done (← (execs [] env).onRaise _)) _ h₁
    exact W.bind (W.onRaise (rNil (W.pure q)))
theorem rFor {target iter body pos} {Q : Flow → Heap → Prop} (y : W w A (eval iter env) (fun x h₁ => W w A (pyIter x) (fun it h₂ => WC w A (.forLoop target it body [] env) Q h₂) h₁) h)
    (hs : ∀ x, foldedSetIterable iter env x = pure x := by intro _; rfl) : W w A (exec (.For target iter body [] pos) env) Q h := by
  rw [exec_For]
  exact W.bind (W.standAt (W.bind (y.mono fun x h₁ q => W.bind (W.eq (hs x) (W.bind (W.standAt (W.bind (W.holding (q.mono fun it h₂ q => W.runOwn q)))))))))
theorem rAssignTup {elts k pos' value pos} {Q : Flow → Heap → Prop} (y : W w A (eval value env) (fun v h₁ => W w A (assign (.Tuple elts k pos') env v) (fun _ => Q .next) h₁) h)
    (hs : exec (.Assign [.Tuple elts k pos'] value pos) env = (do standAt pos; let v ← eval value env; assign (.Tuple elts k pos') env v; pure .next)) : W w A (exec (.Assign [.Tuple elts k pos'] value pos) env) Q h := by
  rw [hs]
  exact W.bind (W.standAt (W.bind (y.mono fun v h₁ q => W.bind (q.mono fun _ _ e => W.pure e))))

/-! expressions -/
theorem rInt {i k pos} {Q : Value → Heap → Prop} (y : ∀ t, Q (.int i t) h) : W w A (eval (.Constant (.int i) k pos) env) Q h := W.val (fun t => .int i t) (fun s R r => wpAny_Constant_int r) y
theorem rBool {b k pos} {Q : Value → Heap → Prop} (y : Q (.bool b) h) : W w A (eval (.Constant (.bool b) k pos) env) Q h := W.pure y
theorem rStr {x k pos} {Q : Value → Heap → Prop} (y : ∀ t, Q (.str x t) h) : W w A (eval (.Constant (.str x) k pos) env) Q h := W.val (fun t => .str x t) (fun s R r => Calls.Constant_str r) y
theorem rBin {l op r pos} {Q : Value → Heap → Prop} (y : W w A (eval l env) (fun a h₁ => W w A (eval r env) (fun b h₂ => W w A (binaryOp op a b) Q h₂) h₁) h) : W w A (eval (.BinOp l op r pos) env) Q h := by
  rw [eval_BinOp]
  exact W.bind (y.mono fun a h₁ q => W.bind (W.holding (q.mono fun b h₂ q => W.bind (W.standAt (W.operate q)))))
theorem rUn {op x pos} {Q : Value → Heap → Prop} (y : W w A (eval x env) (fun v h₁ => W w A (unaryOp op v) Q h₁) h) : W w A (eval (.UnaryOp op x pos) env) Q h := by
  rw [arm_eval_UnaryOp]
  exact W.bind (y.mono fun a h₁ q => W.bind (W.standAt (W.holding q)))
theorem rCmp {l op r pos} {Q : Value → Heap → Prop} (y : W w A (eval l env) (fun a h₁ => W w A (eval r env) (fun b h₂ => W w A (compareOp op a b) Q h₂) h₁) h)
    (hm : behindInMarks op r = false := by with_unfolding_all rfl) : W w A (eval (.Compare l [op] [r] pos) env) Q h := by
  rw [eval_Compare1, markedBehindIn_of_false hm]
  exact W.bind (y.mono fun a h₁ q => W.bind (W.holding (q.mono fun b h₂ q => W.bind (W.standAt (W.operate q)))))
theorem rTCmp {l op r pos whole} {Q : Bool → Heap → Prop} (y : W w A (eval l env) (fun a h₁ => W w A (eval r env) (fun b h₂ => W w A (compareOp op a b) (fun c h₃ => W w A (truthy c) Q h₃) h₂) h₁) h)
    (hm : behindInMarks op r = false := by with_unfolding_all rfl) : W w A (isTrue (.Compare l [op] [r] pos) env whole) Q h := by
  rw [isTrue_Compare1, markedBehindIn_of_false hm]
  exact W.bind (y.mono fun a h₁ q => W.bind (W.holding (q.mono fun b h₂ q => W.bind (W.standAt (W.bind (W.operate (q.mono fun c h₃ q => W.holding q)))))))
theorem rTAnd {x rest pos whole} {Q : Bool → Heap → Prop} (y : W w A (isTrue x env (eval x env)) (fun c h' => if c then W w A (isTrue (.BoolOp .And rest pos) env whole) Q h' else Q false h') h) :
    W w A (isTrue (.BoolOp .And (x :: rest) pos) env whole) Q h := by
  show W w A (allTrue .And (x :: rest) env) Q h
  rw [arm_allTrue_cons]
  refine W.bind (y.mono fun c h' q => ?_)
  cases c
  · exact W.pure q
  · exact q
theorem rTAnd0 {pos whole} {Q : Bool → Heap → Prop} (y : Q true h) : W w A (isTrue (.BoolOp .And [] pos) env whole) Q h := W.pure (a := true) y
theorem rTOr {x rest pos whole} {Q : Bool → Heap → Prop} (y : W w A (isTrue x env (eval x env)) (fun c h' => if c then Q true h' else W w A (isTrue (.BoolOp .Or rest pos) env whole) Q h') h) :
    W w A (isTrue (.BoolOp .Or (x :: rest) pos) env whole) Q h := by
  show W w A (allTrue .Or (x :: rest) env) Q h
  rw [arm_allTrue_cons]
  refine W.bind (y.mono fun c h' q => ?_)
  cases c
  · exact q
  · exact W.pure q
theorem rTOr0 {pos whole} {Q : Bool → Heap → Prop} (y : Q false h) : W w A (isTrue (.BoolOp .Or [] pos) env whole) Q h := W.pure (a := false) y
theorem rTPlain {e : Expr} {whole : Sem Value} {Q : Bool → Heap → Prop} (y : W w A whole (fun v h₁ => W w A (truthy v) Q h₁) h)
    (he : isTrue e env whole = (do let v ← whole; standAt e.pos; holding [v] (truthy v)) := by rfl) : W w A (isTrue e env whole) Q h := by
  rw [he]
  exact W.bind (y.mono fun v h₁ q => W.bind (W.standAt (W.holding q)))
theorem rIfExp {test body orelse pos} {Q : Value → Heap → Prop} (y : W w A (isTrue test env (eval test env)) (fun b h₁ => if b then W w A (eval body env) Q h₁ else W w A (eval orelse env) Q h₁) h) :
    W w A (eval (.IfExp test body orelse pos) env) Q h := by
  rw [arm_eval_IfExp]
  refine W.bind (y.mono fun b h₁ q => ?_)
  cases b <;> exact q
theorem rTruthB {b : Bool} {Q : Bool → Heap → Prop} (y : Q b h) : W w A (truthy (.bool b)) Q h := W.same b (fun s R r => wpAny_truthy_bool r) y

theorem rSplice0 {Q : List Value → Heap → Prop} (y : Q [] h) : W w A (spliced []) Q h := W.pure y
theorem rSplice {x : Sem Value} {rest : List (Bool × Sem Value)} {Q : List Value → Heap → Prop} (y : W w A x (fun v h₁ => W w A (spliced rest) (fun vs h₂ => Q (v :: vs) h₂) h₁) h) :
    W w A (spliced ((false, x) :: rest)) Q h := by
  rw [spliced]
  refine W.bind (y.mono fun v h₁ q => ?_)
  simp only [Bool.false_eq_true, if_false]
  exact W.bind (W.pure (W.bind (W.holding (q.mono fun vs h₂ q => W.pure q))))
theorem rArgs {f : Value} {x : Sem Value} {rest : List (Bool × Sem Value)} {Q : Args → Heap → Prop} (y : W w A (spliced ((false, x) :: rest)) (fun vs h' => Q ⟨vs, []⟩ h') h) :
    W w A (evalArgs f true ((false, x) :: rest) []) Q h := by
  unfold evalArgs
  show W w A (spliced ((false, x) :: rest) >>= _) Q h
  refine W.bind (y.mono fun vs h' q => ?_)
  refine W.holding ?_
  exact W.bind (W.pure (W.bind (W.pure (W.pure q))))
theorem rTuple {elts k pos} {Q : Value → Heap → Prop} (y : W w A (spliced (backTo pos (starEach elts env))) (fun vs h₁ => vs.length ≤ 100000 ∧ Q (.ref h₁.objs.size) (h₁.push { cls := .type "tuple", data := .seq vs.toArray })) h) :
    W w A (eval (.Tuple elts k pos) env) Q h := by
  rw [arm_eval_Tuple]
  refine W.bind (W.standAt (W.bind (y.mono fun vs h₁ q => W.of fun s hs => wpAny_newTuple ⟨rfl, rfl, ?_⟩ (by rw [szl]; omega))))
  rw [hs]; exact q.2
theorem rList {elts pos} {Q : Value → Heap → Prop} (y : W w A (spliced (backTo pos (starEach elts env))) (fun vs h₁ => vs.length ≤ 100000 ∧ Q (.ref h₁.objs.size) (h₁.push { cls := .type "list", data := .seq vs.toArray })) h) :
    W w A (eval (.List elts pos) env) Q h := by
  rw [arm_eval_List]
  refine W.bind (W.standAt (W.bind (y.mono fun vs h₁ q => W.of fun s hs => wpAny_newList ⟨rfl, rfl, ?_⟩ (by rw [szl]; omega))))
  rw [hs]; exact q.2
theorem rCall {id : Str} {p pos : Pos} {args : List Expr} {Q : Value → Heap → Prop} (y : W w A (eval (.Name id p) env) (fun f h₁ => W w A (callWith pos f [] (backTo pos (starEach args env)) []) Q h₁) h) :
    W w A (eval (.Call (.Name id p) args [] pos) env) Q h := by
  show W w A (do callWith pos (← eval (.Name id p) env) [] (backTo pos (starEach args env)) (backToKw pos (keywordEach [] env))) Q h
  exact W.bind y
theorem rCwB {pos : Pos} {id : String} {first : List Value} {args : List (Bool × Sem Value)} {Q : Value → Heap → Prop} (hplain : args.any (·.1) = false)
    (y : W w A (evalArgs (.builtin id) true args []) (fun a h₁ => W w A (call (.builtin id) (first ++ a.pos) a.kw) Q h₁) h) : W w A (callWith pos (.builtin id) first args []) Q h := by
  unfold callWith
  refine W.bind (W.holding (y.mono fun a h₁ q => W.bind (W.standAt ?_)))
  simp only [hplain, List.any_nil, Bool.or_false]
  refine W.bind (W.pure ?_)
  exact W.bind (q.mono fun r h₂ q => W.bind (W.holding (W.point (W.pure q))))
theorem rCwT {pos : Pos} {T : String} {first : List Value} {args : List (Bool × Sem Value)} {Q : Value → Heap → Prop} (hplain : args.any (·.1) = false)
    (y : W w A (evalArgs (.type T) true args []) (fun a h₁ => W w A (call (.type T) (first ++ a.pos) a.kw) Q h₁) h) : W w A (callWith pos (.type T) first args []) Q h := by
  unfold callWith
  refine W.bind (W.holding (y.mono fun a h₁ q => W.bind (W.standAt ?_)))
  simp only [hplain, List.any_nil, Bool.or_false]
  refine W.bind (W.pure ?_)
  exact W.bind (q.mono fun r h₂ q => W.bind (W.holding (W.point (W.pure q))))
theorem rCwF {pos : Pos} {a : Addr} {first : List Value} {args : List (Bool × Sem Value)} {Q : Value → Heap → Prop} (hplain : args.any (·.1) = false)
    (y : W w A (evalArgs (.ref a) true args []) (fun x h₁ => (∃ o fd, h₁.get? a = some o ∧ o.data = .func fd) ∧ W w A (call (.ref a) (first ++ x.pos) x.kw) Q h₁) h) : W w A (callWith pos (.ref a) first args []) Q h := by
  unfold callWith
  refine W.bind (W.holding (y.mono fun x h₁ q => W.bind (W.standAt ?_)))
  obtain ⟨⟨o, fd, ho, hd⟩, q⟩ := q
  simp only [hplain, List.any_nil, Bool.or_false]
  refine W.bind (m := keeperOf (.ref a)) ?_
  unfold keeperOf
  refine W.bind (W.load ho ?_)
  rw [hd]
  refine W.pure ?_
  have tail : ∀ {t : Sem Value}, W w A t Q h₁ → W w A (t >>= fun r => holding [r] point >>= fun _ => pure r) Q h₁ := fun ht => W.bind (ht.mono fun r h₂ q => W.bind (W.holding (W.point (W.pure q))))
  dsimp only
  refine W.ite ?_
  split
  · exact tail q
  · exact tail (by unfold callMarked; exact W.keep q)
end
end
end Mine

/-! part MNm -/
namespace Mine
noncomputable section
open PySem PySem.W PyProof.Rows
open Sem (wp)
abbrev ev (scope : Scope) (L a : Addr) (q : Str) (cd : Value) (cells : List (Str × Addr)) : Env :=
  { scope := scope, locals := L, globals := mainGlobals, cells := cells, qual := q, func := some a, code := cd, frame := some L, builtins := builtinsNs }

def blts : List (Str × Value) := [(Str.ofString "len", .builtin "len"), (Str.ofString "range", .type "range"), (Str.ofString "bytearray", .type "bytearray"), (Str.ofString "min", .builtin "min"), (Str.ofString "max", .builtin "max"),
  (Str.ofString "list", .type "list"), (Str.ofString "int", .type "int")]

/-- the globals and the built-in names that are known -/
structure Nm (gl : List (Str × Value)) (no : List Str) (h : Heap) : Prop where
  g : ∃ mg, h.Ns mainGlobals mg ∧ (∀ x v, gl.lookup x = some v → mg x = some v) ∧ ∀ x, no.contains x = true → mg x = none
  b : ∃ mb, h.Ns builtinsNs mb ∧ ∀ x v, blts.lookup x = some v → mb x = some v
  lim : h.NoLimit
theorem Nm.ext {gl : List (Str × Value)} {no : List Str} {h h' : Heap} (N : Nm gl no h) (x : Ext h h') : Nm gl no h' :=
  ⟨let ⟨m, a, b⟩ := N.g; ⟨m, a.keeps x, b⟩, let ⟨m, a, b⟩ := N.b; ⟨m, a.keeps x, b⟩, N.lim.keeps x⟩

section
variable {w : World} {A : Around} {B h : Heap} {env : Env} {bs : List (Str × Value)} {os : List (Addr × Obj)} {gl : List (Str × Value)} {no : List Str} {L : Addr}

theorem rLocalN {x : Str} {v : Value} {Q : Value → Heap → Prop} (F : Fm B env.locals h bs os) (hv : bs.lookup x = some v) (y : Q v h) (hk : env.scope.kind = .function := by rfl) (hl : env.kindOf x = some .local := by rfl) :
    W w A (loadName env x) Q h :=
  W.of fun s hs => by
    obtain ⟨m, a, b⟩ := F.ns
    exact wpAny_loadName_local hk hl (hs ▸ a) (b x v hv) ⟨rfl, rfl, hs ▸ y⟩
theorem rName {x : Str} {pos : Pos} {Q : Value → Heap → Prop} (y : W w A (loadName env x) Q h) (hd : (x == ("__debug__" : Str)) = false := by decide) : W w A (eval (.Name x pos) env) Q h := by
  rw [eval_Name env x pos hd]
  exact W.bind (W.standAt y)
theorem rLocal {x : Str} {pos : Pos} {v : Value} {Q : Value → Heap → Prop} (F : Fm B env.locals h bs os) (hv : bs.lookup x = some v) (y : Q v h) (hk : env.scope.kind = .function := by rfl) (hl : env.kindOf x = some .local := by rfl)
    (hd : (x == ("__debug__" : Str)) = false := by decide) : W w A (eval (.Name x pos) env) Q h := rName (rLocalN F hv y hk hl) hd
theorem rCell {x : Str} {pos : Pos} {c : Addr} {o : Obj} {v : Value} {Q : Value → Heap → Prop} (ho : h.get? c = some o) (hv : o.data = .cell (some v)) (y : Q v h) (hk : env.scope.kind = .function := by rfl) (hl : env.kindOf x = some .cell := by rfl)
    (hc : env.cells.lookup x = some c := by rfl) (hd : (x == ("__debug__" : Str)) = false := by decide) : W w A (eval (.Name x pos) env) Q h :=
  rName (W.of fun s hs => wpAny_loadName_cell hk hl hc ⟨o, hs ▸ ho, hv⟩ ⟨rfl, rfl, hs ▸ y⟩) hd
theorem rGlob {x : Str} {pos : Pos} {v : Value} {Q : Value → Heap → Prop} (N : Nm gl no h) (hv : gl.lookup x = some v) (y : Q v h) (hk : env.scope.kind = .function := by rfl) (hx : env.kindOf x = some .globalImplicit := by rfl)
    (hg : env.globals = mainGlobals := by rfl) (hd : (x == ("__debug__" : Str)) = false := by decide) : W w A (eval (.Name x pos) env) Q h :=
  W.of fun s hs => by
    obtain ⟨m, a, b, _⟩ := N.g
    exact Calls.Name_function_global hk hx (Calls.loadGlobal_global (mg := m) (by rw [hg, hs]; exact a) (b x v hv) ⟨rfl, rfl, hs ▸ y⟩) hd
theorem rBlt {x : Str} {pos : Pos} {v : Value} {Q : Value → Heap → Prop} (N : Nm gl no h) (hn : no.contains x = true) (hv : blts.lookup x = some v) (y : Q v h) (hk : env.scope.kind = .function := by rfl) (hx : env.kindOf x = some .globalImplicit := by rfl)
    (hg : env.globals = mainGlobals := by rfl) (hb : env.builtins = builtinsNs := by rfl) (hd : (x == ("__debug__" : Str)) = false := by decide) : W w A (eval (.Name x pos) env) Q h :=
  W.of fun s hs => by
    obtain ⟨m, a, _, b⟩ := N.g
    obtain ⟨m', a', b'⟩ := N.b
    exact Calls.Name_function_global hk hx (Calls.loadGlobal_builtin (mg := m) (mb := m') (by rw [hg, hs]; exact a) (b x hn) (by rw [hb, hs]; exact a') (b' x v hv) ⟨rfl, rfl, hs ▸ y⟩) hd

theorem rStore {x : Str} {v : Value} {Q : Unit → Heap → Prop} (F : Fm B env.locals h bs os) (y : ∀ h', Fm B env.locals h' ((x, v) :: bs) os → Q () h')
    (hk : env.scope.kind = .function := by rfl) (hl : env.kindOf x = some .local := by rfl) : W w A (storeName env x v) Q h := by
  obtain ⟨m, am, bm⟩ := F.ns
  refine W.of fun s hs => wpAny_storeName_local hl (m := m) (hs ▸ am) (fun h' hn' hs' => ⟨rfl, rfl, y h' ?_⟩) (by rw [hk]; rfl)
  rw [hs] at hs'
  exact ⟨⟨_, hn', fun z u e => by
    rw [List.lookup_cons] at e
    by_cases q : z = x
    · subst q; simpa using e
    · have q' : (z == x) = false := beq_eq_false_iff_ne.mpr q
      rw [q'] at e
      simp only [q, if_false]
      exact bm z u e⟩, fun b o e => (hs'.2 b (Nat.ne_of_lt (Nat.lt_of_lt_of_le (Heap.lt_size e) F.above))).trans (F.keep b o e), F.above, fun p hp => ⟨(hs'.2 _ (F.objs p hp).2.1).trans (F.objs p hp).1, (F.objs p hp).2⟩, F.nd⟩
theorem rStoreC {x : Str} {c : Addr} {o : Obj} {v₀ : Option Value} {v : Value} {Q : Unit → Heap → Prop} (F : Fm B L h bs ((c, o) :: os)) (ho : o.data = .cell v₀) (y : ∀ h' o', o'.data = .cell (some v) → Fm B L h' bs ((c, o') :: os) → Q () h')
    (hk : env.scope.kind = .function := by rfl) (hl : env.kindOf x = some .cell := by rfl) (hc : env.cells.lookup x = some c := by rfl) : W w A (storeName env x v) Q h := by
  refine W.of fun s hs => wpAny_storeName_cell hk hl hc (v₀ := v₀) ⟨o, by rw [hs]; exact F.get (.head _), ho⟩ fun h' hc' hs' => ⟨rfl, rfl, ?_⟩
  obtain ⟨o', e1, e2⟩ := hc'
  rw [hs] at hs'
  exact y h' o' e2 (F.turn hs' e1)

theorem rDef {a : Addr} {o : Obj} {fd : FuncData} {body : List Stmt} {args : List Value} {binds : List (Str × Value)} {Q : Value → Heap → Prop}
    (ho : h.get? a = some o) (hd : o.data = .func fd) (hlim : h.NoLimit) (hcd : h.CodeRec fd.code fd.qualname) (hroom : A.depth < recursionLimit)
    (hb : fd.body = .stmts body) (hbind : bindArgs fd ⟨args, []⟩ = pure binds) (hclo : fd.closure = []) (hgl : fd.globals = mainGlobals) (hbl : fd.builtins = builtinsNs)
    (hloc : ∀ x ∈ binds, fd.scope.names.lookup x.1 = some .local) (hcell : ∀ x ∈ fd.scope.names, x.2 ≠ .cell)
    (y : ∀ h₁, Fm h h.objs.size h₁ binds.reverse [] → W w (A.deeper (ev fd.scope h.objs.size a (fd.qualname ++ ".<locals>.") fd.code [])) (execs body (ev fd.scope h.objs.size a (fd.qualname ++ ".<locals>.") fd.code []))
      (fun f h' => Q (match f with | .ret v => v | _ => .none) h') h₁)
    (hco : fd.scope.isCoroutine = false := by rfl) (hgen : fd.scope.isGenerator = false := by rfl) (hk : fd.scope.kind = .function := by rfl) : W w A (call (.ref a) args) Q h := by
  refine W.call (WC.tree rfl ?_)
  show W w A.in1 (callAny (.ref a) ⟨args, []⟩) _ h
  simp only [callAny]
  refine W.bind (W.load ho ?_)
  obtain ⟨c, oc, vs, tq, hc, hoc, hdc, hq⟩ := hcd
  simp only [hd, callFunction, hco, hgen, hb, hc]
  refine W.bind (m := field (.ref c) 1) (W.of fun s hs => wpAny_field (hs ▸ hoc) hdc hq ⟨rfl, rfl, ?_⟩)
  rw [hs]
  refine W.bind (W.pure ?_)
  rw [hbind]
  refine W.bind (W.pure ?_)
  rw [hclo]
  refine W.bind (W.of fun s hs => wpAny_newFunctionEnv hcell hloc (fun h₁ hns hsb => ⟨rfl, rfl, ?_⟩) hk)
  rw [hs] at hns hsb ⊢
  have F : Fm h h.objs.size h₁ binds.reverse [] := ⟨⟨_, hns, fun x v e => e⟩, fun b o e => hsb.extBut b o (Nat.ne_of_lt (Heap.lt_size e)) (Heap.get?_push_of_some _ e), Nat.le_refl _, fun p hp => (nomatch hp), .nil⟩
  refine W.bind (W.of fun s hs => wpAny_enterFrame (by rw [hs]; exact hlim.keeps F.keep) hroom ⟨rfl, rfl, ?_⟩)
  rw [hs]
  refine W.pure ⟨rfl, WC.tree rfl ?_⟩
  have e : newEnv fd.scope h.objs.size fd.globals [] (fd.qualname ++ ".<locals>.") (some a) (.ref c) none fd.builtins = ev fd.scope h.objs.size a (fd.qualname ++ ".<locals>.") fd.code [] := by
    rw [hgl, hbl, hc]; rfl
  rw [e]
  show W w (A.deeper (ev fd.scope h.objs.size a (fd.qualname ++ ".<locals>.") fd.code [])) (do point; match ← (execs body (ev fd.scope h.objs.size a (fd.qualname ++ ".<locals>.") fd.code [])).onRaise (leaving (ev fd.scope h.objs.size a (fd.qualname ++ ".<locals>.") fd.code [])) with | .ret v => ret v | _ => ret .none) _ h₁
  refine W.bind (W.point (W.bind (W.onRaise ((y h₁ F).mono fun f h' q => ?_))))
  cases f <;> exact W.pure ⟨_, rfl, q⟩
end
end
end Mine

/-! part MBaR -/
namespace Mine
noncomputable section
open PySem PySem.W PyProof.Rows
open Sem (wp)
abbrev bl (l : List UInt8) : Obj := ba l.toArray

namespace Fct
theorem getitem : Slot "bytearray" "__getitem__" "bytearray.__getitem__" :=
  .of (owner := "bytearray") (n := "__getitem__") (by rw [typeLookup_type, builtinLookup_eq_fast]; kernel_rfl) (by decide +kernel) (by decide +kernel) (by decide +kernel)
    (by first | exact .inl (by decide +kernel) | exact .inr (by decide +kernel)) (by rw [isSubtype_type]; kernel_rfl)
theorem setitem : Slot "bytearray" "__setitem__" "bytearray.__setitem__" :=
  .of (owner := "bytearray") (n := "__setitem__") (by rw [typeLookup_type, builtinLookup_eq_fast]; kernel_rfl) (by decide +kernel) (by decide +kernel) (by decide +kernel)
    (by first | exact .inl (by decide +kernel) | exact .inr (by decide +kernel)) (by rw [isSubtype_type]; kernel_rfl)
theorem len : Slot "bytearray" "__len__" "bytearray.__len__" :=
  .of (owner := "bytearray") (n := "__len__") (by rw [typeLookup_type, builtinLookup_eq_fast]; kernel_rfl) (by decide +kernel) (by decide +kernel) (by decide +kernel)
    (by first | exact .inl (by decide +kernel) | exact .inr (by decide +kernel)) (by rw [isSubtype_type]; kernel_rfl)
theorem iter : Slot "bytearray" "__iter__" "bytearray.__iter__" :=
  .of (owner := "bytearray") (n := "__iter__") (by rw [typeLookup_type, builtinLookup_eq_fast]; kernel_rfl) (by decide +kernel) (by decide +kernel) (by decide +kernel)
    (by first | exact .inl (by decide +kernel) | exact .inr (by decide +kernel)) (by rw [isSubtype_type]; kernel_rfl)
theorem next : Slot "bytearray_iterator" "__next__" "bytearray_iterator.__next__" :=
  .of (owner := "bytearray_iterator") (n := "__next__") (by rw [typeLookup_type, builtinLookup_eq_fast]; kernel_rfl) (by decide +kernel) (by decide +kernel) (by decide +kernel)
    (by first | exact .inl (by decide +kernel) | exact .inr (by decide +kernel)) (by rw [isSubtype_type]; kernel_rfl)
theorem eGet : entryFor table "bytearray.__getitem__" = some Builtin.«bytearray.__getitem__» := entryFor_of_tree (by kernel_rfl)
theorem eSet : entryFor table "bytearray.__setitem__" = some Builtin.«bytearray.__setitem__» := entryFor_of_tree (by kernel_rfl)
theorem eLen : entryFor table "bytearray.__len__" = some Builtin.«bytearray.__len__» := entryFor_of_tree (by kernel_rfl)
theorem eIter : entryFor table "bytearray.__iter__" = some Builtin.«bytearray.__iter__» := entryFor_of_tree (by kernel_rfl)
theorem eNext : entryFor table "bytearray_iterator.__next__" = some Builtin.«bytearray_iterator.__next__» := entryFor_of_tree (by kernel_rfl)
theorem aGet (a b : Value) : argsOk "bytearray.__getitem__" ⟨[a, b], []⟩ := by unfold argsOk; kernel_rfl
theorem aSet (a b c : Value) : argsOk "bytearray.__setitem__" ⟨[a, b, c], []⟩ := by unfold argsOk; kernel_rfl
theorem aLen (a : Value) : argsOk "bytearray.__len__" ⟨[a], []⟩ := by unfold argsOk; kernel_rfl
theorem aIter (a : Value) : argsOk "bytearray.__iter__" ⟨[a], []⟩ := by unfold argsOk; kernel_rfl
theorem aNext (a : Value) : argsOk "bytearray_iterator.__next__" ⟨[a], []⟩ := by unfold argsOk; kernel_rfl
theorem noIndexS : typeLookup (.type "slice") "__index__" = pure none := by rw [typeLookup_type, builtinLookup_eq_fast]; kernel_rfl
end Fct
end
end Mine

/-! part MLoop -/
namespace Mine
noncomputable section
open PySem PySem.W PyProof.Rows
open Sem (wp)
/-- an iterator at I that gives n things -/
structure It (w : World) (A : Around) (I : Addr) (n : Nat) (val : Nat → Value → Prop) (st : Nat → Obj → Prop) (S : Heap → Prop) : Prop where
  item : ∀ i h o (Q : Option Value → Heap → Prop), i < n → h.get? I = some o → st i o → S h → (∀ v h' o', val i v → Heap.SameBut I h h' → h'.get? I = some o' → st (i + 1) o' → Q (some v) h') → W w A (pyNext (.ref I)) Q h
  done : ∀ h o (Q : Option Value → Heap → Prop), h.get? I = some o → st n o → S h → (∀ h', Heap.ExtBut I h h' → Q none h') → W w A (pyNext (.ref I)) Q h

section
variable {w : World} {A : Around} {B h h' : Heap} {env : Env} {bs : List (Str × Value)} {os : List (Addr × Obj)} {L I : Addr}

theorem Fm.drop {o : Obj} (F : Fm B L h bs ((I, o) :: os)) (x : Heap.ExtBut I h h') : Fm B L h' bs os := by
  have D := F.objs _ (.head _)
  have hnd := List.nodup_cons.mp F.nd
  obtain ⟨m, ⟨oL, es, ep, hL, r⟩, b⟩ := F.ns
  refine ⟨⟨m, ⟨oL, es, ep, x _ _ (Ne.symm D.2.1) hL, r⟩, b⟩, fun b o e => x _ _ (fun z => ?_) (F.keep b o e), F.above, fun p hp => ?_, hnd.2⟩
  · have l1 : B.objs.size ≤ I := D.2.2
    have l2 := Heap.lt_size e
    rw [z] at l2
    exact absurd l2 (Nat.not_lt.mpr l1)
  · have P := F.objs p (.tail _ hp)
    exact ⟨x _ _ (fun z => hnd.1 (List.mem_map.mpr ⟨p, hp, z⟩)) P.1, P.2⟩

theorem rAssignN {x : Str} {px : Pos} {v : Value} {Q : Unit → Heap → Prop} (y : W w A (storeName env x v) Q h) : W w A (assign (.Name x px) env v) Q h := by
  rw [arm_assign_Name]
  exact W.bind (W.standAt (W.bindName y))

/-- a for whose target is a local name -/
theorem rForFm {σ : Type} {x : Str} {px : Pos} {body : List Stmt} {Q : Flow → Heap → Prop} {n : Nat} {val : Nat → Value → Prop} {st : Nat → Obj → Prop} {S : Heap → Prop} (it : It w A I n val st S)
    (Inv : Nat → σ → Prop) (bs : σ → List (Str × Value)) (os : σ → List (Addr × Obj))
    (hS : ∀ i c h o, Inv i c → Fm B env.locals h (bs c) ((I, o) :: os c) → S h)
    (c₀ : σ) {o₀ : Obj} (F : Fm B env.locals h (bs c₀) ((I, o₀) :: os c₀)) (ho : st 0 o₀) (h0 : Inv 0 c₀)
    (turn : ∀ i c h v o, i < n → Inv i c → val i v → Fm B env.locals h ((x, v) :: bs c) ((I, o) :: os c) → W w A (execs body env) (fun f h' => match f with
      | .next | .cont => ∃ c', Inv (i + 1) c' ∧ Fm B env.locals h' (bs c') ((I, o) :: os c')
      | .brk => Q .next h'
      | .ret v => Q (.ret v) h') h)
    (done : ∀ c h, Inv n c → Fm B env.locals h (bs c) (os c) → Q .next h)
    (hk : env.scope.kind = .function := by rfl) (hl : env.kindOf x = some .local := by rfl) : WC w A (.forLoop (.Name x px) (.ref I) body [] env) Q h := by
  refine rForLoop n (fun i h => ∃ c o, Inv i c ∧ st i o ∧ Fm B env.locals h (bs c) ((I, o) :: os c)) (fun i h hi ⟨c, o, a, b, F⟩ => ?_) (fun h ⟨c, o, a, b, F⟩ => ?_) ⟨c₀, o₀, h0, ho, F⟩
  · refine it.item i h o _ hi (F.get (.head _)) b (hS i c h o a F) fun v h' o' hv sb e st' => ⟨v, rfl, ?_⟩
    have F' : Fm B env.locals h' (bs c) ((I, o') :: os c) := F.turn sb e
    refine rAssignN (rStore F' (fun h₂ F₂ => (turn i c h₂ v o' hi a hv F₂).mono fun f h₃ q => ?_) hk hl)
    cases f with
    | next => obtain ⟨c', i', F'⟩ := q; exact ⟨c', o', i', st', F'⟩
    | cont => obtain ⟨c', i', F'⟩ := q; exact ⟨c', o', i', st', F'⟩
    | brk => exact q
    | ret v => exact q
  · exact it.done h o _ (F.get (.head _)) b (hS n c h o a F) fun h' x => ⟨rfl, done c h' a (F.drop x)⟩

/-- a for whose target is a cell -/
theorem rForFmC {σ : Type} {x : Str} {px : Pos} {body : List Stmt} {Q : Flow → Heap → Prop} {n : Nat} {val : Nat → Value → Prop} {st : Nat → Obj → Prop} {S : Heap → Prop} {cc : Addr} (it : It w A I n val st S)
    (Inv : Nat → σ → Prop) (bs : σ → List (Str × Value)) (os : σ → List (Addr × Obj))
    (hS : ∀ i c h o oc, Inv i c → Fm B L h (bs c) ((cc, oc) :: (I, o) :: os c) → S h)
    (c₀ : σ) {o₀ oc₀ : Obj} {vc : Option Value} (hoc : oc₀.data = .cell vc) (F : Fm B L h (bs c₀) ((cc, oc₀) :: (I, o₀) :: os c₀)) (ho : st 0 o₀) (h0 : Inv 0 c₀)
    (turn : ∀ i c h v o oc, i < n → Inv i c → val i v → oc.data = .cell (some v) → Fm B L h (bs c) ((cc, oc) :: (I, o) :: os c) → W w A (execs body env) (fun f h' => match f with
      | .next | .cont => ∃ c' oc' v', oc'.data = .cell v' ∧ Inv (i + 1) c' ∧ Fm B L h' (bs c') ((cc, oc') :: (I, o) :: os c')
      | .brk => Q .next h'
      | .ret v => Q (.ret v) h') h)
    (done : ∀ c h oc v, oc.data = .cell v → Inv n c → Fm B L h (bs c) ((cc, oc) :: os c) → Q .next h)
    (hk : env.scope.kind = .function := by rfl) (hl : env.kindOf x = some .cell := by rfl) (hc : env.cells.lookup x = some cc := by rfl) : WC w A (.forLoop (.Name x px) (.ref I) body [] env) Q h := by
  refine rForLoop n (fun i h => ∃ c o oc v, oc.data = .cell v ∧ Inv i c ∧ st i o ∧ Fm B L h (bs c) ((cc, oc) :: (I, o) :: os c)) (fun i h hi ⟨c, o, oc, vc, hoc, a, b, F⟩ => ?_) (fun h ⟨c, o, oc, vc, hoc, a, b, F⟩ => ?_) ⟨c₀, o₀, oc₀, vc, hoc, h0, ho, F⟩
  · refine it.item i h o _ hi (F.get (.tail _ (.head _))) b (hS i c h o oc a F) fun v h' o' hv sb e st' => ⟨v, rfl, ?_⟩
    have F' : Fm B L h' (bs c) ((I, o') :: (cc, oc) :: os c) := (F.perm (.swap ..)).turn sb e
    refine rAssignN (rStoreC (F'.perm (.swap ..)) hoc (fun h₂ o₂ e₂ F₂ => (turn i c h₂ v o' o₂ hi a hv e₂ F₂).mono fun f h₃ q => ?_) hk hl hc)
    cases f with
    | next => obtain ⟨c', oc', v', e', i', F'⟩ := q; exact ⟨c', o', oc', v', e', i', st', F'⟩
    | cont => obtain ⟨c', oc', v', e', i', F'⟩ := q; exact ⟨c', o', oc', v', e', i', st', F'⟩
    | brk => exact q
    | ret v => exact q
  · exact it.done h o _ (F.get (.tail _ (.head _))) b (hS n c h o oc a F) fun h' x => ⟨rfl, done c h' oc vc hoc a ((F.perm (.swap ..)).drop x)⟩

def rit (x left step : Int) : Obj := { cls := .type "range_iterator", data := .fields #[rawInt x, rawInt left, rawInt step] }
theorem It.range (hh : A.handled = none) (a c : Int) (n : Nat) : It w A I n (fun i v => ∃ t, v = .int (a + c * i) t) (fun i o => o = rit (a + c * i) ((n : Int) - i) c) (fun _ => True) where
  item := fun i h o Q hi e eo _ k => by
    subst eo
    refine W.of fun s hs => wpAny_pyNext_range_item (it := I) (x := a + c * i) (left := (n : Int) - i) (step := c) (by rw [hs]; exact e) (by omega) fun h' hit sb => ⟨rfl, rfl, ?_⟩
    refine k _ h' (rit (a + c * (i + 1 : Nat)) ((n : Int) - (i + 1 : Nat)) c) ⟨_, rfl⟩ (hs ▸ sb) ?_ rfl
    rw [show a + c * ((i + 1 : Nat) : Int) = a + c * i + c by rw [Int.natCast_add, Int.mul_add]; omega, show (n : Int) - ((i + 1 : Nat) : Int) = (n : Int) - i - 1 by omega]
    exact hit
  done := fun h o Q e eo _ k => by
    subst eo
    exact W.of fun s hs => wpAny_pyNext_range_end (it := I) (x := a + c * n) (left := (n : Int) - n) (step := c) hh (by rw [hs]; exact e) (by omega) fun h' x => ⟨rfl, rfl, k h' (hs ▸ x)⟩
theorem It.list (hh : A.handled = none) (l : Addr) (vs : List Value) : It w A I vs.length (fun i v => vs[i]? = some v) (fun i o => o.cls = .type "list_iterator" ∧ o.data = .fields #[.ref l, .int i 0]) (fun h => h.IsList l vs.toArray) where
  item := fun i h o Q hi e eo hl k => by
    refine W.of fun s hs => wpAny_pyNext_list_item (it := I) (l := l) (i := i) (x := vs[i]) ⟨o, hs ▸ e, eo.1, eo.2⟩ (hs ▸ hl) (by simp) fun h' hit sb => ⟨rfl, rfl, ?_⟩
    obtain ⟨o', e1, e2, e3⟩ := hit
    exact k _ h' o' (by simp) (hs ▸ sb) e1 ⟨e2, by rw [e3]⟩
  done := fun h o Q e eo hl k => W.of fun s hs => wpAny_pyNext_list_end (it := I) (l := l) (i := vs.length) hh ⟨o, hs ▸ e, eo.1, eo.2⟩ (hs ▸ hl) (by simp) fun h' x => ⟨rfl, rfl, k h' (hs ▸ x)⟩

theorem wRange1 {n : Int} {t : Tok} {Q : Value → Heap → Prop} (y : ∀ r h' t u v, Ext h h' → IsRange h' r 0 n 1 t u v → Q (.ref r) h') : W w A (call (.type "range") [.int n t]) Q h :=
  W.of fun s hs => call_range_1 ⟨rfl, rfl, y _ _ _ _ _ (by rw [hs]; exact Ext.push _ _) (IsRange.new ..)⟩
theorem wRange2 {a b : Int} {t u : Tok} {Q : Value → Heap → Prop} (y : ∀ r h' t u v, Ext h h' → IsRange h' r a b 1 t u v → Q (.ref r) h') : W w A (call (.type "range") [.int a t, .int b u]) Q h :=
  W.of fun s hs => call_range_2 ⟨rfl, rfl, y _ _ _ _ _ (by rw [hs]; exact Ext.push _ _) (IsRange.new ..)⟩
theorem wRange3 {a b c : Int} {t u v : Tok} {Q : Value → Heap → Prop} (hc : c ≠ 0) (hp : Builtin.divisionGoesByPylong (b - a) c = false) (y : ∀ r h' t u v, Ext h h' → IsRange h' r a b c t u v → Q (.ref r) h') : W w A (call (.type "range") [.int a t, .int b u, .int c v]) Q h :=
  W.of fun s hs => call_range_3 hc ⟨rfl, rfl, y _ _ _ _ _ (by rw [hs]; exact Ext.push _ _) (IsRange.new ..)⟩ (.inl hp)
theorem wIterRange {r : Addr} {a b c : Int} {t u v : Tok} {Q : Value → Heap → Prop} (hr : IsRange h r a b c t u v) (hs : Builtin.Range.small a b c = true)
    (y : ∀ I h', Ext h h' → h.objs.size ≤ I → h'.get? I = some (rit a (Builtin.Range.rangeSize a b c) c) → Q (.ref I) h') : W w A (pyIter (.ref r)) Q h :=
  W.of fun s e => wpAny_pyIter_range (e ▸ hr) hs ⟨rfl, rfl, y _ _ (by rw [e]; exact Ext.push _ _) (by rw [e]; exact Nat.le_refl _) (Heap.get?_push_size _ rfl)⟩
theorem wIterList {l : Addr} {vs : Array Value} {Q : Value → Heap → Prop} (hl : h.IsList l vs)
    (y : ∀ I h', Ext h h' → h.objs.size ≤ I → h'.get? I = some { cls := .type "list_iterator", data := .fields #[.ref l, .int 0 0] } → Q (.ref I) h') : W w A (pyIter (.ref l)) Q h :=
  W.of fun s e => wpAny_pyIter_list (e ▸ hl) ⟨rfl, rfl, y _ _ (by rw [e]; exact Ext.push _ _) (by rw [e]; exact Nat.le_refl _) (Heap.get?_push_size _ rfl)⟩
theorem small_up {a n : Int} (h0 : 0 ≤ a) (h1 : a ≤ 1000000) (h2 : -1000000 ≤ n) (h3 : n ≤ 1000000) : Builtin.Range.small a n 1 = true ∧ Builtin.Range.rangeSize a n 1 = ((n - a).toNat : Int) := by
  have e : Builtin.Range.rangeSize a n 1 = ((n - a).toNat : Int) := by
    unfold Builtin.Range.rangeSize
    rw [if_pos (by decide)]
    split <;> omega
  refine ⟨?_, e⟩
  unfold Builtin.Range.small
  rw [e]
  simp only [Builtin.Range.rangeFitsLong]
  simp
  omega

/-- a for over range(n), over range(a, b): from the evaluated bounds -/
theorem rForUp {σ : Type} {x : Str} {px : Pos} {body : List Stmt} {Q : Flow → Heap → Prop} {r : Addr} {a b : Int} {t u v : Tok} (hh : A.handled = none) (hr : IsRange h r a b 1 t u v) (ha : 0 ≤ a) (ha' : a ≤ 1000000) (hb : -1000000 ≤ b) (hb' : b ≤ 1000000)
    (Inv : Nat → σ → Prop) (bs : σ → List (Str × Value)) (os : σ → List (Addr × Obj))
    (c₀ : σ) (F : Fm B env.locals h (bs c₀) (os c₀)) (h0 : Inv 0 c₀)
    (turn : ∀ (i : Nat) c h t I o, i < (b - a).toNat → Inv i c → Fm B env.locals h ((x, .int (a + i) t) :: bs c) ((I, o) :: os c) → W w A (execs body env) (fun f h' => match f with
      | .next | .cont => ∃ c', Inv (i + 1) c' ∧ Fm B env.locals h' (bs c') ((I, o) :: os c')
      | .brk => Q .next h'
      | .ret v => Q (.ret v) h') h)
    (done : ∀ c h, Inv (b - a).toNat c → Fm B env.locals h (bs c) (os c) → Q .next h)
    (hk : env.scope.kind = .function := by rfl) (hl : env.kindOf x = some .local := by rfl) : W w A (pyIter (.ref r)) (fun it h₂ => WC w A (.forLoop (.Name x px) it body [] env) Q h₂) h := by
  obtain ⟨e1, e2⟩ := small_up ha ha' hb hb'
  refine wIterRange hr e1 fun I h' ex hI eI => ?_
  rw [e2] at eI
  refine rForFm (It.range hh a 1 (b - a).toNat) Inv bs os (fun _ _ _ _ _ _ => trivial) c₀ (F.new ex hI eI) (by simp) h0 (fun i c h v o hi hv ht F => ?_) done hk hl
  obtain ⟨t, rfl⟩ := ht
  rw [show a + 1 * (i : Int) = a + i by omega] at F
  exact turn i c h t I o hi hv F
end
end
end Mine

/-! part MLeaf -/
namespace Mine
noncomputable section
open PySem PySem.W PyProof.Rows
open Sem (wp)
theorem par_glue {o x a : Nat} (ih : o / 2 = x / 2 + a / 2) (h : o % 2 = x % 2 + a % 2) : o = x + a := by omega
theorem par_bits : ∀ i, i < 2 → ∀ j, j < 2 → (i ||| j) = (i ^^^ j) + (i &&& j) := by decide
theorem or_par (m n : Nat) : (m ||| n) % 2 = (m ^^^ n) % 2 + (m &&& n) % 2 := by
  have a := Nat.or_mod_two_pow (a := m) (b := n) (n := 1)
  have b := Nat.xor_mod_two_pow (a := m) (b := n) (n := 1)
  have c := Nat.and_mod_two_pow (a := m) (b := n) (n := 1)
  rw [Nat.pow_one] at a b c
  rw [a, b, c]
  exact par_bits _ (Nat.mod_lt _ (by decide)) _ (Nat.mod_lt _ (by decide))
theorem or_split : ∀ (k m n : Nat), m < 2 ^ k → n < 2 ^ k → (m ||| n) = (m ^^^ n) + (m &&& n)
  | 0, m, n, hm, hn => by
    obtain rfl : m = 0 := by simpa using hm
    obtain rfl : n = 0 := by simpa using hn
    rfl
  | k + 1, m, n, hm, hn => by
    have ih := or_split k (m / 2) (n / 2) (Nat.div_lt_of_lt_mul (by rw [Nat.pow_succ, Nat.mul_comm] at hm; exact hm)) (Nat.div_lt_of_lt_mul (by rw [Nat.pow_succ, Nat.mul_comm] at hn; exact hn))
    rw [← Nat.or_div_two, ← Nat.xor_div_two, ← Nat.and_div_two] at ih
    exact par_glue ih (or_par m n)
theorem k6 {a : Nat} (h : a < 1000) : a < 1000000 := Nat.lt_trans h (by decide)
theorem k6' {a : Nat} (h : a < 1000) : (a : Int) ≤ 1000000 := Int.ofNat_le.mpr (Nat.le_of_lt (k6 h))
theorem n0 (i : Nat) : (0 : Int) ≤ (i : Int) := Int.natCast_nonneg _
theorem n1 {i : Nat} (h : i < 1000000) : (i : Int) < 1000000 := Int.ofNat_lt.mpr h
theorem n1' {i n : Nat} (h : i < n) (hn : n < 1000) : (i : Int) < 1000000 := n1 (Nat.lt_trans h (k6 hn))
theorem z0 (i : Nat) : (0 : Int) ≤ 0 + (i : Int) := by rw [Int.zero_add]; exact n0 i
theorem z1 {i n : Nat} (h : i < n) (hn : n < 1000) : 0 + (i : Int) < 1000000 := by rw [Int.zero_add]; exact n1' h hn
theorem o0 (i : Nat) : (0 : Int) ≤ 1 + (i : Int) := Int.add_nonneg (by decide) (n0 i)
theorem o1 {i n : Nat} (h : i < n) (hn : n < 1000) : 1 + (i : Int) < 1000000 := by omega
theorem u1 (c : UInt8) : ((c.toNat : Nat) : Int) < 1000000 := n1 (Nat.lt_trans c.toNat_lt (by decide))
theorem nb (n : Nat) : (-1000000 : Int) ≤ (n : Int) := Int.le_trans (by decide) (n0 n)
theorem bit_lt (m : Nat) : m < 2 ^ m := Nat.lt_two_pow_self
theorem xor_nat (m n : Nat) : Builtin.bitXor (m : Int) (n : Int) = ((m ^^^ n : Nat) : Int) := by
  have e := or_split (m + n) m n (Nat.lt_of_lt_of_le (bit_lt m) (Nat.pow_le_pow_right (by decide) (by omega))) (Nat.lt_of_lt_of_le (bit_lt n) (Nat.pow_le_pow_right (by decide) (by omega)))
  unfold Builtin.bitXor Builtin.bitOr Builtin.bitAnd Builtin.bitNot
  have a1 : decide (0 ≤ (m : Int)) = true := by simp
  have a2 : decide (0 ≤ (n : Int)) = true := by simp
  have a3 : decide (0 ≤ -(m : Int) - 1) = false := by simp; omega
  have a4 : decide (0 ≤ -(n : Int) - 1) = false := by simp; omega
  rw [a1, a2, a3, a4]
  dsimp only
  have b1 : (-(-(m : Int) - 1) - 1).toNat = m := by omega
  have b2 : (-(-(n : Int) - 1) - 1).toNat = n := by omega
  rw [b1, b2]
  simp only [Int.toNat_natCast]
  omega
theorem and_nat (m n : Nat) : Builtin.bitAnd (m : Int) (n : Int) = ((m &&& n : Nat) : Int) := by
  unfold Builtin.bitAnd
  have a1 : decide (0 ≤ (m : Int)) = true := by simp
  have a2 : decide (0 ≤ (n : Int)) = true := by simp
  rw [a1, a2]
  simp

section
variable {w : World} {A : Around} {h : Heap} {a b : Int} {t u : Tok} {Q : Value → Heap → Prop}
theorem wAdd (y : ∀ k, Q (.int (a + b) k) h) : W w A (binaryOp .Add (.int a t) (.int b u)) Q h := W.val (fun k => .int (a + b) k) (fun s R r => add_int r) y
theorem wSub (y : ∀ k, Q (.int (a - b) k) h) : W w A (binaryOp .Sub (.int a t) (.int b u)) Q h := W.val (fun k => .int (a - b) k) (fun s R r => sub_int r) y
theorem wMul (hm : IntMulOk a b) (y : ∀ k, Q (.int (a * b) k) h) : W w A (binaryOp .Mult (.int a t) (.int b u)) Q h := W.val (fun k => .int (a * b) k) (fun s R r => mul_int r hm) y
theorem wMod (hb : b ≠ 0) (y : ∀ k, Q (.int (a.fmod b) k) h) : W w A (binaryOp .Mod (.int a t) (.int b u)) Q h := W.val (fun k => .int (a.fmod b) k) (fun s R r => mod_int hb r) y
theorem wDiv (hb : b ≠ 0) (hp : Builtin.divisionGoesByPylong a b = false) (y : ∀ k, Q (.int (a.fdiv b) k) h) : W w A (binaryOp .FloorDiv (.int a t) (.int b u)) Q h :=
  W.val (fun k => .int (a.fdiv b) k) (fun s R r => floordiv_int hb r (.inl hp)) y
theorem wXor {m n : Nat} (y : ∀ k, Q (.int ((m ^^^ n : Nat) : Int) k) h) : W w A (binaryOp .BitXor (.int (m : Int) t) (.int (n : Int) u)) Q h :=
  W.val (fun k => .int (Builtin.bitXor (m : Int) (n : Int)) k) (fun s R r => xor_int r) fun k => by rw [xor_nat]; exact y k
theorem wIXor {m n : Nat} (y : ∀ k, Q (.int ((m ^^^ n : Nat) : Int) k) h) : W w A (inplaceOp .BitXor (.int (m : Int) t) (.int (n : Int) u)) Q h :=
  W.val (fun k => .int (Builtin.bitXor (m : Int) (n : Int)) k) (fun s R r => ixor_int r) fun k => by rw [xor_nat]; exact y k
theorem wAnd {m n : Nat} (y : ∀ k, Q (.int ((m &&& n : Nat) : Int) k) h) : W w A (binaryOp .BitAnd (.int (m : Int) t) (.int (n : Int) u)) Q h :=
  W.val (fun k => .int (Builtin.bitAnd (m : Int) (n : Int)) k) (fun s R r => and_int r) fun k => by rw [and_nat]; exact y k
theorem wPow (hn : 0 ≤ b) (hn2 : b ≤ 1000000) (ha : a.natAbs < 2 ^ 64) (y : ∀ k, Q (.int (a ^ b.toNat) k) h) : W w A (binaryOp .Pow (.int a t) (.int b u)) Q h :=
  W.val (fun k => .int (a ^ b.toNat) k) (fun s R r => pow_int_small hn hn2 ha r) y
theorem wShr (hn : 0 ≤ b) (y : ∀ k, Q (.int (a.fdiv (2 ^ b.toNat)) k) h) : W w A (binaryOp .RShift (.int a t) (.int b u)) Q h := W.val (fun k => .int (a.fdiv (2 ^ b.toNat)) k) (fun s R r => rshift_int hn r) y
theorem wShl (hn : 0 ≤ b) (hn2 : b ≤ 1000000) (ha : a.natAbs < 2 ^ 64) (y : ∀ k, Q (.int (a * 2 ^ b.toNat) k) h) : W w A (binaryOp .LShift (.int a t) (.int b u)) Q h :=
  W.val (fun k => .int (a * 2 ^ b.toNat) k) (fun s R r => lshift_int_small hn hn2 ha r) y
theorem wNeg (y : ∀ k, Q (.int (-a) k) h) : W w A (unaryOp .USub (.int a t)) Q h := W.val (fun k => .int (-a) k) (fun s R r => neg_int r) y
theorem wEq (y : Q (.bool (a == b)) h) : W w A (compareOp .Eq (.int a t) (.int b u)) Q h := W.same _ (fun s R r => eq_int r) y
theorem wNe (y : Q (.bool (a != b)) h) : W w A (compareOp .NotEq (.int a t) (.int b u)) Q h := W.same _ (fun s R r => ne_int r) y
theorem wLt (y : Q (.bool (decide (a < b))) h) : W w A (compareOp .Lt (.int a t) (.int b u)) Q h := W.same _ (fun s R r => lt_int r) y
theorem wGt (y : Q (.bool (decide (b < a))) h) : W w A (compareOp .Gt (.int a t) (.int b u)) Q h := W.same _ (fun s R r => gt_int r) y
theorem wTruthI {Q : Bool → Heap → Prop} (y : Q (a != 0) h) : W w A (truthy (.int a t)) Q h := W.same _ (fun s R r => PyProof.Rows.truthy_int r) y

/-- value[slice] -/
theorem rSub {env : Env} {value slice : Expr} {pos : Pos}
    (y : W w A (eval value env) (fun o h₁ => W w A (eval slice env) (fun i h₂ => ∃ T id, typeLookup (.type T) "__getitem__" = pure (some (.builtin id)) ∧ (∀ s : Shared, s.heap = h₂ → s.TypeIs o T) ∧ W w A (getItem o i) Q h₂) h₁) h)
    (hs : ∀ o i, ∃ vs, subscripted slice false o i = operate vs (getItem o i) := by intro _ _; exact ⟨_, rfl⟩) : W w A (eval (.Subscript value slice pos) env) Q h := by
  rw [arm_eval_Subscript]
  refine W.bind (y.mono fun o h₁ q => ?_)
  refine W.bind (W.holding (q.mono fun i h₂ q => ?_))
  obtain ⟨T, id, hl, hT, q⟩ := q
  refine W.bind (W.standAt ?_)
  have hT0 : ({ heap := h₂ } : Shared).TypeIs o T := hT _ rfl
  refine W.bind ?_
  rw [getitemInPython_of_ne hT0.not_modules]
  refine W.bind (W.of fun s e => wpAny_specialOf (hT s e) hl ⟨rfl, rfl, ?_⟩)
  rw [e]
  refine W.pure ?_
  obtain ⟨vs, e'⟩ := hs o i
  rw [e']
  refine W.bind (W.operate (q.mono fun r h₃ q => ?_))
  exact W.bind (W.of fun s e => wpAny_letTemporaryGo ⟨rfl, rfl, e ▸ W.pure q⟩)

theorem rSubBa {env : Env} {value slice : Expr} {pos : Pos}
    (y : W w A (eval value env) (fun o h₁ => W w A (eval slice env) (fun i h₂ => ∃ c l, o = .ref c ∧ h₂.get? c = some (bl l) ∧ W w A (getItem o i) Q h₂) h₁) h)
    (hs : ∀ o i, ∃ vs, subscripted slice false o i = operate vs (getItem o i) := by intro _ _; exact ⟨_, rfl⟩) : W w A (eval (.Subscript value slice pos) env) Q h :=
  rSub (y.mono fun o h₁ q => q.mono fun i h₂ q => by
    obtain ⟨c, l, rfl, e, q⟩ := q
    exact ⟨"bytearray", _, Fct.getitem.lookup, fun s hs => typeIs_ba (hs ▸ e), q⟩) hs
theorem rSubList {env : Env} {value slice : Expr} {pos : Pos}
    (y : W w A (eval value env) (fun o h₁ => W w A (eval slice env) (fun i h₂ => ∃ c vs, o = .ref c ∧ h₂.IsList c vs ∧ W w A (getItem o i) Q h₂) h₁) h)
    (hs : ∀ o i, ∃ vs, subscripted slice false o i = operate vs (getItem o i) := by intro _ _; exact ⟨_, rfl⟩) : W w A (eval (.Subscript value slice pos) env) Q h :=
  rSub (y.mono fun o h₁ q => q.mono fun i h₂ q => by
    obtain ⟨c, l, rfl, e, q⟩ := q
    exact ⟨"list", _, slot_list_getitem.lookup, fun s hs => Heap.IsList.typeIs (hs ▸ e), q⟩) hs

theorem baGet_any {s : Shared} {E : Value → Shared → Prop} {c : Addr} {l : List UInt8} {k : Int} {t : Tok} {x : UInt8} {R : Value → Shared → Prop} (hc : s.heap.get? c = some (bl l)) (h0 : 0 ≤ k) (hk : k < 1000000) (hx : l[k.toNat]? = some x)
    (y : R (.int x.toNat s.toks) { s with toks := s.toks + 1 }) : wpAny (model prg w) A (getItem (.ref c) (.int k t)) R E s := by
  have hT := typeIs_ba hc
  refine wpAny_getItem_slot hT (by decide) Fct.getitem (wpAny_call_entry Fct.getitem hT Fct.eGet ?_ (Fct.aGet _ _))
  unfold Builtin.«bytearray.__getitem__»
  refine wpAny_bind (wpAny_of_eq (a := ((.ref c : Value), [(.int k t : Value)])) rfl ?_)
  dsimp only
  refine wpAny_bind ?_
  unfold Builtin.Bytes.subscript?
  refine wpAny_bind (wpAny_specialOf (T := "int") (typeIs_int s k t) int_index ?_)
  refine wpAny_ite_false rfl ?_
  refine wpAny_bind (wpAny_of_eq (a := k) rfl ?_)
  refine wpAny_ite_false (by simp [Builtin.Bytes.fitsIndex]; omega) ?_
  refine wpAny_pure ?_
  dsimp only
  refine wpAny_bind ?_
  unfold Builtin.Bytes.payload Builtin.Bytes.payload?
  refine wpAny_bind (wpAny_bind (wpAny_load hc ?_))
  refine wpAny_pure (wpAny_pure ?_)
  have hlt : k.toNat < l.length := (List.getElem?_eq_some_iff.mp hx).1
  have e : (seqIndex? k l.toArray.size).bind (l.toArray[·]?) = some x := by
    unfold seqIndex?
    have : ¬ k < 0 := by omega
    simp only [this, if_false]
    rw [if_pos (by simp; omega)]
    simpa using hx
  rw [e]
  exact wpAny_bind (wpAny_mkInt (wpAny_pure ⟨_, rfl, y⟩))
theorem wBaGet {c : Addr} {l : List UInt8} {k : Int} {t : Tok} {x : UInt8} (hc : h.get? c = some (bl l)) (h0 : 0 ≤ k) (hk : k < 1000000) (hx : l[k.toNat]? = some x) (y : ∀ u, Q (.int x.toNat u) h) : W w A (getItem (.ref c) (.int k t)) Q h :=
  W.of fun s hs => baGet_any (hs ▸ hc) h0 hk hx ⟨rfl, rfl, hs ▸ y _⟩
theorem wListGet {c : Addr} {vs : List Value} {k : Int} {t : Tok} {x : Value} (hc : h.IsList c vs.toArray) (h0 : 0 ≤ k) (hk : k < 1000000) (hx : vs[k.toNat]? = some x) (y : Q x h) : W w A (getItem (.ref c) (.int k t)) Q h :=
  W.of fun s hs => wpAny_getItem_list (hs ▸ hc) h0 (by omega) (by simpa using hx) ⟨rfl, rfl, hs ▸ y⟩

theorem baSet_any {s : Shared} {E : Value → Shared → Prop} {c : Addr} {l : List UInt8} {k v : Int} {t u : Tok} {R : Unit → Shared → Prop} (hc : s.heap.get? c = some (bl l)) (h0 : 0 ≤ k) (hk : k.toNat < l.length) (hz : l.length < 1000000) (v0 : 0 ≤ v) (v1 : v < 256)
    (y : ∀ h', Heap.SameBut c s.heap h' → h'.get? c = some (bl (l.set k.toNat v.toNat.toUInt8)) → R () { s with heap := h' }) : wpAny (model prg w) A (setItem (.ref c) (.int k t) (.int v u)) R E s := by
  have hT := typeIs_ba hc
  unfold setItem
  refine wpAny_holding ?_
  refine wpAny_bind (wpAny_sequenceKey hT (by decide) ?_)
  refine wpAny_bind (wpAny_callSpecial?_slot (name := Str.ofString "__setitem__") hT Fct.setitem (wpAny_call_entry Fct.setitem hT Fct.eSet ?_ (Fct.aSet _ _ _)))
  unfold Builtin.«bytearray.__setitem__»
  refine wpAny_ite_false rfl ?_
  dsimp only
  refine wpAny_bind ?_
  unfold Builtin.Bytes.subscript?
  refine wpAny_bind (wpAny_specialOf (T := "int") (typeIs_int s k t) int_index ?_)
  refine wpAny_ite_false rfl ?_
  refine wpAny_bind (wpAny_of_eq (a := k) rfl ?_)
  refine wpAny_ite_false (by simp [Builtin.Bytes.fitsIndex]; omega) ?_
  refine wpAny_pure ?_
  dsimp only
  refine wpAny_bind ?_
  unfold Builtin.Bytes.byteValue
  refine wpAny_bind (wpAny_of_eq (a := v) rfl ?_)
  refine wpAny_ite_false (by simp; omega) ?_
  refine wpAny_pure ?_
  refine wpAny_bind ?_
  unfold Builtin.Bytes.payload Builtin.Bytes.payload?
  refine wpAny_bind (wpAny_bind (wpAny_load hc ?_))
  refine wpAny_pure (wpAny_pure ?_)
  have e : seqIndex? k l.toArray.size = some k.toNat := by
    unfold seqIndex?
    have : ¬ k < 0 := by omega
    simp only [this, if_false]
    rw [if_pos (by simp; omega)]
  rw [e]
  dsimp only
  refine wpAny_bind (write_any hc (by simp [szl]; omega) ?_)
  refine wpAny_pure ⟨_, rfl, wpAny_pure (y _ (Heap.SameBut.update ..) ?_)⟩
  have := upd_ba (f := (·.setIfInBounds k.toNat v.toNat.toUInt8)) hc
  rw [this]
  simp [bl]
theorem wBaSet {c : Addr} {l : List UInt8} {k v : Int} {t u : Tok} {R : Unit → Heap → Prop} (hc : h.get? c = some (bl l)) (h0 : 0 ≤ k) (hk : k.toNat < l.length) (hz : l.length < 1000000) (v0 : 0 ≤ v) (v1 : v < 256)
    (y : ∀ h', Heap.SameBut c h h' → h'.get? c = some (bl (l.set k.toNat v.toNat.toUInt8)) → R () h') : W w A (setItem (.ref c) (.int k t) (.int v u)) R h :=
  W.of fun s hs => baSet_any (hs ▸ hc) h0 hk hz v0 v1 fun h' sb e => ⟨rfl, rfl, y h' (hs ▸ sb) e⟩

theorem wLenBa {c : Addr} {l : List UInt8} (hc : h.get? c = some (bl l)) (hz : l.length < 1000000) (y : ∀ u, Q (.int l.length u) h) : W w A (call (.builtin "len") [.ref c]) Q h :=
  W.of fun s hs => by
    have hc' : s.heap.get? c = some (bl l) := hs ▸ hc
    have hT := typeIs_ba hc'
    refine Calls.call_function_entry kind_len plain_len entry_len (args_len1 _) ?_
    unfold Builtin.«len»
    refine wpAny_bind (m := oneArg "len" _) (wpAny_pure ?_)
    refine wpAny_bind (m := callSpecial? (.ref c) (Str.ofString "__len__")) (wpAny_callSpecial?_slot (name := Str.ofString "__len__") hT Fct.len (wpAny_call_entry Fct.len hT Fct.eLen ?_ (Fct.aLen _)))
    show wpAny _ _ (do retInt (← Builtin.Bytes.payload (.ref c)).size) _ _ s
    refine wpAny_bind ?_
    unfold Builtin.Bytes.payload Builtin.Bytes.payload?
    refine wpAny_bind (wpAny_bind (wpAny_load hc' ?_))
    refine wpAny_pure (wpAny_pure ?_)
    refine wpAny_bind (wpAny_mkInt (wpAny_pure ⟨_, rfl, ?_⟩))
    refine wpAny_bind (wpAny_holding (wpAny_pure ?_))
    refine wpAny_bind (wpAny_letGo ?_)
    show wpAny _ _ (if ((l.toArray.size : Nat) : Int) < 0 then _ else _) _ _ _
    rw [if_neg (by omega)]
    show wpAny _ _ (if ((l.toArray.size : Nat) : Int) ≥ 2 ^ 63 then _ else _) _ _ _
    rw [if_neg (by simp; omega)]
    refine wpAny_bind (wpAny_mkInt (wpAny_pure ⟨_, rfl, rfl, rfl, ?_⟩))
    rw [hs]
    have := y (s.toks + 1)
    simpa using this
theorem wLenList {c : Addr} {vs : List Value} (hc : h.IsList c vs.toArray) (hz : vs.length < 1000000) (y : ∀ u, Q (.int vs.length u) h) : W w A (call (.builtin "len") [.ref c]) Q h :=
  W.of fun s hs => len_list (hs ▸ hc) (by simp; omega) ⟨rfl, rfl, by rw [hs]; simpa using y (s.toks + 1)⟩
end
end
end Mine

/-! part MField -/
namespace Mine
noncomputable section
def xt (x : Nat) : Nat := if x < 128 then 2 * x else (2 * x) ^^^ 285
/-- n powers of two from x on -/
def pxl : Nat → Nat → List Nat
  | 0, _ => []
  | n + 1, x => x :: pxl n (xt x)
def px (n : Nat) : Nat := (pxl (n + 1) 1)[n]?.getD 0
def logI (n : Nat) : List UInt8 := (pxl n 1).zipIdx.foldl (fun l p => l.set p.1 p.2.toUInt8) (List.replicate 256 0)
def expN : List Nat := [1, 2, 4, 8, 16, 32, 64, 128, 29, 58, 116, 232, 205, 135, 19, 38, 76, 152, 45, 90, 180, 117, 234, 201, 143, 3, 6, 12, 24, 48, 96, 192, 157, 39, 78, 156, 37, 74, 148, 53, 106, 212, 181, 119, 238, 193, 159, 35, 70, 140, 5, 10, 20, 40, 80, 160, 93, 186, 105, 210, 185, 111, 222, 161, 95, 190, 97, 194, 153, 47, 94, 188, 101, 202, 137, 15, 30, 60, 120, 240, 253, 231, 211, 187, 107, 214, 177, 127, 254, 225, 223, 163, 91, 182, 113, 226, 217, 175, 67, 134, 17, 34, 68, 136, 13, 26, 52, 104, 208, 189, 103, 206, 129, 31, 62, 124, 248, 237, 199, 147, 59, 118, 236, 197, 151, 51, 102, 204, 133, 23, 46, 92, 184, 109, 218, 169, 79, 158, 33, 66, 132, 21, 42, 84, 168, 77, 154, 41, 82, 164, 85, 170, 73, 146, 57, 114, 228, 213, 183, 115, 230, 209, 191, 99, 198, 145, 63, 126, 252, 229, 215, 179, 123, 246, 241, 255, 227, 219, 171, 75, 150, 49, 98, 196, 149, 55, 110, 220, 165, 87, 174, 65, 130, 25, 50, 100, 200, 141, 7, 14, 28, 56, 112, 224, 221, 167, 83, 166, 81, 162, 89, 178, 121, 242, 249, 239, 195, 155, 43, 86, 172, 69, 138, 9, 18, 36, 72, 144, 61, 122, 244, 245, 247, 243, 251, 235, 203, 139, 11, 22, 44, 88, 176, 125, 250, 233, 207, 131, 27, 54, 108, 216, 173, 71, 142]
def logN : List Nat := [0, 0, 1, 25, 2, 50, 26, 198, 3, 223, 51, 238, 27, 104, 199, 75, 4, 100, 224, 14, 52, 141, 239, 129, 28, 193, 105, 248, 200, 8, 76, 113, 5, 138, 101, 47, 225, 36, 15, 33, 53, 147, 142, 218, 240, 18, 130, 69, 29, 181, 194, 125, 106, 39, 249, 185, 201, 154, 9, 120, 77, 228, 114, 166, 6, 191, 139, 98, 102, 221, 48, 253, 226, 152, 37, 179, 16, 145, 34, 136, 54, 208, 148, 206, 143, 150, 219, 189, 241, 210, 19, 92, 131, 56, 70, 64, 30, 66, 182, 163, 195, 72, 126, 110, 107, 58, 40, 84, 250, 133, 186, 61, 202, 94, 155, 159, 10, 21, 121, 43, 78, 212, 229, 172, 115, 243, 167, 87, 7, 112, 192, 247, 140, 128, 99, 13, 103, 74, 222, 237, 49, 197, 254, 24, 227, 165, 153, 119, 38, 184, 180, 124, 17, 68, 146, 217, 35, 32, 137, 46, 55, 63, 209, 91, 149, 188, 207, 205, 144, 135, 151, 178, 220, 252, 190, 97, 242, 86, 211, 171, 20, 42, 93, 158, 132, 60, 57, 83, 71, 109, 65, 162, 31, 45, 67, 216, 183, 123, 164, 118, 196, 23, 73, 236, 127, 12, 111, 246, 108, 161, 59, 82, 41, 157, 85, 170, 251, 96, 134, 177, 187, 204, 62, 90, 203, 89, 95, 176, 156, 169, 160, 81, 11, 245, 22, 235, 122, 117, 44, 215, 79, 174, 213, 233, 230, 231, 173, 232, 116, 214, 244, 234, 168, 80, 88, 175]
def expT : List UInt8 := (expN ++ expN).map fun x => x.toUInt8
def logT : List UInt8 := logN.map fun x => x.toUInt8
def lg (x : UInt8) : Nat := logN[x.toNat]?.getD 0
def ex (i : Nat) : UInt8 := (expN[i % 255]?.getD 0).toUInt8
def gmul (x y : UInt8) : UInt8 := if x = 0 ∨ y = 0 then 0 else ex (lg x + lg y)
def ginv (x : UInt8) : UInt8 := ex (255 - lg x)

theorem expN_len : expN.length = 255 := rfl
theorem logN_len : logN.length = 256 := rfl
theorem expT_len : expT.length = 510 := by simp [expT, expN_len]
theorem logT_len : logT.length = 256 := by simp [logT, logN_len]
theorem logN_lt : ∀ n, n < 256 → logN[n]?.getD 0 < 255 := by decide +kernel
theorem lg_lt (x : UInt8) : lg x < 255 := logN_lt x.toNat x.toNat_lt
theorem log_at (x : UInt8) : ∃ y, logT[x.toNat]? = some y ∧ y.toNat = lg x := by
  have h : x.toNat < logN.length := x.toNat_lt
  refine ⟨logN[x.toNat].toUInt8, by simp [logT, h], ?_⟩
  have hl := lg_lt x
  unfold lg at hl ⊢
  rw [List.getElem?_eq_getElem h] at hl ⊢
  simp only [Option.getD_some] at hl ⊢
  rw [Nat.toUInt8_eq, UInt8.toNat_ofNat']
  omega
theorem exp_at {i : Nat} (hi : i < 510) : expT[i]? = some (ex i) := by
  unfold expT ex
  rw [List.getElem?_map]
  by_cases h : i < 255
  · rw [List.getElem?_append_left (by rw [expN_len]; exact h), Nat.mod_eq_of_lt h, List.getElem?_eq_getElem (by rw [expN_len]; exact h)]
    rfl
  · rw [List.getElem?_append_right (by rw [expN_len]; omega), expN_len, show i % 255 = i - 255 by omega, List.getElem?_eq_getElem (by rw [expN_len]; omega)]
    rfl
end
end Mine

/-! part MPrg -/
namespace Mine
noncomputable section
open PySem PySem.W PyProof.Rows
open Sem (wp)
def stAt (i : Nat) : Stmt := match prg.main.body[i]? with | some s => s | none => .Pass default
def fnB : Stmt → List Stmt
  | .FunctionDef _ _ b _ _ _ _ _ _ _ => b
  | _ => []
def fnA : Stmt → Arguments
  | .FunctionDef _ a _ _ _ _ _ _ _ _ => a
  | _ => ⟨[], [], none, [], [], none, []⟩
def fnS : Stmt → Scope
  | .FunctionDef _ _ _ _ _ _ s _ _ _ => s
  | _ => prg.main.scope

structure Ad where
  inv : Addr
  mul : Addr
  scale : Addr
  add : Addr
  pmul : Addr
  div : Addr
  num : Addr
  prod : Addr
  roots : Addr
  law : Addr
  log : Addr
  exp : Addr
  tok : Tok
def glob (d : Ad) : List (Str × Value) :=
  [(Str.ofString "_bytearray", .type "bytearray"), (Str.ofString "xrange", .type "range"), (Str.ofString "gf_log", .ref d.log), (Str.ofString "gf_exp", .ref d.exp), (Str.ofString "field_charac", .int 255 d.tok),
   (Str.ofString "gf_mul", .ref d.mul), (Str.ofString "gf_inverse", .ref d.inv), (Str.ofString "gf_poly_scale", .ref d.scale), (Str.ofString "gf_poly_add", .ref d.add), (Str.ofString "gf_poly_mul", .ref d.pmul), (Str.ofString "gf_poly_div", .ref d.div),
   (Str.ofString "_law_number", .ref d.num), (Str.ofString "_law_product", .ref d.prod), (Str.ofString "_law_from_roots", .ref d.roots), (Str.ofString "law", .ref d.law)]
def noGl : List Str := [Str.ofString "len", Str.ofString "range", Str.ofString "bytearray", Str.ofString "min", Str.ofString "max", Str.ofString "list"]

/-- the text's i-th statement's def stands at a -/
def Fn (h : Heap) (a : Addr) (i : Nat) (name : Str) : Prop := ∃ pm cd, h.get? a = some { cls := .type "function", data := .func (plainDef name (fnA (stAt i)) (fnB (stAt i)) (fnS (stAt i)) pm cd) } ∧ h.CodeRec cd name
theorem Fn.ext {h h' : Heap} {a : Addr} {i : Nat} {name : Str} (f : Fn h a i name) (x : Ext h h') : Fn h' a i name := let ⟨pm, cd, e, c⟩ := f; ⟨pm, cd, x _ _ e, c.keeps x⟩
structure Gl (d : Ad) (h : Heap) : Prop where
  nm : Nm (glob d) noGl h
  inv : Fn h d.inv 4 (Str.ofString "gf_inverse")
  mul : Fn h d.mul 5 (Str.ofString "gf_mul")
  scale : Fn h d.scale 7 (Str.ofString "gf_poly_scale")
  add : Fn h d.add 8 (Str.ofString "gf_poly_add")
  pmul : Fn h d.pmul 9 (Str.ofString "gf_poly_mul")
  div : Fn h d.div 10 (Str.ofString "gf_poly_div")
  num : Fn h d.num 13 (Str.ofString "_law_number")
  prod : Fn h d.prod 14 (Str.ofString "_law_product")
  roots : Fn h d.roots 15 (Str.ofString "_law_from_roots")
  law : Fn h d.law 16 (Str.ofString "law")
  log : h.get? d.log = some (bl logT)
  exp : h.get? d.exp = some (bl expT)
theorem Gl.ext {d : Ad} {h h' : Heap} (g : Gl d h) (x : Ext h h') : Gl d h' :=
  ⟨g.nm.ext x, g.inv.ext x, g.mul.ext x, g.scale.ext x, g.add.ext x, g.pmul.ext x, g.div.ext x, g.num.ext x, g.prod.ext x, g.roots.ext x, g.law.ext x, x _ _ g.log, x _ _ g.exp⟩

theorem itT {b : Bool} {X Y : Prop} (e : b = true) (x : X) : if b = true then X else Y := by rw [if_pos e]; exact x
theorem itF {b : Bool} {X Y : Prop} (e : b = false) (y : Y) : if b = true then X else Y := by rw [if_neg (by rw [e]; exact Bool.false_ne_true)]; exact y
theorem u8_ne {x : UInt8} (h : x ≠ 0) : (((x.toNat : Nat) : Int) == 0) = false := by
  rw [beq_eq_false_iff_ne]
  intro e
  exact h (UInt8.toNat_inj.mp (by simpa using e))

/-- room for k frames more -/
structure Ok (k : Nat) (A : Around) : Prop where
  handled : A.handled = none
  room : A.depth + k < 900
  units : A.units + 10 * k < 9000
theorem Ok.deeper {k : Nat} {A : Around} (o : Ok (k + 1) A) (env : Env) : Ok k (A.deeper env) := ⟨o.handled, by have := o.room; show A.depth + 1 + k < 900; omega, by have := o.units; show A.units + 3 + 10 * k < 9000; omega⟩
theorem Ok.depth {k : Nat} {A : Around} (o : Ok k A) : A.depth < recursionLimit := by have := o.room; show A.depth < 1000; omega
theorem Ok.less {k j : Nat} {A : Around} (o : Ok k A) (h : j ≤ k) : Ok j A := ⟨o.handled, by have := o.room; omega, by have := o.units; omega⟩

section
variable {w : World} {A : Around} {h : Heap} {d : Ad} {Q : Value → Heap → Prop}

/-- a call of one of the text's own plain defs (no cells) -/
theorem rFn {a : Addr} {i : Nat} {name : Str} {args : List Value} {binds : List (Str × Value)} (G : Gl d h) (f : Fn h a i name) (o : Ok 1 A)
    (hbind : ∀ pm cd, bindArgs (plainDef name (fnA (stAt i)) (fnB (stAt i)) (fnS (stAt i)) pm cd) ⟨args, []⟩ = pure binds)
    (hloc : ∀ x ∈ binds, (fnS (stAt i)).names.lookup x.1 = some .local) (hcell : ∀ x ∈ (fnS (stAt i)).names, x.2 ≠ .cell)
    (y : ∀ cd h₁, Fm h h.objs.size h₁ binds.reverse [] → Gl d h₁ → W w (A.deeper (ev (fnS (stAt i)) h.objs.size a (name ++ ".<locals>.") cd [])) (execs (fnB (stAt i)) (ev (fnS (stAt i)) h.objs.size a (name ++ ".<locals>.") cd []))
      (fun f h' => Q (match f with | .ret v => v | _ => .none) h') h₁)
    (hco : (fnS (stAt i)).isCoroutine = false := by rfl) (hgen : (fnS (stAt i)).isGenerator = false := by rfl) (hk : (fnS (stAt i)).kind = .function := by rfl) : W w A (call (.ref a) args) Q h := by
  obtain ⟨pm, cd, e, c⟩ := f
  exact rDef (fd := plainDef name (fnA (stAt i)) (fnB (stAt i)) (fnS (stAt i)) pm cd) e rfl G.nm.lim c o.depth rfl (hbind pm cd) rfl rfl rfl hloc hcell (fun h₁ F => y cd h₁ F (G.ext F.keep)) hco hgen hk

theorem gf_mul_W {x y : UInt8} {t u : Tok} (G : Gl d h) (o : Ok 1 A) (q : ∀ h' k, Ext h h' → Q (.int (gmul x y).toNat k) h') : W w A (call (.ref d.mul) [.int x.toNat t, .int y.toNat u]) Q h := by
  refine rFn (binds := [(Str.ofString "x", .int x.toNat t), (Str.ofString "y", .int y.toNat u)]) G G.mul o (fun pm cd => rfl) (locs rfl) (by decide +kernel) fun cd h₁ F G => ?_
  refine rCons (rIf (rTOr (rTCmp (rLocal F rfl (rInt fun t => wEq (rTruthB ?_))))))
  by_cases hx : x = 0
  · subst hx
    refine itT (by decide) (itT rfl (rCons (rReturn (rInt fun t => ?_))))
    have q' := q h₁ t F.keep
    simp only [gmul, true_or, if_true] at q'
    exact q'
  refine itF (u8_ne hx) (rTOr (rTCmp (rLocal F rfl (rInt fun t => wEq (rTruthB ?_)))))
  by_cases hy : y = 0
  · subst hy
    refine itT (by decide) (itT rfl (rCons (rReturn (rInt fun t => ?_))))
    have q' := q h₁ t F.keep
    simp only [gmul, or_true, if_true] at q'
    exact q'
  refine itF (u8_ne hy) (rTOr0 (itF rfl (rNil ?_)))
  obtain ⟨a, ha, ea⟩ := log_at x
  obtain ⟨b, hb, eb⟩ := log_at y
  refine rCons (rReturn (rSubBa (rGlob G.nm rfl (rBin (rBin (rSubBa (rGlob G.nm rfl (rLocal F rfl ⟨_, _, rfl, G.log, wBaGet G.log (Int.natCast_nonneg _) (by have := x.toNat_lt; omega) ha fun k1 => ?_⟩))))))))
  refine rSubBa (rGlob G.nm rfl (rLocal F rfl ⟨_, _, rfl, G.log, wBaGet G.log (Int.natCast_nonneg _) (by have := y.toNat_lt; omega) hb fun k2 => ?_⟩))
  refine wAdd fun k3 => rGlob G.nm rfl (wMod (by decide) fun k4 => ?_)
  have e1 : Int.fmod ((a.toNat : Int) + b.toNat) 255 = ((lg x + lg y) % 255 : Nat) := by
    rw [ea, eb, Int.fmod_eq_emod_of_nonneg _ (by decide)]; omega
  rw [e1]
  refine ⟨_, _, rfl, G.exp, wBaGet G.exp (Int.natCast_nonneg _) (by omega) (exp_at (i := (lg x + lg y) % 255) (by omega)) fun k5 => ?_⟩
  have e2 : gmul x y = ex ((lg x + lg y) % 255) := by simp [gmul, hx, hy, ex]
  have q' := q h₁ k5 F.keep
  rw [e2] at q'
  exact q'
end
end
end Mine

/-! part MLeaf2 -/
namespace Mine
noncomputable section
open PySem PySem.W PyProof.Rows
open Sem (wp)
/-- l[a:b] -/
def cut {α : Type} (l : List α) (lo hi : Option Int) : List α := (l.drop (lo.elim 0 (clipAt l.length))).take (hi.elim l.length (clipAt l.length) - lo.elim 0 (clipAt l.length))

section
variable {w : World} {A : Around} {h : Heap} {env : Env} {Q : Value → Heap → Prop}

theorem rSlice {lower upper : Option Expr} {p : Pos} (y : W w A (evalPart lower env) (fun l h₁ => W w A (evalPart upper env) (fun u h₂ => ∀ r h', Ext h₂ h' → h'.IsSliceOf r l u .none → Q (.ref r) h') h₁) h) :
    W w A (eval (.Slice lower upper none p) env) Q h := by
  rw [arm_eval_Slice]
  refine W.bind (y.mono fun l h₁ q => ?_)
  refine W.bind (W.holding (q.mono fun u h₂ q => ?_))
  refine W.bind (W.holding (W.pure ?_))
  refine W.of fun s hs => wpAny_newObj_type ⟨rfl, rfl, ?_⟩
  rw [hs]
  exact q _ _ (Ext.push _ _) (Heap.IsSliceOf.new ..)
theorem rPart0 {Q : Value → Heap → Prop} (y : Q .none h) : W w A (evalPart none env) Q h := W.pure y
theorem rPart {e : Expr} {Q : Value → Heap → Prop} (y : W w A (eval e env) Q h) : W w A (evalPart (some e) env) Q h := y

theorem baParts {s : Shared} {E : Value → Shared → Prop} {sl : Addr} {vl vu : Value} {lo hi : Option Int} {R : Value × Value × Value → Shared → Prop} (hs : s.heap.IsSliceOf sl vl vu .none) (pl : IsPart vl lo) (pu : IsPart vu hi)
    (y : R (rawPart lo, rawPart hi, .none) s) : wpAny (model prg w) A (Builtin.Bytes.sliceParts (.ref sl)) R E s := by
  obtain ⟨os, hos, hcs, hds⟩ := hs
  have part : ∀ {v : Value} {k : Option Int} {R : Value → Shared → Prop}, IsPart v k → R (rawPart k) s → wpAny (model prg w) A (do
      if v == .none then return .none
      if (← specialOf v "__index__").isNone then
        rule "bytes.slice.part-no-index"; raiseError "TypeError" "slice indices must be integers or None or have an __index__ method"
      return rawInt (← asIndex v)) R E s := by
    intro v k R hv r
    cases hv with
    | none => exact wpAny_pure r
    | int i t =>
      rw [if_neg (show ¬ ((Value.int i t == Value.none) = true) from Bool.false_ne_true)]
      refine wpAny_bind (wpAny_specialOf (T := "int") (typeIs_int s i t) int_index ?_)
      simp only [Option.isNone_some, Bool.false_eq_true, if_false]
      exact wpAny_bind (wpAny_of_eq (a := i) rfl (wpAny_pure r))
  unfold Builtin.Bytes.sliceParts
  dsimp only
  refine wpAny_bind (wpAny_field hos hds (x := .none) rfl ?_)
  refine wpAny_bind (part .none ?_)
  refine wpAny_ite_false rfl ?_
  refine wpAny_bind (wpAny_field hos hds (x := vl) rfl ?_)
  refine wpAny_bind (part pl ?_)
  refine wpAny_bind (wpAny_field hos hds (x := vu) rfl ?_)
  refine wpAny_bind (part pu ?_)
  exact wpAny_pure y

theorem sliced_cut (l : List UInt8) (lo hi : Option Int) : Builtin.Bytes.sliced l.toArray (sliceBounds lo hi none l.length).1 (sliceBounds lo hi none l.length).2.1 (sliceBounds lo hi none l.length).2.2 = (cut l lo hi).toArray := by
  unfold Builtin.Bytes.sliced cut
  rw [sliceBounds_plain]
  simp only [sliceRange_one, pick_run]
theorem cut_len {α : Type} (l : List α) (lo hi : Option Int) : (cut l lo hi).length ≤ l.length := by
  unfold cut; rw [List.length_take, List.length_drop]; omega

theorem wBaSlice {c sl : Addr} {l : List UInt8} {vl vu : Value} {lo hi : Option Int} (hc : h.get? c = some (bl l)) (hz : l.length < 1000000) (hs : h.IsSliceOf sl vl vu .none) (pl : IsPart vl lo) (pu : IsPart vu hi)
    (y : ∀ r h', Ext h h' → h.objs.size ≤ r → h'.get? r = some (bl (cut l lo hi)) → Q (.ref r) h') : W w A (getItem (.ref c) (.ref sl)) Q h := by
  refine W.of fun s e => ?_
  have hc' : s.heap.get? c = some (bl l) := e ▸ hc
  have hs' : s.heap.IsSliceOf sl vl vu .none := e ▸ hs
  have hT := typeIs_ba hc'
  have hTs : s.TypeIs (.ref sl) "slice" := let ⟨o, a, b, _⟩ := hs'; ⟨o, a, b⟩
  refine wpAny_getItem_slot hT (by decide) Fct.getitem (wpAny_call_entry Fct.getitem hT Fct.eGet ?_ (Fct.aGet _ _))
  unfold Builtin.«bytearray.__getitem__»
  refine wpAny_bind (wpAny_of_eq (a := ((.ref c : Value), [(.ref sl : Value)])) rfl ?_)
  dsimp only
  refine wpAny_bind ?_
  unfold Builtin.Bytes.subscript?
  refine wpAny_bind (wpAny_specialOf hTs slice_no_index ?_)
  refine wpAny_ite_true rfl ?_
  refine wpAny_pure ?_
  dsimp only
  refine wpAny_bind (wpAny_typeOf hTs ?_)
  refine wpAny_ite_false (by decide) ?_
  refine wpAny_bind (baParts hs' pl pu ?_)
  dsimp only
  refine wpAny_bind ?_
  unfold Builtin.Bytes.payload Builtin.Bytes.payload?
  refine wpAny_bind (wpAny_bind (wpAny_load hc' ?_))
  refine wpAny_pure (wpAny_pure ?_)
  refine wpAny_bind (wpAny_of_eq (sliceIndices_raw lo hi none l.toArray.size (by simp)) ?_)
  refine wpAny_bind (wpAny_newObj_type (wpAny_pure ⟨_, rfl, rfl, rfl, ?_⟩) ?_)
  · rw [e]
    refine y _ _ (Ext.push _ _) (Nat.le_refl _) ?_
    rw [show l.toArray.size = l.length by simp, sliced_cut]
    exact Heap.get?_push_size _ rfl
  · rw [show l.toArray.size = l.length by simp, sliced_cut]
    show (cut l lo hi).toArray.size ≤ sizeLine
    have := cut_len l lo hi
    rw [szl]; simp; omega

theorem wListSlice {c sl : Addr} {l : List Value} {vl vu : Value} {lo hi : Option Int} (hc : h.IsList c l.toArray) (hz : l.length < 1000000) (hs : h.IsSliceOf sl vl vu .none) (pl : IsPart vl lo) (pu : IsPart vu hi)
    (y : ∀ r h', Ext h h' → h.objs.size ≤ r → h'.get? r = some { cls := .type "list", data := .seq (cut l lo hi).toArray } → Q (.ref r) h') : W w A (getItem (.ref c) (.ref sl)) Q h := by
  refine W.of fun s e => wpAny_getItem_list_slice (e ▸ hc) (e ▸ hs) pl pu .none (by simp) ⟨rfl, rfl, ?_⟩ (by rw [szl]; simp; omega)
  rw [e]
  refine y _ _ (Ext.push _ _) (Nat.le_refl _) ?_
  have e2 : slicePick l.toArray lo hi none = (cut l lo hi).toArray := by
    rw [slicePick_plain]; simp [cut]
  rw [e2]
  exact Heap.get?_push_size _ rfl

/-- r[a:b] = p, the sizes alike -/
theorem wBaPut {c p sl : Addr} {l m : List UInt8} {a b : Int} {ta tb : Tok} {R : Unit → Heap → Prop} (hc : h.get? c = some (bl l)) (hp : h.get? p = some (bl m)) (hcp : c ≠ p) (hz : l.length < 1000000) (hs : h.IsSliceOf sl (.int a ta) (.int b tb) .none)
    (h0 : 0 ≤ a) (hab : b = a + m.length) (hb : b ≤ l.length)
    (y : ∀ h', Heap.SameBut c h h' → h'.get? c = some (bl (l.take a.toNat ++ m ++ l.drop b.toNat)) → R () h') : W w A (setItem (.ref c) (.ref sl) (.ref p)) R h := by
  refine W.of fun s e => ?_
  have hc' : s.heap.get? c = some (bl l) := e ▸ hc
  have hp' : s.heap.get? p = some (bl m) := e ▸ hp
  have hs' : s.heap.IsSliceOf sl (.int a ta) (.int b tb) .none := e ▸ hs
  have hT := typeIs_ba hc'
  have hTs : s.TypeIs (.ref sl) "slice" := let ⟨o, a, b, _⟩ := hs'; ⟨o, a, b⟩
  unfold setItem
  refine wpAny_holding ?_
  refine wpAny_bind (wpAny_sequenceKey hT (by decide) ?_)
  refine wpAny_bind (wpAny_callSpecial?_slot (name := Str.ofString "__setitem__") hT Fct.setitem (wpAny_call_entry Fct.setitem hT Fct.eSet ?_ (Fct.aSet _ _ _)))
  unfold Builtin.«bytearray.__setitem__»
  refine wpAny_ite_false rfl ?_
  dsimp only
  refine wpAny_bind ?_
  unfold Builtin.Bytes.subscript?
  refine wpAny_bind (wpAny_specialOf hTs slice_no_index ?_)
  refine wpAny_ite_true rfl ?_
  refine wpAny_pure ?_
  dsimp only
  refine wpAny_bind (wpAny_typeOf hTs ?_)
  refine wpAny_ite_false (by decide) ?_
  refine wpAny_bind (baParts hs' (.int a ta) (.int b tb) ?_)
  have esr : Builtin.Bytes.sameRef (.ref c) (.ref p) = false := by simp [Builtin.Bytes.sameRef, hcp]
  rw [esr]
  refine wpAny_ite_false rfl ?_
  refine wpAny_bind ?_
  refine wpAny_isInstance (typeIs_ba hp') Fct.sub ?_
  refine wpAny_ite_false rfl ?_
  dsimp only
  refine wpAny_bind ?_
  unfold Builtin.Bytes.payload Builtin.Bytes.payload?
  refine wpAny_bind (wpAny_bind (wpAny_load hp' ?_))
  refine wpAny_pure (wpAny_pure ?_)
  refine wpAny_bind (wpAny_bind (wpAny_bind (wpAny_load hc' ?_)))
  refine wpAny_pure (wpAny_pure ?_)
  refine wpAny_bind (wpAny_of_eq (sliceIndices_raw (some a) (some b) none l.toArray.size (by simp)) ?_)
  have e3 : sliceBounds (some a) (some b) none l.toArray.size = (a, b, 1) := by
    have c1 : ((clipAt l.length a : Nat) : Int) = a := by rw [clipAt_cast, if_neg (by omega)]; omega
    have c2 : ((clipAt l.length b : Nat) : Int) = b := by rw [clipAt_cast, if_neg (by omega)]; omega
    rw [sliceBounds_plain]
    simp only [List.size_toArray, Option.elim, c1, c2]
  rw [e3]
  dsimp only
  refine wpAny_ite_true rfl ?_
  refine wpAny_bind (wpAny_rule ?_)
  have e4 : max a b = b := by omega
  refine wpAny_ite_false ?_ ?_
  · rw [e4]; simp; omega
  have e5 : (l.toArray.extract 0 a.toNat ++ m.toArray ++ l.toArray.extract (max a b).toNat l.toArray.size) = (l.take a.toNat ++ m ++ l.drop b.toNat).toArray := by
    rw [e4]
    apply Array.ext'
    simp
    exact List.take_of_length_le (by simp)
  refine wpAny_bind (write_any hc' ?_ ?_)
  · rw [e5]; simp [szl]; omega
  refine wpAny_pure ⟨_, rfl, wpAny_pure ⟨rfl, rfl, ?_⟩⟩
  rw [e]
  refine y _ (Heap.SameBut.update ..) ?_
  have := upd_ba (f := fun b_1 => b_1.extract 0 a.toNat ++ m.toArray ++ b_1.extract (max a b).toNat b_1.size) hc
  rw [this, e5]
end
end
end Mine

/-! part MIter -/
namespace Mine
noncomputable section
open PySem PySem.W PyProof.Rows
open Sem (wp)
section
variable {w : World} {A : Around} {h : Heap} {env : Env} {Q : Value → Heap → Prop} {I : Addr}

theorem wIterBa {c : Addr} {l : List UInt8} (hc : h.get? c = some (bl l))
    (y : ∀ I h', Ext h h' → h.objs.size ≤ I → h'.get? I = some { cls := .type "bytearray_iterator", data := .fields #[.ref c, .int 0 0] } → Q (.ref I) h') : W w A (pyIter (.ref c)) Q h :=
  W.of fun s e => by
    have hc' : s.heap.get? c = some (bl l) := e ▸ hc
    have hT := typeIs_ba hc'
    refine wpAny_pyIter_slot hT Fct.iter (wpAny_call_entry Fct.iter hT Fct.eIter ?_ (Fct.aIter _))
    show wpAny _ _ (do ret (← newFields "bytearray_iterator" [.ref c, rawInt 0])) _ _ s
    refine wpAny_bind (wpAny_newObj_type (wpAny_pure ⟨_, rfl, "bytearray_iterator", _, ⟨_, Heap.get?_push_size _ rfl, rfl⟩, Fct.next.lookup, rfl, rfl, ?_⟩))
    rw [e]
    exact y _ _ (Ext.push _ _) (Nat.le_refl _) (Heap.get?_push_size _ rfl)

theorem It.ba (hh : A.handled = none) (c : Addr) (l : List UInt8) : It w A I l.length (fun i v => ∃ x t, l[i]? = some x ∧ v = .int (x.toNat : Int) t) (fun i o => o.cls = .type "bytearray_iterator" ∧ o.data = .fields #[.ref c, .int i 0]) (fun h => h.get? c = some (bl l)) where
  item := fun i h o Q hi e eo hl k => by
    obtain ⟨hcl, hd⟩ := eo
    refine W.of fun s hs => ?_
    have e' : s.heap.get? I = some o := hs ▸ e
    have hc' : s.heap.get? c = some (bl l) := hs ▸ hl
    have hT : s.TypeIs (.ref I) "bytearray_iterator" := ⟨o, e', hcl⟩
    unfold pyNext
    refine wpAny_bind (wpAny_attempt (wpAny_callSpecial?_slot (name := PySem.Str.ofString "__next__") hT Fct.next (wpAny_call_entry Fct.next hT Fct.eNext ?_ (Fct.aNext _))))
    show wpAny _ _ (field (.ref I) 0 >>= _) _ _ s
    refine wpAny_bind (wpAny_field e' hd (x := .ref c) rfl ?_)
    refine wpAny_bind (wpAny_load hc' ?_)
    refine wpAny_bind (wpAny_field e' hd (x := .int i 0) rfl ?_)
    have hx : l.toArray[((i : Nat) : Int).toNat]? = some l[i] := by simp
    dsimp only
    rw [hx]
    dsimp only
    refine wpAny_bind (wpAny_setField e' hd (by simp) (wpAny_bind (wpAny_mkInt (wpAny_pure ⟨_, rfl, wpAny_pure ⟨rfl, rfl, ?_⟩⟩))))
    refine k _ _ _ ⟨l[i], _, by simp, rfl⟩ (hs ▸ Heap.SameBut.update ..) (Heap.get?_update_self _ e' (Obj.isFreed_of_fields (Obj.data_mapFields hd _))) ⟨(Obj.cls_mapFields ..).trans hcl, by
      rw [Obj.data_mapFields hd]; simp [rawInt]⟩
  done := fun h o Q e eo hl k => by
    obtain ⟨hcl, hd⟩ := eo
    refine W.of fun s hs => ?_
    have e' : s.heap.get? I = some o := hs ▸ e
    have hc' : s.heap.get? c = some (bl l) := hs ▸ hl
    have hT : s.TypeIs (.ref I) "bytearray_iterator" := ⟨o, e', hcl⟩
    unfold pyNext
    refine wpAny_bind (wpAny_attempt (wpAny_callSpecial?_slot (name := PySem.Str.ofString "__next__") hT Fct.next (wpAny_call_entry Fct.next hT Fct.eNext ?_ (Fct.aNext _))))
    show wpAny _ _ (field (.ref I) 0 >>= _) _ _ s
    refine wpAny_bind (wpAny_field e' hd (x := .ref c) rfl ?_)
    refine wpAny_bind (wpAny_load hc' ?_)
    refine wpAny_bind (wpAny_field e' hd (x := .int l.length 0) rfl ?_)
    have hx : l.toArray[((l.length : Nat) : Int).toNat]? = none := by simp
    dsimp only
    rw [hx]
    dsimp only
    refine wpAny_bind (wpAny_rule (wpAny_bind (wpAny_setField e' hd (by simp) ?_)))
    refine wpAny_bind (wpAny_letGo ?_)
    show wpAny _ _ (newExc (.type "StopIteration") [] >>= _) _ _ _
    refine wpAny_bind ?_
    simp only [newExc, newTuple]
    refine wpAny_bind (wpAny_newObj_type ?_ (by size_fits))
    refine wpAny_bind (m := firstArgMember _ _) (wpAny_of_eq (a := Value.none) (by first | rfl | (simp only [firstArgMember]; rfl)) ?_)
    refine wpAny_newObj_type ?_ (by size_fits)
    simp only [raiseNew]
    refine wpAny_bind (wpAny_handled ?_)
    rw [show A.in1.handled = none from hh]
    refine wpAny_bind (wpAny_pure (wpAny_throw ?_))
    refine wpAny_bind (wpAny_isInstance (T := "StopIteration") (b := true) ⟨_, Heap.get?_push_size _ rfl, rfl⟩ isSubtype_stop ?_)
    refine wpAny_pure ⟨rfl, rfl, k _ ?_⟩
    rw [← hs]
    exact ((Heap.SameBut.update ..).extBut.push _).push _

theorem wMax {a b : Int} {t u : Tok} (hh : A.handled = none) (y : ∀ k h', Ext h h' → Q (.int (max a b) k) h') : W w A (call (.builtin "max") [.int a t, .int b u]) Q h :=
  W.of fun s hs => max_two_ints hh fun h' tk hk => by
    refine ⟨rfl, rfl, ?_⟩
    have ex : Ext h h' := fun b o e => hk b o (hs ▸ e)
    by_cases c : b > a
    · rw [if_pos c]
      have := y u h' ex
      rwa [show max a b = b by omega] at this
    · rw [if_neg c]
      have := y t h' ex
      rwa [show max a b = a by omega] at this
theorem wMin {a b : Int} {t u : Tok} (hh : A.handled = none) (y : ∀ k h', Ext h h' → Q (.int (min a b) k) h') : W w A (call (.builtin "min") [.int a t, .int b u]) Q h :=
  W.of fun s hs => min_two_ints hh fun h' tk hk => by
    refine ⟨rfl, rfl, ?_⟩
    have ex : Ext h h' := fun b o e => hk b o (hs ▸ e)
    by_cases c : b < a
    · rw [if_pos c]
      have := y u h' ex
      rwa [show min a b = b by omega] at this
    · rw [if_neg c]
      have := y t h' ex
      rwa [show min a b = a by omega] at this
end
end
end Mine

/-! part MFld2 -/
namespace Mine
noncomputable section
theorem t_exp : ∀ i, i < 255 → (expN[i]?.getD 0) < 256 ∧ (expN[i]?.getD 0) ≠ 0 ∧ (logN[expN[i]?.getD 0]?.getD 0) = i := by decide +kernel
theorem t_log : ∀ n, n < 256 → n ≠ 0 → expN[logN[n]?.getD 0]?.getD 0 = n := by decide +kernel

theorem ex_mod (i : Nat) : ex (i % 255) = ex i := by simp [ex]
theorem ex_congr {i j : Nat} (h : i % 255 = j % 255) : ex i = ex j := by rw [← ex_mod i, ← ex_mod j, h]
theorem ex_toNat (i : Nat) : (ex i).toNat = expN[i % 255]?.getD 0 := by
  have h := (t_exp (i % 255) (Nat.mod_lt _ (by decide))).1
  unfold ex
  rw [Nat.toUInt8_eq, UInt8.toNat_ofNat', Nat.mod_eq_of_lt h]
theorem ex_ne (i : Nat) : ex i ≠ 0 := by
  intro h
  have h1 := ex_toNat i
  rw [h] at h1
  exact (t_exp (i % 255) (Nat.mod_lt _ (by decide))).2.1 h1.symm
theorem lg_ex (i : Nat) : lg (ex i) = i % 255 := by
  unfold lg
  rw [ex_toNat]
  exact (t_exp (i % 255) (Nat.mod_lt _ (by decide))).2.2
theorem ex_lg {x : UInt8} (h : x ≠ 0) : ex (lg x) = x := by
  have h1 : x.toNat ≠ 0 := fun e => h (UInt8.toNat_inj.mp e)
  apply UInt8.toNat_inj.mp
  rw [ex_toNat, Nat.mod_eq_of_lt (lg_lt x)]
  exact t_log x.toNat x.toNat_lt h1

theorem gmul_comm (x y : UInt8) : gmul x y = gmul y x := by
  unfold gmul
  rw [Nat.add_comm]
  by_cases h1 : x = 0 <;> by_cases h2 : y = 0 <;> simp [h1, h2]
theorem gmul_zero (x : UInt8) : gmul x 0 = 0 := by simp [gmul]
theorem zero_gmul (x : UInt8) : gmul 0 x = 0 := by simp [gmul]
theorem gmul_ne {x y : UInt8} (hx : x ≠ 0) (hy : y ≠ 0) : gmul x y = ex (lg x + lg y) := by simp [gmul, hx, hy]
theorem gmul_ne_zero {x y : UInt8} (hx : x ≠ 0) (hy : y ≠ 0) : gmul x y ≠ 0 := by rw [gmul_ne hx hy]; exact ex_ne _
theorem gmul_assoc (x y z : UInt8) : gmul (gmul x y) z = gmul x (gmul y z) := by
  by_cases hx : x = 0
  · simp [hx, gmul_zero, zero_gmul]
  by_cases hy : y = 0
  · simp [hy, gmul_zero, zero_gmul]
  by_cases hz : z = 0
  · simp [hz, gmul_zero, zero_gmul]
  rw [gmul_ne hx hy, gmul_ne (ex_ne _) hz, gmul_ne hy hz, gmul_ne hx (ex_ne _), lg_ex, lg_ex]
  apply ex_congr
  omega
theorem one_eq : (1 : UInt8) = ex 0 := by decide +kernel
theorem one_gmul (x : UInt8) : gmul 1 x = x := by
  by_cases hx : x = 0
  · simp [hx, gmul_zero, zero_gmul]
  rw [gmul_ne (by decide) hx]
  have : lg 1 = 0 := by rw [one_eq, lg_ex]
  rw [this, Nat.zero_add, ex_lg hx]
theorem gmul_one (x : UInt8) : gmul x 1 = x := by rw [gmul_comm, one_gmul]
theorem gmul_inv {x : UInt8} (h : x ≠ 0) : gmul x (ginv x) = 1 := by
  unfold ginv
  rw [gmul_ne h (ex_ne _), lg_ex, one_eq]
  apply ex_congr
  have := lg_lt x
  omega
theorem ginv_ne {x : UInt8} : ginv x ≠ 0 := ex_ne _

/-! the sum -/
theorem xt_lt {a : Nat} (h : a < 256) : xt a < 256 := by
  have key : ∀ a, a < 256 → xt a < 256 := by decide +kernel
  exact key a h
theorem lt128 {a : Nat} (h : a < 256) : (a < 128) = (a.testBit 7 = false) := by
  rw [Nat.testBit_eq_decide_div_mod_eq]
  simp
  omega
theorem xor_lt256 {a b : Nat} (ha : a < 256) (hb : b < 256) : a ^^^ b < 256 := Nat.xor_lt_two_pow (n := 8) ha hb
theorem xt_xor {a b : Nat} (ha : a < 256) (hb : b < 256) : xt (a ^^^ b) = xt a ^^^ xt b := by
  have e : 2 * (a ^^^ b) = (2 * a) ^^^ (2 * b) := by
    have := Nat.shiftLeft_xor_distrib (a := a) (b := b) (i := 1)
    simp only [Nat.shiftLeft_eq, Nat.pow_one] at this
    rw [Nat.mul_comm 2, Nat.mul_comm 2 a, Nat.mul_comm 2 b]
    exact this
  unfold xt
  simp only [lt128 ha, lt128 hb, lt128 (xor_lt256 ha hb), Nat.testBit_xor]
  have c1 : ∀ x y z : Nat, x ^^^ z ^^^ y = x ^^^ y ^^^ z := fun x y z => by rw [Nat.xor_assoc, Nat.xor_comm z y, ← Nat.xor_assoc]
  cases a.testBit 7 <;> cases b.testBit 7 <;> simp [e]
  · rw [Nat.xor_assoc]
  · rw [c1]
  · rw [Nat.xor_assoc (2 * a), Nat.xor_comm 285, Nat.xor_assoc (2 * b), Nat.xor_self, Nat.xor_zero]
theorem gmul_two (u : UInt8) : (gmul 2 u).toNat = xt u.toNat := by
  have key : ∀ n, n < 256 → (gmul 2 n.toUInt8).toNat = xt n := by decide +kernel
  have := key u.toNat u.toNat_lt
  rwa [show u.toNat.toUInt8 = u by simp] at this
theorem two_eq : (2 : UInt8) = ex 1 := by decide +kernel
theorem gmul_two_xor (y z : UInt8) : gmul 2 (y ^^^ z) = gmul 2 y ^^^ gmul 2 z := by
  apply UInt8.toNat_inj.mp
  rw [gmul_two, UInt8.toNat_xor, UInt8.toNat_xor, gmul_two, gmul_two]
  exact xt_xor y.toNat_lt z.toNat_lt
theorem ex_succ (k : Nat) : ex (k + 1) = gmul 2 (ex k) := by
  rw [gmul_ne (by decide) (ex_ne _), lg_ex, two_eq, lg_ex]
  apply ex_congr
  omega
theorem gmul_ex_xor (k : Nat) (y z : UInt8) : gmul (ex k) (y ^^^ z) = gmul (ex k) y ^^^ gmul (ex k) z := by
  induction k with
  | zero => rw [← one_eq, one_gmul, one_gmul, one_gmul]
  | succ k ih => rw [ex_succ, gmul_assoc, ih, gmul_two_xor, ← gmul_assoc, ← gmul_assoc]
theorem gmul_xor (x y z : UInt8) : gmul x (y ^^^ z) = gmul x y ^^^ gmul x z := by
  by_cases hx : x = 0
  · simp [hx, gmul_zero, zero_gmul]
  · rw [← ex_lg hx]; exact gmul_ex_xor _ y z
theorem xor_gmul (x y z : UInt8) : gmul (x ^^^ y) z = gmul x z ^^^ gmul y z := by
  rw [gmul_comm, gmul_xor, gmul_comm z x, gmul_comm z y]
end
end Mine

/-! part MPoly -/
namespace Mine
noncomputable section
/-- formal power series over the field of 256 -/
abbrev PS := Nat → UInt8
def pz : PS := fun _ => 0
def padd (f g : PS) : PS := fun i => f i ^^^ g i
def psm (a : UInt8) (f : PS) : PS := fun i => gmul a (f i)
def ptl (f : PS) : PS := fun i => f (i + 1)
def mono (a : UInt8) (n : Nat) : PS := fun i => if i = n then a else 0
abbrev pone : PS := mono 1 0
def pmul (f g : PS) : Nat → UInt8
  | 0 => gmul (f 0) (g 0)
  | n + 1 => gmul (f 0) (g (n + 1)) ^^^ pmul (ptl f) g n

/-! xor as a sum -/
theorem x_assoc (a b c : UInt8) : a ^^^ b ^^^ c = a ^^^ (b ^^^ c) := UInt8.xor_assoc ..
theorem x_comm (a b : UInt8) : a ^^^ b = b ^^^ a := UInt8.xor_comm ..
theorem x_left (a b c : UInt8) : a ^^^ (b ^^^ c) = b ^^^ (a ^^^ c) := by rw [← x_assoc, x_comm a b, x_assoc]
theorem x_self (a : UInt8) : a ^^^ a = 0 := UInt8.xor_self
theorem x_zero (a : UInt8) : a ^^^ 0 = a := UInt8.xor_zero
theorem zero_x (a : UInt8) : 0 ^^^ a = a := UInt8.zero_xor

theorem padd_assoc (f g k : PS) : padd (padd f g) k = padd f (padd g k) := funext fun i => x_assoc ..
theorem padd_comm (f g : PS) : padd f g = padd g f := funext fun i => x_comm ..
theorem padd_left (f g k : PS) : padd f (padd g k) = padd g (padd f k) := funext fun i => x_left ..
theorem padd_self (f : PS) : padd f f = pz := funext fun i => x_self _
theorem padd_zero (f : PS) : padd f pz = f := funext fun i => x_zero _
theorem zero_padd (f : PS) : padd pz f = f := funext fun i => zero_x _
theorem padd_cancel (f g : PS) : padd f (padd f g) = g := by rw [← padd_assoc, padd_self, zero_padd]
theorem eq_of_padd {f g : PS} (h : padd f g = pz) : f = g := by
  have := congrArg (padd · g) h
  simpa [gmul_zero, zero_gmul, one_gmul, gmul_one, padd_assoc, padd_self, padd_zero, zero_padd] using this

/-! the product -/
theorem pmul_add_left : ∀ (n : Nat) (f f' g : PS), pmul (padd f f') g n = pmul f g n ^^^ pmul f' g n
  | 0, f, f', g => by simp [gmul_zero, zero_gmul, one_gmul, gmul_one, pmul, padd, xor_gmul]
  | n + 1, f, f', g => by
    have e : ptl (padd f f') = padd (ptl f) (ptl f') := rfl
    simp only [pmul, e, pmul_add_left n]
    simp only [padd, xor_gmul]
    rw [x_assoc, x_assoc]
    congr 1
    rw [x_left]
theorem pmul_add_right : ∀ (n : Nat) (f g g' : PS), pmul f (padd g g') n = pmul f g n ^^^ pmul f g' n
  | 0, f, g, g' => by simp [gmul_zero, zero_gmul, one_gmul, gmul_one, pmul, padd, gmul_xor]
  | n + 1, f, g, g' => by
    simp only [pmul, pmul_add_right n]
    simp only [padd, gmul_xor]
    rw [x_assoc, x_assoc]
    congr 1
    rw [x_left]
theorem pmul_sm_left : ∀ (n : Nat) (a : UInt8) (f g : PS), pmul (psm a f) g n = gmul a (pmul f g n)
  | 0, a, f, g => by simp [gmul_zero, zero_gmul, one_gmul, gmul_one, pmul, psm, gmul_assoc]
  | n + 1, a, f, g => by
    have e : ptl (psm a f) = psm a (ptl f) := rfl
    simp only [pmul, e, pmul_sm_left n, gmul_xor]
    simp only [psm, gmul_assoc]
/-- from the other end -/
theorem pmul_succ' : ∀ (n : Nat) (f g : PS), pmul f g (n + 1) = pmul f (ptl g) n ^^^ gmul (f (n + 1)) (g 0)
  | 0, f, g => by simp [gmul_zero, zero_gmul, one_gmul, gmul_one, pmul, ptl]
  | n + 1, f, g => by
    rw [pmul, pmul_succ' n (ptl f) g]
    rw [pmul, ← x_assoc]
    rfl
theorem pmul_comm_at : ∀ (n : Nat) (f g : PS), pmul f g n = pmul g f n
  | 0, f, g => gmul_comm ..
  | n + 1, f, g => by
    rw [pmul_succ' n g f, pmul, pmul_comm_at n (ptl f) g, gmul_comm, x_comm]
theorem pmul_assoc_at : ∀ (n : Nat) (f g k : PS), pmul (pmul f g) k n = pmul f (pmul g k) n
  | 0, f, g, k => by simp [gmul_zero, zero_gmul, one_gmul, gmul_one, pmul, gmul_assoc]
  | n + 1, f, g, k => by
    have e : ptl (pmul f g) = padd (psm (f 0) (ptl g)) (pmul (ptl f) g) := funext fun i => rfl
    rw [pmul, e, pmul_add_left, pmul_sm_left, pmul_assoc_at n (ptl f) g k]
    show _ = gmul (f 0) (pmul g k (n + 1)) ^^^ pmul (ptl f) (pmul g k) n
    rw [show pmul g k (n + 1) = gmul (g 0) (k (n + 1)) ^^^ pmul (ptl g) k n from rfl, gmul_xor, ← x_assoc, show pmul f g 0 = gmul (f 0) (g 0) from rfl, gmul_assoc, x_assoc]
theorem pmul_comm (f g : PS) : pmul f g = pmul g f := funext fun n => pmul_comm_at n f g
theorem pmul_assoc (f g k : PS) : pmul (pmul f g) k = pmul f (pmul g k) := funext fun n => pmul_assoc_at n f g k
theorem pmul_left (f g k : PS) : pmul f (pmul g k) = pmul g (pmul f k) := by rw [← pmul_assoc, pmul_comm f g, pmul_assoc]
theorem pmul_add (f g k : PS) : pmul f (padd g k) = padd (pmul f g) (pmul f k) := funext fun n => pmul_add_right n f g k
theorem add_pmul (f g k : PS) : pmul (padd f g) k = padd (pmul f k) (pmul g k) := funext fun n => pmul_add_left n f g k
theorem psm_pmul (a : UInt8) (f g : PS) : pmul (psm a f) g = psm a (pmul f g) := funext fun n => pmul_sm_left n a f g
theorem pmul_psm (a : UInt8) (f g : PS) : pmul f (psm a g) = psm a (pmul f g) := by rw [pmul_comm, psm_pmul, pmul_comm]
theorem zero_pmul_at : ∀ (n : Nat) (g : PS), pmul pz g n = 0
  | 0, g => by simp [gmul_zero, zero_gmul, one_gmul, gmul_one, pmul, pz]
  | n + 1, g => by
    have e : ptl pz = pz := rfl
    rw [pmul, e, zero_pmul_at n]; simp [gmul_zero, zero_gmul, one_gmul, gmul_one, pz]
theorem zero_pmul (g : PS) : pmul pz g = pz := funext fun n => zero_pmul_at n g
theorem pmul_zero (g : PS) : pmul g pz = pz := by rw [pmul_comm, zero_pmul]
theorem mono_zero (n : Nat) : mono 0 n = pz := funext fun i => by simp [gmul_zero, zero_gmul, one_gmul, gmul_one, mono, pz]
theorem ptl_mono (a : UInt8) (n : Nat) : ptl (mono a (n + 1)) = mono a n := funext fun i => by simp [gmul_zero, zero_gmul, one_gmul, gmul_one, ptl, mono]
theorem ptl_mono0 (a : UInt8) : ptl (mono a 0) = pz := funext fun i => by simp [gmul_zero, zero_gmul, one_gmul, gmul_one, ptl, mono, pz]
/-- a monomial shifts -/
theorem mono_pmul : ∀ (n : Nat) (a : UInt8) (g : PS) (i : Nat), pmul (mono a n) g i = if n ≤ i then gmul a (g (i - n)) else 0
  | 0, a, g, i => by
    cases i with
    | zero => simp [gmul_zero, zero_gmul, one_gmul, gmul_one, pmul, mono]
    | succ i => rw [pmul, ptl_mono0, zero_pmul_at]; simp [gmul_zero, zero_gmul, one_gmul, gmul_one, mono, x_zero]
  | n + 1, a, g, i => by
    cases i with
    | zero => simp [gmul_zero, zero_gmul, one_gmul, gmul_one, pmul, mono]
    | succ i =>
      rw [pmul, ptl_mono, mono_pmul n a g i]
      simp [gmul_zero, zero_gmul, one_gmul, gmul_one, mono, zero_x, Nat.add_sub_add_right]
theorem one_pmul (g : PS) : pmul pone g = g := funext fun i => by rw [mono_pmul]; simp [gmul_zero, zero_gmul, one_gmul, gmul_one]
theorem pmul_one (g : PS) : pmul g pone = g := by rw [pmul_comm, one_pmul]
theorem mono_mono (a b : UInt8) (m n : Nat) : pmul (mono a m) (mono b n) = mono (gmul a b) (m + n) := funext fun i => by
  rw [mono_pmul]
  unfold mono
  by_cases h : i = m + n
  · subst h; simp [gmul_zero, zero_gmul, one_gmul, gmul_one]
  · rw [if_neg h]
    by_cases h2 : m ≤ i
    · rw [if_pos h2, if_neg (by omega)]; simp [gmul_zero, zero_gmul, one_gmul, gmul_one]
    · rw [if_neg h2]
theorem psm_mono (a b : UInt8) (n : Nat) : psm a (mono b n) = mono (gmul a b) n := funext fun i => by
  unfold psm mono; split <;> simp [gmul_zero, zero_gmul, one_gmul, gmul_one]
theorem psm_eq (a : UInt8) (f : PS) : psm a f = pmul (mono a 0) f := funext fun i => by rw [mono_pmul]; simp [gmul_zero, zero_gmul, one_gmul, gmul_one, psm]
theorem mono_add (a b : UInt8) (n : Nat) : padd (mono a n) (mono b n) = mono (a ^^^ b) n := funext fun i => by
  unfold padd mono; split <;> simp [gmul_zero, zero_gmul, one_gmul, gmul_one, x_zero]

/-! degrees -/
def Dg (f : PS) (n : Nat) : Prop := ∀ i, n ≤ i → f i = 0
theorem Dg.mono {f : PS} {m n : Nat} (h : Dg f m) (hn : m ≤ n) : Dg f n := fun i hi => h i (by omega)
theorem Dg.add {f g : PS} {n : Nat} (hf : Dg f n) (hg : Dg g n) : Dg (padd f g) n := fun i hi => by simp [gmul_zero, zero_gmul, one_gmul, gmul_one, padd, hf i hi, hg i hi]
theorem Dg.add' {f g : PS} {m n : Nat} (hf : Dg f m) (hg : Dg g n) : Dg (padd f g) (m + n) := (hf.mono (by omega)).add (hg.mono (by omega))
theorem dg_mono (a : UInt8) (n : Nat) : Dg (mono a n) (n + 1) := fun i hi => by simp [gmul_zero, zero_gmul, one_gmul, gmul_one, Mine.mono]; omega
theorem dg_zero (n : Nat) : Dg pz n := fun _ _ => rfl
/-- the top of a product -/
theorem pmul_top : ∀ (m : Nat) (f g : PS) (n : Nat), Dg f (m + 1) → Dg g (n + 1) → pmul f g (m + n) = gmul (f m) (g n) ∧ Dg (pmul f g) (m + n + 1)
  | 0, f, g, n, hf, hg => by
    have e : f = mono (f 0) 0 := funext fun i => by
      unfold Mine.mono
      split
      · subst_vars; rfl
      · exact hf i (by omega)
    rw [e]
    refine ⟨by rw [mono_pmul]; simp [gmul_zero, zero_gmul, one_gmul, gmul_one, Mine.mono], fun i hi => ?_⟩
    rw [mono_pmul, if_pos (Nat.zero_le _), Nat.sub_zero, hg i (by omega), gmul_zero]
  | m + 1, f, g, n, hf, hg => by
    obtain ⟨h1, h2⟩ := pmul_top m (ptl f) g n (fun i hi => hf (i + 1) (by omega)) hg
    constructor
    · rw [show m + 1 + n = (m + n) + 1 by omega, pmul, h1, hg (m + n + 1) (by omega)]
      simp [gmul_zero, zero_gmul, one_gmul, gmul_one, zero_x, ptl]
    · intro i hi
      obtain ⟨j, rfl⟩ : ∃ j, i = j + 1 := ⟨i - 1, by omega⟩
      rw [pmul, h2 j (by omega), hg (j + 1) (by omega)]
      simp [gmul_zero, zero_gmul, one_gmul, gmul_one]
theorem Dg.mul {f g : PS} {m n : Nat} (hf : Dg f m) (hg : Dg g n) : Dg (pmul f g) (m + n) := by
  intro i hi
  exact (pmul_top m f g n (hf.mono (by omega)) (hg.mono (by omega))).2 i |> fun h => by
    by_cases e : i = m + n
    · subst e
      rw [(pmul_top m f g n (hf.mono (by omega)) (hg.mono (by omega))).1, hf m (Nat.le_refl _)]
      simp [gmul_zero, zero_gmul, one_gmul, gmul_one]
    · exact h (by omega)
theorem Dg.mul1 {f g : PS} {m n : Nat} (hf : Dg f (m + 1)) (hg : Dg g (n + 1)) : Dg (pmul f g) (m + n + 1) := (pmul_top m f g n hf hg).2
/-- a polynomial that is not nought has a top -/
theorem top_of {f : PS} : ∀ {n : Nat}, Dg f n → f = pz ∨ ∃ m, m < n ∧ f m ≠ 0 ∧ Dg f (m + 1)
  | 0, h => .inl (funext fun i => h i (Nat.zero_le _))
  | n + 1, h => by
    by_cases e : f n = 0
    · have h' : Dg f n := fun i hi => by
        by_cases q : i = n
        · rw [q, e]
        · exact h i (by omega)
      rcases top_of h' with h1 | ⟨m, a, b, c⟩
      · exact .inl h1
      · exact .inr ⟨m, by omega, b, c⟩
    · exact .inr ⟨n, by omega, e, h⟩

def Monic (f : PS) (n : Nat) : Prop := f n = 1 ∧ Dg f (n + 1)
theorem Monic.mul {f g : PS} {m n : Nat} (hf : Monic f m) (hg : Monic g n) : Monic (pmul f g) (m + n) := by
  obtain ⟨h1, h2⟩ := pmul_top m f g n hf.2 hg.2
  exact ⟨by rw [h1, hf.1, hg.1]; decide +kernel, h2⟩
theorem monic_one : Monic pone 0 := ⟨rfl, dg_mono 1 0⟩
/-- no multiple of a monic one is short -/
theorem short_multiple {q g : PS} {n d : Nat} (hq : Dg q n) (hg : Monic g d) (hs : Dg (pmul q g) d) : q = pz := by
  rcases top_of hq with h | ⟨m, _, h1, h2⟩
  · exact h
  · exfalso
    have t := (pmul_top m q g d h2 hg.2).1
    rw [hs (m + d) (by omega), hg.1, gmul_one] at t
    exact h1 t.symm
theorem monic_unique {f g : PS} {m n : Nat} (hf : Monic f m) (hg : Monic g n) (e : f = g) : m = n := by
  subst e
  by_cases h : m < n
  · have := hf.2 n (by omega); rw [hg.1] at this; exact absurd this (by decide)
  by_cases h' : n < m
  · have := hg.2 m (by omega); rw [hf.1] at this; exact absurd this (by decide)
  omega

/-- g divides f -/
def Dv (g f : PS) : Prop := ∃ q n, Dg q n ∧ f = pmul q g
theorem Dv.refl (g : PS) : Dv g g := ⟨pone, 1, dg_mono 1 0, (one_pmul g).symm⟩
theorem Dv.add {g f f' : PS} (h : Dv g f) (h' : Dv g f') : Dv g (padd f f') := by
  obtain ⟨q, n, d, rfl⟩ := h
  obtain ⟨q', n', d', rfl⟩ := h'
  exact ⟨padd q q', n + n', d.add' d', (add_pmul ..).symm⟩
theorem Dv.mul {g f : PS} (h : Dv g f) {k : PS} {n : Nat} (hk : Dg k n) : Dv g (pmul k f) := by
  obtain ⟨q, m, d, rfl⟩ := h
  exact ⟨pmul k q, n + m, hk.mul d, (pmul_assoc ..).symm⟩
theorem Dv.zero (g : PS) : Dv g pz := ⟨pz, 0, dg_zero 0, (zero_pmul g).symm⟩
/-- two monic ones that divide each other are one -/
theorem Dv.antisymm {f g : PS} {m n : Nat} (hf : Monic f m) (hg : Monic g n) (h : Dv f g) (h' : Dv g f) : f = g := by
  obtain ⟨q, a, dq, e⟩ := h
  obtain ⟨q', a', dq', e'⟩ := h'
  have one_ne : (1 : UInt8) ≠ 0 := by decide
  rcases top_of dq with h | ⟨t, _, h1, h2⟩
  · rw [h, zero_pmul] at e; rw [e] at hg; exact absurd hg.1.symm one_ne
  rcases top_of dq' with h | ⟨t', _, h1', h2'⟩
  · rw [h, zero_pmul] at e'; rw [e'] at hf; exact absurd hf.1.symm one_ne
  have p := pmul_top t q f m h2 hf.2
  have p' := pmul_top t' q' g n h2' hg.2
  rw [← e, hf.1, gmul_one] at p
  rw [← e', hg.1, gmul_one] at p'
  have l1 : t + m ≤ n := by
    by_cases c : t + m ≤ n
    · exact c
    · exfalso; have := hg.2 (t + m) (by omega); rw [p.1] at this; exact h1 this
  have l2 : t' + n ≤ m := by
    by_cases c : t' + n ≤ m
    · exact c
    · exfalso; have := hf.2 (t' + n) (by omega); rw [p'.1] at this; exact h1' this
  obtain rfl : t = 0 := by omega
  obtain rfl : m = n := by omega
  have e1 : q 0 = 1 := by
    have := p.1
    rw [Nat.zero_add, hg.1] at this
    exact this.symm
  have eq : q = pone := funext fun i => by
    unfold pone Mine.mono
    split
    · subst_vars; exact e1
    · exact h2 i (by omega)
  rw [e, eq, one_pmul]

/-- no common factor -/
def Cop (f g : PS) : Prop := ∃ u v n, Dg u n ∧ Dg v n ∧ padd (pmul u f) (pmul v g) = pone
theorem Cop.symm {f g : PS} (h : Cop f g) : Cop g f := by
  obtain ⟨u, v, n, a, b, e⟩ := h
  exact ⟨v, u, n, b, a, by rw [padd_comm]; exact e⟩
theorem cop_one (f : PS) : Cop f pone := ⟨pz, pone, 1, dg_zero 1, dg_mono 1 0, by rw [zero_pmul, zero_padd, one_pmul]⟩
theorem Cop.mul {f g g' : PS} {m : Nat} (hf : Dg f m) {k : Nat} (hg : Dg g k) (hg' : Dg g' k) (h : Cop f g) (h' : Cop f g') : Cop f (pmul g g') := by
  obtain ⟨u, v, n, a, b, e⟩ := h
  obtain ⟨u', v', n', a', b', e'⟩ := h'
  -- one = (u f + v g) (u' f + v' g')
  have key : padd (pmul (padd (pmul u (padd (pmul u' f) (pmul v' g'))) (pmul (pmul v g) u')) f) (pmul (pmul v v') (pmul g g')) = pone := by
    have h2 : pmul (padd (pmul u f) (pmul v g)) (padd (pmul u' f) (pmul v' g')) = pone := by rw [e, e', one_pmul]
    rw [← h2, add_pmul, add_pmul, padd_assoc]
    congr 1
    · rw [pmul_assoc, pmul_assoc, pmul_comm f]
    · rw [pmul_add]
      congr 1
      · rw [pmul_assoc]
      · rw [pmul_assoc, pmul_assoc, pmul_left v' g g']
  exact ⟨_, _, (n + ((n' + m) + (n' + k))) + ((n + k) + n') + (n + n'), ((a.mul ((a'.mul hf).add' (b'.mul hg'))).add' ((b.mul hg).mul a')).mono (by omega), (b.mul b').mono (by omega), key⟩
end
end Mine

/-! part MCo -/
namespace Mine
noncomputable section
/-- a list of octets, the highest first, as a polynomial -/
def co : List UInt8 → PS
  | [] => pz
  | a :: l => padd (mono a l.length) (co l)
theorem dg_co : ∀ l : List UInt8, Dg (co l) l.length
  | [] => dg_zero 0
  | a :: l => (dg_mono a l.length).add ((dg_co l).mono (by simp [gmul_zero, zero_gmul, one_gmul, gmul_one]))
theorem co_zero_cons (l : List UInt8) : co (0 :: l) = co l := by rw [co, mono_zero, zero_padd]
theorem co_replicate : ∀ n : Nat, co (List.replicate n 0) = pz
  | 0 => rfl
  | n + 1 => by rw [List.replicate_succ, co_zero_cons, co_replicate n]
theorem co_append : ∀ l m : List UInt8, co (l ++ m) = padd (pmul (mono 1 m.length) (co l)) (co m)
  | [], m => by rw [List.nil_append, co, pmul_zero, zero_padd]
  | a :: l, m => by
    rw [List.cons_append, co, co_append l m, co, pmul_add, mono_mono, one_gmul, List.length_append, padd_assoc, Nat.add_comm]
theorem co_monic (l : List UInt8) : Monic (co (1 :: l)) l.length := by
  refine ⟨?_, by simpa [gmul_zero, zero_gmul, one_gmul, gmul_one] using dg_co (1 :: l)⟩
  rw [co]
  simp [gmul_zero, zero_gmul, one_gmul, gmul_one, padd, mono, dg_co l l.length (Nat.le_refl _), x_zero]
theorem co_set_xor : ∀ (l : List UInt8) (k : Nat) (v a : UInt8), l[k]? = some a → co (l.set k (a ^^^ v)) = padd (co l) (mono v (l.length - 1 - k))
  | [], k, v, a, h => by simp [gmul_zero, zero_gmul, one_gmul, gmul_one] at h
  | b :: l, 0, v, a, h => by
    simp [gmul_zero, zero_gmul, one_gmul, gmul_one] at h
    subst h
    simp only [List.set_cons_zero, co, List.length_cons, Nat.add_sub_cancel, Nat.sub_zero]
    rw [← mono_add, padd_assoc, padd_comm (mono v _), ← padd_assoc]
  | b :: l, k + 1, v, a, h => by
    simp only [List.getElem?_cons_succ] at h
    simp only [List.set_cons_succ, co, List.length_set, List.length_cons, Nat.add_sub_cancel]
    rw [co_set_xor l k v a h, padd_assoc, show l.length - (k + 1) = l.length - 1 - k by omega]
theorem co_inj : ∀ {l m : List UInt8}, l.length = m.length → co l = co m → l = m
  | [], [], _, _ => rfl
  | a :: l, b :: m, hl, h => by
    have hl' : l.length = m.length := by simpa [gmul_zero, zero_gmul, one_gmul, gmul_one] using hl
    have e := congrFun h l.length
    simp only [co, padd, mono, if_true, hl', dg_co l l.length (Nat.le_refl _), dg_co m m.length (Nat.le_refl _), x_zero] at e
    have e0 : a = b := by
      have z : co l m.length = 0 := by rw [← hl']; exact dg_co l l.length (Nat.le_refl _)
      rw [z] at e
      simpa [gmul_zero, zero_gmul, one_gmul, gmul_one, x_zero] using e
    subst e0
    simp only [co, hl'] at h
    have h' : co l = co m := by
      have := congrArg (padd (mono a m.length)) h
      simpa [gmul_zero, zero_gmul, one_gmul, gmul_one, padd_cancel] using this
    rw [co_inj hl' h']
  | [], _ :: _, hl, _ => by simp [gmul_zero, zero_gmul, one_gmul, gmul_one] at hl
  | _ :: _, [], hl, _ => by simp [gmul_zero, zero_gmul, one_gmul, gmul_one] at hl
theorem co_scale (x : UInt8) : ∀ l : List UInt8, co (l.map fun a => gmul a x) = psm x (co l)
  | [] => by rw [psm_eq]; exact (pmul_zero _).symm
  | a :: l => by
    rw [List.map_cons, co, co_scale x l, co, psm_eq, psm_eq, pmul_add, mono_mono, List.length_map, gmul_comm x a]
    simp [gmul_zero, zero_gmul, one_gmul, gmul_one]

/-- the first i places -/
def psum (q : List UInt8) (i : Nat) : PS := pmul (mono 1 (q.length - i)) (co (q.take i))
theorem psum_zero (q : List UInt8) : psum q 0 = pz := by simp [gmul_zero, zero_gmul, one_gmul, gmul_one, psum, co, pmul_zero]
theorem psum_full (q : List UInt8) : psum q q.length = co q := by
  simp only [psum, Nat.sub_self, List.take_length]
  exact one_pmul _
theorem psum_succ {q : List UInt8} {i : Nat} {a : UInt8} (h : q[i]? = some a) : psum q (i + 1) = padd (psum q i) (mono a (q.length - 1 - i)) := by
  have hi : i < q.length := (List.getElem?_eq_some_iff.mp h).1
  unfold psum
  rw [List.take_add_one, h, Option.toList_some, co_append, pmul_add, ← pmul_assoc, mono_mono, one_gmul]
  congr 1
  · congr 2
    simp only [List.length_cons, List.length_nil]
    omega
  · rw [co, co, padd_zero, mono_mono, one_gmul]
    congr 1
    simp [gmul_zero, zero_gmul, one_gmul, gmul_one]
    omega
theorem psum_top {q : List UInt8} {i : Nat} (h : q.length ≤ i) : psum q i = co q := by
  unfold psum
  rw [List.take_of_length_le h, show q.length - i = 0 by omega]
  exact one_pmul _

/-! products of linear factors -/
def lin (r : UInt8) : PS := co [1, r]
theorem lin_eq (r : UInt8) : lin r = padd (mono 1 1) (mono r 0) := by simp [gmul_zero, zero_gmul, one_gmul, gmul_one, lin, co, padd_zero]
theorem lin_monic (r : UInt8) : Monic (lin r) 1 := co_monic [r]
def prodR : List UInt8 → PS
  | [] => pone
  | r :: l => pmul (lin r) (prodR l)
theorem prodR_monic : ∀ l : List UInt8, Monic (prodR l) l.length
  | [] => monic_one
  | r :: l => by
    have := (lin_monic r).mul (prodR_monic l)
    rwa [Nat.add_comm] at this
theorem dg_prodR (l : List UInt8) : Dg (prodR l) (l.length + 1) := (prodR_monic l).2
theorem prodR_append : ∀ l m : List UInt8, prodR (l ++ m) = pmul (prodR l) (prodR m)
  | [], m => (one_pmul _).symm
  | r :: l, m => by rw [List.cons_append, prodR, prodR_append l m, prodR, pmul_assoc]
theorem prodR_perm {l m : List UInt8} (h : l.Perm m) : prodR l = prodR m := by
  induction h with
  | nil => rfl
  | cons x _ ih => rw [prodR, prodR, ih]
  | swap x y l => rw [prodR, prodR, prodR, prodR, pmul_left]
  | trans _ _ i1 i2 => rw [i1, i2]
theorem prodR_snoc (l : List UInt8) (r : UInt8) : prodR (l ++ [r]) = pmul (prodR l) (lin r) := by rw [prodR_append]; simp [gmul_zero, zero_gmul, one_gmul, gmul_one, prodR, pmul_one]

theorem cop_lin {r s : UInt8} (h : r ≠ s) : Cop (lin r) (lin s) := by
  have hd : r ^^^ s ≠ 0 := fun e => h (by
    have := congrArg (· ^^^ s) e
    simpa [gmul_zero, zero_gmul, one_gmul, gmul_one, x_assoc, x_self, x_zero, zero_x] using this)
  refine ⟨mono (ginv (r ^^^ s)) 0, mono (ginv (r ^^^ s)) 0, 1, dg_mono _ 0, dg_mono _ 0, ?_⟩
  rw [← pmul_add, lin_eq, lin_eq, padd_assoc, padd_left (mono r 0), ← padd_assoc, padd_self, zero_padd, mono_add, mono_mono, gmul_comm, gmul_inv hd]
theorem cop_lin_prod {r : UInt8} : ∀ {m : List UInt8}, (∀ s ∈ m, r ≠ s) → Cop (lin r) (prodR m)
  | [], _ => cop_one _
  | s :: m, h => Cop.mul (lin_monic r).2 ((lin_monic s).2.mono (n := m.length + 2) (by omega)) ((dg_prodR m).mono (by omega)) (cop_lin (h s (.head _))) (cop_lin_prod fun t ht => h t (.tail _ ht))
theorem cop_prod : ∀ {l m : List UInt8}, (∀ r ∈ l, ∀ s ∈ m, r ≠ s) → Cop (prodR l) (prodR m)
  | [], m, _ => (cop_one _).symm
  | r :: l, m, h => (Cop.mul (dg_prodR m) ((lin_monic r).2.mono (n := l.length + 2) (by omega)) ((dg_prodR l).mono (by omega)) (cop_lin_prod (h r (.head _))).symm (cop_prod fun r' hr => h r' (.tail _ hr)).symm).symm

/-- what Euclid's way ends at -/
theorem gcd_eq {f s c r1 r2 : List UInt8} {D u v : PS} {d n : Nat} (hD : Monic D d) (hA : Dv D (prodR f)) (hB : Dv D (prodR s)) (hu : Dg u n) (hv : Dg v n) (e : D = padd (pmul u (prodR f)) (pmul v (prodR s)))
    (pf : f.Perm (c ++ r1)) (ps : s.Perm (c ++ r2)) (hd : ∀ r ∈ r1, ∀ s ∈ r2, r ≠ s) : D = prodR c := by
  have eA : prodR f = pmul (prodR r1) (prodR c) := by rw [prodR_perm pf, prodR_append, pmul_comm]
  have eB : prodR s = pmul (prodR r2) (prodR c) := by rw [prodR_perm ps, prodR_append, pmul_comm]
  obtain ⟨a, b, k, da, db, ec⟩ := cop_prod hd
  refine Dv.antisymm hD (prodR_monic c) ?_ ?_
  · have : prodR c = padd (pmul a (prodR f)) (pmul b (prodR s)) := by
      rw [eA, eB, ← pmul_assoc, ← pmul_assoc, ← add_pmul, ec, one_pmul]
    rw [this]
    exact (hA.mul da).add (hB.mul db)
  · rw [e, eA, eB]
    exact (Dv.mul ⟨prodR r1, _, dg_prodR r1, rfl⟩ hu).add (Dv.mul ⟨prodR r2, _, dg_prodR r2, rfl⟩ hv)
end
end Mine

/-! part MCl -/
namespace Mine
noncomputable section
open PySem PySem.W PyProof.Rows
open Sem (wp)
def Picks (bs : List (Str × Value)) : List (Str × Value) → Prop
  | [] => True
  | (x, v) :: r => bs.lookup x = some v ∧ Picks bs r
theorem Picks.at {bs : List (Str × Value)} : ∀ {bs' : List (Str × Value)}, Picks bs bs' → ∀ x v, bs'.lookup x = some v → bs.lookup x = some v
  | [], _, x, v, e => by cases e
  | (y, u) :: r, ⟨h1, h2⟩, x, v, e => by
    rw [List.lookup_cons] at e
    by_cases q : x = y
    · subst q
      simp at e
      rw [← e]; exact h1
    · rw [beq_eq_false_iff_ne.mpr q] at e
      exact h2.at x v e
theorem Fm.pick {B h : Heap} {L : Addr} {bs : List (Str × Value)} {os : List (Addr × Obj)} (F : Fm B L h bs os) (bs' : List (Str × Value)) (hb : Picks bs bs') : Fm B L h bs' os := F.names hb.at

section
variable {w : World} {A : Around} {h : Heap} {env : Env} {gl : List (Str × Value)} {no : List Str} {d : Ad} {Q : Value → Heap → Prop}

theorem rLen {e : Expr} {p pos : Pos} (N : Nm gl no h) (y : W w A (eval e env) (fun v h₁ => W w A (call (.builtin "len") [v]) Q h₁) h)
    (hn : no.contains (Str.ofString "len") = true := by rfl) (hs : starEach [e] env = [(false, eval e env)] := by rfl)
    (hk : env.scope.kind = .function := by rfl) (hx : env.kindOf (Str.ofString "len") = some .globalImplicit := by rfl) (hg : env.globals = mainGlobals := by rfl) (hb : env.builtins = builtinsNs := by rfl) :
    W w A (eval (.Call (.Name (Str.ofString "len") p) [e] [] pos) env) Q h := by
  refine rCall (rBlt N hn rfl ?_ hk hx hg hb)
  rw [hs]
  exact rCwB rfl (rArgs (rSplice (y.mono fun v h₁ q => rSplice0 q)))
/-- f(e) of one argument -/
theorem rC1 {f : Value} {nm : Str} {e : Expr} {p pos : Pos} (yf : ∀ {R : Value → Heap → Prop}, R f h → W w A (eval (.Name nm p) env) R h) (y : W w A (eval e env) (fun v h₁ => W w A (call f [v]) Q h₁ ∧ ((∃ T, f = .type T) ∨ (∃ T, f = .builtin T) ∨ ∃ a o fd, f = .ref a ∧ h₁.get? a = some o ∧ o.data = .func fd)) h)
    (hs : starEach [e] env = [(false, eval e env)] := by rfl) : W w A (eval (.Call (.Name nm p) [e] [] pos) env) Q h := by
  refine rCall (yf ?_)
  rw [hs]
  unfold callWith
  refine W.bind (W.holding (rArgs (rSplice (y.mono fun v h₁ q => rSplice0 (W.bind (W.standAt ?_))))))
  obtain ⟨q, ⟨T, rfl⟩ | ⟨T, rfl⟩ | ⟨a, o, fd, rfl, ho, hd⟩⟩ := q
  · exact W.bind (W.pure (W.bind (q.mono fun r h₂ q => W.bind (W.holding (W.point (W.pure q))))))
  · exact W.bind (W.pure (W.bind (q.mono fun r h₂ q => W.bind (W.holding (W.point (W.pure q))))))
  · have tail : ∀ {t : Sem Value}, W w A t Q h₁ → W w A (t >>= fun r => holding [r] point >>= fun _ => pure r) Q h₁ := fun ht => W.bind (ht.mono fun r h₂ q => W.bind (W.holding (W.point (W.pure q))))
    refine W.bind (m := keeperOf (.ref a)) ?_
    unfold keeperOf
    refine W.bind (W.load ho ?_)
    rw [hd]
    refine W.pure ?_
    dsimp only
    refine W.ite ?_
    split
    · exact tail q
    · exact tail (by unfold callMarked; exact W.keep q)
/-- T(e), T a type's name among the globals -/
theorem rT1 {nm : Str} {T : String} {e : Expr} {p pos : Pos} (G : Gl d h) (y : W w A (eval e env) (fun v h₁ => W w A (call (.type T) [v]) Q h₁) h)
    (hl : (glob d).lookup nm = some (.type T) := by rfl) (hs : starEach [e] env = [(false, eval e env)] := by rfl)
    (hk : env.scope.kind = .function := by rfl) (hx : env.kindOf nm = some .globalImplicit := by rfl) (hg : env.globals = mainGlobals := by rfl) (hd : (nm == ("__debug__" : Str)) = false := by decide) :
    W w A (eval (.Call (.Name nm p) [e] [] pos) env) Q h := by
  refine rCall (rGlob G.nm hl ?_ hk hx hg hd)
  rw [hs]
  exact rCwT rfl (rArgs (rSplice (y.mono fun v h₁ q => rSplice0 q)))
/-- T(e), T a built-in type -/
theorem rB1 {nm : Str} {T : String} {e : Expr} {p pos : Pos} (G : Gl d h) (y : W w A (eval e env) (fun v h₁ => W w A (call (.type T) [v]) Q h₁) h)
    (hn : noGl.contains nm = true := by rfl) (hl : blts.lookup nm = some (.type T) := by rfl) (hs : starEach [e] env = [(false, eval e env)] := by rfl)
    (hk : env.scope.kind = .function := by rfl) (hx : env.kindOf nm = some .globalImplicit := by rfl) (hg : env.globals = mainGlobals := by rfl) (hb : env.builtins = builtinsNs := by rfl) (hd : (nm == ("__debug__" : Str)) = false := by decide) :
    W w A (eval (.Call (.Name nm p) [e] [] pos) env) Q h := by
  refine rCall (rBlt G.nm hn hl ?_ hk hx hg hb hd)
  rw [hs]
  exact rCwT rfl (rArgs (rSplice (y.mono fun v h₁ q => rSplice0 q)))
/-- f(a, b), f a built-in function -/
theorem rB2 {nm : Str} {T : String} {e e' : Expr} {p pos : Pos} (G : Gl d h) (y : W w A (eval e env) (fun v h₁ => W w A (eval e' env) (fun v' h₂ => W w A (call (.builtin T) [v, v']) Q h₂) h₁) h)
    (hn : noGl.contains nm = true := by rfl) (hl : blts.lookup nm = some (.builtin T) := by rfl) (hs : starEach [e, e'] env = [(false, eval e env), (false, eval e' env)] := by rfl)
    (hk : env.scope.kind = .function := by rfl) (hx : env.kindOf nm = some .globalImplicit := by rfl) (hg : env.globals = mainGlobals := by rfl) (hb : env.builtins = builtinsNs := by rfl) (hd : (nm == ("__debug__" : Str)) = false := by decide) :
    W w A (eval (.Call (.Name nm p) [e, e'] [] pos) env) Q h := by
  refine rCall (rBlt G.nm hn hl ?_ hk hx hg hb hd)
  rw [hs]
  exact rCwB rfl (rArgs (rSplice (y.mono fun v h₁ q => rSplice (q.mono fun v' h₂ q => rSplice0 q))))
/-- xrange(a, b) -/
theorem rT2 {nm : Str} {T : String} {e e' : Expr} {p pos : Pos} (G : Gl d h) (y : W w A (eval e env) (fun v h₁ => W w A (eval e' env) (fun v' h₂ => W w A (call (.type T) [v, v']) Q h₂) h₁) h)
    (hl : (glob d).lookup nm = some (.type T) := by rfl) (hs : starEach [e, e'] env = [(false, eval e env), (false, eval e' env)] := by rfl)
    (hk : env.scope.kind = .function := by rfl) (hx : env.kindOf nm = some .globalImplicit := by rfl) (hg : env.globals = mainGlobals := by rfl) (hd : (nm == ("__debug__" : Str)) = false := by decide) :
    W w A (eval (.Call (.Name nm p) [e, e'] [] pos) env) Q h := by
  refine rCall (rGlob G.nm hl ?_ hk hx hg hd)
  rw [hs]
  exact rCwT rfl (rArgs (rSplice (y.mono fun v h₁ q => rSplice (q.mono fun v' h₂ q => rSplice0 q))))
/-- range(a, b, c) -/
theorem rB3 {nm : Str} {T : String} {e e' e'' : Expr} {p pos : Pos} (G : Gl d h) (y : W w A (eval e env) (fun v h₁ => W w A (eval e' env) (fun v' h₂ => W w A (eval e'' env) (fun v'' h₃ => W w A (call (.type T) [v, v', v'']) Q h₃) h₂) h₁) h)
    (hn : noGl.contains nm = true := by rfl) (hl : blts.lookup nm = some (.type T) := by rfl) (hs : starEach [e, e', e''] env = [(false, eval e env), (false, eval e' env), (false, eval e'' env)] := by rfl)
    (hk : env.scope.kind = .function := by rfl) (hx : env.kindOf nm = some .globalImplicit := by rfl) (hg : env.globals = mainGlobals := by rfl) (hb : env.builtins = builtinsNs := by rfl) (hd : (nm == ("__debug__" : Str)) = false := by decide) :
    W w A (eval (.Call (.Name nm p) [e, e', e''] [] pos) env) Q h := by
  refine rCall (rBlt G.nm hn hl ?_ hk hx hg hb hd)
  rw [hs]
  exact rCwT rfl (rArgs (rSplice (y.mono fun v h₁ q => rSplice (q.mono fun v' h₂ q => rSplice (q.mono fun v'' h₃ q => rSplice0 q)))))
/-- calls of the text's own functions -/
theorem rOwn1 {nm : Str} {a : Addr} {i : Nat} {e : Expr} {p pos : Pos} (G : Gl d h) (y : W w A (eval e env) (fun v h₁ => Fn h₁ a i nm ∧ W w A (call (.ref a) [v]) Q h₁) h)
    (hl : (glob d).lookup nm = some (.ref a) := by rfl) (hs : starEach [e] env = [(false, eval e env)] := by rfl)
    (hk : env.scope.kind = .function := by rfl) (hx : env.kindOf nm = some .globalImplicit := by rfl) (hg : env.globals = mainGlobals := by rfl) (hd : (nm == ("__debug__" : Str)) = false := by decide) :
    W w A (eval (.Call (.Name nm p) [e] [] pos) env) Q h := by
  refine rCall (rGlob G.nm hl ?_ hk hx hg hd)
  rw [hs]
  exact rCwF rfl (rArgs (rSplice (y.mono fun v h₁ q => rSplice0 ⟨let ⟨pm, cd, e, c⟩ := q.1; ⟨_, _, e, rfl⟩, q.2⟩)))
theorem rOwn2 {nm : Str} {a : Addr} {i : Nat} {e e' : Expr} {p pos : Pos} (G : Gl d h) (y : W w A (eval e env) (fun v h₁ => W w A (eval e' env) (fun v' h₂ => Fn h₂ a i nm ∧ W w A (call (.ref a) [v, v']) Q h₂) h₁) h)
    (hl : (glob d).lookup nm = some (.ref a) := by rfl) (hs : starEach [e, e'] env = [(false, eval e env), (false, eval e' env)] := by rfl)
    (hk : env.scope.kind = .function := by rfl) (hx : env.kindOf nm = some .globalImplicit := by rfl) (hg : env.globals = mainGlobals := by rfl) (hd : (nm == ("__debug__" : Str)) = false := by decide) :
    W w A (eval (.Call (.Name nm p) [e, e'] [] pos) env) Q h := by
  refine rCall (rGlob G.nm hl ?_ hk hx hg hd)
  rw [hs]
  exact rCwF rfl (rArgs (rSplice (y.mono fun v h₁ q => rSplice (q.mono fun v' h₂ q => rSplice0 ⟨let ⟨pm, cd, e, c⟩ := q.1; ⟨_, _, e, rfl⟩, q.2⟩))))
theorem rOwn3 {nm : Str} {a : Addr} {i : Nat} {e e' e'' : Expr} {p pos : Pos} (G : Gl d h) (y : W w A (eval e env) (fun v h₁ => W w A (eval e' env) (fun v' h₂ => W w A (eval e'' env) (fun v'' h₃ => Fn h₃ a i nm ∧ W w A (call (.ref a) [v, v', v'']) Q h₃) h₂) h₁) h)
    (hl : (glob d).lookup nm = some (.ref a) := by rfl) (hs : starEach [e, e', e''] env = [(false, eval e env), (false, eval e' env), (false, eval e'' env)] := by rfl)
    (hk : env.scope.kind = .function := by rfl) (hx : env.kindOf nm = some .globalImplicit := by rfl) (hg : env.globals = mainGlobals := by rfl) (hd : (nm == ("__debug__" : Str)) = false := by decide) :
    W w A (eval (.Call (.Name nm p) [e, e', e''] [] pos) env) Q h := by
  refine rCall (rGlob G.nm hl ?_ hk hx hg hd)
  rw [hs]
  exact rCwF rfl (rArgs (rSplice (y.mono fun v h₁ q => rSplice (q.mono fun v' h₂ q => rSplice (q.mono fun v'' h₃ q => rSplice0 ⟨let ⟨pm, cd, e, c⟩ := q.1; ⟨_, _, e, rfl⟩, q.2⟩)))))

theorem gf_inverse_W {x : UInt8} {t : Tok} (G : Gl d h) (o : Ok 1 A) (q : ∀ h' k, Ext h h' → Q (.int (ginv x).toNat k) h') : W w A (call (.ref d.inv) [.int x.toNat t]) Q h := by
  refine rFn (binds := [(Str.ofString "x", .int x.toNat t)]) G G.inv o (fun pm cd => rfl) (locs rfl) (by decide +kernel) fun cd h₁ F G => ?_
  obtain ⟨a, ha, ea⟩ := log_at x
  have hl := lg_lt x
  refine rCons (rReturn (rSubBa (rGlob G.nm rfl (rBin (rGlob G.nm rfl (rSubBa (rGlob G.nm rfl (rLocal F rfl ⟨_, _, rfl, G.log, wBaGet G.log (Int.natCast_nonneg _) (by have := x.toNat_lt; omega) ha fun k1 => ?_⟩))))))))
  refine wSub fun k2 => ?_
  have e1 : (255 : Int) - a.toNat = ((255 - lg x : Nat) : Int) := by rw [ea]; omega
  rw [e1]
  exact ⟨_, _, rfl, G.exp, wBaGet G.exp (Int.natCast_nonneg _) (by omega) (exp_at (i := 255 - lg x) (by omega)) fun k5 => q h₁ k5 F.keep⟩

theorem x_u8 (a b : UInt8) : ((a.toNat ^^^ b.toNat : Nat) : Int).toNat.toUInt8 = a ^^^ b := by
  rw [Int.toNat_natCast, ← UInt8.toNat_xor]; exact UInt8.ofNat_toNat
theorem x_lt (a b : UInt8) : ((a.toNat ^^^ b.toNat : Nat) : Int) < 256 := by
  rw [← UInt8.toNat_xor]; have := (a ^^^ b).toNat_lt; omega

end
end
end Mine

/-! part MFn1 -/
namespace Mine
noncomputable section
open PySem PySem.W PyProof.Rows
open Sem (wp)
section
variable {w : World} {A : Around} {h : Heap} {env : Env} {gl : List (Str × Value)} {no : List Str} {d : Ad} {Q : Value → Heap → Prop}

theorem gf_poly_add_W {a b : Addr} {p q : List UInt8} (G₀ : Gl d h) (o : Ok 1 A) (hp : h.get? a = some (bl p)) (hq : h.get? b = some (bl q)) (zp : p.length < 1000) (zq : q.length < 1000)
    (k : ∀ r h' l, Ext h h' → h.objs.size ≤ r → h'.get? r = some (bl l) → l.length = max p.length q.length → co l = padd (co p) (co q) → Q (.ref r) h') : W w A (call (.ref d.add) [.ref a, .ref b]) Q h := by
  refine rFn (binds := [(Str.ofString "p", .ref a), (Str.ofString "q", .ref b)]) G₀ G₀.add o (fun pm cd => rfl) (locs rfl) (by decide +kernel) fun cd h₁ F G => ?_
  obtain ⟨M, hM⟩ : ∃ M, M = max p.length q.length := ⟨_, rfl⟩
  have hpM : p.length ≤ M := by rw [hM]; exact Nat.le_max_left ..
  have hqM : q.length ≤ M := by rw [hM]; exact Nat.le_max_right ..
  have hM1 : M < 1000 := by rw [hM]; exact Nat.max_lt.mpr ⟨zp, zq⟩
  have eM : (max (p.length : Int) (q.length : Int)) = (M : Int) := by rw [hM]; omega
  rw [← hM] at k
  clear hM
  refine rCons (rAssign (rT1 G (rB2 G (rLen G.nm (rLocal F rfl (wLenBa (F.base hp) (k6 zp) fun t1 => rLen G.nm (rLocal F rfl (wLenBa (F.base hq) (k6 zq) fun t2 => ?_)))))) ))
  refine wMax o.handled fun t3 h₂ x2 => ?_
  rw [eM]
  refine baInt_W (Int.natCast_nonneg _) (k6' hM1) fun r h₃ x3 hr er => ?_
  rw [Int.toNat_natCast] at er
  have er' : h₃.get? r = some (bl (List.replicate (M) 0)) := by rw [er]; simp [bl]
  have hrB : h.objs.size ≤ r := (((F.ext x2).new x3 hr er').objs _ (.head _)).2.2
  refine rStore ((F.ext x2).new x3 hr er') fun h₄ F => ?_
  have G := G₀.ext F.keep
  -- r[len(r) - len(p):len(r)] = p
  refine rCons (rStoreSub (rLocal F rfl (rLocal F rfl (rSlice (rPart (rBin (rLen G.nm (rLocal F rfl (wLenBa (F.get (.head _)) (by rw [List.length_replicate]; exact k6 hM1) fun t4 => rLen G.nm (rLocal F rfl (wLenBa (F.base hp) (k6 zp) fun t5 => wSub fun t6 => ?_)))))))))))
  refine rPart (rLen G.nm (rLocal F rfl (wLenBa (F.get (.head _)) (by rw [List.length_replicate]; exact k6 hM1) fun t7 => fun sl h₅ x5 hsl => ?_)))
  have F := F.ext x5
  have ne : r ≠ a := fun e => absurd (Heap.lt_size hp) (by rw [e] at hrB; exact Nat.not_lt.mpr hrB)
  refine wBaPut (F.get (.head _)) (F.base hp) ne (by rw [List.length_replicate]; exact k6 hM1) hsl (by simp; omega) (by simp) (by omega) fun h₆ sb e6 => ?_
  have F := F.turn sb e6
  have G := G₀.ext F.keep
  -- the loop
  refine rCons (rFor (rT1 G (rLen G.nm (rLocal F rfl (wLenBa (F.base hq) (k6 zq) fun t8 => wRange1 fun rg h₇ t u v x7 hrg => ?_)))))
  have F := F.ext x7
  generalize hl0 : List.take _ _ ++ p ++ List.drop _ _ = l₀ at F
  have el0 : l₀ = List.replicate (M - p.length) 0 ++ p := by
    rw [← hl0]
    rw [List.length_replicate]
    have : (((M : Nat) : Int) - (p.length : Int)).toNat = M - p.length := by omega
    rw [this, Int.toNat_natCast, List.take_replicate, List.drop_replicate]
    simp
  refine rForUp (σ := List UInt8) o.handled hrg (by decide) (by decide) (Int.le_trans (by decide) (Int.natCast_nonneg _)) (k6' zq) (fun i l => l.length = M ∧ co l = padd (co p) (psum q i))
    (fun _ => [(Str.ofString "r", .ref r), (Str.ofString "q", .ref b), (Str.ofString "p", .ref a)]) (fun l => [(r, bl l)]) l₀ F ⟨?_, ?_⟩ ?_ ?_
  · rw [el0]; simp; omega
  · rw [el0, psum_zero, padd_zero, co_append, co_replicate, pmul_zero, zero_padd]
  · rintro i l h₈ t9 I oI hi ⟨hl, hc⟩ F
    have G := G₀.ext F.keep
    have hi' : i < q.length := by simpa using hi
    have ek : ((0 : Int) + i + (l.length : Int) - (q.length : Int)) = ((i + M - q.length : Nat) : Int) := by rw [hl]; omega
    have kl : i + M - q.length < l.length := by omega
    refine rCons <| rAugSub <| rLocal F rfl <| rBin <| rBin <| rLocal F rfl <| rLen G.nm <| rLocal F rfl <| wLenBa (F.get (.tail _ (.head _))) (by rw [hl]; exact k6 hM1) fun t10 => wAdd fun t11 => ?_
    refine rLen G.nm (rLocal F rfl (wLenBa (F.base hq) (k6 zq) fun t12 => wSub fun t13 => ?_))
    rw [ek]
    refine wBaGet (F.get (.tail _ (.head _))) (Int.natCast_nonneg _) (by omega) (x := l[i + M - q.length]) (by simp [kl]) fun t14 => ?_
    refine rSubBa (rLocal F rfl (rLocal F rfl ⟨_, _, rfl, F.base hq, wBaGet (F.base hq) (by rw [Int.zero_add]; exact Int.natCast_nonneg _) (by omega) (x := q[i]) (by simp [hi']) fun t15 => wIXor fun t16 => ?_⟩))
    refine wBaSet (F.get (.tail _ (.head _))) (Int.natCast_nonneg _) (by rw [Int.toNat_natCast]; exact kl) (by rw [hl]; exact k6 hM1) (Int.natCast_nonneg _) (x_lt _ _) fun h₉ sb e9 => rNil ?_
    rw [x_u8, Int.toNat_natCast] at e9
    refine ⟨_, ⟨?_, ?_⟩, ((F.perm (.swap ..)).turn sb e9).perm (.swap ..) |>.pick _ ⟨rfl, rfl, rfl, trivial⟩⟩
    · rw [List.length_set]; exact hl
    · rw [co_set_xor l _ _ _ (by simp [kl]), hc, psum_succ (a := q[i]) (by simp [hi']), padd_assoc, show l.length - 1 - (i + M - q.length) = q.length - 1 - i by omega]
  · rintro l h₈ ⟨hl, hc⟩ F
    refine rCons (rReturn (rLocal F rfl (k r h₈ l F.keep hrB (F.get (.head _)) hl ?_)))
    rw [hc, psum_top (Nat.le_of_eq (by simp))]

theorem div_step {N D i : Nat} {c : UInt8} {dv l m : List UInt8} {X : PS} (hl : l.length = N) (hm : m.length = N) (hD : dv.length = D) (hi : i + D < N) (hc : l[i]? = some c) (ht : m.take (i + 1) = l.take (i + 1))
    (hd : co (m.drop (i + 1)) = padd (co (l.drop (i + 1))) (pmul (mono c (N - i - 1 - D)) (co dv)))
    (e : X = padd (pmul (mono 1 (N - D - i)) (pmul (co (l.take i)) (co (1 :: dv)))) (co (l.drop i))) :
    X = padd (pmul (mono 1 (N - D - (i + 1))) (pmul (co (m.take (i + 1))) (co (1 :: dv)))) (co (m.drop (i + 1))) := by
  have e1 : l.drop i = c :: l.drop (i + 1) := by
    have := List.getElem?_eq_some_iff.mp hc
    obtain ⟨h1, h2⟩ := this
    rw [List.drop_eq_getElem_cons h1, h2]
  have e2 : l.take (i + 1) = l.take i ++ [c] := by rw [List.take_add_one, hc]; rfl
  have e3 : co (m.take (i + 1)) = padd (pmul (mono 1 1) (co (l.take i))) (mono c 0) := by
    rw [ht, e2, co_append]; simp [co, padd_zero]
  have e4 : co (l.drop i) = padd (mono c (N - i - 1)) (co (l.drop (i + 1))) := by
    rw [e1, co]; congr 2; rw [List.length_drop]; omega
  rw [e, e3, hd, e4, add_pmul, pmul_add, padd_assoc]
  congr 1
  · rw [pmul_assoc, ← pmul_assoc (mono 1 (N - D - (i + 1))), mono_mono, gmul_one]
    congr 2; omega
  · rw [padd_left, ← pmul_assoc, mono_mono, padd_comm, co, hD, pmul_add, mono_mono]
    have : gmul 1 c = c := by rw [gmul_comm, gmul_one]
    rw [this, gmul_one]
    have e5 : N - D - (i + 1) + 0 = N - i - 1 - D := by omega
    rw [e5, show N - i - 1 - D + D = N - i - 1 by omega, padd_assoc, padd_self, padd_zero, padd_comm]

end
end
end Mine

/-! part MFn2 -/
namespace Mine
noncomputable section
open PySem PySem.W PyProof.Rows
open Sem (wp)
section
variable {w : World} {A : Around} {h : Heap} {env : Env} {gl : List (Str × Value)} {no : List Str} {d : Ad} {Q : Value → Heap → Prop}

theorem nz_u8 (x : UInt8) : (((x.toNat : Nat) : Int) != 0) = (x != 0) := by
  by_cases e : x = 0
  · subst e; rfl
  · have := u8_ne e
    rw [bne, this]; simp [e]
theorem tup_obj (vs : List Value) : ({ cls := .type "tuple", data := .seq vs.toArray } : Obj).isFreed = false := rfl

theorem dz {i j d p : Nat} (hi : i + d < p) (hj : j < d) : i + 1 + j < p := by omega
theorem dz' {i d p : Nat} (h : d < p) (hi : i < p - d) : i + d < p := by omega
theorem gf_poly_div_W {a b : Addr} {p dv : List UInt8} (G₀ : Gl d h) (o : Ok 2 A) (hp : h.get? a = some (bl p)) (hq : h.get? b = some (bl (1 :: dv))) (zp : p.length < 1000) (zq : dv.length < p.length) (zd : 0 < dv.length)
    (k : ∀ r r1 r2 h' qt rs, Ext h h' → h.objs.size ≤ r1 → h.objs.size ≤ r2 → h'.get? r = some { cls := .type "tuple", data := .seq #[.ref r1, .ref r2] } → h'.get? r1 = some (bl qt) → h'.get? r2 = some (bl rs) →
      qt.length = p.length - dv.length → rs.length = dv.length → co p = padd (pmul (co qt) (co (1 :: dv))) (co rs) → Q (.ref r) h') : W w A (call (.ref d.div) [.ref a, .ref b]) Q h := by
  refine rFn (binds := [(Str.ofString "dividend", .ref a), (Str.ofString "divisor", .ref b)]) G₀ G₀.div (o.less (by decide)) (fun pm cd => rfl) (locs rfl) (by decide +kernel) fun cd h₁ F G => ?_
  have zq' : (1 :: dv).length < 1000 := Nat.lt_of_le_of_lt zq zp
  have zd' : dv.length < 1000 := Nat.lt_trans zq zp
  have zK : p.length - dv.length < 1000 := Nat.lt_of_le_of_lt (Nat.sub_le _ _) zp
  have oD := o.deeper (ev (fnS (stAt 10)) h.objs.size d.div (Str.ofString "gf_poly_div" ++ ".<locals>.") cd [])
  refine rCons <| rAssign <| rT1 G <| rLocal F rfl <| baBa_W (F.base hp) (by rw [List.size_toArray]; exact Nat.le_of_lt (k6 zp)) fun r h₃ x3 hr er => ?_
  have F := F.new x3 hr er
  have hrB : h.objs.size ≤ r := (F.objs _ (.head _)).2.2
  refine rStore F fun h₄ F => ?_
  have G := G₀.ext F.keep
  refine rCons <| rFor <| rT1 G <| rBin <| rLen G.nm <| rLocal F rfl <| wLenBa (F.base hp) (k6 zp) fun t1 => rBin <| rLen G.nm <| rLocal F rfl <| wLenBa (F.base hq) (k6 zq') fun t2 => rInt fun t3 => wSub fun t4 => wSub fun t5 => wRange1 fun rg h₅ t u v x5 hrg => ?_
  have F := F.ext x5
  have eK : (p.length : Int) - (((1 :: dv).length : Int) - 1) = ((p.length - dv.length : Nat) : Int) := by simp; omega
  rw [eK] at hrg
  refine rForUp (σ := List UInt8) o.handled hrg (by decide) (by decide) (nb _) (k6' zK)
    (fun i l => l.length = p.length ∧ co p = padd (pmul (mono 1 (p.length - dv.length - i)) (pmul (co (l.take i)) (co (1 :: dv)))) (co (l.drop i)))
    (fun _ => [(Str.ofString "msg_out", .ref r), (Str.ofString "divisor", .ref b), (Str.ofString "dividend", .ref a)]) (fun l => [(r, bl l)]) p F ⟨rfl, ?_⟩ ?_ ?_
  · simp [co, zero_pmul, pmul_zero, zero_padd]
  · rintro i l h₆ t6 I oI hi ⟨hl, he⟩ F
    have G := G₀.ext F.keep
    have hi' : i + dv.length < p.length := dz' zq (by simpa using hi)
    have il : i < l.length := by rw [hl]; exact Nat.lt_of_le_of_lt (Nat.le_add_right _ _) hi'
    refine rCons <| rAssign <| rSubBa <| rLocal F rfl <| rLocal F rfl ⟨_, _, rfl, F.get (.tail _ (.head _)), wBaGet (F.get (.tail _ (.head _))) (z0 _) (z1 il (hl ▸ zp)) (x := l[i]) (by simp [il]) fun t7 => rStore F fun h₇ F => ?_⟩
    generalize hc : l[i] = c at F
    have hc' : l[i]? = some c := by rw [List.getElem?_eq_getElem il, hc]
    refine rCons <| rIf <| rTCmp <| rLocal F rfl <| rInt fun t8 => wNe <| rTruthB ?_
    rw [nz_u8]
    by_cases c0 : c = 0
    · refine itF (by simp [c0]) (rNil (rNil ⟨l, ⟨hl, div_step hl hl rfl hi' hc' rfl ?_ he⟩, F.pick _ ⟨rfl, rfl, rfl, trivial⟩⟩))
      rw [c0, mono_zero, zero_pmul, padd_zero]
    refine itT (by simp [c0]) ?_
    have G := G₀.ext F.keep
    refine rCons <| rFor <| rT2 G <| rInt fun t9 => rLen G.nm <| rLocal F rfl <| wLenBa (F.base hq) (k6 zq') fun t10 => wRange2 fun rg' h₈ t u v x8 hrg' => ?_
    have F := F.ext x8
    refine rForUp (σ := List UInt8) o.handled hrg' (by decide) (by decide) (nb _) (k6' zq')
      (fun j m => m.length = p.length ∧ m.take (i + 1) = l.take (i + 1) ∧ co (m.drop (i + 1)) = padd (co (l.drop (i + 1))) (pmul (mono c (p.length - i - 1 - dv.length)) (psum dv j)))
      (fun _ => [(Str.ofString "coef", .int c.toNat t7), (Str.ofString "i", .int (0 + i) t6), (Str.ofString "msg_out", .ref r), (Str.ofString "divisor", .ref b), (Str.ofString "dividend", .ref a)]) (fun l => [(r, bl l), (I, oI)]) l (F.perm (.swap ..)) ⟨hl, rfl, ?_⟩ ?_ ?_
    · rw [psum_zero, pmul_zero, padd_zero]
    · rintro j m h₉ t11 I' oI' hj ⟨hm, ht, hd⟩ F
      have G := G₀.ext F.keep
      have hj' : j < dv.length := by simp at hj; omega
      have e1 : ((1 : Int) + j).toNat = j + 1 := by omega
      have edv : (1 :: dv)[((1 : Int) + j).toNat]? = some dv[j] := by rw [e1]; simp [hj']
      have fin : ∀ m' : List UInt8, m'.length = p.length → m'.take (i + 1) = m.take (i + 1) → co (m'.drop (i + 1)) = padd (co (m.drop (i + 1))) (mono (gmul c dv[j]) (p.length - i - 1 - 1 - j)) →
          m'.length = p.length ∧ m'.take (i + 1) = l.take (i + 1) ∧ co (m'.drop (i + 1)) = padd (co (l.drop (i + 1))) (pmul (mono c (p.length - i - 1 - dv.length)) (psum dv (j + 1))) := fun m' a1 a2 a3 => by
        refine ⟨a1, a2.trans ht, ?_⟩
        rw [a3, hd, psum_succ (a := dv[j]) (by simp [hj']), pmul_add, mono_mono, padd_assoc]
        congr 3; omega
      refine rCons <| rIf <| rTCmp <| rSubBa <| rLocal F rfl <| rLocal F rfl ⟨_, _, rfl, F.base hq, wBaGet (F.base hq) (o0 _) (o1 hj' zd') edv fun t12 => rInt fun t13 => wNe <| rTruthB ?_⟩
      rw [nz_u8]
      by_cases d0 : dv[j] = 0
      · refine itF (by simp [d0]) (rNil (rNil ⟨m, fin m hm rfl ?_, F.pick _ ⟨rfl, rfl, rfl, rfl, rfl, trivial⟩⟩))
        rw [d0, gmul_zero, mono_zero, padd_zero]
      refine itT (by simp [d0]) ?_
      have kl : i + 1 + j < m.length := by rw [hm]; exact dz hi' hj'
      have ek : (0 : Int) + i + (1 + j) = ((i + 1 + j : Nat) : Int) := by omega
      refine rCons <| rAugSub <| rLocal F rfl <| rBin <| rLocal F rfl <| rLocal F rfl <| wAdd fun t14 => ?_
      rw [ek]
      refine wBaGet (F.get (.tail _ (.head _))) (n0 _) (n1' kl (hm ▸ zp)) (x := m[i + 1 + j]) (by rw [Int.toNat_natCast, List.getElem?_eq_getElem kl]) fun t15 => ?_
      refine rOwn2 G <| rSubBa <| rLocal F rfl <| rLocal F rfl ⟨_, _, rfl, F.base hq, wBaGet (F.base hq) (o0 _) (o1 hj' zd') edv fun t16 => rLocal F rfl ⟨G.mul, gf_mul_W G oD fun h₁₀ t17 x10 => wIXor fun t18 => ?_⟩⟩
      have F := F.ext x10
      refine wBaSet (F.get (.tail _ (.head _))) (n0 _) (by rw [Int.toNat_natCast]; exact kl) (by rw [hm]; exact k6 zp) (n0 _) (x_lt _ _) fun h₁₁ sb e11 => rNil (rNil ?_)
      rw [x_u8, Int.toNat_natCast] at e11
      refine ⟨_, fin _ (by rw [List.length_set]; exact hm) (List.take_set_of_le (Nat.le_add_right _ _)) ?_, ((F.perm (.swap ..)).turn sb e11).perm (.swap ..) |>.pick _ ⟨rfl, rfl, rfl, rfl, rfl, trivial⟩⟩
      rw [List.drop_set, if_neg (Nat.not_lt.mpr (Nat.le_add_right _ _)), Nat.add_sub_cancel_left, co_set_xor (m.drop (i + 1)) j (gmul dv[j] c) m[i + 1 + j] (by rw [List.getElem?_drop, List.getElem?_eq_getElem kl])]
      rw [gmul_comm, List.length_drop, hm, Nat.sub_add_eq]
    · rintro m h₉ ⟨hm, ht, hd⟩ F
      refine rNil (rNil ⟨m, ⟨hm, div_step hl hm rfl hi' hc' ht ?_ he⟩, (F.perm (.swap ..)).pick _ ⟨rfl, rfl, rfl, trivial⟩⟩)
      rw [hd, psum_top (by simp)]
  · rintro l h₆ ⟨hl, he⟩ F
    have G := G₀.ext F.keep
    have eK2 : (((p.length - dv.length : Nat) : Int) - 0).toNat = p.length - dv.length := by omega
    rw [eK2] at he
    refine rCons <| rAssign <| rUn <| rBin <| rLen G.nm <| rLocal F rfl <| wLenBa (F.base hq) (k6 zq') fun t7 => rInt fun t8 => wSub fun t9 => wNeg fun t10 => ?_
    have eS : -(((1 :: dv).length : Int) - 1) = -(dv.length : Int) := by simp
    rw [eS]
    refine rStore F fun h₇ F => ?_
    refine rCons <| rReturn <| rTuple ?_
    refine rSplice <| rSubBa <| rLocal F rfl <| rSlice <| rPart0 <| rPart <| rLocal F rfl fun sl h₈ x8 hsl => ⟨_, _, rfl, (F.ext x8).get (.head _), wBaSlice ((F.ext x8).get (.head _)) (by rw [hl]; exact k6 zp) hsl .none (.int _ _) fun r1 h₉ x9 f1 e1 => ?_⟩
    have F := (F.ext x8).new x9 f1 e1
    refine rSplice <| rSubBa <| rLocal F rfl <| rSlice <| rPart <| rLocal F rfl <| rPart0 fun sl h₁₀ x10 hsl => ⟨_, _, rfl, (F.ext x10).get (.tail _ (.head _)), wBaSlice ((F.ext x10).get (.tail _ (.head _))) (by rw [hl]; exact k6 zp) hsl (.int _ _) .none fun r2 h₁₁ x11 f2 e2 => rSplice0 ⟨by simp, ?_⟩⟩
    have F := (F.ext x10).new x11 f2 e2
    have F' := F.push { cls := .type "tuple", data := .seq [Value.ref r1, Value.ref r2].toArray }
    have c1 : cut l none (some (-(dv.length : Int))) = l.take (p.length - dv.length) := by
      unfold cut; simp [clipAt_neg _ _ zd, hl]
    have c2 : cut l (some (-(dv.length : Int))) none = l.drop (p.length - dv.length) := by
      unfold cut; simp only [Option.elim, clipAt_neg _ _ zd, hl]
      exact List.take_of_length_le (by simp; omega)
    rw [c1, c2] at F'
    refine k _ r1 r2 _ _ _ F'.keep (F'.objs _ (.tail _ (.tail _ (.head _)))).2.2 (F'.objs _ (.tail _ (.head _))).2.2 (F'.get (.head _)) (F'.get (.tail _ (.tail _ (.head _)))) (F'.get (.tail _ (.head _))) (by simp; omega) (by simp; omega) ?_
    rw [he, Nat.sub_self, one_pmul]
end
end
end Mine

/-! part MComp -/
namespace Mine
noncomputable section
open PySem PySem.W PyProof.Rows
open Sem (wp)
/-- a list object -/
structure LO (ys : List Value) (o : Obj) : Prop where
  eq : ∃ n, o = { cls := .type "list", dict := none, data := .seq ys.toArray n, slots := #[] }
theorem LO.new (ys : List Value) : LO ys { cls := .type "list", data := .seq ys.toArray } := ⟨_, rfl⟩
theorem LO.is {h : Heap} {D : Addr} {o : Obj} {ys : List Value} (l : LO ys o) (e : h.get? D = some o) : h.IsList D ys.toArray := by
  obtain ⟨n, rfl⟩ := l.eq; exact ⟨_, e, rfl, n, rfl⟩

section
variable {w : World} {A : Around} {h : Heap} {env : Env} {Q : Value → Heap → Prop}

theorem W.attempt {α : Type} {m : Sem α} {Q : Except Value α → Heap → Prop} (x : W w A m (fun a => Q (.ok a)) h) : W w A m.attempt Q h := fun s hs Γ p hΓ hc => by
  rw [Sem.wp_attempt]
  exact Sem.wp_mono _ Γ m (fun _ _ _ e => e) (fun _ _ _ e => e.elim) p s (x s hs Γ p hΓ hc)
theorem W.rule {n : String} {Q : Unit → Heap → Prop} (x : Q () h) : W w A (PySem.rule n) Q h := W.of fun s hs => wpAny_rule ⟨rfl, rfl, hs ▸ x⟩
theorem W.ask {Q : Setting → Heap → Prop} (x : ∀ st, Q st h) : W w A PySem.ask Q h := W.of fun s hs => wpAny_askSetting ⟨rfl, rfl, hs ▸ x _⟩

theorem wAppend {l : Addr} {o : Obj} {ys : List Value} {x : Value} (e : h.get? l = some o) (hl : LO ys o) (hz : ys.length ≤ 100000) (y : ∀ h' o', Heap.SameBut l h h' → h'.get? l = some o' → LO (ys ++ [x]) o' → Q .none h') : W w A (call (.builtin "list.append") [.ref l, x]) Q h :=
  by
  obtain ⟨n, rfl⟩ := hl.eq
  refine W.of fun s hs => call_meets F.slot_list_append ⟨_, hs ▸ e, rfl⟩ F.entry_list_append (F.args_list_append_2 _ _) (list_append l ys.toArray n x (by rw [szl]; simp; omega)) ⟨hs ▸ e, rfl, rfl, ?_⟩
  have e' : s.heap.get? l = some { cls := .type "list", dict := none, data := .seq ys.toArray n, slots := #[] } := hs ▸ e
  have u := Heap.get?_update_self (Obj.mapSeq fun z => z.push x) e' rfl
  exact y _ _ (hs ▸ Heap.SameBut.update ..) u ⟨_, by simp [Obj.mapSeq]; rfl⟩
theorem WC.mono {c : Code} {R R' : Flow → Heap → Prop} (x : WC w A c R h) (hr : ∀ f h', R f h' → R' f h') : WC w A c R' h := fun s hs Γ p hc hΓ hcl =>
  wpCode_mono (fun r s' ⟨g, o, f, e, q⟩ => ⟨g, o, f, e, hr f _ q⟩) (x s hs Γ p hc hΓ hcl)

/-- one turn of a comprehension behind its target -/
def Turn (w : World) (A : Around) (ifs : List Expr) (elt : Expr) (cenv : Env) (K : Option Value → Heap → Prop) (h : Heap) : Prop :=
  match ifs with
  | [] => W w A (eval elt cenv) (fun y h' => K (some y) h') h
  | [c] => W w A (isTrue c cenv (eval c cenv)) (fun b h' => if b = true then W w A (eval elt cenv) (fun y h' => K (some y) h') h' else K none h') h
  | _ => False

structure CompDo (w : World) (A : Around) (env : Env) (scope : Scope) (cl : List (Str × Addr)) (x : Str) (ifs : List Expr) (elt : Expr) (B h₂ : Heap) (it : Value) (done : Addr → Addr → Heap → Obj → Obj → List Value → Prop) where
  I : Addr
  oI : Obj
  n : Nat
  val : Nat → Value → Prop
  st : Nat → Obj → Prop
  S : Heap → Prop
  Inv : Nat → List Value → Prop
  eit : it = .ref I
  iter : It w A I n val st S
  self : ∀ h o (Q : Value → Heap → Prop), h.get? I = some o → st 0 o → Q (.ref I) h → W w A (pyIter (.ref I)) Q h
  ext : Ext B h₂
  new : B.objs.size ≤ I
  at0 : h₂.get? I = some oI
  st0 : st 0 oI
  side : ∀ h, Ext B h → S h
  inv0 : Inv 0 []
  size : n ≤ 100000
  turn : ∀ i ys v C h, i < n → Inv i ys → val i v → Fm B C h [(x, v)] [] → Turn w A ifs elt (compEnvC scope cl C env) (fun oy h' => Ext h h' ∧ Inv (i + 1) (ys ++ oy.toList)) h
  fin : ∀ D C h' oD oC ys, Ext B h' → B.objs.size ≤ D → B.objs.size ≤ C → D ≠ C → h'.get? D = some oD → LO ys oD → h'.get? C = some oC → (∃ m, h'.Ns C m) → Inv n ys → done D C h' oD oC ys

theorem wCompLoop {elt iter : Expr} {x : Str} {px : Pos} {ifs : List Expr} {scope : Scope} {cl : List (Str × Addr)} {pos : Pos} {B h₂ : Heap} {it : Value} {done : Addr → Addr → Heap → Obj → Obj → List Value → Prop} {R : Addr → Addr → Flow → Heap → Prop}
    (cd : CompDo w A env scope cl x ifs elt B h₂ it done) (hcell : ∀ y ∈ scope.names, y.2 ≠ .cell) (hkind : scope.kind = .function) (hx : scope.names.lookup x = some .local)
    (hR : ∀ D C h' oD oC ys, done D C h' oD oC ys → h'.get? D = some oD → h'.get? C = some oC → (∃ m, h'.Ns C m) → R D C .next h') :
    W w A (newList []) (fun acc h₃ => W w A (newFunctionEnv scope env.globals cl [] env.qual none .none (some env)) (fun cenv h₄ => ∃ D, acc = .ref D ∧
      WC w A (.compStart (.ListComp elt [⟨.Name x px, iter, ifs, 0⟩] scope pos) 0 it acc { cenv with scope := relabel scope env }) (R D cenv.locals) h₄) h₃) h₂ := by
  obtain ⟨I, oI, n, val, st, S, Inv, rfl, hIt, self, ext, new, at0, st0, side, inv0, size, turn, fin⟩ := cd
  refine W.of fun s hs => wpAny_newList ⟨rfl, rfl, ?_⟩ (by rw [szl]; simp)
  rw [hs]
  refine W.of fun s hs => wpAny_newFunctionEnv hcell (by intro y hy; simp at hy) (fun h₁ hns hsb => ⟨rfl, rfl, h₂.objs.size, rfl, ?_⟩) hkind
  rw [hs] at hns hsb ⊢
  have hB : B.objs.size ≤ h₂.objs.size := Nat.le_trans new (Nat.le_of_lt (Heap.lt_size at0))
  have eC : (h₂.push { cls := .type "list", data := .seq ([] : List Value).toArray }).objs.size = h₂.objs.size + 1 := Heap.size_push ..
  generalize hCC : (h₂.push { cls := .type "list", data := .seq ([] : List Value).toArray }).objs.size = C at hns hsb ⊢
  rw [hCC] at eC
  have get1 : ∀ b o, (h₂.push { cls := .type "list", data := .seq ([] : List Value).toArray }).get? b = some o → h₁.get? b = some o := fun b o e =>
    hsb.extBut b o (by have := Heap.lt_size e; rw [hCC] at this; exact Nat.ne_of_lt this) (Heap.get?_push_of_some _ e)
  have get2 : ∀ b o, h₂.get? b = some o → h₁.get? b = some o := fun b o e => get1 b o (Heap.get?_push_of_some _ e)
  have hD : h₁.get? h₂.objs.size = some { cls := .type "list", data := .seq ([] : List Value).toArray } := get1 _ _ (Heap.get?_push_size _ rfl)
  have hI := Heap.lt_size at0
  have F0 : Fm B C h₁ [] [(I, oI), (h₂.objs.size, { cls := .type "list", data := .seq ([] : List Value).toArray })] := by
    refine ⟨⟨_, hns, fun x v e => by cases e⟩, fun b o e => get2 b o (ext b o e), by omega, fun p hp => ?_, ?_⟩
    · rcases List.mem_cons.mp hp with rfl | hp
      · exact ⟨get2 _ _ at0, Nat.ne_of_lt (Nat.lt_trans hI (by omega)), new⟩
      · rcases List.mem_cons.mp hp with rfl | hp
        · exact ⟨hD, Nat.ne_of_lt (by show h₂.objs.size < C; omega), hB⟩
        · cases hp
    · simp; exact Nat.ne_of_lt hI
  show WC w A (.compStart _ 0 (.ref I) (.ref h₂.objs.size) (compEnvC scope cl C env)) (R h₂.objs.size C) h₁
  have ek : (compEnvC scope cl C env).scope.kind = .function := by simp [compEnvC, relabel, hkind]
  have el : (compEnvC scope cl C env).kindOf x = some .local := lookup_relabel_local hx
  have loop : WC w A (.compLoop (.ListComp elt [⟨.Name x px, iter, ifs, 0⟩] scope pos) 0 (.ref I) (.ref h₂.objs.size) (compEnvC scope cl C env)) (R h₂.objs.size C) h₁ := by
    refine WC.loop rfl rfl (fun m h => ∃ i ys o oD bs, i ≤ n ∧ m = n - i ∧ Inv i ys ∧ ys.length ≤ i ∧ st i o ∧ LO ys oD ∧ Fm B C h bs [(I, o), (h₂.objs.size, oD)]) (fun m h hI => ?_) n h₁ ⟨0, [], oI, _, _, Nat.zero_le _, rfl, inv0, Nat.le_refl _, st0, LO.new [], F0⟩
    obtain ⟨i, ys, o, oD, bs, hle, rfl, hInv, hlen, hst, hLO, F⟩ := hI
    show W w A ((compTurn (.ListComp elt [⟨.Name x px, iter, ifs, 0⟩] scope pos) 0 (.ref I) (.ref h₂.objs.size) (compEnvC scope cl C env)).onRaise _) _ h
    refine W.onRaise ?_
    have eT : compTurn (.ListComp elt [⟨.Name x px, iter, ifs, 0⟩] scope pos) 0 (.ref I) (.ref h₂.objs.size) (compEnvC scope cl C env) = (standAt iter.pos >>= fun _ => pyNext (.ref I) >>= fun r => match r with
      | none => pure (.done .next)
      | some v => letOwnedTupleGo (.Name x px) (.ref I) v >>= fun _ => assign (.Name x px) (compEnvC scope cl C env) v >>= fun _ =>
        (forIn ifs true fun c r => if r = true then do let ok ← isTrue c (compEnvC scope cl C env) (eval c (compEnvC scope cl C env)); pure (ForInStep.yield ok) else pure (ForInStep.yield r)) >>= fun ok =>
        if ok = true then (eval elt (compEnvC scope cl C env) >>= fun x => call (.builtin "list.append") [.ref h₂.objs.size, x] >>= fun _ => pure ()) >>= fun _ =>
          again (.compLoop (.ListComp elt [⟨.Name x px, iter, ifs, 0⟩] scope pos) 0 (.ref I) (.ref h₂.objs.size) (compEnvC scope cl C env))
        else again (.compLoop (.ListComp elt [⟨.Name x px, iter, ifs, 0⟩] scope pos) 0 (.ref I) (.ref h₂.objs.size) (compEnvC scope cl C env))) := by rfl
    rw [eT]
    refine W.bind (W.standAt (W.bind ?_))
    by_cases hlt : i < n
    · refine hIt.item i h o _ hlt (F.get (.head _)) hst (side h F.keep) fun v h₅ o' hv sb e st' => ?_
      have F := F.turn sb e
      refine W.bind (W.eq rfl ?_)
      refine W.bind (rAssignN (rStore (env := compEnvC scope cl C env) F (fun h₆ F => ?_) ek el))
      have F1 : Fm B C h₆ [(x, v)] [] := F.less (fun z u e => by
        rw [List.lookup_cons] at e ⊢
        by_cases q : (z == x) = true
        · rw [q] at e ⊢; exact e
        · rw [Bool.not_eq_true] at q; rw [q] at e; cases e) (List.nil_sublist _)
      have T := turn i ys v C h₆ hlt hInv hv F1
      have emit : ∀ h₇, W w A (eval elt (compEnvC scope cl C env)) (fun y h' => Ext h₆ h' ∧ Inv (i + 1) (ys ++ [y])) h₇ →
          W w A ((eval elt (compEnvC scope cl C env) >>= fun x => call (.builtin "list.append") [.ref h₂.objs.size, x] >>= fun _ => pure ()) >>= fun _ =>
          again (.compLoop (.ListComp elt [⟨.Name x px, iter, ifs, 0⟩] scope pos) 0 (.ref I) (.ref h₂.objs.size) (compEnvC scope cl C env)))
          (fun fin h' => match fin with | .done f => R h₂.objs.size C f h' | .again c' => (c' = .compLoop (.ListComp elt [⟨.Name x px, iter, ifs, 0⟩] scope pos) 0 (.ref I) (.ref h₂.objs.size) (compEnvC scope cl C env) ∧ ∃ m, m < n - i ∧
            ∃ i ys o oD bs, i ≤ n ∧ m = n - i ∧ Inv i ys ∧ ys.length ≤ i ∧ st i o ∧ LO ys oD ∧ Fm B C h' bs [(I, o), (h₂.objs.size, oD)]) ∨ (c'.quiet = true ∧ WC w A c' (R h₂.objs.size C) h')) h₇ := fun h₇ z => by
        refine W.bind (W.bind (z.mono fun y h₈ ⟨ex, hi⟩ => ?_))
        have F := F.ext ex
        refine W.bind (wAppend (F.get (.tail _ (.head _))) hLO (by omega) fun h₉ oD' sb' e' lo' => W.pure (W.pure (.inl ⟨rfl, n - (i + 1), by omega, i + 1, _, o', oD', _, by omega, rfl, hi, by simp; omega, st', lo', ((F.perm (.swap ..)).turn sb' e').perm (.swap ..)⟩)))
      have skip : ∀ h₇, Ext h₆ h₇ → Inv (i + 1) ys → W w A (again (.compLoop (.ListComp elt [⟨.Name x px, iter, ifs, 0⟩] scope pos) 0 (.ref I) (.ref h₂.objs.size) (compEnvC scope cl C env)))
          (fun fin h' => match fin with | .done f => R h₂.objs.size C f h' | .again c' => (c' = .compLoop (.ListComp elt [⟨.Name x px, iter, ifs, 0⟩] scope pos) 0 (.ref I) (.ref h₂.objs.size) (compEnvC scope cl C env) ∧ ∃ m, m < n - i ∧
            ∃ i ys o oD bs, i ≤ n ∧ m = n - i ∧ Inv i ys ∧ ys.length ≤ i ∧ st i o ∧ LO ys oD ∧ Fm B C h' bs [(I, o), (h₂.objs.size, oD)]) ∨ (c'.quiet = true ∧ WC w A c' (R h₂.objs.size C) h')) h₇ := fun h₇ ex hi =>
        W.pure (.inl ⟨rfl, n - (i + 1), by omega, i + 1, ys, o', oD, _, by omega, rfl, hi, by omega, st', hLO, F.ext ex⟩)
      match ifs, T with
      | [], T =>
        refine W.bind (W.pure ?_)
        exact emit h₆ T
      | [c], T =>
        have T : W w A (isTrue c (compEnvC scope cl C env) (eval c (compEnvC scope cl C env))) (fun b h' => if b = true then W w A (eval elt (compEnvC scope cl C env)) (fun y h' => Ext h₆ h' ∧ Inv (i + 1) (ys ++ [y])) h' else Ext h₆ h' ∧ Inv (i + 1) (ys ++ [])) h₆ := T
        refine W.bind (W.cast (t' := isTrue c (compEnvC scope cl C env) (eval c (compEnvC scope cl C env))) ?_ (T.mono fun b h₇ q => ?_))
        · simp
        · cases b with
          | true => rw [if_pos rfl] at q; exact emit h₇ q
          | false => exact skip h₇ q.1 (by simpa using q.2)
    · obtain rfl : i = n := by omega
      refine hIt.done h o _ (F.get (.head _)) hst (side h F.keep) fun h' ex => W.pure ?_
      have F := F.drop ex
      obtain ⟨m, hm, _⟩ := F.ns
      have hm' := hm
      obtain ⟨oC, es, ep, hoC, _⟩ := hm'
      exact hR _ _ _ _ _ _ (fin h₂.objs.size C h' oD oC ys F.keep hB (by omega) (Nat.ne_of_lt (by omega)) (F.get (.head _)) hLO hoC ⟨m, hm⟩ hInv) (F.get (.head _)) hoC ⟨m, hm⟩
  refine WC.tree rfl ?_
  show W w A ((compStart (.ListComp elt [⟨.Name x px, iter, ifs, 0⟩] scope pos) 0 (.ref I) (.ref h₂.objs.size) (compEnvC scope cl C env)).onRaise _) _ h₁
  refine W.onRaise ?_
  unfold compStart
  show W w A (PySem.ask >>= _) _ h₁
  refine W.bind (W.ask fun stt => W.ite ?_)
  split
  · first
      | exact W.pure ⟨rfl, loop⟩
      | exact W.bind (W.pure (W.pure ⟨rfl, loop⟩))
  · refine W.bind (W.rule ?_)
    show W w A (standAt iter.pos >>= _) _ h₁
    refine W.bind (W.standAt (W.bind (self h₁ oI _ (F0.get (.head _)) st0 (W.pure ⟨rfl, loop⟩))))

theorem wComp {elt iter : Expr} {x : Str} {px : Pos} {ifs : List Expr} {scope : Scope} {cl : List (Str × Addr)} {pos p0 : Pos} {use : Option (Value → Sem Unit)}
    (hclos : closureFor scope env = pure cl) (hcell : ∀ y ∈ scope.names, y.2 ≠ .cell) (hkind : scope.kind = .function) (hnames : ∀ y ∈ scope.names, y.2 = .local → scope.names.lookup y.1 = some .local) (hx : scope.names.lookup x = some .local)
    (y : W w A (eval iter env) (fun xv B => W w A (pyIter xv) (fun it h₂ => ∃ cd : CompDo w A env scope cl x ifs elt B h₂ it (fun D C h' oD oC ys => match use with
      | none => ∀ h₃, Heap.SameBut C h' h₃ → Q (.ref D) h₃
      | some u => W w A (u (.ref D)) (fun _ h₃ => h₃.get? C = some oC ∧ ∀ h₄, Heap.SameBut C h₃ h₄ → Q .none h₄) h'), True) B) h)
    (hs : ∀ x, foldedSetIterable iter env x = pure x := by intro _; rfl) :
    W w A (comprehension (.ListComp elt [⟨.Name x px, iter, ifs, 0⟩] scope pos) scope env p0 (newList []) false (eval iter env) use) Q h := by
  unfold comprehension
  rw [hclos]
  refine W.bind (y.mono fun xv B q => W.bind (W.standAt (W.bind (W.eq (hs xv) (W.bind (W.holding (q.mono fun it h₂ ⟨cd, _⟩ => ?_)))))))
  have key : ∀ {k : Value → Sem Value}, W w A (newList []) (fun acc h₃ => W w A (k acc) Q h₃) h₂ → W w A (if use.isSome = true then (standAt (Expr.pos (.ListComp elt [⟨.Name x px, iter, ifs, 0⟩] scope pos)) >>= fun _ => newList [] >>= k) else (newList [] >>= k)) Q h₂ := fun hk => by
    split
    · exact W.bind (W.standAt (W.bind hk))
    · exact W.bind hk
  refine key ?_
  refine (wCompLoop (px := px) (iter := iter) (pos := pos) (R := fun D C f h' => ∃ oD oC ys, h'.get? D = some oD ∧ h'.get? C = some oC ∧ (∃ m, h'.Ns C m) ∧ (match use with
      | none => ∀ h₃, Heap.SameBut C h' h₃ → Q (.ref D) h₃
      | some u => W w A (u (.ref D)) (fun _ h₃ => h₃.get? C = some oC ∧ ∀ h₄, Heap.SameBut C h₃ h₄ → Q .none h₄) h')) cd hcell hkind hx (fun D C h' oD oC ys hd e1 e2 e3 => ⟨oD, oC, ys, e1, e2, e3, hd⟩)).mono fun acc h₃ q => ?_
  refine W.bind (W.pure (W.bind (q.mono fun cenv h₄ q => ?_)))
  obtain ⟨D, rfl, q⟩ := q
  dsimp only
  have hv : ∀ x ∈ (scope.names.filter fun x => (x.2 == .local || x.2 == .cell) && x.1 != (".0" : Str)).reverse, x.2 = .local →
      Env.kindOf { cenv with scope := relabel scope env } x.1 = some .local := fun x hx hl => lookup_relabel_local (hnames x (List.mem_filter.mp (List.mem_reverse.mp hx)).1 hl)
  have hv' : ∀ x ∈ (scope.names.filter fun x => (x.2 == .local || x.2 == .cell) && x.1 != (".0" : Str)).reverse.drop 1 ++ (scope.names.filter fun x => (x.2 == .local || x.2 == .cell) && x.1 != (".0" : Str)).reverse.take 1,
      x.2 = .local → Env.kindOf { cenv with scope := relabel scope env } x.1 = some .local := fun x hx hl => by
    rcases List.mem_append.mp hx with h1 | h1
    · exact hv x (List.mem_of_mem_drop h1) hl
    · exact hv x (List.mem_of_mem_take h1) hl
  refine W.holding (W.bind (W.attempt (W.holding (W.run ?_))))
  refine WC.mono q fun f h' q => ?_
  obtain ⟨oD, oC, ys, e1, e2, ⟨m, hm⟩, q⟩ := q
  cases use with
  | none =>
    exact W.bind (W.holding (W.of fun s hs => wpAny_comp_letGo (cenv := { cenv with scope := relabel scope env }) hkind _ s m hv (hs ▸ hm) fun h'' m' _ hs' => ⟨rfl, rfl, W.pure (q h'' (hs ▸ hs'))⟩))
  | some u =>
    refine W.bind (W.rule (W.bind (W.holding (W.mono q fun _ h₅ q => ?_))))
    have hm' : h₅.Ns cenv.locals m := by
      obtain ⟨o, es, ep, ho, r⟩ := hm
      rw [e2] at ho; cases ho
      exact ⟨_, es, ep, q.1, r⟩
    exact W.bind (W.of fun s hs => wpAny_comp_letGo (cenv := { cenv with scope := relabel scope env }) hkind _ s m hv' (hs ▸ hm') fun h'' m' _ hs' => ⟨rfl, rfl, W.pure (q.2 h'' (hs ▸ hs'))⟩)

/-- [elt for x in iter if ..] as a value -/
theorem rComp {elt iter : Expr} {x : Str} {px : Pos} {ifs : List Expr} {scope : Scope} {cl : List (Str × Addr)} {pos : Pos}
    (hclos : closureFor scope env = pure cl) (hcell : ∀ y ∈ scope.names, y.2 ≠ .cell) (hkind : scope.kind = .function) (hnames : ∀ y ∈ scope.names, y.2 = .local → scope.names.lookup y.1 = some .local) (hx : scope.names.lookup x = some .local)
    (y : W w A (eval iter env) (fun xv B => W w A (pyIter xv) (fun it h₂ => ∃ cd : CompDo w A env scope cl x ifs elt B h₂ it (fun D C h' oD oC ys => ∀ h₃, Heap.SameBut C h' h₃ → Q (.ref D) h₃), True) B) h)
    (hs : ∀ x, foldedSetIterable iter env x = pure x := by intro _; rfl) : W w A (eval (.ListComp elt [⟨.Name x px, iter, ifs, 0⟩] scope pos) env) Q h := by
  rw [eval_ListComp]
  exact wComp (use := none) hclos hcell hkind hnames hx y hs
/-- y = [elt for x in iter if ..] on one line, y a local name -/
theorem rAssignComp {elt iter : Expr} {x z : Str} {px pz' : Pos} {ifs : List Expr} {scope : Scope} {cl : List (Str × Addr)} {pos spos : Pos} {Q : Flow → Heap → Prop}
    (hclos : closureFor scope env = pure cl) (hcell : ∀ y ∈ scope.names, y.2 ≠ .cell) (hkind : scope.kind = .function) (hnames : ∀ y ∈ scope.names, y.2 = .local → scope.names.lookup y.1 = some .local) (hx : scope.names.lookup x = some .local)
    (hsw : swapsWith (.ListComp elt [⟨.Name x px, iter, ifs, 0⟩] scope pos) (some (.Name z pz')) spos.line env = pure true)
    (y : W w A (eval iter env) (fun xv B => W w A (pyIter xv) (fun it h₂ => ∃ cd : CompDo w A env scope cl x ifs elt B h₂ it (fun D C h' oD oC ys =>
      W w A (storeName env z (.ref D)) (fun _ h₃ => h₃.get? C = some oC ∧ ∀ h₄, Heap.SameBut C h₃ h₄ → Q .next h₄) h'), True) B) h)
    (hs : ∀ x, foldedSetIterable iter env x = pure x := by intro _; rfl) :
    W w A (exec (.Assign [.Name z pz'] (.ListComp elt [⟨.Name x px, iter, ifs, 0⟩] scope pos) spos) env) Q h := by
  rw [exec_Assign_Name_used _ _ _ _ hsw]
  refine W.bind (W.standAt (W.bind ?_))
  show W w A (do let _ ← comprehension (.ListComp elt [⟨.Name x px, iter, ifs, 0⟩] scope pos) scope env _ (newList []) false (eval iter env) (some (assign (.Name z pz') env))) _ h
  refine W.bind ((wComp (use := some (assign (.Name z pz') env)) (Q := fun _ h' => Q .next h') hclos hcell hkind hnames hx (y.mono fun xv B q => q.mono fun it h₂ ⟨cd, _⟩ => ⟨{ cd with fin := fun D C h' oD oC ys a b c d e f g i j => rAssignN (cd.fin D C h' oD oC ys a b c d e f g i j) }, trivial⟩) hs).mono fun _ h' q => W.pure (W.pure q))

theorem selfRange {I : Addr} (a c : Int) (n : Nat) : ∀ h o (Q : Value → Heap → Prop), h.get? I = some o → o = rit (a + c * (0 : Nat)) ((n : Int) - (0 : Nat)) c → Q (.ref I) h → W w A (pyIter (.ref I)) Q h := fun h o Q e eo q =>
  W.of fun s hs => wpAny_pyIter_rangeiter (x := a + c * (0 : Nat)) (left := (n : Int) - (0 : Nat)) (step := c) (by rw [hs]; subst eo; exact e) ⟨rfl, rfl, hs ▸ q⟩
theorem selfList {I l : Addr} : ∀ h o (Q : Value → Heap → Prop), h.get? I = some o → (o.cls = .type "list_iterator" ∧ o.data = .fields #[.ref l, .int (0 : Nat) 0]) → Q (.ref I) h → W w A (pyIter (.ref I)) Q h := fun h o Q e eo q =>
  W.of fun s hs => wpAny_pyIter_listiter (l := l) (i := 0) ⟨o, hs ▸ e, eo.1, eo.2⟩ ⟨rfl, rfl, hs ▸ q⟩
end
end
end Mine

/-! part MCel -/
namespace Mine
noncomputable section
open PySem PySem.W PyProof.Rows
open Sem (wp)
def PicksF (m : Str → Option Value) : List (Str × Value) → Prop
  | [] => True
  | (x, v) :: r => m x = some v ∧ PicksF m r
theorem PicksF.at {m : Str → Option Value} : ∀ {bs' : List (Str × Value)}, PicksF m bs' → ∀ x v, bs'.lookup x = some v → m x = some v
  | [], _, x, v, e => by cases e
  | (y, u) :: r, ⟨h1, h2⟩, x, v, e => by
    rw [List.lookup_cons] at e
    by_cases q : x = y
    · subst q
      simp at e
      rw [← e]; exact h1
    · rw [beq_eq_false_iff_ne.mpr q] at e
      exact h2.at x v e

section
variable {w : World} {A : Around} {h : Heap} {env : Env} {Q : Value → Heap → Prop} {d : Ad}

theorem rDefC {a : Addr} {o : Obj} {fd : FuncData} {body : List Stmt} {args : List Value} {binds bsL : List (Str × Value)} {cs : List (Str × Addr)}
    (ho : h.get? a = some o) (hd : o.data = .func fd) (hlim : h.NoLimit) (hcd : h.CodeRec fd.code fd.qualname) (hroom : A.depth < recursionLimit)
    (hb : fd.body = .stmts body) (hbind : bindArgs fd ⟨args, []⟩ = pure binds) (hclo : fd.closure = []) (hgl : fd.globals = mainGlobals) (hbl : fd.builtins = builtinsNs)
    (hcs : cellsFrom (h.objs.size + 1) fd.scope.names [] = cs) (hlook : ∀ p ∈ cs, cs.lookup p.1 = some p.2)
    (hkind : ∀ x ∈ binds, fd.scope.names.lookup x.1 = some .local ∨ (fd.scope.names.lookup x.1 = some .cell ∧ (cs.lookup x.1).isSome = true))
    (hL : PicksF (bindL (fun x => fd.scope.names.lookup x) binds fun _ => none) bsL)
    (y : ∀ h₁ (ob : Str → Obj), (∀ n c, cs.lookup n = some c → (ob n).data = .cell (bindC (fun x => fd.scope.names.lookup x) binds (fun _ => none) n)) → Fm h h.objs.size h₁ bsL (cs.map fun p => (p.2, ob p.1)) →
      W w (A.deeper (ev fd.scope h.objs.size a (fd.qualname ++ ".<locals>.") fd.code cs)) (execs body (ev fd.scope h.objs.size a (fd.qualname ++ ".<locals>.") fd.code cs))
      (fun f h' => Q (match f with | .ret v => v | _ => .none) h') h₁)
    (hco : fd.scope.isCoroutine = false := by rfl) (hgen : fd.scope.isGenerator = false := by rfl) (hk : fd.scope.kind = .function := by rfl) : W w A (call (.ref a) args) Q h := by
  refine W.call (WC.tree rfl ?_)
  show W w A.in1 (callAny (.ref a) ⟨args, []⟩) _ h
  simp only [callAny]
  refine W.bind (W.load ho ?_)
  obtain ⟨c, oc, vs, tq, hc, hoc, hdc, hq⟩ := hcd
  simp only [hd, callFunction, hco, hgen, hb, hc]
  refine W.bind (m := field (.ref c) 1) (W.of fun s hs => wpAny_field (hs ▸ hoc) hdc hq ⟨rfl, rfl, ?_⟩)
  rw [hs]
  refine W.bind (W.pure ?_)
  rw [hbind]
  refine W.bind (W.pure ?_)
  rw [hclo]
  refine W.bind (W.of fun s hs => wpAny_newFunctionEnv_cells hk (by rw [hs, hcs]; exact hkind) (fun env he s' x => ?_))
  rw [hs, hcs] at he
  have eL : env.locals = h.objs.size := by rw [he]; rfl
  have eC : env.cells = cs := by rw [he]; rfl
  have eK : env.kindOf = fun x => fd.scope.names.lookup x := by rw [he]; rfl
  rw [eL, eC, eK] at x
  obtain ⟨h', tk, es⟩ := x.toInCall.same
  have e1 : s'.gens = s.gens ∧ s'.os = s.os := by rw [es]; exact ⟨rfl, rfl⟩
  refine ⟨e1.1, e1.2, ?_⟩
  have keep : Ext h s'.heap := fun b o e => x.toInCall.keep b o (hs ▸ e)
  let ob : Str → Obj := fun n => (s'.heap.get? ((cs.lookup n).getD 0)).getD { cls := .none, data := .cell none }
  have hob : ∀ n c, cs.lookup n = some c → s'.heap.get? c = some (ob n) ∧ (ob n).data = .cell (bindC (fun x => fd.scope.names.lookup x) binds (fun _ => none) n) := fun n c e => by
    obtain ⟨oc, e1, e2⟩ := x.cell n c e
    have : ob n = oc := by simp [ob, e, e1]
    rw [this]; exact ⟨e1, e2⟩
  have F : Fm h h.objs.size s'.heap bsL (cs.map fun p => (p.2, ob p.1)) := by
    refine ⟨⟨_, x.toInCall.ns, fun z v e => hL.at z v e⟩, keep, Nat.le_refl _, fun p hp => ?_, ?_⟩
    · obtain ⟨q, hq, rfl⟩ := List.mem_map.mp hp
      have := x.above q.1 q.2 hq
      exact ⟨(hob q.1 q.2 (hlook q hq)).1, Nat.ne_of_gt this, Nat.le_of_lt this⟩
    · rw [List.map_map, List.Nodup, List.pairwise_map]
      exact x.apart
  refine W.bind (W.of fun s hs => wpAny_enterFrame (by rw [hs]; exact hlim.keeps F.keep) hroom ⟨rfl, rfl, ?_⟩)
  rw [hs]
  refine W.pure ⟨rfl, WC.tree rfl ?_⟩
  have e : env = ev fd.scope h.objs.size a (fd.qualname ++ ".<locals>.") fd.code cs := by
    rw [he, hgl, hbl, hc]; rfl
  rw [e]
  show W w (A.deeper (ev fd.scope h.objs.size a (fd.qualname ++ ".<locals>.") fd.code cs)) (do point; match ← (execs body (ev fd.scope h.objs.size a (fd.qualname ++ ".<locals>.") fd.code cs)).onRaise (leaving (ev fd.scope h.objs.size a (fd.qualname ++ ".<locals>.") fd.code cs)) with | .ret v => ret v | _ => ret .none) _ _
  refine W.bind (W.point (W.bind (W.onRaise ((y _ ob (fun n c e => (hob n c e).2) F).mono fun f h' q => ?_))))
  cases f <;> exact W.pure ⟨_, rfl, q⟩

/-- a call of one of the text's own plain defs, with cells -/
theorem rFnC {a : Addr} {i : Nat} {name : Str} {args : List Value} {binds bsL : List (Str × Value)} {cs : List (Str × Addr)} (G : Gl d h) (f : Fn h a i name) (o : Ok 1 A)
    (hbind : ∀ pm cd, bindArgs (plainDef name (fnA (stAt i)) (fnB (stAt i)) (fnS (stAt i)) pm cd) ⟨args, []⟩ = pure binds)
    (hcs : cellsFrom (h.objs.size + 1) (fnS (stAt i)).names [] = cs)
    (hlook : ∀ p ∈ cs, cs.lookup p.1 = some p.2)
    (hkind : ∀ x ∈ binds, (fnS (stAt i)).names.lookup x.1 = some .local ∨ ((fnS (stAt i)).names.lookup x.1 = some .cell ∧ (cs.lookup x.1).isSome = true))
    (hL : PicksF (bindL (fun x => (fnS (stAt i)).names.lookup x) binds fun _ => none) bsL)
    (y : ∀ cd h₁ (ob : Str → Obj), (∀ n c, cs.lookup n = some c → (ob n).data = .cell (bindC (fun x => (fnS (stAt i)).names.lookup x) binds (fun _ => none) n)) → Fm h h.objs.size h₁ bsL (cs.map fun p => (p.2, ob p.1)) → Gl d h₁ →
      W w (A.deeper (ev (fnS (stAt i)) h.objs.size a (name ++ ".<locals>.") cd cs)) (execs (fnB (stAt i)) (ev (fnS (stAt i)) h.objs.size a (name ++ ".<locals>.") cd cs)) (fun f h' => Q (match f with | .ret v => v | _ => .none) h') h₁)
    (hco : (fnS (stAt i)).isCoroutine = false := by rfl) (hgen : (fnS (stAt i)).isGenerator = false := by rfl) (hk : (fnS (stAt i)).kind = .function := by rfl) : W w A (call (.ref a) args) Q h := by
  obtain ⟨pm, cd, e, c⟩ := f
  exact rDefC (fd := plainDef name (fnA (stAt i)) (fnB (stAt i)) (fnS (stAt i)) pm cd) e rfl G.nm.lim c o.depth rfl (hbind pm cd) rfl rfl rfl hcs hlook hkind hL (fun h₁ ob hob F => y cd h₁ ob hob F (G.ext F.keep)) hco hgen hk
end
end
end Mine

/-! part MScl -/
namespace Mine
noncomputable section
open PySem PySem.W PyProof.Rows
open Sem (wp)
theorem ints_len {vs : List Value} {ns : List Int} (h : IntsAre vs ns) : vs.length = ns.length := by
  induction h with
  | nil => rfl
  | cons n t _ ih => simp [ih]
theorem ints_get {vs : List Value} {ns : List Int} (h : IntsAre vs ns) : ∀ {i : Nat} {n : Int}, ns[i]? = some n → ∃ t, vs[i]? = some (.int n t) := by
  induction h with
  | nil => intro i n e; simp at e
  | cons n t _ ih =>
    intro i m e
    cases i with
    | zero => simp at e; subst e; exact ⟨t, rfl⟩
    | succ i => simp at e; exact ih e
theorem ints_snoc {vs : List Value} {ns : List Int} (h : IntsAre vs ns) (n : Int) (t : Tok) : IntsAre (vs ++ [.int n t]) (ns ++ [n]) := by
  induction h with
  | nil => exact .cons n t .nil
  | cons m u _ ih => exact .cons m u ih
theorem ints_take {α : Type} {l : List α} {f : α → Int} {vs : List Value} {i : Nat} {x : α} (h : IntsAre vs ((l.take i).map f)) (e : l[i]? = some x) (t : Tok) : IntsAre (vs ++ [.int (f x) t]) ((l.take (i + 1)).map f) := by
  rw [List.take_add_one, e, List.map_append]
  exact ints_snoc h _ t

theorem Fm.new2 {B₀ B h' : Heap} {L D C : Addr} {oD oC : Obj} {bs : List (Str × Value)} {os : List (Addr × Obj)} (F : Fm B₀ L B bs os) (ex : Ext B h') (nD : B.objs.size ≤ D) (nC : B.objs.size ≤ C) (ne : D ≠ C) (eD : h'.get? D = some oD) (eC : h'.get? C = some oC) :
    Fm B₀ L h' bs ((C, oC) :: (D, oD) :: os) := by
  have F1 := F.new ex nD eD
  have F2 := F.new ex nC eC
  refine ⟨F1.ns, F1.keep, F1.above, fun p hp => ?_, ?_⟩
  · rcases List.mem_cons.mp hp with rfl | hp
    · exact F2.objs _ (.head _)
    · exact F1.objs p hp
  · have n2 := List.nodup_cons.mp F2.nd
    refine List.nodup_cons.mpr ⟨fun hm => ?_, F1.nd⟩
    rcases List.mem_cons.mp hm with e | hm
    · exact ne e.symm
    · exact n2.1 hm
theorem Fm.comp {B₀ B h' h₃ : Heap} {L D C : Addr} {oD oC : Obj} {bs : List (Str × Value)} {os : List (Addr × Obj)} (F : Fm B₀ L B bs os) (ex : Ext B h') (nD : B.objs.size ≤ D) (nC : B.objs.size ≤ C) (ne : D ≠ C) (eD : h'.get? D = some oD) (eC : h'.get? C = some oC)
    (sb : Heap.SameBut C h' h₃) : Fm B₀ L h₃ bs ((D, oD) :: os) := (F.new2 ex nD nC ne eD eC).drop sb.extBut

section
variable {w : World} {A : Around} {h : Heap} {env : Env} {Q : Value → Heap → Prop} {d : Ad}

theorem cRange {scope : Scope} {cl : List (Str × Addr)} {x : Str} {ifs : List Expr} {elt : Expr} {B : Heap} {done : Addr → Addr → Heap → Obj → Obj → List Value → Prop} {r : Addr} {t u v : Tok} (n : Nat) (Inv : Nat → List Value → Prop)
    (hh : A.handled = none) (hn : n ≤ 100000) (hr : IsRange B r 0 (n : Int) 1 t u v) (inv0 : Inv 0 [])
    (turn : ∀ (i : Nat) ys k C h, i < n → Inv i ys → Fm B C h [(x, .int (i : Int) k)] [] → Turn w A ifs elt (compEnvC scope cl C env) (fun oy h' => Ext h h' ∧ Inv (i + 1) (ys ++ oy.toList)) h)
    (fin : ∀ D C h' oD oC ys, Ext B h' → B.objs.size ≤ D → B.objs.size ≤ C → D ≠ C → h'.get? D = some oD → LO ys oD → h'.get? C = some oC → (∃ m, h'.Ns C m) → Inv n ys → done D C h' oD oC ys) :
    W w A (pyIter (.ref r)) (fun it h₂ => ∃ cd : CompDo w A env scope cl x ifs elt B h₂ it done, True) B := by
  obtain ⟨e1, e2⟩ := small_up (a := 0) (n := (n : Int)) (by omega) (by omega) (by omega) (by omega)
  refine wIterRange hr e1 fun I h' ex hI eI => ?_
  rw [e2] at eI
  refine ⟨{ I := I, oI := _, n := n, val := _, st := _, S := _, Inv := Inv, eit := rfl, iter := It.range hh 0 1 n, self := selfRange 0 1 n, ext := ex, new := hI, at0 := eI, st0 := ?_, side := fun _ _ => trivial, inv0 := inv0, size := hn, turn := ?_, fin := fin }, trivial⟩
  · simp
  · rintro i ys v C h hi hv ⟨k, rfl⟩ F
    refine turn i ys k C h hi hv ?_
    have e : (0 : Int) + 1 * (i : Int) = i := by omega
    rw [e] at F
    exact F
theorem cList {scope : Scope} {cl : List (Str × Addr)} {x : Str} {ifs : List Expr} {elt : Expr} {B : Heap} {done : Addr → Addr → Heap → Obj → Obj → List Value → Prop} {l : Addr} {vs : List Value} (Inv : Nat → List Value → Prop)
    (hh : A.handled = none) (hn : vs.length ≤ 100000) (hr : B.IsList l vs.toArray) (inv0 : Inv 0 [])
    (turn : ∀ (i : Nat) ys v C h, i < vs.length → Inv i ys → vs[i]? = some v → Fm B C h [(x, v)] [] → Turn w A ifs elt (compEnvC scope cl C env) (fun oy h' => Ext h h' ∧ Inv (i + 1) (ys ++ oy.toList)) h)
    (fin : ∀ D C h' oD oC ys, Ext B h' → B.objs.size ≤ D → B.objs.size ≤ C → D ≠ C → h'.get? D = some oD → LO ys oD → h'.get? C = some oC → (∃ m, h'.Ns C m) → Inv vs.length ys → done D C h' oD oC ys) :
    W w A (pyIter (.ref l)) (fun it h₂ => ∃ cd : CompDo w A env scope cl x ifs elt B h₂ it done, True) B := by
  refine wIterList hr fun I h' ex hI eI => ?_
  exact ⟨{ I := I, oI := _, n := vs.length, val := _, st := _, S := _, Inv := Inv, eit := rfl, iter := It.list hh l vs, self := selfList, ext := ex, new := hI, at0 := eI, st0 := ⟨rfl, rfl⟩, side := fun h e => (let ⟨o, a, b⟩ := hr; ⟨o, e _ _ a, b⟩), inv0 := inv0, size := hn, turn := turn, fin := fin }, trivial⟩

theorem gf_poly_scale_W {a : Addr} {p : List UInt8} {c : UInt8} {t : Tok} (G₀ : Gl d h) (o : Ok 2 A) (hp : h.get? a = some (bl p)) (zp : p.length < 1000)
    (k : ∀ r h', Ext h h' → h.objs.size ≤ r → h'.get? r = some (bl (p.map fun x => gmul x c)) → Q (.ref r) h') : W w A (call (.ref d.scale) [.ref a, .int c.toNat t]) Q h := by
  refine rFnC (binds := [(Str.ofString "p", .ref a), (Str.ofString "x", .int c.toNat t)]) (bsL := []) (cs := [(Str.ofString "x", h.objs.size + 2), (Str.ofString "p", h.objs.size + 1)]) G₀ G₀.scale (o.less (by decide)) (fun pm cd => rfl) rfl ?_ ?_ trivial ?_
  · intro p hp; simp at hp; rcases hp with rfl | rfl <;> rfl
  · intro p hp; simp at hp; rcases hp with rfl | rfl <;> exact .inr ⟨rfl, rfl⟩
  intro cd h₁ ob hob F G
  have oD := o.deeper (ev (fnS (stAt 7)) h.objs.size d.scale (Str.ofString "gf_poly_scale" ++ ".<locals>.") cd [(Str.ofString "x", h.objs.size + 2), (Str.ofString "p", h.objs.size + 1)])
  have hx : (ob (Str.ofString "x")).data = .cell (some (.int c.toNat t)) := hob _ _ rfl
  have hpc : (ob (Str.ofString "p")).data = .cell (some (.ref a)) := hob _ _ rfl
  refine rCons <| rReturn <| rT1 G <| rComp (cl := [(Str.ofString "x", h.objs.size + 2), (Str.ofString "p", h.objs.size + 1)]) rfl (by decide +kernel) rfl (by decide +kernel) rfl ?_
  refine rT1 G <| rLen G.nm <| rCell (F.get (.tail _ (.head _))) hpc <| wLenBa (F.base hp) (by omega) fun t1 => wRange1 fun rg h₂ t u v x2 hrg => ?_
  have F := F.ext x2
  have G := G.ext x2
  refine cRange p.length (fun i ys => IntsAre ys ((p.take i).map fun x => ((gmul x c).toNat : Int))) o.handled (by omega) hrg .nil ?_ ?_
  · intro i ys k C h₃ hi hI F'
    have G := G.ext F'.keep
    refine rOwn2 (i := 5) G <| rSubBa <| rCell (F'.base (F.get (.tail _ (.head _)))) hpc <| rLocal F' rfl ⟨_, _, rfl, F'.base (F.base hp), wBaGet (F'.base (F.base hp)) (by omega) (by omega) (x := p[i]) (by simp [hi]) fun t2 => ?_⟩
    exact rCell (F'.base (F.get (.head _))) hx ⟨G.mul, gf_mul_W G oD fun h₄ t3 x4 => ⟨x4, ints_take hI (by simp [hi]) t3⟩⟩
  · intro D C h₃ oD oC ys ex nD nC ne eD lo eC _ hI h₄ sb
    have F := F.comp ex nD nC ne eD eC sb
    have e0 : p.take p.length = p := List.take_length
    rw [e0] at hI
    refine baList_W (lo.is (F.get (.head _))) hI ?_ (by simp; omega) fun r h₅ x5 hr er => k r h₅ (F.keep.trans x5) ?_ ?_
    · intro n hn
      obtain ⟨x, _, rfl⟩ := List.mem_map.mp hn
      have := (gmul x c).toNat_lt
      omega
    · exact ((F.new x5 hr er).objs _ (.head _)).2.2
    · rw [er]
      simp only [List.map_map]
      congr 4
      funext x
      simp [Function.comp]
end
end
end Mine

/-! part MMul -/
namespace Mine
noncomputable section
open PySem PySem.W PyProof.Rows
open Sem (wp)
section
variable {w : World} {A : Around} {h : Heap} {env : Env} {Q : Value → Heap → Prop} {d : Ad}

theorem kz {i j p q : Nat} (hi : i < p) (hj : j < q) : i + j < p + q - 1 := by omega
theorem gf_poly_mul_W {a b : Addr} {p q : List UInt8} (G₀ : Gl d h) (o : Ok 1 A) (hp : h.get? a = some (bl p)) (hq : h.get? b = some (bl q)) (zp : p.length < 1000) (zq : q.length < 1000) (p1 : 0 < p.length) (q1 : 0 < q.length)
    (k : ∀ r h' l, Ext h h' → h.objs.size ≤ r → h'.get? r = some (bl l) → l.length = p.length + q.length - 1 → co l = pmul (co p) (co q) → Q (.ref r) h') : W w A (call (.ref d.pmul) [.ref a, .ref b]) Q h := by
  refine rFnC (binds := [(Str.ofString "p", .ref a), (Str.ofString "q", .ref b)]) (bsL := [(Str.ofString "q", .ref b)]) (cs := [(Str.ofString "p", h.objs.size + 1)]) G₀ G₀.pmul o (fun pm cd => rfl) rfl ?_ ?_ ⟨rfl, trivial⟩ ?_
  · intro p hp; simp at hp; rcases hp with rfl; rfl
  · intro p hp; simp at hp; rcases hp with rfl | rfl
    · exact .inr ⟨rfl, rfl⟩
    · exact .inl rfl
  have hz : p.length + q.length - 1 < 1000000 := by omega
  intro cd h₁ ob hob F G
  have hpc : (ob (Str.ofString "p")).data = .cell (some (.ref a)) := hob _ _ rfl
  have F : Fm h h.objs.size h₁ [(Str.ofString "q", .ref b)] [(h.objs.size + 1, ob (Str.ofString "p"))] := F
  generalize ob (Str.ofString "p") = oc at hpc F
  -- r
  refine rCons <| rAssign <| rT1 G <| rBin <| rBin <| rLen G.nm <| rCell (F.get (.head _)) hpc <| wLenBa (F.base hp) (k6 zp) fun t1 => rLen G.nm <| rLocal F rfl <| wLenBa (F.base hq) (k6 zq) fun t2 => wAdd fun t3 => rInt fun t4 => wSub fun t5 => ?_
  refine baInt_W (by omega) (by omega) fun r h₂ x2 hr er => ?_
  have er' : h₂.get? r = some (bl (List.replicate (p.length + q.length - 1) 0)) := by
    rw [er, show ((p.length : Int) + q.length - 1).toNat = p.length + q.length - 1 by omega]; simp [bl]
  have F := F.new x2 hr er'
  have hrB : h.objs.size ≤ r := (F.objs _ (.head _)).2.2
  refine rStore F fun h₃ F => ?_
  have G := G₀.ext F.keep
  -- lp
  refine rCons <| rAssignComp (cl := [(Str.ofString "p", h.objs.size + 1)]) rfl (by decide +kernel) rfl (by decide +kernel) rfl rfl ?_
  refine rT1 G <| rLen G.nm <| rCell (F.get (.tail _ (.head _))) hpc <| wLenBa (F.base hp) (k6 zp) fun t1 => wRange1 fun rg h₄ t u v x4 hrg => ?_
  have F := F.ext x4
  have G := G.ext x4
  refine cRange p.length (fun i ys => IntsAre ys ((p.take i).map fun x => ((lg x : Nat) : Int))) o.handled (by omega) hrg .nil ?_ ?_
  · intro i ys k C h₅ hi hI F'
    have G := G.ext F'.keep
    obtain ⟨y, hy, ey⟩ := log_at p[i]
    refine rSubBa <| rGlob G.nm rfl <| rSubBa <| rCell (F'.base (F.get (.tail _ (.head _)))) hpc <| rLocal F' rfl ⟨_, _, rfl, F'.base (F.base hp), wBaGet (F'.base (F.base hp)) (by omega) (by omega) (x := p[i]) (by simp [hi]) fun t2 => ?_⟩
    refine ⟨_, _, rfl, G.log, wBaGet G.log (n0 _) (u1 _) (by rw [Int.toNat_natCast]; exact hy) fun t3 => ⟨.refl _, ?_⟩⟩
    rw [ey]
    exact ints_take hI (x := p[i]) (by simp [hi]) t3
  intro D C h₅ oD oC ys ex nD nC ne eD lo eC _ hI
  rw [List.take_length] at hI
  refine rStore (F.new2 ex nD nC ne eD eC) fun h₆ F => ⟨F.get (.head _), fun h₇ sb => ?_⟩
  have F := F.drop sb.extBut
  have G := G₀.ext F.keep
  have hlp : ∀ i (hi : i < p.length), ∃ t, ys[i]? = some (.int (lg p[i] : Nat) t) := fun i hi => ints_get hI (by simp [hi])
  have ylen : ys.length = p.length := by rw [ints_len hI]; simp
  -- the loops
  refine rCons <| rFor <| rT1 G <| rLen G.nm <| rLocal F rfl <| wLenBa (F.base hq) (k6 zq) fun t8 => wRange1 fun rg h₈ t u v x8 hrg => ?_
  have F := F.ext x8
  refine rForUp (σ := List UInt8) o.handled hrg (by decide) (by decide) (nb _) (k6' zq) (fun j l => l.length = p.length + q.length - 1 ∧ co l = pmul (co p) (psum q j))
    (fun _ => [(Str.ofString "lp", .ref D), (Str.ofString "r", .ref r), (Str.ofString "q", .ref b)]) (fun l => [(D, oD), (r, bl l), (h.objs.size + 1, oc)]) _ F ⟨by simp, ?_⟩ ?_ ?_
  · rw [psum_zero, pmul_zero, co_replicate]
  · rintro j l h₉ tj I oI hj ⟨hl, hc⟩ F
    have G := G₀.ext F.keep
    have hj' : j < q.length := by simpa using hj
    refine rCons <| rAssign <| rSubBa <| rLocal F rfl <| rLocal F rfl ⟨_, _, rfl, F.base hq, wBaGet (F.base hq) (z0 _) (z1 hj' zq) (x := q[j]) (by simp [hj']) fun t9 => rStore F fun h₁₀ F => ?_⟩
    generalize hqj : q[j] = c at F
    have hqj' : q[j]? = some c := by rw [List.getElem?_eq_getElem hj', hqj]
    refine rCons <| rIf <| rTCmp <| rLocal F rfl <| rInt fun t10 => wNe <| rTruthB ?_
    rw [nz_u8]
    by_cases c0 : c = 0
    · refine itF (by simp [c0]) (rNil (rNil ⟨l, ⟨hl, ?_⟩, F.pick _ ⟨rfl, rfl, rfl, trivial⟩⟩))
      rw [psum_succ hqj', c0, mono_zero, padd_zero, hc]
    refine itT (by simp [c0]) ?_
    have G := G₀.ext F.keep
    obtain ⟨y, hy, ey⟩ := log_at c
    refine rCons <| rAssign <| rSubBa <| rGlob G.nm rfl <| rLocal F rfl ⟨_, _, rfl, G.log, wBaGet G.log (n0 _) (u1 _) (by rw [Int.toNat_natCast]; exact hy) fun t11 => rStore F fun h₁₁ F => ?_⟩
    have G := G₀.ext F.keep
    refine rCons <| rFor <| rT1 G <| rLen G.nm <| rCell (F.get (.tail _ (.tail _ (.tail _ (.head _))))) hpc <| wLenBa (F.base hp) (k6 zp) fun t12 => wRange1 fun rg' h₁₂ t u v x12 hrg' => ?_
    have F := F.ext x12
    refine rForUp (σ := List UInt8) o.handled hrg' (by decide) (by decide) (nb _) (k6' zp) (fun i m => m.length = p.length + q.length - 1 ∧ co m = padd (co l) (pmul (psum p i) (mono c (q.length - 1 - j))))
      (fun _ => [(Str.ofString "lq", .int y.toNat t11), (Str.ofString "j", .int (0 + j) tj), (Str.ofString "lp", .ref D), (Str.ofString "r", .ref r), (Str.ofString "q", .ref b)]) (fun l => [(I, oI), (D, oD), (r, bl l), (h.objs.size + 1, oc)]) l (F.pick _ ⟨rfl, rfl, rfl, rfl, rfl, trivial⟩) ⟨hl, ?_⟩ ?_ ?_
    · rw [psum_zero, zero_pmul, padd_zero]
    · rintro i m h₁₃ ti I' oI' hi ⟨hm, hd⟩ F
      have G := G₀.ext F.keep
      have hi' : i < p.length := by simpa using hi
      have fin : ∀ m' : List UInt8, m'.length = p.length + q.length - 1 → co m' = padd (co m) (mono (gmul p[i] c) (p.length + q.length - 1 - 1 - (i + j))) →
          m'.length = p.length + q.length - 1 ∧ co m' = padd (co l) (pmul (psum p (i + 1)) (mono c (q.length - 1 - j))) := fun m' a1 a2 => by
        refine ⟨a1, ?_⟩
        rw [a2, hd, psum_succ (a := p[i]) (by simp [hi']), add_pmul, mono_mono, padd_assoc]
        congr 3; omega
      refine rCons <| rIf <| rTCmp <| rSubBa <| rCell (F.get (.tail _ (.tail _ (.tail _ (.tail _ (.head _)))))) hpc <| rLocal F rfl ⟨_, _, rfl, F.base hp, wBaGet (F.base hp) (z0 _) (z1 hi' zp) (x := p[i]) (by simp [hi']) fun t13 => rInt fun t14 => wNe <| rTruthB ?_⟩
      rw [nz_u8]
      by_cases d0 : p[i] = 0
      · refine itF (by simp [d0]) (rNil (rNil ⟨m, fin m hm ?_, F.pick _ ⟨rfl, rfl, rfl, rfl, rfl, trivial⟩⟩))
        rw [d0, zero_gmul, mono_zero, padd_zero]
      refine itT (by simp [d0]) ?_
      have kl : i + j < m.length := by rw [hm]; exact kz hi' hj'
      have ek : (0 : Int) + i + (0 + j) = ((i + j : Nat) : Int) := by rw [Int.zero_add, Int.zero_add]; rfl
      refine rCons <| rAugSub <| rLocal F rfl <| rBin <| rLocal F rfl <| rLocal F rfl <| wAdd fun t15 => ?_
      rw [ek]
      have hr3 := F.get (a := r) (o := bl m) (.tail _ (.tail _ (.tail _ (.head _))))
      refine wBaGet hr3 (n0 _) (n1 (Nat.lt_trans kl (by rw [hm]; exact hz))) (x := m[i + j]) (by rw [Int.toNat_natCast, List.getElem?_eq_getElem kl]) fun t16 => ?_
      obtain ⟨t17, hy17⟩ := hlp i hi'
      refine rSubBa <| rGlob G.nm rfl <| rBin <| rSubList <| rLocal F rfl <| rLocal F rfl ⟨_, _, rfl, lo.is (F.get (.tail _ (.tail _ (.head _)))), wListGet (lo.is (F.get (.tail _ (.tail _ (.head _))))) (z0 _) (z1 hi' zp) (by simpa using hy17) <| rLocal F rfl <| wAdd fun t18 => ?_⟩
      have la := lg_lt p[i]
      have lb := lg_lt c
      have e1 : ((lg p[i] : Nat) : Int) + (y.toNat : Int) = ((lg p[i] + lg c : Nat) : Int) := by rw [ey]; rfl
      rw [e1]
      refine ⟨_, _, rfl, G.exp, wBaGet G.exp (n0 _) (n1 (Nat.lt_trans (Nat.add_lt_add la lb) (by decide))) (by rw [Int.toNat_natCast]; exact exp_at (Nat.lt_of_lt_of_le (Nat.add_lt_add la lb) (by decide))) fun t19 => wIXor fun t20 => ?_⟩
      refine wBaSet hr3 (n0 _) (by rw [Int.toNat_natCast]; exact kl) (by rw [hm]; exact hz) (n0 _) (x_lt _ _) fun h₁₄ sb e14 => rNil (rNil ?_)
      rw [x_u8, Int.toNat_natCast, ← gmul_ne d0 c0] at e14
      have P1 : List.Perm [(I', oI'), (I, oI), (D, oD), (r, bl m), (h.objs.size + 1, oc)] [(r, bl m), (I', oI'), (I, oI), (D, oD), (h.objs.size + 1, oc)] := by
        exact (List.perm_middle (l₁ := [(I', oI'), (I, oI), (D, oD)]) (a := (r, bl m)) (l₂ := [(h.objs.size + 1, oc)]))
      have P2 : ∀ m', List.Perm [(r, bl m'), (I', oI'), (I, oI), (D, oD), (h.objs.size + 1, oc)] [(I', oI'), (I, oI), (D, oD), (r, bl m'), (h.objs.size + 1, oc)] := fun m' => (List.perm_middle (l₁ := [(I', oI'), (I, oI), (D, oD)]) (a := (r, bl m')) (l₂ := [(h.objs.size + 1, oc)])).symm
      refine ⟨_, fin _ (by rw [List.length_set]; exact hm) ?_, (((F.perm P1).turn sb e14).perm (P2 _)).pick _ ⟨rfl, rfl, rfl, rfl, rfl, trivial⟩⟩
      rw [co_set_xor m (i + j) _ m[i + j] (List.getElem?_eq_getElem kl), hm]
    · rintro m h₁₃ ⟨hm, hd⟩ F
      refine rNil (rNil ⟨m, ⟨hm, ?_⟩, F.pick _ ⟨rfl, rfl, rfl, trivial⟩⟩)
      rw [hd, psum_top (Nat.le_of_eq (by simp)), psum_succ hqj', pmul_add, hc]
  · rintro l h₉ ⟨hl, hc⟩ F
    refine rCons (rReturn (rLocal F rfl (k r h₉ l F.keep hrB (F.get (.tail _ (.head _))) hl ?_)))
    rw [hc, psum_top (Nat.le_of_eq (by simp))]
end
end
end Mine

/-! part MLan -/
namespace Mine
noncomputable section
/-- n lanes, the lowest first -/
def pkf (f : Nat → Nat) : Nat → Nat
  | 0 => 0
  | n + 1 => f 0 + 65536 * pkf (fun i => f (i + 1)) n

theorem pkf_succ (f : Nat → Nat) (n : Nat) : pkf f (n + 1) = f 0 + 65536 * pkf (fun i => f (i + 1)) n := rfl
theorem bits_cat (a b c d : Nat) (hb : b < 65536) (hd : d < 65536) (op : Bool → Bool → Bool) (F : Nat → Nat → Nat) (hF : ∀ x y j, (F x y).testBit j = op (x.testBit j) (y.testBit j)) (hl : F b d < 65536) :
    F (b + 65536 * a) (d + 65536 * c) = F b d + 65536 * F a c := by
  have tb : ∀ (x y j : Nat), x < 65536 → (x + 65536 * y).testBit j = if j < 16 then x.testBit j else y.testBit (j - 16) := fun x y j hx => by
    rw [Nat.add_comm]; exact Nat.testBit_two_pow_mul_add (i := 16) y hx j
  apply Nat.eq_of_testBit_eq
  intro j
  rw [hF, tb _ _ _ hb, tb _ _ _ hd, tb _ _ _ hl]
  split
  · exact (hF ..).symm
  · exact (hF ..).symm

theorem pkf_xor : ∀ (n : Nat) (f g : Nat → Nat), (∀ i, f i < 65536) → (∀ i, g i < 65536) → pkf f n ^^^ pkf g n = pkf (fun i => f i ^^^ g i) n
  | 0, f, g, hf, hg => by simp [gmul_zero, zero_gmul, one_gmul, gmul_one, pkf]
  | n + 1, f, g, hf, hg => by
    rw [pkf, pkf, pkf, bits_cat _ _ _ _ (hf 0) (hg 0) Bool.xor (· ^^^ ·) (fun x y j => Nat.testBit_xor ..) (Nat.xor_lt_two_pow (n := 16) (hf 0) (hg 0))]
    rw [pkf_xor n _ _ (fun i => hf (i + 1)) (fun i => hg (i + 1))]
theorem pkf_mul (k : Nat) : ∀ (n : Nat) (f : Nat → Nat), pkf f n * k = pkf (fun i => f i * k) n
  | 0, f => by simp [gmul_zero, zero_gmul, one_gmul, gmul_one, pkf]
  | n + 1, f => by rw [pkf, pkf, ← pkf_mul k n, Nat.add_mul, Nat.mul_assoc]
theorem pkf_zero : ∀ (n : Nat) (f : Nat → Nat), (∀ i, f i = 0) → pkf f n = 0
  | 0, f, h => rfl
  | n + 1, f, h => by rw [pkf, h, pkf_zero n _ fun i => h (i + 1)]
theorem pkf_more : ∀ (n m : Nat) (f : Nat → Nat), (∀ i, n ≤ i → f i = 0) → n ≤ m → pkf f m = pkf f n
  | 0, m, f, h, hm => by rw [pkf_zero m f fun i => h i (Nat.zero_le _)]; rfl
  | n + 1, 0, f, h, hm => by omega
  | n + 1, m + 1, f, h, hm => by rw [pkf, pkf, pkf_more n m _ (fun i hi => h (i + 1) (by omega)) (by omega)]
theorem pkf_congr : ∀ (n : Nat) (f g : Nat → Nat), (∀ i, i < n → f i = g i) → pkf f n = pkf g n
  | 0, f, g, h => rfl
  | n + 1, f, g, h => by rw [pkf, pkf, h 0 (by omega), pkf_congr n _ _ fun i hi => h (i + 1) (by omega)]
def sh (j : Nat) (f : Nat → Nat) : Nat → Nat := fun i => if j ≤ i then f (i - j) else 0
theorem pkf_sh (n : Nat) (f : Nat → Nat) : ∀ j, pkf f n * 65536 ^ j = pkf (sh j f) (n + j)
  | 0 => by simp [gmul_zero, zero_gmul, one_gmul, gmul_one]; exact pkf_congr _ _ _ fun i hi => by simp [gmul_zero, zero_gmul, one_gmul, gmul_one, sh]
  | j + 1 => by
    rw [Nat.pow_succ, ← Nat.mul_assoc, pkf_sh n f j, Nat.mul_comm, show n + (j + 1) = (n + j) + 1 by omega, pkf]
    have : sh (j + 1) f 0 = 0 := by simp [gmul_zero, zero_gmul, one_gmul, gmul_one, sh]
    rw [this, Nat.zero_add]
    congr 2
    funext i
    simp [gmul_zero, zero_gmul, one_gmul, gmul_one, sh]
theorem pkf_div : ∀ (n : Nat) (f : Nat → Nat), f 0 < 65536 → pkf f (n + 1) / 65536 = pkf (fun i => f (i + 1)) n := fun n f h => by
  rw [pkf]; omega
theorem pkf_low {n : Nat} {f : Nat → Nat} (p : Nat) (hp : p < 8) : pkf f (n + 1) / 2 ^ p % 2 = f 0 / 2 ^ p % 2 := by
  rw [pkf, show 65536 * pkf (fun i => f (i + 1)) n = 2 ^ p * (2 ^ (16 - p) * pkf (fun i => f (i + 1)) n) by rw [← Nat.mul_assoc, ← Nat.pow_add, show p + (16 - p) = 16 by omega], Nat.add_mul_div_left _ _ (Nat.two_pow_pos p)]
  rw [show 16 - p = (15 - p) + 1 by omega, Nat.pow_succ]
  rw [show 2 ^ (15 - p) * 2 * pkf (fun i => f (i + 1)) n = 2 * (2 ^ (15 - p) * pkf (fun i => f (i + 1)) n) by rw [Nat.mul_comm (2 ^ (15 - p)) 2, Nat.mul_assoc]]
  omega
theorem pkf_bits (p : Nat) (hp : p < 16) : ∀ (n : Nat) (f : Nat → Nat), (∀ i, f i < 65536) → pkf f n / 2 ^ p &&& pkf (fun _ => 1) n = pkf (fun i => f i / 2 ^ p % 2) n
  | 0, f, h => by simp [gmul_zero, zero_gmul, one_gmul, gmul_one, pkf]
  | n + 1, f, h => by
    have hP : 0 < 2 ^ p := Nat.two_pow_pos p
    have e1 : pkf f (n + 1) / 2 ^ p = (pkf f (n + 1) / 2 ^ p) % 65536 + 65536 * (pkf (fun i => f (i + 1)) n / 2 ^ p) := by
      have : pkf (fun i => f (i + 1)) n = pkf f (n + 1) / 65536 := (pkf_div n f (h 0)).symm
      have e0 : pkf f (n + 1) / 65536 / 2 ^ p = pkf f (n + 1) / 2 ^ p / 65536 := by rw [Nat.div_div_eq_div_mul, Nat.div_div_eq_div_mul, Nat.mul_comm]
      rw [this, e0]
      generalize pkf f (n + 1) / 2 ^ p = y
      omega
    have e2 : pkf (fun _ => 1) (n + 1) = 1 + 65536 * pkf (fun _ => 1) n := rfl
    rw [e1, e2, bits_cat _ _ _ _ (Nat.mod_lt _ (by decide)) (by decide) Bool.and (· &&& ·) (fun x y j => Nat.testBit_and ..) (Nat.lt_of_le_of_lt Nat.and_le_right (by decide)), pkf_bits p hp n _ (fun i => h (i + 1)), pkf_succ (fun i => f i / 2 ^ p % 2)]
    congr 1
    rw [Nat.and_one_is_mod]
    have e3 : pkf f (n + 1) / 2 ^ p % 65536 % 2 = pkf f (n + 1) / 2 ^ p % 2 := by omega
    rw [e3, pkf_succ f]
    rw [show 65536 * pkf (fun i => f (i + 1)) n = 2 ^ p * (2 ^ (16 - p) * pkf (fun i => f (i + 1)) n) by rw [← Nat.mul_assoc, ← Nat.pow_add, show p + (16 - p) = 16 by omega], Nat.add_mul_div_left _ _ hP]
    rw [show 16 - p = (15 - p) + 1 by omega, Nat.pow_succ]
    rw [show 2 ^ (15 - p) * 2 * pkf (fun i => f (i + 1)) n = 2 * (2 ^ (15 - p) * pkf (fun i => f (i + 1)) n) by rw [Nat.mul_comm (2 ^ (15 - p)) 2, Nat.mul_assoc]]
    omega
theorem pkf_pos : ∀ (n : Nat) (f : Nat → Nat), pkf f n = 0 → ∀ i, i < n → f i = 0
  | 0, f, h, i, hi => by omega
  | n + 1, f, h, 0, hi => by rw [pkf] at h; omega
  | n + 1, f, h, i + 1, hi => pkf_pos n (fun i => f (i + 1)) (by rw [pkf] at h; omega) i (by omega)
theorem pkf_inj : ∀ (n : Nat) (f g : Nat → Nat), (∀ i, f i < 65536) → (∀ i, g i < 65536) → pkf f n = pkf g n → ∀ i, i < n → f i = g i
  | 0, f, g, hf, hg, e, i, hi => by omega
  | n + 1, f, g, hf, hg, e, 0, hi => by
    rw [pkf, pkf] at e
    have a := hf 0; have b := hg 0
    omega
  | n + 1, f, g, hf, hg, e, i + 1, hi => pkf_inj n (fun i => f (i + 1)) (fun i => g (i + 1)) (fun i => hf _) (fun i => hg _) (by
    rw [pkf, pkf] at e
    have a := hf 0; have b := hg 0
    omega) i (by omega)
theorem pkf_lt : ∀ (n : Nat) (f : Nat → Nat), (∀ i, f i < 65536) → pkf f n < 65536 ^ n
  | 0, f, h => by simp [gmul_zero, zero_gmul, one_gmul, gmul_one, pkf]
  | n + 1, f, h => by
    have a := h 0
    have b := pkf_lt n _ fun i => h (i + 1)
    rw [pkf, Nat.pow_succ]
    omega

/-! the reduction of one lane -/
def rst (v place : Nat) : Nat := v ^^^ (v / 2 ^ place % 2) * 285 * 2 ^ (place - 8)
/-- the places 14, 13, .. : k of them -/
def redN : Nat → Nat → Nat
  | 0, v => v
  | k + 1, v => rst (redN k v) (14 - k)
def red (v : Nat) : Nat := redN 7 v
theorem bit_xor (u v p : Nat) : (u ^^^ v) / 2 ^ p % 2 = (u / 2 ^ p % 2) ^^^ (v / 2 ^ p % 2) := by
  have e : ∀ x : Nat, x / 2 ^ p % 2 = (x.testBit p).toNat := fun x => by
    rw [Nat.testBit_eq_decide_div_mod_eq]
    rcases Nat.mod_two_eq_zero_or_one (x / 2 ^ p) with h | h <;> simp [gmul_zero, zero_gmul, one_gmul, gmul_one, h]
  rw [e, e, e, Nat.testBit_xor]
  cases u.testBit p <;> cases v.testBit p <;> rfl
theorem bit_mul_xor {a b : Nat} (ha : a < 2) (hb : b < 2) (k : Nat) : (a ^^^ b) * k = a * k ^^^ b * k := by
  have h1 : a = 0 ∨ a = 1 := by omega
  have h2 : b = 0 ∨ b = 1 := by omega
  rcases h1 with rfl | rfl <;> rcases h2 with rfl | rfl <;> simp [gmul_zero, zero_gmul, one_gmul, gmul_one]
theorem rst_xor (u v p : Nat) : rst (u ^^^ v) p = rst u p ^^^ rst v p := by
  unfold rst
  rw [bit_xor, Nat.mul_assoc, Nat.mul_assoc, Nat.mul_assoc, bit_mul_xor (Nat.mod_lt _ (by decide)) (Nat.mod_lt _ (by decide))]
  simp only [Nat.xor_assoc]
  congr 1
  rw [← Nat.xor_assoc, ← Nat.xor_assoc, Nat.xor_comm v]
theorem redN_xor (u v : Nat) : ∀ k, redN k (u ^^^ v) = redN k u ^^^ redN k v
  | 0 => rfl
  | k + 1 => by rw [redN, redN, redN, redN_xor u v k, rst_xor]
theorem red_xor (u v : Nat) : red (u ^^^ v) = red u ^^^ red v := redN_xor u v 7
theorem red_zero : red 0 = 0 := by decide
theorem rst_lt {v p : Nat} (hv : v < 2 ^ 15) (h1 : 8 ≤ p) (h2 : p ≤ 14) : rst v p < 2 ^ 15 ∧ (v / 2 ^ p % 2) * 285 * 2 ^ (p - 8) < 65536 := by
  have hb : v / 2 ^ p % 2 < 2 := Nat.mod_lt _ (by decide)
  have hp : 2 ^ (p - 8) ≤ 2 ^ 6 := Nat.pow_le_pow_right (by decide) (by omega)
  have hm : (v / 2 ^ p % 2) * 285 * 2 ^ (p - 8) ≤ 1 * 285 * 2 ^ 6 := Nat.mul_le_mul (Nat.mul_le_mul (by omega) (Nat.le_refl _)) hp
  have hk : (1 * 285 * 2 ^ 6 : Nat) < 2 ^ 15 := by decide
  exact ⟨Nat.xor_lt_two_pow hv (by omega), by have : (2 : Nat) ^ 15 < 65536 := by decide
                                              omega⟩
theorem redN_lt {v : Nat} (hv : v < 2 ^ 15) : ∀ k, k ≤ 7 → redN k v < 2 ^ 15
  | 0, _ => hv
  | k + 1, hk => (rst_lt (redN_lt hv k (by omega)) (by omega) (by omega)).1
def xtN : Nat → Nat → Nat
  | 0, a => a
  | p + 1, a => xt (xtN p a)
theorem red_table : ∀ p, p < 8 → ∀ a, a < 256 → red (a * 2 ^ p) = xtN p a := by decide +kernel
theorem red_mul (p : Nat) (hp : p < 8) (a : UInt8) : red (a.toNat * 2 ^ p) = (gmul a (2 ^ p).toUInt8).toNat := by
  rw [red_table p hp a.toNat a.toNat_lt]
  have : ∀ q, q < 8 → xtN q a.toNat = (gmul a (2 ^ q).toUInt8).toNat := by
    intro q
    induction q with
    | zero => intro _; simp [gmul_zero, zero_gmul, one_gmul, gmul_one, xtN]
    | succ q ih =>
      intro hq
      rw [xtN, ih (by omega), ← gmul_two, ← gmul_assoc, gmul_comm 2 a, gmul_assoc]
      congr 2
      have : ∀ q, q < 7 → gmul 2 (2 ^ q).toUInt8 = (2 ^ (q + 1)).toUInt8 := by decide +kernel
      exact this q (by omega)
  exact this p hp

/-! polynomials as numbers -/
def nm (f : PS) (n : Nat) : Nat := pkf (fun i => (f i).toNat) n
theorem u8_lane (x : UInt8) : x.toNat < 65536 := by have := x.toNat_lt; omega
theorem nm_more {f : PS} {n m : Nat} (h : Dg f n) (hm : n ≤ m) : nm f m = nm f n := pkf_more n m _ (fun i hi => by rw [h i hi]; rfl) hm
theorem nm_inj {f g : PS} {n : Nat} (hf : Dg f n) (hg : Dg g n) (e : nm f n = nm g n) : f = g := by
  funext i
  by_cases h : i < n
  · exact UInt8.toNat_inj.mp (pkf_inj n _ _ (fun i => u8_lane _) (fun i => u8_lane _) e i h)
  · rw [hf i (by omega), hg i (by omega)]
theorem nm_add (f g : PS) (n : Nat) : nm f n ^^^ nm g n = nm (padd f g) n := by
  unfold nm
  rw [pkf_xor n _ _ (fun i => u8_lane _) (fun i => u8_lane _)]
  exact pkf_congr _ _ _ fun i _ => by simp [gmul_zero, zero_gmul, one_gmul, gmul_one, padd]
theorem nm_shift {f : PS} {n : Nat} : nm f n * 65536 = nm (pmul (mono 1 1) f) (n + 1) := by
  unfold nm
  have := pkf_sh n (fun i => (f i).toNat) 1
  rw [Nat.pow_one] at this
  rw [this]
  refine pkf_congr _ _ _ fun i _ => ?_
  rw [mono_pmul]
  simp only [sh, one_gmul]
  split <;> rfl
/-- Horner -/
theorem nm_co : ∀ (l : List UInt8), l.foldl (fun w o => w * 65536 + o.toNat) 0 = nm (co l) l.length := by
  intro l
  have key : ∀ (l : List UInt8) (a : Nat), l.foldl (fun w o => w * 65536 + o.toNat) a = a * 65536 ^ l.length + nm (co l) l.length := by
    intro l
    induction l with
    | nil => intro a; simp [gmul_zero, zero_gmul, one_gmul, gmul_one, nm, pkf]
    | cons x r ih =>
      intro a
      rw [List.foldl_cons, ih]
      have e : nm (co (x :: r)) (x :: r).length = x.toNat * 65536 ^ r.length + nm (co r) r.length := by
        have d := dg_co r
        have : ∀ (n : Nat) (f : PS), Dg f n → nm (padd (mono x n) f) (n + 1) = x.toNat * 65536 ^ n + nm f n := by
          intro n
          induction n with
          | zero => intro f hf; simp [gmul_zero, zero_gmul, one_gmul, gmul_one, nm, pkf, padd, mono, hf 0 (by omega)]
          | succ n ih =>
            intro f hf
            have h1 := ih (ptl f) (fun i hi => hf (i + 1) (by omega))
            unfold nm at h1 ⊢
            rw [pkf_succ, pkf_succ (fun i => (f i).toNat)]
            have e1 : (fun i => ((padd (mono x (n + 1)) f) (i + 1)).toNat) = fun i => ((padd (mono x n) (ptl f)) i).toNat := by
              funext i; simp [gmul_zero, zero_gmul, one_gmul, gmul_one, padd, mono, ptl]
            have e2 : ((padd (mono x (n + 1)) f) 0).toNat = (f 0).toNat := by simp [gmul_zero, zero_gmul, one_gmul, gmul_one, padd, mono]
            rw [e1, e2, h1]
            show (f 0).toNat + 65536 * (x.toNat * 65536 ^ n + pkf (fun i => (f (i + 1)).toNat) n) = x.toNat * 65536 ^ (n + 1) + ((f 0).toNat + 65536 * pkf (fun i => (f (i + 1)).toNat) n)
            rw [Nat.pow_succ, Nat.mul_add, ← Nat.mul_assoc, Nat.mul_comm 65536 x.toNat, Nat.mul_assoc, Nat.mul_comm 65536 (65536 ^ n)]
            omega
        rw [co, List.length_cons]
        exact this _ _ d
      rw [e, List.length_cons, Nat.pow_succ, Nat.add_mul, Nat.mul_assoc, Nat.mul_comm 65536]
      omega
  rw [key l 0]; simp [gmul_zero, zero_gmul, one_gmul, gmul_one]
end
end Mine

/-! part MPrd -/
namespace Mine
noncomputable section
def trc (g : PS) (j : Nat) : PS := fun i => if i < j then g i else 0
structure PI (f g : PS) (j : Nat) (c : UInt8) (V : Nat → Nat) : Prop where
  lt : ∀ i, V i < 2 ^ 15
  red : ∀ i, red (V i) = (pmul f (padd (trc g j) (mono c j)) i).toNat
def toN (f : PS) : Nat → Nat := fun i => (f i).toNat
theorem PI.start (f g : PS) : PI f g 0 0 (fun _ => 0) := ⟨fun _ => by decide, fun i => by
  have : trc g 0 = pz := funext fun i => by simp [gmul_zero, zero_gmul, one_gmul, gmul_one, trc, pz]
  rw [this, mono_zero, padd_self, pmul_zero]; rfl⟩
theorem PI.bit {f g : PS} {j : Nat} {c : UInt8} {V : Nat → Nat} (x : PI f g j c V) {p : Nat} (hp : p < 8) : PI f g j (c ^^^ (2 ^ p).toUInt8) (fun i => V i ^^^ sh j (toN f) i * 2 ^ p) := by
  have hl : ∀ i, sh j (toN f) i * 2 ^ p < 2 ^ 15 := fun i => by
    have h1 : sh j (toN f) i ≤ 255 := by
      unfold sh toN
      split
      · have := (f (i - j)).toNat_lt; omega
      · omega
    have h2 : 2 ^ p ≤ 2 ^ 7 := Nat.pow_le_pow_right (by decide) (by omega)
    have := Nat.mul_le_mul h1 h2
    have h3 : (255 * 2 ^ 7 : Nat) < 2 ^ 15 := by decide
    omega
  refine ⟨fun i => Nat.xor_lt_two_pow (x.lt i) (hl i), fun i => ?_⟩
  rw [red_xor, x.red, ← mono_add, ← padd_assoc, pmul_add_right i f (padd (trc g j) (mono c j)) (mono ((2 ^ p : Nat).toUInt8) j), UInt8.toNat_xor]
  congr 1
  rw [pmul_comm f, mono_pmul]
  unfold sh toN
  split
  · rw [red_mul p hp, gmul_comm]
  · simp [gmul_zero, zero_gmul, one_gmul, gmul_one, red_zero]
def cOf (b : UInt8) (p : Nat) : UInt8 := (b.toNat % 2 ^ p).toUInt8
theorem cOf_table : ∀ p, p < 8 → ∀ b, b < 256 → (b % 2 ^ (p + 1)).toUInt8 = if b / 2 ^ p % 2 = 1 then (b % 2 ^ p).toUInt8 ^^^ (2 ^ p).toUInt8 else (b % 2 ^ p).toUInt8 := by decide +kernel
theorem cOf_succ (b : UInt8) {p : Nat} (hp : p < 8) : cOf b (p + 1) = if b.toNat / 2 ^ p % 2 = 1 then cOf b p ^^^ (2 ^ p).toUInt8 else cOf b p := cOf_table p hp b.toNat b.toNat_lt
theorem cOf_zero (b : UInt8) : cOf b 0 = 0 := by simp [gmul_zero, zero_gmul, one_gmul, gmul_one, cOf, Nat.mod_one]
theorem cOf_eight (b : UInt8) : cOf b 8 = b := by
  unfold cOf
  rw [Nat.mod_eq_of_lt b.toNat_lt]
  exact UInt8.ofNat_toNat
theorem PI.next {f g : PS} {j : Nat} {V : Nat → Nat} (x : PI f g j (cOf (g j) 8) V) : PI f g (j + 1) 0 V := by
  refine ⟨x.lt, fun i => ?_⟩
  rw [x.red, cOf_eight, mono_zero, padd_zero]
  congr 3
  funext i
  simp only [padd, trc, mono]
  by_cases h : i < j
  · simp [gmul_zero, zero_gmul, one_gmul, gmul_one, h, show i < j + 1 by omega, show i ≠ j by omega]
  · by_cases h' : i = j
    · simp [gmul_zero, zero_gmul, one_gmul, gmul_one, h']
    · simp [gmul_zero, zero_gmul, one_gmul, gmul_one, h, h', show ¬ i < j + 1 by omega]
theorem PI.lane {f g : PS} {j : Nat} {c : UInt8} {V : Nat → Nat} (x : PI f g j c V) (i : Nat) : V i < 65536 := by have := x.lt i; omega

/-- what is XORed in -/
theorem put_eq {f g : PS} {a b j p : Nat} (hf : Dg f a) (hg : Dg g b) (hab : a + b ≤ 13) (hj : g j ≠ 0) : nm f 12 * 65536 ^ j * 2 ^ p = pkf (fun i => sh j (toN f) i * 2 ^ p) 12 := by
  have hjb : j < b := by
    rcases Nat.lt_or_ge j b with h | h
    · exact h
    · exact absurd (hg j h) hj
  unfold nm
  rw [pkf_sh, pkf_more 12 (12 + j) _ (fun i hi => ?_) (by omega), pkf_mul]
  · rfl
  · simp only [sh]
    rw [if_pos (by omega), hf (i - j) (by omega)]; rfl
theorem sh_lane (f : PS) (j p : Nat) (hp : p < 8) (i : Nat) : sh j (toN f) i * 2 ^ p < 65536 := by
  have h1 : sh j (toN f) i ≤ 255 := by
    unfold sh toN
    split
    · have := (f (i - j)).toNat_lt; omega
    · omega
  have h2 : 2 ^ p ≤ 2 ^ 7 := Nat.pow_le_pow_right (by decide) (by omega)
  have := Nat.mul_le_mul h1 h2
  have h3 : (255 * 2 ^ 7 : Nat) < 65536 := by decide
  omega
theorem trc_all {g : PS} {j : Nat} (hg : Dg g 12) (e : pkf (fun i => (g (i + j)).toNat) (12 - j) = 0) : trc g j = g := by
  funext i
  unfold trc
  split
  · rfl
  · rename_i h
    by_cases h12 : i < 12
    · have := pkf_pos _ _ e (i - j) (by omega)
      rw [show i - j + j = i by omega] at this
      exact (UInt8.toNat_inj.mp (by simpa [gmul_zero, zero_gmul, one_gmul, gmul_one] using this)).symm
    · exact (hg i (by omega)).symm
/-- one step of the reduction, on the whole number -/
theorem red_step {V : Nat → Nat} (hV : ∀ i, V i < 2 ^ 15) {k : Nat} (hk : k < 7) : pkf (fun i => redN k (V i)) 12 ^^^ (pkf (fun i => redN k (V i)) 12 / 2 ^ (14 - k) &&& pkf (fun _ => 1) 12) * 285 * 2 ^ (14 - k - 8) = pkf (fun i => redN (k + 1) (V i)) 12 := by
  have hl : ∀ i, redN k (V i) < 2 ^ 15 := fun i => redN_lt (hV i) k (by omega)
  have hl' : ∀ i, redN k (V i) < 65536 := fun i => by have := hl i; omega
  rw [pkf_bits _ (by omega) _ _ hl', pkf_mul, pkf_mul, pkf_xor _ _ _ hl' (fun i => (rst_lt (hl i) (by omega) (by omega)).2)]
  rfl
theorem ones_eq : (65536 ^ 12 - 1) / 65535 = pkf (fun _ => 1) 12 := by decide
end
end Mine

/-! part MLw -/
namespace Mine
noncomputable section
open PySem PySem.W PyProof.Rows
open Sem (wp)
section
variable {w : World} {A : Around} {h : Heap} {env : Env} {Q : Value → Heap → Prop} {d : Ad} {m n : Nat} {t u : Tok}

theorem bits_small {b : Nat} (hb : b < 2 ^ 60) : Builtin.Int.intBits (b : Int) ≤ 64 := by
  unfold Builtin.Int.intBits
  split
  · omega
  · rename_i h0
    have b0 : b ≠ 0 := by rintro rfl; exact h0 rfl
    rw [Int.natAbs_natCast]
    have := (Nat.log2_lt b0).mpr hb
    omega
theorem noPylong (a : Int) {b : Nat} (hb : b < 2 ^ 60) : Builtin.divisionGoesByPylong a (b : Int) = false := by
  unfold Builtin.divisionGoesByPylong
  have : ¬ ((if ((b : Int) == 0) = true then 0 else (b : Int).natAbs.log2 / 30 + 1) > 300) := by
    split
    · omega
    · rename_i h0
      have b0 : b ≠ 0 := by rintro rfl; exact h0 rfl
      rw [Int.natAbs_natCast]
      have := (Nat.log2_lt b0).mpr hb
      omega
  simp only [decide_eq_false this, Bool.false_and]
theorem wAddN (y : ∀ k, Q (.int ((m + n : Nat) : Int) k) h) : W w A (binaryOp .Add (.int (m : Int) t) (.int (n : Int) u)) Q h := wAdd fun k => by rw [← Int.natCast_add]; exact y k
theorem wMulN (hn : n < 2 ^ 60) (y : ∀ k, Q (.int ((m * n : Nat) : Int) k) h) : W w A (binaryOp .Mult (.int (m : Int) t) (.int (n : Int) u)) Q h := wMul (.of_right (bits_small hn)) fun k => by rw [← Int.natCast_mul]; exact y k
theorem wPowN (hn : n ≤ 1000) (hm : m < 2 ^ 60) (y : ∀ k, Q (.int ((m ^ n : Nat) : Int) k) h) : W w A (binaryOp .Pow (.int (m : Int) t) (.int (n : Int) u)) Q h :=
  wPow (by omega) (by omega) (by rw [Int.natAbs_natCast]; omega) fun k => by rw [Int.toNat_natCast, ← Int.natCast_pow]; exact y k
theorem wDivN (h0 : n ≠ 0) (hn : n < 2 ^ 60) (y : ∀ k, Q (.int ((m / n : Nat) : Int) k) h) : W w A (binaryOp .FloorDiv (.int (m : Int) t) (.int (n : Int) u)) Q h :=
  wDiv (by omega) (noPylong _ hn) fun k => by rw [Int.fdiv_eq_ediv_of_nonneg _ (by omega), ← Int.natCast_ediv]; exact y k
theorem wModN (h0 : n ≠ 0) (y : ∀ k, Q (.int ((m % n : Nat) : Int) k) h) : W w A (binaryOp .Mod (.int (m : Int) t) (.int (n : Int) u)) Q h :=
  wMod (by omega) fun k => by rw [Int.fmod_eq_emod_of_nonneg _ (by omega), ← Int.natCast_emod]; exact y k
theorem p60 {p : Nat} (h : p < 20) : 2 ^ p < 2 ^ 60 := Nat.pow_lt_pow_right (by decide) (by omega)

theorem law_number_W {a : Addr} {l : List UInt8} (G₀ : Gl d h) (o : Ok 1 A) (hp : h.get? a = some (bl l)) (zp : l.length < 1000)
    (k : ∀ h' t, Ext h h' → Q (.int (nm (co l) l.length : Nat) t) h') : W w A (call (.ref d.num) [.ref a]) Q h := by
  refine rFn (binds := [(Str.ofString "octets", .ref a)]) G₀ G₀.num o (fun pm cd => rfl) (locs rfl) (by decide +kernel) fun cd h₁ F G => ?_
  refine rCons <| rAssign <| rInt fun t0 => rStore F fun h₂ F => ?_
  refine rCons <| rFor <| rLocal F rfl <| wIterBa (F.base hp) fun I h₃ x3 hI eI => ?_
  have F := F.new x3 hI eI
  refine rForFm (σ := Nat × Tok) (It.ba (by exact o.handled) a l) (fun i c => c.1 = (l.take i).foldl (fun w o => w * 65536 + o.toNat) 0) (fun c => [(Str.ofString "whole", .int (c.1 : Nat) c.2), (Str.ofString "octets", .ref a)]) (fun _ => []) (fun i c h o _ F => F.base hp) (0, t0) (F.pick _ ⟨rfl, rfl, trivial⟩) ⟨rfl, rfl⟩ rfl ?_ ?_
  · rintro i ⟨c, tc⟩ h₄ v oI hi hc ⟨x, tx, ex, rfl⟩ F
    refine rCons <| rAssign <| rBin <| rBin <| rLocal F rfl <| rInt fun t1 => wMulN (n := 65536) (by decide) fun t2 => rLocal F rfl <| wAddN fun t3 => rStore F fun h₅ F => rNil ⟨(c * 65536 + x.toNat, t3), ?_, F.pick _ ⟨rfl, rfl, trivial⟩⟩
    have hc : c = (l.take i).foldl (fun w o => w * 65536 + o.toNat) 0 := hc
    show c * 65536 + x.toNat = _
    rw [List.take_add_one, ex, List.foldl_append, ← hc]
    rfl
  · rintro ⟨c, tc⟩ h₄ hc F
    have hc : c = (l.take l.length).foldl (fun w o => w * 65536 + o.toNat) 0 := hc
    rw [List.take_length, nm_co] at hc
    refine rCons (rReturn (rLocal F rfl ?_))
    show Q (.int (c : Nat) tc) h₄
    rw [hc]
    exact k h₄ tc F.keep

theorem law_product_W {f g : PS} {a b : Nat} {tf tg ts : Tok} (G₀ : Gl d h) (o : Ok 1 A) (hf : Dg f a) (hg : Dg g b) (ha : a ≤ 12) (hb : b ≤ 12) (hab : a + b ≤ 13)
    (k : ∀ h' t, Ext h h' → Q (.int (nm (pmul f g) 12 : Nat) t) h') : W w A (call (.ref d.prod) [.int (nm f 12 : Nat) tf, .int (nm g 12 : Nat) tg, .int 12 ts]) Q h := by
  have hg12 : Dg g 12 := hg.mono hb
  refine rFn (binds := [(Str.ofString "left", .int (nm f 12 : Nat) tf), (Str.ofString "right", .int (nm g 12 : Nat) tg), (Str.ofString "size", .int 12 ts)]) G₀ G₀.prod o (fun pm cd => rfl) (locs rfl) (by decide +kernel) fun cd h₁ F G => ?_
  refine rCons <| rAssign <| rInt fun t0 => rStore F fun h₂ F => ?_
  refine rCons <| rWhile (fun n h' => ∃ j V tw tl tr, j ≤ 12 ∧ n = 12 - j ∧ PI f g j 0 V ∧ Fm h h.objs.size h' [(Str.ofString "whole", .int (pkf V 12 : Nat) tw), (Str.ofString "left", .int (nm f 12 * 65536 ^ j : Nat) tl), (Str.ofString "right", .int (pkf (fun i => (g (i + j)).toNat) (12 - j) : Nat) tr), (Str.ofString "size", .int 12 ts)] []) 12 ?_ ⟨0, fun _ => 0, t0, tf, tg, by omega, rfl, PI.start f g, ?_⟩
  · rintro n h₃ ⟨j, V, tw, tl, tr, hj, rfl, hV, F⟩
    refine rTCmp <| rLocal F rfl <| rInt fun t1 => wGt <| rTruthB ?_
    generalize hR : pkf (fun i => (g (i + j)).toNat) (12 - j) = R at F
    by_cases hR0 : R = 0
    · refine itF (by rw [hR0]; rfl) ?_
      subst hR0
      have htr := trc_all hg12 hR
      have hred : ∀ i, red (V i) = (pmul f g i).toNat := fun i => by rw [hV.red, mono_zero, padd_zero, htr]
      -- ones
      show W _ _ (execs _ _) _ h₃
      refine rCons <| rAssign <| rBin <| rBin <| rBin <| rInt fun t2 => rLocal F rfl <| wPowN (m := 65536) (n := 12) (by decide) (by decide) fun t3 => rInt fun t4 => wSub fun t5 => ?_
      have e1 : (((65536 ^ 12 : Nat) : Int) - 1) = ((65536 ^ 12 - 1 : Nat) : Int) := by decide
      rw [e1]
      refine rInt fun t6 => wDivN (n := 65535) (by decide) (by decide) fun t7 => ?_
      rw [ones_eq]
      refine rStore F fun h₄ F => ?_
      have G := G₀.ext F.keep
      refine rCons <| rFor <| rB3 G <| rInt fun t8 => rInt fun t9 => rUn <| rInt fun t10 => wNeg fun t11 => wRange3 (by decide) (by decide) fun rg h₅ t u v x5 hrg => ?_
      have F := F.ext x5
      refine wIterRange hrg (by decide) fun I h₆ x6 hI eI => ?_
      have F := F.new x6 hI eI
      refine rForFm (σ := Nat × Tok) (It.range (by exact o.handled) 14 (-1) 7) (fun k c => c.1 = pkf (fun i => redN k (V i)) 12) (fun c => [(Str.ofString "whole", .int (c.1 : Nat) c.2), (Str.ofString "ones", .int (pkf (fun _ => 1) 12 : Nat) t7)]) (fun _ => []) (fun _ _ _ _ _ _ => trivial) (pkf V 12, tw) (F.pick _ ⟨rfl, rfl, trivial⟩) rfl rfl ?_ ?_
      · rintro i ⟨c, tc⟩ h₇ v oI hi hc ⟨tp, rfl⟩ F
        have hc : c = pkf (fun i' => redN i (V i')) 12 := hc
        have ep : (14 : Int) + -1 * (i : Int) = ((14 - i : Nat) : Int) := by omega
        rw [ep] at F
        refine rCons <| rAssign <| rBin <| rLocal F rfl <| rBin <| rBin <| rBin <| rBin <| rLocal F rfl <| rBin <| rInt fun t12 => rLocal F rfl <| wPowN (m := 2) (n := 14 - i) (by omega) (by decide) fun t13 => wDivN (Nat.pos_iff_ne_zero.mp (Nat.two_pow_pos _)) (p60 (by omega)) fun t14 => ?_
        refine rLocal F rfl <| wAnd fun t15 => rInt fun t16 => wMulN (n := 285) (by decide) fun t17 => ?_
        refine rBin <| rInt fun t18 => rBin <| rLocal F rfl <| rInt fun t19 => wSub fun t20 => ?_
        have ep2 : ((14 - i : Nat) : Int) - 8 = ((14 - i - 8 : Nat) : Int) := by omega
        rw [ep2]
        refine wPowN (m := 2) (n := 14 - i - 8) (by omega) (by decide) fun t21 => wMulN (p60 (by omega)) fun t22 => wXor fun t23 => rStore F fun h₈ F => rNil ⟨(_, t23), ?_, F.pick _ ⟨rfl, rfl, trivial⟩⟩
        show c ^^^ _ = _
        rw [hc]
        exact red_step hV.lt hi
      · rintro ⟨c, tc⟩ h₇ hc F
        have hc : c = pkf (fun i => redN 7 (V i)) 12 := hc
        refine rCons (rReturn (rLocal F rfl ?_))
        show Q (.int (c : Nat) tc) h₇
        rw [hc, show pkf (fun i => redN 7 (V i)) 12 = nm (pmul f g) 12 from pkf_congr _ _ _ fun i _ => hred i]
        exact k h₇ tc F.keep
    · refine itT (by simp; omega) ?_
      have j12 : j < 12 := by
        rcases Nat.lt_or_ge j 12 with h | h
        · exact h
        · rw [show 12 - j = 0 by omega] at hR; exact absurd hR.symm hR0
      have G := G₀.ext F.keep
      refine rCons <| rFor <| rB1 G <| rInt fun t2 => wRange1 fun rg h₄ t u v x4 hrg => ?_
      have F := F.ext x4
      have eR : 12 - j = (11 - j) + 1 := by omega
      have elow : ∀ p, p < 8 → R / 2 ^ p % 2 = (g j).toNat / 2 ^ p % 2 := fun p hp => by
        rw [← hR, eR, pkf_low p hp, Nat.zero_add]
      refine rForUp (σ := (Nat → Nat) × Tok) (by exact o.handled) hrg (by omega) (by omega) (by omega) (by omega) (fun p c => PI f g j (cOf (g j) p) c.1)
        (fun c => [(Str.ofString "whole", .int (pkf c.1 12 : Nat) c.2), (Str.ofString "left", .int (nm f 12 * 65536 ^ j : Nat) tl), (Str.ofString "right", .int (R : Nat) tr), (Str.ofString "size", .int 12 ts)]) (fun _ => []) (V, tw) F (by rw [cOf_zero]; exact hV) ?_ ?_
      · rintro p ⟨V, tc⟩ h₅ tp I oI hp hV F
        have hV : PI f g j (cOf (g j) p) V := hV
        have hp : p < 8 := by omega
        have ep : (0 : Int) + (p : Int) = ((p : Nat) : Int) := by omega
        rw [ep] at F
        refine rCons <| rIf <| rTCmp <| rBin <| rBin <| rLocal F rfl <| rBin <| rInt fun t3 => rLocal F rfl <| wPowN (m := 2) (n := p) (by omega) (by decide) fun t4 => wDivN (Nat.pos_iff_ne_zero.mp (Nat.two_pow_pos _)) (p60 (by omega)) fun t5 => rInt fun t6 => wModN (n := 2) (by decide) fun t7 => rInt fun t8 => wEq <| rTruthB ?_
        rw [elow p hp]
        by_cases hbit : (g j).toNat / 2 ^ p % 2 = 1
        · refine itT (by rw [hbit]; rfl) ?_
          have gj : g j ≠ 0 := by
            intro e; rw [e] at hbit; simp at hbit
          refine rCons <| rAssign <| rBin <| rLocal F rfl <| rBin <| rLocal F rfl <| rBin <| rInt fun t9 => rLocal F rfl <| wPowN (m := 2) (n := p) (by omega) (by decide) fun t10 => wMulN (p60 (by omega)) fun t11 => wXor fun t12 => ?_
          rw [put_eq hf hg hab gj, pkf_xor _ _ _ hV.lane (sh_lane f j p hp)]
          refine rStore F fun h₆ F => rNil (rNil ⟨(fun i => V i ^^^ sh j (toN f) i * 2 ^ p, t12), ?_, F.pick _ ⟨rfl, rfl, rfl, rfl, trivial⟩⟩)
          show PI f g j (cOf (g j) (p + 1)) _
          rw [cOf_succ _ hp, if_pos hbit]
          exact hV.bit hp
        · refine itF ?_ (rNil (rNil ⟨(V, tc), ?_, F.pick _ ⟨rfl, rfl, rfl, rfl, trivial⟩⟩))
          · rw [beq_eq_false_iff_ne]; intro e; apply hbit; exact_mod_cast e
          · show PI f g j (cOf (g j) (p + 1)) _
            rw [cOf_succ _ hp, if_neg hbit]
            exact hV
      · rintro ⟨V, tc⟩ h₅ hV F
        have hV : PI f g j (cOf (g j) 8) V := hV
        refine rCons <| rAssign <| rBin <| rLocal F rfl <| rInt fun t3 => wMulN (n := 65536) (by decide) fun t4 => rStore F fun h₆ F => ?_
        refine rCons <| rAssign <| rBin <| rLocal F rfl <| rInt fun t5 => wDivN (n := 65536) (by decide) (by decide) fun t6 => rStore F fun h₇ F => rNil ⟨12 - (j + 1), by omega, j + 1, V, tc, t4, t6, by omega, rfl, hV.next, ?_⟩
        have e1 : nm f 12 * 65536 ^ j * 65536 = nm f 12 * 65536 ^ (j + 1) := by rw [Nat.pow_succ, Nat.mul_assoc]
        have e2 : R / 65536 = pkf (fun i => (g (i + (j + 1))).toNat) (12 - (j + 1)) := by
          rw [← hR, eR, pkf_div _ _ (u8_lane _), show 12 - (j + 1) = 11 - j by omega]
          congr 1; funext i; rw [show i + 1 + j = i + (j + 1) by omega]
        rw [e1, e2] at F
        exact F.pick _ ⟨rfl, rfl, rfl, rfl, trivial⟩
  · have e : nm f 12 * 65536 ^ 0 = nm f 12 := by simp
    rw [e]
    exact F.pick _ ⟨rfl, rfl, rfl, rfl, trivial⟩
end
end
end Mine

/-! part MRts -/
namespace Mine
noncomputable section
open PySem PySem.W PyProof.Rows
open Sem (wp)
section
variable {w : World} {A : Around} {h : Heap} {env : Env} {Q : Value → Heap → Prop} {d : Ad} {m n : Nat} {t u : Tok}

theorem isList_ext {h h' : Heap} {l : Addr} {vs : Array Value} (x : h.IsList l vs) (e : Ext h h') : h'.IsList l vs := let ⟨o, a, b⟩ := x; ⟨o, e _ _ a, b⟩
abbrev BI (vs : List Value) (l : List UInt8) : Prop := IntsAre vs (l.map fun x => ((x.toNat : Nat) : Int))
theorem BI.at {vs : List Value} {l : List UInt8} (x : BI vs l) {i : Nat} {v : Value} (e : vs[i]? = some v) : ∃ r t, l[i]? = some r ∧ v = .int (r.toNat : Int) t := by
  have hi : i < vs.length := (List.getElem?_eq_some_iff.mp e).1
  have hl : vs.length = l.length := by rw [ints_len x]; simp
  obtain ⟨t, et⟩ := ints_get x (i := i) (n := (l[i].toNat : Int)) (by simp [show i < l.length by omega])
  rw [e] at et
  exact ⟨l[i], t, List.getElem?_eq_getElem _, Option.some.inj et⟩
theorem BI.len {vs : List Value} {l : List UInt8} (x : BI vs l) : vs.length = l.length := by rw [ints_len x]; simp

theorem nm_const (r : UInt8) : nm (mono r 0) 12 = r.toNat := by simp [nm, pkf, mono]

theorem law_from_roots_W {l : Addr} {vs : List Value} {rl : List UInt8} (G₀ : Gl d h) (o : Ok 2 A) (hl : h.IsList l vs.toArray) (hb : BI vs rl) (hz : rl.length ≤ 11)
    (k : ∀ h' t, Ext h h' → Q (.int (nm (prodR rl) 12 : Nat) t) h') : W w A (call (.ref d.roots) [.ref l]) Q h := by
  refine rFn (binds := [(Str.ofString "roots", .ref l)]) G₀ G₀.roots (o.less (by decide)) (fun pm cd => rfl) (locs rfl) (by decide +kernel) fun cd h₁ F G => ?_
  have oD := o.deeper (ev (fnS (stAt 15)) h.objs.size d.roots (Str.ofString "_law_from_roots" ++ ".<locals>.") cd [])
  have vl := hb.len
  obtain ⟨N, hN⟩ : ∃ N : Nat → Nat, ∀ i, N i = nm (prodR (rl.take i)) 12 := ⟨_, fun _ => rfl⟩
  have hN0 : 1 = N 0 := by rw [hN]; simp [nm, pkf, prodR, mono]
  refine rCons <| rAssign <| rInt fun t0 => rStore F fun h₂ F => ?_
  refine rCons <| rFor <| rLocal F rfl <| wIterList (isList_ext hl F.keep) fun I h₃ x3 hI eI => ?_
  have F := F.new x3 hI eI
  refine rForFm (σ := Nat × Tok) (It.list (by exact o.handled) l vs) (fun i c => c.1 = N i) (fun c => [(Str.ofString "whole", .int (c.1 : Nat) c.2), (Str.ofString "roots", .ref l)]) (fun _ => []) (fun i c h o _ F => isList_ext hl F.keep) (1, t0) (F.pick _ ⟨rfl, rfl, trivial⟩) ⟨rfl, rfl⟩ hN0 ?_ ?_
  · rintro i ⟨c, tc⟩ h₄ v oI hi hc hv F
    have hc : c = nm (prodR (rl.take i)) 12 := by rw [← hN]; exact hc
    obtain ⟨r, tr, er, rfl⟩ := hb.at hv
    have il : i < rl.length := by omega
    have G := G₀.ext F.keep
    have dP : Dg (prodR (rl.take i)) (i + 1) := by
      have := dg_prodR (rl.take i)
      rwa [List.length_take, show min i rl.length = i by omega] at this
    have er0 : ((r.toNat : Nat) : Int) = ((nm (mono r 0) 12 : Nat) : Int) := by rw [nm_const]
    refine rCons <| rAssign <| rBin <| rBin <| rLocal F rfl <| rInt fun t1 => wMulN (n := 65536) (by decide) fun t2 => ?_
    refine rOwn3 G <| rLocal F rfl <| rLocal F rfl <| rInt fun t3 => ⟨G.prod, ?_⟩
    rw [er0]
    have eP : (Value.int ((c, tc).1 : Nat) (c, tc).2) = .int (nm (prodR (rl.take i)) 12 : Nat) tc := by rw [← hc]
    rw [eP]
    refine law_product_W (a := i + 1) (b := 1) G oD dP (dg_mono r 0) (by omega) (by omega) (by omega) fun h₅ t4 x5 => wXor fun t5 => ?_
    have F := F.ext x5
    refine rStore F fun h₆ F => rNil ⟨(_, t5), ?_, F.pick _ ⟨rfl, rfl, trivial⟩⟩
    show c * 65536 ^^^ _ = N (i + 1)
    have dX : Dg (pmul (mono 1 1) (prodR (rl.take i))) (i + 2) := by
      have := (dg_mono 1 1).mul1 dP
      rwa [show 1 + i + 1 = i + 2 by omega] at this
    rw [hN, hc, nm_shift, nm_more (n := 12) (m := 13) (dX.mono (by omega)) (by omega), nm_add]
    congr 1
    rw [List.take_add_one, er]
    show _ = prodR (rl.take i ++ [r])
    rw [prodR_snoc, lin_eq, pmul_add, pmul_comm (prodR _) (mono 1 1)]
  · rintro ⟨c, tc⟩ h₄ hc F
    have hc : c = nm (prodR (rl.take vs.length)) 12 := by rw [← hN]; exact hc
    rw [List.take_of_length_le (by omega)] at hc
    refine rCons (rReturn (rLocal F rfl ?_))
    show Q (.int (c : Nat) tc) h₄
    rw [hc]
    exact k h₄ tc F.keep
end
end
end Mine

/-! part MLst -/
namespace Mine
noncomputable section
open PySem PySem.W PyProof.Rows
open Sem (wp)
section
variable {w : World} {A : Around} {h : Heap} {env : Env} {Q : Value → Heap → Prop} {d : Ad} {m n : Nat} {t u : Tok}

theorem wListAdd {l b : Addr} {oa ob : Obj} {xs ys : List Value} (ha : h.get? l = some oa) (la : LO xs oa) (hb : h.get? b = some ob) (lb : LO ys ob) (hz : xs.length + ys.length ≤ 100000)
    (y : ∀ r h' o, Ext h h' → h.objs.size ≤ r → h'.get? r = some o → LO (xs ++ ys) o → Q (.ref r) h') : W w A (binaryOp .Add (.ref l) (.ref b)) Q h := by
  obtain ⟨n, rfl⟩ := la.eq
  obtain ⟨n', rfl⟩ := lb.eq
  refine W.of fun s hs => P.add_list (hs ▸ ha) (hs ▸ hb) ⟨rfl, rfl, ?_⟩ (by rw [szl]; simp; omega)
  rw [hs]
  exact y _ _ _ (Ext.push _ _) (Nat.le_refl _) (Heap.get?_push_size _ rfl) ⟨_, by simp; rfl⟩

theorem rep_one (v : Value) (k : Nat) : List.foldl (fun (x1 x2 : Array Value) => x1 ++ x2) #[] (List.replicate (if (#[v] : Array Value).isEmpty = true then 0 else k) #[v]) = (List.replicate k v).toArray := by
  have : (#[v] : Array Value).isEmpty = false := rfl
  rw [this]
  simp only [Bool.false_eq_true, if_false]
  have key : ∀ (k : Nat) (a : Array Value), List.foldl (fun (x1 x2 : Array Value) => x1 ++ x2) a (List.replicate k #[v]) = a ++ (List.replicate k v).toArray := by
    intro k
    induction k with
    | zero => intro a; simp
    | succ k ih => intro a; rw [List.replicate_succ, List.foldl_cons, ih, List.replicate_succ]; apply Array.ext'; simp
  rw [key]; simp
theorem wListMul {l : Addr} {v : Value} {x : Int} {o : Obj} (ha : h.get? l = some o) (la : LO [v] o) (h0 : 0 ≤ x) (h1 : x ≤ 1000)
    (y : ∀ r h' o, Ext h h' → h.objs.size ≤ r → h'.get? r = some o → LO (List.replicate x.toNat v) o → Q (.ref r) h') : W w A (binaryOp .Mult (.ref l) (.int x u)) Q h := by
  obtain ⟨n, rfl⟩ := la.eq
  refine W.of fun s hs => ?_
  have hl : s.heap.get? l = some { cls := .type "list", dict := none, data := .seq #[v] n, slots := #[] } := hs ▸ ha
  refine wpAny_binaryOp_repeat_ref (T := "list") (U := "int") (by decide) ⟨_, hl, rfl⟩ (fun s' => typeIs_int s' x u) noFill_list_mul PySem.F.fills_int_mul PySem.F.slot_int_rmul repeat_list PySem.F.slot_int_index.lookup
    (call_meets PySem.F.slot_int_rmul (typeIs_int s x u) PySem.F.entry_int_rmul (PySem.F.args_int_rmul_2 _ _) (int___rmul___int_list x u l #[v] n)
      ⟨hl, rfl, ⟨_, hl, rfl⟩, call_meets PySem.F.slot_list_mul ⟨_, hl, rfl⟩ PySem.F.entry_list_mul (PySem.F.args_list_mul_2 _ _)
        (AutoListH.list___mul___list_int_3 l #[v] n x u (by simp [Builtin.List.listFitsIndex]; omega) (by simp; omega) (by simp [Builtin.List.listTooLong, sizeLine]; omega))
        ⟨hl, rfl, rfl, ?_⟩⟩)
  show Q (.ref s.heap.objs.size) (s.heap.push _)
  rw [hs]
  refine y _ _ _ (Ext.push _ _) (Nat.le_refl _) (Heap.get?_push_size _ rfl) ⟨0, ?_⟩
  rw [rep_one]

theorem seq_list_iadd : seqSlot? (.type "list") (dunderI "add") = pure (some (.builtin "list.__iadd__")) := PySem.seqSlot_of PySem.F.slot_list_iadd.lookup (by decide +kernel)
theorem wListIAdd {l b : Addr} {oa ob : Obj} {xs ys : List Value} (ha : h.get? l = some oa) (la : LO xs oa) (hb : h.get? b = some ob) (lb : LO ys ob) (hz : xs.length + ys.length ≤ 100000)
    (y : ∀ h' o, Heap.SameBut l h h' → h'.get? l = some o → LO (xs ++ ys) o → Q (.ref l) h') : W w A (inplaceOp .Add (.ref l) (.ref b)) Q h := by
  obtain ⟨n, rfl⟩ := la.eq
  obtain ⟨n', rfl⟩ := lb.eq
  refine W.of fun s hs => ?_
  have hl : s.heap.get? l = some { cls := .type "list", dict := none, data := .seq xs.toArray n, slots := #[] } := hs ▸ ha
  have hb' : s.heap.get? b = some { cls := .type "list", dict := none, data := .seq ys.toArray n', slots := #[] } := hs ▸ hb
  have hT : s.TypeIs (.ref l) "list" := ⟨_, hl, rfl⟩
  have hTb : s.TypeIs (.ref b) "list" := ⟨_, hb', rfl⟩
  unfold inplaceOp
  refine wpAny_holding ?_
  have hfi : fillsInplaceSlot (.type "list") "add" (Operator.Add == .Add) = pure false := by
    unfold fillsInplaceSlot
    show (typeLookup (.type "list") (dunderI "add") >>= fun fi => pure (fi.isSome && !isSeqSlot fi)) = pure false
    rw [PySem.F.slot_list_iadd.lookup]
    rfl
  refine wpAny_bind (wpAny_typeOf hT (wpAny_bind (wpAny_of_eq hfi ?_)))
  show wpAny _ A (if false = true then _ else _) _ _ s
  rw [if_neg Bool.false_ne_true]
  refine wpAny_bind (wpAny_binaryOp1_none (nm := "add") hT hTb noFill_list_add ?_)
  refine wpAny_bind (wpAny_of_eq seq_list_iadd ?_)
  refine wpAny_bind (wpAny_rule ?_)
  refine call_meets PySem.F.slot_list_iadd hT PySem.F.entry_list_iadd (PySem.F.args_list_iadd_2 _ _) (AutoSeq1.list___iadd___list_list_0 l xs.toArray n b ys.toArray n' ?_ ?_ ?_) ⟨hl, hb', rfl, rfl, ?_⟩
  · simp [Builtin.List.listTooLong, sizeLine]; omega
  · rw [szl]; simp; omega
  · rw [szl]; simp; omega
  · have u := Heap.get?_update_self (Obj.mapSeq fun z => z ++ ys.toArray) hl rfl
    exact y _ _ (hs ▸ Heap.SameBut.update ..) u ⟨_, by simp [Obj.mapSeq]; rfl⟩

/-- x not in l, the items ints -/
theorem wNotIn {l : Addr} {vs : List Value} {ns : List Int} {x : Int} (hl : h.IsList l vs.toArray) (hi : IntsAre vs ns) (y : Q (.bool (!ns.contains x)) h) : W w A (compareOp .NotIn (.int x t) (.ref l)) Q h := by
  refine W.of fun s hs => SeqAt.notIn_listAt (fun v => match v with | .int a _ => a == x | _ => false) (hs ▸ hl) (fun v hv => ?_) ⟨rfl, rfl, ?_⟩
  · have : ∀ {vs : List Value} {ns : List Int}, IntsAre vs ns → ∀ v ∈ vs, ∃ a t, v = .int a t := by
      intro vs ns hi
      induction hi with
      | nil => intro v hv; cases hv
      | cons a t _ ih =>
        intro v hv
        rcases List.mem_cons.mp hv with rfl | hv
        · exact ⟨a, t, rfl⟩
        · exact ih v hv
    obtain ⟨a, t', rfl⟩ := this hi v (by simpa using hv)
    exact (MeetsSeq.EqGives.int a x t' t).at _ _
  · have : ∀ {vs : List Value} {ns : List Int}, IntsAre vs ns → (vs.toArray.any fun v => match v with | .int a _ => a == x | _ => false) = ns.contains x := by
      intro vs ns hi
      rw [List.any_toArray]
      induction hi with
      | nil => rfl
      | cons a t _ ih => simp only [List.any_cons, List.contains_cons, ih]; rw [Bool.beq_comm]
    rw [this hi, hs]
    exact y

theorem wListEq {l b : Addr} {xs ys : List Value} {ns ms : List Int} (hu : A.units < cLine) (hl : h.IsList l xs.toArray) (hb : h.IsList b ys.toArray) (ha : IntsAre xs ns) (hc : IntsAre ys ms) (y : Q (.bool (ns == ms)) h) : W w A (compareOp .Eq (.ref l) (.ref b)) Q h := by
  by_cases hz : ns.length = ms.length
  · have zx := ints_len ha
    have zy := ints_len hc
    refine W.of fun s hs => SeqAt.eq_listAt (e := fun j => (ns[j]?.getD 0) == (ms[j]?.getD 0)) (hs ▸ hl) (hs ▸ hb) (by simp; omega) hu (fun j h1 h2 => ?_) ⟨rfl, rfl, ?_⟩
    · have j1 : j < ns.length := by simp at h1; omega
      have j2 : j < ms.length := by simp at h2; omega
      obtain ⟨t1, e1⟩ := ints_get ha (i := j) (n := ns[j]) (by simp [j1])
      obtain ⟨t2, e2⟩ := ints_get hc (i := j) (n := ms[j]) (by simp [j2])
      have e1' : xs.toArray[j] = .int ns[j] t1 := by
        have := List.getElem?_eq_some_iff.mp e1
        simpa using this.2
      have e2' : ys.toArray[j] = .int ms[j] t2 := by
        have := List.getElem?_eq_some_iff.mp e2
        simpa using this.2
      rw [e1', e2']
      have := (MeetsSeq.EqGives.int ns[j] ms[j] t1 t2).at A.in1 s
      simpa [j1, j2] using this
    · rw [hs]
      have e : ((List.range xs.toArray.size).all fun j => (ns[j]?.getD 0) == (ms[j]?.getD 0)) = (ns == ms) := by
        rw [Bool.eq_iff_iff]
        simp only [List.all_eq_true, List.mem_range, beq_iff_eq]
        constructor
        · intro hj
          apply List.ext_getElem hz
          intro i h1 h2
          have := hj i (by simp; omega)
          simpa [h1, h2] using this
        · rintro rfl j _; rfl
      rw [e]; exact y
  · have zx := ints_len ha
    have zy := ints_len hc
    have e : (ns == ms) = false := by
      rw [beq_eq_false_iff_ne]; rintro rfl; exact hz rfl
    rw [e] at y
    exact W.of fun s hs => SeqAt.eq_list_lengthsAt (hs ▸ hl) (hs ▸ hb) (by simp; omega) hu ⟨rfl, rfl, hs ▸ y⟩

theorem wTupGet {c : Addr} {vs : List Value} {k : Int} {x : Value} (hc : h.get? c = some { cls := .type "tuple", data := .seq vs.toArray }) (h0 : 0 ≤ k) (hk : k < 1000000) (hx : vs[k.toNat]? = some x) (y : Q x h) : W w A (getItem (.ref c) (.int k t)) Q h := by
  have hlt : k.toNat < vs.length := (List.getElem?_eq_some_iff.mp hx).1
  refine W.of fun s hs => PyProof.Rows.getItem_tuple (items := vs.toArray) (j := k.toNat) ⟨_, hs ▸ hc, rfl, _, rfl⟩ (by omega) (by omega) ?_ (by simpa using hx) ⟨rfl, rfl, hs ▸ y⟩
  unfold seqIndex?
  have : ¬ k < 0 := by omega
  simp only [this, if_false]
  rw [if_pos (by simp; omega)]
theorem rSubTup {value slice : Expr} {pos : Pos}
    (y : W w A (eval value env) (fun o h₁ => W w A (eval slice env) (fun i h₂ => ∃ c vs, o = .ref c ∧ h₂.get? c = some { cls := .type "tuple", data := .seq vs } ∧ W w A (getItem o i) Q h₂) h₁) h)
    (hs : ∀ o i, ∃ vs, subscripted slice false o i = operate vs (getItem o i) := by intro _ _; exact ⟨_, rfl⟩) : W w A (eval (.Subscript value slice pos) env) Q h :=
  rSub (y.mono fun o h₁ q => q.mono fun i h₂ q => by
    obtain ⟨c, l, rfl, e, q⟩ := q
    exact ⟨"tuple", _, slot_tuple_getitem.lookup, fun s hs => ⟨_, hs ▸ e, rfl⟩, q⟩) hs

/-- x, y = t -/
theorem wItems2 {c : Addr} {a b : Value} {R : List Value → Heap → Prop} (hh : A.handled = none) (hc : h.get? c = some { cls := .type "tuple", data := .seq #[a, b] }) (y : ∀ h', Ext h h' → R [a, b] h') : W w A (unpackItems (.ref c) 2 none) R h :=
  W.of fun s hs => wpAny_unpackItems_tuple (items := #[a, b]) hh ⟨_, hs ▸ hc, rfl, _, rfl⟩ fun h' ex => ⟨rfl, rfl, y h' fun b o e => ex b o (Nat.ne_of_lt (Heap.lt_size (hs ▸ e))) (hs ▸ e)⟩
theorem wUnpack2 {c : Addr} {a b : Value} {e1 e2 : Expr} {k} {pos : Pos} {R : Unit → Heap → Prop} (hh : A.handled = none) (hc : h.get? c = some { cls := .type "tuple", data := .seq #[a, b] })
    (y : ∀ h', Ext h h' → W w A (assign e1 env a) (fun _ h₁ => W w A (assign e2 env b) R h₁) h')
    (he : assignEach [e1, e2] env = [(false, assign e1 env), (false, assign e2 env)] := by rfl) : W w A (assign (.Tuple [e1, e2] k pos) env (.ref c)) R h := by
  rw [arm_assign_Tuple, he]
  refine W.bind (W.standAt ?_)
  unfold unpack
  refine W.bind (W.holding (wItems2 hh hc fun h' ex => ?_))
  refine W.bind (W.holding ((y h' ex).mono fun _ h₁ q => W.bind (W.holding (q.mono fun _ h₂ q => W.pure q))))
/-- x, y = y', x' with the stores in the swapped order -/
theorem rSwap2 {x y : Str} {px py pos' pos : Pos} {k} {value : Expr} {Q : Flow → Heap → Prop}
    (q : W w A (eval value env) (fun v h₁ => W w A (unpackItems v 2 none) (fun vs h₂ => ∃ a b, vs = [a, b] ∧ W w A (storeName env y b) (fun _ h₃ => W w A (storeName env x a) (fun _ => Q .next) h₃) h₂) h₁) h)
    (hs : exec (.Assign [.Tuple [.Name x px, .Name y py] k pos'] value pos) env = (do
      standAt pos
      let v ← eval value env
      rule "assign.swapped-stores"
      let items ← unpackItems v 2 none
      assignInOrder [bindName env y, bindName env x] items.reverse
      pure .next)) : W w A (exec (.Assign [.Tuple [.Name x px, .Name y py] k pos'] value pos) env) Q h := by
  rw [hs]
  refine W.bind (W.standAt (W.bind (q.mono fun v h₁ q => W.bind (W.rule (W.bind (q.mono fun vs h₂ q => ?_))))))
  obtain ⟨a, b, rfl, q⟩ := q
  refine W.bind (W.bind (W.holding (W.bindName (q.mono fun _ h₃ q => W.bind (W.holding (W.bindName (q.mono fun _ h₄ q => W.pure (W.pure q))))))))

/-- l.append(e) as a statement's value -/
theorem rAppend {o e : Expr} {apos pos : Pos} (y : W w A (eval o env) (fun ov h₁ => ∃ l ob ys, ov = .ref l ∧ h₁.get? l = some ob ∧ LO ys ob ∧ W w A (eval e env) (fun v h₂ => W w A (call (.builtin "list.append") [.ref l, v]) Q h₂) h₁) h)
    (he : eval (.Call (.Attribute o (Str.ofString "append") apos) [e] [] pos) env = (do
      let ov ← eval o env
      standAt apos.atName
      let (f, first) ← holding [ov] (getMethod ov (Str.ofString "append") (do return (← importBound o env).getD true))
      callWith pos f first [(false, eval e env)] []) := by rfl) : W w A (eval (.Call (.Attribute o (Str.ofString "append") apos) [e] [] pos) env) Q h := by
  rw [he]
  refine W.bind (y.mono fun ov h₁ q => W.bind (W.standAt ?_))
  obtain ⟨l, ob, ys, rfl, hl, lo, q⟩ := q
  obtain ⟨n, rfl⟩ := lo.eq
  refine W.bind (W.holding (W.of fun s hs => Calls.getMethod_list_append (hs ▸ hl) rfl rfl ⟨rfl, rfl, ?_⟩))
  rw [hs]
  exact rCwB rfl (rArgs (rSplice (q.mono fun v h₂ q => rSplice0 q)))

/-- x and y as a value -/
theorem rAndV {a b : Expr} {pos : Pos} (y : W w A (eval a env) (fun v h₁ => W w A (truthy v) (fun c h₂ => if c = true then W w A (eval b env) Q h₂ else Q v h₂) h₁) h)
    : W w A (eval (.BoolOp .And [a, b] pos) env) Q h := by
  show W w A (boolOp pos .And [eval a env, eval b env]) Q h
  rw [boolOp]
  · refine W.bind (y.mono fun v h₁ q => W.bind (W.standAt (W.bind (W.holding (q.mono fun c h₂ q => ?_)))))
    cases c
    · exact W.pure q
    · exact q
  · intro e; cases e
end
end
end Mine

/-! part MLb -/
namespace Mine
noncomputable section
open PySem PySem.W PyProof.Rows
open Sem (wp)
section
variable {w : World} {A : Around} {h : Heap} {env : Env} {Q : Value → Heap → Prop} {d : Ad} {m n : Nat} {t u : Tok}

theorem callType_W2 {T newId initId : String} {Bi : Builtin} {args : List Value} {Q Q₁ : Value → Heap → Prop} (ft : TypeCalled T newId initId)
    (hct : checkTypeCall T ⟨args, []⟩ = pure ()) (entryI : entryFor table initId = some Bi) (hbad : badIds.contains initId = false)
    (hnew : WC w A.in1 (.call (.builtin newId) ⟨.type T :: args, []⟩) (fun f h' => ∃ v, f = .ret v ∧ Q₁ v h') h)
    (hnext : ∀ obj h₁, Q₁ obj h₁ → (∀ s : Shared, s.heap = h₁ → s.TypeIs obj T) ∧ argsOk initId ⟨obj :: args, []⟩ ∧ W w A.in1.in1 (Bi ⟨obj :: args, []⟩) (fun fin h' => match fin with
      | .done f => f = .ret .none ∧ Q obj h'
      | .again c' => c'.quiet = true ∧ WC w A.in1 c' (fun f h' => f = .ret .none ∧ Q obj h') h') h₁) :
    W w A (call (.type T) args) Q h := by
  refine W.call (WC.tree rfl ?_)
  show W w A.in1 (callAny (.type T) _) _ h
  refine W.pure ⟨Code.quiet_builtin _ (by decide +kernel), WC.tree (by show badIds.contains "type.__call__" = false; decide +kernel) ?_⟩
  rw [Around.under_plain (weight_type_call_type T args []) rfl]
  rw [den_builtin PySem.F.entry_type_call]
  refine W.cast (type_call_eq ft hct) ?_
  refine W.bind (W.holding (W.call ?_))
  refine WC.mono hnew fun f h₁ ⟨v, e, q⟩ => ⟨v, e, ?_⟩
  obtain ⟨hT, hok, hx⟩ := hnext v h₁ q
  refine W.bind (W.of fun s hs => wpAny_isInstance (hT s hs) ft.sub ⟨rfl, rfl, ?_⟩)
  refine W.iteF rfl ?_
  rw [hs]
  refine W.bind (W.holding ?_)
  unfold callSpecial?
  refine W.bind (W.of fun s hs => wpAny_specialOf (hT s hs) ft.init.lookup ⟨rfl, rfl, ?_⟩)
  rw [hs]
  refine W.holding ?_
  rw [ft.init.bind]
  refine W.bind (W.pure ?_)
  refine W.bind (W.call (WC.mono (WC.builtin (R := fun f h' => f = .ret .none ∧ Q v h') ft.init.plain entryI hbad (fun s hs Q hQ => ft.init.check _ _ _ _ _ _ _ _ (hT s hs) hok hQ) hx) fun f h' q' => ?_))
  obtain ⟨rfl, q'⟩ := q'
  refine ⟨.none, rfl, W.pure ?_⟩
  refine W.iteF rfl ?_
  exact W.pure ⟨v, rfl, q'⟩

theorem hint_ba {c : Addr} {l : List UInt8} {R : Bool → Heap → Prop} (hc : h.get? c = some (bl l)) (y : R false h) : W w A (Builtin.List.listLengthHint (.ref c)) R h := by
  refine W.of fun s hs => ?_
  have hT : s.TypeIs (.ref c) "bytearray" := typeIs_ba (hs ▸ hc)
  unfold Builtin.List.listLengthHint
  refine wpAny_bind (wpAny_specialOf hT Fct.len.lookup ?_)
  generalize hid : ("bytearray.__len__" : String) = id0
  wp_delta
  rw [show splitId id0 = some ("bytearray", "__len__") from by subst hid; decide +kernel]
  subst hid
  refine wpAny_bind (wpAny_isInstance (T := "bytearray") (b := true) hT (by rw [isSubtype_type]; kernel_rfl) ?_)
  refine wpAny_ite_split (fun hab => absurd hab (by decide)) (fun _ => ?_)
  refine wpAny_ite_split (fun _ => ?_) (fun hab => absurd (by decide +kernel) hab)
  refine wpAny_bind (wpAny_typeOf hT ?_)
  exact wpAny_pure ⟨rfl, rfl, hs ▸ y⟩

/-- list(b) -/
theorem wListBa {c : Addr} {l : List UInt8} (hh : A.handled = none) (hc : h.get? c = some (bl l)) (hz : l.length < 1000)
    (y : ∀ r h' o vs, Ext h h' → h.objs.size ≤ r → h'.get? r = some o → LO vs o → BI vs l → Q (.ref r) h') : W w A (call (.type "list") [.ref c]) Q h := by
  refine callType_W2 (Q₁ := fun obj h₁ => obj = .ref h.objs.size ∧ h₁ = h.push { cls := .type "list", data := .seq #[] }) PySem.F.called_list (PySem.F.typeCall_list_1 _) PySem.F.entry_list_init (by decide +kernel) (WC.ofAny fun s hs => ?_) ?_
  · refine codeAny_mono (code_list_new (E := fun _ _ => False) (Q₁ := fun v s' => s'.gens = s.gens ∧ s'.os = s.os ∧ v = .ref h.objs.size ∧ s'.heap = h.push { cls := .type "list", data := .seq #[] }) _ ⟨rfl, rfl, by rw [hs], by rw [hs]⟩) fun r s' q => ?_
    cases r with
    | error e => exact q.elim
    | ok f =>
      cases f with
      | ret v => exact ⟨q.1, q.2.1, _, rfl, v, rfl, q.2.2⟩
      | _ => exact q.elim
  · rintro obj h₁ ⟨rfl, rfl⟩
    have hS : (h.push { cls := .type "list", data := .seq #[] }).get? h.objs.size = some { cls := .type "list", data := .seq #[] } := Heap.get?_push_size _ rfl
    refine ⟨fun s hs => ⟨_, hs ▸ hS, rfl⟩, PySem.F.args_list_init_2 _ _, ?_⟩
    show W w A.in1.in1 (do let old ← Builtin.List.listItems (.ref h.objs.size); Builtin.List.listUpdate (.ref h.objs.size) (fun _ => #[]); letGo old.toList.reverse; Builtin.List.listExtendWith (.ref h.objs.size) (.ref c) .none) _ _
    have hcS : c ≠ h.objs.size := Nat.ne_of_lt (Heap.lt_size hc)
    refine W.bind (m := Builtin.List.listItems (.ref h.objs.size)) (W.of fun s hs => ?_)
    unfold Builtin.List.listItems
    refine wpAny_bind (wpAny_seqItems (hs ▸ hS) rfl (wpAny_pure ⟨rfl, rfl, ?_⟩))
    rw [hs]
    show W w A.in1.in1 (updateSeq h.objs.size (fun _ => #[]) >>= fun _ => letGo (#[] : Array Value).toList.reverse >>= fun _ => Builtin.List.listExtendWith (.ref h.objs.size) (.ref c) .none) _ _
    refine W.bind (W.of fun s hs => wpAny_updateSeq (hs ▸ hS) rfl ⟨rfl, rfl, ?_⟩)
    rw [hs]
    have hS₂ := Heap.get?_update_self (Obj.mapSeq (fun _ => (#[] : Array Value))) hS rfl
    refine W.bind (W.of fun s hs => wpAny_letGo ⟨rfl, rfl, ?_⟩)
    rw [hs]
    generalize hh2 : (h.push { cls := .type "list", data := .seq #[] }).update h.objs.size (Obj.mapSeq fun _ => (#[] : Array Value)) = h₂ at hS₂
    have ex2 : Ext h h₂ := fun b o e => by
      rw [← hh2]
      exact (Heap.get?_update_other _ _ (Nat.ne_of_gt (Heap.lt_size e))).trans (Heap.get?_push_of_some _ e)
    have lo2 : LO [] { cls := .type "list", dict := none, data := .seq (#[] : Array Value) 0, slots := #[] } := ⟨0, rfl⟩
    have hS₂ : ∃ o, h₂.get? h.objs.size = some o ∧ LO [] o := ⟨_, hS₂, _, by simp [Obj.mapSeq]; rfl⟩
    obtain ⟨oS, hS₂, loS⟩ := hS₂
    unfold Builtin.List.listExtendWith
    refine W.bind (W.of fun s hs => wpAny_typeOf (typeIs_ba (by rw [hs]; exact ex2 _ _ hc)) ⟨rfl, rfl, ?_⟩)
    rw [hs]
    dsimp only
    have h1 : Builtin.List.listSameRef (.ref h.objs.size) (.ref c) = false := by simp [Builtin.List.listSameRef, Ne.symm hcS]
    have h2 : (Value.type "bytearray" == Value.type "list") = false := by decide
    have h3 : (Value.type "bytearray" == Value.type "tuple") = false := by decide
    simp only [h1, h2, h3, Bool.or_false, Bool.false_eq_true, if_false]
    refine W.bind (wIterBa (ex2 _ _ hc) fun I h₃ x3 hI eI => ?_)
    refine W.bind (W.holding (hint_ba (x3 _ _ (ex2 _ _ hc)) ?_))
    refine W.cast (t' := again (.builtin "list.extend.loop" ⟨[.ref h.objs.size, .ref I, .none], []⟩)) ?_ ?_
    · simp only [Bool.false_or]
      rw [if_neg (by decide +kernel)]
    refine W.pure ⟨plainId_quiet PySem.F.plain_extend_loop _, ?_⟩
    have F0 : Fm h h.objs.size h₃ [] [] → True := fun _ => trivial
    refine WC.loop (plainId_quiet PySem.F.plain_extend_loop _) (by show badIds.contains "list.extend.loop" = false; decide +kernel) (fun k h' => ∃ i vs o oI, k = l.length - i ∧ i ≤ l.length ∧ Ext h h' ∧ h'.get? h.objs.size = some o ∧ LO vs o ∧ BI vs (l.take i) ∧ h'.get? I = some oI ∧ oI.cls = .type "bytearray_iterator" ∧ oI.data = .fields #[.ref c, .int i 0]) (fun k h' hk => ?_) l.length h₃
      ⟨0, [], oS, _, rfl, Nat.zero_le _, ex2.trans x3, x3 _ _ hS₂, loS, .nil, eI, rfl, rfl⟩
    obtain ⟨i, vs, o, oI, rfl, hi, exh, hSo, lo, bi, hIo, hIc, hId⟩ := hk
    have hSI : h.objs.size ≠ I := fun e => by
      have := Heap.lt_size hS₂; rw [e] at this; exact absurd this (Nat.not_lt.mpr hI)
    have hIn : ∀ b o, h.get? b = some o → b ≠ I := fun b o e e' => by
      have l1 := Heap.lt_size (ex2 _ _ e); rw [e'] at l1; exact absurd l1 (Nat.not_lt.mpr hI)
    rw [Around.under_plainId PySem.F.plain_extend_loop, den_builtin PySem.F.entry_extend_loop]
    show W w _ (pyNext (.ref I) >>= _) _ h'
    refine W.bind ?_
    by_cases hlt : i < l.length
    · refine (It.ba (by exact hh) c l).item i h' oI _ hlt hIo ⟨hIc, hId⟩ (exh _ _ hc) fun v h₄ o' hv sb e4 st' => ?_
      obtain ⟨x, tx, ex, rfl⟩ := hv
      have e5 : h₄.get? h.objs.size = some o := (sb.2 _ hSI).trans hSo
      obtain ⟨n, rfl⟩ := lo.eq
      have bl' := bi.len
      have hn := bi.len
      show W w _ (updateSeq h.objs.size (·.push (.int x.toNat tx)) >>= _) _ h₄
      refine W.bind (W.of fun s hs => wpAny_updateSeq (hs ▸ e5) rfl ⟨rfl, rfl, ?_⟩ (by rw [szl]; simp at hn ⊢; omega) (by rw [szl]; simp at hn ⊢; omega))
      have u := Heap.get?_update_self (Obj.mapSeq fun z => z.push (.int x.toNat tx)) e5 rfl
      rw [hs]
      refine W.pure (.inl ⟨rfl, l.length - (i + 1), by omega, i + 1, vs ++ [.int x.toNat tx], _, o', rfl, by omega, fun b q e => ?_, u, ⟨_, by simp [Obj.mapSeq]; rfl⟩, ints_take bi ex tx, ?_, st'.1, st'.2⟩)
      · exact (Heap.get?_update_other _ _ (Nat.ne_of_gt (Heap.lt_size e))).trans ((sb.2 _ (hIn b q e)).trans (exh b q e))
      · exact (Heap.get?_update_other _ _ hSI).trans e4
    · obtain rfl : i = l.length := by omega
      refine (It.ba (by exact hh) c l).done h' oI _ hIo ⟨hIc, hId⟩ (exh _ _ hc) fun h₄ ex => W.pure ⟨rfl, ?_⟩
      rw [List.take_length] at bi
      exact y _ _ o vs (fun b q e => ex b q (hIn b q e) (exh b q e)) (Nat.le_refl _) (ex _ _ hSI hSo) lo bi
end
end
end Mine

/-! part MEuc -/
namespace Mine
noncomputable section
/-! counts -/
theorem take_out : ∀ (c f : List UInt8), (∀ x, c.count x ≤ f.count x) → ∃ r, f.Perm (c ++ r)
  | [], f, _ => ⟨f, .refl _⟩
  | a :: c, f, h => by
    have ha : a ∈ f := by
      have := h a
      rw [List.count_cons_self] at this
      exact List.count_pos_iff.mp (by omega)
    obtain ⟨r, hr⟩ := take_out c (f.erase a) fun x => by
      have := h x
      by_cases e : x = a
      · subst e; rw [List.count_cons_self] at this; rw [List.count_erase_self]; omega
      · rw [List.count_cons_of_ne (Ne.symm e)] at this; rw [List.count_erase_of_ne e]; exact this
    exact ⟨r, (List.perm_cons_erase ha).trans (.cons a hr)⟩
/-- what the counts say of the two lists -/
theorem split_counts {f s c e : List UInt8} (hc : ∀ x, c.count x = min (f.count x) (s.count x)) (he : ∀ x, e.count x = max (f.count x) (s.count x)) :
    ∃ r1 r2, f.Perm (c ++ r1) ∧ s.Perm (c ++ r2) ∧ (∀ r ∈ r1, ∀ q ∈ r2, r ≠ q) ∧ e.Perm (c ++ (r1 ++ r2)) := by
  obtain ⟨r1, p1⟩ := take_out c f fun x => by rw [hc]; omega
  obtain ⟨r2, p2⟩ := take_out c s fun x => by rw [hc]; omega
  have c1 : ∀ x, f.count x = c.count x + r1.count x := fun x => by rw [p1.count_eq, List.count_append]
  have c2 : ∀ x, s.count x = c.count x + r2.count x := fun x => by rw [p2.count_eq, List.count_append]
  refine ⟨r1, r2, p1, p2, ?_, ?_⟩
  · rintro r h1 q h2 rfl
    have a1 := List.count_pos_iff.mpr h1
    have a2 := List.count_pos_iff.mpr h2
    have := hc r; have := c1 r; have := c2 r
    omega
  · rw [List.perm_iff_count]
    intro x
    rw [List.count_append, List.count_append, he]
    have := hc x; have := c1 x; have := c2 x
    omega

/-! lists -/
theorem co_top : ∀ (a : UInt8) (l : List UInt8), co (a :: l) l.length = a := fun a l => by
  rw [co]; simp [gmul_zero, zero_gmul, one_gmul, gmul_one, padd, mono, dg_co l l.length (Nat.le_refl _)]
theorem monic_list {l : List UInt8} {n : Nat} (hn : l.length = n + 1) (h : co l n = 1) : ∃ t, l = 1 :: t ∧ t.length = n := by
  cases l with
  | nil => simp [gmul_zero, zero_gmul, one_gmul, gmul_one] at hn
  | cons a t =>
    have : t.length = n := by simpa [gmul_zero, zero_gmul, one_gmul, gmul_one] using hn
    subst this
    rw [co_top] at h
    exact ⟨t, by rw [h], rfl⟩
theorem co_zero_list {l : List UInt8} (h : co l = pz) : l = List.replicate l.length 0 := co_inj (by simp [gmul_zero, zero_gmul, one_gmul, gmul_one]) (by rw [h, co_replicate])
theorem dg_list (l : List UInt8) {n : Nat} (h : l.length ≤ n) : Dg (co l) n := (dg_co l).mono h
theorem psm_one (f : PS) : psm 1 f = f := funext fun i => by simp [gmul_zero, zero_gmul, one_gmul, gmul_one, psm]
theorem psm_psm (a b : UInt8) (f : PS) : psm a (psm b f) = psm (gmul a b) f := funext fun i => by simp [gmul_zero, zero_gmul, one_gmul, gmul_one, psm, gmul_assoc]
theorem psm_add (a : UInt8) (f g : PS) : psm a (padd f g) = padd (psm a f) (psm a g) := funext fun i => by simp [gmul_zero, zero_gmul, one_gmul, gmul_one, psm, padd, gmul_xor]

/-! Euclid's way -/
structure EI (A B : PS) (n : Nat) (U su tu L sl tl : List UInt8) : Prop where
  hU : ∃ t, U = 1 :: t
  hL : ∃ t, L = 1 :: t
  le : L.length ≤ U.length
  eU : co U = padd (pmul (co su) A) (pmul (co tu) B)
  eL : co L = padd (pmul (co sl) A) (pmul (co tl) B)
  dv : ∀ D, Dv D (co U) → Dv D (co L) → Dv D A ∧ Dv D B
  zsl : sl.length + U.length ≤ n + 1
  ztl : tl.length + U.length ≤ n + 1
  zsu : su.length + L.length ≤ n + 1
  ztu : tu.length + L.length ≤ n + 1
  psl : 0 < sl.length
  ptl : 0 < tl.length
  psu : 0 < su.length
  ptu : 0 < tu.length

theorem EI.start {A B : PS} {U L : List UInt8} {n : Nat} (hU : ∃ t, U = 1 :: t) (hL : ∃ t, L = 1 :: t) (le : L.length ≤ U.length) (eU : co U = A) (eL : co L = B) (hn : U.length = n) : EI A B n U [1] [0] L [0] [1] where
  hU := hU
  hL := hL
  le := le
  eU := by
    have e1 : co [1] = pone := by simp [gmul_zero, zero_gmul, one_gmul, gmul_one, co, padd_zero]
    have e0 : co [0] = pz := co_replicate 1
    rw [e1, e0, one_pmul, zero_pmul, padd_zero, eU]
  eL := by
    have e1 : co [1] = pone := by simp [gmul_zero, zero_gmul, one_gmul, gmul_one, co, padd_zero]
    have e0 : co [0] = pz := co_replicate 1
    rw [e1, e0, one_pmul, zero_pmul, zero_padd, eL]
  dv := fun D a b => ⟨eU ▸ a, eL ▸ b⟩
  zsl := by simp [gmul_zero, zero_gmul, one_gmul, gmul_one]; omega
  ztl := by simp [gmul_zero, zero_gmul, one_gmul, gmul_one]; omega
  zsu := by simp [gmul_zero, zero_gmul, one_gmul, gmul_one]; omega
  ztu := by simp [gmul_zero, zero_gmul, one_gmul, gmul_one]; omega
  psl := by simp [gmul_zero, zero_gmul, one_gmul, gmul_one]
  ptl := by simp [gmul_zero, zero_gmul, one_gmul, gmul_one]
  psu := by simp [gmul_zero, zero_gmul, one_gmul, gmul_one]
  ptu := by simp [gmul_zero, zero_gmul, one_gmul, gmul_one]

theorem es1 {su q s U L n : Nat} (hq : q = U - (L - 1)) (z1 : s + U ≤ n + 1) (z3 : su + L ≤ n + 1) (le : L ≤ U) : max su (q + s - 1) + L ≤ n + 1 := by omega
theorem es2 {s U L r n : Nat} (z : s + U ≤ n + 1) (le : L ≤ U) (h : r < L) : s + r ≤ n + 1 := by omega
theorem EI.step {A B : PS} {n : Nat} {U su tu L sl tl q rs ns nt : List UInt8} {r0 : UInt8} (x : EI A B n U su tu L sl tl) (hq : q.length = U.length - (L.length - 1)) (e : co U = padd (pmul (co q) (co L)) (co (r0 :: rs)))
    (h0 : r0 ≠ 0) (hz : (r0 :: rs).length < L.length) (zs : ns.length = max su.length (q.length + sl.length - 1)) (zt : nt.length = max tu.length (q.length + tl.length - 1))
    (es : co ns = padd (co su) (pmul (co q) (co sl))) (et : co nt = padd (co tu) (pmul (co q) (co tl))) :
    EI A B n L sl tl ((r0 :: rs).map fun y => gmul y (ginv r0)) (ns.map fun y => gmul y (ginv r0)) (nt.map fun y => gmul y (ginv r0)) := by
  have hc : gmul r0 (ginv r0) = 1 := gmul_inv h0
  have er : co (r0 :: rs) = padd (co U) (pmul (co q) (co L)) := by
    rw [e, padd_comm (pmul (co q) (co L)), padd_assoc, padd_self, padd_zero]
  refine ⟨x.hL, ⟨rs.map fun y => gmul y (ginv r0), by rw [List.map_cons, hc]⟩, by rw [List.length_map]; exact Nat.le_of_lt hz, x.eL, ?_, ?_, ?_, ?_, ?_, ?_, ?_, ?_, x.psl, x.ptl⟩
  · rw [co_scale, co_scale, co_scale, er, es, et, x.eU, x.eL, psm_pmul, psm_pmul, ← psm_add]
    congr 1
    rw [add_pmul, add_pmul, pmul_add, pmul_assoc, pmul_assoc, padd_assoc, padd_assoc]
    congr 1
    rw [padd_left]
  · intro D d1 d2
    have d3 : Dv D (co (r0 :: rs)) := by
      have := d2.mul (k := mono r0 0) (n := 1) (dg_mono r0 0)
      rw [co_scale, ← psm_eq, psm_psm, hc, psm_one] at this
      exact this
    refine x.dv D ?_ d1
    rw [e]
    exact (d1.mul (dg_co q)).add d3
  · rw [List.length_map, zs]; exact es1 hq x.zsl x.zsu x.le
  · rw [List.length_map, zt]; exact es1 hq x.ztl x.ztu x.le
  · rw [List.length_map]; exact es2 x.zsl x.le hz
  · rw [List.length_map]; exact es2 x.ztl x.le hz
  · rw [List.length_map, zs]; exact Nat.lt_of_lt_of_le x.psu (Nat.le_max_left ..)
  · rw [List.length_map, zt]; exact Nat.lt_of_lt_of_le x.ptu (Nat.le_max_left ..)

/-- the end: what stands below is the greatest common divisor -/
theorem EI.fin {f s c r1 r2 : List UInt8} {n : Nat} {U su tu L sl tl : List UInt8} (x : EI (prodR f) (prodR s) n U su tu L sl tl) (hend : L.length = 1 ∨ ∃ q, co U = pmul (co q) (co L))
    (pf : f.Perm (c ++ r1)) (ps : s.Perm (c ++ r2)) (hd : ∀ r ∈ r1, ∀ q ∈ r2, r ≠ q) : co L = prodR c ∧ L.length = c.length + 1 := by
  obtain ⟨t, eL⟩ := x.hL
  have hM : Monic (co L) t.length := by rw [eL]; exact co_monic t
  have hdv : Dv (co L) (prodR f) ∧ Dv (co L) (prodR s) := by
    rcases hend with h1 | ⟨q, hq⟩
    · have t0 : t = [] := by rw [eL] at h1; simpa [gmul_zero, zero_gmul, one_gmul, gmul_one] using h1
      have e1 : co L = pone := by rw [eL, t0]; simp [gmul_zero, zero_gmul, one_gmul, gmul_one, co, padd_zero]
      rw [e1]
      exact ⟨⟨_, _, dg_prodR f, (pmul_one _).symm⟩, ⟨_, _, dg_prodR s, (pmul_one _).symm⟩⟩
    · exact x.dv (co L) ⟨co q, _, dg_co q, hq⟩ (Dv.refl _)
  have e := gcd_eq (n := max sl.length tl.length) hM hdv.1 hdv.2 ((dg_co sl).mono (by omega)) ((dg_co tl).mono (by omega)) x.eL pf ps hd
  refine ⟨e, ?_⟩
  have := monic_unique hM (prodR_monic c) e
  rw [eL]; simp [gmul_zero, zero_gmul, one_gmul, gmul_one]; exact this

/-- the last division -/
theorem last_div {f s c r1 r2 ev : List UInt8} {q rs : List UInt8} (pf : f.Perm (c ++ r1)) (ps : s.Perm (c ++ r2)) (pe : ev.Perm (c ++ (r1 ++ r2))) (hr : rs.length = c.length)
    (e : pmul (prodR f) (prodR s) = padd (pmul (co q) (prodR c)) (co rs)) : co q = prodR ev ∧ rs = List.replicate c.length 0 := by
  have e1 : pmul (prodR f) (prodR s) = pmul (prodR ev) (prodR c) := by
    rw [prodR_perm pf, prodR_perm ps, prodR_perm pe, prodR_append, prodR_append, prodR_append, prodR_append, pmul_assoc, pmul_left (prodR r1), pmul_comm (pmul (prodR c) _), pmul_left (prodR c)]
  have e2 : co rs = pmul (padd (co q) (prodR ev)) (prodR c) := by
    rw [add_pmul, ← e1, e, padd_cancel]
  have e3 : padd (co q) (prodR ev) = pz := short_multiple (n := max q.length (ev.length + 1)) (((dg_co q).mono (by omega)).add ((dg_prodR ev).mono (by omega))) (prodR_monic c) (by rw [← e2, ← hr]; exact dg_co rs)
  refine ⟨eq_of_padd e3, ?_⟩
  rw [e3, zero_pmul] at e2
  rw [co_zero_list e2, hr]
theorem whole_none {f s r1 r2 ev : List UInt8} (pf : f.Perm ([] ++ r1)) (ps : s.Perm ([] ++ r2)) (pe : ev.Perm ([] ++ (r1 ++ r2))) : pmul (prodR f) (prodR s) = prodR ev := by
  rw [prodR_perm pf, prodR_perm ps, prodR_perm pe]
  simp only [List.nil_append, prodR_append]
end
end Mine

/-! part MLaw1 -/
namespace Mine
noncomputable section
open PySem PySem.W PyProof.Rows
open Sem (wp)
theorem ints_at {vs : List Value} {ns : List Int} (x : IntsAre vs ns) {i : Nat} {v : Value} (e : vs[i]? = some v) : ∃ r t, ns[i]? = some r ∧ v = .int r t := by
  have hi : i < vs.length := (List.getElem?_eq_some_iff.mp e).1
  have hl := ints_len x
  obtain ⟨t, et⟩ := ints_get x (i := i) (n := ns[i]) (by simp [show i < ns.length by omega])
  rw [e] at et
  exact ⟨ns[i], t, List.getElem?_eq_getElem _, Option.some.inj et⟩
theorem ints_takeN {vs : List Value} {ns : List Int} (x : IntsAre vs ns) : ∀ k, IntsAre (vs.take k) (ns.take k) := by
  induction x with
  | nil => intro k; simp; exact .nil
  | cons n t _ ih =>
    intro k
    cases k with
    | zero => exact .nil
    | succ k => exact .cons n t (ih k)
theorem ints_dropN {vs : List Value} {ns : List Int} (x : IntsAre vs ns) : ∀ k, IntsAre (vs.drop k) (ns.drop k) := by
  induction x with
  | nil => intro k; simp; exact .nil
  | cons n t y ih =>
    intro k
    cases k with
    | zero => exact .cons n t y
    | succ k => exact ih k
theorem ints_app {vs ws : List Value} {ns ms : List Int} (x : IntsAre vs ns) (y : IntsAre ws ms) : IntsAre (vs ++ ws) (ns ++ ms) := by
  induction x with
  | nil => exact y
  | cons n t _ ih => exact .cons n t ih

def by8 (n : Int) : UInt8 := (n.fmod 256).toNat.toUInt8
theorem by8_eq (n : Int) : (((by8 n).toNat : Nat) : Int) = n.fmod 256 := by
  unfold by8
  have h1 : n.fmod 256 = n % 256 := Int.fmod_eq_emod_of_nonneg _ (by decide)
  rw [h1, Nat.toUInt8_eq, UInt8.toNat_ofNat']
  omega
def lit8 : List Int := [3, 5, 9, 0, 1, 2, 3, 4]
def numsOf' (ns : List Int) : List Int := ns.take 13 ++ lit8.drop ns.length
theorem nums_len {ns : List Int} : 8 ≤ (numsOf' ns).length ∧ (numsOf' ns).length ≤ 13 := by
  unfold numsOf' lit8
  simp
  omega
theorem cut_to {α : Type} (l : List α) (k : Nat) : cut l none (some (k : Int)) = l.take k := by
  unfold cut
  simp only [Option.elim, clipAt_nat, List.drop_zero, Nat.sub_zero]
  by_cases h : k ≤ l.length
  · rw [Nat.min_eq_left h]
  · rw [List.take_of_length_le (by omega), List.take_of_length_le (by omega)]
theorem cut_from {α : Type} (l : List α) (k : Nat) : cut l (some (k : Int)) none = l.drop k := by
  unfold cut
  simp only [Option.elim, clipAt_nat]
  by_cases h : k ≤ l.length
  · rw [Nat.min_eq_left h]; exact List.take_of_length_le (by simp)
  · rw [List.drop_eq_nil_of_le (by omega), List.drop_eq_nil_of_le (by omega)]; simp

abbrev lcs (L : Addr) : List (Str × Addr) := [(Str.ofString "factor", L + 3), (Str.ofString "k", L + 2), (Str.ofString "pool", L + 1)]
abbrev lenv (L a : Addr) (cd : Value) : Env := ev (fnS (stAt 16)) L a (Str.ofString "law" ++ ".<locals>.") cd (lcs L)
abbrev lawB : List Stmt := fnB (stAt 16)

/-- a list of octets' ints at a -/
structure Ls (l : List UInt8) (vs : List Value) (o : Obj) : Prop where
  lo : LO vs o
  bi : BI vs l

section
variable {w : World} {A : Around} {h B : Heap} {d : Ad} {L a : Addr} {cd : Value} {Q : Flow → Heap → Prop}

theorem rEl {env : Env} {e : Expr} {rest : List Expr} {pos : Pos} {Q : List Value → Heap → Prop} (y : W w A (eval e env) (fun v h₁ => W w A (spliced (backTo pos (starEach rest env))) (fun vs h₂ => Q (v :: vs) h₂) h₁) h)
    (hs : starEach (e :: rest) env = (false, eval e env) :: starEach rest env := by rfl) : W w A (spliced (backTo pos (starEach (e :: rest) env))) Q h := by
  rw [hs]; exact rSplice y
theorem rEl0 {env : Env} {pos : Pos} {Q : List Value → Heap → Prop} (y : Q [] h) : W w A (spliced (backTo pos (starEach [] env))) Q h := rSplice0 y

theorem law1 {sc : Addr} {vs : List Value} {ns : List Int} {oF oK oP : Obj} {vP : Option Value} (G₀ : Gl d B) (hh : A.handled = none) (hsc : B.IsList sc vs.toArray) (hi : IntsAre vs ns) (hz : ns.length ≤ 63) (hP : oP.data = .cell vP)
    (F : Fm B L h [(Str.ofString "script", .ref sc)] [(L + 3, oF), (L + 2, oK), (L + 1, oP)])
    (k : ∀ h' aP oPl vp oP' pl, oP'.data = .cell (some (.ref aP)) → Ls pl vp oPl → pl.length = 3 →
      ∀ aN oN nv, LO nv oN → IntsAre nv (numsOf' ns) → Fm B L h' [(Str.ofString "numbers", .ref aN)] [(L + 1, oP'), (aP, oPl), (aN, oN), (L + 3, oF), (L + 2, oK)] → W w A (execs (lawB.drop 2) (lenv L a cd)) Q h') :
    W w A (execs lawB (lenv L a cd)) Q h := by
  have vl := ints_len hi
  have hN := nums_len (ns := ns)
  have G := G₀.ext F.keep
  -- numbers
  refine rCons <| rAssign <| rBin <| rSubList <| rLocal F rfl <| rSlice <| rPart0 <| rPart <| rInt fun t1 => fun sl h₁ x1 hsl => ⟨_, _, rfl, isList_ext hsc (F.keep.trans x1), wListSlice (isList_ext hsc (F.keep.trans x1)) (by omega) hsl .none (.int _ _) fun r1 h₂ x2 f2 e2 => ?_⟩
  have F := (F.ext x1).new x2 f2 e2
  refine rSubList <| rList <| rEl <| rInt fun u1 => rEl <| rInt fun u2 => rEl <| rInt fun u3 => rEl <| rInt fun u4 => rEl <| rInt fun u5 => rEl <| rInt fun u6 => rEl <| rInt fun u7 => rEl <| rInt fun u8 => rEl0 ⟨by simp, ?_⟩
  have F := F.push { cls := .type "list", data := .seq [Value.int 3 u1, .int 5 u2, .int 9 u3, .int 0 u4, .int 1 u5, .int 2 u6, .int 3 u7, .int 4 u8].toArray }
  have G := G₀.ext F.keep
  refine rSlice <| rPart <| rLen G.nm <| rLocal F rfl <| wLenList (isList_ext hsc F.keep) (by omega) fun t2 => rPart0 fun sl2 h₄ x4 hsl2 => ?_
  have F := F.ext x4
  refine ⟨_, _, rfl, (LO.new _).is (F.get (.head _)), wListSlice ((LO.new _).is (F.get (.head _))) (by simp) hsl2 (.int _ _) .none fun r3 h₅ x5 f5 e5 => ?_⟩
  have F := F.new x5 f5 e5
  refine wListAdd (F.get (.tail _ (.tail _ (.head _)))) (LO.new _) (F.get (.head _)) (LO.new _) ?_ fun aN h₆ oN x6 f6 e6 lo6 => ?_
  · have := cut_len vs none (some 13)
    have := cut_len [Value.int 3 u1, .int 5 u2, .int 9 u3, .int 0 u4, .int 1 u5, .int 2 u6, .int 3 u7, .int 4 u8] (some (vs.length : Int)) none
    simp at this ⊢; omega
  have F := F.new x6 f6 e6
  have inv : IntsAre (cut vs none (some 13) ++ cut [Value.int 3 u1, .int 5 u2, .int 9 u3, .int 0 u4, .int 1 u5, .int 2 u6, .int 3 u7, .int 4 u8] (some (vs.length : Int)) none) (numsOf' ns) := by
    have c1 := cut_to vs 13
    have c1 : cut vs none (some 13) = vs.take 13 := c1
    rw [c1, cut_from, vl]
    refine ints_app (ints_takeN hi 13) (ints_dropN ?_ _)
    exact .cons _ _ (.cons _ _ (.cons _ _ (.cons _ _ (.cons _ _ (.cons _ _ (.cons _ _ (.cons _ _ .nil)))))))
  generalize cut vs none (some 13) ++ cut [Value.int 3 u1, .int 5 u2, .int 9 u3, .int 0 u4, .int 1 u5, .int 2 u6, .int 3 u7, .int 4 u8] (some (vs.length : Int)) none = nv at lo6 inv
  have nl := ints_len inv
  refine rStore F fun h₇ F => ?_
  -- pool
  refine rCons <| rAssign <| rComp (cl := []) rfl (by decide +kernel) rfl (by decide +kernel) rfl ?_
  refine rSubList <| rLocal F rfl <| rSlice <| rPart0 <| rPart <| rInt fun t1 => fun sl h₈ x8 hsl => ?_
  have F := F.ext x8
  refine ⟨_, _, rfl, lo6.is (F.get (.head _)), wListSlice (lo6.is (F.get (.head _))) (by omega) hsl .none (.int _ _) fun r9 h₉ x9 f9 e9 => ?_⟩
  have F := F.new x9 f9 e9
  have c3 : cut nv none (some 3) = nv.take 3 := cut_to nv 3
  rw [c3] at F
  have i3 := ints_takeN inv 3
  have l3 : (nv.take 3).length = 3 := by rw [List.length_take]; omega
  refine cList (vs := nv.take 3) (fun i ys => IntsAre ys ((((numsOf' ns).take 3).take i).map fun n => (((by8 n).toNat : Nat) : Int))) hh (by omega) ((LO.new _).is (F.get (.head _))) .nil ?_ ?_
  · intro i ys v C h₁₀ hi' hI hv F'
    obtain ⟨n, t, en, rfl⟩ := ints_at i3 hv
    refine rBin <| rLocal F' rfl <| rInt fun t1 => wMod (by decide) fun t2 => ⟨.refl _, ?_⟩
    rw [← by8_eq]
    exact ints_take hI en t2
  intro D C h₁₀ oD oC ys ex nD nC ne eD lo eC _ hI h₁₁ sb
  have F := F.comp ex nD nC ne eD eC sb
  rw [l3, List.take_of_length_le (l := (numsOf' ns).take 3) (i := 3) (by simp; omega)] at hI
  have F : Fm B L h₁₁ [(Str.ofString "numbers", .ref aN)] [(L + 1, oP), (D, oD), (aN, oN), (L + 3, oF), (L + 2, oK)] := by
    refine (F.less (bs' := [(Str.ofString "numbers", .ref aN)]) (os' := [(D, oD), (aN, oN), (L + 3, oF), (L + 2, oK), (L + 1, oP)]) ?_ ?_).perm ?_
    · exact Picks.at ⟨rfl, trivial⟩
    · refine .cons_cons _ (.cons _ (.cons_cons _ (.cons _ (.cons _ (.cons _ (.refl _))))))
    · exact List.perm_middle (l₁ := [(D, oD), (aN, oN), (L + 3, oF), (L + 2, oK)]) (l₂ := [])
  refine rStoreC F hP fun h₁₂ oP' eP F => ?_
  exact k h₁₂ D oD ys oP' (((numsOf' ns).take 3).map by8) eP ⟨lo, by show IntsAre ys _; rw [List.map_map]; exact hI⟩ (by simp; omega) aN oN nv lo6 inv F
end
end
end Mine

/-! part MLaw2 -/
namespace Mine
noncomputable section
open PySem PySem.W PyProof.Rows
open Sem (wp)
section
variable {w : World} {A : Around} {h B : Heap} {d : Ad} {L a : Addr} {cd : Value} {Q : Flow → Heap → Prop}

theorem Ls.snoc {l : List UInt8} {vs : List Value} {x : UInt8} {t : Tok} {o : Obj} (hb : BI vs l) (lo : LO (vs ++ [.int x.toNat t]) o) : Ls (l ++ [x]) (vs ++ [.int x.toNat t]) o :=
  ⟨lo, by show IntsAre _ _; rw [List.map_append]; exact ints_snoc hb _ t⟩
/-- one of the two lists -/
structure Sd (pl l : List UInt8) (vs : List Value) (o : Obj) : Prop where
  ls : Ls l vs o
  le : l.length ≤ 5
  ge : 1 ≤ l.length
  sub : ∀ x ∈ l, x ∈ pl

theorem law2 {aP aN : Addr} {oPl oP oN oF oK : Obj} {vp nv : List Value} {pl : List UInt8} {nums : List Int} (G₀ : Gl d B) (hh : A.handled = none) (hP : oP.data = .cell (some (.ref aP))) (Lp : Ls pl vp oPl) (hpl : pl.length = 3)
    (loN : LO nv oN) (hN : IntsAre nv nums) (hN2 : nums.length ≤ 13)
    (F : Fm B L h [(Str.ofString "numbers", .ref aN)] [(L + 1, oP), (aP, oPl), (aN, oN), (L + 3, oF), (L + 2, oK)])
    (k : ∀ h' f s of os fl sl vf vs, Sd pl fl vf of → Sd pl sl vs os → sl.length ≤ fl.length → Fm B L h' [(Str.ofString "second", .ref s), (Str.ofString "first", .ref f)] [(f, of), (s, os), (L + 1, oP), (aP, oPl), (L + 3, oF), (L + 2, oK)] →
      W w A (execs (lawB.drop 6) (lenv L a cd)) Q h') :
    W w A (execs (lawB.drop 2) (lenv L a cd)) Q h := by
  have vl := ints_len hN
  have hpv : vp.length = 3 := by rw [Lp.bi.len, hpl]
  have getp : ∀ i : Nat, i < 3 → ∃ x t, x ∈ pl ∧ vp[i]? = some (.int (x.toNat : Int) t) := fun i hi => by
    have hi' : i < vp.length := by omega
    obtain ⟨x, t, e, ev⟩ := Lp.bi.at (List.getElem?_eq_getElem hi')
    exact ⟨x, t, List.mem_of_getElem? e, by rw [List.getElem?_eq_getElem hi', ev]⟩
  obtain ⟨x0, t0, m0, e0⟩ := getp 0 (by decide)
  obtain ⟨x1, t1, m1, e1⟩ := getp 1 (by decide)
  have lp : ∀ {h'}, Ext B h' → True := fun _ => trivial
  -- first
  refine rCons <| rAssign <| rList <| rEl <| rSubList <| rCell (F.get (a := L + 1) (by repeat (first | exact .head _ | apply List.Mem.tail))) hP <| rInt fun u1 => ⟨_, _, rfl, Lp.lo.is (F.get (by repeat (first | exact .head _ | apply List.Mem.tail))), wListGet (Lp.lo.is (F.get (by repeat (first | exact .head _ | apply List.Mem.tail)))) (by decide) (by decide) e0 <| rEl0 ⟨by simp, ?_⟩⟩
  have F := F.push { cls := .type "list", data := .seq [Value.int (x0.toNat : Int) t0].toArray }
  generalize h.objs.size = f at F ⊢
  refine rStore F fun h₁ F => ?_
  refine rCons <| rAssign <| rList <| rEl <| rSubList <| rCell (F.get (a := L + 1) (by repeat (first | exact .head _ | apply List.Mem.tail))) hP <| rInt fun u1 => ⟨_, _, rfl, Lp.lo.is (F.get (by repeat (first | exact .head _ | apply List.Mem.tail))), wListGet (Lp.lo.is (F.get (by repeat (first | exact .head _ | apply List.Mem.tail)))) (by decide) (by decide) e1 <| rEl0 ⟨by simp, ?_⟩⟩
  have F := F.push { cls := .type "list", data := .seq [Value.int (x1.toNat : Int) t1].toArray }
  generalize h₁.objs.size = s at F ⊢
  refine rStore F fun h₂ F => ?_
  -- the loop
  refine rCons <| rFor <| rSubList <| rLocal F rfl <| rSlice <| rPart <| rInt fun u1 => rPart0 fun sl h₃ x3 hsl => ?_
  have F := F.ext x3
  refine ⟨_, _, rfl, loN.is (F.get (by repeat (first | exact .head _ | apply List.Mem.tail))), wListSlice (loN.is (F.get (by repeat (first | exact .head _ | apply List.Mem.tail)))) (by omega) hsl (.int _ _) .none fun r9 h₄ x4 f4 e4 => ?_⟩
  have F := F.new x4 f4 e4
  have c3 : cut nv (some 3) none = nv.drop 3 := cut_from nv 3
  rw [c3] at F
  have i3 := ints_dropN hN 3
  refine wIterList ((LO.new _).is (F.get (.head _))) fun I h₅ x5 hI eI => ?_
  have F := F.new x5 hI eI
  have ne : f ≠ s := by
    have := F.nd
    simp only [List.map_cons, List.nodup_cons, List.mem_cons, not_or] at this
    exact Ne.symm this.2.2.1.1
  have F : Fm B L h₅ [(Str.ofString "second", .ref s), (Str.ofString "first", .ref f)] [(I, { cls := .type "list_iterator", data := .fields #[.ref r9, .int 0 0] }), (s, { cls := .type "list", data := .seq [Value.int (x1.toNat : Int) t1].toArray }), (f, { cls := .type "list", data := .seq [Value.int (x0.toNat : Int) t0].toArray }), (r9, { cls := .type "list", data := .seq (nv.drop 3).toArray }), (L + 1, oP), (aP, oPl), (L + 3, oF), (L + 2, oK)] := by
    refine ((F.pick [(Str.ofString "second", .ref s), (Str.ofString "first", .ref f)] ⟨rfl, rfl, trivial⟩).less (os' := [(I, { cls := .type "list_iterator", data := .fields #[.ref r9, .int 0 0] }), (r9, { cls := .type "list", data := .seq (nv.drop 3).toArray }), (s, { cls := .type "list", data := .seq [Value.int (x1.toNat : Int) t1].toArray }), (f, { cls := .type "list", data := .seq [Value.int (x0.toNat : Int) t0].toArray }), (L + 1, oP), (aP, oPl), (L + 3, oF), (L + 2, oK)]) (fun x v e => e) ?_).perm ?_
    · exact .cons_cons _ (.cons_cons _ (.cons_cons _ (.cons_cons _ (.cons_cons _ (.cons_cons _ (.cons _ (.refl _)))))))
    · exact .cons _ (List.perm_middle (l₁ := [(s, { cls := .type "list", data := .seq [Value.int (x1.toNat : Int) t1].toArray }), (f, { cls := .type "list", data := .seq [Value.int (x0.toNat : Int) t0].toArray })]) (l₂ := [(L + 1, oP), (aP, oPl), (L + 3, oF), (L + 2, oK)])).symm
  refine rForFm (σ := (List UInt8 × List Value × Obj) × (List UInt8 × List Value × Obj)) (It.list hh r9 (nv.drop 3))
    (fun i c => Sd pl c.1.1 c.1.2.1 c.1.2.2 ∧ Sd pl c.2.1 c.2.2.1 c.2.2.2)
    (fun c => [(Str.ofString "second", .ref s), (Str.ofString "first", .ref f)])
    (fun c => [(s, c.2.2.2), (f, c.1.2.2), (r9, { cls := .type "list", data := .seq (nv.drop 3).toArray }), (L + 1, oP), (aP, oPl), (L + 3, oF), (L + 2, oK)])
    (fun i c h o _ F => (LO.new _).is (F.get (by repeat (first | exact .head _ | apply List.Mem.tail)))) (([x0], [Value.int (x0.toNat : Int) t0], { cls := .type "list", data := .seq [Value.int (x0.toNat : Int) t0].toArray }), ([x1], [Value.int (x1.toNat : Int) t1], { cls := .type "list", data := .seq [Value.int (x1.toNat : Int) t1].toArray })) F ⟨rfl, rfl⟩ ⟨⟨⟨LO.new _, .cons _ _ .nil⟩, by simp, by simp, by simpa using m0⟩, ⟨⟨LO.new _, .cons _ _ .nil⟩, by simp, by simp, by simpa using m1⟩⟩ ?_ ?_
  · rintro i ⟨⟨fl, vf, of⟩, ⟨sl, vs, os⟩⟩ h₆ v oI hi ⟨S1, S2⟩ hv F
    obtain ⟨n, tn, en, rfl⟩ := ints_at i3 hv
    have S1 : Sd pl fl vf of := S1
    have S2 : Sd pl sl vs os := S2
    have F : Fm B L h₆ [(Str.ofString "number", .int n tn), (Str.ofString "second", .ref s), (Str.ofString "first", .ref f)] [(I, oI), (s, os), (f, of), (r9, { cls := .type "list", data := .seq (nv.drop 3).toArray }), (L + 1, oP), (aP, oPl), (L + 3, oF), (L + 2, oK)] := F
    -- what is put in
    have hidx : ∃ j : Nat, j < 3 ∧ (n.fdiv 2).fmod 3 = (j : Int) := by
      refine ⟨((n.fdiv 2).fmod 3).toNat, ?_, ?_⟩
      · have := Int.fmod_lt_of_pos (n.fdiv 2) (b := 3) (by decide)
        omega
      · have := Int.fmod_nonneg_of_pos (n.fdiv 2) (b := 3) (by decide)
        omega
    obtain ⟨j, hj, ej⟩ := hidx
    obtain ⟨xj, tj, mj, evj⟩ := getp j hj
    refine rCons <| rAssign <| rIfExp <| rTCmp <| rBin <| rLocal F rfl <| rInt fun u1 => wMod (by decide) fun u2 => rInt fun u3 => wEq <| rTruthB ?_
    by_cases hs : (n.fmod 2 == 0) = true
    · refine itT hs <| rLocal F rfl <| rStore F fun h₇ F => ?_
      have G := G₀.ext F.keep
      have v5 := S1.ls.bi.len
      refine rCons <| rIf <| rTCmp <| rLen G.nm <| rLocal F rfl <| wLenList (S1.ls.lo.is (F.get (by repeat (first | exact .head _ | apply List.Mem.tail)))) (by have := S1.le; omega) fun u4 => rInt fun u5 => wLt <| rTruthB ?_
      by_cases h5 : fl.length < 5
      · refine itT (by rw [v5]; simp; omega) ?_
        refine rCons <| rExpr <| rAppend <| rLocal F rfl ⟨_, _, _, rfl, F.get (by repeat (first | exact .head _ | apply List.Mem.tail)), S1.ls.lo, ?_⟩
        refine rSubList <| rCell (F.get (a := L + 1) (by repeat (first | exact .head _ | apply List.Mem.tail))) hP <| rBin <| rBin <| rLocal F rfl <| rInt fun u6 => wDiv (by decide) (noPylong n (b := 2) (by decide)) fun u7 => rInt fun u8 => wMod (by decide) fun u9 => ⟨_, _, rfl, Lp.lo.is (F.get (by repeat (first | exact .head _ | apply List.Mem.tail))), ?_⟩
        refine wListGet (Lp.lo.is (F.get (by repeat (first | exact .head _ | apply List.Mem.tail)))) (by rw [ej]; omega) (by rw [ej]; omega) (by rw [ej, Int.toNat_natCast]; exact evj) ?_
        refine wAppend (F.get (by repeat (first | exact .head _ | apply List.Mem.tail))) S1.ls.lo (by have := S1.le; omega) fun h₈ o8 sb e8 lo8 => rNil (rNil ⟨((fl ++ [xj], _, o8), (sl, vs, os)), ⟨⟨Ls.snoc S1.ls.bi lo8, by simp; omega, by simp, ?_⟩, S2⟩, ?_⟩)
        · intro x hx
          rcases List.mem_append.mp hx with hx | hx
          · exact S1.sub x hx
          · simp at hx; subst hx; exact mj
        · have P := F.perm (List.perm_middle (l₁ := [(I, oI), (s, os)]) (a := (f, of)) (l₂ := [(r9, { cls := .type "list", data := .seq (nv.drop 3).toArray }), (L + 1, oP), (aP, oPl), (L + 3, oF), (L + 2, oK)]))
          exact ((P.turn sb e8).perm (List.perm_middle (l₁ := [(I, oI), (s, os)]) (a := (f, o8)) (l₂ := [(r9, { cls := .type "list", data := .seq (nv.drop 3).toArray }), (L + 1, oP), (aP, oPl), (L + 3, oF), (L + 2, oK)])).symm).pick _ ⟨rfl, rfl, trivial⟩
      · exact itF (by rw [v5]; simp; omega) (rNil (rNil ⟨((fl, vf, of), (sl, vs, os)), ⟨S1, S2⟩, F.pick _ ⟨rfl, rfl, trivial⟩⟩))
    · refine itF (by simpa using hs) <| rLocal F rfl <| rStore F fun h₇ F => ?_
      have G := G₀.ext F.keep
      have v5 := S2.ls.bi.len
      refine rCons <| rIf <| rTCmp <| rLen G.nm <| rLocal F rfl <| wLenList (S2.ls.lo.is (F.get (by repeat (first | exact .head _ | apply List.Mem.tail)))) (by have := S2.le; omega) fun u4 => rInt fun u5 => wLt <| rTruthB ?_
      by_cases h5 : sl.length < 5
      · refine itT (by rw [v5]; simp; omega) ?_
        refine rCons <| rExpr <| rAppend <| rLocal F rfl ⟨_, _, _, rfl, F.get (by repeat (first | exact .head _ | apply List.Mem.tail)), S2.ls.lo, ?_⟩
        refine rSubList <| rCell (F.get (a := L + 1) (by repeat (first | exact .head _ | apply List.Mem.tail))) hP <| rBin <| rBin <| rLocal F rfl <| rInt fun u6 => wDiv (by decide) (noPylong n (b := 2) (by decide)) fun u7 => rInt fun u8 => wMod (by decide) fun u9 => ⟨_, _, rfl, Lp.lo.is (F.get (by repeat (first | exact .head _ | apply List.Mem.tail))), ?_⟩
        refine wListGet (Lp.lo.is (F.get (by repeat (first | exact .head _ | apply List.Mem.tail)))) (by rw [ej]; omega) (by rw [ej]; omega) (by rw [ej, Int.toNat_natCast]; exact evj) ?_
        refine wAppend (F.get (by repeat (first | exact .head _ | apply List.Mem.tail))) S2.ls.lo (by have := S2.le; omega) fun h₈ o8 sb e8 lo8 => rNil (rNil ⟨((fl, vf, of), (sl ++ [xj], _, o8)), ⟨S1, ⟨Ls.snoc S2.ls.bi lo8, by simp; omega, by simp, ?_⟩⟩, ?_⟩)
        · intro x hx
          rcases List.mem_append.mp hx with hx | hx
          · exact S2.sub x hx
          · simp at hx; subst hx; exact mj
        · have P := F.perm (.swap ..)
          exact ((P.turn sb e8).perm (.swap ..)).pick _ ⟨rfl, rfl, trivial⟩
      · exact itF (by rw [v5]; simp; omega) (rNil (rNil ⟨((fl, vf, of), (sl, vs, os)), ⟨S1, S2⟩, F.pick _ ⟨rfl, rfl, trivial⟩⟩))
  · rintro ⟨⟨fl, vf, of⟩, ⟨sl, vs, os⟩⟩ h₆ ⟨S1, S2⟩ F
    have S1 : Sd pl fl vf of := S1
    have S2 : Sd pl sl vs os := S2
    have F : Fm B L h₆ [(Str.ofString "second", .ref s), (Str.ofString "first", .ref f)] [(s, os), (f, of), (r9, { cls := .type "list", data := .seq (nv.drop 3).toArray }), (L + 1, oP), (aP, oPl), (L + 3, oF), (L + 2, oK)] := F
    have F := F.less (os' := [(s, os), (f, of), (L + 1, oP), (aP, oPl), (L + 3, oF), (L + 2, oK)]) (fun x v e => e) (.cons_cons _ (.cons_cons _ (.cons _ (.refl _))))
    have G := G₀.ext F.keep
    have v1 := S1.ls.bi.len
    have v2 := S2.ls.bi.len
    refine rCons <| rIf <| rTCmp <| rLen G.nm <| rLocal F rfl <| wLenList (S1.ls.lo.is (F.get (by repeat (first | exact .head _ | apply List.Mem.tail)))) (by have := S1.le; omega) fun u4 => rLen G.nm <| rLocal F rfl <| wLenList (S2.ls.lo.is (F.get (by repeat (first | exact .head _ | apply List.Mem.tail)))) (by have := S2.le; omega) fun u5 => wLt <| rTruthB ?_
    by_cases hlt : fl.length < sl.length
    · refine itT (by rw [v1, v2]; simp; omega) ?_
      refine rCons <| rSwap2 (rTuple <| rEl <| rLocal F rfl <| rEl <| rLocal F rfl <| rEl0 ⟨by simp, ?_⟩) rfl
      have F := F.push { cls := .type "tuple", data := .seq [Value.ref s, Value.ref f].toArray }
      refine wItems2 hh (F.get (.head _)) fun h₇ x7 => ⟨_, _, rfl, ?_⟩
      have F := F.ext x7
      refine rStore F fun h₈ F => rStore F fun h₉ F => rNil ?_
      exact k h₉ s f os of sl fl vs vf S2 S1 (by omega) (F.less (Picks.at ⟨rfl, rfl, trivial⟩) (.cons _ (.refl _)))
    · refine itF (by rw [v1, v2]; simp; omega) (rNil ?_)
      exact k h₆ f s of os fl sl vf vs S1 S2 (by omega) (F.perm (.swap ..))
end
end
end Mine

/-! part MLaw3 -/
namespace Mine
noncomputable section
open PySem PySem.W PyProof.Rows
open Sem (wp)
theorem ints_rep' (n : Int) (t : Tok) : ∀ k : Nat, IntsAre (List.replicate k (.int n t)) (List.replicate k n)
  | 0 => .nil
  | k + 1 => by rw [List.replicate_succ, List.replicate_succ]; exact .cons n t (ints_rep' n t k)
theorem Turn.one {w : World} {A : Around} {h : Heap} {c elt : Expr} {cenv : Env} {K : Option Value → Heap → Prop} (x : W w A (isTrue c cenv (eval c cenv)) (fun b h' => if b = true then W w A (eval elt cenv) (fun y h' => K (some y) h') h' else K none h') h) : Turn w A [c] elt cenv K h := x
theorem Fm.sub {B h : Heap} {L : Addr} {bs : List (Str × Value)} {os : List (Addr × Obj)} (F : Fm B L h bs os) (os' : List (Addr × Obj)) (hs : os'.Sublist os) : Fm B L h bs os' := F.less (fun _ _ e => e) hs
theorem Fm.turnAt {B h h' : Heap} {L : Addr} {bs : List (Str × Value)} {l₁ l₂ : List (Addr × Obj)} {a : Addr} {o o' : Obj} (F : Fm B L h bs (l₁ ++ (a, o) :: l₂)) (sb : Heap.SameBut a h h') (e : h'.get? a = some o') : Fm B L h' bs (l₁ ++ (a, o') :: l₂) :=
  ((F.perm List.perm_middle).turn sb e).perm List.perm_middle.symm

def CI (pl fl sl : List UInt8) (i : Nat) (cm em : List UInt8) : Prop :=
  (∀ x, cm.count x = if x ∈ pl.take i then min (fl.count x) (sl.count x) else 0) ∧ (∀ x, em.count x = if x ∈ pl.take i then max (fl.count x) (sl.count x) else 0) ∧ cm.length ≤ 5 * i ∧ em.length ≤ 5 * i
theorem CI.skip {pl fl sl cm em : List UInt8} {i : Nat} {x : UInt8} (c : CI pl fl sl i cm em) (e : pl[i]? = some x) (hx : x ∈ pl.take i) : CI pl fl sl (i + 1) cm em := by
  have key : ∀ y, y ∈ pl.take (i + 1) ↔ y ∈ pl.take i := fun y => by
    rw [List.take_add_one, e, List.mem_append]
    constructor
    · rintro (h | h)
      · exact h
      · simp at h; subst h; exact hx
    · exact .inl
  exact ⟨fun y => by rw [c.1]; simp only [key], fun y => by rw [c.2.1]; simp only [key], by have := c.2.2; omega, by have := c.2.2; omega⟩
theorem CI.add {pl fl sl cm em : List UInt8} {i : Nat} {x : UInt8} (c : CI pl fl sl i cm em) (e : pl[i]? = some x) (hx : x ∉ pl.take i) (h1 : fl.length ≤ 5) (h2 : sl.length ≤ 5) :
    CI pl fl sl (i + 1) (cm ++ List.replicate (min (fl.count x) (sl.count x)) x) (em ++ List.replicate (max (fl.count x) (sl.count x)) x) := by
  have key : ∀ y, y ∈ pl.take (i + 1) ↔ (y ∈ pl.take i ∨ y = x) := fun y => by
    rw [List.take_add_one, e, List.mem_append]; simp
  have a1 := List.count_le_length (a := x) (l := fl)
  have a2 := List.count_le_length (a := x) (l := sl)
  refine ⟨fun y => ?_, fun y => ?_, ?_, ?_⟩
  · rw [List.count_append, c.1, List.count_replicate]
    by_cases q : y = x
    · subst q; simp [hx, key]
    · have : (x == y) = false := by rw [beq_eq_false_iff_ne]; exact Ne.symm q
      simp [this, key, q]
  · rw [List.count_append, c.2.1, List.count_replicate]
    by_cases q : y = x
    · subst q; simp [hx, key]
    · have : (x == y) = false := by rw [beq_eq_false_iff_ne]; exact Ne.symm q
      simp [this, key, q]
  · have := c.2.2; simp; omega
  · have := c.2.2; simp; omega

section
variable {w : World} {A : Around} {h B : Heap} {d : Ad} {L a : Addr} {cd : Value} {Q : Flow → Heap → Prop}

theorem law3 {aP f s : Addr} {oPl oP oF oK of os : Obj} {vK : Option Value} {vp vf vs : List Value} {pl fl sl : List UInt8} (G₀ : Gl d B) (hh : A.handled = none) (hP : oP.data = .cell (some (.ref aP))) (Lp : Ls pl vp oPl) (hpl : pl.length = 3)
    (hKd : oK.data = .cell vK) (S1 : Sd pl fl vf of) (S2 : Sd pl sl vs os)
    (F : Fm B L h [(Str.ofString "second", .ref s), (Str.ofString "first", .ref f)] [(f, of), (s, os), (L + 1, oP), (aP, oPl), (L + 3, oF), (L + 2, oK)])
    (k : ∀ h' cm em oc oe vc ve cl el oK' vK', oK'.data = .cell vK' → Ls cl vc oc → Ls el ve oe → (∀ x, cl.count x = min (fl.count x) (sl.count x)) → (∀ x, el.count x = max (fl.count x) (sl.count x)) →
      Fm B L h' [(Str.ofString "every", .ref em), (Str.ofString "common", .ref cm), (Str.ofString "second", .ref s), (Str.ofString "first", .ref f)] [(L + 2, oK'), (cm, oc), (em, oe), (f, of), (s, os), (L + 3, oF)] →
      W w A (execs (lawB.drop 9) (lenv L a cd)) Q h') :
    W w A (execs (lawB.drop 6) (lenv L a cd)) Q h := by
  have hpv : vp.length = 3 := by rw [Lp.bi.len, hpl]
  refine rCons <| rAssign <| rList <| rEl0 ⟨by simp, ?_⟩
  have F := F.push { cls := .type "list", data := .seq ([] : List Value).toArray }
  generalize h.objs.size = cm at F ⊢
  refine rStore F fun h₁ F => ?_
  refine rCons <| rAssign <| rList <| rEl0 ⟨by simp, ?_⟩
  have F := F.push { cls := .type "list", data := .seq ([] : List Value).toArray }
  generalize h₁.objs.size = em at F ⊢
  refine rStore F fun h₂ F => ?_
  have G := G₀.ext F.keep
  refine rCons <| rFor <| rB1 G <| rInt fun t2 => wRange1 fun rg h₃ t u v x3 hrg => ?_
  have F := F.ext x3
  refine wIterRange hrg (by decide) fun I h₄ x4 hI eI => ?_
  have F := F.new x4 hI eI
  have F : Fm B L h₄ [(Str.ofString "every", .ref em), (Str.ofString "common", .ref cm), (Str.ofString "second", .ref s), (Str.ofString "first", .ref f)] [(L + 2, oK), (I, rit 0 (Builtin.Range.rangeSize 0 3 1) 1), (cm, { cls := .type "list", data := .seq ([] : List Value).toArray }), (em, { cls := .type "list", data := .seq ([] : List Value).toArray }), (f, of), (s, os), (L + 1, oP), (aP, oPl), (L + 3, oF)] := by
    refine F.perm ?_
    refine (List.perm_middle (l₁ := [(I, _), (em, _), (cm, _), (f, of), (s, os), (L + 1, oP), (aP, oPl), (L + 3, oF)]) (a := (L + 2, oK)) (l₂ := [])).trans ?_
    exact .cons _ (.cons _ (.swap ..))
  refine rForFmC (cc := L + 2) (σ := (List UInt8 × List Value × Obj) × (List UInt8 × List Value × Obj)) (It.range hh 0 1 3)
    (fun i c => Ls c.1.1 c.1.2.1 c.1.2.2 ∧ Ls c.2.1 c.2.2.1 c.2.2.2 ∧ CI pl fl sl i c.1.1 c.2.1)
    (fun c => [(Str.ofString "every", .ref em), (Str.ofString "common", .ref cm), (Str.ofString "second", .ref s), (Str.ofString "first", .ref f)])
    (fun c => [(cm, c.1.2.2), (em, c.2.2.2), (f, of), (s, os), (L + 1, oP), (aP, oPl), (L + 3, oF)])
    (fun _ _ _ _ _ _ _ => trivial) (([], [], { cls := .type "list", data := .seq ([] : List Value).toArray }), ([], [], { cls := .type "list", data := .seq ([] : List Value).toArray })) hKd F rfl
    ⟨⟨LO.new _, .nil⟩, ⟨LO.new _, .nil⟩, fun x => by simp, fun x => by simp, by simp, by simp⟩ ?_ ?_
  · rintro i ⟨⟨cl, vc, oc1⟩, ⟨el, ve, oe1⟩⟩ h₅ v oI oc hi ⟨L1, L2, hC⟩ ⟨ti, rfl⟩ hK F
    have L1 : Ls cl vc oc1 := L1
    have L2 : Ls el ve oe1 := L2
    have hC : CI pl fl sl i cl el := hC
    have ei : (0 : Int) + 1 * (i : Int) = (i : Int) := by omega
    rw [ei] at hK
    have F : Fm B L h₅ [(Str.ofString "every", .ref em), (Str.ofString "common", .ref cm), (Str.ofString "second", .ref s), (Str.ofString "first", .ref f)] [(L + 2, oc), (I, oI), (cm, oc1), (em, oe1), (f, of), (s, os), (L + 1, oP), (aP, oPl), (L + 3, oF)] := F
    have hip : i < vp.length := by rw [hpv]; exact hi
    have i1 : (i : Int) < 1000000 := n1 (Nat.lt_trans hi (by decide))
    obtain ⟨xk, tk, exk, evk'⟩ := Lp.bi.at (List.getElem?_eq_getElem hip)
    have evk : vp[i]? = some (.int (xk.toNat : Int) tk) := by rw [List.getElem?_eq_getElem hip, evk']
    have b1 : fl.count xk ≤ 5 := Nat.le_trans List.count_le_length S1.le
    have b2 : sl.count xk ≤ 5 := Nat.le_trans List.count_le_length S2.le
    have v1 : vf.length ≤ 100000 := by rw [S1.ls.bi.len]; exact Nat.le_trans S1.le (by decide)
    have v2 : vs.length ≤ 100000 := by rw [S2.ls.bi.len]; exact Nat.le_trans S2.le (by decide)
    refine rCons <| rIf <| rTCmp <| rSubList <| rCell (F.get (a := L + 1) (by repeat (first | exact .head _ | apply List.Mem.tail))) hP <| rCell (F.get (a := L + 2) (by repeat (first | exact .head _ | apply List.Mem.tail))) hK ⟨_, _, rfl, Lp.lo.is (F.get (by repeat (first | exact .head _ | apply List.Mem.tail))), wListGet (Lp.lo.is (F.get (by repeat (first | exact .head _ | apply List.Mem.tail)))) (n0 _) i1 (by rw [Int.toNat_natCast]; exact evk) ?_⟩
    refine rSubList <| rCell (F.get (a := L + 1) (by repeat (first | exact .head _ | apply List.Mem.tail))) hP <| rSlice <| rPart0 <| rPart <| rCell (F.get (a := L + 2) (by repeat (first | exact .head _ | apply List.Mem.tail))) hK fun sl' h₆ x6 hsl => ?_
    have F := F.ext x6
    refine ⟨_, _, rfl, Lp.lo.is (F.get (by repeat (first | exact .head _ | apply List.Mem.tail))), wListSlice (Lp.lo.is (F.get (by repeat (first | exact .head _ | apply List.Mem.tail)))) (by rw [hpv]; decide) hsl .none (.int _ _) fun r7 h₇ x7 f7 e7 => ?_⟩
    have F := F.new x7 f7 e7
    rw [cut_to] at F
    refine wNotIn ((LO.new _).is (F.get (.head _))) (ints_takeN Lp.bi i) <| rTruthB ?_
    have F := F.sub [(L + 2, oc), (I, oI), (cm, oc1), (em, oe1), (f, of), (s, os), (L + 1, oP), (aP, oPl), (L + 3, oF)] (.cons _ (.refl _))
    have G := G₀.ext F.keep
    have emem : ((pl.map fun x => ((x.toNat : Nat) : Int)).take i).contains (xk.toNat : Int) = decide (xk ∈ pl.take i) := by
      rw [← List.map_take, Bool.eq_iff_iff]
      simp only [List.contains_iff_mem, List.mem_map, decide_eq_true_eq]
      constructor
      · rintro ⟨y, hy, e⟩
        have : y = xk := UInt8.toNat_inj.mp (by exact_mod_cast e)
        exact this ▸ hy
      · intro hy; exact ⟨xk, hy, rfl⟩
    rw [emem]
    by_cases hm : xk ∈ pl.take i
    · exact itF (by simp [hm]) (rNil (rNil ⟨((cl, vc, oc1), (el, ve, oe1)), oc, _, hK, ⟨L1, L2, hC.skip exk hm⟩, F⟩))
    · refine itT (by simp [hm]) ?_
      refine rCons <| rAssign <| rLen G.nm <| rComp (cl := [(Str.ofString "pool", L + 1), (Str.ofString "k", L + 2)]) rfl (by decide +kernel) rfl (by decide +kernel) rfl ?_
      refine rLocal F rfl ?_
      refine cList (vs := vf) (fun i ys => ys.length = (fl.take i).count xk) hh v1 (S1.ls.lo.is (F.get (a := f) (by repeat (first | exact .head _ | apply List.Mem.tail)))) rfl ?_ ?_
      · intro j ys v C h' hj hI hv F'
        obtain ⟨y, ty, ey, rfl⟩ := S1.ls.bi.at hv
        refine Turn.one <| rTCmp <| rLocal F' rfl <| rSubList <| rCell (F'.base (F.get (a := L + 1) (by repeat (first | exact .head _ | apply List.Mem.tail)))) hP <| rCell (F'.base (F.get (a := L + 2) (by repeat (first | exact .head _ | apply List.Mem.tail)))) hK ⟨_, _, rfl, Lp.lo.is (F'.base (F.get (by repeat (first | exact .head _ | apply List.Mem.tail)))), wListGet (Lp.lo.is (F'.base (F.get (by repeat (first | exact .head _ | apply List.Mem.tail))))) (n0 _) i1 (by rw [Int.toNat_natCast]; exact evk) <| wEq <| rTruthB ?_⟩
        by_cases q : y = xk
        · refine itT (by rw [q]; simp) <| rLocal F' rfl ⟨.refl _, ?_⟩
          show (ys ++ [_]).length = _
          rw [List.take_add_one, ey, List.count_append, List.length_append, hI, q]; simp
        · refine itF ?_ ⟨.refl _, ?_⟩
          · rw [beq_eq_false_iff_ne]; intro e; exact q (UInt8.toNat_inj.mp (by exact_mod_cast e))
          · show (ys ++ []).length = _
            rw [List.take_add_one, ey, List.count_append, List.length_append, hI]; simp [q]
      intro D C h' oD oC ys ex nD nC ne eD lo eC _ hI h'' sb
      have F := F.comp ex nD nC ne eD eC sb
      rw [List.take_of_length_le (Nat.le_of_eq S1.ls.bi.len.symm)] at hI
      refine wLenList (lo.is (F.get (.head _))) (by rw [hI]; exact Nat.lt_of_le_of_lt b1 (by decide)) fun t1 => ?_
      rw [hI]
      refine rStore F fun h₁ F => ?_
      have F := F.sub [(L + 2, oc), (I, oI), (cm, oc1), (em, oe1), (f, of), (s, os), (L + 1, oP), (aP, oPl), (L + 3, oF)] (by repeat (first | exact List.Sublist.refl _ | apply List.Sublist.cons_cons | apply List.Sublist.cons))
      have G := G₀.ext F.keep
      refine rCons <| rAssign <| rLen G.nm <| rComp (cl := [(Str.ofString "pool", L + 1), (Str.ofString "k", L + 2)]) rfl (by decide +kernel) rfl (by decide +kernel) rfl ?_
      refine rLocal F rfl ?_
      refine cList (vs := vs) (fun i ys => ys.length = (sl.take i).count xk) hh v2 (S2.ls.lo.is (F.get (a := s) (by repeat (first | exact .head _ | apply List.Mem.tail)))) rfl ?_ ?_
      · intro j ys v C h' hj hI hv F'
        obtain ⟨y, ty, ey, rfl⟩ := S2.ls.bi.at hv
        refine Turn.one <| rTCmp <| rLocal F' rfl <| rSubList <| rCell (F'.base (F.get (a := L + 1) (by repeat (first | exact .head _ | apply List.Mem.tail)))) hP <| rCell (F'.base (F.get (a := L + 2) (by repeat (first | exact .head _ | apply List.Mem.tail)))) hK ⟨_, _, rfl, Lp.lo.is (F'.base (F.get (by repeat (first | exact .head _ | apply List.Mem.tail)))), wListGet (Lp.lo.is (F'.base (F.get (by repeat (first | exact .head _ | apply List.Mem.tail))))) (n0 _) i1 (by rw [Int.toNat_natCast]; exact evk) <| wEq <| rTruthB ?_⟩
        by_cases q : y = xk
        · refine itT (by rw [q]; simp) <| rLocal F' rfl ⟨.refl _, ?_⟩
          show (ys ++ [_]).length = _
          rw [List.take_add_one, ey, List.count_append, List.length_append, hI, q]; simp
        · refine itF ?_ ⟨.refl _, ?_⟩
          · rw [beq_eq_false_iff_ne]; intro e; exact q (UInt8.toNat_inj.mp (by exact_mod_cast e))
          · show (ys ++ []).length = _
            rw [List.take_add_one, ey, List.count_append, List.length_append, hI]; simp [q]
      intro D C h' oD oC ys ex nD nC ne eD lo eC _ hI h'' sb
      have F := F.comp ex nD nC ne eD eC sb
      rw [List.take_of_length_le (Nat.le_of_eq S2.ls.bi.len.symm)] at hI
      refine wLenList (lo.is (F.get (.head _))) (by rw [hI]; exact Nat.lt_of_le_of_lt b2 (by decide)) fun t1 => ?_
      rw [hI]
      refine rStore F fun h₁ F => ?_
      have F := F.sub [(L + 2, oc), (I, oI), (cm, oc1), (em, oe1), (f, of), (s, os), (L + 1, oP), (aP, oPl), (L + 3, oF)] (by repeat (first | exact List.Sublist.refl _ | apply List.Sublist.cons_cons | apply List.Sublist.cons))
      have G := G₀.ext F.keep
      refine rCons <| rAugName <| rLocalN F rfl <| rBin <| rList <| rEl <| rSubList <| rCell (F.get (a := L + 1) (by repeat (first | exact .head _ | apply List.Mem.tail))) hP <| rCell (F.get (a := L + 2) (by repeat (first | exact .head _ | apply List.Mem.tail))) hK ⟨_, _, rfl, Lp.lo.is (F.get (by repeat (first | exact .head _ | apply List.Mem.tail))), wListGet (Lp.lo.is (F.get (by repeat (first | exact .head _ | apply List.Mem.tail)))) (n0 _) i1 (by rw [Int.toNat_natCast]; exact evk) <| rEl0 ⟨by simp, ?_⟩⟩
      have F := F.push { cls := .type "list", data := .seq [Value.int (xk.toNat : Int) tk].toArray }
      have G := G₀.ext F.keep
      refine rB2 G <| rLocal F rfl <| rLocal F rfl <| wMin hh fun t3 h₂ x2 => ?_
      have F := F.ext x2
      refine wListMul (F.get (.head _)) (LO.new _) (Int.le_min.mpr ⟨n0 _, n0 _⟩) (Int.le_trans (Int.min_le_left ..) (Int.ofNat_le.mpr (Nat.le_trans b1 (by decide)))) fun rm h₃ om x3 f3 e3 lo3 => ?_
      have F := F.new x3 f3 e3
      have em' : (min ((fl.count xk : Nat) : Int) ((sl.count xk : Nat) : Int)).toNat = min (fl.count xk) (sl.count xk) := by omega
      rw [em'] at lo3
      refine wListIAdd (F.get (a := cm) (by repeat (first | exact .head _ | apply List.Mem.tail))) L1.lo (F.get (.head _)) lo3 (by rw [L1.bi.len, List.length_replicate]; exact Nat.le_trans (Nat.add_le_add hC.2.2.1 (Nat.le_trans (Nat.min_le_left ..) b1)) (Nat.le_trans (Nat.add_le_add_right (Nat.mul_le_mul_left 5 (Nat.le_of_lt hi)) 5) (by decide))) fun h₄ o4 sb4 e4 lo4 => ?_
      have F := F.turnAt (l₁ := [_, _, _, _]) sb4 e4
      refine rStore F fun h₅ F => ?_
      have F := F.sub [(L + 2, oc), (I, oI), (cm, o4), (em, oe1), (f, of), (s, os), (L + 1, oP), (aP, oPl), (L + 3, oF)] (by repeat (first | exact List.Sublist.refl _ | apply List.Sublist.cons_cons | apply List.Sublist.cons))
      have bi4 : BI (vc ++ List.replicate (min (fl.count xk) (sl.count xk)) (Value.int (xk.toNat : Int) tk)) (cl ++ List.replicate (min (fl.count xk) (sl.count xk)) xk) := by
        show IntsAre _ _
        rw [List.map_append, List.map_replicate]
        exact ints_app L1.bi (ints_rep' _ _ _)
      have BIC := bi4
      have LOC := lo4
      generalize o4 = oc2 at F LOC
      clear bi4 lo4
      refine rCons <| rAugName <| rLocalN F rfl <| rBin <| rList <| rEl <| rSubList <| rCell (F.get (a := L + 1) (by repeat (first | exact .head _ | apply List.Mem.tail))) hP <| rCell (F.get (a := L + 2) (by repeat (first | exact .head _ | apply List.Mem.tail))) hK ⟨_, _, rfl, Lp.lo.is (F.get (by repeat (first | exact .head _ | apply List.Mem.tail))), wListGet (Lp.lo.is (F.get (by repeat (first | exact .head _ | apply List.Mem.tail)))) (n0 _) i1 (by rw [Int.toNat_natCast]; exact evk) <| rEl0 ⟨by simp, ?_⟩⟩
      have F := F.push { cls := .type "list", data := .seq [Value.int (xk.toNat : Int) tk].toArray }
      have G := G₀.ext F.keep
      refine rB2 G <| rLocal F rfl <| rLocal F rfl <| wMax hh fun t3 h₂ x2 => ?_
      have F := F.ext x2
      refine wListMul (F.get (.head _)) (LO.new _) (Int.le_trans (n0 _) (Int.le_max_left ..)) (Int.max_le.mpr ⟨Int.ofNat_le.mpr (Nat.le_trans b1 (by decide)), Int.ofNat_le.mpr (Nat.le_trans b2 (by decide))⟩) fun rm h₃ om x3 f3 e3 lo3 => ?_
      have F := F.new x3 f3 e3
      have em' : (max ((fl.count xk : Nat) : Int) ((sl.count xk : Nat) : Int)).toNat = max (fl.count xk) (sl.count xk) := by omega
      rw [em'] at lo3
      refine wListIAdd (F.get (a := em) (by repeat (first | exact .head _ | apply List.Mem.tail))) L2.lo (F.get (.head _)) lo3 (by rw [L2.bi.len, List.length_replicate]; exact Nat.le_trans (Nat.add_le_add hC.2.2.2 (Nat.max_le.mpr ⟨b1, b2⟩)) (Nat.le_trans (Nat.add_le_add_right (Nat.mul_le_mul_left 5 (Nat.le_of_lt hi)) 5) (by decide))) fun h₄ o4 sb4 e4 lo4 => ?_
      have F := F.turnAt (l₁ := [_, _, _, _, _]) sb4 e4
      refine rStore F fun h₅ F => ?_
      have F := F.sub [(L + 2, oc), (I, oI), (cm, oc2), (em, o4), (f, of), (s, os), (L + 1, oP), (aP, oPl), (L + 3, oF)] (by repeat (first | exact List.Sublist.refl _ | apply List.Sublist.cons_cons | apply List.Sublist.cons))
      have bi4 : BI (ve ++ List.replicate (max (fl.count xk) (sl.count xk)) (Value.int (xk.toNat : Int) tk)) (el ++ List.replicate (max (fl.count xk) (sl.count xk)) xk) := by
        show IntsAre _ _
        rw [List.map_append, List.map_replicate]
        exact ints_app L2.bi (ints_rep' _ _ _)
      refine rNil (rNil ⟨((cl ++ List.replicate (min (fl.count xk) (sl.count xk)) xk, _, _), (el ++ List.replicate (max (fl.count xk) (sl.count xk)) xk, _, _)), oc, _, hK, ⟨⟨LOC, BIC⟩, ⟨lo4, bi4⟩, hC.add exk hm S1.le S2.le⟩, F.pick _ ⟨rfl, rfl, rfl, rfl, trivial⟩⟩)
  · rintro ⟨⟨cl, vc, oc1⟩, ⟨el, ve, oe1⟩⟩ h₅ oc v hoc ⟨L1, L2, hC⟩ F
    have hC : CI pl fl sl 3 cl el := hC
    have F : Fm B L h₅ [(Str.ofString "every", .ref em), (Str.ofString "common", .ref cm), (Str.ofString "second", .ref s), (Str.ofString "first", .ref f)] [(L + 2, oc), (cm, oc1), (em, oe1), (f, of), (s, os), (L + 1, oP), (aP, oPl), (L + 3, oF)] := F
    have e3 : pl.take 3 = pl := List.take_of_length_le (by omega)
    refine k h₅ cm em oc1 oe1 vc ve cl el oc v hoc L1 L2 (fun x => ?_) (fun x => ?_) (F.sub _ (by repeat (first | exact List.Sublist.refl _ | apply List.Sublist.cons_cons | apply List.Sublist.cons)))
    · rw [hC.1 x, e3]
      by_cases q : x ∈ pl
      · simp [q]
      · have a1 : fl.count x = 0 := List.count_eq_zero.mpr fun h => q (S1.sub x h)
        simp [q, a1]
    · rw [hC.2.1 x, e3]
      by_cases q : x ∈ pl
      · simp [q]
      · have a1 : fl.count x = 0 := List.count_eq_zero.mpr fun h => q (S1.sub x h)
        have a2 : sl.count x = 0 := List.count_eq_zero.mpr fun h => q (S2.sub x h)
        simp [q, a1, a2]
end
end
end Mine

/-! part MLaw4 -/
namespace Mine
noncomputable section
open PySem PySem.W PyProof.Rows
open Sem (wp)
/-- the polynomials made, as objects -/
abbrev pob (ps : List (Addr × List UInt8)) : List (Addr × Obj) := ps.map fun p => (p.1, bl p.2)
structure Pl (rl : List UInt8) (P : List UInt8) : Prop where
  co : co P = prodR rl
  len : P.length = rl.length + 1

theorem Pl.num {rl P : List UInt8} (x : Pl rl P) (h : rl.length ≤ 11) : nm (Mine.co P) P.length = nm (prodR rl) 12 := by
  have e := nm_more (f := prodR rl) (n := rl.length + 1) (m := 12) (dg_prodR rl) (by omega)
  rw [e, x.co, x.len]

section
variable {w : World} {A : Around} {h B : Heap} {d : Ad} {L a : Addr} {cd : Value} {Q : Flow → Heap → Prop}

theorem ba_one {r : Addr} {x : UInt8} {t1 t2 : Tok} {Q : Value → Heap → Prop} {o : Obj} (e : h.get? r = some o) (lo : LO [.int 1 t1, .int (x.toNat : Int) t2] o)
    (y : ∀ q h', Ext h h' → h.objs.size ≤ q → h'.get? q = some (bl [1, x]) → Q (.ref q) h') : W w A (call (.type "bytearray") [.ref r]) Q h := by
  refine baList_W (ns := [1, (x.toNat : Int)]) (lo.is e) (.cons _ _ (.cons _ _ .nil)) ?_ (by simp) fun q h' ex f er => y q h' ex f ?_
  · intro n hn
    simp at hn
    rcases hn with rfl | rfl
    · decide
    · have := x.toNat_lt; omega
  · rw [er]; simp [bl]
theorem ba_single {r : Addr} {x : UInt8} {t1 : Tok} {n : Int} {Q : Value → Heap → Prop} {o : Obj} (e : h.get? r = some o) (lo : LO [.int n t1] o) (hn : n = (x.toNat : Int))
    (y : ∀ q h', Ext h h' → h.objs.size ≤ q → h'.get? q = some (bl [x]) → Q (.ref q) h') : W w A (call (.type "bytearray") [.ref r]) Q h := by
  subst hn
  refine baList_W (ns := [(x.toNat : Int)]) (lo.is e) (.cons _ _ .nil) ?_ (by simp) fun q h' ex f er => y q h' ex f ?_
  · intro n hn
    simp at hn
    subst hn
    have := x.toNat_lt; omega
  · rw [er]; simp [bl]

theorem law4 {cm em f s : Addr} {oc oe of os oK oF : Obj} {vK : Option Value} {vc ve vf vs : List Value} {pl cl el fl sl : List UInt8} (G₀ : Gl d B) (o : Ok 2 A) (hKd : oK.data = .cell vK) (S1 : Sd pl fl vf of) (S2 : Sd pl sl vs os)
    (F : Fm B L h [(Str.ofString "every", .ref em), (Str.ofString "common", .ref cm), (Str.ofString "second", .ref s), (Str.ofString "first", .ref f)] [(L + 2, oK), (cm, oc), (em, oe), (f, of), (s, os), (L + 3, oF)])
    (k : ∀ h' pr opr p0 p1 P0 P1 tw otw t0 t1 oK' vK', oK'.data = .cell vK' → LO [.ref p0, .ref p1] opr → Pl fl P0 → Pl sl P1 → LO [.int (nm (prodR fl) 12 : Nat) t0, .int (nm (prodR sl) 12 : Nat) t1] otw →
      Fm B L h' [(Str.ofString "twins", .ref tw), (Str.ofString "pair", .ref pr), (Str.ofString "every", .ref em), (Str.ofString "common", .ref cm)] [(L + 2, oK'), (pr, opr), (p0, bl P0), (p1, bl P1), (tw, otw), (cm, oc), (em, oe), (L + 3, oF)] →
      W w A (execs (lawB.drop 12) (lenv L a cd)) Q h') :
    W w A (execs (lawB.drop 9) (lenv L a cd)) Q h := by
  have hh := o.handled
  -- pair
  refine rCons <| rAssign <| rList <| rEl0 ⟨by simp, ?_⟩
  have F := F.push { cls := .type "list", data := .seq ([] : List Value).toArray }
  generalize h.objs.size = pr at F ⊢
  refine rStore F fun h₁ F => ?_
  have G := G₀.ext F.keep
  -- twins
  obtain ⟨N0, hN0⟩ : ∃ N, N = nm (prodR fl) 12 := ⟨_, rfl⟩
  obtain ⟨N1, hN1⟩ : ∃ N, N = nm (prodR sl) 12 := ⟨_, rfl⟩
  rw [← hN0, ← hN1] at k
  refine rCons <| rAssign <| rList <| rEl <| rOwn1 (i := 15) G <| rLocal F rfl ⟨G.roots, law_from_roots_W G o (S1.ls.lo.is (F.get (by repeat (first | exact .head _ | apply List.Mem.tail)))) S1.ls.bi (by have := S1.le; omega) fun h₂ t0 x2 => ?_⟩
  have F := F.ext x2
  have G := G₀.ext F.keep
  rw [← hN0]
  refine rEl <| rOwn1 (i := 15) G <| rLocal F rfl ⟨G.roots, law_from_roots_W G o (S2.ls.lo.is (F.get (by repeat (first | exact .head _ | apply List.Mem.tail)))) S2.ls.bi (by have := S2.le; omega) fun h₃ t1 x3 => rEl0 ⟨by simp, ?_⟩⟩
  have F := F.ext x3
  rw [← hN1]
  have F := F.push { cls := .type "list", data := .seq [Value.int (N0 : Nat) t0, Value.int (N1 : Nat) t1].toArray }
  generalize h₃.objs.size = tw at F ⊢
  refine rStore F fun h₄ F => ?_
  have G := G₀.ext F.keep
  -- the loop
  refine rCons <| rFor <| rB1 G <| rInt fun t2 => wRange1 fun rg h₅ t u v x5 hrg => ?_
  have F := F.ext x5
  refine wIterRange hrg (by decide) fun I h₆ x6 hI eI => ?_
  have F := F.new x6 hI eI
  generalize hotw : ({ cls := .type "list", data := .seq [Value.int (N0 : Nat) t0, Value.int (N1 : Nat) t1].toArray } : Obj) = otw at F
  have lotw : LO [Value.int (N0 : Nat) t0, Value.int (N1 : Nat) t1] otw := hotw ▸ LO.new _
  have F : Fm B L h₆ [(Str.ofString "twins", .ref tw), (Str.ofString "pair", .ref pr), (Str.ofString "every", .ref em), (Str.ofString "common", .ref cm), (Str.ofString "second", .ref s), (Str.ofString "first", .ref f)] [(L + 2, oK), (I, rit 0 (Builtin.Range.rangeSize 0 2 1) 1), (pr, { cls := .type "list", data := .seq ([] : List Value).toArray }), (tw, otw), (cm, oc), (em, oe), (f, of), (s, os), (L + 3, oF)] := by
    refine F.perm ?_
    refine (List.perm_middle (l₁ := [(I, _), (tw, _), (pr, _)]) (a := (L + 2, oK)) (l₂ := [(cm, oc), (em, oe), (f, of), (s, os), (L + 3, oF)])).trans ?_
    exact .cons _ (.cons _ (.swap ..))
  refine rForFmC (cc := L + 2) (σ := List (Addr × List UInt8) × Obj) (It.range hh 0 1 2)
    (fun i c => c.1.length = i ∧ LO (c.1.map fun p => Value.ref p.1) c.2 ∧ ∀ j p, c.1[j]? = some p → Pl (if j = 0 then fl else sl) p.2)
    (fun c => [(Str.ofString "twins", .ref tw), (Str.ofString "pair", .ref pr), (Str.ofString "every", .ref em), (Str.ofString "common", .ref cm), (Str.ofString "second", .ref s), (Str.ofString "first", .ref f)])
    (fun c => (pr, c.2) :: (pob c.1 ++ [(tw, otw), (cm, oc), (em, oe), (f, of), (s, os), (L + 3, oF)]))
    (fun _ _ _ _ _ _ _ => trivial) ([], { cls := .type "list", data := .seq ([] : List Value).toArray }) hKd F rfl ⟨rfl, LO.new _, by intro j p e; simp at e⟩ ?_ ?_
  · rintro i ⟨ps, opr⟩ h₇ v oI ok hi ⟨hpl, lopr, hps⟩ ⟨ti, rfl⟩ hK F
    have hpl : ps.length = i := hpl
    have lopr : LO (ps.map fun p => Value.ref p.1) opr := lopr
    have hps : ∀ j p, ps[j]? = some p → Pl (if j = 0 then fl else sl) p.2 := hps
    have ei : (0 : Int) + 1 * (i : Int) = (i : Int) := by omega
    rw [ei] at hK
    have F : Fm B L h₇ [(Str.ofString "twins", .ref tw), (Str.ofString "pair", .ref pr), (Str.ofString "every", .ref em), (Str.ofString "common", .ref cm), (Str.ofString "second", .ref s), (Str.ofString "first", .ref f)] ((L + 2, ok) :: (I, oI) :: (pr, opr) :: (pob ps ++ [(tw, otw), (cm, oc), (em, oe), (f, of), (s, os), (L + 3, oF)])) := F
    have G := G₀.ext F.keep
    -- the roots of this turn
    obtain ⟨ra, ro, rl, vr, SR, hra, hro, hpk, htw⟩ : ∃ ra ro rl vr, Sd pl rl vr ro ∧ [Value.ref f, Value.ref s][i]? = some (.ref ra) ∧ (ra, ro) ∈ [(tw, otw), (cm, oc), (em, oe), (f, of), (s, os), (L + 3, oF)] ∧ (if i = 0 then fl else sl) = rl ∧
        ∃ tt, [Value.int (N0 : Nat) t0, Value.int (N1 : Nat) t1][i]? = some (.int (nm (prodR rl) 12 : Nat) tt) := by
      rcases (by omega : i = 0 ∨ i = 1) with rfl | rfl
      · exact ⟨f, of, fl, vf, S1, rfl, by simp, rfl, t0, by rw [← hN0]; rfl⟩
      · exact ⟨s, os, sl, vs, S2, rfl, by simp, rfl, t1, by rw [← hN1]; rfl⟩
    obtain ⟨tt, htw⟩ := htw
    have hra' : ∀ x y z : Addr × Obj, (ra, ro) ∈ x :: y :: z :: (pob ps ++ [(tw, otw), (cm, oc), (em, oe), (f, of), (s, os), (L + 3, oF)]) := fun x y z => .tail _ (.tail _ (.tail _ (List.mem_append.mpr (.inr hro))))
    -- poly = bytearray([1])
    refine rCons <| rAssign <| rB1 G <| rList <| rEl <| rInt fun u1 => rEl0 ⟨by simp, ?_⟩
    have F1 := F.push { cls := .type "list", data := .seq [Value.int 1 u1].toArray }
    refine ba_single (x := 1) (F1.get (.head _)) (LO.new _) rfl fun q h₈ x8 f8 e8 => ?_
    have F := F.ext (Ext.push _ _) |>.new x8 f8 e8
    refine rStore F fun h₉ F => ?_
    -- for root in [first, second][k]
    refine rCons <| rFor <| rSubList <| rList <| rEl <| rLocal F rfl <| rEl <| rLocal F rfl <| rEl0 ⟨by simp, ?_⟩
    have F := F.push { cls := .type "list", data := .seq [Value.ref f, Value.ref s].toArray }
    refine rCell (F.get (a := L + 2) (.tail _ (.tail _ (.head _)))) hK ⟨_, _, rfl, (LO.new _).is (F.get (.head _)), wListGet ((LO.new _).is (F.get (.head _))) (by omega) (by omega) (by rw [Int.toNat_natCast]; exact hra) ?_⟩
    have F := F.sub ((q, bl [1]) :: (L + 2, ok) :: (I, oI) :: (pr, opr) :: (pob ps ++ [(tw, otw), (cm, oc), (em, oe), (f, of), (s, os), (L + 3, oF)])) (.cons _ (.refl _))
    have vlr := SR.ls.bi.len
    refine wIterList (SR.ls.lo.is (F.get (.tail _ (hra' _ _ _)))) fun J h₁₀ x10 hJ eJ => ?_
    have F := F.new x10 hJ eJ
    refine rForFm (σ := Addr × List UInt8) (It.list hh ra vr) (fun j c => Pl (rl.take j) c.2)
      (fun c => [(Str.ofString "poly", .ref c.1), (Str.ofString "twins", .ref tw), (Str.ofString "pair", .ref pr), (Str.ofString "every", .ref em), (Str.ofString "common", .ref cm), (Str.ofString "second", .ref s), (Str.ofString "first", .ref f)])
      (fun c => (c.1, bl c.2) :: (L + 2, ok) :: (I, oI) :: (pr, opr) :: (pob ps ++ [(tw, otw), (cm, oc), (em, oe), (f, of), (s, os), (L + 3, oF)]))
      (fun j c h o _ F => SR.ls.lo.is (F.get (.tail _ (.tail _ (hra' _ _ _))))) (q, [1]) F ⟨rfl, rfl⟩ ⟨by simp [co, prodR, padd_zero], rfl⟩ ?_ ?_
    · rintro j ⟨q, P⟩ h₁₁ v oJ hj hP hv F
      have hP : Pl (rl.take j) P := hP
      obtain ⟨r, tr, er, rfl⟩ := SR.ls.bi.at hv
      have jl : j < rl.length := by omega
      have lenT : (rl.take j).length = j := by rw [List.length_take]; omega
      have PL := hP.len
      have rl5 := SR.le
      have F : Fm B L h₁₁ [(Str.ofString "root", .int (r.toNat : Int) tr), (Str.ofString "poly", .ref q), (Str.ofString "twins", .ref tw), (Str.ofString "pair", .ref pr), (Str.ofString "every", .ref em), (Str.ofString "common", .ref cm), (Str.ofString "second", .ref s), (Str.ofString "first", .ref f)]
        ((J, oJ) :: (q, bl P) :: (L + 2, ok) :: (I, oI) :: (pr, opr) :: (pob ps ++ [(tw, otw), (cm, oc), (em, oe), (f, of), (s, os), (L + 3, oF)])) := F
      have G := G₀.ext F.keep
      refine rCons <| rAssign <| rOwn2 (i := 9) G <| rLocal F rfl <| rB1 G <| rList <| rEl <| rInt fun u2 => rEl <| rLocal F rfl <| rEl0 ⟨by simp, ?_⟩
      have F := F.push { cls := .type "list", data := .seq [Value.int 1 u2, Value.int (r.toNat : Int) tr].toArray }
      refine ba_one (F.get (.head _)) (LO.new _) fun q2 h₁₂ x12 f12 e12 => ?_
      have F := F.new x12 f12 e12
      have G := G₀.ext F.keep
      refine ⟨G.pmul, gf_poly_mul_W G (o.less (by decide)) (F.get (.tail _ (.tail _ (.tail _ (.head _))))) (F.get (.head _)) (by omega) (by simp) (by omega) (by simp) fun q3 h₁₃ P3 x13 f13 e13 l13 c13 => ?_⟩
      have F := F.new x13 f13 e13
      refine rStore F fun h₁₄ F => rNil ⟨(q3, P3), ⟨?_, ?_⟩, ?_⟩
      · show co P3 = _
        rw [c13, hP.co, List.take_add_one, er]
        show _ = prodR (rl.take j ++ [r])
        rw [prodR_snoc]; rfl
      · show P3.length = _
        rw [l13, List.length_take]; simp; omega
      · have F := F.sub ((q3, bl P3) :: (J, oJ) :: (L + 2, ok) :: (I, oI) :: (pr, opr) :: (pob ps ++ [(tw, otw), (cm, oc), (em, oe), (f, of), (s, os), (L + 3, oF)])) (.cons_cons _ (.cons _ (.cons _ (.cons_cons _ (.cons _ (.refl _))))))
        exact (F.perm (.swap ..)).pick _ ⟨rfl, rfl, rfl, rfl, rfl, rfl, rfl, trivial⟩
    · rintro ⟨q, P⟩ h₁₁ hP F
      have hP : Pl (rl.take vr.length) P := hP
      rw [List.take_of_length_le (by omega)] at hP
      have F : Fm B L h₁₁ [(Str.ofString "poly", .ref q), (Str.ofString "twins", .ref tw), (Str.ofString "pair", .ref pr), (Str.ofString "every", .ref em), (Str.ofString "common", .ref cm), (Str.ofString "second", .ref s), (Str.ofString "first", .ref f)]
        ((q, bl P) :: (L + 2, ok) :: (I, oI) :: (pr, opr) :: (pob ps ++ [(tw, otw), (cm, oc), (em, oe), (f, of), (s, os), (L + 3, oF)])) := F
      have G := G₀.ext F.keep
      have PL := hP.len
      have rl5 := SR.le
      -- the number
      refine rCons <| rIf <| rTCmp <| rOwn1 (i := 13) G <| rLocal F rfl ⟨G.num, law_number_W G (o.less (by decide)) (F.get (.head _)) (by omega) fun h₁₂ u3 x12 => ?_⟩
      have F := F.ext x12
      refine rSubList <| rLocal F rfl <| rCell (F.get (a := L + 2) (.tail _ (.head _))) hK ⟨_, _, rfl, lotw.is (F.get (a := tw) (List.mem_append.mpr (.inr (.head _)) |> fun z => .tail _ (.tail _ (.tail _ (.tail _ z))))), wListGet (lotw.is (F.get (a := tw) (List.mem_append.mpr (.inr (.head _)) |> fun z => .tail _ (.tail _ (.tail _ (.tail _ z)))))) (by omega) (by omega) (by rw [Int.toNat_natCast]; exact htw) <| wNe <| rTruthB ?_⟩
      refine itF ?_ (rNil ?_)
      · rw [hP.num (by omega)]; exact bne_self_eq_false _
      refine rCons <| rExpr <| rAppend <| rLocal F rfl ⟨_, _, _, rfl, F.get (.tail _ (.tail _ (.tail _ (.head _)))), lopr, rLocal F rfl ?_⟩
      refine wAppend (F.get (.tail _ (.tail _ (.tail _ (.head _))))) lopr (by simp; omega) fun h₁₃ o13 sb13 e13 lo13 => rNil ?_
      have F := F.turnAt (l₁ := [_, _, _]) sb13 e13
      refine ⟨(ps ++ [(q, P)], o13), ok, _, hK, ⟨by simp [hpl], by simpa using lo13, fun j p e => ?_⟩, ?_⟩
      · show Pl _ p.2
        by_cases hj : j < ps.length
        · rw [List.getElem?_append_left hj] at e; exact hps j p e
        · rw [List.getElem?_append_right (by omega)] at e
          have j0 : j - ps.length = 0 := by
            rcases hz : j - ps.length with _ | n
            · rfl
            · rw [hz] at e; simp at e
          rw [j0] at e
          simp at e
          subst e
          rw [show j = i by omega, hpk]
          exact hP
      · have F := F.pick [(Str.ofString "twins", .ref tw), (Str.ofString "pair", .ref pr), (Str.ofString "every", .ref em), (Str.ofString "common", .ref cm), (Str.ofString "second", .ref s), (Str.ofString "first", .ref f)] ⟨rfl, rfl, rfl, rfl, rfl, rfl, trivial⟩
        refine F.perm ?_
        show List.Perm ((q, bl P) :: ([(L + 2, ok), (I, oI), (pr, o13)] ++ (pob ps ++ [(tw, otw), (cm, oc), (em, oe), (f, of), (s, os), (L + 3, oF)]))) ((L + 2, ok) :: (I, oI) :: (pr, o13) :: (pob (ps ++ [(q, P)]) ++ [(tw, otw), (cm, oc), (em, oe), (f, of), (s, os), (L + 3, oF)]))
        rw [← List.append_assoc]
        refine List.perm_middle.symm.trans ?_
        simp [pob]
  · rintro ⟨ps, opr⟩ h₇ ok v hok ⟨hpl, lopr, hps⟩ F
    have hpl : ps.length = 2 := hpl
    match ps, hpl with
    | [(p0, P0), (p1, P1)], _ =>
      have F : Fm B L h₇ [(Str.ofString "twins", .ref tw), (Str.ofString "pair", .ref pr), (Str.ofString "every", .ref em), (Str.ofString "common", .ref cm), (Str.ofString "second", .ref s), (Str.ofString "first", .ref f)] [(L + 2, ok), (pr, opr), (p0, bl P0), (p1, bl P1), (tw, otw), (cm, oc), (em, oe), (f, of), (s, os), (L + 3, oF)] := F
      exact k h₇ pr opr p0 p1 P0 P1 tw otw t0 t1 ok v hok lopr (hps 0 (p0, P0) rfl) (hps 1 (p1, P1) rfl) lotw ((F.sub [(L + 2, ok), (pr, opr), (p0, bl P0), (p1, bl P1), (tw, otw), (cm, oc), (em, oe), (L + 3, oF)] (by repeat (first | exact List.Sublist.refl _ | apply List.Sublist.cons_cons | apply List.Sublist.cons))).pick _ ⟨rfl, rfl, rfl, rfl, trivial⟩)
end
end
end Mine

/-! part MComp2 -/
namespace Mine
noncomputable section
open PySem PySem.W PyProof.Rows
open Sem (wp)
/-- an inner frame's things among the outer's -/
theorem Fm.merge {B₀ B h' : Heap} {L C : Addr} {oC : Obj} {bs bs' : List (Str × Value)} {os ns : List (Addr × Obj)} (F : Fm B₀ L B bs os) (Fi : Fm B C h' bs' ns) (eC : h'.get? C = some oC) : Fm B₀ L h' bs ((C, oC) :: (ns ++ os)) := by
  have F' := F.ext Fi.keep
  have hBL : B₀.objs.size ≤ B.objs.size := Nat.le_of_lt (Nat.lt_of_le_of_lt F.above F.ltL)
  refine ⟨F'.ns, F'.keep, F'.above, fun p hp => ?_, ?_⟩
  · rcases List.mem_cons.mp hp with rfl | hp
    · exact ⟨eC, Nat.ne_of_gt (Nat.lt_of_lt_of_le F.ltL Fi.above), Nat.le_trans hBL Fi.above⟩
    · rcases List.mem_append.mp hp with hp | hp
      · have q := Fi.objs p hp
        exact ⟨q.1, Nat.ne_of_gt (Nat.lt_of_lt_of_le F.ltL q.2.2), Nat.le_trans hBL q.2.2⟩
      · exact F'.objs p hp
  · rw [List.map_cons, List.map_append, List.nodup_cons, List.mem_append, List.nodup_append]
    have lo : ∀ x ∈ os.map (·.1), x < B.objs.size := fun x hx => by
      obtain ⟨p, hp, rfl⟩ := List.mem_map.mp hx
      exact Heap.lt_size (F.objs p hp).1
    have hi : ∀ x ∈ ns.map (·.1), B.objs.size ≤ x ∧ x ≠ C := fun x hx => by
      obtain ⟨p, hp, rfl⟩ := List.mem_map.mp hx
      exact ⟨(Fi.objs p hp).2.2, (Fi.objs p hp).2.1⟩
    refine ⟨?_, Fi.nd, F.nd, fun x hx y hy => ?_⟩
    · rintro (h | h)
      · exact (hi _ h).2 rfl
      · exact absurd (lo _ h) (Nat.not_lt.mpr Fi.above)
    · exact Nat.ne_of_gt (Nat.lt_of_lt_of_le (lo _ hy) (hi _ hx).1)

section
variable {w : World} {A : Around} {h : Heap} {env : Env} {Q : Value → Heap → Prop}
structure CompDo2 (w : World) (A : Around) (env : Env) (scope : Scope) (cl : List (Str × Addr)) (x : Str) (elt : Expr) (B h₂ : Heap) (it : Value) (done : Addr → Addr → Heap → Obj → Obj → List Value → List (Addr × Obj) → Prop) where
  I : Addr
  oI : Obj
  n : Nat
  val : Nat → Value → Prop
  st : Nat → Obj → Prop
  S : Heap → Prop
  Inv : Nat → List Value → List (Addr × Obj) → Prop
  eit : it = .ref I
  iter : It w A I n val st S
  self : ∀ h o (Q : Value → Heap → Prop), h.get? I = some o → st 0 o → Q (.ref I) h → W w A (pyIter (.ref I)) Q h
  ext : Ext B h₂
  new : B.objs.size ≤ I
  at0 : h₂.get? I = some oI
  st0 : st 0 oI
  side : ∀ h, Ext B h → S h
  inv0 : Inv 0 [] []
  size : n ≤ 100000
  turn : ∀ i ys ns v C h, i < n → Inv i ys ns → val i v → Fm B C h [(x, v)] ns → W w A (eval elt (compEnvC scope cl C env)) (fun y h' => Ext h h' ∧ ∃ p : Addr × Obj, h'.get? p.1 = some p.2 ∧ h.objs.size ≤ p.1 ∧ Inv (i + 1) (ys ++ [y]) (p :: ns)) h
  fin : ∀ D C h' oD oC ys ns, Fm B C h' [] ((D, oD) :: ns) → LO ys oD → h'.get? C = some oC → Inv n ys ns → done D C h' oD oC ys ns

theorem wCompLoop2 {elt iter : Expr} {x : Str} {px : Pos} {scope : Scope} {cl : List (Str × Addr)} {pos : Pos} {B h₂ : Heap} {it : Value} {done : Addr → Addr → Heap → Obj → Obj → List Value → List (Addr × Obj) → Prop} {R : Addr → Addr → Flow → Heap → Prop}
    (cd : CompDo2 w A env scope cl x elt B h₂ it done) (hcell : ∀ y ∈ scope.names, y.2 ≠ .cell) (hkind : scope.kind = .function) (hx : scope.names.lookup x = some .local)
    (hR : ∀ D C h' oD oC ys ns, done D C h' oD oC ys ns → h'.get? D = some oD → h'.get? C = some oC → (∃ m, h'.Ns C m) → R D C .next h') :
    W w A (newList []) (fun acc h₃ => W w A (newFunctionEnv scope env.globals cl [] env.qual none .none (some env)) (fun cenv h₄ => ∃ D, acc = .ref D ∧
      WC w A (.compStart (.ListComp elt [⟨.Name x px, iter, [], 0⟩] scope pos) 0 it acc { cenv with scope := relabel scope env }) (R D cenv.locals) h₄) h₃) h₂ := by
  obtain ⟨I, oI, n, val, st, S, Inv, rfl, hIt, self, ext, new, at0, st0, side, inv0, size, turn, fin⟩ := cd
  refine W.of fun s hs => wpAny_newList ⟨rfl, rfl, ?_⟩ (by rw [szl]; simp)
  rw [hs]
  refine W.of fun s hs => wpAny_newFunctionEnv hcell (by intro y hy; simp at hy) (fun h₁ hns hsb => ⟨rfl, rfl, h₂.objs.size, rfl, ?_⟩) hkind
  rw [hs] at hns hsb ⊢
  have hB : B.objs.size ≤ h₂.objs.size := Nat.le_trans new (Nat.le_of_lt (Heap.lt_size at0))
  have eC : (h₂.push { cls := .type "list", data := .seq ([] : List Value).toArray }).objs.size = h₂.objs.size + 1 := Heap.size_push ..
  generalize hCC : (h₂.push { cls := .type "list", data := .seq ([] : List Value).toArray }).objs.size = C at hns hsb ⊢
  rw [hCC] at eC
  have get1 : ∀ b o, (h₂.push { cls := .type "list", data := .seq ([] : List Value).toArray }).get? b = some o → h₁.get? b = some o := fun b o e =>
    hsb.extBut b o (by have := Heap.lt_size e; rw [hCC] at this; exact Nat.ne_of_lt this) (Heap.get?_push_of_some _ e)
  have get2 : ∀ b o, h₂.get? b = some o → h₁.get? b = some o := fun b o e => get1 b o (Heap.get?_push_of_some _ e)
  have hD : h₁.get? h₂.objs.size = some { cls := .type "list", data := .seq ([] : List Value).toArray } := get1 _ _ (Heap.get?_push_size _ rfl)
  have hI := Heap.lt_size at0
  have F0 : Fm B C h₁ [] [(I, oI), (h₂.objs.size, { cls := .type "list", data := .seq ([] : List Value).toArray })] := by
    refine ⟨⟨_, hns, fun x v e => by cases e⟩, fun b o e => get2 b o (ext b o e), by omega, fun p hp => ?_, ?_⟩
    · rcases List.mem_cons.mp hp with rfl | hp
      · exact ⟨get2 _ _ at0, Nat.ne_of_lt (Nat.lt_trans hI (by omega)), new⟩
      · rcases List.mem_cons.mp hp with rfl | hp
        · exact ⟨hD, Nat.ne_of_lt (by show h₂.objs.size < C; omega), hB⟩
        · cases hp
    · simp; exact Nat.ne_of_lt hI
  show WC w A (.compStart _ 0 (.ref I) (.ref h₂.objs.size) (compEnvC scope cl C env)) (R h₂.objs.size C) h₁
  have ek : (compEnvC scope cl C env).scope.kind = .function := by simp [compEnvC, relabel, hkind]
  have el : (compEnvC scope cl C env).kindOf x = some .local := lookup_relabel_local hx
  have loop : WC w A (.compLoop (.ListComp elt [⟨.Name x px, iter, [], 0⟩] scope pos) 0 (.ref I) (.ref h₂.objs.size) (compEnvC scope cl C env)) (R h₂.objs.size C) h₁ := by
    refine WC.loop rfl rfl (fun m h => ∃ i ys ns o oD bs, i ≤ n ∧ m = n - i ∧ Inv i ys ns ∧ ys.length ≤ i ∧ st i o ∧ LO ys oD ∧ Fm B C h bs ((I, o) :: (h₂.objs.size, oD) :: ns)) (fun m h hI => ?_) n h₁ ⟨0, [], [], oI, _, _, Nat.zero_le _, rfl, inv0, Nat.le_refl _, st0, LO.new [], F0⟩
    obtain ⟨i, ys, ns, o, oD, bs, hle, rfl, hInv, hlen, hst, hLO, F⟩ := hI
    show W w A ((compTurn (.ListComp elt [⟨.Name x px, iter, [], 0⟩] scope pos) 0 (.ref I) (.ref h₂.objs.size) (compEnvC scope cl C env)).onRaise _) _ h
    refine W.onRaise ?_
    rw [compTurn_list1]
    refine W.bind (W.standAt (W.bind ?_))
    by_cases hlt : i < n
    · refine hIt.item i h o _ hlt (F.get (.head _)) hst (side h F.keep) fun v h₅ o' hv sb e st' => ?_
      have F := F.turn sb e
      refine W.bind (W.eq rfl ?_)
      refine W.bind (rAssignN (rStore (env := compEnvC scope cl C env) F (fun h₆ F => ?_) ek el))
      have F1 : Fm B C h₆ [(x, v)] ns := F.less (fun z u e => by
        rw [List.lookup_cons] at e ⊢
        by_cases q : (z == x) = true
        · rw [q] at e ⊢; exact e
        · rw [Bool.not_eq_true] at q; rw [q] at e; cases e) (.cons _ (.cons _ (.refl _)))
      refine W.bind (W.bind ((turn i ys ns v C h₆ hlt hInv hv F1).mono fun y h₈ ⟨ex, p, ep, fp, hi⟩ => ?_))
      have F : Fm B C h₈ ((x, v) :: bs) ((p.1, p.2) :: (I, o') :: (h₂.objs.size, oD) :: ns) := F.new ex fp ep
      refine W.bind (wAppend (F.get (.tail _ (.tail _ (.head _)))) hLO (by omega) fun h₉ oD' sb' e' lo' => W.pure (W.pure (.inl ⟨rfl, n - (i + 1), by omega, i + 1, _, p :: ns, o', oD', (x, v) :: bs, by omega, rfl, hi, by simp; omega, st', lo', ?_⟩)))
      have F := ((F.perm (List.perm_middle (l₁ := [(p.1, p.2), (I, o')]))).turn sb' e')
      exact F.perm (List.perm_middle (l₁ := [(h₂.objs.size, oD'), (p.1, p.2)]) (a := (I, o')) (l₂ := ns))
    · obtain rfl : i = n := by omega
      refine hIt.done h o _ (F.get (.head _)) hst (side h F.keep) fun h' ex => W.pure ?_
      have F := F.drop ex
      obtain ⟨m, hm, _⟩ := F.ns
      have hm' := hm
      obtain ⟨oC, es, ep, hoC, _⟩ := hm'
      exact hR _ _ _ _ _ _ _ (fin h₂.objs.size C h' oD oC ys ns (F.names (fun z u e => by cases e)) hLO hoC hInv) (F.get (.head _)) hoC ⟨m, hm⟩
  refine WC.tree rfl ?_
  show W w A ((compStart (.ListComp elt [⟨.Name x px, iter, [], 0⟩] scope pos) 0 (.ref I) (.ref h₂.objs.size) (compEnvC scope cl C env)).onRaise _) _ h₁
  refine W.onRaise ?_
  unfold compStart
  show W w A (PySem.ask >>= _) _ h₁
  refine W.bind (W.ask fun stt => W.ite ?_)
  split
  · first
      | exact W.pure ⟨rfl, loop⟩
      | exact W.bind (W.pure (W.pure ⟨rfl, loop⟩))
  · refine W.bind (W.rule ?_)
    show W w A (standAt iter.pos >>= _) _ h₁
    refine W.bind (W.standAt (W.bind (self h₁ oI _ (F0.get (.head _)) st0 (W.pure ⟨rfl, loop⟩))))

theorem wComp2 {elt iter : Expr} {x : Str} {px : Pos} {scope : Scope} {cl : List (Str × Addr)} {pos p0 : Pos} {use : Option (Value → Sem Unit)}
    (hclos : closureFor scope env = pure cl) (hcell : ∀ y ∈ scope.names, y.2 ≠ .cell) (hkind : scope.kind = .function) (hnames : ∀ y ∈ scope.names, y.2 = .local → scope.names.lookup y.1 = some .local) (hx : scope.names.lookup x = some .local)
    (y : W w A (eval iter env) (fun xv B => W w A (pyIter xv) (fun it h₂ => ∃ cd : CompDo2 w A env scope cl x elt B h₂ it (fun D C h' oD oC ys ns => match use with
      | none => ∀ h₃, Heap.SameBut C h' h₃ → Q (.ref D) h₃
      | some u => W w A (u (.ref D)) (fun _ h₃ => h₃.get? C = some oC ∧ ∀ h₄, Heap.SameBut C h₃ h₄ → Q .none h₄) h'), True) B) h)
    (hs : ∀ x, foldedSetIterable iter env x = pure x := by intro _; rfl) :
    W w A (comprehension (.ListComp elt [⟨.Name x px, iter, [], 0⟩] scope pos) scope env p0 (newList []) false (eval iter env) use) Q h := by
  unfold comprehension
  rw [hclos]
  refine W.bind (y.mono fun xv B q => W.bind (W.standAt (W.bind (W.eq (hs xv) (W.bind (W.holding (q.mono fun it h₂ ⟨cd, _⟩ => ?_)))))))
  have key : ∀ {k : Value → Sem Value}, W w A (newList []) (fun acc h₃ => W w A (k acc) Q h₃) h₂ → W w A (if use.isSome = true then (standAt (Expr.pos (.ListComp elt [⟨.Name x px, iter, [], 0⟩] scope pos)) >>= fun _ => newList [] >>= k) else (newList [] >>= k)) Q h₂ := fun hk => by
    split
    · exact W.bind (W.standAt (W.bind hk))
    · exact W.bind hk
  refine key ?_
  refine (wCompLoop2 (px := px) (iter := iter) (pos := pos) (R := fun D C f h' => ∃ oD oC ys, h'.get? D = some oD ∧ h'.get? C = some oC ∧ (∃ m, h'.Ns C m) ∧ (match use with
      | none => ∀ h₃, Heap.SameBut C h' h₃ → Q (.ref D) h₃
      | some u => W w A (u (.ref D)) (fun _ h₃ => h₃.get? C = some oC ∧ ∀ h₄, Heap.SameBut C h₃ h₄ → Q .none h₄) h')) cd hcell hkind hx (fun D C h' oD oC ys ns hd e1 e2 e3 => ⟨oD, oC, ys, e1, e2, e3, hd⟩)).mono fun acc h₃ q => ?_
  refine W.bind (W.pure (W.bind (q.mono fun cenv h₄ q => ?_)))
  obtain ⟨D, rfl, q⟩ := q
  dsimp only
  have hv : ∀ x ∈ (scope.names.filter fun x => (x.2 == .local || x.2 == .cell) && x.1 != (".0" : Str)).reverse, x.2 = .local →
      Env.kindOf { cenv with scope := relabel scope env } x.1 = some .local := fun x hx hl => lookup_relabel_local (hnames x (List.mem_filter.mp (List.mem_reverse.mp hx)).1 hl)
  have hv' : ∀ x ∈ (scope.names.filter fun x => (x.2 == .local || x.2 == .cell) && x.1 != (".0" : Str)).reverse.drop 1 ++ (scope.names.filter fun x => (x.2 == .local || x.2 == .cell) && x.1 != (".0" : Str)).reverse.take 1,
      x.2 = .local → Env.kindOf { cenv with scope := relabel scope env } x.1 = some .local := fun x hx hl => by
    rcases List.mem_append.mp hx with h1 | h1
    · exact hv x (List.mem_of_mem_drop h1) hl
    · exact hv x (List.mem_of_mem_take h1) hl
  refine W.holding (W.bind (W.attempt (W.holding (W.run ?_))))
  refine WC.mono q fun f h' q => ?_
  obtain ⟨oD, oC, ys, e1, e2, ⟨m, hm⟩, q⟩ := q
  cases use with
  | none =>
    exact W.bind (W.holding (W.of fun s hs => wpAny_comp_letGo (cenv := { cenv with scope := relabel scope env }) hkind _ s m hv (hs ▸ hm) fun h'' m' _ hs' => ⟨rfl, rfl, W.pure (q h'' (hs ▸ hs'))⟩))
  | some u =>
    refine W.bind (W.rule (W.bind (W.holding (W.mono q fun _ h₅ q => ?_))))
    have hm' : h₅.Ns cenv.locals m := by
      obtain ⟨o, es, ep, ho, r⟩ := hm
      rw [e2] at ho; cases ho
      exact ⟨_, es, ep, q.1, r⟩
    exact W.bind (W.of fun s hs => wpAny_comp_letGo (cenv := { cenv with scope := relabel scope env }) hkind _ s m hv' (hs ▸ hm') fun h'' m' _ hs' => ⟨rfl, rfl, W.pure (q.2 h'' (hs ▸ hs'))⟩)

/-- y = [elt for x in iter if ..] on one line, y a local name -/
theorem rAssignComp2 {elt iter : Expr} {x z : Str} {px pz' : Pos} {scope : Scope} {cl : List (Str × Addr)} {pos spos : Pos} {Q : Flow → Heap → Prop}
    (hclos : closureFor scope env = pure cl) (hcell : ∀ y ∈ scope.names, y.2 ≠ .cell) (hkind : scope.kind = .function) (hnames : ∀ y ∈ scope.names, y.2 = .local → scope.names.lookup y.1 = some .local) (hx : scope.names.lookup x = some .local)
    (hsw : swapsWith (.ListComp elt [⟨.Name x px, iter, [], 0⟩] scope pos) (some (.Name z pz')) spos.line env = pure true)
    (y : W w A (eval iter env) (fun xv B => W w A (pyIter xv) (fun it h₂ => ∃ cd : CompDo2 w A env scope cl x elt B h₂ it (fun D C h' oD oC ys ns =>
      W w A (storeName env z (.ref D)) (fun _ h₃ => h₃.get? C = some oC ∧ ∀ h₄, Heap.SameBut C h₃ h₄ → Q .next h₄) h'), True) B) h)
    (hs : ∀ x, foldedSetIterable iter env x = pure x := by intro _; rfl) :
    W w A (exec (.Assign [.Name z pz'] (.ListComp elt [⟨.Name x px, iter, [], 0⟩] scope pos) spos) env) Q h := by
  rw [exec_Assign_Name_used _ _ _ _ hsw]
  refine W.bind (W.standAt (W.bind ?_))
  show W w A (do let _ ← comprehension (.ListComp elt [⟨.Name x px, iter, [], 0⟩] scope pos) scope env _ (newList []) false (eval iter env) (some (assign (.Name z pz') env))) _ h
  refine W.bind ((wComp2 (use := some (assign (.Name z pz') env)) (Q := fun _ h' => Q .next h') hclos hcell hkind hnames hx (y.mono fun xv B q => q.mono fun it h₂ ⟨cd, _⟩ => ⟨{ cd with fin := fun D C h' oD oC ys ns a b c d => rAssignN (cd.fin D C h' oD oC ys ns a b c d) }, trivial⟩) hs).mono fun _ h' q => W.pure (W.pure q))

end
end
end Mine

/-! part MLaw5 -/
namespace Mine
noncomputable section
open PySem PySem.W PyProof.Rows
open Sem (wp)
/-- a tuple or a list -/
def TO (vs : List Value) (o : Obj) : Prop := o = { cls := .type "tuple", data := .seq vs.toArray } ∨ LO vs o

structure ES where
  aU : Addr
  u0 : Addr
  u1 : Addr
  u2 : Addr
  aL : Addr
  l0 : Addr
  l1 : Addr
  l2 : Addr
  oU : Obj
  oL : Obj
  U : List UInt8
  su : List UInt8
  tu : List UInt8
  L : List UInt8
  sl : List UInt8
  tl : List UInt8
structure ESok (e : ES) (os : List (Addr × Obj)) : Prop where
  tU : TO [.ref e.u0, .ref e.u1, .ref e.u2] e.oU
  tL : TO [.ref e.l0, .ref e.l1, .ref e.l2] e.oL
  mU : (e.aU, e.oU) ∈ os
  mu0 : (e.u0, bl e.U) ∈ os
  mu1 : (e.u1, bl e.su) ∈ os
  mu2 : (e.u2, bl e.tu) ∈ os
  mL : (e.aL, e.oL) ∈ os
  ml0 : (e.l0, bl e.L) ∈ os
  ml1 : (e.l1, bl e.sl) ∈ os
  ml2 : (e.l2, bl e.tl) ∈ os
theorem ESok.mono {e : ES} {os os' : List (Addr × Obj)} (x : ESok e os) (h : ∀ p ∈ os, p ∈ os') : ESok e os' :=
  ⟨x.tU, x.tL, h _ x.mU, h _ x.mu0, h _ x.mu1, h _ x.mu2, h _ x.mL, h _ x.ml0, h _ x.ml1, h _ x.ml2⟩

theorem Fm.two {B₀ h h' : Heap} {L r1 r2 : Addr} {o1 o2 : Obj} {bs : List (Str × Value)} {os : List (Addr × Obj)} (F : Fm B₀ L h bs os) (ex : Ext h h') (f1 : h.objs.size ≤ r1) (f2 : h.objs.size ≤ r2) (e1 : h'.get? r1 = some o1) (e2 : h'.get? r2 = some o2) :
    ∃ ns, Fm B₀ L h' bs (ns ++ os) ∧ (r1, o1) ∈ ns ∧ (r2, o2) ∈ ns := by
  by_cases q : r1 = r2
  · subst q
    rw [e1] at e2
    cases e2
    exact ⟨[(r1, o1)], F.new ex f1 e1, .head _, .head _⟩
  · exact ⟨[(r2, o2), (r1, o1)], F.new2 ex f1 f2 q e1 e2, .tail _ (.head _), .head _⟩
theorem Fm.sink {B₀ h : Heap} {L : Addr} {bs : List (Str × Value)} {ns os : List (Addr × Obj)} {c1 c2 : Addr × Obj} (F : Fm B₀ L h bs (ns ++ c1 :: c2 :: os)) : Fm B₀ L h bs (c1 :: c2 :: (ns ++ os)) :=
  F.perm (List.perm_middle.trans (.cons _ List.perm_middle))
theorem Fm.sink1 {B₀ h : Heap} {L : Addr} {bs : List (Str × Value)} {os : List (Addr × Obj)} {p c1 c2 : Addr × Obj} (F : Fm B₀ L h bs (p :: c1 :: c2 :: os)) : Fm B₀ L h bs (c1 :: c2 :: p :: os) := Fm.sink (ns := [p]) F

section
variable {w : World} {A : Around} {h B : Heap} {d : Ad} {L a : Addr} {cd : Value} {Q : Flow → Heap → Prop}

theorem rSubTO {env : Env} {value slice : Expr} {pos : Pos} {Q : Value → Heap → Prop}
    (y : W w A (eval value env) (fun ov h₁ => W w A (eval slice env) (fun i h₂ => ∃ c o vs k t x, ov = .ref c ∧ h₂.get? c = some o ∧ TO vs o ∧ i = .int k t ∧ 0 ≤ k ∧ k < 1000000 ∧ vs[k.toNat]? = some x ∧ Q x h₂) h₁) h)
    (hs : ∀ o i, ∃ vs, subscripted slice false o i = operate vs (getItem o i) := by intro _ _; exact ⟨_, rfl⟩) : W w A (eval (.Subscript value slice pos) env) Q h :=
  rSub (y.mono fun o h₁ q => q.mono fun i h₂ q => by
    obtain ⟨c, ob, vs, k, t, x, rfl, e, to, rfl, h0, h1, hx, q⟩ := q
    rcases to with rfl | lo
    · exact ⟨"tuple", _, slot_tuple_getitem.lookup, fun s hs => ⟨_, hs ▸ e, rfl⟩, wTupGet e h0 h1 hx q⟩
    · exact ⟨"list", _, slot_list_getitem.lookup, fun s hs => Heap.IsList.typeIs (hs ▸ lo.is e), wListGet (lo.is e) h0 h1 hx q⟩) hs

abbrev nmT (tw pr em cm : Addr) : List (Str × Value) := [(Str.ofString "twins", .ref tw), (Str.ofString "pair", .ref pr), (Str.ofString "every", .ref em), (Str.ofString "common", .ref cm)]

def whB : Stmt → List Stmt
  | .While _ b _ _ => b
  | _ => []
def stN (l : List Stmt) (i : Nat) : Stmt := match l[i]? with | some s => s | none => .Pass default

/-- rest's leading noughts go -/
theorem lawRest {aL aU tw pr em cm r1 r2 : Addr} {c1 c2 : Addr × Obj} {os : List (Addr × Obj)} {rs : List UInt8} (G₀ : Gl d B) (hz : rs.length < 1000) (hb : (r2, bl rs) ∈ os)
    (F : Fm B L h ((Str.ofString "rest", .ref r2) :: (Str.ofString "quotient", .ref r1) :: (Str.ofString "lower", .ref aL) :: (Str.ofString "upper", .ref aU) :: nmT tw pr em cm) (c1 :: c2 :: os))
    (k : ∀ h' rr rl os', co rl = co rs → rl.length ≤ rs.length → (∀ x t, rl = x :: t → x ≠ 0) → (rr, bl rl) ∈ os' → (∀ p ∈ os, p ∈ os') →
      Fm B L h' ((Str.ofString "rest", .ref rr) :: (Str.ofString "quotient", .ref r1) :: (Str.ofString "lower", .ref aL) :: (Str.ofString "upper", .ref aU) :: nmT tw pr em cm) (c1 :: c2 :: os') → Q .next h') :
    W w A (exec (stN (whB (stN lawB 14)) 2) (lenv L a cd)) Q h := by
  refine rWhile (fun n h' => ∃ rr rl os', n = rl.length ∧ co rl = co rs ∧ rl.length ≤ rs.length ∧ (rr, bl rl) ∈ os' ∧ (∀ p ∈ os, p ∈ os') ∧
    Fm B L h' ((Str.ofString "rest", .ref rr) :: (Str.ofString "quotient", .ref r1) :: (Str.ofString "lower", .ref aL) :: (Str.ofString "upper", .ref aU) :: nmT tw pr em cm) (c1 :: c2 :: os')) rs.length ?_ ⟨r2, rs, os, rfl, rfl, Nat.le_refl _, hb, fun _ e => e, F⟩
  rintro n h' ⟨rr, rl, os', rfl, hc, hl, hm, hsub, F⟩
  have G := G₀.ext F.keep
  have hr := F.get (.tail _ (.tail _ hm))
  refine rTAnd <| rTCmp <| rLen G.nm <| rLocal F rfl <| wLenBa hr (by omega) fun t1 => rInt fun t2 => wGt <| rTruthB ?_
  cases rl with
  | nil => exact itF (by decide) (itF rfl (k h' rr [] os' hc hl (fun x t e => by cases e) hm hsub F))
  | cons x t =>
    refine itT (by simp) ?_
    refine rTAnd <| rTCmp <| rSubBa <| rLocal F rfl <| rInt fun t3 => ⟨_, _, rfl, hr, wBaGet hr (by decide) (by decide) (x := x) rfl fun t4 => rInt fun t5 => wEq <| rTruthB ?_⟩
    by_cases x0 : x = 0
    · subst x0
      refine itT (by decide) <| rTAnd0 <| itT rfl ?_
      refine rCons <| rAssign <| rSubBa <| rLocal F rfl <| rSlice <| rPart <| rInt fun t6 => rPart0 fun sl h₁ x1 hsl => ?_
      have F := F.ext x1
      have hr := F.get (.tail _ (.tail _ hm))
      refine ⟨_, _, rfl, hr, wBaSlice hr (by omega) hsl (.int _ _) .none fun r3 h₂ x2 f2 e2 => ?_⟩
      have c3 : cut (0 :: t) (some 1) none = t := cut_from (0 :: t) 1
      rw [c3] at e2
      have F := (F.new x2 f2 e2).sink1
      refine rStore F fun h₃ F => rNil ⟨t.length, by simp, r3, t, (r3, bl t) :: os', rfl, by rw [← hc, co_zero_cons], by simp at hl; omega, .head _, fun p hp => .tail _ (hsub p hp), F.pick _ ⟨rfl, rfl, rfl, rfl, rfl, rfl, rfl, rfl, trivial⟩⟩
    · refine itF (u8_ne x0) (itF rfl (k h' rr (x :: t) os' hc hl (fun y s e => by cases e; exact x0) hm hsub F))

/-- the two new multipliers -/
theorem lawRow {e : ES} {A' B' : PS} {n : Nat} {tw pr em cm r1 rr ro : Addr} {qt rl : List UInt8} {oF oK oR : Obj} {vK : Option Value} {os : List (Addr × Obj)} (G₀ : Gl d B) (o : Ok 2 A) (hn : n ≤ 20) (hK : oK.data = .cell vK) (E : ESok e os) (x : EI A' B' n e.U e.su e.tu e.L e.sl e.tl)
    (hq : (r1, bl qt) ∈ os) (hql : qt.length = e.U.length - (e.L.length - 1)) (loR : LO [.ref rr] oR)
    (F : Fm B L h ((Str.ofString "row", .ref ro) :: (Str.ofString "rest", .ref rr) :: (Str.ofString "quotient", .ref r1) :: (Str.ofString "lower", .ref e.aL) :: (Str.ofString "upper", .ref e.aU) :: nmT tw pr em cm) ((L + 2, oK) :: (ro, oR) :: (L + 3, oF) :: os))
    (k : ∀ h' oK' vK' oR' n1 n2 NS NT, oK'.data = .cell vK' → LO [.ref rr, .ref n1, .ref n2] oR' → NS.length = max e.su.length (qt.length + e.sl.length - 1) → NT.length = max e.tu.length (qt.length + e.tl.length - 1) →
      co NS = padd (co e.su) (pmul (co qt) (co e.sl)) → co NT = padd (co e.tu) (pmul (co qt) (co e.tl)) →
      Fm B L h' ((Str.ofString "row", .ref ro) :: (Str.ofString "rest", .ref rr) :: (Str.ofString "quotient", .ref r1) :: (Str.ofString "lower", .ref e.aL) :: (Str.ofString "upper", .ref e.aU) :: nmT tw pr em cm) ((L + 2, oK') :: (ro, oR') :: (L + 3, oF) :: (n1, bl NS) :: (n2, bl NT) :: os) → Q .next h') :
    W w A (exec (stN (whB (stN lawB 14)) 6) (lenv L a cd)) Q h := by
  have hh := o.handled
  have lU : e.U.length ≤ n := by have := x.zsl; have := x.psl; omega
  have lL := x.le
  have pL : 0 < e.L.length := by obtain ⟨t, et⟩ := x.hL; rw [et]; simp
  refine rFor <| rList <| rEl <| rInt fun u1 => rEl <| rInt fun u2 => rEl0 ⟨by simp, ?_⟩
  have F := F.push { cls := .type "list", data := .seq [Value.int 1 u1, Value.int 2 u2].toArray }
  generalize h.objs.size = al at F ⊢
  refine wIterList ((LO.new _).is (F.get (.head _))) fun I h₁ x1 hI eI => ?_
  have F := F.new x1 hI eI
  have F : Fm B L h₁ ((Str.ofString "row", .ref ro) :: (Str.ofString "rest", .ref rr) :: (Str.ofString "quotient", .ref r1) :: (Str.ofString "lower", .ref e.aL) :: (Str.ofString "upper", .ref e.aU) :: nmT tw pr em cm) ((L + 2, oK) :: (I, { cls := .type "list_iterator", data := .fields #[.ref al, .int 0 0] }) :: (al, { cls := .type "list", data := .seq [Value.int 1 u1, Value.int 2 u2].toArray }) :: (ro, oR) :: (L + 3, oF) :: os) :=
    F.perm (List.perm_middle (l₁ := [(I, _), (al, _)]) (a := (L + 2, oK)))
  refine rForFmC (cc := L + 2) (σ := List (Addr × List UInt8) × Obj) (It.list hh al [Value.int 1 u1, Value.int 2 u2])
    (fun i c => c.1.length = i ∧ LO (.ref rr :: c.1.map fun p => Value.ref p.1) c.2 ∧ ∀ j p, c.1[j]? = some p → p.2.length = max (if j = 0 then e.su else e.tu).length (qt.length + (if j = 0 then e.sl else e.tl).length - 1) ∧ co p.2 = padd (co (if j = 0 then e.su else e.tu)) (pmul (co qt) (co (if j = 0 then e.sl else e.tl))))
    (fun c => ((Str.ofString "row", .ref ro) :: (Str.ofString "rest", .ref rr) :: (Str.ofString "quotient", .ref r1) :: (Str.ofString "lower", .ref e.aL) :: (Str.ofString "upper", .ref e.aU) :: nmT tw pr em cm))
    (fun c => (al, { cls := .type "list", data := .seq [Value.int 1 u1, Value.int 2 u2].toArray }) :: (ro, c.2) :: (L + 3, oF) :: (pob c.1 ++ os))
    (fun i c h o oc _ F => (LO.new _).is (F.get (.tail _ (.tail _ (.head _))))) ([], oR) hK F ⟨rfl, rfl⟩ ⟨rfl, loR, by intro j p e; simp at e⟩ ?_ ?_
  · rintro i ⟨ps, oR⟩ h₂ v oI ok hi ⟨hpl, loR, hps⟩ hv hK F
    have hpl : ps.length = i := hpl
    have loR : LO (.ref rr :: ps.map fun p => Value.ref p.1) oR := loR
    have F : Fm B L h₂ ((Str.ofString "row", .ref ro) :: (Str.ofString "rest", .ref rr) :: (Str.ofString "quotient", .ref r1) :: (Str.ofString "lower", .ref e.aL) :: (Str.ofString "upper", .ref e.aU) :: nmT tw pr em cm) ((L + 2, ok) :: (I, oI) :: (al, { cls := .type "list", data := .seq [Value.int 1 u1, Value.int 2 u2].toArray }) :: (ro, oR) :: (L + 3, oF) :: (pob ps ++ os)) := F
    have up : ∀ {p : Addr × Obj}, p ∈ os → ∀ {y1 y2 y3 y4 y5 : Addr × Obj}, p ∈ y1 :: y2 :: y3 :: y4 :: y5 :: (pob ps ++ os) := fun hp => .tail _ (.tail _ (.tail _ (.tail _ (.tail _ (List.mem_append.mpr (.inr hp))))))
    obtain ⟨tv, au, al', lu, ll, rfl, hu, hl, mu, ml, elu, ell, pu, pl⟩ : ∃ tv au al' lu ll, v = .int ((i + 1 : Nat) : Int) tv ∧ [Value.ref e.u0, .ref e.u1, .ref e.u2][i + 1]? = some (.ref au) ∧ [Value.ref e.l0, .ref e.l1, .ref e.l2][i + 1]? = some (.ref al') ∧ (au, bl lu) ∈ os ∧ (al', bl ll) ∈ os ∧
        (if i = 0 then e.su else e.tu) = lu ∧ (if i = 0 then e.sl else e.tl) = ll ∧ lu.length ≤ n ∧ (0 < ll.length ∧ ll.length ≤ n) := by
      have z1 := x.zsl; have z2 := x.ztl; have z3 := x.zsu; have z4 := x.ztu; have q1 := x.psl; have q2 := x.ptl
      have q3 : 0 < e.L.length := by obtain ⟨t, et⟩ := x.hL; rw [et]; simp
      have q4 : 0 < e.U.length := by omega
      rcases (by simp at hi; omega : i = 0 ∨ i = 1) with rfl | rfl
      · simp at hv
        exact ⟨u1, e.u1, e.l1, e.su, e.sl, hv.symm, rfl, rfl, E.mu1, E.ml1, rfl, rfl, by omega, q1, by omega⟩
      · simp at hv
        exact ⟨u2, e.u2, e.l2, e.tu, e.tl, hv.symm, rfl, rfl, E.mu2, E.ml2, rfl, rfl, by omega, q2, by omega⟩
    have G := G₀.ext F.keep
    have i2 : i < 2 := by simpa using hi
    refine rCons <| rExpr <| rAppend <| rLocal F rfl ⟨_, _, _, rfl, F.get (.tail _ (.tail _ (.tail _ (.head _)))), loR, ?_⟩
    refine rOwn2 (i := 8) G <| rSubTO <| rLocal F rfl <| rCell (F.get (a := L + 2) (.head _)) hK ⟨_, _, _, _, _, _, rfl, F.get (up E.mU), E.tU, rfl, by omega, by omega, by rw [Int.toNat_natCast]; exact hu, ?_⟩
    refine rOwn2 (i := 9) G <| rLocal F rfl <| rSubTO <| rLocal F rfl <| rCell (F.get (a := L + 2) (.head _)) hK ⟨_, _, _, _, _, _, rfl, F.get (up E.mL), E.tL, rfl, by omega, by omega, by rw [Int.toNat_natCast]; exact hl, G.pmul, ?_⟩
    have q0 : 0 < qt.length := by omega
    refine gf_poly_mul_W G (o.less (by decide)) (F.get (up hq)) (F.get (up ml)) (by omega) (by omega) q0 pl.1 fun m1 h₃ M1 x3 f3 e3 lM cM => ?_
    have F3 := F.new x3 f3 e3
    have G := G₀.ext F3.keep
    refine ⟨G.add, gf_poly_add_W G (o.less (by decide)) (F3.get (.tail _ (up mu))) (F3.get (.head _)) (by omega) (by omega) fun m2 h₄ M2 x4 f4 e4 lM2 cM2 => ?_⟩
    have F := F3.new x4 f4 e4
    refine wAppend (F.get (.tail _ (.tail _ (.tail _ (.tail _ (.tail _ (.head _)))))) ) loR (by simp; omega) fun h₅ o5 sb5 e5 lo5 => rNil ?_
    have F := F.turnAt (l₁ := [_, _, _, _, _]) sb5 e5
    have F : Fm B L h₅ ((Str.ofString "row", .ref ro) :: (Str.ofString "rest", .ref rr) :: (Str.ofString "quotient", .ref r1) :: (Str.ofString "lower", .ref e.aL) :: (Str.ofString "upper", .ref e.aU) :: nmT tw pr em cm) ((m2, bl M2) :: ([(L + 2, ok), (I, oI), (al, { cls := .type "list", data := .seq [Value.int 1 u1, Value.int 2 u2].toArray }), (ro, o5), (L + 3, oF)] ++ (pob ps ++ os))) :=
      F.sub _ (.cons_cons _ (.cons _ (.refl _)))
    refine ⟨(ps ++ [(m2, M2)], o5), ok, _, hK, ⟨by simp [hpl], by simpa using lo5, fun j p ep => ?_⟩, ?_⟩
    · by_cases hj : j < ps.length
      · have ep : (ps ++ [(m2, M2)])[j]? = some p := ep
        rw [List.getElem?_append_left hj] at ep
        exact hps j p ep
      · have ep : (ps ++ [(m2, M2)])[j]? = some p := ep
        rw [List.getElem?_append_right (by omega)] at ep
        have j0 : j - ps.length = 0 := by
          rcases hz : j - ps.length with _ | m
          · rfl
          · rw [hz] at ep; simp at ep
        rw [j0] at ep
        simp at ep
        subst ep
        rw [show j = i by omega, elu, ell]
        exact ⟨by rw [lM2, lM], by rw [cM2, cM]⟩
    · refine F.perm ?_
      show List.Perm _ ([(L + 2, ok), (I, oI), (al, { cls := .type "list", data := .seq [Value.int 1 u1, Value.int 2 u2].toArray }), (ro, o5), (L + 3, oF)] ++ (pob (ps ++ [(m2, M2)]) ++ os))
      rw [← List.append_assoc]
      refine List.perm_middle.symm.trans ?_
      simp [pob]
  · rintro ⟨ps, oR⟩ h₂ ok v hok ⟨hpl, loR, hps⟩ F
    have hpl : ps.length = 2 := hpl
    match ps, hpl with
    | [(n1, NS), (n2, NT)], _ =>
      have F : Fm B L h₂ ((Str.ofString "row", .ref ro) :: (Str.ofString "rest", .ref rr) :: (Str.ofString "quotient", .ref r1) :: (Str.ofString "lower", .ref e.aL) :: (Str.ofString "upper", .ref e.aU) :: nmT tw pr em cm) ((L + 2, ok) :: (al, { cls := .type "list", data := .seq [Value.int 1 u1, Value.int 2 u2].toArray }) :: (ro, oR) :: (L + 3, oF) :: (n1, bl NS) :: (n2, bl NT) :: os) := F
      have h0 := hps 0 (n1, NS) rfl
      have h1 := hps 1 (n2, NT) rfl
      exact k h₂ ok v oR n1 n2 NS NT hok loR h0.1 h1.1 h0.2 h1.2 (F.sub _ (.cons_cons _ (.cons _ (.refl _))))
end
end
end Mine

/-! part MLaw5b -/
namespace Mine
noncomputable section
open PySem PySem.W PyProof.Rows
open Sem (wp)
theorem len3 {α : Type} {l : List α} (h : l.length = 3) : ∃ a b c, l = [a, b, c] := by
  match l, h with
  | [a, b, c], _ => exact ⟨a, b, c, rfl⟩

section
variable {w : World} {A : Around} {h B : Heap} {d : Ad} {L a : Addr} {cd : Value} {Q : Flow → Heap → Prop}

/-- the scaled row -/
theorem lawScale {aL aU tw pr em cm ro r1 rr n1 n2 : Addr} {c : UInt8} {tc : Tok} {rl NS NT : List UInt8} {oF oR oK : Obj} {os : List (Addr × Obj)} (G₀ : Gl d B) (o : Ok 2 A) (hF : oF.data = .cell (some (.int (c.toNat : Int) tc))) (loR : LO [.ref rr, .ref n1, .ref n2] oR)
    (m0 : (rr, bl rl) ∈ os) (m1 : (n1, bl NS) ∈ os) (m2 : (n2, bl NT) ∈ os) (mR : (ro, oR) ∈ os) (z0 : rl.length < 1000) (z1 : NS.length < 1000) (z2 : NT.length < 1000)
    (F : Fm B L h ((Str.ofString "upper", .ref aL) :: (Str.ofString "row", .ref ro) :: (Str.ofString "rest", .ref rr) :: (Str.ofString "quotient", .ref r1) :: (Str.ofString "lower", .ref aL) :: (Str.ofString "upper", .ref aU) :: nmT tw pr em cm) ((L + 3, oF) :: (L + 2, oK) :: os))
    (k : ∀ h' D oD q0 q1 q2 os', LO [.ref q0, .ref q1, .ref q2] oD → (D, oD) ∈ os' → (q0, bl (rl.map fun y => gmul y c)) ∈ os' → (q1, bl (NS.map fun y => gmul y c)) ∈ os' → (q2, bl (NT.map fun y => gmul y c)) ∈ os' → (∀ p ∈ os, p ∈ os') →
      Fm B L h' ((Str.ofString "lower", .ref D) :: (Str.ofString "upper", .ref aL) :: nmT tw pr em cm) ((L + 3, oF) :: (L + 2, oK) :: os') → Q .next h') :
    W w A (exec (stN (whB (stN lawB 14)) 8) (lenv L a cd)) Q h := by
  have hh := o.handled
  refine rAssignComp2 (cl := [(Str.ofString "factor", L + 3)]) rfl (by decide +kernel) rfl (by decide +kernel) rfl rfl ?_
  refine rLocal F rfl ?_
  refine wIterList (loR.is (F.get (.tail _ (.tail _ mR)))) fun I h' ex hI eI => ?_
  have lk : ∀ (i : Nat) (v : Value), [Value.ref rr, .ref n1, .ref n2][i]? = some v → ∃ (a : Addr) (l : List UInt8), v = Value.ref a ∧ [rl, NS, NT][i]? = some l ∧ (a, bl l) ∈ os ∧ l.length < 1000 := by
    intro i v e
    match i, e with
    | 0, e => simp at e; exact ⟨rr, rl, e.symm, rfl, m0, z0⟩
    | 1, e => simp at e; exact ⟨n1, NS, e.symm, rfl, m1, z1⟩
    | 2, e => simp at e; exact ⟨n2, NT, e.symm, rfl, m2, z2⟩
    | _ + 3, e => simp at e
  have hl := loR.is (F.get (.tail _ (.tail _ mR)))
  have G := G₀.ext F.keep
  refine ⟨{ I := I, oI := _, n := 3, val := _, st := _, S := _, Inv := fun i ys ns => ys = ns.reverse.map (fun p => Value.ref p.1) ∧ ns.reverse.map (·.2) = ([rl, NS, NT].take i).map fun l => bl (l.map fun y => gmul y c), eit := rfl, iter := It.list hh ro [Value.ref rr, .ref n1, .ref n2], self := selfList, ext := ex, new := hI, at0 := eI, st0 := ⟨rfl, rfl⟩, side := fun h e => (let ⟨o, a, b⟩ := hl; ⟨o, e _ _ a, b⟩), inv0 := ⟨rfl, rfl⟩, size := by decide, turn := ?_, fin := ?_ }, trivial⟩
  · rintro i ys ns v C h₁ hi ⟨h1, h2⟩ hv F'
    obtain ⟨ai, l, rfl, el, ml, zl⟩ := lk i v hv
    have G' := G.ext F'.keep
    refine rOwn2 (i := 7) G' <| rLocal F' rfl <| rCell (F'.base (F.get (a := L + 3) (.head _))) hF ⟨G'.scale, gf_poly_scale_W G' o (F'.base (F.get (.tail _ (.tail _ ml)))) zl fun r h₂ x2 f2 e2 => ⟨x2, (r, bl (l.map fun y => gmul y c)), e2, f2, ?_, ?_⟩⟩
    · rw [h1]; simp
    · rw [List.reverse_cons, List.map_append, h2, List.take_add_one, el]; simp
  · rintro D C h₁ oD oC ys ns Fi lo eC ⟨h1, h2⟩
    have F := F.merge Fi eC
    have n3 : ns.reverse.length = 3 := by
      have := congrArg List.length h2; simpa using this
    obtain ⟨p0, p1, p2, hns⟩ := len3 n3
    have hns' : ns = [p2, p1, p0] := by
      have := congrArg List.reverse hns; simpa using this
    subst hns'
    have h1 : ys = [Value.ref p0.1, .ref p1.1, .ref p2.1] := h1
    have h2 : [p0.2, p1.2, p2.2] = [bl (rl.map fun y => gmul y c), bl (NS.map fun y => gmul y c), bl (NT.map fun y => gmul y c)] := h2
    have e0 := (List.cons.inj h2).1
    have e1 := (List.cons.inj (List.cons.inj h2).2).1
    have e2 := (List.cons.inj (List.cons.inj (List.cons.inj h2).2).2).1
    refine rStore F fun h₂ F => ⟨F.get (.head _), fun h₃ sb => ?_⟩
    have F := F.drop sb.extBut
    have F := Fm.sink (ns := [(D, oD), p2, p1, p0]) F
    refine k h₃ D oD p0.1 p1.1 p2.1 ((D, oD) :: p2 :: p1 :: p0 :: os) (h1 ▸ lo) (.head _) ?_ ?_ ?_ (fun p hp => .tail _ (.tail _ (.tail _ (.tail _ hp)))) (F.pick _ ⟨rfl, rfl, rfl, rfl, rfl, rfl, trivial⟩)
    · rw [← e0]; exact .tail _ (.tail _ (.tail _ (.head _)))
    · rw [← e1]; exact .tail _ (.tail _ (.head _))
    · rw [← e2]; exact .tail _ (.head _)

theorem ns_lt {su q s U L n : Nat} (z3 : su + L ≤ n + 1) (hq : q = U - (L - 1)) (z1 : s + U ≤ n + 1) (hn : n ≤ 20) : max su (q + s - 1) < 1000 := by omega
theorem u_le {U s n : Nat} (z : s + U ≤ n + 1) (p : 0 < s) : U ≤ n := by omega
/-- upper, lower and Euclid's way -/
theorem law5 {cm em pr p0 p1 tw : Addr} {oc oe opr otw oK oF : Obj} {vK vF : Option Value} {fl gl P0 P1 : List UInt8} (G₀ : Gl d B) (o : Ok 2 A) (hKd : oK.data = .cell vK) (hFd : oF.data = .cell vF) (lopr : LO [.ref p0, .ref p1] opr)
    (Q0 : Pl fl P0) (Q1 : Pl gl P1) (hfg : gl.length ≤ fl.length) (hf5 : fl.length ≤ 5)
    (F : Fm B L h (nmT tw pr em cm) [(L + 2, oK), (pr, opr), (p0, bl P0), (p1, bl P1), (tw, otw), (cm, oc), (em, oe), (L + 3, oF)])
    (k : ∀ h' (e : ES) os, EI (prodR fl) (prodR gl) (fl.length + 1) e.U e.su e.tu e.L e.sl e.tl → (e.L.length = 1 ∨ ∃ q : List UInt8, co e.U = pmul (co q) (co e.L)) → ESok e os → (∀ p ∈ [(pr, opr), (p0, bl P0), (p1, bl P1), (tw, otw), (cm, oc), (em, oe)], p ∈ os) →
      Fm B L h' ((Str.ofString "lower", .ref e.aL) :: nmT tw pr em cm) os → W w A (execs (lawB.drop 15) (lenv L a cd)) Q h') :
    W w A (execs (lawB.drop 12) (lenv L a cd)) Q h := by
  have hh := o.handled
  have G := G₀.ext F.keep
  obtain ⟨T0, eP0, -⟩ := monic_list (l := P0) (n := fl.length) Q0.len (by rw [Q0.co]; exact (prodR_monic fl).1)
  obtain ⟨T1, eP1, -⟩ := monic_list (l := P1) (n := gl.length) Q1.len (by rw [Q1.co]; exact (prodR_monic gl).1)
  -- upper
  have mk : ∀ {h : Heap} {bs : List (Str × Value)} {os : List (Addr × Obj)} {n : Int} {x : UInt8} {p p' p'' pos : Pos} {kk} {Q : Value → Heap → Prop}, (x.toNat : Int) = n → Fm B L h bs os → (∀ q h' (l : Addr × Obj), h'.get? q = some (bl [x]) → Fm B L h' bs ((q, bl [x]) :: l :: os) → Q (.ref q) h') →
      W w A (eval (.Call (.Name (Str.ofString "bytearray") p) [.List [.Constant (.int n) kk p'] p''] [] pos) (lenv L a cd)) Q h := by
    intro h bs os n x p p' p'' pos kk Q hn F y
    have G := G₀.ext F.keep
    refine rB1 G <| rList <| rEl <| rInt fun u1 => rEl0 ⟨by simp, ?_⟩
    have F := F.push { cls := .type "list", data := .seq [Value.int n u1].toArray }
    exact ba_single (x := x) (F.get (.head _)) (LO.new _) hn.symm fun q h' ex f e => y q h' _ e (F.new ex f e)
  refine rCons <| rAssign <| rTuple <| rEl <| rSubList <| rLocal F rfl <| rInt fun u1 => ⟨_, _, rfl, lopr.is (F.get (by repeat (first | exact .head _ | apply List.Mem.tail))), wListGet (lopr.is (F.get (by repeat (first | exact .head _ | apply List.Mem.tail)))) (by decide) (by decide) rfl ?_⟩
  refine rEl <| mk (x := 1) rfl F fun a1 h₁ l1 g1 F => rEl <| mk (x := 0) rfl F fun a2 h₂ l2 g2 F => rEl0 ⟨by simp, ?_⟩
  have F := F.push { cls := .type "tuple", data := .seq [Value.ref p0, Value.ref a1, Value.ref a2].toArray }
  generalize h₂.objs.size = aU at F ⊢
  refine rStore F fun h₃ F => ?_
  refine rCons <| rAssign <| rTuple <| rEl <| rSubList <| rLocal F rfl <| rInt fun u1 => ⟨_, _, rfl, lopr.is (F.get (by repeat (first | exact .head _ | apply List.Mem.tail))), wListGet (lopr.is (F.get (by repeat (first | exact .head _ | apply List.Mem.tail)))) (by decide) (by decide) rfl ?_⟩
  refine rEl <| mk (x := 0) rfl F fun b1 h₄ l3 g3 F => rEl <| mk (x := 1) rfl F fun b2 h₅ l4 g4 F => rEl0 ⟨by simp, ?_⟩
  have F := F.push { cls := .type "tuple", data := .seq [Value.ref p1, Value.ref b1, Value.ref b2].toArray }
  generalize h₅.objs.size = aL at F ⊢
  refine rStore F fun h₆ F => ?_
  have F : ∃ os, Fm B L h₆ ((Str.ofString "lower", .ref aL) :: (Str.ofString "upper", .ref aU) :: nmT tw pr em cm) ((L + 3, oF) :: (L + 2, oK) :: os) ∧ (∀ p ∈ [(pr, opr), (p0, bl P0), (p1, bl P1), (tw, otw), (cm, oc), (em, oe)], p ∈ os) ∧
      ESok ⟨aU, p0, a1, a2, aL, p1, b1, b2, { cls := .type "tuple", data := .seq [Value.ref p0, Value.ref a1, Value.ref a2].toArray }, { cls := .type "tuple", data := .seq [Value.ref p1, Value.ref b1, Value.ref b2].toArray }, P0, [1], [0], P1, [0], [1]⟩ os := by
    refine ⟨_, F.perm ((List.perm_middle (l₁ := [_, _, _, _, _, _, _, _, _, _]) (l₂ := _)).trans ((List.Perm.cons _ (List.perm_middle (l₁ := [_, _, _, _, _, _, _, _, _, _, _, _, _, _, _, _]) (l₂ := []))).trans (.swap ..))), ?_, ?_⟩
    · intro p hp; simp at hp ⊢; rcases hp with rfl | rfl | rfl | rfl | rfl | rfl <;> simp
    · exact ⟨.inl rfl, .inl rfl, by simp, by simp, by simp, by simp, by simp, by simp, by simp, by simp⟩
  obtain ⟨os, F, hrest, E⟩ := F
  have EI0 : EI (prodR fl) (prodR gl) (fl.length + 1) P0 [1] [0] P1 [0] [1] := EI.start ⟨T0, eP0⟩ ⟨T1, eP1⟩ (by rw [Q0.len, Q1.len]; exact Nat.succ_le_succ hfg) Q0.co Q1.co Q0.len
  refine rCons <| rWhile (fun n h' => ∃ (e : ES) (os : List (Addr × Obj)) (oK oF : Obj) (vK vF : Option Value), n = e.L.length ∧ EI (prodR fl) (prodR gl) (fl.length + 1) e.U e.su e.tu e.L e.sl e.tl ∧ ESok e os ∧ (∀ p ∈ [(pr, opr), (p0, bl P0), (p1, bl P1), (tw, otw), (cm, oc), (em, oe)], p ∈ os) ∧
      oK.data = .cell vK ∧ oF.data = .cell vF ∧ Fm B L h' ((Str.ofString "lower", .ref e.aL) :: (Str.ofString "upper", .ref e.aU) :: nmT tw pr em cm) ((L + 3, oF) :: (L + 2, oK) :: os)) _ ?_ ⟨_, os, oK, oF, vK, vF, rfl, EI0, E, hrest, hKd, hFd, F⟩
  clear F E EI0 hrest
  rintro n h₇ ⟨e, os, oK, oF, vK, vF, rfl, x, E, hrest, hKd, hFd, F⟩
  have G := G₀.ext F.keep
  have U6 : e.U.length ≤ 6 := Nat.le_trans (u_le x.zsl x.psl) (Nat.succ_le_succ hf5)
  have L6 : e.L.length ≤ 6 := Nat.le_trans x.le U6
  have pL : 0 < e.L.length := by obtain ⟨t, et⟩ := x.hL; rw [et]; simp
  have gt : ∀ {p : Addr × Obj}, p ∈ os → p ∈ (L + 3, oF) :: (L + 2, oK) :: os := fun hp => .tail _ (.tail _ hp)
  refine rTCmp <| rLen G.nm <| rSubTO <| rLocal F rfl <| rInt fun t1 => ⟨_, _, _, _, _, _, rfl, F.get (gt E.mL), E.tL, rfl, by decide, by decide, rfl, wLenBa (F.get (gt E.ml0)) (Nat.lt_of_le_of_lt L6 (by decide)) fun t2 => rInt fun t3 => wGt <| rTruthB ?_⟩
  by_cases h1 : e.L.length = 1
  · refine itF (by rw [h1]; rfl) ?_
    exact k h₇ e ((L + 3, oF) :: (L + 2, oK) :: os) x (.inl h1) (E.mono fun p hp => gt hp) (fun p hp => gt (hrest p hp)) (F.pick _ ⟨rfl, rfl, rfl, rfl, rfl, trivial⟩)
  refine itT (by simp; omega) ?_
  obtain ⟨dv, eL⟩ := x.hL
  have ldv : dv.length + 1 = e.L.length := by rw [eL]; simp
  have dp : 0 < dv.length := Nat.pos_of_ne_zero fun q => h1 (by rw [← ldv, q])
  have d5 : dv.length ≤ 5 := Nat.le_of_succ_le_succ (Nat.le_trans (Nat.le_of_eq ldv) L6)
  -- the division
  refine rCons <| rAssignTup (rOwn2 (i := 10) G <| rSubTO <| rLocal F rfl <| rInt fun t1 => ⟨_, _, _, _, _, _, rfl, F.get (gt E.mU), E.tU, rfl, by decide, by decide, rfl, rSubTO <| rLocal F rfl <| rInt fun t2 => ⟨_, _, _, _, _, _, rfl, F.get (gt E.mL), E.tL, rfl, by decide, by decide, rfl, G.div, ?_⟩⟩) rfl
  refine gf_poly_div_W (dv := dv) G o (F.get (gt E.mu0)) (eL ▸ F.get (gt E.ml0)) (Nat.lt_of_le_of_lt U6 (by decide)) (Nat.lt_of_lt_of_le (Nat.lt_of_succ_le (Nat.le_of_eq ldv)) x.le) dp fun r r1 r2 h₈ qt rs x8 f1 f2 er e1 e2 lq lr ce => ?_
  obtain ⟨ns, F, n1, n2⟩ := F.two x8 f1 f2 e1 e2
  have F := F.sink
  refine wUnpack2 hh er fun h₉ x9 => ?_
  have F := F.ext x9
  refine rAssignN (rStore F fun h₁₀ F => rAssignN (rStore F fun h₁₁ F => ?_))
  have E1 : ESok e (ns ++ os) := E.mono fun p hp => List.mem_append.mpr (.inr hp)
  have hrest1 : ∀ p ∈ [(pr, opr), (p0, bl P0), (p1, bl P1), (tw, otw), (cm, oc), (em, oe)], p ∈ ns ++ os := fun p hp => List.mem_append.mpr (.inr (hrest p hp))
  have n1 : (r1, bl qt) ∈ ns ++ os := List.mem_append.mpr (.inl n1)
  have n2 : (r2, bl rs) ∈ ns ++ os := List.mem_append.mpr (.inl n2)
  generalize ns ++ os = os1 at F E1 hrest1 n1 n2
  have gt1 : ∀ {p : Addr × Obj}, p ∈ os1 → p ∈ (L + 3, oF) :: (L + 2, oK) :: os1 := fun hp => .tail _ (.tail _ hp)
  have G := G₀.ext F.keep
  -- its length
  refine rCons <| rIf <| rTCmp <| rLen G.nm <| rLocal F rfl <| wLenBa (F.get (gt1 n2)) (Nat.lt_of_le_of_lt (Nat.le_trans (Nat.le_of_eq lr) d5) (by decide)) fun t4 => rBin <| rLen G.nm <| rSubTO <| rLocal F rfl <| rInt fun t1 => ⟨_, _, _, _, _, _, rfl, F.get (gt1 E1.mL), E1.tL, rfl, by decide, by decide, rfl, wLenBa (F.get (gt1 E1.ml0)) (Nat.lt_of_le_of_lt L6 (by decide)) fun t2 => rInt fun t3 => wSub fun t5 => wNe <| rTruthB ?_⟩
  refine itF ?_ (rNil ?_)
  · have : ((e.L.length : Nat) : Int) - 1 = (rs.length : Int) := by rw [lr, ← ldv, Int.natCast_add]; exact Int.add_sub_cancel _ _
    rw [this]; exact bne_self_eq_false _
  -- the noughts
  refine rCons <| lawRest G₀ (Nat.lt_of_le_of_lt (Nat.le_trans (Nat.le_of_eq lr) d5) (by decide)) n2 F fun h₁₂ rr rl os2 hc hl hz hm hsub F => ?_
  have E2 := E1.mono hsub
  have hl5 : rl.length ≤ 5 := Nat.le_trans hl (Nat.le_trans (Nat.le_of_eq lr) d5)
  have hrest2 : ∀ p ∈ [(pr, opr), (p0, bl P0), (p1, bl P1), (tw, otw), (cm, oc), (em, oe)], p ∈ os2 := fun p hp => hsub p (hrest1 p hp)
  have n1 := hsub _ n1
  have gt2 : ∀ {p : Addr × Obj}, p ∈ os2 → p ∈ (L + 3, oF) :: (L + 2, oK) :: os2 := fun hp => .tail _ (.tail _ hp)
  have G := G₀.ext F.keep
  have ce' : co e.U = padd (pmul (co qt) (co e.L)) (co rl) := by rw [hc, eL]; exact ce
  refine rCons <| rIf <| rTCmp <| rLen G.nm <| rLocal F rfl <| wLenBa (F.get (gt2 hm)) (Nat.lt_of_le_of_lt hl5 (by decide)) fun t6 => rInt fun t7 => wEq <| rTruthB ?_
  match rl, hm, hc, hl, hl5, hz, ce', F with
  | [], hm, hc, hl, hl5, hz, ce', F =>
    refine itT (by decide) (rCons (rBreak ?_))
    refine k h₁₂ e ((L + 3, oF) :: (L + 2, oK) :: os2) x (.inr ⟨qt, ?_⟩) (E2.mono fun p hp => gt2 hp) (fun p hp => gt2 (hrest2 p hp)) (F.pick _ ⟨rfl, rfl, rfl, rfl, rfl, trivial⟩)
    rw [ce']
    exact padd_zero _
  | r0 :: rt, hm, hc, hl, hl5, hz, ce', F =>
    refine itF (by simp; omega) (rNil ?_)
    have r00 := hz r0 rt rfl
    have n20 : fl.length + 1 ≤ 20 := Nat.le_trans (Nat.succ_le_succ hf5) (by decide)
    have lq' : qt.length = e.U.length - (e.L.length - 1) := by rw [lq, ← ldv, Nat.add_sub_cancel]
    -- factor
    refine rCons <| rAssign <| rOwn1 (i := 4) G <| rSubBa <| rLocal F rfl <| rInt fun t8 => ⟨_, _, rfl, F.get (gt2 hm), wBaGet (F.get (gt2 hm)) (by decide) (by decide) (x := r0) rfl fun t9 => ⟨G.inv, gf_inverse_W G (o.less (by decide)) fun h₁₃ t10 x13 => ?_⟩⟩
    have F := F.ext x13
    refine rStoreC F hFd fun h₁₄ oF2 eF2 F => ?_
    -- row
    refine rCons <| rAssign <| rList <| rEl <| rLocal F rfl <| rEl0 ⟨by simp, ?_⟩
    have F := F.push { cls := .type "list", data := .seq [Value.ref rr].toArray }
    generalize h₁₄.objs.size = ro at F ⊢
    refine rStore F fun h₁₅ F => ?_
    have F := F.perm (List.perm_middle (l₁ := [(ro, _), (L + 3, oF2)]) (a := (L + 2, oK)) (l₂ := os2))
    refine rCons <| lawRow (rl := []) (qt := qt) G₀ o n20 hKd E2 x n1 lq' (LO.new _) F fun h₁₆ oK2 vK2 oR m1 m2 NS NT hK2 loR lNS lNT cNS cNT F => ?_
    -- upper = lower
    have F := F.perm (os' := (L + 3, oF2) :: (L + 2, oK2) :: (ro, oR) :: (m1, bl NS) :: (m2, bl NT) :: os2) ((List.perm_middle (l₁ := [(L + 2, oK2), (ro, oR)]) (a := (L + 3, oF2))))
    refine rCons <| rAssign <| rLocal F rfl <| rStore F fun h₁₇ F => ?_
    refine rCons <| lawScale (c := ginv r0) (rl := r0 :: rt) (NS := NS) (NT := NT) G₀ o eF2 loR (.tail _ (.tail _ (.tail _ hm))) (.tail _ (.head _)) (.tail _ (.tail _ (.head _))) (.head _) (Nat.lt_of_le_of_lt hl5 (by decide)) (by rw [lNS]; exact ns_lt x.zsu lq' x.zsl n20) (by rw [lNT]; exact ns_lt x.ztu lq' x.ztl n20) F fun h₁₈ D oD q0 q1 q2 os3 loD mD mq0 mq1 mq2 hsub3 F => rNil ?_
    have hl' : (r0 :: rt).length < e.L.length := Nat.lt_of_le_of_lt hl (by rw [lr, ← ldv]; exact Nat.lt_succ_self _)
    have up3 : ∀ p ∈ os2, p ∈ os3 := fun p hp => hsub3 p (.tail _ (.tail _ (.tail _ hp)))
    have E3 := E2.mono up3
    refine ⟨((r0 :: rt).map fun y => gmul y (ginv r0)).length, by rw [List.length_map]; exact hl', ⟨e.aL, e.l0, e.l1, e.l2, D, q0, q1, q2, e.oL, oD, e.L, e.sl, e.tl, (r0 :: rt).map fun y => gmul y (ginv r0), NS.map fun y => gmul y (ginv r0), NT.map fun y => gmul y (ginv r0)⟩, os3, oK2, oF2, vK2, _, rfl, ?_, ?_, fun p hp => up3 p (hrest2 p hp), hK2, eF2, F⟩
    · exact x.step (q := qt) lq' ce' r00 hl' lNS lNT cNS cNT
    · exact ⟨E3.tL, .inr loD, E3.mL, E3.ml0, E3.ml1, E3.ml2, mD, mq0, mq1, mq2⟩
end
end
end Mine

/-! part MLaw6 -/
namespace Mine
noncomputable section
open PySem PySem.W PyProof.Rows
open Sem (wp)
section
variable {w : World} {A : Around} {h B : Heap} {d : Ad} {L a : Addr} {cd : Value} {Q : Flow → Heap → Prop}

theorem nmL {l : List UInt8} (h : l.length ≤ 12) : nm (co l) l.length = nm (co l) 12 := (nm_more (dg_co l) h).symm

theorem ar6 {f g c r1 r2 el U L sl tl : Nat} (hf : f ≤ 5) (hg : g ≤ 5) (zf : f = c + r1) (zg : g = c + r2) (ze : el = c + (r1 + r2)) (z1 : sl + U ≤ f + 1 + 1) (z2 : tl + U ≤ f + 1 + 1) (pU : 0 < U) (lL : L = c + 1) :
    c ≤ 5 ∧ el ≤ 10 ∧ L ≤ 6 ∧ sl ≤ 6 ∧ tl ≤ 6 ∧ f + g = el + c := ⟨by omega, by omega, by omega, by omega, by omega, by omega⟩
theorem ar6b {f g c el L W P0 P1 dv : Nat} (h : f + g = el + c) (lL : L = c + 1) (l0 : P0 = f + 1) (l1 : P1 = g + 1) (lW : W = P0 + P1 - 1) (hd : dv + 1 = L) : dv = c ∧ W = el + c + 1 := ⟨by omega, by omega⟩
theorem lt_k {a b : Nat} (h : a ≤ b) (hb : b < 1000) : a < 1000 := Nat.lt_of_le_of_lt h hb

/-- the checks -/
theorem law6 {e : ES} {cm em pr p0 p1 tw : Addr} {oc oe opr otw : Obj} {t0 t1 : Tok} {vc ve : List Value} {fl gl cl el P0 P1 : List UInt8} {os : List (Addr × Obj)} (G₀ : Gl d B) (o : Ok 2 A)
    (lotw : LO [.int (nm (prodR fl) 12 : Nat) t0, .int (nm (prodR gl) 12 : Nat) t1] otw) (lopr : LO [.ref p0, .ref p1] opr) (Lc : Ls cl vc oc) (Le : Ls el ve oe) (Q0 : Pl fl P0) (Q1 : Pl gl P1) (hf5 : fl.length ≤ 5) (hg5 : gl.length ≤ 5)
    (hcc : ∀ x, cl.count x = min (fl.count x) (gl.count x)) (hce : ∀ x, el.count x = max (fl.count x) (gl.count x))
    (x : EI (prodR fl) (prodR gl) (fl.length + 1) e.U e.su e.tu e.L e.sl e.tl) (hend : e.L.length = 1 ∨ ∃ q : List UInt8, co e.U = pmul (co q) (co e.L)) (E : ESok e os)
    (mm : ∀ p ∈ [(pr, opr), (p0, bl P0), (p1, bl P1), (tw, otw), (cm, oc), (em, oe)], p ∈ os)
    (F : Fm B L h ((Str.ofString "lower", .ref e.aL) :: nmT tw pr em cm) os)
    (k : ∀ h', Ext B h' → Q (.ret (.bool true)) h') :
    W w A (execs (lawB.drop 15) (lenv L a cd)) Q h := by
  have hh := o.handled
  obtain ⟨r1, r2, pf, pg, hd, pe⟩ := split_counts hcc hce
  obtain ⟨eL, lL⟩ := x.fin hend pf pg hd
  have PL : Pl cl e.L := ⟨eL, lL⟩
  obtain ⟨hc5, he10, hL6, hs6, ht6, hide⟩ : cl.length ≤ 5 ∧ el.length ≤ 10 ∧ e.L.length ≤ 6 ∧ e.sl.length ≤ 6 ∧ e.tl.length ≤ 6 ∧ id (fl.length + gl.length = el.length + cl.length) := by
    have pU : 0 < e.U.length := by obtain ⟨t, et⟩ := x.hU; rw [et]; simp
    have zf := pf.length_eq; have zg := pg.length_eq; have ze := pe.length_eq
    simp only [List.length_append] at zf zg ze
    exact ar6 hf5 hg5 zf zg ze x.zsl x.ztl pU lL
  have mpr : (pr, opr) ∈ os := mm _ (by simp)
  have mp0 : (p0, bl P0) ∈ os := mm _ (by simp)
  have mp1 : (p1, bl P1) ∈ os := mm _ (by simp)
  have mtw : (tw, otw) ∈ os := mm _ (by simp)
  have mcm : (cm, oc) ∈ os := mm _ (by simp)
  have mem' : (em, oe) ∈ os := mm _ (by simp)
  have G := G₀.ext F.keep
  obtain ⟨N, hN⟩ : ∃ N, N = nm (prodR cl) 12 := ⟨_, rfl⟩
  obtain ⟨Ne, hNe⟩ : ∃ N, N = nm (prodR el) 12 := ⟨_, rfl⟩
  -- due
  refine rCons <| rAssign <| rOwn1 (i := 15) G <| rLocal F rfl ⟨G.roots, law_from_roots_W G o (Lc.lo.is (F.get mcm)) Lc.bi (Nat.le_trans hc5 (by decide)) fun h₁ u0 x1 => ?_⟩
  have F := F.ext x1
  rw [← hN]
  refine rStore F fun h₂ F => ?_
  have G := G₀.ext F.keep
  -- the number of lower[0]
  refine rCons <| rIf <| rTCmp <| rOwn1 (i := 13) G <| rSubTO <| rLocal F rfl <| rInt fun u1 => ⟨_, _, _, _, _, _, rfl, F.get E.mL, E.tL, rfl, by decide, by decide, rfl, G.num, law_number_W G (o.less (by decide)) (F.get E.ml0) (lt_k hL6 (by decide)) fun h₃ u2 x3 => ?_⟩
  have F := F.ext x3
  refine rLocal F rfl <| wNe <| rTruthB ?_
  refine itF ?_ (rNil ?_)
  · rw [PL.num (Nat.le_trans hc5 (by decide)), hN]; exact bne_self_eq_false _
  have G := G₀.ext F.keep
  -- the multipliers
  refine rCons <| rIf <| rTCmp <| rBin <| rOwn3 (i := 14) G <| rSubList <| rLocal F rfl <| rInt fun u3 => ⟨_, _, rfl, lotw.is (F.get mtw), wListGet (lotw.is (F.get mtw)) (by decide) (by decide) rfl ?_⟩
  refine rOwn1 (i := 13) G <| rSubTO <| rLocal F rfl <| rInt fun u4 => ⟨_, _, _, _, _, _, rfl, F.get E.mL, E.tL, rfl, by decide, by decide, rfl, G.num, law_number_W G (o.less (by decide)) (F.get E.ml1) (lt_k hs6 (by decide)) fun h₄ u5 x4 => rInt fun u6 => ?_⟩
  have F := F.ext x4
  have G := G₀.ext F.keep
  rw [nmL (l := e.sl) (Nat.le_trans hs6 (by decide))]
  refine ⟨G.prod, law_product_W (a := fl.length + 1) (b := e.sl.length) G (o.less (by decide)) (dg_prodR fl) (dg_co e.sl) (Nat.le_trans (Nat.succ_le_succ hf5) (by decide)) (Nat.le_trans hs6 (by decide)) (Nat.le_trans (Nat.add_le_add (Nat.succ_le_succ hf5) hs6) (by decide)) fun h₅ u7 x5 => ?_⟩
  have F := F.ext x5
  have G := G₀.ext F.keep
  refine rOwn3 (i := 14) G <| rSubList <| rLocal F rfl <| rInt fun u3 => ⟨_, _, rfl, lotw.is (F.get mtw), wListGet (lotw.is (F.get mtw)) (by decide) (by decide) rfl ?_⟩
  refine rOwn1 (i := 13) G <| rSubTO <| rLocal F rfl <| rInt fun u4 => ⟨_, _, _, _, _, _, rfl, F.get E.mL, E.tL, rfl, by decide, by decide, rfl, G.num, law_number_W G (o.less (by decide)) (F.get E.ml2) (lt_k ht6 (by decide)) fun h₄ u5 x4 => rInt fun u6 => ?_⟩
  have F := F.ext x4
  have G := G₀.ext F.keep
  rw [nmL (l := e.tl) (Nat.le_trans ht6 (by decide))]
  refine ⟨G.prod, law_product_W (a := gl.length + 1) (b := e.tl.length) G (o.less (by decide)) (dg_prodR gl) (dg_co e.tl) (Nat.le_trans (Nat.succ_le_succ hg5) (by decide)) (Nat.le_trans ht6 (by decide)) (Nat.le_trans (Nat.add_le_add (Nat.succ_le_succ hg5) ht6) (by decide)) fun h₆ u8 x6 => ?_⟩
  have F := F.ext x6
  have G := G₀.ext F.keep
  refine wXor fun u9 => rLocal F rfl <| wNe <| rTruthB ?_
  have exy : nm (pmul (prodR fl) (co e.sl)) 12 ^^^ nm (pmul (prodR gl) (co e.tl)) 12 = N := by
    rw [nm_add, pmul_comm (prodR fl), pmul_comm (prodR gl), ← x.eL, eL, hN]
  refine itF ?_ (rNil ?_)
  · rw [exy]; exact bne_self_eq_false _
  -- whole
  refine rCons <| rAssign <| rOwn2 (i := 9) G <| rSubList <| rLocal F rfl <| rInt fun u1 => ⟨_, _, rfl, lopr.is (F.get mpr), wListGet (lopr.is (F.get mpr)) (by decide) (by decide) rfl ?_⟩
  refine rSubList <| rLocal F rfl <| rInt fun u1 => ⟨_, _, rfl, lopr.is (F.get mpr), wListGet (lopr.is (F.get mpr)) (by decide) (by decide) rfl ⟨G.pmul, ?_⟩⟩
  have l0 := Q0.len; have l1 := Q1.len
  refine gf_poly_mul_W G (o.less (by decide)) (F.get mp0) (F.get mp1) (by rw [l0]; exact lt_k (Nat.succ_le_succ hf5) (by decide)) (by rw [l1]; exact lt_k (Nat.succ_le_succ hg5) (by decide)) (by rw [l0]; exact Nat.succ_pos _) (by rw [l1]; exact Nat.succ_pos _) fun wh h₇ Wl x7 f7 e7 lW cW => ?_
  have F := F.new x7 f7 e7
  refine rStore F fun h₈ F => ?_
  rw [Q0.co, Q1.co] at cW
  have lW' : id (Wl.length = el.length + cl.length + 1) := (ar6b hide lL l0 l1 lW lL.symm).2
  have lW6 : Wl.length ≤ 16 := by have h : Wl.length = el.length + cl.length + 1 := lW'; rw [h]; exact Nat.succ_le_succ (Nat.add_le_add he10 hc5)
  clear lW
  have up : ∀ {p : Addr × Obj}, p ∈ os → p ∈ (wh, bl Wl) :: os := fun hp => .tail _ hp
  -- common == []
  refine rCons <| rIf <| rTCmp <| rLocal F rfl <| rList <| rEl0 ⟨by simp, ?_⟩
  have F := F.push { cls := .type "list", data := .seq ([] : List Value).toArray }
  have hu : A.units < cLine := by have := o.units; show A.units < 9900; omega
  refine wListEq hu (Lc.lo.is (F.get (.tail _ (up mcm)))) ((LO.new _).is (F.get (.head _))) Lc.bi .nil <| rTruthB ?_
  have F := F.sub _ (.cons _ (.refl _))
  have G := G₀.ext F.keep
  cases hcl : cl with
  | nil =>
    subst hcl
    refine itT rfl ?_
    have eW : Pl el Wl := ⟨by rw [cW]; exact whole_none pf pg pe, lW'⟩
    refine rCons <| rReturn <| rCmp <| rOwn1 (i := 13) G <| rLocal F rfl ⟨G.num, law_number_W G (o.less (by decide)) (F.get (.head _)) (lt_k lW6 (by decide)) fun h₉ u2 x9 => ?_⟩
    have F := F.ext x9
    have G := G₀.ext F.keep
    refine rOwn1 (i := 15) G <| rLocal F rfl ⟨G.roots, law_from_roots_W G o (Le.lo.is (F.get (up mem'))) Le.bi (Nat.le_trans he10 (by decide)) fun h₁₀ u3 x10 => ?_⟩
    rw [eW.num (Nat.le_trans he10 (by decide))]
    refine wEq ?_
    rw [beq_self_eq_true]
    exact k h₁₀ (F.ext x10).keep
  | cons c0 ct =>
    have hcl0 : 0 < cl.length := by rw [hcl]; simp
    refine itF (by rfl) (rNil ?_)
    obtain ⟨dv, edv⟩ := x.hL
    have ldv : dv.length + 1 = e.L.length := by rw [edv]; simp
    have edl : dv.length = cl.length := Nat.succ.inj (ldv.trans lL)
    -- the division
    refine rCons <| rAssignTup (rOwn2 (i := 10) G <| rLocal F rfl <| rSubTO <| rLocal F rfl <| rInt fun t2 => ⟨_, _, _, _, _, _, rfl, F.get (up E.mL), E.tL, rfl, by decide, by decide, rfl, G.div, ?_⟩) rfl
    refine gf_poly_div_W (dv := dv) G o (F.get (.head _)) (edv ▸ F.get (up E.ml0)) (lt_k lW6 (by decide)) (by have h : Wl.length = el.length + cl.length + 1 := lW'; rw [h, edl]; exact Nat.lt_succ_of_le (Nat.le_add_left _ _)) (by rw [edl]; exact hcl0) fun r r1 r2 h₈ qt rs x8 f1 f2 er e1 e2 lq lr ce => ?_
    obtain ⟨ns, F, n1, n2⟩ := F.two x8 f1 f2 e1 e2
    have up : ∀ {p : Addr × Obj}, p ∈ os → p ∈ ns ++ (wh, bl Wl) :: os := fun hp => List.mem_append.mpr (.inr (.tail _ hp))
    have n1 : (r1, bl qt) ∈ ns ++ (wh, bl Wl) :: os := List.mem_append.mpr (.inl n1)
    have n2 : (r2, bl rs) ∈ ns ++ (wh, bl Wl) :: os := List.mem_append.mpr (.inl n2)
    refine wUnpack2 hh er fun h₉ x9 => ?_
    have F := F.ext x9
    refine rAssignN (rStore F fun h₁₀ F => rAssignN (rStore F fun h₁₁ F => ?_))
    rw [← edv, eL, cW] at ce
    obtain ⟨eq, ers⟩ := last_div pf pg pe (lr.trans edl) ce
    have PQ : Pl el qt := ⟨eq, by have h : Wl.length = el.length + cl.length + 1 := lW'; rw [lq, h, edl, Nat.add_right_comm, Nat.add_sub_cancel]⟩
    have G := G₀.ext F.keep
    generalize ns ++ (wh, bl Wl) :: os = os1 at F up n1 n2
    refine rCons <| rReturn <| rAndV <| rCmp <| rB1 G <| rLocal F rfl <| wListBa hh (F.get n2) (by rw [lr, edl]; exact lt_k hc5 (by decide)) fun la h₁₂ ol vl x12 f12 e12 lo12 bi12 => ?_
    have F := F.new x12 f12 e12
    refine rBin <| rList <| rEl <| rInt fun u1 => rEl0 ⟨by simp, ?_⟩
    have F := F.push { cls := .type "list", data := .seq [Value.int 0 u1].toArray }
    have G := G₀.ext F.keep
    have vcl := Lc.bi.len
    refine rLen G.nm <| rLocal F rfl <| wLenList (Lc.lo.is (F.get (.tail _ (.tail _ (up mcm))))) (by rw [vcl]; exact Nat.lt_of_le_of_lt hc5 (by decide)) fun u2 => ?_
    refine wListMul (F.get (.head _)) (LO.new _) (Int.natCast_nonneg _) (by rw [vcl]; exact Int.ofNat_le.mpr (Nat.le_trans hc5 (by decide))) fun lm h₁₃ om x13 f13 e13 lo13 => ?_
    have F := F.new x13 f13 e13
    rw [Int.toNat_natCast, vcl] at lo13
    refine wListEq hu (lo12.is (F.get (.tail _ (.tail _ (.head _))))) (lo13.is (F.get (.head _))) bi12 (ints_rep' _ _ _) <| rTruthB ?_
    refine itT ?_ ?_
    · rw [ers, List.map_replicate]; exact beq_self_eq_true _
    have G := G₀.ext F.keep
    refine rCmp <| rOwn1 (i := 13) G <| rLocal F rfl ⟨G.num, law_number_W G (o.less (by decide)) (F.get (.tail _ (.tail _ (.tail _ n1)))) (by rw [PQ.len]; exact lt_k (Nat.succ_le_succ he10) (by decide)) fun h₁₄ u3 x14 => ?_⟩
    have F := F.ext x14
    have G := G₀.ext F.keep
    refine rOwn1 (i := 15) G <| rLocal F rfl ⟨G.roots, law_from_roots_W G o (Le.lo.is (F.get (.tail _ (.tail _ (.tail _ (up mem')))))) Le.bi (Nat.le_trans he10 (by decide)) fun h₁₅ u4 x15 => ?_⟩
    rw [PQ.num (Nat.le_trans he10 (by decide))]
    refine wEq ?_
    rw [beq_self_eq_true]
    exact k h₁₅ (F.ext x15).keep
end
end
end Mine

/-! part MLaw7 -/
namespace Mine
noncomputable section
open PySem PySem.W PyProof.Rows
open Sem (wp)
section
variable {w : World} {A : Around} {h : Heap} {d : Ad} {Q : Value → Heap → Prop}

theorem law_W {sc : Addr} {vs : List Value} {ns : List Int} (G₀ : Gl d h) (o : Ok 3 A) (hsc : h.IsList sc vs.toArray) (hi : IntsAre vs ns) (hz : ns.length ≤ 63)
    (kk : ∀ h', Ext h h' → Q (.bool true) h') : W w A (call (.ref d.law) [.ref sc]) Q h := by
  refine rFnC (binds := [(Str.ofString "script", .ref sc)]) (bsL := [(Str.ofString "script", .ref sc)]) (cs := lcs h.objs.size) G₀ G₀.law (o.less (by decide)) (fun pm cd => rfl) rfl ?_ ?_ ⟨rfl, trivial⟩ ?_
  · intro p hp; simp at hp; rcases hp with rfl | rfl | rfl <;> rfl
  · intro p hp; simp at hp; rcases hp with rfl; exact .inl rfl
  intro cd h₁ ob hob F G
  have o2 : Ok 2 (A.deeper (ev (fnS (stAt 16)) h.objs.size d.law (Str.ofString "law" ++ ".<locals>.") cd (lcs h.objs.size))) := o.deeper _
  have c3 := hob (Str.ofString "factor") _ rfl
  have c2 := hob (Str.ofString "k") _ rfl
  have c1 := hob (Str.ofString "pool") _ rfl
  refine law1 G₀ o2.handled hsc hi hz c1 F fun h' aP oPl vp oP' pl hP Lp hpl aN oN nv loN inv F => ?_
  refine law2 G₀ o2.handled hP Lp hpl loN inv nums_len.2 F fun h' f s of os fl sl vf vs S1 S2 hle F => ?_
  refine law3 G₀ o2.handled hP Lp hpl c2 S1 S2 F fun h' cm em oc oe vc ve cl el oK' vK' hK Lc Le hcc hce F => ?_
  refine law4 (cl := cl) (el := el) (vc := vc) (ve := ve) G₀ o2 hK S1 S2 F fun h' pr opr p0 p1 P0 P1 tw otw t0 t1 oK' vK' hK lopr Q0 Q1 lotw F => ?_
  refine law5 G₀ o2 hK c3 lopr Q0 Q1 hle S1.le F fun h' e os x hend E mm F => ?_
  exact law6 G₀ o2 lotw lopr Lc Le Q0 Q1 S1.le S2.le hcc hce x hend E mm F fun h' ex => kk h' ex
end
end
end Mine

/-! part MTop1 -/
namespace Mine
noncomputable section
open PySem PySem.W PyProof.Rows
open Sem (wp)
/-- a def with defaults -/
def FnD (h : Heap) (a : Addr) (i : Nat) (name : Str) (vs : List Value) : Prop := ∃ T pm cd doc, h.get? a = some { cls := .type "function", data := .func (defFd name name (fnA (stAt i)) (fnB (stAt i)) (fnS (stAt i)) mainGlobals (.ref T) .none none pm cd doc) } ∧ h.CodeRec cd name ∧ h.get? T = some { cls := .type "tuple", data := .seq vs.toArray }
theorem FnD.ext {h h' : Heap} {a : Addr} {i : Nat} {name : Str} {vs : List Value} (f : FnD h a i name vs) (x : Ext h h') : FnD h' a i name vs := let ⟨T, pm, cd, doc, e, c, t⟩ := f; ⟨T, pm, cd, doc, x _ _ e, c.keeps x, x _ _ t⟩

section
variable {w : World} {A : Around} {h : Heap} {env : Env} {gl : List (Str × Value)} {no : List Str} {Q : Value → Heap → Prop}

theorem rDefB {a : Addr} {o : Obj} {fd : FuncData} {body : List Stmt} {args : List Value} {binds : List (Str × Value)} {Q : Value → Heap → Prop}
    (ho : h.get? a = some o) (hd : o.data = .func fd) (hlim : h.NoLimit) (hcd : h.CodeRec fd.code fd.qualname) (hroom : A.depth < recursionLimit)
    (hb : fd.body = .stmts body) (hbind : ∀ s : Shared, s.heap = h → BindsTo s fd ⟨args, []⟩ binds) (hclo : fd.closure = []) (hgl : fd.globals = mainGlobals) (hbl : fd.builtins = builtinsNs)
    (hloc : ∀ x ∈ binds, fd.scope.names.lookup x.1 = some .local) (hcell : ∀ x ∈ fd.scope.names, x.2 ≠ .cell)
    (y : ∀ h₁, Fm h h.objs.size h₁ binds.reverse [] → W w (A.deeper (ev fd.scope h.objs.size a (fd.qualname ++ ".<locals>.") fd.code [])) (execs body (ev fd.scope h.objs.size a (fd.qualname ++ ".<locals>.") fd.code []))
      (fun f h' => Q (match f with | .ret v => v | _ => .none) h') h₁)
    (hco : fd.scope.isCoroutine = false := by rfl) (hgen : fd.scope.isGenerator = false := by rfl) (hk : fd.scope.kind = .function := by rfl) : W w A (call (.ref a) args) Q h := by
  refine W.call (WC.tree rfl ?_)
  show W w A.in1 (callAny (.ref a) ⟨args, []⟩) _ h
  simp only [callAny]
  refine W.bind (W.load ho ?_)
  obtain ⟨c, oc, vs, tq, hc, hoc, hdc, hq⟩ := hcd
  simp only [hd, callFunction, hco, hgen, hb, hc]
  refine W.bind (m := field (.ref c) 1) (W.of fun s hs => wpAny_field (hs ▸ hoc) hdc hq ⟨rfl, rfl, ?_⟩)
  rw [hs]
  refine W.bind (W.pure ?_)
  refine W.bind (W.of fun s hs => hbind s hs _ _ _ _ ⟨rfl, rfl, ?_⟩)
  rw [hs]
  rw [hclo]
  refine W.bind (W.of fun s hs => wpAny_newFunctionEnv hcell hloc (fun h₁ hns hsb => ⟨rfl, rfl, ?_⟩) hk)
  rw [hs] at hns hsb ⊢
  have F : Fm h h.objs.size h₁ binds.reverse [] := ⟨⟨_, hns, fun x v e => e⟩, fun b o e => hsb.extBut b o (Nat.ne_of_lt (Heap.lt_size e)) (Heap.get?_push_of_some _ e), Nat.le_refl _, fun p hp => (nomatch hp), .nil⟩
  refine W.bind (W.of fun s hs => wpAny_enterFrame (by rw [hs]; exact hlim.keeps F.keep) hroom ⟨rfl, rfl, ?_⟩)
  rw [hs]
  refine W.pure ⟨rfl, WC.tree rfl ?_⟩
  have e : newEnv fd.scope h.objs.size fd.globals [] (fd.qualname ++ ".<locals>.") (some a) (.ref c) none fd.builtins = ev fd.scope h.objs.size a (fd.qualname ++ ".<locals>.") fd.code [] := by
    rw [hgl, hbl, hc]; rfl
  rw [e]
  show W w (A.deeper (ev fd.scope h.objs.size a (fd.qualname ++ ".<locals>.") fd.code [])) (do point; match ← (execs body (ev fd.scope h.objs.size a (fd.qualname ++ ".<locals>.") fd.code [])).onRaise (leaving (ev fd.scope h.objs.size a (fd.qualname ++ ".<locals>.") fd.code [])) with | .ret v => ret v | _ => ret .none) _ h₁
  refine W.bind (W.point (W.bind (W.onRaise ((y h₁ F).mono fun f h' q => ?_))))
  cases f <;> exact W.pure ⟨_, rfl, q⟩

theorem rFnD {a : Addr} {i : Nat} {name : Str} {args vs : List Value} {binds : List (Str × Value)} (lim : h.NoLimit) (f : FnD h a i name vs) (o : Ok 1 A)
    (hbind : ∀ s T pm cd doc, s.heap.get? T = some { cls := .type "tuple", data := .seq vs.toArray } → BindsTo s (defFd name name (fnA (stAt i)) (fnB (stAt i)) (fnS (stAt i)) mainGlobals (.ref T) .none none pm cd doc) ⟨args, []⟩ binds)
    (hloc : ∀ x ∈ binds, (fnS (stAt i)).names.lookup x.1 = some .local) (hcell : ∀ x ∈ (fnS (stAt i)).names, x.2 ≠ .cell)
    (y : ∀ cd h₁, Fm h h.objs.size h₁ binds.reverse [] → W w (A.deeper (ev (fnS (stAt i)) h.objs.size a (name ++ ".<locals>.") cd [])) (execs (fnB (stAt i)) (ev (fnS (stAt i)) h.objs.size a (name ++ ".<locals>.") cd []))
      (fun f h' => Q (match f with | .ret v => v | _ => .none) h') h₁)
    (hco : (fnS (stAt i)).isCoroutine = false := by rfl) (hgen : (fnS (stAt i)).isGenerator = false := by rfl) (hk : (fnS (stAt i)).kind = .function := by rfl) : W w A (call (.ref a) args) Q h := by
  obtain ⟨T, pm, cd, doc, e, c, t⟩ := f
  exact rDefB (fd := defFd name name (fnA (stAt i)) (fnB (stAt i)) (fnS (stAt i)) mainGlobals (.ref T) .none none pm cd doc) e rfl lim c o.depth rfl (fun s hs => hbind s T pm cd doc (hs ▸ t)) rfl rfl rfl hloc hcell (fun h₁ F => y cd h₁ F) hco hgen hk

/-- calls by names, known through Nm -/
theorem rT1n {nm : Str} {T : String} {e : Expr} {p pos : Pos} (N : Nm gl no h) (y : W w A (eval e env) (fun v h₁ => W w A (call (.type T) [v]) Q h₁) h)
    (hl : gl.lookup nm = some (.type T) := by rfl) (hs : starEach [e] env = [(false, eval e env)] := by rfl)
    (hk : env.scope.kind = .function := by rfl) (hx : env.kindOf nm = some .globalImplicit := by rfl) (hg : env.globals = mainGlobals := by rfl) (hd : (nm == ("__debug__" : Str)) = false := by decide) :
    W w A (eval (.Call (.Name nm p) [e] [] pos) env) Q h := by
  refine rCall (rGlob N hl ?_ hk hx hg hd)
  rw [hs]
  exact rCwT rfl (rArgs (rSplice (y.mono fun v h₁ q => rSplice0 q)))
theorem rT2n {nm : Str} {T : String} {e e' : Expr} {p pos : Pos} (N : Nm gl no h) (y : W w A (eval e env) (fun v h₁ => W w A (eval e' env) (fun v' h₂ => W w A (call (.type T) [v, v']) Q h₂) h₁) h)
    (hl : gl.lookup nm = some (.type T) := by rfl) (hs : starEach [e, e'] env = [(false, eval e env), (false, eval e' env)] := by rfl)
    (hk : env.scope.kind = .function := by rfl) (hx : env.kindOf nm = some .globalImplicit := by rfl) (hg : env.globals = mainGlobals := by rfl) (hd : (nm == ("__debug__" : Str)) = false := by decide) :
    W w A (eval (.Call (.Name nm p) [e, e'] [] pos) env) Q h := by
  refine rCall (rGlob N hl ?_ hk hx hg hd)
  rw [hs]
  exact rCwT rfl (rArgs (rSplice (y.mono fun v h₁ q => rSplice (q.mono fun v' h₂ q => rSplice0 q))))
theorem rB1n {nm : Str} {T : String} {e : Expr} {p pos : Pos} (N : Nm gl no h) (y : W w A (eval e env) (fun v h₁ => W w A (call (.type T) [v]) Q h₁) h)
    (hn : no.contains nm = true := by rfl) (hl : blts.lookup nm = some (.type T) := by rfl) (hs : starEach [e] env = [(false, eval e env)] := by rfl)
    (hk : env.scope.kind = .function := by rfl) (hx : env.kindOf nm = some .globalImplicit := by rfl) (hg : env.globals = mainGlobals := by rfl) (hb : env.builtins = builtinsNs := by rfl) (hd : (nm == ("__debug__" : Str)) = false := by decide) :
    W w A (eval (.Call (.Name nm p) [e] [] pos) env) Q h := by
  refine rCall (rBlt N hn hl ?_ hk hx hg hb hd)
  rw [hs]
  exact rCwT rfl (rArgs (rSplice (y.mono fun v h₁ q => rSplice0 q)))
theorem rOwn4n {nm : Str} {a : Addr} {e1 e2 e3 e4 : Expr} {p pos : Pos} (N : Nm gl no h) (y : W w A (eval e1 env) (fun v1 h₁ => W w A (eval e2 env) (fun v2 h₂ => W w A (eval e3 env) (fun v3 h₃ => W w A (eval e4 env) (fun v4 h₄ => (∃ o fd, h₄.get? a = some o ∧ o.data = .func fd) ∧ W w A (call (.ref a) [v1, v2, v3, v4]) Q h₄) h₃) h₂) h₁) h)
    (hl : gl.lookup nm = some (.ref a) := by rfl) (hs : starEach [e1, e2, e3, e4] env = [(false, eval e1 env), (false, eval e2 env), (false, eval e3 env), (false, eval e4 env)] := by rfl)
    (hk : env.scope.kind = .function := by rfl) (hx : env.kindOf nm = some .globalImplicit := by rfl) (hg : env.globals = mainGlobals := by rfl) (hd : (nm == ("__debug__" : Str)) = false := by decide) :
    W w A (eval (.Call (.Name nm p) [e1, e2, e3, e4] [] pos) env) Q h := by
  refine rCall (rGlob N hl ?_ hk hx hg hd)
  rw [hs]
  exact rCwF rfl (rArgs (rSplice (y.mono fun v h₁ q => rSplice (q.mono fun v' h₂ q => rSplice (q.mono fun v'' h₃ q => rSplice (q.mono fun v''' h₄ q => rSplice0 q))))))
theorem wIntInt {n : Int} {u : Tok} (y : Q (.int n u) h) : W w A (call (.type "int") [.int n u]) Q h := W.of fun s hs => call_int_int ⟨rfl, rfl, hs ▸ y⟩

theorem wItems3L {c : Addr} {a b e : Value} {R : List Value → Heap → Prop} (hh : A.handled = none) (hc : h.IsList c [a, b, e].toArray) (y : ∀ h', Ext h h' → R [a, b, e] h') : W w A (unpackItems (.ref c) 3 none) R h := by
  unfold unpackItems
  have hT : ∀ s : Shared, s.heap = h → s.TypeIs (.ref c) "list" := fun s hs => Heap.IsList.typeIs (hs ▸ hc)
  refine W.bind (m := notIterableAtAll (.ref c)) (W.of fun s hs => ?_)
  unfold notIterableAtAll
  refine wpAny_bind (wpAny_specialOf (hT s hs) PySem.F.slot_list_iter.lookup ?_)
  refine wpAny_pure ⟨rfl, rfl, ?_⟩
  rw [hs]
  simp only [Bool.false_eq_true, if_false]
  refine W.bind (W.holding (wIterList hc fun I h₁ x1 hI eI => ?_))
  obtain ⟨oc, hoc, hcr⟩ := id hc
  have hcI : c ≠ I := fun q => absurd (Heap.lt_size hoc) (by rw [q]; exact Nat.not_lt.mpr hI)
  have keep : ∀ {h' : Heap}, Heap.ExtBut I h₁ h' → Ext h h' := fun ex b o e => ex b o (fun q => absurd (Heap.lt_size e) (by rw [q]; exact Nat.not_lt.mpr hI)) (x1 b o e)
  have isL : ∀ {h' : Heap}, Heap.ExtBut I h₁ h' → h'.IsList c [a, b, e].toArray := fun ex => isList_ext hc (keep ex)
  have it := It.list (w := w) (A := A) (I := I) hh c [a, b, e]
  refine W.bind (W.holding ?_)
  show W w A (pyNext (.ref I) >>= _) _ h₁
  refine W.bind (it.item 0 h₁ _ _ (by simp) eI ⟨rfl, rfl⟩ (isList_ext hc x1) fun v h₂ o2 hv sb2 e2 st2 => ?_)
  obtain rfl : a = v := by simpa using hv
  refine W.bind (W.holding ?_)
  show W w A (pyNext (.ref I) >>= _) _ h₂
  refine W.bind (it.item 1 h₂ _ _ (by simp) e2 st2 (isL sb2.extBut) fun v h₃ o3 hv sb3 e3 st3 => ?_)
  obtain rfl : b = v := by simpa using hv
  refine W.bind (W.holding ?_)
  show W w A (pyNext (.ref I) >>= _) _ h₃
  refine W.bind (it.item 2 h₃ _ _ (by simp) e3 st3 (isL (sb2.trans sb3).extBut) fun v h₄ o4 hv sb4 e4 st4 => ?_)
  obtain rfl : e = v := by simpa using hv
  refine W.bind (W.holding ?_)
  have sb := (sb2.trans sb3).trans sb4
  show W w A (Pure.pure []) _ h₄
  refine W.pure (W.pure (W.pure (W.pure ?_)))
  rw [if_neg (by simp)]
  refine W.bind (W.holding (it.done h₄ o4 _ e4 st4 (isL sb.extBut) fun h₅ ex5 => ?_))
  simp only [Option.isSome_none, Bool.false_eq_true, if_false]
  exact W.pure (y h₅ (keep fun b o hb e => ex5 b o hb (sb.extBut b o hb e)))
end
end
end Mine

/-! part MTop2 -/
namespace Mine
noncomputable section
open PySem PySem.W PyProof.Rows
open Sem (wp)
theorem bit8 : ∀ x, x < 256 → (2 * x &&& 256) = if x < 128 then 0 else 256 := by decide +kernel

section
variable {w : World} {A : Around} {h : Heap} {env : Env} {gl : List (Str × Value)} {no : List Str} {Q : Value → Heap → Prop}

abbrev nlB : List Stmt := fnB (stAt 6)
abbrev nlE (L a : Addr) (cd : Value) : Env := ev (fnS (stAt 6)) L a (Str.ofString "gf_mult_noLUT" ++ ".<locals>.") cd []
abbrev nlW : List Stmt := whB (stN nlB 1)
abbrev nlN (r : Nat) (x y : Nat) (tr tx ty tp tf : Tok) : List (Str × Value) :=
  [(Str.ofString "r", .int (r : Nat) tr), (Str.ofString "x", .int (x : Nat) tx), (Str.ofString "y", .int (y : Nat) ty), (Str.ofString "prim", .int 285 tp), (Str.ofString "field_charac_full", .int 256 tf), (Str.ofString "carryless", .bool true)]

/-- y = y >> 1; x = x << 1; .. -/
theorem noSh {B : Heap} {L a : Addr} {cd : Value} {r x y : Nat} {tr tx ty tp tf : Tok} {Q : Flow → Heap → Prop} (hx : x < 256) (F : Fm B L h (nlN r x y tr tx ty tp tf) [])
    (k : ∀ h' tx ty, Fm B L h' (nlN r (xt x) (y / 2) tr tx ty tp tf) [] → Q .next h') : W w A (execs (nlW.drop 1) (nlE L a cd)) Q h := by
  refine rCons <| rAssign <| rBin <| rLocal F rfl <| rInt fun t1 => wShr (by decide) fun t2 => rStore F fun h₁ F => ?_
  have e1 : Int.fdiv (y : Int) (2 ^ (1 : Int).toNat) = ((y / 2 : Nat) : Int) := by
    show Int.fdiv (y : Int) 2 = _
    rw [Int.fdiv_eq_ediv_of_nonneg _ (by decide)]; omega
  rw [e1] at F
  refine rCons <| rAssign <| rBin <| rLocal F rfl <| rInt fun t3 => wShl (by decide) (by decide) (by rw [Int.natAbs_natCast]; omega) fun t4 => rStore F fun h₂ F => ?_
  have e2 : (x : Int) * 2 ^ (1 : Int).toNat = ((2 * x : Nat) : Int) := by
    show (x : Int) * 2 = _
    omega
  rw [e2] at F
  refine rCons <| rIf <| rTAnd <| rTCmp <| rLocal F rfl <| rInt fun t5 => wGt <| rTruthB ?_
  refine itT (by decide) <| rTAnd <| rTPlain <| rBin <| rLocal F rfl <| rLocal F rfl <| wAnd (n := 256) fun t6 => wTruthI ?_
  rw [bit8 x hx]
  by_cases h1 : x < 128
  · refine itF (by simp [h1]) (itF rfl (rNil (rNil ?_)))
    refine k h₂ t4 t2 ?_
    rw [show xt x = 2 * x by simp [xt, h1]]
    exact F.pick _ ⟨rfl, rfl, rfl, rfl, rfl, rfl, trivial⟩
  · refine itT (by simp [h1]) (rTAnd0 (itT rfl ?_))
    refine rCons <| rAssign <| rBin <| rLocal F rfl <| rLocal F rfl <| wXor (n := 285) fun t7 => rStore F fun h₃ F => rNil (rNil ?_)
    refine k h₃ t7 t2 ?_
    rw [show xt x = (2 * x) ^^^ 285 by simp [xt, h1]]
    exact F.pick _ ⟨rfl, rfl, rfl, rfl, rfl, rfl, trivial⟩

set_option maxHeartbeats 400000 in
theorem noLUT_W {a : Addr} {x : Nat} {t u v z t1 t2 : Tok} (lim : h.NoLimit) (f : FnD h a 6 (Str.ofString "gf_mult_noLUT") [.int 0 t1, .int 256 t2, .bool true]) (o : Ok 1 A) (hx : x < 256)
    (q : ∀ h' k, Ext h h' → Q (.int (xt x : Nat) k) h') : W w A (call (.ref a) [.int (x : Nat) t, .int 2 u, .int 285 v, .int 256 z]) Q h := by
  refine rFnD (binds := [(Str.ofString "x", .int (x : Nat) t), (Str.ofString "y", .int 2 u), (Str.ofString "prim", .int 285 v), (Str.ofString "field_charac_full", .int 256 z), (Str.ofString "carryless", .bool true)]) lim f o
    (fun s T pm cd doc e => BindsTo.of_defaults rfl e rfl rfl rfl) (locs rfl) (by decide +kernel) fun cd h₁ F => ?_
  refine rCons <| rAssign <| rInt fun t0 => rStore F fun h₂ F => ?_
  have F : Fm h h.objs.size h₂ (nlN 0 x 2 t0 t u v z) [] := F.pick _ ⟨rfl, rfl, rfl, rfl, rfl, rfl, trivial⟩
  refine rCons <| rWhile (fun n h' => ∃ r x' tr tx ty, n ≤ 2 ∧ Fm h h.objs.size h' (nlN r x' n tr tx ty v z) [] ∧ (n = 2 → r = 0 ∧ x' = x) ∧ (n = 1 → r = 0 ∧ x' = xt x) ∧ (n = 0 → r = xt x)) 2 ?_ ⟨0, x, _, _, _, Nat.le_refl _, F, fun _ => ⟨rfl, rfl⟩, fun e => (by cases e), fun e => (by cases e)⟩
  rintro n h₃ ⟨r, x', tr, tx, ty, hn, F, h2, h1, h0⟩
  refine rTPlain <| rLocal F rfl <| wTruthI ?_
  rcases (by omega : n = 0 ∨ n = 1 ∨ n = 2) with rfl | rfl | rfl
  · refine itF rfl ?_
    obtain rfl := h0 rfl
    refine rCons <| rReturn <| rLocal F rfl ?_
    exact q h₃ tr F.keep
  · obtain ⟨rfl, rfl⟩ := h1 rfl
    refine itT rfl ?_
    refine rCons <| rIf <| rTPlain <| rBin <| rLocal F rfl <| rInt fun u1 => wAnd (m := 1) (n := 1) fun u2 => wTruthI ?_
    refine itT rfl ?_
    refine rCons <| rAssign <| rIfExp <| rTPlain <| rLocal F rfl <| rTruthB <| itT rfl <| rBin <| rLocal F rfl <| rLocal F rfl <| wXor (m := 0) fun u3 => rStore F fun h₄ F => rNil ?_
    rw [Nat.zero_xor] at F
    have F : Fm h h.objs.size h₄ (nlN (xt x) (xt x) 1 u3 tx ty v z) [] := F.pick _ ⟨rfl, rfl, rfl, rfl, rfl, rfl, trivial⟩
    exact noSh (xt_lt hx) F fun h' tx ty F => ⟨0, by decide, _, _, _, _, _, by decide, F, fun e => (by cases e), fun e => (by cases e), fun _ => rfl⟩
  · obtain ⟨rfl, ex2⟩ := h2 rfl
    rw [ex2] at F
    refine itT rfl ?_
    refine rCons <| rIf <| rTPlain <| rBin <| rLocal F rfl <| rInt fun u1 => wAnd (m := 2) (n := 1) fun u2 => wTruthI ?_
    refine itF rfl (rNil ?_)
    exact noSh hx F fun h' tx ty F => ⟨1, by decide, _, _, _, _, _, by decide, F, fun e => (by cases e), fun _ => ⟨rfl, rfl⟩, fun e => (by cases e)⟩

abbrev tgl (am : Addr) : List (Str × Value) := [(Str.ofString "_bytearray", .type "bytearray"), (Str.ofString "xrange", .type "range"), (Str.ofString "gf_mult_noLUT", .ref am)]

/-- the table of logarithms while it grows -/
def LgI (i : Nat) (l : List UInt8) : Prop := l.length = 256 ∧ ∀ n, n < 256 → l[n]? = some (if n ≠ 0 ∧ logN[n]?.getD 0 < i then (logN[n]?.getD 0).toUInt8 else 0)
theorem LgI.start : LgI 0 (List.replicate 256 0) := ⟨List.length_replicate .., fun n hn => by rw [List.getElem?_replicate, if_pos hn, if_neg (by omega)]⟩
theorem LgI.step {i : Nat} {l : List UInt8} (x : LgI i l) (hi : i < 255) : LgI (i + 1) (l.set (ex i).toNat i.toUInt8) := by
  obtain ⟨h1, h2, h3⟩ := t_exp i hi
  have hx : (ex i).toNat = expN[i]?.getD 0 := by rw [ex_toNat, Nat.mod_eq_of_lt hi]
  rw [hx]
  refine ⟨by rw [List.length_set]; exact x.1, fun n hn => ?_⟩
  rw [List.getElem?_set]
  by_cases q : expN[i]?.getD 0 = n
  · rw [if_pos q, if_pos (by rw [x.1]; exact h1), if_pos ⟨q ▸ h2, by rw [← q, h3]; omega⟩, ← q, h3]
  · rw [if_neg q, x.2 n hn]
    have key : (n ≠ 0 ∧ logN[n]?.getD 0 < i + 1) ↔ (n ≠ 0 ∧ logN[n]?.getD 0 < i) := by
      constructor
      · rintro ⟨a, b⟩
        refine ⟨a, ?_⟩
        rcases Nat.lt_or_ge (logN[n]?.getD 0) i with c | c
        · exact c
        · have e : logN[n]?.getD 0 = i := by omega
          have := t_log n hn a
          rw [e] at this
          exact absurd this q
      · rintro ⟨a, b⟩; exact ⟨a, by omega⟩
    simp only [key]
theorem logN0 : logN[0]?.getD 0 = 0 := by decide
theorem LgI.fin {l : List UInt8} (x : LgI 255 l) : l = logT := by
  apply List.ext_getElem?
  intro n
  by_cases hn : n < 256
  · rw [x.2 n hn, logT, List.getElem?_map]
    have e : logN[n]? = some (logN[n]?.getD 0) := by rw [List.getElem?_eq_getElem (by rw [logN_len]; exact hn)]; rfl
    rw [e]
    by_cases h0 : n = 0
    · subst h0; rfl
    · rw [if_pos ⟨h0, logN_lt n hn⟩]; rfl
  · rw [List.getElem?_eq_none (by rw [x.1]; omega), List.getElem?_eq_none (by rw [logT_len]; omega)]

/-- the table of powers while it grows -/
def exI (k : Nat) : List UInt8 := expT.take k ++ List.replicate (510 - k) 0
theorem exI_len {k : Nat} (h : k ≤ 510) : (exI k).length = 510 := by simp [exI, expT_len]; omega
theorem exI_zero : exI 0 = List.replicate 510 0 := by simp [exI]
theorem exI_full : exI 510 = expT := by simp [exI]; rw [List.take_of_length_le (by rw [expT_len]; exact Nat.le_refl _)]
theorem exI_step {k : Nat} (h : k < 510) : (exI k).set k (ex k) = exI (k + 1) := by
  unfold exI
  have l1 : (expT.take k).length = k := by rw [List.length_take, expT_len]; omega
  rw [List.set_append_right _ _ (by omega), l1, Nat.sub_self, show 510 - k = (510 - (k + 1)) + 1 by omega, List.replicate_succ, List.set_cons_zero, List.take_add_one, exp_at h]
  simp
theorem exI_get {k j : Nat} (hj : j < k) (h : k ≤ 510) : (exI k)[j]? = some (ex j) := by
  unfold exI
  rw [List.getElem?_append_left (by rw [List.length_take, expT_len]; omega), List.getElem?_take_of_lt hj, exp_at (by omega)]

theorem init_W {a am : Addr} {t1 t2 t3 t4 t5 : Tok} (N₀ : Nm (tgl am) [Str.ofString "int"] h) (f : FnD h a 3 (Str.ofString "init_tables") [.int 285 t3, .int 2 t4, .int 8 t5]) (g : FnD h am 6 (Str.ofString "gf_mult_noLUT") [.int 0 t1, .int 256 t2, .bool true]) (o : Ok 2 A)
    (q : ∀ r h' al ae ob t, Ext h h' → h'.get? r = some ob → LO [.ref al, .ref ae, .int 255 t] ob → h.objs.size ≤ al → h.objs.size ≤ ae → h'.get? al = some (bl logT) → h'.get? ae = some (bl expT) → Q (.ref r) h') : W w A (call (.ref a) []) Q h := by
  refine rFnD (binds := [(Str.ofString "prim", .int 285 t3), (Str.ofString "generator", .int 2 t4), (Str.ofString "c_exp", .int 8 t5)]) N₀.lim f (o.less (by decide))
    (fun s T pm cd doc e => BindsTo.of_defaults rfl e rfl rfl rfl) (locs rfl) (by decide +kernel) fun cd h₁ F => ?_
  have o1 : Ok 1 (A.deeper (ev (fnS (stAt 3)) h.objs.size a (Str.ofString "init_tables" ++ ".<locals>.") cd [])) := o.deeper _
  have hh := o1.handled
  have N := N₀.ext F.keep
  refine rCons <| rAssign <| rB1n N <| rBin <| rBin <| rInt fun u1 => rLocal F rfl <| wPowN (m := 2) (n := 8) (by decide) (by decide) fun u2 => rInt fun u3 => wSub fun u4 => wIntInt ?_
  have e1 : (((2 ^ 8 : Nat) : Int) - 1) = 255 := by decide
  rw [e1]
  refine rStore F fun h₂ F => ?_
  have N := N₀.ext F.keep
  refine rCons <| rAssign <| rT1n N <| rBin <| rLocal F rfl <| rInt fun u5 => wMulN (m := 255) (n := 2) (by decide) fun u6 => baInt_W (by decide) (by decide) fun ae h₃ x3 f3 e3 => ?_
  have e3 : h₃.get? ae = some (bl (exI 0)) := by rw [e3, exI_zero]; rfl
  have fae : h.objs.size ≤ ae := ((F.new x3 f3 e3).objs _ (.head _)).2.2
  have F := F.new x3 f3 e3
  refine rStore F fun h₄ F => ?_
  have N := N₀.ext F.keep
  refine rCons <| rAssign <| rT1n N <| rBin <| rLocal F rfl <| rInt fun u7 => wAddN (m := 255) (n := 1) fun u8 => baInt_W (by decide) (by decide) fun al h₅ x5 f5 e5 => ?_
  have e5 : h₅.get? al = some (bl (List.replicate 256 0)) := by rw [e5]; rfl
  have fal : h.objs.size ≤ al := ((F.new x5 f5 e5).objs _ (.head _)).2.2
  have F := F.new x5 f5 e5
  refine rStore F fun h₆ F => ?_
  refine rCons <| rAssign <| rInt fun u9 => rStore F fun h₇ F => ?_
  have N := N₀.ext F.keep
  -- the first loop
  refine rCons <| rFor <| rT1n N <| rLocal F rfl <| wRange1 fun rg h₈ t u v x8 hrg => ?_
  have F := F.ext x8
  refine rForUp (σ := List UInt8 × Nat × Tok) hh hrg (by decide) (by decide) (by decide) (by decide)
    (fun i c => LgI i c.1 ∧ c.2.1 = i)
    (fun c => [(Str.ofString "x", .int ((ex c.2.1).toNat : Nat) c.2.2), (Str.ofString "gf_log", .ref al), (Str.ofString "gf_exp", .ref ae), (Str.ofString "field_charac", .int 255 u4), (Str.ofString "prim", .int 285 t3), (Str.ofString "generator", .int 2 t4)])
    (fun c => [(al, bl c.1), (ae, bl (exI c.2.1))]) (List.replicate 256 0, 0, u9) (F.pick _ ⟨rfl, rfl, rfl, rfl, rfl, rfl, trivial⟩) ⟨LgI.start, rfl⟩ ?_ ?_
  · rintro i ⟨l, j, tx⟩ h₉ ti I oI hi ⟨hL, hj⟩ F
    have hj : j = i := hj
    subst hj
    have hL : LgI j l := hL
    have hi : j < 255 := by simpa using hi
    have F : Fm h h.objs.size h₉ [(Str.ofString "i", .int (0 + (j : Int)) ti), (Str.ofString "x", .int ((ex j).toNat : Nat) tx), (Str.ofString "gf_log", .ref al), (Str.ofString "gf_exp", .ref ae), (Str.ofString "field_charac", .int 255 u4), (Str.ofString "prim", .int 285 t3), (Str.ofString "generator", .int 2 t4)] [(I, oI), (al, bl l), (ae, bl (exI j))] := F
    rw [Int.zero_add] at F
    have xl := (ex j).toNat_lt
    have zE := exI_len (k := j) (by omega)
    refine rCons <| rStoreSub <| rLocal F rfl <| rLocal F rfl <| rLocal F rfl <| wBaSet (F.get (a := ae) (.tail _ (.tail _ (.head _)))) (by omega) (by rw [zE]; omega) (by rw [zE]; decide) (by omega) (by omega) fun h₁₀ sb e10 => ?_
    rw [Int.toNat_natCast, Int.toNat_natCast, Nat.toUInt8_eq, UInt8.ofNat_toNat, exI_step (by omega)] at e10
    have F := F.turnAt (l₁ := [(I, oI), (al, bl l)]) (l₂ := []) sb e10
    refine rCons <| rStoreSub <| rLocal F rfl <| rLocal F rfl <| rLocal F rfl <| wBaSet (F.get (a := al) (.tail _ (.head _))) (by omega) (by rw [hL.1]; omega) (by rw [hL.1]; decide) (by omega) (by omega) fun h₁₁ sb e11 => ?_
    rw [Int.toNat_natCast, Int.toNat_natCast] at e11
    have F := F.turnAt (l₁ := [(I, oI)]) (l₂ := [(ae, bl (exI (j + 1)))]) sb e11
    have N := N₀.ext F.keep
    have g := g.ext F.keep
    refine rCons <| rAssign <| rOwn4n N <| rLocal F rfl <| rLocal F rfl <| rLocal F rfl <| rBin <| rLocal F rfl <| rInt fun u10 => wAddN (m := 255) (n := 1) fun u11 => ⟨let ⟨_, _, _, _, e, _⟩ := g; ⟨_, _, e, rfl⟩, noLUT_W N.lim g o1 (ex j).toNat_lt fun h₁₂ u12 x12 => ?_⟩
    have F := F.ext x12
    refine rStore F fun h₁₃ F => rNil ⟨(l.set (ex j).toNat j.toUInt8, j + 1, u12), ⟨hL.step hi, rfl⟩, ?_⟩
    have e12 : xt (ex j).toNat = (ex (j + 1)).toNat := by rw [ex_succ, gmul_two]
    rw [e12] at F
    exact F.pick _ ⟨rfl, rfl, rfl, rfl, rfl, rfl, trivial⟩
  · rintro ⟨l, j, tx⟩ h₉ ⟨hL, hj⟩ F
    have hj : j = 255 := hj
    subst hj
    have hL : LgI 255 l := hL
    obtain rfl := hL.fin
    have F : Fm h h.objs.size h₉ [(Str.ofString "x", .int ((ex 255).toNat : Nat) tx), (Str.ofString "gf_log", .ref al), (Str.ofString "gf_exp", .ref ae), (Str.ofString "field_charac", .int 255 u4), (Str.ofString "prim", .int 285 t3), (Str.ofString "generator", .int 2 t4)] [(al, bl logT), (ae, bl (exI 255))] := F
    have N := N₀.ext F.keep
    refine rCons <| rFor <| rT2n N <| rLocal F rfl <| rBin <| rLocal F rfl <| rInt fun u5 => wMulN (m := 255) (n := 2) (by decide) fun u6 => wRange2 fun rg h₁₀ t u v x10 hrg => ?_
    have F := F.ext x10
    refine rForUp (σ := Nat) hh hrg (by decide) (by decide) (by decide) (by decide) (fun i c => c = i)
      (fun c => [(Str.ofString "gf_log", .ref al), (Str.ofString "gf_exp", .ref ae), (Str.ofString "field_charac", .int 255 u4)])
      (fun c => [(al, bl logT), (ae, bl (exI (255 + c)))]) 0 (F.pick _ ⟨rfl, rfl, rfl, trivial⟩) rfl ?_ ?_
    · rintro i c h₁₁ ti I oI hi rfl F
      have hi : c < 255 := by simpa using hi
      have zE := exI_len (k := 255 + c) (by omega)
      have eI : (255 : Int) + (c : Int) = ((255 + c : Nat) : Int) := by omega
      rw [eI] at F
      refine rCons <| rStoreSub <| rSubBa <| rLocal F rfl <| rBin <| rLocal F rfl <| rLocal F rfl <| wSub fun u7 => ⟨_, _, rfl, F.get (a := ae) (.tail _ (.tail _ (.head _))), wBaGet (F.get (a := ae) (.tail _ (.tail _ (.head _)))) (by omega) (by omega) (x := ex c) ?_ fun u8 => ?_⟩
      · rw [show (((255 + c : Nat) : Int) - 255).toNat = c by omega]; exact exI_get (by omega) (by omega)
      have xl := (ex c).toNat_lt
      refine rLocal F rfl <| rLocal F rfl <| wBaSet (F.get (a := ae) (.tail _ (.tail _ (.head _)))) (by omega) (by rw [zE]; omega) (by rw [zE]; decide) (by omega) (by omega) fun h₁₂ sb e12 => rNil ?_
      rw [Int.toNat_natCast, Int.toNat_natCast, Nat.toUInt8_eq, UInt8.ofNat_toNat, show ex c = ex (255 + c) from ex_congr (by omega), exI_step (by omega)] at e12
      have F := F.turnAt (l₁ := [(I, oI), (al, bl logT)]) (l₂ := []) sb e12
      exact ⟨c + 1, rfl, F.pick _ ⟨rfl, rfl, rfl, trivial⟩⟩
    · rintro c h₁₁ hc F
      have hc : c = 255 := hc
      subst hc
      refine rCons <| rReturn <| rList <| rEl <| rLocal F rfl <| rEl <| rLocal F rfl <| rEl <| rLocal F rfl <| rEl0 ⟨by simp, ?_⟩
      have F := F.push { cls := .type "list", data := .seq [Value.ref al, Value.ref ae, Value.int 255 u4].toArray }
      refine q _ _ al ae _ u4 F.keep (F.get (.head _)) (LO.new _) fal fae (F.get (.tail _ (.head _))) ?_
      rw [← exI_full]
      exact F.get (.tail _ (.tail _ (.head _)))
end
end
end Mine

/-! part MTop3 -/
namespace Mine
noncomputable section
open PySem PySem.W PyProof.Rows
open Sem (wp)
def fnP : Stmt → Pos
  | .FunctionDef _ _ _ _ _ _ _ _ _ p => p
  | _ => default
/-- where the text's code objects lie -/
def Plc : List Pos → List Value → Prop
  | [], vs => vs = []
  | p :: r, vs => ∃ c rest, vs = rawInt p.line :: rawInt p.col :: .ref c :: rest ∧ Plc r rest
theorem Plc.none {pos : Pos} : ∀ {ls : List Pos} {vs : List Value}, Plc ls vs → (ls.all fun p => !(((p.line : Int) == (pos.line : Int)) && ((p.col : Int) == (pos.col : Int)))) = true → codeAmong pos vs = Option.none
  | [], vs, h, _ => by
    have h : vs = [] := h
    subst h; rfl
  | p :: r, vs, ⟨c, rest, e, h⟩, a => by
    subst e
    rw [List.all_cons, Bool.and_eq_true] at a
    have a1 : (((p.line : Int) == (pos.line : Int)) && ((p.col : Int) == (pos.col : Int))) = false := by rw [← Bool.not_eq_true']; exact a.1
    unfold rawInt codeAmong
    rw [if_neg (by rw [a1]; exact Bool.false_ne_true)]
    exact h.none a.2
theorem Plc.snoc {p : Pos} {c : Addr} : ∀ {ls : List Pos} {vs : List Value}, Plc ls vs → Plc (ls ++ [p]) (vs ++ [rawInt p.line, rawInt p.col, .ref c])
  | [], vs, h => by
    have h : vs = [] := h
    subst h
    exact ⟨c, [], rfl, rfl⟩
  | q :: r, vs, ⟨c', rest, e, h⟩ => by
    subst e
    exact ⟨c', _, rfl, h.snoc⟩
def ovr (bs : List (Str × Value)) (m : Str → Option Value) : Str → Option Value := fun x => match bs.lookup x with | some v => some v | none => m x
theorem ovr_cons (x : Str) (v : Value) (bs : List (Str × Value)) (m : Str → Option Value) : (fun y => if y = x then some v else ovr bs m y) = ovr ((x, v) :: bs) m := funext fun y => by
  unfold ovr
  rw [List.lookup_cons]
  by_cases q : y = x
  · subst q; simp
  · rw [if_neg q, beq_eq_false_iff_ne.mpr q]
theorem ovr_at {bs : List (Str × Value)} {m : Str → Option Value} {x : Str} {v : Value} (h : bs.lookup x = some v) : ovr bs m x = some v := by unfold ovr; rw [h]
theorem ovr_not {bs : List (Str × Value)} {m : Str → Option Value} {x : Str} (h : bs.lookup x = none) : ovr bs m x = m x := by unfold ovr; rw [h]

/-- a plain def, and one with defaults, above the line N -/
def FnA (N : Nat) (h : Heap) (a : Addr) (i : Nat) (name : Str) : Prop := N ≤ a ∧ ∃ pm c', N ≤ c' ∧ h.get? a = some { cls := .type "function", data := .func (plainDef name (fnA (stAt i)) (fnB (stAt i)) (fnS (stAt i)) pm (.ref c')) } ∧ h.CodeRec (.ref c') name
def FnDA (N : Nat) (h : Heap) (a : Addr) (i : Nat) (name : Str) (vs : List Value) : Prop := N ≤ a ∧ ∃ T pm c' doc, N ≤ c' ∧ N ≤ T ∧ h.get? a = some { cls := .type "function", data := .func (defFd name name (fnA (stAt i)) (fnB (stAt i)) (fnS (stAt i)) mainGlobals (.ref T) .none none pm (.ref c') doc) } ∧ h.CodeRec (.ref c') name ∧ h.get? T = some { cls := .type "tuple", data := .seq vs.toArray }
theorem FnA.up {N : Nat} {h h' : Heap} {a : Addr} {i : Nat} {name : Str} (f : FnA N h a i name) (k : ∀ b o, N ≤ b → h.get? b = some o → h'.get? b = some o) : FnA N h' a i name :=
  let ⟨l, pm, c', lc, e, c⟩ := f; ⟨l, pm, c', lc, k _ _ l e, c.at fun o => k _ o lc⟩
theorem FnDA.up {N : Nat} {h h' : Heap} {a : Addr} {i : Nat} {name : Str} {vs : List Value} (f : FnDA N h a i name vs) (k : ∀ b o, N ≤ b → h.get? b = some o → h'.get? b = some o) : FnDA N h' a i name vs :=
  let ⟨l, T, pm, c', doc, lc, lT, e, c, t⟩ := f; ⟨l, T, pm, c', doc, lc, lT, k _ _ l e, c.at fun o => k _ o lc, k _ _ lT t⟩
theorem FnA.fn {N : Nat} {h : Heap} {a : Addr} {i : Nat} {name : Str} (f : FnA N h a i name) : Fn h a i name := let ⟨_, pm, c', _, e, c⟩ := f; ⟨pm, _, e, c⟩
theorem FnDA.fn {N : Nat} {h : Heap} {a : Addr} {i : Nat} {name : Str} {vs : List Value} (f : FnDA N h a i name vs) : FnD h a i name vs := let ⟨_, T, pm, c', doc, _, _, e, c, t⟩ := f; ⟨T, pm, _, doc, e, c, t⟩

/-- the module's text under way: h₁ where it began -/
structure Tp (h₁ : Heap) (m₀ : Str → Option Value) (c Pl : Addr) (h : Heap) (bs : List (Str × Value)) (ps : Array Value) (fs : List (Addr × Nat × Str)) (ds : List (Addr × Nat × Str × List Value)) (os : List (Addr × Obj)) : Prop where
  main : h.Main (ovr bs m₀) c Pl ps
  keep : ∀ b o, b ≠ Pl → b ≠ mainGlobals → h₁.get? b = some o → h.get? b = some o
  lowP : Pl < h₁.objs.size
  lowG : mainGlobals < h₁.objs.size
  size : h₁.objs.size ≤ h.objs.size
  fns : ∀ p ∈ fs, FnA h₁.objs.size h p.1 p.2.1 p.2.2
  obs : ∀ p ∈ os, h₁.objs.size ≤ p.1 ∧ h.get? p.1 = some p.2
  dfs : ∀ p ∈ ds, FnDA h₁.objs.size h p.1 p.2.1 p.2.2.1 p.2.2.2
  blt : ∃ mb, h.Ns builtinsNs mb ∧ ∀ x v, blts.lookup x = some v → mb x = some v
  lim : h.NoLimit
  nob : builtinsNs ≠ Pl ∧ cStatics ≠ Pl

section
variable {w : World} {A : Around} {h h' h₁ : Heap} {m₀ : Str → Option Value} {c Pl Fr : Addr} {bs : List (Str × Value)} {ps ps' : Array Value} {fs : List (Addr × Nat × Str)} {ds : List (Addr × Nat × Str × List Value)} {os : List (Addr × Obj)} {Q : Flow → Heap → Prop}

theorem Tp.go (T : Tp h₁ m₀ c Pl h bs ps fs ds os) {bs' : List (Str × Value)} (hm : h'.Main (ovr bs' m₀) c Pl ps') (keep : ∀ b o, b ≠ Pl → b ≠ mainGlobals → h.get? b = some o → h'.get? b = some o) (hz : h₁.objs.size ≤ h'.objs.size) : Tp h₁ m₀ c Pl h' bs' ps' fs ds os := by
  have kN : ∀ b o, h₁.objs.size ≤ b → h.get? b = some o → h'.get? b = some o := fun b o l e => keep b o (Nat.ne_of_gt (Nat.lt_of_lt_of_le T.lowP l)) (Nat.ne_of_gt (Nat.lt_of_lt_of_le T.lowG l)) e
  exact ⟨hm, fun b o h1 h2 e => keep b o h1 h2 (T.keep b o h1 h2 e), T.lowP, T.lowG, hz, fun p hp => (T.fns p hp).up kN, fun p hp => ⟨(T.obs p hp).1, kN _ _ (T.obs p hp).1 (T.obs p hp).2⟩, fun p hp => (T.dfs p hp).up kN,
    let ⟨mb, a, b⟩ := T.blt; ⟨mb, a.at fun o e => keep _ o T.nob.1 (by decide) e, b⟩, T.lim.at fun o e => keep _ o T.nob.2 (by decide) e, T.nob⟩
theorem Tp.ext (T : Tp h₁ m₀ c Pl h bs ps fs ds os) (x : Ext h h') (hz : h₁.objs.size ≤ h'.objs.size) : Tp h₁ m₀ c Pl h' bs ps fs ds os := T.go (T.main.keeps x) (fun b o _ _ e => x b o e) hz
theorem Tp.obj (T : Tp h₁ m₀ c Pl h bs ps fs ds os) {a : Addr} {o : Obj} (l : h₁.objs.size ≤ a) (e : h.get? a = some o) : Tp h₁ m₀ c Pl h bs ps fs ds ((a, o) :: os) :=
  { T with obs := fun p hp => (List.mem_cons.mp hp).elim (fun q => q ▸ ⟨l, e⟩) (T.obs p) }
theorem Tp.nm (T : Tp h₁ m₀ c Pl h bs ps fs ds os) {gl : List (Str × Value)} {no : List Str} (hg : Picks bs gl) (hn : ∀ x, no.contains x = true → ovr bs m₀ x = none) : Nm gl no h :=
  ⟨⟨_, T.main.g, fun x v e => ovr_at (hg.at x v e), hn⟩, T.blt, T.lim⟩

/-- a name of the module is bound -/
theorem tStore {x : Str} {v : Value} {Q : Unit → Heap → Prop} (T : Tp h₁ m₀ c Pl h bs ps fs ds os) (k : ∀ h', Tp h₁ m₀ c Pl h' ((x, v) :: bs) ps fs ds os → Heap.SameBut mainGlobals h h' → Q () h')
    (hl : prg.main.scope.names.lookup x = some .local := by rfl) (hnb : x ≠ "__builtins__" := by decide) : W w A (storeName (mainEnv prg c Fr) x v) Q h := by
  refine W.of fun s hs => wpAny_storeName_local (env := mainEnv prg c Fr) (m := ovr bs m₀) hl (by rw [hs]; exact T.main.g) (fun h' hg' hs' => ⟨rfl, rfl, k h' ?_ (hs ▸ hs')⟩) rfl
  rw [hs] at hs'
  have keep : ∀ b o, b ≠ Pl → b ≠ mainGlobals → h.get? b = some o → h'.get? b = some o := fun b o _ hb e => (hs'.2 _ hb).trans e
  have hm := T.main
  obtain ⟨bm, o, hbm, hne0, hneG, hneP, hbo, hrest⟩ := hm.bmod
  refine T.go ⟨ovr_cons x v bs m₀ ▸ hg', hm.code.sameBut hs' (Nat.ne_of_gt hm.low.1) (Nat.ne_of_gt hm.low.2), hm.low, ⟨bm, o, ?_, hne0, hneG, hneP, (hs'.2 _ hneG).trans hbo, hrest⟩⟩ keep (Nat.le_trans T.size (Nat.le_of_eq hs'.1.symm))
  rw [← ovr_cons]
  simp only [Ne.symm hnb, if_false]; exact hbm

/-- a plain def -/
theorem tDef {i : Nat} {name : Str} {ls : List Pos} (pl : Plc ls ps.toList) (T : Tp h₁ m₀ c Pl h bs ps fs ds os)
    (k : ∀ h' a ps', Plc (ls ++ [fnP (stAt i)]) ps'.toList → Tp h₁ m₀ c Pl h' ((name, .ref a) :: bs) ps' ((a, i, name) :: fs) ds os → Q .next h')
    (hst : stAt i = .FunctionDef name (fnA (stAt i)) (fnB (stAt i)) [] none [] (fnS (stAt i)) none name (fnP (stAt i)))
    (hexec : PlainDefTree name (fnA (stAt i)) (fnB (stAt i)) (fnS (stAt i)) (fnP (stAt i))) (hfree : ∀ x ∈ (fnS (stAt i)).names, x.2 ≠ .free) (hdoc : docOf (fnB (stAt i)) = none) (hloc : prg.main.scope.names.lookup name = some .local)
    (hq : qualnameIn { scope := prg.main.scope, locals := mainGlobals, globals := mainGlobals, cells := [] } name name = name)
    (hnb : name ≠ "__builtins__") (hnf : (ls.all fun p => !(((p.line : Int) == ((fnP (stAt i)).line : Int)) && ((p.col : Int) == ((fnP (stAt i)).col : Int)))) = true) : W w A (exec (stAt i) (mainEnv prg c Fr)) Q h := by
  rw [hst]
  refine W.of fun s hs => wpAny_plainDefN hexec hfree hdoc hloc hq (by rw [hs]; exact T.main) (fun a c' h' tk ha hm hf hcd htb keep => ⟨rfl, rfl, k h' a (ps ++ #[rawInt (fnP (stAt i)).line, rawInt (fnP (stAt i)).col, .ref c']) (by rw [Array.toList_append]; exact pl.snoc) ?_⟩) hnb rfl (pl.none hnf)
  rw [hs] at ha hcd keep
  rw [ovr_cons] at hm
  have T' := T.go (fs := fs) (ds := ds) hm keep (Nat.le_trans T.size (Nat.le_trans ha (Nat.le_of_lt (Heap.lt_size hf))))
  refine ⟨T'.main, T'.keep, T'.lowP, T'.lowG, T'.size, fun p hp => ?_, T'.obs, T'.dfs, T'.blt, T'.lim, T'.nob⟩
  rcases List.mem_cons.mp hp with rfl | hp
  · exact ⟨Nat.le_trans T.size ha, _, c', Nat.le_trans T.size hcd.1, hf, hcd.2⟩
  · exact T'.fns p hp

/-- a def with defaults -/
theorem tDefD {i : Nat} {name : Str} {ls : List Pos} (pl : Plc ls ps.toList) (T : Tp h₁ m₀ c Pl h bs ps fs ds os)
    (k : ∀ h' a ps' vs, ConstVals (fnA (stAt i)).defaults vs → Plc (ls ++ [fnP (stAt i)]) ps'.toList → Tp h₁ m₀ c Pl h' ((name, .ref a) :: bs) ps' fs ((a, i, name, vs) :: ds) os → Q .next h')
    (hst : stAt i = .FunctionDef name (fnA (stAt i)) (fnB (stAt i)) [] none [] (fnS (stAt i)) none name (fnP (stAt i)))
    (hkw : (fnA (stAt i)).kwonlyargs = []) (hkd : (fnA (stAt i)).kw_defaults = []) (hne : (fnA (stAt i)).defaults ≠ []) (hconst : ∀ e ∈ (fnA (stAt i)).defaults, e.isPlainConst = true) (hann0 : annTrees (fnA (stAt i)) none (mainEnv prg c Fr) = [])
    (hfree : ∀ x ∈ (fnS (stAt i)).names, x.2 ≠ .free) (hloc : prg.main.scope.names.lookup name = some .local)
    (hq : qualnameIn { scope := prg.main.scope, locals := mainGlobals, globals := mainGlobals, cells := [] } name name = name)
    (hnb : name ≠ "__builtins__") (hnf : (ls.all fun p => !(((p.line : Int) == ((fnP (stAt i)).line : Int)) && ((p.col : Int) == ((fnP (stAt i)).col : Int)))) = true) : W w A (exec (stAt i) (mainEnv prg c Fr)) Q h := by
  rw [hst]
  refine W.of fun s hs => wpAny_defStmt0N hkw hkd hconst hann0 hfree hloc hq (by rw [hs]; exact T.main) (fun a c' doc dV vs h' tk ha hm hf hcv hD hcd htb keep => ⟨rfl, rfl, k h' a (ps ++ #[rawInt (fnP (stAt i)).line, rawInt (fnP (stAt i)).col, .ref c']) vs hcv (by rw [Array.toList_append]; exact pl.snoc) ?_⟩) hnb rfl (pl.none hnf)
  rw [hs] at ha hcd keep hD
  rw [ovr_cons] at hm
  have T' := T.go (fs := fs) (ds := ds) hm keep (Nat.le_trans T.size (Nat.le_trans ha (Nat.le_of_lt (Heap.lt_size hf))))
  have hvs : vs ≠ [] := by
    rintro rfl
    cases hd : (fnA (stAt i)).defaults with
    | nil => exact hne hd
    | cons e es => rw [hd] at hcv; exact hcv
  rcases hD with ⟨e, _⟩ | ⟨_, Tt, rfl, hT, hg⟩
  · exact absurd e hvs
  refine ⟨T'.main, T'.keep, T'.lowP, T'.lowG, T'.size, T'.fns, T'.obs, fun p hp => ?_, T'.blt, T'.lim, T'.nob⟩
  rcases List.mem_cons.mp hp with rfl | hp
  · exact ⟨Nat.le_trans T.size ha, Tt, _, c', doc, Nat.le_trans T.size hcd.1, Nat.le_trans T.size hT, hf, hcd.2, hg⟩
  · exact T'.dfs p hp

/-- a built-in name at the top -/
theorem tNameB {x : Str} {pos : Pos} {v : Value} {Q : Value → Heap → Prop} (T : Tp h₁ m₀ c Pl h bs ps fs ds os) (hn : ovr bs m₀ x = none) (hv : blts.lookup x = some v) (y : Q v h) (hd : (x == ("__debug__" : Str)) = false := by decide) :
    W w A (eval (.Name x pos) (mainEnv prg c Fr)) Q h :=
  W.of fun s hs => by
    obtain ⟨mb, a, b⟩ := T.blt
    exact Calls.Name_module rfl rfl (Calls.loadGlobal_builtin (mg := ovr bs m₀) (mb := mb) (by rw [hs]; exact T.main.g) hn (by rw [hs]; exact a) (b x v hv) ⟨rfl, rfl, hs ▸ y⟩) hd
theorem tNameG {x : Str} {pos : Pos} {v : Value} {Q : Value → Heap → Prop} (T : Tp h₁ m₀ c Pl h bs ps fs ds os) (hv : bs.lookup x = some v) (y : Q v h) (hd : (x == ("__debug__" : Str)) = false := by decide) :
    W w A (eval (.Name x pos) (mainEnv prg c Fr)) Q h :=
  W.of fun s hs => Calls.Name_module rfl rfl (Calls.loadGlobal_global (mg := ovr bs m₀) (by rw [hs]; exact T.main.g) (ovr_at hv) ⟨rfl, rfl, hs ▸ y⟩) hd
/-- f() -/
theorem rCall0 {env : Env} {nm : Str} {a : Addr} {p pos : Pos} {Q : Value → Heap → Prop} (y : W w A (eval (.Name nm p) env) (fun f h₁ => f = .ref a ∧ (∃ o fd, h₁.get? a = some o ∧ o.data = .func fd) ∧ W w A (call (.ref a) []) Q h₁) h) :
    W w A (eval (.Call (.Name nm p) [] [] pos) env) Q h := by
  refine rCall (y.mono fun f h₁ q => ?_)
  obtain ⟨rfl, q⟩ := q
  refine rCwF (args := []) rfl ?_
  unfold evalArgs
  show W w A (spliced [] >>= _) _ h₁
  refine W.bind (rSplice0 ?_)
  refine W.bind (W.pure ?_)
  refine W.holding ?_
  exact W.bind (W.pure (W.bind (W.pure (W.pure q))))
theorem wUnpack3 {env : Env} {cl : Addr} {a b e : Value} {e1 e2 e3 : Expr} {k} {pos : Pos} {R : Unit → Heap → Prop} (hh : A.handled = none) (hc : h.IsList cl [a, b, e].toArray)
    (y : ∀ h', Ext h h' → W w A (assign e1 env a) (fun _ h₁ => W w A (assign e2 env b) (fun _ h₂ => W w A (assign e3 env e) R h₂) h₁) h')
    (he : assignEach [e1, e2, e3] env = [(false, assign e1 env), (false, assign e2 env), (false, assign e3 env)] := by rfl) : W w A (assign (.Tuple [e1, e2, e3] k pos) env (.ref cl)) R h := by
  rw [arm_assign_Tuple, he]
  refine W.bind (W.standAt ?_)
  unfold unpack
  refine W.bind (W.holding (wItems3L hh hc fun h' ex => ?_))
  refine W.bind (W.holding ((y h' ex).mono fun _ h₁ q => W.bind (W.holding (q.mono fun _ h₂ q => W.bind (W.holding (q.mono fun _ h₃ q => W.pure q))))))
end
end
end Mine

/-! part MTop4 -/
namespace Mine
noncomputable section
open PySem PySem.W PyProof.Rows
open Sem (wp)
theorem boot_names (P : Params) : (((boot_heap P).nsKeys mainGlobals).all fun k => startupNames.contains k) = true := by kernel_rfl
theorem boot_none (P : Params) {x : Str} (h : startupNames.contains x = false) : (boot_heap P).nsMap mainGlobals x = none := by
  refine Heap.nsMap_none fun hx => ?_
  rw [List.all_eq_true.mp (boot_names P) x hx] at h
  cases h
theorem boot_bm (P : Params) : (boot_heap P).nsMap mainGlobals "__builtins__" = some (.ref 4) := by kernel_rfl
theorem boot_stat (P : Params) : (boot_heap P).isNs cStatics = true := by kernel_rfl
theorem boot_lim (P : Params) : (boot_heap P).nsMap cStatics "sys.recursionlimit" = none := by kernel_rfl
theorem boot_bltAt (P : Params) {x : Str} {v : Value} (hx : x ≠ "__name__") (e : bootBuiltins x = some v) : (boot_heap P).nsMap builtinsNs x = some v := (Heap.of_bltView (boot_blt P) (boot_bltView P) x hx).trans e
theorem boot_blts (P : Params) : PicksF ((boot_heap P).nsMap builtinsNs) blts :=
  ⟨boot_bltAt P (by decide) (by decide +kernel), boot_bltAt P (by decide) (by decide +kernel), boot_bltAt P (by decide) (by decide +kernel), boot_bltAt P (by decide) (by decide +kernel), boot_bltAt P (by decide) (by decide +kernel), boot_bltAt P (by decide) (by decide +kernel), boot_bltAt P (by decide) (by decide +kernel), trivial⟩

theorem body_eq : behindTheImports prg = [stAt 0, stAt 1, stAt 2, stAt 3, stAt 4, stAt 5, stAt 6, stAt 7, stAt 8, stAt 9, stAt 10, stAt 11, stAt 12, stAt 13, stAt 14, stAt 15, stAt 16] := by kernel_rfl
theorem no_anns : hasAnns (behindTheImports prg) = false := by kernel_rfl
theorem no_doc : docOf (behindTheImports prg) = none := by kernel_rfl
theorem the_law : prg.theDef (Str.ofString "law") = some (fnA (stAt 16), fnB (stAt 16), fnS (stAt 16)) := by kernel_rfl

section
variable {w : World} {A : Around} {h h' h₁ : Heap} {m₀ : Str → Option Value} {c Pl Fr : Addr} {bs : List (Str × Value)} {ps ps' : Array Value} {fs : List (Addr × Nat × Str)} {ds : List (Addr × Nat × Str × List Value)} {os : List (Addr × Obj)} {Q : Flow → Heap → Prop}

/-- what the text's end leaves -/
def TopEnd (h₁ : Heap) (m₀ : Str → Option Value) (c Pl : Addr) (h : Heap) : Prop :=
  ∃ (n1 n2 : Value) (d : Ad) (ai am : Addr) (ps : Array Value) (ds : List (Addr × Nat × Str × List Value)),
    Tp h₁ m₀ c Pl h [(Str.ofString "law", .ref d.law), (Str.ofString "_law_from_roots", .ref d.roots), (Str.ofString "_law_product", .ref d.prod), (Str.ofString "_law_number", .ref d.num), (Str.ofString "__name__", n2), (Str.ofString "field_charac", .int 255 d.tok), (Str.ofString "gf_exp", .ref d.exp), (Str.ofString "gf_log", .ref d.log),
      (Str.ofString "gf_poly_div", .ref d.div), (Str.ofString "gf_poly_mul", .ref d.pmul), (Str.ofString "gf_poly_add", .ref d.add), (Str.ofString "gf_poly_scale", .ref d.scale), (Str.ofString "gf_mult_noLUT", .ref am), (Str.ofString "gf_mul", .ref d.mul), (Str.ofString "gf_inverse", .ref d.inv), (Str.ofString "init_tables", .ref ai),
      (Str.ofString "xrange", .type "range"), (Str.ofString "_bytearray", .type "bytearray"), (Str.ofString "__name__", n1)] ps
      [(d.law, 16, Str.ofString "law"), (d.roots, 15, Str.ofString "_law_from_roots"), (d.prod, 14, Str.ofString "_law_product"), (d.num, 13, Str.ofString "_law_number"), (d.div, 10, Str.ofString "gf_poly_div"), (d.pmul, 9, Str.ofString "gf_poly_mul"), (d.add, 8, Str.ofString "gf_poly_add"), (d.scale, 7, Str.ofString "gf_poly_scale"), (d.mul, 5, Str.ofString "gf_mul"), (d.inv, 4, Str.ofString "gf_inverse")]
      ds [(d.exp, bl expT), (d.log, bl logT)]

theorem cv3 {a b c : Expr} {vs : List Value} (h : ConstVals [a, b, c] vs) : ∃ x y z, vs = [x, y, z] ∧ a.ConstVal x ∧ b.ConstVal y ∧ c.ConstVal z := by
  match vs, h with
  | [x, y, z], ⟨h1, h2, h3, _⟩ => exact ⟨x, y, z, rfl, h1, h2, h3⟩

set_option maxHeartbeats 4000000 in
theorem textA (o : Ok 2 A) (T : Tp h₁ m₀ c Pl h [] #[] [] [] []) (hno : ∀ x, startupNames.contains x = false → m₀ x = none)
    (k : ∀ h' n1 ai am al ae t ainv amul asc aadd apm adv ps ds,
      Tp h₁ m₀ c Pl h' [(Str.ofString "field_charac", .int 255 t), (Str.ofString "gf_exp", .ref ae), (Str.ofString "gf_log", .ref al), (Str.ofString "gf_poly_div", .ref adv), (Str.ofString "gf_poly_mul", .ref apm), (Str.ofString "gf_poly_add", .ref aadd), (Str.ofString "gf_poly_scale", .ref asc), (Str.ofString "gf_mult_noLUT", .ref am), (Str.ofString "gf_mul", .ref amul), (Str.ofString "gf_inverse", .ref ainv), (Str.ofString "init_tables", .ref ai),
      (Str.ofString "xrange", .type "range"), (Str.ofString "_bytearray", .type "bytearray"), (Str.ofString "__name__", n1)] ps
      [(adv, 10, Str.ofString "gf_poly_div"), (apm, 9, Str.ofString "gf_poly_mul"), (aadd, 8, Str.ofString "gf_poly_add"), (asc, 7, Str.ofString "gf_poly_scale"), (amul, 5, Str.ofString "gf_mul"), (ainv, 4, Str.ofString "gf_inverse")] ds [(ae, bl expT), (al, bl logT)] →
      Plc [fnP (stAt 3), fnP (stAt 4), fnP (stAt 5), fnP (stAt 6), fnP (stAt 7), fnP (stAt 8), fnP (stAt 9), fnP (stAt 10)] ps.toList →
      W w A (execs [stAt 12, stAt 13, stAt 14, stAt 15, stAt 16] (mainEnv prg c Fr)) Q h') :
    W w A (execs [stAt 0, stAt 1, stAt 2, stAt 3, stAt 4, stAt 5, stAt 6, stAt 7, stAt 8, stAt 9, stAt 10, stAt 11, stAt 12, stAt 13, stAt 14, stAt 15, stAt 16] (mainEnv prg c Fr)) Q h := by
  have hh := o.handled
  have pl : Plc [] (#[] : Array Value).toList := rfl
  refine rCons <| rAssign <| rStr fun t1 => tStore T fun h₂ T _ => ?_
  refine rCons <| rAssign <| tNameB T ((ovr_not rfl).trans (hno _ (by decide))) rfl <| tStore T fun h₃ T _ => ?_
  refine rCons <| rAssign <| tNameB T ((ovr_not rfl).trans (hno _ (by decide))) rfl <| tStore T fun h₄ T _ => ?_
  refine rCons <| tDefD (i := 3) (name := Str.ofString "init_tables") pl T (fun h₅ ai c3 v3 hv3 pl T => ?_) rfl rfl rfl (by decide +kernel) (by decide +kernel) rfl (by decide +kernel) rfl rfl (by decide) (by decide +kernel)
  refine rCons <| tDef (i := 4) (name := Str.ofString "gf_inverse") pl T (fun h₆ ainv c4 pl T => ?_) rfl (fun _ => rfl) (by decide +kernel) rfl rfl rfl (by decide) (by decide +kernel)
  refine rCons <| tDef (i := 5) (name := Str.ofString "gf_mul") pl T (fun h₇ amul c5 pl T => ?_) rfl (fun _ => rfl) (by decide +kernel) rfl rfl rfl (by decide) (by decide +kernel)
  refine rCons <| tDefD (i := 6) (name := Str.ofString "gf_mult_noLUT") pl T (fun h₈ am c6 v6 hv6 pl T => ?_) rfl rfl rfl (by decide +kernel) (by decide +kernel) rfl (by decide +kernel) rfl rfl (by decide) (by decide +kernel)
  refine rCons <| tDef (i := 7) (name := Str.ofString "gf_poly_scale") pl T (fun h₉ asc c7 pl T => ?_) rfl (fun _ => rfl) (by decide +kernel) rfl rfl rfl (by decide) (by decide +kernel)
  refine rCons <| tDef (i := 8) (name := Str.ofString "gf_poly_add") pl T (fun h₁₀ aadd c8 pl T => ?_) rfl (fun _ => rfl) (by decide +kernel) rfl rfl rfl (by decide) (by decide +kernel)
  refine rCons <| tDef (i := 9) (name := Str.ofString "gf_poly_mul") pl T (fun h₁₁ apm c9 pl T => ?_) rfl (fun _ => rfl) (by decide +kernel) rfl rfl rfl (by decide) (by decide +kernel)
  refine rCons <| tDef (i := 10) (name := Str.ofString "gf_poly_div") pl T (fun h₁₂ adv c10 pl T => ?_) rfl (fun _ => rfl) (by decide +kernel) rfl rfl rfl (by decide) (by decide +kernel)
  obtain ⟨x, y, z, rfl, ⟨u1, rfl⟩, ⟨u2, rfl⟩, ⟨u3, rfl⟩⟩ := cv3 hv3
  obtain ⟨x, y, z, rfl, ⟨u4, rfl⟩, ⟨u5, rfl⟩, rfl⟩ := cv3 hv6
  have fI := (T.dfs _ (.tail _ (.head _))).fn
  have fM := (T.dfs _ (.head _)).fn
  have N : Nm (tgl am) [Str.ofString "int"] h₁₂ := T.nm ⟨rfl, rfl, rfl, trivial⟩ fun x hx => by
    have : x = Str.ofString "int" := by simpa using hx
    subst this
    exact (ovr_not rfl).trans (hno _ (by decide))
  refine rCons <| rAssignTup (rCall0 (tNameG T rfl ⟨rfl, (let ⟨_, _, _, _, e, _⟩ := fI; ⟨_, _, e, rfl⟩), init_W N fI fM o fun r h₁₃ al ae ob t x13 er lo fal fae el ee => ?_⟩)) rfl
  have sz := T.size
  have T := T.ext x13 (Nat.le_trans sz (Nat.le_trans fal (Nat.le_of_lt (Heap.lt_size el))))
  have T := (T.obj (Nat.le_trans sz fal) el).obj (Nat.le_trans sz fae) ee
  refine wUnpack3 hh (lo.is er) fun h₁₄ x14 => ?_
  have T := T.ext x14 (Nat.le_trans sz (Nat.le_trans fal (Nat.le_of_lt (Heap.lt_size (x14 _ _ el)))))
  refine rAssignN <| tStore T fun h₁₅ T _ => rAssignN <| tStore T fun h₁₆ T _ => rAssignN <| tStore T fun h₁₇ T _ => ?_
  exact k h₁₇ _ ai am al ae t ainv amul asc aadd apm adv _ _ T pl
end
end
end Mine

/-! part MTop5 -/
namespace Mine
noncomputable section
open PySem PySem.W PyProof.Rows
open Sem (wp)
section
variable {w : World} {A : Around} {h h' h₁ : Heap} {m₀ : Str → Option Value} {c Pl Fr : Addr} {ps : Array Value} {ds : List (Addr × Nat × Str × List Value)} {Q : Flow → Heap → Prop}

theorem textB {n1 : Value} {ai am al ae ainv amul asc aadd apm adv : Addr} {t : Tok}
    (T : Tp h₁ m₀ c Pl h [(Str.ofString "field_charac", .int 255 t), (Str.ofString "gf_exp", .ref ae), (Str.ofString "gf_log", .ref al), (Str.ofString "gf_poly_div", .ref adv), (Str.ofString "gf_poly_mul", .ref apm), (Str.ofString "gf_poly_add", .ref aadd), (Str.ofString "gf_poly_scale", .ref asc), (Str.ofString "gf_mult_noLUT", .ref am), (Str.ofString "gf_mul", .ref amul), (Str.ofString "gf_inverse", .ref ainv), (Str.ofString "init_tables", .ref ai),
      (Str.ofString "xrange", .type "range"), (Str.ofString "_bytearray", .type "bytearray"), (Str.ofString "__name__", n1)] ps
      [(adv, 10, Str.ofString "gf_poly_div"), (apm, 9, Str.ofString "gf_poly_mul"), (aadd, 8, Str.ofString "gf_poly_add"), (asc, 7, Str.ofString "gf_poly_scale"), (amul, 5, Str.ofString "gf_mul"), (ainv, 4, Str.ofString "gf_inverse")] ds [(ae, bl expT), (al, bl logT)])
    (pl : Plc [fnP (stAt 3), fnP (stAt 4), fnP (stAt 5), fnP (stAt 6), fnP (stAt 7), fnP (stAt 8), fnP (stAt 9), fnP (stAt 10)] ps.toList)
    (k : ∀ h', TopEnd h₁ m₀ c Pl h' → Q .next h') :
    W w A (execs [stAt 12, stAt 13, stAt 14, stAt 15, stAt 16] (mainEnv prg c Fr)) Q h := by
  refine rCons <| rAssign <| rStr fun t1 => tStore T fun h₂ T _ => ?_
  refine rCons <| tDef (i := 13) (name := Str.ofString "_law_number") pl T (fun h₃ anum c13 pl T => ?_) rfl (fun _ => rfl) (by decide +kernel) rfl rfl rfl (by decide) (by decide +kernel)
  refine rCons <| tDef (i := 14) (name := Str.ofString "_law_product") pl T (fun h₄ aprod c14 pl T => ?_) rfl (fun _ => rfl) (by decide +kernel) rfl rfl rfl (by decide) (by decide +kernel)
  refine rCons <| tDef (i := 15) (name := Str.ofString "_law_from_roots") pl T (fun h₅ aroots c15 pl T => ?_) rfl (fun _ => rfl) (by decide +kernel) rfl rfl rfl (by decide) (by decide +kernel)
  refine rCons <| tDef (i := 16) (name := Str.ofString "law") pl T (fun h₆ alaw c16 pl T => rNil ?_) rfl (fun _ => rfl) (by decide +kernel) rfl rfl rfl (by decide) (by decide +kernel)
  exact k h₆ ⟨n1, _, ⟨ainv, amul, asc, aadd, apm, adv, anum, aprod, aroots, alaw, al, ae, t⟩, ai, am, _, _, T⟩

theorem globalOf_ns {mg : Str → Option Value} (hn : h.Ns mainGlobals mg) (x : Str) : globalOf h x = mg x := by
  obtain ⟨o, es, ep, ho, hd, _, hf⟩ := hn
  have ho' : h.get? mainNs = some o := ho
  unfold globalOf
  rw [ho']
  simp only [hd]
  exact hf x

/-- what the text leaves, over the heap alone -/
structure TopH (w : World) (h : Heap) : Prop where
  keep : ∀ b o, (boot_heap w.params).get? b = some o → b ≠ mainNs → h.get? b = some o
  keyed : keysAreStrs h mainNs
  glob : ∃ mg, h.Ns mainGlobals mg ∧ mg "__builtins__" = some (.ref 4) ∧ (∀ x v, mg x = some v → x ∈ startupNames ∨ x ∈ prg.boundNames) ∧ (∀ x ∈ laidNames, mg x = (boot_heap w.params).nsMap mainGlobals x)
  law : isTheDefsW prg h (Str.ofString "law")
  tf : ∃ d, Gl d h

theorem bound_all : ∀ x ∈ [Str.ofString "law", Str.ofString "_law_from_roots", Str.ofString "_law_product", Str.ofString "_law_number", Str.ofString "__name__", Str.ofString "field_charac", Str.ofString "gf_exp", Str.ofString "gf_log",
      Str.ofString "gf_poly_div", Str.ofString "gf_poly_mul", Str.ofString "gf_poly_add", Str.ofString "gf_poly_scale", Str.ofString "gf_mult_noLUT", Str.ofString "gf_mul", Str.ofString "gf_inverse", Str.ofString "init_tables",
      Str.ofString "xrange", Str.ofString "_bytearray", Str.ofString "__name__"], x ∈ prg.boundNames := by decide +kernel
theorem lookup_mem {bs : List (Str × Value)} {x : Str} {v : Value} : bs.lookup x = some v → x ∈ bs.map (·.1) := by
  induction bs with
  | nil => intro e; cases e
  | cons p r ih =>
    intro e
    rw [List.lookup_cons] at e
    by_cases q : x = p.1
    · exact .inl q |> List.mem_cons.mpr
    · rw [beq_eq_false_iff_ne.mpr q] at e
      exact List.mem_cons.mpr (.inr (ih e))

theorem TopEnd.out (hboot : Ext (boot_heap w.params) h₁) (hPl : (boot_heap w.params).objs.size ≤ Pl) (X : TopEnd h₁ ((boot_heap w.params).nsMap mainGlobals) c Pl h) : TopH w h := by
  obtain ⟨n1, n2, d, ai, am, ps, ds, T⟩ := X
  have hlaw := T.fns _ (.head _)
  have no : ∀ x, noGl.contains x = true → ovr [(Str.ofString "law", .ref d.law), (Str.ofString "_law_from_roots", .ref d.roots), (Str.ofString "_law_product", .ref d.prod), (Str.ofString "_law_number", .ref d.num), (Str.ofString "__name__", n2), (Str.ofString "field_charac", .int 255 d.tok), (Str.ofString "gf_exp", .ref d.exp), (Str.ofString "gf_log", .ref d.log),
      (Str.ofString "gf_poly_div", .ref d.div), (Str.ofString "gf_poly_mul", .ref d.pmul), (Str.ofString "gf_poly_add", .ref d.add), (Str.ofString "gf_poly_scale", .ref d.scale), (Str.ofString "gf_mult_noLUT", .ref am), (Str.ofString "gf_mul", .ref d.mul), (Str.ofString "gf_inverse", .ref d.inv), (Str.ofString "init_tables", .ref ai),
      (Str.ofString "xrange", .type "range"), (Str.ofString "_bytearray", .type "bytearray"), (Str.ofString "__name__", n1)] ((boot_heap w.params).nsMap mainGlobals) x = none := by
    intro x hx
    have hx' : x ∈ noGl := by simpa using hx
    simp only [noGl, List.mem_cons, List.not_mem_nil, or_false] at hx'
    rcases hx' with rfl | rfl | rfl | rfl | rfl | rfl <;> exact (ovr_not rfl).trans (boot_none _ (by decide))
  refine ⟨fun b o e hb => T.keep b o (fun q => absurd (Heap.lt_size e) (by rw [q]; exact Nat.not_lt.mpr hPl)) hb (hboot b o e), ?_, ⟨_, T.main.g, (ovr_not rfl).trans (boot_bm _), fun x v e => ?_, fun x hx => ?_⟩, ?_, ⟨d, ?_⟩⟩
  · obtain ⟨o, es, ep, ho, hd, hk, _⟩ := T.main.g
    exact ⟨o, es, ep, ho, hd, hk⟩
  · unfold ovr at e
    split at e
    · rename_i u hu
      exact .inr (bound_all x (lookup_mem hu))
    · refine .inl ?_
      cases hs : startupNames.contains x with
      | true => simpa using hs
      | false => rw [boot_none _ hs] at e; cases e
  · refine ovr_not ?_
    simp only [laidNames, List.mem_cons, List.not_mem_nil, or_false] at hx
    rcases hx with rfl | rfl | rfl | rfl | rfl <;> rfl
  · obtain ⟨_, pm, c', _, e, _⟩ := hlaw
    exact ⟨d.law, _, _, fnA (stAt 16), fnB (stAt 16), fnS (stAt 16), (globalOf_ns T.main.g _).trans (ovr_at rfl), e, rfl, the_law, rfl, rfl, rfl, rfl, rfl, rfl, rfl, rfl, .inl ⟨rfl, rfl⟩, [], rfl, .inl ⟨rfl, rfl⟩⟩
  · have F : ∀ {p : Addr × Nat × Str}, p ∈ [(d.law, 16, Str.ofString "law"), (d.roots, 15, Str.ofString "_law_from_roots"), (d.prod, 14, Str.ofString "_law_product"), (d.num, 13, Str.ofString "_law_number"), (d.div, 10, Str.ofString "gf_poly_div"), (d.pmul, 9, Str.ofString "gf_poly_mul"), (d.add, 8, Str.ofString "gf_poly_add"), (d.scale, 7, Str.ofString "gf_poly_scale"), (d.mul, 5, Str.ofString "gf_mul"), (d.inv, 4, Str.ofString "gf_inverse")] → Fn h p.1 p.2.1 p.2.2 := fun hp => (T.fns _ hp).fn
    exact ⟨T.nm ⟨rfl, rfl, rfl, rfl, rfl, rfl, rfl, rfl, rfl, rfl, rfl, rfl, rfl, rfl, rfl, trivial⟩ no, F (.tail _ (.tail _ (.tail _ (.tail _ (.tail _ (.tail _ (.tail _ (.tail _ (.tail _ (.head _)))))))))), F (.tail _ (.tail _ (.tail _ (.tail _ (.tail _ (.tail _ (.tail _ (.tail _ (.head _))))))))), F (.tail _ (.tail _ (.tail _ (.tail _ (.tail _ (.tail _ (.tail _ (.head _)))))))), F (.tail _ (.tail _ (.tail _ (.tail _ (.tail _ (.tail _ (.head _))))))), F (.tail _ (.tail _ (.tail _ (.tail _ (.tail _ (.head _)))))), F (.tail _ (.tail _ (.tail _ (.tail _ (.head _))))), F (.tail _ (.tail _ (.tail _ (.head _)))), F (.tail _ (.tail _ (.head _))), F (.tail _ (.head _)), F (.head _),
      (T.obs (d.log, bl logT) (.tail _ (.head _))).2, (T.obs (d.exp, bl expT) (.head _)).2⟩
end

theorem ok3 : Ok 3 callerA := ⟨rfl, by decide, by decide⟩
theorem in0 : ctx0.In callerA := caller_in
theorem cln0 : Cln ctx0 := ⟨by decide +kernel, fun _ h => (nomatch h)⟩

theorem top_W (w : World) : W w callerA (topStub prg).cur (fun fin h' => fin = .done (.ret .none) ∧ TopH w h') (boot_heap w.params) := by
  show W w callerA (do
      let code ← moduleCode prg.main
      let frame ← newBodyFrame code mainNs mainNs
      let _ ← run (.body (behindTheImports prg) { scope := prg.main.scope, locals := mainNs, globals := mainNs, cells := [], code, frame := some frame })
      ret .none) _ _
  have g0 : (boot_heap w.params).Ns mainGlobals ((boot_heap w.params).nsMap mainGlobals) := .of_isNs (boot_isNs _)
  refine W.bind (W.of fun s hs => wpAny_moduleCode fun c Pl h₁ tk hk hc hP hcode => ⟨rfl, rfl, ?_⟩)
  rw [hs] at hk hc hP
  dsimp only
  have x1 : Ext (boot_heap w.params) h₁ := hk
  unfold newBodyFrame
  refine W.bind (W.bind (W.of fun s hs => wpAny_nsGet (a := mainNs) (m := (boot_heap w.params).nsMap mainGlobals) (by rw [hs]; exact g0.keeps x1) ⟨rfl, rfl, ?_⟩))
  rw [hs]
  refine W.of fun s hs => wpAny_alloc ⟨rfl, rfl, ?_⟩
  rw [hs]
  generalize hob : (Obj.mk _ _ _ _ : Obj) = oF
  have x2 : Ext (boot_heap w.params) (h₁.push oF) := x1.trans (Ext.push _ _)
  have gl : mainGlobals < (boot_heap w.params).objs.size := g0.lt
  have T : Tp (h₁.push oF) ((boot_heap w.params).nsMap mainGlobals) c Pl (h₁.push oF) [] #[] [] [] [] := by
    have lP := hcode.lt.2
    have sP : h₁.objs.size < (h₁.push oF).objs.size := by rw [Heap.size_push]; exact Nat.lt_succ_self _
    have g4 : (boot_heap w.params).get? 4 = some (boot_o_4 w.params) := rfl
    have c2 : (boot_heap w.params).Ns cStatics ((boot_heap w.params).nsMap cStatics) := .of_isNs (boot_stat _)
    have b0 : (boot_heap w.params).Ns builtinsNs ((boot_heap w.params).nsMap builtinsNs) := .of_isNs (boot_blt _)
    have nP : ∀ {b : Addr}, b < (boot_heap w.params).objs.size → b ≠ Pl := fun l => Nat.ne_of_lt (Nat.lt_of_lt_of_le l hP)
    refine ⟨⟨g0.keeps x2, hcode.push _, ⟨Nat.lt_of_lt_of_le gl hc, Nat.lt_of_lt_of_le gl hP⟩, ⟨4, _, boot_bm _, by decide, by decide, nP (Heap.lt_size g4), x2 _ _ g4, rfl, rfl, rfl⟩⟩,
      fun _ _ _ _ e => e, Nat.lt_trans lP sP, (g0.keeps x2).lt, Nat.le_refl _, (fun _ hp => nomatch hp), (fun _ hp => nomatch hp), (fun _ hp => nomatch hp), ⟨_, b0.keeps x2, (boot_blts _).at⟩, ⟨_, c2.keeps x2, boot_lim _⟩, nP b0.lt, nP c2.lt⟩
  refine W.bind (W.run (WC.tree rfl ?_))
  show W w (Around.deeper callerA (mainEnv prg c h₁.objs.size)) (do blockStart (behindTheImports prg) (mainEnv prg c h₁.objs.size); return PySem.Fin.done (← (execs (behindTheImports prg) (mainEnv prg c h₁.objs.size)).onRaise (leaving (mainEnv prg c h₁.objs.size)))) _ _
  have hb : blockStart (behindTheImports prg) (mainEnv prg c h₁.objs.size) = pure () := by
    unfold blockStart
    rw [no_anns, no_doc]
    cases interactive (mainEnv prg c h₁.objs.size) <;> rfl
  refine W.bind (W.eq hb (W.bind (W.onRaise ?_)))
  rw [body_eq]
  refine textA (ok3.deeper _) T (fun x hx => boot_none _ hx) fun h' n1 ai am al ae t ainv amul asc aadd apm adv ps ds T pl => ?_
  refine textB T pl fun h'' X => W.pure ?_
  exact W.pure ⟨rfl, X.out x2 hP⟩

theorem call_W {w : World} {h : Heap} {d : Ad} {l : Addr} {vs : List Value} {ns : List Int} (G : Gl d h) (hl : h.IsList l vs.toArray) (hi : IntsAre vs ns) (hz : ns.length ≤ 63) :
    W w callerA (callStub (Str.ofString "law") [.ref l]).cur (fun fin h' => fin = .done (.ret (.bool true)) ∧ Ext h h') h := by
  show W w callerA (do match ← nsGet mainNs (Str.ofString "law") with
      | some f => do ret (← call f [.ref l])
      | none => unsupported "claim.caller:no-such-global") _ _
  obtain ⟨mg, g, hg, _⟩ := G.nm.g
  refine W.bind (W.of fun s hs => wpAny_nsGet (a := mainNs) (m := mg) (by rw [hs]; exact g) ⟨rfl, rfl, ?_⟩)
  rw [hs, hg _ (.ref d.law) rfl]
  exact W.bind (law_W G ok3 hl hi hz fun h' x => W.pure ⟨rfl, x⟩)

theorem the_claim : PySem.Challenge.rw_md0025_01.Holds := by
  refine glue (TF := fun _ h => ∃ d, Gl d h) (fun w h h' ⟨d, G⟩ k => ⟨d, G.ext k⟩) (fun w s₀ e0 g0 => ?_) (fun w s₁ l vs ns ⟨d, G⟩ g1 hl hi hz => ?_)
  · refine Sem.wp_mono _ ctx0 _ (fun fin p s' q => ?_) (fun _ _ _ e => e) _ _ (top_W w s₀ e0 ctx0 default in0 cln0)
    obtain ⟨g, o, e, H⟩ := q
    exact ⟨_, e, ⟨o, fun b ob hb hn => H.keep b ob (e0 ▸ hb) hn, H.keyed, H.glob, H.law, H.tf⟩, g.trans g0⟩
  · refine Sem.wp_mono _ ctx0 _ (fun fin p s' q => ?_) (fun _ _ _ e => e) _ _ (call_W (w := w) G hl hi hz s₁ rfl ctx0 default in0 cln0)
    obtain ⟨g, o, e, x⟩ := q
    exact ⟨_, e, ⟨rfl, x, o⟩, g.trans g1⟩
end
end Mine

theorem PySem.Challenge.cw_md0025_01_holds : PySem.Challenge.rw_md0025_01.Holds :=
  Mine.the_claim
