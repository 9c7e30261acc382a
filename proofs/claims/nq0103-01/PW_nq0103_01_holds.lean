import PyProof.Rows.All
import Wide.All
import OpenK.AllK
import Wide.FinOn
import Lean
import PySem.Challenge.RW_nq0103_01
section
-- Head
open PySem PySem.W PyProof.Rows
set_option Elab.async false
set_option maxRecDepth 100000
set_option maxHeartbeats 8000000
namespace Mine
-- makes the fragment alone (hd0.heap_1): the head's own step is handed back as it came, so nothing is looked at
section
local macro_rules | `(tactic| o_head ($t)) => `(tactic| exact (by assumption : Hook → PySem.Challenge.rw_nq0103_01.row.Holds) $t)
theorem hd0 (k : Hook → PySem.Challenge.rw_nq0103_01.row.Holds) : PySem.Challenge.rw_nq0103_01.row.Holds := by
  k_head
end
noncomputable def as2 : List Addr := [2, 3, 15, 17, 18, 20, 21, 22, 24, 25, 27, 28, 29, 30, 31, 32, 33, 34, 35, 36, 37, 38, 39, 40, 41, 42, 43, 44, 45, 46, 47, 48, 49, 50, 51, 52, 53, 54, 55, 56, 57, 58, 59, 60, 61, 62, 64, 65, 67, 68, 69, 71, 72, 74, 75, 76, 77, 78, 80, 81, 83, 84, 85, 87, 88, 90, 91, 92, 94, 95, 97, 98, 99, 101, 102, 104, 105, 106, 108, 109, 111, 112, 113, 115, 116, 118, 119, 120, 122, 123, 125, 126, 127, 130, 131, 132, 135, 136, 137, 139, 140, 142, 143, 144, 147, 148, 149, 152, 153]
theorem asOk (P : Params) : as2 = (hd0.heap_1 P).map (·.1) := by kernel_rfl
end Mine

end
section
-- Base
open PySem PySem.W PySem.Spec PySem.Calls PyProof.Rows
set_option Elab.async false
set_option maxRecDepth 100000
namespace Mine
noncomputable abbrev prog : Program := PySem.Challenge.rw_nq0103_01.row.prog

noncomputable def Ext (h h' : Heap) : Prop := ∀ b o, h.get? b = some o → h'.get? b = some o

theorem enterP {w : World} {A : Around} {s : Shared} {K : Frag} {f : Addr} {args : Args} {R : Result → Shared → Prop} {name qual : Str} {params : Arguments} {body : List Stmt} {scope : Scope} {dV kV doc pm cdv ct oc : Value} {an od : Option Addr} {osl : Array (Option Value)} {binds : List (Str × Value)}
    (X : K.In s.heap) (hlim : s.heap.NoLimit)
    (ho : K.lookup f = some ⟨oc, od, .func (fnOf name qual params body scope dV kV doc pm an cdv ct), osl⟩) (hcd : codeIn K cdv qual = true) (hroom : A.depth < recursionLimit)
    (hbind : BindsTo s (fnOf name qual params body scope dV kV doc pm an cdv ct) args binds) (hloc : ∀ y ∈ binds, scope.names.lookup y.1 = some .local)
    (h : ∀ L h₁, Fr s.heap L h₁ (fun y => binds.reverse.lookup y) → News s.heap L h₁ [] →
      wpAny (model prog w) (A.deeper (envOf qual scope L f cdv)) (execs body (envOf qual scope L f cdv))
        (fun fl s' => R (.ok (.ret (match fl with | .ret v => v | _ => .none))) s') (fun _ _ => False)
        { s with heap := h₁, toks := s.toks + binds.length })
    (hco : scope.isCoroutine = false) (hgen : scope.isGenerator = false) (hk : scope.kind = .function)
    (hcell : ∀ x ∈ scope.names, x.2 ≠ .cell) : codeAny (model prog w) A (.call (.ref f) args) R s := by
  refine codeAny_call_def (fd := fnOf name qual params body scope dV kV doc pm an cdv ct) (body := body) (binds := binds) hroom (X _ _ ho) rfl hlim (codeRec_of X hcd) rfl hbind hcell hloc (fun h₁ hns hk₁ => ?_) hco hgen hk
  exact wpAny_mono (h s.heap.objs.size h₁ ⟨hns, hk₁, Nat.le_refl _⟩ News.nil) (fun _ _ x => x) (fun _ _ x => x.elim)
end Mine
namespace Mine
/-- enters a def; the objects of muts may be changed by it -/
theorem enterM {w : World} {A : Around} {s : Shared} {K : Frag} {f : Addr} {args : Args} {R : Result → Shared → Prop} {name qual : Str} {params : Arguments} {body : List Stmt} {scope : Scope} {dV kV doc pm cdv ct oc : Value} {an od : Option Addr} {osl : Array (Option Value)} {binds : List (Str × Value)}
    {muts : List (Addr × Obj)} (hm : ∀ p ∈ muts, s.heap.get? p.1 = some p.2)
    (X : K.In s.heap) (hlim : s.heap.NoLimit)
    (ho : K.lookup f = some ⟨oc, od, .func (fnOf name qual params body scope dV kV doc pm an cdv ct), osl⟩) (hcd : codeIn K cdv qual = true) (hroom : A.depth < recursionLimit)
    (hbind : BindsTo s (fnOf name qual params body scope dV kV doc pm an cdv ct) args binds) (hloc : ∀ y ∈ binds, scope.names.lookup y.1 = some .local)
    (h : ∀ L h₁, (∀ p ∈ muts, p.1 < L) → Fr (hideAll s.heap (muts.map (·.1))) L h₁ (fun y => binds.reverse.lookup y) → News (hideAll s.heap (muts.map (·.1))) L h₁ muts →
      wpAny (model prog w) (A.deeper (envOf qual scope L f cdv)) (execs body (envOf qual scope L f cdv))
        (fun fl s' => R (.ok (.ret (match fl with | .ret v => v | _ => .none))) s') (fun _ _ => False)
        { s with heap := h₁, toks := s.toks + binds.length })
    (hco : scope.isCoroutine = false) (hgen : scope.isGenerator = false) (hk : scope.kind = .function)
    (hcell : ∀ x ∈ scope.names, x.2 ≠ .cell) : codeAny (model prog w) A (.call (.ref f) args) R s := by
  refine codeAny_call_def (fd := fnOf name qual params body scope dV kV doc pm an cdv ct) (body := body) (binds := binds) hroom (X _ _ ho) rfl hlim (codeRec_of X hcd) rfl hbind hcell hloc (fun h₁ hns hk₁ => ?_) hco hgen hk
  refine wpAny_mono (h s.heap.objs.size h₁ (fun p hp => Heap.lt_size (hm p hp)) ⟨hns, fun b o e => hk₁ b o (of_hideAll _ e), Nat.le_of_eq (hideAll_size _ _)⟩ fun p hp => ⟨hk₁ _ _ (hm p hp), Nat.ne_of_lt (Heap.lt_size (hm p hp)), hideAll_none _ (List.mem_map_of_mem hp)⟩) (fun _ _ x => x) (fun _ _ x => x.elim)
end Mine

end
section
-- Rd
open PySem PySem.W PySem.Spec PySem.Calls PyProof.Rows
set_option Elab.async false
set_option maxRecDepth 100000
namespace Mine
/-- runs a tree that only reads: the objects of the loads are given in their order; the addresses met are told -/
noncomputable def rd {α : Type} (g : Setting) : Nat → List Obj → Sem α → Option (α × List Addr)
  | 0, _, _ => none
  | _ + 1, [], .pure a => some (a, [])
  | n + 1, os, .rule _ k => rd g n os (k ())
  | n + 1, os, .at _ k => rd g n os (k ())
  | n + 1, os, .point _ k => rd g n os (k ())
  | n + 1, o :: os, .load a _ k => match rd g n os (k o) with
    | some (v, as) => some (v, a :: as)
    | none => none
  | _ + 1, _, _ => none
noncomputable def AllAt (h : Heap) : List Addr → List Obj → Prop
  | [], [] => True
  | a :: as, o :: os => h.get? a = some o ∧ AllAt h as os
  | _, _ => False
theorem rd_sound {α : Type} {M : Model} {A : Around} {E : Value → Shared → Prop} {s : Shared} {Q : α → Shared → Prop} (g : Setting) :
    ∀ (n : Nat) (os : List Obj) (t : Sem α) (v : α) (as : List Addr), rd g n os t = some (v, as) → AllAt s.heap as os → Q v s → wpAny M A t Q E s
  | 0, _, _, _, _, h, _, _ => by cases h
  | n + 1, os, t, v, as, h, ha, hq => by
    cases t with
    | pure a =>
      cases os with
      | nil => simp only [rd, Option.some.injEq, Prod.mk.injEq] at h; obtain ⟨rfl, rfl⟩ := h; exact wpAny_pure hq
      | cons o os => simp [rd] at h
    | rule tag k => simp only [rd] at h; exact fun Γ p hΓ => rd_sound g n os _ v as h ha hq Γ p hΓ
    | «at» q k => simp only [rd] at h; exact fun Γ p hΓ => rd_sound g n os _ v as h ha hq Γ _ hΓ
    | point l k => simp only [rd] at h; exact fun Γ p hΓ => rd_sound g n os _ v as h ha hq Γ p hΓ
    | load a q k =>
      cases os with
      | nil => simp [rd] at h
      | cons o os =>
        simp only [rd] at h
        split at h
        · rename_i v' as' e
          simp only [Option.some.injEq, Prod.mk.injEq] at h
          obtain ⟨rfl, rfl⟩ := h
          exact wpAny_bind (m := loadPart a q) (f := k) (wpAny_loadPart ha.1 (rd_sound g n os _ _ _ e ha.2 hq))
        · cases h
    | _ => simp [rd] at h
end Mine

end
section
-- Ev
open PySem PySem.W PySem.Spec PySem.Calls PyProof.Rows
set_option Elab.async false
set_option maxRecDepth 100000
namespace Mine
/-- a ledger of objects, the number of objects made, the next token -/
structure Lg where
  L : List (Addr × Obj)
  m : Nat
  tk : Nat
inductive Job : Type → Type 1
  | tree {α : Type} (t : Sem α) : Job α
  | code (c : Code) : Job Flow
noncomputable abbrev Ob := (Addr ⊕ Lg) × (Addr ⊕ Lg)
noncomputable abbrev Out (α : Type) := Option (Except Value α × List Nat × Lg × List Ob)
noncomputable def also {α : Type} (ob : List Ob) : Out α → Out α
  | some (r, hs, st, ob') => some (r, hs, st, ob ++ ob')
  | none => none
noncomputable def markOk : Option Value → Bool
  | none => true
  | some _ => false
noncomputable abbrev Orc := Code → Lg → Option (Flow × Lg × List Ob)
noncomputable def noOrc : Orc := fun _ _ => none
/-- runs a tree with a ledger; each load or update is told which object of the ledger it meets; the pairs of addresses that must be equal are handed out -/
noncomputable def ev (N : Nat) (g : Setting) (orc : Orc) (den : Code → Option (Sem Fin)) : Nat → (α : Type) → Job α → List Nat → Lg → Out α
  | 0, _, _, _, _ => none
  | n + 1, _, .code c, hs, st => match orc c st with
    | some (f, st', ob) => some (.ok f, hs, st', ob)
    | none => match den c with
    | none => none
    | some t => match ev N g orc den n Fin (.tree t) hs st with
      | none => none
      | some (.error e, hs', st', ob) => some (.error e, hs', st', ob)
      | some (.ok (.done f), hs', st', ob) => some (.ok f, hs', st', ob)
      | some (.ok (.again c'), hs', st', ob) => match c'.quiet with
        | true => also ob (ev N g orc den n Flow (.code c') hs' st')
        | false => none
  | n + 1, α, .tree t, hs, st => match t with
    | .pure a => some (.ok a, hs, st, [])
    | .raise e => some (.error e, hs, st, [])
    | .rule _ k => ev N g orc den n α (.tree (k ())) hs st
    | .at _ k => ev N g orc den n α (.tree (k ())) hs st
    | .point _ k => ev N g orc den n α (.tree (k ())) hs st
    | .ask k => ev N g orc den n α (.tree (k g)) hs st
    | .fresh k => ev N g orc den n α (.tree (k st.tk)) hs { st with tk := st.tk + 1 }
    | .load a _ k => match hs with
      | [] => none
      | i :: hs' => match st.L[i]? with
        | none => none
        | some p => also [(.inl a, .inl p.1)] (ev N g orc den n α (.tree (k p.2)) hs' st)
    | .loadIfAlive a k => match hs with
      | [] => none
      | i :: hs' => match st.L[i]? with
        | none => none
        | some p => also [(.inl a, .inl p.1)] (ev N g orc den n α (.tree (k (some p.2))) hs' st)
    | .update a _ f k => match hs with
      | [] => none
      | i :: hs' => match st.L[i]? with
        | none => none
        | some p => match (f p.2).isFreed with
          | true => none
          | false => also [(.inl a, .inl p.1)] (ev N g orc den n α (.tree (k ())) hs' { st with L := st.L.set i (p.1, f p.2) })
    | .alloc o k => match o.isFreed with
      | true => none
      | false => ev N g orc den n α (.tree (k (N + st.m))) hs { st with L := st.L ++ [(N + st.m, o)], m := st.m + 1 }
    | .call c hd _ _ k => match markOk hd with
      | false => none
      | true => match ev N g orc den n Flow (.code c) hs st with
        | none => none
        | some (r, hs', st', ob) => also ob (ev N g orc den n α (.tree (k r)) hs' st')
    | _ => none

structure Rp (h₀ : Heap) (N : Nat) (h : Heap) (st : Lg) : Prop where
  size : h.objs.size = N + st.m
  get : ∀ p ∈ st.L, h.get? p.1 = some p.2
  nd : (st.L.map (·.1)).Nodup
  keep : ∀ b o, h₀.get? b = some o → (∀ p ∈ st.L, p.1 ≠ b) → h.get? b = some o
theorem Rp.at {h₀ h : Heap} {N : Nat} {st : Lg} (D : Rp h₀ N h st) {i : Nat} {p : Addr × Obj} (e : st.L[i]? = some p) : h.get? p.1 = some p.2 := D.get p (List.mem_of_getElem? e)
theorem Rp.alloc {h₀ h : Heap} {N : Nat} {st : Lg} (D : Rp h₀ N h st) {o : Obj} (hf : o.isFreed = false) :
    Rp h₀ N (h.push o) { st with L := st.L ++ [(N + st.m, o)], m := st.m + 1 } := by
  refine ⟨by rw [Heap.size_push, D.size]; rfl, fun p hp => ?_, ?_, fun b o' e hb => ?_⟩
  · rcases List.mem_append.mp hp with hp | hp
    · exact Heap.get?_push_of_some _ (D.get p hp)
    · rw [List.mem_singleton.mp hp]; rw [← D.size]; exact Heap.get?_push_size _ hf
  · simp only [List.map_append, List.map_cons, List.map_nil]
    refine List.nodup_append.mpr ⟨D.nd, by simp, fun a ha b hb => ?_⟩
    rw [List.mem_singleton.mp hb]
    obtain ⟨p, hp, rfl⟩ := List.mem_map.mp ha
    have := Heap.lt_size (D.get p hp)
    rw [D.size] at this
    exact Nat.ne_of_lt this
  · exact Heap.get?_push_of_some _ (D.keep b o' e fun p hp => hb p (List.mem_append_left _ hp))
theorem set_map_fst {l : List (Addr × Obj)} {i : Nat} {p : Addr × Obj} {o : Obj} (e : l[i]? = some p) : (l.set i (p.1, o)).map (·.1) = l.map (·.1) := by
  rw [List.map_set]
  have : (l.map (·.1))[i]? = some p.1 := by rw [List.getElem?_map, e]; rfl
  exact PySem.W.X.set_same this
theorem Rp.update {h₀ h : Heap} {N : Nat} {st : Lg} (D : Rp h₀ N h st) {i : Nat} {p : Addr × Obj} {f : Obj → Obj} (e : st.L[i]? = some p) (hf : (f p.2).isFreed = false) :
    Rp h₀ N (h.update p.1 f) { st with L := st.L.set i (p.1, f p.2) } := by
  have ho := D.at e
  have hs : Heap.SameBut p.1 h (h.update p.1 f) := Heap.SameBut.update ..
  have em := set_map_fst (o := f p.2) e
  obtain ⟨hl, hgi⟩ := List.getElem?_eq_some_iff.mp e
  refine ⟨by rw [hs.1, D.size], fun q hq => ?_, by rw [em]; exact D.nd, fun b o' eb hb => ?_⟩
  · by_cases hqa : q.1 = p.1
    · have hx : (p.1, f p.2) ∈ st.L.set i (p.1, f p.2) := List.mem_set hl _
      have : q = (p.1, f p.2) := PySem.W.X.key_unique (by rw [em]; exact D.nd) hq hx hqa
      subst this
      exact Heap.get?_update_self f ho hf
    · rcases List.mem_or_eq_of_mem_set hq with hq | rfl
      · exact (hs.2 _ hqa).trans (D.get q hq)
      · exact absurd rfl hqa
  · have hb' : ∀ q ∈ st.L, q.1 ≠ b := fun q hq e' => by
      have : q.1 ∈ (st.L.set i (p.1, f p.2)).map (·.1) := by rw [em]; exact List.mem_map_of_mem hq
      obtain ⟨r, hr, er⟩ := List.mem_map.mp this
      exact hb r hr (er.trans e')
    have hpb : b ≠ p.1 := fun e' => hb' p (List.mem_of_getElem? e) e'.symm
    exact (hs.2 b hpb).trans (D.keep b o' eb hb')
theorem also_some {α : Type} {ob : List Ob} {x : Out α} {r hs st ob'} (h : also ob x = some (r, hs, st, ob')) : ∃ ob₂, x = some (r, hs, st, ob₂) ∧ ob' = ob ++ ob₂ := by
  cases x with
  | none => cases h
  | some y => obtain ⟨r', hs', st', o'⟩ := y; simp only [also, Option.some.injEq, Prod.mk.injEq] at h; obtain ⟨rfl, rfl, rfl, rfl⟩ := h; exact ⟨_, rfl, rfl⟩

noncomputable def Back {α : Type} (h₀ : Heap) (N : Nat) (s : Shared) (st : Lg) (r : Except Value α) (Q : α → Shared → Prop) (E : Value → Shared → Prop) : Prop :=
  ∀ h', Rp h₀ N h' st → match r with
    | .ok v => Q v { s with heap := h', toks := st.tk }
    | .error e => E e { s with heap := h', toks := st.tk }
noncomputable def SoundT (prog : Program) (w : World) (h₀ : Heap) (N : Nat) (orc : Orc) (den : Code → Option (Sem Fin)) (n : Nat) : Prop :=
  ∀ (α : Type) (t : Sem α) (hs : List Nat) (st : Lg) (r : Except Value α) (hs' : List Nat) (st' : Lg) (ob : List Ob) (A : Around) (s : Shared) (Q : α → Shared → Prop) (E : Value → Shared → Prop),
    ev N ⟨prog, w.params⟩ orc den n α (.tree t) hs st = some (r, hs', st', ob) → (∀ p ∈ ob, p.1 = p.2) → Rp h₀ N s.heap st → s.toks = st.tk → Back h₀ N s st' r Q E → wpAny (model prog w) A t Q E s
noncomputable def SoundC (prog : Program) (w : World) (h₀ : Heap) (N : Nat) (orc : Orc) (den : Code → Option (Sem Fin)) (n : Nat) : Prop :=
  ∀ (c : Code) (hs : List Nat) (st : Lg) (r : Result) (hs' : List Nat) (st' : Lg) (ob : List Ob) (A : Around) (s : Shared) (R : Result → Shared → Prop),
    ev N ⟨prog, w.params⟩ orc den n Flow (.code c) hs st = some (r, hs', st', ob) → (∀ p ∈ ob, p.1 = p.2) → Rp h₀ N s.heap st → s.toks = st.tk →
    (∀ h', Rp h₀ N h' st' → R r { s with heap := h', toks := st'.tk }) → codeAny (model prog w) A c R s
theorem shared_toks {s : Shared} {t : Nat} (e : s.toks = t) : { s with heap := s.heap, toks := t } = s := by cases s; cases e; rfl

noncomputable def OrcOk (w : World) (h₀ : Heap) (N : Nat) (orc : Orc) : Prop := ∀ (c : Code) (st : Lg) (f : Flow) (st' : Lg) (ob : List Ob) (A : Around) (s : Shared) (R : Result → Shared → Prop),
    orc c st = some (f, st', ob) → (∀ p ∈ ob, p.1 = p.2) → Rp h₀ N s.heap st → s.toks = st.tk → (∀ h', Rp h₀ N h' st' → R (.ok f) { s with heap := h', toks := st'.tk }) → codeAny (model prog w) A c R s
theorem noOrc_ok {w : World} {h₀ : Heap} {N : Nat} : OrcOk w h₀ N noOrc := by intro c st f st' ob A s R h; cases h
theorem ev_sound {w : World} {h₀ : Heap} {N : Nat} {orc : Orc} {den : Code → Option (Sem Fin)} (horc : OrcOk w h₀ N orc) (hden : ∀ c t, den c = some t → denote table c = t) :
    ∀ n, SoundT prog w h₀ N orc den n ∧ SoundC prog w h₀ N orc den n
  | 0 => ⟨(by intro α t hs st r hs' st' ob A s Q E h; cases h), (by intro c hs st r hs' st' ob A s R h; cases h)⟩
  | n + 1 => by
    obtain ⟨IT, IC⟩ := ev_sound (w := w) (h₀ := h₀) (N := N) horc hden n
    refine ⟨?_, ?_⟩
    · intro α t hs st r hs' st' ob A s Q E h ho D ht hb
      cases t with
      | pure a =>
        simp only [ev, Option.some.injEq, Prod.mk.injEq] at h
        obtain ⟨rfl, rfl, rfl, rfl⟩ := h
        have := hb s.heap D
        rw [shared_toks ht] at this
        exact wpAny_pure this
      | raise e =>
        simp only [ev, Option.some.injEq, Prod.mk.injEq] at h
        obtain ⟨rfl, rfl, rfl, rfl⟩ := h
        have := hb s.heap D
        rw [shared_toks ht] at this
        exact wpAny_throw this
      | rule tag k => exact fun Γ p hΓ => IT _ _ _ _ _ _ _ _ A s Q E h ho D ht hb Γ p hΓ
      | «at» q k => exact fun Γ p hΓ => IT _ _ _ _ _ _ _ _ A s Q E h ho D ht hb Γ q hΓ
      | point l k => exact fun Γ p hΓ => IT _ _ _ _ _ _ _ _ A s Q E h ho D ht hb Γ p hΓ
      | ask k => exact fun Γ p hΓ => IT _ _ _ _ _ _ _ _ A s Q E h ho D ht hb Γ p hΓ
      | fresh k =>
        simp only [ev] at h
        refine wpAny_bind (m := fresh) (f := k) (wpAny_fresh ?_)
        rw [ht]
        exact IT _ _ _ _ _ _ _ _ A _ Q E h ho ⟨D.1, D.2, D.3, D.4⟩ rfl hb
      | load a q k =>
        simp only [ev] at h
        split at h
        · cases h
        · split at h
          · cases h
          · rename_i i hs₁ p e
            obtain ⟨ob₂, h₂, rfl⟩ := also_some h
            have ea : a = p.1 := Sum.inl.inj (ho (.inl a, .inl p.1) (by simp))
            refine wpAny_bind (m := loadPart a q) (f := k) (wpAny_loadPart (o := p.2) (by rw [ea]; exact D.at e) ?_)
            exact IT _ _ _ _ _ _ _ _ A s Q E h₂ (fun x hx => ho x (List.mem_append_right _ hx)) D ht hb
      | loadIfAlive a k =>
        simp only [ev] at h
        split at h
        · cases h
        · split at h
          · cases h
          · rename_i i hs₁ p e
            obtain ⟨ob₂, h₂, rfl⟩ := also_some h
            have ea : a = p.1 := Sum.inl.inj (ho (.inl a, .inl p.1) (by simp))
            have hg : s.heap.get? a = some p.2 := by rw [ea]; exact D.at e
            intro Γ p' hΓ
            show Sem.wp _ _ (k (s.heap.get? a)) _ _ _ _
            rw [hg]
            exact IT _ _ _ _ _ _ _ _ A s Q E h₂ (fun x hx => ho x (List.mem_append_right _ hx)) D ht hb Γ p' hΓ
      | update a q f k =>
        simp only [ev] at h
        split at h
        · cases h
        · split at h
          · cases h
          · rename_i i hs₁ p e
            split at h
            · cases h
            · rename_i hf
              obtain ⟨ob₂, h₂, rfl⟩ := also_some h
              have ea : a = p.1 := Sum.inl.inj (ho (.inl a, .inl p.1) (by simp))
              subst ea
              refine wpAny_bind (m := updatePart p.1 q f) (f := k) (wpAny_updatePart (D.at e) ?_)
              exact IT _ _ _ _ _ _ _ _ A _ Q E h₂ (fun x hx => ho x (List.mem_append_right _ hx)) (D.update e hf) ht hb
      | alloc o k =>
        simp only [ev] at h
        split at h
        · cases h
        · rename_i hf
          refine wpAny_bind (m := alloc o) (f := k) (wpAny_alloc ?_)
          rw [D.size]
          exact IT _ _ _ _ _ _ _ _ A _ Q E h ho (D.alloc hf) ht hb
      | call c hd gd l k =>
        simp only [ev] at h
        split at h
        · cases h
        · rename_i hm
          split at h
          · cases h
          · rename_i r₁ hs₁ st₁ ob₁ e
            obtain ⟨ob₂, h₂, rfl⟩ := also_some h
            have hnb : hd ≠ some byPass := by rintro rfl; cases hm
            intro Γ p hΓ
            refine wpCode_mono (fun _ _ q => q Γ p hΓ) ((IC c hs st r₁ hs₁ st₁ ob₁ (A.mark hd) s (fun r s' => wpAny (model prog w) A (k r) Q E s') e (fun x hx => ho x (List.mem_append_left _ hx)) D ht fun h' D' => ?_) _ p rfl (hΓ.enter c hd p hnb))
            exact IT _ _ _ _ _ _ _ _ A _ Q E h₂ (fun x hx => ho x (List.mem_append_right _ hx)) D' rfl hb
      | _ => simp only [ev] at h; cases h
    · intro c hs st r hs' st' ob A s R h ho D ht hb
      simp only [ev] at h
      split at h
      · rename_i f st₁ ob₁ e
        simp only [Option.some.injEq, Prod.mk.injEq] at h
        obtain ⟨rfl, rfl, rfl, rfl⟩ := h
        exact horc c st _ _ _ A s R e ho D ht hb
      split at h
      · cases h
      · rename_i t hdt
        have hd := hden c t hdt
        refine codeAny_of_tree ?_
        show wpAny _ _ (denote table c) _ _ _
        rw [hd]
        split at h
        · cases h
        · rename_i e hs₁ st₁ ob₁ h₁
          simp only [Option.some.injEq, Prod.mk.injEq] at h
          obtain ⟨rfl, rfl, rfl, rfl⟩ := h
          exact IT _ _ _ _ _ _ _ _ _ s _ _ h₁ ho D ht fun h' D' => hb h' D'
        · rename_i f hs₁ st₁ ob₁ h₁
          simp only [Option.some.injEq, Prod.mk.injEq] at h
          obtain ⟨rfl, rfl, rfl, rfl⟩ := h
          exact IT _ _ _ _ _ _ _ _ _ s _ _ h₁ ho D ht fun h' D' => hb h' D'
        · rename_i c' hs₁ st₁ ob₁ h₁
          split at h
          · rename_i hq
            obtain ⟨ob₂, h₂, rfl⟩ := also_some h
            refine IT _ _ _ _ _ _ _ _ _ s _ _ h₁ (fun x hx => ho x (List.mem_append_left _ hx)) D ht fun h' D' => ?_
            exact ⟨hq, IC c' hs₁ st₁ r hs' st' ob₂ A _ R h₂ (fun x hx => ho x (List.mem_append_right _ hx)) D' rfl hb⟩
          · cases h

noncomputable def dupo (l : List (Addr ⊕ Lg)) : List Ob := l.map fun a => (a, a)
noncomputable def dup (l : List Addr) : List Ob := dupo (l.map .inl)
theorem dupo_ok {l : List (Addr ⊕ Lg)} : ∀ p ∈ dupo l, p.1 = p.2 := by
  intro p hp
  obtain ⟨a, _, rfl⟩ := List.mem_map.mp hp
  rfl
theorem dup_ok {l : List Addr} : ∀ p ∈ dup l, p.1 = p.2 := by
  intro p hp
  obtain ⟨a, _, rfl⟩ := List.mem_map.mp hp
  rfl
noncomputable def lg {α : Type} : Out α → Lg
  | some (_, _, st', _) => st'
  | none => ⟨[], 0, 0⟩
section
variable {w : World} {h₀ : Heap} {N : Nat} {orc : Orc} {den : Code → Option (Sem Fin)} {A : Around} {E : Value → Shared → Prop} {s : Shared} {st st' : Lg} {α β : Type} {m : Sem α} {f : α → Sem β} {Q : β → Shared → Prop} {v : α}
/-- one action is run by the kernel, the state after it is named -/
theorem evb (D : Rp h₀ N s.heap st) (ht : s.toks = st.tk) (horc : OrcOk w h₀ N orc) (hden : ∀ c t, den c = some t → denote table c = t) (n : Nat) (hs : List Nat) (l : List Addr) (v : α)
    (he : ev N ⟨prog, w.params⟩ orc den n α (.tree m) hs st = some (.ok v, [], lg (ev N ⟨prog, w.params⟩ orc den n α (.tree m) hs st), dup l))
    (h : ∀ h', Rp h₀ N h' (lg (ev N ⟨prog, w.params⟩ orc den n α (.tree m) hs st)) → wpAny (model prog w) A (f v) Q E { s with heap := h', toks := (lg (ev N ⟨prog, w.params⟩ orc den n α (.tree m) hs st)).tk }) :
    wpAny (model prog w) A (m >>= f) Q E s :=
  wpAny_bind ((ev_sound horc hden n).1 α m hs st _ _ _ _ A s _ _ he dup_ok D ht fun h' D' => h h' D')
/-- the same, where nothing changes -/
theorem evr (D : Rp h₀ N s.heap st) (ht : s.toks = st.tk) (horc : OrcOk w h₀ N orc) (hden : ∀ c t, den c = some t → denote table c = t) (n : Nat) (hs : List Nat) (l : List Addr) (v : α)
    (he : ev N ⟨prog, w.params⟩ orc den n α (.tree m) hs st = some (.ok v, [], st, dup l))
    (h : ∀ h', Rp h₀ N h' st → wpAny (model prog w) A (f v) Q E { s with heap := h', toks := st.tk }) :
    wpAny (model prog w) A (m >>= f) Q E s :=
  wpAny_bind ((ev_sound horc hden n).1 α m hs st _ _ _ _ A s _ _ he dup_ok D ht fun h' D' => h h' D')
end
end Mine

end
section
-- Den
open PySem PySem.W PySem.Spec PySem.Calls PyProof.Rows
set_option Elab.async false
set_option maxRecDepth 100000
namespace Mine
noncomputable def den : Code → Option (Sem Fin)
  | .builtin id args => match entriesT.find (PySem.code id) with
    | some b => some (b args)
    | none => none
  | c => some (denote table c)
theorem den_ok : ∀ c t, den c = some t → denote table c = t := by
  intro c t h
  cases c with
  | builtin id args =>
    simp only [den] at h
    split at h
    · rename_i b e
      cases h
      simp only [denote, entryFor_of_tree e]
    · cases h
  | _ => simp only [den, Option.some.injEq] at h; exact h
/-- a ledger begins at any heap -/
theorem Rp.start {h : Heap} {L : List (Addr × Obj)} {tk : Nat} (hg : ∀ p ∈ L, h.get? p.1 = some p.2) (hn : (L.map (·.1)).Nodup) : Rp h h.objs.size h ⟨L, 0, tk⟩ :=
  ⟨rfl, hg, hn, fun _ _ e _ => e⟩
end Mine

end
section
-- Orc
open PySem PySem.W PySem.Spec PySem.Calls PyProof.Rows
set_option Elab.async false
set_option maxRecDepth 100000
namespace Mine
theorem collect_code {w : World} {A : Around} {s : Shared} {R : Result → Shared → Prop} {l : Addr} {o : Obj} {xs : Array Value} {n : Nat} (ho : s.heap.get? l = some o) (hc : o.cls = .type "list") (hd : o.data = .seq xs n) (hsz : xs.size ≤ sizeLine)
    (h : R (.ok (.ret (.ref s.heap.objs.size))) { s with heap := (s.heap.push (seqObj "list" #[] 0)).update s.heap.objs.size (Obj.mapSeq (· ++ xs)) }) :
    codeAny (model prog w) A (.builtin "proto.collect" ⟨[.ref l], []⟩) R s := by
  refine codeAny_builtin F.entry_proto_collect ?_
  show wpAny _ _ (do again (.builtin "list.__iadd__" ⟨[← newList [], .ref l], []⟩)) _ _ s
  refine wpAny_bind (wpAny_newList (wpAny_pure ⟨plainId_quiet F.plain_list_iadd _, codeAny_builtin F.entry_list_iadd ?_⟩))
  show wpAny _ _ (Builtin.List.listExtendWith (.ref s.heap.objs.size) (.ref l) (.ref s.heap.objs.size)) _ _ { s with heap := s.heap.push (seqObj "list" #[] 0) }
  unfold Builtin.List.listExtendWith
  have ho' : (s.heap.push (seqObj "list" #[] 0)).get? l = some o := Heap.get?_push_of_some _ ho
  refine wpAny_bind (wpAny_typeOf (T := "list") ⟨o, ho', hc⟩ ?_)
  have ht : (Value.type "list" == Value.type "list") = true := by rfl
  rw [if_pos (by rw [ht]; simp)]
  refine wpAny_bind (listItems_at ho' hd ?_)
  refine wpAny_bind (listItems_at (xs := #[]) (n := 0) (Heap.get?_push_size _ rfl) rfl ?_)
  rw [if_neg (by simp)]
  refine wpAny_bind (listUpdate_at (xs := #[]) (n := 0) (Heap.get?_push_size _ rfl) rfl ?_ (Nat.zero_le _) (by show (#[] ++ xs).size ≤ sizeLine + 1; simp only [Array.size_append]; simp; omega))
  exact wpAny_pure h
noncomputable def orcC (N i : Nat) : Orc := fun c st => match c with
  | .builtin id ⟨[.ref a], []⟩ => match decide (id = "proto.collect") with
    | true => match st.L[i]? with
      | some (b, ⟨.type t, _, .seq xs _, _⟩) => match decide (t = "list" ∧ xs.size ≤ 8) with
        | true => some (.ret (.ref (N + st.m)), { st with L := (st.L ++ [(N + st.m, seqObj "list" #[] 0)]).set st.L.length (N + st.m, Obj.mapSeq (· ++ xs) (seqObj "list" #[] 0)), m := st.m + 1 }, [(.inl a, .inl b)])
        | false => none
      | _ => none
    | false => none
  | _ => none
theorem orcC_ok {w : World} {h₀ : Heap} {N i : Nat} : OrcOk w h₀ N (orcC N i) := by
  intro c st f st' ob A s R h ho D ht hb
  unfold orcC at h
  split at h
  · rename_i id a
    split at h
    · rename_i hid
      split at h
      · rename_i b t d xs n sl e
        split at h
        · rename_i hT
          simp only [Option.some.injEq, Prod.mk.injEq] at h
          obtain ⟨rfl, rfl, rfl⟩ := h
          have ea : a = b := Sum.inl.inj (ho (.inl a, .inl b) (by simp))
          have := of_decide_eq_true hid
          obtain ⟨ht', hz⟩ := of_decide_eq_true hT
          subst this; subst ea; subst ht'
          have D₁ := D.alloc (o := seqObj "list" #[] 0) rfl
          have D₂ := D₁.update (i := st.L.length) (p := (N + st.m, seqObj "list" #[] 0)) (f := Obj.mapSeq (· ++ xs)) (by simp) rfl
          refine collect_code (D.at e) rfl rfl (Nat.le_trans hz (by decide)) ?_
          have := hb _ D₂
          rw [D.size]
          have hs : s = ⟨s.heap, s.gens, s.drawn, st.tk, s.os⟩ := by cases s; cases ht; rfl
          rw [hs]
          exact this
        · cases h
      · cases h
    · cases h
  · cases h
end Mine

end
section
-- NW
open PySem PySem.W PySem.W.X PySem.Spec PySem.Calls PyProof.Rows
set_option Elab.async false
set_option maxRecDepth 100000
set_option maxHeartbeats 1000000
namespace Mine
noncomputable abbrev ent (h : Int) (k : Str) (t : Tok) (v : Value) : DictEntry := ⟨h, .str k t, v⟩
structure TNv where
  h : Nat → Int
  t : Nat → Nat
  f : Nat → FuncData
  i : Int
noncomputable abbrev fnObj (f : FuncData) : Obj := ⟨.type "function", none, .func f, #[]⟩
noncomputable def tnNs (x : Nat) (u : TNv) : Array DictEntry := #[ent (u.h 0) "__module__" (u.t 0) (.str "cpy313.functools" (u.t 1)), ent (u.h 1) "__qualname__" (u.t 2) (.str "cmp_to_key.<locals>.K" (u.t 3)), ent (u.h 2) "__firstlineno__" (u.t 4) (.int u.i (u.t 5)),
  ent (u.h 3) "__slots__" (u.t 6) (.ref (x + 155 + 7)), ent (u.h 4) "__init__" (u.t 7) (.ref (x + 155 + 14)), ent (u.h 5) "__lt__" (u.t 8) (.ref (x + 155 + 22)), ent (u.h 6) "__gt__" (u.t 9) (.ref (x + 155 + 30)), ent (u.h 7) "__eq__" (u.t 10) (.ref (x + 155 + 38)),
  ent (u.h 8) "__le__" (u.t 11) (.ref (x + 155 + 46)), ent (u.h 9) "__ge__" (u.t 12) (.ref (x + 155 + 54)), ent (u.h 10) "__hash__" (u.t 13) .none, ent (u.h 11) "__static_attributes__" (u.t 14) (.ref (x + 155 + 55))]
noncomputable def tnL (x : Nat) (u : TNv) : List (Addr × Obj) := [(x + 155, ⟨.type "tuple", none, .seq #[.type "object"] 0, #[]⟩), (x + 155 + 2, ⟨.type "dict", none, .dict (tnNs x u) 12, #[]⟩), (x + 155 + 7, ⟨.type "list", none, .seq #[.str "obj" (u.t 15)] 0, #[]⟩),
  (x + 155 + 14, fnObj (u.f 0)), (x + 155 + 22, fnObj (u.f 1)), (x + 155 + 30, fnObj (u.f 2)), (x + 155 + 38, fnObj (u.f 3)), (x + 155 + 46, fnObj (u.f 4)), (x + 155 + 54, fnObj (u.f 5)), (x + 155 + 55, ⟨.type "tuple", none, .seq #[.str "obj" (u.t 16)] 0, #[]⟩), (2, { cls := .none, data := .dict #[] })]
noncomputable def tnSt (x : Nat) (u : TNv) (tk : Nat) : Lg := ⟨tnL x u, 56, tk⟩
noncomputable abbrev tnObjs (x : Nat) (u : TNv) : Addr × Obj := (x + 155 + 56, ⟨.type "list", none, .seq #[.str "obj" (u.t 15)] 1, #[]⟩)
noncomputable def tnA (x : Nat) (u : TNv) (tk : Nat) : Lg := ⟨tnL x u ++ [tnObjs x u], 57, tk⟩
noncomputable def tnB (x : Nat) (u : TNv) (tk : Nat) : Lg := ⟨tnL x u ++ [tnObjs x u, (x + 155 + 57, ⟨.type "dict", none, .dict (tnNs x u) 0, #[]⟩)], 58, tk⟩
noncomputable def tnC (x : Nat) (u : TNv) (tk : Nat) (es : Array DictEntry) (n : Nat) (o : Obj) (more : List (Addr × Obj)) (m : Nat) : Lg := ⟨tnL x u ++ [tnObjs x u, (x + 155 + 57, ⟨.type "dict", none, .dict es n, #[]⟩), (x + 155 + 58, o)] ++ more, m, tk⟩
noncomputable def tnCls (x : Nat) (sl : Array (Option Value)) : Obj := ⟨.type "type", none, .cls { name := "K", bases := [.type "object"], mro := [], ns := x + 155 + 57, qualname := "cmp_to_key.<locals>.K" }, sl⟩
noncomputable abbrev sl0 (x : Nat) : List (Option Value) := [some (.ref (x + 155))]
noncomputable abbrev sl2 (x tn : Nat) : List (Option Value) := [some (.ref (x + 155)), none, some (.str "K" tn)]
noncomputable abbrev sl3 (x tn t3 : Nat) : List (Option Value) := [some (.ref (x + 155)), none, some (.str "K" tn), some (.str "cmp_to_key.<locals>.K" t3)]
noncomputable def tnNs2 (x : Nat) (u : TNv) : Array DictEntry := #[ent (u.h 0) "__module__" (u.t 0) (.str "cpy313.functools" (u.t 1)), ent (u.h 2) "__firstlineno__" (u.t 4) (.int u.i (u.t 5)),
  ent (u.h 3) "__slots__" (u.t 6) (.ref (x + 155 + 7)), ent (u.h 4) "__init__" (u.t 7) (.ref (x + 155 + 14)), ent (u.h 5) "__lt__" (u.t 8) (.ref (x + 155 + 22)), ent (u.h 6) "__gt__" (u.t 9) (.ref (x + 155 + 30)), ent (u.h 7) "__eq__" (u.t 10) (.ref (x + 155 + 38)),
  ent (u.h 8) "__le__" (u.t 11) (.ref (x + 155 + 46)), ent (u.h 9) "__ge__" (u.t 12) (.ref (x + 155 + 54)), ent (u.h 10) "__hash__" (u.t 13) .none, ent (u.h 11) "__static_attributes__" (u.t 14) (.ref (x + 155 + 55))]
noncomputable def tnCls2 (x : Nat) (hd : Bool) (names : List Str) (sl : Array (Option Value)) : Obj := ⟨.type "type", none, .cls { name := "K", bases := [.type "object"], mro := [.ref (x + 155 + 58), .type "object"], ns := x + 155 + 57, qualname := "cmp_to_key.<locals>.K", hasDict := hd, slotNames := names }, sl⟩
noncomputable abbrev sl4 (x tn t3 : Nat) : List (Option Value) := sl3 x tn t3 ++ [some (.builtin "object.__new__")]
noncomputable abbrev sl5 (x tn t3 : Nat) : List (Option Value) := sl3 x tn t3 ++ [some (.builtin "object.__new__"), some (.bool false)]
noncomputable def tnMem (x tk : Nat) : Addr × Obj := (x + 155 + 59, ⟨.type "member_descriptor", none, .fields #[.str "obj" tk, .ref (x + 155 + 58), .builtin "proto.slot", .builtin "proto.slot#set", rawInt 0], #[]⟩)
noncomputable def tnNs3 (x : Nat) (u : TNv) (p : Params) (tk : Nat) : Array DictEntry := (tnNs2 x u).push (ent (PyData.keyHash p "obj") "obj" (tk + 1) (.ref (x + 155 + 59)))
noncomputable def tnD (x : Nat) (u : TNv) (tn : Nat) (p : Params) (tk tk' : Nat) : Lg := tnC x u tk' ((tnNs3 x u p tk).push (ent (PyData.keyHash p "__doc__") "__doc__" (tk + 2) .none)) 3 (tnCls2 x false ["obj"] (sl5 x tn (u.t 3)).toArray) [tnMem x tk] 60
noncomputable def tnF (x : Nat) (u : TNv) (tn : Nat) (p : Params) (tk tk' : Nat) (fs : List Value) (more : List (Addr × Obj)) (m : Nat) : Lg := tnC x u tk' ((tnNs3 x u p tk).push (ent (PyData.keyHash p "__doc__") "__doc__" (tk + 2) .none)) 3 (tnCls2 x false ["obj"] (sl5 x tn (u.t 3)).toArray) ([tnMem x tk, (x + 155 + 60, ⟨.type "super", none, .fields fs.toArray, #[]⟩)] ++ more) m
noncomputable def tnE (x : Nat) (u : TNv) (tn : Nat) (p : Params) (tk tk' : Nat) (more : List (Addr × Obj)) (m : Nat) : Lg := tnF x u tn p tk tk' [.ref (x + 155 + 58), .ref (x + 155 + 58), .ref (x + 155 + 58)] more m
theorem evs {w : World} {h₀ : Heap} {N : Nat} {orc : Orc} {den : Code → Option (Sem Fin)} {A : Around} {E : Value → Shared → Prop} {s : Shared} {st : Lg} {α β : Type} {m : Sem α} {f : α → Sem β} {Q : β → Shared → Prop}
    (D : Rp h₀ N s.heap st) (ht : s.toks = st.tk) (horc : OrcOk w h₀ N orc) (hden : ∀ c t, den c = some t → denote table c = t) (n : Nat) (hs : List Nat) (l : List Addr) (v : α) (st' : Lg)
    (he : ev N ⟨prog, w.params⟩ orc den n α (.tree m) hs st = some (.ok v, [], st', dup l))
    (h : ∀ h', Rp h₀ N h' st' → wpAny (model prog w) A (f v) Q E { s with heap := h', toks := st'.tk }) :
    wpAny (model prog w) A (m >>= f) Q E s :=
  wpAny_bind ((ev_sound horc hden n).1 α m hs st _ _ _ _ A s _ _ he dup_ok D ht fun h' D' => h h' D')
theorem filter_self (a : Addr) (n : String) : List.filter (fun y => y != Value.ref a) [Value.ref a, Value.type n] = [Value.type n] := by
  have h1 : (Value.ref a != Value.ref a) = false := bne_self_eq_false _
  have h2 : (Value.type n != Value.ref a) = true := rfl
  rw [List.filter_cons_of_neg (by rw [h1]; exact Bool.false_ne_true), List.filter_cons_of_pos (by rw [h2])]; rfl
theorem wpF {M : Model} {A : Around} {α : Type} {Q : α → Shared → Prop} {E : Value → Shared → Prop} {s : Shared} {c : Bool} {a b : Sem α} (hc : c = false) (h : wpAny M A b Q E s) : wpAny M A (if c = true then a else b) Q E s := by rw [hc]; exact h
theorem wpT {M : Model} {A : Around} {α : Type} {Q : α → Shared → Prop} {E : Value → Shared → Prop} {s : Shared} {c : Bool} {a b : Sem α} (hc : c = true) (h : wpAny M A a Q E s) : wpAny M A (if c = true then a else b) Q E s := by rw [hc]; exact h
theorem wpFP {M : Model} {A : Around} {α : Type} {Q : α → Shared → Prop} {E : Value → Shared → Prop} {s : Shared} {c : Prop} [i : Decidable c] {a b : Sem α} (hc : ¬ c) (h : wpAny M A b Q E s) : wpAny M A (if c then a else b) Q E s := by rw [if_neg hc]; exact h
noncomputable def tnBm (x : Nat) : Addr × Obj := (x + 155 + 61, ⟨.type "builtin_function_or_method", none, .fields #[.builtin "object.__init_subclass__", .ref (x + 155 + 58)], #[]⟩)
theorem drop_self (a : Addr) (n : String) : List.drop 1 (List.dropWhile (fun y => y != Value.ref a) [Value.ref a, Value.type n]) = [Value.type n] := by
  have h1 : (Value.ref a != Value.ref a) = false := bne_self_eq_false _
  rw [List.dropWhile_cons, h1]; rfl
theorem ref_self (a : Addr) : (Value.ref a == Value.ref a) = true := beq_self_eq_true _
theorem superGet {w : World} {A : Around} {h₀ : Heap} {x : Nat} {u : TNv} {s : Shared} {tn t0 : Nat} {Q : Fin → Shared → Prop} {E : Value → Shared → Prop}
    {tk tk' : Nat} (D : Rp h₀ (x + 155) s.heap (tnE x u tn w.params tk tk' [] 61)) (ht : s.toks = tk') (hQ : ∀ h', Rp h₀ (x + 155) h' (tnE x u tn w.params tk tk' [tnBm x] 62) → Q (.done (.ret (.ref (x + 155 + 61)))) { s with heap := h', toks := tk' }) : wpAny (model prog w) A (Builtin.«super.__getattribute__» ⟨[.ref (x + 155 + 60), .str "__init_subclass__" t0], []⟩) Q E s := by
  unfold Builtin.«super.__getattribute__»
  (with_reducible conv => enter [3]; whnf)
  refine evr D ht noOrc_ok den_ok 200 [] [] (some "__init_subclass__") (by kernel_rfl) fun h₁ D => ?_; (with_reducible conv => enter [3]; whnf)
  (refine wpF (by kernel_rfl) ?_; (with_reducible conv => enter [3]; whnf))
  refine evr D rfl noOrc_ok den_ok 200 [] [] (some "__init_subclass__") (by kernel_rfl) fun h₁ D => ?_; (with_reducible conv => enter [3]; whnf)
  refine evr D rfl noOrc_ok den_ok 200 [15] [x + 155 + 60] (.ref (x + 155 + 58)) (by kernel_rfl) fun h₁ D => ?_; (with_reducible conv => enter [3]; whnf)
  refine evr D rfl noOrc_ok den_ok 200 [15] [x + 155 + 60] (.ref (x + 155 + 58)) (by kernel_rfl) fun h₁ D => ?_; (with_reducible conv => enter [3]; whnf)
  refine evr D rfl noOrc_ok den_ok 200 [15] [x + 155 + 60] (.ref (x + 155 + 58)) (by kernel_rfl) fun h₁ D => ?_; (with_reducible conv => enter [3]; whnf)
  (refine wpF (by kernel_rfl) ?_; (with_reducible conv => enter [3]; whnf))
  refine evr D rfl noOrc_ok den_ok 200 [10] [2] () (by kernel_rfl) fun h₁ D => ?_; (with_reducible conv => enter [3]; whnf)
  (refine wpF (by kernel_rfl) ?_; (with_reducible conv => enter [3]; whnf))
  refine evr D rfl noOrc_ok den_ok 200 [13] [x + 155 + 58] [.ref (x + 155 + 58), .type "object"] (by kernel_rfl) fun h₁ D => ?_; (with_reducible conv => enter [3]; whnf)
  rw [drop_self]
  simp -zeta only [ref_self, if_true]
  refine evs D rfl noOrc_ok den_ok 300 [13, 13] [x + 155 + 58, x + 155 + 58] (some (Fin.done (.ret (.ref (x + 155 + 61)))), ()) (tnE x u tn w.params tk tk' [tnBm x] 62) (by kernel_rfl) fun h₁ D => ?_; (with_reducible conv => enter [3]; whnf)
  exact wpAny_pure (hQ _ D)
theorem contains_self (a : Addr) (l : List Value) : (Value.ref a :: l).contains (.ref a) = true := by rw [List.contains_cons, beq_self_eq_true]; rfl
theorem sub_self {M : Model} {A : Around} {s : Shared} {Q : Bool → Shared → Prop} {E : Value → Shared → Prop} {C : Addr} {o : Obj} {cd : ClassData} {l : List Value} (ho : s.heap.get? C = some o) (hd : o.data = .cls cd) (hm : cd.mro = .ref C :: l) (h : Q true s) : wpAny M A (isSubtype (.ref C) (.ref C)) Q E s := by
  obtain ⟨oc, od, dt, sl⟩ := o
  subst hd
  unfold isSubtype
  refine wpAny_bind (wpAny_bind (wpAny_bind (wpAny_load ho (wpAny_pure (wpAny_pure ?_)))))
  dsimp only
  rw [hm]
  rw [if_neg (by simp), contains_self]
  exact wpAny_pure h
theorem superInit {w : World} {A : Around} {h₀ : Heap} {x : Nat} {u : TNv} {s : Shared} {tn : Nat} {Q : Fin → Shared → Prop} {E : Value → Shared → Prop}
    {tk tk' : Nat} (D : Rp h₀ (x + 155) s.heap (tnF x u tn w.params tk tk' [.none, .none, .none] [] 61)) (ht : s.toks = tk') (hQ : ∀ h', Rp h₀ (x + 155) h' (tnE x u tn w.params tk tk' [] 61) → Q (.done (.ret .none)) { s with heap := h', toks := tk' }) : wpAny (model prog w) A (Builtin.«super.__init__» ⟨[.ref (x + 155 + 60), .ref (x + 155 + 58), .ref (x + 155 + 58)], []⟩) Q E s := by
  unfold Builtin.«super.__init__»
  (with_reducible conv => enter [3]; whnf)
  refine evr D ht noOrc_ok den_ok 200 [] [] () (by kernel_rfl) fun h₁ D => ?_; (with_reducible conv => enter [3]; whnf)
  refine wpAny_bind (wpAny_pure ?_); (with_reducible conv => enter [3]; whnf)
  refine evr D rfl noOrc_ok den_ok 200 [13] [x + 155 + 58] true (by kernel_rfl) fun h₁ D => ?_; (with_reducible conv => enter [3]; whnf)
  (refine wpF (by kernel_rfl) ?_; (with_reducible conv => enter [3]; whnf))
  (refine wpF (by kernel_rfl) ?_; (with_reducible conv => enter [3]; whnf))
  refine wpAny_bind ?_
  refine evr (m := isType (.ref (x + 155 + 58))) D rfl noOrc_ok den_ok 200 [13] [x + 155 + 58] true (by kernel_rfl) fun h₁ D => ?_; (with_reducible conv => enter [3]; whnf)
  (refine wpT (by kernel_rfl) ?_; (with_reducible conv => enter [3]; whnf))
  refine wpAny_bind (sub_self (D.at (i := 13) (p := (x + 155 + 58, tnCls2 x false ["obj"] (sl5 x tn (u.t 3)).toArray)) (by kernel_rfl)) rfl rfl ?_); (with_reducible conv => enter [3]; whnf)
  (refine wpT (by kernel_rfl) ?_; (with_reducible conv => enter [3]; whnf))
  refine wpAny_pure ?_; (with_reducible conv => enter [3]; whnf)
  refine evs D rfl noOrc_ok den_ok 200 [15, 15] [x + 155 + 60, x + 155 + 60] () (tnF x u tn w.params tk tk' [.ref (x + 155 + 58), .none, .none] [] 61) (by kernel_rfl) fun h₁ D => ?_; (with_reducible conv => enter [3]; whnf)
  refine evs D rfl noOrc_ok den_ok 200 [15, 15] [x + 155 + 60, x + 155 + 60] () (tnF x u tn w.params tk tk' [.ref (x + 155 + 58), .ref (x + 155 + 58), .none] [] 61) (by kernel_rfl) fun h₁ D => ?_; (with_reducible conv => enter [3]; whnf)
  refine evs D rfl noOrc_ok den_ok 200 [15, 15] [x + 155 + 60, x + 155 + 60] () (tnE x u tn w.params tk tk' [] 61) (by kernel_rfl) fun h₁ D => ?_; (with_reducible conv => enter [3]; whnf)
  exact wpAny_pure (hQ _ D)

/-- the contracts of super's two functions for the class in making -/
noncomputable def orcS (x : Nat) (u : TNv) (tn : Nat) (p : Params) (tk tk' : Nat) : Orc := fun c st => match c with
  | .builtin id ⟨[.ref a, .ref b, .ref d], []⟩ => match decide (id = "super.__init__") with
    | true => some (.ret .none, tnE x u tn p tk tk' [] 61, [(.inl a, .inl (x + 155 + 60)), (.inl b, .inl (x + 155 + 58)), (.inl d, .inl (x + 155 + 58)), (.inr st, .inr (tnF x u tn p tk tk' [.none, .none, .none] [] 61))])
    | false => none
  | .builtin id ⟨[.ref a, .str n _], []⟩ => match decide (id = "super.__getattribute__" ∧ n = "__init_subclass__") with
    | true => some (.ret (.ref (x + 155 + 61)), tnE x u tn p tk (tk' + 1) [tnBm x] 62, [(.inl a, .inl (x + 155 + 60)), (.inr st, .inr (tnE x u tn p tk (tk' + 1) [] 61))])
    | false => none
  | _ => none
theorem entry_super_init : entryFor table "super.__init__" = some Builtin.«super.__init__» := entryFor_of_tree (by kernel_rfl)
theorem entry_super_get : entryFor table "super.__getattribute__" = some Builtin.«super.__getattribute__» := entryFor_of_tree (by kernel_rfl)
theorem orcS_ok {w : World} {h₀ : Heap} {x : Nat} {u : TNv} {tn tk tk' : Nat} : OrcOk w h₀ (x + 155) (orcS x u tn w.params tk tk') := by
  intro c st f st' ob A s R h ho D ht hb
  unfold orcS at h
  split at h
  · rename_i id a b d
    split at h
    · rename_i hid
      simp only [Option.some.injEq, Prod.mk.injEq] at h
      obtain ⟨rfl, rfl, rfl⟩ := h
      have e1 : a = x + 155 + 60 := Sum.inl.inj (ho (.inl a, .inl (x + 155 + 60)) (by simp))
      have e2 : b = x + 155 + 58 := Sum.inl.inj (ho (.inl b, .inl (x + 155 + 58)) (by simp))
      have e3 : d = x + 155 + 58 := Sum.inl.inj (ho (.inl d, .inl (x + 155 + 58)) (by simp))
      have e4 : st = tnF x u tn w.params tk tk' [.none, .none, .none] [] 61 := Sum.inr.inj (ho (.inr st, .inr (tnF x u tn w.params tk tk' [.none, .none, .none] [] 61)) (by simp))
      have e5 := of_decide_eq_true hid
      subst e1 e2 e3 e4 e5
      exact codeAny_builtin entry_super_init (superInit D ht fun h' D' => hb h' D')
    · cases h
  · rename_i id a n t
    split at h
    · rename_i hid
      simp only [Option.some.injEq, Prod.mk.injEq] at h
      obtain ⟨rfl, rfl, rfl⟩ := h
      have e1 : a = x + 155 + 60 := Sum.inl.inj (ho (.inl a, .inl (x + 155 + 60)) (by simp))
      have e4 : st = tnE x u tn w.params tk (tk' + 1) [] 61 := Sum.inr.inj (ho (.inr st, .inr (tnE x u tn w.params tk (tk' + 1) [] 61)) (by simp))
      obtain ⟨e5, e6⟩ := of_decide_eq_true hid
      subst e1 e4 e5 e6
      exact codeAny_builtin entry_super_get (superGet D ht fun h' D' => hb h' D')
    · cases h
  · cases h
theorem evo {w : World} {h₀ : Heap} {N : Nat} {orc : Orc} {den : Code → Option (Sem Fin)} {A : Around} {E : Value → Shared → Prop} {s : Shared} {st : Lg} {α β : Type} {m : Sem α} {f : α → Sem β} {Q : β → Shared → Prop}
    (D : Rp h₀ N s.heap st) (ht : s.toks = st.tk) (horc : OrcOk w h₀ N orc) (hden : ∀ c t, den c = some t → denote table c = t) (n : Nat) (hs : List Nat) (l : List (Addr ⊕ Lg)) (v : α) (st' : Lg)
    (he : ev N ⟨prog, w.params⟩ orc den n α (.tree m) hs st = some (.ok v, [], st', dupo l))
    (h : ∀ h', Rp h₀ N h' st' → wpAny (model prog w) A (f v) Q E { s with heap := h', toks := st'.tk }) :
    wpAny (model prog w) A (m >>= f) Q E s :=
  wpAny_bind ((ev_sound horc hden n).1 α m hs st _ _ _ _ A s _ _ he dupo_ok D ht fun h' D' => h h' D')
end Mine

end
section
-- NW2
open PySem PySem.W PySem.W.X PySem.Spec PySem.Calls PyProof.Rows
set_option Elab.async false
set_option maxRecDepth 100000
set_option maxHeartbeats 1000000
namespace Mine
theorem typeNew {w : World} {A : Around} {h₀ : Heap} {x : Nat} {u : TNv} {s : Shared} {tn : Nat} {Q : Fin → Shared → Prop} {E : Value → Shared → Prop}
    {tk : Nat} (D : Rp h₀ (x + 155) s.heap (tnSt x u tk)) (ht : s.toks = tk) (hQ : ∀ h', Rp h₀ (x + 155) h' (tnE x u tn w.params tk (tk + 4) [tnBm x] 62) → Q (.done (.ret (.ref (x + 155 + 58)))) { s with heap := h', toks := tk + 4 }) : wpAny (model prog w) A (Builtin.«type.__new__» ⟨[.type "type", .str "K" tn, .ref (x + 155), .ref (x + 155 + 2)], []⟩) Q E s := by
  unfold Builtin.«type.__new__»
  (with_reducible conv => enter [3]; whnf)
  refine evr D ht noOrc_ok den_ok 200 [] [] (some "K") (by kernel_rfl) fun h₁ D => ?_; (with_reducible conv => enter [3]; whnf)
  refine evr D rfl noOrc_ok den_ok 200 [0] [x + 155] true (by kernel_rfl) fun h₁ D => ?_; (with_reducible conv => enter [3]; whnf); (refine wpF (by kernel_rfl) ?_; (with_reducible conv => enter [3]; whnf))
  refine evr D rfl noOrc_ok den_ok 200 [1] [x + 155 + 2] true (by kernel_rfl) fun h₁ D => ?_; (with_reducible conv => enter [3]; whnf); (refine wpF (by kernel_rfl) ?_; (with_reducible conv => enter [3]; whnf))
  refine evr D rfl noOrc_ok den_ok 200 [0] [x + 155] (some #[.type "object"]) (by kernel_rfl) fun h₁ D => ?_; (with_reducible conv => enter [3]; whnf); (refine wpFP (by decide) ?_; (with_reducible conv => enter [3]; whnf))
  refine evr D rfl noOrc_ok den_ok 200 [] [] () (by kernel_rfl) fun h₁ D => ?_; (with_reducible conv => enter [3]; whnf)
  refine evr D rfl noOrc_ok den_ok 200 [] [] (.type "type") (by kernel_rfl) fun h₁ D => ?_; (with_reducible conv => enter [3]; whnf); (refine wpF (by kernel_rfl) ?_; (with_reducible conv => enter [3]; whnf))
  refine evr D rfl noOrc_ok den_ok 200 [] [] () (by kernel_rfl) fun h₁ D => ?_; (with_reducible conv => enter [3]; whnf)
  refine evr D rfl noOrc_ok den_ok 200 [] [] (.type "object") (by kernel_rfl) fun h₁ D => ?_; (with_reducible conv => enter [3]; whnf); (refine wpF (by kernel_rfl) ?_; (with_reducible conv => enter [3]; whnf))
  refine evr D rfl noOrc_ok den_ok 200 [1] [x + 155 + 2] (tnNs x u) (by kernel_rfl) fun h₁ D => ?_; (with_reducible conv => enter [3]; whnf)
  refine evr D rfl noOrc_ok den_ok 200 [1] [x + 155 + 2] (some (.builtin "dict.__iter__")) (by kernel_rfl) fun h₁ D => ?_; (with_reducible conv => enter [3]; whnf)
  (refine wpT (by kernel_rfl) ?_; (with_reducible conv => enter [3]; whnf)); refine wpAny_bind (wpAny_pure ?_); (with_reducible conv => enter [3]; whnf)
  refine evs D rfl (orcC_ok (i := 2)) den_ok 400 [2, 11] [x + 155 + 7, x + 155 + 7, x + 155 + 56] ⟨["obj"], false, false, []⟩ (tnA x u tk) (by kernel_rfl) fun h₁ D => ?_; (with_reducible conv => enter [3]; whnf)
  refine evs D rfl noOrc_ok den_ok 200 [] [] (.ref (x + 155 + 57)) (tnB x u tk) (by kernel_rfl) fun h₁ D => ?_; (with_reducible conv => enter [3]; whnf)
  (refine wpF (by kernel_rfl) ?_; (with_reducible conv => enter [3]; whnf))
  refine evr D rfl noOrc_ok den_ok 200 [] [] () (by kernel_rfl) fun h₁ D => ?_; (with_reducible conv => enter [3]; whnf)
  (refine wpF (by kernel_rfl) ?_; (with_reducible conv => enter [3]; whnf))
  refine evr D rfl noOrc_ok den_ok 200 [12] [x + 155 + 57] (some (.str "cmp_to_key.<locals>.K" (u.t 3))) (by kernel_rfl) fun h₁ D => ?_; (with_reducible conv => enter [3]; whnf)
  refine evr D rfl noOrc_ok den_ok 200 [12] [x + 155 + 57] (some (.str "cmp_to_key.<locals>.K" (u.t 3))) (by kernel_rfl) fun h₁ D => ?_; (with_reducible conv => enter [3]; whnf)
  refine evr D rfl noOrc_ok den_ok 200 [] [] (some "cmp_to_key.<locals>.K") (by kernel_rfl) fun h₁ D => ?_; (with_reducible conv => enter [3]; whnf)
  refine wpAny_bind (wpAny_pure ?_); (with_reducible conv => enter [3]; whnf)
  refine evr D rfl noOrc_ok den_ok 200 [12] [x + 155 + 57] none (by kernel_rfl) fun h₁ D => ?_; (with_reducible conv => enter [3]; whnf)
  refine evs D rfl noOrc_ok den_ok 200 [] [] (x + 155 + 58) (tnC x u tk (tnNs x u) 0 (tnCls x #[]) [] 59) (by kernel_rfl) fun h₁ D => ?_; (with_reducible conv => enter [3]; whnf)
  (refine wpT (by kernel_rfl) ?_; (with_reducible conv => enter [3]; whnf))
  refine evs D rfl noOrc_ok den_ok 200 [13] [x + 155 + 58] () (tnC x u tk (tnNs x u) 0 (tnCls x (sl0 x).toArray) [] 59) (by kernel_rfl) fun h₁ D => ?_; (with_reducible conv => enter [3]; whnf)
  refine evs D rfl noOrc_ok den_ok 200 [13] [x + 155 + 58] () (tnC x u tk (tnNs x u) 0 (tnCls x (sl2 x tn).toArray) [] 59) (by kernel_rfl) fun h₁ D => ?_; (with_reducible conv => enter [3]; whnf)
  dsimp -zeta only [Option.orElse]
  refine evs D rfl noOrc_ok den_ok 200 [13] [x + 155 + 58] () (tnC x u tk (tnNs x u) 0 (tnCls x (sl3 x tn (u.t 3)).toArray) [] 59) (by kernel_rfl) fun h₁ D => ?_; (with_reducible conv => enter [3]; whnf)
  refine evs D rfl noOrc_ok den_ok 200 [12, 12] [x + 155 + 57, x + 155 + 57] true (tnC x u tk (tnNs2 x u) 1 (tnCls x (sl3 x tn (u.t 3)).toArray) [] 59) (by kernel_rfl) fun h₁ D => ?_; (with_reducible conv => enter [3]; whnf)
  refine evr D rfl noOrc_ok den_ok 200 [12] [x + 155 + 57] none (by kernel_rfl) fun h₁ D => ?_; (with_reducible conv => enter [3]; whnf)
  refine evr D rfl noOrc_ok den_ok 200 [12, 12] [x + 155 + 57, x + 155 + 57] () (by kernel_rfl) fun h₁ D => ?_; (with_reducible conv => enter [3]; whnf)
  refine evr D rfl noOrc_ok den_ok 200 [12] [x + 155 + 57] none (by kernel_rfl) fun h₁ D => ?_; (with_reducible conv => enter [3]; whnf)
  refine evr D rfl noOrc_ok den_ok 200 [12] [x + 155 + 57] none (by kernel_rfl) fun h₁ D => ?_; (with_reducible conv => enter [3]; whnf)
  refine evr D rfl noOrc_ok den_ok 200 [] [] none (by kernel_rfl) fun h₁ D => ?_; (with_reducible conv => enter [3]; whnf)
  refine evr D rfl noOrc_ok den_ok 200 [] [] [.type "object"] (by kernel_rfl) fun h₁ D => ?_; (with_reducible conv => enter [3]; whnf)
  refine wpAny_bind (wpAny_pure ?_); (with_reducible conv => enter [3]; whnf)
  rw [filter_self]
  refine evr D rfl noOrc_ok den_ok 200 [] [] false (by kernel_rfl) fun h₁ D => ?_; (with_reducible conv => enter [3]; whnf)
  refine evs D rfl noOrc_ok den_ok 200 [13, 13, 13] [x + 155 + 58, x + 155 + 58, x + 155 + 58] () (tnC x u tk (tnNs2 x u) 1 (tnCls2 x true [] (sl3 x tn (u.t 3)).toArray) [] 59) (by kernel_rfl) fun h₁ D => ?_; (with_reducible conv => enter [3]; whnf)
  refine evr D rfl noOrc_ok den_ok 200 [] [] (some "object.__new__") (by kernel_rfl) fun h₁ D => ?_; (with_reducible conv => enter [3]; whnf)
  refine evs D rfl noOrc_ok den_ok 200 [13] [x + 155 + 58] () (tnC x u tk (tnNs2 x u) 1 (tnCls2 x true [] (sl4 x tn (u.t 3)).toArray) [] 59) (by kernel_rfl) fun h₁ D => ?_; (with_reducible conv => enter [3]; whnf)
  refine evr D rfl noOrc_ok den_ok 300 [13, 13, 13, 12] [x + 155 + 58, x + 155 + 58, x + 155 + 58, x + 155 + 57] () (by kernel_rfl) fun h₁ D => ?_; (with_reducible conv => enter [3]; whnf)
  refine evs D rfl noOrc_ok den_ok 300 [12, 12, 12, 12, 13, 13, 13] [x + 155 + 57, x + 155 + 57, x + 155 + 57, x + 155 + 57, x + 155 + 58, x + 155 + 58, x + 155 + 58] () (tnC x u (tk + 2) (tnNs3 x u w.params tk) 2 (tnCls2 x false ["obj"] (sl4 x tn (u.t 3)).toArray) [tnMem x tk] 60) (by kernel_rfl) fun h₁ D => ?_; (with_reducible conv => enter [3]; whnf)
  refine evr D rfl noOrc_ok den_ok 300 [] [] false (by kernel_rfl) fun h₁ D => ?_; (with_reducible conv => enter [3]; whnf)
  refine evs D rfl noOrc_ok den_ok 200 [13] [x + 155 + 58] () (tnC x u (tk + 2) (tnNs3 x u w.params tk) 2 (tnCls2 x false ["obj"] (sl5 x tn (u.t 3)).toArray) [tnMem x tk] 60) (by kernel_rfl) fun h₁ D => ?_; (with_reducible conv => enter [3]; whnf)
  (refine wpF (by kernel_rfl) ?_; (with_reducible conv => enter [3]; whnf))
  (refine wpF (by kernel_rfl) ?_; (with_reducible conv => enter [3]; whnf))
  refine evr D rfl noOrc_ok den_ok 300 [12] [x + 155 + 57] none (by kernel_rfl) fun h₁ D => ?_; (with_reducible conv => enter [3]; whnf)
  (refine wpT (by kernel_rfl) ?_; (with_reducible conv => enter [3]; whnf))
  refine evs D rfl noOrc_ok den_ok 200 [12, 12] [x + 155 + 57, x + 155 + 57] () (tnD x u tn w.params tk (tk + 3)) (by kernel_rfl) fun h₁ D => ?_; (with_reducible conv => enter [3]; whnf)
  refine evr D rfl noOrc_ok den_ok 300 [12] [x + 155 + 57] (some (.ref (x + 155 + 38))) (by kernel_rfl) fun h₁ D => ?_; (with_reducible conv => enter [3]; whnf)
  (refine wpT (by kernel_rfl) ?_; (with_reducible conv => enter [3]; whnf))
  refine evr D rfl noOrc_ok den_ok 300 [12] [x + 155 + 57] (some .none) (by kernel_rfl) fun h₁ D => ?_; (with_reducible conv => enter [3]; whnf)
  (refine wpF (by kernel_rfl) ?_; (with_reducible conv => enter [3]; whnf))
  refine evr D rfl noOrc_ok den_ok 300 [] [] () (by kernel_rfl) fun h₁ D => ?_; (with_reducible conv => enter [3]; whnf)
  refine wpAny_bind (wpAny_tryCatch (wpAny_holding ?_)); (with_reducible conv => enter [3]; whnf)
  refine evr D rfl noOrc_ok den_ok 300 [12] [x + 155 + 57] ((tnNs3 x u w.params tk).push (ent (PyData.keyHash w.params "__doc__") "__doc__" (tk + 2) .none)) (by kernel_rfl) fun h₁ D => ?_; (with_reducible conv => enter [3]; whnf)
  refine evr D rfl noOrc_ok den_ok 300 [] [] false (by kernel_rfl) fun h₁ D => ?_; (with_reducible conv => enter [3]; whnf)
  (refine wpF (by kernel_rfl) ?_; (with_reducible conv => enter [3]; whnf))
  refine evr D rfl noOrc_ok den_ok 300 [12] [x + 155 + 57] ((tnNs3 x u w.params tk).push (ent (PyData.keyHash w.params "__doc__") "__doc__" (tk + 2) .none)) (by kernel_rfl) fun h₁ D => ?_; (with_reducible conv => enter [3]; whnf)
  refine evr D rfl noOrc_ok den_ok 300 [2, 3, 4, 5, 6, 7, 8, 9, 14] [x + 155 + 7, x + 155 + 14, x + 155 + 22, x + 155 + 30, x + 155 + 38, x + 155 + 46, x + 155 + 54, x + 155 + 55, x + 155 + 59] () (by kernel_rfl) fun h₁ D => ?_; (with_reducible conv => enter [3]; whnf)
  refine evo D rfl (orcS_ok (u := u) (tn := tn) (tk := tk) (tk' := tk + 3)) den_ok 500 [13, 15, 15, 15] [.inl (x + 155 + 58), .inl (x + 155 + 60), .inl (x + 155 + 60), .inl (x + 155 + 60), .inl (x + 155 + 60), .inl (x + 155 + 58), .inl (x + 155 + 58), .inr (tnF x u tn w.params tk (tk + 3) [.none, .none, .none] [] 61)] (.ref (x + 155 + 60)) (tnE x u tn w.params tk (tk + 3) [] 61) (by kernel_rfl) fun h₁ D => ?_; (with_reducible conv => enter [3]; whnf)
  refine evo D rfl (orcS_ok (u := u) (tn := tn) (tk := tk) (tk' := tk + 3)) den_ok 500 [15, 15] [.inl (x + 155 + 60), .inl (x + 155 + 60), .inl (x + 155 + 60), .inr (tnE x u tn w.params tk (tk + 4) [] 61)] (.ref (x + 155 + 61)) (tnE x u tn w.params tk (tk + 4) [tnBm x] 62) (by kernel_rfl) fun h₁ D => ?_; (with_reducible conv => enter [3]; whnf)
  refine evr D rfl noOrc_ok den_ok 500 [16, 13, 13, 13, 13] [x + 155 + 61, x + 155 + 58, x + 155 + 58, x + 155 + 58, x + 155 + 58] .none (by kernel_rfl) fun h₁ D => ?_; (with_reducible conv => enter [3]; whnf)
  exact wpAny_pure (wpAny_pure (hQ _ D))
end Mine

end
section
-- NW3
open PySem PySem.W PySem.W.X PySem.Spec PySem.Calls PyProof.Rows
set_option Elab.async false
set_option maxRecDepth 100000
set_option maxHeartbeats 1000000
namespace Mine
noncomputable def orcT (x : Nat) (u : TNv) (tn : Nat) (p : Params) (tk : Nat) : Orc := fun c st => match c with
  | .builtin id ⟨[.type t0, .str n t, .ref a, .ref b], []⟩ => match decide (id = "type.__new__" ∧ t0 = "type" ∧ n = "K") with
    | true => some (.ret (.ref (x + 155 + 58)), tnE x u tn p tk (tk + 4) [tnBm x] 62, [(.inl t, .inl tn), (.inl a, .inl (x + 155)), (.inl b, .inl (x + 155 + 2)), (.inr st, .inr (tnSt x u tk))])
    | false => none
  | _ => none
theorem entry_type_new : entryFor table "type.__new__" = some Builtin.«type.__new__» := entryFor_of_tree (by kernel_rfl)
theorem orcT_ok {w : World} {h₀ : Heap} {x : Nat} {u : TNv} {tn tk : Nat} : OrcOk w h₀ (x + 155) (orcT x u tn w.params tk) := by
  intro c st f st' ob A s R h ho D ht hb
  unfold orcT at h
  split at h
  · rename_i id t0 n t a b
    split at h
    · rename_i hid
      simp only [Option.some.injEq, Prod.mk.injEq] at h
      obtain ⟨rfl, rfl, rfl⟩ := h
      have e1 : t = tn := Sum.inl.inj (ho (.inl t, .inl tn) (by simp))
      have e2 : a = x + 155 := Sum.inl.inj (ho (.inl a, .inl (x + 155)) (by simp))
      have e3 : b = x + 155 + 2 := Sum.inl.inj (ho (.inl b, .inl (x + 155 + 2)) (by simp))
      have e4 : st = tnSt x u tk := Sum.inr.inj (ho (.inr st, .inr (tnSt x u tk)) (by simp))
      obtain ⟨e5, e6, e7⟩ := of_decide_eq_true hid
      subst e1 e2 e3 e4 e5 e6 e7
      exact codeAny_builtin entry_type_new (typeNew D ht fun h' D' => hb h' D')
    · cases h
  · cases h
theorem callType {w : World} {A : Around} {h₀ : Heap} {x : Nat} {u : TNv} {s : Shared} {tn tk : Nat} {α : Type} {f : Value → Sem α} {Q : α → Shared → Prop} {E : Value → Shared → Prop}
    (D : Rp h₀ (x + 155) s.heap (tnSt x u tk)) (ht : s.toks = tk)
    (h : ∀ h', Rp h₀ (x + 155) h' (tnE x u tn w.params tk (tk + 4) [tnBm x] 62) → wpAny (model prog w) A (f (.ref (x + 155 + 58))) Q E { s with heap := h', toks := tk + 4 }) :
    wpAny (model prog w) A (call (.type "type") [.str "K" tn, .ref (x + 155), .ref (x + 155 + 2)] [] >>= f) Q E s := by
  refine evo D ht (orcT_ok (u := u) (tn := tn) (tk := tk)) den_ok 900 [13, 13, 13] [.inl tn, .inl (x + 155), .inl (x + 155 + 2), .inr (tnSt x u tk), .inl (x + 155 + 58), .inl (x + 155 + 58), .inl (x + 155 + 58)] (.ref (x + 155 + 58)) (tnE x u tn w.params tk (tk + 4) [tnBm x] 62) (by kernel_rfl) h
/-- a part of a ledger, begun anew -/
theorem Rp.sub {h₀ h : Heap} {N : Nat} {st : Lg} (D : Rp h₀ N h st) {L' : List (Addr × Obj)} {m tk : Nat} (is : List Nat) (e : is.map (fun i => st.L[i]?) = L'.map some) (hm : st.m = m) (hn : (L'.map (·.1)).Nodup) : Rp h N h ⟨L', m, tk⟩ := by
  refine ⟨by rw [D.size, hm], fun p hp => ?_, hn, fun _ _ q _ => q⟩
  have : some p ∈ L'.map some := List.mem_map_of_mem hp
  rw [← e] at this
  obtain ⟨i, _, hi⟩ := List.mem_map.mp this
  exact D.at hi
noncomputable def fdAt (st : Lg) (i : Nat) : FuncData := match st.L[i]? with
  | some (_, ⟨_, _, .func fd, _⟩) => fd
  | _ => default
theorem nodup_from (y : Nat) (h : 2 < y) : ([y, y + 2, y + 7, y + 14, y + 22, y + 30, y + 38, y + 46, y + 54, y + 55, 2] : List Nat).Nodup := by
  simp only [List.nodup_cons, List.mem_cons, List.not_mem_nil, or_false, not_or]
  refine ⟨?_, ?_, ?_, ?_, ?_, ?_, ?_, ?_, ?_, ?_, ?_, List.nodup_nil⟩ <;> first | omega | exact not_false
theorem tn_nodup (x : Nat) (u : TNv) : ((tnL x u).map (·.1)).Nodup := nodup_from (x + 155) (by omega)
theorem tn_ext {h₂ h₃ : Heap} {x : Nat} {u : TNv} {tn tk tk' : Nat} {p : Params} (D₂ : Rp h₂ (x + 155) h₂ (tnSt x u tk)) (D₃ : Rp h₂ (x + 155) h₃ (tnE x u tn p tk tk' [tnBm x] 62)) : Ext h₂ h₃ := by
  intro b o e
  by_cases hb : b ∈ (tnL x u).map (·.1)
  · obtain ⟨q, hq, rfl⟩ := List.mem_map.mp hb
    have h1 := D₂.get q hq
    rw [e] at h1
    cases h1
    exact D₃.get q (List.mem_append_left _ (List.mem_append_left _ hq))
  · refine D₃.keep b o e fun q hq hqb => ?_
    have hlt : b < x + 155 + 56 := by
      have := Heap.lt_size e
      rw [D₂.size] at this
      exact this
    have hlt' : q.1 < x + 155 + 56 := hqb ▸ hlt
    rcases List.mem_append.mp hq with hq | hq
    · rcases List.mem_append.mp hq with hq | hq
      · exact hb (hqb ▸ List.mem_map_of_mem hq)
      · simp only [List.mem_cons, List.not_mem_nil, or_false] at hq
        rcases hq with rfl | rfl | rfl
        · exact absurd (show x + 155 + 56 < x + 155 + 56 from hlt') (by omega)
        · exact absurd (show x + 155 + 57 < x + 155 + 56 from hlt') (by omega)
        · exact absurd (show x + 155 + 58 < x + 155 + 56 from hlt') (by omega)
    · simp only [List.cons_append, List.nil_append, List.mem_cons, List.not_mem_nil, or_false] at hq
      rcases hq with rfl | rfl | rfl
      · exact absurd (show x + 155 + 59 < x + 155 + 56 from hlt') (by omega)
      · exact absurd (show x + 155 + 60 < x + 155 + 56 from hlt') (by omega)
      · exact absurd (show x + 155 + 61 < x + 155 + 56 from hlt') (by omega)
/-- the objects of the start stay, but for the first -/
theorem bc_keep {h₁ h₂ : Heap} {x : Nat} {st : Lg} {a0 a1 a2 a3 a4 : Addr} {o1 o2 o3 o4 : Obj} {n : Nat} (D : Rp h₁ (x + 155) h₂ st) (hs : h₁.objs.size = x + 155) (ha : st.L.map (·.1) = [a0, a1, a2, a3, a4] ++ (List.range n).map (fun k => x + 155 + k))
    (e1 : st.L[1]? = some (a1, o1)) (e2 : st.L[2]? = some (a2, o2)) (e3 : st.L[3]? = some (a3, o3)) (e4 : st.L[4]? = some (a4, o4))
    (g1 : h₁.get? a1 = some o1) (g2 : h₁.get? a2 = some o2) (g3 : h₁.get? a3 = some o3) (g4 : h₁.get? a4 = some o4) : ∀ b o, b ≠ a0 → h₁.get? b = some o → h₂.get? b = some o := by
  intro b o hb e
  by_cases hm : b ∈ st.L.map (·.1)
  · rw [ha] at hm
    rcases List.mem_append.mp hm with hm | hm
    · simp only [List.mem_cons, List.not_mem_nil, or_false] at hm
      rcases hm with rfl | rfl | rfl | rfl | rfl
      · exact absurd rfl hb
      · rw [g1] at e; cases e; exact D.at e1
      · rw [g2] at e; cases e; exact D.at e2
      · rw [g3] at e; cases e; exact D.at e3
      · rw [g4] at e; cases e; exact D.at e4
    · obtain ⟨k, _, rfl⟩ := List.mem_map.mp hm
      have := Heap.lt_size e
      rw [hs] at this
      exact absurd this (Nat.not_lt.mpr (Nat.le_add_right _ _))
  · exact D.keep b o e fun p hp e' => hm (e' ▸ List.mem_map_of_mem hp)
noncomputable def codeAt (st : Lg) (i : Nat) (q : Str) : Bool := match st.L[i]? with
  | some (_, ⟨_, _, .fields vs, _⟩) => (match vs.toList with | _ :: .str n _ :: _ => n == q | _ => false)
  | _ => false
theorem codeAt_rec {h₀ h : Heap} {N : Nat} {st : Lg} (D : Rp h₀ N h st) {i : Nat} {c : Addr} {q : Str} (e : (st.L[i]?).map (·.1) = some c) (hq : codeAt st i q = true) : h.CodeRec (.ref c) q := by
  unfold codeAt at hq
  split at hq
  · rename_i a oc od vs sl hi
    rw [hi] at e
    cases e
    split at hq
    · rename_i y n t r hv
      exact ⟨_, _, vs, t, rfl, D.at hi, rfl, by rw [← Array.getElem?_toList, hv, ← beq_iff_eq.mp hq]; rfl⟩
    · cases hq
  · cases hq
end Mine

end
section
-- KCa
open PySem PySem.W PySem.W.X PySem.Spec PySem.Calls PyProof.Rows
set_option Elab.async false
set_option maxRecDepth 100000
set_option maxHeartbeats 4000000
namespace Mine
theorem fillK : ∀ w : World, (hd0.heap_1 w.params).In default → PySem.Challenge.rw_nq0103_01.prog = PySem.Challenge.rw_nq0103_01.prog → True := by
  k_fill
  intros; trivial
/-- enters a def with cells -/
theorem enterC {w : World} {A : Around} {s : Shared} {K : Frag} {f : Addr} {args : Args} {R : Result → Shared → Prop} {name qual : Str} {params : Arguments} {body : List Stmt} {scope : Scope} {dV kV doc pm cdv ct oc : Value} {an od : Option Addr} {osl : Array (Option Value)} {binds : List (Str × Value)}
    (X : K.In s.heap) (hlim : s.heap.NoLimit)
    (ho : K.lookup f = some ⟨oc, od, .func (fnOf name qual params body scope dV kV doc pm an cdv ct), osl⟩) (hcd : codeIn K cdv qual = true) (hroom : A.depth < recursionLimit)
    (hbind : BindsTo s (fnOf name qual params body scope dV kV doc pm an cdv ct) args binds)
    (hkind : ∀ n, ∀ x ∈ binds, scope.names.lookup x.1 = some .local ∨ (scope.names.lookup x.1 = some .cell ∧ ((cellsFrom n scope.names []).lookup x.1).isSome = true))
    (hnd : ((cellsFrom 0 scope.names []).map (·.1)).Nodup)
    (h : ∀ L h₁ tk cells, L = s.heap.objs.size → Fr s.heap L h₁ (bindL (envOfC qual scope L f cdv).kindOf binds fun _ => none) → News s.heap L h₁ cells →
      CellsAre (bindC (envOfC qual scope L f cdv).kindOf binds fun _ => none) (cellsFrom (L + 1) scope.names []) cells →
      wpAny (model prog w) (A.deeper (envOfC qual scope L f cdv)) (execs body (envOfC qual scope L f cdv))
        (fun fl s' => R (.ok (.ret (match fl with | .ret v => v | _ => .none))) s') (fun _ _ => False)
        { s with heap := h₁, toks := tk })
    (hco : scope.isCoroutine = false) (hgen : scope.isGenerator = false) (hk : scope.kind = .function) : codeAny (model prog w) A (.call (.ref f) args) R s := by
  refine codeAny_call_function hroom (X _ _ ho) rfl hco hgen rfl (codeRec_of X hcd) (hbind _ _ _ _ ?_)
  refine wpAny_newFunctionEnv_cells hk (hkind _) fun env' he s' x => ?_
  subst he
  refine ⟨hlim.keeps x.toInCall.keep, codeAny_func ?_⟩
  obtain ⟨h₁, tk, rfl, _⟩ := x.done
  obtain ⟨cells, NC, Y⟩ := Cl.news (h₀ := s.heap) (Nat.le_refl _) fun n c hm => ⟨x.cell n c (lookup_of_mem_nodup (cellsFrom_names scope.names 0 (s.heap.objs.size + 1) [] [] rfl ▸ hnd) hm), x.above n c hm⟩
  exact wpAny_mono (h s.heap.objs.size h₁ tk cells rfl ⟨x.toInCall.ns, x.toInCall.keep, Nat.le_refl _⟩ NC Y) (fun _ _ y => y) fun _ _ y => y.elim
theorem evalArgs_plainF {M : Model} {A : Around} {E : Value → Shared → Prop} {s : Shared} {f : Value} {x : Sem Value} {rest : List (Bool × Sem Value)} {Q : Args → Shared → Prop}
    (h : wpAny M A (spliced ((false, x) :: rest)) (fun vs s' => Q ⟨vs, []⟩ s') E s) : wpAny M A (evalArgs f false ((false, x) :: rest) []) Q E s := by
  unfold evalArgs
  show wpAny M A (spliced ((false, x) :: rest) >>= _) Q E s
  refine wpAny_bind (wpAny_mono h (fun vs s' h' => ?_) fun _ _ x => x)
  refine wpAny_holding ?_
  exact wpAny_bind (wpAny_pure (wpAny_bind (wpAny_pure (wpAny_pure h'))))
noncomputable def kob (p : Params) (a : Addr) : Obj := ((hd0.heap_1 p).lookup a).getD default
theorem kob_at {w : World} {h : Heap} (X : (hd0.heap_1 w.params).In h) {a : Addr} (e : ((hd0.heap_1 w.params).lookup a).isSome = true) : h.get? a = some (kob w.params a) := by
  cases q : (hd0.heap_1 w.params).lookup a with
  | none => rw [q] at e; cases e
  | some o => rw [X _ _ q]; unfold kob; rw [q]; rfl
theorem mod_at {w : World} {h : Heap} {p : Program} {loose : List Str} {mean : ExcName → Option Value} {mg mb : Str → Option Value} (X : (hd0.heap_1 w.params).In h) (T : Top p loose mean mg mb h) : ∃ sl, h.get? 4 = some ⟨.type "module", some 0, .plain, sl⟩ := by
  obtain ⟨bm, ob, e1, _, e2, e3, e4, e5⟩ := T.bmain
  have e6 : mg "__builtins__" = some (.ref 4) := mg_of X T.g (by kernel_rfl)
  rw [e6] at e1
  cases e1
  obtain ⟨c, d, dt, sl⟩ := ob
  cases e3; cases e4; cases e5
  exact ⟨sl, e2⟩
noncomputable def bc0 (p : Params) (sl : Array (Option Value)) (tk : Nat) : Lg := ⟨[(70, tabObj #[]), (74, kob p 74), (3, kob p 3), (4, ⟨.type "module", some 0, .plain, sl⟩), (2, kob p 2)], 0, tk⟩
noncomputable def bcT (x : Nat) : Addr × Obj := (x + 155, ⟨.type "tuple", none, .seq #[.type "object"] 0, #[]⟩)
noncomputable def bcP (x : Nat) : Addr × Obj := (x + 155 + 1, ⟨.type "builtin_function_or_method", none, .fields #[.builtin "type.__prepare__", .type "type"], #[]⟩)
theorem limit_at {w : World} {h h' : Heap} (X : (hd0.heap_1 w.params).In h) (e : h'.get? 2 = some (kob w.params 2)) (L : h.NoLimit) : h'.NoLimit := by
  obtain ⟨mc, ⟨o, es, ep, ho, r⟩, hn⟩ := L
  have := kob_at X (a := 2) (by kernel_rfl)
  rw [show cStatics = 2 from rfl, this] at ho
  cases ho
  exact ⟨mc, ⟨_, es, ep, e, r⟩, hn⟩
noncomputable def ckStmt (p : Params) (i : Nat) : Option Stmt := match (hd0.heap_1 p).lookup 75 with
  | some ⟨_, _, .func fd, _⟩ => (match fd.body with
    | .stmts (.ClassDef _ _ _ body _ _ _ _ _ _ _ :: _) => body[i]?
    | _ => none)
  | _ => none
noncomputable def ckPs (p : Params) (i : Nat) : Arguments := match ckStmt p i with
  | some (.FunctionDef _ ps _ _ _ _ _ _ _ _) => ps
  | _ => ⟨[], [], none, [], [], none, []⟩
noncomputable def ckBd (p : Params) (i : Nat) : List Stmt := match ckStmt p i with
  | some (.FunctionDef _ _ bd _ _ _ _ _ _ _) => bd
  | _ => []
noncomputable def ckSc (p : Params) (i : Nat) : Scope := match ckStmt p i with
  | some (.FunctionDef _ _ _ _ _ _ sc _ _ _) => sc
  | _ => default
noncomputable def ckU (p : Params) (tk : Nat) (st : Lg) : TNv where
  h i := PyData.keyHash p ((["__module__", "__qualname__", "__firstlineno__", "__slots__", "__init__", "__lt__", "__gt__", "__eq__", "__le__", "__ge__", "__hash__", "__static_attributes__"] : List Str).getD i "")
  t i := tk + ([8, 13, 10, 9, 12, 11, 16, 24, 33, 42, 51, 60, 69, 70, 72, 15, 71] : List Nat).getD i 0
  f i := fdAt st (([19, 27, 35, 43, 51, 59] : List Nat).getD i 0)
  i := 46
theorem Rp.subK {h₀ h : Heap} {x tk : Nat} {st : Lg} {p : Params} (D : Rp h₀ (x + 155) h st) (e : ([5, 7, 12, 19, 27, 35, 43, 51, 59, 60, 4] : List Nat).map (fun i => st.L[i]?) = (tnL x (ckU p tk st)).map some) (hm : st.m = 56) : Rp h (x + 155) h (tnSt x (ckU p tk st) (tk + 73)) := D.sub _ e hm (tn_nodup _ _)
noncomputable def IsCls (w : World) (h : Heap) (C : Addr) (lo : Nat) : Prop := ∃ x u tn tk c pm0 pm1, C = x + 155 + 58 ∧ (@LE.le Nat instLENat lo c ∧ @LE.le Nat instLENat lo (x + 155)) ∧ (∀ p ∈ (tnE x u tn w.params tk (tk + 4) [tnBm x] 62).L, h.get? p.1 = some p.2) ∧
  u.f 0 = fnX "__init__" "cmp_to_key.<locals>.K.__init__" (ckPs w.params 2) (ckBd w.params 2) (ckSc w.params 2) [] .none .none .none pm0 none (.ref (x + 155 + 13)) .none ∧
  u.f 1 = fnX "__lt__" "cmp_to_key.<locals>.K.__lt__" (ckPs w.params 3) (ckBd w.params 3) (ckSc w.params 3) [("mycmp", c)] .none .none .none pm1 none (.ref (x + 155 + 21)) (.ref (x + 155 + 15)) ∧
  h.CodeRec (.ref (x + 155 + 13)) "cmp_to_key.<locals>.K.__init__" ∧ h.CodeRec (.ref (x + 155 + 21)) "cmp_to_key.<locals>.K.__lt__" ∧ h.IsCell c (some (.ref 119))
theorem IsCls.keeps {w : World} {h h' : Heap} {C : Addr} {lo : Nat} (x : IsCls w h C lo) (k : ∀ b o, h.get? b = some o → h'.get? b = some o) : IsCls w h' C lo := by
  obtain ⟨x, u, tn, tk, c, pm0, pm1, e, lo, g, f0, f1, c0, c1, ic⟩ := x
  exact ⟨x, u, tn, tk, c, pm0, pm1, e, lo, fun p hp => k _ _ (g p hp), f0, f1, c0.keeps k, c1.keeps k, ic.keeps k⟩
theorem Rp.has {h₀ h : Heap} {N : Nat} {st : Lg} (D : Rp h₀ N h st) {i : Nat} {a : Addr} (e : (st.L[i]?).map (·.1) = some a) : ∃ o, h.get? a = some o := by
  cases q : st.L[i]? with
  | none => rw [q] at e; cases e
  | some p => rw [q] at e; cases e; exact ⟨p.2, D.at q⟩
/-- a code's table of made functions, told by its shape -/
noncomputable def noneV : Value → Bool
  | .none => true
  | _ => false
theorem noneV_of {v : Value} (h : noneV v = true) : v = .none := by
  cases v <;> first | rfl | cases h
noncomputable def fieldsD : Data → Bool
  | .fields _ => true
  | _ => false
theorem fieldsD_of {d : Data} (h : fieldsD d = true) : ∃ ps, d = .fields ps := by
  cases d <;> first | exact ⟨_, rfl⟩ | cases h
noncomputable def isTabO (o : Obj) : Bool := noneV o.cls && o.dict.isNone && fieldsD o.data && o.slots.isEmpty
theorem isTabO_of {o : Obj} (h : isTabO o = true) : ∃ ps, o = PySem.W.tabObj ps := by
  obtain ⟨c, d, dt, sl⟩ := o
  unfold isTabO at h
  simp only [Bool.and_eq_true] at h
  obtain ⟨⟨⟨h1, h2⟩, h3⟩, h4⟩ := h
  have e1 := noneV_of h1
  have e2 := Option.isNone_iff_eq_none.mp h2
  obtain ⟨ps, e3⟩ := fieldsD_of h3
  have e4 := Array.isEmpty_iff.mp h4
  subst e1 e2 e3 e4
  exact ⟨ps, rfl⟩
theorem Rp.hasT {h₀ h : Heap} {N : Nat} {st : Lg} (D : Rp h₀ N h st) {i : Nat} {a : Addr} (e : (st.L[i]?).map (·.1) = some a) (e2 : (st.L[i]?).map (fun p => isTabO p.2) = some true) : ∃ ps, h.get? a = some (PySem.W.tabObj ps) := by
  cases q : st.L[i]? with
  | none => rw [q] at e; cases e
  | some p =>
    rw [q] at e e2
    cases e
    obtain ⟨ps, ho⟩ := isTabO_of (Option.some.inj e2)
    exact ⟨ps, by rw [← ho]; exact D.at q⟩
theorem cmpTail {w : World} {M : Model} {A : Around} {E : Value → Shared → Prop} {s s₃ : Shared} {L x tn tk2 : Nat} {h₁ h₂ h₃ : Heap} {m : Str → Option Value} {u : TNv} {qual : Str} {scope : Scope} {cd : Value} {Q : Unit → Shared → Prop}
    (X : (hd0.heap_1 w.params).In s.heap) (hL : L = s.heap.objs.size) (F : Fr s.heap L h₁ m) (hc : h₁.IsCell (L + 1) (some (.ref 119))) (hx : h₁.objs.size = x + 155) (hh : s₃.heap = h₃)
    (K₂ : ∀ b o, b ≠ 70 → h₁.get? b = some o → h₂.get? b = some o) (h7 : ∃ ps, h₂.get? 70 = some (PySem.W.tabObj ps))
    (D₂ : Rp h₂ (x + 155) h₂ (tnSt x u tk2)) (D₃ : Rp h₂ (x + 155) h₃ (tnE x u tn w.params tk2 (tk2 + 4) [tnBm x] 62))
    (c0 : h₂.CodeRec (.ref (x + 155 + 13)) "cmp_to_key.<locals>.K.__init__") (c1 : h₂.CodeRec (.ref (x + 155 + 21)) "cmp_to_key.<locals>.K.__lt__")
    (f0 : u.f 0 = fnX "__init__" "cmp_to_key.<locals>.K.__init__" (ckPs w.params 2) (ckBd w.params 2) (ckSc w.params 2) [] .none .none .none (u.f 0).pyModule none (.ref (x + 155 + 13)) .none)
    (f1 : u.f 1 = fnX "__lt__" "cmp_to_key.<locals>.K.__lt__" (ckPs w.params 3) (ckBd w.params 3) (ckSc w.params 3) [("mycmp", L + 1)] .none .none .none (u.f 1).pyModule none (.ref (x + 155 + 21)) (.ref (x + 155 + 15)))
    (hk : scope.kind = .function) (hl : (envOfC qual scope L 75 cd).kindOf "K" = some .local)
    (hQ : ∀ h₄ ps, Fr (hideAll s.heap [70]) L h₄ (fun y => if y = "K" then some (.ref (x + 155 + 58)) else m y) → h₄.get? 70 = some (PySem.W.tabObj ps) → IsCls w h₄ (x + 155 + 58) s.heap.objs.size → Q () { s₃ with heap := h₄, toks := s₃.toks + 1 }) :
    wpAny M A (storeName (envOfC qual scope L 75 cd) "K" (.ref (x + 155 + 58))) Q E s₃ := by
  subst hh
  have hL' : 153 < L := by rw [hL]; exact Heap.lt_size (kob_at X (a := 153) (by kernel_rfl))
  have hLN : L < x + 155 := by rw [← hx]; obtain ⟨o, es, ep, ho, _⟩ := F.ns; exact Heap.lt_size ho
  have E₃ : Ext h₂ s₃.heap := tn_ext D₂ D₃
  have K₃ : ∀ b o, b ≠ 70 → h₁.get? b = some o → s₃.heap.get? b = some o := fun b o n e => E₃ _ _ (K₂ b o n e)
  have F₃ : Fr (hideAll s.heap [70]) L s₃.heap m := ⟨(by obtain ⟨o, es, ep, ho, r⟩ := F.ns; exact ⟨o, es, ep, K₃ L o (by show (L : Nat) ≠ 70; omega) ho, r⟩), fun b o e => K₃ b o (fun q => by subst q; rw [hideAll_none _ (List.mem_singleton.mpr rfl)] at e; cases e) (F.keep b o (of_hideAll _ e)), by rw [hideAll_size]; exact Nat.le_of_eq hL.symm⟩
  obtain ⟨o7, h7⟩ := h7
  refine wpAny_storeName_local hl F₃.ns (fun h₄ hn hs => ?_) (by show (scope.kind == .class || (scope.kind == .module && L != mainGlobals)) = false; rw [hk]; rfl)
  have K₄ : ∀ b o, b ≠ L → s₃.heap.get? b = some o → h₄.get? b = some o := fun b o n e => (hs.2 b n).trans e
  have cr : ∀ {c : Addr} {q : Str}, c ≠ L → h₂.CodeRec (.ref c) q → h₄.CodeRec (.ref c) q := by
    rintro c q n ⟨c', o, vs, t, e, g, r⟩
    cases e
    exact ⟨c, o, vs, t, rfl, K₄ _ _ n (E₃ _ _ g), r⟩
  refine hQ h₄ o7 (F₃.set hn hs) (K₄ _ _ (by show (70 : Nat) ≠ L; omega) (E₃ _ _ h7)) ⟨x, u, tn, tk2, L + 1, _, _, rfl, ⟨by omega, by omega⟩, fun p hp => K₄ _ _ (fun q => ?_) (D₃.get p hp), f0, f1, cr (fun q => ?_) c0, cr (fun q => ?_) c1, ?_⟩
  · rcases List.mem_append.mp hp with hp | hp
    · rcases List.mem_append.mp hp with hp | hp
      · simp only [tnL, List.mem_cons, List.not_mem_nil, or_false] at hp
        rcases hp with rfl | rfl | rfl | rfl | rfl | rfl | rfl | rfl | rfl | rfl | rfl
        all_goals (dsimp only at q; omega)
      · simp only [List.mem_cons, List.not_mem_nil, or_false] at hp
        rcases hp with rfl | rfl | rfl
        all_goals (dsimp only at q; omega)
    · simp only [List.cons_append, List.nil_append, List.mem_cons, List.not_mem_nil, or_false] at hp
      rcases hp with rfl | rfl | rfl
      all_goals (simp only [tnMem, tnBm] at q; omega)
  · have q' : (x + 155 + 13 : Nat) = L := q
    omega
  · have q' : (x + 155 + 21 : Nat) = L := q
    omega
  · obtain ⟨co, g, hd⟩ := hc
    exact ⟨co, K₄ _ _ (by show (L + 1 : Nat) ≠ L; omega) (K₃ _ _ (by show (L + 1 : Nat) ≠ 70; omega) g), hd⟩
end Mine

end
section
-- KCb
open PySem PySem.W PySem.W.X PySem.Spec PySem.Calls PyProof.Rows
set_option Elab.async false
set_option maxRecDepth 100000
set_option maxHeartbeats 4000000
namespace Mine
theorem fillK2 : ∀ w : World, (hd0.heap_1 w.params).In default → PySem.Challenge.rw_nq0103_01.prog = PySem.Challenge.rw_nq0103_01.prog → True := by
  k_fill
  intros; trivial
theorem kindM : ∀ n, ∀ x ∈ ([("mycmp", .ref 119)] : List (Str × Value)), ([("mycmp", .cell), ("K", .local), ("object", .globalImplicit)] : List (Str × NameKind)).lookup x.1 = some .local ∨ (([("mycmp", .cell), ("K", .local), ("object", .globalImplicit)] : List (Str × NameKind)).lookup x.1 = some .cell ∧ ((cellsFrom n ([("mycmp", .cell), ("K", .local), ("object", .globalImplicit)] : List (Str × NameKind)) []).lookup x.1).isSome = true) := by
  intro n x hx
  rw [List.mem_singleton.mp hx]
  exact .inr ⟨by kernel_rfl, by kernel_rfl⟩
theorem cmpKey {w : World} {A : Around} {s : Shared} {p : Program} {loose : List Str} {mean : ExcName → Option Value} {mg mb : Str → Option Value} {Q E : Value → Shared → Prop}
    (X : (hd0.heap_1 w.params).In s.heap) (T : Top p loose mean mg mb s.heap) (hr : A.depth + 3 < recursionLimit) (h70 : s.heap.get? 70 = some (tabObj #[]))
    (hQ : ∀ C h' tk' ps, (∀ b o, b ≠ 70 → s.heap.get? b = some o → h'.get? b = some o) → h'.get? 70 = some (tabObj ps) → IsCls w h' C s.heap.objs.size → Q (.ref C) { s with heap := h', toks := tk' }) :
    wpAny (model prog w) A (call (.ref 75) [.ref 119]) Q E s := by
  refine wpAny_call ?_
  k_dflt (refine' enterC (binds := [("mycmp", .ref 119)]) X T.nolimit ?k6 ?k7 ?k8 ?k9 ?kB ?kC ?_ ?c2 ?c3 ?c4; (case k6 => k_is); (case k7 => k_is); (case k8 => omega); (case k9 => exact BindsTo.of_eq rfl); (case kB => exact kindM); (case kC => decide); (case c2 => exact rfl); (case c3 => exact rfl); (case c4 => exact rfl))
  intro L h₁ tk cells hL F N Y
  dsimp only
  have hcell : h₁.IsCell (L + 1) (some (.ref 119)) := by obtain ⟨co, rfl, hco⟩ := CellsAre.one Y; exact ⟨co, (N _ (.head _)).1, hco⟩
  have T₁ := T.keeps F.keep
  refine wpAny_execs_cons ?_
  rw [arm_exec_ClassDef]
  refine wpAny_bind (wpAny_pure ?_)
  refine wpAny_bind (wpAny_standAt ?_)
  refine wpAny_bind (m := buildClassGuard _) ?_
  unfold buildClassGuard
  refine wpAny_bind (wpAny_nsGet T₁.b ?_)
  rw [T₁.builtins "__build_class__" (by decide)]
  rw [show bootBuiltins "__build_class__" = some (.builtin "__build_class__") from by kernel_rfl]
  refine wpAny_pure ?_
  refine wpAny_bind (wpAny_holding ?_)
  refine wpAny_bind (evalArgs_plainF ?_)
  refine spliced_cons (?_ : wpAny _ _ (eval (.Name "object" _) (envX _ _ L 75 _ (cellsFrom (L + 1) _ []))) _ _ _)
  refine nameX_B F X (topRead_of T) (by kernel_rfl) (v := .type "object") (by kernel_rfl) (by decide) ?_
  refine spliced_nil ?_
  refine wpAny_bind (wpAny_standAt ?_)
  refine wpAny_holding ?_
  unfold buildClass
  (with_reducible conv => enter [3]; whnf)
  have X₁ := X.keeps F.keep
  obtain ⟨sl, h4⟩ := mod_at X₁ T₁
  obtain ⟨x, hx⟩ : ∃ x, h₁.objs.size = x + 155 := ⟨h₁.objs.size - 155, by obtain ⟨co, g, _⟩ := hcell; have h1 : (L + 1 : Nat) < h₁.objs.size := Heap.lt_size g; have h2 : (153 : Nat) < s.heap.objs.size := Heap.lt_size (kob_at X (a := 153) (by kernel_rfl)); omega⟩
  have D : Rp h₁ (x + 155) h₁ (bc0 w.params sl tk) := by
    rw [← hx]
    refine Rp.start (fun p hp => ?_) ?_
    · simp only [List.mem_cons, List.not_mem_nil, or_false] at hp
      rcases hp with rfl | rfl | rfl | rfl | rfl
      · exact F.keep _ _ h70
      · exact kob_at X₁ (by kernel_rfl)
      · exact kob_at X₁ (by kernel_rfl)
      · exact h4
      · exact kob_at X₁ (by kernel_rfl)
    · show [70, 74, 3, 4, 2].Nodup; decide
  refine evs D rfl noOrc_ok den_ok 200 [] [] (.ref (x + 155)) ⟨(bc0 w.params sl tk).L ++ [bcT x], 1, tk⟩ (by kernel_rfl) fun h₂ D => ?_; (with_reducible conv => enter [3]; whnf)
  refine evr D rfl noOrc_ok den_ok 200 [] [] ([.type "object"], false) (by kernel_rfl) fun h₂ D => ?_; (with_reducible conv => enter [3]; whnf)
  dsimp -zeta only [List.lookup]
  refine evr D rfl noOrc_ok den_ok 200 [] [] (.type "type") (by kernel_rfl) fun h₂ D => ?_; (with_reducible conv => enter [3]; whnf)
  refine evr D rfl noOrc_ok den_ok 200 [] [] true (by kernel_rfl) fun h₂ D => ?_; (with_reducible conv => enter [3]; whnf)
  (refine wpT (by kernel_rfl) ?_; (with_reducible conv => enter [3]; whnf))
  refine evr D rfl noOrc_ok den_ok 200 [] [] (.type "type") (by kernel_rfl) fun h₂ D => ?_; (with_reducible conv => enter [3]; whnf)
  refine evs D rfl noOrc_ok den_ok 200 [] [] (.str "K" tk) ⟨(bc0 w.params sl tk).L ++ [bcT x], 1, tk + 1⟩ (by kernel_rfl) fun h₂ D => ?_; (with_reducible conv => enter [3]; whnf)
  (refine wpF (by kernel_rfl) ?_; (with_reducible conv => enter [3]; whnf))
  refine wpAny_bind (wpAny_pure ?_); (with_reducible conv => enter [3]; whnf)
  refine wpAny_holding ?_; (with_reducible conv => enter [3]; whnf)
  refine evs D rfl noOrc_ok den_ok 300 [] [] (some (.ref (x + 155 + 1))) ⟨(bc0 w.params sl tk).L ++ [bcT x, bcP x], 2, tk + 2⟩ (by kernel_rfl) fun h₂ D => ?_; (with_reducible conv => enter [3]; whnf)
  refine evs D rfl noOrc_ok den_ok 300 [6] [x + 155 + 1] (.ref (x + 155 + 2)) ⟨(bc0 w.params sl tk).L ++ [bcT x, bcP x, (x + 155 + 2, ⟨.type "dict", none, .dict #[] 0, #[]⟩)], 3, tk + 2⟩ (by kernel_rfl) fun h₂ D => ?_; (with_reducible conv => enter [3]; whnf)
  refine evr D rfl noOrc_ok den_ok 200 [] [] () (by kernel_rfl) fun h₂ D => ?_; (with_reducible conv => enter [3]; whnf)
  refine evr D rfl noOrc_ok den_ok 200 [7] [x + 155 + 2] (some (.builtin "dict.__getitem__")) (by kernel_rfl) fun h₂ D => ?_; (with_reducible conv => enter [3]; whnf)
  (refine wpF (by kernel_rfl) ?_; (with_reducible conv => enter [3]; whnf))
  refine wpAny_holding ?_; (with_reducible conv => enter [3]; whnf)
  (refine wpF (by kernel_rfl) ?_; (with_reducible conv => enter [3]; whnf))
  refine wpAny_bind (wpAny_pure ?_); (with_reducible conv => enter [3]; whnf)
  (refine wpF (by kernel_rfl) ?_; (with_reducible conv => enter [3]; whnf))
  refine wpAny_bind (wpAny_pure ?_); (with_reducible conv => enter [3]; whnf)
  refine evb D rfl noOrc_ok den_ok 500 [1, 0, 0, 0, 0] [74, 70, 70, 70, 70] (.ref (x + 155 + 5)) (by kernel_rfl) fun h₂ D => ?_; (with_reducible conv => enter [3]; whnf)
  refine evr D rfl noOrc_ok den_ok 500 [2, 3] [3, 4] 0 (by kernel_rfl) fun h₂ D => ?_; (with_reducible conv => enter [3]; whnf)
  refine evb D rfl noOrc_ok den_ok 500 [2] [3] (x + 155 + 6) (by kernel_rfl) fun h₂ D => ?_; (with_reducible conv => enter [3]; whnf)
  refine evr D rfl noOrc_ok den_ok 500 [] [] [("mycmp", L + 1)] (by kernel_rfl) fun h₂ D => ?_; (with_reducible conv => enter [3]; whnf)
  refine wpAny_holding ?_; (with_reducible conv => enter [3]; whnf)
  refine wpAny_bind (wpAny_enterFrame (limit_at X (D.at (i := 4) (p := (2, kob w.params 2)) (by kernel_rfl)) T.nolimit) (by show A.depth + 1 < recursionLimit; omega) ?_); (with_reducible conv => enter [3]; whnf)
  refine evb D rfl noOrc_ok den_ok 900 [7, 7, 2, 7, 7, 7, 7, 7, 7, 7, 7, 7] [x + 155 + 2, x + 155 + 2, 3, x + 155 + 2, x + 155 + 2, x + 155 + 2, x + 155 + 2, x + 155 + 2, x + 155 + 2, x + 155 + 2, x + 155 + 2, x + 155 + 2] () (by kernel_rfl) fun h₂ D => ?_; (with_reducible conv => enter [3]; whnf)
  refine evb D rfl noOrc_ok den_ok 3000 [7, 7, 7, 7, 7, 7, 10, 9, 9, 9, 9, 2, 3, 2, 7, 7, 7, 10, 9, 9, 9, 9, 2, 3, 2, 7, 7, 7, 10, 9, 9, 9, 9, 2, 3, 2, 7, 7, 7, 10, 9, 9, 9, 9, 2, 3, 2, 7, 7, 7, 10, 9, 9, 9, 9, 2, 3, 2, 7, 7, 7, 10, 9, 9, 9, 9, 2, 3, 2, 7, 7, 7, 7, 7, 7] [x + 155 + 2, x + 155 + 2, x + 155 + 2, x + 155 + 2, x + 155 + 2, x + 155 + 2, x + 155 + 5, x + 155 + 4, x + 155 + 4, x + 155 + 4, x + 155 + 4, 3, 4, 3, x + 155 + 2, x + 155 + 2, x + 155 + 2, x + 155 + 5, x + 155 + 4, x + 155 + 4, x + 155 + 4, x + 155 + 4, 3, 4, 3, x + 155 + 2, x + 155 + 2, x + 155 + 2, x + 155 + 5, x + 155 + 4, x + 155 + 4, x + 155 + 4, x + 155 + 4, 3, 4, 3, x + 155 + 2, x + 155 + 2, x + 155 + 2, x + 155 + 5, x + 155 + 4, x + 155 + 4, x + 155 + 4, x + 155 + 4, 3, 4, 3, x + 155 + 2, x + 155 + 2, x + 155 + 2, x + 155 + 5, x + 155 + 4, x + 155 + 4, x + 155 + 4, x + 155 + 4, 3, 4, 3, x + 155 + 2, x + 155 + 2, x + 155 + 2, x + 155 + 5, x + 155 + 4, x + 155 + 4, x + 155 + 4, x + 155 + 4, 3, 4, 3, x + 155 + 2, x + 155 + 2, x + 155 + 2, x + 155 + 2, x + 155 + 2, x + 155 + 2] .next (by kernel_rfl) fun h₂ D => ?_; (with_reducible conv => enter [3]; whnf)
  refine evb D rfl noOrc_ok den_ok 900 [7, 7, 7] [x + 155 + 2, x + 155 + 2, x + 155 + 2] () (by kernel_rfl) fun h₂ D => ?_; (with_reducible conv => enter [3]; whnf)
  (refine wpF (by kernel_rfl) ?_; (with_reducible conv => enter [3]; whnf))
  have D₂ := D.subK (p := w.params) (tk := tk) (by kernel_rfl) (by kernel_rfl)
  have c0 := codeAt_rec D (i := 18) (c := x + 155 + 13) (q := "cmp_to_key.<locals>.K.__init__") (by kernel_rfl) (by kernel_rfl)
  have c1 := codeAt_rec D (i := 26) (c := x + 155 + 21) (q := "cmp_to_key.<locals>.K.__lt__") (by kernel_rfl) (by kernel_rfl)
  have K₂ := bc_keep D hx (n := 56) (a0 := 70) (a1 := 74) (a2 := 3) (a3 := 4) (a4 := 2) (by kernel_rfl) (o1 := kob w.params 74) (by kernel_rfl) (o2 := kob w.params 3) (by kernel_rfl) (by kernel_rfl) (o4 := kob w.params 2) (by kernel_rfl) (kob_at X₁ (by kernel_rfl)) (kob_at X₁ (by kernel_rfl)) h4 (kob_at X₁ (by kernel_rfl))
  have h7 := D.hasT (i := 0) (a := 70) (by kernel_rfl) (by kernel_rfl)
  refine callType (tn := tk) D₂ (by kernel_rfl) fun h₃ D₃ => ?_; (with_reducible conv => enter [3]; whnf)
  refine wpAny_pure (wpAny_bind (wpAny_pure (wpAny_bind (wpAny_standAt (wpAny_bind (wpAny_bindName ?_))))))
  refine cmpTail (u := ckU w.params tk _) (tn := tk) X hL F hcell hx rfl K₂ h7 D₂ D₃ c0 c1 (by kernel_rfl) (by kernel_rfl) rfl rfl fun h₄ T4 F₄ h7₄ hC => ?_
  refine wpAny_pure ?_
  dsimp only
  refine wpAny_execs_cons (wpAny_Return_some ?_)
  refine nameX_L (cl := cellsFrom (L + 1) _ []) F₄ (v := .ref (x + 155 + 58)) (by rfl) ?_
  exact hQ _ _ _ T4 (fun b o n e => F₄.keep b o (hideAll_get _ e (by simpa using n))) h7₄ hC
end Mine

end
section
-- KI
open PySem PySem.W PySem.W.X PySem.Spec PySem.Calls PyProof.Rows
set_option Elab.async false
set_option maxRecDepth 100000
set_option maxHeartbeats 1000000
namespace Mine
theorem mem_lookup {a : Nat} {o : Obj} (K : List (Nat × Obj)) (h : K.lookup a = some o) : (a, o) ∈ K := by
  induction K with
  | nil => cases h
  | cons kv r ih =>
    obtain ⟨k, v⟩ := kv
    rw [List.lookup_cons] at h
    split at h
    · rename_i hb
      cases h
      rw [beq_iff_eq.mp hb]
      exact List.mem_cons_self
    · exact List.mem_cons_of_mem _ (ih h)
noncomputable def clsObj (x : Nat) (u : TNv) (tn : Nat) : Obj := tnCls2 x false ["obj"] (sl5 x tn (u.t 3)).toArray
noncomputable def nsObj (x : Nat) (u : TNv) (p : Params) (tk : Nat) : Obj := ⟨.type "dict", none, .dict ((tnNs3 x u p tk).push (ent (PyData.keyHash p "__doc__") "__doc__" (tk + 2) .none)) 3, #[]⟩
/-- the class and what hangs on it, as a fragment -/
noncomputable def kcK (x : Nat) (u : TNv) (tn : Nat) (p : Params) (tk : Nat) : Frag := [(x + 155 + 58, clsObj x u tn), (x + 155 + 57, nsObj x u p tk), (x + 155 + 14, fnObj (u.f 0)), (x + 155 + 22, fnObj (u.f 1)), tnMem x tk]
section
variable {x tn tk : Nat} {u : TNv} {p : Params}
theorem ne_beq {a b : Nat} (h : a ≠ b) : (a == b) = false := beq_false_of_ne h
theorem kc_C : (kcK x u tn p tk).lookup (x + 155 + 58) = some (clsObj x u tn) := by
  unfold kcK; rw [List.lookup_cons, beq_self_eq_true]
theorem kc_ns : (kcK x u tn p tk).lookup (x + 155 + 57) = some (nsObj x u p tk) := by
  unfold kcK; rw [List.lookup_cons, ne_beq (by omega)]; dsimp only; rw [List.lookup_cons, beq_self_eq_true]
theorem kc_I : (kcK x u tn p tk).lookup (x + 155 + 14) = some (fnObj (u.f 0)) := by
  unfold kcK; rw [List.lookup_cons, ne_beq (by omega)]; dsimp only; rw [List.lookup_cons, ne_beq (by omega)]; dsimp only; rw [List.lookup_cons, beq_self_eq_true]
theorem kc_L : (kcK x u tn p tk).lookup (x + 155 + 22) = some (fnObj (u.f 1)) := by
  unfold kcK; rw [List.lookup_cons, ne_beq (by omega)]; dsimp only; rw [List.lookup_cons, ne_beq (by omega)]; dsimp only; rw [List.lookup_cons, ne_beq (by omega)]; dsimp only; rw [List.lookup_cons, beq_self_eq_true]
theorem kc_M : (kcK x u tn p tk).lookup (x + 155 + 59) = some (tnMem x tk).2 := by
  unfold kcK tnMem; rw [List.lookup_cons, ne_beq (by omega)]; dsimp only; rw [List.lookup_cons, ne_beq (by omega)]; dsimp only; rw [List.lookup_cons, ne_beq (by omega)]; dsimp only; rw [List.lookup_cons, ne_beq (by omega)]; dsimp only; rw [List.lookup_cons, beq_self_eq_true]
theorem own_C (name : Str) : ownIn (kcK x u tn p tk) name (.ref (x + 155 + 58)) = nsIn (kcK x u tn p tk) (x + 155 + 57) name := by
  unfold ownIn; dsimp only; rw [kc_C]; rfl
theorem find_C (name : Str) : findIn (kcK x u tn p tk) (.ref (x + 155 + 58)) name = match nsIn (kcK x u tn p tk) (x + 155 + 57) name with
    | some (some v) => some (some v)
    | some none => alongIn (kcK x u tn p tk) name [.type "object"]
    | none => none := by
  unfold findIn; dsimp only; rw [kc_C]
  show alongIn _ name (.ref (x + 155 + 58) :: [.type "object"]) = _
  rw [alongIn, own_C]
  rfl
noncomputable def lookO (o : Obj) (name : Str) : Option (Option Value) := match o with
  | ⟨_, _, .dict es _, _⟩ => (match es.toList.find? (·.key.isStr name) with
      | some e => some (some e.val)
      | none => if es.toList.any (·.refKey) then none else some none)
  | _ => none
theorem ns_C (name : Str) : nsIn (kcK x u tn p tk) (x + 155 + 57) name = lookO (nsObj x u p tk) name := by
  unfold nsIn; rw [kc_ns]; rfl
theorem findHas {name : Str} {v : Value} (e : lookO (nsObj x u p tk) name = some (some v)) : findIn (kcK x u tn p tk) (.ref (x + 155 + 58)) name = some (some v) := by rw [find_C, ns_C, e]
theorem findNot {name : Str} {r : Option (Option Value)} (e : lookO (nsObj x u p tk) name = some none) (a : alongIn [] name [.type "object"] = r) (hr : alongIn (kcK x u tn p tk) name [.type "object"] = alongIn [] name [.type "object"] := by rfl) : findIn (kcK x u tn p tk) (.ref (x + 155 + 58)) name = r := by rw [find_C, ns_C, e]; exact hr.trans a
theorem kf_init : findIn (kcK x u tn p tk) (.ref (x + 155 + 58)) "__init__" = some (some (.ref (x + 155 + 14))) := findHas (by kernel_rfl)
theorem kf_lt : findIn (kcK x u tn p tk) (.ref (x + 155 + 58)) "__lt__" = some (some (.ref (x + 155 + 22))) := findHas (by kernel_rfl)
theorem kf_obj : findIn (kcK x u tn p tk) (.ref (x + 155 + 58)) "obj" = some (some (.ref (x + 155 + 59))) := findHas (by kernel_rfl)
theorem kf_set : findIn (kcK x u tn p tk) (.ref (x + 155 + 58)) "__setattr__" = some (some (.builtin "object.__setattr__")) := findNot (by kernel_rfl) (by kernel_rfl)
theorem kf_getattribute : findIn (kcK x u tn p tk) (.ref (x + 155 + 58)) "__getattribute__" = some (some (.builtin "object.__getattribute__")) := findNot (by kernel_rfl) (by kernel_rfl)
theorem kf_getattr : findIn (kcK x u tn p tk) (.ref (x + 155 + 58)) "__getattr__" = some none := findNot (by kernel_rfl) (by kernel_rfl)
theorem kt_C : typeIn (kcK x u tn p tk) (.ref (x + 155 + 58)) = some (.type "type") := by unfold typeIn; dsimp only; rw [kc_C]; rfl
theorem kt_I : typeIn (kcK x u tn p tk) (.ref (x + 155 + 14)) = some (.type "function") := by unfold typeIn; dsimp only; rw [kc_I]; rfl
theorem kt_L : typeIn (kcK x u tn p tk) (.ref (x + 155 + 22)) = some (.type "function") := by unfold typeIn; dsimp only; rw [kc_L]; rfl
theorem kt_M : typeIn (kcK x u tn p tk) (.ref (x + 155 + 59)) = some (.type "member_descriptor") := by unfold typeIn; dsimp only; rw [kc_M]; rfl
theorem k_isFnL : isFn (kcK x u tn p tk) (.ref (x + 155 + 22)) = true := by unfold isFn; rw [kt_L]; rfl
theorem k_clsIn : clsIn (kcK x u tn p tk) (x + 155 + 58) = some { name := "K", bases := [.type "object"], mro := [.ref (x + 155 + 58), .type "object"], ns := x + 155 + 57, qualname := "cmp_to_key.<locals>.K", hasDict := false, slotNames := ["obj"] } := by unfold clsIn; rw [kc_C]; rfl
theorem k_isCls : isClsIn (kcK x u tn p tk) (x + 155 + 58) = true := by unfold isClsIn; rw [k_clsIn]; rfl
theorem k_over : plainOver (kcK x u tn p tk) (x + 155 + 58) = true := by unfold plainOver; rw [k_clsIn]; kernel_rfl
theorem k_notFirst : notFirst (kcK x u tn p tk) (x + 155 + 58) (.ref (x + 155 + 58)) = true := by unfold notFirst; rw [beq_self_eq_true]; rfl
theorem k_plainGet : plainGet (kcK x u tn p tk) (x + 155 + 58) "obj" = true := by unfold plainGet; rw [kf_getattribute, kf_getattr]; rfl
theorem k_spGet : specialIn (kcK x u tn p tk) (.ref (x + 155 + 59)) "__get__" = some (some (.builtin "member_descriptor.__get__")) := by unfold specialIn; rw [kt_M]; kernel_rfl
theorem k_spSet : specialIn (kcK x u tn p tk) (.ref (x + 155 + 59)) "__set__" = some (some (.builtin "member_descriptor.__set__")) := by unfold specialIn; rw [kt_M]; kernel_rfl
theorem k_takes : takesIn (kcK x u tn p tk) (.ref (x + 155 + 59)) = some true := by unfold takesIn; rw [k_spSet]
theorem k_taker : takerIn (kcK x u tn p tk) (x + 155 + 58) "obj" = some (some (.ref (x + 155 + 59))) := by unfold takerIn; rw [kf_obj]; dsimp only [Option.bind]; rw [k_takes]; rfl
theorem k_rec : recIn (kcK x u tn p tk) (x + 155 + 59) "member_descriptor" = some [.str "obj" tk, .ref (x + 155 + 58), .builtin "proto.slot", .builtin "proto.slot#set", .int 0 0] := by unfold recIn; rw [kc_M]; rfl
theorem k_slot : slotIn (kcK x u tn p tk) (x + 155 + 59) (x + 155 + 58) = some 0 := by
  unfold slotIn; rw [k_rec, k_clsIn]; dsimp only; rw [contains_self]; kernel_rfl
theorem k_makes : makesIn (kcK x u tn p tk) (x + 155 + 58) = true := by
  have h1 : specialIn (kcK x u tn p tk) (.ref (x + 155 + 58)) "__call__" = some (some (.builtin "type.__call__")) := by unfold specialIn; rw [kt_C]; kernel_rfl
  have h2 : instIn (kcK x u tn p tk) (.ref (x + 155 + 58)) (.type "type") = some true := by unfold instIn; rw [kt_C]; kernel_rfl
  unfold makesIn; rw [kc_C]; unfold clsObj tnCls2; dsimp only; rw [h1, h2, contains_self]; kernel_rfl
theorem kcK_in {w : World} {h : Heap} {tk' : Nat} (g : ∀ q ∈ (tnE x u tn w.params tk tk' [tnBm x] 62).L, h.get? q.1 = some q.2) : (kcK x u tn w.params tk).In h := by
  intro a o e
  refine g (a, o) ?_
  have hm := mem_lookup _ e
  simp only [kcK, List.mem_cons, List.not_mem_nil, or_false] at hm
  have inL : ∀ q ∈ tnL x u, q ∈ (tnE x u tn w.params tk tk' [tnBm x] 62).L := fun q hq => List.mem_append_left _ (List.mem_append_left _ hq)
  rcases hm with e | e | e | e | e
  · rw [e]; exact List.mem_append_left _ (List.mem_append_right _ (.tail _ (.tail _ (.head _))))
  · rw [e]; exact List.mem_append_left _ (List.mem_append_right _ (.tail _ (.head _)))
  · rw [e]; exact inL _ (.tail _ (.tail _ (.tail _ (.head _))))
  · rw [e]; exact inL _ (.tail _ (.tail _ (.tail _ (.tail _ (.head _)))))
  · rw [e]; exact List.mem_append_right _ (.head _)
end
/-- what the rest of the program asks of the class -/
noncomputable def IsC (w : World) (h : Heap) (C : Addr) : Prop := ∃ x u tn tk c pm0 pm1, C = x + 155 + 58 ∧ (kcK x u tn w.params tk).In h ∧
  u.f 0 = fnX "__init__" "cmp_to_key.<locals>.K.__init__" (ckPs w.params 2) (ckBd w.params 2) (ckSc w.params 2) [] .none .none .none pm0 none (.ref (x + 155 + 13)) .none ∧
  u.f 1 = fnX "__lt__" "cmp_to_key.<locals>.K.__lt__" (ckPs w.params 3) (ckBd w.params 3) (ckSc w.params 3) [("mycmp", c)] .none .none .none pm1 none (.ref (x + 155 + 21)) (.ref (x + 155 + 15)) ∧
  h.CodeRec (.ref (x + 155 + 13)) "cmp_to_key.<locals>.K.__init__" ∧ h.CodeRec (.ref (x + 155 + 21)) "cmp_to_key.<locals>.K.__lt__" ∧ h.IsCell c (some (.ref 119))
theorem IsCls.toC {w : World} {h : Heap} {C : Addr} {lo : Nat} (x : IsCls w h C lo) : IsC w h C := by
  obtain ⟨x, u, tn, tk, c, pm0, pm1, e, -, g, r⟩ := x
  exact ⟨x, u, tn, tk, c, pm0, pm1, e, kcK_in g, r⟩
theorem IsC.keeps {w : World} {h h' : Heap} {C : Addr} (x : IsC w h C) (k : ∀ b o, h.get? b = some o → h'.get? b = some o) : IsC w h' C := by
  obtain ⟨x, u, tn, tk, c, pm0, pm1, e, g, f0, f1, c0, c1, ic⟩ := x
  exact ⟨x, u, tn, tk, c, pm0, pm1, e, g.keeps k, f0, f1, c0.keeps k, c1.keeps k, ic.keeps k⟩
noncomputable def notList (o : Obj) : Bool := match o.data with
  | .seq _ _ => o.cls != .type "list"
  | _ => true
/-- the class stays where a list is hidden -/
theorem IsC.hide {w : World} {h h' : Heap} {C : Addr} (x : IsC w h C) (k : ∀ b o, notList o = true → h.get? b = some o → h'.get? b = some o) : IsC w h' C := by
  obtain ⟨x, u, tn, tk, c, pm0, pm1, e, g, f0, f1, c0, c1, ic⟩ := x
  have cr : ∀ {v : Value} {q : Str}, h.CodeRec v q → h'.CodeRec v q := by
    rintro v q ⟨c', o, vs, t, e1, e2, e3, e4⟩
    exact ⟨c', o, vs, t, e1, k _ _ (by unfold notList; rw [e3]) e2, e3, e4⟩
  refine ⟨x, u, tn, tk, c, pm0, pm1, e, fun a o q => k a o ?_ (g a o q), f0, f1, cr c0, cr c1, ?_⟩
  · have hm := mem_lookup _ q
    simp only [kcK, List.mem_cons, List.not_mem_nil, or_false] at hm
    rcases hm with e | e | e | e | e
    · rw [(Prod.mk.inj e).2]; rfl
    · rw [(Prod.mk.inj e).2]; rfl
    · rw [(Prod.mk.inj e).2]; rfl
    · rw [(Prod.mk.inj e).2]; rfl
    · rw [show o = (tnMem x tk).2 from congrArg Prod.snd e]; rfl
  · obtain ⟨o, e1, e2⟩ := ic
    exact ⟨o, k _ _ (by unfold notList; rw [e2]) e1, e2⟩
/-- the eight objects that make the class -/
theorem IsCls.ents {w : World} {h : Heap} {C : Addr} {lo : Nat} (z : IsCls w h C lo) : ∃ a1 a2 a3 a4 a5 a6 a7 : Addr, ∃ o1 o2 o3 o4 o5 o6 o7 o8 : Obj,
    (∀ p ∈ [(C, o8), (a1, o1), (a2, o2), (a3, o3), (a4, o4), (a5, o5), (a6, o6), (a7, o7)], @LE.le Nat instLENat lo p.1 ∧ h.get? p.1 = some p.2) ∧
    ∀ h' : Heap, (∀ p ∈ [(C, o8), (a1, o1), (a2, o2), (a3, o3), (a4, o4), (a5, o5), (a6, o6), (a7, o7)], h'.get? p.1 = some p.2) → IsC w h' C := by
  obtain ⟨x, u, tn, tk, c, pm0, pm1, rfl, ⟨l1, l2⟩, g, f0, f1, ⟨c0, o0, vs0, t0, e0, g0, r0⟩, ⟨c1, o1, vs1, t1, e1, g1, r1⟩, ⟨oc, gc, rc⟩⟩ := z
  have K := kcK_in g
  cases e0
  cases e1
  refine ⟨x + 155 + 57, x + 155 + 14, x + 155 + 22, (tnMem x tk).1, x + 155 + 13, x + 155 + 21, c, nsObj x u w.params tk, fnObj (u.f 0), fnObj (u.f 1), (tnMem x tk).2, o0, o1, oc, clsObj x u tn, ?_, ?_⟩
  · intro p hp
    simp only [List.mem_cons, List.not_mem_nil, or_false] at hp
    rcases hp with rfl | rfl | rfl | rfl | rfl | rfl | rfl | rfl
    · exact ⟨by show lo ≤ x + 155 + 58; omega, K _ _ kc_C⟩
    · exact ⟨by show lo ≤ x + 155 + 57; omega, K _ _ kc_ns⟩
    · exact ⟨by show lo ≤ x + 155 + 14; omega, K _ _ kc_I⟩
    · exact ⟨by show lo ≤ x + 155 + 22; omega, K _ _ kc_L⟩
    · exact ⟨by show lo ≤ x + 155 + 59; omega, K _ _ kc_M⟩
    · exact ⟨by show lo ≤ x + 155 + 13; omega, g0⟩
    · exact ⟨by show lo ≤ x + 155 + 21; omega, g1⟩
    · exact ⟨l1, gc⟩
  · intro h' hh
    refine ⟨x, u, tn, tk, c, pm0, pm1, rfl, fun a o q => ?_, f0, f1, ⟨_, o0, vs0, t0, rfl, hh _ (.tail _ (.tail _ (.tail _ (.tail _ (.tail _ (.head _)))))), r0⟩, ⟨_, o1, vs1, t1, rfl, hh _ (.tail _ (.tail _ (.tail _ (.tail _ (.tail _ (.tail _ (.head _))))))), r1⟩, ⟨oc, hh _ (.tail _ (.tail _ (.tail _ (.tail _ (.tail _ (.tail _ (.tail _ (.head _)))))))), rc⟩⟩
    have hm := mem_lookup _ q
    simp only [kcK, List.mem_cons, List.not_mem_nil, or_false] at hm
    rcases hm with e | e | e | e | e
    · rw [(Prod.mk.inj e).1, (Prod.mk.inj e).2]; exact hh _ (.head _)
    · rw [(Prod.mk.inj e).1, (Prod.mk.inj e).2]; exact hh _ (.tail _ (.head _))
    · rw [(Prod.mk.inj e).1, (Prod.mk.inj e).2]; exact hh _ (.tail _ (.tail _ (.head _)))
    · rw [(Prod.mk.inj e).1, (Prod.mk.inj e).2]; exact hh _ (.tail _ (.tail _ (.tail _ (.head _))))
    · have := hh ((tnMem x tk).1, (tnMem x tk).2) (.tail _ (.tail _ (.tail _ (.tail _ (.head _)))))
      rw [show a = (tnMem x tk).1 from congrArg Prod.fst e, show o = (tnMem x tk).2 from congrArg Prod.snd e]
      exact this
end Mine

end
section
-- KJ
open PySem PySem.W PySem.W.X PySem.Spec PySem.Calls PyProof.Rows
set_option Elab.async false
set_option maxRecDepth 100000
set_option maxHeartbeats 1000000
namespace Mine
theorem initBody (p : Params) : ∃ p1 p2 p3 p4, ckBd p 2 = [.Assign [.Attribute (.Name "self" p1) "obj" p2] (.Name "obj" p3) p4] := by
  exact ⟨_, _, _, _, rfl⟩
theorem initSc (p : Params) : ckSc p 2 = { kind := .function, names := [("self", .local), ("obj", .local)], isGenerator := false, isCoroutine := false } := by kernel_rfl
theorem ltSc (p : Params) : ckSc p 3 = { kind := .function, names := [("self", .local), ("other", .local), ("mycmp", .free)], isGenerator := false, isCoroutine := false } := by kernel_rfl
theorem ltBody (p : Params) : ∃ p1 p2 p3 p4 p5 p6 p7 p8 k p9, ckBd p 3 = [.Return (some (.Compare (.Call (.Name "mycmp" p1) [.Attribute (.Name "self" p2) "obj" p3, .Attribute (.Name "other" p4) "obj" p5] [] p6) [.Lt] [.Constant (.int 0) k p7] p8)) p9] := by
  exact ⟨_, _, _, _, _, _, _, _, _, _, rfl⟩
noncomputable abbrev keyObj (C dx d : Addr) : Obj := { cls := .ref C, dict := some dx, data := .plain, slots := #[some (.ref d)] }
noncomputable def IsKey (w : World) (h : Heap) (C a d : Addr) : Prop := ∃ dx, IsC w h C ∧ h.get? a = some (keyObj C dx d) ∧ h.get? dx = some emptyDict
theorem IsKey.keeps {w : World} {h h' : Heap} {C a d : Addr} (x : IsKey w h C a d) (k : ∀ b o, h.get? b = some o → h'.get? b = some o) : IsKey w h' C a d := by
  obtain ⟨dx, c, g1, g2⟩ := x
  exact ⟨dx, c.keeps k, k _ _ g1, k _ _ g2⟩
theorem initBinds {s : Shared} {p : Params} {pm cd : Value} {a d : Addr} : BindsTo s (fnX "__init__" "cmp_to_key.<locals>.K.__init__" (ckPs p 2) (ckBd p 2) (ckSc p 2) [] .none .none .none pm none cd .none) ⟨[.ref a, .ref d], []⟩ [("self", .ref a), ("obj", .ref d)] := BindsTo.of_eq (by kernel_rfl)
/-- weigh(deed): a new key -/
theorem makeKey {w : World} {A : Around} {s : Shared} {C d : Addr} {Q E : Value → Shared → Prop} (hC : IsC w s.heap C) (hl : s.heap.NoLimit) (hr : A.depth + 4 < recursionLimit)
    (h : ∀ a dx h' tk', Ext s.heap h' → @LE.le Nat instLENat s.heap.objs.size dx → @LT.lt Nat instLTNat dx a → h'.get? a = some (keyObj C dx d) → h'.get? dx = some emptyDict → Q (.ref a) { s with heap := h', toks := tk' }) : wpAny (model prog w) A (call (.ref C) [.ref d]) Q E s := by
  have hC' := hC
  obtain ⟨x, u, tn, tk, c, pm0, pm1, rfl, g, f0, f1, c0, c1, ic⟩ := hC
  have X := g
  obtain ⟨hh, gs, dr, t, os⟩ := s
  refine wpAny_call (make_core (makes_of X k_makes) (looks_findIn X kf_init) (fun self => bind_fn X self kt_I) (.inl rfl) ?_)
  have kp : ∀ b o, hh.get? b = some o → ((hh.push emptyDict).push (instObj (x + 155 + 58) hh.objs.size)).get? b = some o := fun b o e => Heap.get?_push_of_some _ (Heap.get?_push_of_some _ e)
  have ha : ((hh.push emptyDict).push (instObj (x + 155 + 58) hh.objs.size)).get? (hh.objs.size + 1) = some (instObj (x + 155 + 58) hh.objs.size) := by
    have := Heap.get?_push_size (hh.push emptyDict) (o := instObj (x + 155 + 58) hh.objs.size) rfl
    rwa [Heap.size_push] at this
  have hdx : ((hh.push emptyDict).push (instObj (x + 155 + 58) hh.objs.size)).get? hh.objs.size = some emptyDict := Heap.get?_push_of_some _ (Heap.get?_push_size _ rfl)
  generalize hH : (hh.push emptyDict).push (instObj (x + 155 + 58) hh.objs.size) = H at kp ha hdx ⊢
  have fo : H.get? (x + 155 + 14) = some (fnObj (u.f 0)) := kp _ _ (X _ _ kc_I)
  rw [f0] at fo
  refine codeAny_call_def (fd := fnX "__init__" "cmp_to_key.<locals>.K.__init__" (ckPs w.params 2) (ckBd w.params 2) (ckSc w.params 2) [] .none .none .none pm0 none (.ref (x + 155 + 13)) .none) (body := ckBd w.params 2) (binds := [("self", .ref (hh.objs.size + 1)), ("obj", .ref d)])
    (by show A.depth + 1 < recursionLimit; omega) fo rfl (hl.keeps kp) (c0.keeps kp) rfl initBinds (by show ∀ y ∈ (ckSc w.params 2).names, y.2 ≠ .cell; rw [initSc]; decide) (by rw [initSc]; intro y hy; simp only [List.mem_cons, List.not_mem_nil, or_false] at hy; rcases hy with rfl | rfl <;> rfl) (fun h₁ hns hk => ?_) (by rw [initSc]) (by rw [initSc]) (by rw [initSc])
  obtain ⟨p1, p2, p3, p4, hb⟩ := initBody w.params
  rw [hb]
  have F : Fr (hideAll H [hh.objs.size + 1]) H.objs.size h₁ _ := ⟨hns, fun b o e => hk b o (of_hideAll _ e), Nat.le_of_eq (hideAll_size _ _)⟩
  have N : News (hideAll H [hh.objs.size + 1]) H.objs.size h₁ [(hh.objs.size + 1, instObj (x + 155 + 58) hh.objs.size)] := fun q hq => by
    rw [List.mem_singleton.mp hq]
    exact ⟨hk _ _ ha, Nat.ne_of_lt (Heap.lt_size ha), hideAll_none _ (.head _)⟩
  have ne : ∀ b o, hh.get? b = some o → b ∉ [hh.objs.size + 1] := fun b o e q => by
    have h1 := Heap.lt_size e
    rw [List.mem_singleton.mp q] at h1
    exact Nat.not_lt.mpr (Nat.le_succ _) h1
  have X₀ : (kcK x u tn w.params tk).In (hideAll H [hh.objs.size + 1]) := fun b o e => hideAll_get _ (kp b o (X b o e)) (ne b o (X b o e))
  have I : InstAt h₁ (hh.objs.size + 1) (instObj (x + 155 + 58) hh.objs.size) (x + 155 + 58) (some emptyDict) := ⟨hk _ _ ha, rfl, rfl, hk _ _ hdx⟩
  rw [initSc]
  refine wpAny_execs_cons (plainObj_wpAny_Assign_Attribute (nameX_L (cl := []) F (v := .ref d) rfl (nameX_L (cl := []) F (v := .ref (hh.objs.size + 1)) rfl (set_slot F X₀ N I kf_set k_over k_taker kt_M k_slot (by decide) rfl rfl (Upd.head (fun _ hq => by cases hq)) fun h' F' N' => ?_))))
  refine wpAny_execs_nil ?_
  refine ⟨rfl, ?_⟩
  have kx : Ext hh h' := fun b o e => F'.keep b o (hideAll_get _ (kp b o e) (ne b o e))
  exact h (hh.objs.size + 1) hh.objs.size h' _ kx (Nat.le_refl _) (Nat.lt_succ_self _) (N' _ (.head _)).1 (F'.keep _ _ (hideAll_get _ hdx (by simp)))
end Mine

end
section
-- WH
open PySem PySem.W PySem.Spec PySem.Calls PyProof.Rows
set_option Elab.async false
set_option maxRecDepth 100000
set_option maxHeartbeats 2000000
namespace Mine
theorem fillK3 : ∀ w : World, (hd0.heap_1 w.params).In default → PySem.Challenge.rw_nq0103_01.prog = PySem.Challenge.rw_nq0103_01.prog → True := by
  k_fill
  intros; trivial
noncomputable abbrev tup4 (h k q p : Int) (t1 t2 t3 t4 : Tok) : Obj := ⟨.type "tuple", none, .seq #[.int h t1, .int k t2, .int q t3, .int p t4] 0, #[]⟩
theorem Ext.hide {B h : Heap} {l : List Addr} (x : Ext B h) (n : ∀ a ∈ l, B.get? a = none) : Ext B (hideAll h l) := fun b o e => hideAll_get _ (x b o e) fun q => by rw [n b q] at e; cases e
theorem Ext.trans {a b c : Heap} (x : Ext a b) (y : Ext b c) : Ext a c := fun k o e => y k o (x k o e)
/-- what was only read is still there -/
theorem ext_back {h h₁ : Heap} {L : Addr} {m : Str → Option Value} {muts : List (Addr × Obj)} (hm : ∀ p ∈ muts, h.get? p.1 = some p.2) (F : Fr (hideAll h (muts.map (·.1))) L h₁ m) (N : News (hideAll h (muts.map (·.1))) L h₁ muts) : Ext h h₁ := fun b o e => by
  by_cases hb : b ∈ muts.map (·.1)
  · obtain ⟨p, hp, rfl⟩ := List.mem_map.mp hb
    have := hm p hp
    rw [e] at this
    cases this
    exact (N p hp).1
  · exact F.keep b o (hideAll_get _ e hb)
theorem two_at {h : Heap} {a b : Addr} {o o' : Obj} (h1 : h.get? a = some o) (h2 : h.get? b = some o') : ∀ p ∈ [(a, o), (b, o')], h.get? p.1 = some p.2 := by
  intro q hq
  simp only [List.mem_cons, List.not_mem_nil, or_false] at hq
  rcases hq with rfl | rfl
  · exact h1
  · exact h2
/-- _law_which on two deeds -/
theorem which_raw {w : World} {A : Around} {s : Shared} {B : Heap} {p : Program} {loose : List Str} {mean : ExcName → Option Value} {mg mb : Str → Option Value} {Q E : Value → Shared → Prop} {a b : Addr} {h k q j h' k' q' j' : Int} {t1 t2 t3 t4 u1 u2 u3 u4 : Tok}
    (XB : (hd0.heap_1 w.params).In B) (TB : Top p loose mean mg mb B) (hB : Ext B s.heap) (na : B.get? a = none) (nb : B.get? b = none) (hr : A.depth + 4 < recursionLimit)
    (h1 : s.heap.get? a = some (tup4 h k q j t1 t2 t3 t4)) (h2 : s.heap.get? b = some (tup4 h' k' q' j' u1 u2 u3 u4))
    (hQ : ∀ h₁ tk i ti, Ext s.heap h₁ → (i = h - h' ∧ i ≠ 0 ∨ h = h' ∧ i = k - k' ∧ i ≠ 0 ∨ h = h' ∧ k = k' ∧ i = j - j') → Q (.int i ti) { s with heap := h₁, toks := tk }) :
    wpAny (model prog w) A (call (.ref 119) [.ref a, .ref b]) Q E s := by
  have hh : Ext B (hideAll s.heap [a, b]) := hB.hide (by intro y hy; simp only [List.mem_cons, List.not_mem_nil, or_false] at hy; rcases hy with rfl | rfl; exact na; exact nb)
  have X' : (hd0.heap_1 w.params).In (hideAll s.heap [a, b]) := XB.keeps hh
  have T' := TB.keeps hh
  have X : (hd0.heap_1 w.params).In s.heap := XB.keeps hB
  refine wpAny_call ?_
  k_dflt (refine' enterM (muts := [(a, tup4 h k q j t1 t2 t3 t4), (b, tup4 h' k' q' j' u1 u2 u3 u4)]) (binds := [("one", .ref a), ("other", .ref b)]) ?hm X (TB.nolimit.keeps hB) ?k6 ?k7 ?k8 ?k9 ?kB ?_ ?c2 ?c3 ?c4 ?c5; (case hm => exact two_at h1 h2); (case k6 => k_is); (case k7 => k_is); (case k8 => omega); (case k9 => exact BindsTo.of_eq rfl); (case c5 => decide); (case kB => exact locs rfl); (case c2 => exact rfl); (case c3 => exact rfl); (case c4 => exact rfl))
  intro L h₁ hl F N
  clear X
  have ex : Ext s.heap h₁ := ext_back (two_at h1 h2) F N
  dsimp only [List.map] at F N
  clear hl
  dsimp only
  k_steps
  all_goals dsimp only
  all_goals refine hQ _ _ _ _ ex ?_
  all_goals first
    | exact .inl ⟨rfl, by assumption⟩
    | exact .inr (.inl ⟨Int.sub_eq_zero.mp (by assumption), rfl, by assumption⟩)
    | exact .inr (.inr ⟨Int.sub_eq_zero.mp (by assumption), Int.sub_eq_zero.mp (by assumption), rfl⟩)
    | omega
end Mine

end
section
-- KL
open PySem PySem.W PySem.Spec PySem.Calls PyProof.Rows
set_option Elab.async false
set_option maxRecDepth 100000
set_option maxHeartbeats 2000000
namespace Mine
theorem ltBinds {s : Shared} {p : Params} {pm cd ct : Value} {c a d : Addr} : BindsTo s (fnX "__lt__" "cmp_to_key.<locals>.K.__lt__" (ckPs p 3) (ckBd p 3) (ckSc p 3) [("mycmp", c)] .none .none .none pm none cd ct) ⟨[.ref a, .ref d], []⟩ [("self", .ref a), ("other", .ref d)] := BindsTo.of_eq (by kernel_rfl)
theorem IsKey.inst {w : World} {h : Heap} {C a d : Addr} (k : IsKey w h C a d) : ∃ dx, InstAt h a (keyObj C dx d) C (some emptyDict) := by
  obtain ⟨dx, _, g1, g2⟩ := k
  exact ⟨dx, g1, rfl, rfl, g2⟩
/-- one key < another -/
theorem rank_lt {i h h' k k' j j' : Int} (a : 0 ≤ k ∧ k < 4 ∧ 0 ≤ j ∧ j < 8) (b : 0 ≤ k' ∧ k' < 4 ∧ 0 ≤ j' ∧ j' < 8) (hi : i = h - h' ∧ i ≠ 0 ∨ h = h' ∧ i = k - k' ∧ i ≠ 0 ∨ h = h' ∧ k = k' ∧ i = j - j') : decide (i < 0) = decide (h * 32 + k * 8 + j < h' * 32 + k' * 8 + j') := by
  have x : 0 ≤ k * 8 + j ∧ k * 8 + j < 32 := by omega
  have y : 0 ≤ k' * 8 + j' ∧ k' * 8 + j' < 32 := by omega
  refine decide_eq_decide.mpr ?_
  rcases hi with ⟨rfl, n⟩ | ⟨rfl, rfl, n⟩ | ⟨rfl, rfl, rfl⟩
  · rw [Int.add_assoc, Int.add_assoc]
    generalize k * 8 + j = u at *
    generalize k' * 8 + j' = v at *
    clear a b
    constructor <;> intro q <;> omega
  · clear x y
    obtain ⟨-, -, a1, a2⟩ := a
    obtain ⟨-, -, b1, b2⟩ := b
    rw [Int.add_assoc, Int.add_assoc, Int.add_lt_add_iff_left]
    constructor <;> intro q <;> omega
  · rw [Int.add_lt_add_iff_left]
    exact ⟨Int.lt_of_sub_neg, Int.sub_neg_of_lt⟩
theorem ltKey {w : World} {A : Around} {s : Shared} {B : Heap} {p : Program} {loose : List Str} {mean : ExcName → Option Value} {mg mb : Str → Option Value} {Q E : Value → Shared → Prop} {C a b d e : Addr} {h k q j h' k' q' j' : Int} {t1 t2 t3 t4 u1 u2 u3 u4 : Tok}
    (XB : (hd0.heap_1 w.params).In B) (TB : Top p loose mean mg mb B) (hB : Ext B s.heap) (nd : B.get? d = none) (ne : B.get? e = none) (hr : A.depth + 6 < recursionLimit) (hu : A.units < cLine)
    (ka : IsKey w s.heap C a d) (kb : IsKey w s.heap C b e)
    (h1 : s.heap.get? d = some (tup4 h k q j t1 t2 t3 t4)) (h2 : s.heap.get? e = some (tup4 h' k' q' j' u1 u2 u3 u4))
    (b1 : 0 ≤ k ∧ k < 4 ∧ 0 ≤ j ∧ j < 8) (b2 : 0 ≤ k' ∧ k' < 4 ∧ 0 ≤ j' ∧ j' < 8)
    (hQ : ∀ h₁ tk, Ext s.heap h₁ → Q (.bool (decide (h * 32 + k * 8 + j < h' * 32 + k' * 8 + j'))) { s with heap := h₁, toks := tk }) :
    wpAny (model prog w) A (compareOp .Lt (.ref a) (.ref b)) Q E s := by
  have hC := ka
  obtain ⟨_, hC, _⟩ := hC
  obtain ⟨x, u, tn, tk, c, pm0, pm1, rfl, g, f0, f1, c0, c1, ic⟩ := hC
  have X := g
  obtain ⟨dxa, Ia⟩ := ka.inst
  obtain ⟨dxb, Ib⟩ := kb.inst
  show wpAny _ _ (richCompare .Lt _ _) _ _ _
  unfold richCompare
  simp only [oneThing_ref]
  refine wpAny_holding (wpAny_bind (wpAny_cRoomFor hu ?_))
  refine wpAny_bind (Ia.type.here (wpAny_bind (Ib.type.here ?_)))
  rw [if_neg (by simp)]
  refine wpAny_bind (wpAny_pure ?_)
  simp only [Bool.false_eq_true, if_false]
  refine wpAny_bind ?_
  have one : wpAny (model prog w) A (tryCompare (.ref a) "__lt__" (.ref b)) (fun r s' => ∃ v, r = some v ∧ Q v s') E s := by
    unfold tryCompare
    refine wpAny_bind (ifBound_K X Ia kf_lt k_isFnL ?_)
    have fo : s.heap.get? (x + 155 + 22) = some (fnObj (u.f 1)) := X _ _ kc_L
    rw [f1] at fo
    refine wpAny_call (codeAny_call_def (fd := fnX "__lt__" "cmp_to_key.<locals>.K.__lt__" (ckPs w.params 3) (ckBd w.params 3) (ckSc w.params 3) [("mycmp", c)] .none .none .none pm1 none (.ref (x + 155 + 21)) (.ref (x + 155 + 15))) (body := ckBd w.params 3) (binds := [("self", .ref a), ("other", .ref b)])
      (by omega) fo rfl (TB.nolimit.keeps hB) c1 rfl ltBinds (by show ∀ y ∈ (ckSc w.params 3).names, y.2 ≠ .cell; rw [ltSc]; decide) (by rw [ltSc]; intro y hy; simp only [List.mem_cons, List.not_mem_nil, or_false] at hy; rcases hy with rfl | rfl <;> rfl) (fun h₁ hns hk => ?_) (by rw [ltSc]) (by rw [ltSc]) (by rw [ltSc]))
    obtain ⟨p1, p2, p3, p4, p5, p6, p7, p8, kk, p9, hb⟩ := ltBody w.params
    rw [hb, ltSc]
    have F : Fr s.heap s.heap.objs.size h₁ _ := ⟨hns, hk, Nat.le_refl _⟩
    have Ia' : InstAt h₁ a (keyObj (x + 155 + 58) dxa d) (x + 155 + 58) (some emptyDict) := ⟨hk _ _ Ia.at_, rfl, rfl, hk _ _ Ia.dict⟩
    have Ib' : InstAt h₁ b (keyObj (x + 155 + 58) dxb e) (x + 155 + 58) (some emptyDict) := ⟨hk _ _ Ib.at_, rfl, rfl, hk _ _ Ib.dict⟩
    refine wpAny_execs_cons (wpAny_Return_some (wpAny_Compare1 (Call_Name rfl ?_)))
    refine wpAny_Name (wpAny_loadName_free (c := c) rfl rfl rfl (ic.keeps hk) ?_)
    refine callWith_K (K := hd0.heap_1 w.params) (XB.keeps hB) (by kernel_rfl) ?_
    refine spliced_more (Attribute_any_ (nameX_L (cl := [("mycmp", c)]) F (v := .ref a) rfl (get_slot F X Ia' k_plainGet k_isCls kf_obj k_spGet k_takes k_slot rfl rfl ?_)))
    refine spliced_more (Attribute_any_ (nameX_L (cl := [("mycmp", c)]) (s := { s with heap := h₁, toks := _ }) F (v := .ref b) rfl (get_slot (s := { s with heap := h₁, toks := _ }) F X Ib' k_plainGet k_isCls kf_obj k_spGet k_takes k_slot rfl rfl ?_)))
    refine spliced_none ⟨XB.keeps (hB.trans hk), ?_⟩
    refine which_raw (s := { s with heap := h₁, toks := _ }) XB TB (hB.trans hk) nd ne (by show A.depth + 1 + 4 < recursionLimit; omega) (hk _ _ h1) (hk _ _ h2) fun h₂ tk₂ i ti ex hi => ?_
    refine wpAny_Constant_int (lt_int ?_)
    refine wpAny_pure ⟨_, rfl, ?_⟩
    have e0 : decide (i < 0) = decide (h * 32 + k * 8 + j < h' * 32 + k' * 8 + j') := by
      exact rank_lt (by assumption) (by assumption) hi
    rw [e0]
    exact hQ h₂ _ (fun b o q => ex b o (hk b o q))
  exact wpAny_mono one (fun r s' z => by obtain ⟨v, rfl, hq⟩ := z; exact wpAny_pure hq) fun _ _ z => z
end Mine

end
section
-- HP
open PySem PySem.W PySem.Spec PySem.Calls PyProof.Rows
set_option Elab.async false
set_option maxRecDepth 100000
set_option maxHeartbeats 2000000
namespace Mine
/-- a key with its rank -/
noncomputable def KR (w : World) (B h : Heap) (C a : Addr) (r : Int) : Prop := ∃ d hh k q j t1 t2 t3 t4, IsKey w h C a d ∧ h.get? d = some (tup4 hh k q j t1 t2 t3 t4) ∧ B.get? d = none ∧ (0 ≤ k ∧ k < 4 ∧ 0 ≤ j ∧ j < 8) ∧ r = hh * 32 + k * 8 + j
theorem KR.keeps {w : World} {B h h' : Heap} {C a : Addr} {r : Int} (x : KR w B h C a r) (k : Ext h h') : KR w B h' C a r := by
  obtain ⟨d, hh, kk, q, j, t1, t2, t3, t4, ik, g, n, b, e⟩ := x
  exact ⟨d, hh, kk, q, j, t1, t2, t3, t4, ik.keeps k, k _ _ g, n, b, e⟩
theorem KR.hide {w : World} {B h h' : Heap} {C a : Addr} {r : Int} (x : KR w B h C a r) (k : ∀ b o, notList o = true → h.get? b = some o → h'.get? b = some o) : KR w B h' C a r := by
  obtain ⟨d, hh, kk, q, j, t1, t2, t3, t4, ⟨dx, ic, g1, g2⟩, g, n, b, e⟩ := x
  exact ⟨d, hh, kk, q, j, t1, t2, t3, t4, ⟨dx, ic.hide k, k _ _ rfl g1, k _ _ rfl g2⟩, k _ _ rfl g, n, b, e⟩
/-- lists may be hidden -/
theorem hide_lists {h : Heap} {l : List Addr} (hl : ∀ a ∈ l, ∃ o, h.get? a = some o ∧ notList o = false) : ∀ b o, notList o = true → h.get? b = some o → (hideAll h l).get? b = some o := fun b o n e => hideAll_get _ e fun q => by
  obtain ⟨o', e', n'⟩ := hl b q
  rw [e] at e'
  cases e'
  rw [n] at n'
  cases n'
theorem Ext.fr {h₀ h h' : Heap} {L : Addr} {m : Str → Option Value} (x : Ext h h') (F : Fr h₀ L h m) : Fr h₀ L h' m := ⟨F.ns.keeps x, fun b o e => x b o (F.keep b o e), F.above⟩
theorem Ext.news {h₀ h h' : Heap} {L : Addr} {news : List (Addr × Obj)} (x : Ext h h') (N : News h₀ L h news) : News h₀ L h' news := fun p hp => ⟨x _ _ (N p hp).1, (N p hp).2⟩
/-- the setting of a call: the deep base -/
structure Deep (w : World) (p : Program) (loose : List Str) (mean : ExcName → Option Value) (mg mb : Str → Option Value) (B : Heap) : Prop where
  X : (hd0.heap_1 w.params).In B
  T : Top p loose mean mg mb B
section
variable {w : World} {A : Around} {s : Shared} {B h₀ : Heap} {p : Program} {loose : List Str} {mean : ExcName → Option Value} {mg mb : Str → Option Value} {Q E : Value → Shared → Prop} {C L a b : Addr} {m : Str → Option Value} {news : List (Addr × Obj)} {ra rb : Int}
theorem lt_line (F : Fr h₀ L s.heap m) (N : News h₀ L s.heap news) (G : Deep w p loose mean mg mb B) (hB : Ext B h₀) (hr : A.depth + 6 < recursionLimit) (hu : A.units < cLine)
    (ha : KR w B h₀ C a ra) (hb : KR w B h₀ C b rb) (h : ∀ h' tk, Fr h₀ L h' m → News h₀ L h' news → Q (.bool (decide (ra < rb))) { s with heap := h', toks := tk }) : wpAny (model prog w) A (compareOp .Lt (.ref a) (.ref b)) Q E s := by
  obtain ⟨d, hh, kk, q, j, t1, t2, t3, t4, ik, g, n, bb, rfl⟩ := ha.keeps F.keep
  obtain ⟨d', hh', kk', q', j', u1, u2, u3, u4, ik', g', n', bb', rfl⟩ := hb.keeps F.keep
  exact ltKey G.X G.T (hB.trans F.keep) n n' hr hu ik ik' g g' bb bb' fun h₁ tk x => h h₁ tk (x.fr F) (x.news N)
end
end Mine

end
section
-- SDG
open PySem PySem.W PySem.Spec PySem.Calls PyProof.Rows
set_option Elab.async false
set_option maxRecDepth 100000
set_option maxHeartbeats 2000000
namespace Mine
theorem fillK4 : ∀ w : World, (hd0.heap_1 w.params).In default → PySem.Challenge.rw_nq0103_01.prog = PySem.Challenge.rw_nq0103_01.prog → True := by
  k_fill
  intros; trivial
/-- what _siftdown does to a list of ranked keys -/
noncomputable def sdown : Nat → List (Addr × Int) → Nat → List (Addr × Int)
  | 0, l, _ => l
  | f + 1, l, pos => if pos = 0 then l else
    if (l.getD pos (0, 0)).2 < (l.getD ((pos - 1) / 2) (0, 0)).2 then sdown f ((l.set pos (l.getD ((pos - 1) / 2) (0, 0))).set ((pos - 1) / 2) (l.getD pos (0, 0))) ((pos - 1) / 2) else l
noncomputable def refsOf (l : List (Addr × Int)) : Array Value := (l.map fun p => Value.ref p.1).toArray
/-- one list was changed, nothing else -/
noncomputable def Swapped (h h' : Heap) (hp : Addr) (o : Obj) : Prop := h'.get? hp = some o ∧ ∀ b o', b ≠ hp → h.get? b = some o' → h'.get? b = some o'
theorem swapped_of {h h' : Heap} {hp L : Addr} {o : Obj} {m : Str → Option Value} (F : Fr (hideAll h [hp]) L h' m) (N : News (hideAll h [hp]) L h' [(hp, o)]) : Swapped h h' hp o :=
  ⟨(N _ (.head _)).1, fun b o' n e => F.keep b o' (hideAll_get _ e (by simpa using n))⟩
theorem Swapped.fr {h h' h₀ : Heap} {hp L : Addr} {o o' : Obj} {m : Str → Option Value} {rest : List (Addr × Obj)} (sw : Swapped h h' hp o') (F : Fr h₀ L h m) (N : News h₀ L h ((hp, o) :: rest)) : Fr h₀ L h' m := by
  refine ⟨?_, fun b ob e => sw.2 b ob (fun q => ?_) (F.keep b ob e), F.above⟩
  · obtain ⟨oL, es, ep, ho, r⟩ := F.ns
    exact ⟨oL, es, ep, sw.2 L oL (Ne.symm (N _ (.head _)).2.1) ho, r⟩
  · subst q
    rw [(N _ (.head _)).2.2] at e
    cases e
theorem Swapped.news {h h' h₀ : Heap} {hp L : Addr} {o o' : Obj} {rest : List (Addr × Obj)} (sw : Swapped h h' hp o') (N : News h₀ L h ((hp, o) :: rest)) (hne : ∀ q ∈ rest, q.1 ≠ hp) : News h₀ L h' ((hp, o') :: rest) := fun q hq => by
  rcases List.mem_cons.mp hq with rfl | hq
  · exact ⟨sw.1, (N _ (.head _)).2⟩
  · exact ⟨sw.2 _ _ (hne q hq) (N q (.tail _ hq)).1, (N q (.tail _ hq)).2⟩
section
variable {prog : Program} {w : World} {A : Around} {E : Value → Shared → Prop} {s : Shared} {h₀ : Heap} {L l : Addr} {m : Str → Option Value} {news : List (Addr × Obj)} {g : Obj → List (Addr × Obj)} {vs : Array Value} {n j : Nat} {Q : Unit → Shared → Prop} {v : Value} {t : Tok}
theorem wp_setItem {k : Int} (hl : s.heap.get? l = some (listOf vs n)) (h0 : 0 ≤ k) (hk : k < vs.size) (hz : vs.size ≤ 1000)
    (h : ∀ h' e, h'.get? l = some (listOf (vs.setIfInBounds k.toNat v) e) → Heap.SameBut l s.heap h' → Q () { s with heap := h' }) : wpAny (model prog w) A (setItem (.ref l) (.int k t) v) Q E s := by
  have hT : s.TypeIs (.ref l) "list" := ⟨_, hl, rfl⟩
  have hfit : k < 2 ^ 63 := by omega
  unfold setItem
  try with_reducible refine wpAny_holding ?_
  first | refine wpAny_bind (wpAny_pure ?_) | skip
  refine wpAny_bind (wpAny_sequenceKey hT (by decide) ?_)
  refine wpAny_bind (wpAny_callSpecial?_slot (name := Str.ofString "__setitem__") hT PySem.slot_list_setitem
    (wpAny_call_entry PySem.slot_list_setitem hT PySem.entry_list_setitem ?_ (PySem.args_list_setitem _ _ _)))
  show wpAny _ _ (Builtin.List.listSubscript? (.int k t) >>= _) _ _ s
  refine wpAny_bind (wpAny_listSubscript_int (fitsIndex_of h0 hfit) ?_)
  clear hfit
  obtain ⟨j, rfl⟩ := Int.eq_ofNat_of_zero_le h0
  have hj : j < vs.size := by omega
  have hx' : vs[j]? = some vs[j] := Array.getElem?_eq_getElem hj
  show wpAny _ _ ((seqItemAt l j >>= fun r => pure (r.map (j, ·))) >>= _) _ _ s
  refine wpAny_bind (wpAny_bind (wpAny_seqItemAt hl rfl (wpAny_pure ?_)))
  rw [hx']
  show wpAny _ _ (setSeqItemAt l j v >>= _) _ _ s
  have hfin : (s.heap.update l (Obj.mapSeq (·.setIfInBounds j v))).get? l = some _ := Heap.get?_update_self _ hl rfl
  refine wpAny_bind (wpAny_setSeqItemAt hl rfl ?_)
  first
    | exact wpAny_bind (wpAny_pure (wpAny_pure ⟨.none, rfl, wpAny_pure (h _ _ hfin (Heap.SameBut.update ..))⟩))
    | exact wpAny_pure ⟨.none, rfl, wpAny_pure (h _ _ hfin (Heap.SameBut.update ..))⟩
theorem setItem_list (F : Fr h₀ L s.heap m) (N : News h₀ L s.heap news) (U : UpdF l (listOf vs n) news g) (hj : j < vs.size) (hz : vs.size ≤ 1000)
    (h : ∀ h' k, Fr h₀ L h' m → News h₀ L h' (g (listOf (vs.setIfInBounds j v) k)) → Q () { s with heap := h' }) : wpAny (model prog w) A (setItem (.ref l) (.int (j : Nat) t) v) Q E s := by
  obtain ⟨pre, post, hl, hg, a1, a2⟩ := U.split
  have hmem : (l, listOf vs n) ∈ news := by rw [hl]; exact List.mem_append_right _ (.head _)
  have hm := N _ hmem
  refine wp_setItem hm.1 (by omega) (by omega) hz fun h' k ho hs => h h' k (F.change hs hm.2.1 hm.2.2) ?_
  rw [hg]
  exact (show News h₀ L s.heap (pre ++ (l, listOf vs n) :: post) from hl ▸ N).setIn a1 a2 hs ho
end
/-- a while by an invariant over a datum that shrinks -/
theorem whl_ind {prog : Program} {w : World} {A : Around} {E : Value → Shared → Prop} {env : Env} {test : PySem.Expr} {body orelse : List Stmt} {Q : Flow → Shared → Prop} {α : Type} (μ : α → Nat) (J : α → Shared → Prop)
    (hs : ∀ l s, J l s → (∀ l' s', μ l' < μ l → J l' s' → WhlRest prog w A E env test body orelse Q 0 s') → WhlRest prog w A E env test body orelse Q 1 s) (l : α) (s : Shared) (h : J l s) : WhlRest prog w A E env test body orelse Q 0 s := by
  have key : ∀ n l s, μ l < n → J l s → WhlRest prog w A E env test body orelse Q 0 s := by
    intro n
    induction n with
    | zero => intro l s hn; exact absurd hn (Nat.not_lt_zero _)
    | succ n ih => intro l s hn hj; exact hs l s hj fun l' s' hl' hj' => ih l' s' (by omega) hj'
  exact key (μ l + 1) l s (Nat.lt_succ_self _) h
section
variable {prog : Program} {w : World} {A : Around} {E : Value → Shared → Prop} {s : Shared} {h₀ : Heap} {L l x y : Addr} {m : Str → Option Value} {news : List (Addr × Obj)} {vs : Array Value} {n i : Nat} {Q : Value → Shared → Prop} {u : Tok} {value slice : PySem.Expr} {v : Value}
theorem item_at (N : News h₀ L s.heap news) (hm : (l, listOf vs n) ∈ news) (hi : i < 1000) (hx : vs[i]? = some v) (h : Q v s)
    (hs : subscripted slice false (.ref l) (.int (i : Int) u) = operate [.ref l, .int (i : Int) u] (getItem (.ref l) (.int (i : Int) u)) := by with_unfolding_all rfl) (hg : ∀ r, letTemporaryGo value (.ref l) r = pure () := by intro _; with_unfolding_all rfl) :
    wpAny (model prog w) A (subscriptTail value slice (.ref l) (.int (i : Int) u)) Q E s :=
  item_list ⟨_, (N _ hm).1, rfl, n, rfl⟩ (by omega) (by omega) (by simpa using hx) h hs hg
end
theorem norm1 {m : Str → Option Value} {x : Str} {a : Value} (h1 : m x = some a) : m = fun z => if z = x then some a else m z := by
  funext z
  by_cases h : z = x
  · rw [if_pos h, h, h1]
  · rw [if_neg h]
theorem refs_get {l : List (Addr × Int)} {p : Nat} (h : p < l.length) : (refsOf l)[p]? = some (.ref (l.getD p (0, 0)).1) := by
  unfold refsOf
  rw [List.getElem?_toArray, List.getElem?_map, List.getElem?_eq_getElem h, List.getD_eq_getElem?_getD, List.getElem?_eq_getElem h]
  rfl
theorem refs_set (l : List (Addr × Int)) (p : Nat) (x : Addr × Int) : (refsOf l).setIfInBounds p (.ref x.1) = refsOf (l.set p x) := by
  simp [refsOf, List.map_set]
theorem set_self {l : List (Addr × Int)} {p : Nat} (h : p < l.length) : l.set p (l.getD p (0, 0)) = l := by
  rw [List.getD_eq_getElem?_getD, List.getElem?_eq_getElem h]
  exact List.set_getElem_self h
theorem getD_mem {l : List (Addr × Int)} {p : Nat} (h : p < l.length) : l.getD p (0, 0) ∈ l := by
  rw [List.getD_eq_getElem?_getD, List.getElem?_eq_getElem h]
  exact List.getElem_mem h
theorem getD_set_self {l : List (Addr × Int)} {p : Nat} {x : Addr × Int} (h : p < l.length) : (l.set p x).getD p (0, 0) = x := by
  simp [List.getD_eq_getElem?_getD, h]
theorem getD_set_ne {l : List (Addr × Int)} {p r : Nat} {x : Addr × Int} (h : p ≠ r) : (l.set p x).getD r (0, 0) = l.getD r (0, 0) := by
  simp [List.getD_eq_getElem?_getD, h]
theorem sdown_zero {f c : Nat} {l : List (Addr × Int)} (h : c = 0) : sdown f l c = l := by
  cases f with
  | zero => rfl
  | succ f => unfold sdown; rw [if_pos h]
theorem sdown_go {f c pp : Nat} {M R : List (Addr × Int)} {x : Addr × Int} (hc : c < M.length) (hpc : pp < c) (h0 : ¬ c = 0) (e : pp = (c - 1) / 2) (hf : c < f) (hR : sdown f (M.set c x) c = R) :
    (x.2 < (M.getD pp (0, 0)).2 → ∃ f', pp < f' ∧ sdown f' ((M.set c (M.getD pp (0, 0))).set pp x) pp = R) ∧ (¬ x.2 < (M.getD pp (0, 0)).2 → M.set c x = R) := by
  cases f with
  | zero => exact absurd hf (Nat.not_lt_zero _)
  | succ f =>
    unfold sdown at hR
    rw [if_neg h0, ← e, getD_set_self hc, getD_set_ne (Nat.ne_of_gt hpc), List.set_set] at hR
    constructor
    · intro h
      rw [if_pos h] at hR
      exact ⟨f, by omega, hR⟩
    · intro h
      rw [if_neg h] at hR
      exact hR
theorem refs_size (l : List (Addr × Int)) : (refsOf l).size = l.length := by simp [refsOf]
section
variable {w : World} {A : Around} {s : Shared} {B : Heap} {p : Program} {loose : List Str} {mean : ExcName → Option Value} {mg mb : Str → Option Value} {Q E : Value → Shared → Prop} {C hp : Addr} {n : Nat} {t1 t2 : Tok}
theorem sdG (hl : List (Addr × Int)) (q : Nat) (hq : q < hl.length) (hlen : hl.length ≤ 5) (G : Deep w p loose mean mg mb B) (hB : Ext B s.heap) (nh : B.get? hp = none) (hr : A.depth + 10 < recursionLimit) (hu : A.units + 50 < cLine)
    (hK : ∀ x ∈ hl, KR w B s.heap C x.1 x.2)
    (h1 : s.heap.get? hp = some (listOf (refsOf hl) n))
    (hQ : ∀ k h' tk', Swapped s.heap h' hp (listOf (refsOf (sdown 5 hl q)) k) → Q .none { s with heap := h', toks := tk' }) :
    wpAny (model prog w) A (call (.ref 105) [.ref hp, .int 0 t1, .int (q : Nat) t2]) Q E s := by
  have hh : Ext B (hideAll s.heap [hp]) := hB.hide (by intro y hy; rw [List.mem_singleton.mp hy]; exact nh)
  have hk := hide_lists (h := s.heap) (l := [hp]) (by intro y hy; rw [List.mem_singleton.mp hy]; exact ⟨_, h1, rfl⟩)
  have X' : (hd0.heap_1 w.params).In (hideAll s.heap [hp]) := G.X.keeps hh
  have T' := G.T.keeps hh
  have hK' : ∀ x ∈ hl, KR w B (hideAll s.heap [hp]) C x.1 x.2 := fun x hx => (hK x hx).hide hk
  have X : (hd0.heap_1 w.params).In s.heap := G.X.keeps hB
  refine wpAny_call ?_
  k_dflt (refine' enterM (muts := [(hp, listOf (refsOf hl) n)]) (binds := [("heap", .ref hp), ("startpos", .int 0 t1), ("pos", .int (q : Nat) t2)]) ?hm X (G.T.nolimit.keeps hB) ?k6 ?k7 ?k8 ?k9 ?kB ?_ ?c2 ?c3 ?c4 ?c5; (case hm => simpa using h1); (case k6 => k_is); (case k7 => k_is); (case k8 => omega); (case k9 => exact BindsTo.of_eq rfl); (case c5 => decide); (case kB => exact locs rfl); (case c2 => exact rfl); (case c3 => exact rfl); (case c4 => exact rfl))
  intro L h₁ hl9 F N
  clear X hk hK
  dsimp only [List.map] at F N
  have hl' : hp < L := hl9 _ (.head _)
  clear hl9
  dsimp only
  iterate 8 (first | (k_unfold; (try dsimp only)) | (k_end; wrow_close) | (with_reducible (k_here; (with_reducible show wpAny _ _ (subscriptTail _ _ (Value.ref _) (Value.int _ _)) _ _ _); k_dflt (refine item_at (by first | (k_asm; done) | fail) (by first | (k_mem; done) | fail) (by first | (omega; done) | fail) (by first | (exact refs_get (by first | assumption | omega); done) | fail) ?_; k_whole))) | (with_reducible (k_here; (with_reducible show wpAny _ _ (compareOp CmpOp.Lt (Value.ref _) (Value.ref _)) _ _ _); k_dflt (refine lt_line (by first | (k_asm; done) | fail) (by first | (k_asm; done) | fail) (by first | (assumption; done) | fail) (by first | (assumption; done) | fail) (by first | (show Around.depth _ + 1 + 6 < recursionLimit; omega; done) | fail) (by first | (show Around.units _ + 3 < cLine; omega; done) | fail) (by first | (assumption; done) | fail) (by first | (assumption; done) | fail) ?_; k_whole); intro h'q9 tk'q9 F'q9 N'q9; (try k_sweep))) | (k_here; (with_reducible show wpAny _ _ (subscriptTail _ _ (Value.ref _) (Value.int _ _)) _ _ _); k_dflt (refine item_at (by first | (k_asm; done) | fail) (by first | (k_mem; done) | fail) (by first | (omega; done) | fail) (by first | (exact refs_get (by first | assumption | omega); done) | fail) ?_; k_whole)) | (k_here; (with_reducible show wpAny _ _ (compareOp CmpOp.Lt (Value.ref _) (Value.ref _)) _ _ _); k_dflt (refine lt_line (by first | (k_asm; done) | fail) (by first | (k_asm; done) | fail) (by first | (assumption; done) | fail) (by first | (assumption; done) | fail) (by first | (show Around.depth _ + 1 + 6 < recursionLimit; omega; done) | fail) (by first | (show Around.units _ + 3 < cLine; omega; done) | fail) (by first | (assumption; done) | fail) (by first | (assumption; done) | fail) ?_; k_whole); intro h'q9 tk'q9 F'q9 N'q9; (try k_sweep)) | walk1 | (dsimp only; first | (with_reducible (k_here; (with_reducible show wpAny _ _ (subscriptTail _ _ (Value.ref _) (Value.int _ _)) _ _ _); k_dflt (refine item_at (by first | (k_asm; done) | fail) (by first | (k_mem; done) | fail) (by first | (omega; done) | fail) (by first | (exact refs_get (by first | assumption | omega); done) | fail) ?_; k_whole))) | (with_reducible (k_here; (with_reducible show wpAny _ _ (compareOp CmpOp.Lt (Value.ref _) (Value.ref _)) _ _ _); k_dflt (refine lt_line (by first | (k_asm; done) | fail) (by first | (k_asm; done) | fail) (by first | (assumption; done) | fail) (by first | (assumption; done) | fail) (by first | (show Around.depth _ + 1 + 6 < recursionLimit; omega; done) | fail) (by first | (show Around.units _ + 3 < cLine; omega; done) | fail) (by first | (assumption; done) | fail) (by first | (assumption; done) | fail) ?_; k_whole); intro h'q9 tk'q9 F'q9 N'q9; (try k_sweep))) | (k_here; (with_reducible show wpAny _ _ (subscriptTail _ _ (Value.ref _) (Value.int _ _)) _ _ _); k_dflt (refine item_at (by first | (k_asm; done) | fail) (by first | (k_mem; done) | fail) (by first | (omega; done) | fail) (by first | (exact refs_get (by first | assumption | omega); done) | fail) ?_; k_whole)) | (k_here; (with_reducible show wpAny _ _ (compareOp CmpOp.Lt (Value.ref _) (Value.ref _)) _ _ _); k_dflt (refine lt_line (by first | (k_asm; done) | fail) (by first | (k_asm; done) | fail) (by first | (assumption; done) | fail) (by first | (assumption; done) | fail) (by first | (show Around.depth _ + 1 + 6 < recursionLimit; omega; done) | fail) (by first | (show Around.units _ + 3 < cLine; omega; done) | fail) (by first | (assumption; done) | fail) (by first | (assumption; done) | fail) ?_; k_whole); intro h'q9 tk'q9 F'q9 N'q9; (try k_sweep)) | walk1) | (leave1; try dsimp only))
  refine whl_start 0 ?_
  rename Fr _ _ _ _ => F1
  rename News _ _ _ _ => N1
  obtain ⟨x, hx⟩ : ∃ x, hl.getD q (0, 0) = x := ⟨_, rfl⟩
  have hxK : KR w B (hideAll s.heap [hp]) C x.1 x.2 := by
    rw [← hx]
    exact hK' _ (getD_mem hq)
  have hR0 : sdown 5 (hl.set q x) q = sdown 5 hl q := by rw [← hx, set_self hq]
  rw [hx] at F1
  refine whl_ind (α := Nat) id (fun c s' => ∀ G : Prop, (∀ (h : Heap) (tk : Nat) (m2 : Str → Option Value) (M : List (Addr × Int)) (k : Nat) (tp : Tok) (f : Nat), s' = { s with heap := h, toks := tk } → Fr (hideAll s.heap [hp]) L h m2 → News (hideAll s.heap [hp]) L h [(hp, listOf (refsOf M) k)] → M.length = hl.length → c < M.length → c < f → sdown f (M.set c x) c = sdown 5 hl q → (∀ x ∈ M, KR w B (hideAll s.heap [hp]) C x.1 x.2) → m2 "heap" = some (.ref hp) → m2 "startpos" = some (.int 0 t1) → m2 "pos" = some (.int (c : Nat) tp) → m2 "newitem" = some (.ref x.1) → G) → G) ?_ q _ ?_
  rotate_left 1
  · exact fun G hG => hG _ _ _ hl _ _ 5 rfl F1 N1 rfl hq (Nat.lt_of_lt_of_le hq hlen) hR0 hK' rfl rfl rfl rfl
  · clear F1 N1
    intro c s' hJ IH
    refine hJ _ ?_
    intro h tk m2 M k tp f es F N hM hc hf hR hKM hm1 hm2 hm3 hm4
    clear hJ
    rw [es]
    rw [norm1 hm1, norm1 hm2, norm1 hm3, norm1 hm4] at F
    have hsz : (refsOf M).size ≤ 1000 := by rw [refs_size]; omega
    have hcs : c < (refsOf M).size := by rw [refs_size]; exact hc
    repeat' (first | (k_unfold; (try dsimp only)) | (k_end; wrow_close) | (with_reducible (k_here; (with_reducible show wpAny _ _ (subscriptTail _ _ (Value.ref _) (Value.int _ _)) _ _ _); k_dflt (refine item_at (by first | (k_asm; done) | fail) (by first | (k_mem; done) | fail) (by first | (omega; done) | fail) (by first | (exact refs_get (by first | assumption | omega); done) | fail) ?_; k_whole))) | (with_reducible (k_here; (with_reducible show wpAny _ _ (compareOp CmpOp.Lt (Value.ref _) (Value.ref _)) _ _ _); k_dflt (refine lt_line (by first | (k_asm; done) | fail) (by first | (k_asm; done) | fail) (by first | (assumption; done) | fail) (by first | (assumption; done) | fail) (by first | (show Around.depth _ + 1 + 6 < recursionLimit; omega; done) | fail) (by first | (show Around.units _ + 3 < cLine; omega; done) | fail) (by first | (assumption; done) | fail) (by first | (assumption; done) | fail) ?_; k_whole); intro h'q9 tk'q9 F'q9 N'q9; (try k_sweep))) | (k_here; (with_reducible show wpAny _ _ (subscriptTail _ _ (Value.ref _) (Value.int _ _)) _ _ _); k_dflt (refine item_at (by first | (k_asm; done) | fail) (by first | (k_mem; done) | fail) (by first | (omega; done) | fail) (by first | (exact refs_get (by first | assumption | omega); done) | fail) ?_; k_whole)) | (k_here; (with_reducible show wpAny _ _ (compareOp CmpOp.Lt (Value.ref _) (Value.ref _)) _ _ _); k_dflt (refine lt_line (by first | (k_asm; done) | fail) (by first | (k_asm; done) | fail) (by first | (assumption; done) | fail) (by first | (assumption; done) | fail) (by first | (show Around.depth _ + 1 + 6 < recursionLimit; omega; done) | fail) (by first | (show Around.units _ + 3 < cLine; omega; done) | fail) (by first | (assumption; done) | fail) (by first | (assumption; done) | fail) ?_; k_whole); intro h'q9 tk'q9 F'q9 N'q9; (try k_sweep)) | (walk1 <;> (try dsimp only)) | (dsimp only; first | (with_reducible (k_here; (with_reducible show wpAny _ _ (subscriptTail _ _ (Value.ref _) (Value.int _ _)) _ _ _); k_dflt (refine item_at (by first | (k_asm; done) | fail) (by first | (k_mem; done) | fail) (by first | (omega; done) | fail) (by first | (exact refs_get (by first | assumption | omega); done) | fail) ?_; k_whole))) | (with_reducible (k_here; (with_reducible show wpAny _ _ (compareOp CmpOp.Lt (Value.ref _) (Value.ref _)) _ _ _); k_dflt (refine lt_line (by first | (k_asm; done) | fail) (by first | (k_asm; done) | fail) (by first | (assumption; done) | fail) (by first | (assumption; done) | fail) (by first | (show Around.depth _ + 1 + 6 < recursionLimit; omega; done) | fail) (by first | (show Around.units _ + 3 < cLine; omega; done) | fail) (by first | (assumption; done) | fail) (by first | (assumption; done) | fail) ?_; k_whole); intro h'q9 tk'q9 F'q9 N'q9; (try k_sweep))) | (k_here; (with_reducible show wpAny _ _ (subscriptTail _ _ (Value.ref _) (Value.int _ _)) _ _ _); k_dflt (refine item_at (by first | (k_asm; done) | fail) (by first | (k_mem; done) | fail) (by first | (omega; done) | fail) (by first | (exact refs_get (by first | assumption | omega); done) | fail) ?_; k_whole)) | (k_here; (with_reducible show wpAny _ _ (compareOp CmpOp.Lt (Value.ref _) (Value.ref _)) _ _ _); k_dflt (refine lt_line (by first | (k_asm; done) | fail) (by first | (k_asm; done) | fail) (by first | (assumption; done) | fail) (by first | (assumption; done) | fail) (by first | (show Around.depth _ + 1 + 6 < recursionLimit; omega; done) | fail) (by first | (show Around.units _ + 3 < cLine; omega; done) | fail) (by first | (assumption; done) | fail) (by first | (assumption; done) | fail) ?_; k_whole); intro h'q9 tk'q9 F'q9 N'q9; (try k_sweep)) | walk1) | (leave1; try dsimp only) | fail "no step")
    by_cases hc0 : c = 0
    · refine WhlIf.no (by rw [hc0]; rfl) ?_
      repeat' (first | (k_unfold; (try dsimp only)) | (k_end; wrow_close) | (with_reducible (k_here; (with_reducible show wpAny _ _ (subscriptTail _ _ (Value.ref _) (Value.int _ _)) _ _ _); k_dflt (refine item_at (by first | (k_asm; done) | fail) (by first | (k_mem; done) | fail) (by first | (omega; done) | fail) (by first | (exact refs_get (by first | assumption | omega); done) | fail) ?_; k_whole))) | (with_reducible (k_here; (with_reducible show wpAny _ _ (compareOp CmpOp.Lt (Value.ref _) (Value.ref _)) _ _ _); k_dflt (refine lt_line (by first | (k_asm; done) | fail) (by first | (k_asm; done) | fail) (by first | (assumption; done) | fail) (by first | (assumption; done) | fail) (by first | (show Around.depth _ + 1 + 6 < recursionLimit; omega; done) | fail) (by first | (show Around.units _ + 3 < cLine; omega; done) | fail) (by first | (assumption; done) | fail) (by first | (assumption; done) | fail) ?_; k_whole); intro h'q9 tk'q9 F'q9 N'q9; (try k_sweep))) | (k_here; (with_reducible show wpAny _ _ (subscriptTail _ _ (Value.ref _) (Value.int _ _)) _ _ _); k_dflt (refine item_at (by first | (k_asm; done) | fail) (by first | (k_mem; done) | fail) (by first | (omega; done) | fail) (by first | (exact refs_get (by first | assumption | omega); done) | fail) ?_; k_whole)) | (k_here; (with_reducible show wpAny _ _ (compareOp CmpOp.Lt (Value.ref _) (Value.ref _)) _ _ _); k_dflt (refine lt_line (by first | (k_asm; done) | fail) (by first | (k_asm; done) | fail) (by first | (assumption; done) | fail) (by first | (assumption; done) | fail) (by first | (show Around.depth _ + 1 + 6 < recursionLimit; omega; done) | fail) (by first | (show Around.units _ + 3 < cLine; omega; done) | fail) (by first | (assumption; done) | fail) (by first | (assumption; done) | fail) ?_; k_whole); intro h'q9 tk'q9 F'q9 N'q9; (try k_sweep)) | (walk1 <;> (try dsimp only)) | (dsimp only; first | (with_reducible (k_here; (with_reducible show wpAny _ _ (subscriptTail _ _ (Value.ref _) (Value.int _ _)) _ _ _); k_dflt (refine item_at (by first | (k_asm; done) | fail) (by first | (k_mem; done) | fail) (by first | (omega; done) | fail) (by first | (exact refs_get (by first | assumption | omega); done) | fail) ?_; k_whole))) | (with_reducible (k_here; (with_reducible show wpAny _ _ (compareOp CmpOp.Lt (Value.ref _) (Value.ref _)) _ _ _); k_dflt (refine lt_line (by first | (k_asm; done) | fail) (by first | (k_asm; done) | fail) (by first | (assumption; done) | fail) (by first | (assumption; done) | fail) (by first | (show Around.depth _ + 1 + 6 < recursionLimit; omega; done) | fail) (by first | (show Around.units _ + 3 < cLine; omega; done) | fail) (by first | (assumption; done) | fail) (by first | (assumption; done) | fail) ?_; k_whole); intro h'q9 tk'q9 F'q9 N'q9; (try k_sweep))) | (k_here; (with_reducible show wpAny _ _ (subscriptTail _ _ (Value.ref _) (Value.int _ _)) _ _ _); k_dflt (refine item_at (by first | (k_asm; done) | fail) (by first | (k_mem; done) | fail) (by first | (omega; done) | fail) (by first | (exact refs_get (by first | assumption | omega); done) | fail) ?_; k_whole)) | (k_here; (with_reducible show wpAny _ _ (compareOp CmpOp.Lt (Value.ref _) (Value.ref _)) _ _ _); k_dflt (refine lt_line (by first | (k_asm; done) | fail) (by first | (k_asm; done) | fail) (by first | (assumption; done) | fail) (by first | (assumption; done) | fail) (by first | (show Around.depth _ + 1 + 6 < recursionLimit; omega; done) | fail) (by first | (show Around.units _ + 3 < cLine; omega; done) | fail) (by first | (assumption; done) | fail) (by first | (assumption; done) | fail) ?_; k_whole); intro h'q9 tk'q9 F'q9 N'q9; (try k_sweep)) | walk1) | (leave1; try dsimp only) | fail "no step")
      refine' setItem_list (j := c) ?F ?N ?U ?hj ?hz ?_
      (case F => k_asm); (case N => k_asm); (case U => k_updF); (case hj => exact hcs); (case hz => exact hsz)
      intro h9 k9 F9 N9
      rw [refs_set] at N9
      repeat' (first | (k_unfold; (try dsimp only)) | (k_end; wrow_close) | (with_reducible (k_here; (with_reducible show wpAny _ _ (subscriptTail _ _ (Value.ref _) (Value.int _ _)) _ _ _); k_dflt (refine item_at (by first | (k_asm; done) | fail) (by first | (k_mem; done) | fail) (by first | (omega; done) | fail) (by first | (exact refs_get (by first | assumption | omega); done) | fail) ?_; k_whole))) | (with_reducible (k_here; (with_reducible show wpAny _ _ (compareOp CmpOp.Lt (Value.ref _) (Value.ref _)) _ _ _); k_dflt (refine lt_line (by first | (k_asm; done) | fail) (by first | (k_asm; done) | fail) (by first | (assumption; done) | fail) (by first | (assumption; done) | fail) (by first | (show Around.depth _ + 1 + 6 < recursionLimit; omega; done) | fail) (by first | (show Around.units _ + 3 < cLine; omega; done) | fail) (by first | (assumption; done) | fail) (by first | (assumption; done) | fail) ?_; k_whole); intro h'q9 tk'q9 F'q9 N'q9; (try k_sweep))) | (k_here; (with_reducible show wpAny _ _ (subscriptTail _ _ (Value.ref _) (Value.int _ _)) _ _ _); k_dflt (refine item_at (by first | (k_asm; done) | fail) (by first | (k_mem; done) | fail) (by first | (omega; done) | fail) (by first | (exact refs_get (by first | assumption | omega); done) | fail) ?_; k_whole)) | (k_here; (with_reducible show wpAny _ _ (compareOp CmpOp.Lt (Value.ref _) (Value.ref _)) _ _ _); k_dflt (refine lt_line (by first | (k_asm; done) | fail) (by first | (k_asm; done) | fail) (by first | (assumption; done) | fail) (by first | (assumption; done) | fail) (by first | (show Around.depth _ + 1 + 6 < recursionLimit; omega; done) | fail) (by first | (show Around.units _ + 3 < cLine; omega; done) | fail) (by first | (assumption; done) | fail) (by first | (assumption; done) | fail) ?_; k_whole); intro h'q9 tk'q9 F'q9 N'q9; (try k_sweep)) | (walk1 <;> (try dsimp only)) | (dsimp only; first | (with_reducible (k_here; (with_reducible show wpAny _ _ (subscriptTail _ _ (Value.ref _) (Value.int _ _)) _ _ _); k_dflt (refine item_at (by first | (k_asm; done) | fail) (by first | (k_mem; done) | fail) (by first | (omega; done) | fail) (by first | (exact refs_get (by first | assumption | omega); done) | fail) ?_; k_whole))) | (with_reducible (k_here; (with_reducible show wpAny _ _ (compareOp CmpOp.Lt (Value.ref _) (Value.ref _)) _ _ _); k_dflt (refine lt_line (by first | (k_asm; done) | fail) (by first | (k_asm; done) | fail) (by first | (assumption; done) | fail) (by first | (assumption; done) | fail) (by first | (show Around.depth _ + 1 + 6 < recursionLimit; omega; done) | fail) (by first | (show Around.units _ + 3 < cLine; omega; done) | fail) (by first | (assumption; done) | fail) (by first | (assumption; done) | fail) ?_; k_whole); intro h'q9 tk'q9 F'q9 N'q9; (try k_sweep))) | (k_here; (with_reducible show wpAny _ _ (subscriptTail _ _ (Value.ref _) (Value.int _ _)) _ _ _); k_dflt (refine item_at (by first | (k_asm; done) | fail) (by first | (k_mem; done) | fail) (by first | (omega; done) | fail) (by first | (exact refs_get (by first | assumption | omega); done) | fail) ?_; k_whole)) | (k_here; (with_reducible show wpAny _ _ (compareOp CmpOp.Lt (Value.ref _) (Value.ref _)) _ _ _); k_dflt (refine lt_line (by first | (k_asm; done) | fail) (by first | (k_asm; done) | fail) (by first | (assumption; done) | fail) (by first | (assumption; done) | fail) (by first | (show Around.depth _ + 1 + 6 < recursionLimit; omega; done) | fail) (by first | (show Around.units _ + 3 < cLine; omega; done) | fail) (by first | (assumption; done) | fail) (by first | (assumption; done) | fail) ?_; k_whole); intro h'q9 tk'q9 F'q9 N'q9; (try k_sweep)) | walk1) | (leave1; try dsimp only) | fail "no step")
      rw [sdown_zero hc0] at hR
      rw [hR] at N9
      exact hQ _ _ _ (swapped_of F9 N9)
    · refine WhlIf.yes (decide_eq_true (by omega)) ?_
      iterate 11 (first | (k_unfold; (try dsimp only)) | (k_end; wrow_close) | (with_reducible (k_here; (with_reducible show wpAny _ _ (subscriptTail _ _ (Value.ref _) (Value.int _ _)) _ _ _); k_dflt (refine item_at (by first | (k_asm; done) | fail) (by first | (k_mem; done) | fail) (by first | (omega; done) | fail) (by first | (exact refs_get (by first | assumption | omega); done) | fail) ?_; k_whole))) | (with_reducible (k_here; (with_reducible show wpAny _ _ (compareOp CmpOp.Lt (Value.ref _) (Value.ref _)) _ _ _); k_dflt (refine lt_line (by first | (k_asm; done) | fail) (by first | (k_asm; done) | fail) (by first | (assumption; done) | fail) (by first | (assumption; done) | fail) (by first | (show Around.depth _ + 1 + 6 < recursionLimit; omega; done) | fail) (by first | (show Around.units _ + 3 < cLine; omega; done) | fail) (by first | (assumption; done) | fail) (by first | (assumption; done) | fail) ?_; k_whole); intro h'q9 tk'q9 F'q9 N'q9; (try k_sweep))) | (k_here; (with_reducible show wpAny _ _ (subscriptTail _ _ (Value.ref _) (Value.int _ _)) _ _ _); k_dflt (refine item_at (by first | (k_asm; done) | fail) (by first | (k_mem; done) | fail) (by first | (omega; done) | fail) (by first | (exact refs_get (by first | assumption | omega); done) | fail) ?_; k_whole)) | (k_here; (with_reducible show wpAny _ _ (compareOp CmpOp.Lt (Value.ref _) (Value.ref _)) _ _ _); k_dflt (refine lt_line (by first | (k_asm; done) | fail) (by first | (k_asm; done) | fail) (by first | (assumption; done) | fail) (by first | (assumption; done) | fail) (by first | (show Around.depth _ + 1 + 6 < recursionLimit; omega; done) | fail) (by first | (show Around.units _ + 3 < cLine; omega; done) | fail) (by first | (assumption; done) | fail) (by first | (assumption; done) | fail) ?_; k_whole); intro h'q9 tk'q9 F'q9 N'q9; (try k_sweep)) | walk1 | (dsimp only; first | (with_reducible (k_here; (with_reducible show wpAny _ _ (subscriptTail _ _ (Value.ref _) (Value.int _ _)) _ _ _); k_dflt (refine item_at (by first | (k_asm; done) | fail) (by first | (k_mem; done) | fail) (by first | (omega; done) | fail) (by first | (exact refs_get (by first | assumption | omega); done) | fail) ?_; k_whole))) | (with_reducible (k_here; (with_reducible show wpAny _ _ (compareOp CmpOp.Lt (Value.ref _) (Value.ref _)) _ _ _); k_dflt (refine lt_line (by first | (k_asm; done) | fail) (by first | (k_asm; done) | fail) (by first | (assumption; done) | fail) (by first | (assumption; done) | fail) (by first | (show Around.depth _ + 1 + 6 < recursionLimit; omega; done) | fail) (by first | (show Around.units _ + 3 < cLine; omega; done) | fail) (by first | (assumption; done) | fail) (by first | (assumption; done) | fail) ?_; k_whole); intro h'q9 tk'q9 F'q9 N'q9; (try k_sweep))) | (k_here; (with_reducible show wpAny _ _ (subscriptTail _ _ (Value.ref _) (Value.int _ _)) _ _ _); k_dflt (refine item_at (by first | (k_asm; done) | fail) (by first | (k_mem; done) | fail) (by first | (omega; done) | fail) (by first | (exact refs_get (by first | assumption | omega); done) | fail) ?_; k_whole)) | (k_here; (with_reducible show wpAny _ _ (compareOp CmpOp.Lt (Value.ref _) (Value.ref _)) _ _ _); k_dflt (refine lt_line (by first | (k_asm; done) | fail) (by first | (k_asm; done) | fail) (by first | (assumption; done) | fail) (by first | (assumption; done) | fail) (by first | (show Around.depth _ + 1 + 6 < recursionLimit; omega; done) | fail) (by first | (show Around.units _ + 3 < cLine; omega; done) | fail) (by first | (assumption; done) | fail) (by first | (assumption; done) | fail) ?_; k_whole); intro h'q9 tk'q9 F'q9 N'q9; (try k_sweep)) | walk1) | (leave1; try dsimp only))
      rename Fr _ _ _ _ => F2
      obtain ⟨pp, epp⟩ : ∃ pp : Nat, pp = (c - 1) / 2 := ⟨_, rfl⟩
      have e2 : ((c : Int) - 1).fdiv (2 ^ Int.toNat 1) = (pp : Nat) := by
        show ((c : Int) - 1).fdiv 2 = _
        rw [Int.fdiv_eq_ediv_of_nonneg _ (by decide)]
        omega
      rw [e2] at F2
      have hpc : pp < c := by omega
      have hpM : pp < M.length := Nat.lt_trans hpc hc
      have hpK := hKM _ (getD_mem hpM)
      have hRy := sdown_go (x := x) hc hpc hc0 epp hf hR
      clear hR
      repeat' (first | (k_unfold; (try dsimp only)) | (k_end; wrow_close) | (with_reducible (k_here; (with_reducible show wpAny _ _ (subscriptTail _ _ (Value.ref _) (Value.int _ _)) _ _ _); k_dflt (refine item_at (by first | (k_asm; done) | fail) (by first | (k_mem; done) | fail) (by first | (omega; done) | fail) (by first | (exact refs_get (by first | assumption | omega); done) | fail) ?_; k_whole))) | (with_reducible (k_here; (with_reducible show wpAny _ _ (compareOp CmpOp.Lt (Value.ref _) (Value.ref _)) _ _ _); k_dflt (refine lt_line (by first | (k_asm; done) | fail) (by first | (k_asm; done) | fail) (by first | (assumption; done) | fail) (by first | (assumption; done) | fail) (by first | (show Around.depth _ + 1 + 6 < recursionLimit; omega; done) | fail) (by first | (show Around.units _ + 3 < cLine; omega; done) | fail) (by first | (assumption; done) | fail) (by first | (assumption; done) | fail) ?_; k_whole); intro h'q9 tk'q9 F'q9 N'q9; (try k_sweep))) | (k_here; (with_reducible show wpAny _ _ (subscriptTail _ _ (Value.ref _) (Value.int _ _)) _ _ _); k_dflt (refine item_at (by first | (k_asm; done) | fail) (by first | (k_mem; done) | fail) (by first | (omega; done) | fail) (by first | (exact refs_get (by first | assumption | omega); done) | fail) ?_; k_whole)) | (k_here; (with_reducible show wpAny _ _ (compareOp CmpOp.Lt (Value.ref _) (Value.ref _)) _ _ _); k_dflt (refine lt_line (by first | (k_asm; done) | fail) (by first | (k_asm; done) | fail) (by first | (assumption; done) | fail) (by first | (assumption; done) | fail) (by first | (show Around.depth _ + 1 + 6 < recursionLimit; omega; done) | fail) (by first | (show Around.units _ + 3 < cLine; omega; done) | fail) (by first | (assumption; done) | fail) (by first | (assumption; done) | fail) ?_; k_whole); intro h'q9 tk'q9 F'q9 N'q9; (try k_sweep)) | (walk1 <;> (try dsimp only)) | (dsimp only; first | (with_reducible (k_here; (with_reducible show wpAny _ _ (subscriptTail _ _ (Value.ref _) (Value.int _ _)) _ _ _); k_dflt (refine item_at (by first | (k_asm; done) | fail) (by first | (k_mem; done) | fail) (by first | (omega; done) | fail) (by first | (exact refs_get (by first | assumption | omega); done) | fail) ?_; k_whole))) | (with_reducible (k_here; (with_reducible show wpAny _ _ (compareOp CmpOp.Lt (Value.ref _) (Value.ref _)) _ _ _); k_dflt (refine lt_line (by first | (k_asm; done) | fail) (by first | (k_asm; done) | fail) (by first | (assumption; done) | fail) (by first | (assumption; done) | fail) (by first | (show Around.depth _ + 1 + 6 < recursionLimit; omega; done) | fail) (by first | (show Around.units _ + 3 < cLine; omega; done) | fail) (by first | (assumption; done) | fail) (by first | (assumption; done) | fail) ?_; k_whole); intro h'q9 tk'q9 F'q9 N'q9; (try k_sweep))) | (k_here; (with_reducible show wpAny _ _ (subscriptTail _ _ (Value.ref _) (Value.int _ _)) _ _ _); k_dflt (refine item_at (by first | (k_asm; done) | fail) (by first | (k_mem; done) | fail) (by first | (omega; done) | fail) (by first | (exact refs_get (by first | assumption | omega); done) | fail) ?_; k_whole)) | (k_here; (with_reducible show wpAny _ _ (compareOp CmpOp.Lt (Value.ref _) (Value.ref _)) _ _ _); k_dflt (refine lt_line (by first | (k_asm; done) | fail) (by first | (k_asm; done) | fail) (by first | (assumption; done) | fail) (by first | (assumption; done) | fail) (by first | (show Around.depth _ + 1 + 6 < recursionLimit; omega; done) | fail) (by first | (show Around.units _ + 3 < cLine; omega; done) | fail) (by first | (assumption; done) | fail) (by first | (assumption; done) | fail) ?_; k_whole); intro h'q9 tk'q9 F'q9 N'q9; (try k_sweep)) | walk1) | (leave1; try dsimp only) | fail "no step")
      · refine' setItem_list (j := c) ?F ?N ?U ?hj ?hz ?_
        (case F => k_asm); (case N => k_asm); (case U => k_updF); (case hj => exact hcs); (case hz => exact hsz)
        intro h9 k9 F9 N9
        rw [refs_set] at N9
        repeat ((fail_if_success (with_reducible show WhlRest _ _ _ _ _ _ _ _ _ _ _)); (first | (k_unfold; (try dsimp only)) | (k_end; wrow_close) | (with_reducible (k_here; (with_reducible show wpAny _ _ (subscriptTail _ _ (Value.ref _) (Value.int _ _)) _ _ _); k_dflt (refine item_at (by first | (k_asm; done) | fail) (by first | (k_mem; done) | fail) (by first | (omega; done) | fail) (by first | (exact refs_get (by first | assumption | omega); done) | fail) ?_; k_whole))) | (with_reducible (k_here; (with_reducible show wpAny _ _ (compareOp CmpOp.Lt (Value.ref _) (Value.ref _)) _ _ _); k_dflt (refine lt_line (by first | (k_asm; done) | fail) (by first | (k_asm; done) | fail) (by first | (assumption; done) | fail) (by first | (assumption; done) | fail) (by first | (show Around.depth _ + 1 + 6 < recursionLimit; omega; done) | fail) (by first | (show Around.units _ + 3 < cLine; omega; done) | fail) (by first | (assumption; done) | fail) (by first | (assumption; done) | fail) ?_; k_whole); intro h'q9 tk'q9 F'q9 N'q9; (try k_sweep))) | (k_here; (with_reducible show wpAny _ _ (subscriptTail _ _ (Value.ref _) (Value.int _ _)) _ _ _); k_dflt (refine item_at (by first | (k_asm; done) | fail) (by first | (k_mem; done) | fail) (by first | (omega; done) | fail) (by first | (exact refs_get (by first | assumption | omega); done) | fail) ?_; k_whole)) | (k_here; (with_reducible show wpAny _ _ (compareOp CmpOp.Lt (Value.ref _) (Value.ref _)) _ _ _); k_dflt (refine lt_line (by first | (k_asm; done) | fail) (by first | (k_asm; done) | fail) (by first | (assumption; done) | fail) (by first | (assumption; done) | fail) (by first | (show Around.depth _ + 1 + 6 < recursionLimit; omega; done) | fail) (by first | (show Around.units _ + 3 < cLine; omega; done) | fail) (by first | (assumption; done) | fail) (by first | (assumption; done) | fail) ?_; k_whole); intro h'q9 tk'q9 F'q9 N'q9; (try k_sweep)) | (walk1 <;> (try dsimp only)) | (dsimp only; first | (with_reducible (k_here; (with_reducible show wpAny _ _ (subscriptTail _ _ (Value.ref _) (Value.int _ _)) _ _ _); k_dflt (refine item_at (by first | (k_asm; done) | fail) (by first | (k_mem; done) | fail) (by first | (omega; done) | fail) (by first | (exact refs_get (by first | assumption | omega); done) | fail) ?_; k_whole))) | (with_reducible (k_here; (with_reducible show wpAny _ _ (compareOp CmpOp.Lt (Value.ref _) (Value.ref _)) _ _ _); k_dflt (refine lt_line (by first | (k_asm; done) | fail) (by first | (k_asm; done) | fail) (by first | (assumption; done) | fail) (by first | (assumption; done) | fail) (by first | (show Around.depth _ + 1 + 6 < recursionLimit; omega; done) | fail) (by first | (show Around.units _ + 3 < cLine; omega; done) | fail) (by first | (assumption; done) | fail) (by first | (assumption; done) | fail) ?_; k_whole); intro h'q9 tk'q9 F'q9 N'q9; (try k_sweep))) | (k_here; (with_reducible show wpAny _ _ (subscriptTail _ _ (Value.ref _) (Value.int _ _)) _ _ _); k_dflt (refine item_at (by first | (k_asm; done) | fail) (by first | (k_mem; done) | fail) (by first | (omega; done) | fail) (by first | (exact refs_get (by first | assumption | omega); done) | fail) ?_; k_whole)) | (k_here; (with_reducible show wpAny _ _ (compareOp CmpOp.Lt (Value.ref _) (Value.ref _)) _ _ _); k_dflt (refine lt_line (by first | (k_asm; done) | fail) (by first | (k_asm; done) | fail) (by first | (assumption; done) | fail) (by first | (assumption; done) | fail) (by first | (show Around.depth _ + 1 + 6 < recursionLimit; omega; done) | fail) (by first | (show Around.units _ + 3 < cLine; omega; done) | fail) (by first | (assumption; done) | fail) (by first | (assumption; done) | fail) ?_; k_whole); intro h'q9 tk'q9 F'q9 N'q9; (try k_sweep)) | walk1) | (leave1; try dsimp only)))
        rename Fr _ _ _ _ => F8
        rename News _ _ _ _ => N8
        obtain ⟨f', hf', hR'⟩ := hRy.1 (by assumption)
        refine IH pp _ hpc fun G hG => hG _ _ _ (M.set c (M.getD pp (0, 0))) _ _ f' rfl F8 N8 (by rw [List.length_set]; exact hM) (by rw [List.length_set]; exact hpM) hf' hR' (fun y hy => (List.mem_or_eq_of_mem_set hy).elim (hKM y) fun e => e ▸ hpK) rfl rfl rfl rfl
      · refine' setItem_list (j := c) ?F ?N ?U ?hj ?hz ?_
        (case F => k_asm); (case N => k_asm); (case U => k_updF); (case hj => exact hcs); (case hz => exact hsz)
        intro h9 k9 F9 N9
        rw [refs_set] at N9
        repeat' (first | (k_unfold; (try dsimp only)) | (k_end; wrow_close) | (with_reducible (k_here; (with_reducible show wpAny _ _ (subscriptTail _ _ (Value.ref _) (Value.int _ _)) _ _ _); k_dflt (refine item_at (by first | (k_asm; done) | fail) (by first | (k_mem; done) | fail) (by first | (omega; done) | fail) (by first | (exact refs_get (by first | assumption | omega); done) | fail) ?_; k_whole))) | (with_reducible (k_here; (with_reducible show wpAny _ _ (compareOp CmpOp.Lt (Value.ref _) (Value.ref _)) _ _ _); k_dflt (refine lt_line (by first | (k_asm; done) | fail) (by first | (k_asm; done) | fail) (by first | (assumption; done) | fail) (by first | (assumption; done) | fail) (by first | (show Around.depth _ + 1 + 6 < recursionLimit; omega; done) | fail) (by first | (show Around.units _ + 3 < cLine; omega; done) | fail) (by first | (assumption; done) | fail) (by first | (assumption; done) | fail) ?_; k_whole); intro h'q9 tk'q9 F'q9 N'q9; (try k_sweep))) | (k_here; (with_reducible show wpAny _ _ (subscriptTail _ _ (Value.ref _) (Value.int _ _)) _ _ _); k_dflt (refine item_at (by first | (k_asm; done) | fail) (by first | (k_mem; done) | fail) (by first | (omega; done) | fail) (by first | (exact refs_get (by first | assumption | omega); done) | fail) ?_; k_whole)) | (k_here; (with_reducible show wpAny _ _ (compareOp CmpOp.Lt (Value.ref _) (Value.ref _)) _ _ _); k_dflt (refine lt_line (by first | (k_asm; done) | fail) (by first | (k_asm; done) | fail) (by first | (assumption; done) | fail) (by first | (assumption; done) | fail) (by first | (show Around.depth _ + 1 + 6 < recursionLimit; omega; done) | fail) (by first | (show Around.units _ + 3 < cLine; omega; done) | fail) (by first | (assumption; done) | fail) (by first | (assumption; done) | fail) ?_; k_whole); intro h'q9 tk'q9 F'q9 N'q9; (try k_sweep)) | (walk1 <;> (try dsimp only)) | (dsimp only; first | (with_reducible (k_here; (with_reducible show wpAny _ _ (subscriptTail _ _ (Value.ref _) (Value.int _ _)) _ _ _); k_dflt (refine item_at (by first | (k_asm; done) | fail) (by first | (k_mem; done) | fail) (by first | (omega; done) | fail) (by first | (exact refs_get (by first | assumption | omega); done) | fail) ?_; k_whole))) | (with_reducible (k_here; (with_reducible show wpAny _ _ (compareOp CmpOp.Lt (Value.ref _) (Value.ref _)) _ _ _); k_dflt (refine lt_line (by first | (k_asm; done) | fail) (by first | (k_asm; done) | fail) (by first | (assumption; done) | fail) (by first | (assumption; done) | fail) (by first | (show Around.depth _ + 1 + 6 < recursionLimit; omega; done) | fail) (by first | (show Around.units _ + 3 < cLine; omega; done) | fail) (by first | (assumption; done) | fail) (by first | (assumption; done) | fail) ?_; k_whole); intro h'q9 tk'q9 F'q9 N'q9; (try k_sweep))) | (k_here; (with_reducible show wpAny _ _ (subscriptTail _ _ (Value.ref _) (Value.int _ _)) _ _ _); k_dflt (refine item_at (by first | (k_asm; done) | fail) (by first | (k_mem; done) | fail) (by first | (omega; done) | fail) (by first | (exact refs_get (by first | assumption | omega); done) | fail) ?_; k_whole)) | (k_here; (with_reducible show wpAny _ _ (compareOp CmpOp.Lt (Value.ref _) (Value.ref _)) _ _ _); k_dflt (refine lt_line (by first | (k_asm; done) | fail) (by first | (k_asm; done) | fail) (by first | (assumption; done) | fail) (by first | (assumption; done) | fail) (by first | (show Around.depth _ + 1 + 6 < recursionLimit; omega; done) | fail) (by first | (show Around.units _ + 3 < cLine; omega; done) | fail) (by first | (assumption; done) | fail) (by first | (assumption; done) | fail) ?_; k_whole); intro h'q9 tk'q9 F'q9 N'q9; (try k_sweep)) | walk1) | (leave1; try dsimp only) | fail "no step")
        rw [hRy.2 (by assumption)] at N9
        exact hQ _ _ _ (swapped_of F9 N9)
end
end Mine

end
section
-- HPG
open PySem PySem.W PySem.Spec PySem.Calls PyProof.Rows
set_option Elab.async false
set_option maxRecDepth 100000
set_option maxHeartbeats 2000000
namespace Mine
theorem fillK5 : ∀ w : World, (hd0.heap_1 w.params).In default → PySem.Challenge.rw_nq0103_01.prog = PySem.Challenge.rw_nq0103_01.prog → True := by
  k_fill
  intros; trivial
section
variable {prog : Program} {w : World} {A : Around} {E : Value → Shared → Prop} {s : Shared} {h₀ : Heap} {L l b : Addr} {m : Str → Option Value} {news : List (Addr × Obj)} {g : Obj → List (Addr × Obj)} {vs ws : Array Value} {n n2 : Nat} {Q : Value → Shared → Prop}
theorem wp_append {v : Value} (hl : s.heap.get? l = some (listOf vs n)) (hz : vs.size ≤ 1000)
    (h : ∀ h' k, h'.get? l = some (listOf (vs.push v) k) → Heap.SameBut l s.heap h' → Q .none { s with heap := h' }) : wpAny (model prog w) A (call (.builtin "list.append") [.ref l, v]) Q E s := by
  refine call_meets PySem.F.slot_list_append ⟨_, hl, rfl⟩ PySem.F.entry_list_append (PySem.F.args_list_append_2 _ _) (PySem.AutoListH.list_append_list_val_0 l vs n v (by rw [sizeLine_eq]; omega)) ⟨hl, ?_⟩
  exact h _ _ (Heap.get?_update_self _ hl rfl) (Heap.SameBut.update ..)
theorem append_list {v : Value} (F : Fr h₀ L s.heap m) (N : News h₀ L s.heap news) (U : UpdF l (listOf vs n) news g) (hz : vs.size ≤ 1000)
    (h : ∀ h' k, Fr h₀ L h' m → News h₀ L h' (g (listOf (vs.push v) k)) → Q .none { s with heap := h' }) : wpAny (model prog w) A (call (.builtin "list.append") [.ref l, v]) Q E s := by
  obtain ⟨pre, post, hl, hg, a1, a2⟩ := U.split
  have hmem : (l, listOf vs n) ∈ news := by rw [hl]; exact List.mem_append_right _ (.head _)
  have hm := N _ hmem
  refine wp_append hm.1 hz fun h' k ho hs => h h' k (F.change hs hm.2.1 hm.2.2) ?_
  rw [hg]
  exact (show News h₀ L s.heap (pre ++ (l, listOf vs n) :: post) from hl ▸ N).setIn a1 a2 hs ho
theorem append_refs {hl : List (Addr × Int)} {x : Addr × Int} (F : Fr h₀ L s.heap m) (N : News h₀ L s.heap news) (U : UpdF l (listOf (refsOf hl) n) news g) (hz : hl.length ≤ 1000)
    (h : ∀ h' k, Fr h₀ L h' m → News h₀ L h' (g (listOf (refsOf (hl ++ [x])) k)) → Q .none { s with heap := h' }) : wpAny (model prog w) A (call (.builtin "list.append") [.ref l, .ref x.1]) Q E s := by
  refine append_list F N U (by rw [refs_size]; exact hz) fun h' k F' N' => h h' k F' ?_
  have e : (refsOf hl).push (.ref x.1) = refsOf (hl ++ [x]) := by simp [refsOf]
  rw [← e]
  exact N'
theorem len_refs {hl : List (Addr × Int)} (N : News h₀ L s.heap news) (hm : (l, listOf (refsOf hl) n) ∈ news) (hz : hl.length ≤ 1000)
    (h : ∀ k t, Q (.int ((hl.length : Nat) : Int) t) { s with toks := k }) : wpAny (model prog w) A (call (.builtin "len") [.ref l]) Q E s := by
  have e : ((refsOf hl).size : Int) = ((hl.length : Nat) : Int) := by rw [refs_size]
  refine len_list (items := refsOf hl) ⟨_, (N _ hm).1, rfl, n, rfl⟩ (by rw [refs_size]; omega) ?_
  rw [e]
  exact h _ _
end
section
variable {w : World} {A : Around} {s : Shared} {B h₀ : Heap} {p : Program} {loose : List Str} {mean : ExcName → Option Value} {mg mb : Str → Option Value} {Q E : Value → Shared → Prop} {C hp L : Addr} {n : Nat} {t1 t2 : Tok} {m : Str → Option Value} {rest : List (Addr × Obj)}
theorem sdG_line {hl : List (Addr × Int)} {q : Nat} {z y : Int} (F : Fr h₀ L s.heap m) (N : News h₀ L s.heap ((hp, listOf (refsOf hl) n) :: rest)) (hy : y = 0) (hz : z = (q : Nat)) (hq : q < hl.length) (hlen : hl.length ≤ 5) (G : Deep w p loose mean mg mb B) (hB : Ext B h₀) (nh : B.get? hp = none) (hr : A.depth + 10 < recursionLimit) (hu : A.units + 50 < cLine)
    (hK : ∀ x ∈ hl, KR w B h₀ C x.1 x.2) (hne : ∀ q ∈ rest, q.1 ≠ hp)
    (h : ∀ k h' tk', Fr h₀ L h' m → News h₀ L h' ((hp, listOf (refsOf (sdown 5 hl q)) k) :: rest) → Q .none { s with heap := h', toks := tk' }) :
    wpAny (model prog w) A (call (.ref 105) [.ref hp, .int y t1, .int z t2]) Q E s := by
  subst hz
  subst hy
  exact sdG hl q hq hlen G (hB.trans F.keep) nh hr hu (fun x hx => (hK x hx).keeps F.keep) (N _ (.head _)).1 fun k h' tk' sw => h k h' tk' (sw.fr F N) (sw.news N hne)
end
section
variable {w : World} {A : Around} {s : Shared} {B : Heap} {p : Program} {loose : List Str} {mean : ExcName → Option Value} {mg mb : Str → Option Value} {Q E : Value → Shared → Prop} {C hp : Addr} {n : Nat}
theorem push_any (x : Addr × Int) (hl : List (Addr × Int)) (hlen : hl.length ≤ 4) (G : Deep w p loose mean mg mb B) (hB : Ext B s.heap) (nh : B.get? hp = none) (hr : A.depth + 20 < recursionLimit) (hu : A.units + 100 < cLine)
    (hK : ∀ q ∈ x :: hl, KR w B s.heap C q.1 q.2) (h1 : s.heap.get? hp = some (listOf (refsOf hl) n))
    (hQ : ∀ k h' tk', Swapped s.heap h' hp (listOf (refsOf (sdown 5 (hl ++ [x]) hl.length)) k) → Q .none { s with heap := h', toks := tk' }) :
    wpAny (model prog w) A (call (.ref 91) [.ref hp, .ref x.1]) Q E s := by
  have hh : Ext B (hideAll s.heap [hp]) := hB.hide (by intro y hy; rw [List.mem_singleton.mp hy]; exact nh)
  have hk := hide_lists (h := s.heap) (l := [hp]) (by intro y hy; rw [List.mem_singleton.mp hy]; exact ⟨_, h1, rfl⟩)
  have X' : (hd0.heap_1 w.params).In (hideAll s.heap [hp]) := G.X.keeps hh
  have T' := G.T.keeps hh
  have hK' : ∀ q ∈ hl ++ [x], KR w B (hideAll s.heap [hp]) C q.1 q.2 := fun q hq => (hK q ((List.perm_append_singleton x hl).mem_iff.mp hq)).hide hk
  have X : (hd0.heap_1 w.params).In s.heap := G.X.keeps hB
  refine wpAny_call ?_
  k_dflt (refine' enterM (muts := [(hp, listOf (refsOf hl) n)]) (binds := [("heap", .ref hp), ("item", .ref x.1)]) ?hm X (G.T.nolimit.keeps hB) ?k6 ?k7 ?k8 ?k9 ?kB ?_ ?c2 ?c3 ?c4 ?c5; (case hm => simpa using h1); (case k6 => k_is); (case k7 => k_is); (case k8 => omega); (case k9 => exact BindsTo.of_eq rfl); (case c5 => decide); (case kB => exact locs rfl); (case c2 => exact rfl); (case c3 => exact rfl); (case c4 => exact rfl))
  intro L h₁ hl9 F N
  clear X hk hK
  dsimp only [List.map] at F N
  have hl' : hp < L := hl9 _ (.head _)
  clear hl9
  dsimp only
  have z1 : hl.length ≤ 1000 := by omega
  have z3 : (hl ++ [x]).length = hl.length + 1 := by rw [List.length_append]; rfl
  have z2 : (hl ++ [x]).length ≤ 1000 := by omega
  have z4 : hl.length < (hl ++ [x]).length := by omega
  have z5 : (hl ++ [x]).length ≤ 5 := by omega
  have z6 : (((hl ++ [x]).length : Nat) : Int) - 1 = (hl.length : Nat) := by omega
  repeat' (first | (k_unfold; (try dsimp only)) | (k_end; wrow_close) | (with_reducible (k_here; (with_reducible show wpAny _ _ (call (Value.builtin "len") [Value.ref _]) _ _ _); k_dflt (refine len_refs (by first | (k_asm; done) | fail) (by first | (k_mem; done) | fail) (by first | (assumption; done) | fail) ?_; k_whole); intro k'q9 t'q9)) | (with_reducible (k_here; (with_reducible show wpAny _ _ (call (Value.builtin "list.append") [Value.ref _, Value.ref _]) _ _ _); k_dflt (refine append_refs (by first | (k_asm; done) | fail) (by first | (k_asm; done) | fail) (by first | (k_updF; done) | fail) (by first | (assumption; done) | fail) ?_; k_whole); intro h'q9 k'q9 F'q9 N'q9; (try k_sweep))) | (with_reducible (k_here; (with_reducible show wpAny _ _ (call (Value.ref 105) [Value.ref _, Value.int _ _, Value.int _ _]) _ _ _); k_dflt (refine sdG_line (by first | (k_asm; done) | fail) (by first | (k_asm; done) | fail) (by first | (rfl; done) | fail) (by first | (assumption; done) | fail) (by first | (assumption; done) | fail) (by first | (assumption; done) | fail) (by first | (assumption; done) | fail) (by first | (assumption; done) | fail) (by first | (assumption; done) | fail) (by first | (show Around.depth _ + 1 + 10 < recursionLimit; omega; done) | fail) (by first | (show Around.units _ + 3 + 50 < cLine; omega; done) | fail) (by first | (assumption; done) | fail) (by first | (intro _ hqq9; cases hqq9; done) | fail) ?_; k_whole); intro k'q9 h'q9 tk'q9 F'q9 N'q9; (try k_sweep))) | (k_here; (with_reducible show wpAny _ _ (call (Value.builtin "len") [Value.ref _]) _ _ _); k_dflt (refine len_refs (by first | (k_asm; done) | fail) (by first | (k_mem; done) | fail) (by first | (assumption; done) | fail) ?_; k_whole); intro k'q9 t'q9) | (k_here; (with_reducible show wpAny _ _ (call (Value.builtin "list.append") [Value.ref _, Value.ref _]) _ _ _); k_dflt (refine append_refs (by first | (k_asm; done) | fail) (by first | (k_asm; done) | fail) (by first | (k_updF; done) | fail) (by first | (assumption; done) | fail) ?_; k_whole); intro h'q9 k'q9 F'q9 N'q9; (try k_sweep)) | (k_here; (with_reducible show wpAny _ _ (call (Value.ref 105) [Value.ref _, Value.int _ _, Value.int _ _]) _ _ _); k_dflt (refine sdG_line (by first | (k_asm; done) | fail) (by first | (k_asm; done) | fail) (by first | (rfl; done) | fail) (by first | (assumption; done) | fail) (by first | (assumption; done) | fail) (by first | (assumption; done) | fail) (by first | (assumption; done) | fail) (by first | (assumption; done) | fail) (by first | (assumption; done) | fail) (by first | (show Around.depth _ + 1 + 10 < recursionLimit; omega; done) | fail) (by first | (show Around.units _ + 3 + 50 < cLine; omega; done) | fail) (by first | (assumption; done) | fail) (by first | (intro _ hqq9; cases hqq9; done) | fail) ?_; k_whole); intro k'q9 h'q9 tk'q9 F'q9 N'q9; (try k_sweep)) | (walk1 <;> (try dsimp only)) | (dsimp only; first | (with_reducible (k_here; (with_reducible show wpAny _ _ (call (Value.builtin "len") [Value.ref _]) _ _ _); k_dflt (refine len_refs (by first | (k_asm; done) | fail) (by first | (k_mem; done) | fail) (by first | (assumption; done) | fail) ?_; k_whole); intro k'q9 t'q9)) | (with_reducible (k_here; (with_reducible show wpAny _ _ (call (Value.builtin "list.append") [Value.ref _, Value.ref _]) _ _ _); k_dflt (refine append_refs (by first | (k_asm; done) | fail) (by first | (k_asm; done) | fail) (by first | (k_updF; done) | fail) (by first | (assumption; done) | fail) ?_; k_whole); intro h'q9 k'q9 F'q9 N'q9; (try k_sweep))) | (with_reducible (k_here; (with_reducible show wpAny _ _ (call (Value.ref 105) [Value.ref _, Value.int _ _, Value.int _ _]) _ _ _); k_dflt (refine sdG_line (by first | (k_asm; done) | fail) (by first | (k_asm; done) | fail) (by first | (rfl; done) | fail) (by first | (assumption; done) | fail) (by first | (assumption; done) | fail) (by first | (assumption; done) | fail) (by first | (assumption; done) | fail) (by first | (assumption; done) | fail) (by first | (assumption; done) | fail) (by first | (show Around.depth _ + 1 + 10 < recursionLimit; omega; done) | fail) (by first | (show Around.units _ + 3 + 50 < cLine; omega; done) | fail) (by first | (assumption; done) | fail) (by first | (intro _ hqq9; cases hqq9; done) | fail) ?_; k_whole); intro k'q9 h'q9 tk'q9 F'q9 N'q9; (try k_sweep))) | (k_here; (with_reducible show wpAny _ _ (call (Value.builtin "len") [Value.ref _]) _ _ _); k_dflt (refine len_refs (by first | (k_asm; done) | fail) (by first | (k_mem; done) | fail) (by first | (assumption; done) | fail) ?_; k_whole); intro k'q9 t'q9) | (k_here; (with_reducible show wpAny _ _ (call (Value.builtin "list.append") [Value.ref _, Value.ref _]) _ _ _); k_dflt (refine append_refs (by first | (k_asm; done) | fail) (by first | (k_asm; done) | fail) (by first | (k_updF; done) | fail) (by first | (assumption; done) | fail) ?_; k_whole); intro h'q9 k'q9 F'q9 N'q9; (try k_sweep)) | (k_here; (with_reducible show wpAny _ _ (call (Value.ref 105) [Value.ref _, Value.int _ _, Value.int _ _]) _ _ _); k_dflt (refine sdG_line (by first | (k_asm; done) | fail) (by first | (k_asm; done) | fail) (by first | (rfl; done) | fail) (by first | (assumption; done) | fail) (by first | (assumption; done) | fail) (by first | (assumption; done) | fail) (by first | (assumption; done) | fail) (by first | (assumption; done) | fail) (by first | (assumption; done) | fail) (by first | (show Around.depth _ + 1 + 10 < recursionLimit; omega; done) | fail) (by first | (show Around.units _ + 3 + 50 < cLine; omega; done) | fail) (by first | (assumption; done) | fail) (by first | (intro _ hqq9; cases hqq9; done) | fail) ?_; k_whole); intro k'q9 h'q9 tk'q9 F'q9 N'q9; (try k_sweep)) | walk1) | (leave1; try dsimp only) | fail "no step")
  exact hQ _ _ _ (swapped_of (by assumption) (by assumption))
end
end Mine

end
section
-- SUG
open PySem PySem.W PySem.Spec PySem.Calls PyProof.Rows
set_option Elab.async false
set_option maxRecDepth 100000
set_option maxHeartbeats 2000000
namespace Mine
theorem fillK6 : ∀ w : World, (hd0.heap_1 w.params).In default → PySem.Challenge.rw_nq0103_01.prog = PySem.Challenge.rw_nq0103_01.prog → True := by
  k_fill
  intros; trivial
noncomputable def upTo : Nat → List (Addr × Int) → Nat → List (Addr × Int) × Nat
  | 0, l, pos => (l, pos)
  | f + 1, l, pos => if 2 * pos + 1 < l.length then
      (if 2 * pos + 2 < l.length ∧ ¬ (l.getD (2 * pos + 1) (0, 0)).2 < (l.getD (2 * pos + 2) (0, 0)).2 then upTo f (l.set pos (l.getD (2 * pos + 2) (0, 0))) (2 * pos + 2)
       else upTo f (l.set pos (l.getD (2 * pos + 1) (0, 0))) (2 * pos + 1))
    else (l, pos)
noncomputable def sup (l : List (Addr × Int)) : List (Addr × Int) := sdown 5 ((upTo 5 l 0).1.set (upTo 5 l 0).2 (l.getD 0 (0, 0))) (upTo 5 l 0).2
theorem upTo_end {f c : Nat} {M : List (Addr × Int)} (h : ¬ 2 * c + 1 < M.length) : upTo f M c = (M, c) := by
  cases f with
  | zero => rfl
  | succ f => unfold upTo; rw [if_neg h]
theorem upTo_one {f c : Nat} {M : List (Addr × Int)} {R : List (Addr × Int) × Nat} (h : 2 * c + 1 < M.length) (hf : M.length ≤ c + f) (hR : upTo f M c = R) (h2 : ¬ (2 * c + 2 < M.length ∧ ¬ (M.getD (2 * c + 1) (0, 0)).2 < (M.getD (2 * c + 2) (0, 0)).2)) :
    ∃ f', M.length ≤ 2 * c + 1 + f' ∧ upTo f' (M.set c (M.getD (2 * c + 1) (0, 0))) (2 * c + 1) = R := by
  cases f with
  | zero => omega
  | succ f =>
    unfold upTo at hR
    rw [if_pos h, if_neg h2] at hR
    exact ⟨f, by omega, hR⟩
theorem upTo_two {f c : Nat} {M : List (Addr × Int)} {R : List (Addr × Int) × Nat} (h : 2 * c + 1 < M.length) (hf : M.length ≤ c + f) (hR : upTo f M c = R) (h1 : 2 * c + 2 < M.length) (h2 : ¬ (M.getD (2 * c + 1) (0, 0)).2 < (M.getD (2 * c + 2) (0, 0)).2) :
    ∃ f', M.length ≤ 2 * c + 2 + f' ∧ upTo f' (M.set c (M.getD (2 * c + 2) (0, 0))) (2 * c + 2) = R := by
  cases f with
  | zero => omega
  | succ f =>
    unfold upTo at hR
    rw [if_pos h, if_pos ⟨h1, h2⟩] at hR
    exact ⟨f, by omega, hR⟩
section
variable {w : World} {A : Around} {s : Shared} {B : Heap} {p : Program} {loose : List Str} {mean : ExcName → Option Value} {mg mb : Str → Option Value} {Q E : Value → Shared → Prop} {C hp : Addr} {n : Nat} {t1 : Tok}
theorem suG (hl : List (Addr × Int)) (h0 : 0 < hl.length) (hlen : hl.length ≤ 5) (G : Deep w p loose mean mg mb B) (hB : Ext B s.heap) (nh : B.get? hp = none) (hr : A.depth + 20 < recursionLimit) (hu : A.units + 100 < cLine)
    (hK : ∀ x ∈ hl, KR w B s.heap C x.1 x.2)
    (h1 : s.heap.get? hp = some (listOf (refsOf hl) n))
    (hQ : ∀ k h' tk', Swapped s.heap h' hp (listOf (refsOf (sup hl)) k) → Q .none { s with heap := h', toks := tk' }) :
    wpAny (model prog w) A (call (.ref 112) [.ref hp, .int 0 t1]) Q E s := by
  have hh : Ext B (hideAll s.heap [hp]) := hB.hide (by intro y hy; rw [List.mem_singleton.mp hy]; exact nh)
  have hk := hide_lists (h := s.heap) (l := [hp]) (by intro y hy; rw [List.mem_singleton.mp hy]; exact ⟨_, h1, rfl⟩)
  have X' : (hd0.heap_1 w.params).In (hideAll s.heap [hp]) := G.X.keeps hh
  have T' := G.T.keeps hh
  have hK' : ∀ x ∈ hl, KR w B (hideAll s.heap [hp]) C x.1 x.2 := fun x hx => (hK x hx).hide hk
  have X : (hd0.heap_1 w.params).In s.heap := G.X.keeps hB
  refine wpAny_call ?_
  k_dflt (refine' enterM (muts := [(hp, listOf (refsOf hl) n)]) (binds := [("heap", .ref hp), ("pos", .int 0 t1)]) ?hm X (G.T.nolimit.keeps hB) ?k6 ?k7 ?k8 ?k9 ?kB ?_ ?c2 ?c3 ?c4 ?c5; (case hm => simpa using h1); (case k6 => k_is); (case k7 => k_is); (case k8 => omega); (case k9 => exact BindsTo.of_eq rfl); (case c5 => decide); (case kB => exact locs rfl); (case c2 => exact rfl); (case c3 => exact rfl); (case c4 => exact rfl))
  intro L h₁ hl9 F N
  clear X hk hK
  dsimp only [List.map] at F N
  have hl' : hp < L := hl9 _ (.head _)
  clear hl9
  dsimp only
  have z1 : hl.length ≤ 1000 := by omega
  iterate 33 (first | (k_unfold; (try dsimp only)) | (k_end; wrow_close) | (with_reducible (k_here; (with_reducible show wpAny _ _ (subscriptTail _ _ (Value.ref _) (Value.int 0 _)) _ _ _); k_dflt (refine item_at (i := 0) (by first | (k_asm; done) | fail) (by first | (k_mem; done) | fail) (by first | (decide; done) | fail) (by first | (exact refs_get (by assumption); done) | fail) ?_; k_whole))) | (with_reducible (k_here; (with_reducible show wpAny _ _ (subscriptTail _ _ (Value.ref _) (Value.int _ _)) _ _ _); k_dflt (refine item_at (by first | (k_asm; done) | fail) (by first | (k_mem; done) | fail) (by first | (omega; done) | fail) (by first | (exact refs_get (by first | assumption | omega); done) | fail) ?_; k_whole))) | (with_reducible (k_here; (with_reducible show wpAny _ _ (compareOp CmpOp.Lt (Value.ref _) (Value.ref _)) _ _ _); k_dflt (refine lt_line (by first | (k_asm; done) | fail) (by first | (k_asm; done) | fail) (by first | (assumption; done) | fail) (by first | (assumption; done) | fail) (by first | (show Around.depth _ + 1 + 6 < recursionLimit; omega; done) | fail) (by first | (show Around.units _ + 3 < cLine; omega; done) | fail) (by first | (assumption; done) | fail) (by first | (assumption; done) | fail) ?_; k_whole); intro h'q9 tk'q9 F'q9 N'q9; (try k_sweep))) | (with_reducible (k_here; (with_reducible show wpAny _ _ (call (Value.builtin "len") [Value.ref _]) _ _ _); k_dflt (refine len_refs (by first | (k_asm; done) | fail) (by first | (k_mem; done) | fail) (by first | (assumption; done) | fail) ?_; k_whole); intro k'q9 t'q9)) | (with_reducible (k_here; (with_reducible show wpAny _ _ (call (Value.ref 105) [Value.ref _, Value.int _ _, Value.int _ _]) _ _ _); k_dflt (refine sdG_line (by first | (k_asm; done) | fail) (by first | (k_asm; done) | fail) (by first | (rfl; done) | fail) (by first | (assumption; done) | fail) (by first | (assumption; done) | fail) (by first | (assumption; done) | fail) (by first | (assumption; done) | fail) (by first | (assumption; done) | fail) (by first | (assumption; done) | fail) (by first | (show Around.depth _ + 1 + 10 < recursionLimit; omega; done) | fail) (by first | (show Around.units _ + 3 + 50 < cLine; omega; done) | fail) (by first | (assumption; done) | fail) (by first | (intro _ hqq9; cases hqq9; done) | fail) ?_; k_whole); intro k'q9 h'q9 tk'q9 F'q9 N'q9; (try k_sweep))) | (with_reducible (k_here; (with_reducible show wpAny _ _ (compareOp CmpOp.Lt (Value.ref _) (Value.ref _)) _ _ _); k_dflt (refine lt_line (by first | (k_asm; done) | fail) (by first | (k_asm; done) | fail) (by first | (assumption; done) | fail) (by first | (assumption; done) | fail) (by first | (show Around.depth _ + 1 + 6 < recursionLimit; omega; done) | fail) (by first | (show Around.units _ + 3 < cLine; omega; done) | fail) (by first | (assumption; done) | fail) (by first | (assumption; done) | fail) ?_; k_whole); intro h'q9 tk'q9 F'q9 N'q9; (try k_sweep))) | (k_here; (with_reducible show wpAny _ _ (subscriptTail _ _ (Value.ref _) (Value.int 0 _)) _ _ _); k_dflt (refine item_at (i := 0) (by first | (k_asm; done) | fail) (by first | (k_mem; done) | fail) (by first | (decide; done) | fail) (by first | (exact refs_get (by assumption); done) | fail) ?_; k_whole)) | (k_here; (with_reducible show wpAny _ _ (subscriptTail _ _ (Value.ref _) (Value.int _ _)) _ _ _); k_dflt (refine item_at (by first | (k_asm; done) | fail) (by first | (k_mem; done) | fail) (by first | (omega; done) | fail) (by first | (exact refs_get (by first | assumption | omega); done) | fail) ?_; k_whole)) | (k_here; (with_reducible show wpAny _ _ (compareOp CmpOp.Lt (Value.ref _) (Value.ref _)) _ _ _); k_dflt (refine lt_line (by first | (k_asm; done) | fail) (by first | (k_asm; done) | fail) (by first | (assumption; done) | fail) (by first | (assumption; done) | fail) (by first | (show Around.depth _ + 1 + 6 < recursionLimit; omega; done) | fail) (by first | (show Around.units _ + 3 < cLine; omega; done) | fail) (by first | (assumption; done) | fail) (by first | (assumption; done) | fail) ?_; k_whole); intro h'q9 tk'q9 F'q9 N'q9; (try k_sweep)) | (k_here; (with_reducible show wpAny _ _ (call (Value.builtin "len") [Value.ref _]) _ _ _); k_dflt (refine len_refs (by first | (k_asm; done) | fail) (by first | (k_mem; done) | fail) (by first | (assumption; done) | fail) ?_; k_whole); intro k'q9 t'q9) | (k_here; (with_reducible show wpAny _ _ (call (Value.ref 105) [Value.ref _, Value.int _ _, Value.int _ _]) _ _ _); k_dflt (refine sdG_line (by first | (k_asm; done) | fail) (by first | (k_asm; done) | fail) (by first | (rfl; done) | fail) (by first | (assumption; done) | fail) (by first | (assumption; done) | fail) (by first | (assumption; done) | fail) (by first | (assumption; done) | fail) (by first | (assumption; done) | fail) (by first | (assumption; done) | fail) (by first | (show Around.depth _ + 1 + 10 < recursionLimit; omega; done) | fail) (by first | (show Around.units _ + 3 + 50 < cLine; omega; done) | fail) (by first | (assumption; done) | fail) (by first | (intro _ hqq9; cases hqq9; done) | fail) ?_; k_whole); intro k'q9 h'q9 tk'q9 F'q9 N'q9; (try k_sweep)) | (k_here; (with_reducible show wpAny _ _ (compareOp CmpOp.Lt (Value.ref _) (Value.ref _)) _ _ _); k_dflt (refine lt_line (by first | (k_asm; done) | fail) (by first | (k_asm; done) | fail) (by first | (assumption; done) | fail) (by first | (assumption; done) | fail) (by first | (show Around.depth _ + 1 + 6 < recursionLimit; omega; done) | fail) (by first | (show Around.units _ + 3 < cLine; omega; done) | fail) (by first | (assumption; done) | fail) (by first | (assumption; done) | fail) ?_; k_whole); intro h'q9 tk'q9 F'q9 N'q9; (try k_sweep)) | walk1 | (dsimp only; first | (with_reducible (k_here; (with_reducible show wpAny _ _ (subscriptTail _ _ (Value.ref _) (Value.int 0 _)) _ _ _); k_dflt (refine item_at (i := 0) (by first | (k_asm; done) | fail) (by first | (k_mem; done) | fail) (by first | (decide; done) | fail) (by first | (exact refs_get (by assumption); done) | fail) ?_; k_whole))) | (with_reducible (k_here; (with_reducible show wpAny _ _ (subscriptTail _ _ (Value.ref _) (Value.int _ _)) _ _ _); k_dflt (refine item_at (by first | (k_asm; done) | fail) (by first | (k_mem; done) | fail) (by first | (omega; done) | fail) (by first | (exact refs_get (by first | assumption | omega); done) | fail) ?_; k_whole))) | (with_reducible (k_here; (with_reducible show wpAny _ _ (compareOp CmpOp.Lt (Value.ref _) (Value.ref _)) _ _ _); k_dflt (refine lt_line (by first | (k_asm; done) | fail) (by first | (k_asm; done) | fail) (by first | (assumption; done) | fail) (by first | (assumption; done) | fail) (by first | (show Around.depth _ + 1 + 6 < recursionLimit; omega; done) | fail) (by first | (show Around.units _ + 3 < cLine; omega; done) | fail) (by first | (assumption; done) | fail) (by first | (assumption; done) | fail) ?_; k_whole); intro h'q9 tk'q9 F'q9 N'q9; (try k_sweep))) | (with_reducible (k_here; (with_reducible show wpAny _ _ (call (Value.builtin "len") [Value.ref _]) _ _ _); k_dflt (refine len_refs (by first | (k_asm; done) | fail) (by first | (k_mem; done) | fail) (by first | (assumption; done) | fail) ?_; k_whole); intro k'q9 t'q9)) | (with_reducible (k_here; (with_reducible show wpAny _ _ (call (Value.ref 105) [Value.ref _, Value.int _ _, Value.int _ _]) _ _ _); k_dflt (refine sdG_line (by first | (k_asm; done) | fail) (by first | (k_asm; done) | fail) (by first | (rfl; done) | fail) (by first | (assumption; done) | fail) (by first | (assumption; done) | fail) (by first | (assumption; done) | fail) (by first | (assumption; done) | fail) (by first | (assumption; done) | fail) (by first | (assumption; done) | fail) (by first | (show Around.depth _ + 1 + 10 < recursionLimit; omega; done) | fail) (by first | (show Around.units _ + 3 + 50 < cLine; omega; done) | fail) (by first | (assumption; done) | fail) (by first | (intro _ hqq9; cases hqq9; done) | fail) ?_; k_whole); intro k'q9 h'q9 tk'q9 F'q9 N'q9; (try k_sweep))) | (with_reducible (k_here; (with_reducible show wpAny _ _ (compareOp CmpOp.Lt (Value.ref _) (Value.ref _)) _ _ _); k_dflt (refine lt_line (by first | (k_asm; done) | fail) (by first | (k_asm; done) | fail) (by first | (assumption; done) | fail) (by first | (assumption; done) | fail) (by first | (show Around.depth _ + 1 + 6 < recursionLimit; omega; done) | fail) (by first | (show Around.units _ + 3 < cLine; omega; done) | fail) (by first | (assumption; done) | fail) (by first | (assumption; done) | fail) ?_; k_whole); intro h'q9 tk'q9 F'q9 N'q9; (try k_sweep))) | (k_here; (with_reducible show wpAny _ _ (subscriptTail _ _ (Value.ref _) (Value.int 0 _)) _ _ _); k_dflt (refine item_at (i := 0) (by first | (k_asm; done) | fail) (by first | (k_mem; done) | fail) (by first | (decide; done) | fail) (by first | (exact refs_get (by assumption); done) | fail) ?_; k_whole)) | (k_here; (with_reducible show wpAny _ _ (subscriptTail _ _ (Value.ref _) (Value.int _ _)) _ _ _); k_dflt (refine item_at (by first | (k_asm; done) | fail) (by first | (k_mem; done) | fail) (by first | (omega; done) | fail) (by first | (exact refs_get (by first | assumption | omega); done) | fail) ?_; k_whole)) | (k_here; (with_reducible show wpAny _ _ (compareOp CmpOp.Lt (Value.ref _) (Value.ref _)) _ _ _); k_dflt (refine lt_line (by first | (k_asm; done) | fail) (by first | (k_asm; done) | fail) (by first | (assumption; done) | fail) (by first | (assumption; done) | fail) (by first | (show Around.depth _ + 1 + 6 < recursionLimit; omega; done) | fail) (by first | (show Around.units _ + 3 < cLine; omega; done) | fail) (by first | (assumption; done) | fail) (by first | (assumption; done) | fail) ?_; k_whole); intro h'q9 tk'q9 F'q9 N'q9; (try k_sweep)) | (k_here; (with_reducible show wpAny _ _ (call (Value.builtin "len") [Value.ref _]) _ _ _); k_dflt (refine len_refs (by first | (k_asm; done) | fail) (by first | (k_mem; done) | fail) (by first | (assumption; done) | fail) ?_; k_whole); intro k'q9 t'q9) | (k_here; (with_reducible show wpAny _ _ (call (Value.ref 105) [Value.ref _, Value.int _ _, Value.int _ _]) _ _ _); k_dflt (refine sdG_line (by first | (k_asm; done) | fail) (by first | (k_asm; done) | fail) (by first | (rfl; done) | fail) (by first | (assumption; done) | fail) (by first | (assumption; done) | fail) (by first | (assumption; done) | fail) (by first | (assumption; done) | fail) (by first | (assumption; done) | fail) (by first | (assumption; done) | fail) (by first | (show Around.depth _ + 1 + 10 < recursionLimit; omega; done) | fail) (by first | (show Around.units _ + 3 + 50 < cLine; omega; done) | fail) (by first | (assumption; done) | fail) (by first | (intro _ hqq9; cases hqq9; done) | fail) ?_; k_whole); intro k'q9 h'q9 tk'q9 F'q9 N'q9; (try k_sweep)) | (k_here; (with_reducible show wpAny _ _ (compareOp CmpOp.Lt (Value.ref _) (Value.ref _)) _ _ _); k_dflt (refine lt_line (by first | (k_asm; done) | fail) (by first | (k_asm; done) | fail) (by first | (assumption; done) | fail) (by first | (assumption; done) | fail) (by first | (show Around.depth _ + 1 + 6 < recursionLimit; omega; done) | fail) (by first | (show Around.units _ + 3 < cLine; omega; done) | fail) (by first | (assumption; done) | fail) (by first | (assumption; done) | fail) ?_; k_whole); intro h'q9 tk'q9 F'q9 N'q9; (try k_sweep)) | walk1) | (leave1; try dsimp only))
  refine whl_start 0 ?_
  rename Fr _ _ _ _ => F1
  rename News _ _ _ _ => N1
  obtain ⟨x, hx⟩ : ∃ x, hl.getD 0 (0, 0) = x := ⟨_, rfl⟩
  have hxK : KR w B (hideAll s.heap [hp]) C x.1 x.2 := by
    rw [← hx]
    exact hK' _ (getD_mem h0)
  rw [hx] at F1
  refine whl_ind (α := Nat) (fun c => 5 - c) (fun c s' => ∀ G : Prop, (∀ (h : Heap) (tk : Nat) (m2 : Str → Option Value) (M : List (Addr × Int)) (k : Nat) (tp tc te : Tok) (z : Int) (f : Nat), s' = { s with heap := h, toks := tk } → Fr (hideAll s.heap [hp]) L h m2 → News (hideAll s.heap [hp]) L h [(hp, listOf (refsOf M) k)] → M.length = hl.length → c < M.length → M.length ≤ c + f → upTo f M c = upTo 5 hl 0 → (∀ x ∈ M, KR w B (hideAll s.heap [hp]) C x.1 x.2) → z = ((2 * c + 1 : Nat) : Int) → m2 "heap" = some (.ref hp) → m2 "startpos" = some (.int 0 t1) → m2 "pos" = some (.int (c : Nat) tp) → m2 "endpos" = some (.int (hl.length : Nat) te) → m2 "newitem" = some (.ref x.1) → m2 "childpos" = some (.int z tc) → G) → G) ?_ 0 _ ?_
  rotate_left 1
  · exact fun G hG => hG _ _ _ hl _ _ _ _ _ 5 rfl F1 N1 rfl h0 (by omega) rfl hK' rfl rfl rfl rfl rfl rfl rfl
  · clear F1 N1
    intro c s' hJ IH
    refine hJ _ ?_
    intro h tk m2 M k tp tc te z f es F N hM hc hf hR hKM hz hm1 hm2 hm3 hm4 hm5 hm6
    clear hJ
    rw [es]
    rw [norm1 hm1, norm1 hm2, norm1 hm3, norm1 hm4, norm1 hm5, norm1 hm6, hz] at F
    have hsz : (refsOf M).size ≤ 1000 := by rw [refs_size]; omega
    have hcs : c < (refsOf M).size := by rw [refs_size]; exact hc
    repeat' (first | (k_unfold; (try dsimp only)) | (k_end; wrow_close) | (with_reducible (k_here; (with_reducible show wpAny _ _ (subscriptTail _ _ (Value.ref _) (Value.int 0 _)) _ _ _); k_dflt (refine item_at (i := 0) (by first | (k_asm; done) | fail) (by first | (k_mem; done) | fail) (by first | (decide; done) | fail) (by first | (exact refs_get (by assumption); done) | fail) ?_; k_whole))) | (with_reducible (k_here; (with_reducible show wpAny _ _ (subscriptTail _ _ (Value.ref _) (Value.int _ _)) _ _ _); k_dflt (refine item_at (by first | (k_asm; done) | fail) (by first | (k_mem; done) | fail) (by first | (omega; done) | fail) (by first | (exact refs_get (by first | assumption | omega); done) | fail) ?_; k_whole))) | (with_reducible (k_here; (with_reducible show wpAny _ _ (compareOp CmpOp.Lt (Value.ref _) (Value.ref _)) _ _ _); k_dflt (refine lt_line (by first | (k_asm; done) | fail) (by first | (k_asm; done) | fail) (by first | (assumption; done) | fail) (by first | (assumption; done) | fail) (by first | (show Around.depth _ + 1 + 6 < recursionLimit; omega; done) | fail) (by first | (show Around.units _ + 3 < cLine; omega; done) | fail) (by first | (assumption; done) | fail) (by first | (assumption; done) | fail) ?_; k_whole); intro h'q9 tk'q9 F'q9 N'q9; (try k_sweep))) | (with_reducible (k_here; (with_reducible show wpAny _ _ (call (Value.builtin "len") [Value.ref _]) _ _ _); k_dflt (refine len_refs (by first | (k_asm; done) | fail) (by first | (k_mem; done) | fail) (by first | (assumption; done) | fail) ?_; k_whole); intro k'q9 t'q9)) | (with_reducible (k_here; (with_reducible show wpAny _ _ (call (Value.ref 105) [Value.ref _, Value.int _ _, Value.int _ _]) _ _ _); k_dflt (refine sdG_line (by first | (k_asm; done) | fail) (by first | (k_asm; done) | fail) (by first | (rfl; done) | fail) (by first | (assumption; done) | fail) (by first | (assumption; done) | fail) (by first | (assumption; done) | fail) (by first | (assumption; done) | fail) (by first | (assumption; done) | fail) (by first | (assumption; done) | fail) (by first | (show Around.depth _ + 1 + 10 < recursionLimit; omega; done) | fail) (by first | (show Around.units _ + 3 + 50 < cLine; omega; done) | fail) (by first | (assumption; done) | fail) (by first | (intro _ hqq9; cases hqq9; done) | fail) ?_; k_whole); intro k'q9 h'q9 tk'q9 F'q9 N'q9; (try k_sweep))) | (with_reducible (k_here; (with_reducible show wpAny _ _ (compareOp CmpOp.Lt (Value.ref _) (Value.ref _)) _ _ _); k_dflt (refine lt_line (by first | (k_asm; done) | fail) (by first | (k_asm; done) | fail) (by first | (assumption; done) | fail) (by first | (assumption; done) | fail) (by first | (show Around.depth _ + 1 + 6 < recursionLimit; omega; done) | fail) (by first | (show Around.units _ + 3 < cLine; omega; done) | fail) (by first | (assumption; done) | fail) (by first | (assumption; done) | fail) ?_; k_whole); intro h'q9 tk'q9 F'q9 N'q9; (try k_sweep))) | (k_here; (with_reducible show wpAny _ _ (subscriptTail _ _ (Value.ref _) (Value.int 0 _)) _ _ _); k_dflt (refine item_at (i := 0) (by first | (k_asm; done) | fail) (by first | (k_mem; done) | fail) (by first | (decide; done) | fail) (by first | (exact refs_get (by assumption); done) | fail) ?_; k_whole)) | (k_here; (with_reducible show wpAny _ _ (subscriptTail _ _ (Value.ref _) (Value.int _ _)) _ _ _); k_dflt (refine item_at (by first | (k_asm; done) | fail) (by first | (k_mem; done) | fail) (by first | (omega; done) | fail) (by first | (exact refs_get (by first | assumption | omega); done) | fail) ?_; k_whole)) | (k_here; (with_reducible show wpAny _ _ (compareOp CmpOp.Lt (Value.ref _) (Value.ref _)) _ _ _); k_dflt (refine lt_line (by first | (k_asm; done) | fail) (by first | (k_asm; done) | fail) (by first | (assumption; done) | fail) (by first | (assumption; done) | fail) (by first | (show Around.depth _ + 1 + 6 < recursionLimit; omega; done) | fail) (by first | (show Around.units _ + 3 < cLine; omega; done) | fail) (by first | (assumption; done) | fail) (by first | (assumption; done) | fail) ?_; k_whole); intro h'q9 tk'q9 F'q9 N'q9; (try k_sweep)) | (k_here; (with_reducible show wpAny _ _ (call (Value.builtin "len") [Value.ref _]) _ _ _); k_dflt (refine len_refs (by first | (k_asm; done) | fail) (by first | (k_mem; done) | fail) (by first | (assumption; done) | fail) ?_; k_whole); intro k'q9 t'q9) | (k_here; (with_reducible show wpAny _ _ (call (Value.ref 105) [Value.ref _, Value.int _ _, Value.int _ _]) _ _ _); k_dflt (refine sdG_line (by first | (k_asm; done) | fail) (by first | (k_asm; done) | fail) (by first | (rfl; done) | fail) (by first | (assumption; done) | fail) (by first | (assumption; done) | fail) (by first | (assumption; done) | fail) (by first | (assumption; done) | fail) (by first | (assumption; done) | fail) (by first | (assumption; done) | fail) (by first | (show Around.depth _ + 1 + 10 < recursionLimit; omega; done) | fail) (by first | (show Around.units _ + 3 + 50 < cLine; omega; done) | fail) (by first | (assumption; done) | fail) (by first | (intro _ hqq9; cases hqq9; done) | fail) ?_; k_whole); intro k'q9 h'q9 tk'q9 F'q9 N'q9; (try k_sweep)) | (k_here; (with_reducible show wpAny _ _ (compareOp CmpOp.Lt (Value.ref _) (Value.ref _)) _ _ _); k_dflt (refine lt_line (by first | (k_asm; done) | fail) (by first | (k_asm; done) | fail) (by first | (assumption; done) | fail) (by first | (assumption; done) | fail) (by first | (show Around.depth _ + 1 + 6 < recursionLimit; omega; done) | fail) (by first | (show Around.units _ + 3 < cLine; omega; done) | fail) (by first | (assumption; done) | fail) (by first | (assumption; done) | fail) ?_; k_whole); intro h'q9 tk'q9 F'q9 N'q9; (try k_sweep)) | (walk1 <;> (try dsimp only)) | (dsimp only; first | (with_reducible (k_here; (with_reducible show wpAny _ _ (subscriptTail _ _ (Value.ref _) (Value.int 0 _)) _ _ _); k_dflt (refine item_at (i := 0) (by first | (k_asm; done) | fail) (by first | (k_mem; done) | fail) (by first | (decide; done) | fail) (by first | (exact refs_get (by assumption); done) | fail) ?_; k_whole))) | (with_reducible (k_here; (with_reducible show wpAny _ _ (subscriptTail _ _ (Value.ref _) (Value.int _ _)) _ _ _); k_dflt (refine item_at (by first | (k_asm; done) | fail) (by first | (k_mem; done) | fail) (by first | (omega; done) | fail) (by first | (exact refs_get (by first | assumption | omega); done) | fail) ?_; k_whole))) | (with_reducible (k_here; (with_reducible show wpAny _ _ (compareOp CmpOp.Lt (Value.ref _) (Value.ref _)) _ _ _); k_dflt (refine lt_line (by first | (k_asm; done) | fail) (by first | (k_asm; done) | fail) (by first | (assumption; done) | fail) (by first | (assumption; done) | fail) (by first | (show Around.depth _ + 1 + 6 < recursionLimit; omega; done) | fail) (by first | (show Around.units _ + 3 < cLine; omega; done) | fail) (by first | (assumption; done) | fail) (by first | (assumption; done) | fail) ?_; k_whole); intro h'q9 tk'q9 F'q9 N'q9; (try k_sweep))) | (with_reducible (k_here; (with_reducible show wpAny _ _ (call (Value.builtin "len") [Value.ref _]) _ _ _); k_dflt (refine len_refs (by first | (k_asm; done) | fail) (by first | (k_mem; done) | fail) (by first | (assumption; done) | fail) ?_; k_whole); intro k'q9 t'q9)) | (with_reducible (k_here; (with_reducible show wpAny _ _ (call (Value.ref 105) [Value.ref _, Value.int _ _, Value.int _ _]) _ _ _); k_dflt (refine sdG_line (by first | (k_asm; done) | fail) (by first | (k_asm; done) | fail) (by first | (rfl; done) | fail) (by first | (assumption; done) | fail) (by first | (assumption; done) | fail) (by first | (assumption; done) | fail) (by first | (assumption; done) | fail) (by first | (assumption; done) | fail) (by first | (assumption; done) | fail) (by first | (show Around.depth _ + 1 + 10 < recursionLimit; omega; done) | fail) (by first | (show Around.units _ + 3 + 50 < cLine; omega; done) | fail) (by first | (assumption; done) | fail) (by first | (intro _ hqq9; cases hqq9; done) | fail) ?_; k_whole); intro k'q9 h'q9 tk'q9 F'q9 N'q9; (try k_sweep))) | (with_reducible (k_here; (with_reducible show wpAny _ _ (compareOp CmpOp.Lt (Value.ref _) (Value.ref _)) _ _ _); k_dflt (refine lt_line (by first | (k_asm; done) | fail) (by first | (k_asm; done) | fail) (by first | (assumption; done) | fail) (by first | (assumption; done) | fail) (by first | (show Around.depth _ + 1 + 6 < recursionLimit; omega; done) | fail) (by first | (show Around.units _ + 3 < cLine; omega; done) | fail) (by first | (assumption; done) | fail) (by first | (assumption; done) | fail) ?_; k_whole); intro h'q9 tk'q9 F'q9 N'q9; (try k_sweep))) | (k_here; (with_reducible show wpAny _ _ (subscriptTail _ _ (Value.ref _) (Value.int 0 _)) _ _ _); k_dflt (refine item_at (i := 0) (by first | (k_asm; done) | fail) (by first | (k_mem; done) | fail) (by first | (decide; done) | fail) (by first | (exact refs_get (by assumption); done) | fail) ?_; k_whole)) | (k_here; (with_reducible show wpAny _ _ (subscriptTail _ _ (Value.ref _) (Value.int _ _)) _ _ _); k_dflt (refine item_at (by first | (k_asm; done) | fail) (by first | (k_mem; done) | fail) (by first | (omega; done) | fail) (by first | (exact refs_get (by first | assumption | omega); done) | fail) ?_; k_whole)) | (k_here; (with_reducible show wpAny _ _ (compareOp CmpOp.Lt (Value.ref _) (Value.ref _)) _ _ _); k_dflt (refine lt_line (by first | (k_asm; done) | fail) (by first | (k_asm; done) | fail) (by first | (assumption; done) | fail) (by first | (assumption; done) | fail) (by first | (show Around.depth _ + 1 + 6 < recursionLimit; omega; done) | fail) (by first | (show Around.units _ + 3 < cLine; omega; done) | fail) (by first | (assumption; done) | fail) (by first | (assumption; done) | fail) ?_; k_whole); intro h'q9 tk'q9 F'q9 N'q9; (try k_sweep)) | (k_here; (with_reducible show wpAny _ _ (call (Value.builtin "len") [Value.ref _]) _ _ _); k_dflt (refine len_refs (by first | (k_asm; done) | fail) (by first | (k_mem; done) | fail) (by first | (assumption; done) | fail) ?_; k_whole); intro k'q9 t'q9) | (k_here; (with_reducible show wpAny _ _ (call (Value.ref 105) [Value.ref _, Value.int _ _, Value.int _ _]) _ _ _); k_dflt (refine sdG_line (by first | (k_asm; done) | fail) (by first | (k_asm; done) | fail) (by first | (rfl; done) | fail) (by first | (assumption; done) | fail) (by first | (assumption; done) | fail) (by first | (assumption; done) | fail) (by first | (assumption; done) | fail) (by first | (assumption; done) | fail) (by first | (assumption; done) | fail) (by first | (show Around.depth _ + 1 + 10 < recursionLimit; omega; done) | fail) (by first | (show Around.units _ + 3 + 50 < cLine; omega; done) | fail) (by first | (assumption; done) | fail) (by first | (intro _ hqq9; cases hqq9; done) | fail) ?_; k_whole); intro k'q9 h'q9 tk'q9 F'q9 N'q9; (try k_sweep)) | (k_here; (with_reducible show wpAny _ _ (compareOp CmpOp.Lt (Value.ref _) (Value.ref _)) _ _ _); k_dflt (refine lt_line (by first | (k_asm; done) | fail) (by first | (k_asm; done) | fail) (by first | (assumption; done) | fail) (by first | (assumption; done) | fail) (by first | (show Around.depth _ + 1 + 6 < recursionLimit; omega; done) | fail) (by first | (show Around.units _ + 3 < cLine; omega; done) | fail) (by first | (assumption; done) | fail) (by first | (assumption; done) | fail) ?_; k_whole); intro h'q9 tk'q9 F'q9 N'q9; (try k_sweep)) | walk1) | (leave1; try dsimp only) | fail "no step")
    by_cases hlt : 2 * c + 1 < M.length
    · refine WhlIf.yes (decide_eq_true (by omega)) ?_
      iterate 7 (first | (k_unfold; (try dsimp only)) | (k_end; wrow_close) | (with_reducible (k_here; (with_reducible show wpAny _ _ (subscriptTail _ _ (Value.ref _) (Value.int 0 _)) _ _ _); k_dflt (refine item_at (i := 0) (by first | (k_asm; done) | fail) (by first | (k_mem; done) | fail) (by first | (decide; done) | fail) (by first | (exact refs_get (by assumption); done) | fail) ?_; k_whole))) | (with_reducible (k_here; (with_reducible show wpAny _ _ (subscriptTail _ _ (Value.ref _) (Value.int _ _)) _ _ _); k_dflt (refine item_at (by first | (k_asm; done) | fail) (by first | (k_mem; done) | fail) (by first | (omega; done) | fail) (by first | (exact refs_get (by first | assumption | omega); done) | fail) ?_; k_whole))) | (with_reducible (k_here; (with_reducible show wpAny _ _ (compareOp CmpOp.Lt (Value.ref _) (Value.ref _)) _ _ _); k_dflt (refine lt_line (by first | (k_asm; done) | fail) (by first | (k_asm; done) | fail) (by first | (assumption; done) | fail) (by first | (assumption; done) | fail) (by first | (show Around.depth _ + 1 + 6 < recursionLimit; omega; done) | fail) (by first | (show Around.units _ + 3 < cLine; omega; done) | fail) (by first | (assumption; done) | fail) (by first | (assumption; done) | fail) ?_; k_whole); intro h'q9 tk'q9 F'q9 N'q9; (try k_sweep))) | (with_reducible (k_here; (with_reducible show wpAny _ _ (call (Value.builtin "len") [Value.ref _]) _ _ _); k_dflt (refine len_refs (by first | (k_asm; done) | fail) (by first | (k_mem; done) | fail) (by first | (assumption; done) | fail) ?_; k_whole); intro k'q9 t'q9)) | (with_reducible (k_here; (with_reducible show wpAny _ _ (call (Value.ref 105) [Value.ref _, Value.int _ _, Value.int _ _]) _ _ _); k_dflt (refine sdG_line (by first | (k_asm; done) | fail) (by first | (k_asm; done) | fail) (by first | (rfl; done) | fail) (by first | (assumption; done) | fail) (by first | (assumption; done) | fail) (by first | (assumption; done) | fail) (by first | (assumption; done) | fail) (by first | (assumption; done) | fail) (by first | (assumption; done) | fail) (by first | (show Around.depth _ + 1 + 10 < recursionLimit; omega; done) | fail) (by first | (show Around.units _ + 3 + 50 < cLine; omega; done) | fail) (by first | (assumption; done) | fail) (by first | (intro _ hqq9; cases hqq9; done) | fail) ?_; k_whole); intro k'q9 h'q9 tk'q9 F'q9 N'q9; (try k_sweep))) | (with_reducible (k_here; (with_reducible show wpAny _ _ (compareOp CmpOp.Lt (Value.ref _) (Value.ref _)) _ _ _); k_dflt (refine lt_line (by first | (k_asm; done) | fail) (by first | (k_asm; done) | fail) (by first | (assumption; done) | fail) (by first | (assumption; done) | fail) (by first | (show Around.depth _ + 1 + 6 < recursionLimit; omega; done) | fail) (by first | (show Around.units _ + 3 < cLine; omega; done) | fail) (by first | (assumption; done) | fail) (by first | (assumption; done) | fail) ?_; k_whole); intro h'q9 tk'q9 F'q9 N'q9; (try k_sweep))) | (k_here; (with_reducible show wpAny _ _ (subscriptTail _ _ (Value.ref _) (Value.int 0 _)) _ _ _); k_dflt (refine item_at (i := 0) (by first | (k_asm; done) | fail) (by first | (k_mem; done) | fail) (by first | (decide; done) | fail) (by first | (exact refs_get (by assumption); done) | fail) ?_; k_whole)) | (k_here; (with_reducible show wpAny _ _ (subscriptTail _ _ (Value.ref _) (Value.int _ _)) _ _ _); k_dflt (refine item_at (by first | (k_asm; done) | fail) (by first | (k_mem; done) | fail) (by first | (omega; done) | fail) (by first | (exact refs_get (by first | assumption | omega); done) | fail) ?_; k_whole)) | (k_here; (with_reducible show wpAny _ _ (compareOp CmpOp.Lt (Value.ref _) (Value.ref _)) _ _ _); k_dflt (refine lt_line (by first | (k_asm; done) | fail) (by first | (k_asm; done) | fail) (by first | (assumption; done) | fail) (by first | (assumption; done) | fail) (by first | (show Around.depth _ + 1 + 6 < recursionLimit; omega; done) | fail) (by first | (show Around.units _ + 3 < cLine; omega; done) | fail) (by first | (assumption; done) | fail) (by first | (assumption; done) | fail) ?_; k_whole); intro h'q9 tk'q9 F'q9 N'q9; (try k_sweep)) | (k_here; (with_reducible show wpAny _ _ (call (Value.builtin "len") [Value.ref _]) _ _ _); k_dflt (refine len_refs (by first | (k_asm; done) | fail) (by first | (k_mem; done) | fail) (by first | (assumption; done) | fail) ?_; k_whole); intro k'q9 t'q9) | (k_here; (with_reducible show wpAny _ _ (call (Value.ref 105) [Value.ref _, Value.int _ _, Value.int _ _]) _ _ _); k_dflt (refine sdG_line (by first | (k_asm; done) | fail) (by first | (k_asm; done) | fail) (by first | (rfl; done) | fail) (by first | (assumption; done) | fail) (by first | (assumption; done) | fail) (by first | (assumption; done) | fail) (by first | (assumption; done) | fail) (by first | (assumption; done) | fail) (by first | (assumption; done) | fail) (by first | (show Around.depth _ + 1 + 10 < recursionLimit; omega; done) | fail) (by first | (show Around.units _ + 3 + 50 < cLine; omega; done) | fail) (by first | (assumption; done) | fail) (by first | (intro _ hqq9; cases hqq9; done) | fail) ?_; k_whole); intro k'q9 h'q9 tk'q9 F'q9 N'q9; (try k_sweep)) | (k_here; (with_reducible show wpAny _ _ (compareOp CmpOp.Lt (Value.ref _) (Value.ref _)) _ _ _); k_dflt (refine lt_line (by first | (k_asm; done) | fail) (by first | (k_asm; done) | fail) (by first | (assumption; done) | fail) (by first | (assumption; done) | fail) (by first | (show Around.depth _ + 1 + 6 < recursionLimit; omega; done) | fail) (by first | (show Around.units _ + 3 < cLine; omega; done) | fail) (by first | (assumption; done) | fail) (by first | (assumption; done) | fail) ?_; k_whole); intro h'q9 tk'q9 F'q9 N'q9; (try k_sweep)) | walk1 | (dsimp only; first | (with_reducible (k_here; (with_reducible show wpAny _ _ (subscriptTail _ _ (Value.ref _) (Value.int 0 _)) _ _ _); k_dflt (refine item_at (i := 0) (by first | (k_asm; done) | fail) (by first | (k_mem; done) | fail) (by first | (decide; done) | fail) (by first | (exact refs_get (by assumption); done) | fail) ?_; k_whole))) | (with_reducible (k_here; (with_reducible show wpAny _ _ (subscriptTail _ _ (Value.ref _) (Value.int _ _)) _ _ _); k_dflt (refine item_at (by first | (k_asm; done) | fail) (by first | (k_mem; done) | fail) (by first | (omega; done) | fail) (by first | (exact refs_get (by first | assumption | omega); done) | fail) ?_; k_whole))) | (with_reducible (k_here; (with_reducible show wpAny _ _ (compareOp CmpOp.Lt (Value.ref _) (Value.ref _)) _ _ _); k_dflt (refine lt_line (by first | (k_asm; done) | fail) (by first | (k_asm; done) | fail) (by first | (assumption; done) | fail) (by first | (assumption; done) | fail) (by first | (show Around.depth _ + 1 + 6 < recursionLimit; omega; done) | fail) (by first | (show Around.units _ + 3 < cLine; omega; done) | fail) (by first | (assumption; done) | fail) (by first | (assumption; done) | fail) ?_; k_whole); intro h'q9 tk'q9 F'q9 N'q9; (try k_sweep))) | (with_reducible (k_here; (with_reducible show wpAny _ _ (call (Value.builtin "len") [Value.ref _]) _ _ _); k_dflt (refine len_refs (by first | (k_asm; done) | fail) (by first | (k_mem; done) | fail) (by first | (assumption; done) | fail) ?_; k_whole); intro k'q9 t'q9)) | (with_reducible (k_here; (with_reducible show wpAny _ _ (call (Value.ref 105) [Value.ref _, Value.int _ _, Value.int _ _]) _ _ _); k_dflt (refine sdG_line (by first | (k_asm; done) | fail) (by first | (k_asm; done) | fail) (by first | (rfl; done) | fail) (by first | (assumption; done) | fail) (by first | (assumption; done) | fail) (by first | (assumption; done) | fail) (by first | (assumption; done) | fail) (by first | (assumption; done) | fail) (by first | (assumption; done) | fail) (by first | (show Around.depth _ + 1 + 10 < recursionLimit; omega; done) | fail) (by first | (show Around.units _ + 3 + 50 < cLine; omega; done) | fail) (by first | (assumption; done) | fail) (by first | (intro _ hqq9; cases hqq9; done) | fail) ?_; k_whole); intro k'q9 h'q9 tk'q9 F'q9 N'q9; (try k_sweep))) | (with_reducible (k_here; (with_reducible show wpAny _ _ (compareOp CmpOp.Lt (Value.ref _) (Value.ref _)) _ _ _); k_dflt (refine lt_line (by first | (k_asm; done) | fail) (by first | (k_asm; done) | fail) (by first | (assumption; done) | fail) (by first | (assumption; done) | fail) (by first | (show Around.depth _ + 1 + 6 < recursionLimit; omega; done) | fail) (by first | (show Around.units _ + 3 < cLine; omega; done) | fail) (by first | (assumption; done) | fail) (by first | (assumption; done) | fail) ?_; k_whole); intro h'q9 tk'q9 F'q9 N'q9; (try k_sweep))) | (k_here; (with_reducible show wpAny _ _ (subscriptTail _ _ (Value.ref _) (Value.int 0 _)) _ _ _); k_dflt (refine item_at (i := 0) (by first | (k_asm; done) | fail) (by first | (k_mem; done) | fail) (by first | (decide; done) | fail) (by first | (exact refs_get (by assumption); done) | fail) ?_; k_whole)) | (k_here; (with_reducible show wpAny _ _ (subscriptTail _ _ (Value.ref _) (Value.int _ _)) _ _ _); k_dflt (refine item_at (by first | (k_asm; done) | fail) (by first | (k_mem; done) | fail) (by first | (omega; done) | fail) (by first | (exact refs_get (by first | assumption | omega); done) | fail) ?_; k_whole)) | (k_here; (with_reducible show wpAny _ _ (compareOp CmpOp.Lt (Value.ref _) (Value.ref _)) _ _ _); k_dflt (refine lt_line (by first | (k_asm; done) | fail) (by first | (k_asm; done) | fail) (by first | (assumption; done) | fail) (by first | (assumption; done) | fail) (by first | (show Around.depth _ + 1 + 6 < recursionLimit; omega; done) | fail) (by first | (show Around.units _ + 3 < cLine; omega; done) | fail) (by first | (assumption; done) | fail) (by first | (assumption; done) | fail) ?_; k_whole); intro h'q9 tk'q9 F'q9 N'q9; (try k_sweep)) | (k_here; (with_reducible show wpAny _ _ (call (Value.builtin "len") [Value.ref _]) _ _ _); k_dflt (refine len_refs (by first | (k_asm; done) | fail) (by first | (k_mem; done) | fail) (by first | (assumption; done) | fail) ?_; k_whole); intro k'q9 t'q9) | (k_here; (with_reducible show wpAny _ _ (call (Value.ref 105) [Value.ref _, Value.int _ _, Value.int _ _]) _ _ _); k_dflt (refine sdG_line (by first | (k_asm; done) | fail) (by first | (k_asm; done) | fail) (by first | (rfl; done) | fail) (by first | (assumption; done) | fail) (by first | (assumption; done) | fail) (by first | (assumption; done) | fail) (by first | (assumption; done) | fail) (by first | (assumption; done) | fail) (by first | (assumption; done) | fail) (by first | (show Around.depth _ + 1 + 10 < recursionLimit; omega; done) | fail) (by first | (show Around.units _ + 3 + 50 < cLine; omega; done) | fail) (by first | (assumption; done) | fail) (by first | (intro _ hqq9; cases hqq9; done) | fail) ?_; k_whole); intro k'q9 h'q9 tk'q9 F'q9 N'q9; (try k_sweep)) | (k_here; (with_reducible show wpAny _ _ (compareOp CmpOp.Lt (Value.ref _) (Value.ref _)) _ _ _); k_dflt (refine lt_line (by first | (k_asm; done) | fail) (by first | (k_asm; done) | fail) (by first | (assumption; done) | fail) (by first | (assumption; done) | fail) (by first | (show Around.depth _ + 1 + 6 < recursionLimit; omega; done) | fail) (by first | (show Around.units _ + 3 < cLine; omega; done) | fail) (by first | (assumption; done) | fail) (by first | (assumption; done) | fail) ?_; k_whole); intro h'q9 tk'q9 F'q9 N'q9; (try k_sweep)) | walk1) | (leave1; try dsimp only))
      rename Fr _ _ _ _ => F2
      have e3 : ((2 * c + 1 : Nat) : Int) + 1 = ((2 * c + 2 : Nat) : Int) := by omega
      rw [e3] at F2
      have kL := hKM _ (getD_mem hlt)
      by_cases hr2 : 2 * c + 2 < M.length
      · have kR := hKM _ (getD_mem hr2)
        repeat' ((fail_if_success (with_reducible show WhlRest _ _ _ _ _ _ _ _ _ _ _)); (first | (k_unfold; (try dsimp only)) | (k_end; wrow_close) | (with_reducible (k_here; (with_reducible show wpAny _ _ (subscriptTail _ _ (Value.ref _) (Value.int 0 _)) _ _ _); k_dflt (refine item_at (i := 0) (by first | (k_asm; done) | fail) (by first | (k_mem; done) | fail) (by first | (decide; done) | fail) (by first | (exact refs_get (by assumption); done) | fail) ?_; k_whole))) | (with_reducible (k_here; (with_reducible show wpAny _ _ (subscriptTail _ _ (Value.ref _) (Value.int _ _)) _ _ _); k_dflt (refine item_at (by first | (k_asm; done) | fail) (by first | (k_mem; done) | fail) (by first | (omega; done) | fail) (by first | (exact refs_get (by first | assumption | omega); done) | fail) ?_; k_whole))) | (with_reducible (k_here; (with_reducible show wpAny _ _ (compareOp CmpOp.Lt (Value.ref _) (Value.ref _)) _ _ _); k_dflt (refine lt_line (by first | (k_asm; done) | fail) (by first | (k_asm; done) | fail) (by first | (assumption; done) | fail) (by first | (assumption; done) | fail) (by first | (show Around.depth _ + 1 + 6 < recursionLimit; omega; done) | fail) (by first | (show Around.units _ + 3 < cLine; omega; done) | fail) (by first | (assumption; done) | fail) (by first | (assumption; done) | fail) ?_; k_whole); intro h'q9 tk'q9 F'q9 N'q9; (try k_sweep))) | (with_reducible (k_here; (with_reducible show wpAny _ _ (call (Value.builtin "len") [Value.ref _]) _ _ _); k_dflt (refine len_refs (by first | (k_asm; done) | fail) (by first | (k_mem; done) | fail) (by first | (assumption; done) | fail) ?_; k_whole); intro k'q9 t'q9)) | (with_reducible (k_here; (with_reducible show wpAny _ _ (call (Value.ref 105) [Value.ref _, Value.int _ _, Value.int _ _]) _ _ _); k_dflt (refine sdG_line (by first | (k_asm; done) | fail) (by first | (k_asm; done) | fail) (by first | (rfl; done) | fail) (by first | (assumption; done) | fail) (by first | (assumption; done) | fail) (by first | (assumption; done) | fail) (by first | (assumption; done) | fail) (by first | (assumption; done) | fail) (by first | (assumption; done) | fail) (by first | (show Around.depth _ + 1 + 10 < recursionLimit; omega; done) | fail) (by first | (show Around.units _ + 3 + 50 < cLine; omega; done) | fail) (by first | (assumption; done) | fail) (by first | (intro _ hqq9; cases hqq9; done) | fail) ?_; k_whole); intro k'q9 h'q9 tk'q9 F'q9 N'q9; (try k_sweep))) | (with_reducible (k_here; (with_reducible show wpAny _ _ (compareOp CmpOp.Lt (Value.ref _) (Value.ref _)) _ _ _); k_dflt (refine lt_line (by first | (k_asm; done) | fail) (by first | (k_asm; done) | fail) (by first | (assumption; done) | fail) (by first | (assumption; done) | fail) (by first | (show Around.depth _ + 1 + 6 < recursionLimit; omega; done) | fail) (by first | (show Around.units _ + 3 < cLine; omega; done) | fail) (by first | (assumption; done) | fail) (by first | (assumption; done) | fail) ?_; k_whole); intro h'q9 tk'q9 F'q9 N'q9; (try k_sweep))) | (k_here; (with_reducible show wpAny _ _ (subscriptTail _ _ (Value.ref _) (Value.int 0 _)) _ _ _); k_dflt (refine item_at (i := 0) (by first | (k_asm; done) | fail) (by first | (k_mem; done) | fail) (by first | (decide; done) | fail) (by first | (exact refs_get (by assumption); done) | fail) ?_; k_whole)) | (k_here; (with_reducible show wpAny _ _ (subscriptTail _ _ (Value.ref _) (Value.int _ _)) _ _ _); k_dflt (refine item_at (by first | (k_asm; done) | fail) (by first | (k_mem; done) | fail) (by first | (omega; done) | fail) (by first | (exact refs_get (by first | assumption | omega); done) | fail) ?_; k_whole)) | (k_here; (with_reducible show wpAny _ _ (compareOp CmpOp.Lt (Value.ref _) (Value.ref _)) _ _ _); k_dflt (refine lt_line (by first | (k_asm; done) | fail) (by first | (k_asm; done) | fail) (by first | (assumption; done) | fail) (by first | (assumption; done) | fail) (by first | (show Around.depth _ + 1 + 6 < recursionLimit; omega; done) | fail) (by first | (show Around.units _ + 3 < cLine; omega; done) | fail) (by first | (assumption; done) | fail) (by first | (assumption; done) | fail) ?_; k_whole); intro h'q9 tk'q9 F'q9 N'q9; (try k_sweep)) | (k_here; (with_reducible show wpAny _ _ (call (Value.builtin "len") [Value.ref _]) _ _ _); k_dflt (refine len_refs (by first | (k_asm; done) | fail) (by first | (k_mem; done) | fail) (by first | (assumption; done) | fail) ?_; k_whole); intro k'q9 t'q9) | (k_here; (with_reducible show wpAny _ _ (call (Value.ref 105) [Value.ref _, Value.int _ _, Value.int _ _]) _ _ _); k_dflt (refine sdG_line (by first | (k_asm; done) | fail) (by first | (k_asm; done) | fail) (by first | (rfl; done) | fail) (by first | (assumption; done) | fail) (by first | (assumption; done) | fail) (by first | (assumption; done) | fail) (by first | (assumption; done) | fail) (by first | (assumption; done) | fail) (by first | (assumption; done) | fail) (by first | (show Around.depth _ + 1 + 10 < recursionLimit; omega; done) | fail) (by first | (show Around.units _ + 3 + 50 < cLine; omega; done) | fail) (by first | (assumption; done) | fail) (by first | (intro _ hqq9; cases hqq9; done) | fail) ?_; k_whole); intro k'q9 h'q9 tk'q9 F'q9 N'q9; (try k_sweep)) | (k_here; (with_reducible show wpAny _ _ (compareOp CmpOp.Lt (Value.ref _) (Value.ref _)) _ _ _); k_dflt (refine lt_line (by first | (k_asm; done) | fail) (by first | (k_asm; done) | fail) (by first | (assumption; done) | fail) (by first | (assumption; done) | fail) (by first | (show Around.depth _ + 1 + 6 < recursionLimit; omega; done) | fail) (by first | (show Around.units _ + 3 < cLine; omega; done) | fail) (by first | (assumption; done) | fail) (by first | (assumption; done) | fail) ?_; k_whole); intro h'q9 tk'q9 F'q9 N'q9; (try k_sweep)) | (walk1 <;> (try dsimp only)) | (dsimp only; first | (with_reducible (k_here; (with_reducible show wpAny _ _ (subscriptTail _ _ (Value.ref _) (Value.int 0 _)) _ _ _); k_dflt (refine item_at (i := 0) (by first | (k_asm; done) | fail) (by first | (k_mem; done) | fail) (by first | (decide; done) | fail) (by first | (exact refs_get (by assumption); done) | fail) ?_; k_whole))) | (with_reducible (k_here; (with_reducible show wpAny _ _ (subscriptTail _ _ (Value.ref _) (Value.int _ _)) _ _ _); k_dflt (refine item_at (by first | (k_asm; done) | fail) (by first | (k_mem; done) | fail) (by first | (omega; done) | fail) (by first | (exact refs_get (by first | assumption | omega); done) | fail) ?_; k_whole))) | (with_reducible (k_here; (with_reducible show wpAny _ _ (compareOp CmpOp.Lt (Value.ref _) (Value.ref _)) _ _ _); k_dflt (refine lt_line (by first | (k_asm; done) | fail) (by first | (k_asm; done) | fail) (by first | (assumption; done) | fail) (by first | (assumption; done) | fail) (by first | (show Around.depth _ + 1 + 6 < recursionLimit; omega; done) | fail) (by first | (show Around.units _ + 3 < cLine; omega; done) | fail) (by first | (assumption; done) | fail) (by first | (assumption; done) | fail) ?_; k_whole); intro h'q9 tk'q9 F'q9 N'q9; (try k_sweep))) | (with_reducible (k_here; (with_reducible show wpAny _ _ (call (Value.builtin "len") [Value.ref _]) _ _ _); k_dflt (refine len_refs (by first | (k_asm; done) | fail) (by first | (k_mem; done) | fail) (by first | (assumption; done) | fail) ?_; k_whole); intro k'q9 t'q9)) | (with_reducible (k_here; (with_reducible show wpAny _ _ (call (Value.ref 105) [Value.ref _, Value.int _ _, Value.int _ _]) _ _ _); k_dflt (refine sdG_line (by first | (k_asm; done) | fail) (by first | (k_asm; done) | fail) (by first | (rfl; done) | fail) (by first | (assumption; done) | fail) (by first | (assumption; done) | fail) (by first | (assumption; done) | fail) (by first | (assumption; done) | fail) (by first | (assumption; done) | fail) (by first | (assumption; done) | fail) (by first | (show Around.depth _ + 1 + 10 < recursionLimit; omega; done) | fail) (by first | (show Around.units _ + 3 + 50 < cLine; omega; done) | fail) (by first | (assumption; done) | fail) (by first | (intro _ hqq9; cases hqq9; done) | fail) ?_; k_whole); intro k'q9 h'q9 tk'q9 F'q9 N'q9; (try k_sweep))) | (with_reducible (k_here; (with_reducible show wpAny _ _ (compareOp CmpOp.Lt (Value.ref _) (Value.ref _)) _ _ _); k_dflt (refine lt_line (by first | (k_asm; done) | fail) (by first | (k_asm; done) | fail) (by first | (assumption; done) | fail) (by first | (assumption; done) | fail) (by first | (show Around.depth _ + 1 + 6 < recursionLimit; omega; done) | fail) (by first | (show Around.units _ + 3 < cLine; omega; done) | fail) (by first | (assumption; done) | fail) (by first | (assumption; done) | fail) ?_; k_whole); intro h'q9 tk'q9 F'q9 N'q9; (try k_sweep))) | (k_here; (with_reducible show wpAny _ _ (subscriptTail _ _ (Value.ref _) (Value.int 0 _)) _ _ _); k_dflt (refine item_at (i := 0) (by first | (k_asm; done) | fail) (by first | (k_mem; done) | fail) (by first | (decide; done) | fail) (by first | (exact refs_get (by assumption); done) | fail) ?_; k_whole)) | (k_here; (with_reducible show wpAny _ _ (subscriptTail _ _ (Value.ref _) (Value.int _ _)) _ _ _); k_dflt (refine item_at (by first | (k_asm; done) | fail) (by first | (k_mem; done) | fail) (by first | (omega; done) | fail) (by first | (exact refs_get (by first | assumption | omega); done) | fail) ?_; k_whole)) | (k_here; (with_reducible show wpAny _ _ (compareOp CmpOp.Lt (Value.ref _) (Value.ref _)) _ _ _); k_dflt (refine lt_line (by first | (k_asm; done) | fail) (by first | (k_asm; done) | fail) (by first | (assumption; done) | fail) (by first | (assumption; done) | fail) (by first | (show Around.depth _ + 1 + 6 < recursionLimit; omega; done) | fail) (by first | (show Around.units _ + 3 < cLine; omega; done) | fail) (by first | (assumption; done) | fail) (by first | (assumption; done) | fail) ?_; k_whole); intro h'q9 tk'q9 F'q9 N'q9; (try k_sweep)) | (k_here; (with_reducible show wpAny _ _ (call (Value.builtin "len") [Value.ref _]) _ _ _); k_dflt (refine len_refs (by first | (k_asm; done) | fail) (by first | (k_mem; done) | fail) (by first | (assumption; done) | fail) ?_; k_whole); intro k'q9 t'q9) | (k_here; (with_reducible show wpAny _ _ (call (Value.ref 105) [Value.ref _, Value.int _ _, Value.int _ _]) _ _ _); k_dflt (refine sdG_line (by first | (k_asm; done) | fail) (by first | (k_asm; done) | fail) (by first | (rfl; done) | fail) (by first | (assumption; done) | fail) (by first | (assumption; done) | fail) (by first | (assumption; done) | fail) (by first | (assumption; done) | fail) (by first | (assumption; done) | fail) (by first | (assumption; done) | fail) (by first | (show Around.depth _ + 1 + 10 < recursionLimit; omega; done) | fail) (by first | (show Around.units _ + 3 + 50 < cLine; omega; done) | fail) (by first | (assumption; done) | fail) (by first | (intro _ hqq9; cases hqq9; done) | fail) ?_; k_whole); intro k'q9 h'q9 tk'q9 F'q9 N'q9; (try k_sweep)) | (k_here; (with_reducible show wpAny _ _ (compareOp CmpOp.Lt (Value.ref _) (Value.ref _)) _ _ _); k_dflt (refine lt_line (by first | (k_asm; done) | fail) (by first | (k_asm; done) | fail) (by first | (assumption; done) | fail) (by first | (assumption; done) | fail) (by first | (show Around.depth _ + 1 + 6 < recursionLimit; omega; done) | fail) (by first | (show Around.units _ + 3 < cLine; omega; done) | fail) (by first | (assumption; done) | fail) (by first | (assumption; done) | fail) ?_; k_whole); intro h'q9 tk'q9 F'q9 N'q9; (try k_sweep)) | walk1) | (leave1; try dsimp only)))
        · refine' setItem_list (j := c) ?F ?N ?U ?hj ?hz ?_
          (case F => k_asm); (case N => k_asm); (case U => k_updF); (case hj => exact hcs); (case hz => exact hsz)
          intro h9 k9 F9 N9
          rw [refs_set] at N9
          repeat' ((fail_if_success (with_reducible show WhlRest _ _ _ _ _ _ _ _ _ _ _)); (first | (k_unfold; (try dsimp only)) | (k_end; wrow_close) | (with_reducible (k_here; (with_reducible show wpAny _ _ (subscriptTail _ _ (Value.ref _) (Value.int 0 _)) _ _ _); k_dflt (refine item_at (i := 0) (by first | (k_asm; done) | fail) (by first | (k_mem; done) | fail) (by first | (decide; done) | fail) (by first | (exact refs_get (by assumption); done) | fail) ?_; k_whole))) | (with_reducible (k_here; (with_reducible show wpAny _ _ (subscriptTail _ _ (Value.ref _) (Value.int _ _)) _ _ _); k_dflt (refine item_at (by first | (k_asm; done) | fail) (by first | (k_mem; done) | fail) (by first | (omega; done) | fail) (by first | (exact refs_get (by first | assumption | omega); done) | fail) ?_; k_whole))) | (with_reducible (k_here; (with_reducible show wpAny _ _ (compareOp CmpOp.Lt (Value.ref _) (Value.ref _)) _ _ _); k_dflt (refine lt_line (by first | (k_asm; done) | fail) (by first | (k_asm; done) | fail) (by first | (assumption; done) | fail) (by first | (assumption; done) | fail) (by first | (show Around.depth _ + 1 + 6 < recursionLimit; omega; done) | fail) (by first | (show Around.units _ + 3 < cLine; omega; done) | fail) (by first | (assumption; done) | fail) (by first | (assumption; done) | fail) ?_; k_whole); intro h'q9 tk'q9 F'q9 N'q9; (try k_sweep))) | (with_reducible (k_here; (with_reducible show wpAny _ _ (call (Value.builtin "len") [Value.ref _]) _ _ _); k_dflt (refine len_refs (by first | (k_asm; done) | fail) (by first | (k_mem; done) | fail) (by first | (assumption; done) | fail) ?_; k_whole); intro k'q9 t'q9)) | (with_reducible (k_here; (with_reducible show wpAny _ _ (call (Value.ref 105) [Value.ref _, Value.int _ _, Value.int _ _]) _ _ _); k_dflt (refine sdG_line (by first | (k_asm; done) | fail) (by first | (k_asm; done) | fail) (by first | (rfl; done) | fail) (by first | (assumption; done) | fail) (by first | (assumption; done) | fail) (by first | (assumption; done) | fail) (by first | (assumption; done) | fail) (by first | (assumption; done) | fail) (by first | (assumption; done) | fail) (by first | (show Around.depth _ + 1 + 10 < recursionLimit; omega; done) | fail) (by first | (show Around.units _ + 3 + 50 < cLine; omega; done) | fail) (by first | (assumption; done) | fail) (by first | (intro _ hqq9; cases hqq9; done) | fail) ?_; k_whole); intro k'q9 h'q9 tk'q9 F'q9 N'q9; (try k_sweep))) | (with_reducible (k_here; (with_reducible show wpAny _ _ (compareOp CmpOp.Lt (Value.ref _) (Value.ref _)) _ _ _); k_dflt (refine lt_line (by first | (k_asm; done) | fail) (by first | (k_asm; done) | fail) (by first | (assumption; done) | fail) (by first | (assumption; done) | fail) (by first | (show Around.depth _ + 1 + 6 < recursionLimit; omega; done) | fail) (by first | (show Around.units _ + 3 < cLine; omega; done) | fail) (by first | (assumption; done) | fail) (by first | (assumption; done) | fail) ?_; k_whole); intro h'q9 tk'q9 F'q9 N'q9; (try k_sweep))) | (k_here; (with_reducible show wpAny _ _ (subscriptTail _ _ (Value.ref _) (Value.int 0 _)) _ _ _); k_dflt (refine item_at (i := 0) (by first | (k_asm; done) | fail) (by first | (k_mem; done) | fail) (by first | (decide; done) | fail) (by first | (exact refs_get (by assumption); done) | fail) ?_; k_whole)) | (k_here; (with_reducible show wpAny _ _ (subscriptTail _ _ (Value.ref _) (Value.int _ _)) _ _ _); k_dflt (refine item_at (by first | (k_asm; done) | fail) (by first | (k_mem; done) | fail) (by first | (omega; done) | fail) (by first | (exact refs_get (by first | assumption | omega); done) | fail) ?_; k_whole)) | (k_here; (with_reducible show wpAny _ _ (compareOp CmpOp.Lt (Value.ref _) (Value.ref _)) _ _ _); k_dflt (refine lt_line (by first | (k_asm; done) | fail) (by first | (k_asm; done) | fail) (by first | (assumption; done) | fail) (by first | (assumption; done) | fail) (by first | (show Around.depth _ + 1 + 6 < recursionLimit; omega; done) | fail) (by first | (show Around.units _ + 3 < cLine; omega; done) | fail) (by first | (assumption; done) | fail) (by first | (assumption; done) | fail) ?_; k_whole); intro h'q9 tk'q9 F'q9 N'q9; (try k_sweep)) | (k_here; (with_reducible show wpAny _ _ (call (Value.builtin "len") [Value.ref _]) _ _ _); k_dflt (refine len_refs (by first | (k_asm; done) | fail) (by first | (k_mem; done) | fail) (by first | (assumption; done) | fail) ?_; k_whole); intro k'q9 t'q9) | (k_here; (with_reducible show wpAny _ _ (call (Value.ref 105) [Value.ref _, Value.int _ _, Value.int _ _]) _ _ _); k_dflt (refine sdG_line (by first | (k_asm; done) | fail) (by first | (k_asm; done) | fail) (by first | (rfl; done) | fail) (by first | (assumption; done) | fail) (by first | (assumption; done) | fail) (by first | (assumption; done) | fail) (by first | (assumption; done) | fail) (by first | (assumption; done) | fail) (by first | (assumption; done) | fail) (by first | (show Around.depth _ + 1 + 10 < recursionLimit; omega; done) | fail) (by first | (show Around.units _ + 3 + 50 < cLine; omega; done) | fail) (by first | (assumption; done) | fail) (by first | (intro _ hqq9; cases hqq9; done) | fail) ?_; k_whole); intro k'q9 h'q9 tk'q9 F'q9 N'q9; (try k_sweep)) | (k_here; (with_reducible show wpAny _ _ (compareOp CmpOp.Lt (Value.ref _) (Value.ref _)) _ _ _); k_dflt (refine lt_line (by first | (k_asm; done) | fail) (by first | (k_asm; done) | fail) (by first | (assumption; done) | fail) (by first | (assumption; done) | fail) (by first | (show Around.depth _ + 1 + 6 < recursionLimit; omega; done) | fail) (by first | (show Around.units _ + 3 < cLine; omega; done) | fail) (by first | (assumption; done) | fail) (by first | (assumption; done) | fail) ?_; k_whole); intro h'q9 tk'q9 F'q9 N'q9; (try k_sweep)) | (walk1 <;> (try dsimp only)) | (dsimp only; first | (with_reducible (k_here; (with_reducible show wpAny _ _ (subscriptTail _ _ (Value.ref _) (Value.int 0 _)) _ _ _); k_dflt (refine item_at (i := 0) (by first | (k_asm; done) | fail) (by first | (k_mem; done) | fail) (by first | (decide; done) | fail) (by first | (exact refs_get (by assumption); done) | fail) ?_; k_whole))) | (with_reducible (k_here; (with_reducible show wpAny _ _ (subscriptTail _ _ (Value.ref _) (Value.int _ _)) _ _ _); k_dflt (refine item_at (by first | (k_asm; done) | fail) (by first | (k_mem; done) | fail) (by first | (omega; done) | fail) (by first | (exact refs_get (by first | assumption | omega); done) | fail) ?_; k_whole))) | (with_reducible (k_here; (with_reducible show wpAny _ _ (compareOp CmpOp.Lt (Value.ref _) (Value.ref _)) _ _ _); k_dflt (refine lt_line (by first | (k_asm; done) | fail) (by first | (k_asm; done) | fail) (by first | (assumption; done) | fail) (by first | (assumption; done) | fail) (by first | (show Around.depth _ + 1 + 6 < recursionLimit; omega; done) | fail) (by first | (show Around.units _ + 3 < cLine; omega; done) | fail) (by first | (assumption; done) | fail) (by first | (assumption; done) | fail) ?_; k_whole); intro h'q9 tk'q9 F'q9 N'q9; (try k_sweep))) | (with_reducible (k_here; (with_reducible show wpAny _ _ (call (Value.builtin "len") [Value.ref _]) _ _ _); k_dflt (refine len_refs (by first | (k_asm; done) | fail) (by first | (k_mem; done) | fail) (by first | (assumption; done) | fail) ?_; k_whole); intro k'q9 t'q9)) | (with_reducible (k_here; (with_reducible show wpAny _ _ (call (Value.ref 105) [Value.ref _, Value.int _ _, Value.int _ _]) _ _ _); k_dflt (refine sdG_line (by first | (k_asm; done) | fail) (by first | (k_asm; done) | fail) (by first | (rfl; done) | fail) (by first | (assumption; done) | fail) (by first | (assumption; done) | fail) (by first | (assumption; done) | fail) (by first | (assumption; done) | fail) (by first | (assumption; done) | fail) (by first | (assumption; done) | fail) (by first | (show Around.depth _ + 1 + 10 < recursionLimit; omega; done) | fail) (by first | (show Around.units _ + 3 + 50 < cLine; omega; done) | fail) (by first | (assumption; done) | fail) (by first | (intro _ hqq9; cases hqq9; done) | fail) ?_; k_whole); intro k'q9 h'q9 tk'q9 F'q9 N'q9; (try k_sweep))) | (with_reducible (k_here; (with_reducible show wpAny _ _ (compareOp CmpOp.Lt (Value.ref _) (Value.ref _)) _ _ _); k_dflt (refine lt_line (by first | (k_asm; done) | fail) (by first | (k_asm; done) | fail) (by first | (assumption; done) | fail) (by first | (assumption; done) | fail) (by first | (show Around.depth _ + 1 + 6 < recursionLimit; omega; done) | fail) (by first | (show Around.units _ + 3 < cLine; omega; done) | fail) (by first | (assumption; done) | fail) (by first | (assumption; done) | fail) ?_; k_whole); intro h'q9 tk'q9 F'q9 N'q9; (try k_sweep))) | (k_here; (with_reducible show wpAny _ _ (subscriptTail _ _ (Value.ref _) (Value.int 0 _)) _ _ _); k_dflt (refine item_at (i := 0) (by first | (k_asm; done) | fail) (by first | (k_mem; done) | fail) (by first | (decide; done) | fail) (by first | (exact refs_get (by assumption); done) | fail) ?_; k_whole)) | (k_here; (with_reducible show wpAny _ _ (subscriptTail _ _ (Value.ref _) (Value.int _ _)) _ _ _); k_dflt (refine item_at (by first | (k_asm; done) | fail) (by first | (k_mem; done) | fail) (by first | (omega; done) | fail) (by first | (exact refs_get (by first | assumption | omega); done) | fail) ?_; k_whole)) | (k_here; (with_reducible show wpAny _ _ (compareOp CmpOp.Lt (Value.ref _) (Value.ref _)) _ _ _); k_dflt (refine lt_line (by first | (k_asm; done) | fail) (by first | (k_asm; done) | fail) (by first | (assumption; done) | fail) (by first | (assumption; done) | fail) (by first | (show Around.depth _ + 1 + 6 < recursionLimit; omega; done) | fail) (by first | (show Around.units _ + 3 < cLine; omega; done) | fail) (by first | (assumption; done) | fail) (by first | (assumption; done) | fail) ?_; k_whole); intro h'q9 tk'q9 F'q9 N'q9; (try k_sweep)) | (k_here; (with_reducible show wpAny _ _ (call (Value.builtin "len") [Value.ref _]) _ _ _); k_dflt (refine len_refs (by first | (k_asm; done) | fail) (by first | (k_mem; done) | fail) (by first | (assumption; done) | fail) ?_; k_whole); intro k'q9 t'q9) | (k_here; (with_reducible show wpAny _ _ (call (Value.ref 105) [Value.ref _, Value.int _ _, Value.int _ _]) _ _ _); k_dflt (refine sdG_line (by first | (k_asm; done) | fail) (by first | (k_asm; done) | fail) (by first | (rfl; done) | fail) (by first | (assumption; done) | fail) (by first | (assumption; done) | fail) (by first | (assumption; done) | fail) (by first | (assumption; done) | fail) (by first | (assumption; done) | fail) (by first | (assumption; done) | fail) (by first | (show Around.depth _ + 1 + 10 < recursionLimit; omega; done) | fail) (by first | (show Around.units _ + 3 + 50 < cLine; omega; done) | fail) (by first | (assumption; done) | fail) (by first | (intro _ hqq9; cases hqq9; done) | fail) ?_; k_whole); intro k'q9 h'q9 tk'q9 F'q9 N'q9; (try k_sweep)) | (k_here; (with_reducible show wpAny _ _ (compareOp CmpOp.Lt (Value.ref _) (Value.ref _)) _ _ _); k_dflt (refine lt_line (by first | (k_asm; done) | fail) (by first | (k_asm; done) | fail) (by first | (assumption; done) | fail) (by first | (assumption; done) | fail) (by first | (show Around.depth _ + 1 + 6 < recursionLimit; omega; done) | fail) (by first | (show Around.units _ + 3 < cLine; omega; done) | fail) (by first | (assumption; done) | fail) (by first | (assumption; done) | fail) ?_; k_whole); intro h'q9 tk'q9 F'q9 N'q9; (try k_sweep)) | walk1) | (leave1; try dsimp only)))
          rename Fr _ _ _ _ => F8
          rename News _ _ _ _ => N8
          obtain ⟨f', hf', hR'⟩ := upTo_one hlt hf hR (fun h => h.2 (by assumption))
          refine IH (2 * c + 1) _ (by omega) fun G hG => hG _ _ _ (M.set c (M.getD (2 * c + 1) (0, 0))) _ _ _ _ _ f' rfl F8 N8 (by rw [List.length_set]; exact hM) (by rw [List.length_set]; exact hlt) (by rw [List.length_set]; omega) hR' (fun y hy => (List.mem_or_eq_of_mem_set hy).elim (hKM y) fun e => e ▸ kL) (by omega) rfl rfl rfl rfl rfl rfl
        · refine' setItem_list (j := c) ?F ?N ?U ?hj ?hz ?_
          (case F => k_asm); (case N => k_asm); (case U => k_updF); (case hj => exact hcs); (case hz => exact hsz)
          intro h9 k9 F9 N9
          rw [refs_set] at N9
          repeat' ((fail_if_success (with_reducible show WhlRest _ _ _ _ _ _ _ _ _ _ _)); (first | (k_unfold; (try dsimp only)) | (k_end; wrow_close) | (with_reducible (k_here; (with_reducible show wpAny _ _ (subscriptTail _ _ (Value.ref _) (Value.int 0 _)) _ _ _); k_dflt (refine item_at (i := 0) (by first | (k_asm; done) | fail) (by first | (k_mem; done) | fail) (by first | (decide; done) | fail) (by first | (exact refs_get (by assumption); done) | fail) ?_; k_whole))) | (with_reducible (k_here; (with_reducible show wpAny _ _ (subscriptTail _ _ (Value.ref _) (Value.int _ _)) _ _ _); k_dflt (refine item_at (by first | (k_asm; done) | fail) (by first | (k_mem; done) | fail) (by first | (omega; done) | fail) (by first | (exact refs_get (by first | assumption | omega); done) | fail) ?_; k_whole))) | (with_reducible (k_here; (with_reducible show wpAny _ _ (compareOp CmpOp.Lt (Value.ref _) (Value.ref _)) _ _ _); k_dflt (refine lt_line (by first | (k_asm; done) | fail) (by first | (k_asm; done) | fail) (by first | (assumption; done) | fail) (by first | (assumption; done) | fail) (by first | (show Around.depth _ + 1 + 6 < recursionLimit; omega; done) | fail) (by first | (show Around.units _ + 3 < cLine; omega; done) | fail) (by first | (assumption; done) | fail) (by first | (assumption; done) | fail) ?_; k_whole); intro h'q9 tk'q9 F'q9 N'q9; (try k_sweep))) | (with_reducible (k_here; (with_reducible show wpAny _ _ (call (Value.builtin "len") [Value.ref _]) _ _ _); k_dflt (refine len_refs (by first | (k_asm; done) | fail) (by first | (k_mem; done) | fail) (by first | (assumption; done) | fail) ?_; k_whole); intro k'q9 t'q9)) | (with_reducible (k_here; (with_reducible show wpAny _ _ (call (Value.ref 105) [Value.ref _, Value.int _ _, Value.int _ _]) _ _ _); k_dflt (refine sdG_line (by first | (k_asm; done) | fail) (by first | (k_asm; done) | fail) (by first | (rfl; done) | fail) (by first | (assumption; done) | fail) (by first | (assumption; done) | fail) (by first | (assumption; done) | fail) (by first | (assumption; done) | fail) (by first | (assumption; done) | fail) (by first | (assumption; done) | fail) (by first | (show Around.depth _ + 1 + 10 < recursionLimit; omega; done) | fail) (by first | (show Around.units _ + 3 + 50 < cLine; omega; done) | fail) (by first | (assumption; done) | fail) (by first | (intro _ hqq9; cases hqq9; done) | fail) ?_; k_whole); intro k'q9 h'q9 tk'q9 F'q9 N'q9; (try k_sweep))) | (with_reducible (k_here; (with_reducible show wpAny _ _ (compareOp CmpOp.Lt (Value.ref _) (Value.ref _)) _ _ _); k_dflt (refine lt_line (by first | (k_asm; done) | fail) (by first | (k_asm; done) | fail) (by first | (assumption; done) | fail) (by first | (assumption; done) | fail) (by first | (show Around.depth _ + 1 + 6 < recursionLimit; omega; done) | fail) (by first | (show Around.units _ + 3 < cLine; omega; done) | fail) (by first | (assumption; done) | fail) (by first | (assumption; done) | fail) ?_; k_whole); intro h'q9 tk'q9 F'q9 N'q9; (try k_sweep))) | (k_here; (with_reducible show wpAny _ _ (subscriptTail _ _ (Value.ref _) (Value.int 0 _)) _ _ _); k_dflt (refine item_at (i := 0) (by first | (k_asm; done) | fail) (by first | (k_mem; done) | fail) (by first | (decide; done) | fail) (by first | (exact refs_get (by assumption); done) | fail) ?_; k_whole)) | (k_here; (with_reducible show wpAny _ _ (subscriptTail _ _ (Value.ref _) (Value.int _ _)) _ _ _); k_dflt (refine item_at (by first | (k_asm; done) | fail) (by first | (k_mem; done) | fail) (by first | (omega; done) | fail) (by first | (exact refs_get (by first | assumption | omega); done) | fail) ?_; k_whole)) | (k_here; (with_reducible show wpAny _ _ (compareOp CmpOp.Lt (Value.ref _) (Value.ref _)) _ _ _); k_dflt (refine lt_line (by first | (k_asm; done) | fail) (by first | (k_asm; done) | fail) (by first | (assumption; done) | fail) (by first | (assumption; done) | fail) (by first | (show Around.depth _ + 1 + 6 < recursionLimit; omega; done) | fail) (by first | (show Around.units _ + 3 < cLine; omega; done) | fail) (by first | (assumption; done) | fail) (by first | (assumption; done) | fail) ?_; k_whole); intro h'q9 tk'q9 F'q9 N'q9; (try k_sweep)) | (k_here; (with_reducible show wpAny _ _ (call (Value.builtin "len") [Value.ref _]) _ _ _); k_dflt (refine len_refs (by first | (k_asm; done) | fail) (by first | (k_mem; done) | fail) (by first | (assumption; done) | fail) ?_; k_whole); intro k'q9 t'q9) | (k_here; (with_reducible show wpAny _ _ (call (Value.ref 105) [Value.ref _, Value.int _ _, Value.int _ _]) _ _ _); k_dflt (refine sdG_line (by first | (k_asm; done) | fail) (by first | (k_asm; done) | fail) (by first | (rfl; done) | fail) (by first | (assumption; done) | fail) (by first | (assumption; done) | fail) (by first | (assumption; done) | fail) (by first | (assumption; done) | fail) (by first | (assumption; done) | fail) (by first | (assumption; done) | fail) (by first | (show Around.depth _ + 1 + 10 < recursionLimit; omega; done) | fail) (by first | (show Around.units _ + 3 + 50 < cLine; omega; done) | fail) (by first | (assumption; done) | fail) (by first | (intro _ hqq9; cases hqq9; done) | fail) ?_; k_whole); intro k'q9 h'q9 tk'q9 F'q9 N'q9; (try k_sweep)) | (k_here; (with_reducible show wpAny _ _ (compareOp CmpOp.Lt (Value.ref _) (Value.ref _)) _ _ _); k_dflt (refine lt_line (by first | (k_asm; done) | fail) (by first | (k_asm; done) | fail) (by first | (assumption; done) | fail) (by first | (assumption; done) | fail) (by first | (show Around.depth _ + 1 + 6 < recursionLimit; omega; done) | fail) (by first | (show Around.units _ + 3 < cLine; omega; done) | fail) (by first | (assumption; done) | fail) (by first | (assumption; done) | fail) ?_; k_whole); intro h'q9 tk'q9 F'q9 N'q9; (try k_sweep)) | (walk1 <;> (try dsimp only)) | (dsimp only; first | (with_reducible (k_here; (with_reducible show wpAny _ _ (subscriptTail _ _ (Value.ref _) (Value.int 0 _)) _ _ _); k_dflt (refine item_at (i := 0) (by first | (k_asm; done) | fail) (by first | (k_mem; done) | fail) (by first | (decide; done) | fail) (by first | (exact refs_get (by assumption); done) | fail) ?_; k_whole))) | (with_reducible (k_here; (with_reducible show wpAny _ _ (subscriptTail _ _ (Value.ref _) (Value.int _ _)) _ _ _); k_dflt (refine item_at (by first | (k_asm; done) | fail) (by first | (k_mem; done) | fail) (by first | (omega; done) | fail) (by first | (exact refs_get (by first | assumption | omega); done) | fail) ?_; k_whole))) | (with_reducible (k_here; (with_reducible show wpAny _ _ (compareOp CmpOp.Lt (Value.ref _) (Value.ref _)) _ _ _); k_dflt (refine lt_line (by first | (k_asm; done) | fail) (by first | (k_asm; done) | fail) (by first | (assumption; done) | fail) (by first | (assumption; done) | fail) (by first | (show Around.depth _ + 1 + 6 < recursionLimit; omega; done) | fail) (by first | (show Around.units _ + 3 < cLine; omega; done) | fail) (by first | (assumption; done) | fail) (by first | (assumption; done) | fail) ?_; k_whole); intro h'q9 tk'q9 F'q9 N'q9; (try k_sweep))) | (with_reducible (k_here; (with_reducible show wpAny _ _ (call (Value.builtin "len") [Value.ref _]) _ _ _); k_dflt (refine len_refs (by first | (k_asm; done) | fail) (by first | (k_mem; done) | fail) (by first | (assumption; done) | fail) ?_; k_whole); intro k'q9 t'q9)) | (with_reducible (k_here; (with_reducible show wpAny _ _ (call (Value.ref 105) [Value.ref _, Value.int _ _, Value.int _ _]) _ _ _); k_dflt (refine sdG_line (by first | (k_asm; done) | fail) (by first | (k_asm; done) | fail) (by first | (rfl; done) | fail) (by first | (assumption; done) | fail) (by first | (assumption; done) | fail) (by first | (assumption; done) | fail) (by first | (assumption; done) | fail) (by first | (assumption; done) | fail) (by first | (assumption; done) | fail) (by first | (show Around.depth _ + 1 + 10 < recursionLimit; omega; done) | fail) (by first | (show Around.units _ + 3 + 50 < cLine; omega; done) | fail) (by first | (assumption; done) | fail) (by first | (intro _ hqq9; cases hqq9; done) | fail) ?_; k_whole); intro k'q9 h'q9 tk'q9 F'q9 N'q9; (try k_sweep))) | (with_reducible (k_here; (with_reducible show wpAny _ _ (compareOp CmpOp.Lt (Value.ref _) (Value.ref _)) _ _ _); k_dflt (refine lt_line (by first | (k_asm; done) | fail) (by first | (k_asm; done) | fail) (by first | (assumption; done) | fail) (by first | (assumption; done) | fail) (by first | (show Around.depth _ + 1 + 6 < recursionLimit; omega; done) | fail) (by first | (show Around.units _ + 3 < cLine; omega; done) | fail) (by first | (assumption; done) | fail) (by first | (assumption; done) | fail) ?_; k_whole); intro h'q9 tk'q9 F'q9 N'q9; (try k_sweep))) | (k_here; (with_reducible show wpAny _ _ (subscriptTail _ _ (Value.ref _) (Value.int 0 _)) _ _ _); k_dflt (refine item_at (i := 0) (by first | (k_asm; done) | fail) (by first | (k_mem; done) | fail) (by first | (decide; done) | fail) (by first | (exact refs_get (by assumption); done) | fail) ?_; k_whole)) | (k_here; (with_reducible show wpAny _ _ (subscriptTail _ _ (Value.ref _) (Value.int _ _)) _ _ _); k_dflt (refine item_at (by first | (k_asm; done) | fail) (by first | (k_mem; done) | fail) (by first | (omega; done) | fail) (by first | (exact refs_get (by first | assumption | omega); done) | fail) ?_; k_whole)) | (k_here; (with_reducible show wpAny _ _ (compareOp CmpOp.Lt (Value.ref _) (Value.ref _)) _ _ _); k_dflt (refine lt_line (by first | (k_asm; done) | fail) (by first | (k_asm; done) | fail) (by first | (assumption; done) | fail) (by first | (assumption; done) | fail) (by first | (show Around.depth _ + 1 + 6 < recursionLimit; omega; done) | fail) (by first | (show Around.units _ + 3 < cLine; omega; done) | fail) (by first | (assumption; done) | fail) (by first | (assumption; done) | fail) ?_; k_whole); intro h'q9 tk'q9 F'q9 N'q9; (try k_sweep)) | (k_here; (with_reducible show wpAny _ _ (call (Value.builtin "len") [Value.ref _]) _ _ _); k_dflt (refine len_refs (by first | (k_asm; done) | fail) (by first | (k_mem; done) | fail) (by first | (assumption; done) | fail) ?_; k_whole); intro k'q9 t'q9) | (k_here; (with_reducible show wpAny _ _ (call (Value.ref 105) [Value.ref _, Value.int _ _, Value.int _ _]) _ _ _); k_dflt (refine sdG_line (by first | (k_asm; done) | fail) (by first | (k_asm; done) | fail) (by first | (rfl; done) | fail) (by first | (assumption; done) | fail) (by first | (assumption; done) | fail) (by first | (assumption; done) | fail) (by first | (assumption; done) | fail) (by first | (assumption; done) | fail) (by first | (assumption; done) | fail) (by first | (show Around.depth _ + 1 + 10 < recursionLimit; omega; done) | fail) (by first | (show Around.units _ + 3 + 50 < cLine; omega; done) | fail) (by first | (assumption; done) | fail) (by first | (intro _ hqq9; cases hqq9; done) | fail) ?_; k_whole); intro k'q9 h'q9 tk'q9 F'q9 N'q9; (try k_sweep)) | (k_here; (with_reducible show wpAny _ _ (compareOp CmpOp.Lt (Value.ref _) (Value.ref _)) _ _ _); k_dflt (refine lt_line (by first | (k_asm; done) | fail) (by first | (k_asm; done) | fail) (by first | (assumption; done) | fail) (by first | (assumption; done) | fail) (by first | (show Around.depth _ + 1 + 6 < recursionLimit; omega; done) | fail) (by first | (show Around.units _ + 3 < cLine; omega; done) | fail) (by first | (assumption; done) | fail) (by first | (assumption; done) | fail) ?_; k_whole); intro h'q9 tk'q9 F'q9 N'q9; (try k_sweep)) | walk1) | (leave1; try dsimp only)))
          rename Fr _ _ _ _ => F8
          rename News _ _ _ _ => N8
          obtain ⟨f', hf', hR'⟩ := upTo_two hlt hf hR hr2 (by assumption)
          refine IH (2 * c + 2) _ (by omega) fun G hG => hG _ _ _ (M.set c (M.getD (2 * c + 2) (0, 0))) _ _ _ _ _ f' rfl F8 N8 (by rw [List.length_set]; exact hM) (by rw [List.length_set]; exact hr2) (by rw [List.length_set]; omega) hR' (fun y hy => (List.mem_or_eq_of_mem_set hy).elim (hKM y) fun e => e ▸ kR) (by omega) rfl rfl rfl rfl rfl rfl
      · repeat' ((fail_if_success (with_reducible show WhlRest _ _ _ _ _ _ _ _ _ _ _)); (first | (k_unfold; (try dsimp only)) | (k_end; wrow_close) | (with_reducible (k_here; (with_reducible show wpAny _ _ (subscriptTail _ _ (Value.ref _) (Value.int 0 _)) _ _ _); k_dflt (refine item_at (i := 0) (by first | (k_asm; done) | fail) (by first | (k_mem; done) | fail) (by first | (decide; done) | fail) (by first | (exact refs_get (by assumption); done) | fail) ?_; k_whole))) | (with_reducible (k_here; (with_reducible show wpAny _ _ (subscriptTail _ _ (Value.ref _) (Value.int _ _)) _ _ _); k_dflt (refine item_at (by first | (k_asm; done) | fail) (by first | (k_mem; done) | fail) (by first | (omega; done) | fail) (by first | (exact refs_get (by first | assumption | omega); done) | fail) ?_; k_whole))) | (with_reducible (k_here; (with_reducible show wpAny _ _ (compareOp CmpOp.Lt (Value.ref _) (Value.ref _)) _ _ _); k_dflt (refine lt_line (by first | (k_asm; done) | fail) (by first | (k_asm; done) | fail) (by first | (assumption; done) | fail) (by first | (assumption; done) | fail) (by first | (show Around.depth _ + 1 + 6 < recursionLimit; omega; done) | fail) (by first | (show Around.units _ + 3 < cLine; omega; done) | fail) (by first | (assumption; done) | fail) (by first | (assumption; done) | fail) ?_; k_whole); intro h'q9 tk'q9 F'q9 N'q9; (try k_sweep))) | (with_reducible (k_here; (with_reducible show wpAny _ _ (call (Value.builtin "len") [Value.ref _]) _ _ _); k_dflt (refine len_refs (by first | (k_asm; done) | fail) (by first | (k_mem; done) | fail) (by first | (assumption; done) | fail) ?_; k_whole); intro k'q9 t'q9)) | (with_reducible (k_here; (with_reducible show wpAny _ _ (call (Value.ref 105) [Value.ref _, Value.int _ _, Value.int _ _]) _ _ _); k_dflt (refine sdG_line (by first | (k_asm; done) | fail) (by first | (k_asm; done) | fail) (by first | (rfl; done) | fail) (by first | (assumption; done) | fail) (by first | (assumption; done) | fail) (by first | (assumption; done) | fail) (by first | (assumption; done) | fail) (by first | (assumption; done) | fail) (by first | (assumption; done) | fail) (by first | (show Around.depth _ + 1 + 10 < recursionLimit; omega; done) | fail) (by first | (show Around.units _ + 3 + 50 < cLine; omega; done) | fail) (by first | (assumption; done) | fail) (by first | (intro _ hqq9; cases hqq9; done) | fail) ?_; k_whole); intro k'q9 h'q9 tk'q9 F'q9 N'q9; (try k_sweep))) | (with_reducible (k_here; (with_reducible show wpAny _ _ (compareOp CmpOp.Lt (Value.ref _) (Value.ref _)) _ _ _); k_dflt (refine lt_line (by first | (k_asm; done) | fail) (by first | (k_asm; done) | fail) (by first | (assumption; done) | fail) (by first | (assumption; done) | fail) (by first | (show Around.depth _ + 1 + 6 < recursionLimit; omega; done) | fail) (by first | (show Around.units _ + 3 < cLine; omega; done) | fail) (by first | (assumption; done) | fail) (by first | (assumption; done) | fail) ?_; k_whole); intro h'q9 tk'q9 F'q9 N'q9; (try k_sweep))) | (k_here; (with_reducible show wpAny _ _ (subscriptTail _ _ (Value.ref _) (Value.int 0 _)) _ _ _); k_dflt (refine item_at (i := 0) (by first | (k_asm; done) | fail) (by first | (k_mem; done) | fail) (by first | (decide; done) | fail) (by first | (exact refs_get (by assumption); done) | fail) ?_; k_whole)) | (k_here; (with_reducible show wpAny _ _ (subscriptTail _ _ (Value.ref _) (Value.int _ _)) _ _ _); k_dflt (refine item_at (by first | (k_asm; done) | fail) (by first | (k_mem; done) | fail) (by first | (omega; done) | fail) (by first | (exact refs_get (by first | assumption | omega); done) | fail) ?_; k_whole)) | (k_here; (with_reducible show wpAny _ _ (compareOp CmpOp.Lt (Value.ref _) (Value.ref _)) _ _ _); k_dflt (refine lt_line (by first | (k_asm; done) | fail) (by first | (k_asm; done) | fail) (by first | (assumption; done) | fail) (by first | (assumption; done) | fail) (by first | (show Around.depth _ + 1 + 6 < recursionLimit; omega; done) | fail) (by first | (show Around.units _ + 3 < cLine; omega; done) | fail) (by first | (assumption; done) | fail) (by first | (assumption; done) | fail) ?_; k_whole); intro h'q9 tk'q9 F'q9 N'q9; (try k_sweep)) | (k_here; (with_reducible show wpAny _ _ (call (Value.builtin "len") [Value.ref _]) _ _ _); k_dflt (refine len_refs (by first | (k_asm; done) | fail) (by first | (k_mem; done) | fail) (by first | (assumption; done) | fail) ?_; k_whole); intro k'q9 t'q9) | (k_here; (with_reducible show wpAny _ _ (call (Value.ref 105) [Value.ref _, Value.int _ _, Value.int _ _]) _ _ _); k_dflt (refine sdG_line (by first | (k_asm; done) | fail) (by first | (k_asm; done) | fail) (by first | (rfl; done) | fail) (by first | (assumption; done) | fail) (by first | (assumption; done) | fail) (by first | (assumption; done) | fail) (by first | (assumption; done) | fail) (by first | (assumption; done) | fail) (by first | (assumption; done) | fail) (by first | (show Around.depth _ + 1 + 10 < recursionLimit; omega; done) | fail) (by first | (show Around.units _ + 3 + 50 < cLine; omega; done) | fail) (by first | (assumption; done) | fail) (by first | (intro _ hqq9; cases hqq9; done) | fail) ?_; k_whole); intro k'q9 h'q9 tk'q9 F'q9 N'q9; (try k_sweep)) | (k_here; (with_reducible show wpAny _ _ (compareOp CmpOp.Lt (Value.ref _) (Value.ref _)) _ _ _); k_dflt (refine lt_line (by first | (k_asm; done) | fail) (by first | (k_asm; done) | fail) (by first | (assumption; done) | fail) (by first | (assumption; done) | fail) (by first | (show Around.depth _ + 1 + 6 < recursionLimit; omega; done) | fail) (by first | (show Around.units _ + 3 < cLine; omega; done) | fail) (by first | (assumption; done) | fail) (by first | (assumption; done) | fail) ?_; k_whole); intro h'q9 tk'q9 F'q9 N'q9; (try k_sweep)) | (walk1 <;> (try dsimp only)) | (dsimp only; first | (with_reducible (k_here; (with_reducible show wpAny _ _ (subscriptTail _ _ (Value.ref _) (Value.int 0 _)) _ _ _); k_dflt (refine item_at (i := 0) (by first | (k_asm; done) | fail) (by first | (k_mem; done) | fail) (by first | (decide; done) | fail) (by first | (exact refs_get (by assumption); done) | fail) ?_; k_whole))) | (with_reducible (k_here; (with_reducible show wpAny _ _ (subscriptTail _ _ (Value.ref _) (Value.int _ _)) _ _ _); k_dflt (refine item_at (by first | (k_asm; done) | fail) (by first | (k_mem; done) | fail) (by first | (omega; done) | fail) (by first | (exact refs_get (by first | assumption | omega); done) | fail) ?_; k_whole))) | (with_reducible (k_here; (with_reducible show wpAny _ _ (compareOp CmpOp.Lt (Value.ref _) (Value.ref _)) _ _ _); k_dflt (refine lt_line (by first | (k_asm; done) | fail) (by first | (k_asm; done) | fail) (by first | (assumption; done) | fail) (by first | (assumption; done) | fail) (by first | (show Around.depth _ + 1 + 6 < recursionLimit; omega; done) | fail) (by first | (show Around.units _ + 3 < cLine; omega; done) | fail) (by first | (assumption; done) | fail) (by first | (assumption; done) | fail) ?_; k_whole); intro h'q9 tk'q9 F'q9 N'q9; (try k_sweep))) | (with_reducible (k_here; (with_reducible show wpAny _ _ (call (Value.builtin "len") [Value.ref _]) _ _ _); k_dflt (refine len_refs (by first | (k_asm; done) | fail) (by first | (k_mem; done) | fail) (by first | (assumption; done) | fail) ?_; k_whole); intro k'q9 t'q9)) | (with_reducible (k_here; (with_reducible show wpAny _ _ (call (Value.ref 105) [Value.ref _, Value.int _ _, Value.int _ _]) _ _ _); k_dflt (refine sdG_line (by first | (k_asm; done) | fail) (by first | (k_asm; done) | fail) (by first | (rfl; done) | fail) (by first | (assumption; done) | fail) (by first | (assumption; done) | fail) (by first | (assumption; done) | fail) (by first | (assumption; done) | fail) (by first | (assumption; done) | fail) (by first | (assumption; done) | fail) (by first | (show Around.depth _ + 1 + 10 < recursionLimit; omega; done) | fail) (by first | (show Around.units _ + 3 + 50 < cLine; omega; done) | fail) (by first | (assumption; done) | fail) (by first | (intro _ hqq9; cases hqq9; done) | fail) ?_; k_whole); intro k'q9 h'q9 tk'q9 F'q9 N'q9; (try k_sweep))) | (with_reducible (k_here; (with_reducible show wpAny _ _ (compareOp CmpOp.Lt (Value.ref _) (Value.ref _)) _ _ _); k_dflt (refine lt_line (by first | (k_asm; done) | fail) (by first | (k_asm; done) | fail) (by first | (assumption; done) | fail) (by first | (assumption; done) | fail) (by first | (show Around.depth _ + 1 + 6 < recursionLimit; omega; done) | fail) (by first | (show Around.units _ + 3 < cLine; omega; done) | fail) (by first | (assumption; done) | fail) (by first | (assumption; done) | fail) ?_; k_whole); intro h'q9 tk'q9 F'q9 N'q9; (try k_sweep))) | (k_here; (with_reducible show wpAny _ _ (subscriptTail _ _ (Value.ref _) (Value.int 0 _)) _ _ _); k_dflt (refine item_at (i := 0) (by first | (k_asm; done) | fail) (by first | (k_mem; done) | fail) (by first | (decide; done) | fail) (by first | (exact refs_get (by assumption); done) | fail) ?_; k_whole)) | (k_here; (with_reducible show wpAny _ _ (subscriptTail _ _ (Value.ref _) (Value.int _ _)) _ _ _); k_dflt (refine item_at (by first | (k_asm; done) | fail) (by first | (k_mem; done) | fail) (by first | (omega; done) | fail) (by first | (exact refs_get (by first | assumption | omega); done) | fail) ?_; k_whole)) | (k_here; (with_reducible show wpAny _ _ (compareOp CmpOp.Lt (Value.ref _) (Value.ref _)) _ _ _); k_dflt (refine lt_line (by first | (k_asm; done) | fail) (by first | (k_asm; done) | fail) (by first | (assumption; done) | fail) (by first | (assumption; done) | fail) (by first | (show Around.depth _ + 1 + 6 < recursionLimit; omega; done) | fail) (by first | (show Around.units _ + 3 < cLine; omega; done) | fail) (by first | (assumption; done) | fail) (by first | (assumption; done) | fail) ?_; k_whole); intro h'q9 tk'q9 F'q9 N'q9; (try k_sweep)) | (k_here; (with_reducible show wpAny _ _ (call (Value.builtin "len") [Value.ref _]) _ _ _); k_dflt (refine len_refs (by first | (k_asm; done) | fail) (by first | (k_mem; done) | fail) (by first | (assumption; done) | fail) ?_; k_whole); intro k'q9 t'q9) | (k_here; (with_reducible show wpAny _ _ (call (Value.ref 105) [Value.ref _, Value.int _ _, Value.int _ _]) _ _ _); k_dflt (refine sdG_line (by first | (k_asm; done) | fail) (by first | (k_asm; done) | fail) (by first | (rfl; done) | fail) (by first | (assumption; done) | fail) (by first | (assumption; done) | fail) (by first | (assumption; done) | fail) (by first | (assumption; done) | fail) (by first | (assumption; done) | fail) (by first | (assumption; done) | fail) (by first | (show Around.depth _ + 1 + 10 < recursionLimit; omega; done) | fail) (by first | (show Around.units _ + 3 + 50 < cLine; omega; done) | fail) (by first | (assumption; done) | fail) (by first | (intro _ hqq9; cases hqq9; done) | fail) ?_; k_whole); intro k'q9 h'q9 tk'q9 F'q9 N'q9; (try k_sweep)) | (k_here; (with_reducible show wpAny _ _ (compareOp CmpOp.Lt (Value.ref _) (Value.ref _)) _ _ _); k_dflt (refine lt_line (by first | (k_asm; done) | fail) (by first | (k_asm; done) | fail) (by first | (assumption; done) | fail) (by first | (assumption; done) | fail) (by first | (show Around.depth _ + 1 + 6 < recursionLimit; omega; done) | fail) (by first | (show Around.units _ + 3 < cLine; omega; done) | fail) (by first | (assumption; done) | fail) (by first | (assumption; done) | fail) ?_; k_whole); intro h'q9 tk'q9 F'q9 N'q9; (try k_sweep)) | walk1) | (leave1; try dsimp only)))
        · refine' setItem_list (j := c) ?F ?N ?U ?hj ?hz ?_
          (case F => k_asm); (case N => k_asm); (case U => k_updF); (case hj => exact hcs); (case hz => exact hsz)
          intro h9 k9 F9 N9
          rw [refs_set] at N9
          repeat' ((fail_if_success (with_reducible show WhlRest _ _ _ _ _ _ _ _ _ _ _)); (first | (k_unfold; (try dsimp only)) | (k_end; wrow_close) | (with_reducible (k_here; (with_reducible show wpAny _ _ (subscriptTail _ _ (Value.ref _) (Value.int 0 _)) _ _ _); k_dflt (refine item_at (i := 0) (by first | (k_asm; done) | fail) (by first | (k_mem; done) | fail) (by first | (decide; done) | fail) (by first | (exact refs_get (by assumption); done) | fail) ?_; k_whole))) | (with_reducible (k_here; (with_reducible show wpAny _ _ (subscriptTail _ _ (Value.ref _) (Value.int _ _)) _ _ _); k_dflt (refine item_at (by first | (k_asm; done) | fail) (by first | (k_mem; done) | fail) (by first | (omega; done) | fail) (by first | (exact refs_get (by first | assumption | omega); done) | fail) ?_; k_whole))) | (with_reducible (k_here; (with_reducible show wpAny _ _ (compareOp CmpOp.Lt (Value.ref _) (Value.ref _)) _ _ _); k_dflt (refine lt_line (by first | (k_asm; done) | fail) (by first | (k_asm; done) | fail) (by first | (assumption; done) | fail) (by first | (assumption; done) | fail) (by first | (show Around.depth _ + 1 + 6 < recursionLimit; omega; done) | fail) (by first | (show Around.units _ + 3 < cLine; omega; done) | fail) (by first | (assumption; done) | fail) (by first | (assumption; done) | fail) ?_; k_whole); intro h'q9 tk'q9 F'q9 N'q9; (try k_sweep))) | (with_reducible (k_here; (with_reducible show wpAny _ _ (call (Value.builtin "len") [Value.ref _]) _ _ _); k_dflt (refine len_refs (by first | (k_asm; done) | fail) (by first | (k_mem; done) | fail) (by first | (assumption; done) | fail) ?_; k_whole); intro k'q9 t'q9)) | (with_reducible (k_here; (with_reducible show wpAny _ _ (call (Value.ref 105) [Value.ref _, Value.int _ _, Value.int _ _]) _ _ _); k_dflt (refine sdG_line (by first | (k_asm; done) | fail) (by first | (k_asm; done) | fail) (by first | (rfl; done) | fail) (by first | (assumption; done) | fail) (by first | (assumption; done) | fail) (by first | (assumption; done) | fail) (by first | (assumption; done) | fail) (by first | (assumption; done) | fail) (by first | (assumption; done) | fail) (by first | (show Around.depth _ + 1 + 10 < recursionLimit; omega; done) | fail) (by first | (show Around.units _ + 3 + 50 < cLine; omega; done) | fail) (by first | (assumption; done) | fail) (by first | (intro _ hqq9; cases hqq9; done) | fail) ?_; k_whole); intro k'q9 h'q9 tk'q9 F'q9 N'q9; (try k_sweep))) | (with_reducible (k_here; (with_reducible show wpAny _ _ (compareOp CmpOp.Lt (Value.ref _) (Value.ref _)) _ _ _); k_dflt (refine lt_line (by first | (k_asm; done) | fail) (by first | (k_asm; done) | fail) (by first | (assumption; done) | fail) (by first | (assumption; done) | fail) (by first | (show Around.depth _ + 1 + 6 < recursionLimit; omega; done) | fail) (by first | (show Around.units _ + 3 < cLine; omega; done) | fail) (by first | (assumption; done) | fail) (by first | (assumption; done) | fail) ?_; k_whole); intro h'q9 tk'q9 F'q9 N'q9; (try k_sweep))) | (k_here; (with_reducible show wpAny _ _ (subscriptTail _ _ (Value.ref _) (Value.int 0 _)) _ _ _); k_dflt (refine item_at (i := 0) (by first | (k_asm; done) | fail) (by first | (k_mem; done) | fail) (by first | (decide; done) | fail) (by first | (exact refs_get (by assumption); done) | fail) ?_; k_whole)) | (k_here; (with_reducible show wpAny _ _ (subscriptTail _ _ (Value.ref _) (Value.int _ _)) _ _ _); k_dflt (refine item_at (by first | (k_asm; done) | fail) (by first | (k_mem; done) | fail) (by first | (omega; done) | fail) (by first | (exact refs_get (by first | assumption | omega); done) | fail) ?_; k_whole)) | (k_here; (with_reducible show wpAny _ _ (compareOp CmpOp.Lt (Value.ref _) (Value.ref _)) _ _ _); k_dflt (refine lt_line (by first | (k_asm; done) | fail) (by first | (k_asm; done) | fail) (by first | (assumption; done) | fail) (by first | (assumption; done) | fail) (by first | (show Around.depth _ + 1 + 6 < recursionLimit; omega; done) | fail) (by first | (show Around.units _ + 3 < cLine; omega; done) | fail) (by first | (assumption; done) | fail) (by first | (assumption; done) | fail) ?_; k_whole); intro h'q9 tk'q9 F'q9 N'q9; (try k_sweep)) | (k_here; (with_reducible show wpAny _ _ (call (Value.builtin "len") [Value.ref _]) _ _ _); k_dflt (refine len_refs (by first | (k_asm; done) | fail) (by first | (k_mem; done) | fail) (by first | (assumption; done) | fail) ?_; k_whole); intro k'q9 t'q9) | (k_here; (with_reducible show wpAny _ _ (call (Value.ref 105) [Value.ref _, Value.int _ _, Value.int _ _]) _ _ _); k_dflt (refine sdG_line (by first | (k_asm; done) | fail) (by first | (k_asm; done) | fail) (by first | (rfl; done) | fail) (by first | (assumption; done) | fail) (by first | (assumption; done) | fail) (by first | (assumption; done) | fail) (by first | (assumption; done) | fail) (by first | (assumption; done) | fail) (by first | (assumption; done) | fail) (by first | (show Around.depth _ + 1 + 10 < recursionLimit; omega; done) | fail) (by first | (show Around.units _ + 3 + 50 < cLine; omega; done) | fail) (by first | (assumption; done) | fail) (by first | (intro _ hqq9; cases hqq9; done) | fail) ?_; k_whole); intro k'q9 h'q9 tk'q9 F'q9 N'q9; (try k_sweep)) | (k_here; (with_reducible show wpAny _ _ (compareOp CmpOp.Lt (Value.ref _) (Value.ref _)) _ _ _); k_dflt (refine lt_line (by first | (k_asm; done) | fail) (by first | (k_asm; done) | fail) (by first | (assumption; done) | fail) (by first | (assumption; done) | fail) (by first | (show Around.depth _ + 1 + 6 < recursionLimit; omega; done) | fail) (by first | (show Around.units _ + 3 < cLine; omega; done) | fail) (by first | (assumption; done) | fail) (by first | (assumption; done) | fail) ?_; k_whole); intro h'q9 tk'q9 F'q9 N'q9; (try k_sweep)) | (walk1 <;> (try dsimp only)) | (dsimp only; first | (with_reducible (k_here; (with_reducible show wpAny _ _ (subscriptTail _ _ (Value.ref _) (Value.int 0 _)) _ _ _); k_dflt (refine item_at (i := 0) (by first | (k_asm; done) | fail) (by first | (k_mem; done) | fail) (by first | (decide; done) | fail) (by first | (exact refs_get (by assumption); done) | fail) ?_; k_whole))) | (with_reducible (k_here; (with_reducible show wpAny _ _ (subscriptTail _ _ (Value.ref _) (Value.int _ _)) _ _ _); k_dflt (refine item_at (by first | (k_asm; done) | fail) (by first | (k_mem; done) | fail) (by first | (omega; done) | fail) (by first | (exact refs_get (by first | assumption | omega); done) | fail) ?_; k_whole))) | (with_reducible (k_here; (with_reducible show wpAny _ _ (compareOp CmpOp.Lt (Value.ref _) (Value.ref _)) _ _ _); k_dflt (refine lt_line (by first | (k_asm; done) | fail) (by first | (k_asm; done) | fail) (by first | (assumption; done) | fail) (by first | (assumption; done) | fail) (by first | (show Around.depth _ + 1 + 6 < recursionLimit; omega; done) | fail) (by first | (show Around.units _ + 3 < cLine; omega; done) | fail) (by first | (assumption; done) | fail) (by first | (assumption; done) | fail) ?_; k_whole); intro h'q9 tk'q9 F'q9 N'q9; (try k_sweep))) | (with_reducible (k_here; (with_reducible show wpAny _ _ (call (Value.builtin "len") [Value.ref _]) _ _ _); k_dflt (refine len_refs (by first | (k_asm; done) | fail) (by first | (k_mem; done) | fail) (by first | (assumption; done) | fail) ?_; k_whole); intro k'q9 t'q9)) | (with_reducible (k_here; (with_reducible show wpAny _ _ (call (Value.ref 105) [Value.ref _, Value.int _ _, Value.int _ _]) _ _ _); k_dflt (refine sdG_line (by first | (k_asm; done) | fail) (by first | (k_asm; done) | fail) (by first | (rfl; done) | fail) (by first | (assumption; done) | fail) (by first | (assumption; done) | fail) (by first | (assumption; done) | fail) (by first | (assumption; done) | fail) (by first | (assumption; done) | fail) (by first | (assumption; done) | fail) (by first | (show Around.depth _ + 1 + 10 < recursionLimit; omega; done) | fail) (by first | (show Around.units _ + 3 + 50 < cLine; omega; done) | fail) (by first | (assumption; done) | fail) (by first | (intro _ hqq9; cases hqq9; done) | fail) ?_; k_whole); intro k'q9 h'q9 tk'q9 F'q9 N'q9; (try k_sweep))) | (with_reducible (k_here; (with_reducible show wpAny _ _ (compareOp CmpOp.Lt (Value.ref _) (Value.ref _)) _ _ _); k_dflt (refine lt_line (by first | (k_asm; done) | fail) (by first | (k_asm; done) | fail) (by first | (assumption; done) | fail) (by first | (assumption; done) | fail) (by first | (show Around.depth _ + 1 + 6 < recursionLimit; omega; done) | fail) (by first | (show Around.units _ + 3 < cLine; omega; done) | fail) (by first | (assumption; done) | fail) (by first | (assumption; done) | fail) ?_; k_whole); intro h'q9 tk'q9 F'q9 N'q9; (try k_sweep))) | (k_here; (with_reducible show wpAny _ _ (subscriptTail _ _ (Value.ref _) (Value.int 0 _)) _ _ _); k_dflt (refine item_at (i := 0) (by first | (k_asm; done) | fail) (by first | (k_mem; done) | fail) (by first | (decide; done) | fail) (by first | (exact refs_get (by assumption); done) | fail) ?_; k_whole)) | (k_here; (with_reducible show wpAny _ _ (subscriptTail _ _ (Value.ref _) (Value.int _ _)) _ _ _); k_dflt (refine item_at (by first | (k_asm; done) | fail) (by first | (k_mem; done) | fail) (by first | (omega; done) | fail) (by first | (exact refs_get (by first | assumption | omega); done) | fail) ?_; k_whole)) | (k_here; (with_reducible show wpAny _ _ (compareOp CmpOp.Lt (Value.ref _) (Value.ref _)) _ _ _); k_dflt (refine lt_line (by first | (k_asm; done) | fail) (by first | (k_asm; done) | fail) (by first | (assumption; done) | fail) (by first | (assumption; done) | fail) (by first | (show Around.depth _ + 1 + 6 < recursionLimit; omega; done) | fail) (by first | (show Around.units _ + 3 < cLine; omega; done) | fail) (by first | (assumption; done) | fail) (by first | (assumption; done) | fail) ?_; k_whole); intro h'q9 tk'q9 F'q9 N'q9; (try k_sweep)) | (k_here; (with_reducible show wpAny _ _ (call (Value.builtin "len") [Value.ref _]) _ _ _); k_dflt (refine len_refs (by first | (k_asm; done) | fail) (by first | (k_mem; done) | fail) (by first | (assumption; done) | fail) ?_; k_whole); intro k'q9 t'q9) | (k_here; (with_reducible show wpAny _ _ (call (Value.ref 105) [Value.ref _, Value.int _ _, Value.int _ _]) _ _ _); k_dflt (refine sdG_line (by first | (k_asm; done) | fail) (by first | (k_asm; done) | fail) (by first | (rfl; done) | fail) (by first | (assumption; done) | fail) (by first | (assumption; done) | fail) (by first | (assumption; done) | fail) (by first | (assumption; done) | fail) (by first | (assumption; done) | fail) (by first | (assumption; done) | fail) (by first | (show Around.depth _ + 1 + 10 < recursionLimit; omega; done) | fail) (by first | (show Around.units _ + 3 + 50 < cLine; omega; done) | fail) (by first | (assumption; done) | fail) (by first | (intro _ hqq9; cases hqq9; done) | fail) ?_; k_whole); intro k'q9 h'q9 tk'q9 F'q9 N'q9; (try k_sweep)) | (k_here; (with_reducible show wpAny _ _ (compareOp CmpOp.Lt (Value.ref _) (Value.ref _)) _ _ _); k_dflt (refine lt_line (by first | (k_asm; done) | fail) (by first | (k_asm; done) | fail) (by first | (assumption; done) | fail) (by first | (assumption; done) | fail) (by first | (show Around.depth _ + 1 + 6 < recursionLimit; omega; done) | fail) (by first | (show Around.units _ + 3 < cLine; omega; done) | fail) (by first | (assumption; done) | fail) (by first | (assumption; done) | fail) ?_; k_whole); intro h'q9 tk'q9 F'q9 N'q9; (try k_sweep)) | walk1) | (leave1; try dsimp only)))
          rename Fr _ _ _ _ => F8
          rename News _ _ _ _ => N8
          obtain ⟨f', hf', hR'⟩ := upTo_one hlt hf hR (fun h => hr2 h.1)
          refine IH (2 * c + 1) _ (by omega) fun G hG => hG _ _ _ (M.set c (M.getD (2 * c + 1) (0, 0))) _ _ _ _ _ f' rfl F8 N8 (by rw [List.length_set]; exact hM) (by rw [List.length_set]; exact hlt) (by rw [List.length_set]; omega) hR' (fun y hy => (List.mem_or_eq_of_mem_set hy).elim (hKM y) fun e => e ▸ kL) (by omega) rfl rfl rfl rfl rfl rfl
    · refine WhlIf.no (decide_eq_false (by omega)) ?_
      repeat' (first | (k_unfold; (try dsimp only)) | (k_end; wrow_close) | (with_reducible (k_here; (with_reducible show wpAny _ _ (subscriptTail _ _ (Value.ref _) (Value.int 0 _)) _ _ _); k_dflt (refine item_at (i := 0) (by first | (k_asm; done) | fail) (by first | (k_mem; done) | fail) (by first | (decide; done) | fail) (by first | (exact refs_get (by assumption); done) | fail) ?_; k_whole))) | (with_reducible (k_here; (with_reducible show wpAny _ _ (subscriptTail _ _ (Value.ref _) (Value.int _ _)) _ _ _); k_dflt (refine item_at (by first | (k_asm; done) | fail) (by first | (k_mem; done) | fail) (by first | (omega; done) | fail) (by first | (exact refs_get (by first | assumption | omega); done) | fail) ?_; k_whole))) | (with_reducible (k_here; (with_reducible show wpAny _ _ (compareOp CmpOp.Lt (Value.ref _) (Value.ref _)) _ _ _); k_dflt (refine lt_line (by first | (k_asm; done) | fail) (by first | (k_asm; done) | fail) (by first | (assumption; done) | fail) (by first | (assumption; done) | fail) (by first | (show Around.depth _ + 1 + 6 < recursionLimit; omega; done) | fail) (by first | (show Around.units _ + 3 < cLine; omega; done) | fail) (by first | (assumption; done) | fail) (by first | (assumption; done) | fail) ?_; k_whole); intro h'q9 tk'q9 F'q9 N'q9; (try k_sweep))) | (with_reducible (k_here; (with_reducible show wpAny _ _ (call (Value.builtin "len") [Value.ref _]) _ _ _); k_dflt (refine len_refs (by first | (k_asm; done) | fail) (by first | (k_mem; done) | fail) (by first | (assumption; done) | fail) ?_; k_whole); intro k'q9 t'q9)) | (with_reducible (k_here; (with_reducible show wpAny _ _ (call (Value.ref 105) [Value.ref _, Value.int _ _, Value.int _ _]) _ _ _); k_dflt (refine sdG_line (by first | (k_asm; done) | fail) (by first | (k_asm; done) | fail) (by first | (rfl; done) | fail) (by first | (assumption; done) | fail) (by first | (assumption; done) | fail) (by first | (assumption; done) | fail) (by first | (assumption; done) | fail) (by first | (assumption; done) | fail) (by first | (assumption; done) | fail) (by first | (show Around.depth _ + 1 + 10 < recursionLimit; omega; done) | fail) (by first | (show Around.units _ + 3 + 50 < cLine; omega; done) | fail) (by first | (assumption; done) | fail) (by first | (intro _ hqq9; cases hqq9; done) | fail) ?_; k_whole); intro k'q9 h'q9 tk'q9 F'q9 N'q9; (try k_sweep))) | (with_reducible (k_here; (with_reducible show wpAny _ _ (compareOp CmpOp.Lt (Value.ref _) (Value.ref _)) _ _ _); k_dflt (refine lt_line (by first | (k_asm; done) | fail) (by first | (k_asm; done) | fail) (by first | (assumption; done) | fail) (by first | (assumption; done) | fail) (by first | (show Around.depth _ + 1 + 6 < recursionLimit; omega; done) | fail) (by first | (show Around.units _ + 3 < cLine; omega; done) | fail) (by first | (assumption; done) | fail) (by first | (assumption; done) | fail) ?_; k_whole); intro h'q9 tk'q9 F'q9 N'q9; (try k_sweep))) | (k_here; (with_reducible show wpAny _ _ (subscriptTail _ _ (Value.ref _) (Value.int 0 _)) _ _ _); k_dflt (refine item_at (i := 0) (by first | (k_asm; done) | fail) (by first | (k_mem; done) | fail) (by first | (decide; done) | fail) (by first | (exact refs_get (by assumption); done) | fail) ?_; k_whole)) | (k_here; (with_reducible show wpAny _ _ (subscriptTail _ _ (Value.ref _) (Value.int _ _)) _ _ _); k_dflt (refine item_at (by first | (k_asm; done) | fail) (by first | (k_mem; done) | fail) (by first | (omega; done) | fail) (by first | (exact refs_get (by first | assumption | omega); done) | fail) ?_; k_whole)) | (k_here; (with_reducible show wpAny _ _ (compareOp CmpOp.Lt (Value.ref _) (Value.ref _)) _ _ _); k_dflt (refine lt_line (by first | (k_asm; done) | fail) (by first | (k_asm; done) | fail) (by first | (assumption; done) | fail) (by first | (assumption; done) | fail) (by first | (show Around.depth _ + 1 + 6 < recursionLimit; omega; done) | fail) (by first | (show Around.units _ + 3 < cLine; omega; done) | fail) (by first | (assumption; done) | fail) (by first | (assumption; done) | fail) ?_; k_whole); intro h'q9 tk'q9 F'q9 N'q9; (try k_sweep)) | (k_here; (with_reducible show wpAny _ _ (call (Value.builtin "len") [Value.ref _]) _ _ _); k_dflt (refine len_refs (by first | (k_asm; done) | fail) (by first | (k_mem; done) | fail) (by first | (assumption; done) | fail) ?_; k_whole); intro k'q9 t'q9) | (k_here; (with_reducible show wpAny _ _ (call (Value.ref 105) [Value.ref _, Value.int _ _, Value.int _ _]) _ _ _); k_dflt (refine sdG_line (by first | (k_asm; done) | fail) (by first | (k_asm; done) | fail) (by first | (rfl; done) | fail) (by first | (assumption; done) | fail) (by first | (assumption; done) | fail) (by first | (assumption; done) | fail) (by first | (assumption; done) | fail) (by first | (assumption; done) | fail) (by first | (assumption; done) | fail) (by first | (show Around.depth _ + 1 + 10 < recursionLimit; omega; done) | fail) (by first | (show Around.units _ + 3 + 50 < cLine; omega; done) | fail) (by first | (assumption; done) | fail) (by first | (intro _ hqq9; cases hqq9; done) | fail) ?_; k_whole); intro k'q9 h'q9 tk'q9 F'q9 N'q9; (try k_sweep)) | (k_here; (with_reducible show wpAny _ _ (compareOp CmpOp.Lt (Value.ref _) (Value.ref _)) _ _ _); k_dflt (refine lt_line (by first | (k_asm; done) | fail) (by first | (k_asm; done) | fail) (by first | (assumption; done) | fail) (by first | (assumption; done) | fail) (by first | (show Around.depth _ + 1 + 6 < recursionLimit; omega; done) | fail) (by first | (show Around.units _ + 3 < cLine; omega; done) | fail) (by first | (assumption; done) | fail) (by first | (assumption; done) | fail) ?_; k_whole); intro h'q9 tk'q9 F'q9 N'q9; (try k_sweep)) | (walk1 <;> (try dsimp only)) | (dsimp only; first | (with_reducible (k_here; (with_reducible show wpAny _ _ (subscriptTail _ _ (Value.ref _) (Value.int 0 _)) _ _ _); k_dflt (refine item_at (i := 0) (by first | (k_asm; done) | fail) (by first | (k_mem; done) | fail) (by first | (decide; done) | fail) (by first | (exact refs_get (by assumption); done) | fail) ?_; k_whole))) | (with_reducible (k_here; (with_reducible show wpAny _ _ (subscriptTail _ _ (Value.ref _) (Value.int _ _)) _ _ _); k_dflt (refine item_at (by first | (k_asm; done) | fail) (by first | (k_mem; done) | fail) (by first | (omega; done) | fail) (by first | (exact refs_get (by first | assumption | omega); done) | fail) ?_; k_whole))) | (with_reducible (k_here; (with_reducible show wpAny _ _ (compareOp CmpOp.Lt (Value.ref _) (Value.ref _)) _ _ _); k_dflt (refine lt_line (by first | (k_asm; done) | fail) (by first | (k_asm; done) | fail) (by first | (assumption; done) | fail) (by first | (assumption; done) | fail) (by first | (show Around.depth _ + 1 + 6 < recursionLimit; omega; done) | fail) (by first | (show Around.units _ + 3 < cLine; omega; done) | fail) (by first | (assumption; done) | fail) (by first | (assumption; done) | fail) ?_; k_whole); intro h'q9 tk'q9 F'q9 N'q9; (try k_sweep))) | (with_reducible (k_here; (with_reducible show wpAny _ _ (call (Value.builtin "len") [Value.ref _]) _ _ _); k_dflt (refine len_refs (by first | (k_asm; done) | fail) (by first | (k_mem; done) | fail) (by first | (assumption; done) | fail) ?_; k_whole); intro k'q9 t'q9)) | (with_reducible (k_here; (with_reducible show wpAny _ _ (call (Value.ref 105) [Value.ref _, Value.int _ _, Value.int _ _]) _ _ _); k_dflt (refine sdG_line (by first | (k_asm; done) | fail) (by first | (k_asm; done) | fail) (by first | (rfl; done) | fail) (by first | (assumption; done) | fail) (by first | (assumption; done) | fail) (by first | (assumption; done) | fail) (by first | (assumption; done) | fail) (by first | (assumption; done) | fail) (by first | (assumption; done) | fail) (by first | (show Around.depth _ + 1 + 10 < recursionLimit; omega; done) | fail) (by first | (show Around.units _ + 3 + 50 < cLine; omega; done) | fail) (by first | (assumption; done) | fail) (by first | (intro _ hqq9; cases hqq9; done) | fail) ?_; k_whole); intro k'q9 h'q9 tk'q9 F'q9 N'q9; (try k_sweep))) | (with_reducible (k_here; (with_reducible show wpAny _ _ (compareOp CmpOp.Lt (Value.ref _) (Value.ref _)) _ _ _); k_dflt (refine lt_line (by first | (k_asm; done) | fail) (by first | (k_asm; done) | fail) (by first | (assumption; done) | fail) (by first | (assumption; done) | fail) (by first | (show Around.depth _ + 1 + 6 < recursionLimit; omega; done) | fail) (by first | (show Around.units _ + 3 < cLine; omega; done) | fail) (by first | (assumption; done) | fail) (by first | (assumption; done) | fail) ?_; k_whole); intro h'q9 tk'q9 F'q9 N'q9; (try k_sweep))) | (k_here; (with_reducible show wpAny _ _ (subscriptTail _ _ (Value.ref _) (Value.int 0 _)) _ _ _); k_dflt (refine item_at (i := 0) (by first | (k_asm; done) | fail) (by first | (k_mem; done) | fail) (by first | (decide; done) | fail) (by first | (exact refs_get (by assumption); done) | fail) ?_; k_whole)) | (k_here; (with_reducible show wpAny _ _ (subscriptTail _ _ (Value.ref _) (Value.int _ _)) _ _ _); k_dflt (refine item_at (by first | (k_asm; done) | fail) (by first | (k_mem; done) | fail) (by first | (omega; done) | fail) (by first | (exact refs_get (by first | assumption | omega); done) | fail) ?_; k_whole)) | (k_here; (with_reducible show wpAny _ _ (compareOp CmpOp.Lt (Value.ref _) (Value.ref _)) _ _ _); k_dflt (refine lt_line (by first | (k_asm; done) | fail) (by first | (k_asm; done) | fail) (by first | (assumption; done) | fail) (by first | (assumption; done) | fail) (by first | (show Around.depth _ + 1 + 6 < recursionLimit; omega; done) | fail) (by first | (show Around.units _ + 3 < cLine; omega; done) | fail) (by first | (assumption; done) | fail) (by first | (assumption; done) | fail) ?_; k_whole); intro h'q9 tk'q9 F'q9 N'q9; (try k_sweep)) | (k_here; (with_reducible show wpAny _ _ (call (Value.builtin "len") [Value.ref _]) _ _ _); k_dflt (refine len_refs (by first | (k_asm; done) | fail) (by first | (k_mem; done) | fail) (by first | (assumption; done) | fail) ?_; k_whole); intro k'q9 t'q9) | (k_here; (with_reducible show wpAny _ _ (call (Value.ref 105) [Value.ref _, Value.int _ _, Value.int _ _]) _ _ _); k_dflt (refine sdG_line (by first | (k_asm; done) | fail) (by first | (k_asm; done) | fail) (by first | (rfl; done) | fail) (by first | (assumption; done) | fail) (by first | (assumption; done) | fail) (by first | (assumption; done) | fail) (by first | (assumption; done) | fail) (by first | (assumption; done) | fail) (by first | (assumption; done) | fail) (by first | (show Around.depth _ + 1 + 10 < recursionLimit; omega; done) | fail) (by first | (show Around.units _ + 3 + 50 < cLine; omega; done) | fail) (by first | (assumption; done) | fail) (by first | (intro _ hqq9; cases hqq9; done) | fail) ?_; k_whole); intro k'q9 h'q9 tk'q9 F'q9 N'q9; (try k_sweep)) | (k_here; (with_reducible show wpAny _ _ (compareOp CmpOp.Lt (Value.ref _) (Value.ref _)) _ _ _); k_dflt (refine lt_line (by first | (k_asm; done) | fail) (by first | (k_asm; done) | fail) (by first | (assumption; done) | fail) (by first | (assumption; done) | fail) (by first | (show Around.depth _ + 1 + 6 < recursionLimit; omega; done) | fail) (by first | (show Around.units _ + 3 < cLine; omega; done) | fail) (by first | (assumption; done) | fail) (by first | (assumption; done) | fail) ?_; k_whole); intro h'q9 tk'q9 F'q9 N'q9; (try k_sweep)) | walk1) | (leave1; try dsimp only) | fail "no step")
      refine' setItem_list (j := c) ?F ?N ?U ?hj ?hz ?_
      (case F => k_asm); (case N => k_asm); (case U => k_updF); (case hj => exact hcs); (case hz => exact hsz)
      intro h9 k9 F9 N9
      rw [refs_set] at N9
      have y1 : ((c : Nat) : Int) = (c : Nat) := rfl
      have y2 : c < (M.set c x).length := by rw [List.length_set]; exact hc
      have y3 : (M.set c x).length ≤ 5 := by rw [List.length_set, hM]; exact hlen
      have y4 : ∀ y ∈ M.set c x, KR w B (hideAll s.heap [hp]) C y.1 y.2 := fun y hy => (List.mem_or_eq_of_mem_set hy).elim (hKM y) fun e => e ▸ hxK
      repeat' (first | (k_unfold; (try dsimp only)) | (k_end; wrow_close) | (with_reducible (k_here; (with_reducible show wpAny _ _ (subscriptTail _ _ (Value.ref _) (Value.int 0 _)) _ _ _); k_dflt (refine item_at (i := 0) (by first | (k_asm; done) | fail) (by first | (k_mem; done) | fail) (by first | (decide; done) | fail) (by first | (exact refs_get (by assumption); done) | fail) ?_; k_whole))) | (with_reducible (k_here; (with_reducible show wpAny _ _ (subscriptTail _ _ (Value.ref _) (Value.int _ _)) _ _ _); k_dflt (refine item_at (by first | (k_asm; done) | fail) (by first | (k_mem; done) | fail) (by first | (omega; done) | fail) (by first | (exact refs_get (by first | assumption | omega); done) | fail) ?_; k_whole))) | (with_reducible (k_here; (with_reducible show wpAny _ _ (compareOp CmpOp.Lt (Value.ref _) (Value.ref _)) _ _ _); k_dflt (refine lt_line (by first | (k_asm; done) | fail) (by first | (k_asm; done) | fail) (by first | (assumption; done) | fail) (by first | (assumption; done) | fail) (by first | (show Around.depth _ + 1 + 6 < recursionLimit; omega; done) | fail) (by first | (show Around.units _ + 3 < cLine; omega; done) | fail) (by first | (assumption; done) | fail) (by first | (assumption; done) | fail) ?_; k_whole); intro h'q9 tk'q9 F'q9 N'q9; (try k_sweep))) | (with_reducible (k_here; (with_reducible show wpAny _ _ (call (Value.builtin "len") [Value.ref _]) _ _ _); k_dflt (refine len_refs (by first | (k_asm; done) | fail) (by first | (k_mem; done) | fail) (by first | (assumption; done) | fail) ?_; k_whole); intro k'q9 t'q9)) | (with_reducible (k_here; (with_reducible show wpAny _ _ (call (Value.ref 105) [Value.ref _, Value.int _ _, Value.int _ _]) _ _ _); k_dflt (refine sdG_line (by first | (k_asm; done) | fail) (by first | (k_asm; done) | fail) (by first | (rfl; done) | fail) (by first | (assumption; done) | fail) (by first | (assumption; done) | fail) (by first | (assumption; done) | fail) (by first | (assumption; done) | fail) (by first | (assumption; done) | fail) (by first | (assumption; done) | fail) (by first | (show Around.depth _ + 1 + 10 < recursionLimit; omega; done) | fail) (by first | (show Around.units _ + 3 + 50 < cLine; omega; done) | fail) (by first | (assumption; done) | fail) (by first | (intro _ hqq9; cases hqq9; done) | fail) ?_; k_whole); intro k'q9 h'q9 tk'q9 F'q9 N'q9; (try k_sweep))) | (with_reducible (k_here; (with_reducible show wpAny _ _ (compareOp CmpOp.Lt (Value.ref _) (Value.ref _)) _ _ _); k_dflt (refine lt_line (by first | (k_asm; done) | fail) (by first | (k_asm; done) | fail) (by first | (assumption; done) | fail) (by first | (assumption; done) | fail) (by first | (show Around.depth _ + 1 + 6 < recursionLimit; omega; done) | fail) (by first | (show Around.units _ + 3 < cLine; omega; done) | fail) (by first | (assumption; done) | fail) (by first | (assumption; done) | fail) ?_; k_whole); intro h'q9 tk'q9 F'q9 N'q9; (try k_sweep))) | (k_here; (with_reducible show wpAny _ _ (subscriptTail _ _ (Value.ref _) (Value.int 0 _)) _ _ _); k_dflt (refine item_at (i := 0) (by first | (k_asm; done) | fail) (by first | (k_mem; done) | fail) (by first | (decide; done) | fail) (by first | (exact refs_get (by assumption); done) | fail) ?_; k_whole)) | (k_here; (with_reducible show wpAny _ _ (subscriptTail _ _ (Value.ref _) (Value.int _ _)) _ _ _); k_dflt (refine item_at (by first | (k_asm; done) | fail) (by first | (k_mem; done) | fail) (by first | (omega; done) | fail) (by first | (exact refs_get (by first | assumption | omega); done) | fail) ?_; k_whole)) | (k_here; (with_reducible show wpAny _ _ (compareOp CmpOp.Lt (Value.ref _) (Value.ref _)) _ _ _); k_dflt (refine lt_line (by first | (k_asm; done) | fail) (by first | (k_asm; done) | fail) (by first | (assumption; done) | fail) (by first | (assumption; done) | fail) (by first | (show Around.depth _ + 1 + 6 < recursionLimit; omega; done) | fail) (by first | (show Around.units _ + 3 < cLine; omega; done) | fail) (by first | (assumption; done) | fail) (by first | (assumption; done) | fail) ?_; k_whole); intro h'q9 tk'q9 F'q9 N'q9; (try k_sweep)) | (k_here; (with_reducible show wpAny _ _ (call (Value.builtin "len") [Value.ref _]) _ _ _); k_dflt (refine len_refs (by first | (k_asm; done) | fail) (by first | (k_mem; done) | fail) (by first | (assumption; done) | fail) ?_; k_whole); intro k'q9 t'q9) | (k_here; (with_reducible show wpAny _ _ (call (Value.ref 105) [Value.ref _, Value.int _ _, Value.int _ _]) _ _ _); k_dflt (refine sdG_line (by first | (k_asm; done) | fail) (by first | (k_asm; done) | fail) (by first | (rfl; done) | fail) (by first | (assumption; done) | fail) (by first | (assumption; done) | fail) (by first | (assumption; done) | fail) (by first | (assumption; done) | fail) (by first | (assumption; done) | fail) (by first | (assumption; done) | fail) (by first | (show Around.depth _ + 1 + 10 < recursionLimit; omega; done) | fail) (by first | (show Around.units _ + 3 + 50 < cLine; omega; done) | fail) (by first | (assumption; done) | fail) (by first | (intro _ hqq9; cases hqq9; done) | fail) ?_; k_whole); intro k'q9 h'q9 tk'q9 F'q9 N'q9; (try k_sweep)) | (k_here; (with_reducible show wpAny _ _ (compareOp CmpOp.Lt (Value.ref _) (Value.ref _)) _ _ _); k_dflt (refine lt_line (by first | (k_asm; done) | fail) (by first | (k_asm; done) | fail) (by first | (assumption; done) | fail) (by first | (assumption; done) | fail) (by first | (show Around.depth _ + 1 + 6 < recursionLimit; omega; done) | fail) (by first | (show Around.units _ + 3 < cLine; omega; done) | fail) (by first | (assumption; done) | fail) (by first | (assumption; done) | fail) ?_; k_whole); intro h'q9 tk'q9 F'q9 N'q9; (try k_sweep)) | (walk1 <;> (try dsimp only)) | (dsimp only; first | (with_reducible (k_here; (with_reducible show wpAny _ _ (subscriptTail _ _ (Value.ref _) (Value.int 0 _)) _ _ _); k_dflt (refine item_at (i := 0) (by first | (k_asm; done) | fail) (by first | (k_mem; done) | fail) (by first | (decide; done) | fail) (by first | (exact refs_get (by assumption); done) | fail) ?_; k_whole))) | (with_reducible (k_here; (with_reducible show wpAny _ _ (subscriptTail _ _ (Value.ref _) (Value.int _ _)) _ _ _); k_dflt (refine item_at (by first | (k_asm; done) | fail) (by first | (k_mem; done) | fail) (by first | (omega; done) | fail) (by first | (exact refs_get (by first | assumption | omega); done) | fail) ?_; k_whole))) | (with_reducible (k_here; (with_reducible show wpAny _ _ (compareOp CmpOp.Lt (Value.ref _) (Value.ref _)) _ _ _); k_dflt (refine lt_line (by first | (k_asm; done) | fail) (by first | (k_asm; done) | fail) (by first | (assumption; done) | fail) (by first | (assumption; done) | fail) (by first | (show Around.depth _ + 1 + 6 < recursionLimit; omega; done) | fail) (by first | (show Around.units _ + 3 < cLine; omega; done) | fail) (by first | (assumption; done) | fail) (by first | (assumption; done) | fail) ?_; k_whole); intro h'q9 tk'q9 F'q9 N'q9; (try k_sweep))) | (with_reducible (k_here; (with_reducible show wpAny _ _ (call (Value.builtin "len") [Value.ref _]) _ _ _); k_dflt (refine len_refs (by first | (k_asm; done) | fail) (by first | (k_mem; done) | fail) (by first | (assumption; done) | fail) ?_; k_whole); intro k'q9 t'q9)) | (with_reducible (k_here; (with_reducible show wpAny _ _ (call (Value.ref 105) [Value.ref _, Value.int _ _, Value.int _ _]) _ _ _); k_dflt (refine sdG_line (by first | (k_asm; done) | fail) (by first | (k_asm; done) | fail) (by first | (rfl; done) | fail) (by first | (assumption; done) | fail) (by first | (assumption; done) | fail) (by first | (assumption; done) | fail) (by first | (assumption; done) | fail) (by first | (assumption; done) | fail) (by first | (assumption; done) | fail) (by first | (show Around.depth _ + 1 + 10 < recursionLimit; omega; done) | fail) (by first | (show Around.units _ + 3 + 50 < cLine; omega; done) | fail) (by first | (assumption; done) | fail) (by first | (intro _ hqq9; cases hqq9; done) | fail) ?_; k_whole); intro k'q9 h'q9 tk'q9 F'q9 N'q9; (try k_sweep))) | (with_reducible (k_here; (with_reducible show wpAny _ _ (compareOp CmpOp.Lt (Value.ref _) (Value.ref _)) _ _ _); k_dflt (refine lt_line (by first | (k_asm; done) | fail) (by first | (k_asm; done) | fail) (by first | (assumption; done) | fail) (by first | (assumption; done) | fail) (by first | (show Around.depth _ + 1 + 6 < recursionLimit; omega; done) | fail) (by first | (show Around.units _ + 3 < cLine; omega; done) | fail) (by first | (assumption; done) | fail) (by first | (assumption; done) | fail) ?_; k_whole); intro h'q9 tk'q9 F'q9 N'q9; (try k_sweep))) | (k_here; (with_reducible show wpAny _ _ (subscriptTail _ _ (Value.ref _) (Value.int 0 _)) _ _ _); k_dflt (refine item_at (i := 0) (by first | (k_asm; done) | fail) (by first | (k_mem; done) | fail) (by first | (decide; done) | fail) (by first | (exact refs_get (by assumption); done) | fail) ?_; k_whole)) | (k_here; (with_reducible show wpAny _ _ (subscriptTail _ _ (Value.ref _) (Value.int _ _)) _ _ _); k_dflt (refine item_at (by first | (k_asm; done) | fail) (by first | (k_mem; done) | fail) (by first | (omega; done) | fail) (by first | (exact refs_get (by first | assumption | omega); done) | fail) ?_; k_whole)) | (k_here; (with_reducible show wpAny _ _ (compareOp CmpOp.Lt (Value.ref _) (Value.ref _)) _ _ _); k_dflt (refine lt_line (by first | (k_asm; done) | fail) (by first | (k_asm; done) | fail) (by first | (assumption; done) | fail) (by first | (assumption; done) | fail) (by first | (show Around.depth _ + 1 + 6 < recursionLimit; omega; done) | fail) (by first | (show Around.units _ + 3 < cLine; omega; done) | fail) (by first | (assumption; done) | fail) (by first | (assumption; done) | fail) ?_; k_whole); intro h'q9 tk'q9 F'q9 N'q9; (try k_sweep)) | (k_here; (with_reducible show wpAny _ _ (call (Value.builtin "len") [Value.ref _]) _ _ _); k_dflt (refine len_refs (by first | (k_asm; done) | fail) (by first | (k_mem; done) | fail) (by first | (assumption; done) | fail) ?_; k_whole); intro k'q9 t'q9) | (k_here; (with_reducible show wpAny _ _ (call (Value.ref 105) [Value.ref _, Value.int _ _, Value.int _ _]) _ _ _); k_dflt (refine sdG_line (by first | (k_asm; done) | fail) (by first | (k_asm; done) | fail) (by first | (rfl; done) | fail) (by first | (assumption; done) | fail) (by first | (assumption; done) | fail) (by first | (assumption; done) | fail) (by first | (assumption; done) | fail) (by first | (assumption; done) | fail) (by first | (assumption; done) | fail) (by first | (show Around.depth _ + 1 + 10 < recursionLimit; omega; done) | fail) (by first | (show Around.units _ + 3 + 50 < cLine; omega; done) | fail) (by first | (assumption; done) | fail) (by first | (intro _ hqq9; cases hqq9; done) | fail) ?_; k_whole); intro k'q9 h'q9 tk'q9 F'q9 N'q9; (try k_sweep)) | (k_here; (with_reducible show wpAny _ _ (compareOp CmpOp.Lt (Value.ref _) (Value.ref _)) _ _ _); k_dflt (refine lt_line (by first | (k_asm; done) | fail) (by first | (k_asm; done) | fail) (by first | (assumption; done) | fail) (by first | (assumption; done) | fail) (by first | (show Around.depth _ + 1 + 6 < recursionLimit; omega; done) | fail) (by first | (show Around.units _ + 3 < cLine; omega; done) | fail) (by first | (assumption; done) | fail) (by first | (assumption; done) | fail) ?_; k_whole); intro h'q9 tk'q9 F'q9 N'q9; (try k_sweep)) | walk1) | (leave1; try dsimp only) | fail "no step")
      rename Fr _ _ _ _ => F9
      rename News _ _ _ _ => N9
      have e9 : sdown 5 (M.set c x) c = sup hl := by
        unfold sup
        rw [← hR, upTo_end hlt, hx]
      rw [e9] at N9
      exact hQ _ _ _ (swapped_of F9 N9)
end
end Mine

end
section
-- POG
open PySem PySem.W PySem.Spec PySem.Calls PyProof.Rows
set_option Elab.async false
set_option maxRecDepth 100000
set_option maxHeartbeats 2000000
namespace Mine
theorem fillK7 : ∀ w : World, (hd0.heap_1 w.params).In default → PySem.Challenge.rw_nq0103_01.prog = PySem.Challenge.rw_nq0103_01.prog → True := by
  k_fill
  intros; trivial
theorem last_app (y : Value) : ∀ p : List Value, kl_last (p ++ [y]) = some (p, y)
  | [] => rfl
  | a :: p => by
    have ih := last_app y p
    cases e : p ++ [y] with
    | nil => cases p <;> cases e
    | cons b r =>
      rw [List.cons_append, e]
      rw [e] at ih
      unfold kl_last
      rw [ih]
section
variable {prog : Program} {w : World} {A : Around} {E : Value → Shared → Prop} {s : Shared} {h₀ : Heap} {L hp : Addr} {n : Nat} {m : Str → Option Value} {rest news : List (Addr × Obj)}
theorem pop_refs {l : List (Addr × Int)} {z : Addr × Int} {Q : Value → Shared → Prop} (F : Fr h₀ L s.heap m) (N : News h₀ L s.heap ((hp, listOf (refsOf (l ++ [z])) n) :: rest)) (hne : ∀ q ∈ rest, q.1 ≠ hp) (hz : (l ++ [z]).length ≤ 1000)
    (h : ∀ h', Fr h₀ L h' m → News h₀ L h' ((hp, listOf (refsOf l) (n + 1)) :: rest) → Q (.ref z.1) { s with heap := h' }) : wpAny (model prog w) A (call (.builtin "list.pop") [.ref hp]) Q E s := by
  have e : kl_last (refsOf (l ++ [z])).toList = some (l.map fun p => Value.ref p.1, .ref z.1) := by
    unfold refsOf
    rw [List.map_append]
    exact last_app _ _
  refine kl_pop F N e (Upd.head hne) ?_ h
  have := refs_size (l ++ [z])
  rw [← Array.size_eq_length_toList, this, sizeLine_eq]
  omega
theorem setItem_list0 {vs : Array Value} {v : Value} {t : Tok} {g : Obj → List (Addr × Obj)} {Q : Unit → Shared → Prop} (F : Fr h₀ L s.heap m) (N : News h₀ L s.heap news) (U : UpdF hp (listOf vs n) news g) (hj : 0 < vs.size) (hz : vs.size ≤ 1000)
    (h : ∀ h' k, Fr h₀ L h' m → News h₀ L h' (g (listOf (vs.setIfInBounds 0 v) k)) → Q () { s with heap := h' }) : wpAny (model prog w) A (setItem (.ref hp) (.int 0 t) v) Q E s := setItem_list (j := 0) F N U hj hz h
theorem truthy_refs {q : Addr × Int} {r : List (Addr × Int)} {Q : Bool → Shared → Prop} (N : News h₀ L s.heap news) (hm : (hp, listOf (refsOf (q :: r)) n) ∈ news) (hz : r.length ≤ 4) (h : Q true { s with toks := s.toks + 1 + 1 }) : wpAny (model prog w) A (truthy (.ref hp)) Q E s :=
  wpAny_truthy_list ⟨_, (N _ hm).1, rfl, n, rfl⟩ (by rw [refs_size, List.length_cons]; omega) (by
    have e : (!(refsOf (q :: r)).isEmpty) = true := by simp [refsOf]
    rw [e]; exact h)
theorem truthy_none {Q : Bool → Shared → Prop} (N : News h₀ L s.heap news) (hm : (hp, listOf (refsOf []) n) ∈ news) (h : Q false { s with toks := s.toks + 1 + 1 }) : wpAny (model prog w) A (truthy (.ref hp)) Q E s :=
  wpAny_truthy_list ⟨_, (N _ hm).1, rfl, n, rfl⟩ (by decide) h
end
section
variable {w : World} {A : Around} {s : Shared} {B h₀ : Heap} {p : Program} {loose : List Str} {mean : ExcName → Option Value} {mg mb : Str → Option Value} {Q E : Value → Shared → Prop} {C hp L : Addr} {n : Nat} {t1 : Tok} {m : Str → Option Value} {rest : List (Addr × Obj)}
theorem suG_line {hl : List (Addr × Int)} (F : Fr h₀ L s.heap m) (N : News h₀ L s.heap ((hp, listOf (refsOf hl) n) :: rest)) (h0 : 0 < hl.length) (hlen : hl.length ≤ 5) (G : Deep w p loose mean mg mb B) (hB : Ext B h₀) (nh : B.get? hp = none) (hr : A.depth + 20 < recursionLimit) (hu : A.units + 100 < cLine)
    (hK : ∀ x ∈ hl, KR w B h₀ C x.1 x.2) (hne : ∀ q ∈ rest, q.1 ≠ hp)
    (h : ∀ k h' tk', Fr h₀ L h' m → News h₀ L h' ((hp, listOf (refsOf (sup hl)) k) :: rest) → Q .none { s with heap := h', toks := tk' }) :
    wpAny (model prog w) A (call (.ref 112) [.ref hp, .int 0 t1]) Q E s :=
  suG hl h0 hlen G (hB.trans F.keep) nh hr hu (fun x hx => (hK x hx).keeps F.keep) (N _ (.head _)).1 fun k h' tk' sw => h k h' tk' (sw.fr F N) (sw.news N hne)
end
section
variable {w : World} {A : Around} {s : Shared} {B : Heap} {p : Program} {loose : List Str} {mean : ExcName → Option Value} {mg mb : Str → Option Value} {Q E : Value → Shared → Prop} {C hp : Addr} {n : Nat}
theorem popG (a z : Addr × Int) (mid : List (Addr × Int)) (hlen : mid.length ≤ 3) (G : Deep w p loose mean mg mb B) (hB : Ext B s.heap) (nh : B.get? hp = none) (hr : A.depth + 30 < recursionLimit) (hu : A.units + 150 < cLine)
    (hK : ∀ q ∈ z :: mid, KR w B s.heap C q.1 q.2) (h1 : s.heap.get? hp = some (listOf (refsOf ((a :: mid) ++ [z])) n))
    (hQ : ∀ k h' tk', Swapped s.heap h' hp (listOf (refsOf (sup (z :: mid))) k) → Q (.ref a.1) { s with heap := h', toks := tk' }) :
    wpAny (model prog w) A (call (.ref 98) [.ref hp]) Q E s := by
  have hh : Ext B (hideAll s.heap [hp]) := hB.hide (by intro y hy; rw [List.mem_singleton.mp hy]; exact nh)
  have hk := hide_lists (h := s.heap) (l := [hp]) (by intro y hy; rw [List.mem_singleton.mp hy]; exact ⟨_, h1, rfl⟩)
  have X' : (hd0.heap_1 w.params).In (hideAll s.heap [hp]) := G.X.keeps hh
  have T' := G.T.keeps hh
  have hK' : ∀ q ∈ z :: mid, KR w B (hideAll s.heap [hp]) C q.1 q.2 := fun q hq => (hK q hq).hide hk
  have X : (hd0.heap_1 w.params).In s.heap := G.X.keeps hB
  refine wpAny_call ?_
  k_dflt (refine' enterM (muts := [(hp, listOf (refsOf ((a :: mid) ++ [z])) n)]) (binds := [("heap", .ref hp)]) ?hm X (G.T.nolimit.keeps hB) ?k6 ?k7 ?k8 ?k9 ?kB ?_ ?c2 ?c3 ?c4 ?c5; (case hm => simpa using h1); (case k6 => k_is); (case k7 => k_is); (case k8 => omega); (case k9 => exact BindsTo.of_eq rfl); (case c5 => decide); (case kB => exact locs rfl); (case c2 => exact rfl); (case c3 => exact rfl); (case c4 => exact rfl))
  intro L h₁ hl9 F N
  clear X hk hK
  dsimp only [List.map] at F N
  have hl' : hp < L := hl9 _ (.head _)
  clear hl9
  dsimp only
  have z0 : mid.length ≤ 4 := by omega
  have z1 : ((a :: mid) ++ [z]).length ≤ 1000 := by rw [List.length_append, List.length_cons, List.length_singleton]; omega
  have z2 : 0 < (z :: mid).length := Nat.zero_lt_succ _
  have z3 : 0 < (a :: mid).length := Nat.zero_lt_succ _
  have z4 : (z :: mid).length ≤ 5 := by rw [List.length_cons]; omega
  have z5 : 0 < (refsOf (a :: mid)).size := by rw [refs_size]; exact z3
  have z6 : (refsOf (a :: mid)).size ≤ 1000 := by rw [refs_size, List.length_cons]; omega
  repeat' (first | (k_unfold; (try dsimp only)) | (k_end; wrow_close) | (with_reducible (k_here; (with_reducible show wpAny _ _ (setItem (Value.ref _) (Value.int 0 _) _) _ _ _); k_dflt (refine setItem_list0 (by first | (k_asm; done) | fail) (by first | (k_asm; done) | fail) (by first | (k_updF; done) | fail) (by first | (assumption; done) | fail) (by first | (assumption; done) | fail) ?_; k_whole); intro h'q9 k'q9 F'q9 N'q9; rw [refs_set, List.set_cons_zero] at N'q9)) | (with_reducible (k_here; (with_reducible show wpAny _ _ (subscriptTail _ _ (Value.ref _) (Value.int 0 _)) _ _ _); k_dflt (refine item_at (i := 0) (by first | (k_asm; done) | fail) (by first | (k_mem; done) | fail) (by first | (decide; done) | fail) (by first | (exact refs_get (by assumption); done) | fail) ?_; k_whole))) | (with_reducible (k_here; (with_reducible show wpAny _ _ (truthy (Value.ref _)) _ _ _); k_dflt (first | (refine truthy_none (by first | (k_asm; done) | fail) (by first | (k_mem; done) | fail) ?_; k_whole) | (refine truthy_refs (by first | (k_asm; done) | fail) (by first | (k_mem; done) | fail) (by first | (assumption; done) | fail) ?_; k_whole)))) | (with_reducible (k_here; (with_reducible show wpAny _ _ (call (Value.builtin "list.pop") [Value.ref _]) _ _ _); k_dflt (refine pop_refs (by first | (k_asm; done) | fail) (by first | (k_asm; done) | fail) (by first | (intro _ hqq9; cases hqq9; done) | fail) (by first | (assumption; done) | fail) ?_; k_whole); intro h'q9 F'q9 N'q9; (try k_sweep))) | (with_reducible (k_here; (with_reducible show wpAny _ _ (call (Value.ref 112) [Value.ref _, Value.int _ _]) _ _ _); k_dflt (refine suG_line (by first | (k_asm; done) | fail) (by first | (k_asm; done) | fail) (by first | (assumption; done) | fail) (by first | (assumption; done) | fail) (by first | (assumption; done) | fail) (by first | (assumption; done) | fail) (by first | (assumption; done) | fail) (by first | (show Around.depth _ + 1 + 20 < recursionLimit; omega; done) | fail) (by first | (show Around.units _ + 3 + 100 < cLine; omega; done) | fail) (by first | (assumption; done) | fail) (by first | (intro _ hqq9; cases hqq9; done) | fail) ?_; k_whole); intro k'q9 h'q9 tk'q9 F'q9 N'q9; (try k_sweep))) | (k_here; (with_reducible show wpAny _ _ (setItem (Value.ref _) (Value.int 0 _) _) _ _ _); k_dflt (refine setItem_list0 (by first | (k_asm; done) | fail) (by first | (k_asm; done) | fail) (by first | (k_updF; done) | fail) (by first | (assumption; done) | fail) (by first | (assumption; done) | fail) ?_; k_whole); intro h'q9 k'q9 F'q9 N'q9; rw [refs_set, List.set_cons_zero] at N'q9) | (k_here; (with_reducible show wpAny _ _ (subscriptTail _ _ (Value.ref _) (Value.int 0 _)) _ _ _); k_dflt (refine item_at (i := 0) (by first | (k_asm; done) | fail) (by first | (k_mem; done) | fail) (by first | (decide; done) | fail) (by first | (exact refs_get (by assumption); done) | fail) ?_; k_whole)) | (k_here; (with_reducible show wpAny _ _ (truthy (Value.ref _)) _ _ _); k_dflt (first | (refine truthy_none (by first | (k_asm; done) | fail) (by first | (k_mem; done) | fail) ?_; k_whole) | (refine truthy_refs (by first | (k_asm; done) | fail) (by first | (k_mem; done) | fail) (by first | (assumption; done) | fail) ?_; k_whole))) | (k_here; (with_reducible show wpAny _ _ (call (Value.builtin "list.pop") [Value.ref _]) _ _ _); k_dflt (refine pop_refs (by first | (k_asm; done) | fail) (by first | (k_asm; done) | fail) (by first | (intro _ hqq9; cases hqq9; done) | fail) (by first | (assumption; done) | fail) ?_; k_whole); intro h'q9 F'q9 N'q9; (try k_sweep)) | (k_here; (with_reducible show wpAny _ _ (call (Value.ref 112) [Value.ref _, Value.int _ _]) _ _ _); k_dflt (refine suG_line (by first | (k_asm; done) | fail) (by first | (k_asm; done) | fail) (by first | (assumption; done) | fail) (by first | (assumption; done) | fail) (by first | (assumption; done) | fail) (by first | (assumption; done) | fail) (by first | (assumption; done) | fail) (by first | (show Around.depth _ + 1 + 20 < recursionLimit; omega; done) | fail) (by first | (show Around.units _ + 3 + 100 < cLine; omega; done) | fail) (by first | (assumption; done) | fail) (by first | (intro _ hqq9; cases hqq9; done) | fail) ?_; k_whole); intro k'q9 h'q9 tk'q9 F'q9 N'q9; (try k_sweep)) | (walk1 <;> (try dsimp only)) | (dsimp only; first | (with_reducible (k_here; (with_reducible show wpAny _ _ (setItem (Value.ref _) (Value.int 0 _) _) _ _ _); k_dflt (refine setItem_list0 (by first | (k_asm; done) | fail) (by first | (k_asm; done) | fail) (by first | (k_updF; done) | fail) (by first | (assumption; done) | fail) (by first | (assumption; done) | fail) ?_; k_whole); intro h'q9 k'q9 F'q9 N'q9; rw [refs_set, List.set_cons_zero] at N'q9)) | (with_reducible (k_here; (with_reducible show wpAny _ _ (subscriptTail _ _ (Value.ref _) (Value.int 0 _)) _ _ _); k_dflt (refine item_at (i := 0) (by first | (k_asm; done) | fail) (by first | (k_mem; done) | fail) (by first | (decide; done) | fail) (by first | (exact refs_get (by assumption); done) | fail) ?_; k_whole))) | (with_reducible (k_here; (with_reducible show wpAny _ _ (truthy (Value.ref _)) _ _ _); k_dflt (first | (refine truthy_none (by first | (k_asm; done) | fail) (by first | (k_mem; done) | fail) ?_; k_whole) | (refine truthy_refs (by first | (k_asm; done) | fail) (by first | (k_mem; done) | fail) (by first | (assumption; done) | fail) ?_; k_whole)))) | (with_reducible (k_here; (with_reducible show wpAny _ _ (call (Value.builtin "list.pop") [Value.ref _]) _ _ _); k_dflt (refine pop_refs (by first | (k_asm; done) | fail) (by first | (k_asm; done) | fail) (by first | (intro _ hqq9; cases hqq9; done) | fail) (by first | (assumption; done) | fail) ?_; k_whole); intro h'q9 F'q9 N'q9; (try k_sweep))) | (with_reducible (k_here; (with_reducible show wpAny _ _ (call (Value.ref 112) [Value.ref _, Value.int _ _]) _ _ _); k_dflt (refine suG_line (by first | (k_asm; done) | fail) (by first | (k_asm; done) | fail) (by first | (assumption; done) | fail) (by first | (assumption; done) | fail) (by first | (assumption; done) | fail) (by first | (assumption; done) | fail) (by first | (assumption; done) | fail) (by first | (show Around.depth _ + 1 + 20 < recursionLimit; omega; done) | fail) (by first | (show Around.units _ + 3 + 100 < cLine; omega; done) | fail) (by first | (assumption; done) | fail) (by first | (intro _ hqq9; cases hqq9; done) | fail) ?_; k_whole); intro k'q9 h'q9 tk'q9 F'q9 N'q9; (try k_sweep))) | (k_here; (with_reducible show wpAny _ _ (setItem (Value.ref _) (Value.int 0 _) _) _ _ _); k_dflt (refine setItem_list0 (by first | (k_asm; done) | fail) (by first | (k_asm; done) | fail) (by first | (k_updF; done) | fail) (by first | (assumption; done) | fail) (by first | (assumption; done) | fail) ?_; k_whole); intro h'q9 k'q9 F'q9 N'q9; rw [refs_set, List.set_cons_zero] at N'q9) | (k_here; (with_reducible show wpAny _ _ (subscriptTail _ _ (Value.ref _) (Value.int 0 _)) _ _ _); k_dflt (refine item_at (i := 0) (by first | (k_asm; done) | fail) (by first | (k_mem; done) | fail) (by first | (decide; done) | fail) (by first | (exact refs_get (by assumption); done) | fail) ?_; k_whole)) | (k_here; (with_reducible show wpAny _ _ (truthy (Value.ref _)) _ _ _); k_dflt (first | (refine truthy_none (by first | (k_asm; done) | fail) (by first | (k_mem; done) | fail) ?_; k_whole) | (refine truthy_refs (by first | (k_asm; done) | fail) (by first | (k_mem; done) | fail) (by first | (assumption; done) | fail) ?_; k_whole))) | (k_here; (with_reducible show wpAny _ _ (call (Value.builtin "list.pop") [Value.ref _]) _ _ _); k_dflt (refine pop_refs (by first | (k_asm; done) | fail) (by first | (k_asm; done) | fail) (by first | (intro _ hqq9; cases hqq9; done) | fail) (by first | (assumption; done) | fail) ?_; k_whole); intro h'q9 F'q9 N'q9; (try k_sweep)) | (k_here; (with_reducible show wpAny _ _ (call (Value.ref 112) [Value.ref _, Value.int _ _]) _ _ _); k_dflt (refine suG_line (by first | (k_asm; done) | fail) (by first | (k_asm; done) | fail) (by first | (assumption; done) | fail) (by first | (assumption; done) | fail) (by first | (assumption; done) | fail) (by first | (assumption; done) | fail) (by first | (assumption; done) | fail) (by first | (show Around.depth _ + 1 + 20 < recursionLimit; omega; done) | fail) (by first | (show Around.units _ + 3 + 100 < cLine; omega; done) | fail) (by first | (assumption; done) | fail) (by first | (intro _ hqq9; cases hqq9; done) | fail) ?_; k_whole); intro k'q9 h'q9 tk'q9 F'q9 N'q9; (try k_sweep)) | walk1) | (leave1; try dsimp only) | fail "no step")
  exact hQ _ _ _ (swapped_of (by assumption) (by assumption))
theorem pop1 (a : Addr × Int) (G : Deep w p loose mean mg mb B) (hB : Ext B s.heap) (nh : B.get? hp = none) (hr : A.depth + 30 < recursionLimit) (hu : A.units + 150 < cLine)
    (h1 : s.heap.get? hp = some (listOf (refsOf ([] ++ [a])) n))
    (hQ : ∀ k h' tk', Swapped s.heap h' hp (listOf (refsOf []) k) → Q (.ref a.1) { s with heap := h', toks := tk' }) :
    wpAny (model prog w) A (call (.ref 98) [.ref hp]) Q E s := by
  have hh : Ext B (hideAll s.heap [hp]) := hB.hide (by intro y hy; rw [List.mem_singleton.mp hy]; exact nh)
  have X' : (hd0.heap_1 w.params).In (hideAll s.heap [hp]) := G.X.keeps hh
  have T' := G.T.keeps hh
  have X : (hd0.heap_1 w.params).In s.heap := G.X.keeps hB
  refine wpAny_call ?_
  k_dflt (refine' enterM (muts := [(hp, listOf (refsOf ([] ++ [a])) n)]) (binds := [("heap", .ref hp)]) ?hm X (G.T.nolimit.keeps hB) ?k6 ?k7 ?k8 ?k9 ?kB ?_ ?c2 ?c3 ?c4 ?c5; (case hm => simpa using h1); (case k6 => k_is); (case k7 => k_is); (case k8 => omega); (case k9 => exact BindsTo.of_eq rfl); (case c5 => decide); (case kB => exact locs rfl); (case c2 => exact rfl); (case c3 => exact rfl); (case c4 => exact rfl))
  intro L h₁ hl9 F N
  clear X
  dsimp only [List.map] at F N
  have hl' : hp < L := hl9 _ (.head _)
  clear hl9
  dsimp only
  have z1 : (([] : List (Addr × Int)) ++ [a]).length ≤ 1000 := by show 1 ≤ 1000; decide
  repeat' (first | (k_unfold; (try dsimp only)) | (k_end; wrow_close) | (with_reducible (k_here; (with_reducible show wpAny _ _ (setItem (Value.ref _) (Value.int 0 _) _) _ _ _); k_dflt (refine setItem_list0 (by first | (k_asm; done) | fail) (by first | (k_asm; done) | fail) (by first | (k_updF; done) | fail) (by first | (assumption; done) | fail) (by first | (assumption; done) | fail) ?_; k_whole); intro h'q9 k'q9 F'q9 N'q9; rw [refs_set, List.set_cons_zero] at N'q9)) | (with_reducible (k_here; (with_reducible show wpAny _ _ (subscriptTail _ _ (Value.ref _) (Value.int 0 _)) _ _ _); k_dflt (refine item_at (i := 0) (by first | (k_asm; done) | fail) (by first | (k_mem; done) | fail) (by first | (decide; done) | fail) (by first | (exact refs_get (by assumption); done) | fail) ?_; k_whole))) | (with_reducible (k_here; (with_reducible show wpAny _ _ (truthy (Value.ref _)) _ _ _); k_dflt (first | (refine truthy_none (by first | (k_asm; done) | fail) (by first | (k_mem; done) | fail) ?_; k_whole) | (refine truthy_refs (by first | (k_asm; done) | fail) (by first | (k_mem; done) | fail) (by first | (assumption; done) | fail) ?_; k_whole)))) | (with_reducible (k_here; (with_reducible show wpAny _ _ (call (Value.builtin "list.pop") [Value.ref _]) _ _ _); k_dflt (refine pop_refs (by first | (k_asm; done) | fail) (by first | (k_asm; done) | fail) (by first | (intro _ hqq9; cases hqq9; done) | fail) (by first | (assumption; done) | fail) ?_; k_whole); intro h'q9 F'q9 N'q9; (try k_sweep))) | (with_reducible (k_here; (with_reducible show wpAny _ _ (call (Value.ref 112) [Value.ref _, Value.int _ _]) _ _ _); k_dflt (refine suG_line (by first | (k_asm; done) | fail) (by first | (k_asm; done) | fail) (by first | (assumption; done) | fail) (by first | (assumption; done) | fail) (by first | (assumption; done) | fail) (by first | (assumption; done) | fail) (by first | (assumption; done) | fail) (by first | (show Around.depth _ + 1 + 20 < recursionLimit; omega; done) | fail) (by first | (show Around.units _ + 3 + 100 < cLine; omega; done) | fail) (by first | (assumption; done) | fail) (by first | (intro _ hqq9; cases hqq9; done) | fail) ?_; k_whole); intro k'q9 h'q9 tk'q9 F'q9 N'q9; (try k_sweep))) | (k_here; (with_reducible show wpAny _ _ (setItem (Value.ref _) (Value.int 0 _) _) _ _ _); k_dflt (refine setItem_list0 (by first | (k_asm; done) | fail) (by first | (k_asm; done) | fail) (by first | (k_updF; done) | fail) (by first | (assumption; done) | fail) (by first | (assumption; done) | fail) ?_; k_whole); intro h'q9 k'q9 F'q9 N'q9; rw [refs_set, List.set_cons_zero] at N'q9) | (k_here; (with_reducible show wpAny _ _ (subscriptTail _ _ (Value.ref _) (Value.int 0 _)) _ _ _); k_dflt (refine item_at (i := 0) (by first | (k_asm; done) | fail) (by first | (k_mem; done) | fail) (by first | (decide; done) | fail) (by first | (exact refs_get (by assumption); done) | fail) ?_; k_whole)) | (k_here; (with_reducible show wpAny _ _ (truthy (Value.ref _)) _ _ _); k_dflt (first | (refine truthy_none (by first | (k_asm; done) | fail) (by first | (k_mem; done) | fail) ?_; k_whole) | (refine truthy_refs (by first | (k_asm; done) | fail) (by first | (k_mem; done) | fail) (by first | (assumption; done) | fail) ?_; k_whole))) | (k_here; (with_reducible show wpAny _ _ (call (Value.builtin "list.pop") [Value.ref _]) _ _ _); k_dflt (refine pop_refs (by first | (k_asm; done) | fail) (by first | (k_asm; done) | fail) (by first | (intro _ hqq9; cases hqq9; done) | fail) (by first | (assumption; done) | fail) ?_; k_whole); intro h'q9 F'q9 N'q9; (try k_sweep)) | (k_here; (with_reducible show wpAny _ _ (call (Value.ref 112) [Value.ref _, Value.int _ _]) _ _ _); k_dflt (refine suG_line (by first | (k_asm; done) | fail) (by first | (k_asm; done) | fail) (by first | (assumption; done) | fail) (by first | (assumption; done) | fail) (by first | (assumption; done) | fail) (by first | (assumption; done) | fail) (by first | (assumption; done) | fail) (by first | (show Around.depth _ + 1 + 20 < recursionLimit; omega; done) | fail) (by first | (show Around.units _ + 3 + 100 < cLine; omega; done) | fail) (by first | (assumption; done) | fail) (by first | (intro _ hqq9; cases hqq9; done) | fail) ?_; k_whole); intro k'q9 h'q9 tk'q9 F'q9 N'q9; (try k_sweep)) | (walk1 <;> (try dsimp only)) | (dsimp only; first | (with_reducible (k_here; (with_reducible show wpAny _ _ (setItem (Value.ref _) (Value.int 0 _) _) _ _ _); k_dflt (refine setItem_list0 (by first | (k_asm; done) | fail) (by first | (k_asm; done) | fail) (by first | (k_updF; done) | fail) (by first | (assumption; done) | fail) (by first | (assumption; done) | fail) ?_; k_whole); intro h'q9 k'q9 F'q9 N'q9; rw [refs_set, List.set_cons_zero] at N'q9)) | (with_reducible (k_here; (with_reducible show wpAny _ _ (subscriptTail _ _ (Value.ref _) (Value.int 0 _)) _ _ _); k_dflt (refine item_at (i := 0) (by first | (k_asm; done) | fail) (by first | (k_mem; done) | fail) (by first | (decide; done) | fail) (by first | (exact refs_get (by assumption); done) | fail) ?_; k_whole))) | (with_reducible (k_here; (with_reducible show wpAny _ _ (truthy (Value.ref _)) _ _ _); k_dflt (first | (refine truthy_none (by first | (k_asm; done) | fail) (by first | (k_mem; done) | fail) ?_; k_whole) | (refine truthy_refs (by first | (k_asm; done) | fail) (by first | (k_mem; done) | fail) (by first | (assumption; done) | fail) ?_; k_whole)))) | (with_reducible (k_here; (with_reducible show wpAny _ _ (call (Value.builtin "list.pop") [Value.ref _]) _ _ _); k_dflt (refine pop_refs (by first | (k_asm; done) | fail) (by first | (k_asm; done) | fail) (by first | (intro _ hqq9; cases hqq9; done) | fail) (by first | (assumption; done) | fail) ?_; k_whole); intro h'q9 F'q9 N'q9; (try k_sweep))) | (with_reducible (k_here; (with_reducible show wpAny _ _ (call (Value.ref 112) [Value.ref _, Value.int _ _]) _ _ _); k_dflt (refine suG_line (by first | (k_asm; done) | fail) (by first | (k_asm; done) | fail) (by first | (assumption; done) | fail) (by first | (assumption; done) | fail) (by first | (assumption; done) | fail) (by first | (assumption; done) | fail) (by first | (assumption; done) | fail) (by first | (show Around.depth _ + 1 + 20 < recursionLimit; omega; done) | fail) (by first | (show Around.units _ + 3 + 100 < cLine; omega; done) | fail) (by first | (assumption; done) | fail) (by first | (intro _ hqq9; cases hqq9; done) | fail) ?_; k_whole); intro k'q9 h'q9 tk'q9 F'q9 N'q9; (try k_sweep))) | (k_here; (with_reducible show wpAny _ _ (setItem (Value.ref _) (Value.int 0 _) _) _ _ _); k_dflt (refine setItem_list0 (by first | (k_asm; done) | fail) (by first | (k_asm; done) | fail) (by first | (k_updF; done) | fail) (by first | (assumption; done) | fail) (by first | (assumption; done) | fail) ?_; k_whole); intro h'q9 k'q9 F'q9 N'q9; rw [refs_set, List.set_cons_zero] at N'q9) | (k_here; (with_reducible show wpAny _ _ (subscriptTail _ _ (Value.ref _) (Value.int 0 _)) _ _ _); k_dflt (refine item_at (i := 0) (by first | (k_asm; done) | fail) (by first | (k_mem; done) | fail) (by first | (decide; done) | fail) (by first | (exact refs_get (by assumption); done) | fail) ?_; k_whole)) | (k_here; (with_reducible show wpAny _ _ (truthy (Value.ref _)) _ _ _); k_dflt (first | (refine truthy_none (by first | (k_asm; done) | fail) (by first | (k_mem; done) | fail) ?_; k_whole) | (refine truthy_refs (by first | (k_asm; done) | fail) (by first | (k_mem; done) | fail) (by first | (assumption; done) | fail) ?_; k_whole))) | (k_here; (with_reducible show wpAny _ _ (call (Value.builtin "list.pop") [Value.ref _]) _ _ _); k_dflt (refine pop_refs (by first | (k_asm; done) | fail) (by first | (k_asm; done) | fail) (by first | (intro _ hqq9; cases hqq9; done) | fail) (by first | (assumption; done) | fail) ?_; k_whole); intro h'q9 F'q9 N'q9; (try k_sweep)) | (k_here; (with_reducible show wpAny _ _ (call (Value.ref 112) [Value.ref _, Value.int _ _]) _ _ _); k_dflt (refine suG_line (by first | (k_asm; done) | fail) (by first | (k_asm; done) | fail) (by first | (assumption; done) | fail) (by first | (assumption; done) | fail) (by first | (assumption; done) | fail) (by first | (assumption; done) | fail) (by first | (assumption; done) | fail) (by first | (show Around.depth _ + 1 + 20 < recursionLimit; omega; done) | fail) (by first | (show Around.units _ + 3 + 100 < cLine; omega; done) | fail) (by first | (assumption; done) | fail) (by first | (intro _ hqq9; cases hqq9; done) | fail) ?_; k_whole); intro k'q9 h'q9 tk'q9 F'q9 N'q9; (try k_sweep)) | walk1) | (leave1; try dsimp only) | fail "no step")
  exact hQ _ _ _ (swapped_of (by assumption) (by assumption))
end
end Mine

end
section
-- ST
open PySem PySem.W PySem.Spec PySem.Calls PyProof.Rows
set_option Elab.async false
set_option maxRecDepth 100000
set_option maxHeartbeats 2000000
namespace Mine
theorem fillK8 : ∀ w : World, (hd0.heap_1 w.params).In default → PySem.Challenge.rw_nq0103_01.prog = PySem.Challenge.rw_nq0103_01.prog → True := by
  k_fill
  intros; trivial
section
variable {w : World} {A : Around} {s : Shared} {B : Heap} {p : Program} {loose : List Str} {mean : ExcName → Option Value} {mg mb : Str → Option Value} {Q E : Value → Shared → Prop} {i : Int} {t : Tok} {h₀ : Heap} {L : Addr} {m : Str → Option Value} {news : List (Addr × Obj)}
theorem imode (G : Deep w p loose mean mg mb B) (hB : Ext B s.heap) (hr : A.depth + 10 < recursionLimit)
    (hQ : ∀ h' tk' t', Ext s.heap h' → Q (.int (Builtin.bitAnd i 4095) t') { s with heap := h', toks := tk' }) :
    wpAny (model prog w) A (call (.ref 21) [.int i t]) Q E s := by
  have X : (hd0.heap_1 w.params).In s.heap := G.X.keeps hB
  have T := G.T.keeps hB
  refine wpAny_call ?_
  k_dflt (refine' enterP (binds := [("mode", .int i t)]) X T.nolimit ?k6 ?k7 ?k8 ?k9 ?kB ?_ ?c2 ?c3 ?c4 ?c5; (case k6 => k_is); (case k7 => k_is); (case k8 => omega); (case k9 => exact BindsTo.of_eq rfl); (case c5 => decide); (case kB => exact locs rfl); (case c2 => exact rfl); (case c3 => exact rfl); (case c4 => exact rfl))
  intro L h₁ F N
  have ex : Ext s.heap h₁ := F.keep
  dsimp only
  k_steps
  all_goals exact hQ _ _ _ ex
theorem imode_line (F : Fr h₀ L s.heap m) (N : News h₀ L s.heap news) (G : Deep w p loose mean mg mb B) (hB : Ext B h₀) (hr : A.depth + 10 < recursionLimit)
    (h : ∀ h' tk' t', Fr h₀ L h' m → News h₀ L h' news → Q (.int (Builtin.bitAnd i 4095) t') { s with heap := h', toks := tk' }) :
    wpAny (model prog w) A (call (.ref 21) [.int i t]) Q E s :=
  imode G (hB.trans F.keep) hr fun h' tk' t' x => h h' tk' t' (x.fr F) (x.news N)
theorem ifmt (G : Deep w p loose mean mg mb B) (hB : Ext B s.heap) (hr : A.depth + 10 < recursionLimit)
    (hQ : ∀ h' tk' t', Ext s.heap h' → Q (.int (Builtin.bitAnd i 61440) t') { s with heap := h', toks := tk' }) :
    wpAny (model prog w) A (call (.ref 28) [.int i t]) Q E s := by
  have X : (hd0.heap_1 w.params).In s.heap := G.X.keeps hB
  have T := G.T.keeps hB
  refine wpAny_call ?_
  k_dflt (refine' enterP (binds := [("mode", .int i t)]) X T.nolimit ?k6 ?k7 ?k8 ?k9 ?kB ?_ ?c2 ?c3 ?c4 ?c5; (case k6 => k_is); (case k7 => k_is); (case k8 => omega); (case k9 => exact BindsTo.of_eq rfl); (case c5 => decide); (case kB => exact locs rfl); (case c2 => exact rfl); (case c3 => exact rfl); (case c4 => exact rfl))
  intro L h₁ F N
  have ex : Ext s.heap h₁ := F.keep
  dsimp only
  k_steps
  all_goals exact hQ _ _ _ ex
theorem ifmt_line (F : Fr h₀ L s.heap m) (N : News h₀ L s.heap news) (G : Deep w p loose mean mg mb B) (hB : Ext B h₀) (hr : A.depth + 10 < recursionLimit)
    (h : ∀ h' tk' t', Fr h₀ L h' m → News h₀ L h' news → Q (.int (Builtin.bitAnd i 61440) t') { s with heap := h', toks := tk' }) :
    wpAny (model prog w) A (call (.ref 28) [.int i t]) Q E s :=
  ifmt G (hB.trans F.keep) hr fun h' tk' t' x => h h' tk' t' (x.fr F) (x.news N)
end
end Mine

end
section
-- DN
open PySem PySem.W PySem.Spec PySem.Calls PyProof.Rows
set_option Elab.async false
set_option maxRecDepth 100000
set_option maxHeartbeats 2000000
namespace Mine
theorem fillK9 : ∀ w : World, (hd0.heap_1 w.params).In default → PySem.Challenge.rw_nq0103_01.prog = PySem.Challenge.rw_nq0103_01.prog → True := by
  k_fill
  intros; trivial
theorem fmod3_lt (q : Int) : (q.fmod 3).toNat < 3 := by
  have h1 := Int.fmod_lt_of_pos q (b := 3) (by decide)
  have h2 := Int.fmod_nonneg_of_pos q (b := 3) (by decide)
  omega
theorem pow8_py (q a : Int) : Builtin.divisionGoesByPylong a (8 ^ (q.fmod 3).toNat) = false := by
  have h := fmod3_lt q
  refine PyProof.noPylong_of_log2 ?_
  generalize (q.fmod 3).toNat = n at h
  match n, h with
  | 0, _ => decide +kernel
  | 1, _ => decide +kernel
  | 2, _ => decide +kernel
/-- what _law_done gives -/
noncomputable def doneV (mo k q : Int) : Int :=
  if k = 0 then Builtin.bitOr (Builtin.bitOr (Builtin.bitAnd mo 61440) (Builtin.bitAnd mo 4095)) (Builtin.bitAnd q 4095)
  else if k = 1 then Builtin.bitOr (Builtin.bitAnd mo 61440) (Builtin.bitXor (Builtin.bitAnd mo 4095) (Builtin.bitAnd (Builtin.bitAnd mo 4095) (Builtin.bitAnd q 4095)))
  else if k = 2 then Builtin.bitOr (Builtin.bitAnd mo 61440) (Builtin.bitXor (Builtin.bitAnd mo 4095) (Builtin.bitAnd q 4095))
  else Builtin.bitAnd mo 61440 + Builtin.bitAnd mo 4095 + (((Builtin.bitAnd mo 4095).fdiv (8 ^ (q.fmod 3).toNat)).fmod 8 - ((Builtin.bitAnd mo 4095).fdiv (8 ^ ((q.fdiv 3).fmod 3).toNat)).fmod 8) * 8 ^ ((q.fdiv 3).fmod 3).toNat
theorem ext_back1 {h h' h₂ : Heap} {L d : Addr} {o : Obj} {m : Str → Option Value} {news : List (Addr × Obj)} (h1 : h.get? d = some o) (F : Fr (hideAll h [d]) L h' m) (N : News (hideAll h [d]) L h' news) (hm : (d, o) ∈ news) (e : h' = h₂) : Ext h h₂ := fun b ob eb => by
  subst e
  by_cases hb : b = d
  · subst hb
    rw [h1] at eb
    cases eb
    exact (N _ hm).1
  · exact F.keep b ob (hideAll_get _ eb (by simpa using hb))
section
variable {w : World} {dp un : Nat} {fr : Option (List Env)} {gd : Option (List Code)} {s : Shared} {B : Heap} {p : Program} {loose : List Str} {mean : ExcName → Option Value} {mg mb : Str → Option Value} {Q E : Value → Shared → Prop} {mo h k q j : Int} {t t1 t2 t3 t4 : Tok} {d : Addr}
theorem done_raw (G : Deep w p loose mean mg mb B) (hB : Ext B s.heap) (nd : B.get? d = none) (hr : dp + 20 < recursionLimit)
    (h1 : s.heap.get? d = some (tup4 h k q j t1 t2 t3 t4)) (b1 : 0 ≤ k ∧ k < 4 ∧ 0 ≤ q)
    (hQ : ∀ v h' tk' t', v = doneV mo k q → Ext s.heap h' → Q (.int v t') { s with heap := h', toks := tk' }) :
    wpAny (model prog w) { handled := none, depth := dp, frames := fr, guards := gd, units := un } (call (.ref 126) [.int mo t, .ref d]) Q E s := by
  have hh : Ext B (hideAll s.heap [d]) := hB.hide (by intro y hy; rw [List.mem_singleton.mp hy]; exact nd)
  have X' : (hd0.heap_1 w.params).In (hideAll s.heap [d]) := G.X.keeps hh
  have T' := G.T.keeps hh
  have X : (hd0.heap_1 w.params).In s.heap := G.X.keeps hB
  refine wpAny_call ?_
  k_dflt (refine' enterM (muts := [(d, tup4 h k q j t1 t2 t3 t4)]) (binds := [("mode", .int mo t), ("deed", .ref d)]) ?hm X (G.T.nolimit.keeps hB) ?k6 ?k7 ?k8 ?k9 ?kB ?_ ?c2 ?c3 ?c4 ?c5; (case hm => simpa using h1); (case k6 => k_is); (case k7 => k_is); (case k8 => (show dp < recursionLimit; omega)); (case k9 => exact BindsTo.of_eq rfl); (case c5 => decide); (case kB => exact locs rfl); (case c2 => exact rfl); (case c3 => exact rfl); (case c4 => exact rfl))
  intro L h₁ hl F N
  clear X
  dsimp only [List.map] at F N
  clear hl
  have z1 : (8 : Int) ^ (q.fmod 3).toNat ≠ 0 := Int.pow_ne_zero (by decide)
  have z2 : (8 : Int) ^ ((q.fdiv 3).fmod 3).toNat ≠ 0 := Int.pow_ne_zero (by decide)
  dsimp only
  repeat' (first | (k_unfold; (try dsimp only)) | (k_end; wrow_close) | (with_reducible ((with_reducible show wpAny _ _ (binaryOp Operator.FloorDiv (Value.int _ _) (Value.int _ _)) _ _ _); with_reducible refine floordiv_int (Int.pow_ne_zero (by decide)) ?_ (Or.inl (pow8_py _ _)))) | (with_reducible (k_here; (with_reducible show wpAny _ _ (call (Value.ref 28) [Value.int _ _]) _ _ _); k_dflt (refine ifmt_line (by first | (k_asm; done) | fail) (by first | (k_asm; done) | fail) (by first | (assumption; done) | fail) (by first | (assumption; done) | fail) (by first | (simp only [Around.deeper]; omega; done) | fail) ?_; k_whole); intro h'q9 tk'q9 t'q9 F'q9 N'q9; (try k_sweep))) | (with_reducible (k_here; (with_reducible show wpAny _ _ (call (Value.ref 21) [Value.int _ _]) _ _ _); k_dflt (refine imode_line (by first | (k_asm; done) | fail) (by first | (k_asm; done) | fail) (by first | (assumption; done) | fail) (by first | (assumption; done) | fail) (by first | (simp only [Around.deeper]; omega; done) | fail) ?_; k_whole); intro h'q9 tk'q9 t'q9 F'q9 N'q9; (try k_sweep))) | ((with_reducible show wpAny _ _ (binaryOp Operator.FloorDiv (Value.int _ _) (Value.int _ _)) _ _ _); with_reducible refine floordiv_int (Int.pow_ne_zero (by decide)) ?_ (Or.inl (pow8_py _ _))) | (k_here; (with_reducible show wpAny _ _ (call (Value.ref 28) [Value.int _ _]) _ _ _); k_dflt (refine ifmt_line (by first | (k_asm; done) | fail) (by first | (k_asm; done) | fail) (by first | (assumption; done) | fail) (by first | (assumption; done) | fail) (by first | (simp only [Around.deeper]; omega; done) | fail) ?_; k_whole); intro h'q9 tk'q9 t'q9 F'q9 N'q9; (try k_sweep)) | (k_here; (with_reducible show wpAny _ _ (call (Value.ref 21) [Value.int _ _]) _ _ _); k_dflt (refine imode_line (by first | (k_asm; done) | fail) (by first | (k_asm; done) | fail) (by first | (assumption; done) | fail) (by first | (assumption; done) | fail) (by first | (simp only [Around.deeper]; omega; done) | fail) ?_; k_whole); intro h'q9 tk'q9 t'q9 F'q9 N'q9; (try k_sweep)) | (walk1 <;> (try dsimp only)) | (dsimp only; first | (with_reducible ((with_reducible show wpAny _ _ (binaryOp Operator.FloorDiv (Value.int _ _) (Value.int _ _)) _ _ _); with_reducible refine floordiv_int (Int.pow_ne_zero (by decide)) ?_ (Or.inl (pow8_py _ _)))) | (with_reducible (k_here; (with_reducible show wpAny _ _ (call (Value.ref 28) [Value.int _ _]) _ _ _); k_dflt (refine ifmt_line (by first | (k_asm; done) | fail) (by first | (k_asm; done) | fail) (by first | (assumption; done) | fail) (by first | (assumption; done) | fail) (by first | (simp only [Around.deeper]; omega; done) | fail) ?_; k_whole); intro h'q9 tk'q9 t'q9 F'q9 N'q9; (try k_sweep))) | (with_reducible (k_here; (with_reducible show wpAny _ _ (call (Value.ref 21) [Value.int _ _]) _ _ _); k_dflt (refine imode_line (by first | (k_asm; done) | fail) (by first | (k_asm; done) | fail) (by first | (assumption; done) | fail) (by first | (assumption; done) | fail) (by first | (simp only [Around.deeper]; omega; done) | fail) ?_; k_whole); intro h'q9 tk'q9 t'q9 F'q9 N'q9; (try k_sweep))) | ((with_reducible show wpAny _ _ (binaryOp Operator.FloorDiv (Value.int _ _) (Value.int _ _)) _ _ _); with_reducible refine floordiv_int (Int.pow_ne_zero (by decide)) ?_ (Or.inl (pow8_py _ _))) | (k_here; (with_reducible show wpAny _ _ (call (Value.ref 28) [Value.int _ _]) _ _ _); k_dflt (refine ifmt_line (by first | (k_asm; done) | fail) (by first | (k_asm; done) | fail) (by first | (assumption; done) | fail) (by first | (assumption; done) | fail) (by first | (simp only [Around.deeper]; omega; done) | fail) ?_; k_whole); intro h'q9 tk'q9 t'q9 F'q9 N'q9; (try k_sweep)) | (k_here; (with_reducible show wpAny _ _ (call (Value.ref 21) [Value.int _ _]) _ _ _); k_dflt (refine imode_line (by first | (k_asm; done) | fail) (by first | (k_asm; done) | fail) (by first | (assumption; done) | fail) (by first | (assumption; done) | fail) (by first | (simp only [Around.deeper]; omega; done) | fail) ?_; k_whole); intro h'q9 tk'q9 t'q9 F'q9 N'q9; (try k_sweep)) | walk1) | (leave1; try dsimp only) | fail "no step")
  all_goals (refine' hQ _ _ _ _ ?e ?x; (case x => exact ext_back1 h1 (by assumption) (by assumption) (by first | exact .head _ | exact .tail _ (.head _) | exact .tail _ (.tail _ (.head _)) | exact .tail _ (.tail _ (.tail _ (.head _)))) rfl); (case e => simp [doneV, *]))
end
end Mine

end
section
-- RE
open PySem PySem.W PySem.Spec PySem.Calls PyProof.Rows
set_option Elab.async false
set_option maxRecDepth 100000
set_option maxHeartbeats 2000000
namespace Mine
theorem fillK10 : ∀ w : World, (hd0.heap_1 w.params).In default → PySem.Challenge.rw_nq0103_01.prog = PySem.Challenge.rw_nq0103_01.prog → True := by
  k_fill
  intros; trivial
/-- a deed: hour, kind, which, told -/
structure Deed where
  h : Int
  k : Int
  q : Int
  j : Int
noncomputable def Deed.ok (d : Deed) : Prop := 0 ≤ d.h ∧ 0 ≤ d.k ∧ d.k < 4 ∧ 0 ≤ d.q ∧ 0 ≤ d.j ∧ d.j < 8
noncomputable def DeedAt (hp : Heap) (a : Addr) (d : Deed) : Prop := ∃ t1 t2 t3 t4, hp.get? a = some (tup4 d.h d.k d.q d.j t1 t2 t3 t4)
theorem DeedAt.keeps {h h' : Heap} {a : Addr} {d : Deed} (x : DeedAt h a d) (k : Ext h h') : DeedAt h' a d := by
  obtain ⟨t1, t2, t3, t4, e⟩ := x
  exact ⟨t1, t2, t3, t4, k _ _ e⟩
theorem DeedAt.hide {h h' : Heap} {a : Addr} {d : Deed} (x : DeedAt h a d) (k : ∀ b o, notList o = true → h.get? b = some o → h'.get? b = some o) : DeedAt h' a d := by
  obtain ⟨t1, t2, t3, t4, e⟩ := x
  exact ⟨t1, t2, t3, t4, k _ _ rfl e⟩
noncomputable def refsD (ds : List (Addr × Deed)) : List Value := ds.map fun p => Value.ref p.1
noncomputable abbrev itObj (l : Addr) : Obj := { cls := .type "list_iterator", data := .fields #[.ref l, .int 0 0] }
section
variable {prog : Program} {w : World} {A : Around} {E : Value → Shared → Prop} {s : Shared} {h₀ : Heap} {L d I ax : Addr} {m : Str → Option Value} {news : List (Addr × Obj)} {o lo : Obj} {items : Array Value} {n : Nat} {vs : List Value} {env : Env} {target : Expr} {body : List Stmt}
theorem it_list {Q : Value → Shared → Prop} (F : Fr h₀ L s.heap m) (N : News h₀ L s.heap news) (hp : (d, o) ∈ news) (hc : o.cls = .type "list") (hd : o.data = .seq items n)
    (h : ∀ (I : Addr) h', Fr h₀ L h' m → News h₀ L h' ((I, itObj d) :: news) → (∀ p ∈ news, p.1 < I) → Q (.ref I) { s with heap := h' }) :
    wpAny (model prog w) A (call (.builtin "iter") [.ref d]) Q E s := by
  refine call_function_entry (by decide +kernel) (by decide +kernel) kdk_entry_iter (kdk_args_iter _) ?_
  unfold Builtin.«iter»
  refine wpAny_bind (m := someArgs "iter" 1 2 _) (wpAny_of_eq (a := [Value.ref d]) (by first | rfl | kernel_rfl!) ?_)
  show wpAny _ _ (pyIter (.ref d) >>= _) _ _ _
  have hl : s.heap.IsList d items := ⟨o, (N _ hp).1, hc, n, hd⟩
  refine wpAny_bind (wpAny_pyIter_list hl ?_)
  exact wpAny_pure ⟨_, rfl, h _ _ (F.push _) (News.push F N _ rfl) (fun q hq => Heap.lt_size (N q hq).1)⟩
/-- for x in it, it an iterator that iter(list) has given -/
theorem iter_itTurns {Q : Flow → Shared → Prop} (hh : A.handled = none) (F : Fr h₀ env.locals s.heap m) (N : News h₀ env.locals s.heap ((I, itObj ax) :: news)) (hm : (ax, lo) ∈ news) (hc : lo.cls = .type "list") (hd : lo.data = .seq vs.toArray n) (hI : ∀ p ∈ news, p.1 < I)
    (rest : ItemsRest prog w A E h₀ env target body Q s [(I, "list_iterator")] [(ax, lo)] (vs.map .val) m news) :
    wpAny (model prog w) A (pyIter (.ref I)) (fun it s₂ => TurnsAt prog w A h₀ env target body Q E it s₂) E s := by
  have hi := N _ (.head _)
  have hax := N _ (.tail _ hm)
  have hl : s.heap.IsList ax vs.toArray := ⟨lo, hax.1, hc, n, hd⟩
  have hit : s.heap.IsListIter I ax 0 := ⟨_, hi.1, rfl, rfl⟩
  have hne : ax ≠ I := Nat.ne_of_lt (hI _ hm)
  refine wpAny_pyIter_listiter hit ?_
  have W := Walks.list (prog := prog) (w := w) hh I ax hne vs.toArray
  refine ktu_core (s := s) (tk0 := s.toks) (keep := [(ax, lo)]) (KTurns.ofWalks W fun i v s Q E st q => letGo_listiter st.1 q) (by simp) (fun i v h hp => ⟨.val v, ?_, rfl⟩) (fun i h st => ?_) (fun b hb => ?_) (fun b hb => by simpa using hb) (fun b hb => ?_) ?_ (fun p hp hJ => ?_) ⟨hit, hl⟩ F (fun p hp => N p (.tail _ hp)) (And.intro hm trivial) rest
  · have hp' : vs.toArray[i]? = some v := hp
    simpa using hp'
  · obtain ⟨it, hit, hic, _⟩ := st.1
    exact ⟨[(I, it)], ⟨⟨rfl, hic⟩, trivial⟩, fun p hp => by rw [List.mem_singleton.mp hp]; exact hit⟩
  · have hb' : b = I := by simpa using hb
    rw [hb']
    exact ⟨List.mem_cons_self .., hi.2.2⟩
  · have hb' : b = I ∨ b = ax := by simpa using hb
    rcases hb' with e | e
    · exact .inl (by simp [e])
    · exact .inr ⟨lo, by simp [e]⟩
  · intro hJ
    rcases List.mem_cons.mp hJ with e | hJ
    · exact hi.2.1 e.symm
    · exact hax.2.1 (List.mem_singleton.mp hJ).symm
  · exact absurd (hI p hp) ((List.mem_singleton.mp hJ) ▸ Nat.lt_irrefl _)
end
/-- a loop over any list by an invariant over what is left, the names and the ledger -/
theorem items_ind {prog : Program} {w : World} {A : Around} {E : Value → Shared → Prop} {s : Shared} {h₀ : Heap} {env : Env} {target : Expr} {body : List Stmt} {Q : Flow → Shared → Prop} {ws : List (Addr × String)} {keep : List (Addr × Obj)} {α : Type} (f : α → Itm)
    (J : List α → (Str → Option Value) → List (Addr × Obj) → Prop)
    (h0 : ∀ m news, J [] m news → ∀ h tk, Fr h₀ env.locals h m → News h₀ env.locals h news → Q .next { s with heap := h, toks := tk })
    (hs : ∀ a r m news, J (a :: r) m news → (∀ m' news', J r m' news' → ItemsRest prog w A E h₀ env target body Q s ws keep (r.map f) m' news') → ItemsRest prog w A E h₀ env target body Q s ws keep (f a :: r.map f) m news) :
    ∀ l m news, J l m news → ItemsRest prog w A E h₀ env target body Q s ws keep (l.map f) m news
  | [], m, news, h => h0 m news h
  | a :: r, m, news, h => hs a r m news h (items_ind f J h0 hs r)
section
variable {w : World} {dp un : Nat} {fr : Option (List Env)} {gd : Option (List Code)} {s : Shared} {B h₀ : Heap} {p : Program} {loose : List Str} {mean : ExcName → Option Value} {mg mb : Str → Option Value} {Q E : Value → Shared → Prop} {mo : Int} {t : Tok} {a L : Addr} {d : Deed} {m : Str → Option Value} {news : List (Addr × Obj)}
theorem done_line (F : Fr h₀ L s.heap m) (N : News h₀ L s.heap news) (hm : DeedAt h₀ a d) (G : Deep w p loose mean mg mb B) (hB : Ext B h₀) (nd : B.get? a = none) (hr : dp + 20 < recursionLimit) (b1 : d.ok)
    (hh : ∀ v h' tk' t', v = doneV mo d.k d.q → Fr h₀ L h' m → News h₀ L h' news → Q (.int v t') { s with heap := h', toks := tk' }) :
    wpAny (model prog w) { handled := none, depth := dp, frames := fr, guards := gd, units := un } (call (.ref 126) [.int mo t, .ref a]) Q E s := by
  obtain ⟨t1, t2, t3, t4, e⟩ := hm
  exact done_raw G (hB.trans F.keep) nd hr (F.keep _ _ e) ⟨b1.2.1, b1.2.2.1, b1.2.2.2.1⟩ fun v h' tk' t' e x => hh v h' tk' t' e (x.fr F) (x.news N)
end
section
variable {w : World} {dp un : Nat} {fr : Option (List Env)} {gd : Option (List Code)} {s : Shared} {B : Heap} {p : Program} {loose : List Str} {mean : ExcName → Option Value} {mg mb : Str → Option Value} {Q E : Value → Shared → Prop} {mo : Int} {t : Tok} {rw : Addr} {n : Nat}
noncomputable def doneF (mo : Int) (ds : List (Addr × Deed)) : Int := ds.foldl (fun m d => doneV m d.2.k d.2.q) mo
inductive ReJ (rw : Addr) (ds : List (Addr × Deed)) (n : Nat) (mo : Int) (r : List (Addr × Deed)) (m : Str → Option Value) (news : List (Addr × Obj)) : Prop
  | mk (_ : news = [(rw, listOf (refsD ds).toArray n)]) (_ : ∃ v t, m "value" = some (.int v t) ∧ doneF v r = doneF mo ds) (_ : m "function" = some (.ref 126)) (_ : ∀ q ∈ r, q ∈ ds) : ReJ rw ds n mo r m news
theorem red_raw (ds : List (Addr × Deed)) (G : Deep w p loose mean mg mb B) (hB : Ext B s.heap) (nr : B.get? rw = none) (hr : dp + 30 < recursionLimit)
    (hds : ∀ q ∈ ds, B.get? q.1 = none ∧ DeedAt s.heap q.1 q.2 ∧ q.2.ok)
    (g : s.heap.get? rw = some (listOf (refsD ds).toArray n))
    (hQ : ∀ v h' tk' t', v = doneF mo ds → Ext s.heap h' → Q (.int v t') { s with heap := h', toks := tk' }) :
    wpAny (model prog w) { handled := none, depth := dp, frames := fr, guards := gd, units := un } (call (.ref 84) [.ref 126, .ref rw, .int mo t]) Q E s := by
  have hh : Ext B (hideAll s.heap [rw]) := hB.hide (by intro y hy; rw [List.mem_singleton.mp hy]; exact nr)
  have hk := hide_lists (h := s.heap) (l := [rw]) (by intro y hy; rw [List.mem_singleton.mp hy]; exact ⟨_, g, rfl⟩)
  have hds' : ∀ q ∈ ds, B.get? q.1 = none ∧ DeedAt (hideAll s.heap [rw]) q.1 q.2 ∧ q.2.ok := fun q hq => ⟨(hds q hq).1, (hds q hq).2.1.hide hk, (hds q hq).2.2⟩
  have X' : (hd0.heap_1 w.params).In (hideAll s.heap [rw]) := G.X.keeps hh
  have T' := G.T.keeps hh
  have X : (hd0.heap_1 w.params).In s.heap := G.X.keeps hB
  refine wpAny_call ?_
  k_dflt (refine' enterM (muts := [(rw, listOf (refsD ds).toArray n)]) (binds := [("function", .ref 126), ("sequence", .ref rw), ("initial", .int mo t)]) ?hm X (G.T.nolimit.keeps hB) ?k6 ?k7 ?k8 ?k9 ?kB ?_ ?c2 ?c3 ?c4 ?c5; (case hm => simpa using g); (case k6 => k_is); (case k7 => k_is); (case k8 => (show dp < recursionLimit; omega)); (case k9 => exact binds_K X rfl (by k_is) rfl rfl rfl); (case c5 => decide); (case kB => exact locs rfl); (case c2 => exact rfl); (case c3 => exact rfl); (case c4 => exact rfl))
  intro L h₁ hl F N
  clear X hds
  dsimp only [List.map] at F N
  clear hl
  dsimp only
  repeat' (first | (k_unfold; (try dsimp only)) | (k_end; wrow_close) | (with_reducible ((with_reducible show wpAny _ _ (exec (PySem.Stmt.For (PySem.Expr.Name _ _) (PySem.Expr.Name _ _) _ [] _) _) _ _ _); k_here; (rename Fr _ _ _ _ => lF'q9); (with_unfolding_all refine' For_turns lF'q9 ?_; k_whole))) | (with_reducible (k_here; (with_reducible show wpAny _ _ (compareOp CmpOp.Is (Value.int _ _) (Value.ref _)) _ _ _); refine wpAny_is_other (by rfl) (by intro xq9; cases xq9) ?_)) | (with_reducible (k_here; (with_reducible show wpAny _ _ (call (Value.builtin "iter") [Value.ref _]) _ _ _); k_dflt (refine it_list (by k_asm) (by k_asm) (by k_mem) rfl rfl ?_); intro D'q9 h'q9 F'q9 N'q9 l1q9)) | (with_reducible (k_here; (with_reducible show wpAny _ _ (call (Value.ref 126) [Value.int _ _, Value.ref _]) _ _ _); k_dflt (refine done_line (by first | (k_asm; done) | fail) (by first | (k_asm; done) | fail) (by first | (assumption; done) | fail) (by first | (assumption; done) | fail) (by first | (assumption; done) | fail) (by first | (assumption; done) | fail) (by first | (simp only [Around.deeper]; omega; done) | fail) (by first | (assumption; done) | fail) ?_; k_whole); intro v'q9 h'q9 tk'q9 t'q9 e'q9 F'q9 N'q9; (try k_sweep))) | ((with_reducible show wpAny _ _ (exec (PySem.Stmt.For (PySem.Expr.Name _ _) (PySem.Expr.Name _ _) _ [] _) _) _ _ _); k_here; (rename Fr _ _ _ _ => lF'q9); (with_unfolding_all refine' For_turns lF'q9 ?_; k_whole)) | (k_here; (with_reducible show wpAny _ _ (compareOp CmpOp.Is (Value.int _ _) (Value.ref _)) _ _ _); refine wpAny_is_other (by rfl) (by intro xq9; cases xq9) ?_) | (k_here; (with_reducible show wpAny _ _ (call (Value.builtin "iter") [Value.ref _]) _ _ _); k_dflt (refine it_list (by k_asm) (by k_asm) (by k_mem) rfl rfl ?_); intro D'q9 h'q9 F'q9 N'q9 l1q9) | (k_here; (with_reducible show wpAny _ _ (call (Value.ref 126) [Value.int _ _, Value.ref _]) _ _ _); k_dflt (refine done_line (by first | (k_asm; done) | fail) (by first | (k_asm; done) | fail) (by first | (assumption; done) | fail) (by first | (assumption; done) | fail) (by first | (assumption; done) | fail) (by first | (assumption; done) | fail) (by first | (simp only [Around.deeper]; omega; done) | fail) (by first | (assumption; done) | fail) ?_; k_whole); intro v'q9 h'q9 tk'q9 t'q9 e'q9 F'q9 N'q9; (try k_sweep)) | (walk1 <;> (try dsimp only)) | (dsimp only; first | (with_reducible ((with_reducible show wpAny _ _ (exec (PySem.Stmt.For (PySem.Expr.Name _ _) (PySem.Expr.Name _ _) _ [] _) _) _ _ _); k_here; (rename Fr _ _ _ _ => lF'q9); (with_unfolding_all refine' For_turns lF'q9 ?_; k_whole))) | (with_reducible (k_here; (with_reducible show wpAny _ _ (compareOp CmpOp.Is (Value.int _ _) (Value.ref _)) _ _ _); refine wpAny_is_other (by rfl) (by intro xq9; cases xq9) ?_)) | (with_reducible (k_here; (with_reducible show wpAny _ _ (call (Value.builtin "iter") [Value.ref _]) _ _ _); k_dflt (refine it_list (by k_asm) (by k_asm) (by k_mem) rfl rfl ?_); intro D'q9 h'q9 F'q9 N'q9 l1q9)) | (with_reducible (k_here; (with_reducible show wpAny _ _ (call (Value.ref 126) [Value.int _ _, Value.ref _]) _ _ _); k_dflt (refine done_line (by first | (k_asm; done) | fail) (by first | (k_asm; done) | fail) (by first | (assumption; done) | fail) (by first | (assumption; done) | fail) (by first | (assumption; done) | fail) (by first | (assumption; done) | fail) (by first | (simp only [Around.deeper]; omega; done) | fail) (by first | (assumption; done) | fail) ?_; k_whole); intro v'q9 h'q9 tk'q9 t'q9 e'q9 F'q9 N'q9; (try k_sweep))) | ((with_reducible show wpAny _ _ (exec (PySem.Stmt.For (PySem.Expr.Name _ _) (PySem.Expr.Name _ _) _ [] _) _) _ _ _); k_here; (rename Fr _ _ _ _ => lF'q9); (with_unfolding_all refine' For_turns lF'q9 ?_; k_whole)) | (k_here; (with_reducible show wpAny _ _ (compareOp CmpOp.Is (Value.int _ _) (Value.ref _)) _ _ _); refine wpAny_is_other (by rfl) (by intro xq9; cases xq9) ?_) | (k_here; (with_reducible show wpAny _ _ (call (Value.builtin "iter") [Value.ref _]) _ _ _); k_dflt (refine it_list (by k_asm) (by k_asm) (by k_mem) rfl rfl ?_); intro D'q9 h'q9 F'q9 N'q9 l1q9) | (k_here; (with_reducible show wpAny _ _ (call (Value.ref 126) [Value.int _ _, Value.ref _]) _ _ _); k_dflt (refine done_line (by first | (k_asm; done) | fail) (by first | (k_asm; done) | fail) (by first | (assumption; done) | fail) (by first | (assumption; done) | fail) (by first | (assumption; done) | fail) (by first | (assumption; done) | fail) (by first | (simp only [Around.deeper]; omega; done) | fail) (by first | (assumption; done) | fail) ?_; k_whole); intro v'q9 h'q9 tk'q9 t'q9 e'q9 F'q9 N'q9; (try k_sweep)) | walk1) | (leave1; try dsimp only) | fail "no step")
  have em : (refsD ds).map Itm.val = ds.map fun q => Itm.val (.ref q.1) := by simp [refsD]
  refine iter_itTurns (vs := refsD ds) rfl (by assumption) (by assumption) (.head _) rfl rfl (by assumption) ?_
  rw [em]
  refine items_ind (fun q => Itm.val (.ref q.1)) (ReJ rw ds n mo) ?_ ?_ ds _ _ ?_
  rotate_left 2
  · exact ⟨rfl, ⟨mo, t, rfl, rfl⟩, rfl, fun _ h => h⟩
  · rintro m news ⟨rfl, ⟨v, tv, hv, e⟩, -, -⟩ h tk F N
    rw [norm1 hv] at F
    repeat' (first | (k_unfold; (try dsimp only)) | (k_end; wrow_close) | (with_reducible ((with_reducible show wpAny _ _ (exec (PySem.Stmt.For (PySem.Expr.Name _ _) (PySem.Expr.Name _ _) _ [] _) _) _ _ _); k_here; (rename Fr _ _ _ _ => lF'q9); (with_unfolding_all refine' For_turns lF'q9 ?_; k_whole))) | (with_reducible (k_here; (with_reducible show wpAny _ _ (compareOp CmpOp.Is (Value.int _ _) (Value.ref _)) _ _ _); refine wpAny_is_other (by rfl) (by intro xq9; cases xq9) ?_)) | (with_reducible (k_here; (with_reducible show wpAny _ _ (call (Value.builtin "iter") [Value.ref _]) _ _ _); k_dflt (refine it_list (by k_asm) (by k_asm) (by k_mem) rfl rfl ?_); intro D'q9 h'q9 F'q9 N'q9 l1q9)) | (with_reducible (k_here; (with_reducible show wpAny _ _ (call (Value.ref 126) [Value.int _ _, Value.ref _]) _ _ _); k_dflt (refine done_line (by first | (k_asm; done) | fail) (by first | (k_asm; done) | fail) (by first | (assumption; done) | fail) (by first | (assumption; done) | fail) (by first | (assumption; done) | fail) (by first | (assumption; done) | fail) (by first | (simp only [Around.deeper]; omega; done) | fail) (by first | (assumption; done) | fail) ?_; k_whole); intro v'q9 h'q9 tk'q9 t'q9 e'q9 F'q9 N'q9; (try k_sweep))) | ((with_reducible show wpAny _ _ (exec (PySem.Stmt.For (PySem.Expr.Name _ _) (PySem.Expr.Name _ _) _ [] _) _) _ _ _); k_here; (rename Fr _ _ _ _ => lF'q9); (with_unfolding_all refine' For_turns lF'q9 ?_; k_whole)) | (k_here; (with_reducible show wpAny _ _ (compareOp CmpOp.Is (Value.int _ _) (Value.ref _)) _ _ _); refine wpAny_is_other (by rfl) (by intro xq9; cases xq9) ?_) | (k_here; (with_reducible show wpAny _ _ (call (Value.builtin "iter") [Value.ref _]) _ _ _); k_dflt (refine it_list (by k_asm) (by k_asm) (by k_mem) rfl rfl ?_); intro D'q9 h'q9 F'q9 N'q9 l1q9) | (k_here; (with_reducible show wpAny _ _ (call (Value.ref 126) [Value.int _ _, Value.ref _]) _ _ _); k_dflt (refine done_line (by first | (k_asm; done) | fail) (by first | (k_asm; done) | fail) (by first | (assumption; done) | fail) (by first | (assumption; done) | fail) (by first | (assumption; done) | fail) (by first | (assumption; done) | fail) (by first | (simp only [Around.deeper]; omega; done) | fail) (by first | (assumption; done) | fail) ?_; k_whole); intro v'q9 h'q9 tk'q9 t'q9 e'q9 F'q9 N'q9; (try k_sweep)) | (walk1 <;> (try dsimp only)) | (dsimp only; first | (with_reducible ((with_reducible show wpAny _ _ (exec (PySem.Stmt.For (PySem.Expr.Name _ _) (PySem.Expr.Name _ _) _ [] _) _) _ _ _); k_here; (rename Fr _ _ _ _ => lF'q9); (with_unfolding_all refine' For_turns lF'q9 ?_; k_whole))) | (with_reducible (k_here; (with_reducible show wpAny _ _ (compareOp CmpOp.Is (Value.int _ _) (Value.ref _)) _ _ _); refine wpAny_is_other (by rfl) (by intro xq9; cases xq9) ?_)) | (with_reducible (k_here; (with_reducible show wpAny _ _ (call (Value.builtin "iter") [Value.ref _]) _ _ _); k_dflt (refine it_list (by k_asm) (by k_asm) (by k_mem) rfl rfl ?_); intro D'q9 h'q9 F'q9 N'q9 l1q9)) | (with_reducible (k_here; (with_reducible show wpAny _ _ (call (Value.ref 126) [Value.int _ _, Value.ref _]) _ _ _); k_dflt (refine done_line (by first | (k_asm; done) | fail) (by first | (k_asm; done) | fail) (by first | (assumption; done) | fail) (by first | (assumption; done) | fail) (by first | (assumption; done) | fail) (by first | (assumption; done) | fail) (by first | (simp only [Around.deeper]; omega; done) | fail) (by first | (assumption; done) | fail) ?_; k_whole); intro v'q9 h'q9 tk'q9 t'q9 e'q9 F'q9 N'q9; (try k_sweep))) | ((with_reducible show wpAny _ _ (exec (PySem.Stmt.For (PySem.Expr.Name _ _) (PySem.Expr.Name _ _) _ [] _) _) _ _ _); k_here; (rename Fr _ _ _ _ => lF'q9); (with_unfolding_all refine' For_turns lF'q9 ?_; k_whole)) | (k_here; (with_reducible show wpAny _ _ (compareOp CmpOp.Is (Value.int _ _) (Value.ref _)) _ _ _); refine wpAny_is_other (by rfl) (by intro xq9; cases xq9) ?_) | (k_here; (with_reducible show wpAny _ _ (call (Value.builtin "iter") [Value.ref _]) _ _ _); k_dflt (refine it_list (by k_asm) (by k_asm) (by k_mem) rfl rfl ?_); intro D'q9 h'q9 F'q9 N'q9 l1q9) | (k_here; (with_reducible show wpAny _ _ (call (Value.ref 126) [Value.int _ _, Value.ref _]) _ _ _); k_dflt (refine done_line (by first | (k_asm; done) | fail) (by first | (k_asm; done) | fail) (by first | (assumption; done) | fail) (by first | (assumption; done) | fail) (by first | (assumption; done) | fail) (by first | (assumption; done) | fail) (by first | (simp only [Around.deeper]; omega; done) | fail) (by first | (assumption; done) | fail) ?_; k_whole); intro v'q9 h'q9 tk'q9 t'q9 e'q9 F'q9 N'q9; (try k_sweep)) | walk1) | (leave1; try dsimp only) | fail "no step")
    have ex : Ext s.heap h := ext_back1 g F N (.head _) rfl
    exact hQ _ _ _ _ e ex
  · rintro ⟨a, d⟩ r m news ⟨rfl, ⟨v, tv, hv, e⟩, hf, hr⟩ IH
    obtain ⟨nd, hda, hok⟩ := hds' (a, d) (hr _ (.head _))
    dsimp only at nd hda hok
    rw [norm1 hv, norm1 hf]
    repeat' (first | (k_unfold; (try dsimp only)) | (k_end; wrow_close) | (with_reducible ((with_reducible show wpAny _ _ (exec (PySem.Stmt.For (PySem.Expr.Name _ _) (PySem.Expr.Name _ _) _ [] _) _) _ _ _); k_here; (rename Fr _ _ _ _ => lF'q9); (with_unfolding_all refine' For_turns lF'q9 ?_; k_whole))) | (with_reducible (k_here; (with_reducible show wpAny _ _ (compareOp CmpOp.Is (Value.int _ _) (Value.ref _)) _ _ _); refine wpAny_is_other (by rfl) (by intro xq9; cases xq9) ?_)) | (with_reducible (k_here; (with_reducible show wpAny _ _ (call (Value.builtin "iter") [Value.ref _]) _ _ _); k_dflt (refine it_list (by k_asm) (by k_asm) (by k_mem) rfl rfl ?_); intro D'q9 h'q9 F'q9 N'q9 l1q9)) | (with_reducible (k_here; (with_reducible show wpAny _ _ (call (Value.ref 126) [Value.int _ _, Value.ref _]) _ _ _); k_dflt (refine done_line (by first | (k_asm; done) | fail) (by first | (k_asm; done) | fail) (by first | (assumption; done) | fail) (by first | (assumption; done) | fail) (by first | (assumption; done) | fail) (by first | (assumption; done) | fail) (by first | (simp only [Around.deeper]; omega; done) | fail) (by first | (assumption; done) | fail) ?_; k_whole); intro v'q9 h'q9 tk'q9 t'q9 e'q9 F'q9 N'q9; (try k_sweep))) | ((with_reducible show wpAny _ _ (exec (PySem.Stmt.For (PySem.Expr.Name _ _) (PySem.Expr.Name _ _) _ [] _) _) _ _ _); k_here; (rename Fr _ _ _ _ => lF'q9); (with_unfolding_all refine' For_turns lF'q9 ?_; k_whole)) | (k_here; (with_reducible show wpAny _ _ (compareOp CmpOp.Is (Value.int _ _) (Value.ref _)) _ _ _); refine wpAny_is_other (by rfl) (by intro xq9; cases xq9) ?_) | (k_here; (with_reducible show wpAny _ _ (call (Value.builtin "iter") [Value.ref _]) _ _ _); k_dflt (refine it_list (by k_asm) (by k_asm) (by k_mem) rfl rfl ?_); intro D'q9 h'q9 F'q9 N'q9 l1q9) | (k_here; (with_reducible show wpAny _ _ (call (Value.ref 126) [Value.int _ _, Value.ref _]) _ _ _); k_dflt (refine done_line (by first | (k_asm; done) | fail) (by first | (k_asm; done) | fail) (by first | (assumption; done) | fail) (by first | (assumption; done) | fail) (by first | (assumption; done) | fail) (by first | (assumption; done) | fail) (by first | (simp only [Around.deeper]; omega; done) | fail) (by first | (assumption; done) | fail) ?_; k_whole); intro v'q9 h'q9 tk'q9 t'q9 e'q9 F'q9 N'q9; (try k_sweep)) | (walk1 <;> (try dsimp only)) | (dsimp only; first | (with_reducible ((with_reducible show wpAny _ _ (exec (PySem.Stmt.For (PySem.Expr.Name _ _) (PySem.Expr.Name _ _) _ [] _) _) _ _ _); k_here; (rename Fr _ _ _ _ => lF'q9); (with_unfolding_all refine' For_turns lF'q9 ?_; k_whole))) | (with_reducible (k_here; (with_reducible show wpAny _ _ (compareOp CmpOp.Is (Value.int _ _) (Value.ref _)) _ _ _); refine wpAny_is_other (by rfl) (by intro xq9; cases xq9) ?_)) | (with_reducible (k_here; (with_reducible show wpAny _ _ (call (Value.builtin "iter") [Value.ref _]) _ _ _); k_dflt (refine it_list (by k_asm) (by k_asm) (by k_mem) rfl rfl ?_); intro D'q9 h'q9 F'q9 N'q9 l1q9)) | (with_reducible (k_here; (with_reducible show wpAny _ _ (call (Value.ref 126) [Value.int _ _, Value.ref _]) _ _ _); k_dflt (refine done_line (by first | (k_asm; done) | fail) (by first | (k_asm; done) | fail) (by first | (assumption; done) | fail) (by first | (assumption; done) | fail) (by first | (assumption; done) | fail) (by first | (assumption; done) | fail) (by first | (simp only [Around.deeper]; omega; done) | fail) (by first | (assumption; done) | fail) ?_; k_whole); intro v'q9 h'q9 tk'q9 t'q9 e'q9 F'q9 N'q9; (try k_sweep))) | ((with_reducible show wpAny _ _ (exec (PySem.Stmt.For (PySem.Expr.Name _ _) (PySem.Expr.Name _ _) _ [] _) _) _ _ _); k_here; (rename Fr _ _ _ _ => lF'q9); (with_unfolding_all refine' For_turns lF'q9 ?_; k_whole)) | (k_here; (with_reducible show wpAny _ _ (compareOp CmpOp.Is (Value.int _ _) (Value.ref _)) _ _ _); refine wpAny_is_other (by rfl) (by intro xq9; cases xq9) ?_) | (k_here; (with_reducible show wpAny _ _ (call (Value.builtin "iter") [Value.ref _]) _ _ _); k_dflt (refine it_list (by k_asm) (by k_asm) (by k_mem) rfl rfl ?_); intro D'q9 h'q9 F'q9 N'q9 l1q9) | (k_here; (with_reducible show wpAny _ _ (call (Value.ref 126) [Value.int _ _, Value.ref _]) _ _ _); k_dflt (refine done_line (by first | (k_asm; done) | fail) (by first | (k_asm; done) | fail) (by first | (assumption; done) | fail) (by first | (assumption; done) | fail) (by first | (assumption; done) | fail) (by first | (assumption; done) | fail) (by first | (simp only [Around.deeper]; omega; done) | fail) (by first | (assumption; done) | fail) ?_; k_whole); intro v'q9 h'q9 tk'q9 t'q9 e'q9 F'q9 N'q9; (try k_sweep)) | walk1) | (leave1; try dsimp only) | fail "no step")
    refine IH _ _ ⟨rfl, ⟨_, _, rfl, ?_⟩, rfl, fun q hq => hr q (.tail _ hq)⟩
    rename _ = doneV v d.k d.q => e'
    rw [← e, e']
    rfl
end
end Mine

end
section
-- RT
open PySem PySem.W PySem.Spec PySem.Calls PyProof.Rows
set_option Elab.async false
set_option maxRecDepth 100000
set_option maxHeartbeats 2000000
namespace Mine
theorem fillK11 : ∀ w : World, (hd0.heap_1 w.params).In default → PySem.Challenge.rw_nq0103_01.prog = PySem.Challenge.rw_nq0103_01.prog → True := by
  k_fill
  intros; trivial
/-- what _law_right gives -/
noncomputable def rightV (mo : Int) : List (Addr × Deed) → Int → Int → Int
  | [], p, t => ((mo.fdiv (2 ^ p.toNat)) + t).fmod 2
  | d :: r, p, t => if d.2.k = 3 then (if p.fdiv 3 = (d.2.q.fdiv 3).fmod 3 then rightV mo r (d.2.q.fmod 3 * 3 + p.fmod 3) t else rightV mo r p t)
    else if (d.2.q.fdiv (2 ^ p.toNat)).fmod 2 = 1 then (if d.2.k < 2 then (1 - d.2.k + t).fmod 2 else rightV mo r p (t + 1)) else rightV mo r p t
theorem tup_of {h₀ h : Heap} {L a : Addr} {m : Str → Option Value} {x y z u : Int} {t1 t2 t3 t4 : Tok} (F : Fr h₀ L h m) (e : h₀.get? a = some (tup4 x y z u t1 t2 t3 t4)) : IsTup h a #[.int x t1, .int y t2, .int z t3, .int u t4] := ⟨_, F.keep _ _ e, rfl, _, rfl⟩
section
variable {w : World} {dp un : Nat} {fr : Option (List Env)} {gd : Option (List Code)} {s : Shared} {B : Heap} {p : Program} {loose : List Str} {mean : ExcName → Option Value} {mg mb : Str → Option Value} {Q E : Value → Shared → Prop} {mo pl : Int} {t tp : Tok} {bk : Addr} {n : Nat}
theorem right_raw (ds : List (Addr × Deed)) (G : Deep w p loose mean mg mb B) (hB : Ext B s.heap) (nb : B.get? bk = none) (hr : dp + 30 < recursionLimit) (hmo : 0 ≤ mo ∧ mo < 262144) (hpl : 0 ≤ pl ∧ pl < 12) (hlen : ds.length ≤ 5)
    (hds : ∀ q ∈ ds, DeedAt s.heap q.1 q.2 ∧ q.2.ok ∧ q.2.q < 50000)
    (g : s.heap.get? bk = some (listOf (refsD ds).toArray n))
    (hQ : ∀ v h' tk' t', v = rightV mo ds pl 0 → Ext s.heap h' → Q (.int v t') { s with heap := h', toks := tk' }) :
    wpAny (model prog w) { handled := none, depth := dp, frames := fr, guards := gd, units := un } (call (.ref 143) [.int mo t, .ref bk, .int pl tp]) Q E s := by
  have hh : Ext B (hideAll s.heap [bk]) := hB.hide (by intro y hy; rw [List.mem_singleton.mp hy]; exact nb)
  have hk := hide_lists (h := s.heap) (l := [bk]) (by intro y hy; rw [List.mem_singleton.mp hy]; exact ⟨_, g, rfl⟩)
  have hds' : ∀ q ∈ ds, DeedAt (hideAll s.heap [bk]) q.1 q.2 ∧ q.2.ok ∧ q.2.q < 50000 := fun q hq => ⟨(hds q hq).1.hide hk, (hds q hq).2⟩
  have X' : (hd0.heap_1 w.params).In (hideAll s.heap [bk]) := G.X.keeps hh
  have T' := G.T.keeps hh
  have X : (hd0.heap_1 w.params).In s.heap := G.X.keeps hB
  refine wpAny_call ?_
  k_dflt (refine' enterM (muts := [(bk, listOf (refsD ds).toArray n)]) (binds := [("mode", .int mo t), ("back", .ref bk), ("place", .int pl tp)]) ?hm X (G.T.nolimit.keeps hB) ?k6 ?k7 ?k8 ?k9 ?kB ?_ ?c2 ?c3 ?c4 ?c5; (case hm => simpa using g); (case k6 => k_is); (case k7 => k_is); (case k8 => (show dp < recursionLimit; omega)); (case k9 => exact BindsTo.of_eq rfl); (case c5 => decide); (case kB => exact locs rfl); (case c2 => exact rfl); (case c3 => exact rfl); (case c4 => exact rfl))
  intro L h₁ hl F N
  clear X hds
  dsimp only [List.map] at F N
  clear hl
  dsimp only
  repeat' (first | (k_unfold; (try dsimp only)) | (k_end; wrow_close) | (with_reducible (k_here; (with_reducible show wpAny _ _ (assign (Expr.Tuple _ _ _) _ (Value.ref _)) _ _ _); k_dflt (refine unpackN_ (by first | (k_asm; done) | fail) (by first | (k_asm; done) | fail) (by first | (exact tup_of (by k_asm) (by assumption); done) | fail) (by first | (exact rfl; done) | fail) (by first | (exact rfl; done) | fail) (by first | (exact rfl; done) | fail) ?_); intro h'q9 F'q9 N'q9; (try k_sweep))) | (with_reducible ((with_reducible show wpAny _ _ (exec (PySem.Stmt.For (PySem.Expr.Tuple _ _ _) (PySem.Expr.Name _ _) _ [] _) _) _ _ _); k_here; (rename Fr _ _ _ _ => lF'q9); (with_unfolding_all refine' For_turns lF'q9 ?_; k_whole))) | (k_here; (with_reducible show wpAny _ _ (assign (Expr.Tuple _ _ _) _ (Value.ref _)) _ _ _); k_dflt (refine unpackN_ (by first | (k_asm; done) | fail) (by first | (k_asm; done) | fail) (by first | (exact tup_of (by k_asm) (by assumption); done) | fail) (by first | (exact rfl; done) | fail) (by first | (exact rfl; done) | fail) (by first | (exact rfl; done) | fail) ?_); intro h'q9 F'q9 N'q9; (try k_sweep)) | ((with_reducible show wpAny _ _ (exec (PySem.Stmt.For (PySem.Expr.Tuple _ _ _) (PySem.Expr.Name _ _) _ [] _) _) _ _ _); k_here; (rename Fr _ _ _ _ => lF'q9); (with_unfolding_all refine' For_turns lF'q9 ?_; k_whole)) | (walk1 <;> (try dsimp only)) | (dsimp only; first | (with_reducible (k_here; (with_reducible show wpAny _ _ (assign (Expr.Tuple _ _ _) _ (Value.ref _)) _ _ _); k_dflt (refine unpackN_ (by first | (k_asm; done) | fail) (by first | (k_asm; done) | fail) (by first | (exact tup_of (by k_asm) (by assumption); done) | fail) (by first | (exact rfl; done) | fail) (by first | (exact rfl; done) | fail) (by first | (exact rfl; done) | fail) ?_); intro h'q9 F'q9 N'q9; (try k_sweep))) | (with_reducible ((with_reducible show wpAny _ _ (exec (PySem.Stmt.For (PySem.Expr.Tuple _ _ _) (PySem.Expr.Name _ _) _ [] _) _) _ _ _); k_here; (rename Fr _ _ _ _ => lF'q9); (with_unfolding_all refine' For_turns lF'q9 ?_; k_whole))) | (k_here; (with_reducible show wpAny _ _ (assign (Expr.Tuple _ _ _) _ (Value.ref _)) _ _ _); k_dflt (refine unpackN_ (by first | (k_asm; done) | fail) (by first | (k_asm; done) | fail) (by first | (exact tup_of (by k_asm) (by assumption); done) | fail) (by first | (exact rfl; done) | fail) (by first | (exact rfl; done) | fail) (by first | (exact rfl; done) | fail) ?_); intro h'q9 F'q9 N'q9; (try k_sweep)) | ((with_reducible show wpAny _ _ (exec (PySem.Stmt.For (PySem.Expr.Tuple _ _ _) (PySem.Expr.Name _ _) _ [] _) _) _ _ _); k_here; (rename Fr _ _ _ _ => lF'q9); (with_unfolding_all refine' For_turns lF'q9 ?_; k_whole)) | walk1) | (leave1; try dsimp only) | fail "no step")
  have em : (refsD ds).map Itm.val = ds.map fun q => Itm.val (.ref q.1) := by simp [refsD]
  refine iter_listTurns (vs := refsD ds) rfl (by assumption) (by assumption) (.head _) rfl rfl (fun I hI => ?_)
  rw [em]
  refine items_ind (fun q => Itm.val (.ref q.1)) (fun r m news => ∀ G : Prop, (∀ (p t0 : Int) (tp tt : Tok), news = [(bk, listOf (refsD ds).toArray n)] → m "place" = some (.int p tp) → m "turns" = some (.int t0 tt) → 0 ≤ p → p < 12 → 0 ≤ t0 → t0 + r.length ≤ 5 → rightV mo r p t0 = rightV mo ds pl 0 → m "mode" = some (.int mo t) → (∀ q ∈ r, q ∈ ds) → G) → G) ?_ ?_ ds _ _ ?_
  rotate_left 2
  · exact fun G hG => hG pl 0 _ _ rfl rfl rfl hpl.1 hpl.2 (by decide) (by omega) rfl rfl fun _ h => h
  · intro m news hJ h tk F N
    refine hJ _ ?_
    intro v tv tp tt en hv ht h0 h12 ht0 ht5 e hmd _
    clear hJ
    rw [en] at N
    rw [norm1 hv, norm1 ht, norm1 hmd] at F
    repeat' (first | (k_unfold; (try dsimp only)) | (k_end; wrow_close) | (with_reducible (k_here; (with_reducible show wpAny _ _ (assign (Expr.Tuple _ _ _) _ (Value.ref _)) _ _ _); k_dflt (refine unpackN_ (by first | (k_asm; done) | fail) (by first | (k_asm; done) | fail) (by first | (exact tup_of (by k_asm) (by assumption); done) | fail) (by first | (exact rfl; done) | fail) (by first | (exact rfl; done) | fail) (by first | (exact rfl; done) | fail) ?_); intro h'q9 F'q9 N'q9; (try k_sweep))) | (with_reducible ((with_reducible show wpAny _ _ (exec (PySem.Stmt.For (PySem.Expr.Tuple _ _ _) (PySem.Expr.Name _ _) _ [] _) _) _ _ _); k_here; (rename Fr _ _ _ _ => lF'q9); (with_unfolding_all refine' For_turns lF'q9 ?_; k_whole))) | (k_here; (with_reducible show wpAny _ _ (assign (Expr.Tuple _ _ _) _ (Value.ref _)) _ _ _); k_dflt (refine unpackN_ (by first | (k_asm; done) | fail) (by first | (k_asm; done) | fail) (by first | (exact tup_of (by k_asm) (by assumption); done) | fail) (by first | (exact rfl; done) | fail) (by first | (exact rfl; done) | fail) (by first | (exact rfl; done) | fail) ?_); intro h'q9 F'q9 N'q9; (try k_sweep)) | ((with_reducible show wpAny _ _ (exec (PySem.Stmt.For (PySem.Expr.Tuple _ _ _) (PySem.Expr.Name _ _) _ [] _) _) _ _ _); k_here; (rename Fr _ _ _ _ => lF'q9); (with_unfolding_all refine' For_turns lF'q9 ?_; k_whole)) | (walk1 <;> (try dsimp only)) | (dsimp only; first | (with_reducible (k_here; (with_reducible show wpAny _ _ (assign (Expr.Tuple _ _ _) _ (Value.ref _)) _ _ _); k_dflt (refine unpackN_ (by first | (k_asm; done) | fail) (by first | (k_asm; done) | fail) (by first | (exact tup_of (by k_asm) (by assumption); done) | fail) (by first | (exact rfl; done) | fail) (by first | (exact rfl; done) | fail) (by first | (exact rfl; done) | fail) ?_); intro h'q9 F'q9 N'q9; (try k_sweep))) | (with_reducible ((with_reducible show wpAny _ _ (exec (PySem.Stmt.For (PySem.Expr.Tuple _ _ _) (PySem.Expr.Name _ _) _ [] _) _) _ _ _); k_here; (rename Fr _ _ _ _ => lF'q9); (with_unfolding_all refine' For_turns lF'q9 ?_; k_whole))) | (k_here; (with_reducible show wpAny _ _ (assign (Expr.Tuple _ _ _) _ (Value.ref _)) _ _ _); k_dflt (refine unpackN_ (by first | (k_asm; done) | fail) (by first | (k_asm; done) | fail) (by first | (exact tup_of (by k_asm) (by assumption); done) | fail) (by first | (exact rfl; done) | fail) (by first | (exact rfl; done) | fail) (by first | (exact rfl; done) | fail) ?_); intro h'q9 F'q9 N'q9; (try k_sweep)) | ((with_reducible show wpAny _ _ (exec (PySem.Stmt.For (PySem.Expr.Tuple _ _ _) (PySem.Expr.Name _ _) _ [] _) _) _ _ _); k_here; (rename Fr _ _ _ _ => lF'q9); (with_unfolding_all refine' For_turns lF'q9 ?_; k_whole)) | walk1) | (leave1; try dsimp only) | fail "no step")
    have ex : Ext s.heap h := ext_back1 g F N (.head _) rfl
    exact hQ _ _ _ _ e ex
  · rintro ⟨a, d⟩ r m news hJ IH
    refine hJ _ ?_
    intro v tv tp tt en hv ht h0 h12 ht0 ht5 e hmd hr
    clear hJ
    obtain ⟨⟨t1, t2, t3, t4, hda⟩, hok, hq⟩ := hds' (a, d) (hr _ (.head _))
    dsimp only at hda hok hq
    obtain ⟨o1, o2, o3, o4, o5, o6⟩ := hok
    rw [en, norm1 hv, norm1 ht, norm1 hmd]
    clear en
    have f1 := Int.fmod_lt_of_pos d.q (b := 3) (by decide)
    have f2 := Int.fmod_nonneg_of_pos d.q (b := 3) (by decide)
    have f3 := Int.fmod_lt_of_pos v (b := 3) (by decide)
    have f4 := Int.fmod_nonneg_of_pos v (b := 3) (by decide)
    simp only [List.length_cons] at ht5
    repeat' (first | (k_unfold; (try dsimp only)) | (k_end; wrow_close) | (with_reducible (k_here; (with_reducible show wpAny _ _ (assign (Expr.Tuple _ _ _) _ (Value.ref _)) _ _ _); k_dflt (refine unpackN_ (by first | (k_asm; done) | fail) (by first | (k_asm; done) | fail) (by first | (exact tup_of (by k_asm) (by assumption); done) | fail) (by first | (exact rfl; done) | fail) (by first | (exact rfl; done) | fail) (by first | (exact rfl; done) | fail) ?_); intro h'q9 F'q9 N'q9; (try k_sweep))) | (with_reducible ((with_reducible show wpAny _ _ (exec (PySem.Stmt.For (PySem.Expr.Tuple _ _ _) (PySem.Expr.Name _ _) _ [] _) _) _ _ _); k_here; (rename Fr _ _ _ _ => lF'q9); (with_unfolding_all refine' For_turns lF'q9 ?_; k_whole))) | (k_here; (with_reducible show wpAny _ _ (assign (Expr.Tuple _ _ _) _ (Value.ref _)) _ _ _); k_dflt (refine unpackN_ (by first | (k_asm; done) | fail) (by first | (k_asm; done) | fail) (by first | (exact tup_of (by k_asm) (by assumption); done) | fail) (by first | (exact rfl; done) | fail) (by first | (exact rfl; done) | fail) (by first | (exact rfl; done) | fail) ?_); intro h'q9 F'q9 N'q9; (try k_sweep)) | ((with_reducible show wpAny _ _ (exec (PySem.Stmt.For (PySem.Expr.Tuple _ _ _) (PySem.Expr.Name _ _) _ [] _) _) _ _ _); k_here; (rename Fr _ _ _ _ => lF'q9); (with_unfolding_all refine' For_turns lF'q9 ?_; k_whole)) | (walk1 <;> (try dsimp only)) | (dsimp only; first | (with_reducible (k_here; (with_reducible show wpAny _ _ (assign (Expr.Tuple _ _ _) _ (Value.ref _)) _ _ _); k_dflt (refine unpackN_ (by first | (k_asm; done) | fail) (by first | (k_asm; done) | fail) (by first | (exact tup_of (by k_asm) (by assumption); done) | fail) (by first | (exact rfl; done) | fail) (by first | (exact rfl; done) | fail) (by first | (exact rfl; done) | fail) ?_); intro h'q9 F'q9 N'q9; (try k_sweep))) | (with_reducible ((with_reducible show wpAny _ _ (exec (PySem.Stmt.For (PySem.Expr.Tuple _ _ _) (PySem.Expr.Name _ _) _ [] _) _) _ _ _); k_here; (rename Fr _ _ _ _ => lF'q9); (with_unfolding_all refine' For_turns lF'q9 ?_; k_whole))) | (k_here; (with_reducible show wpAny _ _ (assign (Expr.Tuple _ _ _) _ (Value.ref _)) _ _ _); k_dflt (refine unpackN_ (by first | (k_asm; done) | fail) (by first | (k_asm; done) | fail) (by first | (exact tup_of (by k_asm) (by assumption); done) | fail) (by first | (exact rfl; done) | fail) (by first | (exact rfl; done) | fail) (by first | (exact rfl; done) | fail) ?_); intro h'q9 F'q9 N'q9; (try k_sweep)) | ((with_reducible show wpAny _ _ (exec (PySem.Stmt.For (PySem.Expr.Tuple _ _ _) (PySem.Expr.Name _ _) _ [] _) _) _ _ _); k_here; (rename Fr _ _ _ _ => lF'q9); (with_unfolding_all refine' For_turns lF'q9 ?_; k_whole)) | walk1) | (leave1; try dsimp only) | fail "no step")
    all_goals first
      | (refine IH _ _ ?_; intro G9 hG9; refine hG9 _ _ _ _ rfl rfl rfl ?_ ?_ ?_ ?_ ?_ rfl (fun q hq => hr q (.tail _ hq)) <;> clear hG9 <;> first | omega | (rw [← e]; clear e IH hQ; simp [rightV, *]; done))
      | (refine hQ _ _ _ _ ?_ (ext_back1 g (by assumption) (by assumption) (.tail _ (.head _)) rfl); rw [← e]; clear e IH hQ; simp [rightV, *]; done)
end
end Mine

end
section
-- CM
open PySem PySem.W PySem.Spec PySem.Calls PyProof.Rows
set_option Elab.async false
set_option maxRecDepth 100000
set_option maxHeartbeats 2000000
namespace Mine
/-- enters a def with cells; the objects of muts may be changed by it -/
theorem enterMC {w : World} {A : Around} {s : Shared} {K : Frag} {f : Addr} {args : Args} {R : Result → Shared → Prop} {name qual : Str} {params : Arguments} {body : List Stmt} {scope : Scope} {dV kV doc pm cdv ct oc : Value} {an od : Option Addr} {osl : Array (Option Value)} {binds : List (Str × Value)}
    {muts : List (Addr × Obj)} (hm : ∀ p ∈ muts, s.heap.get? p.1 = some p.2)
    (X : K.In s.heap) (hlim : s.heap.NoLimit)
    (ho : K.lookup f = some ⟨oc, od, .func (fnOf name qual params body scope dV kV doc pm an cdv ct), osl⟩) (hcd : codeIn K cdv qual = true) (hroom : A.depth < recursionLimit)
    (hbind : BindsTo s (fnOf name qual params body scope dV kV doc pm an cdv ct) args binds)
    (hkind : ∀ n, ∀ x ∈ binds, scope.names.lookup x.1 = some .local ∨ (scope.names.lookup x.1 = some .cell ∧ ((cellsFrom n scope.names []).lookup x.1).isSome = true))
    (hnd : ((cellsFrom 0 scope.names []).map (·.1)).Nodup)
    (h : ∀ L h₁ tk cells, (∀ p ∈ muts, p.1 < L) → Fr (hideAll s.heap (muts.map (·.1))) L h₁ (bindL (envOfC qual scope L f cdv).kindOf binds fun _ => none) → News (hideAll s.heap (muts.map (·.1))) L h₁ (cells ++ muts) →
      CellsAre (bindC (envOfC qual scope L f cdv).kindOf binds fun _ => none) (cellsFrom (L + 1) scope.names []) cells →
      wpAny (model prog w) (A.deeper (envOfC qual scope L f cdv)) (execs body (envOfC qual scope L f cdv))
        (fun fl s' => R (.ok (.ret (match fl with | .ret v => v | _ => .none))) s') (fun _ _ => False)
        { s with heap := h₁, toks := tk })
    (hco : scope.isCoroutine = false) (hgen : scope.isGenerator = false) (hk : scope.kind = .function) : codeAny (model prog w) A (.call (.ref f) args) R s := by
  refine codeAny_call_function hroom (X _ _ ho) rfl hco hgen rfl (codeRec_of X hcd) (hbind _ _ _ _ ?_)
  refine wpAny_newFunctionEnv_cells hk (hkind _) fun env' he s' x => ?_
  subst he
  refine ⟨hlim.keeps x.toInCall.keep, codeAny_func ?_⟩
  obtain ⟨h₁, tk, rfl, _⟩ := x.done
  have hk₁ := x.toInCall.keep
  obtain ⟨cells, NC, Y⟩ := Cl.news (h₀ := s.heap) (Nat.le_refl _) fun n c hm => ⟨x.cell n c (lookup_of_mem_nodup (cellsFrom_names scope.names 0 (s.heap.objs.size + 1) [] [] rfl ▸ hnd) hm), x.above n c hm⟩
  refine wpAny_mono (h s.heap.objs.size h₁ tk cells (fun p hp => Heap.lt_size (hm p hp)) ⟨x.toInCall.ns, fun b o e => hk₁ b o (of_hideAll _ e), Nat.le_of_eq (hideAll_size _ _)⟩ (fun p hp => ?_) Y) (fun _ _ y => y) fun _ _ y => y.elim
  rcases List.mem_append.mp hp with hp | hp
  · refine ⟨(NC p hp).1, (NC p hp).2.1, ?_⟩
    cases q : (hideAll s.heap (muts.map (·.1))).get? p.1 with
    | none => rfl
    | some o => have := of_hideAll _ q; rw [(NC p hp).2.2] at this; cases this
  · exact ⟨hk₁ _ _ (hm p hp), Nat.ne_of_lt (Heap.lt_size (hm p hp)), hideAll_none _ (List.mem_map_of_mem hp)⟩
section
variable {prog : Program} {w : World} {A : Around} {E : Value → Shared → Prop} {s : Shared} {h₀ : Heap} {env : Env} {m : Str → Option Value} {news : List (Addr × Obj)} {scope : Scope} {cl : List (Str × Addr)} {x y : Str} {ifs : List Expr} {elt : Expr}
/-- what a comprehension leaves behind, as frame and ledger -/
theorem comp_after {h h' : Heap} {L D : Addr} {ys : Array Value} {m m' : Str → Option Value} (F : Fr h₀ L h m) (N : News h₀ L h news) (hD : h.get? D = none) (hp : h'.PlainList D ys) (hn : h'.Ns L m') (hk : ∀ b o, b ≠ L → h.get? b = some o → h'.get? b = some o) :
    Fr h₀ L h' m' ∧ (∃ k, News h₀ L h' ((D, listOf ys k) :: news)) ∧ (∀ p ∈ news, (p.1 : Nat) ≠ D) := by
  have hL : ∀ b o, h₀.get? b = some o → b ≠ L := fun b o e => Nat.ne_of_lt (Nat.lt_of_lt_of_le (Heap.lt_size e) F.above)
  obtain ⟨k, hk'⟩ := hp
  have hDL : D ≠ L := by
    rintro rfl
    obtain ⟨o, _, _, ho, _⟩ := F.ns
    rw [hD] at ho; cases ho
  refine ⟨⟨hn, fun b o e => hk b o (hL b o e) (F.keep b o e), F.above⟩, ⟨k, fun p hp => ?_⟩, fun p hp e => ?_⟩
  · rcases List.mem_cons.mp hp with rfl | hp
    · refine ⟨hk', hDL, ?_⟩
      cases e : h₀.get? D with
      | none => rfl
      | some o => rw [F.keep _ _ e] at hD; cases hD
    · exact ⟨hk _ _ (N p hp).2.1 (N p hp).1, (N p hp).2⟩
  · have e' : p.1 = D := e
    rw [← e', (N p hp).1] at hD; cases hD
/-- [.. for x in range(n)] : its start -/
theorem comp_range {r L : Addr} {a : Int} {t u v : Tok} {n : Nat} {Q : Flow → Shared → Prop} (Fv : Nat → Value → Prop) (hL : env.locals = L) (hh : A.handled = none) (hr : IsRange s.heap r 0 a 1 t u v) (hsmall : Builtin.Range.small 0 a 1 = true) (hn : Builtin.Range.rangeSize 0 a 1 = (n : Int)) (hsz : n ≤ sizeLine)
    (F : Fr h₀ L s.heap m) (N : News h₀ L s.heap news)
    (helt : ∀ C i t s₃ m₃ E', i < n → s₃.heap.Ns C m₃ → m₃ x = some (.int (i : Int) t) → Ext s.heap s₃.heap → s.heap.objs.size ≤ C →
      wpAny (model prog w) A (eval elt (compEnvC scope cl C env)) (fun y s₄ => Fv i y ∧ Keeps s₃ s₄) E' s₃)
    (hQ : ∀ D h' tk ys k, Fr h₀ L h' (fun z => if z = y then some (.ref D) else m z) → News h₀ L h' ((D, listOf ys k) :: news) → (∀ p ∈ news, (p.1 : Nat) ≠ D) → ys.size = n → (∀ i, i < n → ∃ v, ys[i]? = some v ∧ Fv i v) → Q .next { s with heap := h', toks := tk }) :
    wpAny (model prog w) A (pyIter (.ref r)) (fun it s₂ => ∃ I fp wr n P St m, it = .ref I ∧ Walks prog w A I fp wr n P St ∧ n ≤ sizeLine ∧ St 0 s₂.heap ∧ (∀ b ∈ fp, b < s₂.heap.objs.size) ∧
      L ∉ wr ∧ s₂.heap.Ns L m ∧ QuietOnC prog w A env scope cl x [] elt wr P (fun _ => true) (fun v y => ∃ i t, v = .int (i : Nat) t ∧ Fv i y) s₂ ∧
      (∀ D h' tk ys (vs : List Value), s₂.heap.get? D = none → h'.IsList D ys → h'.PlainList D ys → vs.length = n → (∀ j v, vs[j]? = some v → P j v) → Paired (fun v y => ∃ i t, v = .int (i : Nat) t ∧ Fv i y) (vs.filter fun _ => true) ys.toList →
        h'.Ns L (fun z => if z = y then some (.ref D) else m z) → (∀ b o, b ≠ L → b ∉ wr → s₂.heap.get? b = some o → h'.get? b = some o) → Q .next { s₂ with heap := h', toks := tk })) E s := by
  subst hL
  refine wpAny_pyIter_range hr hsmall ?_
  have W : Walks prog w A s.heap.objs.size [s.heap.objs.size] [s.heap.objs.size] n (fun i v => i < n ∧ ∃ t, v = .int (0 + i * 1) t)
      (fun i h => IsRangeIter h s.heap.objs.size (0 + (i : Nat) * 1) ((n : Int) - (i : Nat)) 1) := (Walks.range hh _ 0 1 n).bound
  have up : ∀ (s₃ : Shared), (∀ b o, b ∉ [s.heap.objs.size] → (s.heap.push (itR 0 n)).get? b = some o → s₃.heap.get? b = some o) → Ext s.heap s₃.heap :=
    fun s₃ hk b o e => hk b o (fun hm => by rw [List.mem_singleton.mp hm] at e; exact Nat.lt_irrefl _ (Heap.lt_size e)) (Heap.get?_push_of_some _ e)
  rw [hn]
  refine ⟨_, _, _, n, _, _, m, rfl, W, hsz, (by show IsRangeIter _ _ _ _ _; simpa using Heap.get?_push_size _ rfl), ?_, ?_, F.ns.push _, ⟨?_, ?_⟩, ?_⟩
  · intro b hb
    rw [List.mem_singleton.mp hb]
    show s.heap.objs.size < (s.heap.push _).objs.size
    rw [Heap.size_push]; exact Nat.lt_succ_self _
  · intro hm
    exact Nat.lt_irrefl _ ((List.mem_singleton.mp hm) ▸ F.ns.lt)
  · intro C i v s₃ m₃ E' hC hP hn hm hk _
    exact wpAny_tests_nil ⟨rfl, s₃.heap, s₃.toks, rfl, fun _ _ e => e⟩
  · intro C i v s₃ m₃ E' hC hP hp' hn hm hk _
    obtain ⟨hi, t, rfl⟩ := hP
    have e1 : (0 : Int) + (i : Int) * 1 = (i : Int) := by omega
    rw [e1] at hm ⊢
    exact wpAny_mono (helt C i t s₃ m₃ E' hi hn hm (up s₃ hk) (Nat.le_of_succ_le (by simpa [Heap.size_push] using hC))) (fun y s₄ q => ⟨⟨i, t, rfl, q.1⟩, q.2⟩) fun _ _ e => e
  · intro D h' tk ys vs hnew hlD hplD hlen hP hF hn' hk
    have hD : s.heap.get? D = none := by
      cases e : s.heap.get? D with
      | none => rfl
      | some o => rw [Heap.get?_push_of_some _ e] at hnew; cases hnew
    obtain ⟨F', ⟨k, N'⟩, hne⟩ := comp_after F N hD hplD hn' fun b o hb e => hk b o hb (fun hm => by rw [List.mem_singleton.mp hm] at e; exact Nat.lt_irrefl _ (Heap.lt_size e)) (Heap.get?_push_of_some _ e)
    rw [show vs.filter (fun _ => true) = vs by simp] at hF
    have hl := hF.length
    refine hQ D h' tk ys k F' N' hne (by simpa [hlen] using hl.symm) fun i hi => ?_
    obtain ⟨v, hv⟩ : ∃ v, vs[i]? = some v := ⟨vs[i]'(by omega), by simp⟩
    have key : ∀ (l₁ : List Value) (l₂ : List Value), Paired (fun v y => ∃ i t, v = .int (i : Nat) t ∧ Fv i y) l₁ l₂ → ∀ (i : Nat) v, l₁[i]? = some v → ∃ y, l₂[i]? = some y ∧ ∃ i t, v = .int (i : Nat) t ∧ Fv i y := by
      intro l₁ l₂ hp
      induction hp with
      | nil => intro i v hv; simp at hv
      | cons h t ih =>
        intro i v hv
        cases i with
        | zero => simp only [List.getElem?_cons_zero, Option.some.injEq] at hv; subst hv; exact ⟨_, rfl, h⟩
        | succ i => simp only [List.getElem?_cons_succ] at hv ⊢; exact ih i v hv
    obtain ⟨y, hy, i', t', e', hf⟩ := key _ _ hF i v hv
    obtain ⟨_, t'', e''⟩ := hP i v hv
    rw [e''] at e'
    have : (0 : Int) + (i : Int) * 1 = (i' : Int) := (Value.int.inj e').1
    have : i = i' := by omega
    subst this
    exact ⟨y, by simpa using hy, hf⟩
/-- what a comprehension over a range asks, where its range stands -/
inductive CompR (prog : Program) (w : World) (A : Around) (h₀ : Heap) (env : Env) (scope : Scope) (cl : List (Str × Addr)) (x y : Str) (elt : Expr) (n : Nat) (Fv : Nat → Value → Prop) (Q : Flow → Shared → Prop) (xv : Value) (s : Shared) : Prop
  | mk r a t u v m news (_ : xv = .ref r) (_ : IsRange s.heap r 0 a 1 t u v) (_ : Builtin.Range.small 0 a 1 = true) (_ : Builtin.Range.rangeSize 0 a 1 = (n : Int)) (_ : n ≤ sizeLine) (_ : Fr h₀ env.locals s.heap m) (_ : News h₀ env.locals s.heap news) (_ : (∀ C i t s₃ m₃ E', i < n → s₃.heap.Ns C m₃ → m₃ x = some (.int (i : Int) t) → Ext s.heap s₃.heap → s.heap.objs.size ≤ C →       wpAny (model prog w) A (eval elt (compEnvC scope cl C env)) (fun y s₄ => Fv i y ∧ Keeps s₃ s₄) E' s₃)) (_ : (∀ D h' tk ys k, Fr h₀ env.locals h' (fun z => if z = y then some (.ref D) else m z) → News h₀ env.locals h' ((D, listOf ys k) :: news) → (∀ p ∈ news, (p.1 : Nat) ≠ D) → ys.size = n → (∀ i, i < n → ∃ v, ys[i]? = some v ∧ Fv i v) → Q .next { s with heap := h', toks := tk })) : CompR prog w A h₀ env scope cl x y elt n Fv Q xv s
theorem assign_compR {iter : Expr} {px py : Pos} {pos spos : Pos} {n : Nat} {Q : Flow → Shared → Prop} (Fv : Nat → Value → Prop) (hh : A.handled = none)
    (hsw : swapsWith (.ListComp elt [⟨.Name x px, iter, [], 0⟩] scope pos) (some (.Name y py)) spos.line env = pure true)
    (hclos : closureFor scope env = pure cl) (hcell : ∀ z ∈ scope.names, z.2 ≠ .cell) (hkind : scope.kind = .function)
    (hnames : ∀ z ∈ scope.names, z.2 = .local → scope.names.lookup z.1 = some .local) (hx : scope.names.lookup x = some .local)
    (hy : env.kindOf y = some .local) (hp : (env.scope.kind == .class || (env.scope.kind == .module && env.locals != env.globals)) = false)
    (h : wpAny (model prog w) A (eval iter env) (fun xv s₁ => CompR prog w A h₀ env scope cl x y elt n Fv Q xv s₁) E s)
    (hs : ∀ x, foldedSetIterable iter env x = pure x) :
    wpAny (model prog w) A (exec (.Assign [.Name y py] (.ListComp elt [⟨.Name x px, iter, [], 0⟩] scope pos) spos) env) Q E s := by
  refine wpAny_Assign_ListComp_free (fun _ => true) (fun v y => ∃ i t, v = .int (i : Nat) t ∧ Fv i y) hsw hclos hcell hkind hnames hx hy hp (wpAny_mono h (fun xv s₁ h₁ => ?_) fun _ _ e => e) hs
  obtain ⟨r, a, t, u, v, m, news, rfl, hr, hsmall, hn, hsz, F, N, helt, hQ⟩ := h₁
  exact comp_range Fv rfl hh hr hsmall hn hsz F N helt hQ
end
end Mine

end
section
-- IA
open PySem PySem.W PySem.Spec PySem.Calls PyProof.Rows
set_option Elab.async false
set_option maxRecDepth 100000
set_option maxHeartbeats 2000000
namespace Mine
theorem iadd_fill : fillsInplaceSlot (.type "list") "add" (Operator.Add == .Add) = pure false := by
  unfold fillsInplaceSlot
  show (typeLookup (.type "list") (dunderI "add") >>= fun fi => pure (fi.isSome && !isSeqSlot fi)) = pure false
  rw [PySem.F.slot_list_iadd.lookup]
  kernel_rfl
theorem iadd_seq : seqSlot? (.type "list") (dunderI "add") = pure (some (.builtin "list.__iadd__")) := PySem.seqSlot_of PySem.F.slot_list_iadd.lookup (by decide +kernel)
section
variable {prog : Program} {w : World} {A : Around} {E : Value → Shared → Prop} {s : Shared} {h₀ : Heap} {L l b : Addr} {m : Str → Option Value} {news : List (Addr × Obj)} {g : Obj → List (Addr × Obj)} {vs ws : Array Value} {n n2 : Nat} {Q : Value → Shared → Prop}
theorem wp_iadd (hl : s.heap.get? l = some (listOf vs n)) (hb : s.heap.get? b = some (listOf ws n2)) (hz : vs.size + ws.size ≤ 1000)
    (h : ∀ h' k, h'.get? l = some (listOf (vs ++ ws) k) → Heap.SameBut l s.heap h' → Q (.ref l) { s with heap := h' }) : wpAny (model prog w) A (inplaceOp .Add (.ref l) (.ref b)) Q E s := by
  unfold inplaceOp
  refine wpAny_holding ?_
  have ha : s.TypeIs (.ref l) "list" := ⟨_, hl, rfl⟩
  have hbt : s.TypeIs (.ref b) "list" := ⟨_, hb, rfl⟩
  refine wpAny_bind (wpAny_typeOf ha (wpAny_bind (wpAny_of_eq iadd_fill ?_)))
  show wpAny _ A (if false = true then _ else _) Q E s
  rw [if_neg Bool.false_ne_true]
  refine wpAny_bind (wpAny_binaryOp1_none (nm := "add") ha hbt noFill_list_add ?_)
  refine wpAny_bind (wpAny_of_eq iadd_seq ?_)
  refine wpAny_bind (wpAny_rule ?_)
  have hlt : Builtin.List.listTooLong (vs.size + ws.size) = false := by
    unfold Builtin.List.listTooLong
    simp only [decide_eq_false_iff_not, sizeLine_eq]
    omega
  refine call_meets PySem.F.slot_list_iadd ha PySem.F.entry_list_iadd (PySem.F.args_list_iadd_2 _ _) (AutoSeq1.list___iadd___list_list_0 l vs n b ws n2 (by rw [hlt]; simp) (by rw [sizeLine_eq]; omega) (by rw [sizeLine_eq]; omega)) ⟨hl, hb, ?_⟩
  exact h _ _ (Heap.get?_update_self _ hl rfl) (Heap.SameBut.update ..)
theorem iadd_lists (F : Fr h₀ L s.heap m) (N : News h₀ L s.heap news) (U : UpdF l (listOf vs n) news g) (hb : (b, listOf ws n2) ∈ news) (hz : vs.size + ws.size ≤ 1000)
    (h : ∀ h' k, Fr h₀ L h' m → News h₀ L h' (g (listOf (vs ++ ws) k)) → Q (.ref l) { s with heap := h' }) : wpAny (model prog w) A (inplaceOp .Add (.ref l) (.ref b)) Q E s := by
  obtain ⟨pre, post, hl, hg, a1, a2⟩ := U.split
  have hmem : (l, listOf vs n) ∈ news := by rw [hl]; exact List.mem_append_right _ (.head _)
  have hm := N _ hmem
  refine wp_iadd hm.1 (N _ hb).1 hz fun h' k ho hs => h h' k (F.change hs hm.2.1 hm.2.2) ?_
  rw [hg]
  exact (show News h₀ L s.heap (pre ++ (l, listOf vs n) :: post) from hl ▸ N).setIn a1 a2 hs ho
end
end Mine

end
section
-- SH
open PySem PySem.W PySem.Spec PySem.Calls PyProof.Rows
set_option Elab.async false
set_option maxRecDepth 100000
set_option maxHeartbeats 2000000
namespace Mine
theorem fillK12 : ∀ w : World, (hd0.heap_1 w.params).In default → PySem.Challenge.rw_nq0103_01.prog = PySem.Challenge.rw_nq0103_01.prog → True := by
  k_fill
  intros; trivial
/-- a text of one sign -/
noncomputable abbrev one (c : Nat) : Str := ⟨#[c]⟩
noncomputable def sgn (x : Str) (i : Int) : Nat := x.cps.getD i.toNat 0
theorem item_sgn {prog : Program} {w : World} {A : Around} {E : Value → Shared → Prop} {s : Shared} {value slice : PySem.Expr} {x : PySem.Str} {t u : Tok} {n : Nat} {i : Int} {Q : Value → Shared → Prop}
    (hk : x.length = n) (h0 : 0 ≤ i) (h1 : i < (n : Int)) (hn : n ≤ 16777216) (h : Q (.str (one (sgn x i)) s.toks) { s with toks := s.toks + 1 })
    (hs : subscripted slice false (.str x t) (.int i u) = operate [.str x t, .int i u] (getItem (.str x t) (.int i u)) := by with_unfolding_all rfl)
    (ht : ∀ r, letTemporaryGo value (.str x t) r = pure () := by intro _; with_unfolding_all rfl) :
    wpAny (model prog w) A (subscriptTail value slice (.str x t) (.int i u)) Q E s := by
  refine KXi.item hk (by omega) h1 hn (fun _ => ?_) hs ht
  rw [item_meets ⟨h0, by rw [hk]; exact h1⟩]
  exact h
theorem join_signs {prog : Program} {w : World} {A : Around} {E : Value → Shared → Prop} {s : Shared} {t : Tok} {D : Addr} {l : List (Nat × Tok)} {h₀ : Heap} {L : Addr} {news : List (Addr × Obj)} {k : Nat} {vs : Array Value} {Q : Value → Shared → Prop} (N : News h₀ L s.heap news) (hm : (D, listOf vs k) ∈ news)
    (e : vs = (l.map fun p => Value.str (one p.1) p.2).toArray) (hl : l.length ≤ 100) (h : ∀ t' k, Q (.str ⟨(l.map (·.1)).toArray⟩ t') { s with toks := k }) : wpAny (model prog w) A (call (.builtin "str.join") [.str (Str.ofString "") t, .ref D]) Q E s := by
  subst e
  have e1 : (l.map fun p => Value.str (one p.1) p.2) = strValues (l.map fun p => (one p.1, p.2)) := by
    unfold strValues
    rw [List.map_map]
    rfl
  have e2 : ∀ (l : List Nat) (acc : Array Nat), (l.map one).foldl (fun acc p => acc ++ (Str.ofString "").cps ++ p.cps) acc = acc ++ l.toArray := by
    intro l
    induction l with
    | nil => intro acc; simp
    | cons c r ih =>
      intro acc
      rw [List.map_cons, List.foldl_cons, ih]
      have : (Str.ofString "").cps = #[] := by decide +kernel
      rw [this]
      simp
  have e3 : Txt.join (Str.ofString "") ((l.map fun p => (one p.1, p.2)).map (·.1)) = ⟨(l.map (·.1)).toArray⟩ := by
    have : ((l.map fun p => (one p.1, p.2)).map (·.1)) = (l.map (·.1)).map one := by rw [List.map_map, List.map_map]; rfl
    rw [this]
    generalize l.map (·.1) = r
    show Builtin.Str.glued _ _ = _
    unfold Builtin.Str.glued
    cases r with
    | nil => rfl
    | cons c r =>
      simp only [List.map_cons, List.drop_succ_cons, List.drop_zero, List.headD_cons]
      rw [e2]
      simp
  have e4 : ∀ (l : List Nat) (a : Nat), (l.map one).foldl (fun a (p : Str) => a + p.length + (Str.ofString "").length) a = a + l.length := by
    intro l
    induction l with
    | nil => intro a; rfl
    | cons c r ih =>
      intro a
      rw [List.map_cons, List.foldl_cons, ih]
      have h1 : (Str.ofString "").length = 0 := by decide +kernel
      have h2 : (one c).length = 1 := rfl
      rw [h1, h2, List.length_cons]
      omega
  refine SC.join (D := D) (l := l.map fun p => (one p.1, p.2)) (texts := (l.map fun p => (one p.1, p.2)).map (·.1)) ⟨_, (N _ hm).1, rfl, k, by rw [e1]⟩ rfl ?_ fun t' k => by rw [e3]; exact h t' k
  have : ((l.map fun p => (one p.1, p.2)).map (·.1)) = (l.map (·.1)).map one := by rw [List.map_map, List.map_map]; rfl
  rw [this]
  unfold JoinOk
  rw [List.foldl_toArray', e4] <;> simp [Builtin.Str.tooLong, sizeLine_eq]
  omega
noncomputable def shown12 (mo b0 b1 b2 b3 b4 b5 b6 b7 b8 b9 b10 b11 : Int) : Str :=
  ⟨#[sgn "?pc?d?b?-?l?s???" ((mo.fdiv 4096).fmod 16), sgn "-r" b8, sgn "-w" b7, sgn "-xSs" (b6 + 2 * b11), sgn "-r" b5, sgn "-w" b4, sgn "-xSs" (b3 + 2 * b10), sgn "-r" b2, sgn "-w" b1, sgn "-xTt" (b0 + 2 * b9)]⟩
theorem item0 (z : Int) : Txt.item (Str.ofString "?pc?d?b?-?l?s???") (z.fmod 16) = one (sgn "?pc?d?b?-?l?s???" (z.fmod 16)) := by
  have hl : (Str.ofString "?pc?d?b?-?l?s???").length = 16 := by decide +kernel
  have h1 := Int.fmod_nonneg_of_pos z (b := 16) (by decide)
  have h2 := Int.fmod_lt_of_pos z (b := 16) (by decide)
  exact item_meets ⟨h1, by rw [hl]; exact h2⟩
theorem rightV_bit (mo : Int) (ds : List (Addr × Deed)) : ∀ p t, 0 ≤ rightV mo ds p t ∧ rightV mo ds p t < 2 := by
  induction ds with
  | nil => intro p t; exact ⟨Int.fmod_nonneg_of_pos _ (by decide), Int.fmod_lt_of_pos _ (by decide)⟩
  | cons d r ih =>
    intro p t
    unfold rightV
    split
    · split <;> exact ih _ _
    · split
      · split
        · exact ⟨Int.fmod_nonneg_of_pos _ (by decide), Int.fmod_lt_of_pos _ (by decide)⟩
        · exact ih _ _
      · exact ih _ _
/-- the three signs of a block -/
noncomputable def blk (bv : Int → Int) (j : Nat) : List Nat := [sgn "-r" (bv (3 * (j : Int) + 2)), sgn "-w" (bv (3 * (j : Int) + 1)), sgn (if j = 0 then ("-xTt" : Str) else "-xSs") (bv (3 * (j : Int)) + 2 * bv (9 + (j : Int)))]
theorem bit_at {prog : Program} {w : World} {A : Around} {E : Value → Shared → Prop} {s : Shared} {h₀ : Heap} {L D : Addr} {news : List (Addr × Obj)} {ys : Array Value} {bv : Int → Int} {k : Nat} {i : Int} {u : Tok} {Q : Value → Shared → Prop} {value slice : PySem.Expr}
    (hys : ys.size = 12 ∧ ∀ i : Nat, i < 12 → ∃ v, ys[i]? = some v ∧ ∃ t', v = .int (bv i) t') (N : News h₀ L s.heap news) (hm : (D, listOf ys k) ∈ news) (h0 : 0 ≤ i) (h1 : i < 12) (h : ∀ t', Q (.int (bv i) t') s)
    (hs : subscripted slice false (.ref D) (.int i u) = operate [.ref D, .int i u] (getItem (.ref D) (.int i u)) := by with_unfolding_all rfl) (hg : ∀ r, letTemporaryGo value (.ref D) r = pure () := by intro _; with_unfolding_all rfl) :
    wpAny (model prog w) A (subscriptTail value slice (.ref D) (.int i u)) Q E s := by
  obtain ⟨n, rfl⟩ := Int.eq_ofNat_of_zero_le h0
  obtain ⟨v, hv, t', rfl⟩ := hys.2 n (by omega)
  exact item_list ⟨_, (N _ hm).1, rfl, k, rfl⟩ (by omega) (by omega) (by simpa using hv) (h t') hs hg
theorem shown_blk (mo : Int) (bv : Int → Int) : (⟨(sgn "?pc?d?b?-?l?s???" ((mo.fdiv 4096).fmod 16) :: [2, 1, 0].flatMap (blk bv)).toArray⟩ : Str) = shown12 mo (bv 0) (bv 1) (bv 2) (bv 3) (bv 4) (bv 5) (bv 6) (bv 7) (bv 8) (bv 9) (bv 10) (bv 11) := rfl
theorem subL_all : ∀ {l all : List (Addr × Obj)}, (∀ p ∈ l, p ∈ all) → SubL l all
  | [], _, _ => trivial
  | _ :: _, _, h => ⟨h _ (.head _), subL_all fun p hp => h p (.tail _ hp)⟩
theorem end_skip {h₀ h' : Heap} {L I : Addr} {oI : Obj} {x : Addr × Obj} {news' : List (Addr × Obj)} {rest : (Str → Option Value) → List (Addr × Obj) → Prop} {s₁ : Shared} {tk : Nat} {m' : Str → Option Value} (F : Fr h₀ L h' m') (N : News h₀ L h' (x :: (I, oI) :: news')) (off : OffW [(I, oI)] news') (r : rest m' news') :
    UnrEndW h₀ L s₁ [(I, oI)] rest { s₁ with heap := h', toks := tk } :=
  UnrEndW.intro F N news' ⟨.tail _ (.head _), trivial⟩ (subL_all fun _ hp => .tail _ (.tail _ hp)) off r
theorem sgn_push (l : List (Nat × Tok)) (a b c : Nat) (x y z : Tok) : (l.map fun p => Value.str (one p.1) p.2).toArray ++ #[.str (one a) x, .str (one b) y, .str (one c) z] = ((l ++ [(a, x), (b, y), (c, z)]).map fun p => Value.str (one p.1) p.2).toArray := by simp
theorem sgn_size (l : List (Nat × Tok)) (h : l.length ≤ 10) : (l.map fun p => Value.str (one p.1) p.2).toArray.size + 3 ≤ 1000 := by
  rw [List.size_toArray, List.length_map]
  omega
section
variable {w : World} {dp un : Nat} {fr : Option (List Env)} {gd : Option (List Code)} {s : Shared} {B : Heap} {p : Program} {loose : List Str} {mean : ExcName → Option Value} {mg mb : Str → Option Value} {Q E : Value → Shared → Prop} {mo : Int} {t : Tok} {bk : Addr} {n : Nat}
theorem shown_raw (ds : List (Addr × Deed)) (G : Deep w p loose mean mg mb B) (hB : Ext B s.heap) (nb : B.get? bk = none) (hr : dp + 50 < recursionLimit) (hmo : 0 ≤ mo ∧ mo < 262144) (hlen : ds.length ≤ 5)
    (hds : ∀ q ∈ ds, DeedAt s.heap q.1 q.2 ∧ q.2.ok ∧ q.2.q < 50000)
    (g : s.heap.get? bk = some (listOf (refsD ds).toArray n))
    (hQ : ∀ h' tk' t', Ext s.heap h' → Q (.str (shown12 mo (rightV mo ds 0 0) (rightV mo ds 1 0) (rightV mo ds 2 0) (rightV mo ds 3 0) (rightV mo ds 4 0) (rightV mo ds 5 0) (rightV mo ds 6 0) (rightV mo ds 7 0) (rightV mo ds 8 0) (rightV mo ds 9 0) (rightV mo ds 10 0) (rightV mo ds 11 0)) t') { s with heap := h', toks := tk' }) :
    wpAny (model prog w) { handled := none, depth := dp, frames := fr, guards := gd, units := un } (call (.ref 148) [.int mo t, .ref bk]) Q E s := by
  have hh : Ext B (hideAll s.heap [bk]) := hB.hide (by intro y hy; rw [List.mem_singleton.mp hy]; exact nb)
  have hk := hide_lists (h := s.heap) (l := [bk]) (by intro y hy; rw [List.mem_singleton.mp hy]; exact ⟨_, g, rfl⟩)
  have hds' : ∀ q ∈ ds, DeedAt (hideAll s.heap [bk]) q.1 q.2 ∧ q.2.ok ∧ q.2.q < 50000 := fun q hq => ⟨(hds q hq).1.hide hk, (hds q hq).2⟩
  have X' : (hd0.heap_1 w.params).In (hideAll s.heap [bk]) := G.X.keeps hh
  have T' := G.T.keeps hh
  have X : (hd0.heap_1 w.params).In s.heap := G.X.keeps hB
  refine wpAny_call ?_
  k_dflt (refine' enterMC (muts := [(bk, listOf (refsD ds).toArray n)]) (binds := [("mode", .int mo t), ("back", .ref bk)]) ?hm X (G.T.nolimit.keeps hB) ?k6 ?k7 ?k8 ?k9 ?kB ?kD ?_ ?c2 ?c3 ?c4; (case hm => simpa using g); (case k6 => k_is); (case k7 => k_is); (case k8 => (show dp < recursionLimit; omega)); (case k9 => exact BindsTo.of_eq rfl); (case kB => exact kindsX rfl); (case kD => decide +kernel); (case c2 => exact rfl); (case c3 => exact rfl); (case c4 => exact rfl))
  intro L h₁ tk cells hl F N Y
  clear X hds
  obtain ⟨oB, oM, hE, dB, dM⟩ := CellsAre.two Y
  subst hE
  clear Y
  dsimp only [List.map] at F N
  have hl' : (bk : Nat) < L := hl _ (.head _)
  clear hl
  dsimp only
  simp only [List.cons_append, List.nil_append] at N
  refine wpAny_execs_cons ?_
  refine' assign_compR (h₀ := hideAll s.heap [bk]) (n := 12) (fun i y => ∃ t', y = .int (rightV mo ds i 0) t') ?k1 ?k2 ?k3 ?k4 ?k5 ?k6 ?k7 ?k8 ?k9 ?_ ?k10
  (case k1 => exact rfl); (case k2 => exact rfl); (case k3 => exact rfl); (case k4 => decide); (case k5 => exact rfl); (case k6 => decide); (case k7 => exact rfl); (case k8 => exact rfl); (case k9 => exact rfl); (case k10 => (intro _; rfl))
  repeat' (first | (k_unfold; (try dsimp only)) | (k_end; wrow_close) | (with_reducible (k_here; (with_reducible show wpAny _ _ (subscriptTail _ _ (Value.ref _) (Value.int _ _)) _ _ _); k_dflt (refine bit_at (by first | (assumption; done) | fail) (by first | (k_asm; done) | fail) (by first | (k_mem; done) | fail) (by first | (omega; done) | fail) (by first | (omega; done) | fail) ?_; k_whole); intro t'q9)) | (with_reducible ((with_reducible show UnrEndW _ _ _ _ _ _); refine end_skip (by assumption) (by assumption) (by ktu_offL) ⟨by k_subL, ?_⟩)) | (with_reducible (k_here; (with_reducible show wpAny _ _ (inplaceOp Operator.Add (Value.ref _) (Value.ref _)) _ _ _); k_dflt (refine iadd_lists (by first | (k_asm; done) | fail) (by first | (k_asm; done) | fail) (by first | (k_updF; done) | fail) (by first | (k_mem; done) | fail) (by first | (simp; omega; done) | fail) ?_; k_whole); intro h'q9 k'q9 F'q9 N'q9; (try k_sweep))) | (with_reducible (k_here; (with_reducible show wpAny _ _ (subscriptTail _ _ (Value.str _ _) (Value.int _ _)) _ _ _); (refine item_sgn (by kxi_len) (by first | omega | exact Int.fmod_nonneg_of_pos _ (by decide) | (simp; omega)) (by first | omega | exact Int.fmod_lt_of_pos _ (by decide) | (simp; omega)) (by decide) ?_))) | (k_here; (with_reducible show wpAny _ _ (subscriptTail _ _ (Value.ref _) (Value.int _ _)) _ _ _); k_dflt (refine bit_at (by first | (assumption; done) | fail) (by first | (k_asm; done) | fail) (by first | (k_mem; done) | fail) (by first | (omega; done) | fail) (by first | (omega; done) | fail) ?_; k_whole); intro t'q9) | ((with_reducible show UnrEndW _ _ _ _ _ _); refine end_skip (by assumption) (by assumption) (by ktu_offL) ⟨by k_subL, ?_⟩) | (k_here; (with_reducible show wpAny _ _ (inplaceOp Operator.Add (Value.ref _) (Value.ref _)) _ _ _); k_dflt (refine iadd_lists (by first | (k_asm; done) | fail) (by first | (k_asm; done) | fail) (by first | (k_updF; done) | fail) (by first | (k_mem; done) | fail) (by first | (simp; omega; done) | fail) ?_; k_whole); intro h'q9 k'q9 F'q9 N'q9; (try k_sweep)) | (k_here; (with_reducible show wpAny _ _ (subscriptTail _ _ (Value.str _ _) (Value.int _ _)) _ _ _); (refine item_sgn (by kxi_len) (by first | omega | exact Int.fmod_nonneg_of_pos _ (by decide) | (simp; omega)) (by first | omega | exact Int.fmod_lt_of_pos _ (by decide) | (simp; omega)) (by decide) ?_)) | (walk1 <;> (try dsimp only)) | (dsimp only; first | (with_reducible (k_here; (with_reducible show wpAny _ _ (subscriptTail _ _ (Value.ref _) (Value.int _ _)) _ _ _); k_dflt (refine bit_at (by first | (assumption; done) | fail) (by first | (k_asm; done) | fail) (by first | (k_mem; done) | fail) (by first | (omega; done) | fail) (by first | (omega; done) | fail) ?_; k_whole); intro t'q9)) | (with_reducible ((with_reducible show UnrEndW _ _ _ _ _ _); refine end_skip (by assumption) (by assumption) (by ktu_offL) ⟨by k_subL, ?_⟩)) | (with_reducible (k_here; (with_reducible show wpAny _ _ (inplaceOp Operator.Add (Value.ref _) (Value.ref _)) _ _ _); k_dflt (refine iadd_lists (by first | (k_asm; done) | fail) (by first | (k_asm; done) | fail) (by first | (k_updF; done) | fail) (by first | (k_mem; done) | fail) (by first | (simp; omega; done) | fail) ?_; k_whole); intro h'q9 k'q9 F'q9 N'q9; (try k_sweep))) | (with_reducible (k_here; (with_reducible show wpAny _ _ (subscriptTail _ _ (Value.str _ _) (Value.int _ _)) _ _ _); (refine item_sgn (by kxi_len) (by first | omega | exact Int.fmod_nonneg_of_pos _ (by decide) | (simp; omega)) (by first | omega | exact Int.fmod_lt_of_pos _ (by decide) | (simp; omega)) (by decide) ?_))) | (k_here; (with_reducible show wpAny _ _ (subscriptTail _ _ (Value.ref _) (Value.int _ _)) _ _ _); k_dflt (refine bit_at (by first | (assumption; done) | fail) (by first | (k_asm; done) | fail) (by first | (k_mem; done) | fail) (by first | (omega; done) | fail) (by first | (omega; done) | fail) ?_; k_whole); intro t'q9) | ((with_reducible show UnrEndW _ _ _ _ _ _); refine end_skip (by assumption) (by assumption) (by ktu_offL) ⟨by k_subL, ?_⟩) | (k_here; (with_reducible show wpAny _ _ (inplaceOp Operator.Add (Value.ref _) (Value.ref _)) _ _ _); k_dflt (refine iadd_lists (by first | (k_asm; done) | fail) (by first | (k_asm; done) | fail) (by first | (k_updF; done) | fail) (by first | (k_mem; done) | fail) (by first | (simp; omega; done) | fail) ?_; k_whole); intro h'q9 k'q9 F'q9 N'q9; (try k_sweep)) | (k_here; (with_reducible show wpAny _ _ (subscriptTail _ _ (Value.str _ _) (Value.int _ _)) _ _ _); (refine item_sgn (by kxi_len) (by first | omega | exact Int.fmod_nonneg_of_pos _ (by decide) | (simp; omega)) (by first | omega | exact Int.fmod_lt_of_pos _ (by decide) | (simp; omega)) (by decide) ?_)) | walk1) | (leave1; try dsimp only) | fail "no step")
  refine ⟨_, _, _, _, _, _, _, rfl, (by assumption), (by decide), (by decide), (by decide), (by assumption), (by assumption), ?_, ?_⟩
  · rename_i F1 N1 _
    intro C i ti s₃ m₃ E' hi hn hm ex hC
    have F3 := F1.keeps ex
    refine Call_Name rfl (nameG_K (v := .ref 143) F3 X' (topRead_of T') (by kernel_rfl) ?_ rfl rfl rfl (by decide))
    refine callWith_K (K := hd0.heap_1 w.params) (X'.keeps F3.keep) (by kernel_rfl) ?_
    refine spliced_more (wpAny_Name (wpAny_loadName_cell rfl rfl rfl ⟨oM, ex _ _ (N1 _ (.tail _ (.head _))).1, dM⟩ ?_))
    refine spliced_more (wpAny_Name (wpAny_loadName_cell rfl rfl rfl ⟨oB, ex _ _ (N1 _ (.head _)).1, dB⟩ ?_))
    refine spliced_more (wpAny_Name (wpAny_loadName_local rfl rfl hn hm ?_))
    refine spliced_none ⟨X'.keeps F3.keep, ?_⟩
    refine right_raw ds G (hh.trans F3.keep) nb (by show dp + 1 + 30 < recursionLimit; omega) hmo ⟨by omega, by omega⟩ hlen (fun q hq => ⟨(hds' q hq).1.keeps F3.keep, (hds' q hq).2⟩) (ex _ _ (N1 _ (.tail _ (.tail _ (.head _)))).1) ?_
    intro v h' tk' t' e x
    subst e
    exact ⟨⟨_, rfl⟩, _, _, rfl, x⟩
  · intro D h' tk ys k F' N' hne hsz hys
    simp only [List.mem_cons, List.not_mem_nil, or_false, forall_eq_or_imp, forall_eq] at hne
    obtain ⟨hn1, hn2, hn3⟩ := hne
    clear hds'
    dsimp only
    iterate 30 (first | (k_unfold; (try dsimp only)) | (k_end; wrow_close) | (with_reducible (k_here; (with_reducible show wpAny _ _ (subscriptTail _ _ (Value.ref _) (Value.int _ _)) _ _ _); k_dflt (refine bit_at (by first | (assumption; done) | fail) (by first | (k_asm; done) | fail) (by first | (k_mem; done) | fail) (by first | (omega; done) | fail) (by first | (omega; done) | fail) ?_; k_whole); intro t'q9)) | (with_reducible ((with_reducible show UnrEndW _ _ _ _ _ _); refine end_skip (by assumption) (by assumption) (by ktu_offL) ⟨by k_subL, ?_⟩)) | (with_reducible (k_here; (with_reducible show wpAny _ _ (inplaceOp Operator.Add (Value.ref _) (Value.ref _)) _ _ _); k_dflt (refine iadd_lists (by first | (k_asm; done) | fail) (by first | (k_asm; done) | fail) (by first | (k_updF; done) | fail) (by first | (k_mem; done) | fail) (by first | (simp; omega; done) | fail) ?_; k_whole); intro h'q9 k'q9 F'q9 N'q9; (try k_sweep))) | (with_reducible (k_here; (with_reducible show wpAny _ _ (subscriptTail _ _ (Value.str _ _) (Value.int _ _)) _ _ _); (refine item_sgn (by kxi_len) (by first | omega | exact Int.fmod_nonneg_of_pos _ (by decide) | (simp; omega)) (by first | omega | exact Int.fmod_lt_of_pos _ (by decide) | (simp; omega)) (by decide) ?_))) | (k_here; (with_reducible show wpAny _ _ (subscriptTail _ _ (Value.ref _) (Value.int _ _)) _ _ _); k_dflt (refine bit_at (by first | (assumption; done) | fail) (by first | (k_asm; done) | fail) (by first | (k_mem; done) | fail) (by first | (omega; done) | fail) (by first | (omega; done) | fail) ?_; k_whole); intro t'q9) | ((with_reducible show UnrEndW _ _ _ _ _ _); refine end_skip (by assumption) (by assumption) (by ktu_offL) ⟨by k_subL, ?_⟩) | (k_here; (with_reducible show wpAny _ _ (inplaceOp Operator.Add (Value.ref _) (Value.ref _)) _ _ _); k_dflt (refine iadd_lists (by first | (k_asm; done) | fail) (by first | (k_asm; done) | fail) (by first | (k_updF; done) | fail) (by first | (k_mem; done) | fail) (by first | (simp; omega; done) | fail) ?_; k_whole); intro h'q9 k'q9 F'q9 N'q9; (try k_sweep)) | (k_here; (with_reducible show wpAny _ _ (subscriptTail _ _ (Value.str _ _) (Value.int _ _)) _ _ _); (refine item_sgn (by kxi_len) (by first | omega | exact Int.fmod_nonneg_of_pos _ (by decide) | (simp; omega)) (by first | omega | exact Int.fmod_lt_of_pos _ (by decide) | (simp; omega)) (by decide) ?_)) | walk1 | (dsimp only; first | (with_reducible (k_here; (with_reducible show wpAny _ _ (subscriptTail _ _ (Value.ref _) (Value.int _ _)) _ _ _); k_dflt (refine bit_at (by first | (assumption; done) | fail) (by first | (k_asm; done) | fail) (by first | (k_mem; done) | fail) (by first | (omega; done) | fail) (by first | (omega; done) | fail) ?_; k_whole); intro t'q9)) | (with_reducible ((with_reducible show UnrEndW _ _ _ _ _ _); refine end_skip (by assumption) (by assumption) (by ktu_offL) ⟨by k_subL, ?_⟩)) | (with_reducible (k_here; (with_reducible show wpAny _ _ (inplaceOp Operator.Add (Value.ref _) (Value.ref _)) _ _ _); k_dflt (refine iadd_lists (by first | (k_asm; done) | fail) (by first | (k_asm; done) | fail) (by first | (k_updF; done) | fail) (by first | (k_mem; done) | fail) (by first | (simp; omega; done) | fail) ?_; k_whole); intro h'q9 k'q9 F'q9 N'q9; (try k_sweep))) | (with_reducible (k_here; (with_reducible show wpAny _ _ (subscriptTail _ _ (Value.str _ _) (Value.int _ _)) _ _ _); (refine item_sgn (by kxi_len) (by first | omega | exact Int.fmod_nonneg_of_pos _ (by decide) | (simp; omega)) (by first | omega | exact Int.fmod_lt_of_pos _ (by decide) | (simp; omega)) (by decide) ?_))) | (k_here; (with_reducible show wpAny _ _ (subscriptTail _ _ (Value.ref _) (Value.int _ _)) _ _ _); k_dflt (refine bit_at (by first | (assumption; done) | fail) (by first | (k_asm; done) | fail) (by first | (k_mem; done) | fail) (by first | (omega; done) | fail) (by first | (omega; done) | fail) ?_; k_whole); intro t'q9) | ((with_reducible show UnrEndW _ _ _ _ _ _); refine end_skip (by assumption) (by assumption) (by ktu_offL) ⟨by k_subL, ?_⟩) | (k_here; (with_reducible show wpAny _ _ (inplaceOp Operator.Add (Value.ref _) (Value.ref _)) _ _ _); k_dflt (refine iadd_lists (by first | (k_asm; done) | fail) (by first | (k_asm; done) | fail) (by first | (k_updF; done) | fail) (by first | (k_mem; done) | fail) (by first | (simp; omega; done) | fail) ?_; k_whole); intro h'q9 k'q9 F'q9 N'q9; (try k_sweep)) | (k_here; (with_reducible show wpAny _ _ (subscriptTail _ _ (Value.str _ _) (Value.int _ _)) _ _ _); (refine item_sgn (by kxi_len) (by first | omega | exact Int.fmod_nonneg_of_pos _ (by decide) | (simp; omega)) (by first | omega | exact Int.fmod_lt_of_pos _ (by decide) | (simp; omega)) (by decide) ?_)) | walk1) | (leave1; try dsimp only))
    obtain ⟨bv, ebv⟩ : ∃ bv : Int → Int, bv = fun i => rightV mo ds i 0 := ⟨_, rfl⟩
    have hb : ∀ i, 0 ≤ bv i ∧ bv i < 2 := fun i => by rw [ebv]; exact rightV_bit mo ds i 0
    have hys' : ys.size = 12 ∧ ∀ i : Nat, i < 12 → ∃ v, ys[i]? = some v ∧ ∃ t', v = .int (bv i) t' := by rw [ebv]; exact ⟨hsz, hys⟩
    clear hys hsz
    rename_i S hS1 FS NS lS hS2 T hT NT lT i0 lI
    generalize hoT : ({ cls := Value.type "tuple", dict := none, data := _ } : Obj) = oT at *
    refine items_ind (fun p : Nat × Tok => Itm.val (.int (p.1 : Int) p.2)) (fun r m news => ∀ G : Prop, (∀ (pre : List Nat) (l : List (Nat × Tok)) (kS : Nat), pre ++ r.map (·.1) = [2, 1, 0] → news = (T, oT) :: (S, listOf (l.map fun p => Value.str (one p.1) p.2).toArray kS) :: (D, listOf ys k) :: (L + 1 + 1, oB) :: (L + 1, oM) :: [(bk, listOf (refsD ds).toArray n)] → l.map (·.1) = sgn "?pc?d?b?-?l?s???" ((mo.fdiv 4096).fmod 16) :: pre.flatMap (blk bv) → l.length = 1 + 3 * pre.length → m "bits" = some (.ref D) → m "signs" = some (.ref S) → G) → G) ?_ ?_ [(2, _), (1, _), (0, _)] _ _ ?_
    rotate_left 2
    · exact fun G hG => hG [] [(_, _)] _ rfl (by first | (rw [item0]; rfl) | rfl) rfl rfl rfl rfl
    · intro m news hJ h tk F N
      refine hJ _ ?_
      intro pre l kS hp en hl hlen hm1 hm2
      have hp' : pre = [2, 1, 0] := by simpa using hp
      subst hp'
      subst en
      rw [norm1 hm1, norm1 hm2] at F
      repeat' (first | (k_unfold; (try dsimp only)) | (k_end; wrow_close) | (with_reducible (k_here; (with_reducible show wpAny _ _ (subscriptTail _ _ (Value.ref _) (Value.int _ _)) _ _ _); k_dflt (refine bit_at (by first | (assumption; done) | fail) (by first | (k_asm; done) | fail) (by first | (k_mem; done) | fail) (by first | (omega; done) | fail) (by first | (omega; done) | fail) ?_; k_whole); intro t'q9)) | (with_reducible ((with_reducible show UnrEndW _ _ _ _ _ _); refine end_skip (by assumption) (by assumption) (by ktu_offL) ⟨by k_subL, ?_⟩)) | (with_reducible (k_here; (with_reducible show wpAny _ _ (inplaceOp Operator.Add (Value.ref _) (Value.ref _)) _ _ _); k_dflt (refine iadd_lists (by first | (k_asm; done) | fail) (by first | (k_asm; done) | fail) (by first | (k_updF; done) | fail) (by first | (k_mem; done) | fail) (by first | (simp; omega; done) | fail) ?_; k_whole); intro h'q9 k'q9 F'q9 N'q9; (try k_sweep))) | (with_reducible (k_here; (with_reducible show wpAny _ _ (subscriptTail _ _ (Value.str _ _) (Value.int _ _)) _ _ _); (refine item_sgn (by kxi_len) (by first | omega | exact Int.fmod_nonneg_of_pos _ (by decide) | (simp; omega)) (by first | omega | exact Int.fmod_lt_of_pos _ (by decide) | (simp; omega)) (by decide) ?_))) | (k_here; (with_reducible show wpAny _ _ (subscriptTail _ _ (Value.ref _) (Value.int _ _)) _ _ _); k_dflt (refine bit_at (by first | (assumption; done) | fail) (by first | (k_asm; done) | fail) (by first | (k_mem; done) | fail) (by first | (omega; done) | fail) (by first | (omega; done) | fail) ?_; k_whole); intro t'q9) | ((with_reducible show UnrEndW _ _ _ _ _ _); refine end_skip (by assumption) (by assumption) (by ktu_offL) ⟨by k_subL, ?_⟩) | (k_here; (with_reducible show wpAny _ _ (inplaceOp Operator.Add (Value.ref _) (Value.ref _)) _ _ _); k_dflt (refine iadd_lists (by first | (k_asm; done) | fail) (by first | (k_asm; done) | fail) (by first | (k_updF; done) | fail) (by first | (k_mem; done) | fail) (by first | (simp; omega; done) | fail) ?_; k_whole); intro h'q9 k'q9 F'q9 N'q9; (try k_sweep)) | (k_here; (with_reducible show wpAny _ _ (subscriptTail _ _ (Value.str _ _) (Value.int _ _)) _ _ _); (refine item_sgn (by kxi_len) (by first | omega | exact Int.fmod_nonneg_of_pos _ (by decide) | (simp; omega)) (by first | omega | exact Int.fmod_lt_of_pos _ (by decide) | (simp; omega)) (by decide) ?_)) | (walk1 <;> (try dsimp only)) | (dsimp only; first | (with_reducible (k_here; (with_reducible show wpAny _ _ (subscriptTail _ _ (Value.ref _) (Value.int _ _)) _ _ _); k_dflt (refine bit_at (by first | (assumption; done) | fail) (by first | (k_asm; done) | fail) (by first | (k_mem; done) | fail) (by first | (omega; done) | fail) (by first | (omega; done) | fail) ?_; k_whole); intro t'q9)) | (with_reducible ((with_reducible show UnrEndW _ _ _ _ _ _); refine end_skip (by assumption) (by assumption) (by ktu_offL) ⟨by k_subL, ?_⟩)) | (with_reducible (k_here; (with_reducible show wpAny _ _ (inplaceOp Operator.Add (Value.ref _) (Value.ref _)) _ _ _); k_dflt (refine iadd_lists (by first | (k_asm; done) | fail) (by first | (k_asm; done) | fail) (by first | (k_updF; done) | fail) (by first | (k_mem; done) | fail) (by first | (simp; omega; done) | fail) ?_; k_whole); intro h'q9 k'q9 F'q9 N'q9; (try k_sweep))) | (with_reducible (k_here; (with_reducible show wpAny _ _ (subscriptTail _ _ (Value.str _ _) (Value.int _ _)) _ _ _); (refine item_sgn (by kxi_len) (by first | omega | exact Int.fmod_nonneg_of_pos _ (by decide) | (simp; omega)) (by first | omega | exact Int.fmod_lt_of_pos _ (by decide) | (simp; omega)) (by decide) ?_))) | (k_here; (with_reducible show wpAny _ _ (subscriptTail _ _ (Value.ref _) (Value.int _ _)) _ _ _); k_dflt (refine bit_at (by first | (assumption; done) | fail) (by first | (k_asm; done) | fail) (by first | (k_mem; done) | fail) (by first | (omega; done) | fail) (by first | (omega; done) | fail) ?_; k_whole); intro t'q9) | ((with_reducible show UnrEndW _ _ _ _ _ _); refine end_skip (by assumption) (by assumption) (by ktu_offL) ⟨by k_subL, ?_⟩) | (k_here; (with_reducible show wpAny _ _ (inplaceOp Operator.Add (Value.ref _) (Value.ref _)) _ _ _); k_dflt (refine iadd_lists (by first | (k_asm; done) | fail) (by first | (k_asm; done) | fail) (by first | (k_updF; done) | fail) (by first | (k_mem; done) | fail) (by first | (simp; omega; done) | fail) ?_; k_whole); intro h'q9 k'q9 F'q9 N'q9; (try k_sweep)) | (k_here; (with_reducible show wpAny _ _ (subscriptTail _ _ (Value.str _ _) (Value.int _ _)) _ _ _); (refine item_sgn (by kxi_len) (by first | omega | exact Int.fmod_nonneg_of_pos _ (by decide) | (simp; omega)) (by first | omega | exact Int.fmod_lt_of_pos _ (by decide) | (simp; omega)) (by decide) ?_)) | walk1) | (leave1; try dsimp only) | fail "no step")
      refine' join_signs (l := l) ?N ?m ?e ?hl ?_
      (case N => assumption); (case m => k_mem); (case e => rfl); (case hl => (rw [hlen]; decide))
      intro t' k
      rename Fr _ _ _ _ => Fz
      rename News _ _ _ _ => Nz
      rw [hl, shown_blk, ebv]
      exact hQ _ _ _ (ext_back1 g Fz Nz (by k_mem) rfl)
    · rintro ⟨j, tj⟩ r m news hJ IH
      refine hJ _ ?_
      intro pre l kS hp en hl hlen hm1 hm2
      subst en
      rw [norm1 hm1, norm1 hm2]
      have hj : j < 3 := by
        have h1 : j ∈ [2, 1, 0] := by rw [← hp]; simp
        revert h1
        intro h1
        simp only [List.mem_cons, List.not_mem_nil, or_false] at h1
        omega
      have hl10 : l.length ≤ 10 := by
        have h1 := congrArg List.length hp
        rw [List.length_append, List.map_cons, List.length_cons] at h1
        have h2 : [2, 1, 0].length = 3 := rfl
        omega
      have b1 := hb (3 * (j : Int))
      have b2 := hb (9 + (j : Int))
      have b3 := hb (3 * (j : Int) + 2)
      have b4 := hb (3 * (j : Int) + 1)
      clear hb
      repeat' (first | (k_unfold; (try dsimp only)) | (k_end; wrow_close) | (with_reducible (k_here; (with_reducible show wpAny _ _ (subscriptTail _ _ (Value.ref _) (Value.int _ _)) _ _ _); k_dflt (refine bit_at (by first | (assumption; done) | fail) (by first | (k_asm; done) | fail) (by first | (k_mem; done) | fail) (by first | (omega; done) | fail) (by first | (omega; done) | fail) ?_; k_whole); intro t'q9)) | (with_reducible ((with_reducible show UnrEndW _ _ _ _ _ _); refine end_skip (by assumption) (by assumption) (by ktu_offL) ⟨by k_subL, ?_⟩)) | (with_reducible (k_here; (with_reducible show wpAny _ _ (inplaceOp Operator.Add (Value.ref _) (Value.ref _)) _ _ _); k_dflt (refine iadd_lists (by first | (k_asm; done) | fail) (by first | (k_asm; done) | fail) (by first | (k_updF; done) | fail) (by first | (k_mem; done) | fail) (by first | (simp; omega; done) | fail) ?_; k_whole); intro h'q9 k'q9 F'q9 N'q9; (try k_sweep))) | (with_reducible (k_here; (with_reducible show wpAny _ _ (subscriptTail _ _ (Value.str _ _) (Value.int _ _)) _ _ _); (refine item_sgn (by kxi_len) (by first | omega | exact Int.fmod_nonneg_of_pos _ (by decide) | (simp; omega)) (by first | omega | exact Int.fmod_lt_of_pos _ (by decide) | (simp; omega)) (by decide) ?_))) | (k_here; (with_reducible show wpAny _ _ (subscriptTail _ _ (Value.ref _) (Value.int _ _)) _ _ _); k_dflt (refine bit_at (by first | (assumption; done) | fail) (by first | (k_asm; done) | fail) (by first | (k_mem; done) | fail) (by first | (omega; done) | fail) (by first | (omega; done) | fail) ?_; k_whole); intro t'q9) | ((with_reducible show UnrEndW _ _ _ _ _ _); refine end_skip (by assumption) (by assumption) (by ktu_offL) ⟨by k_subL, ?_⟩) | (k_here; (with_reducible show wpAny _ _ (inplaceOp Operator.Add (Value.ref _) (Value.ref _)) _ _ _); k_dflt (refine iadd_lists (by first | (k_asm; done) | fail) (by first | (k_asm; done) | fail) (by first | (k_updF; done) | fail) (by first | (k_mem; done) | fail) (by first | (simp; omega; done) | fail) ?_; k_whole); intro h'q9 k'q9 F'q9 N'q9; (try k_sweep)) | (k_here; (with_reducible show wpAny _ _ (subscriptTail _ _ (Value.str _ _) (Value.int _ _)) _ _ _); (refine item_sgn (by kxi_len) (by first | omega | exact Int.fmod_nonneg_of_pos _ (by decide) | (simp; omega)) (by first | omega | exact Int.fmod_lt_of_pos _ (by decide) | (simp; omega)) (by decide) ?_)) | (walk1 <;> (try dsimp only)) | (dsimp only; first | (with_reducible (k_here; (with_reducible show wpAny _ _ (subscriptTail _ _ (Value.ref _) (Value.int _ _)) _ _ _); k_dflt (refine bit_at (by first | (assumption; done) | fail) (by first | (k_asm; done) | fail) (by first | (k_mem; done) | fail) (by first | (omega; done) | fail) (by first | (omega; done) | fail) ?_; k_whole); intro t'q9)) | (with_reducible ((with_reducible show UnrEndW _ _ _ _ _ _); refine end_skip (by assumption) (by assumption) (by ktu_offL) ⟨by k_subL, ?_⟩)) | (with_reducible (k_here; (with_reducible show wpAny _ _ (inplaceOp Operator.Add (Value.ref _) (Value.ref _)) _ _ _); k_dflt (refine iadd_lists (by first | (k_asm; done) | fail) (by first | (k_asm; done) | fail) (by first | (k_updF; done) | fail) (by first | (k_mem; done) | fail) (by first | (simp; omega; done) | fail) ?_; k_whole); intro h'q9 k'q9 F'q9 N'q9; (try k_sweep))) | (with_reducible (k_here; (with_reducible show wpAny _ _ (subscriptTail _ _ (Value.str _ _) (Value.int _ _)) _ _ _); (refine item_sgn (by kxi_len) (by first | omega | exact Int.fmod_nonneg_of_pos _ (by decide) | (simp; omega)) (by first | omega | exact Int.fmod_lt_of_pos _ (by decide) | (simp; omega)) (by decide) ?_))) | (k_here; (with_reducible show wpAny _ _ (subscriptTail _ _ (Value.ref _) (Value.int _ _)) _ _ _); k_dflt (refine bit_at (by first | (assumption; done) | fail) (by first | (k_asm; done) | fail) (by first | (k_mem; done) | fail) (by first | (omega; done) | fail) (by first | (omega; done) | fail) ?_; k_whole); intro t'q9) | ((with_reducible show UnrEndW _ _ _ _ _ _); refine end_skip (by assumption) (by assumption) (by ktu_offL) ⟨by k_subL, ?_⟩) | (k_here; (with_reducible show wpAny _ _ (inplaceOp Operator.Add (Value.ref _) (Value.ref _)) _ _ _); k_dflt (refine iadd_lists (by first | (k_asm; done) | fail) (by first | (k_asm; done) | fail) (by first | (k_updF; done) | fail) (by first | (k_mem; done) | fail) (by first | (simp; omega; done) | fail) ?_; k_whole); intro h'q9 k'q9 F'q9 N'q9; (try k_sweep)) | (k_here; (with_reducible show wpAny _ _ (subscriptTail _ _ (Value.str _ _) (Value.int _ _)) _ _ _); (refine item_sgn (by kxi_len) (by first | omega | exact Int.fmod_nonneg_of_pos _ (by decide) | (simp; omega)) (by first | omega | exact Int.fmod_lt_of_pos _ (by decide) | (simp; omega)) (by decide) ?_)) | walk1) | (leave1; try dsimp only) | fail "no step")
      all_goals (refine IH _ _ ?_; intro G9 hG9; refine hG9 (pre ++ [j]) (l ++ [(_, _), (_, _), (_, _)]) _ (by rw [← hp]; simp) (by rw [sgn_push]) ?_ (by simp only [List.length_append, hlen, List.length_cons, List.length_nil]; omega) rfl rfl; rw [List.map_append, hl, List.flatMap_append, List.flatMap_singleton]; unfold blk; first | (rw [if_pos (by omega)]; rfl) | (rw [if_neg (by omega)]; rfl))
end
end Mine

end
section
-- TE
open PySem PySem.W PySem.Spec PySem.Calls PyProof.Rows
set_option Elab.async false
set_option maxRecDepth 100000
set_option maxHeartbeats 2000000
namespace Mine
section
variable {prog : Program} {w : World} {A : Around} {E : Value → Shared → Prop} {s : Shared}
theorem nextOf_tup_item {it t : Addr} {i : Nat} {items} {x : Value} {Q : Value → Shared → Prop} (hit : s.heap.IsTupleIter it t i) (ht : s.heap.IsTuple t items) (hx : items[i]? = some x)
    (hQ : ∀ h', h'.IsTupleIter it t (i + 1) → Heap.SameBut it s.heap h' → Q x { s with heap := h' }) : wpAny (model prog w) A (Builtin.SmallTypes.nextOf (.ref it)) Q E s := by
  obtain ⟨o, ho, hc, hd⟩ := id hit
  obtain ⟨ol, hol, _, nl, hdl⟩ := ht
  unfold Builtin.SmallTypes.nextOf
  refine wpAny_bind (wpAny_callSpecial?_slot (name := Str.ofString "__next__") hit.typeIs PySem.F.slot_tuple_iterator_next
    (wpAny_call_entry PySem.F.slot_tuple_iterator_next hit.typeIs PySem.F.entry_tuple_iterator_next ?_ (PySem.F.args_tuple_iterator_next_1 _)))
  show wpAny _ _ (field (.ref it) 0 >>= _) _ _ s
  refine wpAny_bind (wpAny_field ho hd (x := .ref t) rfl ?_)
  show wpAny _ _ (if (Value.ref t == Value.none) = true then _ else _) _ _ s
  rw [if_neg (show ¬ ((Value.ref t == Value.none) = true) from Bool.false_ne_true)]
  show wpAny _ _ (field (.ref it) 1 >>= _) _ _ s
  refine wpAny_bind (wpAny_field ho hd (x := .int i 0) rfl ?_)
  show wpAny _ _ (seqItems? (.ref t) >>= _) _ _ s
  refine wpAny_bind (wpAny_seqItems hol hdl ?_)
  simp only [Int.toNat_natCast, hx]
  refine wpAny_bind (wpAny_setField ho hd (by simp) (wpAny_pure ⟨x, rfl, wpAny_pure (hQ _ ?_ (Heap.SameBut.update ..))⟩))
  exact ⟨_, Heap.get?_update_self _ ho (Obj.isFreed_of_fields (Obj.data_mapFields hd _)), (Obj.cls_mapFields ..).trans hc, by
    rw [Obj.data_mapFields hd]; simp [rawInt]⟩
theorem nextOf_tup_end {it t : Addr} {i : Nat} {items} {Q : Value → Shared → Prop} (hh : A.handled = none) (hit : s.heap.IsTupleIter it t i) (ht : s.heap.IsTuple t items) (hx : items[i]? = none)
    (hE : ∀ h' e, Heap.ExtBut it s.heap h' → (∃ o, h'.get? e = some o ∧ o.cls = .type "StopIteration") → E (.ref e) { s with heap := h' }) :
    wpAny (model prog w) A (Builtin.SmallTypes.nextOf (.ref it)) Q E s := by
  obtain ⟨o, ho, hc, hd⟩ := id hit
  obtain ⟨ol, hol, _, nl, hdl⟩ := ht
  unfold Builtin.SmallTypes.nextOf
  refine wpAny_bind (wpAny_callSpecial?_slot (name := Str.ofString "__next__") hit.typeIs PySem.F.slot_tuple_iterator_next
    (wpAny_call_entry PySem.F.slot_tuple_iterator_next hit.typeIs PySem.F.entry_tuple_iterator_next ?_ (PySem.F.args_tuple_iterator_next_1 _)))
  show wpAny _ _ (field (.ref it) 0 >>= _) _ _ s
  refine wpAny_bind (wpAny_field ho hd (x := .ref t) rfl ?_)
  show wpAny _ _ (if (Value.ref t == Value.none) = true then _ else _) _ _ s
  rw [if_neg (show ¬ ((Value.ref t == Value.none) = true) from Bool.false_ne_true)]
  show wpAny _ _ (field (.ref it) 1 >>= _) _ _ s
  refine wpAny_bind (wpAny_field ho hd (x := .int i 0) rfl ?_)
  show wpAny _ _ (seqItems? (.ref t) >>= _) _ _ s
  refine wpAny_bind (wpAny_seqItems hol hdl ?_)
  simp only [Int.toNat_natCast, hx]
  refine wpAny_bind (wpAny_rule (wpAny_bind (wpAny_setField ho hd (by simp) ?_)))
  show wpAny _ _ (newExc (.type "StopIteration") [] >>= _) _ _ _
  refine wpAny_bind ?_
  simp only [newExc, newTuple]
  refine wpAny_bind (wpAny_newObj_type ?_ (by size_fits))
  refine wpAny_bind (m := firstArgMember _ _) (wpAny_of_eq (a := Value.none) (by first | rfl | (simp only [firstArgMember]; rfl)) ?_)
  refine wpAny_newObj_type ?_ (by size_fits)
  simp only [raiseNew]
  refine wpAny_bind (wpAny_handled ?_)
  first | rw [show A.in1.handled = none from hh] | rw [hh]
  refine wpAny_bind (wpAny_pure (wpAny_throw ?_))
  exact hE _ _ (((Heap.SameBut.update ..).extBut.push _).push _) ⟨_, Heap.get?_push_size _ rfl, rfl⟩
end
theorem tupIter_at {h h' : Heap} {a l i} (x : h.IsTupleIter a l i) (e : ∀ o, h.get? a = some o → h'.get? a = some o) : h'.IsTupleIter a l i := let ⟨o, ho, r⟩ := x; ⟨o, e _ ho, r⟩
theorem tup_at {h h' : Heap} {a l} (x : h.IsTuple a l) (e : ∀ o, h.get? a = some o → h'.get? a = some o) : h'.IsTuple a l := let ⟨o, ho, r⟩ := x; ⟨o, e _ ho, r⟩
theorem drawsTup {prog : Program} {w : World} {A : Around} (hh : A.handled = none) (it l : Addr) (hne : l ≠ it) (items : Array Value) :
    Draws prog w A it [it, l] items.size (fun i v => items[i]? = some v) (fun i h => h.IsTupleIter it l i ∧ h.IsTuple l items) where
  live := fun _ _ st => let ⟨o, ho, _⟩ := st.1; ⟨o, ho⟩
  frame := fun _ _ _ st hk => ⟨tupIter_at st.1 fun o e => hk it (by simp) o e, tup_at st.2 fun o e => hk l (by simp) o e⟩
  item := fun i s Q E hi st hQ => by
    refine nextOf_tup_item st.1 st.2 (x := items[i]) (by simp [hi]) fun h' hit' hs' => ?_
    exact hQ _ h' s.toks (by simp [hi]) ⟨hit', tup_at st.2 fun o e => (hs'.2 l hne).trans e⟩ hs'
  done := fun s Q E st hE => nextOf_tup_end hh st.1 st.2 (by simp) hE
open AutoSeq1 (wpAny_loadPart') in
set_option maxHeartbeats 4000000 in
theorem enum_newT (l : Addr) (items : Array Value) (n : Nat) (dct : Option Addr) (sl : Array (Option Value)) :
    Meets (Builtin.«enumerate.__new__» ⟨[.type "enumerate", .ref l], []⟩) (fun _ R s => s.heap.get? l = some { cls := .type "tuple", dict := dct, data := .seq items n, slots := sl } ∧
      R (.ok (.ret (.ref (s.heap.push { cls := .type "tuple_iterator", data := .fields #[.ref l, .int 0 0] }).objs.size)))
        { s with heap := (s.heap.push { cls := .type "tuple_iterator", data := .fields #[.ref l, .int 0 0] }).push { cls := .type "enumerate", data := .fields #[.none, .bool false, .ref s.heap.objs.size, rawInt 0, .none, .none] } }) :=
  .of_wp fun prog w A R s h => by
    obtain ⟨hp, g, d, tk, os⟩ := s; obtain ⟨hl, h⟩ := h
    have hsub := sub_enumerate
    have hL : Heap.IsTuple (Shared.heap ⟨hp, g, d, tk, os⟩) l items := ⟨_, hl, rfl, n, rfl⟩
    wp_walk using wpAny_loadPart' hl
    refine wpAny_stack_any fun st => wpAny_pure ?_
    split
    · rename_i c _ _ _ _ _
      cases (c == Value.type "enumerate")
      · wp_walk using wpAny_loadPart' hl, wpAny_pyIter_tuple hL
        exact ⟨_, rfl, h⟩
      · wp_walk using wpAny_loadPart' hl, wpAny_pyIter_tuple hL
        exact ⟨_, rfl, h⟩
    · wp_walk using wpAny_loadPart' hl, wpAny_pyIter_tuple hL
      exact ⟨_, rfl, h⟩
section
variable {prog : Program} {w : World} {A : Around} {E : Value → Shared → Prop} {s : Shared}
theorem call_enum_tup {l : Addr} {items : Array Value} {Q : Value → Shared → Prop} (hL : s.heap.IsTuple l items)
    (h : ∀ h', IsEnum h' (s.heap.objs.size + 1) s.heap.objs.size 0 .none → h'.IsTupleIter s.heap.objs.size l 0 → h'.objs.size = s.heap.objs.size + 2 →
      (∀ b o, s.heap.get? b = some o → h'.get? b = some o) → Q (.ref (s.heap.objs.size + 1)) { s with heap := h' }) :
    wpAny (model prog w) A (call (.type "enumerate") [.ref l]) Q E s := by
  obtain ⟨⟨c, dct, dt, sl⟩, hl, hc, n, hd⟩ := hL
  replace hc : c = .type "tuple" := hc
  replace hd : dt = .seq items n := hd
  subst hc hd
  refine callType_new PySem.F.called_enumerate (by decide) (PySem.F.typeCall_enumerate_1 _) (PySem.F.newCall_enumerate_1 _) (fun obj => PySem.F.args_object_init_2 obj _) PySem.F.entry_enumerate_new
    (enum_newT l items n dct sl) ⟨hl, ?_⟩
  have hz : (s.heap.push { cls := .type "tuple_iterator", data := .fields #[.ref l, .int 0 0] }).objs.size = s.heap.objs.size + 1 := Heap.size_push ..
  show _ ∧ _
  rw [hz]
  have he : IsEnum ((s.heap.push { cls := .type "tuple_iterator", data := .fields #[.ref l, .int 0 0] }).push
      { cls := .type "enumerate", data := .fields #[.none, .bool false, .ref s.heap.objs.size, rawInt 0, .none, .none] }) (s.heap.objs.size + 1) s.heap.objs.size 0 .none := by
    have := Heap.get?_push_size (s.heap.push { cls := .type "tuple_iterator", data := .fields #[.ref l, .int 0 0] })
      (o := { cls := .type "enumerate", data := .fields #[.none, .bool false, .ref s.heap.objs.size, rawInt 0, .none, .none] }) rfl
    rw [hz] at this; exact this
  refine ⟨⟨_, he, rfl⟩, h _ he ⟨_, Heap.get?_push_of_some _ (Heap.get?_push_size _ rfl), rfl, rfl⟩ (by rw [Heap.size_push, hz]) fun b o x => Heap.get?_push_of_some _ (Heap.get?_push_of_some _ x)⟩
end
/-- a turn's end -/
inductive TurnEnd (h₀ : Heap) (L : Addr) (its : List (Addr × Obj)) (J : (Str → Option Value) → List (Addr × Obj) → Prop) (s₁ s₂ : Shared) : Prop
  | mk (h' : Heap) (tk : Nat) (m' : Str → Option Value) (news' : List (Addr × Obj)) (_ : s₂ = { s₁ with heap := h', toks := tk }) (_ : Fr h₀ L h' m') (_ : News h₀ L h' (its ++ news')) (_ : ∀ p ∈ news', p.1 ∉ its.map (·.1)) (_ : J m' news') : TurnEnd h₀ L its J s₁ s₂
noncomputable def TurnPost (h₀ : Heap) (L : Addr) (its : List (Addr × Obj)) (J : (Str → Option Value) → List (Addr × Obj) → Prop) (s₁ : Shared) (Q : Flow → Shared → Prop) (f : Flow) (s₂ : Shared) : Prop :=
  match f with
  | .ret v => Q (.ret v) s₂
  | .brk => Q .next s₂
  | .next => TurnEnd h₀ L its J s₁ s₂
  | .cont => TurnEnd h₀ L its J s₁ s₂
/-- what a loop (with its else) asks, where its iterator stands -/
inductive LoopE (prog : Program) (w : World) (A : Around) (h₀ : Heap) (env : Env) (target : Expr) (body orelse : List Stmt) (Q : Flow → Shared → Prop) (E : Value → Shared → Prop) (it : Value) (s : Shared) : Prop
  | mk (I : Addr) (fp wr ws : List Addr) (n : Nat) (P Md : Nat → Value → Heap → Prop) (St : Nat → Heap → Prop) (m : Str → Option Value) (news : List (Addr × Obj)) (J : Nat → (Str → Option Value) → List (Addr × Obj) → Prop) (_ : it = .ref I) (_ : KTurns prog w A target I fp wr n P Md St) (_ : env.locals ∉ fp) (_ : (∀ b ∈ wr, b ∈ ws)) (_ : (∀ b ∈ ws, b ∈ fp ∧ h₀.get? b = none)) (_ : (∀ b ∈ fp, b ∈ ws ∨ ∃ o, h₀.get? b = some o)) (_ : (∀ i h, St i h → ∀ b ∈ ws, ∃ o, h.get? b = some o)) (_ : (∀ p ∈ news, p.1 ∉ ws)) (_ : St 0 s.heap) (_ : Fr h₀ env.locals s.heap m) (_ : News h₀ env.locals s.heap news) (_ : J 0 m news) (_ : (∀ i v m₁ news₁ h₁ tk₁ its, i < n → P i v h₁ → J i m₁ news₁ → its.map (·.1) = ws → (∀ p ∈ news₁, p.1 ∉ ws) → Fr h₀ env.locals h₁ m₁ → News h₀ env.locals h₁ (its ++ news₁) →       wpAny (model prog w) A (assign target env v) (fun _ s₃ => wpAny (model prog w) A (execs body env) (TurnPost h₀ env.locals its (J (i + 1)) { s with heap := h₁, toks := tk₁ } Q) E s₃) E { s with heap := h₁, toks := tk₁ })) (_ : ∀ h' tk m' news', Fr h₀ env.locals h' m' → News h₀ env.locals h' news' → J n m' news' → wpAny (model prog w) A (execs orelse env) Q E { s with heap := h', toks := tk }) : LoopE prog w A h₀ env target body orelse Q E it s
inductive ForJ (h₀ : Heap) (env : Env) (s₂ : Shared) (n : Nat) (ws : List Addr) (St : Nat → Heap → Prop) (J : Nat → (Str → Option Value) → List (Addr × Obj) → Prop) (k : Nat) (s' : Shared) : Prop
  | mk (h' : Heap) (tk : Nat) (m' : Str → Option Value) (news' : List (Addr × Obj)) (i : Nat) (_ : s' = { s₂ with heap := h', toks := tk }) (_ : St i h') (_ : Fr h₀ env.locals h' m') (_ : News h₀ env.locals h' news') (_ : ∀ p ∈ news', p.1 ∉ ws) (_ : J i m' news') (_ : i ≤ n) (_ : k = n + 1 - i) : ForJ h₀ env s₂ n ws St J k s'
theorem pick_objs {h : Heap} : ∀ (ws : List Addr), (∀ b ∈ ws, ∃ o, h.get? b = some o) → ∃ its : List (Addr × Obj), its.map (·.1) = ws ∧ ∀ p ∈ its, h.get? p.1 = some p.2
  | [], _ => ⟨[], rfl, fun _ hp => nomatch hp⟩
  | b :: r, hb => by
    obtain ⟨o, ho⟩ := hb b (.head _)
    obtain ⟨its, e, g⟩ := pick_objs r fun c hc => hb c (.tail _ hc)
    refine ⟨(b, o) :: its, by rw [List.map_cons, e], fun p hp => ?_⟩
    rcases List.mem_cons.mp hp with rfl | hp
    · exact ho
    · exact g p hp
section
variable {prog : Program} {w : World} {A : Around} {E : Value → Shared → Prop} {s : Shared} {env : Env} {h₀ : Heap} {target : Expr} {body orelse : List Stmt} {Q : Flow → Shared → Prop}
theorem for_else {iter : Expr} {pos : Pos}
    (h : wpAny (model prog w) A (eval iter env) (fun xv s₁ => wpAny (model prog w) A (pyIter xv) (fun it s₂ => LoopE prog w A h₀ env target body orelse Q E it s₂) E s₁) E s)
    (hs : ∀ x, foldedSetIterable iter env x = pure x := by intro _; rfl)
    (hE : PassesOwn (model prog w) A env E := by passes_own) : wpAny (model prog w) A (exec (.For target iter body orelse pos) env) Q E s := by
  refine wpAny_For (wpAny_mono h (fun xv s₁ h₁ => wpAny_mono h₁ (fun it s₂ h₂ => ?_) fun _ _ e => e) fun _ _ e => e) hs
  obtain ⟨I, fp, wr, ws, n, P, Md, St, m, news, J, rfl, W, hLf, hwr, hws, hfp, hlive, hnw, hst, F, N, h0, step, done⟩ := h₂
  have hLw : env.locals ∉ wr := fun x => hLf (W.sub _ x)
  have old : ∀ b o, h₀.get? b = some o → b ∉ wr := fun b o e hb => by rw [(hws b (hwr b hb)).2] at e; cases e
  refine codeAny_forLoop_any (ForJ h₀ env s₂ n ws St J) ?_ (n + 1)
    ⟨s₂.heap, s₂.toks, m, news, 0, rfl, hst, F, N, hnw, h0, Nat.zero_le _, rfl⟩
  rintro k s' ⟨h', tk, m', news', i, rfl, hst', F', N', hnw', hJ, hi, rfl⟩
  have next : ∀ h₁ : Heap, (∀ b o, b ∉ wr → h'.get? b = some o → h₁.get? b = some o) → Fr h₀ env.locals h₁ m' ∧ News h₀ env.locals h₁ news' := fun h₁ hk₁ =>
    ⟨⟨F'.ns.at' fun o e => hk₁ _ o hLw e, fun b o e => hk₁ b o (old b o e) (F'.keep b o e), F'.above⟩, fun p hp => ⟨hk₁ _ _ (fun x => hnw' p hp (hwr _ x)) (N' p hp).1, (N' p hp).2⟩⟩
  by_cases hlt : i < n
  · refine W.item i _ _ _ hlt hst' fun v h₁ tk₁ hMd hk₁ => ?_
    refine W.go i v _ _ _ hMd fun h₂ hP hst₂ hk₂ => ?_
    obtain ⟨F₂, N₂⟩ := next h₂ fun b o hb x => hk₂ b o hb (hk₁ b o hb x)
    obtain ⟨its, hits, hget⟩ := pick_objs ws (hlive _ _ hst₂)
    have hw : ∀ p ∈ its, p.1 ∈ ws := fun p hp => hits ▸ List.mem_map_of_mem hp
    have Nits : News h₀ env.locals h₂ (its ++ news') := fun p hp => by
      rcases List.mem_append.mp hp with hp | hp
      · exact ⟨hget p hp, fun e => hLf (e ▸ (hws _ (hw p hp)).1), (hws _ (hw p hp)).2⟩
      · exact N₂ p hp
    have fin : ∀ s₃, TurnEnd h₀ env.locals its (J (i + 1)) { s₂ with heap := h₂, toks := tk₁ } s₃ → ∃ m, m < n + 1 - i ∧ ForJ h₀ env s₂ n ws St J m s₃ := by
      rintro s₃ ⟨h₃, tk₃, m₃, news₃, rfl, F₃, N₃, ha, hJ₃⟩
      refine ⟨n + 1 - (i + 1), by omega, h₃, tk₃, m₃, news₃, i + 1, rfl, ?_, F₃, fun p hp => N₃ p (List.mem_append_right _ hp), hits ▸ ha, hJ₃, hlt, rfl⟩
      refine W.frame _ _ _ hst₂ fun b hb o e => ?_
      rcases hfp b hb with hb | ⟨o₀, hb⟩
      · rw [← hits] at hb
        obtain ⟨p, hp, rfl⟩ := List.mem_map.mp hb
        have q := hget p hp
        rw [e] at q
        rw [Option.some.inj q]
        exact (N₃ p (List.mem_append_left _ hp)).1
      · have q := F₂.keep b o₀ hb
        rw [e] at q
        rw [Option.some.inj q]
        exact F₃.keep b o₀ hb
    refine wpAny_mono (step i v m' news' h₂ tk₁ its hlt hP hJ hits hnw' F₂ Nits) (fun _ s₃ h₃ => wpAny_passesOwn hE (wpAny_mono h₃ (fun f s₄ h₄ => ?_) fun _ _ e => e)) hE
    cases f with
    | ret v => exact h₄
    | brk => exact h₄
    | next => exact fin _ h₄
    | cont => exact fin _ h₄
  · have hin : i = n := by omega
    subst hin
    refine W.done _ _ _ hst' fun h₁ tk₁ hk₁ => ?_
    obtain ⟨F₁, N₁⟩ := next h₁ hk₁
    exact wpAny_passesOwn hE (wpAny_mono (done h₁ tk₁ m' news' F₁ N₁ hJ) (fun f _ x => x) fun _ _ e => e)
end
end Mine

end
section
-- FM
open PySem PySem.W PySem.Spec PySem.Calls PyProof.Rows
set_option Elab.async false
set_option maxRecDepth 100000
set_option maxHeartbeats 2000000
namespace Mine
theorem fillK13 : ∀ w : World, (hd0.heap_1 w.params).In default → PySem.Challenge.rw_nq0103_01.prog = PySem.Challenge.rw_nq0103_01.prog → True := by
  k_fill
  intros; trivial
noncomputable abbrev Ent := Addr × Int × Str
/-- the rows of the table, with their addresses -/
noncomputable def fmRows : List (Addr × List Ent) := [(36, [(29, 40960, "l"), (30, 49152, "s"), (31, 32768, "-"), (32, 24576, "b"), (33, 16384, "d"), (34, 8192, "c"), (35, 4096, "p")]), (38, [(37, 256, "r")]), (40, [(39, 128, "w")]), (44, [(41, 2112, "s"), (42, 2048, "S"), (43, 64, "x")]),
  (46, [(45, 32, "r")]), (48, [(47, 16, "w")]), (52, [(49, 1032, "s"), (50, 1024, "S"), (51, 8, "x")]), (54, [(53, 4, "r")]), (56, [(55, 2, "w")]), (60, [(57, 513, "t"), (58, 512, "T"), (59, 1, "x")])]
noncomputable def rowC (mo i : Int) : List Ent → Str
  | [] => if i = 0 then "?" else "-"
  | e :: r => if i = 0 then (if Builtin.bitAnd mo 61440 = e.2.1 then e.2.2 else rowC mo i r) else (if Builtin.bitAnd mo e.2.1 = e.2.1 then e.2.2 else rowC mo i r)
noncomputable def fmT (mo : Int) : Int → List (Addr × List Ent) → List Str
  | _, [] => []
  | i, r :: rs => rowC mo i r.2 :: fmT mo (i + 1) rs
noncomputable def EntAt (h : Heap) (e : Ent) : Prop := ∃ t1 t2, IsTup h e.1 #[.int e.2.1 t1, .str e.2.2 t2]
noncomputable def RowAt (h : Heap) (r : Addr × List Ent) : Prop := IsTup h r.1 (r.2.map fun e => Value.ref e.1).toArray ∧ ∀ e ∈ r.2, EntAt h e
theorem ent_K {h : Heap} {p : Params} {e : Ent} (X : (hd0.heap_1 p).In h) (t1 t2 : Tok) (hl : (hd0.heap_1 p).lookup e.1 = some { cls := .type "tuple", data := .seq #[.int e.2.1 t1, .str e.2.2 t2] }) : EntAt h e := ⟨t1, t2, _, X _ _ hl, rfl, _, rfl⟩
theorem rows_K {h : Heap} {p : Params} (X : (hd0.heap_1 p).In h) : ∀ r ∈ fmRows, RowAt h r := by
  intro r hr
  simp only [fmRows, List.mem_cons, List.not_mem_nil, or_false] at hr
  rcases hr with rfl | rfl | rfl | rfl | rfl | rfl | rfl | rfl | rfl | rfl
  all_goals refine ⟨⟨_, X _ _ rfl, rfl, _, rfl⟩, fun e he => ?_⟩
  all_goals simp only [List.mem_cons, List.not_mem_nil, or_false] at he
  · rcases he with rfl | rfl | rfl | rfl | rfl | rfl | rfl
    all_goals exact ent_K X _ _ rfl
  · subst he; exact ent_K X _ _ rfl
  · subst he; exact ent_K X _ _ rfl
  · rcases he with rfl | rfl | rfl
    all_goals exact ent_K X _ _ rfl
  · subst he; exact ent_K X _ _ rfl
  · subst he; exact ent_K X _ _ rfl
  · rcases he with rfl | rfl | rfl
    all_goals exact ent_K X _ _ rfl
  · subst he; exact ent_K X _ _ rfl
  · subst he; exact ent_K X _ _ rfl
  · rcases he with rfl | rfl | rfl
    all_goals exact ent_K X _ _ rfl
theorem table_K {h : Heap} {p : Params} (X : (hd0.heap_1 p).In h) : h.IsTuple 61 (fmRows.map fun r => Value.ref r.1).toArray := ⟨_, X _ _ rfl, rfl, _, rfl⟩
theorem map_one {its : List (Addr × Obj)} {a : Addr} (h : its.map (·.1) = [a]) : ∃ o, its = [(a, o)] := by
  cases its with
  | nil => cases h
  | cons p r =>
    obtain ⟨b, o⟩ := p
    rw [List.map_cons] at h
    injection h with h1 h2
    cases r with
    | nil => exact ⟨o, by rw [show b = a from h1]⟩
    | cons q r => cases h2
theorem map_two {its : List (Addr × Obj)} {a b : Addr} (h : its.map (·.1) = [a, b]) : ∃ o o', its = [(a, o), (b, o')] := by
  cases its with
  | nil => cases h
  | cons p r =>
    obtain ⟨c, o⟩ := p
    rw [List.map_cons] at h
    injection h with h1 h2
    obtain ⟨o', rfl⟩ := map_one h2
    exact ⟨o, o', by rw [show c = a from h1]⟩
section
variable {prog : Program} {w : World} {A : Around} {E : Value → Shared → Prop} {s : Shared} {env : Env} {h₀ : Heap} {target : Expr} {body orelse : List Stmt} {Q : Flow → Shared → Prop} {m : Str → Option Value} {news : List (Addr × Obj)} {row : Addr} {items : Array Value}
theorem new_none {h : Heap} {L b : Addr} (F : Fr h₀ L h m) (hb : h.objs.size ≤ b) : h₀.get? b = none := by
  cases e : h₀.get? b with
  | none => rfl
  | some o => exact absurd (Heap.lt_size (F.keep _ _ e)) (Nat.not_lt.mpr hb)
theorem iter_tupE (J : Nat → (Str → Option Value) → List (Addr × Obj) → Prop) (hh : A.handled = none) (ht : h₀.IsTuple row items) (F : Fr h₀ env.locals s.heap m) (N : News h₀ env.locals s.heap news) (h0 : J 0 m news)
    (step : ∀ (I : Addr) i v m₁ news₁ h₁ tk₁ oI, (∀ p ∈ news, (p.1 : Nat) < I) → items[i]? = some v → J i m₁ news₁ → (∀ p ∈ news₁, (p.1 : Nat) ≠ I) → Fr h₀ env.locals h₁ m₁ → News h₀ env.locals h₁ ((I, oI) :: news₁) →
      wpAny (model prog w) A (assign target env v) (fun _ s₃ => wpAny (model prog w) A (execs body env) (TurnPost h₀ env.locals [(I, oI)] (J (i + 1)) { s with heap := h₁, toks := tk₁ } Q) E s₃) E { s with heap := h₁, toks := tk₁ })
    (done : ∀ h' tk m' news', Fr h₀ env.locals h' m' → News h₀ env.locals h' news' → J items.size m' news' → wpAny (model prog w) A (execs orelse env) Q E { s with heap := h', toks := tk }) :
    wpAny (model prog w) A (pyIter (.ref row)) (fun it s₂ => LoopE prog w A h₀ env target body orelse Q E it s₂) E s := by
  have ht' : s.heap.IsTuple row items := tup_at ht fun o e => F.keep _ _ e
  obtain ⟨orow, hor, _⟩ := id ht
  have hlt : row < s.heap.objs.size := Heap.lt_size (F.keep _ _ hor)
  have hLs : env.locals < s.heap.objs.size := F.ns.lt
  have hrL : row ≠ env.locals := Nat.ne_of_lt (Nat.lt_of_lt_of_le (Heap.lt_size hor) F.above)
  refine wpAny_pyIter_tuple ht' ?_
  refine ⟨s.heap.objs.size, [s.heap.objs.size, row], [s.heap.objs.size], [s.heap.objs.size], items.size, _, _, _, m, news, J, rfl,
    KTurns.ofWalks (Walks.tuple hh s.heap.objs.size row (Nat.ne_of_lt hlt) items) (fun i v s Q E st q => letGo_tupleiter st.1 q), ?_, fun b hb => hb, ?_, ?_, ?_, ?_, ?_, F.push _, (fun p hp => ⟨Heap.get?_push_of_some _ (N p hp).1, (N p hp).2⟩), h0, ?_, done⟩
  · intro hm
    rcases List.mem_cons.mp hm with e | hm
    · exact absurd hLs (e ▸ Nat.lt_irrefl _)
    · exact hrL (List.mem_singleton.mp hm).symm
  · intro b hb
    rw [List.mem_singleton.mp hb]
    exact ⟨List.mem_cons_self .., new_none F (Nat.le_refl _)⟩
  · intro b hb
    rcases List.mem_cons.mp hb with e | hb
    · exact .inl (by rw [e]; exact List.mem_cons_self ..)
    · exact .inr ⟨orow, by rw [List.mem_singleton.mp hb]; exact hor⟩
  · intro i h st b hb
    rw [List.mem_singleton.mp hb]
    obtain ⟨o, ho, _⟩ := st.1
    exact ⟨o, ho⟩
  · intro p hp hI
    exact absurd (Heap.lt_size (N p hp).1) ((List.mem_singleton.mp hI) ▸ Nat.lt_irrefl _)
  · exact ⟨⟨_, Heap.get?_push_size _ rfl, rfl, rfl⟩, tup_at ht' fun o e => Heap.get?_push_of_some _ e⟩
  · intro i v m₁ news₁ h₁ tk₁ its hin hP hJ hits hnw F₁ N₁
    obtain ⟨o, rfl⟩ := map_one hits
    exact step _ i v m₁ news₁ h₁ tk₁ o (fun p hp => Heap.lt_size (N p hp).1) hP hJ (fun p hp e => hnw p hp (by rw [show p.1 = s.heap.objs.size from e]; exact List.mem_cons_self ..)) F₁ N₁
theorem enum_tupE {elts : List Expr} {k : Nat} {pos : Pos} (J : Nat → (Str → Option Value) → List (Addr × Obj) → Prop) (hh : A.handled = none) (ht : h₀.IsTuple row items) (F : Fr h₀ env.locals s.heap m) (N : News h₀ env.locals s.heap news) (h0 : J 0 m news)
    (step : ∀ (I T : Addr) i t x m₁ news₁ h₁ tk₁ oE oI, (∀ p ∈ news, (p.1 : Nat) < I) → items[i]? = some x → J i m₁ news₁ → (∀ p ∈ news₁, (p.1 : Nat) ≠ I ∧ (p.1 : Nat) ≠ I + 1) → IsTup h₁ T #[.int i t, x] → Fr h₀ env.locals h₁ m₁ → News h₀ env.locals h₁ ((I + 1, oE) :: (I, oI) :: news₁) →
      wpAny (model prog w) A (assign (.Tuple elts k pos) env (.ref T)) (fun _ s₃ => wpAny (model prog w) A (execs body env) (TurnPost h₀ env.locals [(I + 1, oE), (I, oI)] (J (i + 1)) { s with heap := h₁, toks := tk₁ } Q) E s₃) E { s with heap := h₁, toks := tk₁ })
    (done : ∀ h' tk m' news', Fr h₀ env.locals h' m' → News h₀ env.locals h' news' → J items.size m' news' → wpAny (model prog w) A (execs orelse env) Q E { s with heap := h', toks := tk }) :
    wpAny (model prog w) A (call (.type "enumerate") [.ref row]) (fun xv s₁ => wpAny (model prog w) A (pyIter xv) (fun it s₂ => LoopE prog w A h₀ env (.Tuple elts k pos) body orelse Q E it s₂) E s₁) E s := by
  have ht' : s.heap.IsTuple row items := tup_at ht fun o e => F.keep _ _ e
  obtain ⟨orow, hor, _⟩ := id ht
  have hlt : row < s.heap.objs.size := Heap.lt_size (F.keep _ _ hor)
  have hLs : env.locals < s.heap.objs.size := F.ns.lt
  have hrL : row ≠ env.locals := Nat.ne_of_lt (Nat.lt_of_lt_of_le (Heap.lt_size hor) F.above)
  refine call_enum_tup ht' fun h' hE hI hsz hk => ?_
  refine wpAny_pyIter_enum hE ?_
  have W := WalksT.enumerateD (prog := prog) (w := w) (A := A) (drawsTup (A := A.in1) hh s.heap.objs.size row (Nat.ne_of_lt hlt) items) (s.heap.objs.size + 1) (Nat.succ_ne_self _) (by simp; exact Nat.ne_of_gt (Nat.lt_succ_of_lt hlt)) (List.mem_cons_self ..)
  refine ⟨s.heap.objs.size + 1, _, _, [s.heap.objs.size + 1, s.heap.objs.size], items.size, _, _, _, m, news, J, rfl, KTurns.ofWalksU W.toU, ?_, fun b hb => hb, ?_, ?_, ?_, ?_, ?_, F.keeps hk, N.grown hk, h0, ?_, done⟩
  · intro hm
    have hm' : env.locals = s.heap.objs.size + 1 ∨ env.locals = s.heap.objs.size ∨ env.locals = row := by simpa using hm
    rcases hm' with e | e | e
    · exact ktu_ne 1 hLs e
    · exact Nat.ne_of_lt hLs e
    · exact hrL e.symm
  · intro b hb
    have hb' : b = s.heap.objs.size + 1 ∨ b = s.heap.objs.size := by simpa using hb
    rcases hb' with rfl | rfl
    · exact ⟨by simp, new_none F (Nat.le_add_right _ _)⟩
    · exact ⟨by simp, new_none F (Nat.le_refl _)⟩
  · intro b hb
    have hb' : b = s.heap.objs.size + 1 ∨ b = s.heap.objs.size ∨ b = row := by simpa using hb
    rcases hb' with rfl | rfl | rfl
    · exact .inl (by simp)
    · exact .inl (by simp)
    · exact .inr ⟨orow, hor⟩
  · rintro i h ⟨⟨old, he⟩, ⟨oi, hoi, _⟩, _⟩ b hb
    have hb' : b = s.heap.objs.size + 1 ∨ b = s.heap.objs.size := by simpa using hb
    rcases hb' with rfl | rfl
    · exact ⟨_, he⟩
    · exact ⟨_, hoi⟩
  · intro p hp hI'
    have hb' : p.1 = s.heap.objs.size + 1 ∨ p.1 = s.heap.objs.size := by simpa using hI'
    have hlp := Heap.lt_size (N p hp).1
    rcases hb' with e | e
    · exact ktu_ne 1 hlp e
    · exact Nat.ne_of_lt hlp e
  · exact ⟨⟨.none, hE⟩, hI, tup_at ht' fun o e => hk _ o e⟩
  · rintro i v m₁ news₁ h₁ tk₁ its hin ⟨T, vals, rfl, ⟨t, x, hx, rfl⟩, hT⟩ hJ hits hnw F₁ N₁
    obtain ⟨o, o', rfl⟩ := map_two hits
    exact step _ T i t x m₁ news₁ h₁ tk₁ o o' (fun p hp => Heap.lt_size (N p hp).1) hx hJ (fun p hp => ⟨fun e => hnw p hp (by rw [show p.1 = s.heap.objs.size from e]; simp), fun e => hnw p hp (by rw [show p.1 = s.heap.objs.size + 1 from e]; simp)⟩) hT F₁ N₁
end
theorem for_elseF {prog : Program} {w : World} {A : Around} {E : Value → Shared → Prop} {s : Shared} {env : Env} {h₀ : Heap} {target : Expr} {body orelse : List Stmt} {Q : Flow → Shared → Prop} {m : Str → Option Value} {iter : Expr} {pos : Pos} (_F : Fr h₀ env.locals s.heap m)
    (h : wpAny (model prog w) A (eval iter env) (fun xv s₁ => wpAny (model prog w) A (pyIter xv) (fun it s₂ => LoopE prog w A h₀ env target body orelse Q E it s₂) E s₁) E s)
    (hs : ∀ x, foldedSetIterable iter env x = pure x := by intro _; rfl)
    (hE : PassesOwn (model prog w) A env E := by passes_own) : wpAny (model prog w) A (exec (.For target iter body orelse pos) env) Q E s := for_else h hs hE
theorem strV_size (l : List (Str × Tok)) : (strValues l).toArray.size = l.length := by simp [strValues]
theorem strV_push (l : List (Str × Tok)) (x : Str) (t : Tok) : (strValues l).toArray.push (.str x t) = (strValues (l ++ [(x, t)])).toArray := by simp [strValues]
theorem fm_step {l : List (Str × Tok)} {mo : Int} {i : Nat} {ra : Addr} {es : List Ent} {rest : List (Addr × List Ent)} {full : List Str} {c : Str} {tc : Tok} (hl : l.map (·.1) ++ fmT mo i ((ra, es) :: rest) = full) (hc : c = rowC mo i es) :
    (l ++ [(c, tc)]).map (·.1) ++ fmT mo ((i + 1 : Nat) : Int) rest = full := by
  subst hc
  rw [← hl]
  simp [fmT]
theorem rowC_len (mo i : Int) : ∀ (es : List Ent), (∀ e ∈ es, e.2.2.length = 1) → (rowC mo i es).length = 1
  | [], _ => by
    unfold rowC
    split <;> decide +kernel
  | e :: r, h => by
    unfold rowC
    have h1 := h e (.head _)
    have h2 := rowC_len mo i r fun e he => h e (.tail _ he)
    split
    · split
      · exact h1
      · exact h2
    · split
      · exact h1
      · exact h2
theorem fmT_len (mo : Int) : ∀ (rs : List (Addr × List Ent)) (i : Int), (∀ r ∈ rs, ∀ e ∈ r.2, e.2.2.length = 1) → ∀ (a : Nat), (fmT mo i rs).foldl (fun a (p : Str) => a + p.length + (Str.ofString "").length) a = a + rs.length
  | [], _, _, a => rfl
  | r :: rs, i, h, a => by
    have h0 : (Str.ofString "").length = 0 := by decide +kernel
    rw [fmT, List.foldl_cons, fmT_len mo rs (i + 1) (fun r hr => h r (.tail _ hr)), rowC_len mo i r.2 (h r (.head _)), h0, List.length_cons]
    omega
theorem ent_len : ∀ r ∈ fmRows, ∀ e ∈ r.2, e.2.2.length = 1 := by decide +kernel
theorem join_ok (mo : Int) : JoinOk (Str.ofString "") (fmT mo 0 fmRows) = true := by
  unfold JoinOk
  rw [List.foldl_toArray', fmT_len mo fmRows 0 ent_len] <;> simp [Builtin.Str.tooLong, sizeLine_eq, fmRows]
theorem rows_len {i : Nat} {r : Addr × List Ent} (h : fmRows[i]? = some r) : i < 10 := by
  obtain ⟨h1, -⟩ := List.getElem?_eq_some_iff.mp h
  exact h1
inductive FmJ (mo : Int) (t : Tok) (P : Addr) (k : Nat) (m : Str → Option Value) (news : List (Addr × Obj)) : Prop
  | mk (l : List (Str × Tok)) (n : Nat) (_ : news = [(P, listOf (strValues l).toArray n)]) (_ : l.map (·.1) ++ fmT mo k (fmRows.drop k) = fmT mo 0 fmRows) (_ : l.length = k) (_ : m "perm" = some (.ref P)) (_ : m "mode" = some (.int mo t)) : FmJ mo t P k m news
inductive FmJ2 (mo : Int) (t : Tok) (P : Addr) (l : List (Str × Tok)) (n : Nat) (I : Nat) (oE oI : Obj) (i : Nat) (ti : Tok) (es : List Ent) (j : Nat) (m : Str → Option Value) (news : List (Addr × Obj)) : Prop
  | mk (_ : news = [(I + 1, oE), (I, oI), (P, listOf (strValues l).toArray n)]) (_ : m "index" = some (.int i ti)) (_ : m "perm" = some (.ref P)) (_ : m "mode" = some (.int mo t)) (_ : rowC mo i (es.drop j) = rowC mo i es) : FmJ2 mo t P l n I oE oI i ti es j m news
section
variable {w : World} {dp un : Nat} {fr : Option (List Env)} {gd : Option (List Code)} {s : Shared} {B : Heap} {p : Program} {loose : List Str} {mean : ExcName → Option Value} {mg mb : Str → Option Value} {Q E : Value → Shared → Prop} {mo : Int} {t : Tok}
theorem mode_raw (G : Deep w p loose mean mg mb B) (hB : Ext B s.heap) (hr : dp + 30 < recursionLimit)
    (hQ : ∀ h' tk' t', Ext s.heap h' → Q (.str (Txt.join (Str.ofString "") (fmT mo 0 fmRows)) t') { s with heap := h', toks := tk' }) :
    wpAny (model prog w) { handled := none, depth := dp, frames := fr, guards := gd, units := un } (call (.ref 68) [.int mo t]) Q E s := by
  have X' : (hd0.heap_1 w.params).In s.heap := G.X.keeps hB
  have T' := G.T.keeps hB
  refine wpAny_call ?_
  k_dflt (refine' enterP (binds := [("mode", .int mo t)]) X' T'.nolimit ?k6 ?k7 ?k8 ?k9 ?kB ?_ ?c2 ?c3 ?c4 ?c5; (case k6 => k_is); (case k7 => k_is); (case k8 => (show dp < recursionLimit; omega)); (case k9 => exact BindsTo.of_eq rfl); (case c5 => decide); (case kB => exact locs rfl); (case c2 => exact rfl); (case c3 => exact rfl); (case c4 => exact rfl))
  intro L h₁ F N
  dsimp only
  repeat' (first | (k_unfold; (try dsimp only)) | (k_end; wrow_close) | (with_reducible (k_here; (with_reducible show wpAny _ _ (call (Value.ref 28) [Value.int _ _]) _ _ _); k_dflt (refine ifmt_line (by first | (k_asm; done) | fail) (by first | (k_asm; done) | fail) (by first | (assumption; done) | fail) (by first | (assumption; done) | fail) (by first | (simp only [Around.deeper]; omega; done) | fail) ?_; k_whole); intro h'q9 tk'q9 t'q9 F'q9 N'q9; (try k_sweep))) | (with_reducible ((with_reducible show TurnPost _ _ _ _ _ _ _ _); dsimp only [TurnPost])) | (with_reducible (k_here; (with_reducible show wpAny _ _ (call (Value.builtin "list.append") [Value.ref _, _]) _ _ _); k_dflt (refine append_list (by first | (k_asm; done) | fail) (by first | (k_asm; done) | fail) (by first | (k_updF; done) | fail) (by first | (rw [strV_size]; omega; done) | fail) ?_; k_whole); intro h'q9 k'q9 F'q9 N'q9; (try k_sweep))) | (with_reducible ((with_reducible show wpAny _ _ (exec (PySem.Stmt.For (PySem.Expr.Tuple _ _ _) (PySem.Expr.Name _ _) _ (_ :: _) _) _) _ _ _); k_here; (rename Fr _ _ _ _ => lF'q9); (with_unfolding_all refine' for_elseF lF'q9 ?_; k_whole))) | (with_reducible ((with_reducible show wpAny _ _ (exec (PySem.Stmt.For (PySem.Expr.Tuple _ _ _) (PySem.Expr.Name _ _) _ _ _) _) _ _ _); k_here; (rename Fr _ _ _ _ => lF'q9); (with_unfolding_all refine' for_elseF lF'q9 ?_; k_whole))) | (with_reducible ((with_reducible show wpAny _ _ (exec (PySem.Stmt.For (PySem.Expr.Tuple _ _ _) (PySem.Expr.Call _ _ _ _) _ [] _) _) _ _ _); k_here; (rename Fr _ _ _ _ => lF'q9); (with_unfolding_all refine' for_elseF lF'q9 ?_; k_whole))) | (with_reducible ((with_reducible show wpAny _ _ (exec (PySem.Stmt.For (PySem.Expr.Tuple _ _ _) (PySem.Expr.Call _ _ _ _) _ _ _) _) _ _ _); k_here; (rename Fr _ _ _ _ => lF'q9); (with_unfolding_all refine' for_elseF lF'q9 ?_; k_whole))) | (k_here; (with_reducible show wpAny _ _ (call (Value.ref 28) [Value.int _ _]) _ _ _); k_dflt (refine ifmt_line (by first | (k_asm; done) | fail) (by first | (k_asm; done) | fail) (by first | (assumption; done) | fail) (by first | (assumption; done) | fail) (by first | (simp only [Around.deeper]; omega; done) | fail) ?_; k_whole); intro h'q9 tk'q9 t'q9 F'q9 N'q9; (try k_sweep)) | ((with_reducible show TurnPost _ _ _ _ _ _ _ _); dsimp only [TurnPost]) | (k_here; (with_reducible show wpAny _ _ (call (Value.builtin "list.append") [Value.ref _, _]) _ _ _); k_dflt (refine append_list (by first | (k_asm; done) | fail) (by first | (k_asm; done) | fail) (by first | (k_updF; done) | fail) (by first | (rw [strV_size]; omega; done) | fail) ?_; k_whole); intro h'q9 k'q9 F'q9 N'q9; (try k_sweep)) | ((with_reducible show wpAny _ _ (exec (PySem.Stmt.For (PySem.Expr.Tuple _ _ _) (PySem.Expr.Name _ _) _ (_ :: _) _) _) _ _ _); k_here; (rename Fr _ _ _ _ => lF'q9); (with_unfolding_all refine' for_elseF lF'q9 ?_; k_whole)) | ((with_reducible show wpAny _ _ (exec (PySem.Stmt.For (PySem.Expr.Tuple _ _ _) (PySem.Expr.Name _ _) _ _ _) _) _ _ _); k_here; (rename Fr _ _ _ _ => lF'q9); (with_unfolding_all refine' for_elseF lF'q9 ?_; k_whole)) | ((with_reducible show wpAny _ _ (exec (PySem.Stmt.For (PySem.Expr.Tuple _ _ _) (PySem.Expr.Call _ _ _ _) _ [] _) _) _ _ _); k_here; (rename Fr _ _ _ _ => lF'q9); (with_unfolding_all refine' for_elseF lF'q9 ?_; k_whole)) | ((with_reducible show wpAny _ _ (exec (PySem.Stmt.For (PySem.Expr.Tuple _ _ _) (PySem.Expr.Call _ _ _ _) _ _ _) _) _ _ _); k_here; (rename Fr _ _ _ _ => lF'q9); (with_unfolding_all refine' for_elseF lF'q9 ?_; k_whole)) | (walk1 <;> (try dsimp only)) | (dsimp only; first | (with_reducible (k_here; (with_reducible show wpAny _ _ (call (Value.ref 28) [Value.int _ _]) _ _ _); k_dflt (refine ifmt_line (by first | (k_asm; done) | fail) (by first | (k_asm; done) | fail) (by first | (assumption; done) | fail) (by first | (assumption; done) | fail) (by first | (simp only [Around.deeper]; omega; done) | fail) ?_; k_whole); intro h'q9 tk'q9 t'q9 F'q9 N'q9; (try k_sweep))) | (with_reducible ((with_reducible show TurnPost _ _ _ _ _ _ _ _); dsimp only [TurnPost])) | (with_reducible (k_here; (with_reducible show wpAny _ _ (call (Value.builtin "list.append") [Value.ref _, _]) _ _ _); k_dflt (refine append_list (by first | (k_asm; done) | fail) (by first | (k_asm; done) | fail) (by first | (k_updF; done) | fail) (by first | (rw [strV_size]; omega; done) | fail) ?_; k_whole); intro h'q9 k'q9 F'q9 N'q9; (try k_sweep))) | (with_reducible ((with_reducible show wpAny _ _ (exec (PySem.Stmt.For (PySem.Expr.Tuple _ _ _) (PySem.Expr.Name _ _) _ (_ :: _) _) _) _ _ _); k_here; (rename Fr _ _ _ _ => lF'q9); (with_unfolding_all refine' for_elseF lF'q9 ?_; k_whole))) | (with_reducible ((with_reducible show wpAny _ _ (exec (PySem.Stmt.For (PySem.Expr.Tuple _ _ _) (PySem.Expr.Name _ _) _ _ _) _) _ _ _); k_here; (rename Fr _ _ _ _ => lF'q9); (with_unfolding_all refine' for_elseF lF'q9 ?_; k_whole))) | (with_reducible ((with_reducible show wpAny _ _ (exec (PySem.Stmt.For (PySem.Expr.Tuple _ _ _) (PySem.Expr.Call _ _ _ _) _ [] _) _) _ _ _); k_here; (rename Fr _ _ _ _ => lF'q9); (with_unfolding_all refine' for_elseF lF'q9 ?_; k_whole))) | (with_reducible ((with_reducible show wpAny _ _ (exec (PySem.Stmt.For (PySem.Expr.Tuple _ _ _) (PySem.Expr.Call _ _ _ _) _ _ _) _) _ _ _); k_here; (rename Fr _ _ _ _ => lF'q9); (with_unfolding_all refine' for_elseF lF'q9 ?_; k_whole))) | (k_here; (with_reducible show wpAny _ _ (call (Value.ref 28) [Value.int _ _]) _ _ _); k_dflt (refine ifmt_line (by first | (k_asm; done) | fail) (by first | (k_asm; done) | fail) (by first | (assumption; done) | fail) (by first | (assumption; done) | fail) (by first | (simp only [Around.deeper]; omega; done) | fail) ?_; k_whole); intro h'q9 tk'q9 t'q9 F'q9 N'q9; (try k_sweep)) | ((with_reducible show TurnPost _ _ _ _ _ _ _ _); dsimp only [TurnPost]) | (k_here; (with_reducible show wpAny _ _ (call (Value.builtin "list.append") [Value.ref _, _]) _ _ _); k_dflt (refine append_list (by first | (k_asm; done) | fail) (by first | (k_asm; done) | fail) (by first | (k_updF; done) | fail) (by first | (rw [strV_size]; omega; done) | fail) ?_; k_whole); intro h'q9 k'q9 F'q9 N'q9; (try k_sweep)) | ((with_reducible show wpAny _ _ (exec (PySem.Stmt.For (PySem.Expr.Tuple _ _ _) (PySem.Expr.Name _ _) _ (_ :: _) _) _) _ _ _); k_here; (rename Fr _ _ _ _ => lF'q9); (with_unfolding_all refine' for_elseF lF'q9 ?_; k_whole)) | ((with_reducible show wpAny _ _ (exec (PySem.Stmt.For (PySem.Expr.Tuple _ _ _) (PySem.Expr.Name _ _) _ _ _) _) _ _ _); k_here; (rename Fr _ _ _ _ => lF'q9); (with_unfolding_all refine' for_elseF lF'q9 ?_; k_whole)) | ((with_reducible show wpAny _ _ (exec (PySem.Stmt.For (PySem.Expr.Tuple _ _ _) (PySem.Expr.Call _ _ _ _) _ [] _) _) _ _ _); k_here; (rename Fr _ _ _ _ => lF'q9); (with_unfolding_all refine' for_elseF lF'q9 ?_; k_whole)) | ((with_reducible show wpAny _ _ (exec (PySem.Stmt.For (PySem.Expr.Tuple _ _ _) (PySem.Expr.Call _ _ _ _) _ _ _) _) _ _ _); k_here; (rename Fr _ _ _ _ => lF'q9); (with_unfolding_all refine' for_elseF lF'q9 ?_; k_whole)) | walk1) | (leave1; try dsimp only) | fail "no step")
  rename Fr _ _ _ _ => F1
  rename News _ _ _ _ => N1
  rename_i P _ _ _
  refine enum_tupE (row := 61) (FmJ mo t P) rfl (table_K X') F1 N1 ⟨[], 0, rfl, rfl, rfl, rfl, rfl⟩ ?_ ?_
  · rintro I T i ti x m₁ news₁ h₁ tk₁ oE oI hlt hx ⟨l, n, rfl, hl, hll, hp, hmo⟩ hne hT F2 N2
    have hr : ∃ r, fmRows[i]? = some r ∧ x = .ref r.1 := by
      simp only [List.getElem?_toArray, List.getElem?_map, Option.map_eq_some_iff] at hx
      obtain ⟨r, h1, h2⟩ := hx
      exact ⟨r, h1, h2.symm⟩
    obtain ⟨⟨ra, es⟩, hri, rfl⟩ := hr
    obtain ⟨hrow, hents⟩ := rows_K X' (ra, es) (List.mem_of_getElem? hri)
    have hdrop : fmRows.drop i = (ra, es) :: fmRows.drop (i + 1) := by
      obtain ⟨h1, h2⟩ := List.getElem?_eq_some_iff.mp hri
      rw [List.drop_eq_getElem_cons h1, h2]
    rw [hdrop] at hl
    have hPI : @LT.lt Nat instLTNat P I := hlt _ (.head _)
    have hi10 := rows_len hri
    rw [norm1 hp, norm1 hmo] at F2
    clear F1 N1
    repeat' (first | (k_unfold; (try dsimp only)) | (k_end; wrow_close) | (with_reducible (k_here; (with_reducible show wpAny _ _ (call (Value.ref 28) [Value.int _ _]) _ _ _); k_dflt (refine ifmt_line (by first | (k_asm; done) | fail) (by first | (k_asm; done) | fail) (by first | (assumption; done) | fail) (by first | (assumption; done) | fail) (by first | (simp only [Around.deeper]; omega; done) | fail) ?_; k_whole); intro h'q9 tk'q9 t'q9 F'q9 N'q9; (try k_sweep))) | (with_reducible ((with_reducible show TurnPost _ _ _ _ _ _ _ _); dsimp only [TurnPost])) | (with_reducible (k_here; (with_reducible show wpAny _ _ (call (Value.builtin "list.append") [Value.ref _, _]) _ _ _); k_dflt (refine append_list (by first | (k_asm; done) | fail) (by first | (k_asm; done) | fail) (by first | (k_updF; done) | fail) (by first | (rw [strV_size]; omega; done) | fail) ?_; k_whole); intro h'q9 k'q9 F'q9 N'q9; (try k_sweep))) | (with_reducible ((with_reducible show wpAny _ _ (exec (PySem.Stmt.For (PySem.Expr.Tuple _ _ _) (PySem.Expr.Name _ _) _ (_ :: _) _) _) _ _ _); k_here; (rename Fr _ _ _ _ => lF'q9); (with_unfolding_all refine' for_elseF lF'q9 ?_; k_whole))) | (with_reducible ((with_reducible show wpAny _ _ (exec (PySem.Stmt.For (PySem.Expr.Tuple _ _ _) (PySem.Expr.Name _ _) _ _ _) _) _ _ _); k_here; (rename Fr _ _ _ _ => lF'q9); (with_unfolding_all refine' for_elseF lF'q9 ?_; k_whole))) | (with_reducible ((with_reducible show wpAny _ _ (exec (PySem.Stmt.For (PySem.Expr.Tuple _ _ _) (PySem.Expr.Call _ _ _ _) _ [] _) _) _ _ _); k_here; (rename Fr _ _ _ _ => lF'q9); (with_unfolding_all refine' for_elseF lF'q9 ?_; k_whole))) | (with_reducible ((with_reducible show wpAny _ _ (exec (PySem.Stmt.For (PySem.Expr.Tuple _ _ _) (PySem.Expr.Call _ _ _ _) _ _ _) _) _ _ _); k_here; (rename Fr _ _ _ _ => lF'q9); (with_unfolding_all refine' for_elseF lF'q9 ?_; k_whole))) | (k_here; (with_reducible show wpAny _ _ (call (Value.ref 28) [Value.int _ _]) _ _ _); k_dflt (refine ifmt_line (by first | (k_asm; done) | fail) (by first | (k_asm; done) | fail) (by first | (assumption; done) | fail) (by first | (assumption; done) | fail) (by first | (simp only [Around.deeper]; omega; done) | fail) ?_; k_whole); intro h'q9 tk'q9 t'q9 F'q9 N'q9; (try k_sweep)) | ((with_reducible show TurnPost _ _ _ _ _ _ _ _); dsimp only [TurnPost]) | (k_here; (with_reducible show wpAny _ _ (call (Value.builtin "list.append") [Value.ref _, _]) _ _ _); k_dflt (refine append_list (by first | (k_asm; done) | fail) (by first | (k_asm; done) | fail) (by first | (k_updF; done) | fail) (by first | (rw [strV_size]; omega; done) | fail) ?_; k_whole); intro h'q9 k'q9 F'q9 N'q9; (try k_sweep)) | ((with_reducible show wpAny _ _ (exec (PySem.Stmt.For (PySem.Expr.Tuple _ _ _) (PySem.Expr.Name _ _) _ (_ :: _) _) _) _ _ _); k_here; (rename Fr _ _ _ _ => lF'q9); (with_unfolding_all refine' for_elseF lF'q9 ?_; k_whole)) | ((with_reducible show wpAny _ _ (exec (PySem.Stmt.For (PySem.Expr.Tuple _ _ _) (PySem.Expr.Name _ _) _ _ _) _) _ _ _); k_here; (rename Fr _ _ _ _ => lF'q9); (with_unfolding_all refine' for_elseF lF'q9 ?_; k_whole)) | ((with_reducible show wpAny _ _ (exec (PySem.Stmt.For (PySem.Expr.Tuple _ _ _) (PySem.Expr.Call _ _ _ _) _ [] _) _) _ _ _); k_here; (rename Fr _ _ _ _ => lF'q9); (with_unfolding_all refine' for_elseF lF'q9 ?_; k_whole)) | ((with_reducible show wpAny _ _ (exec (PySem.Stmt.For (PySem.Expr.Tuple _ _ _) (PySem.Expr.Call _ _ _ _) _ _ _) _) _ _ _); k_here; (rename Fr _ _ _ _ => lF'q9); (with_unfolding_all refine' for_elseF lF'q9 ?_; k_whole)) | (walk1 <;> (try dsimp only)) | (dsimp only; first | (with_reducible (k_here; (with_reducible show wpAny _ _ (call (Value.ref 28) [Value.int _ _]) _ _ _); k_dflt (refine ifmt_line (by first | (k_asm; done) | fail) (by first | (k_asm; done) | fail) (by first | (assumption; done) | fail) (by first | (assumption; done) | fail) (by first | (simp only [Around.deeper]; omega; done) | fail) ?_; k_whole); intro h'q9 tk'q9 t'q9 F'q9 N'q9; (try k_sweep))) | (with_reducible ((with_reducible show TurnPost _ _ _ _ _ _ _ _); dsimp only [TurnPost])) | (with_reducible (k_here; (with_reducible show wpAny _ _ (call (Value.builtin "list.append") [Value.ref _, _]) _ _ _); k_dflt (refine append_list (by first | (k_asm; done) | fail) (by first | (k_asm; done) | fail) (by first | (k_updF; done) | fail) (by first | (rw [strV_size]; omega; done) | fail) ?_; k_whole); intro h'q9 k'q9 F'q9 N'q9; (try k_sweep))) | (with_reducible ((with_reducible show wpAny _ _ (exec (PySem.Stmt.For (PySem.Expr.Tuple _ _ _) (PySem.Expr.Name _ _) _ (_ :: _) _) _) _ _ _); k_here; (rename Fr _ _ _ _ => lF'q9); (with_unfolding_all refine' for_elseF lF'q9 ?_; k_whole))) | (with_reducible ((with_reducible show wpAny _ _ (exec (PySem.Stmt.For (PySem.Expr.Tuple _ _ _) (PySem.Expr.Name _ _) _ _ _) _) _ _ _); k_here; (rename Fr _ _ _ _ => lF'q9); (with_unfolding_all refine' for_elseF lF'q9 ?_; k_whole))) | (with_reducible ((with_reducible show wpAny _ _ (exec (PySem.Stmt.For (PySem.Expr.Tuple _ _ _) (PySem.Expr.Call _ _ _ _) _ [] _) _) _ _ _); k_here; (rename Fr _ _ _ _ => lF'q9); (with_unfolding_all refine' for_elseF lF'q9 ?_; k_whole))) | (with_reducible ((with_reducible show wpAny _ _ (exec (PySem.Stmt.For (PySem.Expr.Tuple _ _ _) (PySem.Expr.Call _ _ _ _) _ _ _) _) _ _ _); k_here; (rename Fr _ _ _ _ => lF'q9); (with_unfolding_all refine' for_elseF lF'q9 ?_; k_whole))) | (k_here; (with_reducible show wpAny _ _ (call (Value.ref 28) [Value.int _ _]) _ _ _); k_dflt (refine ifmt_line (by first | (k_asm; done) | fail) (by first | (k_asm; done) | fail) (by first | (assumption; done) | fail) (by first | (assumption; done) | fail) (by first | (simp only [Around.deeper]; omega; done) | fail) ?_; k_whole); intro h'q9 tk'q9 t'q9 F'q9 N'q9; (try k_sweep)) | ((with_reducible show TurnPost _ _ _ _ _ _ _ _); dsimp only [TurnPost]) | (k_here; (with_reducible show wpAny _ _ (call (Value.builtin "list.append") [Value.ref _, _]) _ _ _); k_dflt (refine append_list (by first | (k_asm; done) | fail) (by first | (k_asm; done) | fail) (by first | (k_updF; done) | fail) (by first | (rw [strV_size]; omega; done) | fail) ?_; k_whole); intro h'q9 k'q9 F'q9 N'q9; (try k_sweep)) | ((with_reducible show wpAny _ _ (exec (PySem.Stmt.For (PySem.Expr.Tuple _ _ _) (PySem.Expr.Name _ _) _ (_ :: _) _) _) _ _ _); k_here; (rename Fr _ _ _ _ => lF'q9); (with_unfolding_all refine' for_elseF lF'q9 ?_; k_whole)) | ((with_reducible show wpAny _ _ (exec (PySem.Stmt.For (PySem.Expr.Tuple _ _ _) (PySem.Expr.Name _ _) _ _ _) _) _ _ _); k_here; (rename Fr _ _ _ _ => lF'q9); (with_unfolding_all refine' for_elseF lF'q9 ?_; k_whole)) | ((with_reducible show wpAny _ _ (exec (PySem.Stmt.For (PySem.Expr.Tuple _ _ _) (PySem.Expr.Call _ _ _ _) _ [] _) _) _ _ _); k_here; (rename Fr _ _ _ _ => lF'q9); (with_unfolding_all refine' for_elseF lF'q9 ?_; k_whole)) | ((with_reducible show wpAny _ _ (exec (PySem.Stmt.For (PySem.Expr.Tuple _ _ _) (PySem.Expr.Call _ _ _ _) _ _ _) _) _ _ _); k_here; (rename Fr _ _ _ _ => lF'q9); (with_unfolding_all refine' for_elseF lF'q9 ?_; k_whole)) | walk1) | (leave1; try dsimp only) | fail "no step")
    dsimp only at hT hrow hents ⊢
    refine' iter_tupE (row := ra) (FmJ2 mo t P l n I oE oI i ti es) ?hh ?ht ?F ?N ?h0 ?_ ?_
    (case hh => exact rfl); (case ht => exact hrow); (case F => assumption); (case N => assumption); (case h0 => exact ⟨rfl, rfl, rfl, rfl, rfl⟩)
    · rintro I' j v m₂ news₂ h₂ tk₂ oI' hlt' hx' ⟨rfl, hi2, hp2, hm2, hrc⟩ hne' F3 N3
      have he : ∃ e, es[j]? = some e ∧ v = .ref e.1 := by
        simp only [List.getElem?_toArray, List.getElem?_map, Option.map_eq_some_iff] at hx'
        obtain ⟨r, h1, h2⟩ := hx'
        exact ⟨r, h1, h2.symm⟩
      obtain ⟨⟨ea, eb, ec⟩, hej, rfl⟩ := he
      obtain ⟨u1, u2, hent⟩ := hents (ea, eb, ec) (List.mem_of_getElem? hej)
      have hent' : IsTup h₂ ea #[.int eb u1, .str ec u2] := tup_at hent fun o e => F3.keep _ _ e
      have hdr : es.drop j = (ea, eb, ec) :: es.drop (j + 1) := by
        obtain ⟨h1, h2⟩ := List.getElem?_eq_some_iff.mp hej
        rw [List.drop_eq_getElem_cons h1, h2]
      rw [hdr] at hrc
      have hI1 : @LT.lt Nat instLTNat I I' := hlt' _ (.tail _ (.head _))
      have hI2 : @LT.lt Nat instLTNat (I + 1) I' := hlt' _ (.head _)
      rw [norm1 hi2, norm1 hp2, norm1 hm2] at F3
      clear hent
      repeat' (first | (k_unfold; (try dsimp only)) | (k_end; wrow_close) | (with_reducible (k_here; (with_reducible show wpAny _ _ (call (Value.ref 28) [Value.int _ _]) _ _ _); k_dflt (refine ifmt_line (by first | (k_asm; done) | fail) (by first | (k_asm; done) | fail) (by first | (assumption; done) | fail) (by first | (assumption; done) | fail) (by first | (simp only [Around.deeper]; omega; done) | fail) ?_; k_whole); intro h'q9 tk'q9 t'q9 F'q9 N'q9; (try k_sweep))) | (with_reducible ((with_reducible show TurnPost _ _ _ _ _ _ _ _); dsimp only [TurnPost])) | (with_reducible (k_here; (with_reducible show wpAny _ _ (call (Value.builtin "list.append") [Value.ref _, _]) _ _ _); k_dflt (refine append_list (by first | (k_asm; done) | fail) (by first | (k_asm; done) | fail) (by first | (k_updF; done) | fail) (by first | (rw [strV_size]; omega; done) | fail) ?_; k_whole); intro h'q9 k'q9 F'q9 N'q9; (try k_sweep))) | (with_reducible ((with_reducible show wpAny _ _ (exec (PySem.Stmt.For (PySem.Expr.Tuple _ _ _) (PySem.Expr.Name _ _) _ (_ :: _) _) _) _ _ _); k_here; (rename Fr _ _ _ _ => lF'q9); (with_unfolding_all refine' for_elseF lF'q9 ?_; k_whole))) | (with_reducible ((with_reducible show wpAny _ _ (exec (PySem.Stmt.For (PySem.Expr.Tuple _ _ _) (PySem.Expr.Name _ _) _ _ _) _) _ _ _); k_here; (rename Fr _ _ _ _ => lF'q9); (with_unfolding_all refine' for_elseF lF'q9 ?_; k_whole))) | (with_reducible ((with_reducible show wpAny _ _ (exec (PySem.Stmt.For (PySem.Expr.Tuple _ _ _) (PySem.Expr.Call _ _ _ _) _ [] _) _) _ _ _); k_here; (rename Fr _ _ _ _ => lF'q9); (with_unfolding_all refine' for_elseF lF'q9 ?_; k_whole))) | (with_reducible ((with_reducible show wpAny _ _ (exec (PySem.Stmt.For (PySem.Expr.Tuple _ _ _) (PySem.Expr.Call _ _ _ _) _ _ _) _) _ _ _); k_here; (rename Fr _ _ _ _ => lF'q9); (with_unfolding_all refine' for_elseF lF'q9 ?_; k_whole))) | (k_here; (with_reducible show wpAny _ _ (call (Value.ref 28) [Value.int _ _]) _ _ _); k_dflt (refine ifmt_line (by first | (k_asm; done) | fail) (by first | (k_asm; done) | fail) (by first | (assumption; done) | fail) (by first | (assumption; done) | fail) (by first | (simp only [Around.deeper]; omega; done) | fail) ?_; k_whole); intro h'q9 tk'q9 t'q9 F'q9 N'q9; (try k_sweep)) | ((with_reducible show TurnPost _ _ _ _ _ _ _ _); dsimp only [TurnPost]) | (k_here; (with_reducible show wpAny _ _ (call (Value.builtin "list.append") [Value.ref _, _]) _ _ _); k_dflt (refine append_list (by first | (k_asm; done) | fail) (by first | (k_asm; done) | fail) (by first | (k_updF; done) | fail) (by first | (rw [strV_size]; omega; done) | fail) ?_; k_whole); intro h'q9 k'q9 F'q9 N'q9; (try k_sweep)) | ((with_reducible show wpAny _ _ (exec (PySem.Stmt.For (PySem.Expr.Tuple _ _ _) (PySem.Expr.Name _ _) _ (_ :: _) _) _) _ _ _); k_here; (rename Fr _ _ _ _ => lF'q9); (with_unfolding_all refine' for_elseF lF'q9 ?_; k_whole)) | ((with_reducible show wpAny _ _ (exec (PySem.Stmt.For (PySem.Expr.Tuple _ _ _) (PySem.Expr.Name _ _) _ _ _) _) _ _ _); k_here; (rename Fr _ _ _ _ => lF'q9); (with_unfolding_all refine' for_elseF lF'q9 ?_; k_whole)) | ((with_reducible show wpAny _ _ (exec (PySem.Stmt.For (PySem.Expr.Tuple _ _ _) (PySem.Expr.Call _ _ _ _) _ [] _) _) _ _ _); k_here; (rename Fr _ _ _ _ => lF'q9); (with_unfolding_all refine' for_elseF lF'q9 ?_; k_whole)) | ((with_reducible show wpAny _ _ (exec (PySem.Stmt.For (PySem.Expr.Tuple _ _ _) (PySem.Expr.Call _ _ _ _) _ _ _) _) _ _ _); k_here; (rename Fr _ _ _ _ => lF'q9); (with_unfolding_all refine' for_elseF lF'q9 ?_; k_whole)) | (walk1 <;> (try dsimp only)) | (dsimp only; first | (with_reducible (k_here; (with_reducible show wpAny _ _ (call (Value.ref 28) [Value.int _ _]) _ _ _); k_dflt (refine ifmt_line (by first | (k_asm; done) | fail) (by first | (k_asm; done) | fail) (by first | (assumption; done) | fail) (by first | (assumption; done) | fail) (by first | (simp only [Around.deeper]; omega; done) | fail) ?_; k_whole); intro h'q9 tk'q9 t'q9 F'q9 N'q9; (try k_sweep))) | (with_reducible ((with_reducible show TurnPost _ _ _ _ _ _ _ _); dsimp only [TurnPost])) | (with_reducible (k_here; (with_reducible show wpAny _ _ (call (Value.builtin "list.append") [Value.ref _, _]) _ _ _); k_dflt (refine append_list (by first | (k_asm; done) | fail) (by first | (k_asm; done) | fail) (by first | (k_updF; done) | fail) (by first | (rw [strV_size]; omega; done) | fail) ?_; k_whole); intro h'q9 k'q9 F'q9 N'q9; (try k_sweep))) | (with_reducible ((with_reducible show wpAny _ _ (exec (PySem.Stmt.For (PySem.Expr.Tuple _ _ _) (PySem.Expr.Name _ _) _ (_ :: _) _) _) _ _ _); k_here; (rename Fr _ _ _ _ => lF'q9); (with_unfolding_all refine' for_elseF lF'q9 ?_; k_whole))) | (with_reducible ((with_reducible show wpAny _ _ (exec (PySem.Stmt.For (PySem.Expr.Tuple _ _ _) (PySem.Expr.Name _ _) _ _ _) _) _ _ _); k_here; (rename Fr _ _ _ _ => lF'q9); (with_unfolding_all refine' for_elseF lF'q9 ?_; k_whole))) | (with_reducible ((with_reducible show wpAny _ _ (exec (PySem.Stmt.For (PySem.Expr.Tuple _ _ _) (PySem.Expr.Call _ _ _ _) _ [] _) _) _ _ _); k_here; (rename Fr _ _ _ _ => lF'q9); (with_unfolding_all refine' for_elseF lF'q9 ?_; k_whole))) | (with_reducible ((with_reducible show wpAny _ _ (exec (PySem.Stmt.For (PySem.Expr.Tuple _ _ _) (PySem.Expr.Call _ _ _ _) _ _ _) _) _ _ _); k_here; (rename Fr _ _ _ _ => lF'q9); (with_unfolding_all refine' for_elseF lF'q9 ?_; k_whole))) | (k_here; (with_reducible show wpAny _ _ (call (Value.ref 28) [Value.int _ _]) _ _ _); k_dflt (refine ifmt_line (by first | (k_asm; done) | fail) (by first | (k_asm; done) | fail) (by first | (assumption; done) | fail) (by first | (assumption; done) | fail) (by first | (simp only [Around.deeper]; omega; done) | fail) ?_; k_whole); intro h'q9 tk'q9 t'q9 F'q9 N'q9; (try k_sweep)) | ((with_reducible show TurnPost _ _ _ _ _ _ _ _); dsimp only [TurnPost]) | (k_here; (with_reducible show wpAny _ _ (call (Value.builtin "list.append") [Value.ref _, _]) _ _ _); k_dflt (refine append_list (by first | (k_asm; done) | fail) (by first | (k_asm; done) | fail) (by first | (k_updF; done) | fail) (by first | (rw [strV_size]; omega; done) | fail) ?_; k_whole); intro h'q9 k'q9 F'q9 N'q9; (try k_sweep)) | ((with_reducible show wpAny _ _ (exec (PySem.Stmt.For (PySem.Expr.Tuple _ _ _) (PySem.Expr.Name _ _) _ (_ :: _) _) _) _ _ _); k_here; (rename Fr _ _ _ _ => lF'q9); (with_unfolding_all refine' for_elseF lF'q9 ?_; k_whole)) | ((with_reducible show wpAny _ _ (exec (PySem.Stmt.For (PySem.Expr.Tuple _ _ _) (PySem.Expr.Name _ _) _ _ _) _) _ _ _); k_here; (rename Fr _ _ _ _ => lF'q9); (with_unfolding_all refine' for_elseF lF'q9 ?_; k_whole)) | ((with_reducible show wpAny _ _ (exec (PySem.Stmt.For (PySem.Expr.Tuple _ _ _) (PySem.Expr.Call _ _ _ _) _ [] _) _) _ _ _); k_here; (rename Fr _ _ _ _ => lF'q9); (with_unfolding_all refine' for_elseF lF'q9 ?_; k_whole)) | ((with_reducible show wpAny _ _ (exec (PySem.Stmt.For (PySem.Expr.Tuple _ _ _) (PySem.Expr.Call _ _ _ _) _ _ _) _) _ _ _); k_here; (rename Fr _ _ _ _ => lF'q9); (with_unfolding_all refine' for_elseF lF'q9 ?_; k_whole)) | walk1) | (leave1; try dsimp only) | fail "no step")
      all_goals first
        | (rename Fr _ _ _ _ => Fz; rename News _ _ _ _ => Nz
           refine ⟨_, _, _, [(I + 1, oE), (I, oI), (P, listOf (strValues l).toArray n)], rfl, Fz, Nz, ?_, ⟨rfl, rfl, rfl, rfl, ?_⟩⟩
           · intro p hp hq
             simp only [List.map_cons, List.map_nil, List.mem_cons, List.not_mem_nil, or_false] at hp hq
             rcases hp with rfl | rfl | rfl
             · exact absurd hq (Nat.ne_of_lt hI2)
             · exact absurd hq (Nat.ne_of_lt hI1)
             · exact absurd hq (Nat.ne_of_lt (Nat.lt_trans hPI hI1))
           · rw [← hrc]
             clear hl hQ hrc
             simp only [rowC]
             (repeat' split) <;> first | rfl | contradiction | omega)
        | (rename Fr _ _ _ _ => Fz; rename News _ _ _ _ => Nz
           refine ⟨_, _, _, [(P, listOf ((strValues l).toArray.push (.str ec u2)) _)], rfl, Fz, (fun p hp => Nz p (.tail _ hp)), ?_, ⟨l ++ [(ec, u2)], _, by rw [strV_push], fm_step hl ?_, by simp [hll], rfl, rfl⟩⟩
           · intro p hp hq
             simp only [List.map_cons, List.map_nil, List.mem_cons, List.not_mem_nil, or_false] at hp hq
             subst hp
             rcases hq with hq | hq
             · exact absurd hq (Nat.ne_of_lt (Nat.lt_succ_of_lt hPI))
             · exact absurd hq (Nat.ne_of_lt hPI)
           · rw [← hrc]
             clear hl hQ hrc
             simp only [rowC]
             (repeat' split) <;> first | rfl | contradiction | omega)
    · rintro h₂ tk₂ m₂ news₂ F3 N3 ⟨rfl, hi2, hp2, hm2, hrc⟩
      rw [norm1 hi2, norm1 hp2, norm1 hm2] at F3
      have hrc' : rowC mo i [] = rowC mo i es := by
        rw [← hrc]
        congr 1
        symm
        apply List.drop_eq_nil_of_le
        simp
      repeat' (first | (k_unfold; (try dsimp only)) | (k_end; wrow_close) | (with_reducible (k_here; (with_reducible show wpAny _ _ (call (Value.ref 28) [Value.int _ _]) _ _ _); k_dflt (refine ifmt_line (by first | (k_asm; done) | fail) (by first | (k_asm; done) | fail) (by first | (assumption; done) | fail) (by first | (assumption; done) | fail) (by first | (simp only [Around.deeper]; omega; done) | fail) ?_; k_whole); intro h'q9 tk'q9 t'q9 F'q9 N'q9; (try k_sweep))) | (with_reducible ((with_reducible show TurnPost _ _ _ _ _ _ _ _); dsimp only [TurnPost])) | (with_reducible (k_here; (with_reducible show wpAny _ _ (call (Value.builtin "list.append") [Value.ref _, _]) _ _ _); k_dflt (refine append_list (by first | (k_asm; done) | fail) (by first | (k_asm; done) | fail) (by first | (k_updF; done) | fail) (by first | (rw [strV_size]; omega; done) | fail) ?_; k_whole); intro h'q9 k'q9 F'q9 N'q9; (try k_sweep))) | (with_reducible ((with_reducible show wpAny _ _ (exec (PySem.Stmt.For (PySem.Expr.Tuple _ _ _) (PySem.Expr.Name _ _) _ (_ :: _) _) _) _ _ _); k_here; (rename Fr _ _ _ _ => lF'q9); (with_unfolding_all refine' for_elseF lF'q9 ?_; k_whole))) | (with_reducible ((with_reducible show wpAny _ _ (exec (PySem.Stmt.For (PySem.Expr.Tuple _ _ _) (PySem.Expr.Name _ _) _ _ _) _) _ _ _); k_here; (rename Fr _ _ _ _ => lF'q9); (with_unfolding_all refine' for_elseF lF'q9 ?_; k_whole))) | (with_reducible ((with_reducible show wpAny _ _ (exec (PySem.Stmt.For (PySem.Expr.Tuple _ _ _) (PySem.Expr.Call _ _ _ _) _ [] _) _) _ _ _); k_here; (rename Fr _ _ _ _ => lF'q9); (with_unfolding_all refine' for_elseF lF'q9 ?_; k_whole))) | (with_reducible ((with_reducible show wpAny _ _ (exec (PySem.Stmt.For (PySem.Expr.Tuple _ _ _) (PySem.Expr.Call _ _ _ _) _ _ _) _) _ _ _); k_here; (rename Fr _ _ _ _ => lF'q9); (with_unfolding_all refine' for_elseF lF'q9 ?_; k_whole))) | (k_here; (with_reducible show wpAny _ _ (call (Value.ref 28) [Value.int _ _]) _ _ _); k_dflt (refine ifmt_line (by first | (k_asm; done) | fail) (by first | (k_asm; done) | fail) (by first | (assumption; done) | fail) (by first | (assumption; done) | fail) (by first | (simp only [Around.deeper]; omega; done) | fail) ?_; k_whole); intro h'q9 tk'q9 t'q9 F'q9 N'q9; (try k_sweep)) | ((with_reducible show TurnPost _ _ _ _ _ _ _ _); dsimp only [TurnPost]) | (k_here; (with_reducible show wpAny _ _ (call (Value.builtin "list.append") [Value.ref _, _]) _ _ _); k_dflt (refine append_list (by first | (k_asm; done) | fail) (by first | (k_asm; done) | fail) (by first | (k_updF; done) | fail) (by first | (rw [strV_size]; omega; done) | fail) ?_; k_whole); intro h'q9 k'q9 F'q9 N'q9; (try k_sweep)) | ((with_reducible show wpAny _ _ (exec (PySem.Stmt.For (PySem.Expr.Tuple _ _ _) (PySem.Expr.Name _ _) _ (_ :: _) _) _) _ _ _); k_here; (rename Fr _ _ _ _ => lF'q9); (with_unfolding_all refine' for_elseF lF'q9 ?_; k_whole)) | ((with_reducible show wpAny _ _ (exec (PySem.Stmt.For (PySem.Expr.Tuple _ _ _) (PySem.Expr.Name _ _) _ _ _) _) _ _ _); k_here; (rename Fr _ _ _ _ => lF'q9); (with_unfolding_all refine' for_elseF lF'q9 ?_; k_whole)) | ((with_reducible show wpAny _ _ (exec (PySem.Stmt.For (PySem.Expr.Tuple _ _ _) (PySem.Expr.Call _ _ _ _) _ [] _) _) _ _ _); k_here; (rename Fr _ _ _ _ => lF'q9); (with_unfolding_all refine' for_elseF lF'q9 ?_; k_whole)) | ((with_reducible show wpAny _ _ (exec (PySem.Stmt.For (PySem.Expr.Tuple _ _ _) (PySem.Expr.Call _ _ _ _) _ _ _) _) _ _ _); k_here; (rename Fr _ _ _ _ => lF'q9); (with_unfolding_all refine' for_elseF lF'q9 ?_; k_whole)) | (walk1 <;> (try dsimp only)) | (dsimp only; first | (with_reducible (k_here; (with_reducible show wpAny _ _ (call (Value.ref 28) [Value.int _ _]) _ _ _); k_dflt (refine ifmt_line (by first | (k_asm; done) | fail) (by first | (k_asm; done) | fail) (by first | (assumption; done) | fail) (by first | (assumption; done) | fail) (by first | (simp only [Around.deeper]; omega; done) | fail) ?_; k_whole); intro h'q9 tk'q9 t'q9 F'q9 N'q9; (try k_sweep))) | (with_reducible ((with_reducible show TurnPost _ _ _ _ _ _ _ _); dsimp only [TurnPost])) | (with_reducible (k_here; (with_reducible show wpAny _ _ (call (Value.builtin "list.append") [Value.ref _, _]) _ _ _); k_dflt (refine append_list (by first | (k_asm; done) | fail) (by first | (k_asm; done) | fail) (by first | (k_updF; done) | fail) (by first | (rw [strV_size]; omega; done) | fail) ?_; k_whole); intro h'q9 k'q9 F'q9 N'q9; (try k_sweep))) | (with_reducible ((with_reducible show wpAny _ _ (exec (PySem.Stmt.For (PySem.Expr.Tuple _ _ _) (PySem.Expr.Name _ _) _ (_ :: _) _) _) _ _ _); k_here; (rename Fr _ _ _ _ => lF'q9); (with_unfolding_all refine' for_elseF lF'q9 ?_; k_whole))) | (with_reducible ((with_reducible show wpAny _ _ (exec (PySem.Stmt.For (PySem.Expr.Tuple _ _ _) (PySem.Expr.Name _ _) _ _ _) _) _ _ _); k_here; (rename Fr _ _ _ _ => lF'q9); (with_unfolding_all refine' for_elseF lF'q9 ?_; k_whole))) | (with_reducible ((with_reducible show wpAny _ _ (exec (PySem.Stmt.For (PySem.Expr.Tuple _ _ _) (PySem.Expr.Call _ _ _ _) _ [] _) _) _ _ _); k_here; (rename Fr _ _ _ _ => lF'q9); (with_unfolding_all refine' for_elseF lF'q9 ?_; k_whole))) | (with_reducible ((with_reducible show wpAny _ _ (exec (PySem.Stmt.For (PySem.Expr.Tuple _ _ _) (PySem.Expr.Call _ _ _ _) _ _ _) _) _ _ _); k_here; (rename Fr _ _ _ _ => lF'q9); (with_unfolding_all refine' for_elseF lF'q9 ?_; k_whole))) | (k_here; (with_reducible show wpAny _ _ (call (Value.ref 28) [Value.int _ _]) _ _ _); k_dflt (refine ifmt_line (by first | (k_asm; done) | fail) (by first | (k_asm; done) | fail) (by first | (assumption; done) | fail) (by first | (assumption; done) | fail) (by first | (simp only [Around.deeper]; omega; done) | fail) ?_; k_whole); intro h'q9 tk'q9 t'q9 F'q9 N'q9; (try k_sweep)) | ((with_reducible show TurnPost _ _ _ _ _ _ _ _); dsimp only [TurnPost]) | (k_here; (with_reducible show wpAny _ _ (call (Value.builtin "list.append") [Value.ref _, _]) _ _ _); k_dflt (refine append_list (by first | (k_asm; done) | fail) (by first | (k_asm; done) | fail) (by first | (k_updF; done) | fail) (by first | (rw [strV_size]; omega; done) | fail) ?_; k_whole); intro h'q9 k'q9 F'q9 N'q9; (try k_sweep)) | ((with_reducible show wpAny _ _ (exec (PySem.Stmt.For (PySem.Expr.Tuple _ _ _) (PySem.Expr.Name _ _) _ (_ :: _) _) _) _ _ _); k_here; (rename Fr _ _ _ _ => lF'q9); (with_unfolding_all refine' for_elseF lF'q9 ?_; k_whole)) | ((with_reducible show wpAny _ _ (exec (PySem.Stmt.For (PySem.Expr.Tuple _ _ _) (PySem.Expr.Name _ _) _ _ _) _) _ _ _); k_here; (rename Fr _ _ _ _ => lF'q9); (with_unfolding_all refine' for_elseF lF'q9 ?_; k_whole)) | ((with_reducible show wpAny _ _ (exec (PySem.Stmt.For (PySem.Expr.Tuple _ _ _) (PySem.Expr.Call _ _ _ _) _ [] _) _) _ _ _); k_here; (rename Fr _ _ _ _ => lF'q9); (with_unfolding_all refine' for_elseF lF'q9 ?_; k_whole)) | ((with_reducible show wpAny _ _ (exec (PySem.Stmt.For (PySem.Expr.Tuple _ _ _) (PySem.Expr.Call _ _ _ _) _ _ _) _) _ _ _); k_here; (rename Fr _ _ _ _ => lF'q9); (with_unfolding_all refine' for_elseF lF'q9 ?_; k_whole)) | walk1) | (leave1; try dsimp only) | fail "no step")
      all_goals (
        rename Fr _ _ _ _ => Fz
        rename News _ _ _ _ => Nz
        refine ⟨_, _, _, [(P, listOf ((strValues l).toArray.push (.str _ _)) _)], rfl, Fz, Nz, ?_, ⟨l ++ [(_, _)], _, by rw [strV_push], fm_step hl ?_, by simp [hll], rfl, rfl⟩⟩
        · intro p hp hq
          simp only [List.map_cons, List.map_nil, List.mem_cons, List.not_mem_nil, or_false] at hp hq
          subst hp
          rcases hq with hq | hq
          · exact absurd hq (Nat.ne_of_lt (Nat.lt_succ_of_lt hPI))
          · exact absurd hq (Nat.ne_of_lt hPI)
        · rw [← hrc']
          clear hl hQ hrc hrc'
          simp only [rowC]
          (repeat' split) <;> first | rfl | contradiction | omega)
  · rintro h' tk m' news' F2 N2 ⟨l, n, rfl, hl, hll, hp, hmo⟩
    have hl' : l.map (·.1) = fmT mo 0 fmRows := by
      rw [← hl]
      have : fmRows.drop (fmRows.map fun r => Value.ref r.1).toArray.size = [] := by
        apply List.drop_eq_nil_of_le
        simp
      rw [this]
      simp [fmT]
    rw [norm1 hp] at F2
    have N3 := N2
    repeat' (first | (k_unfold; (try dsimp only)) | (k_end; wrow_close) | (with_reducible (k_here; (with_reducible show wpAny _ _ (call (Value.ref 28) [Value.int _ _]) _ _ _); k_dflt (refine ifmt_line (by first | (k_asm; done) | fail) (by first | (k_asm; done) | fail) (by first | (assumption; done) | fail) (by first | (assumption; done) | fail) (by first | (simp only [Around.deeper]; omega; done) | fail) ?_; k_whole); intro h'q9 tk'q9 t'q9 F'q9 N'q9; (try k_sweep))) | (with_reducible ((with_reducible show TurnPost _ _ _ _ _ _ _ _); dsimp only [TurnPost])) | (with_reducible (k_here; (with_reducible show wpAny _ _ (call (Value.builtin "list.append") [Value.ref _, _]) _ _ _); k_dflt (refine append_list (by first | (k_asm; done) | fail) (by first | (k_asm; done) | fail) (by first | (k_updF; done) | fail) (by first | (rw [strV_size]; omega; done) | fail) ?_; k_whole); intro h'q9 k'q9 F'q9 N'q9; (try k_sweep))) | (with_reducible ((with_reducible show wpAny _ _ (exec (PySem.Stmt.For (PySem.Expr.Tuple _ _ _) (PySem.Expr.Name _ _) _ (_ :: _) _) _) _ _ _); k_here; (rename Fr _ _ _ _ => lF'q9); (with_unfolding_all refine' for_elseF lF'q9 ?_; k_whole))) | (with_reducible ((with_reducible show wpAny _ _ (exec (PySem.Stmt.For (PySem.Expr.Tuple _ _ _) (PySem.Expr.Name _ _) _ _ _) _) _ _ _); k_here; (rename Fr _ _ _ _ => lF'q9); (with_unfolding_all refine' for_elseF lF'q9 ?_; k_whole))) | (with_reducible ((with_reducible show wpAny _ _ (exec (PySem.Stmt.For (PySem.Expr.Tuple _ _ _) (PySem.Expr.Call _ _ _ _) _ [] _) _) _ _ _); k_here; (rename Fr _ _ _ _ => lF'q9); (with_unfolding_all refine' for_elseF lF'q9 ?_; k_whole))) | (with_reducible ((with_reducible show wpAny _ _ (exec (PySem.Stmt.For (PySem.Expr.Tuple _ _ _) (PySem.Expr.Call _ _ _ _) _ _ _) _) _ _ _); k_here; (rename Fr _ _ _ _ => lF'q9); (with_unfolding_all refine' for_elseF lF'q9 ?_; k_whole))) | (k_here; (with_reducible show wpAny _ _ (call (Value.ref 28) [Value.int _ _]) _ _ _); k_dflt (refine ifmt_line (by first | (k_asm; done) | fail) (by first | (k_asm; done) | fail) (by first | (assumption; done) | fail) (by first | (assumption; done) | fail) (by first | (simp only [Around.deeper]; omega; done) | fail) ?_; k_whole); intro h'q9 tk'q9 t'q9 F'q9 N'q9; (try k_sweep)) | ((with_reducible show TurnPost _ _ _ _ _ _ _ _); dsimp only [TurnPost]) | (k_here; (with_reducible show wpAny _ _ (call (Value.builtin "list.append") [Value.ref _, _]) _ _ _); k_dflt (refine append_list (by first | (k_asm; done) | fail) (by first | (k_asm; done) | fail) (by first | (k_updF; done) | fail) (by first | (rw [strV_size]; omega; done) | fail) ?_; k_whole); intro h'q9 k'q9 F'q9 N'q9; (try k_sweep)) | ((with_reducible show wpAny _ _ (exec (PySem.Stmt.For (PySem.Expr.Tuple _ _ _) (PySem.Expr.Name _ _) _ (_ :: _) _) _) _ _ _); k_here; (rename Fr _ _ _ _ => lF'q9); (with_unfolding_all refine' for_elseF lF'q9 ?_; k_whole)) | ((with_reducible show wpAny _ _ (exec (PySem.Stmt.For (PySem.Expr.Tuple _ _ _) (PySem.Expr.Name _ _) _ _ _) _) _ _ _); k_here; (rename Fr _ _ _ _ => lF'q9); (with_unfolding_all refine' for_elseF lF'q9 ?_; k_whole)) | ((with_reducible show wpAny _ _ (exec (PySem.Stmt.For (PySem.Expr.Tuple _ _ _) (PySem.Expr.Call _ _ _ _) _ [] _) _) _ _ _); k_here; (rename Fr _ _ _ _ => lF'q9); (with_unfolding_all refine' for_elseF lF'q9 ?_; k_whole)) | ((with_reducible show wpAny _ _ (exec (PySem.Stmt.For (PySem.Expr.Tuple _ _ _) (PySem.Expr.Call _ _ _ _) _ _ _) _) _ _ _); k_here; (rename Fr _ _ _ _ => lF'q9); (with_unfolding_all refine' for_elseF lF'q9 ?_; k_whole)) | (walk1 <;> (try dsimp only)) | (dsimp only; first | (with_reducible (k_here; (with_reducible show wpAny _ _ (call (Value.ref 28) [Value.int _ _]) _ _ _); k_dflt (refine ifmt_line (by first | (k_asm; done) | fail) (by first | (k_asm; done) | fail) (by first | (assumption; done) | fail) (by first | (assumption; done) | fail) (by first | (simp only [Around.deeper]; omega; done) | fail) ?_; k_whole); intro h'q9 tk'q9 t'q9 F'q9 N'q9; (try k_sweep))) | (with_reducible ((with_reducible show TurnPost _ _ _ _ _ _ _ _); dsimp only [TurnPost])) | (with_reducible (k_here; (with_reducible show wpAny _ _ (call (Value.builtin "list.append") [Value.ref _, _]) _ _ _); k_dflt (refine append_list (by first | (k_asm; done) | fail) (by first | (k_asm; done) | fail) (by first | (k_updF; done) | fail) (by first | (rw [strV_size]; omega; done) | fail) ?_; k_whole); intro h'q9 k'q9 F'q9 N'q9; (try k_sweep))) | (with_reducible ((with_reducible show wpAny _ _ (exec (PySem.Stmt.For (PySem.Expr.Tuple _ _ _) (PySem.Expr.Name _ _) _ (_ :: _) _) _) _ _ _); k_here; (rename Fr _ _ _ _ => lF'q9); (with_unfolding_all refine' for_elseF lF'q9 ?_; k_whole))) | (with_reducible ((with_reducible show wpAny _ _ (exec (PySem.Stmt.For (PySem.Expr.Tuple _ _ _) (PySem.Expr.Name _ _) _ _ _) _) _ _ _); k_here; (rename Fr _ _ _ _ => lF'q9); (with_unfolding_all refine' for_elseF lF'q9 ?_; k_whole))) | (with_reducible ((with_reducible show wpAny _ _ (exec (PySem.Stmt.For (PySem.Expr.Tuple _ _ _) (PySem.Expr.Call _ _ _ _) _ [] _) _) _ _ _); k_here; (rename Fr _ _ _ _ => lF'q9); (with_unfolding_all refine' for_elseF lF'q9 ?_; k_whole))) | (with_reducible ((with_reducible show wpAny _ _ (exec (PySem.Stmt.For (PySem.Expr.Tuple _ _ _) (PySem.Expr.Call _ _ _ _) _ _ _) _) _ _ _); k_here; (rename Fr _ _ _ _ => lF'q9); (with_unfolding_all refine' for_elseF lF'q9 ?_; k_whole))) | (k_here; (with_reducible show wpAny _ _ (call (Value.ref 28) [Value.int _ _]) _ _ _); k_dflt (refine ifmt_line (by first | (k_asm; done) | fail) (by first | (k_asm; done) | fail) (by first | (assumption; done) | fail) (by first | (assumption; done) | fail) (by first | (simp only [Around.deeper]; omega; done) | fail) ?_; k_whole); intro h'q9 tk'q9 t'q9 F'q9 N'q9; (try k_sweep)) | ((with_reducible show TurnPost _ _ _ _ _ _ _ _); dsimp only [TurnPost]) | (k_here; (with_reducible show wpAny _ _ (call (Value.builtin "list.append") [Value.ref _, _]) _ _ _); k_dflt (refine append_list (by first | (k_asm; done) | fail) (by first | (k_asm; done) | fail) (by first | (k_updF; done) | fail) (by first | (rw [strV_size]; omega; done) | fail) ?_; k_whole); intro h'q9 k'q9 F'q9 N'q9; (try k_sweep)) | ((with_reducible show wpAny _ _ (exec (PySem.Stmt.For (PySem.Expr.Tuple _ _ _) (PySem.Expr.Name _ _) _ (_ :: _) _) _) _ _ _); k_here; (rename Fr _ _ _ _ => lF'q9); (with_unfolding_all refine' for_elseF lF'q9 ?_; k_whole)) | ((with_reducible show wpAny _ _ (exec (PySem.Stmt.For (PySem.Expr.Tuple _ _ _) (PySem.Expr.Name _ _) _ _ _) _) _ _ _); k_here; (rename Fr _ _ _ _ => lF'q9); (with_unfolding_all refine' for_elseF lF'q9 ?_; k_whole)) | ((with_reducible show wpAny _ _ (exec (PySem.Stmt.For (PySem.Expr.Tuple _ _ _) (PySem.Expr.Call _ _ _ _) _ [] _) _) _ _ _); k_here; (rename Fr _ _ _ _ => lF'q9); (with_unfolding_all refine' for_elseF lF'q9 ?_; k_whole)) | ((with_reducible show wpAny _ _ (exec (PySem.Stmt.For (PySem.Expr.Tuple _ _ _) (PySem.Expr.Call _ _ _ _) _ _ _) _) _ _ _); k_here; (rename Fr _ _ _ _ => lF'q9); (with_unfolding_all refine' for_elseF lF'q9 ?_; k_whole)) | walk1) | (leave1; try dsimp only) | fail "no step")
    refine SC.join (l := l) (texts := fmT mo 0 fmRows) ⟨_, (N3 _ (.head _)).1, rfl, _, rfl⟩ hl' (join_ok mo) fun t' k => ?_
    refine hQ _ _ _ ?_
    exact F2.keep
end
end Mine

end
section
-- CL
open PySem PySem.W PySem.Spec PySem.Calls PyProof.Rows
set_option Elab.async false
set_option maxRecDepth 100000
set_option maxHeartbeats 2000000
namespace Mine
theorem paired_mono {α β : Type} {F G : α → β → Prop} (h : ∀ a b, F a b → G a b) : ∀ {l₁ : List α} {l₂ : List β}, Paired F l₁ l₂ → Paired G l₁ l₂
  | _, _, .nil => .nil
  | _, _, .cons a t => .cons (h _ _ a) (paired_mono h t)
section
variable {prog : Program} {w : World} {A : Around} {E : Value → Shared → Prop} {s : Shared} {h₀ : Heap} {env : Env} {m : Str → Option Value} {news : List (Addr × Obj)} {scope : Scope} {cl : List (Str × Addr)} {x y : Str} {elt c : Expr}
/-- what a comprehension over a list asks of each item -/
structure CompOk (prog : Program) (w : World) (A : Around) (env : Env) (scope : Scope) (cl : List (Str × Addr)) (x : Str) (elt : Expr) (ifs : List Expr) (vs : List Value) (p : Value → Bool) (Fv : Value → Value → Prop) (s : Shared) : Prop where
  test : ∀ C v s₃ m₃ E', v ∈ vs → s₃.heap.Ns C m₃ → m₃ x = some v → Ext s.heap s₃.heap → s.heap.objs.size ≤ C →
    wpAny (model prog w) A (forIn ifs true fun c r => if r = true then do let ok ← isTrue c (compEnvC scope cl C env) (eval c (compEnvC scope cl C env)); pure (ForInStep.yield ok) else pure (ForInStep.yield r)) (fun ok s₄ => ok = p v ∧ Keeps s₃ s₄) E' s₃
  elt : ∀ C v s₃ m₃ E', v ∈ vs → p v = true → s₃.heap.Ns C m₃ → m₃ x = some v → Ext s.heap s₃.heap → s.heap.objs.size ≤ C →
    wpAny (model prog w) A (eval elt (compEnvC scope cl C env)) (fun y s₄ => Fv v y ∧ Keeps s₃ s₄) E' s₃
inductive CompL (prog : Program) (w : World) (A : Around) (h₀ : Heap) (env : Env) (scope : Scope) (cl : List (Str × Addr)) (x : Str) (elt : Expr) (ifs : List Expr) (p : Value → Bool) (Fv : Value → Value → Prop) (mm : Addr → (Str → Option Value) → Str → Option Value) (Q : Addr → Shared → Prop) (xv : Value) (s : Shared) : Prop
  | mk ax vs m news (_ : xv = .ref ax) (_ : s.heap.IsList ax (List.toArray vs)) (_ : vs.length ≤ 1000) (_ : Fr h₀ env.locals s.heap m) (_ : News h₀ env.locals s.heap news) (_ : CompOk prog w A env scope cl x elt ifs vs p Fv s) (_ : (∀ D h' tk ys k, Fr h₀ env.locals h' (mm D m) → News h₀ env.locals h' ((D, listOf ys k) :: news) → (∀ p ∈ news, (p.1 : Nat) ≠ D) → s.heap.get? D = none → Paired Fv (vs.filter p) ys.toList → Q D { s with heap := h', toks := tk })) : CompL prog w A h₀ env scope cl x elt ifs p Fv mm Q xv s
theorem list_places {vs ws : List Value} (hl : ws.length = vs.toArray.size) (h : ∀ (j : Nat) (v : Value), ws[j]? = some v → vs.toArray[j]? = some v) : ws = vs := by
  apply List.ext_getElem?
  intro j
  cases e : ws[j]? with
  | some v => have := h j v e; rw [← this]; simp
  | none =>
    have h1 : ws.length ≤ j := by simpa using e
    have h2 : vs.length ≤ j := by simpa [hl] using h1
    rw [List.getElem?_eq_none h2]
theorem comp_list_quiet {ifs : List Expr} {vs : List Value} {p : Value → Bool} {Fv : Value → Value → Prop} {ax : Addr} (ok : CompOk prog w A env scope cl x elt ifs vs p Fv s) :
    QuietOnC prog w A env scope cl x ifs elt [s.heap.objs.size] (fun i v => vs.toArray[i]? = some v) p Fv { s with heap := s.heap.push { cls := .type "list_iterator", data := .fields #[.ref ax, .int 0 0] } } := by
  have up : ∀ (s₃ : Shared), (∀ b o, b ∉ [s.heap.objs.size] → (s.heap.push { cls := .type "list_iterator", data := .fields #[.ref ax, .int 0 0] }).get? b = some o → s₃.heap.get? b = some o) → Ext s.heap s₃.heap :=
    fun s₃ hk b o e => hk b o (fun hm => by rw [List.mem_singleton.mp hm] at e; exact Nat.lt_irrefl _ (Heap.lt_size e)) (Heap.get?_push_of_some _ e)
  refine ⟨?_, ?_⟩
  · intro C i v s₃ m₃ E' hC hP hn hm hk _
    exact ok.test C v s₃ m₃ E' (by simpa using Array.mem_of_getElem? hP) hn hm (up s₃ hk) (Nat.le_of_succ_le (by simpa [Heap.size_push] using hC))
  · intro C i v s₃ m₃ E' hC hP hp' hn hm hk _
    exact ok.elt C v s₃ m₃ E' (by simpa using Array.mem_of_getElem? hP) hp' hn hm (up s₃ hk) (Nat.le_of_succ_le (by simpa [Heap.size_push] using hC))
theorem assign_compL {iter : Expr} {ifs : List Expr} {px py : Pos} {pos spos : Pos} {Q : Flow → Shared → Prop} (p : Value → Bool) (Fv : Value → Value → Prop) (hh : A.handled = none)
    (hsw : swapsWith (.ListComp elt [⟨.Name x px, iter, ifs, 0⟩] scope pos) (some (.Name y py)) spos.line env = pure true)
    (hclos : closureFor scope env = pure cl) (hcell : ∀ z ∈ scope.names, z.2 ≠ .cell) (hkind : scope.kind = .function)
    (hnames : ∀ z ∈ scope.names, z.2 = .local → scope.names.lookup z.1 = some .local) (hx : scope.names.lookup x = some .local)
    (hy : env.kindOf y = some .local) (hp : (env.scope.kind == .class || (env.scope.kind == .module && env.locals != env.globals)) = false)
    (h : wpAny (model prog w) A (eval iter env) (fun xv s₁ => CompL prog w A h₀ env scope cl x elt ifs p Fv (fun D m z => if z = y then some (.ref D) else m z) (fun _ s' => Q .next s') xv s₁) E s)
    (hs : ∀ x, foldedSetIterable iter env x = pure x) :
    wpAny (model prog w) A (exec (.Assign [.Name y py] (.ListComp elt [⟨.Name x px, iter, ifs, 0⟩] scope pos) spos) env) Q E s := by
  refine wpAny_Assign_ListComp_free p Fv hsw hclos hcell hkind hnames hx hy hp (wpAny_mono h (fun xv s₁ h₁ => ?_) fun _ _ e => e) hs
  obtain ⟨ax, vs, m, news, rfl, hl, hlen, F, N, ok, hQ⟩ := h₁
  have hlt : ax < s₁.heap.objs.size := by obtain ⟨_, e, _⟩ := hl; exact Heap.lt_size e
  refine wpAny_pyIter_list hl ⟨s₁.heap.objs.size, [s₁.heap.objs.size, ax], [s₁.heap.objs.size], vs.toArray.size, _, _, m, rfl, Walks.list hh _ _ (Nat.ne_of_lt hlt) vs.toArray, (by rw [List.size_toArray, sizeLine_eq]; omega), ⟨⟨_, Heap.get?_push_size _ rfl, rfl, rfl⟩, hl.push _⟩, ?_, ?_, F.ns.push _, comp_list_quiet ok, ?_⟩
  · intro b hb
    show b < (s₁.heap.push _).objs.size
    rw [Heap.size_push]
    rcases List.mem_cons.mp hb with rfl | hb
    · exact Nat.lt_succ_self _
    · rw [List.mem_singleton.mp hb]; exact Nat.lt_succ_of_lt hlt
  · intro hm
    exact Nat.lt_irrefl _ ((List.mem_singleton.mp hm) ▸ F.ns.lt)
  · intro D h' tk ys vs' hnew hlD hplD hlen' hP hF hn' hk
    have e : vs' = vs := list_places hlen' hP
    subst e
    have hD : s₁.heap.get? D = none := by
      cases e : s₁.heap.get? D with
      | none => rfl
      | some o => rw [Heap.get?_push_of_some _ e] at hnew; cases hnew
    obtain ⟨F', ⟨k, N'⟩, hne⟩ := comp_after F N hD hplD hn' fun b o hb e => hk b o hb (fun hm => by rw [List.mem_singleton.mp hm] at e; exact Nat.lt_irrefl _ (Heap.lt_size e)) (Heap.get?_push_of_some _ e)
    exact hQ D h' tk ys k F' N' hne hD hF
theorem eval_compL {iter : Expr} {ifs : List Expr} {px : Pos} {pos : Pos} {Q : Value → Shared → Prop} (p : Value → Bool) (Fv : Value → Value → Prop) (hh : A.handled = none)
    (hclos : closureFor scope env = pure cl) (hcell : ∀ z ∈ scope.names, z.2 ≠ .cell) (hkind : scope.kind = .function)
    (hnames : ∀ z ∈ scope.names, z.2 = .local → scope.names.lookup z.1 = some .local) (hx : scope.names.lookup x = some .local)
    (h : wpAny (model prog w) A (eval iter env) (fun xv s₁ => CompL prog w A h₀ env scope cl x elt ifs p Fv (fun _ m => m) (fun D s' => Q (.ref D) s') xv s₁) E s)
    (hs : ∀ x, foldedSetIterable iter env x = pure x) :
    wpAny (model prog w) A (eval (.ListComp elt [⟨.Name x px, iter, ifs, 0⟩] scope pos) env) Q E s := by
  refine wpAny_ListComp_free p Fv hclos hcell hkind hnames hx (wpAny_mono h (fun xv s₁ h₁ => ?_) fun _ _ e => e) hs
  obtain ⟨ax, vs, m, news, rfl, hl, hlen, F, N, ok, hQ⟩ := h₁
  have hlt : ax < s₁.heap.objs.size := by obtain ⟨_, e, _⟩ := hl; exact Heap.lt_size e
  refine wpAny_pyIter_list hl ⟨s₁.heap.objs.size, [s₁.heap.objs.size, ax], [s₁.heap.objs.size], vs.toArray.size, _, _, rfl, Walks.list hh _ _ (Nat.ne_of_lt hlt) vs.toArray, (by rw [List.size_toArray, sizeLine_eq]; omega), ⟨⟨_, Heap.get?_push_size _ rfl, rfl, rfl⟩, hl.push _⟩, ?_, comp_list_quiet ok, ?_⟩
  · intro b hb
    show b < (s₁.heap.push _).objs.size
    rw [Heap.size_push]
    rcases List.mem_cons.mp hb with rfl | hb
    · exact Nat.lt_succ_self _
    · rw [List.mem_singleton.mp hb]; exact Nat.lt_succ_of_lt hlt
  · intro D h' tk ys vs' hnew hlD hplD hlen' hP hF hk
    have e : vs' = vs := list_places hlen' hP
    subst e
    have hD : s₁.heap.get? D = none := by
      cases e : s₁.heap.get? D with
      | none => rfl
      | some o => rw [Heap.get?_push_of_some _ e] at hnew; cases hnew
    have ex : Ext s₁.heap h' := fun b o e => hk b o (fun hm => by rw [List.mem_singleton.mp hm] at e; exact Nat.lt_irrefl _ (Heap.lt_size e)) (Heap.get?_push_of_some _ e)
    obtain ⟨F', ⟨k, N'⟩, hne⟩ := comp_after F N hD hplD (F.ns.keeps ex) fun b o hb e => ex b o e
    exact hQ D h' tk ys k F' N' hne hD hF
end
end Mine

end
section
-- TG
open PySem PySem.W PySem.Spec PySem.Calls PyProof.Rows
set_option Elab.async false
set_option maxRecDepth 100000
set_option maxHeartbeats 2000000
namespace Mine
theorem eqB_t {prog : Program} {w : World} {A : Around} {E : Value → Shared → Prop} {s : Shared} {a b : Int} {t u : Tok} {Q : Bool → Shared → Prop} (e : a = b) (h : Q true s) : wpAny (model prog w) A (eqBool (.int a t) (.int b u)) Q E s :=
  wpAny_eqBool_int (by rw [beq_iff_eq.mpr e]; exact h)
theorem eqB_f {prog : Program} {w : World} {A : Around} {E : Value → Shared → Prop} {s : Shared} {a b : Int} {t u : Tok} {Q : Bool → Shared → Prop} (e : a ≠ b) (h : Q false s) : wpAny (model prog w) A (eqBool (.int a t) (.int b u)) Q E s :=
  wpAny_eqBool_int (by rw [beq_false_of_ne e]; exact h)
theorem eqB_any {prog : Program} {w : World} {A : Around} {E : Value → Shared → Prop} {s : Shared} {a b : Int} {t u : Tok} {Q : Bool → Shared → Prop} (h1 : a = b → Q true s) (h2 : a ≠ b → Q false s) : wpAny (model prog w) A (eqBool (.int a t) (.int b u)) Q E s := by
  by_cases e : a = b
  · exact eqB_t e (h1 e)
  · exact eqB_f e (h2 e)
theorem rcGt {prog : Program} {w : World} {A : Around} {E : Value → Shared → Prop} {s : Shared} {a b : Int} {t u : Tok} {Q : Value → Shared → Prop} (h : Q (.bool (decide (a > b))) s) : wpAny (model prog w) A (richCompare .Gt (.int a t) (.int b u)) Q E s :=
  PyProof.Rows.gt_int (b := b) (a := a) h
open AutoSeq1 (wpAny_loadPart') in
theorem tuple_gt3 (l b : Addr) (x1 x2 x3 y1 y2 y3 : Int) (t1 t2 t3 u1 u2 u3 : Tok) (n n2 : Nat) (dd dd2 : Option Addr) (sl sl2 : Array (Option Value)) :
    Meets (Builtin.«tuple.__gt__» ⟨[.ref l, .ref b], []⟩)
      (fun _ R s => s.heap.get? l = some { cls := .type "tuple", dict := dd, data := .seq #[.int x1 t1, .int x2 t2, .int x3 t3] n, slots := sl } ∧ s.heap.get? b = some { cls := .type "tuple", dict := dd2, data := .seq #[.int y1 u1, .int y2 u2, .int y3 u3] n2, slots := sl2 } ∧
        R (.ok (.ret (.bool (if x1 = y1 then (if x2 = y2 then decide (x3 > y3) else decide (x2 > y2)) else decide (x1 > y1))))) s) :=
  .of_wp fun prog w A R s h => by
    obtain ⟨hp, g, d, tk, os⟩ := s; obtain ⟨hl, hb, h⟩ := h
    have f2 := AutoSeq1.sub_tuple_tuple
    wp_walk using wpAny_loadPart' hl, wpAny_loadPart' hb, eqB_any
    · intro h1
      rw [if_pos h1] at h
      wp_walk using eqB_any
      · intro h2
        rw [if_pos h2] at h
        wp_walk using eqB_any
        · intro h3
          have e : decide (x3 > y3) = false := by simp; omega
          rw [e] at h
          wp_walk
          exact ⟨_, rfl, h⟩
        · intro h3
          wp_walk using rcGt
          exact ⟨_, rfl, h⟩
      · intro h2
        rw [if_neg h2] at h
        wp_walk using rcGt
        exact ⟨_, rfl, h⟩
    · intro h1
      rw [if_neg h1] at h
      wp_walk using rcGt
      exact ⟨_, rfl, h⟩
theorem gt_tup3 {prog : Program} {w : World} {A : Around} {E : Value → Shared → Prop} {s : Shared} {a b : Addr} {x1 x2 x3 y1 y2 y3 : Int} {t1 t2 t3 u1 u2 u3 : Tok} {Q : Value → Shared → Prop}
    (ha : IsTup s.heap a #[.int x1 t1, .int x2 t2, .int x3 t3]) (hb : IsTup s.heap b #[.int y1 u1, .int y2 u2, .int y3 u3]) (hu : A.units < cLine)
    (h : Q (.bool (if x1 = y1 then (if x2 = y2 then decide (x3 > y3) else decide (x2 > y2)) else decide (x1 > y1))) s) : wpAny (model prog w) A (compareOp .Gt (.ref a) (.ref b)) Q E s := by
  obtain ⟨⟨c, dd, dt, sl⟩, hl, hc, n, hd⟩ := id ha
  obtain ⟨⟨c2, dd2, dt2, sl2⟩, hl2, hc2, n2, hd2⟩ := id hb
  replace hc : c = .type "tuple" := hc
  replace hd : dt = _ := hd
  replace hc2 : c2 = .type "tuple" := hc2
  replace hd2 : dt2 = _ := hd2
  subst hc hd hc2 hd2
  have ta : s.TypeIs (.ref a) "tuple" := ⟨_, hl, rfl⟩
  have tb : s.TypeIs (.ref b) "tuple" := ⟨_, hl2, rfl⟩
  show wpAny _ _ (richCompare .Gt _ _) _ _ _
  unfold richCompare
  simp only [oneThing_ref]
  refine wpAny_holding (wpAny_bind (wpAny_cRoomFor hu ?_))
  refine wpAny_bind (wpAny_typeOf ta (wpAny_bind (wpAny_typeOf tb ?_)))
  rw [if_neg (by simp)]
  refine wpAny_bind (wpAny_pure ?_)
  simp only [Bool.false_eq_true, if_false]
  refine wpAny_bind ?_
  have one : wpAny (model prog w) A (tryCompare (.ref a) (cmpInfo .Gt).2.1 (.ref b)) (fun r s' => ∃ v, r = some v ∧ Q v s') E s := by
    exact wpAny_tryCompare_slot ta PySem.F.slot_tuple_gt (call_meets PySem.F.slot_tuple_gt ta PySem.F.entry_tuple_gt (PySem.F.args_tuple_gt_2 _ _) (tuple_gt3 a b x1 x2 x3 y1 y2 y3 t1 t2 t3 u1 u2 u3 n n2 dd dd2 sl sl2) ⟨hl, hl2, (show (_ : Value) ≠ _ ∧ _ from ⟨(fun x => nomatch x), _, rfl, h⟩)⟩)
  exact wpAny_mono one (fun r s' z => by obtain ⟨v, rfl, hq⟩ := z; exact wpAny_pure hq) fun _ _ z => z
end Mine

end
section
-- BW
open PySem PySem.W PySem.Spec PySem.Calls PyProof.Rows
set_option Elab.async false
set_option maxRecDepth 100000
set_option maxHeartbeats 2000000
namespace Mine
theorem fillK14 : ∀ w : World, (hd0.heap_1 w.params).In default → PySem.Challenge.rw_nq0103_01.prog = PySem.Challenge.rw_nq0103_01.prog → True := by
  k_fill
  intros; trivial
noncomputable def Deed.rank (d : Deed) : Int := d.h * 32 + d.k * 8 + d.j
noncomputable def laterN (ds : List (Addr × Deed)) (d : Deed) : Nat := ds.countP fun o => decide (d.rank < o.2.rank)
noncomputable def backL (ds : List (Addr × Deed)) : List (Addr × Deed) := ds.foldl (fun b d => b.set (laterN ds d.2) d) ds
theorem DeedAt.eq {h : Heap} {a : Addr} {d e : Deed} (x : DeedAt h a d) (y : DeedAt h a e) : d = e := by
  obtain ⟨t1, t2, t3, t4, h1⟩ := x
  obtain ⟨u1, u2, u3, u4, h2⟩ := y
  rw [h1] at h2
  have h3 := Option.some.inj h2
  have h4 := (Obj.mk.inj h3).2.2.1
  have h5 := (Data.seq.inj h4).1
  have h6 := Array.mk.inj h5
  obtain ⟨dh, dk, dq, dj⟩ := d
  obtain ⟨eh, ek, eq, ej⟩ := e
  simp only [List.cons.injEq, Value.int.injEq, and_true] at h6
  obtain ⟨⟨h1, -⟩, ⟨h2, -⟩, ⟨h3, -⟩, h4, -⟩ := h6
  rw [h1, h2, h3, h4]
theorem slice_all (l : List Value) : (slicePick l.toArray none none none).toList = l := by rw [slicePick_all]
theorem refsD_fit {ds : List (Addr × Deed)} (h : ds.length ≤ 5) : (refsD ds).toArray.size ≤ sizeLine := by
  rw [sizeLine_eq]
  simp [refsD]
  omega
theorem assign_compLF {prog : Program} {w : World} {A : Around} {E : Value → Shared → Prop} {s : Shared} {h₀ : Heap} {env : Env} {m : Str → Option Value} {scope : Scope} {cl : List (Str × Addr)} {x y : Str} {elt : Expr} {iter : Expr} {ifs : List Expr} {px py : Pos} {pos spos : Pos} {Q : Flow → Shared → Prop} (_F : Fr h₀ env.locals s.heap m) (p : Value → Bool) (Fv : Value → Value → Prop) (hh : A.handled = none)
    (hsw : swapsWith (.ListComp elt [⟨.Name x px, iter, ifs, 0⟩] scope pos) (some (.Name y py)) spos.line env = pure true)
    (hclos : closureFor scope env = pure cl) (hcell : ∀ z ∈ scope.names, z.2 ≠ .cell) (hkind : scope.kind = .function)
    (hnames : ∀ z ∈ scope.names, z.2 = .local → scope.names.lookup z.1 = some .local) (hx : scope.names.lookup x = some .local)
    (hy : env.kindOf y = some .local) (hp : (env.scope.kind == .class || (env.scope.kind == .module && env.locals != env.globals)) = false)
    (hs : ∀ x, foldedSetIterable iter env x = pure x)
    (h : wpAny (model prog w) A (eval iter env) (fun xv s₁ => CompL prog w A h₀ env scope cl x elt ifs p Fv (fun D m z => if z = y then some (.ref D) else m z) (fun _ s' => Q .next s') xv s₁) E s) :
    wpAny (model prog w) A (exec (.Assign [.Name y py] (.ListComp elt [⟨.Name x px, iter, ifs, 0⟩] scope pos) spos) env) Q E s := assign_compL p Fv hh hsw hclos hcell hkind hnames hx hy hp h hs
theorem newTuple_E {M : Model} {A : Around} {E : Value → Shared → Prop} {s : Shared} {h₀ hs : Heap} {L : Addr} {m : Str → Option Value} {news : List (Addr × Obj)} {vs : List Value} {Q : Value → Shared → Prop} (F : Fr h₀ L s.heap m) (N : News h₀ L s.heap news) (X : Ext hs s.heap) (hz : vs.length ≤ sizeLine)
    (h : ∀ D h', Fr h₀ L h' m → News h₀ L h' ((D, ({ cls := .type "tuple", data := .seq vs.toArray } : Obj)) :: news) → Ext hs h' → (∀ p ∈ news, p.1 < D) → Q (.ref D) { s with heap := h' }) : wpAny M A (newTuple vs) Q E s :=
  newTuple_NK F N (fun h' F' N' k => h _ h' F' N' (X.trans k) fun p hp => Heap.lt_size (N p hp).1) hz
theorem lex_rank {q d : Deed} (h1 : q.ok) (h2 : d.ok) : (if q.h = d.h then if q.k = d.k then decide (q.j > d.j) else decide (q.k > d.k) else decide (q.h > d.h)) = decide (d.rank < q.rank) := by
  obtain ⟨a1, a2, a3, a4, a5, a6⟩ := h1
  obtain ⟨b1, b2, b3, b4, b5, b6⟩ := h2
  unfold Deed.rank
  split
  · rename_i e
    rw [e]
    split
    · rename_i e2
      rw [e2]
      exact decide_eq_decide.mpr (Int.add_lt_add_iff_left _).symm
    · rename_i n
      refine decide_eq_decide.mpr ?_
      rw [Int.add_assoc, Int.add_assoc, Int.add_lt_add_iff_left]
      clear e a1 a2 a3 a4 b1 b2 b3 b4
      constructor <;> intro p <;> omega
  · rename_i n
    have x : 0 ≤ q.k * 8 + q.j ∧ q.k * 8 + q.j < 32 := by clear n b1 b2 b3 b4 b5 b6; omega
    have y : 0 ≤ d.k * 8 + d.j ∧ d.k * 8 + d.j < 32 := by clear n a1 a2 a3 a4 a5 a6 x; omega
    refine decide_eq_decide.mpr ?_
    rw [Int.add_assoc, Int.add_assoc]
    generalize q.k * 8 + q.j = u at *
    generalize d.k * 8 + d.j = v at *
    clear a1 a2 a3 a4 a5 a6 b1 b2 b3 b4 b5 b6
    constructor <;> intro p <;> omega
theorem fold_len (f : Deed → Nat) : ∀ (pre : List (Addr × Deed)) (b : List (Addr × Deed)), (pre.foldl (fun b d => b.set (f d.2) d) b).length = b.length
  | [], _ => rfl
  | p :: r, b => by rw [List.foldl_cons, fold_len f r, List.length_set]
theorem News.tail' {h₀ h : Heap} {L : Addr} {p : Addr × Obj} {l : List (Addr × Obj)} (N : News h₀ L h (p :: l)) : News h₀ L h l := fun q hq => N q (.tail _ hq)
theorem refsD_size (ds : List (Addr × Deed)) : (refsD ds).toArray.size = ds.length := by simp [refsD]
theorem refsD_set (b : List (Addr × Deed)) (i : Nat) (d : Addr × Deed) : (refsD b).toArray.setIfInBounds i (.ref d.1) = (refsD (b.set i d)).toArray := by
  simp [refsD, List.map_set]
inductive BwJ (Bk : Addr) (L : Nat) (dl : Addr) (ds : List (Addr × Deed)) (n : Nat) (r : List (Addr × Deed)) (m : Str → Option Value) (news : List (Addr × Obj)) : Prop
  | mk (pre : List (Addr × Deed)) (o1 : Obj) (k : Nat) (_ : news = [(Bk, listOf (refsD (pre.foldl (fun b d => b.set (laterN ds d.2) d) ds)).toArray k), (L + 1, o1), (dl, listOf (refsD ds).toArray n)]) (_ : pre ++ r = ds) (_ : ∃ v, o1.data = .cell v) (_ : m "deeds" = some (.ref dl)) (_ : m "back" = some (.ref Bk)) : BwJ Bk L dl ds n r m news
section
variable {w : World} {dp un : Nat} {fr : Option (List Env)} {gd : Option (List Code)} {s : Shared} {B : Heap} {p : Program} {loose : List Str} {mean : ExcName → Option Value} {mg mb : Str → Option Value} {Q E : Value → Shared → Prop} {dl : Addr} {n : Nat}
theorem back_raw (ds : List (Addr × Deed)) (G : Deep w p loose mean mg mb B) (hB : Ext B s.heap) (nb : B.get? dl = none) (hr : dp + 30 < recursionLimit) (hun : un + 100 < cLine) (hlen : ds.length ≤ 5)
    (hds : ∀ q ∈ ds, DeedAt s.heap q.1 q.2 ∧ q.2.ok)
    (hlt : ∀ q ∈ ds, laterN ds q.2 < ds.length)
    (g : s.heap.get? dl = some (listOf (refsD ds).toArray n))
    (hQ : ∀ D h' tk' k, s.heap.get? D = none → h'.get? D = some (listOf (refsD (backL ds)).toArray k) → Ext s.heap h' → Q (.ref D) { s with heap := h', toks := tk' }) :
    wpAny (model prog w) { handled := none, depth := dp, frames := fr, guards := gd, units := un } (call (.ref 136) [.ref dl]) Q E s := by
  have hh : Ext B (hideAll s.heap [dl]) := hB.hide (by intro y hy; rw [List.mem_singleton.mp hy]; exact nb)
  have hk := hide_lists (h := s.heap) (l := [dl]) (by intro y hy; rw [List.mem_singleton.mp hy]; exact ⟨_, g, rfl⟩)
  have hds' : ∀ q ∈ ds, DeedAt (hideAll s.heap [dl]) q.1 q.2 ∧ q.2.ok := fun q hq => ⟨(hds q hq).1.hide hk, (hds q hq).2⟩
  have X' : (hd0.heap_1 w.params).In (hideAll s.heap [dl]) := G.X.keeps hh
  have T' := G.T.keeps hh
  have X : (hd0.heap_1 w.params).In s.heap := G.X.keeps hB
  refine wpAny_call ?_
  k_dflt (refine' enterMC (muts := [(dl, listOf (refsD ds).toArray n)]) (binds := [("deeds", .ref dl)]) ?hm X (G.T.nolimit.keeps hB) ?k6 ?k7 ?k8 ?k9 ?kB ?kD ?_ ?c2 ?c3 ?c4; (case hm => simpa using g); (case k6 => k_is); (case k7 => k_is); (case k8 => (show dp < recursionLimit; omega)); (case k9 => exact BindsTo.of_eq rfl); (case kB => exact kindsX rfl); (case kD => decide +kernel); (case c2 => exact rfl); (case c3 => exact rfl); (case c4 => exact rfl))
  intro L h₁ tk cells hl F N Y
  clear X hds
  obtain ⟨oD, hE, dD⟩ := CellsAre.one Y
  subst hE
  clear Y
  dsimp only [List.map] at F N
  have hl' : @LT.lt Nat instLTNat dl L := hl _ (.head _)
  clear hl
  dsimp only
  simp only [List.cons_append, List.nil_append] at N
  repeat' (first | (k_unfold; (try dsimp only)) | (k_end; wrow_close) | (with_reducible ((with_reducible show wpAny _ _ (exec (PySem.Stmt.For (PySem.Expr.Name _ _) (PySem.Expr.Name _ _) _ [] _) _) _ _ _); k_here; (rename Fr _ _ _ _ => lF'q9); (with_unfolding_all refine' For_turns lF'q9 ?_; k_whole))) | (with_reducible (k_here; (with_reducible show wpAny _ _ (compareOp CmpOp.Gt (Value.ref _) (Value.ref _)) _ _ _); k_dflt (refine gt_tup3 (News.isTup (by k_asm) (by k_mem)) (News.isTup (by k_asm) (by k_mem)) (by first | assumption | (simp only [Around.deeper]; omega)) ?_))) | (with_reducible ((with_reducible show wpAny _ _ (newTuple _) _ _ _); k_here; k_dflt (refine newTuple_E (by first | (k_asm; done) | fail) (by first | (k_asm; done) | fail) (by first | (assumption; done) | fail) (by first | (kmk_size; done) | fail) ?_); intro D'q9 h'q9 F'q9 N'q9 x'q9 l1q9; (try k_lt l1q9); (try k_sweep))) | (with_reducible (k_here; (with_reducible show wpAny _ _ (subscriptTail _ _ (Value.ref _) (Value.int _ _)) _ _ _); k_dflt (refine item_tuple (tup_of (by k_asm) (by assumption)) (by decide) (by decide) rfl rfl ?_))) | (with_reducible (k_here; (with_reducible show wpAny _ _ (subscriptTail _ (PySem.Expr.Slice _ _ none _) (Value.ref _) (Value.ref _)) _ _ _); k_dflt (refine kmk_slice_lit (by first | (k_asm; done) | fail) (by first | (k_asm; done) | fail) (by first | (kmk_list; done) | fail) (by first | (kmk_part; done) | fail) (by first | (kmk_part; done) | fail) (by first | (exact slice_all _; done) | fail) ?_ (by first | (with_unfolding_all rfl; done) | fail) (by first | (kmk_pure; done) | fail) (by first | (exact refsD_fit (by assumption); done) | fail)); intro D'q9 h'q9 F'q9 N'q9 l1q9; (try k_lt l1q9); (try k_sweep))) | ((with_reducible show wpAny _ _ (exec (PySem.Stmt.For (PySem.Expr.Name _ _) (PySem.Expr.Name _ _) _ [] _) _) _ _ _); k_here; (rename Fr _ _ _ _ => lF'q9); (with_unfolding_all refine' For_turns lF'q9 ?_; k_whole)) | (k_here; (with_reducible show wpAny _ _ (compareOp CmpOp.Gt (Value.ref _) (Value.ref _)) _ _ _); k_dflt (refine gt_tup3 (News.isTup (by k_asm) (by k_mem)) (News.isTup (by k_asm) (by k_mem)) (by first | assumption | (simp only [Around.deeper]; omega)) ?_)) | ((with_reducible show wpAny _ _ (newTuple _) _ _ _); k_here; k_dflt (refine newTuple_E (by first | (k_asm; done) | fail) (by first | (k_asm; done) | fail) (by first | (assumption; done) | fail) (by first | (kmk_size; done) | fail) ?_); intro D'q9 h'q9 F'q9 N'q9 x'q9 l1q9; (try k_lt l1q9); (try k_sweep)) | (k_here; (with_reducible show wpAny _ _ (subscriptTail _ _ (Value.ref _) (Value.int _ _)) _ _ _); k_dflt (refine item_tuple (tup_of (by k_asm) (by assumption)) (by decide) (by decide) rfl rfl ?_)) | (k_here; (with_reducible show wpAny _ _ (subscriptTail _ (PySem.Expr.Slice _ _ none _) (Value.ref _) (Value.ref _)) _ _ _); k_dflt (refine kmk_slice_lit (by first | (k_asm; done) | fail) (by first | (k_asm; done) | fail) (by first | (kmk_list; done) | fail) (by first | (kmk_part; done) | fail) (by first | (kmk_part; done) | fail) (by first | (exact slice_all _; done) | fail) ?_ (by first | (with_unfolding_all rfl; done) | fail) (by first | (kmk_pure; done) | fail) (by first | (exact refsD_fit (by assumption); done) | fail)); intro D'q9 h'q9 F'q9 N'q9 l1q9; (try k_lt l1q9); (try k_sweep)) | walk1 | (dsimp only; first | (with_reducible ((with_reducible show wpAny _ _ (exec (PySem.Stmt.For (PySem.Expr.Name _ _) (PySem.Expr.Name _ _) _ [] _) _) _ _ _); k_here; (rename Fr _ _ _ _ => lF'q9); (with_unfolding_all refine' For_turns lF'q9 ?_; k_whole))) | (with_reducible (k_here; (with_reducible show wpAny _ _ (compareOp CmpOp.Gt (Value.ref _) (Value.ref _)) _ _ _); k_dflt (refine gt_tup3 (News.isTup (by k_asm) (by k_mem)) (News.isTup (by k_asm) (by k_mem)) (by first | assumption | (simp only [Around.deeper]; omega)) ?_))) | (with_reducible ((with_reducible show wpAny _ _ (newTuple _) _ _ _); k_here; k_dflt (refine newTuple_E (by first | (k_asm; done) | fail) (by first | (k_asm; done) | fail) (by first | (assumption; done) | fail) (by first | (kmk_size; done) | fail) ?_); intro D'q9 h'q9 F'q9 N'q9 x'q9 l1q9; (try k_lt l1q9); (try k_sweep))) | (with_reducible (k_here; (with_reducible show wpAny _ _ (subscriptTail _ _ (Value.ref _) (Value.int _ _)) _ _ _); k_dflt (refine item_tuple (tup_of (by k_asm) (by assumption)) (by decide) (by decide) rfl rfl ?_))) | (with_reducible (k_here; (with_reducible show wpAny _ _ (subscriptTail _ (PySem.Expr.Slice _ _ none _) (Value.ref _) (Value.ref _)) _ _ _); k_dflt (refine kmk_slice_lit (by first | (k_asm; done) | fail) (by first | (k_asm; done) | fail) (by first | (kmk_list; done) | fail) (by first | (kmk_part; done) | fail) (by first | (kmk_part; done) | fail) (by first | (exact slice_all _; done) | fail) ?_ (by first | (with_unfolding_all rfl; done) | fail) (by first | (kmk_pure; done) | fail) (by first | (exact refsD_fit (by assumption); done) | fail)); intro D'q9 h'q9 F'q9 N'q9 l1q9; (try k_lt l1q9); (try k_sweep))) | ((with_reducible show wpAny _ _ (exec (PySem.Stmt.For (PySem.Expr.Name _ _) (PySem.Expr.Name _ _) _ [] _) _) _ _ _); k_here; (rename Fr _ _ _ _ => lF'q9); (with_unfolding_all refine' For_turns lF'q9 ?_; k_whole)) | (k_here; (with_reducible show wpAny _ _ (compareOp CmpOp.Gt (Value.ref _) (Value.ref _)) _ _ _); k_dflt (refine gt_tup3 (News.isTup (by k_asm) (by k_mem)) (News.isTup (by k_asm) (by k_mem)) (by first | assumption | (simp only [Around.deeper]; omega)) ?_)) | ((with_reducible show wpAny _ _ (newTuple _) _ _ _); k_here; k_dflt (refine newTuple_E (by first | (k_asm; done) | fail) (by first | (k_asm; done) | fail) (by first | (assumption; done) | fail) (by first | (kmk_size; done) | fail) ?_); intro D'q9 h'q9 F'q9 N'q9 x'q9 l1q9; (try k_lt l1q9); (try k_sweep)) | (k_here; (with_reducible show wpAny _ _ (subscriptTail _ _ (Value.ref _) (Value.int _ _)) _ _ _); k_dflt (refine item_tuple (tup_of (by k_asm) (by assumption)) (by decide) (by decide) rfl rfl ?_)) | (k_here; (with_reducible show wpAny _ _ (subscriptTail _ (PySem.Expr.Slice _ _ none _) (Value.ref _) (Value.ref _)) _ _ _); k_dflt (refine kmk_slice_lit (by first | (k_asm; done) | fail) (by first | (k_asm; done) | fail) (by first | (kmk_list; done) | fail) (by first | (kmk_part; done) | fail) (by first | (kmk_part; done) | fail) (by first | (exact slice_all _; done) | fail) ?_ (by first | (with_unfolding_all rfl; done) | fail) (by first | (kmk_pure; done) | fail) (by first | (exact refsD_fit (by assumption); done) | fail)); intro D'q9 h'q9 F'q9 N'q9 l1q9; (try k_lt l1q9); (try k_sweep)) | walk1) | (leave1; try dsimp only) | fail "no step")
  have em : (refsD ds).map Itm.val = ds.map fun q => Itm.val (.ref q.1) := by simp [refsD]
  rename Fr _ _ _ _ => F1
  rename News _ _ _ _ => N1
  (obtain ⟨Bk, rfl⟩ : ∃ b, b = D'q9 := ⟨_, rfl⟩); have lBk := l1q9
  refine iter_listTurns (vs := refsD ds) rfl F1 N1 (by k_mem) rfl rfl (fun I hI => ?_)
  rw [em]
  refine items_ind (fun q => Itm.val (.ref q.1)) (BwJ Bk L dl ds n) ?_ ?_ ds _ _ ?_
  rotate_left 2
  · exact ⟨[], oD, _, rfl, rfl, ⟨_, dD⟩, rfl, rfl⟩
  · rintro m news ⟨pre, o1, k, rfl, hpre, ⟨v1, d1⟩, hm1, hm2⟩ h tk F N
    rw [norm1 hm2] at F
    have hb := N (Bk, _) (.head _)
    have ex : Ext s.heap h := ext_back1 g F N (.tail _ (.tail _ (.head _))) rfl
    have hBk : s.heap.get? Bk = none := by
      have hz := hb.2.2
      cases e : s.heap.get? Bk with
      | none => rfl
      | some o =>
        rw [hideAll_get _ e (by simp; exact Nat.ne_of_gt lBk.2)] at hz
        cases hz
    rw [List.append_nil] at hpre
    subst hpre
    have hb1 := hb.1
    repeat' (first | (k_unfold; (try dsimp only)) | (k_end; wrow_close) | (with_reducible ((with_reducible show wpAny _ _ (exec (PySem.Stmt.For (PySem.Expr.Name _ _) (PySem.Expr.Name _ _) _ [] _) _) _ _ _); k_here; (rename Fr _ _ _ _ => lF'q9); (with_unfolding_all refine' For_turns lF'q9 ?_; k_whole))) | (with_reducible (k_here; (with_reducible show wpAny _ _ (compareOp CmpOp.Gt (Value.ref _) (Value.ref _)) _ _ _); k_dflt (refine gt_tup3 (News.isTup (by k_asm) (by k_mem)) (News.isTup (by k_asm) (by k_mem)) (by first | assumption | (simp only [Around.deeper]; omega)) ?_))) | (with_reducible ((with_reducible show wpAny _ _ (newTuple _) _ _ _); k_here; k_dflt (refine newTuple_E (by first | (k_asm; done) | fail) (by first | (k_asm; done) | fail) (by first | (assumption; done) | fail) (by first | (kmk_size; done) | fail) ?_); intro D'q9 h'q9 F'q9 N'q9 x'q9 l1q9; (try k_lt l1q9); (try k_sweep))) | (with_reducible (k_here; (with_reducible show wpAny _ _ (subscriptTail _ _ (Value.ref _) (Value.int _ _)) _ _ _); k_dflt (refine item_tuple (tup_of (by k_asm) (by assumption)) (by decide) (by decide) rfl rfl ?_))) | (with_reducible (k_here; (with_reducible show wpAny _ _ (subscriptTail _ (PySem.Expr.Slice _ _ none _) (Value.ref _) (Value.ref _)) _ _ _); k_dflt (refine kmk_slice_lit (by first | (k_asm; done) | fail) (by first | (k_asm; done) | fail) (by first | (kmk_list; done) | fail) (by first | (kmk_part; done) | fail) (by first | (kmk_part; done) | fail) (by first | (exact slice_all _; done) | fail) ?_ (by first | (with_unfolding_all rfl; done) | fail) (by first | (kmk_pure; done) | fail) (by first | (exact refsD_fit (by assumption); done) | fail)); intro D'q9 h'q9 F'q9 N'q9 l1q9; (try k_lt l1q9); (try k_sweep))) | ((with_reducible show wpAny _ _ (exec (PySem.Stmt.For (PySem.Expr.Name _ _) (PySem.Expr.Name _ _) _ [] _) _) _ _ _); k_here; (rename Fr _ _ _ _ => lF'q9); (with_unfolding_all refine' For_turns lF'q9 ?_; k_whole)) | (k_here; (with_reducible show wpAny _ _ (compareOp CmpOp.Gt (Value.ref _) (Value.ref _)) _ _ _); k_dflt (refine gt_tup3 (News.isTup (by k_asm) (by k_mem)) (News.isTup (by k_asm) (by k_mem)) (by first | assumption | (simp only [Around.deeper]; omega)) ?_)) | ((with_reducible show wpAny _ _ (newTuple _) _ _ _); k_here; k_dflt (refine newTuple_E (by first | (k_asm; done) | fail) (by first | (k_asm; done) | fail) (by first | (assumption; done) | fail) (by first | (kmk_size; done) | fail) ?_); intro D'q9 h'q9 F'q9 N'q9 x'q9 l1q9; (try k_lt l1q9); (try k_sweep)) | (k_here; (with_reducible show wpAny _ _ (subscriptTail _ _ (Value.ref _) (Value.int _ _)) _ _ _); k_dflt (refine item_tuple (tup_of (by k_asm) (by assumption)) (by decide) (by decide) rfl rfl ?_)) | (k_here; (with_reducible show wpAny _ _ (subscriptTail _ (PySem.Expr.Slice _ _ none _) (Value.ref _) (Value.ref _)) _ _ _); k_dflt (refine kmk_slice_lit (by first | (k_asm; done) | fail) (by first | (k_asm; done) | fail) (by first | (kmk_list; done) | fail) (by first | (kmk_part; done) | fail) (by first | (kmk_part; done) | fail) (by first | (exact slice_all _; done) | fail) ?_ (by first | (with_unfolding_all rfl; done) | fail) (by first | (kmk_pure; done) | fail) (by first | (exact refsD_fit (by assumption); done) | fail)); intro D'q9 h'q9 F'q9 N'q9 l1q9; (try k_lt l1q9); (try k_sweep)) | walk1 | (dsimp only; first | (with_reducible ((with_reducible show wpAny _ _ (exec (PySem.Stmt.For (PySem.Expr.Name _ _) (PySem.Expr.Name _ _) _ [] _) _) _ _ _); k_here; (rename Fr _ _ _ _ => lF'q9); (with_unfolding_all refine' For_turns lF'q9 ?_; k_whole))) | (with_reducible (k_here; (with_reducible show wpAny _ _ (compareOp CmpOp.Gt (Value.ref _) (Value.ref _)) _ _ _); k_dflt (refine gt_tup3 (News.isTup (by k_asm) (by k_mem)) (News.isTup (by k_asm) (by k_mem)) (by first | assumption | (simp only [Around.deeper]; omega)) ?_))) | (with_reducible ((with_reducible show wpAny _ _ (newTuple _) _ _ _); k_here; k_dflt (refine newTuple_E (by first | (k_asm; done) | fail) (by first | (k_asm; done) | fail) (by first | (assumption; done) | fail) (by first | (kmk_size; done) | fail) ?_); intro D'q9 h'q9 F'q9 N'q9 x'q9 l1q9; (try k_lt l1q9); (try k_sweep))) | (with_reducible (k_here; (with_reducible show wpAny _ _ (subscriptTail _ _ (Value.ref _) (Value.int _ _)) _ _ _); k_dflt (refine item_tuple (tup_of (by k_asm) (by assumption)) (by decide) (by decide) rfl rfl ?_))) | (with_reducible (k_here; (with_reducible show wpAny _ _ (subscriptTail _ (PySem.Expr.Slice _ _ none _) (Value.ref _) (Value.ref _)) _ _ _); k_dflt (refine kmk_slice_lit (by first | (k_asm; done) | fail) (by first | (k_asm; done) | fail) (by first | (kmk_list; done) | fail) (by first | (kmk_part; done) | fail) (by first | (kmk_part; done) | fail) (by first | (exact slice_all _; done) | fail) ?_ (by first | (with_unfolding_all rfl; done) | fail) (by first | (kmk_pure; done) | fail) (by first | (exact refsD_fit (by assumption); done) | fail)); intro D'q9 h'q9 F'q9 N'q9 l1q9; (try k_lt l1q9); (try k_sweep))) | ((with_reducible show wpAny _ _ (exec (PySem.Stmt.For (PySem.Expr.Name _ _) (PySem.Expr.Name _ _) _ [] _) _) _ _ _); k_here; (rename Fr _ _ _ _ => lF'q9); (with_unfolding_all refine' For_turns lF'q9 ?_; k_whole)) | (k_here; (with_reducible show wpAny _ _ (compareOp CmpOp.Gt (Value.ref _) (Value.ref _)) _ _ _); k_dflt (refine gt_tup3 (News.isTup (by k_asm) (by k_mem)) (News.isTup (by k_asm) (by k_mem)) (by first | assumption | (simp only [Around.deeper]; omega)) ?_)) | ((with_reducible show wpAny _ _ (newTuple _) _ _ _); k_here; k_dflt (refine newTuple_E (by first | (k_asm; done) | fail) (by first | (k_asm; done) | fail) (by first | (assumption; done) | fail) (by first | (kmk_size; done) | fail) ?_); intro D'q9 h'q9 F'q9 N'q9 x'q9 l1q9; (try k_lt l1q9); (try k_sweep)) | (k_here; (with_reducible show wpAny _ _ (subscriptTail _ _ (Value.ref _) (Value.int _ _)) _ _ _); k_dflt (refine item_tuple (tup_of (by k_asm) (by assumption)) (by decide) (by decide) rfl rfl ?_)) | (k_here; (with_reducible show wpAny _ _ (subscriptTail _ (PySem.Expr.Slice _ _ none _) (Value.ref _) (Value.ref _)) _ _ _); k_dflt (refine kmk_slice_lit (by first | (k_asm; done) | fail) (by first | (k_asm; done) | fail) (by first | (kmk_list; done) | fail) (by first | (kmk_part; done) | fail) (by first | (kmk_part; done) | fail) (by first | (exact slice_all _; done) | fail) ?_ (by first | (with_unfolding_all rfl; done) | fail) (by first | (kmk_pure; done) | fail) (by first | (exact refsD_fit (by assumption); done) | fail)); intro D'q9 h'q9 F'q9 N'q9 l1q9; (try k_lt l1q9); (try k_sweep)) | walk1) | (leave1; try dsimp only) | fail "no step")
    exact hQ _ _ _ _ hBk hb1 ex
  · rintro ⟨a, d⟩ r m news ⟨pre, o1, k, rfl, hpre, ⟨v1, d1⟩, hm1, hm2⟩ IH
    obtain ⟨hda, hok⟩ := hds' (a, d) (by rw [← hpre]; simp)
    dsimp only at hda hok
    rw [norm1 hm1, norm1 hm2]
    have j1 : @LT.lt Nat instLTNat Bk I := hI _ (.head _)
    have j2 : @LT.lt Nat instLTNat (L + 1) I := hI _ (.tail _ (.head _))
    have j3 : @LT.lt Nat instLTNat dl I := hI _ (.tail _ (.tail _ (.head _)))
    iterate 5 (first | (k_unfold; (try dsimp only)) | (with_reducible ((with_reducible show wpAny _ _ (exec (PySem.Stmt.For (PySem.Expr.Name _ _) (PySem.Expr.Name _ _) _ [] _) _) _ _ _); k_here; (rename Fr _ _ _ _ => lF'q9); (with_unfolding_all refine' For_turns lF'q9 ?_; k_whole))) | (with_reducible (k_here; (with_reducible show wpAny _ _ (compareOp CmpOp.Gt (Value.ref _) (Value.ref _)) _ _ _); k_dflt (refine gt_tup3 (News.isTup (by k_asm) (by k_mem)) (News.isTup (by k_asm) (by k_mem)) (by first | assumption | (simp only [Around.deeper]; omega)) ?_))) | (with_reducible ((with_reducible show wpAny _ _ (newTuple _) _ _ _); k_here; k_dflt (refine newTuple_E (by first | (k_asm; done) | fail) (by first | (k_asm; done) | fail) (by first | (assumption; done) | fail) (by first | (kmk_size; done) | fail) ?_); intro D'q9 h'q9 F'q9 N'q9 x'q9 l1q9; (try k_lt l1q9); (try k_sweep))) | (with_reducible (k_here; (with_reducible show wpAny _ _ (subscriptTail _ _ (Value.ref _) (Value.int _ _)) _ _ _); k_dflt (refine item_tuple (tup_of (by k_asm) (by assumption)) (by decide) (by decide) rfl rfl ?_))) | (with_reducible (k_here; (with_reducible show wpAny _ _ (subscriptTail _ (PySem.Expr.Slice _ _ none _) (Value.ref _) (Value.ref _)) _ _ _); k_dflt (refine kmk_slice_lit (by first | (k_asm; done) | fail) (by first | (k_asm; done) | fail) (by first | (kmk_list; done) | fail) (by first | (kmk_part; done) | fail) (by first | (kmk_part; done) | fail) (by first | (exact slice_all _; done) | fail) ?_ (by first | (with_unfolding_all rfl; done) | fail) (by first | (kmk_pure; done) | fail) (by first | (exact refsD_fit (by assumption); done) | fail)); intro D'q9 h'q9 F'q9 N'q9 l1q9; (try k_lt l1q9); (try k_sweep))) | ((with_reducible show wpAny _ _ (exec (PySem.Stmt.For (PySem.Expr.Name _ _) (PySem.Expr.Name _ _) _ [] _) _) _ _ _); k_here; (rename Fr _ _ _ _ => lF'q9); (with_unfolding_all refine' For_turns lF'q9 ?_; k_whole)) | (k_here; (with_reducible show wpAny _ _ (compareOp CmpOp.Gt (Value.ref _) (Value.ref _)) _ _ _); k_dflt (refine gt_tup3 (News.isTup (by k_asm) (by k_mem)) (News.isTup (by k_asm) (by k_mem)) (by first | assumption | (simp only [Around.deeper]; omega)) ?_)) | ((with_reducible show wpAny _ _ (newTuple _) _ _ _); k_here; k_dflt (refine newTuple_E (by first | (k_asm; done) | fail) (by first | (k_asm; done) | fail) (by first | (assumption; done) | fail) (by first | (kmk_size; done) | fail) ?_); intro D'q9 h'q9 F'q9 N'q9 x'q9 l1q9; (try k_lt l1q9); (try k_sweep)) | (k_here; (with_reducible show wpAny _ _ (subscriptTail _ _ (Value.ref _) (Value.int _ _)) _ _ _); k_dflt (refine item_tuple (tup_of (by k_asm) (by assumption)) (by decide) (by decide) rfl rfl ?_)) | (k_here; (with_reducible show wpAny _ _ (subscriptTail _ (PySem.Expr.Slice _ _ none _) (Value.ref _) (Value.ref _)) _ _ _); k_dflt (refine kmk_slice_lit (by first | (k_asm; done) | fail) (by first | (k_asm; done) | fail) (by first | (kmk_list; done) | fail) (by first | (kmk_part; done) | fail) (by first | (kmk_part; done) | fail) (by first | (exact slice_all _; done) | fail) ?_ (by first | (with_unfolding_all rfl; done) | fail) (by first | (kmk_pure; done) | fail) (by first | (exact refsD_fit (by assumption); done) | fail)); intro D'q9 h'q9 F'q9 N'q9 l1q9; (try k_lt l1q9); (try k_sweep)) | walk1 | (dsimp only; first | (with_reducible ((with_reducible show wpAny _ _ (exec (PySem.Stmt.For (PySem.Expr.Name _ _) (PySem.Expr.Name _ _) _ [] _) _) _ _ _); k_here; (rename Fr _ _ _ _ => lF'q9); (with_unfolding_all refine' For_turns lF'q9 ?_; k_whole))) | (with_reducible (k_here; (with_reducible show wpAny _ _ (compareOp CmpOp.Gt (Value.ref _) (Value.ref _)) _ _ _); k_dflt (refine gt_tup3 (News.isTup (by k_asm) (by k_mem)) (News.isTup (by k_asm) (by k_mem)) (by first | assumption | (simp only [Around.deeper]; omega)) ?_))) | (with_reducible ((with_reducible show wpAny _ _ (newTuple _) _ _ _); k_here; k_dflt (refine newTuple_E (by first | (k_asm; done) | fail) (by first | (k_asm; done) | fail) (by first | (assumption; done) | fail) (by first | (kmk_size; done) | fail) ?_); intro D'q9 h'q9 F'q9 N'q9 x'q9 l1q9; (try k_lt l1q9); (try k_sweep))) | (with_reducible (k_here; (with_reducible show wpAny _ _ (subscriptTail _ _ (Value.ref _) (Value.int _ _)) _ _ _); k_dflt (refine item_tuple (tup_of (by k_asm) (by assumption)) (by decide) (by decide) rfl rfl ?_))) | (with_reducible (k_here; (with_reducible show wpAny _ _ (subscriptTail _ (PySem.Expr.Slice _ _ none _) (Value.ref _) (Value.ref _)) _ _ _); k_dflt (refine kmk_slice_lit (by first | (k_asm; done) | fail) (by first | (k_asm; done) | fail) (by first | (kmk_list; done) | fail) (by first | (kmk_part; done) | fail) (by first | (kmk_part; done) | fail) (by first | (exact slice_all _; done) | fail) ?_ (by first | (with_unfolding_all rfl; done) | fail) (by first | (kmk_pure; done) | fail) (by first | (exact refsD_fit (by assumption); done) | fail)); intro D'q9 h'q9 F'q9 N'q9 l1q9; (try k_lt l1q9); (try k_sweep))) | ((with_reducible show wpAny _ _ (exec (PySem.Stmt.For (PySem.Expr.Name _ _) (PySem.Expr.Name _ _) _ [] _) _) _ _ _); k_here; (rename Fr _ _ _ _ => lF'q9); (with_unfolding_all refine' For_turns lF'q9 ?_; k_whole)) | (k_here; (with_reducible show wpAny _ _ (compareOp CmpOp.Gt (Value.ref _) (Value.ref _)) _ _ _); k_dflt (refine gt_tup3 (News.isTup (by k_asm) (by k_mem)) (News.isTup (by k_asm) (by k_mem)) (by first | assumption | (simp only [Around.deeper]; omega)) ?_)) | ((with_reducible show wpAny _ _ (newTuple _) _ _ _); k_here; k_dflt (refine newTuple_E (by first | (k_asm; done) | fail) (by first | (k_asm; done) | fail) (by first | (assumption; done) | fail) (by first | (kmk_size; done) | fail) ?_); intro D'q9 h'q9 F'q9 N'q9 x'q9 l1q9; (try k_lt l1q9); (try k_sweep)) | (k_here; (with_reducible show wpAny _ _ (subscriptTail _ _ (Value.ref _) (Value.int _ _)) _ _ _); k_dflt (refine item_tuple (tup_of (by k_asm) (by assumption)) (by decide) (by decide) rfl rfl ?_)) | (k_here; (with_reducible show wpAny _ _ (subscriptTail _ (PySem.Expr.Slice _ _ none _) (Value.ref _) (Value.ref _)) _ _ _); k_dflt (refine kmk_slice_lit (by first | (k_asm; done) | fail) (by first | (k_asm; done) | fail) (by first | (kmk_list; done) | fail) (by first | (kmk_part; done) | fail) (by first | (kmk_part; done) | fail) (by first | (exact slice_all _; done) | fail) ?_ (by first | (with_unfolding_all rfl; done) | fail) (by first | (kmk_pure; done) | fail) (by first | (exact refsD_fit (by assumption); done) | fail)); intro D'q9 h'q9 F'q9 N'q9 l1q9; (try k_lt l1q9); (try k_sweep)) | walk1) | (leave1; try dsimp only))
    rename Fr _ _ _ _ => F2
    refine' assign_compLF F2 (fun v => decide (∃ q ∈ ds, v = .ref q.1 ∧ d.rank < q.2.rank)) (fun _ _ => True) ?k1 ?k2 ?k3 ?k4 ?k5 ?k6 ?k7 ?k8 ?k9 ?k10 ?_
    (case k1 => exact rfl); (case k2 => exact rfl); (case k3 => exact rfl); (case k4 => decide); (case k5 => exact rfl); (case k6 => decide); (case k7 => exact rfl); (case k8 => exact rfl); (case k9 => exact rfl); (case k10 => (intro _; rfl))
    repeat' (first | (k_unfold; (try dsimp only)) | (k_end; wrow_close) | (with_reducible ((with_reducible show wpAny _ _ (exec (PySem.Stmt.For (PySem.Expr.Name _ _) (PySem.Expr.Name _ _) _ [] _) _) _ _ _); k_here; (rename Fr _ _ _ _ => lF'q9); (with_unfolding_all refine' For_turns lF'q9 ?_; k_whole))) | (with_reducible (k_here; (with_reducible show wpAny _ _ (compareOp CmpOp.Gt (Value.ref _) (Value.ref _)) _ _ _); k_dflt (refine gt_tup3 (News.isTup (by k_asm) (by k_mem)) (News.isTup (by k_asm) (by k_mem)) (by first | assumption | (simp only [Around.deeper]; omega)) ?_))) | (with_reducible ((with_reducible show wpAny _ _ (newTuple _) _ _ _); k_here; k_dflt (refine newTuple_E (by first | (k_asm; done) | fail) (by first | (k_asm; done) | fail) (by first | (assumption; done) | fail) (by first | (kmk_size; done) | fail) ?_); intro D'q9 h'q9 F'q9 N'q9 x'q9 l1q9; (try k_lt l1q9); (try k_sweep))) | (with_reducible (k_here; (with_reducible show wpAny _ _ (subscriptTail _ _ (Value.ref _) (Value.int _ _)) _ _ _); k_dflt (refine item_tuple (tup_of (by k_asm) (by assumption)) (by decide) (by decide) rfl rfl ?_))) | (with_reducible (k_here; (with_reducible show wpAny _ _ (subscriptTail _ (PySem.Expr.Slice _ _ none _) (Value.ref _) (Value.ref _)) _ _ _); k_dflt (refine kmk_slice_lit (by first | (k_asm; done) | fail) (by first | (k_asm; done) | fail) (by first | (kmk_list; done) | fail) (by first | (kmk_part; done) | fail) (by first | (kmk_part; done) | fail) (by first | (exact slice_all _; done) | fail) ?_ (by first | (with_unfolding_all rfl; done) | fail) (by first | (kmk_pure; done) | fail) (by first | (exact refsD_fit (by assumption); done) | fail)); intro D'q9 h'q9 F'q9 N'q9 l1q9; (try k_lt l1q9); (try k_sweep))) | ((with_reducible show wpAny _ _ (exec (PySem.Stmt.For (PySem.Expr.Name _ _) (PySem.Expr.Name _ _) _ [] _) _) _ _ _); k_here; (rename Fr _ _ _ _ => lF'q9); (with_unfolding_all refine' For_turns lF'q9 ?_; k_whole)) | (k_here; (with_reducible show wpAny _ _ (compareOp CmpOp.Gt (Value.ref _) (Value.ref _)) _ _ _); k_dflt (refine gt_tup3 (News.isTup (by k_asm) (by k_mem)) (News.isTup (by k_asm) (by k_mem)) (by first | assumption | (simp only [Around.deeper]; omega)) ?_)) | ((with_reducible show wpAny _ _ (newTuple _) _ _ _); k_here; k_dflt (refine newTuple_E (by first | (k_asm; done) | fail) (by first | (k_asm; done) | fail) (by first | (assumption; done) | fail) (by first | (kmk_size; done) | fail) ?_); intro D'q9 h'q9 F'q9 N'q9 x'q9 l1q9; (try k_lt l1q9); (try k_sweep)) | (k_here; (with_reducible show wpAny _ _ (subscriptTail _ _ (Value.ref _) (Value.int _ _)) _ _ _); k_dflt (refine item_tuple (tup_of (by k_asm) (by assumption)) (by decide) (by decide) rfl rfl ?_)) | (k_here; (with_reducible show wpAny _ _ (subscriptTail _ (PySem.Expr.Slice _ _ none _) (Value.ref _) (Value.ref _)) _ _ _); k_dflt (refine kmk_slice_lit (by first | (k_asm; done) | fail) (by first | (k_asm; done) | fail) (by first | (kmk_list; done) | fail) (by first | (kmk_part; done) | fail) (by first | (kmk_part; done) | fail) (by first | (exact slice_all _; done) | fail) ?_ (by first | (with_unfolding_all rfl; done) | fail) (by first | (kmk_pure; done) | fail) (by first | (exact refsD_fit (by assumption); done) | fail)); intro D'q9 h'q9 F'q9 N'q9 l1q9; (try k_lt l1q9); (try k_sweep)) | walk1 | (dsimp only; first | (with_reducible ((with_reducible show wpAny _ _ (exec (PySem.Stmt.For (PySem.Expr.Name _ _) (PySem.Expr.Name _ _) _ [] _) _) _ _ _); k_here; (rename Fr _ _ _ _ => lF'q9); (with_unfolding_all refine' For_turns lF'q9 ?_; k_whole))) | (with_reducible (k_here; (with_reducible show wpAny _ _ (compareOp CmpOp.Gt (Value.ref _) (Value.ref _)) _ _ _); k_dflt (refine gt_tup3 (News.isTup (by k_asm) (by k_mem)) (News.isTup (by k_asm) (by k_mem)) (by first | assumption | (simp only [Around.deeper]; omega)) ?_))) | (with_reducible ((with_reducible show wpAny _ _ (newTuple _) _ _ _); k_here; k_dflt (refine newTuple_E (by first | (k_asm; done) | fail) (by first | (k_asm; done) | fail) (by first | (assumption; done) | fail) (by first | (kmk_size; done) | fail) ?_); intro D'q9 h'q9 F'q9 N'q9 x'q9 l1q9; (try k_lt l1q9); (try k_sweep))) | (with_reducible (k_here; (with_reducible show wpAny _ _ (subscriptTail _ _ (Value.ref _) (Value.int _ _)) _ _ _); k_dflt (refine item_tuple (tup_of (by k_asm) (by assumption)) (by decide) (by decide) rfl rfl ?_))) | (with_reducible (k_here; (with_reducible show wpAny _ _ (subscriptTail _ (PySem.Expr.Slice _ _ none _) (Value.ref _) (Value.ref _)) _ _ _); k_dflt (refine kmk_slice_lit (by first | (k_asm; done) | fail) (by first | (k_asm; done) | fail) (by first | (kmk_list; done) | fail) (by first | (kmk_part; done) | fail) (by first | (kmk_part; done) | fail) (by first | (exact slice_all _; done) | fail) ?_ (by first | (with_unfolding_all rfl; done) | fail) (by first | (kmk_pure; done) | fail) (by first | (exact refsD_fit (by assumption); done) | fail)); intro D'q9 h'q9 F'q9 N'q9 l1q9; (try k_lt l1q9); (try k_sweep))) | ((with_reducible show wpAny _ _ (exec (PySem.Stmt.For (PySem.Expr.Name _ _) (PySem.Expr.Name _ _) _ [] _) _) _ _ _); k_here; (rename Fr _ _ _ _ => lF'q9); (with_unfolding_all refine' For_turns lF'q9 ?_; k_whole)) | (k_here; (with_reducible show wpAny _ _ (compareOp CmpOp.Gt (Value.ref _) (Value.ref _)) _ _ _); k_dflt (refine gt_tup3 (News.isTup (by k_asm) (by k_mem)) (News.isTup (by k_asm) (by k_mem)) (by first | assumption | (simp only [Around.deeper]; omega)) ?_)) | ((with_reducible show wpAny _ _ (newTuple _) _ _ _); k_here; k_dflt (refine newTuple_E (by first | (k_asm; done) | fail) (by first | (k_asm; done) | fail) (by first | (assumption; done) | fail) (by first | (kmk_size; done) | fail) ?_); intro D'q9 h'q9 F'q9 N'q9 x'q9 l1q9; (try k_lt l1q9); (try k_sweep)) | (k_here; (with_reducible show wpAny _ _ (subscriptTail _ _ (Value.ref _) (Value.int _ _)) _ _ _); k_dflt (refine item_tuple (tup_of (by k_asm) (by assumption)) (by decide) (by decide) rfl rfl ?_)) | (k_here; (with_reducible show wpAny _ _ (subscriptTail _ (PySem.Expr.Slice _ _ none _) (Value.ref _) (Value.ref _)) _ _ _); k_dflt (refine kmk_slice_lit (by first | (k_asm; done) | fail) (by first | (k_asm; done) | fail) (by first | (kmk_list; done) | fail) (by first | (kmk_part; done) | fail) (by first | (kmk_part; done) | fail) (by first | (exact slice_all _; done) | fail) ?_ (by first | (with_unfolding_all rfl; done) | fail) (by first | (kmk_pure; done) | fail) (by first | (exact refsD_fit (by assumption); done) | fail)); intro D'q9 h'q9 F'q9 N'q9 l1q9; (try k_lt l1q9); (try k_sweep)) | walk1) | (leave1; try dsimp only) | fail "no step")
    rename Fr _ _ _ _ => F2
    rename News _ _ _ _ => N2
    rename_i oD2 dD2 _
    refine ⟨dl, refsD ds, _, _, rfl, ⟨_, (N2 (dl, listOf (refsD ds).toArray n) (by k_mem)).1, rfl, n, rfl⟩, by simp [refsD]; omega, F2, N2, ⟨?_, ?_⟩, ?_⟩
    · intro C v s₃ m₃ E' hv hn hm ex hC
      obtain ⟨q, hq, rfl⟩ : ∃ q ∈ ds, v = .ref q.1 := by
        simp only [refsD, List.mem_map] at hv
        obtain ⟨q, h1, h2⟩ := hv
        exact ⟨q, h1, h2.symm⟩
      obtain ⟨t1, t2, t3, t4, T1⟩ := (hds' q hq).1
      obtain ⟨u1, u2, u3, u4, T2⟩ := hda
      refine wpAny_tests_one ?_
      have F3 := F2.keeps ex
      have N3 := N2.grown ex
      have x3 : Ext s₃.heap s₃.heap := fun _ _ e => e
      repeat' (first | (k_unfold; (try dsimp only)) | (k_end; wrow_close) | (with_reducible ((with_reducible show wpAny _ _ (exec (PySem.Stmt.For (PySem.Expr.Name _ _) (PySem.Expr.Name _ _) _ [] _) _) _ _ _); k_here; (rename Fr _ _ _ _ => lF'q9); (with_unfolding_all refine' For_turns lF'q9 ?_; k_whole))) | (with_reducible (k_here; (with_reducible show wpAny _ _ (compareOp CmpOp.Gt (Value.ref _) (Value.ref _)) _ _ _); k_dflt (refine gt_tup3 (News.isTup (by k_asm) (by k_mem)) (News.isTup (by k_asm) (by k_mem)) (by first | assumption | (simp only [Around.deeper]; omega)) ?_))) | (with_reducible ((with_reducible show wpAny _ _ (newTuple _) _ _ _); k_here; k_dflt (refine newTuple_E (by first | (k_asm; done) | fail) (by first | (k_asm; done) | fail) (by first | (assumption; done) | fail) (by first | (kmk_size; done) | fail) ?_); intro D'q9 h'q9 F'q9 N'q9 x'q9 l1q9; (try k_lt l1q9); (try k_sweep))) | (with_reducible (k_here; (with_reducible show wpAny _ _ (subscriptTail _ _ (Value.ref _) (Value.int _ _)) _ _ _); k_dflt (refine item_tuple (tup_of (by k_asm) (by assumption)) (by decide) (by decide) rfl rfl ?_))) | (with_reducible (k_here; (with_reducible show wpAny _ _ (subscriptTail _ (PySem.Expr.Slice _ _ none _) (Value.ref _) (Value.ref _)) _ _ _); k_dflt (refine kmk_slice_lit (by first | (k_asm; done) | fail) (by first | (k_asm; done) | fail) (by first | (kmk_list; done) | fail) (by first | (kmk_part; done) | fail) (by first | (kmk_part; done) | fail) (by first | (exact slice_all _; done) | fail) ?_ (by first | (with_unfolding_all rfl; done) | fail) (by first | (kmk_pure; done) | fail) (by first | (exact refsD_fit (by assumption); done) | fail)); intro D'q9 h'q9 F'q9 N'q9 l1q9; (try k_lt l1q9); (try k_sweep))) | ((with_reducible show wpAny _ _ (exec (PySem.Stmt.For (PySem.Expr.Name _ _) (PySem.Expr.Name _ _) _ [] _) _) _ _ _); k_here; (rename Fr _ _ _ _ => lF'q9); (with_unfolding_all refine' For_turns lF'q9 ?_; k_whole)) | (k_here; (with_reducible show wpAny _ _ (compareOp CmpOp.Gt (Value.ref _) (Value.ref _)) _ _ _); k_dflt (refine gt_tup3 (News.isTup (by k_asm) (by k_mem)) (News.isTup (by k_asm) (by k_mem)) (by first | assumption | (simp only [Around.deeper]; omega)) ?_)) | ((with_reducible show wpAny _ _ (newTuple _) _ _ _); k_here; k_dflt (refine newTuple_E (by first | (k_asm; done) | fail) (by first | (k_asm; done) | fail) (by first | (assumption; done) | fail) (by first | (kmk_size; done) | fail) ?_); intro D'q9 h'q9 F'q9 N'q9 x'q9 l1q9; (try k_lt l1q9); (try k_sweep)) | (k_here; (with_reducible show wpAny _ _ (subscriptTail _ _ (Value.ref _) (Value.int _ _)) _ _ _); k_dflt (refine item_tuple (tup_of (by k_asm) (by assumption)) (by decide) (by decide) rfl rfl ?_)) | (k_here; (with_reducible show wpAny _ _ (subscriptTail _ (PySem.Expr.Slice _ _ none _) (Value.ref _) (Value.ref _)) _ _ _); k_dflt (refine kmk_slice_lit (by first | (k_asm; done) | fail) (by first | (k_asm; done) | fail) (by first | (kmk_list; done) | fail) (by first | (kmk_part; done) | fail) (by first | (kmk_part; done) | fail) (by first | (exact slice_all _; done) | fail) ?_ (by first | (with_unfolding_all rfl; done) | fail) (by first | (kmk_pure; done) | fail) (by first | (exact refsD_fit (by assumption); done) | fail)); intro D'q9 h'q9 F'q9 N'q9 l1q9; (try k_lt l1q9); (try k_sweep)) | walk1 | (dsimp only; first | (with_reducible ((with_reducible show wpAny _ _ (exec (PySem.Stmt.For (PySem.Expr.Name _ _) (PySem.Expr.Name _ _) _ [] _) _) _ _ _); k_here; (rename Fr _ _ _ _ => lF'q9); (with_unfolding_all refine' For_turns lF'q9 ?_; k_whole))) | (with_reducible (k_here; (with_reducible show wpAny _ _ (compareOp CmpOp.Gt (Value.ref _) (Value.ref _)) _ _ _); k_dflt (refine gt_tup3 (News.isTup (by k_asm) (by k_mem)) (News.isTup (by k_asm) (by k_mem)) (by first | assumption | (simp only [Around.deeper]; omega)) ?_))) | (with_reducible ((with_reducible show wpAny _ _ (newTuple _) _ _ _); k_here; k_dflt (refine newTuple_E (by first | (k_asm; done) | fail) (by first | (k_asm; done) | fail) (by first | (assumption; done) | fail) (by first | (kmk_size; done) | fail) ?_); intro D'q9 h'q9 F'q9 N'q9 x'q9 l1q9; (try k_lt l1q9); (try k_sweep))) | (with_reducible (k_here; (with_reducible show wpAny _ _ (subscriptTail _ _ (Value.ref _) (Value.int _ _)) _ _ _); k_dflt (refine item_tuple (tup_of (by k_asm) (by assumption)) (by decide) (by decide) rfl rfl ?_))) | (with_reducible (k_here; (with_reducible show wpAny _ _ (subscriptTail _ (PySem.Expr.Slice _ _ none _) (Value.ref _) (Value.ref _)) _ _ _); k_dflt (refine kmk_slice_lit (by first | (k_asm; done) | fail) (by first | (k_asm; done) | fail) (by first | (kmk_list; done) | fail) (by first | (kmk_part; done) | fail) (by first | (kmk_part; done) | fail) (by first | (exact slice_all _; done) | fail) ?_ (by first | (with_unfolding_all rfl; done) | fail) (by first | (kmk_pure; done) | fail) (by first | (exact refsD_fit (by assumption); done) | fail)); intro D'q9 h'q9 F'q9 N'q9 l1q9; (try k_lt l1q9); (try k_sweep))) | ((with_reducible show wpAny _ _ (exec (PySem.Stmt.For (PySem.Expr.Name _ _) (PySem.Expr.Name _ _) _ [] _) _) _ _ _); k_here; (rename Fr _ _ _ _ => lF'q9); (with_unfolding_all refine' For_turns lF'q9 ?_; k_whole)) | (k_here; (with_reducible show wpAny _ _ (compareOp CmpOp.Gt (Value.ref _) (Value.ref _)) _ _ _); k_dflt (refine gt_tup3 (News.isTup (by k_asm) (by k_mem)) (News.isTup (by k_asm) (by k_mem)) (by first | assumption | (simp only [Around.deeper]; omega)) ?_)) | ((with_reducible show wpAny _ _ (newTuple _) _ _ _); k_here; k_dflt (refine newTuple_E (by first | (k_asm; done) | fail) (by first | (k_asm; done) | fail) (by first | (assumption; done) | fail) (by first | (kmk_size; done) | fail) ?_); intro D'q9 h'q9 F'q9 N'q9 x'q9 l1q9; (try k_lt l1q9); (try k_sweep)) | (k_here; (with_reducible show wpAny _ _ (subscriptTail _ _ (Value.ref _) (Value.int _ _)) _ _ _); k_dflt (refine item_tuple (tup_of (by k_asm) (by assumption)) (by decide) (by decide) rfl rfl ?_)) | (k_here; (with_reducible show wpAny _ _ (subscriptTail _ (PySem.Expr.Slice _ _ none _) (Value.ref _) (Value.ref _)) _ _ _); k_dflt (refine kmk_slice_lit (by first | (k_asm; done) | fail) (by first | (k_asm; done) | fail) (by first | (kmk_list; done) | fail) (by first | (kmk_part; done) | fail) (by first | (kmk_part; done) | fail) (by first | (exact slice_all _; done) | fail) ?_ (by first | (with_unfolding_all rfl; done) | fail) (by first | (kmk_pure; done) | fail) (by first | (exact refsD_fit (by assumption); done) | fail)); intro D'q9 h'q9 F'q9 N'q9 l1q9; (try k_lt l1q9); (try k_sweep)) | walk1) | (leave1; try dsimp only) | fail "no step")
      · refine (lex_rank (hds' q hq).2 hok).trans ?_
        congr 1
        apply propext
        refine ⟨fun hh => ⟨q, hq, rfl, hh⟩, ?_⟩
        rintro ⟨q', hq', e, hh⟩
        have e' : q.1 = q'.1 := Value.ref.inj e
        have := DeedAt.eq (hds' q hq).1 (e' ▸ (hds' q' hq').1)
        rw [this]
        exact hh
      · exact ⟨_, _, rfl, by assumption⟩
    · intro C v s₃ m₃ E' hv hp hn hm ex hC
      exact wpAny_Name (wpAny_loadName_local rfl rfl hn hm ⟨trivial, s₃.heap, s₃.toks, rfl, fun _ _ e => e⟩)
    · intro D h' tk' ys k' F3 N3 hne hD hpair
      have hsz : ys.size = laterN ds d := by
        have h1 := hpair.length
        have h2 : ((refsD ds).filter fun v => decide (∃ q ∈ ds, v = .ref q.1 ∧ d.rank < q.2.rank)).length = laterN ds d := by
          rw [← List.countP_eq_length_filter]
          unfold refsD laterN
          rw [List.countP_map]
          apply List.countP_congr
          intro q hq
          simp only [Function.comp, decide_eq_true_eq]
          refine ⟨?_, fun hh => ⟨q, hq, rfl, hh⟩⟩
          rintro ⟨q', hq', e, hh⟩
          have e' : q.1 = q'.1 := Value.ref.inj e
          have := DeedAt.eq (hds' q hq).1 (e' ▸ (hds' q' hq').1)
          rw [this]
          exact hh
        rw [← h2, h1]
        simp
      have hlt' := hlt (a, d) (by rw [← hpre]; simp)
      dsimp only at hlt'
      simp only [List.mem_cons, List.not_mem_nil, or_false, forall_eq_or_imp, forall_eq] at hne
      obtain ⟨hn1, hn2, hn3, hn4⟩ := hne
      have hq1 : @Ne Nat I D := hn1
      have hq2 : @Ne Nat Bk D := hn2
      have hq3 : @Ne Nat (L + 1) D := hn3
      have hq4 : @Ne Nat dl D := hn4
      clear hpair
      dsimp only
      repeat' (first | (k_unfold; (try dsimp only)) | (k_end; wrow_close) | (with_reducible ((with_reducible show wpAny _ _ (exec (PySem.Stmt.For (PySem.Expr.Name _ _) (PySem.Expr.Name _ _) _ [] _) _) _ _ _); k_here; (rename Fr _ _ _ _ => lF'q9); (with_unfolding_all refine' For_turns lF'q9 ?_; k_whole))) | (with_reducible (k_here; (with_reducible show wpAny _ _ (compareOp CmpOp.Gt (Value.ref _) (Value.ref _)) _ _ _); k_dflt (refine gt_tup3 (News.isTup (by k_asm) (by k_mem)) (News.isTup (by k_asm) (by k_mem)) (by first | assumption | (simp only [Around.deeper]; omega)) ?_))) | (with_reducible ((with_reducible show wpAny _ _ (newTuple _) _ _ _); k_here; k_dflt (refine newTuple_E (by first | (k_asm; done) | fail) (by first | (k_asm; done) | fail) (by first | (assumption; done) | fail) (by first | (kmk_size; done) | fail) ?_); intro D'q9 h'q9 F'q9 N'q9 x'q9 l1q9; (try k_lt l1q9); (try k_sweep))) | (with_reducible (k_here; (with_reducible show wpAny _ _ (subscriptTail _ _ (Value.ref _) (Value.int _ _)) _ _ _); k_dflt (refine item_tuple (tup_of (by k_asm) (by assumption)) (by decide) (by decide) rfl rfl ?_))) | (with_reducible (k_here; (with_reducible show wpAny _ _ (subscriptTail _ (PySem.Expr.Slice _ _ none _) (Value.ref _) (Value.ref _)) _ _ _); k_dflt (refine kmk_slice_lit (by first | (k_asm; done) | fail) (by first | (k_asm; done) | fail) (by first | (kmk_list; done) | fail) (by first | (kmk_part; done) | fail) (by first | (kmk_part; done) | fail) (by first | (exact slice_all _; done) | fail) ?_ (by first | (with_unfolding_all rfl; done) | fail) (by first | (kmk_pure; done) | fail) (by first | (exact refsD_fit (by assumption); done) | fail)); intro D'q9 h'q9 F'q9 N'q9 l1q9; (try k_lt l1q9); (try k_sweep))) | ((with_reducible show wpAny _ _ (exec (PySem.Stmt.For (PySem.Expr.Name _ _) (PySem.Expr.Name _ _) _ [] _) _) _ _ _); k_here; (rename Fr _ _ _ _ => lF'q9); (with_unfolding_all refine' For_turns lF'q9 ?_; k_whole)) | (k_here; (with_reducible show wpAny _ _ (compareOp CmpOp.Gt (Value.ref _) (Value.ref _)) _ _ _); k_dflt (refine gt_tup3 (News.isTup (by k_asm) (by k_mem)) (News.isTup (by k_asm) (by k_mem)) (by first | assumption | (simp only [Around.deeper]; omega)) ?_)) | ((with_reducible show wpAny _ _ (newTuple _) _ _ _); k_here; k_dflt (refine newTuple_E (by first | (k_asm; done) | fail) (by first | (k_asm; done) | fail) (by first | (assumption; done) | fail) (by first | (kmk_size; done) | fail) ?_); intro D'q9 h'q9 F'q9 N'q9 x'q9 l1q9; (try k_lt l1q9); (try k_sweep)) | (k_here; (with_reducible show wpAny _ _ (subscriptTail _ _ (Value.ref _) (Value.int _ _)) _ _ _); k_dflt (refine item_tuple (tup_of (by k_asm) (by assumption)) (by decide) (by decide) rfl rfl ?_)) | (k_here; (with_reducible show wpAny _ _ (subscriptTail _ (PySem.Expr.Slice _ _ none _) (Value.ref _) (Value.ref _)) _ _ _); k_dflt (refine kmk_slice_lit (by first | (k_asm; done) | fail) (by first | (k_asm; done) | fail) (by first | (kmk_list; done) | fail) (by first | (kmk_part; done) | fail) (by first | (kmk_part; done) | fail) (by first | (exact slice_all _; done) | fail) ?_ (by first | (with_unfolding_all rfl; done) | fail) (by first | (kmk_pure; done) | fail) (by first | (exact refsD_fit (by assumption); done) | fail)); intro D'q9 h'q9 F'q9 N'q9 l1q9; (try k_lt l1q9); (try k_sweep)) | walk1 | (dsimp only; first | (with_reducible ((with_reducible show wpAny _ _ (exec (PySem.Stmt.For (PySem.Expr.Name _ _) (PySem.Expr.Name _ _) _ [] _) _) _ _ _); k_here; (rename Fr _ _ _ _ => lF'q9); (with_unfolding_all refine' For_turns lF'q9 ?_; k_whole))) | (with_reducible (k_here; (with_reducible show wpAny _ _ (compareOp CmpOp.Gt (Value.ref _) (Value.ref _)) _ _ _); k_dflt (refine gt_tup3 (News.isTup (by k_asm) (by k_mem)) (News.isTup (by k_asm) (by k_mem)) (by first | assumption | (simp only [Around.deeper]; omega)) ?_))) | (with_reducible ((with_reducible show wpAny _ _ (newTuple _) _ _ _); k_here; k_dflt (refine newTuple_E (by first | (k_asm; done) | fail) (by first | (k_asm; done) | fail) (by first | (assumption; done) | fail) (by first | (kmk_size; done) | fail) ?_); intro D'q9 h'q9 F'q9 N'q9 x'q9 l1q9; (try k_lt l1q9); (try k_sweep))) | (with_reducible (k_here; (with_reducible show wpAny _ _ (subscriptTail _ _ (Value.ref _) (Value.int _ _)) _ _ _); k_dflt (refine item_tuple (tup_of (by k_asm) (by assumption)) (by decide) (by decide) rfl rfl ?_))) | (with_reducible (k_here; (with_reducible show wpAny _ _ (subscriptTail _ (PySem.Expr.Slice _ _ none _) (Value.ref _) (Value.ref _)) _ _ _); k_dflt (refine kmk_slice_lit (by first | (k_asm; done) | fail) (by first | (k_asm; done) | fail) (by first | (kmk_list; done) | fail) (by first | (kmk_part; done) | fail) (by first | (kmk_part; done) | fail) (by first | (exact slice_all _; done) | fail) ?_ (by first | (with_unfolding_all rfl; done) | fail) (by first | (kmk_pure; done) | fail) (by first | (exact refsD_fit (by assumption); done) | fail)); intro D'q9 h'q9 F'q9 N'q9 l1q9; (try k_lt l1q9); (try k_sweep))) | ((with_reducible show wpAny _ _ (exec (PySem.Stmt.For (PySem.Expr.Name _ _) (PySem.Expr.Name _ _) _ [] _) _) _ _ _); k_here; (rename Fr _ _ _ _ => lF'q9); (with_unfolding_all refine' For_turns lF'q9 ?_; k_whole)) | (k_here; (with_reducible show wpAny _ _ (compareOp CmpOp.Gt (Value.ref _) (Value.ref _)) _ _ _); k_dflt (refine gt_tup3 (News.isTup (by k_asm) (by k_mem)) (News.isTup (by k_asm) (by k_mem)) (by first | assumption | (simp only [Around.deeper]; omega)) ?_)) | ((with_reducible show wpAny _ _ (newTuple _) _ _ _); k_here; k_dflt (refine newTuple_E (by first | (k_asm; done) | fail) (by first | (k_asm; done) | fail) (by first | (assumption; done) | fail) (by first | (kmk_size; done) | fail) ?_); intro D'q9 h'q9 F'q9 N'q9 x'q9 l1q9; (try k_lt l1q9); (try k_sweep)) | (k_here; (with_reducible show wpAny _ _ (subscriptTail _ _ (Value.ref _) (Value.int _ _)) _ _ _); k_dflt (refine item_tuple (tup_of (by k_asm) (by assumption)) (by decide) (by decide) rfl rfl ?_)) | (k_here; (with_reducible show wpAny _ _ (subscriptTail _ (PySem.Expr.Slice _ _ none _) (Value.ref _) (Value.ref _)) _ _ _); k_dflt (refine kmk_slice_lit (by first | (k_asm; done) | fail) (by first | (k_asm; done) | fail) (by first | (kmk_list; done) | fail) (by first | (kmk_part; done) | fail) (by first | (kmk_part; done) | fail) (by first | (exact slice_all _; done) | fail) ?_ (by first | (with_unfolding_all rfl; done) | fail) (by first | (kmk_pure; done) | fail) (by first | (exact refsD_fit (by assumption); done) | fail)); intro D'q9 h'q9 F'q9 N'q9 l1q9; (try k_lt l1q9); (try k_sweep)) | walk1) | (leave1; try dsimp only) | fail "no step")
      refine' setItem_list ?F ?N ?U ?hj ?hz ?_
      (case F => k_asm)
      (case N => k_asm)
      (case U => k_updF)
      (case hj => (rw [refsD_size, fold_len]; assumption))
      (case hz => (rw [refsD_size, fold_len]; omega))
      intro h4 k4 F4 N4
      have N5 := N4
      replace N4 := News.tail' N4
      clear F3 N3 N5
      rw [refsD_set _ _ (a, d)] at N4
      repeat' (first | (k_unfold; (try dsimp only)) | (k_end; wrow_close) | (with_reducible ((with_reducible show wpAny _ _ (exec (PySem.Stmt.For (PySem.Expr.Name _ _) (PySem.Expr.Name _ _) _ [] _) _) _ _ _); k_here; (rename Fr _ _ _ _ => lF'q9); (with_unfolding_all refine' For_turns lF'q9 ?_; k_whole))) | (with_reducible (k_here; (with_reducible show wpAny _ _ (compareOp CmpOp.Gt (Value.ref _) (Value.ref _)) _ _ _); k_dflt (refine gt_tup3 (News.isTup (by k_asm) (by k_mem)) (News.isTup (by k_asm) (by k_mem)) (by first | assumption | (simp only [Around.deeper]; omega)) ?_))) | (with_reducible ((with_reducible show wpAny _ _ (newTuple _) _ _ _); k_here; k_dflt (refine newTuple_E (by first | (k_asm; done) | fail) (by first | (k_asm; done) | fail) (by first | (assumption; done) | fail) (by first | (kmk_size; done) | fail) ?_); intro D'q9 h'q9 F'q9 N'q9 x'q9 l1q9; (try k_lt l1q9); (try k_sweep))) | (with_reducible (k_here; (with_reducible show wpAny _ _ (subscriptTail _ _ (Value.ref _) (Value.int _ _)) _ _ _); k_dflt (refine item_tuple (tup_of (by k_asm) (by assumption)) (by decide) (by decide) rfl rfl ?_))) | (with_reducible (k_here; (with_reducible show wpAny _ _ (subscriptTail _ (PySem.Expr.Slice _ _ none _) (Value.ref _) (Value.ref _)) _ _ _); k_dflt (refine kmk_slice_lit (by first | (k_asm; done) | fail) (by first | (k_asm; done) | fail) (by first | (kmk_list; done) | fail) (by first | (kmk_part; done) | fail) (by first | (kmk_part; done) | fail) (by first | (exact slice_all _; done) | fail) ?_ (by first | (with_unfolding_all rfl; done) | fail) (by first | (kmk_pure; done) | fail) (by first | (exact refsD_fit (by assumption); done) | fail)); intro D'q9 h'q9 F'q9 N'q9 l1q9; (try k_lt l1q9); (try k_sweep))) | ((with_reducible show wpAny _ _ (exec (PySem.Stmt.For (PySem.Expr.Name _ _) (PySem.Expr.Name _ _) _ [] _) _) _ _ _); k_here; (rename Fr _ _ _ _ => lF'q9); (with_unfolding_all refine' For_turns lF'q9 ?_; k_whole)) | (k_here; (with_reducible show wpAny _ _ (compareOp CmpOp.Gt (Value.ref _) (Value.ref _)) _ _ _); k_dflt (refine gt_tup3 (News.isTup (by k_asm) (by k_mem)) (News.isTup (by k_asm) (by k_mem)) (by first | assumption | (simp only [Around.deeper]; omega)) ?_)) | ((with_reducible show wpAny _ _ (newTuple _) _ _ _); k_here; k_dflt (refine newTuple_E (by first | (k_asm; done) | fail) (by first | (k_asm; done) | fail) (by first | (assumption; done) | fail) (by first | (kmk_size; done) | fail) ?_); intro D'q9 h'q9 F'q9 N'q9 x'q9 l1q9; (try k_lt l1q9); (try k_sweep)) | (k_here; (with_reducible show wpAny _ _ (subscriptTail _ _ (Value.ref _) (Value.int _ _)) _ _ _); k_dflt (refine item_tuple (tup_of (by k_asm) (by assumption)) (by decide) (by decide) rfl rfl ?_)) | (k_here; (with_reducible show wpAny _ _ (subscriptTail _ (PySem.Expr.Slice _ _ none _) (Value.ref _) (Value.ref _)) _ _ _); k_dflt (refine kmk_slice_lit (by first | (k_asm; done) | fail) (by first | (k_asm; done) | fail) (by first | (kmk_list; done) | fail) (by first | (kmk_part; done) | fail) (by first | (kmk_part; done) | fail) (by first | (exact slice_all _; done) | fail) ?_ (by first | (with_unfolding_all rfl; done) | fail) (by first | (kmk_pure; done) | fail) (by first | (exact refsD_fit (by assumption); done) | fail)); intro D'q9 h'q9 F'q9 N'q9 l1q9; (try k_lt l1q9); (try k_sweep)) | walk1 | (dsimp only; first | (with_reducible ((with_reducible show wpAny _ _ (exec (PySem.Stmt.For (PySem.Expr.Name _ _) (PySem.Expr.Name _ _) _ [] _) _) _ _ _); k_here; (rename Fr _ _ _ _ => lF'q9); (with_unfolding_all refine' For_turns lF'q9 ?_; k_whole))) | (with_reducible (k_here; (with_reducible show wpAny _ _ (compareOp CmpOp.Gt (Value.ref _) (Value.ref _)) _ _ _); k_dflt (refine gt_tup3 (News.isTup (by k_asm) (by k_mem)) (News.isTup (by k_asm) (by k_mem)) (by first | assumption | (simp only [Around.deeper]; omega)) ?_))) | (with_reducible ((with_reducible show wpAny _ _ (newTuple _) _ _ _); k_here; k_dflt (refine newTuple_E (by first | (k_asm; done) | fail) (by first | (k_asm; done) | fail) (by first | (assumption; done) | fail) (by first | (kmk_size; done) | fail) ?_); intro D'q9 h'q9 F'q9 N'q9 x'q9 l1q9; (try k_lt l1q9); (try k_sweep))) | (with_reducible (k_here; (with_reducible show wpAny _ _ (subscriptTail _ _ (Value.ref _) (Value.int _ _)) _ _ _); k_dflt (refine item_tuple (tup_of (by k_asm) (by assumption)) (by decide) (by decide) rfl rfl ?_))) | (with_reducible (k_here; (with_reducible show wpAny _ _ (subscriptTail _ (PySem.Expr.Slice _ _ none _) (Value.ref _) (Value.ref _)) _ _ _); k_dflt (refine kmk_slice_lit (by first | (k_asm; done) | fail) (by first | (k_asm; done) | fail) (by first | (kmk_list; done) | fail) (by first | (kmk_part; done) | fail) (by first | (kmk_part; done) | fail) (by first | (exact slice_all _; done) | fail) ?_ (by first | (with_unfolding_all rfl; done) | fail) (by first | (kmk_pure; done) | fail) (by first | (exact refsD_fit (by assumption); done) | fail)); intro D'q9 h'q9 F'q9 N'q9 l1q9; (try k_lt l1q9); (try k_sweep))) | ((with_reducible show wpAny _ _ (exec (PySem.Stmt.For (PySem.Expr.Name _ _) (PySem.Expr.Name _ _) _ [] _) _) _ _ _); k_here; (rename Fr _ _ _ _ => lF'q9); (with_unfolding_all refine' For_turns lF'q9 ?_; k_whole)) | (k_here; (with_reducible show wpAny _ _ (compareOp CmpOp.Gt (Value.ref _) (Value.ref _)) _ _ _); k_dflt (refine gt_tup3 (News.isTup (by k_asm) (by k_mem)) (News.isTup (by k_asm) (by k_mem)) (by first | assumption | (simp only [Around.deeper]; omega)) ?_)) | ((with_reducible show wpAny _ _ (newTuple _) _ _ _); k_here; k_dflt (refine newTuple_E (by first | (k_asm; done) | fail) (by first | (k_asm; done) | fail) (by first | (assumption; done) | fail) (by first | (kmk_size; done) | fail) ?_); intro D'q9 h'q9 F'q9 N'q9 x'q9 l1q9; (try k_lt l1q9); (try k_sweep)) | (k_here; (with_reducible show wpAny _ _ (subscriptTail _ _ (Value.ref _) (Value.int _ _)) _ _ _); k_dflt (refine item_tuple (tup_of (by k_asm) (by assumption)) (by decide) (by decide) rfl rfl ?_)) | (k_here; (with_reducible show wpAny _ _ (subscriptTail _ (PySem.Expr.Slice _ _ none _) (Value.ref _) (Value.ref _)) _ _ _); k_dflt (refine kmk_slice_lit (by first | (k_asm; done) | fail) (by first | (k_asm; done) | fail) (by first | (kmk_list; done) | fail) (by first | (kmk_part; done) | fail) (by first | (kmk_part; done) | fail) (by first | (exact slice_all _; done) | fail) ?_ (by first | (with_unfolding_all rfl; done) | fail) (by first | (kmk_pure; done) | fail) (by first | (exact refsD_fit (by assumption); done) | fail)); intro D'q9 h'q9 F'q9 N'q9 l1q9; (try k_lt l1q9); (try k_sweep)) | walk1) | (leave1; try dsimp only) | fail "no step")
      rename _ = Data.cell _ => dz
      refine IH _ _ ⟨pre ++ [(a, d)], _, k4, ?_, by simpa using hpre, ⟨_, dz⟩, rfl, rfl⟩
      rw [List.foldl_append]
      rfl
end
end Mine

end
section
-- PM1
open PySem PySem.W PySem.Spec PySem.Calls PyProof.Rows
set_option Elab.async false
set_option maxRecDepth 100000
set_option maxHeartbeats 2000000
namespace Mine
/-- a bit of a number -/
noncomputable def bitI (m p : Int) : Int := (m.fdiv (2 ^ p.toNat)).fmod 2
theorem bitI_nat (m : Nat) (p : Nat) : bitI (m : Int) (p : Int) = if m.testBit p then 1 else 0 := by
  unfold bitI
  rw [Int.toNat_natCast]
  have h1 : ((2 : Int) ^ p) = ((2 ^ p : Nat) : Int) := by push_cast; rfl
  rw [h1, ← Int.ofNat_fdiv, Int.fmod_eq_emod_of_nonneg _ (by decide)]
  rw [Nat.testBit_eq_decide_div_mod_eq]
  generalize m / 2 ^ p = z
  have := Nat.mod_two_eq_zero_or_one z
  rcases this with h | h <;> simp [h] <;> omega
theorem two_parts {x a b : Nat} (h1 : x / 2 = a) (h2 : x % 2 = b) : x = 2 * a + b := by rw [← h1, ← h2]; exact (Nat.div_add_mod x 2).symm
theorem add_parts {a b c d p q r t : Nat} (h : a + b = c + d) (e : p + q = r + t) : (2 * a + p) + (2 * b + q) = (2 * c + r) + (2 * d + t) := by
  rw [Nat.add_add_add_comm, Nat.add_add_add_comm (2 * c), ← Nat.mul_add, ← Nat.mul_add, h, e]
theorem low_bit (x : Nat) : ∃ b : Bool, x % 2 = b.toNat ∧ x.testBit 0 = b := by
  refine ⟨x.testBit 0, ?_, rfl⟩
  rw [Nat.testBit_zero]
  rcases Nat.mod_two_eq_zero_or_one x with h | h <;> rw [h] <;> rfl
theorem or_and_nat : ∀ (n x y : Nat), x < n → (x ||| y) + (x &&& y) = x + y
  | 0, _, _, h => absurd h (Nat.not_lt_zero _)
  | n + 1, x, y, h => by
    rcases Nat.eq_zero_or_pos x with rfl | hx
    · simp
    · have ih := or_and_nat n (x / 2) (y / 2) (Nat.lt_of_lt_of_le (Nat.div_lt_self hx (by decide)) (Nat.le_of_lt_succ h))
      obtain ⟨a, ea, ta⟩ := low_bit x
      obtain ⟨b, eb, tb⟩ := low_bit y
      obtain ⟨c, ec, tc⟩ := low_bit (x ||| y)
      obtain ⟨d, ed, td⟩ := low_bit (x &&& y)
      rw [Nat.testBit_or, ta, tb] at tc
      rw [Nat.testBit_and, ta, tb] at td
      rw [two_parts Nat.or_div_two ec, two_parts Nat.and_div_two ed]
      conv => rhs; rw [two_parts (x := x) rfl ea, two_parts (x := y) rfl eb]
      refine add_parts ih ?_
      rw [← tc, ← td]
      cases a <;> cases b <;> rfl
theorem xor_and_nat : ∀ (n x y : Nat), x < n → (x ^^^ y) + (x &&& y) = (x ||| y)
  | 0, _, _, h => absurd h (Nat.not_lt_zero _)
  | n + 1, x, y, h => by
    rcases Nat.eq_zero_or_pos x with rfl | hx
    · simp
    · have ih := xor_and_nat n (x / 2) (y / 2) (Nat.lt_of_lt_of_le (Nat.div_lt_self hx (by decide)) (Nat.le_of_lt_succ h))
      obtain ⟨a, _, ta⟩ := low_bit x
      obtain ⟨b, _, tb⟩ := low_bit y
      obtain ⟨c, ec, tc⟩ := low_bit (x ||| y)
      obtain ⟨d, ed, td⟩ := low_bit (x &&& y)
      obtain ⟨e, ee, te⟩ := low_bit (x ^^^ y)
      rw [Nat.testBit_or, ta, tb] at tc
      rw [Nat.testBit_and, ta, tb] at td
      rw [Nat.testBit_xor, ta, tb] at te
      rw [two_parts Nat.or_div_two ec, two_parts Nat.and_div_two ed, two_parts Nat.xor_div_two ee]
      refine (add_parts (d := 0) (t := 0) ih ?_)
      rw [← tc, ← td, ← te]
      cases a <;> cases b <;> rfl
theorem and_nat (x y : Nat) : Builtin.bitAnd (x : Int) (y : Int) = ((x &&& y : Nat) : Int) := by
  rw [bitAnd_pp (Int.natCast_nonneg _) (Int.natCast_nonneg _)]
  simp
theorem or_nat (x y : Nat) : Builtin.bitOr (x : Int) (y : Int) = ((x ||| y : Nat) : Int) := by
  rw [bitOr_and, and_nat]
  have := or_and_nat (x + 1) x y (Nat.lt_succ_self _)
  omega
theorem xor_nat (x y : Nat) : Builtin.bitXor (x : Int) (y : Int) = ((x ^^^ y : Nat) : Int) := by
  unfold Builtin.bitXor
  rw [or_nat, and_nat]
  have := xor_and_nat (x + 1) x y (Nat.lt_succ_self _)
  omega
end Mine

end
section
-- PM2
open PySem PySem.W PySem.Spec PySem.Calls PyProof.Rows
set_option Elab.async false
set_option maxRecDepth 100000
set_option maxHeartbeats 4000000
namespace Mine
theorem and4095 (m : Nat) : m &&& 4095 = m % 4096 := by
  have := Nat.and_two_pow_sub_one_eq_mod m 12
  simpa using this
theorem and65535 (m : Nat) : m &&& 65535 = m % 65536 := by
  have := Nat.and_two_pow_sub_one_eq_mod m 16
  simpa using this
theorem and61440 (m : Nat) : m &&& 61440 = m % 65536 - m % 4096 := by
  have h1 := or_and_nat ((m &&& 61440) + 1) (m &&& 61440) (m &&& 4095) (by omega)
  have h2 : (m &&& 61440) ||| (m &&& 4095) = m &&& 65535 := by
    rw [← Nat.and_or_distrib_left]
    rfl
  have h3 : (m &&& 61440) &&& (m &&& 4095) = 0 := by
    have : (m &&& 61440) &&& (m &&& 4095) = m &&& (61440 &&& 4095) := by
      apply Nat.eq_of_testBit_eq
      intro i
      simp only [Nat.testBit_and]
      cases m.testBit i <;> simp
    rw [this]
    simp
  rw [h2, h3, and4095, and65535] at h1
  omega
theorem tb12 : ∀ p, p < 12 → Nat.testBit 4095 p = true ∧ Nat.testBit 61440 p = false := by decide
theorem kind_bits (x y : Nat) (h : ∀ i, i < 4 → x.testBit (i + 12) = y.testBit (i + 12)) : x / 4096 % 16 = y / 4096 % 16 := by
  apply Nat.eq_of_testBit_eq
  intro i
  have e : ∀ z : Nat, (z / 4096 % 16).testBit i = (decide (i < 4) && z.testBit (i + 12)) := by
    intro z
    have h1 := Nat.testBit_mod_two_pow (z / 4096) 4 i
    have h2 : (z / 2 ^ 12).testBit i = z.testBit (i + 12) := Nat.testBit_div_two_pow z i
    simp only [Nat.reducePow] at h1 h2
    rw [h1, h2]
  rw [e, e]
  by_cases hi : i < 4
  · rw [h i hi]
  · simp [hi]
theorem tb16 : ∀ i, i < 4 → Nat.testBit 4095 (i + 12) = false ∧ Nat.testBit 61440 (i + 12) = true := by decide
/-- the three plain kinds -/
theorem done_nat (m q : Nat) : doneV m 0 q = (((m &&& 61440) ||| (m &&& 4095)) ||| (q &&& 4095) : Nat) ∧ doneV m 1 q = ((m &&& 61440) ||| ((m &&& 4095) ^^^ ((m &&& 4095) &&& (q &&& 4095))) : Nat) ∧
    doneV m 2 q = ((m &&& 61440) ||| ((m &&& 4095) ^^^ (q &&& 4095)) : Nat) := by
  have e1 : Builtin.bitAnd (m : Int) 61440 = ((m &&& 61440 : Nat) : Int) := and_nat m 61440
  have e2 : Builtin.bitAnd (m : Int) 4095 = ((m &&& 4095 : Nat) : Int) := and_nat m 4095
  have e3 : Builtin.bitAnd (q : Int) 4095 = ((q &&& 4095 : Nat) : Int) := and_nat q 4095
  refine ⟨?_, ?_, ?_⟩
  · unfold doneV
    rw [if_pos rfl, e1, e2, e3, or_nat, or_nat]
  · unfold doneV
    rw [if_neg (by decide), if_pos rfl, e1, e2, e3, and_nat, xor_nat, or_nat]
  · unfold doneV
    rw [if_neg (by decide), if_neg (by decide), if_pos rfl, e1, e2, e3, xor_nat, or_nat]
/-- the fourth kind, in plain arithmetic -/
theorem done3 (m q : Nat) : doneV m 3 q = ((m % 65536 : Nat) : Int) + ((((m % 4096 / 8 ^ (q % 3)) % 8 : Nat) : Int) - (((m % 4096 / 8 ^ (q / 3 % 3)) % 8 : Nat) : Int)) * ((8 ^ (q / 3 % 3) : Nat) : Int) := by
  have e1 : Builtin.bitAnd (m : Int) 61440 = ((m &&& 61440 : Nat) : Int) := and_nat m 61440
  have e2 : Builtin.bitAnd (m : Int) 4095 = ((m &&& 4095 : Nat) : Int) := and_nat m 4095
  unfold doneV
  rw [if_neg (by decide), if_neg (by decide), if_neg (by decide), e1, e2, and4095, and61440]
  have g1 : ((q : Int).fmod 3).toNat = q % 3 := by rw [Int.fmod_eq_emod_of_nonneg _ (by decide)]; omega
  have g2 : (((q : Int).fdiv 3).fmod 3).toNat = q / 3 % 3 := by rw [Int.fmod_eq_emod_of_nonneg _ (by decide), Int.fdiv_eq_ediv_of_nonneg _ (by decide)]; omega
  rw [g1, g2]
  have p1 : ∀ n : Nat, ((8 : Int) ^ n) = ((8 ^ n : Nat) : Int) := fun n => by push_cast; rfl
  rw [p1, p1, ← Int.ofNat_fdiv, ← Int.ofNat_fdiv, Int.fmod_eq_emod_of_nonneg _ (by decide), Int.fmod_eq_emod_of_nonneg _ (by decide)]
  have h1 : m % 4096 ≤ m % 65536 := by omega
  rw [Int.ofNat_sub h1, show (8 : Int) = ((8 : Nat) : Int) from rfl, ← Int.natCast_emod, ← Int.natCast_emod]
  generalize (((m % 4096 / 8 ^ (q % 3) % 8 : Nat) : Int) - ((m % 4096 / 8 ^ (q / 3 % 3) % 8 : Nat) : Int)) * ((8 ^ (q / 3 % 3) : Nat) : Int) = P
  omega
noncomputable def dig (x j : Nat) : Nat := x / 8 ^ j % 8
theorem bit_dig (x j i : Nat) (hi : i < 3) : x / 2 ^ (3 * j + i) % 2 = dig x j / 2 ^ i % 2 := by
  unfold dig
  rw [Nat.pow_add, Nat.pow_mul, ← Nat.div_div_eq_div_mul]
  have : (2 : Nat) ^ 3 = 8 := rfl
  rw [this]
  generalize x / 8 ^ j = y
  match i, hi with
  | 0, _ => rw [Nat.pow_zero, Nat.div_one, Nat.div_one, Nat.mod_mod_of_dvd y (by decide : 2 ∣ 8)]
  | 1, _ => rw [Nat.pow_one, show (8 : Nat) = 2 * 4 from rfl, Nat.mod_mul_right_div_self, Nat.mod_mod_of_dvd _ (by decide : 2 ∣ 4)]
  | 2, _ => rw [show (8 : Nat) = 2 ^ 2 * 2 from rfl, Nat.mod_mul_right_div_self, Nat.mod_mod_of_dvd _ (by decide : 2 ∣ 2)]
/-- one class's three rights made those of another -/
noncomputable def vN (m g t : Nat) : Nat := m % 65536 - dig m t * 8 ^ t + dig m g * 8 ^ t
theorem dig_mod (m j : Nat) (hj : j < 4) : m % 4096 / 8 ^ j % 8 = dig m j := by
  unfold dig
  match j, hj with
  | 0, _ => rw [Nat.pow_zero, Nat.div_one, Nat.div_one, Nat.mod_mod_of_dvd m (by decide : 8 ∣ 4096)]
  | 1, _ => rw [show (4096 : Nat) = 8 ^ 1 * 512 from rfl, Nat.mod_mul_right_div_self, Nat.mod_mod_of_dvd _ (by decide : 8 ∣ 512)]
  | 2, _ => rw [show (4096 : Nat) = 8 ^ 2 * 64 from rfl, Nat.mod_mul_right_div_self, Nat.mod_mod_of_dvd _ (by decide : 8 ∣ 64)]
  | 3, _ => rw [show (4096 : Nat) = 8 ^ 3 * 8 from rfl, Nat.mod_mul_right_div_self, Nat.mod_mod_of_dvd _ (by decide : 8 ∣ 8)]
theorem dig0 (a z : Nat) (h : a < 8) : dig (a + 8 * z) 0 = a := by
  unfold dig
  rw [Nat.pow_zero, Nat.div_one, Nat.add_mul_mod_self_left, Nat.mod_eq_of_lt h]
theorem digS (a z j : Nat) (h : a < 8) : dig (a + 8 * z) (j + 1) = dig z j := by
  unfold dig
  rw [Nat.pow_succ', ← Nat.div_div_eq_div_mul, Nat.add_mul_div_left _ _ (by decide), Nat.div_eq_of_lt h, Nat.zero_add]
/-- a number by its three lowest digits -/
noncomputable def nN (a b c z : Nat) : Nat := a + 8 * (b + 8 * (c + 8 * z))
theorem nN_of (m : Nat) : m = nN (m % 8) (m / 8 % 8) (m / 8 / 8 % 8) (m / 512) := by
  unfold nN
  rw [show m / 512 = m / 8 / 8 / 8 by rw [Nat.div_div_eq_div_mul, Nat.div_div_eq_div_mul], Nat.mod_add_div, Nat.mod_add_div, Nat.mod_add_div]
theorem nN_dig {a b c z : Nat} (ha : a < 8) (hb : b < 8) (hc : c < 8) : dig (nN a b c z) 0 = a ∧ dig (nN a b c z) 1 = b ∧ dig (nN a b c z) 2 = c ∧ dig (nN a b c z) 3 = z % 8 ∧ nN a b c z / 4096 % 16 = z / 8 % 16 := by
  unfold nN
  refine ⟨dig0 _ _ ha, ?_, ?_, ?_, ?_⟩
  · rw [digS _ _ 0 ha, dig0 _ _ hb]
  · rw [digS _ _ 1 ha, digS _ _ 0 hb, dig0 _ _ hc]
  · rw [digS _ _ 2 ha, digS _ _ 1 hb, digS _ _ 0 hc]
    unfold dig
    rw [Nat.pow_zero, Nat.div_one]
  · rw [show (4096 : Nat) = 8 * (8 * (8 * 8)) from rfl, ← Nat.div_div_eq_div_mul, ← Nat.div_div_eq_div_mul, ← Nat.div_div_eq_div_mul, Nat.add_mul_div_left _ _ (by decide), Nat.div_eq_of_lt ha, Nat.zero_add, Nat.add_mul_div_left _ _ (by decide), Nat.div_eq_of_lt hb, Nat.zero_add, Nat.add_mul_div_left _ _ (by decide), Nat.div_eq_of_lt hc, Nat.zero_add]
theorem nN_mod (a b c z : Nat) (ha : a < 8) (hb : b < 8) (hc : c < 8) : nN a b c z % 65536 = nN a b c (z % 128) := by
  have h : nN a b c (z % 128) < 65536 := by
    have := Nat.mod_lt z (show 0 < 128 by decide)
    unfold nN
    generalize z % 128 = y at *
    omega
  have e : nN a b c z = nN a b c (z % 128) + 65536 * (z / 128) := by
    unfold nN
    have := Nat.mod_add_div z 128
    generalize z % 128 = y at *
    generalize z / 128 = x at *
    omega
  rw [e, Nat.add_mul_mod_self_left, Nat.mod_eq_of_lt h]
theorem int_put (X y g p : Nat) (h : y * p ≤ X) : (X : Int) + ((g : Int) - (y : Int)) * (p : Int) = ((X - y * p + g * p : Nat) : Int) := by
  rw [Int.sub_mul, Int.natCast_add, Int.natCast_sub h, Int.natCast_mul, Int.natCast_mul]
  generalize (g : Int) * p = u
  generalize (y : Int) * p = v
  omega
theorem vN_eq (m g t : Nat) (_hg : g < 3) (ht : t < 3) : (∀ j, j < 4 → dig (vN m g t) j = if j = t then dig m g else dig m j) ∧ vN m g t / 4096 % 16 = m / 4096 % 16 ∧
    ((m % 65536 : Nat) : Int) + ((dig m g : Int) - (dig m t : Int)) * ((8 ^ t : Nat) : Int) = (vN m g t : Int) := by
  have dg : dig m g < 8 := Nat.mod_lt _ (by decide)
  have ha := Nat.mod_lt m (show 0 < 8 by decide)
  have hb := Nat.mod_lt (m / 8) (show 0 < 8 by decide)
  have hc := Nat.mod_lt (m / 8 / 8) (show 0 < 8 by decide)
  have e := nN_of m
  generalize m % 8 = a at *
  generalize m / 8 % 8 = b at *
  generalize m / 8 / 8 % 8 = c at *
  generalize m / 512 = z at *
  obtain ⟨d0, d1, d2, d3, d4⟩ := nN_dig (z := z) ha hb hc
  rw [← e] at d0 d1 d2 d3 d4
  have em : m % 65536 = nN a b c (z % 128) := by rw [e, nN_mod _ _ _ _ ha hb hc]
  have y3 : z % 128 % 8 = z % 8 := Nat.mod_mod_of_dvd _ (by decide)
  have y4 : z % 128 / 8 % 16 = z / 8 % 16 := by rw [show (128 : Nat) = 8 * 16 from rfl, Nat.mod_mul_right_div_self, Nat.mod_mod]
  generalize z % 128 = y at *
  unfold vN
  rw [em]
  generalize dig m g = u at *
  have fin : ∀ a' b' c', a' < 8 → b' < 8 → c' < 8 → (if 0 = t then u else a) = a' → (if 1 = t then u else b) = b' → (if 2 = t then u else c) = c' → dig m t * 8 ^ t ≤ nN a b c y → nN a b c y - dig m t * 8 ^ t + u * 8 ^ t = nN a' b' c' y →
      (∀ j, j < 4 → dig (nN a b c y - dig m t * 8 ^ t + u * 8 ^ t) j = if j = t then u else dig m j) ∧ (nN a b c y - dig m t * 8 ^ t + u * 8 ^ t) / 4096 % 16 = m / 4096 % 16 ∧ ((nN a b c y : Nat) : Int) + ((u : Int) - (dig m t : Int)) * ((8 ^ t : Nat) : Int) = ((nN a b c y - dig m t * 8 ^ t + u * 8 ^ t : Nat) : Int) := by
    intro a' b' c' ha' hb' hc' x0 x1 x2 hle hv
    refine ⟨?_, ?_, int_put _ _ _ _ hle⟩
    · rw [hv]
      obtain ⟨k0, k1, k2, k3, -⟩ := nN_dig (z := y) ha' hb' hc'
      intro j hj
      match j, hj with
      | 0, _ => rw [k0, d0, x0]
      | 1, _ => rw [k1, d1, x1]
      | 2, _ => rw [k2, d2, x2]
      | 3, _ => rw [k3, d3, y3, if_neg (Nat.ne_of_gt ht)]
    · rw [hv, (nN_dig (z := y) ha' hb' hc').2.2.2.2, d4, y4]
  match t, ht with
  | 0, _ =>
    refine fin u b c dg hb hc rfl rfl rfl ?_ ?_ <;> rw [d0, Nat.pow_zero, Nat.mul_one]
    · exact Nat.le_add_right _ _
    · unfold nN; rw [Nat.add_sub_cancel_left, Nat.mul_one, Nat.add_comm]
  | 1, _ =>
    refine fin a u c ha dg hc rfl rfl rfl ?_ ?_ <;> rw [d1, Nat.pow_one] <;> unfold nN <;> generalize 8 * (c + 8 * y) = q <;> omega
  | 2, _ =>
    refine fin a b u ha hb dg rfl rfl rfl ?_ ?_ <;> rw [d2] <;> unfold nN <;> rw [show (8 : Nat) ^ 2 = 64 from rfl] <;> generalize 8 * y = q <;> omega
theorem four {k : Int} (hk : 0 ≤ k ∧ k < 4) : k = 0 ∨ k = 1 ∨ k = 2 ∨ k = 3 := by omega
theorem done3v (m q : Nat) : doneV m 3 q = (vN m (q % 3) (q / 3 % 3) : Int) := by
  rw [done3, dig_mod m _ (by omega), dig_mod m _ (by omega)]
  exact (vN_eq m _ _ (by omega) (by omega)).2.2
theorem bitI_dig (x j i : Nat) (hi : i < 3) : bitI (x : Int) ((3 * j + i : Nat) : Int) = ((dig x j / 2 ^ i % 2 : Nat) : Int) := by
  rw [bitI_nat, Nat.testBit_eq_decide_div_mod_eq, bit_dig x j i hi]
  have := Nat.mod_two_eq_zero_or_one (dig x j / 2 ^ i)
  rcases this with h | h <;> simp [h]
theorem done_bits (m q p : Nat) (k : Int) (hk : 0 ≤ k ∧ k < 4) (hp : p < 12) : 0 ≤ doneV m k q ∧ bitI (doneV m k q) p = (if k = 3 then (if p / 3 = q / 3 % 3 then bitI m ((q % 3 * 3 + p % 3 : Nat) : Int) else bitI m p) else if bitI q p = 1 then (if k = 0 then 1 else if k = 1 then 0 else 1 - bitI m p) else bitI m p) := by
  obtain ⟨d0, d1, d2⟩ := done_nat m q
  obtain ⟨t1, t2⟩ := tb12 p hp
  have hk' := four hk
  rcases hk' with rfl | rfl | rfl | rfl
  · rw [d0]
    refine ⟨by omega, ?_⟩
    simp only [bitI_nat]
    simp only [Nat.testBit_or, Nat.testBit_and, t1, t2]
    cases m.testBit p <;> cases q.testBit p <;> simp
  · rw [d1]
    refine ⟨by omega, ?_⟩
    simp only [bitI_nat]
    simp only [Nat.testBit_or, Nat.testBit_and, Nat.testBit_xor, t1, t2]
    cases m.testBit p <;> cases q.testBit p <;> simp
  · rw [d2]
    refine ⟨by omega, ?_⟩
    simp only [bitI_nat]
    simp only [Nat.testBit_or, Nat.testBit_and, Nat.testBit_xor, t1, t2]
    cases m.testBit p <;> cases q.testBit p <;> simp
  · rw [done3v, if_pos rfl]
    refine ⟨by omega, ?_⟩
    obtain ⟨v1, -, -⟩ := vN_eq m (q % 3) (q / 3 % 3) (by omega) (by omega)
    have ep : p = 3 * (p / 3) + p % 3 := by omega
    have e2 : q % 3 * 3 + p % 3 = 3 * (q % 3) + p % 3 := by omega
    rw [e2]
    conv => lhs; rw [ep]
    conv => rhs; rw [show bitI (m : Int) (p : Int) = bitI (m : Int) ((3 * (p / 3) + p % 3 : Nat) : Int) by rw [← ep]]
    rw [bitI_dig _ _ _ (by omega), bitI_dig _ _ _ (by omega), bitI_dig _ _ _ (by omega), v1 _ (by omega)]
    split <;> rfl
theorem done_kind (m q : Nat) (k : Int) (hk : 0 ≤ k ∧ k < 4) : ∃ v : Nat, doneV m k q = (v : Int) ∧ v / 4096 % 16 = m / 4096 % 16 := by
  obtain ⟨d0, d1, d2⟩ := done_nat m q
  have hk' := four hk
  rcases hk' with rfl | rfl | rfl | rfl
  · refine ⟨_, d0, kind_bits _ _ fun i hi => ?_⟩
    obtain ⟨t1, t2⟩ := tb16 i hi
    simp only [Nat.testBit_or, Nat.testBit_and, t1, t2]
    simp
  · refine ⟨_, d1, kind_bits _ _ fun i hi => ?_⟩
    obtain ⟨t1, t2⟩ := tb16 i hi
    simp only [Nat.testBit_or, Nat.testBit_and, Nat.testBit_xor, t1, t2]
    simp
  · refine ⟨_, d2, kind_bits _ _ fun i hi => ?_⟩
    obtain ⟨t1, t2⟩ := tb16 i hi
    simp only [Nat.testBit_or, Nat.testBit_and, Nat.testBit_xor, t1, t2]
    simp
  · exact ⟨_, done3v m q, (vN_eq m (q % 3) (q / 3 % 3) (by omega) (by omega)).2.1⟩
end Mine

end
section
-- PM3
open PySem PySem.W PySem.Spec PySem.Calls PyProof.Rows
set_option Elab.async false
set_option maxRecDepth 100000
set_option maxHeartbeats 4000000
namespace Mine
theorem doneF_append (mo : Int) (l : List (Addr × Deed)) (d : Addr × Deed) : doneF mo (l ++ [d]) = doneV (doneF mo l) d.2.k d.2.q := by
  unfold doneF
  rw [List.foldl_append]
  rfl
theorem doneF_nat (m : Nat) : ∀ (r : List (Addr × Deed)), (∀ d ∈ r, d.2.ok) → ∃ v : Nat, doneF (m : Int) r.reverse = (v : Int) ∧ v / 4096 % 16 = m / 4096 % 16
  | [], _ => ⟨m, rfl, rfl⟩
  | d :: r, h => by
    obtain ⟨v, e, k⟩ := doneF_nat m r fun x hx => h x (.tail _ hx)
    have hd := h d (.head _)
    obtain ⟨Q, hQ⟩ := Int.eq_ofNat_of_zero_le hd.2.2.2.1
    obtain ⟨v', e', k'⟩ := done_kind v Q d.2.k ⟨hd.2.1, hd.2.2.1⟩
    refine ⟨v', ?_, k'.trans k⟩
    rw [List.reverse_cons, doneF_append, e, hQ, e']
theorem par2 (x t : Int) : (x + t).fmod 2 = (x.fmod 2 + t).fmod 2 := by
  rw [Int.fmod_eq_emod_of_nonneg _ (by decide), Int.fmod_eq_emod_of_nonneg _ (by decide), Int.fmod_eq_emod_of_nonneg _ (by decide)]
  omega
/-- right by right, from the latest deed back: the bit of the mode when all deeds are done -/
theorem right_bit (m : Nat) : ∀ (r : List (Addr × Deed)), (∀ d ∈ r, d.2.ok) → ∀ (p : Nat) (t : Int), p < 12 → rightV (m : Int) r (p : Int) t = (bitI (doneF (m : Int) r.reverse) p + t).fmod 2
  | [], _, p, t, _ => by
    show (((m : Int).fdiv (2 ^ (p : Int).toNat)) + t).fmod 2 = (bitI (m : Int) p + t).fmod 2
    rw [par2]
    rfl
  | d :: r, h, p, t, hp => by
    have IH := right_bit m r fun x hx => h x (.tail _ hx)
    obtain ⟨v, e, -⟩ := doneF_nat m r fun x hx => h x (.tail _ hx)
    have hd := h d (.head _)
    obtain ⟨Q, hQ⟩ := Int.eq_ofNat_of_zero_le hd.2.2.2.1
    have hb := (done_bits v Q p d.2.k ⟨hd.2.1, hd.2.2.1⟩ hp).2
    rw [List.reverse_cons, doneF_append, e, hQ, hb]
    rw [e] at IH
    unfold rightV
    have q1 : ((Q : Int).fdiv 3).fmod 3 = ((Q / 3 % 3 : Nat) : Int) := by rw [Int.fmod_eq_emod_of_nonneg _ (by decide), Int.fdiv_eq_ediv_of_nonneg _ (by decide)]; omega
    have q2 : (Q : Int).fmod 3 * 3 + (p : Int).fmod 3 = ((Q % 3 * 3 + p % 3 : Nat) : Int) := by rw [Int.fmod_eq_emod_of_nonneg _ (by decide), Int.fmod_eq_emod_of_nonneg _ (by decide)]; omega
    have q3 : (p : Int).fdiv 3 = ((p / 3 : Nat) : Int) := by rw [Int.fdiv_eq_ediv_of_nonneg _ (by decide)]; omega
    have q4 : ((Q : Int).fdiv (2 ^ (p : Int).toNat)).fmod 2 = bitI Q p := rfl
    rw [hQ, q1, q2, q3, q4]
    have hk0 := hd.2.1
    have hk1 := hd.2.2.1
    have b1 : bitI (v : Int) (p : Int) = 0 ∨ bitI (v : Int) (p : Int) = 1 := by rw [bitI_nat]; split <;> simp
    by_cases k3 : d.2.k = 3
    · rw [if_pos k3, if_pos k3]
      by_cases h3 : p / 3 = Q / 3 % 3
      · rw [if_pos (by rw [h3]), if_pos h3]
        exact IH _ t (by omega)
      · rw [if_neg (fun e => h3 (by exact_mod_cast e)), if_neg h3]
        exact IH _ t hp
    · rw [if_neg k3, if_neg k3]
      by_cases hbq : bitI (Q : Int) (p : Int) = 1
      · rw [if_pos hbq, if_pos hbq]
        by_cases k0 : d.2.k = 0
        · rw [if_pos (by omega), if_pos k0, k0]
          rfl
        · rw [if_neg k0]
          by_cases k1 : d.2.k = 1
          · rw [if_pos (by omega), if_pos k1, k1]
            rfl
          · rw [if_neg (by omega), if_neg k1, IH p (t + 1) hp]
            rw [Int.fmod_eq_emod_of_nonneg _ (by decide), Int.fmod_eq_emod_of_nonneg _ (by decide)]
            rcases b1 with b1 | b1 <;> rw [b1] <;> omega
      · rw [if_neg hbq, if_neg hbq]
        exact IH p t hp
/-- at the start no turn is counted -/
theorem right_bit0 (m : Nat) (r : List (Addr × Deed)) (h : ∀ d ∈ r, d.2.ok) (p : Nat) (hp : p < 12) : rightV (m : Int) r (p : Int) 0 = bitI (doneF (m : Int) r.reverse) p := by
  rw [right_bit m r h p 0 hp]
  obtain ⟨v, e, -⟩ := doneF_nat m r h
  rw [e, bitI_nat]
  split <;> rfl
/-- the text: row by row -/
theorem and_bit (m p : Nat) : (Builtin.bitAnd (m : Int) ((2 ^ p : Nat) : Int) = ((2 ^ p : Nat) : Int)) ↔ bitI (m : Int) (p : Int) = 1 := by
  rw [and_nat, bitI_nat]
  have h : (m &&& 2 ^ p = 2 ^ p) ↔ m.testBit p = true := by
    constructor
    · intro e
      have : (m &&& 2 ^ p).testBit p = true := by rw [e]; exact Nat.testBit_two_pow_self
      rw [Nat.testBit_and] at this
      simpa using this
    · intro e
      apply Nat.eq_of_testBit_eq
      intro i
      rw [Nat.testBit_and, Nat.testBit_two_pow]
      by_cases hi : p = i
      · subst hi; simp [e]
      · simp [hi]
  constructor
  · intro e
    rw [if_pos (h.mp (by exact_mod_cast e))]
  · intro e
    by_cases hb : m.testBit p = true
    · rw [h.mpr hb]
    · rw [if_neg hb] at e; cases e
theorem and_bit2 (m p q : Nat) (hpq : p ≠ q) : (Builtin.bitAnd (m : Int) ((2 ^ p + 2 ^ q : Nat) : Int) = ((2 ^ p + 2 ^ q : Nat) : Int)) ↔ (bitI (m : Int) (p : Int) = 1 ∧ bitI (m : Int) (q : Int) = 1) := by
  rw [← and_bit, ← and_bit, and_nat, and_nat, and_nat]
  have e0 : (2 ^ p &&& 2 ^ q : Nat) = 0 := by
    apply Nat.eq_of_testBit_eq
    intro i
    rw [Nat.testBit_and, Nat.testBit_two_pow, Nat.testBit_two_pow, Nat.zero_testBit]
    by_cases h1 : p = i
    · subst h1; simp [Ne.symm hpq]
    · simp [h1]
  have e1 : (2 ^ p + 2 ^ q : Nat) = 2 ^ p ||| 2 ^ q := by
    have := or_and_nat (2 ^ p + 1) (2 ^ p) (2 ^ q) (by omega)
    rw [e0] at this
    omega
  rw [e1]
  constructor
  · intro e
    have e' : m &&& (2 ^ p ||| 2 ^ q) = 2 ^ p ||| 2 ^ q := by exact_mod_cast e
    have h1 : m &&& 2 ^ p = 2 ^ p := by
      apply Nat.eq_of_testBit_eq
      intro i
      have := congrArg (fun z => z.testBit i) e'
      simp only [Nat.testBit_and, Nat.testBit_or, Nat.testBit_two_pow] at this ⊢
      by_cases hi : p = i
      · subst hi; simpa using this
      · simp [hi]
    have h2 : m &&& 2 ^ q = 2 ^ q := by
      apply Nat.eq_of_testBit_eq
      intro i
      have := congrArg (fun z => z.testBit i) e'
      simp only [Nat.testBit_and, Nat.testBit_or, Nat.testBit_two_pow] at this ⊢
      by_cases hi : q = i
      · subst hi; simpa using this
      · simp [hi]
    rw [h1, h2]
    exact ⟨rfl, rfl⟩
  · rintro ⟨h1, h2⟩
    have h1' : m &&& 2 ^ p = 2 ^ p := by exact_mod_cast h1
    have h2' : m &&& 2 ^ q = 2 ^ q := by exact_mod_cast h2
    rw [Nat.and_or_distrib_left, h1', h2']
theorem bit01 (m p : Nat) : bitI (m : Int) (p : Int) = 0 ∨ bitI (m : Int) (p : Int) = 1 := by rw [bitI_nat]; split <;> simp
theorem row1 (m p : Nat) (i : Int) (hi : i ≠ 0) (a : Addr) (ch : Str) (tab : Str) (h0 : one (sgn tab 0) = ("-" : Str)) (h1 : one (sgn tab 1) = ch) : rowC (m : Int) i [(a, ((2 ^ p : Nat) : Int), ch)] = one (sgn tab (bitI m p)) := by
  unfold rowC
  rw [if_neg hi]
  rcases bit01 m p with h | h
  · rw [if_neg (fun e => by have := (and_bit m p).mp e; omega), h, h0]
    unfold rowC
    rw [if_neg hi]
  · rw [if_pos ((and_bit m p).mpr h), h, h1]
theorem row3 (m p q : Nat) (hpq : p ≠ q) (i : Int) (hi : i ≠ 0) (a b c : Addr) (c1 c2 c3 : Str) (tab : Str) (h0 : one (sgn tab 0) = ("-" : Str)) (h1 : one (sgn tab 1) = c3) (h2 : one (sgn tab 2) = c2) (h3 : one (sgn tab 3) = c1) :
    rowC (m : Int) i [(a, ((2 ^ p + 2 ^ q : Nat) : Int), c1), (b, ((2 ^ q : Nat) : Int), c2), (c, ((2 ^ p : Nat) : Int), c3)] = one (sgn tab (bitI m p + 2 * bitI m q)) := by
  unfold rowC
  rw [if_neg hi]
  rcases bit01 m p with hp | hp <;> rcases bit01 m q with hq | hq
  · rw [if_neg (fun e => by have := (and_bit2 m p q hpq).mp e; omega)]
    unfold rowC
    rw [if_neg hi, if_neg (fun e => by have := (and_bit m q).mp e; omega)]
    unfold rowC
    rw [if_neg hi, if_neg (fun e => by have := (and_bit m p).mp e; omega)]
    unfold rowC
    rw [if_neg hi, hp, hq]
    exact h0.symm
  · rw [if_neg (fun e => by have := (and_bit2 m p q hpq).mp e; omega)]
    unfold rowC
    rw [if_neg hi, if_pos ((and_bit m q).mpr hq), hp, hq]
    exact h2.symm
  · rw [if_neg (fun e => by have := (and_bit2 m p q hpq).mp e; omega)]
    unfold rowC
    rw [if_neg hi, if_neg (fun e => by have := (and_bit m q).mp e; omega)]
    unfold rowC
    rw [if_neg hi, if_pos ((and_bit m p).mpr hp), hp, hq]
    exact h1.symm
  · rw [if_pos ((and_bit2 m p q hpq).mpr ⟨hp, hq⟩), hp, hq]
    exact h3.symm
theorem row0 (m : Nat) : rowC (m : Int) 0 [(29, 40960, "l"), (30, 49152, "s"), (31, 32768, "-"), (32, 24576, "b"), (33, 16384, "d"), (34, 8192, "c"), (35, 4096, "p")] = one (sgn "?pc?d?b?-?l?s???" (((m : Int).fdiv 4096).fmod 16)) := by
  have e1 : Builtin.bitAnd (m : Int) 61440 = ((m / 4096 % 16 * 4096 : Nat) : Int) := by
    have := and_nat m 61440
    rw [and61440] at this
    refine this.trans ?_
    congr 1
    omega
  have e2 : ((m : Int).fdiv 4096).fmod 16 = ((m / 4096 % 16 : Nat) : Int) := by rw [Int.fmod_eq_emod_of_nonneg _ (by decide), Int.fdiv_eq_ediv_of_nonneg _ (by decide)]; omega
  simp only [rowC, if_true, e1, e2]
  have h : m / 4096 % 16 < 16 := by omega
  generalize m / 4096 % 16 = z at h
  have : ∀ z, z < 16 → (if ((z * 4096 : Nat) : Int) = 40960 then ("l" : Str) else if ((z * 4096 : Nat) : Int) = 49152 then "s" else if ((z * 4096 : Nat) : Int) = 32768 then "-" else if ((z * 4096 : Nat) : Int) = 24576 then "b" else if ((z * 4096 : Nat) : Int) = 16384 then "d" else if ((z * 4096 : Nat) : Int) = 8192 then "c" else if ((z * 4096 : Nat) : Int) = 4096 then "p" else "?") = one (sgn "?pc?d?b?-?l?s???" (z : Int)) := by decide +kernel
  exact this z h
end Mine

end
section
-- PM4
open PySem PySem.W PySem.Spec PySem.Calls PyProof.Rows
set_option Elab.async false
set_option maxRecDepth 100000
set_option maxHeartbeats 4000000
namespace Mine
theorem join_one (r : List Nat) : Txt.join (Str.ofString "") (r.map one) = ⟨r.toArray⟩ := by
  have e2 : ∀ (l : List Nat) (acc : Array Nat), (l.map one).foldl (fun acc p => acc ++ (Str.ofString "").cps ++ p.cps) acc = acc ++ l.toArray := by
    intro l
    induction l with
    | nil => intro acc; simp
    | cons c r ih =>
      intro acc
      rw [List.map_cons, List.foldl_cons, ih]
      have : (Str.ofString "").cps = #[] := by decide +kernel
      rw [this]
      simp
  show Builtin.Str.glued _ _ = _
  unfold Builtin.Str.glued
  cases r with
  | nil => rfl
  | cons c r =>
    simp only [List.map_cons, List.drop_succ_cons, List.drop_zero, List.headD_cons]
    rw [e2]
    simp
/-- what filemode tells is what the specification shows -/
theorem text_eq (m : Nat) : Txt.join (Str.ofString "") (fmT (m : Int) 0 fmRows) = shown12 (m : Int) (bitI m 0) (bitI m 1) (bitI m 2) (bitI m 3) (bitI m 4) (bitI m 5) (bitI m 6) (bitI m 7) (bitI m 8) (bitI m 9) (bitI m 10) (bitI m 11) := by
  have r0 := row0 m
  have r1 : rowC (m : Int) 1 [(37, 256, "r")] = one (sgn "-r" (bitI m 8)) := row1 m 8 1 (by decide) 37 "r" "-r" (by decide +kernel) (by decide +kernel)
  have r2 : rowC (m : Int) 2 [(39, 128, "w")] = one (sgn "-w" (bitI m 7)) := row1 m 7 2 (by decide) 39 "w" "-w" (by decide +kernel) (by decide +kernel)
  have r3 : rowC (m : Int) 3 [(41, 2112, "s"), (42, 2048, "S"), (43, 64, "x")] = one (sgn "-xSs" (bitI m 6 + 2 * bitI m 11)) := row3 m 6 11 (by decide) 3 (by decide) 41 42 43 "s" "S" "x" "-xSs" (by decide +kernel) (by decide +kernel) (by decide +kernel) (by decide +kernel)
  have r4 : rowC (m : Int) 4 [(45, 32, "r")] = one (sgn "-r" (bitI m 5)) := row1 m 5 4 (by decide) 45 "r" "-r" (by decide +kernel) (by decide +kernel)
  have r5 : rowC (m : Int) 5 [(47, 16, "w")] = one (sgn "-w" (bitI m 4)) := row1 m 4 5 (by decide) 47 "w" "-w" (by decide +kernel) (by decide +kernel)
  have r6 : rowC (m : Int) 6 [(49, 1032, "s"), (50, 1024, "S"), (51, 8, "x")] = one (sgn "-xSs" (bitI m 3 + 2 * bitI m 10)) := row3 m 3 10 (by decide) 6 (by decide) 49 50 51 "s" "S" "x" "-xSs" (by decide +kernel) (by decide +kernel) (by decide +kernel) (by decide +kernel)
  have r7 : rowC (m : Int) 7 [(53, 4, "r")] = one (sgn "-r" (bitI m 2)) := row1 m 2 7 (by decide) 53 "r" "-r" (by decide +kernel) (by decide +kernel)
  have r8 : rowC (m : Int) 8 [(55, 2, "w")] = one (sgn "-w" (bitI m 1)) := row1 m 1 8 (by decide) 55 "w" "-w" (by decide +kernel) (by decide +kernel)
  have r9 : rowC (m : Int) 9 [(57, 513, "t"), (58, 512, "T"), (59, 1, "x")] = one (sgn "-xTt" (bitI m 0 + 2 * bitI m 9)) := row3 m 0 9 (by decide) 9 (by decide) 57 58 59 "t" "T" "x" "-xTt" (by decide +kernel) (by decide +kernel) (by decide +kernel) (by decide +kernel)
  have e : fmT (m : Int) 0 fmRows = [sgn "?pc?d?b?-?l?s???" (((m : Int).fdiv 4096).fmod 16), sgn "-r" (bitI m 8), sgn "-w" (bitI m 7), sgn "-xSs" (bitI m 6 + 2 * bitI m 11), sgn "-r" (bitI m 5), sgn "-w" (bitI m 4), sgn "-xSs" (bitI m 3 + 2 * bitI m 10), sgn "-r" (bitI m 2), sgn "-w" (bitI m 1), sgn "-xTt" (bitI m 0 + 2 * bitI m 9)].map one := by
    simp only [fmRows, fmT, List.map_cons, List.map_nil, Int.reduceAdd, r0, r1, r2, r3, r4, r5, r6, r7, r8, r9]
  rw [e, join_one]
  rfl
/-- the listing after some deeds, two ways -/
theorem listing_eq (m : Nat) (back : List (Addr × Deed)) (h : ∀ d ∈ back, d.2.ok) :
    Txt.join (Str.ofString "") (fmT (doneF (m : Int) back.reverse) 0 fmRows) = shown12 (m : Int) (rightV m back 0 0) (rightV m back 1 0) (rightV m back 2 0) (rightV m back 3 0) (rightV m back 4 0) (rightV m back 5 0) (rightV m back 6 0) (rightV m back 7 0) (rightV m back 8 0) (rightV m back 9 0) (rightV m back 10 0) (rightV m back 11 0) := by
  obtain ⟨v, e, k⟩ := doneF_nat m back h
  have R : ∀ p : Nat, p < 12 → rightV (m : Int) back (p : Int) 0 = bitI (v : Int) p := fun p hp => by rw [right_bit0 m back h p hp, e]
  have h0 := R 0 (by decide)
  have h1 := R 1 (by decide)
  have h2 := R 2 (by decide)
  have h3 := R 3 (by decide)
  have h4 := R 4 (by decide)
  have h5 := R 5 (by decide)
  have h6 := R 6 (by decide)
  have h7 := R 7 (by decide)
  have h8 := R 8 (by decide)
  have h9 := R 9 (by decide)
  have h10 := R 10 (by decide)
  have h11 := R 11 (by decide)
  have hk : ((v : Int).fdiv 4096).fmod 16 = ((m : Int).fdiv 4096).fmod 16 := by
    rw [Int.fmod_eq_emod_of_nonneg _ (by decide), Int.fdiv_eq_ediv_of_nonneg _ (by decide), Int.fmod_eq_emod_of_nonneg _ (by decide), Int.fdiv_eq_ediv_of_nonneg _ (by decide)]
    omega
  rw [e, text_eq]
  show shown12 _ _ _ _ _ _ _ _ _ _ _ _ _ = shown12 _ (rightV m back ((0 : Nat) : Int) 0) (rightV m back ((1 : Nat) : Int) 0) (rightV m back ((2 : Nat) : Int) 0) (rightV m back ((3 : Nat) : Int) 0) (rightV m back ((4 : Nat) : Int) 0) (rightV m back ((5 : Nat) : Int) 0) (rightV m back ((6 : Nat) : Int) 0) (rightV m back ((7 : Nat) : Int) 0) (rightV m back ((8 : Nat) : Int) 0) (rightV m back ((9 : Nat) : Int) 0) (rightV m back ((10 : Nat) : Int) 0) (rightV m back ((11 : Nat) : Int) 0)
  rw [h0, h1, h2, h3, h4, h5, h6, h7, h8, h9, h10, h11]
  unfold shown12
  rw [hk]
  rfl
end Mine

end
section
-- PM5
open PySem PySem.W PySem.Spec PySem.Calls PyProof.Rows
set_option Elab.async false
set_option maxRecDepth 100000
set_option maxHeartbeats 400000
namespace Mine
theorem fold_get {α : Type} (f : α → Nat) (i : Nat) (x : α) : ∀ (l b : List α), (∀ d ∈ l, f d = i → d = x) → i < b.length → ((∃ d ∈ l, f d = i) ∨ b[i]? = some x) → (l.foldl (fun b d => b.set (f d) d) b)[i]? = some x
  | [], b, _, _, h => by
    rcases h with ⟨d, hd, _⟩ | h
    · cases hd
    · exact h
  | d :: r, b, hx, hl, h => by
    rw [List.foldl_cons]
    refine fold_get f i x r _ (fun e he => hx e (.tail _ he)) (by rw [List.length_set]; exact hl) ?_
    by_cases hd : f d = i
    · right
      rw [hd, hx d (.head _) hd]
      simp [hl]
    · rcases h with ⟨e, he, hf⟩ | h
      · rcases List.mem_cons.mp he with rfl | he
        · exact absurd hf hd
        · exact .inl ⟨e, he, hf⟩
      · right
        rw [List.getElem?_set_ne hd]
        exact h
theorem count_desc (f : Addr × Deed → Int) : ∀ (l1 : List (Addr × Deed)) (x : Addr × Deed) (l2 : List (Addr × Deed)), (l1 ++ x :: l2).Pairwise (fun a b => f b < f a) → (l1 ++ x :: l2).countP (fun o => decide (f x < f o)) = l1.length := by
  intro l1 x l2 h
  rw [List.countP_append, List.countP_cons]
  rw [List.pairwise_append] at h
  obtain ⟨h1, h2, h3⟩ := h
  have c1 : l1.countP (fun o => decide (f x < f o)) = l1.length := by
    rw [List.countP_eq_length]
    intro a ha
    simpa using h3 a ha x (.head _)
  have c2 : l2.countP (fun o => decide (f x < f o)) = 0 := by
    rw [List.countP_eq_zero]
    intro a ha
    have := (List.pairwise_cons.mp h2).1 a ha
    simp
    omega
  rw [c1, c2]
  simp
/-- the deeds set by the number of later ones: the row from behind -/
theorem back_row (ds row : List (Addr × Deed)) (hp : row.Perm ds) (hs : row.Pairwise (fun a b => a.2.rank < b.2.rank)) : backL ds = row.reverse ∧ ∀ q ∈ ds, laterN ds q.2 < ds.length := by
  have hpr : row.reverse.Perm ds := (List.reverse_perm row).trans hp
  have hlen : row.reverse.length = ds.length := hpr.length_eq
  have hd : row.reverse.Pairwise (fun a b => b.2.rank < a.2.rank) := List.pairwise_reverse.mpr hs
  have hc : ∀ (i : Nat) (x : Addr × Deed), row.reverse[i]? = some x → laterN ds x.2 = i := by
    intro i x hx
    obtain ⟨h1, h2⟩ := List.getElem?_eq_some_iff.mp hx
    have e : row.reverse = row.reverse.take i ++ x :: row.reverse.drop (i + 1) := by
      rw [← h2, ← List.drop_eq_getElem_cons h1, List.take_append_drop]
    unfold laterN
    rw [← hpr.countP_eq, e]
    rw [e] at hd
    rw [count_desc (fun a => a.2.rank) _ x _ hd, List.length_take]
    omega
  have hlt : ∀ q ∈ ds, laterN ds q.2 < ds.length := by
    intro q hq
    obtain ⟨i, h1, h2⟩ := List.getElem_of_mem (hpr.mem_iff.mpr hq)
    rw [hc i q (by rw [List.getElem?_eq_getElem h1, h2])]
    omega
  refine ⟨?_, hlt⟩
  apply List.ext_getElem?
  intro i
  by_cases hi : i < ds.length
  · have hi' : i < row.reverse.length := by omega
    rw [List.getElem?_eq_getElem hi']
    have key := fold_get (fun d : Addr × Deed => laterN ds d.2) i (row.reverse[i]) ds ds (fun d hd' hf => ?_) hi (.inl ⟨row.reverse[i], hpr.mem_iff.mp (List.getElem_mem hi'), hc i _ (List.getElem?_eq_getElem hi')⟩)
    · unfold backL
      exact key
    obtain ⟨j, h1, h2⟩ := List.getElem_of_mem (hpr.mem_iff.mpr hd')
    have := hc j d (by rw [List.getElem?_eq_getElem h1, h2])
    have hf' : laterN ds d.2 = i := hf
    have hji : j = i := this.symm.trans hf'
    rw [← h2]
    simp only [hji]
  · have e1 : (backL ds).length = ds.length := fold_len (laterN ds) ds ds
    rw [List.getElem?_eq_none (by omega), List.getElem?_eq_none (by omega)]
end Mine

end
section
-- PM6
open PySem PySem.W PySem.Spec PySem.Calls PyProof.Rows
set_option Elab.async false
set_option maxRecDepth 100000
set_option linter.unusedSimpArgs false
set_option maxHeartbeats 2000000
namespace Mine
noncomputable abbrev RK := Addr × Int
noncomputable def pushL (hl : List RK) (x : RK) : List RK := sdown 5 (hl ++ [x]) hl.length
noncomputable def popL : List RK → List RK
  | [] => []
  | [_] => []
  | _ :: y :: r => sup ((y :: r).getLast (List.cons_ne_nil _ _) :: (y :: r).dropLast)
/-- the order of a heap, up to five keys -/
noncomputable def HO : List RK → Prop
  | [] => True
  | [_] => True
  | [a, b] => a.2 ≤ b.2
  | [a, b, c] => a.2 ≤ b.2 ∧ a.2 ≤ c.2
  | [a, b, c, d] => a.2 ≤ b.2 ∧ a.2 ≤ c.2 ∧ b.2 ≤ d.2
  | [a, b, c, d, e] => a.2 ≤ b.2 ∧ a.2 ≤ c.2 ∧ b.2 ≤ d.2 ∧ b.2 ≤ e.2
  | _ => False
theorem perm_of {l1 l2 : List RK} (h : ∀ a, l1.count a = l2.count a) : l1.Perm l2 := List.perm_iff_count.mpr h
theorem pushE1 (a x : RK) : pushL [a] x = if x.2 < a.2 then [x, a] else [a, x] := by simp [pushL, sdown]
theorem pushE2 (a b x : RK) : pushL [a, b] x = if x.2 < a.2 then [x, b, a] else [a, b, x] := by simp [pushL, sdown]
theorem pushE3 (a b c x : RK) : pushL [a, b, c] x = if x.2 < b.2 then (if x.2 < a.2 then [x, a, c, b] else [a, x, c, b]) else [a, b, c, x] := by simp [pushL, sdown]
theorem push4' (a b c d x : RK) : pushL [a, b, c, d] x = if x.2 < b.2 then (if x.2 < a.2 then [x, a, c, d, b] else [a, x, c, d, b]) else [a, b, c, d, x] := by simp [pushL, sdown]
theorem swap_perm {l : List RK} {i j : Nat} (hi : i < l.length) (hj : j < l.length) : ((l.set i (l.getD j (0, 0))).set j (l.getD i (0, 0))).Perm l := by
  have h := (Array.swap_perm (xs := l.toArray) (i := i) (j := j) (by simpa using hi) (by simpa using hj)).toList
  simpa [Array.swap, List.getD_eq_getElem?_getD, hi, hj] using h
theorem sdown_perm : ∀ (f : Nat) (l : List RK) (p : Nat), p < l.length → (sdown f l p).Perm l
  | 0, _, _, _ => .refl _
  | f + 1, l, p, h => by
    unfold sdown
    split
    · exact .refl _
    · have hp : (p - 1) / 2 < l.length := Nat.lt_of_le_of_lt (Nat.le_trans (Nat.div_le_self _ _) (Nat.sub_le _ _)) h
      split
      · exact (sdown_perm f _ _ (by rw [List.length_set, List.length_set]; exact hp)).trans (swap_perm h hp)
      · exact .refl _
theorem push_perm (x : RK) (hl : List RK) : (pushL hl x).Perm (hl ++ [x]) := sdown_perm 5 _ _ (by rw [List.length_append]; exact Nat.lt_succ_self _)
theorem hole_perm {l : List RK} {p c : Nat} {x : RK} (hp : p < l.length) (hc : c < l.length) (n : p ≠ c) : ((l.set p (l.getD c (0, 0))).set c x).Perm (l.set p x) := by
  have h := swap_perm (l := l.set p x) (i := p) (j := c) (by rw [List.length_set]; exact hp) (by rw [List.length_set]; exact hc)
  rw [getD_set_self hp, getD_set_ne n, List.set_set] at h
  exact h
theorem upTo_perm (x : RK) : ∀ (f : Nat) (l : List RK) (p : Nat), p < l.length → (upTo f l p).2 < (upTo f l p).1.length ∧ ((upTo f l p).1.set (upTo f l p).2 x).Perm (l.set p x)
  | 0, _, _, h => ⟨h, .refl _⟩
  | f + 1, l, p, h => by
    unfold upTo
    split
    · rename_i h1
      split
      · rename_i h2
        obtain ⟨a, b⟩ := upTo_perm x f (l.set p (l.getD (2 * p + 2) (0, 0))) (2 * p + 2) (by rw [List.length_set]; exact h2.1)
        exact ⟨a, b.trans (hole_perm h h2.1 (by omega))⟩
      · obtain ⟨a, b⟩ := upTo_perm x f (l.set p (l.getD (2 * p + 1) (0, 0))) (2 * p + 1) (by rw [List.length_set]; exact h1)
        exact ⟨a, b.trans (hole_perm h h1 (by omega))⟩
    · exact ⟨h, .refl _⟩
theorem pop_perm (a : RK) : ∀ r : List RK, (popL (a :: r)).Perm r
  | [] => .refl _
  | y :: r => by
    have e : popL (a :: y :: r) = sup ((y :: r).getLast (List.cons_ne_nil _ _) :: (y :: r).dropLast) := rfl
    rw [e]
    generalize hz : (y :: r).getLast (List.cons_ne_nil _ _) = z
    generalize hm : (y :: r).dropLast = mid
    have hp : (z :: mid).Perm (y :: r) := by
      have := List.dropLast_concat_getLast (List.cons_ne_nil y r)
      rw [hz, hm] at this
      rw [← this]
      exact (List.perm_append_singleton z mid).symm
    obtain ⟨u, v⟩ := upTo_perm z 5 (z :: mid) 0 (Nat.zero_lt_succ _)
    exact (sdown_perm 5 _ _ (by rw [List.length_set]; exact u)).trans (v.trans hp)
theorem push_ho (x : RK) : ∀ (hl : List RK), hl.length ≤ 4 → HO hl → HO (pushL hl x)
  | [], _, _ => by
    simp [pushL, sdown, HO]
  | [a], _, h => by
    rw [pushE1]
    simp only [HO] at h
    (repeat' split) <;> (simp only [HO]; omega)
  | [a, b], _, h => by
    rw [pushE2]
    simp only [HO] at h
    (repeat' split) <;> (simp only [HO]; omega)
  | [a, b, c], _, h => by
    rw [pushE3]
    simp only [HO] at h
    (repeat' split) <;> (simp only [HO]; omega)
  | [a, b, c, d], _, h => by
    rw [push4']
    simp only [HO] at h
    (repeat' split) <;> (simp only [HO]; omega)
  | _ :: _ :: _ :: _ :: _ :: _, h, _ => by simp at h
theorem push_ok (x : RK) (hl : List RK) (h1 : hl.length ≤ 4) (h2 : HO hl) : HO (pushL hl x) ∧ (pushL hl x).Perm (hl ++ [x]) := ⟨push_ho x hl h1 h2, push_perm x hl⟩
theorem popE3 (a b c d : RK) : popL [a, b, c, d] = if b.2 < c.2 then (if d.2 < b.2 then [d, b, c] else [b, d, c]) else (if d.2 < c.2 then [d, b, c] else [c, b, d]) := by
  by_cases h : b.2 < c.2
  · simp [popL, sup, upTo, sdown, h]
  · have h' : c.2 ≤ b.2 := by omega
    simp [popL, sup, upTo, sdown, h']
    exact fun hh => absurd hh h
theorem popE4 (a b c d e : RK) : popL [a, b, c, d, e] = if b.2 < c.2 then (if e.2 < d.2 then (if e.2 < b.2 then [e, b, c, d] else [b, e, c, d]) else [b, d, c, e]) else (if e.2 < c.2 then [e, b, c, d] else [c, b, e, d]) := by
  by_cases h : b.2 < c.2
  · simp [popL, sup, upTo, sdown, h]
  · have h' : c.2 ≤ b.2 := by omega
    simp [popL, sup, upTo, sdown, h']
    exact fun hh => absurd hh h
theorem pop_ho (a : RK) : ∀ (r : List RK), r.length ≤ 4 → HO (a :: r) → (∀ y ∈ r, a.2 ≤ y.2) ∧ HO (popL (a :: r))
  | [], _, _ => by simp [popL, HO]
  | [b], _, h => by
    simp only [HO] at h
    have e : popL [a, b] = [b] := by simp [popL, sup, upTo, sdown]
    rw [e]
    exact ⟨by intro y hy; simp only [List.mem_singleton] at hy; subst hy; exact h, trivial⟩
  | [b, c], _, h => by
    simp only [HO] at h
    have e : popL [a, b, c] = if c.2 < b.2 then [c, b] else [b, c] := by simp [popL, sup, upTo, sdown]
    rw [e]
    refine ⟨by intro y hy; simp only [List.mem_cons, List.not_mem_nil, or_false] at hy; rcases hy with rfl | rfl <;> omega, ?_⟩
    (repeat' split) <;> (simp only [HO]; omega)
  | [b, c, d], _, h => by
    simp only [HO] at h
    refine ⟨by intro y hy; simp only [List.mem_cons, List.not_mem_nil, or_false] at hy; rcases hy with rfl | rfl | rfl <;> omega, ?_⟩
    rw [popE3]
    (repeat' split) <;> (simp only [HO]; omega)
  | [b, c, d, e], _, h => by
    simp only [HO] at h
    refine ⟨by intro y hy; simp only [List.mem_cons, List.not_mem_nil, or_false] at hy; rcases hy with rfl | rfl | rfl | rfl <;> omega, ?_⟩
    rw [popE4]
    (repeat' split) <;> (simp only [HO]; omega)
  | _ :: _ :: _ :: _ :: _ :: _, h, _ => by simp at h
theorem pop_ok (a : RK) (r : List RK) (h1 : r.length ≤ 4) (h2 : HO (a :: r)) : (∀ y ∈ r, a.2 ≤ y.2) ∧ HO (popL (a :: r)) ∧ (popL (a :: r)).Perm r := ⟨(pop_ho a r h1 h2).1, (pop_ho a r h1 h2).2, pop_perm a r⟩
end Mine

end
section
-- HL
open PySem PySem.W PySem.Spec PySem.Calls PyProof.Rows
set_option Elab.async false
set_option maxRecDepth 100000
set_option maxHeartbeats 2000000
namespace Mine
theorem Swapped.line {h h' h₀ : Heap} {L hp : Addr} {o o' : Obj} {m : Str → Option Value} {news : List (Addr × Obj)} {g : Obj → List (Addr × Obj)} (sw : Swapped h h' hp o') (F : Fr h₀ L h m) (N : News h₀ L h news) (U : UpdF hp o news g) : Fr h₀ L h' m ∧ News h₀ L h' (g o') := by
  obtain ⟨pre, post, hl, hg, a1, a2⟩ := U.split
  have hm := N (hp, o) (by rw [hl]; exact List.mem_append_right _ (.head _))
  refine ⟨⟨?_, fun b ob e => sw.2 b ob (fun q => ?_) (F.keep b ob e), F.above⟩, fun p hp' => ?_⟩
  · obtain ⟨oL, es, ep, ho, r⟩ := F.ns
    exact ⟨oL, es, ep, sw.2 L oL (Ne.symm hm.2.1) ho, r⟩
  · subst q
    rw [hm.2.2] at e
    cases e
  · rw [hg] at hp'
    have keep : ∀ q ∈ news, q.1 ≠ hp → h'.get? q.1 = some q.2 ∧ q.1 ≠ L ∧ h₀.get? q.1 = none := fun q hq hne => ⟨sw.2 _ _ hne (N q hq).1, (N q hq).2⟩
    rcases List.mem_append.mp hp' with h1 | h1
    · exact keep p (by rw [hl]; exact List.mem_append_left _ h1) (a1 p h1)
    · rcases List.mem_cons.mp h1 with rfl | h1
      · exact ⟨sw.1, hm.2⟩
      · exact keep p (by rw [hl]; exact List.mem_append_right _ (.tail _ h1)) (a2 p h1)
section
variable {w : World} {A : Around} {s : Shared} {B : Heap} {p : Program} {loose : List Str} {mean : ExcName → Option Value} {mg mb : Str → Option Value} {Q E : Value → Shared → Prop} {C hp : Addr} {n : Nat}
theorem pop_any (a : RK) (r : List RK) (hlen : r.length ≤ 4) (G : Deep w p loose mean mg mb B) (hB : Ext B s.heap) (nh : B.get? hp = none) (hr : A.depth + 30 < recursionLimit) (hu : A.units + 150 < cLine)
    (hK : ∀ q ∈ a :: r, KR w B s.heap C q.1 q.2) (h1 : s.heap.get? hp = some (listOf (refsOf (a :: r)) n))
    (hQ : ∀ k h' tk', Swapped s.heap h' hp (listOf (refsOf (popL (a :: r))) k) → Q (.ref a.1) { s with heap := h', toks := tk' }) :
    wpAny (model prog w) A (call (.ref 98) [.ref hp]) Q E s := by
  rcases r with _ | ⟨y, r⟩
  · exact pop1 a G hB nh hr hu h1 hQ
  · have e : a :: y :: r = (a :: (y :: r).dropLast) ++ [(y :: r).getLast (List.cons_ne_nil _ _)] := by rw [List.cons_append, List.dropLast_concat_getLast]
    rw [e] at h1
    refine popG (C := C) a _ _ ?_ G hB nh hr hu (fun q hq => ?_) h1 hQ
    · rw [List.length_dropLast]
      exact Nat.sub_le_of_le_add hlen
    · rcases List.mem_cons.mp hq with h | h
      · rw [h]; exact hK _ (.tail _ (List.getLast_mem _))
      · exact hK _ (.tail _ (List.dropLast_subset _ h))
end
end Mine

end
section
-- HL2
open PySem PySem.W PySem.Spec PySem.Calls PyProof.Rows
set_option Elab.async false
set_option maxRecDepth 100000
set_option maxHeartbeats 2000000
namespace Mine
/-- the class, by its entries -/
noncomputable def ClsOf (w : World) (C : Addr) (ents : List (Addr × Obj)) : Prop := ∀ h' : Heap, (∀ p ∈ ents, h'.get? p.1 = some p.2) → IsC w h' C
/-- a key with its deed, by entries -/
noncomputable def KeyE (B h₀ : Heap) (C : Addr) (ents : List (Addr × Obj)) (q : RK) (a : Addr) (e : Deed) : Prop := ∃ dx, (q.1, keyObj C dx a) ∈ ents ∧ (dx, emptyDict) ∈ ents ∧ DeedAt h₀ a e ∧ B.get? a = none ∧ e.ok ∧ q.2 = e.rank
theorem KeyE.kr {w : World} {B h₀ h : Heap} {C : Addr} {ents : List (Addr × Obj)} {q : RK} {a : Addr} {e : Deed} (k : KeyE B h₀ C ents q a e) (hc : ClsOf w C ents) (hk : Ext h₀ h) (hs : ∀ p ∈ ents, h.get? p.1 = some p.2) : KR w B h C q.1 q.2 := by
  obtain ⟨dx, m1, m2, ⟨t1, t2, t3, t4, hd⟩, nb, ok, er⟩ := k
  refine ⟨a, e.h, e.k, e.q, e.j, t1, t2, t3, t4, ⟨dx, hc h hs, hs _ m1, hs _ m2⟩, hk _ _ hd, nb, ⟨ok.2.1, ok.2.2.1, ok.2.2.2.2.1, ok.2.2.2.2.2⟩, er⟩
section
variable {w : World} {A : Around} {s : Shared} {B h₀ : Heap} {p : Program} {loose : List Str} {mean : ExcName → Option Value} {mg mb : Str → Option Value} {Q E : Value → Shared → Prop} {C L hp : Addr} {n : Nat} {m : Str → Option Value} {news ents : List (Addr × Obj)} {g : Obj → List (Addr × Obj)}
theorem none_of {a : Addr} (hB : Ext B h₀) (hn : h₀.get? a = none) : B.get? a = none := by
  cases e : B.get? a with
  | none => rfl
  | some o => rw [hB _ _ e] at hn; cases hn
theorem push_line {x : RK} {hl : List RK} (F : Fr h₀ L s.heap m) (N : News h₀ L s.heap news) (U : UpdF hp (listOf (refsOf hl) n) news g) (G : Deep w p loose mean mg mb B) (hB : Ext B h₀) (hc : ClsOf w C ents) (hs : SubL ents news)
    (hK : ∀ q ∈ x :: hl, ∃ a e, KeyE B h₀ C ents q a e) (hlen : hl.length ≤ 4) (hr : A.depth + 20 < recursionLimit) (hu : A.units + 100 < cLine)
    (h : ∀ k h' tk', Fr h₀ L h' m → News h₀ L h' (g (listOf (refsOf (pushL hl x)) k)) → Q .none { s with heap := h', toks := tk' }) :
    wpAny (model prog w) A (call (.ref 91) [.ref hp, .ref x.1]) Q E s := by
  obtain ⟨pre, post, hl', hg, a1, a2⟩ := U.split
  have hm := N (hp, listOf (refsOf hl) n) (by rw [hl']; exact List.mem_append_right _ (.head _))
  refine push_any (C := C) x hl hlen G (hB.trans F.keep) (none_of hB hm.2.2) hr hu (fun q hq => ?_) hm.1 fun k h' tk' sw => ?_
  · obtain ⟨a, e, ke⟩ := hK q hq
    exact ke.kr hc F.keep fun p hp => (N p (hs.mem p hp)).1
  · obtain ⟨F', N'⟩ := sw.line F N U
    exact h k h' tk' F' N'
theorem pop_line {a : RK} {r : List RK} (F : Fr h₀ L s.heap m) (N : News h₀ L s.heap news) (U : UpdF hp (listOf (refsOf (a :: r)) n) news g) (G : Deep w p loose mean mg mb B) (hB : Ext B h₀) (hc : ClsOf w C ents) (hs : SubL ents news)
    (hK : ∀ q ∈ a :: r, ∃ a e, KeyE B h₀ C ents q a e) (hlen : r.length ≤ 4) (hr : A.depth + 30 < recursionLimit) (hu : A.units + 150 < cLine)
    (h : ∀ k h' tk', Fr h₀ L h' m → News h₀ L h' (g (listOf (refsOf (popL (a :: r))) k)) → Q (.ref a.1) { s with heap := h', toks := tk' }) :
    wpAny (model prog w) A (call (.ref 98) [.ref hp]) Q E s := by
  obtain ⟨pre, post, hl', hg, a1, a2⟩ := U.split
  have hm := N (hp, listOf (refsOf (a :: r)) n) (by rw [hl']; exact List.mem_append_right _ (.head _))
  refine pop_any (C := C) a r hlen G (hB.trans F.keep) (none_of hB hm.2.2) hr hu (fun q hq => ?_) hm.1 fun k h' tk' sw => ?_
  · obtain ⟨a, e, ke⟩ := hK q hq
    exact ke.kr hc F.keep fun p hp => (N p (hs.mem p hp)).1
  · obtain ⟨F', N'⟩ := sw.line F N U
    exact h k h' tk' F' N'
theorem cmp_line (F : Fr h₀ L s.heap m) (N : News h₀ L s.heap news) (U : UpdF 70 (tabObj #[]) news g) (G : Deep w p loose mean mg mb B) (hB : Ext B h₀) (hr : A.depth + 3 < recursionLimit)
    (h : ∀ (lo : Addr) (C a1 a2 a3 a4 a5 a6 a7 : Addr) (o1 o2 o3 o4 o5 o6 o7 o8 : Obj) (ps : Array Value) h' tk', (∀ p ∈ news, p.1 < lo) → (@LE.le Nat instLENat lo C ∧ @LE.le Nat instLENat lo a1 ∧ @LE.le Nat instLENat lo a2 ∧ @LE.le Nat instLENat lo a3 ∧ @LE.le Nat instLENat lo a4 ∧ @LE.le Nat instLENat lo a5 ∧ @LE.le Nat instLENat lo a6 ∧ @LE.le Nat instLENat lo a7) → @LT.lt Nat instLTNat L lo →
      ClsOf w C [(C, o8), (a1, o1), (a2, o2), (a3, o3), (a4, o4), (a5, o5), (a6, o6), (a7, o7)] → Fr h₀ L h' m → News h₀ L h' ((C, o8) :: (a1, o1) :: (a2, o2) :: (a3, o3) :: (a4, o4) :: (a5, o5) :: (a6, o6) :: (a7, o7) :: g (tabObj ps)) → Q (.ref C) { s with heap := h', toks := tk' }) :
    wpAny (model prog w) A (call (.ref 75) [.ref 119]) Q E s := by
  obtain ⟨pre, post, hl', hg, b1, b2⟩ := U.split
  have hm := N (70, tabObj #[]) (by rw [hl']; exact List.mem_append_right _ (.head _))
  have hBs : Ext B s.heap := hB.trans F.keep
  refine cmpKey (G.X.keeps hBs) (G.T.keeps hBs) hr hm.1 fun C h' tk' ps keep h7 ic => ?_
  obtain ⟨a1, a2, a3, a4, a5, a6, a7, o1, o2, o3, o4, o5, o6, o7, o8, hg1, hg2⟩ := ic.ents
  have hb := fun q hq => (hg1 q hq).1
  have b : ∀ q ∈ [(C, o8), (a1, o1), (a2, o2), (a3, o3), (a4, o4), (a5, o5), (a6, o6), (a7, o7)], h'.get? q.1 = some q.2 ∧ q.1 ≠ L ∧ h₀.get? q.1 = none := fun q hq => by
    refine ⟨(hg1 q hq).2, ?_, new_none F (hb q hq)⟩
    intro e
    have h1 := F.ns.lt
    have h2 := hb q hq
    rw [e] at h2
    exact absurd h1 (Nat.not_lt.mpr h2)
  refine h s.heap.objs.size C a1 a2 a3 a4 a5 a6 a7 o1 o2 o3 o4 o5 o6 o7 o8 ps h' tk' (fun q hq => Heap.lt_size (N q hq).1) ?_ F.ns.lt hg2 ⟨?_, ?_, F.above⟩ ?_
  · exact ⟨hb (C, o8) (by simp), hb (a1, o1) (by simp), hb (a2, o2) (by simp), hb (a3, o3) (by simp), hb (a4, o4) (by simp), hb (a5, o5) (by simp), hb (a6, o6) (by simp), hb (a7, o7) (by simp)⟩
  · obtain ⟨oL, es, ep, ho, r⟩ := F.ns
    exact ⟨oL, es, ep, keep L oL (Ne.symm hm.2.1) ho, r⟩
  · intro b' o e
    refine keep b' o ?_ (F.keep b' o e)
    rintro rfl
    rw [hm.2.2] at e
    cases e
  · intro q hq
    have hq' : q ∈ [(C, o8), (a1, o1), (a2, o2), (a3, o3), (a4, o4), (a5, o5), (a6, o6), (a7, o7)] ++ g (tabObj ps) := hq
    rcases List.mem_append.mp hq' with h1 | h1
    · exact b q h1
    · rw [hg] at h1
      rcases List.mem_append.mp h1 with h2 | h2
      · have := N q (by rw [hl']; exact List.mem_append_left _ h2)
        exact ⟨keep _ _ (b1 q h2) this.1, this.2⟩
      · rcases List.mem_cons.mp h2 with rfl | h2
        · exact ⟨h7, hm.2⟩
        · have := N q (by rw [hl']; exact List.mem_append_right _ (.tail _ h2))
          exact ⟨keep _ _ (b2 q h2) this.1, this.2⟩
theorem key_line {d : Addr} (F : Fr h₀ L s.heap m) (N : News h₀ L s.heap news) (hc : ClsOf w C ents) (hs : SubL ents news) (hl : h₀.NoLimit) (hr : A.depth + 4 < recursionLimit)
    (h : ∀ a dx h' tk', Fr h₀ L h' m → News h₀ L h' ((a, keyObj C dx d) :: (dx, emptyDict) :: news) → (∀ p ∈ news, p.1 < dx) → @LT.lt Nat instLTNat dx a → @LT.lt Nat instLTNat L dx → Q (.ref a) { s with heap := h', toks := tk' }) : wpAny (model prog w) A (call (.ref C) [.ref d]) Q E s := by
  refine makeKey (hc _ fun p hp => (N p (hs.mem p hp)).1) (hl.keeps F.keep) hr fun a dx h' tk' ex l1 l2 ga gd => ?_
  have hL : @LT.lt Nat instLTNat L s.heap.objs.size := F.ns.lt
  have n1 : @LE.le Nat instLENat s.heap.objs.size a := by omega
  have ne1 : a ≠ L := by show @Ne Nat a L; omega
  have ne2 : dx ≠ L := by show @Ne Nat dx L; omega
  refine h a dx h' tk' (ex.fr F) (fun q hq => ?_) (fun q hq => Nat.lt_of_lt_of_le (Heap.lt_size (N q hq).1) l1) l2 (by omega)
  rcases List.mem_cons.mp hq with rfl | hq
  · exact ⟨ga, ne1, new_none F n1⟩
  · rcases List.mem_cons.mp hq with rfl | hq
    · exact ⟨gd, ne2, new_none F l1⟩
    · exact (ex.news N) q hq
end
section
variable {w : World} {dp un : Nat} {fr : Option (List Env)} {gd : Option (List Code)} {s : Shared} {B h₀ : Heap} {p : Program} {loose : List Str} {mean : ExcName → Option Value} {mg mb : Str → Option Value} {Q E : Value → Shared → Prop} {mo : Int} {t : Tok} {L rw : Addr} {n : Nat} {m : Str → Option Value} {news : List (Addr × Obj)}
theorem mode_line (F : Fr h₀ L s.heap m) (N : News h₀ L s.heap news) (G : Deep w p loose mean mg mb B) (hB : Ext B h₀) (hr : dp + 30 < recursionLimit)
    (h : ∀ h' tk' t', Fr h₀ L h' m → News h₀ L h' news → Q (.str (Txt.join (Str.ofString "") (fmT mo 0 fmRows)) t') { s with heap := h', toks := tk' }) :
    wpAny (model prog w) { handled := none, depth := dp, frames := fr, guards := gd, units := un } (call (.ref 68) [.int mo t]) Q E s :=
  mode_raw G (hB.trans F.keep) hr fun h' tk' t' ex => h h' tk' t' (ex.fr F) (ex.news N)
theorem red_line (ds : List (Addr × Deed)) (F : Fr h₀ L s.heap m) (N : News h₀ L s.heap news) (hm : (rw, listOf (refsD ds).toArray n) ∈ news) (G : Deep w p loose mean mg mb B) (hB : Ext B h₀) (hr : dp + 30 < recursionLimit)
    (hds : ∀ q ∈ ds, B.get? q.1 = none ∧ DeedAt h₀ q.1 q.2 ∧ q.2.ok)
    (h : ∀ h' tk' t', Fr h₀ L h' m → News h₀ L h' news → Q (.int (doneF mo ds) t') { s with heap := h', toks := tk' }) :
    wpAny (model prog w) { handled := none, depth := dp, frames := fr, guards := gd, units := un } (call (.ref 84) [.ref 126, .ref rw, .int mo t]) Q E s :=
  red_raw ds G (hB.trans F.keep) (none_of hB (N _ hm).2.2) hr (fun q hq => ⟨(hds q hq).1, (hds q hq).2.1.keeps F.keep, (hds q hq).2.2⟩) (N _ hm).1 fun v h' tk' t' e ex => by subst e; exact h h' tk' t' (ex.fr F) (ex.news N)
end
theorem k_keep {x tn tk : Nat} {u : TNv} {p : Params} : keepIn (kcK x u tn p tk) (.ref (x + 155 + 58)) = true := by
  have h1 : specialIn (kcK x u tn p tk) (.ref (x + 155 + 58)) "__call__" = some (some (.builtin "type.__call__")) := by unfold specialIn; rw [kt_C]; kernel_rfl
  unfold keepIn
  dsimp only
  rw [kc_C]
  unfold clsObj tnCls2
  dsimp only
  rw [h1]
  kernel_rfl
section
variable {w : World} {M : Model} {A : Around} {s : Shared} {E : Value → Shared → Prop} {env : Env} {pos : Pos} {first : List Value} {Q : Value → Shared → Prop} {C L : Addr} {ents news : List (Addr × Obj)} {h₀ h : Heap}
structure IsCN (w : World) (h : Heap) (C : Addr) : Prop where
  c : IsC w h C
theorem isC_now (hc : ClsOf w C ents) (N : News h₀ L h news) (hs : SubL ents news) : IsCN w h C := ⟨hc h fun p hp => (N p (hs.mem p hp)).1⟩
theorem callWith_C {e : Expr} {rest : List Expr} (_hc : ClsOf w C ents) (h : wpAny M A (spliced (backTo pos (starEach (e :: rest) env))) (fun vs s₁ => IsCN w s₁.heap C ∧ wpAny M A (call (.ref C) (first ++ vs)) Q E s₁) E s)
    (he : starEach (e :: rest) env = (false, eval e env) :: starEach rest env := by rfl) (hplain : (backTo pos (starEach rest env)).any (·.1) = false := by rfl) :
    wpAny M A (callWith pos (.ref C) first (backTo pos (starEach (e :: rest) env)) []) Q E s := by
  rw [he] at h ⊢
  refine callWith_of (P := fun h => IsCN w h C) (by show ((false || (backTo pos (starEach rest env)).any (·.1)) || false) = false; rw [hplain]; rfl) (fun h1 ic => ?_) (evalArgs_plain h)
  obtain ⟨⟨x, u, tn, tk, c, pm0, pm1, rfl, g, -⟩⟩ := ic
  exact keeps_K k_keep h1 g
end
end Mine

end
section
-- CT
open PySem PySem.W PySem.Spec PySem.Calls PyProof.Rows
set_option Elab.async false
set_option maxRecDepth 100000
set_option maxHeartbeats 2000000
namespace Mine
section
variable {prog : Program} {w : World} {A : Around} {E : Value → Shared → Prop} {s : Shared} {h₀ : Heap} {env : Env} {m : Str → Option Value} {news : List (Addr × Obj)} {scope : Scope} {cl : List (Str × Addr)} {x y : Str} {elt c : Expr}
noncomputable def pvI (p : Nat → Bool) : Value → Bool
  | .int i _ => p i.toNat
  | _ => false
/-- what a comprehension with one test over a range asks, where its range stands -/
inductive CompRT (prog : Program) (w : World) (A : Around) (h₀ : Heap) (env : Env) (scope : Scope) (cl : List (Str × Addr)) (x : Str) (elt c : Expr) (n : Nat) (p : Nat → Bool) (Fv : Nat → Value → Prop) (Q : Value → Shared → Prop) (xv : Value) (s : Shared) : Prop
  | mk r a t u v m news (_ : xv = .ref r) (_ : IsRange s.heap r 0 a 1 t u v) (_ : Builtin.Range.small 0 a 1 = true) (_ : Builtin.Range.rangeSize 0 a 1 = (n : Int)) (_ : n ≤ sizeLine) (_ : Fr h₀ env.locals s.heap m) (_ : News h₀ env.locals s.heap news) (_ : (∀ C i t s₃ m₃ E', i < n → s₃.heap.Ns C m₃ → m₃ x = some (.int (i : Int) t) → Ext s.heap s₃.heap → s.heap.objs.size ≤ C →       wpAny (model prog w) A (isTrue c (compEnvC scope cl C env) (eval c (compEnvC scope cl C env))) (fun ok s₄ => ok = p i ∧ Keeps s₃ s₄) E' s₃)) (_ : (∀ C i t s₃ m₃ E', i < n → p i = true → s₃.heap.Ns C m₃ → m₃ x = some (.int (i : Int) t) → Ext s.heap s₃.heap → s.heap.objs.size ≤ C →       wpAny (model prog w) A (eval elt (compEnvC scope cl C env)) (fun y s₄ => Fv i y ∧ Keeps s₃ s₄) E' s₃)) (_ : (∀ D h' tk ys k, Fr h₀ env.locals h' m → News h₀ env.locals h' ((D, listOf ys k) :: news) → (∀ p ∈ news, (p.1 : Nat) ≠ D) → s.heap.get? D = none → Paired Fv ((List.range n).filter p) ys.toList → Q (.ref D) { s with heap := h', toks := tk })) : CompRT prog w A h₀ env scope cl x elt c n p Fv Q xv s
theorem paired_range (p : Nat → Bool) (Fv : Nat → Value → Prop) : ∀ (vs : List Value) (a : Nat) (ys : List Value), (∀ (j : Nat) (v : Value), vs[j]? = some v → ∃ t, v = .int ((a + j : Nat) : Int) t) →
    Paired (fun v y => ∃ i t, v = .int (i : Nat) t ∧ Fv i y) (vs.filter (pvI p)) ys → Paired Fv ((List.range' a vs.length).filter p) ys
  | [], _, _, _, h => by
    simp only [List.filter_nil] at h
    cases h
    exact .nil
  | v :: r, a, ys, hv, h => by
    obtain ⟨t, e⟩ := hv 0 v rfl
    rw [Nat.add_zero] at e
    subst e
    have hr : ∀ (j : Nat) (v : Value), r[j]? = some v → ∃ t, v = .int ((a + 1 + j : Nat) : Int) t := fun j v hj => by
      obtain ⟨t, e⟩ := hv (j + 1) v hj
      exact ⟨t, by rw [e, show a + (j + 1) = a + 1 + j by omega]⟩
    have hp : pvI p (.int (a : Int) t) = p a := by show p (a : Int).toNat = p a; rw [Int.toNat_natCast]
    rw [List.length_cons, List.range'_succ]
    by_cases hpa : p a = true
    · rw [List.filter_cons_of_pos hpa]
      rw [List.filter_cons_of_pos (by rw [hp]; exact hpa)] at h
      cases h with
      | cons h1 h2 =>
        obtain ⟨i, t', e, hf⟩ := h1
        have : (a : Int) = (i : Int) := (Value.int.inj e).1
        have : a = i := by omega
        subst this
        exact .cons hf (paired_range p Fv r (a + 1) _ hr h2)
    · rw [List.filter_cons_of_neg hpa]
      rw [List.filter_cons_of_neg (by rw [hp]; exact hpa)] at h
      exact paired_range p Fv r (a + 1) _ hr h
theorem eval_compRT {iter : Expr} {px : Pos} {pos : Pos} {n : Nat} {Q : Value → Shared → Prop} (_F : Fr h₀ env.locals s.heap m) (p : Nat → Bool) (Fv : Nat → Value → Prop) (hh : A.handled = none)
    (hclos : closureFor scope env = pure cl) (hcell : ∀ z ∈ scope.names, z.2 ≠ .cell) (hkind : scope.kind = .function)
    (hnames : ∀ z ∈ scope.names, z.2 = .local → scope.names.lookup z.1 = some .local) (hx : scope.names.lookup x = some .local)
    (hs : ∀ x, foldedSetIterable iter env x = pure x)
    (h : wpAny (model prog w) A (eval iter env) (fun xv s₁ => CompRT prog w A h₀ env scope cl x elt c n p Fv Q xv s₁) E s) :
    wpAny (model prog w) A (eval (.ListComp elt [⟨.Name x px, iter, [c], 0⟩] scope pos) env) Q E s := by
  refine wpAny_ListComp_free (pvI p) (fun v y => ∃ i t, v = .int (i : Nat) t ∧ Fv i y) hclos hcell hkind hnames hx (wpAny_mono h (fun xv s₁ h₁ => ?_) fun _ _ e => e) hs
  obtain ⟨r, a, t, u, v, m, news, rfl, hr, hsmall, hn, hsz, F, N, htest, helt, hQ⟩ := h₁
  refine wpAny_pyIter_range hr hsmall ?_
  have W : Walks prog w A s₁.heap.objs.size [s₁.heap.objs.size] [s₁.heap.objs.size] n (fun i v => i < n ∧ ∃ t, v = .int (0 + i * 1) t)
      (fun i h => IsRangeIter h s₁.heap.objs.size (0 + (i : Nat) * 1) ((n : Int) - (i : Nat)) 1) := (Walks.range hh _ 0 1 n).bound
  have up : ∀ (s₃ : Shared), (∀ b o, b ∉ [s₁.heap.objs.size] → (s₁.heap.push (itR 0 n)).get? b = some o → s₃.heap.get? b = some o) → Ext s₁.heap s₃.heap :=
    fun s₃ hk b o e => hk b o (fun hm => by rw [List.mem_singleton.mp hm] at e; exact Nat.lt_irrefl _ (Heap.lt_size e)) (Heap.get?_push_of_some _ e)
  rw [hn]
  have e1 : ∀ i : Nat, (0 : Int) + (i : Int) * 1 = (i : Int) := fun i => by omega
  refine ⟨_, _, _, n, _, _, rfl, W, hsz, (by show IsRangeIter _ _ _ _ _; simpa using Heap.get?_push_size _ rfl), ?_, ⟨?_, ?_⟩, ?_⟩
  · intro b hb
    rw [List.mem_singleton.mp hb]
    show s₁.heap.objs.size < (s₁.heap.push _).objs.size
    rw [Heap.size_push]; exact Nat.lt_succ_self _
  · intro C i v s₃ m₃ E' hC hP hn hm hk _
    obtain ⟨hi, t, rfl⟩ := hP
    rw [e1] at hm ⊢
    have hp : pvI p (.int (i : Int) t) = p i := by show p (i : Int).toNat = p i; rw [Int.toNat_natCast]
    rw [hp]
    exact wpAny_tests_one (htest C i t s₃ m₃ E' hi hn hm (up s₃ hk) (Nat.le_of_succ_le (by simpa [Heap.size_push] using hC)))
  · intro C i v s₃ m₃ E' hC hP hp' hn hm hk _
    obtain ⟨hi, t, rfl⟩ := hP
    rw [e1] at hm hp' ⊢
    have hp : pvI p (.int (i : Int) t) = p i := by show p (i : Int).toNat = p i; rw [Int.toNat_natCast]
    rw [hp] at hp'
    exact wpAny_mono (helt C i t s₃ m₃ E' hi hp' hn hm (up s₃ hk) (Nat.le_of_succ_le (by simpa [Heap.size_push] using hC))) (fun y s₄ q => ⟨⟨i, t, rfl, q.1⟩, q.2⟩) fun _ _ e => e
  · intro D h' tk ys vs hnew hlD hplD hlen hP hF hk
    have hD : s₁.heap.get? D = none := by
      cases e : s₁.heap.get? D with
      | none => rfl
      | some o => rw [Heap.get?_push_of_some _ e] at hnew; cases hnew
    have ex : Ext s₁.heap h' := fun b o e => hk b o (fun hm => by rw [List.mem_singleton.mp hm] at e; exact Nat.lt_irrefl _ (Heap.lt_size e)) (Heap.get?_push_of_some _ e)
    obtain ⟨F', ⟨k, N'⟩, hne⟩ := comp_after F N hD hplD (F.ns.keeps ex) fun b o hb e => ex b o e
    refine hQ D h' tk ys k F' N' hne hD ?_
    have := paired_range p Fv vs 0 ys.toList (fun j v hj => by obtain ⟨_, t, e⟩ := hP j v hj; exact ⟨t, by rw [e, e1, Nat.zero_add]⟩) hF
    rw [hlen] at this
    rw [List.range_eq_range']
    exact this
end
end Mine

end
section
-- HJ
open PySem PySem.W PySem.Spec PySem.Calls PyProof.Rows
set_option Elab.async false
set_option maxRecDepth 100000
set_option maxHeartbeats 2000000
namespace Mine
theorem subL_of : ∀ {l all : List (Addr × Obj)}, (∀ p ∈ l, p ∈ all) → SubL l all
  | [], _, _ => trivial
  | _ :: _, _, h => ⟨h _ (.head _), subL_of fun p hp => h p (.tail _ hp)⟩
noncomputable abbrev KZ := RK × (Addr × Deed)
noncomputable def keyP (zs : List KZ) (a : Addr) (i : Nat) : Bool := match zs[i]? with
  | some z => z.1.1 == a
  | none => false
theorem filter_range_one (p : Nat → Bool) (j : Nat) : ∀ n, j < n → (∀ i, i < n → (p i = true ↔ i = j)) → (List.range n).filter p = [j]
  | 0, h, _ => absurd h (Nat.not_lt_zero _)
  | n + 1, h, hp => by
    rw [List.range_succ, List.filter_append]
    by_cases e : j = n
    · subst e
      have h1 : (List.range j).filter p = [] := by
        rw [List.filter_eq_nil_iff]
        intro i hi hpi
        have hi' := List.mem_range.mp hi
        exact absurd ((hp i (by omega)).mp hpi) (by omega)
      rw [h1, List.filter_cons_of_pos ((hp j (by omega)).mpr rfl)]
      rfl
    · rw [filter_range_one p j n (by omega) fun i hi => hp i (by omega)]
      rw [List.filter_cons_of_neg (fun hh => e ((hp n (by omega)).mp hh).symm)]
      rfl
theorem comp_one {zs : List KZ} {z0 : KZ} {ys : List Value} (hz : z0 ∈ zs) (hn : (zs.map fun z => z.1.1).Nodup) (h : Paired (fun i y => ∃ z, zs[i]? = some z ∧ y = Value.ref z.2.1) ((List.range zs.length).filter (keyP zs z0.1.1)) ys) : ys = [.ref z0.2.1] := by
  obtain ⟨j, hj, ej⟩ := List.getElem_of_mem hz
  have e : (List.range zs.length).filter (keyP zs z0.1.1) = [j] := by
    refine filter_range_one _ j _ hj fun i hi => ?_
    unfold keyP
    rw [List.getElem?_eq_getElem hi]
    dsimp only
    rw [beq_iff_eq]
    constructor
    · intro q
      have h1 : (zs.map fun z => z.1.1)[i]'(by simpa using hi) = (zs.map fun z => z.1.1)[j]'(by simpa using hj) := by simp [q, ej]
      have hpw := List.pairwise_iff_getElem.mp hn
      rcases Nat.lt_trichotomy i j with hlt | heq | hgt
      · exact absurd h1 (hpw i j _ _ hlt)
      · exact heq
      · exact absurd h1.symm (hpw j i _ _ hgt)
    · rintro rfl
      rw [ej]
  rw [e] at h
  cases h with
  | cons h1 h2 =>
    cases h2
    obtain ⟨z, hz1, hz2⟩ := h1
    rw [List.getElem?_eq_getElem hj, ej] at hz1
    cases hz1
    rw [hz2]
/-- the history's row at a time: the deeds told so far, sorted -/
theorem row_hist {zs pre done r : List KZ} (hz : pre ++ r = zs) (hp : done.Perm pre) (hs : done.Pairwise (fun a b => a.1.2 ≤ b.1.2)) (hr : ∀ z ∈ zs, z.1.2 = z.2.2.rank) (hn : (zs.map fun z => z.2.2.rank).Nodup) :
    (backL ((zs.map (·.2)).take pre.length)).reverse = done.map (·.2) := by
  have e1 : (zs.map (·.2)).take pre.length = pre.map (·.2) := by
    rw [← hz, List.map_append, List.take_append_of_le_length (by simp)]
    rw [← List.length_map (f := fun z : KZ => z.2), List.take_length]
  rw [e1]
  have hsub : ∀ z ∈ pre, z ∈ zs := fun z h => by rw [← hz]; exact List.mem_append_left _ h
  have hn1 : (pre.map fun z => z.2.2.rank).Nodup := by
    rw [← hz, List.map_append] at hn
    exact (List.nodup_append.mp hn).1
  have hn2 : (done.map fun z => z.2.2.rank).Nodup := (hp.map _).nodup_iff.mpr hn1
  have hlt : (done.map (·.2)).Pairwise (fun a b => a.2.rank < b.2.rank) := by
    rw [List.pairwise_map]
    have h2 : done.Pairwise fun a b => a.2.2.rank ≠ b.2.2.rank := by
      have := hn2
      unfold List.Nodup at this
      rwa [List.pairwise_map] at this
    refine (hs.and h2).imp_of_mem fun {a b} ha hb hab => ?_
    have ea := hr a (hsub a (hp.mem_iff.mp ha))
    have eb := hr b (hsub b (hp.mem_iff.mp hb))
    obtain ⟨x, y⟩ := hab
    show a.2.2.rank < b.2.2.rank
    omega
  rw [(back_row (pre.map (·.2)) (done.map (·.2)) (hp.map _) hlt).1, List.reverse_reverse]
/-- the listings of the history, the first k -/
noncomputable def histT (mo : Int) (ds : List (Addr × Deed)) (k : Nat) : List Str := (List.range k).map fun i => Txt.join (Str.ofString "") (fmT (doneF mo (backL (ds.take i)).reverse) 0 fmRows)
theorem histT_one (mo : Int) (ds : List (Addr × Deed)) : histT mo ds 1 = [Txt.join (Str.ofString "") (fmT mo 0 fmRows)] := by
  unfold histT
  simp [List.range_succ, backL, doneF]
theorem histT_succ (mo : Int) (ds : List (Addr × Deed)) (k : Nat) : histT mo ds (k + 1) = histT mo ds k ++ [Txt.join (Str.ofString "") (fmT (doneF mo (backL (ds.take k)).reverse) 0 fmRows)] := by
  unfold histT
  rw [List.range_succ, List.map_append]
  rfl
/-- one key comes off the heap -/
theorem pop_step {done zl pre : List KZ} {a : RK} {r hl' : List RK} (h1 : (zl.map (·.1)).Perm (a :: r)) (h2 : (done ++ zl).Perm pre) (hs : done.Pairwise (fun a b => a.1.2 ≤ b.1.2)) (hb : ∀ z ∈ done, ∀ y ∈ zl, z.1.2 ≤ y.1.2) (hmin : ∀ y ∈ r, a.2 ≤ y.2) (hp : hl'.Perm r) :
    ∃ z0 zl', z0 ∈ pre ∧ z0.1 = a ∧ (zl'.map (·.1)).Perm hl' ∧ ((done ++ [z0]) ++ zl').Perm pre ∧ (done ++ [z0]).Pairwise (fun a b => a.1.2 ≤ b.1.2) ∧ (∀ z ∈ done ++ [z0], ∀ y ∈ zl', z.1.2 ≤ y.1.2) := by
  have ha : a ∈ zl.map (·.1) := h1.mem_iff.mpr (.head _)
  obtain ⟨z0, hz0, rfl⟩ := List.mem_map.mp ha
  obtain ⟨u, v, rfl⟩ := List.append_of_mem hz0
  have hm : (u ++ z0 :: v).Perm (z0 :: (u ++ v)) := List.perm_middle
  have h3 : ((u ++ v).map (·.1)).Perm r := by
    have := ((hm.map (·.1)).symm.trans h1)
    exact List.Perm.cons_inv this
  refine ⟨z0, u ++ v, ?_, rfl, h3.trans hp.symm, ?_, ?_, ?_⟩
  · exact h2.mem_iff.mp (List.mem_append_right _ hz0)
  · rw [List.append_assoc]
    exact (List.Perm.append_left done hm.symm).trans h2
  · rw [List.pairwise_append]
    refine ⟨hs, List.pairwise_singleton _ _, fun x hx y hy => ?_⟩
    rw [List.mem_singleton.mp hy]
    exact hb x hx z0 hz0
  · intro x hx y hy
    rcases List.mem_append.mp hx with hx | hx
    · exact hb x hx y (hm.mem_iff.mpr (.tail _ hy))
    · rw [List.mem_singleton.mp hx]
      exact hmin y.1 (h3.mem_iff.mp (List.mem_map_of_mem hy))
section
variable {prog : Program} {w : World} {A : Around} {E : Value → Shared → Prop} {s : Shared} {h₀ : Heap} {L l x y : Addr} {m : Str → Option Value} {news : List (Addr × Obj)} {vs : Array Value} {n i : Nat} {Q : Value → Shared → Prop} {u : Tok} {value slice : PySem.Expr} {v : Value}
theorem is_refs {ox oy : Obj} (hx : s.heap.get? x = some ox) (hy : s.heap.get? y = some oy) (hnt : ox.cls ≠ .type "tuple") (h : Q (.bool (x == y)) s) : wpAny (model prog w) A (compareOp .Is (.ref x) (.ref y)) Q E s := by
  by_cases e : x = y
  · subst e
    rw [beq_self_eq_true] at h
    exact wpAny_is_ref_self h
  · rw [beq_false_of_ne e] at h
    exact wpAny_is_ref_other e hx hy hnt h
end
theorem allLt_mem {d : Nat} : ∀ {l : List (Addr × Obj)}, AllLt d l → ∀ p ∈ l, @LT.lt Nat instLTNat p.1 d
  | [], _, _, h => nomatch h
  | _ :: _, x, p, h => by
    rcases List.mem_cons.mp h with rfl | h
    · exact x.1
    · exact allLt_mem x.2 p h
theorem allGt_mem {d : Nat} {l : List (Addr × Obj)} (x : ∀ p ∈ l, @LT.lt Nat instLTNat d p.1) : ∀ p ∈ l, p.1 ≠ d := fun p hp => Nat.ne_of_gt (x p hp)
set_option maxHeartbeats 4000000 in
/-- the state ahead of the history's loop, its tail closed -/
theorem pack {w : World} {B h₀ h : Heap} {L C a0 a1 a2 a3 a4 x0 x1 x2 x3 x4 c1 c2 c3 c4 c5 c6 c7 d0 d1 d2 d3 d4 S H K cL cK cW cD dl Dt : Addr} {e0 e1 e2 e3 e4 : Deed} {o1 o2 o3 o4 o5 o6 o7 o8 oDt oS oH oL oKc oW oDc T : Obj} {n : Nat} {vL : Option Value}
    (N : News h₀ L h [(Dt, oDt), (S, oS), (H, oH), (K, listOf #[.ref a0, .ref a1, .ref a2, .ref a3, .ref a4] 5), (a4, keyObj C x4 d4), (x4, emptyDict), (a3, keyObj C x3 d3), (x3, emptyDict), (a2, keyObj C x2 d2), (x2, emptyDict), (a1, keyObj C x1 d1), (x1, emptyDict), (a0, keyObj C x0 d0), (x0, emptyDict), (C, o8), (c1, o1), (c2, o2), (c3, o3), (c4, o4), (c5, o5), (c6, o6), (c7, o7), (cL, oL), (cK, oKc), (cW, oW), (cD, oDc), (dl, listOf #[.ref d0, .ref d1, .ref d2, .ref d3, .ref d4] n), (70, T)])
    (hc : ClsOf w C [(C, o8), (c1, o1), (c2, o2), (c3, o3), (c4, o4), (c5, o5), (c6, o6), (c7, o7)])
    (hds : ∀ q ∈ [(d0, e0), (d1, e1), (d2, e2), (d3, e3), (d4, e4)], B.get? q.1 = none ∧ DeedAt h₀ q.1 q.2 ∧ q.2.ok)
    (hrk : [e0.rank, e1.rank, e2.rank, e3.rank, e4.rank].Nodup) (dL : oL.data = .cell vL)
    (lS : AllLt S [(H, oH), (K, listOf #[.ref a0, .ref a1, .ref a2, .ref a3, .ref a4] 5), (a4, keyObj C x4 d4), (x4, emptyDict), (a3, keyObj C x3 d3), (x3, emptyDict), (a2, keyObj C x2 d2), (x2, emptyDict), (a1, keyObj C x1 d1), (x1, emptyDict), (a0, keyObj C x0 d0), (x0, emptyDict), (C, o8), (c1, o1), (c2, o2), (c3, o3), (c4, o4), (c5, o5), (c6, o6), (c7, o7), (cL, oL), (cK, oKc), (cW, oW), (cD, oDc), (dl, listOf #[.ref d0, .ref d1, .ref d2, .ref d3, .ref d4] n), (70, T)])
    (lH : AllLt H [(K, listOf #[.ref a0, .ref a1, .ref a2, .ref a3, .ref a4] 5), (a4, keyObj C x4 d4), (x4, emptyDict), (a3, keyObj C x3 d3), (x3, emptyDict), (a2, keyObj C x2 d2), (x2, emptyDict), (a1, keyObj C x1 d1), (x1, emptyDict), (a0, keyObj C x0 d0), (x0, emptyDict), (C, o8), (c1, o1), (c2, o2), (c3, o3), (c4, o4), (c5, o5), (c6, o6), (c7, o7), (cL, oL), (cK, oKc), (cW, oW), (cD, oDc), (dl, listOf #[.ref d0, .ref d1, .ref d2, .ref d3, .ref d4] n), (70, T)])
    (lk : @LT.lt Nat instLTNat a0 a1 ∧ @LT.lt Nat instLTNat a1 a2 ∧ @LT.lt Nat instLTNat a2 a3 ∧ @LT.lt Nat instLTNat a3 a4)
    (lc : @LT.lt Nat instLTNat cL a4 ∧ @LT.lt Nat instLTNat cL x4 ∧ @LT.lt Nat instLTNat cL a3 ∧ @LT.lt Nat instLTNat cL x3 ∧ @LT.lt Nat instLTNat cL a2 ∧ @LT.lt Nat instLTNat cL x2 ∧ @LT.lt Nat instLTNat cL a1 ∧ @LT.lt Nat instLTNat cL x1 ∧ @LT.lt Nat instLTNat cL a0 ∧ @LT.lt Nat instLTNat cL x0 ∧ @LT.lt Nat instLTNat cL C ∧ @LT.lt Nat instLTNat cL c1 ∧ @LT.lt Nat instLTNat cL c2 ∧ @LT.lt Nat instLTNat cL c3 ∧ @LT.lt Nat instLTNat cL c4 ∧ @LT.lt Nat instLTNat cL c5 ∧ @LT.lt Nat instLTNat cL c6 ∧ @LT.lt Nat instLTNat cL c7) (l70 : @Ne Nat 70 cL) :
    ∃ (S' H' K' C' : Addr) (oKc' : Obj), S' = S ∧ H' = H ∧ K' = K ∧ C' = C ∧ oKc' = oKc ∧ ∃ (zs : List KZ) (tl : List (Addr × Obj)), zs.map (·.2) = [(d0, e0), (d1, e1), (d2, e2), (d3, e3), (d4, e4)] ∧ zs.length = 5 ∧
      News h₀ L h ((S, oS) :: (H, oH) :: (cL, oL) :: (K, listOf (refsOf (zs.map (·.1))) 5) :: (cK, oKc) :: (cD, oDc) :: (dl, listOf (refsD (zs.map (·.2))).toArray n) :: tl) ∧
      ClsOf w C tl ∧ (∀ z ∈ zs, KeyE B h₀ C tl z.1 z.2.1 z.2.2) ∧ (zs.map fun z => z.1.1).Nodup ∧ (zs.map fun z => z.2.2.rank).Nodup ∧ (∀ p ∈ tl, p.1 ≠ S) ∧ (∀ p ∈ tl, p.1 ≠ H) ∧ (∀ p ∈ tl, p.1 ≠ cL) ∧ (70, T) ∈ tl ∧
      @LT.lt Nat instLTNat H S ∧ @LT.lt Nat instLTNat K H ∧ @LT.lt Nat instLTNat cL H ∧ @LT.lt Nat instLTNat cK H ∧ @LT.lt Nat instLTNat cD H ∧ @LT.lt Nat instLTNat dl H ∧ @Ne Nat K cL := by
  have mS := allLt_mem lS
  have mH := allLt_mem lH
  have NR : News h₀ L h [(a4, keyObj C x4 d4), (x4, emptyDict), (a3, keyObj C x3 d3), (x3, emptyDict), (a2, keyObj C x2 d2), (x2, emptyDict), (a1, keyObj C x1 d1), (x1, emptyDict), (a0, keyObj C x0 d0), (x0, emptyDict), (C, o8), (c1, o1), (c2, o2), (c3, o3), (c4, o4), (c5, o5), (c6, o6), (c7, o7), (cL, oL), (cK, oKc), (cW, oW), (cD, oDc), (dl, listOf #[.ref d0, .ref d1, .ref d2, .ref d3, .ref d4] n), (70, T)] := News.tail' (News.tail' (News.tail' (News.tail' N)))
  have NT : News h₀ L h [(a4, keyObj C x4 d4), (x4, emptyDict), (a3, keyObj C x3 d3), (x3, emptyDict), (a2, keyObj C x2 d2), (x2, emptyDict), (a1, keyObj C x1 d1), (x1, emptyDict), (a0, keyObj C x0 d0), (x0, emptyDict), (C, o8), (c1, o1), (c2, o2), (c3, o3), (c4, o4), (c5, o5), (c6, o6), (c7, o7)] := fun p hp => NR p (List.mem_of_mem_take (i := 18) hp)
  have nc : ∀ {p : Addr × Obj} {l : List (Addr × Obj)}, (h.get? p.1 = some p.2 ∧ p.1 ≠ L ∧ h₀.get? p.1 = none) → News h₀ L h l → News h₀ L h (p :: l) := fun a b => List.forall_mem_cons.mpr ⟨a, b⟩
  obtain ⟨l1, l2, l3, l4, l5, l6, l7, l8, l9, l10, l11, l12, l13, l14, l15, l16, l17, l18⟩ := lc
  refine ⟨S, H, K, C, oKc, rfl, rfl, rfl, rfl, rfl, [((a0, e0.rank), (d0, e0)), ((a1, e1.rank), (d1, e1)), ((a2, e2.rank), (d2, e2)), ((a3, e3.rank), (d3, e3)), ((a4, e4.rank), (d4, e4))], [(70, T), (a4, keyObj C x4 d4), (x4, emptyDict), (a3, keyObj C x3 d3), (x3, emptyDict), (a2, keyObj C x2 d2), (x2, emptyDict), (a1, keyObj C x1 d1), (x1, emptyDict), (a0, keyObj C x0 d0), (x0, emptyDict), (C, o8), (c1, o1), (c2, o2), (c3, o3), (c4, o4), (c5, o5), (c6, o6), (c7, o7)], rfl, rfl, ?_, ?_, ?_, ?_, hrk, ?_, ?_, ?_, .head _, lS.1, lH.1, mH (cL, oL) (.tail _ (.tail _ (.tail _ (.tail _ (.tail _ (.tail _ (.tail _ (.tail _ (.tail _ (.tail _ (.tail _ (.tail _ (.tail _ (.tail _ (.tail _ (.tail _ (.tail _ (.tail _ (.tail _ (.head _)))))))))))))))))))), mH (cK, oKc) (.tail _ (.tail _ (.tail _ (.tail _ (.tail _ (.tail _ (.tail _ (.tail _ (.tail _ (.tail _ (.tail _ (.tail _ (.tail _ (.tail _ (.tail _ (.tail _ (.tail _ (.tail _ (.tail _ (.tail _ (.head _))))))))))))))))))))), mH (cD, oDc) (.tail _ (.tail _ (.tail _ (.tail _ (.tail _ (.tail _ (.tail _ (.tail _ (.tail _ (.tail _ (.tail _ (.tail _ (.tail _ (.tail _ (.tail _ (.tail _ (.tail _ (.tail _ (.tail _ (.tail _ (.tail _ (.tail _ (.head _))))))))))))))))))))))), mH (dl, listOf #[.ref d0, .ref d1, .ref d2, .ref d3, .ref d4] n) (.tail _ (.tail _ (.tail _ (.tail _ (.tail _ (.tail _ (.tail _ (.tail _ (.tail _ (.tail _ (.tail _ (.tail _ (.tail _ (.tail _ (.tail _ (.tail _ (.tail _ (.tail _ (.tail _ (.tail _ (.tail _ (.tail _ (.tail _ (.head _)))))))))))))))))))))))), ?_⟩
  · exact nc (N _ (.tail _ (.head _))) (nc (N _ (.tail _ (.tail _ (.head _)))) (nc (N _ (.tail _ (.tail _ (.tail _ (.tail _ (.tail _ (.tail _ (.tail _ (.tail _ (.tail _ (.tail _ (.tail _ (.tail _ (.tail _ (.tail _ (.tail _ (.tail _ (.tail _ (.tail _ (.tail _ (.tail _ (.tail _ (.tail _ (.head _)))))))))))))))))))))))) (nc (N _ (.tail _ (.tail _ (.tail _ (.head _))))) (nc (N _ (.tail _ (.tail _ (.tail _ (.tail _ (.tail _ (.tail _ (.tail _ (.tail _ (.tail _ (.tail _ (.tail _ (.tail _ (.tail _ (.tail _ (.tail _ (.tail _ (.tail _ (.tail _ (.tail _ (.tail _ (.tail _ (.tail _ (.tail _ (.head _))))))))))))))))))))))))) (nc (N _ (.tail _ (.tail _ (.tail _ (.tail _ (.tail _ (.tail _ (.tail _ (.tail _ (.tail _ (.tail _ (.tail _ (.tail _ (.tail _ (.tail _ (.tail _ (.tail _ (.tail _ (.tail _ (.tail _ (.tail _ (.tail _ (.tail _ (.tail _ (.tail _ (.tail _ (.head _))))))))))))))))))))))))))) (nc (N _ (.tail _ (.tail _ (.tail _ (.tail _ (.tail _ (.tail _ (.tail _ (.tail _ (.tail _ (.tail _ (.tail _ (.tail _ (.tail _ (.tail _ (.tail _ (.tail _ (.tail _ (.tail _ (.tail _ (.tail _ (.tail _ (.tail _ (.tail _ (.tail _ (.tail _ (.tail _ (.head _)))))))))))))))))))))))))))) (nc (N _ (.tail _ (.tail _ (.tail _ (.tail _ (.tail _ (.tail _ (.tail _ (.tail _ (.tail _ (.tail _ (.tail _ (.tail _ (.tail _ (.tail _ (.tail _ (.tail _ (.tail _ (.tail _ (.tail _ (.tail _ (.tail _ (.tail _ (.tail _ (.tail _ (.tail _ (.tail _ (.tail _ (.head _))))))))))))))))))))))))))))) NT)))))))
  · intro h' hh
    exact hc h' fun p hp => hh p (.tail _ (List.mem_of_mem_drop (i := 10) hp))
  · exact List.forall_mem_cons.mpr ⟨(let ⟨u1, u2, u3⟩ := hds (d0, e0) (.head _); ⟨x0, .tail _ (.tail _ (.tail _ (.tail _ (.tail _ (.tail _ (.tail _ (.tail _ (.tail _ (.head _))))))))), .tail _ (.tail _ (.tail _ (.tail _ (.tail _ (.tail _ (.tail _ (.tail _ (.tail _ (.tail _ (.head _)))))))))), u2, u1, u3, rfl⟩), List.forall_mem_cons.mpr ⟨(let ⟨u1, u2, u3⟩ := hds (d1, e1) (.tail _ (.head _)); ⟨x1, .tail _ (.tail _ (.tail _ (.tail _ (.tail _ (.tail _ (.tail _ (.head _))))))), .tail _ (.tail _ (.tail _ (.tail _ (.tail _ (.tail _ (.tail _ (.tail _ (.head _)))))))), u2, u1, u3, rfl⟩), List.forall_mem_cons.mpr ⟨(let ⟨u1, u2, u3⟩ := hds (d2, e2) (.tail _ (.tail _ (.head _))); ⟨x2, .tail _ (.tail _ (.tail _ (.tail _ (.tail _ (.head _))))), .tail _ (.tail _ (.tail _ (.tail _ (.tail _ (.tail _ (.head _)))))), u2, u1, u3, rfl⟩), List.forall_mem_cons.mpr ⟨(let ⟨u1, u2, u3⟩ := hds (d3, e3) (.tail _ (.tail _ (.tail _ (.head _)))); ⟨x3, .tail _ (.tail _ (.tail _ (.head _))), .tail _ (.tail _ (.tail _ (.tail _ (.head _)))), u2, u1, u3, rfl⟩), List.forall_mem_cons.mpr ⟨(let ⟨u1, u2, u3⟩ := hds (d4, e4) (.tail _ (.tail _ (.tail _ (.tail _ (.head _))))); ⟨x4, .tail _ (.head _), .tail _ (.tail _ (.head _)), u2, u1, u3, rfl⟩), List.forall_mem_nil _⟩⟩⟩⟩⟩
  · obtain ⟨k1, k2, k3, k4⟩ := lk
    show [a0, a1, a2, a3, a4].Nodup
    have q : ∀ a b : Nat, a < b → (a : Addr) ≠ b := fun a b h => Nat.ne_of_lt h
    have t1 := Nat.lt_trans k1 k2
    have t2 := Nat.lt_trans t1 k3
    have t3 := Nat.lt_trans t2 k4
    have t4 := Nat.lt_trans k2 k3
    have t5 := Nat.lt_trans t4 k4
    have t6 := Nat.lt_trans k3 k4
    simp only [List.nodup_cons, List.mem_cons, List.not_mem_nil, or_false, not_or, List.nodup_nil, and_true, not_false_eq_true]
    exact ⟨⟨q _ _ k1, q _ _ t1, q _ _ t2, q _ _ t3⟩, ⟨q _ _ k2, q _ _ t4, q _ _ t5⟩, ⟨q _ _ k3, q _ _ t6⟩, q _ _ k4⟩
  · exact List.forall_mem_cons.mpr ⟨Nat.ne_of_lt (mS (70, T) (.tail _ (.tail _ (.tail _ (.tail _ (.tail _ (.tail _ (.tail _ (.tail _ (.tail _ (.tail _ (.tail _ (.tail _ (.tail _ (.tail _ (.tail _ (.tail _ (.tail _ (.tail _ (.tail _ (.tail _ (.tail _ (.tail _ (.tail _ (.tail _ (.tail _ (.head _))))))))))))))))))))))))))), fun p hp => Nat.ne_of_lt (mS p (.tail _ (.tail _ (List.mem_of_mem_take (i := 18) (l := [(a4, keyObj C x4 d4), (x4, emptyDict), (a3, keyObj C x3 d3), (x3, emptyDict), (a2, keyObj C x2 d2), (x2, emptyDict), (a1, keyObj C x1 d1), (x1, emptyDict), (a0, keyObj C x0 d0), (x0, emptyDict), (C, o8), (c1, o1), (c2, o2), (c3, o3), (c4, o4), (c5, o5), (c6, o6), (c7, o7), (cL, oL), (cK, oKc), (cW, oW), (cD, oDc), (dl, listOf #[.ref d0, .ref d1, .ref d2, .ref d3, .ref d4] n), (70, T)]) hp))))⟩
  · exact List.forall_mem_cons.mpr ⟨Nat.ne_of_lt (mH (70, T) (.tail _ (.tail _ (.tail _ (.tail _ (.tail _ (.tail _ (.tail _ (.tail _ (.tail _ (.tail _ (.tail _ (.tail _ (.tail _ (.tail _ (.tail _ (.tail _ (.tail _ (.tail _ (.tail _ (.tail _ (.tail _ (.tail _ (.tail _ (.tail _ (.head _)))))))))))))))))))))))))), fun p hp => Nat.ne_of_lt (mH p (.tail _ (List.mem_of_mem_take (i := 18) (l := [(a4, keyObj C x4 d4), (x4, emptyDict), (a3, keyObj C x3 d3), (x3, emptyDict), (a2, keyObj C x2 d2), (x2, emptyDict), (a1, keyObj C x1 d1), (x1, emptyDict), (a0, keyObj C x0 d0), (x0, emptyDict), (C, o8), (c1, o1), (c2, o2), (c3, o3), (c4, o4), (c5, o5), (c6, o6), (c7, o7), (cL, oL), (cK, oKc), (cW, oW), (cD, oDc), (dl, listOf #[.ref d0, .ref d1, .ref d2, .ref d3, .ref d4] n), (70, T)]) hp)))⟩
  · exact List.forall_mem_cons.mpr ⟨l70, List.forall_mem_cons.mpr ⟨Nat.ne_of_gt l1, List.forall_mem_cons.mpr ⟨Nat.ne_of_gt l2, List.forall_mem_cons.mpr ⟨Nat.ne_of_gt l3, List.forall_mem_cons.mpr ⟨Nat.ne_of_gt l4, List.forall_mem_cons.mpr ⟨Nat.ne_of_gt l5, List.forall_mem_cons.mpr ⟨Nat.ne_of_gt l6, List.forall_mem_cons.mpr ⟨Nat.ne_of_gt l7, List.forall_mem_cons.mpr ⟨Nat.ne_of_gt l8, List.forall_mem_cons.mpr ⟨Nat.ne_of_gt l9, List.forall_mem_cons.mpr ⟨Nat.ne_of_gt l10, List.forall_mem_cons.mpr ⟨Nat.ne_of_gt l11, List.forall_mem_cons.mpr ⟨Nat.ne_of_gt l12, List.forall_mem_cons.mpr ⟨Nat.ne_of_gt l13, List.forall_mem_cons.mpr ⟨Nat.ne_of_gt l14, List.forall_mem_cons.mpr ⟨Nat.ne_of_gt l15, List.forall_mem_cons.mpr ⟨Nat.ne_of_gt l16, List.forall_mem_cons.mpr ⟨Nat.ne_of_gt l17, List.forall_mem_cons.mpr ⟨Nat.ne_of_gt l18, List.forall_mem_nil _⟩⟩⟩⟩⟩⟩⟩⟩⟩⟩⟩⟩⟩⟩⟩⟩⟩⟩⟩
  · intro e
    have e' : K = cL := e
    have g1 := (N (K, listOf #[.ref a0, .ref a1, .ref a2, .ref a3, .ref a4] 5) (.tail _ (.tail _ (.tail _ (.head _))))).1
    have g2 := (N (cL, oL) (.tail _ (.tail _ (.tail _ (.tail _ (.tail _ (.tail _ (.tail _ (.tail _ (.tail _ (.tail _ (.tail _ (.tail _ (.tail _ (.tail _ (.tail _ (.tail _ (.tail _ (.tail _ (.tail _ (.tail _ (.tail _ (.tail _ (.head _)))))))))))))))))))))))).1
    dsimp only at g1 g2
    rw [e', g2] at g1
    rw [Option.some.inj g1] at dL
    cases dL
section
variable {prog : Program} {w : World} {A : Around} {E : Value → Shared → Prop} {s : Shared} {h₀ : Heap} {L l : Addr} {news : List (Addr × Obj)} {n : Nat}
theorem truthy_nil {Q : Bool → Shared → Prop} (N : News h₀ L s.heap news) (hm : (l, listOf (refsOf []) n) ∈ news) (h : Q false { s with toks := s.toks + 1 + 1 }) : wpAny (model prog w) A (truthy (.ref l)) Q E s :=
  wpAny_truthy_list ⟨_, (N _ hm).1, rfl, n, rfl⟩ (by decide) h
theorem truthy_cons {q : RK} {r : List RK} {Q : Bool → Shared → Prop} (N : News h₀ L s.heap news) (hm : (l, listOf (refsOf (q :: r)) n) ∈ news) (hz : r.length ≤ 4) (h : Q true { s with toks := s.toks + 1 + 1 }) : wpAny (model prog w) A (truthy (.ref l)) Q E s :=
  wpAny_truthy_list ⟨_, (N _ hm).1, rfl, n, rfl⟩ (by simp [refsOf]; omega) (by
    have e : (!(refsOf (q :: r)).isEmpty) = true := by simp [refsOf]
    rw [e]; exact h)
theorem len_refs5 {hl : List RK} {Q : Value → Shared → Prop} (N : News h₀ L s.heap news) (hm : (l, listOf (refsOf hl) n) ∈ news) (hz : hl.length = 5)
    (h : ∀ k t, Q (.int 5 t) { s with toks := k }) : wpAny (model prog w) A (call (.builtin "len") [.ref l]) Q E s := by
  have e : ((refsOf hl).size : Int) = 5 := by simp [refsOf, hz]
  refine len_list (items := refsOf hl) ⟨_, (N _ hm).1, rfl, n, rfl⟩ (by omega) ?_
  rw [e]
  exact h _ _
end
theorem name3 {h₀ h : Heap} {L a b c i : Addr} {oa ob oc oi : Obj} {news : List (Addr × Obj)} (_N : News h₀ L h ((a, oa) :: (b, ob) :: (c, oc) :: (i, oi) :: news)) : ∃ a' b' c' oi', a' = a ∧ b' = b ∧ c' = c ∧ oi' = oi := ⟨_, _, _, _, rfl, rfl, rfl, rfl⟩
theorem strV_len (l : List (Str × Tok)) : (strValues l).toArray.size = l.length := by simp [strValues]
theorem refsD_app (r : List (Addr × Deed)) (d : Addr × Deed) : (refsD r).toArray ++ #[Value.ref d.1] = (refsD (r ++ [d])).toArray := by simp [refsD]
end Mine

end
section
-- HI
open PySem PySem.W PySem.Spec PySem.Calls PyProof.Rows
set_option Elab.async false
set_option maxRecDepth 100000
set_option maxHeartbeats 4000000
namespace Mine
theorem fillK15 : ∀ w : World, (hd0.heap_1 w.params).In default → PySem.Challenge.rw_nq0103_01.prog = PySem.Challenge.rw_nq0103_01.prog → True := by
  k_fill
  intros; trivial
theorem subL7 {a0 a1 a2 a3 a4 a5 a6 : Addr × Obj} {l : List (Addr × Obj)} : SubL l (a0 :: a1 :: a2 :: a3 :: a4 :: a5 :: a6 :: l) := subL_of fun _ hp => .tail _ (.tail _ (.tail _ (.tail _ (.tail _ (.tail _ (.tail _ (hp)))))))
theorem subL8 {a0 a1 a2 a3 a4 a5 a6 a7 : Addr × Obj} {l : List (Addr × Obj)} : SubL l (a0 :: a1 :: a2 :: a3 :: a4 :: a5 :: a6 :: a7 :: l) := subL_of fun _ hp => .tail _ (.tail _ (.tail _ (.tail _ (.tail _ (.tail _ (.tail _ (.tail _ (hp))))))))
theorem subL9 {a0 a1 a2 a3 a4 a5 a6 a7 a8 : Addr × Obj} {l : List (Addr × Obj)} : SubL l (a0 :: a1 :: a2 :: a3 :: a4 :: a5 :: a6 :: a7 :: a8 :: l) := subL_of fun _ hp => .tail _ (.tail _ (.tail _ (.tail _ (.tail _ (.tail _ (.tail _ (.tail _ (.tail _ (hp)))))))))
theorem subL10 {a0 a1 a2 a3 a4 a5 a6 a7 a8 a9 : Addr × Obj} {l : List (Addr × Obj)} : SubL l (a0 :: a1 :: a2 :: a3 :: a4 :: a5 :: a6 :: a7 :: a8 :: a9 :: l) := subL_of fun _ hp => .tail _ (.tail _ (.tail _ (.tail _ (.tail _ (.tail _ (.tail _ (.tail _ (.tail _ (.tail _ (hp))))))))))
theorem subL11 {a0 a1 a2 a3 a4 a5 a6 a7 a8 a9 a10 : Addr × Obj} {l : List (Addr × Obj)} : SubL l (a0 :: a1 :: a2 :: a3 :: a4 :: a5 :: a6 :: a7 :: a8 :: a9 :: a10 :: l) := subL_of fun _ hp => .tail _ (.tail _ (.tail _ (.tail _ (.tail _ (.tail _ (.tail _ (.tail _ (.tail _ (.tail _ (.tail _ (hp)))))))))))
theorem subL12 {a0 a1 a2 a3 a4 a5 a6 a7 a8 a9 a10 a11 : Addr × Obj} {l : List (Addr × Obj)} : SubL l (a0 :: a1 :: a2 :: a3 :: a4 :: a5 :: a6 :: a7 :: a8 :: a9 :: a10 :: a11 :: l) := subL_of fun _ hp => .tail _ (.tail _ (.tail _ (.tail _ (.tail _ (.tail _ (.tail _ (.tail _ (.tail _ (.tail _ (.tail _ (.tail _ (hp))))))))))))
theorem pack2 {P : Prop} {w : World} {B h₀ h : Heap} {L C a0 a1 a2 a3 a4 x0 x1 x2 x3 x4 c1 c2 c3 c4 c5 c6 c7 d0 d1 d2 d3 d4 S H K cL cK cW cD dl Dt I0 G0 D0 I1 G1 D1 I2 G2 D2 I3 G3 D3 I4 G4 D4 lo : Addr} {e0 e1 e2 e3 e4 : Deed} {o1 o2 o3 o4 o5 o6 o7 o8 oDt oS oH oL oKc oW oDc T : Obj} {n : Nat} {vL : Option Value} {rest : Prop}
    (N : News h₀ L h [(Dt, oDt), (S, oS), (H, oH), (K, listOf #[.ref a0, .ref a1, .ref a2, .ref a3, .ref a4] 5), (a4, keyObj C x4 d4), (x4, emptyDict), (a3, keyObj C x3 d3), (x3, emptyDict), (a2, keyObj C x2 d2), (x2, emptyDict), (a1, keyObj C x1 d1), (x1, emptyDict), (a0, keyObj C x0 d0), (x0, emptyDict), (C, o8), (c1, o1), (c2, o2), (c3, o3), (c4, o4), (c5, o5), (c6, o6), (c7, o7), (cL, oL), (cK, oKc), (cW, oW), (cD, oDc), (dl, listOf #[.ref d0, .ref d1, .ref d2, .ref d3, .ref d4] n), (70, T)])
    (hc : ClsOf w C [(C, o8), (c1, o1), (c2, o2), (c3, o3), (c4, o4), (c5, o5), (c6, o6), (c7, o7)])
    (hds : ∀ q ∈ [(d0, e0), (d1, e1), (d2, e2), (d3, e3), (d4, e4)], B.get? q.1 = none ∧ DeedAt h₀ q.1 q.2 ∧ q.2.ok)
    (hrk : [e0.rank, e1.rank, e2.rank, e3.rank, e4.rank].Nodup) (dL : oL.data = .cell vL)
    (lS : AllLt S [(H, oH), (K, listOf #[.ref a0, .ref a1, .ref a2, .ref a3, .ref a4] 5), (a4, keyObj C x4 d4), (x4, emptyDict), (a3, keyObj C x3 d3), (x3, emptyDict), (a2, keyObj C x2 d2), (x2, emptyDict), (a1, keyObj C x1 d1), (x1, emptyDict), (a0, keyObj C x0 d0), (x0, emptyDict), (C, o8), (c1, o1), (c2, o2), (c3, o3), (c4, o4), (c5, o5), (c6, o6), (c7, o7), (cL, oL), (cK, oKc), (cW, oW), (cD, oDc), (dl, listOf #[.ref d0, .ref d1, .ref d2, .ref d3, .ref d4] n), (70, T)]) (lH : AllLt H [(K, listOf #[.ref a0, .ref a1, .ref a2, .ref a3, .ref a4] 5), (a4, keyObj C x4 d4), (x4, emptyDict), (a3, keyObj C x3 d3), (x3, emptyDict), (a2, keyObj C x2 d2), (x2, emptyDict), (a1, keyObj C x1 d1), (x1, emptyDict), (a0, keyObj C x0 d0), (x0, emptyDict), (C, o8), (c1, o1), (c2, o2), (c3, o3), (c4, o4), (c5, o5), (c6, o6), (c7, o7), (cL, oL), (cK, oKc), (cW, oW), (cD, oDc), (dl, listOf #[.ref d0, .ref d1, .ref d2, .ref d3, .ref d4] n), (70, T)])
    (q0 : @LT.lt Nat instLTNat I0 x0 ∧ @LT.lt Nat instLTNat G0 x0 ∧ @LT.lt Nat instLTNat D0 x0 ∧ @LT.lt Nat instLTNat C x0 ∧ @LT.lt Nat instLTNat c1 x0 ∧ @LT.lt Nat instLTNat c2 x0 ∧ @LT.lt Nat instLTNat c3 x0 ∧ @LT.lt Nat instLTNat c4 x0 ∧ @LT.lt Nat instLTNat c5 x0 ∧ @LT.lt Nat instLTNat c6 x0 ∧ @LT.lt Nat instLTNat c7 x0 ∧ @LT.lt Nat instLTNat cL x0 ∧ @LT.lt Nat instLTNat cK x0 ∧ @LT.lt Nat instLTNat cW x0 ∧ @LT.lt Nat instLTNat cD x0 ∧ @LT.lt Nat instLTNat dl x0 ∧ @LT.lt Nat instLTNat 70 x0)
    (q1 : @LT.lt Nat instLTNat I1 x1 ∧ @LT.lt Nat instLTNat G1 x1 ∧ @LT.lt Nat instLTNat D1 x1 ∧ @LT.lt Nat instLTNat a0 x1 ∧ @LT.lt Nat instLTNat x0 x1 ∧ @LT.lt Nat instLTNat C x1 ∧ @LT.lt Nat instLTNat c1 x1 ∧ @LT.lt Nat instLTNat c2 x1 ∧ @LT.lt Nat instLTNat c3 x1 ∧ @LT.lt Nat instLTNat c4 x1 ∧ @LT.lt Nat instLTNat c5 x1 ∧ @LT.lt Nat instLTNat c6 x1 ∧ @LT.lt Nat instLTNat c7 x1 ∧ @LT.lt Nat instLTNat cL x1 ∧ @LT.lt Nat instLTNat cK x1 ∧ @LT.lt Nat instLTNat cW x1 ∧ @LT.lt Nat instLTNat cD x1 ∧ @LT.lt Nat instLTNat dl x1 ∧ @LT.lt Nat instLTNat 70 x1)
    (q2 : @LT.lt Nat instLTNat I2 x2 ∧ @LT.lt Nat instLTNat G2 x2 ∧ @LT.lt Nat instLTNat D2 x2 ∧ @LT.lt Nat instLTNat a1 x2 ∧ @LT.lt Nat instLTNat x1 x2 ∧ @LT.lt Nat instLTNat a0 x2 ∧ @LT.lt Nat instLTNat x0 x2 ∧ @LT.lt Nat instLTNat C x2 ∧ @LT.lt Nat instLTNat c1 x2 ∧ @LT.lt Nat instLTNat c2 x2 ∧ @LT.lt Nat instLTNat c3 x2 ∧ @LT.lt Nat instLTNat c4 x2 ∧ @LT.lt Nat instLTNat c5 x2 ∧ @LT.lt Nat instLTNat c6 x2 ∧ @LT.lt Nat instLTNat c7 x2 ∧ @LT.lt Nat instLTNat cL x2 ∧ @LT.lt Nat instLTNat cK x2 ∧ @LT.lt Nat instLTNat cW x2 ∧ @LT.lt Nat instLTNat cD x2 ∧ @LT.lt Nat instLTNat dl x2 ∧ @LT.lt Nat instLTNat 70 x2)
    (q3 : @LT.lt Nat instLTNat I3 x3 ∧ @LT.lt Nat instLTNat G3 x3 ∧ @LT.lt Nat instLTNat D3 x3 ∧ @LT.lt Nat instLTNat a2 x3 ∧ @LT.lt Nat instLTNat x2 x3 ∧ @LT.lt Nat instLTNat a1 x3 ∧ @LT.lt Nat instLTNat x1 x3 ∧ @LT.lt Nat instLTNat a0 x3 ∧ @LT.lt Nat instLTNat x0 x3 ∧ @LT.lt Nat instLTNat C x3 ∧ @LT.lt Nat instLTNat c1 x3 ∧ @LT.lt Nat instLTNat c2 x3 ∧ @LT.lt Nat instLTNat c3 x3 ∧ @LT.lt Nat instLTNat c4 x3 ∧ @LT.lt Nat instLTNat c5 x3 ∧ @LT.lt Nat instLTNat c6 x3 ∧ @LT.lt Nat instLTNat c7 x3 ∧ @LT.lt Nat instLTNat cL x3 ∧ @LT.lt Nat instLTNat cK x3 ∧ @LT.lt Nat instLTNat cW x3 ∧ @LT.lt Nat instLTNat cD x3 ∧ @LT.lt Nat instLTNat dl x3 ∧ @LT.lt Nat instLTNat 70 x3)
    (q4 : @LT.lt Nat instLTNat I4 x4 ∧ @LT.lt Nat instLTNat G4 x4 ∧ @LT.lt Nat instLTNat D4 x4 ∧ @LT.lt Nat instLTNat a3 x4 ∧ @LT.lt Nat instLTNat x3 x4 ∧ @LT.lt Nat instLTNat a2 x4 ∧ @LT.lt Nat instLTNat x2 x4 ∧ @LT.lt Nat instLTNat a1 x4 ∧ @LT.lt Nat instLTNat x1 x4 ∧ @LT.lt Nat instLTNat a0 x4 ∧ @LT.lt Nat instLTNat x0 x4 ∧ @LT.lt Nat instLTNat C x4 ∧ @LT.lt Nat instLTNat c1 x4 ∧ @LT.lt Nat instLTNat c2 x4 ∧ @LT.lt Nat instLTNat c3 x4 ∧ @LT.lt Nat instLTNat c4 x4 ∧ @LT.lt Nat instLTNat c5 x4 ∧ @LT.lt Nat instLTNat c6 x4 ∧ @LT.lt Nat instLTNat c7 x4 ∧ @LT.lt Nat instLTNat cL x4 ∧ @LT.lt Nat instLTNat cK x4 ∧ @LT.lt Nat instLTNat cW x4 ∧ @LT.lt Nat instLTNat cD x4 ∧ @LT.lt Nat instLTNat dl x4 ∧ @LT.lt Nat instLTNat 70 x4)
    (k0 : @LT.lt Nat instLTNat x0 a0) (k1 : @LT.lt Nat instLTNat x1 a1) (k2 : @LT.lt Nat instLTNat x2 a2) (k3 : @LT.lt Nat instLTNat x3 a3) (k4 : @LT.lt Nat instLTNat x4 a4)
    (ql : @LT.lt Nat instLTNat cL lo ∧ rest) (qm : @LE.le Nat instLENat lo C ∧ @LE.le Nat instLENat lo c1 ∧ @LE.le Nat instLENat lo c2 ∧ @LE.le Nat instLENat lo c3 ∧ @LE.le Nat instLENat lo c4 ∧ @LE.le Nat instLENat lo c5 ∧ @LE.le Nat instLENat lo c6 ∧ @LE.le Nat instLENat lo c7) (l70 : @Ne Nat 70 cL)
    (k : ∀ (C' : Addr) (zs : List KZ) (tl : List (Addr × Obj)), zs.map (·.2) = [(d0, e0), (d1, e1), (d2, e2), (d3, e3), (d4, e4)] → zs.length = 5 →
      News h₀ L h ((S, oS) :: (H, oH) :: (cL, oL) :: (K, listOf (refsOf (zs.map (·.1))) 5) :: (cK, oKc) :: (cD, oDc) :: (dl, listOf (refsD (zs.map (·.2))).toArray n) :: tl) →
      ClsOf w C' tl → (∀ z ∈ zs, KeyE B h₀ C' tl z.1 z.2.1 z.2.2) → (zs.map fun z => z.1.1).Nodup → (zs.map fun z => z.2.2.rank).Nodup → (∀ p ∈ tl, p.1 ≠ S) → (∀ p ∈ tl, p.1 ≠ H) → (∀ p ∈ tl, p.1 ≠ cL) → (70, T) ∈ tl →
      @LT.lt Nat instLTNat H S → @LT.lt Nat instLTNat K H → @LT.lt Nat instLTNat cL H → @LT.lt Nat instLTNat cK H → @LT.lt Nat instLTNat cD H → @LT.lt Nat instLTNat dl H → @Ne Nat K cL → P) : P := by
  have hx0 := q0.2.2.2.2.2.2.2.2.2.2.2.1
  have hx1 := q1.2.2.2.2.2.2.2.2.2.2.2.2.2.1
  have hx2 := q2.2.2.2.2.2.2.2.2.2.2.2.2.2.2.2.1
  have hx3 := q3.2.2.2.2.2.2.2.2.2.2.2.2.2.2.2.2.2.1
  have hx4 := q4.2.2.2.2.2.2.2.2.2.2.2.2.2.2.2.2.2.2.2.1
  obtain ⟨S', H', K', C', oK', rfl, rfl, rfl, rfl, rfl, zs, tl, hz1, hz2, N2, hc2, hK2, hn1, hn2, hS2, hH2, hL2, h70m, p1, p2, p3, p4, p5, p6, p7⟩ := pack N hc hds hrk dL lS lH ⟨Nat.lt_trans (q1.2.2.2.1) k1, Nat.lt_trans (q2.2.2.2.1) k2, Nat.lt_trans (q3.2.2.2.1) k3, Nat.lt_trans (q4.2.2.2.1) k4⟩ ⟨Nat.lt_trans hx4 k4, hx4, Nat.lt_trans hx3 k3, hx3, Nat.lt_trans hx2 k2, hx2, Nat.lt_trans hx1 k1, hx1, Nat.lt_trans hx0 k0, hx0, Nat.lt_of_lt_of_le ql.1 qm.1, Nat.lt_of_lt_of_le ql.1 qm.2.1, Nat.lt_of_lt_of_le ql.1 qm.2.2.1, Nat.lt_of_lt_of_le ql.1 qm.2.2.2.1, Nat.lt_of_lt_of_le ql.1 qm.2.2.2.2.1, Nat.lt_of_lt_of_le ql.1 qm.2.2.2.2.2.1, Nat.lt_of_lt_of_le ql.1 qm.2.2.2.2.2.2.1, Nat.lt_of_lt_of_le ql.1 qm.2.2.2.2.2.2.2⟩ l70
  exact k _ zs tl hz1 hz2 N2 hc2 hK2 hn1 hn2 hS2 hH2 hL2 h70m p1 p2 p3 p4 p5 p6 p7
theorem norm3 {m : Str → Option Value} {x y z : Str} {a b c : Value} (h1 : m x = some a) (h2 : m y = some b) (h3 : m z = some c) : m = fun k => if k = x then some a else if k = y then some b else if k = z then some c else m k := by
  funext k
  by_cases e1 : k = x
  · rw [if_pos e1, e1, h1]
  · rw [if_neg e1]
    by_cases e2 : k = y
    · rw [if_pos e2, e2, h2]
    · rw [if_neg e2]
      by_cases e3 : k = z
      · rw [if_pos e3, e3, h3]
      · rw [if_neg e3]
theorem and9E {P a b c d e f g h i : Prop} (x : a ∧ b ∧ c ∧ d ∧ e ∧ f ∧ g ∧ h ∧ i) (k : a → b → c → d → e → f → g → h → i → P) : P := k x.1 x.2.1 x.2.2.1 x.2.2.2.1 x.2.2.2.2.1 x.2.2.2.2.2.1 x.2.2.2.2.2.2.1 x.2.2.2.2.2.2.2.1 x.2.2.2.2.2.2.2.2
theorem and10E {P a b c d e f g h i j : Prop} (x : a ∧ b ∧ c ∧ d ∧ e ∧ f ∧ g ∧ h ∧ i ∧ j) (k : a → b → c → d → e → f → g → h → i → j → P) : P := and9E x fun a b c d e f g h ij => k a b c d e f g h ij.1 ij.2
theorem list_cases {α : Type} {P : Prop} (l : List α) (h0 : l = [] → P) (h1 : ∀ q r, l = q :: r → P) : P := by
  cases l with
  | nil => exact h0 rfl
  | cons q r => exact h1 q r rfl
theorem CompEnd_two {h₀ : Heap} {L I C D : Addr} {m : Str → Option Value} {s₁ : Shared} {oI oC oD : Obj} {S : List (Addr × Obj) → Prop} {rest : Value → List (Addr × Obj) → Prop} {y : Value} {h' : Heap} {tk : Nat} {old : List (Addr × Obj)} {a x : Addr} {oa ox : Obj} {more : Prop}
    (F : Fr h₀ L h' m) (N : News h₀ L h' ((a, oa) :: (x, ox) :: (I, oI) :: (C, oC) :: (D, oD) :: old)) (off : LCg.Off3 I C D old) (lx : @LT.lt Nat instLTNat I x ∧ @LT.lt Nat instLTNat C x ∧ @LT.lt Nat instLTNat D x ∧ more) (la : @LT.lt Nat instLTNat x a) (hS : S ((a, oa) :: (x, ox) :: old)) (r : rest y ((a, oa) :: (x, ox) :: old)) :
    LCg.CompEnd h₀ L m s₁ I oI C oC D oD S rest y { s₁ with heap := h', toks := tk } :=
  LCg.CompEnd.intro F N ((a, oa) :: (x, ox) :: old) (fun p hp => by
      rcases List.mem_cons.mp hp with h | hp
      · rw [h]; exact .tail _ (.tail _ (.head _))
      rcases List.mem_cons.mp hp with h | hp
      · rw [h]; exact .tail _ (.tail _ (.tail _ (.head _)))
      rcases List.mem_cons.mp hp with h | hp
      · rw [h]; exact .tail _ (.tail _ (.tail _ (.tail _ (.head _))))
      rcases List.mem_cons.mp hp with h | hp
      · rw [h]; exact .head _
      rcases List.mem_cons.mp hp with h | hp
      · rw [h]; exact .tail _ (.head _)
      · exact .tail _ (.tail _ (.tail _ (.tail _ (.tail _ hp))))) ⟨⟨Nat.ne_of_gt (Nat.lt_trans lx.1 la), Nat.ne_of_gt (Nat.lt_trans lx.2.1 la), Nat.ne_of_gt (Nat.lt_trans lx.2.2.1 la)⟩, ⟨Nat.ne_of_gt lx.1, Nat.ne_of_gt lx.2.1, Nat.ne_of_gt lx.2.2.1⟩, off⟩ hS r
local macro_rules | `(tactic| walk_at "CompRest") => `(tactic| (with_unfolding_all first
  | (refine LCg.CompRest.succ ?_; intro v' I' oI' C' oC' D' m' h' tk' E' hv' hC' hx' F' N' off' ne'; (lcg_open hv'); clear ne')
  | refine LCg.CompRest.zero ?_))
local macro_rules | `(tactic| k_all) => `(tactic| assumption)
section
variable {w : World} {A : Around} {s : Shared} {B h₀ : Heap} {p : Program} {loose : List Str} {mean : ExcName → Option Value} {mg mb : Str → Option Value} {Q E : Value → Shared → Prop} {C L hp a : Addr} {n : Nat} {m : Str → Option Value} {news ents : List (Addr × Obj)} {g : Obj → List (Addr × Obj)} {rk : Int}
theorem push_line2 {hl : List RK} (F : Fr h₀ L s.heap m) (N : News h₀ L s.heap news) (hK : ∀ q ∈ (a, rk) :: hl, ∃ a e, KeyE B h₀ C ents q a e) (U : UpdF hp (listOf (refsOf hl) n) news g) (G : Deep w p loose mean mg mb B) (hB : Ext B h₀) (hc : ClsOf w C ents) (hs : SubL ents news)
    (hlen : hl.length ≤ 4) (hr : A.depth + 20 < recursionLimit) (hu : A.units + 100 < cLine)
    (h : ∀ k h' tk', Fr h₀ L h' m → News h₀ L h' (g (listOf (refsOf (pushL hl (a, rk))) k)) → Q .none { s with heap := h', toks := tk' }) :
    wpAny (model prog w) A (call (.ref 91) [.ref hp, .ref a]) Q E s := push_line (x := (a, rk)) F N U G hB hc hs hK hlen hr hu h
theorem pop_line2 {r : List RK} (F : Fr h₀ L s.heap m) (N : News h₀ L s.heap news) (hK : ∀ q ∈ (a, rk) :: r, ∃ a e, KeyE B h₀ C ents q a e) (U : UpdF hp (listOf (refsOf ((a, rk) :: r)) n) news g) (G : Deep w p loose mean mg mb B) (hB : Ext B h₀) (hc : ClsOf w C ents) (hs : SubL ents news)
    (hlen : r.length ≤ 4) (hr : A.depth + 30 < recursionLimit) (hu : A.units + 150 < cLine)
    (h : ∀ k h' tk', Fr h₀ L h' m → News h₀ L h' (g (listOf (refsOf (popL ((a, rk) :: r))) k)) → Q (.ref a) { s with heap := h', toks := tk' }) :
    wpAny (model prog w) A (call (.ref 98) [.ref hp]) Q E s := pop_line (a := (a, rk)) F N U G hB hc hs hK hlen hr hu h
end
theorem refsOf_fit {hl : List RK} (h : hl.length ≤ 5) : (refsOf hl).size ≤ sizeLine := by
  rw [sizeLine_eq]
  simp [refsOf]
  omega
section
variable {w : World} {dp un : Nat} {fr : Option (List Env)} {gd : Option (List Code)} {s : Shared} {B : Heap} {p : Program} {loose : List Str} {mean : ExcName → Option Value} {mg mb : Str → Option Value} {Q E : Value → Shared → Prop} {mo : Int} {t : Tok} {dl d0 d1 d2 d3 d4 : Addr} {e0 e1 e2 e3 e4 : Deed} {n : Nat}
theorem hist_raw (G : Deep w p loose mean mg mb B) (hB : Ext B s.heap) (nb : B.get? dl = none) (n70 : B.get? 70 = none) (hr : dp + 100 < recursionLimit) (hun : un + 300 < cLine)
    (hds : ∀ q ∈ [(d0, e0), (d1, e1), (d2, e2), (d3, e3), (d4, e4)], B.get? q.1 = none ∧ DeedAt s.heap q.1 q.2 ∧ q.2.ok)
    (hrk : [e0.rank, e1.rank, e2.rank, e3.rank, e4.rank].Nodup)
    (g : s.heap.get? dl = some (listOf #[.ref d0, .ref d1, .ref d2, .ref d3, .ref d4] n)) (g7 : s.heap.get? 70 = some (tabObj #[]))
    (hQ : ∀ (D : Addr) h' tk' (k : Nat) (l : List (Str × Tok)) (ps : Array Value), s.heap.get? D = none → h'.get? 70 = some (tabObj ps) → (∀ b o, b ≠ 70 → s.heap.get? b = some o → h'.get? b = some o) → h'.get? D = some (listOf (strValues l).toArray k) → l.map (·.1) = histT mo [(d0, e0), (d1, e1), (d2, e2), (d3, e3), (d4, e4)] 6 → Q (.ref D) { s with heap := h', toks := tk' }) :
    wpAny (model prog w) { handled := none, depth := dp, frames := fr, guards := gd, units := un } (call (.ref 131) [.int mo t, .ref dl]) Q E s := by
  have hh : Ext B (hideAll s.heap [dl, 70]) := hB.hide (by intro y hy; simp only [List.mem_cons, List.not_mem_nil, or_false] at hy; rcases hy with rfl | rfl <;> assumption)
  have hds' : ∀ q ∈ [(d0, e0), (d1, e1), (d2, e2), (d3, e3), (d4, e4)], B.get? q.1 = none ∧ DeedAt (hideAll s.heap [dl, 70]) q.1 q.2 ∧ q.2.ok := fun q hq => by
    obtain ⟨h1, ⟨t1, t2, t3, t4, e⟩, h3⟩ := hds q hq
    refine ⟨h1, ⟨t1, t2, t3, t4, hideAll_get _ e ?_⟩, h3⟩
    intro hm
    simp only [List.mem_cons, List.not_mem_nil, or_false] at hm
    rcases hm with hm | hm
    · rw [hm, g] at e; exact absurd (Value.type.inj (congrArg Obj.cls (Option.some.inj e))) (by decide)
    · rw [hm, g7] at e; exact absurd (congrArg Obj.data (Option.some.inj e)) (by intro q; cases q)
  have X' : (hd0.heap_1 w.params).In (hideAll s.heap [dl, 70]) := G.X.keeps hh
  have T' := G.T.keeps hh
  have NL : (hideAll s.heap [dl, 70]).NoLimit := T'.nolimit
  have X : (hd0.heap_1 w.params).In s.heap := G.X.keeps hB
  refine wpAny_call ?_
  k_dflt (refine' enterMC (muts := [(dl, listOf #[.ref d0, .ref d1, .ref d2, .ref d3, .ref d4] n), (70, tabObj #[])]) (binds := [("mode", .int mo t), ("deeds", .ref dl)]) ?hm X (G.T.nolimit.keeps hB) ?k6 ?k7 ?k8 ?k9 ?kB ?kD ?_ ?c2 ?c3 ?c4; (case hm => exact two_at g g7); (case k6 => k_is); (case k7 => k_is); (case k8 => (show dp < recursionLimit; omega)); (case k9 => exact BindsTo.of_eq rfl); (case kB => exact kindsX rfl); (case kD => decide +kernel); (case c2 => exact rfl); (case c3 => exact rfl); (case c4 => exact rfl))
  intro L h₁ tk cells hl F N Y
  clear X hds
  have hdl70 : @Ne Nat dl 70 := by
    intro e
    have e' : dl = 70 := e
    rw [e', g7] at g
    cases g
  obtain ⟨oA, oK, oW, oD, hE, dA, dK, dW, dD⟩ := CellsAre.four Y
  subst hE
  clear Y
  dsimp only [List.map] at F N
  have hl1 : @LT.lt Nat instLTNat dl L := hl _ (.head _)
  have hl2 : @LT.lt Nat instLTNat 70 L := hl _ (.tail _ (.head _))
  clear hl
  dsimp only
  simp only [List.cons_append, List.nil_append] at N
  repeat ((fail_if_success (with_reducible show wpAny _ _ (exec (PySem.Stmt.For _ _ _ _ _) _) _ _ _)); (first | (k_unfold; (try dsimp only)) | (k_end; wrow_close) | (with_reducible ((with_reducible show IsCN _ _ _ ∧ _); refine And.intro (by first | (refine' isC_now ?a ?b ?c; (case a => assumption); (case b => k_asm); (case c => k_subL); done) | fail) ?_; try dsimp only [List.nil_append, List.cons_append])) | (with_reducible ((with_reducible show IsCN _ _ _); refine isC_now (by first | (assumption; done) | fail) (by first | (k_asm; done) | fail) (by first | (k_subL; done) | fail))) | (with_reducible ((with_reducible show wpAny _ _ (callWith _ (Value.ref _) _ _ _) _ _ _); k_here; k_dflt (refine callWith_C (by first | (assumption; done) | fail) ?_; k_whole))) | (with_reducible ((with_reducible show LCg.CompEnd _ _ _ _ _ _ _ _ _ _ _ _ _ _); refine CompEnd_two (by first | (k_asm; done) | fail) (by first | (k_asm; done) | fail) (by first | (assumption; done) | fail) (by first | (assumption; done) | fail) (by first | (assumption; done) | fail) (by first | (lcg_src; done) | fail) ?_)) | (with_reducible (k_here; (with_reducible show wpAny _ _ (call (Value.ref 68) [Value.int _ _]) _ _ _); k_dflt (refine mode_line (by first | (k_asm; done) | fail) (by first | (k_asm; done) | fail) (by first | (assumption; done) | fail) (by first | (assumption; done) | fail) (by first | (simp only [Around.deeper]; omega; done) | fail) ?_; k_whole); intro h'q9 tk'q9 t'q9 F'q9 N'q9; (try k_sweep))) | (with_reducible (k_here; (with_reducible show wpAny _ _ (call (Value.ref _) [Value.ref _]) _ _ _); k_dflt (refine key_line (by first | (k_asm; done) | fail) (by first | (k_asm; done) | fail) (by first | (assumption; done) | fail) (by first | (k_subL; done) | fail) (by first | (assumption; done) | fail) (by first | (simp only [Around.deeper]; omega; done) | fail) ?_; k_whole); intro a'q9 dx'q9 h'q9 tk'q9 F'q9 N'q9 l1q9 l2q9 l3q9; (try k_lt l1q9); (try k_sweep); (try k_unmd))) | (with_reducible (k_here; (with_reducible show wpAny _ _ (call (Value.ref 75) [Value.ref 119]) _ _ _); k_dflt (refine cmp_line (by first | (k_asm; done) | fail) (by first | (k_asm; done) | fail) (by first | (k_updF; done) | fail) (by first | (assumption; done) | fail) (by first | (assumption; done) | fail) (by first | (simp only [Around.deeper]; omega; done) | fail) ?_; k_whole); intro lo'q9 C'q9 a1'q9 a2'q9 a3'q9 a4'q9 a5'q9 a6'q9 a7'q9 o1'q9 o2'q9 o3'q9 o4'q9 o5'q9 o6'q9 o7'q9 o8'q9 ps'q9 h'q9 tk'q9 l1q9 l2q9 l3q9 hc'q9 F'q9 N'q9; (try k_lt l1q9); (try k_sweep))) | ((with_reducible show IsCN _ _ _ ∧ _); refine And.intro (by first | (refine' isC_now ?a ?b ?c; (case a => assumption); (case b => k_asm); (case c => k_subL); done) | fail) ?_; try dsimp only [List.nil_append, List.cons_append]) | ((with_reducible show IsCN _ _ _); refine isC_now (by first | (assumption; done) | fail) (by first | (k_asm; done) | fail) (by first | (k_subL; done) | fail)) | ((with_reducible show wpAny _ _ (callWith _ (Value.ref _) _ _ _) _ _ _); k_here; k_dflt (refine callWith_C (by first | (assumption; done) | fail) ?_; k_whole)) | ((with_reducible show LCg.CompEnd _ _ _ _ _ _ _ _ _ _ _ _ _ _); refine CompEnd_two (by first | (k_asm; done) | fail) (by first | (k_asm; done) | fail) (by first | (assumption; done) | fail) (by first | (assumption; done) | fail) (by first | (assumption; done) | fail) (by first | (lcg_src; done) | fail) ?_) | (k_here; (with_reducible show wpAny _ _ (call (Value.ref 68) [Value.int _ _]) _ _ _); k_dflt (refine mode_line (by first | (k_asm; done) | fail) (by first | (k_asm; done) | fail) (by first | (assumption; done) | fail) (by first | (assumption; done) | fail) (by first | (simp only [Around.deeper]; omega; done) | fail) ?_; k_whole); intro h'q9 tk'q9 t'q9 F'q9 N'q9; (try k_sweep)) | (k_here; (with_reducible show wpAny _ _ (call (Value.ref _) [Value.ref _]) _ _ _); k_dflt (refine key_line (by first | (k_asm; done) | fail) (by first | (k_asm; done) | fail) (by first | (assumption; done) | fail) (by first | (k_subL; done) | fail) (by first | (assumption; done) | fail) (by first | (simp only [Around.deeper]; omega; done) | fail) ?_; k_whole); intro a'q9 dx'q9 h'q9 tk'q9 F'q9 N'q9 l1q9 l2q9 l3q9; (try k_lt l1q9); (try k_sweep); (try k_unmd)) | (k_here; (with_reducible show wpAny _ _ (call (Value.ref 75) [Value.ref 119]) _ _ _); k_dflt (refine cmp_line (by first | (k_asm; done) | fail) (by first | (k_asm; done) | fail) (by first | (k_updF; done) | fail) (by first | (assumption; done) | fail) (by first | (assumption; done) | fail) (by first | (simp only [Around.deeper]; omega; done) | fail) ?_; k_whole); intro lo'q9 C'q9 a1'q9 a2'q9 a3'q9 a4'q9 a5'q9 a6'q9 a7'q9 o1'q9 o2'q9 o3'q9 o4'q9 o5'q9 o6'q9 o7'q9 o8'q9 ps'q9 h'q9 tk'q9 l1q9 l2q9 l3q9 hc'q9 F'q9 N'q9; (try k_lt l1q9); (try k_sweep)) | (walk1 <;> (try dsimp only)) | (dsimp only; first | (with_reducible ((with_reducible show IsCN _ _ _ ∧ _); refine And.intro (by first | (refine' isC_now ?a ?b ?c; (case a => assumption); (case b => k_asm); (case c => k_subL); done) | fail) ?_; try dsimp only [List.nil_append, List.cons_append])) | (with_reducible ((with_reducible show IsCN _ _ _); refine isC_now (by first | (assumption; done) | fail) (by first | (k_asm; done) | fail) (by first | (k_subL; done) | fail))) | (with_reducible ((with_reducible show wpAny _ _ (callWith _ (Value.ref _) _ _ _) _ _ _); k_here; k_dflt (refine callWith_C (by first | (assumption; done) | fail) ?_; k_whole))) | (with_reducible ((with_reducible show LCg.CompEnd _ _ _ _ _ _ _ _ _ _ _ _ _ _); refine CompEnd_two (by first | (k_asm; done) | fail) (by first | (k_asm; done) | fail) (by first | (assumption; done) | fail) (by first | (assumption; done) | fail) (by first | (assumption; done) | fail) (by first | (lcg_src; done) | fail) ?_)) | (with_reducible (k_here; (with_reducible show wpAny _ _ (call (Value.ref 68) [Value.int _ _]) _ _ _); k_dflt (refine mode_line (by first | (k_asm; done) | fail) (by first | (k_asm; done) | fail) (by first | (assumption; done) | fail) (by first | (assumption; done) | fail) (by first | (simp only [Around.deeper]; omega; done) | fail) ?_; k_whole); intro h'q9 tk'q9 t'q9 F'q9 N'q9; (try k_sweep))) | (with_reducible (k_here; (with_reducible show wpAny _ _ (call (Value.ref _) [Value.ref _]) _ _ _); k_dflt (refine key_line (by first | (k_asm; done) | fail) (by first | (k_asm; done) | fail) (by first | (assumption; done) | fail) (by first | (k_subL; done) | fail) (by first | (assumption; done) | fail) (by first | (simp only [Around.deeper]; omega; done) | fail) ?_; k_whole); intro a'q9 dx'q9 h'q9 tk'q9 F'q9 N'q9 l1q9 l2q9 l3q9; (try k_lt l1q9); (try k_sweep); (try k_unmd))) | (with_reducible (k_here; (with_reducible show wpAny _ _ (call (Value.ref 75) [Value.ref 119]) _ _ _); k_dflt (refine cmp_line (by first | (k_asm; done) | fail) (by first | (k_asm; done) | fail) (by first | (k_updF; done) | fail) (by first | (assumption; done) | fail) (by first | (assumption; done) | fail) (by first | (simp only [Around.deeper]; omega; done) | fail) ?_; k_whole); intro lo'q9 C'q9 a1'q9 a2'q9 a3'q9 a4'q9 a5'q9 a6'q9 a7'q9 o1'q9 o2'q9 o3'q9 o4'q9 o5'q9 o6'q9 o7'q9 o8'q9 ps'q9 h'q9 tk'q9 l1q9 l2q9 l3q9 hc'q9 F'q9 N'q9; (try k_lt l1q9); (try k_sweep))) | ((with_reducible show IsCN _ _ _ ∧ _); refine And.intro (by first | (refine' isC_now ?a ?b ?c; (case a => assumption); (case b => k_asm); (case c => k_subL); done) | fail) ?_; try dsimp only [List.nil_append, List.cons_append]) | ((with_reducible show IsCN _ _ _); refine isC_now (by first | (assumption; done) | fail) (by first | (k_asm; done) | fail) (by first | (k_subL; done) | fail)) | ((with_reducible show wpAny _ _ (callWith _ (Value.ref _) _ _ _) _ _ _); k_here; k_dflt (refine callWith_C (by first | (assumption; done) | fail) ?_; k_whole)) | ((with_reducible show LCg.CompEnd _ _ _ _ _ _ _ _ _ _ _ _ _ _); refine CompEnd_two (by first | (k_asm; done) | fail) (by first | (k_asm; done) | fail) (by first | (assumption; done) | fail) (by first | (assumption; done) | fail) (by first | (assumption; done) | fail) (by first | (lcg_src; done) | fail) ?_) | (k_here; (with_reducible show wpAny _ _ (call (Value.ref 68) [Value.int _ _]) _ _ _); k_dflt (refine mode_line (by first | (k_asm; done) | fail) (by first | (k_asm; done) | fail) (by first | (assumption; done) | fail) (by first | (assumption; done) | fail) (by first | (simp only [Around.deeper]; omega; done) | fail) ?_; k_whole); intro h'q9 tk'q9 t'q9 F'q9 N'q9; (try k_sweep)) | (k_here; (with_reducible show wpAny _ _ (call (Value.ref _) [Value.ref _]) _ _ _); k_dflt (refine key_line (by first | (k_asm; done) | fail) (by first | (k_asm; done) | fail) (by first | (assumption; done) | fail) (by first | (k_subL; done) | fail) (by first | (assumption; done) | fail) (by first | (simp only [Around.deeper]; omega; done) | fail) ?_; k_whole); intro a'q9 dx'q9 h'q9 tk'q9 F'q9 N'q9 l1q9 l2q9 l3q9; (try k_lt l1q9); (try k_sweep); (try k_unmd)) | (k_here; (with_reducible show wpAny _ _ (call (Value.ref 75) [Value.ref 119]) _ _ _); k_dflt (refine cmp_line (by first | (k_asm; done) | fail) (by first | (k_asm; done) | fail) (by first | (k_updF; done) | fail) (by first | (assumption; done) | fail) (by first | (assumption; done) | fail) (by first | (simp only [Around.deeper]; omega; done) | fail) ?_; k_whole); intro lo'q9 C'q9 a1'q9 a2'q9 a3'q9 a4'q9 a5'q9 a6'q9 a7'q9 o1'q9 o2'q9 o3'q9 o4'q9 o5'q9 o6'q9 o7'q9 o8'q9 ps'q9 h'q9 tk'q9 l1q9 l2q9 l3q9 hc'q9 F'q9 N'q9; (try k_lt l1q9); (try k_sweep)) | walk1) | (leave1; try dsimp only)))
  rename Fr _ _ _ _ => F1
  rename News _ _ _ _ => N1
  rename ClsOf _ _ _ => hc1
  rename _ = Data.cell (some (Value.ref _)) => dK2
  have dD2 : oD.data = .cell (some (.ref dl)) := dD
  rename_i K x1 x2 x3 H x4 x5 S x9 x99 Dt x10 x11 x12 x13 oK2 x14 x15
  refine pack2 N1 hc1 hds' hrk dA (by simp only [AllLt, and_true]; assumption) (by simp only [AllLt, and_true]; assumption) (by assumption) (by assumption) (by assumption) (by assumption) (by assumption) (by assumption) (by assumption) (by assumption) (by assumption) (by assumption) (by assumption) (by assumption) (by omega) ?_
  intro C zs tl hz1 hz2 N2 hc2 hK2 hn1 hn2 hS2 hH2 hL2 h70m q1 q2 q3 q4 q5 q6 q7
  clear N1 hc1 dD dK dW hds' hrk
  repeat (rename LCg.Off3 _ _ _ _ => hx; clear hx)
  repeat (rename (_ ∧ _) => hx; clear hx)
  repeat (rename LCg.NsObj _ _ => hx; clear hx)
  have em : (refsOf (zs.map (·.1))).toList.map Itm.val = zs.map fun z => Itm.val (.ref z.1.1) := by simp [refsOf]
  refine For_turns F1 ?_
  k_steps
  rename Fr _ _ _ _ => F1
  rename News _ _ _ _ => N2
  refine iter_listTurns (vs := (refsOf (zs.map (·.1))).toList) rfl F1 N2 (by k_mem) rfl rfl (fun I hI => ?_)
  rw [em]
  refine items_ind (fun z : KZ => Itm.val (.ref z.1.1)) (fun r m news => ∀ G : Prop, (∀ (pre : List KZ) (hl : List RK) (l : List (Str × Tok)) (nS nH : Nat) (o1 : Obj) (v1 : Option Value), pre ++ r = zs → news = (S, listOf (strValues l).toArray nS) :: (H, listOf (refsOf hl) nH) :: (L + 1 + 1 + 1 + 1, o1) :: (K, listOf (refsOf (zs.map (·.1))) 5) :: (L + 1 + 1 + 1, oK2) :: (L + 1, oD) :: (dl, listOf (refsD (zs.map (·.2))).toArray n) :: tl → o1.data = .cell v1 → HO hl → hl.Perm (pre.map (·.1)) → l.map (·.1) = histT mo (zs.map (·.2)) (pre.length + 1) → m "mode" = some (.int mo t) → m "heap" = some (.ref H) → m "shown" = some (.ref S) → G) → G) ?_ ?_ zs _ _ ?_
  rotate_left 2
  · exact fun G hG => hG [] [] [(_, _)] _ _ oA _ rfl rfl dA trivial (.refl _) (histT_one ..).symm rfl rfl rfl
  · intro m news hJ h tk F N
    refine hJ _ ?_
    intro pre hl l nS nH o1 v1 hpre en dd1 ho hp hT hm1 hm2 hm3
    clear hJ
    rw [en] at N
    rw [norm3 hm1 hm2 hm3] at F
    rw [List.append_nil] at hpre
    rw [hpre, hz1, hz2] at hT
    rw [hz1] at N
    clear hp hpre
    have keep : ∀ b o, b ≠ 70 → s.heap.get? b = some o → h.get? b = some o := fun b o hb e => by
      by_cases hbd : b = dl
      · subst hbd
        have h1 := (N (b, listOf (refsD [(d0, e0), (d1, e1), (d2, e2), (d3, e3), (d4, e4)]).toArray n) (.tail _ (.tail _ (.tail _ (.tail _ (.tail _ (.tail _ (.head _)))))))).1
        rw [g] at e
        cases e
        exact h1
      · exact F.keep b o (hideAll_get _ e (by simp only [List.mem_cons, List.not_mem_nil, or_false, not_or]; exact ⟨hbd, hb⟩))
    have gS := (N (S, listOf (strValues l).toArray nS) (.head _)).1
    have nS0 : s.heap.get? S = none := by
      have h1 := (N (S, listOf (strValues l).toArray nS) (.head _)).2.2
      cases e : s.heap.get? S with
      | none => rfl
      | some o =>
        have n1 : @Ne Nat S dl := by omega
        have n2 : @Ne Nat S 70 := by omega
        rw [hideAll_get _ e (by simp only [List.mem_cons, List.not_mem_nil, or_false, not_or]; exact ⟨n1, n2⟩)] at h1
        cases h1
    have g70 := (N (70, _) (.tail _ (.tail _ (.tail _ (.tail _ (.tail _ (.tail _ (.tail _ h70m)))))))).1
    k_steps
    exact hQ S h _ nS l _ nS0 g70 keep gS hT
  · rintro ⟨⟨a, rk⟩, d, e⟩ r m news hJ IH
    refine hJ _ ?_
    intro pre hl l nS nH o1 v1 hpre en dd1 ho hp hT hm1 hm2 hm3
    clear hJ
    rw [en, norm3 hm1 hm2 hm3]
    have j1 : @LT.lt Nat instLTNat S I := hI _ (.head _)
    have j2 : @LT.lt Nat instLTNat H I := hI _ (.tail _ (.head _))
    have j3 : @LT.lt Nat instLTNat (L + 1 + 1 + 1 + 1) I := hI _ (.tail _ (.tail _ (.head _)))
    have j4 : @LT.lt Nat instLTNat K I := hI _ (.tail _ (.tail _ (.tail _ (.head _))))
    have j5 : @LT.lt Nat instLTNat (L + 1 + 1 + 1) I := hI _ (.tail _ (.tail _ (.tail _ (.tail _ (.head _)))))
    have j6 : @LT.lt Nat instLTNat (L + 1) I := hI _ (.tail _ (.tail _ (.tail _ (.tail _ (.tail _ (.head _))))))
    have j7 : @LT.lt Nat instLTNat dl I := hI _ (.tail _ (.tail _ (.tail _ (.tail _ (.tail _ (.tail _ (.head _)))))))
    have j8 : ∀ p ∈ tl, @LT.lt Nat instLTNat p.1 I := fun p hp => hI p (.tail _ (.tail _ (.tail _ (.tail _ (.tail _ (.tail _ (.tail _ hp)))))))
    have hza : ((a, rk), d, e) ∈ zs := by rw [← hpre]; simp
    have hsub : ∀ z ∈ pre ++ [((a, rk), d, e)], z ∈ zs := fun z hz => by
      rw [← hpre]
      rcases List.mem_append.mp hz with hz | hz
      · exact List.mem_append_left _ hz
      · exact List.mem_append_right _ (by rw [List.mem_singleton.mp hz]; exact .head _)
    have hKE : ∀ q ∈ (a, rk) :: hl, ∃ a' e', KeyE B (hideAll s.heap [dl, 70]) C tl q a' e' := fun q hq => by
      rcases List.mem_cons.mp hq with rfl | hq
      · exact ⟨_, _, hK2 _ hza⟩
      · obtain ⟨z, hz, rfl⟩ := List.mem_map.mp (hp.mem_iff.mp hq)
        exact ⟨_, _, hK2 z (hsub z (List.mem_append_left _ hz))⟩
    have hlen : hl.length ≤ 4 := by
      have h1 := hp.length_eq
      rw [List.length_map] at h1
      have h2 := congrArg List.length hpre
      rw [List.length_append, List.length_cons, hz2] at h2
      omega
    obtain ⟨ho2, hp2⟩ := push_ok (a, rk) hl hlen ho
    have hlen5 : (pushL hl (a, rk)).length ≤ 5 := by
      have h1 := hp2.length_eq
      rw [List.length_append, List.length_singleton] at h1
      omega
    repeat ((fail_if_success (with_reducible show wpAny _ _ (exec (PySem.Stmt.While _ _ _ _) _) _ _ _)); (first | (k_unfold; (try dsimp only)) | (k_end; wrow_close) | (with_reducible (k_here; (with_reducible show wpAny _ _ (subscriptTail _ (PySem.Expr.Slice _ _ none _) (Value.ref _) (Value.ref _)) _ _ _); k_dflt (refine kmk_slice_lit (by first | (k_asm; done) | fail) (by first | (k_asm; done) | fail) (by first | (kmk_list; done) | fail) (by first | (kmk_part; done) | fail) (by first | (kmk_part; done) | fail) (by first | (exact slice_all (List.map (fun p : RK => Value.ref p.1) _); done) | fail) ?_ (by first | (with_unfolding_all rfl; done) | fail) (by first | (kmk_pure; done) | fail) (by first | (exact refsOf_fit (by assumption); done) | fail)); intro D'q9 h'q9 F'q9 N'q9 l1q9; (try k_lt l1q9); (try k_sweep))) | (with_reducible (k_here; (with_reducible show wpAny _ _ (call (Value.ref 91) [Value.ref _, Value.ref _]) _ _ _); k_dflt (refine push_line2 (by first | (k_asm; done) | fail) (by first | (k_asm; done) | fail) (by first | (assumption; done) | fail) (by first | (k_updF; done) | fail) (by first | (assumption; done) | fail) (by first | (assumption; done) | fail) (by first | (assumption; done) | fail) (by first | (first | exact subL8 | exact subL9 | exact subL10 | exact subL11 | exact subL12 | exact subL7; done) | fail) (by first | (assumption; done) | fail) (by first | (simp only [Around.deeper]; omega; done) | fail) (by first | (simp only [Around.deeper]; omega; done) | fail) ?_; k_whole); intro k'q9 h'q9 tk'q9 F'q9 N'q9; (try k_sweep); (try k_unmd))) | (k_here; (with_reducible show wpAny _ _ (subscriptTail _ (PySem.Expr.Slice _ _ none _) (Value.ref _) (Value.ref _)) _ _ _); k_dflt (refine kmk_slice_lit (by first | (k_asm; done) | fail) (by first | (k_asm; done) | fail) (by first | (kmk_list; done) | fail) (by first | (kmk_part; done) | fail) (by first | (kmk_part; done) | fail) (by first | (exact slice_all (List.map (fun p : RK => Value.ref p.1) _); done) | fail) ?_ (by first | (with_unfolding_all rfl; done) | fail) (by first | (kmk_pure; done) | fail) (by first | (exact refsOf_fit (by assumption); done) | fail)); intro D'q9 h'q9 F'q9 N'q9 l1q9; (try k_lt l1q9); (try k_sweep)) | (k_here; (with_reducible show wpAny _ _ (call (Value.ref 91) [Value.ref _, Value.ref _]) _ _ _); k_dflt (refine push_line2 (by first | (k_asm; done) | fail) (by first | (k_asm; done) | fail) (by first | (assumption; done) | fail) (by first | (k_updF; done) | fail) (by first | (assumption; done) | fail) (by first | (assumption; done) | fail) (by first | (assumption; done) | fail) (by first | (first | exact subL8 | exact subL9 | exact subL10 | exact subL11 | exact subL12 | exact subL7; done) | fail) (by first | (assumption; done) | fail) (by first | (simp only [Around.deeper]; omega; done) | fail) (by first | (simp only [Around.deeper]; omega; done) | fail) ?_; k_whole); intro k'q9 h'q9 tk'q9 F'q9 N'q9; (try k_sweep); (try k_unmd)) | walk1 | (dsimp only; first | (with_reducible (k_here; (with_reducible show wpAny _ _ (subscriptTail _ (PySem.Expr.Slice _ _ none _) (Value.ref _) (Value.ref _)) _ _ _); k_dflt (refine kmk_slice_lit (by first | (k_asm; done) | fail) (by first | (k_asm; done) | fail) (by first | (kmk_list; done) | fail) (by first | (kmk_part; done) | fail) (by first | (kmk_part; done) | fail) (by first | (exact slice_all (List.map (fun p : RK => Value.ref p.1) _); done) | fail) ?_ (by first | (with_unfolding_all rfl; done) | fail) (by first | (kmk_pure; done) | fail) (by first | (exact refsOf_fit (by assumption); done) | fail)); intro D'q9 h'q9 F'q9 N'q9 l1q9; (try k_lt l1q9); (try k_sweep))) | (with_reducible (k_here; (with_reducible show wpAny _ _ (call (Value.ref 91) [Value.ref _, Value.ref _]) _ _ _); k_dflt (refine push_line2 (by first | (k_asm; done) | fail) (by first | (k_asm; done) | fail) (by first | (assumption; done) | fail) (by first | (k_updF; done) | fail) (by first | (assumption; done) | fail) (by first | (assumption; done) | fail) (by first | (assumption; done) | fail) (by first | (first | exact subL8 | exact subL9 | exact subL10 | exact subL11 | exact subL12 | exact subL7; done) | fail) (by first | (assumption; done) | fail) (by first | (simp only [Around.deeper]; omega; done) | fail) (by first | (simp only [Around.deeper]; omega; done) | fail) ?_; k_whole); intro k'q9 h'q9 tk'q9 F'q9 N'q9; (try k_sweep); (try k_unmd))) | (k_here; (with_reducible show wpAny _ _ (subscriptTail _ (PySem.Expr.Slice _ _ none _) (Value.ref _) (Value.ref _)) _ _ _); k_dflt (refine kmk_slice_lit (by first | (k_asm; done) | fail) (by first | (k_asm; done) | fail) (by first | (kmk_list; done) | fail) (by first | (kmk_part; done) | fail) (by first | (kmk_part; done) | fail) (by first | (exact slice_all (List.map (fun p : RK => Value.ref p.1) _); done) | fail) ?_ (by first | (with_unfolding_all rfl; done) | fail) (by first | (kmk_pure; done) | fail) (by first | (exact refsOf_fit (by assumption); done) | fail)); intro D'q9 h'q9 F'q9 N'q9 l1q9; (try k_lt l1q9); (try k_sweep)) | (k_here; (with_reducible show wpAny _ _ (call (Value.ref 91) [Value.ref _, Value.ref _]) _ _ _); k_dflt (refine push_line2 (by first | (k_asm; done) | fail) (by first | (k_asm; done) | fail) (by first | (assumption; done) | fail) (by first | (k_updF; done) | fail) (by first | (assumption; done) | fail) (by first | (assumption; done) | fail) (by first | (assumption; done) | fail) (by first | (first | exact subL8 | exact subL9 | exact subL10 | exact subL11 | exact subL12 | exact subL7; done) | fail) (by first | (assumption; done) | fail) (by first | (simp only [Around.deeper]; omega; done) | fail) (by first | (simp only [Around.deeper]; omega; done) | fail) ?_; k_whole); intro k'q9 h'q9 tk'q9 F'q9 N'q9; (try k_sweep); (try k_unmd)) | walk1) | (leave1; try dsimp only)))
    rename Fr _ _ _ _ => F3
    rename News _ _ _ _ => N3
    rename_i oI y1 y2 y3 y4 y6 W y9 lW Tu y10 lT y11 y12 y13; generalize D'q9 = R at *; have lR := l1q9
    clear lT
    refine and10E lW ?_
    intro w1 w2 w3 w4 w5 w6 w7 w8 w9 w10
    refine and9E lR ?_
    intro r1 r2 r3 r4 r5 r6 r7 r8 r9
    clear lW lR
    have hR2 : ∀ p ∈ tl, p.1 ≠ R := fun p hp => Nat.ne_of_lt (allLt_mem r9 p hp)
    have hW2 : ∀ p ∈ tl, p.1 ≠ W := fun p hp => Nat.ne_of_lt (allLt_mem w10 p hp)
    have hpz : ((pre ++ [((a, rk), d, e)]).map (·.1)).Perm (pushL hl (a, rk)) := by
      rw [List.map_append]
      exact (hp2.trans (hp.append_right _)).symm
    refine whl_start 0 ?_
    refine whl_ind (α := List RK) List.length (fun hl2 s' => ∀ G : Prop, (∀ (h : Heap) (tk : Nat) (m2 : Str → Option Value) (oL : Obj) (vL : Option Value) (done zl : List KZ) (nR nW nH2 : Nat), s' = { s with heap := h, toks := tk } → Fr (hideAll s.heap [dl, 70]) L h m2 → News (hideAll s.heap [dl, 70]) L h ((W, listOf (refsD (done.map (·.2))).toArray nW) :: (R, listOf (refsOf hl2) nR) :: (I, oI) :: (S, listOf (strValues l).toArray nS) :: (H, listOf (refsOf (pushL hl (a, rk))) nH2) :: (L + 1 + 1 + 1 + 1, oL) :: (K, listOf (refsOf (zs.map (·.1))) 5) :: (L + 1 + 1 + 1, oK2) :: (L + 1, oD) :: (dl, listOf (refsD (zs.map (·.2))).toArray n) :: tl) → oL.data = .cell vL → HO hl2 → (zl.map (·.1)).Perm hl2 → (done ++ zl).Perm (pre ++ [((a, rk), d, e)]) → done.Pairwise (fun a b => a.1.2 ≤ b.1.2) → (∀ z ∈ done, ∀ y ∈ zl, z.1.2 ≤ y.1.2) → hl2.length ≤ 5 → m2 "mode" = some (.int mo t) → m2 "heap" = some (.ref H) → m2 "shown" = some (.ref S) → m2 "rest" = some (.ref R) → m2 "row" = some (.ref W) → G) → G) ?_ (pushL hl (a, rk)) _ ?_
    rotate_left 1
    · exact fun G hG => hG _ _ _ o1 v1 [] (pre ++ [((a, rk), d, e)]) _ _ _ rfl F3 (fun p hp => N3 p (.tail _ hp)) dd1 ho2 hpz (.refl _) .nil (fun _ h => nomatch h) hlen5 rfl rfl rfl rfl rfl
    · clear F3 N3
      intro hl2 s' hJ2 IH2
      refine hJ2 _ ?_
      intro h tk m2 oL vL done zl nR nW nH2 es F4 N4 dL ho4 hz4 hd4 hs4 hb4 hl4 mm1 mm2 mm3 mm4 mm5
      clear hJ2
      rw [es]
      rw [norm1 mm1, norm1 mm2, norm1 mm3, norm1 mm4, norm1 mm5] at F4
      have hdz : ∀ z ∈ done, z ∈ zs := fun z hz => hsub z (hd4.mem_iff.mp (List.mem_append_left _ hz))
      refine list_cases hl2 ?_ ?_
      · intro eh
        rw [eh] at N4 hz4
        have hds2 : ∀ q ∈ done.map (·.2), B.get? q.1 = none ∧ DeedAt (hideAll s.heap [dl, 70]) q.1 q.2 ∧ q.2.ok := fun q hq => by
          obtain ⟨z, hz, rfl⟩ := List.mem_map.mp hq
          obtain ⟨_, _, _, u1, u2, u3, _⟩ := hK2 z (hdz z hz)
          exact ⟨u2, u1, u3⟩
        have hll : l.length = pre.length + 1 := by
          have := congrArg List.length hT
          rw [List.length_map] at this
          rw [this]
          simp [histT]
        have hpl : pre.length ≤ 4 := by
          have h2 := congrArg List.length hpre
          rw [List.length_append, List.length_cons, hz2] at h2
          omega
        have hrk2 : ∀ z ∈ zs, z.1.2 = z.2.2.rank := fun z hz => by
          obtain ⟨_, _, _, _, _, _, er⟩ := hK2 z hz
          exact er
        have hzl : zl = [] := by
          have h1 := hz4.length_eq
          rw [List.length_map] at h1
          exact List.length_eq_zero_iff.mp h1
        have hdp : done.Perm (pre ++ [((a, rk), d, e)]) := by
          rw [hzl, List.append_nil] at hd4
          exact hd4
        have hpre2 : (pre ++ [((a, rk), d, e)]) ++ r = zs := by rw [← hpre]; simp
        have hrow := row_hist hpre2 hdp hs4 hrk2 hn2
        rw [List.length_append, List.length_singleton] at hrow
        repeat' (first | (k_unfold; (try dsimp only)) | (k_end; wrow_close) | (with_reducible (k_here; (with_reducible show wpAny _ _ (truthy (Value.ref _)) _ _ _); k_dflt (first | (refine truthy_nil (by first | (k_asm; done) | fail) (by first | (k_mem; done) | fail) ?_; k_whole) | (refine truthy_cons (by first | (k_asm; done) | fail) (by first | (k_mem; done) | fail) (by first | (assumption; done) | fail) ?_; k_whole)))) | (with_reducible (k_here; (with_reducible show wpAny _ _ (call (Value.ref 84) [Value.ref 126, Value.ref _, Value.int _ _]) _ _ _); k_dflt (refine red_line _ (by first | (k_asm; done) | fail) (by first | (k_asm; done) | fail) (by first | (k_mem; done) | fail) (by first | (assumption; done) | fail) (by first | (assumption; done) | fail) (by first | (simp only [Around.deeper]; omega; done) | fail) (by first | (assumption; done) | fail) ?_; k_whole); intro h'q9 tk'q9 t'q9 F'q9 N'q9; (try k_sweep); (try k_unmd))) | (with_reducible (k_here; (with_reducible show wpAny _ _ (call (Value.builtin "list.append") [Value.ref _, _]) _ _ _); k_dflt (refine append_list (by first | (k_asm; done) | fail) (by first | (k_asm; done) | fail) (by first | (k_updF; done) | fail) (by first | (rw [strV_len]; omega; done) | fail) ?_; k_whole); intro h'q9 k'q9 F'q9 N'q9; (try k_sweep))) | (with_reducible (k_here; (with_reducible show wpAny _ _ (call (Value.ref 68) [Value.int _ _]) _ _ _); k_dflt (refine mode_line (by first | (k_asm; done) | fail) (by first | (k_asm; done) | fail) (by first | (assumption; done) | fail) (by first | (assumption; done) | fail) (by first | (simp only [Around.deeper]; omega; done) | fail) ?_; k_whole); intro h'q9 tk'q9 t'q9 F'q9 N'q9; (try k_sweep))) | (k_here; (with_reducible show wpAny _ _ (truthy (Value.ref _)) _ _ _); k_dflt (first | (refine truthy_nil (by first | (k_asm; done) | fail) (by first | (k_mem; done) | fail) ?_; k_whole) | (refine truthy_cons (by first | (k_asm; done) | fail) (by first | (k_mem; done) | fail) (by first | (assumption; done) | fail) ?_; k_whole))) | (k_here; (with_reducible show wpAny _ _ (call (Value.ref 84) [Value.ref 126, Value.ref _, Value.int _ _]) _ _ _); k_dflt (refine red_line _ (by first | (k_asm; done) | fail) (by first | (k_asm; done) | fail) (by first | (k_mem; done) | fail) (by first | (assumption; done) | fail) (by first | (assumption; done) | fail) (by first | (simp only [Around.deeper]; omega; done) | fail) (by first | (assumption; done) | fail) ?_; k_whole); intro h'q9 tk'q9 t'q9 F'q9 N'q9; (try k_sweep); (try k_unmd)) | (k_here; (with_reducible show wpAny _ _ (call (Value.builtin "list.append") [Value.ref _, _]) _ _ _); k_dflt (refine append_list (by first | (k_asm; done) | fail) (by first | (k_asm; done) | fail) (by first | (k_updF; done) | fail) (by first | (rw [strV_len]; omega; done) | fail) ?_; k_whole); intro h'q9 k'q9 F'q9 N'q9; (try k_sweep)) | (k_here; (with_reducible show wpAny _ _ (call (Value.ref 68) [Value.int _ _]) _ _ _); k_dflt (refine mode_line (by first | (k_asm; done) | fail) (by first | (k_asm; done) | fail) (by first | (assumption; done) | fail) (by first | (assumption; done) | fail) (by first | (simp only [Around.deeper]; omega; done) | fail) ?_; k_whole); intro h'q9 tk'q9 t'q9 F'q9 N'q9; (try k_sweep)) | (walk1 <;> (try dsimp only)) | (dsimp only; first | (with_reducible (k_here; (with_reducible show wpAny _ _ (truthy (Value.ref _)) _ _ _); k_dflt (first | (refine truthy_nil (by first | (k_asm; done) | fail) (by first | (k_mem; done) | fail) ?_; k_whole) | (refine truthy_cons (by first | (k_asm; done) | fail) (by first | (k_mem; done) | fail) (by first | (assumption; done) | fail) ?_; k_whole)))) | (with_reducible (k_here; (with_reducible show wpAny _ _ (call (Value.ref 84) [Value.ref 126, Value.ref _, Value.int _ _]) _ _ _); k_dflt (refine red_line _ (by first | (k_asm; done) | fail) (by first | (k_asm; done) | fail) (by first | (k_mem; done) | fail) (by first | (assumption; done) | fail) (by first | (assumption; done) | fail) (by first | (simp only [Around.deeper]; omega; done) | fail) (by first | (assumption; done) | fail) ?_; k_whole); intro h'q9 tk'q9 t'q9 F'q9 N'q9; (try k_sweep); (try k_unmd))) | (with_reducible (k_here; (with_reducible show wpAny _ _ (call (Value.builtin "list.append") [Value.ref _, _]) _ _ _); k_dflt (refine append_list (by first | (k_asm; done) | fail) (by first | (k_asm; done) | fail) (by first | (k_updF; done) | fail) (by first | (rw [strV_len]; omega; done) | fail) ?_; k_whole); intro h'q9 k'q9 F'q9 N'q9; (try k_sweep))) | (with_reducible (k_here; (with_reducible show wpAny _ _ (call (Value.ref 68) [Value.int _ _]) _ _ _); k_dflt (refine mode_line (by first | (k_asm; done) | fail) (by first | (k_asm; done) | fail) (by first | (assumption; done) | fail) (by first | (assumption; done) | fail) (by first | (simp only [Around.deeper]; omega; done) | fail) ?_; k_whole); intro h'q9 tk'q9 t'q9 F'q9 N'q9; (try k_sweep))) | (k_here; (with_reducible show wpAny _ _ (truthy (Value.ref _)) _ _ _); k_dflt (first | (refine truthy_nil (by first | (k_asm; done) | fail) (by first | (k_mem; done) | fail) ?_; k_whole) | (refine truthy_cons (by first | (k_asm; done) | fail) (by first | (k_mem; done) | fail) (by first | (assumption; done) | fail) ?_; k_whole))) | (k_here; (with_reducible show wpAny _ _ (call (Value.ref 84) [Value.ref 126, Value.ref _, Value.int _ _]) _ _ _); k_dflt (refine red_line _ (by first | (k_asm; done) | fail) (by first | (k_asm; done) | fail) (by first | (k_mem; done) | fail) (by first | (assumption; done) | fail) (by first | (assumption; done) | fail) (by first | (simp only [Around.deeper]; omega; done) | fail) (by first | (assumption; done) | fail) ?_; k_whole); intro h'q9 tk'q9 t'q9 F'q9 N'q9; (try k_sweep); (try k_unmd)) | (k_here; (with_reducible show wpAny _ _ (call (Value.builtin "list.append") [Value.ref _, _]) _ _ _); k_dflt (refine append_list (by first | (k_asm; done) | fail) (by first | (k_asm; done) | fail) (by first | (k_updF; done) | fail) (by first | (rw [strV_len]; omega; done) | fail) ?_; k_whole); intro h'q9 k'q9 F'q9 N'q9; (try k_sweep)) | (k_here; (with_reducible show wpAny _ _ (call (Value.ref 68) [Value.int _ _]) _ _ _); k_dflt (refine mode_line (by first | (k_asm; done) | fail) (by first | (k_asm; done) | fail) (by first | (assumption; done) | fail) (by first | (assumption; done) | fail) (by first | (simp only [Around.deeper]; omega; done) | fail) ?_; k_whole); intro h'q9 tk'q9 t'q9 F'q9 N'q9; (try k_sweep)) | walk1) | (leave1; try dsimp only) | fail "no step")
        rename Fr _ _ _ _ => F9
        rename News _ _ _ _ => N9
        have N10 := News.tail' (News.tail' N9)
        refine ⟨_, _, _, _, rfl, F9, N10, ?_, ⟨.tail _ (.tail _ (.tail _ (.head _))), trivial⟩, IH _ _ fun G hG => hG (pre ++ [((a, rk), d, e)]) (pushL hl (a, rk)) (l ++ [(Txt.join (Str.ofString "") (fmT (doneF mo (done.map (·.2))) 0 fmRows), _)]) _ _ oL vL hpre2 (by rw [strV_push]) dL ho2 hpz.symm ?_ rfl rfl rfl⟩
        · intro p hp q hq
          rw [List.mem_singleton.mp hq]
          simp only [List.mem_cons] at hp
          rcases hp with rfl | rfl | rfl | rfl | rfl | rfl | rfl | hp
          · exact Nat.ne_of_lt j1
          · exact Nat.ne_of_lt j2
          · exact Nat.ne_of_lt j3
          · exact Nat.ne_of_lt j4
          · exact Nat.ne_of_lt j5
          · exact Nat.ne_of_lt j6
          · exact Nat.ne_of_lt j7
          · exact Nat.ne_of_lt (j8 p hp)
        · rw [List.map_append, hT, List.length_append, List.length_singleton, histT_succ mo _ (pre.length + 1), hrow]
          rfl
      · rintro ⟨qa, qr⟩ r2 eh
        rw [eh] at N4 hz4 hl4 ho4
        have hKE2 : ∀ q ∈ (qa, qr) :: r2, ∃ a' e', KeyE B (hideAll s.heap [dl, 70]) C tl q a' e' := fun q hq => by
          obtain ⟨z, hz, rfl⟩ := List.mem_map.mp (hz4.mem_iff.mpr hq)
          exact ⟨_, _, hK2 z (hsub z (hd4.mem_iff.mp (List.mem_append_right _ hz)))⟩
        have hlr : r2.length ≤ 4 := by rw [List.length_cons] at hl4; omega
        obtain ⟨hmin, ho5, hp5⟩ := pop_ok (qa, qr) r2 hlr ho4
        obtain ⟨z0, zl2, hz0, e0, hq1, hq2, hq3, hq4⟩ := pop_step hz4 hd4 hs4 hb4 hmin hp5
        have hz0z := hsub z0 hz0
        obtain ⟨dx0, k01, -⟩ := hK2 z0 hz0z
        rw [e0] at k01
        repeat ((fail_if_success (with_reducible show wpAny _ _ (eval (PySem.Expr.ListComp _ _ _ _) _) _ _ _)); (first | (k_unfold; (try dsimp only)) | (k_end; wrow_close) | (with_reducible (k_here; (with_reducible show wpAny _ _ (truthy (Value.ref _)) _ _ _); k_dflt (first | (refine truthy_nil (by first | (k_asm; done) | fail) (by first | (k_mem; done) | fail) ?_; k_whole) | (refine truthy_cons (by first | (k_asm; done) | fail) (by first | (k_mem; done) | fail) (by first | (assumption; done) | fail) ?_; k_whole)))) | (with_reducible (k_here; (with_reducible show wpAny _ _ (call (Value.ref 98) [Value.ref _]) _ _ _); k_dflt (refine pop_line2 (by first | (k_asm; done) | fail) (by first | (k_asm; done) | fail) (by first | (assumption; done) | fail) (by first | (k_updF; done) | fail) (by first | (assumption; done) | fail) (by first | (assumption; done) | fail) (by first | (assumption; done) | fail) (by first | (first | exact subL8 | exact subL9 | exact subL10 | exact subL11 | exact subL12 | exact subL7; done) | fail) (by first | (assumption; done) | fail) (by first | (simp only [Around.deeper]; omega; done) | fail) (by first | (simp only [Around.deeper]; omega; done) | fail) ?_; k_whole); intro k'q9 h'q9 tk'q9 F'q9 N'q9; (try k_sweep); (try k_unmd))) | (k_here; (with_reducible show wpAny _ _ (truthy (Value.ref _)) _ _ _); k_dflt (first | (refine truthy_nil (by first | (k_asm; done) | fail) (by first | (k_mem; done) | fail) ?_; k_whole) | (refine truthy_cons (by first | (k_asm; done) | fail) (by first | (k_mem; done) | fail) (by first | (assumption; done) | fail) ?_; k_whole))) | (k_here; (with_reducible show wpAny _ _ (call (Value.ref 98) [Value.ref _]) _ _ _); k_dflt (refine pop_line2 (by first | (k_asm; done) | fail) (by first | (k_asm; done) | fail) (by first | (assumption; done) | fail) (by first | (k_updF; done) | fail) (by first | (assumption; done) | fail) (by first | (assumption; done) | fail) (by first | (assumption; done) | fail) (by first | (first | exact subL8 | exact subL9 | exact subL10 | exact subL11 | exact subL12 | exact subL7; done) | fail) (by first | (assumption; done) | fail) (by first | (simp only [Around.deeper]; omega; done) | fail) (by first | (simp only [Around.deeper]; omega; done) | fail) ?_; k_whole); intro k'q9 h'q9 tk'q9 F'q9 N'q9; (try k_sweep); (try k_unmd)) | (walk1 <;> (try dsimp only)) | (dsimp only; first | (with_reducible (k_here; (with_reducible show wpAny _ _ (truthy (Value.ref _)) _ _ _); k_dflt (first | (refine truthy_nil (by first | (k_asm; done) | fail) (by first | (k_mem; done) | fail) ?_; k_whole) | (refine truthy_cons (by first | (k_asm; done) | fail) (by first | (k_mem; done) | fail) (by first | (assumption; done) | fail) ?_; k_whole)))) | (with_reducible (k_here; (with_reducible show wpAny _ _ (call (Value.ref 98) [Value.ref _]) _ _ _); k_dflt (refine pop_line2 (by first | (k_asm; done) | fail) (by first | (k_asm; done) | fail) (by first | (assumption; done) | fail) (by first | (k_updF; done) | fail) (by first | (assumption; done) | fail) (by first | (assumption; done) | fail) (by first | (assumption; done) | fail) (by first | (first | exact subL8 | exact subL9 | exact subL10 | exact subL11 | exact subL12 | exact subL7; done) | fail) (by first | (assumption; done) | fail) (by first | (simp only [Around.deeper]; omega; done) | fail) (by first | (simp only [Around.deeper]; omega; done) | fail) ?_; k_whole); intro k'q9 h'q9 tk'q9 F'q9 N'q9; (try k_sweep); (try k_unmd))) | (k_here; (with_reducible show wpAny _ _ (truthy (Value.ref _)) _ _ _); k_dflt (first | (refine truthy_nil (by first | (k_asm; done) | fail) (by first | (k_mem; done) | fail) ?_; k_whole) | (refine truthy_cons (by first | (k_asm; done) | fail) (by first | (k_mem; done) | fail) (by first | (assumption; done) | fail) ?_; k_whole))) | (k_here; (with_reducible show wpAny _ _ (call (Value.ref 98) [Value.ref _]) _ _ _); k_dflt (refine pop_line2 (by first | (k_asm; done) | fail) (by first | (k_asm; done) | fail) (by first | (assumption; done) | fail) (by first | (k_updF; done) | fail) (by first | (assumption; done) | fail) (by first | (assumption; done) | fail) (by first | (assumption; done) | fail) (by first | (first | exact subL8 | exact subL9 | exact subL10 | exact subL11 | exact subL12 | exact subL7; done) | fail) (by first | (assumption; done) | fail) (by first | (simp only [Around.deeper]; omega; done) | fail) (by first | (simp only [Around.deeper]; omega; done) | fail) ?_; k_whole); intro k'q9 h'q9 tk'q9 F'q9 N'q9; (try k_sweep); (try k_unmd)) | walk1) | (leave1; try dsimp only)))
        rename Fr _ _ _ _ => F5
        refine' eval_compRT F5 (n := 5) (keyP zs qa) (fun i y => ∃ z, zs[i]? = some z ∧ y = Value.ref z.2.1) ?k1 ?k2 ?k3 ?k4 ?k5 ?k6 ?k7 ?_
        (case k1 => exact rfl); (case k2 => exact rfl); (case k3 => decide); (case k4 => exact rfl); (case k5 => decide); (case k6 => exact rfl); (case k7 => (intro _; rfl))
        repeat ((fail_if_success (with_reducible show CompRT _ _ _ _ _ _ _ _ _ _ _ _ _ _ _ _)); (first | (k_unfold; (try dsimp only)) | (k_end; wrow_close) | (with_reducible (k_here; (with_reducible show wpAny _ _ (call (Value.builtin "len") [Value.ref _]) _ _ _); k_dflt (refine len_refs5 (by first | (k_asm; done) | fail) (by first | (k_mem; done) | fail) (by first | (rw [List.length_map]; assumption; done) | fail) ?_; k_whole); intro k'q9 t'q9)) | (k_here; (with_reducible show wpAny _ _ (call (Value.builtin "len") [Value.ref _]) _ _ _); k_dflt (refine len_refs5 (by first | (k_asm; done) | fail) (by first | (k_mem; done) | fail) (by first | (rw [List.length_map]; assumption; done) | fail) ?_; k_whole); intro k'q9 t'q9) | (walk1 <;> (try dsimp only)) | (dsimp only; first | (with_reducible (k_here; (with_reducible show wpAny _ _ (call (Value.builtin "len") [Value.ref _]) _ _ _); k_dflt (refine len_refs5 (by first | (k_asm; done) | fail) (by first | (k_mem; done) | fail) (by first | (rw [List.length_map]; assumption; done) | fail) ?_; k_whole); intro k'q9 t'q9)) | (k_here; (with_reducible show wpAny _ _ (call (Value.builtin "len") [Value.ref _]) _ _ _); k_dflt (refine len_refs5 (by first | (k_asm; done) | fail) (by first | (k_mem; done) | fail) (by first | (rw [List.length_map]; assumption; done) | fail) ?_; k_whole); intro k'q9 t'q9) | walk1) | (leave1; try dsimp only)))
        rename Fr _ _ _ _ => F6
        rename News _ _ _ _ => N6
        refine ⟨_, _, _, _, _, _, _, rfl, (by assumption), (by decide), (by decide), (by decide), F6, N6, ?_, ?_, ?_⟩
        · intro C2 i ti s₃ m₃ E' hi hn hm ex hC
          obtain ⟨z, hz⟩ : ∃ z, zs[i]? = some z := ⟨zs[i]'(by omega), List.getElem?_eq_getElem _⟩
          have hx1 : (refsOf (zs.map (·.1)))[i]? = some (.ref z.1.1) := by simp [refsOf, hz]
          have hi9 : i < 1000 := by omega
          have F7 := F6.keeps ex
          have N7 := N6.grown ex
          have x3 : Ext s₃.heap s₃.heap := fun _ _ e => e
          obtain ⟨dx1, k11, -⟩ := hK2 z (List.mem_of_getElem? hz)
          have g1 : s₃.heap.get? z.1.1 = some (keyObj C dx1 z.2.1) := (N7 (z.1.1, keyObj C dx1 z.2.1) (by repeat (first | exact k11 | refine List.mem_cons_of_mem _ ?_))).1
          have g2 : s₃.heap.get? qa = some (keyObj C dx0 z0.2.1) := (N7 (qa, keyObj C dx0 z0.2.1) (by repeat (first | exact k01 | refine List.mem_cons_of_mem _ ?_))).1
          iterate 3 (first | (k_unfold; (try dsimp only)) | (k_end; wrow_close) | walk1 | (dsimp only; walk1) | (leave1; try dsimp only))
          refine wpAny_Name (wpAny_loadName_local rfl rfl hn hm ?_)
          refine item_at N7 (by k_mem) hi9 hx1 ?_
          iterate 1 (first | (k_unfold; (try dsimp only)) | (k_end; wrow_close) | walk1 | (dsimp only; walk1) | (leave1; try dsimp only))
          refine is_refs g1 g2 (by intro x; cases x) ?_
          iterate 1 (first | (k_unfold; (try dsimp only)) | (k_end; wrow_close) | walk1 | (dsimp only; walk1) | (leave1; try dsimp only))
          exact ⟨by unfold keyP; rw [hz], s₃.heap, s₃.toks, rfl, fun _ _ e => e⟩
        · intro C2 i ti s₃ m₃ E' hi hpi hn hm ex hC
          obtain ⟨z, hz⟩ : ∃ z, zs[i]? = some z := ⟨zs[i]'(by omega), List.getElem?_eq_getElem _⟩
          have hx1 : (refsD (zs.map (·.2))).toArray[i]? = some (.ref z.2.1) := by simp [refsD, hz]
          have hi9 : i < 1000 := by omega
          have F7 := F6.keeps ex
          have N7 := N6.grown ex
          have x3 : Ext s₃.heap s₃.heap := fun _ _ e => e
          iterate 2 (first | (k_unfold; (try dsimp only)) | (k_end; wrow_close) | walk1 | (dsimp only; walk1) | (leave1; try dsimp only))
          refine wpAny_Name (wpAny_loadName_local rfl rfl hn hm ?_)
          refine item_at N7 (by k_mem) hi9 hx1 ?_
          exact ⟨⟨z, hz, rfl⟩, s₃.heap, s₃.toks, rfl, fun _ _ e => e⟩
        · intro D h' tk' ys k' F8 N8 hne hD hpair
          have hys : ys = #[Value.ref z0.2.1] := by
            have h1 := hz2
            rw [← h1, show qa = z0.1.1 by rw [e0]] at hpair
            have := comp_one hz0z hn1 hpair
            exact Array.toList_inj.mp (by simpa using this)
          subst hys
          have hsz9 : (refsD (done.map (·.2))).toArray.size + (#[Value.ref z0.2.1]).size ≤ 1000 := by
            have h1 := hd4.length_eq
            rw [List.length_append, List.length_append, List.length_singleton] at h1
            have h2 := congrArg List.length hpre
            rw [List.length_append, List.length_cons, hz2] at h2
            rw [refsD_size, List.length_map]
            show done.length + 1 ≤ 1000
            omega
          clear hpair F6 N6
          have hW9 : @Ne Nat W D := hne (W, _) (.head _)
          iterate 2 (first | (k_unfold; (try dsimp only)) | (k_end; wrow_close) | (with_reducible (k_here; (with_reducible show wpAny _ _ (inplaceOp Operator.Add (Value.ref _) (Value.ref _)) _ _ _); k_dflt (refine iadd_lists (by first | (k_asm; done) | fail) (by first | (k_asm; done) | fail) (by first | (k_updF; done) | fail) (by first | (k_mem; done) | fail) (by first | (assumption; done) | fail) ?_; k_whole); intro h'q9 k'q9 F'q9 N'q9; (try k_sweep))) | (k_here; (with_reducible show wpAny _ _ (inplaceOp Operator.Add (Value.ref _) (Value.ref _)) _ _ _); k_dflt (refine iadd_lists (by first | (k_asm; done) | fail) (by first | (k_asm; done) | fail) (by first | (k_updF; done) | fail) (by first | (k_mem; done) | fail) (by first | (assumption; done) | fail) ?_; k_whole); intro h'q9 k'q9 F'q9 N'q9; (try k_sweep)) | walk1 | (dsimp only; first | (with_reducible (k_here; (with_reducible show wpAny _ _ (inplaceOp Operator.Add (Value.ref _) (Value.ref _)) _ _ _); k_dflt (refine iadd_lists (by first | (k_asm; done) | fail) (by first | (k_asm; done) | fail) (by first | (k_updF; done) | fail) (by first | (k_mem; done) | fail) (by first | (assumption; done) | fail) ?_; k_whole); intro h'q9 k'q9 F'q9 N'q9; (try k_sweep))) | (k_here; (with_reducible show wpAny _ _ (inplaceOp Operator.Add (Value.ref _) (Value.ref _)) _ _ _); k_dflt (refine iadd_lists (by first | (k_asm; done) | fail) (by first | (k_asm; done) | fail) (by first | (k_updF; done) | fail) (by first | (k_mem; done) | fail) (by first | (assumption; done) | fail) ?_; k_whole); intro h'q9 k'q9 F'q9 N'q9; (try k_sweep)) | walk1) | (leave1; try dsimp only))
          iterate 2 (first | (k_unfold; (try dsimp only)) | (k_end; wrow_close) | (with_reducible (k_here; (with_reducible show wpAny _ _ (inplaceOp Operator.Add (Value.ref _) (Value.ref _)) _ _ _); k_dflt (refine iadd_lists (by first | (k_asm; done) | fail) (by first | (k_asm; done) | fail) (by first | (k_updF; done) | fail) (by first | (k_mem; done) | fail) (by first | (assumption; done) | fail) ?_; k_whole); intro h'q9 k'q9 F'q9 N'q9; (try k_sweep))) | (k_here; (with_reducible show wpAny _ _ (inplaceOp Operator.Add (Value.ref _) (Value.ref _)) _ _ _); k_dflt (refine iadd_lists (by first | (k_asm; done) | fail) (by first | (k_asm; done) | fail) (by first | (k_updF; done) | fail) (by first | (k_mem; done) | fail) (by first | (assumption; done) | fail) ?_; k_whole); intro h'q9 k'q9 F'q9 N'q9; (try k_sweep)) | walk1 | (dsimp only; first | (with_reducible (k_here; (with_reducible show wpAny _ _ (inplaceOp Operator.Add (Value.ref _) (Value.ref _)) _ _ _); k_dflt (refine iadd_lists (by first | (k_asm; done) | fail) (by first | (k_asm; done) | fail) (by first | (k_updF; done) | fail) (by first | (k_mem; done) | fail) (by first | (assumption; done) | fail) ?_; k_whole); intro h'q9 k'q9 F'q9 N'q9; (try k_sweep))) | (k_here; (with_reducible show wpAny _ _ (inplaceOp Operator.Add (Value.ref _) (Value.ref _)) _ _ _); k_dflt (refine iadd_lists (by first | (k_asm; done) | fail) (by first | (k_asm; done) | fail) (by first | (k_updF; done) | fail) (by first | (k_mem; done) | fail) (by first | (assumption; done) | fail) ?_; k_whole); intro h'q9 k'q9 F'q9 N'q9; (try k_sweep)) | walk1) | (leave1; try dsimp only))
          rename Fr _ _ _ _ => F9
          rename News _ _ _ _ => N9
          have em2 : (done ++ [z0]).map (·.2) = done.map (·.2) ++ [z0.2] := by simp
          have N10 := News.tail' N9
          rw [refsD_app _ z0.2, ← em2] at N10
          rename _ = Data.cell _ => dz
          have hl9 : (popL ((qa, qr) :: r2)).length ≤ 5 := by rw [hp5.length_eq]; exact Nat.le_trans hlr (by decide)
          refine IH2 (popL ((qa, qr) :: r2)) _ ?_ fun G hG => hG _ _ _ _ _ (done ++ [z0]) zl2 _ _ _ rfl F9 N10 dz ho5 hq1 hq2 hq3 hq4 hl9 rfl rfl rfl rfl rfl
          rw [hp5.length_eq, eh, List.length_cons]
          exact Nat.lt_succ_self _


end
end Mine

end
section
-- EN
open PySem PySem.W PySem.Spec PySem.Calls PyProof.Rows PyProof.Rows.LCg
set_option Elab.async false
set_option maxRecDepth 100000
set_option maxHeartbeats 2000000
namespace Mine
noncomputable def refs9 (made : List (Addr × Obj)) : List Value := made.reverse.map fun p => .ref p.1
theorem refs9_cons (q : Addr × Obj) (made : List (Addr × Obj)) : refs9 (q :: made) = refs9 made ++ [.ref q.1] := by simp [refs9]
theorem refs9_len (made : List (Addr × Obj)) : (refs9 made).length = made.length := by simp [refs9]
inductive EnumJ (h₀ : Heap) (env : Env) (s₁ : Shared) (P : Nat → Obj → Prop) (e it l D C : Nat) (vs : List Value) (m : Str → Option Value) (news : List (Addr × Obj)) (k : Nat) (s' : Shared) : Prop
  | mk (h' : Heap) (tk i : Nat) (made : List (Addr × Obj)) (m' : Str → Option Value) (_ : s' = { s₁ with heap := h', toks := tk }) (_ : i ≤ vs.length) (_ : k = vs.length + 1 - i) (_ : made.length = i) (_ : (∃ old, IsEnum h' e it i old) ∧ h'.IsListIter it l i ∧ h'.IsList l vs.toArray) (_ : Fr h₀ env.locals h' m) (_ : h'.Ns C m')
      (_ : News h₀ env.locals h' ((D, lst (refs9 made)) :: (made ++ news))) (_ : ∀ p ∈ made, @LT.lt Nat instLTNat C p.1) (_ : made.Pairwise (fun p q => @LT.lt Nat instLTNat q.1 p.1)) (_ : ∀ j p, made.reverse[j]? = some p → P j p.2) : EnumJ h₀ env s₁ P e it l D C vs m news k s'
section
variable {prog : Program} {w : World} {A : Around} {E : Value → Shared → Prop} {s : Shared} {h₀ : Heap} {env : Env} {scope : Scope} {cl : List (Str × Addr)} {a b : Str} {elt : Expr}
/-- what a comprehension over enumerate(list) asks, each element of which makes one object -/
inductive EnumAt (prog : Program) (w : World) (A : Around) (h₀ : Heap) (env : Env) (elt : Expr) (a b : Str) (scope : Scope) (cl : List (Str × Addr)) (P : Nat → Obj → Prop) (Q : Value → Shared → Prop) (xv : Value) (s₁ : Shared) : Prop
  | mk (e it l : Addr) (vs : List Value) (m : Str → Option Value) (news : List (Addr × Obj)) (_ : xv = .ref e) (_ : (∃ old, IsEnum s₁.heap e it 0 old)) (_ : s₁.heap.IsListIter it l 0) (_ : s₁.heap.IsList l vs.toArray) (_ : e ≠ it) (_ : l ≠ e) (_ : l ≠ it) (_ : vs.length ≤ 1000) (_ : Fr h₀ env.locals s₁.heap m) (_ : News h₀ env.locals s₁.heap news) (_ : env.locals ≠ e) (_ : env.locals ≠ it) (_ : h₀.get? e = none) (_ : h₀.get? it = none) (_ : (∀ p ∈ news, p.1 ≠ e ∧ p.1 ≠ it)) (_ : (∀ i v t C h m₂ tk E', vs[i]? = some v → h.Ns C m₂ → m₂ a = some (.int (i : Nat) t) → m₂ b = some v →       wpAny (model prog w) A (eval elt (compEnvC scope cl C env)) (fun y s₄ => ∃ o tk', P i o ∧ o.isFreed = false ∧ y = .ref h.objs.size ∧ s₄ = { s₁ with heap := h.push o, toks := tk' }) E' { s₁ with heap := h, toks := tk })) (_ : (∀ D h' tk made, Fr h₀ env.locals h' m → News h₀ env.locals h' ((D, lst (refs9 made)) :: (made ++ news)) → (∀ p ∈ news, @LT.lt Nat instLTNat p.1 D) → (∀ p ∈ made, @LT.lt Nat instLTNat D p.1) → made.Pairwise (fun p q => @LT.lt Nat instLTNat q.1 p.1) → made.length = vs.length →       (∀ j p, made.reverse[j]? = some p → P j p.2) → Q (.ref D) { s₁ with heap := h', toks := tk })) : EnumAt prog w A h₀ env elt a b scope cl P Q xv s₁
theorem eval_compE {iter : Expr} {pa pb tp : Pos} {kk : Nat} {pos : Pos} {Q : Value → Shared → Prop} {m₀ : Str → Option Value} (_F : Fr h₀ env.locals s.heap m₀) (P : Nat → Obj → Prop) (hh : A.handled = none)
    (hclos : closureFor scope env = pure cl) (hcell : ∀ z ∈ scope.names, z.2 ≠ .cell) (hkind : scope.kind = .function)
    (hnames : ∀ z ∈ scope.names, z.2 = .local → scope.names.lookup z.1 = some .local) (hxa : scope.names.lookup a = some .local) (hxb : scope.names.lookup b = some .local) (hab : ¬ a = b)
    (hs : ∀ x, foldedSetIterable iter env x = pure x)
    (h : wpAny (model prog w) A (eval iter env) (EnumAt prog w A h₀ env elt a b scope cl P Q) E s) :
    wpAny (model prog w) A (eval (.ListComp elt [⟨.Tuple [.Name a pa, .Name b pb] kk tp, iter, [], 0⟩] scope pos) env) Q E s := by
  rw [eval_ListComp]
  refine wpAny_comprehension_free (use := none) rfl hs hclos hkind hnames (wpAny_mono h (fun xv s₁ h₁ => ?_) fun _ _ e => e)
  obtain ⟨e, it, l, vs, m, news, rfl, hE, hI, hl, n1, n2, n3, hz, F, N, k1, k2, g1, g2, off, helt, hQ⟩ := h₁
  have W := WalksT.enumerate (prog := prog) (w := w) hh e it l n1 n2 n3 vs.toArray
  have hel : @LT.lt Nat instLTNat e s₁.heap.objs.size := by obtain ⟨_, x⟩ := hE; exact Heap.lt_size x
  have hil : @LT.lt Nat instLTNat it s₁.heap.objs.size := by obtain ⟨_, x, _⟩ := hI; exact Heap.lt_size x
  have hll : @LT.lt Nat instLTNat l s₁.heap.objs.size := by obtain ⟨_, x, _⟩ := hl; exact Heap.lt_size x
  have hLl : @LT.lt Nat instLTNat env.locals s₁.heap.objs.size := F.ns.lt
  have hNl : ∀ p ∈ news, @LT.lt Nat instLTNat p.1 s₁.heap.objs.size := fun p hp => Heap.lt_size (N p hp).1
  refine W.self 0 _ _ _ ⟨hE, hI, hl⟩ ?_
  refine wpAny_newObj_type (wpAny_newFunctionEnv hcell (by intro y hy; simp at hy) (fun h₁ hns₁ hsb₁ => ?_) hkind)
  dsimp only at hns₁ hsb₁ ⊢
  generalize hH2 : s₁.heap.push { cls := .type "list", dict := none, data := .seq ([] : List Value).toArray } = H2 at hns₁ hsb₁ ⊢
  have hC : H2.objs.size = s₁.heap.objs.size + 1 := by rw [← hH2, Heap.size_push]
  have old : ∀ c o, s₁.heap.get? c = some o → h₁.get? c = some o := fun c o q => by
    have hc : @LT.lt Nat instLTNat c s₁.heap.objs.size := Heap.lt_size q
    refine hsb₁.extBut c o ?_ (Heap.get?_push_of_some _ (hH2 ▸ Heap.get?_push_of_some _ q))
    show @Ne Nat c H2.objs.size
    omega
  have hacc : h₁.get? s₁.heap.objs.size = some (lst []) := hsb₁.extBut _ _ (by show @Ne Nat s₁.heap.objs.size H2.objs.size; omega) (Heap.get?_push_of_some _ (hH2 ▸ Heap.get?_push_size _ rfl))
  have fresh₀ : ∀ c : Nat, s₁.heap.objs.size ≤ c → h₀.get? c = none := fun c hc => by
    cases q : h₀.get? c with
    | none => rfl
    | some o' => exact absurd (Heap.lt_size (F.keep c o' q)) (Nat.not_lt.mpr hc)
  clear hH2
  generalize hCC : H2.objs.size = C at *
  generalize hDD : s₁.heap.objs.size = D at *
  clear hCC
  have loop : ∀ s₃ : Shared, s₃ = { s₁ with heap := h₁, toks := s₁.toks + ([] : List (Str × Value)).length } →
      codeAny (model prog w) A (.compLoop (.ListComp elt [⟨.Tuple [.Name a pa, .Name b pb] kk tp, iter, [], 0⟩] scope pos) 0 (.ref e) (.ref D) (compEnvC scope cl C env))
        (compPost (model prog w) A E none Q (.ref D) C) s₃ := by
    rintro s₃ rfl
    refine kcp_loop
      (EnumJ h₀ env s₁ P e it l D C vs m news) ?_ (vs.length + 1)
      ⟨h₁, _, 0, [], _, rfl, Nat.zero_le _, rfl, rfl, W.frame _ _ _ ⟨hE, hI, hl⟩ (fun c _ o q => old c o q), F.keeps old, hns₁, fun p hp => ?_, (fun p hp => nomatch hp), .nil, (fun j p hp => by simp at hp)⟩
    · rintro k s' ⟨h', tk, i, made, m', rfl, hi, rfl, hml, hst, F', hn', N', hgt, hpw, hP'⟩
      have hmade : ∀ p ∈ made, @LT.lt Nat instLTNat C p.1 := hgt
      by_cases hlt : i < vs.length
      · refine W.item i _ _ _ (by simpa using hlt) hst fun T vals h₂ tk₂ hPt hT9 hTup hMid hk₂ => ?_
        refine W.go _ _ _ i T _ _ _ hMid fun h₃ hst₃ hk₃ => ?_
        obtain ⟨t, x, hx, rfl⟩ := hPt
        have hTw := W.apart i T _ hMid
        have hTup3 : h₃.IsTuple T #[.int i t, x] := let ⟨o, ho, r⟩ := hTup; ⟨o, hk₃ T o hTw ho, r⟩
        have up₃ : ∀ c o, @Ne Nat c e → @Ne Nat c it → h'.get? c = some o → h₃.get? c = some o := fun c o c1 c2 q => by
          have hcw : c ∉ [e, it] := by
            intro hm
            rcases List.mem_cons.mp hm with hm | hm
            · exact c1 hm
            · exact c2 (List.mem_singleton.mp hm)
          exact hk₃ c o hcw (hk₂ c o hcw q)
        have hCe : @Ne Nat C e := by omega
        have hCi : @Ne Nat C it := by omega
        refine kcp_assign (env := compEnvC scope cl C env) hh hTup3 (lookup_relabel_local hxa) (lookup_relabel_local hxb) (by simp [compEnvC, relabel, hkind]) (hn'.at' fun o q => up₃ _ o hCe hCi q) fun h₄ tk₄ hn₄ hs₄ => ?_
        have hs₄' : ∀ c o, @Ne Nat c C → h₃.get? c = some o → h₄.get? c = some o := fun c o hc q => hs₄ c o hc q
        refine wpAny_mono (helt i x t C h₄ _ tk₄ _ (by simpa using hx) hn₄ (by simp [hab]) (by simp)) (fun y s₅ h₅ => ?_) fun _ _ e => e
        obtain ⟨o, tk', hPo, hfr, rfl, rfl⟩ := h₅
        have up₄ : ∀ c o, @Ne Nat c e → @Ne Nat c it → @Ne Nat c C → h'.get? c = some o → (h₄.push o).get? c = some o := fun c o c1 c2 c3 q => Heap.get?_push_of_some _ (hs₄' c o c3 (up₃ c o c1 c2 q))
        have up₅ : ∀ c o', @Ne Nat c e → @Ne Nat c it → @Ne Nat c C → h'.get? c = some o' → (h₄.push o).get? c = some o' := fun c o' c1 c2 c3 q => Heap.get?_push_of_some _ (hs₄' c o' c3 (up₃ c o' c1 c2 q))
        have zD := up₅ D _ (by omega) (by omega) (by omega) (N' _ (.head _)).1
        have hCl : @LT.lt Nat instLTNat C h₄.objs.size := hn₄.lt
        have hDl : @LT.lt Nat instLTNat D h₄.objs.size := by omega
        refine append_at (hsz := by show (refs9 made).toArray.size ≤ sizeLine; rw [List.size_toArray, refs9_len, sizeLine_eq]; omega) zD fun h₆ hs₆ hD₆ => ?_
        have up₆ : ∀ c o', @Ne Nat c e → @Ne Nat c it → @Ne Nat c C → @Ne Nat c D → h'.get? c = some o' → h₆.get? c = some o' := fun c o' c1 c2 c3 c4 q => hs₆.extBut c o' c4 (up₅ c o' c1 c2 c3 q)
        have hsz4 : @LE.le Nat instLENat D h₄.objs.size := Nat.le_of_lt hDl
        have hn₆ := Heap.Ns.at' (h' := h₆) hn₄ fun o' q => hs₆.extBut C o' (by show @Ne Nat C D; omega) (Heap.get?_push_of_some _ q)
        refine ⟨vs.length + 1 - (i + 1), by omega, h₆, tk', i + 1, (h₄.objs.size, o) :: made, _, rfl, hlt, rfl, by rw [List.length_cons, hml], ?_, ?_, hn₆, ?_, ?_, ?_, ?_⟩
        · refine W.frame _ _ _ hst₃ fun c hc o' q => hs₆.extBut c o' ?_ (Heap.get?_push_of_some _ (hs₄' c o' ?_ q))
          · show @Ne Nat c D
            simp only [List.mem_cons, List.not_mem_nil, or_false] at hc
            rcases hc with rfl | rfl | rfl <;> omega
          · simp only [List.mem_cons, List.not_mem_nil, or_false] at hc
            rcases hc with rfl | rfl | rfl <;> omega
        · refine ⟨F'.ns.at' fun o' q => up₆ _ o' k1 k2 (by omega) (by omega) q, fun c o' q => ?_, F'.above⟩
          have c1 : @Ne Nat c e := fun z => by rw [show c = e from z, g1] at q; cases q
          have c2 : @Ne Nat c it := fun z => by rw [show c = it from z, g2] at q; cases q
          have c3 : @Ne Nat c C := fun z => by rw [show c = C from z, fresh₀ C (by omega)] at q; cases q
          have c4 : @Ne Nat c D := fun z => by rw [show c = D from z, fresh₀ D (Nat.le_refl _)] at q; cases q
          exact up₆ c o' c1 c2 c3 c4 (F'.keep c o' q)
        · intro q hq
          rcases List.mem_cons.mp hq with rfl | hq
          · have := (N' _ (.head _)).2
            rw [refs9_cons]
            exact ⟨hD₆.trans (congrArg some (lst_snoc (refs9 made) (.ref h₄.objs.size))), this⟩
          · rcases List.mem_cons.mp hq with rfl | hq
            · refine ⟨hs₆.extBut _ _ (by show @Ne Nat h₄.objs.size D; omega) (Heap.get?_push_size _ hfr), ?_, fresh₀ _ hsz4⟩
              show @Ne Nat h₄.objs.size env.locals
              omega
            · have z := N' q (.tail _ hq)
              rcases List.mem_append.mp hq with hq | hq
              · have := hmade q hq
                exact ⟨up₆ _ _ (by omega) (by omega) (by omega) (by omega) z.1, z.2⟩
              · have h1 := hNl q hq
                obtain ⟨o1, o2⟩ := off q hq
                exact ⟨up₆ _ _ o1 o2 (by omega) (by omega) z.1, z.2⟩
        · intro q hq
          rcases List.mem_cons.mp hq with rfl | hq
          · exact hCl
          · exact hgt q hq
        · refine List.pairwise_cons.mpr ⟨fun q hq => ?_, hpw⟩
          have z := N' q (.tail _ (List.mem_append_left _ hq))
          have := hmade q hq
          exact Heap.lt_size (hs₄' q.1 q.2 (by omega) (up₃ q.1 q.2 (by omega) (by omega) z.1))
        · intro j p hp
          rw [List.reverse_cons] at hp
          by_cases hj : j < made.reverse.length
          · rw [List.getElem?_append_left hj] at hp
            exact hP' j p hp
          · rw [List.getElem?_append_right (by omega)] at hp
            have hj0 : j - made.reverse.length = 0 := by
              cases hd : j - made.reverse.length with
              | zero => rfl
              | succ n => rw [hd] at hp; simp at hp
            rw [hj0] at hp
            have hp' : (h₄.objs.size, o) = p := by simpa using hp
            have hji : j = i := by rw [List.length_reverse] at hj hj0; omega
            rw [← hp', hji]
            exact hPo
      · have hin : i = vs.length := Nat.le_antisymm hi (Nat.not_lt.mp hlt)
        subst hin
        refine W.done _ _ _ (by simpa using hst) fun h₂ tk₂ hk₂ => ?_
        have up : ∀ c o, @Ne Nat c e → @Ne Nat c it → h'.get? c = some o → h₂.get? c = some o := fun c o c1 c2 q => by
          have hcw : c ∉ [e, it] := by
            intro hm
            rcases List.mem_cons.mp hm with hm | hm
            · exact c1 hm
            · exact c2 (List.mem_singleton.mp hm)
          exact hk₂ c o hcw q
        refine ⟨m', hn'.at' fun o q => up _ o (by omega) (by omega) q, fun h'' hs'' => ?_⟩
        have up2 : ∀ c o, @Ne Nat c e → @Ne Nat c it → @Ne Nat c C → h'.get? c = some o → h''.get? c = some o := fun c o c1 c2 c3 q => hs''.extBut c o c3 (up c o c1 c2 q)
        refine hQ D h'' tk₂ made ?_ ?_ hNl (fun p hp => by have := hmade p hp; omega) hpw hml hP'
        · refine ⟨F'.ns.at' fun o' q => up2 _ o' k1 k2 (by omega) q, fun c o' q => ?_, F'.above⟩
          have c1 : @Ne Nat c e := fun z => by rw [show c = e from z, g1] at q; cases q
          have c2 : @Ne Nat c it := fun z => by rw [show c = it from z, g2] at q; cases q
          have c3 : @Ne Nat c C := fun z => by rw [show c = C from z, fresh₀ C (by omega)] at q; cases q
          exact up2 c o' c1 c2 c3 (F'.keep c o' q)
        · intro q hq
          have z := N' q hq
          rcases List.mem_cons.mp hq with rfl | hq
          · exact ⟨up2 _ _ (by show @Ne Nat D e; omega) (by show @Ne Nat D it; omega) (by show @Ne Nat D C; omega) z.1, z.2⟩
          · rcases List.mem_append.mp hq with hq | hq
            · have := hmade q hq
              exact ⟨up2 _ _ (by omega) (by omega) (by omega) z.1, z.2⟩
            · have h1 := hNl q hq
              obtain ⟨o1, o2⟩ := off q hq
              exact ⟨up2 _ _ o1 o2 (by omega) z.1, z.2⟩
    · rcases List.mem_cons.mp hp with rfl | hp
      · refine ⟨hacc, ?_, fresh₀ _ (Nat.le_refl _)⟩
        show @Ne Nat D env.locals
        omega
      · exact ⟨old _ _ (N p hp).1, (N p hp).2⟩
  exact codeAny_compStart_list (loop _ rfl) (W.self 0 _ _ _ (W.frame _ _ _ ⟨hE, hI, hl⟩ (fun c _ o q => old c o q)) (loop _ rfl))
end
end Mine

end
section
-- LA
open PySem PySem.W PySem.Spec PySem.Calls PyProof.Rows
set_option Elab.async false
set_option maxRecDepth 100000
set_option maxHeartbeats 2000000
namespace Mine
theorem five_len (ns : List Int) : (List.take 5 (List.map (fun k' : Int => k'.fmod (10 ^ 6)) (List.take 5 ns) ++ [247228, 18116, 20853, 2920, 73872])).length = 5 := by simp
theorem five_bnd (ns : List Int) : ∀ x ∈ List.take 5 (List.map (fun k' : Int => k'.fmod (10 ^ 6)) (List.take 5 ns) ++ [247228, 18116, 20853, 2920, 73872]), 0 ≤ x ∧ x < 1000000 := by
  intro x hx
  have hx := List.mem_of_mem_take hx
  rcases List.mem_append.mp hx with hx | hx
  · obtain ⟨k, _, rfl⟩ := List.mem_map.mp hx
    exact ⟨Int.fmod_nonneg_of_pos _ (by decide), Int.fmod_lt_of_pos _ (by decide)⟩
  · simp only [List.mem_cons, List.not_mem_nil, or_false] at hx
    rcases hx with rfl | rfl | rfl | rfl | rfl <;> decide
theorem five_cells {ns : List Int} {ws : List Value} (h : IntsAre ws (List.take 5 (List.map (fun k' : Int => k'.fmod (10 ^ 6)) (List.take 5 ns) ++ [247228, 18116, 20853, 2920, 73872]))) :
    ∃ (c0 c1 c2 c3 c4 : Int) (t0 t1 t2 t3 t4 : Tok), ws = [.int c0 t0, .int c1 t1, .int c2 t2, .int c3 t3, .int c4 t4] ∧ (0 ≤ c0 ∧ c0 < 1000000) ∧ (0 ≤ c1 ∧ c1 < 1000000) ∧ (0 ≤ c2 ∧ c2 < 1000000) ∧ (0 ≤ c3 ∧ c3 < 1000000) ∧ (0 ≤ c4 ∧ c4 < 1000000) := by
  have hl := five_len ns
  have hb := five_bnd ns
  revert h hl hb
  generalize List.take 5 (List.map (fun k' : Int => k'.fmod (10 ^ 6)) (List.take 5 ns) ++ [247228, 18116, 20853, 2920, 73872]) = xs
  intro h hl hb
  match xs, hl with
  | [c0, c1, c2, c3, c4], _ =>
    cases h with
    | cons _ t0 h => cases h with
      | cons _ t1 h => cases h with
        | cons _ t2 h => cases h with
          | cons _ t3 h => cases h with
            | cons _ t4 h =>
              cases h
              exact ⟨c0, c1, c2, c3, c4, t0, t1, t2, t3, t4, rfl, hb _ (by simp), hb _ (by simp), hb _ (by simp), hb _ (by simp), hb _ (by simp)⟩
/-- a deed as the law makes it -/
inductive DeedObj (i : Nat) (o : Obj) : Prop
  | mk (e : Deed) (t1 t2 t3 t4 : Tok) (_ : e.ok) (_ : e.q < 50000) (_ : e.j = (i : Int)) (_ : o = tup4 e.h e.k e.q e.j t1 t2 t3 t4) : DeedObj i o
theorem deedObj_mk {i : Nat} {c : Int} {t1 t2 t3 t4 : Tok} (h0 : 0 ≤ c) (h1 : c < 1000000) (hi : i < 5) : DeedObj i (tup4 (c.fmod 5) ((c.fdiv 5).fmod 4) (c.fdiv 20) (i : Int) t1 t2 t3 t4) := by
  refine ⟨⟨c.fmod 5, (c.fdiv 5).fmod 4, c.fdiv 20, (i : Int)⟩, t1, t2, t3, t4, ⟨?_, ?_, ?_, ?_, ?_, ?_⟩, ?_, rfl, rfl⟩
  · exact Int.fmod_nonneg_of_pos _ (by decide)
  · exact Int.fmod_nonneg_of_pos _ (by decide)
  · exact Int.fmod_lt_of_pos _ (by decide)
  · show 0 ≤ c.fdiv 20
    rw [Int.fdiv_eq_ediv_of_nonneg _ (by decide)]; omega
  · show (0 : Int) ≤ i
    omega
  · show (i : Int) < 8
    omega
  · show c.fdiv 20 < 50000
    rw [Int.fdiv_eq_ediv_of_nonneg _ (by decide)]; omega
theorem later_ok (ds : List (Addr × Deed)) : ∀ q ∈ ds, laterN ds q.2 < ds.length := by
  intro q hq
  unfold laterN
  refine Nat.lt_of_le_of_ne List.countP_le_length fun h => ?_
  have := List.countP_eq_length.mp h q hq
  simp at this
theorem rank_ne {e e' : Deed} {a b : Int} (h : e.j = a) (h' : e'.j = b) (ha : 0 ≤ a ∧ a < 8) (hb : 0 ≤ b ∧ b < 8) (n : a ≠ b) : e.rank ≠ e'.rank := by
  unfold Deed.rank
  rw [h, h']
  intro q
  apply n
  have h1 : (e.h * 4 + e.k) * 8 + a = (e'.h * 4 + e'.k) * 8 + b := by rw [Int.add_mul, Int.add_mul, Int.mul_assoc, Int.mul_assoc]; exact q
  generalize e.h * 4 + e.k = x at h1
  generalize e'.h * 4 + e'.k = y at h1
  clear q h h' n
  omega
theorem rank_nodup {e0 e1 e2 e3 e4 : Deed} (h0 : e0.j = 0) (h1 : e1.j = 1) (h2 : e2.j = 2) (h3 : e3.j = 3) (h4 : e4.j = 4) : [e0.rank, e1.rank, e2.rank, e3.rank, e4.rank].Nodup := by
  simp only [List.nodup_cons, List.mem_cons, List.not_mem_nil, or_false, not_or, List.nodup_nil, and_true, not_false_eq_true]
  exact ⟨⟨rank_ne h0 h1 (by decide) (by decide) (by decide), rank_ne h0 h2 (by decide) (by decide) (by decide), rank_ne h0 h3 (by decide) (by decide) (by decide), rank_ne h0 h4 (by decide) (by decide) (by decide)⟩, ⟨rank_ne h1 h2 (by decide) (by decide) (by decide), rank_ne h1 h3 (by decide) (by decide) (by decide), rank_ne h1 h4 (by decide) (by decide) (by decide)⟩, ⟨rank_ne h2 h3 (by decide) (by decide) (by decide), rank_ne h2 h4 (by decide) (by decide) (by decide)⟩, rank_ne h3 h4 (by decide) (by decide) (by decide)⟩
/-- the told listings -/
noncomputable def toldT (mo : Int) (ds : List (Addr × Deed)) (i : Nat) : Str := Txt.join (Str.ofString "") (fmT (doneF mo (backL (ds.take i)).reverse) 0 fmRows)
theorem backL_sub (ds : List (Addr × Deed)) : ∀ (l b : List (Addr × Deed)), (∀ q ∈ l, q ∈ ds) → (∀ q ∈ b, q ∈ ds) → ∀ q ∈ l.foldl (fun b d => b.set (laterN ds d.2) d) b, q ∈ ds
  | [], _, _, hb => hb
  | d :: r, b, hl, hb => backL_sub ds r _ (fun q hq => hl q (.tail _ hq)) fun q hq => by
      rcases List.mem_or_eq_of_mem_set hq with h | h
      · exact hb q h
      · rw [h]; exact hl d (.head _)
theorem backL_mem (ds : List (Addr × Deed)) : ∀ q ∈ backL ds, q ∈ ds := backL_sub ds ds ds (fun _ h => h) fun _ h => h
theorem backL_len (ds : List (Addr × Deed)) : (backL ds).length = ds.length := fold_len (laterN ds) ds ds
theorem told_eq (m : Nat) (ds : List (Addr × Deed)) (i : Nat) (h : ∀ d ∈ ds, d.2.ok) :
    shown12 (m : Int) (rightV m (backL (ds.take i)) 0 0) (rightV m (backL (ds.take i)) 1 0) (rightV m (backL (ds.take i)) 2 0) (rightV m (backL (ds.take i)) 3 0) (rightV m (backL (ds.take i)) 4 0) (rightV m (backL (ds.take i)) 5 0) (rightV m (backL (ds.take i)) 6 0) (rightV m (backL (ds.take i)) 7 0) (rightV m (backL (ds.take i)) 8 0) (rightV m (backL (ds.take i)) 9 0) (rightV m (backL (ds.take i)) 10 0) (rightV m (backL (ds.take i)) 11 0) = toldT m ds i :=
  (listing_eq m (backL (ds.take i)) fun d hd => h d (List.mem_of_mem_take (backL_mem _ d hd))).symm
section
variable {prog : Program} {w : World} {A : Around} {E : Value → Shared → Prop} {s : Shared} {h₀ hs : Heap} {L l a b : Addr} {m : Str → Option Value} {news : List (Addr × Obj)} {n k : Nat} {Q : Value → Shared → Prop} {value slice : Expr}
theorem eq_told {mo : Int} {ds : List (Addr × Deed)} {lt : List (Str × Tok)} {ys : Array Value} (ha : s.heap.get? a = some (listOf (strValues lt).toArray n)) (hb : s.heap.get? b = some (listOf ys k)) (hl : lt.map (·.1) = histT mo ds 6) (hsz : ys.size = 6)
    (hys : ∀ i, i < 6 → ∃ v, ys[i]? = some v ∧ ∃ t', v = .str (toldT mo ds i) t') (hu : A.units < cLine) (h : Q (.bool true) s) : wpAny (model prog w) A (compareOp .Eq (.ref a) (.ref b)) Q E s := by
  have hll : lt.length = 6 := by
    have := congrArg List.length hl
    rw [List.length_map] at this
    rw [this]
    simp [histT]
  have hz : (strValues lt).toArray.size = ys.size := by rw [strV_len, hll, hsz]
  refine SeqAt.eq_listAt (e := fun _ => true) ⟨_, ha, rfl, n, rfl⟩ ⟨_, hb, rfl, k, rfl⟩ hz hu (fun j h1 h2 => ?_) ?_
  · have hj : j < 6 := by omega
    obtain ⟨v, hv, t', rfl⟩ := hys j hj
    have e2 : ys[j] = .str (toldT mo ds j) t' := by
      rw [Array.getElem?_eq_getElem h2] at hv
      exact Option.some.inj hv
    have hjl : j < lt.length := by omega
    have e3 : (lt.map (·.1))[j]? = some (toldT mo ds j) := by
      rw [hl]
      unfold histT toldT
      rw [List.getElem?_map, List.getElem?_range hj]
      rfl
    have e4 : lt[j].1 = toldT mo ds j := by
      rw [List.getElem?_map, List.getElem?_eq_getElem hjl] at e3
      exact Option.some.inj e3
    have e1 : (strValues lt).toArray[j] = .str (toldT mo ds j) lt[j].2 := by
      simp [strValues, e4]
    rw [e1, e2]
    have hg := (PyProof.Rows.eqGives_str (toldT mo ds j) (toldT mo ds j) lt[j].2 t').at A.in1 s
    rw [beq_self_eq_true] at hg
    exact hg
  · have : ((List.range (strValues lt).toArray.size).all fun _ => true) = true := by simp
    rw [this]
    exact h
theorem slice_line {ds : List (Addr × Deed)} {i : Nat} {t : Tok} (F : Fr h₀ L s.heap m) (N : News h₀ L s.heap news) (X : Ext hs s.heap) (hm : (l, listOf (refsD ds).toArray n) ∈ news) (hz : ds.length ≤ 5)
    (h : ∀ D h', Fr h₀ L h' m → News h₀ L h' ((D, listOf (refsD (ds.take i)).toArray 0) :: news) → Ext hs h' → Q (.ref D) { s with heap := h' })
    (hs' : subscripted slice false (.ref l) (.ref s.heap.objs.size) = operate [.ref s.heap.objs.size, .ref l] (getItem (.ref l) (.ref s.heap.objs.size))) (ht : ∀ r, letTemporaryGo value (.ref l) r = pure ()) :
    wpAny (model prog w) A (subscriptTail value slice (.ref l) (.ref s.heap.objs.size)) Q E { s with heap := s.heap.push { cls := .type "slice", data := .fields #[.none, .int (i : Int) t, .none] } } := by
  have hl : s.heap.IsList l (refsD ds).toArray := ⟨_, (N _ hm).1, rfl, n, rfl⟩
  refine subscriptTail_ops (Heap.IsList.typeIs (s := { s with heap := s.heap.push { cls := .type "slice", data := .fields #[.none, .int (i : Int) t, .none] } }) (hl.push _)) list_getitem_lookup
    (wpAny_getItem_list_slice (hl.push _) (Heap.IsSliceOf.new ..) IsPart.none (IsPart.int _ _) .none (by simp) ?_ (refsD_fit hz)) hs' ht
  have e : slicePick (refsD ds).toArray none (some (i : Int)) none = (refsD (ds.take i)).toArray := by
    rw [slicePick_upto']
    simp [refsD, List.map_take]
  rw [e]
  have N1 := News.push (F.push { cls := .type "slice", data := .fields #[.none, .int (i : Int) t, .none] }) (N.grown fun _ _ e => Heap.get?_push_of_some _ e) { cls := .type "list", data := .seq (refsD (ds.take i)).toArray }
  exact h _ _ ((F.push _).push _) N1 fun c o q => Heap.get?_push_of_some _ (Heap.get?_push_of_some _ (X c o q))
end
section
variable {w : World} {dp un : Nat} {fr : Option (List Env)} {gd : Option (List Code)} {s : Shared} {B h₀ hs : Heap} {p : Program} {loose : List Str} {mean : ExcName → Option Value} {mg mb : Str → Option Value} {Q E : Value → Shared → Prop} {mo : Int} {t : Tok} {L bk : Addr} {n : Nat} {m : Str → Option Value} {news : List (Addr × Obj)}
theorem new_line {D : Addr} {o : Obj} {h' : Heap} (F : Fr h₀ L s.heap m) (N : News h₀ L s.heap news) (hD : s.heap.get? D = none) (g : h'.get? D = some o) (x : Ext s.heap h') : News h₀ L h' ((D, o) :: news) := fun q hq => by
  rcases List.mem_cons.mp hq with rfl | hq
  · refine ⟨g, ?_, ?_⟩
    · intro e
      obtain ⟨oL, es, ep, ho, _⟩ := F.ns
      rw [show D = L from e, ho] at hD
      cases hD
    · cases e : h₀.get? D with
      | none => rfl
      | some o' => rw [F.keep _ _ e] at hD; cases hD
  · exact (x.news N) q hq
theorem back_line (ds : List (Addr × Deed)) (F : Fr h₀ L s.heap m) (N : News h₀ L s.heap news) (X : Ext hs s.heap) (hm : (bk, listOf (refsD ds).toArray n) ∈ news) (G : Deep w p loose mean mg mb B) (hB : Ext B h₀) (hr : dp + 30 < recursionLimit) (hun : un + 100 < cLine) (hlen : ds.length ≤ 5)
    (hds : ∀ q ∈ ds, DeedAt hs q.1 q.2 ∧ q.2.ok)
    (h : ∀ D h' tk' k, Fr h₀ L h' m → News h₀ L h' ((D, listOf (refsD (backL ds)).toArray k) :: news) → Ext hs h' → Q (.ref D) { s with heap := h', toks := tk' }) :
    wpAny (model prog w) { handled := none, depth := dp, frames := fr, guards := gd, units := un } (call (.ref 136) [.ref bk]) Q E s :=
  back_raw ds G (hB.trans F.keep) (none_of hB (N _ hm).2.2) hr hun hlen (fun q hq => ⟨(hds q hq).1.keeps X, (hds q hq).2⟩) (later_ok ds) (N _ hm).1
    fun D h' tk' k hD g x => h D h' tk' k (x.fr F) (new_line F N hD g x) (X.trans x)
theorem shown_line (ds : List (Addr × Deed)) (F : Fr h₀ L s.heap m) (N : News h₀ L s.heap news) (X : Ext hs s.heap) (hm : (bk, listOf (refsD ds).toArray n) ∈ news) (G : Deep w p loose mean mg mb B) (hB : Ext B h₀) (hr : dp + 50 < recursionLimit) (hmo : 0 ≤ mo ∧ mo < 262144) (hlen : ds.length ≤ 5)
    (hds : ∀ q ∈ ds, DeedAt hs q.1 q.2 ∧ q.2.ok ∧ q.2.q < 50000)
    (h : ∀ h' tk' t', Fr h₀ L h' m → News h₀ L h' news → Ext hs h' → Q (.str (shown12 mo (rightV mo ds 0 0) (rightV mo ds 1 0) (rightV mo ds 2 0) (rightV mo ds 3 0) (rightV mo ds 4 0) (rightV mo ds 5 0) (rightV mo ds 6 0) (rightV mo ds 7 0) (rightV mo ds 8 0) (rightV mo ds 9 0) (rightV mo ds 10 0) (rightV mo ds 11 0)) t') { s with heap := h', toks := tk' }) :
    wpAny (model prog w) { handled := none, depth := dp, frames := fr, guards := gd, units := un } (call (.ref 148) [.int mo t, .ref bk]) Q E s :=
  shown_raw ds G (hB.trans F.keep) (none_of hB (N _ hm).2.2) hr hmo hlen (fun q hq => ⟨(hds q hq).1.keeps X, (hds q hq).2⟩) (N _ hm).1
    fun h' tk' t' x => h h' tk' t' (x.fr F) (x.news N) (X.trans x)
theorem hist_line {dl d0 d1 d2 d3 d4 T : Addr} {e0 e1 e2 e3 e4 : Deed} {oT : Obj} (F : Fr h₀ L s.heap m) (N : News h₀ L s.heap news) (G : Deep w p loose mean mg mb B) (hB : Ext B h₀) (h70 : (70, tabObj #[]) ∈ news) (hr : dp + 100 < recursionLimit) (hun : un + 300 < cLine)
    (hds : ∀ q ∈ [(d0, e0), (d1, e1), (d2, e2), (d3, e3), (d4, e4)], h₀.get? q.1 = none ∧ DeedAt s.heap q.1 q.2 ∧ q.2.ok)
    (hrk : [e0.rank, e1.rank, e2.rank, e3.rank, e4.rank].Nodup) (hm : (dl, listOf #[.ref d0, .ref d1, .ref d2, .ref d3, .ref d4] n) ∈ news) (hT : (T, oT) ∈ news) (hT70 : T ≠ 70)
    (h : ∀ D h' tk' k (l : List (Str × Tok)) (ps : Array Value), Fr h₀ L h' m → News h₀ L h' [(D, listOf (strValues l).toArray k), (T, oT), (70, tabObj ps)] → l.map (·.1) = histT mo [(d0, e0), (d1, e1), (d2, e2), (d3, e3), (d4, e4)] 6 → Q (.ref D) { s with heap := h', toks := tk' }) :
    wpAny (model prog w) { handled := none, depth := dp, frames := fr, guards := gd, units := un } (call (.ref 131) [.int mo t, .ref dl]) Q E s := by
  refine hist_raw G (hB.trans F.keep) (none_of hB (N _ hm).2.2) (none_of hB (N _ h70).2.2) hr hun (fun q hq => ⟨none_of hB (hds q hq).1, (hds q hq).2⟩) hrk (N _ hm).1 (N _ h70).1 fun D h' tk' k l ps hD g70 keep g e => ?_
  have hL70 : L ≠ 70 := Ne.symm (N _ h70).2.1
  have F' : Fr h₀ L h' m := by
    refine ⟨?_, fun c o q => keep c o ?_ (F.keep c o q), F.above⟩
    · obtain ⟨oL, es, ep, ho, r⟩ := F.ns
      exact ⟨oL, es, ep, keep L oL hL70 ho, r⟩
    · intro hc
      rw [hc, (N _ h70).2.2] at q
      cases q
  refine h D h' tk' k l ps F' (fun q hq => ?_) e
  rcases List.mem_cons.mp hq with rfl | hq
  · refine ⟨g, ?_, ?_⟩
    · intro e
      obtain ⟨oL, es, ep, ho, _⟩ := F.ns
      rw [show D = L from e, ho] at hD
      cases hD
    · cases e : h₀.get? D with
      | none => rfl
      | some o' => rw [F.keep _ _ e] at hD; cases hD
  · rcases List.mem_cons.mp hq with rfl | hq
    · exact ⟨keep T oT hT70 (N _ hT).1, (N _ hT).2⟩
    · rw [List.mem_singleton.mp hq]
      exact ⟨g70, (N _ h70).2⟩
end
end Mine

end
section
-- LW
open PySem PySem.W PySem.Spec PySem.Calls PyProof.Rows
set_option Elab.async false
set_option maxRecDepth 100000
namespace Mine
theorem mode_nat (z : Int) : ∃ m : Nat, z.fmod (2 ^ Int.toNat 18) = (m : Int) ∧ m < 262144 := by
  have h0 := Int.fmod_nonneg_of_pos z (b := (2 : Int) ^ Int.toNat 18) (by decide)
  have h1 := Int.fmod_lt_of_pos z (b := (2 : Int) ^ Int.toNat 18) (by decide)
  have e : (2 : Int) ^ Int.toNat 18 = 262144 := by decide
  rw [e] at h0 h1 ⊢
  exact ⟨(z.fmod 262144).toNat, by omega, by omega⟩
theorem packL {h₀ h : Heap} {L AX a1 a2 a3 a4 cD cM : Addr} {oA o1 o2 o3 o4 oD oM T : Obj} (N : News h₀ L h [(AX, oA), (a1, o1), (a2, o2), (a3, o3), (a4, o4), (cD, oD), (cM, oM), (70, T)]) :
    ∃ (AX' L' : Addr) (oD' oM' : Obj), AX' = AX ∧ L' = L ∧ oD' = oD ∧ oM' = oM ∧ News h₀ L h [(AX, oA), (cD, oD), (cM, oM), (70, T)] :=
  ⟨_, _, _, _, rfl, rfl, rfl, rfl, fun p hp => N p (by
    simp only [List.mem_cons, List.not_mem_nil, or_false] at hp ⊢
    rcases hp with h | h | h | h <;> simp only [h, true_or, or_true])⟩
theorem ext_self {K : Frag} {h : Heap} (_x : K.In h) : Ext h h := fun _ _ e => e
theorem deep_of {w : World} {p : Program} {loose : List Str} {mean : ExcName → Option Value} {mg mb : Str → Option Value} {B : Heap} (X : (hd0.heap_1 w.params).In B) (T : Top p loose mean mg mb B) : Deep w p loose mean mg mb B := ⟨X, T⟩
theorem assign_compRF {prog : Program} {w : World} {A : Around} {E : Value → Shared → Prop} {s : Shared} {h₀ : Heap} {env : Env} {m : Str → Option Value} {scope : Scope} {cl : List (Str × Addr)} {x y : Str} {elt : Expr} {iter : Expr} {px py : Pos} {pos spos : Pos} {n : Nat} {Q : Flow → Shared → Prop} (_F : Fr h₀ env.locals s.heap m) (Fv : Nat → Value → Prop) (hh : A.handled = none)
    (hsw : swapsWith (.ListComp elt [⟨.Name x px, iter, [], 0⟩] scope pos) (some (.Name y py)) spos.line env = pure true)
    (hclos : closureFor scope env = pure cl) (hcell : ∀ z ∈ scope.names, z.2 ≠ .cell) (hkind : scope.kind = .function)
    (hnames : ∀ z ∈ scope.names, z.2 = .local → scope.names.lookup z.1 = some .local) (hx : scope.names.lookup x = some .local)
    (hy : env.kindOf y = some .local) (hp : (env.scope.kind == .class || (env.scope.kind == .module && env.locals != env.globals)) = false)
    (h : wpAny (model prog w) A (eval iter env) (fun xv s₁ => CompR prog w A h₀ env scope cl x y elt n Fv Q xv s₁) E s)
    (hs : ∀ x, foldedSetIterable iter env x = pure x) :
    wpAny (model prog w) A (exec (.Assign [.Name y py] (.ListComp elt [⟨.Name x px, iter, [], 0⟩] scope pos) spos) env) Q E s := assign_compR Fv hh hsw hclos hcell hkind hnames hx hy hp h hs
theorem cell_at {c0 c1 c2 c3 c4 : Int} {t0 t1 t2 t3 t4 : Tok} (b0 : 0 ≤ c0 ∧ c0 < 1000000) (b1 : 0 ≤ c1 ∧ c1 < 1000000) (b2 : 0 ≤ c2 ∧ c2 < 1000000) (b3 : 0 ≤ c3 ∧ c3 < 1000000) (b4 : 0 ≤ c4 ∧ c4 < 1000000) (i : Nat) (v : Value) (h : [Value.int c0 t0, Value.int c1 t1, Value.int c2 t2, Value.int c3 t3, Value.int c4 t4][i]? = some v) : i < 5 ∧ ∃ c t, v = .int c t ∧ 0 ≤ c ∧ c < 1000000 := by
  have hi : i < 5 := (List.getElem?_eq_some_iff.mp h).1
  refine ⟨hi, ?_⟩
  have hm := List.mem_of_getElem? h
  simp only [List.mem_cons, List.not_mem_nil, or_false] at hm
  rcases hm with rfl | rfl | rfl | rfl | rfl
  · exact ⟨_, _, rfl, b0⟩
  · exact ⟨_, _, rfl, b1⟩
  · exact ⟨_, _, rfl, b2⟩
  · exact ⟨_, _, rfl, b3⟩
  · exact ⟨_, _, rfl, b4⟩
theorem news_lt {h₀ h : Heap} {L : Addr} {news : List (Addr × Obj)} (N : News h₀ L h news) : ∀ p ∈ news, @LT.lt Nat instLTNat p.1 h.objs.size := fun p hp => Heap.lt_size (N p hp).1
theorem five_made {made : List (Addr × Obj)} (h : made.length = 5) : ∃ a0 o0 a1 o1 a2 o2 a3 o3 a4 o4, made = [(a4, o4), (a3, o3), (a2, o2), (a1, o1), (a0, o0)] := by
  rcases made with _ | ⟨p4, _ | ⟨p3, _ | ⟨p2, _ | ⟨p1, _ | ⟨p0, r⟩⟩⟩⟩⟩
  · cases h
  · cases h
  · cases h
  · cases h
  · cases h
  · have hr : r = [] := List.length_eq_zero_iff.mp (by simp only [List.length_cons] at h; omega)
    rw [hr]
    exact ⟨p0.1, p0.2, p1.1, p1.2, p2.1, p2.2, p3.1, p3.2, p4.1, p4.2, rfl⟩
theorem deeds_of {made : List (Addr × Obj)} {P : Prop} (hl : made.length = 5) (hP : ∀ j p, made.reverse[j]? = some p → DeedObj j p.2)
    (k : ∀ ds : List (Addr × Deed), ds.length = 5 → refs9 made = refsD ds → (∀ q ∈ ds, (∃ t1 t2 t3 t4, (q.1, tup4 q.2.h q.2.k q.2.q q.2.j t1 t2 t3 t4) ∈ made) ∧ q.2.ok ∧ q.2.q < 50000) → (ds.map (·.2.rank)).Nodup → P) : P := by
  obtain ⟨a0, o0, a1, o1, a2, o2, a3, o3, a4, o4, rfl⟩ := five_made hl
  obtain ⟨e0, u1, u2, u3, u4, k0, z0, j0, f0⟩ := hP 0 _ rfl
  obtain ⟨e1, v1, v2, v3, v4, k1, z1, j1, f1⟩ := hP 1 _ rfl
  obtain ⟨e2, w1, w2, w3, w4, k2, z2, j2, f2⟩ := hP 2 _ rfl
  obtain ⟨e3, x1, x2, x3, x4, k3, z3, j3, f3⟩ := hP 3 _ rfl
  obtain ⟨e4, y1, y2, y3, y4, k4, z4, j4, f4⟩ := hP 4 _ rfl
  have c : ∀ {a : Addr} {o : Obj} {e : Deed} {t1 t2 t3 t4 : Tok} {l : List (Addr × Obj)}, o = tup4 e.h e.k e.q e.j t1 t2 t3 t4 → (a, o) ∈ l → ∃ t1 t2 t3 t4, (a, tup4 e.h e.k e.q e.j t1 t2 t3 t4) ∈ l := fun e m => ⟨_, _, _, _, e ▸ m⟩
  refine k [(a0, e0), (a1, e1), (a2, e2), (a3, e3), (a4, e4)] rfl rfl ?_ (rank_nodup j0 j1 j2 j3 j4)
  exact List.forall_mem_cons.mpr ⟨⟨c f0 (.tail _ (.tail _ (.tail _ (.tail _ (.head _))))), k0, z0⟩, List.forall_mem_cons.mpr ⟨⟨c f1 (.tail _ (.tail _ (.tail _ (.head _)))), k1, z1⟩, List.forall_mem_cons.mpr ⟨⟨c f2 (.tail _ (.tail _ (.head _))), k2, z2⟩, List.forall_mem_cons.mpr ⟨⟨c f3 (.tail _ (.head _)), k3, z3⟩, List.forall_mem_cons.mpr ⟨⟨c f4 (.head _), k4, z4⟩, List.forall_mem_nil _⟩⟩⟩⟩⟩
theorem made_back {h₀ h : Heap} {L D : Addr} {made news : List (Addr × Obj)} {ds : List (Addr × Deed)} (N : News h₀ L h ((D, LCg.lst (refs9 made)) :: (made ++ news))) (e : refs9 made = refsD ds) (hl : ds.length = 5) : News h₀ L h ((D, listOf (refsD ds).toArray 5) :: (news ++ made)) := by
  have e2 : LCg.lst (refs9 made) = listOf (refsD ds).toArray 5 := by
    rw [e]
    have : (refsD ds).length = 5 := by simp [refsD, hl]
    rw [← this]
  rw [e2] at N
  intro p hp
  refine N p ?_
  rcases List.mem_cons.mp hp with h | h
  · rw [h]; exact .head _
  · exact .tail _ (List.mem_append.mpr (List.mem_append.mp h).symm)
section
variable {w : World} {dp un : Nat} {fr : Option (List Env)} {gd : Option (List Code)} {s : Shared} {B h₀ : Heap} {p : Program} {loose : List Str} {mean : ExcName → Option Value} {mg mb : Str → Option Value} {Q E : Value → Shared → Prop} {mo : Int} {t : Tok} {L dl T : Addr} {n : Nat} {m : Str → Option Value} {news : List (Addr × Obj)} {oT : Obj}
theorem hist_line5 {ds : List (Addr × Deed)} (hl : ds.length = 5) (F : Fr h₀ L s.heap m) (N : News h₀ L s.heap news) (G : Deep w p loose mean mg mb B) (hB : Ext B h₀) (h70 : (70, tabObj #[]) ∈ news) (hr : dp + 100 < recursionLimit) (hun : un + 300 < cLine)
    (hds : ∀ q ∈ ds, h₀.get? q.1 = none ∧ DeedAt s.heap q.1 q.2 ∧ q.2.ok)
    (hrk : (ds.map (·.2.rank)).Nodup) (hm : (dl, listOf (refsD ds).toArray n) ∈ news) (hT : (T, oT) ∈ news) (hT70 : T ≠ 70)
    (h : ∀ D h' tk' k (l : List (Str × Tok)) (ps : Array Value), Fr h₀ L h' m → News h₀ L h' [(D, listOf (strValues l).toArray k), (T, oT), (70, tabObj ps)] → l.map (·.1) = histT mo ds 6 → Q (.ref D) { s with heap := h', toks := tk' }) :
    wpAny (model prog w) { handled := none, depth := dp, frames := fr, guards := gd, units := un } (call (.ref 131) [.int mo t, .ref dl]) Q E s := by
  rcases ds with _ | ⟨p0, _ | ⟨p1, _ | ⟨p2, _ | ⟨p3, _ | ⟨p4, r⟩⟩⟩⟩⟩
  · cases hl
  · cases hl
  · cases hl
  · cases hl
  · cases hl
  · have hr0 : r = [] := List.length_eq_zero_iff.mp (by simp only [List.length_cons] at hl; omega)
    subst hr0
    exact hist_line (d0 := p0.1) (e0 := p0.2) (d1 := p1.1) (e1 := p1.2) (d2 := p2.1) (e2 := p2.2) (d3 := p3.1) (e3 := p3.2) (d4 := p4.1) (e4 := p4.2) F N G hB h70 hr hun hds hrk hm hT hT70 h
end
local macro_rules | `(tactic| k_all) => `(tactic| assumption)
set_option maxHeartbeats 40000000
-- these names are taken ahead, so that the head lays no twins of its objects (their proofs would be 9 MB)
theorem lwT.tw1903866087469309809 : True := trivial
theorem lwT.tw18243728338376682032 : True := trivial
theorem lwT.tw16521065714628065684 : True := trivial
theorem lwT.tw9121967316613723455 : True := trivial
theorem lwT.tw1413088272857766360 : True := trivial
theorem lwT.tw11681613475281754401 : True := trivial
theorem lwT.tw9712679198531868290 : True := trivial
theorem lwT.tw16505625141199211782 : True := trivial
theorem lwT.tw17325160546897787011 : True := trivial
theorem lwT.tw10238709420592626567 : True := trivial
theorem lwT.tw15655541057405451259 : True := trivial
theorem lwT.tw16803845198268033078 : True := trivial
theorem lwT.tw9321020852976118673 : True := trivial
theorem lwT.tw3094603768866195432 : True := trivial
theorem lwT.tw15606577086278662986 : True := trivial
theorem lwT.tw3898726243989659201 : True := trivial
theorem lwT.tw14824133063443599973 : True := trivial
theorem lwT.tw12409376713663788780 : True := trivial
theorem lwT.tw10889914345132296532 : True := trivial
theorem lwT.tw4198148641609997952 : True := trivial
theorem lwT.tw8438783364937597228 : True := trivial
theorem lwT.tw7125387532965512674 : True := trivial
theorem lwT.tw4686298893073969032 : True := trivial
theorem lwT.tw825390660004073932 : True := trivial
theorem lwT.tw14187432526114886169 : True := trivial
theorem lwT.tw679075439808995629 : True := trivial
theorem lwT.tw5276774888374730734 : True := trivial
theorem lwT.tw2414876778308277097 : True := trivial
theorem lwT.tw10805963595030996208 : True := trivial
theorem lwT.tw13497945219299337367 : True := trivial
theorem lwT.tw4014239033497130044 : True := trivial
theorem lwT.tw7070789540035542275 : True := trivial
theorem lwT.tw4822749302749599976 : True := trivial
theorem lwT.tw9079209289777842762 : True := trivial
theorem lwT.tw4020277945159132887 : True := trivial
theorem lwT.tw14385859030781414051 : True := trivial
theorem lwT.tw8787613993484822960 : True := trivial
theorem lwT.tw8058004988850133177 : True := trivial
theorem lwT.tw4873512503466747464 : True := trivial
theorem lwT.tw659519521145329533 : True := trivial
theorem lwT.tw12374603827827664214 : True := trivial
theorem lwT.tw1742054307519740419 : True := trivial
theorem lwT.tw3541809249546189512 : True := trivial
theorem lwT.tw9875042982875488618 : True := trivial
theorem lwT.tw18139949874614766380 : True := trivial
theorem lwT.tw7933279225618598655 : True := trivial
theorem lwT.tw15392718039040347189 : True := trivial
theorem lwT.tw4185484795360735344 : True := trivial
theorem lwT.tw12337480412550283179 : True := trivial
theorem lwT.tw14296284988113750735 : True := trivial
theorem lwT.tw958749890789346929 : True := trivial
theorem lwT.tw13799408324277747617 : True := trivial
theorem lwT.tw9637634235089416551 : True := trivial
theorem lwT.tw16482429549004854697 : True := trivial
theorem lwT.tw737710717855706502 : True := trivial
theorem lwT.tw2857684449349911639 : True := trivial
theorem lwT.tw1507612841479399557 : True := trivial
theorem lwT.tw11542351506134472316 : True := trivial
theorem lwT.tw14301429124890081502 : True := trivial
theorem lwT.tw3718107167321043486 : True := trivial
theorem lwT.tw6939663960970448676 : True := trivial
theorem lwT.tw8241471542383866713 : True := trivial
theorem lwT.tw11886033757034958581 : True := trivial
theorem lwT.tw4366729117792369373 : True := trivial
theorem lwT.tw11619257193495857384 : True := trivial
theorem lwT.tw17848666055845722443 : True := trivial
theorem lwT.tw11299921977335321000 : True := trivial
theorem lwT.tw1335018976594175712 : True := trivial
theorem lwT.tw14910968371179413967 : True := trivial
theorem lwT.tw9909129765272691450 : True := trivial
theorem lwT.tw12828119038851334479 : True := trivial
theorem lwT.tw3037528949525068832 : True := trivial
theorem lwT.tw3076806659908645486 : True := trivial
theorem lwT.tw11923655309929767195 : True := trivial
theorem lwT.tw15040658020871309176 : True := trivial
theorem lwT.tw5016201079733154828 : True := trivial
theorem lwT.tw11642726780625195853 : True := trivial
theorem lwT.tw13151272418433665978 : True := trivial
theorem lwT.tw8782351373576494164 : True := trivial
theorem lwT.tw2649815260431102457 : True := trivial
theorem lwT.tw2533506693854534934 : True := trivial
theorem lwT.tw3805403487675915479 : True := trivial
theorem lwT.tw408559893596322220 : True := trivial
theorem lwT.tw9564902657401926854 : True := trivial
theorem lwT.tw17590617894043199524 : True := trivial
theorem lwT.tw1740127913428590725 : True := trivial
theorem lwT.tw13190029900394702359 : True := trivial
theorem lwT.tw12625346857290567375 : True := trivial
theorem lwT.tw1852315358631448695 : True := trivial
theorem lwT.tw16762006037914631787 : True := trivial
theorem lwT.tw12702996777056239828 : True := trivial
theorem lwT.tw4560553468273463385 : True := trivial
theorem lwT.tw3274901851748309111 : True := trivial
theorem lwT.tw9408772765730360557 : True := trivial
theorem lwT.tw10696669719450819861 : True := trivial
theorem lwT.tw7296751909664448998 : True := trivial
theorem lwT.tw11431713529296161455 : True := trivial
theorem lwT.tw4758794455560519526 : True := trivial
theorem lwT.tw9316311031363773855 : True := trivial
theorem lwT.tw12501832003136978513 : True := trivial
theorem lwT.tw2022624941648047714 : True := trivial
theorem lwT.tw11505751251894606369 : True := trivial
theorem lwT.tw2688152520631543704 : True := trivial
theorem lwT.tw17412387009883749185 : True := trivial
theorem lwT.tw18234644587643590049 : True := trivial
theorem lwT.tw12623629556047301978 : True := trivial
theorem lwT.tw11095268884933896350 : True := trivial
theorem lwT.tw15942143446372542543 : True := trivial
theorem lwT.tw13954147526000312492 : True := trivial
theorem lwT.tw5386327457364556346 : True := trivial
theorem lwT.tw14875457144681091359 : True := trivial
theorem lwT.tw17124513903100950233 : True := trivial
theorem lwT.tw6683411157892132054 : True := trivial
theorem lwT.tw15608739097964545283 : True := trivial
theorem lwT.tw4478191458475966278 : True := trivial
theorem lwT.tw9956194118401827060 : True := trivial
theorem lwT.tw11810681359326677630 : True := trivial
theorem lwT.tw11213543802197995661 : True := trivial
theorem lwT.tw5329573436072949684 : True := trivial
theorem lwT.tw9118820757024795537 : True := trivial
theorem lwT.tw1639622223941477371 : True := trivial
theorem lwT.tw30391467705248607 : True := trivial
theorem lwT.tw1835014073935586343 : True := trivial
theorem lwT.tw9619443275941792302 : True := trivial
theorem lwT.tw10971842373516595616 : True := trivial
theorem lwT.tw8971607165503661269 : True := trivial
theorem lwT.tw7061473335605275434 : True := trivial
theorem lwT.tw10110731354273991643 : True := trivial
theorem lwT.tw5321203338272631589 : True := trivial
theorem lwT.tw423578387145735351 : True := trivial
theorem lwT.tw2740486941031715696 : True := trivial
theorem lwT.tw17619623302866821023 : True := trivial
theorem lwT.tw10240602207030882378 : True := trivial
theorem lwT.tw7526319585500390921 : True := trivial
theorem lwT.tw10157619149564445052 : True := trivial
theorem lwT.tw15074538777732992863 : True := trivial
theorem lwT.tw6760231622206728356 : True := trivial
theorem lwT.tw11916923824635199624 : True := trivial
theorem lwT.tw6566768156673143270 : True := trivial
theorem lwT.tw3351538752494473779 : True := trivial
theorem lwT.tw15060635741319179354 : True := trivial
theorem lwT.tw3930172215295359676 : True := trivial
theorem lwT.tw15690842243000331208 : True := trivial
set_option Elab.async true in
theorem lwT : PySem.Challenge.rw_nq0103_01.Holds := by
  w_on; o_law; o_head (kmHook Mine.hd0.heap_1 Mine.as2 Mine.asOk [70]); (case hw => w_witness2)
  k_go0
  (all_goals try k_fold)
  iterate 49 (first | (k_unfold; (try dsimp only)) | (k_end; wrow_close) | (with_reducible (k_here; (with_reducible show wpAny _ _ (call (Value.ref 136) [Value.ref _]) _ _ _); k_dflt (refine back_line _ (by first | (k_asm; done) | fail) (by first | (k_asm; done) | fail) (by first | (assumption; done) | fail) (by first | (k_mem; done) | fail) (by first | (assumption; done) | fail) (by first | (assumption; done) | fail) (by first | (show _ < _; decide; done) | fail) (by first | (show _ < _; decide; done) | fail) (by first | (assumption; done) | fail) (by first | (assumption; done) | fail) ?_; k_whole); intro D'q9 h'q9 tk'q9 k'q9 F'q9 N'q9 x'q9; (try k_sweep); (try k_unmd))) | (with_reducible (k_here; (with_reducible show wpAny _ _ (subscriptTail _ (PySem.Expr.Slice _ _ none _) (Value.ref _) (Value.ref _)) _ _ _); k_dflt (refine slice_line (by first | (k_asm; done) | fail) (by first | (k_asm; done) | fail) (by first | (assumption; done) | fail) (by first | (k_mem; done) | fail) (by first | (assumption; done) | fail) ?_ (by first | (with_unfolding_all rfl; done) | fail) (by first | (kmk_pure; done) | fail)); intro D'q9 h'q9 F'q9 N'q9 x'q9; (try k_sweep))) | (k_here; (with_reducible show wpAny _ _ (call (Value.ref 136) [Value.ref _]) _ _ _); k_dflt (refine back_line _ (by first | (k_asm; done) | fail) (by first | (k_asm; done) | fail) (by first | (assumption; done) | fail) (by first | (k_mem; done) | fail) (by first | (assumption; done) | fail) (by first | (assumption; done) | fail) (by first | (show _ < _; decide; done) | fail) (by first | (show _ < _; decide; done) | fail) (by first | (assumption; done) | fail) (by first | (assumption; done) | fail) ?_; k_whole); intro D'q9 h'q9 tk'q9 k'q9 F'q9 N'q9 x'q9; (try k_sweep); (try k_unmd)) | (k_here; (with_reducible show wpAny _ _ (subscriptTail _ (PySem.Expr.Slice _ _ none _) (Value.ref _) (Value.ref _)) _ _ _); k_dflt (refine slice_line (by first | (k_asm; done) | fail) (by first | (k_asm; done) | fail) (by first | (assumption; done) | fail) (by first | (k_mem; done) | fail) (by first | (assumption; done) | fail) ?_ (by first | (with_unfolding_all rfl; done) | fail) (by first | (kmk_pure; done) | fail)); intro D'q9 h'q9 F'q9 N'q9 x'q9; (try k_sweep)) | walk1 | (dsimp only; first | (with_reducible (k_here; (with_reducible show wpAny _ _ (call (Value.ref 136) [Value.ref _]) _ _ _); k_dflt (refine back_line _ (by first | (k_asm; done) | fail) (by first | (k_asm; done) | fail) (by first | (assumption; done) | fail) (by first | (k_mem; done) | fail) (by first | (assumption; done) | fail) (by first | (assumption; done) | fail) (by first | (show _ < _; decide; done) | fail) (by first | (show _ < _; decide; done) | fail) (by first | (assumption; done) | fail) (by first | (assumption; done) | fail) ?_; k_whole); intro D'q9 h'q9 tk'q9 k'q9 F'q9 N'q9 x'q9; (try k_sweep); (try k_unmd))) | (with_reducible (k_here; (with_reducible show wpAny _ _ (subscriptTail _ (PySem.Expr.Slice _ _ none _) (Value.ref _) (Value.ref _)) _ _ _); k_dflt (refine slice_line (by first | (k_asm; done) | fail) (by first | (k_asm; done) | fail) (by first | (assumption; done) | fail) (by first | (k_mem; done) | fail) (by first | (assumption; done) | fail) ?_ (by first | (with_unfolding_all rfl; done) | fail) (by first | (kmk_pure; done) | fail)); intro D'q9 h'q9 F'q9 N'q9 x'q9; (try k_sweep))) | (k_here; (with_reducible show wpAny _ _ (call (Value.ref 136) [Value.ref _]) _ _ _); k_dflt (refine back_line _ (by first | (k_asm; done) | fail) (by first | (k_asm; done) | fail) (by first | (assumption; done) | fail) (by first | (k_mem; done) | fail) (by first | (assumption; done) | fail) (by first | (assumption; done) | fail) (by first | (show _ < _; decide; done) | fail) (by first | (show _ < _; decide; done) | fail) (by first | (assumption; done) | fail) (by first | (assumption; done) | fail) ?_; k_whole); intro D'q9 h'q9 tk'q9 k'q9 F'q9 N'q9 x'q9; (try k_sweep); (try k_unmd)) | (k_here; (with_reducible show wpAny _ _ (subscriptTail _ (PySem.Expr.Slice _ _ none _) (Value.ref _) (Value.ref _)) _ _ _); k_dflt (refine slice_line (by first | (k_asm; done) | fail) (by first | (k_asm; done) | fail) (by first | (assumption; done) | fail) (by first | (k_mem; done) | fail) (by first | (assumption; done) | fail) ?_ (by first | (with_unfolding_all rfl; done) | fail) (by first | (kmk_pure; done) | fail)); intro D'q9 h'q9 F'q9 N'q9 x'q9; (try k_sweep)) | walk1) | (leave1; try dsimp only))
  rename IntsAre _ _ => hI5
  obtain ⟨c0, c1, c2, c3, c4, t0, t1, t2, t3, t4, rfl, b0, b1, b2, b3, b4⟩ := five_cells hI5
  iterate 18 (first | (k_unfold; (try dsimp only)) | (k_end; wrow_close) | (with_reducible (k_here; (with_reducible show wpAny _ _ (call (Value.ref 136) [Value.ref _]) _ _ _); k_dflt (refine back_line _ (by first | (k_asm; done) | fail) (by first | (k_asm; done) | fail) (by first | (assumption; done) | fail) (by first | (k_mem; done) | fail) (by first | (assumption; done) | fail) (by first | (assumption; done) | fail) (by first | (show _ < _; decide; done) | fail) (by first | (show _ < _; decide; done) | fail) (by first | (assumption; done) | fail) (by first | (assumption; done) | fail) ?_; k_whole); intro D'q9 h'q9 tk'q9 k'q9 F'q9 N'q9 x'q9; (try k_sweep); (try k_unmd))) | (with_reducible (k_here; (with_reducible show wpAny _ _ (subscriptTail _ (PySem.Expr.Slice _ _ none _) (Value.ref _) (Value.ref _)) _ _ _); k_dflt (refine slice_line (by first | (k_asm; done) | fail) (by first | (k_asm; done) | fail) (by first | (assumption; done) | fail) (by first | (k_mem; done) | fail) (by first | (assumption; done) | fail) ?_ (by first | (with_unfolding_all rfl; done) | fail) (by first | (kmk_pure; done) | fail)); intro D'q9 h'q9 F'q9 N'q9 x'q9; (try k_sweep))) | (k_here; (with_reducible show wpAny _ _ (call (Value.ref 136) [Value.ref _]) _ _ _); k_dflt (refine back_line _ (by first | (k_asm; done) | fail) (by first | (k_asm; done) | fail) (by first | (assumption; done) | fail) (by first | (k_mem; done) | fail) (by first | (assumption; done) | fail) (by first | (assumption; done) | fail) (by first | (show _ < _; decide; done) | fail) (by first | (show _ < _; decide; done) | fail) (by first | (assumption; done) | fail) (by first | (assumption; done) | fail) ?_; k_whole); intro D'q9 h'q9 tk'q9 k'q9 F'q9 N'q9 x'q9; (try k_sweep); (try k_unmd)) | (k_here; (with_reducible show wpAny _ _ (subscriptTail _ (PySem.Expr.Slice _ _ none _) (Value.ref _) (Value.ref _)) _ _ _); k_dflt (refine slice_line (by first | (k_asm; done) | fail) (by first | (k_asm; done) | fail) (by first | (assumption; done) | fail) (by first | (k_mem; done) | fail) (by first | (assumption; done) | fail) ?_ (by first | (with_unfolding_all rfl; done) | fail) (by first | (kmk_pure; done) | fail)); intro D'q9 h'q9 F'q9 N'q9 x'q9; (try k_sweep)) | walk1 | (dsimp only; first | (with_reducible (k_here; (with_reducible show wpAny _ _ (call (Value.ref 136) [Value.ref _]) _ _ _); k_dflt (refine back_line _ (by first | (k_asm; done) | fail) (by first | (k_asm; done) | fail) (by first | (assumption; done) | fail) (by first | (k_mem; done) | fail) (by first | (assumption; done) | fail) (by first | (assumption; done) | fail) (by first | (show _ < _; decide; done) | fail) (by first | (show _ < _; decide; done) | fail) (by first | (assumption; done) | fail) (by first | (assumption; done) | fail) ?_; k_whole); intro D'q9 h'q9 tk'q9 k'q9 F'q9 N'q9 x'q9; (try k_sweep); (try k_unmd))) | (with_reducible (k_here; (with_reducible show wpAny _ _ (subscriptTail _ (PySem.Expr.Slice _ _ none _) (Value.ref _) (Value.ref _)) _ _ _); k_dflt (refine slice_line (by first | (k_asm; done) | fail) (by first | (k_asm; done) | fail) (by first | (assumption; done) | fail) (by first | (k_mem; done) | fail) (by first | (assumption; done) | fail) ?_ (by first | (with_unfolding_all rfl; done) | fail) (by first | (kmk_pure; done) | fail)); intro D'q9 h'q9 F'q9 N'q9 x'q9; (try k_sweep))) | (k_here; (with_reducible show wpAny _ _ (call (Value.ref 136) [Value.ref _]) _ _ _); k_dflt (refine back_line _ (by first | (k_asm; done) | fail) (by first | (k_asm; done) | fail) (by first | (assumption; done) | fail) (by first | (k_mem; done) | fail) (by first | (assumption; done) | fail) (by first | (assumption; done) | fail) (by first | (show _ < _; decide; done) | fail) (by first | (show _ < _; decide; done) | fail) (by first | (assumption; done) | fail) (by first | (assumption; done) | fail) ?_; k_whole); intro D'q9 h'q9 tk'q9 k'q9 F'q9 N'q9 x'q9; (try k_sweep); (try k_unmd)) | (k_here; (with_reducible show wpAny _ _ (subscriptTail _ (PySem.Expr.Slice _ _ none _) (Value.ref _) (Value.ref _)) _ _ _); k_dflt (refine slice_line (by first | (k_asm; done) | fail) (by first | (k_asm; done) | fail) (by first | (assumption; done) | fail) (by first | (k_mem; done) | fail) (by first | (assumption; done) | fail) ?_ (by first | (with_unfolding_all rfl; done) | fail) (by first | (kmk_pure; done) | fail)); intro D'q9 h'q9 F'q9 N'q9 x'q9; (try k_sweep)) | walk1) | (leave1; try dsimp only))
  rename Fr _ _ _ _ => F1
  rename News _ _ _ _ => N1
  rename _ = Data.cell (some (Value.int _ _)) => dM
  obtain ⟨mn, hmn, hml⟩ := mode_nat (List.take 5 (List.map (fun k' : Int => k'.fmod (10 ^ 6)) (List.take 5 _) ++ [247228, 18116, 20853, 2920, 73872])).sum
  rw [hmn] at dM
  obtain ⟨AX, L, oD, oM, rfl, eL, rfl, rfl, N2⟩ := packL N1
  rename Top _ _ _ _ _ _ => TT
  rename Frag.In _ _ => XX
  refine wpAny_Assign_Name ?_
  refine' eval_compE F1 DeedObj ?k1 ?k2 ?k3 ?k4 ?k5 ?k6 ?k7 ?k8 ?k9 ?_
  (case k1 => exact rfl); (case k2 => exact rfl); (case k3 => decide); (case k4 => exact rfl); (case k5 => decide); (case k6 => exact rfl); (case k7 => exact rfl); (case k8 => decide); (case k9 => (intro _; rfl))
  iterate 6 (first | (k_unfold; (try dsimp only)) | (k_end; wrow_close) | (with_reducible (k_here; (with_reducible show wpAny _ _ (call (Value.ref 136) [Value.ref _]) _ _ _); k_dflt (refine back_line _ (by first | (k_asm; done) | fail) (by first | (k_asm; done) | fail) (by first | (assumption; done) | fail) (by first | (k_mem; done) | fail) (by first | (assumption; done) | fail) (by first | (assumption; done) | fail) (by first | (show _ < _; decide; done) | fail) (by first | (show _ < _; decide; done) | fail) (by first | (assumption; done) | fail) (by first | (assumption; done) | fail) ?_; k_whole); intro D'q9 h'q9 tk'q9 k'q9 F'q9 N'q9 x'q9; (try k_sweep); (try k_unmd))) | (with_reducible (k_here; (with_reducible show wpAny _ _ (subscriptTail _ (PySem.Expr.Slice _ _ none _) (Value.ref _) (Value.ref _)) _ _ _); k_dflt (refine slice_line (by first | (k_asm; done) | fail) (by first | (k_asm; done) | fail) (by first | (assumption; done) | fail) (by first | (k_mem; done) | fail) (by first | (assumption; done) | fail) ?_ (by first | (with_unfolding_all rfl; done) | fail) (by first | (kmk_pure; done) | fail)); intro D'q9 h'q9 F'q9 N'q9 x'q9; (try k_sweep))) | (k_here; (with_reducible show wpAny _ _ (call (Value.ref 136) [Value.ref _]) _ _ _); k_dflt (refine back_line _ (by first | (k_asm; done) | fail) (by first | (k_asm; done) | fail) (by first | (assumption; done) | fail) (by first | (k_mem; done) | fail) (by first | (assumption; done) | fail) (by first | (assumption; done) | fail) (by first | (show _ < _; decide; done) | fail) (by first | (show _ < _; decide; done) | fail) (by first | (assumption; done) | fail) (by first | (assumption; done) | fail) ?_; k_whole); intro D'q9 h'q9 tk'q9 k'q9 F'q9 N'q9 x'q9; (try k_sweep); (try k_unmd)) | (k_here; (with_reducible show wpAny _ _ (subscriptTail _ (PySem.Expr.Slice _ _ none _) (Value.ref _) (Value.ref _)) _ _ _); k_dflt (refine slice_line (by first | (k_asm; done) | fail) (by first | (k_asm; done) | fail) (by first | (assumption; done) | fail) (by first | (k_mem; done) | fail) (by first | (assumption; done) | fail) ?_ (by first | (with_unfolding_all rfl; done) | fail) (by first | (kmk_pure; done) | fail)); intro D'q9 h'q9 F'q9 N'q9 x'q9; (try k_sweep)) | walk1 | (dsimp only; first | (with_reducible (k_here; (with_reducible show wpAny _ _ (call (Value.ref 136) [Value.ref _]) _ _ _); k_dflt (refine back_line _ (by first | (k_asm; done) | fail) (by first | (k_asm; done) | fail) (by first | (assumption; done) | fail) (by first | (k_mem; done) | fail) (by first | (assumption; done) | fail) (by first | (assumption; done) | fail) (by first | (show _ < _; decide; done) | fail) (by first | (show _ < _; decide; done) | fail) (by first | (assumption; done) | fail) (by first | (assumption; done) | fail) ?_; k_whole); intro D'q9 h'q9 tk'q9 k'q9 F'q9 N'q9 x'q9; (try k_sweep); (try k_unmd))) | (with_reducible (k_here; (with_reducible show wpAny _ _ (subscriptTail _ (PySem.Expr.Slice _ _ none _) (Value.ref _) (Value.ref _)) _ _ _); k_dflt (refine slice_line (by first | (k_asm; done) | fail) (by first | (k_asm; done) | fail) (by first | (assumption; done) | fail) (by first | (k_mem; done) | fail) (by first | (assumption; done) | fail) ?_ (by first | (with_unfolding_all rfl; done) | fail) (by first | (kmk_pure; done) | fail)); intro D'q9 h'q9 F'q9 N'q9 x'q9; (try k_sweep))) | (k_here; (with_reducible show wpAny _ _ (call (Value.ref 136) [Value.ref _]) _ _ _); k_dflt (refine back_line _ (by first | (k_asm; done) | fail) (by first | (k_asm; done) | fail) (by first | (assumption; done) | fail) (by first | (k_mem; done) | fail) (by first | (assumption; done) | fail) (by first | (assumption; done) | fail) (by first | (show _ < _; decide; done) | fail) (by first | (show _ < _; decide; done) | fail) (by first | (assumption; done) | fail) (by first | (assumption; done) | fail) ?_; k_whole); intro D'q9 h'q9 tk'q9 k'q9 F'q9 N'q9 x'q9; (try k_sweep); (try k_unmd)) | (k_here; (with_reducible show wpAny _ _ (subscriptTail _ (PySem.Expr.Slice _ _ none _) (Value.ref _) (Value.ref _)) _ _ _); k_dflt (refine slice_line (by first | (k_asm; done) | fail) (by first | (k_asm; done) | fail) (by first | (assumption; done) | fail) (by first | (k_mem; done) | fail) (by first | (assumption; done) | fail) ?_ (by first | (with_unfolding_all rfl; done) | fail) (by first | (kmk_pure; done) | fail)); intro D'q9 h'q9 F'q9 N'q9 x'q9; (try k_sweep)) | walk1) | (leave1; try dsimp only))
  have hAl := news_lt N2 (AX, _) (.head _)
  have hLl := F1.ns.lt
  refine call_enumerate_list (l := AX) ⟨_, (N2 (AX, _) (.head _)).1, rfl, _, rfl⟩ fun h9 hE hI hsz hk => ?_
  have hN0 := news_lt N2
  refine ⟨_, _, AX, [.int c0 t0, .int c1 t1, .int c2 t2, .int c3 t3, .int c4 t4], _, _, rfl, ⟨_, hE⟩, hI, ⟨_, hk _ _ (N2 (AX, _) (.head _)).1, rfl, _, rfl⟩, Nat.succ_ne_self _, Nat.ne_of_lt (Nat.lt_succ_of_lt hAl), Nat.ne_of_lt hAl, Nat.le_of_ble_eq_true rfl, F1.keeps hk, N2.grown hk, Nat.ne_of_lt (Nat.lt_succ_of_lt hLl), Nat.ne_of_lt hLl, new_none F1 (Nat.le_succ _), new_none F1 (Nat.le_refl _), fun p hp => ⟨Nat.ne_of_lt (Nat.lt_succ_of_lt (hN0 p hp)), Nat.ne_of_lt (hN0 p hp)⟩, ?_, ?_⟩
  · intro i v t C h m₂ tk E' hv hn ha hb
    obtain ⟨hi, c, tc, rfl, q0, q1⟩ := cell_at b0 b1 b2 b3 b4 i v hv
    iterate 22 (first | (k_unfold; (try dsimp only)) | (k_end; wrow_close) | (with_reducible (k_here; (with_reducible show wpAny _ _ (call (Value.ref 136) [Value.ref _]) _ _ _); k_dflt (refine back_line _ (by first | (k_asm; done) | fail) (by first | (k_asm; done) | fail) (by first | (assumption; done) | fail) (by first | (k_mem; done) | fail) (by first | (assumption; done) | fail) (by first | (assumption; done) | fail) (by first | (show _ < _; decide; done) | fail) (by first | (show _ < _; decide; done) | fail) (by first | (assumption; done) | fail) (by first | (assumption; done) | fail) ?_; k_whole); intro D'q9 h'q9 tk'q9 k'q9 F'q9 N'q9 x'q9; (try k_sweep); (try k_unmd))) | (with_reducible (k_here; (with_reducible show wpAny _ _ (subscriptTail _ (PySem.Expr.Slice _ _ none _) (Value.ref _) (Value.ref _)) _ _ _); k_dflt (refine slice_line (by first | (k_asm; done) | fail) (by first | (k_asm; done) | fail) (by first | (assumption; done) | fail) (by first | (k_mem; done) | fail) (by first | (assumption; done) | fail) ?_ (by first | (with_unfolding_all rfl; done) | fail) (by first | (kmk_pure; done) | fail)); intro D'q9 h'q9 F'q9 N'q9 x'q9; (try k_sweep))) | (k_here; (with_reducible show wpAny _ _ (call (Value.ref 136) [Value.ref _]) _ _ _); k_dflt (refine back_line _ (by first | (k_asm; done) | fail) (by first | (k_asm; done) | fail) (by first | (assumption; done) | fail) (by first | (k_mem; done) | fail) (by first | (assumption; done) | fail) (by first | (assumption; done) | fail) (by first | (show _ < _; decide; done) | fail) (by first | (show _ < _; decide; done) | fail) (by first | (assumption; done) | fail) (by first | (assumption; done) | fail) ?_; k_whole); intro D'q9 h'q9 tk'q9 k'q9 F'q9 N'q9 x'q9; (try k_sweep); (try k_unmd)) | (k_here; (with_reducible show wpAny _ _ (subscriptTail _ (PySem.Expr.Slice _ _ none _) (Value.ref _) (Value.ref _)) _ _ _); k_dflt (refine slice_line (by first | (k_asm; done) | fail) (by first | (k_asm; done) | fail) (by first | (assumption; done) | fail) (by first | (k_mem; done) | fail) (by first | (assumption; done) | fail) ?_ (by first | (with_unfolding_all rfl; done) | fail) (by first | (kmk_pure; done) | fail)); intro D'q9 h'q9 F'q9 N'q9 x'q9; (try k_sweep)) | walk1 | (dsimp only; first | (with_reducible (k_here; (with_reducible show wpAny _ _ (call (Value.ref 136) [Value.ref _]) _ _ _); k_dflt (refine back_line _ (by first | (k_asm; done) | fail) (by first | (k_asm; done) | fail) (by first | (assumption; done) | fail) (by first | (k_mem; done) | fail) (by first | (assumption; done) | fail) (by first | (assumption; done) | fail) (by first | (show _ < _; decide; done) | fail) (by first | (show _ < _; decide; done) | fail) (by first | (assumption; done) | fail) (by first | (assumption; done) | fail) ?_; k_whole); intro D'q9 h'q9 tk'q9 k'q9 F'q9 N'q9 x'q9; (try k_sweep); (try k_unmd))) | (with_reducible (k_here; (with_reducible show wpAny _ _ (subscriptTail _ (PySem.Expr.Slice _ _ none _) (Value.ref _) (Value.ref _)) _ _ _); k_dflt (refine slice_line (by first | (k_asm; done) | fail) (by first | (k_asm; done) | fail) (by first | (assumption; done) | fail) (by first | (k_mem; done) | fail) (by first | (assumption; done) | fail) ?_ (by first | (with_unfolding_all rfl; done) | fail) (by first | (kmk_pure; done) | fail)); intro D'q9 h'q9 F'q9 N'q9 x'q9; (try k_sweep))) | (k_here; (with_reducible show wpAny _ _ (call (Value.ref 136) [Value.ref _]) _ _ _); k_dflt (refine back_line _ (by first | (k_asm; done) | fail) (by first | (k_asm; done) | fail) (by first | (assumption; done) | fail) (by first | (k_mem; done) | fail) (by first | (assumption; done) | fail) (by first | (assumption; done) | fail) (by first | (show _ < _; decide; done) | fail) (by first | (show _ < _; decide; done) | fail) (by first | (assumption; done) | fail) (by first | (assumption; done) | fail) ?_; k_whole); intro D'q9 h'q9 tk'q9 k'q9 F'q9 N'q9 x'q9; (try k_sweep); (try k_unmd)) | (k_here; (with_reducible show wpAny _ _ (subscriptTail _ (PySem.Expr.Slice _ _ none _) (Value.ref _) (Value.ref _)) _ _ _); k_dflt (refine slice_line (by first | (k_asm; done) | fail) (by first | (k_asm; done) | fail) (by first | (assumption; done) | fail) (by first | (k_mem; done) | fail) (by first | (assumption; done) | fail) ?_ (by first | (with_unfolding_all rfl; done) | fail) (by first | (kmk_pure; done) | fail)); intro D'q9 h'q9 F'q9 N'q9 x'q9; (try k_sweep)) | walk1) | (leave1; try dsimp only))
    unfold newTuple
    refine wpAny_newObj_type ?_ (by size_fits)
    exact ⟨_, _, deedObj_mk q0 q1 hi, rfl, rfl, rfl⟩
  · intro D h' tk made F9 N9 l1 l2 hpw hlen hP
    refine deeds_of hlen hP ?_
    intro ds hdl eR hds hrk
    clear hP hlen hpw hE hI hk hsz hN0 hAl hLl F1 N2 N1
    have m1 : @LT.lt Nat instLTNat AX D := l1 _ (.head _)
    have m2 := l1 _ (.tail _ (.head _))
    have m3 := l1 _ (.tail _ (.tail _ (.head _)))
    have m4 : @LT.lt Nat instLTNat 70 D := l1 _ (.tail _ (.tail _ (.tail _ (.head _))))
    dsimp only at m2 m3
    have g0 : ∀ p ∈ made, p.1 ≠ D := fun p hp => Nat.ne_of_gt (l2 p hp)
    have g1 : ∀ p ∈ made, p.1 ≠ AX := fun p hp => Nat.ne_of_gt (Nat.lt_trans m1 (l2 p hp))
    have g2 : ∀ p ∈ made, p.1 ≠ _ := fun p hp => Nat.ne_of_gt (Nat.lt_trans m2 (l2 p hp))
    have g3 : ∀ p ∈ made, p.1 ≠ _ := fun p hp => Nat.ne_of_gt (Nat.lt_trans m3 (l2 p hp))
    have g4 : ∀ p ∈ made, p.1 ≠ 70 := fun p hp => Nat.ne_of_gt (Nat.lt_trans m4 (l2 p hp))
    clear l1 l2
    have N3 := made_back N9 eR hdl
    simp only [List.cons_append, List.nil_append] at N3
    clear N9
    iterate 3 (first | (k_unfold; (try dsimp only)) | (k_end; wrow_close) | (with_reducible (k_here; (with_reducible show wpAny _ _ (call (Value.ref 136) [Value.ref _]) _ _ _); k_dflt (refine back_line _ (by first | (k_asm; done) | fail) (by first | (k_asm; done) | fail) (by first | (assumption; done) | fail) (by first | (k_mem; done) | fail) (by first | (assumption; done) | fail) (by first | (assumption; done) | fail) (by first | (show _ < _; decide; done) | fail) (by first | (show _ < _; decide; done) | fail) (by first | (assumption; done) | fail) (by first | (assumption; done) | fail) ?_; k_whole); intro D'q9 h'q9 tk'q9 k'q9 F'q9 N'q9 x'q9; (try k_sweep); (try k_unmd))) | (with_reducible (k_here; (with_reducible show wpAny _ _ (subscriptTail _ (PySem.Expr.Slice _ _ none _) (Value.ref _) (Value.ref _)) _ _ _); k_dflt (refine slice_line (by first | (k_asm; done) | fail) (by first | (k_asm; done) | fail) (by first | (assumption; done) | fail) (by first | (k_mem; done) | fail) (by first | (assumption; done) | fail) ?_ (by first | (with_unfolding_all rfl; done) | fail) (by first | (kmk_pure; done) | fail)); intro D'q9 h'q9 F'q9 N'q9 x'q9; (try k_sweep))) | (k_here; (with_reducible show wpAny _ _ (call (Value.ref 136) [Value.ref _]) _ _ _); k_dflt (refine back_line _ (by first | (k_asm; done) | fail) (by first | (k_asm; done) | fail) (by first | (assumption; done) | fail) (by first | (k_mem; done) | fail) (by first | (assumption; done) | fail) (by first | (assumption; done) | fail) (by first | (show _ < _; decide; done) | fail) (by first | (show _ < _; decide; done) | fail) (by first | (assumption; done) | fail) (by first | (assumption; done) | fail) ?_; k_whole); intro D'q9 h'q9 tk'q9 k'q9 F'q9 N'q9 x'q9; (try k_sweep); (try k_unmd)) | (k_here; (with_reducible show wpAny _ _ (subscriptTail _ (PySem.Expr.Slice _ _ none _) (Value.ref _) (Value.ref _)) _ _ _); k_dflt (refine slice_line (by first | (k_asm; done) | fail) (by first | (k_asm; done) | fail) (by first | (assumption; done) | fail) (by first | (k_mem; done) | fail) (by first | (assumption; done) | fail) ?_ (by first | (with_unfolding_all rfl; done) | fail) (by first | (kmk_pure; done) | fail)); intro D'q9 h'q9 F'q9 N'q9 x'q9; (try k_sweep)) | walk1 | (dsimp only; first | (with_reducible (k_here; (with_reducible show wpAny _ _ (call (Value.ref 136) [Value.ref _]) _ _ _); k_dflt (refine back_line _ (by first | (k_asm; done) | fail) (by first | (k_asm; done) | fail) (by first | (assumption; done) | fail) (by first | (k_mem; done) | fail) (by first | (assumption; done) | fail) (by first | (assumption; done) | fail) (by first | (show _ < _; decide; done) | fail) (by first | (show _ < _; decide; done) | fail) (by first | (assumption; done) | fail) (by first | (assumption; done) | fail) ?_; k_whole); intro D'q9 h'q9 tk'q9 k'q9 F'q9 N'q9 x'q9; (try k_sweep); (try k_unmd))) | (with_reducible (k_here; (with_reducible show wpAny _ _ (subscriptTail _ (PySem.Expr.Slice _ _ none _) (Value.ref _) (Value.ref _)) _ _ _); k_dflt (refine slice_line (by first | (k_asm; done) | fail) (by first | (k_asm; done) | fail) (by first | (assumption; done) | fail) (by first | (k_mem; done) | fail) (by first | (assumption; done) | fail) ?_ (by first | (with_unfolding_all rfl; done) | fail) (by first | (kmk_pure; done) | fail)); intro D'q9 h'q9 F'q9 N'q9 x'q9; (try k_sweep))) | (k_here; (with_reducible show wpAny _ _ (call (Value.ref 136) [Value.ref _]) _ _ _); k_dflt (refine back_line _ (by first | (k_asm; done) | fail) (by first | (k_asm; done) | fail) (by first | (assumption; done) | fail) (by first | (k_mem; done) | fail) (by first | (assumption; done) | fail) (by first | (assumption; done) | fail) (by first | (show _ < _; decide; done) | fail) (by first | (show _ < _; decide; done) | fail) (by first | (assumption; done) | fail) (by first | (assumption; done) | fail) ?_; k_whole); intro D'q9 h'q9 tk'q9 k'q9 F'q9 N'q9 x'q9; (try k_sweep); (try k_unmd)) | (k_here; (with_reducible show wpAny _ _ (subscriptTail _ (PySem.Expr.Slice _ _ none _) (Value.ref _) (Value.ref _)) _ _ _); k_dflt (refine slice_line (by first | (k_asm; done) | fail) (by first | (k_asm; done) | fail) (by first | (assumption; done) | fail) (by first | (k_mem; done) | fail) (by first | (assumption; done) | fail) ?_ (by first | (with_unfolding_all rfl; done) | fail) (by first | (kmk_pure; done) | fail)); intro D'q9 h'q9 F'q9 N'q9 x'q9; (try k_sweep)) | walk1) | (leave1; try dsimp only))
    rename Fr _ _ _ _ => F4
    rename News _ _ _ _ => N4
    rename _ = Data.cell (some (Value.ref _)) => dD
    have GG := deep_of XX TT
    have hBB := ext_self XX
    have hmo : (0 : Int) ≤ (mn : Int) ∧ (mn : Int) < 262144 := ⟨by omega, by omega⟩
    refine' assign_compRF F4 (n := 6) (fun i y => ∃ t', y = .str (toldT (mn : Int) ds i) t') ?k1 ?k2 ?k3 ?k4 ?k5 ?k6 ?k7 ?k8 ?k9 ?_ ?k10
    (case k1 => exact rfl); (case k2 => exact rfl); (case k3 => exact rfl); (case k4 => decide); (case k5 => exact rfl); (case k6 => decide); (case k7 => exact rfl); (case k8 => exact rfl); (case k9 => exact rfl); (case k10 => (intro _; rfl))
    iterate 7 (first | (k_unfold; (try dsimp only)) | (k_end; wrow_close) | (with_reducible (k_here; (with_reducible show wpAny _ _ (call (Value.ref 136) [Value.ref _]) _ _ _); k_dflt (refine back_line _ (by first | (k_asm; done) | fail) (by first | (k_asm; done) | fail) (by first | (assumption; done) | fail) (by first | (k_mem; done) | fail) (by first | (assumption; done) | fail) (by first | (assumption; done) | fail) (by first | (show _ < _; decide; done) | fail) (by first | (show _ < _; decide; done) | fail) (by first | (assumption; done) | fail) (by first | (assumption; done) | fail) ?_; k_whole); intro D'q9 h'q9 tk'q9 k'q9 F'q9 N'q9 x'q9; (try k_sweep); (try k_unmd))) | (with_reducible (k_here; (with_reducible show wpAny _ _ (subscriptTail _ (PySem.Expr.Slice _ _ none _) (Value.ref _) (Value.ref _)) _ _ _); k_dflt (refine slice_line (by first | (k_asm; done) | fail) (by first | (k_asm; done) | fail) (by first | (assumption; done) | fail) (by first | (k_mem; done) | fail) (by first | (assumption; done) | fail) ?_ (by first | (with_unfolding_all rfl; done) | fail) (by first | (kmk_pure; done) | fail)); intro D'q9 h'q9 F'q9 N'q9 x'q9; (try k_sweep))) | (k_here; (with_reducible show wpAny _ _ (call (Value.ref 136) [Value.ref _]) _ _ _); k_dflt (refine back_line _ (by first | (k_asm; done) | fail) (by first | (k_asm; done) | fail) (by first | (assumption; done) | fail) (by first | (k_mem; done) | fail) (by first | (assumption; done) | fail) (by first | (assumption; done) | fail) (by first | (show _ < _; decide; done) | fail) (by first | (show _ < _; decide; done) | fail) (by first | (assumption; done) | fail) (by first | (assumption; done) | fail) ?_; k_whole); intro D'q9 h'q9 tk'q9 k'q9 F'q9 N'q9 x'q9; (try k_sweep); (try k_unmd)) | (k_here; (with_reducible show wpAny _ _ (subscriptTail _ (PySem.Expr.Slice _ _ none _) (Value.ref _) (Value.ref _)) _ _ _); k_dflt (refine slice_line (by first | (k_asm; done) | fail) (by first | (k_asm; done) | fail) (by first | (assumption; done) | fail) (by first | (k_mem; done) | fail) (by first | (assumption; done) | fail) ?_ (by first | (with_unfolding_all rfl; done) | fail) (by first | (kmk_pure; done) | fail)); intro D'q9 h'q9 F'q9 N'q9 x'q9; (try k_sweep)) | walk1 | (dsimp only; first | (with_reducible (k_here; (with_reducible show wpAny _ _ (call (Value.ref 136) [Value.ref _]) _ _ _); k_dflt (refine back_line _ (by first | (k_asm; done) | fail) (by first | (k_asm; done) | fail) (by first | (assumption; done) | fail) (by first | (k_mem; done) | fail) (by first | (assumption; done) | fail) (by first | (assumption; done) | fail) (by first | (show _ < _; decide; done) | fail) (by first | (show _ < _; decide; done) | fail) (by first | (assumption; done) | fail) (by first | (assumption; done) | fail) ?_; k_whole); intro D'q9 h'q9 tk'q9 k'q9 F'q9 N'q9 x'q9; (try k_sweep); (try k_unmd))) | (with_reducible (k_here; (with_reducible show wpAny _ _ (subscriptTail _ (PySem.Expr.Slice _ _ none _) (Value.ref _) (Value.ref _)) _ _ _); k_dflt (refine slice_line (by first | (k_asm; done) | fail) (by first | (k_asm; done) | fail) (by first | (assumption; done) | fail) (by first | (k_mem; done) | fail) (by first | (assumption; done) | fail) ?_ (by first | (with_unfolding_all rfl; done) | fail) (by first | (kmk_pure; done) | fail)); intro D'q9 h'q9 F'q9 N'q9 x'q9; (try k_sweep))) | (k_here; (with_reducible show wpAny _ _ (call (Value.ref 136) [Value.ref _]) _ _ _); k_dflt (refine back_line _ (by first | (k_asm; done) | fail) (by first | (k_asm; done) | fail) (by first | (assumption; done) | fail) (by first | (k_mem; done) | fail) (by first | (assumption; done) | fail) (by first | (assumption; done) | fail) (by first | (show _ < _; decide; done) | fail) (by first | (show _ < _; decide; done) | fail) (by first | (assumption; done) | fail) (by first | (assumption; done) | fail) ?_; k_whole); intro D'q9 h'q9 tk'q9 k'q9 F'q9 N'q9 x'q9; (try k_sweep); (try k_unmd)) | (k_here; (with_reducible show wpAny _ _ (subscriptTail _ (PySem.Expr.Slice _ _ none _) (Value.ref _) (Value.ref _)) _ _ _); k_dflt (refine slice_line (by first | (k_asm; done) | fail) (by first | (k_asm; done) | fail) (by first | (assumption; done) | fail) (by first | (k_mem; done) | fail) (by first | (assumption; done) | fail) ?_ (by first | (with_unfolding_all rfl; done) | fail) (by first | (kmk_pure; done) | fail)); intro D'q9 h'q9 F'q9 N'q9 x'q9; (try k_sweep)) | walk1) | (leave1; try dsimp only))
    rename Fr _ _ _ _ => F5
    rename News _ _ _ _ => N5
    have hok : ∀ d ∈ ds, d.2.ok := fun d hd => (hds d hd).2.1
    refine ⟨_, _, _, _, _, _, _, rfl, (by assumption), (by decide), (by decide), (by decide), F5, N5, ?_, ?_⟩
    · intro C i ti s₃ m₃ E' hi hn hm ex hC
      have F7 := F5.keeps ex
      have N7 := N5.grown ex
      have x7 : Ext s₃.heap s₃.heap := fun _ _ e => e
      have hdA : ∀ q ∈ ds, DeedAt s₃.heap q.1 q.2 ∧ q.2.ok ∧ q.2.q < 50000 := fun q hq => by
        obtain ⟨⟨t1, t2, t3, t4, hm⟩, h2⟩ := hds q hq
        exact ⟨⟨t1, t2, t3, t4, News.get N7 (by repeat (first | exact hm | refine List.mem_cons_of_mem _ ?_))⟩, h2⟩
      have hz5 : ds.length ≤ 5 := by omega
      have hl5 : (ds.take i).length ≤ 5 := by rw [List.length_take]; omega
      have hb5 : (backL (ds.take i)).length ≤ 5 := by rw [backL_len]; exact hl5
      have hd1 : ∀ q ∈ ds.take i, DeedAt s₃.heap q.1 q.2 ∧ q.2.ok := fun q hq => ⟨(hdA q (List.mem_of_mem_take hq)).1, (hdA q (List.mem_of_mem_take hq)).2.1⟩
      have hd2 : ∀ q ∈ backL (ds.take i), DeedAt s₃.heap q.1 q.2 ∧ q.2.ok ∧ q.2.q < 50000 := fun q hq => hdA q (List.mem_of_mem_take (backL_mem _ q hq))
      iterate 24 (first | (k_unfold; (try dsimp only)) | (k_end; wrow_close) | (with_reducible (k_here; (with_reducible show wpAny _ _ (call (Value.ref 136) [Value.ref _]) _ _ _); k_dflt (refine back_line _ (by first | (k_asm; done) | fail) (by first | (k_asm; done) | fail) (by first | (assumption; done) | fail) (by first | (k_mem; done) | fail) (by first | (assumption; done) | fail) (by first | (assumption; done) | fail) (by first | (show _ < _; decide; done) | fail) (by first | (show _ < _; decide; done) | fail) (by first | (assumption; done) | fail) (by first | (assumption; done) | fail) ?_; k_whole); intro D'q9 h'q9 tk'q9 k'q9 F'q9 N'q9 x'q9; (try k_sweep); (try k_unmd))) | (with_reducible (k_here; (with_reducible show wpAny _ _ (subscriptTail _ (PySem.Expr.Slice _ _ none _) (Value.ref _) (Value.ref _)) _ _ _); k_dflt (refine slice_line (by first | (k_asm; done) | fail) (by first | (k_asm; done) | fail) (by first | (assumption; done) | fail) (by first | (k_mem; done) | fail) (by first | (assumption; done) | fail) ?_ (by first | (with_unfolding_all rfl; done) | fail) (by first | (kmk_pure; done) | fail)); intro D'q9 h'q9 F'q9 N'q9 x'q9; (try k_sweep))) | (k_here; (with_reducible show wpAny _ _ (call (Value.ref 136) [Value.ref _]) _ _ _); k_dflt (refine back_line _ (by first | (k_asm; done) | fail) (by first | (k_asm; done) | fail) (by first | (assumption; done) | fail) (by first | (k_mem; done) | fail) (by first | (assumption; done) | fail) (by first | (assumption; done) | fail) (by first | (show _ < _; decide; done) | fail) (by first | (show _ < _; decide; done) | fail) (by first | (assumption; done) | fail) (by first | (assumption; done) | fail) ?_; k_whole); intro D'q9 h'q9 tk'q9 k'q9 F'q9 N'q9 x'q9; (try k_sweep); (try k_unmd)) | (k_here; (with_reducible show wpAny _ _ (subscriptTail _ (PySem.Expr.Slice _ _ none _) (Value.ref _) (Value.ref _)) _ _ _); k_dflt (refine slice_line (by first | (k_asm; done) | fail) (by first | (k_asm; done) | fail) (by first | (assumption; done) | fail) (by first | (k_mem; done) | fail) (by first | (assumption; done) | fail) ?_ (by first | (with_unfolding_all rfl; done) | fail) (by first | (kmk_pure; done) | fail)); intro D'q9 h'q9 F'q9 N'q9 x'q9; (try k_sweep)) | walk1 | (dsimp only; first | (with_reducible (k_here; (with_reducible show wpAny _ _ (call (Value.ref 136) [Value.ref _]) _ _ _); k_dflt (refine back_line _ (by first | (k_asm; done) | fail) (by first | (k_asm; done) | fail) (by first | (assumption; done) | fail) (by first | (k_mem; done) | fail) (by first | (assumption; done) | fail) (by first | (assumption; done) | fail) (by first | (show _ < _; decide; done) | fail) (by first | (show _ < _; decide; done) | fail) (by first | (assumption; done) | fail) (by first | (assumption; done) | fail) ?_; k_whole); intro D'q9 h'q9 tk'q9 k'q9 F'q9 N'q9 x'q9; (try k_sweep); (try k_unmd))) | (with_reducible (k_here; (with_reducible show wpAny _ _ (subscriptTail _ (PySem.Expr.Slice _ _ none _) (Value.ref _) (Value.ref _)) _ _ _); k_dflt (refine slice_line (by first | (k_asm; done) | fail) (by first | (k_asm; done) | fail) (by first | (assumption; done) | fail) (by first | (k_mem; done) | fail) (by first | (assumption; done) | fail) ?_ (by first | (with_unfolding_all rfl; done) | fail) (by first | (kmk_pure; done) | fail)); intro D'q9 h'q9 F'q9 N'q9 x'q9; (try k_sweep))) | (k_here; (with_reducible show wpAny _ _ (call (Value.ref 136) [Value.ref _]) _ _ _); k_dflt (refine back_line _ (by first | (k_asm; done) | fail) (by first | (k_asm; done) | fail) (by first | (assumption; done) | fail) (by first | (k_mem; done) | fail) (by first | (assumption; done) | fail) (by first | (assumption; done) | fail) (by first | (show _ < _; decide; done) | fail) (by first | (show _ < _; decide; done) | fail) (by first | (assumption; done) | fail) (by first | (assumption; done) | fail) ?_; k_whole); intro D'q9 h'q9 tk'q9 k'q9 F'q9 N'q9 x'q9; (try k_sweep); (try k_unmd)) | (k_here; (with_reducible show wpAny _ _ (subscriptTail _ (PySem.Expr.Slice _ _ none _) (Value.ref _) (Value.ref _)) _ _ _); k_dflt (refine slice_line (by first | (k_asm; done) | fail) (by first | (k_asm; done) | fail) (by first | (assumption; done) | fail) (by first | (k_mem; done) | fail) (by first | (assumption; done) | fail) ?_ (by first | (with_unfolding_all rfl; done) | fail) (by first | (kmk_pure; done) | fail)); intro D'q9 h'q9 F'q9 N'q9 x'q9; (try k_sweep)) | walk1) | (leave1; try dsimp only))
      k_dflt (refine' shown_line ?ds ?F ?NN ?X ?hm ?G ?hB ?hr ?hmo ?hlen ?hds ?_)
      (case F => k_asm)
      (case NN => k_asm)
      (case X => assumption)
      (case hm => k_mem)
      (case G => assumption)
      (case hB => assumption)
      (case hr => (show _ < _; decide))
      (case hmo => assumption)
      (case hlen => assumption)
      (case hds => assumption)
      intro h9 tk9 t9 F9 N9 x9
      refine ⟨⟨_, congrArg (fun x => Value.str x _) (told_eq mn ds i hok)⟩, _, _, rfl, x9⟩
    · intro T h' tk ys k F8 N8 hne hsz hys
      have hdB : ∀ q ∈ ds, Heap.get? _ q.1 = none ∧ DeedAt h' q.1 q.2 ∧ q.2.ok := fun q hq => by
        obtain ⟨⟨t1, t2, t3, t4, hm⟩, h2⟩ := hds q hq
        have z := N8 (q.1, tup4 q.2.h q.2.k q.2.q q.2.j t1 t2 t3 t4) (by repeat (first | exact hm | refine List.mem_cons_of_mem _ ?_))
        exact ⟨z.2.2, ⟨t1, t2, t3, t4, z.1⟩, h2.1⟩
      have hT70 : @Ne Nat T 70 := Ne.symm (hne (70, _) (by k_mem))
      iterate 12 (first | (k_unfold; (try dsimp only)) | (k_end; wrow_close) | (with_reducible (k_here; (with_reducible show wpAny _ _ (call (Value.ref 136) [Value.ref _]) _ _ _); k_dflt (refine back_line _ (by first | (k_asm; done) | fail) (by first | (k_asm; done) | fail) (by first | (assumption; done) | fail) (by first | (k_mem; done) | fail) (by first | (assumption; done) | fail) (by first | (assumption; done) | fail) (by first | (show _ < _; decide; done) | fail) (by first | (show _ < _; decide; done) | fail) (by first | (assumption; done) | fail) (by first | (assumption; done) | fail) ?_; k_whole); intro D'q9 h'q9 tk'q9 k'q9 F'q9 N'q9 x'q9; (try k_sweep); (try k_unmd))) | (with_reducible (k_here; (with_reducible show wpAny _ _ (subscriptTail _ (PySem.Expr.Slice _ _ none _) (Value.ref _) (Value.ref _)) _ _ _); k_dflt (refine slice_line (by first | (k_asm; done) | fail) (by first | (k_asm; done) | fail) (by first | (assumption; done) | fail) (by first | (k_mem; done) | fail) (by first | (assumption; done) | fail) ?_ (by first | (with_unfolding_all rfl; done) | fail) (by first | (kmk_pure; done) | fail)); intro D'q9 h'q9 F'q9 N'q9 x'q9; (try k_sweep))) | (k_here; (with_reducible show wpAny _ _ (call (Value.ref 136) [Value.ref _]) _ _ _); k_dflt (refine back_line _ (by first | (k_asm; done) | fail) (by first | (k_asm; done) | fail) (by first | (assumption; done) | fail) (by first | (k_mem; done) | fail) (by first | (assumption; done) | fail) (by first | (assumption; done) | fail) (by first | (show _ < _; decide; done) | fail) (by first | (show _ < _; decide; done) | fail) (by first | (assumption; done) | fail) (by first | (assumption; done) | fail) ?_; k_whole); intro D'q9 h'q9 tk'q9 k'q9 F'q9 N'q9 x'q9; (try k_sweep); (try k_unmd)) | (k_here; (with_reducible show wpAny _ _ (subscriptTail _ (PySem.Expr.Slice _ _ none _) (Value.ref _) (Value.ref _)) _ _ _); k_dflt (refine slice_line (by first | (k_asm; done) | fail) (by first | (k_asm; done) | fail) (by first | (assumption; done) | fail) (by first | (k_mem; done) | fail) (by first | (assumption; done) | fail) ?_ (by first | (with_unfolding_all rfl; done) | fail) (by first | (kmk_pure; done) | fail)); intro D'q9 h'q9 F'q9 N'q9 x'q9; (try k_sweep)) | walk1 | (dsimp only; first | (with_reducible (k_here; (with_reducible show wpAny _ _ (call (Value.ref 136) [Value.ref _]) _ _ _); k_dflt (refine back_line _ (by first | (k_asm; done) | fail) (by first | (k_asm; done) | fail) (by first | (assumption; done) | fail) (by first | (k_mem; done) | fail) (by first | (assumption; done) | fail) (by first | (assumption; done) | fail) (by first | (show _ < _; decide; done) | fail) (by first | (show _ < _; decide; done) | fail) (by first | (assumption; done) | fail) (by first | (assumption; done) | fail) ?_; k_whole); intro D'q9 h'q9 tk'q9 k'q9 F'q9 N'q9 x'q9; (try k_sweep); (try k_unmd))) | (with_reducible (k_here; (with_reducible show wpAny _ _ (subscriptTail _ (PySem.Expr.Slice _ _ none _) (Value.ref _) (Value.ref _)) _ _ _); k_dflt (refine slice_line (by first | (k_asm; done) | fail) (by first | (k_asm; done) | fail) (by first | (assumption; done) | fail) (by first | (k_mem; done) | fail) (by first | (assumption; done) | fail) ?_ (by first | (with_unfolding_all rfl; done) | fail) (by first | (kmk_pure; done) | fail)); intro D'q9 h'q9 F'q9 N'q9 x'q9; (try k_sweep))) | (k_here; (with_reducible show wpAny _ _ (call (Value.ref 136) [Value.ref _]) _ _ _); k_dflt (refine back_line _ (by first | (k_asm; done) | fail) (by first | (k_asm; done) | fail) (by first | (assumption; done) | fail) (by first | (k_mem; done) | fail) (by first | (assumption; done) | fail) (by first | (assumption; done) | fail) (by first | (show _ < _; decide; done) | fail) (by first | (show _ < _; decide; done) | fail) (by first | (assumption; done) | fail) (by first | (assumption; done) | fail) ?_; k_whole); intro D'q9 h'q9 tk'q9 k'q9 F'q9 N'q9 x'q9; (try k_sweep); (try k_unmd)) | (k_here; (with_reducible show wpAny _ _ (subscriptTail _ (PySem.Expr.Slice _ _ none _) (Value.ref _) (Value.ref _)) _ _ _); k_dflt (refine slice_line (by first | (k_asm; done) | fail) (by first | (k_asm; done) | fail) (by first | (assumption; done) | fail) (by first | (k_mem; done) | fail) (by first | (assumption; done) | fail) ?_ (by first | (with_unfolding_all rfl; done) | fail) (by first | (kmk_pure; done) | fail)); intro D'q9 h'q9 F'q9 N'q9 x'q9; (try k_sweep)) | walk1) | (leave1; try dsimp only))
      k_dflt (refine' hist_line5 hdl ?F ?NN ?G ?hB ?h70 ?hr ?hun ?hds ?hrk ?hm ?hT ?hT70 ?_)
      (case F => k_asm)
      (case NN => k_asm)
      (case G => assumption)
      (case hB => assumption)
      (case h70 => k_mem)
      (case hr => (show _ < _; decide))
      (case hun => (show _ < _; decide))
      (case hds => assumption)
      (case hrk => assumption)
      (case hm => k_mem)
      (case hT => k_mem)
      (case hT70 => assumption)
      intro D9 h9 tk9 k9 l9 ps9 F9 N9 eT
      iterate 1 (first | (k_unfold; (try dsimp only)) | (k_end; wrow_close) | (with_reducible (k_here; (with_reducible show wpAny _ _ (call (Value.ref 136) [Value.ref _]) _ _ _); k_dflt (refine back_line _ (by first | (k_asm; done) | fail) (by first | (k_asm; done) | fail) (by first | (assumption; done) | fail) (by first | (k_mem; done) | fail) (by first | (assumption; done) | fail) (by first | (assumption; done) | fail) (by first | (show _ < _; decide; done) | fail) (by first | (show _ < _; decide; done) | fail) (by first | (assumption; done) | fail) (by first | (assumption; done) | fail) ?_; k_whole); intro D'q9 h'q9 tk'q9 k'q9 F'q9 N'q9 x'q9; (try k_sweep); (try k_unmd))) | (with_reducible (k_here; (with_reducible show wpAny _ _ (subscriptTail _ (PySem.Expr.Slice _ _ none _) (Value.ref _) (Value.ref _)) _ _ _); k_dflt (refine slice_line (by first | (k_asm; done) | fail) (by first | (k_asm; done) | fail) (by first | (assumption; done) | fail) (by first | (k_mem; done) | fail) (by first | (assumption; done) | fail) ?_ (by first | (with_unfolding_all rfl; done) | fail) (by first | (kmk_pure; done) | fail)); intro D'q9 h'q9 F'q9 N'q9 x'q9; (try k_sweep))) | (k_here; (with_reducible show wpAny _ _ (call (Value.ref 136) [Value.ref _]) _ _ _); k_dflt (refine back_line _ (by first | (k_asm; done) | fail) (by first | (k_asm; done) | fail) (by first | (assumption; done) | fail) (by first | (k_mem; done) | fail) (by first | (assumption; done) | fail) (by first | (assumption; done) | fail) (by first | (show _ < _; decide; done) | fail) (by first | (show _ < _; decide; done) | fail) (by first | (assumption; done) | fail) (by first | (assumption; done) | fail) ?_; k_whole); intro D'q9 h'q9 tk'q9 k'q9 F'q9 N'q9 x'q9; (try k_sweep); (try k_unmd)) | (k_here; (with_reducible show wpAny _ _ (subscriptTail _ (PySem.Expr.Slice _ _ none _) (Value.ref _) (Value.ref _)) _ _ _); k_dflt (refine slice_line (by first | (k_asm; done) | fail) (by first | (k_asm; done) | fail) (by first | (assumption; done) | fail) (by first | (k_mem; done) | fail) (by first | (assumption; done) | fail) ?_ (by first | (with_unfolding_all rfl; done) | fail) (by first | (kmk_pure; done) | fail)); intro D'q9 h'q9 F'q9 N'q9 x'q9; (try k_sweep)) | walk1 | (dsimp only; first | (with_reducible (k_here; (with_reducible show wpAny _ _ (call (Value.ref 136) [Value.ref _]) _ _ _); k_dflt (refine back_line _ (by first | (k_asm; done) | fail) (by first | (k_asm; done) | fail) (by first | (assumption; done) | fail) (by first | (k_mem; done) | fail) (by first | (assumption; done) | fail) (by first | (assumption; done) | fail) (by first | (show _ < _; decide; done) | fail) (by first | (show _ < _; decide; done) | fail) (by first | (assumption; done) | fail) (by first | (assumption; done) | fail) ?_; k_whole); intro D'q9 h'q9 tk'q9 k'q9 F'q9 N'q9 x'q9; (try k_sweep); (try k_unmd))) | (with_reducible (k_here; (with_reducible show wpAny _ _ (subscriptTail _ (PySem.Expr.Slice _ _ none _) (Value.ref _) (Value.ref _)) _ _ _); k_dflt (refine slice_line (by first | (k_asm; done) | fail) (by first | (k_asm; done) | fail) (by first | (assumption; done) | fail) (by first | (k_mem; done) | fail) (by first | (assumption; done) | fail) ?_ (by first | (with_unfolding_all rfl; done) | fail) (by first | (kmk_pure; done) | fail)); intro D'q9 h'q9 F'q9 N'q9 x'q9; (try k_sweep))) | (k_here; (with_reducible show wpAny _ _ (call (Value.ref 136) [Value.ref _]) _ _ _); k_dflt (refine back_line _ (by first | (k_asm; done) | fail) (by first | (k_asm; done) | fail) (by first | (assumption; done) | fail) (by first | (k_mem; done) | fail) (by first | (assumption; done) | fail) (by first | (assumption; done) | fail) (by first | (show _ < _; decide; done) | fail) (by first | (show _ < _; decide; done) | fail) (by first | (assumption; done) | fail) (by first | (assumption; done) | fail) ?_; k_whole); intro D'q9 h'q9 tk'q9 k'q9 F'q9 N'q9 x'q9; (try k_sweep); (try k_unmd)) | (k_here; (with_reducible show wpAny _ _ (subscriptTail _ (PySem.Expr.Slice _ _ none _) (Value.ref _) (Value.ref _)) _ _ _); k_dflt (refine slice_line (by first | (k_asm; done) | fail) (by first | (k_asm; done) | fail) (by first | (assumption; done) | fail) (by first | (k_mem; done) | fail) (by first | (assumption; done) | fail) ?_ (by first | (with_unfolding_all rfl; done) | fail) (by first | (kmk_pure; done) | fail)); intro D'q9 h'q9 F'q9 N'q9 x'q9; (try k_sweep)) | walk1) | (leave1; try dsimp only))
      refine eq_told (mo := (mn : Int)) (ds := ds) (News.get N9 (by k_mem)) (News.get N9 (by k_mem)) eT hsz hys (Nat.le_of_ble_eq_true rfl) ?_
      repeat' (first | (k_unfold; (try dsimp only)) | (k_end; wrow_close) | (with_reducible (k_here; (with_reducible show wpAny _ _ (call (Value.ref 136) [Value.ref _]) _ _ _); k_dflt (refine back_line _ (by first | (k_asm; done) | fail) (by first | (k_asm; done) | fail) (by first | (assumption; done) | fail) (by first | (k_mem; done) | fail) (by first | (assumption; done) | fail) (by first | (assumption; done) | fail) (by first | (show _ < _; decide; done) | fail) (by first | (show _ < _; decide; done) | fail) (by first | (assumption; done) | fail) (by first | (assumption; done) | fail) ?_; k_whole); intro D'q9 h'q9 tk'q9 k'q9 F'q9 N'q9 x'q9; (try k_sweep); (try k_unmd))) | (with_reducible (k_here; (with_reducible show wpAny _ _ (subscriptTail _ (PySem.Expr.Slice _ _ none _) (Value.ref _) (Value.ref _)) _ _ _); k_dflt (refine slice_line (by first | (k_asm; done) | fail) (by first | (k_asm; done) | fail) (by first | (assumption; done) | fail) (by first | (k_mem; done) | fail) (by first | (assumption; done) | fail) ?_ (by first | (with_unfolding_all rfl; done) | fail) (by first | (kmk_pure; done) | fail)); intro D'q9 h'q9 F'q9 N'q9 x'q9; (try k_sweep))) | (k_here; (with_reducible show wpAny _ _ (call (Value.ref 136) [Value.ref _]) _ _ _); k_dflt (refine back_line _ (by first | (k_asm; done) | fail) (by first | (k_asm; done) | fail) (by first | (assumption; done) | fail) (by first | (k_mem; done) | fail) (by first | (assumption; done) | fail) (by first | (assumption; done) | fail) (by first | (show _ < _; decide; done) | fail) (by first | (show _ < _; decide; done) | fail) (by first | (assumption; done) | fail) (by first | (assumption; done) | fail) ?_; k_whole); intro D'q9 h'q9 tk'q9 k'q9 F'q9 N'q9 x'q9; (try k_sweep); (try k_unmd)) | (k_here; (with_reducible show wpAny _ _ (subscriptTail _ (PySem.Expr.Slice _ _ none _) (Value.ref _) (Value.ref _)) _ _ _); k_dflt (refine slice_line (by first | (k_asm; done) | fail) (by first | (k_asm; done) | fail) (by first | (assumption; done) | fail) (by first | (k_mem; done) | fail) (by first | (assumption; done) | fail) ?_ (by first | (with_unfolding_all rfl; done) | fail) (by first | (kmk_pure; done) | fail)); intro D'q9 h'q9 F'q9 N'q9 x'q9; (try k_sweep)) | (walk1 <;> (try dsimp only)) | (dsimp only; first | (with_reducible (k_here; (with_reducible show wpAny _ _ (call (Value.ref 136) [Value.ref _]) _ _ _); k_dflt (refine back_line _ (by first | (k_asm; done) | fail) (by first | (k_asm; done) | fail) (by first | (assumption; done) | fail) (by first | (k_mem; done) | fail) (by first | (assumption; done) | fail) (by first | (assumption; done) | fail) (by first | (show _ < _; decide; done) | fail) (by first | (show _ < _; decide; done) | fail) (by first | (assumption; done) | fail) (by first | (assumption; done) | fail) ?_; k_whole); intro D'q9 h'q9 tk'q9 k'q9 F'q9 N'q9 x'q9; (try k_sweep); (try k_unmd))) | (with_reducible (k_here; (with_reducible show wpAny _ _ (subscriptTail _ (PySem.Expr.Slice _ _ none _) (Value.ref _) (Value.ref _)) _ _ _); k_dflt (refine slice_line (by first | (k_asm; done) | fail) (by first | (k_asm; done) | fail) (by first | (assumption; done) | fail) (by first | (k_mem; done) | fail) (by first | (assumption; done) | fail) ?_ (by first | (with_unfolding_all rfl; done) | fail) (by first | (kmk_pure; done) | fail)); intro D'q9 h'q9 F'q9 N'q9 x'q9; (try k_sweep))) | (k_here; (with_reducible show wpAny _ _ (call (Value.ref 136) [Value.ref _]) _ _ _); k_dflt (refine back_line _ (by first | (k_asm; done) | fail) (by first | (k_asm; done) | fail) (by first | (assumption; done) | fail) (by first | (k_mem; done) | fail) (by first | (assumption; done) | fail) (by first | (assumption; done) | fail) (by first | (show _ < _; decide; done) | fail) (by first | (show _ < _; decide; done) | fail) (by first | (assumption; done) | fail) (by first | (assumption; done) | fail) ?_; k_whole); intro D'q9 h'q9 tk'q9 k'q9 F'q9 N'q9 x'q9; (try k_sweep); (try k_unmd)) | (k_here; (with_reducible show wpAny _ _ (subscriptTail _ (PySem.Expr.Slice _ _ none _) (Value.ref _) (Value.ref _)) _ _ _); k_dflt (refine slice_line (by first | (k_asm; done) | fail) (by first | (k_asm; done) | fail) (by first | (assumption; done) | fail) (by first | (k_mem; done) | fail) (by first | (assumption; done) | fail) ?_ (by first | (with_unfolding_all rfl; done) | fail) (by first | (kmk_pure; done) | fail)); intro D'q9 h'q9 F'q9 N'q9 x'q9; (try k_sweep)) | walk1) | (leave1; try dsimp only) | fail "no step")
end Mine

end
theorem PySem.Challenge.cw_nq0103_01_holds : PySem.Challenge.rw_nq0103_01.Holds :=
  Mine.lwT
