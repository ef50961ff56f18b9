import PyProof.Rows.All
import Wide.All
import OpenK.AllK
import Wide.FinOn
import PySem.Challenge.RW_oc0237_01
open PySem PySem.W PyProof.Rows
set_option Elab.async false
set_option maxRecDepth 100000
set_option maxHeartbeats 8000000
namespace Mine
/-- The written-out part of the heap behind the top, and its addresses. -/
noncomputable def pick {P : Prop} (x : (Params → Frag) × List Addr) (_ : (∀ k a, (k, a) = x → P) → P) : (Params → Frag) × List Addr := x
section
local macro_rules | `(tactic| o_head ($_ $k $a $_)) => `(tactic| (rename_i hf; exact hf $k $a rfl))
noncomputable def hd : (Params → Frag) × List Addr := pick (P := PySem.Challenge.rw_oc0237_01.row.Holds) _ fun _ => by k_head
end
end Mine
local macro_rules | `(tactic| omega) => `(tactic| first
  | with_reducible assumption
  | decide
  | with_reducible exact Nat.le_trans (by assumption) (by decide)
  | with_reducible exact Nat.lt_of_lt_of_le (by assumption) (by decide)
  | with_reducible exact Nat.lt_of_le_of_lt (by assumption) (by decide)
  | with_reducible exact Nat.le_trans (Nat.add_le_add_right (by assumption) _) (by decide)
  | with_reducible exact Nat.lt_of_lt_of_le (Nat.add_lt_add_right (by assumption) _) (by decide)
  | with_reducible exact Nat.lt_of_lt_of_eq (by assumption) (by assumption)
  | with_reducible exact Nat.lt_of_lt_of_eq (by assumption) (Eq.symm (by assumption))
  | with_reducible exact Nat.lt_of_le_of_lt (Nat.le_of_eq (by assumption)) (Nat.lt_of_lt_of_le (by assumption) (by decide))
  | with_reducible exact Nat.lt_trans (by assumption) (Nat.lt_of_lt_of_le (by assumption) (by decide))
  | with_reducible exact Nat.lt_of_le_of_lt (by assumption) (Nat.lt_of_lt_of_le (by assumption) (by decide))
  | lia
  | omega (config := {}))
namespace Mine
open PySem PySem.W PySem.Calls PyProof.Rows

noncomputable abbrev Sub (z h : Heap) : Prop := ∀ b o, z.get? b = some o → h.get? b = some o
theorem Sub.refl (h : Heap) : Sub h h := fun _ _ e => e
theorem Sub.trans {a b c : Heap} (x : Sub a b) (y : Sub b c) : Sub a c := fun k o e => y k o (x k o e)
theorem Sub.push {a b : Heap} (x : Sub a b) (o : Obj) : Sub a (b.push o) := fun k _ e => Heap.get?_push_of_some o (x k _ e)
theorem Sub.size (h : Heap) : h.get? h.objs.size = none := by
  cases q : h.get? h.objs.size with
  | none => rfl
  | some o => exact absurd (Heap.lt_size q) (Nat.lt_irrefl _)
theorem Sub.new {a b : Heap} (x : Sub a b) : a.get? b.objs.size = none := by
  cases q : a.get? b.objs.size with
  | none => rfl
  | some o => exact absurd (Heap.lt_size (x _ _ q)) (Nat.lt_irrefl _)

/-- the facts of the top that the walk reads -/
structure TF (w : World) (h : Heap) : Prop where
  K : (hd.heap_1 w.params).In h
  ns : ∃ mg mb, h.Ns mainGlobals mg ∧ h.Ns builtinsNs mb ∧ (∀ x : Str, x ≠ "__name__" → mb x = bootBuiltins x)
  lim : h.NoLimit
  dig : ∃ mc, h.Ns cStatics mc ∧ mc "sys.int_max_str_digits" = none
theorem TF.up {w : World} {h h' : Heap} (x : TF w h) (k : Sub h h') : TF w h' :=
  ⟨x.K.keeps k, let ⟨mg, mb, a, b, c⟩ := x.ns; ⟨mg, mb, a.keeps k, b.keeps k, c⟩, x.lim.keeps k, let ⟨mc, a, b⟩ := x.dig; ⟨mc, a.keeps k, b⟩⟩

/-- what a call leaves as it was, besides the heap -/
structure Same (s s' : Shared) : Prop where
  gens : s'.gens = s.gens
  os : s'.os = s.os
  drawn : s'.drawn = s.drawn
theorem Same.refl (s : Shared) : Same s s := ⟨rfl, rfl, rfl⟩
theorem Same.trans {s s' s'' : Shared} (x : Same s s') (y : Same s' s'') : Same s s'' := ⟨y.1.trans x.1, y.2.trans x.2, y.3.trans x.3⟩

/-- the state of a walk: the frame's names, the frozen part, the objects that may turn -/
structure St (w : World) (z : Heap) (L : Addr) (m : List (Str × Value)) (mu : List (Addr × Obj)) (s₀ s : Shared) : Prop where
  ns : s.heap.Ns L (fun x => m.lookup x)
  keep : Sub z s.heap
  off : z.get? L = none
  mus : ∀ p ∈ mu, s.heap.get? p.1 = some p.2 ∧ p.1 ≠ L ∧ z.get? p.1 = none
  nd : (mu.map (·.1)).Nodup
  bot : ∃ b₀, TF w b₀ ∧ Sub b₀ z ∧ b₀.objs.size ≤ L
  same : Same s₀ s

section
variable {w : World} {z z' h h' : Heap} {L a : Addr} {m m' : List (Str × Value)} {mu mu' : List (Addr × Obj)} {o o' : Obj} {s₀ s s' : Shared}
theorem St.top (S : St w z L m mu s₀ s) : TF w s.heap := let ⟨_, t, k, _⟩ := S.bot; t.up (k.trans S.keep)
theorem St.topz (S : St w z L m mu s₀ s) : TF w z := let ⟨_, t, k, _⟩ := S.bot; t.up k
theorem St.tok (S : St w z L m mu s₀ s) (k : Nat) : St w z L m mu s₀ { s with toks := k } := ⟨S.ns, S.keep, S.off, S.mus, S.nd, S.bot, ⟨S.same.1, S.same.2, S.same.3⟩⟩
theorem lookup_cons_if (n : Str) (v : Value) (m : List (Str × Value)) : (fun x => ((n, v) :: m).lookup x) = fun x => if x = n then some v else m.lookup x := by
  funext x
  rw [List.lookup_cons]
  by_cases e : x = n
  · subst e; simp
  · have : (x == n) = false := by simpa using e
    simp [this, e]
theorem St.set {n : Str} {v : Value} {k : Nat} (S : St w z L m mu s₀ s) (hn : h'.Ns L (fun x => if x = n then some v else m.lookup x)) (hs : Heap.SameBut L s.heap h') : St w z L ((n, v) :: m) mu s₀ { s with heap := h', toks := k } :=
  ⟨by rw [lookup_cons_if]; exact hn, fun b o e => (hs.2 b (fun q => by rw [q, S.off] at e; cases e)).trans (S.keep b o e), S.off,
    fun p hp => ⟨(hs.2 p.1 (S.mus p hp).2.1).trans (S.mus p hp).1, (S.mus p hp).2⟩, S.nd, S.bot, ⟨S.same.1, S.same.2, S.same.3⟩⟩
theorem St.grow (S : St w z L m mu s₀ s) (k : Sub s.heap s'.heap) (sm : Same s s') : St w z L m mu s₀ s' :=
  ⟨S.ns.keeps k, S.keep.trans k, S.off, fun p hp => ⟨k _ _ (S.mus p hp).1, (S.mus p hp).2⟩, S.nd, S.bot, S.same.trans sm⟩
theorem St.growZ (S : St w z L m mu s₀ s) (k : Sub s.heap s'.heap) (sm : Same s s') (kz : Sub z z') (kh : Sub z' s'.heap) (hL : z'.get? L = none) (hm : ∀ p ∈ mu, z'.get? p.1 = none) : St w z' L m mu s₀ s' :=
  ⟨S.ns.keeps k, kh, hL, fun p hp => ⟨k _ _ (S.mus p hp).1, (S.mus p hp).2.1, hm p hp⟩, S.nd, let ⟨b, t, x, y⟩ := S.bot; ⟨b, t, x.trans kz, y⟩, S.same.trans sm⟩
theorem St.push0 (S : St w z L m mu s₀ s) (o : Obj) {k : Nat} : St w z L m mu s₀ { s with heap := s.heap.push o, toks := k } := S.grow ((Sub.refl s.heap).push o) ⟨rfl, rfl, rfl⟩
theorem St.push (S : St w z L m mu s₀ s) (o : Obj) {k : Nat} (ho : o.isFreed = false := by rfl) : St w z L m ((s.heap.objs.size, o) :: mu) s₀ { s with heap := s.heap.push o, toks := k } :=
  let S' := S.push0 o (k := k)
  ⟨S'.ns, S'.keep, S'.off, fun p hp => by
    rcases List.mem_cons.mp hp with rfl | hp
    · exact ⟨Heap.get?_push_size _ ho, Nat.ne_of_gt S.ns.lt, S.keep.new⟩
    · exact S'.mus p hp, by
    rw [List.map_cons, List.nodup_cons]
    refine ⟨fun q => ?_, S.nd⟩
    obtain ⟨p, hp, e⟩ := List.mem_map.mp q
    exact absurd (Heap.lt_size (S.mus p hp).1) (by rw [e]; exact Nat.lt_irrefl _), S.bot, S'.same⟩
theorem nodup_at {l : List (Addr × Obj)} (hd : (l.map (·.1)).Nodup) {i j : Nat} {a : Addr} {o o' : Obj} (hi : l[i]? = some (a, o)) (hj : l[j]? = some (a, o')) : i = j := by
  have hi' : (l.map (·.1))[i]? = some a := by rw [List.getElem?_map, hi]; rfl
  have hj' : (l.map (·.1))[j]? = some a := by rw [List.getElem?_map, hj]; rfl
  exact (List.getElem?_inj (by rw [List.getElem?_eq_some_iff] at hi'; exact hi'.1) hd).mp (hi'.trans hj'.symm)
/-- one object that may turn has turned; the others stand -/
theorem St.upd (S : St w z L m mu s₀ s) (i : Nat) (hi : mu[i]? = some (a, o)) (hs : Heap.ExtBut a s.heap s'.heap) (ho : s'.heap.get? a = some o') (sm : Same s s') : St w z L m (mu.set i (a, o')) s₀ s' := by
  have hm := S.mus _ (List.mem_of_getElem? hi)
  refine ⟨S.ns.extBut hs (Ne.symm hm.2.1), fun b ob e => hs b ob (fun q => ?_) (S.keep b ob e), S.off, fun p hp => ?_, ?_, S.bot, S.same.trans sm⟩
  · rw [q, hm.2.2] at e; cases e
  · obtain ⟨j, hj, e⟩ := List.mem_iff_getElem.mp hp
    have e' : (mu.set i (a, o'))[j]? = some p := by rw [List.getElem?_eq_getElem hj, e]
    rw [List.getElem?_set] at e'
    split at e'
    · split at e'
      · cases e'; exact ⟨ho, hm.2⟩
      · cases e'
    · rename_i hij
      have hp' := S.mus p (List.mem_of_getElem? e')
      refine ⟨hs _ _ (fun q => ?_) hp'.1, hp'.2⟩
      exact hij (nodup_at S.nd hi (o' := p.2) (by rw [e', ← q]))
  · have : (mu.set i (a, o')).map (·.1) = mu.map (·.1) := by
      rw [List.map_set]
      refine List.ext_getElem? fun j => ?_
      rw [List.getElem?_set]
      split
      · rename_i e; subst e
        rw [List.getElem?_map, hi]
        have : i < (mu.map (·.1)).length := by rw [List.length_map]; exact (List.getElem?_eq_some_iff.mp hi).1
        simp at this
        simp [this]
      · rfl
    rw [this]; exact S.nd
theorem St.drop (S : St w z L m mu s₀ s) (hs : mu'.Sublist mu) : St w z L m mu' s₀ s :=
  ⟨S.ns, S.keep, S.off, fun p hp => S.mus p (hs.subset hp), (hs.map _).nodup S.nd, S.bot, S.same⟩
/-- freeze all but the objects of mu' -/
theorem St.freeze (S : St w z L m mu s₀ s) (hs : mu'.Sublist mu) : ∃ z', Sub z z' ∧ St w z' L m mu' s₀ s ∧ (∀ b o, s.heap.get? b = some o → b ≠ L → (∀ p ∈ mu', p.1 ≠ b) → z'.get? b = some o) := by
  have hn : ∀ b o, z.get? b = some o → b ∉ L :: mu'.map (·.1) := fun b o e q => by
    rcases List.mem_cons.mp q with rfl | q
    · rw [S.off] at e; cases e
    · obtain ⟨p, hp, rfl⟩ := List.mem_map.mp q
      rw [(S.mus p (hs.subset hp)).2.2] at e; cases e
  have hz : Sub z (hideAll s.heap (L :: mu'.map (·.1))) := fun b o e => hideAll_get _ (S.keep b o e) (hn b o e)
  refine ⟨hideAll s.heap (L :: mu'.map (·.1)), hz, ?_, fun b o e hL hp => hideAll_get _ e fun q => ?_⟩
  · exact St.growZ (S.drop hs) (Sub.refl _) (Same.refl _) hz (fun b o e => of_hideAll _ e) (hideAll_none _ (.head _)) fun p hp => hideAll_none _ (.tail _ (List.mem_map_of_mem hp))
  · rcases List.mem_cons.mp q with rfl | q
    · exact hL rfl
    · obtain ⟨p, hp', e'⟩ := List.mem_map.mp q
      exact hp p hp' e'
theorem St.get (S : St w z L m mu s₀ s) (i : Nat) (hi : mu[i]? = some (a, o)) : s.heap.get? a = some o := (S.mus _ (List.mem_of_getElem? hi)).1
noncomputable def Has (m : List (Str × Value)) : List (Str × Value) → Prop
  | [] => True
  | (x, v) :: r => m.lookup x = some v ∧ Has m r
theorem lookup_norm {ex m : List (Str × Value)} (he : Has m ex) : (fun x => (ex ++ m).lookup x) = fun x => m.lookup x := by
  induction ex with
  | nil => rfl
  | cons p r ih =>
    obtain ⟨n, v⟩ := p
    have ih' := ih he.2
    rw [List.cons_append, lookup_cons_if]
    funext x
    by_cases e : x = n
    · subst e; simp only [if_true]; exact he.1.symm
    · simp only [e, if_false]; exact congrFun ih' x
theorem St.norm (S : St w z L m mu s₀ s) (ex : List (Str × Value)) (he : Has m ex) : St w z L (ex ++ m) mu s₀ s :=
  ⟨by rw [lookup_norm he]; exact S.ns, S.keep, S.off, S.mus, S.nd, S.bot, S.same⟩
end

noncomputable def trim (h : Heap) (n : Nat) : Heap := ⟨h.objs.extract 0 n, h.life⟩
theorem trim_get {h : Heap} {n b : Nat} (hb : b < n) : (trim h n).get? b = h.get? b := by
  have e : (trim h n).objs[b]? = h.objs[b]? := by
    show (h.objs.extract 0 n)[b]? = _
    rw [Array.getElem?_extract]
    by_cases q : b < h.objs.size
    · rw [if_pos (by omega)]; simp
    · rw [if_neg (by omega), Array.getElem?_eq_none (by omega)]
  unfold Heap.get?
  rw [e]
theorem trim_size (h : Heap) (n : Nat) : (trim h n).objs.size ≤ n := by
  show (h.objs.extract 0 n).size ≤ n
  rw [Array.size_extract]; omega
theorem trim_bot {w : World} {z h : Heap} (T : TF w z) (hz : Sub z h) : ∃ b₀, TF w b₀ ∧ Sub b₀ z ∧ b₀.objs.size ≤ h.objs.size := by
  refine ⟨trim z h.objs.size, T.up fun b o e => ?_, fun b o e => ?_, trim_size _ _⟩
  · rw [trim_get (Heap.lt_size (hz b o e))]; exact e
  · have := Heap.lt_size e
    rw [trim_get (Nat.lt_of_lt_of_le this (trim_size _ _))] at e; exact e

/-- how deep the call stands -/
noncomputable def Lo (n : Nat) (A : Around) : Prop := A.handled = none ∧ A.depth ≤ 301 + n ∧ A.units ≤ 4 + 20 * n
theorem Lo.deeper {n : Nat} {A : Around} (x : Lo n A) (env : Env) : Lo (n + 1) (A.deeper env) := ⟨x.1, by have := x.2.1; simp only [depth_deeper]; omega, by have := x.2.2; simp only [Around.deeper_units]; omega⟩
theorem Lo.in1 {n : Nat} {A : Around} (x : Lo n A) : Lo (n + 1) A.in1 := ⟨x.1, by have := x.2.1; show A.depth ≤ _; omega, by have := x.2.2; show A.units + 1 ≤ _; omega⟩
theorem Lo.room {n : Nat} {A : Around} (x : Lo n A) (hn : n ≤ 100) : A.depth < recursionLimit := by have := x.2.1; have e : recursionLimit = 1000 := rfl; omega
theorem Lo.units {n : Nat} {A : Around} (x : Lo n A) (hn : n ≤ 100) : A.units < cLine := by have := x.2.2; have e : cLine = 9900 := rfl; omega

/-! ## a call of a def -/
section
variable {prog : Program} {w : World} {A : Around} {s : Shared}
theorem enter {R : Result → Shared → Prop} {name qual : Str} {params : Arguments} {body : List Stmt} {scope : Scope} {dV kV doc pm cdv ct oc : Value} {an od : Option Addr} {osl : Array (Option Value)} {f : Addr} {args : Args} {binds : List (Str × Value)} {z : Heap} {mu : List (Addr × Obj)} {n : Nat}
    (T : TF w z) (hz : Sub z s.heap) (hmu : ∀ p ∈ mu, s.heap.get? p.1 = some p.2 ∧ z.get? p.1 = none) (hnd : (mu.map (·.1)).Nodup) (hA : Lo n A) (hn : n ≤ 100)
    (ho : (hd.heap_1 w.params).lookup f = some ⟨oc, od, .func (fnOf name qual params body scope dV kV doc pm an cdv ct), osl⟩) (hcd : codeIn (hd.heap_1 w.params) cdv qual = true)
    (hbind : BindsTo s (fnOf name qual params body scope dV kV doc pm an cdv ct) args binds)
    (h : ∀ L A' s₁, s.heap.objs.size ≤ L → Sub s.heap s₁.heap → St w z L binds.reverse mu s s₁ → Lo (n + 1) A' →
      wpAny (model prog w) A' (execs body (envOf qual scope L f cdv))
        (fun fl s' => R (.ok (.ret (match fl with | .ret v => v | _ => .none))) s') (fun _ _ => False) s₁)
    (hloc : (binds.all fun x => decide (scope.names.lookup x.1 = some .local)) = true)
    (hcell : ∀ x ∈ scope.names, x.2 ≠ .cell)
    (hco : scope.isCoroutine = false) (hgen : scope.isGenerator = false) (hk : scope.kind = .function) : codeAny (model prog w) A (.call (.ref f) args) R s := by
  have T' := T.up hz
  refine codeAny_call_def (fd := fnOf name qual params body scope dV kV doc pm an cdv ct) (body := body) (binds := binds) (hA.room hn) (T'.K _ _ ho) rfl T'.lim (codeRec_of T'.K hcd) rfl hbind hcell (locs hloc) (fun h₁ hns hk₁ => ?_) hco hgen hk
  have S : St w z s.heap.objs.size binds.reverse mu s { s with heap := h₁, toks := s.toks + binds.length } := ⟨hns, hz.trans hk₁, hz.new, fun p hp => ⟨hk₁ _ _ (hmu p hp).1, Nat.ne_of_lt (Heap.lt_size (hmu p hp).1), (hmu p hp).2⟩, hnd, trim_bot T hz, ⟨rfl, rfl, rfl⟩⟩
  exact wpAny_mono (h _ _ _ (Nat.le_refl _) hk₁ S (hA.deeper _)) (fun _ _ x => x) (fun _ _ x => x.elim)
theorem St.upz {w : World} {z z' : Heap} {L : Addr} {m : List (Str × Value)} {mu : List (Addr × Obj)} {s₀ s : Shared} (S : St w z L m mu s₀ s) (k : Sub z z') (kh : Sub z' s.heap) (hL : z'.get? L = none) (hm : ∀ p ∈ mu, z'.get? p.1 = none) : St w z' L m mu s₀ s :=
  S.growZ (Sub.refl _) (Same.refl _) k kh hL hm
end
section
variable {prog : Program} {w : World} {A : Around} {s : Shared}
variable {R : Result → Shared → Prop} {name qual : Str} {params : Arguments} {body : List Stmt} {scope : Scope} {dV kV doc pm cdv ct oc : Value} {an od : Option Addr} {osl : Array (Option Value)} {f : Addr} {args : Args} {binds : List (Str × Value)} {n : Nat}
/-- a def that turns nothing that stood -/
theorem enter_pure (T : TF w s.heap) (hA : Lo n A) (hn : n ≤ 100)
    (ho : (hd.heap_1 w.params).lookup f = some ⟨oc, od, .func (fnOf name qual params body scope dV kV doc pm an cdv ct), osl⟩) (hcd : codeIn (hd.heap_1 w.params) cdv qual = true)
    (hbind : BindsTo s (fnOf name qual params body scope dV kV doc pm an cdv ct) args binds)
    (h : ∀ L A' s₁, St w s.heap L binds.reverse [] s s₁ → Lo (n + 1) A' →
      wpAny (model prog w) A' (execs body (envOf qual scope L f cdv))
        (fun fl s' => R (.ok (.ret (match fl with | .ret v => v | _ => .none))) s') (fun _ _ => False) s₁)
    (hloc : (binds.all fun x => decide (scope.names.lookup x.1 = some .local)) = true)
    (hcell : ∀ x ∈ scope.names, x.2 ≠ .cell)
    (hco : scope.isCoroutine = false) (hgen : scope.isGenerator = false) (hk : scope.kind = .function) : codeAny (model prog w) A (.call (.ref f) args) R s :=
  enter (z := s.heap) (mu := []) T (Sub.refl _) (fun _ hp => nomatch hp) .nil hA hn ho hcd hbind (fun L A' s₁ _ _ S hA' => h L A' s₁ S hA') hloc hcell hco hgen hk
/-- a def that turns one object -/
theorem enter_one {a : Addr} {o : Obj} (T : TF w (hideAll s.heap [a])) (ha : s.heap.get? a = some o) (hA : Lo n A) (hn : n ≤ 100)
    (ho : (hd.heap_1 w.params).lookup f = some ⟨oc, od, .func (fnOf name qual params body scope dV kV doc pm an cdv ct), osl⟩) (hcd : codeIn (hd.heap_1 w.params) cdv qual = true)
    (hbind : BindsTo s (fnOf name qual params body scope dV kV doc pm an cdv ct) args binds)
    (h : ∀ L A' s₁, St w (hideAll s.heap [a]) L binds.reverse [(a, o)] s s₁ → Lo (n + 1) A' →
      wpAny (model prog w) A' (execs body (envOf qual scope L f cdv))
        (fun fl s' => R (.ok (.ret (match fl with | .ret v => v | _ => .none))) s') (fun _ _ => False) s₁)
    (hloc : (binds.all fun x => decide (scope.names.lookup x.1 = some .local)) = true)
    (hcell : ∀ x ∈ scope.names, x.2 ≠ .cell)
    (hco : scope.isCoroutine = false) (hgen : scope.isGenerator = false) (hk : scope.kind = .function) : codeAny (model prog w) A (.call (.ref f) args) R s :=
  enter (z := hideAll s.heap [a]) (mu := [(a, o)]) T (fun _ _ e => of_hideAll _ e) (fun p hp => by
    rw [List.mem_singleton.mp hp]; exact ⟨ha, hideAll_none _ (.head _)⟩) (by simp) hA hn ho hcd hbind (fun L A' s₁ _ _ S hA' => h L A' s₁ S hA') hloc hcell hco hgen hk
/-- what the caller has behind it -/
theorem St.extBut {L a : Addr} {m : List (Str × Value)} {o : Obj} {s' : Shared} (S : St w (hideAll s.heap [a]) L m [(a, o)] s s') : Heap.ExtBut a s.heap s'.heap ∧ s'.heap.get? a = some o ∧ Same s s' :=
  ⟨fun b ob hb e => S.keep b ob (hideAll_get _ e (by simpa using hb)), (S.mus _ (.head _)).1, S.same⟩
theorem St.subHid {z : Heap} {L a : Addr} {m : List (Str × Value)} {mu : List (Addr × Obj)} {o : Obj} {s₀ : Shared} (S : St w z L m mu s₀ s) (i : Nat) (hi : mu[i]? = some (a, o)) : Sub z (hideAll s.heap [a]) :=
  fun b ob e => hideAll_get _ (S.keep b ob e) (fun q => by
    rw [List.mem_singleton.mp q, (S.mus _ (List.mem_of_getElem? hi)).2.2] at e; cases e)
theorem St.hidden {z : Heap} {L a : Addr} {m : List (Str × Value)} {mu : List (Addr × Obj)} {o : Obj} {s₀ : Shared} (S : St w z L m mu s₀ s) (i : Nat) (hi : mu[i]? = some (a, o)) : TF w (hideAll s.heap [a]) :=
  S.topz.up fun b ob e => hideAll_get _ (S.keep b ob e) (fun q => by
    rw [List.mem_singleton.mp q, (S.mus _ (List.mem_of_getElem? hi)).2.2] at e; cases e)
end
end Mine
namespace Mine
open PySem PySem.W PySem.Calls PyProof.Rows PySem.MeetsSeq

/-! ## rules of the walk, over St -/
/-- a list object -/
noncomputable def LsO (o : Obj) (its : List Value) : Prop := ∃ n, o = { cls := .type "list", data := .seq its.toArray n }
noncomputable def IsL (h : Heap) (a : Addr) (its : List Value) : Prop := ∃ o, h.get? a = some o ∧ LsO o its
theorem IsL.up {h h' : Heap} {a : Addr} {its : List Value} (x : IsL h a its) (k : Sub h h') : IsL h' a its := let ⟨o, ho, r⟩ := x; ⟨o, k _ _ ho, r⟩
theorem IsL.of {h : Heap} {a : Addr} {o : Obj} {its : List Value} (e : h.get? a = some o) (x : LsO o its) : IsL h a its := ⟨o, e, x⟩
theorem IsL.isList {h : Heap} {a : Addr} {its : List Value} (x : IsL h a its) : h.IsList a its.toArray := by
  obtain ⟨o, ho, n, rfl⟩ := x
  exact ⟨_, ho, rfl, n, rfl⟩
theorem IsL.at {h : Heap} {a : Addr} {its : List Value} (x : IsL h a its) : ∃ n, h.get? a = some { cls := .type "list", data := .seq its.toArray n } := by
  obtain ⟨o, ho, n, rfl⟩ := x
  exact ⟨n, ho⟩
theorem IsL.type {s : Shared} {a : Addr} {its : List Value} (x : IsL s.heap a its) : s.TypeIs (.ref a) "list" := Heap.IsList.typeIs x.isList
theorem lsO_of (its : List Value) (n : Nat) : LsO { cls := .type "list", data := .seq its.toArray n } its := ⟨n, rfl⟩
theorem lsO_map {o : Obj} {its its' : List Value} {f : Array Value → Array Value} (x : LsO o its) (hf : f its.toArray = its'.toArray) : LsO (Obj.mapSeq f o) its' ∧ (Obj.mapSeq f o).isFreed = false := by
  obtain ⟨n, rfl⟩ := x
  refine ⟨⟨if (f its.toArray).size == its.toArray.size then n else n + 1, ?_⟩, rfl⟩
  show Obj.mk _ _ (.seq (f its.toArray) _) _ = _
  rw [hf]

/-- what comes behind a statement -/
noncomputable def Nx (K : Shared → Prop) (Q : Flow → Shared → Prop) : Flow → Shared → Prop
  | .next, s => K s
  | f, s => Q f s
/-- both ways of a test -/
noncomputable def Br (b : Bool) (P P' : Prop) : Prop := (b = true → P) ∧ (b = false → P')
theorem Br.yes {b : Bool} {P P' : Prop} (hb : b = true) (h : P) : Br b P P' := ⟨fun _ => h, fun e => (by rw [hb] at e; cases e)⟩
theorem Br.no {b : Bool} {P P' : Prop} (hb : b = false) (h : P') : Br b P P' := ⟨fun e => (by rw [hb] at e; cases e), fun _ => h⟩

section
variable {M : Model} {prog : Program} {w : World} {A : Around} {E : Value → Shared → Prop} {s s₀ : Shared} {z : Heap} {L a : Addr} {m : List (Str × Value)} {mu : List (Addr × Obj)} {env : Env} {o : Obj}

theorem r_execs_cons {st : Stmt} {rest : List Stmt} {Q : Flow → Shared → Prop} (h : wpAny M A (exec st env) (Nx (fun s' => wpAny M A (execs rest env) Q E s') Q) E s) : wpAny M A (execs (st :: rest) env) Q E s :=
  wpAny_execs_cons (wpAny_mono h (fun f s' x => by cases f <;> exact x) fun _ _ x => x)
/-- the same, with short names for what comes behind: the rest of the program and of the claim is not written out at every step -/
theorem r_execs_consL {st : Stmt} {rest : List Stmt} {Q : Flow → Shared → Prop} (h : let Q' := Q; let J : Shared → Prop := fun s' => wpAny M A (execs rest env) Q' E s'; wpAny M A (exec st env) (Nx J Q') E s) : wpAny M A (execs (st :: rest) env) Q E s := r_execs_cons h
theorem keepQ {α : Type} {t : Sem α} {Q : α → Shared → Prop} (h : let Q' := Q; wpAny M A t Q' E s) : wpAny M A t Q E s := h
/-- a statement, with a word of one's own for what holds behind it -/
theorem r_seqJ {st : Stmt} {rest : List Stmt} {Q : Flow → Shared → Prop} (J : Shared → Prop) (h : wpAny M A (exec st env) (Nx J Q) E s) (h2 : ∀ s', J s' → wpAny M A (execs rest env) Q E s') : wpAny M A (execs (st :: rest) env) Q E s :=
  r_execs_cons (wpAny_mono h (fun f s' x => by cases f <;> first | exact h2 _ x | exact x) fun _ _ x => x)
/-- a tree, with a word of one's own for what holds behind it -/
theorem r_mid {α : Type} {t : Sem α} {Q : α → Shared → Prop} (J : α → Shared → Prop) (h : wpAny M A t J E s) (h2 : ∀ a s', J a s' → Q a s') : wpAny M A t Q E s := wpAny_mono h h2 fun _ _ x => x
/-- a tree that turns nothing -/
theorem r_midS {α : Type} {t : Sem α} {Q : α → Shared → Prop} (S : St w z L m mu s₀ s) (J : α → Prop) (h : wpAny M A t (fun a s' => St w z L m mu s₀ s' ∧ J a) E s) (h2 : ∀ a s', St w z L m mu s₀ s' → J a → Q a s') : wpAny M A t Q E s := wpAny_mono h (fun a s' x => h2 a s' x.1 x.2) fun _ _ x => x
theorem r_execs_nil {Q : Flow → Shared → Prop} (h : Q .next s) : wpAny M A (execs [] env) Q E s := wpAny_execs_nil h
theorem r_nx {K : Shared → Prop} {Q : Flow → Shared → Prop} (h : K s) : Nx K Q .next s := h
theorem r_nx_ret {K : Shared → Prop} {Q : Flow → Shared → Prop} {v : Value} (h : Q (.ret v) s) : Nx K Q (.ret v) s := h
theorem r_nx_brk {K : Shared → Prop} {Q : Flow → Shared → Prop} (h : Q .brk s) : Nx K Q .brk s := h
theorem r_nx_cont {K : Shared → Prop} {Q : Flow → Shared → Prop} (h : Q .cont s) : Nx K Q .cont s := h
theorem r_If {test : Expr} {body orelse : List Stmt} {pos : Pos} {Q : Flow → Shared → Prop}
    (h : wpAny M A (isTrue test env (eval test env)) (fun b s₂ => Br b (wpAny M A (execs body env) Q E s₂) (wpAny M A (execs orelse env) Q E s₂)) E s) : wpAny M A (exec (.If test body orelse pos) env) Q E s :=
  wpAny_If (wpAny_mono h (fun b s₂ x => by cases b with
    | true => simpa using x.1 rfl
    | false => simpa using x.2 rfl) fun _ _ x => x)
theorem r_IfExp {test body orelse : Expr} {pos : Pos} {Q : Value → Shared → Prop}
    (h : wpAny M A (isTrue test env (eval test env)) (fun b s₂ => Br b (wpAny M A (eval body env) Q E s₂) (wpAny M A (eval orelse env) Q E s₂)) E s) : wpAny M A (eval (.IfExp test body orelse pos) env) Q E s :=
  wpAny_IfExp (wpAny_mono h (fun b s₂ x => by cases b with
    | true => simpa using x.1 rfl
    | false => simpa using x.2 rfl) fun _ _ x => x)
theorem r_And_cons {x : Expr} {rest : List Expr} {Q : Bool → Shared → Prop} (h : wpAny M A (isTrue x env (eval x env)) (fun b s₁ => Br b (wpAny M A (allTrue .And rest env) Q E s₁) (Q false s₁)) E s) : wpAny M A (allTrue .And (x :: rest) env) Q E s :=
  wpAny_allTrue_And_cons (wpAny_mono h (fun b s₂ x => by cases b with
    | true => simpa using x.1 rfl
    | false => simpa using x.2 rfl) fun _ _ x => x)
theorem r_Or_cons {x : Expr} {rest : List Expr} {Q : Bool → Shared → Prop} (h : wpAny M A (isTrue x env (eval x env)) (fun b s₁ => Br b (Q true s₁) (wpAny M A (allTrue .Or rest env) Q E s₁)) E s) : wpAny M A (allTrue .Or (x :: rest) env) Q E s :=
  wpAny_allTrue_Or_cons (wpAny_mono h (fun b s₂ x => by cases b with
    | true => simpa using x.1 rfl
    | false => simpa using x.2 rfl) fun _ _ x => x)

/-- names -/
theorem r_local {x : Str} {pos : Pos} {v : Value} {Q : Value → Shared → Prop} (S : St w z L m mu s₀ s) (hv : m.lookup x = some v) (h : Q v s)
    (hk : env.scope.kind = .function := by rfl) (hx : env.kindOf x = some .local := by rfl) (hL : env.locals = L := by rfl) (hd : (x == ("__debug__" : Str)) = false := by decide) :
    wpAny M A (eval (.Name x pos) env) Q E s := wpAny_Name (wpAny_loadName_local hk hx (by rw [hL]; exact S.ns) hv h) hd
theorem r_localN {x : Str} {v : Value} {Q : Value → Shared → Prop} (S : St w z L m mu s₀ s) (hv : m.lookup x = some v) (h : Q v s)
    (hk : env.scope.kind = .function := by rfl) (hx : env.kindOf x = some .local := by rfl) (hL : env.locals = L := by rfl) :
    wpAny M A (loadName env x) Q E s := wpAny_loadName_local hk hx (by rw [hL]; exact S.ns) hv h
theorem r_global {x : Str} {pos : Pos} {v : Value} {Q : Value → Shared → Prop} (S : St w z L m mu s₀ s) (e : nsIn (hd.heap_1 w.params) mainGlobals x = some (some v)) (h : Q v s)
    (hk : env.scope.kind = .function := by rfl) (hx : env.kindOf x = some .globalImplicit := by rfl) (hg : env.globals = mainGlobals := by rfl) (hd : (x == ("__debug__" : Str)) = false := by decide) :
    wpAny M A (eval (.Name x pos) env) Q E s := by
  obtain ⟨mg, mb, g, b, _⟩ := S.top.ns
  exact Name_function_global hk hx (loadGlobal_global (by rw [hg]; exact g) (mg_of S.top.K g e) h) hd
theorem r_builtin {x : Str} {pos : Pos} {v : Value} {Q : Value → Shared → Prop} (S : St w z L m mu s₀ s) (e : nsIn (hd.heap_1 w.params) mainGlobals x = some none) (hv : bootBuiltins x = some v) (h : Q v s)
    (hn : x ≠ "__name__" := by decide) (hk : env.scope.kind = .function := by rfl) (hx : env.kindOf x = some .globalImplicit := by rfl) (hg : env.globals = mainGlobals := by rfl) (hb : env.builtins = builtinsNs := by rfl) (hd : (x == ("__debug__" : Str)) = false := by decide) :
    wpAny M A (eval (.Name x pos) env) Q E s := by
  obtain ⟨mg, mb, g, b, hbb⟩ := S.top.ns
  exact Name_function_global hk hx (loadGlobal_builtin (by rw [hg]; exact g) (mg_none_of S.top.K g e) (by rw [hb]; exact b) ((hbb x hn).trans hv) h) hd
theorem r_store {x : Str} {v : Value} {Q : Unit → Shared → Prop} (S : St w z L m mu s₀ s) (h : ∀ s', St w z L ((x, v) :: m) mu s₀ s' → Q () s')
    (hk : env.scope.kind = .function := by rfl) (hx : env.kindOf x = some .local := by rfl) (hL : env.locals = L := by rfl) : wpAny M A (storeName env x v) Q E s := by
  subst hL
  refine wpAny_storeName_local hx S.ns (fun h' hn hs => h _ (S.set hn hs)) (by rw [hk]; rfl)

/-- ints -/
theorem r_int {i : Int} {k : Nat} {pos : Pos} {Q : Value → Shared → Prop} (S : St w z L m mu s₀ s) (h : ∀ t s', St w z L m mu s₀ s' → Q (.int i t) s') : wpAny M A (eval (.Constant (.int i) k pos) env) Q E s := wpAny_Constant_int (h _ _ (S.tok _))
theorem r_str {x : Str} {k : Nat} {pos : Pos} {Q : Value → Shared → Prop} (S : St w z L m mu s₀ s) (h : ∀ t s', St w z L m mu s₀ s' → Q (.str x t) s') : wpAny M A (eval (.Constant (.str x) k pos) env) Q E s := wpAny_Constant_str (h _ _ (S.tok _))
section
variable {i j : Int} {t u : Tok} {Q : Value → Shared → Prop}
theorem r_add (S : St w z L m mu s₀ s) (h : ∀ t s', St w z L m mu s₀ s' → Q (.int (i + j) t) s') : wpAny (model prog w) A (binaryOp .Add (.int i t) (.int j u)) Q E s := PyProof.Rows.add_int (h _ _ (S.tok _))
theorem r_iadd (S : St w z L m mu s₀ s) (h : ∀ t s', St w z L m mu s₀ s' → Q (.int (i + j) t) s') : wpAny (model prog w) A (inplaceOp .Add (.int i t) (.int j u)) Q E s := PyProof.Rows.iadd_int (h _ _ (S.tok _))
theorem r_isub (S : St w z L m mu s₀ s) (h : ∀ t s', St w z L m mu s₀ s' → Q (.int (i - j) t) s') : wpAny (model prog w) A (inplaceOp .Sub (.int i t) (.int j u)) Q E s := PyProof.Rows.isub_int (h _ _ (S.tok _))
theorem r_sub (S : St w z L m mu s₀ s) (h : ∀ t s', St w z L m mu s₀ s' → Q (.int (i - j) t) s') : wpAny (model prog w) A (binaryOp .Sub (.int i t) (.int j u)) Q E s := PyProof.Rows.sub_int (h _ _ (S.tok _))
theorem r_mod (S : St w z L m mu s₀ s) (hj : j ≠ 0) (h : ∀ t s', St w z L m mu s₀ s' → Q (.int (i.fmod j) t) s') : wpAny (model prog w) A (binaryOp .Mod (.int i t) (.int j u)) Q E s := PyProof.Rows.mod_int hj (h _ _ (S.tok _))
theorem r_shr (S : St w z L m mu s₀ s) (hj : 0 ≤ j) (h : ∀ t s', St w z L m mu s₀ s' → Q (.int (i.fdiv (2 ^ j.toNat)) t) s') : wpAny (model prog w) A (binaryOp .RShift (.int i t) (.int j u)) Q E s := PyProof.Rows.rshift_int hj (h _ _ (S.tok _))
theorem r_mul (S : St w z L m mu s₀ s) (hm : Builtin.Int.intBits i ≤ 64) (h : ∀ t s', St w z L m mu s₀ s' → Q (.int (i * j) t) s') : wpAny (model prog w) A (binaryOp .Mult (.int i t) (.int j u)) Q E s := PyProof.Rows.mul_int (h _ _ (S.tok _)) (IntMulOk.of_left hm)
theorem r_neg (S : St w z L m mu s₀ s) (h : ∀ t s', St w z L m mu s₀ s' → Q (.int (-i) t) s') : wpAny (model prog w) A (unaryOp .USub (.int i t)) Q E s := PyProof.Rows.neg_int (h _ _ (S.tok _))
end

/-- an item of a list -/
theorem r_item {value slice : Expr} {its : List Value} {k : Int} {u : Tok} {v : Value} {Q : Value → Shared → Prop} (hl : IsL s.heap a its) (h0 : 0 ≤ k) (hf : k < 2 ^ 63) (hx : its[k.toNat]? = some v) (h : Q v s)
    (hs : subscripted slice false (.ref a) (.int k u) = operate [.ref a, .int k u] (getItem (.ref a) (.int k u)) := by with_unfolding_all rfl) :
    wpAny (model prog w) A (subscriptTail value slice (.ref a) (.int k u)) Q E s :=
  tail_any hl.type slot_list_getitem.lookup (wpAny_getItem_list hl.isList h0 hf (by simpa using hx) h) hs
theorem r_itemN {value slice : Expr} {its : List Value} {i : Int} {u : Tok} {v : Value} {Q : Value → Shared → Prop} (k : Nat) (hl : IsL s.heap a its) (hi : i = k) (hf : k < 1000000) (hx : its[k]? = some v) (h : Q v s)
    (hs : subscripted slice false (.ref a) (.int i u) = operate [.ref a, .int i u] (getItem (.ref a) (.int i u)) := by with_unfolding_all rfl) :
    wpAny (model prog w) A (subscriptTail value slice (.ref a) (.int i u)) Q E s :=
  r_item hl (by omega) (by omega) (by rw [hi]; simpa using hx) h hs
/-- the item at -1 -/
theorem r_itemLast {value slice : Expr} {its : List Value} {u : Tok} {v : Value} {Q : Value → Shared → Prop} (hl : IsL s.heap a (its ++ [v])) (h : Q v s)
    (hs : subscripted slice false (.ref a) (.int (-1) u) = operate [.ref a, .int (-1) u] (getItem (.ref a) (.int (-1) u)) := by with_unfolding_all rfl) :
    wpAny (model prog w) A (subscriptTail value slice (.ref a) (.int (-1) u)) Q E s :=
  tail_any hl.type slot_list_getitem.lookup (wpAny_getItem_list_neg hl.isList (by decide) (by simp; omega) (by decide) (by
    have : ((-1 : Int) + ((its ++ [v]).toArray.size : Int)).toNat = its.length := by simp; omega
    rw [this]; simp) h) hs
/-- an object of mu turned by a function -/
theorem St.mod {f : Obj → Obj} {o : Obj} (S : St w z L m mu s₀ s) (i : Nat) (hi : mu[i]? = some (a, o)) (hf : (f o).isFreed = false) {k : Nat} : St w z L m (mu.set i (a, f o)) s₀ { s with heap := s.heap.update a f, toks := k } :=
  S.upd i hi (Heap.SameBut.update _ _ _).extBut (Heap.get?_update_self _ (S.get i hi) hf) ⟨rfl, rfl, rfl⟩
theorem St.modL {f : Array Value → Array Value} {o : Obj} {its its' : List Value} (S : St w z L m mu s₀ s) (i : Nat) (hi : mu[i]? = some (a, o)) (hl : LsO o its) (hf : f its.toArray = its'.toArray) {k : Nat} :
    ∃ o', LsO o' its' ∧ St w z L m (mu.set i (a, o')) s₀ { s with heap := s.heap.update a (Obj.mapSeq f), toks := k } :=
  ⟨_, (lsO_map hl hf).1, S.mod i hi (lsO_map hl hf).2⟩
theorem r_setItem {its : List Value} {k : Int} {u : Tok} {v : Value} {Q : Unit → Shared → Prop} (S : St w z L m mu s₀ s) (i : Nat) (hi : mu[i]? = some (a, o)) (hl : LsO o its) (h0 : 0 ≤ k) (hf : k < 2 ^ 63) (hn : k < its.length)
    (h : ∀ s' o', LsO o' (its.set k.toNat v) → St w z L m (mu.set i (a, o')) s₀ s' → Q () s') : wpAny (model prog w) A (setItem (.ref a) (.int k u) v) Q E s := by
  have hl' := hl
  obtain ⟨n, rfl⟩ := hl'
  obtain ⟨o', h1, h2⟩ := S.modL (f := (·.setIfInBounds k.toNat v)) (its' := its.set k.toNat v) i hi hl (by simp) (k := s.toks)
  exact ki_setAt (S.get i hi) h0 hf (by simpa using hn) (h _ o' h1 h2)
theorem r_setItemN {its : List Value} {j : Int} {u : Tok} {v : Value} {Q : Unit → Shared → Prop} (S : St w z L m mu s₀ s) (i : Nat) (k : Nat) (hi : mu[i]? = some (a, o)) (hl : LsO o its) (hj : j = k) (hf : k < 1000000) (hn : k < its.length)
    (h : ∀ s' o', LsO o' (its.set k v) → St w z L m (mu.set i (a, o')) s₀ s' → Q () s') : wpAny (model prog w) A (setItem (.ref a) (.int j u) v) Q E s :=
  r_setItem S i hi hl (by omega) (by omega) (by omega) fun s' o' hl' S' => h s' o' (by rw [hj] at hl'; simpa using hl') S'
theorem r_append {its : List Value} {v : Value} {Q : Value → Shared → Prop} (S : St w z L m mu s₀ s) (i : Nat) (hi : mu[i]? = some (a, o)) (hl : LsO o its) (hn : its.length < 1000000)
    (h : ∀ s' o', LsO o' (its ++ [v]) → St w z L m (mu.set i (a, o')) s₀ s' → Q .none s') : wpAny (model prog w) A (call (.builtin "list.append") [.ref a, v]) Q E s := by
  obtain ⟨n, rfl⟩ := id hl
  refine wpAny_list_append_plain ⟨n, S.get i hi⟩ (fun h' hp hs => ?_) (by rw [sizeLine_eq]; simp; omega)
  obtain ⟨n', e⟩ := hp
  exact h _ _ ⟨n', by simp⟩ (S.upd i hi hs.extBut e ⟨rfl, rfl, rfl⟩)
theorem r_popLast {its : List Value} {v : Value} {Q : Value → Shared → Prop} (S : St w z L m mu s₀ s) (i : Nat) (hi : mu[i]? = some (a, o)) (hl : LsO o (its ++ [v])) (hn : its.length < 1000000)
    (h : ∀ s' o', LsO o' its → St w z L m (mu.set i (a, o')) s₀ s' → Q v s') : wpAny (model prog w) A (call (.builtin "list.pop") [.ref a]) Q E s := by
  obtain ⟨n, rfl⟩ := id hl
  obtain ⟨o', h1, h2⟩ := S.modL (f := fun xs => xs.eraseIdxIfInBounds ((its ++ [v]).toArray.size - 1)) (its' := its) i hi hl (by
    apply Array.toList_inj.mp
    rw [Array.eraseIdxIfInBounds]
    simp
    rw [List.eraseIdx_append_of_length_le (by simp)]; simp) (k := s.toks)
  refine call_meets F.slot_list_pop ⟨_, S.get i hi, rfl⟩ F.entry_list_pop (F.args_list_pop_1 _) (list_pop_last a (its ++ [v]).toArray n v (by simp) (by rw [sizeLine_eq]; simp; omega)) ⟨S.get i hi, ?_⟩
  exact h _ o' h1 h2
theorem r_clear {its : List Value} {Q : Value → Shared → Prop} (S : St w z L m mu s₀ s) (i : Nat) (hi : mu[i]? = some (a, o)) (hl : LsO o its) (hn : its.length < 1000000)
    (h : ∀ s' o', LsO o' [] → St w z L m (mu.set i (a, o')) s₀ s' → Q .none s') : wpAny (model prog w) A (call (.builtin "list.clear") [.ref a]) Q E s := by
  obtain ⟨n, rfl⟩ := id hl
  obtain ⟨o', h1, h2⟩ := S.modL (f := fun _ => #[]) (its' := []) i hi hl rfl (k := s.toks)
  refine call_meets F.slot_list_clear ⟨_, S.get i hi, rfl⟩ F.entry_list_clear (F.args_list_clear_1 _) (AutoSeq1.list_clear_list_0 a its.toArray n (by rw [sizeLine_eq]; simp; omega)) ⟨S.get i hi, ?_⟩
  exact h _ o' h1 h2
theorem r_lenL {its : List Value} {Q : Value → Shared → Prop} (S : St w z L m mu s₀ s) (hl : IsL s.heap a its) (hn : its.length < 1000000)
    (h : ∀ t s', St w z L m mu s₀ s' → Q (.int its.length t) s') : wpAny (model prog w) A (call (.builtin "len") [.ref a]) Q E s := by
  refine call_len_list hl.isList (by simp; omega) ?_
  have := h (s.toks + 1) { s with toks := s.toks + 1 + 1 } (S.tok _)
  simpa using this
theorem r_truthyL {its : List Value} {Q : Bool → Shared → Prop} (S : St w z L m mu s₀ s) (hl : IsL s.heap a its) (hn : its.length < 1000000)
    (h : ∀ s', St w z L m mu s₀ s' → Q (!its.isEmpty) s') : wpAny (model prog w) A (truthy (.ref a)) Q E s := by
  refine wpAny_truthy_list hl.isList (by simp; omega) ?_
  have := h { s with toks := s.toks + 1 + 1 } (S.tok _)
  simpa using this

/-! ## calls -/
theorem r_Call {id : Str} {npos pos : Pos} {args : List Expr} {Q : Value → Shared → Prop} (h : wpAny M A (eval (.Name id npos) env) (fun f s₁ => wpAny M A (callWith pos f [] (backTo pos (starEach args env)) []) Q E s₁) E s) :
    wpAny M A (eval (.Call (.Name id npos) args [] pos) env) Q E s := wpAny_bind h
theorem r_CallAttr {ob : Expr} {name : Str} {apos pos : Pos} {args : List Expr} {Q : Value → Shared → Prop}
    (h : wpAny (model prog w) A (eval ob env) (fun ov s₁ => wpAny (model prog w) A (getMethod ov name (do return (← importBound ob env).getD true)) (fun fx s₂ => wpAny (model prog w) A (callWith pos fx.1 fx.2 (backTo pos (starEach args env)) []) Q E s₂) E s₁) E s)
    (hbase : attributeBase ob name env (eval ob env) = eval ob env := by rfl)
    (hfew : methodCallForm (args.length + 0) (backTo pos (starEach args env)) [] = true := by rfl) (hline : (apos.endLine == pos.line) = true := by rfl) :
    wpAny (model prog w) A (eval (.Call (.Attribute ob name apos) args [] pos) env) Q E s := by
  rw [arm_eval_Call, hbase]
  refine wpAny_bind (wpAny_mono h (fun ov s₁ h₁ => ?_) fun _ _ e => e)
  refine wpAny_bind (wpAny_standAt ?_)
  have hform : methodCallForm (args.length + ([] : List Keyword).length) (backTo pos (starEach args env)) (backToKw pos (keywordEach [] env)) = true := hfew
  have hpos : methodCallPos true ob env apos pos = pure pos := by unfold methodCallPos; simp [hline]
  unfold methodCall
  rw [hform]
  exact wpAny_bind (wpAny_holding (wpAny_mono h₁ (fun fx s₂ h₂ => wpAny_bind (wpAny_of_eq hpos h₂)) fun _ _ e => e))
theorem r_listMethod {name : Str} {id : String} {its : List Value} {pl : Sem Bool} {Q : Value × List Value → Shared → Prop} (hl : IsL s.heap a its) (slot : Slot "list" name id) (hty : typeOf (.builtin id) = pure (.type "method_descriptor"))
    (h : Q (.builtin id, [.ref a]) s) : wpAny (model prog w) A (getMethod (.ref a) name pl) Q E s := by
  obtain ⟨n, e⟩ := hl.at
  exact getMethod_builtin ⟨_, e, rfl⟩ PySem.F.plainAttrs_list slot hty (fun b q => by cases q; exact ⟨_, e, rfl⟩) h
theorem r_strMethod {name : Str} {id : String} {x : Str} {t : Tok} {pl : Sem Bool} {Q : Value × List Value → Shared → Prop} (slot : Slot "str" name id) (hty : typeOf (.builtin id) = pure (.type "method_descriptor"))
    (h : Q (.builtin id, [.str x t]) s) : wpAny (model prog w) A (getMethod (.str x t) name pl) Q E s :=
  getMethod_builtin (typeIs_str s x t) PySem.F.plainAttrs_str slot hty (fun b q => by cases q) h
/-- the arguments, one by one -/
theorem r_args {f : Value} {pos : Pos} {args : List Expr} {Q : Args → Shared → Prop} (h : wpAny M A (spliced (backTo pos (starEach args env))) (fun vs s' => Q ⟨vs, []⟩ s') E s) (hs : (starEach args env).all (fun x => !x.1) = true) :
    wpAny M A (evalArgs f true (backTo pos (starEach args env)) []) Q E s := by
  cases hargs : starEach args env with
  | nil => rw [hargs] at h; exact fun Γ p hΓ => PySem.evalArgs_none (M := M) (A := A) (E := E) (s := s) (Q := Q) (h Γ p hΓ) Γ p hΓ
  | cons p r =>
    obtain ⟨b, x⟩ := p
    rw [hargs] at hs h
    have hb : b = false := by simpa using (List.all_eq_true.mp hs) (b, x) (.head _)
    subst hb
    exact evalArgs_plain h
theorem backTo_any {pos : Pos} {l : List (Bool × Sem Value)} (hs : l.all (fun x => !x.1) = true) : (backTo pos l).any (·.1) = false := by
  rw [List.any_eq_false]
  intro x hx
  obtain ⟨y, hy, rfl⟩ := List.mem_map.mp hx
  have := List.all_eq_true.mp hs y hy
  simpa using this
theorem r_cwB {pos : Pos} {id : String} {args : List Expr} {Q : Value → Shared → Prop} (h : wpAny M A (spliced (backTo pos (starEach args env))) (fun vs s₁ => wpAny M A (call (.builtin id) vs) Q E s₁) E s) (hs : (starEach args env).all (fun x => !x.1) = true := by rfl) :
    wpAny M A (callWith pos (.builtin id) [] (backTo pos (starEach args env)) []) Q E s := callWith_builtin (backTo_any hs) (r_args h hs)
theorem r_cwB1 {pos : Pos} {id : String} {self : Value} {args : List Expr} {Q : Value → Shared → Prop} (h : wpAny M A (spliced (backTo pos (starEach args env))) (fun vs s₁ => wpAny M A (call (.builtin id) (self :: vs)) Q E s₁) E s) (hs : (starEach args env).all (fun x => !x.1) = true := by rfl) :
    wpAny M A (callWith pos (.builtin id) [self] (backTo pos (starEach args env)) []) Q E s := callWith_builtin (backTo_any hs) (r_args h hs)
theorem r_cwT {pos : Pos} {T : String} {args : List Expr} {Q : Value → Shared → Prop} (h : wpAny M A (spliced (backTo pos (starEach args env))) (fun vs s₁ => wpAny M A (call (.type T) vs) Q E s₁) E s) (hs : (starEach args env).all (fun x => !x.1) = true := by rfl) :
    wpAny M A (callWith pos (.type T) [] (backTo pos (starEach args env)) []) Q E s := PySem.callWith_type (backTo_any hs) (r_args h hs)
/-- a def stands at f -/
theorem r_cwD {pos : Pos} {f : Addr} {args : List Expr} {Q : Value → Shared → Prop} {oc : Value} {od : Option Addr} {fd : FuncData} {osl : Array (Option Value)} (S : St w z L m mu s₀ s) (ho : (hd.heap_1 w.params).lookup f = some ⟨oc, od, .func fd, osl⟩)
    (h : wpAny M A (spliced (backTo pos (starEach args env))) (fun vs s₁ => (TF w s₁.heap ∧ wpAny M A (call (.ref f) vs) Q E s₁)) E s) (hs : (starEach args env).all (fun x => !x.1) = true := by rfl) :
    wpAny M A (callWith pos (.ref f) [] (backTo pos (starEach args env)) []) Q E s :=
  callWith_function (r_args (wpAny_mono h (fun vs s₁ x => ⟨⟨x.1.K _ _ ho, rfl⟩, x.2⟩) fun _ _ x => x) hs)
theorem r_cwD1 {pos : Pos} {f : Addr} {self : Value} {args : List Expr} {Q : Value → Shared → Prop} {oc : Value} {od : Option Addr} {fd : FuncData} {osl : Array (Option Value)} (S : St w z L m mu s₀ s) (ho : (hd.heap_1 w.params).lookup f = some ⟨oc, od, .func fd, osl⟩)
    (h : wpAny M A (spliced (backTo pos (starEach args env))) (fun vs s₁ => (TF w s₁.heap ∧ wpAny M A (call (.ref f) (self :: vs)) Q E s₁)) E s) (hs : (starEach args env).all (fun x => !x.1) = true := by rfl) :
    wpAny M A (callWith pos (.ref f) [self] (backTo pos (starEach args env)) []) Q E s :=
  callWith_function (r_args (wpAny_mono h (fun vs s₁ x => ⟨⟨x.1.K _ _ ho, rfl⟩, x.2⟩) fun _ _ x => x) hs)
end

/-! ## loops -/
/-- behind a turn -/
noncomputable def Lp (I : Nat → Shared → Prop) (n : Nat) (Q : Flow → Shared → Prop) : Flow → Shared → Prop
  | .next, s => ∃ m, m < n ∧ I m s
  | .cont, s => ∃ m, m < n ∧ I m s
  | .brk, s => Q .next s
  | .ret v, s => Q (.ret v) s
section
variable {prog : Program} {w : World} {A : Around} {E : Value → Shared → Prop} {s : Shared} {env : Env} {I : Nat → Shared → Prop} {n : Nat} {Q : Flow → Shared → Prop}
theorem lp_next (k : Nat) (hk : k < n) (h : I k s) : Lp I n Q .next s := ⟨k, hk, h⟩
theorem lp_cont (k : Nat) (hk : k < n) (h : I k s) : Lp I n Q .cont s := ⟨k, hk, h⟩
theorem lp_brk (h : Q .next s) : Lp I n Q .brk s := h
theorem lp_ret {v : Value} (h : Q (.ret v) s) : Lp I n Q (.ret v) s := h
theorem r_while {test : Expr} {body orelse : List Stmt} {pos : Pos} (I : Nat → Shared → Prop) (n : Nat) (h0 : I n s)
    (turn : ∀ n s, I n s → wpAny (model prog w) A (isTrue test env (eval test env)) (fun b s₂ =>
      Br b (wpAny (model prog w) A (execs body env) (Lp I n Q) (fun _ _ => False) s₂) (wpAny (model prog w) A (execs orelse env) Q (fun _ _ => False) s₂)) (fun _ _ => False) s) :
    wpAny (model prog w) A (exec (.While test body orelse pos) env) Q E s := by
  refine wpAny_While (codeAny_whileLoop I (fun n s hI => wpAny_mono (turn n s hI) (fun b s₂ x => ?_) fun _ _ x => x.elim) n h0)
  cases b with
  | true =>
    simp only [if_true]
    refine wpAny_mono (x.1 rfl) (fun f s₃ y => ?_) fun _ _ x => x.elim
    cases f <;> exact y
  | false =>
    simp only [Bool.false_eq_true, if_false]
    refine wpAny_mono (x.2 rfl) (fun f s₃ y => ?_) fun _ _ x => x.elim
    exact y
end

/-! ## pairs of ints -/
theorem tuple_lt2 (l b : Addr) (r k r' k' : Int) (t1 t2 t3 t4 : Tok) (n n2 : Nat) (dd dd2 : Option Addr) (sl sl2 : Array (Option Value)) :
    Meets (Builtin.«tuple.__lt__» ⟨[.ref l, .ref b], []⟩)
      (fun A R s => s.heap.get? l = some { cls := .type "tuple", dict := dd, data := .seq #[.int r t1, .int k t2] n, slots := sl } ∧ s.heap.get? b = some { cls := .type "tuple", dict := dd2, data := .seq #[.int r' t3, .int k' t4] n2, slots := sl2 } ∧
        R (.ok (.ret (.bool (decide (r < r' ∨ (r = r' ∧ k < k')))))) s) :=
  .of_wp fun prog w A R s h => by
    obtain ⟨hp, g, d, tk, os⟩ := s; obtain ⟨hl, hb, h⟩ := h
    have f2 := AutoSeq1.sub_tuple_tuple
    wp_walk using wpAny_loadPart' hl, wpAny_loadPart' hb, wpAny_forIn_list _ (fun rest b s' => b.1 = none ∧ s' = ⟨hp, g, d, tk, os⟩ ∧ ((rest = [(Value.int r t1, Value.int r' t3), (Value.int k t2, Value.int k' t4)]) ∨ (rest = [(Value.int k t2, Value.int k' t4)] ∧ r = r') ∨ (rest = [] ∧ r = r' ∧ k = k'))) _
    case turn =>
      rintro ⟨y, x⟩ rest b s' ⟨hb', rfl, hz⟩
      rcases hz with hz | ⟨hz, hr⟩ | ⟨hz, _⟩
      · cases hz
        refine wpAny_bind (SeqAt.EqAt.int_int r t1 r' t3 prog w _ _ ?_)
        by_cases e : r = r'
        · rw [beq_iff_eq.mpr e]
          wp_walk
          exact ⟨rfl, rfl, .inr (.inl ⟨rfl, e⟩)⟩
        · rw [beq_eq_false_iff_ne.mpr e]
          simp only [Bool.not_false, if_true]
          refine wpAny_bind (wpAny_rule (wpAny_bind ?_))
          refine PyProof.Rows.lt_int (prog := prog) (w := w) (A := A.in1) (a := r) (t := t1) (b := r') (u := t3) ?_
          wp_walk
          refine ⟨_, rfl, ?_⟩
          have : decide (r < r' ∨ r = r' ∧ k < k') = decide (r < r') := by simp [e]
          rw [this] at h; exact h
      · cases hz
        refine wpAny_bind (SeqAt.EqAt.int_int k t2 k' t4 prog w _ _ ?_)
        by_cases e : k = k'
        · rw [beq_iff_eq.mpr e]
          wp_walk
          exact ⟨rfl, rfl, .inr (.inr ⟨rfl, hr, e⟩)⟩
        · rw [beq_eq_false_iff_ne.mpr e]
          simp only [Bool.not_false, if_true]
          refine wpAny_bind (wpAny_rule (wpAny_bind ?_))
          refine PyProof.Rows.lt_int (prog := prog) (w := w) (A := A.in1) (a := k) (t := t2) (b := k') (u := t4) ?_
          wp_walk
          refine ⟨_, rfl, ?_⟩
          have : decide (r < r' ∨ r = r' ∧ k < k') = decide (k < k') := by simp [hr]
          rw [this] at h; exact h
      · cases hz
    case fin =>
      rintro ⟨b1, b2⟩ s' ⟨hb', rfl, hz⟩
      simp only at hb'
      subst hb'
      rcases hz with hz | ⟨hz, hr⟩ | ⟨_, e1, e2⟩
      · cases hz
      · cases hz
      · wp_walk
        refine ⟨_, rfl, ?_⟩
        have : decide (r < r' ∨ r = r' ∧ k < k') = false := by simp; omega
        rw [this] at h; exact h
    case h => exact ⟨rfl, rfl, .inl rfl⟩

/-- (r, k) < (r', k') -/
noncomputable def pLt (p q : Int × Int) : Bool := decide (p.1 < q.1 ∨ (p.1 = q.1 ∧ p.2 < q.2))
noncomputable def PairAt (h : Heap) (v : Value) (p : Int × Int) : Prop := ∃ a t u, v = .ref a ∧ h.IsTuple a #[.int p.1 t, .int p.2 u]
theorem IsTuple.up {h h' : Heap} {a : Addr} {its : Array Value} (x : h.IsTuple a its) (k : Sub h h') : h'.IsTuple a its := let ⟨o, ho, r⟩ := x; ⟨o, k _ _ ho, r⟩
theorem PairAt.up {h h' : Heap} {v : Value} {p : Int × Int} (x : PairAt h v p) (k : Sub h h') : PairAt h' v p := let ⟨a, t, u, e, q⟩ := x; ⟨a, t, u, e, IsTuple.up q k⟩
theorem r_pairLt {prog : Program} {w : World} {A : Around} {E : Value → Shared → Prop} {s : Shared} {v v' : Value} {p q : Int × Int} {Q : Value → Shared → Prop} (hv : PairAt s.heap v p) (hv' : PairAt s.heap v' q) (hu : A.units < cLine)
    (h : Q (.bool (pLt p q)) s) : wpAny (model prog w) A (compareOp .Lt v v') Q E s := by
  obtain ⟨a, t, u, rfl, hl⟩ := hv
  obtain ⟨b, t', u', rfl, hb⟩ := hv'
  obtain ⟨⟨cls, dd, data, sl⟩, ho, hc, n, hd⟩ := id hl
  obtain ⟨⟨cls2, dd2, data2, sl2⟩, ho2, hc2, n2, hd2⟩ := id hb
  simp only at hc hd hc2 hd2
  subst hc hd hc2 hd2
  exact richCompare_meets_room (op := .Lt) ⟨_, ho, rfl⟩ ⟨_, ho2, rfl⟩ F.slot_tuple_lt F.entry_tuple_lt (F.args_tuple_lt_2 _ _) (tuple_lt2 a b _ _ _ _ _ _ _ _ n n2 dd dd2 sl sl2)
    ⟨ho, ho2, show Value.bool (pLt p q) ≠ Value.notImplemented ∧ Q (.bool (pLt p q)) s from ⟨(fun x => nomatch x), h⟩⟩ hu
end Mine
namespace Mine
open PySem PySem.W PySem.Calls PyProof.Rows

/-! ## loops over an iterator, comprehensions -/
section
variable {w : World} {z z' : Heap} {L a : Addr} {m m' : List (Str × Value)} {mu mu' : List (Addr × Obj)} {o o' : Obj} {s₀ s s' : Shared}
theorem St.perm (S : St w z L m mu s₀ s) (h : mu.Perm mu') : St w z L m mu' s₀ s :=
  ⟨S.ns, S.keep, S.off, fun p hp => S.mus p (h.mem_iff.mpr hp), (h.map _).nodup_iff.mp S.nd, S.bot, S.same⟩
theorem St.pushEnd (S : St w z L m mu s₀ s) (o : Obj) {k : Nat} (ho : o.isFreed = false := by rfl) : St w z L m (mu ++ [(s.heap.objs.size, o)]) s₀ { s with heap := s.heap.push o, toks := k } :=
  (S.push o ho).perm (by simpa using (List.perm_append_comm (l₁ := [(s.heap.objs.size, o)]) (l₂ := mu)))
theorem get_end (mu : List (Addr × Obj)) (p : Addr × Obj) : (mu ++ [p])[mu.length]? = some p := by simp
theorem set_end (mu : List (Addr × Obj)) (p q : Addr × Obj) : (mu ++ [p]).set mu.length q = mu ++ [q] := by simp
theorem St.updEnd (S : St w z L m (mu ++ [(a, o)]) s₀ s) (hs : Heap.ExtBut a s.heap s'.heap) (ho : s'.heap.get? a = some o') (sm : Same s s') : St w z L m (mu ++ [(a, o')]) s₀ s' := by
  have := S.upd mu.length (get_end mu (a, o)) hs ho sm
  rwa [set_end] at this
theorem St.dropEnd (S : St w z L m (mu ++ [(a, o)]) s₀ s) : St w z L m mu s₀ s := S.drop (List.sublist_append_left _ _)
/-- an object that nobody asks of any more has turned -/
theorem St.dropUpd (S : St w z L m (mu ++ [(a, o)]) s₀ s) (hs : Heap.ExtBut a s.heap s'.heap) (sm : Same s s') : St w z L m mu s₀ s' := by
  have hm := S.mus (a, o) (by simp)
  have hne : ∀ p ∈ mu, p.1 ≠ a := fun p hp e => by
    have := S.nd
    rw [List.map_append, List.nodup_append] at this
    exact this.2.2 p.1 (List.mem_map_of_mem hp) a (by simp) e
  exact ⟨S.ns.extBut hs (Ne.symm hm.2.1), fun b ob e => hs b ob (fun q => by rw [q, hm.2.2] at e; cases e) (S.keep b ob e), S.off, fun p hp => ⟨hs _ _ (hne p hp) (S.mus p (List.mem_append_left _ hp)).1, (S.mus p (List.mem_append_left _ hp)).2⟩,
    (S.dropEnd).nd, S.bot, S.same.trans sm⟩
end

/-- an iterator that can be stepped -/
structure It (prog : Program) (w : World) (A : Around) (I : Addr) (fp : List Addr) (n : Nat) (P : Nat → Value → Prop) (SI : Nat → Heap → Prop) : Prop where
  W : Walks prog w A I fp [I] n P SI
  live : ∀ i h, SI i h → ∃ o, h.get? I = some o
theorem It.list {prog : Program} {w : World} {A : Around} (hh : A.handled = none) {I ax : Addr} (hne : ax ≠ I) (items : Array Value) :
    It prog w A I [I, ax] items.size (fun i v => items[i]? = some v) (fun i h => h.IsListIter I ax i ∧ h.IsList ax items) :=
  ⟨Walks.list hh I ax hne items, fun _ _ st => let ⟨o, ho, _⟩ := st.1; ⟨o, ho⟩⟩
theorem It.tuple {prog : Program} {w : World} {A : Around} (hh : A.handled = none) {I ax : Addr} (hne : ax ≠ I) (items : Array Value) :
    It prog w A I [I, ax] items.size (fun i v => items[i]? = some v) (fun i h => h.IsTupleIter I ax i ∧ h.IsTuple ax items) :=
  ⟨Walks.tuple hh I ax hne items, fun _ _ st => let ⟨o, ho, _⟩ := st.1; ⟨o, ho⟩⟩

section
variable {prog : Program} {w : World} {A : Around} {E : Value → Shared → Prop} {s s₀ : Shared} {z : Heap} {L I : Addr} {m : List (Str × Value)} {mu : List (Addr × Obj)} {env : Env} {oI : Obj}
  {fp : List Addr} {n : Nat} {P : Nat → Value → Prop} {SI : Nat → Heap → Prop}

/-- behind a turn of a for -/
noncomputable def Fp (w : World) (z : Heap) (L : Addr) (mo : List (Addr × Obj)) (s₀ : Shared) (K : Heap → List (Str × Value) → List (Addr × Obj) → Prop) (Q : Flow → Shared → Prop) : Flow → Shared → Prop
  | .next, s => ∃ z' m' mu', Sub z z' ∧ K z' m' mu' ∧ St w z' L m' (mu' ++ mo) s₀ s
  | .cont, s => ∃ z' m' mu', Sub z z' ∧ K z' m' mu' ∧ St w z' L m' (mu' ++ mo) s₀ s
  | .brk, s => Q .next s
  | .ret v, s => Q (.ret v) s
theorem fp_next {mo : List (Addr × Obj)} {K : Heap → List (Str × Value) → List (Addr × Obj) → Prop} {Q : Flow → Shared → Prop} {z' : Heap} {m' : List (Str × Value)} {mu' : List (Addr × Obj)} (hz : Sub z z') (hK : K z' m' mu') (S : St w z' L m' (mu' ++ mo) s₀ s) : Fp w z L mo s₀ K Q .next s := ⟨z', m', mu', hz, hK, S⟩
theorem fp_cont {mo : List (Addr × Obj)} {K : Heap → List (Str × Value) → List (Addr × Obj) → Prop} {Q : Flow → Shared → Prop} {z' : Heap} {m' : List (Str × Value)} {mu' : List (Addr × Obj)} (hz : Sub z z') (hK : K z' m' mu') (S : St w z' L m' (mu' ++ mo) s₀ s) : Fp w z L mo s₀ K Q .cont s := ⟨z', m', mu', hz, hK, S⟩
theorem fp_ret {mo : List (Addr × Obj)} {K : Heap → List (Str × Value) → List (Addr × Obj) → Prop} {Q : Flow → Shared → Prop} {v : Value} (h : Q (.ret v) s) : Fp w z L mo s₀ K Q (.ret v) s := h
theorem fp_brk {mo : List (Addr × Obj)} {K : Heap → List (Str × Value) → List (Addr × Obj) → Prop} {Q : Flow → Shared → Prop} (h : Q .next s) : Fp w z L mo s₀ K Q .brk s := h

theorem r_forLoop {target : Expr} {body : List Stmt} {Q : Flow → Shared → Prop} (W : It prog w A I fp n P SI) (hfr : ∀ b ∈ fp, b = I ∨ ∃ o, z.get? b = some o)
    (S : St w z L m (mu ++ [(I, oI)]) s₀ s) (h0 : SI 0 s.heap)
    (hgo : ∀ i (s' : Shared) v (Q' : Unit → Shared → Prop) (E' : Value → Shared → Prop), SI (i + 1) s'.heap → P i v → z.StaysIn s'.heap → Q' () s' → wpAny (model prog w) A (letOwnedTupleGo target (.ref I) v) Q' E' s')
    (K : Nat → Heap → List (Str × Value) → List (Addr × Obj) → Prop) (hK : K 0 z m mu)
    (turn : ∀ i v z' m' mu' o' s', i < n → P i v → Sub z z' → K i z' m' mu' → St w z' L m' (mu' ++ [(I, o')]) s₀ s' →
      wpAny (model prog w) A (assign target env v) (fun _ s₂ => wpAny (model prog w) A (execs body env) (Fp w z' L [(I, o')] s₀ (K (i + 1)) Q) (fun _ _ => False) s₂) (fun _ _ => False) s')
    (done : ∀ z' m' mu' s', Sub z z' → K n z' m' mu' → St w z' L m' mu' s₀ s' → Q .next s') :
    codeAny (model prog w) A (.forLoop target (.ref I) body [] env) (fun r s' => match r with | .ok f => Q f s' | .error e => cameBackBy (model prog w) A env E e s') s := by
  refine codeAny_forLoop_any (fun k s' => ∃ i z' m' mu' o', k = n - i ∧ i ≤ n ∧ Sub z z' ∧ K i z' m' mu' ∧ St w z' L m' (mu' ++ [(I, o')]) s₀ s' ∧ SI i s'.heap) ?_ n ⟨0, z, m, mu, oI, by omega, Nat.zero_le _, Sub.refl _, hK, S, h0⟩
  rintro k s₁ ⟨i, z', m', mu', o', hk, hi, hz, hK', S₁, hS₁⟩
  by_cases hin : i < n
  · refine W.W.item i s₁ _ _ hin hS₁ (fun v h' tk hP hS' hkeep => ?_)
    obtain ⟨o'', ho''⟩ := W.live _ _ hS'
    have S₂ : St w z' L m' (mu' ++ [(I, o'')]) s₀ { s₁ with heap := h', toks := tk } := S₁.updEnd (fun b ob hb e => hkeep b ob (by simpa using hb) e) ho'' ⟨rfl, rfl, rfl⟩
    refine hgo i _ v _ _ hS' hP (hz.trans S₂.keep) ?_
    refine wpAny_mono (turn i v z' m' mu' o'' _ hin hP hz hK' S₂) (fun _ s₂ h₂ => wpAny_mono h₂ (fun f s₃ h₃ => ?_) fun _ _ x => x.elim) fun _ _ x => x.elim
    have back : (∃ z'' m'' mu'', Sub z' z'' ∧ K (i + 1) z'' m'' mu'' ∧ St w z'' L m'' (mu'' ++ [(I, o'')]) s₀ s₃) → ∃ k', k' < k ∧ ∃ i z' m' mu' o', k' = n - i ∧ i ≤ n ∧ Sub z z' ∧ K i z' m' mu' ∧ St w z' L m' (mu' ++ [(I, o')]) s₀ s₃ ∧ SI i s₃.heap := by
      rintro ⟨z'', m'', mu'', hz', hK'', S₃⟩
      refine ⟨n - (i + 1), by omega, i + 1, z'', m'', mu'', o'', rfl, hin, hz.trans hz', hK'', S₃, W.W.frame _ _ _ hS' fun b hb o e => ?_⟩
      rcases hfr b hb with rfl | ⟨ob, hob⟩
      · have e2 : o = o'' := Option.some.inj (e.symm.trans ho'')
        subst e2
        exact (S₃.mus (b, o) (List.mem_append_right _ (List.mem_singleton.mpr rfl))).1
      · have e1 : h'.get? b = some ob := S₂.keep b ob (hz b ob hob)
        have e2 : o = ob := Option.some.inj (e.symm.trans e1)
        subst e2
        exact S₃.keep b _ (hz' _ _ (hz _ _ hob))
    cases f with
    | next => exact back h₃
    | cont => exact back h₃
    | brk => exact h₃
    | ret v => exact h₃
  · have hin' : i = n := by omega
    subst hin'
    refine W.W.done s₁ _ _ hS₁ (fun h' tk hkeep => ?_)
    exact wpAny_execs_nil (done z' m' mu' _ hz hK' (S₁.dropUpd (fun b ob hb e => hkeep b ob (by simpa using hb) e) ⟨rfl, rfl, rfl⟩))

/-- a for over a list that stays -/
theorem r_forList {px : Pos} {x : Str} {body : List Stmt} {its : List Value} {a : Addr} {Q : Flow → Shared → Prop} (S : St w z L m mu s₀ s) (hh : A.handled = none) (hl : IsL z a its)
    (K : Nat → Heap → List (Str × Value) → List (Addr × Obj) → Prop) (hK : K 0 z m mu)
    (turn : ∀ i v z' m' mu' I o' s', its[i]? = some v → Sub z z' → K i z' m' mu' → St w z' L m' (mu' ++ [(I, o')]) s₀ s' →
      wpAny (model prog w) A (assign (.Name x px) env v) (fun _ s₂ => wpAny (model prog w) A (execs body env) (Fp w z' L [(I, o')] s₀ (K (i + 1)) Q) (fun _ _ => False) s₂) (fun _ _ => False) s')
    (done : ∀ z' m' mu' s', Sub z z' → K its.length z' m' mu' → St w z' L m' mu' s₀ s' → Q .next s') :
    wpAny (model prog w) A (pyIter (.ref a)) (fun it s₂ => codeAny (model prog w) A (.forLoop (.Name x px) it body [] env) (fun r s' => match r with | .ok f => Q f s' | .error e => cameBackBy (model prog w) A env E e s') s₂) E s := by
  have hls := (hl.up S.keep).isList
  have hne : a ≠ s.heap.objs.size := by obtain ⟨o, ho, _⟩ := hls; exact Nat.ne_of_lt (Heap.lt_size ho)
  refine wpAny_pyIter_list hls ?_
  have S' := S.pushEnd { cls := .type "list_iterator", data := .fields #[.ref a, .int 0 0] } (k := s.toks)
  have W := It.list (prog := prog) (w := w) (I := s.heap.objs.size) hh hne its.toArray
  have hsz : its.toArray.size = its.length := by simp
  rw [hsz] at W
  refine r_forLoop W ?_ S' ⟨⟨_, Heap.get?_push_size _ rfl, rfl, rfl⟩, hls.push _⟩ (fun _ _ _ _ _ _ _ _ q => wpAny_pure q) K hK (fun i v z' m' mu' o' s' hi hP hz hK' S₁ => turn i v z' m' mu' _ o' s' (by simpa using hP) hz hK' S₁) done
  intro b hb
  rcases List.mem_cons.mp hb with rfl | hb
  · exact .inl rfl
  · rw [List.mem_singleton.mp hb]; obtain ⟨o, ho, _⟩ := hl; exact .inr ⟨o, ho⟩
theorem r_forTuple {px : Pos} {x : Str} {body : List Stmt} {its : List Value} {a : Addr} {Q : Flow → Shared → Prop} (S : St w z L m mu s₀ s) (hh : A.handled = none) (hl : z.IsTuple a its.toArray)
    (K : Nat → Heap → List (Str × Value) → List (Addr × Obj) → Prop) (hK : K 0 z m mu)
    (turn : ∀ i v z' m' mu' I o' s', its[i]? = some v → Sub z z' → K i z' m' mu' → St w z' L m' (mu' ++ [(I, o')]) s₀ s' →
      wpAny (model prog w) A (assign (.Name x px) env v) (fun _ s₂ => wpAny (model prog w) A (execs body env) (Fp w z' L [(I, o')] s₀ (K (i + 1)) Q) (fun _ _ => False) s₂) (fun _ _ => False) s')
    (done : ∀ z' m' mu' s', Sub z z' → K its.length z' m' mu' → St w z' L m' mu' s₀ s' → Q .next s') :
    wpAny (model prog w) A (pyIter (.ref a)) (fun it s₂ => codeAny (model prog w) A (.forLoop (.Name x px) it body [] env) (fun r s' => match r with | .ok f => Q f s' | .error e => cameBackBy (model prog w) A env E e s') s₂) E s := by
  have hls := IsTuple.up hl S.keep
  have hne : a ≠ s.heap.objs.size := by obtain ⟨o, ho, _⟩ := hls; exact Nat.ne_of_lt (Heap.lt_size ho)
  refine wpAny_pyIter_tuple hls ?_
  have S' := S.pushEnd { cls := .type "tuple_iterator", data := .fields #[.ref a, .int 0 0] } (k := s.toks)
  have W := It.tuple (prog := prog) (w := w) (I := s.heap.objs.size) hh hne its.toArray
  have hsz : its.toArray.size = its.length := by simp
  rw [hsz] at W
  refine r_forLoop W ?_ S' ⟨⟨_, Heap.get?_push_size _ rfl, rfl, rfl⟩, IsTuple.up hls ((Sub.refl _).push _)⟩ (fun _ _ _ _ _ _ _ _ q => wpAny_pure q) K hK (fun i v z' m' mu' o' s' hi hP hz hK' S₁ => turn i v z' m' mu' _ o' s' (by simpa using hP) hz hK' S₁) done
  intro b hb
  rcases List.mem_cons.mp hb with rfl | hb
  · exact .inl rfl
  · rw [List.mem_singleton.mp hb]; obtain ⟨o, ho, _⟩ := hl; exact .inr ⟨o, ho⟩
end

/-! ## comprehensions -/
section
variable {prog : Program} {w : World} {A : Around} {E : Value → Shared → Prop} {s s₀ : Shared} {z : Heap} {L I : Addr} {m : List (Str × Value)} {mu : List (Addr × Obj)} {env : Env} {oI : Obj}
  {fp : List Addr} {n : Nat} {P : Nat → Value → Prop} {SI : Nat → Heap → Prop}

theorem compLoop_own {R : Result → Shared → Prop} {elt target iter : Expr} {ifs : List Expr} {scope : Scope} {pos : Pos} {it acc : Value} {env : Env} (I : Nat → Shared → Prop)
    (turn : ∀ n s, I n s → wpAny (model prog w) A (pyNext it) (fun r s₁ => match r with
      | none => R (.ok .next) s₁
      | some v => wpAny (model prog w) A (letOwnedTupleGo target it v) (fun _ s₁' => wpAny (model prog w) A (assign target env v) (fun _ s₂ =>
          wpAny (model prog w) A (forIn ifs true fun c r => if r = true then do let ok ← isTrue c env (eval c env); pure (ForInStep.yield ok) else pure (ForInStep.yield r)) (fun ok s₃ =>
            Br ok (wpAny (model prog w) A (eval elt env) (fun x s₄ =>
              wpAny (model prog w) A (call (.builtin "list.append") [acc, x]) (fun _ s₅ => ∃ m, m < n ∧ I m s₅) (fun _ _ => False) s₄) (fun _ _ => False) s₃)
            (∃ m, m < n ∧ I m s₃)) (fun _ _ => False) s₂) (fun _ _ => False) s₁') (fun _ _ => False) s₁) (fun _ _ => False) s)
    (n : Nat) (h : I n s) :
    codeAny (model prog w) A (.compLoop (.ListComp elt [⟨target, iter, ifs, 0⟩] scope pos) 0 it acc env) R s := by
  refine codeAny_loop rfl I (fun n s hI => ?_) n h
  show wpAny _ A ((compTurn (.ListComp elt [⟨target, iter, ifs, 0⟩] scope pos) 0 it acc env).onRaise (fun x => do noteFrame x env; theTreesLotGoes x)) _ _ s
  refine wpAny_noted ?_
  rw [compTurn_list]
  refine wpAny_bind (wpAny_standAt (wpAny_bind (wpAny_mono (turn n s hI) (fun r s₁ h₁ => ?_) fun _ _ h' => h'.elim)))
  cases r with
  | none => exact wpAny_pure h₁
  | some v =>
    refine wpAny_bind (wpAny_mono h₁ (fun _ s₁' h₁' => ?_) fun _ _ h' => h'.elim)
    refine wpAny_bind (wpAny_mono h₁' (fun _ s₂ h₂ => wpAny_bind (wpAny_mono h₂ (fun ok s₃ h₃ => ?_) fun _ _ h' => h'.elim)) fun _ _ h' => h'.elim)
    cases ok with
    | false => exact wpAny_pure ⟨rfl, h₃.2 rfl⟩
    | true =>
      exact wpAny_bind (wpAny_bind (wpAny_mono (h₃.1 rfl) (fun x s₄ h₄ => wpAny_bind (wpAny_mono h₄ (fun _ s₅ h₅ => wpAny_pure (wpAny_pure ⟨rfl, h₅⟩)) fun _ _ h' => h'.elim)) fun _ _ h' => h'.elim))

/-- behind a comprehension's element -/
noncomputable def Ce (w : World) (z : Heap) (C : Addr) (mu : List (Addr × Obj)) (s₀ : Shared) (K : Heap → List Value → Prop) (rs : List Value) (s : Shared) : Prop :=
  ∃ z' m', Sub z z' ∧ K z' rs ∧ St w z' C m' mu s₀ s
theorem ce {mu : List (Addr × Obj)} {C : Addr} {K : Heap → List Value → Prop} {rs : List Value} {z' : Heap} {m' : List (Str × Value)} (hz : Sub z z') (hK : K z' rs) (S : St w z' C m' mu s₀ s) : Ce w z C mu s₀ K rs s := ⟨z', m', hz, hK, S⟩

/-- the frame changes: the walk goes on in the frame C; the frame L is one object more that stays -/
theorem St.inner {C : Addr} {s' : Shared} (S : St w z L m mu s₀ s) (hn : s'.heap.Ns C (fun _ => none)) (hsz : s.heap.objs.size ≤ C) (k : Sub s.heap s'.heap) (sm : Same s s') : ∃ oL, (∃ es ep, oL.data = .dict es ep ∧ StrKeys es ∧ ∀ name, nsFind es name = m.lookup name) ∧ St w z C [] ((L, oL) :: mu) s₀ s' := by
  obtain ⟨oL, es, ep, ho, hd, hk, hf⟩ := S.ns
  have hnew : ∀ b o, s.heap.get? b = some o → b ≠ C := fun b o e q => absurd (Heap.lt_size e) (by rw [q]; exact Nat.not_lt.mpr hsz)
  have S' := S.grow k sm
  refine ⟨oL, ⟨es, ep, hd, hk, hf⟩, hn, S'.keep, ?_, fun p hp => ?_, ?_, ?_, S'.same⟩
  · cases q : z.get? C with
    | none => rfl
    | some o => exact absurd rfl (hnew C o (S.keep _ _ q))
  · rcases List.mem_cons.mp hp with rfl | hp
    · exact ⟨k _ _ ho, hnew _ _ ho, S.off⟩
    · exact ⟨(S'.mus p hp).1, hnew _ _ (S.mus p hp).1, (S'.mus p hp).2.2⟩
  · rw [List.map_cons, List.nodup_cons]
    refine ⟨fun q => ?_, S.nd⟩
    obtain ⟨p, hp, e⟩ := List.mem_map.mp q
    exact (S.mus p hp).2.1 e
  · obtain ⟨b, t, x, y⟩ := S.bot
    exact ⟨b, t, x, Nat.le_trans y (Nat.le_trans (Nat.le_of_lt (Heap.lt_size ho)) hsz)⟩
/-- and back -/
theorem St.outer {C : Addr} {m' : List (Str × Value)} {oL : Obj} {s' : Shared} {L₀ : Nat} (S : St w z C m' ((L, oL) :: mu) s₀ s) (hL : ∃ es ep, oL.data = .dict es ep ∧ StrKeys es ∧ ∀ name, nsFind es name = m.lookup name)
    (hb : ∃ b₀, TF w b₀ ∧ Sub b₀ z ∧ b₀.objs.size ≤ L) (hs : Heap.ExtBut C s.heap s'.heap) (sm : Same s s') : St w z L m mu s₀ s' := by
  obtain ⟨es, ep, hd, hk, hf⟩ := hL
  have hm := S.mus (L, oL) (.head _)
  have hkz : Sub z s'.heap := fun b o e => hs b o (fun q => by rw [q, S.off] at e; cases e) (S.keep b o e)
  have hnd := S.nd
  rw [List.map_cons, List.nodup_cons] at hnd
  exact ⟨⟨oL, es, ep, hs _ _ hm.2.1 hm.1, hd, hk, hf⟩, hkz, hm.2.2, fun p hp => ⟨hs _ _ (S.mus p (.tail _ hp)).2.1 (S.mus p (.tail _ hp)).1, fun e => hnd.1 (show L ∈ mu.map (·.1) from (by rw [← e]; exact List.mem_map_of_mem hp)), (S.mus p (.tail _ hp)).2.2⟩, hnd.2, hb, S.same.trans sm⟩

/-- from the iterator on: the new list, the frame of the comprehension, its turns -/
theorem compBlk {elt target iter : Expr} {ifs : List Expr} {scope : Scope} {cl : List (Str × Addr)} {pos : Pos} {RR : Value → Addr → Result → Shared → Prop}
    (W : It prog w A I fp n P SI) (hfr : ∀ b ∈ fp, b = I ∨ ∃ o, z.get? b = some o)
    (S : St w z L m (mu ++ [(I, oI)]) s₀ s) (h0 : SI 0 s.heap) (hn : n < 1000000)
    (hgo : ∀ i (s' : Shared) v (Q' : Unit → Shared → Prop) (E' : Value → Shared → Prop), SI (i + 1) s'.heap → P i v → z.StaysIn s'.heap → Q' () s' → wpAny (model prog w) A (letOwnedTupleGo target (.ref I) v) Q' E' s')
    (hcell : ∀ y ∈ scope.names, y.2 ≠ .cell) (hkind : scope.kind = .function)
    (K : Nat → Heap → List Value → Prop) (hK : K 0 z [])
    (turn : ∀ i v z' rs C m' mu' s', i < n → P i v → Sub z z' → K i z' rs → St w z' C m' mu' s₀ s' → (∀ p ∈ mu, p ∈ mu') →
      wpAny (model prog w) A (assign target (compEnvC scope cl C env) v) (fun _ s₂ =>
        wpAny (model prog w) A (forIn ifs true fun c r => if r = true then do let ok ← isTrue c (compEnvC scope cl C env) (eval c (compEnvC scope cl C env)); pure (ForInStep.yield ok) else pure (ForInStep.yield r)) (fun ok s₃ =>
          Br ok (wpAny (model prog w) A (eval elt (compEnvC scope cl C env)) (fun y s₄ => Ce w z' C mu' s₀ (K (i + 1)) (rs ++ [y]) s₄) (fun _ _ => False) s₃) (Ce w z' C mu' s₀ (K (i + 1)) rs s₃)) (fun _ _ => False) s₂) (fun _ _ => False) s')
    (done : ∀ z' rs C D o mC oL s', Sub z z' → K n z' rs → rs.length ≤ n → LsO o rs → (∃ es ep, oL.data = .dict es ep ∧ StrKeys es ∧ ∀ name, nsFind es name = m.lookup name) → St w z' C mC ((L, oL) :: (D, o) :: mu) s₀ s' → RR (.ref D) C (.ok .next) s') :
    wpAny (model prog w) A (newList []) (fun acc s₃ => wpAny (model prog w) A (newFunctionEnv scope env.globals cl [] env.qual none .none (some env)) (fun cenv s₄ =>
      codeAny (model prog w) A (.compStart (.ListComp elt [⟨target, iter, ifs, 0⟩] scope pos) 0 (.ref I) acc { cenv with scope := relabel scope env }) (RR acc cenv.locals) s₄) E s₃) E s := by
  refine wpAny_newObj_type ?_ (by simp [sizeOk])
  have S₁ := S.push { cls := .type "list", data := .seq #[] } (k := s.toks)
  refine wpAny_newFunctionEnv hcell (fun _ hx => nomatch hx) (fun h' hns hsb => ?_) hkind
  have hk₁ : Sub (s.heap.push { cls := .type "list", data := .seq #[] }) h' := fun b o e => hsb.extBut b o (Nat.ne_of_lt (Heap.lt_size e)) (Heap.get?_push_of_some _ e)
  obtain ⟨oL, hL, S₂⟩ := S₁.inner (s' := { s with heap := h', toks := s.toks + 0 }) hns (Nat.le_refl _) hk₁ ⟨rfl, rfl, rfl⟩
  generalize hC : (s.heap.push { cls := .type "list", data := .seq #[] }).objs.size = C at *
  generalize hD : s.heap.objs.size = D at *
  show codeAny (model prog w) A (.compStart (.ListComp elt [⟨target, iter, ifs, 0⟩] scope pos) 0 (.ref I) (.ref D) (compEnvC scope cl C env)) (RR (.ref D) C) _
  have hI₂ : ∀ {sx : Shared}, (∀ b o, b ∈ fp → s.heap.get? b = some o → sx.heap.get? b = some o) → SI 0 sx.heap := fun hx => W.W.frame _ _ _ h0 fun b hb o e => hx b o hb e
  have hI₃ : SI 0 ({ s with heap := h', toks := s.toks + 0 } : Shared).heap := hI₂ fun b o _ e => hk₁ _ _ (Heap.get?_push_of_some _ e)
  have loop : codeAny (model prog w) A (.compLoop (.ListComp elt [⟨target, iter, ifs, 0⟩] scope pos) 0 (.ref I) (.ref D) (compEnvC scope cl C env)) (RR (.ref D) C) { s with heap := h', toks := s.toks + 0 } := by
    refine compLoop_own (fun k s' => ∃ i z' rs mC o o', k = n - i ∧ i ≤ n ∧ Sub z z' ∧ K i z' rs ∧ rs.length ≤ i ∧ LsO o rs ∧ St w z' C mC ((L, oL) :: (D, o) :: (mu ++ [(I, o')])) s₀ s' ∧ SI i s'.heap) ?_ n ⟨0, z, [], [], _, oI, by omega, Nat.zero_le _, Sub.refl _, hK, Nat.le_refl _, ⟨0, rfl⟩, S₂, hI₃⟩
    rintro k s₁ ⟨i, z', rs, mC, o, o', hk, hi, hz, hK', hrs, hls, S₁, hS₁⟩
    by_cases hin : i < n
    · refine W.W.item i s₁ _ _ hin hS₁ (fun v h' tk hP hS' hkeep => ?_)
      obtain ⟨o'', ho''⟩ := W.live _ _ hS'
      have S₂ : St w z' C mC ((L, oL) :: (D, o) :: (mu ++ [(I, o'')])) s₀ { s₁ with heap := h', toks := tk } :=
        St.updEnd (mu := (L, oL) :: (D, o) :: mu) S₁ (fun b ob hb e => hkeep b ob (by simpa using hb) e) ho'' ⟨rfl, rfl, rfl⟩
      refine hgo i _ v _ _ hS' hP (hz.trans S₂.keep) ?_
      refine wpAny_mono (turn i v z' rs C mC _ _ hin hP hz hK' S₂ (fun p hp => .tail _ (.tail _ (List.mem_append_left _ hp)))) (fun _ s₂ h₂ => wpAny_mono h₂ (fun ok s₃ h₃ => ?_) fun _ _ x => x.elim) fun _ _ x => x.elim
      have stay : ∀ {z'' : Heap} {mC' : List (Str × Value)} {o₃ : Obj} {s₄ : Shared}, Sub z' z'' → St w z'' C mC' ((L, oL) :: (D, o₃) :: (mu ++ [(I, o'')])) s₀ s₄ → SI (i + 1) s₄.heap := fun {z'' mC' o₃ s₄} hz' S₄ => by
        refine W.W.frame _ _ _ hS' fun b hb o e => ?_
        rcases hfr b hb with rfl | ⟨ob, hob⟩
        · have e2 : o = o'' := Option.some.inj (e.symm.trans ho'')
          subst e2
          exact (S₄.mus (b, o) (.tail _ (.tail _ (List.mem_append_right _ (List.mem_singleton.mpr rfl))))).1
        · have e1 : h'.get? b = some ob := S₂.keep b ob (hz b ob hob)
          have e2 : o = ob := Option.some.inj (e.symm.trans e1)
          subst e2
          exact S₄.keep b _ (hz' _ _ (hz _ _ hob))
      refine ⟨fun hb => wpAny_mono (h₃.1 hb) (fun y s₄ h₄ => ?_) fun _ _ x => x.elim, fun hb => ?_⟩
      · obtain ⟨z'', mC', hz', hK'', S₄⟩ := h₄
        refine r_append S₄ 1 rfl hls (by omega) fun s₅ o₅ hl₅ S₅ => ?_
        exact ⟨n - (i + 1), by omega, i + 1, z'', _, mC', o₅, o'', rfl, hin, hz.trans hz', hK'', by simp; omega, hl₅, S₅, stay hz' S₅⟩
      · obtain ⟨z'', mC', hz', hK'', S₄⟩ := h₃.2 hb
        exact ⟨n - (i + 1), by omega, i + 1, z'', _, mC', o, o'', rfl, hin, hz.trans hz', hK'', by omega, hls, S₄, stay hz' S₄⟩
    · have hin' : i = n := by omega
      subst hin'
      refine W.W.done s₁ _ _ hS₁ (fun h' tk hkeep => ?_)
      exact done z' rs C D o mC oL _ hz hK' hrs hls hL (St.dropUpd (mu := (L, oL) :: (D, o) :: mu) S₁ (fun b ob hb e => hkeep b ob (by simpa using hb) e) ⟨rfl, rfl, rfl⟩)
  refine codeAny_compStart_list loop ?_
  exact W.W.self _ _ _ _ hI₃ loop

theorem St.swap {C : Addr} {mC : List (Str × Value)} {oL : Obj} (S : St w z C mC ((L, oL) :: mu) s₀ s) (hL : ∃ es ep, oL.data = .dict es ep ∧ StrKeys es ∧ ∀ name, nsFind es name = m.lookup name)
    (hb : ∃ b₀, TF w b₀ ∧ Sub b₀ z ∧ b₀.objs.size ≤ L) : ∃ oC, (∃ es ep, oC.data = .dict es ep ∧ StrKeys es ∧ ∀ name, nsFind es name = mC.lookup name) ∧ St w z L m ((C, oC) :: mu) s₀ s := by
  obtain ⟨es, ep, hd, hk, hf⟩ := hL
  obtain ⟨oC, es', ep', ho', hd', hk', hf'⟩ := S.ns
  have hm := S.mus (L, oL) (.head _)
  have hnd := S.nd
  rw [List.map_cons, List.nodup_cons] at hnd
  refine ⟨oC, ⟨es', ep', hd', hk', hf'⟩, ⟨oL, es, ep, hm.1, hd, hk, hf⟩, S.keep, hm.2.2, fun p hp => ?_, ?_, hb, S.same⟩
  · rcases List.mem_cons.mp hp with rfl | hp
    · exact ⟨ho', Ne.symm hm.2.1, S.off⟩
    · exact ⟨(S.mus p (.tail _ hp)).1, fun e => hnd.1 (show L ∈ mu.map (·.1) from (by rw [← e]; exact List.mem_map_of_mem hp)), (S.mus p (.tail _ hp)).2.2⟩
  · rw [List.map_cons, List.nodup_cons]
    refine ⟨fun q => ?_, hnd.2⟩
    obtain ⟨p, hp, e⟩ := List.mem_map.mp q
    exact (S.mus p (.tail _ hp)).2.1 e
theorem St.dropHead {a : Addr} {o : Obj} {s' : Shared} (S : St w z L m ((a, o) :: mu) s₀ s) (hs : Heap.ExtBut a s.heap s'.heap) (sm : Same s s') : St w z L m mu s₀ s' :=
  (S.perm (by simpa using (List.perm_append_comm (l₁ := [(a, o)]) (l₂ := mu)))).dropUpd hs sm

theorem compPost_none {D C : Addr} {mC : List (Str × Value)} {oL : Obj} {Q : Value → Shared → Prop} (S : St w z C mC ((L, oL) :: mu) s₀ s) (hL : ∃ es ep, oL.data = .dict es ep ∧ StrKeys es ∧ ∀ name, nsFind es name = m.lookup name)
    (hb : ∃ b₀, TF w b₀ ∧ Sub b₀ z ∧ b₀.objs.size ≤ L) (h : ∀ s', St w z L m mu s₀ s' → Q (.ref D) s') : compPost (model prog w) A E none Q (.ref D) C (.ok .next) s :=
  ⟨_, S.ns, fun h' hs => h _ (S.outer (L₀ := 0) hL hb hs.extBut ⟨rfl, rfl, rfl⟩)⟩
theorem compPost_assign {D C : Addr} {y : Str} {py : Pos} {mC : List (Str × Value)} {oL : Obj} {Q : Value → Shared → Prop} (S : St w z C mC ((L, oL) :: mu) s₀ s) (hL : ∃ es ep, oL.data = .dict es ep ∧ StrKeys es ∧ ∀ name, nsFind es name = m.lookup name)
    (hb : ∃ b₀, TF w b₀ ∧ Sub b₀ z ∧ b₀.objs.size ≤ L) (h : ∀ s', St w z L ((y, .ref D) :: m) mu s₀ s' → Q .none s')
    (hk : env.scope.kind = .function) (hy : env.kindOf y = some .local) (hLe : env.locals = L) : compPost (model prog w) A E (some (assign (.Name y py) env)) Q (.ref D) C (.ok .next) s := by
  obtain ⟨oC, ⟨es, ep, hd, hke, hf⟩, S'⟩ := S.swap hL hb
  show wpAny (model prog w) A (assign (.Name y py) env (.ref D)) _ E s
  refine wpAny_assign_Name (r_store S' (fun s'' S'' => ?_) hk hy hLe)
  exact ⟨_, ⟨oC, es, ep, (S''.mus (C, oC) (.head _)).1, hd, hke, hf⟩, fun h' hs => h _ (S''.dropHead hs.extBut ⟨rfl, rfl, rfl⟩)⟩

/-- from the iterator's value on -/
noncomputable def CompB (prog : Program) (w : World) (A : Around) (E : Value → Shared → Prop) (env : Env) (elt target iter : Expr) (ifs : List Expr) (scope : Scope) (cl : List (Str × Addr)) (pos : Pos) (use : Option (Value → Sem Unit)) (Q : Value → Shared → Prop) (it : Value) (s : Shared) : Prop :=
  wpAny (model prog w) A (newList []) (fun acc s₃ => wpAny (model prog w) A (newFunctionEnv scope env.globals cl [] env.qual none .none (some env)) (fun cenv s₄ =>
      codeAny (model prog w) A (.compStart (.ListComp elt [⟨target, iter, ifs, 0⟩] scope pos) 0 it acc { cenv with scope := relabel scope env }) (compPost (model prog w) A E use Q acc cenv.locals) s₄) E s₃) E s
theorem r_ListComp {elt target iter : Expr} {ifs : List Expr} {scope : Scope} {pos : Pos} {Q : Value → Shared → Prop} (cl : List (Str × Addr)) (hclos : closureFor scope env = pure cl)
    (h : wpAny (model prog w) A (eval iter env) (fun x s₁ => wpAny (model prog w) A (pyIter x) (CompB prog w A E env elt target iter ifs scope cl pos none Q) E s₁) E s)
    (hkind : scope.kind = .function := by rfl) (hnames : ∀ x ∈ scope.names, x.2 = .local → scope.names.lookup x.1 = some .local := by decide) (hs : ∀ x, foldedSetIterable iter env x = pure x := by intro _; rfl) :
    wpAny (model prog w) A (eval (.ListComp elt [⟨target, iter, ifs, 0⟩] scope pos) env) Q E s := by
  rw [eval_ListComp]
  exact wpAny_comprehension_free rfl hs hclos hkind hnames h
theorem r_AssignListComp {elt target iter : Expr} {ifs : List Expr} {scope : Scope} {pos spos py : Pos} {y : Str} {Q : Flow → Shared → Prop} (cl : List (Str × Addr)) (hclos : closureFor scope env = pure cl)
    (h : wpAny (model prog w) A (eval iter env) (fun x s₁ => wpAny (model prog w) A (pyIter x) (CompB prog w A E env elt target iter ifs scope cl pos (some (assign (.Name y py) env)) (fun _ s' => Q .next s')) E s₁) E s)
    (hsw : swapsWith (.ListComp elt [⟨target, iter, ifs, 0⟩] scope pos) (some (.Name y py)) spos.line env = pure true := by rfl)
    (hkind : scope.kind = .function := by rfl) (hnames : ∀ x ∈ scope.names, x.2 = .local → scope.names.lookup x.1 = some .local := by decide) (hs : ∀ x, foldedSetIterable iter env x = pure x := by intro _; rfl) :
    wpAny (model prog w) A (exec (.Assign [.Name y py] (.ListComp elt [⟨target, iter, ifs, 0⟩] scope pos) spos) env) Q E s := by
  rw [exec_Assign_Name_used _ _ _ _ hsw]
  refine wpAny_bind (wpAny_standAt (wpAny_bind ?_))
  show wpAny _ A (do let _ ← comprehension (.ListComp elt [⟨target, iter, ifs, 0⟩] scope pos) scope env _ (newList []) false (eval iter env) (some (assign (.Name y py) env))) _ _ s
  exact wpAny_bind (wpAny_mono (wpAny_comprehension_free (use := some (assign (.Name y py) env)) (Q := fun _ s' => Q .next s') rfl hs hclos hkind hnames h) (fun _ s' hq => wpAny_pure (wpAny_pure hq)) fun _ _ e => e)

/-- the turn of a comprehension: target, tests, element -/
noncomputable abbrev Turn (prog : Program) (w : World) (A : Around) (env : Env) (elt target : Expr) (ifs : List Expr) (scope : Scope) (cl : List (Str × Addr)) (s₀ : Shared) (z' : Heap) (C : Addr) (mu' : List (Addr × Obj)) (K : Heap → List Value → Prop) (rs : List Value) (v : Value) (s' : Shared) : Prop :=
  wpAny (model prog w) A (assign target (compEnvC scope cl C env) v) (fun _ s₂ =>
    wpAny (model prog w) A (forIn ifs true fun c r => if r = true then do let ok ← isTrue c (compEnvC scope cl C env) (eval c (compEnvC scope cl C env)); pure (ForInStep.yield ok) else pure (ForInStep.yield r)) (fun ok s₃ =>
      Br ok (wpAny (model prog w) A (eval elt (compEnvC scope cl C env)) (fun y s₄ => Ce w z' C mu' s₀ K (rs ++ [y]) s₄) (fun _ _ => False) s₃) (Ce w z' C mu' s₀ K rs s₃)) (fun _ _ => False) s₂) (fun _ _ => False) s'

/-- how the new list is handed on -/
noncomputable def Hand (prog : Program) (w : World) (A : Around) (E : Value → Shared → Prop) (L : Addr) (m : List (Str × Value)) (s₀ : Shared) (use : Option (Value → Sem Unit)) (Q : Value → Shared → Prop) (z : Heap) (D : Addr) (mu : List (Addr × Obj)) : Prop :=
  ∀ C mC oL s, (∃ es ep, oL.data = .dict es ep ∧ StrKeys es ∧ ∀ name, nsFind es name = m.lookup name) → (∃ b₀, TF w b₀ ∧ Sub b₀ z ∧ b₀.objs.size ≤ L) → St w z C mC ((L, oL) :: mu) s₀ s → compPost (model prog w) A E use Q (.ref D) C (.ok .next) s
theorem hand_none {Q : Value → Shared → Prop} {D : Addr} (h : ∀ s', St w z L m mu s₀ s' → Q (.ref D) s') : Hand prog w A E L m s₀ none Q z D mu := fun _ _ _ _ hL hb S => compPost_none S hL hb h
theorem hand_assign {y : Str} {py : Pos} {Q : Value → Shared → Prop} {D : Addr} (h : ∀ s', St w z L ((y, .ref D) :: m) mu s₀ s' → Q .none s')
    (hk : env.scope.kind = .function := by rfl) (hy : env.kindOf y = some .local := by rfl) (hLe : env.locals = L := by rfl) : Hand prog w A E L m s₀ (some (assign (.Name y py) env)) Q z D mu := fun _ _ _ _ hL hb S => compPost_assign S hL hb h hk hy hLe

theorem bot_up {z' : Heap} (S : St w z L m mu s₀ s) (k : Sub z z') : ∃ b₀, TF w b₀ ∧ Sub b₀ z' ∧ b₀.objs.size ≤ L := let ⟨b, t, x, y⟩ := S.bot; ⟨b, t, x.trans k, y⟩

theorem r_compList {elt iter : Expr} {x : Str} {px : Pos} {ifs : List Expr} {scope : Scope} {cl : List (Str × Addr)} {pos : Pos} {use : Option (Value → Sem Unit)} {Q : Value → Shared → Prop} {a : Addr} {its : List Value}
    (S : St w z L m mu s₀ s) (hh : A.handled = none) (hl : IsL z a its) (hn : its.length < 1000000) (K : Nat → Heap → List Value → Prop) (hK : K 0 z [])
    (turn : ∀ i v z' rs C m' mu' s', its[i]? = some v → Sub z z' → K i z' rs → St w z' C m' mu' s₀ s' → (∀ p ∈ mu, p ∈ mu') → Turn prog w A env elt (.Name x px) ifs scope cl s₀ z' C mu' (K (i + 1)) rs v s')
    (done : ∀ z' rs D o, Sub z z' → K its.length z' rs → rs.length ≤ its.length → LsO o rs → Hand prog w A E L m s₀ use Q z' D ((D, o) :: mu))
    (hcell : ∀ y ∈ scope.names, y.2 ≠ .cell := by decide) (hkind : scope.kind = .function := by rfl) :
    wpAny (model prog w) A (pyIter (.ref a)) (CompB prog w A E env elt (.Name x px) iter ifs scope cl pos use Q) E s := by
  have hls := (hl.up S.keep).isList
  have hne : a ≠ s.heap.objs.size := by obtain ⟨o, ho, _⟩ := hls; exact Nat.ne_of_lt (Heap.lt_size ho)
  refine wpAny_pyIter_list hls ?_
  have S' := S.pushEnd { cls := .type "list_iterator", data := .fields #[.ref a, .int 0 0] } (k := s.toks)
  have W := It.list (prog := prog) (w := w) (I := s.heap.objs.size) hh hne its.toArray
  have hsz : its.toArray.size = its.length := by simp
  rw [hsz] at W
  refine compBlk (RR := compPost (model prog w) A E use Q) W ?_ S' ⟨⟨_, Heap.get?_push_size _ rfl, rfl, rfl⟩, hls.push _⟩ hn (fun _ _ _ _ _ _ _ _ q => wpAny_pure q) hcell hkind K hK (fun i v z' rs C m' mu' s' hi hP hz hK' S₁ hmu => turn i v z' rs C m' mu' s' (by simpa using hP) hz hK' S₁ hmu)
    (fun z' rs C D o mC oL s' hz hK' hrs hls hL S₁ => done z' rs D o hz hK' hrs hls C mC oL s' hL (bot_up S hz) S₁)
  intro b hb
  rcases List.mem_cons.mp hb with rfl | hb
  · exact .inl rfl
  · rw [List.mem_singleton.mp hb]; obtain ⟨o, ho, _⟩ := hl; exact .inr ⟨o, ho⟩

/-- over pairs -/
theorem r_compPairs {elt iter : Expr} {elts : List Expr} {x1 : Nat} {px : Pos} {ifs : List Expr} {scope : Scope} {cl : List (Str × Addr)} {pos : Pos} {use : Option (Value → Sem Unit)} {Q : Value → Shared → Prop} {a : Addr} {its : List Value}
    (S : St w z L m mu s₀ s) (hh : A.handled = none) (hl : IsL z a its) (hn : its.length < 1000000) (hp : ∀ v ∈ its, ∃ T, v = .ref T) (K : Nat → Heap → List Value → Prop) (hK : K 0 z [])
    (turn : ∀ i v z' rs C m' mu' s', its[i]? = some v → Sub z z' → K i z' rs → St w z' C m' mu' s₀ s' → (∀ p ∈ mu, p ∈ mu') → Turn prog w A env elt (.Tuple elts x1 px) ifs scope cl s₀ z' C mu' (K (i + 1)) rs v s')
    (done : ∀ z' rs D o, Sub z z' → K its.length z' rs → rs.length ≤ its.length → LsO o rs → Hand prog w A E L m s₀ use Q z' D ((D, o) :: mu))
    (hcell : ∀ y ∈ scope.names, y.2 ≠ .cell := by decide) (hkind : scope.kind = .function := by rfl) :
    wpAny (model prog w) A (pyIter (.ref a)) (CompB prog w A E env elt (.Tuple elts x1 px) iter ifs scope cl pos use Q) E s := by
  have hls := (hl.up S.keep).isList
  have hne : a ≠ s.heap.objs.size := by obtain ⟨o, ho, _⟩ := hls; exact Nat.ne_of_lt (Heap.lt_size ho)
  refine wpAny_pyIter_list hls ?_
  have S' := S.pushEnd { cls := .type "list_iterator", data := .fields #[.ref a, .int 0 0] } (k := s.toks)
  have W := It.list (prog := prog) (w := w) (I := s.heap.objs.size) hh hne its.toArray
  have hsz : its.toArray.size = its.length := by simp
  rw [hsz] at W
  refine compBlk (RR := compPost (model prog w) A E use Q) W ?_ S' ⟨⟨_, Heap.get?_push_size _ rfl, rfl, rfl⟩, hls.push _⟩ hn (fun i s' v Q' E' hS hP _ q => ?_) hcell hkind K hK (fun i v z' rs C m' mu' s' hi hP hz hK' S₁ hmu => turn i v z' rs C m' mu' s' (by simpa using hP) hz hK' S₁ hmu)
    (fun z' rs C D o mC oL s' hz hK' hrs hls hL S₁ => done z' rs D o hz hK' hrs hls C mC oL s' hL (bot_up S hz) S₁)
  · intro b hb
    rcases List.mem_cons.mp hb with rfl | hb
    · exact .inl rfl
    · rw [List.mem_singleton.mp hb]; obtain ⟨o, ho, _⟩ := hl; exact .inr ⟨o, ho⟩
  · obtain ⟨T, rfl⟩ := hp v (List.mem_of_getElem? (by simpa using hP))
    exact wpAny_letOwnedTupleGo_listiter hS.1 q

theorem It.range {prog : Program} {w : World} {A : Around} (hh : A.handled = none) (I : Addr) (n : Nat) :
    It prog w A I [I] n (fun i v => ∃ t, v = .int i t) (fun i h => IsRangeIter h I ((0 : Int) + (i : Nat) * 1) ((n : Int) - (i : Nat)) 1) :=
  let W := Walks.range (prog := prog) (w := w) hh I 0 1 n
  ⟨⟨W.sub, W.frame, fun i s Q E hi st hQ => W.item i s Q E hi st fun v h' tk hP st' hk => hQ v h' tk (by obtain ⟨t, e⟩ := hP; exact ⟨t, by rw [e]; simp⟩) st' hk, W.done, W.self⟩, fun _ _ st => ⟨_, st⟩⟩
theorem range_small (n : Nat) (hn : n < 1000000) : Builtin.Range.small 0 n 1 = true ∧ Builtin.Range.rangeSize 0 n 1 = n := by
  have h2 : Builtin.Range.rangeSize 0 n 1 = n := by
    unfold Builtin.Range.rangeSize
    simp only [show (1 : Int) > 0 by decide, if_true]
    split <;> omega
  exact ⟨small_one (by decide) (by decide) (by omega) (by omega), h2⟩

/-- over range(n) -/
theorem r_compRange {elt iter : Expr} {x : Str} {px : Pos} {ifs : List Expr} {scope : Scope} {cl : List (Str × Addr)} {pos : Pos} {use : Option (Value → Sem Unit)} {Q : Value → Shared → Prop} {k : Int} {t : Tok} (n : Nat) (hk : k = n)
    (S : St w z L m mu s₀ s) (hh : A.handled = none) (hn : n < 1000000) (K : Nat → Heap → List Value → Prop) (hK : K 0 z [])
    (turn : ∀ i t z' rs C m' mu' s', i < n → Sub z z' → K i z' rs → St w z' C m' mu' s₀ s' → (∀ p ∈ mu, p ∈ mu') → Turn prog w A env elt (.Name x px) ifs scope cl s₀ z' C mu' (K (i + 1)) rs (.int (i : Nat) t) s')
    (done : ∀ z' rs D o, Sub z z' → K n z' rs → rs.length ≤ n → LsO o rs → Hand prog w A E L m s₀ use Q z' D ((D, o) :: mu))
    (hcell : ∀ y ∈ scope.names, y.2 ≠ .cell := by decide) (hkind : scope.kind = .function := by rfl) :
    wpAny (model prog w) A (call (.type "range") [.int k t]) (fun x₁ s₁ => wpAny (model prog w) A (pyIter x₁) (CompB prog w A E env elt (.Name x px) iter ifs scope cl pos use Q) E s₁) E s := by
  subst hk
  refine call_range_1 ?_
  have S₁ := S.push0 { cls := .type "range", data := .fields #[.int 0 s.toks, .int n t, .int 1 (s.toks + 1)] } (k := s.toks + 1 + 1)
  refine wpAny_pyIter_range (Heap.get?_push_size _ rfl) (range_small n hn).1 ?_
  rw [(range_small n hn).2]
  have S₂ := S₁.pushEnd { cls := .type "range_iterator", data := .fields #[rawInt 0, rawInt n, rawInt 1] } (k := s.toks + 1 + 1)
  refine compBlk (RR := compPost (model prog w) A E use Q) (It.range hh _ n) ?_ S₂ ?_ hn (fun _ _ _ _ _ _ _ _ q => wpAny_pure q) hcell hkind K hK (fun i v z' rs C m' mu' s' hi hP hz hK' S₁ hmu => ?_)
    (fun z' rs C D o mC oL s' hz hK' hrs hls hL S₁ => done z' rs D o hz hK' hrs hls C mC oL s' hL (bot_up S hz) S₁)
  · intro b hb; exact .inl (List.mem_singleton.mp hb)
  · show Heap.get? _ _ = _
    rw [Heap.get?_push_size _ rfl]
    simp
  · obtain ⟨t', rfl⟩ := hP
    exact turn i t' z' rs C m' mu' s' hi hz hK' S₁ hmu
theorem r_forRange {px : Pos} {x : Str} {body : List Stmt} {k : Int} {t : Tok} {Q : Flow → Shared → Prop} (n : Nat) (hk : k = n) (S : St w z L m mu s₀ s) (hh : A.handled = none) (hn : n < 1000000)
    (K : Nat → Heap → List (Str × Value) → List (Addr × Obj) → Prop) (hK : K 0 z m mu)
    (turn : ∀ i t z' m' mu' I o' s', i < n → Sub z z' → K i z' m' mu' → St w z' L m' (mu' ++ [(I, o')]) s₀ s' →
      wpAny (model prog w) A (assign (.Name x px) env (.int (i : Nat) t)) (fun _ s₂ => wpAny (model prog w) A (execs body env) (Fp w z' L [(I, o')] s₀ (K (i + 1)) Q) (fun _ _ => False) s₂) (fun _ _ => False) s')
    (done : ∀ z' m' mu' s', Sub z z' → K n z' m' mu' → St w z' L m' mu' s₀ s' → Q .next s') :
    wpAny (model prog w) A (call (.type "range") [.int k t]) (fun x₁ s₁ => wpAny (model prog w) A (pyIter x₁) (fun it s₂ => codeAny (model prog w) A (.forLoop (.Name x px) it body [] env) (fun r s' => match r with | .ok f => Q f s' | .error e => cameBackBy (model prog w) A env E e s') s₂) E s₁) E s := by
  subst hk
  refine call_range_1 ?_
  have S₁ := S.push0 { cls := .type "range", data := .fields #[.int 0 s.toks, .int n t, .int 1 (s.toks + 1)] } (k := s.toks + 1 + 1)
  refine wpAny_pyIter_range (Heap.get?_push_size _ rfl) (range_small n hn).1 ?_
  rw [(range_small n hn).2]
  have S₂ := S₁.pushEnd { cls := .type "range_iterator", data := .fields #[rawInt 0, rawInt n, rawInt 1] } (k := s.toks + 1 + 1)
  refine r_forLoop (It.range hh _ n) ?_ S₂ ?_ (fun _ _ _ _ _ _ _ _ q => wpAny_pure q) K hK (fun i v z' m' mu' o' s' hi hP hz hK' S₁ => ?_) done
  · intro b hb; exact .inl (List.mem_singleton.mp hb)
  · show Heap.get? _ _ = _
    rw [Heap.get?_push_size _ rfl]
    simp
  · obtain ⟨t', rfl⟩ := hP
    exact turn i t' z' m' mu' _ o' s' hi hz hK' S₁
end
end Mine
namespace Mine
open PySem PySem.W PySem.Calls PyProof.Rows

/-! ## slices, texts -/
/-- a text by its signs -/
noncomputable def tx (l : List Nat) : Str := ⟨l.toArray⟩
theorem tx_length (l : List Nat) : (tx l).length = l.length := by simp [tx, Str.length]
theorem tx_cps (l : List Nat) : (tx l).cps = l.toArray := rfl
theorem tx_append (a b : List Nat) : tx a ++ tx b = tx (a ++ b) := by
  show Str.mk (a.toArray ++ b.toArray) = _
  simp [tx]
theorem tx_inj {a b : List Nat} (h : tx a = tx b) : a = b := by
  have := congrArg (fun x : Str => x.cps.toList) h
  simpa [tx] using this
theorem tx_beq (a b : List Nat) : (tx a == tx b) = (a == b) := by
  rw [Bool.eq_iff_iff, beq_iff_eq, beq_iff_eq]
  exact ⟨tx_inj, congrArg tx⟩
theorem kx_eq : Str.ofString "=" = tx [61] := by decide +kernel
theorem kx_34CD : Str.ofString "34CD" = tx [51, 52, 67, 68] := by decide +kernel
theorem kx_3 : Str.ofString "3" = tx [51] := by decide +kernel
theorem kx_4 : Str.ofString "4" = tx [52] := by decide +kernel
theorem kx_C : Str.ofString "C" = tx [67] := by decide +kernel
theorem kx_D : Str.ofString "D" = tx [68] := by decide +kernel
theorem kx_e3D : Str.ofString "=3D" = tx [61, 51, 68] := by decide +kernel
theorem kx_end : Str.ofString "=3D44." = tx [61, 51, 68, 52, 52, 46] := by decide +kernel
theorem kx_hex : Str.ofString "0123456789ABCDEF" = tx [48, 49, 50, 51, 52, 53, 54, 55, 56, 57, 65, 66, 67, 68, 69, 70] := by decide +kernel
theorem kx_nil : Str.ofString "" = tx [] := by decide +kernel
theorem kx_nl : Str.ofString "\n" = tx [10] := by decide +kernel
theorem kx_crnl : Str.ofString "\r\n" = tx [13, 10] := by decide +kernel

section
variable {M : Model} {prog : Program} {w : World} {A : Around} {E : Value → Shared → Prop} {s s₀ : Shared} {z : Heap} {L a : Addr} {m : List (Str × Value)} {mu : List (Addr × Obj)} {env : Env} {o : Obj}

noncomputable abbrev slO (vl vu : Value) : Obj := { cls := .type "slice", data := .fields #[vl, vu, .none] }
/-- a slice object is made -/
noncomputable def NewSl (vl vu : Value) (Q : Value → Shared → Prop) (s : Shared) : Prop := Q (.ref s.heap.objs.size) { s with heap := s.heap.push (slO vl vu) }
theorem r_Slice {lower upper : Option Expr} {p : Pos} {Q : Value → Shared → Prop}
    (h : wpAny M A (evalPart lower env) (fun vl s₁ => wpAny M A (evalPart upper env) (fun vu s₂ => NewSl vl vu Q s₂) E s₁) E s) : wpAny M A (eval (.Slice lower upper none p) env) Q E s :=
  wpAny_Slice (wpAny_mono h (fun _ _ h₁ => wpAny_mono h₁ (fun _ _ h₂ => wpAny_pure h₂) fun _ _ e => e) fun _ _ e => e)
theorem r_newSl {vl vu : Value} {Q : Value → Shared → Prop} (S : St w z L m mu s₀ s) (h : ∀ b s', St w z L m ((b, slO vl vu) :: mu) s₀ s' → Q (.ref b) s') : NewSl vl vu Q s := h _ _ (S.push _)
/-- a cut of a list -/
theorem r_cutL {value slice : Expr} {its rs : List Value} {b : Addr} {vl vu : Value} {lo hi : Option Int} {Q : Value → Shared → Prop} (S : St w z L m ((b, slO vl vu) :: mu) s₀ s) (hl : IsL s.heap a its) (pl : IsPart vl lo) (pu : IsPart vu hi) (hn : its.length < 1000000)
    (hr : slicePick its.toArray lo hi none = rs.toArray) (h : ∀ c s' o, LsO o rs → St w z L m ((c, o) :: mu) s₀ s' → Q (.ref c) s')
    (hs : subscripted slice false (.ref a) (.ref b) = operate [.ref b, .ref a] (getItem (.ref a) (.ref b)) := by with_unfolding_all rfl) :
    wpAny (model prog w) A (subscriptTail value slice (.ref a) (.ref b)) Q E s := by
  refine tail_any hl.type slot_list_getitem.lookup (wpAny_getItem_list_slice hl.isList ⟨_, (S.mus _ (.head _)).1, rfl, rfl⟩ pl pu IsPart.none (by simp) ?_ (by rw [sizeLine_eq]; simp; omega)) hs
  rw [hr]
  have S' := S.push { cls := .type "list", data := .seq rs.toArray } (k := s.toks)
  exact h _ _ _ ⟨0, rfl⟩ (S'.drop (List.Sublist.cons_cons _ (List.Sublist.cons _ (List.Sublist.refl _))))
theorem pick_run (its : List Value) (p q : Nat) : slicePick its.toArray (some (p : Int)) (some (q : Int)) none = ((its.drop p).take (q - p)).toArray := by
  rw [slicePick_plain]
  simp only [Option.elim, clipAt_nat, List.size_toArray]
  congr 1
  by_cases hp : p ≤ its.length
  · rw [Nat.min_eq_left hp]
    by_cases hq : q ≤ its.length
    · rw [Nat.min_eq_left hq]
    · rw [Nat.min_eq_right (by omega), List.take_of_length_le (by rw [List.length_drop]; omega), List.take_of_length_le (by rw [List.length_drop]; omega)]
  · rw [List.drop_of_length_le (by omega), List.drop_of_length_le (by omega)]; simp
theorem pick_from (its : List Value) (p : Nat) : slicePick its.toArray (some (p : Int)) none none = (its.drop p).toArray := slicePick_from' its.toArray p
theorem pick_upto (its : List Value) (q : Nat) : slicePick its.toArray none (some (q : Int)) none = (its.take q).toArray := slicePick_upto' its.toArray q
theorem pick_butLast (its : List Value) (k : Nat) (hk : 1 ≤ k) : slicePick its.toArray none (some (-(k : Int))) none = (its.take (its.length - k)).toArray := by simpa using slicePick_butLast its.toArray k hk
theorem pick_last (its : List Value) (k : Nat) (hk : 1 ≤ k) : slicePick its.toArray (some (-(k : Int))) none none = (its.drop (its.length - k)).toArray := by simpa using slicePick_last its.toArray k hk

/-- texts -/
theorem r_eqS {x y : List Nat} {t u : Tok} {Q : Value → Shared → Prop} (h : Q (.bool (x == y)) s) : wpAny (model prog w) A (compareOp .Eq (.str (tx x) t) (.str (tx y) u)) Q E s := PyProof.Rows.eq_str (by rw [tx_beq]; exact h)
theorem r_neS {x y : List Nat} {t u : Tok} {Q : Value → Shared → Prop} (h : Q (.bool (x != y)) s) : wpAny (model prog w) A (compareOp .NotEq (.str (tx x) t) (.str (tx y) u)) Q E s := PyProof.Rows.ne_str (by
  have : (tx x != tx y) = (x != y) := by show (!(tx x == tx y)) = !(x == y); rw [tx_beq]
  rw [this]; exact h)
theorem r_addS {x y : List Nat} {t u : Tok} {Q : Value → Shared → Prop} (S : St w z L m mu s₀ s) (hn : x.length + y.length < 1000000) (h : ∀ t s', St w z L m mu s₀ s' → Q (.str (tx (x ++ y)) t) s') : wpAny (model prog w) A (binaryOp .Add (.str (tx x) t) (.str (tx y) u)) Q E s :=
  PyProof.Rows.add_str (fun t' tk => by rw [tx_append]; exact h _ _ (S.tok _)) (by rw [tx_length, tx_length, sizeLine_eq]; omega)
theorem r_iaddS {x y : List Nat} {t u : Tok} {Q : Value → Shared → Prop} (S : St w z L m mu s₀ s) (hn : x.length + y.length < 1000000) (h : ∀ t s', St w z L m mu s₀ s' → Q (.str (tx (x ++ y)) t) s') : wpAny (model prog w) A (inplaceOp .Add (.str (tx x) t) (.str (tx y) u)) Q E s :=
  PyProof.Rows.iadd_str (fun t' tk => by rw [tx_append]; exact h _ _ (S.tok _)) (by rw [tx_length, tx_length, sizeLine_eq]; omega)
theorem r_itemS {value slice : Expr} {x : List Nat} {i : Int} {t u : Tok} {c : Nat} {Q : Value → Shared → Prop} (S : St w z L m mu s₀ s) (k : Nat) (hi : i = k) (hf : k < 1000000) (hx : x[k]? = some c) (h : ∀ t s', St w z L m mu s₀ s' → Q (.str (tx [c]) t) s')
    (hs : subscripted slice false (.str (tx x) t) (.int i u) = operate [.str (tx x) t, .int i u] (getItem (.str (tx x) t) (.int i u)) := by with_unfolding_all rfl) :
    wpAny (model prog w) A (subscriptTail value slice (.str (tx x) t) (.int i u)) Q E s := by
  refine tail_any (typeIs_str s (tx x) t) F.slot_str_getitem.lookup (P.getItem_str ?_ ?_ (h _ _ (S.tok _))) hs
  · subst hi; simp; omega
  · subst hi
    have hk : k < x.length := (List.getElem?_eq_some_iff.mp hx).1
    rw [tx_length, seqIndex_of (by omega) (by omega)]
    simpa [tx] using hx
theorem r_strK {x : Str} {l : List Nat} {k : Nat} {pos : Pos} {Q : Value → Shared → Prop} (S : St w z L m mu s₀ s) (hx : x = tx l) (h : ∀ t s', St w z L m mu s₀ s' → Q (.str (tx l) t) s') : wpAny M A (eval (.Constant (.str x) k pos) env) Q E s := by
  subst hx; exact r_str S h
/-- one sign in a text -/
theorem found_tx (x : List Nat) (c : Nat) : (!(Builtin.Str.occurrences (tx x) (tx [c]) 0 (tx x).length 1).isEmpty) = x.contains c := by
  rw [show tx [c] = ⟨#[c]⟩ from rfl, StrLaws.found_one (tx x) c, Bool.eq_iff_iff]
  simp [tx]
  exact decide_eq_true_iff
theorem r_inS {x : List Nat} {c : Nat} {t u : Tok} {Q : Value → Shared → Prop} (h : Q (.bool (x.contains c)) s) : wpAny (model prog w) A (compareOp .In (.str (tx [c]) u) (.str (tx x) t)) Q E s :=
  PyProof.Rows.in_str (by rw [found_tx]; exact h)
theorem r_notInS {x : List Nat} {c : Nat} {t u : Tok} {Q : Value → Shared → Prop} (h : Q (.bool (!x.contains c)) s) : wpAny (model prog w) A (compareOp .NotIn (.str (tx [c]) u) (.str (tx x) t)) Q E s :=
  P.notIn_str (by rw [found_tx]; exact h)
theorem r_lenS {x : List Nat} {t : Tok} {Q : Value → Shared → Prop} (S : St w z L m mu s₀ s) (hn : x.length < 1000000)
    (h : ∀ t s', St w z L m mu s₀ s' → Q (.int x.length t) s') : wpAny (model prog w) A (call (.builtin "len") [.str (tx x) t]) Q E s :=
  PyProof.Rows.len_str (by rw [tx_length]; omega) (by rw [tx_length]; exact h _ _ (S.tok _))
theorem r_chr {i : Int} {t : Tok} {Q : Value → Shared → Prop} (S : St w z L m mu s₀ s) (c : Nat) (hi : i = c) (hc : c < 1000) (h : ∀ t s', St w z L m mu s₀ s' → Q (.str (tx [c]) t) s') : wpAny (model prog w) A (call (.builtin "chr") [.int i t]) Q E s :=
  P.chr_of_int (by subst hi; simp; omega) (by subst hi; exact h _ _ (S.tok _))
theorem r_And2 {x y : Expr} {rest : List Expr} {pos : Pos} {Q : Value → Shared → Prop} (h : wpAny M A (eval x env) (fun v s₁ => wpAny M A (truthy v) (fun b s₂ => Br b (wpAny M A (eval (.BoolOp .And (y :: rest) pos) env) Q E s₂) (Q v s₂)) E s₁) E s) :
    wpAny M A (eval (.BoolOp .And (x :: y :: rest) pos) env) Q E s := by
  show wpAny M A (do let v ← eval x env; standAt pos; let t ← holding [v] (truthy v); match BoolOp.And, t with | .And, false | .Or, true => pure v | _, _ => boolOp pos .And (evalEach (y :: rest) env)) Q E s
  refine wpAny_bind (wpAny_mono h (fun v s₁ h₁ => wpAny_bind (wpAny_standAt (wpAny_bind (wpAny_holding (wpAny_mono h₁ (fun b s₂ h₂ => ?_) fun _ _ e => e))))) fun _ _ e => e)
  cases b with
  | true => exact h₂.1 rfl
  | false => exact wpAny_pure (h₂.2 rfl)
theorem r_And1 {x : Expr} {pos : Pos} {Q : Value → Shared → Prop} (h : wpAny M A (eval x env) Q E s) : wpAny M A (eval (.BoolOp .And [x] pos) env) Q E s := h
theorem r_Or2 {x y : Expr} {rest : List Expr} {pos : Pos} {Q : Value → Shared → Prop} (h : wpAny M A (eval x env) (fun v s₁ => wpAny M A (truthy v) (fun b s₂ => Br b (Q v s₂) (wpAny M A (eval (.BoolOp .Or (y :: rest) pos) env) Q E s₂)) E s₁) E s) :
    wpAny M A (eval (.BoolOp .Or (x :: y :: rest) pos) env) Q E s := by
  show wpAny M A (do let v ← eval x env; standAt pos; let t ← holding [v] (truthy v); match BoolOp.Or, t with | .And, false | .Or, true => pure v | _, _ => boolOp pos .Or (evalEach (y :: rest) env)) Q E s
  refine wpAny_bind (wpAny_mono h (fun v s₁ h₁ => wpAny_bind (wpAny_standAt (wpAny_bind (wpAny_holding (wpAny_mono h₁ (fun b s₂ h₂ => ?_) fun _ _ e => e))))) fun _ _ e => e)
  cases b with
  | true => exact wpAny_pure (h₂.1 rfl)
  | false => exact h₂.2 rfl
theorem r_Or1 {x : Expr} {pos : Pos} {Q : Value → Shared → Prop} (h : wpAny M A (eval x env) Q E s) : wpAny M A (eval (.BoolOp .Or [x] pos) env) Q E s := h
/-- a list of the ledger is frozen -/
theorem St.freezeL {c : Addr} {rs : List Value} (S : St w z L m ((c, o) :: mu) s₀ s) (hl : LsO o rs) : ∃ z', Sub z z' ∧ St w z' L m mu s₀ s ∧ IsL z' c rs := by
  obtain ⟨z', h1, h2, h3⟩ := S.freeze (mu' := mu) (List.Sublist.cons _ (List.Sublist.refl _))
  have hm := S.mus (c, o) (.head _)
  have hnd := S.nd
  rw [List.map_cons, List.nodup_cons] at hnd
  exact ⟨z', h1, h2, o, h3 c o hm.1 hm.2.1 (fun p hp e => hnd.1 (show c ∈ mu.map (·.1) from (by rw [← e]; exact List.mem_map_of_mem hp))), hl⟩
/-- behind a call that turns nothing that stood: the new objects are frozen -/
theorem St.fresh {s' : Shared} (S : St w z L m mu s₀ s) (k : Sub s.heap s'.heap) (sm : Same s s') : ∃ z', Sub z z' ∧ St w z' L m mu s₀ s' ∧ (∀ b o, s.heap.get? b = none → s'.heap.get? b = some o → z'.get? b = some o) := by
  have hn : ∀ b o, z.get? b = some o → b ∉ (List.range s.heap.objs.size).filter (fun b => (s.heap.get? b).isSome && (z.get? b).isNone) := fun b o e q => by
    have := (List.mem_filter.mp q).2
    rw [e] at this
    simp at this
  have hin : ∀ b o, s.heap.get? b = some o → z.get? b = none → b ∈ (List.range s.heap.objs.size).filter (fun b => (s.heap.get? b).isSome && (z.get? b).isNone) := fun b o e q => List.mem_filter.mpr ⟨List.mem_range.mpr (Heap.lt_size e), by rw [e, q]; rfl⟩
  have hz : Sub z (hideAll s'.heap ((List.range s.heap.objs.size).filter (fun b => (s.heap.get? b).isSome && (z.get? b).isNone))) := fun b o e => hideAll_get _ (k _ _ (S.keep b o e)) (hn b o e)
  refine ⟨_, hz, S.growZ k sm hz (fun b o e => of_hideAll _ e) ?_ fun p hp => ?_, fun b o e e' => hideAll_get _ e' fun q => ?_⟩
  · obtain ⟨o, _, _, ho, _⟩ := S.ns
    exact hideAll_none _ (hin L o ho S.off)
  · exact hideAll_none _ (hin p.1 p.2 (S.mus p hp).1 (S.mus p hp).2.2)
  · have := (List.mem_filter.mp q).2
    rw [e] at this
    simp at this
theorem r_addL {b : Addr} {its its' : List Value} {Q : Value → Shared → Prop} (S : St w z L m mu s₀ s) (hl : IsL s.heap a its) (hb : IsL s.heap b its') (hn : its.length + its'.length < 1000000) (h : ∀ c s' o, LsO o (its ++ its') → St w z L m ((c, o) :: mu) s₀ s' → Q (.ref c) s') :
    wpAny (model prog w) A (binaryOp .Add (.ref a) (.ref b)) Q E s := by
  obtain ⟨n, e⟩ := hl.at
  obtain ⟨n', e'⟩ := hb.at
  refine P.add_list e e' ?_ (by rw [sizeLine_eq]; simp; omega)
  have S' := S.push { cls := .type "list", data := .seq (its ++ its').toArray } (k := s.toks)
  have := h _ _ _ ⟨0, rfl⟩ S'
  simpa using this
/-- a tuple, a list by their items -/
noncomputable def NewSq (T : String) (Q : Value → Shared → Prop) (vs : List Value) (s : Shared) : Prop := vs.length ≤ sizeLine ∧ Q (.ref s.heap.objs.size) { s with heap := s.heap.push { cls := .type T, data := .seq vs.toArray } }
theorem r_Tuple {elts : List Expr} {k : Nat} {pos : Pos} {Q : Value → Shared → Prop} (h : wpAny M A (spliced (backTo pos (starEach elts env))) (NewSq "tuple" Q) E s) : wpAny M A (eval (.Tuple elts k pos) env) Q E s := wpAny_Tuple h
theorem r_List {elts : List Expr} {pos : Pos} {Q : Value → Shared → Prop} (h : wpAny M A (spliced (backTo pos (starEach elts env))) (NewSq "list" Q) E s) : wpAny M A (eval (.List elts pos) env) Q E s := wpAny_List h
noncomputable abbrev tupO (vs : List Value) : Obj := { cls := .type "tuple", data := .seq vs.toArray }
theorem r_newTup {vs : List Value} {Q : Value → Shared → Prop} (S : St w z L m mu s₀ s) (hn : vs.length < 1000000) (h : ∀ b s', St w z L m ((b, tupO vs) :: mu) s₀ s' → Q (.ref b) s') : NewSq "tuple" Q vs s := ⟨by rw [sizeLine_eq]; omega, h _ _ (S.push _)⟩
theorem r_newLst {vs : List Value} {Q : Value → Shared → Prop} (S : St w z L m mu s₀ s) (hn : vs.length < 1000000) (h : ∀ b s' o, LsO o vs → St w z L m ((b, o) :: mu) s₀ s' → Q (.ref b) s') : NewSq "list" Q vs s := ⟨by rw [sizeLine_eq]; omega, h _ _ _ ⟨0, rfl⟩ (S.push _)⟩
end
end Mine
namespace Mine
open PySem PySem.W PySem.Calls PyProof.Rows
/-! ## two lists that go together, place by place -/
noncomputable def All2 {α β : Type} (F : α → β → Prop) (l : List α) (k : List β) : Prop := l.length = k.length ∧ ∀ (i : Nat) a b, l[i]? = some a → k[i]? = some b → F a b
theorem All2.get {α β : Type} {F : α → β → Prop} {l : List α} {k : List β} (x : All2 F l k) {i : Nat} {b : β} (h : k[i]? = some b) : ∃ a, l[i]? = some a ∧ F a b := by
  have hi : i < l.length := by rw [x.1]; exact (List.getElem?_eq_some_iff.mp h).1
  exact ⟨l[i], List.getElem?_eq_getElem hi, x.2 i _ _ (List.getElem?_eq_getElem hi) h⟩
theorem All2.set {α β : Type} {F : α → β → Prop} {l : List α} {k : List β} {a : α} {b : β} (x : All2 F l k) (i : Nat) (h : F a b) : All2 F (l.set i a) (k.set i b) := by
  refine ⟨by simp [x.1], fun j a' b' ha hb => ?_⟩
  rw [List.getElem?_set] at ha hb
  split at ha
  · rename_i e
    subst e
    rw [if_pos rfl] at hb
    split at ha
    · cases ha
      split at hb
      · cases hb; exact h
      · cases hb
    · cases ha
  · rename_i e
    rw [if_neg e] at hb
    exact x.2 j a' b' ha hb
theorem All2.append {α β : Type} {F : α → β → Prop} {l l' : List α} {k k' : List β} (x : All2 F l k) (y : All2 F l' k') : All2 F (l ++ l') (k ++ k') := by
  refine ⟨by simp [x.1, y.1], fun i a b ha hb => ?_⟩
  rw [List.getElem?_append] at ha hb
  split at ha
  · rename_i e
    rw [if_pos (by rw [← x.1]; exact e)] at hb
    exact x.2 i a b ha hb
  · rename_i e
    rw [if_neg (by rw [← x.1]; exact e), ← x.1] at hb
    exact y.2 _ a b ha hb
theorem All2.one {α β : Type} {F : α → β → Prop} {a : α} {b : β} (h : F a b) : All2 F [a] [b] := by
  refine ⟨rfl, fun i a' b' ha hb => ?_⟩
  cases i with
  | zero => cases ha; cases hb; exact h
  | succ i => cases ha
theorem All2.append1 {α β : Type} {F : α → β → Prop} {l : List α} {k : List β} {a : α} {b : β} (x : All2 F l k) (h : F a b) : All2 F (l ++ [a]) (k ++ [b]) := x.append (.one h)
theorem All2.take {α β : Type} {F : α → β → Prop} {l : List α} {k : List β} (x : All2 F l k) (n : Nat) : All2 F (l.take n) (k.take n) := by
  refine ⟨by simp [x.1], fun i a b ha hb => ?_⟩
  rw [List.getElem?_take] at ha hb
  split at ha
  · rename_i e; rw [if_pos e] at hb; exact x.2 i a b ha hb
  · cases ha
theorem All2.drop {α β : Type} {F : α → β → Prop} {l : List α} {k : List β} (x : All2 F l k) (n : Nat) : All2 F (l.drop n) (k.drop n) := by
  refine ⟨by simp [x.1], fun i a b ha hb => ?_⟩
  rw [List.getElem?_drop] at ha hb
  exact x.2 _ a b ha hb
theorem All2.mono {α β : Type} {F G : α → β → Prop} {l : List α} {k : List β} (x : All2 F l k) (h : ∀ a b, F a b → G a b) : All2 G l k := ⟨x.1, fun i a b ha hb => h _ _ (x.2 i a b ha hb)⟩


/-! ## lending objects to a callee; fields; dicts with int keys -/
/-- what a callee gets: a heap that stays, objects that may turn -/
structure Led (w : World) (z : Heap) (mu : List (Addr × Obj)) (s : Shared) : Prop where
  top : TF w z
  keep : Sub z s.heap
  mus : ∀ p ∈ mu, s.heap.get? p.1 = some p.2 ∧ z.get? p.1 = none
  nd : (mu.map (·.1)).Nodup
section
variable {w : World} {z z' : Heap} {L a : Addr} {m : List (Str × Value)} {mu mu' muP muR : List (Addr × Obj)} {o o' : Obj} {s₀ s s' : Shared}
theorem St.led (S : St w z L m mu s₀ s) : Led w z mu s := ⟨S.topz, S.keep, fun p hp => ⟨(S.mus p hp).1, (S.mus p hp).2.2⟩, S.nd⟩
theorem St.subLend (S : St w z L m (muP ++ muR) s₀ s) : Sub z (hideAll s.heap (muP.map (·.1))) := fun b ob e => hideAll_get _ (S.keep b ob e) (fun q => by
  obtain ⟨p, hp, rfl⟩ := List.mem_map.mp q
  rw [(S.mus p (List.mem_append_left _ hp)).2.2] at e; cases e)
theorem St.lend (S : St w z L m (muP ++ muR) s₀ s) : Led w (hideAll s.heap (muP.map (·.1))) muP s :=
  ⟨S.topz.up S.subLend, fun b ob e => of_hideAll _ e, fun p hp => ⟨(S.mus p (List.mem_append_left _ hp)).1, hideAll_none _ (List.mem_map_of_mem hp)⟩, by
    have := S.nd; rw [List.map_append] at this; exact (List.nodup_append.mp this).1⟩
theorem St.back (S : St w z L m (muP ++ muR) s₀ s) (D : Led w (hideAll s.heap (muP.map (·.1))) mu' s') (sm : Same s s') : St w z L m (mu' ++ muR) s₀ s' := by
  have hnd := S.nd
  rw [List.map_append, List.nodup_append] at hnd
  have hR : ∀ q ∈ muR, (hideAll s.heap (muP.map (·.1))).get? q.1 = some q.2 := fun q hq => hideAll_get _ (S.mus q (List.mem_append_right _ hq)).1 (fun e => hnd.2.2 _ e _ (List.mem_map_of_mem hq) rfl)
  have hLm : L ∉ muP.map (·.1) := fun e => by
    obtain ⟨p, hp, e'⟩ := List.mem_map.mp e
    exact (S.mus p (List.mem_append_left _ hp)).2.1 e'
  obtain ⟨oL, es, ep, hoL, hdat, hkk, hf⟩ := S.ns
  have hL := hideAll_get _ hoL hLm
  refine ⟨⟨oL, es, ep, D.keep _ _ hL, hdat, hkk, hf⟩, S.subLend.trans D.keep, S.off, fun p hp => ?_, ?_, S.bot, S.same.trans sm⟩
  · rcases List.mem_append.mp hp with hp | hp
    · refine ⟨(D.mus p hp).1, fun e => ?_, ?_⟩
      · have := (D.mus p hp).2; rw [e, hL] at this; cases this
      · cases q : z.get? p.1 with
        | none => rfl
        | some ob => have := (D.mus p hp).2; rw [S.subLend _ _ q] at this; cases this
    · exact ⟨D.keep _ _ (hR p hp), (S.mus p (List.mem_append_right _ hp)).2⟩
  · rw [List.map_append, List.nodup_append]
    refine ⟨D.nd, hnd.2.1, fun x hx y hy e => ?_⟩
    obtain ⟨p, hp, rfl⟩ := List.mem_map.mp hx
    obtain ⟨q, hq, rfl⟩ := List.mem_map.mp hy
    have := (D.mus p hp).2
    rw [e, hR q hq] at this; cases this
/-- the ledger as the kit's lists of news -/
theorem St.viaNews (S : St w z L m mu s₀ s) (i : Nat) (hi : mu[i]? = some (a, o)) : ∃ b₀ pre post, (hd.heap_1 w.params).In b₀ ∧ Fr b₀ L s.heap (fun x => m.lookup x) ∧ News b₀ L s.heap (pre ++ (a, o) :: post) ∧ (∀ p ∈ pre, p.1 ≠ a) ∧ (∀ p ∈ post, p.1 ≠ a) ∧
    ∀ h' o' k, Fr b₀ L h' (fun x => m.lookup x) → News b₀ L h' (pre ++ (a, o') :: post) → St w z L m (mu.set i (a, o')) s₀ { s with heap := h', toks := k } := by
  obtain ⟨b₀, T, hb, hsz⟩ := S.bot
  have ha := S.mus _ (List.mem_of_getElem? hi)
  let rest := (List.range s.heap.objs.size).filterMap fun b => if b = L ∨ b = a then none else match b₀.get? b with | some _ => none | none => (s.heap.get? b).map fun o => (b, o)
  have hrest : ∀ p ∈ rest, s.heap.get? p.1 = some p.2 ∧ p.1 ≠ L ∧ p.1 ≠ a ∧ b₀.get? p.1 = none := fun p hp => by
    obtain ⟨b, _, e⟩ := List.mem_filterMap.mp hp
    split at e
    · cases e
    · rename_i hne
      split at e
      · cases e
      · rename_i hb0
        obtain ⟨o, ho, rfl⟩ := Option.map_eq_some_iff.mp e
        exact ⟨ho, fun e => hne (.inl e), fun e => hne (.inr e), hb0⟩
  have hall : ∀ b ob, s.heap.get? b = some ob → b ≠ L → b ≠ a → b₀.get? b = some ob ∨ (b, ob) ∈ rest := fun b ob hob h1 h2 => by
    cases q : b₀.get? b with
    | some o2 => exact .inl ((hb.trans S.keep b o2 q).symm.trans hob ▸ rfl)
    | none =>
      refine .inr (List.mem_filterMap.mpr ⟨b, List.mem_range.mpr (Heap.lt_size hob), ?_⟩)
      rw [if_neg (by simp [h1, h2]), q, hob]; rfl
  have hb0a : b₀.get? a = none := by
    cases q : b₀.get? a with
    | none => rfl
    | some o2 => have := hb _ _ q; rw [ha.2.2] at this; cases this
  refine ⟨b₀, [], rest, T.K, ⟨S.ns, hb.trans S.keep, hsz⟩, fun p hp => ?_, fun p hp => by simp at hp, fun p hp => (hrest p hp).2.2.1, fun h' o' k F' N' => ?_⟩
  · rcases List.mem_cons.mp hp with rfl | hp
    · exact ⟨ha.1, ha.2.1, hb0a⟩
    · exact ⟨(hrest p hp).1, (hrest p hp).2.1, (hrest p hp).2.2.2⟩
  · have hkeep : ∀ b ob, s.heap.get? b = some ob → b ≠ L → b ≠ a → h'.get? b = some ob := fun b ob hob h1 h2 => by
      rcases hall b ob hob h1 h2 with q | q
      · exact F'.keep b ob q
      · exact (N' (b, ob) (.tail _ q)).1
    have S' := S.mus
    refine ⟨F'.ns, fun b ob e => hkeep b ob (S.keep b ob e) (fun q => by rw [q, S.off] at e; cases e) (fun q => by rw [q, ha.2.2] at e; cases e), S.off, fun p hp => ?_, ?_, S.bot, ⟨S.same.1, S.same.2, S.same.3⟩⟩
    · obtain ⟨j, hj, e⟩ := List.mem_iff_getElem.mp hp
      have e' : (mu.set i (a, o'))[j]? = some p := by rw [List.getElem?_eq_getElem hj, e]
      rw [List.getElem?_set] at e'
      split at e'
      · split at e'
        · cases e'; exact ⟨(N' (a, o') (.head _)).1, ha.2⟩
        · cases e'
      · rename_i hij
        have hp' := S.mus p (List.mem_of_getElem? e')
        refine ⟨hkeep _ _ hp'.1 hp'.2.1 (fun q => ?_), hp'.2⟩
        exact hij (nodup_at S.nd hi (o' := p.2) (by rw [e', ← q]))
    · have : (mu.set i (a, o')).map (·.1) = mu.map (·.1) := by
        rw [List.map_set]
        refine List.ext_getElem? fun j => ?_
        rw [List.getElem?_set]
        split
        · rename_i e; subst e
          rw [List.getElem?_map, hi]
          have : i < (mu.map (·.1)).length := by rw [List.length_map]; exact (List.getElem?_eq_some_iff.mp hi).1
          simp at this
          simp [this]
        · rfl
      rw [this]; exact S.nd
theorem St.fr (S : St w z L m mu s₀ s) : ∃ b₀, (hd.heap_1 w.params).In b₀ ∧ Fr b₀ L s.heap (fun x => m.lookup x) := let ⟨b₀, T, hb, hsz⟩ := S.bot; ⟨b₀, T.K, S.ns, hb.trans S.keep, hsz⟩
end

section
variable {prog : Program} {w : World} {A : Around} {s : Shared}
theorem enter_led {R : Result → Shared → Prop} {name qual : Str} {params : Arguments} {body : List Stmt} {scope : Scope} {dV kV doc pm cdv ct oc : Value} {an od : Option Addr} {osl : Array (Option Value)} {f : Addr} {args : Args} {binds : List (Str × Value)} {z : Heap} {mu : List (Addr × Obj)} {n : Nat}
    (D : Led w z mu s) (hA : Lo n A) (hn : n ≤ 100)
    (ho : (hd.heap_1 w.params).lookup f = some ⟨oc, od, .func (fnOf name qual params body scope dV kV doc pm an cdv ct), osl⟩) (hcd : codeIn (hd.heap_1 w.params) cdv qual = true)
    (hbind : BindsTo s (fnOf name qual params body scope dV kV doc pm an cdv ct) args binds)
    (h : ∀ L A' s₁, St w z L binds.reverse mu s s₁ → Lo (n + 1) A' →
      wpAny (model prog w) A' (execs body (envOf qual scope L f cdv))
        (fun fl s' => R (.ok (.ret (match fl with | .ret v => v | _ => .none))) s') (fun _ _ => False) s₁)
    (hloc : (binds.all fun x => decide (scope.names.lookup x.1 = some .local)) = true)
    (hcell : ∀ x ∈ scope.names, x.2 ≠ .cell)
    (hco : scope.isCoroutine = false) (hgen : scope.isGenerator = false) (hk : scope.kind = .function) : codeAny (model prog w) A (.call (.ref f) args) R s :=
  enter D.top D.keep D.mus D.nd hA hn ho hcd hbind (fun L A' s₁ _ _ S hA' => h L A' s₁ S hA') hloc hcell hco hgen hk
end

section
variable {prog : Program} {w : World} {A : Around} {E : Value → Shared → Prop} {s s₀ : Shared} {z : Heap} {L : Addr} {m : List (Str × Value)} {mu : List (Addr × Obj)} {env : Env}
theorem Lo.under {n : Nat} (x : Lo n A) (C : Addr) (rest : List Value) (kw : List (Str × Value)) : Lo (n + 1) (A.under (.builtin "type.__call__" ⟨.ref C :: rest, kw⟩)) :=
  ⟨x.1, by have := x.2.1; rw [depth_under_kw]; omega, by
    have := x.2.2
    have e : (A.under (.builtin "type.__call__" ⟨.ref C :: rest, kw⟩)).units = A.units + (1 + 3 * (Code.builtin "type.__call__" ⟨.ref C :: rest, kw⟩).frames) := rfl
    have e2 : (Code.builtin "type.__call__" ⟨.ref C :: rest, kw⟩).frames ≤ 1 := by
      have : (Code.builtin "type.__call__" ⟨.ref C :: rest, kw⟩).frames = if (Code.builtin "type.__call__" ⟨.ref C :: rest, kw⟩).isFrame then 1 else 0 := rfl
      rw [this]; split <;> omega
    rw [e]; omega⟩
theorem r_cwC {pos : Pos} {C : Addr} {args : List Expr} {Q : Value → Shared → Prop} (_S : St w z L m mu s₀ s) (hk : keepIn (hd.heap_1 w.params) (.ref C) = true)
    (h : wpAny (model prog w) A (spliced (backTo pos (starEach args env))) (fun vs s₁ => TF w s₁.heap ∧ wpAny (model prog w) A (call (.ref C) vs) Q E s₁) E s) (hs : (starEach args env).all (fun x => !x.1) = true := by rfl) :
    wpAny (model prog w) A (callWith pos (.ref C) [] (backTo pos (starEach args env)) []) Q E s :=
  callWith_of (P := (hd.heap_1 w.params).In) (by rw [backTo_any hs]; rfl) (keeps_K hk) (r_args (wpAny_mono h (fun vs s₁ x => ⟨x.1.K, x.2⟩) fun _ _ x => x) hs)
/-- an object of a class is made -/
theorem r_make {C fI : Addr} {rest : List Value} {Q : Value → Shared → Prop} (S : St w z L m mu s₀ s) (hm : makesIn (hd.heap_1 w.params) C = true) (hi : findIn (hd.heap_1 w.params) (.ref C) "__init__" = some (some (.ref fI))) (hf : isFn (hd.heap_1 w.params) (.ref fI) = true)
    (h : ∀ x dx s', St w z L m ((x, instObj C dx) :: (dx, dictOf [] 0) :: mu) s₀ s' → codeAny (model prog w) (A.under (.builtin "type.__call__" ⟨.ref C :: rest, []⟩)) (.call (.ref fI) ⟨.ref x :: rest, []⟩) (InitBack x fun r s' => match r with | .ok (.ret v) => Q v s' | .ok _ => False | .error e => E e s') s') :
    wpAny (model prog w) A (call (.ref C) rest) Q E s := by
  have X := S.top.K
  refine wpAny_call ?_
  obtain ⟨hh, g, d, t, os⟩ := s
  have S' := (S.push (dictOf [] 0) (k := t)).push (instObj C hh.objs.size) (k := t)
  rw [show (hh.push (dictOf [] 0)).objs.size = hh.objs.size + 1 from Heap.size_push _ _] at S'
  exact make_core (makes_of X hm) (looks_findIn X hi) (fun self => bind_fn X self (beq_iff_eq.mp hf)) (.inl rfl) (h _ _ _ S')
end

/-! ## fields in the dict of such an object -/
noncomputable def AtO (o : Obj) (as : List (Str × Value)) : Prop := ∃ es n, o = dictOf es n ∧ All2 (fun (e : DictEntry) (p : Str × Value) => ∃ t, e.key = .str p.1 t ∧ e.val = p.2) es as
noncomputable def putA (name : Str) (v : Value) : List (Str × Value) → List (Str × Value)
  | [] => [(name, v)]
  | p :: r => if p.1 == name then (p.1, v) :: r else p :: putA name v r
theorem All2.cons_inv {α β : Type} {F : α → β → Prop} {a : α} {b : β} {l : List α} {k : List β} (x : All2 F (a :: l) (b :: k)) : F a b ∧ All2 F l k :=
  ⟨x.2 0 a b rfl rfl, by simpa using x.1, fun i a' b' ha hb => x.2 (i + 1) a' b' ha hb⟩
theorem All2.cons {α β : Type} {F : α → β → Prop} {a : α} {b : β} {l : List α} {k : List β} (x : F a b) (y : All2 F l k) : All2 F (a :: l) (b :: k) := by
  have := (All2.one x).append y
  simpa using this
theorem All2.nil {α β : Type} {F : α → β → Prop} : All2 F [] [] := ⟨rfl, fun i a b ha => by simp at ha⟩
theorem isStr_str (x name : Str) (t : Tok) : (Value.str x t).isStr name = (x == name) := rfl
theorem attrs_getL {es : List DictEntry} {as : List (Str × Value)} (h : All2 (fun (e : DictEntry) (p : Str × Value) => ∃ t, e.key = .str p.1 t ∧ e.val = p.2) es as) (name : Str) : getL name es = some (as.lookup name) := by
  have key : (es.find? (·.key.isStr name)).map (·.val) = as.lookup name ∧ es.any (·.refKey) = false := by
    induction es generalizing as with
    | nil =>
      cases as with
      | nil => exact ⟨rfl, rfl⟩
      | cons => cases h.1
    | cons e r ih =>
      cases as with
      | nil => cases h.1
      | cons p q =>
        obtain ⟨⟨t, hk, hv⟩, hr⟩ := h.cons_inv
        obtain ⟨i1, i2⟩ := ih hr
        obtain ⟨x, v⟩ := p
        have hkey : e.key.isStr name = (x == name) := by rw [hk]; rfl
        refine ⟨?_, ?_⟩
        · rw [List.find?_cons, hkey, List.lookup_cons]
          by_cases q : x = name
          · subst q; simp at hv ⊢; exact hv
          · have q1 : (x == name) = false := by simpa using q
            have q2 : (name == x) = false := by simpa using Ne.symm q
            rw [q1, q2]; exact i1
        · rw [List.any_cons, i2, Bool.or_false]
          show DictEntry.refKey e = false
          unfold DictEntry.refKey
          rw [hk]
  unfold getL
  cases q : es.find? (·.key.isStr name) with
  | some e => rw [q] at key; rw [← key.1]; rfl
  | none => rw [q] at key; rw [← key.1, key.2]; rfl
theorem attrs_putL {es : List DictEntry} {as : List (Str × Value)} (h : All2 (fun (e : DictEntry) (p : Str × Value) => ∃ t, e.key = .str p.1 t ∧ e.val = p.2) es as) (name : Str) (hsh : Int) (t : Tok) (v : Value) :
    All2 (fun (e : DictEntry) (p : Str × Value) => ∃ t, e.key = .str p.1 t ∧ e.val = p.2) (putL name hsh (.str name t) v es) (putA name v as) := by
  induction es generalizing as with
  | nil =>
    cases as with
    | nil => exact All2.one ⟨t, rfl, rfl⟩
    | cons => cases h.1
  | cons e r ih =>
    cases as with
    | nil => cases h.1
    | cons p q =>
      obtain ⟨⟨u, hk, hv⟩, hr⟩ := h.cons_inv
      have hkey : e.key.isStr name = (p.1 == name) := by rw [hk]; rfl
      show All2 _ (if e.key.isStr name then ⟨e.hash, e.key, v⟩ :: r else e :: putL name hsh (.str name t) v r) (if p.1 == name then (p.1, v) :: q else p :: putA name v q)
      rw [hkey]
      split
      · exact All2.cons ⟨u, hk, rfl⟩ hr
      · exact All2.cons ⟨u, hk, hv⟩ (ih hr)
theorem putA_length (name : Str) (v : Value) (as : List (Str × Value)) : (putA name v as).length ≤ as.length + 1 := by
  induction as with
  | nil => exact Nat.le_refl _
  | cons p r ih => unfold putA; split <;> simp; omega

section
variable {prog : Program} {w : World} {A : Around} {E : Value → Shared → Prop} {s s₀ : Shared} {z : Heap} {L a x dx C : Addr} {m : List (Str × Value)} {mu : List (Addr × Obj)} {env : Env} {o : Obj} {as : List (Str × Value)} {name : Str} {v : Value}
theorem r_getD {expr : Bool} {attr : Option Value} {Q : Value → Shared → Prop} (S : St w z L m mu s₀ s) (hx : s.heap.get? x = some (instObj C dx)) (ho : s.heap.get? dx = some o) (ha : AtO o as) (hv : as.lookup name = some v) (hh : handedIn v = true)
    (hg : plainGet (hd.heap_1 w.params) C name = true) (hdc : hasDictIn (hd.heap_1 w.params) C = true) (hf : findIn (hd.heap_1 w.params) (.ref C) name = some attr) (hn : noGet (hd.heap_1 w.params) attr = true)
    (h : ∀ s', St w z L m mu s₀ s' → Q v s') : wpAny (model prog w) A (getAttr (.ref x) name expr) Q E s := by
  obtain ⟨es, n, rfl, he⟩ := ha
  obtain ⟨b₀, X₀, F⟩ := S.fr
  exact get_own F X₀ ⟨hx, rfl, rfl, ho⟩ hg hdc hf hn (by rw [attrs_getL he, hv]) hh (h _ (S.tok _))
theorem r_setD {Q : Unit → Shared → Prop} (S : St w z L m mu s₀ s) (i : Nat) (hi : mu[i]? = some (dx, o)) (hx : s.heap.get? x = some (instObj C dx)) (ha : AtO o as) (hz : as.length < 900)
    (hs : findIn (hd.heap_1 w.params) (.ref C) "__setattr__" = some (some (.builtin "object.__setattr__"))) (hp : plainOver (hd.heap_1 w.params) C = true) (ht : takerIn (hd.heap_1 w.params) C name = some none) (hh : hasDictIn (hd.heap_1 w.params) C = true)
    (h : ∀ s' o', AtO o' (putA name v as) → St w z L m (mu.set i (dx, o')) s₀ s' → Q () s') : wpAny (model prog w) A (setAttr (.ref x) name v) Q E s := by
  obtain ⟨es, n, rfl, he⟩ := ha
  obtain ⟨b₀, pre, post, X₀, F, N, h1, h2, hback⟩ := S.viaNews i hi
  have I : InstAt s.heap x (instObj C dx) C (some (dictOf es n)) := ⟨hx, rfl, rfl, S.get i hi⟩
  refine set_plain (X₀.keeps F.keep) I hs (osa_dict (s := { s with toks := s.toks + 1 }) F N (X₀.keeps F.keep) I rfl hp ht hh (by rw [lookIn_dict, attrs_getL he]; rfl) h1 h2 (putName_dict _ _ _ _ _ _) rfl ?_ fun h' F' N' => ?_)
  · have e1 := (attrs_putL he name (PyData.keyHash w.params name) (s.toks + 1) v).1
    have e2 := putA_length name v as
    show (putL name (PyData.keyHash w.params name) (.str name (s.toks + 1)) v es).length ≤ 1000
    omega
  · exact h _ _ ⟨_, _, rfl, attrs_putL he name _ _ v⟩ (hback h' _ _ F' N')
/-- a method of the class of such an object -/
theorem r_instMethod {pl : Sem Bool} {f : Addr} {Q : Value × List Value → Shared → Prop} (S : St w z L m mu s₀ s) (hx : s.heap.get? x = some (instObj C dx)) (ho : s.heap.get? dx = some o) (ha : AtO o as) (hv : as.lookup name = none)
    (hg : plainGet (hd.heap_1 w.params) C name = true) (hf : findIn (hd.heap_1 w.params) (.ref C) name = some (some (.ref f))) (ht : isFn (hd.heap_1 w.params) (.ref f) = true)
    (h : Q (.ref f, [.ref x]) s) : wpAny (model prog w) A (getMethod (.ref x) name pl) Q E s := by
  obtain ⟨es, n, rfl, he⟩ := ha
  obtain ⟨b₀, X₀, F⟩ := S.fr
  exact method_inst F X₀ ⟨hx, rfl, rfl, ho⟩ hg hf ht (by rw [attrs_getL he, hv]) h
/-- slots -/
theorem r_getSlot {expr : Bool} {p : Addr} {k : Nat} {sl : Array (Option Value)} {Q : Value → Shared → Prop} (S : St w z L m mu s₀ s) (hx : s.heap.get? x = some ⟨.ref C, some dx, .plain, sl⟩) (ho : s.heap.get? dx = some o) (hv : (sl[k]?).join = some v) (hh : handedIn v = true)
    (hg : plainGet (hd.heap_1 w.params) C name = true) (hc : isClsIn (hd.heap_1 w.params) C = true) (ha : findIn (hd.heap_1 w.params) (.ref C) name = some (some (.ref p))) (hn : specialIn (hd.heap_1 w.params) (.ref p) "__get__" = some (some (.builtin "member_descriptor.__get__"))) (ht : takesIn (hd.heap_1 w.params) (.ref p) = some true) (hp : slotIn (hd.heap_1 w.params) p C = some k)
    (h : ∀ s', St w z L m mu s₀ s' → Q v s') : wpAny (model prog w) A (getAttr (.ref x) name expr) Q E s := by
  obtain ⟨b₀, X₀, F⟩ := S.fr
  exact get_slot F X₀ ⟨hx, rfl, rfl, ho⟩ hg hc ha hn ht hp hv hh (h _ (S.tok _))
theorem r_setSlot {p : Addr} {k : Nat} {sl : Array (Option Value)} {Q : Unit → Shared → Prop} (S : St w z L m mu s₀ s) (i : Nat) (hi : mu[i]? = some (x, ⟨.ref C, some dx, .plain, sl⟩)) (ho : s.heap.get? dx = some o) 
    (hs : findIn (hd.heap_1 w.params) (.ref C) "__setattr__" = some (some (.builtin "object.__setattr__"))) (hp : plainOver (hd.heap_1 w.params) C = true) (ht : takerIn (hd.heap_1 w.params) C name = some (some (.ref p))) (hT : typeIn (hd.heap_1 w.params) (.ref p) = some (.type "member_descriptor")) (hk : slotIn (hd.heap_1 w.params) p C = some k) (hz : k < 1000)
    (h : ∀ s', St w z L m (mu.set i (x, ⟨.ref C, some dx, .plain, (sl ++ Array.replicate (k + 1 - sl.size) none).setIfInBounds k (some v)⟩)) s₀ s' → Q () s') : wpAny (model prog w) A (setAttr (.ref x) name v) Q E s := by
  obtain ⟨b₀, pre, post, X₀, F, N, h1, h2, hback⟩ := S.viaNews i hi
  have I : InstAt s.heap x ⟨.ref C, some dx, .plain, sl⟩ C (some o) := ⟨S.get i hi, rfl, rfl, ho⟩
  exact set_plain (X₀.keeps F.keep) I hs (osa_descr (s := { s with toks := s.toks + 1 }) KF.slot_mset (X₀.keeps F.keep) I hp ht hT (slot_set (s := { s with toks := s.toks + 1 }) F N (X₀.keeps F.keep) I hk hz h1 h2 rfl rfl fun h' F' N' => h _ (hback h' _ _ F' N')))

/-! ## dicts with int keys -/
theorem hi_new (S : St w z L m mu s₀ s) : (s.heap.objs.size == sysModules) = false := beq_eq_false_iff_ne.mpr (Nat.ne_of_gt (modules_low S.top.lim))
theorem r_Dict0 {pos : Pos} {Q : Value → Shared → Prop} (S : St w z L m mu s₀ s) (h : ∀ d s' o, (d == sysModules) = false → o.IsDictOf (intKind prog w) [] → St w z L m ((d, o) :: mu) s₀ s' → Q (.ref d) s') : wpAny (model prog w) A (eval (.Dict [] [] pos) env) Q E s :=
  wpAny_Dict_empty (h _ _ _ (hi_new S) ⟨#[], 0, ⟨rfl, rfl, rfl⟩, rfl, fun _ he => by simp at he, Pairs.nil, List.nodup_nil⟩ (S.push _))
section
variable {d : Addr} {kvs : List (Int × Value)} {k : Int} {t : Tok}
theorem dOf {h : Heap} (ho : h.get? d = some o) (hd : o.IsDictOf (intKind prog w) kvs) : h.DictOf (intKind prog w) d kvs := Heap.dictOf_iff.mpr ⟨o, ho, hd⟩
theorem r_dItem {value slice : Expr} {Q : Value → Shared → Prop} (S : St w z L m mu s₀ s) (ho : s.heap.get? d = some o) (hd : o.IsDictOf (intKind prog w) kvs) (hv : valueAt kvs k = some v) (h : ∀ s', St w z L m mu s₀ s' → Q v s')
    (hs : subscripted slice false (.ref d) (.int k t) = operate [.ref d, .int k t] (getItem (.ref d) (.int k t)) := by with_unfolding_all rfl) :
    wpAny (model prog w) A (subscriptTail value slice (.ref d) (.int k t)) Q E s :=
  tail_any (dOf ho hd).typeIs slot_dict_getitem.lookup (wpAny_getItem_of (intKind_is prog w k t) (dOf ho hd).mapOf hv (h _ (S.tok _))) hs
theorem r_dGet {Q : Value → Shared → Prop} (S : St w z L m mu s₀ s) (hs : (d == sysModules) = false) (ho : s.heap.get? d = some o) (hd : o.IsDictOf (intKind prog w) kvs) (h : ∀ s', St w z L m mu s₀ s' → Q ((valueAt kvs k).getD .none) s') :
    wpAny (model prog w) A (call (.builtin "dict.get") [.ref d, .int k t]) Q E s :=
  call_meetsIn F.slot_dict_get (dOf ho hd).typeIs F.entry_dict_get (F.args_dict_get_2 _ _) (meets_dict_get (intKind prog w) d (intKind_is prog w k t) hs) ⟨_, (dOf ho hd).mapOf, h _ (S.tok _)⟩
theorem r_dSet {Q : Unit → Shared → Prop} (S : St w z L m mu s₀ s) (i : Nat) (hi : mu[i]? = some (d, o)) (hd : o.IsDictOf (intKind prog w) kvs) (hn : kvs.length < 1000000) (h : ∀ s' o', o'.IsDictOf (intKind prog w) (stored kvs k v) → St w z L m (mu.set i (d, o')) s₀ s' → Q () s') :
    wpAny (model prog w) A (setItem (.ref d) (.int k t) v) Q E s := by
  refine wpAny_setItem_pairs (intKind_is prog w k t) (dOf (S.get i hi) hd) (fun h' hm hs => ?_) (by rw [sizeLine_eq]; omega)
  obtain ⟨o', ho', hd'⟩ := Heap.dictOf_iff.mp hm
  exact h _ o' hd' (S.upd i hi hs.extBut ho' ⟨rfl, rfl, rfl⟩)
theorem r_dIn {Q : Value → Shared → Prop} (S : St w z L m mu s₀ s) (hs : (d == sysModules) = false) (ho : s.heap.get? d = some o) (hd : o.IsDictOf (intKind prog w) kvs) (h : ∀ s', St w z L m mu s₀ s' → Q (.bool (valueAt kvs k).isSome) s') :
    wpAny (model prog w) A (compareOp .In (.int k t) (.ref d)) Q E s := wpAny_in_of (intKind_is prog w k t) hs (dOf ho hd).mapOf (h _ (S.tok _))
theorem r_dictMethod {nm : Str} {id : String} {pl : Sem Bool} {Q : Value × List Value → Shared → Prop} (ho : s.heap.get? d = some o) (hd : o.IsDictOf (intKind prog w) kvs) (slot : Slot "dict" nm id) (hty : typeOf (.builtin id) = pure (.type "method_descriptor"))
    (h : Q (.builtin id, [.ref d]) s) : wpAny (model prog w) A (getMethod (.ref d) nm pl) Q E s :=
  getMethod_builtin (dOf ho hd).typeIs PySem.F.plainAttrs_dict slot hty (fun b q => by cases q; obtain ⟨_, _, he, _⟩ := hd; exact ⟨_, ho, he.2.1⟩) h
end
end
end Mine
open PySem PySem.W PySem.Calls PyProof.Rows Mine
set_option compiler.extract_closed false
set_option hygiene false
local macro_rules | `(tactic| walk_at "q") => `(tactic| intro __Q)
local macro_rules | `(tactic| walk_at "qq") => `(tactic| intro __Q __J)
local macro_rules | `(tactic| walk_at "str") => `(tactic| ((with_reducible rename St .. => S0); (with_reducible first | refine r_strK S0 kx_eq ?_ | refine r_strK S0 kx_nil ?_ | refine r_strK S0 kx_34CD ?_ | refine r_strK S0 kx_hex ?_ | refine r_strK S0 kx_nl ?_ | refine r_strK S0 kx_crnl ?_ | refine r_strK S0 kx_e3D ?_ | refine r_strK S0 kx_end ?_ | refine r_strK S0 kx_3 ?_ | refine r_strK S0 kx_4 ?_ | refine r_strK S0 kx_C ?_ | refine r_strK S0 kx_D ?_ | refine r_str S0 ?_); clear S0; intro _ _ _))
local macro_rules | `(tactic| walk_at "ze") => `(tactic| first
  | ((with_reducible show wpAny _ _ (eval (Expr.Name ..) _) ..); (with_reducible rename St .. => S0); first | refine r_local S0 (by rfl) ?_ | refine r_global S0 (by k_is) ?_ | refine r_builtin S0 (by k_is) (by boot_fast) ?_)
  | ((with_reducible rename St .. => S0); with_reducible refine r_int S0 ?_; clear S0; intro _ _ _)
  | ((with_reducible show wpAny _ _ (eval (Expr.Constant (Const.str ..) _ _) _) ..); walk_at "str")
  | with_reducible first | refine Subscript_ ?_ | refine wpAny_BinOp ?_ | refine r_Call ?_
  | ((with_reducible show wpAny _ _ (eval (Expr.Compare _ [_] [_] _) _) ..); refine wpAny_Compare1 ?_)
  | ((with_reducible show wpAny _ _ (eval (Expr.Call (Expr.Attribute ..) _ [] _) _) ..); refine r_CallAttr ?_)
  | with_reducible first | refine wpAny_UnaryOp ?_ | refine r_Slice ?_ | refine r_And2 ?_ | refine r_And1 ?_ | refine r_Or2 ?_ | refine r_Or1 ?_ | refine wpAny_Constant_none ?_ | refine wpAny_Constant_bool ?_ | refine r_IfExp ?_ | refine r_Tuple ?_ | refine r_List ?_
  | ((with_reducible show wpAny _ _ (eval (Expr.Attribute ..) _) ..); refine Attribute_any_ ?_)
  | with_reducible refine wpAny_NamedExpr ?_)
local macro_rules | `(tactic| walk_at "zt") => `(tactic| first
  | ((with_reducible show wpAny _ _ (isTrue (Expr.Compare _ [_] [_] _) _ _) ..); refine wpAny_isTrue_Compare1 ?_)
  | with_reducible first | refine wpAny_isTrue_Not ?_ | refine wpAny_isTrue_BoolOp ?_
  | ((with_reducible show wpAny _ _ (isTrue (Expr.Name ..) _ _) ..); refine wpAny_isTrue_value ?_)
  | ((with_reducible show wpAny _ _ (isTrue (Expr.Call ..) _ _) ..); refine wpAny_isTrue_value ?_)
  | ((with_reducible show wpAny _ _ (isTrue (Expr.Subscript ..) _ _) ..); refine wpAny_isTrue_value ?_)
  | ((with_reducible show wpAny _ _ (isTrue (Expr.Constant ..) _ _) ..); refine wpAny_isTrue_value ?_)
  | ((with_reducible show wpAny _ _ (isTrue (Expr.Attribute ..) _ _) ..); refine wpAny_isTrue_value ?_))
local macro_rules | `(tactic| walk_at "zs") => `(tactic| first
  | ((with_reducible show wpAny _ _ (exec (Stmt.Assign [Expr.Name _ _] _ _) _) ..); refine wpAny_Assign_Name ?_)
  | ((with_reducible show wpAny _ _ (exec (Stmt.Expr ..) _) ..); refine wpAny_Expr_any ?_)
  | with_reducible refine wpAny_Return_some ?_
  | ((with_reducible show wpAny _ _ (exec (Stmt.Assign [Expr.Subscript _ _ _] _ _) _) ..); refine wpAny_Assign_Subscript ?_)
  | ((with_reducible show wpAny _ _ (exec (Stmt.AugAssign (Expr.Name ..) _ _ _) _) ..); refine wpAny_AugAssign_Name ?_)
  | with_reducible refine r_If ?_
  | ((with_reducible show wpAny _ _ (exec (Stmt.For ..) _) ..); refine wpAny_For ?_)
  | with_reducible refine wpAny_Return_none ?_
  | ((with_reducible show wpAny _ _ (exec (Stmt.Assign [Expr.Attribute _ _ _] _ _) _) ..); refine plainObj_wpAny_Assign_Attribute ?_)
  | ((with_reducible show wpAny _ _ (exec (Stmt.AugAssign (Expr.Attribute ..) _ _ _) _) ..); refine wpAny_AugAssign_AttributeAny ?_)
  | ((with_reducible show wpAny _ _ (exec (Stmt.Assign [_, _] _ _) _) ..); refine wpAny_Assign_two ?_)
  | with_reducible first | refine wpAny_Continue ?_ | refine wpAny_Break ?_ | refine wpAny_Pass ?_)
local macro_rules | `(tactic| walk_at "zc") => `(tactic| first
  | with_reducible first | refine PyProof.Rows.lt_int ?_ | refine PyProof.Rows.gt_int ?_ | refine PyProof.Rows.le_int ?_ | refine PyProof.Rows.ge_int ?_ | refine PyProof.Rows.eq_int ?_ | refine PyProof.Rows.ne_int ?_ | refine r_eqS ?_ | refine r_neS ?_ | refine r_inS ?_ | refine r_notInS ?_ | refine is_none ?_ | refine isNot_none ?_)
local macro_rules | `(tactic| walk_at "zb") => `(tactic| ((with_reducible rename St .. => S0); first
  | (with_reducible refine r_add S0 ?_; clear S0; intro _ _ _)
  | (with_reducible refine r_sub S0 ?_; clear S0; intro _ _ _)
  | (with_reducible refine r_mul S0 ?hj ?_; (case hj => decide); clear S0; intro _ _ _)
  | (with_reducible refine r_shr S0 ?hj ?_; (case hj => decide); clear S0; intro _ _ _)))
local macro_rules | `(tactic| walk_at "zw") => `(tactic| first
  | ((with_reducible show wpAny _ _ (callWith _ (Value.builtin ..) [] _ []) ..); refine r_cwB ?_)
  | ((with_reducible show wpAny _ _ (callWith _ (Value.builtin ..) [_] _ []) ..); refine r_cwB1 ?_)
  | ((with_reducible show wpAny _ _ (callWith _ (Value.ref ..) [] _ []) ..); (with_reducible rename St .. => S0); first | refine r_cwD S0 (by k_is) ?_ | refine r_cwC S0 (by k_is) ?_)
  | ((with_reducible show wpAny _ _ (callWith _ (Value.ref ..) [_] _ []) ..); (with_reducible rename St .. => S0); refine r_cwD1 S0 (by k_is) ?_)
  | ((with_reducible show wpAny _ _ (callWith _ (Value.type ..) [] _ []) ..); refine r_cwT ?_))
local macro_rules | `(tactic| walk_at "zm") => `(tactic| first
  | with_reducible first | refine r_strMethod F.slot_str_join F.type_str_join ?_ | refine r_strMethod F.slot_str_splitlines F.type_str_splitlines ?_ | refine r_strMethod F.slot_str_rstrip F.type_str_rstrip ?_ | refine r_strMethod F.slot_str_endswith F.type_str_endswith ?_ | refine r_strMethod F.slot_str_index F.type_str_index ?_)
local macro_rules | `(tactic| walk_at "z") => `(tactic| first
  | ((with_reducible show wpAny _ _ (eval ..) ..); walk_at "ze")
  | ((with_reducible show wpAny _ _ (exec ..) ..); walk_at "zs")
  | ((with_reducible show wpAny _ _ (execs ..) ..); first
    | ((fail_if_success (with_reducible show wpAny _ _ (execs (Stmt.If _ _ _ _ :: _) _) ..)); (with_reducible refine r_execs_consL ?_; walk_at "qq"))
    | with_reducible refine r_execs_nil ?_)
  | ((with_reducible show Nx _ _ _ _); with_reducible first | refine r_nx ?_ | refine r_nx_ret ?_ | refine r_nx_brk ?_ | refine r_nx_cont ?_)
  | ((with_reducible show wpAny _ _ (storeName ..) ..); (with_reducible rename St .. => S0); refine r_store S0 ?_; clear S0; intro _ _)
  | ((with_reducible show wpAny _ _ (isTrue ..) ..); walk_at "zt")
  | ((with_reducible show wpAny _ _ (assign (Expr.Subscript ..) _ _) ..); refine kas_sub ?_)
  | ((with_reducible show wpAny _ _ (assign (Expr.Name ..) _ _) ..); refine wpAny_assign_Name ?_)
  | ((with_reducible show wpAny _ _ (compareOp ..) ..); walk_at "zc")
  | ((with_reducible show wpAny _ _ (binaryOp ..) ..); walk_at "zb")
  | ((with_reducible show wpAny _ _ (callWith ..) ..); walk_at "zw")
  | ((with_reducible show wpAny _ _ (spliced ..) ..); first | with_reducible refine wpAny_items_nil ?_ | refine wpAny_items_cons ?_)
  | with_reducible refine wpAny_truthy_bool ?_
  | ((with_reducible show TF _ _ ∧ _); (with_reducible rename St .. => S0); refine ⟨St.top S0, ?_⟩)
  | ((with_reducible show wpAny _ _ (allTrue ..) ..); with_reducible first | refine r_And_cons ?_ | refine r_Or_cons ?_ | refine wpAny_allTrue_And_nil ?_ | refine wpAny_allTrue_Or_nil ?_)
  | ((with_reducible show wpAny _ _ (getMethod _ _ _) ..); walk_at "zm")
  | ((with_reducible show wpAny _ _ (loadName ..) ..); (with_reducible rename St .. => S0); refine r_localN S0 (by rfl) ?_)
  | ((with_reducible show NewSl _ _ _ _); (with_reducible rename St .. => S0); refine r_newSl S0 ?_; clear S0; intro _ _ _)
  | ((with_reducible show NewSq _ _ _ _); (with_reducible rename St .. => S0); first | (refine r_newTup S0 (by simp) ?_; clear S0; intro _ _ _) | (refine r_newLst S0 (by simp) ?_; clear S0; intro _ _ _ _ _))
  | with_reducible first | refine wpAny_evalPart_some ?_ | refine wpAny_evalPart_none ?_
  | ((with_reducible rename St .. => S0); with_reducible refine r_iadd S0 ?_; clear S0; intro _ _ _)
  | ((with_reducible rename St .. => S0); with_reducible refine r_isub S0 ?_; clear S0; intro _ _ _)
  | ((with_reducible rename St .. => S0); with_reducible refine r_neg S0 ?_; clear S0; intro _ _ _))
local macro_rules | `(tactic| walk_at "if") => `(tactic| (with_reducible refine r_execs_consL ?_; walk_at "qq"; with_reducible refine r_If ?_))
local macro_rules | `(tactic| walk_at "go") => `(tactic| ((try ((with_reducible refine keepQ ?_); walk_at "q")); repeat walk_at "z"))
local macro_rules | `(tactic| walk_at "enterP") => `(tactic| (refine' enter_pure ?T ?hA ?hn ?ho ?hcd ?hbind ?_ ?hloc ?hcell ?hco ?hgen ?hk; (case ho => k_is); (case hcd => k_is); (case hbind => exact BindsTo.of_eq rfl); (case hloc => rfl); (case hcell => decide); (case hco => rfl); (case hgen => rfl); (case hk => rfl)))
local macro_rules | `(tactic| walk_at "enter1") => `(tactic| (refine' enter_one ?T ?ha ?hA ?hn ?ho ?hcd ?hbind ?_ ?hloc ?hcell ?hco ?hgen ?hk; (case ho => k_is); (case hcd => k_is); (case hbind => exact BindsTo.of_eq rfl); (case hloc => rfl); (case hcell => decide); (case hco => rfl); (case hgen => rfl); (case hk => rfl)))
local macro_rules | `(tactic| walk_at "has") => `(tactic| (repeat' (first | exact True.intro | exact And.intro rfl True.intro | refine And.intro rfl ?_)))
local macro_rules | `(tactic| walk_at "enterL") => `(tactic| (refine' enter_led ?D ?hA ?hn ?ho ?hcd ?hbind ?_ ?hloc ?hcell ?hco ?hgen ?hk; (case ho => k_is); (case hcd => k_is); (case hbind => exact BindsTo.of_eq rfl); (case hloc => rfl); (case hcell => decide); (case hco => rfl); (case hgen => rfl); (case hk => rfl)))
set_option compiler.extract_closed true
set_option hygiene true
namespace Mine
open PySem PySem.W PySem.Calls PyProof.Rows
theorem filled : (fun (_ : OpenLaw) (_ : Params → Frag) => True) PySem.Challenge.rw_oc0237_01 hd.heap_1 := by k_fill; trivial

noncomputable abbrev P := Int × Int
/-- _siftdown from place 0 -/
noncomputable def sdF (ps : List P) (x : P) (pos : Nat) : List P :=
  if h : pos = 0 then ps.set pos x else
    if pLt x (ps.getD ((pos - 1) / 2) x) then sdF (ps.set pos (ps.getD ((pos - 1) / 2) x)) x ((pos - 1) / 2) else ps.set pos x
termination_by pos
decreasing_by omega

section
variable {prog : Program} {w : World} {A : Around} {s : Shared}
theorem siftdown {n : Nat} {R : Result → Shared → Prop} {hp : Addr} {o : Obj} {its : List Value} {ps : List P} {x : P} {p : Nat} {t u : Tok} (T : TF w (hideAll s.heap [hp])) (hA : Lo n A) (hn : n ≤ 90) (ho : s.heap.get? hp = some o) (hl : LsO o its)
   (G : Value → P → Prop) (hG : ∀ v p, G v p → PairAt (hideAll s.heap [hp]) v p) (hps : All2 G its ps) (h1 : ps[p]? = some x) (hsz : ps.length < 1000)
   (h : ∀ s' o' its', Same s s' → Heap.ExtBut hp s.heap s'.heap → s'.heap.get? hp = some o' → LsO o' its' → All2 G its' (sdF ps x p) → R (.ok (.ret .none)) s')
   : codeAny (model prog w) A (.call (.ref 177) ⟨[.ref hp, .int 0 t, .int p u], []⟩) R s := by
  walk_at "enter1"
  case T => exact T
  case ha => exact ho
  case hA => exact hA
  case hn => omega
  intro L A' s₁ S' hA'
  have S : St w (hideAll s.heap [hp]) L [("pos", .int p u), ("startpos", .int 0 t), ("heap", .ref hp)] [(hp, o)] s s₁ := S'
  clear S'
  obtain ⟨nv, hnv, hx⟩ := hps.get h1
  have hp1 : p < ps.length := (List.getElem?_eq_some_iff.mp h1).1
  walk_at "go"
  rename St _ _ _ _ _ _ _ => S
  refine r_itemN p (IsL.of (S.get 0 rfl) hl) rfl (by omega) hnv ?_
  walk_at "go"
  refine r_while (fun k s' => ∃ r o' its' ps' t u, St w (hideAll s.heap [hp]) L (("newitem", nv) :: ("heap", .ref hp) :: ("startpos", .int 0 t) :: ("pos", .int k u) :: r) [(hp, o')] s s' ∧ LsO o' its' ∧
    All2 G its' ps' ∧ ps'.length = ps.length ∧ k < ps'.length ∧ sdF ps' x k = sdF ps x p) p ?_ ?_
  · rename St _ _ _ _ _ _ _ => S
    exact ⟨_, o, its, ps, _, _, S.norm [("newitem", nv), ("heap", .ref hp), ("startpos", .int 0 t), ("pos", .int p u)] (by walk_at "has"), hl, hps, rfl, hp1, rfl⟩
  rintro k s' ⟨r, o', its', ps', t, u, S, hl', hps', hlen, hk, hfin⟩
  walk_at "go"
  refine ⟨fun hb => ?_, fun hb => ?_⟩
  · have hk0 : 0 < k := by simpa using hb
    have hpp : (k - 1) / 2 < ps'.length := by omega
    obtain ⟨pv, hpv, hpx⟩ := hps'.get (List.getElem?_eq_getElem hpp)
    have hix : ((k : Int) - 1).fdiv (2 ^ (1 : Int).toNat) = (((k - 1) / 2 : Nat) : Int) := by
      rw [Int.fdiv_eq_ediv_of_nonneg _ (by decide)]
      show ((k : Int) - 1) / 2 = _
      omega
    walk_at "go"
    rename St _ _ _ _ _ _ _ => S
    refine r_itemN ((k - 1) / 2) (IsL.of (S.get 0 rfl) hl') hix (by omega) hpv ?_
    walk_at "go"
    walk_at "if"
    walk_at "go"
    rename St _ _ _ _ _ _ _ => S
    refine r_pairLt ((hG _ _ hx).up S.keep) ((hG _ _ hpx).up S.keep) (hA'.units (by omega)) ?_
    walk_at "go"
    have hgd : ps'.getD ((k - 1) / 2) x = ps'[(k - 1) / 2] := by simp [hpp]
    refine ⟨fun hlt => ?_, fun hlt => ?_⟩
    · walk_at "go"
      rename St _ _ _ _ _ _ _ => S
      refine r_setItemN S 0 k rfl hl' rfl (by omega) (by rw [hps'.1]; omega) fun s'' o'' hl'' S'' => ?_
      clear S
      walk_at "go"
      rename St _ _ _ _ _ _ _ => S
      refine lp_cont ((k - 1) / 2) (by omega) ⟨_, o'', _, ps'.set k ps'[(k - 1) / 2], _, _, S.norm [("newitem", nv), ("heap", .ref hp), ("startpos", .int 0 t), ("pos", .int (((k - 1) / 2 : Nat) : Int) _)] (by rw [hix]; walk_at "has"), hl'', hps'.set k hpx, by simpa using hlen, by simpa using hpp, ?_⟩
      rw [← hfin]
      conv => rhs; rw [sdF]
      rw [dif_neg (by omega), hgd, if_pos hlt]
    · walk_at "go"
      refine lp_brk ?_
      walk_at "go"
      rename St _ _ _ _ _ _ _ => S
      refine r_setItemN S 0 k rfl hl' rfl (by omega) (by rw [hps'.1]; omega) fun s'' o'' hl'' S'' => ?_
      clear S
      walk_at "go"
      obtain ⟨e1, e2, e3⟩ := S''.extBut
      refine h _ _ _ e3 e1 e2 hl'' ?_
      rw [← hfin, sdF, dif_neg (by omega), hgd, if_neg (by simp [hlt])]
      exact hps'.set k hx
  · have hk0 : k = 0 := by simpa using hb
    walk_at "go"
    rename St _ _ _ _ _ _ _ => S
    refine r_setItemN S 0 k rfl hl' rfl (by omega) (by rw [hps'.1]; omega) fun s'' o'' hl'' S'' => ?_
    clear S
    walk_at "go"
    obtain ⟨e1, e2, e3⟩ := S''.extBut
    refine h _ _ _ e3 e1 e2 hl'' ?_
    rw [← hfin, sdF, dif_pos hk0]
    exact hps'.set k hx

theorem heappush {n : Nat} {R : Result → Shared → Prop} {hp : Addr} {o : Obj} {its : List Value} {ps : List P} {iv : Value} {x : P} (T : TF w (hideAll s.heap [hp])) (hA : Lo n A) (hn : n ≤ 80) (ho : s.heap.get? hp = some o) (hl : LsO o its)
   (G : Value → P → Prop) (hG : ∀ v p, G v p → PairAt (hideAll s.heap [hp]) v p) (hps : All2 G its ps) (hx : G iv x) (hsz : ps.length < 900)
   (h : ∀ s' o' its', Same s s' → Heap.ExtBut hp s.heap s'.heap → s'.heap.get? hp = some o' → LsO o' its' → All2 G its' (sdF (ps ++ [x]) x ps.length) → R (.ok (.ret .none)) s')
   : codeAny (model prog w) A (.call (.ref 163) ⟨[.ref hp, iv], []⟩) R s := by
  walk_at "enter1"
  case T => exact T
  case ha => exact ho
  case hA => exact hA
  case hn => omega
  intro L A' s₁ S' hA'
  have S : St w (hideAll s.heap [hp]) L [("item", iv), ("heap", .ref hp)] [(hp, o)] s s₁ := S'
  clear S'
  walk_at "go"
  rename St _ _ _ _ _ _ _ => S
  have hL := IsL.of (S.get 0 rfl) hl
  with_reducible refine r_listMethod hL F.slot_list_append F.type_list_append ?_
  walk_at "go"
  rename St _ _ _ _ _ _ _ => S
  refine r_append S 0 rfl hl (by rw [hps.1]; omega) fun s₂ o₂ hl₂ S₂ => ?_
  clear S
  walk_at "go"
  rename St _ _ _ _ _ _ _ => S
  refine r_lenL S (IsL.of (S.get 0 rfl) hl₂) (by simp [hps.1]; omega) fun t₃ s₃ S₃ => ?_
  clear S
  walk_at "go"
  rename St _ _ _ _ _ _ _ => S
  have hlen : (((its ++ [iv]).length : Nat) : Int) - 1 = (ps.length : Int) := by rw [List.length_append, hps.1]; simp
  rw [hlen]
  refine wpAny_call (siftdown (x := x) (S.hidden 0 rfl) hA' (by omega) (S.get 0 rfl) hl₂ G (fun v p e => (hG v p e).up (S.subHid 0 rfl)) (hps.append1 hx) (by simp) (by simp; omega) ?_)
  intro s' o' its' sm ex ho' hl' ha'
  have S' := S.upd 0 rfl ex ho' sm
  obtain ⟨e1, e2, e3⟩ := S'.extBut
  walk_at "go"
  exact h _ _ _ e3 e1 e2 hl' ha'

/-- _siftup, then _siftdown from place 0 -/
noncomputable def suF (ps : List P) (x : P) (pos : Nat) : List P :=
  if h : 2 * pos + 1 < ps.length then
    let c := if 2 * pos + 2 < ps.length ∧ pLt (ps.getD (2 * pos + 1) x) (ps.getD (2 * pos + 2) x) = false then 2 * pos + 2 else 2 * pos + 1
    suF (ps.set pos (ps.getD c x)) x c
  else sdF (ps.set pos x) x pos
termination_by ps.length - pos
decreasing_by simp only [List.length_set]; split <;> omega

theorem siftup {n : Nat} {R : Result → Shared → Prop} {hp : Addr} {o : Obj} {its : List Value} {ps : List P} {x : P} {u : Tok} (T : TF w (hideAll s.heap [hp])) (hA : Lo n A) (hn : n ≤ 80) (ho : s.heap.get? hp = some o) (hl : LsO o its)
   (G : Value → P → Prop) (hG : ∀ v p, G v p → PairAt (hideAll s.heap [hp]) v p) (hps : All2 G its ps) (h1 : ps[0]? = some x) (hsz : ps.length < 1000)
   (h : ∀ s' o' its', Same s s' → Heap.ExtBut hp s.heap s'.heap → s'.heap.get? hp = some o' → LsO o' its' → All2 G its' (suF ps x 0) → R (.ok (.ret .none)) s')
   : codeAny (model prog w) A (.call (.ref 184) ⟨[.ref hp, .int 0 u], []⟩) R s := by
  walk_at "enter1"
  case T => exact T
  case ha => exact ho
  case hA => exact hA
  case hn => omega
  intro L A' s₁ S' hA'
  have S : St w (hideAll s.heap [hp]) L [("pos", .int 0 u), ("heap", .ref hp)] [(hp, o)] s s₁ := S'
  clear S'
  obtain ⟨nv, hnv, hx⟩ := hps.get h1
  have hp1 : 0 < ps.length := (List.getElem?_eq_some_iff.mp h1).1
  walk_at "go"
  rename St _ _ _ _ _ _ _ => S
  refine r_lenL S (IsL.of (S.get 0 rfl) hl) (by rw [hps.1]; omega) fun t₃ s₃ S₃ => ?_
  clear S
  walk_at "go"
  rename St _ _ _ _ _ _ _ => S
  refine r_itemN 0 (IsL.of (S.get 0 rfl) hl) rfl (by omega) hnv ?_
  walk_at "go"
  refine r_while (fun k s' => ∃ r o' its' ps' pos t u u₂ u₃, St w (hideAll s.heap [hp]) L (("newitem", nv) :: ("heap", .ref hp) :: ("endpos", .int (ps.length : Int) u₃) :: ("childpos", .int (2 * (pos : Nat) + 1 : Int) t) :: ("startpos", .int 0 u₂) :: ("pos", .int (pos : Nat) u) :: r) [(hp, o')] s s' ∧ LsO o' its' ∧
    All2 G its' ps' ∧ ps'.length = ps.length ∧ pos < ps'.length ∧ k = ps'.length - pos ∧ suF ps' x pos = suF ps x 0) (ps.length - 0) ?_ ?_
  · rename St _ _ _ _ _ _ _ => S
    exact ⟨_, o, its, ps, 0, _, _, _, _, S.norm [("newitem", nv), ("heap", .ref hp), ("endpos", .int (ps.length : Int) _), ("childpos", .int (2 * 0 + 1) _), ("startpos", .int 0 _), ("pos", .int 0 _)] (by rw [← hps.1]; walk_at "has"), hl, hps, rfl, hp1, rfl, rfl⟩
  rintro k s' ⟨r, o', its', ps', pos, t, u, u₂, u₃, S, hl', hps', hlen, hk, hkk, hfin⟩
  walk_at "go"
  refine ⟨fun hb => ?_, fun hb => ?_⟩
  · have hc1 : 2 * pos + 1 < ps'.length := by have : (2 * (pos : Int) + 1 < ps.length) := by simpa using hb
                                              omega
    obtain ⟨v1, hv1, hx1⟩ := hps'.get (List.getElem?_eq_getElem hc1)
    have hg1 : ps'.getD (2 * pos + 1) x = ps'[2 * pos + 1] := by simp [hc1]
    walk_at "go"
    rename St _ _ _ _ _ _ _ => S
    refine r_seqJ (fun s'' => ∃ c : Nat, c = (if 2 * pos + 2 < ps'.length ∧ pLt (ps'.getD (2 * pos + 1) x) (ps'.getD (2 * pos + 2) x) = false then 2 * pos + 2 else 2 * pos + 1) ∧
      ∃ r t u u₂ u₃, St w (hideAll s.heap [hp]) L (("newitem", nv) :: ("heap", .ref hp) :: ("endpos", .int (ps.length : Int) u₃) :: ("childpos", .int (c : Int) t) :: ("startpos", .int 0 u₂) :: ("pos", .int (pos : Nat) u) :: r) [(hp, o')] s s'') ?_ ?_
    · refine r_If ?_
      walk_at "go"
      refine ⟨fun hb2 => ?_, fun hb2 => ?_⟩
      · have hc2 : 2 * pos + 2 < ps'.length := by have : (2 * (pos : Int) + 1 + 1 < ps.length) := by simpa using hb2
                                                  omega
        obtain ⟨v2, hv2, hx2⟩ := hps'.get (List.getElem?_eq_getElem hc2)
        have hg2 : ps'.getD (2 * pos + 2) x = ps'[2 * pos + 2] := by simp [hc2]
        walk_at "go"
        rename St _ _ _ _ _ _ _ => S
        refine r_itemN (2 * pos + 1) (IsL.of (S.get 0 rfl) hl') (by omega) (by omega) hv1 ?_
        walk_at "go"
        rename St _ _ _ _ _ _ _ => S
        refine r_itemN (2 * pos + 2) (IsL.of (S.get 0 rfl) hl') (by omega) (by omega) hv2 ?_
        walk_at "go"
        rename St _ _ _ _ _ _ _ => S
        refine r_pairLt ((hG _ _ hx1).up S.keep) ((hG _ _ hx2).up S.keep) (hA'.units (by omega)) ?_
        walk_at "go"
        refine ⟨fun hb3 => ?_, fun hb3 => ?_⟩
        · walk_at "go"
          refine ⟨fun _ => ?_, fun e => (by cases e)⟩
          walk_at "go"
          rename St _ _ _ _ _ _ _ => S
          have hb3' : pLt ps'[2 * pos + 1] ps'[2 * pos + 2] = false := by simpa using hb3
          refine ⟨2 * pos + 2, by rw [hg1, hg2, if_pos ⟨hc2, hb3'⟩], _, _, _, _, _, S.norm [("newitem", nv), ("heap", .ref hp), ("endpos", .int (ps.length : Int) _), ("childpos", .int ((2 * pos + 2 : Nat) : Int) _), ("startpos", .int 0 _), ("pos", .int (pos : Nat) _)] (by rw [show ((2 * pos + 2 : Nat) : Int) = 2 * (pos : Int) + 1 + 1 by omega]; walk_at "has")⟩
        · refine ⟨fun e => (by cases e), fun _ => ?_⟩
          walk_at "go"
          rename St _ _ _ _ _ _ _ => S
          have hb3' : pLt ps'[2 * pos + 1] ps'[2 * pos + 2] = true := by simpa using hb3
          refine ⟨2 * pos + 1, by rw [hg1, hg2, hb3', if_neg (by simp)], _, _, _, _, _, S.norm [("newitem", nv), ("heap", .ref hp), ("endpos", .int (ps.length : Int) _), ("childpos", .int ((2 * pos + 1 : Nat) : Int) _), ("startpos", .int 0 _), ("pos", .int (pos : Nat) _)] (by rw [show ((2 * pos + 1 : Nat) : Int) = 2 * (pos : Int) + 1 by omega]; walk_at "has")⟩
      · refine ⟨fun e => (by cases e), fun _ => ?_⟩
        have hc2 : ¬ 2 * pos + 2 < ps'.length := by have : ¬ (2 * (pos : Int) + 1 + 1 < ps.length) := by simpa using hb2
                                                    omega
        walk_at "go"
        rename St _ _ _ _ _ _ _ => S
        refine ⟨2 * pos + 1, by rw [if_neg (fun e => hc2 e.1)], _, _, _, _, _, S.norm [("newitem", nv), ("heap", .ref hp), ("endpos", .int (ps.length : Int) _), ("childpos", .int ((2 * pos + 1 : Nat) : Int) _), ("startpos", .int 0 _), ("pos", .int (pos : Nat) _)] (by rw [show ((2 * pos + 1 : Nat) : Int) = 2 * (pos : Int) + 1 by omega]; walk_at "has")⟩
    · clear S
      rintro s'' ⟨c, hc, r, t, u, u₂, u₃, S⟩
      have hcl : c < ps'.length := by rw [hc]; split <;> omega
      have hcp : pos < c := by rw [hc]; split <;> omega
      obtain ⟨v3, hv3, hx3⟩ := hps'.get (List.getElem?_eq_getElem hcl)
      have hg3 : ps'.getD c x = ps'[c] := by simp [hcl]
      walk_at "go"
      rename St _ _ _ _ _ _ _ => S
      refine r_itemN c (IsL.of (S.get 0 rfl) hl') rfl (by omega) hv3 ?_
      walk_at "go"
      rename St _ _ _ _ _ _ _ => S
      refine r_setItemN S 0 pos rfl hl' rfl (by omega) (by rw [hps'.1]; omega) fun s₅ o₅ hl₅ S₅ => ?_
      clear S
      walk_at "go"
      rename St _ _ _ _ _ _ _ => S
      refine lp_next (ps'.length - c) (by omega) ⟨_, o₅, _, ps'.set pos ps'[c], c, _, _, _, _, S.norm [("newitem", nv), ("heap", .ref hp), ("endpos", .int (ps.length : Int) _), ("childpos", .int (2 * (c : Nat) + 1 : Int) _), ("startpos", .int 0 _), ("pos", .int (c : Nat) _)] (by walk_at "has"), hl₅, hps'.set pos hx3, by simpa using hlen, by simpa using hcl, by simp, ?_⟩
      rw [← hfin]
      conv => rhs; rw [suF]
      rw [dif_pos hc1]
      simp only []
      rw [← hc, hg3]
  · have hc1 : ¬ 2 * pos + 1 < ps'.length := by have : ¬ (2 * (pos : Int) + 1 < ps.length) := by simpa using hb
                                                omega
    walk_at "go"
    rename St _ _ _ _ _ _ _ => S
    refine r_setItemN S 0 pos rfl hl' rfl (by omega) (by rw [hps'.1]; omega) fun s₅ o₅ hl₅ S₅ => ?_
    clear S
    walk_at "go"
    rename St _ _ _ _ _ _ _ => S
    refine wpAny_call (siftdown (x := x) (S.hidden 0 rfl) hA' (by omega) (S.get 0 rfl) hl₅ G (fun v p e => (hG v p e).up (S.subHid 0 rfl)) (hps'.set pos hx) (by simp [hk]) (by simp; omega) ?_)
    intro s' o' its' sm ex ho' hl' ha'
    have S' := S.upd 0 rfl ex ho' sm
    obtain ⟨e1, e2, e3⟩ := S'.extBut
    walk_at "go"
    refine h _ _ _ e3 e1 e2 hl' ?_
    rw [← hfin, suF, dif_neg hc1]
    exact ha'

/-- heappop upon q ++ [y]: what it gives, what it leaves -/
noncomputable def popF (q : List P) (y : P) : P × List P := match q with
  | [] => (y, [])
  | p :: r => (p, suF (y :: r) y 0)

theorem heappop {n : Nat} {R : Result → Shared → Prop} {hp : Addr} {o : Obj} {its : List Value} {q : List P} {y : P} (T : TF w (hideAll s.heap [hp])) (hA : Lo n A) (hn : n ≤ 70) (ho : s.heap.get? hp = some o) (hl : LsO o its)
   (G : Value → P → Prop) (hG : ∀ v p, G v p → PairAt (hideAll s.heap [hp]) v p) (hps : All2 G its (q ++ [y])) (hsz : q.length < 900)
   (h : ∀ s' o' its' v, Same s s' → Heap.ExtBut hp s.heap s'.heap → s'.heap.get? hp = some o' → LsO o' its' → All2 G its' (popF q y).2 → G v (popF q y).1 → R (.ok (.ret v)) s')
   : codeAny (model prog w) A (.call (.ref 170) ⟨[.ref hp], []⟩) R s := by
  walk_at "enter1"
  case T => exact T
  case ha => exact ho
  case hA => exact hA
  case hn => omega
  intro L A' s₁ S' hA'
  have S : St w (hideAll s.heap [hp]) L [("heap", .ref hp)] [(hp, o)] s s₁ := S'
  clear S'
  obtain ⟨lv, hlv, hy⟩ := hps.get (i := q.length) (b := y) (by simp)
  have hlen := hps.1
  rw [List.length_append, List.length_singleton] at hlen
  have hits : its = its.take q.length ++ [lv] := by
    refine List.ext_getElem? fun i => ?_
    rw [List.getElem?_append, List.length_take, Nat.min_eq_left (by omega)]
    split
    · rename_i e; rw [List.getElem?_take, if_pos e]
    · rename_i e
      by_cases e' : i = q.length
      · subst e'; simp [hlv]
      · rw [List.getElem?_eq_none (by omega), List.getElem?_eq_none (by simp; omega)]
  have hq : All2 G (its.take q.length) q := by
    refine ⟨by simp; omega, fun i a b ha hb => hps.2 i a b ?_ ?_⟩
    · rw [List.getElem?_take] at ha
      split at ha
      · exact ha
      · cases ha
    · rw [List.getElem?_append, if_pos (List.getElem?_eq_some_iff.mp hb).1]; exact hb
  generalize its.take q.length = its₀ at hits hq
  subst hits
  walk_at "go"
  rename St _ _ _ _ _ _ _ => S
  have hL := IsL.of (S.get 0 rfl) hl
  with_reducible refine r_listMethod hL F.slot_list_pop F.type_list_pop ?_
  walk_at "go"
  rename St _ _ _ _ _ _ _ => S
  refine r_popLast S 0 rfl hl (by rw [hq.1]; omega) fun s₂ o₂ hl₂ S₂ => ?_
  clear S
  walk_at "go"
  walk_at "if"
  walk_at "go"
  rename St _ _ _ _ _ _ _ => S
  refine r_truthyL S (IsL.of (S.get 0 rfl) hl₂) (by rw [hq.1]; omega) fun s₃ S₃ => ?_
  clear S
  refine ⟨fun hb => ?_, fun hb => ?_⟩
  · cases q with
    | nil => have := hq.1; simp at this; subst this; cases hb
    | cons p r =>
      obtain ⟨pv, hpv, hp0⟩ := hq.get (i := 0) (b := p) rfl
      walk_at "go"
      rename St _ _ _ _ _ _ _ => S
      refine r_itemN 0 (IsL.of (S.get 0 rfl) hl₂) rfl (by omega) hpv ?_
      walk_at "go"
      rename St _ _ _ _ _ _ _ => S
      refine r_setItemN S 0 0 rfl hl₂ rfl (by omega) (by rw [hq.1]; simp) fun s₅ o₅ hl₅ S₅ => ?_
      clear S
      walk_at "go"
      rename St _ _ _ _ _ _ _ => S
      refine wpAny_call (siftup (x := y) (ps := y :: r) (S.hidden 0 rfl) hA' (by omega) (S.get 0 rfl) hl₅ G (fun v p e => (hG v p e).up (S.subHid 0 rfl)) (hq.set 0 hy) rfl (by simp at hsz ⊢; omega) ?_)
      intro s' o' its' sm ex ho' hl' ha'
      have S' := S.upd 0 rfl ex ho' sm
      clear S
      walk_at "go"
      rename St _ _ _ _ _ _ _ => S
      obtain ⟨e1, e2, e3⟩ := S.extBut
      exact h _ _ _ _ e3 e1 e2 hl' ha' hp0
  · have : its₀ = [] := by simpa using hb
    subst this
    have hq0 : q = [] := by have := hq.1; cases q with
      | nil => rfl
      | cons => cases this
    subst hq0
    walk_at "go"
    rename St _ _ _ _ _ _ _ => S
    obtain ⟨e1, e2, e3⟩ := S.extBut
    exact h _ _ _ _ e3 e1 e2 hl₂ hq hy
end
end Mine
namespace Mine
open PySem PySem.W PySem.Calls PyProof.Rows
theorem filled2 : (fun (_ : OpenLaw) (_ : Params → Frag) => True) PySem.Challenge.rw_oc0237_01 hd.heap_1 := by k_fill; trivial

/-! ## rows: lists of (mark, sign) -/
noncomputable def SgnAt (h : Heap) (v : Value) (p : Int × Nat) : Prop := ∃ a t u, v = .ref a ∧ h.IsTuple a #[.int p.1 t, .str (tx [p.2]) u]
theorem SgnAt.up {h h' : Heap} {v : Value} {p : Int × Nat} (x : SgnAt h v p) (k : Sub h h') : SgnAt h' v p := let ⟨a, t, u, e, q⟩ := x; ⟨a, t, u, e, IsTuple.up q k⟩
noncomputable abbrev Row := List (Int × Nat)
noncomputable def RowAt (h : Heap) (a : Addr) (row : Row) : Prop := ∃ vs, IsL h a vs ∧ All2 (SgnAt h) vs row
theorem RowAt.up {h h' : Heap} {a : Addr} {row : Row} (x : RowAt h a row) (k : Sub h h') : RowAt h' a row := let ⟨vs, hl, ha⟩ := x; ⟨vs, hl.up k, ha.mono fun _ _ y => y.up k⟩

noncomputable def isD (c : Nat) : Bool := [51, 52, 67, 68].contains c
noncomputable def stands (row : Row) (p : Nat) : Bool := match row.drop p with
  | (_, a) :: (_, b) :: (_, c) :: _ => a == 61 && isD b && isD c
  | _ => false

noncomputable def StrIs (v : Value) (c : Nat) : Prop := ∃ u, v = .str (tx [c]) u
noncomputable def IntIs (v : Value) (i : Int) : Prop := ∃ t, v = .int i t

section
variable {prog : Program} {w : World} {A : Around} {E : Value → Shared → Prop} {s s₀ : Shared} {z : Heap} {L a : Addr} {m : List (Str × Value)} {mu : List (Addr × Obj)} {env : Env}
theorem r_assign2 {x y : Str} {px py pos : Pos} {k : Nat} {T : Addr} {v₁ v₂ : Value} {Q : Unit → Shared → Prop} (S : St w z L m mu s₀ s) (hh : A.handled = none) (ht : s.heap.IsTuple T #[v₁, v₂]) (h : ∀ s', St w z L ((y, v₂) :: (x, v₁) :: m) mu s₀ s' → Q () s')
    (hk : env.scope.kind = .function := by rfl) (hx : env.kindOf x = some .local := by rfl) (hy : env.kindOf y = some .local := by rfl) (hL : env.locals = L := by rfl) : wpAny (model prog w) A (assign (.Tuple [.Name x px, .Name y py] k pos) env (.ref T)) Q E s := by
  refine wpAny_assign_Tuple hh ht rfl rfl fun h' hs => ?_
  have S₁ : St w z L m mu s₀ { s with heap := h' } := S.grow (fun b o e => hs b o (Nat.ne_of_lt (Heap.lt_size e)) e) ⟨rfl, rfl, rfl⟩
  show wpAny (model prog w) A (do holding [v₂] (assign (.Name x px) env v₁); assignInOrder [assign (.Name y py) env] [v₂]) Q E _
  refine wpAny_bind (wpAny_holding (wpAny_assign_Name (r_store S₁ (fun s₂ S₂ => ?_) hk hx hL)))
  show wpAny (model prog w) A (do holding [] (assign (.Name y py) env v₂); assignInOrder [] []) Q E _
  refine wpAny_bind (wpAny_holding (wpAny_assign_Name (r_store S₂ (fun s₃ S₃ => ?_) hk hy hL)))
  exact wpAny_pure (h _ S₃)
theorem take_succ_map {α β : Type} (f : α → β) {l : List α} {i : Nat} {a : α} (h : l[i]? = some a) : (l.take (i + 1)).map f = (l.take i).map f ++ [f a] := by
  rw [List.take_add_one, h]; simp
/-- [sign for mark, sign in X] -/
theorem compSign {iter : Expr} {pe p₁ p₂ px : Pos} {x1 : Nat} {scope : Scope} {cl : List (Str × Addr)} {pos : Pos} {use : Option (Value → Sem Unit)} {Q : Value → Shared → Prop} {vs : List Value} {row : Row}
    (S : St w z L m mu s₀ s) (hh : A.handled = none) (hl : IsL z a vs) (hr : All2 (SgnAt z) vs row) (hn : row.length < 1000)
    (done : ∀ rs D o, All2 StrIs rs (row.map (·.2)) → LsO o rs → Hand prog w A E L m s₀ use Q z D ((D, o) :: mu))
    (hx : (relabel scope env).names.lookup (Str.ofString "mark") = some .local := by rfl) (hy : (relabel scope env).names.lookup (Str.ofString "sign") = some .local := by rfl)
    (hcell : ∀ y ∈ scope.names, y.2 ≠ .cell := by decide) (hkind : scope.kind = .function := by rfl) :
    wpAny (model prog w) A (pyIter (.ref a)) (CompB prog w A E env (.Name (Str.ofString "sign") pe) (.Tuple [.Name (Str.ofString "mark") p₁, .Name (Str.ofString "sign") p₂] x1 px) iter [] scope cl pos use Q) E s := by
  refine r_compPairs S hh hl (by rw [hr.1]; omega) (fun v hv => ?_) (fun i z' rs => z' = z ∧ All2 StrIs rs ((row.take i).map (·.2))) ⟨rfl, ⟨by simp, fun i a b ha => by simp at ha⟩⟩ ?_ (fun z' rs D o _ hK _ hlo => ?_) hcell hkind
  · obtain ⟨i, hi, e⟩ := List.mem_iff_getElem.mp hv
    have hi' : i < row.length := by rw [← hr.1]; exact hi
    obtain ⟨T, _, _, e', _⟩ := hr.2 i v row[i] (by rw [List.getElem?_eq_getElem hi, e]) (List.getElem?_eq_getElem hi')
    exact ⟨T, e'⟩
  · rintro i v z' rs C m' mu' s' hv hz ⟨rfl, hK⟩ S' hmu
    have hi : i < vs.length := (List.getElem?_eq_some_iff.mp hv).1
    have hi' : i < row.length := by rw [← hr.1]; exact hi
    obtain ⟨T, t, u, rfl, hT⟩ := hr.2 i v row[i] hv (List.getElem?_eq_getElem hi')
    refine r_assign2 S' hh (IsTuple.up hT S'.keep) (fun s₂ S₂ => ?_) hkind hx hy rfl
    refine wpAny_tests_nil ⟨fun _ => ?_, fun e => (by cases e)⟩
    refine r_local S₂ (v := .str (tx [row[i].2]) u) rfl ?_ hkind hy rfl
    refine ce (Sub.refl _) ⟨rfl, ?_⟩ S₂
    rw [take_succ_map _ (List.getElem?_eq_getElem hi')]
    exact hK.append1 ⟨u, rfl⟩
  · obtain ⟨rfl, hK⟩ := hK
    rw [hr.1, List.take_length] at hK
    exact done rs D o hK hlo
/-- [mark for mark, sign in X] -/
theorem compMark {iter : Expr} {pe p₁ p₂ px : Pos} {x1 : Nat} {scope : Scope} {cl : List (Str × Addr)} {pos : Pos} {use : Option (Value → Sem Unit)} {Q : Value → Shared → Prop} {vs : List Value} {row : Row}
    (S : St w z L m mu s₀ s) (hh : A.handled = none) (hl : IsL z a vs) (hr : All2 (SgnAt z) vs row) (hn : row.length < 1000)
    (done : ∀ rs D o, All2 IntIs rs (row.map (·.1)) → LsO o rs → Hand prog w A E L m s₀ use Q z D ((D, o) :: mu))
    (hx : (relabel scope env).names.lookup (Str.ofString "mark") = some .local := by rfl) (hy : (relabel scope env).names.lookup (Str.ofString "sign") = some .local := by rfl)
    (hcell : ∀ y ∈ scope.names, y.2 ≠ .cell := by decide) (hkind : scope.kind = .function := by rfl) :
    wpAny (model prog w) A (pyIter (.ref a)) (CompB prog w A E env (.Name (Str.ofString "mark") pe) (.Tuple [.Name (Str.ofString "mark") p₁, .Name (Str.ofString "sign") p₂] x1 px) iter [] scope cl pos use Q) E s := by
  refine r_compPairs S hh hl (by rw [hr.1]; omega) (fun v hv => ?_) (fun i z' rs => z' = z ∧ All2 IntIs rs ((row.take i).map (·.1))) ⟨rfl, ⟨by simp, fun i a b ha => by simp at ha⟩⟩ ?_ (fun z' rs D o _ hK _ hlo => ?_) hcell hkind
  · obtain ⟨i, hi, e⟩ := List.mem_iff_getElem.mp hv
    have hi' : i < row.length := by rw [← hr.1]; exact hi
    obtain ⟨T, _, _, e', _⟩ := hr.2 i v row[i] (by rw [List.getElem?_eq_getElem hi, e]) (List.getElem?_eq_getElem hi')
    exact ⟨T, e'⟩
  · rintro i v z' rs C m' mu' s' hv hz ⟨rfl, hK⟩ S' hmu
    have hi : i < vs.length := (List.getElem?_eq_some_iff.mp hv).1
    have hi' : i < row.length := by rw [← hr.1]; exact hi
    obtain ⟨T, t, u, rfl, hT⟩ := hr.2 i v row[i] hv (List.getElem?_eq_getElem hi')
    refine r_assign2 S' hh (IsTuple.up hT S'.keep) (fun s₂ S₂ => ?_) hkind hx hy rfl
    refine wpAny_tests_nil ⟨fun _ => ?_, fun e => (by cases e)⟩
    refine r_local S₂ (v := .int row[i].1 t) rfl ?_ hkind hx rfl
    refine ce (Sub.refl _) ⟨rfl, ?_⟩ S₂
    rw [take_succ_map _ (List.getElem?_eq_getElem hi')]
    exact hK.append1 ⟨t, rfl⟩
  · obtain ⟨rfl, hK⟩ := hK
    rw [hr.1, List.take_length] at hK
    exact done rs D o hK hlo
end

section
variable {prog : Program} {w : World} {A : Around} {s : Shared}
theorem law_stands {n : Nat} {R : Result → Shared → Prop} {ra : Addr} {row : Row} {p : Nat} {t : Tok} (T : TF w s.heap) (hA : Lo n A) (hn : n ≤ 60) (hr : RowAt s.heap ra row) (hsz : row.length < 1000) (hp : p < 1000)
   (h : ∀ s', Same s s' → Sub s.heap s'.heap → R (.ok (.ret (.bool (stands row p)))) s')
   : codeAny (model prog w) A (.call (.ref 189) ⟨[.ref ra, .int p t], []⟩) R s := by
  walk_at "enterP"
  case T => exact T
  case hA => exact hA
  case hn => omega
  intro L A' s₁ S' hA'
  have S : St w s.heap L [("place", .int p t), ("row", .ref ra)] [] s s₁ := S'
  clear S'
  refine r_execs_cons ?_
  refine r_AssignListComp [] rfl ?_
  walk_at "go"
  rename St _ _ _ _ _ _ _ => S
  obtain ⟨vs, hvl, hva⟩ := hr
  refine r_cutL S (hvl.up S.keep) (IsPart.int _ _) (IsPart.int _ _) (by rw [hva.1]; omega) (pick_run vs p (p + 3)) fun c s₂ o₂ hl₂ S₂ => ?_
  clear S
  obtain ⟨z₂, hz₂, S, hc⟩ := S₂.freezeL hl₂
  clear S₂
  have hcut : All2 (SgnAt z₂) ((vs.drop p).take (p + 3 - p)) ((row.drop p).take 3) := by
    rw [Nat.add_sub_cancel_left]
    exact ((hva.drop p).take 3).mono fun _ _ y => y.up hz₂
  refine compSign S hA'.1 hc hcut (by simp; omega) (fun rs D o hrs hlo => hand_assign fun s₃ S₃ => ?_)
  clear S
  have hlen : rs.length = min 3 (row.length - p) := by rw [hrs.1]; simp
  walk_at "go"
  rename St _ _ _ _ _ _ _ => S
  refine r_lenL S (IsL.of (S.get 0 rfl) hlo) (by omega) fun t₄ s₄ S₄ => ?_
  clear S
  walk_at "go"
  have fin : ∀ {b : Bool} {s' : Shared} {m' : List (Str × Value)} {mu' : List (Addr × Obj)}, b = stands row p → St w z₂ L m' mu' s s' → R (.ok (.ret (.bool b))) s' := fun e S => by rw [e]; exact h _ S.same (hz₂.trans S.keep)
  refine ⟨fun hb => ?_, fun hb => ?_⟩
  · have hrl : rs.length = 3 := by have : ((rs.length : Int) = 3) := by simpa using hb
                                   omega
    obtain ⟨q0, q1, q2, qr, hq⟩ : ∃ q0 q1 q2 qr, row.drop p = q0 :: q1 :: q2 :: qr := by
      have : 3 ≤ (row.drop p).length := by simp; omega
      match row.drop p, this with
      | q0 :: q1 :: q2 :: qr, _ => exact ⟨q0, q1, q2, qr, rfl⟩
    have hst : stands row p = (q0.2 == 61 && isD q1.2 && isD q2.2) := by unfold stands; rw [hq]
    rw [hq] at hrs
    obtain ⟨v0, hv0, u0, rfl⟩ := hrs.get (i := 0) (b := q0.2) rfl
    obtain ⟨v1, hv1, u1, rfl⟩ := hrs.get (i := 1) (b := q1.2) rfl
    obtain ⟨v2, hv2, u2, rfl⟩ := hrs.get (i := 2) (b := q2.2) rfl
    walk_at "go"
    rename St _ _ _ _ _ _ _ => S
    refine r_itemN 0 (IsL.of (S.get 0 rfl) hlo) rfl (by omega) hv0 ?_
    walk_at "go"
    refine ⟨fun hb => ?_, fun hb => ?_⟩
    · walk_at "go"
      rename St _ _ _ _ _ _ _ => S
      refine r_itemN 1 (IsL.of (S.get 0 rfl) hlo) rfl (by omega) hv1 ?_
      walk_at "go"
      refine ⟨fun hb1 => ?_, fun hb1 => ?_⟩
      · walk_at "go"
        rename St _ _ _ _ _ _ _ => S
        refine r_itemN 2 (IsL.of (S.get 0 rfl) hlo) rfl (by omega) hv2 ?_
        walk_at "go"
        rename St _ _ _ _ _ _ _ => S
        refine fin ?_ S
        have e0 : (q0.2 == 61) = true := by simpa using hb
        rw [hst, e0]
        show _ = (true && isD q1.2 && isD q2.2)
        unfold isD
        rw [hb1]; rfl
      · rename St _ _ _ _ _ _ _ => S
        refine fin ?_ S
        rw [hb1, hst]
        unfold isD
        rw [hb1]; simp
    · rename St _ _ _ _ _ _ _ => S
      refine fin ?_ S
      have e0 : (q0.2 == 61) = false := by simpa using hb
      rw [hb, hst, e0]; rfl
  · rename St _ _ _ _ _ _ _ => S
    refine fin ?_ S
    rw [hb]
    have hrl : rs.length ≠ 3 := by have : ¬ ((rs.length : Int) = 3) := by simpa using hb
                                   omega
    unfold stands
    have : (row.drop p).length < 3 := by simp; omega
    match row.drop p, this with
    | [], _ => rfl
    | [_], _ => rfl
    | [_, _], _ => rfl
end

noncomputable def TxIs (v : Value) (l : List Nat) : Prop := ∃ u, v = .str (tx l) u
theorem strsAre_of {rs : List Value} {ls : List (List Nat)} (h : All2 TxIs rs ls) : StrsAre rs (ls.map tx) := by
  induction rs generalizing ls with
  | nil =>
    cases ls with
    | nil => exact .nil
    | cons => cases h.1
  | cons v r ih =>
    cases ls with
    | nil => cases h.1
    | cons l k =>
      obtain ⟨u, rfl⟩ := h.2 0 v l rfl rfl
      refine .cons _ _ (ih ⟨by simpa using h.1, fun i a b ha hb => h.2 (i + 1) a b ha hb⟩)
theorem join_tx (ls : List (List Nat)) : Txt.join (tx []) (ls.map tx) = tx ls.flatten := by
  have base : ∀ ls : List (List Nat), Str.join (tx []) (ls.map tx) = tx ls.flatten := by
    intro ls
    induction ls with
    | nil => rfl
    | cons l k ih =>
      cases k with
      | nil => simp [Str.join]
      | cons l' k' =>
        show tx l ++ tx [] ++ Str.join (tx []) ((l' :: k').map tx) = _
        rw [ih, tx_append, tx_append]
        simp
  rw [show Txt.join (tx []) (ls.map tx) = Str.join (tx []) (ls.map tx) from StrLaws.glued_eq_join _ _]
  exact base ls
section
variable {prog : Program} {w : World} {A : Around} {E : Value → Shared → Prop} {s s₀ : Shared} {z : Heap} {L a : Addr} {m : List (Str × Value)} {mu : List (Addr × Obj)} {env : Env}
theorem r_join {rs : List Value} {ls : List (List Nat)} {t : Tok} {Q : Value → Shared → Prop} (S : St w z L m mu s₀ s) (hl : IsL s.heap a rs) (hr : All2 TxIs rs ls) (hn : ls.flatten.length < 100000) (h : ∀ t s', St w z L m mu s₀ s' → Q (.str (tx ls.flatten) t) s') :
    wpAny (model prog w) A (call (.builtin "str.join") [.str (tx []) t, .ref a]) Q E s := by
  refine join_list hl.isList (ys := ls.map tx) (by simpa using strsAre_of hr) ?_ (fun t' k => by rw [join_tx]; exact h _ _ (S.tok _))
  have e1 : ((ls.map tx).map (·.length)).sum = ls.flatten.length := by
    rw [List.length_flatten, List.map_map]
    exact congrArg List.sum (List.map_congr_left fun l _ => tx_length l)
  have e2 : (tx []).length = 0 := rfl
  rw [e1, e2]
  omega
end

theorem flat_one (l : List Nat) : (l.map fun c => [c]).flatten = l := by
  induction l with
  | nil => rfl
  | cons p r ih => simp [ih]
noncomputable def textOf (row : Row) : List Nat := row.map (·.2)
section
variable {prog : Program} {w : World} {A : Around} {s : Shared}
theorem law_text {n : Nat} {R : Result → Shared → Prop} {ra : Addr} {row : Row} (T : TF w s.heap) (hA : Lo n A) (hn : n ≤ 60) (hr : RowAt s.heap ra row) (hsz : row.length < 1000)
   (h : ∀ s' t, Same s s' → Sub s.heap s'.heap → R (.ok (.ret (.str (tx (textOf row)) t))) s')
   : codeAny (model prog w) A (.call (.ref 199) ⟨[.ref ra], []⟩) R s := by
  walk_at "enterP"
  case T => exact T
  case hA => exact hA
  case hn => omega
  intro L A' s₁ S' hA'
  have S : St w s.heap L [("row", .ref ra)] [] s s₁ := S'
  clear S'
  walk_at "go"
  refine r_ListComp [] rfl ?_
  walk_at "go"
  rename St _ _ _ _ _ _ _ => S
  obtain ⟨vs, hvl, hva⟩ := hr
  refine compSign S hA'.1 hvl hva hsz (fun rs D o hrs hlo => hand_none fun s₃ S₃ => ?_)
  clear S
  walk_at "go"
  rename St _ _ _ _ _ _ _ => S
  have hfl : ((row.map (·.2)).map fun c => [c]).flatten = textOf row := flat_one _
  refine r_join S (IsL.of (S.get 0 rfl) hlo) (ls := (row.map (·.2)).map fun c => [c]) ⟨by rw [hrs.1]; simp, fun i a b ha hb => ?_⟩ (by rw [hfl]; simp [textOf]; omega) fun t s₄ S₄ => ?_
  · rw [List.getElem?_map] at hb
    obtain ⟨c, hc, rfl⟩ := Option.map_eq_some_iff.mp hb
    exact hrs.2 i a c ha hc
  · clear S
    walk_at "go"
    rw [hfl]
    exact h _ _ S₄.same S₄.keep
end
end Mine
namespace Mine
open PySem PySem.W PySem.Calls PyProof.Rows PySem.NumText
theorem filled3 : (fun (_ : OpenLaw) (_ : Params → Frag) => True) PySem.Challenge.rw_oc0237_01 hd.heap_1 := by k_fill; trivial

/-! ## cuts of texts; int(text, 16) -/
section
variable {prog : Program} {w : World} {A : Around} {E : Value → Shared → Prop} {s s₀ : Shared} {z : Heap} {L a : Addr} {m : List (Str × Value)} {mu : List (Addr × Obj)} {env : Env}
theorem r_cutS {value slice : Expr} {x y : List Nat} {t : Tok} {b : Addr} {lo hi : Option (Int × Tok)} {Q : Value → Shared → Prop} (S : St w z L m ((b, slO (partValue lo) (partValue hi)) :: mu) s₀ s) (hn : x.length < 1000000)
    (hr : Txt.slice (tx x) (lo.map (·.1)) (hi.map (·.1)) = tx y) (h : ∀ t s', St w z L m mu s₀ s' → Q (.str (tx y) t) s')
    (hs : subscripted slice false (.str (tx x) t) (.ref b) = operate [.ref b, .str (tx x) t] (getItem (.str (tx x) t) (.ref b)) := by with_unfolding_all rfl) :
    wpAny (model prog w) A (subscriptTail value slice (.str (tx x) t) (.ref b)) Q E s := by
  refine tail_any (typeIs_str s (tx x) t) F.slot_str_getitem.lookup (wpAny_getItem_str_slice (l := lo) (u := hi) (st := none) ⟨_, (S.mus _ (.head _)).1, rfl, rfl⟩ rfl ?_) hs
  have S' := S.drop (List.Sublist.cons _ (List.Sublist.refl mu))
  have hle := Txt.slice_le (tx x) (lo.map (·.1)) (hi.map (·.1))
  have : sliceMade (tx x) t lo hi none = if ((1 : Int) == 1 && (Builtin.Str.strSliceIndices (lo.map (·.1)) (hi.map (·.1)) 1 (tx x).length).length == (tx x).length) = true then .val (.str (tx x) t) else .str ⟨((Builtin.Str.strSliceIndices (lo.map (·.1)) (hi.map (·.1)) 1 (tx x).length).filterMap ((tx x).cps[·]?)).toArray⟩ := rfl
  rw [this]
  unfold Txt.slice at hr hle
  split at hr
  · rename_i e
    rw [if_pos e]
    rw [hr]
    exact h _ _ S'
  · rename_i e
    rw [if_neg e] at hle ⊢
    rw [hr] at hle ⊢
    exact ⟨by rw [sizeLine_eq, tx_length]; simp only [tx_length] at hle; omega, h _ _ (S'.tok _)⟩
theorem slice_run (x : List Nat) {p q : Nat} (hpq : p ≤ q) (hq : q ≤ x.length) : Txt.slice (tx x) (some (p : Int)) (some (q : Int)) = tx ((x.drop p).take (q - p)) := by
  unfold Txt.slice
  have e := StrLaws.sliced_plain (tx x) (a := p) (b := q) hpq (by rw [tx_length]; exact hq)
  have e2 := StrLaws.strSliceIndices_plain (a := p) (b := q) (len := (tx x).length) hpq (by rw [tx_length]; exact hq)
  split
  · rename_i h
    rw [e2] at h
    simp [tx_length] at h
    have : p = 0 := by omega
    subst this
    rw [List.drop_zero, List.take_of_length_le (by omega)]
  · rw [e]; simp [tx]
end

noncomputable def hexV (c : Nat) : Nat := if c = 51 then 3 else if c = 52 then 4 else if c = 67 then 12 else if c = 68 then 13 else 0
theorem isD_cases {c : Nat} (h : isD c = true) : c = 51 ∨ c = 52 ∨ c = 67 ∨ c = 68 := by
  unfold isD at h
  simpa using h
theorem read16 {a b : Nat} (ha : isD a = true) (hb : isD b = true) : (int_private% "readNumeral") 0 16 [a, b] = (int_private% "Numeral.value") ((hexV a * 16 + hexV b : Nat) : Int) := by
  rcases isD_cases ha with rfl | rfl | rfl | rfl <;> rcases isD_cases hb with rfl | rfl | rfl | rfl <;> rfl
theorem wp_text16 {M : Model} {A : Around} {E : Value → Shared → Prop} {s : Shared} {Q : Value → Shared → Prop} {v : Value} {text : List Nat} {n : Int}
    (hs : (text.takeWhile (· != 0)).length ≤ 640) (hr : (int_private% "readNumeral") 0 16 (text.takeWhile (· != 0)) = (int_private% "Numeral.value") n)
    (ha : ((text.takeWhile (· != 0)).length == text.length) = true) (h : Q (.int n s.toks) { s with toks := s.toks + 1 }) :
    wpAny M A ((int_private% "intFromText") v text 16) Q E s := by
  obtain ⟨hp, g, d, tk, os⟩ := s
  repeat (any_goals (first
    | assumption
    | (with_reducible refine wpAny_ite_true (decide_eq_true hs) ?_)
    | (with_reducible refine wpAny_ite_true (decide_eq_true ha) ?_)
    | wp_step))
  all_goals (try rw [hr])
  all_goals (try dsimp only)
  repeat (any_goals (first
    | assumption
    | (with_reducible refine wpAny_ite_true (decide_eq_true hs) ?_)
    | (with_reducible refine wpAny_ite_true (decide_eq_true ha) ?_)
    | wp_step))
set_option maxHeartbeats 4000000 in
theorem gives16 {a b : Nat} {t u : Tok} (ha : isD a = true) (hb : isD b = true) : Gives (Builtin.«int.__new__» ⟨[.type "int", .str (tx [a, b]) t, .int 16 u], []⟩) (.int ((hexV a * 16 + hexV b : Nat) : Int)) :=
  .of_wp fun M A E s Q h => by
    obtain ⟨hp, g, d, tk, os⟩ := s
    have f1 := F.conv_sub_int
    have f2 := F.madeHere_int
    have f6 : typeOf (.str (tx [a, b]) t) = pure (.type "str") := rfl
    have hk : ((int_private% "readNumeral") 0 16 ([a, b].takeWhile (· != 0)) = (int_private% "Numeral.value") ((hexV a * 16 + hexV b : Nat) : Int)) ∧ ([a, b].takeWhile (· != 0)).length ≤ 640 ∧ (([a, b].takeWhile (· != 0)).length == [a, b].length) = true ∧ (if (tx [a, b]).cps.all (· < 128) then (tx [a, b]).cps.toList else Unicode.numberText (tx [a, b]).cps.toList) = [a, b] := by
      have e := read16 ha hb
      rcases isD_cases ha with rfl | rfl | rfl | rfl <;> rcases isD_cases hb with rfl | rfl | rfl | rfl <;> exact ⟨e, by decide, by decide, by decide +kernel⟩
    have hk' := KIN.Hid.mk hk
    clear hk ha hb
    repeat (any_goals (first
      | assumption
      | ((with_reducible show wpAny _ _ ((int_private% "intFromText") _ _ _) _ _ _); refine wp_text16 (n := ((hexV a * 16 + hexV b : Nat) : Int)) (by rw [hk'.out.2.2.2]; exact hk'.out.2.1) (by rw [hk'.out.2.2.2]; exact hk'.out.1) (by rw [hk'.out.2.2.2]; exact hk'.out.2.2.1) ?_)
      | wp_step))
    all_goals first | exact ⟨_, rfl, h⟩ | skip
theorem typeCall_int_2 (a b : Value) : checkTypeCall "int" ⟨[a, b], []⟩ = pure () := by kernel_rfl
theorem newCall_int_2 (a b : Value) : checkBuiltinCall "int.__new__" ⟨[.type "int", a, b], []⟩ = pure () := by kernel_rfl
section
variable {prog : Program} {w : World} {A : Around} {E : Value → Shared → Prop} {s s₀ : Shared} {z : Heap} {L : Addr} {m : List (Str × Value)} {mu : List (Addr × Obj)}
theorem r_int16 {a b : Nat} {t u : Tok} {Q : Value → Shared → Prop} (S : St w z L m mu s₀ s) (ha : isD a = true) (hb : isD b = true) (h : ∀ t s', St w z L m mu s₀ s' → Q (.int ((hexV a * 16 + hexV b : Nat) : Int) t) s') :
    wpAny (model prog w) A (call (.type "int") [.str (tx [a, b]) t, .int 16 u]) Q E s :=
  callType_new F.called_int F.newNe_int (typeCall_int_2 _ _) (newCall_int_2 _ _) (fun obj => F.args_object_init_3 obj _ _) F.entry_int_new (gives16 ha hb).meets (show (Made.int _).post _ s from ⟨rfl, h _ _ (S.tok _)⟩)
end

section
variable {prog : Program} {w : World} {A : Around} {s : Shared}
theorem unquote {n : Nat} {R : Result → Shared → Prop} {a b c : Nat} {t : Tok} (T : TF w s.heap) (hA : Lo n A) (hn : n ≤ 80) (hb : isD b = true) (hc : isD c = true)
   (h : ∀ s' t, Same s s' → Sub s.heap s'.heap → R (.ok (.ret (.str (tx [hexV b * 16 + hexV c]) t))) s')
   : codeAny (model prog w) A (.call (.ref 28) ⟨[.str (tx [a, b, c]) t], []⟩) R s := by
  walk_at "enterP"
  case T => exact T
  case hA => exact hA
  case hn => omega
  intro L A' s₁ S' hA'
  have S : St w s.heap L [("s", .str (tx [a, b, c]) t)] [] s s₁ := S'
  clear S'
  walk_at "go"
  rename St _ _ _ _ _ _ _ => S
  refine r_cutS (lo := some (1, _)) (hi := some (3, _)) (y := [b, c]) S (by simp) (slice_run [a, b, c] (p := 1) (q := 3) (by decide) (by simp)) fun t₂ s₂ S₂ => ?_
  clear S
  walk_at "go"
  rename St _ _ _ _ _ _ _ => S
  refine r_int16 S hb hc fun t₃ s₃ S₃ => ?_
  clear S
  walk_at "go"
  rename St _ _ _ _ _ _ _ => S
  refine r_chr S (hexV b * 16 + hexV c) rfl ?_ fun t₄ s₄ S₄ => ?_
  · rcases isD_cases hb with rfl | rfl | rfl | rfl <;> rcases isD_cases hc with rfl | rfl | rfl | rfl <;> decide
  · clear S
    walk_at "go"
    exact h _ _ S₄.same S₄.keep
end
end Mine
namespace Mine
open PySem PySem.W PySem.Calls PyProof.Rows
theorem filled4 : (fun (_ : OpenLaw) (_ : Params → Frag) => True) PySem.Challenge.rw_oc0237_01 hd.heap_1 := by k_fill; trivial

/-! ## decode -/
noncomputable def okc (c : Nat) : Bool := [61, 51, 52, 67, 68, 46, 60, 76, 77, 195, 196, 204, 205, 211, 212, 220, 221].contains c
theorem okc_cases {c : Nat} (h : okc c = true) : c = 61 ∨ c = 51 ∨ c = 52 ∨ c = 67 ∨ c = 68 ∨ c = 46 ∨ c = 60 ∨ c = 76 ∨ c = 77 ∨ c = 195 ∨ c = 196 ∨ c = 204 ∨ c = 205 ∨ c = 211 ∨ c = 212 ∨ c = 220 ∨ c = 221 := by
  unfold okc at h
  simpa using h
theorem okc_line {c : Nat} (h : okc c = true) : Unicode.isLineBreak c = false := by
  rcases okc_cases h with rfl | rfl | rfl | rfl | rfl | rfl | rfl | rfl | rfl | rfl | rfl | rfl | rfl | rfl | rfl | rfl | rfl <;> decide +kernel
theorem okc_hex {c : Nat} (h : okc c = true) : [48, 49, 50, 51, 52, 53, 54, 55, 56, 57, 97, 98, 99, 100, 101, 102, 65, 66, 67, 68, 69, 70].contains c = isD c := by
  rcases okc_cases h with rfl | rfl | rfl | rfl | rfl | rfl | rfl | rfl | rfl | rfl | rfl | rfl | rfl | rfl | rfl | rfl | rfl <;> decide
theorem okc_made {a b : Nat} (ha : isD a = true) (hb : isD b = true) : okc (hexV a * 16 + hexV b) = true := by
  rcases isD_cases ha with rfl | rfl | rfl | rfl <;> rcases isD_cases hb with rfl | rfl | rfl | rfl <;> decide

/-- what decode makes of a text, in one reading -/
noncomputable def decF : List Nat → List Nat
  | 61 :: b :: c :: r => if isD b && isD c then (hexV b * 16 + hexV c) :: decF r else 61 :: decF (b :: c :: r)
  | a :: r => a :: decF r
  | [] => []

theorem ls_none (s : Str) : ∀ (l : List Nat) (st : StrLaws.LsSt), (∀ i ∈ l, Unicode.isLineBreak (s.cps.getD i 0) = false) → Id.run (forIn (m := Id) l st (StrLaws.lsBody s)) = st := by
  intro l
  induction l with
  | nil => intro st _; rfl
  | cons i r ih =>
    intro st h
    rw [List.forIn_cons]
    have e : StrLaws.lsBody s i st = pure (ForInStep.yield (st.fst, st.snd)) := by
      unfold StrLaws.lsBody
      rw [h i (.head _), Bool.and_false]
      rfl
    rw [e]
    exact ih st fun j hj => h j (.tail _ hj)
theorem lines_one {x : List Nat} (hx : x ≠ []) (h : ∀ c ∈ x, Unicode.isLineBreak c = false) : lineCuts (tx x) = [(0, x.length)] := by
  unfold lineCuts
  rw [StrLaws.ls_eq, ls_none _ _ _ (fun i hi => ?_)]
  · have hl : 0 < x.length := List.length_pos_iff.mpr hx
    unfold StrLaws.lsEnd
    simp [tx_length, hl]
  · have hi' : i < x.length := by
      rw [List.mem_range'] at hi
      obtain ⟨k, hk, e⟩ := hi
      rw [tx_length] at hk
      omega
    have : (tx x).cps.getD i 0 = x[i] := by simp [tx, hi']
    rw [this]
    exact h _ (List.getElem_mem hi')
theorem rstrip_end {x : List Nat} : Txt.rstrip (tx (x ++ [46])) = tx (x ++ [46]) := by
  have hs : stripSame Unicode.isSpace false true (tx (x ++ [46])) = true := by
    unfold stripSame stripLo stripHi
    have : ((tx (x ++ [46])).cps.toList.drop 0).reverse.takeWhile Unicode.isSpace = [] := by
      simp only [tx, List.drop_zero, List.reverse_append, List.reverse_cons, List.reverse_nil, List.nil_append, List.cons_append]
      rw [List.takeWhile_cons_of_neg (by decide +kernel)]
    simp only [Bool.false_eq_true, if_false, if_true, this]
    simp
  show Txt.stripBy Unicode.isSpace false true _ = _
  unfold Txt.stripBy
  rw [if_pos hs]

section
variable {prog : Program} {w : World} {A : Around} {E : Value → Shared → Prop} {s s₀ : Shared} {z : Heap} {L a : Addr} {m : List (Str × Value)} {mu : List (Addr × Obj)} {env : Env}
theorem r_truthyS {x : List Nat} {t : Tok} {Q : Bool → Shared → Prop} (S : St w z L m mu s₀ s) (hn : x.length < 1000000) (h : ∀ s', St w z L m mu s₀ s' → Q (!x.isEmpty) s') : wpAny (model prog w) A (truthy (.str (tx x) t)) Q E s := by
  refine P.truthy_str (by rw [tx_length]; omega) ?_
  have e : (((tx x).length : Int) != 0) = !x.isEmpty := by
    rw [tx_length]
    cases x <;> simp
    omega
  rw [e]
  exact h _ (S.tok _)
theorem r_itemLastS {value slice : Expr} {x : List Nat} {t u : Tok} {c : Nat} {Q : Value → Shared → Prop} (S : St w z L m mu s₀ s) (hn : x.length < 1000000) (h : ∀ t s', St w z L m mu s₀ s' → Q (.str (tx [c]) t) s')
    (hs : subscripted slice false (.str (tx (x ++ [c])) t) (.int (-1) u) = operate [.str (tx (x ++ [c])) t, .int (-1) u] (getItem (.str (tx (x ++ [c])) t) (.int (-1) u)) := by with_unfolding_all rfl) :
    wpAny (model prog w) A (subscriptTail value slice (.str (tx (x ++ [c])) t) (.int (-1) u)) Q E s := by
  refine tail_any (typeIs_str s _ t) F.slot_str_getitem.lookup (P.getItem_str (by decide) ?_ (h _ _ (S.tok _))) hs
  rw [tx_length, seqIndex?_neg_one (by simp)]
  simp [tx]
theorem r_splitlines {x : List Nat} {t : Tok} {Q : Value → Shared → Prop} (S : St w z L m mu s₀ s) (hx : x ≠ []) (hl : ∀ c ∈ x, Unicode.isLineBreak c = false) (hn : x.length < 1000000) (h : ∀ b s' o, LsO o [.str (tx x) t] → St w z L m ((b, o) :: mu) s₀ s' → Q (.ref b) s') :
    wpAny (model prog w) A (call (.builtin "str.splitlines") [.str (tx x) t]) Q E s := by
  have hc := lines_one hx hl
  refine call_meets F.slot_str_splitlines (typeIs_str s _ t) F.entry_str_splitlines (F.args_str_splitlines_1 _) (meets_str_splitlines (tx x) t (by rw [tx_length, sizeLine_eq]; omega) (by rw [hc, sizeLine_eq]; simp)) ?_
  rw [hc, tx_length, if_pos (by simp)]
  exact h _ _ _ ⟨0, rfl⟩ (S.push _)
theorem r_rstrip {x : List Nat} {t : Tok} {Q : Value → Shared → Prop} (S : St w z L m mu s₀ s) (hn : x.length < 1000000) (h : ∀ t s', St w z L m mu s₀ s' → Q (.str (tx (x ++ [46])) t) s') :
    wpAny (model prog w) A (call (.builtin "str.rstrip") [.str (tx (x ++ [46])) t]) Q E s :=
  SC.rstrip (fun t' k => by rw [rstrip_end]; exact h _ _ (S.tok _)) (by rw [tx_length, sizeLine_eq]; simp; omega)
theorem r_endswith {x y : List Nat} {t u : Tok} {Q : Value → Shared → Prop} (h : Q (.bool true) s) :
    wpAny (model prog w) A (call (.builtin "str.endswith") [.str (tx (x ++ y)) t, .str (tx y) u]) Q E s := by
  refine SC.endswith ?_
  have : Txt.endswith (tx (x ++ y)) (tx y) = true := by
    unfold Txt.endswith
    rw [StrLaws.subAt_eq]
    simp only [tx_length, tx_cps, List.length_append]
    rw [Nat.add_sub_cancel]
    simp
  rw [this]; exact h
theorem slice_butLast (x : List Nat) (c : Nat) : Txt.slice (tx (x ++ [c])) none (some (-1)) = tx x := by
  have e := slice_run (x ++ [c]) (p := 0) (q := x.length) (by omega) (by simp)
  simp at e
  rw [← e]
  unfold Txt.slice
  rw [StrLaws.sliceIdx_none_lo, StrLaws.sliceIdx_neg_hi _ _ (by decide) (by rw [tx_length]; simp; omega)]
  have : (-1 : Int) + ((tx (x ++ [c])).length : Int) = (x.length : Int) := by rw [tx_length]; simp; omega
  rw [this]
end
theorem decF_ne {c : Nat} {r : List Nat} (hc : c ≠ 61) : decF (c :: r) = c :: decF r := by
  rw [decF]
  intro b d r h _
  exact hc h
theorem decF_length (x : List Nat) : (decF x).length ≤ x.length := by
  fun_induction decF x with
  | case1 b c r h ih => simp; omega
  | case2 b c r h ih => simp at ih ⊢; omega
  | case3 a r h ih => simp; omega
  | case4 => simp
theorem decF_esc {b c : Nat} {r : List Nat} (hb : isD b = true) (hc : isD c = true) : decF (61 :: b :: c :: r) = (hexV b * 16 + hexV c) :: decF r := by
  rw [decF, hb, hc]; rfl
theorem decF_other {r : List Nat} (h : ∀ b c r', r = b :: c :: r' → (isD b && isD c) = false) : decF (61 :: r) = 61 :: decF r := by
  cases r with
  | nil => rfl
  | cons b r =>
    cases r with
    | nil => rfl
    | cons c r => rw [decF, h b c r rfl]; rfl

section
variable {prog : Program} {w : World} {A : Around} {s : Shared}
set_option maxHeartbeats 4000000 in
theorem decode {n : Nat} {R : Result → Shared → Prop} {x : List Nat} {t : Tok} (T : TF w s.heap) (hA : Lo n A) (hn : n ≤ 70) (hx : ∀ c ∈ x, okc c = true) (hsz : x.length < 1000)
   (h : ∀ s' t, Same s s' → Sub s.heap s'.heap → R (.ok (.ret (.str (tx (decF (x ++ [46]))) t))) s')
   : codeAny (model prog w) A (.call (.ref 36) ⟨[.str (tx (x ++ [46])) t], []⟩) R s := by
  refine' enter_pure ?T ?hA ?hn ?ho ?hcd ?hbind ?_ ?hloc ?hcell ?hco ?hgen ?hk
  case ho => k_is
  case hcd => k_is
  case hbind => exact binds_K (TF.K T) rfl (by k_is) rfl rfl rfl
  case hloc => rfl
  case hcell => decide
  case hco => rfl
  case hgen => rfl
  case hk => rfl
  case T => exact T
  case hA => exact hA
  case hn => omega
  intro L A' s₁ S' hA'
  have S : St w s.heap L [("eol", .str (tx [10]) 196), ("encoded", .str (tx (x ++ [46])) t)] [] s s₁ := S'
  clear S'
  walk_at "go"
  walk_at "if"
  walk_at "go"
  rename St _ _ _ _ _ _ _ => S
  refine r_truthyS S (by simp; omega) fun s₂ S₂ => ?_
  clear S
  refine ⟨fun hb => (by simp at hb), fun _ => ?_⟩
  walk_at "go"
  rename St _ _ _ _ _ _ _ => S
  rename St _ _ _ _ _ _ _ => S
  have hok : ∀ c ∈ x ++ [46], okc c = true := fun c hc => by
    rcases List.mem_append.mp hc with hc | hc
    · exact hx c hc
    · rw [List.mem_singleton.mp hc]; rfl
  refine r_splitlines S (by simp) (fun c hc => okc_line (hok c hc)) (by simp; omega) fun b s₃ o₃ hl₃ S₃ => ?_
  clear S
  obtain ⟨z₃, hz₃, S, hb⟩ := S₃.freezeL hl₃
  clear S₃
  generalize hy : x ++ [46] = y at *
  have hylen : y.length = x.length + 1 := by rw [← hy]; simp
  have hylast : ∀ {i c}, y[i]? = some c → i + 1 = y.length → c = 46 := fun {i c} h e => by
    rw [← hy] at h
    have : i = x.length := by omega
    subst this
    simpa using h.symm
  refine r_forList S hA'.1 hb (fun i z' m' mu' => z' = z₃ ∧ mu' = [] ∧ ∃ r d t t', m' = (Str.ofString "decoded", Value.str (tx d) t) :: (Str.ofString "eol", Value.str (tx [10]) 196) :: (Str.ofString "encoded", Value.str (tx y) t') :: r ∧ d = if i = 0 then [] else decF y ++ [10]) ⟨rfl, rfl, _, [], _, _, rfl, rfl⟩ ?_ ?_
  · rintro i v z' m' mu' I o' s' hv hz ⟨rfl, rfl, r, d, t, t', rfl, hd⟩ S
    have hi : i = 0 := by have := (List.getElem?_eq_some_iff.mp hv).1; simp at this; exact this
    subst hi
    have hd : d = [] := hd
    subst hd
    have hv' : v = .str (tx y) _ := (by simpa using hv : _ = v).symm
    subst hv'
    refine wpAny_assign_Name ?_
    walk_at "go"
    rename St _ _ _ _ _ _ _ => S
    rw [← hy]
    refine r_rstrip S (by omega) fun t₄ s₄ S₄ => ?_
    rw [hy]
    clear S
    walk_at "go"
    walk_at "if"
    walk_at "go"
    rename St _ _ _ _ _ _ _ => S
    refine r_truthyS S (by omega) fun s₅ S₅ => ?_
    clear S
    refine ⟨fun hb => ?_, fun _ => ?_⟩
    · have : y = [] := by simpa using hb
      rw [this] at hylen; simp at hylen
    walk_at "go"
    rename St _ _ _ _ _ _ _ => S
    refine r_lenS S (by omega) fun t₆ s₆ S₆ => ?_
    clear S
    walk_at "go"
    refine r_while (fun k s' => ∃ r i d t₁ t₂ t₃ t₄ t₅, St w z' L ((Str.ofString "line", Value.str (tx y) t₁) :: (Str.ofString "i", Value.int (i : Nat) t₂) :: (Str.ofString "n", Value.int (y.length : Nat) t₃) :: (Str.ofString "decoded", Value.str (tx d) t₄) :: (Str.ofString "eol", Value.str (tx [10]) 196) :: (Str.ofString "encoded", Value.str (tx y) t₅) :: r) [(I, o')] s s' ∧ k = y.length - i ∧ i ≤ y.length ∧ d.length ≤ 2 * i ∧
      d ++ (if i < y.length then decF (y.drop i) ++ [10] else []) = decF y ++ [10]) (y.length - 0) ?_ ?_
    · rename St _ _ _ _ _ _ _ => S
      exact ⟨_, 0, [], _, _, _, _, _, S.norm [("line", .str (tx y) _), ("i", .int (0 : Nat) _), ("n", .int (y.length : Nat) _), ("decoded", .str (tx []) _), ("eol", .str (tx [10]) 196), ("encoded", .str (tx y) _)] (by walk_at "has"), rfl, Nat.zero_le _, Nat.le_refl _, by rw [if_pos (by omega)]; simp⟩
    rintro k s₇ ⟨r, i, d, t₁, t₂, t₃, t₄, t₅, S, hk, hi, hdl, hinv⟩
    walk_at "go"
    refine ⟨fun hb => ?_, fun hb => ?_⟩
    · have hiN : i < y.length := by simpa using hb
      obtain ⟨c, hc⟩ : ∃ c, y[i]? = some c := ⟨_, List.getElem?_eq_getElem hiN⟩
      have hcok : okc c = true := hok c (List.mem_of_getElem? hc)
      have hdrop : y.drop i = c :: y.drop (i + 1) := by
        have e : c = y[i] := by rw [List.getElem?_eq_getElem hiN] at hc; exact (Option.some.inj hc).symm
        rw [e, List.drop_eq_getElem_cons hiN]
      rw [if_pos hiN] at hinv
      walk_at "go"
      rename St _ _ _ _ _ _ _ => S
      refine r_itemS S i rfl (by omega) hc fun t₆ s₈ S₈ => ?_
      clear S
      walk_at "go"
      rename St _ _ _ _ _ _ _ => S
      refine r_seqJ (fun s'' => ∃ r i' d' t₁ t₂ t₃ t₄ t₅, St w z' L ((Str.ofString "line", Value.str (tx y) t₁) :: (Str.ofString "i", Value.int (i' : Nat) t₂) :: (Str.ofString "n", Value.int (y.length : Nat) t₃) :: (Str.ofString "decoded", Value.str (tx d') t₄) :: (Str.ofString "eol", Value.str (tx [10]) 196) :: (Str.ofString "encoded", Value.str (tx y) t₅) :: r) [(I, o')] s s'' ∧ i < i' ∧ i' ≤ y.length ∧ d'.length < 2 * i' ∧
        d' ++ decF (y.drop i') = d ++ decF (y.drop i)) ?_ ?_
      · refine r_If ?_
        walk_at "go"
        refine ⟨fun hb1 => ?_, fun hb1 => ?_⟩
        · have hc61 : c ≠ 61 := by simpa using hb1
          walk_at "go"
          rename St _ _ _ _ _ _ _ => S
          refine r_iaddS S (by simp; omega) fun t₉ s₉ S₉ => ?_
          clear S
          walk_at "go"
          rename St _ _ _ _ _ _ _ => S
          exact ⟨_, i + 1, d ++ [c], _, _, _, _, _, S.norm [("line", .str (tx y) _), ("i", .int ((i + 1 : Nat) : Int) _), ("n", .int (y.length : Nat) _), ("decoded", .str (tx (d ++ [c])) _), ("eol", .str (tx [10]) 196), ("encoded", .str (tx y) _)] (by walk_at "has"), by omega, by omega, by simp; omega, by rw [hdrop, decF_ne hc61]; simp⟩
        · have hc61 : c = 61 := by simpa using hb1
          subst hc61
          have hnl : i + 1 ≠ y.length := fun e => by have := hylast hc e; cases this
          walk_at "if"
          walk_at "go"
          refine ⟨fun hb2 => ?_, fun _ => ?_⟩
          · have : (i : Int) + 1 = y.length := by simpa using hb2
            omega
          with_reducible refine r_execs_cons ?_
          with_reducible refine r_If ?_
          rename St _ _ _ _ _ _ _ => S
          refine r_midS S (fun b => (b = true → ∃ b₁ b₂ r', y.drop (i + 1) = b₁ :: b₂ :: r' ∧ isD b₁ = true ∧ isD b₂ = true) ∧ (b = false → ∀ b c r', y.drop (i + 1) = b :: c :: r' → (isD b && isD c) = false)) ?_ ?_
          · walk_at "go"
            refine ⟨fun hb3 => ?_, fun hb3 => ?_⟩
            · have hi2 : i + 2 < y.length := by have : (i : Int) + 2 < y.length := by simpa using hb3
                                                omega
              obtain ⟨c₁, hc₁⟩ : ∃ c, y[i + 1]? = some c := ⟨_, List.getElem?_eq_getElem (by omega)⟩
              obtain ⟨c₂, hc₂⟩ : ∃ c, y[i + 2]? = some c := ⟨_, List.getElem?_eq_getElem hi2⟩
              have hd2 : y.drop (i + 1) = c₁ :: c₂ :: y.drop (i + 3) := by
                have e1 : c₁ = y[i + 1] := by rw [List.getElem?_eq_getElem (by omega)] at hc₁; exact (Option.some.inj hc₁).symm
                have e2 : c₂ = y[i + 2] := by rw [List.getElem?_eq_getElem hi2] at hc₂; exact (Option.some.inj hc₂).symm
                rw [e1, e2, List.drop_eq_getElem_cons (by omega : i + 1 < y.length), List.drop_eq_getElem_cons hi2]
              walk_at "go"
              rename St _ _ _ _ _ _ _ => S
              refine r_itemS S (i + 1) (by omega) (by omega) hc₁ fun t₉ s₉ S₉ => ?_
              clear S
              walk_at "go"
              refine r_inS (x := [48, 49, 50, 51, 52, 53, 54, 55, 56, 57, 97, 98, 99, 100, 101, 102, 65, 66, 67, 68, 69, 70]) ?_
              rw [okc_hex (hok c₁ (List.mem_of_getElem? hc₁))]
              walk_at "go"
              refine ⟨fun hb4 => ?_, fun hb4 => ?_⟩
              · walk_at "go"
                rename St _ _ _ _ _ _ _ => S
                refine r_itemS S (i + 2) (by omega) (by omega) hc₂ fun t₉ s₉ S₉ => ?_
                clear S
                walk_at "go"
                refine r_inS (x := [48, 49, 50, 51, 52, 53, 54, 55, 56, 57, 97, 98, 99, 100, 101, 102, 65, 66, 67, 68, 69, 70]) ?_
                rw [okc_hex (hok c₂ (List.mem_of_getElem? hc₂))]
                walk_at "go"
                rename St _ _ _ _ _ _ _ => S
                refine ⟨fun hb5 => ?_, fun hb5 => ?_⟩
                · walk_at "go"
                  exact ⟨S, fun _ => ⟨c₁, c₂, _, hd2, hb4, hb5⟩, fun e => (by cases e)⟩
                · exact ⟨S, fun e => (by cases e), fun _ b c r' e => by rw [hd2] at e; cases e; rw [hb4, hb5]; rfl⟩
              · rename St _ _ _ _ _ _ _ => S
                exact ⟨S, fun e => (by cases e), fun _ b c r' e => by rw [hd2] at e; cases e; rw [hb4]; rfl⟩
            · rename St _ _ _ _ _ _ _ => S
              refine ⟨S, fun e => (by cases e), fun _ b c r' e => ?_⟩
              have hi2 : ¬ i + 2 < y.length := by have : ¬ (i : Int) + 2 < y.length := by simpa using hb3
                                                  omega
              have := congrArg List.length e
              simp at this
              omega
          · clear S
            rintro b₀ s₉ S ⟨hyes, hno⟩
            refine ⟨fun hb3 => ?_, fun hb3 => ?_⟩
            · obtain ⟨b₁, b₂, r', hd2, hD1, hD2⟩ := hyes hb3
              have hlen3 : i + 3 ≤ y.length := by have := congrArg List.length hd2; simp at this; omega
              have hd3 : y.drop (i + 3) = r' := by
                have : y.drop (i + 3) = (y.drop (i + 1)).drop 2 := by rw [List.drop_drop]
                rw [this, hd2]; rfl
              walk_at "go"
              rename St _ _ _ _ _ _ _ => S
              refine r_cutS (lo := some ((i : Int), _)) (hi := some ((i : Int) + 3, _)) (y := [61, b₁, b₂]) S (by omega) ?_ fun t₉ s₉ S₉ => ?_
              · have := slice_run y (p := i) (q := i + 3) (by omega) hlen3
                rw [hdrop, hd2, Nat.add_sub_cancel_left] at this
                simpa using this
              clear S
              walk_at "go"
              rename St _ _ _ _ _ _ _ => S
              refine wpAny_call (unquote S.top hA' (by omega) hD1 hD2 fun s₁₀ t₁₀ sm sb => ?_)
              have S₁₀ := S.grow sb sm
              clear S
              walk_at "go"
              rename St _ _ _ _ _ _ _ => S
              refine r_iaddS S (by simp; omega) fun t₁₁ s₁₁ S₁₁ => ?_
              clear S
              walk_at "go"
              rename St _ _ _ _ _ _ _ => S
              exact ⟨_, i + 3, d ++ [hexV b₁ * 16 + hexV b₂], _, _, _, _, _, S.norm [("line", .str (tx y) _), ("i", .int ((i + 3 : Nat) : Int) _), ("n", .int (y.length : Nat) _), ("decoded", .str (tx (d ++ [hexV b₁ * 16 + hexV b₂])) _), ("eol", .str (tx [10]) 196), ("encoded", .str (tx y) _)] (by walk_at "has"), by omega, by omega, by simp; omega, by rw [hdrop, hd2, decF_esc hD1 hD2, hd3]; simp⟩
            · walk_at "go"
              rename St _ _ _ _ _ _ _ => S
              refine r_iaddS S (by simp; omega) fun t₉ s₉ S₉ => ?_
              clear S
              walk_at "go"
              rename St _ _ _ _ _ _ _ => S
              exact ⟨_, i + 1, d ++ [61], _, _, _, _, _, S.norm [("line", .str (tx y) _), ("i", .int ((i + 1 : Nat) : Int) _), ("n", .int (y.length : Nat) _), ("decoded", .str (tx (d ++ [61])) _), ("eol", .str (tx [10]) 196), ("encoded", .str (tx y) _)] (by walk_at "has"), by omega, by omega, by simp; omega, by rw [hdrop, decF_other (hno hb3)]; simp⟩
      · rename St _ _ _ _ _ _ _ => S
        clear S
        rintro s'' ⟨r, i', d', t₁, t₂, t₃, t₄, t₅, S, hi1, hi2, hdl', hinv'⟩
        walk_at "if"
        walk_at "go"
        refine ⟨fun hb1 => ?_, fun hb1 => ?_⟩
        · have hiN' : i' = y.length := by have : (i' : Int) = y.length := by simpa using hb1
                                          omega
          walk_at "go"
          rename St _ _ _ _ _ _ _ => S
          refine r_iaddS S (by simp; omega) fun t₉ s₉ S₉ => ?_
          clear S
          walk_at "go"
          rename St _ _ _ _ _ _ _ => S
          refine lp_next (y.length - i') (by omega) ⟨_, i', d' ++ [10], _, _, _, _, _, S.norm [("line", .str (tx y) _), ("i", .int (i' : Nat) _), ("n", .int (y.length : Nat) _), ("decoded", .str (tx (d' ++ [10])) _), ("eol", .str (tx [10]) 196), ("encoded", .str (tx y) _)] (by walk_at "has"), rfl, hi2, by simp; omega, ?_⟩
          rw [if_neg (by omega), List.append_nil, ← hinv, ← List.append_assoc, ← hinv', hiN', List.drop_length]
          simp [decF]
        · have hiN' : i' ≠ y.length := by have : ¬ (i' : Int) = y.length := by simpa using hb1
                                          omega
          walk_at "go"
          rename St _ _ _ _ _ _ _ => S
          refine lp_next (y.length - i') (by omega) ⟨_, i', d', _, _, _, _, _, S, rfl, hi2, by omega, ?_⟩
          rw [if_pos (by omega), ← hinv, ← List.append_assoc, ← List.append_assoc, ← hinv']
    · have hiN : i = y.length := by have : ¬ (i : Int) < y.length := by simpa using hb
                                    omega
      rw [if_neg (by omega), List.append_nil] at hinv
      walk_at "go"
      rename St _ _ _ _ _ _ _ => S
      refine fp_next (Sub.refl _) ⟨rfl, rfl, _, d, t₄, t₅, rfl, ?_⟩ (S.norm [("decoded", .str (tx d) t₄), ("eol", .str (tx [10]) 196), ("encoded", .str (tx y) t₅)] (by walk_at "has"))
      simpa using hinv
  · rintro z' m' mu' s₄ _ ⟨rfl, rfl, r, d, t₁, t₂, rfl, hd⟩ S
    have hd : d = decF y ++ [10] := by simpa using hd
    subst hd
    walk_at "go"
    walk_at "if"
    walk_at "go"
    rename St _ _ _ _ _ _ _ => S
    rw [← hy]
    refine r_itemLastS S (by omega) fun t₉ s₉ S₉ => ?_
    clear S
    walk_at "go"
    refine ⟨fun _ => ?_, fun hb => (by cases hb)⟩
    walk_at "go"
    refine r_endswith ?_
    walk_at "go"
    refine ⟨fun _ => ?_, fun hb => (by cases hb)⟩
    walk_at "go"
    refine ⟨fun _ => ?_, fun hb => (by cases hb)⟩
    walk_at "go"
    rename St _ _ _ _ _ _ _ => S
    refine r_lenS S (by simp) fun t₉ s₉ S₉ => ?_
    clear S
    walk_at "go"
    rename St _ _ _ _ _ _ _ => S
    have hdl : (decF y).length ≤ y.length := decF_length y
    refine r_cutS (lo := none) (hi := some (-1, _)) (y := decF y) S (by simp; omega) (slice_butLast _ _) fun t₉ s₉ S₉ => ?_
    clear S
    walk_at "go"
    rename St _ _ _ _ _ _ _ => S
    exact h _ _ S.same (hz₃.trans S.keep)
end
end Mine
namespace Mine
open PySem PySem.W PySem.Calls PyProof.Rows
theorem filled5 : (fun (_ : OpenLaw) (_ : Params → Frag) => True) PySem.Challenge.rw_oc0237_01 hd.heap_1 := by k_fill; trivial

/-! ## _law_read -/
noncomputable def IntsL (h : Heap) (v : Value) (l : List Int) : Prop := ∃ b rs, v = .ref b ∧ IsL h b rs ∧ All2 IntIs rs l
theorem IntsL.up {h h' : Heap} {v : Value} {l : List Int} (x : IntsL h v l) (k : Sub h h') : IntsL h' v l := let ⟨b, rs, e, hl, ha⟩ := x; ⟨b, rs, e, hl.up k, ha⟩
noncomputable def PartsAt (h : Heap) (a : Addr) (ps : List (List Int)) : Prop := ∃ vs, IsL h a vs ∧ All2 (IntsL h) vs ps
theorem PartsAt.up {h h' : Heap} {a : Addr} {ps : List (List Int)} (x : PartsAt h a ps) (k : Sub h h') : PartsAt h' a ps := let ⟨vs, hl, ha⟩ := x; ⟨vs, hl.up k, ha.mono fun _ _ y => y.up k⟩

section
variable {prog : Program} {w : World} {A : Around} {E : Value → Shared → Prop} {s s₀ : Shared} {z : Heap} {L a b : Addr} {m : List (Str × Value)} {mu : List (Addr × Obj)} {env : Env}
/-- two lists of ints compared -/
theorem r_eqInts {rs rs' : List Value} {l l' : List Int} {Q : Value → Shared → Prop} (hu : A.units < cLine) (hl : IsL s.heap a rs) (hl' : IsL s.heap b rs') (hr : All2 IntIs rs l) (hr' : All2 IntIs rs' l') (h : Q (.bool (l == l')) s) :
    wpAny (model prog w) A (compareOp .Eq (.ref a) (.ref b)) Q E s := by
  by_cases hsz : rs.length = rs'.length
  · refine SeqAt.eq_listAt (e := fun j => l.getD j 0 == l'.getD j 0) hl.isList hl'.isList (by simpa using hsz) hu (fun j h1 h2 => ?_) ?_
    · have h1' : j < rs.length := by simpa using h1
      have h2' : j < rs'.length := by simpa using h2
      have k1 : j < l.length := by rw [← hr.1]; exact h1'
      have k2 : j < l'.length := by rw [← hr'.1]; exact h2'
      obtain ⟨t, e⟩ := hr.2 j rs[j] l[j] (List.getElem?_eq_getElem h1') (List.getElem?_eq_getElem k1)
      obtain ⟨u, e'⟩ := hr'.2 j rs'[j] l'[j] (List.getElem?_eq_getElem h2') (List.getElem?_eq_getElem k2)
      have e1 : rs.toArray[j] = rs[j] := by simp
      have e2 : rs'.toArray[j] = rs'[j] := by simp
      rw [e1, e2, e, e']
      have g1 : l.getD j 0 = l[j] := by simp [k1]
      have g2 : l'.getD j 0 = l'[j] := by simp [k2]
      rw [g1, g2]
      exact SeqAt.EqAt.int_int _ _ _ _
    · have : (List.range rs.toArray.size).all (fun j => l.getD j 0 == l'.getD j 0) = (l == l') := by
        have hll : l.length = l'.length := by rw [← hr.1, ← hr'.1]; exact hsz
        rw [Bool.eq_iff_iff, List.all_eq_true, beq_iff_eq]
        constructor
        · intro h
          refine List.ext_getElem hll fun i h1 h2 => ?_
          have := h i (List.mem_range.mpr (by simp [hr.1]; exact h1))
          simpa [h1, h2] using this
        · rintro rfl i _; simp
      rw [this]; exact h
  · refine SeqAt.eq_list_lengthsAt hl.isList hl'.isList (by simpa using hsz) hu ?_
    have : (l == l') = false := by
      rw [beq_eq_false_iff_ne]
      rintro rfl
      exact hsz (hr.1.trans hr'.1.symm)
    rw [this] at h; exact h
end

/-- a row with the escape at place i read -/
noncomputable def readAt (row : Row) (i : Nat) (node : Int) : Row := row.take i ++ [(node, hexV (row.getD (i + 1) (0, 0)).2 * 16 + hexV (row.getD (i + 2) (0, 0)).2)] ++ row.drop (i + 3)
/-- a new tuple -/
noncomputable def NewSgn (h h' : Heap) (v : Value) (p : Int × Nat) : Prop := ∃ a t u, v = .ref a ∧ h.get? a = none ∧ h'.IsTuple a #[.int p.1 t, .str (tx [p.2]) u]

section
variable {prog : Program} {w : World} {A : Around} {s : Shared}
set_option maxHeartbeats 2000000 in
theorem law_read {n : Nat} {R : Result → Shared → Prop} {ra pa : Addr} {row : Row} {vs : List Value} {ps : List (List Int)} {k i : Nat} {node : Int} {t : Tok} (T : TF w s.heap) (hA : Lo n A) (hn : n ≤ 50) (hr : IsL s.heap ra vs)
   (G : Value → Int × Nat → Prop) (hG : ∀ v p, G v p → SgnAt s.heap v p) (hva : All2 G vs row) (hp : PartsAt s.heap pa ps) (hsz : row.length < 900) (hpz : ps.length < 900) (hnode : node = 100 + k)
   (hk : ∃ p, ps[k]? = some p ∧ p = (((row.drop i).take 3).map (·.1)) ∧ (∀ j, j < i → ((row.drop j).take 3).map (·.1) ≠ p))
   (hi : i + 2 < row.length) (hD1 : isD (row.getD (i + 1) (0, 0)).2 = true) (hD2 : isD (row.getD (i + 2) (0, 0)).2 = true)
   (h : ∀ s' D o vs', Same s s' → Sub s.heap s'.heap → s.heap.get? D = none → s'.heap.get? D = some o → LsO o vs' → All2 (fun v p => G v p ∨ NewSgn s.heap s'.heap v p) vs' (readAt row i node) → R (.ok (.ret (.ref D))) s')
   : codeAny (model prog w) A (.call (.ref 204) ⟨[.ref ra, .ref pa, .int node t], []⟩) R s := by
  walk_at "enterP"
  case T => exact T
  case hA => exact hA
  case hn => omega
  intro L A' s₁ S' hA'
  have S : St w s.heap L [("node", .int node t), ("parts", .ref pa), ("row", .ref ra)] [] s s₁ := S'
  clear S'
  have hvl : vs.length = row.length := hva.1
  walk_at "go"
  rename St _ _ _ _ _ _ _ => S
  refine r_lenL S (hr.up S.keep) (by omega) fun t₂ s₂ S₂ => ?_
  clear S
  walk_at "go"
  rename St _ _ _ _ _ _ _ => S
  obtain ⟨p, hpk, hpe, hpn⟩ := hk
  obtain ⟨pvs, hpl, hpa⟩ := hp
  obtain ⟨pv, hpv, pb, prs, rfl, hprs, hpint⟩ := hpa.get hpk
  have hkl : k < ps.length := (List.getElem?_eq_some_iff.mp hpk).1
  refine r_forRange row.length (by rw [hvl]) S hA'.1 (by omega) (fun j z' m' mu' => j ≤ i ∧ mu' = [] ∧ Sub s.heap z' ∧ ∃ r, m' = (Str.ofString "node", Value.int node t) :: (Str.ofString "parts", Value.ref pa) :: (Str.ofString "row", Value.ref ra) :: r) ⟨Nat.zero_le _, rfl, Sub.refl _, _, rfl⟩ ?_ ?_
  · clear S
    rintro j tj z' m' mu' I o' s₃ hj _ ⟨hji, rfl, hz, r, rfl⟩ S
    refine wpAny_assign_Name ?_
    walk_at "go"
    rename St _ _ _ _ _ _ _ => S
    refine r_cutL (mu := [(I, o')]) S ((hr.up hz).up S.keep) (IsPart.int _ _) (IsPart.int _ _) (by omega) (pick_run vs j (j + 3)) fun c s₄ o₄ hl₄ S₄ => ?_
    clear S
    obtain ⟨z₄, hz₄, S, hc⟩ := St.freezeL (mu := [(I, o')]) S₄ hl₄
    clear S₄
    have hz' : Sub s.heap z₄ := hz.trans hz₄
    have hcutG : All2 G ((vs.drop j).take (j + 3 - j)) ((row.drop j).take 3) := by
      rw [Nat.add_sub_cancel_left]
      exact (hva.drop j).take 3
    have hcut : All2 (SgnAt z₄) ((vs.drop j).take (j + 3 - j)) ((row.drop j).take 3) := hcutG.mono fun _ _ y => (hG _ _ y).up hz'
    walk_at "go"
    walk_at "if"
    walk_at "go"
    refine r_ListComp [] rfl ?_
    walk_at "go"
    rename St _ _ _ _ _ _ _ => S
    refine compMark S hA'.1 hc hcut (by simp; omega) (fun rs D o hrs hlo => hand_none fun s₅ S₅ => ?_)
    clear S
    walk_at "go"
    rename St _ _ _ _ _ _ _ => S
    refine r_itemN k ((hpl.up hz').up S.keep) (by omega) (by omega) hpv ?_
    refine r_eqInts (hA'.units (by omega)) (IsL.of (S.get 0 rfl) hlo) ((hprs.up hz').up S.keep) hrs hpint ?_
    walk_at "go"
    refine ⟨fun hb => ?_, fun hb => ?_⟩
    · have hji' : j = i := by
        by_cases e : j < i
        · exact absurd (beq_iff_eq.mp hb) (hpn j e)
        · omega
      subst hji'
      walk_at "go"
      rename St _ _ _ _ _ _ _ => S
      refine r_cutL (mu := [(D, o), (I, o')]) S ((hr.up hz').up S.keep) IsPart.none (IsPart.int _ _) (by omega) (pick_upto vs j) fun c₁ s₆ o₆ hl₆ S₆ => ?_
      clear S
      walk_at "go"
      rename St _ _ _ _ _ _ _ => S
      obtain ⟨q0, q1, q2, qr, hq⟩ : ∃ q0 q1 q2 qr, row.drop j = q0 :: q1 :: q2 :: qr := by
        have : 3 ≤ (row.drop j).length := by simp; omega
        match row.drop j, this with
        | q0 :: q1 :: q2 :: qr, _ => exact ⟨q0, q1, q2, qr, rfl⟩
      have hq1 : row.getD (j + 1) (0, 0) = q1 := by
        have : (row.drop j)[1]? = some q1 := by rw [hq]; rfl
        rw [List.getElem?_drop] at this
        simp [this]
      have hq2 : row.getD (j + 2) (0, 0) = q2 := by
        have : (row.drop j)[2]? = some q2 := by rw [hq]; rfl
        rw [List.getElem?_drop] at this
        simp [this]
      rw [hq1] at hD1
      rw [hq2] at hD2
      have htext : textOf ((row.drop j).take 3) = [q0.2, q1.2, q2.2] := by rw [hq]; rfl
      refine wpAny_call (law_text (row := (row.drop j).take 3) S.top hA' (by omega) ⟨_, hc.up S.keep, hcut.mono fun _ _ y => y.up S.keep⟩ (by simp; omega) fun s₇ t₇ sm₇ sb₇ => ?_)
      rw [htext]
      have S₇ := S.grow sb₇ sm₇
      clear S
      walk_at "go"
      rename St _ _ _ _ _ _ _ => S
      refine wpAny_call (unquote S.top hA' (by omega) hD1 hD2 fun s₈ t₈ sm₈ sb₈ => ?_)
      have S₈ := S.grow sb₈ sm₈
      clear S
      walk_at "go"
      rename St _ _ _ _ _ _ _ => S
      rename_i tb s₉ lb s₁₀ ol hol
      refine r_addL S (IsL.of (S.get 2 rfl) hl₆) (IsL.of (S.get 0 rfl) hol) (by simp; omega) fun c₂ s₁₁ o₁₁ hl₁₁ S₁₁ => ?_
      clear S
      walk_at "go"
      rename St _ _ _ _ _ _ _ => S
      refine r_cutL S ((hr.up hz').up S.keep) (IsPart.int _ _) IsPart.none (by omega) (pick_from vs (j + 3)) fun c₃ s₁₂ o₁₂ hl₁₂ S₁₂ => ?_
      clear S
      refine r_addL S₁₂ (IsL.of (S₁₂.get 1 rfl) hl₁₁) (IsL.of (S₁₂.get 0 rfl) hl₁₂) (by simp; omega) fun c₄ s₁₃ o₁₃ hl₁₃ S₁₃ => ?_
      clear S₁₂
      walk_at "go"
      rename St _ _ _ _ _ _ _ => S
      refine fp_ret ?_
      walk_at "go"
      have hnone : ∀ {b}, z₄.get? b = none → s.heap.get? b = none := fun {b} e => by
        cases q : s.heap.get? b with
        | none => rfl
        | some o => rw [hz' b o q] at e; cases e
      have hD := S.mus (c₄, o₁₃) (.head _)
      have hT := S.mus (tb, _) (List.mem_of_getElem? (show _ = some (tb, _) from (rfl : _[4]? = _)))
      refine h _ c₄ o₁₃ _ S.same (hz'.trans S.keep) (hnone hD.2.2) hD.1 hl₁₃ ?_
      unfold readAt
      rw [hq1, hq2]
      refine All2.append (All2.append ((hva.take j).mono fun _ _ y => .inl y) (All2.one (.inr ⟨tb, _, _, rfl, hnone hT.2.2, _, hT.1, rfl, 0, rfl⟩))) ((hva.drop (j + 3)).mono fun _ _ y => .inl y)
    · have hji' : j < i := by
        by_cases e : j = i
        · subst e; rw [← hpe] at hb; simp at hb
        · omega
      walk_at "go"
      rename St _ _ _ _ _ _ _ => S
      exact fp_next hz₄ ⟨hji', rfl, hz', _, rfl⟩ ((S.drop (List.Sublist.cons _ (List.Sublist.refl _))).norm [("node", .int node t), ("parts", .ref pa), ("row", .ref ra)] (by walk_at "has"))
  · rintro z' m' mu' s' _ ⟨hle, _⟩ _
    omega
end
end Mine
namespace Mine
open PySem PySem.W PySem.Calls PyProof.Rows
theorem filled6 : (fun (_ : OpenLaw) (_ : Params → Frag) => True) PySem.Challenge.rw_oc0237_01 hd.heap_1 := by k_fill; trivial

/-! ## _law_walk -/
/-- escapes at the end of the tower are read -/
noncomputable def redF (tw : Row) (ps : List (List Int)) : Row × List (List Int) :=
  if h : 2 < tw.length ∧ stands tw (tw.length - 3) = true then
    redF (tw.take (tw.length - 3) ++ [(100 + (ps.length : Int), hexV (tw.getD (tw.length - 2) (0, 0)).2 * 16 + hexV (tw.getD (tw.length - 1) (0, 0)).2)]) (ps ++ [(tw.drop (tw.length - 3)).map (·.1)])
  else (tw, ps)
termination_by tw.length
decreasing_by simp; omega
/-- the walk behind the first signs -/
noncomputable def walkF (text : List Nat) : Nat → Row × List (List Int)
  | 0 => ([], [])
  | i + 1 => redF ((walkF text i).1 ++ [((i : Int), text.getD i 0)]) (walkF text i).2

theorem redF_len (tw : Row) (ps : List (List Int)) : (redF tw ps).1.length ≤ tw.length ∧ (redF tw ps).2.length ≤ ps.length + tw.length ∧ 2 * (redF tw ps).2.length + (redF tw ps).1.length = 2 * ps.length + tw.length := by
  fun_induction redF tw ps with
  | case1 tw ps h ih => simp at ih ⊢; omega
  | case2 tw ps h => simp
theorem walkF_len (text : List Nat) (i : Nat) : 2 * (walkF text i).2.length + (walkF text i).1.length = i := by
  induction i with
  | zero => rfl
  | succ i ih =>
    have := (redF_len ((walkF text i).1 ++ [((i : Int), text.getD i 0)]) (walkF text i).2).2.2
    simp only [walkF]
    rw [this]; simp; omega

theorem stands_elim {row : Row} {p : Nat} (h : stands row p = true) : ∃ q0 q1 q2 qr, row.drop p = q0 :: q1 :: q2 :: qr ∧ q0.2 = 61 ∧ isD q1.2 = true ∧ isD q2.2 = true := by
  unfold stands at h
  match e : row.drop p with
  | [] => rw [e] at h; cases h
  | [_] => rw [e] at h; cases h
  | [_, _] => rw [e] at h; cases h
  | q0 :: q1 :: q2 :: qr =>
    rw [e] at h
    simp only [Bool.and_eq_true, beq_iff_eq] at h
    exact ⟨q0, q1, q2, qr, rfl, h.1.1, h.1.2, h.2⟩

section
variable {prog : Program} {w : World} {A : Around} {E : Value → Shared → Prop} {s s₀ : Shared} {z : Heap} {L a : Addr} {m : List (Str × Value)} {mu : List (Addr × Obj)} {env : Env}
/-- the object at the ledger's head is frozen -/
theorem St.freezeH {c : Addr} {o : Obj} (S : St w z L m ((c, o) :: mu) s₀ s) : ∃ z', Sub z z' ∧ St w z' L m mu s₀ s ∧ z'.get? c = some o := by
  obtain ⟨z', h1, h2, h3⟩ := S.freeze (mu' := mu) (List.Sublist.cons _ (List.Sublist.refl _))
  have hm := S.mus (c, o) (.head _)
  have hnd := S.nd
  rw [List.map_cons, List.nodup_cons] at hnd
  exact ⟨z', h1, h2, h3 c o hm.1 hm.2.1 (fun p hp e => hnd.1 (show c ∈ mu.map (·.1) from (by rw [← e]; exact List.mem_map_of_mem hp)))⟩
theorem occ_hex {c : Nat} (h : isD c = true) : ∃ rest, Builtin.Str.occurrences (tx [48, 49, 50, 51, 52, 53, 54, 55, 56, 57, 65, 66, 67, 68, 69, 70]) (tx [c]) 0 (tx [48, 49, 50, 51, 52, 53, 54, 55, 56, 57, 65, 66, 67, 68, 69, 70]).length 1 = hexV c :: rest := by
  rcases isD_cases h with rfl | rfl | rfl | rfl <;> exact ⟨[], by decide +kernel⟩
theorem r_index {c : Nat} {t u : Tok} {Q : Value → Shared → Prop} (S : St w z L m mu s₀ s) (hc : isD c = true) (h : ∀ t s', St w z L m mu s₀ s' → Q (.int (hexV c : Nat) t) s') :
    wpAny (model prog w) A (call (.builtin "str.index") [.str (tx [48, 49, 50, 51, 52, 53, 54, 55, 56, 57, 65, 66, 67, 68, 69, 70]) t, .str (tx [c]) u]) Q E s := by
  obtain ⟨rest, e⟩ := occ_hex hc
  exact SC.index e (h _ _ (S.tok _))
end

section
variable {prog : Program} {w : World} {A : Around} {s : Shared}
set_option maxHeartbeats 2000000 in
theorem law_walk {n : Nat} {R : Result → Shared → Prop} {text : List Nat} {t : Tok} (T : TF w s.heap) (hA : Lo n A) (hn : n ≤ 50) (hsz : text.length < 900)
   (h : ∀ s' D pa ta, Same s s' → Sub s.heap s'.heap → IsL s'.heap D [.ref pa, .ref ta] → PartsAt s'.heap pa (walkF text text.length).2 → RowAt s'.heap ta (walkF text text.length).1 → R (.ok (.ret (.ref D))) s')
   : codeAny (model prog w) A (.call (.ref 194) ⟨[.str (tx text) t], []⟩) R s := by
  walk_at "enterP"
  case T => exact T
  case hA => exact hA
  case hn => omega
  intro L A' s₁ S' hA'
  have S : St w s.heap L [("text", .str (tx text) t)] [] s s₁ := S'
  clear S'
  walk_at "go"
  rename St _ _ _ _ _ _ _ => S
  rename_i ta s₂ ot hlt s₃ _ _ pa s₄ op hlp s₅
  refine r_lenS S (by omega) fun t₆ s₆ S₆ => ?_
  clear S
  walk_at "go"
  rename St _ _ _ _ _ _ _ => S
  refine r_forRange text.length rfl S hA'.1 (by omega) (fun i z' m' mu' => ∃ ta ot tvs pa op pvs r, m' = (Str.ofString "parts", Value.ref pa) :: (Str.ofString "tower", Value.ref ta) :: (Str.ofString "text", Value.str (tx text) t) :: r ∧ mu' = [(pa, op), (ta, ot)] ∧ LsO op pvs ∧ LsO ot tvs ∧
    All2 (SgnAt z') tvs (walkF text i).1 ∧ All2 (IntsL z') pvs (walkF text i).2) ⟨_, _, _, _, _, _, _, rfl, rfl, hlp, hlt, ⟨rfl, fun i a b ha => by simp at ha⟩, ⟨rfl, fun i a b ha => by simp at ha⟩⟩ ?_ ?_
  · clear S
    rintro i ti z' m' mu' I o' s₃ hi hz ⟨ta, ot, tvs, pa, op, pvs, r, rfl, rfl, hlp, hlt, htv, hpv⟩ S
    have hl0 := walkF_len text i
    have htl := htv.1
    have hpl := hpv.1
    refine wpAny_assign_Name ?_
    walk_at "go"
    rename St _ _ _ _ _ _ _ => S
    have hL := IsL.of (S.get 1 rfl) hlt
    with_reducible refine r_listMethod hL F.slot_list_append F.type_list_append ?_
    walk_at "go"
    rename St _ _ _ _ _ _ _ => S
    refine r_itemS S i rfl (by omega) (List.getElem?_eq_getElem hi) fun t₄ s₄ S₄ => ?_
    clear S
    walk_at "go"
    rename St _ _ _ _ _ _ _ => S
    rename_i tb s₅
    refine r_append S 2 rfl hlt (by omega) fun s₆ o₆ hl₆ S₆ => ?_
    clear S
    obtain ⟨z₁, hz₁, S, hT⟩ := S₆.freezeH
    clear S₆
    walk_at "go"
    have hw : (walkF text (i + 1)) = redF ((walkF text i).1 ++ [((i : Int), text.getD i 0)]) (walkF text i).2 := rfl
    have hS : SgnAt z₁ (.ref tb) ((i : Int), text.getD i 0) := ⟨tb, ti, t₄, rfl, _, hT, rfl, 0, by simp [hi]⟩
    refine r_while (fun k s' => ∃ z₁ ta ot tvs pa op pvs tw ps r, Sub z' z₁ ∧ St w z₁ L ((Str.ofString "parts", Value.ref pa) :: (Str.ofString "tower", Value.ref ta) :: (Str.ofString "text", Value.str (tx text) t) :: r) [(pa, op), (ta, ot), (I, o')] s s' ∧ LsO op pvs ∧ LsO ot tvs ∧
      All2 (SgnAt z₁) tvs tw ∧ All2 (IntsL z₁) pvs ps ∧ redF tw ps = walkF text (i + 1) ∧ k = tw.length ∧ 2 * ps.length + tw.length = i + 1) ((walkF text i).1.length + 1) ?_ ?_
    · refine ⟨z₁, ta, _, _, pa, _, _, _, _, _, hz₁, S.norm [("parts", .ref pa), ("tower", .ref ta), ("text", .str (tx text) t)] (by walk_at "has"), hlp, hl₆, (htv.mono fun _ _ y => y.up hz₁).append1 hS, hpv.mono fun _ _ y => y.up hz₁, hw.symm, by simp, by simp; omega⟩
    clear S hlt hlp htv hpv hL hl0 htl hpl hT
    rintro k s₇ ⟨z₂, ta, ot, tvs, pa, op, pvs, tw, ps, r, hz₂, S, hlp, hlt, htv, hpv, hred, rfl, hle⟩
    have htl := htv.1
    have hpl := hpv.1
    refine r_midS S (fun b => b = (decide (2 < tw.length) && stands tw (tw.length - 3))) ?_ ?_
    · walk_at "go"
      rename St _ _ _ _ _ _ _ => S
      refine r_lenL S (IsL.of (S.get 1 rfl) hlt) (by omega) fun t₈ s₈ S₈ => ?_
      clear S
      walk_at "go"
      refine ⟨fun hb => ?_, fun hb => ?_⟩
      · have hb' : 2 < tw.length := by have : (2 : Int) < tvs.length := by simpa using hb
                                       omega
        walk_at "go"
        rename St _ _ _ _ _ _ _ => S
        refine r_lenL S (IsL.of (S.get 1 rfl) hlt) (by omega) fun t₉ s₉ S₉ => ?_
        clear S
        walk_at "go"
        rename St _ _ _ _ _ _ _ => S
        have hix : (tvs.length : Int) - 3 = ((tw.length - 3 : Nat) : Int) := by omega
        rw [hix]
        refine wpAny_call (law_stands (row := tw) S.top hA' (by omega) ⟨_, IsL.of (S.get 1 rfl) hlt, htv.mono fun _ _ y => y.up S.keep⟩ (by omega) (by omega) fun s₁₀ sm sb => ?_)
        have S' := S.grow sb sm
        clear S
        walk_at "go"
        cases q : stands tw (tw.length - 3)
        · exact ⟨fun e => (by cases e), fun _ => ⟨S', by simp [q]⟩⟩
        · refine ⟨fun _ => ?_, fun e => (by cases e)⟩
          walk_at "go"
          exact ⟨S', by simp [hb', q]⟩
      · rename St _ _ _ _ _ _ _ => S
        refine ⟨S, ?_⟩
        have hb' : ¬ 2 < tw.length := by have : ¬ (2 : Int) < tvs.length := by simpa using hb
                                         omega
        simp [hb']
    clear S
    rintro b s₈ S rfl
    refine ⟨fun hb => ?_, fun hb => ?_⟩
    · have hb' : 2 < tw.length ∧ stands tw (tw.length - 3) = true := by simpa using hb
      obtain ⟨q0, q1, q2, qr, hq, h0, hD1, hD2⟩ := stands_elim hb'.2
      have hqr : qr = [] := by
        have := congrArg List.length hq
        simp at this
        cases qr with
        | nil => rfl
        | cons => simp at this; omega
      subst hqr
      walk_at "go"
      rename St _ _ _ _ _ _ _ => S
      have h3 : 3 ≤ tvs.length := by omega
      refine r_cutL S (IsL.of (S.get 2 rfl) hlt) (IsPart.int _ _) IsPart.none (by omega) (pick_last tvs 3 (by decide)) fun c₁ s₉ o₉ hl₉ S₉ => ?_
      clear S
      obtain ⟨z₃, hz₃, S, hc₁⟩ := S₉.freezeL hl₉
      clear S₉
      have hcut : All2 (SgnAt z₃) (tvs.drop (tvs.length - 3)) [q0, q1, q2] := by
        rw [← hq, htl]
        exact (htv.drop _).mono fun _ _ y => y.up hz₃
      generalize tvs.drop (tvs.length - 3) = three at hc₁ hcut hl₉
      have h3l : three.length = 3 := hcut.1
      walk_at "go"
      refine r_AssignListComp [] rfl ?_
      walk_at "go"
      rename St _ _ _ _ _ _ _ => S
      refine r_cutL S (hc₁.up S.keep) (IsPart.int _ _) IsPart.none (by omega) (pick_from three 1) fun c₂ s₁₀ o₁₀ hl₁₀ S₁₀ => ?_
      clear S
      obtain ⟨z₄, hz₄, S, hc₂⟩ := S₁₀.freezeL hl₁₀
      clear S₁₀
      have hcut2 : All2 (SgnAt z₄) (three.drop 1) [q1, q2] := (hcut.drop 1).mono fun _ _ y => y.up hz₄
      refine r_compPairs S hA'.1 hc₂ (by simp; omega) (fun v hv => ?_) (fun j z' rs => z' = z₄ ∧ All2 IntIs rs (([q1, q2].take j).map fun q => ((hexV q.2 : Nat) : Int))) ⟨rfl, ⟨by simp, fun i a b ha => by simp at ha⟩⟩ ?_ ?_
      · obtain ⟨j, hj, e⟩ := List.mem_iff_getElem.mp hv
        have hj' : j < [q1, q2].length := by rw [← hcut2.1]; exact hj
        obtain ⟨T, _, _, e', _⟩ := hcut2.2 j v _ (by rw [List.getElem?_eq_getElem hj, e]) (List.getElem?_eq_getElem hj')
        exact ⟨T, e'⟩
      · clear S
        rintro j v z' rs C m' mu' s' hv hz ⟨rfl, hK⟩ S hmu
        have hj : j < (three.drop 1).length := (List.getElem?_eq_some_iff.mp hv).1
        have hj' : j < [q1, q2].length := by rw [← hcut2.1]; exact hj
        obtain ⟨T, t, u, rfl, hT⟩ := hcut2.2 j v [q1, q2][j] hv (List.getElem?_eq_getElem hj')
        have hDj : isD [q1, q2][j].2 = true := by
          have : j = 0 ∨ j = 1 := by simp at hj'; omega
          rcases this with rfl | rfl
          · exact hD1
          · exact hD2
        have hKn : All2 IntIs (rs ++ [.int ((hexV [q1, q2][j].2 : Nat) : Int) 0]) (([q1, q2].take (j + 1)).map fun q => ((hexV q.2 : Nat) : Int)) := by
          rw [take_succ_map _ (List.getElem?_eq_getElem hj')]
          exact hK.append1 ⟨0, rfl⟩
        generalize hqj : [q1, q2][j] = qj at hT hDj hKn
        refine r_assign2 S hA'.1 (IsTuple.up hT S.keep) (fun s₂ S₂ => ?_)
        clear S
        refine wpAny_tests_nil ⟨fun _ => ?_, fun e => (by cases e)⟩
        walk_at "go"
        rename St _ _ _ _ _ _ _ => S
        refine r_index S hDj fun t₃ s₃ S₃ => ?_
        refine ce (Sub.refl _) ⟨rfl, ?_⟩ S₃
        rw [take_succ_map _ (List.getElem?_eq_getElem hj'), hqj]
        exact hK.append1 ⟨t₃, rfl⟩
      clear S
      rintro z' rs D o hz' ⟨rfl, hK⟩ _ hlo
      refine hand_assign fun s₁₁ S => ?_
      have hK2 : All2 IntIs rs [((hexV q1.2 : Nat) : Int), ((hexV q2.2 : Nat) : Int)] := by
        have : (three.drop 1).length = 2 := by rw [hcut2.1]; rfl
        rw [this] at hK; exact hK
      obtain ⟨v1, hv1, t1, rfl⟩ := hK2.get (i := 0) (b := ((hexV q1.2 : Nat) : Int)) rfl
      obtain ⟨v2, hv2, t2, rfl⟩ := hK2.get (i := 1) (b := ((hexV q2.2 : Nat) : Int)) rfl
      walk_at "go"
      rename St _ _ _ _ _ _ _ => S
      refine r_cutL S (IsL.of (S.get 3 rfl) hlt) IsPart.none (IsPart.int _ _) (by omega) (pick_butLast tvs 3 (by decide)) fun c₃ s₁₂ o₁₂ hl₁₂ S₁₂ => ?_
      clear S
      walk_at "go"
      rename St _ _ _ _ _ _ _ => S
      refine r_lenL S (IsL.of (S.get 2 rfl) hlp) (by omega) fun t₁₃ s₁₃ S₁₃ => ?_
      clear S
      walk_at "go"
      rename St _ _ _ _ _ _ _ => S
      refine r_itemN 0 (IsL.of (S.get 1 rfl) hlo) rfl (by omega) hv1 ?_
      walk_at "go"
      rename St _ _ _ _ _ _ _ => S
      refine r_itemN 1 (IsL.of (S.get 1 rfl) hlo) rfl (by omega) hv2 ?_
      walk_at "go"
      rename St _ _ _ _ _ _ _ => S
      have hbd : ∀ {c : Nat}, isD c = true → hexV c < 16 := fun {c} hc => by rcases isD_cases hc with rfl | rfl | rfl | rfl <;> decide
      have hb1 := hbd hD1
      have hb2 := hbd hD2
      refine r_chr S (hexV q1.2 * 16 + hexV q2.2) (by omega) (by omega) fun t₁₄ s₁₄ S₁₄ => ?_
      clear S
      walk_at "go"
      rename St _ _ _ _ _ _ _ => S
      rename_i tb' s₁₅ lb s₁₆ ol hol
      refine r_addL S (IsL.of (S.get 2 rfl) hl₁₂) (IsL.of (S.get 0 rfl) hol) (by simp; omega) fun c₄ s₁₇ o₁₇ hl₁₇ S₁₇ => ?_
      clear S
      walk_at "go"
      rename St _ _ _ _ _ _ _ => S
      have hL := IsL.of (S.get 5 rfl) hlp
      with_reducible refine r_listMethod hL F.slot_list_append F.type_list_append ?_
      clear hL
      obtain ⟨z₅, hz₅, S₁₈, hfz⟩ := S.freeze (mu' := [(c₄, o₁₇), (pa, op), (I, o')]) (by
        refine List.Sublist.cons_cons _ (List.Sublist.cons _ (List.Sublist.cons _ (List.Sublist.cons _ (List.Sublist.cons _ (List.Sublist.cons_cons _ (List.Sublist.cons _ (List.Sublist.refl _)))))))
        )
      have hT := S.mus (tb', _) (.tail _ (.tail _ (.head _)))
      have hnd := S.nd
      have hT5 : z₅.get? tb' = some _ := hfz tb' _ hT.1 hT.2.1 (by
        simp only [List.map_cons, List.nodup_cons, List.mem_cons, not_or] at hnd
        intro p hp
        simp only [List.mem_cons, List.not_mem_nil, or_false] at hp
        rcases hp with rfl | rfl | rfl
        · exact hnd.1.2.1
        · exact Ne.symm hnd.2.2.1.2.2.1
        · exact Ne.symm hnd.2.2.1.2.2.2.2.1)
      have hz25 : Sub z₂ z₅ := hz₃.trans (hz₄.trans hz₅)
      have hS' : SgnAt z₅ (.ref tb') (100 + (ps.length : Int), hexV q1.2 * 16 + hexV q2.2) := ⟨tb', _, _, rfl, _, hT5, rfl, 0, by rw [hpl]⟩
      clear hT hnd hT5 hfz S
      walk_at "go"
      refine r_ListComp [] rfl ?_
      walk_at "go"
      rename St _ _ _ _ _ _ _ => S
      refine compMark S hA'.1 (hc₁.up (hz₄.trans hz₅)) (hcut.mono fun _ _ y => y.up (hz₄.trans hz₅)) (by simp) (fun rs D o hrs hlo => hand_none fun s₁₉ S₁₉ => ?_)
      clear S
      walk_at "go"
      rename St _ _ _ _ _ _ _ => S
      refine r_append S 2 rfl hlp (by omega) fun s₂₀ o₂₀ hl₂₀ S₂₀ => ?_
      clear S
      obtain ⟨z₆, hz₆, S, hD⟩ := S₂₀.freezeL hlo
      clear S₂₀
      walk_at "go"
      have hg1 : (tw.getD (tw.length - 2) (0, 0)) = q1 := by
        have : (tw.drop (tw.length - 3))[1]? = some q1 := by rw [hq]; rfl
        rw [List.getElem?_drop] at this
        rw [show tw.length - 3 + 1 = tw.length - 2 by omega] at this
        simp [this]
      have hg2 : (tw.getD (tw.length - 1) (0, 0)) = q2 := by
        have : (tw.drop (tw.length - 3))[2]? = some q2 := by rw [hq]; rfl
        rw [List.getElem?_drop] at this
        rw [show tw.length - 3 + 2 = tw.length - 1 by omega] at this
        simp [this]
      have hred' := hred
      rw [redF, dif_pos hb', hg1, hg2, hq] at hred'
      refine lp_next (tw.length - 2) (by omega) ⟨z₆, c₄, o₁₇, _, pa, o₂₀, _, _, _, _, hz₂.trans (hz25.trans hz₆), (S.perm (List.Perm.swap _ _ _)).norm [("parts", .ref pa), ("tower", .ref c₄), ("text", .str (tx text) t)] (by walk_at "has"), hl₂₀, hl₁₇, (((htv.take (tvs.length - 3)).mono fun _ _ y => y.up hz25).append1 hS').mono (fun _ _ y => y.up hz₆), ((hpv.mono fun _ _ y => y.up hz25).mono (fun _ _ y => y.up hz₆)).append1 ⟨D, rs, rfl, hD, hrs⟩, ?_, ?_, ?_⟩
      · rw [htl]; exact hred'
      · simp; omega
      · simp; omega
    · have hb' : ¬ (2 < tw.length ∧ stands tw (tw.length - 3) = true) := by simpa using hb
      have e : walkF text (i + 1) = (tw, ps) := by rw [← hred, redF, dif_neg hb']
      walk_at "go"
      exact fp_next hz₂ ⟨ta, ot, tvs, pa, op, pvs, r, rfl, rfl, hlp, hlt, by rw [e]; exact htv, by rw [e]; exact hpv⟩ S
  · clear S hlt hlp
    rintro z' m' mu' s' hz ⟨ta, ot, tvs, pa, op, pvs, r, rfl, rfl, hlp, hlt, htv, hpv⟩ S
    walk_at "go"
    rename St _ _ _ _ _ _ _ => S
    rename_i D s₃ oD hD
    refine h _ D pa ta S.same (hz.trans S.keep) (IsL.of (S.get 0 rfl) hD) ⟨_, IsL.of (S.get 1 rfl) hlp, hpv.mono fun _ _ y => y.up S.keep⟩ ⟨_, IsL.of (S.get 2 rfl) hlt, htv.mono fun _ _ y => y.up S.keep⟩
end
end Mine
namespace Mine
open PySem PySem.W PySem.Calls PyProof.Rows
theorem filled7 : (fun (_ : OpenLaw) (_ : Params → Frag) => True) PySem.Challenge.rw_oc0237_01 hd.heap_1 := by k_fill; trivial

/-! ## _NodeInfo -/
noncomputable abbrev infO (d sa : Addr) (np : Int) (t : Tok) (nv : Value) : Obj := ⟨.ref 55, some d, .plain, #[some nv, some (.int np t), some (.ref sa)]⟩
section
variable {prog : Program} {w : World} {A : Around} {E : Value → Shared → Prop} {s s₀ : Shared} {z : Heap} {L a x dx : Addr} {m : List (Str × Value)} {mu : List (Addr × Obj)} {env : Env} {o : Obj} {as : List (Str × Value)} {v : Value} {sl : Array (Option Value)}
theorem set_node {Q : Unit → Shared → Prop} (S : St w z L m mu s₀ s) (i : Nat) (hi : mu[i]? = some (x, ⟨.ref 55, some dx, .plain, sl⟩)) (ho : s.heap.get? dx = some o)
    (h : ∀ s', St w z L m (mu.set i (x, ⟨.ref 55, some dx, .plain, (sl ++ Array.replicate (0 + 1 - sl.size) none).setIfInBounds 0 (some v)⟩)) s₀ s' → Q () s') : wpAny (model prog w) A (setAttr (.ref x) (Str.ofString "node") v) Q E s :=
  r_setSlot S i hi ho (by k_is) (by k_is) (by k_is) (by k_is) (by k_is) (by decide) h
theorem set_np {Q : Unit → Shared → Prop} (S : St w z L m mu s₀ s) (i : Nat) (hi : mu[i]? = some (x, ⟨.ref 55, some dx, .plain, sl⟩)) (ho : s.heap.get? dx = some o)
    (h : ∀ s', St w z L m (mu.set i (x, ⟨.ref 55, some dx, .plain, (sl ++ Array.replicate (1 + 1 - sl.size) none).setIfInBounds 1 (some v)⟩)) s₀ s' → Q () s') : wpAny (model prog w) A (setAttr (.ref x) (Str.ofString "npredecessors") v) Q E s :=
  r_setSlot S i hi ho (by k_is) (by k_is) (by k_is) (by k_is) (by k_is) (by decide) h
theorem set_succ {Q : Unit → Shared → Prop} (S : St w z L m mu s₀ s) (i : Nat) (hi : mu[i]? = some (x, ⟨.ref 55, some dx, .plain, sl⟩)) (ho : s.heap.get? dx = some o)
    (h : ∀ s', St w z L m (mu.set i (x, ⟨.ref 55, some dx, .plain, (sl ++ Array.replicate (2 + 1 - sl.size) none).setIfInBounds 2 (some v)⟩)) s₀ s' → Q () s') : wpAny (model prog w) A (setAttr (.ref x) (Str.ofString "successors") v) Q E s :=
  r_setSlot S i hi ho (by k_is) (by k_is) (by k_is) (by k_is) (by k_is) (by decide) h
theorem get_node {expr : Bool} {Q : Value → Shared → Prop} (S : St w z L m mu s₀ s) (hx : s.heap.get? x = some ⟨.ref 55, some dx, .plain, sl⟩) (ho : s.heap.get? dx = some o) (hv : (sl[0]?).join = some v) (hh : handedIn v = true)
    (h : ∀ s', St w z L m mu s₀ s' → Q v s') : wpAny (model prog w) A (getAttr (.ref x) (Str.ofString "node") expr) Q E s :=
  r_getSlot S hx ho hv hh (by k_is) (by k_is) (by k_is) (by k_is) (by k_is) (by k_is) h
theorem get_np {expr : Bool} {Q : Value → Shared → Prop} (S : St w z L m mu s₀ s) (hx : s.heap.get? x = some ⟨.ref 55, some dx, .plain, sl⟩) (ho : s.heap.get? dx = some o) (hv : (sl[1]?).join = some v) (hh : handedIn v = true)
    (h : ∀ s', St w z L m mu s₀ s' → Q v s') : wpAny (model prog w) A (getAttr (.ref x) (Str.ofString "npredecessors") expr) Q E s :=
  r_getSlot S hx ho hv hh (by k_is) (by k_is) (by k_is) (by k_is) (by k_is) (by k_is) h
theorem get_succ {expr : Bool} {Q : Value → Shared → Prop} (S : St w z L m mu s₀ s) (hx : s.heap.get? x = some ⟨.ref 55, some dx, .plain, sl⟩) (ho : s.heap.get? dx = some o) (hv : (sl[2]?).join = some v) (hh : handedIn v = true)
    (h : ∀ s', St w z L m mu s₀ s' → Q v s') : wpAny (model prog w) A (getAttr (.ref x) (Str.ofString "successors") expr) Q E s :=
  r_getSlot S hx ho hv hh (by k_is) (by k_is) (by k_is) (by k_is) (by k_is) (by k_is) h
theorem sl0 (v : Option Value) : ((#[] : Array (Option Value)) ++ Array.replicate (0 + 1 - (#[] : Array (Option Value)).size) none).setIfInBounds 0 v = #[v] := rfl
theorem sl1 (a v : Option Value) : (#[a] ++ Array.replicate (1 + 1 - #[a].size) none).setIfInBounds 1 v = #[a, v] := rfl
theorem sl2 (a b v : Option Value) : (#[a, b] ++ Array.replicate (2 + 1 - #[a, b].size) none).setIfInBounds 2 v = #[a, b, v] := rfl
theorem sl3 (a b c v : Option Value) : (#[a, b, c] ++ Array.replicate (1 + 1 - #[a, b, c].size) none).setIfInBounds 1 v = #[a, v, c] := rfl
theorem set_node0 {Q : Unit → Shared → Prop} (S : St w z L m mu s₀ s) (i : Nat) (hi : mu[i]? = some (x, instObj 55 dx)) (ho : s.heap.get? dx = some o)
    (h : ∀ s', St w z L m (mu.set i (x, ⟨.ref 55, some dx, .plain, #[some v]⟩)) s₀ s' → Q () s') : wpAny (model prog w) A (setAttr (.ref x) (Str.ofString "node") v) Q E s :=
  set_node S i hi ho (by rw [sl0]; exact h)
theorem set_np1 {a : Option Value} {Q : Unit → Shared → Prop} (S : St w z L m mu s₀ s) (i : Nat) (hi : mu[i]? = some (x, ⟨.ref 55, some dx, .plain, #[a]⟩)) (ho : s.heap.get? dx = some o)
    (h : ∀ s', St w z L m (mu.set i (x, ⟨.ref 55, some dx, .plain, #[a, some v]⟩)) s₀ s' → Q () s') : wpAny (model prog w) A (setAttr (.ref x) (Str.ofString "npredecessors") v) Q E s :=
  set_np S i hi ho (by rw [sl1]; exact h)
theorem set_succ2 {a b : Option Value} {Q : Unit → Shared → Prop} (S : St w z L m mu s₀ s) (i : Nat) (hi : mu[i]? = some (x, ⟨.ref 55, some dx, .plain, #[a, b]⟩)) (ho : s.heap.get? dx = some o)
    (h : ∀ s', St w z L m (mu.set i (x, ⟨.ref 55, some dx, .plain, #[a, b, some v]⟩)) s₀ s' → Q () s') : wpAny (model prog w) A (setAttr (.ref x) (Str.ofString "successors") v) Q E s :=
  set_succ S i hi ho (by rw [sl2]; exact h)
theorem set_np3 {d sa : Addr} {np np' : Int} {t t' : Tok} {nv : Value} {Q : Unit → Shared → Prop} (S : St w z L m mu s₀ s) (i : Nat) (hi : mu[i]? = some (x, infO d sa np t nv)) (ho : s.heap.get? d = some o)
    (h : ∀ s', St w z L m (mu.set i (x, infO d sa np' t' nv)) s₀ s' → Q () s') : wpAny (model prog w) A (setAttr (.ref x) (Str.ofString "npredecessors") (.int np' t')) Q E s :=
  set_np S i hi ho (by rw [sl3]; exact h)
theorem get_np3 {expr : Bool} {d sa : Addr} {np : Int} {t : Tok} {nv : Value} {Q : Value → Shared → Prop} (S : St w z L m mu s₀ s) (hx : s.heap.get? x = some (infO d sa np t nv)) (ho : s.heap.get? d = some o)
    (h : ∀ s', St w z L m mu s₀ s' → Q (.int np t) s') : wpAny (model prog w) A (getAttr (.ref x) (Str.ofString "npredecessors") expr) Q E s :=
  get_np S hx ho rfl rfl h
theorem get_succ3 {expr : Bool} {d sa : Addr} {np : Int} {t : Tok} {nv : Value} {Q : Value → Shared → Prop} (S : St w z L m mu s₀ s) (hx : s.heap.get? x = some (infO d sa np t nv)) (ho : s.heap.get? d = some o)
    (h : ∀ s', St w z L m mu s₀ s' → Q (.ref sa) s') : wpAny (model prog w) A (getAttr (.ref x) (Str.ofString "successors") expr) Q E s :=
  get_succ S hx ho rfl rfl h
theorem get_node3 {expr : Bool} {d sa : Addr} {np : Int} {t u : Tok} {k : Int} {Q : Value → Shared → Prop} (S : St w z L m mu s₀ s) (hx : s.heap.get? x = some (infO d sa np t (.int k u))) (ho : s.heap.get? d = some o)
    (h : ∀ s', St w z L m mu s₀ s' → Q (.int k u) s') : wpAny (model prog w) A (getAttr (.ref x) (Str.ofString "node") expr) Q E s :=
  get_node S hx ho rfl rfl h
/-! the sorter's own fields -/
theorem get_n2i {expr : Bool} {Q : Value → Shared → Prop} (S : St w z L m mu s₀ s) (hx : s.heap.get? x = some (instObj 152 dx)) (ho : s.heap.get? dx = some o) (ha : AtO o as) (hv : as.lookup (Str.ofString "_node2info") = some v) (hh : handedIn v = true)
    (h : ∀ s', St w z L m mu s₀ s' → Q v s') : wpAny (model prog w) A (getAttr (.ref x) (Str.ofString "_node2info") expr) Q E s :=
  r_getD S hx ho ha hv hh (by k_is) (by k_is) (by k_is) (by k_is) h
theorem get_rdy {expr : Bool} {Q : Value → Shared → Prop} (S : St w z L m mu s₀ s) (hx : s.heap.get? x = some (instObj 152 dx)) (ho : s.heap.get? dx = some o) (ha : AtO o as) (hv : as.lookup (Str.ofString "_ready_nodes") = some v) (hh : handedIn v = true)
    (h : ∀ s', St w z L m mu s₀ s' → Q v s') : wpAny (model prog w) A (getAttr (.ref x) (Str.ofString "_ready_nodes") expr) Q E s :=
  r_getD S hx ho ha hv hh (by k_is) (by k_is) (by k_is) (by k_is) h
theorem get_out {expr : Bool} {Q : Value → Shared → Prop} (S : St w z L m mu s₀ s) (hx : s.heap.get? x = some (instObj 152 dx)) (ho : s.heap.get? dx = some o) (ha : AtO o as) (hv : as.lookup (Str.ofString "_npassedout") = some v) (hh : handedIn v = true)
    (h : ∀ s', St w z L m mu s₀ s' → Q v s') : wpAny (model prog w) A (getAttr (.ref x) (Str.ofString "_npassedout") expr) Q E s :=
  r_getD S hx ho ha hv hh (by k_is) (by k_is) (by k_is) (by k_is) h
theorem get_fin {expr : Bool} {Q : Value → Shared → Prop} (S : St w z L m mu s₀ s) (hx : s.heap.get? x = some (instObj 152 dx)) (ho : s.heap.get? dx = some o) (ha : AtO o as) (hv : as.lookup (Str.ofString "_nfinished") = some v) (hh : handedIn v = true)
    (h : ∀ s', St w z L m mu s₀ s' → Q v s') : wpAny (model prog w) A (getAttr (.ref x) (Str.ofString "_nfinished") expr) Q E s :=
  r_getD S hx ho ha hv hh (by k_is) (by k_is) (by k_is) (by k_is) h
theorem set_n2i {Q : Unit → Shared → Prop} (S : St w z L m mu s₀ s) (i : Nat) (hi : mu[i]? = some (dx, o)) (hx : s.heap.get? x = some (instObj 152 dx)) (ha : AtO o as) (hz : as.length < 900)
    (h : ∀ s' o', AtO o' (putA (Str.ofString "_node2info") v as) → St w z L m (mu.set i (dx, o')) s₀ s' → Q () s') : wpAny (model prog w) A (setAttr (.ref x) (Str.ofString "_node2info") v) Q E s :=
  r_setD S i hi hx ha hz (by k_is) (by k_is) (by k_is) (by k_is) h
theorem set_rdy {Q : Unit → Shared → Prop} (S : St w z L m mu s₀ s) (i : Nat) (hi : mu[i]? = some (dx, o)) (hx : s.heap.get? x = some (instObj 152 dx)) (ha : AtO o as) (hz : as.length < 900)
    (h : ∀ s' o', AtO o' (putA (Str.ofString "_ready_nodes") v as) → St w z L m (mu.set i (dx, o')) s₀ s' → Q () s') : wpAny (model prog w) A (setAttr (.ref x) (Str.ofString "_ready_nodes") v) Q E s :=
  r_setD S i hi hx ha hz (by k_is) (by k_is) (by k_is) (by k_is) h
theorem set_out {Q : Unit → Shared → Prop} (S : St w z L m mu s₀ s) (i : Nat) (hi : mu[i]? = some (dx, o)) (hx : s.heap.get? x = some (instObj 152 dx)) (ha : AtO o as) (hz : as.length < 900)
    (h : ∀ s' o', AtO o' (putA (Str.ofString "_npassedout") v as) → St w z L m (mu.set i (dx, o')) s₀ s' → Q () s') : wpAny (model prog w) A (setAttr (.ref x) (Str.ofString "_npassedout") v) Q E s :=
  r_setD S i hi hx ha hz (by k_is) (by k_is) (by k_is) (by k_is) h
theorem set_fin {Q : Unit → Shared → Prop} (S : St w z L m mu s₀ s) (i : Nat) (hi : mu[i]? = some (dx, o)) (hx : s.heap.get? x = some (instObj 152 dx)) (ha : AtO o as) (hz : as.length < 900)
    (h : ∀ s' o', AtO o' (putA (Str.ofString "_nfinished") v as) → St w z L m (mu.set i (dx, o')) s₀ s' → Q () s') : wpAny (model prog w) A (setAttr (.ref x) (Str.ofString "_nfinished") v) Q E s :=
  r_setD S i hi hx ha hz (by k_is) (by k_is) (by k_is) (by k_is) h
end
section
variable {prog : Program} {w : World} {A : Around} {s : Shared}
set_option maxHeartbeats 1000000 in
theorem info_init {n : Nat} {R : Result → Shared → Prop} {z : Heap} {x d : Addr} {nv : Value} (D : Led w z [(x, instObj 55 d), (d, dictOf [] 0)] s) (hA : Lo n A) (hn : n ≤ 90)
   (h : ∀ s' sa so t, Same s s' → LsO so [] → Led w z [(x, infO d sa 0 t nv), (d, dictOf [] 0), (sa, so)] s' → R (.ok (.ret .none)) s')
   : codeAny (model prog w) A (.call (.ref 51) ⟨[.ref x, nv], []⟩) R s := by
  walk_at "enterL"
  case D => exact D
  case hA => exact hA
  case hn => omega
  intro L A' s₁ S' hA'
  have S : St w z L [("node", nv), ("self", .ref x)] [(x, instObj 55 d), (d, dictOf [] 0)] s s₁ := S'
  clear S'
  walk_at "go"
  rename St _ _ _ _ _ _ _ => S
  refine set_node0 S 0 rfl (S.get 1 rfl) fun s₂ S₂ => ?_
  clear S
  walk_at "go"
  rename St _ _ _ _ _ _ _ => S
  refine set_np1 S 0 rfl (S.get 1 rfl) fun s₃ S₃ => ?_
  clear S
  walk_at "go"
  rename St _ _ _ _ _ _ _ => S
  rename_i sa s₄ so hso
  refine set_succ2 S 1 rfl (S.get 2 rfl) fun s₅ S₅ => ?_
  clear S
  walk_at "go"
  have S : St w z L [("node", nv), ("self", .ref x)] [(sa, so), (x, infO d sa 0 _ nv), (d, dictOf [] 0)] s s₅ := S₅
  exact h _ sa so _ S.same hso (S.perm (List.perm_append_comm (l₁ := [(sa, so)]) (l₂ := [(x, _), (d, _)]))).led

/-- _NodeInfo(node) -/
theorem r_newInfo {E : Value → Shared → Prop} {s₀ : Shared} {z : Heap} {L : Addr} {m : List (Str × Value)} {mu : List (Addr × Obj)} {n : Nat} {nv : Value} {Q : Value → Shared → Prop} (S : St w z L m mu s₀ s) (hA : Lo n A) (hn : n ≤ 80)
    (h : ∀ s' a d sa so t, LsO so [] → St w z L m ((a, infO d sa 0 t nv) :: (d, dictOf [] 0) :: (sa, so) :: mu) s₀ s' → Q (.ref a) s') : wpAny (model prog w) A (call (.ref 55) [nv]) Q E s := by
  refine r_make S (by k_is) (by k_is) (by k_is) fun x dx s' S' => ?_
  have S'' : St w z L m ([(x, instObj 55 dx), (dx, dictOf [] 0)] ++ mu) s₀ s' := S'
  refine info_init S''.lend (hA.under _ _ _) (by omega) fun s₂ sa so t sm hso D => ?_
  refine ⟨rfl, h _ x dx sa so t hso ?_⟩
  exact S''.back D sm

theorem get_nodeinfo_old {n : Nat} {R : Result → Shared → Prop} {x dx nd a : Addr} {od ond : Obj} {as : List (Str × Value)} {kvs : List (Int × Value)} {k : Int} {t : Tok} (T : TF w s.heap) (hA : Lo n A) (hn : n ≤ 80)
   (hx : s.heap.get? x = some (instObj 152 dx)) (ho : s.heap.get? dx = some od) (ha : AtO od as) (hv : as.lookup (Str.ofString "_node2info") = some (.ref nd)) (hnd : s.heap.get? nd = some ond) (hms : (nd == sysModules) = false) (hd : ond.IsDictOf (intKind prog w) kvs) (hk : valueAt kvs k = some (.ref a))
   (h : ∀ s', Same s s' → Sub s.heap s'.heap → R (.ok (.ret (.ref a))) s')
   : codeAny (model prog w) A (.call (.ref 95) ⟨[.ref x, .int k t], []⟩) R s := by
  walk_at "enterP"
  case T => exact T
  case hA => exact hA
  case hn => omega
  intro L A' s₁ S' hA'
  have S : St w s.heap L [("node", .int k t), ("self", .ref x)] [] s s₁ := S'
  clear S'
  walk_at "if"
  walk_at "go"
  rename St _ _ _ _ _ _ _ => S
  refine get_n2i S (S.keep _ _ hx) (S.keep _ _ ho) ha hv rfl fun s₂ S₂ => ?_
  clear S
  with_reducible refine r_dictMethod (S₂.keep _ _ hnd) hd F.slot_dict_get F.type_dict_get ?_
  walk_at "go"
  rename St _ _ _ _ _ _ _ => S
  refine r_dGet S hms (S.keep _ _ hnd) hd fun s₃ S₃ => ?_
  clear S
  rw [hk]
  walk_at "go"
  rename St _ _ _ _ _ _ _ => S
  refine Br.no rfl ?_
  walk_at "go"
  rename St _ _ _ _ _ _ _ => S
  exact h _ S.same S.keep

theorem get_nodeinfo_new {n : Nat} {R : Result → Shared → Prop} {z : Heap} {x dx nd : Addr} {od ond : Obj} {as : List (Str × Value)} {kvs : List (Int × Value)} {k : Int} {t : Tok} (D : Led w z [(nd, ond)] s) (hA : Lo n A) (hn : n ≤ 70)
   (hx : z.get? x = some (instObj 152 dx)) (ho : z.get? dx = some od) (ha : AtO od as) (hv : as.lookup (Str.ofString "_node2info") = some (.ref nd)) (hms : (nd == sysModules) = false) (hd : ond.IsDictOf (intKind prog w) kvs) (hz : kvs.length < 1000) (hk : valueAt kvs k = none)
   (h : ∀ s' ond' a d sa so u, Same s s' → Led w z [(nd, ond'), (a, infO d sa 0 u (.int k t)), (d, dictOf [] 0), (sa, so)] s' → LsO so [] → ond'.IsDictOf (intKind prog w) (stored kvs k (.ref a)) → R (.ok (.ret (.ref a))) s')
   : codeAny (model prog w) A (.call (.ref 95) ⟨[.ref x, .int k t], []⟩) R s := by
  walk_at "enterL"
  case D => exact D
  case hA => exact hA
  case hn => omega
  intro L A' s₁ S' hA'
  have S : St w z L [("node", .int k t), ("self", .ref x)] [(nd, ond)] s s₁ := S'
  clear S'
  walk_at "if"
  walk_at "go"
  rename St _ _ _ _ _ _ _ => S
  refine get_n2i S (S.keep _ _ hx) (S.keep _ _ ho) ha hv rfl fun s₂ S₂ => ?_
  clear S
  with_reducible refine r_dictMethod (S₂.get 0 rfl) hd F.slot_dict_get F.type_dict_get ?_
  walk_at "go"
  rename St _ _ _ _ _ _ _ => S
  refine r_dGet S hms (S.get 0 rfl) hd fun s₃ S₃ => ?_
  clear S
  rw [hk]
  walk_at "go"
  refine Br.yes rfl ?_
  walk_at "go"
  rename St _ _ _ _ _ _ _ => S
  refine r_newInfo S hA' (by omega) fun s₄ a d sa so u hso S₄ => ?_
  clear S
  walk_at "go"
  rename St _ _ _ _ _ _ _ => S
  refine get_n2i S (S.keep _ _ hx) (S.keep _ _ ho) ha hv rfl fun s₅ S₅ => ?_
  clear S
  walk_at "go"
  rename St _ _ _ _ _ _ _ => S
  refine r_dSet S 3 rfl hd (by omega) fun s₆ ond' hd' S₆ => ?_
  clear S
  walk_at "go"
  rename St _ _ _ _ _ _ _ => S
  have S' : St w z L _ ([(a, infO d sa 0 u (.int k t)), (d, dictOf [] 0), (sa, so)] ++ [(nd, ond')]) s _ := S
  exact h _ ond' a d sa so u S.same (S'.perm List.perm_append_comm).led hso hd'
end
end Mine
namespace Mine
open PySem PySem.W PySem.Calls PyProof.Rows
theorem filled8 : (fun (_ : OpenLaw) (_ : Params → Frag) => True) PySem.Challenge.rw_oc0237_01 hd.heap_1 := by k_fill; trivial

/-! ## a def with *args -/
theorem wp_peek1 {α : Type} {K : Frag} {M : Model} {A : Around} {E : Value → Shared → Prop} {Q : α → Shared → Prop} {s : Shared} {o : Obj} {r : Addr → α} (X : K.In s.heap) (q : Q (r s.heap.objs.size) { s with heap := s.heap.push o }) :
    ∀ (t : Sem α) (g : Addr → Option α), peek1 K ⟨M.prog, M.w.params⟩ t = some (o, g) → (∀ D, g D = some (r D)) → wpAny M A t Q E s := by
  intro t
  induction t with
  | rule _ k ih => intro g e hg Γ p hΓ; exact ih () g e hg Γ p hΓ
  | point _ k ih => intro g e hg Γ p hΓ; exact ih () g e hg Γ p hΓ
  | ask k ih => intro g e hg Γ p hΓ; exact ih _ g e hg Γ p hΓ
  | load a _ k ih =>
    intro g e hg Γ p hΓ
    simp only [peek1] at e
    split at e
    · rename_i ob ho; exact ⟨ob, X _ _ ho, ih ob g e hg Γ p hΓ⟩
    · cases e
  | alloc ob k _ =>
    intro g e hg
    have e : some (ob, fun D => peek K ⟨M.prog, M.w.params⟩ (k D)) = some (o, g) := e
    obtain ⟨e1, e2⟩ := Prod.mk.inj (Option.some.inj e)
    subst e1
    subst e2
    have X' : K.In (s.heap.push ob) := X.keeps fun b x hb => Heap.get?_push_of_some _ hb
    show wpAny M A (alloc ob >>= k) Q E s
    refine wpAny_bind (wpAny_alloc ?_)
    exact (Looks.of_peek (M := M) (h := s.heap.push ob) X' (hg s.heap.objs.size)).here (s := { s with heap := s.heap.push ob }) q
  | _ => intro g e; cases e
section
variable {prog : Program} {w : World} {A : Around} {s : Shared}
theorem enter_va {R : Result → Shared → Prop} {name qual : Str} {params : Arguments} {body : List Stmt} {scope : Scope} {dV kV doc pm cdv ct oc : Value} {an od : Option Addr} {osl : Array (Option Value)} {f : Addr} {args : Args} {vs : List Value} {binds : Addr → List (Str × Value)} {z : Heap} {mu : List (Addr × Obj)} {n : Nat} {g : Addr → Option (List (Str × Value))}
    (D : Led w z mu s) (hA : Lo n A) (hn : n ≤ 100)
    (ho : (hd.heap_1 w.params).lookup f = some ⟨oc, od, .func (fnOf name qual params body scope dV kV doc pm an cdv ct), osl⟩) (hcd : codeIn (hd.heap_1 w.params) cdv qual = true)
    (hb : peek1 (hd.heap_1 w.params) ⟨prog, w.params⟩ (bindArgs (fnOf name qual params body scope dV kV doc pm an cdv ct) args) = some (tupO vs, g)) (hg : ∀ D, g D = some (binds D))
    (h : ∀ D L A' s₁, St w z L (binds D).reverse ((D, tupO vs) :: mu) s s₁ → Lo (n + 1) A' →
      wpAny (model prog w) A' (execs body (envOf qual scope L f cdv))
        (fun fl s' => R (.ok (.ret (match fl with | .ret v => v | _ => .none))) s') (fun _ _ => False) s₁)
    (hloc : ∀ D, ∀ x ∈ binds D, scope.names.lookup x.1 = some .local)
    (hcell : ∀ x ∈ scope.names, x.2 ≠ .cell)
    (hco : scope.isCoroutine = false) (hgen : scope.isGenerator = false) (hk : scope.kind = .function) : codeAny (model prog w) A (.call (.ref f) args) R s := by
  have T' := D.top.up D.keep
  refine codeAny_call_function (fd := fnOf name qual params body scope dV kV doc pm an cdv ct) (body := body) (hA.room hn) (T'.K _ _ ho) rfl hco hgen rfl (codeRec_of T'.K hcd) ?_
  refine wp_peek1 (M := model prog w) (r := binds) T'.K ?_ _ g hb hg
  have T'' : TF w (s.heap.push (tupO vs)) := T'.up ((Sub.refl _).push _)
  refine wpAny_newFunctionEnv hcell (hloc _) (fun h₁ hns hsb => ⟨T''.lim.fresh _ hsb, ?_⟩) hk
  have hk₁ : Sub (s.heap.push (tupO vs)) h₁ := fun b o e => hsb.extBut b o (Nat.ne_of_lt (Heap.lt_size e)) (Heap.get?_push_of_some _ e)
  have hk₀ : Sub s.heap h₁ := ((Sub.refl _).push _).trans hk₁
  refine codeAny_func ?_
  have S : St w z (s.heap.push (tupO vs)).objs.size (binds s.heap.objs.size).reverse ((s.heap.objs.size, tupO vs) :: mu) s { s with heap := h₁, toks := s.toks + (binds s.heap.objs.size).length } := by
    refine ⟨hns, D.keep.trans hk₀, ?_, fun p hp => ?_, ?_, ?_, ⟨rfl, rfl, rfl⟩⟩
    · exact (D.keep.push _).new
    · rcases List.mem_cons.mp hp with rfl | hp
      · refine ⟨hk₁ _ _ (Heap.get?_push_size _ rfl), ?_, D.keep.new⟩
        rw [Heap.size_push]; exact Nat.ne_of_lt (Nat.lt_succ_self _)
      · refine ⟨hk₀ _ _ (D.mus p hp).1, ?_, (D.mus p hp).2⟩
        rw [Heap.size_push]; exact Nat.ne_of_lt (Nat.lt_succ_of_lt (Heap.lt_size (D.mus p hp).1))
    · rw [List.map_cons, List.nodup_cons]
      refine ⟨fun q => ?_, D.nd⟩
      obtain ⟨p, hp, e⟩ := List.mem_map.mp q
      exact absurd (Heap.lt_size (D.mus p hp).1) (by rw [e]; exact Nat.lt_irrefl _)
    · obtain ⟨b₀, t, x, y⟩ := trim_bot D.top D.keep
      exact ⟨b₀, t, x, by rw [Heap.size_push]; omega⟩
  exact wpAny_mono (h _ _ _ _ S (hA.deeper _)) (fun _ _ x => x) (fun _ _ x => x.elim)
end

theorem getL_app {α : Type} {l r : List α} {i : Nat} {a : α} (h : l[i]? = some a) : (l ++ r)[i]? = some a := by
  rw [List.getElem?_append_left (List.getElem?_eq_some_iff.mp h).1]; exact h
theorem setL_app {α : Type} {l r : List α} {i : Nat} {a : α} (h : l[i]? = some a) (b : α) : (l ++ r).set i b = l.set i b ++ r := List.set_append_left _ _ (List.getElem?_eq_some_iff.mp h).1
/-! ## the nodes of the sorter -/
structure Nd where
  a : Addr
  d : Addr
  s : Addr
  k : Int
  u : Tok
  np : Int
  t : Tok
  so : Obj
  sc : List Int
noncomputable def Nd.inf (x : Nd) : Obj := infO x.d x.s x.np x.t (.int x.k x.u)
noncomputable def Nd.led (x : Nd) : List (Addr × Obj) := [(x.a, x.inf), (x.d, dictOf [] 0), (x.s, x.so)]
noncomputable def ledN (l : List Nd) : List (Addr × Obj) := l.flatMap Nd.led
noncomputable def Nd.Ok (x : Nd) : Prop := ∃ vs, LsO x.so vs ∧ All2 IntIs vs x.sc ∧ x.sc.length < 1000
noncomputable def kvsN (l : List Nd) : List (Int × Value) := l.map fun x => (x.k, .ref x.a)
noncomputable def viewN (l : List Nd) : List (Int × Int × List Int) := l.map fun x => (x.k, x.np, x.sc)
theorem ledN_cons (x : Nd) (l : List Nd) : ledN (x :: l) = (x.a, x.inf) :: (x.d, dictOf [] 0) :: (x.s, x.so) :: ledN l := rfl
theorem ledN_append (l l' : List Nd) : ledN (l ++ l') = ledN l ++ ledN l' := List.flatMap_append
theorem led_get {l : List Nd} {i : Nat} {x : Nd} (h : l[i]? = some x) : (ledN l)[3 * i]? = some (x.a, x.inf) ∧ (ledN l)[3 * i + 1]? = some (x.d, dictOf [] 0) ∧ (ledN l)[3 * i + 2]? = some (x.s, x.so) := by
  induction l generalizing i with
  | nil => simp at h
  | cons y r ih =>
    rw [ledN_cons]
    cases i with
    | zero => simp at h; subst h; exact ⟨rfl, rfl, rfl⟩
    | succ i =>
      have := ih (i := i) (by simpa using h)
      rw [show 3 * (i + 1) = 3 * i + 1 + 1 + 1 by omega, show 3 * i + 1 + 1 + 1 + 1 = (3 * i + 1) + 1 + 1 + 1 by omega, show 3 * i + 1 + 1 + 1 + 2 = (3 * i + 2) + 1 + 1 + 1 by omega]
      simpa using this
theorem led_set_a {l : List Nd} {i : Nat} {x y : Nd} (h : l[i]? = some x) (e1 : y.a = x.a) (e2 : y.d = x.d) (e3 : y.s = x.s) (e4 : y.so = x.so) : (ledN l).set (3 * i) (x.a, y.inf) = ledN (l.set i y) := by
  induction l generalizing i with
  | nil => simp at h
  | cons z r ih =>
    rw [ledN_cons]
    cases i with
    | zero => simp at h; subst h; simp [ledN_cons, e1, e2, e3, e4]
    | succ i =>
      have := ih (i := i) (by simpa using h)
      rw [show 3 * (i + 1) = 3 * i + 1 + 1 + 1 by omega]
      simp [ledN_cons, this]
theorem led_set_s {l : List Nd} {i : Nat} {x y : Nd} (h : l[i]? = some x) (e1 : y.a = x.a) (e2 : y.d = x.d) (e3 : y.s = x.s) (e4 : y.inf = x.inf) : (ledN l).set (3 * i + 2) (x.s, y.so) = ledN (l.set i y) := by
  induction l generalizing i with
  | nil => simp at h
  | cons z r ih =>
    rw [ledN_cons]
    cases i with
    | zero => simp at h; subst h; simp [ledN_cons, e1, e2, e3, e4]
    | succ i =>
      have := ih (i := i) (by simpa using h)
      rw [show 3 * (i + 1) + 2 = (3 * i + 2) + 1 + 1 + 1 by omega]
      simp [ledN_cons, this]
/-- the nodes are 100, 101, .. -/
noncomputable def Num (l : List Nd) : Prop := ∀ (i : Nat) (x : Nd), l[i]? = some x → x.k = 100 + (i : Int)
theorem valueAt_kvsN {l : List Nd} (hN : Num l) {i : Nat} {x : Nd} (h : l[i]? = some x) : valueAt (kvsN l) (100 + (i : Int)) = some (.ref x.a) := by
  have aux : ∀ (l : List Nd) (b : Nat) (i : Nat), (∀ j y, l[j]? = some y → y.k = 100 + ((b + j : Nat) : Int)) → l[i]? = some x → valueAt (kvsN l) (100 + ((b + i : Nat) : Int)) = some (.ref x.a) := by
    intro l
    induction l with
    | nil => intro b i _ h; simp at h
    | cons y r ih =>
      intro b i hN h
      have hy := hN 0 y rfl
      cases i with
      | zero => simp at h; subst h; simp [kvsN, valueAt, hy]
      | succ i =>
        have := ih (b + 1) i (fun j z hz => by rw [hN (j + 1) z (by simpa using hz)]; omega) (by simpa using h)
        rw [show b + (i + 1) = b + 1 + i by omega, ← this]
        have hne : ¬ (y.k = 100 + ((b + 1 + i : Nat) : Int)) := by omega
        show Option.map _ (List.find? _ ((y.k, Value.ref y.a) :: kvsN r)) = _
        rw [List.find?_cons_of_neg (by simpa using hne)]
        rfl
  have := aux l 0 i (fun j y hy => by rw [hN j y hy]; simp) h
  simpa using this
theorem valueAt_kvsN_none {l : List Nd} (hN : Num l) {k : Int} (hk : k < 100 ∨ 100 + (l.length : Int) ≤ k) : valueAt (kvsN l) k = none := by
  unfold valueAt kvsN
  rw [Option.map_eq_none_iff, List.find?_eq_none]
  intro p hp
  obtain ⟨x, hx, rfl⟩ := List.mem_map.mp hp
  obtain ⟨i, hi, e⟩ := List.mem_iff_getElem.mp hx
  have := hN i x (by rw [List.getElem?_eq_getElem hi, e])
  simp; omega
theorem stored_kvsN {l : List Nd} (hN : Num l) (y : Nd) (hy : y.k = 100 + (l.length : Int)) : stored (kvsN l) y.k (.ref y.a) = kvsN (l ++ [y]) := by
  unfold stored
  have : ¬ ((kvsN l).any fun kv => decide (kv.1 = y.k)) = true := by
    simp only [List.any_eq_true, not_exists, not_and]
    intro p hp
    obtain ⟨x, hx, rfl⟩ := List.mem_map.mp hp
    obtain ⟨i, hi, e⟩ := List.mem_iff_getElem.mp hx
    have := hN i x (by rw [List.getElem?_eq_getElem hi, e])
    simp; omega
  rw [if_neg this]
  simp [kvsN]
theorem Num.snoc {l : List Nd} (hN : Num l) {y : Nd} (hy : y.k = 100 + (l.length : Int)) : Num (l ++ [y]) := by
  intro i x h
  rw [List.getElem?_append] at h
  split at h
  · exact hN i x h
  · rename_i hi
    have : i - l.length = 0 := by
      by_cases e : i - l.length = 0
      · exact e
      · rw [List.getElem?_eq_none (by simp; omega)] at h; cases h
    rw [this] at h; simp at h; subst h
    rw [hy]; omega
theorem Num.set {l : List Nd} (hN : Num l) {i : Nat} {x y : Nd} (h : l[i]? = some x) (e : y.k = x.k) : Num (l.set i y) := by
  intro j z hz
  rw [List.getElem?_set] at hz
  split at hz
  · rename_i hij; subst hij
    split at hz
    · cases hz; rw [e]; exact hN i x h
    · cases hz
  · exact hN j z hz
theorem kvsN_set {l : List Nd} {i : Nat} {x y : Nd} (h : l[i]? = some x) (e : y.k = x.k) (e' : y.a = x.a) : kvsN (l.set i y) = kvsN l := by
  unfold kvsN
  rw [List.map_set]
  refine List.ext_getElem? fun j => ?_
  rw [List.getElem?_set]
  split
  · rename_i hij; subst hij
    have hi : i < (l.map fun x => (x.k, Value.ref x.a)).length := by rw [List.length_map]; exact (List.getElem?_eq_some_iff.mp h).1
    rw [if_pos hi, List.getElem?_map, h, e, e']; rfl
  · rfl

/-! ## methods of the sorter; add -/
section
variable {prog : Program} {w : World} {A : Around} {E : Value → Shared → Prop} {s s₀ : Shared} {z : Heap} {L a x dx : Addr} {m : List (Str × Value)} {mu : List (Addr × Obj)} {o : Obj} {as : List (Str × Value)} {pl : Sem Bool} {Q : Value × List Value → Shared → Prop}
theorem meth_gni (S : St w z L m mu s₀ s) (hx : s.heap.get? x = some (instObj 152 dx)) (ho : s.heap.get? dx = some o) (ha : AtO o as) (hv : as.lookup (Str.ofString "_get_nodeinfo") = none) (h : Q (.ref 95, [.ref x]) s) : wpAny (model prog w) A (getMethod (.ref x) (Str.ofString "_get_nodeinfo") pl) Q E s := r_instMethod S hx ho ha hv (by k_is) (by k_is) (by k_is) h
theorem meth_prep (S : St w z L m mu s₀ s) (hx : s.heap.get? x = some (instObj 152 dx)) (ho : s.heap.get? dx = some o) (ha : AtO o as) (hv : as.lookup (Str.ofString "prepare") = none) (h : Q (.ref 107, [.ref x]) s) : wpAny (model prog w) A (getMethod (.ref x) (Str.ofString "prepare") pl) Q E s := r_instMethod S hx ho ha hv (by k_is) (by k_is) (by k_is) h
theorem meth_ready (S : St w z L m mu s₀ s) (hx : s.heap.get? x = some (instObj 152 dx)) (ho : s.heap.get? dx = some o) (ha : AtO o as) (hv : as.lookup (Str.ofString "get_ready") = none) (h : Q (.ref 114, [.ref x]) s) : wpAny (model prog w) A (getMethod (.ref x) (Str.ofString "get_ready") pl) Q E s := r_instMethod S hx ho ha hv (by k_is) (by k_is) (by k_is) h
theorem meth_act (S : St w z L m mu s₀ s) (hx : s.heap.get? x = some (instObj 152 dx)) (ho : s.heap.get? dx = some o) (ha : AtO o as) (hv : as.lookup (Str.ofString "is_active") = none) (h : Q (.ref 121, [.ref x]) s) : wpAny (model prog w) A (getMethod (.ref x) (Str.ofString "is_active") pl) Q E s := r_instMethod S hx ho ha hv (by k_is) (by k_is) (by k_is) h
theorem meth_done (S : St w z L m mu s₀ s) (hx : s.heap.get? x = some (instObj 152 dx)) (ho : s.heap.get? dx = some o) (ha : AtO o as) (hv : as.lookup (Str.ofString "done") = none) (h : Q (.ref 135, [.ref x]) s) : wpAny (model prog w) A (getMethod (.ref x) (Str.ofString "done") pl) Q E s := r_instMethod S hx ho ha hv (by k_is) (by k_is) (by k_is) h
theorem meth_cyc (S : St w z L m mu s₀ s) (hx : s.heap.get? x = some (instObj 152 dx)) (ho : s.heap.get? dx = some o) (ha : AtO o as) (hv : as.lookup (Str.ofString "_find_cycle") = none) (h : Q (.ref 142, [.ref x]) s) : wpAny (model prog w) A (getMethod (.ref x) (Str.ofString "_find_cycle") pl) Q E s := r_instMethod S hx ho ha hv (by k_is) (by k_is) (by k_is) h
theorem r_lenT {its : List Value} {Q : Value → Shared → Prop} (S : St w z L m mu s₀ s) (hl : s.heap.IsTuple a its.toArray) (hn : its.length < 1000000) (h : ∀ t s', St w z L m mu s₀ s' → Q (.int its.length t) s') : wpAny (model prog w) A (call (.builtin "len") [.ref a]) Q E s := by
  refine PyProof.Rows.len_tuple hl (by simp; omega) ?_
  have := h (s.toks + 1) { s with toks := s.toks + 1 + 1 } (S.tok _)
  simpa using this
theorem Led.down {z' : Heap} (D : Led w z' mu s) (T : TF w z) (k : Sub z z') : Led w z mu s :=
  ⟨T, k.trans D.keep, fun p hp => ⟨(D.mus p hp).1, by
    cases q : z.get? p.1 with
    | none => rfl
    | some o => have := (D.mus p hp).2; rw [k _ _ q] at this; cases this⟩, D.nd⟩
end
noncomputable abbrev Vw := List (Int × Int × List Int)
noncomputable def pushS (k : Int) (v : Vw) (p : Nat) : Vw := v.modify p fun x => (x.1, x.2.1, x.2.2 ++ [k])
noncomputable def addV (v : Vw) (preds : List Nat) : Vw := preds.foldl (pushS (100 + (v.length : Int))) (v ++ [(100 + (v.length : Int), (preds.length : Int), [])])
theorem viewN_set {l : List Nd} {i : Nat} {x : Nd} (h : l[i]? = some x) (so : Obj) (k : Int) : viewN (l.set i { x with so := so, sc := x.sc ++ [k] }) = pushS k (viewN l) i := by
  unfold viewN pushS
  rw [List.map_set]
  refine List.ext_getElem? fun j => ?_
  rw [List.getElem?_set, List.getElem?_modify]
  have hi : i < (l.map fun x => (x.k, x.np, x.sc)).length := by rw [List.length_map]; exact (List.getElem?_eq_some_iff.mp h).1
  by_cases hij : i = j
  · subst hij
    rw [if_pos rfl, if_pos hi, List.getElem?_map, h]; simp
  · simp [hij]
section
variable {prog : Program} {w : World} {A : Around} {s : Shared}
set_option maxHeartbeats 4000000 in
theorem add_ {n : Nat} {R : Result → Shared → Prop} {z : Heap} {x dx nd : Addr} {od ond : Obj} {as : List (Str × Value)} {l : List Nd} {preds : List Nat} {pvs : List Value} {t : Tok} (D : Led w z ((nd, ond) :: ledN l) s) (hA : Lo n A) (hn : n ≤ 60)
   (hx : z.get? x = some (instObj 152 dx)) (ho : z.get? dx = some od) (ha : AtO od as) (hv : as.lookup (Str.ofString "_node2info") = some (.ref nd)) (hr : as.lookup (Str.ofString "_ready_nodes") = some .none) (hgn : as.lookup (Str.ofString "_get_nodeinfo") = none) (hms : (nd == sysModules) = false)
   (hdd : ond.IsDictOf (intKind prog w) (kvsN l)) (hN : Num l) (hz : l.length < 100) (hOk : ∀ y ∈ l, y.Ok) (hpv : All2 IntIs pvs (preds.map fun p : Nat => 100 + (p : Int))) (hpl : ∀ p ∈ preds, p < l.length) (hp3 : preds.length ≤ 3)
   (hsc : ∀ y ∈ l, y.sc.length + preds.length < 900)
   (h : ∀ s' ond' l', Same s s' → Led w z ((nd, ond') :: ledN l') s' → ond'.IsDictOf (intKind prog w) (kvsN l') → Num l' → (∀ y ∈ l', y.Ok) → viewN l' = addV (viewN l) preds → R (.ok (.ret .none)) s')
   : codeAny (model prog w) A (.call (.ref 102) ⟨.ref x :: .int (100 + (l.length : Int)) t :: pvs, []⟩) R s := by
  refine' enter_va (vs := pvs) (g := fun D => some [(Str.ofString "self", .ref x), (Str.ofString "node", .int (100 + (l.length : Int)) t), (Str.ofString "predecessors", .ref D)]) D hA (by omega) ?ho ?hcd ?hb (fun _ => rfl) ?_ ?hloc ?hcell ?hco ?hgen ?hk
  case ho => k_is
  case hcd => k_is
  case hb =>
    have hl : pvs.length ≤ 3 := by rw [hpv.1]; simpa using hp3
    rcases pvs with _ | ⟨a, _ | ⟨b, _ | ⟨c, _ | ⟨d, r⟩⟩⟩⟩
    · rfl
    · rfl
    · rfl
    · rfl
    · simp at hl
  case hloc => intro D; exact locs rfl
  case hcell => decide
  case hco => rfl
  case hgen => rfl
  case hk => rfl
  intro D' L A' s₁ S' hA'
  have S : St w z L [("predecessors", .ref D'), ("node", .int (100 + (l.length : Int)) t), ("self", .ref x)] ((D', tupO pvs) :: (nd, ond) :: ledN l) s s₁ := S'
  clear S'
  obtain ⟨z₂, hz₂, S₁, hT⟩ := S.freezeH
  clear S
  have hT' : z₂.IsTuple D' pvs.toArray := ⟨_, hT, rfl, 0, rfl⟩
  walk_at "if"
  walk_at "go"
  rename St _ _ _ _ _ _ _ => S
  refine get_rdy S (S.keep _ _ (hz₂ _ _ hx)) (S.keep _ _ (hz₂ _ _ ho)) ha hr rfl fun s₂ S₂ => ?_
  clear S
  walk_at "go"
  refine Br.no rfl ?_
  walk_at "go"
  rename St _ _ _ _ _ _ _ => S
  refine meth_gni S (S.keep _ _ (hz₂ _ _ hx)) (S.keep _ _ (hz₂ _ _ ho)) ha hgn ?_
  walk_at "go"
  rename St _ _ _ _ _ _ _ => S
  have S₃ : St w z₂ L _ ([(nd, ond)] ++ ledN l) s _ := S
  refine wpAny_call (get_nodeinfo_new (kvs := kvsN l) S₃.lend hA' (by omega) (S₃.subLend _ _ (hz₂ _ _ hx)) (S₃.subLend _ _ (hz₂ _ _ ho)) ha hv hms hdd (by simp [kvsN]; omega) (valueAt_kvsN_none hN (.inr (Int.le_refl _))) fun s₄ ond' a d sa so u sm D₄ hso hdd' => ?_)
  have S₄ := S₃.back D₄ sm
  clear S S₃ D₄
  generalize hy : (Nd.mk a d sa (100 + (l.length : Int)) t 0 u so []) = y at *
  have hyk : y.k = 100 + (l.length : Int) := by rw [← hy]
  have hya : y.a = a := by rw [← hy]
  have hdd2 : ond'.IsDictOf (intKind prog w) (kvsN (l ++ [y])) := by rw [← stored_kvsN hN y hyk, hya, hyk]; exact hdd'
  have hyled : ledN [y] = [(a, infO d sa 0 u (.int (100 + (l.length : Int)) t)), (d, dictOf [] 0), (sa, so)] := by rw [← hy]; rfl
  have hperm : ([(nd, ond'), (a, infO d sa 0 u (.int (100 + (l.length : Int)) t)), (d, dictOf [] 0), (sa, so)] ++ ledN l).Perm ((nd, ond') :: ledN (l ++ [y])) := by
    rw [ledN_append, hyled]
    exact (List.Perm.cons _ (List.perm_append_comm (l₁ := [(a, _), (d, _), (sa, _)]) (l₂ := ledN l)))
  have S₅ := S₄.perm hperm
  clear S₄
  have hly : (l ++ [y])[l.length]? = some y := by simp
  have hled := led_get hly
  walk_at "go"
  rename St _ _ _ _ _ _ _ => S
  have hyinf : y.inf = infO d sa 0 u (.int (100 + (l.length : Int)) t) := by rw [← hy]; rfl
  have hyd : y.d = d := by rw [← hy]
  refine get_np3 (d := d) (sa := sa) (np := 0) (t := u) (nv := .int (100 + (l.length : Int)) t) S (S.get (3 * l.length + 1) (by rw [List.getElem?_cons_succ, hled.1, hya, hyinf])) (S.get (3 * l.length + 2) (by rw [List.getElem?_cons_succ, hled.2.1, hyd])) fun s₅ S₅ => ?_
  clear S
  walk_at "go"
  rename St _ _ _ _ _ _ _ => S
  refine r_lenT S (IsTuple.up hT' S.keep) (by rw [hpv.1]; simp; omega) fun t₆ s₆ S₆ => ?_
  clear S
  walk_at "go"
  rename St _ _ _ _ _ _ _ => S
  refine set_np3 (d := d) (sa := sa) (nv := .int (100 + (l.length : Int)) t) S (3 * l.length + 1) (by rw [List.getElem?_cons_succ, hled.1, hya, hyinf]) (S.get (3 * l.length + 2) (by rw [List.getElem?_cons_succ, hled.2.1, hyd])) fun s₇ S₇ => ?_
  clear S
  rename_i t₇ _
  generalize hy' : ({ y with np := 0 + (pvs.length : Int), t := t₇ } : Nd) = y'
  have e1 : ((nd, ond') :: ledN (l ++ [y])).set (3 * l.length + 1) (a, infO d sa (0 + (pvs.length : Int)) t₇ (.int (100 + (l.length : Int)) t)) = (nd, ond') :: ledN (l ++ [y']) := by
    have := led_set_a (y := y') hly (by rw [← hy']) (by rw [← hy']) (by rw [← hy']) (by rw [← hy'])
    rw [List.set_cons_succ]
    have e2 : (l ++ [y]).set l.length y' = l ++ [y'] := by simp
    rw [e2] at this
    rw [← this, hya]
    have e3 : y'.inf = infO d sa (0 + (pvs.length : Int)) t₇ (.int (100 + (l.length : Int)) t) := by rw [← hy', ← hy]; rfl
    rw [e3]
  rw [e1] at S₇
  have hdd3 : ond'.IsDictOf (intKind prog w) (kvsN (l ++ [y'])) := by
    have : kvsN (l ++ [y']) = kvsN (l ++ [y]) := by simp [kvsN, ← hy']
    rw [this]; exact hdd2
  have hN' : Num (l ++ [y']) := hN.snoc (by rw [← hy']; exact hyk)
  have hOk' : ∀ v ∈ l ++ [y'], v.Ok := fun v hv => by
    rcases List.mem_append.mp hv with hv | hv
    · exact hOk v hv
    · rw [List.mem_singleton.mp hv, ← hy', ← hy]; exact ⟨[], hso, All2.nil, by simp⟩
  have hview : viewN (l ++ [y']) = viewN l ++ [(100 + ((viewN l).length : Int), (preds.length : Int), [])] := by
    have hpl' : (pvs.length : Int) = preds.length := by rw [hpv.1]; simp
    simp [viewN, ← hy', ← hy, hpl']
  have hsc' : ∀ v ∈ l ++ [y'], v.sc.length + preds.length < 900 := fun v hv => by
    rcases List.mem_append.mp hv with hv | hv
    · exact hsc v hv
    · rw [List.mem_singleton.mp hv, ← hy', ← hy]; simp; omega
  clear hled hly e1 hdd2 hdd' hyinf hyled hperm hyk hya hyd
  walk_at "go"
  rename St _ _ _ _ _ _ _ => S
  refine r_forTuple (S.norm [("predecessors", .ref D'), ("node", .int (100 + (l.length : Int)) t), ("self", .ref x)] (by walk_at "has")) hA'.1 hT' (fun j z' m' mu' => ∃ l' r, m' = (Str.ofString "predecessors", Value.ref D') :: (Str.ofString "node", Value.int (100 + (l.length : Int)) t) :: (Str.ofString "self", Value.ref x) :: r ∧ mu' = (nd, ond') :: ledN l' ∧ Sub z₂ z' ∧ ond'.IsDictOf (intKind prog w) (kvsN l') ∧ Num l' ∧ (∀ v ∈ l', v.Ok) ∧
      (∀ v ∈ l', v.sc.length + (preds.length - j) < 900) ∧ l'.length = l.length + 1 ∧ viewN l' = (preds.take j).foldl (pushS (100 + ((viewN l).length : Int))) (viewN l ++ [(100 + ((viewN l).length : Int), (preds.length : Int), [])])) ⟨l ++ [y'], _, rfl, rfl, Sub.refl _, hdd3, hN', hOk', hsc', by simp, hview⟩ ?_ ?_
  · clear S hdd3 hN' hOk' hsc' hview
    rintro j v z' m' mu' I o' s₈ hvj hz' ⟨l', r, rfl, rfl, hz'', hdd', hN', hOk', hsc', hlen', hview'⟩ S
    have hj : j < pvs.length := (List.getElem?_eq_some_iff.mp hvj).1
    have hj' : j < preds.length := by rw [hpv.1] at hj; simpa using hj
    obtain ⟨tj, rfl⟩ := hpv.2 j v (100 + ((preds[j] : Nat) : Int)) hvj (by simp [hj'])
    have hpj : preds[j] < l'.length := by have := hpl _ (List.getElem_mem hj'); omega
    obtain ⟨xp, hxp⟩ : ∃ xp, l'[preds[j]]? = some xp := ⟨_, List.getElem?_eq_getElem hpj⟩
    have hled := led_get hxp
    have hxm := List.mem_of_getElem? hxp
    walk_at "go"
    rename St _ _ _ _ _ _ _ => S
    have hz3 : Sub z z' := hz₂.trans hz''
    refine meth_gni S (S.keep _ _ (hz3 _ _ hx)) (S.keep _ _ (hz3 _ _ ho)) ha hgn ?_
    walk_at "go"
    rename St _ _ _ _ _ _ _ => S
    refine wpAny_call (get_nodeinfo_old S.top hA' (by omega) (S.keep _ _ (hz3 _ _ hx)) (S.keep _ _ (hz3 _ _ ho)) ha hv (S.get 0 rfl) hms hdd' (valueAt_kvsN hN' hxp) fun s₉ sm sb => ?_)
    have S₉ := S.grow sb sm
    clear S
    walk_at "go"
    rename St _ _ _ _ _ _ _ => S
    have hia : ((nd, ond') :: ledN l' ++ [(I, o')])[3 * preds[j] + 1]? = some (xp.a, xp.inf) := getL_app (l := (nd, ond') :: ledN l') (by rw [List.getElem?_cons_succ]; exact hled.1)
    have hid : ((nd, ond') :: ledN l' ++ [(I, o')])[3 * preds[j] + 2]? = some (xp.d, dictOf [] 0) := getL_app (l := (nd, ond') :: ledN l') (by rw [List.getElem?_cons_succ]; exact hled.2.1)
    have his0 : ((nd, ond') :: ledN l')[3 * preds[j] + 3]? = some (xp.s, xp.so) := by rw [List.getElem?_cons_succ]; exact hled.2.2
    have his : ((nd, ond') :: ledN l' ++ [(I, o')])[3 * preds[j] + 3]? = some (xp.s, xp.so) := getL_app (l := (nd, ond') :: ledN l') his0
    refine get_succ3 S (S.get _ hia) (S.get _ hid) fun s₁₀ S₁₀ => ?_
    clear S
    obtain ⟨svs, hso', hsi, _⟩ := hOk' xp hxm
    have hxs := hsc' xp hxm
    have hL := IsL.of (S₁₀.get _ his) hso'
    with_reducible refine r_listMethod hL F.slot_list_append F.type_list_append ?_
    walk_at "go"
    rename St _ _ _ _ _ _ _ => S
    refine r_append S _ his hso' (by rw [hsi.1]; omega) fun s₁₁ so₂ hso₂ S₁₁ => ?_
    clear S
    generalize hx2 : ({ xp with so := so₂, sc := xp.sc ++ [100 + (l.length : Int)] } : Nd) = x2
    have hset := led_set_s (y := x2) hxp (by rw [← hx2]) (by rw [← hx2]) (by rw [← hx2]) (by rw [← hx2]; rfl)
    have e2 : ((nd, ond') :: ledN l' ++ [(I, o')]).set (3 * preds[j] + 3) (xp.s, so₂) = (nd, ond') :: ledN (l'.set preds[j] x2) ++ [(I, o')] := by
      rw [setL_app (l := (nd, ond') :: ledN l') his0, List.set_cons_succ, ← hset, ← hx2]
    rw [e2] at S₁₁
    have hnum2 : Num (l'.set preds[j] x2) := hN'.set hxp (by rw [← hx2])
    have hkv2 : kvsN (l'.set preds[j] x2) = kvsN l' := kvsN_set hxp (by rw [← hx2]) (by rw [← hx2])
    have hmem2 : ∀ v ∈ l'.set preds[j] x2, v ∈ l' ∨ v = x2 := fun v hv => List.mem_or_eq_of_mem_set hv
    walk_at "go"
    rename St _ _ _ _ _ _ _ => S
    refine fp_next (Sub.refl _) ⟨l'.set preds[j] x2, _, rfl, rfl, hz'', by rw [hkv2]; exact hdd', hnum2, fun v hv => ?_, fun v hv => ?_, by simpa using hlen', ?_⟩ (S.norm [("predecessors", .ref D'), ("node", .int (100 + (l.length : Int)) t), ("self", .ref x)] (by walk_at "has"))
    · rcases hmem2 v hv with hv | rfl
      · exact hOk' v hv
      · rw [← hx2]; exact ⟨_, hso₂, hsi.append1 ⟨_, rfl⟩, by simp; omega⟩
    · rcases hmem2 v hv with hv | rfl
      · have := hsc' v hv; omega
      · rw [← hx2]; simp; omega
    · rw [← hx2, viewN_set hxp, hview']
      have : preds.take (j + 1) = preds.take j ++ [preds[j]] := by rw [List.take_add_one, List.getElem?_eq_getElem hj']; rfl
      rw [this, List.foldl_append]
      simp [viewN]
  · clear S
    rintro z' m' mu' s₈ hz' ⟨l', r, rfl, rfl, hz'', hdd', hN', hOk', hsc', hlen', hview'⟩ S
    walk_at "go"
    refine h _ ond' l' S.same (S.led.down D.top (hz₂.trans hz'')) hdd' hN' hOk' ?_
    rw [hview', hpv.1, List.length_map, List.take_length]
    rfl
end
end Mine
namespace Mine
open PySem PySem.W PySem.Calls PyProof.Rows
theorem filled9 : (fun (_ : OpenLaw) (_ : Params → Frag) => True) PySem.Challenge.rw_oc0237_01 hd.heap_1 := by k_fill; trivial

/-! ## a for over the items of a dict -/
section
variable {prog : Program} {w : World} {A : Around} {E : Value → Shared → Prop} {s s₀ : Shared} {z : Heap} {L d : Addr} {m : List (Str × Value)} {mu : List (Addr × Obj)} {env : Env} {od : Obj} {kvs : List (Int × Value)}
theorem r_forItems {pk pv pt : Pos} {xk xv : Str} {x1 : Nat} {body : List Stmt} {Q : Flow → Shared → Prop} (S : St w z L m mu s₀ s) (hh : A.handled = none) (hod : z.get? d = some od) (hdd : od.IsDictOf (intKind prog w) kvs) (hms : (d == sysModules) = false)
    (K : Nat → Heap → List (Str × Value) → List (Addr × Obj) → Prop) (hK : K 0 z m mu)
    (turn : ∀ i k v t z' m' mu' I o' s', kvs[i]? = some (k, v) → Sub z z' → K i z' m' mu' → St w z' L ((xv, v) :: (xk, .int k t) :: m') (mu' ++ [(I, o')]) s₀ s' →
      wpAny (model prog w) A (execs body env) (Fp w z' L [(I, o')] s₀ (K (i + 1)) Q) (fun _ _ => False) s')
    (done : ∀ z' m' mu' s', Sub z z' → K kvs.length z' m' mu' → St w z' L m' mu' s₀ s' → Q .next s')
    (hk : env.scope.kind = .function := by rfl) (hx : env.kindOf xk = some .local := by rfl) (hy : env.kindOf xv = some .local := by rfl) (hL : env.locals = L := by rfl) :
    wpAny (model prog w) A (call (.builtin "dict.items") [.ref d]) (fun x₁ s₁ => wpAny (model prog w) A (pyIter x₁) (fun it s₂ => codeAny (model prog w) A (.forLoop (.Tuple [.Name xk pk, .Name xv pv] x1 pt) it body [] env) (fun r s' => match r with | .ok f => Q f s' | .error e => cameBackBy (model prog w) A env E e s') s₂) E s₁) E s := by
  have hdo : s.heap.DictOf (intKind prog w) d kvs := dOf (S.keep _ _ hod) hdd
  refine call_meetsIn F.slot_dict_items hdo.typeIs F.entry_dict_items (F.args_dict_items_1 _) (meets_dict_items (intKind prog w) d hms) ⟨⟨kvs, hdo⟩, ?_⟩
  have S₁ := S.push0 { cls := .type "dict_items", data := .fields #[.ref d] } (k := s.toks)
  have hdz : z.DictOf (intKind prog w) d kvs := dOf hod hdd
  obtain ⟨ep, hat⟩ := hdz.dictAt
  refine wpAny_pyIter_items (knd := intKind prog w) (d := d) (kvs := kvs) (ep := ep) ⟨_, Heap.get?_push_size _ rfl, rfl, rfl⟩ (hat.keep S₁.keep) ?_
  have S₂ := S₁.pushEnd { cls := .type "dict_itemiterator", data := .fields #[.none, .bool false, .ref d, .int 0 0, .int kvs.length 0, .int ep 0, .none, .none] } (k := s.toks)
  generalize hI : (s.heap.push { cls := .type "dict_items", data := .fields #[.ref d] }).objs.size = I at *
  have hI0 : (({ s with heap := (s.heap.push { cls := .type "dict_items", data := .fields #[.ref d] }).push { cls := .type "dict_itemiterator", data := .fields #[.none, .bool false, .ref d, .int 0 0, .int kvs.length 0, .int ep 0, .none, .none] }, toks := s.toks } : Shared).heap).get? I = some { cls := .type "dict_itemiterator", data := .fields #[.none, .bool false, .ref d, .int 0 0, .int kvs.length 0, .int ep 0, .none, .none] } := (S₂.mus (I, _) (by simp)).1
  refine codeAny_forLoop_any (fun n s' => ∃ i z' m' mu' o' ok ov, n = kvs.length - i ∧ i ≤ kvs.length ∧ Sub z z' ∧ K i z' m' mu' ∧ St w z' L m' (mu' ++ [(I, o')]) s₀ s' ∧ IsItemIter s'.heap I d i kvs.length ep ok ov) ?_ kvs.length ⟨0, z, m, mu, _, .none, .none, by omega, Nat.zero_le _, Sub.refl _, hK, S₂, hI0⟩
  clear S₂ hI0
  rintro n s₁ ⟨i, z', m', mu', o', ok, ov, hn, hi, hz, hK', S', hit⟩
  have hat' := (hat.keep hz).keep S'.keep
  by_cases hin : i < kvs.length
  · obtain ⟨kv, hkv⟩ : ∃ kv, kvs[i]? = some kv := ⟨_, List.getElem?_eq_getElem hin⟩
    obtain ⟨k, v⟩ := kv
    refine wpAny_pyNext_items_item hit hat' hkv fun key h₁ hkey heo ht₁ hz₁ hk₁ => ?_
    obtain ⟨t, rfl⟩ := Value.isInt_shape hkey
    refine wpAny_letOwnedTupleGo_items heo fun h₂ he₂ hs₂ => ?_
    have hne : s₁.heap.objs.size ≠ I := Nat.ne_of_gt (Heap.lt_size hit)
    have ht₂ : h₂.IsTuple s₁.heap.objs.size #[.int k t, v] := ⟨_, (hs₂.2 _ hne).trans ht₁, rfl, 0, rfl⟩
    obtain ⟨oI, hoI, hoE⟩ : ∃ oI : Obj, h₂.get? I = some oI ∧ oI = { cls := .type "dict_itemiterator", dict := none, data := .fields #[.none, .bool false, .ref d, .int (i + 1 : Nat) 0, .int kvs.length 0, .int ep 0, .int k t, v], slots := #[] } := ⟨_, he₂, rfl⟩
    have S₂ : St w z' L m' (mu' ++ [(I, oI)]) s₀ { s₁ with heap := h₂ } := S'.updEnd (fun b ob hb e => hs₂.extBut b ob hb (hk₁ b ob hb e)) hoI ⟨rfl, rfl, rfl⟩
    refine r_assign2 S₂ hh ht₂ (fun s₃ S₃ => ?_) hk hx hy hL
    refine wpAny_mono (turn i k v t z' m' mu' I _ _ hkv hz hK' S₃) (fun f s₄ h₄ => ?_) fun _ _ x => x.elim
    have back : (∃ z'' m'' mu'', Sub z' z'' ∧ K (i + 1) z'' m'' mu'' ∧ St w z'' L m'' (mu'' ++ [(I, oI)]) s₀ s₄) → ∃ n', n' < n ∧ ∃ i z' m' mu' o' ok ov, n' = kvs.length - i ∧ i ≤ kvs.length ∧ Sub z z' ∧ K i z' m' mu' ∧ St w z' L m' (mu' ++ [(I, o')]) s₀ s₄ ∧ IsItemIter s₄.heap I d i kvs.length ep ok ov := by
      rintro ⟨z'', m'', mu'', hz', hK'', S₅⟩
      exact ⟨kvs.length - (i + 1), by omega, i + 1, z'', m'', mu'', _, _, _, rfl, hin, hz.trans hz', hK'', S₅, by have := (S₅.mus (I, oI) (by simp)).1; rw [hoE] at this; exact this⟩
    cases f with
    | next => exact back h₄
    | cont => exact back h₄
    | brk => exact h₄
    | ret v => exact h₄
  · have hin' : i = kvs.length := by omega
    subst hin'
    refine wpAny_pyNext_items_end hh hit hat' (by simp) fun h' he => ?_
    exact wpAny_execs_nil (done z' m' mu' _ hz hK' (S'.dropUpd he ⟨rfl, rfl, rfl⟩))

/-! ## a method called with a star -/
theorem r_CallAttrS {ob : Expr} {name : Str} {apos pos : Pos} {args : List Expr} {Q : Value → Shared → Prop}
    (h : wpAny (model prog w) A (eval ob env) (fun ov s₁ => wpAny (model prog w) A (getAttr ov name true) (fun f s₂ => wpAny (model prog w) A (callWith pos f [] (backTo pos (starEach args env)) []) Q E s₂) E s₁) E s)
    (hbase : attributeBase ob name env (eval ob env) = eval ob env := by rfl)
    (hfew : methodCallForm (args.length + 0) (backTo pos (starEach args env)) [] = false := by rfl) :
    wpAny (model prog w) A (eval (.Call (.Attribute ob name apos) args [] pos) env) Q E s := by
  rw [arm_eval_Call, hbase]
  refine wpAny_bind (wpAny_mono h (fun ov s₁ h₁ => ?_) fun _ _ e => e)
  refine wpAny_bind (wpAny_standAt ?_)
  have hform : methodCallForm (args.length + ([] : List Keyword).length) (backTo pos (starEach args env)) (backToKw pos (keywordEach [] env)) = false := hfew
  have hpos : methodCallPos false ob env apos pos = pure pos := by unfold methodCallPos; simp
  unfold methodCall
  rw [hform]
  refine wpAny_bind (wpAny_holding ?_)
  show wpAny _ _ (do pure (← getAttr ov name true, [])) _ _ _
  exact wpAny_bind (wpAny_mono h₁ (fun f s₂ h₂ => wpAny_pure (wpAny_bind (wpAny_of_eq hpos h₂))) fun _ _ e => e)
theorem r_bound {C f x dx : Addr} {o : Obj} {as : List (Str × Value)} {name : Str} {expr : Bool} {Q : Value → Shared → Prop} (S : St w z L m mu s₀ s) (hx : s.heap.get? x = some (instObj C dx)) (ho : s.heap.get? dx = some o) (ha : AtO o as) (hv : as.lookup name = none)
    (hg : plainGet (hd.heap_1 w.params) C name = true) (hh : hasDictIn (hd.heap_1 w.params) C = true) (hfi : findIn (hd.heap_1 w.params) (.ref C) name = some (some (.ref f))) (hf : isFn (hd.heap_1 w.params) (.ref f) = true)
    (hgf : specialIn (hd.heap_1 w.params) (.ref f) "__get__" = some (some (.builtin "function.__get__"))) (ht : takesIn (hd.heap_1 w.params) (.ref f) = some false) (hc : copiedNames.contains name = false)
    (h : ∀ q s', St w z L m ((q, methodObj (.ref f) (.ref x)) :: mu) s₀ s' → Q (.ref q) s') : wpAny (model prog w) A (getAttr (.ref x) name expr) Q E s := by
  obtain ⟨es, n, rfl, he⟩ := ha
  obtain ⟨b₀, X₀, F⟩ := S.fr
  exact get_bind (X₀.keeps F.keep) ⟨hx, rfl, rfl, ho⟩ (plainGet_of hg).1 (findObj_fn hh hfi hgf ht hc (by show lookIn name (dictOf es n) = _; rw [lookIn_dict, attrs_getL he, hv])) (plainGet_of hg).2
    (wpAny_call (fn_get (s := { s with toks := s.toks + 1 }) (X₀.keeps F.keep) (beq_iff_eq.mp hf) (handed_on rfl (h _ _ (S.push _)))))
theorem bound_add {x dx : Addr} {o : Obj} {as : List (Str × Value)} {expr : Bool} {Q : Value → Shared → Prop} (S : St w z L m mu s₀ s) (hx : s.heap.get? x = some (instObj 152 dx)) (ho : s.heap.get? dx = some o) (ha : AtO o as) (hv : as.lookup (Str.ofString "add") = none)
    (h : ∀ q s', St w z L m ((q, methodObj (.ref 102) (.ref x)) :: mu) s₀ s' → Q (.ref q) s') : wpAny (model prog w) A (getAttr (.ref x) (Str.ofString "add") expr) Q E s :=
  r_bound S hx ho ha hv (by k_is) (by k_is) (by k_is) (by k_is) (by k_is) (by k_is) (by decide) h
theorem r_cwS {q g : Addr} {self : Value} {pos : Pos} {e : Expr} {rest : List Expr} {Q : Value → Shared → Prop} (hf : fnIn (hd.heap_1 w.params) g = true)
    (h : wpAny (model prog w) A (spliced (backTo pos (starEach (e :: rest) env))) (fun vs s₁ => MethP (hd.heap_1 w.params) q g self s₁.heap ∧ wpAny (model prog w) A (call (.ref q) vs) Q E s₁) E s)
    (he : starEach (e :: rest) env = (false, eval e env) :: starEach rest env := by rfl) (hst : (backTo pos (starEach rest env)).any (·.1) = true := by rfl) :
    wpAny (model prog w) A (callWith pos (.ref q) [] (backTo pos (starEach (e :: rest) env)) []) Q E s := by
  rw [he] at h ⊢
  exact ks_call (by show (false || (backTo pos (starEach rest env)).any (·.1)) = true; rw [hst]; rfl) (keeps_M hf) (evalArgs_plain h)
theorem r_star {a : Addr} {its : List Value} {Q : List Value → Shared → Prop} (S : St w z L m mu s₀ s) (hl : IsL s.heap a its) (hn : its.length < 1000000) (h : ∀ s', St w z L m mu s₀ s' → Q its s') : StarOf (model prog w) A E (.ref a) Q s := by
  obtain ⟨n, D⟩ := hl.at
  have hT' := hl.type
  have z : wpAny (model prog w) A (collect (.ref a)) Q E s := by
    refine wpAny_collect_seq a (.inl rfl) D rfl rfl (fun h' hk => ?_) (by rw [sizeLine_eq]; simp; omega)
    have := h { s with heap := h' } (S.grow hk ⟨rfl, rfl, rfl⟩)
    simpa using this
  unfold StarOf notIterableAtAll
  exact wpAny_bind (wpAny_specialOf hT' PySem.F.slot_list_iter.lookup (wpAny_pure ⟨rfl, z⟩))
end

/-! ## TopologicalSorter(graph) -/
noncomputable def gV (gr : List (List Nat)) : Vw := gr.foldl addV []
theorem pushS_sc {k : Int} {v : Vw} {p B : Nat} (h : ∀ x ∈ v, x.2.2.length ≤ B) : ∀ x ∈ pushS k v p, x.2.2.length ≤ B + 1 := by
  intro x hx
  obtain ⟨i, hi, e⟩ := List.mem_iff_getElem.mp hx
  have e' : (pushS k v p)[i]? = some x := by rw [List.getElem?_eq_getElem hi, e]
  unfold pushS at e'
  rw [List.getElem?_modify] at e'
  cases q : v[i]? with
  | none => rw [q] at e'; cases e'
  | some y =>
    rw [q] at e'
    have hy := h y (List.mem_of_getElem? q)
    simp at e'
    subst e'
    split <;> simp <;> omega
theorem addV_sc {v : Vw} {ps : List Nat} {B : Nat} (h : ∀ x ∈ v, x.2.2.length ≤ B) : ∀ x ∈ addV v ps, x.2.2.length ≤ B + ps.length := by
  have aux : ∀ (ps : List Nat) (k : Int) (v : Vw) (B : Nat), (∀ x ∈ v, x.2.2.length ≤ B) → ∀ x ∈ ps.foldl (pushS k) v, x.2.2.length ≤ B + ps.length := by
    intro ps
    induction ps with
    | nil => intro k v B h x hx; exact h x hx
    | cons p r ih =>
      intro k v B h x hx
      have := ih k (pushS k v p) (B + 1) (pushS_sc h) x hx
      simp; omega
  refine aux ps _ _ B fun x hx => ?_
  rcases List.mem_append.mp hx with hx | hx
  · exact h x hx
  · rw [List.mem_singleton.mp hx]; simp
theorem pushS_length (k : Int) (v : Vw) (p : Nat) : (pushS k v p).length = v.length := by simp [pushS]
theorem addV_length (v : Vw) (ps : List Nat) : (addV v ps).length = v.length + 1 := by
  have aux : ∀ (ps : List Nat) (k : Int) (v : Vw), (ps.foldl (pushS k) v).length = v.length := by
    intro ps
    induction ps with
    | nil => intros; rfl
    | cons p r ih => intro k v; simp [ih, pushS_length]
  unfold addV
  rw [aux]; simp
theorem gV_length (gr : List (List Nat)) : (gV gr).length = gr.length := by
  have aux : ∀ (gr : List (List Nat)) (v : Vw), (gr.foldl addV v).length = v.length + gr.length := by
    intro gr
    induction gr with
    | nil => intros; rfl
    | cons p r ih => intro v; simp [ih, addV_length]; omega
  unfold gV; rw [aux]; simp
/-- the graph: a dict of lists of ints -/
noncomputable def GraphAt (prog : Program) (w : World) (z : Heap) (gd : Addr) (gr : List (List Nat)) : Prop :=
  (gd == sysModules) = false ∧ ∃ og kvs, z.get? gd = some og ∧ og.IsDictOf (intKind prog w) kvs ∧ kvs.length = gr.length ∧ ∀ (i : Nat) (ps : List Nat), gr[i]? = some ps → ∃ b vs, kvs[i]? = some (100 + (i : Int), .ref b) ∧ IsL z b vs ∧ All2 IntIs vs (ps.map fun p : Nat => 100 + (p : Int))
theorem GraphAt.up {prog : Program} {w : World} {z z' : Heap} {gd : Addr} {gr : List (List Nat)} (x : GraphAt prog w z gd gr) (k : Sub z z') : GraphAt prog w z' gd gr := by
  obtain ⟨h1, og, kvs, h2, h3, h4, h5⟩ := x
  exact ⟨h1, og, kvs, k _ _ h2, h3, h4, fun i ps h => let ⟨b, vs, e1, e2, e3⟩ := h5 i ps h; ⟨b, vs, e1, e2.up k, e3⟩⟩
section
variable {prog : Program} {w : World} {A : Around} {s : Shared}
set_option maxHeartbeats 4000000 in
theorem init_ {n : Nat} {R : Result → Shared → Prop} {z : Heap} {x dx gd : Addr} {gr : List (List Nat)} (D : Led w z [(dx, dictOf [] 0)] s) (hA : Lo n A) (hn : n ≤ 50)
   (hx : z.get? x = some (instObj 152 dx)) (hG : GraphAt prog w z gd gr) (hgl : gr.length < 90) (hgp : ∀ (i : Nat) (ps : List Nat), gr[i]? = some ps → ps.length ≤ 3 ∧ ∀ p ∈ ps, p < i)
   (h : ∀ s' od nd ond l t₁ t₂, Same s s' → Led w z ((dx, od) :: (nd, ond) :: ledN l) s' → AtO od [(Str.ofString "_node2info", .ref nd), (Str.ofString "_ready_nodes", .none), (Str.ofString "_npassedout", .int 0 t₁), (Str.ofString "_nfinished", .int 0 t₂)] →
      (nd == sysModules) = false → ond.IsDictOf (intKind prog w) (kvsN l) → Num l → (∀ y ∈ l, y.Ok) → viewN l = gV gr → R (.ok (.ret .none)) s')
   : codeAny (model prog w) A (.call (.ref 88) ⟨[.ref x, .ref gd], []⟩) R s := by
  refine' enter_led D hA (by omega) ?ho ?hcd ?hbind ?_ ?hloc ?hcell ?hco ?hgen ?hk
  case ho => k_is
  case hcd => k_is
  case hbind => exact binds_K (D.top.up D.keep).K rfl (by k_is) rfl rfl rfl
  case hloc => rfl
  case hcell => decide
  case hco => rfl
  case hgen => rfl
  case hk => rfl
  intro L A' s₁ S' hA'
  have S : St w z L [("graph", .ref gd), ("self", .ref x)] [(dx, dictOf [] 0)] s s₁ := S'
  clear S'
  have ha0 : AtO (dictOf [] 0) [] := ⟨[], 0, rfl, All2.nil⟩
  walk_at "go"
  rename St _ _ _ _ _ _ _ => S
  refine r_Dict0 (prog := prog) S fun nd s₂ ond hms hdd S₂ => ?_
  clear S
  walk_at "go"
  rename St _ _ _ _ _ _ _ => S
  refine set_n2i S 1 rfl (S.keep _ _ hx) ha0 (by simp) fun s₃ o₃ ha₃ S₃ => ?_
  clear S
  walk_at "go"
  rename St _ _ _ _ _ _ _ => S
  refine set_rdy S 1 rfl (S.keep _ _ hx) ha₃ (by simp [putA]) fun s₄ o₄ ha₄ S₄ => ?_
  clear S
  walk_at "go"
  rename St _ _ _ _ _ _ _ => S
  have ha₄' : AtO o₄ [(Str.ofString "_node2info", .ref nd), (Str.ofString "_ready_nodes", .none)] := ha₄
  refine set_out S 1 rfl (S.keep _ _ hx) ha₄' (by simp) fun s₅ o₅ ha₅ S₅ => ?_
  clear S
  walk_at "go"
  rename St _ _ _ _ _ _ _ => S
  have ha₅' : AtO o₅ [(Str.ofString "_node2info", .ref nd), (Str.ofString "_ready_nodes", .none), (Str.ofString "_npassedout", .int 0 _)] := ha₅
  refine set_fin S 1 rfl (S.keep _ _ hx) ha₅' (by simp) fun s₆ od ha₆ S₆ => ?_
  clear S
  have ha : AtO od [(Str.ofString "_node2info", .ref nd), (Str.ofString "_ready_nodes", .none), (Str.ofString "_npassedout", .int 0 _), (Str.ofString "_nfinished", .int 0 _)] := ha₆
  have S₇ : St w z L _ [(nd, ond), (dx, od)] s s₆ := S₆
  clear S₆ ha₆ ha₅ ha₄ ha₃ ha₅' ha₄'
  walk_at "go"
  walk_at "if"
  walk_at "go"
  refine Br.yes rfl ?_
  walk_at "go"
  rename St _ _ _ _ _ _ _ => S
  obtain ⟨hgms, og, gks, hog, hgd, hgkl, hge⟩ := id hG
  with_reducible refine r_dictMethod (S.keep _ _ hog) hgd F.slot_dict_items F.type_dict_items ?_
  walk_at "go"
  rename St _ _ _ _ _ _ _ => S
  refine r_forItems S hA'.1 hog hgd hgms (fun j z' m' mu' => ∃ ond l r, z' = z ∧ m' = (Str.ofString "graph", Value.ref gd) :: (Str.ofString "self", Value.ref x) :: r ∧ mu' = (nd, ond) :: ledN l ++ [(dx, od)] ∧ ond.IsDictOf (intKind prog w) (kvsN l) ∧ Num l ∧ (∀ v ∈ l, v.Ok) ∧ l.length = j ∧ viewN l = gV (gr.take j) ∧
      (∀ v ∈ viewN l, v.2.2.length ≤ 3 * j)) ⟨ond, [], _, rfl, rfl, rfl, hdd, fun i x h => by simp at h, fun v hv => by simp at hv, rfl, rfl, fun v hv => by simp [viewN] at hv⟩ ?_ ?_
  · clear S
    rintro j k v tk z' m' mu' I o' s₈ hkv hz ⟨ond, l, r, rfl, rfl, rfl, hdd, hN, hOk, hlj, hview, hsc⟩ S
    have hj : j < gr.length := by rw [← hgkl]; exact (List.getElem?_eq_some_iff.mp hkv).1
    obtain ⟨b, vs, e1, hbl, hbi⟩ := hge j gr[j] (List.getElem?_eq_getElem hj)
    rw [e1] at hkv
    cases hkv
    obtain ⟨hp3, hplt⟩ := hgp j gr[j] (List.getElem?_eq_getElem hj)
    walk_at "go"
    refine r_CallAttrS ?_
    walk_at "go"
    rename St _ _ _ _ _ _ _ => S
    refine bound_add S (S.keep _ _ hx) (S.mus (dx, od) (by simp)).1 ha rfl fun q s₉ S₉ => ?_
    clear S
    refine r_cwS (g := 102) (self := .ref x) (by k_is) ?_
    walk_at "go"
    refine items_star ?_
    walk_at "go"
    rename St _ _ _ _ _ _ _ => S
    refine r_star S (hbl.up S.keep) (by rw [hbi.1]; simp; omega) fun s₁₀ S₁₀ => ?_
    clear S
    walk_at "go"
    rename St _ _ _ _ _ _ _ => S
    have hq := (S.mus (q, methodObj (.ref 102) (.ref x)) (.head _)).1
    refine ⟨⟨hq, S.top.K⟩, wpAny_call (method_call hq ?_)⟩
    have hperm : ((q, methodObj (.ref 102) (.ref x)) :: ((nd, ond) :: ledN l ++ [(dx, od)] ++ [(I, o')])).Perm (((nd, ond) :: ledN l) ++ ([(dx, od), (I, o')] ++ [(q, methodObj (.ref 102) (.ref x))])) := by
      have e := List.perm_append_comm (l₁ := [(q, methodObj (.ref 102) (.ref x))]) (l₂ := (nd, ond) :: ledN l ++ [(dx, od), (I, o')])
      rw [List.append_assoc ((nd, ond) :: ledN l) [(dx, od), (I, o')]] at e
      rw [List.append_assoc ((nd, ond) :: ledN l) [(dx, od)]]
      exact e
    have S₁₁ := S.perm hperm
    clear S
    have hvs : vs ++ [] = vs := List.append_nil _
    rw [hvs]
    subst hlj
    have hdx : (hideAll _ (((nd, ond) :: ledN l).map (·.1))).get? dx = some od := hideAll_get _ (S₁₁.mus (dx, od) (by simp)).1 (fun e => by
      have := S₁₁.nd
      rw [List.map_append, List.nodup_append] at this
      exact this.2.2 _ e dx (by simp) rfl)
    refine add_ (t := tk) (preds := gr[l.length]) S₁₁.lend hA' (by omega) (S₁₁.subLend _ _ hx) hdx ha rfl rfl rfl hms hdd hN (by omega) hOk hbi hplt hp3 (fun y hy => ?_) fun s₁₂ ond' l' sm D' hdd' hN' hOk' hview' => ?_
    · have := hsc (y.k, y.np, y.sc) (List.mem_map.mpr ⟨y, hy, rfl⟩)
      simp at this; omega
    · have S₁₂ := S₁₁.back D' sm
      have S₁₃ := S₁₂.drop (mu' := ((nd, ond') :: ledN l') ++ [(dx, od), (I, o')]) (by rw [← List.append_assoc]; exact List.sublist_append_left _ _)
      clear S₁₁ S₁₂
      walk_at "go"
      rename St _ _ _ _ _ _ _ => S
      have hl' : l'.length = l.length + 1 := by
        have := congrArg List.length hview'
        rw [addV_length] at this
        simpa [viewN] using this
      have htk : gr.take (l.length + 1) = gr.take l.length ++ [gr[l.length]] := by rw [List.take_add_one, List.getElem?_eq_getElem hj]; rfl
      refine fp_next (Sub.refl _) ⟨ond', l', _, rfl, rfl, rfl, hdd', hN', hOk', hl', ?_, ?_⟩ (by
        rw [List.append_assoc]
        exact S.norm [("graph", .ref gd), ("self", .ref x)] (by walk_at "has"))
      · rw [hview', hview, htk]; unfold gV; rw [List.foldl_append]; rfl
      · intro v hv
        rw [hview'] at hv
        have := addV_sc hsc v hv
        omega
  · clear S
    rintro z' m' mu' s₈ hz ⟨ond, l, r, rfl, rfl, rfl, hdd, hN, hOk, hlj, hview, hsc⟩ S
    walk_at "go"
    rename St _ _ _ _ _ _ _ => S
    refine h _ od nd ond l _ _ S.same ((S.perm (List.perm_append_comm (l₁ := (nd, ond) :: ledN l) (l₂ := [(dx, od)]))).led) ha hms hdd hN hOk ?_
    rw [hview, hgkl, List.take_length]
end
end Mine
namespace Mine
open PySem PySem.W PySem.Calls PyProof.Rows
theorem filled10 : (fun (_ : OpenLaw) (_ : Params → Frag) => True) PySem.Challenge.rw_oc0237_01 hd.heap_1 := by k_fill; trivial

/-! ## the sorter behind prepare -/
noncomputable def infN (l : List Nd) : List (Addr × Obj) := l.map fun x => (x.a, x.inf)
structure SorterAt (prog : Program) (w : World) (z : Heap) (x dx nd : Addr) (l : List Nd) : Prop where
  inst : z.get? x = some (instObj 152 dx)
  dict : ∃ ond, z.get? nd = some ond ∧ ond.IsDictOf (intKind prog w) (kvsN l)
  ms : (nd == sysModules) = false
  num : Num l
  ok : ∀ y ∈ l, y.Ok ∧ z.get? y.d = some (dictOf [] 0) ∧ z.get? y.s = some y.so
theorem SorterAt.up {prog : Program} {w : World} {z z' : Heap} {x dx nd : Addr} {l : List Nd} (H : SorterAt prog w z x dx nd l) (k : Sub z z') : SorterAt prog w z' x dx nd l :=
  ⟨k _ _ H.inst, let ⟨o, h1, h2⟩ := H.dict; ⟨o, k _ _ h1, h2⟩, H.ms, H.num, fun y hy => let ⟨a, b, c⟩ := H.ok y hy; ⟨a, k _ _ b, k _ _ c⟩⟩
theorem infN_get {l : List Nd} {i : Nat} {x : Nd} (h : l[i]? = some x) : (infN l)[i]? = some (x.a, x.inf) := by simp [infN, h]
noncomputable def setNp (l : List Nd) (i : Nat) (x : Nd) (np : Int) (t : Tok) : List Nd := l.set i { x with np := np, t := t }
theorem infN_set {l : List Nd} {i : Nat} {x : Nd} (h : l[i]? = some x) (np : Int) (t : Tok) : (infN l).set i (x.a, infO x.d x.s np t (.int x.k x.u)) = infN (setNp l i x np t) := by
  unfold infN setNp
  rw [List.map_set]; rfl
theorem infN_set2 {l : List Nd} {i : Nat} {x : Nd} (p q : Addr × Obj) (h : l[i]? = some x) (np : Int) (t : Tok) : (p :: q :: infN l).set (i + 2) (x.a, infO x.d x.s np t (.int x.k x.u)) = p :: q :: infN (setNp l i x np t) := by
  show p :: q :: (infN l).set i _ = _
  rw [infN_set h]
theorem SorterAt.setNp {prog : Program} {w : World} {z : Heap} {x dx nd : Addr} {l : List Nd} {i : Nat} {y : Nd} (H : SorterAt prog w z x dx nd l) (h : l[i]? = some y) (np : Int) (t : Tok) : SorterAt prog w z x dx nd (setNp l i y np t) :=
  ⟨H.inst, by rw [Mine.setNp, kvsN_set (y := { y with np := np, t := t }) h rfl rfl]; exact H.dict, H.ms, H.num.set h rfl, fun v hv => by
    rcases List.mem_or_eq_of_mem_set hv with hv | rfl
    · exact H.ok v hv
    · exact H.ok y (List.mem_of_getElem? h)⟩
noncomputable def modNp (v : Vw) (i : Nat) (f : Int → Int) : Vw := v.modify i fun x => (x.1, f x.2.1, x.2.2)
theorem viewN_setNp {l : List Nd} {i : Nat} {x : Nd} (h : l[i]? = some x) (f : Int → Int) (t : Tok) : viewN (setNp l i x (f x.np) t) = modNp (viewN l) i f := by
  unfold viewN modNp setNp
  rw [List.map_set]
  refine List.ext_getElem? fun j => ?_
  rw [List.getElem?_set, List.getElem?_modify]
  have hi : i < (l.map fun x => (x.k, x.np, x.sc)).length := by rw [List.length_map]; exact (List.getElem?_eq_some_iff.mp h).1
  by_cases hij : i = j
  · subst hij
    rw [if_pos rfl, if_pos hi, List.getElem?_map, h]; simp
  · simp [hij]
theorem setNp_length (l : List Nd) (i : Nat) (x : Nd) (np : Int) (t : Tok) : (setNp l i x np t).length = l.length := by simp [setNp]
noncomputable abbrev at4 (nd rl : Addr) (out fin : Int) (t₁ t₂ : Tok) : List (Str × Value) := [(Str.ofString "_node2info", .ref nd), (Str.ofString "_ready_nodes", .ref rl), (Str.ofString "_npassedout", .int out t₁), (Str.ofString "_nfinished", .int fin t₂)]

section
variable {prog : Program} {w : World} {A : Around} {E : Value → Shared → Prop} {s s₀ : Shared} {z : Heap} {L a : Addr} {m : List (Str × Value)} {mu : List (Addr × Obj)} {env : Env}
theorem r_tupleL {its : List Value} {Q : Value → Shared → Prop} (S : St w z L m mu s₀ s) (hl : IsL s.heap a its) (hn : its.length < 1000000) (h : ∀ b s', St w z L m ((b, tupO its) :: mu) s₀ s' → Q (.ref b) s') : wpAny (model prog w) A (call (.type "tuple") [.ref a]) Q E s :=
  call_tuple_list hl.isList (fun h' hk => h _ _ ((S.grow (s' := { s with heap := h' }) hk ⟨rfl, rfl, rfl⟩).push _)) (by rw [sizeLine_eq]; simp; omega)
theorem meets_bool_list (its : List Value) (n : Nat) (hz : its.length < 1000000) :
    Meets (Builtin.«bool.__new__» ⟨[.type "bool", .ref a], []⟩) (fun _ R s => s.heap.get? a = some { cls := .type "list", data := .seq its.toArray n } ∧ R (.ok (.ret (.bool (!its.toArray.isEmpty)))) { s with toks := s.toks + 1 + 1 }) :=
  Meets.of_wp fun prog w A R s hs => by
    obtain ⟨hp, g, d, tk, os⟩ := s
    have f1 := F.conv_sub_bool
    have hl : (⟨hp, g, d, tk, os⟩ : Shared).heap.IsList a its.toArray := ⟨_, hs.1, rfl, n, rfl⟩
    repeat (any_goals (first | assumption | (with_reducible refine wpAny_truthy_list hl (by simp; omega) ?_) | wp_step))
    all_goals first | exact ⟨_, rfl, hs.2⟩ | exact hs.2 | skip
theorem r_boolL {its : List Value} {Q : Value → Shared → Prop} (S : St w z L m mu s₀ s) (hl : IsL s.heap a its) (hn : its.length < 1000000) (h : ∀ s', St w z L m mu s₀ s' → Q (.bool (!its.isEmpty)) s') : wpAny (model prog w) A (call (.type "bool") [.ref a]) Q E s := by
  obtain ⟨n, e⟩ := hl.at
  refine call_bool_1 (meets_bool_list its n hn) ⟨e, rfl, ?_⟩
  have := h { s with toks := s.toks + 1 + 1 } (S.tok _)
  have e2 : (!its.isEmpty) = (!its.toArray.isEmpty) := by simp
  rw [e2] at this; exact this
end
section
variable {prog : Program} {w : World} {A : Around} {s : Shared}
theorem is_active {n : Nat} {R : Result → Shared → Prop} {z : Heap} {x dx nd rl : Addr} {od : Obj} {rvs : List Value} {out fin : Int} {t₁ t₂ : Tok} (T : TF w s.heap) (hA : Lo n A) (hn : n ≤ 60)
   (hx : s.heap.get? x = some (instObj 152 dx)) (ho : s.heap.get? dx = some od) (ha : AtO od (at4 nd rl out fin t₁ t₂)) (hr : IsL s.heap rl rvs) (hz : rvs.length < 1000)
   (h : ∀ s', Same s s' → Sub s.heap s'.heap → R (.ok (.ret (.bool (decide (fin < out) || !rvs.isEmpty)))) s')
   : codeAny (model prog w) A (.call (.ref 121) ⟨[.ref x], []⟩) R s := by
  walk_at "enterP"
  case T => exact T
  case hA => exact hA
  case hn => omega
  intro L A' s₁ S' hA'
  have S : St w s.heap L [("self", .ref x)] [] s s₁ := S'
  clear S'
  walk_at "if"
  walk_at "go"
  rename St _ _ _ _ _ _ _ => S
  refine get_rdy S (S.keep _ _ hx) (S.keep _ _ ho) ha rfl rfl fun s₂ S₂ => ?_
  clear S
  walk_at "go"
  refine Br.no rfl ?_
  walk_at "go"
  rename St _ _ _ _ _ _ _ => S
  refine get_fin S (S.keep _ _ hx) (S.keep _ _ ho) ha rfl rfl fun s₃ S₃ => ?_
  clear S
  walk_at "go"
  rename St _ _ _ _ _ _ _ => S
  refine get_out S (S.keep _ _ hx) (S.keep _ _ ho) ha rfl rfl fun s₄ S₄ => ?_
  clear S
  walk_at "go"
  refine ⟨fun hb => ?_, fun hb => ?_⟩
  · rename St _ _ _ _ _ _ _ => S
    have := h _ S.same S.keep
    rw [hb] at this ⊢; exact this
  · walk_at "go"
    rename St _ _ _ _ _ _ _ => S
    refine get_rdy S (S.keep _ _ hx) (S.keep _ _ ho) ha rfl rfl fun s₅ S₅ => ?_
    clear S
    walk_at "go"
    rename St _ _ _ _ _ _ _ => S
    refine r_boolL S (hr.up S.keep) (by omega) fun s₆ S₆ => ?_
    clear S
    walk_at "go"
    rename St _ _ _ _ _ _ _ => S
    have := h _ S.same S.keep
    rw [hb] at this; exact this

theorem Led.thaw {z z' : Heap} {mu : List (Addr × Obj)} {c : Addr} {o : Obj} (D : Led w z' mu s) (T : TF w z) (k : Sub z z') (ho : z'.get? c = some o) (hn : z.get? c = none) : Led w z ((c, o) :: mu) s := by
  have D' := D.down T k
  refine ⟨D'.top, D'.keep, fun p hp => ?_, ?_⟩
  · rcases List.mem_cons.mp hp with rfl | hp
    · exact ⟨D.keep _ _ ho, hn⟩
    · exact D'.mus p hp
  · rw [List.map_cons, List.nodup_cons]
    refine ⟨fun q => ?_, D'.nd⟩
    obtain ⟨p, hp, e⟩ := List.mem_map.mp q
    have := (D.mus p hp).2
    rw [e, ho] at this; cases this
noncomputable def outV (v : Vw) (rs : List Nat) : Vw := rs.foldl (fun v r => modNp v r fun _ => -1) v
set_option maxHeartbeats 4000000 in
theorem get_ready {n : Nat} {R : Result → Shared → Prop} {z : Heap} {x dx nd rl : Addr} {od orl : Obj} {rvs : List Value} {rs : List Nat} {out fin : Int} {t₁ t₂ : Tok} {l : List Nd} (D : Led w z ((dx, od) :: (rl, orl) :: infN l) s) (hA : Lo n A) (hn : n ≤ 60)
   (H : SorterAt prog w z x dx nd l) (ha : AtO od (at4 nd rl out fin t₁ t₂)) (hr : LsO orl rvs) (hrv : All2 IntIs rvs (rs.map fun r : Nat => 100 + (r : Int))) (hrl : ∀ r ∈ rs, r < l.length) (hz : rs.length < 1000)
   (h : ∀ s' od' orl' l' tb t₁', Same s s' → Led w z ((tb, tupO rvs) :: (dx, od') :: (rl, orl') :: infN l') s' → LsO orl' [] → AtO od' (at4 nd rl (out + rs.length) fin t₁' t₂) → (∀ zz, SorterAt prog w zz x dx nd l → SorterAt prog w zz x dx nd l') → viewN l' = outV (viewN l) rs → R (.ok (.ret (.ref tb))) s')
   : codeAny (model prog w) A (.call (.ref 114) ⟨[.ref x], []⟩) R s := by
  walk_at "enterL"
  case D => exact D
  case hA => exact hA
  case hn => omega
  intro L A' s₁ S' hA'
  have S : St w z L [("self", .ref x)] ((dx, od) :: (rl, orl) :: infN l) s s₁ := S'
  clear S'
  walk_at "if"
  walk_at "go"
  rename St _ _ _ _ _ _ _ => S
  refine get_rdy S (S.keep _ _ H.inst) (S.get 0 rfl) ha rfl rfl fun s₂ S₂ => ?_
  clear S
  walk_at "go"
  refine Br.no rfl ?_
  walk_at "go"
  rename St _ _ _ _ _ _ _ => S
  refine get_rdy S (S.keep _ _ H.inst) (S.get 0 rfl) ha rfl rfl fun s₃ S₃ => ?_
  clear S
  walk_at "go"
  rename St _ _ _ _ _ _ _ => S
  refine r_tupleL S (IsL.of (S.get 1 rfl) hr) (by rw [hrv.1]; simp; omega) fun tb s₄ S₄ => ?_
  clear S
  have hzn : z.get? tb = none := (S₄.mus (tb, _) (.head _)).2.2
  obtain ⟨z₂, hz₂, S, hT⟩ := S₄.freezeH
  clear S₄
  have hT' : z₂.IsTuple tb rvs.toArray := ⟨_, hT, rfl, 0, rfl⟩
  walk_at "go"
  rename St _ _ _ _ _ _ _ => S
  refine get_n2i S (S.keep _ _ (hz₂ _ _ H.inst)) (S.get 0 rfl) ha rfl rfl fun s₅ S₅ => ?_
  clear S
  walk_at "go"
  rename St _ _ _ _ _ _ _ => S
  refine r_forTuple (S.norm [("n2i", .ref nd), ("result", .ref tb), ("self", .ref x)] (by walk_at "has")) hA'.1 hT' (fun j z' m' mu' => ∃ l' r, m' = (Str.ofString "n2i", Value.ref nd) :: (Str.ofString "result", Value.ref tb) :: (Str.ofString "self", Value.ref x) :: r ∧ mu' = (dx, od) :: (rl, orl) :: infN l' ∧ z' = z₂ ∧ (∀ zz, SorterAt prog w zz x dx nd l → SorterAt prog w zz x dx nd l') ∧ l'.length = l.length ∧ viewN l' = outV (viewN l) (rs.take j))
    ⟨l, _, rfl, rfl, rfl, fun _ h => h, rfl, rfl⟩ ?_ ?_
  · clear S
    rintro j v z' m' mu' I o' s₈ hvj hz' ⟨l', r, rfl, rfl, rfl, HH, hlen', hview'⟩ S
    have H' := HH z H
    have hj : j < rvs.length := (List.getElem?_eq_some_iff.mp hvj).1
    have hj' : j < rs.length := by rw [hrv.1] at hj; simpa using hj
    obtain ⟨tj, rfl⟩ := hrv.2 j v (100 + ((rs[j] : Nat) : Int)) hvj (by simp [hj'])
    have hrj : rs[j] < l'.length := by have := hrl _ (List.getElem_mem hj'); omega
    obtain ⟨xp, hxp⟩ : ∃ xp, l'[rs[j]]? = some xp := ⟨_, List.getElem?_eq_getElem hrj⟩
    obtain ⟨ond, hnd, hdd⟩ := H'.dict
    obtain ⟨_, hxd, hxs⟩ := H'.ok xp (List.mem_of_getElem? hxp)
    have hi0 : ((dx, od) :: (rl, orl) :: infN l')[rs[j] + 2]? = some (xp.a, xp.inf) := infN_get hxp
    have hi : ((dx, od) :: (rl, orl) :: infN l' ++ [(I, o')])[rs[j] + 2]? = some (xp.a, xp.inf) := getL_app hi0
    walk_at "go"
    rename St _ _ _ _ _ _ _ => S
    refine r_dItem S (S.keep _ _ (hz' _ _ (hz₂ _ _ hnd))) hdd (valueAt_kvsN H'.num hxp) fun s₉ S₉ => ?_
    clear S
    walk_at "go"
    rename St _ _ _ _ _ _ _ => S
    refine set_np3 S _ hi (S.keep _ _ (hz' _ _ (hz₂ _ _ hxd))) fun s₁₀ S₁₀ => ?_
    clear S
    rw [setL_app hi0, infN_set2 _ _ hxp] at S₁₀
    walk_at "go"
    rename St _ _ _ _ _ _ _ => S
    refine fp_next (Sub.refl _) ⟨_, _, rfl, rfl, rfl, fun zz hz => (HH zz hz).setNp hxp _ _, by rw [setNp_length]; exact hlen', ?_⟩ (S.norm [("n2i", .ref nd), ("result", .ref tb), ("self", .ref x)] (by walk_at "has"))
    rw [viewN_setNp hxp (fun _ => -1), hview']
    have : rs.take (j + 1) = rs.take j ++ [rs[j]] := by rw [List.take_add_one, List.getElem?_eq_getElem hj']; rfl
    rw [this]; unfold outV; rw [List.foldl_append]; rfl
  · clear S
    rintro z' m' mu' s₈ hz' ⟨l', r, rfl, rfl, rfl, H', hlen', hview'⟩ S
    walk_at "go"
    rename St _ _ _ _ _ _ _ => S
    refine get_rdy S (S.keep _ _ (hz₂ _ _ H.inst)) (S.get 0 rfl) ha rfl rfl fun s₉ S₉ => ?_
    clear S
    have hL := IsL.of (S₉.get 1 rfl) hr
    with_reducible refine r_listMethod hL F.slot_list_clear F.type_list_clear ?_
    walk_at "go"
    rename St _ _ _ _ _ _ _ => S
    refine r_clear S 1 rfl hr (by rw [hrv.1]; simp; omega) fun s₁₀ orl' hr' S₁₀ => ?_
    clear S
    walk_at "go"
    rename St _ _ _ _ _ _ _ => S
    refine get_out S (S.keep _ _ (hz₂ _ _ H.inst)) (S.get 0 rfl) ha rfl rfl fun s₁₁ S₁₁ => ?_
    clear S
    walk_at "go"
    rename St _ _ _ _ _ _ _ => S
    refine r_lenT S (IsTuple.up hT' S.keep) (by rw [hrv.1]; simp; omega) fun t₁₂ s₁₂ S₁₂ => ?_
    clear S
    walk_at "go"
    rename St _ _ _ _ _ _ _ => S
    refine set_out S 0 rfl (S.keep _ _ (hz₂ _ _ H.inst)) ha (by simp) fun s₁₃ od' ha' S₁₃ => ?_
    clear S
    have hlen : (rvs.length : Int) = rs.length := by rw [hrv.1]; simp
    rw [hlen] at ha'
    walk_at "go"
    rename St _ _ _ _ _ _ _ => S
    have S' : St w z' L _ ((dx, od') :: (rl, orl') :: infN l') s _ := S
    exact h _ od' orl' l' tb _ S.same (S'.led.thaw D.top hz₂ hT hzn) hr' ha' H' (by rw [hview', hrv.1, List.length_map, List.take_length])

noncomputable def npOf (v : Vw) (q : Nat) : Int := (v.getD q (0, 0, [])).2.1
noncomputable def stepD (st : Vw × List Nat) (q : Nat) : Vw × List Nat := (modNp st.1 q (· - 1), if npOf st.1 q - 1 = 0 then st.2 ++ [q] else st.2)
noncomputable def doneV (v : Vw) (ready : List Nat) (r : Nat) (qs : List Nat) : Vw × List Nat := qs.foldl stepD (modNp v r fun _ => -2, ready)
theorem npOf_view {l : List Nd} {i : Nat} {x : Nd} (h : l[i]? = some x) : npOf (viewN l) i = x.np := by simp [npOf, viewN, h]
set_option maxHeartbeats 4000000 in
theorem done_ {n : Nat} {R : Result → Shared → Prop} {z : Heap} {x dx nd rl : Addr} {od orl : Obj} {rvs : List Value} {rs qs : List Nat} {r : Nat} {out fin : Int} {t t₁ t₂ : Tok} {l : List Nd} (D : Led w z ((dx, od) :: (rl, orl) :: infN l) s) (hA : Lo n A) (hn : n ≤ 60)
   (H : SorterAt prog w z x dx nd l) (ha : AtO od (at4 nd rl out fin t₁ t₂)) (hr : LsO orl rvs) (hrv : All2 IntIs rvs (rs.map fun r : Nat => 100 + (r : Int))) (hz : rs.length + qs.length < 1000)
   (hv : (viewN l)[r]? = some (100 + (r : Int), -1, qs.map fun q : Nat => 100 + (q : Int))) (hq : ∀ q ∈ qs, q < l.length)
   (h : ∀ s' od' orl' rvs' l' t₂', Same s s' → Led w z ((dx, od') :: (rl, orl') :: infN l') s' → LsO orl' rvs' → All2 IntIs rvs' ((doneV (viewN l) rs r qs).2.map fun r : Nat => 100 + (r : Int)) → AtO od' (at4 nd rl out (fin + 1) t₁ t₂') → (∀ zz, SorterAt prog w zz x dx nd l → SorterAt prog w zz x dx nd l') → viewN l' = (doneV (viewN l) rs r qs).1 → R (.ok (.ret .none)) s')
   : codeAny (model prog w) A (.call (.ref 135) ⟨[.ref x, .int (100 + (r : Int)) t], []⟩) R s := by
  refine' enter_va (vs := [.int (100 + (r : Int)) t]) (g := fun D => some [(Str.ofString "self", .ref x), (Str.ofString "nodes", .ref D)]) D hA (by omega) ?ho ?hcd ?hb (fun _ => rfl) ?_ ?hloc ?hcell ?hco ?hgen ?hk
  case ho => k_is
  case hcd => k_is
  case hb => rfl
  case hloc => intro D; exact locs rfl
  case hcell => decide
  case hco => rfl
  case hgen => rfl
  case hk => rfl
  intro D' L A' s₁ S' hA'
  have S : St w z L [("nodes", .ref D'), ("self", .ref x)] ((D', tupO [.int (100 + (r : Int)) t]) :: (dx, od) :: (rl, orl) :: infN l) s s₁ := S'
  clear S'
  obtain ⟨z₂, hz₂, S₁, hT⟩ := S.freezeH
  clear S
  have hT' : z₂.IsTuple D' ([.int (100 + (r : Int)) t] : List Value).toArray := ⟨_, hT, rfl, 0, rfl⟩
  have H₂ := H.up hz₂
  walk_at "if"
  walk_at "go"
  rename St _ _ _ _ _ _ _ => S
  refine get_rdy S (S.keep _ _ H₂.inst) (S.get 0 rfl) ha rfl rfl fun s₂ S₂ => ?_
  clear S
  walk_at "go"
  refine Br.no rfl ?_
  walk_at "go"
  rename St _ _ _ _ _ _ _ => S
  refine get_n2i S (S.keep _ _ H₂.inst) (S.get 0 rfl) ha rfl rfl fun s₃ S₃ => ?_
  clear S
  walk_at "go"
  rename St _ _ _ _ _ _ _ => S
  refine r_forTuple (S.norm [("n2i", .ref nd), ("self", .ref x)] (by walk_at "has")) hA'.1 hT' (fun j z' m' mu' => z' = z₂ ∧ ∃ r', m' = (Str.ofString "n2i", Value.ref nd) :: (Str.ofString "self", Value.ref x) :: r' ∧
    ((j = 0 ∧ mu' = (dx, od) :: (rl, orl) :: infN l) ∨ (j = 1 ∧ ∃ od' orl' rvs' l' t₂', mu' = (dx, od') :: (rl, orl') :: infN l' ∧ LsO orl' rvs' ∧ All2 IntIs rvs' ((doneV (viewN l) rs r qs).2.map fun r : Nat => 100 + (r : Int)) ∧ AtO od' (at4 nd rl out (fin + 1) t₁ t₂') ∧ (∀ zz, SorterAt prog w zz x dx nd l → SorterAt prog w zz x dx nd l') ∧ viewN l' = (doneV (viewN l) rs r qs).1)))
    ⟨rfl, _, rfl, .inl ⟨rfl, rfl⟩⟩ ?_ ?_
  · clear S
    rintro j v z' m' mu' I o' s₄ hvj hz' ⟨rfl, r', rfl, hcase⟩ S
    have hj0 : j = 0 := by have := (List.getElem?_eq_some_iff.mp hvj).1; simp at this; exact this
    subst hj0
    simp at hvj
    subst hvj
    rcases hcase with ⟨_, rfl⟩ | ⟨e, _⟩
    case inr => cases e
    obtain ⟨xr, hxr, hxk⟩ : ∃ xr, l[r]? = some xr ∧ xr.np = -1 ∧ xr.sc = qs.map fun q : Nat => 100 + (q : Int) := by
      rw [viewN, List.getElem?_map] at hv
      obtain ⟨xr, e1, e2⟩ := Option.map_eq_some_iff.mp hv
      injection e2 with _ e3
      injection e3 with e3 e4
      exact ⟨xr, e1, e3, e4⟩
    obtain ⟨hnp, hsc⟩ := hxk
    obtain ⟨ond, hnd, hdd⟩ := H₂.dict
    obtain ⟨⟨svs, hsl, hsi, _⟩, hxd, hxs⟩ := H₂.ok xr (List.mem_of_getElem? hxr)
    rw [hsc] at hsi
    have hi0 : ((dx, od) :: (rl, orl) :: infN l)[r + 2]? = some (xr.a, xr.inf) := infN_get hxr
    have hi : ((dx, od) :: (rl, orl) :: infN l ++ [(I, o')])[r + 2]? = some (xr.a, xr.inf) := getL_app hi0
    walk_at "go"
    walk_at "if"
    walk_at "go"
    rename St _ _ _ _ _ _ _ => S
    with_reducible refine r_dictMethod (S.keep _ _ hnd) hdd F.slot_dict_get F.type_dict_get ?_
    walk_at "go"
    rename St _ _ _ _ _ _ _ => S
    refine r_dGet S H.ms (S.keep _ _ hnd) hdd fun s₅ S₅ => ?_
    clear S
    rw [valueAt_kvsN H.num hxr]
    walk_at "go"
    refine Br.no rfl ?_
    walk_at "go"
    rename St _ _ _ _ _ _ _ => S
    refine get_np3 S (S.get _ hi) (S.keep _ _ hxd) fun s₆ S₆ => ?_
    clear S
    rw [hnp]
    walk_at "go"
    walk_at "if"
    walk_at "go"
    refine Br.no (by decide) ?_
    walk_at "go"
    rename St _ _ _ _ _ _ _ => S
    refine set_np3 S _ hi (S.keep _ _ hxd) fun s₇ S₇ => ?_
    clear S
    rw [setL_app hi0, infN_set2 _ _ hxr] at S₇
    obtain ⟨l1, hl1⟩ : ∃ l1, l1 = setNp l r xr (-2) 231 := ⟨_, rfl⟩
    rw [← hl1] at S₇
    have H1 : ∀ zz, SorterAt prog w zz x dx nd l → SorterAt prog w zz x dx nd l1 := fun zz hz => by rw [hl1]; exact hz.setNp hxr _ _
    have hlen1 : l1.length = l.length := by rw [hl1, setNp_length]
    have hview1 : viewN l1 = modNp (viewN l) r fun _ => -2 := by rw [hl1]; exact viewN_setNp hxr (fun _ => -2) 231
    have hxr1 : l1[r]? = some { xr with np := -2, t := 231 } := by
      rw [hl1]; unfold setNp
      rw [List.getElem?_set, if_pos rfl, if_pos (List.getElem?_eq_some_iff.mp hxr).1]
    have hi1 : ((dx, od) :: (rl, orl) :: infN l1 ++ [(I, o')])[r + 2]? = some (xr.a, infO xr.d xr.s (-2) 231 (.int xr.k xr.u)) := getL_app (l := (dx, od) :: (rl, orl) :: infN l1) (infN_get hxr1)
    walk_at "go"
    rename St _ _ _ _ _ _ _ => S
    refine get_succ3 S (S.get _ hi1) (S.keep _ _ hxd) fun s₈ S₈ => ?_
    clear S
    have hsL : IsL z' xr.s svs := IsL.of hxs hsl
    refine r_forList (mu := (dx, od) :: (rl, orl) :: infN l1 ++ [(I, o')]) (S₈.norm [("n2i", .ref nd), ("self", .ref x)] (by walk_at "has")) hA'.1 hsL (fun j z'' m' mu' => z'' = z' ∧ ∃ l' orl' rvs' rd' r', m' = (Str.ofString "n2i", Value.ref nd) :: (Str.ofString "self", Value.ref x) :: r' ∧ mu' = (dx, od) :: (rl, orl') :: infN l' ++ [(I, o')] ∧
      LsO orl' rvs' ∧ All2 IntIs rvs' (rd'.map fun r : Nat => 100 + (r : Int)) ∧ (∀ zz, SorterAt prog w zz x dx nd l → SorterAt prog w zz x dx nd l') ∧ l'.length = l.length ∧ (viewN l', rd') = (qs.take j).foldl stepD (modNp (viewN l) r (fun _ => -2), rs) ∧ rd'.length ≤ rs.length + j) ⟨rfl, l1, orl, rvs, rs, _, rfl, rfl, hr, hrv, H1, hlen1, by rw [hview1]; rfl, Nat.le_refl _⟩ ?_ ?_
    · clear S₈
      rintro j v z'' m' mu' I₂ o₂ s₉ hvj hz'' ⟨rfl, l', orl', rvs', rd', r'', rfl, rfl, hlr, hri, HH, hlen', hview', hrd⟩ S
      have H' := HH z H
      have hj : j < svs.length := (List.getElem?_eq_some_iff.mp hvj).1
      have hj' : j < qs.length := by rw [hsi.1] at hj; simpa using hj
      obtain ⟨tj, rfl⟩ := hsi.2 j v (100 + ((qs[j] : Nat) : Int)) hvj (by simp [hj'])
      have hqj : qs[j] < l'.length := by have := hq _ (List.getElem_mem hj'); omega
      obtain ⟨xq, hxq⟩ : ∃ xq, l'[qs[j]]? = some xq := ⟨_, List.getElem?_eq_getElem hqj⟩
      obtain ⟨ond', hnd', hdd'⟩ := (H'.up hz₂).dict
      obtain ⟨_, hqd, hqs⟩ := (H'.up hz₂).ok xq (List.mem_of_getElem? hxq)
      have hk0 : ((dx, od) :: (rl, orl') :: infN l')[qs[j] + 2]? = some (xq.a, xq.inf) := infN_get hxq
      have hk : ((dx, od) :: (rl, orl') :: infN l' ++ [(I, o')] ++ [(I₂, o₂)])[qs[j] + 2]? = some (xq.a, xq.inf) := getL_app (getL_app hk0)
      walk_at "go"
      rename St _ _ _ _ _ _ _ => S
      refine r_dItem S (S.keep _ _ hnd') hdd' (valueAt_kvsN H'.num hxq) fun s₁₀ S₁₀ => ?_
      clear S
      walk_at "go"
      rename St _ _ _ _ _ _ _ => S
      refine get_np3 S (S.get _ hk) (S.keep _ _ hqd) fun s₁₁ S₁₁ => ?_
      clear S
      walk_at "go"
      rename St _ _ _ _ _ _ _ => S
      rename_i tq _
      refine set_np3 S _ hk (S.keep _ _ hqd) fun s₁₂ S₁₂ => ?_
      clear S
      rw [setL_app (l := (dx, od) :: (rl, orl') :: infN l' ++ [(I, o')]) (getL_app hk0), setL_app hk0, infN_set2 _ _ hxq] at S₁₂
      obtain ⟨l2, hl2⟩ : ∃ l2, l2 = setNp l' qs[j] xq (xq.np - 1) tq := ⟨_, rfl⟩
      rw [← hl2] at S₁₂
      have H2 : ∀ zz, SorterAt prog w zz x dx nd l → SorterAt prog w zz x dx nd l2 := fun zz hz => by rw [hl2]; exact (HH zz hz).setNp hxq _ _
      have hlen2 : l2.length = l.length := by rw [hl2, setNp_length]; exact hlen'
      have hview2 : viewN l2 = modNp (viewN l') qs[j] (· - 1) := by rw [hl2]; exact viewN_setNp hxq (· - 1) tq
      have hxq2 : l2[qs[j]]? = some { xq with np := xq.np - 1, t := tq } := by
        rw [hl2]; unfold setNp
        rw [List.getElem?_set, if_pos rfl, if_pos hqj]
      have hk2 : ((dx, od) :: (rl, orl') :: infN l2 ++ [(I, o')] ++ [(I₂, o₂)])[qs[j] + 2]? = some (xq.a, infO xq.d xq.s (xq.np - 1) tq (.int xq.k xq.u)) := getL_app (getL_app (l := (dx, od) :: (rl, orl') :: infN l2) (infN_get hxq2))
      have hfold : (qs.take (j + 1)).foldl stepD (modNp (viewN l) r (fun _ => -2), rs) = stepD (viewN l', rd') qs[j] := by
        have : qs.take (j + 1) = qs.take j ++ [qs[j]] := by rw [List.take_add_one, List.getElem?_eq_getElem hj']; rfl
        rw [this, List.foldl_append, ← hview']; rfl
      walk_at "go"
      walk_at "if"
      walk_at "go"
      rename St _ _ _ _ _ _ _ => S
      refine get_np3 S (S.get _ hk2) (S.keep _ _ hqd) fun s₁₃ S₁₃ => ?_
      clear S
      walk_at "go"
      refine ⟨fun hb => ?_, fun hb => ?_⟩
      · have hb' : xq.np - 1 = 0 := by simpa using hb
        walk_at "go"
        rename St _ _ _ _ _ _ _ => S
        refine get_rdy S (S.keep _ _ (hz₂ _ _ H.inst)) (S.get 0 rfl) ha rfl rfl fun s₁₄ S₁₄ => ?_
        clear S
        have hL := IsL.of (S₁₄.get 1 rfl) hlr
        with_reducible refine r_listMethod hL F.slot_list_append F.type_list_append ?_
        walk_at "go"
        rename St _ _ _ _ _ _ _ => S
        refine r_append S 1 rfl hlr (by rw [hri.1]; simp; omega) fun s₁₅ o₁₅ hl₁₅ S₁₅ => ?_
        clear S
        walk_at "go"
        rename St _ _ _ _ _ _ _ => S
        refine fp_next (mu' := (dx, od) :: (rl, o₁₅) :: infN l2 ++ [(I, o')]) (Sub.refl _) ⟨rfl, l2, o₁₅, _, rd' ++ [qs[j]], _, rfl, rfl, hl₁₅, by rw [List.map_append]; exact hri.append1 ⟨_, rfl⟩, H2, hlen2, ?_, by simp; omega⟩ (S.norm [("n2i", .ref nd), ("self", .ref x)] (by walk_at "has"))
        rw [hfold, hview2]
        unfold stepD
        rw [npOf_view hxq, if_pos hb']
      · have hb' : ¬ xq.np - 1 = 0 := by simpa using hb
        walk_at "go"
        rename St _ _ _ _ _ _ _ => S
        refine fp_next (mu' := (dx, od) :: (rl, orl') :: infN l2 ++ [(I, o')]) (Sub.refl _) ⟨rfl, l2, orl', _, rd', _, rfl, rfl, hlr, hri, H2, hlen2, ?_, by omega⟩ (S.norm [("n2i", .ref nd), ("self", .ref x)] (by walk_at "has"))
        rw [hfold, hview2]
        unfold stepD
        rw [npOf_view hxq, if_neg hb']
    · clear S₈
      rintro z'' m' mu' s₉ hz'' ⟨rfl, l', orl', rvs', rd', r'', rfl, rfl, hlr, hri, H', hlen', hview', hrd⟩ S
      walk_at "go"
      rename St _ _ _ _ _ _ _ => S
      refine get_fin S (S.keep _ _ (hz₂ _ _ H.inst)) (S.get 0 rfl) ha rfl rfl fun s₁₀ S₁₀ => ?_
      clear S
      walk_at "go"
      rename St _ _ _ _ _ _ _ => S
      refine set_fin S 0 rfl (S.keep _ _ (hz₂ _ _ H.inst)) ha (by simp) fun s₁₁ od' ha' S₁₁ => ?_
      clear S
      walk_at "go"
      rename St _ _ _ _ _ _ _ => S
      rw [hsi.1, List.length_map, List.take_length] at hview'
      refine fp_next (mu' := (dx, od') :: (rl, orl') :: infN l') (Sub.refl _) ⟨rfl, _, rfl, .inr ⟨rfl, od', orl', rvs', l', _, rfl, hlr, ?_, ha', H', ?_⟩⟩ (S.norm [("n2i", .ref nd), ("self", .ref x)] (by walk_at "has"))
      · unfold doneV; rw [← hview']; exact hri
      · unfold doneV; rw [← hview']
  · clear S
    rintro z' m' mu' s₄ hz' ⟨rfl, r', rfl, hcase⟩ S
    rcases hcase with ⟨e, _⟩ | ⟨_, od', orl', rvs', l', t₂', rfl, hlr, hri, ha', H', hview'⟩
    · cases e
    · walk_at "go"
      rename St _ _ _ _ _ _ _ => S
      exact h _ od' orl' rvs' l' t₂' S.same (S.led.down D.top hz₂) hlr hri ha' H' hview'
end
end Mine
namespace Mine
open PySem PySem.W PySem.Calls PyProof.Rows Builtin Builtin.ObjectAttr

/-! ## iter(list).__next__ -/
noncomputable abbrev itO (a : Addr) (i : Nat) : Obj := { cls := .type "list_iterator", data := .fields #[.ref a, .int i 0] }
noncomputable abbrev mwO (I : Addr) : Obj := { cls := .type "method-wrapper", data := .fields #[.builtin "list_iterator.__next__", .ref I] }
theorem li_ga : Slot "list_iterator" "__getattribute__" "object.__getattribute__" :=
  .of (owner := "object") (n := "__getattribute__") (by rw [typeLookup_type, builtinLookup_eq_fast]; kernel_rfl) (by decide +kernel) (by decide +kernel) (by decide +kernel)
    (by first | exact .inl (by decide +kernel) | exact .inr (by decide +kernel)) (by rw [isSubtype_type]; kernel_rfl)
theorem li_hook : typeLookup (.type "list_iterator") "__getattr__" = pure none := by rw [typeLookup_type, builtinLookup_eq_fast]; kernel_rfl
theorem ln_type : typeOf (.builtin "list_iterator.__next__") = pure (.type "wrapper_descriptor") := by kernel_rfl
theorem wd_get : Slot "wrapper_descriptor" "__get__" "wrapper_descriptor.__get__" :=
  .of (owner := "wrapper_descriptor") (n := "__get__") (by rw [typeLookup_type, builtinLookup_eq_fast]; kernel_rfl) (by decide +kernel) (by decide +kernel) (by decide +kernel)
    (by first | exact .inl (by decide +kernel) | exact .inr (by decide +kernel)) (by rw [isSubtype_type]; kernel_rfl)
theorem wd_set : typeLookup (.type "wrapper_descriptor") "__set__" = pure none := by rw [typeLookup_type, builtinLookup_eq_fast]; kernel_rfl
theorem wd_del : typeLookup (.type "wrapper_descriptor") "__delete__" = pure none := by rw [typeLookup_type, builtinLookup_eq_fast]; kernel_rfl
theorem wd_entry : entryFor table "wrapper_descriptor.__get__" = some Builtin.«wrapper_descriptor.__get__» := entryFor_of_tree (by kernel_rfl)
theorem wd_args (a b c : Value) : argsOk "wrapper_descriptor.__get__" ⟨[a, b, c], []⟩ := by unfold argsOk; kernel_rfl
theorem li_self : isSubtype (.type "list_iterator") (.type "list_iterator") = pure true := by rw [isSubtype_type]; kernel_rfl

theorem meets_wd (I a : Addr) (i : Nat) : Meets (Builtin.«wrapper_descriptor.__get__» ⟨[.builtin "list_iterator.__next__", .ref I, .type "list_iterator"], []⟩) (fun _ R s => s.heap.get? I = some (itO a i) ∧ R (.ok (.ret (.ref s.heap.objs.size))) { s with heap := s.heap.push (mwO I) }) :=
  Meets.of_wp fun prog w A R s hs => by
    obtain ⟨hp, g, d, tk, os⟩ := s
    obtain ⟨h1, h2⟩ := hs
    have f1 := li_self
    have hT : Shared.TypeIs ⟨hp, g, d, tk, os⟩ (.ref I) "list_iterator" := ⟨_, h1, rfl⟩
    unfold Builtin.«wrapper_descriptor.__get__»
    repeat (any_goals (first | assumption | wp_step))
    have e : ".".intercalate ("list_iterator.__next__".cutAt '.').dropLast = "list_iterator" := by decide +kernel
    rw [e]
    repeat (any_goals (first | assumption | wp_step))
    exact ⟨_, rfl, h2⟩
theorem meets_ga (I a : Addr) (i : Nat) (u : Tok) : Meets (Builtin.«object.__getattribute__» ⟨[.ref I, .str (Str.ofString "__next__") u], []⟩) (fun _ R s => s.heap.get? I = some (itO a i) ∧ R (.ok (.ret (.ref s.heap.objs.size))) { s with heap := s.heap.push (mwO I) }) :=
  Meets.of_wp fun prog w A R s hs => by
    obtain ⟨hp, g, d, tk, os⟩ := s
    obtain ⟨h1, h2⟩ := hs
    have f1 := li_self
    have hT : Shared.TypeIs ⟨hp, g, d, tk, os⟩ (.ref I) "list_iterator" := ⟨_, h1, rfl⟩
    have f2 := slot_listiter_next.lookup
    have f3 := ln_type
    have f4 := wd_get.lookup
    have f5 := wd_set
    have f6 := wd_del
    unfold Builtin.«object.__getattribute__»
    repeat (any_goals (first | assumption | ((with_reducible show wpAny _ _ (call (Value.builtin "wrapper_descriptor.__get__") _ _) _ _ _); refine call_meets wd_get ln_type wd_entry (wd_args _ _ _) (meets_wd I a i) ⟨h1, ?_⟩) | wp_step))
    exact wpAny_pure (show ∃ v, _ from ⟨_, rfl, h2⟩)
section
variable {prog : Program} {w : World} {A : Around} {E : Value → Shared → Prop} {s s₀ : Shared} {z : Heap} {L : Addr} {m : List (Str × Value)} {mu : List (Addr × Obj)} {env : Env}
theorem r_nextAttr {I a : Addr} {i : Nat} {Q : Value → Shared → Prop} (S : St w z L m mu s₀ s) (hI : s.heap.get? I = some (itO a i)) (h : ∀ q s', St w z L m ((q, mwO I) :: mu) s₀ s' → Q (.ref q) s') : wpAny (model prog w) A (getAttr (.ref I) (Str.ofString "__next__") true) Q E s := by
  have hh : Q (.ref s.heap.objs.size) { s with heap := s.heap.push (mwO I), toks := s.toks + 1 } := h _ _ (S.push _)
  clear h S
  obtain ⟨hp, g, d, tk, os⟩ := s
  have hT : ∀ tk, Shared.TypeIs ⟨hp, g, d, tk, os⟩ (.ref I) "list_iterator" := fun _ => ⟨_, hI, rfl⟩
  have f3 := li_ga.lookup
  have f4 := li_ga.bind (.ref I)
  have f5 := li_hook
  unfold getAttr getAttrBy
  repeat (any_goals (first | assumption | ((with_reducible show wpAny _ _ (call (Value.builtin "object.__getattribute__") _ _) _ _ _); refine call_meets li_ga (hT _) F.entry_object_getattribute (F.args_object_getattribute_2 _ _) (meets_ga I a i _) ⟨hI, ?_⟩) | wp_step))
  exact handed_on (v := .ref hp.objs.size) rfl hh
theorem mw_check (I : Addr) : checkBoundCall "list_iterator.__next__" ⟨[.ref I], []⟩ = pure () := by first | kernel_rfl | rfl
theorem mw_open {q I : Addr} {Q : Value → Shared → Prop} (hq : s.heap.get? q = some (mwO I))
    (h : wpAny (model prog w) A.in1 (Builtin.«list_iterator.__next__» ⟨[.ref I], []⟩) (fun fin s' => ∃ v, fin = .done (.ret v) ∧ Q v s') E s) : wpAny (model prog w) A (call (.ref q) []) Q E s := by
  refine wpAny_call (codeAny_of_tree ?_)
  show wpAny _ A.in1 (callAny (.ref q) ⟨[], []⟩) _ _ s
  simp only [callAny]
  refine wpAny_bind (wpAny_load hq ?_)
  simp only [show (Value.type "method-wrapper" == Value.type "method" || Value.type "method-wrapper" == Value.type "builtin_function_or_method" || Value.type "method-wrapper" == Value.type "method-wrapper") = true by decide, if_true]
  refine KFB.if_so (by decide) ?_
  refine wpAny_bind (wpAny_of_eq (a := ()) (mw_check I) ?_)
  refine wpAny_bind (wpAny_pure (wpAny_pure ?_))
  refine ⟨Code.quiet_builtin _ (by decide +kernel), codeAny_builtin entry_listiter_next ?_⟩
  rw [Around.under_plainId (by decide +kernel)]
  refine wpAny_mono h (fun fin s' z => ?_) fun _ _ z => z
  obtain ⟨v, rfl, z⟩ := z
  exact z
noncomputable abbrev itEnd (i : Nat) : Obj := { cls := .type "list_iterator", data := .fields #[.none, .int i 0] }
theorem r_nextItem {q I a : Addr} {k : Nat} {its : List Value} {v : Value} {Q : Value → Shared → Prop} (S : St w z L m mu s₀ s) (i : Nat) (hi : mu[i]? = some (I, itO a k)) (hq : s.heap.get? q = some (mwO I)) (hl : IsL s.heap a its) (hx : its[k]? = some v)
    (h : ∀ s', St w z L m (mu.set i (I, itO a (k + 1))) s₀ s' → Q v s') : wpAny (model prog w) A (call (.ref q) []) Q E s := by
  refine mw_open hq ?_
  have ho := S.get i hi
  obtain ⟨ol, hol, _, nl, hdl⟩ := hl.isList
  show wpAny _ _ (field (.ref I) 0 >>= _) _ _ s
  refine wpAny_bind (wpAny_field ho rfl (x := .ref a) rfl ?_)
  show wpAny _ _ (if (Value.ref a == Value.none) = true then _ else _) _ _ s
  rw [if_neg (show ¬ ((Value.ref a == Value.none) = true) from Bool.false_ne_true)]
  show wpAny _ _ (field (.ref I) 1 >>= _) _ _ s
  refine wpAny_bind (wpAny_field ho rfl (x := .int k 0) rfl ?_)
  show wpAny _ _ (seqItems? (.ref a) >>= _) _ _ s
  refine wpAny_bind (wpAny_seqItems hol hdl ?_)
  have hx' : its.toArray[k]? = some v := by simpa using hx
  simp only [Int.toNat_natCast, hx']
  refine wpAny_bind (wpAny_setField ho rfl (by simp) (wpAny_pure ⟨v, rfl, h _ ?_⟩))
  have := S.mod (f := Obj.mapFields (·.setIfInBounds 1 (rawInt ((k : Int) + 1)))) i hi rfl (k := s.toks)
  exact this
noncomputable abbrev stopO (t : Addr) : Obj := { cls := .type "StopIteration", data := .fields #[.ref t, .none, .none, .none, .bool false, .none] }
theorem r_nextEnd {q I a : Addr} {k : Nat} {its : List Value} {Q : Value → Shared → Prop} (S : St w z L m mu s₀ s) (hh : A.handled = none) (i : Nat) (hi : mu[i]? = some (I, itO a k)) (hq : s.heap.get? q = some (mwO I)) (hl : IsL s.heap a its) (hx : its[k]? = none)
    (h : ∀ e t o' s', St w z L m ((e, stopO t) :: mu.set i (I, o')) s₀ s' → E (.ref e) s') : wpAny (model prog w) A (call (.ref q) []) Q E s := by
  refine mw_open hq ?_
  have ho := S.get i hi
  obtain ⟨ol, hol, _, nl, hdl⟩ := hl.isList
  show wpAny _ _ (field (.ref I) 0 >>= _) _ _ s
  refine wpAny_bind (wpAny_field ho rfl (x := .ref a) rfl ?_)
  show wpAny _ _ (if (Value.ref a == Value.none) = true then _ else _) _ _ s
  rw [if_neg (show ¬ ((Value.ref a == Value.none) = true) from Bool.false_ne_true)]
  show wpAny _ _ (field (.ref I) 1 >>= _) _ _ s
  refine wpAny_bind (wpAny_field ho rfl (x := .int k 0) rfl ?_)
  show wpAny _ _ (seqItems? (.ref a) >>= _) _ _ s
  refine wpAny_bind (wpAny_seqItems hol hdl ?_)
  have hx' : its.toArray[k]? = none := by simpa using hx
  simp only [Int.toNat_natCast, hx']
  refine wpAny_bind (wpAny_rule (wpAny_bind (wpAny_setField ho rfl (by simp) ?_)))
  show wpAny _ _ (newExc (.type "StopIteration") [] >>= _) _ _ _
  refine wpAny_bind ?_
  simp only [newExc, newTuple]
  refine wpAny_bind (wpAny_newObj_type ?_ (by size_fits))
  refine wpAny_bind (m := firstArgMember _ _) (wpAny_of_eq (a := Value.none) (by first | rfl | (simp only [firstArgMember]; rfl)) ?_)
  refine wpAny_newObj_type ?_ (by size_fits)
  simp only [raiseNew]
  refine wpAny_bind (wpAny_handled ?_)
  rw [show A.in1.handled = none from hh]
  refine wpAny_bind (wpAny_pure (wpAny_throw ?_))
  have S₁ := S.mod (f := Obj.mapFields (·.setIfInBounds 0 .none)) i hi rfl (k := s.toks)
  have S₂ := S₁.push0 { cls := .type "tuple", data := .seq #[] } (k := s.toks)
  have S₃ := S₂.push (stopO (s.heap.update I (Obj.mapFields (·.setIfInBounds 0 .none))).objs.size) (k := s.toks)
  exact h _ _ _ _ S₃
end
end Mine
namespace Mine
open PySem PySem.W PySem.Calls PyProof.Rows

/-! ## frames of the callers; except StopIteration -/
/-- the frames of the callers, as the logic knows them -/
noncomputable def Fs (A : Around) (fl : List Addr) : Prop := ∃ envs : List Env, A.frames = some envs ∧ All2 (fun (env : Env) (L : Addr) => env.scope.kind ≠ .module ∧ env.frame = some L) envs fl
noncomputable def FrO (fl : List (Addr × Obj)) : Prop := ∀ p ∈ fl, ∃ es n, p.2.data = .dict es n
noncomputable def UpS (fl fl' : List (Addr × Obj)) : Prop := All2 (fun (p p' : Addr × Obj) => p'.1 = p.1 ∧ ∃ sl, p'.2 = { p.2 with slots := sl }) fl fl'
theorem UpS.refl (fl : List (Addr × Obj)) : UpS fl fl := ⟨rfl, fun i a b ha hb => by rw [ha] at hb; cases hb; exact ⟨rfl, a.2.slots, rfl⟩⟩
theorem All2.comp {α β γ : Type} {F : α → β → Prop} {G : β → γ → Prop} {H : α → γ → Prop} {l : List α} {k : List β} {j : List γ} (x : All2 F l k) (y : All2 G k j) (h : ∀ a b c, F a b → G b c → H a c) : All2 H l j := by
  refine ⟨x.1.trans y.1, fun i a c ha hc => ?_⟩
  obtain ⟨b, hb, hG⟩ := y.get hc
  exact h a b c (x.2 i a b ha hb) hG
theorem UpS.trans {a b c : List (Addr × Obj)} (x : UpS a b) (y : UpS b c) : UpS a c := All2.comp x y fun p q r h1 h2 => ⟨h2.1.trans h1.1, by
  obtain ⟨s1, e1⟩ := h1.2
  obtain ⟨s2, e2⟩ := h2.2
  exact ⟨s2, by rw [e2, e1]⟩⟩
theorem UpS.fst {a b : List (Addr × Obj)} (x : UpS a b) : b.map (·.1) = a.map (·.1) := by
  refine List.ext_getElem? fun i => ?_
  rw [List.getElem?_map, List.getElem?_map]
  cases h : b[i]? with
  | none =>
    have : a[i]? = none := by rw [List.getElem?_eq_none_iff] at h ⊢; rw [x.1]; exact h
    rw [this]
  | some p => obtain ⟨q, hq, e, _⟩ := x.get h; rw [hq, Option.map_some, Option.map_some, e]
theorem UpS.frO {a b : List (Addr × Obj)} (x : UpS a b) (h : FrO a) : FrO b := fun p hp => by
  obtain ⟨i, hi, e⟩ := List.mem_iff_getElem.mp hp
  obtain ⟨q, hq, _, sl, e'⟩ := x.get (i := i) (b := p) (by rw [List.getElem?_eq_getElem hi, e])
  rw [e']; exact h q (List.mem_of_getElem? hq)
theorem UpS.cons {p p' : Addr × Obj} {a b : List (Addr × Obj)} (h1 : p'.1 = p.1) (h2 : ∃ sl, p'.2 = { p.2 with slots := sl }) (x : UpS a b) : UpS (p :: a) (p' :: b) := All2.cons ⟨h1, h2⟩ x

section
variable {prog : Program} {w : World} {A : Around} {E : Value → Shared → Prop} {s s₀ : Shared} {z : Heap} {L : Addr} {m : List (Str × Value)} {mu fl : List (Addr × Obj)} {env : Env}
/-- the slots of frames have turned -/
theorem St.slots {h' : Heap} (S : St w z L m (fl ++ mu) s₀ s) (hs : Heap.SlotsOnly (L :: fl.map (·.1)) s.heap h') : ∃ fl', UpS fl fl' ∧ St w z L m (fl' ++ mu) s₀ { s with heap := h' } := by
  have hnd := S.nd
  rw [List.map_append, List.nodup_append] at hnd
  have hob : ∀ p ∈ fl, ∃ sl, h'.get? p.1 = some { p.2 with slots := sl } := fun p hp => hs.2.2 p.1 p.2 (S.mus p (List.mem_append_left _ hp)).1
  let g : Addr × Obj → Addr × Obj := fun p => (p.1, (h'.get? p.1).getD p.2)
  have hg : ∀ p ∈ fl, h'.get? p.1 = some (g p).2 := fun p hp => by obtain ⟨sl, e⟩ := hob p hp; show _ = some ((h'.get? p.1).getD p.2); rw [e]; rfl
  refine ⟨fl.map g, ⟨by simp, fun i a b ha hb => ?_⟩, ?_⟩
  · rw [List.getElem?_map, ha] at hb
    simp at hb; subst hb
    refine ⟨rfl, ?_⟩
    have hm := List.mem_of_getElem? ha
    obtain ⟨sl, e⟩ := hob a hm
    exact ⟨sl, by have := hg a hm; rw [e] at this; exact (Option.some.inj this).symm⟩
  · have hz : ∀ b o, z.get? b = some o → b ∉ L :: fl.map (·.1) := fun b o e q => by
      rcases List.mem_cons.mp q with rfl | q
      · rw [S.off] at e; cases e
      · obtain ⟨p, hp, rfl⟩ := List.mem_map.mp q
        rw [(S.mus p (List.mem_append_left _ hp)).2.2] at e; cases e
    have hmu : ∀ p ∈ mu, p.1 ∉ L :: fl.map (·.1) := fun p hp q => by
      rcases List.mem_cons.mp q with e | q
      · exact (S.mus p (List.mem_append_right _ hp)).2.1 e
      · exact hnd.2.2 _ q _ (List.mem_map_of_mem hp) rfl
    obtain ⟨oL, es, ep, hoL, hdat, hkk, hf⟩ := S.ns
    obtain ⟨sl, hoL'⟩ := hs.2.2 L oL hoL
    refine ⟨⟨_, es, ep, hoL', hdat, hkk, hf⟩, fun b o e => (hs.2.1 b (hz b o e)).trans (S.keep b o e), S.off, fun p hp => ?_, ?_, S.bot, ⟨S.same.1, S.same.2, S.same.3⟩⟩
    · rcases List.mem_append.mp hp with hp | hp
      · obtain ⟨q, hq, rfl⟩ := List.mem_map.mp hp
        exact ⟨hg q hq, (S.mus q (List.mem_append_left _ hq)).2⟩
      · exact ⟨(hs.2.1 p.1 (hmu p hp)).trans (S.mus p (List.mem_append_right _ hp)).1, (S.mus p (List.mem_append_right _ hp)).2⟩
    · have : (fl.map g ++ mu).map (·.1) = (fl ++ mu).map (·.1) := by simp [List.map_append, g]
      rw [this]; exact S.nd
/-- all frames of the stack are plain -/
theorem funFrames {outer : List Env} (S : St w z L m (fl ++ mu) s₀ s) (hk : env.scope.kind ≠ .module) (hf : env.frame = some L) (hfl : All2 (fun (env : Env) (L : Addr) => env.scope.kind ≠ .module ∧ env.frame = some L) outer (fl.map (·.1))) (hd : FrO fl) :
    s.heap.FunFrames ⟨#[], s.heap.life⟩ (env :: outer) ∧ (env :: outer).filterMap (·.frame) = L :: fl.map (·.1) := by
  have hnone : ∀ b, (⟨#[], s.heap.life⟩ : Heap).get? b = none := fun b => Heap.get?_none_of_le (by simp)
  have aux : ∀ (outer : List Env) (fl' : List (Addr × Obj)), (∀ p ∈ fl', p ∈ fl) → All2 (fun (env : Env) (L : Addr) => env.scope.kind ≠ .module ∧ env.frame = some L) outer (fl'.map (·.1)) → s.heap.FunFrames ⟨#[], s.heap.life⟩ outer ∧ outer.filterMap (·.frame) = fl'.map (·.1) := by
    intro outer
    induction outer with
    | nil =>
      intro fl' _ h
      cases fl' with
      | nil => exact ⟨trivial, rfl⟩
      | cons => cases h.1
    | cons e r ih =>
      intro fl' hsub h
      cases fl' with
      | nil => cases h.1
      | cons p q =>
        obtain ⟨⟨h1, h2⟩, hr⟩ := h.cons_inv
        obtain ⟨i1, i2⟩ := ih q (fun x hx => hsub x (.tail _ hx)) hr
        obtain ⟨es, n, hdat⟩ := hd p (hsub p (.head _))
        refine ⟨⟨h1, ⟨p.1, p.2, h2, hnone _, (S.mus p (List.mem_append_left _ (hsub p (.head _)))).1, fun vs q => by rw [hdat] at q; cases q⟩, i1⟩, ?_⟩
        rw [List.filterMap_cons, h2, i2]; rfl
  obtain ⟨a1, a2⟩ := aux outer fl (fun _ h => h) hfl
  obtain ⟨oL, es, ep, hoL, hdat, _⟩ := S.ns
  refine ⟨⟨hk, ⟨L, oL, hf, hnone _, hoL, fun vs q => by rw [hdat] at q; cases q⟩, a1⟩, ?_⟩
  rw [List.filterMap_cons, hf, a2]

noncomputable abbrev tbO (L : Addr) (pl : List Value) : Obj := { cls := .type "traceback", dict := none, data := .fields ([Value.none, .ref L, .none, rawInt L, .none] ++ (if pl.isEmpty then List.replicate 6 Value.none else pl)).toArray }
theorem r_caught {e t : Addr} {outer : List Env} {b₀ : Stmt} {suite : List Stmt} {te : Expr} {pos : Pos} {rest : List ExceptHandler} {Q : Flow → Shared → Prop} (S : St w z L m ((e, stopO t) :: (fl ++ mu)) s₀ s)
    (hfr : A.frames = some (env :: outer)) (hk : env.scope.kind ≠ .module) (hf : env.frame = some L) (hfl : All2 (fun (env : Env) (L : Addr) => env.scope.kind ≠ .module ∧ env.frame = some L) outer (fl.map (·.1))) (hd : FrO fl)
    (hname : ∀ (mu' : List (Addr × Obj)) (s' : Shared) (Q' : Value → Shared → Prop), St w z L m mu' s₀ s' → Q' (.type "StopIteration") s' → wpAny (model prog w) (A.mark (some (.ref e))) (eval te env) Q' (fun _ _ => False) s')
    (k : ∀ fl' s', UpS fl fl' → St w z L m (fl' ++ mu) s₀ s' → wpAny (model prog w) (A.mark (some (.ref e))) (execs (b₀ :: suite) env) Q (fun _ _ => False) s') :
    wpAny (model prog w) A (noteFrame (.ref e) env) (fun _ s₂ => wpAny (model prog w) A (setFlight (.ref e) none) (fun _ s₃ =>
      wpAny (model prog w) A (handleBy (.ref e) env (.ExceptHandler (some te) none (b₀ :: suite) pos :: rest)) Q E s₃) E s₂) E s := by
  have S₁ : St w z L m (fl ++ ((e, stopO t) :: mu)) s₀ s := S.perm (by
    have := (List.perm_append_comm (l₁ := [(e, stopO t)]) (l₂ := fl)).append_right mu
    simpa using this)
  clear S
  obtain ⟨hl, hS⟩ := funFrames S₁ hk hf hfl hd
  have he : s.heap.get? e = some (stopO t) := (S₁.mus (e, stopO t) (by simp)).1
  unfold noteFrame
  simp only [hf]
  refine wpAny_bind (wpAny_field he rfl (i := 1) (x := .none) rfl ?_)
  rw [if_neg (by decide)]
  refine wpAny_bind (wpAny_frameOf_fun hfr hl hf fun h₁ hs₁ => ?_)
  rw [hS] at hs₁
  obtain ⟨fl', hup, S₂⟩ := S₁.slots hs₁
  clear S₁
  refine wpAny_bind (wpAny_entryPlaceOf fun pl hpl => ?_)
  unfold EntryCells.newEntry newFields
  refine wpAny_bind (wpAny_newObj_type ?_ (hpl.sizeOk5 _ _ _ _ _))
  have S₃ := S₂.push (tbO L pl) (k := s.toks)
  clear S₂
  generalize hT : h₁.objs.size = T at S₃
  have hix : ((T, tbO L pl) :: (fl' ++ ((e, stopO t) :: mu)))[fl'.length + 1]? = some (e, stopO t) := by simp
  have he₃ := S₃.get _ hix
  refine wpAny_setField he₃ rfl (by simp) ?_
  have S₄ := S₃.mod (f := Obj.mapFields (·.setIfInBounds 1 (.ref T))) _ hix rfl (k := s.toks)
  have hset : ∀ o', ((T, tbO L pl) :: (fl' ++ ((e, stopO t) :: mu))).set (fl'.length + 1) (e, o') = (T, tbO L pl) :: (fl' ++ ((e, o') :: mu)) := fun o' => by simp
  rw [hset] at S₄
  clear S₃ he₃
  have he₄ := S₄.get (fl'.length + 1) (a := e) (o := Obj.mapFields (·.setIfInBounds 1 (.ref T)) (stopO t)) (by simp)
  have hT₄ := S₄.get 0 rfl
  have hdat : (Obj.mapFields (·.setIfInBounds 1 (.ref T)) (stopO t)).data = .fields #[.ref t, .ref T, .none, .none, .bool false, .none] := rfl
  have hsz : 3 < (([Value.none, .ref L, .none, rawInt L, .none] ++ (if pl.isEmpty then List.replicate 6 Value.none else pl)).toArray).size := by simp only [List.size_toArray, List.length_append, List.length_cons, List.length_nil]; omega
  subst hT
  refine wpAny_setFlight_none he₄ hdat rfl hT₄ rfl hsz ?_
  have S₅ := S₄.mod (f := Obj.mapFields (·.setIfInBounds 3 .none)) 0 rfl rfl (k := s.toks)
  clear S₄
  have he₅ := S₅.get (fl'.length + 1) (a := e) (o := Obj.mapFields (·.setIfInBounds 1 (.ref h₁.objs.size)) (stopO t)) (by simp)
  have hT₅ := S₅.get 0 rfl
  refine wpAny_handleBy_builtin (X := "StopIteration") (T := "StopIteration") (b := true) (by rw [isSubtype_type]; kernel_rfl) (by rw [isSubtype_type]; kernel_rfl) isSubtype_stop (wpAny_mono (hname _ _ _ S₅ ⟨rfl, ⟨_, he₅, rfl⟩, ?_⟩) (fun _ _ x => x) fun _ _ x => x.elim)
  rw [if_pos rfl]
  refine wpAny_setFlight_none he₅ hdat rfl hT₅ (Obj.data_mapFields rfl _) (by simpa using hsz) ?_
  have S₆ := S₅.mod (f := Obj.mapFields (·.setIfInBounds 3 .none)) 0 rfl rfl (k := s.toks)
  clear S₅
  refine wpAny_mono (k fl' _ hup (S₆.drop (List.Sublist.cons _ ?_))) (fun _ _ x => x) fun _ _ x => x.elim
  exact List.Sublist.append_left (List.Sublist.cons _ (List.Sublist.refl _)) fl'

/-! the own frame lent -/
noncomputable def NsO (o : Obj) (m : List (Str × Value)) : Prop := ∃ es ep, o.data = .dict es ep ∧ StrKeys es ∧ ∀ name, nsFind es name = m.lookup name
theorem NsO.slots {o o' : Obj} {m : List (Str × Value)} (x : NsO o m) (h : ∃ sl, o' = { o with slots := sl }) : NsO o' m := by obtain ⟨sl, rfl⟩ := h; exact x
theorem NsO.dict {o : Obj} {m : List (Str × Value)} (x : NsO o m) : ∃ es n, o.data = .dict es n := let ⟨es, ep, h, _⟩ := x; ⟨es, ep, h⟩
theorem St.out (S : St w z L m mu s₀ s) : ∃ oL, NsO oL m ∧ Led w z ((L, oL) :: mu) s := by
  obtain ⟨oL, es, ep, ho, hd, hk, hf⟩ := S.ns
  refine ⟨oL, ⟨es, ep, hd, hk, hf⟩, S.topz, S.keep, fun p hp => ?_, ?_⟩
  · rcases List.mem_cons.mp hp with rfl | hp
    · exact ⟨ho, S.off⟩
    · exact ⟨(S.mus p hp).1, (S.mus p hp).2.2⟩
  · rw [List.map_cons, List.nodup_cons]
    refine ⟨fun q => ?_, S.nd⟩
    obtain ⟨p, hp, e⟩ := List.mem_map.mp q
    exact (S.mus p hp).2.1 e
theorem Led.into {mu' : List (Addr × Obj)} {oL : Obj} {s' : Shared} (S : St w z L m mu s₀ s) (D : Led w z ((L, oL) :: mu') s') (hL : NsO oL m) (sm : Same s s') : St w z L m mu' s₀ s' := by
  obtain ⟨es, ep, hd, hk, hf⟩ := hL
  have hm := D.mus (L, oL) (.head _)
  have hnd := D.nd
  rw [List.map_cons, List.nodup_cons] at hnd
  exact ⟨⟨oL, es, ep, hm.1, hd, hk, hf⟩, D.keep, hm.2, fun p hp => ⟨(D.mus p (.tail _ hp)).1, fun e => hnd.1 (show L ∈ mu'.map (·.1) from (by rw [← e]; exact List.mem_map_of_mem hp)), (D.mus p (.tail _ hp)).2⟩, hnd.2, S.bot, S.same.trans sm⟩
theorem Led.sub {muP muR : List (Addr × Obj)} (D : Led w z (muP ++ muR) s) : Sub z (hideAll s.heap (muP.map (·.1))) := fun b ob e => hideAll_get _ (D.keep b ob e) (fun q => by
  obtain ⟨p, hp, rfl⟩ := List.mem_map.mp q
  rw [(D.mus p (List.mem_append_left _ hp)).2] at e; cases e)
theorem Led.part {muP muR : List (Addr × Obj)} (D : Led w z (muP ++ muR) s) : Led w (hideAll s.heap (muP.map (·.1))) muP s :=
  ⟨D.top.up D.sub, fun b ob e => of_hideAll _ e, fun p hp => ⟨(D.mus p (List.mem_append_left _ hp)).1, hideAll_none _ (List.mem_map_of_mem hp)⟩, by
    have := D.nd; rw [List.map_append] at this; exact (List.nodup_append.mp this).1⟩
theorem Led.join {muP muR mu' : List (Addr × Obj)} {s' : Shared} (D : Led w z (muP ++ muR) s) (D' : Led w (hideAll s.heap (muP.map (·.1))) mu' s') : Led w z (mu' ++ muR) s' := by
  have hnd := D.nd
  rw [List.map_append, List.nodup_append] at hnd
  have hR : ∀ q ∈ muR, (hideAll s.heap (muP.map (·.1))).get? q.1 = some q.2 := fun q hq => hideAll_get _ (D.mus q (List.mem_append_right _ hq)).1 (fun e => hnd.2.2 _ e _ (List.mem_map_of_mem hq) rfl)
  refine ⟨D.top, D.sub.trans D'.keep, fun p hp => ?_, ?_⟩
  · rcases List.mem_append.mp hp with hp | hp
    · refine ⟨(D'.mus p hp).1, ?_⟩
      cases q : z.get? p.1 with
      | none => rfl
      | some ob => have := (D'.mus p hp).2; rw [D.sub _ _ q] at this; cases this
    · exact ⟨D'.keep _ _ (hR p hp), (D.mus p (List.mem_append_right _ hp)).2⟩
  · rw [List.map_append, List.nodup_append]
    refine ⟨D'.nd, hnd.2.1, fun x hx y hy e => ?_⟩
    obtain ⟨p, hp, rfl⟩ := List.mem_map.mp hx
    obtain ⟨q, hq, rfl⟩ := List.mem_map.mp hy
    have := (D'.mus p hp).2
    rw [e, hR q hq] at this; cases this
end
section
variable {prog : Program} {w : World} {A : Around} {s : Shared}
/-- a def's call, with the frames told -/
theorem enter_fr {R : Result → Shared → Prop} {name qual : Str} {params : Arguments} {body : List Stmt} {scope : Scope} {dV kV doc pm cdv ct oc : Value} {an od : Option Addr} {osl : Array (Option Value)} {f : Addr} {args : Args} {binds : List (Str × Value)} {z : Heap} {mu : List (Addr × Obj)} {fl : List Addr} {n : Nat}
    (D : Led w z mu s) (hF : Fs A fl) (hA : Lo n A) (hn : n ≤ 100)
    (ho : (hd.heap_1 w.params).lookup f = some ⟨oc, od, .func (fnOf name qual params body scope dV kV doc pm an cdv ct), osl⟩) (hcd : codeIn (hd.heap_1 w.params) cdv qual = true)
    (hbind : BindsTo s (fnOf name qual params body scope dV kV doc pm an cdv ct) args binds)
    (h : ∀ L A' s₁ outer, A'.frames = some (envOf qual scope L f cdv :: outer) → All2 (fun (env : Env) (L : Addr) => env.scope.kind ≠ .module ∧ env.frame = some L) outer fl → St w z L binds.reverse mu s s₁ → Lo (n + 1) A' →
      wpAny (model prog w) A' (execs body (envOf qual scope L f cdv))
        (fun fl s' => R (.ok (.ret (match fl with | .ret v => v | _ => .none))) s') (fun _ _ => False) s₁)
    (hloc : (binds.all fun x => decide (scope.names.lookup x.1 = some .local)) = true)
    (hcell : ∀ x ∈ scope.names, x.2 ≠ .cell)
    (hco : scope.isCoroutine = false) (hgen : scope.isGenerator = false) (hk : scope.kind = .function) : codeAny (model prog w) A (.call (.ref f) args) R s := by
  have T' := D.top.up D.keep
  obtain ⟨envs, hfr, hfl⟩ := hF
  refine codeAny_call_def (fd := fnOf name qual params body scope dV kV doc pm an cdv ct) (body := body) (binds := binds) (hA.room hn) (T'.K _ _ ho) rfl T'.lim (codeRec_of T'.K hcd) rfl hbind hcell (locs hloc) (fun h₁ hns hk₁ => ?_) hco hgen hk
  have S : St w z s.heap.objs.size binds.reverse mu s { s with heap := h₁, toks := s.toks + binds.length } := ⟨hns, D.keep.trans hk₁, D.keep.new, fun p hp => ⟨hk₁ _ _ (D.mus p hp).1, Nat.ne_of_lt (Heap.lt_size (D.mus p hp).1), (D.mus p hp).2⟩, D.nd, trim_bot D.top D.keep, ⟨rfl, rfl, rfl⟩⟩
  exact wpAny_mono (h _ _ _ envs (Around.frames_deeper hfr) hfl S (hA.deeper _)) (fun _ _ x => x) (fun _ _ x => x.elim)
end
end Mine
namespace Mine
open PySem PySem.W PySem.Calls PyProof.Rows

/-! ## sets of ints, iter(list), del d[k], calls of any expression -/
section
variable {prog : Program} {w : World} {A : Around} {E : Value → Shared → Prop} {s s₀ : Shared} {z : Heap} {L a d : Addr} {m : List (Str × Value)} {mu : List (Addr × Obj)} {env : Env} {o : Obj} {k : Int} {t : Tok}
theorem r_set0 {Q : Value → Shared → Prop} (S : St w z L m mu s₀ s) (h : ∀ b s' o, o.SetObjOf (intKind prog w) (fun _ => false) 0 → St w z L m ((b, o) :: mu) s₀ s' → Q (.ref b) s') : wpAny (model prog w) A (call (.type "set") []) Q E s :=
  call_set_0 fun led => h _ _ _ (setObjOf_fresh led) (S.push _)
theorem r_setIn {f : Int → Bool} {n : Nat} {Q : Value → Shared → Prop} (S : St w z L m mu s₀ s) (ho : s.heap.get? a = some o) (hs : o.SetObjOf (intKind prog w) f n) (hn : n < 4000) (h : ∀ s', St w z L m mu s₀ s' → Q (.bool (f k)) s') :
    wpAny (model prog w) A (compareOp .In (.int k t) (.ref a)) Q E s :=
  wpAny_inSet_of (intKind_is prog w k t) rfl (hs.setOf ho (by unfold scanBound; omega)) (h _ (S.tok _))
theorem r_setMethod {f : Int → Bool} {n : Nat} {pl : Sem Bool} {Q : Value × List Value → Shared → Prop} (ho : s.heap.get? a = some o) (hs : o.SetObjOf (intKind prog w) f n) (hn : n < 4000) (h : Q (.builtin "set.add", [.ref a]) s) :
    wpAny (model prog w) A (getMethod (.ref a) (Str.ofString "add") pl) Q E s := getMethod_set_add (hs.setOf ho (by unfold scanBound; omega)) h
theorem r_setAdd {f : Int → Bool} {n : Nat} {Q : Value → Shared → Prop} (S : St w z L m mu s₀ s) (i : Nat) (hi : mu[i]? = some (a, o)) (hs : o.SetObjOf (intKind prog w) f n) (hn : n < 4000)
    (h : ∀ s' o', o'.SetObjOf (intKind prog w) (fun k' => f k' || decide (k' = k)) (if f k then n else n + 1) → St w z L m (mu.set i (a, o')) s₀ s' → Q .none s') : wpAny (model prog w) A (call (.builtin "set.add") [.ref a, .int k t]) Q E s := by
  refine call_set_add (intKind_is prog w k t) rfl (hs.setOf (S.get i hi) (by unfold scanBound; omega)) (by unfold scanBound; omega) fun h' hsb hS' => ?_
  obtain ⟨o', ho', hs'⟩ := hS'.objOf
  exact h _ o' hs' (S.upd i hi hsb.extBut ho' ⟨rfl, rfl, rfl⟩)
theorem r_iterL {its : List Value} {Q : Value → Shared → Prop} (S : St w z L m mu s₀ s) (hl : IsL s.heap a its) (h : ∀ I s', St w z L m ((I, itO a 0) :: mu) s₀ s' → Q (.ref I) s') : wpAny (model prog w) A (call (.builtin "iter") [.ref a]) Q E s := by
  refine call_function_entry (by decide +kernel) (by decide +kernel) kdk_entry_iter (kdk_args_iter _) ?_
  unfold Builtin.«iter»
  refine wpAny_bind (m := someArgs "iter" 1 2 _) (wpAny_of_eq (a := [Value.ref a]) (by first | rfl | kernel_rfl!) ?_)
  show wpAny _ _ (pyIter (.ref a) >>= _) _ _ _
  refine wpAny_bind (wpAny_pyIter_list hl.isList ?_)
  exact wpAny_pure ⟨_, rfl, h _ _ (S.push _)⟩
theorem r_dDel {kvs : List (Int × Value)} {Q : Unit → Shared → Prop} (S : St w z L m mu s₀ s) (i : Nat) (hi : mu[i]? = some (d, o)) (hd : o.IsDictOf (intKind prog w) kvs) (hn : kvs.length < 1000000) (hv : (valueAt kvs k).isSome = true)
    (h : ∀ s' o', o'.IsDictOf (intKind prog w) (without kvs k) → St w z L m (mu.set i (d, o')) s₀ s' → Q () s') : wpAny (model prog w) A (delItem (.ref d) (.int k t)) Q E s := by
  have hD : s.heap.DictOf (intKind prog w) d kvs := dOf (S.get i hi) hd
  unfold delItem
  try with_reducible refine wpAny_holding ?_
  refine wpAny_bind (wpAny_sequenceKey hD.typeIs (by decide) ?_)
  refine wpAny_bind (wpAny_callSpecial?_slot (name := Str.ofString "__delitem__") hD.typeIs PySem.F.slot_dict_delitem
    (call_meetsIn PySem.F.slot_dict_delitem hD.typeIs PySem.F.entry_dict_delitem (PySem.F.args_dict_delitem_2 _ _) (meets_dict_delitem_pairs (intKind prog w) d (intKind_is prog w k t)) ⟨kvs, hD, (by rw [sizeLine_eq]; omega), hv, fun h' hmm hs => ?_⟩))
  obtain ⟨o', ho', hd'⟩ := Heap.dictOf_iff.mp hmm
  exact wpAny_pure (h _ o' hd' (S.upd i hi hs.extBut ho' ⟨rfl, rfl, rfl⟩))
/-- a call without arguments of a method-wrapper -/
theorem r_cwW {q I : Addr} {pos : Pos} {Q : Value → Shared → Prop} (hq : s.heap.get? q = some (mwO I)) (h : wpAny (model prog w) A (call (.ref q) []) Q E s) : wpAny (model prog w) A (callWith pos (.ref q) [] (backTo pos (starEach [] env)) []) Q E s := by
  unfold callWith
  refine wpAny_bind (wpAny_holding (evalArgs_nil3 ?_))
  refine wpAny_bind (wpAny_standAt ?_)
  refine wpAny_bind (m := keeperOf (.ref q)) ?_
  unfold keeperOf
  refine wpAny_bind (wpAny_load hq ?_)
  simp only [show (Value.type "method-wrapper" != Value.type "method") = true by decide, show (Value.type "method-wrapper" == Value.type "builtin_function_or_method" || Value.type "method-wrapper" == Value.type "method-wrapper") = true by decide, if_true]
  refine wpAny_pure ?_
  exact wpAny_bind (wpAny_mono h (fun r s₂ hr => wpAny_bind (wpAny_holding (wpAny_point (wpAny_pure hr)))) fun _ _ x => x)
theorem r_forKeys {px : Pos} {x : Str} {body : List Stmt} {kvs : List (Int × Value)} {Q : Flow → Shared → Prop} (S : St w z L m mu s₀ s) (hh : A.handled = none) (ho : z.get? d = some o) (hd : o.IsDictOf (intKind prog w) kvs) (hms : (d == sysModules) = false)
    (K : Nat → Heap → List (Str × Value) → List (Addr × Obj) → Prop) (hK : K 0 z m mu)
    (turn : ∀ i k v t z' m' mu' I o' s', kvs[i]? = some (k, v) → Sub z z' → K i z' m' mu' → St w z' L m' (mu' ++ [(I, o')]) s₀ s' →
      wpAny (model prog w) A (assign (.Name x px) env (.int k t)) (fun _ s₂ => wpAny (model prog w) A (execs body env) (Fp w z' L [(I, o')] s₀ (K (i + 1)) Q) (fun _ _ => False) s₂) (fun _ _ => False) s')
    (done : ∀ z' m' mu' s', Sub z z' → K kvs.length z' m' mu' → St w z' L m' mu' s₀ s' → Q .next s') :
    wpAny (model prog w) A (pyIter (.ref d)) (fun it s₂ => codeAny (model prog w) A (.forLoop (.Name x px) it body [] env) (fun r s' => match r with | .ok f => Q f s' | .error e => cameBackBy (model prog w) A env E e s') s₂) E s := by
  have hdz : z.DictOf (intKind prog w) d kvs := dOf ho hd
  obtain ⟨ep, hat⟩ := hdz.dictAt
  have hne : d ≠ s.heap.objs.size := Nat.ne_of_lt (Heap.lt_size (S.keep _ _ ho))
  refine wpAny_pyIter_dict hms (hat.keep S.keep) ?_
  have S' := S.pushEnd { cls := .type "dict_keyiterator", data := .fields #[.ref d, .int 0 0, .int kvs.length 0, .int ep 0] } (k := s.toks)
  have W : It prog w A s.heap.objs.size [s.heap.objs.size, d] kvs.length _ _ := ⟨Walks.dictKeys (knd := intKind prog w) hh s.heap.objs.size d hne kvs ep, fun _ _ st => let ⟨o, ho, _⟩ := st.1; ⟨o, ho⟩⟩
  refine r_forLoop W ?_ S' ⟨⟨_, Heap.get?_push_size _ rfl, rfl, rfl⟩, (hat.keep S.keep).push _⟩ (fun _ _ _ _ _ _ _ _ q => wpAny_pure q) K hK (fun i v z' m' mu' o' s' hi hP hz hK' S₁ => ?_) done
  · intro b hb
    rcases List.mem_cons.mp hb with rfl | hb
    · exact .inl rfl
    · rw [List.mem_singleton.mp hb]; exact .inr ⟨o, ho⟩
  · obtain ⟨k, x, hx, hk⟩ := hP
    obtain ⟨t, rfl⟩ := Value.isInt_shape hk
    exact turn i k x t z' m' mu' _ o' s' hx hz hK' S₁
theorem r_compValues {elt iter : Expr} {x : Str} {px : Pos} {ifs : List Expr} {scope : Scope} {cl : List (Str × Addr)} {pos : Pos} {use : Option (Value → Sem Unit)} {Q : Value → Shared → Prop} {kvs : List (Int × Value)}
    (S : St w z L m mu s₀ s) (hh : A.handled = none) (ho : z.get? d = some o) (hd : o.IsDictOf (intKind prog w) kvs) (hms : (d == sysModules) = false) (hn : kvs.length < 1000000) (K : Nat → Heap → List Value → Prop) (hK : K 0 z [])
    (turn : ∀ i k v z' rs C m' mu' s', kvs[i]? = some (k, v) → Sub z z' → K i z' rs → St w z' C m' mu' s₀ s' → (∀ p ∈ mu, p ∈ mu') → Turn prog w A env elt (.Name x px) ifs scope cl s₀ z' C mu' (K (i + 1)) rs v s')
    (done : ∀ z' rs D o, Sub z z' → K kvs.length z' rs → rs.length ≤ kvs.length → LsO o rs → Hand prog w A E L m s₀ use Q z' D ((D, o) :: mu))
    (hcell : ∀ y ∈ scope.names, y.2 ≠ .cell := by decide) (hkind : scope.kind = .function := by rfl) :
    wpAny (model prog w) A (call (.builtin "dict.values") [.ref d]) (fun x₁ s₁ => wpAny (model prog w) A (pyIter x₁) (CompB prog w A E env elt (.Name x px) iter ifs scope cl pos use Q) E s₁) E s := by
  have hdo : s.heap.DictOf (intKind prog w) d kvs := dOf (S.keep _ _ ho) hd
  refine call_meetsIn F.slot_dict_values hdo.typeIs F.entry_dict_values (F.args_dict_values_1 _) (meets_dict_values (intKind prog w) d hms) ⟨⟨kvs, hdo⟩, ?_⟩
  have S₁ := S.push0 { cls := .type "dict_values", data := .fields #[.ref d] } (k := s.toks)
  have hdz : z.DictOf (intKind prog w) d kvs := dOf ho hd
  obtain ⟨ep, hat⟩ := hdz.dictAt
  refine wpAny_pyIter_values (knd := intKind prog w) (d := d) (kvs := kvs) (ep := ep) ⟨_, Heap.get?_push_size _ rfl, rfl, rfl⟩ (hat.keep S₁.keep) ?_
  have S₂ := S₁.pushEnd { cls := .type "dict_valueiterator", data := .fields #[.ref d, .int 0 0, .int kvs.length 0, .int ep 0] } (k := s.toks)
  have hne : d ≠ (s.heap.push { cls := .type "dict_values", data := .fields #[.ref d] }).objs.size := Nat.ne_of_lt (Heap.lt_size (S₁.keep _ _ ho))
  have W : It prog w A (s.heap.push { cls := .type "dict_values", data := .fields #[.ref d] }).objs.size [(s.heap.push { cls := .type "dict_values", data := .fields #[.ref d] }).objs.size, d] kvs.length _ _ := ⟨Walks.dictValues (knd := intKind prog w) hh (s.heap.push { cls := .type "dict_values", data := .fields #[.ref d] }).objs.size d hne kvs ep, fun _ _ st => let ⟨o, ho, _⟩ := st.1; ⟨o, ho⟩⟩
  refine compBlk (RR := compPost (model prog w) A E use Q) W ?_ S₂ ⟨⟨_, Heap.get?_push_size _ rfl, rfl, rfl⟩, (hat.keep S₁.keep).push _⟩ hn (fun _ _ _ _ _ _ _ _ q => wpAny_pure q) hcell hkind K hK (fun i v z' rs C m' mu' s' hi hP hz hK' S₁ hmu => ?_)
    (fun z' rs C D o mC oL s' hz hK' hrs hls hL S₁ => done z' rs D o hz hK' hrs hls C mC oL s' hL (bot_up S hz) S₁)
  · intro b hb
    rcases List.mem_cons.mp hb with rfl | hb
    · exact .inl rfl
    · rw [List.mem_singleton.mp hb]; exact .inr ⟨o, ho⟩
  · obtain ⟨k, hx⟩ := hP
    exact turn i k v z' rs C m' mu' s' hx hz hK' S₁ hmu
end
end Mine
namespace Mine
open PySem PySem.W PySem.Calls PyProof.Rows

/-! ## _find_cycle -/
/-- one level of the search: node, its iterator, how far -/
structure Lv where
  k : Nat
  s : Addr
  I : Addr
  q : Addr
  p : Nat
noncomputable def ledF (F : List Lv) : List (Addr × Obj) := F.flatMap fun f => [(f.I, itO f.s f.p), (f.q, mwO f.I)]
theorem ledF_cons (f : Lv) (F : List Lv) : ledF (f :: F) = (f.I, itO f.s f.p) :: (f.q, mwO f.I) :: ledF F := rfl
/-- what is left to do -/
noncomputable def meas (l : List Nd) (seen : List Nat) (F : List Lv) : Nat :=
  ((List.range l.length).map fun i => if i ∈ seen then 0 else ((l[i]?.map fun y => y.sc.length).getD 0) + 2).sum + (F.map fun f => ((l[f.k]?.map fun y => y.sc.length).getD 0) - f.p + 1).sum
theorem sum_upd (n : Nat) (f g : Nat → Nat) (c d : Nat) (hc : c < n) (h1 : ∀ i, i ≠ c → f i = g i) (h2 : f c + d = g c) : ((List.range n).map f).sum + d = ((List.range n).map g).sum := by
  induction n with
  | zero => omega
  | succ n ih =>
    rw [List.range_succ, List.map_append, List.map_append, List.sum_append, List.sum_append]
    simp only [List.map_cons, List.map_nil, List.sum_cons, List.sum_nil, Nat.add_zero]
    by_cases e : c = n
    · subst e
      have : (List.range c).map f = (List.range c).map g := List.map_congr_left fun i hi => h1 i (by have := List.mem_range.mp hi; omega)
      rw [this]; omega
    · have := ih (by omega)
      rw [h1 n (by omega)]; omega
theorem meas_push {l : List Nd} {seen : List Nat} {F : List Lv} {c : Nat} {y : Nd} {f : Lv} (hy : l[c]? = some y) (hc : c ∉ seen) (hf : f.k = c) (hp : f.p = 0) : meas l (c :: seen) (f :: F) + 1 = meas l seen F := by
  unfold meas
  have hcl : c < l.length := (List.getElem?_eq_some_iff.mp hy).1
  have e := sum_upd l.length (fun i => if i ∈ c :: seen then 0 else ((l[i]?.map fun y => y.sc.length).getD 0) + 2) (fun i => if i ∈ seen then 0 else ((l[i]?.map fun y => y.sc.length).getD 0) + 2) c (y.sc.length + 2) hcl
    (fun i hi => by simp [hi]) (by simp [hc, hy])
  simp only [List.map_cons, List.sum_cons, hf, hp, hy, Option.map_some, Option.getD_some]
  omega
theorem meas_step {l : List Nd} {seen : List Nat} {F : List Lv} {f : Lv} {y : Nd} (hy : l[f.k]? = some y) (hp : f.p < y.sc.length) : meas l seen ({ f with p := f.p + 1 } :: F) + 1 = meas l seen (f :: F) := by
  unfold meas
  simp only [List.map_cons, List.sum_cons, hy, Option.map_some, Option.getD_some]
  omega
theorem meas_pop {l : List Nd} {seen : List Nat} {F : List Lv} {f : Lv} : meas l seen F < meas l seen (f :: F) := by
  unfold meas
  simp only [List.map_cons, List.sum_cons]
  omega

/-- the sorter, wholly at rest -/
structure Rest (prog : Program) (w : World) (z : Heap) (x dx nd : Addr) (od : Obj) (as : List (Str × Value)) (l : List Nd) : Prop where
  inst : z.get? x = some (instObj 152 dx)
  own : z.get? dx = some od
  at_ : AtO od as
  n2i : as.lookup (Str.ofString "_node2info") = some (.ref nd)
  ms : (nd == sysModules) = false
  dict : ∃ ond, z.get? nd = some ond ∧ ond.IsDictOf (intKind prog w) (kvsN l)
  num : Num l
  nodes : ∀ y ∈ l, z.get? y.a = some y.inf ∧ z.get? y.d = some (dictOf [] 0) ∧ ∃ vs, IsL z y.s vs ∧ All2 IntIs vs y.sc ∧ y.sc.length < 1000
  up : ∀ (i : Nat) (y : Nd), l[i]? = some y → ∀ k ∈ y.sc, ∃ q : Nat, k = 100 + (q : Int) ∧ i < q ∧ q < l.length
/-- the state of the search -/
structure Sea (prog : Program) (w : World) (l : List Nd) (osk oit ose on2 : Obj) (F : List Lv) (seen : List Nat) : Prop where
  sk : ∃ vs, LsO osk vs ∧ All2 IntIs vs (F.map fun f => 100 + (f.k : Int)).reverse
  it : LsO oit (F.map fun f => Value.ref f.q).reverse
  se : ∃ f, ose.SetObjOf (intKind prog w) f seen.length ∧ ∀ i : Nat, f (100 + (i : Int)) = decide (i ∈ seen)
  nd : seen.Nodup
  lt : ∀ i ∈ seen, i < l.length
  n2 : ∃ kvs, on2.IsDictOf (intKind prog w) kvs ∧ kvs.map (·.1) = (F.map fun f => 100 + (f.k : Int)).reverse
  ok : ∀ f ∈ F, ∃ y, l[f.k]? = some y ∧ f.s = y.s ∧ f.p ≤ y.sc.length
  dec : F.Pairwise fun f g => g.k < f.k
theorem nodup_lt_length : ∀ (n : Nat) (l : List Nat), l.Nodup → (∀ i ∈ l, i < n) → l.length ≤ n
  | 0, l, _, h => by
    cases l with
    | nil => simp
    | cons a r => exact absurd (h a (.head _)) (by omega)
  | n + 1, l, hd, h => by
    have h1 := nodup_lt_length n (l.erase n) (hd.erase n) (fun i hi => by
      have := (List.Nodup.mem_erase_iff hd).mp hi
      have := h i this.2
      omega)
    rw [List.length_erase] at h1
    split at h1 <;> omega
section
variable {prog : Program} {w : World} {l : List Nd} {osk oit ose on2 : Obj} {F : List Lv} {seen : List Nat}
theorem Sea.seenLt (H : Sea prog w l osk oit ose on2 F seen) : seen.length ≤ l.length := nodup_lt_length _ _ H.nd H.lt
theorem dec_nodup : ∀ {F : List Lv}, (F.Pairwise fun f g => g.k < f.k) → (F.map (·.k)).Nodup
  | [], _ => List.nodup_nil
  | f :: F, h => by
    rw [List.pairwise_cons] at h
    rw [List.map_cons, List.nodup_cons]
    refine ⟨fun q => ?_, dec_nodup h.2⟩
    obtain ⟨g, hg, e⟩ := List.mem_map.mp q
    have := h.1 g hg
    omega
theorem Sea.FLt (H : Sea prog w l osk oit ose on2 F seen) : F.length ≤ l.length := by
  have := nodup_lt_length l.length (F.map (·.k)) (dec_nodup H.dec) (fun i hi => by
    obtain ⟨f, hf, rfl⟩ := List.mem_map.mp hi
    obtain ⟨y, hy, _⟩ := H.ok f hf
    exact (List.getElem?_eq_some_iff.mp hy).1)
  simpa using this
theorem valueAt_none {kvs : List (Int × Value)} {k : Int} (h : k ∉ kvs.map (·.1)) : valueAt kvs k = none := by
  unfold valueAt
  rw [Option.map_eq_none_iff, List.find?_eq_none]
  intro p hp
  simp only [decide_eq_true_eq]
  intro e
  exact h (by rw [← e]; exact List.mem_map_of_mem hp)
theorem valueAt_some {kvs : List (Int × Value)} {k : Int} (h : k ∈ kvs.map (·.1)) : (valueAt kvs k).isSome = true := by
  unfold valueAt
  rw [Option.isSome_map, List.find?_isSome]
  obtain ⟨p, hp, e⟩ := List.mem_map.mp h
  exact ⟨p, hp, by simp [e]⟩
theorem Sea.notOn (H : Sea prog w l osk oit ose on2 F seen) {c : Nat} (hc : ∀ f ∈ F, f.k < c) {kvs : List (Int × Value)} (hk : kvs.map (·.1) = (F.map fun f => 100 + (f.k : Int)).reverse) : valueAt kvs (100 + (c : Int)) = none := by
  refine valueAt_none ?_
  rw [hk, List.mem_reverse]
  intro q
  obtain ⟨f, hf, e⟩ := List.mem_map.mp q
  have := hc f hf
  omega
theorem Sea.push {osk' oit' ose' on2' : Obj} {c : Nat} {y : Nd} {I q : Addr} {t : Tok} {vs : List Value} {f : Int → Bool} {kvs : List (Int × Value)} {v : Value}
    (H : Sea prog w l osk oit ose on2 F seen) (hy : l[c]? = some y) (hc : c ∉ seen) (hF : ∀ f ∈ F, f.k < c) (hi : All2 IntIs vs (F.map fun f => 100 + (f.k : Int)).reverse) (hv : LsO osk' (vs ++ [.int (100 + (c : Int)) t])) (hq : LsO oit' ((F.map fun f => Value.ref f.q).reverse ++ [.ref q]))
    (hfs : ∀ i : Nat, f (100 + (i : Int)) = decide (i ∈ seen)) (hs : ose'.SetObjOf (intKind prog w) (fun k' => f k' || decide (k' = 100 + (c : Int))) (if f (100 + (c : Int)) then seen.length else seen.length + 1))
    (hkk : kvs.map (·.1) = (F.map fun f => 100 + (f.k : Int)).reverse) (hd : on2'.IsDictOf (intKind prog w) (stored kvs (100 + (c : Int)) v)) :
    Sea prog w l osk' oit' ose' on2' (⟨c, y.s, I, q, 0⟩ :: F) (c :: seen) := by
  have hcl : c < l.length := (List.getElem?_eq_some_iff.mp hy).1
  refine ⟨⟨_, hv, ?_⟩, ?_, ⟨fun k' => f k' || decide (k' = 100 + (c : Int)), ?_, fun i => ?_⟩, ?_, ?_, ⟨_, hd, ?_⟩, ?_, ?_⟩
  · rw [List.map_cons, List.reverse_cons]
    exact hi.append1 ⟨t, rfl⟩
  · rw [List.map_cons, List.reverse_cons]; exact hq
  · rw [hfs c] at hs
    simpa [hc] using hs
  · show (f (100 + (i : Int)) || decide ((100 : Int) + (i : Int) = 100 + (c : Int))) = _
    rw [hfs i]
    have : decide ((100 : Int) + (i : Int) = 100 + (c : Int)) = decide (i = c) := decide_eq_decide.mpr (by omega)
    rw [this, Bool.eq_iff_iff]
    simp [or_comm]
  · exact List.nodup_cons.mpr ⟨hc, H.nd⟩
  · intro i hi
    rcases List.mem_cons.mp hi with rfl | hi
    · exact hcl
    · exact H.lt i hi
  · have hno : ¬ (kvs.any fun kv => decide (kv.1 = 100 + (c : Int))) = true := by
      simp only [List.any_eq_true, not_exists, not_and, decide_eq_true_eq]
      intro p hp e
      have hm : 100 + (c : Int) ∈ kvs.map (·.1) := by rw [← e]; exact List.mem_map_of_mem hp
      rw [hkk, List.mem_reverse] at hm
      obtain ⟨g, hg, e'⟩ := List.mem_map.mp hm
      have := hF g hg
      omega
    unfold stored
    rw [if_neg hno, List.map_append, hkk, List.map_cons, List.map_cons, List.reverse_cons]; rfl
  · intro g hg
    rcases List.mem_cons.mp hg with rfl | hg
    · exact ⟨y, hy, rfl, Nat.zero_le _⟩
    · exact H.ok g hg
  · exact List.pairwise_cons.mpr ⟨fun g hg => hF g hg, H.dec⟩
theorem Sea.step {f : Lv} (H : Sea prog w l osk oit ose on2 (f :: F) seen) {y : Nd} (hy : l[f.k]? = some y) (hp : f.p < y.sc.length) : Sea prog w l osk oit ose on2 ({ f with p := f.p + 1 } :: F) seen :=
  ⟨H.sk, H.it, H.se, H.nd, H.lt, H.n2, fun g hg => by
    rcases List.mem_cons.mp hg with rfl | hg
    · obtain ⟨y', hy', e1, e2⟩ := H.ok f (.head _)
      rw [hy] at hy'; cases hy'
      exact ⟨y, hy, e1, hp⟩
    · exact H.ok g (.tail _ hg), by
    have := List.pairwise_cons.mp H.dec
    exact List.pairwise_cons.mpr ⟨fun g hg => this.1 g hg, this.2⟩⟩
theorem Sea.top {f : Lv} (H : Sea prog w l osk oit ose on2 (f :: F) seen) : ∃ vs t, LsO osk (vs ++ [.int (100 + (f.k : Int)) t]) ∧ All2 IntIs vs (F.map fun f => 100 + (f.k : Int)).reverse ∧ LsO oit ((F.map fun f => Value.ref f.q).reverse ++ [.ref f.q]) := by
  obtain ⟨vs, hv, hi⟩ := H.sk
  have hit := H.it
  rw [List.map_cons, List.reverse_cons] at hi hit
  have hlen := hi.1
  rw [List.length_append, List.length_singleton] at hlen
  obtain ⟨v, hvv, t, rfl⟩ := hi.get (i := ((F.map fun f => 100 + (f.k : Int)).reverse).length) (b := 100 + (f.k : Int)) (by simp)
  have e : vs = vs.take ((F.map fun f => 100 + (f.k : Int)).reverse).length ++ [.int (100 + (f.k : Int)) t] := by
    conv => lhs; rw [← List.take_append_drop ((F.map fun f => 100 + (f.k : Int)).reverse).length vs]
    congr 1
    rw [List.drop_eq_getElem_cons (by omega)]
    rw [List.getElem?_eq_getElem (by omega)] at hvv
    rw [Option.some.inj hvv]
    rw [List.drop_eq_nil_of_le (by omega)]
  refine ⟨_, t, by rw [← e]; exact hv, ?_, hit⟩
  have := hi.take ((F.map fun f => 100 + (f.k : Int)).reverse).length
  simpa using this
theorem Sea.pop {osk' oit' on2' : Obj} {f : Lv} {vs : List Value} {kvs : List (Int × Value)} (H : Sea prog w l osk oit ose on2 (f :: F) seen) (hv : LsO osk' vs) (hi : All2 IntIs vs (F.map fun f => 100 + (f.k : Int)).reverse) (hq : LsO oit' (F.map fun f => Value.ref f.q).reverse)
    (hkk : kvs.map (·.1) = ((f :: F).map fun f => 100 + (f.k : Int)).reverse) (hd : on2'.IsDictOf (intKind prog w) (without kvs (100 + (f.k : Int)))) : Sea prog w l osk' oit' ose on2' F seen := by
  have hdec := List.pairwise_cons.mp H.dec
  refine ⟨⟨vs, hv, hi⟩, hq, H.se, H.nd, H.lt, ⟨_, hd, ?_⟩, fun g hg => H.ok g (.tail _ hg), hdec.2⟩
  have e : (without kvs (100 + (f.k : Int))).map (·.1) = (kvs.map (·.1)).filter fun k => decide (k ≠ 100 + (f.k : Int)) := by
    unfold without
    rw [List.filter_map]; rfl
  rw [e, hkk, List.map_cons, List.reverse_cons, List.filter_append]
  have e2 : ([100 + (f.k : Int)] : List Int).filter (fun k => decide (k ≠ 100 + (f.k : Int))) = [] := by simp
  rw [e2, List.append_nil, List.filter_eq_self]
  intro a ha
  rw [List.mem_reverse] at ha
  obtain ⟨g, hg, rfl⟩ := List.mem_map.mp ha
  have := hdec.1 g hg
  simp; omega
end
end Mine
namespace Mine
open PySem PySem.W PySem.Calls PyProof.Rows
theorem filled11 : (fun (_ : OpenLaw) (_ : Params → Frag) => True) PySem.Challenge.rw_oc0237_01 hd.heap_1 := by k_fill; trivial

section
variable {prog : Program} {w : World} {A : Around} {s : Shared}
set_option maxHeartbeats 4000000 in
theorem find_cycle {n : Nat} {R : Result → Shared → Prop} {z : Heap} {x dx nd : Addr} {od : Obj} {as : List (Str × Value)} {l : List Nd} {fl : List (Addr × Obj)} (D : Led w z fl s) (hF : Fs A (fl.map (·.1))) (hfd : FrO fl) (hA : Lo n A) (hn : n ≤ 60)
   (H : Rest prog w z x dx nd od as l) (hz : l.length < 100)
   (h : ∀ s' fl', Same s s' → UpS fl fl' → Led w z fl' s' → R (.ok (.ret .none)) s')
   : codeAny (model prog w) A (.call (.ref 142) ⟨[.ref x], []⟩) R s := by
  refine' enter_fr D hF hA (by omega) ?ho ?hcd ?hbind ?_ ?hloc ?hcell ?hco ?hgen ?hk
  case ho => k_is
  case hcd => k_is
  case hbind => exact BindsTo.of_eq rfl
  case hloc => rfl
  case hcell => decide
  case hco => rfl
  case hgen => rfl
  case hk => rfl
  intro L A' s₁ outer hfr hol S' hA'
  have S : St w z L [("self", .ref x)] fl s s₁ := S'
  clear S'
  obtain ⟨ond, hnd, hdd⟩ := H.dict
  walk_at "go"
  rename St _ _ _ _ _ _ _ => S
  refine get_n2i S (S.keep _ _ H.inst) (S.keep _ _ H.own) H.at_ H.n2i rfl fun s₂ S₂ => ?_
  clear S
  walk_at "go"
  rename St _ _ _ _ _ _ _ => S
  rename_i sk _ osk hsk _ _ _ it _ oit hit _
  refine r_set0 (prog := prog) S fun se s₆ ose hse S₆ => ?_
  clear S
  walk_at "go"
  rename St _ _ _ _ _ _ _ => S
  refine r_Dict0 (prog := prog) S fun n2 s₇ on2 hn2s hn2 S₇ => ?_
  clear S
  walk_at "go"
  rename St _ _ _ _ _ _ _ => S
  have hsea0 : Sea prog w l osk oit ose on2 [] [] := ⟨⟨[], hsk, All2.nil⟩, hit, ⟨_, hse, fun i => by simp⟩, List.nodup_nil, fun i hi => by simp at hi, ⟨[], hn2, rfl⟩, fun f hf => by simp at hf, List.Pairwise.nil⟩
  have hperm : ((n2, on2) :: (se, ose) :: (it, oit) :: (sk, osk) :: fl).Perm ((sk, osk) :: (it, oit) :: (se, ose) :: (n2, on2) :: fl) :=
    (List.Perm.append_right fl (l₁ := [(n2, on2), (se, ose), (it, oit), (sk, osk)]) (l₂ := [(sk, osk), (it, oit), (se, ose), (n2, on2)]) (List.reverse_perm [(sk, osk), (it, oit), (se, ose), (n2, on2)]))
  refine r_forKeys (S.perm hperm) hA'.1 hnd hdd H.ms (fun j z' m' mu' => z' = z ∧ ∃ r fl' osk oit ose on2 seen, UpS fl fl' ∧ Sea prog w l osk oit ose on2 [] seen ∧ mu' = (sk, osk) :: (it, oit) :: (se, ose) :: (n2, on2) :: fl' ∧
    m' = (Str.ofString "node2stacki", Value.ref n2) :: (Str.ofString "seen", Value.ref se) :: (Str.ofString "itstack", Value.ref it) :: (Str.ofString "stack", Value.ref sk) :: (Str.ofString "n2i", Value.ref nd) :: r) ⟨rfl, _, fl, osk, oit, ose, on2, [], UpS.refl _, hsea0, rfl, rfl⟩ ?_ ?_
  · clear S hsea0 hperm hsk hit hse hn2
    rintro j k v tk z' m' mu' I o' s₈ hkv hz' ⟨rfl, r, fl', osk, oit, ose, on2, seen, hup, hsea, rfl, rfl⟩ S
    have hj : j < l.length := by have := (List.getElem?_eq_some_iff.mp hkv).1; simpa [kvsN] using this
    obtain ⟨yj, hyj⟩ : ∃ y, l[j]? = some y := ⟨_, List.getElem?_eq_getElem hj⟩
    have hkj : k = 100 + (j : Int) := by
      have := hkv
      simp [kvsN, hyj] at this
      rw [← this.1]; exact H.num j yj hyj
    subst hkj
    walk_at "go"
    walk_at "if"
    walk_at "go"
    rename St _ _ _ _ _ _ _ => S
    obtain ⟨f, hf, hfs⟩ := hsea.se
    refine r_setIn S (S.get 2 rfl) hf (by have := hsea.seenLt; omega) fun s₉ S₉ => ?_
    clear S
    walk_at "go"
    refine ⟨fun hb => ?_, fun hb => ?_⟩
    · walk_at "go"
      rename St _ _ _ _ _ _ _ => S
      exact fp_cont (Sub.refl _) ⟨rfl, _, fl', osk, oit, ose, on2, seen, hup, hsea, rfl, rfl⟩ (S.norm [(Str.ofString "node2stacki", .ref n2), (Str.ofString "seen", .ref se), (Str.ofString "itstack", .ref it), (Str.ofString "stack", .ref sk), (Str.ofString "n2i", .ref nd)] (by walk_at "has"))
    · walk_at "go"
      rename St _ _ _ _ _ _ _ => S
      rw [hfs j] at hb
      have hjn : j ∉ seen := by simpa using hb
      clear hb f hf hfs
      refine r_while (fun k s' => ∃ r fl' osk oit ose on2 seen F c t, St w z' L ((Str.ofString "node", Value.int (100 + ((c : Nat) : Int)) t) :: (Str.ofString "node2stacki", Value.ref n2) :: (Str.ofString "seen", Value.ref se) :: (Str.ofString "itstack", Value.ref it) :: (Str.ofString "stack", Value.ref sk) :: (Str.ofString "n2i", Value.ref nd) :: r)
          ((sk, osk) :: (it, oit) :: (se, ose) :: (n2, on2) :: (ledF F ++ (fl' ++ [(I, o')]))) s s' ∧ UpS fl fl' ∧ Sea prog w l osk oit ose on2 F seen ∧ k = meas l seen F ∧ c < l.length ∧ (∀ f ∈ F, f.k < c) ∧ (F = [] → c ∉ seen)) (meas l seen []) ?_ ?_
      · exact ⟨_, fl', osk, oit, ose, on2, seen, [], j, tk, S.norm [(Str.ofString "node", .int (100 + ((j : Nat) : Int)) tk), (Str.ofString "node2stacki", .ref n2), (Str.ofString "seen", .ref se), (Str.ofString "itstack", .ref it), (Str.ofString "stack", .ref sk), (Str.ofString "n2i", .ref nd)] (by walk_at "has"), hup, hsea, rfl, hj, (fun _ q => nomatch q), fun _ => hjn⟩
      clear S hsea hjn hup hyj hj hkv
      clear fl' osk oit ose on2 seen r
      rintro k s₁₀ ⟨r, fl', osk, oit, ose, on2, seen, F, c, t, S, hup, hsea, hk, hc, hFc, hF0⟩
      obtain ⟨y, hy⟩ : ∃ y, l[c]? = some y := ⟨_, List.getElem?_eq_getElem hc⟩
      have hsl := hsea.seenLt
      walk_at "go"
      refine Br.yes rfl ?_
      rename St _ _ _ _ _ _ _ => S
      -- the first if: node in seen
      refine r_seqJ (fun s'' => ∃ r osk oit ose on2 seen F' t, St w z' L ((Str.ofString "node", Value.int (100 + ((c : Nat) : Int)) t) :: (Str.ofString "node2stacki", Value.ref n2) :: (Str.ofString "seen", Value.ref se) :: (Str.ofString "itstack", Value.ref it) :: (Str.ofString "stack", Value.ref sk) :: (Str.ofString "n2i", Value.ref nd) :: r)
          ((sk, osk) :: (it, oit) :: (se, ose) :: (n2, on2) :: (ledF F' ++ (fl' ++ [(I, o')]))) s s'' ∧ Sea prog w l osk oit ose on2 F' seen ∧ meas l seen F' ≤ k) ?_ ?_
      · refine r_If ?_
        walk_at "go"
        rename St _ _ _ _ _ _ _ => S
        obtain ⟨f, hf, hfs⟩ := hsea.se
        refine r_setIn S (S.get 2 rfl) hf (by omega) fun s₁₁ S₁₁ => ?_
        clear S
        rw [hfs c]
        walk_at "go"
        refine ⟨fun hb => ?_, fun hb => ?_⟩
        · walk_at "if"
          walk_at "go"
          rename St _ _ _ _ _ _ _ => S
          obtain ⟨kvs, hkv, hkk⟩ := hsea.n2
          refine r_dIn S hn2s (S.get 3 rfl) hkv fun s₁₂ S₁₂ => ?_
          clear S
          rw [hsea.notOn hFc hkk]
          walk_at "go"
          refine Br.no rfl ?_
          walk_at "go"
          rename St _ _ _ _ _ _ _ => S
          exact ⟨_, osk, oit, ose, on2, seen, F, _, S, hsea, by omega⟩
        · have hcs : c ∉ seen := by simpa using hb
          obtain ⟨hya, hyd, vs, hvl, hvi, hvz⟩ := H.nodes y (List.mem_of_getElem? hy)
          walk_at "go"
          rename St _ _ _ _ _ _ _ => S
          refine r_setMethod (S.get 2 rfl) hf (by omega) ?_
          walk_at "go"
          rename St _ _ _ _ _ _ _ => S
          refine r_setAdd S 2 rfl hf (by omega) fun s₁₂ ose' hf' S₁₂ => ?_
          clear S
          walk_at "go"
          rename St _ _ _ _ _ _ _ => S
          have hL := IsL.of (S.get 1 rfl) hsea.it
          with_reducible refine r_listMethod hL PySem.F.slot_list_append PySem.F.type_list_append ?_
          walk_at "go"
          rename St _ _ _ _ _ _ _ => S
          refine r_dItem S (S.keep _ _ hnd) hdd (valueAt_kvsN H.num hy) fun s₁₃ S₁₃ => ?_
          clear S
          walk_at "go"
          rename St _ _ _ _ _ _ _ => S
          refine get_succ3 S (S.keep _ _ hya) (S.keep _ _ hyd) fun s₁₄ S₁₄ => ?_
          clear S
          walk_at "go"
          rename St _ _ _ _ _ _ _ => S
          refine r_iterL S (hvl.up S.keep) fun I₂ s₁₅ S₁₅ => ?_
          clear S
          walk_at "go"
          rename St _ _ _ _ _ _ _ => S
          refine r_nextAttr S (S.get 0 rfl) fun q s₁₆ S₁₆ => ?_
          clear S
          walk_at "go"
          rename St _ _ _ _ _ _ _ => S
          refine r_append S 3 rfl hsea.it (by have := hsea.FLt; simp; omega) fun s₁₇ oit' hit' S₁₇ => ?_
          clear S
          walk_at "go"
          rename St _ _ _ _ _ _ _ => S
          obtain ⟨vsk, hvsk, hvi2⟩ := hsea.sk
          obtain ⟨kvs, hkv, hkk⟩ := hsea.n2
          have hvlen : vsk.length = F.length := by rw [hvi2.1]; simp
          refine r_lenL S (IsL.of (S.get 2 rfl) hvsk) (by have := hsea.FLt; omega) fun t₁₈ s₁₈ S₁₈ => ?_
          clear S
          walk_at "go"
          rename St _ _ _ _ _ _ _ => S
          refine r_dSet S 5 rfl hkv (by have := hsea.FLt; have e := congrArg List.length hkk; simp at e; omega) fun s₁₉ on2' hkv' S₁₉ => ?_
          clear S
          walk_at "go"
          rename St _ _ _ _ _ _ _ => S
          have hL2 := IsL.of (S.get 2 rfl) hvsk
          with_reducible refine r_listMethod hL2 PySem.F.slot_list_append PySem.F.type_list_append ?_
          walk_at "go"
          rename St _ _ _ _ _ _ _ => S
          refine r_append S 2 rfl hvsk (by have := hsea.FLt; omega) fun s₂₀ osk' hsk' S₂₀ => ?_
          clear S
          walk_at "go"
          rename St _ _ _ _ _ _ _ => S
          have hp : ((q, mwO I₂) :: (I₂, itO y.s 0) :: (sk, osk') :: (it, oit') :: (se, ose') :: (n2, on2') :: (ledF F ++ (fl' ++ [(I, o')]))).Perm ((sk, osk') :: (it, oit') :: (se, ose') :: (n2, on2') :: (I₂, itO y.s 0) :: (q, mwO I₂) :: (ledF F ++ (fl' ++ [(I, o')]))) :=
            (List.perm_append_comm (l₁ := [(q, mwO I₂), (I₂, itO y.s 0)]) (l₂ := [(sk, osk'), (it, oit'), (se, ose'), (n2, on2')])).append_right _ |>.trans (((List.Perm.swap (I₂, itO y.s 0) (q, mwO I₂) []).append_left [(sk, osk'), (it, oit'), (se, ose'), (n2, on2')]).append_right _)
          exact ⟨_, osk', oit', ose', on2', c :: seen, ⟨c, y.s, I₂, q, 0⟩ :: F, _, S.perm hp, hsea.push hy hcs hFc hvi2 hsk' hit' hfs hf' hkk hkv', by have := meas_push (F := F) (f := ⟨c, y.s, I₂, q, 0⟩) hy hcs rfl rfl; omega⟩
      · clear S hsea hF0 hFc hk hsl hy y hc
        clear t osk oit ose on2 seen r F
        rintro s₁₁ ⟨r, osk, oit, ose, on2, seen, F, t, S, hsea, hme⟩
        walk_at "go"
        rename St _ _ _ _ _ _ _ => S
        refine r_while (fun n s' => ∃ r fl' osk oit on2 F, St w z' L ((Str.ofString "node2stacki", Value.ref n2) :: (Str.ofString "seen", Value.ref se) :: (Str.ofString "itstack", Value.ref it) :: (Str.ofString "stack", Value.ref sk) :: (Str.ofString "n2i", Value.ref nd) :: r)
          ((sk, osk) :: (it, oit) :: (se, ose) :: (n2, on2) :: (ledF F ++ (fl' ++ [(I, o')]))) s s' ∧ UpS fl fl' ∧ Sea prog w l osk oit ose on2 F seen ∧ meas l seen F ≤ k ∧ n = F.length) F.length ?_ ?_
        · exact ⟨_, fl', osk, oit, on2, F, S.norm [(Str.ofString "node2stacki", .ref n2), (Str.ofString "seen", .ref se), (Str.ofString "itstack", .ref it), (Str.ofString "stack", .ref sk), (Str.ofString "n2i", .ref nd)] (by walk_at "has"), hup, hsea, hme, rfl⟩
        clear S hsea hup hme
        clear fl' osk oit on2 r F t
        rintro n' s₁₂ ⟨r, fl', osk, oit, on2, F, S, hup, hsea, hme, hn'⟩
        walk_at "go"
        rename St _ _ _ _ _ _ _ => S
        obtain ⟨vsk, hvsk, hvi⟩ := hsea.sk
        have hvlen : vsk.length = F.length := by rw [hvi.1]; simp
        refine r_truthyL S (IsL.of (S.get 0 rfl) hvsk) (by have := hsea.FLt; omega) fun s₁₃ S₁₃ => ?_
        clear S
        rename St _ _ _ _ _ _ _ => S
        cases F with
        | nil =>
          have hv0 : vsk = [] := List.eq_nil_of_length_eq_zero hvlen
          subst hv0
          refine Br.no rfl ?_
          walk_at "go"
          rename St _ _ _ _ _ _ _ => S
          refine lp_brk ?_
          walk_at "go"
          rename St _ _ _ _ _ _ _ => S
          exact fp_next (Sub.refl _) ⟨rfl, _, fl', osk, oit, ose, on2, seen, hup, hsea, rfl, rfl⟩ S
        | cons f F =>
          have hvn : (!vsk.isEmpty) = true := by cases vsk with
            | nil => simp at hvlen
            | cons => rfl
          refine Br.yes hvn ?_
          obtain ⟨vs', tv, hsk', hi', hit'⟩ := hsea.top
          obtain ⟨y, hy, hfs, hfp⟩ := hsea.ok f (.head _)
          obtain ⟨hya, hyd, vs, hvl, hvi3, hvz⟩ := H.nodes y (List.mem_of_getElem? hy)
          walk_at "go"
          refine wpAny_Try_except ?_
          walk_at "go"
          refine wpAny_bind ?_
          walk_at "go"
          rename St _ _ _ _ _ _ _ => S
          rw [← hfs] at hvl
          refine r_itemLast (IsL.of (S.get 1 rfl) hit') ?_
          refine r_cwW (S.get 5 rfl) ?_
          by_cases hp : f.p < y.sc.length
          · obtain ⟨v, hv, tq, rfl⟩ := hvi3.get (List.getElem?_eq_getElem hp)
            obtain ⟨q, hq, hfq, hql⟩ := H.up _ _ hy _ (List.getElem_mem hp)
            rw [hq] at hv
            refine r_nextItem S 4 rfl (S.get 5 rfl) (hvl.up S.keep) hv fun s₁₄ S₁₄ => ?_
            clear S
            walk_at "go"
            rename St _ _ _ _ _ _ _ => S
            refine lp_brk ?_
            walk_at "go"
            rename St _ _ _ _ _ _ _ => S
            refine lp_next (meas l seen ({ f with p := f.p + 1 } :: F)) (by have := meas_step (seen := seen) (F := F) hy hp; omega) ?_
            refine ⟨_, fl', osk, oit, ose, on2, seen, { f with p := f.p + 1 } :: F, q, tq, S.norm [(Str.ofString "node", .int (100 + ((q : Nat) : Int)) tq), (Str.ofString "node2stacki", .ref n2), (Str.ofString "seen", .ref se), (Str.ofString "itstack", .ref it), (Str.ofString "stack", .ref sk), (Str.ofString "n2i", .ref nd)] (by walk_at "has"), hup, hsea.step hy hp, rfl, hql, fun g hg => ?_, fun e => nomatch e⟩
            rcases List.mem_cons.mp hg with rfl | hg
            · exact hfq
            · have := (List.pairwise_cons.mp hsea.dec).1 g hg
              omega
          · have hvn : vs[f.p]? = none := List.getElem?_eq_none (by rw [hvi3.1]; omega)
            refine r_nextEnd S hA'.1 4 rfl (S.get 5 rfl) (hvl.up S.keep) hvn fun e te oI s₁₄ S₁₄ => ?_
            clear S
            have hp1 : ((e, stopO te) :: ((sk, osk) :: (it, oit) :: (se, ose) :: (n2, on2) :: (ledF (f :: F) ++ (fl' ++ [(I, o')]))).set 4 (f.I, oI)).Perm ((e, stopO te) :: (fl' ++ ((sk, osk) :: (it, oit) :: (se, ose) :: (n2, on2) :: (f.I, oI) :: (f.q, mwO f.I) :: (ledF F ++ [(I, o')])))) := by
              refine List.Perm.cons _ ?_
              show List.Perm (((sk, osk) :: (it, oit) :: (se, ose) :: (n2, on2) :: (f.I, oI) :: (f.q, mwO f.I) :: ledF F) ++ (fl' ++ [(I, o')])) (fl' ++ (((sk, osk) :: (it, oit) :: (se, ose) :: (n2, on2) :: (f.I, oI) :: (f.q, mwO f.I) :: ledF F) ++ [(I, o')]))
              rw [← List.append_assoc, ← List.append_assoc]
              exact List.perm_append_comm.append_right _
            refine r_caught (S₁₄.perm hp1) hfr (fun h => nomatch (show ScopeKind.function = ScopeKind.module from h)) rfl (by rw [hup.fst]; exact hol) (hup.frO hfd) ?_ ?_
            · intro mu' s' Q' S' hq
              exact r_builtin S' (by k_is) (by boot_by_name) hq
            · clear S₁₄ hp1
              intro fl'' s₁₅ hup' S₁₅
              have hp2 : (fl'' ++ (sk, osk) :: (it, oit) :: (se, ose) :: (n2, on2) :: (f.I, oI) :: (f.q, mwO f.I) :: (ledF F ++ [(I, o')])).Perm ((sk, osk) :: (it, oit) :: (se, ose) :: (n2, on2) :: (f.I, oI) :: (f.q, mwO f.I) :: (ledF F ++ (fl'' ++ [(I, o')]))) := by
                show List.Perm (fl'' ++ (((sk, osk) :: (it, oit) :: (se, ose) :: (n2, on2) :: (f.I, oI) :: (f.q, mwO f.I) :: ledF F) ++ [(I, o')])) (((sk, osk) :: (it, oit) :: (se, ose) :: (n2, on2) :: (f.I, oI) :: (f.q, mwO f.I) :: ledF F) ++ (fl'' ++ [(I, o')]))
                rw [← List.append_assoc, ← List.append_assoc]
                exact List.perm_append_comm.append_right _
              have S := S₁₅.perm hp2
              clear S₁₅ hp2
              walk_at "go"
              refine wpAny_Delete (wpAny_deleteEach_cons ?_)
              refine wpAny_delete_Subscript ?_
              walk_at "go"
              rename St _ _ _ _ _ _ _ => S
              have hL := IsL.of (S.get 0 rfl) hsk'
              with_reducible refine r_listMethod hL PySem.F.slot_list_pop PySem.F.type_list_pop ?_
              walk_at "go"
              rename St _ _ _ _ _ _ _ => S
              refine r_popLast S 0 rfl hsk' (by have := hsea.FLt; have := hi'.1; simp at this; simp at *; omega) fun s₁₆ osk' hsk2 S₁₆ => ?_
              clear S
              rename St _ _ _ _ _ _ _ => S
              obtain ⟨kvs, hkv, hkk⟩ := hsea.n2
              have hkl : kvs.length = F.length + 1 := by have e := congrArg List.length hkk; simpa using e
              refine r_dDel S 3 rfl hkv (by have := hsea.FLt; simp at this; omega) (valueAt_some (by rw [hkk]; simp)) fun s₁₇ on2' hkv' S₁₇ => ?_
              clear S
              refine wpAny_deleteEach_nil ?_
              walk_at "go"
              rename St _ _ _ _ _ _ _ => S
              have hL := IsL.of (S.get 1 rfl) hit'
              with_reducible refine r_listMethod hL PySem.F.slot_list_pop PySem.F.type_list_pop ?_
              walk_at "go"
              rename St _ _ _ _ _ _ _ => S
              refine r_popLast S 1 rfl hit' (by have := hsea.FLt; simp at this; simp; omega) fun s₁₈ oit' hit2 S₁₈ => ?_
              clear S
              walk_at "go"
              rename St _ _ _ _ _ _ _ => S
              refine lp_next F.length (by rw [hn']; simp) ?_
              have S' : St w z' L _ ((sk, osk') :: (it, oit') :: (se, ose) :: (n2, on2') :: (f.I, oI) :: (f.q, mwO f.I) :: (ledF F ++ (fl'' ++ [(I, o')]))) s _ := S
              refine ⟨_, fl'', osk', oit', on2', F, S'.drop ?_, hup.trans hup', hsea.pop hsk2 hi' hit2 hkk hkv', by have := meas_pop (l := l) (seen := seen) (F := F) (f := f); omega, rfl⟩
              exact List.Sublist.cons_cons _ (List.Sublist.cons_cons _ (List.Sublist.cons_cons _ (List.Sublist.cons_cons _ (List.Sublist.cons _ (List.Sublist.cons _ (List.Sublist.refl _))))))
  · clear S hsea0 hperm hsk hit hse hn2
    rintro z' m' mu' s₈ hz' ⟨rfl, r, fl', osk, oit, ose, on2, seen, hup, hsea, rfl, rfl⟩ S
    walk_at "go"
    rename St _ _ _ _ _ _ _ => S
    exact h _ fl' S.same hup (S.drop (List.Sublist.cons _ (List.Sublist.cons _ (List.Sublist.cons _ (List.Sublist.cons _ (List.Sublist.refl _)))))).led
end
end Mine
namespace Mine
open PySem PySem.W PySem.Calls PyProof.Rows
theorem filled12 : (fun (_ : OpenLaw) (_ : Params → Frag) => True) PySem.Challenge.rw_oc0237_01 hd.heap_1 := by k_fill; trivial

/-! ## prepare -/
/-- the sorter ahead of prepare: all at rest but its own dict -/
structure Made (prog : Program) (w : World) (z : Heap) (x dx nd : Addr) (l : List Nd) : Prop where
  inst : z.get? x = some (instObj 152 dx)
  ms : (nd == sysModules) = false
  dict : ∃ ond, z.get? nd = some ond ∧ ond.IsDictOf (intKind prog w) (kvsN l)
  num : Num l
  nodes : ∀ y ∈ l, z.get? y.a = some y.inf ∧ z.get? y.d = some (dictOf [] 0) ∧ ∃ vs, IsL z y.s vs ∧ All2 IntIs vs y.sc ∧ y.sc.length < 1000
  up : ∀ (i : Nat) (y : Nd), l[i]? = some y → ∀ k ∈ y.sc, ∃ q : Nat, k = 100 + (q : Int) ∧ i < q ∧ q < l.length
theorem Made.lift {prog : Program} {w : World} {z z' : Heap} {x dx nd : Addr} {l : List Nd} (H : Made prog w z x dx nd l) (k : Sub z z') : Made prog w z' x dx nd l :=
  ⟨k _ _ H.inst, H.ms, let ⟨o, h1, h2⟩ := H.dict; ⟨o, k _ _ h1, h2⟩, H.num, fun y hy => let ⟨a, b, vs, c, d⟩ := H.nodes y hy; ⟨k _ _ a, k _ _ b, vs, c.up k, d⟩, H.up⟩
/-! ## the own frame lent -/
theorem UpS.cons_inv {p : Addr × Obj} {a b : List (Addr × Obj)} (x : UpS (p :: a) b) : ∃ p' b', b = p' :: b' ∧ p'.1 = p.1 ∧ (∃ sl, p'.2 = { p.2 with slots := sl }) ∧ UpS a b' := by
  cases b with
  | nil => exact absurd x.1 (by simp)
  | cons p' b' =>
    obtain ⟨h1, h2⟩ := All2.cons_inv x
    exact ⟨p', b', rfl, h1.1, h1.2, h2⟩
section
variable {w : World} {z : Heap} {L : Addr} {m : List (Str × Value)} {mu mu' fl muP muR : List (Addr × Obj)} {s₀ s : Shared}
theorem Led.perm (D : Led w z mu s) (h : mu.Perm mu') : Led w z mu' s := ⟨D.top, D.keep, fun p hp => D.mus p (h.mem_iff.mpr hp), (h.map _).nodup_iff.mp D.nd⟩
theorem Led.hidGet (D : Led w z (muP ++ muR) s) {p : Addr × Obj} (hp : p ∈ muR) : (hideAll s.heap (muP.map (·.1))).get? p.1 = some p.2 := by
  have hnd := D.nd
  rw [List.map_append, List.nodup_append] at hnd
  exact hideAll_get _ (D.mus p (List.mem_append_right _ hp)).1 (fun e => hnd.2.2 _ e _ (List.mem_map_of_mem hp) rfl)
theorem St.lendF (S : St w z L m (fl ++ (muP ++ muR)) s₀ s) : ∃ oL z', NsO oL m ∧ Led w z' (muP ++ (L, oL) :: fl) s ∧ Sub z z' ∧ (∀ p ∈ muR, z'.get? p.1 = some p.2) ∧
    (∀ muP' fl2 s', UpS ((L, oL) :: fl) fl2 → Led w z' (muP' ++ fl2) s' → Same s s' → ∃ fl', UpS fl fl' ∧ St w z L m (fl' ++ (muP' ++ muR)) s₀ s') := by
  obtain ⟨oL, hL, D⟩ := S.out
  have hp : ((L, oL) :: (fl ++ (muP ++ muR))).Perm ((muP ++ (L, oL) :: fl) ++ muR) := by
    have e : (L, oL) :: (fl ++ (muP ++ muR)) = (((L, oL) :: fl) ++ muP) ++ muR := by simp
    rw [e]
    exact List.perm_append_comm.append_right _
  have D' := D.perm hp
  refine ⟨oL, _, hL, D'.part, D'.sub, fun p hp => D'.hidGet hp, fun muP' fl2 s' hup D₂ sm => ?_⟩
  have D₃ := D'.join D₂
  obtain ⟨p', fl', rfl, e1, e2, hup'⟩ := hup.cons_inv
  obtain ⟨a, o⟩ := p'
  simp only at e1 e2
  subst e1
  have hp3 : ((muP' ++ (a, o) :: fl') ++ muR).Perm ((a, o) :: (fl' ++ (muP' ++ muR))) := by
    have e : (a, o) :: (fl' ++ (muP' ++ muR)) = (((a, o) :: fl') ++ muP') ++ muR := by simp
    rw [e]
    exact List.perm_append_comm.append_right _
  exact ⟨fl', hup', Led.into S (D₃.perm hp3) (hL.slots e2) sm⟩
end
noncomputable def rdyL (l : List Nd) (n : Nat) : List Nat := (List.range n).filter fun i => decide ((l[i]?.map (·.np)).getD 1 = 0)
theorem rdyL_succ (l : List Nd) (n : Nat) (y : Nd) (h : l[n]? = some y) : rdyL l (n + 1) = rdyL l n ++ (if y.np = 0 then [n] else []) := by
  unfold rdyL
  rw [List.range_succ, List.filter_append]
  congr 1
  simp only [List.filter_cons, h, Option.map_some, Option.getD_some, List.filter_nil]
  split <;> rename_i h1
  · rw [if_pos (by simpa using h1)]
  · rw [if_neg (by simpa using h1)]
section
variable {prog : Program} {w : World} {A : Around} {s : Shared}
set_option maxHeartbeats 4000000 in
theorem prepare {n : Nat} {R : Result → Shared → Prop} {z : Heap} {x dx nd : Addr} {od : Obj} {t₁ t₂ : Tok} {l : List Nd} {fl : List (Addr × Obj)} (D : Led w z ((dx, od) :: fl) s) (hF : Fs A (fl.map (·.1))) (hfd : FrO fl) (hA : Lo n A) (hn : n ≤ 50)
   (H : Made prog w z x dx nd l) (hz : l.length < 100) (ha : AtO od [(Str.ofString "_node2info", .ref nd), (Str.ofString "_ready_nodes", .none), (Str.ofString "_npassedout", .int 0 t₁), (Str.ofString "_nfinished", .int 0 t₂)])
   (h : ∀ s' od' rl orl rvs fl', Same s s' → UpS fl fl' → Led w z ((dx, od') :: (rl, orl) :: fl') s' → AtO od' (at4 nd rl 0 0 t₁ t₂) → LsO orl rvs → All2 IntIs rvs ((rdyL l l.length).map fun r : Nat => 100 + (r : Int)) → R (.ok (.ret .none)) s')
   : codeAny (model prog w) A (.call (.ref 107) ⟨[.ref x], []⟩) R s := by
  refine' enter_fr D hF hA (by omega) ?ho ?hcd ?hbind ?_ ?hloc ?hcell ?hco ?hgen ?hk
  case ho => k_is
  case hcd => k_is
  case hbind => exact BindsTo.of_eq rfl
  case hloc => rfl
  case hcell => decide
  case hco => rfl
  case hgen => rfl
  case hk => rfl
  intro L A' s₁ outer hfr hol S' hA'
  have S : St w z L [("self", .ref x)] ((dx, od) :: fl) s s₁ := S'
  clear S'
  obtain ⟨ond, hnd, hdd⟩ := H.dict
  walk_at "if"
  walk_at "go"
  rename St _ _ _ _ _ _ _ => S
  refine get_rdy S (S.keep _ _ H.inst) (S.get 0 rfl) ha rfl rfl fun s₂ S₂ => ?_
  clear S
  walk_at "go"
  refine Br.no rfl ?_
  walk_at "go"
  refine r_ListComp [] rfl ?_
  walk_at "go"
  rename St _ _ _ _ _ _ _ => S
  refine get_n2i S (S.keep _ _ H.inst) (S.get 0 rfl) ha rfl rfl fun s₃ S₃ => ?_
  clear S
  rename St _ _ _ _ _ _ _ => S
  with_reducible refine r_dictMethod (S.keep _ _ hnd) hdd F.slot_dict_values F.type_dict_values ?_
  walk_at "go"
  rename St _ _ _ _ _ _ _ => S
  refine r_compValues S hA'.1 hnd hdd H.ms (by simp [kvsN]; omega) (fun i z' rs => z' = z ∧ All2 IntIs rs ((rdyL l i).map fun r : Nat => 100 + (r : Int))) ⟨rfl, All2.nil⟩ ?_ ?_ 
  · rintro i k v z' rs C m' mu' s₄ hkv hz' ⟨rfl, hrs⟩ S₄ hmu
    have hi : i < l.length := by have := (List.getElem?_eq_some_iff.mp hkv).1; simpa [kvsN] using this
    obtain ⟨y, hy⟩ : ∃ y, l[i]? = some y := ⟨_, List.getElem?_eq_getElem hi⟩
    have hkj : k = 100 + (i : Int) ∧ v = .ref y.a := by
      have := hkv
      simp [kvsN, hy] at this
      exact ⟨by rw [← this.1]; exact H.num i y hy, this.2.symm⟩
    obtain ⟨rfl, rfl⟩ := hkj
    obtain ⟨hya, hyd, _⟩ := H.nodes y (List.mem_of_getElem? hy)
    clear S
    walk_at "go"
    refine wpAny_tests_one ?_
    walk_at "go"
    rename St _ _ _ _ _ _ _ => S
    refine get_np3 S (S.keep _ _ hya) (S.keep _ _ hyd) fun s₅ S₅ => ?_
    clear S
    walk_at "go"
    rename St _ _ _ _ _ _ _ => S
    refine ⟨fun hb => ?_, fun hb => ?_⟩
    · have hb' : y.np = 0 := by simpa using hb
      walk_at "go"
      rename St _ _ _ _ _ _ _ => S
      refine get_node3 S (S.keep _ _ hya) (S.keep _ _ hyd) fun s₆ S₆ => ?_
      refine ce (Sub.refl _) ⟨rfl, ?_⟩ S₆
      rw [rdyL_succ l i y hy, if_pos hb', List.map_append]
      exact hrs.append1 ⟨y.u, by rw [H.num i y hy]⟩
    · have hb' : ¬ y.np = 0 := by simpa using hb
      refine ce (Sub.refl _) ⟨rfl, ?_⟩ S
      rw [rdyL_succ l i y hy, if_neg hb', List.append_nil]
      exact hrs
  · rintro z' rs D' o' hz' ⟨rfl, hrs⟩ hlen hlo
    refine hand_none fun s₄ S₄ => ?_
    clear S
    walk_at "go"
    rename St _ _ _ _ _ _ _ => S
    refine set_rdy S 1 rfl (S.keep _ _ H.inst) ha (by simp) fun s₅ od' ha' S₅ => ?_
    clear S
    walk_at "go"
    rename St _ _ _ _ _ _ _ => S
    have ha2 : AtO od' (at4 nd D' 0 0 t₁ t₂) := ha'
    refine meth_cyc S (S.keep _ _ H.inst) (S.get 1 rfl) ha2 rfl ?_
    walk_at "go"
    rename St _ _ _ _ _ _ _ => S
    have hp : (((D', o') :: (dx, od) :: fl).set 1 (dx, od')).Perm (fl ++ ([] ++ [(D', o'), (dx, od')])) := List.perm_append_comm (l₁ := [(D', o'), (dx, od')]) (l₂ := fl)
    obtain ⟨oL, z₂, hoL, D₂, hz₂, hR, hback⟩ := (S.perm hp).lendF
    have H₂ := H.lift hz₂
    refine wpAny_call (find_cycle (fl := (L, oL) :: fl) D₂ ⟨_, hfr, All2.cons ⟨(fun h => nomatch (show ScopeKind.function = ScopeKind.module from h)), rfl⟩ hol⟩ ?_ hA' (by omega)
      ⟨H₂.inst, hR (dx, od') (by simp), ha2, rfl, H₂.ms, H₂.dict, H₂.num, H₂.nodes, H₂.up⟩ hz fun s₆ fl2 sm hup D₆ => ?_)
    · intro p hp
      rcases List.mem_cons.mp hp with rfl | hp
      · exact hoL.dict
      · exact hfd p hp
    obtain ⟨fl', hup', S₆⟩ := hback [] fl2 s₆ hup D₆ sm
    clear S
    walk_at "go"
    walk_at "if"
    walk_at "go"
    refine PyProof.Rows.truthy_none ?_
    refine Br.no rfl ?_
    walk_at "go"
    rename St _ _ _ _ _ _ _ => S
    have hp3 : (fl' ++ ([] ++ [(D', o'), (dx, od')])).Perm ((dx, od') :: (D', o') :: fl') := (List.perm_append_comm (l₁ := fl') (l₂ := [(D', o'), (dx, od')])).trans (List.Perm.swap _ _ _)
    have hr : All2 IntIs rs ((rdyL l l.length).map fun r : Nat => 100 + (r : Int)) := by
      have : (kvsN l).length = l.length := by simp [kvsN]
      rw [this] at hrs; exact hrs
    exact h _ od' D' o' rs fl' S.same hup' (S.perm hp3).led ha2 hlo hr
end
end Mine
namespace Mine
open PySem PySem.W PySem.Calls PyProof.Rows

/-! ## defs with cells; dict comprehensions -/
noncomputable def CellO (o : Obj) (v : Option Value) : Prop := o.data = .cell v
section
variable {prog : Program} {w : World} {A : Around} {s : Shared}
/-- a def's call, with cells (in the order of cellsFrom) and the frames told -/
theorem enter_cells {R : Result → Shared → Prop} {name qual : Str} {params : Arguments} {body : List Stmt} {scope : Scope} {dV kV doc pm cdv ct oc : Value} {an od : Option Addr} {osl : Array (Option Value)} {f : Addr} {vals : List Value} {binds m : List (Str × Value)} {z : Heap} {mu : List (Addr × Obj)} {fl : List Addr} {n : Nat} {cm : Str → Option Value}
    (D : Led w z mu s) (hF : Fs A fl) (hA : Lo n A) (hn : n ≤ 100)
    (ho : (hd.heap_1 w.params).lookup f = some ⟨oc, od, .func (fnOf name qual params body scope dV kV doc pm an cdv ct), osl⟩) (hcd : codeIn (hd.heap_1 w.params) cdv qual = true)
    (hbind : bindArgs (fnOf name qual params body scope dV kV doc pm an cdv ct) ⟨vals, []⟩ = pure binds)
    (hm : ∀ L, bindL (envOfC qual scope L f cdv).kindOf binds (fun _ => none) = fun x => m.lookup x)
    (hc : ∀ L, bindC (envOfC qual scope L f cdv).kindOf binds (fun _ => none) = cm)
    (hcn : ∀ L, ((cellsFrom L scope.names []).map (·.1)).Nodup)
    (h : ∀ L A' s₁ outer cobs, A'.frames = some (envOfC qual scope L f cdv :: outer) → All2 (fun (env : Env) (L : Addr) => env.scope.kind ≠ .module ∧ env.frame = some L) outer fl →
      All2 (fun (p : Addr × Obj) (q : Str × Addr) => p.1 = q.2 ∧ CellO p.2 (cm q.1)) cobs (cellsFrom (L + 1) scope.names []) → St w z L m (cobs ++ mu) s s₁ → Lo (n + 1) A' →
      wpAny (model prog w) A' (execs body (envOfC qual scope L f cdv))
        (fun fl s' => R (.ok (.ret (match fl with | .ret v => v | _ => .none))) s') (fun _ _ => False) s₁)
    (hkind : ∀ L, ∀ x ∈ binds, scope.names.lookup x.1 = some .local ∨ (scope.names.lookup x.1 = some .cell ∧ ((cellsFrom (L + 1) scope.names []).lookup x.1).isSome = true))
    (hco : scope.isCoroutine = false) (hgen : scope.isGenerator = false) (hk : scope.kind = .function) : codeAny (model prog w) A (.call (.ref f) ⟨vals, []⟩) R s := by
  have T' := D.top.up D.keep
  obtain ⟨envs, hfr, hfl⟩ := hF
  refine codeAny_call_cells (fd := fnOf name qual params body scope dV kV doc pm an cdv ct) (body := body) (binds := binds) (hA.room hn) (T'.K _ _ ho) rfl T'.lim (codeRec_of T'.K hcd) rfl hbind rfl (hkind _) (fun s₁ X => ?_) hco hgen hk
  generalize hL : s.heap.objs.size = L at X ⊢
  have X' : InCallC s L (bindL (envOfC qual scope L f cdv).kindOf binds (fun _ => none)) (cellsFrom (L + 1) scope.names []) (bindC (envOfC qual scope L f cdv).kindOf binds (fun _ => none)) s₁ := X
  clear X
  rw [hm L, hc L] at X'
  obtain ⟨⟨⟨h₁, tk, rfl⟩, hns, hkeep, hfresh⟩, hcell, hap, hab⟩ := X'
  have hlk : ∀ (cs : List (Str × Addr)), (cs.map (·.1)).Nodup → ∀ n c, (n, c) ∈ cs → cs.lookup n = some c := by
    intro cs
    induction cs with
    | nil => intro _ n c h; cases h
    | cons p r ih =>
      obtain ⟨n', c'⟩ := p
      intro hnd n c hm
      rw [List.map_cons, List.nodup_cons] at hnd
      rw [List.lookup_cons]
      rcases List.mem_cons.mp hm with e | hm'
      · cases e; simp
      · have hne : (n == n') = false := by
          rw [beq_eq_false_iff_ne]
          intro e; subst e
          exact hnd.1 (List.mem_map.mpr ⟨(n, c), hm', rfl⟩)
        rw [hne]; exact ih hnd.2 n c hm'
  have hcs : ∀ n c, (n, c) ∈ cellsFrom (L + 1) scope.names [] → h₁.IsCell c (cm n) := fun n c hm => hcell n c (hlk _ (hcn _) n c hm)
  have key : ∀ (cs : List (Str × Addr)), (cs.Pairwise fun x y => x.2 ≠ y.2) → (∀ n c, (n, c) ∈ cs → L < c) → (∀ n c, (n, c) ∈ cs → h₁.IsCell c (cm n)) →
      ∃ cobs, All2 (fun (p : Addr × Obj) (q : Str × Addr) => p.1 = q.2 ∧ CellO p.2 (cm q.1)) cobs cs ∧ (∀ p ∈ cobs, h₁.get? p.1 = some p.2 ∧ L < p.1) ∧ cobs.map (·.1) = cs.map (·.2) := by
    intro cs
    induction cs with
    | nil => intro _ _ _; exact ⟨[], All2.nil, fun p hp => by simp at hp, rfl⟩
    | cons p r ih =>
      obtain ⟨n', c'⟩ := p
      intro hp ha hc
      obtain ⟨cobs, h1, h2, h3⟩ := ih (List.pairwise_cons.mp hp).2 (fun n c hm => ha n c (.tail _ hm)) (fun n c hm => hc n c (.tail _ hm))
      obtain ⟨o, ho, hd⟩ := hc n' c' (.head _)
      refine ⟨(c', o) :: cobs, All2.cons ⟨rfl, hd⟩ h1, fun p hp => ?_, by simp [h3]⟩
      rcases List.mem_cons.mp hp with rfl | hp
      · exact ⟨ho, ha n' c' (.head _)⟩
      · exact h2 p hp
  obtain ⟨cobs, h1, h2, h3⟩ := key (cellsFrom (L + 1) scope.names []) hap hab hcs
  have hz : Sub z h₁ := D.keep.trans hkeep
  have hzL : ∀ c, L ≤ c → z.get? c = none := fun c hc => by
    cases q : z.get? c with
    | none => rfl
    | some o => exact absurd (Heap.lt_size (D.keep _ _ q)) (by rw [hL]; exact Nat.not_lt.mpr hc)
  have S : St w z L m (cobs ++ mu) s { s with heap := h₁, toks := tk } := by
    refine ⟨hns, hz, hzL L (Nat.le_refl _), fun p hp => ?_, ?_, ?_, ⟨rfl, rfl, rfl⟩⟩
    · rcases List.mem_append.mp hp with hp | hp
      · exact ⟨(h2 p hp).1, Nat.ne_of_gt (h2 p hp).2, hzL _ (Nat.le_of_lt (h2 p hp).2)⟩
      · exact ⟨hkeep _ _ (D.mus p hp).1, Nat.ne_of_lt (by rw [← hL]; exact Heap.lt_size (D.mus p hp).1), (D.mus p hp).2⟩
    · rw [List.map_append, List.nodup_append]
      refine ⟨?_, D.nd, fun x hx y hy e => ?_⟩
      · rw [h3]
        exact List.pairwise_map.mpr hap
      · obtain ⟨p, hp, rfl⟩ := List.mem_map.mp hx
        obtain ⟨q, hq, rfl⟩ := List.mem_map.mp hy
        have e1 := (h2 p hp).2
        have e2 := Heap.lt_size (D.mus q hq).1
        rw [hL, ← e] at e2
        exact Nat.lt_irrefl _ (Nat.lt_trans e1 e2)
    · rw [← hL]; exact trim_bot D.top D.keep
  exact wpAny_mono (h L _ _ envs cobs (Around.frames_deeper hfr) hfl h1 S (hA.deeper _)) (fun _ _ x => x) (fun _ _ x => x.elim)
end
section
variable {prog : Program} {w : World} {A : Around} {E : Value → Shared → Prop} {s s₀ : Shared} {z : Heap} {L : Addr} {m : List (Str × Value)} {mu : List (Addr × Obj)} {env : Env}
theorem IsCell.up {h h' : Heap} {c : Addr} {v : Option Value} (x : h.IsCell c v) (k : Sub h h') : h'.IsCell c v := let ⟨o, ho, hd⟩ := x; ⟨o, k _ _ ho, hd⟩
theorem r_cell {x : Str} {pos : Pos} {c : Addr} {v : Value} {Q : Value → Shared → Prop} (hv : s.heap.IsCell c (some v)) (h : Q v s)
    (hk : env.scope.kind = .function := by rfl) (hx : env.kindOf x = some .cell := by rfl) (hc : env.cells.lookup x = some c := by rfl) (hd : (x == ("__debug__" : Str)) = false := by decide) :
    wpAny (model prog w) A (eval (.Name x pos) env) Q E s := wpAny_Name (wpAny_loadName_cell hk hx hc hv h) hd
theorem r_storeCell {x : Str} {v : Value} {v₀ : Option Value} {c : Addr} {o : Obj} {Q : Unit → Shared → Prop} (S : St w z L m mu s₀ s) (i : Nat) (hi : mu[i]? = some (c, o)) (ho : CellO o v₀) (h : ∀ s' o', CellO o' (some v) → St w z L m (mu.set i (c, o')) s₀ s' → Q () s')
    (hk : env.scope.kind = .function := by rfl) (hx : env.kindOf x = some .cell := by rfl) (hc : env.cells.lookup x = some c := by rfl) : wpAny (model prog w) A (storeName env x v) Q E s := by
  refine wpAny_storeName_cell hk hx hc (v₀ := v₀) ⟨o, S.get i hi, ho⟩ fun h' hc' hs => ?_
  obtain ⟨o', ho', hd'⟩ := hc'
  exact h _ o' hd' (S.upd i hi hs.extBut ho' ⟨rfl, rfl, rfl⟩)

/-- behind a key and a value -/
noncomputable def CeD (w : World) (z : Heap) (C : Addr) (mu : List (Addr × Obj)) (s₀ : Shared) (K : Heap → List (Int × Value) → Prop) (kvs : List (Int × Value)) (kv vv : Value) (s : Shared) : Prop :=
  ∃ z' m' k t, kv = .int k t ∧ Sub z z' ∧ K z' (stored kvs k vv) ∧ St w z' C m' mu s₀ s
/-- {key: value for x in range(n)} -/
theorem r_dictRange {kx vx iter : Expr} {x : Str} {px : Pos} {scope : Scope} {cl : List (Str × Addr)} {pos : Pos} {Q : Value → Shared → Prop} {k : Int} {t : Tok} (n : Nat) (hk : k = n)
    (S : St w z L m mu s₀ s) (hh : A.handled = none) (hn : n < 1000000) (K : Nat → Heap → List (Int × Value) → Prop) (hK : K 0 z []) (hKl : ∀ i z' kvs, K i z' kvs → kvs.length ≤ i)
    (turn : ∀ i t z' kvs C m' mu' s', i < n → Sub z z' → K i z' kvs → St w z' C m' mu' s₀ s' → (∀ p ∈ mu, p ∈ mu') →
      wpAny (model prog w) A (assign (.Name x px) (compEnvC scope cl C env) (.int (i : Nat) t)) (fun _ s₂ => wpAny (model prog w) A (eval kx (compEnvC scope cl C env)) (fun kv s₃ => wpAny (model prog w) A (eval vx (compEnvC scope cl C env)) (fun vv s₄ =>
        CeD w z' C mu' s₀ (K (i + 1)) kvs kv vv s₄) (fun _ _ => False) s₃) (fun _ _ => False) s₂) (fun _ _ => False) s')
    (done : ∀ z' kvs D o s', Sub z z' → (D == sysModules) = false → K n z' kvs → o.IsDictOf (intKind prog w) kvs → St w z' L m ((D, o) :: mu) s₀ s' → Q (.ref D) s')
    (hcell : ∀ y ∈ scope.names, y.2 ≠ .cell := by decide) (hkind : scope.kind = .function := by rfl) :
    wpAny (model prog w) A (call (.type "range") [.int k t]) (fun x₁ s₁ => wpAny (model prog w) A (pyIter x₁) (fun it s₂ => wpAny (model prog w) A newDict (fun acc s₃ =>
      wpAny (model prog w) A (newFunctionEnv scope env.globals cl [] env.qual none .none (some env)) (fun cenv s₄ =>
        codeAny (model prog w) A (.compStart (.DictComp kx vx [⟨.Name x px, iter, [], 0⟩] scope pos) 0 it acc { cenv with scope := relabel scope env }) (compPost (model prog w) A E none Q acc cenv.locals) s₄) E s₃) E s₂) E s₁) E s := by
  subst hk
  refine call_range_1 ?_
  have S₁ := S.push0 { cls := .type "range", data := .fields #[.int 0 s.toks, .int n t, .int 1 (s.toks + 1)] } (k := s.toks + 1 + 1)
  refine wpAny_pyIter_range (Heap.get?_push_size _ rfl) (range_small n hn).1 ?_
  rw [(range_small n hn).2]
  have S₂ := S₁.pushEnd { cls := .type "range_iterator", data := .fields #[rawInt 0, rawInt n, rawInt 1] } (k := s.toks + 1 + 1)
  generalize hI : (s.heap.push { cls := .type "range", data := .fields #[.int 0 s.toks, .int n t, .int 1 (s.toks + 1)] }).objs.size = I at S₂ ⊢
  have W := It.range (prog := prog) (w := w) hh I n
  have h0 : IsRangeIter ((s.heap.push { cls := .type "range", data := .fields #[.int 0 s.toks, .int n t, .int 1 (s.toks + 1)] }).push { cls := .type "range_iterator", data := .fields #[rawInt 0, rawInt n, rawInt 1] }) I ((0 : Int) + ((0 : Nat) : Int) * 1) ((n : Int) - (0 : Nat)) 1 := by
    subst hI
    show Heap.get? _ _ = _
    rw [Heap.get?_push_size _ rfl]
    simp
  clear S₁
  generalize hs₁ : ({ s with heap := (s.heap.push { cls := .type "range", data := .fields #[.int 0 s.toks, .int n t, .int 1 (s.toks + 1)] }).push { cls := .type "range_iterator", data := .fields #[rawInt 0, rawInt n, rawInt 1] }, toks := s.toks + 1 + 1 } : Shared) = s₁ at S₂ ⊢
  have h0' : IsRangeIter s₁.heap I ((0 : Int) + ((0 : Nat) : Int) * 1) ((n : Int) - (0 : Nat)) 1 := by rw [← hs₁]; exact h0
  clear h0 hs₁
  refine wpAny_newObj_type ?_ (by simp [sizeOk])
  have hms := hi_new S₂
  have S₃ := S₂.push { cls := .type "dict", data := .dict #[] } (k := s₁.toks)
  refine wpAny_newFunctionEnv hcell (fun _ hx => nomatch hx) (fun h' hns hsb => ?_) hkind
  have hk₁ : Sub (s₁.heap.push { cls := .type "dict", data := .dict #[] }) h' := fun b o e => hsb.extBut b o (Nat.ne_of_lt (Heap.lt_size e)) (Heap.get?_push_of_some _ e)
  obtain ⟨oL, hL, S₄⟩ := S₃.inner (s' := { s₁ with heap := h', toks := s₁.toks + 0 }) hns (Nat.le_refl _) hk₁ ⟨rfl, rfl, rfl⟩
  generalize hC : (s₁.heap.push { cls := .type "dict", data := .dict #[] }).objs.size = C at *
  generalize hD : s₁.heap.objs.size = D at *
  show codeAny (model prog w) A (.compStart (.DictComp kx vx [⟨.Name x px, iter, [], 0⟩] scope pos) 0 (.ref I) (.ref D) (compEnvC scope cl C env)) (compPost (model prog w) A E none Q (.ref D) C) _
  have hI₃ : IsRangeIter ({ s₁ with heap := h', toks := s₁.toks + 0 } : Shared).heap I ((0 : Int) + ((0 : Nat) : Int) * 1) ((n : Int) - (0 : Nat)) 1 := W.W.frame _ _ _ h0' fun b _ o e => hk₁ _ _ (Heap.get?_push_of_some _ e)
  have hnew : ({ cls := .type "dict", data := .dict #[] } : Obj).IsDictOf (intKind prog w) [] := ⟨#[], 0, ⟨rfl, rfl, rfl⟩, rfl, fun _ he => by simp at he, Pairs.nil, List.nodup_nil⟩
  have loop : codeAny (model prog w) A (.compLoop (.DictComp kx vx [⟨.Name x px, iter, [], 0⟩] scope pos) 0 (.ref I) (.ref D) (compEnvC scope cl C env)) (compPost (model prog w) A E none Q (.ref D) C) { s₁ with heap := h', toks := s₁.toks + 0 } := by
    refine codeAny_compLoop_testsD (fun k s' => ∃ i z' kvs mC o o', k = n - i ∧ i ≤ n ∧ Sub z z' ∧ K i z' kvs ∧ o.IsDictOf (intKind prog w) kvs ∧ St w z' C mC ((L, oL) :: (D, o) :: (mu ++ [(I, o')])) s₀ s' ∧ IsRangeIter s'.heap I ((0 : Int) + (i : Nat) * 1) ((n : Int) - (i : Nat)) 1) ?_ n
      ⟨0, z, [], [], _, _, by omega, Nat.zero_le _, Sub.refl _, hK, hnew, S₄, hI₃⟩
    rintro k s₂ ⟨i, z', kvs, mC, o, o', hk, hi, hz, hK', hls, S₁, hS₁⟩
    by_cases hin : i < n
    · refine W.W.item i s₂ _ _ hin hS₁ (fun v h' tk hP hS' hkeep => ?_)
      obtain ⟨t', rfl⟩ := hP
      obtain ⟨o'', ho''⟩ := W.live _ _ hS'
      have S₂ : St w z' C mC ((L, oL) :: (D, o) :: (mu ++ [(I, o'')])) s₀ { s₂ with heap := h', toks := tk } :=
        St.updEnd (mu := (L, oL) :: (D, o) :: mu) S₁ (fun b ob hb e => hkeep b ob (by simpa using hb) e) ho'' ⟨rfl, rfl, rfl⟩
      refine wpAny_mono (turn i t' z' kvs C mC _ _ hin hz hK' S₂ (fun p hp => .tail _ (.tail _ (List.mem_append_left _ hp)))) (fun _ s₃ h₃ => ?_) fun _ _ x => x.elim
      refine wpAny_tests_nil ?_
      rw [if_pos rfl]
      refine wpAny_mono h₃ (fun kv s₄ h₄ => wpAny_mono h₄ (fun vv s₅ h₅ => ?_) fun _ _ x => x.elim) fun _ _ x => x.elim
      obtain ⟨z'', m'', kk, tt, rfl, hz'', hK'', S₅⟩ := h₅
      refine wpAny_dictSet_pairs (intKind_is prog w kk tt) (dOf (S₅.get 1 rfl) hls) (fun h₆ hm hs => ?_) (by have := hKl _ _ _ hK'; rw [sizeLine_eq]; omega)
      obtain ⟨o₆, ho₆, hd₆⟩ := Heap.dictOf_iff.mp hm
      have S₆ : St w z'' C m'' ((L, oL) :: (D, o₆) :: (mu ++ [(I, o'')])) s₀ { s₅ with heap := h₆, toks := s₅.toks + 1 } := S₅.upd 1 rfl hs.extBut ho₆ ⟨rfl, rfl, rfl⟩
      refine ⟨n - (i + 1), by omega, i + 1, z'', _, m'', o₆, o'', rfl, hin, hz.trans hz'', hK'', hd₆, S₆, ?_⟩
      refine W.W.frame _ _ _ hS' fun b hb ob e => ?_
      rw [List.mem_singleton.mp hb] at e ⊢
      have e2 : ob = o'' := Option.some.inj (e.symm.trans ho'')
      subst e2
      exact (S₆.mus (I, ob) (.tail _ (.tail _ (List.mem_append_right _ (List.mem_singleton.mpr rfl))))).1
    · have hin' : i = n := by omega
      subst hin'
      refine W.W.done s₂ _ _ hS₁ (fun h' tk hkeep => ?_)
      have S₅ := St.dropUpd (mu := (L, oL) :: (D, o) :: mu) (s' := { s₂ with heap := h', toks := tk }) S₁ (fun b ob hb e => hkeep b ob (by simpa using hb) e) ⟨rfl, rfl, rfl⟩
      exact compPost_none S₅ hL (bot_up S hz) fun s' S' => done z' kvs D o s' hz hms hK' hls S'
  refine codeAny_compStart_dict loop ?_
  exact W.W.self _ _ _ _ hI₃ loop
theorem r_DictComp {kx vx target iter : Expr} {scope : Scope} {pos : Pos} {Q : Value → Shared → Prop} (cl : List (Str × Addr)) (hclos : closureFor scope env = pure cl)
    (h : wpAny (model prog w) A (eval iter env) (fun x s₁ => wpAny (model prog w) A (pyIter x) (fun it s₂ => wpAny (model prog w) A newDict (fun acc s₃ => wpAny (model prog w) A (newFunctionEnv scope env.globals cl [] env.qual none .none (some env)) (fun cenv s₄ =>
        codeAny (model prog w) A (.compStart (.DictComp kx vx [⟨target, iter, [], 0⟩] scope pos) 0 it acc { cenv with scope := relabel scope env }) (compPost (model prog w) A E none Q acc cenv.locals) s₄) E s₃) E s₂) E s₁) E s)
    (hkind : scope.kind = .function := by rfl) (hnames : ∀ x ∈ scope.names, x.2 = .local → scope.names.lookup x.1 = some .local := by decide) (hs : ∀ x, foldedSetIterable iter env x = pure x := by intro _; rfl) :
    wpAny (model prog w) A (eval (.DictComp kx vx [⟨target, iter, [], 0⟩] scope pos) env) Q E s := by
  rw [arm_eval_DictComp]
  exact wpAny_comprehension_free (use := none) rfl hs hclos hkind hnames h
end
end Mine
namespace Mine
/-! ## the sorter, plainly -/
noncomputable def succN (gr : List (List Nat)) (i : Nat) : List Nat := (List.range gr.length).filter fun q => decide (i ∈ gr.getD q [])
structure Gr (gr : List (List Nat)) : Prop where
  nd : ∀ (i : Nat) (ps : List Nat), gr[i]? = some ps → ps.Nodup
  lt : ∀ (i : Nat) (ps : List Nat), gr[i]? = some ps → ∀ p ∈ ps, p < i
/-- the nodes that a part waits for -/
noncomputable def prs (p : List Int) : List Nat := (p.filter fun m => decide (m ≥ 100)).map fun m => (m - 100).toNat
theorem prs_back (p : List Int) : (prs p).map (fun q : Nat => 100 + (q : Int)) = p.filter fun m => decide (m ≥ 100) := by
  unfold prs
  rw [List.map_map]
  conv => rhs; rw [← List.map_id (p.filter fun m => decide (m ≥ 100))]
  refine List.map_congr_left fun m hm => ?_
  have := (List.mem_filter.mp hm).2
  simp at this
  simp; omega
theorem pushS_get (k : Int) (v : Vw) (p i : Nat) : (pushS k v p)[i]? = v[i]?.map fun x => (x.1, x.2.1, x.2.2 ++ if i = p then [k] else []) := by
  unfold pushS
  rw [List.getElem?_modify]
  by_cases h : p = i
  · subst h; simp
  · have h' : ¬ i = p := fun e => h e.symm
    simp [h, h']
theorem pushS_fold (k : Int) : ∀ (ps : List Nat), ps.Nodup → ∀ (v : Vw) (i : Nat), (ps.foldl (pushS k) v)[i]? = v[i]?.map fun x => (x.1, x.2.1, x.2.2 ++ if i ∈ ps then [k] else [])
  | [], _, v, i => by simp
  | p :: ps, hnd, v, i => by
    rw [List.nodup_cons] at hnd
    rw [List.foldl_cons, pushS_fold k ps hnd.2, pushS_get, Option.map_map]
    congr 1
    funext x
    simp only [Function.comp_apply, List.append_assoc, List.mem_cons]
    congr 3
    by_cases h1 : i = p
    · subst h1; simp [hnd.1]
    · simp [h1]
theorem addV_get {v : Vw} {ps : List Nat} (hnd : ps.Nodup) (i : Nat) : (addV v ps)[i]? = (v ++ [(100 + (v.length : Int), (ps.length : Int), [])])[i]?.map fun x => (x.1, x.2.1, x.2.2 ++ if i ∈ ps then [100 + (v.length : Int)] else []) := pushS_fold _ ps hnd _ i
theorem gV_take {gr : List (List Nat)} (H : Gr gr) : ∀ n, n ≤ gr.length → ∀ i, i < n → (gV (gr.take n))[i]? = some (100 + (i : Int), ((gr.getD i []).length : Int), ((List.range n).filter fun q => decide (i ∈ gr.getD q [])).map fun q : Nat => 100 + (q : Int)) := by
  intro n
  induction n with
  | zero => intro _ i hi; omega
  | succ n ih =>
    intro hn i hi
    obtain ⟨ps, hps⟩ : ∃ ps, gr[n]? = some ps := ⟨_, List.getElem?_eq_getElem (by omega)⟩
    have e : gV (gr.take (n + 1)) = addV (gV (gr.take n)) ps := by
      unfold gV
      rw [List.take_add_one, hps, List.foldl_append]; rfl
    have hl : (gV (gr.take n)).length = n := by rw [gV_length, List.length_take]; omega
    have hgd : gr.getD n [] = ps := by simp [hps]
    rw [e, addV_get (H.nd n ps hps), hl, List.range_succ, List.filter_append, List.map_append]
    have hlast : ([n].filter fun q => decide (i ∈ gr.getD q [])).map (fun q : Nat => 100 + (q : Int)) = if i ∈ ps then [100 + (n : Int)] else [] := by
      simp only [List.filter_cons, List.filter_nil, hgd, decide_eq_true_eq]
      split <;> rfl
    rw [hlast]
    by_cases hin : i < n
    · rw [List.getElem?_append_left (by omega), ih (by omega) i hin]; rfl
    · have hin' : i = n := by omega
      subst hin'
      have hno : ((List.range i).filter fun q => decide (i ∈ gr.getD q [])) = [] := by
        rw [List.filter_eq_nil_iff]
        intro q hq
        have hq' := List.mem_range.mp hq
        simp only [decide_eq_true_eq]
        intro hm
        have hqq : gr[q]? = some (gr.getD q []) := by rw [List.getElem?_eq_getElem (by omega)]; simp [show q < gr.length by omega]
        have := H.lt q _ hqq i hm
        omega
      rw [List.getElem?_append_right (by omega), hl, Nat.sub_self, hno, hgd]; rfl
theorem gV_get {gr : List (List Nat)} (H : Gr gr) (i : Nat) (hi : i < gr.length) : (gV gr)[i]? = some (100 + (i : Int), ((gr.getD i []).length : Int), (succN gr i).map fun q : Nat => 100 + (q : Int)) := by
  have := gV_take H gr.length (Nat.le_refl _) i hi
  rw [List.take_length] at this; exact this
theorem succN_mem {gr : List (List Nat)} {i q : Nat} : q ∈ succN gr i ↔ q < gr.length ∧ i ∈ gr.getD q [] := by simp [succN]
theorem succN_nodup (gr : List (List Nat)) (i : Nat) : (succN gr i).Nodup := List.nodup_range.filter _
theorem succN_lt {gr : List (List Nat)} (H : Gr gr) {i q : Nat} (h : q ∈ succN gr i) : i < q ∧ q < gr.length := by
  obtain ⟨h1, h2⟩ := succN_mem.mp h
  refine ⟨H.lt q (gr.getD q []) ?_ i h2, h1⟩
  rw [List.getElem?_eq_getElem h1]; simp [h1]
end Mine
namespace Mine
/-! ## the sorter's steps, plainly -/
noncomputable def und (gr : List (List Nat)) (D : List Nat) (i : Nat) : Nat := ((gr.getD i []).filter fun p => decide (p ∉ D)).length
noncomputable def npV (gr : List (List Nat)) (D O : List Nat) (i : Nat) : Int := if i ∈ D then -2 else if i ∈ O then -1 else (und gr D i : Int)
structure SI (gr : List (List Nat)) (v : Vw) (rs D O : List Nat) : Prop where
  len : v.length = gr.length
  view : ∀ i, i < gr.length → v[i]? = some (100 + (i : Int), npV gr D O i, (succN gr i).map fun q : Nat => 100 + (q : Int))
  rsnd : rs.Nodup
  rsm : ∀ i, i ∈ rs ↔ i < gr.length ∧ i ∉ D ∧ i ∉ O ∧ und gr D i = 0
  dO : ∀ i, i ∈ D ∨ i ∈ O → i < gr.length ∧ und gr D i = 0
  disj : ∀ i ∈ O, i ∉ D
  ond : O.Nodup
  dnd : D.Nodup
theorem modNp_get (v : Vw) (p i : Nat) (f : Int → Int) : (modNp v p f)[i]? = v[i]?.map fun x => (x.1, if i = p then f x.2.1 else x.2.1, x.2.2) := by
  unfold modNp
  rw [List.getElem?_modify]
  by_cases h : p = i
  · subst h; simp
  · have h' : ¬ i = p := fun e => h e.symm
    simp [h, h']
theorem modNp_length (v : Vw) (p : Nat) (f : Int → Int) : (modNp v p f).length = v.length := by simp [modNp]
theorem outV_length (rs : List Nat) : ∀ v : Vw, (outV v rs).length = v.length := by
  induction rs with
  | nil => intro v; rfl
  | cons r rs ih => intro v; show (outV (modNp v r fun _ => -1) rs).length = _; rw [ih, modNp_length]
theorem outV_get (rs : List Nat) : ∀ (v : Vw) (i : Nat), (outV v rs)[i]? = v[i]?.map fun x => (x.1, if i ∈ rs then -1 else x.2.1, x.2.2) := by
  induction rs with
  | nil => intro v i; simp [outV]
  | cons r rs ih =>
    intro v i
    show (outV (modNp v r fun _ => -1) rs)[i]? = _
    rw [ih, modNp_get, Option.map_map]
    congr 1
    funext x
    simp only [Function.comp_apply, List.mem_cons]
    by_cases h1 : i = r
    · simp [h1]
    · simp [h1]
theorem und_le {gr : List (List Nat)} {D : List Nat} {i : Nat} : und gr D i ≤ (gr.getD i []).length := List.length_filter_le _ _
theorem SI.init {gr : List (List Nat)} (H : Gr gr) {rs : List Nat} (hrs : rs = (List.range gr.length).filter fun i => decide ((gr.getD i []).length = 0)) : SI gr (gV gr) rs [] [] := by
  have hu : ∀ i, und gr [] i = (gr.getD i []).length := fun i => by simp [und]
  refine ⟨gV_length gr, fun i hi => ?_, ?_, fun i => ?_, fun i hi => ?_, fun i hi => ?_, List.nodup_nil, List.nodup_nil⟩
  · rw [gV_get H i hi]; simp [npV, hu]
  · rw [hrs]; exact List.nodup_range.filter _
  · rw [hrs, hu]; simp
  · simp at hi
  · simp at hi
theorem SI.out {gr : List (List Nat)} {v : Vw} {rs D O : List Nat} (H : SI gr v rs D O) : SI gr (outV v rs) [] D (rs ++ O) := by
  refine ⟨by rw [outV_length]; exact H.len, fun i hi => ?_, List.nodup_nil, fun i => ?_, fun i hi => ?_, fun i hi => ?_, ?_, H.dnd⟩
  · rw [outV_get, H.view i hi]
    simp only [Option.map_some, Option.some.injEq, Prod.mk.injEq, true_and, and_true]
    unfold npV
    by_cases h1 : i ∈ rs
    · have := (H.rsm i).mp h1
      simp [h1, this.2.1]
    · simp [h1]
  · constructor
    · intro h; simp at h
    · rintro ⟨h1, h2, h3, h4⟩
      rw [List.mem_append, not_or] at h3
      exact absurd ((H.rsm i).mpr ⟨h1, h2, h3.2, h4⟩) h3.1
  · rcases hi with hi | hi
    · exact H.dO i (.inl hi)
    · rcases List.mem_append.mp hi with hi | hi
      · have := (H.rsm i).mp hi; exact ⟨this.1, this.2.2.2⟩
      · exact H.dO i (.inr hi)
  · rcases List.mem_append.mp hi with hi | hi
    · exact ((H.rsm i).mp hi).2.1
    · exact H.disj i hi
  · refine List.nodup_append.mpr ⟨H.rsnd, H.ond, fun a ha b hb e => ?_⟩
    subst e
    exact ((H.rsm a).mp ha).2.2.1 hb
theorem npOf_get {v : Vw} {q : Nat} {x : Int × Int × List Int} (h : v[q]? = some x) : npOf v q = x.2.1 := by simp [npOf, h]
theorem stepD_fold : ∀ (qs : List Nat), qs.Nodup → ∀ (v : Vw) (rd : List Nat), (∀ q ∈ qs, q < v.length) →
    (qs.foldl stepD (v, rd)).1.length = v.length ∧ (∀ i, (qs.foldl stepD (v, rd)).1[i]? = v[i]?.map fun x => (x.1, if i ∈ qs then x.2.1 - 1 else x.2.1, x.2.2)) ∧ (qs.foldl stepD (v, rd)).2 = rd ++ qs.filter fun q => decide (npOf v q = 1)
  | [], _, v, rd, _ => by refine ⟨rfl, fun i => by simp, by simp⟩
  | q :: qs, hnd, v, rd, hlt => by
    rw [List.nodup_cons] at hnd
    have hq : q < v.length := hlt q (.head _)
    rw [List.foldl_cons]
    obtain ⟨h1, h2, h3⟩ := stepD_fold qs hnd.2 (modNp v q (· - 1)) (if npOf v q - 1 = 0 then rd ++ [q] else rd) (fun x hx => by rw [modNp_length]; exact hlt x (.tail _ hx))
    refine ⟨by rw [show stepD (v, rd) q = (modNp v q (· - 1), if npOf v q - 1 = 0 then rd ++ [q] else rd) from rfl, h1, modNp_length], fun i => ?_, ?_⟩
    · rw [show stepD (v, rd) q = (modNp v q (· - 1), if npOf v q - 1 = 0 then rd ++ [q] else rd) from rfl, h2, modNp_get, Option.map_map]
      congr 1
      funext x
      simp only [Function.comp_apply, List.mem_cons]
      by_cases e : i = q
      · subst e; simp [hnd.1]
      · simp [e]
    · rw [show stepD (v, rd) q = (modNp v q (· - 1), if npOf v q - 1 = 0 then rd ++ [q] else rd) from rfl, h3, List.filter_cons]
      have hsame : qs.filter (fun x => decide (npOf (modNp v q (· - 1)) x = 1)) = qs.filter fun x => decide (npOf v x = 1) := by
        refine List.filter_congr fun x hx => ?_
        have hx' : x < v.length := hlt x (.tail _ hx)
        have hne : ¬ x = q := fun e => hnd.1 (e ▸ hx)
        have e1 : v[x]? = some v[x] := List.getElem?_eq_getElem hx'
        have e2 : (modNp v q (· - 1))[x]? = some v[x] := by rw [modNp_get, e1]; simp [hne]
        rw [npOf_get e1, npOf_get e2]
      rw [hsame]
      by_cases e : npOf v q = 1
      · have : npOf v q - 1 = 0 := by omega
        simp [this, e]
      · have : ¬ npOf v q - 1 = 0 := by omega
        simp [this, e]
theorem und_cons {gr : List (List Nat)} (H : Gr gr) {D : List Nat} {r i : Nat} (hi : i < gr.length) (hr : r ∉ D) : und gr D i = und gr (r :: D) i + (if r ∈ gr.getD i [] then 1 else 0) := by
  unfold und
  have hnd := H.nd i (gr.getD i []) (by rw [List.getElem?_eq_getElem hi]; simp [hi])
  revert hnd
  generalize gr.getD i [] = ps
  intro hnd
  induction ps with
  | nil => rfl
  | cons p ps ih =>
    rw [List.nodup_cons] at hnd
    have ih' := ih hnd.2
    by_cases e : p = r
    · subst e
      have h1 : (List.filter (fun q => decide (q ∉ p :: D)) ps).length = (List.filter (fun q => decide (q ∉ D)) ps).length := by
        rw [ih']; simp [hnd.1]
      simp only [List.filter_cons, hr, not_false_eq_true, decide_true, if_true, List.length_cons, List.mem_cons, true_or, not_true_eq_false, decide_false, Bool.false_eq_true, if_false]
      have h2 : (List.filter (fun q => decide ¬(q = p ∨ q ∈ D)) ps) = List.filter (fun q => decide (q ∉ p :: D)) ps := List.filter_congr fun x _ => by simp
      rw [h2, h1]
    · have e' : ¬ r = p := fun h => e h.symm
      have hm : (r ∈ p :: ps) = (r ∈ ps) := by simp [e']
      simp only [hm]
      by_cases hp : p ∈ D
      · simp only [List.filter_cons, hp, not_true_eq_false, decide_false, Bool.false_eq_true, if_false, List.mem_cons, or_true]
        have h2 : (List.filter (fun q => decide ¬(q = r ∨ q ∈ D)) ps) = List.filter (fun q => decide (q ∉ r :: D)) ps := List.filter_congr fun x _ => by simp
        rw [h2]; exact ih'
      · simp only [List.filter_cons, hp, not_false_eq_true, decide_true, if_true, List.length_cons, List.mem_cons, e, or_self]
        have h2 : (List.filter (fun q => decide ¬(q = r ∨ q ∈ D)) ps) = List.filter (fun q => decide (q ∉ r :: D)) ps := List.filter_congr fun x _ => by simp
        rw [h2, ih']; omega
theorem SI.done {gr : List (List Nat)} {v : Vw} {rs D O : List Nat} {r : Nat} (hg : Gr gr) (H : SI gr v rs D O) (hr : r ∈ O) : SI gr (doneV v rs r (succN gr r)).1 (doneV v rs r (succN gr r)).2 (r :: D) (O.erase r) := by
  have hrl := (H.dO r (.inr hr)).1
  have hrD := H.disj r hr
  obtain ⟨h1, h2, h3⟩ := stepD_fold (succN gr r) (succN_nodup gr r) (modNp v r fun _ => -2) rs (fun q hq => by rw [modNp_length, H.len]; exact (succN_mem.mp hq).1)
  have hwait : ∀ q, q ∈ succN gr r → q ∉ D ∧ q ∉ O ∧ q ≠ r ∧ q ∉ rs := fun q hq => by
    obtain ⟨hql, hqr⟩ := succN_mem.mp hq
    have hu := und_cons hg (D := D) hql hrD
    rw [if_pos hqr] at hu
    have hlt := (succN_lt hg hq).1
    refine ⟨fun h => ?_, fun h => ?_, by omega, fun h => ?_⟩
    · have := (H.dO q (.inl h)).2; omega
    · have := (H.dO q (.inr h)).2; omega
    · have := ((H.rsm q).mp h).2.2.2; omega
  have hgood : ∀ i, und gr D i = 0 → und gr (r :: D) i = 0 := fun i h => by
    by_cases hi : i < gr.length
    · have := und_cons hg (D := D) hi hrD; omega
    · simp [und, hi]
  have hnp : ∀ q, q ∈ succN gr r → npOf (modNp v r fun _ => -2) q = (und gr D q : Int) := fun q hq => by
    obtain ⟨w1, w2, w3, _⟩ := hwait q hq
    have e : (modNp v r fun _ => -2)[q]? = some (100 + (q : Int), npV gr D O q, (succN gr q).map fun q : Nat => 100 + (q : Int)) := by
      rw [modNp_get, H.view q (succN_mem.mp hq).1]; simp [w3]
    rw [npOf_get e]; simp [npV, w1, w2]
  refine ⟨?_, fun i hi => ?_, ?_, fun i => ?_, fun i hi => ?_, fun i hi => ?_, H.ond.erase r, List.nodup_cons.mpr ⟨hrD, H.dnd⟩⟩
  · show ((succN gr r).foldl stepD (modNp v r (fun _ => -2), rs)).1.length = _
    rw [h1, modNp_length]; exact H.len
  · show ((succN gr r).foldl stepD (modNp v r (fun _ => -2), rs)).1[i]? = _
    rw [h2, modNp_get, H.view i hi]
    simp only [Option.map_some, Option.some.injEq, Prod.mk.injEq, true_and, and_true]
    by_cases hir : i = r
    · subst hir
      have hns : i ∉ succN gr i := fun h => absurd (succN_lt hg h).1 (Nat.lt_irrefl _)
      simp [hns, npV]
    · by_cases his : i ∈ succN gr r
      · obtain ⟨w1, w2, _, _⟩ := hwait i his
        have w2' : i ∉ O.erase r := fun h => w2 (List.mem_of_mem_erase h)
        have hu := und_cons hg (D := D) hi hrD
        rw [if_pos (succN_mem.mp his).2] at hu
        have e1 : npV gr D O i = (und gr D i : Int) := by simp [npV, w1, w2]
        have e2 : npV gr (r :: D) (O.erase r) i = (und gr (r :: D) i : Int) := by simp [npV, hir, w1, w2']
        rw [if_pos his, if_neg hir, e1, e2]
        omega
      · have hu := und_cons hg (D := D) hi hrD
        rw [if_neg (fun h => his (succN_mem.mpr ⟨hi, h⟩))] at hu
        have hO : (i ∈ O.erase r) = (i ∈ O) := by rw [List.Nodup.mem_erase_iff H.ond]; simp [hir]
        simp only [if_neg his, if_neg hir, npV, List.mem_cons, hir, false_or, hO]
        rw [hu]; simp
  · show ((succN gr r).foldl stepD (modNp v r (fun _ => -2), rs)).2.Nodup
    rw [h3]
    refine List.nodup_append.mpr ⟨H.rsnd, (succN_nodup gr r).filter _, fun a ha b hb e => ?_⟩
    subst e
    exact (hwait a (List.mem_filter.mp hb).1).2.2.2 ha
  · show i ∈ ((succN gr r).foldl stepD (modNp v r (fun _ => -2), rs)).2 ↔ _
    rw [h3, List.mem_append, List.mem_filter, H.rsm]
    simp only [decide_eq_true_eq]
    constructor
    · rintro (⟨a1, a2, a3, a4⟩ | ⟨a1, a2⟩)
      · refine ⟨a1, ?_, fun h => a3 (List.mem_of_mem_erase h), hgood i a4⟩
        rw [List.mem_cons, not_or]
        exact ⟨fun e => a3 (e ▸ hr), a2⟩
      · obtain ⟨w1, w2, w3, _⟩ := hwait i a1
        rw [hnp i a1] at a2
        obtain ⟨hil, hir⟩ := succN_mem.mp a1
        have hu := und_cons hg (D := D) hil hrD
        rw [if_pos hir] at hu
        exact ⟨hil, by rw [List.mem_cons, not_or]; exact ⟨w3, w1⟩, fun h => w2 (List.mem_of_mem_erase h), by omega⟩
    · rintro ⟨a1, a2, a3, a4⟩
      rw [List.mem_cons, not_or] at a2
      have hO : i ∉ O := fun h => a3 ((List.Nodup.mem_erase_iff H.ond).mpr ⟨a2.1, h⟩)
      have hu := und_cons hg (D := D) a1 hrD
      by_cases his : r ∈ gr.getD i []
      · right
        have hm := succN_mem.mpr ⟨a1, his⟩
        refine ⟨hm, ?_⟩
        rw [hnp i hm, hu, if_pos his, a4]; rfl
      · left
        rw [if_neg his] at hu
        exact ⟨a1, a2.2, hO, by omega⟩
  · rcases hi with hi | hi
    · rcases List.mem_cons.mp hi with rfl | hi
      · exact ⟨hrl, hgood _ (H.dO _ (.inr hr)).2⟩
      · exact ⟨(H.dO i (.inl hi)).1, hgood i (H.dO i (.inl hi)).2⟩
    · have := List.mem_of_mem_erase hi
      exact ⟨(H.dO i (.inr this)).1, hgood i (H.dO i (.inr this)).2⟩
  · have := (List.Nodup.mem_erase_iff H.ond).mp hi
    rw [List.mem_cons, not_or]
    exact ⟨this.1, H.disj i this.2⟩
end Mine
namespace Mine
/-! ## rows and escapes, plainly -/
noncomputable abbrev Sg := Int × Nat
noncomputable def stnd (a b c : Sg) : Bool := a.2 == 61 && isD b.2 && isD c.2
noncomputable def val (b c : Sg) : Nat := hexV b.2 * 16 + hexV c.2
theorem stnd_iff {a b c : Sg} : stnd a b c = true ↔ a.2 = 61 ∧ isD b.2 = true ∧ isD c.2 = true := by simp [stnd, and_assoc]
theorem isD_ne {c : Nat} (h : isD c = true) : c ≠ 61 ∧ c ≠ 46 := by
  rcases isD_cases h with rfl | rfl | rfl | rfl <;> decide
inductive Steps (ps : List (List Int)) : Row → Row → List Nat → Prop
  | nil {row : Row} : Steps ps row row []
  | cons {u v fin : Row} {a b c : Sg} {n : Nat} {ns : List Nat} : stnd a b c = true → ps[n]? = some [a.1, b.1, c.1] → Steps ps (u ++ (100 + (n : Int), val b c) :: v) fin ns → Steps ps (u ++ a :: b :: c :: v) fin (n :: ns)
noncomputable def Irr (row : Row) : Prop := ∀ u a b c v, row = u ++ a :: b :: c :: v → stnd a b c = false
theorem two_triples {u v u' v' : Row} {a b c a' b' c' : Sg} (h : u ++ a :: b :: c :: v = u' ++ a' :: b' :: c' :: v') (s : stnd a b c = true) (s' : stnd a' b' c' = true) :
    (u = u' ∧ a = a' ∧ b = b' ∧ c = c' ∧ v = v') ∨ (∃ w, u' = u ++ a :: b :: c :: w ∧ v = w ++ a' :: b' :: c' :: v') ∨ (∃ w, u = u' ++ a' :: b' :: c' :: w ∧ v' = w ++ a :: b :: c :: v) := by
  have aux : ∀ {u v u' v' : Row} {a b c a' b' c' : Sg}, stnd a b c = true → stnd a' b' c' = true → ∀ w, u' = u ++ w → a :: b :: c :: v = w ++ a' :: b' :: c' :: v' → (u = u' ∧ a = a' ∧ b = b' ∧ c = c' ∧ v = v') ∨ (∃ w, u' = u ++ a :: b :: c :: w ∧ v = w ++ a' :: b' :: c' :: v') := by
    intro u v u' v' a b c a' b' c' s s' w e1 e2
    rw [stnd_iff] at s s'
    match w, e1, e2 with
    | [], e1, e2 =>
      simp at e1 e2
      exact .inl ⟨e1.symm, e2⟩
    | [x], e1, e2 =>
      simp at e2
      have := (isD_ne s.2.1).1
      rw [e2.2.1] at this
      exact absurd s'.1 this
    | [x, y], e1, e2 =>
      simp at e2
      have := (isD_ne s.2.2).1
      rw [e2.2.2.1] at this
      exact absurd s'.1 this
    | x :: y :: zz :: w, e1, e2 =>
      simp at e2
      obtain ⟨rfl, rfl, rfl, rfl⟩ := e2
      exact .inr ⟨w, e1, rfl⟩
  rcases List.append_eq_append_iff.mp h with ⟨w, e1, e2⟩ | ⟨w, e1, e2⟩
  · rcases aux s s' w e1 e2 with h | h
    · exact .inl h
    · exact .inr (.inl h)
  · rcases aux s' s w e1 e2 with ⟨h1, h2, h3, h4, h5⟩ | h
    · exact .inl ⟨h1.symm, h2.symm, h3.symm, h4.symm, h5.symm⟩
    · exact .inr (.inr h)
/-- a standing triple is read by some step, and may be read first -/
theorem key1 {ps : List (List Int)} {row fin : Row} {ns : List Nat} (H : Steps ps row fin ns) (hi : Irr fin) (hnd : ns.Nodup) : ∀ {u a b c v}, row = u ++ a :: b :: c :: v → stnd a b c = true →
    ∃ n ∈ ns, ps[n]? = some [a.1, b.1, c.1] ∧ Steps ps (u ++ (100 + (n : Int), val b c) :: v) fin (ns.erase n) := by
  induction H with
  | nil => intro u a b c v e s; rw [hi u a b c v e] at s; cases s
  | @cons u₀ v₀ fin a₀ b₀ c₀ n₀ ns s₀ h₀ H ih =>
    intro u a b c v e s
    rw [List.nodup_cons] at hnd
    rcases two_triples e s₀ s with ⟨rfl, rfl, rfl, rfl, rfl⟩ | ⟨w, rfl, rfl⟩ | ⟨w, rfl, rfl⟩
    · exact ⟨n₀, .head _, h₀, by simpa using H⟩
    · obtain ⟨n, hn, hp, H'⟩ := ih hi hnd.2 (u := u₀ ++ (100 + (n₀ : Int), val b₀ c₀) :: w) (a := a) (b := b) (c := c) (v := v) (by simp) s
      refine ⟨n, .tail _ hn, hp, ?_⟩
      have hne : ¬ n₀ = n := fun e => hnd.1 (e ▸ hn)
      rw [List.erase_cons_tail (by simpa using hne)]
      have := Steps.cons (ps := ps) (u := u₀) (v := w ++ (100 + (n : Int), val b c) :: v) s₀ h₀ (by simpa using H')
      simpa using this
    · obtain ⟨n, hn, hp, H'⟩ := ih hi hnd.2 (u := u) (a := a) (b := b) (c := c) (v := w ++ (100 + (n₀ : Int), val b₀ c₀) :: v₀) (by simp) s
      refine ⟨n, .tail _ hn, hp, ?_⟩
      have hne : ¬ n₀ = n := fun e => hnd.1 (e ▸ hn)
      rw [List.erase_cons_tail (by simpa using hne)]
      have := Steps.cons (ps := ps) (u := u ++ (100 + (n : Int), val b c) :: w) (v := v₀) s₀ h₀ (by simpa using H')
      simpa using this
theorem triple_past {u v u' v' : Row} {a b c x : Sg} (h : u' ++ a :: b :: c :: v' = u ++ x :: v) (h1 : a ≠ x) (h2 : b ≠ x) (h3 : c ≠ x) :
    (∃ w, u = u' ++ a :: b :: c :: w ∧ v' = w ++ x :: v) ∨ (∃ w, u' = u ++ x :: w ∧ v = w ++ a :: b :: c :: v') := by
  rcases List.append_eq_append_iff.mp h with ⟨w, e1, e2⟩ | ⟨w, e1, e2⟩
  · match w, e1, e2 with
    | [], e1, e2 => simp at e2; exact absurd e2.1 h1
    | [y], e1, e2 => simp at e2; exact absurd e2.2.1 h2
    | [y, y'], e1, e2 => simp at e2; exact absurd e2.2.2.1 h3
    | y :: y' :: y'' :: w, e1, e2 =>
      simp at e2
      obtain ⟨rfl, rfl, rfl, rfl⟩ := e2
      exact .inl ⟨w, e1, rfl⟩
  · match w, e1, e2 with
    | [], e1, e2 => simp at e2; exact absurd e2.1.symm h1
    | y :: w, e1, e2 =>
      simp at e2
      obtain ⟨rfl, rfl⟩ := e2
      exact .inr ⟨w, e1, rfl⟩
/-- a node whose parts are made stands in the row -/
theorem key2 {ps : List (List Int)} {row fin : Row} {ns : List Nat} (H : Steps ps row fin ns) {n : Nat} {p : List Int} (hp : ps[n]? = some p) : n ∈ ns → (∀ m ∈ ns, 100 + (m : Int) ∉ p) → ∃ u a b c v, row = u ++ a :: b :: c :: v ∧ stnd a b c = true ∧ p = [a.1, b.1, c.1] := by
  induction H with
  | nil => intro h _; cases h
  | @cons u₀ v₀ fin a₀ b₀ c₀ n₀ ns s₀ h₀ H ih =>
    intro hn hr
    rcases List.mem_cons.mp hn with rfl | hn
    · rw [hp] at h₀; cases h₀
      exact ⟨u₀, a₀, b₀, c₀, v₀, rfl, s₀, rfl⟩
    · obtain ⟨u, a, b, c, v, e, s, rfl⟩ := ih hn fun m hm => hr m (.tail _ hm)
      have h0 := hr n₀ (.head _)
      simp only [List.mem_cons, List.not_mem_nil, or_false, not_or] at h0
      have hne : ∀ y : Sg, ¬ 100 + (n₀ : Int) = y.1 → y ≠ (100 + (n₀ : Int), val b₀ c₀) := fun y hy e => hy (by rw [e])
      rcases triple_past e.symm (hne a h0.1) (hne b h0.2.1) (hne c h0.2.2) with ⟨w, rfl, rfl⟩ | ⟨w, rfl, rfl⟩
      · exact ⟨u, a, b, c, w ++ a₀ :: b₀ :: c₀ :: v₀, by simp, s, rfl⟩
      · exact ⟨u₀ ++ a₀ :: b₀ :: c₀ :: w, a, b, c, v, by simp, s, rfl⟩

/-- what holds of a row -/
structure RowI (ps : List (List Int)) (row : Row) (ns : List Nat) : Prop where
  nd : ns.Nodup
  mks : (row.map (·.1)).Nodup
  lo : ∀ x ∈ row, x.1 < 100 ∨ ∃ n : Nat, x.1 = 100 + (n : Int) ∧ n ∉ ns ∧ n < ps.length
  ok : ∀ x ∈ row, okc x.2 = true
  dot : ∃ r m, row = r ++ [(m, 46)]
  len : row.length < 100
  lt : ∀ n ∈ ns, n < ps.length
theorem RowI.fresh {ps : List (List Int)} {row : Row} {ns : List Nat} (H : RowI ps row ns) {n : Nat} (hn : n ∈ ns) : 100 + (n : Int) ∉ row.map (·.1) := fun h => by
  obtain ⟨x, hx, e⟩ := List.mem_map.mp h
  rcases H.lo x hx with h1 | ⟨m, h1, h2, _⟩
  · omega
  · have : m = n := by omega
    subst this; exact h2 hn
theorem RowI.step {ps : List (List Int)} {u v : Row} {a b c : Sg} {ns : List Nat} {n : Nat} (H : RowI ps (u ++ a :: b :: c :: v) ns) (hn : n ∈ ns) (s : stnd a b c = true) : RowI ps (u ++ (100 + (n : Int), val b c) :: v) (ns.erase n) := by
  have hfr := H.fresh hn
  rw [stnd_iff] at s
  refine ⟨H.nd.erase n, ?_, fun x hx => ?_, fun x hx => ?_, ?_, ?_, fun m hm => H.lt m (List.mem_of_mem_erase hm)⟩
  · have h1 := H.mks
    rw [List.map_append, List.map_cons, List.map_cons, List.map_cons] at h1
    rw [List.map_append, List.map_cons] at hfr ⊢
    rw [List.nodup_append] at h1 ⊢
    obtain ⟨h1, h2, h3⟩ := h1
    rw [List.nodup_cons, List.nodup_cons, List.nodup_cons] at h2
    simp only [List.map_cons, List.mem_append, List.mem_cons, not_or] at hfr
    refine ⟨h1, List.nodup_cons.mpr ⟨hfr.2.2.2.2, h2.2.2.2⟩, fun x hx y hy e => ?_⟩
    rcases List.mem_cons.mp hy with rfl | hy
    · subst e; exact hfr.1 hx
    · exact h3 x hx y (.tail _ (.tail _ (.tail _ hy))) e
  · have : x ∈ u ++ a :: b :: c :: v ∨ x = (100 + (n : Int), val b c) := by
      rcases List.mem_append.mp hx with h | h
      · exact .inl (List.mem_append_left _ h)
      · rcases List.mem_cons.mp h with h | h
        · exact .inr h
        · exact .inl (List.mem_append_right _ (.tail _ (.tail _ (.tail _ h))))
    rcases this with h | rfl
    · rcases H.lo x h with h1 | ⟨m, h1, h2, h3⟩
      · exact .inl h1
      · exact .inr ⟨m, h1, fun h => h2 (List.mem_of_mem_erase h), h3⟩
    · exact .inr ⟨n, rfl, fun h => ((List.Nodup.mem_erase_iff H.nd).mp h).1 rfl, H.lt n hn⟩
  · rcases List.mem_append.mp hx with h | h
    · exact H.ok x (List.mem_append_left _ h)
    · rcases List.mem_cons.mp h with rfl | h
      · exact okc_made s.2.1 s.2.2
      · exact H.ok x (List.mem_append_right _ (.tail _ (.tail _ (.tail _ h))))
  · obtain ⟨r, m, e⟩ := H.dot
    have hv : v ≠ [] := by
      rintro rfl
      have e2 : (u ++ [a, b, c]).getLast? = (r ++ [(m, 46)]).getLast? := by rw [e]
      simp at e2
      have := (isD_ne s.2.2).2
      rw [e2] at this
      exact this rfl
    obtain ⟨v', y, rfl⟩ : ∃ v' y, v = v' ++ [y] := ⟨v.dropLast, v.getLast hv, (List.dropLast_concat_getLast hv).symm⟩
    have e2 : (u ++ a :: b :: c :: (v' ++ [y])).getLast? = (r ++ [(m, 46)]).getLast? := by rw [e]
    have e3 : y = (m, 46) := by
      have h1 : u ++ a :: b :: c :: (v' ++ [y]) = (u ++ a :: b :: c :: v') ++ [y] := by simp
      rw [h1, List.getLast?_concat, List.getLast?_concat] at e2
      exact Option.some.inj e2
    exact ⟨u ++ (100 + (n : Int), val b c) :: v', m, by rw [e3]; simp⟩
  · have := H.len
    simp at this ⊢; omega
/-- the row, and what is left to read -/
structure Run (ps : List (List Int)) (fin row : Row) (ns : List Nat) : Prop where
  st : Steps ps row fin ns
  irr : Irr fin
  ri : RowI ps row ns
theorem marks_in {ps : List (List Int)} {row fin : Row} {ns : List Nat} (H : Steps ps row fin ns) : RowI ps row ns → ∀ n ∈ ns, ∀ p, ps[n]? = some p → p.length = 3 ∧ p.Nodup ∧ ∀ m ∈ p, m ∈ row.map (·.1) ∨ ∃ k ∈ ns, m = 100 + (k : Int) := by
  induction H with
  | nil => intro _ n hn; cases hn
  | @cons u v fin a b c n₀ ns s₀ h₀ H ih =>
    intro R n hn p hp
    rcases List.mem_cons.mp hn with rfl | hn'
    · rw [h₀] at hp; cases hp
      refine ⟨rfl, ?_, fun m hm => .inl ?_⟩
      · have h1 := R.mks
        rw [List.map_append, List.map_cons, List.map_cons, List.map_cons, List.nodup_append] at h1
        have h2 := h1.2.1
        have : List.Sublist [a.1, b.1, c.1] (a.1 :: b.1 :: c.1 :: v.map (·.1)) := List.Sublist.cons_cons _ (List.Sublist.cons_cons _ (List.Sublist.cons_cons _ (List.nil_sublist _)))
        exact this.nodup h2
      · simp at hm ⊢
        rcases hm with rfl | rfl | rfl <;> simp
    · have R' := R.step (.head _) s₀
      have hnn := (List.nodup_cons.mp R.nd).1
      rw [List.erase_cons_head] at R'
      obtain ⟨h1, h2, h3⟩ := ih R' n hn' p hp
      refine ⟨h1, h2, fun m hm => ?_⟩
      rcases h3 m hm with h | ⟨k, hk, e⟩
      · rw [List.map_append, List.map_cons] at h
        rcases List.mem_append.mp h with h | h
        · exact .inl (by rw [List.map_append]; exact List.mem_append_left _ h)
        · rcases List.mem_cons.mp h with h | h
          · exact .inr ⟨n₀, .head _, h⟩
          · refine .inl ?_
            rw [List.map_append]
            exact List.mem_append_right _ (.tail _ (.tail _ (.tail _ h)))
      · exact .inr ⟨k, .tail _ hk, e⟩
/-- no mark is in the parts of two nodes -/
theorem apart {ps : List (List Int)} {row fin : Row} {ns : List Nat} (H : Steps ps row fin ns) : RowI ps row ns → ∀ n ∈ ns, ∀ n' ∈ ns, ∀ p p', ps[n]? = some p → ps[n']? = some p' → ∀ m, m ∈ p → m ∈ p' → n = n' := by
  induction H with
  | nil => intro _ n hn; cases hn
  | @cons u v fin a b c n₀ ns s₀ h₀ H ih =>
    intro R
    have R' := R.step (.head _) s₀
    rw [List.erase_cons_head] at R'
    have head : ∀ n' ∈ ns, ∀ p', ps[n']? = some p' → ∀ m, m ∈ [a.1, b.1, c.1] → m ∉ p' := fun n' hn' p' hp' m hm hm' => by
      have hmr : m ∈ (u ++ a :: b :: c :: v).map (·.1) := by
        simp at hm ⊢
        rcases hm with rfl | rfl | rfl <;> simp
      rcases (marks_in H R' n' hn' p' hp').2.2 m hm' with h | ⟨k, hk, e⟩
      · have hm0 : m ≠ 100 + (n₀ : Int) := fun e => R.fresh (.head _) (e ▸ hmr)
        have h1 := R.mks
        rw [List.map_append, List.map_cons, List.map_cons, List.map_cons, List.nodup_append, List.nodup_cons, List.nodup_cons, List.nodup_cons] at h1
        obtain ⟨_, ⟨k1, k2, k3, _⟩, k4⟩ := h1
        rw [List.map_append, List.map_cons] at h
        rcases List.mem_append.mp h with h | h
        · refine k4 m h m ?_ rfl
          simp at hm ⊢
          rcases hm with rfl | rfl | rfl <;> simp
        · rcases List.mem_cons.mp h with h | h
          · exact hm0 h
          · simp at hm
            rcases hm with rfl | rfl | rfl
            · exact k1 (.tail _ (.tail _ h))
            · exact k2 (.tail _ h)
            · exact k3 h
      · exact R.fresh (.tail _ hk) (e ▸ hmr)
    intro n hn n' hn' p p' hp hp' m hm hm'
    rcases List.mem_cons.mp hn with rfl | hn1 <;> rcases List.mem_cons.mp hn' with rfl | hn1'
    · rfl
    · rw [h₀] at hp; cases hp
      exact absurd hm' (head n' hn1' p' hp' m hm)
    · rw [h₀] at hp'; cases hp'
      exact absurd hm (head n hn1 p hp m hm')
    · exact ih R' n hn1 n' hn1' p p' hp hp' m hm hm'
end Mine
namespace Mine
/-! ## all escapes of a row at once -/
inductive Par (ps : List (List Int)) : Row → Row → List Nat → Prop
  | nil : Par ps [] [] []
  | skip {x : Sg} {r r' : Row} {G : List Nat} : Par ps r r' G → Par ps (x :: r) (x :: r') G
  | take {a b c : Sg} {n : Nat} {r r' : Row} {G : List Nat} : stnd a b c = true → ps[n]? = some [a.1, b.1, c.1] → Par ps r r' G → Par ps (a :: b :: c :: r) ((100 + (n : Int), val b c) :: r') (n :: G)
theorem Par.done {ps : List (List Int)} {row row' : Row} (H : Par ps row row' []) : row = row' := by
  generalize hG : ([] : List Nat) = G at H
  induction H with
  | nil => rfl
  | skip _ ih => rw [ih hG]
  | take => cases hG
theorem Par.read {ps : List (List Int)} {row row' : Row} {G : List Nat} (H : Par ps row row' G) {n : Nat} : n ∈ G → ∃ u a b c v, row = u ++ a :: b :: c :: v ∧ stnd a b c = true ∧ ps[n]? = some [a.1, b.1, c.1] ∧ Par ps (u ++ (100 + (n : Int), val b c) :: v) row' (G.erase n) := by
  induction H with
  | nil => intro h; cases h
  | @skip x r r' G _ ih =>
    intro h
    obtain ⟨u, a, b, c, v, e, s, hp, H'⟩ := ih h
    exact ⟨x :: u, a, b, c, v, by rw [e]; rfl, s, hp, .skip H'⟩
  | @take a b c n₀ r r' G s hp H ih =>
    intro h
    by_cases e : n₀ = n
    · subst e
      exact ⟨[], a, b, c, r, rfl, s, hp, by rw [List.erase_cons_head]; exact .skip H⟩
    · rcases List.mem_cons.mp h with h | h
      · exact absurd h.symm e
      · obtain ⟨u, a', b', c', v, e', s', hp', H'⟩ := ih h
        refine ⟨a :: b :: c :: u, a', b', c', v, by rw [e']; rfl, s', hp', ?_⟩
        rw [List.erase_cons_tail (by simpa using e)]
        exact .take s hp H'
/-- the first marks of the escapes that stand, from the left -/
noncomputable def foundF : Row → List Int
  | a :: b :: c :: r => if stnd a b c then a.1 :: foundF (b :: c :: r) else foundF (b :: c :: r)
  | _ => []
theorem decF_row {a b c : Sg} {r : Row} (s : stnd a b c = true) : decF (textOf (a :: b :: c :: r)) = val b c :: decF (textOf r) := by
  rw [stnd_iff] at s
  show decF (a.2 :: b.2 :: c.2 :: textOf r) = _
  rw [s.1, decF_esc s.2.1 s.2.2]; rfl
theorem decF_skip {a b c : Sg} {r : Row} (s : stnd a b c = false) : decF (textOf (a :: b :: c :: r)) = a.2 :: decF (textOf (b :: c :: r)) := by
  show decF (a.2 :: b.2 :: c.2 :: textOf r) = _
  by_cases h : a.2 = 61
  · rw [h, decF_other]
    · rfl
    · intro b' c' r' e
      simp at e
      simp only [stnd, h] at s
      rw [← e.1, ← e.2.1]; simpa using s
  · rw [decF_ne h]; rfl
theorem foundF_skip {a b c : Sg} {r : Row} (s : stnd a b c = true) : foundF (b :: c :: r) = foundF r := by
  rw [stnd_iff] at s
  have hb := (isD_ne s.2.1).1
  have hc := (isD_ne s.2.2).1
  match r with
  | [] => rfl
  | [x] =>
    have : stnd b c x = false := by simp [stnd, hb]
    simp [foundF, this]
  | x :: y :: r =>
    have h1 : stnd b c x = false := by simp [stnd, hb]
    have h2 : stnd c x y = false := by simp [stnd, hc]
    simp [foundF, h1, h2]
noncomputable def headM (ps : List (List Int)) (n : Nat) : Int := (ps.getD n []).getD 0 0
/-- of a row's end -/
theorem par_of {ps : List (List Int)} {fin row : Row} {ns : List Nat} (R : Run ps fin row ns) : ∀ (k : Nat) (pre r : Row), r.length ≤ k → row = pre ++ r →
    ∃ r' G, Par ps r r' G ∧ textOf r' = decF (textOf r) ∧ foundF r = G.map (headM ps) ∧ G.Nodup ∧ (∀ n ∈ G, n ∈ ns ∧ ∃ u a b c v, r = u ++ a :: b :: c :: v ∧ stnd a b c = true ∧ ps[n]? = some [a.1, b.1, c.1]) ∧
      (∀ n ∈ ns, ∀ u a b c v, r = u ++ a :: b :: c :: v → stnd a b c = true → ps[n]? = some [a.1, b.1, c.1] → n ∈ G) := by
  intro k
  induction k with
  | zero =>
    intro pre r hk e
    have : r = [] := List.eq_nil_of_length_eq_zero (by omega)
    subst this
    exact ⟨[], [], .nil, rfl, rfl, List.nodup_nil, fun n h => (by cases h), fun n _ u a b c v e => by simp at e⟩
  | succ k ih =>
    intro pre r hk e
    match r, hk, e with
    | [], _, e => exact ⟨[], [], .nil, rfl, rfl, List.nodup_nil, fun n h => (by cases h), fun n _ u a b c v e => by simp at e⟩
    | [x], _, e => exact ⟨[x], [], .skip .nil, by
        show [x.2] = decF [x.2]
        by_cases h : x.2 = 61
        · rw [h]; rfl
        · rw [decF_ne h]; rfl, rfl, List.nodup_nil, fun n h => (by cases h), fun n _ u a b c v e => by
          have := congrArg List.length e; simp at this; omega⟩
    | [x, y], _, e => exact ⟨[x, y], [], .skip (.skip .nil), by
        have h1 : decF [y.2] = [y.2] := by
          by_cases h : y.2 = 61
          · rw [h]; rfl
          · rw [decF_ne h]; rfl
        show [x.2, y.2] = decF [x.2, y.2]
        by_cases h : x.2 = 61
        · rw [h, decF_other (fun b c r' e => by simp at e), h1]
        · rw [decF_ne h, h1], rfl, List.nodup_nil, fun n h => (by cases h), fun n _ u a b c v e => by
          have := congrArg List.length e; simp at this; omega⟩
    | a :: b :: c :: r, hk, e =>
      simp at hk
      by_cases s : stnd a b c = true
      · obtain ⟨r', G, hP, ht, hf, hnd, hG, hG'⟩ := ih (pre ++ [a, b, c]) r (by omega) (by rw [e]; simp)
        obtain ⟨n, hn, hp, _⟩ := key1 R.st R.irr R.ri.nd e s
        refine ⟨_, n :: G, .take s hp hP, ?_, ?_, ?_, ?_, ?_⟩
        · rw [decF_row s, ← ht]; rfl
        · rw [foundF, if_pos s, foundF_skip s, hf, List.map_cons]
          congr 1
          simp [headM, hp]
        · refine List.nodup_cons.mpr ⟨fun h => ?_, hnd⟩
          obtain ⟨_, u, a', b', c', v, e', s', hp'⟩ := hG n h
          rw [hp] at hp'
          have hm := R.ri.mks
          rw [e, e'] at hm
          simp only [List.map_append, List.map_cons] at hm
          have h2 := (List.nodup_append.mp hm).2.1
          rw [List.nodup_cons] at h2
          have : a.1 = a'.1 := by simp at hp'; exact hp'.1
          exact h2.1 (by rw [this]; simp)
        · intro m hm
          rcases List.mem_cons.mp hm with rfl | hm
          · exact ⟨hn, [], a, b, c, r, rfl, s, hp⟩
          · obtain ⟨h1, u, a', b', c', v, e', s', hp'⟩ := hG m hm
            exact ⟨h1, a :: b :: c :: u, a', b', c', v, by rw [e']; rfl, s', hp'⟩
        · intro m hm u a' b' c' v e' s' hp'
          rcases two_triples (u := []) e' s s' with ⟨_, rfl, rfl, rfl, _⟩ | ⟨w, _, e2⟩ | ⟨w, e2, _⟩
          · have := apart R.st R.ri n hn m hm _ _ hp hp' a.1 (by simp) (by simp)
            rw [this]; exact .head _
          · exact .tail _ (hG' m hm w a' b' c' v e2 s' hp')
          · simp at e2
      · have s' : stnd a b c = false := by simpa using s
        obtain ⟨r', G, hP, ht, hf, hnd, hG, hG'⟩ := ih (pre ++ [a]) (b :: c :: r) (by simp; omega) (by rw [e]; simp)
        refine ⟨_, G, .skip hP, ?_, ?_, hnd, ?_, ?_⟩
        · rw [decF_skip s', ← ht]; rfl
        · rw [foundF, if_neg s, hf]
        · intro m hm
          obtain ⟨h1, u, a', b', c', v, e', s', hp'⟩ := hG m hm
          exact ⟨h1, a :: u, a', b', c', v, by rw [e']; rfl, s', hp'⟩
        · intro m hm u a' b' c' v e' s'' hp'
          match u, e' with
          | [], e' =>
            simp at e'
            obtain ⟨rfl, rfl, rfl, _⟩ := e'
            rw [s''] at s'; cases s'
          | x :: u, e' =>
            simp at e'
            exact hG' m hm u a' b' c' v e'.2 s'' hp'
end Mine
namespace Mine
/-! ## the walk's end is where all escapes are read -/
theorem Steps.trans {ps : List (List Int)} {r1 r2 r3 : Row} {n1 n2 : List Nat} (H : Steps ps r1 r2 n1) (K : Steps ps r2 r3 n2) : Steps ps r1 r3 (n1 ++ n2) := by
  induction H with
  | nil => exact K
  | cons s hp _ ih => exact .cons s hp (ih K)
noncomputable def IrrB (tw : Row) : Prop := ∀ u a b c v, tw = u ++ a :: b :: c :: v → v ≠ [] → stnd a b c = false
theorem stands_end {tw : Row} (h : stands tw (tw.length - 3) = true) (h2 : 2 < tw.length) : ∃ u a b c, tw = u ++ [a, b, c] ∧ stnd a b c = true ∧ u = tw.take (tw.length - 3) := by
  obtain ⟨q0, q1, q2, qr, e, h0, h1, h3⟩ := stands_elim h
  have hl : qr = [] := by
    have := congrArg List.length e
    simp at this
    exact List.eq_nil_of_length_eq_zero (by omega)
  subst hl
  refine ⟨tw.take (tw.length - 3), q0, q1, q2, ?_, by rw [stnd_iff]; exact ⟨h0, h1, h3⟩, rfl⟩
  rw [← e, List.take_append_drop]
theorem stands_of {u : Row} {a b c : Sg} {v : Row} : stands (u ++ a :: b :: c :: v) u.length = stnd a b c := by
  unfold stands
  rw [List.drop_left]; rfl
theorem redF_steps (tw : Row) (ps : List (List Int)) : (∃ e, (redF tw ps).2 = ps ++ e) ∧ (IrrB tw → Irr (redF tw ps).1) ∧ ∀ psF rest, (∃ e, psF = (redF tw ps).2 ++ e) → Steps psF (tw ++ rest) ((redF tw ps).1 ++ rest) (List.range' ps.length ((redF tw ps).2.length - ps.length)) := by
  fun_induction redF tw ps with
  | case1 tw ps h ih =>
    obtain ⟨u, a, b, c, e, s, hu⟩ := stands_end h.2 h.1
    obtain ⟨⟨e1, he1⟩, hI, hS⟩ := ih
    have hlen : tw.length = u.length + 3 := by rw [e]; simp
    have hg1 : tw.getD (tw.length - 2) (0, 0) = b := by
      have : tw.length - 2 = u.length + 1 := by omega
      rw [this, e, List.getD_eq_getElem?_getD, List.getElem?_append_right (by omega)]
      simp
    have hg2 : tw.getD (tw.length - 1) (0, 0) = c := by
      have : tw.length - 1 = u.length + 2 := by omega
      rw [this, e, List.getD_eq_getElem?_getD, List.getElem?_append_right (by omega)]
      simp
    have hdr : (tw.drop (tw.length - 3)).map (·.1) = [a.1, b.1, c.1] := by
      have : tw.length - 3 = u.length := by omega
      rw [this, e, List.drop_left]; rfl
    have hv : hexV (tw.getD (tw.length - 2) (0, 0)).2 * 16 + hexV (tw.getD (tw.length - 1) (0, 0)).2 = val b c := by rw [hg1, hg2]; rfl
    rw [hv, ← hu, hdr] at he1 hI hS ⊢
    refine ⟨⟨[a.1, b.1, c.1] :: e1, by rw [he1]; simp⟩, fun hB => hI ?_, fun psF rest hF => ?_⟩
    · intro u' a' b' c' v' e' hv'
      obtain ⟨v'', y, rfl⟩ : ∃ v'' y, v' = v'' ++ [y] := ⟨v'.dropLast, v'.getLast hv', (List.dropLast_concat_getLast hv').symm⟩
      have e2 : u = u' ++ a' :: b' :: c' :: v'' := by
        have : u ++ [(100 + (ps.length : Int), val b c)] = (u' ++ a' :: b' :: c' :: v'') ++ [y] := by rw [e']; simp
        exact (List.append_inj' this rfl).1
      exact hB u' a' b' c' (v'' ++ [a, b, c]) (by rw [e, e2]; simp) (by simp)
    · have h1 := hS psF rest hF
      have hl2 : (redF (u ++ [(100 + (ps.length : Int), val b c)]) (ps ++ [[a.1, b.1, c.1]])).2.length = ps.length + 1 + e1.length := by rw [he1]; simp; omega
      obtain ⟨e3, rfl⟩ := hF
      have hp : ((redF (u ++ [(100 + (ps.length : Int), val b c)]) (ps ++ [[a.1, b.1, c.1]])).2 ++ e3)[ps.length]? = some [a.1, b.1, c.1] := by
        rw [he1]; simp
      rw [hl2] at h1 ⊢
      have hr : List.range' ps.length (ps.length + 1 + e1.length - ps.length) = ps.length :: List.range' (ps ++ [[a.1, b.1, c.1]]).length (ps.length + 1 + e1.length - (ps ++ [[a.1, b.1, c.1]]).length) := by
        have : ps.length + 1 + e1.length - ps.length = e1.length + 1 := by omega
        rw [this, List.range'_succ]
        simp
      rw [hr]
      have e4 : tw ++ rest = u ++ a :: b :: c :: rest := by rw [e]; simp
      rw [e4]
      refine .cons s hp ?_
      simpa using h1
  | case2 tw ps h =>
    refine ⟨⟨[], by simp⟩, fun hB u a b c v e => ?_, fun psF rest _ => ?_⟩
    · have e : tw = u ++ a :: b :: c :: v := e
      by_cases hv : v = []
      · subst hv
        have hl : tw.length = u.length + 3 := by rw [e]; simp
        cases hs : stnd a b c with
        | false => rfl
        | true =>
          refine absurd ⟨by omega, ?_⟩ h
          have : tw.length - 3 = u.length := by omega
          rw [this, e, stands_of]; exact hs
      · exact hB u a b c v e hv
    · simp only [Nat.sub_self, List.range'_zero]; exact .nil
noncomputable def row0 (text : List Nat) : Row := (List.range text.length).map fun p : Nat => ((p : Int), text.getD p 0)
theorem walkF_steps (text : List Nat) : ∀ i, i ≤ text.length → Irr (walkF text i).1 ∧ ∀ psF, (∃ e, psF = (walkF text i).2 ++ e) → Steps psF (row0 text) ((walkF text i).1 ++ (row0 text).drop i) (List.range (walkF text i).2.length) := by
  intro i
  induction i with
  | zero => intro _; exact ⟨fun u a b c v e => by simp [walkF] at e, fun psF _ => .nil⟩
  | succ i ih =>
    intro hi
    obtain ⟨hI, hS⟩ := ih (by omega)
    obtain ⟨⟨e1, he1⟩, hI2, hS2⟩ := redF_steps ((walkF text i).1 ++ [((i : Int), text.getD i 0)]) (walkF text i).2
    have hw : walkF text (i + 1) = redF ((walkF text i).1 ++ [((i : Int), text.getD i 0)]) (walkF text i).2 := rfl
    refine ⟨hI2 fun u a b c v e hv => ?_, fun psF hF => ?_⟩
    · obtain ⟨v', y, rfl⟩ : ∃ v' y, v = v' ++ [y] := ⟨v.dropLast, v.getLast hv, (List.dropLast_concat_getLast hv).symm⟩
      have e2 : (walkF text i).1 = u ++ a :: b :: c :: v' := by
        have : (walkF text i).1 ++ [((i : Int), text.getD i 0)] = (u ++ a :: b :: c :: v') ++ [y] := by rw [e]; simp
        exact (List.append_inj' this rfl).1
      exact hI u a b c v' e2
    · rw [hw] at hF ⊢
      have h1 := hS psF (by obtain ⟨e, rfl⟩ := hF; rw [he1]; exact ⟨e1 ++ e, by simp⟩)
      have h2 := hS2 psF ((row0 text).drop (i + 1)) hF
      have hd : (row0 text).drop i = ((i : Int), text.getD i 0) :: (row0 text).drop (i + 1) := by
        rw [List.drop_eq_getElem_cons (by simp [row0]; omega)]
        simp [row0]
      rw [hd] at h1
      have h3 := h1.trans (n2 := List.range' (walkF text i).2.length ((redF ((walkF text i).1 ++ [((i : Int), text.getD i 0)]) (walkF text i).2).2.length - (walkF text i).2.length)) (by simpa using h2)
      have hr : List.range (redF ((walkF text i).1 ++ [((i : Int), text.getD i 0)]) (walkF text i).2).2.length = List.range (walkF text i).2.length ++ List.range' (walkF text i).2.length ((redF ((walkF text i).1 ++ [((i : Int), text.getD i 0)]) (walkF text i).2).2.length - (walkF text i).2.length) := by
        have : (redF ((walkF text i).1 ++ [((i : Int), text.getD i 0)]) (walkF text i).2).2.length = (walkF text i).2.length + ((redF ((walkF text i).1 ++ [((i : Int), text.getD i 0)]) (walkF text i).2).2.length - (walkF text i).2.length) := by
          rw [he1]; simp
        have h5 := List.range'_append_1 (s := 0) (m := (walkF text i).2.length) (n := (redF ((walkF text i).1 ++ [((i : Int), text.getD i 0)]) (walkF text i).2).2.length - (walkF text i).2.length)
        rw [Nat.zero_add, ← this, ← List.range_eq_range', ← List.range_eq_range'] at h5
        exact h5.symm
      rw [hr]; exact h3
/-- the text of a script -/
structure TextOk (text : List Nat) : Prop where
  ok : ∀ c ∈ text, okc c = true
  dot : ∃ x, text = x ++ [46]
  len : text.length < 100
theorem run_init {text : List Nat} (H : TextOk text) : Run (walkF text text.length).2 (walkF text text.length).1 (row0 text) (List.range (walkF text text.length).2.length) := by
  obtain ⟨hI, hS⟩ := walkF_steps text text.length (Nat.le_refl _)
  have hd : (row0 text).drop text.length = [] := List.drop_eq_nil_of_le (by simp [row0])
  have h1 := hS _ ⟨[], (List.append_nil _).symm⟩
  rw [hd, List.append_nil] at h1
  refine ⟨h1, hI, List.nodup_range, ?_, fun x hx => ?_, fun x hx => ?_, ?_, by simpa [row0] using H.len, fun n hn => List.mem_range.mp hn⟩
  · unfold row0
    rw [List.map_map, List.Nodup, List.pairwise_map]
    refine List.Pairwise.imp (fun h e => h ?_) List.nodup_range
    exact Int.ofNat_inj.mp (by simpa using e)
  · obtain ⟨p, hp, rfl⟩ := List.mem_map.mp hx
    have := List.mem_range.mp hp
    have := H.len
    exact .inl (by simp; omega)
  · obtain ⟨p, hp, rfl⟩ := List.mem_map.mp hx
    have hp' := List.mem_range.mp hp
    refine H.ok _ ?_
    simp [hp']
  · obtain ⟨x, rfl⟩ := H.dot
    refine ⟨(List.range x.length).map fun p : Nat => ((p : Int), (x ++ [46]).getD p 0), (x.length : Int), ?_⟩
    unfold row0
    rw [List.length_append, List.length_singleton, List.range_succ, List.map_append]
    congr 1
    simp
/-- the graph of the parts -/
theorem gr_of {ps : List (List Int)} {fin row : Row} : ∀ {ns : List Nat}, Steps ps row fin ns → RowI ps row ns → ∀ i k, ns = List.range' i k → i + k = ps.length → ∀ j p, i ≤ j → ps[j]? = some p → p.length = 3 ∧ (prs p).Nodup ∧ ∀ q ∈ prs p, q < j := by
  intro ns H
  induction H with
  | nil =>
    intro R i k e hk j p hij hp
    have : k = 0 := by have := congrArg List.length e; simp at this; omega
    have := (List.getElem?_eq_some_iff.mp hp).1
    omega
  | @cons u v fin a b c n₀ ns s₀ h₀ H ih =>
    intro R i k e hk j p hij hp
    match k, e, hk with
    | 0, e, _ => simp at e
    | k + 1, e, hk =>
      rw [List.range'_succ] at e
      simp at e
      obtain ⟨rfl, e⟩ := e
      have R' := R.step (.head _) s₀
      rw [List.erase_cons_head] at R'
      by_cases hj : j = n₀
      · subst hj
        have hp0 := hp
        rw [h₀] at hp; cases hp
        have hm := marks_in (.cons s₀ h₀ H) R j (.head _) _ h₀
        have hprs : ∀ q, q ∈ prs [a.1, b.1, c.1] → 100 + (q : Int) ∈ [a.1, b.1, c.1] := fun q hq => by
          have : 100 + (q : Int) ∈ (prs [a.1, b.1, c.1]).map fun q : Nat => 100 + (q : Int) := List.mem_map_of_mem hq
          rw [prs_back] at this
          exact (List.mem_filter.mp this).1
        refine ⟨rfl, ?_, fun q hq => ?_⟩
        · have h1 : ((prs [a.1, b.1, c.1]).map fun q : Nat => 100 + (q : Int)).Nodup := by rw [prs_back]; exact hm.2.1.filter _
          exact List.Pairwise.of_map _ (fun a b h e => h (by rw [e])) h1
        · have hq' := hprs q hq
          have hmr : 100 + (q : Int) ∈ (u ++ a :: b :: c :: v).map (·.1) := by
            simp at hq' ⊢
            rcases hq' with h | h | h <;> simp [h]
          obtain ⟨x, hx, ex⟩ := List.mem_map.mp hmr
          rcases R.lo x hx with h | ⟨m, h1, h2, h3⟩
          · omega
          · have : m = q := by omega
            subst this
            rw [e] at h2
            have h4 : ¬ m ∈ List.range' j (k + 1) := by rw [List.range'_succ]; exact h2
            rw [List.mem_range'_1] at h4
            omega
      · exact ih R' (n₀ + 1) k e (by omega) j p (by omega) hp
theorem run_gr {text : List Nat} (H : TextOk text) : Gr ((walkF text text.length).2.map prs) ∧ ∀ p ∈ (walkF text text.length).2, p.length = 3 := by
  have R := run_init H
  have h := gr_of R.st R.ri 0 (walkF text text.length).2.length (by rw [List.range_eq_range']) (by omega)
  refine ⟨⟨fun i ps hps => ?_, fun i ps hps => ?_⟩, fun p hp => ?_⟩
  · rw [List.getElem?_map] at hps
    obtain ⟨p, hp, rfl⟩ := Option.map_eq_some_iff.mp hps
    exact (h i p (Nat.zero_le _) hp).2.1
  · rw [List.getElem?_map] at hps
    obtain ⟨p, hp, rfl⟩ := Option.map_eq_some_iff.mp hps
    exact (h i p (Nat.zero_le _) hp).2.2
  · obtain ⟨i, hi, e⟩ := List.mem_iff_getElem.mp hp
    exact (h i p (Nat.zero_le _) (by rw [List.getElem?_eq_getElem hi, e])).1
end Mine
namespace Mine
/-! ## the whole, plainly: what stands at a moment -/
structure ReadOk (ps : List (List Int)) (row : Row) (n i : Nat) : Prop where
  hk : ∃ p, ps[n]? = some p ∧ p = (((row.drop i).take 3).map (·.1)) ∧ (∀ j, j < i → ((row.drop j).take 3).map (·.1) ≠ p)
  hi : i + 2 < row.length
  d1 : isD (row.getD (i + 1) (0, 0)).2 = true
  d2 : isD (row.getD (i + 2) (0, 0)).2 = true
theorem getD_mid {u v : Row} {a b c : Sg} : (u ++ a :: b :: c :: v).getD (u.length + 1) (0, 0) = b ∧ (u ++ a :: b :: c :: v).getD (u.length + 2) (0, 0) = c := by
  refine ⟨?_, ?_⟩ <;> rw [List.getD_eq_getElem?_getD, List.getElem?_append_right (by omega)] <;> simp
theorem readOk {ps : List (List Int)} {u v : Row} {a b c : Sg} {n : Nat} {ns : List Nat} (R : RowI ps (u ++ a :: b :: c :: v) ns) (s : stnd a b c = true) (hp : ps[n]? = some [a.1, b.1, c.1]) :
    ReadOk ps (u ++ a :: b :: c :: v) n u.length ∧ readAt (u ++ a :: b :: c :: v) u.length (100 + (n : Int)) = u ++ (100 + (n : Int), val b c) :: v := by
  rw [stnd_iff] at s
  refine ⟨⟨⟨_, hp, ?_, fun j hj e => ?_⟩, by simp, by rw [getD_mid.1]; exact s.2.1, by rw [getD_mid.2]; exact s.2.2⟩, ?_⟩
  · rw [List.drop_left]; simp
  · have hjl : j < (u ++ a :: b :: c :: v).length := by simp; omega
    rw [List.drop_eq_getElem_cons hjl, List.take_succ_cons, List.map_cons] at e
    have e := (List.cons.inj e).1
    have hm := R.mks
    have h1 : ((u ++ a :: b :: c :: v).map (·.1))[j]? = some a.1 := by
      rw [List.getElem?_map, List.getElem?_eq_getElem hjl, Option.map_some, e]
    have h2 : ((u ++ a :: b :: c :: v).map (·.1))[u.length]? = some a.1 := by
      rw [List.getElem?_map, List.getElem?_append_right (Nat.le_refl _)]; simp
    have := (List.getElem?_inj (by simp; omega) hm).mp (h1.trans h2.symm)
    omega
  · unfold readAt
    rw [getD_mid.1, getD_mid.2, List.take_left]
    have : (u ++ a :: b :: c :: v).drop (u.length + 3) = v := by
      rw [List.drop_append]; simp
    rw [this]; simp [val]
section
variable {ps : List (List Int)} {fin row row' : Row} {ns G : List Nat} {n : Nat}
/-- an escape that stands is read -/
theorem Run.readT {u v : Row} {a b c : Sg} (R : Run ps fin (u ++ a :: b :: c :: v) ns) (s : stnd a b c = true) (hn : n ∈ ns) (hp : ps[n]? = some [a.1, b.1, c.1]) : Run ps fin (u ++ (100 + (n : Int), val b c) :: v) (ns.erase n) := by
  obtain ⟨m, hm, hp', H⟩ := key1 R.st R.irr R.ri.nd rfl s
  have e := apart R.st R.ri n hn m hm _ _ hp hp' a.1 (by simp) (by simp)
  subst e
  exact ⟨H, R.irr, R.ri.step hm s⟩
theorem Run.read (R : Run ps fin row ns) (H : Par ps row row' G) (hn : n ∈ ns) (hG : n ∈ G) : ∃ i, ReadOk ps row n i ∧ Run ps fin (readAt row i (100 + (n : Int))) (ns.erase n) ∧ Par ps (readAt row i (100 + (n : Int))) row' (G.erase n) := by
  obtain ⟨u, a, b, c, v, rfl, s, hp, H'⟩ := H.read hG
  obtain ⟨h1, h2⟩ := readOk R.ri s hp
  exact ⟨u.length, h1, by rw [h2]; exact R.readT s hn hp, by rw [h2]; exact H'⟩
/-- its parts are made -/
noncomputable def Rdy (ps : List (List Int)) (ns : List Nat) (n : Nat) : Prop := n ∈ ns ∧ ∀ q ∈ prs (ps.getD n []), q ∉ ns
theorem prs_mem {p : List Int} {q : Nat} : q ∈ prs p ↔ 100 + (q : Int) ∈ p := by
  constructor
  · intro h
    have : 100 + (q : Int) ∈ (prs p).map fun q : Nat => 100 + (q : Int) := List.mem_map_of_mem h
    rw [prs_back] at this
    exact (List.mem_filter.mp this).1
  · intro h
    unfold prs
    exact List.mem_map.mpr ⟨_, List.mem_filter.mpr ⟨h, by simp; omega⟩, by omega⟩
theorem Run.rdy_iff (R : Run ps fin row ns) (hn : n ∈ ns) : Rdy ps ns n ↔ ∃ u a b c v, row = u ++ a :: b :: c :: v ∧ stnd a b c = true ∧ ps[n]? = some [a.1, b.1, c.1] := by
  have hl := R.ri.lt n hn
  have hp : ps[n]? = some (ps.getD n []) := by rw [List.getElem?_eq_getElem hl]; simp [hl]
  constructor
  · rintro ⟨_, h⟩
    obtain ⟨u, a, b, c, v, e, s, hp'⟩ := key2 R.st hp hn fun m hm h' => h m (prs_mem.mpr h') hm
    exact ⟨u, a, b, c, v, e, s, by rw [hp, hp']⟩
  · rintro ⟨u, a, b, c, v, rfl, s, hp'⟩
    refine ⟨hn, fun q hq hq' => ?_⟩
    rw [hp] at hp'
    rw [Option.some.inj hp', prs_mem] at hq
    refine R.ri.fresh hq' ?_
    simp at hq ⊢
    rcases hq with h | h | h <;> simp [h]
theorem Run.par (R : Run ps fin row ns) : ∃ row' G, Par ps row row' G ∧ textOf row' = decF (textOf row) ∧ foundF row = G.map (headM ps) ∧ G.Nodup ∧ ∀ n, n ∈ G ↔ Rdy ps ns n := by
  obtain ⟨row', G, h1, h2, h3, h4, h5, h6⟩ := par_of R row.length [] row (Nat.le_refl _) rfl
  refine ⟨row', G, h1, h2, h3, h4, fun n => ⟨fun h => ?_, fun h => ?_⟩⟩
  · obtain ⟨a, b⟩ := h5 n h
    exact (R.rdy_iff a).mpr b
  · obtain ⟨u, a, b, c, v, e, s, hp⟩ := (R.rdy_iff h.1).mp h
    exact h6 n h.1 u a b c v e s hp
theorem Run.done (R : Run ps fin row []) : row = fin := by
  have := R.st
  generalize hG : ([] : List Nat) = G at this
  cases this with
  | nil => rfl
  | cons => cases hG
theorem Run.prog (R : Run ps fin row ns) (h : ns ≠ []) : ∃ n, Rdy ps ns n := by
  have H := R.st
  cases H with
  | nil => exact absurd rfl h
  | @cons u v fin a b c n ns s hp H => exact ⟨n, (R.rdy_iff (.head _)).mpr ⟨u, a, b, c, v, rfl, s, hp⟩⟩
/-- the sorter's ready nodes are those whose escape stands -/
structure Inv (ps : List (List Int)) (fin row : Row) (v : Vw) (rs D O ns : List Nat) : Prop where
  run : Run ps fin row ns
  si : SI (ps.map prs) v rs D O
  cov : ∀ n, n ∈ ns ↔ n < ps.length ∧ n ∉ D
  g : Gr (ps.map prs)
theorem Inv.rdy {v : Vw} {rs D O : List Nat} (I : Inv ps fin row v rs D O ns) (n : Nat) : Rdy ps ns n ↔ n ∈ rs ∨ n ∈ O := by
  have hgd : ∀ n, n < ps.length → (ps.map prs).getD n [] = prs (ps.getD n []) := fun n hn => by simp [hn]
  have hu : ∀ n, n < ps.length → (und (ps.map prs) D n = 0 ↔ ∀ q ∈ prs (ps.getD n []), q ∉ ns) := fun n hn => by
    unfold und
    rw [hgd n hn, List.length_eq_zero_iff, List.filter_eq_nil_iff]
    constructor
    · intro h q hq hq'
      have h1 := h q hq
      simp at h1
      exact ((I.cov q).mp hq').2 h1
    · intro h q hq
      have h1 := h q hq
      have hql : q < n := I.g.lt n (prs (ps.getD n [])) (by rw [List.getElem?_map, List.getElem?_eq_getElem hn]; simp [hn]) q hq
      simp only [decide_eq_true_eq, Decidable.not_not]
      by_cases hd : q ∈ D
      · exact hd
      · exact absurd ((I.cov q).mpr ⟨by omega, hd⟩) h1
  constructor
  · rintro ⟨h1, h2⟩
    obtain ⟨a, b⟩ := (I.cov n).mp h1
    by_cases hO : n ∈ O
    · exact .inr hO
    · exact .inl ((I.si.rsm n).mpr ⟨by simpa using a, b, hO, (hu n a).mpr h2⟩)
  · rintro (h | h)
    · obtain ⟨a, b, c, d⟩ := (I.si.rsm n).mp h
      have a' : n < ps.length := by simpa using a
      exact ⟨(I.cov n).mpr ⟨a', b⟩, (hu n a').mp d⟩
    · obtain ⟨a, b⟩ := I.si.dO n (.inr h)
      have a' : n < ps.length := by simpa using a
      exact ⟨(I.cov n).mpr ⟨a', I.si.disj n h⟩, (hu n a').mp b⟩
end
/-! the reading of a list of nodes, one by one -/
structure RL (ps : List (List Int)) (fin row' : Row) (rs ns : List Nat) (j : Nat) (row : Row) (nj G : List Nat) : Prop where
  run : Run ps fin row nj
  par : Par ps row row' G
  gnd : G.Nodup
  nsm : ∀ n, n ∈ nj ↔ n ∈ ns ∧ n ∉ rs.take j
  gm : ∀ n, n ∈ G ↔ n ∈ rs.drop j
  len : nj.length + j = ns.length
theorem RL.init {ps : List (List Int)} {fin row row' : Row} {rs ns G : List Nat} (R : Run ps fin row ns) (P : Par ps row row' G) (hG : G.Nodup) (hm : ∀ n, n ∈ G ↔ n ∈ rs) : RL ps fin row' rs ns 0 row ns G :=
  ⟨R, P, hG, fun n => by simp, fun n => by simpa using hm n, rfl⟩
theorem RL.step {ps : List (List Int)} {fin row row' : Row} {rs ns nj G : List Nat} {j : Nat} (H : RL ps fin row' rs ns j row nj G) (hnd : rs.Nodup) (hj : j < rs.length) (hs : ∀ n ∈ rs, n ∈ ns) :
    ∃ i, ReadOk ps row rs[j] i ∧ ∃ nj' G', RL ps fin row' rs ns (j + 1) (readAt row i (100 + (rs[j] : Int))) nj' G' := by
  have hd : rs.drop j = rs[j] :: rs.drop (j + 1) := List.drop_eq_getElem_cons hj
  have htk : rs.take (j + 1) = rs.take j ++ [rs[j]] := by rw [List.take_add_one, List.getElem?_eq_getElem hj]; rfl
  have hnd2 := hnd
  rw [← List.take_append_drop j rs, hd, List.nodup_append] at hnd2
  have hnt : rs[j] ∉ rs.take j := fun h => hnd2.2.2 _ h _ (.head _) rfl
  have hnd3 := (List.nodup_cons.mp hnd2.2.1).1
  have hnj : rs[j] ∈ nj := (H.nsm _).mpr ⟨hs _ (List.getElem_mem hj), hnt⟩
  have hnG : rs[j] ∈ G := (H.gm _).mpr (by rw [hd]; exact .head _)
  obtain ⟨i, hok, R', P'⟩ := H.run.read H.par hnj hnG
  refine ⟨i, hok, nj.erase rs[j], G.erase rs[j], R', P', H.gnd.erase _, fun n => ?_, fun n => ?_, ?_⟩
  · rw [List.Nodup.mem_erase_iff H.run.ri.nd, H.nsm, htk, List.mem_append, List.mem_singleton, not_or]
    constructor
    · rintro ⟨a, b, c⟩; exact ⟨b, c, a⟩
    · rintro ⟨b, c, a⟩; exact ⟨a, b, c⟩
  · rw [List.Nodup.mem_erase_iff H.gnd, H.gm, hd, List.mem_cons]
    constructor
    · rintro ⟨a, b | b⟩
      · exact absurd b a
      · exact b
    · intro b; exact ⟨fun e => hnd3 (e ▸ b), .inr b⟩
  · have := H.len
    have h2 : 0 < nj.length := List.length_pos_of_mem hnj
    rw [List.length_erase_of_mem hnj]; omega
theorem RL.end {ps : List (List Int)} {fin row row' : Row} {rs ns nj G : List Nat} {j : Nat} (H : RL ps fin row' rs ns j row nj G) (hj : rs.length ≤ j) : row = row' := by
  have : G = [] := List.eq_nil_iff_forall_not_mem.mpr fun n hn => by
    have := (H.gm n).mp hn
    rw [List.drop_eq_nil_of_le hj] at this; cases this
  subst this
  exact H.par.done
end Mine
namespace Mine
open PySem PySem.W PySem.Calls PyProof.Rows
theorem filled13 : (fun (_ : OpenLaw) (_ : Params → Frag) => True) PySem.Challenge.rw_oc0237_01 hd.heap_1 := by k_fill; trivial

/-! ## _law_sorter -/
noncomputable def restN (l : List Nd) : List (Addr × Obj) := l.flatMap fun x => [(x.d, dictOf [] 0), (x.s, x.so)]
theorem ledN_perm : ∀ l : List Nd, (ledN l).Perm (infN l ++ restN l)
  | [] => List.Perm.refl _
  | x :: l => by
    show List.Perm ((x.a, x.inf) :: (x.d, dictOf [] 0) :: (x.s, x.so) :: ledN l) ((x.a, x.inf) :: (infN l ++ ((x.d, dictOf [] 0) :: (x.s, x.so) :: restN l)))
    refine List.Perm.cons _ ?_
    have h1 : List.Perm ([(x.d, dictOf [] 0), (x.s, x.so)] ++ ledN l) ([(x.d, dictOf [] 0), (x.s, x.so)] ++ (infN l ++ restN l)) := (ledN_perm l).append_left _
    refine h1.trans ?_
    rw [← List.append_assoc]
    have h2 : List.Perm (([(x.d, dictOf [] 0), (x.s, x.so)] ++ infN l) ++ restN l) ((infN l ++ [(x.d, dictOf [] 0), (x.s, x.so)]) ++ restN l) := List.perm_append_comm.append_right _
    refine h2.trans ?_
    rw [List.append_assoc]; exact List.Perm.refl _
theorem restN_mem {l : List Nd} {y : Nd} (h : y ∈ l) : (y.d, dictOf [] 0) ∈ restN l ∧ (y.s, y.so) ∈ restN l := by
  unfold restN
  exact ⟨List.mem_flatMap.mpr ⟨y, h, by simp⟩, List.mem_flatMap.mpr ⟨y, h, by simp⟩⟩
theorem All2.one_inv {α β : Type} {F : α → β → Prop} {l : List α} {b : β} (x : All2 F l [b]) : ∃ a, l = [a] ∧ F a b := by
  cases l with
  | nil => exact absurd x.1 (by simp)
  | cons a r =>
    obtain ⟨h1, h2⟩ := All2.cons_inv x
    have : r = [] := List.eq_nil_of_length_eq_zero h2.1
    exact ⟨a, by rw [this], h1⟩
theorem stored_new {kvs : List (Int × Value)} {k : Int} {v : Value} (h : k ∉ kvs.map (·.1)) : stored kvs k v = kvs ++ [(k, v)] := by
  unfold stored
  rw [if_neg]
  simp only [List.any_eq_true, not_exists, not_and, decide_eq_true_eq]
  intro p hp e
  exact h (by rw [← e]; exact List.mem_map_of_mem hp)
section
variable {prog : Program} {w : World} {A : Around} {s : Shared}
set_option maxHeartbeats 4000000 in
theorem law_sorter {n : Nat} {R : Result → Shared → Prop} {z : Heap} {pa : Addr} {ps : List (List Int)} {fl : List (Addr × Obj)} (D : Led w z fl s) (hF : Fs A (fl.map (·.1))) (hfd : FrO fl) (hA : Lo n A) (hn : n ≤ 40)
   (hp : PartsAt z pa ps) (hz : ps.length < 90) (hp3 : ∀ p ∈ ps, p.length ≤ 3) (hG : Gr (ps.map prs))
   (h : ∀ s' fl' z' x dx nd rl od orl rvs l t₁ t₂, Same s s' → UpS fl fl' → Sub z z' → Led w z' ((dx, od) :: (rl, orl) :: (infN l ++ fl')) s' → SorterAt prog w z' x dx nd l → AtO od (at4 nd rl 0 0 t₁ t₂) → LsO orl rvs → All2 IntIs rvs ((rdyL l l.length).map fun r : Nat => 100 + (r : Int)) →
      viewN l = gV (ps.map prs) → R (.ok (.ret (.ref x))) s')
   : codeAny (model prog w) A (.call (.ref 209) ⟨[.ref pa], []⟩) R s := by
  refine' enter_cells (m := []) (cm := fun y => if y = Str.ofString "parts" then some (.ref pa) else none) D hF hA (by omega) ?ho ?hcd ?hbind ?hm ?hc ?hcn ?_ ?hkind ?hco ?hgen ?hk
  case ho => k_is
  case hcd => k_is
  case hbind => rfl
  case hm => intro L; rfl
  case hc => intro L; rfl
  case hcn => intro L; show List.Nodup [Str.ofString "parts"]; simp
  case hkind => intro L x hx; rw [List.mem_singleton.mp hx]; exact .inr ⟨rfl, rfl⟩
  case hco => rfl
  case hgen => rfl
  case hk => rfl
  intro L A' s₁ outer cobs hfr hol hcob S' hA'
  have hcob' : All2 (fun (p : Addr × Obj) (q : Str × Addr) => p.1 = q.2 ∧ CellO p.2 ((fun y => if y = Str.ofString "parts" then some (.ref pa) else none) q.1)) cobs [(Str.ofString "parts", L + 1)] := hcob
  clear hcob
  obtain ⟨⟨ca, co⟩, rfl, hca, hco⟩ := hcob'.one_inv
  simp only at hca hco
  subst hca
  have hco' : CellO co (some (.ref pa)) := hco
  clear hcob' hco
  obtain ⟨z₁, hz₁, S, hcz⟩ := St.freezeH (mu := fl) S'
  clear S'
  have hcell : z₁.IsCell (L + 1) (some (.ref pa)) := ⟨co, hcz, hco'⟩
  obtain ⟨pvs, hpl, hpa⟩ := hp
  walk_at "go"
  refine r_DictComp [(Str.ofString "parts", L + 1)] rfl ?_
  walk_at "go"
  rename St _ _ _ _ _ _ _ => S
  refine r_cell (IsCell.up hcell S.keep) ?_
  walk_at "go"
  rename St _ _ _ _ _ _ _ => S
  refine r_lenL S ((hpl.up hz₁).up S.keep) (by rw [hpa.1]; omega) fun t₂ s₂ S₂ => ?_
  clear S
  walk_at "go"
  rename St _ _ _ _ _ _ _ => S
  refine r_dictRange (prog := prog) ps.length (by rw [hpa.1]) S hA'.1 (by omega) (fun i z' kvs => kvs.length = i ∧ ∀ j, j < i → ∃ b vs, kvs[j]? = some (100 + (j : Int), .ref b) ∧ IsL z' b vs ∧ All2 IntIs vs ((prs (ps.getD j [])).map fun q : Nat => 100 + (q : Int)))
    ⟨rfl, fun j hj => absurd hj (by omega)⟩ (fun i z' kvs hK => Nat.le_of_eq hK.1) ?_ ?_
  · rintro i t₃ z' kvs C m' mu' s₃ hi hz' ⟨hkl, hK⟩ S₃ hmu
    clear S
    walk_at "go"
    refine r_ListComp [] rfl ?_
    walk_at "go"
    rename St _ _ _ _ _ _ _ => S
    refine r_cell (IsCell.up (IsCell.up hcell hz') S.keep) ?_
    walk_at "go"
    rename St _ _ _ _ _ _ _ => S
    obtain ⟨pv, hpv, b, pis, rfl, hbl, hbi⟩ := hpa.get (List.getElem?_eq_getElem hi)
    refine r_itemN i (((hpl.up hz₁).up hz').up S.keep) (by omega) (by omega) hpv ?_
    have hp3' := hp3 _ (List.getElem_mem hi)
    have hgd : ps.getD i [] = ps[i] := by simp [hi]
    refine r_compList S hA'.1 ((hbl.up hz₁).up hz') (by rw [hbi.1]; omega) (fun j z'' rs => z'' = z' ∧ All2 IntIs rs ((ps[i].take j).filter fun m => decide (m ≥ 100))) ⟨rfl, All2.nil⟩ ?_ ?_
    · rintro j v z'' rs C' m'' mu'' s₄ hv hz'' ⟨rfl, hrs⟩ S₄ hmu'
      have hj : j < ps[i].length := by have := (List.getElem?_eq_some_iff.mp hv).1; rw [hbi.1] at this; exact this
      obtain ⟨tm, rfl⟩ := hbi.2 j v ps[i][j] hv (List.getElem?_eq_getElem hj)
      have htk : (ps[i].take (j + 1)).filter (fun m => decide (m ≥ 100)) = (ps[i].take j).filter (fun m => decide (m ≥ 100)) ++ (if ps[i][j] ≥ 100 then [ps[i][j]] else []) := by
        rw [List.take_add_one, List.getElem?_eq_getElem hj, List.filter_append]
        congr 1
        simp only [Option.toList_some, List.filter_cons, List.filter_nil, decide_eq_true_eq]
      clear S
      walk_at "go"
      refine wpAny_tests_one ?_
      walk_at "go"
      rename St _ _ _ _ _ _ _ => S
      refine ⟨fun hb => ?_, fun hb => ?_⟩
      · have hb' : ps[i][j] ≥ 100 := by simpa using hb
        walk_at "go"
        rename St _ _ _ _ _ _ _ => S
        refine ce (Sub.refl _) ⟨rfl, ?_⟩ S
        rw [htk, if_pos hb']
        exact hrs.append1 ⟨tm, rfl⟩
      · have hb' : ¬ ps[i][j] ≥ 100 := by simpa using hb
        refine ce (Sub.refl _) ⟨rfl, ?_⟩ S
        rw [htk, if_neg hb', List.append_nil]
        exact hrs
    · rintro z'' rs D' o' hz'' ⟨rfl, hrs⟩ hrl hlo
      refine hand_none fun s₅ S₅ => ?_
      clear S
      obtain ⟨z₅, hz₅, S, hl₅⟩ := S₅.freezeL hlo
      clear S₅
      rw [hbi.1, List.take_length] at hrs
      have hkn : (100 + (i : Int)) ∉ kvs.map (·.1) := by
        intro hm
        obtain ⟨p, hp, e⟩ := List.mem_map.mp hm
        obtain ⟨j, hj, e'⟩ := List.mem_iff_getElem.mp hp
        obtain ⟨b', vs', h1, _⟩ := hK j (by omega)
        rw [List.getElem?_eq_getElem hj, e'] at h1
        have := Option.some.inj h1
        rw [this] at e
        simp only at e
        omega
      refine ⟨z₅, _, 100 + (i : Int), _, rfl, hz₅, ⟨?_, fun j hj => ?_⟩, S⟩
      · rw [stored_new hkn]; simp [hkl]
      · rw [stored_new hkn]
        by_cases hji : j < i
        · obtain ⟨b', vs', h1, h2, h3⟩ := hK j hji
          exact ⟨b', vs', by rw [List.getElem?_append_left (by omega)]; exact h1, h2.up hz₅, h3⟩
        · have hji' : j = i := by omega
          subst hji'
          refine ⟨D', rs, ?_, hl₅, ?_⟩
          · rw [List.getElem?_append_right (by omega), hkl, Nat.sub_self]; rfl
          · rw [hgd, prs_back]; exact hrs
  · rintro z' kvs gd ogd s₃ hz' hms ⟨hkl, hK⟩ hdd S₃
    clear S
    obtain ⟨z₂, hz₂, S, hgz⟩ := S₃.freezeH
    clear S₃
    have hGA : GraphAt prog w z₂ gd (ps.map prs) := by
      refine ⟨hms, ogd, kvs, hgz, hdd, by rw [hkl]; simp, fun i q hq => ?_⟩
      rw [List.getElem?_map] at hq
      obtain ⟨p, hp, rfl⟩ := Option.map_eq_some_iff.mp hq
      obtain ⟨b, vs, h1, h2, h3⟩ := hK i (List.getElem?_eq_some_iff.mp hp).1
      have : ps.getD i [] = p := by simp [hp]
      rw [this] at h3
      exact ⟨b, vs, h1, h2.up hz₂, h3⟩
    walk_at "go"
    rename St _ _ _ _ _ _ _ => S
    refine r_make S (by k_is) (by k_is) (by k_is) fun x dx s₄ S₄ => ?_
    clear S
    obtain ⟨z₃, hz₃, S₅, hxz⟩ := S₄.freezeH
    clear S₄
    have S₆ : St w z₃ L [] ([(dx, dictOf [] 0)] ++ fl) s s₄ := S₅
    clear S₅
    refine init_ S₆.lend (hA'.under _ _ _) (by omega) (S₆.subLend _ _ hxz) ((hGA.up hz₃).up S₆.subLend) (by simpa using hz) (fun i q hq => ⟨?_, hG.lt i q hq⟩) fun s₅ od nd ond l t₁ t₂ sm D₅ ha hndm hnd hN hOk hview => ?_
    · rw [List.getElem?_map] at hq
      obtain ⟨p, hp, rfl⟩ := Option.map_eq_some_iff.mp hq
      have := hp3 p (List.mem_of_getElem? hp)
      have h2 := List.length_filter_le (fun m => decide (m ≥ 100)) p
      unfold prs
      rw [List.length_map]; omega
    have S₇ := S₆.back D₅ sm
    clear S₆ D₅
    refine ⟨rfl, ?_⟩
    have hlen : l.length = ps.length := by
      have := congrArg List.length hview
      rw [gV_length] at this
      simpa [viewN] using this
    have hp1 : ((dx, od) :: (nd, ond) :: ledN l ++ fl).Perm ((fl ++ ((dx, od) :: infN l)) ++ ((nd, ond) :: restN l)) := by
      have h1 : List.Perm ((dx, od) :: (nd, ond) :: ledN l) (((dx, od) :: infN l) ++ ((nd, ond) :: restN l)) := by
        refine List.Perm.cons _ ?_
        have h2 : List.Perm ((nd, ond) :: ledN l) ([(nd, ond)] ++ (infN l ++ restN l)) := (ledN_perm l).append_left [(nd, ond)]
        refine h2.trans ?_
        rw [← List.append_assoc]
        have h3 : List.Perm (([(nd, ond)] ++ infN l) ++ restN l) ((infN l ++ [(nd, ond)]) ++ restN l) := List.perm_append_comm.append_right _
        refine h3.trans ?_
        rw [List.append_assoc]; exact List.Perm.refl _
      refine (h1.append_right fl).trans ?_
      have h4 : List.Perm ((((dx, od) :: infN l) ++ ((nd, ond) :: restN l)) ++ fl) (fl ++ (((dx, od) :: infN l) ++ ((nd, ond) :: restN l))) := List.perm_append_comm
      refine h4.trans ?_
      rw [List.append_assoc]
    have S₈ := S₇.perm hp1
    clear S₇ hp1
    obtain ⟨z₄, hz₄, S₉, hfz⟩ := S₈.freeze (mu' := fl ++ ((dx, od) :: infN l)) (List.sublist_append_left _ _)
    have hold : ∀ p ∈ (nd, ond) :: restN l, z₄.get? p.1 = some p.2 := fun p hp => by
      have hnd8 := S₈.nd
      rw [List.map_append, List.nodup_append] at hnd8
      refine hfz _ _ (S₈.mus p (List.mem_append_right _ hp)).1 (S₈.mus p (List.mem_append_right _ hp)).2.1 fun q hq e => ?_
      exact hnd8.2.2 _ (List.mem_map_of_mem hq) _ (List.mem_map_of_mem hp) e
    clear S₈ hfz
    walk_at "go"
    rename St _ _ _ _ _ _ _ => S
    have hxz4 : z₄.get? x = some (instObj 152 dx) := hz₄ _ _ hxz
    refine meth_prep S (S.keep _ _ hxz4) (S.get fl.length (by simp)) ha rfl ?_
    walk_at "go"
    rename St _ _ _ _ _ _ _ => S
    have Sx : St w z₄ L [(Str.ofString "sorter", Value.ref x)] (fl ++ ([(dx, od)] ++ infN l)) s _ := S
    obtain ⟨oL, z₅, hoL, D₂, hz₅, hR, hback⟩ := Sx.lendF
    have hM : Made prog w z₅ x dx nd l := by
      refine ⟨hz₅ _ _ hxz4, hndm, ⟨ond, hz₅ _ _ (hold (nd, ond) (.head _)), hnd⟩, hN, fun y hy => ?_, fun i y hy k hk => ?_⟩
      · obtain ⟨h1, h2⟩ := restN_mem hy
        obtain ⟨vs, hv1, hv2, hv3⟩ := hOk y hy
        exact ⟨hR (y.a, y.inf) (List.mem_map.mpr ⟨y, hy, rfl⟩), hz₅ _ _ (hold (y.d, _) (.tail _ h1)), vs, ⟨y.so, hz₅ _ _ (hold (y.s, _) (.tail _ h2)), hv1⟩, hv2, hv3⟩
      · have hi : i < l.length := (List.getElem?_eq_some_iff.mp hy).1
        have hv := gV_get hG i (by rw [List.length_map]; omega)
        rw [← hview, viewN, List.getElem?_map, hy] at hv
        have e := Option.some.inj hv
        have e2 : y.sc = (succN (ps.map prs) i).map fun q : Nat => 100 + (q : Int) := congrArg (fun x => x.2.2) e
        rw [e2] at hk
        obtain ⟨q, hq, rfl⟩ := List.mem_map.mp hk
        obtain ⟨h1, h2⟩ := succN_lt hG hq
        exact ⟨q, rfl, h1, by rw [List.length_map] at h2; omega⟩
    refine wpAny_call (prepare (fl := (L, oL) :: fl) D₂ ⟨_, hfr, All2.cons ⟨(fun h => nomatch (show ScopeKind.function = ScopeKind.module from h)), rfl⟩ hol⟩ ?_ hA' (by omega) hM (by omega) ha fun s₆ od' rl orl rvs fl2 sm hup D₆ ha' hrl hrv => ?_)
    · intro p hp
      rcases List.mem_cons.mp hp with rfl | hp
      · exact hoL.dict
      · exact hfd p hp
    obtain ⟨fl', hup', S₆⟩ := hback [(dx, od'), (rl, orl)] fl2 s₆ hup D₆ sm
    clear S Sx
    walk_at "go"
    rename St _ _ _ _ _ _ _ => S
    have hp9 : (fl' ++ ([(dx, od'), (rl, orl)] ++ infN l)).Perm ((dx, od') :: (rl, orl) :: (infN l ++ fl')) := List.perm_append_comm
    refine h _ fl' z₄ x dx nd rl od' orl rvs l t₁ t₂ S.same hup' (hz₁.trans (hz'.trans (hz₂.trans (hz₃.trans hz₄)))) (S.perm hp9).led ⟨hxz4, ⟨ond, hold (nd, ond) (.head _), hnd⟩, hndm, hN, fun y hy => ?_⟩ ha' hrl hrv hview
    obtain ⟨h1, h2⟩ := restN_mem hy
    exact ⟨hOk y hy, hold (y.d, _) (.tail _ h1), hold (y.s, _) (.tail _ h2)⟩
end
end Mine
namespace Mine
open PySem PySem.W PySem.Calls PyProof.Rows
theorem filled14 : (fun (_ : OpenLaw) (_ : Params → Frag) => True) PySem.Challenge.rw_oc0237_01 hd.heap_1 := by k_fill; trivial

/-! ## _law_in_rounds -/
theorem rdyL_eq {l : List Nd} {gr : List (List Nat)} (hG : Gr gr) (hv : viewN l = gV gr) : l.length = gr.length ∧ rdyL l l.length = (List.range gr.length).filter fun i => decide ((gr.getD i []).length = 0) := by
  have hlen : l.length = gr.length := by
    have := congrArg List.length hv
    rw [gV_length] at this
    simpa [viewN] using this
  refine ⟨hlen, ?_⟩
  unfold rdyL
  rw [hlen]
  refine List.filter_congr fun i hi => ?_
  have hi' := List.mem_range.mp hi
  have h1 := gV_get hG i hi'
  rw [← hv, viewN, List.getElem?_map] at h1
  obtain ⟨y, hy, e⟩ := Option.map_eq_some_iff.mp h1
  have e2 : y.np = ((gr.getD i []).length : Int) := congrArg (fun x => x.2.1) e
  rw [hy, Option.map_some, Option.getD_some, e2]
  exact decide_eq_decide.mpr (by omega)
theorem inv_init {text : List Nat} (H : TextOk text) {l : List Nd} (hv : viewN l = gV ((walkF text text.length).2.map prs)) : Inv (walkF text text.length).2 (walkF text text.length).1 (row0 text) (viewN l) (rdyL l l.length) [] [] (List.range (walkF text text.length).2.length) := by
  obtain ⟨hG, _⟩ := run_gr H
  obtain ⟨_, h2⟩ := rdyL_eq hG hv
  refine ⟨run_init H, ?_, fun n => by simp, hG⟩
  rw [hv]
  exact SI.init hG h2
theorem Run.row_ok {ps : List (List Int)} {fin row : Row} {ns : List Nat} (R : Run ps fin row ns) : ∃ x, textOf row = x ++ [46] ∧ (∀ c ∈ x, okc c = true) ∧ x.length < 100 := by
  obtain ⟨r, m, e⟩ := R.ri.dot
  refine ⟨textOf r, by rw [e]; simp [textOf], fun c hc => ?_, ?_⟩
  · obtain ⟨y, hy, rfl⟩ := List.mem_map.mp hc
    exact R.ri.ok y (by rw [e]; exact List.mem_append_left _ hy)
  · have := R.ri.len
    rw [e] at this
    simp [textOf] at this ⊢
    omega
theorem SI.rs_len {gr : List (List Nat)} {v : Vw} {rs D O : List Nat} (H : SI gr v rs D O) : rs.length ≤ gr.length := nodup_lt_length _ _ H.rsnd fun i hi => ((H.rsm i).mp hi).1
section
variable {prog : Program} {w : World} {A : Around} {E : Value → Shared → Prop} {s s₀ : Shared} {z : Heap} {L : Addr} {m : List (Str × Value)} {mu : List (Addr × Obj)}
/-- _law_read, called from a walk -/
theorem r_read {n k i : Nat} {ra pa : Addr} {row : Row} {ps : List (List Int)} {t : Tok} {Q : Value → Shared → Prop} (S : St w z L m mu s₀ s) (hA : Lo n A) (hn : n ≤ 50) (hr : RowAt z ra row) (hp : PartsAt z pa ps) (hsz : row.length < 900) (hpz : ps.length < 900) (hk : ReadOk ps row k i)
    (h : ∀ z' D s', Sub z z' → RowAt z' D (readAt row i (100 + (k : Int))) → St w z' L m mu s₀ s' → Q (.ref D) s') : wpAny (model prog w) A (call (.ref 204) [.ref ra, .ref pa, .int (100 + (k : Int)) t]) Q E s := by
  obtain ⟨vs, hvl, hva⟩ := hr
  refine wpAny_call (law_read S.top hA hn (hvl.up S.keep) (SgnAt z) (fun v p x => x.up S.keep) hva (hp.up S.keep) hsz hpz rfl hk.hk hk.hi hk.d1 hk.d2 fun s' D o vs' sm sb hD0 hD hlo hvs' => ?_)
  obtain ⟨z', hz', S', hnew⟩ := S.fresh sb sm
  refine h z' D s' hz' ⟨vs', ⟨o, hnew D o hD0 hD, hlo⟩, hvs'.mono fun v p x => ?_⟩ S'
  rcases x with x | ⟨a, t, u, e, h0, o2, ho2, hx⟩
  · exact x.up hz'
  · exact ⟨a, t, u, e, o2, hnew a o2 h0 ho2, hx⟩
theorem r_text {n : Nat} {ra : Addr} {row : Row} {Q : Value → Shared → Prop} (S : St w z L m mu s₀ s) (hA : Lo n A) (hn : n ≤ 60) (hr : RowAt z ra row) (hsz : row.length < 1000) (h : ∀ t s', St w z L m mu s₀ s' → Q (.str (tx (textOf row)) t) s') :
    wpAny (model prog w) A (call (.ref 199) [.ref ra]) Q E s :=
  wpAny_call (law_text S.top hA hn (hr.up S.keep) hsz fun s' t sm sb => h t s' (S.grow sb sm))
theorem r_decode {n : Nat} {x : List Nat} {t : Tok} {Q : Value → Shared → Prop} (S : St w z L m mu s₀ s) (hA : Lo n A) (hn : n ≤ 70) (hx : ∃ y, x = y ++ [46] ∧ (∀ c ∈ y, okc c = true) ∧ y.length < 100) (h : ∀ t s', St w z L m mu s₀ s' → Q (.str (tx (decF x)) t) s') :
    wpAny (model prog w) A (call (.ref 36) [.str (tx x) t]) Q E s := by
  obtain ⟨y, rfl, h1, h2⟩ := hx
  exact wpAny_call (decode S.top hA hn h1 (by omega) fun s' t sm sb => h t s' (S.grow sb sm))
end
theorem St.lendG {w : World} {z : Heap} {L : Addr} {m : List (Str × Value)} {fl muP : List (Addr × Obj)} {s₀ s : Shared} (S : St w z L m (fl ++ muP) s₀ s) : ∃ oL, NsO oL m ∧ Led w z (muP ++ (L, oL) :: fl) s ∧
    (∀ z' muP' fl2 s', Sub z z' → UpS ((L, oL) :: fl) fl2 → Led w z' (muP' ++ fl2) s' → Same s s' → ∃ fl', UpS fl fl' ∧ St w z' L m (fl' ++ muP') s₀ s') := by
  obtain ⟨oL, hL, D⟩ := S.out
  have hp : ((L, oL) :: (fl ++ muP)).Perm (muP ++ (L, oL) :: fl) := List.perm_append_comm (l₁ := (L, oL) :: fl) (l₂ := muP)
  refine ⟨oL, hL, D.perm hp, fun z' muP' fl2 s' hz hup D₂ sm => ?_⟩
  obtain ⟨⟨a, o⟩, fl', rfl, e1, e2, hup'⟩ := hup.cons_inv
  simp only at e1 e2
  subst e1
  have D₃ := D₂.perm (List.perm_append_comm (l₁ := muP') (l₂ := (a, o) :: fl'))
  obtain ⟨es, ep, hd, hk, hf⟩ := hL.slots e2
  have hm := D₃.mus (a, o) (.head _)
  have hnd := D₃.nd
  rw [List.cons_append, List.map_cons, List.nodup_cons] at hnd
  exact ⟨fl', hup', ⟨o, es, ep, hm.1, hd, hk, hf⟩, D₃.keep, hm.2, fun p hp => ⟨(D₃.mus p (.tail _ hp)).1, fun e => hnd.1 (show a ∈ (fl' ++ muP').map (·.1) from (by rw [← e]; exact List.mem_map_of_mem hp)), (D₃.mus p (.tail _ hp)).2⟩, hnd.2, bot_up S hz, S.same.trans sm⟩
section
variable {prog : Program} {w : World} {A : Around} {s : Shared}
set_option maxHeartbeats 4000000 in
theorem in_rounds {n : Nat} {R : Result → Shared → Prop} {z : Heap} {pa : Addr} {text : List Nat} {t : Tok} {fl : List (Addr × Obj)} (D : Led w z fl s) (hF : Fs A (fl.map (·.1))) (hfd : FrO fl) (hA : Lo n A) (hn : n ≤ 30)
   (hT : TextOk text) (hp : PartsAt z pa (walkF text text.length).2)
   (h : ∀ s' fl' z' ra, Same s s' → UpS fl fl' → Sub z z' → Led w z' fl' s' → RowAt z' ra (walkF text text.length).1 → R (.ok (.ret (.ref ra))) s')
   : codeAny (model prog w) A (.call (.ref 214) ⟨[.str (tx text) t, .ref pa], []⟩) R s := by
  refine' enter_cells (m := [(Str.ofString "parts", .ref pa)]) (cm := fun y => if y = Str.ofString "text" then some (.str (tx text) t) else none) D hF hA (by omega) ?ho ?hcd ?hbind ?hm ?hc ?hcn ?_ ?hkind ?hco ?hgen ?hk
  case ho => k_is
  case hcd => k_is
  case hbind => rfl
  case hm => intro L; rw [lookup_cons_if]; rfl
  case hc => intro L; rfl
  case hcn => intro L; show List.Nodup [Str.ofString "text"]; simp
  case hkind =>
    intro L x hx
    rcases List.mem_cons.mp hx with rfl | hx
    · exact .inr ⟨rfl, rfl⟩
    · rw [List.mem_singleton.mp hx]; exact .inl rfl
  case hco => rfl
  case hgen => rfl
  case hk => rfl
  intro L A' s₁ outer cobs hfr hol hcob S' hA'
  have hcob' : All2 (fun (p : Addr × Obj) (q : Str × Addr) => p.1 = q.2 ∧ CellO p.2 ((fun y => if y = Str.ofString "text" then some (.str (tx text) t) else none) q.1)) cobs [(Str.ofString "text", L + 1)] := hcob
  clear hcob
  obtain ⟨⟨ca, co⟩, rfl, hca, hco⟩ := hcob'.one_inv
  simp only at hca hco
  subst hca
  have hco' : CellO co (some (.str (tx text) t)) := hco
  clear hcob' hco
  obtain ⟨z₁, hz₁, S, hcz⟩ := St.freezeH (mu := fl) S'
  clear S'
  have hcell : z₁.IsCell (L + 1) (some (.str (tx text) t)) := ⟨co, hcz, hco'⟩
  have hp₁ := hp.up hz₁
  obtain ⟨hG, hp3⟩ := run_gr hT
  have hpl : (walkF text text.length).2.length < 90 := by
    have := walkF_len text text.length
    have := hT.len
    omega
  walk_at "go"
  rename St _ _ _ _ _ _ _ => S
  obtain ⟨oL, hoL, D₂, hback⟩ := St.lendG (muP := []) (by rw [List.append_nil]; exact S)
  refine wpAny_call (law_sorter (fl := (L, oL) :: fl) D₂ ⟨_, hfr, All2.cons ⟨(fun h => nomatch (show ScopeKind.function = ScopeKind.module from h)), rfl⟩ hol⟩ ?_ hA' (by omega) hp₁ hpl (fun p hp => Nat.le_of_eq (hp3 p hp)) hG fun s₃ fl2 z₃ x dx nd rl od orl rvs l t₁ t₂ sm hup hz₃ D₃ hSA ha hrl hrv hview => ?_)
  · intro p hp
    rcases List.mem_cons.mp hp with rfl | hp
    · exact hoL.dict
    · exact hfd p hp
  obtain ⟨fl', hup', S₃⟩ := hback z₃ ((dx, od) :: (rl, orl) :: infN l) fl2 s₃ hz₃ hup D₃ sm
  clear S D₂ D₃ hback hup
  have hp₃ := hp₁.up hz₃
  have hI := inv_init hT hview
  -- row
  walk_at "go"
  refine r_AssignListComp [(Str.ofString "text", L + 1)] rfl ?_
  walk_at "go"
  rename St _ _ _ _ _ _ _ => S
  have hcell₃ := IsCell.up hcell hz₃
  refine r_cell (IsCell.up hcell₃ S.keep) ?_
  walk_at "go"
  rename St _ _ _ _ _ _ _ => S
  refine r_lenS S (by have := hT.len; omega) fun t₄ s₄ S₄ => ?_
  clear S
  walk_at "go"
  rename St _ _ _ _ _ _ _ => S
  refine r_compRange text.length rfl S hA'.1 (by have := hT.len; omega) (fun i z' rs => All2 (SgnAt z') rs ((row0 text).take i)) All2.nil ?_ ?_
  · rintro i t₅ z' rs C m' mu' s₅ hi hz' hK S₅ hmu
    clear S
    walk_at "go"
    refine wpAny_tests_nil (Br.yes rfl ?_)
    walk_at "go"
    rename St _ _ _ _ _ _ _ => S
    refine r_cell (IsCell.up (IsCell.up hcell₃ hz') S.keep) ?_
    walk_at "go"
    rename St _ _ _ _ _ _ _ => S
    refine r_itemS S i rfl (by have := hT.len; omega) (List.getElem?_eq_getElem hi) fun t₆ s₆ S₆ => ?_
    clear S
    walk_at "go"
    rename St _ _ _ _ _ _ _ => S
    obtain ⟨z₆, hz₆, S₇, hb⟩ := S.freezeH
    refine ce hz₆ ?_ S₇
    have htk : (row0 text).take (i + 1) = (row0 text).take i ++ [((i : Int), text[i])] := by
      rw [List.take_add_one]
      congr 1
      simp [row0, hi]
    rw [htk]
    exact (hK.mono fun _ _ y => y.up hz₆).append1 ⟨_, t₅, _, rfl, _, hb, rfl, 0, rfl⟩
  · rintro z₄ rs₀ ra₀ o₀ hz₄ hK hrl' hlo
    refine hand_assign fun s₅ S₅ => ?_
    clear S
    obtain ⟨z₅, hz₅, S, hrz⟩ := S₅.freezeH
    clear S₅
    have hrow0 : RowAt z₅ ra₀ (row0 text) := by
      have e : (row0 text).take text.length = row0 text := List.take_of_length_le (by simp [row0])
      rw [e] at hK
      exact ⟨rs₀, ⟨o₀, hrz, hlo⟩, hK.mono fun _ _ y => y.up hz₅⟩
    have hp₅ := (hp₃.up hz₄).up hz₅
    have hSA₅ := (hSA.up hz₄).up hz₅
    walk_at "go"
    generalize hps : (walkF text text.length).2 = ps at *
    generalize hfin : (walkF text text.length).1 = fin at *
    rename St _ _ _ _ _ _ _ => S
    refine r_while (fun k s' => ∃ z' ra row ns Dn rs od orl rvs l t₁ t₂ r out, St w z' L ((Str.ofString "row", .ref ra) :: (Str.ofString "sorter", .ref x) :: (Str.ofString "parts", .ref pa) :: r) (((dx, od) :: (rl, orl) :: infN l) ++ fl') s s' ∧ Sub z₅ z' ∧ RowAt z' ra row ∧
      Inv ps fin row (viewN l) rs Dn [] ns ∧ SorterAt prog w z₅ x dx nd l ∧ AtO od (at4 nd rl out out t₁ t₂) ∧ LsO orl rvs ∧ All2 IntIs rvs (rs.map fun r : Nat => 100 + (r : Int)) ∧ k = ns.length) (List.range ps.length).length ?_ ?_
    · exact ⟨z₅, ra₀, row0 text, _, _, _, od, orl, rvs, l, t₁, t₂, [], 0, S.perm List.perm_append_comm, Sub.refl _, hrow0, hI, hSA₅, ha, hrl, hrv, rfl⟩
    clear S hrow0 hI hSA₅ hSA ha hrl hrv hview
    clear od orl rvs l t₁ t₂
    rintro k s₆ ⟨z₆, ra, row, ns, Dn, rs, od, orl, rvs, l, t₁, t₂, r, out, S, hz₆, hrow, hI, hSA, ha, hrl, hrv, hk⟩
    have hSA₆ := hSA.up hz₆
    have hrsl := hI.si.rs_len
    have hll : l.length = ps.length := by
      have := hI.si.len
      simpa [viewN] using this
    have hrvl : rvs.length = rs.length := by rw [hrv.1]; simp
    rw [List.length_map] at hrsl
    walk_at "go"
    rename St _ _ _ _ _ _ _ => S
    refine meth_act S (S.keep _ _ hSA₆.inst) (S.get 0 rfl) ha rfl ?_
    walk_at "go"
    rename St _ _ _ _ _ _ _ => S
    refine wpAny_call (is_active (z := z₆) S.top hA' (by omega) (S.keep _ _ hSA₆.inst) (S.get 0 rfl) ha (IsL.of (S.get 1 rfl) hrl) (by omega) fun s₇ sm sb => ?_)
    have S₇ := S.grow sb sm
    clear S sm sb
    have hne : (decide (out < out) || !rvs.isEmpty) = !rs.isEmpty := by
      have : rvs.isEmpty = rs.isEmpty := by
        cases rvs with
        | nil => cases rs with
          | nil => rfl
          | cons => simp at hrvl
        | cons => cases rs with
          | nil => simp at hrvl
          | cons => rfl
      rw [this]; simp
    rw [hne]
    walk_at "go"
    refine ⟨fun hb => ?_, fun hb => ?_⟩
    · have hrs0 : 0 < rs.length := by
        cases rs with
        | nil => cases hb
        | cons => simp
      walk_at "go"
      rename St _ _ _ _ _ _ _ => S
      refine meth_ready S (S.keep _ _ hSA₆.inst) (S.get 0 rfl) ha rfl ?_
      walk_at "go"
      rename St _ _ _ _ _ _ _ => S
      refine wpAny_call (get_ready S.lend hA' (by omega) (hSA₆.up S.subLend) ha hrl hrv (fun r hr => by rw [hll]; simpa using ((hI.si.rsm r).mp hr).1) (by omega) fun s₈ od' orl' l' tb t₁' sm D₈ hr' ha' HH hview' => ?_)
      have S₈ : St w z₆ L _ ((tb, tupO rvs) :: (((dx, od') :: (rl, orl') :: infN l') ++ fl')) s _ := S.back D₈ sm
      clear S D₈ sm
      obtain ⟨z₉, hz₉, S, htb⟩ := S₈.freezeH
      clear S₈
      have hT' : z₉.IsTuple tb rvs.toArray := ⟨_, htb, rfl, 0, rfl⟩
      have hSA' := HH _ hSA
      clear HH
      walk_at "go"
      rename St _ _ _ _ _ _ _ => S
      refine r_text S hA' (by omega) (hrow.up hz₉) (by have := hI.run.ri.len; omega) fun t₁₀ s₁₀ S₁₀ => ?_
      clear S
      walk_at "go"
      rename St _ _ _ _ _ _ _ => S
      obtain ⟨row', G, hP, htx, _, hGn, hGm⟩ := hI.run.par
      have hGm' : ∀ n, n ∈ G ↔ n ∈ rs := fun n => by rw [hGm, hI.rdy]; simp
      have hrsn : ∀ n ∈ rs, n ∈ ns := fun n hn => ((hI.rdy n).mpr (.inl hn)).1
      generalize htb₀ : textOf row = tb₀ at S
      refine r_forTuple (S.norm [(Str.ofString "row", .ref ra), (Str.ofString "before", .str (tx tb₀) t₁₀), (Str.ofString "group", .ref tb), (Str.ofString "sorter", .ref x), (Str.ofString "parts", .ref pa)] (by walk_at "has")) hA'.1 hT'
        (fun j z' m' mu' => ∃ ra row nj G r', m' = (Str.ofString "row", Value.ref ra) :: (Str.ofString "before", Value.str (tx tb₀) t₁₀) :: (Str.ofString "group", Value.ref tb) :: (Str.ofString "sorter", Value.ref x) :: (Str.ofString "parts", Value.ref pa) :: r' ∧ mu' = ((dx, od') :: (rl, orl') :: infN l') ++ fl' ∧ RowAt z' ra row ∧ RL ps fin row' rs ns j row nj G)
        ⟨ra, row, ns, G, _, rfl, rfl, hrow.up hz₉, RL.init hI.run hP hGn hGm'⟩ ?_ ?_
      · clear S
        rintro j v z' m' mu' I o' s₁₁ hvj hz' ⟨ra, row, nj, G, r', rfl, rfl, hrow, hRL⟩ S
        have hj : j < rs.length := by have := (List.getElem?_eq_some_iff.mp hvj).1; omega
        obtain ⟨tj, rfl⟩ := hrv.2 j v (100 + ((rs[j] : Nat) : Int)) hvj (by simp [hj])
        obtain ⟨i, hok, nj', G', hRL'⟩ := hRL.step hI.si.rsnd hj hrsn
        walk_at "go"
        rename St _ _ _ _ _ _ _ => S
        refine r_read S hA' (by omega) hrow (((hp₅.up hz₆).up hz₉).up hz') (by have := hRL.run.ri.len; omega) (by omega) hok fun z'' D' s₁₂ hz'' hrow' S₁₂ => ?_
        clear S
        walk_at "go"
        rename St _ _ _ _ _ _ _ => S
        exact fp_next hz'' ⟨D', _, nj', G', _, rfl, rfl, hrow', hRL'⟩ (S.norm [(Str.ofString "row", .ref D'), (Str.ofString "before", .str (tx tb₀) t₁₀), (Str.ofString "group", .ref tb), (Str.ofString "sorter", .ref x), (Str.ofString "parts", .ref pa)] (by walk_at "has"))
      · clear S
        rintro z' m' mu' s₁₁ hz' ⟨ra', row'', nj, G', r', rfl, rfl, hrow', hRL⟩ S
        have e := hRL.end (by omega)
        subst e
        walk_at "go"
        walk_at "if"
        walk_at "go"
        rename St _ _ _ _ _ _ _ => S
        refine r_decode S hA' (by omega) (by rw [← htb₀]; exact hI.run.row_ok) fun t₁₂ s₁₂ S₁₂ => ?_
        clear S
        walk_at "go"
        rename St _ _ _ _ _ _ _ => S
        refine r_text S hA' (by omega) hrow' (by have := hRL.run.ri.len; omega) fun t₁₃ s₁₃ S₁₃ => ?_
        clear S
        walk_at "go"
        refine Br.no (by rw [htx, htb₀]; simp) ?_
        walk_at "go"
        rename St _ _ _ _ _ _ _ => S
        have hT'' : z'.IsTuple tb rvs.toArray := IsTuple.up hT' hz'
        have hSI₀ := hI.si.out
        rw [List.append_nil, ← hview'] at hSI₀
        refine r_forTuple (S.norm [(Str.ofString "row", .ref ra'), (Str.ofString "sorter", .ref x), (Str.ofString "parts", .ref pa)] (by walk_at "has")) hA'.1 hT''
          (fun j z'' m' mu' => z'' = z' ∧ ∃ od orl rvs' rd l t₂ r', m' = (Str.ofString "row", Value.ref ra') :: (Str.ofString "sorter", Value.ref x) :: (Str.ofString "parts", Value.ref pa) :: r' ∧ mu' = ((dx, od) :: (rl, orl) :: infN l) ++ fl' ∧ SorterAt prog w z₅ x dx nd l ∧
            AtO od (at4 nd rl (out + rs.length) (out + (j : Int)) t₁' t₂) ∧ LsO orl rvs' ∧ All2 IntIs rvs' (rd.map fun r : Nat => 100 + (r : Int)) ∧ SI (ps.map prs) (viewN l) rd ((rs.take j).reverse ++ Dn) (rs.drop j))
          ⟨rfl, od', orl', [], [], l', t₂, _, rfl, rfl, hSA', by simpa using ha', hr', All2.nil, by simpa using hSI₀⟩ ?_ ?_
        · clear S
          rintro j v z'' m' mu' I o' s₁₄ hvj hz'' ⟨rfl, od, orl, rvs', rd, l, t₂, r', rfl, rfl, hSAj, haj, hlj, hrj, hSI⟩ S
          rw [List.append_assoc] at S
          have hj : j < rs.length := by have := (List.getElem?_eq_some_iff.mp hvj).1; omega
          obtain ⟨tj, rfl⟩ := hrv.2 j v (100 + ((rs[j] : Nat) : Int)) hvj (by simp [hj])
          have hdj : rs.drop j = rs[j] :: rs.drop (j + 1) := List.drop_eq_getElem_cons hj
          have htk : rs.take (j + 1) = rs.take j ++ [rs[j]] := by rw [List.take_add_one, List.getElem?_eq_getElem hj]; rfl
          have hmO : rs[j] ∈ rs.drop j := by rw [hdj]; exact .head _
          have hllj : l.length = ps.length := by
            have := hSI.len
            simpa [viewN] using this
          have hnl : rs[j] < (ps.map prs).length := (hSI.dO _ (.inr hmO)).1
          have hvw := hSI.view rs[j] hnl
          have hnp : npV (ps.map prs) ((rs.take j).reverse ++ Dn) (rs.drop j) rs[j] = -1 := by
            unfold npV
            rw [if_neg (hSI.disj _ hmO), if_pos hmO]
          rw [hnp] at hvw
          have hSA'' := ((hSAj.up hz₆).up hz₉).up hz'
          walk_at "go"
          rename St _ _ _ _ _ _ _ => S
          refine meth_done S (S.keep _ _ hSA''.inst) (S.get 0 rfl) haj rfl ?_
          walk_at "go"
          rename St _ _ _ _ _ _ _ => S
          have hrdl := hSI.rs_len
          have hscl : (succN (ps.map prs) rs[j]).length ≤ (ps.map prs).length := nodup_lt_length _ _ (succN_nodup _ _) fun i hi => (succN_mem.mp hi).1
          rw [List.length_map] at hrdl hscl
          refine wpAny_call (done_ (qs := succN (ps.map prs) rs[j]) S.lend hA' (by omega) (hSA''.up S.subLend) haj hlj hrj (by omega) hvw (fun q hq => by rw [hllj]; simpa using (succN_mem.mp hq).1) fun s₁₅ od₂ orl₂ rvs₂ l₂ t₂' sm D₁₅ hlr hri ha₂ HH hview₂ => ?_)
          have S₁₅ : St w z'' L _ (((dx, od₂) :: (rl, orl₂) :: infN l₂) ++ (fl' ++ [(I, o')])) s _ := S.back D₁₅ sm
          clear S D₁₅ sm
          walk_at "go"
          rename St _ _ _ _ _ _ _ => S
          have hSI' := hSI.done hI.g hmO
          rw [← hview₂, hdj, List.erase_cons_head] at hSI'
          refine fp_next (Sub.refl _) ⟨rfl, od₂, orl₂, rvs₂, _, l₂, t₂', _, rfl, rfl, HH _ hSAj, ?_, hlr, hri, ?_⟩ (by
            rw [List.append_assoc]
            exact S.norm [(Str.ofString "row", .ref ra'), (Str.ofString "sorter", .ref x), (Str.ofString "parts", .ref pa)] (by walk_at "has"))
          · have e : out + (((j + 1 : Nat) : Nat) : Int) = out + (j : Int) + 1 := by omega
            rw [e]; exact ha₂
          · rw [htk, List.reverse_append]; exact hSI'
        · clear S
          rintro z'' m' mu' s₁₄ hz'' ⟨rfl, od, orl, rvs', rd, l, t₂, r', rfl, rfl, hSAj, haj, hlj, hrj, hSI⟩ S
          walk_at "go"
          rename St _ _ _ _ _ _ _ => S
          have hlr := hRL.len
          rw [hrvl] at haj hSI hlr
          have hdn : rs.drop rs.length = [] := List.drop_eq_nil_of_le (Nat.le_refl _)
          have htn : rs.take rs.length = rs := List.take_length
          rw [hdn, htn] at hSI
          refine lp_next nj.length (by omega) ⟨z'', ra', row'', nj, _, rd, od, orl, rvs', l, t₁', t₂, _, out + rs.length, S, (hz₆.trans hz₉).trans hz', hrow', ⟨hRL.run, hSI, fun n => ?_, hI.g⟩, hSAj, haj, hlj, hrj, rfl⟩
          rw [hRL.nsm, hI.cov, hrvl, htn, List.mem_append, List.mem_reverse, not_or]
          constructor
          · rintro ⟨⟨a, b⟩, c⟩; exact ⟨a, c, b⟩
          · rintro ⟨a, c, b⟩; exact ⟨⟨a, b⟩, c⟩
    · have hrs0 : rs = [] := by
        cases rs with
        | nil => rfl
        | cons => cases hb
      have hns : ns = [] := by
        by_cases hh : ns = []
        · exact hh
        · obtain ⟨q, hq⟩ := hI.run.prog hh
          rw [hI.rdy, hrs0] at hq
          simp at hq
      subst hns
      have hfin' := hI.run.done
      walk_at "go"
      rename St _ _ _ _ _ _ _ => S
      refine h _ fl' z₆ ra S.same hup' (hz₁.trans (hz₃.trans (hz₄.trans (hz₅.trans hz₆)))) ((S.drop (List.sublist_append_right _ _)).led) (by rw [← hfin']; exact hrow)
end
end Mine
namespace Mine
open PySem PySem.W PyProof.Rows
/-! ## the sort's decisions, upon a strict total order of places -/
structure Ord (n : Nat) (lt : Nat → Nat → Bool) : Prop where
  asym : ∀ i j, i < n → j < n → lt i j = true → lt j i = false
  tr : ∀ i j k, i < n → j < n → k < n → lt i j = true → lt j k = true → lt i k = true
  tot : ∀ i j, i < n → j < n → i ≠ j → lt i j = false → lt j i = true
noncomputable def PN (n : Nat) (p : Array Nat) : Prop := p.Perm (List.range n).toArray
section
variable {n : Nat} {lt : Nat → Nat → Bool} {p : Array Nat}
theorem PN.size (h : PN n p) : p.size = n := by have := Array.Perm.size_eq h; simpa using this
theorem PN.ltn (h : PN n p) {k : Nat} (hk : k < n) : p.getD k 0 < n := by
  have hs := h.size
  have hm : p[k]'(by omega) ∈ p := Array.getElem_mem _
  have := (Array.Perm.mem_iff h).mp hm
  simp at this
  simpa [Array.getD, hs, hk] using this
theorem PN.inj (h : PN n p) {i j : Nat} (hi : i < n) (hj : j < n) (e : p.getD i 0 = p.getD j 0) : i = j := by
  have hs := h.size
  have hn : p.toList.Nodup := ((Array.perm_iff_toList_perm.mp h).nodup_iff).mpr (by simpa using List.nodup_range)
  have e1 : p.toList[i]? = p.toList[j]? := by
    rw [List.getElem?_eq_getElem (by simpa [hs] using hi), List.getElem?_eq_getElem (by simpa [hs] using hj)]
    simp [Array.getD, hs, hi, hj] at e
    simpa using e
  exact (List.getElem?_inj (by simpa [hs] using hi) hn).mp e1
theorem PN.ne (h : PN n p) {i j : Nat} (hi : i < n) (hj : j < n) (e : i ≠ j) : p.getD i 0 ≠ p.getD j 0 := fun q => e (h.inj hi hj q)
noncomputable def Srt (lt : Nat → Nat → Bool) (p : Array Nat) (m : Nat) : Prop := ∀ i j, i < j → j < m → lt (p.getD i 0) (p.getD j 0) = true
theorem srt_adj (O : Ord n lt) (h : PN n p) {m : Nat} (hm : m ≤ n) (ha : ∀ k, 1 ≤ k → k < m → lt (p.getD (k - 1) 0) (p.getD k 0) = true) : Srt lt p m := by
  intro i j hij hj
  induction j with
  | zero => omega
  | succ j ih =>
    have h1 := ha (j + 1) (by omega) hj
    rw [Nat.add_sub_cancel] at h1
    by_cases e : i = j
    · subst e; exact h1
    · exact O.tr _ _ _ (h.ltn (by omega)) (h.ltn (by omega)) (h.ltn (by omega)) (ih (by omega) (by omega)) h1
end
section
variable {n : Nat} {lt : Nat → Nat → Bool} {s : Shared} {cmp : Nat → Nat → (Bool → Shared → Prop) → Shared → Prop} (hc : ∀ i j (C : Bool → Shared → Prop), i < n → j < n → C (lt i j) s → cmp i j C s) (O : Ord n lt)
include hc
theorem asc_wp : ∀ (f a : Nat) (p : Array Nat) {Q : Nat → Shared → Prop}, PN n p → 1 ≤ a → a + f ≤ n → (∀ m, a ≤ m → m ≤ a + f → (∀ k, a ≤ k → k < m → lt (p.getD k 0) (p.getD (k - 1) 0) = false) → (m < a + f → lt (p.getD m 0) (p.getD (m - 1) 0) = true) → Q m s) → (kas_asc p f a).kasWp cmp Q s
  | 0, a, p, Q, _, _, _, h => h a (Nat.le_refl _) (Nat.le_refl _) (fun k h1 h2 => by omega) (fun h => by omega)
  | f + 1, a, p, Q, hp, h1, h2, h => by
    refine hc _ _ _ (hp.ltn (by omega)) (hp.ltn (by omega)) ?_
    cases e : lt (p.getD a 0) (p.getD (a - 1) 0) with
    | true =>
      simp only [if_true]
      exact h a (Nat.le_refl _) (by omega) (fun k h1 h2 => by omega) fun _ => e
    | false =>
      simp only [Bool.false_eq_true, if_false]
      refine asc_wp f (a + 1) p hp (by omega) (by omega) fun m m1 m2 m3 m4 => h m (by omega) (by omega) (fun k k1 k2 => ?_) (fun hm => m4 (by omega))
      by_cases ek : k = a
      · subst ek; exact e
      · exact m3 k (by omega) k2
include O
theorem desc_wp : ∀ (f a : Nat) (p : Array Nat) {Q : Array Nat × Nat × Nat → Shared → Prop}, PN n p → 1 ≤ a → a + f ≤ n → (∀ m, a ≤ m → m ≤ a + f → (∀ k, a ≤ k → k < m → lt (p.getD k 0) (p.getD (k - 1) 0) = true) → Q (p, m, 0) s) → (kas_desc f p a 0).kasWp cmp Q s
  | 0, a, p, Q, _, _, _, h => h a (Nat.le_refl _) (Nat.le_refl _) (fun k h1 h2 => by omega)
  | f + 1, a, p, Q, hp, h1, h2, h => by
    refine hc _ _ _ (hp.ltn (by omega)) (hp.ltn (by omega)) ?_
    cases e : lt (p.getD a 0) (p.getD (a - 1) 0) with
    | true =>
      simp only [if_true, Nat.lt_irrefl, gt_iff_lt, if_false]
      refine desc_wp f (a + 1) p hp (by omega) (by omega) fun m m1 m2 m3 => h m (by omega) (by omega) fun k k1 k2 => ?_
      by_cases ek : k = a
      · subst ek; exact e
      · exact m3 k (by omega) k2
    | false =>
      simp only [Bool.false_eq_true, if_false]
      refine hc _ _ _ (hp.ltn (by omega)) (hp.ltn (by omega)) ?_
      have e2 := O.tot _ _ (hp.ltn (by omega)) (hp.ltn (by omega)) (hp.ne (by omega) (by omega) (by omega)) e
      rw [e2]
      simp only [if_true]
      exact h a (Nat.le_refl _) (by omega) fun k k1 k2 => by omega
theorem rev_get {p : Array Nat} (hp : PN n p) {m : Nat} (hm : m ≤ n) (k : Nat) : (kas_rev p 0 m).getD k 0 = if k < m then p.getD (m - 1 - k) 0 else p.getD k 0 := by
  have h := getElem?_mirror_all (xs := p) (i := 0) (j := m) (by rw [hp.size]; exact hm) k
  have e : ∀ (q : Array Nat) (k : Nat), q.getD k 0 = q[k]?.getD 0 := fun q k => by rw [Array.getD_eq_getD_getElem?]
  rw [e, e, e]
  unfold kas_rev
  rw [h]
  simp only [Nat.zero_le, true_and, Nat.zero_add]
  split <;> rfl
theorem count_wp {p : Array Nat} {Q : Nat × Array Nat → Shared → Prop} (h1 : 1 ≤ n) (hp : PN n p) (h : ∀ m p', PN n p' → 1 ≤ m → m ≤ n → Srt lt p' m → Q (m, p') s) : (kas_count n p).kasWp cmp Q s := by
  unfold kas_count
  rw [KasT.kasWp_bind]
  refine asc_wp hc (n - 1) 1 p hp (Nat.le_refl _) (by omega) fun m m1 m2 m3 m4 => ?_
  have hs : Srt lt p m := srt_adj O hp (by omega) fun k k1 k2 => O.tot _ _ (hp.ltn (by omega)) (hp.ltn (by omega)) (hp.ne (by omega) (by omega) (by omega)) (m3 k k1 k2)
  split
  · exact h m p hp m1 (by omega) hs
  · rename_i hne
    have hne' : m ≠ n := by simpa using hne
    split
    · rename_i hgt
      refine hc _ _ _ (hp.ltn (by omega)) (hp.ltn (by omega)) ?_
      rw [hs 0 (m - 1) (by omega) (by omega)]
      simp only [if_true]
      exact h m p hp m1 (by omega) hs
    · have hm1 : m = 1 := by omega
      subst hm1
      have hd1 := m4 (by omega)
      unfold kas_descPart
      rw [KasT.kasWp_bind]
      refine desc_wp hc O (n - 2) 2 p hp (by omega) (by omega) fun m' d1 d2 d3 => ?_
      simp only [Nat.lt_irrefl, gt_iff_lt, if_false]
      unfold kas_tail3
      rw [KasT.kasWp_bind]
      have hp' : PN n (kas_rev p 0 m') := (mirror_perm p 0 m' _).trans hp
      have hdd : ∀ k, 1 ≤ k → k < m' → lt (p.getD k 0) (p.getD (k - 1) 0) = true := fun k k1 k2 => by
        by_cases e : k = 1
        · subst e; exact hd1
        · exact d3 k (by omega) k2
      refine asc_wp hc (n - m') m' (kas_rev p 0 m') hp' (by omega) (by omega) fun m'' a1 a2 a3 _ => ?_
      refine h m'' (kas_rev p 0 m') hp' (by omega) (by omega) (srt_adj O hp' (by omega) fun k k1 k2 => ?_)
      by_cases hk : k < m'
      · rw [rev_get hc O hp (by omega), rev_get hc O hp (by omega), if_pos (by omega), if_pos hk]
        have := hdd (m' - k) (by omega) (by omega)
        have e1 : m' - 1 - (k - 1) = m' - k := by omega
        have e2 : m' - 1 - k = m' - k - 1 := by omega
        rw [e1, e2]; exact this
      · exact O.tot _ _ (hp'.ltn (by omega)) (hp'.ltn (by omega)) (hp'.ne (by omega) (by omega) (by omega)) (a3 k (by omega) k2)
theorem place_wp {p : Array Nat} {k : Nat} (hp : PN n p) (hk : k < n) (hs : Srt lt p k) {Q : Nat → Shared → Prop} (h : ∀ l, l ≤ k → (∀ i, i < l → lt (p.getD i 0) (p.getD k 0) = true) → (∀ i, l ≤ i → i < k → lt (p.getD k 0) (p.getD i 0) = true) → Q l s) :
    ∀ (f l r : Nat), l ≤ r → r ≤ k → r - l ≤ f → (∀ i, i < l → lt (p.getD i 0) (p.getD k 0) = true) → (∀ i, r ≤ i → i < k → lt (p.getD k 0) (p.getD i 0) = true) → (kas_place p k f l r).kasWp cmp Q s
  | 0, l, r, h1, h2, h3, h4, h5 => h l (by omega) h4 fun i a b => h5 i (by omega) b
  | f + 1, l, r, h1, h2, h3, h4, h5 => by
    unfold kas_place
    split
    · exact h l (by omega) h4 fun i a b => h5 i (by omega) b
    · rename_i hlr
      refine hc _ _ _ (hp.ltn hk) (hp.ltn (by omega)) ?_
      cases e : lt (p.getD k 0) (p.getD ((l + r) / 2) 0) with
      | true =>
        simp only [if_true]
        refine place_wp hp hk hs h f l ((l + r) / 2) (by omega) (by omega) (by omega) h4 fun i a b => ?_
        by_cases ei : i = (l + r) / 2
        · rw [ei]; exact e
        · exact O.tr _ _ _ (hp.ltn hk) (hp.ltn (by omega)) (hp.ltn (by omega)) e (hs _ _ (by omega) (by omega))
      | false =>
        simp only [Bool.false_eq_true, if_false]
        have e2 := O.tot _ _ (hp.ltn hk) (hp.ltn (show (l + r) / 2 < n by omega)) (hp.ne hk (by omega) (by omega)) e
        refine place_wp hp hk hs h f ((l + r) / 2 + 1) r (by omega) h2 (by omega) (fun i a => ?_) h5
        by_cases ei : i = (l + r) / 2
        · rw [ei]; exact e2
        · exact O.tr _ _ _ (hp.ltn (by omega)) (hp.ltn (by omega)) (hp.ltn hk) (hs _ _ (by omega) (by omega)) e2
theorem bin_wp : ∀ (f : Nat) (p : Array Nat) (k : Nat) {Q : Array Nat → Shared → Prop}, PN n p → k + f = n → Srt lt p k → (∀ p', PN n p' → Srt lt p' n → Q p' s) → (kas_bin f p k).kasWp cmp Q s
  | 0, p, k, Q, hp, hk, hs, h => by
    have e : k = n := by omega
    subst e
    exact h p hp hs
  | f + 1, p, k, Q, hp, hk, hs, h => by
    unfold kas_bin
    rw [KasT.kasWp_bind]
    refine place_wp hc O hp (by omega) hs (fun l l1 l2 l3 => ?_) k 0 k (by omega) (by omega) (by omega) (fun i hi => by omega) (fun i a b => by omega)
    have hp' : PN n (bubble p k (k - l)) := (bubble_perm p k (k - l)).trans hp
    have hg : ∀ i, (bubble p k (k - l)).getD i 0 = if i = l then p.getD k 0 else if l < i ∧ i ≤ k then p.getD (i - 1) 0 else p.getD i 0 := fun i => by
      have h := getElem?_bubble (xs := p) (src := k) (by rw [hp.size]; omega) (k - l) (by omega) i
      have e : ∀ (q : Array Nat) (k : Nat), q.getD k 0 = q[k]?.getD 0 := fun q k => by rw [Array.getD_eq_getD_getElem?]
      have ek : k - (k - l) = l := by omega
      rw [ek] at h
      rw [e, h, e, e, e]
      split
      · rfl
      · split <;> rfl
    refine bin_wp f _ (k + 1) hp' (by omega) (fun i j hij hj => ?_) h
    rw [hg, hg]
    by_cases e1 : i = l
    · rw [if_pos e1, if_neg (by omega), if_pos (by omega)]
      exact l3 _ (by omega) (by omega)
    · rw [if_neg e1]
      by_cases e2 : j = l
      · rw [if_pos e2, if_neg (by omega)]
        exact l2 _ (by omega)
      · rw [if_neg e2]
        by_cases e3 : l < i ∧ i ≤ k
        · rw [if_pos e3, if_pos (by omega)]
          exact hs _ _ (by omega) (by omega)
        · rw [if_neg e3]
          by_cases e4 : l < j ∧ j ≤ k
          · rw [if_pos e4]
            exact hs _ _ (by omega) (by omega)
          · rw [if_neg e4]
            exact hs _ _ (by omega) (by omega)
theorem sort_wp {Q : Array Nat → Shared → Prop} (h1 : 1 ≤ n) (h : ∀ p', PN n p' → Srt lt p' n → Q p' s) : (kas_sort n).kasWp cmp Q s := by
  unfold kas_sort
  rw [KasT.kasWp_bind]
  refine count_wp hc O h1 (Array.Perm.refl _) fun m p' hp' m1 m2 hs => ?_
  split
  · have e : max m 1 = m := by omega
    simp only [e]
    exact bin_wp hc O (n - m) p' m hp' (by omega) hs h
  · have : m = n := by omega
    subst this
    exact h p' hp' hs
end
end Mine
namespace Mine
open PySem PySem.W PySem.Calls PyProof.Rows

/-! ## sorted -/
theorem pLt_asym {p q : P} (h : pLt p q = true) : pLt q p = false := by
  simp [pLt] at h ⊢; omega
theorem pLt_trans {p q r : P} (h : pLt p q = true) (h' : pLt q r = true) : pLt p r = true := by
  simp [pLt] at h h' ⊢; omega
theorem pLt_tot {p q : P} (hne : p ≠ q) (h : pLt p q = false) : pLt q p = true := by
  obtain ⟨a, b⟩ := p
  obtain ⟨c, d⟩ := q
  simp [pLt] at h hne ⊢
  omega
theorem ord_of {ps : List P} (hnd : ps.Nodup) : Ord ps.length fun i j => pLt (ps.getD i (0, 0)) (ps.getD j (0, 0)) := by
  refine ⟨fun i j _ _ h => pLt_asym h, fun i j k _ _ _ h h' => pLt_trans h h', fun i j hi hj hne h => pLt_tot (fun e => hne ?_) h⟩
  have e1 : ps[i]? = ps[j]? := by
    rw [List.getElem?_eq_getElem hi, List.getElem?_eq_getElem hj]
    simpa [hi, hj] using e
  exact (List.getElem?_inj hi hnd).mp e1
section
variable {prog : Program} {w : World} {A : Around} {E : Value → Shared → Prop} {s : Shared}
theorem keyLt_pair {x y : Value} {p q : P} {C : Bool → Shared → Prop} (hx : PairAt s.heap x p) (hy : PairAt s.heap y q) (h : C (pLt p q) s) : wpAny (model prog w) A (keyLt' (tuples' true) x y) C E s := by
  obtain ⟨a, t, u, rfl, ox, hox, hcx, nx, hdx⟩ := hx
  obtain ⟨b, t', u', rfl, oy, hoy, hcy, ny, hdy⟩ := hy
  obtain ⟨r, k⟩ := p
  obtain ⟨r', k'⟩ := q
  simp only at hdx hdy
  refine kat_lt hox hdx hoy hdy ?_
  show KatLex prog w A true _ C [(Value.int r t, Value.int r' t'), (Value.int k u, Value.int k' u')] 0 s
  refine kat_cons (SeqAt.EqAt.int_int r t r' t' prog w _ _ ?_)
  by_cases e : r = r'
  · rw [beq_iff_eq.mpr e]
    refine kat_yes (kat_cons (SeqAt.EqAt.int_int k u k' u' prog w _ _ ?_))
    by_cases e2 : k = k'
    · rw [beq_iff_eq.mpr e2]
      refine kat_yes (kat_nil ?_)
      have : pLt (r, k) (r', k') = false := by simp [pLt]; omega
      rw [this] at h
      simpa using h
    · rw [beq_eq_false_iff_ne.mpr e2]
      refine kat_no (kat_one _ _ (PyProof.Rows.lt_int ?_))
      have : pLt (r, k) (r', k') = decide (k < k') := by simp [pLt, e]
      rw [this] at h
      exact h
  · rw [beq_eq_false_iff_ne.mpr e]
    refine kat_no (oneLt_int ?_)
    have : pLt (r, k) (r', k') = decide (r < r') := by simp [pLt, e]
    rw [this] at h
    exact h
theorem katTups {h : Heap} : ∀ {vs : List Value} {ps : List P}, All2 (PairAt h) vs ps → ∃ fs, KatTups h vs fs ∧ fs.length = vs.length ∧ ∀ v ∈ fs, ∃ i t, v = Value.int i t
  | [], _, _ => ⟨[], KatTups.nil, rfl, fun v hv => by cases hv⟩
  | v :: vs, [], x => absurd x.1 (by simp)
  | v :: vs, p :: ps, x => by
    obtain ⟨⟨a, t, u, rfl, o, ho, hc, n, hd⟩, hr⟩ := All2.cons_inv x
    obtain ⟨fs, h1, h2, h3⟩ := katTups hr
    refine ⟨.int p.1 t :: fs, KatTups.cons ho hc hd rfl h1, by simp [h2], fun v hv => ?_⟩
    rcases List.mem_cons.mp hv with rfl | hv
    · exact ⟨_, _, rfl⟩
    · exact h3 v hv
theorem list_sort_pairs {a : Addr} {vs : List Value} {ps : List P} {n : Nat} {R : PySem.Fin → Shared → Prop} (ho : s.heap.get? a = some (seqObj "list" vs.toArray n)) (h64 : vs.length < 64) (hnd : ps.Nodup)
    (hps : ∀ h', (∀ b o, b ≠ a → s.heap.get? b = some o → h'.get? b = some o) → All2 (PairAt h') vs ps)
    (h : ∀ p : Array Nat, PN vs.length p → Srt (fun i j => pLt (ps.getD i (0, 0)) (ps.getD j (0, 0))) p vs.length → R (.done (.ret .none)) { s with heap := sortedHeap s.heap a vs (p.toList.map fun i => vs.getD i Value.none).toArray }) :
    wpAny (model prog w) A (Builtin.«list.sort» ⟨[.ref a], []⟩) R E s := by
  have ha : a < s.heap.objs.size := Heap.lt_size ho
  obtain ⟨e1, ho1⟩ : ∃ e1, (s.heap.update a (Obj.mapSeq fun _ => (#[] : Array Value))).get? a = some (seqObj "list" #[] e1) := ⟨_, get?_update_seq ho fun _ => #[]⟩
  have hkeep : ∀ b o, b ≠ a → s.heap.get? b = some o → (((s.heap.update a (Obj.mapSeq fun _ => (#[] : Array Value))).push (seqObj "tuple" vs.toArray 0)).push (seqObj "list" #[] 0)).get? b = some o := fun b o hb e =>
    Heap.get?_push_of_some _ (Heap.get?_push_of_some _ (by rw [Heap.get?_update_ne _ _ _ _ hb]; exact e))
  have ho6 := Heap.get?_push_of_some (seqObj "list" #[] 0) (Heap.get?_push_of_some (seqObj "tuple" vs.toArray 0) ho1)
  have hps6 := hps _ hkeep
  have hlen := hps6.1
  rw [list_sort_plain]
  refine wpAny_bind (listItems_at ho rfl ?_)
  refine wpAny_bind (listUpdate_at ho rfl ?_ (by rw [List.size_toArray, sizeLine_eq]; omega) (Nat.zero_le _))
  refine wpAny_bind (seqEpoch_at ho1 rfl ?_)
  refine wpAny_bind (wpAny_newTuple ?_ (by show vs.length ≤ _; rw [sizeLine_eq]; omega))
  refine wpAny_bind (wpAny_newList ?_ (Nat.zero_le _))
  refine wpAny_holding ?_
  show wpAny (model prog w) A _ R E { s with heap := ((s.heap.update a (Obj.mapSeq fun _ => (#[] : Array Value))).push (seqObj "tuple" vs.toArray 0)).push (seqObj "list" #[] 0) }
  dsimp only
  by_cases h2 : vs.length < 2
  · have h2' : vs.toArray.size < 2 := by simpa using h2
    rw [if_pos h2', if_pos h2']
    refine wpAny_bind (wpAny_pure ?_)
    rw [StateT.run_pure]
    refine wpAny_bind (wpAny_pure ?_)
    dsimp only
    refine wpAny_bind (seqEpoch_at ho6 rfl ?_)
    have hz : (arrOf (SortSt.mk' general' (vs.toArray.zip vs.toArray) #[] 7 none)).map (·.2) = (((List.range vs.length).toArray).toList.map fun i => vs.getD i Value.none).toArray := by
      show (vs.toArray.zip vs.toArray).map (·.2) = _
      apply Array.toList_inj.mp
      refine List.ext_getElem? fun i => ?_
      by_cases hi : i < vs.length
      · simp [hi]
      · simp [hi]
    refine wpAny_bind (listUpdate_at ho6 rfl ?_ (Nat.zero_le _) (by rw [hz]; simp; rw [sizeLine_eq]; omega))
    simp only [bne_self_eq_false, Bool.false_eq_true, if_false]
    have := h (List.range vs.length).toArray (Array.Perm.refl _) (fun i j hij hj => by omega)
    rw [← hz] at this
    exact wpAny_pure this
  · have h2' : ¬ vs.toArray.size < 2 := by simpa using h2
    rw [if_neg h2', if_neg h2']
    obtain ⟨fs, hft, hfl, hfi⟩ := katTups hps6
    refine wpAny_bind (kat_kind (T := .type "int") hft (by omega) (fun v hv => ?_) rfl ?_)
    · obtain ⟨i, t, rfl⟩ := hfi v hv
      exact .now
    · have run := kat_run (prog := prog) (w := w) (A := A) (E := E) (vs := vs) (ks := vs) (κ := tuples' true) (s := { s with heap := ((s.heap.update a (Obj.mapSeq fun _ => (#[] : Array Value))).push (seqObj "tuple" vs.toArray 0)).push (seqObj "list" #[] 0) })
        (Q := fun st' s' => ∃ p : Array Nat, arrOf st' = p.map (kas_item (vs.toArray.zip vs.toArray)) ∧ failedOf st' = none ∧ PN vs.length p ∧ Srt (fun i j => pLt (ps.getD i (0, 0)) (ps.getD j (0, 0))) p vs.length ∧ s' = { s with heap := ((s.heap.update a (Obj.mapSeq fun _ => (#[] : Array Value))).push (seqObj "tuple" vs.toArray 0)).push (seqObj "list" #[] 0) })
        (G := fun p s' => PN vs.length p ∧ Srt (fun i j => pLt (ps.getD i (0, 0)) (ps.getD j (0, 0))) p vs.length ∧ s' = { s with heap := ((s.heap.update a (Obj.mapSeq fun _ => (#[] : Array Value))).push (seqObj "tuple" vs.toArray 0)).push (seqObj "list" #[] 0) })
        rfl (by omega) h64 (fun p st' s' _ a2 a3 a4 => ⟨p, a2, a3, a4⟩)
        (sort_wp (n := vs.length) (lt := fun i j => pLt (ps.getD i (0, 0)) (ps.getD j (0, 0))) (fun i j C hi hj hC => by
          obtain ⟨vi, hvi, hpi⟩ := hps6.get (List.getElem?_eq_getElem (show i < ps.length by omega))
          obtain ⟨vj, hvj, hpj⟩ := hps6.get (List.getElem?_eq_getElem (show j < ps.length by omega))
          have e1 : vs.getD i Value.none = vi := by simp [hvi]
          have e2 : vs.getD j Value.none = vj := by simp [hvj]
          have e3 : ps.getD i (0, 0) = ps[i] := by simp [show i < ps.length by omega]
          have e4 : ps.getD j (0, 0) = ps[j] := by simp [show j < ps.length by omega]
          show wpAny (model prog w) A (keyLt' (tuples' true) (vs.getD i Value.none) (vs.getD j Value.none)) C (fun _ _ => False) _
          rw [e1, e2]
          refine keyLt_pair hpi hpj ?_
          rw [← e3, ← e4]; exact hC) (by rw [hlen]; exact ord_of hnd) (by omega) fun p' hp' hs' => ⟨hp', hs', rfl⟩)
      refine wpAny_bind (wpAny_mono run ?_ fun _ _ e => e)
      rintro ⟨⟨⟩, st'⟩ s' ⟨p, har, hf, hp, hs, rfl⟩
      dsimp only
      refine wpAny_bind (seqEpoch_at ho6 rfl ?_)
      have hout := kat_snds rfl har
      refine wpAny_bind (listUpdate_at ho6 rfl ?_ (Nat.zero_le _) (by rw [hout]; simp; rw [hp.size, sizeLine_eq]; omega))
      rw [hf]
      simp only [bne_self_eq_false, Bool.false_eq_true, if_false]
      have := h p hp hs
      rw [← hout] at this
      exact wpAny_pure this
end
end Mine
namespace Mine
/-! ## the heap, plainly -/
noncomputable def nlt (p q : P) : Prop := pLt p q = false
theorem nlt_trans {p q r : P} (h : nlt q p) (h' : nlt r q) : nlt r p := by
  simp [nlt, pLt] at h h' ⊢; omega
theorem nlt_of {p q : P} (h : pLt p q = true) : nlt q p := pLt_asym h
noncomputable abbrev gd (l : List P) (i : Nat) : P := l.getD i (0, 0)
theorem gd_set {l : List P} {i j : Nat} {x : P} (hi : i < l.length) : gd (l.set i x) j = if j = i then x else gd l j := by
  unfold gd
  rw [List.getD_eq_getElem?_getD, List.getElem?_set]
  by_cases h : i = j
  · subst h; simp [hi]
  · have h' : ¬ j = i := fun e => h e.symm
    simp [h, h']
noncomputable def HP (l : List P) : Prop := ∀ i, 0 < i → i < l.length → nlt (gd l i) (gd l ((i - 1) / 2))
/-- all stands but at pos -/
structure Up (l : List P) (pos : Nat) : Prop where
  rel : ∀ i, 0 < i → i < l.length → i ≠ pos → nlt (gd l i) (gd l ((i - 1) / 2))
  gp : 0 < pos → ∀ c, 0 < c → c < l.length → (c - 1) / 2 = pos → nlt (gd l c) (gd l ((pos - 1) / 2))
theorem getD_gd {l : List P} {i : Nat} {x : P} (h : i < l.length) : l.getD i x = gd l i := by simp [gd, h]
theorem sdF_ok : ∀ (pos : Nat) (l : List P) (x : P), pos < l.length → Up (l.set pos x) pos → HP (sdF l x pos) ∧ (sdF l x pos).Perm (l.set pos x) := by
  intro pos
  induction pos using Nat.strongRecOn with
  | ind pos ih =>
    intro l x hp U
    unfold sdF
    split
    · rename_i h0
      subst h0
      exact ⟨fun i h1 h2 => U.rel i h1 h2 (by omega), List.Perm.refl _⟩
    · rename_i h0
      have hpar : (pos - 1) / 2 < l.length := by omega
      have hne : (pos - 1) / 2 ≠ pos := by omega
      rw [getD_gd hpar]
      split
      · rename_i hlt
        have hl : (l.set pos (gd l ((pos - 1) / 2))).length = l.length := List.length_set
        have hg : ∀ j, gd ((l.set pos (gd l ((pos - 1) / 2))).set ((pos - 1) / 2) x) j = if j = (pos - 1) / 2 then x else if j = pos then gd l ((pos - 1) / 2) else gd l j := fun j => by
          rw [gd_set (by rw [hl]; exact hpar), gd_set hp]
        have ho : ∀ j, gd (l.set pos x) j = if j = pos then x else gd l j := fun j => gd_set hp
        have U' : Up ((l.set pos (gd l ((pos - 1) / 2))).set ((pos - 1) / 2) x) ((pos - 1) / 2) := by
          refine ⟨fun i i1 i2 i3 => ?_, fun g0 c c1 c2 c3 => ?_⟩
          · rw [List.length_set, List.length_set] at i2
            rw [hg, hg, if_neg i3]
            have hold : i ≠ pos → nlt (gd (l.set pos x) i) (gd (l.set pos x) ((i - 1) / 2)) := fun h => U.rel i i1 (by rw [List.length_set]; exact i2) h
            by_cases e1 : i = pos
            · subst e1
              rw [if_pos rfl, if_pos rfl]
              exact nlt_of hlt
            · rw [if_neg e1]
              have h1 := hold e1
              rw [ho, ho, if_neg e1] at h1
              by_cases e2 : (i - 1) / 2 = (pos - 1) / 2
              · rw [if_pos e2]
                rw [e2, if_neg hne] at h1
                exact nlt_trans (nlt_of hlt) h1
              · rw [if_neg e2]
                by_cases e3 : (i - 1) / 2 = pos
                · rw [if_pos e3]
                  have h2 := U.gp (by omega) i i1 (by rw [List.length_set]; exact i2) e3
                  rw [ho, ho, if_neg e1, if_neg hne] at h2
                  exact h2
                · rw [if_neg e3]
                  rw [if_neg e3] at h1
                  exact h1
          · rw [List.length_set, List.length_set] at c2
            have hgp : ((pos - 1) / 2 - 1) / 2 ≠ pos := by omega
            have hgp2 : ((pos - 1) / 2 - 1) / 2 ≠ (pos - 1) / 2 := by omega
            have hpg := U.rel ((pos - 1) / 2) g0 (by rw [List.length_set]; exact hpar) hne
            rw [ho, ho, if_neg hne, if_neg hgp] at hpg
            rw [hg, hg, if_neg (by omega : ¬ c = (pos - 1) / 2), if_neg hgp2, if_neg hgp]
            by_cases e1 : c = pos
            · rw [if_pos e1]; exact hpg
            · rw [if_neg e1]
              have h1 := U.rel c c1 (by rw [List.length_set]; exact c2) e1
              rw [c3, ho, ho, if_neg e1, if_neg hne] at h1
              exact nlt_trans hpg h1
        obtain ⟨r1, r2⟩ := ih ((pos - 1) / 2) (by omega) (l.set pos (gd l ((pos - 1) / 2))) x (by rw [hl]; exact hpar) U'
        refine ⟨r1, r2.trans ?_⟩
        have hp2 : pos < (l.set pos x).length := by rw [List.length_set]; exact hp
        have hpar2 : (pos - 1) / 2 < (l.set pos x).length := by rw [List.length_set]; exact hpar
        have := List.set_set_perm (as := l.set pos x) hp2 hpar2
        have e1 : (l.set pos x)[(pos - 1) / 2] = gd l ((pos - 1) / 2) := by
          rw [List.getElem_set]
          rw [if_neg (by omega)]
          simp [gd, hpar]
        have e2 : (l.set pos x)[pos] = x := by simp
        rw [e1, e2, List.set_set] at this
        exact this
      · rename_i hlt
        refine ⟨fun i h1 h2 => ?_, List.Perm.refl _⟩
        by_cases e : i = pos
        · subst e
          rw [gd_set hp, gd_set hp, if_pos rfl, if_neg hne]
          simpa [nlt] using hlt
        · exact U.rel i h1 h2 e
/-- a hole at pos -/
structure Hole (l : List P) (pos : Nat) : Prop where
  rel : ∀ i, 0 < i → i < l.length → i ≠ pos → (i - 1) / 2 ≠ pos → nlt (gd l i) (gd l ((i - 1) / 2))
  gp : 0 < pos → ∀ c, 0 < c → c < l.length → (c - 1) / 2 = pos → nlt (gd l c) (gd l ((pos - 1) / 2))
theorem suF_ok (l : List P) (x : P) (pos : Nat) : pos < l.length → Hole l pos → HP (suF l x pos) ∧ (suF l x pos).Perm (l.set pos x) := by
  fun_induction suF l x pos with
  | case1 l pos h c ih =>
    intro hp H
    have hc : c = 2 * pos + 2 ∧ 2 * pos + 2 < l.length ∧ pLt (gd l (2 * pos + 1)) (gd l (2 * pos + 2)) = false ∨ c = 2 * pos + 1 ∧ (2 * pos + 2 < l.length → nlt (gd l (2 * pos + 2)) (gd l (2 * pos + 1))) := by
      by_cases hh : 2 * pos + 2 < l.length ∧ pLt (l.getD (2 * pos + 1) x) (l.getD (2 * pos + 2) x) = false
      · left
        refine ⟨if_pos hh, hh.1, ?_⟩
        have := hh.2
        rw [getD_gd h, getD_gd hh.1] at this
        exact this
      · right
        refine ⟨if_neg hh, fun h2 => ?_⟩
        have h3 : ¬ pLt (l.getD (2 * pos + 1) x) (l.getD (2 * pos + 2) x) = false := fun e => hh ⟨h2, e⟩
        rw [getD_gd h, getD_gd h2] at h3
        exact nlt_of (by simpa using h3)
    have hcl : c < l.length := by rcases hc with h1 | h1 <;> omega
    have hcp : (c - 1) / 2 = pos := by rcases hc with h1 | h1 <;> omega
    have hc0 : pos < c := by rcases hc with h1 | h1 <;> omega
    have hsib : ∀ i, 0 < i → i < l.length → (i - 1) / 2 = pos → nlt (gd l i) (gd l c) := fun i i1 i2 i3 => by
      have hi : i = 2 * pos + 1 ∨ i = 2 * pos + 2 := by omega
      rcases hc with ⟨h1, h2, h3⟩ | ⟨h1, h2⟩
      · rw [h1]
        rcases hi with rfl | rfl
        · exact h3
        · simp [nlt, pLt]
      · rw [h1]
        rcases hi with rfl | rfl
        · simp [nlt, pLt]
        · exact h2 i2
    rw [getD_gd hcl] at ih ⊢
    have hg : ∀ j, gd (l.set pos (gd l c)) j = if j = pos then gd l c else gd l j := fun j => gd_set hp
    have H' : Hole (l.set pos (gd l c)) c := by
      refine ⟨fun i i1 i2 i3 i4 => ?_, fun _ d d1 d2 d3 => ?_⟩
      · rw [List.length_set] at i2
        rw [hg, hg]
        by_cases e1 : i = pos
        · subst e1
          rw [if_pos rfl, if_neg (by omega)]
          exact H.gp (by omega) c (by omega) hcl hcp
        · rw [if_neg e1]
          by_cases e2 : (i - 1) / 2 = pos
          · rw [if_pos e2]; exact hsib i i1 i2 e2
          · rw [if_neg e2]; exact H.rel i i1 i2 e1 e2
      · rw [List.length_set] at d2
        rw [hg, hg, hcp, if_neg (by omega), if_pos rfl]
        have := H.rel d d1 d2 (by omega) (by omega)
        rw [d3] at this
        exact this
    obtain ⟨r1, r2⟩ := ih (by rw [List.length_set]; exact hcl) H'
    refine ⟨r1, r2.trans ?_⟩
    have hp2 : pos < (l.set pos x).length := by rw [List.length_set]; exact hp
    have hc2 : c < (l.set pos x).length := by rw [List.length_set]; exact hcl
    have := List.set_set_perm (as := l.set pos x) hp2 hc2
    have e1 : (l.set pos x)[c] = gd l c := by
      rw [List.getElem_set, if_neg (by omega)]
      simp [gd, hcl]
    have e2 : (l.set pos x)[pos] = x := by simp
    rw [e1, e2, List.set_set] at this
    exact this
  | case2 l pos h =>
    intro hp H
    have hU : Up ((l.set pos x).set pos x) pos := by
      have e : (l.set pos x).set pos x = l.set pos x := by rw [List.set_set]
      rw [e]
      refine ⟨fun i i1 i2 i3 => ?_, fun _ c c1 c2 c3 => ?_⟩
      · rw [List.length_set] at i2
        rw [gd_set hp, gd_set hp, if_neg i3, if_neg (by omega)]
        exact H.rel i i1 i2 i3 (by omega)
      · rw [List.length_set] at c2; omega
    have := sdF_ok pos (l.set pos x) x (by rw [List.length_set]; exact hp) hU
    rw [List.set_set] at this
    exact this
theorem push_ok {l : List P} (H : HP l) (x : P) : HP (sdF (l ++ [x]) x l.length) ∧ (sdF (l ++ [x]) x l.length).Perm (l ++ [x]) := by
  have e : (l ++ [x]).set l.length x = l ++ [x] := by simp
  have hg : ∀ i, i < l.length → gd (l ++ [x]) i = gd l i := fun i hi => by simp [gd, List.getElem?_append_left hi]
  have := sdF_ok l.length (l ++ [x]) x (by simp) (by
    rw [e]
    refine ⟨fun i i1 i2 i3 => ?_, fun _ c c1 c2 c3 => ?_⟩
    · simp at i2
      rw [hg i (by omega), hg _ (by omega)]
      exact H i i1 (by omega)
    · simp at c2; omega)
  rw [e] at this
  exact this
theorem pop_ok {q : List P} {y : P} (H : HP (q ++ [y])) : HP (popF q y).2 ∧ ((popF q y).1 :: (popF q y).2).Perm (q ++ [y]) ∧ (popF q y).1 = gd (q ++ [y]) 0 := by
  cases q with
  | nil => exact ⟨fun i h1 h2 => by simp [popF] at h2, List.Perm.refl _, rfl⟩
  | cons p r =>
    have hg : ∀ i, 0 < i → i < (y :: r).length → gd (y :: r) i = gd (p :: r ++ [y]) i := fun i i1 i2 => by
      match i, i1 with
      | i + 1, _ =>
        simp at i2
        simp [gd, List.getElem?_append_left i2]
    have h := suF_ok (y :: r) y 0 (by simp) ⟨fun i i1 i2 i3 i4 => by
      rw [hg i i1 i2, hg _ (by omega) (by omega)]
      exact H i i1 (by simp at i2 ⊢; omega), fun h => by omega⟩
    refine ⟨h.1, ?_, rfl⟩
    have h2 : (suF (y :: r) y 0).Perm (y :: r) := by simpa using h.2
    show (p :: suF (y :: r) y 0).Perm (p :: (r ++ [y]))
    exact List.Perm.cons _ (h2.trans (List.perm_append_comm (l₁ := [y]) (l₂ := r)))
theorem HP.min {l : List P} (H : HP l) : ∀ i, i < l.length → nlt (gd l i) (gd l 0) := by
  intro i
  induction i using Nat.strongRecOn with
  | ind i ih =>
    intro hi
    by_cases h : i = 0
    · subst h; simp [nlt, pLt]
    · exact nlt_trans (ih ((i - 1) / 2) (by omega) (by omega)) (H i (by omega) hi)
/-- what the law asks of heappop -/
theorem pop_sorted {q srt srt' : List P} {y : P} (H : HP (q ++ [y])) (hnd : (q ++ [y]).Nodup) (h1 : srt.Perm (q ++ [y])) (h2 : srt.Pairwise fun a b => pLt a b = true) (h3 : srt'.Perm (popF q y).2) (h4 : srt'.Pairwise fun a b => pLt a b = true) : (popF q y).1 :: srt' = srt := by
  obtain ⟨p1, p2, p3⟩ := pop_ok H
  have hp : ((popF q y).1 :: srt').Perm srt := ((List.Perm.cons _ h3).trans p2).trans h1.symm
  refine List.Perm.eq_of_pairwise (le := fun a b => pLt a b = true) (fun a b _ _ e1 e2 => ?_) ?_ h2 hp
  · rw [pLt_asym e1] at e2; cases e2
  · refine List.pairwise_cons.mpr ⟨fun b hb => ?_, h4⟩
    have hb' : b ∈ (popF q y).2 := h3.mem_iff.mp hb
    have hbq : b ∈ q ++ [y] := p2.mem_iff.mp (.tail _ hb')
    obtain ⟨i, hi, e⟩ := List.mem_iff_getElem.mp hbq
    have hm := H.min i hi
    have e2 : gd (q ++ [y]) i = b := by rw [← e]; unfold gd; rw [List.getD_eq_getElem?_getD, List.getElem?_eq_getElem hi]; rfl
    rw [e2, ← p3] at hm
    have hnd2 := (p2.nodup_iff).mpr hnd
    rw [List.nodup_cons] at hnd2
    exact pLt_tot (fun e => hnd2.1 (e ▸ hb')) hm
end Mine
namespace Mine
open PySem PySem.W PySem.Calls PyProof.Rows

/-! ## rules: sorted, equality of lists, loops over pairs, the heap -/
section
variable {prog : Program} {w : World} {A : Around} {E : Value → Shared → Prop} {s s₀ : Shared} {z : Heap} {L a b : Addr} {m : List (Str × Value)} {mu : List (Addr × Obj)} {env : Env}
theorem St.addNew {D : Addr} {o : Obj} {s' : Shared} (S : St w z L m mu s₀ s) (k : Sub s.heap s'.heap) (sm : Same s s') (hD : s.heap.objs.size ≤ D) (ho : s'.heap.get? D = some o) : St w z L m ((D, o) :: mu) s₀ s' := by
  have S' := S.grow k sm
  have hlt : ∀ b o, s.heap.get? b = some o → b ≠ D := fun b o e q => absurd (Heap.lt_size e) (by rw [q]; exact Nat.not_lt.mpr hD)
  refine ⟨S'.ns, S'.keep, S'.off, fun p hp => ?_, ?_, S'.bot, S'.same⟩
  · rcases List.mem_cons.mp hp with rfl | hp
    · refine ⟨ho, ?_, ?_⟩
      · obtain ⟨oL, _, _, hL, _⟩ := S.ns
        exact (hlt _ _ hL).symm
      · cases q : z.get? D with
        | none => rfl
        | some o' => exact absurd rfl (hlt _ _ (S.keep _ _ q))
    · exact S'.mus p hp
  · rw [List.map_cons, List.nodup_cons]
    refine ⟨fun q => ?_, S.nd⟩
    obtain ⟨p, hp, e⟩ := List.mem_map.mp q
    exact hlt _ _ (S.mus p hp).1 e
theorem intsAre_of : ∀ {vs : List Value} {ns : List Int}, All2 IntIs vs ns → IntsAre vs ns
  | [], [], _ => .nil
  | [], _ :: _, x => absurd x.1 (by simp)
  | _ :: _, [], x => absurd x.1 (by simp)
  | v :: vs, n :: ns, x => by
    obtain ⟨⟨t, rfl⟩, hr⟩ := All2.cons_inv x
    exact .cons n t (intsAre_of hr)
theorem of_intsAre {vs : List Value} {ns : List Int} (x : IntsAre vs ns) : All2 IntIs vs ns := by
  induction x with
  | nil => exact All2.nil
  | cons n t _ ih => exact All2.cons ⟨t, rfl⟩ ih
theorem r_sortedI {vs : List Value} {ns : List Int} {Q : Value → Shared → Prop} (S : St w z L m mu s₀ s) (hl : IsL s.heap a vs) (hi : All2 IntIs vs ns) (h64 : vs.length < 64)
    (h : ∀ D s' o out ns', LsO o out → All2 IntIs out ns' → ns'.Perm ns → ns'.Pairwise (· ≤ ·) → St w z L m ((D, o) :: mu) s₀ s' → Q (.ref D) s') : wpAny (model prog w) A (call (.builtin "sorted") [.ref a]) Q E s := by
  refine sorted_ints hl.isList (intsAre_of hi) h64 fun out ns' h1 h2 h3 => ?_
  obtain ⟨e, ho⟩ := sortedAll_at s.heap vs out
  refine h _ _ _ out.toList ns' ⟨e, ?_⟩ (of_intsAre h1) h2 h3 (S.addNew (s' := { s with heap := sortedAll s.heap vs out }) (fun b o e => sortedAll_old e) ⟨rfl, rfl, rfl⟩ (Nat.le_succ _) ho)
  simp [seqObj]
theorem r_sortedP {vs : List Value} {ps : List P} {Q : Value → Shared → Prop} (S : St w z L m mu s₀ s) (hl : IsL s.heap a vs) (G : Value → P → Prop) (hG : ∀ v p, G v p → PairAt s.heap v p) (hva : All2 G vs ps) (h64 : vs.length < 64) (hnd : ps.Nodup)
    (h : ∀ D s' o out qs, LsO o out → All2 G out qs → qs.Perm ps → (qs.Pairwise fun a b => pLt a b = true) → St w z L m ((D, o) :: mu) s₀ s' → Q (.ref D) s') : wpAny (model prog w) A (call (.builtin "sorted") [.ref a]) Q E s := by
  have hlen := hva.1
  refine Calls.call_function_entry kind_sorted plain_sorted entry_sorted (args_sorted1 _) ?_
  unfold Builtin.«sorted»
  refine wpAny_bind (m := checkCount "sorted" 1 1 _) (wpAny_pure ?_)
  refine wpAny_bind (collect_list hl.isList ?_ (by rw [sizeLine_eq]; omega))
  refine wpAny_bind (wpAny_newList ?_ (by rw [sizeLine_eq]; omega))
  have hsz : ((s.heap.push (seqObj "list" #[] 0)).update s.heap.objs.size (Obj.mapSeq (· ++ vs.toArray))).objs.size = s.heap.objs.size + 1 := by
    rw [Heap.size_update, size_push']
  have hoL : (((s.heap.push (seqObj "list" #[] 0)).update s.heap.objs.size (Obj.mapSeq (· ++ vs.toArray))).push (seqObj "list" vs.toArray 0)).get? (s.heap.objs.size + 1) = some (seqObj "list" vs.toArray 0) := by
    rw [← hsz]; exact Heap.get?_push_size _ rfl
  have keep : ∀ b o, s.heap.get? b = some o → b ≠ s.heap.objs.size + 1 ∧ (((s.heap.push (seqObj "list" #[] 0)).update s.heap.objs.size (Obj.mapSeq (· ++ vs.toArray))).push (seqObj "list" vs.toArray 0)).get? b = some o := fun b o q => by
    have hlt : b < s.heap.objs.size := Heap.lt_size q
    refine ⟨Nat.ne_of_lt (Nat.lt_succ_of_lt hlt), ?_⟩
    rw [Heap.get?_push_ne _ _ _ (by rw [hsz]; exact Nat.ne_of_lt (Nat.lt_succ_of_lt hlt)), Heap.get?_update_ne _ _ _ _ (Nat.ne_of_lt hlt), Heap.get?_push_ne _ _ _ (Nat.ne_of_lt hlt)]
    exact q
  show wpAny _ _ _ _ _ { s with heap := ((s.heap.push (seqObj "list" #[] 0)).update s.heap.objs.size (Obj.mapSeq (· ++ vs.toArray))).push (seqObj "list" vs.toArray 0) }
  rw [hsz]
  refine wpAny_bind (wpAny_holding (wpAny_call_entry slot_list_sort ⟨_, hoL, rfl⟩ entry_list_sort (list_sort_pairs (ps := ps) hoL h64 hnd (fun h' hk => hva.mono fun v p x => (hG v p x).up fun b o e => hk b o (keep b o e).1 (keep b o e).2) fun p hp hs => ⟨_, rfl, ?_⟩) (args_list_sort _)))
  refine wpAny_pure ⟨_, rfl, ?_⟩
  obtain ⟨e, ho⟩ := sortedAll_at s.heap vs (p.toList.map fun i => vs.getD i Value.none).toArray
  have hps := hp.size
  have hlt : ∀ i ∈ p.toList, i < vs.length := fun i hi => by
    have := (Array.perm_iff_toList_perm.mp hp).mem_iff.mp hi
    simpa using this
  refine h _ _ _ (p.toList.map fun i => vs.getD i Value.none) (p.toList.map fun i => ps.getD i (0, 0)) ⟨e, rfl⟩ ?_ ?_ ?_ (S.addNew (s' := { s with heap := sortedAll s.heap vs (p.toList.map fun i => vs.getD i Value.none).toArray }) (fun b o e => sortedAll_old e) ⟨rfl, rfl, rfl⟩ (Nat.le_succ _) ho)
  · refine ⟨by simp, fun j v q hv hq => ?_⟩
    rw [List.getElem?_map] at hv hq
    obtain ⟨i, hi, rfl⟩ := Option.map_eq_some_iff.mp hv
    rw [hi, Option.map_some] at hq
    cases hq
    have hil := hlt i (List.mem_of_getElem? hi)
    refine hva.2 i _ _ ?_ ?_
    · rw [List.getElem?_eq_getElem hil]; simp [hil]
    · rw [List.getElem?_eq_getElem (by omega)]; simp [show i < ps.length by omega]
  · have h1 := (Array.perm_iff_toList_perm.mp hp).map fun i => ps.getD i (0, 0)
    have h2 : ((List.range vs.length).toArray.toList.map fun i => ps.getD i (0, 0)) = ps := by
      refine List.ext_getElem? fun i => ?_
      by_cases hi : i < ps.length
      · simp [hlen, hi]
      · simp [hlen, hi]
    rw [h2] at h1
    exact h1
  · rw [List.pairwise_map, List.pairwise_iff_getElem]
    intro i j hi hj hij
    have hi' : i < vs.length := by simpa [hps] using hi
    have hj' : j < vs.length := by simpa [hps] using hj
    have := hs i j hij hj'
    simpa [Array.getD, hps, hi', hj'] using this
/-- lists, place by place -/
theorem all_range {α : Type} [DecidableEq α] (l l' : List α) (d : α) (h : l.length = l'.length) : ((List.range l.length).all fun j => decide (l.getD j d = l'.getD j d)) = decide (l = l') := by
  rw [Bool.eq_iff_iff, List.all_eq_true, decide_eq_true_eq]
  constructor
  · intro hh
    refine List.ext_getElem? fun i => ?_
    by_cases hi : i < l.length
    · have := hh i (List.mem_range.mpr hi)
      rw [decide_eq_true_eq] at this
      rw [List.getElem?_eq_getElem hi, List.getElem?_eq_getElem (by omega)]
      simpa [hi, show i < l'.length by omega] using this
    · rw [List.getElem?_eq_none (by omega), List.getElem?_eq_none (by omega)]
  · rintro rfl
    intro j _
    simp
section
variable {α : Type} [DecidableEq α] {F : Value → α → Prop} {rs rs' : List Value} {l l' : List α} {Q : Value → Shared → Prop}
theorem at_of (d : α) (hr : All2 F rs l) (hr' : All2 F rs' l') (hF : ∀ v v' p q, F v p → F v' q → SeqAt.EqAt A s v v' (decide (p = q))) : ∀ j (h1 : j < rs.toArray.size) (h2 : j < rs'.toArray.size), SeqAt.EqAt A s rs.toArray[j] rs'.toArray[j] (decide (l.getD j d = l'.getD j d)) := by
  intro j h1 h2
  have h1' : j < rs.length := by simpa using h1
  have h2' : j < rs'.length := by simpa using h2
  have k1 : j < l.length := by rw [← hr.1]; exact h1'
  have k2 : j < l'.length := by rw [← hr'.1]; exact h2'
  have e := hr.2 j rs[j] l[j] (List.getElem?_eq_getElem h1') (List.getElem?_eq_getElem k1)
  have e' := hr'.2 j rs'[j] l'[j] (List.getElem?_eq_getElem h2') (List.getElem?_eq_getElem k2)
  have g1 : l.getD j d = l[j] := by simp [k1]
  have g2 : l'.getD j d = l'[j] := by simp [k2]
  rw [g1, g2]
  have := hF _ _ _ _ e e'
  simpa using this
theorem r_eqL (d : α) (hu : A.units < cLine) (hl : IsL s.heap a rs) (hl' : IsL s.heap b rs') (hr : All2 F rs l) (hr' : All2 F rs' l') (hF : ∀ v v' p q, F v p → F v' q → SeqAt.EqAt A.in1 s v v' (decide (p = q))) (h : Q (.bool (decide (l = l'))) s) :
    wpAny (model prog w) A (compareOp .Eq (.ref a) (.ref b)) Q E s := by
  by_cases hsz : rs.length = rs'.length
  · refine SeqAt.eq_listAt (e := fun j => decide (l.getD j d = l'.getD j d)) hl.isList hl'.isList (by simpa using hsz) hu (at_of d hr hr' hF) ?_
    have e : rs.toArray.size = l.length := by rw [List.size_toArray]; exact hr.1
    rw [e, all_range l l' d (by rw [← hr.1, ← hr'.1]; exact hsz)]
    exact h
  · refine SeqAt.eq_list_lengthsAt hl.isList hl'.isList (by simpa using hsz) hu ?_
    have : decide (l = l') = false := by
      rw [decide_eq_false_iff_not]
      rintro rfl
      exact hsz (hr.1.trans hr'.1.symm)
    rw [this] at h; exact h
theorem r_neL (d : α) (hu : A.units < cLine) (hl : IsL s.heap a rs) (hl' : IsL s.heap b rs') (hr : All2 F rs l) (hr' : All2 F rs' l') (hF : ∀ v v' p q, F v p → F v' q → SeqAt.EqAt A.in1 s v v' (decide (p = q))) (h : Q (.bool (!decide (l = l'))) s) :
    wpAny (model prog w) A (compareOp .NotEq (.ref a) (.ref b)) Q E s := by
  obtain ⟨n, ho⟩ := hl.at
  obtain ⟨n2, ho2⟩ := hl'.at
  by_cases hsz : rs.length = rs'.length
  · have hsz' : rs.toArray.size = rs'.toArray.size := by simpa using hsz
    have e : rs.toArray.size = l.length := by rw [List.size_toArray]; exact hr.1
    have hall := all_range l l' d (by rw [← hr.1, ← hr'.1]; exact hsz)
    rw [← hall, ← e] at h
    exact richCompare_meets_room (op := .NotEq) ⟨_, ho, rfl⟩ ⟨_, ho2, rfl⟩ PySem.F.slot_list_ne PySem.F.entry_list_ne (PySem.F.args_list_ne_2 _ _) (SeqAt.list_neAt a b rs.toArray rs'.toArray n n2 none none #[] #[] hsz' fun j => decide (l.getD j d = l'.getD j d))
      ⟨ho, ho2, at_of d hr hr' hF, show Value.bool _ ≠ Value.notImplemented ∧ Q _ s from ⟨(fun x => nomatch x), h⟩⟩ hu
  · have hsz' : (rs.toArray.size != rs'.toArray.size) = true := by simpa using hsz
    have : decide (l = l') = false := by
      rw [decide_eq_false_iff_not]
      rintro rfl
      exact hsz (hr.1.trans hr'.1.symm)
    rw [this] at h
    exact richCompare_meets_room (op := .NotEq) ⟨_, ho, rfl⟩ ⟨_, ho2, rfl⟩ PySem.F.slot_list_ne PySem.F.entry_list_ne (PySem.F.args_list_ne_2 _ _) (SeqAt.list_ne_lengthsAt a b rs.toArray rs'.toArray n n2 none none #[] #[] hsz')
      ⟨ho, ho2, show Value.bool true ≠ Value.notImplemented ∧ Q _ s from ⟨(fun x => nomatch x), h⟩⟩ hu
end
theorem eqAt_int {v v' : Value} {i j : Int} (x : IntIs v i) (y : IntIs v' j) : SeqAt.EqAt A s v v' (decide (i = j)) := by
  obtain ⟨t, rfl⟩ := x
  obtain ⟨u, rfl⟩ := y
  have := SeqAt.EqAt.int_int (A := A) (s := s) i t j u
  rw [show (i == j) = decide (i = j) by rw [Bool.eq_iff_iff]; simp] at this
  exact this
theorem eqAt_pair {v v' : Value} {p q : P} (x : PairAt s.heap v p) (y : PairAt s.heap v' q) (hu : A.units < cLine) : SeqAt.EqAt A s v v' (decide (p = q)) := by
  obtain ⟨c, t, u, rfl, hc⟩ := x
  obtain ⟨d, t', u', rfl, hd⟩ := y
  by_cases e : c = d
  · subst e
    have : p = q := by
      obtain ⟨o, ho, _, n, h1⟩ := hc
      obtain ⟨o', ho', _, n', h1'⟩ := hd
      rw [ho] at ho'; cases ho'
      rw [h1] at h1'
      injection h1' with h2 _
      have h3 := congrArg Array.toList h2
      simp at h3
      exact Prod.ext h3.1.1 h3.2.1
    rw [decide_eq_true this]
    exact SeqAt.EqAt.same _
  · have hj : ∀ j (h1 : j < (#[Value.int p.1 t, Value.int p.2 u] : Array Value).size) (h2 : j < (#[Value.int q.1 t', Value.int q.2 u'] : Array Value).size), SeqAt.EqAt A.in1 s (#[Value.int p.1 t, Value.int p.2 u] : Array Value)[j] (#[Value.int q.1 t', Value.int q.2 u'] : Array Value)[j] (if j = 0 then decide (p.1 = q.1) else decide (p.2 = q.2)) := by
      intro j h1 h2
      match j, h1 with
      | 0, _ => exact eqAt_int ⟨t, rfl⟩ ⟨t', rfl⟩
      | 1, _ => exact eqAt_int ⟨u, rfl⟩ ⟨u', rfl⟩
      | j + 2, h1 => exact absurd (show j + 2 < 2 from h1) (by omega)
    have := SeqAt.EqAt.of_refs e (SeqAt.RcAt.tuples hc hd hu hj)
    have e2 : ((List.range (min (#[Value.int p.1 t, Value.int p.2 u] : Array Value).size (#[Value.int q.1 t', Value.int q.2 u'] : Array Value).size)).all (fun j => if j = 0 then decide (p.1 = q.1) else decide (p.2 = q.2)) && (#[Value.int p.1 t, Value.int p.2 u] : Array Value).size == (#[Value.int q.1 t', Value.int q.2 u'] : Array Value).size) = decide (p = q) := by
      rw [Bool.eq_iff_iff]
      simp [List.range_succ, Prod.ext_iff]
    rw [e2] at this
    exact this
theorem eqAt_sgn {v v' : Value} {p q : Sg} (x : SgnAt s.heap v p) (y : SgnAt s.heap v' q) (hu : A.units < cLine) : SeqAt.EqAt A s v v' (decide (p = q)) := by
  obtain ⟨c, t, u, rfl, hc⟩ := x
  obtain ⟨d, t', u', rfl, hd⟩ := y
  by_cases e : c = d
  · subst e
    have : p = q := by
      obtain ⟨o, ho, _, n, h1⟩ := hc
      obtain ⟨o', ho', _, n', h1'⟩ := hd
      rw [ho] at ho'; cases ho'
      rw [h1] at h1'
      injection h1' with h2 _
      have h3 := congrArg Array.toList h2
      simp at h3
      have h4 := tx_inj h3.2.1
      simp at h4
      exact Prod.ext h3.1.1 h4
    rw [decide_eq_true this]
    exact SeqAt.EqAt.same _
  · have hj : ∀ j (h1 : j < (#[Value.int p.1 t, Value.str (tx [p.2]) u] : Array Value).size) (h2 : j < (#[Value.int q.1 t', Value.str (tx [q.2]) u'] : Array Value).size), SeqAt.EqAt A.in1 s (#[Value.int p.1 t, Value.str (tx [p.2]) u] : Array Value)[j] (#[Value.int q.1 t', Value.str (tx [q.2]) u'] : Array Value)[j] (if j = 0 then decide (p.1 = q.1) else decide (p.2 = q.2)) := by
      intro j h1 h2
      match j, h1 with
      | 0, _ => exact eqAt_int ⟨t, rfl⟩ ⟨t', rfl⟩
      | 1, _ =>
        have := SeqAt.EqAt.str_str (A := A.in1) (s := s) (tx [p.2]) u (tx [q.2]) u'
        rw [tx_beq, show ([p.2] == [q.2]) = decide (p.2 = q.2) by rw [Bool.eq_iff_iff]; simp] at this
        exact this
      | j + 2, h1 => exact absurd (show j + 2 < 2 from h1) (by omega)
    have := SeqAt.EqAt.of_refs e (SeqAt.RcAt.tuples hc hd hu hj)
    have e2 : ((List.range (min (#[Value.int p.1 t, Value.str (tx [p.2]) u] : Array Value).size (#[Value.int q.1 t', Value.str (tx [q.2]) u'] : Array Value).size)).all (fun j => if j = 0 then decide (p.1 = q.1) else decide (p.2 = q.2)) && (#[Value.int p.1 t, Value.str (tx [p.2]) u] : Array Value).size == (#[Value.int q.1 t', Value.str (tx [q.2]) u'] : Array Value).size) = decide (p = q) := by
      rw [Bool.eq_iff_iff]
      simp [List.range_succ, Prod.ext_iff]
    rw [e2] at this
    exact this
/-- for x, y in a list of pairs -/
theorem r_forPairs {px py pt : Pos} {x y : Str} {k : Nat} {body : List Stmt} {its : List Value} {Q : Flow → Shared → Prop} (S : St w z L m mu s₀ s) (hh : A.handled = none) (hl : IsL z a its) (hp : ∀ v ∈ its, ∃ T, v = .ref T)
    (K : Nat → Heap → List (Str × Value) → List (Addr × Obj) → Prop) (hK : K 0 z m mu)
    (turn : ∀ i v z' m' mu' I o' s', its[i]? = some v → Sub z z' → K i z' m' mu' → St w z' L m' (mu' ++ [(I, o')]) s₀ s' →
      wpAny (model prog w) A (assign (.Tuple [.Name x px, .Name y py] k pt) env v) (fun _ s₂ => wpAny (model prog w) A (execs body env) (Fp w z' L [(I, o')] s₀ (K (i + 1)) Q) (fun _ _ => False) s₂) (fun _ _ => False) s')
    (done : ∀ z' m' mu' s', Sub z z' → K its.length z' m' mu' → St w z' L m' mu' s₀ s' → Q .next s') :
    wpAny (model prog w) A (pyIter (.ref a)) (fun it s₂ => codeAny (model prog w) A (.forLoop (.Tuple [.Name x px, .Name y py] k pt) it body [] env) (fun r s' => match r with | .ok f => Q f s' | .error e => cameBackBy (model prog w) A env E e s') s₂) E s := by
  have hls := (hl.up S.keep).isList
  have hne : a ≠ s.heap.objs.size := by obtain ⟨o, ho, _⟩ := hls; exact Nat.ne_of_lt (Heap.lt_size ho)
  refine wpAny_pyIter_list hls ?_
  have S' := S.pushEnd { cls := .type "list_iterator", data := .fields #[.ref a, .int 0 0] } (k := s.toks)
  have W := It.list (prog := prog) (w := w) (I := s.heap.objs.size) hh hne its.toArray
  have hsz : its.toArray.size = its.length := by simp
  rw [hsz] at W
  refine r_forLoop W ?_ S' ⟨⟨_, Heap.get?_push_size _ rfl, rfl, rfl⟩, ?_⟩ (fun i s' v Q' E' hS hP _ q => ?_) K hK (fun i v z' m' mu' o' s' hi hP hz hK' S₁ => turn i v z' m' mu' _ o' s' (by simpa using hP) hz hK' S₁) done
  · intro b hb
    rcases List.mem_cons.mp hb with rfl | hb
    · exact .inl rfl
    · rw [List.mem_singleton.mp hb]; obtain ⟨o, ho, _⟩ := hl; exact .inr ⟨o, ho⟩
  · exact ((hl.up S.keep).up ((Sub.refl _).push _)).isList
  · obtain ⟨T, rfl⟩ := hp v (List.mem_of_getElem? (by simpa using hP))
    exact wpAny_letOwnedTupleGo_listiter hS.1 q
/-- the heap's calls -/
theorem r_heappush {n : Nat} {o : Obj} {its : List Value} {ps : List P} {iv : Value} {x : P} {Q : Value → Shared → Prop} (S : St w z L m mu s₀ s) (i : Nat) (hi : mu[i]? = some (a, o)) (hA : Lo n A) (hn : n ≤ 80) (hl : LsO o its) (hps : All2 (PairAt z) its ps) (hx : PairAt z iv x) (hsz : ps.length < 900)
    (h : ∀ s' o' its', LsO o' its' → All2 (PairAt z) its' (sdF (ps ++ [x]) x ps.length) → St w z L m (mu.set i (a, o')) s₀ s' → Q .none s') : wpAny (model prog w) A (call (.ref 163) [.ref a, iv]) Q E s :=
  wpAny_call (heappush (S.hidden i hi) hA hn (S.get i hi) hl (PairAt z) (fun v p x => x.up (S.subHid i hi)) hps hx hsz fun s' o' its' sm hE ho' hl' hp' => h s' o' its' hl' hp' (S.upd i hi hE ho' sm))
theorem r_heappop {n : Nat} {o : Obj} {its : List Value} {q : List P} {y : P} {Q : Value → Shared → Prop} (S : St w z L m mu s₀ s) (i : Nat) (hi : mu[i]? = some (a, o)) (hA : Lo n A) (hn : n ≤ 70) (hl : LsO o its) (hps : All2 (PairAt z) its (q ++ [y])) (hsz : q.length < 900)
    (h : ∀ s' o' its' v, LsO o' its' → All2 (PairAt z) its' (popF q y).2 → PairAt z v (popF q y).1 → St w z L m (mu.set i (a, o')) s₀ s' → Q v s') : wpAny (model prog w) A (call (.ref 170) [.ref a]) Q E s :=
  wpAny_call (heappop (S.hidden i hi) hA hn (S.get i hi) hl (PairAt z) (fun v p x => x.up (S.subHid i hi)) hps hsz fun s' o' its' v sm hE ho' hl' hp' hv => h s' o' its' v hl' hp' hv (S.upd i hi hE ho' sm))
theorem r_stands {n : Nat} {ra : Addr} {row : Row} {p : Nat} {i : Int} {t : Tok} {Q : Value → Shared → Prop} (S : St w z L m mu s₀ s) (hA : Lo n A) (hn : n ≤ 60) (hr : RowAt z ra row) (hsz : row.length < 1000) (hi : i = p) (hp : p < 1000)
    (h : ∀ s', St w z L m mu s₀ s' → Q (.bool (stands row p)) s') : wpAny (model prog w) A (call (.ref 189) [.ref ra, .int i t]) Q E s := by
  subst hi
  exact wpAny_call (law_stands S.top hA hn (hr.up S.keep) hsz hp fun s' sm sb => h s' (S.grow sb sm))
end
end Mine
namespace Mine
open PySem PySem.W PySem.Calls PyProof.Rows
theorem filled15 : (fun (_ : OpenLaw) (_ : Params → Frag) => True) PySem.Challenge.rw_oc0237_01 hd.heap_1 := by k_fill; trivial

/-! ## _law_one_by_one -/
section
variable {prog : Program} {w : World} {A : Around} {E : Value → Shared → Prop} {s s₀ : Shared} {z : Heap} {L a : Addr} {m : List (Str × Value)} {mu : List (Addr × Obj)}
theorem r_itemT {value slice : Expr} {t : Addr} {x y v : Value} {k : Int} {u : Tok} {j : Nat} {Q : Value → Shared → Prop} (ht : s.heap.IsTuple t #[x, y]) (hj : k = j) (hx : (#[x, y] : Array Value)[j]? = some v) (h : Q v s)
    (hs : subscripted slice false (.ref t) (.int k u) = operate [.ref t, .int k u] (getItem (.ref t) (.int k u)) := by with_unfolding_all rfl) : wpAny (model prog w) A (subscriptTail value slice (.ref t) (.int k u)) Q E s := by
  obtain ⟨o, ho, hc, n, hd⟩ := ht
  have hj2 : j < 2 := by
    have := (Array.getElem?_eq_some_iff.mp hx).1
    simpa using this
  refine tail_any (T := "tuple") ⟨o, ho, hc⟩ PyProof.Rows.slot_tuple_getitem.lookup (PyProof.Rows.getItem_tuple (items := #[x, y]) (j := j) ⟨o, ho, hc, n, hd⟩ (by omega) (by omega) ?_ hx h) hs
  subst hj
  match j, hj2 with
  | 0, _ => rfl
  | 1, _ => rfl
end
theorem St.thawH {w : World} {z z' : Heap} {L c : Addr} {m m' : List (Str × Value)} {mu mu' : List (Addr × Obj)} {o : Obj} {s₀ s s' : Shared} (S : St w z L m ((c, o) :: mu) s₀ s) (S' : St w z' L m' mu' s₀ s') (k : Sub z z') (hc : z'.get? c = some o) :
    Sub z (hideAll z' [c]) ∧ St w (hideAll z' [c]) L m' ((c, o) :: mu') s₀ s' := by
  have hcz := (S.mus (c, o) (.head _)).2.2
  have hz : Sub z (hideAll z' [c]) := fun b ob e => hideAll_get _ (k _ _ e) (fun q => by rw [List.mem_singleton.mp q] at e; rw [hcz] at e; cases e)
  have hz' : Sub (hideAll z' [c]) z' := fun b ob e => of_hideAll _ e
  have hn : ∀ b, z'.get? b = none → (hideAll z' [c]).get? b = none := fun b e => by
    cases q : (hideAll z' [c]).get? b with
    | none => rfl
    | some ob => rw [hz' _ _ q] at e; cases e
  refine ⟨hz, S'.ns, hz'.trans S'.keep, hn _ S'.off, fun p hp => ?_, ?_, bot_up S hz, S'.same⟩
  · rcases List.mem_cons.mp hp with rfl | hp
    · refine ⟨S'.keep _ _ hc, fun e => ?_, hideAll_none _ (.head _)⟩
      have e' : c = L := e
      rw [e', S'.off] at hc; cases hc
    · exact ⟨(S'.mus p hp).1, (S'.mus p hp).2.1, hn _ (S'.mus p hp).2.2⟩
  · rw [List.map_cons, List.nodup_cons]
    refine ⟨fun q => ?_, S'.nd⟩
    obtain ⟨p, hp, e⟩ := List.mem_map.mp q
    have := (S'.mus p hp).2.2
    rw [e, hc] at this; cases this
theorem SorterAt.hide {prog : Program} {w : World} {z : Heap} {x dx nd c : Addr} {l : List Nd} {o : Obj} {v : Option Value} (H : SorterAt prog w z x dx nd l) (hc : z.get? c = some o) (ho : CellO o v) : SorterAt prog w (hideAll z [c]) x dx nd l := by
  have key : ∀ b ob, z.get? b = some ob → (∀ v, ob.data ≠ .cell v) → (hideAll z [c]).get? b = some ob := fun b ob e hne => hideAll_get _ e (fun q => by
    rw [List.mem_singleton.mp q, hc] at e
    cases e
    exact hne v ho)
  refine ⟨key _ _ H.inst (fun v e => (nomatch (show Data.plain = Data.cell v from e))), ?_, H.ms, H.num, fun y hy => ?_⟩
  · obtain ⟨ond, h1, h2⟩ := H.dict
    refine ⟨ond, key _ _ h1 (fun v e => ?_), h2⟩
    obtain ⟨_, _, _, he, _⟩ := h2
    rw [he] at e; cases e
  · obtain ⟨h1, h2, h3⟩ := H.ok y hy
    refine ⟨h1, key _ _ h2 (fun v e => nomatch e), key _ _ h3 (fun v e => ?_)⟩
    obtain ⟨vs, ⟨n, e2⟩, _⟩ := h1
    rw [e2] at e; cases e
/-- the nodes of the heap -/
theorem nodes_of {store : List P} {O : List Nat} (h : (store.map (·.2)).Perm (O.map fun n : Nat => 100 + (n : Int))) : ∃ sn : List Nat, store.map (·.2) = sn.map (fun n : Nat => 100 + (n : Int)) ∧ sn.Perm O := by
  refine ⟨store.map fun p => (p.2 - 100).toNat, ?_, ?_⟩
  · rw [List.map_map]
    refine List.map_congr_left fun p hp => ?_
    have := h.mem_iff.mp (List.mem_map_of_mem hp)
    obtain ⟨n, _, e⟩ := List.mem_map.mp this
    simp only [Function.comp_apply]
    omega
  · have h1 := h.map fun i : Int => (i - 100).toNat
    rw [List.map_map, List.map_map] at h1
    have e : O.map ((fun i : Int => (i - 100).toNat) ∘ fun n : Nat => 100 + (n : Int)) = O := by
      conv => rhs; rw [← List.map_id O]
      refine List.map_congr_left fun n _ => ?_
      show (100 + (n : Int) - 100).toNat = n
      omega
    rw [e] at h1
    exact h1
theorem store_nodup {store : List P} {O : List Nat} (hO : O.Nodup) (h : (store.map (·.2)).Perm (O.map fun n : Nat => 100 + (n : Int))) : store.Nodup := by
  have h1 : (O.map fun n : Nat => 100 + (n : Int)).Nodup := by
    rw [List.Nodup, List.pairwise_map]
    exact hO.imp fun h e => h (by omega)
  have h2 := h.nodup_iff.mpr h1
  exact List.Pairwise.of_map _ (fun a b h e => h (by rw [e])) h2
theorem found_range (row : Row) : ((List.range row.length).filter fun p => stands row p).map (fun p => (row.getD p (0, 0)).1) = foundF row := by
  have aux : ∀ (r pre : Row), ((List.range' pre.length r.length).filter fun p => stands (pre ++ r) p).map (fun p => ((pre ++ r).getD p (0, 0)).1) = foundF r := by
    intro r
    induction r with
    | nil => intro pre; rfl
    | cons a r ih =>
      intro pre
      have h := ih (pre ++ [a])
      rw [List.length_append, List.length_singleton, List.append_assoc] at h
      rw [List.length_cons, List.range'_succ, List.filter_cons]
      have hg : ((pre ++ a :: r).getD pre.length (0, 0)).1 = a.1 := by simp
      match r, h with
      | [], h =>
        have : stands (pre ++ [a]) pre.length = false := by unfold stands; rw [List.drop_left]
        rw [this]; simp [foundF]
      | [b], h =>
        have : stands (pre ++ [a, b]) pre.length = false := by unfold stands; rw [List.drop_left]
        rw [this]
        simp only [Bool.false_eq_true, if_false]
        exact h
      | b :: c :: r, h =>
        rw [stands_of, foundF]
        split
        · rw [List.map_cons, hg]
          congr 1
        · exact h
  have := aux row []
  simpa [List.range_eq_range'] using this
end Mine
namespace Mine
open PySem PySem.W PySem.Calls PyProof.Rows
theorem filled16 : (fun (_ : OpenLaw) (_ : Params → Frag) => True) PySem.Challenge.rw_oc0237_01 hd.heap_1 := by k_fill; trivial
theorem All2.three_inv {α β : Type} {F : α → β → Prop} {l : List α} {b c d : β} (x : All2 F l [b, c, d]) : ∃ a₁ a₂ a₃, l = [a₁, a₂, a₃] ∧ F a₁ b ∧ F a₂ c ∧ F a₃ d := by
  match l, x with
  | [], x => exact absurd x.1 (by simp)
  | [_], x => exact absurd x.1 (by simp)
  | [_, _], x => exact absurd x.1 (by simp)
  | a₁ :: a₂ :: a₃ :: r, x =>
    obtain ⟨h1, x⟩ := All2.cons_inv x
    obtain ⟨h2, x⟩ := All2.cons_inv x
    obtain ⟨h3, x⟩ := All2.cons_inv x
    have : r = [] := List.eq_nil_of_length_eq_zero x.1
    exact ⟨a₁, a₂, a₃, by rw [this], h1, h2, h3⟩
theorem perm2 {α : Type} (x y : α) (l k : List α) : (x :: y :: (l ++ k)).Perm (l ++ (x :: y :: k)) := by
  have h1 : (l ++ (x :: y :: k)).Perm (x :: (l ++ y :: k)) := List.perm_middle
  have h2 : (l ++ y :: k).Perm (y :: (l ++ k)) := List.perm_middle
  exact (h1.trans (List.Perm.cons _ h2)).symm
theorem St.thaw2 {w : World} {z z' : Heap} {L c₁ c₂ : Addr} {m' : List (Str × Value)} {mu' : List (Addr × Obj)} {o₁ o₂ : Obj} {s₀ s' : Shared} (hoff : z.get? L = none) (hbot : ∃ b₀, TF w b₀ ∧ Sub b₀ z ∧ b₀.objs.size ≤ L) (h1 : z.get? c₁ = none) (h2 : z.get? c₂ = none) (hne : c₁ ≠ c₂)
    (S' : St w z' L m' mu' s₀ s') (k : Sub z z') (hc₁ : z'.get? c₁ = some o₁) (hc₂ : z'.get? c₂ = some o₂) : St w z L m' ((c₁, o₁) :: (c₂, o₂) :: mu') s₀ s' := by
  have hL : ∀ c o, z'.get? c = some o → c ≠ L := fun c o e q => by rw [q, S'.off] at e; cases e
  have hm : ∀ c o, z'.get? c = some o → c ∉ mu'.map (·.1) := fun c o e q => by
    obtain ⟨p, hp, e'⟩ := List.mem_map.mp q
    have := (S'.mus p hp).2.2
    rw [e', e] at this; cases this
  refine ⟨S'.ns, k.trans S'.keep, hoff, fun p hp => ?_, ?_, hbot, S'.same⟩
  · rcases List.mem_cons.mp hp with rfl | hp
    · exact ⟨S'.keep _ _ hc₁, hL _ _ hc₁, h1⟩
    · rcases List.mem_cons.mp hp with rfl | hp
      · exact ⟨S'.keep _ _ hc₂, hL _ _ hc₂, h2⟩
      · refine ⟨(S'.mus p hp).1, (S'.mus p hp).2.1, ?_⟩
        cases q : z.get? p.1 with
        | none => rfl
        | some o' => have := (S'.mus p hp).2.2; rw [k _ _ q] at this; cases this
  · rw [List.map_cons, List.map_cons, List.nodup_cons, List.nodup_cons]
    refine ⟨fun q => ?_, hm _ _ hc₂, S'.nd⟩
    rcases List.mem_cons.mp q with q | q
    · exact hne q
    · exact hm _ _ hc₁ q
/-- a moment of the law's second reading -/
structure OB (prog : Program) (w : World) (zs zr : Heap) (ps : List (List Int)) (fin : Row) (x dx nd rl ra : Addr) (row : Row) (ns Dn O rs : List Nat) (od orl oc ost : Obj) (l : List Nd) (store : List P) : Prop where
  cell : CellO oc (some (.ref ra))
  row_ : RowAt zr ra row
  inv : Inv ps fin row (viewN l) rs Dn O ns
  sa : SorterAt prog w zs x dx nd l
  at_ : ∃ t₁ t₂, AtO od (at4 nd rl ((Dn.length : Int) + O.length) Dn.length t₁ t₂)
  rdy : ∃ rvs, LsO orl rvs ∧ All2 IntIs rvs (rs.map fun r : Nat => 100 + (r : Int))
  st : ∃ svs, LsO ost svs ∧ All2 (PairAt zr) svs store
  hp : HP store
  nodes : (store.map (·.2)).Perm (O.map fun n : Nat => 100 + (n : Int))
section
variable {prog : Program} {w : World} {A : Around} {s : Shared}
set_option maxHeartbeats 8000000 in
theorem one_by_one {n : Nat} {R : Result → Shared → Prop} {z : Heap} {pa ka : Addr} {text : List Nat} {rk : List Int} {kvs : List Value} {t : Tok} {fl : List (Addr × Obj)} (D : Led w z fl s) (hF : Fs A (fl.map (·.1))) (hfd : FrO fl) (hA : Lo n A) (hn : n ≤ 30)
   (hT : TextOk text) (hp : PartsAt z pa (walkF text text.length).2) (hkl : IsL z ka kvs) (hki : All2 IntIs kvs rk) (hk0 : 0 < rk.length) (hkz : rk.length < 1000)
   (h : ∀ s' fl' z' ra, Same s s' → UpS fl fl' → Sub z z' → Led w z' fl' s' → RowAt z' ra (walkF text text.length).1 → R (.ok (.ret (.ref ra))) s')
   : codeAny (model prog w) A (.call (.ref 219) ⟨[.str (tx text) t, .ref pa, .ref ka], []⟩) R s := by
  refine' enter_cells (m := [(Str.ofString "ranks", .ref ka)]) (cm := fun y => if y = Str.ofString "parts" then some (.ref pa) else if y = Str.ofString "text" then some (.str (tx text) t) else none) D hF hA (by omega) ?ho ?hcd ?hbind ?hm ?hc ?hcn ?_ ?hkind ?hco ?hgen ?hk
  case ho => k_is
  case hcd => k_is
  case hbind => rfl
  case hm => intro L; rw [lookup_cons_if]; rfl
  case hc => intro L; rfl
  case hcn => intro L; show List.Nodup [Str.ofString "row", Str.ofString "parts", Str.ofString "text"]; decide
  case hkind =>
    intro L x hx
    rcases List.mem_cons.mp hx with rfl | hx
    · exact .inr ⟨rfl, rfl⟩
    · rcases List.mem_cons.mp hx with rfl | hx
      · exact .inr ⟨rfl, rfl⟩
      · rw [List.mem_singleton.mp hx]; exact .inl rfl
  case hco => rfl
  case hgen => rfl
  case hk => rfl
  intro L A' s₁ outer cobs hfr hol hcob S' hA'
  have hcob' : All2 (fun (p : Addr × Obj) (q : Str × Addr) => p.1 = q.2 ∧ CellO p.2 ((fun y => if y = Str.ofString "parts" then some (.ref pa) else if y = Str.ofString "text" then some (.str (tx text) t) else none) q.1)) cobs [(Str.ofString "row", L + 3), (Str.ofString "parts", L + 2), (Str.ofString "text", L + 1)] := hcob
  clear hcob
  obtain ⟨⟨c₁, o₁⟩, ⟨c₂, o₂⟩, ⟨c₃, o₃⟩, rfl, ⟨h₁, k₁⟩, ⟨h₂, k₂⟩, ⟨h₃, k₃⟩⟩ := hcob'.three_inv
  simp only at h₁ h₂ h₃ k₁ k₂ k₃
  subst h₁ h₂ h₃
  have hc1 : CellO o₁ none := k₁
  have hc2 : CellO o₂ (some (.ref pa)) := k₂
  have hc3 : CellO o₃ (some (.str (tx text) t)) := k₃
  clear hcob' k₁ k₂ k₃
  have S0 : St w z L [(Str.ofString "ranks", Value.ref ka)] ((L + 1, o₃) :: (L + 2, o₂) :: (L + 3, o₁) :: fl) s s₁ := S'.perm ((List.reverse_perm [(L + 1, o₃), (L + 2, o₂), (L + 3, o₁)]).append_right fl)
  clear S'
  obtain ⟨z₀, hz₀, S1, hz3⟩ := S0.freezeH
  obtain ⟨z₁, hz₁', S, hz2⟩ := S1.freezeH
  clear S0 S1
  have hz₁ : Sub z z₁ := hz₀.trans hz₁'
  have hct : z₁.IsCell (L + 1) (some (.str (tx text) t)) := ⟨o₃, hz₁' _ _ hz3, hc3⟩
  have hcp : z₁.IsCell (L + 2) (some (.ref pa)) := ⟨o₂, hz2, hc2⟩
  clear hz2 hz3 hc2 hc3 hz₀ hz₁'
  have hp₁ := hp.up hz₁
  have hkl₁ := hkl.up hz₁
  obtain ⟨hG, hp3⟩ := run_gr hT
  have hpl : (walkF text text.length).2.length < 60 := by
    have := walkF_len text text.length
    have := hT.len
    omega
  walk_at "go"
  rename St _ _ _ _ _ _ _ => S
  refine r_cell (IsCell.up hcp S.keep) ?_
  walk_at "go"
  rename St _ _ _ _ _ _ _ => S
  obtain ⟨z₂, hz₂, S₂, hrz⟩ := S.freezeH
  obtain ⟨oL, hoL, D₂, hback⟩ := St.lendG (muP := []) (by rw [List.append_nil]; exact S₂)
  refine wpAny_call (law_sorter (fl := (L, oL) :: fl) D₂ ⟨_, hfr, All2.cons ⟨(fun h => nomatch (show ScopeKind.function = ScopeKind.module from h)), rfl⟩ hol⟩ ?_ hA' (by omega) (hp₁.up hz₂) (by omega) (fun p hp => Nat.le_of_eq (hp3 p hp)) hG fun s₃ fl2 z₃ x dx nd rl od orl rvs l t₁ t₂ sm hup hz₃ D₃ hSA ha hrl hrv hview => ?_)
  · intro p hp
    rcases List.mem_cons.mp hp with rfl | hp
    · exact hoL.dict
    · exact hfd p hp
  obtain ⟨fl', hup', S₃⟩ := hback z₃ ((dx, od) :: (rl, orl) :: infN l) fl2 s₃ hz₃ hup D₃ sm
  obtain ⟨hz₄, S₄⟩ := S.thawH S₃ (hz₂.trans hz₃) (hz₃ _ _ hrz)
  have hSA₄ := hSA.hide (hz₃ _ _ hrz) hc1
  generalize hz4e : hideAll z₃ [L + 3] = z₄ at *
  clear S S₂ S₃ D₂ D₃ hback hup hrz hz₂ hz₃ hSA hz4e
  clear z₂ z₃ sm fl2
  have hp₄ := hp₁.up hz₄
  have hkl₄ := hkl₁.up hz₄
  have hct₄ := IsCell.up hct hz₄
  have hcp₄ := IsCell.up hcp hz₄
  have hI := inv_init hT hview
  walk_at "go"
  refine r_ListComp [(Str.ofString "text", L + 1)] rfl ?_
  walk_at "go"
  rename St _ _ _ _ _ _ _ => S
  refine r_cell (IsCell.up hct₄ S.keep) ?_
  walk_at "go"
  rename St _ _ _ _ _ _ _ => S
  refine r_lenS S (by have := hT.len; omega) fun t₄ s₄ S₄ => ?_
  clear S
  walk_at "go"
  rename St _ _ _ _ _ _ _ => S
  refine r_compRange text.length rfl S hA'.1 (by have := hT.len; omega) (fun i z' rs => All2 (SgnAt z') rs ((row0 text).take i)) All2.nil ?_ ?_
  · rintro i t₅ z' rs C m' mu' s₅ hi hz' hK S₅ hmu
    clear S
    walk_at "go"
    refine wpAny_tests_nil (Br.yes rfl ?_)
    walk_at "go"
    rename St _ _ _ _ _ _ _ => S
    refine r_cell (IsCell.up (IsCell.up hct₄ hz') S.keep) ?_
    walk_at "go"
    rename St _ _ _ _ _ _ _ => S
    refine r_itemS S i rfl (by have := hT.len; omega) (List.getElem?_eq_getElem hi) fun t₆ s₆ S₆ => ?_
    clear S
    walk_at "go"
    rename St _ _ _ _ _ _ _ => S
    obtain ⟨z₆, hz₆, S₇, hb⟩ := S.freezeH
    refine ce hz₆ ?_ S₇
    have htk : (row0 text).take (i + 1) = (row0 text).take i ++ [((i : Int), text[i])] := by
      rw [List.take_add_one]
      congr 1
      simp [row0, hi]
    rw [htk]
    exact (hK.mono fun _ _ y => y.up hz₆).append1 ⟨_, t₅, _, rfl, _, hb, rfl, 0, rfl⟩
  · rintro z₅' rs₀ ra₀ o₀ hz₅' hK hrl' hlo
    refine hand_none fun s₅ S₅ => ?_
    clear S
    obtain ⟨z₅, hz₅, S, hrz⟩ := S₅.freezeH
    clear S₅
    have hrow0 : RowAt z₅ ra₀ (row0 text) := by
      have e : (row0 text).take text.length = row0 text := List.take_of_length_le (by simp [row0])
      rw [e] at hK
      exact ⟨rs₀, ⟨o₀, hrz, hlo⟩, hK.mono fun _ _ y => y.up hz₅⟩
    have hz45 := hz₅'.trans hz₅
    have hp₅ := hp₄.up hz45
    have hkl₅ := hkl₄.up hz45
    have hct₅ := IsCell.up hct₄ hz45
    have hcp₅ := IsCell.up hcp₄ hz45
    have hSA₅ := hSA₄.up hz45
    clear hp₄ hkl₄ hct₄ hcp₄ hSA₄ hK hrz hlo hrl'
    generalize hps : (walkF text text.length).2 = ps at *
    generalize hfin : (walkF text text.length).1 = fin at *
    refine r_storeCell S 0 rfl hc1 fun s₆ oc hoc S₆ => ?_
    clear S
    walk_at "go"
    rename St _ _ _ _ _ _ _ => S
    rename_i st _ ost hst _
    refine r_cell (IsCell.up hcp₅ S.keep) ?_
    walk_at "go"
    rename St _ _ _ _ _ _ _ => S
    obtain ⟨pvs, hpvl, hpva⟩ := id hp₅
    refine r_lenL S (hpvl.up S.keep) (by rw [hpva.1]; omega) fun t₇ s₇ S₇ => ?_
    clear S
    walk_at "go"
    rename St _ _ _ _ _ _ _ => S
    have hpm : ((st, ost) :: ((L + 3, o₁) :: (fl' ++ (dx, od) :: (rl, orl) :: infN l)).set 0 (L + 3, oc)).Perm ((L + 3, oc) :: (st, ost) :: (((dx, od) :: (rl, orl) :: infN l) ++ fl')) := (List.Perm.swap _ _ _).trans (List.Perm.cons _ (List.Perm.cons _ List.perm_append_comm))
    have hob0 : OB prog w z₅ z₅ ps fin x dx nd rl ra₀ (row0 text) (List.range ps.length) [] [] (rdyL l l.length) od orl oc ost l [] :=
      ⟨hoc, hrow0, hI, hSA₅, ⟨t₁, t₂, ha⟩, ⟨rvs, hrl, hrv⟩, ⟨[], hst, All2.nil⟩, fun i h1 h2 => by simp at h2, List.Perm.refl _⟩
    refine r_forRange (ps.length + 1) (by rw [hpva.1]; omega) (S.perm hpm) hA'.1 (by omega)
      (fun i z' m' mu' => ∃ ra row ns Dn O rs od orl oc ost l store r, m' = (Str.ofString "store", Value.ref st) :: (Str.ofString "sorter", Value.ref x) :: (Str.ofString "ranks", Value.ref ka) :: r ∧ mu' = (L + 3, oc) :: (st, ost) :: (((dx, od) :: (rl, orl) :: infN l) ++ fl') ∧
        OB prog w z₅ z' ps fin x dx nd rl ra row ns Dn O rs od orl oc ost l store ∧ Dn.length = i)
      ⟨ra₀, row0 text, _, [], [], _, od, orl, oc, ost, l, [], [], rfl, rfl, hob0, rfl⟩ ?_ ?_
    · clear S hpm hob0 hrow0 hI hSA₅ ha hrl hrv hview hoc hst
      clear od orl oc ost l rvs t₁ t₂
      rintro i ti z₆ m' mu' I o' s₈ hi hz₆ ⟨ra, row, ns, Dn, O, rs, od, orl, oc, ost, l, store, r, rfl, rfl, hob, hDi⟩ S₈
      have hassoc : ((L + 3, oc) :: (st, ost) :: (((dx, od) :: (rl, orl) :: infN l) ++ fl')) ++ [(I, o')] = (L + 3, oc) :: (st, ost) :: (((dx, od) :: (rl, orl) :: infN l) ++ (fl' ++ [(I, o')])) := by simp
      rw [hassoc] at S₈
      have S := S₈
      clear S₈ hassoc
      generalize hB : fl' ++ [(I, o')] = B at S
      obtain ⟨t₁, t₂, ha⟩ := hob.at_
      obtain ⟨rvs, hrl, hrv⟩ := hob.rdy
      have hI := hob.inv
      have hrsl := hI.si.rs_len
      have hll : l.length = ps.length := by
        have := hI.si.len
        simpa [viewN] using this
      have hrvl : rvs.length = rs.length := by rw [hrv.1]; simp
      rw [List.length_map] at hrsl
      have hSA₆ := hob.sa.up hz₆
      walk_at "go"
      rename St _ _ _ _ _ _ _ => S
      refine meth_ready S (S.keep _ _ hSA₆.inst) (S.get 2 rfl) ha rfl ?_
      walk_at "go"
      rename St _ _ _ _ _ _ _ => S
      have Sp := S.perm (perm2 (L + 3, oc) (st, ost) ((dx, od) :: (rl, orl) :: infN l) B)
      clear S
      refine wpAny_call (get_ready Sp.lend hA' (by omega) (hSA₆.up Sp.subLend) ha hrl hrv (fun r hr => by rw [hll]; simpa using ((hI.si.rsm r).mp hr).1) (by omega) fun s₉ od' orl' l' tb t₁' sm D₉ hr' ha' HH hview' => ?_)
      have S₉ : St w z₆ L _ ((tb, tupO rvs) :: (((dx, od') :: (rl, orl') :: infN l') ++ ((L + 3, oc) :: (st, ost) :: B))) s _ := Sp.back D₉ sm
      clear Sp D₉ sm
      obtain ⟨z₇, hz₇, S₁₀, htb⟩ := S₉.freezeH
      clear S₉
      have S := S₁₀.perm (perm2 (L + 3, oc) (st, ost) ((dx, od') :: (rl, orl') :: infN l') B).symm
      clear S₁₀
      have hT' : z₇.IsTuple tb rvs.toArray := ⟨_, htb, rfl, 0, rfl⟩
      have hSI := hI.si.out
      rw [← hview'] at hSI
      have hI' : Inv ps fin row (viewN l') [] Dn (rs ++ O) ns := ⟨hI.run, hSI, hI.cov, hI.g⟩
      have hSA' := HH _ hob.sa
      clear HH
      have hOl : O.length ≤ ps.length := by
        have := nodup_lt_length (ps.map prs).length O hI.si.ond fun i hi => (hI.si.dO i (.inr hi)).1
        simpa using this
      obtain ⟨svs₀, hsl₀, hsa₀⟩ := hob.st
      refine r_forTuple (S.norm [(Str.ofString "store", .ref st), (Str.ofString "sorter", .ref x), (Str.ofString "ranks", .ref ka)] (by walk_at "has")) hA'.1 hT'
        (fun j z' m' mu' => ∃ ost svs store' r', m' = (Str.ofString "store", Value.ref st) :: (Str.ofString "sorter", Value.ref x) :: (Str.ofString "ranks", Value.ref ka) :: r' ∧ mu' = (L + 3, oc) :: (st, ost) :: (((dx, od') :: (rl, orl') :: infN l') ++ B) ∧ LsO ost svs ∧ All2 (PairAt z') svs store' ∧ HP store' ∧ (store'.map (·.2)).Perm ((rs.take j ++ O).map fun n : Nat => 100 + (n : Int)))
        ⟨ost, svs₀, store, _, rfl, rfl, hsl₀, hsa₀.mono fun _ _ y => y.up hz₇, hob.hp, by simpa using hob.nodes⟩ ?_ ?_
      · clear S
        rintro j v z' m' mu' I₂ o₂ s₁₀ hvj hz' ⟨ost, svs, store', r', rfl, rfl, hsl, hsa, hhp, hnp⟩ S
        have hj : j < rs.length := by have := (List.getElem?_eq_some_iff.mp hvj).1; omega
        obtain ⟨tj, rfl⟩ := hrv.2 j v (100 + ((rs[j] : Nat) : Int)) hvj (by simp [hj])
        have hstl : store'.length < 900 := by
          have := hnp.length_eq
          simp at this
          omega
        have hkl' := ((hkl₅.up hz₆).up hz₇).up hz'
        walk_at "go"
        rename St _ _ _ _ _ _ _ => S
        refine r_lenL S (hkl'.up S.keep) (by rw [hki.1]; omega) fun t₁₁ s₁₁ S₁₁ => ?_
        clear S
        walk_at "go"
        rename St _ _ _ _ _ _ _ => S
        refine r_mod S (by rw [hki.1]; omega) fun t₁₂ s₁₂ S₁₂ => ?_
        clear S
        walk_at "go"
        rename St _ _ _ _ _ _ _ => S
        have hmod : (100 + ((rs[j] : Nat) : Int) - 100).fmod (kvs.length : Int) = ((rs[j] % kvs.length : Nat) : Int) := by
          rw [show (100 + ((rs[j] : Nat) : Int) - 100) = ((rs[j] : Nat) : Int) by omega, Int.ofNat_fmod]
        have hml : rs[j] % kvs.length < rk.length := by rw [← hki.1]; exact Nat.mod_lt _ (by rw [hki.1]; exact hk0)
        obtain ⟨kv, hkv, tk, rfl⟩ := hki.get (List.getElem?_eq_getElem hml)
        refine r_itemN (rs[j] % kvs.length) (hkl'.up S.keep) hmod (by omega) hkv ?_
        walk_at "go"
        rename St _ _ _ _ _ _ _ => S
        obtain ⟨z₈, hz₈, S₁₃, hbz⟩ := S.freezeH
        clear S
        have hpair : PairAt z₈ _ (rk[rs[j] % kvs.length], 100 + ((rs[j] : Nat) : Int)) := ⟨_, tk, tj, rfl, _, hbz, rfl, 0, rfl⟩
        refine r_heappush S₁₃ 1 rfl hA' (by omega) hsl (hsa.mono fun _ _ y => y.up hz₈) hpair hstl fun s₁₄ ost' svs' hsl' hsa' S₁₄ => ?_
        clear S₁₃
        obtain ⟨hhp', hpm⟩ := push_ok hhp (rk[rs[j] % kvs.length], 100 + ((rs[j] : Nat) : Int))
        walk_at "go"
        rename St _ _ _ _ _ _ _ => S
        refine fp_next hz₈ ⟨ost', svs', _, _, rfl, rfl, hsl', hsa', hhp', ?_⟩ (S.norm [(Str.ofString "store", .ref st), (Str.ofString "sorter", .ref x), (Str.ofString "ranks", .ref ka)] (by walk_at "has"))
        have htk : rs.take (j + 1) = rs.take j ++ [rs[j]] := by rw [List.take_add_one, List.getElem?_eq_getElem hj]; rfl
        refine (hpm.map _).trans ?_
        rw [List.map_append, htk]
        have h1 : (rs.take j ++ [rs[j]] ++ O).Perm ((rs.take j ++ O) ++ [rs[j]]) := by
          rw [List.append_assoc, List.append_assoc]
          exact List.Perm.append_left _ List.perm_append_comm
        refine (List.Perm.append_right _ hnp).trans ?_
        have h2 := (h1.map fun n : Nat => 100 + (n : Int)).symm
        rw [List.map_append] at h2
        exact h2
      · clear S
        rintro z₈ m' mu' s₁₀ hz₈ ⟨ost', svs, store', r', rfl, rfl, hsl, hsa, hhp, hnp⟩ S
        rw [hrvl, List.take_length] at hnp
        have hob' : OB prog w z₅ z₈ ps fin x dx nd rl ra row ns Dn (rs ++ O) [] od' orl' oc ost' l' store' :=
          ⟨hob.cell, (hob.row_.up hz₇).up hz₈, hI', hSA', ⟨t₁', t₂, by
            have e : (Dn.length : Int) + ((rs ++ O).length : Nat) = (Dn.length : Int) + O.length + rs.length := by rw [List.length_append]; omega
            rw [e]; exact ha'⟩, ⟨[], hr', All2.nil⟩, ⟨svs, hsl, hsa⟩, hhp, hnp⟩
        have hz₅₈ : Sub z₅ z₈ := (hz₆.trans hz₇).trans hz₈
        have hOlen : (rs ++ O).length ≤ ps.length := by
          have := nodup_lt_length (ps.map prs).length (rs ++ O) hSI.ond fun i hi => (hSI.dO i (.inr hi)).1
          simpa using this
        generalize hOe : rs ++ O = O₁ at *
        clear hob hI hI' hSI hrv hrl ha ha' hr' hT' htb hview' hSA₆ hSA' hsa₀ hsl₀ hrsl hrvl hnp hsl hsa hhp hOl hll hOe
        clear t₁ t₂ rvs od orl l ost svs svs₀ store rs O
        have hI := hob'.inv
        obtain ⟨svs, hsl, hsa⟩ := hob'.st
        have hstl : store'.length = O₁.length := by
          have := hob'.nodes.length_eq
          simpa using this
        have hsvl : svs.length = store'.length := hsa.1
        have hrln : row.length < 100 := hI.run.ri.len
        -- the cell of the row and the heap are frozen
        obtain ⟨z₉', hz₉', S1, hcz'⟩ := S.freezeH
        obtain ⟨z₉, hz₉'', S2, hsz⟩ := S1.freezeH
        have hz₉ : Sub z₈ z₉ := hz₉'.trans hz₉''
        have hoff₈ := S.off
        have hbot₈ := S.bot
        have hc8 : z₈.get? (L + 3) = none := (S.mus (L + 3, oc) (.head _)).2.2
        have hs8 : z₈.get? st = none := (S.mus (st, ost') (.tail _ (.head _))).2.2
        have hne8 : L + 3 ≠ st := fun e => by
          have := S.nd
          simp only [List.map_cons, List.nodup_cons, List.mem_cons, not_or] at this
          exact this.1.1 e
        have hrc : z₉.IsCell (L + 3) (some (.ref ra)) := ⟨oc, hz₉'' _ _ hcz', hob'.cell⟩
        have hsL : IsL z₉ st svs := ⟨ost', hsz, hsl⟩
        have hcz : z₉.get? (L + 3) = some oc := hz₉'' _ _ hcz'
        have hrow₉ := hob'.row_.up hz₉
        obtain ⟨wvs, hwl, hwa⟩ := id hrow₉
        have hp₉ := (hp₅.up hz₅₈).up hz₉
        have hcp₉ := IsCell.up (IsCell.up hcp₅ hz₅₈) hz₉
        obtain ⟨sn, hsn, hsnO⟩ := nodes_of hob'.nodes
        have hsnl : sn.length = store'.length := by
          have := congrArg List.length hsn
          simpa using this.symm
        obtain ⟨row', G, hP, htx, hfo, hGn, hGm⟩ := hI.run.par
        have hGO : ∀ n, n ∈ G ↔ n ∈ O₁ := fun n => by rw [hGm, hI.rdy]; simp
        have hGp : G.Perm O₁ := (List.perm_ext_iff_of_nodup hGn hI.si.ond).mpr hGO
        walk_at "go"
        refine r_AssignListComp [(Str.ofString "row", L + 3)] rfl ?_
        clear S S1
        walk_at "go"
        rename St _ _ _ _ _ _ _ => S
        refine r_cell (IsCell.up hrc S.keep) ?_
        walk_at "go"
        rename St _ _ _ _ _ _ _ => S
        refine r_lenL S (hwl.up S.keep) (by rw [hwa.1]; omega) fun t₁₁ s₁₁ S₁₁ => ?_
        clear S
        walk_at "go"
        rename St _ _ _ _ _ _ _ => S
        refine r_compRange row.length (by rw [hwa.1]) S hA'.1 (by omega) (fun i z' rs => z' = z₉ ∧ All2 IntIs rs (((List.range i).filter fun p => stands row p).map fun p => (row.getD p (0, 0)).1)) ⟨rfl, All2.nil⟩ ?_ ?_
        · rintro p tp z' rs C m' mu' s₁₂ hpr hz' ⟨rfl, hrs⟩ S₁₂ hmu
          clear S
          have hfl : ((List.range (p + 1)).filter fun p => stands row p).map (fun p => (row.getD p (0, 0)).1) = ((List.range p).filter fun p => stands row p).map (fun p => (row.getD p (0, 0)).1) ++ (if stands row p = true then [(row.getD p (0, 0)).1] else []) := by
            rw [List.range_succ, List.filter_append, List.map_append]
            congr 1
            rw [List.filter_cons, List.filter_nil]
            split <;> rfl
          walk_at "go"
          refine wpAny_tests_one ?_
          walk_at "go"
          rename St _ _ _ _ _ _ _ => S
          refine r_cell (IsCell.up hrc S.keep) ?_
          walk_at "go"
          rename St _ _ _ _ _ _ _ => S
          refine r_stands S hA' (by omega) hrow₉ (by omega) rfl (by omega) fun s₁₃ S₁₃ => ?_
          clear S
          walk_at "go"
          rename St _ _ _ _ _ _ _ => S
          refine ⟨fun hb => ?_, fun hb => ?_⟩
          · walk_at "go"
            rename St _ _ _ _ _ _ _ => S
            refine r_cell (IsCell.up hrc S.keep) ?_
            walk_at "go"
            rename St _ _ _ _ _ _ _ => S
            obtain ⟨wv, hwv, T, tm, us, rfl, hTt⟩ := hwa.get (List.getElem?_eq_getElem hpr)
            refine r_itemN p (hwl.up S.keep) rfl (by omega) hwv ?_
            walk_at "go"
            rename St _ _ _ _ _ _ _ => S
            refine r_itemT (j := 0) (IsTuple.up hTt S.keep) rfl rfl ?_
            refine ce (Sub.refl _) ⟨rfl, ?_⟩ S
            rw [hfl, if_pos hb]
            refine hrs.append1 ⟨tm, ?_⟩
            simp [hpr]
          · refine ce (Sub.refl _) ⟨rfl, ?_⟩ S
            rw [hfl, if_neg (by rw [hb]; simp), List.append_nil]
            exact hrs
        · rintro z' rs fa fo hz' ⟨rfl, hrs⟩ hrl' hlo
          refine hand_assign fun s₁₂ S₁₂ => ?_
          clear S
          rw [found_range, hfo] at hrs
          have hrsl : rs.length < 60 := by
            rw [hrs.1, List.length_map, hGp.length_eq]; omega
          walk_at "go"
          walk_at "if"
          walk_at "go"
          rename St _ _ _ _ _ _ _ => S
          refine r_sortedI S (IsL.of (S.get 0 rfl) hlo) hrs (by omega) fun fb s₁₃ ofb fbv fbn hfb1 hfb2 hfb3 hfb4 S₁₃ => ?_
          clear S
          walk_at "go"
          refine r_ListComp [(Str.ofString "parts", L + 2)] rfl ?_
          walk_at "go"
          rename St _ _ _ _ _ _ _ => S
          refine r_compPairs S hA'.1 hsL (by omega) (fun v hv => ?_) (fun i z₁₀ rs => z₁₀ = z' ∧ All2 IntIs rs ((sn.take i).map (headM ps))) ⟨rfl, All2.nil⟩ ?_ ?_
          · obtain ⟨q, hq, e⟩ := List.mem_iff_getElem.mp hv
            have hq' : q < store'.length := by omega
            obtain ⟨T, _, _, e', _⟩ := hsa.2 q v store'[q] (by rw [List.getElem?_eq_getElem hq, e]) (List.getElem?_eq_getElem hq')
            exact ⟨T, e'⟩
          · rintro q v z₁₀ rs C m' mu' s₁₄ hv hz₁₀ ⟨rfl, hrs'⟩ S₁₄ hmu
            clear S
            have hq : q < sn.length := by have := (List.getElem?_eq_some_iff.mp hv).1; omega
            have hq' : q < store'.length := by omega
            obtain ⟨T, tr, tn, rfl, hTt⟩ := hsa.2 q v store'[q] hv (List.getElem?_eq_getElem hq')
            have hnode : store'[q].2 = 100 + ((sn[q] : Nat) : Int) := by
              have : (store'.map (·.2))[q]? = (sn.map fun n : Nat => 100 + (n : Int))[q]? := by rw [hsn]
              simpa [hq, hq'] using this
            rw [hnode] at hTt
            have hnl : sn[q] < ps.length := by
              have := (hI.si.dO sn[q] (.inr (hsnO.mem_iff.mp (List.getElem_mem hq)))).1
              simpa using this
            refine r_assign2 S₁₄ hA'.1 (IsTuple.up (IsTuple.up hTt hz₉) S₁₄.keep) (fun s₁₅ S₁₅ => ?_)
            clear S₁₄
            refine wpAny_tests_nil (Br.yes rfl ?_)
            walk_at "go"
            rename St _ _ _ _ _ _ _ => S
            refine r_cell (IsCell.up hcp₉ S.keep) ?_
            walk_at "go"
            rename St _ _ _ _ _ _ _ => S
            obtain ⟨qvs, hql, hqa⟩ := id hp₉
            obtain ⟨qv, hqv, qb, qis, rfl, hqb, hqi⟩ := hqa.get (List.getElem?_eq_getElem hnl)
            refine r_itemN sn[q] (hql.up S.keep) (by omega) (by omega) hqv ?_
            walk_at "go"
            rename St _ _ _ _ _ _ _ => S
            have hq3 : ps[sn[q]].length = 3 := hp3 _ (List.getElem_mem hnl)
            obtain ⟨hv0, hhv0, th, rfl⟩ := hqi.get (List.getElem?_eq_getElem (show 0 < ps[sn[q]].length by omega))
            refine r_itemN 0 (hqb.up S.keep) rfl (by omega) hhv0 ?_
            refine ce (Sub.refl _) ⟨rfl, ?_⟩ S
            have htk : sn.take (q + 1) = sn.take q ++ [sn[q]] := by rw [List.take_add_one, List.getElem?_eq_getElem hq]; rfl
            rw [htk, List.map_append]
            refine hrs'.append1 ⟨th, ?_⟩
            simp [headM, hnl, show 0 < ps[sn[q]].length by omega]
          · rintro z₁₀ rs' ga go hz₁₀ ⟨rfl, hrs'⟩ hrl'' hlo'
            refine hand_none fun s₁₄ S₁₄ => ?_
            clear S
            rw [hsvl, ← hsnl, List.take_length] at hrs'
            walk_at "go"
            rename St _ _ _ _ _ _ _ => S
            refine r_sortedI S (IsL.of (S.get 0 rfl) hlo') hrs' (by rw [hrs'.1, List.length_map]; omega) fun gb s₁₅ ogb gbv gbn hgb1 hgb2 hgb3 hgb4 S₁₅ => ?_
            clear S
            walk_at "go"
            rename St _ _ _ _ _ _ _ => S
            refine r_neL 0 (hA'.units (by omega)) (IsL.of (S.get 2 rfl) hfb1) (IsL.of (S.get 0 rfl) hgb1) hfb2 hgb2 (fun _ _ _ _ a b => eqAt_int a b) ?_
            have hsame : fbn = gbn := by
              refine lks_uniq (hfb3.trans (((hGp.trans hsnO.symm).map (headM ps)).trans hgb3.symm)) hfb4 hgb4
            walk_at "go"
            refine Br.no (by simp [hsame]) ?_
            have S' := S.drop (mu' := ((dx, od') :: (rl, orl') :: infN l') ++ B) (List.Sublist.cons _ (List.Sublist.cons _ (List.Sublist.cons _ (List.Sublist.cons _ (List.Sublist.refl _)))))
            clear S hfb1 hfb2 hfb3 hfb4 hgb1 hgb2 hgb3 hgb4 hsame hrs hrs' hlo hlo'
            walk_at "go"
            rename St _ _ _ _ _ _ _ => S
            refine r_cell (IsCell.up hrc S.keep) ?_
            walk_at "go"
            rename St _ _ _ _ _ _ _ => S
            have hsnn : sn.Nodup := hsnO.nodup_iff.mpr hI.si.ond
            have hGs : ∀ n, n ∈ G ↔ n ∈ sn := fun n => by rw [hGO]; exact hsnO.mem_iff.symm
            have hsns : ∀ n ∈ sn, n ∈ ns := fun n hn => ((hI.rdy n).mpr (.inr (hsnO.mem_iff.mp hn))).1
            refine r_forPairs (S.norm [(Str.ofString "ahead", .ref ra), (Str.ofString "store", .ref st), (Str.ofString "sorter", .ref x), (Str.ofString "ranks", .ref ka)] (by walk_at "has")) hA'.1 hsL (fun v hv => ?_)
              (fun j z' m' mu' => ∃ aa arow nj Gj r, m' = (Str.ofString "ahead", Value.ref aa) :: (Str.ofString "store", Value.ref st) :: (Str.ofString "sorter", Value.ref x) :: (Str.ofString "ranks", Value.ref ka) :: r ∧ mu' = ((dx, od') :: (rl, orl') :: infN l') ++ B ∧ RowAt z' aa arow ∧ RL ps fin row' sn ns j arow nj Gj)
              ⟨ra, row, ns, G, _, rfl, rfl, hrow₉, RL.init hI.run hP hGn hGs⟩ ?_ ?_
            · obtain ⟨q, hq, e⟩ := List.mem_iff_getElem.mp hv
              have hq' : q < store'.length := by omega
              obtain ⟨T, _, _, e', _⟩ := hsa.2 q v store'[q] (by rw [List.getElem?_eq_getElem hq, e]) (List.getElem?_eq_getElem hq')
              exact ⟨T, e'⟩
            · clear S
              rintro q v z' m' mu' I₂ o₂ s₁₆ hv hz' ⟨aa, arow, nj, Gj, r, rfl, rfl, harow, hRL⟩ S₁₆
              have hq : q < sn.length := by have := (List.getElem?_eq_some_iff.mp hv).1; omega
              have hq' : q < store'.length := by omega
              obtain ⟨T, tr, tn, rfl, hTt⟩ := hsa.2 q v store'[q] hv (List.getElem?_eq_getElem hq')
              have hnode : store'[q].2 = 100 + ((sn[q] : Nat) : Int) := by
                have : (store'.map (·.2))[q]? = (sn.map fun n : Nat => 100 + (n : Int))[q]? := by rw [hsn]
                simpa [hq, hq'] using this
              rw [hnode] at hTt
              obtain ⟨i', hok, nj', G', hRL'⟩ := hRL.step hsnn hq hsns
              refine r_assign2 S₁₆ hA'.1 (IsTuple.up (IsTuple.up (IsTuple.up hTt hz₉) hz') S₁₆.keep) (fun s₁₇ S₁₇ => ?_)
              clear S₁₆
              walk_at "go"
              rename St _ _ _ _ _ _ _ => S
              refine r_cell (IsCell.up (IsCell.up hcp₉ hz') S.keep) ?_
              walk_at "go"
              rename St _ _ _ _ _ _ _ => S
              refine r_read S hA' (by omega) harow (hp₉.up hz') (by have := hRL.run.ri.len; omega) (by omega) hok fun z'' D' s₁₈ hz'' hrow' S₁₈ => ?_
              clear S
              walk_at "go"
              rename St _ _ _ _ _ _ _ => S
              exact fp_next hz'' ⟨D', _, nj', G', _, rfl, rfl, hrow', hRL'⟩ (S.norm [(Str.ofString "ahead", .ref D'), (Str.ofString "store", .ref st), (Str.ofString "sorter", .ref x), (Str.ofString "ranks", .ref ka)] (by walk_at "has"))
            · clear S
              rintro z₁₁ m' mu' s₁₆ hz₁₁ ⟨aa, arow, nj, Gj, r, rfl, rfl, harow, hRL⟩ S
              have e := hRL.end (by omega)
              subst e
              walk_at "go"
              walk_at "if"
              walk_at "go"
              rename St _ _ _ _ _ _ _ => S
              refine r_cell (IsCell.up (IsCell.up hrc hz₁₁) S.keep) ?_
              walk_at "go"
              rename St _ _ _ _ _ _ _ => S
              refine r_text S hA' (by omega) (hrow₉.up hz₁₁) (by omega) fun t₁₇ s₁₇ S₁₇ => ?_
              clear S
              walk_at "go"
              rename St _ _ _ _ _ _ _ => S
              refine r_decode S hA' (by omega) hI.run.row_ok fun t₁₈ s₁₈ S₁₈ => ?_
              clear S
              walk_at "go"
              rename St _ _ _ _ _ _ _ => S
              refine r_text S hA' (by omega) harow (by have := hRL.run.ri.len; omega) fun t₁₉ s₁₉ S₁₉ => ?_
              clear S
              walk_at "go"
              refine Br.no (by rw [htx]; simp) ?_
              walk_at "go"
              walk_at "if"
              walk_at "go"
              rename St _ _ _ _ _ _ _ => S
              rename_i eb _ eo heo
              have hz₈₁₁ : Sub z₈ z₁₁ := hz₉.trans hz₁₁
              refine r_eqL (F := PairAt z₈) (0, 0) (hA'.units (by omega)) ((hsL.up hz₁₁).up S.keep) (IsL.of (S.get 0 rfl) heo) hsa (All2.nil (F := PairAt z₈)) (fun _ _ _ _ a b => eqAt_pair ((a.up hz₈₁₁).up S.keep) ((b.up hz₈₁₁).up S.keep) (hA'.in1.units (by omega))) ?_
              have S' := S.drop (mu' := ((dx, od') :: (rl, orl') :: infN l') ++ B) (List.Sublist.cons _ (List.Sublist.refl _))
              clear S heo eb eo
              obtain ⟨t₁, t₂, ha⟩ := hob'.at_
              obtain ⟨rvs, hrl, hrv⟩ := hob'.rdy
              have hSA₁₁ := ((hob'.sa.up hz₅₈).up hz₉).up hz₁₁
              walk_at "go"
              refine ⟨fun hb => ?_, fun hb => ?_⟩
              · have hst0 : store' = [] := by simpa using hb
                have hO0 : O₁ = [] := List.eq_nil_of_length_eq_zero (by rw [← hstl, hst0]; rfl)
                have hns : ns = [] := by
                  by_cases hh : ns = []
                  · exact hh
                  · obtain ⟨q, hq⟩ := hI.run.prog hh
                    rw [hI.rdy, hO0] at hq
                    simp at hq
                subst hns
                have hfin' := hI.run.done
                have hrv0 : rvs = [] := List.eq_nil_of_length_eq_zero (by rw [hrv.1]; rfl)
                subst hrv0
                walk_at "go"
                rename St _ _ _ _ _ _ _ => S
                refine meth_act S (S.keep _ _ hSA₁₁.inst) (S.get 0 rfl) ha rfl ?_
                walk_at "go"
                rename St _ _ _ _ _ _ _ => S
                refine wpAny_call (is_active (z := z₁₁) S.top hA' (by omega) (S.keep _ _ hSA₁₁.inst) (S.get 0 rfl) ha (IsL.of (S.get 1 rfl) hrl) (by simp) fun s₂₀ sm sb => ?_)
                have S₂₀ := S.grow sb sm
                clear S sm sb
                have hfalse : (decide ((Dn.length : Int) < (Dn.length : Int) + (O₁.length : Nat)) || !([] : List Value).isEmpty) = false := by rw [hO0]; simp
                rw [hfalse]
                walk_at "go"
                refine Br.no rfl ?_
                rename St _ _ _ _ _ _ _ => S
                refine r_cell (IsCell.up (IsCell.up hrc hz₁₁) S.keep) ?_
                walk_at "go"
                rename St _ _ _ _ _ _ _ => S
                refine fp_ret ?_
                walk_at "go"
                rename St _ _ _ _ _ _ _ => S
                rw [← hB] at S
                refine h _ fl' z₁₁ ra S.same hup' (hz₁.trans (hz₄.trans (hz45.trans (hz₅₈.trans hz₈₁₁)))) (S.drop ((List.sublist_append_left fl' [(I, o')]).trans (List.sublist_append_right _ _))).led (by rw [← hfin']; exact hrow₉.up hz₁₁)
              · have hst0 : store' ≠ [] := by simpa using hb
                obtain ⟨q, y, hqy⟩ : ∃ q y, store' = q ++ [y] := ⟨store'.dropLast, store'.getLast hst0, (List.dropLast_concat_getLast hst0).symm⟩
                have hsnd : store'.Nodup := store_nodup hI.si.ond hob'.nodes
                walk_at "go"
                rename St _ _ _ _ _ _ _ => S
                refine r_sortedP S ((hsL.up hz₁₁).up S.keep) (PairAt z₈) (fun _ _ a => (a.up hz₈₁₁).up S.keep) hsa (by omega) hsnd fun wa s₂₀ wo wvs' wq hw1 hw2 hw3 hw4 S₂₀ => ?_
                clear S
                walk_at "go"
                rename St _ _ _ _ _ _ _ => S
                have St8 := St.thaw2 hoff₈ hbot₈ hc8 hs8 hne8 S hz₈₁₁ (hz₁₁ _ _ hcz) (hz₁₁ _ _ hsz)
                clear S
                walk_at "go"
                rename St _ _ _ _ _ _ _ => S
                rw [hqy] at hsa
                refine r_heappop S 1 rfl hA' (by omega) hsl hsa (by have := congrArg List.length hqy; simp at this; omega) fun s₂₁ ost₂ svs₂ fv hsl₂ hsa₂ hfv S₂₁ => ?_
                clear S
                have hhp' : HP (q ++ [y]) := by rw [← hqy]; exact hob'.hp
                obtain ⟨hhp₂, hpperm, _⟩ := pop_ok hhp'
                have hqnd : (q ++ [y]).Nodup := by rw [← hqy]; exact hsnd
                have hpnd : (popF q y).2.Nodup := (List.nodup_cons.mp (hpperm.nodup_iff.mpr hqnd)).2
                have hpl2 : (popF q y).2.length + 1 = store'.length := by
                  have := hpperm.length_eq
                  rw [← hqy] at this
                  simpa using this
                walk_at "go"
                walk_at "if"
                walk_at "go"
                rename St _ _ _ _ _ _ _ => S
                rename_i lb _ lo hlo
                refine r_sortedP S (IsL.of (S.get 2 rfl) hsl₂) (PairAt z₈) (fun _ _ a => a.up S.keep) hsa₂ (by rw [hsa₂.1]; omega) hpnd fun va s₂₂ vo vvs vq hv1 hv2 hv3 hv4 S₂₂ => ?_
                have hvl : vvs.length = (popF q y).2.length := by rw [hv2.1]; exact hv3.length_eq
                clear S
                walk_at "go"
                rename St _ _ _ _ _ _ _ => S
                refine r_addL S (IsL.of (S.get 1 rfl) hlo) (IsL.of (S.get 0 rfl) hv1) (by simp; omega) fun ca s₂₃ co hca S₂₃ => ?_
                clear S
                walk_at "go"
                rename St _ _ _ _ _ _ _ => S
                refine r_neL (F := PairAt z₈) (0, 0) (hA'.units (by omega)) (IsL.of (S.get 0 rfl) hca) (IsL.of (S.get 5 rfl) hw1) ((All2.one hfv).append hv2) hw2 (fun _ _ _ _ a b => eqAt_pair (a.up S.keep) (b.up S.keep) (hA'.in1.units (by omega))) ?_
                have hsame : [(popF q y).1] ++ vq = wq := pop_sorted hhp' hqnd (by rw [← hqy]; exact hw3) hw4 hv3 hv4
                walk_at "go"
                refine Br.no (by simp only [hsame]; simp) ?_
                have S' := S.drop (mu' := (L + 3, oc) :: (st, ost₂) :: (((dx, od') :: (rl, orl') :: infN l') ++ B)) (List.Sublist.cons _ (List.Sublist.cons _ (List.Sublist.cons _ (List.Sublist.cons_cons _ (List.Sublist.cons_cons _ (List.Sublist.cons _ (List.Sublist.refl _)))))))
                clear S hlo hv1 hca hw1 hw2 hw3 hw4 hv2 hv3 hv4 hsame
                obtain ⟨nn, hnO, hfn⟩ : ∃ nn ∈ O₁, (popF q y).1.2 = 100 + ((nn : Nat) : Int) := by
                  have h1 : (popF q y).1 ∈ store' := by rw [hqy]; exact hpperm.mem_iff.mp (.head _)
                  have h2 := hob'.nodes.mem_iff.mp (List.mem_map_of_mem (f := fun p : P => p.2) h1)
                  obtain ⟨nn, h3, h4⟩ := List.mem_map.mp h2
                  exact ⟨nn, h3, h4.symm⟩
                have hnns : nn ∈ ns := ((hI.rdy nn).mpr (.inr hnO)).1
                obtain ⟨pi, hok, hrun', _⟩ := hI.run.read hP hnns ((hGO nn).mpr hnO)
                obtain ⟨T, tr, tn, rfl, hTt⟩ := hfv
                rw [hfn] at hTt
                have hp₈ := hp₅.up hz₅₈
                have hcp₈ := IsCell.up hcp₅ hz₅₈
                walk_at "go"
                rename St _ _ _ _ _ _ _ => S
                refine r_cell ⟨oc, S.get 0 rfl, hob'.cell⟩ ?_
                walk_at "go"
                rename St _ _ _ _ _ _ _ => S
                refine r_cell (IsCell.up hcp₈ S.keep) ?_
                walk_at "go"
                rename St _ _ _ _ _ _ _ => S
                refine r_itemT (j := 1) (IsTuple.up hTt S.keep) rfl rfl ?_
                walk_at "go"
                rename St _ _ _ _ _ _ _ => S
                refine r_read S hA' (by omega) hob'.row_ hp₈ (by omega) (by omega) hok fun z₁₂ ra' s₂₄ hz₁₂ hrow' S₂₄ => ?_
                clear S
                refine r_storeCell S₂₄ 0 rfl hob'.cell fun s₂₅ oc' hoc' S₂₅ => ?_
                clear S₂₄
                have hSA₁₂ := (hob'.sa.up hz₅₈).up hz₁₂
                have hgl : nn < (ps.map prs).length := (hI.si.dO nn (.inr hnO)).1
                have hvw := hI.si.view nn hgl
                have hnp : npV (ps.map prs) Dn O₁ nn = -1 := by
                  unfold npV
                  rw [if_neg (hI.si.disj _ hnO), if_pos hnO]
                rw [hnp] at hvw
                have hllj : l'.length = ps.length := by
                  have := hI.si.len
                  simpa [viewN] using this
                have hscl : (succN (ps.map prs) nn).length ≤ (ps.map prs).length := nodup_lt_length _ _ (succN_nodup _ _) fun i hi => (succN_mem.mp hi).1
                rw [List.length_map] at hscl
                walk_at "go"
                rename St _ _ _ _ _ _ _ => S
                refine meth_done S (S.keep _ _ hSA₁₂.inst) (S.get 2 rfl) ha rfl ?_
                walk_at "go"
                rename St _ _ _ _ _ _ _ => S
                refine r_itemT (j := 1) (IsTuple.up (IsTuple.up hTt hz₁₂) S.keep) rfl rfl ?_
                walk_at "go"
                rename St _ _ _ _ _ _ _ => S
                have Sp := S.perm (perm2 (L + 3, oc') (st, ost₂) ((dx, od') :: (rl, orl') :: infN l') B)
                clear S
                refine wpAny_call (done_ (qs := succN (ps.map prs) nn) Sp.lend hA' (by omega) (hSA₁₂.up Sp.subLend) ha hrl hrv (by simp; omega) hvw (fun q hq => by rw [hllj]; simpa using (succN_mem.mp hq).1) fun s₂₆ od₂ orl₂ rvs₂ l₂ t₂' sm D₂₆ hlr hri ha₂ HH hview₂ => ?_)
                have S₂₆ := (Sp.back D₂₆ sm).perm (perm2 (L + 3, oc') (st, ost₂) ((dx, od₂) :: (rl, orl₂) :: infN l₂) B).symm
                clear Sp D₂₆ sm
                have hSI' := hI.si.done hI.g hnO
                rw [← hview₂] at hSI'
                have hO1 : 0 < O₁.length := List.length_pos_of_mem hnO
                walk_at "go"
                rename St _ _ _ _ _ _ _ => S
                have hobN : OB prog w z₅ z₁₂ ps fin x dx nd rl ra' (readAt row pi (100 + ((nn : Nat) : Int))) (ns.erase nn) (nn :: Dn) (O₁.erase nn) (doneV (viewN l') [] nn (succN (ps.map prs) nn)).2 od₂ orl₂ oc' ost₂ l₂ (popF q y).2 := by
                  refine ⟨hoc', hrow', ⟨hrun', hSI', fun k => ?_, hI.g⟩, HH _ hob'.sa, ⟨t₁, t₂', ?_⟩, ⟨rvs₂, hlr, hri⟩, ⟨svs₂, hsl₂, hsa₂.mono fun _ _ a => a.up hz₁₂⟩, hhp₂, ?_⟩
                  · rw [List.Nodup.mem_erase_iff hI.run.ri.nd, hI.cov, List.mem_cons, not_or]
                    constructor
                    · rintro ⟨a, b, c⟩; exact ⟨b, a, c⟩
                    · rintro ⟨b, a, c⟩; exact ⟨a, b, c⟩
                  · have e1 : ((nn :: Dn).length : Int) + ((O₁.erase nn).length : Nat) = (Dn.length : Int) + (O₁.length : Nat) := by
                      rw [List.length_cons, List.length_erase_of_mem hnO]; omega
                    have e2 : ((nn :: Dn).length : Int) = (Dn.length : Int) + 1 := by rw [List.length_cons]; omega
                    rw [e1, e2]; exact ha₂
                  · have h1 : ((popF q y).1 :: (popF q y).2).Perm store' := by rw [hqy]; exact hpperm
                    have h2 := (h1.map (·.2)).trans hob'.nodes
                    rw [List.map_cons, hfn] at h2
                    have h3 := (List.perm_cons_erase hnO).map fun n : Nat => 100 + (n : Int)
                    rw [List.map_cons] at h3
                    exact (h2.trans h3).cons_inv
                subst hB
                have hassoc : ((L + 3, oc') :: (st, ost₂) :: (((dx, od₂) :: (rl, orl₂) :: infN l₂) ++ fl')) ++ [(I, o')] = (L + 3, oc') :: (st, ost₂) :: (((dx, od₂) :: (rl, orl₂) :: infN l₂) ++ (fl' ++ [(I, o')])) := by simp
                rw [← hassoc] at S
                exact fp_next (((hz₇.trans hz₈).trans hz₁₂)) ⟨ra', _, _, _, _, _, od₂, orl₂, oc', ost₂, l₂, _, _, rfl, rfl, hobN, by rw [List.length_cons, hDi]⟩ (S.norm [(Str.ofString "store", .ref st), (Str.ofString "sorter", .ref x), (Str.ofString "ranks", .ref ka)] (by walk_at "has"))
    · rintro z₆ m' mu' s₈ hz₆ ⟨ra, row, ns, Dn, O, rs, od, orl, oc, ost, l, store, r, rfl, rfl, hob, hDi⟩ S₈
      have h1 := nodup_lt_length (ps.map prs).length Dn hob.inv.si.dnd fun i hi => (hob.inv.si.dO i (.inl hi)).1
      rw [List.length_map] at h1
      omega
end
end Mine
namespace Mine
open PySem PySem.W PySem.Calls PyProof.Rows
theorem filled17 : (fun (_ : OpenLaw) (_ : Params → Frag) => True) PySem.Challenge.rw_oc0237_01 hd.heap_1 := by k_fill; trivial

/-! ## law -/
section
variable {prog : Program} {w : World} {A : Around} {E : Value → Shared → Prop} {s s₀ : Shared} {z : Heap} {L a : Addr} {m : List (Str × Value)} {mu : List (Addr × Obj)}
theorem r_cutScript {value slice : Expr} {its rs : List Value} {b : Addr} {vl vu : Value} {lo hi : Option Int} {Q : Value → Shared → Prop} (S : St w z L m ((b, slO vl vu) :: mu) s₀ s) (hl : s.heap.IsList a its.toArray) (pl : IsPart vl lo) (pu : IsPart vu hi) (hn : its.length < 1000000)
    (hr : slicePick its.toArray lo hi none = rs.toArray) (h : ∀ c s' o, LsO o rs → St w z L m ((c, o) :: mu) s₀ s' → Q (.ref c) s')
    (hs : subscripted slice false (.ref a) (.ref b) = operate [.ref b, .ref a] (getItem (.ref a) (.ref b)) := by with_unfolding_all rfl) :
    wpAny (model prog w) A (subscriptTail value slice (.ref a) (.ref b)) Q E s := by
  refine tail_any hl.typeIs slot_list_getitem.lookup (wpAny_getItem_list_slice hl ⟨_, (S.mus _ (.head _)).1, rfl, rfl⟩ pl pu IsPart.none (by simp) ?_ (by rw [sizeLine_eq]; simp; omega)) hs
  rw [hr]
  have S' := S.push { cls := .type "list", data := .seq rs.toArray } (k := s.toks)
  exact h _ _ _ ⟨0, rfl⟩ (S'.drop (List.Sublist.cons_cons _ (List.Sublist.cons _ (List.Sublist.refl _))))
theorem r_fdiv6 {x : Int} {t u : Tok} {Q : Value → Shared → Prop} (S : St w z L m mu s₀ s) (h : ∀ t s', St w z L m mu s₀ s' → Q (.int (x.fdiv 6) t) s') : wpAny (model prog w) A (binaryOp .FloorDiv (.int x t) (.int 6 u)) Q E s := by
  have hp : Builtin.divisionGoesByPylong x 6 = false := by
    unfold Builtin.divisionGoesByPylong
    simp
    intro e
    exact absurd e (by decide)
  exact PySem.AutoIntOps.floordiv_1 (by decide) (by rw [hp]; simp) (h _ _ (S.tok _))
/-- all is frozen but the frame -/
theorem St.frozen (S : St w z L m mu s₀ s) : ∃ z', Sub z z' ∧ St w z' L m [] s₀ s ∧ (∀ b o, s.heap.get? b = some o → (∀ es n, o.data ≠ .dict es n) → z'.get? b = some o) := by
  obtain ⟨z', h1, h2, h3⟩ := S.freeze (mu' := []) (List.nil_sublist _)
  refine ⟨z', h1, h2, fun b o e hne => h3 b o e (fun q => ?_) (fun p hp => by cases hp)⟩
  obtain ⟨oL, es, ep, hoL, hdat, _⟩ := S.ns
  rw [q, hoL] at e
  cases e
  exact hne es ep hdat
end
theorem IsL.fz {h z' : Heap} {a : Addr} {its : List Value} (x : IsL h a its) (k : ∀ b o, h.get? b = some o → (∀ es n, o.data ≠ .dict es n) → z'.get? b = some o) : IsL z' a its := by
  obtain ⟨o, ho, n, rfl⟩ := x
  exact ⟨_, k _ _ ho (fun es n e => by cases e), n, rfl⟩
theorem RowAt.fz {h z' : Heap} {a : Addr} {row : Row} (x : RowAt h a row) (k : ∀ b o, h.get? b = some o → (∀ es n, o.data ≠ .dict es n) → z'.get? b = some o) : RowAt z' a row := by
  obtain ⟨vs, hl, ha⟩ := x
  refine ⟨vs, hl.fz k, ha.mono fun v p y => ?_⟩
  obtain ⟨c, t, u, e, o, ho, hc, n, hd⟩ := y
  exact ⟨c, t, u, e, o, k _ _ ho (fun es n e => by rw [hd] at e; cases e), hc, n, hd⟩
theorem PartsAt.fz {h z' : Heap} {a : Addr} {ps : List (List Int)} (x : PartsAt h a ps) (k : ∀ b o, h.get? b = some o → (∀ es n, o.data ≠ .dict es n) → z'.get? b = some o) : PartsAt z' a ps := by
  obtain ⟨vs, hl, ha⟩ := x
  refine ⟨vs, hl.fz k, ha.mono fun v p y => ?_⟩
  obtain ⟨b, rs, e, hb, hi⟩ := y
  exact ⟨b, rs, e, hb.fz k, hi⟩
/-- the piece of text for a number -/
noncomputable def pieces : List (List Nat) := [[61], [51], [52], [67], [68], [61, 51, 68]]
noncomputable def piece (x : Int) : List Nat := pieces.getD (x.fmod 6).toNat []
theorem fmod6 (x : Int) : 0 ≤ x.fmod 6 ∧ x.fmod 6 < 6 := by
  rw [Int.fmod_eq_emod_of_nonneg x (by decide)]
  omega
theorem piece_ok (x : Int) : (∀ c ∈ piece x, okc c = true) ∧ (piece x).length ≤ 3 := by
  have h := fmod6 x
  unfold piece
  have h2 : (x.fmod 6).toNat < 6 := by omega
  revert h2
  generalize (x.fmod 6).toNat = k
  intro hk
  match k, hk with
  | 0, _ => exact ⟨by decide, by decide⟩
  | 1, _ => exact ⟨by decide, by decide⟩
  | 2, _ => exact ⟨by decide, by decide⟩
  | 3, _ => exact ⟨by decide, by decide⟩
  | 4, _ => exact ⟨by decide, by decide⟩
  | 5, _ => exact ⟨by decide, by decide⟩
theorem text_ok (ds : List Int) (h : ds.length ≤ 10) : TextOk ((ds.map piece).flatten ++ [61, 51, 68, 52, 52, 46]) := by
  have hl : (ds.map piece).flatten.length ≤ 3 * ds.length := by
    clear h
    induction ds with
    | nil => simp
    | cons x ds ih =>
      have := (piece_ok x).2
      simp only [List.map_cons, List.flatten_cons, List.length_append, List.length_cons]
      omega
  refine ⟨fun c hc => ?_, ⟨(ds.map piece).flatten ++ [61, 51, 68, 52, 52], by simp⟩, by simp; simp at hl; omega⟩
  rcases List.mem_append.mp hc with hc | hc
  · obtain ⟨l, hl, hcl⟩ := List.mem_flatten.mp hc
    obtain ⟨x, _, rfl⟩ := List.mem_map.mp hl
    exact (piece_ok x).1 c hcl
  · simp at hc
    rcases hc with rfl | rfl | rfl | rfl | rfl <;> decide
section
variable {prog : Program} {w : World} {A : Around} {s : Shared}
set_option maxHeartbeats 8000000 in
theorem law_ {R : Result → Shared → Prop} {sa : Addr} {svs : List Value} {ns : List Int} (T : TF w s.heap) (hA : Lo 0 A) (hF : A.frames = some []) (hl : s.heap.IsList sa svs.toArray) (hi : All2 IntIs svs ns) (hz : ns.length ≤ 63)
   (h : ∀ s', Same s s' → Sub s.heap s'.heap → R (.ok (.ret (.bool true))) s')
   : codeAny (model prog w) A (.call (.ref 224) ⟨[.ref sa], []⟩) R s := by
  have D : Led w s.heap [] s := ⟨T, Sub.refl _, fun p hp => (nomatch hp), List.nodup_nil⟩
  refine' enter_fr (fl := []) D ⟨[], hF, All2.nil⟩ hA (by omega) ?ho ?hcd ?hbind ?_ ?hloc ?hcell ?hco ?hgen ?hk
  case ho => k_is
  case hcd => k_is
  case hbind => exact BindsTo.of_eq rfl
  case hloc => rfl
  case hcell => decide
  case hco => rfl
  case hgen => rfl
  case hk => rfl
  intro L A' s₁ outer hfr hol S' hA'
  have S : St w s.heap L [("script", .ref sa)] [] s s₁ := S'
  clear S'
  have hsvl : svs.length = ns.length := hi.1
  have hls : s₁.heap.IsList sa svs.toArray := by obtain ⟨o, ho, r⟩ := hl; exact ⟨o, S.keep _ _ ho, r⟩
  walk_at "go"
  rename St _ _ _ _ _ _ _ => S
  refine r_cutScript S (by obtain ⟨o, ho, r⟩ := hl; exact ⟨o, S.keep _ _ ho, r⟩) IsPart.none (IsPart.int _ _) (by omega) (pick_upto svs 10) fun da s₂ od hda S₂ => ?_
  clear S
  obtain ⟨z₁, hz₁, S, hdz⟩ := S₂.freezeL hda
  clear S₂
  have hdi := hi.take 10
  have hdl : (ns.take 10).length ≤ 10 := by simp; omega
  generalize hds : ns.take 10 = ds at *
  generalize hdv : svs.take 10 = dvs at *
  walk_at "go"
  refine r_ListComp [] rfl ?_
  walk_at "go"
  rename St _ _ _ _ _ _ _ => S
  have hdvl : dvs.length = ds.length := hdi.1
  refine r_compList S hA'.1 hdz (by omega) (fun i z' rs => z' = z₁ ∧ All2 TxIs rs ((ds.take i).map piece)) ⟨rfl, All2.nil⟩ ?_ ?_
  · rintro i v z' rs C m' mu' s₃ hv hz' ⟨rfl, hrs⟩ S₃ hmu
    clear S
    have hid : i < ds.length := by have := (List.getElem?_eq_some_iff.mp hv).1; omega
    obtain ⟨tx', rfl⟩ := hdi.2 i v ds[i] hv (List.getElem?_eq_getElem hid)
    walk_at "go"
    refine wpAny_tests_nil (Br.yes rfl ?_)
    walk_at "go"
    rename St _ _ _ _ _ _ _ => S
    rename_i lb _ lo hlo _ _
    refine r_mod S (by decide) fun t₄ s₄ S₄ => ?_
    clear S
    walk_at "go"
    rename St _ _ _ _ _ _ _ => S
    have h6 := fmod6 ds[i]
    have htk : (ds.take (i + 1)).map piece = (ds.take i).map piece ++ [piece ds[i]] := by rw [List.take_add_one, List.getElem?_eq_getElem hid, List.map_append]; rfl
    have fin : ∀ {vv : Value} {s' : Shared} {mm : List (Str × Value)}, TxIs vv (piece ds[i]) → St w z' C mm ((lb, lo) :: mu') s s' → Ce w z' C mu' s (fun z'' rs => z'' = z' ∧ All2 TxIs rs ((ds.take (i + 1)).map piece)) (rs ++ [vv]) s' := fun hvv S => by
      refine ce (Sub.refl _) ⟨rfl, ?_⟩ (S.drop (List.Sublist.cons _ (List.Sublist.refl _)))
      rw [htk]
      exact hrs.append1 hvv
    generalize hk : (ds[i].fmod 6).toNat = k at *
    have hk6 : k < 6 := by omega
    have hkk : ds[i].fmod 6 = (k : Int) := by omega
    have hpc : piece ds[i] = pieces.getD k [] := by unfold piece; rw [hk]
    match k, hk6 with
    | 0, _ => exact r_itemN 0 (IsL.of (S.get 0 rfl) hlo) hkk (by omega) rfl (fin ⟨_, by rw [hpc]; rfl⟩ S)
    | 1, _ => exact r_itemN 1 (IsL.of (S.get 0 rfl) hlo) hkk (by omega) rfl (fin ⟨_, by rw [hpc]; rfl⟩ S)
    | 2, _ => exact r_itemN 2 (IsL.of (S.get 0 rfl) hlo) hkk (by omega) rfl (fin ⟨_, by rw [hpc]; rfl⟩ S)
    | 3, _ => exact r_itemN 3 (IsL.of (S.get 0 rfl) hlo) hkk (by omega) rfl (fin ⟨_, by rw [hpc]; rfl⟩ S)
    | 4, _ => exact r_itemN 4 (IsL.of (S.get 0 rfl) hlo) hkk (by omega) rfl (fin ⟨_, by rw [hpc]; rfl⟩ S)
    | 5, _ => exact r_itemN 5 (IsL.of (S.get 0 rfl) hlo) hkk (by omega) rfl (fin ⟨_, by rw [hpc]; rfl⟩ S)
  · rintro z' rs ja jo hz' ⟨rfl, hrs⟩ hrl hlo
    refine hand_none fun s₃ S₃ => ?_
    clear S
    rw [hdvl, List.take_length] at hrs
    have hT := text_ok ds hdl
    have hTl := hT.len
    rw [List.length_append] at hTl
    walk_at "go"
    rename St _ _ _ _ _ _ _ => S
    refine r_join S (IsL.of (S.get 0 rfl) hlo) hrs (by omega) fun t₄ s₄ S₄ => ?_
    clear S
    walk_at "go"
    rename St _ _ _ _ _ _ _ => S
    refine r_addS S (by simp at hTl ⊢; omega) fun t₅ s₅ S₅ => ?_
    clear S
    generalize htext : (ds.map piece).flatten ++ [61, 51, 68, 52, 52, 46] = text at *
    walk_at "go"
    rename St _ _ _ _ _ _ _ => S
    refine wpAny_call (law_walk S.top hA' (by omega) (by have := hT.len; omega) fun s₆ ta pa tw sm sb hta hpa htw => ?_)
    have S₆ := S.grow sb sm
    clear S sm sb
    obtain ⟨z₂, hz₂, S, hfz⟩ := S₆.frozen
    have hta₂ := hta.fz hfz
    have hpa₂ := hpa.fz hfz
    have htw₂ := htw.fz hfz
    have hdz₂ := hdz.up hz₂
    clear S₆ hfz hta hpa htw
    walk_at "go"
    refine r_ListComp [] rfl ?_
    walk_at "go"
    rename St _ _ _ _ _ _ _ => S
    refine r_compList S hA'.1 hdz₂ (by omega) (fun i z' rs => z' = z₂ ∧ ∃ l, All2 IntIs rs l ∧ l.length = i) ⟨rfl, [], All2.nil, rfl⟩ ?_ ?_
    · rintro i v z'' rs' C m' mu' s₇ hv hz'' ⟨rfl, rl, hrs', hrl'⟩ S₇ hmu
      clear S
      have hid : i < ds.length := by have := (List.getElem?_eq_some_iff.mp hv).1; omega
      obtain ⟨tx', rfl⟩ := hdi.2 i v ds[i] hv (List.getElem?_eq_getElem hid)
      walk_at "go"
      refine wpAny_tests_nil (Br.yes rfl ?_)
      walk_at "go"
      rename St _ _ _ _ _ _ _ => S
      refine r_mod S (by decide) fun t₈ s₈ S₈ => ?_
      clear S
      walk_at "go"
      rename St _ _ _ _ _ _ _ => S
      refine r_fdiv6 S fun t₉ s₉ S₉ => ?_
      exact ce (Sub.refl _) ⟨rfl, rl ++ [_], hrs'.append1 ⟨_, rfl⟩, by simp [hrl']⟩ S₉
    · rintro z'' rk' ka ko hz'' ⟨rfl, rl, hrk, hrl'⟩ _ hko
      refine hand_none fun s₇ S₇ => ?_
      clear S
      walk_at "go"
      rename St _ _ _ _ _ _ _ => S
      rename_i zb _ zo hzo
      refine r_addL S (IsL.of (S.get 1 rfl) hko) (IsL.of (S.get 0 rfl) hzo) (by simp; rw [hrk.1, hrl']; omega) fun ca s₈ co hca S₈ => ?_
      obtain ⟨z₃, hz₃, S₉, hcz⟩ := S₈.freezeL hca
      have S₁₀ := S₉.drop (mu' := []) (List.nil_sublist _)
      clear S S₈ S₉ hko hzo hca
      have hta₃ := hta₂.up hz₃
      have hpa₃ := hpa₂.up hz₃
      have htw₃ := htw₂.up hz₃
      have hkind : ∀ env : Env, env.scope.kind = ScopeKind.function → env.scope.kind ≠ ScopeKind.module := fun env e h => by rw [e] at h; cases h
      walk_at "go"
      rename St _ _ _ _ _ _ _ => S
      refine r_itemN 0 (hta₃.up S.keep) rfl (by omega) rfl ?_
      walk_at "go"
      rename St _ _ _ _ _ _ _ => S
      obtain ⟨oL, hoL, D₂, hback⟩ := St.lendG (fl := []) (muP := []) S
      refine wpAny_call (in_rounds (fl := [(L, oL)]) D₂ ⟨_, hfr, All2.cons ⟨(fun h => nomatch (show ScopeKind.function = ScopeKind.module from h)), rfl⟩ hol⟩ ?_ hA' (by omega) hT hpa₃ fun s₁₁ fl2 z₄ ra sm hup hz₄ D₄ hrow => ?_)
      · intro p hp
        rw [List.mem_singleton.mp hp]; exact hoL.dict
      obtain ⟨fl', hup', S₁₁⟩ := hback z₄ [] fl2 s₁₁ hz₄ hup D₄ sm
      have hfl' : fl' = [] := List.eq_nil_of_length_eq_zero hup'.1.symm
      subst hfl'
      clear S D₂ D₄ hback hup hup' sm
      have hta₄ := hta₃.up hz₄
      have hpa₄ := hpa₃.up hz₄
      have htw₄ := htw₃.up hz₄
      have hcz₄ := hcz.up hz₄
      walk_at "go"
      rename St _ _ _ _ _ _ _ => S
      refine r_itemN 1 (hta₄.up S.keep) rfl (by omega) rfl ?_
      walk_at "go"
      rename St _ _ _ _ _ _ _ => S
      obtain ⟨v1, hv1, hr1⟩ := id hrow
      obtain ⟨v2, hv2, hr2⟩ := id htw₄
      refine r_eqL (F := SgnAt z₄) (0, 0) (hA'.units (by omega)) (hv1.up S.keep) (hv2.up S.keep) hr1 hr2 (fun _ _ _ _ a b => eqAt_sgn (a.up S.keep) (b.up S.keep) (hA'.in1.units (by omega))) ?_
      rw [decide_eq_true rfl]
      walk_at "go"
      refine Br.yes rfl ?_
      walk_at "go"
      rename St _ _ _ _ _ _ _ => S
      refine r_itemN 0 (hta₄.up S.keep) rfl (by omega) rfl ?_
      walk_at "go"
      rename St _ _ _ _ _ _ _ => S
      obtain ⟨oL₂, hoL₂, D₅, hback⟩ := St.lendG (fl := []) (muP := []) S
      refine wpAny_call (one_by_one (fl := [(L, oL₂)]) (rk := rl ++ [0]) D₅ ⟨_, hfr, All2.cons ⟨(fun h => nomatch (show ScopeKind.function = ScopeKind.module from h)), rfl⟩ hol⟩ ?_ hA' (by omega) hT hpa₄ hcz₄ (hrk.append1 ⟨_, rfl⟩) (by simp) (by simp; omega) fun s₁₂ fl2 z₅ ra₂ sm hup hz₅ D₆ hrow₂ => ?_)
      · intro p hp
        rw [List.mem_singleton.mp hp]; exact hoL₂.dict
      obtain ⟨fl', hup', S₁₂⟩ := hback z₅ [] fl2 s₁₂ hz₅ hup D₆ sm
      have hfl' : fl' = [] := List.eq_nil_of_length_eq_zero hup'.1.symm
      subst hfl'
      clear S D₅ D₆ hback hup hup' sm
      walk_at "go"
      rename St _ _ _ _ _ _ _ => S
      refine r_itemN 1 ((hta₄.up hz₅).up S.keep) rfl (by omega) rfl ?_
      walk_at "go"
      rename St _ _ _ _ _ _ _ => S
      obtain ⟨v3, hv3, hr3⟩ := id hrow₂
      obtain ⟨v4, hv4, hr4⟩ := id (htw₄.up hz₅)
      refine r_eqL (F := SgnAt z₅) (0, 0) (hA'.units (by omega)) (hv3.up S.keep) (hv4.up S.keep) hr3 hr4 (fun _ _ _ _ a b => eqAt_sgn (a.up S.keep) (b.up S.keep) (hA'.in1.units (by omega))) ?_
      rw [decide_eq_true rfl]
      walk_at "go"
      rename St _ _ _ _ _ _ _ => S
      exact h _ S.same ((hz₁.trans (hz₂.trans (hz₃.trans (hz₄.trans hz₅)))).trans S.keep)
end
end Mine
set_option maxHeartbeats 8000000
open PySem PySem.W PyProof.Rows
/-! The head can lay a quicker twin beside each constant that it makes. The run comes through without them, and they would make the compiled
file many times as long: their names are taken here, so that none is laid. -/
namespace Mine.top
theorem tw357486453476387696 : True := trivial
theorem tw10005945817407372193 : True := trivial
theorem tw10006222313960134694 : True := trivial
theorem tw10090393231696489298 : True := trivial
theorem tw10187264123177260123 : True := trivial
theorem tw10404823597219466188 : True := trivial
theorem tw1047907039808853306 : True := trivial
theorem tw105208000716104510 : True := trivial
theorem tw10567129059001840431 : True := trivial
theorem tw10617020205504526918 : True := trivial
theorem tw10648311167861321448 : True := trivial
theorem tw10773188271377071773 : True := trivial
theorem tw10936122117785486979 : True := trivial
theorem tw10996937224433265937 : True := trivial
theorem tw11133666699803404755 : True := trivial
theorem tw11279390925490393535 : True := trivial
theorem tw11334415319851112604 : True := trivial
theorem tw1139600151236580504 : True := trivial
theorem tw11423202765487971197 : True := trivial
theorem tw11430207588045935325 : True := trivial
theorem tw11459358961799972967 : True := trivial
theorem tw1149218181149386328 : True := trivial
theorem tw11613256710310857696 : True := trivial
theorem tw1173462037489846143 : True := trivial
theorem tw11858546649754279707 : True := trivial
theorem tw1195175773429642966 : True := trivial
theorem tw11960245374511038805 : True := trivial
theorem tw12012865196380796599 : True := trivial
theorem tw12094960947251128927 : True := trivial
theorem tw12318557346453588183 : True := trivial
theorem tw12342655685612074800 : True := trivial
theorem tw12385144161495827662 : True := trivial
theorem tw12392516345856041104 : True := trivial
theorem tw12425085872883035938 : True := trivial
theorem tw12535971307161669396 : True := trivial
theorem tw12540527436937284434 : True := trivial
theorem tw12622177474791663080 : True := trivial
theorem tw12643491718579748851 : True := trivial
theorem tw1275901062530889299 : True := trivial
theorem tw12819366960792805191 : True := trivial
theorem tw1284575025550258836 : True := trivial
theorem tw13120753694373217308 : True := trivial
theorem tw13160728816969591200 : True := trivial
theorem tw13264354339760550358 : True := trivial
theorem tw13272337422414781067 : True := trivial
theorem tw13303987763403120937 : True := trivial
theorem tw13369591340354186047 : True := trivial
theorem tw13928562000808390012 : True := trivial
theorem tw14349089067433371257 : True := trivial
theorem tw14372152842798730730 : True := trivial
theorem tw14374289702345001990 : True := trivial
theorem tw14390669486469195807 : True := trivial
theorem tw14459580976405569124 : True := trivial
theorem tw14502225709538309166 : True := trivial
theorem tw14597223018079223185 : True := trivial
theorem tw14611434983143301774 : True := trivial
theorem tw14823308797102314842 : True := trivial
theorem tw14826035006057030972 : True := trivial
theorem tw14861896470697024400 : True := trivial
theorem tw14917401599646851644 : True := trivial
theorem tw1492452104121835379 : True := trivial
theorem tw14987219478266130788 : True := trivial
theorem tw15058813355848621054 : True := trivial
theorem tw1516213087968936877 : True := trivial
theorem tw15169761463676818070 : True := trivial
theorem tw15177526630643400193 : True := trivial
theorem tw15299407806266782574 : True := trivial
theorem tw15362295582089109014 : True := trivial
theorem tw15569959144833144457 : True := trivial
theorem tw15646934709686841381 : True := trivial
theorem tw16058212318047004132 : True := trivial
theorem tw16123964013534891561 : True := trivial
theorem tw16155163154822807229 : True := trivial
theorem tw16174758807025615021 : True := trivial
theorem tw16273406610938067001 : True := trivial
theorem tw16420938139371093754 : True := trivial
theorem tw16439428074185983240 : True := trivial
theorem tw16666122058527598403 : True := trivial
theorem tw16759092144687519636 : True := trivial
theorem tw16782997733028217545 : True := trivial
theorem tw16840627104734473223 : True := trivial
theorem tw16885616592811714743 : True := trivial
theorem tw17323899518341599180 : True := trivial
theorem tw1736530178072539846 : True := trivial
theorem tw17470836177267949868 : True := trivial
theorem tw17486766287000646611 : True := trivial
theorem tw17555251805378815213 : True := trivial
theorem tw17810072253543177317 : True := trivial
theorem tw17886615442053742456 : True := trivial
theorem tw18008055252877512497 : True := trivial
theorem tw18034075008235765660 : True := trivial
theorem tw1814787853859245837 : True := trivial
theorem tw18164388396756303480 : True := trivial
theorem tw18186074749648716422 : True := trivial
theorem tw18194552166560175392 : True := trivial
theorem tw1869187583165140508 : True := trivial
theorem tw1886144042066472794 : True := trivial
theorem tw2057334267981633021 : True := trivial
theorem tw2126296398998916975 : True := trivial
theorem tw216529984938456764 : True := trivial
theorem tw2218668502564051296 : True := trivial
theorem tw2249405535684624136 : True := trivial
theorem tw2462062305354472974 : True := trivial
theorem tw2464713573024523455 : True := trivial
theorem tw2514443458684651071 : True := trivial
theorem tw2555065506035805374 : True := trivial
theorem tw2617719716777270872 : True := trivial
theorem tw2731995056826638727 : True := trivial
theorem tw2732273902793177162 : True := trivial
theorem tw2741389259953327712 : True := trivial
theorem tw2782073688633401757 : True := trivial
theorem tw2812155379371279736 : True := trivial
theorem tw2822501910515967889 : True := trivial
theorem tw2835187731363253809 : True := trivial
theorem tw2867133514656366558 : True := trivial
theorem tw2924597203103170677 : True := trivial
theorem tw2967798162736962236 : True := trivial
theorem tw3195968871104189447 : True := trivial
theorem tw370947364307004932 : True := trivial
theorem tw3730354652608582461 : True := trivial
theorem tw3969286963782609292 : True := trivial
theorem tw3987481527375984800 : True := trivial
theorem tw4055923060008382956 : True := trivial
theorem tw4166218997396506358 : True := trivial
theorem tw4186445540838780016 : True := trivial
theorem tw4213018616267185653 : True := trivial
theorem tw427269002284569659 : True := trivial
theorem tw4292695720768233569 : True := trivial
theorem tw4299629679881509495 : True := trivial
theorem tw4321519831107876412 : True := trivial
theorem tw4498253355057717688 : True := trivial
theorem tw453181688931711583 : True := trivial
theorem tw4551080515912023512 : True := trivial
theorem tw4655869559712951663 : True := trivial
theorem tw4656485037274611717 : True := trivial
theorem tw4997509813036325311 : True := trivial
theorem tw5088376156974544275 : True := trivial
theorem tw5105846836358774362 : True := trivial
theorem tw5118827330378232414 : True := trivial
theorem tw517144808224063464 : True := trivial
theorem tw5244899138074338376 : True := trivial
theorem tw5303079699428457377 : True := trivial
theorem tw5476889619067714990 : True := trivial
theorem tw5523086135645875356 : True := trivial
theorem tw5581607755468803823 : True := trivial
theorem tw5667650583090716360 : True := trivial
theorem tw575894324575664597 : True := trivial
theorem tw5766051744304087583 : True := trivial
theorem tw5868845118606482295 : True := trivial
theorem tw6127594578889010139 : True := trivial
theorem tw6187478851450931391 : True := trivial
theorem tw6370870915552960936 : True := trivial
theorem tw6431110157172167083 : True := trivial
theorem tw6451443466077778170 : True := trivial
theorem tw6473336682457920079 : True := trivial
theorem tw6491118196486620199 : True := trivial
theorem tw6520327441239513222 : True := trivial
theorem tw6664487174759623829 : True := trivial
theorem tw6812286434817487243 : True := trivial
theorem tw6815640781856848509 : True := trivial
theorem tw6859976401760118174 : True := trivial
theorem tw6883741973766446791 : True := trivial
theorem tw6898770573198911631 : True := trivial
theorem tw7008692893051332821 : True := trivial
theorem tw705360758644809490 : True := trivial
theorem tw708234853630380328 : True := trivial
theorem tw72247145696351765 : True := trivial
theorem tw7271667993632884009 : True := trivial
theorem tw7297446738713254254 : True := trivial
theorem tw7458633546980236471 : True := trivial
theorem tw7527032243904285869 : True := trivial
theorem tw7557910624720293991 : True := trivial
theorem tw7652560490529028683 : True := trivial
theorem tw7673058066778466091 : True := trivial
theorem tw7740461459972228597 : True := trivial
theorem tw7847650389618582240 : True := trivial
theorem tw7855079511596107753 : True := trivial
theorem tw788273225186049534 : True := trivial
theorem tw795583310449317561 : True := trivial
theorem tw814325599930780420 : True := trivial
theorem tw8143265674769528471 : True := trivial
theorem tw81815255157605957 : True := trivial
theorem tw8184561461823581802 : True := trivial
theorem tw8265191368974092141 : True := trivial
theorem tw8363718466572441477 : True := trivial
theorem tw8435561252592420358 : True := trivial
theorem tw8443935842833279946 : True := trivial
theorem tw8507776931139520737 : True := trivial
theorem tw8538268897159353584 : True := trivial
theorem tw8598144960395782539 : True := trivial
theorem tw8640399195822439974 : True := trivial
theorem tw864819663365544661 : True := trivial
theorem tw8689318265317240412 : True := trivial
theorem tw8735323631387419056 : True := trivial
theorem tw8810280945414196856 : True := trivial
theorem tw8813761850579938390 : True := trivial
theorem tw8892184565913893157 : True := trivial
theorem tw9059672392935016618 : True := trivial
theorem tw9068506458530023791 : True := trivial
theorem tw9229161468869434483 : True := trivial
theorem tw9244571645793827286 : True := trivial
theorem tw9305691244287143441 : True := trivial
theorem tw9437893007894698314 : True := trivial
theorem tw956942650209027819 : True := trivial
theorem tw9631074621892390191 : True := trivial
theorem tw9800703332001039478 : True := trivial
theorem tw987869383939708018 : True := trivial
end Mine.top
set_option Elab.async true
theorem Mine.top : PySem.Challenge.rw_oc0237_01.Holds := by
  w_on; o_law; o_head (kHook Mine.hd.heap_1 [2, 3, 15, 17, 18, 20, 21, 22, 24, 25, 27, 28, 29, 30, 32, 33, 35, 36, 44, 45, 47, 48, 50, 51, 52, 54, 55, 56, 57, 58, 61, 68, 69, 70, 71, 81, 82,
    84, 85, 87, 88, 89, 91, 92, 94, 95, 96, 98, 99, 101, 102, 103, 106, 107, 108, 110, 111, 113, 114, 115, 117, 118, 120, 121, 122, 124, 125, 127, 128,
    129, 131, 132, 134, 135, 136, 138, 139, 141, 142, 143, 145, 146, 148, 149, 150, 151, 152, 153, 154, 157, 159, 160, 162, 163, 164, 166, 167, 169,
    170, 171, 173, 174, 176, 177, 178, 180, 181, 183, 184, 185, 188, 189, 190, 193, 194, 195, 198, 199, 200, 203, 204, 205, 208, 209, 210, 213, 214,
    215, 218, 219, 220, 223, 224] (fun _ => by kernel_rfl))
  case hw => w_witness2
  k_fill
  intro w s₀ s₁ mg mb G Y fa o pm cd doc dV kV ho hd' hcd hD hmg hg args vals as hpre hlay hrd hwl hlo
  have KX := kIn_of Y
  refine Ground.open G ?_
  intro T B D TE TW
  have TFs : Mine.TF w s₁.heap := ⟨KX, ⟨mg, mb, T.g, T.b, T.builtins⟩, T.nolimit, T.nodigits⟩
  have hfa : mg (Str.ofString "law") = some (.ref 224) := mg_of KX T.g (by k_is)
  have hfa2 : fa = 224 := by
    have e : some (Value.ref fa) = some (Value.ref 224) := hmg.symm.trans hfa
    injection e with e
    injection e
  subst hfa2
  clear hD hcd hd' hmg
  wrow_args hpre hlay hrd hwl hlo
  rename IntsAre _ _ => hI
  rename Heap.IsList _ _ _ => hL
  rename ¬ ((63 : Nat) : Int) < _ => hc
  refine wpAny_call (Mine.law_ TFs ⟨rfl, by decide, by decide⟩ rfl hL (Mine.of_intsAre hI) (by omega) fun s' sm sb => ?_)
  refine GoodW.toG ⟨.inl ⟨.bool true, .bool true, [], rfl, fun cls => rfl, ?_, ?_, fun _ => ⟨List.nodup_nil, fun a h => nomatch h⟩⟩, sb, sm.os, by rw [sm.gens]; exact hg⟩
  · constructor
  · wrow_post
theorem PySem.Challenge.cw_oc0237_01_holds : PySem.Challenge.rw_oc0237_01.Holds :=
  Mine.top
