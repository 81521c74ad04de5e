import PyProof.Rows.All
import Wide.All
import OpenK.AllK
import Wide.FinOn
import KE.KBytesCut
import KE.KNest
import KE.KNestM
import KE.KPairComp
import KE.KStar
import KE.KTryDeep
import KE.KxDecode
import KE.RegKTryDeep
import Open.Tops
import Lean
import PySem.Challenge.RW_fc0024_01

section
open PySem PySem.W PySem.Calls PyProof.Rows
set_option Elab.async false
namespace Mine

/-- what a piece of the run may do: all objects but those at T and F are kept; those at F stay namespaces of the same bindings -/
structure Ev (T F : List Addr) (s s' : Shared) : Prop where
  keep : ∀ b o, s.heap.get? b = some o → b ∉ T ++ F → s'.heap.get? b = some o
  ns : ∀ b m, s.heap.Ns b m → b ∉ T → s'.heap.Ns b m
  live : ∀ b o, s.heap.get? b = some o → ∃ o', s'.heap.get? b = some o'
  os : s'.os = s.os
  gens : AllBare s.gens → AllBare s'.gens

namespace Ev
variable {T F T' F' : List Addr} {s s' s'' : Shared}
theorem refl (T F : List Addr) (s : Shared) : Ev T F s s := ⟨fun _ _ e _ => e, fun _ _ x _ => x, fun _ o e => ⟨o, e⟩, rfl, id⟩
theorem trans (a : Ev T F s s') (b : Ev T F s' s'') : Ev T F s s'' :=
  ⟨fun x o e n => b.keep x o (a.keep x o e n) n, fun x m h n => b.ns x m (a.ns x m h n) n, fun x o e => let ⟨_, e'⟩ := a.live x o e; b.live x _ e', b.os.trans a.os, fun h => b.gens (a.gens h)⟩
theorem mono (a : Ev T F s s') (h : ∀ t ∈ T, t ∈ T') (hf : ∀ t ∈ F, t ∈ T' ++ F') : Ev T' F' s s' :=
  ⟨fun x o e n => a.keep x o e fun q => (List.mem_append.mp q).elim (fun q => n (List.mem_append_left _ (h _ q))) fun q => n (hf _ q), fun x m e n => a.ns x m e fun q => n (h _ q), a.live, a.os, a.gens⟩
theorem of_nil (a : Ev [] [] s s') : Ev T F s s' := a.mono (fun _ h => nomatch h) fun _ h => nomatch h
theorem of_keeps (k : ∀ b o, s.heap.get? b = some o → s'.heap.get? b = some o) (os : s'.os = s.os) (g : s'.gens = s.gens) : Ev T F s s' :=
  ⟨fun b o e _ => k b o e, fun _ _ x _ => x.keeps k, fun b o e => ⟨o, k b o e⟩, os, fun h => g ▸ h⟩
theorem heap {h : Heap} {t : Nat} (k : ∀ b o, s.heap.get? b = some o → h.get? b = some o) : Ev T F s { s with heap := h, toks := t } := of_keeps k rfl rfl
/-- a further step that keeps all that was there at the start -/
theorem step (a : Ev T F s s') (k : ∀ b o o₀, s.heap.get? b = some o₀ → s'.heap.get? b = some o → s''.heap.get? b = some o) (os : s''.os = s'.os) (g : s''.gens = s'.gens) : Ev T F s s'' :=
  ⟨fun b o e n => k b o o e (a.keep b o e n), fun b m x n => let ⟨_, _, _, e, _⟩ := x; (a.ns b m x n).at' fun o h => k b o _ e h,
    fun b o e => let ⟨o', e'⟩ := a.live b o e; ⟨o', k b o' o e e'⟩, os.trans a.os, fun h => g ▸ a.gens h⟩
theorem stepT (a : Ev T F s s') (k : ∀ b o o₀, s.heap.get? b = some o₀ → b ∉ T → s'.heap.get? b = some o → s''.heap.get? b = some o) (l : ∀ b o o₀, s.heap.get? b = some o₀ → s'.heap.get? b = some o → ∃ o', s''.heap.get? b = some o') (os : s''.os = s'.os) (g : s''.gens = s'.gens) : Ev T F s s'' :=
  ⟨fun b o e n => k b o o e (fun q => n (List.mem_append_left _ q)) (a.keep b o e n), fun b m x n => let ⟨_, _, _, e, _⟩ := x; (a.ns b m x n).at' fun o h => k b o _ e n h,
    fun b o e => let ⟨o', e'⟩ := a.live b o e; l b o' o e e', os.trans a.os, fun h => g ▸ a.gens h⟩
theorem kept (a : Ev [] [] s s') : ∀ b o, s.heap.get? b = some o → s'.heap.get? b = some o := fun b o e => a.keep b o e (fun h => nomatch h)
theorem drop (a : Ev T F s s') (h : ∀ t ∈ T, t ∈ T' ∨ s.heap.get? t = none) (hf : ∀ t ∈ F, t ∈ F' ∨ s.heap.get? t = none) : Ev T' F' s s' := by
  refine ⟨fun x o e n => a.keep x o e fun q => ?_, fun x m e n => a.ns x m e fun q => ?_, a.live, a.os, a.gens⟩
  · rcases List.mem_append.mp q with q | q
    · rcases h _ q with q | q
      · exact n (List.mem_append_left _ q)
      · rw [e] at q; cases q
    · rcases hf _ q with q | q
      · exact n (List.mem_append_right _ q)
      · rw [e] at q; cases q
  · obtain ⟨o, _, _, ho, _⟩ := e
    rcases h _ q with q | q
    · exact n q
    · rw [ho] at q; cases q
end Ev

/-- a value to be walked: n items, the i-th of them P i -/
def Src (prog : Program) (w : World) (A : Around) (D0 : List Addr) (xv : Value) (n : Nat) (P : Nat → Value → Prop) (s : Shared) : Prop :=
  (∀ b ∈ D0, ∃ o, s.heap.get? b = some o) ∧ ∀ (Q : Value → Shared → Prop) (E : Value → Shared → Prop),
    (∀ I fp St h', (∀ A' : Around, A'.handled = none → Walks prog w A' I fp [I] n P St) → (∀ i h, St i h → ∃ o, h.get? I = some o) → I ∈ fp → St 0 h' → (∀ b ∈ fp, b = I ∨ b ∈ D0) → I < h'.objs.size → s.heap.get? I = none →
      (∀ b o, s.heap.get? b = some o → h'.get? b = some o) → Q (.ref I) { s with heap := h' }) → wpAny (model prog w) A (pyIter xv) Q E s

section
variable {prog : Program} {w : World} {A : Around} {s : Shared}
theorem none_of_ge {h : Heap} {a : Addr} (ha : h.objs.size ≤ a) : h.get? a = none := by
  cases e : h.get? a with
  | none => rfl
  | some o' => exact absurd (Heap.lt_size e) (Nat.not_lt.mpr ha)
theorem Src.list {l : Addr} {items : Array Value} (hl : s.heap.IsList l items) : Src prog w A [l] (.ref l) items.size (fun i v => items[i]? = some v) s := by
  have hex : ∃ o, s.heap.get? l = some o := let ⟨o, ho, _⟩ := hl; ⟨o, ho⟩
  obtain ⟨o, ho⟩ := hex
  refine ⟨fun b hb => by rw [List.mem_singleton.mp hb]; exact ⟨o, ho⟩, fun Q E h => wpAny_pyIter_list hl ?_⟩
  refine h s.heap.objs.size [s.heap.objs.size, l] _ _ (fun A' hA => Walks.list hA _ _ (Nat.ne_of_lt (Heap.lt_size ho)) items) (fun i h st => let ⟨⟨o, e, _⟩, _⟩ := st; ⟨o, e⟩) (by simp) ⟨⟨_, Heap.get?_push_size _ rfl, rfl, rfl⟩, hl.push _⟩ ?_ (by rw [Heap.size_push]; exact Nat.lt_succ_self _) (none_of_ge (Nat.le_refl _)) fun b o e => Heap.get?_push_of_some _ e
  intro b hb
  rcases List.mem_cons.mp hb with rfl | hb
  · exact .inl rfl
  · exact .inr hb
theorem Src.str {x : Str} {t : Tok} : Src prog w A [] (.str x t) x.cps.size (SignAt x) s := by
  refine ⟨fun b hb => (nomatch hb), fun Q E h => ?_⟩
  cases ha : x.cps.all (· < 128)
  · exact wpAny_pyIter_wide ha (h s.heap.objs.size [s.heap.objs.size] _ _ (fun A' hA => Walks.strWide hA _ x t) (fun i h st => let ⟨o, e, _⟩ := st; ⟨o, e⟩) (by simp) ⟨_, Heap.get?_push_size _ rfl, rfl, rfl⟩
      (fun b hb => .inl (List.mem_singleton.mp hb)) (by rw [Heap.size_push]; exact Nat.lt_succ_self _) (none_of_ge (Nat.le_refl _)) fun b o e => Heap.get?_push_of_some _ e)
  · exact wpAny_pyIter_ascii ha (h s.heap.objs.size [s.heap.objs.size] _ _ (fun A' hA => Walks.strAscii hA _ x t) (fun i h st => let ⟨o, e, _⟩ := st; ⟨o, e⟩) (by simp) ⟨_, Heap.get?_push_size _ rfl, rfl, rfl⟩
      (fun b hb => .inl (List.mem_singleton.mp hb)) (by rw [Heap.size_push]; exact Nat.lt_succ_self _) (none_of_ge (Nat.le_refl _)) fun b o e => Heap.get?_push_of_some _ e)
end

abbrev Stable (J : (Addr → Prop) → Nat → List Value → Shared → Prop) : Prop :=
  ∀ pv i ys s₁ s₂, J pv i ys s₁ → (∀ b o, ¬ pv b → s₁.heap.get? b = some o → s₂.heap.get? b = some o) → s₂.gens = s₁.gens → s₂.os = s₁.os → J pv i ys s₂

section
variable {prog : Program} {w : World} {A : Around} {R : Result → Shared → Prop} {s : Shared}

theorem compLoop_ev {elt iter : Expr} {x : Str} {px : Pos} {scope : Scope} {pos : Pos} {I D : Addr} {fp : List Addr} {n : Nat} {P : Nat → Value → Prop} {St : Nat → Heap → Prop}
    {cenv : Env} {m : Str → Option Value} {T F : List Addr} {J : (Addr → Prop) → Nat → List Value → Shared → Prop} {s0 : Shared} (W : Walks prog w A I fp [I] n P St) (hSt : ∀ i h, St i h → ∃ o, h.get? I = some o) (hJ : Stable J)
    (hx : cenv.kindOf x = some .local) (hp : (cenv.scope.kind == .class || (cenv.scope.kind == .module && cenv.locals != cenv.globals)) = false)
    (hDC : D ≠ cenv.locals) (hDf : D ∉ fp) (hCf : cenv.locals ∉ fp) (hIf : I ∈ fp)
    (hI0 : s0.heap.get? I = none) (hD0 : s0.heap.get? D = none) (hC0 : s0.heap.get? cenv.locals = none)
    (hTD : D ∉ T ++ F) (hTC : cenv.locals ∉ T) (hTf : ∀ b ∈ fp, b ∉ T ++ F)
    (hst : St 0 s.heap) (hacc : s.heap.PlainList D #[]) (hn : s.heap.Ns cenv.locals m) (h0 : J (fun b => b = I ∨ b = D ∨ b = cenv.locals) 0 [] s) (hev : Ev T F s0 s)
    (helt : ∀ i v ys s₁ m₁, i < n → ys.length = i → P i v → J (fun b => b = I ∨ b = D ∨ b = cenv.locals) i ys s₁ → s₁.heap.Ns cenv.locals m₁ → m₁ x = some v → Ev T F s0 s₁ →
      (∀ b, (b = I ∨ b = D ∨ b = cenv.locals) → ∃ o, s₁.heap.get? b = some o) →
      wpAny (model prog w) A (eval elt cenv) (fun y s₂ => Ev T F s₁ s₂ ∧ J (fun b => b = I ∨ b = D ∨ b = cenv.locals) (i + 1) (ys ++ [y]) s₂) (notedBy (model prog w) A cenv fun e s' => R (.error e) s') s₁)
    (hR : ∀ s' m' ys, s'.heap.Ns cenv.locals m' → s'.heap.PlainList D ys.toArray → ys.length = n → J (fun b => b = I ∨ b = D ∨ b = cenv.locals) n ys s' → Ev T F s0 s' → R (.ok .next) s')
    (hsz : n ≤ sizeLine := by size_fits) :
    codeAny (model prog w) A (.compLoop (.ListComp elt [⟨.Name x px, iter, [], 0⟩] scope pos) 0 (.ref I) (.ref D) cenv) R s := by
  have hIC : I ≠ cenv.locals := fun h => hCf (h ▸ hIf)
  have hID : I ≠ D := fun h => hDf (h ▸ hIf)
  refine codeAny_compLoop_list
    (fun k s' => ∃ m' ys, St ys.length s'.heap ∧ s'.heap.PlainList D ys.toArray ∧ s'.heap.Ns cenv.locals m' ∧ J (fun b => b = I ∨ b = D ∨ b = cenv.locals) ys.length ys s' ∧ ys.length ≤ n ∧ k = n + 1 - ys.length ∧ Ev T F s0 s') ?_ (n + 1)
    ⟨m, [], hst, hacc, hn, h0, Nat.zero_le _, rfl, hev⟩
  rintro k s' ⟨m', ys, hst', hacc', hn', hJ', hi, rfl, hev'⟩
  have hcn : ∀ b, b ∉ [I] → b ≠ I := fun b hb h => hb (by rw [h]; exact List.mem_singleton.mpr rfl)
  by_cases hlt : ys.length < n
  · refine W.item ys.length _ _ _ hlt hst' fun v h₁ tk₁ hPv hst₁ hk₁ => ?_
    have up₁ : ∀ b o, b ≠ I → s'.heap.get? b = some o → h₁.get? b = some o := fun b o hb e => hk₁ b o (fun h => hb (List.mem_singleton.mp h)) e
    refine wpAny_assign_Name (wpAny_storeName_local hx (hn'.at' fun o e => up₁ _ o (Ne.symm hIC) e) (fun h₂ hn₂ hs₂ => ?_) hp)
    have up₂ : ∀ b o, b ≠ I → b ≠ cenv.locals → s'.heap.get? b = some o → h₂.get? b = some o := fun b o hb hc e => hs₂.extBut b o hc (up₁ b o hb e)
    have hst₂ : St (ys.length + 1) h₂ := W.frame _ _ _ hst₁ fun b hb o e => hs₂.extBut b o (fun h => hCf (h ▸ hb)) e
    have ev₂ : Ev T F s0 { s' with heap := h₂, toks := tk₁ + 1 } := hev'.step (fun b o o₀ e₀ e => up₂ b o (fun h => by rw [h, hI0] at e₀; cases e₀) (fun h => by rw [h, hC0] at e₀; cases e₀) e) rfl rfl
    have hI₂ : ∃ o, h₂.get? I = some o := hSt _ _ hst₂
    have hacc₂ : h₂.PlainList D ys.toArray := hacc'.at fun o e => up₂ D o (Ne.symm hID) hDC e
    refine wpAny_mono (helt ys.length v ys _ _ hlt rfl hPv (hJ _ _ _ s' _ hJ' (fun b o hb e => up₂ b o (fun h => hb (.inl h)) (fun h => hb (.inr (.inr h))) e) rfl rfl) hn₂ (by simp) ev₂ ?_) (fun y s₃ h₃ => ?_) fun _ _ e => e
    · rintro b (rfl | rfl | rfl)
      · exact hI₂
      · obtain ⟨k', e⟩ := hacc₂; exact ⟨_, e⟩
      · obtain ⟨o, _, _, e, _⟩ := hn₂; exact ⟨o, e⟩
    obtain ⟨ev₃, hJ₃⟩ := h₃
    have hys : ys.toArray.size ≤ sizeLine := by rw [List.size_toArray]; omega
    refine wpAny_list_append_plain (hsz := hys) (hacc₂.at fun o e => ev₃.keep _ o e hTD) fun h₅ hl₅ hs₅ => ?_
    refine ⟨n + 1 - (ys.length + 1), by omega, _, ys ++ [y], ?_, ?_, (ev₃.ns _ _ hn₂ hTC).sameBut hs₅ (Ne.symm hDC), ?_, ?_, ?_, ?_⟩
    · rw [List.length_append]
      exact W.frame _ _ h₅ hst₂ fun b hb o e => hs₅.extBut b o (fun h => hDf (h ▸ hb)) (ev₃.keep b o e (hTf b hb))
    · simpa using hl₅
    · rw [List.length_append]
      exact hJ _ _ _ s₃ _ hJ₃ (fun b o hb e => hs₅.extBut b o (fun h => hb (.inr (.inl h))) e) rfl rfl
    · rw [List.length_append]; exact hlt
    · rw [List.length_append]; rfl
    · exact (ev₂.trans ev₃).step (fun b o o₀ e₀ e => hs₅.extBut b o (fun h => by rw [h, hD0] at e₀; cases e₀) e) rfl rfl
  · have hin : ys.length = n := by omega
    refine W.done _ _ _ (hin ▸ hst') fun h₁ tk₁ hk₁ => ?_
    have up₁ : ∀ b o, b ≠ I → s'.heap.get? b = some o → h₁.get? b = some o := fun b o hb e => hk₁ b o (fun h => hb (List.mem_singleton.mp h)) e
    refine hR _ m' ys (hn'.at' fun o e => up₁ _ o (Ne.symm hIC) e) (hacc'.at fun o e => up₁ _ o (Ne.symm hID) e) hin ?_ (hev'.step (fun b o o₀ e₀ e => up₁ b o (fun h => by rw [h, hI0] at e₀; cases e₀) e) rfl rfl)
    rw [hin] at hJ'
    exact hJ _ _ _ s' _ hJ' (fun b o hb e => up₁ b o (fun h => hb (.inl h)) e) rfl rfl

abbrev pvt (I D C : Addr) : Addr → Prop := fun b => b = I ∨ b = D ∨ b = C

theorem comp_block_ev {E : Value → Shared → Prop} {env : Env} {elt iter : Expr} {x : Str} {px : Pos} {scope : Scope} {cl : List (Str × Addr)} {pos : Pos} {D0 T F : List Addr} {xv : Value} {n : Nat} {P : Nat → Value → Prop}
    {J : (Addr → Prop) → Nat → List Value → Shared → Prop} {RR : Value → Addr → Result → Shared → Prop} (hsrc : Src prog w A D0 xv n P s) (hh : A.handled = none) (hJ : Stable J)
    (hcell : ∀ y ∈ scope.names, y.2 ≠ .cell) (hkind : scope.kind = .function) (hx : scope.names.lookup x = some .local)
    (hT : ∀ t ∈ T ++ F, ∃ o, s.heap.get? t = some o) (hTD : ∀ b ∈ D0, b ∉ T ++ F)
    (h0 : ∀ pv : Addr → Prop, (∀ b, pv b → s.heap.get? b = none) → J pv 0 [] s)
    (helt : ∀ I D C i v ys s₁ m₁ E', i < n → ys.length = i → P i v → J (pvt I D C) i ys s₁ → s₁.heap.Ns C m₁ → m₁ x = some v → Ev T F s s₁ →
      (∀ b, pvt I D C b → ∃ o, s₁.heap.get? b = some o) → (∀ b, pvt I D C b → s.heap.get? b = none) →
      wpAny (model prog w) A (eval elt (compEnvC scope cl C env)) (fun y s₂ => Ev T F s₁ s₂ ∧ J (pvt I D C) (i + 1) (ys ++ [y]) s₂) E' s₁)
    (hRR : ∀ I D C s' ys m', s.heap.get? D = none → s.heap.get? C = none → D ≠ C → s'.heap.Ns C m' → s'.heap.PlainList D ys.toArray → ys.length = n → J (pvt I D C) n ys s' → Ev T F s s' → RR (.ref D) C (.ok .next) s')
    (hsz : n ≤ sizeLine := by size_fits) :
    wpAny (model prog w) A (pyIter xv) (fun it s₂ => wpAny (model prog w) A (newList []) (fun acc s₃ => wpAny (model prog w) A (newFunctionEnv scope env.globals cl [] env.qual none .none (some env)) (fun cenv s₄ =>
      codeAny (model prog w) A (.compStart (.ListComp elt [⟨.Name x px, iter, [], 0⟩] scope pos) 0 it acc { cenv with scope := relabel scope env }) (RR acc cenv.locals) s₄) E s₃) E s₂) E s := by
  refine hsrc.2 _ _ fun I fp St hI W hSt hIf hst hfp hIlt hI0 hkI => ?_
  refine wpAny_newObj_type (wpAny_newFunctionEnv hcell (by intro y hy; simp at hy) (fun h₁ hns₁ hsb₁ => ?_) hkind)
  dsimp only at hns₁ hsb₁ ⊢
  generalize hH2 : hI.push { cls := .type "list", dict := none, data := .seq ([] : List Value).toArray } = H2 at hns₁ hsb₁ ⊢
  have hC : H2.objs.size = hI.objs.size + 1 := by rw [← hH2, Heap.size_push]
  have hDC : hI.objs.size ≠ H2.objs.size := by rw [hC]; exact Nat.ne_of_lt (Nat.lt_succ_self _)
  have old : ∀ b o, hI.get? b = some o → h₁.get? b = some o := fun b o e => hsb₁.extBut b o (by rw [hC]; exact Nat.ne_of_lt (Nat.lt_succ_of_lt (Heap.lt_size e))) (Heap.get?_push_of_some _ (hH2 ▸ Heap.get?_push_of_some _ e))
  have olds : ∀ b o, s.heap.get? b = some o → h₁.get? b = some o := fun b o e => old b o (hkI b o e)
  have hacc : h₁.PlainList hI.objs.size #[] := ⟨_, hsb₁.extBut _ _ hDC (Heap.get?_push_of_some _ (hH2 ▸ Heap.get?_push_size _ rfl))⟩
  have fresh : ∀ a, hI.objs.size ≤ a → s.heap.get? a = none := fun a ha => by
    cases e : s.heap.get? a with
    | none => rfl
    | some o' => exact absurd (Heap.lt_size (hkI _ _ e)) (Nat.not_lt.mpr ha)
  have hD0 := fresh hI.objs.size (Nat.le_refl _)
  have hC0 := fresh H2.objs.size (by rw [hC]; exact Nat.le_succ _)
  have hTn : ∀ a, s.heap.get? a = none → a ∉ T ++ F := fun a ha hm => by
    obtain ⟨o, e⟩ := hT a hm
    rw [ha] at e; cases e
  have hfl : ∀ b ∈ fp, b < hI.objs.size := fun b hb => by
    rcases hfp b hb with rfl | h
    · exact hIlt
    · obtain ⟨o, e⟩ := hsrc.1 b h
      exact Heap.lt_size (hkI _ _ e)
  have hpn : ∀ b, pvt I hI.objs.size H2.objs.size b → s.heap.get? b = none := by
    rintro b (rfl | rfl | rfl)
    · exact hI0
    · exact hD0
    · exact hC0
  have loop : ∀ s₃ : Shared, s₃ = { s with heap := h₁, toks := s.toks + ([] : List (Str × Value)).length } →
      codeAny (model prog w) A (.compLoop (.ListComp elt [⟨.Name x px, iter, [], 0⟩] scope pos) 0 (.ref I) (.ref hI.objs.size) (compEnvC scope cl H2.objs.size env))
        (RR (.ref hI.objs.size) H2.objs.size) s₃ := by
    rintro s₃ rfl
    refine compLoop_ev (T := T) (F := F) (J := J) (s0 := s) (hsz := hsz) (cenv := compEnvC scope cl H2.objs.size env) (W A hh) hSt hJ (lookup_relabel_local hx) (by simp [compEnvC, relabel, hkind]) hDC (fun h => Nat.lt_irrefl _ (hfl _ h))
      (fun h => absurd (show H2.objs.size < hI.objs.size from hfl _ h) (by rw [hC]; exact Nat.not_lt.mpr (Nat.le_succ _))) hIf hI0 hD0 hC0 (hTn _ hD0) (fun q => hTn _ hC0 (List.mem_append_left _ q)) (fun b hb => ?_)
      (W A hh |>.frame _ _ _ hst fun b _ o e => old b o e) hacc hns₁ (hJ _ _ _ s _ (h0 _ hpn) (fun b o _ e => olds b o e) rfl rfl) (Ev.heap olds)
      (fun i v ys s₁ m₁ hi hl hP hj hn hm he hp => helt I hI.objs.size H2.objs.size i v ys s₁ m₁ _ hi hl hP hj hn hm he hp hpn) (fun s' m' ys hn hp hl hj he => ?_)
    · rcases hfp b hb with rfl | h
      · exact hTn _ hI0
      · exact hTD b h
    · exact hRR I _ _ s' ys m' hD0 hC0 hDC hn hp hl hj he
  exact codeAny_compStart_list (loop _ rfl) ((W A hh).self 0 _ _ _ ((W A hh).frame _ _ _ hst fun b _ o e => old b o e) (loop _ rfl))

theorem ListComp_ev {E : Value → Shared → Prop} {env : Env} {elt iter : Expr} {x : Str} {px : Pos} {scope : Scope} {cl : List (Str × Addr)} {pos : Pos} {Q : Value → Shared → Prop} (hh : A.handled = none)
    (hclos : closureFor scope env = pure cl) (hcell : ∀ y ∈ scope.names, y.2 ≠ .cell) (hkind : scope.kind = .function) (hnames : ∀ x ∈ scope.names, x.2 = .local → scope.names.lookup x.1 = some .local) (hx : scope.names.lookup x = some .local)
    (h : wpAny (model prog w) A (eval iter env) (fun xv s => ∃ (D0 T F : List Addr) (n : Nat) (P : Nat → Value → Prop) (J : (Addr → Prop) → Nat → List Value → Shared → Prop),
      Src prog w A D0 xv n P s ∧ Stable J ∧ n ≤ sizeLine ∧ (∀ t ∈ T ++ F, ∃ o, s.heap.get? t = some o) ∧ (∀ b ∈ D0, b ∉ T ++ F) ∧
      (∀ pv : Addr → Prop, (∀ b, pv b → s.heap.get? b = none) → J pv 0 [] s) ∧
      (∀ I D C i v ys s₁ m₁ E', i < n → ys.length = i → P i v → J (pvt I D C) i ys s₁ → s₁.heap.Ns C m₁ → m₁ x = some v → Ev T F s s₁ →
        (∀ b, pvt I D C b → ∃ o, s₁.heap.get? b = some o) → (∀ b, pvt I D C b → s.heap.get? b = none) →
        wpAny (model prog w) A (eval elt (compEnvC scope cl C env)) (fun y s₂ => Ev T F s₁ s₂ ∧ J (pvt I D C) (i + 1) (ys ++ [y]) s₂) E' s₁) ∧
      (∀ I D C s' ys, s.heap.get? D = none → s'.heap.PlainList D ys.toArray → ys.length = n → J (pvt I D C) n ys s' → Ev T F s s' → Q (.ref D) s')) E s)
    (hs : ∀ x, foldedSetIterable iter env x = pure x := by intro _; rfl) :
    wpAny (model prog w) A (eval (.ListComp elt [⟨.Name x px, iter, [], 0⟩] scope pos) env) Q E s := by
  show wpAny _ A (comprehension (.ListComp elt [⟨.Name x px, iter, [], 0⟩] scope pos) scope env _ (newList []) false (eval iter env)) _ _ s
  refine wpAny_comprehension_free rfl hs hclos hkind hnames (wpAny_mono h (fun xv s₁ h₁ => ?_) fun _ _ e => e)
  obtain ⟨D0, T, F, n, P, J, hsrc, hJ, hsz, hT, hTD, h0, helt, hQ⟩ := h₁
  refine comp_block_ev (RR := fun acc C => compPost (model prog w) A E none Q acc C) hsrc hh hJ hcell hkind hx hT hTD h0 helt (fun I D C s' ys m' hD hC hDC hn hp hl hj he => ?_) hsz
  refine ⟨m', hn, fun h' hs' => hQ I D C _ ys hD (hp.extBut hs'.extBut hDC) hl (hJ _ _ _ s' _ hj (fun b o hb e => hs'.extBut b o (fun q => hb (.inr (.inr q))) e) rfl rfl) ?_⟩
  exact he.step (fun b o o₀ e₀ e => hs'.extBut b o (fun q => by rw [q, hC] at e₀; cases e₀) e) rfl rfl

theorem Assign_ListComp_ev {E : Value → Shared → Prop} {env : Env} {elt iter : Expr} {x y : Str} {px py : Pos} {scope : Scope} {cl : List (Str × Addr)} {pos spos : Pos} {Q : Flow → Shared → Prop} (hh : A.handled = none)
    (hsw : swapsWith (.ListComp elt [⟨.Name x px, iter, [], 0⟩] scope pos) (some (.Name y py)) spos.line env = pure true)
    (hclos : closureFor scope env = pure cl) (hcell : ∀ y ∈ scope.names, y.2 ≠ .cell) (hkind : scope.kind = .function) (hnames : ∀ x ∈ scope.names, x.2 = .local → scope.names.lookup x.1 = some .local) (hx : scope.names.lookup x = some .local)
    (hy : env.kindOf y = some .local) (hp : (env.scope.kind == .class || (env.scope.kind == .module && env.locals != env.globals)) = false)
    (h : wpAny (model prog w) A (eval iter env) (fun xv s => ∃ (D0 T F : List Addr) (n : Nat) (P : Nat → Value → Prop) (J : (Addr → Prop) → Nat → List Value → Shared → Prop) (m : Str → Option Value),
      Src prog w A D0 xv n P s ∧ Stable J ∧ n ≤ sizeLine ∧ (∀ t ∈ T ++ F, ∃ o, s.heap.get? t = some o) ∧ (∀ b ∈ D0, b ∉ T ++ F) ∧ s.heap.Ns env.locals m ∧ env.locals ∉ T ∧
      (∀ pv : Addr → Prop, (∀ b, pv b → s.heap.get? b = none) → J pv 0 [] s) ∧
      (∀ I D C i v ys s₁ m₁ E', i < n → ys.length = i → P i v → J (pvt I D C) i ys s₁ → s₁.heap.Ns C m₁ → m₁ x = some v → Ev T F s s₁ →
        (∀ b, pvt I D C b → ∃ o, s₁.heap.get? b = some o) → (∀ b, pvt I D C b → s.heap.get? b = none) →
        wpAny (model prog w) A (eval elt (compEnvC scope cl C env)) (fun y s₂ => Ev T F s₁ s₂ ∧ J (pvt I D C) (i + 1) (ys ++ [y]) s₂) E' s₁) ∧
      (∀ I D C s' ys, s.heap.get? D = none → s'.heap.PlainList D ys.toArray → ys.length = n → J (pvt I D C) n ys s' → Ev T F s s' →
        ∀ h₂ h₃, h₃.Ns env.locals (fun z => if z = y then some (.ref D) else m z) → Heap.SameBut env.locals s'.heap h₂ → Heap.SameBut C h₂ h₃ → s.heap.get? C = none → C ≠ D → Q .next { s' with heap := h₃, toks := s'.toks + 1 })) E s)
    (hs : ∀ x, foldedSetIterable iter env x = pure x := by intro _; rfl) :
    wpAny (model prog w) A (exec (.Assign [.Name y py] (.ListComp elt [⟨.Name x px, iter, [], 0⟩] scope pos) spos) env) Q E s := by
  rw [exec_Assign_Name_used _ _ _ _ hsw]
  refine wpAny_bind (wpAny_standAt (wpAny_bind ?_))
  show wpAny _ A (do let _ ← comprehension (.ListComp elt [⟨.Name x px, iter, [], 0⟩] scope pos) scope env _ (newList []) false (eval iter env) (some (assign (.Name y py) env))) _ _ s
  refine wpAny_bind (wpAny_mono (wpAny_comprehension_free (Q := fun _ s' => Q .next s') rfl hs hclos hkind hnames (wpAny_mono h (fun xv s₁ h₁ => ?_) fun _ _ e => e))
    (fun _ s' hq => wpAny_pure (wpAny_pure hq)) fun _ _ e => e)
  obtain ⟨D0, T, F, n, P, J, m, hsrc, hJ, hsz, hT, hTD, hnm, hLT, h0, helt, hQ⟩ := h₁
  refine comp_block_ev (RR := fun acc C => compPost (model prog w) A E (some (assign (.Name y py) env)) (fun _ s' => Q .next s') acc C) hsrc hh hJ hcell hkind hx hT hTD h0 helt (fun I D C s' ys m' hD hC hDC hn hp' hl hj he => ?_) hsz
  have hLC : env.locals ≠ C := by rintro rfl; obtain ⟨o, _, _, ho, _⟩ := hnm; rw [hC] at ho; cases ho
  have hLD : env.locals ≠ D := by rintro rfl; obtain ⟨o, _, _, ho, _⟩ := hnm; rw [hD] at ho; cases ho
  show wpAny _ A (assign (.Name y py) env (.ref D)) _ _ _
  refine wpAny_assign_Name (wpAny_storeName_local hy (he.ns _ _ hnm hLT) (fun h₂ hn₂ hs₂ => ?_) hp)
  exact ⟨m', hn.sameBut hs₂ (Ne.symm hLC), fun h₃ hs₃ => hQ I D C s' ys hD hp' hl hj he h₂ h₃ (hn₂.sameBut hs₃ hLC) hs₂ hs₃ hC (Ne.symm hDC)⟩
end

abbrev StableF (J : (Addr → Prop) → Nat → (Str → Option Value) → Shared → Prop) : Prop :=
  ∀ pv i m s₁ s₂, J pv i m s₁ → (∀ b o, ¬ pv b → s₁.heap.get? b = some o → s₂.heap.get? b = some o) → s₂.gens = s₁.gens → s₂.os = s₁.os → J pv i m s₂

section
variable {prog : Program} {w : World} {A : Around} {s : Shared}
/-- a for over a source: the locals' map and what holds between the turns -/
theorem For_ev {E : Value → Shared → Prop} {env : Env} {x : Str} {px pos : Pos} {iter : Expr} {body : List Stmt} {Q : Flow → Shared → Prop} (hh : A.handled = none)
    (hx : env.kindOf x = some .local) (hp : (env.scope.kind == .class || (env.scope.kind == .module && env.locals != env.globals)) = false)
    (h : wpAny (model prog w) A (eval iter env) (fun xv s => ∃ (D0 T F : List Addr) (n : Nat) (P : Nat → Value → Prop) (J : (Addr → Prop) → Nat → (Str → Option Value) → Shared → Prop) (m : Str → Option Value),
      Src prog w A D0 xv n P s ∧ StableF J ∧ (∀ t ∈ T ++ F, ∃ o, s.heap.get? t = some o) ∧ (∀ b ∈ D0, b ∉ T ++ F) ∧ env.locals ∉ D0 ∧ s.heap.Ns env.locals m ∧ env.locals ∉ T ∧
      (∀ I, s.heap.get? I = none → J (fun b => b = I ∨ b = env.locals) 0 m s) ∧
      (∀ I i v s₁ m₁ E', i < n → P i v → J (fun b => b = I ∨ b = env.locals) i m₁ s₁ → s₁.heap.Ns env.locals (fun z => if z = x then some v else m₁ z) → Ev (env.locals :: T) F s s₁ →
        (∃ o, s₁.heap.get? I = some o) → s.heap.get? I = none →
        wpAny (model prog w) A (execs body env) (fun f s₂ => f = .next ∧ ∃ m₂, s₂.heap.Ns env.locals m₂ ∧ J (fun b => b = I ∨ b = env.locals) (i + 1) m₂ s₂ ∧ Ev (env.locals :: T) F s₁ s₂) E' s₁) ∧
      (∀ I s' m', s'.heap.Ns env.locals m' → J (fun b => b = I ∨ b = env.locals) n m' s' → Ev (env.locals :: T) F s s' → Q .next s')) E s)
    (hs : ∀ x, foldedSetIterable iter env x = pure x := by intro _; rfl) :
    wpAny (model prog w) A (exec (.For (.Name x px) iter body [] pos) env) Q E s := by
  refine wpAny_For (wpAny_mono h (fun xv s₀ h₁ => ?_) fun _ _ e => e) hs
  obtain ⟨D0, T, F, n, P, J, m, hsrc, hJ, hT, hTD, hLD, hnm, hLT, h0, hb, hQ⟩ := h₁
  refine hsrc.2 _ _ fun I fp St hI W hSt hIf hst hfp hIlt hI0 hkI => ?_
  have hIL : I ≠ env.locals := fun q => by obtain ⟨o, _, _, e, _⟩ := hnm; rw [← q, hI0] at e; cases e
  have hLf : env.locals ∉ fp := fun q => by
    rcases hfp _ q with q | q
    · exact hIL q.symm
    · exact hLD q
  have hTn : ∀ a, s₀.heap.get? a = none → a ∉ T ++ F := fun a ha hm => by
    obtain ⟨o, e⟩ := hT a hm
    rw [ha] at e; cases e
  have hfT : ∀ b ∈ fp, b ∉ (env.locals :: T) ++ F := fun b hbf hbm => by
    rcases List.mem_cons.mp hbm with rfl | hbm
    · exact hLf hbf
    · rcases hfp b hbf with rfl | q
      · exact hTn _ hI0 hbm
      · exact hTD b q hbm
  have hW := W A hh
  refine codeAny_forLoop (fun k s' => ∃ i m', i ≤ n ∧ k = n - i ∧ St i s'.heap ∧ s'.heap.Ns env.locals m' ∧ J (fun b => b = I ∨ b = env.locals) i m' s' ∧ Ev (env.locals :: T) F s₀ s') ?_ n
    ⟨0, m, Nat.zero_le _, rfl, hst, hnm.keeps hkI, ?_, Ev.heap hkI⟩
  · rintro k s' ⟨i, m', hi, rfl, hst', hn', hj', hev'⟩
    by_cases hlt : i < n
    · refine hW.item i _ _ _ hlt hst' fun v h₁ tk₁ hPv hst₁ hk₁ => ?_
      have up₁ : ∀ b o, b ≠ I → s'.heap.get? b = some o → h₁.get? b = some o := fun b o hb e => hk₁ b o (fun h => hb (List.mem_singleton.mp h)) e
      refine wpAny_assign_Name (wpAny_storeName_local hx (hn'.at' fun o e => up₁ _ o (Ne.symm hIL) e) (fun h₂ hn₂ hs₂ => ?_) hp)
      have up₂ : ∀ b o, b ≠ I → b ≠ env.locals → s'.heap.get? b = some o → h₂.get? b = some o := fun b o hb hc e => hs₂.extBut b o hc (up₁ b o hb e)
      have hst₂ : St (i + 1) h₂ := hW.frame _ _ _ hst₁ fun b hb o e => hs₂.extBut b o (fun h => hLf (h ▸ hb)) e
      have ev₂ : Ev (env.locals :: T) F s₀ { s' with heap := h₂, toks := tk₁ + 1 } := by
        refine hev'.stepT (fun b o o₀ e₀ hb e => up₂ b o (fun h => by rw [h, hI0] at e₀; cases e₀) (fun h => hb (by rw [h]; exact List.mem_cons_self)) e) (fun b o o₀ e₀ e => ?_) rfl rfl
        by_cases hb : b = env.locals
        · subst hb; obtain ⟨o', _, _, e', _⟩ := hn₂; exact ⟨o', e'⟩
        · exact ⟨o, up₂ b o (fun h => by rw [h, hI0] at e₀; cases e₀) hb e⟩
      refine wpAny_mono (hb I i v _ m' _ hlt hPv (hJ _ _ _ s' _ hj' (fun b o hb e => up₂ b o (fun h => hb (.inl h)) (fun h => hb (.inr h)) e) rfl rfl) hn₂ ev₂ (hSt _ _ hst₂) hI0) (fun f s₃ h₃ => ?_) fun _ _ e => e
      obtain ⟨rfl, m₂, hn₃, hj₃, ev₃⟩ := h₃
      exact ⟨n - (i + 1), by omega, i + 1, m₂, hlt, rfl, hW.frame _ _ _ hst₂ fun b hb o e => ev₃.keep b o e (hfT b hb), hn₃, hj₃, ev₂.trans ev₃⟩
    · have hin : i = n := by omega
      subst hin
      refine hW.done _ _ _ hst' fun h₁ tk₁ hk₁ => ?_
      have up₁ : ∀ b o, b ≠ I → s'.heap.get? b = some o → h₁.get? b = some o := fun b o hb e => hk₁ b o (fun h => hb (List.mem_singleton.mp h)) e
      refine wpAny_pure (hQ I _ m' (hn'.at' fun o e => up₁ _ o (Ne.symm hIL) e) (hJ _ _ _ s' _ hj' (fun b o hb e => up₁ b o (fun h => hb (.inl h)) e) rfl rfl) ?_)
      exact hev'.step (fun b o o₀ e₀ e => up₁ b o (fun h => by rw [h, hI0] at e₀; cases e₀) e) rfl rfl
  · exact hJ (fun b => b = I ∨ b = env.locals) 0 m s₀ _ (h0 I hI0) (fun b o _ e => hkI b o e) rfl rfl
end
end Mine
end

section
open PySem PySem.W PySem.Calls PyProof.Rows
set_option Elab.async false
set_option linter.unusedVariables false
namespace Mine

inductive All2 {α β : Type} (R : α → β → Prop) : List α → List β → Prop
  | nil : All2 R [] []
  | cons {a b as bs} : R a b → All2 R as bs → All2 R (a :: as) (b :: bs)
theorem All2.imp {α β : Type} {R R' : α → β → Prop} (f : ∀ a b, R a b → R' a b) : ∀ {as : List α} {bs : List β}, All2 R as bs → All2 R' as bs
  | _, _, .nil => .nil
  | _, _, .cons h t => .cons (f _ _ h) (t.imp f)
theorem All2.length {α β : Type} {R : α → β → Prop} : ∀ {as : List α} {bs : List β}, All2 R as bs → as.length = bs.length
  | _, _, .nil => rfl
  | _, _, .cons _ t => congrArg (· + 1) t.length
theorem All2.get {α β : Type} {R : α → β → Prop} : ∀ {as : List α} {bs : List β}, All2 R as bs → ∀ (i : Nat) (a : α), as[i]? = some a → ∃ b, bs[i]? = some b ∧ R a b
  | _, _, .cons h t, 0, a, e => by cases e; exact ⟨_, rfl, h⟩
  | _, _, .cons h t, i + 1, a, e => t.get i a e
theorem All2.snoc {α β : Type} {R : α → β → Prop} {a : α} {b : β} : ∀ {as : List α} {bs : List β}, All2 R as bs → R a b → All2 R (as ++ [a]) (bs ++ [b])
  | _, _, .nil, r => .cons r .nil
  | _, _, .cons h t, r => .cons h (t.snoc r)

/-- v reads as the datum d, outside the hidden places H -/
def Rep (H : List Addr) (s : Shared) (v : Value) (d : PyData) : Prop := ∃ as, Reads (hideAll s.heap H) v d as
/-- what a name or an expression stands for: a datum, or this very value -/
inductive Bd where
  | d (x : PyData)
  | r (v : Value)
def Bd.holds (H : List Addr) (s : Shared) (v : Value) : Bd → Prop
  | .d x => Rep H s v x
  | .r u => v = u

theorem hideAll_inv {h : Heap} {l : List Addr} {b : Addr} {o : Obj} (e : (hideAll h l).get? b = some o) : h.get? b = some o ∧ b ∉ l :=
  ⟨of_hideAll l e, fun q => by rw [hideAll_none l q] at e; cases e⟩

theorem Rep.mono {H H' : List Addr} {s s' : Shared} {v : Value} {d : PyData} (x : Rep H s v d) (k : ∀ b o, s.heap.get? b = some o → b ∉ H → s'.heap.get? b = some o ∧ b ∉ H') : Rep H' s' v d :=
  let ⟨as, r⟩ := x
  ⟨as, Reads.keeps (fun _ _ e => let ⟨e1, e2⟩ := hideAll_inv e; let ⟨k1, k2⟩ := k _ _ e1 e2; hideAll_get _ k1 k2) r⟩
theorem Rep.ev {H T F : List Addr} {s s' : Shared} {v : Value} {d : PyData} (x : Rep H s v d) (e : Ev T F s s') (hT : ∀ t ∈ T, t ∈ H) (hF : ∀ t ∈ F, t ∈ H) : Rep H s' v d :=
  x.mono fun _ _ e1 e2 => ⟨e.keep _ _ e1 fun q => (List.mem_append.mp q).elim (fun q => e2 (hT _ q)) fun q => e2 (hF _ q), e2⟩
theorem Bd.holds.mono {H H' : List Addr} {s s' : Shared} {v : Value} {b : Bd} (x : b.holds H s v) (k : ∀ b o, s.heap.get? b = some o → b ∉ H → s'.heap.get? b = some o ∧ b ∉ H') : b.holds H' s' v := by
  cases b with
  | d y => exact Rep.mono x k
  | r u => exact x
theorem Bd.holds.ev {H T F : List Addr} {s s' : Shared} {v : Value} {b : Bd} (x : b.holds H s v) (e : Ev T F s s') (hT : ∀ t ∈ T, t ∈ H) (hF : ∀ t ∈ F, t ∈ H) : b.holds H s' v := by
  cases b with
  | d y => exact Rep.ev x e hT hF
  | r u => exact x

/-- where an expression is evaluated: the ghost G that stays, the code tables, what may be touched (T wholly, F in its slots), what is hidden (H), and what else holds -/
structure Cx where
  G : Heap
  tabs : List (Addr × Addr)
  T : List Addr
  F : List Addr
  H : List Addr
  B : Heap
  X : Shared → Prop

def Tabs (tabs : List (Addr × Addr)) (h : Heap) : Prop := ∀ q ∈ tabs, ∃ ps, h.get? q.2 = some (tabObj ps) ∧ TriplesOk ps.toList

structure Cx.Am (C : Cx) (s : Shared) : Prop where
  g : ∀ b o, C.G.get? b = some o → s.heap.get? b = some o
  tb : Tabs C.tabs s.heap
  live : ∀ b o, C.B.get? b = some o → ∃ o', s.heap.get? b = some o'
  x : C.X s

abbrev Live (H : List Addr) (s : Shared) : Prop := ∀ t ∈ H, ∃ o, s.heap.get? t = some o
abbrev KeptOf (B : Heap) (s s' : Shared) : Prop := ∀ b o o₀, B.get? b = some o₀ → s.heap.get? b = some o → s'.heap.get? b = some o

structure Cx.Ok (C : Cx) : Prop where
  TH : ∀ t ∈ C.T, t ∈ C.H
  FH : ∀ t ∈ C.F, t ∈ C.H
  FT : ∀ t ∈ C.F, t ∉ C.T
  tT : ∀ q ∈ C.tabs, q.2 ∈ C.T
  HG : ∀ t ∈ C.H, C.G.get? t = none
  GB : ∀ b o, C.G.get? b = some o → ∃ o', C.B.get? b = some o'
  tB : ∀ q ∈ C.tabs, ∃ o, C.B.get? q.2 = some o
  stab : ∀ s s', C.X s → (∀ b o o₀, C.B.get? b = some o₀ → b ∉ C.tabs.map (·.2) → s.heap.get? b = some o → s'.heap.get? b = some o) → C.X s'

section
variable {C : Cx} {s0 s s' : Shared}
theorem Cx.Am.stab' (a : C.Am s) (ok : C.Ok) (k : KeptOf C.B s s') : C.Am s' :=
  ⟨fun b o e => let ⟨o', e'⟩ := ok.GB b o e; k b o o' e' (a.g b o e), fun q hq => let ⟨_, e0⟩ := ok.tB q hq; let ⟨ps, e, ht⟩ := a.tb q hq; ⟨ps, k _ _ _ e0 e, ht⟩,
    fun b o e => let ⟨o', e'⟩ := a.live b o e; ⟨o', k b o' o e e'⟩, ok.stab s s' a.x fun b o o₀ e₀ _ e => k b o o₀ e₀ e⟩
theorem Cx.Am.stab (a : C.Am s) (ok : C.Ok) (k : KeptOf C.B s s') (os : s'.os = s.os) (g : s'.gens = s.gens) : C.Am s' := a.stab' ok k
theorem Cx.Am.keeps (a : C.Am s) (ok : C.Ok) (k : ∀ b o, s.heap.get? b = some o → s'.heap.get? b = some o) (os : s'.os = s.os) (g : s'.gens = s.gens) : C.Am s' := a.stab ok (fun b o _ _ e => k b o e) os g
theorem Cx.Am.fresh (a : C.Am s) {b : Addr} (h : s.heap.get? b = none) : C.B.get? b = none := by
  cases e : C.B.get? b with
  | none => rfl
  | some o => obtain ⟨o', e'⟩ := a.live b o e; rw [h] at e'; cases e'
theorem Live.ev {H T F : List Addr} (l : Live H s) (e : Ev T F s s') : Live H s' := fun t ht => let ⟨o, q⟩ := l t ht; e.live t o q
end

def cellK (env : Env) (y : Str) : Option Addr := if env.kindOf y = some .cell ∨ env.kindOf y = some .free then env.cells.lookup y else none

/-- the name y, looked up in env at s, is v -/
def Lk (C : Cx) (env : Env) (y : Str) (v : Value) (s : Shared) : Prop :=
  (env.kindOf y = some .local ∧ env.locals ∉ C.T ∧ ∃ m, s.heap.Ns env.locals m ∧ m y = some v) ∨ (∃ c, cellK env y = some c ∧ c ∉ C.T ++ C.F ∧ s.heap.IsCell c (some v))

theorem Lk.ev {C : Cx} {env : Env} {y : Str} {v : Value} {s s' : Shared} (x : Lk C env y v s) (e : Ev C.T C.F s s') : Lk C env y v s' := by
  rcases x with ⟨h1, h2, m, hm, hv⟩ | ⟨c, h1, h2, o, ho, hd⟩
  · exact .inl ⟨h1, h2, m, e.ns _ _ hm h2, hv⟩
  · exact .inr ⟨c, h1, h2, o, e.keep _ _ ho h2, hd⟩

abbrev Rho := List (Str × Bd)
/-- the frames of F are there -/
def Fs (C : Cx) (s : Shared) : Prop := ∀ b ∈ C.F, ∃ m, s.heap.Ns b m
/-- the names of ρ stand for what ρ says -/
structure Vw (C : Cx) (env : Env) (ρ : Rho) (s : Shared) : Prop where
  look : ∀ y b, ρ.lookup y = some b → ∃ v, b.holds C.H s v ∧ Lk C env y v s
  fs : Fs C s
theorem Fs.ev {C : Cx} {s s' : Shared} (x : Fs C s) (ok : C.Ok) (e : Ev C.T C.F s s') : Fs C s' := fun b hb => let ⟨m, h⟩ := x b hb; ⟨m, e.ns _ _ h (ok.FT b hb)⟩
theorem Fs.evW {C : Cx} {W : List Addr} {s s' : Shared} (x : Fs C s) (k : ∀ b o, s.heap.get? b = some o → s'.heap.get? b = some o) : Fs C s' := fun b hb => let ⟨m, h⟩ := x b hb; ⟨m, h.keeps k⟩
theorem Vw.ev {C : Cx} {env : Env} {ρ : Rho} {s s' : Shared} (x : Vw C env ρ s) (ok : C.Ok) (e : Ev C.T C.F s s') : Vw C env ρ s' := ⟨fun y b h =>
  let ⟨v, h1, h2⟩ := x.look y b h; ⟨v, h1.ev e ok.TH ok.FH, h2.ev e⟩, x.fs.ev ok e⟩

section
variable (prog : Program) (w : World)
/-- the expression e, evaluated in the names ρ, gives something of P; no exception -/
def PE (C : Cx) (A : Around) (env : Env) (ρ : Rho) (e : Expr) (P : Bd → Prop) : Prop :=
  ∀ (s : Shared) (Q E : Value → Shared → Prop), C.Am s → Live C.H s → Vw C env ρ s →
    (∀ v b s', Ev C.T C.F s s' → C.Am s' → P b → b.holds C.H s' v → Q v s') → wpAny (model prog w) A (eval e env) Q E s
/-- a list of expressions -/
def PEL (C : Cx) (A : Around) (env : Env) (ρ : Rho) (es : List Expr) (P : List Bd → Prop) : Prop :=
  ∀ (pos : Pos) (s : Shared) (Q : List Value → Shared → Prop) (E : Value → Shared → Prop), C.Am s → Live C.H s → Vw C env ρ s →
    (∀ vs bs s', Ev C.T C.F s s' → C.Am s' → P bs → All2 (fun v b => b.holds C.H s' v) vs bs → Q vs s') → wpAny (model prog w) A (spliced (backTo pos (starEach es env))) Q E s
/-- the expression, as a condition, is bb -/
def PC (C : Cx) (A : Around) (env : Env) (ρ : Rho) (e : Expr) (P : Bool → Prop) : Prop :=
  ∀ (s : Shared) (Q : Bool → Shared → Prop) (E : Value → Shared → Prop), C.Am s → Live C.H s → Vw C env ρ s →
    (∀ b s', Ev C.T C.F s s' → C.Am s' → P b → Q b s') → wpAny (model prog w) A (isTrue e env (eval e env)) Q E s
end

section
variable {prog : Program} {w : World} {C : Cx} {A : Around} {env : Env} {ρ : Rho} {e e₁ e₂ : Expr} {P P₁ P₂ : Bd → Prop} {pos : Pos}

theorem PE.mono {P' : Bd → Prop} (h : PE prog w C A env ρ e P) (k : ∀ b, P b → P' b) : PE prog w C A env ρ e P' := fun s Q E a l v q => h s Q E a l v fun x b s' h1 h2 h3 h4 => q x b s' h1 h2 (k b h3) h4

theorem PE.int {i : Int} {k : Nat} (ok : C.Ok) : PE prog w C A env ρ (.Constant (.int i) k pos) (· = .d (.int i)) := fun s Q E a _ _ q =>
  wpAny_Constant_int (q _ _ _ (Ev.of_keeps (fun _ _ e => e) rfl rfl) (a.keeps ok (fun _ _ e => e) rfl rfl) rfl ⟨_, .int _ _⟩)
theorem PE.str {x : Str} {k : Nat} (ok : C.Ok) : PE prog w C A env ρ (.Constant (.str x) k pos) (· = .d (.str x)) := fun s Q E a _ _ q =>
  PySem.wpAny_Constant_str (q _ _ _ (Ev.of_keeps (fun _ _ e => e) rfl rfl) (a.keeps ok (fun _ _ e => e) rfl rfl) rfl ⟨_, .str _ _⟩)
theorem PE.bool {b : Bool} {k : Nat} : PE prog w C A env ρ (.Constant (.bool b) k pos) (· = .d (.bool b)) := fun s Q E a _ _ q =>
  wpAny_Constant_bool (q _ _ _ (Ev.refl _ _ _) a rfl ⟨_, .bool _⟩)
theorem PE.noneC {k : Nat} : PE prog w C A env ρ (.Constant .none k pos) (· = .d .none) := fun s Q E a _ _ q =>
  wpAny_Constant_none (q _ _ _ (Ev.refl _ _ _) a rfl ⟨_, .none⟩)

theorem PE.name {x : Str} {b : Bd} (h : ρ.lookup x = some b) (hk : env.scope.kind = .function := by rfl) (hd : (x == ("__debug__" : Str)) = false := by decide) (hn : (x == ("__classdict__" : Str)) = false := by decide) :
    PE prog w C A env ρ (.Name x pos) (· = b) := fun s Q E a _ v q => by
  obtain ⟨u, h1, h2⟩ := v.look x b h
  refine wpAny_Name ?_ hd
  rcases h2 with ⟨k1, k2, m, hm, hv⟩ | ⟨c, k1, k2, hc⟩
  · exact wpAny_loadName_local hk k1 hm hv (q _ _ _ (Ev.refl _ _ _) a rfl h1)
  · unfold cellK at k1
    split at k1
    · rename_i hkk
      rcases hkk with hkk | hkk
      · exact wpAny_loadName_cell hk hkk k1 hc (q _ _ _ (Ev.refl _ _ _) a rfl h1)
      · exact wpAny_loadName_free hk hkk k1 hc (q _ _ _ (Ev.refl _ _ _) a rfl h1) hn
    · cases k1

theorem PE.bin {op : Operator} (ok : C.Ok) (h1 : PE prog w C A env ρ e₁ P₁) (h2 : PE prog w C A env ρ e₂ P₂)
    (h : ∀ b₁ b₂ v₁ v₂ s Q E, P₁ b₁ → P₂ b₂ → C.Am s → Live C.H s → b₁.holds C.H s v₁ → b₂.holds C.H s v₂ → (∀ v b s', Ev C.T C.F s s' → C.Am s' → P b → b.holds C.H s' v → Q v s') → wpAny (model prog w) A (binaryOp op v₁ v₂) Q E s) :
    PE prog w C A env ρ (.BinOp e₁ op e₂ pos) P := fun s Q E a l v q => by
  refine wpAny_BinOp (h1 s _ _ a l v fun v₁ b₁ s₁ ev₁ a₁ p₁ r₁ => h2 s₁ _ _ a₁ (l.ev ev₁) (v.ev ok ev₁) fun v₂ b₂ s₂ ev₂ a₂ p₂ r₂ => ?_)
  exact h b₁ b₂ v₁ v₂ s₂ _ _ p₁ p₂ a₂ ((l.ev ev₁).ev ev₂) (r₁.ev ev₂ ok.TH ok.FH) r₂ fun u b s' ev a' p r => q u b s' ((ev₁.trans ev₂).trans ev) a' p r

theorem PEL.nil : PEL prog w C A env ρ [] (· = []) := fun pos s Q E a l v q => wpAny_items_nil (q _ _ _ (Ev.refl _ _ _) a rfl .nil)
theorem PEL.cons {es : List Expr} {PL : List Bd → Prop} (ok : C.Ok) (h1 : PE prog w C A env ρ e P) (h2 : PEL prog w C A env ρ es PL) (he : starEach (e :: es) env = (false, eval e env) :: starEach es env := by rfl) :
    PEL prog w C A env ρ (e :: es) (fun bs => ∃ b r, bs = b :: r ∧ P b ∧ PL r) := fun pos s Q E a l v q => by
  refine wpAny_items_cons (h1 s _ _ a l v fun v₁ b₁ s₁ ev₁ a₁ p₁ r₁ => h2 pos s₁ _ _ a₁ (l.ev ev₁) (v.ev ok ev₁) fun vs bs s₂ ev₂ a₂ p₂ r₂ => ?_) he
  exact q _ _ _ (ev₁.trans ev₂) a₂ ⟨b₁, bs, rfl, p₁, p₂⟩ (.cons (r₁.ev ev₂ ok.TH ok.FH) r₂)
end
end Mine
end

section
open PySem PySem.W PySem.Calls PyProof.Rows
set_option Elab.async false
set_option linter.unusedVariables false
namespace Mine

/-- what is to be done with the result -/
abbrev Kt (C : Cx) (P : Bd → Prop) (s : Shared) (Q : Value → Shared → Prop) : Prop := ∀ v b s', Ev C.T C.F s s' → C.Am s' → P b → b.holds C.H s' v → Q v s'
abbrev BI (i : Int) : Bd := .d (.int i)
abbrev BS (x : Str) : Bd := .d (.str x)
abbrev BB (b : Bool) : Bd := .d (.bool b)
abbrev BL (ds : List PyData) : Bd := .d (.list ds)
abbrev BT (ds : List PyData) : Bd := .d (.tuple ds)

section
variable {C : Cx} {P : Bd → Prop} {s s' : Shared} {Q : Value → Shared → Prop} {H : List Addr} {v : Value}
theorem Kt.keep (q : Kt C P s Q) (a : C.Am s) (ok : C.Ok) {b : Bd} (p : P b) (k : ∀ b o, s.heap.get? b = some o → s'.heap.get? b = some o) (os : s'.os = s.os) (g : s'.gens = s.gens) (h : b.holds C.H s' v) : Q v s' :=
  q _ _ _ (Ev.of_keeps k os g) (a.keeps ok k os g) p h
theorem Kt.int (q : Kt C P s Q) (a : C.Am s) (ok : C.Ok) {i : Int} {t tk : Tok} (p : P (BI i)) : Q (.int i t) { s with toks := tk } := q.keep a ok p (fun _ _ e => e) rfl rfl ⟨_, .int _ _⟩
theorem Kt.str (q : Kt C P s Q) (a : C.Am s) (ok : C.Ok) {x : Str} {t tk : Tok} (p : P (BS x)) : Q (.str x t) { s with toks := tk } := q.keep a ok p (fun _ _ e => e) rfl rfl ⟨_, .str _ _⟩
theorem Kt.bool (q : Kt C P s Q) (a : C.Am s) (ok : C.Ok) {b : Bool} (p : P (BB b)) : Q (.bool b) s := q.keep a ok p (fun _ _ e => e) rfl rfl ⟨_, .bool _⟩

theorem Rep.int_inv {i : Int} (x : Rep H s v (.int i)) : ∃ t, v = .int i t := by obtain ⟨as, r⟩ := x; cases r; exact ⟨_, rfl⟩
theorem Rep.str_inv {i : Str} (x : Rep H s v (.str i)) : ∃ t, v = .str i t := by obtain ⟨as, r⟩ := x; cases r; exact ⟨_, rfl⟩
theorem Rep.bool_inv {i : Bool} (x : Rep H s v (.bool i)) : v = .bool i := by obtain ⟨as, r⟩ := x; cases r; rfl
theorem Rep.none_inv (x : Rep H s v .none) : v = .none := by obtain ⟨as, r⟩ := x; cases r; rfl
theorem readsAll_all2 {h : Heap} : ∀ {vs : List Value} {ds : List PyData} {as : List Addr}, ReadsAll h vs ds as → All2 (fun v d => ∃ as, Reads h v d as) vs ds
  | _, _, _, .nil => .nil
  | _, _, _, .cons r t => .cons ⟨_, r⟩ (readsAll_all2 t)
theorem all2_readsAll {h : Heap} : ∀ {vs : List Value} {ds : List PyData}, All2 (fun v d => ∃ as, Reads h v d as) vs ds → ∃ as, ReadsAll h vs ds as
  | _, _, .nil => ⟨_, .nil⟩
  | _, _, .cons ⟨_, r⟩ t => let ⟨_, rs⟩ := all2_readsAll t; ⟨_, .cons r rs⟩
theorem Rep.list_inv {ds : List PyData} (x : Rep H s v (.list ds)) : ∃ a items, v = .ref a ∧ s.heap.IsList a items ∧ a ∉ H ∧ All2 (Rep H s) items.toList ds := by
  obtain ⟨as, r⟩ := x
  cases r with
  | list h1 h2 h3 h4 => exact ⟨_, _, rfl, ⟨_, (hideAll_inv h1).1, h2, _, h3⟩, (hideAll_inv h1).2, readsAll_all2 h4⟩
theorem Rep.tup_inv {ds : List PyData} (x : Rep H s v (.tuple ds)) : ∃ a items, v = .ref a ∧ s.heap.IsTuple a items ∧ a ∉ H ∧ All2 (Rep H s) items.toList ds := by
  obtain ⟨as, r⟩ := x
  cases r with
  | tuple h1 h2 h3 h4 => exact ⟨_, _, rfl, ⟨_, (hideAll_inv h1).1, h2, _, h3⟩, (hideAll_inv h1).2, readsAll_all2 h4⟩
theorem Rep.list_mk {a : Addr} {items : Array Value} {ds : List PyData} (hl : s.heap.IsList a items) (ha : a ∉ H) (h : All2 (Rep H s) items.toList ds) : Rep H s (.ref a) (.list ds) := by
  obtain ⟨o, ho, hc, n, hd⟩ := hl
  obtain ⟨as, r⟩ := all2_readsAll h
  exact ⟨_, .list (hideAll_get _ ho ha) hc hd r⟩
theorem Rep.tup_mk {a : Addr} {items : Array Value} {ds : List PyData} (hl : s.heap.IsTuple a items) (ha : a ∉ H) (h : All2 (Rep H s) items.toList ds) : Rep H s (.ref a) (.tuple ds) := by
  obtain ⟨o, ho, hc, n, hd⟩ := hl
  obtain ⟨as, r⟩ := all2_readsAll h
  exact ⟨_, .tuple (hideAll_get _ ho ha) hc hd r⟩
theorem Rep.keeps {d : PyData} (x : Rep H s v d) (k : ∀ b o, s.heap.get? b = some o → s'.heap.get? b = some o) : Rep H s' v d := x.mono fun _ _ e n => ⟨k _ _ e, n⟩
theorem size_not_mem (l : Live H s) {n : Nat} (hn : s.heap.objs.size ≤ n) : n ∉ H := fun q => by obtain ⟨o, e⟩ := l _ q; exact absurd (Heap.lt_size e) (Nat.not_lt.mpr hn)

theorem Kt.newList (q : Kt C P s Q) (a : C.Am s) (l : Live C.H s) (ok : C.Ok) {items : Array Value} {ds : List PyData} (p : P (BL ds)) (h : All2 (Rep C.H s) items.toList ds) {tk : Tok} :
    Q (.ref s.heap.objs.size) { s with heap := s.heap.push { cls := .type "list", data := .seq items }, toks := tk } := by
  have k : ∀ b o, s.heap.get? b = some o → (s.heap.push { cls := .type "list", data := .seq items }).get? b = some o := fun b o e => Heap.get?_push_of_some _ e
  refine q.keep a ok p k rfl rfl (Rep.list_mk ⟨_, Heap.get?_push_size _ rfl, rfl, _, rfl⟩ (size_not_mem l (Nat.le_refl _)) (h.imp fun v d r => r.keeps k))
theorem Kt.newTup (q : Kt C P s Q) (a : C.Am s) (l : Live C.H s) (ok : C.Ok) {items : Array Value} {ds : List PyData} (p : P (BT ds)) (h : All2 (Rep C.H s) items.toList ds) {tk : Tok} :
    Q (.ref s.heap.objs.size) { s with heap := s.heap.push { cls := .type "tuple", data := .seq items }, toks := tk } := by
  have k : ∀ b o, s.heap.get? b = some o → (s.heap.push { cls := .type "tuple", data := .seq items }).get? b = some o := fun b o e => Heap.get?_push_of_some _ e
  refine q.keep a ok p k rfl rfl (Rep.tup_mk ⟨_, Heap.get?_push_size _ rfl, rfl, _, rfl⟩ (size_not_mem l (Nat.le_refl _)) (h.imp fun v d r => r.keeps k))
end

section
variable {prog : Program} {w : World} {C : Cx} {A : Around} {env : Env} {ρ : Rho} {e e₁ e₂ : Expr} {P P₁ P₂ : Bd → Prop} {pos : Pos}

/-- two ints under an operator -/
theorem PE.ints {op : Operator} {p₁ p₂ : Int → Prop} {f : Int → Int → Int} (ok : C.Ok) (h1 : PE prog w C A env ρ e₁ (fun b => ∃ i, b = BI i ∧ p₁ i)) (h2 : PE prog w C A env ρ e₂ (fun b => ∃ i, b = BI i ∧ p₂ i))
    (h : ∀ i j t u s Q E, p₁ i → p₂ j → Q (.int (f i j) s.toks) { s with toks := s.toks + 1 } → wpAny (model prog w) A (binaryOp op (.int i t) (.int j u)) Q E s) :
    PE prog w C A env ρ (.BinOp e₁ op e₂ pos) (fun b => ∃ i j, b = BI (f i j) ∧ p₁ i ∧ p₂ j) := by
  refine PE.bin ok h1 h2 fun b₁ b₂ v₁ v₂ s Q E p q a l r₁ r₂ k => ?_
  obtain ⟨i, rfl, pi⟩ := p
  obtain ⟨j, rfl, pj⟩ := q
  obtain ⟨t, rfl⟩ := Rep.int_inv r₁
  obtain ⟨u, rfl⟩ := Rep.int_inv r₂
  exact h i j t u s Q E pi pj (Kt.int k a ok ⟨i, j, rfl, pi, pj⟩)

theorem PE.ints1 {op : Operator} {i j : Int} {f : Int → Int → Int} (ok : C.Ok) (h1 : PE prog w C A env ρ e₁ (· = BI i)) (h2 : PE prog w C A env ρ e₂ (· = BI j))
    (h : ∀ t u s Q E, Q (.int (f i j) s.toks) { s with toks := s.toks + 1 } → wpAny (model prog w) A (binaryOp op (.int i t) (.int j u)) Q E s) :
    PE prog w C A env ρ (.BinOp e₁ op e₂ pos) (· = BI (f i j)) := by
  refine PE.bin ok h1 h2 fun b₁ b₂ v₁ v₂ s Q E p q a l r₁ r₂ k => ?_
  subst p q
  obtain ⟨t, rfl⟩ := Rep.int_inv r₁
  obtain ⟨u, rfl⟩ := Rep.int_inv r₂
  exact h t u s Q E (Kt.int k a ok rfl)
variable {i j : Int}
theorem PE.add (ok : C.Ok) (h1 : PE prog w C A env ρ e₁ (· = BI i)) (h2 : PE prog w C A env ρ e₂ (· = BI j)) : PE prog w C A env ρ (.BinOp e₁ .Add e₂ pos) (· = BI (i + j)) :=
  PE.ints1 ok h1 h2 fun _ _ _ _ _ q => PyProof.Rows.add_int q
theorem PE.sub (ok : C.Ok) (h1 : PE prog w C A env ρ e₁ (· = BI i)) (h2 : PE prog w C A env ρ e₂ (· = BI j)) : PE prog w C A env ρ (.BinOp e₁ .Sub e₂ pos) (· = BI (i - j)) :=
  PE.ints1 ok h1 h2 fun _ _ _ _ _ q => PyProof.Rows.sub_int q
theorem PE.mul (ok : C.Ok) (h1 : PE prog w C A env ρ e₁ (· = BI i)) (h2 : PE prog w C A env ρ e₂ (· = BI j)) (hm : IntMulOk i j) : PE prog w C A env ρ (.BinOp e₁ .Mult e₂ pos) (· = BI (i * j)) :=
  PE.ints1 ok h1 h2 fun _ _ _ _ _ q => PyProof.Rows.mul_int q hm
theorem PE.mod (ok : C.Ok) (h1 : PE prog w C A env ρ e₁ (· = BI i)) (h2 : PE prog w C A env ρ e₂ (· = BI j)) (hj : j ≠ 0) : PE prog w C A env ρ (.BinOp e₁ .Mod e₂ pos) (· = BI (i.fmod j)) :=
  PE.ints1 ok h1 h2 fun _ _ _ _ _ q => PyProof.Rows.mod_int hj q
theorem PE.xor (ok : C.Ok) (h1 : PE prog w C A env ρ e₁ (· = BI i)) (h2 : PE prog w C A env ρ e₂ (· = BI j)) : PE prog w C A env ρ (.BinOp e₁ .BitXor e₂ pos) (· = BI (Builtin.bitXor i j)) :=
  PE.ints1 ok h1 h2 fun _ _ _ _ _ q => xor_int q
theorem PE.and (ok : C.Ok) (h1 : PE prog w C A env ρ e₁ (· = BI i)) (h2 : PE prog w C A env ρ e₂ (· = BI j)) : PE prog w C A env ρ (.BinOp e₁ .BitAnd e₂ pos) (· = BI (Builtin.bitAnd i j)) :=
  PE.ints1 ok h1 h2 fun _ _ _ _ _ q => and_int q
theorem PE.shr (ok : C.Ok) (h1 : PE prog w C A env ρ e₁ (· = BI i)) (h2 : PE prog w C A env ρ e₂ (· = BI j)) (hj : 0 ≤ j) : PE prog w C A env ρ (.BinOp e₁ .RShift e₂ pos) (· = BI (i.fdiv (2 ^ j.toNat))) :=
  PE.ints1 ok h1 h2 (f := fun i j => i.fdiv (2 ^ j.toNat)) fun _ _ _ _ _ q => rshift_int hj q
theorem PE.shl (ok : C.Ok) (h1 : PE prog w C A env ρ e₁ (· = BI i)) (h2 : PE prog w C A env ρ e₂ (· = BI j)) (hj : 0 ≤ j) (hj2 : j ≤ 1000000) (hi : i.natAbs < 2 ^ 64) : PE prog w C A env ρ (.BinOp e₁ .LShift e₂ pos) (· = BI (i * 2 ^ j.toNat)) :=
  PE.ints1 ok h1 h2 (f := fun i j => i * 2 ^ j.toNat) fun _ _ _ _ _ q => lshift_int_small hj hj2 hi q

variable {x y : Str}
theorem PE.cat (ok : C.Ok) (h1 : PE prog w C A env ρ e₁ (· = BS x)) (h2 : PE prog w C A env ρ e₂ (· = BS y)) (hz : x.length + y.length ≤ sizeLine) : PE prog w C A env ρ (.BinOp e₁ .Add e₂ pos) (· = BS (x ++ y)) := by
  refine PE.bin ok h1 h2 fun b₁ b₂ v₁ v₂ s Q E p q a l r₁ r₂ k => ?_
  subst p q
  obtain ⟨t, rfl⟩ := Rep.str_inv r₁
  obtain ⟨u, rfl⟩ := Rep.str_inv r₂
  exact PyProof.Rows.add_str (fun t' tk => Kt.str k a ok rfl) hz

theorem all2_append {R : Value → PyData → Prop} : ∀ {as bs : List Value} {cs ds : List PyData}, All2 R as cs → All2 R bs ds → All2 R (as ++ bs) (cs ++ ds)
  | _, _, _, _, .nil, h => h
  | _, _, _, _, .cons r t, h => .cons r (all2_append t h)

theorem PE.catL {ds es : List PyData} (ok : C.Ok) (h1 : PE prog w C A env ρ e₁ (· = BL ds)) (h2 : PE prog w C A env ρ e₂ (· = BL es)) (hz : ds.length + es.length ≤ sizeLine) : PE prog w C A env ρ (.BinOp e₁ .Add e₂ pos) (· = BL (ds ++ es)) := by
  refine PE.bin ok h1 h2 fun b₁ b₂ v₁ v₂ s Q E p q a l r₁ r₂ k => ?_
  subst p q
  obtain ⟨b, its, rfl, hl, hb, hal⟩ := Rep.list_inv r₁
  obtain ⟨c, jts, rfl, hm, hc, hbl⟩ := Rep.list_inv r₂
  obtain ⟨⟨cls, dd, data, sl⟩, ho, hcl, n, hd⟩ := id hl
  obtain ⟨⟨cls2, dd2, data2, sl2⟩, ho2, hcl2, n2, hd2⟩ := id hm
  simp only at hcl hd hcl2 hd2
  subst hcl hd hcl2 hd2
  refine concat_meets ⟨_, ho, rfl⟩ ⟨_, ho2, rfl⟩ noFill_list_add seq_list_add PySem.F.slot_list_add PySem.F.entry_list_add (PySem.F.args_list_add_2 _ _) (list_addW b c its jts n n2 dd dd2 sl sl2 ?_) ⟨ho, ho2, ?_⟩
  · rw [← hal.length, ← hbl.length] at hz; simpa using hz
  · exact Kt.newList k a l ok rfl (by simpa using all2_append hal hbl)

/-- a display -/
theorem PE.list {es : List Expr} {PL : List Bd → Prop} {ds : List PyData} (ok : C.Ok) (h : PEL prog w C A env ρ es PL) (hz : es.length ≤ sizeLine)
    (hP : ∀ bs, PL bs → bs = ds.map Bd.d ∧ ds.length ≤ sizeLine) : PE prog w C A env ρ (.List es pos) (· = BL ds) := fun s Q E a l v q => by
  refine PySem.wpAny_List (h pos s _ _ a l v fun vs bs s' ev a' p r => ?_)
  obtain ⟨rfl, hz'⟩ := hP bs p
  refine ⟨by rw [r.length, List.length_map]; exact hz', ?_⟩
  refine Kt.newList (C := C) (P := (· = BL ds)) (fun v b s'' e' a'' p' r' => q v b s'' (ev.trans e') a'' p' r') a' (l.ev ev) ok rfl ?_
  have : ∀ {vs : List Value} {ds : List PyData}, All2 (fun v (b : Bd) => b.holds C.H s' v) vs (ds.map Bd.d) → All2 (Rep C.H s') vs ds := by
    intro vs ds
    induction ds generalizing vs with
    | nil => intro h; cases h; exact .nil
    | cons d ds ih => intro h; cases h with | cons a b => exact .cons a (ih b)
  exact this r
theorem PE.tup {es : List Expr} {PL : List Bd → Prop} {ds : List PyData} {kk : Nat} (ok : C.Ok) (h : PEL prog w C A env ρ es PL) (hz : es.length ≤ sizeLine)
    (hP : ∀ bs, PL bs → bs = ds.map Bd.d ∧ ds.length ≤ sizeLine) : PE prog w C A env ρ (.Tuple es kk pos) (· = BT ds) := fun s Q E a l v q => by
  refine PySem.wpAny_Tuple (h pos s _ _ a l v fun vs bs s' ev a' p r => ?_)
  obtain ⟨rfl, hz'⟩ := hP bs p
  refine ⟨by rw [r.length, List.length_map]; exact hz', ?_⟩
  refine Kt.newTup (C := C) (P := (· = BT ds)) (fun v b s'' e' a'' p' r' => q v b s'' (ev.trans e') a'' p' r') a' (l.ev ev) ok rfl ?_
  have : ∀ {vs : List Value} {ds : List PyData}, All2 (fun v (b : Bd) => b.holds C.H s' v) vs (ds.map Bd.d) → All2 (Rep C.H s') vs ds := by
    intro vs ds
    induction ds generalizing vs with
    | nil => intro h; cases h; exact .nil
    | cons d ds ih => intro h; cases h with | cons a b => exact .cons a (ih b)
  exact this r
end
end Mine
end

section
open PySem PySem.W PySem.Calls PyProof.Rows
set_option Elab.async false
set_option linter.unusedVariables false
namespace Mine

section
variable {prog : Program} {w : World} {C : Cx} {A : Around} {env : Env} {ρ : Rho} {e e₁ e₂ : Expr} {P P₁ P₂ : Bd → Prop} {pos : Pos}

/-- what a comparison of two evaluated things gives -/
def Cmp (prog : Program) (w : World) (C : Cx) (A : Around) (op : CmpOp) (b₁ b₂ : Bd) (r : Bool) : Prop :=
  ∀ (v₁ v₂ : Value) (s : Shared) (Q E : Value → Shared → Prop), C.Am s → Live C.H s → b₁.holds C.H s v₁ → b₂.holds C.H s v₂ → Q (.bool r) s → wpAny (model prog w) A (compareOp op v₁ v₂) Q E s

theorem PE.cmp {op : CmpOp} {R : Bool → Prop} (ok : C.Ok) (h1 : PE prog w C A env ρ e₁ P₁) (h2 : PE prog w C A env ρ e₂ P₂) (h : ∀ b₁ b₂, P₁ b₁ → P₂ b₂ → ∃ r, R r ∧ Cmp prog w C A op b₁ b₂ r)
    (hm : behindInMarks op e₂ = false := by with_unfolding_all rfl) : PE prog w C A env ρ (.Compare e₁ [op] [e₂] pos) (fun b => ∃ r, R r ∧ b = BB r) := fun s Q E a l v q => by
  refine wpAny_Compare1 (h1 s _ _ a l v fun v₁ b₁ s₁ ev₁ a₁ p₁ r₁ => h2 s₁ _ _ a₁ (l.ev ev₁) (v.ev ok ev₁) fun v₂ b₂ s₂ ev₂ a₂ p₂ r₂ => ?_) hm
  obtain ⟨r, hr, hc⟩ := h b₁ b₂ p₁ p₂
  exact hc v₁ v₂ s₂ _ _ a₂ ((l.ev ev₁).ev ev₂) (r₁.ev ev₂ ok.TH ok.FH) r₂ (q _ _ _ (ev₁.trans ev₂) a₂ ⟨r, hr, rfl⟩ ⟨_, .bool _⟩)
theorem PC.cmp {op : CmpOp} {R : Bool → Prop} (ok : C.Ok) (h1 : PE prog w C A env ρ e₁ P₁) (h2 : PE prog w C A env ρ e₂ P₂) (h : ∀ b₁ b₂, P₁ b₁ → P₂ b₂ → ∃ r, R r ∧ Cmp prog w C A op b₁ b₂ r)
    (hm : behindInMarks op e₂ = false := by with_unfolding_all rfl) : PC prog w C A env ρ (.Compare e₁ [op] [e₂] pos) R := fun s Q E a l v q => by
  refine wpAny_isTrue_Compare1 (h1 s _ _ a l v fun v₁ b₁ s₁ ev₁ a₁ p₁ r₁ => h2 s₁ _ _ a₁ (l.ev ev₁) (v.ev ok ev₁) fun v₂ b₂ s₂ ev₂ a₂ p₂ r₂ => ?_) hm
  obtain ⟨r, hr, hc⟩ := h b₁ b₂ p₁ p₂
  exact hc v₁ v₂ s₂ _ _ a₂ ((l.ev ev₁).ev ev₂) (r₁.ev ev₂ ok.TH ok.FH) r₂ (wpAny_truthy_bool (q _ _ (ev₁.trans ev₂) a₂ hr))
theorem PC.cmp1 {op : CmpOp} {b₁ b₂ : Bd} {r : Bool} (ok : C.Ok) (h1 : PE prog w C A env ρ e₁ (· = b₁)) (h2 : PE prog w C A env ρ e₂ (· = b₂)) (h : Cmp prog w C A op b₁ b₂ r)
    (hm : behindInMarks op e₂ = false := by with_unfolding_all rfl) : PC prog w C A env ρ (.Compare e₁ [op] [e₂] pos) (· = r) := PC.cmp ok h1 h2 (fun _ _ p q => ⟨r, rfl, p ▸ q ▸ h⟩) hm
theorem PE.cmp1 {op : CmpOp} {b₁ b₂ : Bd} {r : Bool} (ok : C.Ok) (h1 : PE prog w C A env ρ e₁ (· = b₁)) (h2 : PE prog w C A env ρ e₂ (· = b₂)) (h : Cmp prog w C A op b₁ b₂ r)
    (hm : behindInMarks op e₂ = false := by with_unfolding_all rfl) : PE prog w C A env ρ (.Compare e₁ [op] [e₂] pos) (· = BB r) := (PE.cmp (R := (· = r)) ok h1 h2 (fun _ _ p q => ⟨r, rfl, p ▸ q ▸ h⟩) hm).mono fun b ⟨r', h1, h2⟩ => h1 ▸ h2

variable {i j : Int}
theorem Cmp.intEq : Cmp prog w C A .Eq (BI i) (BI j) (i == j) := fun v₁ v₂ s Q E _ _ r₁ r₂ q => by obtain ⟨t, rfl⟩ := Rep.int_inv r₁; obtain ⟨u, rfl⟩ := Rep.int_inv r₂; exact PyProof.Rows.eq_int q
theorem Cmp.intNe : Cmp prog w C A .NotEq (BI i) (BI j) (i != j) := fun v₁ v₂ s Q E _ _ r₁ r₂ q => by obtain ⟨t, rfl⟩ := Rep.int_inv r₁; obtain ⟨u, rfl⟩ := Rep.int_inv r₂; exact PyProof.Rows.ne_int q
theorem Cmp.intLt : Cmp prog w C A .Lt (BI i) (BI j) (decide (i < j)) := fun v₁ v₂ s Q E _ _ r₁ r₂ q => by obtain ⟨t, rfl⟩ := Rep.int_inv r₁; obtain ⟨u, rfl⟩ := Rep.int_inv r₂; exact PyProof.Rows.lt_int q
theorem Cmp.intLe : Cmp prog w C A .LtE (BI i) (BI j) (decide (i ≤ j)) := fun v₁ v₂ s Q E _ _ r₁ r₂ q => by obtain ⟨t, rfl⟩ := Rep.int_inv r₁; obtain ⟨u, rfl⟩ := Rep.int_inv r₂; exact PyProof.Rows.le_int q
theorem Cmp.intGt : Cmp prog w C A .Gt (BI i) (BI j) (decide (j < i)) := fun v₁ v₂ s Q E _ _ r₁ r₂ q => by obtain ⟨t, rfl⟩ := Rep.int_inv r₁; obtain ⟨u, rfl⟩ := Rep.int_inv r₂; exact PyProof.Rows.gt_int q
/-- data that may be compared -/
theorem Cmp.eq {x y : PyData} (hx : SeqAt.shaped x = true) (hy : SeqAt.shaped y = true) (hu : A.units + 64 < cLine) : Cmp prog w C A .Eq (.d x) (.d y) (PyData.eqv x y) := fun v₁ v₂ s Q E _ _ r₁ r₂ q => by
  obtain ⟨as, r₁⟩ := r₁
  obtain ⟨bs, r₂⟩ := r₂
  exact SeqAt.compareEq_shaped (Reads.keeps (fun _ _ e => of_hideAll _ e) r₁) (Reads.keeps (fun _ _ e => of_hideAll _ e) r₂) hx hy hu q
theorem Cmp.ne {x y : PyData} (hx : SeqAt.shaped x = true) (hy : SeqAt.shaped y = true) (hu : A.units + 64 < cLine) : Cmp prog w C A .NotEq (.d x) (.d y) (!PyData.eqv x y) := fun v₁ v₂ s Q E _ _ r₁ r₂ q => by
  obtain ⟨as, r₁⟩ := r₁
  obtain ⟨bs, r₂⟩ := r₂
  exact SeqAt.compareNe_shaped (Reads.keeps (fun _ _ e => of_hideAll _ e) r₁) (Reads.keeps (fun _ _ e => of_hideAll _ e) r₂) hx hy hu q
def isNoneD : PyData → Bool | .none => true | _ => false
theorem Rep.beq_none {H : List Addr} {s : Shared} {v : Value} {x : PyData} (r : Rep H s v x) : (v == .none) = isNoneD x := by
  obtain ⟨as, r⟩ := r
  cases r <;> rfl
theorem Cmp.isNone {x : PyData} : Cmp prog w C A .Is (.d x) (.d .none) (isNoneD x) := fun v₁ v₂ s Q E _ _ r₁ r₂ q => by
  rw [Rep.none_inv r₂]; exact is_none (by rw [Rep.beq_none r₁]; exact q)
theorem Cmp.isNotNone {x : PyData} : Cmp prog w C A .IsNot (.d x) (.d .none) (!isNoneD x) := fun v₁ v₂ s Q E _ _ r₁ r₂ q => by
  rw [Rep.none_inv r₂]; exact isNot_none (by rw [Rep.beq_none r₁]; exact q)
theorem Cmp.inList {x : PyData} {xs : List PyData} (hx : x.canLay0 = true) (hxs : PyData.canLayAll0 xs = true) (hu : A.units + 1 + min (PyData.depthAll xs) x.depth < cLine) : Cmp prog w C A .In (.d x) (BL xs) (xs.any fun y => PyData.eqv y x) := fun v₁ v₂ s Q E _ _ r₁ r₂ q => by
  obtain ⟨as, r₁⟩ := r₁
  obtain ⟨bs, r₂⟩ := r₂
  exact SeqAt.in_list_reads (Reads.keeps (fun _ _ e => of_hideAll _ e) r₂) (Reads.keeps (fun _ _ e => of_hideAll _ e) r₁) hxs hx hu q

/-- truth of a thing -/
def Tru (prog : Program) (w : World) (C : Cx) (A : Around) (b : Bd) (r : Bool) : Prop :=
  ∀ (v : Value) (s : Shared) (Q : Bool → Shared → Prop) (E : Value → Shared → Prop), C.Am s → b.holds C.H s v → (∀ s', Ev C.T C.F s s' → C.Am s' → s'.heap = s.heap → Q r s') → wpAny (model prog w) A (truthy v) Q E s
theorem Tru.bool {r : Bool} : Tru prog w C A (BB r) r := fun v s Q E a h q => by rw [Rep.bool_inv h]; exact wpAny_truthy_bool (q s (Ev.refl _ _ _) a rfl)
theorem Tru.noneC : Tru prog w C A (.d .none) false := fun v s Q E a h q => by rw [Rep.none_inv h]; exact truthy_none (q s (Ev.refl _ _ _) a rfl)
theorem Tru.int : Tru prog w C A (BI i) (i != 0) := fun v s Q E a h q => by obtain ⟨t, rfl⟩ := Rep.int_inv h; exact PyProof.Rows.truthy_int (q s (Ev.refl _ _ _) a rfl)
theorem Tru.str {x : Str} (ok : C.Ok) (hz : x.length ≤ sizeLine) : Tru prog w C A (BS x) ((x.length : Int) != 0) := fun v s Q E a h q => by
  obtain ⟨t, rfl⟩ := Rep.str_inv h
  exact PySem.P.truthy_str (by have : sizeLine = 2 ^ 24 := rfl; omega) (q _ (Ev.of_keeps (fun _ _ e => e) rfl rfl) (a.keeps ok (fun _ _ e => e) rfl rfl) rfl)
theorem Tru.list {ds : List PyData} (ok : C.Ok) (hz : ds.length ≤ sizeLine) : Tru prog w C A (BL ds) (!ds.isEmpty) := fun v s Q E a h q => by
  obtain ⟨l, items, rfl, hl, _, hal⟩ := Rep.list_inv h
  have hlen := hal.length
  have e : items.isEmpty = ds.isEmpty := by
    unfold Array.isEmpty
    have h' : items.size = ds.length := by simpa using hlen
    rw [h']
    cases ds with
    | nil => rfl
    | cons d r => rfl
  refine wpAny_truthy_list hl ?_ ?_
  · have : sizeLine = 2 ^ 24 := rfl
    have : items.size = ds.length := by simpa using hlen
    omega
  · rw [e]; exact q _ (Ev.of_keeps (fun _ _ e => e) rfl rfl) (a.keeps ok (fun _ _ e => e) rfl rfl) rfl

theorem PC.value {R : Bool → Prop} (ok : C.Ok) (h1 : PE prog w C A env ρ e P₁) (h : ∀ b, P₁ b → ∃ r, R r ∧ Tru prog w C A b r) (he : ∀ whole, isTrue e env whole = (do let v ← whole; standAt e.pos; holding [v] (truthy v)) := by intro _; rfl) :
    PC prog w C A env ρ e R := fun s Q E a l v q => by
  refine wpAny_isTrue_value (h1 s _ _ a l v fun v₁ b₁ s₁ ev₁ a₁ p₁ r₁ => ?_) (he _)
  obtain ⟨r, hr, ht⟩ := h b₁ p₁
  exact ht v₁ s₁ _ _ a₁ r₁ fun s₂ ev₂ a₂ _ => q _ _ (ev₁.trans ev₂) a₂ hr
theorem PC.value1 {b : Bd} {r : Bool} (ok : C.Ok) (h1 : PE prog w C A env ρ e (· = b)) (h : Tru prog w C A b r) (he : ∀ whole, isTrue e env whole = (do let v ← whole; standAt e.pos; holding [v] (truthy v)) := by intro _; rfl) :
    PC prog w C A env ρ e (· = r) := PC.value ok h1 (fun b' p => ⟨r, rfl, p ▸ h⟩) he
theorem PC.not {R : Bool → Prop} (h : PC prog w C A env ρ e R) : PC prog w C A env ρ (.UnaryOp .Not e pos) (fun r => ∃ b, R b ∧ r = !b) := fun s Q E a l v q =>
  wpAny_isTrue_Not (h s _ _ a l v fun b s' ev a' p => q _ _ ev a' ⟨b, p, rfl⟩)
theorem PC.not1 {r : Bool} (h : PC prog w C A env ρ e (· = r)) : PC prog w C A env ρ (.UnaryOp .Not e pos) (· = !r) := fun s Q E a l v q =>
  wpAny_isTrue_Not (h s _ _ a l v fun b s' ev a' p => q _ _ ev a' (p ▸ rfl))
theorem PC.mono {R R' : Bool → Prop} (h : PC prog w C A env ρ e R) (k : ∀ b, R b → R' b) : PC prog w C A env ρ e R' := fun s Q E a l v q => h s Q E a l v fun b s' h1 h2 h3 => q b s' h1 h2 (k b h3)
theorem PC.and2 {x y : Expr} {r₁ r₂ : Bool} (ok : C.Ok) (h1 : PC prog w C A env ρ x (· = r₁)) (h2 : r₁ = true → PC prog w C A env ρ y (· = r₂)) : PC prog w C A env ρ (.BoolOp .And [x, y] pos) (· = (r₁ && r₂)) := fun s Q E a l v q => by
  refine wpAny_isTrue_BoolOp (wpAny_allTrue_And_cons (h1 s _ _ a l v fun b s₁ ev₁ a₁ p₁ => ?_))
  subst p₁
  cases b with
  | false => exact q _ _ ev₁ a₁ rfl
  | true => exact wpAny_allTrue_And_cons (h2 rfl s₁ _ _ a₁ (l.ev ev₁) (v.ev ok ev₁) fun b s₂ ev₂ a₂ p₂ => by
      subst p₂
      cases b with
      | false => exact q _ _ (ev₁.trans ev₂) a₂ rfl
      | true => exact wpAny_allTrue_And_nil (q _ _ (ev₁.trans ev₂) a₂ rfl))
theorem PC.or2 {x y : Expr} {r₁ r₂ : Bool} (ok : C.Ok) (h1 : PC prog w C A env ρ x (· = r₁)) (h2 : r₁ = false → PC prog w C A env ρ y (· = r₂)) : PC prog w C A env ρ (.BoolOp .Or [x, y] pos) (· = (r₁ || r₂)) := fun s Q E a l v q => by
  refine wpAny_isTrue_BoolOp (wpAny_allTrue_Or_cons (h1 s _ _ a l v fun b s₁ ev₁ a₁ p₁ => ?_))
  subst p₁
  cases b with
  | true => exact q _ _ ev₁ a₁ rfl
  | false => exact wpAny_allTrue_Or_cons (h2 rfl s₁ _ _ a₁ (l.ev ev₁) (v.ev ok ev₁) fun b s₂ ev₂ a₂ p₂ => by
      subst p₂
      cases b with
      | true => exact q _ _ (ev₁.trans ev₂) a₂ rfl
      | false => exact wpAny_allTrue_Or_nil (q _ _ (ev₁.trans ev₂) a₂ rfl))

theorem PE.ifexp {test body orelse : Expr} {r : Bool} (ok : C.Ok) (h : PC prog w C A env ρ test (· = r)) (h1 : r = true → PE prog w C A env ρ body P) (h2 : r = false → PE prog w C A env ρ orelse P) :
    PE prog w C A env ρ (.IfExp test body orelse pos) P := fun s Q E a l v q => by
  refine wpAny_IfExp (h s _ _ a l v fun b s₁ ev₁ a₁ p₁ => ?_)
  subst p₁
  cases b with
  | true => exact h1 rfl s₁ _ _ a₁ (l.ev ev₁) (v.ev ok ev₁) fun u b s₂ ev₂ a₂ p₂ r₂ => q u b s₂ (ev₁.trans ev₂) a₂ p₂ r₂
  | false => exact h2 rfl s₁ _ _ a₁ (l.ev ev₁) (v.ev ok ev₁) fun u b s₂ ev₂ a₂ p₂ r₂ => q u b s₂ (ev₁.trans ev₂) a₂ p₂ r₂
theorem PE.and2 {x y : Expr} {r₁ : Bool} (ok : C.Ok) (h1 : PE prog w C A env ρ x (· = BB r₁)) (h2 : r₁ = true → PE prog w C A env ρ y P) (h3 : r₁ = false → P (BB false)) : PE prog w C A env ρ (.BoolOp .And [x, y] pos) P := fun s Q E a l v q => by
  refine wpAny_And2 (h1 s _ _ a l v fun v₁ b₁ s₁ ev₁ a₁ p₁ r => ?_)
  subst p₁
  rw [Rep.bool_inv r]
  refine wpAny_truthy_bool ?_
  cases r₁ with
  | false => exact q _ _ _ ev₁ a₁ (h3 rfl) ⟨_, .bool _⟩
  | true => exact h2 rfl s₁ _ _ a₁ (l.ev ev₁) (v.ev ok ev₁) fun u b s₂ ev₂ a₂ p₂ r₂ => q u b s₂ (ev₁.trans ev₂) a₂ p₂ r₂
theorem PE.or2 {x y : Expr} {r₁ : Bool} (ok : C.Ok) (h1 : PE prog w C A env ρ x (· = BB r₁)) (h2 : r₁ = false → PE prog w C A env ρ y P) (h3 : r₁ = true → P (BB true)) : PE prog w C A env ρ (.BoolOp .Or [x, y] pos) P := fun s Q E a l v q => by
  refine wpAny_Or2 (h1 s _ _ a l v fun v₁ b₁ s₁ ev₁ a₁ p₁ r => ?_)
  subst p₁
  rw [Rep.bool_inv r]
  refine wpAny_truthy_bool ?_
  cases r₁ with
  | true => exact q _ _ _ ev₁ a₁ (h3 rfl) ⟨_, .bool _⟩
  | false => exact h2 rfl s₁ _ _ a₁ (l.ev ev₁) (v.ev ok ev₁) fun u b s₂ ev₂ a₂ p₂ r₂ => q u b s₂ (ev₁.trans ev₂) a₂ p₂ r₂
theorem PE.not1 {b : Bd} {r : Bool} (ok : C.Ok) (h : PE prog w C A env ρ e (· = b)) (ht : Tru prog w C A b r) : PE prog w C A env ρ (.UnaryOp .Not e pos) (· = BB (!r)) := fun s Q E a l v q =>
  wpAny_UnaryOp (h s _ _ a l v fun v₁ b₁ s₁ ev₁ a₁ p₁ r₁ => not_value (ht v₁ s₁ _ _ a₁ (p₁ ▸ r₁) fun s₂ ev₂ a₂ _ => q _ _ _ (ev₁.trans ev₂) a₂ rfl ⟨_, .bool _⟩))
theorem PE.neg (ok : C.Ok) (h : PE prog w C A env ρ e (· = BI i)) : PE prog w C A env ρ (.UnaryOp .USub e pos) (· = BI (-i)) := fun s Q E a l v q =>
  wpAny_UnaryOp (h s _ _ a l v fun v₁ b₁ s₁ ev₁ a₁ p₁ r₁ => by
    subst p₁
    obtain ⟨t, rfl⟩ := Rep.int_inv r₁
    exact PySem.P.neg_int (q _ _ _ (ev₁.trans (Ev.of_keeps (fun _ _ e => e) rfl rfl)) (a₁.keeps ok (fun _ _ e => e) rfl rfl) rfl ⟨_, .int _ _⟩))

/-- a chain of two: i op₁ e₁ op₂ e₂, of ints, the first true -/
theorem PE.chain {k : Int} {op₁ op₂ : CmpOp} {r₁ r₂ : Bool} {e₃ : Expr} (ok : C.Ok) (h1 : PE prog w C A env ρ e₁ (· = BI i)) (h2 : PE prog w C A env ρ e₂ (· = BI j)) (h3 : PE prog w C A env ρ e₃ (· = BI k))
    (c1 : Cmp prog w C A op₁ (BI i) (BI j) r₁) (c2 : Cmp prog w C A op₂ (BI j) (BI k) r₂) (hm : lastMarks [op₁, op₂] [e₂, e₃] = false := by with_unfolding_all rfl) :
    PE prog w C A env ρ (.Compare e₁ [op₁, op₂] [e₂, e₃] pos) (· = BB (r₁ && r₂)) := fun s Q E a l v q => by
  refine Compare_chain (h1 s _ _ a l v fun v₁ b₁ s₁ ev₁ a₁ p₁ x₁ => chain_link (h2 s₁ _ _ a₁ (l.ev ev₁) (v.ev ok ev₁) fun v₂ b₂ s₂ ev₂ a₂ p₂ x₂ => ?_)) hm
  subst p₁ p₂
  refine c1 v₁ v₂ s₂ _ _ a₂ ((l.ev ev₁).ev ev₂) (x₁.ev ev₂ ok.TH ok.FH) x₂ (wpAny_truthy_bool ?_)
  cases r₁ with
  | false => exact q _ _ _ (ev₁.trans ev₂) a₂ rfl ⟨_, .bool _⟩
  | true =>
    refine chain_last (h3 s₂ _ _ a₂ ((l.ev ev₁).ev ev₂) ((v.ev ok ev₁).ev ok ev₂) fun v₃ b₃ s₃ ev₃ a₃ p₃ x₃ => ?_)
    subst p₃
    exact c2 v₂ v₃ s₃ _ _ a₃ (((l.ev ev₁).ev ev₂).ev ev₃) (x₂.ev ev₃ ok.TH ok.FH) x₃ (q _ _ _ ((ev₁.trans ev₂).trans ev₃) a₃ rfl ⟨_, .bool _⟩)
theorem PC.chain {k : Int} {op₁ op₂ : CmpOp} {r₁ r₂ : Bool} {e₃ : Expr} (ok : C.Ok) (h1 : PE prog w C A env ρ e₁ (· = BI i)) (h2 : PE prog w C A env ρ e₂ (· = BI j)) (h3 : PE prog w C A env ρ e₃ (· = BI k))
    (c1 : Cmp prog w C A op₁ (BI i) (BI j) r₁) (c2 : Cmp prog w C A op₂ (BI j) (BI k) r₂) (hm : lastMarks [op₁, op₂] [e₂, e₃] = false := by with_unfolding_all rfl) :
    PC prog w C A env ρ (.Compare e₁ [op₁, op₂] [e₂, e₃] pos) (· = (r₁ && r₂)) := fun s Q E a l v q => by
  refine isTrue_chain (h1 s _ _ a l v fun v₁ b₁ s₁ ev₁ a₁ p₁ x₁ => test_link (h2 s₁ _ _ a₁ (l.ev ev₁) (v.ev ok ev₁) fun v₂ b₂ s₂ ev₂ a₂ p₂ x₂ => ?_)) hm
  subst p₁ p₂
  refine c1 v₁ v₂ s₂ _ _ a₂ ((l.ev ev₁).ev ev₂) (x₁.ev ev₂ ok.TH ok.FH) x₂ (wpAny_truthy_bool ?_)
  cases r₁ with
  | false => exact q _ _ (ev₁.trans ev₂) a₂ rfl
  | true =>
    refine test_last (h3 s₂ _ _ a₂ ((l.ev ev₁).ev ev₂) ((v.ev ok ev₁).ev ok ev₂) fun v₃ b₃ s₃ ev₃ a₃ p₃ x₃ => ?_)
    subst p₃
    exact c2 v₂ v₃ s₃ _ _ a₃ (((l.ev ev₁).ev ev₂).ev ev₃) (x₂.ev ev₃ ok.TH ok.FH) x₃ (wpAny_truthy_bool (q _ _ ((ev₁.trans ev₂).trans ev₃) a₃ rfl))
end
end Mine
end

section
open PySem PySem.W PySem.Calls PyProof.Rows
set_option Elab.async false
set_option linter.unusedVariables false
namespace Mine

section
variable {prog : Program} {w : World} {A : Around} {E : Value → Shared → Prop} {s : Shared}
theorem subT {value slice : Expr} {o i : Value} {T id : String} {ops : List Value} {Q : Value → Shared → Prop} (hT : s.TypeIs o T)
    (hl : typeLookup (.type T) "__getitem__" = pure (some (.builtin id))) (hs : subscripted slice false o i = operate ops (getItem o i)) (h : wpAny (model prog w) A (getItem o i) Q E s) :
    wpAny (model prog w) A (subscriptTail value slice o i) Q E s := by
  unfold subscriptTail
  refine wpAny_bind ?_
  rw [getitemInPython_of_ne hT.not_modules]
  refine wpAny_bind (wpAny_specialOf hT hl ?_)
  have fin : wpAny (model prog w) A (subscripted slice false o i) (fun r s₃ => wpAny (model prog w) A (letTemporaryGo value o r >>= fun _ => pure r) Q E s₃) E s := by
    rw [hs]
    exact wpAny_operating (wpAny_mono h (fun r s₃ h₃ => wpAny_bind (wpAny_letTemporaryGo (wpAny_pure h₃))) fun _ _ x => x)
  first
    | exact wpAny_pure (wpAny_bind fin)
    | exact wpAny_bind (wpAny_pure (wpAny_bind fin))
    | exact wpAny_bind fin
end

section
variable {prog : Program} {w : World} {C : Cx} {A : Around} {env : Env} {ρ : Rho} {e e₁ e₂ : Expr} {P P₁ P₂ : Bd → Prop} {pos : Pos}

/-- e₁[e₂], not a slice -/
theorem PE.item (ok : C.Ok) (h1 : PE prog w C A env ρ e₁ P₁) (h2 : PE prog w C A env ρ e₂ P₂)
    (h : ∀ b₁ b₂ v₁ v₂ s Q E, P₁ b₁ → P₂ b₂ → C.Am s → Live C.H s → b₁.holds C.H s v₁ → b₂.holds C.H s v₂ → Kt C P s Q → wpAny (model prog w) A (subscriptTail e₁ e₂ v₁ v₂) Q E s) :
    PE prog w C A env ρ (.Subscript e₁ e₂ pos) P := fun s Q E a l v q => by
  refine Subscript_ (h1 s _ _ a l v fun v₁ b₁ s₁ ev₁ a₁ p₁ r₁ => h2 s₁ _ _ a₁ (l.ev ev₁) (v.ev ok ev₁) fun v₂ b₂ s₂ ev₂ a₂ p₂ r₂ => ?_)
  exact h b₁ b₂ v₁ v₂ s₂ _ _ p₁ p₂ a₂ ((l.ev ev₁).ev ev₂) (r₁.ev ev₂ ok.TH ok.FH) r₂ fun u b s' ev a' p r => q u b s' ((ev₁.trans ev₂).trans ev) a' p r

/-- list[k] -/
theorem PE.itemL {ds : List PyData} {p : Nat → Prop} (ok : C.Ok) (h1 : PE prog w C A env ρ e₁ (· = BL ds)) (h2 : PE prog w C A env ρ e₂ (fun b => ∃ k : Nat, b = BI k ∧ p k ∧ k < ds.length)) (hz : ds.length ≤ sizeLine)
    (hs : ∀ l k u, subscripted e₂ false (.ref l) (.int k u) = operate [.ref l, .int k u] (getItem (.ref l) (.int k u)) := by intros; with_unfolding_all rfl) :
    PE prog w C A env ρ (.Subscript e₁ e₂ pos) (fun b => ∃ k d, p k ∧ ds[k]? = some d ∧ b = .d d) := by
  refine PE.item ok h1 h2 fun b₁ b₂ v₁ v₂ s Q E p₁ p₂ a l r₁ r₂ q => ?_
  subst p₁
  obtain ⟨k, rfl, pk, hk⟩ := p₂
  obtain ⟨t, rfl⟩ := Rep.int_inv r₂
  obtain ⟨b, items, rfl, hl, hb, hal⟩ := Rep.list_inv r₁
  have hk' : k < items.toList.length := by rw [hal.length]; exact hk
  obtain ⟨d, hd, hr⟩ := hal.get k _ (List.getElem?_eq_getElem hk')
  refine subT hl.typeIs slot_list_getitem.lookup (hs _ _ _) (wpAny_getItem_list hl (Int.natCast_nonneg _) ?_ ?_ (q _ _ _ (Ev.refl _ _ _) a ⟨k, d, pk, hd, rfl⟩ hr))
  · have : sizeLine = 2 ^ 24 := rfl
    omega
  · have : items[k]? = items.toList[k]? := by simp
    rw [show ((k : Int)).toNat = k from rfl, this]; exact List.getElem?_eq_getElem hk'
theorem PE.itemL1 {ds : List PyData} {k : Nat} {d : PyData} (ok : C.Ok) (h1 : PE prog w C A env ρ e₁ (· = BL ds)) (h2 : PE prog w C A env ρ e₂ (· = BI k)) (hd : ds[k]? = some d) (hz : ds.length ≤ sizeLine)
    (hs : ∀ l k u, subscripted e₂ false (.ref l) (.int k u) = operate [.ref l, .int k u] (getItem (.ref l) (.int k u)) := by intros; with_unfolding_all rfl) :
    PE prog w C A env ρ (.Subscript e₁ e₂ pos) (· = .d d) :=
  (PE.itemL (p := (· = k)) ok h1 (h2.mono fun b p => ⟨k, p, rfl, (List.getElem?_eq_some_iff.mp hd).1⟩) hz hs).mono fun b ⟨k', d', h1, h2, h3⟩ => by rw [h1, hd] at h2; cases h2; exact h3
/-- tuple[k] -/
theorem PE.itemT {ds : List PyData} {p : Nat → Prop} (ok : C.Ok) (h1 : PE prog w C A env ρ e₁ (· = BT ds)) (h2 : PE prog w C A env ρ e₂ (fun b => ∃ k : Nat, b = BI k ∧ p k ∧ k < ds.length)) (hz : ds.length ≤ sizeLine)
    (hs : ∀ l k u, subscripted e₂ false (.ref l) (.int k u) = operate [.ref l, .int k u] (getItem (.ref l) (.int k u)) := by intros; with_unfolding_all rfl) :
    PE prog w C A env ρ (.Subscript e₁ e₂ pos) (fun b => ∃ k d, p k ∧ ds[k]? = some d ∧ b = .d d) := by
  refine PE.item ok h1 h2 fun b₁ b₂ v₁ v₂ s Q E p₁ p₂ a l r₁ r₂ q => ?_
  subst p₁
  obtain ⟨k, rfl, pk, hk⟩ := p₂
  obtain ⟨t, rfl⟩ := Rep.int_inv r₂
  obtain ⟨b, items, rfl, hl, hb, hal⟩ := Rep.tup_inv r₁
  have hk' : k < items.toList.length := by rw [hal.length]; exact hk
  obtain ⟨d, hd, hr⟩ := hal.get k _ (List.getElem?_eq_getElem hk')
  have hsz : (k : Int) < 2 ^ 63 := by have : sizeLine = 2 ^ 24 := rfl; omega
  have hit : items[k]? = some items.toList[k] := by simp
  refine subT hl.typeIs slot_tuple_getitem.lookup (hs _ _ _) (PyProof.Rows.getItem_tuple hl (by omega) hsz ?_ hit (q _ _ _ (Ev.refl _ _ _) a ⟨k, d, pk, hd, rfl⟩ hr))
  unfold seqIndex?
  have hk2 : k < items.size := by simpa using hk'
  have h0 : ¬ ((k : Int) < 0) := by omega
  have h1 : (k : Int) < items.size := by omega
  simp [h0, h1]
/-- str[i] -/
theorem PE.itemS {x : Str} {p : Int → Prop} (ok : C.Ok) (h1 : PE prog w C A env ρ e₁ (· = BS x)) (h2 : PE prog w C A env ρ e₂ (fun b => ∃ i : Int, b = BI i ∧ p i ∧ -(2 ^ 63) ≤ i ∧ i < 2 ^ 63 ∧ ∃ c, (seqIndex? i x.length).bind (x.cps[·]?) = some c))
    (hs : ∀ x t k u, subscripted e₂ false (.str x t) (.int k u) = operate [.str x t, .int k u] (getItem (.str x t) (.int k u)) := by intros; with_unfolding_all rfl) :
    PE prog w C A env ρ (.Subscript e₁ e₂ pos) (fun b => ∃ i c, p i ∧ (seqIndex? i x.length).bind (x.cps[·]?) = some c ∧ b = BS ⟨#[c]⟩) := by
  refine PE.item ok h1 h2 fun b₁ b₂ v₁ v₂ s Q E p₁ p₂ a l r₁ r₂ q => ?_
  subst p₁
  obtain ⟨i, rfl, pi, hlo, hhi, c, hc⟩ := p₂
  obtain ⟨t, rfl⟩ := Rep.int_inv r₂
  obtain ⟨u, rfl⟩ := Rep.str_inv r₁
  refine subT (typeIs_str _ _ _) PySem.F.slot_str_getitem.lookup (hs _ _ _ _) (PyProof.Rows.getItem_str ?_ hc (Kt.str q a ok ⟨i, c, pi, hc, rfl⟩))
  simp; omega
theorem PE.itemS1 {x : Str} {i : Int} {c : Nat} (ok : C.Ok) (h1 : PE prog w C A env ρ e₁ (· = BS x)) (h2 : PE prog w C A env ρ e₂ (· = BI i)) (hlo : -(2 ^ 63) ≤ i) (hhi : i < 2 ^ 63) (hc : (seqIndex? i x.length).bind (x.cps[·]?) = some c)
    (hs : ∀ x t k u, subscripted e₂ false (.str x t) (.int k u) = operate [.str x t, .int k u] (getItem (.str x t) (.int k u)) := by intros; with_unfolding_all rfl) :
    PE prog w C A env ρ (.Subscript e₁ e₂ pos) (· = BS ⟨#[c]⟩) :=
  (PE.itemS (p := (· = i)) ok h1 (h2.mono fun b p => ⟨i, p, rfl, hlo, hhi, c, hc⟩) hs).mono fun b ⟨k', d', h1, h2, h3⟩ => by rw [h1, hc] at h2; cases h2; exact h3

/-- a bound of a slice -/
def PPt (prog : Program) (w : World) (C : Cx) (A : Around) (env : Env) (ρ : Rho) : Option Expr → Option Int → Prop
  | none, none => True
  | some e, some i => PE prog w C A env ρ e (· = BI i)
  | _, _ => False
theorem PPt.run {x : Option Expr} {i : Option Int} (ok : C.Ok) (h : PPt prog w C A env ρ x i) {s : Shared} {Q E : Value → Shared → Prop} (a : C.Am s) (l : Live C.H s) (v : Vw C env ρ s)
    (q : ∀ o s', Ev C.T C.F s s' → C.Am s' → o.map (·.1) = i → Q (partValue o) s') : wpAny (model prog w) A (evalPart x env) Q E s := by
  cases x with
  | none =>
    cases i with
    | none => exact wpAny_pure (q none s (Ev.refl _ _ _) a rfl)
    | some i => cases h
  | some e =>
    cases i with
    | none => cases h
    | some i =>
      refine h s _ _ a l v fun u b s₁ ev a₁ p r => ?_
      subst p
      obtain ⟨t, rfl⟩ := Rep.int_inv r
      exact q (some (i, t)) s₁ ev a₁ rfl

theorem isPart_of (o : Option (Int × Tok)) : IsPart (partValue o) (o.map (·.1)) := by
  cases o with
  | none => exact .none
  | some p => exact .int _ _
/-- list[lo:hi] -/
theorem PE.sliceL {lower upper : Option Expr} {lo hi : Option Int} {p : Pos} {ds es : List PyData} (ok : C.Ok) (h1 : PE prog w C A env ρ e₁ (· = BL ds)) (hlo : PPt prog w C A env ρ lower lo) (hhi : PPt prog w C A env ρ upper hi) (hz : ds.length ≤ sizeLine)
    (hsel : ∀ (items : Array Value) (R : Value → PyData → Prop), All2 R items.toList ds → All2 R (slicePick items lo hi none).toList es)
    (hs : ∀ l i, ∃ ops, subscripted (.Slice lower upper none p) false (.ref l) (.ref i) = operate ops (getItem (.ref l) (.ref i)) := by intros; exact ⟨_, by with_unfolding_all rfl⟩) :
    PE prog w C A env ρ (.Subscript e₁ (.Slice lower upper none p) pos) (· = BL es) := fun s Q E a l v q => by
  refine Subscript_ (h1 s _ _ a l v fun v₁ b₁ s₁ ev₁ a₁ p₁ r₁ => wpAny_Slice (hlo.run ok a₁ (l.ev ev₁) (v.ev ok ev₁) fun o₁ s₂ ev₂ a₂ hi₁ => hhi.run ok a₂ ((l.ev ev₁).ev ev₂) ((v.ev ok ev₁).ev ok ev₂) fun o₂ s₃ ev₃ a₃ hi₂ => ?_))
  subst p₁
  rw [evalPart_none]
  refine wpAny_pure ?_
  have l₃ := ((l.ev ev₁).ev ev₂).ev ev₃
  obtain ⟨b, items, rfl, hl, hb, hal⟩ := Rep.list_inv ((r₁.ev ev₂ ok.TH ok.FH).ev ev₃ ok.TH ok.FH)
  obtain ⟨ops, hops⟩ := hs b s₃.heap.objs.size
  have hsz : items.size ≤ sizeLine := by have := hal.length; simp at this; omega
  generalize hh₂ : s₃.heap.push { cls := .type "slice", data := .fields #[partValue o₁, partValue o₂, .none] } = h₂
  have k : ∀ b o, s₃.heap.get? b = some o → h₂.get? b = some o := fun b o e => hh₂ ▸ Heap.get?_push_of_some _ e
  have hl₂ : h₂.IsList b items := hh₂ ▸ hl.push _
  refine subT (T := "list") hl₂.typeIs list_getitem_lookup hops ?_
  refine wpAny_getItem_list_slice hl₂ (hh₂ ▸ Heap.IsSliceOf.new ..) (hi₁ ▸ isPart_of o₁) (hi₂ ▸ isPart_of o₂) .none (by simp) ?_ hsz
  have ev₄ : Ev C.T C.F s₃ { s₃ with heap := h₂ } := Ev.of_keeps k rfl rfl
  have a₄ : C.Am { s₃ with heap := h₂ } := a₃.keeps ok k rfl rfl
  exact Kt.newList (C := C) (P := (· = BL es)) (fun u b s' ev a' p r => q u b s' ((((ev₁.trans ev₂).trans ev₃).trans ev₄).trans ev) a' p r) a₄ (l₃.ev ev₄) ok rfl ((hsel items _ hal).imp fun _ _ r => Rep.keeps r k)

theorem all2_drop {R : Value → PyData → Prop} : ∀ (n : Nat) {as : List Value} {ds : List PyData}, All2 R as ds → All2 R (as.drop n) (ds.drop n)
  | 0, _, _, h => h
  | _ + 1, _, _, .nil => .nil
  | n + 1, _, _, .cons _ t => all2_drop n t
theorem all2_take {R : Value → PyData → Prop} : ∀ (n : Nat) {as : List Value} {ds : List PyData}, All2 R as ds → All2 R (as.take n) (ds.take n)
  | 0, _, _, _ => .nil
  | _ + 1, _, _, .nil => .nil
  | n + 1, _, _, .cons r t => .cons r (all2_take n t)

theorem PE.dropL {lower : Expr} {n : Nat} {p : Pos} {ds : List PyData} (ok : C.Ok) (h1 : PE prog w C A env ρ e₁ (· = BL ds)) (hlo : PE prog w C A env ρ lower (· = BI n)) (hz : ds.length ≤ sizeLine)
    (hs : ∀ l i, ∃ ops, subscripted (.Slice (some lower) none none p) false (.ref l) (.ref i) = operate ops (getItem (.ref l) (.ref i)) := by intros; exact ⟨_, by with_unfolding_all rfl⟩) :
    PE prog w C A env ρ (.Subscript e₁ (.Slice (some lower) none none p) pos) (· = BL (ds.drop n)) :=
  PE.sliceL ok h1 (lo := some n) (hi := none) hlo trivial hz (fun items R h => by rw [slicePick_from']; exact all2_drop n h) hs
theorem PE.takeL {upper : Expr} {n : Nat} {p : Pos} {ds : List PyData} (ok : C.Ok) (h1 : PE prog w C A env ρ e₁ (· = BL ds)) (hhi : PE prog w C A env ρ upper (· = BI n)) (hz : ds.length ≤ sizeLine)
    (hs : ∀ l i, ∃ ops, subscripted (.Slice none (some upper) none p) false (.ref l) (.ref i) = operate ops (getItem (.ref l) (.ref i)) := by intros; exact ⟨_, by with_unfolding_all rfl⟩) :
    PE prog w C A env ρ (.Subscript e₁ (.Slice none (some upper) none p) pos) (· = BL (ds.take n)) :=
  PE.sliceL ok h1 (lo := none) (hi := some n) trivial hhi hz (fun items R h => by rw [slicePick_upto']; exact all2_take n h) hs
theorem PE.lastL {lower : Expr} {n : Nat} {p : Pos} {ds : List PyData} (ok : C.Ok) (hn : 1 ≤ n) (h1 : PE prog w C A env ρ e₁ (· = BL ds)) (hlo : PE prog w C A env ρ lower (· = BI (-(n : Int)))) (hz : ds.length ≤ sizeLine)
    (hs : ∀ l i, ∃ ops, subscripted (.Slice (some lower) none none p) false (.ref l) (.ref i) = operate ops (getItem (.ref l) (.ref i)) := by intros; exact ⟨_, by with_unfolding_all rfl⟩) :
    PE prog w C A env ρ (.Subscript e₁ (.Slice (some lower) none none p) pos) (· = BL (ds.drop (ds.length - n))) :=
  PE.sliceL ok h1 (lo := some (-(n : Int))) (hi := none) hlo trivial hz (fun items R h => by rw [slicePick_last _ _ hn, ← h.length]; exact all2_drop _ h) hs
theorem PE.butLastL {upper : Expr} {n : Nat} {p : Pos} {ds : List PyData} (ok : C.Ok) (hn : 1 ≤ n) (h1 : PE prog w C A env ρ e₁ (· = BL ds)) (hhi : PE prog w C A env ρ upper (· = BI (-(n : Int)))) (hz : ds.length ≤ sizeLine)
    (hs : ∀ l i, ∃ ops, subscripted (.Slice none (some upper) none p) false (.ref l) (.ref i) = operate ops (getItem (.ref l) (.ref i)) := by intros; exact ⟨_, by with_unfolding_all rfl⟩) :
    PE prog w C A env ρ (.Subscript e₁ (.Slice none (some upper) none p) pos) (· = BL (ds.take (ds.length - n))) :=
  PE.sliceL ok h1 (lo := none) (hi := some (-(n : Int))) trivial hhi hz (fun items R h => by rw [slicePick_butLast _ _ hn, ← h.length]; exact all2_take _ h) hs

/-- str[lo:hi] -/
theorem PE.sliceS {lower upper : Option Expr} {lo hi : Option Int} {p : Pos} {x : Str} (ok : C.Ok) (h1 : PE prog w C A env ρ e₁ (· = BS x)) (hlo : PPt prog w C A env ρ lower lo) (hhi : PPt prog w C A env ρ upper hi) (hz : x.length ≤ sizeLine)
    (hs : ∀ x t i, ∃ ops, subscripted (.Slice lower upper none p) false (.str x t) (.ref i) = operate ops (getItem (.str x t) (.ref i)) := by intros; exact ⟨_, by with_unfolding_all rfl⟩) :
    PE prog w C A env ρ (.Subscript e₁ (.Slice lower upper none p) pos) (· = BS (Txt.slice x lo hi)) := fun s Q E a l v q => by
  refine Subscript_ (h1 s _ _ a l v fun v₁ b₁ s₁ ev₁ a₁ p₁ r₁ => wpAny_Slice (hlo.run ok a₁ (l.ev ev₁) (v.ev ok ev₁) fun o₁ s₂ ev₂ a₂ hi₁ => hhi.run ok a₂ ((l.ev ev₁).ev ev₂) ((v.ev ok ev₁).ev ok ev₂) fun o₂ s₃ ev₃ a₃ hi₂ => ?_))
  subst p₁
  rw [evalPart_none]
  refine wpAny_pure ?_
  obtain ⟨t, rfl⟩ := Rep.str_inv r₁
  obtain ⟨ops, hops⟩ := hs x t s₃.heap.objs.size
  refine subT (T := "str") (typeIs_str _ _ _) PySem.F.slot_str_getitem.lookup hops ?_
  subst hi₁ hi₂
  have fin : ∀ h' t' k, (∀ b o, s₃.heap.get? b = some o → h'.get? b = some o) → Q (.str (Txt.slice x (o₁.map (·.1)) (o₂.map (·.1))) t') { s₃ with heap := h', toks := k } := fun h' t' k kk =>
    q _ _ _ (((ev₁.trans ev₂).trans ev₃).trans (Ev.of_keeps kk rfl rfl)) (a₃.keeps ok kk rfl rfl) rfl ⟨_, .str _ _⟩
  have hk : KeptH (fun h' => ∀ b o, s₃.heap.get? b = some o → h'.get? b = some o) := fun h ob hh b o e => Heap.get?_push_of_some _ (hh b o e)
  rcases o₁ with _ | ⟨i, ti⟩ <;> rcases o₂ with _ | ⟨j, tj⟩
  · obtain ⟨T, id, h1, h2, h3⟩ := SBH.sliceItem_nn (prog := prog) (w := w) (A := A) (E := E) (s := s₃) (x := x) (t := t) hk (fun _ _ e => e) fin hz; exact h3
  · obtain ⟨T, id, h1, h2, h3⟩ := SBH.sliceItem_ns (prog := prog) (w := w) (A := A) (E := E) (s := s₃) (x := x) (t := t) (uj := tj) hk (fun _ _ e => e) fin hz; exact h3
  · obtain ⟨T, id, h1, h2, h3⟩ := SBH.sliceItem_sn (prog := prog) (w := w) (A := A) (E := E) (s := s₃) (x := x) (t := t) (ui := ti) hk (fun _ _ e => e) fin hz; exact h3
  · obtain ⟨T, id, h1, h2, h3⟩ := SBH.sliceItem_ss (prog := prog) (w := w) (A := A) (E := E) (s := s₃) (x := x) (t := t) (ui := ti) (uj := tj) hk (fun _ _ e => e) fin hz; exact h3
end
end Mine
end

section
open PySem PySem.W PySem.Calls PyProof.Rows
set_option Elab.async false
set_option linter.unusedVariables false
namespace Mine

theorem ns_unique {h : Heap} {a : Addr} {m m' : Str → Option Value} (x : h.Ns a m) (y : h.Ns a m') : m = m' := by
  obtain ⟨o, es, ep, ho, hd, _, hf⟩ := x
  obtain ⟨o', es', ep', ho', hd', _, hf'⟩ := y
  rw [ho] at ho'; cases ho'
  rw [hd] at hd'; cases hd'
  funext z
  rw [← hf, ← hf']

/-- the frame of a running def: its names and its cells are there -/
structure Fm (env : Env) (s : Shared) : Prop where
  ns : ∃ m, s.heap.Ns env.locals m
  cells : ∀ n c, env.cells.lookup n = some c → ∃ v, s.heap.IsCell c v

/-- what is known of the places W that a def's own stores touch -/
structure Wok (C : Cx) (env : Env) (W : List Addr) : Prop where
  loc : env.locals ∈ W
  cell : ∀ n c, env.cells.lookup n = some c → c ∉ C.T
  WH : ∀ b ∈ W, b ∈ C.H
  WT : ∀ b ∈ W, b ∉ C.T
  cF : ∀ n c, env.cells.lookup n = some c → c ∉ C.F
  apart : ∀ n n' c, env.cells.lookup n = some c → env.cells.lookup n' = some c → n = n'
  new : ∀ b ∈ W, C.B.get? b = none

/-- a store to x may be made -/
abbrev Owned (env : Env) (W : List Addr) (x : Str) : Prop := env.kindOf x = some .local ∨ (env.kindOf x = some .cell ∧ ∃ c, env.cells.lookup x = some c ∧ c ∈ W)
theorem Fm.ev {env : Env} {s s' : Shared} {T F : List Addr} (f : Fm env s) (e : Ev T F s s') (hL : env.locals ∉ T) (hc : ∀ n c, env.cells.lookup n = some c → c ∉ T ++ F) : Fm env s' :=
  ⟨let ⟨m, h⟩ := f.ns; ⟨m, e.ns _ _ h hL⟩, fun n c h => let ⟨v, o, ho, hd⟩ := f.cells n c h; ⟨v, o, e.keep _ _ ho (hc n c h), hd⟩⟩
theorem Fm.ev' {C : Cx} {W : List Addr} {env : Env} {s s' : Shared} (f : Fm env s) (e : Ev C.T C.F s s') (k : Wok C env W) : Fm env s' :=
  f.ev e (k.WT _ k.loc) fun n c h q => (List.mem_append.mp q).elim (k.cell n c h) (k.cF n c h)

section
variable (prog : Program) (w : World)
/-- the body: it gives back something of P -/
def PB (C : Cx) (A : Around) (env : Env) (W : List Addr) (ρ : Rho) (body : List Stmt) (P : Bd → Prop) : Prop :=
  ∀ (s : Shared) (Q : Flow → Shared → Prop) (E : Value → Shared → Prop), C.Am s → Live C.H s → Fm env s → Vw C env ρ s →
    (∀ v b s', Ev (W ++ C.T) C.F s s' → C.Am s' → P b → b.holds C.H s' v → Q (.ret v) s') → wpAny (model prog w) A (execs body env) Q E s
/-- the statement goes on, with names of P -/
def PT (C : Cx) (A : Around) (env : Env) (W : List Addr) (ρ : Rho) (st : Stmt) (P : Rho → Prop) : Prop :=
  ∀ (s : Shared) (Q : Flow → Shared → Prop) (E : Value → Shared → Prop), C.Am s → Live C.H s → Fm env s → Vw C env ρ s →
    (∀ ρ' s', Ev (W ++ C.T) C.F s s' → C.Am s' → P ρ' → Fm env s' → Vw C env ρ' s' → Q .next s') → wpAny (model prog w) A (exec st env) Q E s
def PTs (C : Cx) (A : Around) (env : Env) (W : List Addr) (ρ : Rho) (sts : List Stmt) (P : Rho → Prop) : Prop :=
  ∀ (s : Shared) (Q : Flow → Shared → Prop) (E : Value → Shared → Prop), C.Am s → Live C.H s → Fm env s → Vw C env ρ s →
    (∀ ρ' s', Ev (W ++ C.T) C.F s s' → C.Am s' → P ρ' → Fm env s' → Vw C env ρ' s' → Q .next s') → wpAny (model prog w) A (execs sts env) Q E s
end

section
variable {C : Cx} {env : Env} {W : List Addr} {ρ : Rho} {s s' : Shared}
theorem Wok.sub (k : Wok C env W) (ok : C.Ok) : ∀ t ∈ W ++ C.T, t ∈ C.H := fun t ht => (List.mem_append.mp ht).elim (k.WH t) (ok.TH t)
theorem Ev.wide {T F : List Addr} (e : Ev T F s s') : Ev (W ++ T) F s s' := e.mono (fun t ht => List.mem_append_right _ ht) fun t ht => List.mem_append_right _ ht

/-- what a store at one of the own places does -/
theorem stored {a : Addr} {h' : Heap} {tk : Tok} (k : Wok C env W) (ok : C.Ok) (ha : a ∈ W) (a₀ : C.Am s) (l : Live C.H s) (hs : Heap.SameBut a s.heap h') (hn : ∃ o, h'.get? a = some o) :
    Ev (W ++ C.T) C.F s { s with heap := h', toks := tk } ∧ C.Am { s with heap := h', toks := tk } ∧ Live C.H { s with heap := h', toks := tk } := by
  have live : ∀ b o, s.heap.get? b = some o → ∃ o', h'.get? b = some o' := fun b o e => by
    by_cases hb : b = a
    · subst hb; exact hn
    · exact ⟨o, hs.extBut b o hb e⟩
  have ev : Ev (W ++ C.T) C.F s { s with heap := h', toks := tk } := by
    refine (Ev.refl _ _ s).stepT (fun b o o₀ _ hb e => hs.extBut b o (fun q => hb (q ▸ List.mem_append_left _ ha)) e) (fun b o o₀ _ e => live b o e) rfl rfl
  exact ⟨ev, a₀.stab ok (fun b o o₀ e₀ e => hs.extBut b o (fun q => by rw [q, k.new _ ha] at e₀; cases e₀) e) rfl rfl, l.ev ev⟩

theorem Vw.put {x : Str} {b : Bd} {v : Value} (ok : C.Ok) (k : Wok C env W) {a : Addr} {h' : Heap} {tk : Tok} (ha : a ∈ W) (hs : Heap.SameBut a s.heap h') (vw : Vw C env ρ s) (hb : b.holds C.H s v) (hx : Lk C env x v { s with heap := h', toks := tk })
    (hfs : Fs C { s with heap := h', toks := tk }) (hl : ∀ y u, y ≠ x → Lk C env y u s → Lk C env y u { s with heap := h', toks := tk }) : Vw C env ((x, b) :: ρ) { s with heap := h', toks := tk } := by
  have kk : ∀ b o, s.heap.get? b = some o → b ∉ C.H → h'.get? b = some o ∧ b ∉ C.H := fun b o e n => ⟨hs.extBut b o (fun q => n (q ▸ k.WH _ ha)) e, n⟩
  refine ⟨?_, hfs⟩
  intro y b' hy
  rw [List.lookup_cons] at hy
  cases hyx : y == x with
  | true =>
    rw [hyx] at hy
    cases hy
    rw [eq_of_beq hyx]
    exact ⟨v, hb.mono kk, hx⟩
  | false =>
    rw [hyx] at hy
    obtain ⟨u, h1, h2⟩ := vw.look y b' hy
    exact ⟨u, h1.mono kk, hl y u (by simpa using hyx) h2⟩
end

section
variable {prog : Program} {w : World} {C : Cx} {A : Around} {env : Env} {W : List Addr} {ρ : Rho} {e : Expr} {P : Bd → Prop} {pos : Pos}

/-- a store to a name -/
theorem store {x : Str} {b : Bd} {v : Value} {s : Shared} {Q : Unit → Shared → Prop} {E : Value → Shared → Prop} (ok : C.Ok) (k : Wok C env W) (hk : env.scope.kind = .function) (hx : Owned env W x)
    (a : C.Am s) (l : Live C.H s) (f : Fm env s) (vw : Vw C env ρ s) (hb : b.holds C.H s v)
    (q : ∀ s', Ev (W ++ C.T) C.F s s' → C.Am s' → Live C.H s' → Fm env s' → Vw C env ((x, b) :: ρ) s' → Q () s') : wpAny (model prog w) A (storeName env x v) Q E s := by
  obtain ⟨m, hm⟩ := f.ns
  have hL := hm
  rcases hx with hx | ⟨hx, hc⟩
  · refine wpAny_storeName_local hx hm (fun h' hn' hs' => ?_) (by rw [hk]; rfl)
    obtain ⟨ev, a', l'⟩ := stored (C := C) (W := W) (env := env) (tk := s.toks + 1) k ok k.loc a l hs' (let ⟨o, _, _, e, _⟩ := hn'; ⟨o, e⟩)
    have hcell : ∀ c u, s.heap.IsCell c u → c ≠ env.locals := fun c u hc q => by
      obtain ⟨o, ho, hd⟩ := hc
      obtain ⟨o', _, _, ho', hd', _⟩ := hm
      rw [q, ho'] at ho; cases ho
      rw [hd'] at hd; cases hd
    refine q _ ev a' l' ⟨⟨_, hn'⟩, fun n c hc => let ⟨u, hu⟩ := f.cells n c hc; ⟨u, hu.sameBut hs' (hcell c u hu)⟩⟩ (Vw.put ok k k.loc hs' vw hb (.inl ⟨hx, k.WT _ k.loc, _, hn', by simp⟩) (fun b hb => ?_) fun y u hy hlk => ?_)
    · by_cases e : b = env.locals
      · exact ⟨_, e ▸ hn'⟩
      · obtain ⟨m', h'⟩ := vw.fs b hb
        exact ⟨m', h'.sameBut hs' e⟩
    rcases hlk with ⟨h1, h2, m', hm', hv⟩ | ⟨c, h1, h2, hc⟩
    · have hmm := ns_unique hm hm'
      subst hmm
      exact .inl ⟨h1, h2, _, hn', by rw [if_neg hy]; exact hv⟩
    · exact .inr ⟨c, h1, h2, hc.sameBut hs' (hcell c _ hc)⟩
  · obtain ⟨c, hc, hcW⟩ := hc
    obtain ⟨v₀, hv₀⟩ := f.cells x c hc
    refine wpAny_storeName_cell hk hx hc hv₀ fun h' hc' hs' => ?_
    obtain ⟨ev, a', l'⟩ := stored (C := C) (W := W) (env := env) (tk := s.toks) k ok hcW a l hs' (let ⟨o, e, _⟩ := hc'; ⟨o, e⟩)
    have hLc : env.locals ≠ c := fun q => by
      obtain ⟨o, ho, hd⟩ := hv₀
      obtain ⟨o', _, _, ho', hd', _⟩ := hm
      rw [q, ho] at ho'; cases ho'
      rw [hd'] at hd; cases hd
    have hcT : c ∉ C.T ++ C.F := fun q => (List.mem_append.mp q).elim (k.WT _ hcW) (k.cF x c hc)
    refine q _ ev a' l' ⟨⟨m, hm.sameBut hs' hLc⟩, fun n c' hc'' => ?_⟩ (Vw.put ok k hcW hs' vw hb (.inr ⟨c, ?_, hcT, hc'⟩) (fun b hb => let ⟨m', h'⟩ := vw.fs b hb; ⟨m', h'.sameBut hs' fun e => k.cF x c hc (e ▸ hb)⟩) fun y u hy hlk => ?_)
    · by_cases hcc : c' = c
      · subst hcc; exact ⟨_, hc'⟩
      · obtain ⟨u, hu⟩ := f.cells n c' hc''
        exact ⟨u, hu.sameBut hs' hcc⟩
    · unfold cellK
      rw [if_pos (.inl hx)]
      exact hc
    · rcases hlk with ⟨h1, h2, m', hm', hv⟩ | ⟨c', h1, h2, hc''⟩
      · exact .inl ⟨h1, h2, _, hm'.sameBut hs' hLc, hv⟩
      · have h1' := h1
        unfold cellK at h1'
        split at h1'
        · exact .inr ⟨c', h1, h2, hc''.sameBut hs' fun q => hy (k.apart _ _ _ (q ▸ h1') hc)⟩
        · cases h1'

theorem PT.assign {x : Str} {px : Pos} (ok : C.Ok) (k : Wok C env W) (h : PE prog w C A env ρ e P) (hk : env.scope.kind = .function := by rfl)
    (hx : Owned env W x := by first | exact .inl rfl | exact owned_ownW rfl rfl rfl | exact owned_but rfl rfl rfl (by decide))
    (hs : swapsWith e (some (.Name x px)) pos.line env = pure false := by rfl) :
    PT prog w C A env W ρ (.Assign [.Name x px] e pos) (fun ρ' => ∃ b, P b ∧ ρ' = (x, b) :: ρ) := fun s Q E a l f v q => by
  refine wpAny_Assign_Name (h s _ _ a l v fun u b s₁ ev₁ a₁ p₁ r₁ => ?_) hs
  exact store ok k hk hx a₁ (l.ev ev₁) (f.ev' ev₁ k) (v.ev ok ev₁) r₁ fun s₂ ev₂ a₂ l₂ f₂ v₂ => q _ _ (ev₁.wide.trans ev₂) a₂ ⟨b, p₁, rfl⟩ f₂ v₂

theorem PT.mono {st : Stmt} {R R' : Rho → Prop} (h : PT prog w C A env W ρ st R) (k : ∀ b, R b → R' b) : PT prog w C A env W ρ st R' := fun s Q E a l f v q => h s Q E a l f v fun ρ' s' h1 h2 h3 h4 h5 => q ρ' s' h1 h2 (k _ h3) h4 h5
theorem PT.assign1 {x : Str} {px : Pos} {b : Bd} (ok : C.Ok) (k : Wok C env W) (h : PE prog w C A env ρ e (· = b)) (hk : env.scope.kind = .function := by rfl)
    (hx : Owned env W x := by first | exact .inl rfl | exact owned_ownW rfl rfl rfl | exact owned_but rfl rfl rfl (by decide))
    (hs : swapsWith e (some (.Name x px)) pos.line env = pure false := by rfl) :
    PT prog w C A env W ρ (.Assign [.Name x px] e pos) (· = (x, b) :: ρ) := (PT.assign ok k h hk hx hs).mono fun ρ' ⟨b', h1, h2⟩ => by rw [h2, h1]

theorem PT.pass : PT prog w C A env W ρ (.Pass pos) (· = ρ) := fun s Q E a l f v q => wpAny_Pass (q _ _ (Ev.refl _ _ _) a rfl f v)

/-- a condition, then one of the two branches -/
theorem PT.ifF {test : Expr} {body : List Stmt} (ok : C.Ok) (k : Wok C env W) (h : PC prog w C A env ρ test (· = false)) : PT prog w C A env W ρ (.If test body [] pos) (· = ρ) := fun s Q E a l f v q => by
  refine wpAny_If (h s _ _ a l v fun b s₁ ev₁ a₁ p₁ => ?_)
  subst p₁
  exact wpAny_pure (q _ _ ev₁.wide a₁ rfl (f.ev' ev₁ k) (v.ev ok ev₁))
theorem PB.ifT {test : Expr} {body orelse rest : List Stmt} (ok : C.Ok) (k : Wok C env W) (h : PC prog w C A env ρ test (· = true)) (hb : PB prog w C A env W ρ body P) : PB prog w C A env W ρ (.If test body orelse pos :: rest) P := fun s Q E a l f v q => by
  refine wpAny_execs_cons (wpAny_If (h s _ _ a l v fun b s₁ ev₁ a₁ p₁ => ?_))
  subst p₁
  exact hb s₁ _ _ a₁ (l.ev ev₁) (f.ev' ev₁ k) (v.ev ok ev₁) fun u b s₂ ev₂ a₂ p₂ r₂ => q u b s₂ (ev₁.wide.trans ev₂) a₂ p₂ r₂
theorem PB.cons {st : Stmt} {rest : List Stmt} {R : Rho → Prop} (h1 : PT prog w C A env W ρ st R) (h2 : ∀ ρ', R ρ' → PB prog w C A env W ρ' rest P) : PB prog w C A env W ρ (st :: rest) P := fun s Q E a l f v q =>
  wpAny_execs_cons (h1 s _ _ a l f v fun ρ' s₁ ev₁ a₁ p₁ f₁ v₁ => h2 ρ' p₁ s₁ _ _ a₁ (l.ev ev₁) f₁ v₁ fun u b s₂ ev₂ a₂ p₂ r₂ => q u b s₂ (ev₁.trans ev₂) a₂ p₂ r₂)
theorem PB.cons1 {st : Stmt} {rest : List Stmt} {ρ' : Rho} (h1 : PT prog w C A env W ρ st (· = ρ')) (h2 : PB prog w C A env W ρ' rest P) : PB prog w C A env W ρ (st :: rest) P := PB.cons h1 fun _ h => h ▸ h2
theorem PB.ret {rest : List Stmt} (h : PE prog w C A env ρ e P) : PB prog w C A env W ρ (.Return (some e) pos :: rest) P := fun s Q E a l f v q =>
  wpAny_execs_cons (wpAny_Return_some (h s _ _ a l v fun u b s₁ ev₁ a₁ p₁ r₁ => q u b s₁ ev₁.wide a₁ p₁ r₁))
theorem PB.mono {body : List Stmt} {P' : Bd → Prop} (h : PB prog w C A env W ρ body P) (k : ∀ b, P b → P' b) : PB prog w C A env W ρ body P' := fun s Q E a l f v q => h s Q E a l f v fun u b s' h1 h2 h3 h4 => q u b s' h1 h2 (k b h3) h4
theorem PTs.nil : PTs prog w C A env W ρ [] (· = ρ) := fun s Q E a l f v q => wpAny_pure (q _ _ (Ev.refl _ _ _) a rfl f v)
theorem PTs.cons {st : Stmt} {rest : List Stmt} {R R' : Rho → Prop} (h1 : PT prog w C A env W ρ st R) (h2 : ∀ ρ', R ρ' → PTs prog w C A env W ρ' rest R') : PTs prog w C A env W ρ (st :: rest) R' := fun s Q E a l f v q =>
  wpAny_execs_cons (h1 s _ _ a l f v fun ρ' s₁ ev₁ a₁ p₁ f₁ v₁ => h2 ρ' p₁ s₁ _ _ a₁ (l.ev ev₁) f₁ v₁ fun ρ'' s₂ ev₂ a₂ p₂ f₂ v₂ => q ρ'' s₂ (ev₁.trans ev₂) a₂ p₂ f₂ v₂)
theorem PTs.cons1 {st : Stmt} {rest : List Stmt} {ρ' : Rho} {R : Rho → Prop} (h1 : PT prog w C A env W ρ st (· = ρ')) (h2 : PTs prog w C A env W ρ' rest R) : PTs prog w C A env W ρ (st :: rest) R := PTs.cons h1 fun _ h => h ▸ h2
theorem PTs.mono {body : List Stmt} {R R' : Rho → Prop} (h : PTs prog w C A env W ρ body R) (k : ∀ b, R b → R' b) : PTs prog w C A env W ρ body R' := fun s Q E a l f v q => h s Q E a l f v fun u s' h1 h2 h3 h4 h5 => q u s' h1 h2 (k _ h3) h4 h5
end
end Mine
end

section
open PySem PySem.W PySem.Calls PyProof.Rows
set_option Elab.async false
set_option linter.unusedVariables false
namespace Mine

/-- what the ghost holds: the program's own objects and the main names -/
structure Gl (K : Frag) (p : Program) (loose : List Str) (mg mb : Str → Option Value) (G : Heap) : Prop where
  K : K.In G
  T : TopRead p loose mg mb G
  bm : ∃ bm ob, mg "__builtins__" = some (.ref bm) ∧ bm ≠ builtinsNs ∧ G.get? bm = some ob ∧ ob.cls = .type "module" ∧ ob.dict = some builtinsNs ∧ ob.data = .plain

def AOk (n : Nat) (A : Around) : Prop := A.handled = none ∧ A.depth + n ≤ recursionLimit ∧ A.units + 4 * n + 100 ≤ cLine
theorem AOk.deeper {n : Nat} {A : Around} (h : AOk (n + 1) A) (env : Env) : AOk n (A.deeper env) := by
  obtain ⟨h1, h2, h3⟩ := h
  refine ⟨h1, ?_, ?_⟩
  · show A.depth + 1 + n ≤ _; omega
  · show A.units + 3 + 4 * n + 100 ≤ _; omega
theorem AOk.mono {n n' : Nat} {A : Around} (h : AOk n A) (hn : n' ≤ n) : AOk n' A := ⟨h.1, by have := h.2.1; omega, by have := h.2.2; omega⟩
theorem AOk.u {n : Nat} {A : Around} (h : AOk n A) : A.units + 64 < cLine := by have := h.2.2; omega

/-- the call of f on things of bs gives something of P -/
def COk (prog : Program) (w : World) (C : Cx) (A : Around) (f : Value) (bs : List Bd) (P : Bd → Prop) : Prop :=
  ∀ (s : Shared) (vs : List Value) (Q E : Value → Shared → Prop), C.Am s → Live C.H s → Fs C s → All2 (fun v b => b.holds C.H s v) vs bs → Kt C P s Q → wpAny (model prog w) A (call f vs) Q E s

section
variable {prog : Program} {w : World} {C : Cx} {A : Around} {env : Env} {ρ : Rho} {e : Expr} {P : Bd → Prop} {pos : Pos} {K : Frag} {p : Program} {loose : List Str} {mg mb : Str → Option Value}

theorem PE.glob {x : Str} {v : Value} (gl : Gl K p loose mg mb C.G) (h : nsIn K mainGlobals x = some (some v)) (hg : env.globals = mainGlobals := by rfl) (hk : env.scope.kind = .function := by rfl) (hx : env.kindOf x = some .globalImplicit := by rfl)
    (hd : (x == ("__debug__" : Str)) = false := by decide) : PE prog w C A env ρ (.Name x pos) (· = .r v) := fun s Q E a _ _ q =>
  Name_function_global hk hx (loadGlobal_global (hg ▸ gl.T.g.keeps a.g) (mg_of gl.K gl.T.g h) (q _ _ _ (Ev.refl _ _ _) a rfl rfl)) hd
theorem PE.globI {x : Str} {i : Int} {t : Tok} (gl : Gl K p loose mg mb C.G) (h : nsIn K mainGlobals x = some (some (.int i t))) (hg : env.globals = mainGlobals := by rfl) (hk : env.scope.kind = .function := by rfl) (hx : env.kindOf x = some .globalImplicit := by rfl)
    (hd : (x == ("__debug__" : Str)) = false := by decide) : PE prog w C A env ρ (.Name x pos) (· = BI i) := fun s Q E a l v q =>
  PE.glob gl h hg hk hx hd s Q E a l v fun u b s' ev a' p r => by subst p; cases r; exact q _ _ _ ev a' rfl ⟨_, .int _ _⟩
theorem PE.globS {x : Str} {i : Str} {t : Tok} (gl : Gl K p loose mg mb C.G) (h : nsIn K mainGlobals x = some (some (.str i t))) (hg : env.globals = mainGlobals := by rfl) (hk : env.scope.kind = .function := by rfl) (hx : env.kindOf x = some .globalImplicit := by rfl)
    (hd : (x == ("__debug__" : Str)) = false := by decide) : PE prog w C A env ρ (.Name x pos) (· = BS i) := fun s Q E a l v q =>
  PE.glob gl h hg hk hx hd s Q E a l v fun u b s' ev a' p r => by subst p; cases r; exact q _ _ _ ev a' rfl ⟨_, .str _ _⟩
theorem PE.globL {x : Str} {a : Addr} {ds : List PyData} (ok : C.Ok) (gl : Gl K p loose mg mb C.G) (h : nsIn K mainGlobals x = some (some (.ref a))) (hr : ∃ as, Reads C.G (.ref a) (.list ds) as) (hg : env.globals = mainGlobals := by rfl) (hk : env.scope.kind = .function := by rfl) (hx : env.kindOf x = some .globalImplicit := by rfl)
    (hd : (x == ("__debug__" : Str)) = false := by decide) : PE prog w C A env ρ (.Name x pos) (· = BL ds) := fun s Q E a l v q =>
  PE.glob gl h hg hk hx hd s Q E a l v fun u b s' ev a' p r => by
    subst p; cases r
    obtain ⟨as, hr⟩ := hr
    exact q _ _ _ ev a' rfl ⟨as, Reads.keeps (fun b o e => hideAll_get _ (a'.g b o e) fun hm => by rw [ok.HG b hm] at e; cases e) hr⟩
theorem PE.builtin {x : Str} {v : Value} (gl : Gl K p loose mg mb C.G) (h : nsIn K mainGlobals x = some none) (hv : bootBuiltins x = some v) (hn : x ≠ "__name__" := by decide) (hg : env.globals = mainGlobals := by rfl) (hb : env.builtins = builtinsNs := by rfl) (hk : env.scope.kind = .function := by rfl) (hx : env.kindOf x = some .globalImplicit := by rfl)
    (hd : (x == ("__debug__" : Str)) = false := by decide) : PE prog w C A env ρ (.Name x pos) (· = .r v) := fun s Q E a _ _ q =>
  Name_function_global hk hx (loadGlobal_builtin (hg ▸ gl.T.g.keeps a.g) (mg_none_of gl.K gl.T.g h) (hb ▸ gl.T.b.keeps a.g) ((gl.T.builtins x hn).trans hv) (q _ _ _ (Ev.refl _ _ _) a rfl rfl)) hd

/-- name(args), of a builtin -/
theorem PE.callB {x : Str} {px : Pos} {id : String} {es : List Expr} {PL : List Bd → Prop} (ok : C.Ok) (hf : PE prog w C A env ρ (.Name x px) (· = .r (.builtin id))) (ha : PEL prog w C A env ρ es PL) (h : ∀ bs, PL bs → COk prog w C A (.builtin id) bs P)
    (hsh : ∃ y r, backTo pos (starEach es env) = (false, y) :: r := by exact ⟨_, _, rfl⟩) (hpl : (backTo pos (starEach es env)).any (·.1) = false := by rfl) : PE prog w C A env ρ (.Call (.Name x px) es [] pos) P := fun s Q E a l v q => by
  refine wpAny_Call_NameR (hf s _ _ a l v fun u b s₁ ev₁ a₁ p₁ r₁ => ?_)
  subst p₁; cases r₁
  obtain ⟨y, r, hsh⟩ := hsh
  refine callWith_builtin hpl ?_
  rw [hsh]
  refine evalArgs_plain ?_
  rw [← hsh]
  refine ha pos s₁ _ _ a₁ (l.ev ev₁) (v.ev ok ev₁) fun vs bs s₂ ev₂ a₂ p₂ r₂ => ?_
  exact h bs p₂ s₂ vs _ _ a₂ ((l.ev ev₁).ev ev₂) (((v.ev ok ev₁).ev ok ev₂).fs) r₂ fun u b s' ev a' p r => q u b s' ((ev₁.trans ev₂).trans ev) a' p r
/-- name(args), of a def -/
theorem PE.callR {x : Str} {px : Pos} {f : Addr} {es : List Expr} {PL : List Bd → Prop} (ok : C.Ok) (hf : PE prog w C A env ρ (.Name x px) (· = .r (.ref f))) {o : Obj} {fd : FuncData} (hfd : ∀ s, C.Am s → s.heap.get? f = some o) (hd : o.data = .func fd) (ha : PEL prog w C A env ρ es PL) (h : ∀ bs, PL bs → COk prog w C A (.ref f) bs P)
    (hsh : ∃ y r, backTo pos (starEach es env) = (false, y) :: r := by exact ⟨_, _, rfl⟩) : PE prog w C A env ρ (.Call (.Name x px) es [] pos) P := fun s Q E a l v q => by
  refine wpAny_Call_NameR (hf s _ _ a l v fun u b s₁ ev₁ a₁ p₁ r₁ => ?_)
  subst p₁; cases r₁
  obtain ⟨y, r, hsh⟩ := hsh
  refine callWith_function (o := o) (fd := fd) ?_
  rw [hsh]
  refine evalArgs_plain ?_
  rw [← hsh]
  refine ha pos s₁ _ _ a₁ (l.ev ev₁) (v.ev ok ev₁) fun vs bs s₂ ev₂ a₂ p₂ r₂ => ?_
  exact ⟨⟨hfd s₂ a₂, hd⟩, h bs p₂ s₂ vs _ _ a₂ ((l.ev ev₁).ev ev₂) (((v.ev ok ev₁).ev ok ev₂).fs) r₂ fun u b s' ev a' p r => q u b s' ((ev₁.trans ev₂).trans ev) a' p r⟩
theorem PE.callF {x : Str} {px : Pos} {f : Addr} {es : List Expr} {PL : List Bd → Prop} {o : Obj} {fd : FuncData} (ok : C.Ok) (gl : Gl K p loose mg mb C.G) (hn : nsIn K mainGlobals x = some (some (.ref f))) (ho : K.lookup f = some o) (hfn : o.data = .func fd) (ha : PEL prog w C A env ρ es PL) (h : ∀ bs, PL bs → COk prog w C A (.ref f) bs P)
    (hg : env.globals = mainGlobals := by rfl) (hk : env.scope.kind = .function := by rfl) (hx : env.kindOf x = some .globalImplicit := by rfl)
    (hd : (x == ("__debug__" : Str)) = false := by decide)
    (hsh : ∃ y r, backTo pos (starEach es env) = (false, y) :: r := by exact ⟨_, _, rfl⟩) : PE prog w C A env ρ (.Call (.Name x px) es [] pos) P :=
  PE.callR ok (PE.glob gl hn hg hk hx hd) (fun s a => a.g _ _ (gl.K _ _ ho)) hfn ha h hsh
end

/-- the context inside a def whose own places are W -/
def Cx.inner (C : Cx) (W : List Addr) : Cx := { C with H := W ++ C.H }
theorem Cx.Am.inn {C : Cx} {W : List Addr} {s : Shared} (a : C.Am s) : (C.inner W).Am s := ⟨a.g, a.tb, a.live, a.x⟩
theorem Cx.Am.out {C : Cx} {W : List Addr} {s : Shared} (a : (C.inner W).Am s) : C.Am s := ⟨a.g, a.tb, a.live, a.x⟩

theorem bindL_get {kf : Str → Option NameKind} {y : Str} {v : Value} (hk : kf y = some .local) : ∀ {binds : List (Str × Value)} {m : Str → Option Value}, (binds.map (·.1)).Nodup → (y, v) ∈ binds ∨ (y ∉ binds.map (·.1) ∧ m y = some v) → bindL kf binds m y = some v
  | [], m, _, h => by
    rcases h with h | h
    · cases h
    · exact h.2
  | (n, u) :: r, m, hn, h => by
    have hn' := List.nodup_cons.mp hn
    unfold bindL
    refine bindL_get hk hn'.2 ?_
    rcases h with h | ⟨h1, h2⟩
    · rcases List.mem_cons.mp h with e | h
      · cases e
        refine .inr ⟨hn'.1, ?_⟩
        rw [if_pos hk]; simp
      · exact .inl h
    · refine .inr ⟨fun q => h1 (List.mem_cons_of_mem _ q), ?_⟩
      split
      · show (if y = n then some u else m y) = some v
        rw [if_neg (fun q => h1 (by rw [q]; exact List.mem_cons_self))]; exact h2
      · exact h2
theorem bindC_get {kf : Str → Option NameKind} {y : Str} {v : Value} (hk : kf y ≠ some .local) : ∀ {binds : List (Str × Value)} {m : Str → Option Value}, (binds.map (·.1)).Nodup → (y, v) ∈ binds ∨ (y ∉ binds.map (·.1) ∧ m y = some v) → bindC kf binds m y = some v
  | [], m, _, h => by
    rcases h with h | h
    · cases h
    · exact h.2
  | (n, u) :: r, m, hn, h => by
    have hn' := List.nodup_cons.mp hn
    unfold bindC
    refine bindC_get hk hn'.2 ?_
    rcases h with h | ⟨h1, h2⟩
    · rcases List.mem_cons.mp h with e | h
      · cases e
        refine .inr ⟨hn'.1, ?_⟩
        rw [if_neg hk]; simp
      · exact .inl h
    · refine .inr ⟨fun q => h1 (List.mem_cons_of_mem _ q), ?_⟩
      split
      · exact h2
      · show (if y = n then some u else m y) = some v
        rw [if_neg (fun q => h1 (by rw [q]; exact List.mem_cons_self))]; exact h2

theorem cellsFrom_lt : ∀ (names : List (Str × NameKind)) (n : Nat) (acc : List (Str × Addr)) (q : Str × Addr), q ∈ cellsFrom n names acc → q ∈ acc ∨ n ≤ q.2
  | [], _, _, _, h => .inl h
  | (x, k) :: r, n, acc, q, h => by
    unfold cellsFrom at h
    split at h
    · rcases cellsFrom_lt r _ _ _ h with h | h
      · rcases List.mem_cons.mp h with e | h
        · cases e; exact .inr (Nat.le_refl _)
        · exact .inl h
      · exact .inr (Nat.le_of_succ_le h)
    · exact cellsFrom_lt r _ _ _ h

theorem cellsFrom_names : ∀ (names : List (Str × NameKind)) (n : Nat) (acc : List (Str × Addr)) (q : Str × Addr), q ∈ cellsFrom n names acc → q ∈ acc ∨ q.1 ∈ names.map (·.1)
  | [], _, _, _, h => .inl h
  | (x, k) :: r, n, acc, q, h => by
    unfold cellsFrom at h
    split at h
    · rcases cellsFrom_names r _ _ _ h with h | h
      · rcases List.mem_cons.mp h with e | h
        · cases e; exact .inr List.mem_cons_self
        · exact .inl h
      · exact .inr (List.mem_cons_of_mem _ h)
    · rcases cellsFrom_names r _ _ _ h with h | h
      · exact .inl h
      · exact .inr (List.mem_cons_of_mem _ h)

/-- the own places of a def's frame -/
abbrev ownW (L : Addr) (scope : Scope) : List Addr := L :: (scope.names.map (·.1)).filterMap fun x => (cellsFrom (L + 1) scope.names []).lookup x
theorem ownW_cell {L : Addr} {scope : Scope} {n : Str} {c : Addr} (h : (cellsFrom (L + 1) scope.names []).lookup n = some c) : c ∈ ownW L scope := by
  refine List.mem_cons_of_mem _ (List.mem_filterMap.mpr ⟨n, ?_, h⟩)
  rcases cellsFrom_names _ _ _ _ (PySem.mem_of_lookup h) with q | q
  · cases q
  · exact q
theorem owned_ownW {env : Env} {L : Addr} {x : Str} (hk : env.kindOf x = some .cell) (h : ((cellsFrom (L + 1) env.scope.names []).lookup x).isSome = true) (he : env.cells = cellsFrom (L + 1) env.scope.names []) : Owned env (ownW L env.scope) x :=
  let ⟨c, hc⟩ := Option.isSome_iff_exists.mp h
  .inr ⟨hk, c, he ▸ hc, ownW_cell hc⟩
/-- the own places but for the cells of fz -/
abbrev ownBut (L : Addr) (scope : Scope) (fz : List Str) : List Addr := L :: ((scope.names.map (·.1)).filter fun x => !fz.contains x).filterMap fun x => (cellsFrom (L + 1) scope.names []).lookup x
theorem owned_but {env : Env} {L : Addr} {x : Str} {fz : List Str} (hk : env.kindOf x = some .cell) (h : ((cellsFrom (L + 1) env.scope.names []).lookup x).isSome = true) (he : env.cells = cellsFrom (L + 1) env.scope.names []) (hf : fz.contains x = false) : Owned env (ownBut L env.scope fz) x := by
  obtain ⟨c, hc⟩ := Option.isSome_iff_exists.mp h
  refine .inr ⟨hk, c, he ▸ hc, List.mem_cons_of_mem _ (List.mem_filterMap.mpr ⟨x, List.mem_filter.mpr ⟨?_, by rw [hf]; rfl⟩, hc⟩)⟩
  rcases cellsFrom_names _ _ _ _ (PySem.mem_of_lookup hc) with q | q
  · cases q
  · exact q
theorem ownBut_sub {L : Addr} {scope : Scope} {fz fz' : List Str} (h : ∀ x, fz'.contains x = false → fz.contains x = false) : ∀ b ∈ ownBut L scope fz', b ∈ ownBut L scope fz := fun b hb => by
  rcases List.mem_cons.mp hb with rfl | hb
  · exact .head _
  · obtain ⟨x, hx, hc⟩ := List.mem_filterMap.mp hb
    obtain ⟨h1, h2⟩ := List.mem_filter.mp hx
    exact List.mem_cons_of_mem _ (List.mem_filterMap.mpr ⟨x, List.mem_filter.mpr ⟨h1, by rw [h x (by simpa using h2)]; rfl⟩, hc⟩)
theorem ownBut_nil {L : Addr} {scope : Scope} : ownBut L scope [] = ownW L scope := by
  unfold ownBut ownW
  congr 2
  exact List.filter_eq_self.mpr fun _ _ => rfl
theorem ownW_ge {L : Addr} {scope : Scope} {b : Addr} (h : b ∈ ownW L scope) : L ≤ b := by
  rcases List.mem_cons.mp h with e | h
  · exact Nat.le_of_eq e.symm
  · obtain ⟨q, _, hq⟩ := List.mem_filterMap.mp h
    rcases cellsFrom_lt _ _ _ _ (PySem.mem_of_lookup hq) with h | h
    · cases h
    · exact Nat.le_of_succ_le h

theorem Cx.Ok.inner {C : Cx} (ok : C.Ok) {W : List Addr} (hW : ∀ b ∈ W, C.G.get? b = none) : (C.inner W).Ok where
  TH := fun t ht => List.mem_append_right _ (ok.TH t ht)
  FH := fun t ht => List.mem_append_right _ (ok.FH t ht)
  FT := ok.FT
  tT := ok.tT
  HG := fun t ht => (List.mem_append.mp ht).elim (hW t) (ok.HG t)
  GB := ok.GB
  tB := ok.tB
  stab := ok.stab

section
variable {prog : Program} {w : World} {C : Cx} {A : Around} {P : Bd → Prop} {K : Frag} {p : Program} {loose : List Str} {mg mb : Str → Option Value}

theorem all2_zip {C : Cx} {s : Shared} : ∀ {vs : List Value} {bs : List Bd} {ps : List Str}, All2 (fun v b => b.holds C.H s v) vs bs → ∀ y b, (ps.zip bs).lookup y = some b → ∃ v, (y, v) ∈ ps.zip vs ∧ b.holds C.H s v
  | _, _, [], _, y, b, h => by simp at h
  | _, _, _ :: _, .nil, y, b, h => by simp at h
  | v :: vs, b' :: bs, q :: ps, .cons r t, y, b, h => by
    rw [List.zip_cons_cons, List.lookup_cons] at h
    cases hq : y == q with
    | true =>
      rw [hq] at h; cases h
      rw [eq_of_beq hq]
      exact ⟨v, List.mem_cons_self, r⟩
    | false =>
      rw [hq] at h
      obtain ⟨u, h1, h2⟩ := all2_zip t y b h
      exact ⟨u, List.mem_cons_of_mem _ h1, h2⟩
theorem zip_fst_sub {α β : Type} : ∀ (as : List α) (bs : List β), ((as.zip bs).map (·.1)).Sublist as
  | [], _ => by simp
  | _ :: _, [] => by simp
  | a :: as, b :: bs => by simpa using zip_fst_sub as bs

/-- the call of a def of the program: what is left is its body -/
theorem enter_core {f : Addr} {oc : Value} {od an : Option Addr} {osl : Array (Option Value)} {name qual : Str} {params : Arguments} {body : List Stmt} {scope : Scope} {dV kV doc pm cdv ct : Value} {bs : List Bd} {ps : List Str} (n : Nat)
    (ok : C.Ok) (gl : Gl K p loose mg mb C.G) (hA : AOk (n + 1) A)
    (ho : K.lookup f = some ⟨oc, od, .func (fnOf name qual params body scope dV kV doc pm an cdv ct), osl⟩) (hcd : codeIn K cdv qual = true)
    (hbind : ∀ (s : Shared) (vs : List Value), C.Am s → vs.length = bs.length → BindsTo s (fnOf name qual params body scope dV kV doc pm an cdv ct) ⟨vs, []⟩ (ps.zip vs)) (hps : ps.Nodup)
    (hkind : ∀ x ∈ ps, scope.names.lookup x = some .local ∨ (scope.names.lookup x = some .cell ∧ ∀ L, ((cellsFrom (L + 1) scope.names []).lookup x).isSome = true))
    (hco : scope.isCoroutine = false) (hgen : scope.isGenerator = false) (hk : scope.kind = .function)
    {s : Shared} {vs : List Value} {Q E : Value → Shared → Prop} (a : C.Am s) (l : Live C.H s) (fs : Fs C s) (hv : All2 (fun v b => b.holds C.H s v) vs bs)
    (h : ∀ L s₁, (C.inner (ownW L scope)).Ok → Wok (C.inner (ownW L scope)) (envX qual scope L f cdv (cellsFrom (L + 1) scope.names [])) (ownW L scope) → AOk n (A.deeper (envX qual scope L f cdv (cellsFrom (L + 1) scope.names []))) →
      (C.inner (ownW L scope)).Am s₁ → Live (C.inner (ownW L scope)).H s₁ → Fm (envX qual scope L f cdv (cellsFrom (L + 1) scope.names [])) s₁ → Vw (C.inner (ownW L scope)) (envX qual scope L f cdv (cellsFrom (L + 1) scope.names [])) (ps.zip bs) s₁ →
      (∀ b o, s.heap.get? b = some o → s₁.heap.get? b = some o) → s₁.os = s.os → s₁.gens = s.gens → (∀ b ∈ ownW L scope, s.heap.get? b = none) →
      wpAny (model prog w) (A.deeper (envX qual scope L f cdv (cellsFrom (L + 1) scope.names []))) (execs body (envX qual scope L f cdv (cellsFrom (L + 1) scope.names [])))
        (fun fl s' => Q (match fl with | .ret v => v | _ => .none) s')
        (fun e s' => wpAny (model prog w) (A.deeper (envX qual scope L f cdv (cellsFrom (L + 1) scope.names []))) («leaving» (envX qual scope L f cdv (cellsFrom (L + 1) scope.names [])) e) (fun _ s'' => E e s'') (fun e' s'' => E e' s'') s') s₁) :
    wpAny (model prog w) A (call (.ref f) vs) Q E s := by
  refine wpAny_call ?_
  refine codeAny_call_function (fd := fnOf name qual params body scope dV kV doc pm an cdv ct) (body := body) (by have := hA.2.1; omega) (a.g _ _ (gl.K _ _ ho)) rfl hco hgen rfl
    (let ⟨c, o, vs, t, r1, r2, r3, r4⟩ := codeRec_of gl.K hcd; ⟨c, o, vs, t, r1, a.g _ _ r2, r3, r4⟩) (hbind s vs a hv.length _ _ _ _ ?_)
  refine wpAny_newFunctionEnv_cells hk ?_ ?_
  · intro x hx
    have hx' : x.1 ∈ ps := (List.of_mem_zip hx).1
    rcases hkind _ hx' with h | ⟨h1, h2⟩
    · exact .inl h
    · exact .inr ⟨h1, h2 _⟩
  intro env he s₁ ic
  subst he
  refine ⟨(gl.T.nolimit.keeps a.g).keeps ic.toInCall.keep, codeAny_func ?_⟩
  have hfresh : ∀ b, s.heap.objs.size ≤ b → s.heap.get? b = none := fun b hb => none_of_ge hb
  have hGn : ∀ b ∈ ownW s.heap.objs.size scope, s.heap.get? b = none := fun b hb => hfresh b (ownW_ge hb)
  obtain ⟨h₁, tk, rfl, kk⟩ := ic.done
  have a₁ : C.Am { s with heap := h₁, toks := tk } := a.keeps ok kk rfl rfl
  have hGW : ∀ b ∈ ownW s.heap.objs.size scope, C.G.get? b = none := fun b hb => by
    cases e : C.G.get? b with
    | none => rfl
    | some o => have := a.g _ _ e; rw [hGn b hb] at this; cases this
  have hnT : ∀ b ∈ ownW s.heap.objs.size scope, b ∉ C.H := fun b hb hm => by obtain ⟨o, e⟩ := l b hm; rw [hGn b hb] at e; cases e
  have hcells : ∀ n c, (cellsFrom (s.heap.objs.size + 1) scope.names []).lookup n = some c → c ∈ ownW s.heap.objs.size scope := fun n c hc => ownW_cell hc
  have ok' : (C.inner (ownW s.heap.objs.size scope)).Ok := ok.inner hGW
  have wok : Wok (C.inner (ownW s.heap.objs.size scope)) (envX qual scope s.heap.objs.size f cdv (cellsFrom (s.heap.objs.size + 1) scope.names [])) (ownW s.heap.objs.size scope) :=
    ⟨List.mem_cons_self, fun n c hc q => hnT _ (hcells n c hc) (ok.TH _ q), fun b hb => List.mem_append_left _ hb, fun b hb q => hnT b hb (ok.TH b q), fun n c hc q => hnT _ (hcells n c hc) (ok.FH _ q),
      fun n n' c h1 h2 => name_of_addr ic.apart (PySem.mem_of_lookup h1) (PySem.mem_of_lookup h2), fun b hb => a.fresh (hGn b hb)⟩
  have kH : ∀ b o, s.heap.get? b = some o → b ∉ C.H → h₁.get? b = some o ∧ b ∉ (C.inner (ownW s.heap.objs.size scope)).H := fun b o e n => ⟨kk b o e, fun q => (List.mem_append.mp q).elim (fun q => by rw [hGn b q] at e; cases e) n⟩
  refine h s.heap.objs.size { s with heap := h₁, toks := tk } ok' wok (hA.deeper _) a₁.inn ?_ ?_ ?_ kk rfl rfl hGn
  · intro t ht
    rcases List.mem_append.mp ht with ht | ht
    · rcases List.mem_cons.mp ht with e | ht
      · obtain ⟨o, _, _, e', _⟩ := ic.toInCall.ns
        rw [e]; exact ⟨o, e'⟩
      · obtain ⟨q, _, hq⟩ := List.mem_filterMap.mp ht
        obtain ⟨o, e, _⟩ := ic.cell q t hq
        exact ⟨o, e⟩
    · obtain ⟨o, e⟩ := l t ht
      exact ⟨o, kk t o e⟩
  · exact ⟨⟨_, ic.toInCall.ns⟩, fun n c hc => ⟨_, ic.cell n c hc⟩⟩
  · refine ⟨?_, fun b hb => let ⟨m, h⟩ := fs b hb; ⟨m, h.keeps kk⟩⟩
    intro y b hy
    obtain ⟨v, hm, hb⟩ := all2_zip hv y b hy
    refine ⟨v, hb.mono kH, ?_⟩
    have hnd : ((ps.zip vs).map (·.1)).Nodup := (zip_fst_sub ps vs).nodup hps
    rcases hkind y (List.of_mem_zip hm).1 with hkl | ⟨hkc, hks⟩
    · exact .inl ⟨hkl, fun q => hnT _ List.mem_cons_self (ok.TH _ q), _, ic.toInCall.ns, bindL_get hkl hnd (.inl hm)⟩
    · obtain ⟨c, hc⟩ := Option.isSome_iff_exists.mp (hks s.heap.objs.size)
      refine .inr ⟨c, ?_, fun q => hnT _ (hcells y c hc) ((List.mem_append.mp q).elim (ok.TH _) (ok.FH _)), ?_⟩
      · unfold cellK
        rw [if_pos (.inl hkc)]
        exact hc
      · have := ic.cell y c hc
        rwa [bindC_get (v := v) (by show scope.names.lookup y ≠ _; rw [hkc]; decide) hnd (.inl hm)] at this

theorem COk.enterB {f : Addr} {oc : Value} {od an : Option Addr} {osl : Array (Option Value)} {name qual : Str} {params : Arguments} {body : List Stmt} {scope : Scope} {dV kV doc pm cdv ct : Value} {bs : List Bd} {ps : List Str} (n : Nat)
    (ok : C.Ok) (gl : Gl K p loose mg mb C.G) (hA : AOk (n + 1) A)
    (ho : K.lookup f = some ⟨oc, od, .func (fnOf name qual params body scope dV kV doc pm an cdv ct), osl⟩) (hcd : codeIn K cdv qual = true)
    (hbind : ∀ (s : Shared) (vs : List Value), C.Am s → vs.length = bs.length → BindsTo s (fnOf name qual params body scope dV kV doc pm an cdv ct) ⟨vs, []⟩ (ps.zip vs)) (hps : ps.Nodup)
    (hkind : ∀ x ∈ ps, scope.names.lookup x = some .local ∨ (scope.names.lookup x = some .cell ∧ ∀ L, ((cellsFrom (L + 1) scope.names []).lookup x).isSome = true))
    (hco : scope.isCoroutine = false) (hgen : scope.isGenerator = false) (hk : scope.kind = .function)
    (h : ∀ L, (C.inner (ownW L scope)).Ok → Wok (C.inner (ownW L scope)) (envX qual scope L f cdv (cellsFrom (L + 1) scope.names [])) (ownW L scope) → AOk n (A.deeper (envX qual scope L f cdv (cellsFrom (L + 1) scope.names []))) →
      PB prog w (C.inner (ownW L scope)) (A.deeper (envX qual scope L f cdv (cellsFrom (L + 1) scope.names []))) (envX qual scope L f cdv (cellsFrom (L + 1) scope.names [])) (ownW L scope) (ps.zip bs) body P) :
    COk prog w C A (.ref f) bs P := fun s vs Q E a l fs hv q =>
  enter_core n ok gl hA ho hcd hbind hps hkind hco hgen hk a l fs hv fun L s₁ ok' wok hA' a₁ l₁ f₁ v₁ kk hos hg hfr =>
    h L ok' wok hA' s₁ _ _ a₁ l₁ f₁ v₁ fun v b s' ev a' p r => by
      have hev : Ev C.T C.F s s' := ((Ev.of_keeps (T := ownW L scope ++ C.T) (F := C.F) kk hos hg).trans ev).drop (fun t ht => (List.mem_append.mp ht).elim (fun h => .inr (hfr t h)) .inl) fun t ht => .inl ht
      exact q v b s' hev a'.out p (r.mono fun b o e n => ⟨e, fun q => n (List.mem_append_right _ q)⟩)

theorem COk.enter {f : Addr} {oc : Value} {od an : Option Addr} {osl : Array (Option Value)} {name qual : Str} {params : Arguments} {body : List Stmt} {scope : Scope} {dV kV doc pm cdv ct : Value} {bs : List Bd} {ps : List Str} (n : Nat)
    (ok : C.Ok) (gl : Gl K p loose mg mb C.G) (hA : AOk (n + 1) A)
    (ho : K.lookup f = some ⟨oc, od, .func (fnOf name qual params body scope dV kV doc pm an cdv ct), osl⟩) (hcd : codeIn K cdv qual = true)
    (hbind : ∀ vs : List Value, vs.length = bs.length → bindArgs (fnOf name qual params body scope dV kV doc pm an cdv ct) ⟨vs, []⟩ = pure (ps.zip vs)) (hps : ps.Nodup)
    (hkind : ∀ x ∈ ps, scope.names.lookup x = some .local ∨ (scope.names.lookup x = some .cell ∧ ∀ L, ((cellsFrom (L + 1) scope.names []).lookup x).isSome = true))
    (hco : scope.isCoroutine = false) (hgen : scope.isGenerator = false) (hk : scope.kind = .function)
    (h : ∀ L, (C.inner (ownW L scope)).Ok → Wok (C.inner (ownW L scope)) (envX qual scope L f cdv (cellsFrom (L + 1) scope.names [])) (ownW L scope) → AOk n (A.deeper (envX qual scope L f cdv (cellsFrom (L + 1) scope.names []))) →
      PB prog w (C.inner (ownW L scope)) (A.deeper (envX qual scope L f cdv (cellsFrom (L + 1) scope.names []))) (envX qual scope L f cdv (cellsFrom (L + 1) scope.names [])) (ownW L scope) (ps.zip bs) body P) :
    COk prog w C A (.ref f) bs P := COk.enterB n ok gl hA ho hcd (fun s vs _ hl => BindsTo.of_eq (hbind vs hl)) hps hkind hco hgen hk h
end
end Mine
end

section
open PySem PySem.W PySem.Calls PyProof.Rows
set_option Elab.async false
set_option linter.unusedVariables false
namespace Mine

/-- walking v yields the data ds -/
def SrcD (prog : Program) (w : World) (C : Cx) (A : Around) (ds : List PyData) (s : Shared) (v : Value) : Prop :=
  ∃ D0 Pp, Src prog w A D0 v ds.length Pp s ∧ (∀ b ∈ D0, b ∉ C.H) ∧ ∀ i u, i < ds.length → Pp i u → ∃ d, ds[i]? = some d ∧ Rep C.H s u d
/-- the expression gives something to be walked -/
def PI (prog : Program) (w : World) (C : Cx) (A : Around) (env : Env) (ρ : Rho) (e : Expr) (ds : List PyData) : Prop :=
  ∀ (s : Shared) (Q E : Value → Shared → Prop), C.Am s → Live C.H s → Vw C env ρ s →
    (∀ v s', Ev C.T C.F s s' → C.Am s' → SrcD prog w C A ds s' v → Q v s') → wpAny (model prog w) A (eval e env) Q E s

def signsD (x : Str) : List PyData := x.cps.toList.map fun c => .str ⟨#[c]⟩
def rangeD (n : Nat) : List PyData := (List.range n).map fun (i : Nat) => .int i

section
variable {prog : Program} {w : World} {C : Cx} {A : Around} {env : Env} {ρ : Rho} {e : Expr} {P : Bd → Prop} {pos : Pos} {K : Frag} {p : Program} {loose : List Str} {mg mb : Str → Option Value}

theorem PI.list {ds : List PyData} (h : PE prog w C A env ρ e (· = BL ds)) : PI prog w C A env ρ e ds := fun s Q E a l v q =>
  h s Q E a l v fun u b s' ev a' p r => by
    subst p
    obtain ⟨c, items, rfl, hl, hc, hal⟩ := Rep.list_inv r
    refine q _ s' ev a' ⟨[c], fun i v => items[i]? = some v, ?_, fun b hb => by rw [List.mem_singleton.mp hb]; exact hc, fun i u hi hu => ?_⟩
    · have := Src.list (prog := prog) (w := w) (A := A) hl
      rwa [show items.size = ds.length from by simpa using hal.length] at this
    · exact hal.get i u (by simpa using hu)
theorem PI.str {x : Str} (h : PE prog w C A env ρ e (· = BS x)) : PI prog w C A env ρ e (signsD x) := fun s Q E a l v q =>
  h s Q E a l v fun u b s' ev a' p r => by
    subst p
    obtain ⟨t, rfl⟩ := Rep.str_inv r
    refine q _ s' ev a' ⟨[], SignAt x, ?_, fun b hb => (nomatch hb), fun i u hi hu => ?_⟩
    · have := Src.str (prog := prog) (w := w) (A := A) (s := s') (x := x) (t := t)
      rwa [show x.cps.size = (signsD x).length from by simp [signsD]] at this
    · obtain ⟨c, u', hc, rfl⟩ := hu
      exact ⟨.str ⟨#[c]⟩, by simp [signsD, hc], ⟨_, .str _ _⟩⟩
theorem PI.range {n : Nat} {px : Pos} (ok : C.Ok) (gl : Gl K p loose mg mb C.G) (hn : nsIn K mainGlobals "range" = some none) (hz : n ≤ 2 ^ 60) (h : PE prog w C A env ρ e (· = BI n))
    (hg : env.globals = mainGlobals := by rfl) (hb : env.builtins = builtinsNs := by rfl) (hk : env.scope.kind = .function := by rfl) (hx : env.kindOf "range" = some .globalImplicit := by rfl)
    (hse : backTo pos (starEach [e] env) = [(false, eval e env)] := by rfl) : PI prog w C A env ρ (.Call (.Name "range" px) [e] [] pos) (rangeD n) := fun s Q E a l v q => by
  refine wpAny_Call_NameR (PE.builtin (ρ := ρ) gl hn (v := .type "range") (by rfl) (by decide) hg hb hk hx (by decide) s _ _ a l v fun u b s₁ ev₁ a₁ p₁ r₁ => ?_)
  subst p₁; cases r₁
  rw [hse]
  refine PySem.callWith_type rfl (Calls.evalArgs_plain (Calls.spliced_cons (h s₁ _ _ a₁ (l.ev ev₁) (v.ev ok ev₁) fun v₂ b₂ s₂ ev₂ a₂ p₂ r₂ => Calls.spliced_nil ?_)))
  subst p₂
  obtain ⟨t, rfl⟩ := Rep.int_inv r₂
  refine call_range_1 ?_
  have k : ∀ {ob : Obj} b o, s₂.heap.get? b = some o → (s₂.heap.push ob).get? b = some o := fun b o e => Heap.get?_push_of_some _ e
  refine q _ _ ((ev₁.trans ev₂).trans (Ev.heap k)) (a₂.keeps ok k rfl rfl) ⟨[], fun i v => ∃ t, v = .int (0 + i * 1) t, ⟨fun b hb => (nomatch hb), fun Q E hq => ?_⟩, fun b hb => (nomatch hb), fun i u hi hu => ?_⟩
  · refine wpAny_pyIter_range (IsRange.new ..) (small_one (by decide) (by decide) (by omega) (by omega)) ?_
    have hsz : Builtin.Range.rangeSize 0 (n : Int) 1 = (n : Int) := by rw [rangeSize_one]; split <;> omega
    have hlen : (rangeD n).length = n := by simp [rangeD]
    rw [hlen] at hq
    refine hq _ [_] (fun i h => IsRangeIter h _ (0 + (i : Nat) * 1) ((n : Int) - (i : Nat)) 1) _ (fun A' hA => Walks.range hA _ 0 1 n) (fun i h st => ⟨_, st⟩) (List.mem_singleton.mpr rfl) ?_ (fun b hb => .inl (List.mem_singleton.mp hb)) (by simp [Heap.size_push]) (none_of_ge (Nat.le_refl _)) fun b o e => Heap.get?_push_of_some _ e
    have e1 : (0 + ((0 : Nat) : Int) * 1) = 0 := by simp
    have e2 : ((n : Int) - ((0 : Nat) : Int)) = Builtin.Range.rangeSize 0 (n : Int) 1 := by rw [hsz]; simp
    rw [e1, e2]
    exact Heap.get?_push_size _ rfl
  · obtain ⟨t, rfl⟩ := hu
    refine ⟨.int i, ?_, ⟨_, by simpa using Reads.int _ _⟩⟩
    have : i < n := by simpa [rangeD] using hi
    simp [rangeD, this]
end

/-- the names ρ' of the outer names ρ that a comprehension sees -/
def Sub (env cenv : Env) (ρ ρ' : Rho) : Prop := ∀ y b, ρ'.lookup y = some b → ρ.lookup y = some b ∧ env.kindOf y ≠ some .local ∧ cellK cenv y = cellK env y
theorem Sub.nil {env cenv : Env} {ρ : Rho} : Sub env cenv ρ [] := fun y b h => by cases h
theorem Sub.cons {env cenv : Env} {ρ ρ' : Rho} {x : Str} {b : Bd} (h1 : ρ.lookup x = some b) (h2 : env.kindOf x = some .cell ∨ env.kindOf x = some .free) (h3 : cellK cenv x = cellK env x) (r : Sub env cenv ρ ρ') : Sub env cenv ρ ((x, b) :: ρ') := fun y b' h => by
  rw [List.lookup_cons] at h
  cases hy : y == x with
  | true => rw [hy] at h; cases h; rw [eq_of_beq hy]; exact ⟨h1, (fun q => by rcases h2 with h2 | h2 <;> rw [h2] at q <;> cases q), h3⟩
  | false => rw [hy] at h; exact r y b' h

section
variable {prog : Program} {w : World} {C : Cx} {A : Around} {env : Env} {ρ : Rho} {e : Expr} {P : Bd → Prop} {pos : Pos}

theorem all2_holds {C : Cx} {s s' : Shared} {H H' : List Addr} {ys : List Value} {es : List PyData} (h : All2 (Rep H s) ys es) (k : ∀ b o, s.heap.get? b = some o → b ∉ H → s'.heap.get? b = some o ∧ b ∉ H') : All2 (Rep H' s') ys es :=
  h.imp fun _ _ r => r.mono k

/-- what holds between the turns of a comprehension -/
def CJ (C : Cx) (Pe : Nat → PyData → Prop) (pv : Addr → Prop) (i : Nat) (ys : List Value) (s : Shared) : Prop :=
  C.Am s ∧ (∀ b, pv b → C.B.get? b = none) ∧ ∃ es : List PyData, es.length = i ∧ (∀ k d, es[k]? = some d → Pe k d) ∧ ∀ W : List Addr, (∀ b, b ∈ W ↔ pv b) → All2 (Rep (W ++ C.H) s) ys es
theorem CJ.stable {Pe : Nat → PyData → Prop} (ok : C.Ok) : Stable (CJ C Pe) := fun pv i ys s₁ s₂ ⟨a, hn, es, h1, h2, h3⟩ k g os => by
  refine ⟨a.stab ok (fun b o o₀ e₀ e => k b o (fun q => by rw [hn b q] at e₀; cases e₀) e) os g, hn, es, h1, h2, fun W hW => all2_holds (C := C) (h3 W hW) fun b o e n => ⟨k b o (fun q => n (List.mem_append_left _ ((hW b).mpr q))) e, n⟩⟩

theorem vw_comp {s s₁ : Shared} {x : Str} {d : PyData} {u : Value} {cenv : Env} {ρ' : Rho} {I D Cc : Addr} {m₁ : Str → Option Value} (ok : C.Ok) (vw : Vw C env ρ s) (ev : Ev C.T C.F s s₁) (hsub : Sub env cenv ρ ρ') (hcl : cenv.locals = Cc) (hCT : Cc ∉ C.T)
    (hx : cenv.kindOf x = some .local) (hfr : ∀ b, pvt I D Cc b → s.heap.get? b = none) (hu : Rep C.H s u d) (hn : s₁.heap.Ns Cc m₁) (hm : m₁ x = some u) : Vw (C.inner [I, D, Cc]) cenv ((x, .d d) :: ρ') s₁ := by
  have kk : ∀ b o, s.heap.get? b = some o → b ∉ C.H → s₁.heap.get? b = some o ∧ b ∉ (C.inner [I, D, Cc]).H := fun b o e n =>
    ⟨ev.keep b o e fun q => (List.mem_append.mp q).elim (fun q => n (ok.TH _ q)) fun q => n (ok.FH _ q), fun q => (List.mem_append.mp q).elim (fun q => by rw [hfr b (by simpa [pvt] using q)] at e; cases e) n⟩
  refine ⟨?_, vw.fs.ev ok ev⟩
  intro y b hy
  rw [List.lookup_cons] at hy
  cases hyx : y == x with
  | true =>
    rw [hyx] at hy
    cases hy
    rw [eq_of_beq hyx]
    exact ⟨u, Bd.holds.mono (b := .d d) hu kk, .inl ⟨hx, hcl ▸ hCT, m₁, hcl ▸ hn, hm⟩⟩
  | false =>
    rw [hyx] at hy
    obtain ⟨h1, h2, h3⟩ := hsub y b hy
    obtain ⟨v, hb, hl⟩ := vw.look y b h1
    refine ⟨v, hb.mono kk, ?_⟩
    rcases hl with ⟨h4, _⟩ | ⟨c, h4, h5, o, ho, hd⟩
    · exact absurd h4 h2
    · exact .inr ⟨c, h3.trans h4, h5, o, ev.keep _ _ ho h5, hd⟩

theorem comp_elt {elt : Expr} {x : Str} {s s₁ : Shared} {cenv : Env} {ρ' : Rho} {I D Cc : Addr} {m₁ : Str → Option Value} {Pe : Nat → PyData → Prop} {i : Nat} {ys : List Value} {d : PyData} {u : Value} {E' : Value → Shared → Prop} (ok : C.Ok) (a0 : C.Am s) (l0 : Live C.H s) (vw : Vw C env ρ s) (hsub : Sub env cenv ρ ρ') (hcl : cenv.locals = Cc)
    (hx : cenv.kindOf x = some .local) (hu : Rep C.H s u d)
    (helt : (C.inner [I, D, Cc]).Ok → PE prog w (C.inner [I, D, Cc]) A cenv ((x, .d d) :: ρ') elt (fun b => ∃ d', b = .d d' ∧ Pe i d'))
    (hj : CJ C Pe (pvt I D Cc) i ys s₁) (hn : s₁.heap.Ns Cc m₁) (hm : m₁ x = some u) (ev : Ev C.T C.F s s₁) (hal : ∀ b, pvt I D Cc b → ∃ o, s₁.heap.get? b = some o) (hfr : ∀ b, pvt I D Cc b → s.heap.get? b = none) :
    wpAny (model prog w) A (eval elt cenv) (fun y s₂ => Ev C.T C.F s₁ s₂ ∧ CJ C Pe (pvt I D Cc) (i + 1) (ys ++ [y]) s₂) E' s₁ := by
  have hnH : ∀ b, pvt I D Cc b → b ∉ C.H := fun b hb q => by obtain ⟨o, e⟩ := l0 b q; rw [hfr b hb] at e; cases e
  have hW : ∀ b, b ∈ [I, D, Cc] ↔ pvt I D Cc b := fun b => by simp [pvt]
  have ok' : (C.inner [I, D, Cc]).Ok := ok.inner fun b hb => by
    cases e : C.G.get? b with
    | none => rfl
    | some o => have := a0.g b o e; rw [hfr b ((hW b).mp hb)] at this; cases this
  obtain ⟨a₁, hB, es, hl, hp, hr⟩ := hj
  refine helt ok' s₁ _ _ a₁.inn ?_ (vw_comp ok vw ev hsub hcl (fun q => hnH Cc (.inr (.inr rfl)) (ok.TH _ q)) hx hfr hu hn hm) fun v b s₂ ev₂ a₂ p r => ?_
  · intro t ht
    rcases List.mem_append.mp ht with ht | ht
    · exact hal t ((hW t).mp ht)
    · exact l0.ev ev t ht
  · obtain ⟨d', rfl, pd⟩ := p
    refine ⟨ev₂, a₂.out, hB, es ++ [d'], by simp [hl], fun k d hk => ?_, fun W' hW' => ?_⟩
    · by_cases hkl : k < es.length
      · rw [List.getElem?_append_left hkl] at hk; exact hp k d hk
      · rw [List.getElem?_append_right (Nat.not_lt.mp hkl)] at hk
        have : k = es.length := by
          have : k - es.length < [d'].length := (List.getElem?_eq_some_iff.mp hk).1
          simp at this; omega
        subst this
        simp at hk
        subst hk
        exact hl ▸ pd
    · have hWW : ∀ b, b ∉ W' ++ C.H → b ∉ (C.inner [I, D, Cc]).H := fun b n q => n ((List.mem_append.mp q).elim (fun q => List.mem_append_left _ ((hW' b).mpr ((hW b).mp q))) fun q => List.mem_append_right _ q)
      have hWW' : ∀ b, b ∉ (C.inner [I, D, Cc]).H → b ∉ W' ++ C.H := fun b n q => n ((List.mem_append.mp q).elim (fun q => List.mem_append_left _ ((hW b).mpr ((hW' b).mp q))) fun q => List.mem_append_right _ q)
      refine (all2_holds (C := C) (hr W' hW') fun b o e n => ⟨ev₂.keep b o e fun q => (List.mem_append.mp q).elim (fun q => n (List.mem_append_right _ (ok.TH _ q))) fun q => n (List.mem_append_right _ (ok.FH _ q)), n⟩).snoc ?_
      exact Rep.mono r fun b o e n => ⟨e, hWW' b n⟩

/-- [elt for x in iter] -/
theorem PE.comp {elt iter : Expr} {x : Str} {px : Pos} {scope : Scope} {cl : List (Str × Addr)} {ds : List PyData} {ρ' : Rho} {Pe : Nat → PyData → Prop} (ok : C.Ok) (hh : A.handled = none) (hiter : PI prog w C A env ρ iter ds) (hz : ds.length ≤ sizeLine)
    (hclos : closureFor scope env = pure cl) (hcell : ∀ y ∈ scope.names, y.2 ≠ .cell) (hkind : scope.kind = .function) (hnames : ∀ x ∈ scope.names, x.2 = .local → scope.names.lookup x.1 = some .local) (hx : scope.names.lookup x = some .local)
    (hsub : ∀ Cc, Sub env (compEnvC scope cl Cc env) ρ ρ')
    (helt : ∀ I D Cc i d, (C.inner [I, D, Cc]).Ok → ds[i]? = some d → PE prog w (C.inner [I, D, Cc]) A (compEnvC scope cl Cc env) ((x, .d d) :: ρ') elt (fun b => ∃ d', b = .d d' ∧ Pe i d'))
    (hs : ∀ x, foldedSetIterable iter env x = pure x := by intro _; rfl) :
    PE prog w C A env ρ (.ListComp elt [⟨.Name x px, iter, [], 0⟩] scope pos) (fun b => ∃ es, b = BL es ∧ es.length = ds.length ∧ ∀ k d, es[k]? = some d → Pe k d) := fun s Q E a l v q => by
  refine ListComp_ev hh hclos hcell hkind hnames hx (hiter s _ _ a l v fun xv s₁ ev₁ a₁ src => ?_) hs
  obtain ⟨D0, Pp, src, hD0, hPp⟩ := src
  have l₁ := l.ev ev₁
  have v₁ := v.ev ok ev₁
  refine ⟨D0, C.T, C.F, ds.length, Pp, CJ C Pe, src, CJ.stable ok, hz, fun t ht => l₁ t ((List.mem_append.mp ht).elim (ok.TH t) (ok.FH t)), fun b hb q => hD0 b hb ((List.mem_append.mp q).elim (ok.TH b) (ok.FH b)), ?_, ?_, ?_⟩
  · exact fun pv hpv => ⟨a₁, fun b hb => a₁.fresh (hpv b hb), [], rfl, fun k d h => by simp at h, fun W _ => .nil⟩
  · rintro I D Cc i u ys s₂ m₁ E' hi hl hP hj hn hm ev hal hfr
    obtain ⟨d, hd, hr⟩ := hPp i u hi hP
    exact comp_elt ok a₁ l₁ v₁ (hsub Cc) rfl (lookup_relabel_local hx) hr (fun ok' => helt I D Cc i d ok' hd) hj hn hm ev hal hfr
  · rintro I D Cc s' ys hD hp hl ⟨a', hfr, es, h1, h2, h3⟩ ev
    refine q (.ref D) (BL es) s' (ev₁.trans ev) a' ⟨es, rfl, h1, h2⟩ ?_
    refine Rep.list_mk (let ⟨k, e⟩ := hp; ⟨_, e, rfl, _, rfl⟩) (fun q => by obtain ⟨o, e⟩ := l₁ D q; rw [hD] at e; cases e) ?_
    exact all2_holds (C := C) (h3 [I, D, Cc] fun b => by simp [pvt]) fun b o e n => ⟨e, fun q => n (List.mem_append_right _ q)⟩

theorem eq_map_of {ds es : List PyData} {f : PyData → PyData} (hl : es.length = ds.length) (h : ∀ (k : Nat) (d' : PyData), es[k]? = some d' → ∃ d, ds[k]? = some d ∧ d' = f d) : es = ds.map f := by
  refine List.ext_getElem? fun k => ?_
  rw [List.getElem?_map]
  cases e : es[k]? with
  | none =>
    have : ds[k]? = none := by rw [List.getElem?_eq_none_iff] at e ⊢; omega
    rw [this]; rfl
  | some d' =>
    obtain ⟨d, h1, h2⟩ := h k d' e
    rw [h1, h2]; rfl
theorem PE.compMap {elt iter : Expr} {x : Str} {px : Pos} {scope : Scope} {cl : List (Str × Addr)} {ds : List PyData} {ρ' : Rho} {f : PyData → PyData} (ok : C.Ok) (hh : A.handled = none) (hiter : PI prog w C A env ρ iter ds) (hz : ds.length ≤ sizeLine)
    (hclos : closureFor scope env = pure cl) (hcell : ∀ y ∈ scope.names, y.2 ≠ .cell) (hkind : scope.kind = .function) (hnames : ∀ x ∈ scope.names, x.2 = .local → scope.names.lookup x.1 = some .local) (hx : scope.names.lookup x = some .local)
    (hsub : ∀ Cc, Sub env (compEnvC scope cl Cc env) ρ ρ')
    (helt : ∀ (I D Cc : Addr) (i : Nat) (d : PyData), (C.inner [I, D, Cc]).Ok → ds[i]? = some d → PE prog w (C.inner [I, D, Cc]) A (compEnvC scope cl Cc env) ((x, .d d) :: ρ') elt (· = .d (f d)))
    (hs : ∀ x, foldedSetIterable iter env x = pure x := by intro _; rfl) :
    PE prog w C A env ρ (.ListComp elt [⟨.Name x px, iter, [], 0⟩] scope pos) (· = BL (ds.map f)) :=
  (PE.comp (Pe := fun k d' => ∃ d, ds[k]? = some d ∧ d' = f d) ok hh hiter hz hclos hcell hkind hnames hx hsub (fun I D Cc i d ok' hd => (helt I D Cc i d ok' hd).mono fun b h => ⟨f d, h, d, hd, rfl⟩) hs).mono
    fun b ⟨es, h1, h2, h3⟩ => by rw [h1, eq_map_of h2 h3]

/-- y = [elt for x in iter], the comprehension stored by its own road -/
theorem PT.assignComp {W : List Addr} {elt iter : Expr} {x y : Str} {px py spos : Pos} {scope : Scope} {cl : List (Str × Addr)} {ds : List PyData} {ρ' : Rho} {Pe : Nat → PyData → Prop} (ok : C.Ok) (kw : Wok C env W) (hh : A.handled = none) (hiter : PI prog w C A env ρ iter ds) (hz : ds.length ≤ sizeLine)
    (hsw : swapsWith (.ListComp elt [⟨.Name x px, iter, [], 0⟩] scope pos) (some (.Name y py)) spos.line env = pure true) (hy : env.kindOf y = some .local) (hk : env.scope.kind = .function)
    (hclos : closureFor scope env = pure cl) (hcell : ∀ y ∈ scope.names, y.2 ≠ .cell) (hkind : scope.kind = .function) (hnames : ∀ x ∈ scope.names, x.2 = .local → scope.names.lookup x.1 = some .local) (hx : scope.names.lookup x = some .local)
    (hsub : ∀ Cc, Sub env (compEnvC scope cl Cc env) ρ ρ')
    (helt : ∀ I D Cc i d, (C.inner [I, D, Cc]).Ok → ds[i]? = some d → PE prog w (C.inner [I, D, Cc]) A (compEnvC scope cl Cc env) ((x, .d d) :: ρ') elt (fun b => ∃ d', b = .d d' ∧ Pe i d'))
    (hs : ∀ x, foldedSetIterable iter env x = pure x := by intro _; rfl) :
    PT prog w C A env W ρ (.Assign [.Name y py] (.ListComp elt [⟨.Name x px, iter, [], 0⟩] scope pos) spos) (fun ρ₁ => ∃ es, ρ₁ = (y, BL es) :: ρ ∧ es.length = ds.length ∧ ∀ k d, es[k]? = some d → Pe k d) := fun s Q E a l f v q => by
  refine Assign_ListComp_ev hh hsw hclos hcell hkind hnames hx hy (by rw [hk]; rfl) (hiter s _ _ a l v fun xv s₁ ev₁ a₁ src => ?_) hs
  obtain ⟨D0, Pp, src, hD0, hPp⟩ := src
  have l₁ := l.ev ev₁
  have v₁ := v.ev ok ev₁
  have f₁ := f.ev' ev₁ kw
  obtain ⟨m, hm⟩ := f₁.ns
  refine ⟨D0, C.T, C.F, ds.length, Pp, CJ C Pe, m, src, CJ.stable ok, hz, fun t ht => l₁ t ((List.mem_append.mp ht).elim (ok.TH t) (ok.FH t)), fun b hb q => hD0 b hb ((List.mem_append.mp q).elim (ok.TH b) (ok.FH b)), hm, kw.WT _ kw.loc, ?_, ?_, ?_⟩
  · exact fun pv hpv => ⟨a₁, fun b hb => a₁.fresh (hpv b hb), [], rfl, fun k d h => by simp at h, fun W _ => .nil⟩
  · rintro I D Cc i u ys s₂ m₁ E' hi hl hP hj hn hm ev hal hfr
    obtain ⟨d, hd, hr⟩ := hPp i u hi hP
    exact comp_elt ok a₁ l₁ v₁ (hsub Cc) rfl (lookup_relabel_local hx) hr (fun ok' => helt I D Cc i d ok' hd) hj hn hm ev hal hfr
  · rintro I D Cc s' ys hD hp hl ⟨a', hfr, es, h1, h2, h3⟩ ev h₂ h₃ hn₃ hs₂ hs₃ hCn hCD
    have kk : ∀ b o, b ≠ env.locals → b ≠ Cc → s'.heap.get? b = some o → h₃.get? b = some o := fun b o n1 n2 e => hs₃.extBut b o n2 (hs₂.extBut b o n1 e)
    have hCs : ∀ b o, s₁.heap.get? b = some o → b ≠ Cc := fun b o e q => by rw [q, hCn] at e; cases e
    have ev₃ : Ev (W ++ C.T) C.F s₁ { s' with heap := h₃, toks := s'.toks + 1 } := by
      refine (ev.wide (W := W)).stepT (fun b o o₀ e₀ hb e => kk b o (fun q => hb (q ▸ List.mem_append_left _ kw.loc)) (hCs b o₀ e₀) e) (fun b o o₀ e₀ e => ?_) rfl rfl
      by_cases hb : b = env.locals
      · obtain ⟨o', _, _, e', _⟩ := hn₃; exact ⟨o', hb ▸ e'⟩
      · exact ⟨o, kk b o hb (hCs b o₀ e₀) e⟩
    have hcell0 : ∀ c u, s₁.heap.IsCell c u → c ≠ env.locals := fun c u hc q => by
      obtain ⟨o, ho, hd⟩ := hc
      obtain ⟨o', _, _, ho', hd', _⟩ := hm
      rw [q, ho'] at ho; cases ho
      rw [hd'] at hd; cases hd
    have hcl : ∀ c u, c ∉ C.T ++ C.F → s₁.heap.IsCell c u → h₃.IsCell c u := fun c u hc hcu => by
      obtain ⟨o, ho, hd⟩ := id hcu
      exact ⟨o, kk c o (hcell0 c u hcu) (hCs c o ho) (ev.keep c o ho hc), hd⟩
    refine q _ _ (ev₁.wide.trans ev₃) ?_ ⟨es, rfl, h1, h2⟩ ⟨⟨_, hn₃⟩, fun n c hc => ?_⟩ ?_
    · have a₂ : C.Am { s' with heap := h₂, toks := s'.toks } := a'.stab ok (fun b o o₀ e₀ e => hs₂.extBut b o (fun q => by rw [q, kw.new _ kw.loc] at e₀; cases e₀) e) rfl rfl
      exact a₂.stab ok (fun b o o₀ e₀ e => hs₃.extBut b o (fun q => by rw [q, a₁.fresh hCn] at e₀; cases e₀) e) rfl rfl
    · obtain ⟨u, hu⟩ := f₁.cells n c hc
      exact ⟨u, hcl c u (fun q => (List.mem_append.mp q).elim (kw.cell n c hc) (kw.cF n c hc)) hu⟩
    · refine ⟨?_, fun b hb => ?_⟩
      rotate_left
      · obtain ⟨m', h'⟩ := (v₁.fs.ev ok ev) b hb
        by_cases e : b = env.locals
        · exact ⟨_, e ▸ hn₃⟩
        · exact ⟨m', h'.at' fun o e' => kk b o e (fun q => by have := l₁ b (ok.FH b hb); obtain ⟨o', h⟩ := this; rw [q, hCn] at h; cases h) e'⟩
      intro z b hz
      rw [List.lookup_cons] at hz
      cases hzy : z == y with
      | true =>
        rw [hzy] at hz; cases hz
        rw [eq_of_beq hzy]
        have hDL : D ≠ env.locals := fun q => by
          obtain ⟨o', _, _, ho', _⟩ := hm
          rw [← q, hD] at ho'; cases ho'
        refine ⟨.ref D, Rep.list_mk (items := ys.toArray) (let ⟨k, e⟩ := hp; ⟨_, kk D _ hDL (Ne.symm hCD) e, rfl, _, rfl⟩) (fun q => by obtain ⟨o, e⟩ := l₁ D q; rw [hD] at e; cases e) ?_, .inl ⟨hy, kw.WT _ kw.loc, _, hn₃, by simp⟩⟩
        refine all2_holds (C := C) (h3 [I, D, Cc] fun b => by simp [pvt]) fun b o e n => ⟨kk b o (fun q => n (List.mem_append_right _ (q ▸ kw.WH _ kw.loc))) (fun q => n (List.mem_append_left _ (by simp [q]))) e, fun q => n (List.mem_append_right _ q)⟩
      | false =>
        rw [hzy] at hz
        obtain ⟨u, hb, hlk⟩ := v₁.look z b hz
        refine ⟨u, hb.mono fun b o e n => ⟨kk b o (fun q => n (q ▸ kw.WH _ kw.loc)) (hCs b o e) (ev.keep b o e fun q => (List.mem_append.mp q).elim (fun q => n (ok.TH _ q)) fun q => n (ok.FH _ q)), n⟩, ?_⟩
        rcases hlk with ⟨g1, g2, m', hm', hv⟩ | ⟨c, g1, g2, hc⟩
        · have := ns_unique hm hm'
          subst this
          exact .inl ⟨g1, g2, _, hn₃, by rw [if_neg (by simpa using hzy)]; exact hv⟩
        · exact .inr ⟨c, g1, g2, hcl c _ g2 hc⟩
end
end Mine
end

section
open PySem PySem.W PySem.Calls PyProof.Rows
set_option Elab.async false
set_option linter.unusedVariables false
namespace Mine

section
variable {prog : Program} {w : World} {C : Cx} {A : Around} {env : Env} {ρ : Rho} {e : Expr} {P : Bd → Prop} {pos : Pos}

/-- what holds between the turns of a for -/
def FJ (C : Cx) (env : Env) (Iv : Nat → Rho → Prop) (pv : Addr → Prop) (i : Nat) (m : Str → Option Value) (s : Shared) : Prop :=
  C.Am s ∧ (∀ b, pv b → C.B.get? b = none) ∧ (∀ n c, env.cells.lookup n = some c → ¬ pv c ∧ ∃ v, s.heap.IsCell c v) ∧ (∀ b ∈ C.F, b ≠ env.locals → ¬ pv b ∧ ∃ m, s.heap.Ns b m) ∧ ∃ ρ', Iv i ρ' ∧ ∀ y b, ρ'.lookup y = some b → ∃ v, (∀ W : List Addr, (∀ b, b ∈ W ↔ pv b) → b.holds (W ++ C.H) s v) ∧
    ((env.kindOf y = some .local ∧ m y = some v) ∨ ∃ c, cellK env y = some c ∧ c ∉ C.T ++ C.F ∧ ¬ pv c ∧ s.heap.IsCell c (some v))
theorem FJ.stable {Iv : Nat → Rho → Prop} (ok : C.Ok) : StableF (FJ C env Iv) := fun pv i m s₁ s₂ ⟨a, hn, hc, hf, ρ', h1, h2⟩ k g os => by
  have kc : ∀ c u, ¬ pv c → s₁.heap.IsCell c u → s₂.heap.IsCell c u := fun c u n ⟨o, ho, hd⟩ => ⟨o, k c o n ho, hd⟩
  refine ⟨a.stab ok (fun b o o₀ e₀ e => k b o (fun q => by rw [hn b q] at e₀; cases e₀) e) os g, hn, fun n c h => let ⟨n', u, hu⟩ := hc n c h; ⟨n', u, kc c u n' hu⟩, fun b hb hne => let ⟨n', m, hm⟩ := hf b hb hne; ⟨n', m, hm.at' fun o e => k b o n' e⟩, ρ', h1, fun y b hy => ?_⟩
  obtain ⟨v, h3, h4⟩ := h2 y b hy
  refine ⟨v, fun W hW => (h3 W hW).mono fun b o e n => ⟨k b o (fun q => n (List.mem_append_left _ ((hW b).mpr q))) e, n⟩, ?_⟩
  rcases h4 with h4 | ⟨c, h5, h6, h7, h8⟩
  · exact .inl h4
  · exact .inr ⟨c, h5, h6, h7, kc c _ h7 h8⟩

theorem PT.for {W : List Addr} {x : Str} {px : Pos} {iter : Expr} {body : List Stmt} {ds : List PyData} {Iv : Nat → Rho → Prop} (ok : C.Ok) (kw : Wok C env W) (hh : A.handled = none) (hk : env.scope.kind = .function) (hx : env.kindOf x = some .local)
    (hiter : PI prog w C A env ρ iter ds) (h0 : Iv 0 ρ)
    (hb : ∀ I i d ρ', (C.inner [I]).Ok → Wok (C.inner [I]) env W → ds[i]? = some d → Iv i ρ' → PTs prog w (C.inner [I]) A env W ((x, .d d) :: ρ') body (Iv (i + 1)))
    (hs : ∀ x, foldedSetIterable iter env x = pure x := by intro _; rfl) :
    PT prog w C A env W ρ (.For (.Name x px) iter body [] pos) (Iv ds.length) := fun s Q E a l f v q => by
  refine For_ev hh hx (by rw [hk]; rfl) (hiter s _ _ a l v fun xv s₁ ev₁ a₁ src => ?_) hs
  obtain ⟨D0, Pp, src, hD0, hPp⟩ := src
  have l₁ := l.ev ev₁
  have v₁ := v.ev ok ev₁
  have f₁ := f.ev' ev₁ kw
  obtain ⟨m, hm⟩ := id f₁.ns
  have hTs : ∀ t, t ∈ (env.locals :: (W.filter (· != env.locals) ++ C.T)) ↔ t ∈ W ++ C.T := fun t => by
    rw [List.mem_cons, List.mem_append, List.mem_append, List.mem_filter]
    constructor
    · rintro (h | h | h)
      · exact .inl (h ▸ kw.loc)
      · exact .inl h.1
      · exact .inr h
    · rintro (h | h)
      · by_cases e : t = env.locals
        · exact .inl e
        · exact .inr (.inl ⟨h, by simpa using e⟩)
      · exact .inr (.inr h)
  have evA : ∀ {s s' : Shared}, Ev (env.locals :: (W.filter (· != env.locals) ++ C.T)) C.F s s' → Ev (W ++ C.T) C.F s s' := fun e => e.mono (fun t ht => (hTs t).mp ht) fun t ht => List.mem_append_right _ ht
  have evB : ∀ {s s' : Shared}, Ev (W ++ C.T) C.F s s' → Ev (env.locals :: (W.filter (· != env.locals) ++ C.T)) C.F s s' := fun e => e.mono (fun t ht => (hTs t).mpr ht) fun t ht => List.mem_append_right _ ht
  have hTH : ∀ t ∈ W.filter (· != env.locals) ++ C.T, t ∈ C.H := fun t ht => (List.mem_append.mp ht).elim (fun h => kw.WH t (List.mem_filter.mp h).1) (ok.TH t)
  refine ⟨D0, W.filter (· != env.locals) ++ C.T, C.F, ds.length, Pp, FJ C env Iv, m, src, FJ.stable ok, fun t ht => l₁ t ((List.mem_append.mp ht).elim (hTH t) (ok.FH t)), fun b hb q => hD0 b hb ((List.mem_append.mp q).elim (hTH b) (ok.FH b)), fun q => hD0 _ q (kw.WH _ kw.loc), hm, ?_, ?_, ?_, ?_⟩
  · intro q
    rcases List.mem_append.mp q with q | q
    · have := (List.mem_filter.mp q).2; simp at this
    · exact kw.WT _ kw.loc q
  · intro I hI
    have hcL : ∀ c u, s₁.heap.IsCell c u → ¬ (c = I ∨ c = env.locals) := fun c u hc q => by
      obtain ⟨o, ho, hd⟩ := hc
      rcases q with q | q
      · rw [q, hI] at ho; cases ho
      · obtain ⟨o', _, _, ho', hd', _⟩ := hm
        rw [q, ho'] at ho; cases ho
        rw [hd'] at hd; cases hd
    refine ⟨a₁, fun b hb => ?_, fun n c hc => let ⟨u, hu⟩ := f₁.cells n c hc; ⟨hcL c u hu, u, hu⟩, fun b hb hne => ⟨fun q => q.elim (fun q => by obtain ⟨o, e⟩ := l₁ b (ok.FH b hb); rw [q, hI] at e; cases e) hne, v₁.fs b hb⟩, ρ, h0, fun y b hy => ?_⟩
    · rcases hb with rfl | rfl
      · exact a₁.fresh hI
      · exact kw.new _ kw.loc
    · obtain ⟨u, hb, hl⟩ := v₁.look y b hy
      refine ⟨u, fun W' hW' => hb.mono fun b o e n => ⟨e, fun q => ?_⟩, ?_⟩
      · rcases List.mem_append.mp q with q | q
        · rcases (hW' b).mp q with h | h
          · rw [h, hI] at e; cases e
          · exact n (h ▸ kw.WH _ kw.loc)
        · exact n q
      · rcases hl with ⟨h1, h2, m', hm', hv⟩ | ⟨c, h1, h2, hc⟩
        · have := ns_unique hm hm'
          subst this
          exact .inl ⟨h1, hv⟩
        · exact .inr ⟨c, h1, h2, hcL c _ hc, hc⟩
  · rintro I i u s₂ m₁ E' hi hP ⟨a₂, hB, hc, hf, ρ', hIv, hρ⟩ hn ev hal hI
    obtain ⟨d, hd, hr⟩ := hPp i u hi hP
    have ok' : (C.inner [I]).Ok := ok.inner fun b hb => by
      have hbI : b = I := List.mem_singleton.mp hb
      subst hbI
      cases e : C.G.get? b with
      | none => rfl
      | some o => have := a₁.g b o e; rw [hI] at this; cases this
    have kw' : Wok (C.inner [I]) env W := ⟨kw.loc, kw.cell, fun b hb => List.mem_append_right _ (kw.WH b hb), kw.WT, kw.cF, kw.apart, kw.new⟩
    have hIH : I ∉ C.H := fun q => by obtain ⟨o, e⟩ := l₁ I q; rw [hI] at e; cases e
    have ev' := evA ev
    have f₂ : Fm env s₂ := ⟨⟨_, hn⟩, fun n c h => (hc n c h).2⟩
    have hsub := kw.sub ok
    refine hb I i d ρ' ok' kw' hd hIv s₂ _ _ a₂.inn ?_ f₂ ?_ fun ρ₃ s₃ ev₃ a₃ p₃ f₃ v₃ => ?_
    · intro t ht
      rcases List.mem_append.mp ht with ht | ht
      · rw [List.mem_singleton.mp ht]; exact hal
      · exact l₁.ev ev t ht
    · refine ⟨?_, fun b hb => ?_⟩
      rotate_left
      · by_cases e : b = env.locals
        · exact ⟨_, e ▸ hn⟩
        · exact (hf b hb e).2
      intro y b hy
      rw [List.lookup_cons] at hy
      cases hyx : y == x with
      | true =>
        rw [hyx] at hy; cases hy
        rw [eq_of_beq hyx]
        refine ⟨u, Rep.mono hr fun b o e n => ⟨ev.keep b o e fun q => ?_, fun q => ?_⟩, .inl ⟨hx, kw.WT _ kw.loc, _, hn, by simp⟩⟩
        · rcases List.mem_append.mp q with q | q
          · exact n (hsub _ ((hTs b).mp q))
          · exact n (ok.FH _ q)
        · rcases List.mem_append.mp q with q | q
          · rw [List.mem_singleton.mp q, hI] at e; cases e
          · exact n q
      | false =>
        rw [hyx] at hy
        obtain ⟨v, h1, h2⟩ := hρ y b hy
        refine ⟨v, (h1 [I, env.locals] fun b => by simp).mono fun b o e n => ⟨e, fun q => n ?_⟩, ?_⟩
        · rcases List.mem_append.mp q with q | q
          · exact List.mem_append_left _ (by rw [List.mem_singleton.mp q]; simp)
          · exact List.mem_append_right _ q
        · rcases h2 with ⟨h3, h4⟩ | ⟨c, h3, h4, _, h5⟩
          · exact .inl ⟨h3, kw.WT _ kw.loc, _, hn, by rw [if_neg (by simpa using hyx)]; exact h4⟩
          · exact .inr ⟨c, h3, h4, h5⟩
    · obtain ⟨m₃, hm₃⟩ := id f₃.ns
      refine ⟨rfl, m₃, hm₃, ⟨a₃.out, hB, fun n c h => ⟨(hc n c h).1, f₃.cells n c h⟩, fun b hb hne => ⟨(hf b hb hne).1, v₃.fs b hb⟩, ρ₃, p₃, fun y b hy => ?_⟩, evB ev₃⟩
      obtain ⟨v, h1, h2⟩ := v₃.look y b hy
      refine ⟨v, fun W' hW' => h1.mono fun b o e n => ⟨e, fun q => n ?_⟩, ?_⟩
      · rcases List.mem_append.mp q with q | q
        · rcases (hW' b).mp q with h | h
          · exact List.mem_append_left _ (by rw [h]; simp)
          · exact List.mem_append_right _ (h ▸ kw.WH _ kw.loc)
        · exact List.mem_append_right _ q
      · rcases h2 with ⟨h3, _, m', hm', hv⟩ | ⟨c, h3, h4, h5⟩
        · have := ns_unique hm₃ hm'
          subst this
          exact .inl ⟨h3, hv⟩
        · refine .inr ⟨c, h3, h4, ?_, h5⟩
          unfold cellK at h3
          split at h3
          · exact (hc _ c h3).1
          · cases h3
  · rintro I s' m' hn ⟨a', hB, hc, hf, ρ', hIv, hρ⟩ ev
    refine q ρ' s' ((Ev.wide ev₁).trans (evA ev)) a' hIv ⟨⟨_, hn⟩, fun n c h => (hc n c h).2⟩ ⟨fun y b hy => ?_, fun b hb => ?_⟩
    rotate_left
    · by_cases e : b = env.locals
      · exact ⟨_, e ▸ hn⟩
      · exact (hf b hb e).2
    obtain ⟨v, h1, h2⟩ := hρ y b hy
    refine ⟨v, (h1 [I, env.locals] fun b => by simp).mono fun b o e n => ⟨e, fun q => n (List.mem_append_right _ q)⟩, ?_⟩
    rcases h2 with ⟨h3, h4⟩ | ⟨c, h3, h4, _, h5⟩
    · exact .inl ⟨h3, kw.WT _ kw.loc, _, hn, h4⟩
    · exact .inr ⟨c, h3, h4, h5⟩
end
end Mine
end

section
open PySem PySem.W PySem.Calls PyProof.Rows
set_option Elab.async false
set_option linter.unusedVariables false
namespace Mine
def intsOf : List Value → Option (List Int)
  | [] => some []
  | .int i _ :: r => (intsOf r).map (i :: ·)
  | _ => none
theorem intsOf_reads {h : Heap} : ∀ {vs : List Value} {is : List Int}, intsOf vs = some is → ∃ as, ReadsAll h vs (is.map .int) as
  | [], is, e => by cases e; exact ⟨_, .nil⟩
  | .int i t :: r, is, e => by
    unfold intsOf at e
    cases q : intsOf r with
    | none => rw [q] at e; cases e
    | some js =>
      rw [q] at e; cases e
      obtain ⟨as, ha⟩ := intsOf_reads (h := h) q
      exact ⟨_, .cons (.int i t) ha⟩
  | .none :: _, _, e | .bool _ :: _, _, e | .str _ _ :: _, _, e | .ref _ :: _, _, e | .type _ :: _, _, e | .builtin _ :: _, _, e | .notImplemented :: _, _, e | .ellipsis :: _, _, e | .float _ _ :: _, _, e | .bytes _ _ :: _, _, e => by cases e
theorem reads_ints_at {h : Heap} {a : Addr} {o : Obj} {vs : Array Value} {n : Nat} {is : List Int} (ho : h.get? a = some o) (hc : o.cls = .type "list") (hd : o.data = .seq vs n) (hi : intsOf vs.toList = some is) : ∃ as, Reads h (.ref a) (.list (is.map .int)) as := by
  obtain ⟨as, r⟩ := intsOf_reads (h := h) hi
  exact ⟨_, .list ho hc hd r⟩
end Mine
end

section
open PySem PySem.W PySem.Calls PyProof.Rows
set_option Elab.async false
set_option linter.unusedVariables false
namespace Mine

section
variable {prog : Program} {w : World} {C : Cx} {A : Around} {env : Env} {ρ : Rho} {e e₁ e₂ : Expr} {P P₁ P₂ : Bd → Prop} {pos apos : Pos}

theorem all2_1 {C : Cx} {s : Shared} {vs : List Value} {b : Bd} (h : All2 (fun v b => b.holds C.H s v) vs [b]) : ∃ v, vs = [v] ∧ b.holds C.H s v := by
  cases h with | cons r t => cases t; exact ⟨_, rfl, r⟩
theorem all2_2 {C : Cx} {s : Shared} {vs : List Value} {b c : Bd} (h : All2 (fun v b => b.holds C.H s v) vs [b, c]) : ∃ v u, vs = [v, u] ∧ b.holds C.H s v ∧ c.holds C.H s u := by
  cases h with | cons r t => obtain ⟨u, rfl, r'⟩ := all2_1 t; exact ⟨_, _, rfl, r, r'⟩

theorem PEL.one {b : Bd} (ok : C.Ok) (h : PE prog w C A env ρ e (· = b)) (he : starEach [e] env = [(false, eval e env)] := by rfl) : PEL prog w C A env ρ [e] (· = [b]) := fun pos s Q E a l v q =>
  PEL.cons ok h PEL.nil he pos s Q E a l v fun vs bs s' ev a' p r => q vs bs s' ev a' (by obtain ⟨b', r', h1, h2, h3⟩ := p; rw [h1, h2, h3]) r
theorem PEL.cons1 {b : Bd} {bs : List Bd} {es : List Expr} (ok : C.Ok) (h : PE prog w C A env ρ e (· = b)) (h2 : PEL prog w C A env ρ es (· = bs)) (he : starEach (e :: es) env = (false, eval e env) :: starEach es env := by rfl) : PEL prog w C A env ρ (e :: es) (· = b :: bs) := fun pos s Q E a l v q =>
  PEL.cons ok h h2 he pos s Q E a l v fun vs bs s' ev a' p r => q vs bs s' ev a' (by obtain ⟨b', r', h1, h2, h3⟩ := p; rw [h1, h2, h3]) r

theorem COk.ord {c : Nat} (ok : C.Ok) : COk prog w C A (.builtin "ord") [BS ⟨#[c]⟩] (· = BI c) := fun s vs Q E a l fs h q => by
  obtain ⟨v, rfl, r⟩ := all2_1 h
  obtain ⟨t, rfl⟩ := Rep.str_inv r
  exact P.ord_of_char (Kt.int q a ok rfl)
theorem COk.chr {i : Nat} (ok : C.Ok) (hi : i < 256) : COk prog w C A (.builtin "chr") [BI i] (· = BS ⟨#[i]⟩) := fun s vs Q E a l fs h q => by
  obtain ⟨v, rfl, r⟩ := all2_1 h
  obtain ⟨t, rfl⟩ := Rep.int_inv r
  exact P.chr_of_int (by simp; omega) (Kt.str q a ok rfl)
theorem COk.lenS {x : Str} (ok : C.Ok) (hz : x.length ≤ sizeLine) : COk prog w C A (.builtin "len") [BS x] (· = BI x.length) := fun s vs Q E a l fs h q => by
  obtain ⟨v, rfl, r⟩ := all2_1 h
  obtain ⟨t, rfl⟩ := Rep.str_inv r
  exact PyProof.Rows.len_str (by have : sizeLine = 2 ^ 24 := rfl; omega) (Kt.int q a ok rfl)
theorem COk.lenL {ds : List PyData} (ok : C.Ok) (hz : ds.length ≤ sizeLine) : COk prog w C A (.builtin "len") [BL ds] (· = BI ds.length) := fun s vs Q E a l fs h q => by
  obtain ⟨v, rfl, r⟩ := all2_1 h
  obtain ⟨b, items, rfl, hl, hb, hal⟩ := Rep.list_inv r
  have hlen : items.size = ds.length := by simpa using hal.length
  refine PyProof.Rows.len_list hl (by have : sizeLine = 2 ^ 24 := rfl; omega) ?_
  rw [hlen]
  exact Kt.int q a ok rfl
theorem COk.isStr {x : Str} (ok : C.Ok) : COk prog w C A (.builtin "isinstance") [BS x, .r (.type "str")] (· = BB true) := fun s vs Q E a l fs h q => by
  obtain ⟨v, u, rfl, r, r'⟩ := all2_2 h
  obtain ⟨t, rfl⟩ := Rep.str_inv r
  cases r'
  exact IsiPair.str_str (Kt.bool q a ok rfl)
theorem COk.isInt {i : Int} (ok : C.Ok) : COk prog w C A (.builtin "isinstance") [BI i, .r (.type "int")] (· = BB true) := fun s vs Q E a l fs h q => by
  obtain ⟨v, u, rfl, r, r'⟩ := all2_2 h
  obtain ⟨t, rfl⟩ := Rep.int_inv r
  cases r'
  exact IsiPair.int_int (Kt.bool q a ok rfl)
theorem COk.isBoolI {i : Int} (ok : C.Ok) : COk prog w C A (.builtin "isinstance") [BI i, .r (.type "bool")] (· = BB false) := fun s vs Q E a l fs h q => by
  obtain ⟨v, u, rfl, r, r'⟩ := all2_2 h
  obtain ⟨t, rfl⟩ := Rep.int_inv r
  cases r'
  exact IsiPair.int_bool (Kt.keep q a ok rfl (fun _ _ e => e) rfl rfl ⟨_, .bool _⟩)

/-- x.name() and x.name(y), of a text -/
theorem PE.lower {x : Str} (ok : C.Ok) (h : PE prog w C A env ρ e (· = BS x)) (hz : x.length ≤ 5592405) (hbase : attributeBase e "lower" env (eval e env) = eval e env := by rfl) (hline : (apos.endLine == pos.line) = true := by rfl) :
    PE prog w C A env ρ (.Call (.Attribute e "lower" apos) [] [] pos) (· = BS (Txt.lower x)) := fun s Q E a l v q =>
  Call_method0 hbase hline (h s _ _ a l v fun u b s₁ ev a₁ p r => by
    subst p
    obtain ⟨t, rfl⟩ := Rep.str_inv r
    exact SB.lower (fit_lower hz) (q _ _ _ (ev.trans (Ev.of_keeps (fun _ _ e => e) rfl rfl)) (a₁.keeps ok (fun _ _ e => e) rfl rfl) rfl ⟨_, .str _ _⟩))
theorem PE.upper {x : Str} (ok : C.Ok) (h : PE prog w C A env ρ e (· = BS x)) (hz : x.length ≤ 5592405) (hbase : attributeBase e "upper" env (eval e env) = eval e env := by rfl) (hline : (apos.endLine == pos.line) = true := by rfl) :
    PE prog w C A env ρ (.Call (.Attribute e "upper" apos) [] [] pos) (· = BS (Txt.upper x)) := fun s Q E a l v q =>
  Call_method0 hbase hline (h s _ _ a l v fun u b s₁ ev a₁ p r => by
    subst p
    obtain ⟨t, rfl⟩ := Rep.str_inv r
    exact SB.upper (fit_upper hz) (q _ _ _ (ev.trans (Ev.of_keeps (fun _ _ e => e) rfl rfl)) (a₁.keeps ok (fun _ _ e => e) rfl rfl) rfl ⟨_, .str _ _⟩))
theorem PE.rfind {x y : Str} (ok : C.Ok) (h : PE prog w C A env ρ e (· = BS x)) (h2 : PE prog w C A env ρ e₂ (· = BS y)) (hbase : attributeBase e "rfind" env (eval e env) = eval e env := by rfl) (hs : starEach [e₂] env = [(false, eval e₂ env)] := by rfl) (hline : (apos.endLine == pos.line) = true := by rfl) :
    PE prog w C A env ρ (.Call (.Attribute e "rfind" apos) [e₂] [] pos) (· = BI (Txt.rfind x y)) := fun s Q E a l v q =>
  Call_method1 hbase hs hline (h s _ _ a l v fun u b s₁ ev₁ a₁ p r => by
    subst p
    obtain ⟨t, rfl⟩ := Rep.str_inv r
    refine SB.rfind (h2 s₁ _ _ a₁ (l.ev ev₁) (v.ev ok ev₁) fun u b s₂ ev₂ a₂ p r => ?_)
    subst p
    obtain ⟨t, rfl⟩ := Rep.str_inv r
    exact ⟨y, t, rfl, q _ _ _ ((ev₁.trans ev₂).trans (Ev.of_keeps (fun _ _ e => e) rfl rfl)) (a₂.keeps ok (fun _ _ e => e) rfl rfl) rfl ⟨_, .int _ _⟩⟩)
theorem PE.index {x : Str} {y : Bd → Prop} {p : Str → Nat → Prop} (ok : C.Ok) (h : PE prog w C A env ρ e (· = BS x)) (h2 : PE prog w C A env ρ e₂ (fun b => ∃ y i rest, b = BS y ∧ p y i ∧ Builtin.Str.occurrences x y 0 x.length 1 = i :: rest)) (hbase : attributeBase e "index" env (eval e env) = eval e env := by rfl) (hs : starEach [e₂] env = [(false, eval e₂ env)] := by rfl) (hline : (apos.endLine == pos.line) = true := by rfl) :
    PE prog w C A env ρ (.Call (.Attribute e "index" apos) [e₂] [] pos) (fun b => ∃ y i, p y i ∧ b = BI i) := fun s Q E a l v q =>
  Call_method1 hbase hs hline (h s _ _ a l v fun u b s₁ ev₁ a₁ p r => by
    subst p
    obtain ⟨t, rfl⟩ := Rep.str_inv r
    refine SB.index (h2 s₁ _ _ a₁ (l.ev ev₁) (v.ev ok ev₁) fun u b s₂ ev₂ a₂ p r => ?_)
    obtain ⟨y, i, rest, rfl, hp, ho⟩ := p
    obtain ⟨t, rfl⟩ := Rep.str_inv r
    exact ⟨y, t, rfl, i, rest, ho, q _ _ _ ((ev₁.trans ev₂).trans (Ev.of_keeps (fun _ _ e => e) rfl rfl)) (a₂.keeps ok (fun _ _ e => e) rfl rfl) ⟨y, i, hp, rfl⟩ ⟨_, .int _ _⟩⟩)
/-- sep.join(list of texts) -/
theorem strsAre_of {H : List Addr} {s : Shared} : ∀ {vs : List Value} {ys : List Str}, All2 (Rep H s) vs (ys.map .str) → StrsAre vs ys
  | _, [], h => by cases h; exact .nil
  | _, y :: ys, h => by cases h with | cons r t => obtain ⟨u, rfl⟩ := Rep.str_inv r; exact .cons y u (strsAre_of t)
theorem PE.join {x : Str} {p : List Str → Prop} (ok : C.Ok) (h : PE prog w C A env ρ e (· = BS x)) (h2 : PE prog w C A env ρ e₂ (fun b => ∃ ys : List Str, b = BL (ys.map .str) ∧ p ys ∧ JoinOk x ys = true)) (hbase : attributeBase e "join" env (eval e env) = eval e env := by rfl) (hs : starEach [e₂] env = [(false, eval e₂ env)] := by rfl) (hline : (apos.endLine == pos.line) = true := by rfl) :
    PE prog w C A env ρ (.Call (.Attribute e "join" apos) [e₂] [] pos) (fun b => ∃ ys, p ys ∧ b = BS (Txt.join x ys)) := fun s Q E a l v q =>
  Call_method1 hbase hs hline (h s _ _ a l v fun u b s₁ ev₁ a₁ pp r => by
    subst pp
    obtain ⟨t, rfl⟩ := Rep.str_inv r
    refine SB.join (h2 s₁ _ _ a₁ (l.ev ev₁) (v.ev ok ev₁) fun u b s₂ ev₂ a₂ pp r => ?_)
    obtain ⟨ys, rfl, hp, hok⟩ := pp
    obtain ⟨D, items, rfl, hl, hD, hal⟩ := Rep.list_inv r
    obtain ⟨lv, hv, ht⟩ := strsAre_values (strsAre_of hal)
    have e : items = (strValues lv).toArray := by rw [← hv]
    subst e
    exact ⟨D, lv, rfl, hl, ys, ht, hok, fun t' k => q _ _ _ ((ev₁.trans ev₂).trans (Ev.of_keeps (fun _ _ e => e) rfl rfl)) (a₂.keeps ok (fun _ _ e => e) rfl rfl) ⟨ys, hp, rfl⟩ ⟨_, .str _ _⟩⟩)
end
end Mine
end

section
open PySem PySem.W PySem.Calls PyProof.Rows
set_option Elab.async false
set_option linter.unusedVariables false
namespace Mine
section
variable {prog : Program} {w : World} {C : Cx} {A : Around} {env : Env} {ρ : Rho} {e e₁ e₂ : Expr} {P P₁ P₂ : Bd → Prop} {pos apos : Pos}
theorem all2_app {R : Value → Bd → Prop} : ∀ {as bs : List Value} {cs ds : List Bd}, All2 R as cs → All2 R bs ds → All2 R (as ++ bs) (cs ++ ds)
  | _, _, _, _, .nil, h => h
  | _, _, _, _, .cons r t, h => .cons r (all2_app t h)
theorem all2_d {H : List Addr} {s : Shared} : ∀ {vs : List Value} {ds : List PyData}, All2 (Rep H s) vs ds → All2 (fun v (b : Bd) => b.holds H s v) vs (ds.map Bd.d)
  | _, _, .nil => .nil
  | _, _, .cons r t => .cons r (all2_d t)
theorem PEL.star {ds : List PyData} {bs : List Bd} {rest : List Expr} {p : Pos} (ok : C.Ok) (h : PE prog w C A env ρ e (· = BL ds)) (hz : ds.length ≤ sizeLine) (h2 : PEL prog w C A env ρ rest (· = bs)) (he : starEach (.Starred e p :: rest) env = (true, eval e env) :: starEach rest env := by rfl) :
    PEL prog w C A env ρ (.Starred e p :: rest) (· = ds.map Bd.d ++ bs) := fun pos s Q E a l v q => by
  refine items_star (h s _ _ a l v fun u b s₁ ev₁ a₁ p₁ r₁ => ?_) he
  subst p₁
  obtain ⟨D, items, rfl, hl, hD, hal⟩ := Rep.list_inv r₁
  obtain ⟨o, ho, hc, n, hd⟩ := id hl
  have hsz : items.size ≤ sizeLine := by have := hal.length; simp at this; omega
  have z : wpAny (model prog w) A (collect (.ref D)) (fun here s₂ => wpAny (model prog w) A (spliced (backTo pos (starEach rest env))) (fun vs s₃ => Q (here ++ vs) s₃) E s₂) E s₁ := by
    refine wpAny_collect_seq D (.inl rfl) ho hc hd (fun h' hk => ?_) hsz
    have ev₂ : Ev C.T C.F s₁ { s₁ with heap := h' } := Ev.of_keeps hk rfl rfl
    refine h2 pos _ _ _ (a₁.keeps ok hk rfl rfl) ((l.ev ev₁).ev ev₂) ((v.ev ok ev₁).ev ok ev₂) fun vs bs' s₃ ev₃ a₃ p₃ r₃ => ?_
    subst p₃
    exact q _ _ s₃ ((ev₁.trans ev₂).trans ev₃) a₃ rfl (all2_app (all2_d (hal.imp fun _ _ r => (Rep.keeps (s' := { s₁ with heap := h' }) r hk).ev ev₃ ok.TH ok.FH)) r₃)
  unfold StarOf notIterableAtAll
  exact wpAny_bind (wpAny_specialOf hl.typeIs PySem.F.slot_list_iter.lookup (wpAny_pure ⟨rfl, z⟩))
end
end Mine
end

section
open PySem PySem.W PySem.Calls PyProof.Rows
set_option Elab.async false
set_option linter.unusedVariables false
namespace Mine

theorem passing_all (n : Nat) : passing (fun _ => true) n 0 = List.range n := by unfold passing; simp

/-- walking the generator a yields n things, the j-th of them F j; it touches nothing that was there at s -/
def GenD (prog : Program) (w : World) (A : Around) (s s' : Shared) (a : Addr) (n : Nat) (F : Nat → Value → Prop) : Prop :=
  ∃ fp wr g St, WalksS prog w A.in4 a fp wr (GenOnlyQ g) n F St ∧ St 0 s' ∧ (∀ i t, St i t → t.TypeIs (.ref a) "generator") ∧ a ∈ fp ∧ (∀ b ∈ fp, b < s'.heap.objs.size) ∧ ∀ b ∈ wr, s.heap.get? b = none

theorem walks_lt {prog : Program} {w : World} {A : Around} {I : Addr} {fp wr : List Addr} {n : Nat} {P : Nat → Value → Prop} {St : Nat → Heap → Prop} (W : Walks prog w A I fp wr n P St) : Walks prog w A I fp wr n (fun i u => i < n ∧ P i u) St where
  sub := W.sub
  frame := W.frame
  item := fun i s Q E hi st hQ => W.item i s Q E hi st fun v h' tk hP st' hk => hQ v h' tk ⟨hi, hP⟩ st' hk
  done := W.done
  self := W.self
theorem walksS_imp {prog : Program} {w : World} {A : Around} {I : Addr} {fp wr : List Addr} {G : Array GenState → Array GenState → Prop} {n : Nat} {P P' : Nat → Value → Prop} {St : Nat → Shared → Prop} (W : WalksS prog w A I fp wr G n P St) (h : ∀ i v, i < n → P i v → P' i v) : WalksS prog w A I fp wr G n P' St where
  sub := W.sub
  grefl := W.grefl
  gtrans := W.gtrans
  frame := W.frame
  item := fun i s Q E hi st hQ => W.item i s Q E hi st fun v s' hP st' hm => hQ v s' (h i v hi hP) st' hm
  done := W.done
  self := W.self

section
variable {prog : Program} {w : World} {C : Cx} {A : Around} {env : Env} {ρ : Rho} {pos : Pos} {K : Frag} {p : Program} {loose : List Str} {mg mb : Str → Option Value}

theorem Tabs.put {tabs : List (Addr × Addr)} {h h' : Heap} {P : Addr} {ps : Array Value} (t : Tabs tabs h) (k : ∀ b o, b ≠ P → h.get? b = some o → h'.get? b = some o) (hP : h'.get? P = some (tabObj ps)) (ht : TriplesOk ps.toList) : Tabs tabs h' := fun q hq => by
  by_cases e : q.2 = P
  · exact ⟨ps, e ▸ hP, ht⟩
  · obtain ⟨ps', h1, h2⟩ := t q hq
    exact ⟨ps', k _ _ e h1, h2⟩

theorem gen_run {elt iter : Expr} {x : Str} {px : Pos} {scope : Scope} {cl : List (Str × Addr)} {ds : List PyData} {c P : Addr} {s : Shared} {F : Nat → Value → Prop} {Q E : Value → Shared → Prop}
    (ok : C.Ok) (gl : Gl K p loose mg mb C.G) (hA : AOk 1 A) (hct : (c, P) ∈ C.tabs) (hcd : CodeHd C.G c P) (hcode : env.code = .ref c) (hgl : env.globals = mainGlobals)
    (hiter : PI prog w C A env ρ iter ds)
    (hco : scope.isCoroutine = false) (hclos : closureFor scope env = pure cl) (hcell : ∀ y ∈ scope.names, y.2 ≠ .cell) (h0 : scope.names.lookup (".0" : Str) = some NameKind.local)
    (hx : scope.names.lookup x = some .local) (hkind : scope.kind = .function)
    (helt : ∀ (code : Value) (Cg : Addr) (A' : Around) (E' : Value → Shared → Prop) (i : Nat) (d : PyData) (s₁ : Shared) (u : Value) (s₂ : Shared) (m₂ : Str → Option Value), A'.handled = none → ds[i]? = some d → Rep C.H s₁ u d → s₂.heap.Ns Cg m₂ → m₂ x = some u →
      (∀ b o, C.G.get? b = some o → s₂.heap.get? b = some o) → wpAny (model prog w) A' (eval elt (genEnv scope cl Cg code builtinsNs env)) (fun y s₃ => F i y ∧ Keeps s₂ s₃) E' s₂)
    (am : C.Am s) (l : Live C.H s) (v : Vw C env ρ s)
    (hQ : ∀ a s', Ev C.T C.F s s' → C.Am s' → GenD prog w A s s' a ds.length F → Q (.ref a) s')
    (hs : ∀ x, genFold iter env x = pure x := by intro _; rfl) :
    wpAny (model prog w) A (eval (.GeneratorExp elt [⟨.Name x px, iter, [], 0⟩] scope pos) env) Q E s := by
  refine wpAny_GeneratorExp_walksQ hA.1 hco hclos hcell h0 hx hkind (by have := hA.2.1; omega) (hiter s _ _ am l v fun xv s₁ ev₁ a₁ src => ?_) hs
  obtain ⟨D0, Pp, src, hD0, hPp⟩ := src
  refine src.2 _ _ fun I fp St hI W hSt hIf hst hfp hIlt hI0 hkI => ?_
  have nl : ∀ {s' : Shared}, (∀ b o, C.G.get? b = some o → s'.heap.get? b = some o) → s'.heap.NoLimit := fun k => gl.T.nolimit.keeps k
  have a₂ : C.Am { s₁ with heap := hI } := a₁.keeps ok hkI rfl rfl
  have ev₂ : Ev C.T C.F s { s₁ with heap := hI } := ev₁.trans (Ev.of_keeps hkI rfl rfl)
  refine ⟨nl (s' := { s₁ with heap := hI }) a₂.g, ?_⟩
  obtain ⟨ps, hP, htr⟩ := a₂.tb (c, P) hct
  have hcd₂ : CodeHd hI c P := hcd.keeps a₂.g
  have hGP : ∀ b o, C.G.get? b = some o → b ≠ P := fun b o e q => by rw [q, ok.HG _ (ok.TH _ (ok.tT _ hct))] at e; cases e
  have hPT : P ∈ C.T := ok.tT _ hct
  have hIP : P ∉ fp := fun q => by
    rcases hfp P q with q | q
    · rw [q] at hPT
      have hl := ev₁.live
      obtain ⟨o, e⟩ := (l.ev ev₁) I (ok.TH _ hPT)
      rw [hI0] at e; cases e
    · exact hD0 P q (ok.TH _ hPT)
  -- what is left when the code object is there
  have key : ∀ (code : Value) (h₃ : Heap) (tk : Tok) (ps' : Array Value), Heap.ExtBut P hI h₃ → hI.objs.size ≤ h₃.objs.size → h₃.get? P = some (tabObj ps') → TriplesOk ps'.toList →
      wpAny (model prog w) A (builtinsFor env.globals env.builtins) (fun bi s₄ =>
        ∃ I' fp wr n₀ P St₀ pz F', Value.ref I = .ref I' ∧ (∀ A' : Around, A'.handled = none → Walks prog w A' I' fp wr n₀ P St₀) ∧ St₀ 0 s₄.heap ∧ (∀ b ∈ fp, b < s₄.heap.objs.size) ∧ s₄.heap.NoLimit ∧ cStatics ∉ wr ∧
          (∀ href : Heap, (∀ b o, s₄.heap.get? b = some o → href.get? b = some o) →
            QuietGen prog w (genEnv scope cl s₄.heap.objs.size code bi env) x [] elt (List.range s₄.heap.objs.size) wr P pz F' href) ∧
          (∀ a h₅ tk gs, gs.bare = true → s₄.heap.objs.size < a → h₅.objs.size = a + 1 → (∀ b o, s₄.heap.get? b = some o → h₅.get? b = some o) →
            WalksS prog w A.in4 a (a :: s₄.heap.objs.size :: List.range s₄.heap.objs.size) (s₄.heap.objs.size :: wr) (GenOnlyQ s₄.gens.size) (passing pz n₀ 0).length
              (fun j y => ∃ i, (passing pz n₀ 0)[j]? = some i ∧ F' i y) (GenAt prog w A.in4 a s₄.gens.size s₄.heap.objs.size (List.range s₄.heap.objs.size) wr pz n₀ F') →
            GenAt prog w A.in4 a s₄.gens.size s₄.heap.objs.size (List.range s₄.heap.objs.size) wr pz n₀ F' 0 { s₄ with gens := s₄.gens.push gs, toks := tk, heap := h₅ } →
            Q (.ref a) { s₄ with gens := s₄.gens.push gs, toks := tk, heap := h₅ })) E { s₁ with heap := h₃, toks := tk } := by
    intro code h₃ tk ps' hx₃ hsz₃ hP₃ htr₃
    have g₃ : ∀ b o, C.G.get? b = some o → h₃.get? b = some o := fun b o e => hx₃ b o (hGP b o e) (a₂.g b o e)
    obtain ⟨bm, ob, hbm, hne, hbo, hcls, hdict, hdata⟩ := gl.bm
    refine wpAny_builtinsFor (hgl ▸ gl.T.g.keeps g₃) hbm hne (g₃ _ _ hbo) hcls hdict hdata ?_
    have hnl₃ : h₃.NoLimit := gl.T.nolimit.keeps g₃
    have hcs : cStatics ∉ [I] := fun q => by
      obtain ⟨_, hn, _⟩ := gl.T.nolimit
      obtain ⟨o, _, _, e, _⟩ := hn
      have := a₁.g _ _ e
      rw [List.mem_singleton.mp q, hI0] at this; cases this
    refine ⟨I, fp, [I], ds.length, fun i u => i < ds.length ∧ Pp i u, St, fun _ => true, F, rfl, fun A' hA' => walks_lt (W A' hA'), (W A hA.1).frame _ _ _ hst fun b hb o e => hx₃ b o (fun q => hIP (q ▸ hb)) e, fun b hb => ?_, hnl₃, hcs, fun href hhref => ⟨?_, ?_⟩, ?_⟩
    · refine Nat.lt_of_lt_of_le ?_ hsz₃
      rcases hfp b hb with rfl | h
      · exact hIlt
      · obtain ⟨o, e⟩ := src.1 b h
        exact Heap.lt_size (hkI _ _ e)
    · intro A' E' i u s₂ m₂ hA' hPi hn hm hk
      exact wpAny_pure ⟨rfl, s₂.heap, s₂.toks, rfl, fun _ _ e => e⟩
    · intro A' E' i u s₂ m₂ hA' ⟨hi, hPi⟩ _ hn hm hk
      obtain ⟨d, hd, hr⟩ := hPp i u hi hPi
      refine helt code h₃.objs.size A' E' i d s₁ u s₂ m₂ hA' hd hr hn hm fun b o e => ?_
      have e₃ := g₃ b o e
      refine hk b (List.mem_range.mpr (Heap.lt_size e₃)) (fun q => ?_) o (hhref b o e₃)
      have := a₁.g _ _ e
      rw [List.mem_singleton.mp q, hI0] at this; cases this
    · intro a h₅ tk₅ gs hgb hag hsz₅ hk₅ WS hat
      rw [passing_all] at WS
      rw [List.length_range] at WS
      have kk : ∀ b o, b ≠ P → s₁.heap.get? b = some o → h₅.get? b = some o := fun b o hb e => hk₅ b o (hx₃ b o hb (hkI b o e))
      have hP₅ : h₅.get? P = some (tabObj ps') := hk₅ _ _ hP₃
      have ev₅ : Ev C.T C.F s₁ { s₁ with heap := h₅, toks := tk₅, gens := s₁.gens.push gs } := by
        refine ⟨fun b o e n => kk b o (fun q => n (List.mem_append_left _ (q ▸ hPT))) e, fun b m hn hb => hn.at' fun o e => kk b o (fun q => hb (q ▸ hPT)) e, fun b o e => ?_, rfl, fun h => h.push hgb⟩
        by_cases hb : b = P
        · subst hb; exact ⟨_, hP₅⟩
        · exact ⟨o, kk b o hb e⟩
      have a₅ : C.Am { s₁ with heap := h₅, toks := tk₅, gens := s₁.gens.push gs } := by
        refine ⟨fun b o e => kk b o (hGP b o e) (a₁.g b o e), a₁.tb.put kk hP₅ htr₃, fun b o e => ?_, ?_⟩
        · obtain ⟨o', e'⟩ := a₁.live b o e
          exact ev₅.live b o' e'
        · exact ok.stab s₁ _ a₁.x fun b o o₀ e₀ hb e => kk b o (fun q => hb (List.mem_map.mpr ⟨_, hct, q.symm⟩)) e
      have hold : ∀ b, hI.objs.size ≤ b → s.heap.get? b = none := fun b hb => by
        cases e : s.heap.get? b with
        | none => rfl
        | some o =>
          obtain ⟨o', e'⟩ := ev₁.live b o e
          exact absurd (Heap.lt_size (hkI _ _ e')) (Nat.not_lt.mpr hb)
      refine hQ a _ (ev₁.trans ev₅) a₅ ⟨_, _, _, _, walksS_imp WS fun j y hj ⟨i, hi, hF⟩ => ?_, hat, fun i t st => st.1.typeIs, List.mem_cons_self, ?_, ?_⟩
      · rw [List.getElem?_range hj] at hi
        cases hi; exact hF
      · intro b hb
        show b < h₅.objs.size
        rw [hsz₅]
        rcases List.mem_cons.mp hb with rfl | hb
        · exact Nat.lt_succ_self _
        · rcases List.mem_cons.mp hb with rfl | hb
          · exact Nat.lt_succ_of_lt hag
          · exact Nat.lt_succ_of_lt (Nat.lt_trans (List.mem_range.mp hb) hag)
      · intro b hb
        rcases List.mem_cons.mp hb with rfl | hb
        · exact hold _ hsz₃
        · rw [List.mem_singleton.mp hb]
          cases e : s.heap.get? I with
          | none => rfl
          | some o =>
            obtain ⟨o', e'⟩ := ev₁.live I o e
            rw [hI0] at e'; cases e'
  cases hnf : codeAmong pos ps.toList with
  | some cv => exact wpAny_genexprCode_hit hcode (hcd₂.code hP htr) hnf (key cv hI s₁.toks ps (Heap.ExtBut.refl _ _) (Nat.le_refl _) hP htr)
  | none =>
    refine wpAny_genexprCodeX hcode (hcd₂.code hP htr) (hcd₂.tab hP) hnf fun c' h₃ tk₃ hx₃ hge hlt hcode₃ _ htab₃ _ => ?_
    refine key _ h₃ tk₃ _ hx₃ (Nat.le_trans hge (Nat.le_of_lt hlt)) htab₃.2 ?_
    obtain ⟨o, vs, file, tf, flags, tg, inF, text, tt, op, _, _, _, _, _, _, _, g1, g2, g3, _⟩ := hcode₃
    rw [htab₃.2] at g1; cases g1; cases g2
    exact g3

theorem moved_ev {s s' s'' : Shared} {wr : List Addr} {g : Nat} {T F : List Addr} (ev : Ev T F s s') (hm : Moved wr (GenOnlyQ g) s' s'') (hwr : ∀ b ∈ wr, s.heap.get? b = none) : Ev T F s s'' := by
  have k : ∀ b o o₀, s.heap.get? b = some o₀ → s'.heap.get? b = some o → s''.heap.get? b = some o := fun b o o₀ e₀ e => hm.heap b o (fun q => by rw [hwr b q] at e₀; cases e₀) e
  exact ⟨fun b o e n => k b o o e (ev.keep b o e n), fun b m x n => let ⟨_, _, _, e, _⟩ := x; (ev.ns b m x n).at' fun o h => k b o _ e h,
    fun b o e => let ⟨o', e'⟩ := ev.live b o e; ⟨o', k b o' o e e'⟩, hm.os.trans ev.os, fun h => hm.gens.bare (ev.gens h)⟩
theorem moved_am {s s' s'' : Shared} {wr : List Addr} {g : Nat} (ok : C.Ok) (am : C.Am s) (a' : C.Am s') (hm : Moved wr (GenOnlyQ g) s' s'') (hwr : ∀ b ∈ wr, s.heap.get? b = none) : C.Am s'' :=
  a'.stab' ok fun b o o₀ e₀ e => hm.heap b o (fun q => by obtain ⟨o', e'⟩ := am.live b o₀ e₀; rw [hwr b q] at e'; cases e') e

theorem PE.allGen {elt iter : Expr} {x : Str} {px pa cpos : Pos} {scope : Scope} {cl : List (Str × Addr)} {ds : List PyData} {c P : Addr} {tr : Nat → Bool}
    (ok : C.Ok) (gl : Gl K p loose mg mb C.G) (hn : nsIn K mainGlobals "all" = some none) (hA : AOk 1 A) (hct : (c, P) ∈ C.tabs) (hcd : CodeHd C.G c P) (hcode : env.code = .ref c) 
    (hiter : PI prog w C A env ρ iter ds)
    (hco : scope.isCoroutine = false) (hclos : closureFor scope env = pure cl) (hcell : ∀ y ∈ scope.names, y.2 ≠ .cell) (h0 : scope.names.lookup (".0" : Str) = some NameKind.local)
    (hx : scope.names.lookup x = some .local) (hkind : scope.kind = .function)
    (helt : ∀ (code : Value) (Cg : Addr) (A' : Around) (E' : Value → Shared → Prop) (i : Nat) (d : PyData) (s₁ : Shared) (u : Value) (s₂ : Shared) (m₂ : Str → Option Value), A'.handled = none → ds[i]? = some d → Rep C.H s₁ u d → s₂.heap.Ns Cg m₂ → m₂ x = some u →
      (∀ b o, C.G.get? b = some o → s₂.heap.get? b = some o) → wpAny (model prog w) A' (eval elt (genEnv scope cl Cg code builtinsNs env)) (fun y s₃ => y = .bool (tr i) ∧ Keeps s₂ s₃) E' s₂)
    (hgl : env.globals = mainGlobals := by rfl) (hb : env.builtins = builtinsNs := by rfl) (hk : env.scope.kind = .function := by rfl) (hxa : env.kindOf "all" = some .globalImplicit := by rfl)
    (hse : backTo cpos (starEach [.GeneratorExp elt [⟨.Name x px, iter, [], 0⟩] scope pos] env) = [(false, eval (.GeneratorExp elt [⟨.Name x px, iter, [], 0⟩] scope pos) env)] := by rfl)
    (hs : ∀ x, genFold iter env x = pure x := by intro _; rfl) :
    PE prog w C A env ρ (.Call (.Name "all" pa) [.GeneratorExp elt [⟨.Name x px, iter, [], 0⟩] scope pos] [] cpos) (· = BB ((List.range ds.length).all tr)) := fun s Q E a l v q => by
  refine wpAny_Call_NameR (PE.builtin (ρ := ρ) gl hn (v := .builtin "all") (by rfl) (by decide) hgl hb hk hxa (by decide) s _ _ a l v fun u b s₁ ev₁ a₁ p₁ r₁ => ?_)
  subst p₁; cases r₁
  rw [hse]
  refine callWith_builtin rfl (Calls.evalArgs_plain (Calls.spliced_cons (gen_run (F := fun i y => y = .bool (tr i)) ok gl hA hct hcd hcode hgl hiter hco hclos hcell h0 hx hkind helt a₁ (l.ev ev₁) (v.ev ok ev₁) (fun g s' ev' a' gd => Calls.spliced_nil ?_) hs)))
  obtain ⟨fp, wr, gn, St, W, hst, hT, ha, hfp, hwr⟩ := gd
  have W := W.in4_1
  refine call_all_walkS (W.self 0 _ _ _ hst ⟨g, _, _, _, _, _, _, tr, rfl, W, hst, ?_, fun s'' hm => ?_⟩)
  · intro i v s E Q hP hq
    subst hP
    exact wpAny_truthy_bool hq
  · exact q _ _ _ (ev₁.trans (moved_ev ev' hm hwr)) (moved_am ok a₁ a' hm hwr) rfl ⟨_, .bool _⟩

theorem PE.joinGen {elt iter e : Expr} {x : Str} {px pa cpos : Pos} {scope : Scope} {cl : List (Str × Addr)} {ds : List PyData} {c P : Addr} {sep : Str} {tx : Nat → Str}
    (ok : C.Ok) (gl : Gl K p loose mg mb C.G) (hsep : PE prog w C A env ρ e (· = BS sep)) (hA : AOk 1 A) (hct : (c, P) ∈ C.tabs) (hcd : CodeHd C.G c P) (hcode : env.code = .ref c) 
    (hiter : PI prog w C A env ρ iter ds)
    (hco : scope.isCoroutine = false) (hclos : closureFor scope env = pure cl) (hcell : ∀ y ∈ scope.names, y.2 ≠ .cell) (h0 : scope.names.lookup (".0" : Str) = some NameKind.local)
    (hx : scope.names.lookup x = some .local) (hkind : scope.kind = .function)
    (helt : ∀ (code : Value) (Cg : Addr) (A' : Around) (E' : Value → Shared → Prop) (i : Nat) (d : PyData) (s₁ : Shared) (u : Value) (s₂ : Shared) (m₂ : Str → Option Value), A'.handled = none → ds[i]? = some d → Rep C.H s₁ u d → s₂.heap.Ns Cg m₂ → m₂ x = some u →
      (∀ b o, C.G.get? b = some o → s₂.heap.get? b = some o) → wpAny (model prog w) A' (eval elt (genEnv scope cl Cg code builtinsNs env)) (fun y s₃ => (∃ t, y = .str (tx i) t) ∧ Keeps s₂ s₃) E' s₂)
    (hok : JoinOk sep ((List.range ds.length).map tx) = true) (hz : ds.length ≤ sizeLine)
    (hgl : env.globals = mainGlobals := by rfl)
    (hbase : attributeBase e "join" env (eval e env) = eval e env := by rfl) (hline : (pa.endLine == cpos.line) = true := by rfl)
    (hse : starEach [.GeneratorExp elt [⟨.Name x px, iter, [], 0⟩] scope pos] env = [(false, eval (.GeneratorExp elt [⟨.Name x px, iter, [], 0⟩] scope pos) env)] := by rfl)
    (hs : ∀ x, genFold iter env x = pure x := by intro _; rfl) :
    PE prog w C A env ρ (.Call (.Attribute e "join" pa) [.GeneratorExp elt [⟨.Name x px, iter, [], 0⟩] scope pos] [] cpos) (· = BS (Txt.join sep ((List.range ds.length).map tx))) := fun s Q E a l v q => by
  refine Call_method1 hbase hse hline (hsep s _ _ a l v fun u b s₁ ev₁ a₁ p₁ r₁ => ?_)
  subst p₁
  obtain ⟨t, rfl⟩ := Rep.str_inv r₁
  refine ⟨"str", "str.join", F.plainAttrs_str, F.slot_str_join, F.type_str_join, typeIs_str _ _ _, (fun _ e => nomatch e), ?_⟩
  refine callWith_builtin rfl (Calls.evalArgs_plain (Calls.spliced_cons (gen_run (F := fun i y => ∃ t, y = .str (tx i) t) ok gl hA hct hcd hcode hgl hiter hco hclos hcell h0 hx hkind helt a₁ (l.ev ev₁) (v.ev ok ev₁) (fun g s' ev' a' gd => Calls.spliced_nil ?_) hs)))
  obtain ⟨fp, wr, gn, St, W, hst, hT, ha, hfp, hwr⟩ := gd
  have W := W.in4_2
  refine SC.joinGen W hT hst hfp ha (fun j v hv => let ⟨u, e⟩ := hv; ⟨_, u, e⟩) (fun s'' lt hm hacc => ?_) hz
  have hl : lt.map (·.1) = (List.range ds.length).map tx := by
    have hlen : (lt.map (·.1)).length = ((List.range ds.length).map tx).length := by
      have := hacc.1
      simpa [strValues] using this
    refine List.ext_getElem hlen fun j h1 h2 => ?_
    have hj : j < lt.length := by simpa using h1
    obtain ⟨u, hu⟩ := hacc.2 j (.str lt[j].1 lt[j].2) (by simp [strValues, List.getElem?_eq_getElem hj])
    have hs := (Value.str.inj hu).1
    rw [List.getElem_map, List.getElem_map, List.getElem_range]
    exact hs
  rw [hl]
  refine ⟨hok, fun t' k => ?_⟩
  have ev₃ := ev₁.trans (moved_ev ev' hm hwr)
  have a₃ := moved_am ok a₁ a' hm hwr
  exact q _ _ _ (ev₃.trans (Ev.of_keeps (fun _ _ e => e) rfl rfl)) (a₃.keeps ok (fun _ _ e => e) rfl rfl) rfl ⟨_, .str _ _⟩
end
end Mine
end

section
open PySem PySem.W PySem.Calls PyProof.Rows
set_option Elab.async false
set_option linter.unusedVariables false
set_option maxRecDepth 100000
namespace Mine
open PySem.Builtin PySem.Builtin._codecs
theorem range_forIn {β : Type} (n : Nat) (init : β) (f : Nat → β → Sem (ForInStep β)) : forIn [0:n] init f = forIn (List.range' 0 n) init f := by
  rw [Std.Legacy.Range.forIn_eq_forIn_range']; simp
theorem forIn_steps {β : Type} (f : Nat → β → Sem (ForInStep β)) (st : Nat → β) : ∀ (n k : Nat), (∀ i, k ≤ i → i < k + n → f i (st i) = pure (.yield (st (i + 1)))) → forIn (List.range' k n) (st k) f = pure (st (k + n))
  | 0, k, _ => by simp
  | n + 1, k, h => by
    rw [List.range'_succ, List.forIn_cons, h k (Nat.le_refl _) (by omega), pure_bind]
    have := forIn_steps f st n (k + 1) fun i h1 h2 => h i (by omega) (by omega)
    rw [show k + (n + 1) = k + 1 + n from by omega]
    exact this

theorem run_ascii {id : String} {b : Array UInt8} (h : ∀ (i : Nat) (c : UInt8), b[i]? = some c → c.toNat < 128) (hz : b.size ≤ sizeLine) : runDecoder id asciiDecoder none true b 0 [] = pure ((b.toList.map (·.toNat)).toArray, b.size) := by
  unfold runDecoder
  simp only [range_forIn]
  have e : ((0, #[], {}) : Nat × Array Nat × Faults) = (fun k => (k, ((b.toList.take k).map (·.toNat)).toArray, {})) 0 := by simp
  rw [e, forIn_steps _ (fun k => ((k, ((b.toList.take k).map (·.toNat)).toArray, {}) : Nat × Array Nat × Faults)) b.size 0 ?_]
  · rw [pure_bind]
    have : b.toList.take (0 + b.size) = b.toList := List.take_of_length_le (by simp)
    rw [this, Nat.zero_add]
  · intro i _ hi
    have hi' : i < b.size := by omega
    have hc := h i b[i] (Array.getElem?_eq_getElem hi')
    have h1 : ¬ (((b.toList.take i).map (·.toNat)).toArray.size > sizeLine) := by simp; omega
    have h2 : ¬ (i ≥ b.size) := by omega
    have h3 : asciiDecoder.find true b i = .text [(b[i]).toNat] (i + 1) := by
      unfold asciiDecoder
      have : b.getD i 0 = b[i] := by simp [Array.getD, hi']
      simp only [this, hc, if_true]
      rfl
    simp only [if_neg h1, if_neg h2, h3]
    congr 3
    rw [List.take_add_one, List.map_append]
    simp [hi']

theorem fold_ascii (b : Array Nat) : Array.foldl (fun acc y => acc ++ (asciiCodec.bytesOf y).toArray) #[] b = (b.toList.map (·.toUInt8)).toArray := by
  rw [← Array.foldl_toList]
  have : ∀ (l : List Nat) (acc : Array UInt8), l.foldl (fun acc y => acc ++ (asciiCodec.bytesOf y).toArray) acc = acc ++ (l.map (·.toUInt8)).toArray := by
    intro l
    induction l with
    | nil => intro acc; simp
    | cons a r ih => intro acc; rw [List.foldl_cons, ih]; simp [asciiCodec]
  rw [this]; simp
theorem narrow_ascii {id : String} {self : Value} {x : Str} (h : ∀ c ∈ x.cps, c < 128) (h0 : x.cps.size ≠ 0) (hz : x.length ≤ sizeLine) : encodeNarrow id asciiCodec none self x = pure (x.cps.toList.map (·.toUInt8)).toArray := by
  unfold encodeNarrow
  simp only [range_forIn]
  obtain ⟨m, hm⟩ : ∃ m, x.length = m + 1 := ⟨x.length - 1, by have : x.length = x.cps.size := rfl; omega⟩
  have hm' : x.cps.size = m + 1 := hm
  rw [hm, List.range'_succ, List.forIn_cons]
  have hg : x.cps[0]? = some (x.cps[0]'(by omega)) := Array.getElem?_eq_getElem _
  have hb : asciiCodec.bad (x.cps[0]'(by omega)) = false := by
    have := h _ (Array.getElem_mem (show 0 < x.cps.size by omega))
    simp [asciiCodec]; omega
  have hf : Array.findIdx? asciiCodec.bad (x.cps.extract 0) = none := by
    rw [Array.findIdx?_eq_none_iff]
    intro c hc
    have : c ∈ x.cps := by simpa using hc
    have := h c this
    simp [asciiCodec]; omega
  have hs : ¬ ((#[] : Array UInt8).size > sizeLine) := by decide
  simp only [if_neg hs, hg, hb, Bool.not_false, if_true, hf, Option.getD_none, pure_bind]
  have e1 : x.cps.extract = x.cps := by simp
  have e3 : 0 + x.cps.extract.size = m + 1 := by rw [e1, hm']; omega
  rw [e3]
  simp only [e1]
  rw [fold_ascii]
  have hsz : (x.cps.toList.map (·.toUInt8)).toArray.size = m + 1 := by simp [hm']
  have hs2 : ¬ ((x.cps.toList.map (·.toUInt8)).toArray.size > sizeLine) := by omega
  have hn : x.cps[m + 1]? = none := by rw [Array.getElem?_eq_none_iff]; omega
  cases m with
  | zero => simp
  | succ k =>
    rw [List.range'_succ, List.forIn_cons]
    simp only [if_neg hs2, hn, pure_bind]

/-- the bytes of a text of ASCII signs -/
def ascB (x : Str) : Array UInt8 := (x.cps.toList.map (·.toUInt8)).toArray

theorem encodeRoad_ascii (id : String) (self : Value) (x : Str) : encodeRoad id self x (Str.ofString "ascii") none = (do mkBytes (← encodeNarrow id asciiCodec none self x)) := by
  first | kernel_rfl | rfl
theorem encode_entry (x : Str) (t u : Tok) : «str.encode» ⟨[.str x t, .str (Str.ofString "ascii") u], []⟩ = (do ret (← encodeRoad "str.encode" (.str x t) x (Str.ofString "ascii") none)) := by
  first | kernel_rfl | rfl
theorem meets_encode (x : Str) (t u : Tok) (h : ∀ c ∈ x.cps, c < 128) (h0 : x.cps.size ≠ 0) (hz : x.length ≤ sizeLine) :
    Meets («str.encode» ⟨[.str x t, .str (Str.ofString "ascii") u], []⟩) (fun _ R s => R (.ok (.ret (.bytes (ascB x) s.toks))) { s with toks := s.toks + 1 }) :=
  .of_wp fun prog w A R s hS => by
    rw [encode_entry, encodeRoad_ascii, narrow_ascii h h0 hz, pure_bind]
    refine wpAny_bind (wpAny_mkBytes ?_ ?_)
    · exact wpAny_pure ⟨_, rfl, hS⟩
    · simp; exact hz
theorem args_decode_2 (a b : Value) : argsOk "bytes.decode" ⟨[a, b], []⟩ := by
  unfold argsOk; kernel_rfl
theorem droad_eq {id : String} {b : Array UInt8} : decodeRoad id b (Str.ofString "ascii") none [] = (runDecoder id asciiDecoder none true b 0 [] >>= fun r => mkStr ⟨r.1⟩) := by kernel_rfl

theorem decode_entry {c : UInt8} {cs : List UInt8} {t u : Tok} : «bytes.decode» ⟨[.bytes (c :: cs).toArray t, .str (Str.ofString "ascii") u], []⟩ = (mkStr (PySem.Str.ofString "utf-8") >>= fun _ => mkStr (PySem.Str.ofString "ascii") >>= fun e => mkStr (PySem.Str.ofString "bytes.decode") >>= fun d =>
    call (.builtin "_codecs.decode.text") [.bytes (c :: cs).toArray t, e, .none, d] >>= fun v => ret v) := by kernel_rfl
/-- the text of ASCII bytes -/
theorem ascB_get {x : Str} (h : ∀ c ∈ x.cps, c < 128) : ∀ (i : Nat) (c : UInt8), (ascB x)[i]? = some c → c.toNat < 128 := by
  intro i c hc
  have hm : c ∈ x.cps.toList.map (·.toUInt8) := by
    have := Array.mem_of_getElem? hc
    simpa [ascB] using this
  obtain ⟨n, hn, rfl⟩ := List.mem_map.mp hm
  have := h n (by simpa using hn)
  show n.toUInt8.toNat < 128
  rw [Nat.toUInt8, UInt8.toNat_ofNat']
  omega
theorem ascB_back {x : Str} (h : ∀ c ∈ x.cps, c < 128) : ((ascB x).toList.map (·.toNat)).toArray = x.cps := by
  unfold ascB
  rw [List.map_map]
  have : x.cps.toList.map ((fun x : UInt8 => x.toNat) ∘ fun x => x.toUInt8) = x.cps.toList := by
    refine (List.map_congr_left fun n hn => ?_).trans (List.map_id _)
    have := h n (by simpa using hn)
    show n.toUInt8.toNat = n
    rw [Nat.toUInt8, UInt8.toNat_ofNat']
    omega
  rw [this]
theorem meets_dtext {x : Str} {t t1 t2 : Tok} {d : Str} (h : ∀ c ∈ x.cps, c < 128) (hz : x.length ≤ sizeLine) :
    Meets («_codecs.decode.text» ⟨[.bytes (ascB x) t, .str (Str.ofString "ascii") t1, .none, .str d t2], []⟩) (fun _ R s => R (.ok (.ret (.str x s.toks))) { s with toks := s.toks + 1 }) :=
  .of_wp fun prog w A R s hS => by
    show wpAny _ _ (Bytes.bytesLike _ (.bytes (ascB x) t) >>= fun r => _) _ _ s
    refine wpAny_bind (wpAny_of_eq KBd.like_eq ?_)
    refine wpAny_bind (wpAny_of_eq KBd.held_eq ?_)
    show wpAny _ _ (decodeRoad _ (ascB x) (Str.ofString "ascii") none [] >>= fun v => _) _ _ s
    rw [droad_eq, run_ascii (ascB_get h) (by simp [ascB]; exact hz), pure_bind]
    refine wpAny_bind (wpAny_mkStr ?_ ?_)
    · rw [ascB_back h]
      exact wpAny_pure ⟨_, rfl, hS⟩
    · rw [ascB_back h]; exact hz
theorem meets_decode {x : Str} {t u : Tok} (h : ∀ c ∈ x.cps, c < 128) (h0 : x.cps.size ≠ 0) (hz : x.length ≤ sizeLine) :
    Meets («bytes.decode» ⟨[.bytes (ascB x) t, .str (Str.ofString "ascii") u], []⟩) (fun _ R s => ∀ t' k, R (.ok (.ret (.str x t'))) { s with toks := k }) :=
  .of_wp fun prog w A R s hS => by
    obtain ⟨c, cs, hcs⟩ : ∃ c cs, ascB x = (c :: cs).toArray := by
      cases e : (ascB x).toList with
      | nil => exact absurd (by have := congrArg List.length e; simpa [ascB] using this) h0
      | cons c cs => exact ⟨c, cs, by rw [← e]⟩
    rw [hcs, decode_entry, ← hcs]
    refine wpAny_bind (wpAny_mkStr (wpAny_bind (wpAny_mkStr (wpAny_bind (wpAny_mkStr ?_ (by decide))) (by decide))) (by decide))
    exact wpAny_bind (call_function_meets KBd.kind_text KBd.plain_text KBd.entry_text (KBd.args_text _ _ _ _) (meets_dtext h hz) (wpAny_pure ⟨_, rfl, hS _ _⟩))

section
variable {prog : Program} {w : World} {C : Cx} {A : Around} {env : Env} {ρ : Rho} {e e₂ : Expr} {pos apos : Pos}
/-- bytes of the text x -/
def isAsc (x : Str) (b : Bd) : Prop := ∃ t, b = .r (.bytes (ascB x) t)
theorem PE.encode {x : Str} (ok : C.Ok) (hasc : ∀ c ∈ x.cps, c < 128) (h0 : x.cps.size ≠ 0) (hz : x.length ≤ sizeLine) (h : PE prog w C A env ρ e (· = BS x)) (h2 : PE prog w C A env ρ e₂ (· = BS (Str.ofString "ascii"))) (hbase : attributeBase e "encode" env (eval e env) = eval e env := by rfl) (hs : starEach [e₂] env = [(false, eval e₂ env)] := by rfl) (hline : (apos.endLine == pos.line) = true := by rfl) :
    PE prog w C A env ρ (.Call (.Attribute e "encode" apos) [e₂] [] pos) (isAsc x) := fun s Q E a l v q =>
  Call_method1 hbase hs hline (h s _ _ a l v fun u b s₁ ev₁ a₁ pp r => by
    subst pp
    obtain ⟨t, rfl⟩ := Rep.str_inv r
    refine ⟨"str", "str.encode", F.plainAttrs_str, F.slot_str_encode, F.type_str_encode, typeIs_str _ _ _, (fun _ e => nomatch e), method1_meets F.slot_str_encode F.entry_str_encode ?_⟩
    refine h2 s₁ _ _ a₁ (l.ev ev₁) (v.ev ok ev₁) fun u b s₂ ev₂ a₂ pp r => ?_
    subst pp
    obtain ⟨t', rfl⟩ := Rep.str_inv r
    exact ⟨typeIs_str _ _ _, F.args_str_encode_2 _ _, _, meets_encode x t t' hasc h0 hz, q _ _ _ ((ev₁.trans ev₂).trans (Ev.of_keeps (fun _ _ e => e) rfl rfl)) (a₂.keeps ok (fun _ _ e => e) rfl rfl) ⟨_, rfl⟩ rfl⟩)
theorem PE.decode {x : Str} (ok : C.Ok) (hasc : ∀ c ∈ x.cps, c < 128) (h0 : x.cps.size ≠ 0) (hz : x.length ≤ sizeLine) (h : PE prog w C A env ρ e (isAsc x)) (h2 : PE prog w C A env ρ e₂ (· = BS (Str.ofString "ascii"))) (hbase : attributeBase e "decode" env (eval e env) = eval e env := by rfl) (hs : starEach [e₂] env = [(false, eval e₂ env)] := by rfl) (hline : (apos.endLine == pos.line) = true := by rfl) :
    PE prog w C A env ρ (.Call (.Attribute e "decode" apos) [e₂] [] pos) (· = BS x) := fun s Q E a l v q =>
  Call_method1 hbase hs hline (h s _ _ a l v fun u b s₁ ev₁ a₁ pp r => by
    obtain ⟨t, rfl⟩ := pp
    cases r
    refine ⟨"bytes", "bytes.decode", FB.plainAttrs_bytes, FB.slot_bytes_decode, FB.type_bytes_decode, typeIs_bytes _ _ _, (fun _ e => nomatch e), method1_meets FB.slot_bytes_decode FB.entry_bytes_decode ?_⟩
    refine h2 s₁ _ _ a₁ (l.ev ev₁) (v.ev ok ev₁) fun u b s₂ ev₂ a₂ pp r => ?_
    subst pp
    obtain ⟨t', rfl⟩ := Rep.str_inv r
    exact ⟨typeIs_bytes _ _ _, args_decode_2 _ _, _, meets_decode hasc h0 hz, fun t' k => q _ _ _ ((ev₁.trans ev₂).trans (Ev.of_keeps (fun _ _ e => e) rfl rfl)) (a₂.keeps ok (fun _ _ e => e) rfl rfl) rfl ⟨_, .str _ _⟩⟩)
end
end Mine
end

section
open PySem PySem.W PySem.Calls PyProof.Rows
set_option Elab.async false
set_option linter.unusedVariables false
namespace Mine
section
variable {prog : Program} {w : World} {C : Cx} {A : Around} {env : Env} {ρ : Rho} {e e₁ e₂ : Expr} {P : Bd → Prop} {pos : Pos}
theorem Tru.strT {x : Str} (ok : C.Ok) (hz : x.length ≤ sizeLine) (h0 : x.length ≠ 0) : Tru prog w C A (BS x) true := by
  have := Tru.str (prog := prog) (w := w) (C := C) (A := A) (x := x) ok hz
  rwa [show ((x.length : Int) != 0) = true from by simp; omega] at this
theorem Cmp.eqR {x y : PyData} {r : Bool} (hx : SeqAt.shaped x = true) (hy : SeqAt.shaped y = true) (hu : A.units + 64 < cLine) (hr : PyData.eqv x y = r) : Cmp prog w C A .Eq (.d x) (.d y) r := hr ▸ Cmp.eq hx hy hu
theorem Cmp.neR {x y : PyData} {r : Bool} (hx : SeqAt.shaped x = true) (hy : SeqAt.shaped y = true) (hu : A.units + 64 < cLine) (hr : PyData.eqv x y = !r) : Cmp prog w C A .NotEq (.d x) (.d y) r := by
  have := Cmp.ne (prog := prog) (w := w) (C := C) hx hy hu
  rwa [hr, Bool.not_not] at this
theorem PE.fmt {x : Str} (ok : C.Ok) (hz : x.length ≤ sizeLine) (h : PE prog w C A env ρ e (· = BS x)) : PE prog w C A env ρ (.FormattedValue e (-1) none pos) (· = BS x) := fun s Q E a l v q =>
  wpAny_FormattedValue_plain (h s _ _ a l v fun u b s₁ ev a₁ p r => by
    subst p
    obtain ⟨t, rfl⟩ := Rep.str_inv r
    exact wpAny_formatField_str (q _ _ _ ev a₁ rfl r) (q _ _ _ (ev.trans (Ev.of_keeps (fun _ _ e => e) rfl rfl)) (a₁.keeps ok (fun _ _ e => e) rfl rfl) rfl ⟨_, .str _ _⟩) hz)
theorem empty_append (x : Str) : Str.empty ++ x = x := Str.append_left_empty rfl
theorem str_len_append (x y : Str) : (x ++ y).length = x.length + y.length := by
  cases x; cases y
  show (_ ++ _ : Array Nat).size = _
  rw [Array.size_append]; rfl
theorem PE.joined2 {x y : Str} (ok : C.Ok) (hz : x.length + y.length ≤ sizeLine) (h1 : PE prog w C A env ρ e₁ (· = BS x)) (h2 : PE prog w C A env ρ e₂ (· = BS y)) : PE prog w C A env ρ (.JoinedStr [e₁, e₂] pos) (· = BS (x ++ y)) := fun s Q E a l v q => by
  refine wpAny_JoinedStr ?_
  show wpAny _ _ (eval e₁ env) _ _ _
  refine h1 s _ _ a l v fun u b s₁ ev₁ a₁ p r => ?_
  subst p
  obtain ⟨t, rfl⟩ := Rep.str_inv r
  refine ⟨x, t, rfl, by rw [empty_append]; omega, ?_⟩
  show wpAny _ _ (eval e₂ env) _ _ _
  refine h2 s₁ _ _ a₁ (l.ev ev₁) (v.ev ok ev₁) fun u b s₂ ev₂ a₂ p r => ?_
  subst p
  obtain ⟨t, rfl⟩ := Rep.str_inv r
  have e : Str.empty ++ x ++ y = x ++ y := by rw [empty_append]
  have hl : (x ++ y).length ≤ sizeLine := by rw [str_len_append]; exact hz
  refine ⟨y, t, rfl, by rw [e]; exact hl, ?_⟩
  show _ ∧ _
  rw [e]
  exact ⟨hl, q _ _ _ ((ev₁.trans ev₂).trans (Ev.of_keeps (fun _ _ e => e) rfl rfl)) (a₂.keeps ok (fun _ _ e => e) rfl rfl) rfl ⟨_, .str _ _⟩⟩
end
end Mine
end

section
open PySem PySem.W PySem.Calls PyProof.Rows
set_option Elab.async false
set_option linter.unusedVariables false
namespace Mine
section
variable {prog : Program} {w : World} {C : Cx} {A : Around} {env : Env} {W : List Addr} {ρ : Rho} {e : Expr} {P : Bd → Prop} {pos : Pos}
abbrev kinded (env : Env) (W : List Addr) (x : Str) : Prop := Owned env W x
theorem assign_all (ok : C.Ok) (kw : Wok C env W) (hk : env.scope.kind = .function) : ∀ (xs : List (Str × Pos)) (vs : List Value) (ds : List PyData) (ρ : Rho) (s : Shared) (Q : Unit → Shared → Prop) (E : Value → Shared → Prop), (∀ x ∈ xs, kinded env W x.1) → xs.length = ds.length →
    C.Am s → Live C.H s → Fm env s → Vw C env ρ s → All2 (Rep C.H s) vs ds →
    (∀ s', Ev (W ++ C.T) C.F s s' → C.Am s' → Fm env s' → Vw C env (((xs.map (·.1)).zip (ds.map Bd.d)).reverse ++ ρ) s' → Q () s') → wpAny (model prog w) A (assignInOrder (xs.map fun x => assign (.Name x.1 x.2) env) vs) Q E s
  | [], _, _, ρ, s, Q, E, _, hl, a, l, f, v, h, q => by
    cases h with
    | nil => exact wpAny_assignInOrder_none (q s (Ev.refl _ _ _) a f v)
    | cons => cases hl
  | x :: xs, _, _, ρ, s, Q, E, hx, hl, a, l, f, v, h, q => by
    cases h with
    | nil => cases hl
    | cons r t =>
      rename_i u d vs ds
      refine wpAny_assignInOrder_more (assign_Name (store (b := .d d) ok kw hk (hx x List.mem_cons_self) a l f v r fun s₁ ev₁ a₁ l₁ f₁ v₁ => ?_))
      refine assign_all ok kw hk xs vs ds _ s₁ Q E (fun y hy => hx y (List.mem_cons_of_mem _ hy)) (Nat.succ.inj hl) a₁ l₁ f₁ v₁ (t.imp fun _ _ r => r.ev ev₁ (kw.sub ok) ok.FH) fun s₂ ev₂ a₂ f₂ v₂ => ?_
      refine q s₂ (ev₁.trans ev₂) a₂ f₂ ?_
      simpa using v₂
theorem PT.assignTup {xs : List (Str × Pos)} {elts : List Expr} {kk : Nat} {tpos : Pos} {ds : List PyData} (ok : C.Ok) (kw : Wok C env W) (hh : A.handled = none) (h : PE prog w C A env ρ e (· = BT ds)) (hk : env.scope.kind = .function) (hx : ∀ x ∈ xs, kinded env W x.1) (hl : xs.length = ds.length)
    (helts : assignEach elts env = xs.map fun x => (false, PySem.assign (.Name x.1 x.2) env))
    (hs : swapsWithSole [.Tuple elts kk tpos] e pos.line env = pure false := by rfl)
    (hw : swappedStores [.Tuple elts kk tpos] e env = pure none := by rfl) :
    PT prog w C A env W ρ (.Assign [.Tuple elts kk tpos] e pos) (· = (((xs.map (·.1)).zip (ds.map Bd.d)).reverse ++ ρ)) := fun s Q E a l f v q => by
  refine Assign_Tuple (h s _ _ a l v fun u b s₁ ev₁ a₁ p r => ?_) hs hw
  subst p
  obtain ⟨t, items, rfl, ht, hb, hal⟩ := Rep.tup_inv r
  have hlen : items.size = ds.length := by simpa using hal.length
  refine wpAny_assign_Tuple hh ht (by rw [helts, List.length_map]; omega) (by rw [helts]; simp [List.findIdx?_eq_none_iff]) fun h' hx' => ?_
  have k : ∀ b o, s₁.heap.get? b = some o → h'.get? b = some o := fun b o e => hx' b o (Nat.ne_of_lt (Heap.lt_size e)) e
  rw [helts, List.map_map]
  have ev₂ : Ev C.T C.F s₁ { s₁ with heap := h' } := Ev.of_keeps k rfl rfl
  refine assign_all ok kw hk xs items.toList ds ρ { s₁ with heap := h' } _ E hx hl (a₁.keeps ok k rfl rfl) ((l.ev ev₁).ev ev₂) ((f.ev' ev₁ kw).ev' ev₂ kw) ((v.ev ok ev₁).ev ok ev₂) (hal.imp fun _ _ r => Rep.keeps (s' := { s₁ with heap := h' }) r k) fun s₂ ev₃ a₂ f₂ v₂ => ?_
  exact q _ _ ((Ev.wide (ev₁.trans ev₂)).trans ev₃) a₂ rfl f₂ v₂
end
end Mine
end

section
open PySem PySem.W PySem.Calls PyProof.Rows
set_option Elab.async false
set_option linter.unusedVariables false
namespace Mine

abbrev frs (l : List Env) : List Addr := l.filterMap (·.frame)
/-- the frames of the running defs are there -/
def Stk (l : List Env) (s : Shared) : Prop := ∀ env ∈ l, env.scope.kind ≠ .module ∧ ∃ L m, env.frame = some L ∧ s.heap.Ns L m
theorem Stk.ev {l : List Env} {s s' : Shared} {T F : List Addr} (x : Stk l s) (e : Ev T F s s') (h : ∀ L ∈ frs l, L ∉ T) : Stk l s' := fun env he =>
  let ⟨h1, L, m, h2, h3⟩ := x env he
  ⟨h1, L, m, h2, e.ns _ _ h3 (h L (List.mem_filterMap.mpr ⟨env, he, h2⟩))⟩
theorem Stk.fun {h : Heap} {Ls : List Addr} : ∀ {l : List Env} {s : Shared}, s.heap = h → Stk l s → (∀ L ∈ frs l, L ∈ Ls) → h.FunFrames (hideAll h Ls) l
  | [], _, _, _, _ => trivial
  | env :: r, s, hs, x, hl => by
    obtain ⟨h1, L, m, h2, h3⟩ := x env List.mem_cons_self
    obtain ⟨o, es, ep, ho, hd, _⟩ := id h3
    refine ⟨h1, ⟨L, o, h2, hideAll_none _ (hl L (List.mem_filterMap.mpr ⟨env, List.mem_cons_self, h2⟩)), hs ▸ ho, fun vs q => by rw [hd] at q; cases q⟩, ?_⟩
    exact Stk.fun hs (fun e he => x e (List.mem_cons_of_mem _ he)) fun L hL => hl L (by
      obtain ⟨e, he, hf⟩ := List.mem_filterMap.mp hL
      exact List.mem_filterMap.mpr ⟨e, List.mem_cons_of_mem _ he, hf⟩)

/-- the exception e of class cls flies out of a call made at s, below the defs l -/
structure Fly (C : Cx) (W : List Addr) (l : List Env) (cls : Value) (s : Shared) (e : Addr) (s' : Shared) : Prop where
  fly : ∃ base a0, Heap.FlyingW base l e cls a0 s'.heap ∧ ∀ b o, s.heap.get? b = some o → b ∉ frs l → b ∉ W → ∃ o', base.get? b = some o'
  ev : Ev (W ++ C.T) (frs l ++ C.F) s s'
  am : C.Am s'

def COkX (prog : Program) (w : World) (C : Cx) (A : Around) (l : List Env) (f : Value) (bs : List Bd) (cls : Value) : Prop :=
  ∀ (s : Shared) (vs : List Value) (Q E : Value → Shared → Prop), C.Am s → Live C.H s → Fs C s → Stk l s → All2 (fun v b => b.holds C.H s v) vs bs → (∀ e s', Fly C [] l cls s e s' → E (.ref e) s') → wpAny (model prog w) A (call f vs) Q E s
/-- the expression raises, from a def called below -/
def PEX (prog : Program) (w : World) (C : Cx) (A : Around) (l : List Env) (env : Env) (ρ : Rho) (e : Expr) (cls : Value) : Prop :=
  ∀ (s : Shared) (Q E : Value → Shared → Prop), C.Am s → Live C.H s → Stk l s → Vw C env ρ s → (∀ e s', Fly C [] l cls s e s' → E (.ref e) s') → wpAny (model prog w) A (eval e env) Q E s
/-- the body raises in its own frame -/
def PBR (prog : Program) (w : World) (C : Cx) (A : Around) (env : Env) (W : List Addr) (ρ : Rho) (body : List Stmt) (cls : Value) : Prop :=
  ∀ (s : Shared) (Q : Flow → Shared → Prop) (E : Value → Shared → Prop), C.Am s → Live C.H s → Fm env s → Vw C env ρ s →
    (∀ e h' vs s₂, Ev (W ++ C.T) C.F s s₂ → C.Am s₂ → Fm env s₂ → Heap.MadeExcOf s₂.heap h' e cls vs → E (.ref e) { s₂ with heap := h' }) → wpAny (model prog w) A (execs body env) Q E s
/-- the body raises, from a def called below -/
def PBX (prog : Program) (w : World) (C : Cx) (A : Around) (l : List Env) (env : Env) (W : List Addr) (ρ : Rho) (body : List Stmt) (cls : Value) : Prop :=
  ∀ (s : Shared) (Q : Flow → Shared → Prop) (E : Value → Shared → Prop), C.Am s → Live C.H s → Stk l s → Fm env s → Vw C env ρ s →
    (∀ e s', Fly C W l cls s e s' → E (.ref e) s') → wpAny (model prog w) A (execs body env) Q E s

section
variable {prog : Program} {w : World} {C : Cx} {A : Around} {env : Env} {W : List Addr} {ρ : Rho} {e : Expr} {pos : Pos} {cls : Value} {l : List Env}

theorem PBR.cons {st : Stmt} {rest : List Stmt} {R : Rho → Prop} (h1 : PT prog w C A env W ρ st R) (h2 : ∀ ρ', R ρ' → PBR prog w C A env W ρ' rest cls) : PBR prog w C A env W ρ (st :: rest) cls := fun s Q E a lv f v q =>
  wpAny_execs_cons (h1 s _ _ a lv f v fun ρ' s₁ ev₁ a₁ p₁ f₁ v₁ => h2 ρ' p₁ s₁ _ _ a₁ (lv.ev ev₁) f₁ v₁ fun e h' vs s₂ ev₂ a₂ f₂ hx => q e h' vs s₂ (ev₁.trans ev₂) a₂ f₂ hx)
theorem PBR.cons1 {st : Stmt} {rest : List Stmt} {ρ' : Rho} (h1 : PT prog w C A env W ρ st (· = ρ')) (h2 : PBR prog w C A env W ρ' rest cls) : PBR prog w C A env W ρ (st :: rest) cls := PBR.cons h1 fun _ h => h ▸ h2
theorem PBR.ifT {test : Expr} {body orelse rest : List Stmt} (ok : C.Ok) (k : Wok C env W) (h : PC prog w C A env ρ test (· = true)) (hb : PBR prog w C A env W ρ body cls) : PBR prog w C A env W ρ (.If test body orelse pos :: rest) cls := fun s Q E a lv f v q => by
  refine wpAny_execs_cons (wpAny_If (h s _ _ a lv v fun b s₁ ev₁ a₁ p₁ => ?_))
  subst p₁
  exact hb s₁ _ _ a₁ (lv.ev ev₁) (f.ev' ev₁ k) (v.ev ok ev₁) fun e h' vs s₂ ev₂ a₂ f₂ hx => q e h' vs s₂ (ev₁.wide.trans ev₂) a₂ f₂ hx
theorem PBX.cons {st : Stmt} {rest : List Stmt} {R : Rho → Prop} (kw : Wok C env W) (ok : C.Ok) (hlT : ∀ L ∈ frs l, L ∉ C.T) (hlW : ∀ L ∈ frs l, L ∈ W → L = env.locals) (h1 : PT prog w C A env W ρ st R) (h2 : ∀ ρ', R ρ' → PBX prog w C A l env W ρ' rest cls) : PBX prog w C A l env W ρ (st :: rest) cls := fun s Q E a lv sk f v q =>
  wpAny_execs_cons (h1 s _ _ a lv f v fun ρ' s₁ ev₁ a₁ p₁ f₁ v₁ => by
    have sk₁ : Stk l s₁ := fun env' he => by
      obtain ⟨h1, L, m, h2, h3⟩ := sk env' he
      have hL : L ∈ frs l := List.mem_filterMap.mpr ⟨env', he, h2⟩
      by_cases hW : L ∈ W
      · obtain ⟨m', hm'⟩ := f₁.ns
        exact ⟨h1, L, m', h2, hlW L hL hW ▸ hm'⟩
      · exact ⟨h1, L, m, h2, ev₁.ns _ _ h3 fun q => (List.mem_append.mp q).elim hW (hlT L hL)⟩
    refine h2 ρ' p₁ s₁ _ _ a₁ (lv.ev ev₁) sk₁ f₁ v₁ fun e s₂ fl => q e s₂ ⟨?_, ?_, fl.am⟩
    · obtain ⟨base, a0, hf, hb⟩ := fl.fly
      refine ⟨base, a0, hf, fun b o e n1 n2 => ?_⟩
      obtain ⟨o', e'⟩ := ev₁.live b o e
      exact hb b o' e' n1 n2
    · exact (ev₁.mono (fun t ht => ht) fun t ht => List.mem_append_right _ (List.mem_append_right _ ht)).trans fl.ev)
theorem PBX.cons1 {st : Stmt} {rest : List Stmt} {ρ' : Rho} (kw : Wok C env W) (ok : C.Ok) (hlT : ∀ L ∈ frs l, L ∉ C.T) (hlW : ∀ L ∈ frs l, L ∈ W → L = env.locals) (h1 : PT prog w C A env W ρ st (· = ρ')) (h2 : PBX prog w C A l env W ρ' rest cls) : PBX prog w C A l env W ρ (st :: rest) cls := PBX.cons kw ok hlT hlW h1 fun _ h => h ▸ h2

/-- what a step that only notes the flight does -/
theorem fly_step {h : Heap} {s s₂ : Shared} {h₂ h'' base : Heap} {l : List Env} {W' : List Addr} (ok : C.Ok) (am : C.Am s₂) (live : ∀ b o, C.B.get? b = some o → ∃ o', s.heap.get? b = some o') (ev : Ev (W' ++ C.T) (frs l ++ C.F) s s₂) (hB : ∀ L ∈ frs l, C.B.get? L = none) (hWn : ∀ b ∈ W', s.heap.get? b = none)
    (kb : ∀ b o, s₂.heap.get? b = some o → (∃ o₀, s.heap.get? b = some o₀) → b ∉ frs l → h''.get? b = some o)
    (up : ∀ b m, s₂.heap.Ns b m → h''.Ns b m) (hfs : ∀ b ∈ frs l, ∃ m, s₂.heap.Ns b m) :
    Ev ([] ++ C.T) (frs l ++ C.F) s { s₂ with heap := h'' } ∧ C.Am { s₂ with heap := h'' } := by
  refine ⟨⟨fun b o e n => ?_, fun b m hn n => ?_, fun b o e => ?_, ev.os, ev.gens⟩, am.stab' ok fun b o o₀ e₀ e => ?_⟩
  · have n' : b ∉ (W' ++ C.T) ++ (frs l ++ C.F) := fun q => by
      rcases List.mem_append.mp q with q | q
      · rcases List.mem_append.mp q with q | q
        · rw [hWn b q] at e; cases e
        · exact n (List.mem_append_left _ q)
      · exact n (List.mem_append_right _ q)
    exact kb b o (ev.keep b o e n') ⟨o, e⟩ fun q => n (List.mem_append_right _ (List.mem_append_left _ q))
  · refine up b m (ev.ns b m hn fun q => ?_)
    rcases List.mem_append.mp q with q | q
    · obtain ⟨o, _, _, ho, _⟩ := hn
      rw [hWn b q] at ho; cases ho
    · exact n q
  · obtain ⟨o', e'⟩ := ev.live b o e
    by_cases hb : b ∈ frs l
    · obtain ⟨m, hm⟩ := hfs b hb
      obtain ⟨o'', _, _, h1, _⟩ := up b m hm
      exact ⟨o'', h1⟩
    · exact ⟨o', kb b o' e' ⟨o, e⟩ hb⟩
  · obtain ⟨o', e'⟩ := live b o₀ e₀
    exact kb b o e ⟨o', e'⟩ fun q => by rw [hB b q] at e₀; cases e₀
end

section
variable {prog : Program} {w : World} {C : Cx} {A : Around} {K : Frag} {p : Program} {loose : List Str} {mg mb : Str → Option Value} {cls : Value} {outer : List Env}

theorem COkX.of_raise {f : Addr} {oc : Value} {od an : Option Addr} {osl : Array (Option Value)} {name qual : Str} {params : Arguments} {body : List Stmt} {scope : Scope} {dV kV doc pm cdv ct : Value} {bs : List Bd} {ps : List Str} (n : Nat)
    (ok : C.Ok) (gl : Gl K p loose mg mb C.G) (hA : AOk (n + 1) A) (hfr : A.frames = some outer) (hlT : ∀ L ∈ frs outer, L ∉ C.T) (hB : ∀ L ∈ frs outer, C.B.get? L = none)
    (ho : K.lookup f = some ⟨oc, od, .func (fnOf name qual params body scope dV kV doc pm an cdv ct), osl⟩) (hcd : codeIn K cdv qual = true)
    (hbind : ∀ (s : Shared) (vs : List Value), C.Am s → vs.length = bs.length → BindsTo s (fnOf name qual params body scope dV kV doc pm an cdv ct) ⟨vs, []⟩ (ps.zip vs)) (hps : ps.Nodup)
    (hkind : ∀ x ∈ ps, scope.names.lookup x = some .local ∨ (scope.names.lookup x = some .cell ∧ ∀ L, ((cellsFrom (L + 1) scope.names []).lookup x).isSome = true))
    (hco : scope.isCoroutine = false) (hgen : scope.isGenerator = false) (hk : scope.kind = .function)
    (h : ∀ L, (C.inner (ownW L scope)).Ok → Wok (C.inner (ownW L scope)) (envX qual scope L f cdv (cellsFrom (L + 1) scope.names [])) (ownW L scope) → AOk n (A.deeper (envX qual scope L f cdv (cellsFrom (L + 1) scope.names []))) →
      PBR prog w (C.inner (ownW L scope)) (A.deeper (envX qual scope L f cdv (cellsFrom (L + 1) scope.names []))) (envX qual scope L f cdv (cellsFrom (L + 1) scope.names [])) (ownW L scope) (ps.zip bs) body cls) :
    COkX prog w C A outer (.ref f) bs cls := fun s vs Q E a l fs sk hv q =>
  enter_core n ok gl hA ho hcd hbind hps hkind hco hgen hk a l fs hv fun L s₁ ok' wok hA' a₁ l₁ f₁ v₁ kk hos hg hfresh =>
    h L ok' wok hA' s₁ _ _ a₁ l₁ f₁ v₁ fun e h' vs' s₂ ev₂ a₂ f₂ hx => by
      have hoW : ∀ b ∈ frs outer, b ∉ ownW L scope := fun b hb hw => by
        obtain ⟨env, he, hf⟩ := List.mem_filterMap.mp hb
        obtain ⟨_, L', m, h2, o, _, _, ho, _⟩ := sk env he
        rw [h2] at hf; cases hf
        rw [hfresh _ hw] at ho; cases ho
      have ev₀ : Ev (ownW L scope ++ C.T) (frs outer ++ C.F) s s₂ := (Ev.of_keeps kk hos hg).trans (ev₂.mono (fun t ht => ht) fun t ht => List.mem_append_right _ (List.mem_append_right _ ht))
      have sk₂ : Stk outer s₂ := sk.ev ev₀ fun b hb q => (List.mem_append.mp q).elim (hoW b hb) (hlT b hb)
      obtain ⟨m, hm⟩ := f₂.ns
      have skA : Stk (envX qual scope L f cdv (cellsFrom (L + 1) scope.names []) :: outer) s₂ := fun env he => by
        rcases List.mem_cons.mp he with rfl | he
        · exact ⟨by show scope.kind ≠ .module; rw [hk]; decide, L, m, rfl, hm⟩
        · exact sk₂ env he
      have hfsk : ∀ b ∈ frs outer, ∃ m, s₂.heap.Ns b m := fun b hb => by
        obtain ⟨env, he, hf⟩ := List.mem_filterMap.mp hb
        obtain ⟨_, L', m, h2, h3⟩ := sk₂ env he
        rw [h2] at hf; cases hf
        exact ⟨m, h3⟩
      refine wpAny_leaves_madeW (base := hideAll s₂.heap (frs (envX qual scope L f cdv (cellsFrom (L + 1) scope.names []) :: outer))) (outer := outer) (by show A.frames.map _ = _; rw [hfr]; rfl) rfl (fun b o e => of_hideAll _ e) (Stk.fun rfl skA fun _ h => h) hx fun h'' t hfl htup htn hup => q e _ ?_
      have hnf : ∀ b o₀, s.heap.get? b = some o₀ → b ∉ frs outer → b ∉ frs (envX qual scope L f cdv (cellsFrom (L + 1) scope.names []) :: outer) := fun b o₀ e₀ n q => by
        rcases List.mem_cons.mp (show b ∈ L :: frs outer from q) with rfl | q
        · rw [hfresh _ List.mem_cons_self] at e₀; cases e₀
        · exact n q
      have kb : ∀ b o, s₂.heap.get? b = some o → (∃ o₀, s.heap.get? b = some o₀) → b ∉ frs outer → h''.get? b = some o := fun b o e ⟨o₀, e₀⟩ n => hfl.1 b o (hideAll_get _ e (hnf b o₀ e₀ n))
      obtain ⟨ev₃, a₃⟩ := fly_step (h := s₂.heap) (h₂ := s₂.heap) (base := s₂.heap) ok a₂.out a.live ev₀ hB hfresh kb (fun b m hn => hup.ns (hn.keeps hx.keeps)) hfsk
      exact ⟨⟨_, _, hfl, fun b o e n _ => by
        obtain ⟨o', e'⟩ := ev₀.live b o e
        exact ⟨o', hideAll_get _ e' (hnf b o e n)⟩⟩, ev₃, a₃⟩

theorem COkX.through {f : Addr} {oc : Value} {od an : Option Addr} {osl : Array (Option Value)} {name qual : Str} {params : Arguments} {body : List Stmt} {scope : Scope} {dV kV doc pm cdv ct : Value} {bs : List Bd} {ps : List Str} (n : Nat)
    (ok : C.Ok) (gl : Gl K p loose mg mb C.G) (hA : AOk (n + 1) A) (hfr : A.frames = some outer) (hlT : ∀ L ∈ frs outer, L ∉ C.T) (hB : ∀ L ∈ frs outer, C.B.get? L = none)
    (ho : K.lookup f = some ⟨oc, od, .func (fnOf name qual params body scope dV kV doc pm an cdv ct), osl⟩) (hcd : codeIn K cdv qual = true)
    (hbind : ∀ (s : Shared) (vs : List Value), C.Am s → vs.length = bs.length → BindsTo s (fnOf name qual params body scope dV kV doc pm an cdv ct) ⟨vs, []⟩ (ps.zip vs)) (hps : ps.Nodup)
    (hkind : ∀ x ∈ ps, scope.names.lookup x = some .local ∨ (scope.names.lookup x = some .cell ∧ ∀ L, ((cellsFrom (L + 1) scope.names []).lookup x).isSome = true))
    (hco : scope.isCoroutine = false) (hgen : scope.isGenerator = false) (hk : scope.kind = .function)
    (h : ∀ L, (C.inner (ownW L scope)).Ok → Wok (C.inner (ownW L scope)) (envX qual scope L f cdv (cellsFrom (L + 1) scope.names [])) (ownW L scope) → AOk n (A.deeper (envX qual scope L f cdv (cellsFrom (L + 1) scope.names []))) →
      (A.deeper (envX qual scope L f cdv (cellsFrom (L + 1) scope.names []))).frames = some (envX qual scope L f cdv (cellsFrom (L + 1) scope.names []) :: outer) →
      (∀ b ∈ frs (envX qual scope L f cdv (cellsFrom (L + 1) scope.names []) :: outer), b ∉ C.T) → (∀ b ∈ frs (envX qual scope L f cdv (cellsFrom (L + 1) scope.names []) :: outer), C.B.get? b = none) → (∀ b ∈ frs (envX qual scope L f cdv (cellsFrom (L + 1) scope.names []) :: outer), b ∈ ownW L scope → b = L) →
      PBX prog w (C.inner (ownW L scope)) (A.deeper (envX qual scope L f cdv (cellsFrom (L + 1) scope.names []))) (envX qual scope L f cdv (cellsFrom (L + 1) scope.names []) :: outer) (envX qual scope L f cdv (cellsFrom (L + 1) scope.names [])) (ownW L scope) (ps.zip bs) body cls) :
    COkX prog w C A outer (.ref f) bs cls := fun s vs Q E a l fs sk hv q =>
  enter_core n ok gl hA ho hcd hbind hps hkind hco hgen hk a l fs hv fun L s₁ ok' wok hA' a₁ l₁ f₁ v₁ kk hos hg hfresh => by
    have hoW : ∀ b ∈ frs outer, b ∉ ownW L scope := fun b hb hw => by
      obtain ⟨env, he, hf⟩ := List.mem_filterMap.mp hb
      obtain ⟨_, L', m, h2, o, _, _, ho, _⟩ := sk env he
      rw [h2] at hf; cases hf
      rw [hfresh _ hw] at ho; cases ho
    obtain ⟨m₁, hm₁⟩ := id f₁.ns
    have skA : Stk (envX qual scope L f cdv (cellsFrom (L + 1) scope.names []) :: outer) s₁ := fun env he => by
      rcases List.mem_cons.mp he with rfl | he
      · exact ⟨by show scope.kind ≠ .module; rw [hk]; decide, L, m₁, rfl, hm₁⟩
      · obtain ⟨h1, L', m, h2, h3⟩ := sk env he
        exact ⟨h1, L', m, h2, h3.keeps kk⟩
    refine h L ok' wok hA' (by show A.frames.map _ = _; rw [hfr]; rfl) (fun b hb => ?_) (fun b hb => ?_) (fun b hb hw => ?_) s₁ _ _ a₁ l₁ skA f₁ v₁ fun e s₂ fl => ?_
    · rcases List.mem_cons.mp (show b ∈ L :: frs outer from hb) with rfl | hb
      · exact wok.WT _ wok.loc
      · exact hlT b hb
    · rcases List.mem_cons.mp (show b ∈ L :: frs outer from hb) with rfl | hb
      · exact wok.new _ wok.loc
      · exact hB b hb
    · rcases List.mem_cons.mp (show b ∈ L :: frs outer from hb) with rfl | hb
      · rfl
      · exact absurd hw (hoW b hb)
    obtain ⟨⟨base, a0, hfl, hbase⟩, ev₂, a₂⟩ := fl
    have hnf : ∀ b o₀, s.heap.get? b = some o₀ → b ∉ frs outer → b ∉ frs (envX qual scope L f cdv (cellsFrom (L + 1) scope.names []) :: outer) := fun b o₀ e₀ n q => by
      rcases List.mem_cons.mp (show b ∈ L :: frs outer from q) with rfl | q
      · rw [hfresh _ List.mem_cons_self] at e₀; cases e₀
      · exact n q
    have hbs : ∀ b o, s.heap.get? b = some o → b ∉ frs outer → ∃ o', base.get? b = some o' := fun b o e n =>
      hbase b o (kk b o e) (hnf b o e n) fun q => by rw [hfresh b q] at e; cases e
    refine wpAny_leaves_onW (base := base) (outer := outer) (by show A.frames.map _ = _; rw [hfr]; rfl) rfl hfl fun h'' hfl'' hup => q e _ ?_
    have ev₀ : Ev (ownW L scope ++ C.T) (frs outer ++ C.F) s s₂ := by
      have e1 : Ev (L :: ownW L scope ++ C.T) (frs outer ++ C.F) s s₂ := (Ev.of_keeps kk hos hg).trans (ev₂.mono (fun t ht => List.mem_cons_of_mem _ ht) fun t ht => by
        rcases List.mem_append.mp ht with ht | ht
        · rcases List.mem_cons.mp (show t ∈ L :: frs outer from ht) with rfl | ht
          · exact List.mem_append_left _ List.mem_cons_self
          · exact List.mem_append_right _ (List.mem_append_left _ ht)
        · exact List.mem_append_right _ (List.mem_append_right _ ht))
      exact e1.mono (fun t ht => by
        rcases List.mem_cons.mp ht with rfl | ht
        · exact List.mem_append_left _ List.mem_cons_self
        · exact ht) fun t ht => List.mem_append_right _ ht
    have sk₂ : Stk outer s₂ := sk.ev ev₀ fun b hb q => (List.mem_append.mp q).elim (hoW b hb) (hlT b hb)
    have hfsk : ∀ b ∈ frs outer, ∃ m, s₂.heap.Ns b m := fun b hb => by
      obtain ⟨env, he, hf⟩ := List.mem_filterMap.mp hb
      obtain ⟨_, L', m, h2, h3⟩ := sk₂ env he
      rw [h2] at hf; cases hf
      exact ⟨m, h3⟩
    have kb : ∀ b o, s₂.heap.get? b = some o → (∃ o₀, s.heap.get? b = some o₀) → b ∉ frs outer → h''.get? b = some o := fun b o e ⟨o₀, e₀⟩ n => by
      obtain ⟨o', e'⟩ := hbs b o₀ e₀ n
      have := hfl.1 b o' e'
      rw [e] at this; cases this
      exact hfl''.1 b o e'
    obtain ⟨ev₃, a₃⟩ := fly_step (h := s₂.heap) (h₂ := s₂.heap) (base := s₂.heap) ok a₂.out a.live ev₀ hB hfresh kb (fun b m hn => hup.ns hn) hfsk
    exact ⟨⟨base, a0, hfl'', fun b o e n _ => hbs b o e n⟩, ev₃, a₃⟩

theorem PEX.callF {x : Str} {px pos : Pos} {f : Addr} {es : List Expr} {PL : List Bd → Prop} {o : Obj} {fd : FuncData} {env : Env} {ρ : Rho} {l : List Env} (ok : C.Ok) (gl : Gl K p loose mg mb C.G) (hn : nsIn K mainGlobals x = some (some (.ref f))) (ho : K.lookup f = some o) (hfn : o.data = .func fd) (hlT : ∀ L ∈ frs l, L ∉ C.T) (ha : PEL prog w C A env ρ es PL) (h : ∀ bs, PL bs → COkX prog w C A l (.ref f) bs cls)
    (hg : env.globals = mainGlobals := by rfl) (hk : env.scope.kind = .function := by rfl) (hx : env.kindOf x = some .globalImplicit := by rfl)
    (hd : (x == ("__debug__" : Str)) = false := by decide)
    (hsh : ∃ y r, backTo pos (starEach es env) = (false, y) :: r := by exact ⟨_, _, rfl⟩) : PEX prog w C A l env ρ (.Call (.Name x px) es [] pos) cls := fun s Q E a lv sk v q => by
  refine wpAny_Call_NameR (PE.glob (ρ := ρ) gl hn hg hk hx hd s _ _ a lv v fun u b s₁ ev₁ a₁ p₁ r₁ => ?_)
  subst p₁; cases r₁
  obtain ⟨y, r, hsh⟩ := hsh
  refine callWith_function (o := o) (fd := fd) ?_
  rw [hsh]
  refine evalArgs_plain ?_
  rw [← hsh]
  refine ha pos s₁ _ _ a₁ (lv.ev ev₁) (v.ev ok ev₁) fun vs bs s₂ ev₂ a₂ p₂ r₂ => ?_
  refine ⟨⟨a₂.g _ _ (gl.K _ _ ho), hfn⟩, h bs p₂ s₂ vs _ _ a₂ ((lv.ev ev₁).ev ev₂) (((v.ev ok ev₁).ev ok ev₂).fs) ((sk.ev ev₁ hlT).ev ev₂ hlT) r₂ fun e s' fl => q e s' ⟨?_, ?_, fl.am⟩⟩
  · obtain ⟨base, a0, hf, hb⟩ := fl.fly
    refine ⟨base, a0, hf, fun b o e n1 n2 => ?_⟩
    obtain ⟨o', e'⟩ := (ev₁.trans ev₂).live b o e
    exact hb b o' e' n1 n2
  · exact ((ev₁.trans ev₂).mono (fun t ht => ht) fun t ht => List.mem_append_right _ (List.mem_append_right _ ht)).trans fl.ev

theorem PBR.raise {B Bn newId nid initId inN : String} {bm bmN : List Value} {x : Str} {Cc : Addr} {np cpos pos : Pos} {e₀ : Expr} {es : List Expr} {PL : List Bd → Prop} {rest : List Stmt} {env : Env} {W : List Addr} {ρ : Rho} (ok : C.Ok) (kw : Wok C env W) (gl : Gl K p loose mg mb C.G) (hh : A.handled = none) (Fn : ExcBaseFacts Bn newId inN bmN) (hBn : bm.contains (.type Bn) = true) (F : ExcBaseFacts B nid initId bm) (hn : nsIn K mainGlobals x = some (some (.ref Cc))) (O : OwnCls x Cc bm newId mg C.G)
    (ha : PEL prog w C A env ρ (e₀ :: es) PL) (hz : (e₀ :: es).length ≤ 8) (hPL : ∀ bs, PL bs → bs.length ≤ 8)
    (hg : env.globals = mainGlobals := by rfl) (hk : env.scope.kind = .function := by rfl) (hx : env.kindOf x = some .globalImplicit := by rfl)
    (hd : (x == ("__debug__" : Str)) = false := by decide)
    (hsh : ∃ y r, backTo cpos (starEach (e₀ :: es) env) = (false, y) :: r := by exact ⟨_, _, rfl⟩) (hpl : (backTo cpos (starEach (e₀ :: es) env)).any (·.1) = false := by rfl) :
    PBR prog w C A env W ρ (.Raise (some (.Call (.Name x np) (e₀ :: es) [] cpos)) none pos :: rest) (.ref Cc) := fun s Q E a lv f v q => by
  obtain ⟨tl, N, nm, qn, bs, hdct, sn, sub, ab, col, dd, k0, k1, k2, k3, k5, mN, hC, hN, hni, T⟩ := O.obj
  refine wpAny_execs_cons (wpAny_Raise_call_subU (C := Cc) (nm := nm) (q := qn) (N := N) (bs := bs) (bm := tl) (hdct := hdct) (sn := sn) (sub := sub) (ab := ab) (col := col) (dd := dd) (k0 := k0) (k1 := k1) (k2 := k2) (k3 := k3) (k5 := k5) Fn hBn F (mN := mN) (T.hasType F.hasBase) hh hpl hni ?_)
  refine PE.glob (ρ := ρ) gl hn hg hk hx hd s _ _ a lv v fun u b s₁ ev₁ a₁ p₁ r₁ => ?_
  subst p₁; cases r₁
  refine ⟨rfl, ?_⟩
  obtain ⟨y, r, hsh⟩ := hsh
  rw [hsh]
  refine evalArgs_plain ?_
  rw [← hsh]
  refine ha cpos s₁ _ _ a₁ (lv.ev ev₁) (v.ev ok ev₁) fun vs bs' s₂ ev₂ a₂ p₂ r₂ => ?_
  have hlen : vs.length ≤ sizeLine := by
    have := hPL _ p₂
    rw [r₂.length]
    exact Nat.le_trans this (by decide)
  exact ⟨rfl, hlen, a₂.g _ _ hC, hN.keeps a₂.g, T.keeps a₂.g, fun h' e hm => q e h' vs s₂ (Ev.wide (ev₁.trans ev₂)) a₂ ((f.ev' ev₁ kw).ev' ev₂ kw) hm⟩

variable {env : Env} {W : List Addr} {ρ : Rho} {e : Expr} {pos : Pos} {l : List Env}
theorem Fly.wide {s s' : Shared} {e : Addr} {W : List Addr} (x : Fly C [] l cls s e s') : Fly C W l cls s e s' :=
  ⟨let ⟨b, a0, h1, h2⟩ := x.fly; ⟨b, a0, h1, fun b o e n _ => h2 b o e n (fun q => nomatch q)⟩, x.ev.mono (fun t ht => List.mem_append_right _ ht) (fun t ht => List.mem_append_right _ ht), x.am⟩
theorem PBX.assignTup {elts : List Expr} {kk : Nat} {tpos : Pos} {rest : List Stmt} (h : PEX prog w C A l env ρ e cls)
    (hs : swapsWithSole [.Tuple elts kk tpos] e pos.line env = pure false := by rfl)
    (hw : swappedStores [.Tuple elts kk tpos] e env = pure none := by rfl) : PBX prog w C A l env W ρ (.Assign [.Tuple elts kk tpos] e pos :: rest) cls := fun s Q E a lv sk f v q =>
  wpAny_execs_cons (Assign_Tuple (h s _ _ a lv sk v fun e s' fl => q e s' fl.wide) hs hw)
theorem PBX.ret {rest : List Stmt} (h : PEX prog w C A l env ρ e cls) : PBX prog w C A l env W ρ (.Return (some e) pos :: rest) cls := fun s Q E a lv sk f v q =>
  wpAny_execs_cons (wpAny_Return_some (h s _ _ a lv sk v fun e s' fl => q e s' fl.wide))

/-- try: body; the body gives back -/
theorem PB.tryOk {P : Bd → Prop} {body rest : List Stmt} {h₀ : ExceptHandler} {hs : List ExceptHandler} (h : PB prog w C A env W ρ body P) : PB prog w C A env W ρ (.Try body (h₀ :: hs) [] [] pos :: rest) P := fun s Q E a lv f v q =>
  wpAny_execs_cons (wpAny_Try_except (h s _ _ a lv f v fun u b s' ev a' p r => q u b s' ev a' p r))

theorem noRaise {α : Type} {M : Model} {A : Around} {E : Value → Shared → Prop} {s : Shared} {t : Sem α} {Q : α → Shared → Prop} (h : wpAny M A t Q (fun _ _ => False) s) : wpAny M A t Q E s := wpAny_mono h (fun _ _ x => x) (fun _ _ x => x.elim)

/-- try: body except X: return none; the body raises X -/
theorem PB.tryX {P : Bd → Prop} {rest : List Stmt} {x : Str} {np hpos rpos bpos : Pos} {re ce : Expr} {Cc : Addr} {outer : List Env} {hs : List ExceptHandler} (ok : C.Ok) (kw : Wok C env W) (gl : Gl K p loose mg mb C.G) (hfr : A.frames = some (env :: outer)) (hef : env.frame = some env.locals) (hon : ∀ b ∈ frs outer, b ∈ C.F) (hB : ∀ L ∈ frs outer, C.B.get? L = none)
    (hex : ∀ s, C.Am s → Fs C s → Stk outer s) (hn : nsIn K mainGlobals x = some (some (.ref Cc))) (hq : ktsIn K Cc "BaseException" = true)
    (h : PEX prog w C A (env :: outer) env ρ ce (.ref Cc)) (hr : ∀ A', PE prog w C A' env ρ re P) 
    (hg : env.globals = mainGlobals := by rfl) (hk : env.scope.kind = .function := by rfl) (hx : env.kindOf x = some .globalImplicit := by rfl)
    (hd : (x == ("__debug__" : Str)) = false := by decide) :
    PB prog w C A env W ρ (.Try [.Return (some ce) bpos] (.ExceptHandler (some (.Name x np)) none [.Return (some re) rpos] hpos :: hs) [] [] pos :: rest) P := fun s Q E a lv f v q => by
  obtain ⟨m, hm⟩ := id f.ns
  have sk : Stk (env :: outer) s := fun env' he => by
    rcases List.mem_cons.mp he with rfl | he
    · exact ⟨by rw [hk]; decide, env'.locals, m, hef, hm⟩
    · exact hex s a v.fs env' he
  refine wpAny_execs_cons (wpAny_Try_except (wpAny_execs_cons (wpAny_Return_some (h s _ _ a lv sk v fun e s' fl => ?_))))
  obtain ⟨⟨base, a0, hfl, hbase⟩, ev, am⟩ := fl
  refine wpAny_looks_onW hfr hef hfl fun h₄ hheld₄ hsm₄ => ?_
  refine wpAny_landsW hheld₄ fun h₅ hheld₅ hsm₅ => ?_
  have hfrs : ∀ b, b ∈ frs (env :: outer) → b = env.locals ∨ b ∈ frs outer := fun b hb => by
    have : frs (env :: outer) = env.locals :: frs outer := by unfold frs; rw [List.filterMap_cons, hef]
    rw [this] at hb
    exact List.mem_cons.mp hb
  have hGB : ∀ b o, C.G.get? b = some o → base.get? b = some o := fun b o e => by
    have h1 := a.g b o e
    obtain ⟨ob, eb⟩ := ok.GB b o e
    have hbW : b ∉ W := fun hw => by rw [kw.new b hw] at eb; cases eb
    obtain ⟨o', e'⟩ := hbase b o h1 (fun hb => by
      rcases hfrs b hb with rfl | hb
      · exact hbW kw.loc
      · rw [hB b hb] at eb; cases eb) (fun q => nomatch q)
    have h2 := hfl.1 b o' e'
    rw [am.g b o e] at h2; cases h2
    exact e'
  have hG₅ : ∀ b o, C.G.get? b = some o → h₅.get? b = some o := fun b o e => hheld₅.1 b o (hGB b o e)
  obtain ⟨ob, hob, hobc⟩ := Heap.FlyingW.there hheld₅
  obtain ⟨nm, q', N, bs, bm, hdct, sn, sub, ab, col, dd, k0, k1, k2, k3, k5, newId, hC, hbaseE, hbT⟩ := kts_cls gl.K hq
  refine wpAny_handleBy_cons (codeAny_handlers_test (Name_function_global hk hx (loadGlobal_global (hg ▸ gl.T.g.keeps hG₅) (mg_of gl.K gl.T.g hn) ?_) hd)) (by intro q; cases q)
  refine wpAny_excMatches_sub_self (hG₅ _ _ hC) hob hobc hbaseE (codeAny_handlers_suite ?_)
  refine lands_againW hheld₅ fun h₆ hfl₆ hsm₆ => ?_
  have up : s'.heap.UpToSlots h₆ := (hsm₄.trans hsm₅).trans hsm₆
  have kb : ∀ b o, s'.heap.get? b = some o → (∃ o₀, s.heap.get? b = some o₀) → b ∉ frs (env :: outer) → h₆.get? b = some o := fun b o e ⟨o₀, e₀⟩ n => by
    obtain ⟨o', e'⟩ := hbase b o₀ e₀ n (fun q => nomatch q)
    have := hfl.1 b o' e'
    rw [e] at this; cases this
    exact hfl₆.1 b o e'
  have hfH : ∀ b ∈ frs (env :: outer), b ∈ C.H := fun b hb => (hfrs b hb).elim (fun q => q ▸ kw.WH _ kw.loc) fun q => ok.FH _ (hon b q)
  have keepA : ∀ b o, s.heap.get? b = some o → b ∉ C.T → b ∉ C.F → b ∉ frs (env :: outer) → h₆.get? b = some o := fun b o e n1 n2 n3 =>
    kb b o (ev.keep b o e fun q => (List.mem_append.mp q).elim (fun q => n1 q) fun q => (List.mem_append.mp q).elim n3 n2) ⟨o, e⟩ n3
  have nsA : ∀ b m, s.heap.Ns b m → b ∉ C.T → h₆.Ns b m := fun b m hn n => up.ns (ev.ns b m hn n)
  have liveA : ∀ b o, s.heap.get? b = some o → ∃ o', h₆.get? b = some o' := fun b o e => by
    obtain ⟨o', e'⟩ := ev.live b o e
    by_cases hb : b ∈ frs (env :: outer)
    · have : ∃ m, s.heap.Ns b m := (hfrs b hb).elim (fun q => ⟨m, q ▸ hm⟩) fun q => v.fs b (hon b q)
      obtain ⟨m', hm'⟩ := this
      have hbT : b ∉ C.T := (hfrs b hb).elim (fun q => q ▸ kw.WT _ kw.loc) fun q => ok.FT _ (hon b q)
      obtain ⟨o'', _, _, h1, _⟩ := nsA b m' hm' hbT
      exact ⟨o'', h1⟩
    · exact ⟨o', kb b o' e' ⟨o, e⟩ hb⟩
  have ev₆ : Ev (W ++ C.T) C.F s { s' with heap := h₆ } := by
    refine ⟨fun b o e n => keepA b o e (fun q => n (List.mem_append_left _ (List.mem_append_right _ q))) (fun q => n (List.mem_append_right _ q)) fun q => n ?_, fun b m hn n => nsA b m hn fun q => n (List.mem_append_right _ q), liveA, ev.os, ev.gens⟩
    exact (hfrs b q).elim (fun q => List.mem_append_left _ (List.mem_append_left _ (q ▸ kw.loc))) fun q => List.mem_append_right _ (hon b q)
  have am₆ : C.Am { s' with heap := h₆ } := am.stab' ok fun b o o₀ e₀ e => by
    obtain ⟨o', e'⟩ := a.live b o₀ e₀
    refine kb b o e ⟨o', e'⟩ fun hb => ?_
    rcases hfrs b hb with rfl | hb
    · rw [kw.new _ kw.loc] at e₀; cases e₀
    · rw [hB b hb] at e₀; cases e₀
  have vw₆ : Vw C env ρ { s' with heap := h₆ } := by
    refine ⟨fun y b hy => ?_, fun b hb => let ⟨m, h⟩ := v.fs b hb; ⟨m, nsA b m h (ok.FT b hb)⟩⟩
    obtain ⟨u, h1, h2⟩ := v.look y b hy
    refine ⟨u, h1.mono fun b o e n => ⟨keepA b o e (fun q => n (ok.TH _ q)) (fun q => n (ok.FH _ q)) fun q => n (hfH b q), n⟩, ?_⟩
    rcases h2 with ⟨h3, h4, m', hm', hv⟩ | ⟨c, h3, h4, o, ho, hd⟩
    · exact .inl ⟨h3, h4, m', nsA _ _ hm' h4, hv⟩
    · refine .inr ⟨c, h3, h4, o, keepA c o ho (fun q => h4 (List.mem_append_left _ q)) (fun q => h4 (List.mem_append_right _ q)) fun q => ?_, hd⟩
      rcases hfrs c q with rfl | q
      · obtain ⟨o', _, _, ho', hd', _⟩ := hm
        rw [ho] at ho'; cases ho'
        rw [hd] at hd'; cases hd'
      · exact h4 (List.mem_append_right _ (hon c q))
  refine wpAny_execs_cons (wpAny_Return_some (hr _ _ _ _ am₆ (fun t ht => let ⟨o, e⟩ := lv t ht; liveA t o e) vw₆ fun u b s₇ ev₇ a₇ p₇ r₇ => ?_))
  exact q u b s₇ (ev₆.trans (Ev.wide ev₇)) a₇ p₇ r₇
end
end Mine
end

section
open PySem PySem.W PySem.Calls PyProof.Rows
set_option Elab.async false
namespace Mine

theorem xor_and_nat : ∀ (n a b : Nat), a ≤ n → (a ^^^ b) + 2 * (a &&& b) = a + b
  | 0, a, b, h => by
    have : a = 0 := by omega
    subst this
    simp
  | n + 1, a, b, h => by
    by_cases h0 : a = 0
    · subst h0; simp
    · have ih := xor_and_nat n (a / 2) (b / 2) (by omega)
      have e1 : (a ^^^ b) / 2 = a / 2 ^^^ b / 2 := Nat.xor_div_two
      have e2 : (a &&& b) / 2 = a / 2 &&& b / 2 := Nat.and_div_two
      have e3 : (a ^^^ b) % 2 = (a % 2 + b % 2) % 2 := by
        have := @Nat.xor_mod_two_pow a b 1
        simp only [Nat.pow_one] at this
        rw [this]
        rcases Nat.mod_two_eq_zero_or_one a with p | p <;> rcases Nat.mod_two_eq_zero_or_one b with q | q <;> rw [p, q] <;> rfl
      have e4 : (a &&& b) % 2 = (a % 2) * (b % 2) := by
        have := @Nat.and_mod_two_pow a b 1
        simp only [Nat.pow_one] at this
        rw [this]
        rcases Nat.mod_two_eq_zero_or_one a with p | p <;> rcases Nat.mod_two_eq_zero_or_one b with q | q <;> rw [p, q] <;> rfl
      rw [← e1, ← e2] at ih
      generalize (a ^^^ b) = x at ih e3 ⊢
      generalize (a &&& b) = y at ih e4 ⊢
      rcases Nat.mod_two_eq_zero_or_one a with p | p <;> rcases Nat.mod_two_eq_zero_or_one b with q | q <;> rw [p, q] at e3 e4 <;> omega

theorem bitAnd_nat (a b : Nat) : Builtin.bitAnd (a : Int) (b : Int) = ((a &&& b : Nat) : Int) := by
  rw [bitAnd_pp (by omega) (by omega)]
  simp
theorem bitXor_nat (a b : Nat) : Builtin.bitXor (a : Int) (b : Int) = ((a ^^^ b : Nat) : Int) := by
  rw [bitXor_and, bitAnd_nat]
  have := xor_and_nat a a b (Nat.le_refl _)
  omega
theorem fdiv_pow_nat (a k : Nat) : Int.fdiv (a : Int) (2 ^ k) = ((a >>> k : Nat) : Int) := by
  rw [Nat.shiftRight_eq_div_pow, Int.fdiv_eq_ediv_of_nonneg _ (by exact_mod_cast Nat.zero_le _)]
  push_cast
  rfl
theorem mul_pow_nat (a k : Nat) : (a : Int) * 2 ^ k = ((a <<< k : Nat) : Int) := by
  rw [Nat.shiftLeft_eq]
  push_cast
  rfl

def TAPS : List Nat := [0, 996825010, 642813549, 490396127, 513874426, 634080840, 955357079, 60538917, 1027748829, 103310447, 454213040, 544795138, 602090023, 411663765, 95659082, 1054471160, 705979059, 293483777, 205843678, 925809516, 884308809, 266284283, 317060388, 697279126, 391532910, 742131420, 822533891, 174885041, 167200916, 849157926, 799524601, 349016395]
def pstep (c v : Nat) : Nat := ((c &&& 33554431) <<< 5) ^^^ v ^^^ TAPS.getD (c >>> 25) 0
def pmod (vs : List Nat) : Nat := vs.foldl pstep 1

theorem taps_lt (k : Nat) : TAPS.getD k 0 < 2 ^ 30 := by
  by_cases h : k < 32
  · have : ∀ k, k < 32 → TAPS.getD k 0 < 2 ^ 30 := by decide
    exact this k h
  · rw [List.getD_eq_getElem?_getD, List.getElem?_eq_none (by simp [TAPS]; omega)]
    decide
theorem pstep_lt {c v : Nat} (hv : v < 32) : pstep c v < 2 ^ 30 := by
  unfold pstep
  refine Nat.xor_lt_two_pow (Nat.xor_lt_two_pow ?_ ?_) (taps_lt _)
  · have : c &&& 33554431 ≤ 33554431 := Nat.and_le_right
    rw [Nat.shiftLeft_eq]
    omega
  · omega
theorem foldl_pstep_lt : ∀ (vs : List Nat) (c : Nat), c < 2 ^ 30 → (∀ v ∈ vs, v < 32) → vs.foldl pstep c < 2 ^ 30
  | [], _, h, _ => h
  | v :: r, c, _, hb => foldl_pstep_lt r _ (pstep_lt (hb v (.head _))) fun x hx => hb x (.tail _ hx)
theorem pmod_lt {vs : List Nat} (hb : ∀ v ∈ vs, v < 32) : pmod vs < 2 ^ 30 := foldl_pstep_lt vs 1 (by decide) hb
theorem pmod_take_succ {vs : List Nat} {i : Nat} {v : Nat} (h : vs[i]? = some v) : pmod (vs.take (i + 1)) = pstep (pmod (vs.take i)) v := by
  unfold pmod
  rw [List.take_add_one, h, List.foldl_append]
  rfl
end Mine
end

section
open PySem PySem.W PyProof.Rows
set_option Elab.async false
namespace Mine
set_option maxRecDepth 100000 in
set_option maxHeartbeats 8000000 in
open_shared top01 for PySem.Challenge.pw_fc0024_01 leaving 0
set_option maxRecDepth 100000 in
set_option maxHeartbeats 8000000 in
open_top hd01 for PySem.Challenge.rw_fc0024_01
end Mine
end

section
open PySem PySem.W PySem.Calls PyProof.Rows
set_option Elab.async false
set_option linter.unusedVariables false
set_option maxRecDepth 100000
set_option maxHeartbeats 4000000
namespace Mine

theorem filled (P : Params) (h : Heap) (x : (hd01.heap_39 P).In h) : (hd01.heap_39 P).In h ∧ PySem.Challenge.rw_fc0024_01 = PySem.Challenge.rw_fc0024_01 := by
  k_fill
  exact ⟨x, rfl⟩
abbrev PG : Program := PySem.Challenge.rw_fc0024_01.row.prog
def natsD (ns : List Nat) : List PyData := ns.map fun (n : Nat) => .int n
section
variable {w : World} {C : Cx} {A : Around} {p : Program} {loose : List Str} {mg mb : Str → Option Value}

theorem list_at {K : Frag} {G : Heap} {a : Addr} {od : Option Addr} {vs : Array Value} {n : Nat} {osl : Array (Option Value)} {is : List Int} (X : K.In G) (ho : K.lookup a = some ⟨.type "list", od, .seq vs n, osl⟩) (hi : intsOf vs.toList = some is) : ∃ as, Reads G (.ref a) (.list (is.map .int)) as :=
  reads_ints_at (X _ _ ho) rfl rfl hi
theorem taps_at (gl : Gl (hd01.heap_39 w.params) p loose mg mb C.G) : ∃ as, Reads C.G (.ref 66) (.list (natsD TAPS)) as := by
  have h : ∃ as, Reads C.G (.ref 66) (.list ((TAPS.map fun (n : Nat) => (n : Int)).map .int)) as := by
    refine' list_at gl.K ?ho ?hi
    case ho => k_is
    case hi => rfl
  rwa [List.map_map] at h

theorem polymod_ok {ns : List Nat} (ok : C.Ok) (gl : Gl (hd01.heap_39 w.params) p loose mg mb C.G) (hA : AOk 2 A) (hb : ∀ n ∈ ns, n < 32) (hz : ns.length ≤ sizeLine) : COk PG w C A (.ref 82) [BL (natsD ns)] (· = BI (pmod ns)) := by
  refine' COk.enter 1 ok gl hA ?ho ?hcd (ps := ["values"]) ?hbind ?hps ?hkind ?hco ?hgen ?hk ?h
  case ho => k_is
  case hcd => k_is
  case hbind => intro vs h; match vs, h with | [v], _ => rfl
  case hps => decide
  case hkind => intro x hx; exact .inl (by rw [List.mem_singleton.mp hx]; rfl)
  case hco => rfl
  case hgen => rfl
  case hk => rfl
  case h =>
    intro L ok' wok hA'
    refine PB.cons1 (PT.assign1 ok' wok (PE.int ok')) ?_
    refine PB.cons (PT.for (Iv := fun i ρ => ρ.lookup (Str.ofString "chk") = some (BI (pmod (ns.take i)))) ok' wok hA'.1 rfl rfl (PI.list (PE.name rfl)) rfl ?body) ?rest
    case body =>
      intro I i d ρ' ok₂ wok₂ hd hI
      obtain ⟨n, hn, rfl⟩ : ∃ n, ns[i]? = some n ∧ d = .int (n : Nat) := by
        unfold natsD at hd
        rw [List.getElem?_map] at hd
        cases e : ns[i]? with
        | none => rw [e] at hd; cases hd
        | some n => rw [e] at hd; exact ⟨n, rfl, by cases hd; rfl⟩
      have hlt : n < 32 := hb _ (List.mem_of_getElem? hn)
      have hc : pmod (ns.take i) < 2 ^ 30 := pmod_lt fun x hx => hb x (List.mem_of_mem_take hx)
      have hchk : ((Str.ofString "value", Bd.d (.int (n : Int))) :: ρ').lookup (Str.ofString "chk") = some (BI (pmod (ns.take i))) := hI
      refine PTs.cons (PT.assign1 (b := BI (pmod (ns.take (i + 1)))) ok₂ wok₂ ?e) fun ρ'' h => PTs.nil.mono fun b hb => ?_
      case e =>
        have hidx : pmod (ns.take i) >>> 25 < 32 := by rw [Nat.shiftRight_eq_div_pow]; omega
        refine PE.mono (PE.xor ok₂ (PE.xor ok₂ (PE.shl ok₂ (PE.and ok₂ (PE.name hchk) (PE.int ok₂)) (PE.int ok₂) (by decide) (by decide) ?b1) (PE.name (b := BI n) rfl)) (PE.itemL1 (k := pmod (ns.take i) >>> 25) (d := .int (TAPS.getD (pmod (ns.take i) >>> 25) 0 : Nat)) ok₂ (PE.globL ok₂ gl ?gk (taps_at gl)) (PE.mono (PE.shr ok₂ (PE.name hchk) (PE.int ok₂) (by decide)) ?b3) ?b4 ?b5)) ?b6
        case gk => k_is
        case b1 =>
          rw [show (33554431 : Int) = ((33554431 : Nat) : Int) from rfl, bitAnd_nat]
          have : pmod (ns.take i) &&& 33554431 ≤ 33554431 := Nat.and_le_right
          omega
        case b3 =>
          rintro b rfl
          rw [show ((25 : Int)).toNat = 25 from rfl, fdiv_pow_nat]
        case b4 =>
          unfold natsD
          rw [List.getElem?_map, List.getD_eq_getElem?_getD, List.getElem?_eq_getElem (show pmod (ns.take i) >>> 25 < TAPS.length from hidx)]
          rfl
        case b5 => decide
        case b6 =>
          rintro b rfl
          rw [show (33554431 : Int) = ((33554431 : Nat) : Int) from rfl, bitAnd_nat, show ((5 : Int)).toNat = 5 from rfl, mul_pow_nat, bitXor_nat, bitXor_nat, pmod_take_succ hn]
          rfl
      · subst hb h; rfl
    case rest =>
      intro ρ' h
      have hl : (natsD ns).length = ns.length := by simp [natsD]
      rw [hl, List.take_length] at h
      exact PB.ret (PE.name h)

theorem str_from_ok {x y : Str} (ok : C.Ok) (gl : Gl (hd01.heap_39 w.params) p loose mg mb C.G) (hA : AOk 2 A) : COk PG w C A (.ref 58) [BS x, BS y] (· = BS x) := by
  refine' COk.enter 1 ok gl hA ?ho ?hcd (ps := [Str.ofString "s", Str.ofString "what"]) ?hbind ?hps ?hkind ?hco ?hgen ?hk ?h
  case ho => k_is
  case hcd => k_is
  case hbind => intro vs h; match vs, h with | [v, u], _ => rfl
  case hps => decide
  case hkind => intro x hx; exact .inl (by rcases List.mem_cons.mp hx with rfl | hx; rfl; rw [List.mem_singleton.mp hx]; rfl)
  case hco => rfl
  case hgen => rfl
  case hk => rfl
  case h =>
    intro L ok' wok hA'
    refine PB.ifT ok' wok (PC.value1 ok' (PE.callB ok' (PE.builtin gl ?gk rfl) (PEL.cons1 ok' (PE.name rfl) (PEL.one ok' (PE.builtin gl ?k2 rfl))) (fun bs h => h ▸ COk.isStr ok')) Tru.bool) (PB.ret (PE.name rfl))
    case gk => k_is
    case k2 => k_is
theorem is_integer_ok {i : Int} (ok : C.Ok) (gl : Gl (hd01.heap_39 w.params) p loose mg mb C.G) (hA : AOk 2 A) : COk PG w C A (.ref 65) [BI i] (· = BB true) := by
  refine' COk.enter 1 ok gl hA ?ho ?hcd (ps := [Str.ofString "value"]) ?hbind ?hps ?hkind ?hco ?hgen ?hk ?h
  case ho => k_is
  case hcd => k_is
  case hbind => intro vs h; match vs, h with | [v], _ => rfl
  case hps => decide
  case hkind => intro x hx; exact .inl (by rw [List.mem_singleton.mp hx]; rfl)
  case hco => rfl
  case hgen => rfl
  case hk => rfl
  case h =>
    intro L ok' wok hA'
    refine PB.ret (PE.and2 (r₁ := true) ok' (PE.callB ok' (PE.builtin gl ?gk rfl) (PEL.cons1 ok' (PE.name rfl) (PEL.one ok' (PE.builtin gl ?k2 rfl))) (fun bs h => h ▸ COk.isInt ok')) (fun _ => (PE.not1 ok' (PE.callB ok' (PE.builtin gl ?k3 rfl) (PEL.cons1 ok' (PE.name rfl) (PEL.one ok' (PE.builtin gl ?k4 rfl))) (fun bs h => h ▸ COk.isBoolI ok')) Tru.bool)) (fun h => by cases h))
    case gk => k_is
    case k2 => k_is
    case k3 => k_is
    case k4 => k_is

def hexp (l : List Nat) : List Nat := l.map (· >>> 5) ++ [0] ++ l.map (· &&& 31)
def mkS (l : List Nat) : Str := ⟨l.toArray⟩
theorem signs_mkS (l : List Nat) : signsD (mkS l) = l.map fun c => .str ⟨#[c]⟩ := by simp [signsD, mkS]
theorem length_mkS (l : List Nat) : (mkS l).length = l.length := by simp [mkS, Str.length]
/-- the number under the datum of one sign -/
def ordD : PyData → Nat | .str x => x.cps.getD 0 0 | _ => 0

theorem hrp_expand_ok {l : List Nat} (ok : C.Ok) (gl : Gl (hd01.heap_39 w.params) p loose mg mb C.G) (hA : AOk 2 A) (hz : l.length ≤ 1000) : COk PG w C A (.ref 87) [BS (mkS l)] (· = BL (natsD (hexp l))) := by
  refine' COk.enter 1 ok gl hA ?ho ?hcd (ps := [Str.ofString "hrp"]) ?hbind ?hps ?hkind ?hco ?hgen ?hk ?h
  case ho => k_is
  case hcd => k_is
  case hbind => intro vs h; match vs, h with | [v], _ => rfl
  case hps => decide
  case hkind => intro x hx; exact .inl (by rw [List.mem_singleton.mp hx]; rfl)
  case hco => rfl
  case hgen => rfl
  case hk => rfl
  case h =>
    intro L ok' wok hA'
    have hsz : (signsD (mkS l)).length ≤ sizeLine := by rw [signs_mkS, List.length_map]; exact Nat.le_trans hz (by decide)
    have hsl : sizeLine = 2 ^ 24 := rfl
    refine PB.ret (PE.mono (PE.catL ok' (PE.catL ok' (PE.compMap (ρ' := []) (f := fun d => .int ((ordD d >>> 5 : Nat) : Int)) ok' hA'.1 (PI.str (PE.name rfl)) hsz rfl (by decide) rfl (by decide) rfl (fun _ => Sub.nil) ?e1)
      (PE.list (ds := [.int 0]) ok' (PEL.one ok' (PE.int ok')) (by decide) fun bs h => ⟨h, by decide⟩) ?s1) (PE.compMap (ρ' := []) (f := fun d => .int ((ordD d &&& 31 : Nat) : Int)) ok' hA'.1 (PI.str (PE.name rfl)) hsz rfl (by decide) rfl (by decide) rfl (fun _ => Sub.nil) ?e2) ?s2) ?fin)
    case e1 =>
      intro I D Cc i d ok₂ hd
      rw [signs_mkS, List.getElem?_map] at hd
      cases e : l[i]? with
      | none => rw [e] at hd; cases hd
      | some c =>
        rw [e] at hd; cases hd
        refine PE.mono (PE.shr ok₂ (PE.callB ok₂ (PE.builtin gl ?gk rfl) (PEL.one ok₂ (PE.name rfl)) fun bs h => h ▸ COk.ord ok₂) (PE.int ok₂) (by decide)) ?m
        case gk => k_is
        case m => rintro b rfl; rw [show ((5 : Int)).toNat = 5 from rfl, fdiv_pow_nat]; rfl
    case e2 =>
      intro I D Cc i d ok₂ hd
      rw [signs_mkS, List.getElem?_map] at hd
      cases e : l[i]? with
      | none => rw [e] at hd; cases hd
      | some c =>
        rw [e] at hd; cases hd
        refine PE.mono (PE.and ok₂ (PE.callB ok₂ (PE.builtin gl ?gk rfl) (PEL.one ok₂ (PE.name rfl)) fun bs h => h ▸ COk.ord ok₂) (PE.int ok₂)) ?m
        case gk => k_is
        case m => rintro b rfl; rw [show (31 : Int) = ((31 : Nat) : Int) from rfl, bitAnd_nat]; rfl
    case s1 => simp [signs_mkS]; omega
    case s2 => simp [signs_mkS]; omega
    case fin =>
      rintro b rfl
      simp only [signs_mkS, natsD, hexp, List.map_append, List.map_map]
      rfl

theorem natsD_append (a b : List Nat) : natsD (a ++ b) = natsD a ++ natsD b := by simp [natsD]
theorem length_natsD (a : List Nat) : (natsD a).length = a.length := by simp [natsD]
theorem hexp_lt {l : List Nat} (h : ∀ c ∈ l, c < 1024) : ∀ n ∈ hexp l, n < 32 := by
  intro n hn
  unfold hexp at hn
  simp only [List.mem_append, List.mem_map, List.mem_singleton] at hn
  rcases hn with (⟨c, hc, rfl⟩ | rfl) | ⟨c, hc, rfl⟩
  · have := h c hc; rw [Nat.shiftRight_eq_div_pow]; omega
  · decide
  · have : c &&& 31 ≤ 31 := Nat.and_le_right; omega
theorem length_hexp (l : List Nat) : (hexp l).length = 2 * l.length + 1 := by simp [hexp]; omega

theorem verify_ok {l ds : List Nat} {m : Int} (ok : C.Ok) (gl : Gl (hd01.heap_39 w.params) p loose mg mb C.G) (hA : AOk 4 A) (hl : ∀ c ∈ l, c < 1024) (hd : ∀ d ∈ ds, d < 32) (hz : l.length ≤ 1000) (hz2 : ds.length ≤ 1000) :
    COk PG w C A (.ref 106) [BS (mkS l), BL (natsD ds), BI m] (· = BB ((pmod (hexp l ++ ds) : Int) == m)) := by
  refine' COk.enter 3 ok gl hA ?ho ?hcd (ps := [Str.ofString "hrp", Str.ofString "data", Str.ofString "m"]) ?hbind ?hps ?hkind ?hco ?hgen ?hk ?h
  case ho => k_is
  case hcd => k_is
  case hbind => intro vs h; match vs, h with | [v, u, t], _ => rfl
  case hps => decide
  case hkind => intro x hx; simp only [List.mem_cons, List.not_mem_nil, or_false] at hx; rcases hx with rfl | rfl | rfl <;> exact .inl rfl
  case hco => rfl
  case hgen => rfl
  case hk => rfl
  case h =>
    intro L ok' wok hA'
    have hs : sizeLine = 2 ^ 24 := rfl
    refine' PB.ret (PE.cmp1 (b₁ := BI (pmod (hexp l ++ ds))) ok' (PE.callF (PL := (· = [BL (natsD (hexp l ++ ds))])) ok' gl ?g1 ?g2 ?g3 (PEL.one ok' (PE.mono (PE.catL ok' (PE.callF ok' gl ?g4 ?g5 ?g6 (PEL.one ok' (PE.name rfl)) (fun bs h => h ▸ hrp_expand_ok ok' gl (hA'.mono (by decide)) hz)) (PE.name (b := BL (natsD ds)) rfl) ?z1) fun b h => ?e1)) fun bs h => h ▸ polymod_ok ok' gl (hA'.mono (by decide)) ?b1 ?z2) (PE.name (b := BI m) rfl) Cmp.intEq)
    case g1 => k_is
    case g2 => k_is
    case g3 => rfl
    case g4 => k_is
    case g5 => k_is
    case g6 => rfl
    case z1 => rw [length_natsD, length_natsD, length_hexp]; omega
    case e1 => rw [h, natsD_append]
    case b1 => intro n hn; exact (List.mem_append.mp hn).elim (hexp_lt hl n) (hd n)
    case z2 => rw [List.length_append, length_hexp]; omega

/-- the six numbers of the check -/
def ckl (vs : List Nat) (m : Nat) : List Nat := (List.range 6).map fun i => ((pmod (vs ++ [0, 0, 0, 0, 0, 0]) ^^^ m) >>> (5 * (5 - i))) &&& 31
theorem rangeD_get {n i : Nat} {d : PyData} (h : (rangeD n)[i]? = some d) : i < n ∧ d = .int (i : Nat) := by
  have hi : i < n := by
    have := (List.getElem?_eq_some_iff.mp h).1
    simpa [rangeD] using this
  refine ⟨hi, ?_⟩
  simp [rangeD, hi] at h
  exact h.symm
def intD : PyData → Nat | .int i => i.toNat | _ => 0

theorem create_ok {l ds : List Nat} {m : Nat} (ok : C.Ok) (gl : Gl (hd01.heap_39 w.params) p loose mg mb C.G) (hA : AOk 4 A) (hl : ∀ c ∈ l, c < 1024) (hd : ∀ d ∈ ds, d < 32) (hz : l.length ≤ 1000) (hz2 : ds.length ≤ 1000) :
    COk PG w C A (.ref 92) [BS (mkS l), BL (natsD ds), BI m] (· = BL (natsD (ckl (hexp l ++ ds) m))) := by
  refine' COk.enter 3 ok gl hA ?ho ?hcd (ps := [Str.ofString "hrp", Str.ofString "data", Str.ofString "m"]) ?hbind ?hps ?hkind ?hco ?hgen ?hk ?h
  case ho => k_is
  case hcd => k_is
  case hbind => intro vs h; match vs, h with | [v, u, t], _ => rfl
  case hps => decide
  case hkind => intro x hx; simp only [List.mem_cons, List.not_mem_nil, or_false] at hx; rcases hx with rfl | rfl | rfl <;> exact .inl rfl
  case hco => rfl
  case hgen => rfl
  case hk => rfl
  case h =>
    intro L ok' wok hA'
    have hs : sizeLine = 2 ^ 24 := rfl
    refine' PB.cons1 (PT.assign1 (b := BL (natsD (hexp l ++ ds))) ok' wok (PE.mono (PE.catL ok' (PE.callF ok' gl ?g4 ?g5 ?g6 (PEL.one ok' (PE.name rfl)) (fun bs h => h ▸ hrp_expand_ok ok' gl (hA'.mono (by decide)) hz)) (PE.name (b := BL (natsD ds)) rfl) ?z1) fun b h => ?e1)) ?_
    case g4 => k_is
    case g5 => k_is
    case g6 => rfl
    case z1 => rw [length_natsD, length_natsD, length_hexp]; omega
    case e1 => rw [h, natsD_append]
    refine' PB.cons1 (PT.assign1 (b := BI ((pmod ((hexp l ++ ds) ++ [0, 0, 0, 0, 0, 0]) ^^^ m : Nat) : Int)) ok' wok (PE.mono (PE.xor ok' (PE.callF (PL := (· = [BL (natsD ((hexp l ++ ds) ++ [0, 0, 0, 0, 0, 0]))])) ok' gl ?g1 ?g2 ?g3
      (PEL.one ok' (PE.list ok' (PEL.star ok' (PE.name (b := BL (natsD (hexp l ++ ds))) rfl) ?z3 (PEL.cons1 ok' (PE.int ok') (PEL.cons1 ok' (PE.int ok') (PEL.cons1 ok' (PE.int ok') (PEL.cons1 ok' (PE.int ok') (PEL.cons1 ok' (PE.int ok') (PEL.one ok' (PE.int ok')))))))) (by decide) ?p1)) fun bs h => h ▸ polymod_ok ok' gl (hA'.mono (by decide)) ?b1 ?z2) (PE.name (b := BI m) rfl)) ?e2)) ?_
    case g1 => k_is
    case g2 => k_is
    case g3 => rfl
    case z3 => rw [length_natsD, List.length_append, length_hexp]; omega
    case p1 =>
      rintro bs rfl
      refine ⟨?_, ?_⟩
      · rw [natsD_append (hexp l ++ ds), List.map_append]; rfl
      · rw [length_natsD]; simp [length_hexp]; omega
    case b1 =>
      intro n hn
      rcases List.mem_append.mp hn with hn | hn
      · exact (List.mem_append.mp hn).elim (hexp_lt hl n) (hd n)
      · simp at hn; omega
    case z2 => simp [length_hexp]; omega
    case e2 => rintro b rfl; rw [bitXor_nat]
    refine PB.ret (PE.mono (PE.compMap (ρ' := [(Str.ofString "polymod", BI ((pmod ((hexp l ++ ds) ++ [0, 0, 0, 0, 0, 0]) ^^^ m : Nat) : Int))]) (f := fun d => .int ((((pmod ((hexp l ++ ds) ++ [0, 0, 0, 0, 0, 0]) ^^^ m) >>> (5 * (5 - intD d))) &&& 31 : Nat) : Int)) ok' hA'.1 (PI.range (n := 6) ok' gl ?gr (by decide) (PE.int ok')) (by decide) rfl (by decide) rfl (by decide) rfl (fun _ => Sub.cons rfl (.inl rfl) rfl Sub.nil) ?elt) ?fin)
    case gr => k_is
    case elt =>
      intro I D Cc i d ok₂ hd
      obtain ⟨hi, rfl⟩ := rangeD_get hd
      refine PE.mono (PE.and ok₂ (PE.shr ok₂ (PE.name rfl) (PE.mul ok₂ (PE.int ok₂) (PE.sub ok₂ (PE.int ok₂) (PE.name rfl)) ?mf) ?nn) (PE.int ok₂)) ?m
      case mf => exact IntMulOk.of_right (PySem.intBits_le_64 (by omega) (by omega))
      case nn => omega
      case m =>
        rintro b rfl
        have h5 : ((5 : Int) * (5 - (i : Int))).toNat = 5 * (5 - i) := by omega
        rw [h5, fdiv_pow_nat, show (31 : Int) = ((31 : Nat) : Int) from rfl, bitAnd_nat]
        rfl
    case fin =>
      rintro b rfl
      simp only [rangeD, natsD, ckl, List.map_map]
      rfl

def inR (c : Nat) : Bool := decide ((32 : Int) < (c : Int)) && decide ((c : Int) < 127)
theorem signs_get {l : List Nat} {i : Nat} {d : PyData} (h : (signsD (mkS l))[i]? = some d) : ∃ c, l[i]? = some c ∧ d = .str ⟨#[c]⟩ := by
  rw [signs_mkS, List.getElem?_map] at h
  cases e : l[i]? with
  | none => rw [e] at h; cases h
  | some c => rw [e] at h; exact ⟨c, rfl, by cases h; rfl⟩

theorem all_range (l : List Nat) (f : Nat → Bool) : (List.range l.length).all (fun i => f (l.getD i 0)) = l.all f := by
  rw [Bool.eq_iff_iff, List.all_eq_true, List.all_eq_true]
  constructor
  · intro h c hc
    obtain ⟨i, hi, rfl⟩ := List.getElem_of_mem hc
    have := h i (List.mem_range.mpr hi)
    rwa [List.getD_eq_getElem?_getD, List.getElem?_eq_getElem hi] at this
  · intro h i hi
    have hi := List.mem_range.mp hi
    rw [List.getD_eq_getElem?_getD, List.getElem?_eq_getElem hi]
    exact h _ (List.getElem_mem hi)
theorem hrp_in_range_ok {l : List Nat} (ok : C.Ok) (gl : Gl (hd01.heap_39 w.params) p loose mg mb C.G) (hA : AOk 3 A) (hct : ((74, 70) : Addr × Addr) ∈ C.tabs) (hcd : CodeHd C.G 74 70) : COk PG w C A (.ref 75) [BS (mkS l)] (· = BB (l.all inR)) := by
  refine' COk.enter 2 ok gl hA ?ho ?hcd (ps := [Str.ofString "text"]) ?hbind ?hps ?hkind ?hco ?hgen ?hk ?h
  case ho => k_is
  case hcd => k_is
  case hbind => intro vs h; match vs, h with | [v], _ => rfl
  case hps => decide
  case hkind => intro x hx; exact .inl (by rw [List.mem_singleton.mp hx]; rfl)
  case hco => rfl
  case hgen => rfl
  case hk => rfl
  case h =>
    intro L ok' wok hA'
    refine PB.ret (PE.mono (PE.allGen (tr := fun i => inR (l.getD i 0)) (c := 74) (P := 70) ok' gl ?gk (hA'.mono (by decide)) hct hcd rfl (PI.str (PE.name rfl)) rfl rfl (by decide) rfl rfl rfl ?helt) ?fin)
    case gk => k_is
    case helt =>
      intro code Cg A' E' i d s₁ u s₂ m₂ hh hd hr hn hm hk
      obtain ⟨c, hc, rfl⟩ := signs_get hd
      obtain ⟨t, rfl⟩ := Rep.str_inv hr
      refine Compare_chain (wpAny_Constant_int (chain_link (wpAny_Call_NameR (Name_function_global rfl rfl (loadGlobal_builtin (gl.T.g.keeps hk) (mg_none_of gl.K gl.T.g ?gk2) (gl.T.b.keeps hk) ((gl.T.builtins _ (by decide)).trans (rfl : bootBuiltins (Str.ofString "ord") = some (.builtin "ord")))
        (callWith_builtin rfl (Calls.evalArgs_plain (Calls.spliced_cons (wpAny_Name (wpAny_loadName_local rfl rfl hn hm (Calls.spliced_nil (P.ord_of_char (PyProof.Rows.lt_int (wpAny_truthy_bool ?_))))))))))))))
      case gk2 => k_is
      have hg : l.getD i 0 = c := by rw [List.getD_eq_getElem?_getD, hc]; rfl
      cases h1 : decide ((32 : Int) < (c : Int)) with
      | false => exact ⟨by rw [hg]; unfold inR; rw [h1]; rfl, s₂.heap, _, rfl, fun _ _ e => e⟩
      | true => exact chain_last (wpAny_Constant_int (PyProof.Rows.lt_int ⟨by rw [hg]; unfold inR; rw [h1]; rfl, s₂.heap, _, rfl, fun _ _ e => e⟩))
    case fin =>
      rintro b rfl
      have hl : (signsD (mkS l)).length = l.length := by rw [signs_mkS, List.length_map]
      rw [hl, all_range]
end
end Mine
end

section
open PySem PySem.W PySem.Calls PyProof.Rows
set_option Elab.async false
set_option linter.unusedVariables false
set_option maxRecDepth 100000
set_option maxHeartbeats 4000000
namespace Mine
theorem filled3 (P : Params) (h : Heap) (x : (hd01.heap_39 P).In h) : (hd01.heap_39 P).In h ∧ PySem.Challenge.rw_fc0024_01 = PySem.Challenge.rw_fc0024_01 := by
  k_fill
  exact ⟨x, rfl⟩
section
variable {w : World} {C : Cx} {A : Around} {p : Program} {loose : List Str} {mg mb : Str → Option Value}

def ALPH : List Nat := [113, 112, 122, 114, 121, 57, 120, 56, 103, 102, 50, 116, 118, 100, 119, 48, 115, 51, 106, 110, 53, 52, 107, 104, 99, 101, 54, 109, 117, 97, 55, 108]
def sgn (d : Nat) : Nat := ALPH.getD d 0
/-- the text that encode gives -/
def encL (l ds : List Nat) (m : Nat) : List Nat := l ++ [49] ++ (ds ++ ckl (hexp l ++ ds) m).map sgn
theorem natsD_get {ds : List Nat} {i : Nat} {d : PyData} (h : (natsD ds)[i]? = some d) : ∃ n : Nat, ds[i]? = some n ∧ d = .int (n : Int) := by
  unfold natsD at h
  rw [List.getElem?_map] at h
  cases e : ds[i]? with
  | none => rw [e] at h; cases h
  | some n => rw [e] at h; exact ⟨n, rfl, by cases h; rfl⟩
theorem ckl_lt {vs : List Nat} {m : Nat} : ∀ n ∈ ckl vs m, n < 32 := by
  intro n hn
  unfold ckl at hn
  obtain ⟨i, _, rfl⟩ := List.mem_map.mp hn
  have : ((pmod (vs ++ [0, 0, 0, 0, 0, 0]) ^^^ m) >>> (5 * (5 - i))) &&& 31 ≤ 31 := Nat.and_le_right
  omega
theorem length_ckl (vs : List Nat) (m : Nat) : (ckl vs m).length = 6 := by simp [ckl]

theorem map_range_getD {β : Type} (cs : List Nat) (f : Nat → β) : (List.range cs.length).map (fun i => f (cs.getD i 0)) = cs.map f := by
  refine List.ext_getElem (by simp) fun j h1 h2 => ?_
  have hj : j < cs.length := by simpa using h2
  rw [List.getElem_map, List.getElem_map, List.getElem_range, List.getD_eq_getElem?_getD, List.getElem?_eq_getElem hj]
  rfl
theorem join_signs (cs : List Nat) : Txt.join (Str.ofString "") ((List.range cs.length).map fun i => ⟨#[sgn (cs.getD i 0)]⟩) = mkS (cs.map sgn) := by
  rw [map_range_getD cs fun n => (⟨#[sgn n]⟩ : Str)]
  have := join_nil_signs (mkS (cs.map sgn))
  rw [show signs (mkS (cs.map sgn)) = cs.map fun n => (⟨#[sgn n]⟩ : Str) from by simp [signs, mkS]] at this
  exact (StrLaws.glued_eq_join _ _).trans this
theorem mkS_append (a b : List Nat) : mkS a ++ mkS b = mkS (a ++ b) := by
  show (⟨a.toArray ++ b.toArray⟩ : Str) = ⟨(a ++ b).toArray⟩
  rw [List.append_toArray]
theorem alph_get : ∀ n : Nat, n < 32 → (seqIndex? (n : Int) (Str.ofString "qpzry9x8gf2tvdw0s3jn54khce6mua7l").length).bind ((Str.ofString "qpzry9x8gf2tvdw0s3jn54khce6mua7l").cps[·]?) = some (sgn n) := by decide +kernel
theorem sgn_lt : ∀ n : Nat, sgn n < 128 := by
  intro n
  unfold sgn
  by_cases h : n < 32
  · revert n; decide
  · rw [List.getD_eq_getElem?_getD, List.getElem?_eq_none (by simp [ALPH]; omega)]; decide
theorem encode_ok {l ds : List Nat} {m : Nat} (ok : C.Ok) (gl : Gl (hd01.heap_39 w.params) p loose mg mb C.G) (hA : AOk 6 A) (hct : ((74, 70) : Addr × Addr) ∈ C.tabs) (hcd : CodeHd C.G 74 70) (hct2 : ((126, 122) : Addr × Addr) ∈ C.tabs) (hcd2 : CodeHd C.G 126 122)
    (hl : ∀ c ∈ l, c < 128) (hr : l.all inR = true) (hlow : Txt.lower (mkS l) = mkS l) (h0 : l ≠ []) (hd : ∀ d ∈ ds, d < 32) (hz : l.length ≤ 1000) (hz2 : ds.length ≤ 1000) :
    COk PG w C A (.ref 127) [BS (mkS l), BL (natsD ds), BI m] (isAsc (mkS (encL l ds m))) := by
  refine' COk.enterB 5 ok gl hA ?ho ?hcd (ps := [Str.ofString "hrp", Str.ofString "data", Str.ofString "m"]) ?hbind ?hps ?hkind ?hco ?hgen ?hk ?h
  case ho => k_is
  case hcd => k_is
  case hbind =>
    intro s vs a h
    match vs, h with
    | [v, u, t], _ =>
      refine' BindsTo.of_defaults rfl ?hd0 ?hs0 ?h1 ?h2
      case hd0 => exact a.g _ _ (gl.K _ _ (by k_is))
      case hs0 => rfl
      case h1 => rfl
      case h2 => rfl
  case hps => decide
  case hkind => intro x hx; simp only [List.mem_cons, List.not_mem_nil, or_false] at hx; rcases hx with rfl | rfl | rfl <;> exact .inl rfl
  case hco => rfl
  case hgen => rfl
  case hk => rfl
  case h =>
    intro L ok' wok hA'
    have hs : sizeLine = 2 ^ 24 := rfl
    have hzs : (mkS l).length ≤ sizeLine := by rw [length_mkS]; omega
    refine' PB.cons1 (PT.ifF ok' wok (PC.not1 (PC.value1 (r := true) ok' (PE.callB ok' (PE.builtin gl ?gk rfl) (PEL.cons1 ok' (PE.name rfl) (PEL.one ok' (PE.builtin gl ?gk2 rfl))) (fun bs h => h ▸ COk.isStr ok')) Tru.bool))) ?_
    case gk => k_is
    case gk2 => k_is
    refine' PB.cons1 (PT.ifF ok' wok (PC.not1 (PC.value1 (r := true) ok' (PE.name rfl) ?tr))) ?_
    case tr => exact Tru.strT ok' hzs (by rw [length_mkS]; exact fun q => h0 (List.length_eq_zero_iff.mp q))
    refine' PB.cons1 (PT.ifF ok' wok (PC.not1 (PC.value1 (r := true) ok' (PE.callF ok' gl ?g1 ?g2 ?g3 (PEL.one ok' (PE.name rfl)) (fun bs h => h ▸ hrp_in_range_ok ok' gl (hA'.mono (by decide)) hct hcd)) (hr ▸ Tru.bool)))) ?_
    case g1 => k_is
    case g2 => k_is
    case g3 => rfl
    have hsh : SeqAt.shaped (.str (mkS l)) = true := by
      unfold SeqAt.shaped
      rw [Bool.and_eq_true]
      refine ⟨?_, by simp [PyData.depth]⟩
      show (mkS l).cps.all (· < 0x110000) = true
      rw [Array.all_eq_true']
      intro c hc
      have := hl c (by simpa [mkS] using hc)
      simp; omega
    refine' PB.cons1 (PT.ifF ok' wok (PC.cmp1 ok' (PE.name rfl) (PE.lower ok' (PE.name rfl) (by rw [length_mkS]; omega)) ?c1)) ?_
    case c1 => exact Cmp.neR hsh (by rw [hlow]; exact hsh) hA'.u (by rw [hlow]; simp [PyData.eqv])
    refine' PB.cons (PT.for (Iv := fun _ ρ => ρ.lookup (Str.ofString "hrp") = some (BS (mkS l)) ∧ ρ.lookup (Str.ofString "data") = some (BL (natsD ds)) ∧ ρ.lookup (Str.ofString "m") = some (BI m)) ok' wok hA'.1 rfl rfl (PI.list (PE.name rfl)) ⟨rfl, rfl, rfl⟩ ?body) ?rest
    case body =>
      intro I i d ρ' ok₂ wok₂ hdd hI
      obtain ⟨n, hn, rfl⟩ := natsD_get hdd
      have hlt : n < 32 := hd n (List.mem_of_getElem? hn)
      refine' PTs.cons1 (PT.ifF ok₂ wok₂ (PC.not1 (PC.value1 (r := true) ok₂ (PE.callF ok₂ gl ?g1 ?g2 ?g3 (PEL.one ok₂ (PE.name rfl)) (fun bs h => h ▸ is_integer_ok ok₂ gl (hA'.mono (by decide)))) Tru.bool))) ?_
      case g1 => k_is
      case g2 => k_is
      case g3 => rfl
      refine' PTs.cons1 (PT.ifF ok₂ wok₂ (PC.mono (PC.not1 (PC.chain ok₂ (PE.int ok₂) (PE.name rfl) (PE.int ok₂) Cmp.intLe Cmp.intLt)) ?c)) (PTs.nil.mono fun b h => h ▸ hI)
      case c =>
        rintro b rfl
        have h1 : decide ((0 : Int) ≤ (n : Int)) = true := by simp
        have h2 : decide ((n : Int) < 32) = true := by simp; omega
        rw [h1, h2]; rfl
    case rest =>
      rintro ρ' ⟨hh, hdt, hm⟩
      refine' PB.cons1 (PT.assign1 ok' wok (PE.ifexp (r := false) ok' (PC.cmp1 ok' (PE.name hm) PE.noneC Cmp.isNone) (fun h => by cases h) fun _ => PE.name hm)) ?_
      have hh' : ((Str.ofString "m", BI (m : Int)) :: ρ').lookup (Str.ofString "hrp") = some (BS (mkS l)) := hh
      have hdt' : ((Str.ofString "m", BI (m : Int)) :: ρ').lookup (Str.ofString "data") = some (BL (natsD ds)) := hdt
      refine' PB.cons1 (PT.assign1 (b := BL (natsD (ds ++ ckl (hexp l ++ ds) m))) ok' wok (PE.mono (PE.catL ok' (PE.name hdt') (PE.callF ok' gl ?g1 ?g2 ?g3 (PEL.cons1 ok' (PE.name hh') (PEL.cons1 ok' (PE.name hdt') (PEL.one ok' (PE.name rfl)))) (fun bs h => h ▸ create_ok ok' gl (hA'.mono (by decide)) (fun c hc => Nat.lt_trans (hl c hc) (by decide)) hd hz hz2)) ?z1) fun b h => by rw [h, natsD_append])) ?_
      case g1 => k_is
      case g2 => k_is
      case g3 => rfl
      case z1 => rw [length_natsD, length_natsD, length_ckl]; omega
      have hh2 : ((Str.ofString "combined", BL (natsD (ds ++ ckl (hexp l ++ ds) m))) :: (Str.ofString "m", BI (m : Int)) :: ρ').lookup (Str.ofString "hrp") = some (BS (mkS l)) := hh
      have hlen : (natsD (ds ++ ckl (hexp l ++ ds) m)).length = ds.length + 6 := by rw [length_natsD, List.length_append, length_ckl]
      refine' PB.cons1 (PT.assign1 (b := BS (mkS (encL l ds m))) ok' wok (PE.mono (PE.cat ok' (PE.joined2 (x := mkS l) (y := Str.ofString "1") ok' ?z2 (PE.fmt ok' hzs (PE.name hh2)) (PE.str ok'))
        (PE.joinGen (sep := Str.ofString "") (tx := fun i => ⟨#[sgn ((ds ++ ckl (hexp l ++ ds) m).getD i 0)]⟩) (c := 126) (P := 122) ok' gl (PE.str ok') (hA'.mono (by decide)) hct2 hcd2 rfl (PI.list (PE.name rfl)) rfl rfl (by decide) rfl rfl rfl ?helt ?jok ?z3) ?z4) ?fin)) (PB.ret (PE.encode ok' ?asc ?ne ?z5 (PE.name rfl) (PE.str ok')))
      case z2 => rw [length_mkS, show (Str.ofString "1").length = 1 from by decide]; omega
      case helt =>
        intro code Cg A' E' i d s₁ u s₂ m₂ hA2 hd2 hr2 hn2 hm2 hk2
        obtain ⟨n, hn, rfl⟩ := natsD_get hd2
        obtain ⟨t, rfl⟩ := Rep.int_inv hr2
        have hlt : n < 32 := (List.mem_append.mp (List.mem_of_getElem? hn)).elim (hd n) (ckl_lt n)
        refine' Subscript_ (Name_function_global rfl rfl (loadGlobal_global (gl.T.g.keeps hk2) (mg_of gl.K gl.T.g ?ga) (wpAny_Name (wpAny_loadName_local rfl rfl hn2 hm2 (subT (typeIs_str _ _ _) PySem.F.slot_str_getitem.lookup rfl (PyProof.Rows.getItem_str (by simp; omega) (alph_get n hlt) ⟨?_, s₂.heap, _, rfl, fun _ _ e => e⟩))))))
        case ga => k_is
        exact ⟨_, by rw [List.getD_eq_getElem?_getD, hn]; rfl⟩
      case jok =>
        refine joinOk_of ?_
        rw [hlen, List.map_map, show (Str.ofString "").length = 0 from by decide, Nat.mul_zero, Nat.add_zero]
        have : ∀ (k : Nat), ((List.range k).map ((fun x : Str => x.length) ∘ fun i => (⟨#[sgn ((ds ++ ckl (hexp l ++ ds) m).getD i 0)]⟩ : Str))).sum = k := by
          intro k
          induction k with
          | zero => rfl
          | succ k ih => rw [List.range_succ, List.map_append, List.sum_append, ih]; rfl
        rw [this]; omega
      case z3 => rw [hlen]; omega
      case z4 =>
        rw [hlen, ← hlen, length_natsD, join_signs, str_len_append, length_mkS, length_mkS, List.length_map, show (Str.ofString "1").length = 1 from by decide, List.length_append, length_ckl]; omega
      case fin =>
        rintro b rfl
        rw [length_natsD, join_signs, show Str.ofString "1" = mkS [49] from by decide, mkS_append, mkS_append]
        rfl
      case asc => 
        intro c hc
        have hc : c ∈ encL l ds m := by simpa [mkS] using hc
        unfold encL at hc
        rcases List.mem_append.mp hc with hc | hc
        · rcases List.mem_append.mp hc with hc | hc
          · exact hl c hc
          · rw [List.mem_singleton.mp hc]; decide
        · obtain ⟨d, _, rfl⟩ := List.mem_map.mp hc
          exact sgn_lt d
      case ne => simp [mkS, encL]
      case z5 => rw [length_mkS]; simp [encL, length_ckl]; omega
end
end Mine
end

section
open PySem PySem.W PySem.Calls PyProof.Rows
set_option Elab.async false
set_option linter.unusedVariables false
set_option maxRecDepth 100000
namespace Mine
open PySem.Builtin PySem.Builtin.Str

theorem slice_nat (x : Str) {a b : Nat} (hab : a ≤ b) (hb : b ≤ x.length) : Txt.slice x (some (a : Int)) (some (b : Int)) = ⟨((x.cps.toList.drop a).take (b - a)).toArray⟩ := StrLaws.sliceText_nat x hab hb
theorem slice_idx (x : Str) {l u l' u' : Option Int} (h : strSliceIndices l u 1 x.length = strSliceIndices l' u' 1 x.length) : Txt.slice x l u = Txt.slice x l' u' := by unfold Txt.slice; rw [h]
theorem slice_drop {l : List Nat} {a : Nat} (h : a ≤ l.length) : Txt.slice (mkS l) (some (a : Int)) none = mkS (l.drop a) := by
  have hl : (mkS l).length = l.length := length_mkS l
  rw [slice_idx (mkS l) (l' := some (a : Int)) (u' := some ((mkS l).length : Int)) (StrLaws.sliceIdx_none_hi _ _), slice_nat _ (by omega) (Nat.le_refl _)]
  show (⟨((l.drop a).take ((mkS l).length - a)).toArray⟩ : Str) = ⟨(l.drop a).toArray⟩
  rw [List.take_of_length_le (by rw [List.length_drop]; omega)]
theorem slice_take {l : List Nat} {b : Nat} (h : b ≤ l.length) : Txt.slice (mkS l) none (some (b : Int)) = mkS (l.take b) := by
  have hl : (mkS l).length = l.length := length_mkS l
  rw [slice_idx (mkS l) (l' := some ((0 : Nat) : Int)) (u' := some (b : Int)) (StrLaws.sliceIdx_none_lo _ _), slice_nat _ (by omega) (by omega)]
  rfl
theorem slice_neg_lo (x : Str) {k : Nat} (h1 : 1 ≤ k) (h : k ≤ x.length) : Txt.slice x (some (-(k : Int))) none = Txt.slice x (some ((x.length - k : Nat) : Int)) none := by
  refine slice_idx x ?_
  unfold strSliceIndices
  have e1 : (-(k : Int)) < 0 := by omega
  have e2 : ¬ (((x.length - k : Nat) : Int) < 0) := by omega
  have e3 : (-(k : Int)) + (x.length : Int) = ((x.length - k : Nat) : Int) := by omega
  simp only [e1, e2, if_true, if_false, e3]
theorem slice_neg_hi (x : Str) {k : Nat} (h1 : 1 ≤ k) (h : k ≤ x.length) : Txt.slice x none (some (-(k : Int))) = Txt.slice x none (some ((x.length - k : Nat) : Int)) := by
  refine slice_idx x ?_
  unfold strSliceIndices
  have e1 : (-(k : Int)) < 0 := by omega
  have e2 : ¬ (((x.length - k : Nat) : Int) < 0) := by omega
  have e3 : (-(k : Int)) + (x.length : Int) = ((x.length - k : Nat) : Int) := by omega
  simp only [e1, e2, if_true, if_false, e3]
theorem slice_last {l : List Nat} {k : Nat} (h1 : 1 ≤ k) (h : k ≤ l.length) : Txt.slice (mkS l) (some (-(k : Int))) none = mkS (l.drop (l.length - k)) := by
  rw [slice_neg_lo _ h1 (by rw [length_mkS]; exact h), length_mkS, slice_drop (by omega)]
theorem slice_butLast {l : List Nat} {k : Nat} (h1 : 1 ≤ k) (h : k ≤ l.length) : Txt.slice (mkS l) none (some (-(k : Int))) = mkS (l.take (l.length - k)) := by
  rw [slice_neg_hi _ h1 (by rw [length_mkS]; exact h), length_mkS, slice_take (by omega)]

def lowA (c : Nat) : Nat := if 65 ≤ c ∧ c ≤ 90 then c + 32 else c
def upA (c : Nat) : Nat := if 97 ≤ c ∧ c ≤ 122 then c - 32 else c
theorem lowerOf_asc : ∀ c : Nat, c < 128 → Unicode.lowerOf c = [lowA c] := by decide +kernel
theorem upperOf_asc : ∀ c : Nat, c < 128 → Unicode.upperOf c = [upA c] := by decide +kernel
theorem flat_one (f : Nat → Nat) : ∀ l : List Nat, (l.map fun x => [f x]).flatten = l.map f
  | [] => rfl
  | a :: r => by rw [List.map_cons, List.flatten_cons, flat_one f r]; rfl
theorem flatten_single {l : List Nat} {f : Nat → Nat} {g : Nat → Nat → Array Nat} (h : ∀ i c, l[i]? = some c → g i c = #[f c]) : ((l.toArray.mapIdx g).flatten) = (l.map f).toArray := by
  apply Array.ext'
  rw [Array.toList_flatten]
  have : (l.toArray.mapIdx g).toList = l.map fun c => #[f c] := by
    refine List.ext_getElem (by simp) fun i h1 h2 => ?_
    have hi : i < l.length := by simpa using h2
    have := h i l[i] (List.getElem?_eq_getElem hi)
    simp [this]
  rw [this, List.map_map]
  simp only [Function.comp_def]
  exact flat_one f l
theorem lower_mkS {l : List Nat} (h : ∀ c ∈ l, c < 128) : Txt.lower (mkS l) = mkS (l.map lowA) := by
  unfold Txt.lower placed
  congr 1
  refine flatten_single fun i c hc => ?_
  have hc' : (mkS l).cps[i]? = some c := by simpa [mkS] using hc
  have hlt := h c (List.mem_of_getElem? hc)
  have : Unicode.lowerAt (mkS l).cps i = [lowA c] := by
    unfold Unicode.lowerAt
    rw [hc']
    have e : (c == 0x3A3) = false := by simp; omega
    simp only [e, Bool.false_and, Bool.false_eq_true, if_false]
    exact lowerOf_asc c hlt
  show (Unicode.lowerAt (mkS l).cps i).toArray = _
  rw [this]
theorem upper_mkS {l : List Nat} (h : ∀ c ∈ l, c < 128) : Txt.upper (mkS l) = mkS (l.map upA) := by
  unfold Txt.upper placed
  congr 1
  refine flatten_single fun i c hc => ?_
  show (Unicode.upperOf c).toArray = _
  rw [upperOf_asc c (h c (List.mem_of_getElem? hc))]

theorem at_one {l : List Nat} {c i : Nat} : StrLaws.At (mkS l) (mkS [c]) (mkS l).length i ↔ l[i]? = some c := by
  unfold StrLaws.At subAt
  have h1 : (mkS [c]).length = 1 := rfl
  rw [h1, length_mkS]
  show i + 1 ≤ l.length ∧ (l.toArray.extract i (i + 1) == #[c]) = true ↔ _
  constructor
  · rintro ⟨h, e⟩
    have e := eq_of_beq e
    have hi : i < l.length := by omega
    have : (l.toArray.extract i (i + 1))[0]? = some l[i] := by
      rw [Array.getElem?_extract]; simp; omega
    rw [e] at this
    rw [List.getElem?_eq_getElem hi]
    simpa using this.symm
  · intro h
    have hi := (List.getElem?_eq_some_iff.mp h).1
    refine ⟨hi, ?_⟩
    rw [beq_iff_eq]
    apply Array.ext'
    have hd : l.drop i = c :: l.drop (i + 1) := by
      rw [List.drop_eq_getElem_cons hi, (List.getElem?_eq_some_iff.mp h).2]
    rw [Array.toList_extract, List.extract_eq_take_drop]
    show (l.drop i).take (i + 1 - i) = [c]
    rw [hd, show i + 1 - i = 1 from by omega]
    rfl
theorem rfind_one {h b : List Nat} (hb : 49 ∉ b) : Txt.rfind (mkS (h ++ 49 :: b)) (mkS [49]) = h.length := by
  unfold Txt.rfind
  have hat : StrLaws.At (mkS (h ++ 49 :: b)) (mkS [49]) (mkS (h ++ 49 :: b)).length h.length := at_one.mpr (by simp)
  rcases StrLaws.last_spec (mkS (h ++ 49 :: b)) (mkS [49]) with ⟨_, hn⟩ | ⟨i, hi, ha, hl⟩
  · exact absurd hat (hn _)
  · rw [hi]
    have h1 := at_one.mp ha
    have hle : h.length ≤ i := Nat.not_lt.mp fun q => hl _ q hat
    by_cases e : i = h.length
    · rw [e]
    · rw [List.getElem?_append_right hle] at h1
      obtain ⟨j, hj⟩ : ∃ j, i - h.length = j + 1 := ⟨i - h.length - 1, by omega⟩
      rw [hj, List.getElem?_cons_succ] at h1
      exact absurd (List.mem_of_getElem? h1) hb
theorem index_sgn : ∀ n : Nat, n < 32 → occurrences (mkS ALPH) (mkS [sgn n]) 0 (mkS ALPH).length 1 = [n] := by decide +kernel
theorem alphS : Str.ofString "qpzry9x8gf2tvdw0s3jn54khce6mua7l" = mkS ALPH := by decide +kernel
end Mine
end

section
open PySem PySem.W PySem.Calls PyProof.Rows
set_option Elab.async false
set_option linter.unusedVariables false
set_option maxRecDepth 100000
namespace Mine
/-- the entries are texts' ints, hashed by the world's hash -/
inductive EntsOk (P : Params) : List DictEntry → List (Str × Int) → Prop
  | nil : EntsOk P [] []
  | cons {x : Str} {t u : Tok} {i : Int} {es : List DictEntry} {kv : List (Str × Int)} : EntsOk P es kv → EntsOk P (⟨PyData.keyHash P x, .str x t, .int i u⟩ :: es) ((x, i) :: kv)
theorem EntsOk.keys {P : Params} : ∀ {es : List DictEntry} {kv : List (Str × Int)}, EntsOk P es kv → ∀ e ∈ es, ∃ x t, e.key = .str x t ∧ e.hash = PyData.keyHash P x
  | _, _, .cons r, e, h => by
    rcases List.mem_cons.mp h with rfl | h
    · exact ⟨_, _, rfl, rfl⟩
    · exact r.keys e h
theorem EntsOk.find {P : Params} {k : Str} {i : Int} : ∀ {es : List DictEntry} {kv : List (Str × Int)}, EntsOk P es kv → kv.lookup k = some i → ∃ t, (es.find? fun e => Value.isStrOf k e.key).map (·.val) = some (.int i t)
  | _, _, .cons (x := x) (t := t0) (u := u) (i := j) r, h => by
    rw [List.lookup_cons] at h
    rw [List.find?_cons]
    cases hk : k == x with
    | true =>
      rw [hk] at h; cases h
      have : Value.isStrOf k (.str x t0) = true := by rw [eq_of_beq hk]; simp [Value.isStrOf]
      simp only [this]
      exact ⟨u, rfl⟩
    | false =>
      rw [hk] at h
      have h' : ¬ k = x := by simpa using hk
      have : Value.isStrOf k (.str x t0) = false := by
        simp [Value.isStrOf]
        exact fun q => h' q.symm
      simp only [this]
      exact r.find h
theorem map_at {prog : Program} {w : World} {K : Frag} {G : Heap} {d : Addr} {es : Array DictEntry} {n : Nat} {kv : List (Str × Int)} (X : K.In G) (ho : K.lookup d = some ⟨.type "dict", none, .dict es n, #[]⟩) (hk : EntsOk w.params es.toList kv) :
    G.MapOf (strKind prog w) d (fun k => (es.toList.find? fun e => Value.isStrOf k e.key).map (·.val)) := by
  refine ⟨_, es, n, X _ _ ho, ⟨rfl, rfl, rfl⟩, rfl, fun e he => ?_, fun k => ?_⟩
  · obtain ⟨x, t, h1, h2⟩ := hk.keys e (by simpa using he)
    refine ⟨x, ?_, h2⟩
    rw [h1]
    exact strKind_is prog w x t
  · unfold findBy
    rw [← Array.find?_toList]
    rfl
section
variable {prog : Program} {w : World} {C : Cx} {A : Around} {env : Env} {ρ : Rho} {e e₁ e₂ : Expr} {pos apos : Pos}
/-- d.get(k, dflt) of a dict of the ghost, the key there -/
theorem PE.get2 {d : Addr} {k : Str} {i j : Int} {es : List DictEntry} {kv : List (Str × Int)} (ok : C.Ok) (hd : (d == sysModules) = false) (hm : C.G.MapOf (strKind prog w) d (fun k => (es.find? fun e => Value.isStrOf k e.key).map (·.val))) (hk : EntsOk w.params es kv) (hl : kv.lookup k = some i)
    (h : PE prog w C A env ρ e (· = .r (.ref d))) (h1 : PE prog w C A env ρ e₁ (· = BS k)) (h2 : PE prog w C A env ρ e₂ (· = BI j)) (hbase : attributeBase e "get" env (eval e env) = eval e env := by rfl) (hline : (apos.endLine == pos.line) = true := by rfl)
    (hs : backTo pos (starEach [e₁, e₂] env) = [(false, eval e₁ env), (false, eval e₂ env)] := by rfl) :
    PE prog w C A env ρ (.Call (.Attribute e "get" apos) [e₁, e₂] [] pos) (· = BI i) := fun s Q E a l v q => by
  refine wpAny_Call_method2_late hbase hline hs (h s _ _ a l v fun u b s₁ ev₁ a₁ p r => ?_)
  subst p; cases r
  have hm₁ : s₁.heap.MapOf (strKind prog w) d (fun k => (es.find? fun e => Value.isStrOf k e.key).map (·.val)) := let ⟨o, es, ep, ho, r⟩ := hm; ⟨o, es, ep, a₁.g _ _ ho, r⟩
  refine ⟨"dict", "dict.get", F.plainAttrs_dict, F.slot_dict_get, F.type_dict_get, hm₁.typeIs, hm₁.noDict, wpAny_dict_get2 (knd := strKind prog w) hd ?_⟩
  refine h1 s₁ _ _ a₁ (l.ev ev₁) (v.ev ok ev₁) fun u b s₂ ev₂ a₂ p r => ?_
  subst p
  obtain ⟨t, rfl⟩ := Rep.str_inv r
  refine h2 s₂ _ _ a₂ ((l.ev ev₁).ev ev₂) ((v.ev ok ev₁).ev ok ev₂) fun u b s₃ ev₃ a₃ p r => ?_
  obtain ⟨t', ht'⟩ := hk.find hl
  refine ⟨k, _, strKind_is prog w k t, let ⟨o, es, ep, ho, r⟩ := hm; ⟨o, es, ep, a₃.g _ _ ho, r⟩, ?_⟩
  simp only [ht', Option.getD_some]
  exact q _ _ _ (((ev₁.trans ev₂).trans ev₃).trans (Ev.of_keeps (fun _ _ e => e) rfl rfl)) (a₃.keeps ok (fun _ _ e => e) rfl rfl) rfl ⟨_, .int _ _⟩

variable {l : List Nat} {n : Nat} {lower upper : Expr} {p : Pos}
theorem PE.dropS (ok : C.Ok) (h1 : PE prog w C A env ρ e₁ (· = BS (mkS l))) (hlo : PE prog w C A env ρ lower (· = BI n)) (hn : n ≤ l.length) (hz : l.length ≤ sizeLine)
    (hs : ∀ x t i, ∃ ops, subscripted (.Slice (some lower) none none p) false (.str x t) (.ref i) = operate ops (getItem (.str x t) (.ref i)) := by intros; exact ⟨_, by with_unfolding_all rfl⟩) {pos : Pos} :
    PE prog w C A env ρ (.Subscript e₁ (.Slice (some lower) none none p) pos) (· = BS (mkS (l.drop n))) := by
  have := PE.sliceS (lo := some (n : Int)) (hi := none) (lower := some lower) (upper := none) (p := p) (pos := pos) ok h1 hlo trivial (by rw [length_mkS]; exact hz) hs
  rwa [slice_drop hn] at this
theorem PE.takeS (ok : C.Ok) (h1 : PE prog w C A env ρ e₁ (· = BS (mkS l))) (hhi : PE prog w C A env ρ upper (· = BI n)) (hn : n ≤ l.length) (hz : l.length ≤ sizeLine)
    (hs : ∀ x t i, ∃ ops, subscripted (.Slice none (some upper) none p) false (.str x t) (.ref i) = operate ops (getItem (.str x t) (.ref i)) := by intros; exact ⟨_, by with_unfolding_all rfl⟩) {pos : Pos} :
    PE prog w C A env ρ (.Subscript e₁ (.Slice none (some upper) none p) pos) (· = BS (mkS (l.take n))) := by
  have := PE.sliceS (lo := none) (hi := some (n : Int)) (lower := none) (upper := some upper) (p := p) (pos := pos) ok h1 trivial hhi (by rw [length_mkS]; exact hz) hs
  rwa [slice_take hn] at this
theorem PE.lastS (ok : C.Ok) (h1 : PE prog w C A env ρ e₁ (· = BS (mkS l))) (hlo : PE prog w C A env ρ lower (· = BI (-(n : Int)))) (h0 : 1 ≤ n) (hn : n ≤ l.length) (hz : l.length ≤ sizeLine)
    (hs : ∀ x t i, ∃ ops, subscripted (.Slice (some lower) none none p) false (.str x t) (.ref i) = operate ops (getItem (.str x t) (.ref i)) := by intros; exact ⟨_, by with_unfolding_all rfl⟩) {pos : Pos} :
    PE prog w C A env ρ (.Subscript e₁ (.Slice (some lower) none none p) pos) (· = BS (mkS (l.drop (l.length - n)))) := by
  have := PE.sliceS (lo := some (-(n : Int))) (hi := none) (lower := some lower) (upper := none) (p := p) (pos := pos) ok h1 hlo trivial (by rw [length_mkS]; exact hz) hs
  rwa [slice_last h0 hn] at this
theorem PE.butLastS (ok : C.Ok) (h1 : PE prog w C A env ρ e₁ (· = BS (mkS l))) (hhi : PE prog w C A env ρ upper (· = BI (-(n : Int)))) (h0 : 1 ≤ n) (hn : n ≤ l.length) (hz : l.length ≤ sizeLine)
    (hs : ∀ x t i, ∃ ops, subscripted (.Slice none (some upper) none p) false (.str x t) (.ref i) = operate ops (getItem (.str x t) (.ref i)) := by intros; exact ⟨_, by with_unfolding_all rfl⟩) {pos : Pos} :
    PE prog w C A env ρ (.Subscript e₁ (.Slice none (some upper) none p) pos) (· = BS (mkS (l.take (l.length - n)))) := by
  have := PE.sliceS (lo := none) (hi := some (-(n : Int))) (lower := none) (upper := some upper) (p := p) (pos := pos) ok h1 trivial hhi (by rw [length_mkS]; exact hz) hs
  rwa [slice_butLast h0 hn] at this
end
end Mine
end

section
open PySem PySem.W PySem.Calls PyProof.Rows
set_option Elab.async false
set_option linter.unusedVariables false
set_option maxRecDepth 100000
set_option maxHeartbeats 4000000
namespace Mine
theorem filled4 (P : Params) (h : Heap) (x : (hd01.heap_39 P).In h) : (hd01.heap_39 P).In h ∧ PySem.Challenge.rw_fc0024_01 = PySem.Challenge.rw_fc0024_01 := by
  k_fill
  exact ⟨x, rfl⟩
theorem canLay_natsD : ∀ l : List Nat, PyData.canLayAll0 (natsD l) = true
  | [] => by simp [natsD, PyData.canLayAll0]
  | a :: r => by
    have := canLay_natsD r
    unfold natsD at this ⊢
    simp [PyData.canLayAll0, PyData.canLay0, this]
theorem depth_natsD : ∀ l : List Nat, PyData.depthAll (natsD l) ≤ 1
  | [] => by simp [natsD, PyData.depthAll]
  | a :: r => by
    have := depth_natsD r
    unfold natsD at this ⊢
    simp [PyData.depthAll, PyData.depth]
    omega
theorem any_neg : ∀ l : List Nat, ((natsD l).any fun y => PyData.eqv y (.int (-1))) = false
  | [] => rfl
  | a :: r => by
    have := any_neg r
    unfold natsD at this ⊢
    rw [List.map_cons, List.any_cons, this]
    have : PyData.eqv (.int (a : Int)) (.int (-1)) = false := by
      unfold PyData.eqv
      simp
    rw [this]; rfl
theorem shaped_mkS {l : List Nat} (h : ∀ c ∈ l, c < 128) : SeqAt.shaped (.str (mkS l)) = true := by
  unfold SeqAt.shaped
  rw [Bool.and_eq_true]
  refine ⟨?_, by simp [PyData.depth]⟩
  show (mkS l).cps.all (· < 0x110000) = true
  rw [Array.all_eq_true']
  intro c hc
  have := h c (by simpa [mkS] using hc)
  simp; omega
/-- the names of the figures of the alphabet -/
def IDX : List (Str × Int) := (List.range 32).map fun i => (mkS [sgn i], (i : Int))
theorem IDX_get : ∀ n : Nat, n < 32 → IDX.lookup (mkS [sgn n]) = some (n : Int) := by decide +kernel
section
variable {w : World} {C : Cx} {A : Around} {p : Program} {loose : List Str} {mg mb : Str → Option Value}
theorem index_at (gl : Gl (hd01.heap_39 w.params) p loose mg mb C.G) : ∃ es, C.G.MapOf (strKind PG w) 67 (fun k => (es.find? fun e => Value.isStrOf k e.key).map (·.val)) ∧ EntsOk w.params es IDX := by
  have h : ∀ {es : Array DictEntry} {n : Nat}, (hd01.heap_39 w.params).lookup 67 = some ⟨.type "dict", none, .dict es n, #[]⟩ → EntsOk w.params es.toList IDX → ∃ es, C.G.MapOf (strKind PG w) 67 (fun k => (es.find? fun e => Value.isStrOf k e.key).map (·.val)) ∧ EntsOk w.params es IDX :=
    fun ho hk => ⟨_, map_at gl.K ho hk, hk⟩
  refine' h ?ho ?hk
  case ho => k_is
  case hk =>
    show EntsOk w.params _ [(Str.ofString "q", 0), (Str.ofString "p", 1), (Str.ofString "z", 2), (Str.ofString "r", 3), (Str.ofString "y", 4), (Str.ofString "9", 5), (Str.ofString "x", 6), (Str.ofString "8", 7), (Str.ofString "g", 8), (Str.ofString "f", 9), (Str.ofString "2", 10), (Str.ofString "t", 11), (Str.ofString "v", 12), (Str.ofString "d", 13), (Str.ofString "w", 14), (Str.ofString "0", 15), (Str.ofString "s", 16), (Str.ofString "3", 17), (Str.ofString "j", 18), (Str.ofString "n", 19), (Str.ofString "5", 20), (Str.ofString "4", 21), (Str.ofString "k", 22), (Str.ofString "h", 23), (Str.ofString "c", 24), (Str.ofString "e", 25), (Str.ofString "6", 26), (Str.ofString "m", 27), (Str.ofString "u", 28), (Str.ofString "a", 29), (Str.ofString "7", 30), (Str.ofString "l", 31)]
    repeat (refine EntsOk.cons ?_)
    exact EntsOk.nil

theorem tl_take (h' b' : List Nat) : (h' ++ 49 :: b').take h'.length = h' := by simp
theorem tl_drop (h' b' : List Nat) : (h' ++ 49 :: b').drop (h'.length + 1) = b' := by
  rw [show h' ++ 49 :: b' = (h' ++ [49]) ++ b' from by simp, List.drop_left' (by simp)]
def fdD : PyData → Nat | .str x => (match (List.range 32).find? fun n => (mkS [sgn n]) == x with | some n => n | none => 0) | _ => 0
theorem fdD_sgn : ∀ n : Nat, n < 32 → fdD (.str ⟨#[sgn n]⟩) = n := by
  have : ∀ n : Nat, n < 32 → (match (List.range 32).find? fun m => (mkS [sgn m]) == mkS [sgn n] with | some n => n | none => 0) = n := by decide +kernel
  exact this

theorem decode_parts_ok {y h' b' h vs : List Nat} (ok : C.Ok) (gl : Gl (hd01.heap_39 w.params) p loose mg mb C.G) (hA : AOk 5 A) (hct : ((74, 70) : Addr × Addr) ∈ C.tabs) (hcd : CodeHd C.G 74 70)
    (hy : y = h' ++ 49 :: b') (hb' : 49 ∉ b') (hlen : h'.length = h.length) (hlow : y.map lowA = h ++ 49 :: vs.map sgn) (hasc : ∀ c ∈ y, c < 128) (hr : h'.all inR = true) (hr2 : b'.all inR = true)
    (hcase : y.map lowA = y ∨ y.map upA = y) (h0 : h ≠ []) (h6 : 6 ≤ vs.length) (hv : ∀ v ∈ vs, v < 32) (hz : h.length ≤ 500) (hz2 : vs.length ≤ 500) :
    COk PG w C A (.ref 111) [BS (mkS y)] (· = BT [.str (mkS h), .list (natsD (vs.take (vs.length - 6))), .list (natsD (vs.drop (vs.length - 6)))]) := by
  have hyl : y.length = h.length + 1 + vs.length := by
    have := congrArg List.length hlow
    simpa [Nat.add_assoc, Nat.add_comm, Nat.add_left_comm] using this
  have h1 : 1 ≤ h.length := by
    cases h with
    | nil => exact absurd rfl h0
    | cons a r => simp
  refine' COk.enter 4 ok gl hA ?ho ?hcd (ps := [Str.ofString "bech"]) ?hbind ?hps ?hkind ?hco ?hgen ?hk ?h
  case ho => k_is
  case hcd => k_is
  case hbind => intro vs h; match vs, h with | [v], _ => rfl
  case hps => decide
  case hkind => intro x hx; exact .inl (by rw [List.mem_singleton.mp hx]; rfl)
  case hco => rfl
  case hgen => rfl
  case hk => rfl
  case h =>
    intro L ok' wok hA'
    have hs : sizeLine = 2 ^ 24 := rfl
    have hu := hA'.u
    have hzl : y.length ≤ sizeLine := by omega
    have hzs : (mkS y).length ≤ sizeLine := by rw [length_mkS]; omega
    refine' PB.cons1 (PT.assign1 ok' wok (PE.callF ok' gl ?g1 ?g2 ?g3 (PEL.cons1 ok' (PE.name rfl) (PEL.one ok' (PE.str ok'))) (fun bs h => h ▸ str_from_ok ok' gl (hA'.mono (by decide))))) ?_
    case g1 => k_is
    case g2 => k_is
    case g3 => rfl
    refine' PB.cons1 (PT.assign1 (b := BI (h.length : Nat)) ok' wok (PE.mono (PE.rfind (y := Str.ofString "1") ok' (PE.name rfl) (PE.str ok')) ?e1)) ?_
    case e1 =>
      rintro b rfl
      rw [hy, show Str.ofString "1" = mkS [49] from by decide, rfind_one hb', hlen]
    refine' PB.cons1 (PT.ifF ok' wok (PC.mono (PC.cmp1 ok' (PE.name rfl) (PE.neg ok' (PE.int ok')) Cmp.intEq) ?c1)) ?_
    case c1 => rintro b rfl; simp
    refine' PB.cons1 (PT.ifF ok' wok (PC.mono (PC.cmp1 ok' (PE.name rfl) (PE.int ok') Cmp.intEq) ?c2)) ?_
    case c2 => rintro b rfl; simp; omega
    refine' PB.cons1 (PT.ifF ok' wok (PC.mono (PC.cmp1 ok' (PE.add ok' (PE.name rfl) (PE.int ok')) (PE.callB ok' (PE.builtin gl ?g4 rfl) (PEL.one ok' (PE.name rfl)) (fun bs h => h ▸ COk.lenS ok' hzs)) Cmp.intGt) ?c3)) ?_
    case g4 => k_is
    case c3 => rintro b rfl; rw [length_mkS]; simp; omega
    refine' PB.cons1 (PT.ifF ok' wok (PC.not1 (PC.value1 (r := true) ok' (PE.callF ok' gl ?g1 ?g2 ?g3 (PEL.one (b := BS (mkS h')) ok' (PE.mono (PE.takeS (n := h.length) ok' (PE.name rfl) (PE.name rfl) (by omega) hzl) ?s1)) (fun bs h => h ▸ hrp_in_range_ok ok' gl (hA'.mono (by decide)) hct hcd)) (hr ▸ Tru.bool)))) ?_
    case g1 => k_is
    case g2 => k_is
    case g3 => rfl
    case s1 => rintro b rfl; rw [hy, ← hlen, tl_take]
    refine' PB.cons1 (PT.ifF ok' wok (PC.not1 (PC.value1 (r := true) ok' (PE.callF ok' gl ?g1 ?g2 ?g3 (PEL.one (b := BS (mkS b')) ok' (PE.mono (PE.dropS (n := h.length + 1) ok' (PE.name rfl) (PE.mono (PE.add ok' (PE.name rfl) (PE.int ok')) ?n1) (by omega) hzl) ?s1)) (fun bs h => h ▸ hrp_in_range_ok ok' gl (hA'.mono (by decide)) hct hcd)) (hr2 ▸ Tru.bool)))) ?_
    case g1 => k_is
    case g2 => k_is
    case g3 => rfl
    case n1 => rintro b rfl; rfl
    case s1 => rintro b rfl; rw [hy, ← hlen, tl_drop]
    have hsy := shaped_mkS hasc
    have hlo : Txt.lower (mkS y) = mkS (h ++ 49 :: vs.map sgn) := by rw [lower_mkS hasc, hlow]
    have hup : Txt.upper (mkS y) = mkS (y.map upA) := upper_mkS hasc
    have hascl : ∀ c ∈ h ++ 49 :: vs.map sgn, c < 128 := by
      rw [← hlow]
      intro c hc
      obtain ⟨a, ha, rfl⟩ := List.mem_map.mp hc
      have := hasc a ha
      unfold lowA
      split <;> omega
    have hascu : ∀ c ∈ y.map upA, c < 128 := by
      intro c hc
      obtain ⟨a, ha, rfl⟩ := List.mem_map.mp hc
      have := hasc a ha
      unfold upA
      split <;> omega
    have hylen : (mkS y).length ≤ 5592405 := by rw [length_mkS]; omega
    refine' PB.cons1 (PT.ifF ok' wok (PC.mono (PC.and2 ok' (PC.cmp1 ok' (PE.lower ok' (PE.name rfl) hylen) (PE.name rfl) (Cmp.ne (by rw [hlo]; exact shaped_mkS hascl) hsy hu)) (fun _ => PC.cmp1 ok' (PE.upper ok' (PE.name rfl) hylen) (PE.name rfl) (Cmp.ne (by rw [hup]; exact shaped_mkS hascu) hsy hu))) ?c5)) ?_
    case c5 =>
      rintro b rfl
      rcases hcase with hc | hc
      · have : Txt.lower (mkS y) = mkS y := by rw [lower_mkS hasc, hc]
        rw [this]; simp [PyData.eqv]
      · have : Txt.upper (mkS y) = mkS y := by rw [hup, hc]
        rw [this]; simp [PyData.eqv]
    refine' PB.cons1 (PT.assign1 (b := BS (mkS (h ++ 49 :: vs.map sgn))) ok' wok (PE.mono (PE.lower ok' (PE.name rfl) hylen) (fun b h => by rw [h, hlo]))) ?_
    refine' PB.cons1 (PT.assign1 (b := BS (mkS h)) ok' wok (PE.mono (PE.takeS (l := h ++ 49 :: vs.map sgn) (n := h.length) ok' (PE.name rfl) (PE.name rfl) (by simp) (by simp; omega)) (fun b h => by rw [h, tl_take]))) ?_
    obtain ⟨es, hmap, hents⟩ := index_at gl
    have hdd : signsD (mkS (vs.map sgn)) = vs.map fun v => .str ⟨#[sgn v]⟩ := by rw [signs_mkS, List.map_map]; rfl
    refine' PB.cons (PT.assignComp (ρ' := []) (ds := signsD (mkS (vs.map sgn))) (Pe := fun k d => ∃ v : Nat, vs[k]? = some v ∧ d = .int (v : Nat)) ok' wok hA'.1 (PI.str (PE.mono (PE.dropS (l := h ++ 49 :: vs.map sgn) (n := h.length + 1) ok' (PE.name rfl) (PE.mono (PE.add ok' (PE.name rfl) (PE.int ok')) ?n1) (by simp) (by simp; omega)) (fun b h => by rw [h, tl_drop]))) ?z1 rfl rfl rfl rfl (by decide) rfl (by decide) rfl (fun _ => Sub.nil) ?elt) ?rest
    case n1 => rintro b rfl; rfl
    case z1 => rw [hdd, List.length_map]; omega
    case elt =>
      intro I D Cc i d ok₂ hd
      rw [hdd, List.getElem?_map] at hd
      cases hvi : vs[i]? with
      | none => rw [hvi] at hd; cases hd
      | some v =>
        rw [hvi] at hd; cases hd
        have hlt := hv v (List.mem_of_getElem? hvi)
        refine (PE.get2 (j := -1) ok₂ (by decide) hmap hents (IDX_get v hlt) (PE.glob gl ?gi) (PE.name rfl) (PE.neg ok₂ (PE.int ok₂))).mono fun b hb => ⟨.int (v : Nat), hb, v, rfl, rfl⟩
        case gi => k_is
    case rest =>
      rintro ρ' ⟨ds, rfl, hdl, hds⟩
      have hdn : ds = natsD vs := by
        refine List.ext_getElem? fun k => ?_
        rw [hdd, List.length_map] at hdl
        unfold natsD
        rw [List.getElem?_map]
        cases e : ds[k]? with
        | none =>
          have : vs[k]? = none := by rw [List.getElem?_eq_none_iff] at e ⊢; omega
          rw [this]; rfl
        | some d =>
          obtain ⟨v, h1, h2⟩ := hds k d e
          rw [h1, h2]; rfl
      subst hdn
      have hln : (natsD vs).length = vs.length := length_natsD vs
      have hdrop : (natsD vs).drop (vs.length - 6) = natsD (vs.drop (vs.length - 6)) := by unfold natsD; rw [List.map_drop]
      have htake : (natsD vs).take (vs.length - 6) = natsD (vs.take (vs.length - 6)) := by unfold natsD; rw [List.map_take]
      have hmin : ∀ l : List Nat, (A.deeper (envX (Str.ofString "_decode") default L 111 (Value.ref 110) [])).units + 1 + min (PyData.depthAll (natsD l)) (PyData.int (-1)).depth < cLine := by
        intro l
        have h1 : min (PyData.depthAll (natsD l)) (PyData.int (-1)).depth ≤ PyData.depthAll (natsD l) := Nat.min_le_left _ _
        have h2 := depth_natsD l
        have h3 : (A.deeper (envX (Str.ofString "_decode") default L 111 (Value.ref 110) [])).units = A.units + 3 := rfl
        have h4 := hA.2.2
        omega
      refine' PB.cons1 (PT.ifF ok' wok (PC.mono (PC.cmp1 ok' (PE.neg ok' (PE.int ok')) (PE.mono (PE.lastL (n := 6) ok' (by decide) (PE.name rfl) (PE.neg ok' (PE.int ok')) (by rw [hln]; omega)) ?l1) (Cmp.inList rfl (canLay_natsD (vs.drop (vs.length - 6))) (hmin _))) ?c6)) ?_
      case l1 => rintro b rfl; rw [hln, hdrop]
      case c6 => rintro b rfl; exact any_neg _
      refine' PB.cons1 (PT.ifF ok' wok (PC.mono (PC.cmp1 ok' (PE.neg ok' (PE.int ok')) (PE.name rfl) (Cmp.inList rfl (canLay_natsD vs) (hmin _))) ?c7)) ?_
      case c7 => rintro b rfl; exact any_neg _
      refine' PB.cons1 (PT.assign1 ok' wok (PE.name rfl)) ?_
      refine PB.ret (PE.tup ok' (PEL.cons1 (b := .d (.str (mkS h))) ok' (PE.name rfl) (PEL.cons1 (b := BL (natsD (vs.take (vs.length - 6)))) ok' (PE.mono (PE.butLastL (n := 6) ok' (by decide) (PE.name rfl) (PE.neg ok' (PE.int ok')) (by rw [hln]; omega)) ?l2) (PEL.one (b := BL (natsD (vs.drop (vs.length - 6)))) ok' (PE.mono (PE.lastL (n := 6) ok' (by decide) (PE.name rfl) (PE.neg ok' (PE.int ok')) (by rw [hln]; omega)) ?l3)))) (by decide) fun bs h => ⟨h, by show 3 ≤ sizeLine; decide⟩)
      case l2 => rintro b rfl; rw [hln, htake]
      case l3 => rintro b rfl; rw [hln, hdrop]
end
end Mine
end

section
open PySem PySem.W PySem.Calls PyProof.Rows
set_option Elab.async false
set_option linter.unusedVariables false
set_option maxRecDepth 100000
set_option maxHeartbeats 4000000
namespace Mine
theorem filled5 (P : Params) (h : Heap) (x : (hd01.heap_39 P).In h) : (hd01.heap_39 P).In h ∧ PySem.Challenge.rw_fc0024_01 = PySem.Challenge.rw_fc0024_01 := by
  k_fill
  exact ⟨x, rfl⟩
/-- a text that is read as the head h and the numbers vs -/
structure Rd (y h vs : List Nat) : Prop where
  parts : ∃ h' b', y = h' ++ 49 :: b' ∧ 49 ∉ b' ∧ h'.length = h.length ∧ h'.all inR = true ∧ b'.all inR = true
  low : y.map lowA = h ++ 49 :: vs.map sgn
  asc : ∀ c ∈ y, c < 128
  case : y.map lowA = y ∨ y.map upA = y
  h0 : h ≠ []
  h6 : 6 ≤ vs.length
  v32 : ∀ v ∈ vs, v < 32
  z1 : h.length ≤ 500
  z2 : vs.length ≤ 500
section
variable {w : World} {C : Cx} {A : Around} {p : Program} {loose : List Str} {mg mb : Str → Option Value} {y h vs : List Nat} {m : Int}
theorem Rd.hasc (r : Rd y h vs) : ∀ c ∈ h, c < 1024 := fun c hc => by
  have : c ∈ y.map lowA := by rw [r.low]; exact List.mem_append_left _ hc
  obtain ⟨a, ha, rfl⟩ := List.mem_map.mp this
  have := r.asc a ha
  unfold lowA
  split <;> omega

theorem decode_ok (r : Rd y h vs) (ok : C.Ok) (gl : Gl (hd01.heap_39 w.params) p loose mg mb C.G) (hA : AOk 6 A) (hct : ((74, 70) : Addr × Addr) ∈ C.tabs) (hcd : CodeHd C.G 74 70) (hm : ((pmod (hexp h ++ vs) : Int) == m) = true) :
    COk PG w C A (.ref 119) [BS (mkS y), BI m] (· = BT [.str (mkS h), .list (natsD (vs.take (vs.length - 6)))]) := by
  obtain ⟨h', b', hy, hb', hlen, hr1, hr2⟩ := r.parts
  refine' COk.enterB 5 ok gl hA ?ho ?hcd (ps := [Str.ofString "bech", Str.ofString "m"]) ?hbind ?hps ?hkind ?hco ?hgen ?hk ?h
  case ho => k_is
  case hcd => k_is
  case hbind =>
    intro s vs a h
    match vs, h with
    | [v, u], _ =>
      refine' BindsTo.of_defaults rfl ?hd0 ?hs0 ?h1 ?h2
      case hd0 => exact a.g _ _ (gl.K _ _ (by k_is))
      case hs0 => rfl
      case h1 => rfl
      case h2 => rfl
  case hps => decide
  case hkind => intro x hx; simp only [List.mem_cons, List.not_mem_nil, or_false] at hx; rcases hx with rfl | rfl <;> exact .inl rfl
  case hco => rfl
  case hgen => rfl
  case hk => rfl
  case h =>
    intro L ok' wok hA'
    have hs : sizeLine = 2 ^ 24 := rfl
    have z1 := r.z1
    have z2 := r.z2
    refine' PB.cons1 (PT.assignTup (xs := [(Str.ofString "hrp", _), (Str.ofString "data", _), (Str.ofString "checksum", _)]) ok' wok hA'.1 (PE.callF ok' gl ?g1 ?g2 ?g3 (PEL.one ok' (PE.name rfl)) (fun bs h => h ▸ decode_parts_ok ok' gl (hA'.mono (by decide)) hct hcd hy hb' hlen r.low r.asc hr1 hr2 r.case r.h0 r.h6 r.v32 z1 z2)) rfl ?hx rfl rfl) ?_
    case g1 => k_is
    case g2 => k_is
    case g3 => rfl
    case hx => intro x hx; simp only [List.mem_cons, List.not_mem_nil, or_false] at hx; rcases hx with rfl | rfl | rfl <;> exact .inl rfl
    refine' PB.cons1 (PT.assign1 ok' wok (PE.ifexp (r := false) ok' (PC.cmp1 ok' (PE.name (b := BI m) rfl) PE.noneC Cmp.isNone) (fun h => by cases h) fun _ => PE.name (b := BI m) rfl)) ?_
    refine' PB.ifT ok' wok (PC.mono (PC.value1 ok' (PE.callF ok' gl ?g1 ?g2 ?g3 (PEL.cons1 (b := BS (mkS h)) ok' (PE.name rfl) (PEL.cons1 (b := BL (natsD vs)) ok' (PE.mono (PE.catL (ds := natsD (vs.take (vs.length - 6))) (es := natsD (vs.drop (vs.length - 6))) ok' (PE.name rfl) (PE.name rfl) ?z3) ?e1) (PEL.one (b := BI m) ok' (PE.name rfl)))) (fun bs h => h ▸ verify_ok ok' gl (hA'.mono (by decide)) r.hasc r.v32 (by omega) (by omega))) Tru.bool) (fun b h => h ▸ hm)) (PB.ret (PE.tup ok' (PEL.cons1 (b := .d (.str (mkS h))) ok' (PE.name rfl) (PEL.one (b := BL (natsD (vs.take (vs.length - 6)))) ok' (PE.name rfl))) (by decide) fun bs h => ⟨h, by show 2 ≤ sizeLine; decide⟩))
    case g1 => k_is
    case g2 => k_is
    case g3 => rfl
    case z3 => rw [length_natsD, length_natsD, List.length_take, List.length_drop]; omega
    case e1 => rintro b rfl; rw [← natsD_append, List.take_append_drop]

theorem own37 (gl : Gl (hd01.heap_39 w.params) p loose mg mb C.G) : OwnCls (Str.ofString "BTClibValueError") 37 [.type "ValueError", .type "Exception", .type "BaseException", .type "object"] "Exception.__new__" mg C.G := by
  refine' own_of_in gl.K gl.T ?a ?b
  case a => k_is
  case b => k_exc

theorem decode_bad {outer : List Env} (r : Rd y h vs) (ok : C.Ok) (gl : Gl (hd01.heap_39 w.params) p loose mg mb C.G) (hA : AOk 6 A) (hfr : A.frames = some outer) (hlT : ∀ L ∈ frs outer, L ∉ C.T) (hB : ∀ L ∈ frs outer, C.B.get? L = none) (hct : ((74, 70) : Addr × Addr) ∈ C.tabs) (hcd : CodeHd C.G 74 70) (hm : ((pmod (hexp h ++ vs) : Int) == m) = false) :
    COkX PG w C A outer (.ref 119) [BS (mkS y), BI m] (.ref 37) := by
  obtain ⟨h', b', hy, hb', hlen, hr1, hr2⟩ := r.parts
  refine' COkX.of_raise 5 ok gl hA hfr hlT hB ?ho ?hcd (ps := [Str.ofString "bech", Str.ofString "m"]) ?hbind ?hps ?hkind ?hco ?hgen ?hk ?h
  case ho => k_is
  case hcd => k_is
  case hbind =>
    intro s vs a h
    match vs, h with
    | [v, u], _ =>
      refine' BindsTo.of_defaults rfl ?hd0 ?hs0 ?h1 ?h2
      case hd0 => exact a.g _ _ (gl.K _ _ (by k_is))
      case hs0 => rfl
      case h1 => rfl
      case h2 => rfl
  case hps => decide
  case hkind => intro x hx; simp only [List.mem_cons, List.not_mem_nil, or_false] at hx; rcases hx with rfl | rfl <;> exact .inl rfl
  case hco => rfl
  case hgen => rfl
  case hk => rfl
  case h =>
    intro L ok' wok hA'
    have hs : sizeLine = 2 ^ 24 := rfl
    have z1 := r.z1
    have z2 := r.z2
    refine' PBR.cons1 (PT.assignTup (xs := [(Str.ofString "hrp", _), (Str.ofString "data", _), (Str.ofString "checksum", _)]) ok' wok hA'.1 (PE.callF ok' gl ?g1 ?g2 ?g3 (PEL.one ok' (PE.name rfl)) (fun bs h => h ▸ decode_parts_ok ok' gl (hA'.mono (by decide)) hct hcd hy hb' hlen r.low r.asc hr1 hr2 r.case r.h0 r.h6 r.v32 z1 z2)) rfl ?hx rfl rfl) ?_
    case g1 => k_is
    case g2 => k_is
    case g3 => rfl
    case hx => intro x hx; simp only [List.mem_cons, List.not_mem_nil, or_false] at hx; rcases hx with rfl | rfl | rfl <;> exact .inl rfl
    refine' PBR.cons1 (PT.assign1 ok' wok (PE.ifexp (r := false) ok' (PC.cmp1 ok' (PE.name (b := BI m) rfl) PE.noneC Cmp.isNone) (fun h => by cases h) fun _ => PE.name (b := BI m) rfl)) ?_
    refine' PBR.cons1 (PT.ifF ok' wok (PC.mono (PC.value1 ok' (PE.callF ok' gl ?g1 ?g2 ?g3 (PEL.cons1 (b := BS (mkS h)) ok' (PE.name rfl) (PEL.cons1 (b := BL (natsD vs)) ok' (PE.mono (PE.catL (ds := natsD (vs.take (vs.length - 6))) (es := natsD (vs.drop (vs.length - 6))) ok' (PE.name rfl) (PE.name rfl) ?z3) ?e1) (PEL.one (b := BI m) ok' (PE.name rfl)))) (fun bs h => h ▸ verify_ok ok' gl (hA'.mono (by decide)) r.hasc r.v32 (by omega) (by omega))) Tru.bool) (fun b h => h ▸ hm))) ?_
    case g1 => k_is
    case g2 => k_is
    case g3 => rfl
    case z3 => rw [length_natsD, length_natsD, List.length_take, List.length_drop]; omega
    case e1 => rintro b rfl; rw [← natsD_append, List.take_append_drop]
    refine' PBR.raise ok' wok gl hA'.1 PySem.F.excBase_Exception rfl PySem.F.excBase_ValueError ?g4 (own37 gl) (PEL.one ok' (PE.str ok')) (by decide) ?hp
    case g4 => k_is
    case hp => rintro bs rfl; decide

/-- a text of mixed case, else well formed -/
structure Mx (y h' b' : List Nat) : Prop where
  eq : y = h' ++ 49 :: b'
  no1 : 49 ∉ b'
  r1 : h'.all inR = true
  r2 : b'.all inR = true
  asc : ∀ c ∈ y, c < 128
  low : y.map lowA ≠ y
  up : y.map upA ≠ y
  h0 : h' ≠ []
  h6 : 6 ≤ b'.length
  z1 : h'.length ≤ 500
  z2 : b'.length ≤ 500
theorem mkS_inj {a b : List Nat} (h : mkS a = mkS b) : a = b := by
  have := congrArg (fun s : Str => s.cps.toList) h
  simpa [mkS] using this

theorem decode_parts_mixed {h' b' : List Nat} {outer : List Env} (r : Mx y h' b') (ok : C.Ok) (gl : Gl (hd01.heap_39 w.params) p loose mg mb C.G) (hA : AOk 5 A) (hfr : A.frames = some outer) (hlT : ∀ L ∈ frs outer, L ∉ C.T) (hB : ∀ L ∈ frs outer, C.B.get? L = none) (hct : ((74, 70) : Addr × Addr) ∈ C.tabs) (hcd : CodeHd C.G 74 70) :
    COkX PG w C A outer (.ref 111) [BS (mkS y)] (.ref 37) := by
  have hyl : y.length = h'.length + 1 + b'.length := by rw [r.eq]; simp; omega
  have h1 : 1 ≤ h'.length := by
    have := r.h0
    cases h' with
    | nil => exact absurd rfl this
    | cons a r => simp
  have h6 := r.h6
  have z1 := r.z1
  have z2 := r.z2
  refine' COkX.of_raise 4 ok gl hA hfr hlT hB ?ho ?hcd (ps := [Str.ofString "bech"]) ?hbind ?hps ?hkind ?hco ?hgen ?hk ?h
  case ho => k_is
  case hcd => k_is
  case hbind => intro s vs a h; match vs, h with | [v], _ => exact BindsTo.of_eq rfl
  case hps => decide
  case hkind => intro x hx; exact .inl (by rw [List.mem_singleton.mp hx]; rfl)
  case hco => rfl
  case hgen => rfl
  case hk => rfl
  case h =>
    intro L ok' wok hA'
    have hs : sizeLine = 2 ^ 24 := rfl
    have hu := hA'.u
    have hzl : y.length ≤ sizeLine := by omega
    have hzs : (mkS y).length ≤ sizeLine := by rw [length_mkS]; omega
    refine' PBR.cons1 (PT.assign1 ok' wok (PE.callF ok' gl ?g1 ?g2 ?g3 (PEL.cons1 ok' (PE.name rfl) (PEL.one ok' (PE.str ok'))) (fun bs h => h ▸ str_from_ok ok' gl (hA'.mono (by decide))))) ?_
    case g1 => k_is
    case g2 => k_is
    case g3 => rfl
    refine' PBR.cons1 (PT.assign1 (b := BI (h'.length : Nat)) ok' wok (PE.mono (PE.rfind (y := Str.ofString "1") ok' (PE.name rfl) (PE.str ok')) ?e1)) ?_
    case e1 =>
      rintro b rfl
      rw [r.eq, show Str.ofString "1" = mkS [49] from by decide, rfind_one r.no1]
    refine' PBR.cons1 (PT.ifF ok' wok (PC.mono (PC.cmp1 ok' (PE.name rfl) (PE.neg ok' (PE.int ok')) Cmp.intEq) ?c1)) ?_
    case c1 => rintro b rfl; simp
    refine' PBR.cons1 (PT.ifF ok' wok (PC.mono (PC.cmp1 ok' (PE.name rfl) (PE.int ok') Cmp.intEq) ?c2)) ?_
    case c2 => rintro b rfl; have := r.h0; simp [this]
    refine' PBR.cons1 (PT.ifF ok' wok (PC.mono (PC.cmp1 ok' (PE.add ok' (PE.name rfl) (PE.int ok')) (PE.callB ok' (PE.builtin gl ?g4 rfl) (PEL.one ok' (PE.name rfl)) (fun bs h => h ▸ COk.lenS ok' hzs)) Cmp.intGt) ?c3)) ?_
    case g4 => k_is
    case c3 => rintro b rfl; rw [length_mkS]; simp; omega
    refine' PBR.cons1 (PT.ifF ok' wok (PC.not1 (PC.value1 (r := true) ok' (PE.callF ok' gl ?g1 ?g2 ?g3 (PEL.one (b := BS (mkS h')) ok' (PE.mono (PE.takeS (n := h'.length) ok' (PE.name rfl) (PE.name rfl) (by omega) hzl) ?s1)) (fun bs h => h ▸ hrp_in_range_ok ok' gl (hA'.mono (by decide)) hct hcd)) (r.r1 ▸ Tru.bool)))) ?_
    case g1 => k_is
    case g2 => k_is
    case g3 => rfl
    case s1 => rintro b rfl; rw [r.eq, tl_take]
    refine' PBR.cons1 (PT.ifF ok' wok (PC.not1 (PC.value1 (r := true) ok' (PE.callF ok' gl ?g1 ?g2 ?g3 (PEL.one (b := BS (mkS b')) ok' (PE.mono (PE.dropS (n := h'.length + 1) ok' (PE.name rfl) (PE.mono (PE.add ok' (PE.name rfl) (PE.int ok')) ?n1) (by omega) hzl) ?s1)) (fun bs h => h ▸ hrp_in_range_ok ok' gl (hA'.mono (by decide)) hct hcd)) (r.r2 ▸ Tru.bool)))) ?_
    case g1 => k_is
    case g2 => k_is
    case g3 => rfl
    case n1 => rintro b rfl; rfl
    case s1 => rintro b rfl; rw [r.eq, tl_drop]
    have hsy := shaped_mkS r.asc
    have hlo : Txt.lower (mkS y) = mkS (y.map lowA) := lower_mkS r.asc
    have hup : Txt.upper (mkS y) = mkS (y.map upA) := upper_mkS r.asc
    have hascl : ∀ c ∈ y.map lowA, c < 128 := by
      intro c hc
      obtain ⟨a, ha, rfl⟩ := List.mem_map.mp hc
      have := r.asc a ha
      unfold lowA
      split <;> omega
    have hascu : ∀ c ∈ y.map upA, c < 128 := by
      intro c hc
      obtain ⟨a, ha, rfl⟩ := List.mem_map.mp hc
      have := r.asc a ha
      unfold upA
      split <;> omega
    have hylen : (mkS y).length ≤ 5592405 := by rw [length_mkS]; omega
    refine' PBR.ifT ok' wok (PC.mono (PC.and2 ok' (PC.cmp1 ok' (PE.lower ok' (PE.name rfl) hylen) (PE.name rfl) (Cmp.ne (by rw [hlo]; exact shaped_mkS hascl) hsy hu)) (fun _ => PC.cmp1 ok' (PE.upper ok' (PE.name rfl) hylen) (PE.name rfl) (Cmp.ne (by rw [hup]; exact shaped_mkS hascu) hsy hu))) ?c5)
      (PBR.raise ok' wok gl hA'.1 PySem.F.excBase_Exception rfl PySem.F.excBase_ValueError ?g4 (own37 gl) (PEL.one ok' (PE.str ok')) (by decide) ?hp)
    case g4 => k_is
    case hp => rintro bs rfl; decide
    case c5 =>
      rintro b rfl
      rw [hlo, hup]
      have e1 : PyData.eqv (.str (mkS (y.map lowA))) (.str (mkS y)) = false := by
        unfold PyData.eqv
        rw [beq_eq_false_iff_ne]
        exact fun q => r.low (mkS_inj q)
      have e2 : PyData.eqv (.str (mkS (y.map upA))) (.str (mkS y)) = false := by
        unfold PyData.eqv
        rw [beq_eq_false_iff_ne]
        exact fun q => r.up (mkS_inj q)
      rw [e1, e2]; rfl

theorem decode_mixed {h' b' : List Nat} {outer : List Env} (r : Mx y h' b') (ok : C.Ok) (gl : Gl (hd01.heap_39 w.params) p loose mg mb C.G) (hA : AOk 6 A) (hfr : A.frames = some outer) (hlT : ∀ L ∈ frs outer, L ∉ C.T) (hB : ∀ L ∈ frs outer, C.B.get? L = none) (hct : ((74, 70) : Addr × Addr) ∈ C.tabs) (hcd : CodeHd C.G 74 70) :
    COkX PG w C A outer (.ref 119) [BS (mkS y), BI m] (.ref 37) := by
  refine' COkX.through 5 ok gl hA hfr hlT hB ?ho ?hcd (ps := [Str.ofString "bech", Str.ofString "m"]) ?hbind ?hps ?hkind ?hco ?hgen ?hk ?h
  case ho => k_is
  case hcd => k_is
  case hbind =>
    intro s vs a h
    match vs, h with
    | [v, u], _ =>
      refine' BindsTo.of_defaults rfl ?hd0 ?hs0 ?h1 ?h2
      case hd0 => exact a.g _ _ (gl.K _ _ (by k_is))
      case hs0 => rfl
      case h1 => rfl
      case h2 => rfl
  case hps => decide
  case hkind => intro x hx; simp only [List.mem_cons, List.not_mem_nil, or_false] at hx; rcases hx with rfl | rfl <;> exact .inl rfl
  case hco => rfl
  case hgen => rfl
  case hk => rfl
  case h =>
    intro L ok' wok hA' hfr' hlT' hB' hone
    refine' PBX.assignTup (PEX.callF ok' gl ?g1 ?g2 ?g3 hlT' (PEL.one ok' (PE.name rfl)) (fun bs h => h ▸ decode_parts_mixed r ok' gl (hA'.mono (by decide)) hfr' hlT' hB' hct hcd))
    case g1 => k_is
    case g2 => k_is
    case g3 => rfl
end
end Mine
end

section
open PySem PySem.W PySem.Calls PyProof.Rows
set_option Elab.async false
set_option linter.unusedVariables false
set_option maxRecDepth 100000
set_option maxHeartbeats 4000000
namespace Mine
theorem filled6 (P : Params) (h : Heap) (x : (hd01.heap_39 P).In h) : (hd01.heap_39 P).In h ∧ PySem.Challenge.rw_fc0024_01 = PySem.Challenge.rw_fc0024_01 := by
  k_fill
  exact ⟨x, rfl⟩
/-- the defs that run below are frames of F -/
def OnF (C : Cx) (l : List Env) : Prop := ∀ env ∈ l, env.scope.kind ≠ .module ∧ ∃ L, env.frame = some L ∧ L ∈ C.F ∧ C.B.get? L = none
theorem OnF.stk {C : Cx} {l : List Env} {s : Shared} (x : OnF C l) (f : Fs C s) : Stk l s := fun env he =>
  let ⟨h1, L, h2, h3, _⟩ := x env he
  let ⟨m, hm⟩ := f L h3
  ⟨h1, L, m, h2, hm⟩
theorem OnF.mem {C : Cx} {l : List Env} (x : OnF C l) : ∀ b ∈ frs l, b ∈ C.F ∧ C.B.get? b = none := fun b hb => by
  obtain ⟨env, he, hf⟩ := List.mem_filterMap.mp hb
  obtain ⟨_, L, h2, h3, h4⟩ := x env he
  rw [h2] at hf; cases hf
  exact ⟨h3, h4⟩
end Mine
end

section
open PySem PySem.W PySem.Calls PyProof.Rows
set_option Elab.async false
set_option linter.unusedVariables false
namespace Mine
section
variable {prog : Program} {w : World} {A : Around} {R : Result → Shared → Prop} {s : Shared}
theorem compLoop_evT {ct elt iter : Expr} {x : Str} {px : Pos} {scope : Scope} {pos : Pos} {I D : Addr} {fp : List Addr} {n : Nat} {P : Nat → Value → Prop} {St : Nat → Heap → Prop}
    {cenv : Env} {m : Str → Option Value} {T F : List Addr} {J : (Addr → Prop) → Nat → List Value → Shared → Prop} {s0 : Shared} (W : Walks prog w A I fp [I] n P St) (hSt : ∀ i h, St i h → ∃ o, h.get? I = some o) (hJ : Stable J)
    (hx : cenv.kindOf x = some .local) (hp : (cenv.scope.kind == .class || (cenv.scope.kind == .module && cenv.locals != cenv.globals)) = false)
    (hDC : D ≠ cenv.locals) (hDf : D ∉ fp) (hCf : cenv.locals ∉ fp) (hIf : I ∈ fp)
    (hI0 : s0.heap.get? I = none) (hD0 : s0.heap.get? D = none) (hC0 : s0.heap.get? cenv.locals = none)
    (hTD : D ∉ T ++ F) (hTC : cenv.locals ∉ T) (hTf : ∀ b ∈ fp, b ∉ T ++ F)
    (hst : St 0 s.heap) (hacc : s.heap.PlainList D #[]) (hn : s.heap.Ns cenv.locals m) (h0 : J (fun b => b = I ∨ b = D ∨ b = cenv.locals) 0 [] s) (hev : Ev T F s0 s)
    (helt : ∀ i v ys s₁ m₁, i < n → ys.length ≤ i → P i v → J (fun b => b = I ∨ b = D ∨ b = cenv.locals) i ys s₁ → s₁.heap.Ns cenv.locals m₁ → m₁ x = some v → Ev T F s0 s₁ →
      (∀ b, (b = I ∨ b = D ∨ b = cenv.locals) → ∃ o, s₁.heap.get? b = some o) →
      wpAny (model prog w) A (isTrue ct cenv (eval ct cenv)) (fun ok s₂ => if ok = true then wpAny (model prog w) A (eval elt cenv) (fun y s₃ => Ev T F s₁ s₃ ∧ J (fun b => b = I ∨ b = D ∨ b = cenv.locals) (i + 1) (ys ++ [y]) s₃) (notedBy (model prog w) A cenv fun e s' => R (.error e) s') s₂
        else Ev T F s₁ s₂ ∧ J (fun b => b = I ∨ b = D ∨ b = cenv.locals) (i + 1) ys s₂) (notedBy (model prog w) A cenv fun e s' => R (.error e) s') s₁)
    (hR : ∀ s' m' ys, s'.heap.Ns cenv.locals m' → s'.heap.PlainList D ys.toArray → ys.length ≤ n → J (fun b => b = I ∨ b = D ∨ b = cenv.locals) n ys s' → Ev T F s0 s' → R (.ok .next) s')
    (hsz : n ≤ sizeLine := by size_fits) :
    codeAny (model prog w) A (.compLoop (.ListComp elt [⟨.Name x px, iter, [ct], 0⟩] scope pos) 0 (.ref I) (.ref D) cenv) R s := by
  have hIC : I ≠ cenv.locals := fun h => hCf (h ▸ hIf)
  have hID : I ≠ D := fun h => hDf (h ▸ hIf)
  refine codeAny_compLoop_tests
    (fun k s' => ∃ m' ys i, St i s'.heap ∧ s'.heap.PlainList D ys.toArray ∧ s'.heap.Ns cenv.locals m' ∧ J (fun b => b = I ∨ b = D ∨ b = cenv.locals) i ys s' ∧ ys.length ≤ i ∧ i ≤ n ∧ k = n + 1 - i ∧ Ev T F s0 s') ?_ (n + 1)
    ⟨m, [], 0, hst, hacc, hn, h0, Nat.le_refl _, Nat.zero_le _, rfl, hev⟩
  rintro k s' ⟨m', ys, i, hst', hacc', hn', hJ', hyl, hi, rfl, hev'⟩
  have hcn : ∀ b, b ∉ [I] → b ≠ I := fun b hb h => hb (by rw [h]; exact List.mem_singleton.mpr rfl)
  by_cases hlt : i < n
  · refine W.item i _ _ _ hlt hst' fun v h₁ tk₁ hPv hst₁ hk₁ => ?_
    have up₁ : ∀ b o, b ≠ I → s'.heap.get? b = some o → h₁.get? b = some o := fun b o hb e => hk₁ b o (fun h => hb (List.mem_singleton.mp h)) e
    refine wpAny_assign_Name (wpAny_storeName_local hx (hn'.at' fun o e => up₁ _ o (Ne.symm hIC) e) (fun h₂ hn₂ hs₂ => ?_) hp)
    have up₂ : ∀ b o, b ≠ I → b ≠ cenv.locals → s'.heap.get? b = some o → h₂.get? b = some o := fun b o hb hc e => hs₂.extBut b o hc (up₁ b o hb e)
    have hst₂ : St (i + 1) h₂ := W.frame _ _ _ hst₁ fun b hb o e => hs₂.extBut b o (fun h => hCf (h ▸ hb)) e
    have ev₂ : Ev T F s0 { s' with heap := h₂, toks := tk₁ + 1 } := hev'.step (fun b o o₀ e₀ e => up₂ b o (fun h => by rw [h, hI0] at e₀; cases e₀) (fun h => by rw [h, hC0] at e₀; cases e₀) e) rfl rfl
    have hI₂ : ∃ o, h₂.get? I = some o := hSt _ _ hst₂
    have hacc₂ : h₂.PlainList D ys.toArray := hacc'.at fun o e => up₂ D o (Ne.symm hID) hDC e
    refine wpAny_tests_one ?_
    refine wpAny_mono (helt i v ys _ _ hlt hyl hPv (hJ _ _ _ s' _ hJ' (fun b o hb e => up₂ b o (fun h => hb (.inl h)) (fun h => hb (.inr (.inr h))) e) rfl rfl) hn₂ (by simp) ev₂ ?_) (fun ok s₃ h₃ => ?_) fun _ _ e => e
    · rintro b (rfl | rfl | rfl)
      · exact hI₂
      · obtain ⟨k', e⟩ := hacc₂; exact ⟨_, e⟩
      · obtain ⟨o, _, _, e, _⟩ := hn₂; exact ⟨o, e⟩
    cases ok with
    | true =>
      simp only [if_true] at h₃ ⊢
      refine wpAny_mono h₃ (fun y s₄ h₄ => ?_) fun _ _ e => e
      obtain ⟨ev₃, hJ₃⟩ := h₄
      have hys : ys.toArray.size ≤ sizeLine := by rw [List.size_toArray]; omega
      refine wpAny_list_append_plain (hsz := hys) (hacc₂.at fun o e => ev₃.keep _ o e hTD) fun h₅ hl₅ hs₅ => ?_
      refine ⟨n + 1 - (i + 1), by omega, _, ys ++ [y], i + 1, ?_, ?_, (ev₃.ns _ _ hn₂ hTC).sameBut hs₅ (Ne.symm hDC), ?_, ?_, hlt, rfl, ?_⟩
      · exact W.frame _ _ h₅ hst₂ fun b hb o e => hs₅.extBut b o (fun h => hDf (h ▸ hb)) (ev₃.keep b o e (hTf b hb))
      · simpa using hl₅
      · exact hJ _ _ _ s₄ _ hJ₃ (fun b o hb e => hs₅.extBut b o (fun h => hb (.inr (.inl h))) e) rfl rfl
      · rw [List.length_append, List.length_singleton]; omega
      · exact (ev₂.trans ev₃).step (fun b o o₀ e₀ e => hs₅.extBut b o (fun h => by rw [h, hD0] at e₀; cases e₀) e) rfl rfl
    | false =>
      simp only [Bool.false_eq_true, if_false] at h₃ ⊢
      obtain ⟨ev₃, hJ₃⟩ := h₃
      exact ⟨n + 1 - (i + 1), by omega, _, ys, i + 1, W.frame _ _ _ hst₂ fun b hb o e => ev₃.keep b o e (hTf b hb), hacc₂.at fun o e => ev₃.keep _ o e hTD, ev₃.ns _ _ hn₂ hTC, hJ₃, Nat.le_succ_of_le hyl, hlt, rfl, ev₂.trans ev₃⟩
  · have hin : i = n := by omega
    subst hin
    refine W.done _ _ _ hst' fun h₁ tk₁ hk₁ => ?_
    have up₁ : ∀ b o, b ≠ I → s'.heap.get? b = some o → h₁.get? b = some o := fun b o hb e => hk₁ b o (fun h => hb (List.mem_singleton.mp h)) e
    refine hR _ m' ys (hn'.at' fun o e => up₁ _ o (Ne.symm hIC) e) (hacc'.at fun o e => up₁ _ o (Ne.symm hID) e) hyl ?_ (hev'.step (fun b o o₀ e₀ e => up₁ b o (fun h => by rw [h, hI0] at e₀; cases e₀) e) rfl rfl)
    exact hJ _ _ _ s' _ hJ' (fun b o hb e => up₁ b o (fun h => hb (.inl h)) e) rfl rfl

theorem comp_block_evT {E : Value → Shared → Prop} {env : Env} {ct elt iter : Expr} {x : Str} {px : Pos} {scope : Scope} {cl : List (Str × Addr)} {pos : Pos} {D0 T F : List Addr} {xv : Value} {n : Nat} {P : Nat → Value → Prop}
    {J : (Addr → Prop) → Nat → List Value → Shared → Prop} {RR : Value → Addr → Result → Shared → Prop} (hsrc : Src prog w A D0 xv n P s) (hh : A.handled = none) (hJ : Stable J)
    (hcell : ∀ y ∈ scope.names, y.2 ≠ .cell) (hkind : scope.kind = .function) (hx : scope.names.lookup x = some .local)
    (hT : ∀ t ∈ T ++ F, ∃ o, s.heap.get? t = some o) (hTD : ∀ b ∈ D0, b ∉ T ++ F)
    (h0 : ∀ pv : Addr → Prop, (∀ b, pv b → s.heap.get? b = none) → J pv 0 [] s)
    (helt : ∀ I D C i v ys s₁ m₁ E', i < n → ys.length ≤ i → P i v → J (pvt I D C) i ys s₁ → s₁.heap.Ns C m₁ → m₁ x = some v → Ev T F s s₁ →
      (∀ b, pvt I D C b → ∃ o, s₁.heap.get? b = some o) → (∀ b, pvt I D C b → s.heap.get? b = none) →
      wpAny (model prog w) A (isTrue ct (compEnvC scope cl C env) (eval ct (compEnvC scope cl C env))) (fun ok s₂ => if ok = true then wpAny (model prog w) A (eval elt (compEnvC scope cl C env)) (fun y s₃ => Ev T F s₁ s₃ ∧ J (pvt I D C) (i + 1) (ys ++ [y]) s₃) E' s₂
        else Ev T F s₁ s₂ ∧ J (pvt I D C) (i + 1) ys s₂) E' s₁)
    (hRR : ∀ I D C s' ys m', s.heap.get? D = none → s.heap.get? C = none → D ≠ C → s'.heap.Ns C m' → s'.heap.PlainList D ys.toArray → ys.length ≤ n → J (pvt I D C) n ys s' → Ev T F s s' → RR (.ref D) C (.ok .next) s')
    (hsz : n ≤ sizeLine := by size_fits) :
    wpAny (model prog w) A (pyIter xv) (fun it s₂ => wpAny (model prog w) A (newList []) (fun acc s₃ => wpAny (model prog w) A (newFunctionEnv scope env.globals cl [] env.qual none .none (some env)) (fun cenv s₄ =>
      codeAny (model prog w) A (.compStart (.ListComp elt [⟨.Name x px, iter, [ct], 0⟩] scope pos) 0 it acc { cenv with scope := relabel scope env }) (RR acc cenv.locals) s₄) E s₃) E s₂) E s := by
  refine hsrc.2 _ _ fun I fp St hI W hSt hIf hst hfp hIlt hI0 hkI => ?_
  refine wpAny_newObj_type (wpAny_newFunctionEnv hcell (by intro y hy; simp at hy) (fun h₁ hns₁ hsb₁ => ?_) hkind)
  dsimp only at hns₁ hsb₁ ⊢
  generalize hH2 : hI.push { cls := .type "list", dict := none, data := .seq ([] : List Value).toArray } = H2 at hns₁ hsb₁ ⊢
  have hC : H2.objs.size = hI.objs.size + 1 := by rw [← hH2, Heap.size_push]
  have hDC : hI.objs.size ≠ H2.objs.size := by rw [hC]; exact Nat.ne_of_lt (Nat.lt_succ_self _)
  have old : ∀ b o, hI.get? b = some o → h₁.get? b = some o := fun b o e => hsb₁.extBut b o (by rw [hC]; exact Nat.ne_of_lt (Nat.lt_succ_of_lt (Heap.lt_size e))) (Heap.get?_push_of_some _ (hH2 ▸ Heap.get?_push_of_some _ e))
  have olds : ∀ b o, s.heap.get? b = some o → h₁.get? b = some o := fun b o e => old b o (hkI b o e)
  have hacc : h₁.PlainList hI.objs.size #[] := ⟨_, hsb₁.extBut _ _ hDC (Heap.get?_push_of_some _ (hH2 ▸ Heap.get?_push_size _ rfl))⟩
  have fresh : ∀ a, hI.objs.size ≤ a → s.heap.get? a = none := fun a ha => by
    cases e : s.heap.get? a with
    | none => rfl
    | some o' => exact absurd (Heap.lt_size (hkI _ _ e)) (Nat.not_lt.mpr ha)
  have hD0 := fresh hI.objs.size (Nat.le_refl _)
  have hC0 := fresh H2.objs.size (by rw [hC]; exact Nat.le_succ _)
  have hTn : ∀ a, s.heap.get? a = none → a ∉ T ++ F := fun a ha hm => by
    obtain ⟨o, e⟩ := hT a hm
    rw [ha] at e; cases e
  have hfl : ∀ b ∈ fp, b < hI.objs.size := fun b hb => by
    rcases hfp b hb with rfl | h
    · exact hIlt
    · obtain ⟨o, e⟩ := hsrc.1 b h
      exact Heap.lt_size (hkI _ _ e)
  have hpn : ∀ b, pvt I hI.objs.size H2.objs.size b → s.heap.get? b = none := by
    rintro b (rfl | rfl | rfl)
    · exact hI0
    · exact hD0
    · exact hC0
  have loop : ∀ s₃ : Shared, s₃ = { s with heap := h₁, toks := s.toks + ([] : List (Str × Value)).length } →
      codeAny (model prog w) A (.compLoop (.ListComp elt [⟨.Name x px, iter, [ct], 0⟩] scope pos) 0 (.ref I) (.ref hI.objs.size) (compEnvC scope cl H2.objs.size env))
        (RR (.ref hI.objs.size) H2.objs.size) s₃ := by
    rintro s₃ rfl
    refine compLoop_evT (T := T) (F := F) (J := J) (s0 := s) (hsz := hsz) (cenv := compEnvC scope cl H2.objs.size env) (W A hh) hSt hJ (lookup_relabel_local hx) (by simp [compEnvC, relabel, hkind]) hDC (fun h => Nat.lt_irrefl _ (hfl _ h))
      (fun h => absurd (show H2.objs.size < hI.objs.size from hfl _ h) (by rw [hC]; exact Nat.not_lt.mpr (Nat.le_succ _))) hIf hI0 hD0 hC0 (hTn _ hD0) (fun q => hTn _ hC0 (List.mem_append_left _ q)) (fun b hb => ?_)
      (W A hh |>.frame _ _ _ hst fun b _ o e => old b o e) hacc hns₁ (hJ _ _ _ s _ (h0 _ hpn) (fun b o _ e => olds b o e) rfl rfl) (Ev.heap olds)
      (fun i v ys s₁ m₁ hi hl hP hj hn hm he hp => helt I hI.objs.size H2.objs.size i v ys s₁ m₁ _ hi hl hP hj hn hm he hp hpn) (fun s' m' ys hn hp hl hj he => ?_)
    · rcases hfp b hb with rfl | h
      · exact hTn _ hI0
      · exact hTD b h
    · exact hRR I _ _ s' ys m' hD0 hC0 hDC hn hp hl hj he
  exact codeAny_compStart_list (loop _ rfl) ((W A hh).self 0 _ _ _ ((W A hh).frame _ _ _ hst fun b _ o e => old b o e) (loop _ rfl))

theorem Assign_ListComp_evT {E : Value → Shared → Prop} {env : Env} {ct elt iter : Expr} {x y : Str} {px py : Pos} {scope : Scope} {cl : List (Str × Addr)} {pos spos : Pos} {Q : Flow → Shared → Prop} (hh : A.handled = none)
    (hsw : swapsWith (.ListComp elt [⟨.Name x px, iter, [ct], 0⟩] scope pos) (some (.Name y py)) spos.line env = pure true)
    (hclos : closureFor scope env = pure cl) (hcell : ∀ y ∈ scope.names, y.2 ≠ .cell) (hkind : scope.kind = .function) (hnames : ∀ x ∈ scope.names, x.2 = .local → scope.names.lookup x.1 = some .local) (hx : scope.names.lookup x = some .local)
    (hy : env.kindOf y = some .local) (hp : (env.scope.kind == .class || (env.scope.kind == .module && env.locals != env.globals)) = false)
    (h : wpAny (model prog w) A (eval iter env) (fun xv s => ∃ (D0 T F : List Addr) (n : Nat) (P : Nat → Value → Prop) (J : (Addr → Prop) → Nat → List Value → Shared → Prop) (m : Str → Option Value),
      Src prog w A D0 xv n P s ∧ Stable J ∧ n ≤ sizeLine ∧ (∀ t ∈ T ++ F, ∃ o, s.heap.get? t = some o) ∧ (∀ b ∈ D0, b ∉ T ++ F) ∧ s.heap.Ns env.locals m ∧ env.locals ∉ T ∧
      (∀ pv : Addr → Prop, (∀ b, pv b → s.heap.get? b = none) → J pv 0 [] s) ∧
      (∀ I D C i v ys s₁ m₁ E', i < n → ys.length ≤ i → P i v → J (pvt I D C) i ys s₁ → s₁.heap.Ns C m₁ → m₁ x = some v → Ev T F s s₁ →
        (∀ b, pvt I D C b → ∃ o, s₁.heap.get? b = some o) → (∀ b, pvt I D C b → s.heap.get? b = none) →
        wpAny (model prog w) A (isTrue ct (compEnvC scope cl C env) (eval ct (compEnvC scope cl C env))) (fun ok s₂ => if ok = true then wpAny (model prog w) A (eval elt (compEnvC scope cl C env)) (fun y s₃ => Ev T F s₁ s₃ ∧ J (pvt I D C) (i + 1) (ys ++ [y]) s₃) E' s₂
        else Ev T F s₁ s₂ ∧ J (pvt I D C) (i + 1) ys s₂) E' s₁) ∧
      (∀ I D C s' ys, s.heap.get? D = none → s'.heap.PlainList D ys.toArray → ys.length ≤ n → J (pvt I D C) n ys s' → Ev T F s s' →
        ∀ h₂ h₃, h₃.Ns env.locals (fun z => if z = y then some (.ref D) else m z) → Heap.SameBut env.locals s'.heap h₂ → Heap.SameBut C h₂ h₃ → s.heap.get? C = none → C ≠ D → Q .next { s' with heap := h₃, toks := s'.toks + 1 })) E s)
    (hs : ∀ x, foldedSetIterable iter env x = pure x := by intro _; rfl) :
    wpAny (model prog w) A (exec (.Assign [.Name y py] (.ListComp elt [⟨.Name x px, iter, [ct], 0⟩] scope pos) spos) env) Q E s := by
  rw [exec_Assign_Name_used _ _ _ _ hsw]
  refine wpAny_bind (wpAny_standAt (wpAny_bind ?_))
  show wpAny _ A (do let _ ← comprehension (.ListComp elt [⟨.Name x px, iter, [ct], 0⟩] scope pos) scope env _ (newList []) false (eval iter env) (some (assign (.Name y py) env))) _ _ s
  refine wpAny_bind (wpAny_mono (wpAny_comprehension_free (Q := fun _ s' => Q .next s') rfl hs hclos hkind hnames (wpAny_mono h (fun xv s₁ h₁ => ?_) fun _ _ e => e))
    (fun _ s' hq => wpAny_pure (wpAny_pure hq)) fun _ _ e => e)
  obtain ⟨D0, T, F, n, P, J, m, hsrc, hJ, hsz, hT, hTD, hnm, hLT, h0, helt, hQ⟩ := h₁
  refine comp_block_evT (RR := fun acc C => compPost (model prog w) A E (some (assign (.Name y py) env)) (fun _ s' => Q .next s') acc C) hsrc hh hJ hcell hkind hx hT hTD h0 helt (fun I D C s' ys m' hD hC hDC hn hp' hl hj he => ?_) hsz
  have hLC : env.locals ≠ C := by rintro rfl; obtain ⟨o, _, _, ho, _⟩ := hnm; rw [hC] at ho; cases ho
  have hLD : env.locals ≠ D := by rintro rfl; obtain ⟨o, _, _, ho, _⟩ := hnm; rw [hD] at ho; cases ho
  show wpAny _ A (assign (.Name y py) env (.ref D)) _ _ _
  refine wpAny_assign_Name (wpAny_storeName_local hy (he.ns _ _ hnm hLT) (fun h₂ hn₂ hs₂ => ?_) hp)
  exact ⟨m', hn.sameBut hs₂ (Ne.symm hLC), fun h₃ hs₃ => hQ I D C s' ys hD hp' hl hj he h₂ h₃ (hn₂.sameBut hs₃ hLC) hs₂ hs₃ hC (Ne.symm hDC)⟩
end

section
variable {prog : Program} {w : World} {C : Cx} {A : Around} {env : Env} {ρ : Rho} {e : Expr} {P : Bd → Prop} {pos : Pos}
def CJT (C : Cx) (ds : List PyData) (keep : PyData → Bool) (g : PyData → PyData) (pv : Addr → Prop) (i : Nat) (ys : List Value) (s : Shared) : Prop :=
  C.Am s ∧ (∀ b, pv b → C.B.get? b = none) ∧ ∀ W : List Addr, (∀ b, b ∈ W ↔ pv b) → All2 (Rep (W ++ C.H) s) ys (((ds.take i).filter keep).map g)
theorem CJT.stable {ds : List PyData} {keep : PyData → Bool} {g : PyData → PyData} (ok : C.Ok) : Stable (CJT C ds keep g) := fun pv i ys s₁ s₂ ⟨a, hn, h3⟩ k gg os => by
  refine ⟨a.stab ok (fun b o o₀ e₀ e => k b o (fun q => by rw [hn b q] at e₀; cases e₀) e) os gg, hn, fun W hW => all2_holds (C := C) (h3 W hW) fun b o e n => ⟨k b o (fun q => n (List.mem_append_left _ ((hW b).mpr q))) e, n⟩⟩
theorem comp_eltT {ct elt : Expr} {x : Str} {s s₁ : Shared} {cenv : Env} {ρ' : Rho} {I D Cc : Addr} {m₁ : Str → Option Value} {ds : List PyData} {keep : PyData → Bool} {g : PyData → PyData} {i : Nat} {ys : List Value} {d : PyData} {u : Value} {E' : Value → Shared → Prop} (ok : C.Ok) (a0 : C.Am s) (l0 : Live C.H s) (vw : Vw C env ρ s) (hsub : Sub env cenv ρ ρ') (hcl : cenv.locals = Cc)
    (hx : cenv.kindOf x = some .local) (hu : Rep C.H s u d) (hd : ds[i]? = some d)
    (hct : (C.inner [I, D, Cc]).Ok → PC prog w (C.inner [I, D, Cc]) A cenv ((x, .d d) :: ρ') ct (· = keep d))
    (helt : (C.inner [I, D, Cc]).Ok → keep d = true → PE prog w (C.inner [I, D, Cc]) A cenv ((x, .d d) :: ρ') elt (· = .d (g d)))
    (hj : CJT C ds keep g (pvt I D Cc) i ys s₁) (hn : s₁.heap.Ns Cc m₁) (hm : m₁ x = some u) (ev : Ev C.T C.F s s₁) (hal : ∀ b, pvt I D Cc b → ∃ o, s₁.heap.get? b = some o) (hfr : ∀ b, pvt I D Cc b → s.heap.get? b = none) :
    wpAny (model prog w) A (isTrue ct cenv (eval ct cenv)) (fun okk s₂ => if okk = true then wpAny (model prog w) A (eval elt cenv) (fun y s₃ => Ev C.T C.F s₁ s₃ ∧ CJT C ds keep g (pvt I D Cc) (i + 1) (ys ++ [y]) s₃) E' s₂
      else Ev C.T C.F s₁ s₂ ∧ CJT C ds keep g (pvt I D Cc) (i + 1) ys s₂) E' s₁ := by
  have hnH : ∀ b, pvt I D Cc b → b ∉ C.H := fun b hb q => by obtain ⟨o, e⟩ := l0 b q; rw [hfr b hb] at e; cases e
  have hW : ∀ b, b ∈ [I, D, Cc] ↔ pvt I D Cc b := fun b => by simp [pvt]
  have ok' : (C.inner [I, D, Cc]).Ok := ok.inner fun b hb => by
    cases e : C.G.get? b with
    | none => rfl
    | some o => have := a0.g b o e; rw [hfr b ((hW b).mp hb)] at this; cases this
  obtain ⟨a₁, hB, hr⟩ := hj
  have lv : Live (C.inner [I, D, Cc]).H s₁ := by
    intro t ht
    rcases List.mem_append.mp ht with ht | ht
    · exact hal t ((hW t).mp ht)
    · exact l0.ev ev t ht
  have v₁ := vw_comp (I := I) (D := D) ok vw ev hsub hcl (fun q => hnH Cc (.inr (.inr rfl)) (ok.TH _ q)) hx hfr hu hn hm
  have htk : ds.take (i + 1) = ds.take i ++ [d] := by rw [List.take_add_one, hd]; rfl
  have hWW : ∀ W', (∀ b, b ∈ W' ↔ pvt I D Cc b) → ∀ b, b ∉ W' ++ C.H → b ∉ (C.inner [I, D, Cc]).H := fun W' hW' b n q => n ((List.mem_append.mp q).elim (fun q => List.mem_append_left _ ((hW' b).mpr ((hW b).mp q))) fun q => List.mem_append_right _ q)
  have hWW' : ∀ W', (∀ b, b ∈ W' ↔ pvt I D Cc b) → ∀ b, b ∉ (C.inner [I, D, Cc]).H → b ∉ W' ++ C.H := fun W' hW' b n q => n ((List.mem_append.mp q).elim (fun q => List.mem_append_left _ ((hW b).mpr ((hW' b).mp q))) fun q => List.mem_append_right _ q)
  have hup : ∀ s', Ev C.T C.F s₁ s' → ∀ W', (∀ b, b ∈ W' ↔ pvt I D Cc b) → All2 (Rep (W' ++ C.H) s') ys (((ds.take i).filter keep).map g) := fun s' ev' W' hW' =>
    all2_holds (C := C) (hr W' hW') fun b o e n => ⟨ev'.keep b o e fun q => (List.mem_append.mp q).elim (fun q => n (List.mem_append_right _ (ok.TH _ q))) fun q => n (List.mem_append_right _ (ok.FH _ q)), n⟩
  refine hct ok' s₁ _ _ a₁.inn lv v₁ fun r s₂ ev₂ a₂ hr2 => ?_
  subst hr2
  cases hk : keep d with
  | true =>
    simp only [if_true]
    refine helt ok' hk s₂ _ _ a₂ (lv.ev ev₂) (v₁.ev ok' ev₂) fun v b s₃ ev₃ a₃ p r => ?_
    subst p
    have ev' := ev₂.trans ev₃
    refine ⟨ev', a₃.out, hB, fun W' hW' => ?_⟩
    rw [htk, List.filter_append, List.map_append]
    have e1 : ([d].filter keep).map g = [g d] := by simp [hk]
    rw [e1]
    exact (hup s₃ ev' W' hW').snoc (Rep.mono r fun b o e n => ⟨e, hWW' W' hW' b n⟩)
  | false =>
    simp only [Bool.false_eq_true, if_false]
    refine ⟨ev₂, a₂.out, hB, fun W' hW' => ?_⟩
    rw [htk, List.filter_append, List.map_append]
    have e1 : ([d].filter keep).map g = [] := by simp [hk]
    rw [e1, List.append_nil]
    exact hup s₂ ev₂ W' hW'

theorem PT.assignCompT {W : List Addr} {ct elt iter : Expr} {x y : Str} {px py spos : Pos} {scope : Scope} {cl : List (Str × Addr)} {ds : List PyData} {ρ' : Rho} {keep : PyData → Bool} {g : PyData → PyData} (ok : C.Ok) (kw : Wok C env W) (hh : A.handled = none) (hiter : PI prog w C A env ρ iter ds) (hz : ds.length ≤ sizeLine)
    (hsw : swapsWith (.ListComp elt [⟨.Name x px, iter, [ct], 0⟩] scope pos) (some (.Name y py)) spos.line env = pure true) (hy : env.kindOf y = some .local) (hk : env.scope.kind = .function)
    (hclos : closureFor scope env = pure cl) (hcell : ∀ y ∈ scope.names, y.2 ≠ .cell) (hkind : scope.kind = .function) (hnames : ∀ x ∈ scope.names, x.2 = .local → scope.names.lookup x.1 = some .local) (hx : scope.names.lookup x = some .local)
    (hsub : ∀ Cc, Sub env (compEnvC scope cl Cc env) ρ ρ')
    (hct : ∀ (I D Cc : Addr) (i : Nat) (d : PyData), (C.inner [I, D, Cc]).Ok → ds[i]? = some d → PC prog w (C.inner [I, D, Cc]) A (compEnvC scope cl Cc env) ((x, .d d) :: ρ') ct (· = keep d))
    (helt : ∀ (I D Cc : Addr) (i : Nat) (d : PyData), (C.inner [I, D, Cc]).Ok → ds[i]? = some d → keep d = true → PE prog w (C.inner [I, D, Cc]) A (compEnvC scope cl Cc env) ((x, .d d) :: ρ') elt (· = .d (g d)))
    (hs : ∀ x, foldedSetIterable iter env x = pure x := by intro _; rfl) :
    PT prog w C A env W ρ (.Assign [.Name y py] (.ListComp elt [⟨.Name x px, iter, [ct], 0⟩] scope pos) spos) (· = (y, BL ((ds.filter keep).map g)) :: ρ) := fun s Q E a l f v q => by
  refine Assign_ListComp_evT hh hsw hclos hcell hkind hnames hx hy (by rw [hk]; rfl) (hiter s _ _ a l v fun xv s₁ ev₁ a₁ src => ?_) hs
  obtain ⟨D0, Pp, src, hD0, hPp⟩ := src
  have l₁ := l.ev ev₁
  have v₁ := v.ev ok ev₁
  have f₁ := f.ev' ev₁ kw
  obtain ⟨m, hm⟩ := f₁.ns
  refine ⟨D0, C.T, C.F, ds.length, Pp, CJT C ds keep g, m, src, CJT.stable ok, hz, fun t ht => l₁ t ((List.mem_append.mp ht).elim (ok.TH t) (ok.FH t)), fun b hb q => hD0 b hb ((List.mem_append.mp q).elim (ok.TH b) (ok.FH b)), hm, kw.WT _ kw.loc, ?_, ?_, ?_⟩
  · exact fun pv hpv => ⟨a₁, fun b hb => a₁.fresh (hpv b hb), fun W _ => .nil⟩
  · rintro I D Cc i u ys s₂ m₁ E' hi hl hP hj hn hm ev hal hfr
    obtain ⟨d, hd, hr⟩ := hPp i u hi hP
    exact comp_eltT ok a₁ l₁ v₁ (hsub Cc) rfl (lookup_relabel_local hx) hr hd (fun ok' => hct I D Cc i d ok' hd) (fun ok' => helt I D Cc i d ok' hd) hj hn hm ev hal hfr
  · rintro I D Cc s' ys hD hp hl ⟨a', hfr, h3⟩ ev h₂ h₃ hn₃ hs₂ hs₃ hCn hCD
    have kk : ∀ b o, b ≠ env.locals → b ≠ Cc → s'.heap.get? b = some o → h₃.get? b = some o := fun b o n1 n2 e => hs₃.extBut b o n2 (hs₂.extBut b o n1 e)
    have hCs : ∀ b o, s₁.heap.get? b = some o → b ≠ Cc := fun b o e q => by rw [q, hCn] at e; cases e
    have ev₃ : Ev (W ++ C.T) C.F s₁ { s' with heap := h₃, toks := s'.toks + 1 } := by
      refine (ev.wide (W := W)).stepT (fun b o o₀ e₀ hb e => kk b o (fun q => hb (q ▸ List.mem_append_left _ kw.loc)) (hCs b o₀ e₀) e) (fun b o o₀ e₀ e => ?_) rfl rfl
      by_cases hb : b = env.locals
      · obtain ⟨o', _, _, e', _⟩ := hn₃; exact ⟨o', hb ▸ e'⟩
      · exact ⟨o, kk b o hb (hCs b o₀ e₀) e⟩
    have hcell0 : ∀ c u, s₁.heap.IsCell c u → c ≠ env.locals := fun c u hc q => by
      obtain ⟨o, ho, hd⟩ := hc
      obtain ⟨o', _, _, ho', hd', _⟩ := hm
      rw [q, ho'] at ho; cases ho
      rw [hd'] at hd; cases hd
    have hcl : ∀ c u, c ∉ C.T ++ C.F → s₁.heap.IsCell c u → h₃.IsCell c u := fun c u hc hcu => by
      obtain ⟨o, ho, hd⟩ := id hcu
      exact ⟨o, kk c o (hcell0 c u hcu) (hCs c o ho) (ev.keep c o ho hc), hd⟩
    refine q _ _ (ev₁.wide.trans ev₃) ?_ rfl ⟨⟨_, hn₃⟩, fun n c hc => ?_⟩ ?_
    · have a₂ : C.Am { s' with heap := h₂, toks := s'.toks } := a'.stab ok (fun b o o₀ e₀ e => hs₂.extBut b o (fun q => by rw [q, kw.new _ kw.loc] at e₀; cases e₀) e) rfl rfl
      exact a₂.stab ok (fun b o o₀ e₀ e => hs₃.extBut b o (fun q => by rw [q, a₁.fresh hCn] at e₀; cases e₀) e) rfl rfl
    · obtain ⟨u, hu⟩ := f₁.cells n c hc
      exact ⟨u, hcl c u (fun q => (List.mem_append.mp q).elim (kw.cell n c hc) (kw.cF n c hc)) hu⟩
    · refine ⟨?_, fun b hb => ?_⟩
      rotate_left
      · obtain ⟨m', h'⟩ := (v₁.fs.ev ok ev) b hb
        by_cases e : b = env.locals
        · exact ⟨_, e ▸ hn₃⟩
        · exact ⟨m', h'.at' fun o e' => kk b o e (fun q => by have := l₁ b (ok.FH b hb); obtain ⟨o', h⟩ := this; rw [q, hCn] at h; cases h) e'⟩
      rw [List.take_length] at h3
      intro z b hz
      rw [List.lookup_cons] at hz
      cases hzy : z == y with
      | true =>
        rw [hzy] at hz; cases hz
        rw [eq_of_beq hzy]
        have hDL : D ≠ env.locals := fun q => by
          obtain ⟨o', _, _, ho', _⟩ := hm
          rw [← q, hD] at ho'; cases ho'
        refine ⟨.ref D, Rep.list_mk (items := ys.toArray) (let ⟨k, e⟩ := hp; ⟨_, kk D _ hDL (Ne.symm hCD) e, rfl, _, rfl⟩) (fun q => by obtain ⟨o, e⟩ := l₁ D q; rw [hD] at e; cases e) ?_, .inl ⟨hy, kw.WT _ kw.loc, _, hn₃, by simp⟩⟩
        refine all2_holds (C := C) (h3 [I, D, Cc] fun b => by simp [pvt]) fun b o e n => ⟨kk b o (fun q => n (List.mem_append_right _ (q ▸ kw.WH _ kw.loc))) (fun q => n (List.mem_append_left _ (by simp [q]))) e, fun q => n (List.mem_append_right _ q)⟩
      | false =>
        rw [hzy] at hz
        obtain ⟨u, hb, hlk⟩ := v₁.look z b hz
        refine ⟨u, hb.mono fun b o e n => ⟨kk b o (fun q => n (q ▸ kw.WH _ kw.loc)) (hCs b o e) (ev.keep b o e fun q => (List.mem_append.mp q).elim (fun q => n (ok.TH _ q)) fun q => n (ok.FH _ q)), n⟩, ?_⟩
        rcases hlk with ⟨g1, g2, m', hm', hv⟩ | ⟨c, g1, g2, hc⟩
        · have := ns_unique hm hm'
          subst this
          exact .inl ⟨g1, g2, _, hn₃, by rw [if_neg (by simpa using hzy)]; exact hv⟩
        · exact .inr ⟨c, g1, g2, hcl c _ g2 hc⟩
end
end Mine
end

section
open PySem PySem.W PySem.Calls PyProof.Rows
set_option Elab.async false
set_option linter.unusedVariables false
namespace Mine
/-- an iteration source of which only D is known -/
def PIN (prog : Program) (w : World) (C : Cx) (A : Around) (env : Env) (ρ : Rho) (e : Expr) (D : List PyData → Prop) : Prop :=
  ∀ (s : Shared) (Q E : Value → Shared → Prop), C.Am s → Live C.H s → Vw C env ρ s →
    (∀ v ds s', Ev C.T C.F s s' → C.Am s' → D ds → SrcD prog w C A ds s' v → Q v s') → wpAny (model prog w) A (eval e env) Q E s
section
variable {prog : Program} {w : World} {C : Cx} {A : Around} {env : Env} {ρ : Rho} {e : Expr} {P : Bd → Prop} {pos : Pos} {K : Frag} {p : Program} {loose : List Str} {mg mb : Str → Option Value} {DD : List PyData → Prop}
theorem PI.some {ds : List PyData} (h : PI prog w C A env ρ e ds) : PIN prog w C A env ρ e (· = ds) := fun s Q E a l v q => h s Q E a l v fun v s' ev a' src => q v ds s' ev a' rfl src
theorem PIN.range {px : Pos} {pn : Nat → Prop} (ok : C.Ok) (gl : Gl K p loose mg mb C.G) (hn : nsIn K mainGlobals "range" = some none) (h : PE prog w C A env ρ e (fun b => ∃ n : Nat, b = BI n ∧ pn n ∧ n ≤ 2 ^ 60))
    (hg : env.globals = mainGlobals := by rfl) (hb : env.builtins = builtinsNs := by rfl) (hk : env.scope.kind = .function := by rfl) (hx : env.kindOf "range" = some .globalImplicit := by rfl)
    (hse : backTo pos (starEach [e] env) = [(false, eval e env)] := by rfl) : PIN prog w C A env ρ (.Call (.Name "range" px) [e] [] pos) (fun ds => ∃ n, ds = rangeD n ∧ pn n) := fun s Q E a l v q => by
  refine wpAny_Call_NameR (PE.builtin (ρ := ρ) gl hn (v := .type "range") (by rfl) (by decide) hg hb hk hx (by decide) s _ _ a l v fun u b s₁ ev₁ a₁ p₁ r₁ => ?_)
  subst p₁; cases r₁
  rw [hse]
  refine PySem.callWith_type rfl (Calls.evalArgs_plain (Calls.spliced_cons (h s₁ _ _ a₁ (l.ev ev₁) (v.ev ok ev₁) fun v₂ b₂ s₂ ev₂ a₂ p₂ r₂ => Calls.spliced_nil ?_)))
  obtain ⟨n, rfl, hpn, hz⟩ := p₂
  obtain ⟨t, rfl⟩ := Rep.int_inv r₂
  refine call_range_1 ?_
  have k : ∀ {ob : Obj} b o, s₂.heap.get? b = some o → (s₂.heap.push ob).get? b = some o := fun b o e => Heap.get?_push_of_some _ e
  refine q _ (rangeD n) _ ((ev₁.trans ev₂).trans (Ev.heap k)) (a₂.keeps ok k rfl rfl) ⟨n, rfl, hpn⟩ ⟨[], fun i v => ∃ t, v = .int (0 + i * 1) t, ⟨fun b hb => (nomatch hb), fun Q E hq => ?_⟩, fun b hb => (nomatch hb), fun i u hi hu => ?_⟩
  · refine wpAny_pyIter_range (IsRange.new ..) (small_one (by decide) (by decide) (by omega) (by omega)) ?_
    have hsz : Builtin.Range.rangeSize 0 (n : Int) 1 = (n : Int) := by rw [rangeSize_one]; split <;> omega
    have hlen : (rangeD n).length = n := by simp [rangeD]
    rw [hlen] at hq
    refine hq _ [_] (fun i h => IsRangeIter h _ (0 + (i : Nat) * 1) ((n : Int) - (i : Nat)) 1) _ (fun A' hA => Walks.range hA _ 0 1 n) (fun i h st => ⟨_, st⟩) (List.mem_singleton.mpr rfl) ?_ (fun b hb => .inl (List.mem_singleton.mp hb)) (by simp [Heap.size_push]) (none_of_ge (Nat.le_refl _)) fun b o e => Heap.get?_push_of_some _ e
    have e1 : (0 + ((0 : Nat) : Int) * 1) = 0 := by simp
    have e2 : ((n : Int) - ((0 : Nat) : Int)) = Builtin.Range.rangeSize 0 (n : Int) 1 := by rw [hsz]; simp
    rw [e1, e2]
    exact Heap.get?_push_size _ rfl
  · obtain ⟨t, rfl⟩ := hu
    refine ⟨.int i, ?_, ⟨_, by simpa using Reads.int _ _⟩⟩
    have : i < n := by simpa [rangeD] using hi
    simp [rangeD, this]
theorem PE.compN {elt iter : Expr} {x : Str} {px : Pos} {scope : Scope} {cl : List (Str × Addr)} {ρ' : Rho} {Pe : Nat → PyData → Prop} (ok : C.Ok) (hh : A.handled = none) (hiter : PIN prog w C A env ρ iter DD) (hz : ∀ ds, DD ds → ds.length ≤ sizeLine)
    (hclos : closureFor scope env = pure cl) (hcell : ∀ y ∈ scope.names, y.2 ≠ .cell) (hkind : scope.kind = .function) (hnames : ∀ x ∈ scope.names, x.2 = .local → scope.names.lookup x.1 = some .local) (hx : scope.names.lookup x = some .local)
    (hsub : ∀ Cc, Sub env (compEnvC scope cl Cc env) ρ ρ')
    (helt : ∀ (I D Cc : Addr) (i : Nat) (d : PyData), (C.inner [I, D, Cc]).Ok → (∀ b ∈ [I, D, Cc], C.B.get? b = none) → (∃ ds, DD ds ∧ ds[i]? = some d) → PE prog w (C.inner [I, D, Cc]) A (compEnvC scope cl Cc env) ((x, .d d) :: ρ') elt (fun b => ∃ d', b = .d d' ∧ Pe i d'))
    (hs : ∀ x, foldedSetIterable iter env x = pure x := by intro _; rfl) :
    PE prog w C A env ρ (.ListComp elt [⟨.Name x px, iter, [], 0⟩] scope pos) (fun b => ∃ ds es, DD ds ∧ b = BL es ∧ es.length = ds.length ∧ ∀ k d, es[k]? = some d → Pe k d) := fun s Q E a l v q => by
  refine ListComp_ev hh hclos hcell hkind hnames hx (hiter s _ _ a l v fun xv ds s₁ ev₁ a₁ hD src => ?_) hs
  obtain ⟨D0, Pp, src, hD0, hPp⟩ := src
  have l₁ := l.ev ev₁
  have v₁ := v.ev ok ev₁
  refine ⟨D0, C.T, C.F, ds.length, Pp, CJ C Pe, src, CJ.stable ok, hz _ hD, fun t ht => l₁ t ((List.mem_append.mp ht).elim (ok.TH t) (ok.FH t)), fun b hb q => hD0 b hb ((List.mem_append.mp q).elim (ok.TH b) (ok.FH b)), ?_, ?_, ?_⟩
  · exact fun pv hpv => ⟨a₁, fun b hb => a₁.fresh (hpv b hb), [], rfl, fun k d h => by simp at h, fun W _ => .nil⟩
  · rintro I D Cc i u ys s₂ m₁ E' hi hl hP hj hn hm ev hal hfr
    obtain ⟨d, hd, hr⟩ := hPp i u hi hP
    exact comp_elt ok a₁ l₁ v₁ (hsub Cc) rfl (lookup_relabel_local hx) hr (fun ok' => helt I D Cc i d ok' (fun b hb => hj.2.1 b (by simpa [pvt] using hb)) ⟨ds, hD, hd⟩) hj hn hm ev hal hfr
  · rintro I D Cc s' ys hDn hp hl ⟨a', hfr, es, h1, h2, h3⟩ ev
    refine q (.ref D) (BL es) s' (ev₁.trans ev) a' ⟨ds, es, hD, rfl, h1, h2⟩ ?_
    refine Rep.list_mk (let ⟨k, e⟩ := hp; ⟨_, e, rfl, _, rfl⟩) (fun q => by obtain ⟨o, e⟩ := l₁ D q; rw [hDn] at e; cases e) ?_
    exact all2_holds (C := C) (h3 [I, D, Cc] fun b => by simp [pvt]) fun b o e n => ⟨e, fun q => n (List.mem_append_right _ q)⟩

theorem PT.forN {W : List Addr} {x : Str} {px : Pos} {iter : Expr} {body : List Stmt} {Iv : Nat → Rho → Prop} (ok : C.Ok) (kw : Wok C env W) (hh : A.handled = none) (hk : env.scope.kind = .function) (hx : env.kindOf x = some .local)
    (hiter : PIN prog w C A env ρ iter DD) (h0 : Iv 0 ρ)
    (hb : ∀ (I : Addr) (i : Nat) (d : PyData) ρ', (C.inner [I]).Ok → (∀ b ∈ [I], C.B.get? b = none) → Wok (C.inner [I]) env W → (∃ ds, DD ds ∧ ds[i]? = some d) → Iv i ρ' → PTs prog w (C.inner [I]) A env W ((x, .d d) :: ρ') body (Iv (i + 1)))
    (hs : ∀ x, foldedSetIterable iter env x = pure x := by intro _; rfl) :
    PT prog w C A env W ρ (.For (.Name x px) iter body [] pos) (fun ρ' => ∃ ds, DD ds ∧ Iv ds.length ρ') := fun s Q E a l f v q => by
  refine For_ev hh hx (by rw [hk]; rfl) (hiter s _ _ a l v fun xv ds s₁ ev₁ a₁ hD src => ?_) hs
  obtain ⟨D0, Pp, src, hD0, hPp⟩ := src
  have l₁ := l.ev ev₁
  have v₁ := v.ev ok ev₁
  have f₁ := f.ev' ev₁ kw
  obtain ⟨m, hm⟩ := id f₁.ns
  have hTs : ∀ t, t ∈ (env.locals :: (W.filter (· != env.locals) ++ C.T)) ↔ t ∈ W ++ C.T := fun t => by
    rw [List.mem_cons, List.mem_append, List.mem_append, List.mem_filter]
    constructor
    · rintro (h | h | h)
      · exact .inl (h ▸ kw.loc)
      · exact .inl h.1
      · exact .inr h
    · rintro (h | h)
      · by_cases e : t = env.locals
        · exact .inl e
        · exact .inr (.inl ⟨h, by simpa using e⟩)
      · exact .inr (.inr h)
  have evA : ∀ {s s' : Shared}, Ev (env.locals :: (W.filter (· != env.locals) ++ C.T)) C.F s s' → Ev (W ++ C.T) C.F s s' := fun e => e.mono (fun t ht => (hTs t).mp ht) fun t ht => List.mem_append_right _ ht
  have evB : ∀ {s s' : Shared}, Ev (W ++ C.T) C.F s s' → Ev (env.locals :: (W.filter (· != env.locals) ++ C.T)) C.F s s' := fun e => e.mono (fun t ht => (hTs t).mpr ht) fun t ht => List.mem_append_right _ ht
  have hTH : ∀ t ∈ W.filter (· != env.locals) ++ C.T, t ∈ C.H := fun t ht => (List.mem_append.mp ht).elim (fun h => kw.WH t (List.mem_filter.mp h).1) (ok.TH t)
  refine ⟨D0, W.filter (· != env.locals) ++ C.T, C.F, ds.length, Pp, FJ C env Iv, m, src, FJ.stable ok, fun t ht => l₁ t ((List.mem_append.mp ht).elim (hTH t) (ok.FH t)), fun b hb q => hD0 b hb ((List.mem_append.mp q).elim (hTH b) (ok.FH b)), fun q => hD0 _ q (kw.WH _ kw.loc), hm, ?_, ?_, ?_, ?_⟩
  · intro q
    rcases List.mem_append.mp q with q | q
    · have := (List.mem_filter.mp q).2; simp at this
    · exact kw.WT _ kw.loc q
  · intro I hI
    have hcL : ∀ c u, s₁.heap.IsCell c u → ¬ (c = I ∨ c = env.locals) := fun c u hc q => by
      obtain ⟨o, ho, hd⟩ := hc
      rcases q with q | q
      · rw [q, hI] at ho; cases ho
      · obtain ⟨o', _, _, ho', hd', _⟩ := hm
        rw [q, ho'] at ho; cases ho
        rw [hd'] at hd; cases hd
    refine ⟨a₁, fun b hb => ?_, fun n c hc => let ⟨u, hu⟩ := f₁.cells n c hc; ⟨hcL c u hu, u, hu⟩, fun b hb hne => ⟨fun q => q.elim (fun q => by obtain ⟨o, e⟩ := l₁ b (ok.FH b hb); rw [q, hI] at e; cases e) hne, v₁.fs b hb⟩, ρ, h0, fun y b hy => ?_⟩
    · rcases hb with rfl | rfl
      · exact a₁.fresh hI
      · exact kw.new _ kw.loc
    · obtain ⟨u, hb, hl⟩ := v₁.look y b hy
      refine ⟨u, fun W' hW' => hb.mono fun b o e n => ⟨e, fun q => ?_⟩, ?_⟩
      · rcases List.mem_append.mp q with q | q
        · rcases (hW' b).mp q with h | h
          · rw [h, hI] at e; cases e
          · exact n (h ▸ kw.WH _ kw.loc)
        · exact n q
      · rcases hl with ⟨h1, h2, m', hm', hv⟩ | ⟨c, h1, h2, hc⟩
        · have := ns_unique hm hm'
          subst this
          exact .inl ⟨h1, hv⟩
        · exact .inr ⟨c, h1, h2, hcL c _ hc, hc⟩
  · rintro I i u s₂ m₁ E' hi hP ⟨a₂, hB, hc, hf, ρ', hIv, hρ⟩ hn ev hal hI
    obtain ⟨d, hd, hr⟩ := hPp i u hi hP
    have ok' : (C.inner [I]).Ok := ok.inner fun b hb => by
      have hbI : b = I := List.mem_singleton.mp hb
      subst hbI
      cases e : C.G.get? b with
      | none => rfl
      | some o => have := a₁.g b o e; rw [hI] at this; cases this
    have kw' : Wok (C.inner [I]) env W := ⟨kw.loc, kw.cell, fun b hb => List.mem_append_right _ (kw.WH b hb), kw.WT, kw.cF, kw.apart, kw.new⟩
    have hIH : I ∉ C.H := fun q => by obtain ⟨o, e⟩ := l₁ I q; rw [hI] at e; cases e
    have ev' := evA ev
    have f₂ : Fm env s₂ := ⟨⟨_, hn⟩, fun n c h => (hc n c h).2⟩
    have hsub := kw.sub ok
    refine hb I i d ρ' ok' (fun b hb' => by rw [List.mem_singleton.mp hb']; exact a₁.fresh hI) kw' ⟨ds, hD, hd⟩ hIv s₂ _ _ a₂.inn ?_ f₂ ?_ fun ρ₃ s₃ ev₃ a₃ p₃ f₃ v₃ => ?_
    · intro t ht
      rcases List.mem_append.mp ht with ht | ht
      · rw [List.mem_singleton.mp ht]; exact hal
      · exact l₁.ev ev t ht
    · refine ⟨?_, fun b hb => ?_⟩
      rotate_left
      · by_cases e : b = env.locals
        · exact ⟨_, e ▸ hn⟩
        · exact (hf b hb e).2
      intro y b hy
      rw [List.lookup_cons] at hy
      cases hyx : y == x with
      | true =>
        rw [hyx] at hy; cases hy
        rw [eq_of_beq hyx]
        refine ⟨u, Rep.mono hr fun b o e n => ⟨ev.keep b o e fun q => ?_, fun q => ?_⟩, .inl ⟨hx, kw.WT _ kw.loc, _, hn, by simp⟩⟩
        · rcases List.mem_append.mp q with q | q
          · exact n (hsub _ ((hTs b).mp q))
          · exact n (ok.FH _ q)
        · rcases List.mem_append.mp q with q | q
          · rw [List.mem_singleton.mp q, hI] at e; cases e
          · exact n q
      | false =>
        rw [hyx] at hy
        obtain ⟨v, h1, h2⟩ := hρ y b hy
        refine ⟨v, (h1 [I, env.locals] fun b => by simp).mono fun b o e n => ⟨e, fun q => n ?_⟩, ?_⟩
        · rcases List.mem_append.mp q with q | q
          · exact List.mem_append_left _ (by rw [List.mem_singleton.mp q]; simp)
          · exact List.mem_append_right _ q
        · rcases h2 with ⟨h3, h4⟩ | ⟨c, h3, h4, _, h5⟩
          · exact .inl ⟨h3, kw.WT _ kw.loc, _, hn, by rw [if_neg (by simpa using hyx)]; exact h4⟩
          · exact .inr ⟨c, h3, h4, h5⟩
    · obtain ⟨m₃, hm₃⟩ := id f₃.ns
      refine ⟨rfl, m₃, hm₃, ⟨a₃.out, hB, fun n c h => ⟨(hc n c h).1, f₃.cells n c h⟩, fun b hb hne => ⟨(hf b hb hne).1, v₃.fs b hb⟩, ρ₃, p₃, fun y b hy => ?_⟩, evB ev₃⟩
      obtain ⟨v, h1, h2⟩ := v₃.look y b hy
      refine ⟨v, fun W' hW' => h1.mono fun b o e n => ⟨e, fun q => n ?_⟩, ?_⟩
      · rcases List.mem_append.mp q with q | q
        · rcases (hW' b).mp q with h | h
          · exact List.mem_append_left _ (by rw [h]; simp)
          · exact List.mem_append_right _ (h ▸ kw.WH _ kw.loc)
        · exact List.mem_append_right _ q
      · rcases h2 with ⟨h3, _, m', hm', hv⟩ | ⟨c, h3, h4, h5⟩
        · have := ns_unique hm₃ hm'
          subst this
          exact .inl ⟨h3, hv⟩
        · refine .inr ⟨c, h3, h4, ?_, h5⟩
          unfold cellK at h3
          split at h3
          · exact (hc _ c h3).1
          · cases h3
  · rintro I s' m' hn ⟨a', hB, hc, hf, ρ', hIv, hρ⟩ ev
    refine q ρ' s' ((Ev.wide ev₁).trans (evA ev)) a' ⟨ds, hD, hIv⟩ ⟨⟨_, hn⟩, fun n c h => (hc n c h).2⟩ ⟨fun y b hy => ?_, fun b hb => ?_⟩
    rotate_left
    · by_cases e : b = env.locals
      · exact ⟨_, e ▸ hn⟩
      · exact (hf b hb e).2
    obtain ⟨v, h1, h2⟩ := hρ y b hy
    refine ⟨v, (h1 [I, env.locals] fun b => by simp).mono fun b o e n => ⟨e, fun q => n (List.mem_append_right _ q)⟩, ?_⟩
    rcases h2 with ⟨h3, h4⟩ | ⟨c, h3, h4, _, h5⟩
    · exact .inl ⟨h3, kw.WT _ kw.loc, _, hn, h4⟩
    · exact .inr ⟨c, h3, h4, h5⟩
end
end Mine
end

section
open PySem PySem.W PySem.Calls PyProof.Rows
set_option Elab.async false
set_option linter.unusedVariables false
set_option maxRecDepth 100000
set_option maxHeartbeats 4000000
namespace Mine
def xor3 (a b c : List Nat) : List Nat := (List.range a.length).map fun k => a.getD k 0 ^^^ b.getD k 0 ^^^ c.getD k 0
section
theorem natsD_at {a : List Nat} {i : Nat} (h : i < a.length) : (natsD a)[i]? = some (.int (a.getD i 0 : Nat)) := by
  unfold natsD
  rw [List.getElem?_map, List.getD_eq_getElem?_getD, List.getElem?_eq_getElem h]
  rfl
end
end Mine
end

section
open PySem PySem.W PySem.Calls PyProof.Rows
set_option Elab.async false
set_option linter.unusedVariables false
namespace Mine
/-- the text of a head and of values -/
def txt (l vs : List Nat) : List Nat := l ++ 49 :: vs.map sgn
theorem encL_txt (l ds : List Nat) (m : Nat) : encL l ds m = txt l (ds ++ ckl (hexp l ++ ds) m) := by simp [encL, txt]
theorem sgn_no1 : ∀ n : Nat, n < 32 → sgn n ≠ 49 := by decide +kernel
theorem sgn_inR : ∀ n : Nat, n < 32 → inR (sgn n) = true := by decide +kernel
theorem sgn_low : ∀ n : Nat, n < 32 → lowA (sgn n) = sgn n := by decide +kernel
theorem sgn_up1 : ∀ n : Nat, n < 32 → upA (sgn n) ≠ 49 := by decide +kernel
theorem sgn_upR : ∀ n : Nat, n < 32 → inR (upA (sgn n)) = true := by decide +kernel
theorem sgn_lowup : ∀ n : Nat, n < 32 → lowA (upA (sgn n)) = sgn n := by decide +kernel
theorem sgn_upup : ∀ n : Nat, n < 32 → upA (upA (sgn n)) = upA (sgn n) := by decide +kernel
theorem sgn_up_lt : ∀ n : Nat, n < 32 → upA (sgn n) < 128 := by decide +kernel
theorem sgn_inj : ∀ a : Nat, a < 32 → ∀ b : Nat, b < 32 → sgn a = sgn b → a = b := by decide +kernel
/-- a sign that may stand in a head -/
def Hd (c : Nat) : Prop := c < 128 ∧ inR c = true ∧ lowA c = c ∧ inR (upA c) = true ∧ lowA (upA c) = c ∧ upA (upA c) = upA c ∧ upA c < 128
structure HdOk (l : List Nat) : Prop where
  h : ∀ c ∈ l, Hd c
  ne : l ≠ []
  z : l.length ≤ 20
structure VsOk (vs : List Nat) : Prop where
  v : ∀ n ∈ vs, n < 32
  z6 : 6 ≤ vs.length
  z : vs.length ≤ 100
variable {l vs : List Nat}
theorem map_all {f g : Nat → Nat} {l : List Nat} (h : ∀ c ∈ l, f c = g c) : l.map f = l.map g := List.map_congr_left h
theorem HdOk.low (k : HdOk l) : l.map lowA = l := by
  have := map_all (f := lowA) (g := id) fun c hc => (k.h c hc).2.2.1
  simpa using this
theorem HdOk.lowup (k : HdOk l) : (l.map upA).map lowA = l := by
  rw [List.map_map]
  have := map_all (f := lowA ∘ upA) (g := id) fun c hc => (k.h c hc).2.2.2.2.1
  simpa using this
theorem HdOk.upup (k : HdOk l) : (l.map upA).map upA = l.map upA := by
  rw [List.map_map]
  exact map_all fun c hc => (k.h c hc).2.2.2.2.2.1
theorem HdOk.lower (k : HdOk l) : Txt.lower (mkS l) = mkS l := by rw [lower_mkS fun c hc => (k.h c hc).1, k.low]
theorem HdOk.r (k : HdOk l) : l.all inR = true := List.all_eq_true.mpr fun c hc => (k.h c hc).2.1
theorem HdOk.rup (k : HdOk l) : (l.map upA).all inR = true := by
  rw [List.all_map]; exact List.all_eq_true.mpr fun c hc => (k.h c hc).2.2.2.1
theorem HdOk.asc (k : HdOk l) : ∀ c ∈ l, c < 128 := fun c hc => (k.h c hc).1
theorem HdOk.ascup (k : HdOk l) : ∀ c ∈ l.map upA, c < 128 := fun c hc => by
  obtain ⟨a, ha, rfl⟩ := List.mem_map.mp hc; exact (k.h a ha).2.2.2.2.2.2
theorem VsOk.low (k : VsOk vs) : (vs.map sgn).map lowA = vs.map sgn := by
  rw [List.map_map]; exact map_all fun n hn => sgn_low n (k.v n hn)
theorem VsOk.lowup (k : VsOk vs) : ((vs.map sgn).map upA).map lowA = vs.map sgn := by
  rw [List.map_map, List.map_map]; exact map_all fun n hn => sgn_lowup n (k.v n hn)
theorem VsOk.upup (k : VsOk vs) : ((vs.map sgn).map upA).map upA = (vs.map sgn).map upA := by
  rw [List.map_map, List.map_map, List.map_map]; exact map_all fun n hn => sgn_upup n (k.v n hn)
theorem VsOk.no1 (k : VsOk vs) : 49 ∉ vs.map sgn := fun q => by
  obtain ⟨n, hn, e⟩ := List.mem_map.mp q; exact sgn_no1 n (k.v n hn) e
theorem VsOk.no1up (k : VsOk vs) : 49 ∉ (vs.map sgn).map upA := fun q => by
  obtain ⟨c, hc, e⟩ := List.mem_map.mp q
  obtain ⟨n, hn, rfl⟩ := List.mem_map.mp hc
  exact sgn_up1 n (k.v n hn) e
theorem VsOk.r (k : VsOk vs) : (vs.map sgn).all inR = true := by
  rw [List.all_map]; exact List.all_eq_true.mpr fun n hn => sgn_inR n (k.v n hn)
theorem VsOk.rup (k : VsOk vs) : ((vs.map sgn).map upA).all inR = true := by
  rw [List.all_map, List.all_map]; exact List.all_eq_true.mpr fun n hn => sgn_upR n (k.v n hn)
theorem VsOk.asc (k : VsOk vs) : ∀ c ∈ vs.map sgn, c < 128 := fun c hc => by
  obtain ⟨n, hn, rfl⟩ := List.mem_map.mp hc; exact sgn_lt n
theorem VsOk.ascup (k : VsOk vs) : ∀ c ∈ (vs.map sgn).map upA, c < 128 := fun c hc => by
  obtain ⟨c', hc', rfl⟩ := List.mem_map.mp hc
  obtain ⟨n, hn, rfl⟩ := List.mem_map.mp hc'; exact sgn_up_lt n (k.v n hn)
theorem asc_txt {l r : List Nat} (h1 : ∀ c ∈ l, c < 128) (h2 : ∀ c ∈ r, c < 128) : ∀ c ∈ l ++ 49 :: r, c < 128 := fun c hc => by
  rcases List.mem_append.mp hc with hc | hc
  · exact h1 c hc
  · rcases List.mem_cons.mp hc with rfl | hc
    · decide
    · exact h2 c hc
theorem rd_txt (kl : HdOk l) (kv : VsOk vs) : Rd (txt l vs) l vs :=
  ⟨⟨l, vs.map sgn, rfl, kv.no1, rfl, kl.r, kv.r⟩, by unfold txt; rw [List.map_append, kl.low, List.map_cons, kv.low]; rfl, asc_txt kl.asc kv.asc, .inl (by unfold txt; rw [List.map_append, kl.low, List.map_cons, kv.low]; rfl), kl.ne, kv.z6, kv.v, by have := kl.z; omega, by have := kv.z; omega⟩
theorem rd_up (kl : HdOk l) (kv : VsOk vs) : Rd ((txt l vs).map upA) l vs := by
  have e : (txt l vs).map upA = l.map upA ++ 49 :: (vs.map sgn).map upA := by unfold txt; rw [List.map_append, List.map_cons]; rfl
  rw [e]
  exact ⟨⟨l.map upA, _, rfl, kv.no1up, by simp, kl.rup, kv.rup⟩, by rw [List.map_append, kl.lowup, List.map_cons, kv.lowup]; rfl, asc_txt kl.ascup kv.ascup, .inr (by rw [List.map_append, kl.upup, List.map_cons, kv.upup]; rfl), kl.ne, kv.z6, kv.v, by have := kl.z; omega, by have := kv.z; omega⟩
/-- the head in great letters, no letter behind it -/
theorem rd_up2 (kl : HdOk l) (kv : VsOk vs) (h : (vs.map sgn).map upA = vs.map sgn) : Rd (l.map upA ++ 49 :: vs.map sgn) l vs :=
  ⟨⟨l.map upA, _, rfl, kv.no1, by simp, kl.rup, kv.r⟩, by rw [List.map_append, kl.lowup, List.map_cons, kv.low]; rfl, asc_txt kl.ascup kv.asc, .inr (by rw [List.map_append, kl.upup, List.map_cons, h]; rfl), kl.ne, kv.z6, kv.v, by have := kl.z; omega, by have := kv.z; omega⟩
theorem mx_up (kl : HdOk l) (kv : VsOk vs) (hl : l.map upA ≠ l) (h : (vs.map sgn).map upA ≠ vs.map sgn) : Mx (l.map upA ++ 49 :: vs.map sgn) (l.map upA) (vs.map sgn) :=
  ⟨rfl, kv.no1, kl.rup, kv.r, asc_txt kl.ascup kv.asc, fun e => by
    rw [List.map_append, kl.lowup] at e
    exact hl (List.append_inj e (by simp)).1.symm, fun e => by
    rw [List.map_append, List.map_cons] at e
    exact h (List.cons.inj (List.append_inj e (by simp)).2).2, by simpa using kl.ne, by simpa using kv.z6, by have := kl.z; simp; omega, by have := kv.z; simp; omega⟩
theorem vs_ckl {ds hs : List Nat} {m : Nat} (h : ∀ d ∈ ds, d < 32) (hz : ds.length ≤ 50) : VsOk (ds ++ ckl hs m) :=
  ⟨fun n hn => (List.mem_append.mp hn).elim (h n) fun hn => ckl_lt n hn, by simp [length_ckl], by simp [length_ckl]; omega⟩
theorem length_txt (l vs : List Nat) : (txt l vs).length = l.length + 1 + vs.length := by simp [txt]; omega
end Mine
end

section
open PySem PySem.W PySem.Calls PyProof.Rows
set_option Elab.async false
set_option linter.unusedVariables false
namespace Mine
section
variable {prog : Program} {w : World} {C : Cx} {A : Around} {env : Env} {ρ : Rho} {e e₁ e₂ : Expr} {P P₁ P₂ : Bd → Prop} {pos : Pos}
theorem PE.mulS {x : Str} {p : Int → Prop} (ok : C.Ok) (h1 : PE prog w C A env ρ e₁ (· = BS x)) (h2 : PE prog w C A env ρ e₂ (fun b => ∃ i : Int, b = BI i ∧ p i)) (hm : ∀ i, p i → MulOk x i) :
    PE prog w C A env ρ (.BinOp e₁ .Mult e₂ pos) (fun b => ∃ i, p i ∧ b = BS (Txt.mul x i)) := by
  refine PE.bin ok h1 h2 fun b₁ b₂ v₁ v₂ s Q E p₁ p₂ a l r₁ r₂ k => ?_
  subst p₁
  obtain ⟨i, rfl, pi⟩ := p₂
  obtain ⟨t, rfl⟩ := Rep.str_inv r₁
  obtain ⟨u, rfl⟩ := Rep.int_inv r₂
  exact SB.mul (hm i pi) fun t' k' => Kt.str (t := t') k a ok ⟨i, pi, rfl⟩
theorem PE.addN {i : Int} {p : Nat → Prop} (ok : C.Ok) (h1 : PE prog w C A env ρ e₁ (· = BI i)) (h2 : PE prog w C A env ρ e₂ (fun b => ∃ r : Nat, b = BI r ∧ p r)) :
    PE prog w C A env ρ (.BinOp e₁ .Add e₂ pos) (fun b => ∃ r : Nat, b = BI (i + r) ∧ p r) :=
  (PE.ints (p₁ := (· = i)) (p₂ := fun j => ∃ r : Nat, j = r ∧ p r) ok (h1.mono fun b h => ⟨i, h, rfl⟩) (h2.mono fun b ⟨r, h, hp⟩ => ⟨r, h, r, rfl, hp⟩) fun _ _ _ _ _ _ _ _ _ q => PyProof.Rows.add_int q).mono
    fun b ⟨i', j, h, h1, r, h2, hp⟩ => ⟨r, by rw [h, h1, h2], hp⟩
theorem PE.modN {i j : Int} {p : Nat → Prop} (ok : C.Ok) (hj : j ≠ 0) (h1 : PE prog w C A env ρ e₁ (fun b => ∃ r : Nat, b = BI (i + r) ∧ p r)) (h2 : PE prog w C A env ρ e₂ (· = BI j)) :
    PE prog w C A env ρ (.BinOp e₁ .Mod e₂ pos) (fun b => ∃ r : Nat, b = BI ((i + r).fmod j) ∧ p r) :=
  (PE.ints (p₁ := fun k => ∃ r : Nat, k = i + r ∧ p r) (p₂ := (· = j)) ok (h1.mono fun b ⟨r, h, hp⟩ => ⟨i + r, h, r, rfl, hp⟩) (h2.mono fun b h => ⟨j, h, rfl⟩) fun _ _ _ _ _ _ _ _ e q => PyProof.Rows.mod_int (e ▸ hj) q).mono
    fun b ⟨i', j', h, ⟨r, h1, hp⟩, h2⟩ => ⟨r, by rw [h, h1, h2], hp⟩
theorem deeper_frames (hfr : A.frames = some []) : (A.deeper env).frames = some [env] := by show A.frames.map _ = _; rw [hfr]; rfl
theorem onF_one {W : List Addr} (kw : Wok C env W) (hF : C.F = [env.locals]) (hk : env.scope.kind ≠ .module) (hfrm : env.frame = some env.locals) : OnF C [env] := fun e he => by
  rw [List.mem_singleton.mp he]; exact ⟨hk, _, hfrm, hF ▸ .head _, kw.new _ kw.loc⟩
/-- ρ says all that ρ' says -/
def Weak (ρ ρ' : Rho) : Prop := ∀ y b, ρ'.lookup y = some b → ρ.lookup y = some b
theorem Weak.nil {ρ : Rho} : Weak ρ [] := fun y b h => by cases h
theorem Weak.cons {ρ ρ' : Rho} {x : Str} {b : Bd} (h : ρ.lookup x = some b) (r : Weak ρ ρ') : Weak ρ ((x, b) :: ρ') := fun y b' hy => by
  rw [List.lookup_cons] at hy
  cases e : y == x with
  | true => rw [e] at hy; cases hy; rw [eq_of_beq e]; exact h
  | false => rw [e] at hy; exact r y b' hy
theorem Vw.weak {ρ' : Rho} {s : Shared} (v : Vw C env ρ s) (k : Weak ρ ρ') : Vw C env ρ' s := ⟨fun y b h => v.look y b (k y b h), v.fs⟩
theorem PTs.weak {W : List Addr} {body : List Stmt} {R R' : Rho → Prop} (h : PTs prog w C A env W ρ body R) (k : ∀ ρ₁, R ρ₁ → ∃ ρ₂, R' ρ₂ ∧ Weak ρ₁ ρ₂) : PTs prog w C A env W ρ body R' := fun s Q E a l f v q =>
  h s Q E a l f v fun ρ₁ s' h1 h2 h3 h4 h5 => let ⟨ρ₂, r, kk⟩ := k ρ₁ h3; q ρ₂ s' h1 h2 r h4 (h5.weak kk)
theorem PB.weak {W : List Addr} {body : List Stmt} {ρ' : Rho} (k : Weak ρ ρ') (h : PB prog w C A env W ρ' body P) : PB prog w C A env W ρ body P := fun s Q E a l f v q => h s Q E a l f (v.weak k) q
theorem pick {α : Type} {Q : α → Prop} {f : α → PyData} : ∀ es : List PyData, (∀ (k : Nat) (d : PyData), es[k]? = some d → ∃ x, Q x ∧ d = f x) → ∃ l : List α, es = l.map f ∧ (∀ x ∈ l, Q x) ∧ l.length = es.length
  | [], _ => ⟨[], rfl, fun c hc => (nomatch hc), rfl⟩
  | d :: r, h => by
    obtain ⟨c, hc, rfl⟩ := h 0 d rfl
    obtain ⟨l, rfl, h2, h3⟩ := pick r fun k d hk => h (k + 1) d hk
    exact ⟨c :: l, rfl, fun x hx => (List.mem_cons.mp hx).elim (fun e => e ▸ hc) (h2 x), by simp⟩
end
/-- in how many places two lists differ -/
def dif : List Nat → List Nat → Nat
  | a :: x, b :: y => (if a = b then 0 else 1) + dif x y
  | _, _ => 0
theorem dif_self : ∀ x : List Nat, dif x x = 0
  | [] => rfl
  | a :: x => by simp [dif, dif_self x]
theorem dif_set_le : ∀ (x y : List Nat) (j s : Nat), dif x (y.set j s) ≤ dif x y + 1
  | [], _, _, _ => by simp [dif]
  | _ :: _, [], _, _ => by simp [dif]
  | a :: x, b :: y, 0, s => by simp only [List.set_cons_zero, dif]; split <;> omega
  | a :: x, b :: y, j + 1, s => by simp only [List.set_cons_succ, dif]; have := dif_set_le x y j s; omega
theorem dif_set_pos : ∀ (x y : List Nat) (j s : Nat), x.length = y.length → j < x.length → x.getD j 0 ≠ s → 1 ≤ dif x (y.set j s)
  | [], _, _, _, _, h, _ => by simp at h
  | _ :: _, [], _, _, h, _, _ => by simp at h
  | a :: x, b :: y, 0, s, _, _, h => by
    have : a ≠ s := by simpa using h
    simp only [List.set_cons_zero, dif, if_neg this]; omega
  | a :: x, b :: y, j + 1, s, hl, hj, h => by
    have := dif_set_pos x y j s (by simpa using hl) (by simpa using hj) (by simpa using h)
    simp only [List.set_cons_succ, dif]; omega
theorem txt_set {l vs : List Nat} {r s : Nat} (h : r < vs.length) : (txt l vs).take (l.length + 1 + r) ++ [sgn s] ++ (txt l vs).drop (l.length + 1 + r + 1) = txt l (vs.set r s) := by
  have e : txt l vs = (l ++ [49]) ++ vs.map sgn := by simp [txt]
  have hl : (l ++ [49]).length = l.length + 1 := by simp
  rw [e, ← hl, Nat.add_assoc, List.take_length_add_append, List.drop_length_add_append, List.set_eq_take_append_cons_drop, if_pos h]
  simp [txt, List.map_take, List.map_drop]
theorem seq_nat {l : List Nat} {i c : Nat} (h : l[i]? = some c) : (seqIndex? (i : Int) (mkS l).length).bind ((mkS l).cps[·]?) = some c := by
  have hi := (List.getElem?_eq_some_iff.mp h).1
  rw [length_mkS]
  unfold seqIndex?
  have h0 : ¬ ((i : Int) < 0) := by omega
  have h1 : (i : Int) < l.length := by omega
  simp only [h0, if_false]
  simp [mkS, hi]
  exact (List.getElem?_eq_some_iff.mp h).2
theorem txt_get {l vs : List Nat} {r : Nat} (h : r < vs.length) : (txt l vs)[l.length + 1 + r]? = some (sgn (vs.getD r 0)) := by
  unfold txt
  rw [List.getElem?_append_right (by omega), show l.length + 1 + r - l.length = r + 1 from by omega, List.getElem?_cons_succ, List.getElem?_map, List.getD_eq_getElem?_getD, List.getElem?_eq_getElem h]
  rfl
theorem fmod_nat (a b q : Nat) : (((a : Int) + b) + (q : Int)).fmod 32 = (((a + b + q) % 32 : Nat) : Int) := by
  rw [Int.fmod_eq_emod_of_nonneg _ (by decide)]
  omega
theorem seq_last {t : List Nat} {c : Nat} : (seqIndex? (-1) (mkS (t ++ [c])).length).bind ((mkS (t ++ [c])).cps[·]?) = some c := by
  rw [PySem.seqIndex_neg (by decide) (by rw [length_mkS]; simp; omega), length_mkS]
  have : ((-1 : Int) + ((t ++ [c]).length : Nat)).toNat = t.length := by simp; omega
  rw [this]
  simp [mkS]
theorem mul_q : ∀ r : Nat, r < 4 → Txt.mul (Str.ofString "q") ((1 : Int) + (r : Int)) = mkS (List.replicate (1 + r) 113) := by decide +kernel
theorem mul_qOk : ∀ r : Nat, r < 4 → MulOk (Str.ofString "q") ((1 : Int) + (r : Int)) := by
  intro r hr
  unfold MulOk
  have : r = 0 ∨ r = 1 ∨ r = 2 ∨ r = 3 := by omega
  rcases this with rfl | rfl | rfl | rfl <;> decide
theorem txt_snoc (l t : List Nat) (c : Nat) : txt l (t ++ [c]) = txt l t ++ [sgn c] := by simp [txt]
theorem sgn0 (k : Nat) : (List.replicate k 0).map sgn = List.replicate k 113 := by rw [List.map_replicate]; rfl
theorem txt_more (l t : List Nat) (k : Nat) : txt l t ++ List.replicate k 113 ++ [112] = txt l (t ++ (List.replicate k 0 ++ [1])) := by
  unfold txt
  rw [List.map_append, List.map_append, sgn0]
  simp
  rfl
theorem ckl_split {hs : List Nat} {m : Nat} (h : (ckl hs m).getD 5 0 = 1) : ckl hs m = (ckl hs m).take 5 ++ [1] := by
  have hl := length_ckl hs m
  generalize ckl hs m = x at *
  match x, hl, h with
  | [a, b, c, d, e, f], _, h => simp at h; subst h; rfl
end Mine
end

section
open PySem PySem.W PySem.Calls PyProof.Rows
set_option Elab.async false
namespace Mine
/-- one step of the shift register, no value added -/
def shf (c : Nat) : Nat := ((c &&& 33554431) <<< 5) ^^^ TAPS.getD (c >>> 25) 0
theorem pstep_shf (c v : Nat) : pstep c v = shf c ^^^ v := by
  unfold pstep shf; rw [Nat.xor_assoc, Nat.xor_comm v, ← Nat.xor_assoc]
theorem taps_xor : ∀ a : Nat, a < 32 → ∀ b : Nat, b < 32 → TAPS.getD (a ^^^ b) 0 = TAPS.getD a 0 ^^^ TAPS.getD b 0 := by decide +kernel
theorem sr_lt {c : Nat} (h : c < 2 ^ 30) : c >>> 25 < 32 := by rw [Nat.shiftRight_eq_div_pow]; omega
theorem shf_xor {c d : Nat} (hc : c < 2 ^ 30) (hd : d < 2 ^ 30) : shf (c ^^^ d) = shf c ^^^ shf d := by
  unfold shf
  rw [Nat.and_xor_distrib_right, Nat.shiftLeft_xor_distrib, Nat.shiftRight_xor_distrib, taps_xor _ (sr_lt hc) _ (sr_lt hd)]
  ac_rfl
theorem shf_lt (c : Nat) : shf c < 2 ^ 30 := by have := pstep_lt (c := c) (v := 0) (by decide); rwa [pstep_shf, Nat.xor_zero] at this
theorem shf_zero : shf 0 = 0 := by decide
theorem taps_low : ∀ a : Nat, a < 32 → TAPS.getD a 0 % 32 = 0 → a = 0 := by decide +kernel
theorem shf_inj0 {c : Nat} (hc : c < 2 ^ 30) (h : shf c = 0) : c = 0 := by
  have h1 : (shf c) % 32 = TAPS.getD (c >>> 25) 0 % 32 := by
    unfold shf
    have : ∀ a b : Nat, ((a <<< 5) ^^^ b) % 2 ^ 5 = b % 2 ^ 5 := fun a b => by
      rw [Nat.xor_mod_two_pow, Nat.shiftLeft_eq, Nat.mul_mod_left, Nat.zero_xor]
    exact this _ _
  rw [h] at h1
  have h2 := taps_low _ (sr_lt hc) h1.symm
  have h3 : c < 2 ^ 25 := by rw [Nat.shiftRight_eq_div_pow] at h2; omega
  unfold shf at h
  rw [h2, show (33554431 : Nat) = 2 ^ 25 - 1 from rfl, Nat.and_two_pow_sub_one_eq_mod, Nat.mod_eq_of_lt h3, Nat.shiftLeft_eq] at h
  have : TAPS.getD 0 0 = 0 := rfl
  rw [this, Nat.xor_zero] at h
  omega
/-- values added without carrying, place by place -/
def zx (a b : List Nat) : List Nat := List.zipWith (· ^^^ ·) a b
theorem fold_xor : ∀ (a b : List Nat) (c d : Nat), a.length = b.length → c < 2 ^ 30 → d < 2 ^ 30 → (∀ v ∈ a, v < 32) → (∀ v ∈ b, v < 32) →
    (zx a b).foldl pstep (c ^^^ d) = a.foldl pstep c ^^^ b.foldl pstep d
  | [], [], c, d, _, _, _, _, _ => rfl
  | x :: a, y :: b, c, d, hl, hc, hd, ha, hb => by
    show (zx a b).foldl pstep (pstep (c ^^^ d) (x ^^^ y)) = a.foldl pstep (pstep c x) ^^^ b.foldl pstep (pstep d y)
    have e : pstep (c ^^^ d) (x ^^^ y) = pstep c x ^^^ pstep d y := by
      rw [pstep_shf, pstep_shf, pstep_shf, shf_xor hc hd]; ac_rfl
    rw [e]
    exact fold_xor a b _ _ (by simpa using hl) (pstep_lt (ha x (.head _))) (pstep_lt (hb y (.head _))) (fun v hv => ha v (.tail _ hv)) fun v hv => hb v (.tail _ hv)
  | [], _ :: _, _, _, hl, _, _, _, _ => by simp at hl
  | _ :: _, [], _, _, hl, _, _, _, _ => by simp at hl
end Mine
end

section
open PySem PySem.W PySem.Calls PyProof.Rows
set_option Elab.async false
namespace Mine
theorem xor_low {x v : Nat} (hv : v < 32) : (x * 32) ^^^ v = 32 * x + v := by
  have h1 : ((x * 32) ^^^ v) / 2 ^ 5 = x := by
    rw [Nat.xor_div_two_pow, show (2 : Nat) ^ 5 = 32 from rfl, Nat.mul_div_cancel _ (by decide), Nat.div_eq_of_lt hv, Nat.xor_zero]
  have h2 : ((x * 32) ^^^ v) % 2 ^ 5 = v := by
    rw [Nat.xor_mod_two_pow, show (2 : Nat) ^ 5 = 32 from rfl, Nat.mul_mod_left, Nat.zero_xor, Nat.mod_eq_of_lt hv]
  rw [show (2 : Nat) ^ 5 = 32 from rfl] at h1 h2
  omega
theorem pstep_small {x v : Nat} (hx : x < 2 ^ 25) (hv : v < 32) : pstep x v = 32 * x + v := by
  unfold pstep
  have h2 : x >>> 25 = 0 := by rw [Nat.shiftRight_eq_div_pow]; omega
  rw [h2, show (33554431 : Nat) = 2 ^ 25 - 1 from rfl, Nat.and_two_pow_sub_one_eq_mod, Nat.mod_eq_of_lt hx, Nat.shiftLeft_eq, show TAPS.getD 0 0 = 0 from rfl, Nat.xor_zero]
  exact xor_low hv
def chunks (q : Nat) : List Nat := (List.range 6).map fun i => (q >>> (5 * (5 - i))) &&& 31
theorem chunks_eq (q : Nat) : chunks q = [q / 2 ^ 25 % 32, q / 2 ^ 20 % 32, q / 2 ^ 15 % 32, q / 2 ^ 10 % 32, q / 2 ^ 5 % 32, q % 32] := by
  have e : ∀ a : Nat, a &&& 31 = a % 32 := fun a => Nat.and_two_pow_sub_one_eq_mod a 5
  have : chunks q = [(q >>> 25) &&& 31, (q >>> 20) &&& 31, (q >>> 15) &&& 31, (q >>> 10) &&& 31, (q >>> 5) &&& 31, (q >>> 0) &&& 31] := rfl
  rw [this]
  simp only [e, Nat.shiftRight_eq_div_pow, Nat.pow_zero, Nat.div_one]
theorem chunks_lt (q : Nat) : ∀ v ∈ chunks q, v < 32 := fun v hv => by
  obtain ⟨i, _, rfl⟩ := List.mem_map.mp hv
  have := Nat.and_le_right (n := q >>> (5 * (5 - i))) (m := 31)
  show _ &&& _ < 32
  omega
theorem fold_chunks {q : Nat} (h : q < 2 ^ 30) : (chunks q).foldl pstep 0 = q := by
  rw [chunks_eq]
  simp only [List.foldl_cons, List.foldl_nil]
  rw [show pstep 0 (q / 2 ^ 25 % 32) = q / 2 ^ 25 from by rw [pstep_small (by decide) (by omega)]; omega,
    show pstep (q / 2 ^ 25) (q / 2 ^ 20 % 32) = q / 2 ^ 20 from by rw [pstep_small (by omega) (by omega)]; omega,
    show pstep (q / 2 ^ 20) (q / 2 ^ 15 % 32) = q / 2 ^ 15 from by rw [pstep_small (by omega) (by omega)]; omega,
    show pstep (q / 2 ^ 15) (q / 2 ^ 10 % 32) = q / 2 ^ 10 from by rw [pstep_small (by omega) (by omega)]; omega,
    show pstep (q / 2 ^ 10) (q / 2 ^ 5 % 32) = q / 2 ^ 5 from by rw [pstep_small (by omega) (by omega)]; omega,
    show pstep (q / 2 ^ 5) (q % 32) = q from by rw [pstep_small (by omega) (by omega)]; omega]
theorem zx_zero : ∀ l : List Nat, zx (List.replicate l.length 0) l = l
  | [] => rfl
  | a :: l => by
    show (0 ^^^ a) :: zx (List.replicate l.length 0) l = a :: l
    rw [zx_zero l, Nat.zero_xor]
theorem fold_tail {c q : Nat} (hc : c < 2 ^ 30) (hq : q < 2 ^ 30) : (chunks q).foldl pstep c = [0, 0, 0, 0, 0, 0].foldl pstep c ^^^ q := by
  have h1 : (chunks q).length = 6 := by simp [chunks]
  have := fold_xor [0, 0, 0, 0, 0, 0] (chunks q) c 0 (by rw [h1]; rfl) hc (by decide) (by decide) (chunks_lt q)
  rw [Nat.xor_zero, fold_chunks hq] at this
  rw [← this]
  congr 1
  have := zx_zero (chunks q)
  rw [h1] at this
  exact this.symm
theorem ckl_chunks (vs : List Nat) (m : Nat) : ckl vs m = chunks (pmod (vs ++ [0, 0, 0, 0, 0, 0]) ^^^ m) := rfl
theorem p_good {h ds : List Nat} {m : Nat} (hh : ∀ v ∈ h, v < 32) (hd : ∀ v ∈ ds, v < 32) (hm : m < 2 ^ 30) : pmod (h ++ (ds ++ ckl (h ++ ds) m)) = m := by
  have hb : ∀ v ∈ h ++ ds, v < 32 := fun v hv => (List.mem_append.mp hv).elim (hh v) (hd v)
  have hp := pmod_lt hb
  have hp0 : pmod (h ++ ds ++ [0, 0, 0, 0, 0, 0]) < 2 ^ 30 := pmod_lt fun v hv => (List.mem_append.mp hv).elim (hb v) fun q => by simp at q; omega
  rw [← List.append_assoc, ckl_chunks]
  have e : ∀ r, pmod (h ++ ds ++ r) = r.foldl pstep (pmod (h ++ ds)) := fun r => by unfold pmod; rw [List.foldl_append]
  rw [e (chunks _), fold_tail hp (Nat.xor_lt_two_pow hp0 hm), ← e, ← Nat.xor_assoc, Nat.xor_self, Nat.zero_xor]
end Mine
end

section
open PySem PySem.W PySem.Calls PyProof.Rows
set_option Elab.async false
namespace Mine
theorem zx_length {a b : List Nat} (h : b.length = a.length) : (zx a b).length = a.length := by unfold zx; rw [List.length_zipWith, h, Nat.min_self]
theorem zx_append : ∀ {a b c d : List Nat}, a.length = b.length → zx (a ++ c) (b ++ d) = zx a b ++ zx c d := fun h => List.zipWith_append h
theorem zx3_self : ∀ h : List Nat, zx (zx h h) h = h
  | [] => rfl
  | a :: h => by
    show (a ^^^ a ^^^ a) :: zx (zx h h) h = _
    rw [zx3_self h, Nat.xor_self, Nat.zero_xor]
theorem zx_lt {a b : List Nat} (ha : ∀ v ∈ a, v < 32) (hb : ∀ v ∈ b, v < 32) : ∀ v ∈ zx a b, v < 32 := by
  induction a generalizing b with
  | nil => intro v hv; cases hv
  | cons x a ih =>
    cases b with
    | nil => intro v hv; cases hv
    | cons y b =>
      intro v hv
      rcases List.mem_cons.mp (show v ∈ (x ^^^ y) :: zx a b from hv) with rfl | hv
      · exact Nat.xor_lt_two_pow (n := 5) (ha x (.head _)) (hb y (.head _))
      · exact ih (fun v h => ha v (.tail _ h)) (fun v h => hb v (.tail _ h)) v hv
theorem xor3_zx {a b c : List Nat} (h1 : b.length = a.length) (h2 : c.length = a.length) : xor3 a b c = zx (zx a b) c := by
  refine List.ext_getElem (by simp [xor3, zx, h1, h2]) fun i hi hj => ?_
  have hia : i < a.length := by simpa [xor3] using hi
  simp only [xor3, zx, List.getElem_map, List.getElem_range, List.getElem_zipWith, List.getD_eq_getElem?_getD, List.getElem?_eq_getElem hia, List.getElem?_eq_getElem (h1 ▸ hia : i < b.length), List.getElem?_eq_getElem (h2 ▸ hia : i < c.length), Option.getD_some]
theorem chunks_xor (x y : Nat) : chunks (x ^^^ y) = zx (chunks x) (chunks y) := by
  have : ∀ k, ((x ^^^ y) >>> k) &&& 31 = ((x >>> k) &&& 31) ^^^ ((y >>> k) &&& 31) := fun k => by rw [Nat.shiftRight_xor_distrib, Nat.and_xor_distrib_right]
  unfold chunks zx
  rw [List.zipWith_map]
  simp only [this]
  rw [List.zipWith_self]
theorem fold3 {A B C : List Nat} (hb : B.length = A.length) (hc : C.length = A.length) (lA : ∀ v ∈ A, v < 32) (lB : ∀ v ∈ B, v < 32) (lC : ∀ v ∈ C, v < 32) : pmod (zx (zx A B) C) = pmod A ^^^ pmod B ^^^ pmod C := by
  unfold pmod
  rw [← fold_xor A B 1 1 hb.symm (by decide) (by decide) lA lB, ← fold_xor (zx A B) C (1 ^^^ 1) 1 (by rw [zx_length hb, hc]) (by decide) (by decide) (zx_lt lA lB) lC]
  rfl
theorem p_sum {h a b c : List Nat} {m : Nat} (hh : ∀ v ∈ h, v < 32) (ha : ∀ v ∈ a, v < 32) (hb : ∀ v ∈ b, v < 32) (hc : ∀ v ∈ c, v < 32) (h1 : b.length = a.length) (h2 : c.length = a.length) (hm : m < 2 ^ 30) :
    ckl (h ++ xor3 a b c) m = xor3 (ckl (h ++ a) m) (ckl (h ++ b) m) (ckl (h ++ c) m) := by
  rw [xor3_zx h1 h2, xor3_zx (by rw [length_ckl, length_ckl]) (by rw [length_ckl, length_ckl])]
  simp only [ckl_chunks, ← chunks_xor]
  have lt : ∀ {x : List Nat}, (∀ v ∈ x, v < 32) → ∀ v ∈ h ++ x ++ [0, 0, 0, 0, 0, 0], v < 32 := fun hx v hv => by
    rcases List.mem_append.mp hv with hv | hv
    · exact (List.mem_append.mp hv).elim (hh v) (hx v)
    · simp at hv; omega
  have e : zx (zx (h ++ a ++ [0, 0, 0, 0, 0, 0]) (h ++ b ++ [0, 0, 0, 0, 0, 0])) (h ++ c ++ [0, 0, 0, 0, 0, 0]) = h ++ zx (zx a b) c ++ [0, 0, 0, 0, 0, 0] := by
    rw [zx_append (a := h ++ a) (b := h ++ b) (by simp [h1]), zx_append (a := zx (h ++ a) (h ++ b)) (b := h ++ c) (by rw [zx_length (by simp [h1])]; simp [h2]), zx_append (a := h) (b := h) rfl, zx_append (a := zx h h) (b := h) (zx_length rfl), zx3_self]
    rfl
  have := fold3 (A := h ++ a ++ [0, 0, 0, 0, 0, 0]) (B := h ++ b ++ [0, 0, 0, 0, 0, 0]) (C := h ++ c ++ [0, 0, 0, 0, 0, 0]) (by simp [h1]) (by simp [h2]) (lt ha) (lt hb) (lt hc)
  rw [e] at this
  rw [this]
  congr 1
  have : ∀ p q r m : Nat, p ^^^ q ^^^ r ^^^ m = p ^^^ m ^^^ (q ^^^ m) ^^^ (r ^^^ m) := fun p q r m => by
    have h0 : p ^^^ m ^^^ (q ^^^ m) ^^^ (r ^^^ m) = p ^^^ q ^^^ r ^^^ m ^^^ (m ^^^ m) := by ac_rfl
    rw [h0, Nat.xor_self, Nat.xor_zero]
  exact this _ _ _ _
end Mine
end

section
open PySem PySem.W PySem.Calls PyProof.Rows
set_option Elab.async false
set_option linter.unusedVariables false
namespace Mine
/-- a choice of some vectors, added -/
def comb : List Bool → List Nat → Nat
  | c :: cs, v :: vs => (if c then v else 0) ^^^ comb cs vs
  | _, _ => 0
/-- the vectors are independent: one after the other is taken out by its top bit -/
def ind : Nat → List Nat → Bool
  | _, [] => true
  | 0, _ :: _ => false
  | f + 1, v :: vs => v.testBit v.log2 && ind f (vs.map fun w => if w.testBit v.log2 then w ^^^ v else w)
theorem comb_map {v b : Nat} (hv : v.testBit b = true) : ∀ (cs : List Bool) (vs : List Nat), ∃ k : Bool, comb cs vs = (if k then v else 0) ^^^ comb cs (vs.map fun w => if w.testBit b then w ^^^ v else w) ∧ (comb cs (vs.map fun w => if w.testBit b then w ^^^ v else w)).testBit b = false
  | [], vs => ⟨false, by cases vs <;> simp [comb], by cases vs <;> simp [comb]⟩
  | c :: cs, [] => ⟨false, by simp [comb], by simp [comb]⟩
  | c :: cs, w :: vs => by
    obtain ⟨k, h1, h2⟩ := comb_map hv cs vs
    simp only [List.map_cons, comb]
    rw [h1]
    generalize comb cs (vs.map fun w => if w.testBit b then w ^^^ v else w) = z at *
    cases c with
    | false => exact ⟨k, by simp, by simpa using h2⟩
    | true =>
      cases hw : w.testBit b with
      | false => exact ⟨k, by simp; ac_rfl, by simp [hw, h2]⟩
      | true =>
        refine ⟨!k, ?_, by simp [hw, hv, h2]⟩
        simp only [if_true]
        cases k with
        | false => 
          simp only [Bool.not_false, if_true, Bool.false_eq_true, if_false, Nat.zero_xor]
          rw [Nat.xor_comm w v, ← Nat.xor_assoc, ← Nat.xor_assoc, Nat.xor_self, Nat.zero_xor]
        | true => 
          simp only [Bool.not_true, if_true, Bool.false_eq_true, if_false, Nat.zero_xor]
          exact (Nat.xor_assoc _ _ _).symm
theorem ind_sound : ∀ (f : Nat) (vs : List Nat) (cs : List Bool), ind f vs = true → cs.length = vs.length → comb cs vs = 0 → ∀ c ∈ cs, c = false
  | _, [], cs, _, hl, _ => by
    have : cs = [] := List.length_eq_zero_iff.mp hl
    subst this; intro c hc; cases hc
  | 0, _ :: _, _, h, _, _ => by simp [ind] at h
  | f + 1, v :: vs, cs, h, hl, h0 => by
    cases cs with
    | nil => simp at hl
    | cons c cs =>
      simp only [ind, Bool.and_eq_true] at h
      obtain ⟨k, h1, h2⟩ := comb_map h.1 cs vs
      simp only [comb] at h0
      rw [h1] at h0
      have hb := congrArg (fun z => z.testBit v.log2) h0
      simp only [Nat.testBit_xor, h2, Nat.zero_testBit, Bool.xor_false] at hb
      have hck : c = k := by
        cases c <;> cases k <;> simp [h.1] at hb ⊢
      subst hck
      have h3 : comb cs (vs.map fun w => if w.testBit v.log2 then w ^^^ v else w) = 0 := by
        rw [← Nat.xor_assoc, Nat.xor_self, Nat.zero_xor] at h0; exact h0
      have ih := ind_sound f _ cs h.2 (by simpa using hl) h3
      have hc : c = false := by
        have hz : comb cs vs = 0 := by
          have : ∀ (cs : List Bool) (vs : List Nat), (∀ c ∈ cs, c = false) → comb cs vs = 0 := fun cs => by
            induction cs with
            | nil => intro vs _; cases vs <;> rfl
            | cons a cs ihh =>
              intro vs hh
              cases vs with
              | nil => rfl
              | cons v vs => simp only [comb]; rw [hh a (.head _), ihh vs fun c hc => hh c (.tail _ hc)]; simp
          exact this cs vs ih
        rw [h1, h3, Nat.xor_zero] at hz
        cases c with
        | false => rfl
        | true => simp only [if_true] at hz; rw [hz] at h; simp at h
      intro x hx
      exact (List.mem_cons.mp hx).elim (fun e => e.trans hc) (ih x)
end Mine
end

section
open PySem PySem.W PySem.Calls PyProof.Rows
set_option Elab.async false
set_option linter.unusedVariables false
namespace Mine
def bits (x : Nat) : List Bool := [x.testBit 0, x.testBit 1, x.testBit 2, x.testBit 3, x.testBit 4]
def pw : Nat → Nat → Nat
  | 0, x => x
  | p + 1, x => shf (pw p x)
theorem pw_lt : ∀ (p : Nat) {x : Nat}, x < 2 ^ 30 → pw p x < 2 ^ 30
  | 0, _, h => h
  | _ + 1, _, _ => shf_lt _
theorem pw_xor : ∀ (p : Nat) {x y : Nat}, x < 2 ^ 30 → y < 2 ^ 30 → pw p (x ^^^ y) = pw p x ^^^ pw p y
  | 0, _, _, _, _ => rfl
  | p + 1, x, y, hx, hy => by simp only [pw]; rw [pw_xor p hx hy, shf_xor (pw_lt p hx) (pw_lt p hy)]
theorem pw_shf : ∀ (p x : Nat), pw p (shf x) = pw (p + 1) x
  | 0, _ => rfl
  | p + 1, x => by simp only [pw]; rw [pw_shf p x]; rfl
theorem pw_zero : ∀ p : Nat, pw p 0 = 0
  | 0 => rfl
  | p + 1 => by simp only [pw]; rw [pw_zero p, shf_zero]
theorem comb_lt : ∀ (cs : List Bool) (vs : List Nat), (∀ v ∈ vs, v < 2 ^ 30) → comb cs vs < 2 ^ 30
  | [], vs, _ => by cases vs <;> simp [comb]
  | _ :: _, [], _ => by simp [comb]
  | c :: cs, v :: vs, h => by
    simp only [comb]
    refine Nat.xor_lt_two_pow ?_ (comb_lt cs vs fun w hw => h w (.tail _ hw))
    split
    · exact h v (.head _)
    · decide
theorem comb_pw (p : Nat) : ∀ (cs : List Bool) (vs : List Nat), (∀ v ∈ vs, v < 2 ^ 30) → comb cs (vs.map (pw p)) = pw p (comb cs vs)
  | [], vs, _ => by cases vs <;> simp [comb, pw_zero]
  | _ :: _, [], _ => by simp [comb, pw_zero]
  | c :: cs, v :: vs, h => by
    simp only [List.map_cons, comb]
    rw [comb_pw p cs vs fun w hw => h w (.tail _ hw)]
    have hc := comb_lt cs vs fun w hw => h w (.tail _ hw)
    cases c with
    | false => simp
    | true => simp only [if_true]; rw [pw_xor p (h v (.head _)) hc]
theorem comb_append : ∀ (cs ds : List Bool) (B D : List Nat), cs.length = B.length → comb (cs ++ ds) (B ++ D) = comb cs B ^^^ comb ds D
  | [], ds, [], D, _ => by simp [comb]
  | c :: cs, ds, b :: B, D, h => by
    simp only [List.cons_append, comb]
    rw [comb_append cs ds B D (by simpa using h), Nat.xor_assoc]
  | [], _, _ :: _, _, h => by simp at h
  | _ :: _, _, [], _, h => by simp at h
theorem comb_bits : ∀ x : Nat, x < 32 → comb (bits x) [1, 2, 4, 8, 16] = x := by decide +kernel
theorem bits_zero : ∀ x : Nat, x < 32 → (∀ c ∈ bits x, c = false) → x = 0 := by decide +kernel
def unit5 : List Nat := [1, 2, 4, 8, 16]
theorem unit5_lt : ∀ v ∈ unit5, v < 2 ^ 30 := by decide
/-- the register after the values, the last one first -/
def val : List Nat → Nat
  | [] => 0
  | x :: r => x ^^^ shf (val r)
theorem val_lt : ∀ (r : List Nat), (∀ v ∈ r, v < 32) → val r < 2 ^ 30
  | [], _ => by decide
  | x :: r, h => Nat.xor_lt_two_pow (by have := h x (.head _); omega) (shf_lt _)
theorem fold_val : ∀ r : List Nat, (r.reverse).foldl pstep 0 = val r
  | [] => rfl
  | x :: r => by
    rw [List.reverse_cons, List.foldl_append, fold_val r]
    show pstep (val r) x = _
    rw [pstep_shf, Nat.xor_comm]; rfl
/-- no choice of at most t places among n more ones, with the vectors B, gives nought -/
def far : Nat → Nat → List Nat → List Nat → Bool
  | _, 0, _, B => ind B.length B
  | 0, _ + 1, _, B => ind B.length B
  | t + 1, n + 1, g, B => far (t + 1) n (g.map shf) B && far t n (g.map shf) (B ++ g)
theorem val_zero : ∀ r : List Nat, (∀ v ∈ r, v = 0) → val r = 0
  | [], _ => rfl
  | x :: r, h => by simp only [val]; rw [h x (.head _), val_zero r fun v hv => h v (.tail _ hv), shf_zero]; rfl
def nz (r : List Nat) : Nat := r.countP fun v => v != 0
theorem nz_zero {r : List Nat} (h : nz r = 0) : ∀ v ∈ r, v = 0 := fun v hv => by
  have := List.countP_eq_zero.mp h v hv
  simpa using this
theorem far_sound : ∀ (t n p : Nat) (B r : List Nat) (cs : List Bool), far t n (unit5.map (pw p)) B = true → (∀ b ∈ B, b < 2 ^ 30) → r.length = n → (∀ v ∈ r, v < 32) → nz r ≤ t → cs.length = B.length →
    comb cs B ^^^ pw p (val r) = 0 → ∀ c ∈ cs, c = false
  | t, 0, p, B, r, cs, hf, hB, hl, hr, hn, hc, h => by
    have : r = [] := List.length_eq_zero_iff.mp hl
    subst this
    have hf' : ind B.length B = true := by cases t <;> exact hf
    rw [show val [] = 0 from rfl, pw_zero, Nat.xor_zero] at h
    exact ind_sound _ _ _ hf' hc h
  | 0, n + 1, p, B, r, cs, hf, hB, hl, hr, hn, hc, h => by
    rw [val_zero r (nz_zero (Nat.le_zero.mp hn)), pw_zero, Nat.xor_zero] at h
    exact ind_sound _ _ _ hf hc h
  | t + 1, n + 1, p, B, x :: r, cs, hf, hB, hl, hr, hn, hc, h => by
    simp only [far, Bool.and_eq_true] at hf
    have hmap : (unit5.map (pw p)).map shf = unit5.map (pw (p + 1)) := by rw [List.map_map]; rfl
    rw [hmap] at hf
    have hx := hr x (.head _)
    have hr' : ∀ v ∈ r, v < 32 := fun v hv => hr v (.tail _ hv)
    have hv := val_lt r hr'
    have hl' : r.length = n := by simpa using hl
    simp only [val] at h
    rw [pw_xor p (by omega) (shf_lt _), pw_shf] at h
    by_cases hx0 : x = 0
    · subst hx0
      have hn' : nz r ≤ t + 1 := by simpa [nz] using hn
      rw [pw_zero, Nat.zero_xor] at h
      exact far_sound (t + 1) n (p + 1) B r cs hf.1 hB hl' hr' hn' hc h
    · have hn' : nz r ≤ t := by
        have : nz (x :: r) = nz r + 1 := by unfold nz; rw [List.countP_cons_of_pos (by simpa using hx0)]
        omega
      have e : comb (cs ++ bits x) (B ++ unit5.map (pw p)) = comb cs B ^^^ pw p x := by
        rw [comb_append _ _ _ _ hc, comb_pw p _ _ unit5_lt]
        rw [show comb (bits x) unit5 = x from comb_bits x hx]
      have hall := far_sound t n (p + 1) (B ++ unit5.map (pw p)) r (cs ++ bits x) hf.2 (fun b hb => (List.mem_append.mp hb).elim (hB b) fun hb => by
        obtain ⟨u, hu, rfl⟩ := List.mem_map.mp hb; exact pw_lt p (unit5_lt u hu)) hl' hr' hn' (by simp [hc, bits, unit5]) (by rw [e, Nat.xor_assoc]; exact h)
      exact absurd (bits_zero x hx fun c hc => hall c (List.mem_append_right _ hc)) hx0
  | t + 1, n + 1, p, B, [], cs, hf, hB, hl, hr, hn, hc, h => by simp at hl
end Mine
end

section
open PySem PySem.W PySem.Calls PyProof.Rows
set_option Elab.async false
set_option linter.unusedVariables false
namespace Mine
theorem val_pad : ∀ (r : List Nat) (k : Nat), val (r ++ List.replicate k 0) = val r
  | [], k => val_zero _ fun v hv => (List.mem_replicate.mp hv).2
  | x :: r, k => by simp only [List.cons_append, val]; rw [val_pad r k]
theorem nz_pad (r : List Nat) (k : Nat) : nz (r ++ List.replicate k 0) = nz r := by
  unfold nz; rw [List.countP_append, List.countP_replicate]; simp
theorem val_far {t n : Nat} (hf : far t n (unit5.map (pw 1)) unit5 = true) : ∀ (r : List Nat), r.length ≤ n + 1 → (∀ v ∈ r, v < 32) → 1 ≤ nz r → nz r ≤ t + 1 → val r ≠ 0
  | [], _, _, h, _ => by simp [nz] at h
  | x :: r, hl, hr, h1, h2 => fun h => by
    have hx := hr x (.head _)
    have hr' : ∀ v ∈ r, v < 32 := fun v hv => hr v (.tail _ hv)
    by_cases hx0 : x = 0
    · subst hx0
      have hn : nz (0 :: r) = nz r := by unfold nz; rw [List.countP_cons_of_neg (by simp)]
      rw [hn] at h1 h2
      simp only [val, Nat.zero_xor] at h
      exact val_far hf r (by simp at hl; omega) hr' h1 h2 (shf_inj0 (val_lt r hr') h)
    · have hn : nz (x :: r) = nz r + 1 := by unfold nz; rw [List.countP_cons_of_pos (by simpa using hx0)]
      have hlen : r.length ≤ n := by simp at hl; omega
      have hall := far_sound t n 1 unit5 (r ++ List.replicate (n - r.length) 0) (bits x) hf unit5_lt (by simp; omega) (fun v hv => (List.mem_append.mp hv).elim (hr' v) fun hv => by rw [(List.mem_replicate.mp hv).2]; decide) (by rw [nz_pad]; omega) rfl
        (by rw [show comb (bits x) unit5 = x from comb_bits x hx, val_pad]; exact h)
      exact hx0 (bits_zero x hx hall)
theorem dif_nz : ∀ (a b : List Nat), a.length = b.length → nz (zx a b) = dif a b
  | [], [], _ => rfl
  | x :: a, y :: b, h => by
    have ih := dif_nz a b (by simpa using h)
    show nz ((x ^^^ y) :: zx a b) = (if x = y then 0 else 1) + dif a b
    by_cases e : x = y
    · subst e
      rw [if_pos rfl, Nat.xor_self]
      have : nz (0 :: zx a b) = nz (zx a b) := by unfold nz; rw [List.countP_cons_of_neg (by simp)]
      omega
    · have hne : x ^^^ y ≠ 0 := fun q => e (by have := congrArg (· ^^^ y) q; simpa [Nat.xor_assoc] using this)
      rw [if_neg e]
      have : nz ((x ^^^ y) :: zx a b) = nz (zx a b) + 1 := by unfold nz; rw [List.countP_cons_of_pos (by simpa using hne)]
      omega
  | [], _ :: _, h => by simp at h
  | _ :: _, [], h => by simp at h
end Mine
end

section
open PySem PySem.W PySem.Calls PyProof.Rows
set_option Elab.async false
set_option linter.unusedVariables false
namespace Mine
def Cx.at (C : Cx) (X : Shared → Prop) : Cx := { C with X := X }
section
variable {prog : Program} {w : World} {C C' : Cx} {A : Around} {env : Env} {W : List Addr} {ρ : Rho}
theorem Wok.at {X : Shared → Prop} (k : Wok C env W) : Wok (C.at X) env W := ⟨k.loc, k.cell, k.WH, k.WT, k.cF, k.apart, k.new⟩
theorem Vw.at {X : Shared → Prop} {s : Shared} (v : Vw C env ρ s) : Vw (C.at X) env ρ s := ⟨v.look, v.fs⟩
theorem Vw.unat {X : Shared → Prop} {s : Shared} (v : Vw (C.at X) env ρ s) : Vw C env ρ s := ⟨v.look, v.fs⟩
/-- the statements go on, from what C knows to what C' knows -/
def PTsX (prog : Program) (w : World) (C C' : Cx) (A : Around) (env : Env) (W : List Addr) (ρ : Rho) (sts : List Stmt) (P : Rho → Prop) : Prop :=
  ∀ (s : Shared) (Q : Flow → Shared → Prop) (E : Value → Shared → Prop), C.Am s → Live C.H s → Fm env s → Vw C env ρ s →
    (∀ ρ' s', Ev (W ++ C.T) C.F s s' → C'.Am s' → P ρ' → Fm env s' → Vw C env ρ' s' → Q .next s') → wpAny (model prog w) A (execs sts env) Q E s
end
section
variable {prog : Program} {w : World} {C : Cx} {A : Around} {env : Env} {ρ : Rho} {e : Expr} {P : Bd → Prop} {pos : Pos} {DD : List PyData → Prop}
/-- what holds between the turns of a for -/
def FJX (C : Cx) (Y : Nat → Shared → Prop) (env : Env) (Iv : Nat → Rho → Prop) (pv : Addr → Prop) (i : Nat) (m : Str → Option Value) (s : Shared) : Prop :=
  (C.at (Y i)).Am s ∧ (∀ b, pv b → C.B.get? b = none) ∧ (∀ n c, env.cells.lookup n = some c → ¬ pv c ∧ ∃ v, s.heap.IsCell c v) ∧ (∀ b ∈ C.F, b ≠ env.locals → ¬ pv b ∧ ∃ m, s.heap.Ns b m) ∧ ∃ ρ', Iv i ρ' ∧ ∀ y b, ρ'.lookup y = some b → ∃ v, (∀ W : List Addr, (∀ b, b ∈ W ↔ pv b) → b.holds (W ++ C.H) s v) ∧
    ((env.kindOf y = some .local ∧ m y = some v) ∨ ∃ c, cellK env y = some c ∧ c ∉ C.T ++ C.F ∧ ¬ pv c ∧ s.heap.IsCell c (some v))
theorem FJX.stable {Y : Nat → Shared → Prop} {Iv : Nat → Rho → Prop} (okY : ∀ i, (C.at (Y i)).Ok) : StableF (FJX C Y env Iv) := fun pv i m s₁ s₂ ⟨a, hn, hc, hf, ρ', h1, h2⟩ k g os => by
  have kc : ∀ c u, ¬ pv c → s₁.heap.IsCell c u → s₂.heap.IsCell c u := fun c u n ⟨o, ho, hd⟩ => ⟨o, k c o n ho, hd⟩
  refine ⟨a.stab (okY i) (fun b o o₀ e₀ e => k b o (fun q => by have e' : C.B.get? b = some o₀ := e₀; rw [hn b q] at e'; cases e') e) os g, hn, fun n c h => let ⟨n', u, hu⟩ := hc n c h; ⟨n', u, kc c u n' hu⟩, fun b hb hne => let ⟨n', m, hm⟩ := hf b hb hne; ⟨n', m, hm.at' fun o e => k b o n' e⟩, ρ', h1, fun y b hy => ?_⟩
  obtain ⟨v, h3, h4⟩ := h2 y b hy
  refine ⟨v, fun W hW => (h3 W hW).mono fun b o e n => ⟨k b o (fun q => n (List.mem_append_left _ ((hW b).mpr q))) e, n⟩, ?_⟩
  rcases h4 with h4 | ⟨c, h5, h6, h7, h8⟩
  · exact .inl h4
  · exact .inr ⟨c, h5, h6, h7, kc c _ h7 h8⟩

theorem PT.forX {Y : Nat → Shared → Prop} {W : List Addr} {x : Str} {px : Pos} {iter : Expr} {body : List Stmt} {Iv : Nat → Rho → Prop} (ok : C.Ok) (okY : ∀ i, (C.at (Y i)).Ok) (kw : Wok C env W) (hh : A.handled = none) (hk : env.scope.kind = .function) (hx : env.kindOf x = some .local)
    (hiter : PIN prog w (C.at (Y 0)) A env ρ iter DD) (h0 : Iv 0 ρ)
    (hb : ∀ (I : Addr) (i : Nat) (d : PyData) ρ', ((C.at (Y i)).inner [I]).Ok → (∀ b ∈ [I], C.B.get? b = none) → Wok ((C.at (Y i)).inner [I]) env W → (∃ ds, DD ds ∧ ds[i]? = some d) → Iv i ρ' → PTsX prog w ((C.at (Y i)).inner [I]) ((C.at (Y (i + 1))).inner [I]) A env W ((x, .d d) :: ρ') body (Iv (i + 1)))
    (hs : ∀ x, foldedSetIterable iter env x = pure x := by intro _; rfl) :
    ∀ (s : Shared) (Q : Flow → Shared → Prop) (E : Value → Shared → Prop), (C.at (Y 0)).Am s → Live C.H s → Fm env s → Vw C env ρ s →
      (∀ ρ' s' ds, Ev (W ++ C.T) C.F s s' → DD ds → (C.at (Y ds.length)).Am s' → Iv ds.length ρ' → Fm env s' → Vw C env ρ' s' → Q .next s') → wpAny (model prog w) A (exec (.For (.Name x px) iter body [] pos) env) Q E s := fun s Q E a l f v q => by
  refine For_ev hh hx (by rw [hk]; rfl) (hiter s _ _ a l v.at fun xv ds s₁ ev₁ a₁ hD src => ?_) hs
  have ev₁ : Ev C.T C.F s s₁ := ev₁
  obtain ⟨D0, Pp, src, hD0, hPp⟩ := src
  have l₁ := l.ev ev₁
  have v₁ := v.ev ok ev₁
  have f₁ := f.ev' ev₁ kw
  obtain ⟨m, hm⟩ := id f₁.ns
  have hTs : ∀ t, t ∈ (env.locals :: (W.filter (· != env.locals) ++ C.T)) ↔ t ∈ W ++ C.T := fun t => by
    rw [List.mem_cons, List.mem_append, List.mem_append, List.mem_filter]
    constructor
    · rintro (h | h | h)
      · exact .inl (h ▸ kw.loc)
      · exact .inl h.1
      · exact .inr h
    · rintro (h | h)
      · by_cases e : t = env.locals
        · exact .inl e
        · exact .inr (.inl ⟨h, by simpa using e⟩)
      · exact .inr (.inr h)
  have evA : ∀ {s s' : Shared}, Ev (env.locals :: (W.filter (· != env.locals) ++ C.T)) C.F s s' → Ev (W ++ C.T) C.F s s' := fun e => e.mono (fun t ht => (hTs t).mp ht) fun t ht => List.mem_append_right _ ht
  have evB : ∀ {s s' : Shared}, Ev (W ++ C.T) C.F s s' → Ev (env.locals :: (W.filter (· != env.locals) ++ C.T)) C.F s s' := fun e => e.mono (fun t ht => (hTs t).mpr ht) fun t ht => List.mem_append_right _ ht
  have hTH : ∀ t ∈ W.filter (· != env.locals) ++ C.T, t ∈ C.H := fun t ht => (List.mem_append.mp ht).elim (fun h => kw.WH t (List.mem_filter.mp h).1) (ok.TH t)
  refine ⟨D0, W.filter (· != env.locals) ++ C.T, C.F, ds.length, Pp, FJX C Y env Iv, m, src, FJX.stable okY, fun t ht => l₁ t ((List.mem_append.mp ht).elim (hTH t) (ok.FH t)), fun b hb q => hD0 b hb ((List.mem_append.mp q).elim (hTH b) (ok.FH b)), fun q => hD0 _ q (kw.WH _ kw.loc), hm, ?_, ?_, ?_, ?_⟩
  · intro q
    rcases List.mem_append.mp q with q | q
    · have := (List.mem_filter.mp q).2; simp at this
    · exact kw.WT _ kw.loc q
  · intro I hI
    have hcL : ∀ c u, s₁.heap.IsCell c u → ¬ (c = I ∨ c = env.locals) := fun c u hc q => by
      obtain ⟨o, ho, hd⟩ := hc
      rcases q with q | q
      · rw [q, hI] at ho; cases ho
      · obtain ⟨o', _, _, ho', hd', _⟩ := hm
        rw [q, ho'] at ho; cases ho
        rw [hd'] at hd; cases hd
    refine ⟨a₁, fun b hb => ?_, fun n c hc => let ⟨u, hu⟩ := f₁.cells n c hc; ⟨hcL c u hu, u, hu⟩, fun b hb hne => ⟨fun q => q.elim (fun q => by obtain ⟨o, e⟩ := l₁ b (ok.FH b hb); rw [q, hI] at e; cases e) hne, v₁.fs b hb⟩, ρ, h0, fun y b hy => ?_⟩
    · rcases hb with rfl | rfl
      · exact a₁.fresh hI
      · exact kw.new _ kw.loc
    · obtain ⟨u, hb, hl⟩ := v₁.look y b hy
      refine ⟨u, fun W' hW' => hb.mono fun b o e n => ⟨e, fun q => ?_⟩, ?_⟩
      · rcases List.mem_append.mp q with q | q
        · rcases (hW' b).mp q with h | h
          · rw [h, hI] at e; cases e
          · exact n (h ▸ kw.WH _ kw.loc)
        · exact n q
      · rcases hl with ⟨h1, h2, m', hm', hv⟩ | ⟨c, h1, h2, hc⟩
        · have := ns_unique hm hm'
          subst this
          exact .inl ⟨h1, hv⟩
        · exact .inr ⟨c, h1, h2, hcL c _ hc, hc⟩
  · rintro I i u s₂ m₁ E' hi hP ⟨a₂, hB, hc, hf, ρ', hIv, hρ⟩ hn ev hal hI
    obtain ⟨d, hd, hr⟩ := hPp i u hi hP
    have ok' : ((C.at (Y i)).inner [I]).Ok := (okY i).inner fun b hb => by
      have hbI : b = I := List.mem_singleton.mp hb
      subst hbI
      show C.G.get? b = none
      cases e : C.G.get? b with
      | none => rfl
      | some o => have := a₁.g b o e; rw [hI] at this; cases this
    have kw' : Wok ((C.at (Y i)).inner [I]) env W := ⟨kw.loc, kw.cell, fun b hb => List.mem_append_right _ (kw.WH b hb), kw.WT, kw.cF, kw.apart, kw.new⟩
    have hIH : I ∉ C.H := fun q => by obtain ⟨o, e⟩ := l₁ I q; rw [hI] at e; cases e
    have ev' := evA ev
    have f₂ : Fm env s₂ := ⟨⟨_, hn⟩, fun n c h => (hc n c h).2⟩
    have hsub := kw.sub ok
    refine hb I i d ρ' ok' (fun b hb' => by rw [List.mem_singleton.mp hb']; exact a₁.fresh hI) kw' ⟨ds, hD, hd⟩ hIv s₂ _ _ a₂.inn ?_ f₂ ?_ fun ρ₃ s₃ ev₃ a₃ p₃ f₃ v₃ => ?_
    · intro t ht
      rcases List.mem_append.mp ht with ht | ht
      · rw [List.mem_singleton.mp ht]; exact hal
      · exact l₁.ev ev t ht
    · refine ⟨?_, fun b hb => ?_⟩
      rotate_left
      · by_cases e : b = env.locals
        · exact ⟨_, e ▸ hn⟩
        · exact (hf b hb e).2
      intro y b hy
      rw [List.lookup_cons] at hy
      cases hyx : y == x with
      | true =>
        rw [hyx] at hy; cases hy
        rw [eq_of_beq hyx]
        refine ⟨u, Rep.mono hr fun b o e n => ⟨ev.keep b o e fun q => ?_, fun q => ?_⟩, .inl ⟨hx, kw.WT _ kw.loc, _, hn, by simp⟩⟩
        · rcases List.mem_append.mp q with q | q
          · exact n (hsub _ ((hTs b).mp q))
          · exact n (ok.FH _ q)
        · rcases List.mem_append.mp q with q | q
          · rw [List.mem_singleton.mp q, hI] at e; cases e
          · exact n q
      | false =>
        rw [hyx] at hy
        obtain ⟨v, h1, h2⟩ := hρ y b hy
        refine ⟨v, (h1 [I, env.locals] fun b => by simp).mono fun b o e n => ⟨e, fun q => n ?_⟩, ?_⟩
        · rcases List.mem_append.mp q with q | q
          · exact List.mem_append_left _ (by rw [List.mem_singleton.mp q]; simp)
          · exact List.mem_append_right _ q
        · rcases h2 with ⟨h3, h4⟩ | ⟨c, h3, h4, _, h5⟩
          · exact .inl ⟨h3, kw.WT _ kw.loc, _, hn, by rw [if_neg (by simpa using hyx)]; exact h4⟩
          · exact .inr ⟨c, h3, h4, h5⟩
    · obtain ⟨m₃, hm₃⟩ := id f₃.ns
      refine ⟨rfl, m₃, hm₃, ⟨a₃.out, hB, fun n c h => ⟨(hc n c h).1, f₃.cells n c h⟩, fun b hb hne => ⟨(hf b hb hne).1, v₃.fs b hb⟩, ρ₃, p₃, fun y b hy => ?_⟩, evB ev₃⟩
      obtain ⟨v, h1, h2⟩ := v₃.look y b hy
      refine ⟨v, fun W' hW' => h1.mono fun b o e n => ⟨e, fun q => n ?_⟩, ?_⟩
      · rcases List.mem_append.mp q with q | q
        · rcases (hW' b).mp q with h | h
          · exact List.mem_append_left _ (by rw [h]; simp)
          · exact List.mem_append_right _ (h ▸ kw.WH _ kw.loc)
        · exact List.mem_append_right _ q
      · rcases h2 with ⟨h3, _, m', hm', hv⟩ | ⟨c, h3, h4, h5⟩
        · have := ns_unique hm₃ hm'
          subst this
          exact .inl ⟨h3, hv⟩
        · refine .inr ⟨c, h3, h4, ?_, h5⟩
          unfold cellK at h3
          split at h3
          · exact (hc _ c h3).1
          · cases h3
  · rintro I s' m' hn ⟨a', hB, hc, hf, ρ', hIv, hρ⟩ ev
    refine q ρ' s' ds ((Ev.wide ev₁).trans (evA ev)) hD a' hIv ⟨⟨_, hn⟩, fun n c h => (hc n c h).2⟩ ⟨fun y b hy => ?_, fun b hb => ?_⟩
    rotate_left
    · by_cases e : b = env.locals
      · exact ⟨_, e ▸ hn⟩
      · exact (hf b hb e).2
    obtain ⟨v, h1, h2⟩ := hρ y b hy
    refine ⟨v, (h1 [I, env.locals] fun b => by simp).mono fun b o e n => ⟨e, fun q => n (List.mem_append_right _ q)⟩, ?_⟩
    rcases h2 with ⟨h3, h4⟩ | ⟨c, h3, h4, _, h5⟩
    · exact .inl ⟨h3, kw.WT _ kw.loc, _, hn, h4⟩
    · exact .inr ⟨c, h3, h4, h5⟩
end
end Mine
end

section
open PySem PySem.W PySem.Calls PyProof.Rows
set_option Elab.async false
set_option linter.unusedVariables false
namespace Mine
section
variable {prog : Program} {w : World} {A : Around} {R : Result → Shared → Prop} {s : Shared}
/-- the turns of a list comprehension, whatever it walks and whatever it binds; Pv are the places that its own turns write -/
theorem compLoop_G {elt target iter : Expr} {scope : Scope} {pos : Pos} {it : Value} {D : Addr} {cenv : Env} {n : Nat} {Pv fp T F : List Addr} {St Bnd : Nat → Heap → Prop} {J : Nat → List Value → Shared → Prop} {s0 : Shared}
    (hitem : ∀ i (s' : Shared) (Q : Shared → Prop) (E1 E2 E3 : Value → Shared → Prop), i < n → St i s'.heap →
      (∀ h' tk, Bnd i h' → (∀ b o, b ∉ Pv → s'.heap.get? b = some o → h'.get? b = some o) → (∀ o, s'.heap.get? D = some o → h'.get? D = some o) → Q { s' with heap := h', toks := tk }) →
      wpAny (model prog w) A (pyNext it) (fun r s₁ => match r with
        | none => False
        | some v => wpAny (model prog w) A (letOwnedTupleGo target it v) (fun _ s₀ => wpAny (model prog w) A (assign target cenv v) (fun _ s₂ => Q s₂) E3 s₀) E2 s₁) E1 s')
    (hdone : ∀ (s' : Shared) (Q : Shared → Prop) (E1 : Value → Shared → Prop), St n s'.heap →
      (∀ h' tk, (∃ m, h'.Ns cenv.locals m) → (∀ b o, b ∉ Pv → s'.heap.get? b = some o → h'.get? b = some o) → (∀ o, s'.heap.get? D = some o → h'.get? D = some o) → Q { s' with heap := h', toks := tk }) →
      wpAny (model prog w) A (pyNext it) (fun r s₁ => match r with | none => Q s₁ | some v => False) E1 s')
    (hnext : ∀ i h h', Bnd i h → (∀ b ∈ fp, ∀ o, h.get? b = some o → h'.get? b = some o) → St (i + 1) h')
    (hBl : ∀ i h, Bnd i h → ∀ b ∈ Pv, b = D ∨ ∃ o, h.get? b = some o)
    (hJ : ∀ i ys s₁ s₂, J i ys s₁ → (∀ b o, b ∉ Pv → s₁.heap.get? b = some o → s₂.heap.get? b = some o) → s₂.gens = s₁.gens → s₂.os = s₁.os → J i ys s₂)
    (hDP : D ∈ Pv) (hP0 : ∀ b ∈ Pv, s0.heap.get? b = none) (hDf : D ∉ fp) (hDT : D ∉ T ++ F) (hfT : ∀ b ∈ fp, b ∉ T ++ F)
    (hst : St 0 s.heap) (hacc : s.heap.PlainList D #[]) (h0 : J 0 [] s) (hev : Ev T F s0 s)
    (helt : ∀ i ys s₁ E', i < n → ys.length = i → J i ys s₁ → Bnd i s₁.heap → Ev T F s0 s₁ → (∀ b ∈ Pv, ∃ o, s₁.heap.get? b = some o) →
      wpAny (model prog w) A (eval elt cenv) (fun y s₂ => Ev T F s₁ s₂ ∧ J (i + 1) (ys ++ [y]) s₂) E' s₁)
    (hR : ∀ s' ys m, s'.heap.Ns cenv.locals m → s'.heap.PlainList D ys.toArray → ys.length = n → J n ys s' → Ev T F s0 s' → R (.ok .next) s')
    (hsz : n ≤ sizeLine) :
    codeAny (model prog w) A (.compLoop (.ListComp elt [⟨target, iter, [], 0⟩] scope pos) 0 it (.ref D) cenv) R s := by
  refine kcp_loop (fun k s' => ∃ ys : List Value, St ys.length s'.heap ∧ s'.heap.PlainList D ys.toArray ∧ J ys.length ys s' ∧ ys.length ≤ n ∧ k = n + 1 - ys.length ∧ Ev T F s0 s') ?_ (n + 1) ⟨[], hst, hacc, h0, Nat.zero_le _, rfl, hev⟩
  rintro k s' ⟨ys, hst', hacc', hJ', hi, rfl, hev'⟩
  have kP : ∀ {h' : Heap}, (∀ b o, b ∉ Pv → s'.heap.get? b = some o → h'.get? b = some o) → ∀ b o o₀, s0.heap.get? b = some o₀ → s'.heap.get? b = some o → h'.get? b = some o := fun hk b o o₀ e₀ e => hk b o (fun q => by rw [hP0 b q] at e₀; cases e₀) e
  by_cases hlt : ys.length < n
  · refine wpAny_mono (hitem ys.length s' (fun s₂ => wpAny (model prog w) A (eval elt cenv) (fun x s₄ =>
            wpAny (model prog w) A (call (.builtin "list.append") [.ref D, x]) (fun _ s₅ => ∃ m, m < n + 1 - ys.length ∧ ∃ ys : List Value, St ys.length s₅.heap ∧ s₅.heap.PlainList D ys.toArray ∧ J ys.length ys s₅ ∧ ys.length ≤ n ∧ m = n + 1 - ys.length ∧ Ev T F s0 s₅) (notedBy (model prog w) A cenv fun e s' => R (.error e) s') s₄) (notedBy (model prog w) A cenv fun e s' => R (.error e) s') s₂) (notedBy (model prog w) A cenv fun e s' => R (.error e) s') (notedBy (model prog w) A cenv fun e s' => R (.error e) s') (notedBy (model prog w) A cenv fun e s' => R (.error e) s') hlt hst' ?_) (fun r s₁ h₁ => ?_) fun _ _ e => e
    · intro h₂ tk hB hk hkD
      have hacc₂ : h₂.PlainList D ys.toArray := hacc'.at fun o e => hkD o e
      have ev₂ : Ev T F s0 { s' with heap := h₂, toks := tk } := hev'.step (kP hk) rfl rfl
      refine wpAny_mono (helt ys.length ys _ _ hlt rfl (hJ _ _ s' _ hJ' hk rfl rfl) hB ev₂ fun b hb => ?_) (fun y s₃ h₃ => ?_) fun _ _ e => e
      · rcases hBl _ _ hB b hb with rfl | h
        · obtain ⟨k', e⟩ := hacc₂; exact ⟨_, e⟩
        · exact h
      · obtain ⟨ev₃, hJ₃⟩ := h₃
        have hys : ys.toArray.size ≤ sizeLine := by rw [List.size_toArray]; omega
        refine wpAny_list_append_plain (hsz := hys) (hacc₂.at fun o e => ev₃.keep _ o e hDT) fun h₅ hl₅ hs₅ => ?_
        refine ⟨n + 1 - (ys.length + 1), by omega, ys ++ [y], ?_, ?_, ?_, ?_, ?_, ?_⟩
        · rw [List.length_append]
          exact hnext _ _ h₅ hB fun b hb o e => hs₅.extBut b o (fun h => hDf (h ▸ hb)) (ev₃.keep b o e (hfT b hb))
        · simpa using hl₅
        · rw [List.length_append]
          exact hJ _ _ s₃ _ hJ₃ (fun b o hb e => hs₅.extBut b o (fun h => hb (h ▸ hDP)) e) rfl rfl
        · rw [List.length_append]; exact hlt
        · rw [List.length_append]; rfl
        · exact (ev₂.trans ev₃).step (fun b o o₀ e₀ e => hs₅.extBut b o (fun h => by rw [h, hP0 D hDP] at e₀; cases e₀) e) rfl rfl
    · cases r with
      | none => exact h₁.elim
      | some v => exact h₁
  · have hin : ys.length = n := by omega
    refine wpAny_mono (hdone s' (fun s₁ => R (.ok .next) s₁) _ (hin ▸ hst') ?_) (fun r s₁ h₁ => ?_) fun _ _ e => e
    · rintro h₁ tk ⟨m, hm⟩ hk hkD
      refine hR _ ys m hm (hacc'.at fun o e => hkD o e) hin (hin ▸ hJ _ _ s' _ hJ' hk rfl rfl) (hev'.step (kP hk) rfl rfl)
    · cases r with
      | none => exact h₁
      | some v => exact h₁.elim
end

/-- what holds between the turns, the own places Pv -/
def CJp (C : Cx) (Pe : Nat → PyData → Prop) (Pv : List Addr) (i : Nat) (ys : List Value) (s : Shared) : Prop :=
  C.Am s ∧ ∃ es : List PyData, es.length = i ∧ (∀ k d, es[k]? = some d → Pe k d) ∧ All2 (Rep (Pv ++ C.H) s) ys es
section
variable {prog : Program} {w : World} {C : Cx} {A : Around} {env : Env} {ρ : Rho} {e : Expr} {P : Bd → Prop} {pos : Pos} {Pv : List Addr}
theorem CJp.stable {Pe : Nat → PyData → Prop} {i : Nat} {ys : List Value} {s₁ s₂ : Shared} (ok : C.Ok) (hB : ∀ b ∈ Pv, C.B.get? b = none) (x : CJp C Pe Pv i ys s₁) (k : ∀ b o, b ∉ Pv → s₁.heap.get? b = some o → s₂.heap.get? b = some o) (g : s₂.gens = s₁.gens) (os : s₂.os = s₁.os) : CJp C Pe Pv i ys s₂ := by
  obtain ⟨a, es, h1, h2, h3⟩ := x
  exact ⟨a.stab ok (fun b o o₀ e₀ e => k b o (fun q => by rw [hB b q] at e₀; cases e₀) e) os g, es, h1, h2, all2_holds (C := C) h3 fun b o e n => ⟨k b o (fun q => n (List.mem_append_left _ q)) e, n⟩⟩
theorem compP_elt {elt : Expr} {s₁ : Shared} {cenv : Env} {ρ₁ : Rho} {Pe : Nat → PyData → Prop} {i : Nat} {ys : List Value} {E' : Value → Shared → Prop} (ok : C.Ok) (hl : Live (C.inner Pv).H s₁) (hv : Vw (C.inner Pv) cenv ρ₁ s₁)
    (helt : PE prog w (C.inner Pv) A cenv ρ₁ elt (fun b => ∃ d', b = .d d' ∧ Pe i d')) (hj : CJp C Pe Pv i ys s₁) :
    wpAny (model prog w) A (eval elt cenv) (fun y s₂ => Ev C.T C.F s₁ s₂ ∧ CJp C Pe Pv (i + 1) (ys ++ [y]) s₂) E' s₁ := by
  obtain ⟨a₁, es, hl', hp, hr⟩ := hj
  refine helt s₁ _ _ a₁.inn hl hv fun v b s₂ ev₂ a₂ p r => ?_
  obtain ⟨d', rfl, pd⟩ := p
  refine ⟨ev₂, a₂.out, es ++ [d'], by simp [hl'], fun k d hk => ?_, ?_⟩
  · by_cases hkl : k < es.length
    · rw [List.getElem?_append_left hkl] at hk; exact hp k d hk
    · rw [List.getElem?_append_right (Nat.not_lt.mp hkl)] at hk
      have : k = es.length := by
        have : k - es.length < [d'].length := (List.getElem?_eq_some_iff.mp hk).1
        simp at this; omega
      subst this
      simp at hk
      subst hk
      exact hl' ▸ pd
  · exact (all2_holds (C := C) hr fun b o e n => ⟨ev₂.keep b o e fun q => (List.mem_append.mp q).elim (fun q => n (List.mem_append_right _ (ok.TH _ q))) fun q => n (List.mem_append_right _ (ok.FH _ q)), n⟩).snoc r
/-- the names that a comprehension sees, beside those that it binds -/
theorem vw_compP {s s₁ : Shared} {ρb ρ' : Rho} {cenv : Env} (ok : C.Ok) (vw : Vw C env ρ s) (ev : Ev C.T C.F s s₁) (hsub : Sub env cenv ρ ρ') (hP0 : ∀ b ∈ Pv, s.heap.get? b = none)
    (hb : ∀ y b, ρb.lookup y = some b → ∃ v, b.holds C.H s v ∧ Lk C cenv y v s₁) : Vw (C.inner Pv) cenv (ρb ++ ρ') s₁ := by
  have kk : ∀ b o, s.heap.get? b = some o → b ∉ C.H → s₁.heap.get? b = some o ∧ b ∉ (C.inner Pv).H := fun b o e n =>
    ⟨ev.keep b o e fun q => (List.mem_append.mp q).elim (fun q => n (ok.TH _ q)) fun q => n (ok.FH _ q), fun q => (List.mem_append.mp q).elim (fun q => by rw [hP0 b q] at e; cases e) n⟩
  refine ⟨?_, vw.fs.ev ok ev⟩
  intro y b hy
  rw [List.lookup_append] at hy
  cases hz : ρb.lookup y with
  | some b' =>
    rw [hz] at hy
    cases hy
    obtain ⟨v, h1, h2⟩ := hb y b hz
    exact ⟨v, h1.mono kk, h2⟩
  | none =>
    rw [hz] at hy
    obtain ⟨h1, h2, h3⟩ := hsub y b hy
    obtain ⟨v, hb, hl⟩ := vw.look y b h1
    refine ⟨v, hb.mono kk, ?_⟩
    rcases hl with ⟨h4, _⟩ | ⟨c, h4, h5, o, ho, hd⟩
    · exact absurd h4 h2
    · exact .inr ⟨c, h3.trans h4, h5, o, ev.keep _ _ ho h5, hd⟩
end
end Mine
end

section
open PySem PySem.W PySem.Calls PyProof.Rows
set_option Elab.async false
set_option linter.unusedVariables false
namespace Mine
section
variable {prog : Program} {w : World} {C : Cx} {A : Around} {env : Env} {ρ : Rho} {e : Expr} {P : Bd → Prop} {pos : Pos} {DD : List PyData → Prop}
theorem newCompEnv_one {M : Model} {E : Value → Shared → Prop} {s : Shared} {scope : Scope} {cl : List (Str × Addr)} {x : Str} {Q : Env → Shared → Prop} (hone : ∀ n acc, cellsFrom n scope.names acc = (x, n) :: acc) (hpc : ∀ h, pushCells h scope.names = h.push { cls := .type "cell", data := .cell none })
    (h : ∀ cenv : Env, cenv = { scope := scope, locals := s.heap.objs.size, globals := env.globals, cells := (x, s.heap.objs.size + 1) :: cl, qual := env.qual, func := none, code := env.code, frame := env.frame, builtins := env.builtins } →
      Q cenv { s with heap := (s.heap.push { cls := .type "dict", data := .dict #[] }).push { cls := .type "cell", data := .cell none } }) :
    wpAny M A (newFunctionEnv scope env.globals cl [] env.qual none .none (some env)) Q E s := by
  simp only [newFunctionEnv, Option.isSome_some, if_true]
  refine wpAny_bind (wpAny_alloc ?_)
  refine wpAny_bind (wpAny_layCells _ (fun name kind cells => by cases kind == NameKind.cell <;> simp) _ _ _ _ ?_)
  rw [hone, hpc]
  refine wpAny_bind ?_
  rw [List.forIn_nil]
  refine wpAny_pure (wpAny_pure (h _ ?_))
  show _ = _
  rw [show (s.heap.push { cls := .type "dict", data := .dict #[] }).objs.size = s.heap.objs.size + 1 from Heap.size_push ..]

/-- a list comprehension whose own name is a cell -/
theorem PE.compC {elt iter : Expr} {x : Str} {px : Pos} {scope : Scope} {cl : List (Str × Addr)} {ρ' : Rho} {Pe : Nat → PyData → Prop} (ok : C.Ok) (hh : A.handled = none) (hiter : PIN prog w C A env ρ iter DD) (hz : ∀ ds, DD ds → ds.length ≤ sizeLine)
    (hclos : closureFor scope env = pure cl) (hkind : scope.kind = .function) (hnames : ∀ x ∈ scope.names, x.2 = .local → scope.names.lookup x.1 = some .local) (hx : (relabel scope env).names.lookup x = some .cell)
    (hone : ∀ n acc, cellsFrom n scope.names acc = (x, n) :: acc) (hpc : ∀ h, pushCells h scope.names = h.push { cls := .type "cell", data := .cell none })
    (hsub : ∀ Cc n, Sub env (compEnvC scope ((x, n) :: cl) Cc env) ρ ρ')
    (helt : ∀ (Pv : List Addr) (Cc n : Addr) (i : Nat) (d : PyData), (C.inner Pv).Ok → (∀ b ∈ Pv, C.B.get? b = none) → (∃ ds, DD ds ∧ ds[i]? = some d) → PE prog w (C.inner Pv) A (compEnvC scope ((x, n) :: cl) Cc env) ((x, .d d) :: ρ') elt (fun b => ∃ d', b = .d d' ∧ Pe i d'))
    (hs : ∀ x, foldedSetIterable iter env x = pure x := by intro _; rfl) :
    PE prog w C A env ρ (.ListComp elt [⟨.Name x px, iter, [], 0⟩] scope pos) (fun b => ∃ ds es, DD ds ∧ b = BL es ∧ es.length = ds.length ∧ ∀ k d, es[k]? = some d → Pe k d) := fun s Q E a l v q => by
  show wpAny _ A (comprehension (.ListComp elt [⟨.Name x px, iter, [], 0⟩] scope pos) scope env _ (newList []) false (eval iter env)) _ _ s
  refine wpAny_comprehension_free rfl hs hclos hkind hnames (hiter s _ _ a l v fun xv ds s₁ ev₁ a₁ hD src => ?_)
  obtain ⟨D0, Pp, src, hD0, hPp⟩ := src
  have l₁ := l.ev ev₁
  have v₁ := v.ev ok ev₁
  refine src.2 _ _ fun I fp St hI W hSt hIf hst hfp hIlt hI0 hkI => ?_
  refine wpAny_newObj_type (newCompEnv_one hone hpc fun cenv hcenv => ?_)
  dsimp only
  generalize hH2 : hI.push { cls := .type "list", dict := none, data := .seq ([] : List Value).toArray } = H2 at hcenv ⊢
  have hC : H2.objs.size = hI.objs.size + 1 := by rw [← hH2, Heap.size_push]
  subst hcenv
  generalize hh₁ : (H2.push { cls := .type "dict", data := .dict #[] }).push { cls := .type "cell", data := .cell none } = h₁
  have hsz3 : (H2.push { cls := .type "dict", data := .dict #[] }).objs.size = H2.objs.size + 1 := Heap.size_push ..
  have old : ∀ b o, hI.get? b = some o → h₁.get? b = some o := fun b o e => hh₁ ▸ Heap.get?_push_of_some _ (Heap.get?_push_of_some _ (hH2 ▸ Heap.get?_push_of_some _ e))
  have olds : ∀ b o, s₁.heap.get? b = some o → h₁.get? b = some o := fun b o e => old b o (hkI b o e)
  have hacc : h₁.PlainList hI.objs.size #[] := ⟨_, hh₁ ▸ Heap.get?_push_of_some _ (Heap.get?_push_of_some _ (hH2 ▸ Heap.get?_push_size _ rfl))⟩
  have hns : ∃ m, h₁.Ns H2.objs.size m := ⟨_, hh₁ ▸ (Heap.Ns.new H2 (.type "dict")).push _⟩
  have hcell : ∃ u, h₁.IsCell (H2.objs.size + 1) u := ⟨none, _, hh₁ ▸ (hsz3 ▸ Heap.get?_push_size _ rfl), rfl⟩
  have fresh : ∀ a, hI.objs.size ≤ a → s₁.heap.get? a = none := fun a ha => by
    cases e : s₁.heap.get? a with
    | none => rfl
    | some o' => exact absurd (Heap.lt_size (hkI _ _ e)) (Nat.not_lt.mpr ha)
  generalize hDd : hI.objs.size = D at *
  generalize hCc : H2.objs.size = Cc at *
  have hP0 : ∀ b ∈ [I, D, Cc, Cc + 1], s₁.heap.get? b = none := fun b hb => by
    simp only [List.mem_cons, List.not_mem_nil, or_false] at hb
    rcases hb with rfl | rfl | rfl | rfl
    · exact hI0
    · exact fresh _ (Nat.le_refl _)
    · exact fresh _ (by omega)
    · exact fresh _ (by omega)
  have hTn : ∀ a, s₁.heap.get? a = none → a ∉ C.T ++ C.F := fun a ha hm => by
    obtain ⟨o, e⟩ := l₁ a ((List.mem_append.mp hm).elim (ok.TH a) (ok.FH a))
    rw [ha] at e; cases e
  have hfl : ∀ b ∈ fp, b < D := fun b hb => by
    rcases hfp b hb with rfl | h
    · exact hIlt
    · obtain ⟨o, e⟩ := src.1 b h
      exact hDd ▸ Heap.lt_size (hkI _ _ e)
  have n1 : (I : Nat) < (D : Nat) := hIlt
  have n2 : (Cc : Nat) = (D : Nat) + 1 := hC
  have e1 : Cc ≠ I := Nat.ne_of_gt (n2 ▸ Nat.lt_succ_of_lt n1)
  have e2 : Cc + 1 ≠ I := Nat.ne_of_gt (Nat.lt_succ_of_lt (n2 ▸ Nat.lt_succ_of_lt n1))
  have e3 : D ≠ Cc := Nat.ne_of_lt (n2 ▸ Nat.lt_succ_self _)
  have e4 : D ≠ Cc + 1 := Nat.ne_of_lt (Nat.lt_succ_of_lt (n2 ▸ Nat.lt_succ_self _))
  have e5 : Cc ≠ Cc + 1 := Nat.ne_of_lt (Nat.lt_succ_self _)
  have e6 : D ≠ I := Nat.ne_of_gt n1
  have hB : ∀ b ∈ [I, D, Cc, Cc + 1], C.B.get? b = none := fun b hb => a₁.fresh (hP0 b hb)
  have ok' : (C.inner [I, D, Cc, Cc + 1]).Ok := ok.inner fun b hb => by
    cases e : C.G.get? b with
    | none => rfl
    | some o => have := a₁.g b o e; rw [hP0 b hb] at this; cases this
  let cenv : Env := compEnvC scope ((x, Cc + 1) :: cl) Cc env
  have loop : ∀ s₃ : Shared, s₃.heap = h₁ → s₃.os = s₁.os → s₃.gens = s₁.gens →
      codeAny (model prog w) A (.compLoop (.ListComp elt [⟨.Name x px, iter, [], 0⟩] scope pos) 0 (.ref I) (.ref D) cenv) (compPost (model prog w) A E none Q (.ref D) Cc) s₃ := by
    intro s₃ hh3 ho3 hg3
    have ev3 : Ev C.T C.F s₁ s₃ := Ev.of_keeps (fun b o e => hh3 ▸ olds b o e) ho3 hg3
    refine compLoop_G (Pv := [I, D, Cc, Cc + 1]) (fp := Cc :: (Cc + 1) :: fp) (T := C.T) (F := C.F) (s0 := s₁) (n := ds.length) (J := CJp C Pe [I, D, Cc, Cc + 1])
      (St := fun i h => St i h ∧ (∃ m, h.Ns Cc m) ∧ ∃ u, h.IsCell (Cc + 1) u) (Bnd := fun i h => St (i + 1) h ∧ (∃ m, h.Ns Cc m) ∧ ∃ v, Pp i v ∧ h.IsCell (Cc + 1) (some v))
      ?_ ?_ ?_ ?_ (fun i ys s₁ s₂ x k g os => CJp.stable ok hB x k g os) (by simp) hP0 ?_ (hTn _ (hP0 D (by simp))) ?_ (hh3 ▸ ⟨(W A hh).frame _ _ _ hst fun b _ o e => old b o e, hns, hcell⟩) (hh3 ▸ hacc) ⟨a₁.keeps ok (fun b o e => hh3 ▸ olds b o e) ho3 hg3, [], rfl, fun k d h => by simp at h, .nil⟩ ev3 ?_ ?_ (hz _ hD)
    · rintro i s' Q' E1 E2 E3 hi ⟨st, ⟨m, hm⟩, u, hc⟩ hQ
      refine (W A hh).item i s' _ _ hi st fun v h₂ tk₂ hPv hst₂ hk₂ => ?_
      have up : ∀ b o, b ≠ I → s'.heap.get? b = some o → h₂.get? b = some o := fun b o hb e => hk₂ b o (fun h => hb (List.mem_singleton.mp h)) e
      have hc₂ : h₂.IsCell (Cc + 1) u := let ⟨o, e, d⟩ := hc; ⟨o, up _ _ e2 e, d⟩
      dsimp only
      show wpAny _ A (pure ()) _ _ _
      refine wpAny_pure (wpAny_assign_Name (wpAny_storeName_cell (env := cenv) hkind hx (c := Cc + 1) (by simp [cenv, compEnvC]) hc₂ fun h₃ hc₃ hs₃ => ?_))
      refine hQ h₃ tk₂ ⟨(W A hh).frame _ _ _ hst₂ fun b hb o e => hs₃.extBut b o (fun q => Nat.lt_asymm (q ▸ hfl b hb) (Nat.lt_succ_of_lt (n2 ▸ Nat.lt_succ_self _))) e, ⟨m, ?_⟩, v, hPv, hc₃⟩ (fun b o hb e => ?_) fun o e => ?_
      · exact hm.at' fun o e => hs₃.extBut _ o e5 (up _ o e1 e)
      · simp only [List.mem_cons, List.not_mem_nil, or_false, not_or] at hb
        exact hs₃.extBut _ o hb.2.2.2 (up _ o hb.1 e)
      · exact hs₃.extBut _ o e4 (up _ o e6 e)
    · rintro s' Q' E1 ⟨st, ⟨m, hm⟩, u, hc⟩ hQ
      refine (W A hh).done s' _ _ st fun h₂ tk₂ hk₂ => ?_
      have up : ∀ b o, b ≠ I → s'.heap.get? b = some o → h₂.get? b = some o := fun b o hb e => hk₂ b o (fun h => hb (List.mem_singleton.mp h)) e
      refine hQ h₂ tk₂ ⟨m, hm.at' fun o e => up _ o e1 e⟩ (fun b o hb e => ?_) fun o e => up _ o e6 e
      simp only [List.mem_cons, List.not_mem_nil, or_false, not_or] at hb
      exact up _ o hb.1 e
    · rintro i h h' ⟨st, ⟨m, hm⟩, v, _, hc⟩ k
      exact ⟨(W A hh).frame _ _ _ st fun b hb o e => k b (by simp [hb]) o e, ⟨m, hm.at' fun o e => k _ (by simp) o e⟩, some v, let ⟨o, e, d⟩ := hc; ⟨o, k _ (by simp) o e, d⟩⟩
    · rintro i h ⟨st, ⟨m, hm⟩, v, _, hc⟩ b hb
      simp only [List.mem_cons, List.not_mem_nil, or_false] at hb
      rcases hb with rfl | rfl | rfl | rfl
      · exact .inr (hSt _ _ st)
      · exact .inl rfl
      · obtain ⟨o, _, _, e, _⟩ := hm; exact .inr ⟨o, e⟩
      · obtain ⟨o, e, _⟩ := hc; exact .inr ⟨o, e⟩
    · intro q
      simp only [List.mem_cons] at q
      rcases q with q | q | q
      · exact e3 q
      · exact e4 q
      · exact Nat.lt_irrefl _ (hfl _ q)
    · intro b hb
      simp only [List.mem_cons] at hb
      rcases hb with rfl | rfl | hb
      · exact hTn _ (hP0 _ (by simp))
      · exact hTn _ (hP0 _ (by simp))
      · rcases hfp b hb with rfl | h
        · exact hTn _ hI0
        · exact fun q => hD0 b h ((List.mem_append.mp q).elim (ok.TH b) (ok.FH b))
    · rintro i ys s₂ E' hi hl hj ⟨st, hm, u, hPu, hc⟩ ev hal
      obtain ⟨d, hd, hr⟩ := hPp i u hi hPu
      refine compP_elt ok ?_ ?_ (helt _ Cc (Cc + 1) i d ok' hB ⟨ds, hD, hd⟩) hj
      · intro t ht
        rcases List.mem_append.mp ht with ht | ht
        · exact hal t ht
        · exact l₁.ev ev t ht
      · refine vw_compP (ρb := [(x, .d d)]) ok v₁ ev (hsub Cc (Cc + 1)) hP0 fun y b hy => ?_
        rw [List.lookup_cons] at hy
        cases hyx : y == x with
        | true =>
          rw [hyx] at hy
          cases hy
          rw [eq_of_beq hyx]
          refine ⟨u, hr, .inr ⟨Cc + 1, ?_, hTn _ (hP0 _ (by simp)), hc⟩⟩
          unfold cellK
          rw [if_pos (.inl hx)]
          show List.lookup x ((x, Cc + 1) :: cl) = some (Cc + 1)
          simp
        | false => rw [hyx] at hy; cases hy
    · rintro s' ys m hm hp hl ⟨a', es, h1, h2, h3⟩ ev
      have hDn := hP0 D (by simp)
      refine ⟨m, hm, fun h' hs' => ?_⟩
      have evd : Ev C.T C.F s₁ { s' with heap := h' } := ev.step (fun b o o₀ e₀ e => hs'.extBut b o (fun q => by rw [q, hP0 Cc (by simp)] at e₀; cases e₀) e) rfl rfl
      have a'' : C.Am { s' with heap := h' } := a'.stab ok (fun b o o₀ e₀ e => hs'.extBut b o (fun q => by rw [q, hB Cc (by simp)] at e₀; cases e₀) e) rfl rfl
      refine q (.ref D) (BL es) _ (ev₁.trans evd) a'' ⟨ds, es, hD, rfl, h1, h2⟩ ?_
      refine Rep.list_mk (let ⟨k, e⟩ := hp; ⟨_, hs'.extBut _ _ e3 e, rfl, _, rfl⟩) (fun q => by obtain ⟨o, e⟩ := l₁ D q; rw [hDn] at e; cases e) ?_
      refine all2_holds (C := C) h3 fun b o e n => ⟨hs'.extBut b o (fun q => n (List.mem_append_left _ (by simp [q]))) e, fun q => n (List.mem_append_right _ q)⟩
  exact codeAny_compStart_list (loop _ rfl rfl rfl) ((W A hh).self 0 _ _ _ ((W A hh).frame _ _ _ hst fun b _ o e => old b o e) (loop _ rfl rfl rfl))
end
end Mine
end

section
open PySem PySem.W PySem.Calls PyProof.Rows
set_option Elab.async false
set_option linter.unusedVariables false
namespace Mine
section
variable {prog : Program} {w : World} {C : Cx} {A : Around} {env : Env} {ρ : Rho} {e : Expr} {P : Bd → Prop} {pos : Pos} {K : Frag} {p : Program} {loose : List Str} {mg mb : Str → Option Value}
/-- a list comprehension over zip of two lists -/
theorem PE.compZip {elt e₁ e₂ : Expr} {xa xb : Str} {pa pb pt pz ipos : Pos} {kt : Nat} {scope : Scope} {cl : List (Str × Addr)} {ρ' : Rho} {as bs : List PyData} {Pe : Nat → PyData → Prop} (ok : C.Ok) (hh : A.handled = none) (gl : Gl K p loose mg mb C.G) (hn : nsIn K mainGlobals "zip" = some none)
    (h1 : PE prog w C A env ρ e₁ (· = BL as)) (h2 : PE prog w C A env ρ e₂ (· = BL bs)) (hlen : bs.length = as.length) (hz : as.length ≤ sizeLine)
    (hclos : closureFor scope env = pure cl) (hcell : ∀ y ∈ scope.names, y.2 ≠ .cell) (hkind : scope.kind = .function) (hnames : ∀ x ∈ scope.names, x.2 = .local → scope.names.lookup x.1 = some .local)
    (hxa : scope.names.lookup xa = some .local) (hxb : scope.names.lookup xb = some .local) (hne : xa ≠ xb) (hsub : ∀ Cc, Sub env (compEnvC scope cl Cc env) ρ ρ')
    (helt : ∀ (Pv : List Addr) (Cc : Addr) (i : Nat) (a b : PyData), (C.inner Pv).Ok → (∀ b ∈ Pv, C.B.get? b = none) → as[i]? = some a → bs[i]? = some b →
      PE prog w (C.inner Pv) A (compEnvC scope cl Cc env) ((xa, .d a) :: (xb, .d b) :: ρ') elt (fun b => ∃ d', b = .d d' ∧ Pe i d'))
    (hg : env.globals = mainGlobals := by rfl) (hb : env.builtins = builtinsNs := by rfl) (hk : env.scope.kind = .function := by rfl) (hx : env.kindOf "zip" = some .globalImplicit := by rfl)
    (hse : backTo ipos (starEach [e₁, e₂] env) = [(false, eval e₁ env), (false, eval e₂ env)] := by rfl)
    (hs : ∀ x, foldedSetIterable (.Call (.Name "zip" pz) [e₁, e₂] [] ipos) env x = pure x := by intro _; rfl) :
    PE prog w C A env ρ (.ListComp elt [⟨.Tuple [.Name xa pa, .Name xb pb] kt pt, .Call (.Name "zip" pz) [e₁, e₂] [] ipos, [], 0⟩] scope pos) (fun b => ∃ es, b = BL es ∧ es.length = as.length ∧ ∀ k d, es[k]? = some d → Pe k d) := fun s Q E a l v q => by
  show wpAny _ A (comprehension (.ListComp elt [⟨.Tuple [.Name xa pa, .Name xb pb] kt pt, .Call (.Name "zip" pz) [e₁, e₂] [] ipos, [], 0⟩] scope pos) scope env _ (newList []) false (eval (.Call (.Name "zip" pz) [e₁, e₂] [] ipos) env)) _ _ s
  refine wpAny_comprehension_free rfl hs hclos hkind hnames ?_
  refine wpAny_Call_NameR (PE.builtin (ρ := ρ) gl hn (v := .type "zip") (by rfl) (by decide) hg hb hk hx (by decide) s _ _ a l v fun u b s₀ ev₀ a₀ p₀ r₀ => ?_)
  subst p₀; cases r₀
  rw [hse]
  refine PySem.callWith_type rfl (Calls.evalArgs_plain (Calls.spliced_cons (h1 s₀ _ _ a₀ (l.ev ev₀) (v.ev ok ev₀) fun va ba sa eva aa pa' ra => Calls.spliced_cons (h2 sa _ _ aa ((l.ev ev₀).ev eva) ((v.ev ok ev₀).ev ok eva) fun vb bb s₁ evb a₁ pb' rb => Calls.spliced_nil ?_))))
  subst pa'; subst pb'
  obtain ⟨l1, xs, rfl, hl1, hH1, hal1⟩ := Rep.list_inv (Bd.holds.ev (b := .d (.list as)) ra evb ok.TH ok.FH)
  obtain ⟨l2, ys, rfl, hl2, hH2, hal2⟩ := Rep.list_inv rb
  have ev₁ := (ev₀.trans eva).trans evb
  have l₁ := l.ev ev₁
  have v₁ := v.ev ok ev₁
  refine call_zip_2 hl1 hl2 fun hI hz0 hTI hTO hi1 hi2 hszI hkI => ?_
  have a1 : (l1 : Nat) < s₁.heap.objs.size := by obtain ⟨_, e, _⟩ := hl1; exact Heap.lt_size e
  have a2 : (l2 : Nat) < s₁.heap.objs.size := by obtain ⟨_, e, _⟩ := hl2; exact Heap.lt_size e
  generalize hN : s₁.heap.objs.size = N at *
  have Dz := zipApart_new (n := N) a1 a2
  have hx1 : xs.size = as.length := by simpa using hal1.length
  have hy1 : ys.size = as.length := by have := hal2.length; simp at this; omega
  have W := WalksT.zip2 (prog := prog) (w := w) hh (N + 4) (N + 2) (N + 3) N (N + 1) l1 l2 Dz xs ys
  rw [show min xs.size ys.size = as.length by omega] at W
  have fresh : ∀ a : Addr, N ≤ a → s₁.heap.get? a = none := fun a ha => none_of_ge (by rw [hN]; exact ha)
  have hstI : IsZip hI (N + 4) (N + 2) (N + 3) .none ∧ IsPair hI (N + 2) (.ref N) (.ref (N + 1)) ∧ (∃ a b, IsPair hI (N + 3) a b) ∧ hI.IsListIter N l1 0 ∧ hI.IsListIter (N + 1) l2 0 ∧ hI.IsList l1 xs ∧ hI.IsList l2 ys :=
    ⟨hz0, hTI, ⟨_, _, hTO⟩, hi1, hi2, hl1.at fun o e => hkI _ o e, hl2.at fun o e => hkI _ o e⟩
  refine wpAny_pyIter_zip hz0 ?_
  refine wpAny_newObj_type (wpAny_newFunctionEnv hcell (by intro y hy; simp at hy) (fun h₁ hns₁ hsb₁ => ?_) hkind)
  dsimp only at hns₁ hsb₁ ⊢
  generalize hH2' : hI.push { cls := .type "list", dict := none, data := .seq ([] : List Value).toArray } = H2 at hns₁ hsb₁ ⊢
  have hC : H2.objs.size = hI.objs.size + 1 := by rw [← hH2', Heap.size_push]
  rw [hszI] at hC
  have hneC : ∀ b o, hI.get? b = some o → b ≠ H2.objs.size := fun b o e => by
    have := Heap.lt_size e
    rw [hszI] at this
    exact Nat.ne_of_lt (by rw [hC]; exact Nat.lt_succ_of_lt this)
  have old : ∀ b o, hI.get? b = some o → h₁.get? b = some o := fun b o e => hsb₁.extBut b o (hneC b o e) (Heap.get?_push_of_some _ (hH2' ▸ Heap.get?_push_of_some _ e))
  have olds : ∀ b o, s₁.heap.get? b = some o → h₁.get? b = some o := fun b o e => old b o (hkI b o e)
  have hDC : hI.objs.size ≠ H2.objs.size := by rw [hszI, hC]; exact Nat.ne_of_lt (Nat.lt_succ_self _)
  have hacc : h₁.PlainList hI.objs.size #[] := ⟨_, hsb₁.extBut _ _ hDC (Heap.get?_push_of_some _ (hH2' ▸ Heap.get?_push_size _ rfl))⟩
  rw [hszI] at hacc hDC ⊢
  rw [hC] at hns₁ hDC ⊢
  have hcenv : (newEnv scope (N + 5 + 1) env.globals cl env.qual none .none (some env) builtinsNs) = { compEnvC scope cl (N + 5 + 1) env with scope := scope } := rfl
  let Pv : List Addr := [N + 4, N + 3, N, N + 1, N + 5, N + 5 + 1]
  have hPge : ∀ b ∈ Pv, (N : Nat) ≤ b := fun b hb => by
    simp only [Pv, List.mem_cons, List.not_mem_nil, or_false] at hb
    rcases hb with rfl | rfl | rfl | rfl | rfl | rfl <;> first | exact Nat.le_refl _ | exact Nat.le_add_right _ _ | exact Nat.le_add_right N 6
  have hP0 : ∀ b ∈ Pv, s₁.heap.get? b = none := fun b hb => fresh b (hPge b hb)
  have hB : ∀ b ∈ Pv, C.B.get? b = none := fun b hb => a₁.fresh (hP0 b hb)
  have ok' : (C.inner Pv).Ok := ok.inner fun b hb => by
    cases e : C.G.get? b with
    | none => rfl
    | some o => have := a₁.g b o e; rw [hP0 b hb] at this; cases this
  have hTn : ∀ a, s₁.heap.get? a = none → a ∉ C.T ++ C.F := fun a ha hm => by
    obtain ⟨o, e⟩ := l₁ a ((List.mem_append.mp hm).elim (ok.TH a) (ok.FH a))
    rw [ha] at e; cases e
  have d5 : (N + 5 : Addr) ≠ N + 5 + 1 := Nat.ne_of_lt (Nat.lt_succ_self _)
  have dz : ∀ k : Nat, k < 5 → (N + k : Addr) ≠ N + 5 ∧ (N + k : Addr) ≠ N + 5 + 1 := fun k hk => ⟨Nat.ne_of_lt (Nat.add_lt_add_left hk N), Nat.ne_of_lt (by omega)⟩
  have dl : ∀ b : Addr, (b : Nat) < N → b ≠ N + 5 ∧ b ≠ N + 5 + 1 := fun b hb => ⟨Nat.ne_of_lt (Nat.lt_of_lt_of_le hb (Nat.le_add_right N 5)), Nat.ne_of_lt (Nat.lt_of_lt_of_le hb (Nat.le_add_right N 6))⟩
  have hfp : ∀ b ∈ [N + 4, N + 2, N + 3, N, N + 1, l1, l2], b ≠ N + 5 ∧ b ≠ N + 5 + 1 := fun b hb => by
    simp only [List.mem_cons, List.not_mem_nil, or_false] at hb
    rcases hb with rfl | rfl | rfl | rfl | rfl | rfl | rfl
    · exact dz 4 (by decide)
    · exact dz 2 (by decide)
    · exact dz 3 (by decide)
    · exact dz 0 (by decide)
    · exact dz 1 (by decide)
    · exact dl _ a1
    · exact dl _ a2
  have hwP : ∀ b, b ∉ Pv → b ∉ [N + 4, N + 3, N, N + 1] := fun b hb q => hb (by
    simp only [List.mem_cons, List.not_mem_nil, or_false] at q
    simp only [Pv, List.mem_cons, List.not_mem_nil, or_false]
    rcases q with q | q | q | q
    · exact .inl q
    · exact .inr (.inl q)
    · exact .inr (.inr (.inl q))
    · exact .inr (.inr (.inr (.inl q))))
  have hwD : ∀ b : Addr, b = N + 5 ∨ b = N + 5 + 1 → b ∉ [N + 4, N + 3, N, N + 1] := fun b hb q => by
    have := hfp b (by
      simp only [List.mem_cons, List.not_mem_nil, or_false] at q ⊢
      rcases q with q | q | q | q
      · exact .inl q
      · exact .inr (.inr (.inl q))
      · exact .inr (.inr (.inr (.inl q)))
      · exact .inr (.inr (.inr (.inr (.inl q)))))
    exact hb.elim this.1 this.2
  have hka : (compEnvC scope cl (N + 5 + 1) env).kindOf xa = some .local := lookup_relabel_local hxa
  have hkb : (compEnvC scope cl (N + 5 + 1) env).kindOf xb = some .local := lookup_relabel_local hxb
  have loop : ∀ s₃ : Shared, s₃.heap = h₁ → s₃.os = s₁.os → s₃.gens = s₁.gens →
      codeAny (model prog w) A (.compLoop (.ListComp elt [⟨.Tuple [.Name xa pa, .Name xb pb] kt pt, .Call (.Name "zip" pz) [e₁, e₂] [] ipos, [], 0⟩] scope pos) 0 (.ref (N + 4)) (.ref (N + 5)) (compEnvC scope cl (N + 5 + 1) env)) (compPost (model prog w) A E none Q (.ref (N + 5)) (N + 5 + 1)) s₃ := by
    intro s₃ hh3 ho3 hg3
    have ev3 : Ev C.T C.F s₁ s₃ := Ev.of_keeps (fun b o e => hh3 ▸ olds b o e) ho3 hg3
    refine compLoop_G (Pv := Pv) (fp := (N + 5 + 1) :: [N + 4, N + 2, N + 3, N, N + 1, l1, l2]) (T := C.T) (F := C.F) (s0 := s₁) (n := as.length) (J := CJp C Pe Pv)
      (St := fun i h => (IsZip h (N + 4) (N + 2) (N + 3) .none ∧ IsPair h (N + 2) (.ref N) (.ref (N + 1)) ∧ (∃ a b, IsPair h (N + 3) a b) ∧ h.IsListIter N l1 i ∧ h.IsListIter (N + 1) l2 i ∧ h.IsList l1 xs ∧ h.IsList l2 ys) ∧ ∃ m, h.Ns (N + 5 + 1) m)
      (Bnd := fun i h => (IsZip h (N + 4) (N + 2) (N + 3) .none ∧ IsPair h (N + 2) (.ref N) (.ref (N + 1)) ∧ (∃ a b, IsPair h (N + 3) a b) ∧ h.IsListIter N l1 (i + 1) ∧ h.IsListIter (N + 1) l2 (i + 1) ∧ h.IsList l1 xs ∧ h.IsList l2 ys) ∧
        ∃ m x y, h.Ns (N + 5 + 1) m ∧ xs[i]? = some x ∧ ys[i]? = some y ∧ m xa = some x ∧ m xb = some y)
      ?_ ?_ ?_ ?_ (fun i ys s₁ s₂ x k g os => CJp.stable ok hB x k g os) (by simp [Pv]) hP0 ?_ (hTn _ (hP0 (N + 5) (by simp [Pv]))) ?_ (hh3 ▸ ⟨W.frame _ _ _ hstI fun b _ o e => old b o e, _, hns₁⟩) (hh3 ▸ hacc) ⟨a₁.keeps ok (fun b o e => hh3 ▸ olds b o e) ho3 hg3, [], rfl, fun k d h => by simp at h, .nil⟩ ev3 ?_ ?_ hz
    · rintro i s' Q' E1 E2 E3 hi ⟨st, m, hm⟩ hQ
      refine W.item i s' _ _ hi st fun T vals h₂ tk₂ hP _ hT hMid hk₂ => ?_
      obtain ⟨x, y, hx, hy, rfl⟩ := hP
      dsimp only
      refine W.go _ _ _ i T _ _ _ hMid fun h₃ st₃ hk₃ => ?_
      have hm₃ : h₃.Ns (N + 5 + 1) m := hm.at' fun o e => hk₃ _ o (hwD _ (.inr rfl)) (hk₂ _ o (hwD _ (.inr rfl)) e)
      refine kcp_assign (env := compEnvC scope cl (N + 5 + 1) env) hh (hT.at fun o e => hk₃ T o (W.apart _ _ _ hMid) e) hka hkb (by show (_ || _) = false; simp [compEnvC, relabel, hkind]) hm₃ fun h₄ tk₄ hn₄ hk₄ => ?_
      have hk₄' : ∀ c o, c ≠ N + 5 + 1 → h₃.get? c = some o → h₄.get? c = some o := hk₄
      refine hQ h₄ tk₄ ⟨W.frame _ _ _ st₃ fun b hb o e => hk₄' b o (hfp b hb).2 e, _, x, y, hn₄, hx, hy, by simp [hne], by simp⟩ (fun b o hb e => ?_) fun o e => ?_
      · have hb' : b ≠ N + 5 + 1 := fun q => hb (by simp [Pv, q])
        exact hk₄' b o hb' (hk₃ b o (hwP b hb) (hk₂ b o (hwP b hb) e))
      · exact hk₄' _ o d5 (hk₃ _ o (hwD _ (.inl rfl)) (hk₂ _ o (hwD _ (.inl rfl)) e))
    · rintro s' Q' E1 ⟨st, m, hm⟩ hQ
      refine W.done s' _ _ st fun h₂ tk₂ hk₂ => ?_
      exact hQ h₂ tk₂ ⟨m, hm.at' fun o e => hk₂ _ o (hwD _ (.inr rfl)) e⟩ (fun b o hb e => hk₂ b o (hwP b hb) e) fun o e => hk₂ _ o (hwD _ (.inl rfl)) e
    · rintro i h h' ⟨st, m, x, y, hm, _⟩ k
      exact ⟨W.frame _ _ _ st fun b hb o e => k b (List.mem_cons_of_mem _ hb) o e, m, hm.at' fun o e => k _ List.mem_cons_self o e⟩
    · rintro i h ⟨⟨g1, g2, ⟨_, _, g3⟩, ⟨_, g4, _⟩, ⟨_, g5, _⟩, _⟩, m, x, y, hm, _⟩ b hb
      simp only [Pv, List.mem_cons, List.not_mem_nil, or_false] at hb
      rcases hb with rfl | rfl | rfl | rfl | rfl | rfl
      · exact .inr ⟨_, g1⟩
      · exact .inr ⟨_, g3⟩
      · exact .inr ⟨_, g4⟩
      · exact .inr ⟨_, g5⟩
      · exact .inl rfl
      · obtain ⟨o, _, _, e, _⟩ := hm; exact .inr ⟨o, e⟩
    · intro q
      rcases List.mem_cons.mp q with q | q
      · exact d5 q
      · exact (hfp _ q).1 rfl
    · intro b hb
      by_cases hb1 : b = l1
      · exact hb1 ▸ fun q => hH1 ((List.mem_append.mp q).elim (ok.TH _) (ok.FH _))
      · by_cases hb2 : b = l2
        · exact hb2 ▸ fun q => hH2 ((List.mem_append.mp q).elim (ok.TH _) (ok.FH _))
        · refine hTn b (fresh b ?_)
          simp only [List.mem_cons, List.not_mem_nil, or_false, hb1, hb2] at hb
          rcases hb with rfl | rfl | rfl | rfl | rfl | rfl <;> first | exact Nat.le_refl _ | exact Nat.le_add_right _ _ | exact Nat.le_add_right N 6
    · rintro i zs s₂ E' hi hl hj ⟨st, m, x, y, hm, hx, hy, hmx, hmy⟩ ev hal
      obtain ⟨da, hda, hra⟩ := hal1.get i x (by simpa using hx)
      obtain ⟨db, hdb, hrb⟩ := hal2.get i y (by simpa using hy)
      refine compP_elt ok ?_ ?_ (helt Pv (N + 5 + 1) i da db ok' hB hda hdb) hj
      · intro t ht
        rcases List.mem_append.mp ht with ht | ht
        · exact hal t ht
        · exact l₁.ev ev t ht
      · refine vw_compP (ρb := [(xa, .d da), (xb, .d db)]) ok v₁ ev (hsub (N + 5 + 1)) hP0 fun z b hz => ?_
        have hCT : (N + 5 + 1 : Addr) ∉ C.T := fun q => hTn _ (hP0 (N + 5 + 1) (by simp [Pv])) (List.mem_append_left _ q)
        rw [List.lookup_cons] at hz
        cases hzx : z == xa with
        | true =>
          rw [hzx] at hz
          cases hz
          rw [eq_of_beq hzx]
          exact ⟨x, hra, .inl ⟨hka, hCT, m, hm, hmx⟩⟩
        | false =>
          rw [hzx, List.lookup_cons] at hz
          cases hzb : z == xb with
          | true =>
            rw [hzb] at hz
            cases hz
            rw [eq_of_beq hzb]
            exact ⟨y, hrb, .inl ⟨hkb, hCT, m, hm, hmy⟩⟩
          | false => rw [hzb] at hz; cases hz
    · rintro s' zs m hm hp hl ⟨a', es, h1, h2, h3⟩ ev
      have hDn := hP0 (N + 5) (by simp [Pv])
      refine ⟨m, hm, fun h' hs' => ?_⟩
      have evd : Ev C.T C.F s₁ { s' with heap := h' } := ev.step (fun b o o₀ e₀ e => hs'.extBut b o (fun q => by rw [q, hP0 (N + 5 + 1) (by simp [Pv])] at e₀; cases e₀) e) rfl rfl
      have a'' : C.Am { s' with heap := h' } := a'.stab ok (fun b o o₀ e₀ e => hs'.extBut b o (fun q => by rw [q, hB (N + 5 + 1) (by simp [Pv])] at e₀; cases e₀) e) rfl rfl
      refine q (.ref (N + 5)) (BL es) _ (ev₁.trans evd) a'' ⟨es, rfl, h1, h2⟩ ?_
      refine Rep.list_mk (let ⟨k, e⟩ := hp; ⟨_, hs'.extBut _ _ d5 e, rfl, _, rfl⟩) (fun q => by obtain ⟨o, e⟩ := l₁ (N + 5) q; rw [hDn] at e; cases e) ?_
      refine all2_holds (C := C) h3 fun b o e n => ⟨hs'.extBut b o (fun q => n (List.mem_append_left _ (by simp [Pv, q]))) e, fun q => n (List.mem_append_right _ q)⟩
  exact codeAny_compStart_list (loop _ rfl rfl rfl) (W.self 0 _ _ _ (W.frame _ _ _ hstI fun b _ o e => old b o e) (loop _ rfl rfl rfl))
end
end Mine
end

section
open PySem PySem.W PySem.Calls PyProof.Rows
set_option Elab.async false
set_option linter.unusedVariables false
namespace Mine
/-- a def that the law has made, as the ghost holds it: its code, its cells -/
structure FnG (G : Heap) (f c' : Addr) (name qual : Str) (params : Arguments) (body : List Stmt) (scope : Scope) (clos : List (Str × Addr)) : Prop where
  fn : ∃ doc pm ctv, G.get? f = some (fnMade name qual params body scope clos doc pm c' ctv)
  cd : G.CodeRec (.ref c') qual
  cl : ∀ n c, clos.lookup n = some c → ∃ v, G.IsCell c v
  ap : ∀ n n' c, clos.lookup n = some c → clos.lookup n' = some c → n = n'
theorem codeRec_keeps {h h' : Heap} {v : Value} {q : Str} (x : h.CodeRec v q) (k : ∀ b o, h.get? b = some o → h'.get? b = some o) : h'.CodeRec v q :=
  let ⟨c, o, vs, t, r1, r2, r3, r4⟩ := x; ⟨c, o, vs, t, r1, k _ _ r2, r3, r4⟩
theorem isCell_keeps {h h' : Heap} {c : Addr} {v : Option Value} (x : h.IsCell c v) (k : ∀ b o, h.get? b = some o → h'.get? b = some o) : h'.IsCell c v :=
  let ⟨o, e, d⟩ := x; ⟨o, k _ _ e, d⟩
theorem FnG.keeps {G G' : Heap} {f c' : Addr} {name qual : Str} {params : Arguments} {body : List Stmt} {scope : Scope} {clos : List (Str × Addr)} (x : FnG G f c' name qual params body scope clos) (k : ∀ b o, G.get? b = some o → G'.get? b = some o) :
    FnG G' f c' name qual params body scope clos :=
  ⟨let ⟨d, p, t, e⟩ := x.fn; ⟨d, p, t, k _ _ e⟩, codeRec_keeps x.cd k, fun n c h => let ⟨v, e⟩ := x.cl n c h; ⟨v, isCell_keeps e k⟩, x.ap⟩
theorem Cx.Am.not {C : Cx} {s : Shared} {b : Addr} (a : C.Am s) (h : s.heap.get? b = none) : C.G.get? b = none := by
  cases e : C.G.get? b with
  | none => rfl
  | some o => exact nomatch h.symm.trans (a.g _ _ e)
theorem lookup_mem {β : Type} {y : Str} {v : β} : ∀ {l : List (Str × β)}, (l.map (·.1)).Nodup → (y, v) ∈ l → l.lookup y = some v
  | (n, u) :: r, hn, h => by
    have hn' := List.nodup_cons.mp hn
    rw [List.lookup_cons]
    rcases List.mem_cons.mp h with e | h
    · cases e; simp
    · cases hy : y == n with
      | true => rw [eq_of_beq hy] at h; exact absurd (List.mem_map_of_mem (f := (·.1)) h) hn'.1
      | false => exact lookup_mem hn'.2 h
theorem lookup_rev {β : Type} {y : Str} {v : β} {l : List (Str × β)} (hn : (l.map (·.1)).Nodup) (h : (y, v) ∈ l) : l.reverse.lookup y = some v :=
  (lookup_reverse_of_nodup l hn y).trans (lookup_mem hn h)
def Bd.inG (G : Heap) (v : Value) : Bd → Prop
  | .d x => ∃ as, Reads G v x as
  | .r u => v = u
theorem Bd.inG.keeps {G G' : Heap} {v : Value} {b : Bd} (x : b.inG G v) (k : ∀ b o, G.get? b = some o → G'.get? b = some o) : b.inG G' v := by
  cases b with
  | d y => obtain ⟨as, r⟩ := x; exact ⟨as, Reads.keeps k r⟩
  | r u => exact x
theorem Bd.inG.holds {C : Cx} {s : Shared} {v : Value} {b : Bd} (ok : C.Ok) (a : C.Am s) (x : b.inG C.G v) : b.holds C.H s v := by
  cases b with
  | d y => obtain ⟨as, r⟩ := x; exact ⟨as, Reads.keeps (fun b o e => hideAll_get _ (a.g b o e) fun hm => by rw [ok.HG b hm] at e; cases e) r⟩
  | r u => exact x
/-- what the names of ρ stand for, in the cells of a closure -/
def CloG (G : Heap) (clos : List (Str × Addr)) (ρ : Rho) : Prop := ∀ y b, ρ.lookup y = some b → ∃ c v, clos.lookup y = some c ∧ G.IsCell c (some v) ∧ b.inG G v
theorem CloG.keeps {G G' : Heap} {clos : List (Str × Addr)} {ρ : Rho} (x : CloG G clos ρ) (k : ∀ b o, G.get? b = some o → G'.get? b = some o) : CloG G' clos ρ := fun y b h =>
  let ⟨c, v, h1, h2, h3⟩ := x y b h; ⟨c, v, h1, isCell_keeps h2 k, h3.keeps k⟩
section
variable {prog : Program} {w : World} {C : Cx} {A : Around} {P : Bd → Prop} {K : Frag} {p : Program} {loose : List Str} {mg mb : Str → Option Value}
/-- the call of a def that the law has made -/
theorem COk.enterC {f c' : Addr} {name qual : Str} {params : Arguments} {body : List Stmt} {scope : Scope} {clos : List (Str × Addr)} {bs : List Bd} {ps : List Str} {ρc : Rho} (n : Nat)
    (ok : C.Ok) (gl : Gl K p loose mg mb C.G) (hA : AOk (n + 1) A) (hf : FnG C.G f c' name qual params body scope clos) (hclo : CloG C.G clos ρc)
    (hbind : ∀ (doc pm ctv : Value) (vs : List Value), vs.length = bs.length → bindArgs (fnX name qual params body scope clos .none .none doc pm none (.ref c') ctv) ⟨vs, []⟩ = pure (ps.zip vs)) (hps : ps.Nodup)
    (hkind : ∀ x ∈ ps, scope.names.lookup x = some .local) (hfree : ∀ y b, ρc.lookup y = some b → scope.names.lookup y = some .free) (hcell : ∀ x ∈ scope.names, x.2 ≠ .cell)
    (hco : scope.isCoroutine = false) (hgen : scope.isGenerator = false) (hk : scope.kind = .function)
    (h : ∀ L, (C.inner [L]).Ok → Wok (C.inner [L]) (envX qual scope L f (.ref c') clos) [L] → AOk n (A.deeper (envX qual scope L f (.ref c') clos)) →
      PB prog w (C.inner [L]) (A.deeper (envX qual scope L f (.ref c') clos)) (envX qual scope L f (.ref c') clos) [L] (ps.zip bs ++ ρc) body P) :
    COk prog w C A (.ref f) bs P := fun s vs Q E a l fs hv q => by
  obtain ⟨doc, pm, ctv, hfo⟩ := hf.fn
  refine wpAny_call ?_
  refine codeAny_call_def (fd := fnX name qual params body scope clos .none .none doc pm none (.ref c') ctv) (body := body) (binds := ps.zip vs) (by have := hA.2.1; omega) (a.g _ _ hfo) rfl (gl.T.nolimit.keeps a.g)
    (codeRec_keeps hf.cd a.g) rfl (BindsTo.of_eq (hbind doc pm ctv vs hv.length)) hcell (fun x hx => hkind _ (List.of_mem_zip hx).1) (fun h₁ hns kk => ?_) hco hgen hk
  have hLn : s.heap.get? s.heap.objs.size = none := none_of_ge (Nat.le_refl _)
  generalize hL : s.heap.objs.size = L at *
  have hGn : ∀ b ∈ [L], s.heap.get? b = none := fun b hb => by rw [List.mem_singleton.mp hb]; exact hLn
  have hnT : L ∉ C.H := fun hm => by obtain ⟨o, e⟩ := l L hm; rw [hLn] at e; cases e
  have hcG : ∀ n c, clos.lookup n = some c → c ∉ C.H := fun n c hc hm => by
    obtain ⟨v, o, e, _⟩ := hf.cl n c hc
    rw [ok.HG c hm] at e; cases e
  have ok' : (C.inner [L]).Ok := ok.inner fun b hb => a.not (hGn b hb)
  have a₁ : C.Am { s with heap := h₁, toks := s.toks + (ps.zip vs).length } := a.keeps ok kk rfl rfl
  have wok : Wok (C.inner [L]) (envX qual scope L f (.ref c') clos) [L] :=
    ⟨.head _, fun n c hc q => hcG n c hc (ok.TH _ q), fun b hb => List.mem_append_left _ hb, fun b hb q => by rw [List.mem_singleton.mp hb] at q; exact hnT (ok.TH _ q), fun n c hc q => hcG n c hc (ok.FH _ q), hf.ap, fun b hb => a.fresh (hGn b hb)⟩
  have kH : ∀ b o, s.heap.get? b = some o → b ∉ C.H → h₁.get? b = some o ∧ b ∉ (C.inner [L]).H := fun b o e n => ⟨kk b o e, fun q => (List.mem_append.mp q).elim (fun q => by rw [hGn b q] at e; cases e) n⟩
  refine h L ok' wok (hA.deeper _) { s with heap := h₁, toks := s.toks + (ps.zip vs).length } _ _ a₁.inn ?_ ?_ ?_ ?_
  · intro t ht
    rcases List.mem_append.mp ht with ht | ht
    · rw [List.mem_singleton.mp ht]
      obtain ⟨o, _, _, e', _⟩ := hns
      exact ⟨o, e'⟩
    · obtain ⟨o, e⟩ := l t ht
      exact ⟨o, kk t o e⟩
  · exact ⟨⟨_, hns⟩, fun n c hc => let ⟨v, e⟩ := hf.cl n c hc; ⟨v, isCell_keeps e a₁.g⟩⟩
  · refine ⟨?_, fun b hb => let ⟨m, h⟩ := fs b hb; ⟨m, h.keeps kk⟩⟩
    intro y b hy
    have hnd : ((ps.zip vs).map (·.1)).Nodup := (zip_fst_sub ps vs).nodup hps
    rw [List.lookup_append] at hy
    cases hz : (ps.zip bs).lookup y with
    | some b' =>
      rw [hz] at hy
      cases hy
      obtain ⟨v, hm, hb⟩ := all2_zip hv y b hz
      refine ⟨v, hb.mono kH, ?_⟩
      refine .inl ⟨hkind y (List.of_mem_zip hm).1, fun q => hnT (ok.TH _ q), _, hns, ?_⟩
      exact lookup_rev hnd hm
    | none =>
      rw [hz] at hy
      obtain ⟨c, v, h1, h2, h3⟩ := hclo y b hy
      have h3' : b.inG (C.inner [L]).G v := h3
      refine ⟨v, h3'.holds ok' a₁.inn, .inr ⟨c, ?_, fun q => hcG y c h1 ((List.mem_append.mp q).elim (ok.TH _) (ok.FH _)), isCell_keeps h2 a₁.g⟩⟩
      unfold cellK
      rw [if_pos (.inr (hfree y b hy))]
      exact h1
  · intro v b s' ev a' pv r
    have ev0 : Ev ([L] ++ C.T) C.F s { s with heap := h₁, toks := s.toks + (ps.zip vs).length } := Ev.of_keeps kk rfl rfl
    have hev : Ev C.T C.F s s' := (ev0.trans ev).drop (fun t ht => (List.mem_append.mp ht).elim (fun h => .inr (hGn t h)) .inl) fun t ht => .inl ht
    exact q v b s' hev a'.out pv (r.mono fun b o e n => ⟨e, fun q => n (List.mem_append_right _ q)⟩)
end
end Mine
end

section
open PySem PySem.W PySem.Calls PyProof.Rows
set_option Elab.async false
set_option linter.unusedVariables false
namespace Mine
section
variable {prog : Program} {w : World} {C : Cx} {A : Around} {env : Env} {W : List Addr} {ρ : Rho} {K : Frag} {p : Program} {loose : List Str} {mg mb : Str → Option Value} {Fin : Shared → Prop}
/-- the body gives True; what holds at its end is Fin -/
def PBe (prog : Program) (w : World) (C : Cx) (A : Around) (env : Env) (W : List Addr) (ρ : Rho) (body : List Stmt) (Fin : Shared → Prop) : Prop :=
  ∀ (s : Shared) (Q : Flow → Shared → Prop) (E : Value → Shared → Prop), C.Am s → Live C.H s → Fm env s → Vw C env ρ s →
    (∀ s', Ev (W ++ C.T) C.F s s' → Fin s' → Q (.ret (.bool true)) s') → wpAny (model prog w) A (execs body env) Q E s
theorem PBe.of {body : List Stmt} (h : PB prog w C A env W ρ body (· = BB true)) (hf : ∀ s, C.Am s → Fin s) : PBe prog w C A env W ρ body Fin := fun s Q E a l f v q =>
  h s Q E a l f v fun u b s' ev a' p r => by
    subst p
    obtain ⟨_, r⟩ := r
    cases r
    exact q s' ev (hf s' a')
theorem PBe.cons {st : Stmt} {rest : List Stmt} {R : Rho → Prop} (h1 : PT prog w C A env W ρ st R) (h2 : ∀ ρ', R ρ' → PBe prog w C A env W ρ' rest Fin) : PBe prog w C A env W ρ (st :: rest) Fin := fun s Q E a l f v q =>
  wpAny_execs_cons (h1 s _ _ a l f v fun ρ' s₁ ev₁ a₁ p₁ f₁ v₁ => h2 ρ' p₁ s₁ _ _ a₁ (l.ev ev₁) f₁ v₁ fun s' ev' hf => q s' (ev₁.trans ev') hf)
theorem cellK_lookup {y : Str} {c : Addr} (h : cellK env y = some c) : env.cells.lookup y = some c := by
  unfold cellK at h
  split at h
  · exact h
  · cases h
theorem cell_ne {h : Heap} {c L : Addr} {u : Option Value} {m : Str → Option Value} (hc : h.IsCell c u) (hn : h.Ns L m) : c ≠ L := fun e => by
  obtain ⟨o, ho, hd⟩ := hc
  obtain ⟨o', _, _, ho', hd', _⟩ := hn
  rw [e, ho'] at ho; cases ho
  rw [hd'] at hd; cases hd

/-- a def within the law -/
theorem PBe.defn {ps : Array Value} {c Pt : Addr} {W' : List Addr} {fz : Rho} {clos : List (Str × Addr)} {name qual : Str} {params : Arguments} {body : List Stmt} {scope : Scope} {pos : Pos} {rest : List Stmt}
    (ok : C.Ok) (kw : Wok C env W) (gl : Gl K p loose mg mb C.G) (hk : env.scope.kind = .function) (hX : C.X = fun s => s.heap.get? Pt = some (tabObj ps)) (hPT : Pt ∈ C.T) (hPt : Pt ∉ C.tabs.map (·.2))
    (hcd : CodeHd C.G c Pt) (hcode : env.code = .ref c) (hge : env.globals = mainGlobals) (ht : TriplesOk ps.toList) (hnf : codeAmong pos ps.toList = none) (hcl : closureFor scope env = pure clos)
    (hd0 : params.defaults = []) (hk0 : params.kw_defaults = []) (ha : annTrees params none env = []) (hq : qualnameIn env name name = qual) (hx : Owned env W name)
    (hcc : ∀ q ∈ clos, cellK env q.1 = some q.2 ∧ q.2 ∉ W' ∧ q.1 ≠ name) (hfz : ∀ y b, fz.lookup y = some b → y ≠ name ∧ ρ.lookup y = some b ∧ ∃ c, clos.lookup y = some c)
    (hcz : ∀ q ∈ clos, ∃ b, fz.lookup q.1 = some b) (hW : ∀ b ∈ W', b ∈ W) (hL : env.locals ∈ W')
    (hrest : ∀ (C' : Cx) (f c' : Addr), C'.Ok → Wok C' env W' → (∀ b o, C.G.get? b = some o → C'.G.get? b = some o) → C'.tabs = C.tabs → C'.T = C.T → C'.F = [env.locals] →
      (C'.X = fun s => s.heap.get? Pt = some (tabObj (ps ++ #[rawInt pos.line, rawInt pos.col, .ref c']))) → FnG C'.G f c' name qual params body scope clos → CloG C'.G clos fz →
      PBe prog w C' A env W' ((name, .r (.ref f)) :: ρ) rest Fin) :
    PBe prog w C A env W ρ (.FunctionDef name params body [] none [] scope none name pos :: rest) Fin := fun s Q E a l f v q => by
  have hx0 := a.x
  rw [hX] at hx0
  have hx0 : s.heap.get? Pt = some (tabObj ps) := hx0
  subst hq
  refine wpAny_execs_cons (nestDef_K hd0 hk0 ha ?_)
  obtain ⟨bm, ob, b1, b2, b3, b4, b5, b6⟩ := gl.bm
  have hgs := gl.T.g.keeps a.g
  have hPH := ok.TH _ hPT
  have hPG : C.G.get? Pt = none := ok.HG _ hPH
  have hgP : mainGlobals ≠ Pt := fun e => by
    obtain ⟨o, _, _, e', _⟩ := gl.T.g
    rw [e, hPG] at e'; cases e'
  have hbP : bm ≠ Pt := fun e => by rw [e, hPG] at b3; cases b3
  have hbG : bm ≠ mainGlobals := fun q => by
    obtain ⟨o, es, ep, e, hd, _⟩ := gl.T.g
    rw [q, e] at b3; cases b3; rw [hd] at b6; cases b6
  refine makeFunction_K (mg := mg) hcl hge hgs hcode (hcd.keeps a.g) hx0 ht hnf hgP ⟨bm, ob, b1, b2, hbG, hbP, a.g _ _ b3, b4, b5, b6⟩ fun c' ctv doc h' tk hxt hge' hlt hrec htb => ?_
  have k2 : ∀ b o, b ≠ Pt → s.heap.get? b = some o → (h'.push (fnMade name (qualnameIn env name name) params body scope clos doc ((mg "__name__").getD .none) c' ctv)).get? b = some o := fun b o hb e => Heap.get?_push_of_some _ (hxt b o hb e)
  have hfa : (h'.push (fnMade name (qualnameIn env name name) params body scope clos doc ((mg "__name__").getD .none) c' ctv)).get? h'.objs.size = some (fnMade name (qualnameIn env name name) params body scope clos doc ((mg "__name__").getD .none) c' ctv) := Heap.get?_push_size _ rfl
  have hPt2 : (h'.push (fnMade name (qualnameIn env name name) params body scope clos doc ((mg "__name__").getD .none) c' ctv)).get? Pt = some (tabObj (ps ++ #[rawInt pos.line, rawInt pos.col, .ref c'])) := Heap.get?_push_of_some _ htb
  have hrec2 := codeRec_keeps hrec (h' := h'.push (fnMade name (qualnameIn env name name) params body scope clos doc ((mg "__name__").getD .none) c' ctv)) fun b o e => Heap.get?_push_of_some _ e
  have hfresh : ∀ b, s.heap.objs.size ≤ b → b ∉ C.H := fun b hb hm => by obtain ⟨o, e⟩ := l b hm; rw [none_of_ge hb] at e; cases e
  have hfaH : h'.objs.size ∉ C.H := hfresh _ (by omega)
  have hc'H : c' ∉ C.H := hfresh _ hge'
  generalize hh₂ : h'.push (fnMade name (qualnameIn env name name) params body scope clos doc ((mg "__name__").getD .none) c' ctv) = h₂ at *
  generalize h'.objs.size = fa at *
  have live2 : ∀ b o, s.heap.get? b = some o → ∃ o', h₂.get? b = some o' := fun b o e => by
    by_cases hb : b = Pt
    · exact ⟨_, hb ▸ hPt2⟩
    · exact ⟨o, k2 b o hb e⟩
  have ev2 : Ev (W ++ C.T) C.F s { s with heap := h₂, toks := tk } :=
    ⟨fun b o e n => k2 b o (fun q => n (List.mem_append_left _ (List.mem_append_right _ (q ▸ hPT)))) e, fun b m x n => x.at' fun o e => k2 b o (fun q => n (List.mem_append_right _ (q ▸ hPT))) e, live2, rfl, id⟩
  let C₀ : Cx := { G := C.G, tabs := [], T := [], F := [], H := C.H, B := C.B, X := fun _ => True }
  have ok₀ : C₀.Ok := ⟨(fun _ h => nomatch h), (fun _ h => nomatch h), (fun _ h => nomatch h), (fun _ h => nomatch h), ok.HG, ok.GB, (fun _ h => nomatch h), fun _ _ _ _ => trivial⟩
  have kw₀ : Wok C₀ env W := ⟨kw.loc, (fun _ _ _ h => nomatch h), kw.WH, (fun _ _ h => nomatch h), (fun _ _ _ h => nomatch h), kw.apart, kw.new⟩
  have hneW : ∀ b ∈ W, b ≠ Pt := fun b hb e => kw.WT b hb (e ▸ hPT)
  have hneC : ∀ n c, env.cells.lookup n = some c → c ≠ Pt := fun n c hc e => kw.cell n c hc (e ▸ hPT)
  have a₂ : C₀.Am { s with heap := h₂, toks := tk } := ⟨fun b o e => k2 b o (fun q => by rw [q, hPG] at e; cases e) (a.g b o e), (fun _ h => nomatch h), fun b o e => let ⟨o', e'⟩ := a.live b o e; live2 b o' e', trivial⟩
  have l₂ : Live C₀.H { s with heap := h₂, toks := tk } := fun t ht => let ⟨o, e⟩ := l t ht; live2 t o e
  have f₂ : Fm env { s with heap := h₂, toks := tk } :=
    ⟨let ⟨m, h⟩ := f.ns; ⟨m, h.at' fun o e => k2 _ o (hneW _ kw.loc) e⟩, fun n c hc => let ⟨u, o, e, d⟩ := f.cells n c hc; ⟨u, o, k2 _ o (hneC n c hc) e, d⟩⟩
  have v₂ : Vw C₀ env ρ { s with heap := h₂, toks := tk } := by
    refine ⟨fun y b hy => ?_, (fun _ h => nomatch h)⟩
    obtain ⟨u, hb, hl⟩ := v.look y b hy
    refine ⟨u, hb.mono fun b o e n => ⟨k2 b o (fun q => n (q ▸ hPH)) e, n⟩, ?_⟩
    rcases hl with ⟨h1, h2, m', hm', hv⟩ | ⟨c, h1, h2, o, ho, hd⟩
    · exact .inl ⟨h1, (fun h => nomatch h), m', hm'.at' fun o e => k2 _ o (hneW _ kw.loc) e, hv⟩
    · exact .inr ⟨c, h1, (fun h => nomatch h), o, k2 _ o (hneC y c (cellK_lookup h1)) ho, hd⟩
  refine store (C := C₀) (x := name) (b := .r (.ref fa)) ok₀ kw₀ hk hx a₂ l₂ f₂ v₂ rfl fun s₃ ev₃ a₃ l₃ f₃ v₃ => ?_
  have hPt3 : s₃.heap.get? Pt = some (tabObj (ps ++ #[rawInt pos.line, rawInt pos.col, .ref c'])) := ev₃.keep _ _ hPt2 fun q => by
    simp only [List.append_nil, C₀] at q
    exact hneW _ q rfl
  have hW3 : ∀ b, b ∉ C.H → b ∉ (W ++ C₀.T) ++ C₀.F := fun b hb q => by
    simp only [List.append_nil, C₀] at q
    exact hb (kw.WH b q)
  let cs := clos.map (·.2)
  have hcsW : ∀ c ∈ cs, c ∉ W' ∧ c ∉ C.T := fun c hc => by
    obtain ⟨q, hq, rfl⟩ := List.mem_map.mp hc
    exact ⟨(hcc q hq).2.1, kw.cell _ _ (cellK_lookup (hcc q hq).1)⟩
  let H' := C.H.filter fun b => !cs.contains b
  have hH' : ∀ b, b ∈ H' ↔ b ∈ C.H ∧ b ∉ cs := fun b => by
    show b ∈ List.filter _ _ ↔ _
    rw [List.mem_filter]
    simp
  have hnH : ∀ b, b ∉ C.H → b ∉ H' := fun b hb q => hb ((hH' b).mp q).1
  have hW'H : ∀ b ∈ W', b ∈ H' := fun b hb => (hH' b).mpr ⟨kw.WH b (hW b hb), fun q => (hcsW b q).1 hb⟩
  obtain ⟨m₃, hm₃⟩ := f₃.ns
  have hcL : ∀ n c, env.cells.lookup n = some c → c ≠ env.locals := fun n c hc => let ⟨u, hu⟩ := f₃.cells n c hc; cell_ne hu hm₃
  let C' : Cx := { G := hideAll s₃.heap H', tabs := C.tabs, T := C.T, F := [env.locals], H := H', B := hideAll s₃.heap W', X := fun s => s.heap.get? Pt = some (tabObj (ps ++ #[rawInt pos.line, rawInt pos.col, .ref c'])) }
  have htb3 : ∀ q ∈ C.tabs, ∃ ps, s₃.heap.get? q.2 = some (tabObj ps) ∧ TriplesOk ps.toList := fun q hq => by
    obtain ⟨ps, e, ht⟩ := a.tb q hq
    refine ⟨ps, ev₃.keep _ _ (k2 _ _ (fun e => hPt (e ▸ List.mem_map_of_mem hq)) e) fun q' => ?_, ht⟩
    simp only [List.append_nil, C₀] at q'
    exact kw.WT _ q' (ok.tT q hq)
  have ok' : C'.Ok := by
    refine ⟨fun t ht => (hH' t).mpr ⟨ok.TH t ht, fun q => (hcsW t q).2 ht⟩, fun t ht => ?_, fun t ht => ?_, ok.tT, fun t ht => hideAll_none _ ht, fun b o e => ?_, fun q hq => ?_, fun s s' h kk => ?_⟩
    · rw [List.mem_singleton.mp ht]; exact hW'H _ hL
    · rw [List.mem_singleton.mp ht]; exact kw.WT _ kw.loc
    · obtain ⟨e1, e2⟩ := hideAll_inv e
      exact ⟨o, hideAll_get _ e1 fun q => e2 (hW'H b q)⟩
    · obtain ⟨ps, e, _⟩ := htb3 q hq
      exact ⟨_, hideAll_get _ e fun q' => kw.WT _ (hW _ q') (ok.tT q hq)⟩
    · exact kk Pt _ _ (hideAll_get _ hPt3 fun q' => hneW _ (hW _ q') rfl) hPt h
  have kw' : Wok C' env W' := ⟨hL, kw.cell, hW'H, fun b hb => kw.WT b (hW b hb), fun n c hc q => hcL n c hc (List.mem_singleton.mp q), kw.apart, fun b hb => hideAll_none _ hb⟩
  have am' : C'.Am s₃ := ⟨fun b o e => (hideAll_inv e).1, htb3, fun b o e => ⟨o, (hideAll_inv e).1⟩, hPt3⟩
  have vw' : Vw C' env ((name, .r (.ref fa)) :: ρ) s₃ := by
    refine ⟨fun y b hy => ?_, fun b hb => by rw [List.mem_singleton.mp hb]; exact ⟨m₃, hm₃⟩⟩
    obtain ⟨u, hb, hl⟩ := v₃.look y b hy
    refine ⟨u, hb.mono fun b o e n => ⟨e, hnH b n⟩, ?_⟩
    rcases hl with ⟨h1, h2, m', hm', hv⟩ | ⟨c, h1, h2, hc⟩
    · exact .inl ⟨h1, kw.WT _ kw.loc, m', hm', hv⟩
    · refine .inr ⟨c, h1, fun q => ?_, hc⟩
      rcases List.mem_append.mp q with q | q
      · exact kw.cell _ _ (cellK_lookup h1) q
      · exact hcL _ _ (cellK_lookup h1) (List.mem_singleton.mp q)
  have kG : ∀ b o, b ∉ C.H → h₂.get? b = some o → C'.G.get? b = some o := fun b o hb e => hideAll_get _ (ev₃.keep _ _ e (hW3 b hb)) (hnH b hb)
  have hclo : CloG C'.G clos fz := fun y b hy => by
    obtain ⟨h1, h2, c, h3⟩ := hfz y b hy
    obtain ⟨u, hb, hl⟩ := v₃.look y b (by rw [List.lookup_cons, show (y == name) = false from by simpa using h1]; exact h2)
    have hq := PySem.mem_of_lookup h3
    have hck := (hcc _ hq).1
    refine ⟨c, u, h3, ?_, ?_⟩
    · rcases hl with ⟨h1, _⟩ | ⟨c₂, h1, _, o, ho, hd⟩
      · unfold cellK at hck
        dsimp only at hck
        rw [h1] at hck
        simp at hck
      · rw [show cellK env y = some c from hck] at h1
        cases h1
        exact ⟨o, hideAll_get _ ho fun q => ((hH' c).mp q).2 (List.mem_map_of_mem (f := (·.2)) hq), hd⟩
    · cases b with
      | d x => obtain ⟨as, r⟩ := hb; exact ⟨as, Reads.keeps (fun b o e => let ⟨e1, e2⟩ := hideAll_inv e; hideAll_get _ e1 (hnH b e2)) r⟩
      | r u' => exact hb
  refine hrest C' fa c' ok' kw' (fun b o e => hideAll_get _ (a₃.g b o e) (hnH b fun q => by rw [ok.HG b q] at e; cases e)) rfl rfl rfl rfl ⟨⟨doc, _, ctv, kG _ _ hfaH hfa⟩, ?_, fun n c hc => ?_, fun n n' c h1 h2 => ?_⟩ hclo s₃ Q E am' (fun t ht => l₃ t ((hH' t).mp ht).1) f₃ vw' fun s' ev' hfin => ?_
  · obtain ⟨c₂, oc, vs, t, e2, hoc, hd, hv⟩ := hrec2
    cases e2
    exact ⟨c', oc, vs, t, rfl, kG _ _ hc'H hoc, hd, hv⟩
  · obtain ⟨b, hb⟩ := hcz _ (PySem.mem_of_lookup hc)
    obtain ⟨c₂, u, h1, h2, _⟩ := hclo n b hb
    rw [hc] at h1; cases h1
    exact ⟨_, h2⟩
  · exact kw.apart n n' c (cellK_lookup (hcc _ (PySem.mem_of_lookup h1)).1) (cellK_lookup (hcc _ (PySem.mem_of_lookup h2)).1)
  · refine q s' ((ev2.trans (ev₃.mono (fun t ht => ?_) fun t ht => nomatch ht)).trans (ev'.mono (fun t ht => ?_) fun t ht => ?_)) hfin
    · simp only [List.append_nil, C₀] at ht
      exact List.mem_append_left _ ht
    · exact (List.mem_append.mp ht).elim (fun h => List.mem_append_left _ (hW t h)) fun h => List.mem_append_right _ h
    · rw [List.mem_singleton.mp ht]
      exact List.mem_append_left _ (List.mem_append_left _ kw.loc)
end
end Mine
end

section
open PySem PySem.W PySem.Calls PyProof.Rows
set_option Elab.async false
set_option linter.unusedVariables false
set_option maxRecDepth 100000
set_option maxHeartbeats 4000000
namespace Mine
section
variable {prog : Program} {w : World} {C : Cx} {A : Around} {env : Env} {ρ : Rho} {e e₁ e₂ : Expr} {P P₁ P₂ : Bd → Prop} {pos : Pos}
/-- the call of a def that the law has made -/
theorem PE.callC {f c' : Addr} {name qual : Str} {params : Arguments} {body : List Stmt} {scope : Scope} {clos : List (Str × Addr)} {x : Str} {px : Pos} {es : List Expr} {PL : List Bd → Prop} (ok : C.Ok) (hf : FnG C.G f c' name qual params body scope clos)
    (hx : PE prog w C A env ρ (.Name x px) (· = .r (.ref f))) (ha : PEL prog w C A env ρ es PL) (h : ∀ bs, PL bs → COk prog w C A (.ref f) bs P)
    (hsh : ∃ y r, backTo pos (starEach es env) = (false, y) :: r := by exact ⟨_, _, rfl⟩) : PE prog w C A env ρ (.Call (.Name x px) es [] pos) P := by
  obtain ⟨doc, pm, ctv, he⟩ := hf.fn
  exact PE.callR ok hx (fun s a => a.g _ _ he) rfl ha h hsh
def isI (b : Bd) : Prop := ∃ r : Int, b = BI r
theorem PE.arithI {op : Operator} {f : Int → Int → Int} (ok : C.Ok) (h1 : PE prog w C A env ρ e₁ isI) (h2 : PE prog w C A env ρ e₂ isI)
    (h : ∀ i j t u s Q E, Q (.int (f i j) s.toks) { s with toks := s.toks + 1 } → wpAny (model prog w) A (binaryOp op (.int i t) (.int j u)) Q E s) : PE prog w C A env ρ (.BinOp e₁ op e₂ pos) isI :=
  (PE.ints (p₁ := fun _ => True) (p₂ := fun _ => True) (f := f) ok (h1.mono fun b ⟨r, h⟩ => ⟨r, h, trivial⟩) (h2.mono fun b ⟨r, h⟩ => ⟨r, h, trivial⟩) fun i j t u s Q E _ _ q => h i j t u s Q E q).mono fun b ⟨i, j, h, _⟩ => ⟨_, h⟩
theorem PE.modK {m : Nat} (hm : 0 < m) (ok : C.Ok) (h1 : PE prog w C A env ρ e₁ isI) (h2 : PE prog w C A env ρ e₂ (· = BI m)) : PE prog w C A env ρ (.BinOp e₁ .Mod e₂ pos) (fun b => ∃ r : Nat, b = BI r ∧ r < m) :=
  (PE.ints (p₁ := fun _ => True) (p₂ := (· = (m : Int))) (f := fun i j => i.fmod j) ok (h1.mono fun b ⟨r, h⟩ => ⟨r, h, trivial⟩) (h2.mono fun b h => ⟨m, h, rfl⟩) fun i j t u s Q E _ hj q => by subst hj; exact PyProof.Rows.mod_int (by omega) q).mono
    fun b ⟨i, j, h, _, hj⟩ => by
      subst hj
      have h0 := Int.fmod_nonneg_of_pos i (show (0 : Int) < m by omega)
      have h1 := Int.fmod_lt_of_pos i (show (0 : Int) < m by omega)
      exact ⟨(i.fmod m).toNat, h.trans (by rw [Int.toNat_of_nonneg h0]), by omega⟩
/-- a pair of things of which a property is known -/
theorem PE.tup2N {p₁ p₂ : PyData → Prop} {kk : Nat} (ok : C.Ok) (h1 : PE prog w C A env ρ e₁ (fun b => ∃ d, b = .d d ∧ p₁ d)) (h2 : PE prog w C A env ρ e₂ (fun b => ∃ d, b = .d d ∧ p₂ d))
    (he : starEach [e₁, e₂] env = (false, eval e₁ env) :: starEach [e₂] env := by rfl) (hs : starEach [e₂] env = [(false, eval e₂ env)] := by rfl) :
    PE prog w C A env ρ (.Tuple [e₁, e₂] kk pos) (fun b => ∃ d₁ d₂, b = BT [d₁, d₂] ∧ p₁ d₁ ∧ p₂ d₂) := fun s Q E a l v q => by
  refine PySem.wpAny_Tuple ?_
  rw [he, hs]
  refine Calls.spliced_cons (h1 s _ _ a l v fun v₁ b₁ s₁ ev₁ a₁ pp₁ r₁ => Calls.spliced_cons (h2 s₁ _ _ a₁ (l.ev ev₁) (v.ev ok ev₁) fun v₂ b₂ s₂ ev₂ a₂ pp₂ r₂ => Calls.spliced_nil ?_))
  obtain ⟨d₁, rfl, hp₁⟩ := pp₁
  obtain ⟨d₂, rfl, hp₂⟩ := pp₂
  refine ⟨by show 2 ≤ 2 ^ 24; decide, ?_⟩
  exact Kt.newTup (C := C) (P := fun b => ∃ d₁ d₂, b = BT [d₁, d₂] ∧ p₁ d₁ ∧ p₂ d₂) (fun v b s'' e' a'' p' r' => q v b s'' ((ev₁.trans ev₂).trans e') a'' p' r') a₂ ((l.ev ev₁).ev ev₂) ok ⟨d₁, d₂, rfl, hp₁, hp₂⟩ (.cons (r₁.ev ev₂ ok.TH ok.FH) (.cons r₂ .nil))
theorem PT.assignTupN {W : List Addr} {xs : List (Str × Pos)} {elts : List Expr} {kk : Nat} {tpos : Pos} {R : List PyData → Prop} (ok : C.Ok) (kw : Wok C env W) (hh : A.handled = none) (h : PE prog w C A env ρ e (fun b => ∃ ds, b = BT ds ∧ ds.length = xs.length ∧ R ds)) (hk : env.scope.kind = .function) (hx : ∀ x ∈ xs, kinded env W x.1)
    (helts : assignEach elts env = xs.map fun x => (false, PySem.assign (.Name x.1 x.2) env))
    (hs : swapsWithSole [.Tuple elts kk tpos] e pos.line env = pure false := by rfl)
    (hw : swappedStores [.Tuple elts kk tpos] e env = pure none := by rfl) :
    PT prog w C A env W ρ (.Assign [.Tuple elts kk tpos] e pos) (fun ρ' => ∃ ds, R ds ∧ ρ' = ((xs.map (·.1)).zip (ds.map Bd.d)).reverse ++ ρ) := fun s Q E a l f v q => by
  refine Assign_Tuple (h s _ _ a l v fun u b s₁ ev₁ a₁ p r => ?_) hs hw
  obtain ⟨ds, rfl, hl, hR⟩ := p
  obtain ⟨t, items, rfl, ht, hb, hal⟩ := Rep.tup_inv r
  have hlen : items.size = ds.length := by simpa using hal.length
  refine wpAny_assign_Tuple hh ht (by rw [helts, List.length_map]; omega) (by rw [helts]; simp [List.findIdx?_eq_none_iff]) fun h' hx' => ?_
  have k : ∀ b o, s₁.heap.get? b = some o → h'.get? b = some o := fun b o e => hx' b o (Nat.ne_of_lt (Heap.lt_size e)) e
  rw [helts, List.map_map]
  have ev₂ : Ev C.T C.F s₁ { s₁ with heap := h' } := Ev.of_keeps k rfl rfl
  refine assign_all ok kw hk xs items.toList ds ρ { s₁ with heap := h' } _ E hx hl.symm (a₁.keeps ok k rfl rfl) ((l.ev ev₁).ev ev₂) ((f.ev' ev₁ kw).ev' ev₂ kw) ((v.ev ok ev₁).ev ok ev₂) (hal.imp fun _ _ r => Rep.keeps (s' := { s₁ with heap := h' }) r k) fun s₂ ev₃ a₂ f₂ v₂ => ?_
  exact q _ _ ((Ev.wide (ev₁.trans ev₂)).trans ev₃) a₂ ⟨ds, hR, rfl⟩ f₂ v₂

theorem foldl_rep (v : Value) : ∀ (k : Nat) (acc : Array Value), List.foldl (fun x1 x2 => x1 ++ x2) acc (List.replicate k #[v]) = acc ++ (List.replicate k v).toArray
  | 0, acc => by simp
  | k + 1, acc => by
    rw [List.replicate_succ, List.foldl_cons, foldl_rep v k, List.replicate_succ]
    apply Array.ext'
    simp [-List.reduceReplicate]
/-- a list, times a number that is small: the new list lies at the heap's end -/
theorem times_run {s : Shared} {E : Value → Shared → Prop} {l : Addr} {items : Array Value} {n : Nat} {x : Int} {u : Tok} {Q : Value → Shared → Prop} (hl : s.heap.get? l = some { cls := .type "list", dict := none, data := .seq items n, slots := #[] }) (h0 : 0 ≤ x) (h1 : x ≤ 2 ^ 24) (hsz : items.size * x.toNat ≤ 2 ^ 24)
    (h : Q (.ref s.heap.objs.size) { s with heap := s.heap.push { cls := .type "list", data := .seq (List.foldl (fun x1 x2 => x1 ++ x2) #[] (List.replicate (if items.isEmpty = true then 0 else x.toNat) items)) }, toks := s.toks }) :
    wpAny (model prog w) A (binaryOp .Mult (.ref l) (.int x u)) Q E s := by
  have hT : s.TypeIs (.ref l) "list" := ⟨_, hl, rfl⟩
  have hmul := AutoListH.list___mul___list_int_3 l items n x u (by simp [Builtin.List.listFitsIndex]; omega) (by omega) (by simp [Builtin.List.listTooLong, sizeLine]; omega)
  have back : wpAny (model prog w) A (call (.builtin "list.__mul__") [.ref l, .int x u]) Q E s := call_meets PySem.F.slot_list_mul hT PySem.F.entry_list_mul (PySem.F.args_list_mul_2 _ _) hmul ⟨hl, h⟩
  refine wpAny_binaryOp_repeat_ref (T := "list") (U := "int") (by decide) hT (fun s' => typeIs_int s' x u) noFill_list_mul PySem.F.fills_int_mul PySem.F.slot_int_rmul repeat_list PySem.F.slot_int_index.lookup ?_
  exact call_meets PySem.F.slot_int_rmul (typeIs_int s x u) PySem.F.entry_int_rmul (PySem.F.args_int_rmul_2 _ _) (int___rmul___int_list x u l items n) ⟨hl, rfl, hT, back⟩
theorem mul_one_list {s : Shared} {E : Value → Shared → Prop} {l : Addr} {v : Value} {k : Nat} {n : Nat} {u : Tok} {Q : Value → Shared → Prop} (hl : s.heap.get? l = some { cls := .type "list", dict := none, data := .seq #[v] n, slots := #[] }) (hk : k ≤ 2 ^ 24)
    (h : Q (.ref s.heap.objs.size) { s with heap := s.heap.push { cls := .type "list", data := .seq (List.replicate k v).toArray }, toks := s.toks }) :
    wpAny (model prog w) A (binaryOp .Mult (.ref l) (.int (k : Int) u)) Q E s := by
  have e : List.foldl (fun x1 x2 => x1 ++ x2) #[] (List.replicate (if (#[v] : Array Value).isEmpty = true then 0 else (k : Int).toNat) #[v]) = (List.replicate k v).toArray := by
    rw [if_neg (by simp), Int.toNat_natCast, foldl_rep]
    simp
  refine times_run hl (by omega) (by omega) (by rw [Int.toNat_natCast]; show 1 * k ≤ _; omega) ?_
  rw [e]
  exact h
/-- [x] * k -/
theorem PE.mulL {d : PyData} {k : Nat} {lpos : Pos} (ok : C.Ok) (h1 : PE prog w C A env ρ e₁ (· = .d d)) (h2 : PE prog w C A env ρ e₂ (· = BI k)) (hk : k ≤ 2 ^ 24) (hs : starEach [e₁] env = [(false, eval e₁ env)] := by rfl) :
    PE prog w C A env ρ (.BinOp (.List [e₁] lpos) .Mult e₂ pos) (· = BL (List.replicate k d)) := fun s Q E a l v q => by
  refine wpAny_BinOp (PySem.wpAny_List ?_)
  rw [hs]
  refine Calls.spliced_cons (h1 s _ _ a l v fun v₁ b₁ s₁ ev₁ a₁ pp₁ r₁ => Calls.spliced_nil ⟨by show 1 ≤ 2 ^ 24; decide, ?_⟩)
  subst pp₁
  have l₁ := l.ev ev₁
  have kk : ∀ b o, s₁.heap.get? b = some o → (s₁.heap.push { cls := .type "list", data := .seq [v₁].toArray }).get? b = some o := fun b o e => Heap.get?_push_of_some _ e
  have hSH : s₁.heap.objs.size ∉ C.H := size_not_mem l₁ (Nat.le_refl _)
  have hS : (s₁.heap.push { cls := .type "list", data := .seq [v₁].toArray }).get? s₁.heap.objs.size = some { cls := .type "list", dict := none, data := .seq #[v₁], slots := #[] } := Heap.get?_push_size _ rfl
  generalize s₁.heap.objs.size = S at *
  generalize hs2 : ({ s₁ with heap := s₁.heap.push { cls := .type "list", data := .seq [v₁].toArray } } : Shared) = s₂
  have k2 : ∀ b o, s₁.heap.get? b = some o → s₂.heap.get? b = some o := fun b o e => by rw [← hs2]; exact kk b o e
  have ev₂ : Ev C.T C.F s₁ s₂ := Ev.of_keeps k2 (by rw [← hs2]) (by rw [← hs2])
  have hS2 : s₂.heap.get? S = some { cls := .type "list", dict := none, data := .seq #[v₁], slots := #[] } := by rw [← hs2]; exact hS
  have a₂ : C.Am s₂ := a₁.keeps ok k2 (by rw [← hs2]) (by rw [← hs2])
  refine h2 s₂ _ _ a₂ (l₁.ev ev₂) ((v.ev ok ev₁).ev ok ev₂) fun v₃ b₃ s₃ ev₃ a₃ pp₃ r₃ => ?_
  subst pp₃
  obtain ⟨t, rfl⟩ := Rep.int_inv r₃
  have hS3 := ev₃.keep _ _ hS2 fun q => hSH ((List.mem_append.mp q).elim (ok.TH _) (ok.FH _))
  refine mul_one_list hS3 hk ?_
  have r₃' := Bd.holds.ev (b := .d d) (Bd.holds.ev (b := .d d) r₁ ev₂ ok.TH ok.FH) ev₃ ok.TH ok.FH
  exact Kt.newList (C := C) (P := (· = BL (List.replicate k d))) (fun v b s'' e' a'' p' r' => q v b s'' (((ev₁.trans ev₂).trans ev₃).trans e') a'' p' r') a₃ (((l₁.ev ev₂)).ev ev₃) ok rfl (by
    have : ∀ k : Nat, All2 (Rep C.H s₃) (List.replicate k v₁) (List.replicate k d) := fun k => by
      induction k with
      | zero => exact .nil
      | succ k ih => exact .cons r₃' ih
    simpa using this k)
/-- bytes[n:] -/
theorem PE.dropB {lower : Expr} {n : Nat} {p : Pos} {l : List Nat} (ok : C.Ok) (h1 : PE prog w C A env ρ e₁ (isAsc (mkS l))) (hlo : PE prog w C A env ρ lower (· = BI n)) (hz : l.length ≤ sizeLine) (hn : n ≤ l.length)
    (hs : ∀ b t i, subscripted (.Slice (some lower) none none p) false (.bytes b t) (.ref i) = operate [.ref i, .bytes b t] (getItem (.bytes b t) (.ref i)) := by intros; with_unfolding_all rfl)
    (ht : ∀ b t r, letTemporaryGo e₁ (.bytes b t) r = pure () := by intros; with_unfolding_all rfl) :
    PE prog w C A env ρ (.Subscript e₁ (.Slice (some lower) none none p) pos) (isAsc (mkS (l.drop n))) := fun s Q E a lv v q => by
  have hlo' : PPt prog w C A env ρ (some lower) (some (n : Int)) := hlo
  have hno : PPt prog w C A env ρ none none := trivial
  refine Subscript_ (h1 s _ _ a lv v fun v₁ b₁ s₁ ev₁ a₁ p₁ r₁ => wpAny_Slice (hlo'.run ok a₁ (lv.ev ev₁) (v.ev ok ev₁) fun o₁ s₂ ev₂ a₂ hi₁ => hno.run ok a₂ ((lv.ev ev₁).ev ev₂) ((v.ev ok ev₁).ev ok ev₂) fun o₂ s₃ ev₃ a₃ hi₂ => ?_))
  obtain ⟨t, rfl⟩ := p₁
  cases r₁
  rw [evalPart_none]
  refine wpAny_pure ?_
  have hsz : (ascB (mkS l)).size = l.length := by simp [ascB, mkS]
  have hp : KBy.picked (ascB (mkS l)) (some (n : Int)) none = ascB (mkS (l.drop n)) := by
    rw [KBc.picked_eq]
    simp only [Option.elim_some, Option.elim_none, clipAt_nat, hsz, Nat.min_eq_left hn]
    simp [ascB, mkS, List.map_drop]
    exact List.take_of_length_le (by simp)
  refine tail_of_ItemOn ⟨"bytes", _, FB.slot_bytes_getitem.lookup, typeIs_bytes _ _ _, getItem_meets (typeIs_bytes _ _ _) (by decide) FB.slot_bytes_getitem FB.entry_bytes_getitem (FB.args_bytes_getitem_2 _ _) (KBc.meets_slice2 _ t _ (hi₁ ▸ isPart_of o₁) (hi₂ ▸ isPart_of o₂))
    ⟨Heap.IsSliceOf.new _ _ _ _, Nat.le_trans (KBc.size_picked_le _ _ _) (by rw [hsz]; exact hz), fun t' k => ?_⟩⟩ (hs _ _ _) (ht _ _)
  rw [hp]
  have ev₄ : Ev C.T C.F s₃ { s₃ with heap := s₃.heap.push { cls := .type "slice", data := .fields #[partValue o₁, partValue o₂, .none] }, toks := k } := Ev.of_keeps (fun b o e => Heap.get?_push_of_some _ e) rfl rfl
  exact q _ _ _ (((ev₁.trans ev₂).trans ev₃).trans ev₄) (a₃.keeps ok (fun b o e => Heap.get?_push_of_some _ e) rfl rfl) ⟨t', rfl⟩ rfl
/-- walking bytes -/
theorem PI.asc {l : List Nat} (h : PE prog w C A env ρ e (isAsc (mkS l))) (hl : ∀ c ∈ l, c < 128) : PI prog w C A env ρ e (l.map fun (c : Nat) => PyData.int c) := fun s Q E a lv v q =>
  h s Q E a lv v fun u b s' ev a' p r => by
    obtain ⟨t, rfl⟩ := p
    cases r
    have hsz : (ascB (mkS l)).size = l.length := by simp [ascB, mkS]
    refine q _ s' ev a' ⟨[], fun i v => ∃ c u, (ascB (mkS l))[i]? = Option.some c ∧ v = .int (c.toNat : Int) u, ⟨fun b hb => (nomatch hb), fun Q E hq => ?_⟩, fun b hb => (nomatch hb), fun i u hi hu => ?_⟩
    · refine KBw.pyIter_bytes ?_
      refine hq s'.heap.objs.size [s'.heap.objs.size] (fun i h => KBw.IsBytesIter h s'.heap.objs.size (ascB (mkS l)) t i) _ (fun A' hA => ?_) (fun i h st => let ⟨o, e, _⟩ := st; ⟨o, e⟩) (List.mem_singleton.mpr rfl) ⟨_, Heap.get?_push_size _ rfl, rfl, rfl⟩ (fun b hb => .inl (List.mem_singleton.mp hb)) (by rw [Heap.size_push]; exact Nat.lt_succ_self _) (none_of_ge (Nat.le_refl _)) fun b o e => Heap.get?_push_of_some _ e
      have := KBw.walks (prog := prog) (w := w) hA s'.heap.objs.size (ascB (mkS l)) t
      rwa [hsz, show l.length = (l.map fun (c : Nat) => PyData.int c).length by simp] at this
    · obtain ⟨c, t', hc, rfl⟩ := hu
      have hi' : i < l.length := by simpa using hi
      refine ⟨.int (l[i] : Nat), by simp [hi'], ⟨[], ?_⟩⟩
      have hci : c = l[i].toUInt8 := by
        have : (ascB (mkS l))[i]? = Option.some l[i].toUInt8 := by simp [ascB, mkS, hi']
        rw [this] at hc; exact (Option.some.inj hc).symm
      have : (c.toNat : Int) = (l[i] : Nat) := by
        rw [hci, Nat.toUInt8, UInt8.toNat_ofNat']
        have := hl l[i] (List.getElem_mem hi')
        omega
      rw [this]
      exact .int _ _
end
end Mine
end

section
open PySem PySem.W PySem.Calls PyProof.Rows
set_option Elab.async false
set_option linter.unusedVariables false
set_option maxRecDepth 100000
set_option maxHeartbeats 4000000
namespace Mine
theorem nz_set_le : ∀ (ts : List Nat) (j v : Nat), nz (ts.set j v) ≤ nz ts + 1
  | [], _, _ => by simp [nz]
  | t :: ts, 0, v => by
    show List.countP _ (v :: ts) ≤ List.countP _ (t :: ts) + 1
    rw [List.countP_cons, List.countP_cons]
    split <;> split <;> omega
  | t :: ts, j + 1, v => by
    show List.countP _ (t :: ts.set j v) ≤ List.countP _ (t :: ts) + 1
    have := nz_set_le ts j v
    unfold nz at this
    rw [List.countP_cons, List.countP_cons]
    omega
theorem nz_set_pos : ∀ (ts : List Nat) (j v : Nat), j < ts.length → 1 ≤ v → 1 ≤ nz (ts.set j v)
  | [], _, _, h, _ => by simp at h
  | t :: ts, 0, v, _, hv => by
    show 1 ≤ List.countP _ (v :: ts)
    rw [List.countP_cons, if_pos (by simp; omega)]
    omega
  | t :: ts, j + 1, v, h, hv => by
    show 1 ≤ List.countP _ (t :: ts.set j v)
    have := nz_set_pos ts j v (by simpa using h) hv
    unfold nz at this
    rw [List.countP_cons]
    omega
section
variable {prog : Program} {w : World} {C : Cx} {A : Around} {env : Env} {ρ : Rho} {W : List Addr} {P : Bd → Prop} {pos : Pos}
/-- [x] * k, the list a new one -/
theorem run_mulL {e₁ e₂ : Expr} {d : PyData} {k : Nat} {lpos : Pos} (ok : C.Ok) (h1 : PE prog w C A env ρ e₁ (· = .d d)) (h2 : PE prog w C A env ρ e₂ (· = BI k)) (hk : k ≤ 2 ^ 24) (hs : starEach [e₁] env = [(false, eval e₁ env)])
    {s : Shared} {Q E : Value → Shared → Prop} (a : C.Am s) (l : Live C.H s) (v : Vw C env ρ s)
    (q : ∀ S v₁ s', s.heap.get? S = none → S ∉ C.H → Ev C.T C.F s s' → C.Am s' → s'.heap.IsList S (List.replicate k v₁).toArray → Rep C.H s' v₁ d → Q (.ref S) s') :
    wpAny (model prog w) A (eval (.BinOp (.List [e₁] lpos) .Mult e₂ pos) env) Q E s := by
  refine wpAny_BinOp (PySem.wpAny_List ?_)
  rw [hs]
  refine Calls.spliced_cons (h1 s _ _ a l v fun v₁ b₁ s₁ ev₁ a₁ pp₁ r₁ => Calls.spliced_nil ⟨by show 1 ≤ 2 ^ 24; decide, ?_⟩)
  subst pp₁
  have l₁ := l.ev ev₁
  have kk : ∀ b o, s₁.heap.get? b = some o → (s₁.heap.push { cls := .type "list", data := .seq [v₁].toArray }).get? b = some o := fun b o e => Heap.get?_push_of_some _ e
  have hSH : s₁.heap.objs.size ∉ C.H := size_not_mem l₁ (Nat.le_refl _)
  have hS : (s₁.heap.push { cls := .type "list", data := .seq [v₁].toArray }).get? s₁.heap.objs.size = some { cls := .type "list", dict := none, data := .seq #[v₁], slots := #[] } := Heap.get?_push_size _ rfl
  generalize s₁.heap.objs.size = S at *
  generalize hs2 : ({ s₁ with heap := s₁.heap.push { cls := .type "list", data := .seq [v₁].toArray } } : Shared) = s₂
  have k2 : ∀ b o, s₁.heap.get? b = some o → s₂.heap.get? b = some o := fun b o e => by rw [← hs2]; exact kk b o e
  have ev₂ : Ev C.T C.F s₁ s₂ := Ev.of_keeps k2 (by rw [← hs2]) (by rw [← hs2])
  have hS2 : s₂.heap.get? S = some { cls := .type "list", dict := none, data := .seq #[v₁], slots := #[] } := by rw [← hs2]; exact hS
  have a₂ : C.Am s₂ := a₁.keeps ok k2 (by rw [← hs2]) (by rw [← hs2])
  refine h2 s₂ _ _ a₂ (l₁.ev ev₂) ((v.ev ok ev₁).ev ok ev₂) fun v₃ b₃ s₃ ev₃ a₃ pp₃ r₃ => ?_
  subst pp₃
  obtain ⟨t, rfl⟩ := Rep.int_inv r₃
  have hS3 := ev₃.keep _ _ hS2 fun q => hSH ((List.mem_append.mp q).elim (ok.TH _) (ok.FH _))
  refine mul_one_list hS3 hk ?_
  have r₃' := Bd.holds.ev (b := .d d) (Bd.holds.ev (b := .d d) r₁ ev₂ ok.TH ok.FH) ev₃ ok.TH ok.FH
  have ev := (ev₁.trans ev₂).trans ev₃
  have k4 : ∀ b o, s₃.heap.get? b = some o → (s₃.heap.push { cls := .type "list", data := .seq (List.replicate k v₁).toArray }).get? b = some o := fun b o e => Heap.get?_push_of_some _ e
  have ev₄ : Ev C.T C.F s₃ { s₃ with heap := s₃.heap.push { cls := .type "list", data := .seq (List.replicate k v₁).toArray }, toks := s₃.toks } := Ev.of_keeps k4 rfl rfl
  refine q s₃.heap.objs.size v₁ _ ?_ (size_not_mem (l.ev ev) (Nat.le_refl _)) (ev.trans ev₄) (a₃.keeps ok k4 rfl rfl) ⟨_, Heap.get?_push_size _ rfl, rfl, _, rfl⟩ (Rep.keeps r₃' k4)
  cases e : s.heap.get? s₃.heap.objs.size with
  | none => rfl
  | some o =>
    obtain ⟨o', e'⟩ := ev.live _ _ e
    rw [none_of_ge (Nat.le_refl _)] at e'; cases e'

/-- the list of naturals ts lies at S -/
def LstN (S : Addr) (ts : List Nat) (s : Shared) : Prop := ∃ items, s.heap.IsList S items ∧ All2 (fun v (k : Nat) => ∃ t, v = .int (k : Int) t) items.toList ts
theorem all2_set {R : Value → Nat → Prop} {v : Value} {k : Nat} (h : R v k) : ∀ (vs : List Value) (ks : List Nat) (j : Nat), All2 R vs ks → All2 R (vs.set j v) (ks.set j k)
  | _, _, _, .nil => .nil
  | _, _, 0, .cons _ t => .cons h t
  | _, _, j + 1, .cons r t => .cons r (all2_set h _ _ j t)
def TurnY (C : Cx) (S : Addr) (n : Nat) (i : Nat) (s : Shared) : Prop := ∃ ts : List Nat, ts.length = n ∧ (∀ v ∈ ts, v < 32) ∧ nz ts ≤ i ∧ (1 ≤ i → 1 ≤ nz ts) ∧ LstN S ts s ∧ C.X s

/-- a list of noughts, some of them then stored -/
theorem PB.turned {x xk : Str} {px px2 pk lpos bpos spos apos apos2 fpos : Pos} {e0 en iter ei ev : Expr} {rest : List Stmt} {n M : Nat} (ok : C.Ok) (kw : Wok C env W) (hh : A.handled = none) (hk : env.scope.kind = .function) (hx : Owned env W x) (hxk : env.kindOf xk = some .local) (hne : xk ≠ x) (hρk : ρ.lookup xk = none) (hn : n ≤ 1000) (hn1 : 1 ≤ n)
    (h0 : PE prog w C A env ρ e0 (· = BI 0)) (hen : PE prog w C A env ρ en (· = BI n))
    (hiter : ∀ (Cq : Cx) (S : Addr), Cq.Ok → Cq.G = C.G → PIN prog w Cq A env ((x, .r (.ref S)) :: ρ) iter (fun ds => ∃ m, ds = rangeD m ∧ 1 ≤ m ∧ m ≤ M))
    (hei : ∀ (Cq : Cx) (S : Addr) (ρq : Rho) (i : Nat), Cq.Ok → Cq.G = C.G → ρq.lookup xk = some (BI i) → (∀ y b, ρ.lookup y = some b → y ≠ x → ρq.lookup y = some b) → PE prog w Cq A env ρq ei (fun b => ∃ r : Nat, b = BI r ∧ r < n))
    (hev : ∀ (Cq : Cx) (S : Addr) (ρq : Rho) (i : Nat), Cq.Ok → Cq.G = C.G → ρq.lookup xk = some (BI i) → (∀ y b, ρ.lookup y = some b → y ≠ x → ρq.lookup y = some b) → PE prog w Cq A env ρq ev (fun b => ∃ r : Nat, b = BI r ∧ 1 ≤ r ∧ r < 32))
    (hrest : ∀ ts : List Nat, ts.length = n → (∀ v ∈ ts, v < 32) → 1 ≤ nz ts → nz ts ≤ M → PB prog w C A env W ((x, BL (natsD ts)) :: ρ) rest P)
    (hs1 : starEach [e0] env = [(false, eval e0 env)] := by rfl)
    (hsw : swapsWith (.BinOp (.List [e0] lpos) .Mult en bpos) (some (.Name x px)) apos.line env = pure false := by rfl)
    (hsw2 : swapsWith ev (some (.Subscript (.Name x px2) ei spos)) apos2.line env = pure false := by rfl)
    (hfs : ∀ x, foldedSetIterable iter env x = pure x := by intro _; rfl) (hxd : (x == ("__debug__" : Str)) = false := by decide) (hxn : (x == ("__classdict__" : Str)) = false := by decide) :
    PB prog w C A env W ρ (.Assign [.Name x px] (.BinOp (.List [e0] lpos) .Mult en bpos) apos :: .For (.Name xk pk) iter [.Assign [.Subscript (.Name x px2) ei spos] ev apos2] [] fpos :: rest) P := fun s Q E a l f v q => by
  refine wpAny_execs_cons (wpAny_Assign_Name (run_mulL ok h0 hen (by omega) hs1 a l v fun S v₁ s₄ hSn hSH ev₄ a₄ hlS hv₁ => ?_) hsw)
  obtain ⟨t₀, rfl⟩ := Rep.int_inv hv₁
  have hSG : C.G.get? S = none := a.not hSn
  have ok' : (C.inner [S]).Ok := ok.inner fun b hb => by rw [List.mem_singleton.mp hb]; exact hSG
  have kw' : Wok (C.inner [S]) env W := ⟨kw.loc, kw.cell, fun b hb => List.mem_append_right _ (kw.WH b hb), kw.WT, kw.cF, kw.apart, kw.new⟩
  have hSne : ∀ b o, s.heap.get? b = some o → b ≠ S := fun b o e q => by rw [q, hSn] at e; cases e
  have l₄ : Live (C.inner [S]).H s₄ := fun t ht => by
    rcases List.mem_append.mp ht with ht | ht
    · rw [List.mem_singleton.mp ht]; obtain ⟨o, e, _⟩ := hlS; exact ⟨o, e⟩
    · exact l.ev ev₄ t ht
  have f₄ := f.ev' ev₄ kw
  have v₄ : Vw (C.inner [S]) env ρ s₄ := by
    refine ⟨fun y b hy => ?_, v.fs.ev ok ev₄⟩
    obtain ⟨u, hb, hl⟩ := v.look y b hy
    refine ⟨u, hb.mono fun b o e n => ⟨ev₄.keep b o e fun q => n ((List.mem_append.mp q).elim (ok.TH b) (ok.FH b)), fun q => ?_⟩, hl.ev ev₄⟩
    rcases List.mem_append.mp q with q | q
    · exact hSne b o e (List.mem_singleton.mp q)
    · exact n q
  refine store (C := C.inner [S]) (x := x) (b := .r (.ref S)) ok' kw' hk hx a₄.inn l₄ f₄ v₄ rfl fun s₅ ev₅ a₅ l₅ f₅ v₅ => ?_
  have a₅ : C.Am s₅ := a₅.out
  have hSW : ∀ b ∈ W, b ≠ S := fun b hb e => hSH (e ▸ kw.WH b hb)
  have hST : S ∉ (W ++ C.T) ++ C.F := fun q => hSH ((List.mem_append.mp q).elim (kw.sub ok S) (ok.FH S))
  have hlS5 : s₅.heap.IsList S (List.replicate n (Value.int 0 t₀)).toArray := let ⟨o, e, r⟩ := hlS; ⟨o, ev₅.keep _ _ e hST, r⟩
  have hcS : ∀ n c, env.cells.lookup n = some c → c ≠ S := fun n c hc => let ⟨u, o, e, _⟩ := f.cells n c hc; hSne c o e
  have hB5 : ∀ b o, s₅.heap.get? b = some o → b ∉ W → (hideAll s₅.heap W).get? b = some o := fun b o e n => hideAll_get W e n
  have hCB : ∀ b o, C.B.get? b = some o → ∃ o', (hideAll s₅.heap W).get? b = some o' := fun b o e => by
    obtain ⟨o', e'⟩ := a₅.live b o e
    exact ⟨o', hB5 b o' e' fun q => by rw [kw.new b q] at e; cases e⟩
  have htH : ∀ q ∈ C.tabs, q.2 ∈ C.H := fun q hq => ok.TH _ (ok.tT q hq)
  have hStab : S ∉ C.tabs.map (·.2) := fun q => by obtain ⟨z, hz, e⟩ := List.mem_map.mp q; exact hSH (e ▸ htH z hz)
  let C₂ : Cx := { G := C.G, tabs := C.tabs, T := S :: C.T, F := C.F, H := S :: C.H, B := hideAll s₅.heap W, X := fun _ => True }
  have okY : ∀ i, (C₂.at (TurnY C S n i)).Ok := fun i => by
    refine ⟨fun t ht => ?_, fun t ht => List.mem_cons_of_mem _ (ok.FH t ht), fun t ht q => ?_, fun q hq => List.mem_cons_of_mem _ (ok.tT q hq), fun t ht => ?_, fun b o e => ?_, fun q hq => ?_, fun s s' h kk => ?_⟩
    · exact (List.mem_cons.mp ht).elim (fun e => by rw [e]; exact List.mem_cons_self) fun h => List.mem_cons_of_mem _ (ok.TH t h)
    · exact (List.mem_cons.mp q).elim (fun e => hSH (e ▸ ok.FH t ht)) (ok.FT t ht)
    · exact (List.mem_cons.mp ht).elim (fun e => e ▸ hSG) (ok.HG t)
    · exact ⟨o, hB5 b o (a₅.g b o e) fun q => by have := ok.HG b (kw.WH b q); exact nomatch this.symm.trans e⟩
    · obtain ⟨ps, e, _⟩ := a₅.tb q hq
      exact ⟨_, hB5 _ _ e fun q' => kw.WT _ q' (ok.tT q hq)⟩
    · obtain ⟨ts, g1, g2, g3, g4, ⟨items, ⟨o, ho, hr⟩, hal⟩, hX⟩ := h
      obtain ⟨oS, hoS, _⟩ := hlS5
      refine ⟨ts, g1, g2, g3, g4, ⟨items, ⟨o, kk S o oS (hB5 _ _ hoS fun q => hSW _ q rfl) hStab ho, hr⟩, hal⟩, ok.stab s s' hX fun b o o₀ e₀ ht e => ?_⟩
      obtain ⟨o', e'⟩ := hCB b o₀ e₀
      exact kk b o o' e' ht e
  have kw₂ : Wok C₂ env W := by
    refine ⟨kw.loc, fun n c hc q => ?_, fun b hb => List.mem_cons_of_mem _ (kw.WH b hb), fun b hb q => ?_, kw.cF, kw.apart, fun b hb => hideAll_none _ hb⟩
    · exact (List.mem_cons.mp q).elim (hcS n c hc) (kw.cell n c hc)
    · exact (List.mem_cons.mp q).elim (hSW b hb) (kw.WT b hb)
  have toL2 : ∀ {y u s}, Lk (C.inner [S]) env y u s → Lk C₂ env y u s := fun hl => by
    rcases hl with ⟨h1, h2, r⟩ | ⟨c, h1, h2, r⟩
    · exact .inl ⟨h1, fun q => (List.mem_cons.mp q).elim (hSW _ kw.loc) h2, r⟩
    · exact .inr ⟨c, h1, fun q => (List.mem_cons.mp q).elim (hcS _ c (cellK_lookup h1)) h2, r⟩
  have ofL2 : ∀ {y u s}, Lk C₂ env y u s → Lk C env y u s := fun hl => by
    rcases hl with ⟨h1, h2, r⟩ | ⟨c, h1, h2, r⟩
    · exact .inl ⟨h1, fun q => h2 (List.mem_cons_of_mem _ q), r⟩
    · exact .inr ⟨c, h1, fun q => h2 (List.mem_cons_of_mem _ q), r⟩
  have ok₂ : C₂.Ok := ⟨(okY 0).TH, (okY 0).FH, (okY 0).FT, (okY 0).tT, (okY 0).HG, (okY 0).GB, (okY 0).tB, fun _ _ _ _ => trivial⟩
  have v₅' : Vw C₂ env ((x, .r (.ref S)) :: ρ) s₅ := ⟨fun y b hy => let ⟨u, hb, hl⟩ := v₅.look y b hy; ⟨u, hb, toL2 hl⟩, v₅.fs⟩
  have hlist0 : LstN S (List.replicate n 0) s₅ := ⟨_, hlS5, by
    have : ∀ k : Nat, All2 (fun v (k : Nat) => ∃ t, v = Value.int (k : Int) t) (List.replicate k (Value.int 0 t₀)) (List.replicate k 0) := fun k => by
      induction k with
      | zero => exact .nil
      | succ k ih => exact .cons ⟨t₀, rfl⟩ ih
    simpa using this n⟩
  have am5 : (C₂.at (TurnY C S n 0)).Am s₅ := ⟨a₅.g, a₅.tb, fun b o e => ⟨o, (hideAll_inv e).1⟩, List.replicate n 0, by simp, fun v hv => by rw [(List.mem_replicate.mp hv).2]; decide, by simp [nz], fun h => absurd h (by decide), hlist0, a₅.x⟩
  refine wpAny_execs_cons (PT.forX (C := C₂) (Y := TurnY C S n) (DD := fun ds => ∃ m, ds = rangeD m ∧ 1 ≤ m ∧ m ≤ M) (Iv := fun i ρ' => Weak ρ' ((x, .r (.ref S)) :: ρ)) ok₂ okY kw₂ hh hk hxk (hiter _ S (okY 0) rfl) (fun y b h => h) ?turn hfs s₅ _ _ am5 l₅ f₅ v₅' ?fin)
  case turn =>
    rintro I i d ρ' ok₃ hB kw₃ ⟨ds, ⟨m, rfl, _, _⟩, hd⟩ hw s₆ Q' E' a₆ l₆ f₆ v₆ q'
    obtain ⟨_, rfl⟩ := rangeD_get hd
    have hwk : ∀ y b, ρ.lookup y = some b → y ≠ x → List.lookup y ((xk, .d (.int (i : Int))) :: ρ') = some b := fun y b hy hyx => by
      have hyk : (y == xk) = false := by
        cases e : y == xk with
        | false => rfl
        | true => rw [eq_of_beq e, hρk] at hy; cases hy
      rw [List.lookup_cons, hyk]
      exact hw y b (by rw [List.lookup_cons, show (y == x) = false from by simpa using hyx]; exact hy)
    have hlx : List.lookup x ((xk, .d (.int (i : Int))) :: ρ') = some (.r (.ref S)) := by
      rw [List.lookup_cons, show (x == xk) = false from by simpa using Ne.symm hne]
      exact hw x _ (by simp)
    refine wpAny_execs_cons (PySem.wpAny_Assign_Subscript (hev _ S _ i ok₃ rfl (by simp) hwk s₆ _ _ a₆ l₆ v₆ fun u b s₇ ev₇ a₇ p₇ r₇ => ?_) hsw2)
    refine PE.name (b := .r (.ref S)) hlx hk hxd hxn s₇ _ _ a₇ (l₆.ev ev₇) (v₆.ev ok₃ ev₇) fun u₂ b₂ s₈ ev₈ a₈ p₈ r₈ => ?_
    subst p₈; cases r₈
    refine hei _ S _ i ok₃ rfl (by simp) hwk s₈ _ _ a₈ ((l₆.ev ev₇).ev ev₈) ((v₆.ev ok₃ ev₇).ev ok₃ ev₈) fun u₃ b₃ s₉ ev₉ a₉ p₉ r₉ => ?_
    obtain ⟨vv, rfl, hv1, hv2⟩ := p₇
    obtain ⟨tv, rfl⟩ := Rep.int_inv r₇
    obtain ⟨j, rfl, hj⟩ := p₉
    obtain ⟨tj, rfl⟩ := Rep.int_inv r₉
    have hev' := (ev₇.trans ev₈).trans ev₉
    obtain ⟨ts, g1, g2, g3, g4, ⟨items, hli, hal⟩, hX⟩ := a₉.x
    have hsz : items.size = n := by have := hal.length; simp at this; omega
    refine wpAny_setItem_list hli (by omega) (by omega) (by rw [hsz]; omega) fun h' hl' hs' => ?_
    have hlive : ∀ b o, s₉.heap.get? b = some o → ∃ o', h'.get? b = some o' := fun b o e => by
      by_cases hb : b = S
      · subst hb; obtain ⟨o', e', _⟩ := hl'; exact ⟨o', e'⟩
      · exact ⟨o, hs'.extBut b o hb e⟩
    have ev4 : Ev (S :: C.T) C.F s₉ { s₉ with heap := h' } :=
      (Ev.refl _ _ s₉).stepT (fun b o o₀ _ hb e => hs'.extBut b o (fun q => hb (q ▸ .head _)) e) (fun b o o₀ _ e => hlive b o e) rfl rfl
    have ev5 : Ev (S :: C.T) C.F s₆ { s₉ with heap := h' } := Ev.trans hev' ev4
    have hCBS : C.B.get? S = none := a.fresh hSn
    have am : ((C₂.at (TurnY C S n (i + 1))).inner [I]).Am { s₉ with heap := h' } := by
      refine ⟨fun b o e => hs'.extBut b o (fun q => by have e' : C.G.get? b = some o := e; rw [q, hSG] at e'; cases e') (a₉.g b o e), fun z hz => ?_, fun b o e => let ⟨o', e'⟩ := a₉.live b o e; hlive b o' e', ts.set j vv, by simp [g1], fun z hz => ?_, ?_, fun _ => nz_set_pos ts j vv (by omega) hv1, ⟨_, hl', ?_⟩, ?_⟩
      · obtain ⟨ps, e, ht⟩ := a₉.tb z hz
        exact ⟨ps, hs'.extBut _ _ (fun q' => hStab (q' ▸ List.mem_map_of_mem hz)) e, ht⟩
      · exact (List.mem_or_eq_of_mem_set hz).elim (g2 z) fun e => e ▸ hv2
      · have := nz_set_le ts j vv; omega
      · rw [Int.toNat_natCast, Array.setIfInBounds]
        split
        · rw [Array.toList_set]
          exact all2_set ⟨tv, rfl⟩ _ _ j hal
        · omega
      · exact ok.stab s₉ _ hX fun b o o₀ e₀ ht e => hs'.extBut b o (fun q => by rw [q, hCBS] at e₀; cases e₀) e
    have l₉ : Live ((C₂.at (TurnY C S n i)).inner [I]).H { s₉ with heap := h' } := l₆.ev ev5
    refine wpAny_execs_nil (q' ((xk, .d (.int (i : Int))) :: ρ') _ (ev5.mono (fun t ht => List.mem_append_right _ ht) fun t ht => List.mem_append_right _ ht) am ?_ (f₆.ev' (C := (C₂.at (TurnY C S n i)).inner [I]) ev5 kw₃) (v₆.ev ok₃ ev5))
    intro y b hy
    rw [List.lookup_cons] at hy
    cases hyx : y == x with
    | true => rw [hyx] at hy; cases hy; rw [eq_of_beq hyx]; exact hlx
    | false => rw [hyx] at hy; exact hwk y b hy (by simpa using hyx)
  case fin =>
    rintro ρ' s₆ ds ev₆ ⟨m, rfl, hm1, hm3⟩ a₆ hw f₆ v₆
    have hlen : (rangeD m).length = m := by simp [rangeD]
    rw [hlen] at a₆
    obtain ⟨ts, g1, g2, g3, g4, ⟨items, hli, hal⟩, hX⟩ := a₆.x
    have evs : Ev (W ++ (S :: C.T)) C.F s s₆ := ((ev₄.mono (fun t ht => List.mem_append_right _ (List.mem_cons_of_mem _ ht)) fun t ht => List.mem_append_right _ ht).trans (Ev.mono ev₅ (fun t ht => (List.mem_append.mp ht).elim (fun h => List.mem_append_left _ h) fun h => List.mem_append_right _ (List.mem_cons_of_mem _ h)) fun t ht => List.mem_append_right _ ht)).trans ev₆
    have evd : Ev (W ++ C.T) C.F s s₆ := evs.drop (fun t ht => (List.mem_append.mp ht).elim (fun h => .inl (List.mem_append_left _ h)) fun h => (List.mem_cons.mp h).elim (fun e => .inr (e ▸ hSn)) fun h => .inl (List.mem_append_right _ h)) fun t ht => .inl ht
    have aC : C.Am s₆ := ⟨a₆.g, a₆.tb, fun b o e => let ⟨o', e'⟩ := hCB b o e; a₆.live b o' e', hX⟩
    have vC : Vw C env ((x, BL (natsD ts)) :: ρ) s₆ := by
      refine ⟨fun y b hy => ?_, v₆.fs⟩
      rw [List.lookup_cons] at hy
      cases hyx : y == x with
      | true =>
        rw [hyx] at hy
        cases hy
        rw [eq_of_beq hyx]
        obtain ⟨u, hb, hl⟩ := v₆.look x _ (hw x (.r (.ref S)) (by simp))
        cases hb
        refine ⟨_, Rep.list_mk hli hSH ?_, ofL2 hl⟩
        have : ∀ {vs : List Value} {ts : List Nat}, All2 (fun v (k : Nat) => ∃ t, v = Value.int (k : Int) t) vs ts → All2 (Rep C.H s₆) vs (natsD ts) := by
          intro vs ts h
          induction h with
          | nil => exact .nil
          | cons h _ ih => obtain ⟨t, rfl⟩ := h; exact .cons ⟨_, .int _ _⟩ ih
        exact this hal
      | false =>
        rw [hyx] at hy
        obtain ⟨u, hb, hl⟩ := v₆.look y b (hw y b (by rw [List.lookup_cons, hyx]; exact hy))
        exact ⟨u, hb.mono fun b o e n => ⟨e, fun q => n (List.mem_cons_of_mem _ q)⟩, ofL2 hl⟩
    exact hrest ts g1 g2 (g4 hm1) (by omega) s₆ Q E aC (fun t ht => let ⟨o, e⟩ := l t ht; evd.live t o e) f₆ vC fun u b s' ev' a' p r => q u b s' (evd.trans ev') a' p r
end
end Mine
end

section
open PySem PySem.W PySem.Calls PyProof.Rows
set_option Elab.async false
set_option linter.unusedVariables false
set_option maxRecDepth 100000
set_option maxHeartbeats 4000000
namespace Mine
theorem filledL1 (P : Params) (h : Heap) (x : (hd01.heap_39 P).In h) : (hd01.heap_39 P).In h ∧ PySem.Challenge.rw_fc0024_01 = PySem.Challenge.rw_fc0024_01 := by
  k_fill
  exact ⟨x, rfl⟩
section
variable {w : World} {C : Cx} {A : Around} {p : Program} {loose : List Str} {mg mb : Str → Option Value} {is : List Int}
theorem PE.mulLI {prog : Program} {env : Env} {ρ : Rho} {e₁ e₂ : Expr} {pos : Pos} {k : Int} (ok : C.Ok) (hk : Builtin.Int.intBits k ≤ 64) (h1 : PE prog w C A env ρ e₁ (· = BI k)) (h2 : PE prog w C A env ρ e₂ isI) : PE prog w C A env ρ (.BinOp e₁ .Mult e₂ pos) isI :=
  (PE.ints (p₁ := (· = k)) (p₂ := fun _ => True) (f := fun i j => i * j) ok (h1.mono fun b h => ⟨k, h, rfl⟩) (h2.mono fun b ⟨r, h⟩ => ⟨r, h, trivial⟩) fun i j t u s Q E hi _ q => PyProof.Rows.mul_int q (IntMulOk.of_left (hi ▸ hk))).mono fun b ⟨i, j, h, _⟩ => ⟨_, h⟩
theorem PE.mulRI {prog : Program} {env : Env} {ρ : Rho} {e₁ e₂ : Expr} {pos : Pos} {k : Int} (ok : C.Ok) (hk : Builtin.Int.intBits k ≤ 64) (h1 : PE prog w C A env ρ e₁ isI) (h2 : PE prog w C A env ρ e₂ (· = BI k)) : PE prog w C A env ρ (.BinOp e₁ .Mult e₂ pos) isI :=
  (PE.ints (p₁ := fun _ => True) (p₂ := (· = k)) (f := fun i j => i * j) ok (h1.mono fun b ⟨r, h⟩ => ⟨r, h, trivial⟩) (h2.mono fun b h => ⟨k, h, rfl⟩) fun i j t u s Q E _ hj q => PyProof.Rows.mul_int q (IntMulOk.of_right (hj ▸ hk))).mono fun b ⟨i, j, h, _⟩ => ⟨_, h⟩
theorem number_ok {i : Int} (hz : is.length ≤ 1000) (ok : C.Ok) (gl : Gl (hd01.heap_39 w.params) p loose mg mb C.G) (hA : AOk 2 A) :
    COk PG w C A (.ref 134) [BL (is.map .int), BI i] isI := by
  refine' COk.enter 1 ok gl hA ?ho ?hcd (ps := [Str.ofString "script", Str.ofString "place"]) ?hbind ?hps ?hkind ?hco ?hgen ?hk ?h
  case ho => k_is
  case hcd => k_is
  case hbind => intro vs h; match vs, h with | [v, u], _ => rfl
  case hps => decide
  case hkind => intro x hx; simp only [List.mem_cons, List.not_mem_nil, or_false] at hx; rcases hx with rfl | rfl <;> exact .inl rfl
  case hco => rfl
  case hgen => rfl
  case hk => rfl
  case h =>
    intro L ok' wok hA'
    have hs : sizeLine = 2 ^ 24 := rfl
    have hz' : (is.map PyData.int).length ≤ sizeLine := by rw [List.length_map]; omega
    refine' PB.ret (PE.arithI ok' (f := fun i j => i + j) (PE.ifexp (r := !(is.map PyData.int).isEmpty) ok' (PC.value1 ok' (PE.name rfl) (Tru.list ok' hz')) ?t1 ?t2) (PE.mulLI (k := 7) ok' (by decide +kernel) (PE.int ok') ((PE.name rfl).mono fun b h => ⟨_, h⟩)) ?add)
    case add => intro i j t u s Q E q; exact add_int q
    case t1 =>
      intro hne
      have hpos : 0 < is.length := by
        cases is with
        | nil => cases hne
        | cons a r => simp
      refine' PE.mono (PE.itemL (ds := is.map .int) (p := fun _ => True) ok' (PE.name rfl) (PE.mono (PE.modK (m := is.length) hpos ok' ((PE.name rfl).mono fun b h => ⟨_, h⟩) (PE.mono (PE.callB ok' (PE.builtin gl ?g1 rfl) (PEL.one ok' (PE.name rfl)) fun bs h => h ▸ COk.lenL ok' hz') fun b h => by rw [h, List.length_map])) ?m1) hz') ?m2
      case g1 => k_is
      case m1 => rintro b ⟨r, rfl, hr⟩; exact ⟨r, rfl, trivial, by rw [List.length_map]; exact hr⟩
      case m2 =>
        rintro b ⟨k, d, _, hd, rfl⟩
        rw [List.getElem?_map] at hd
        cases e : is[k]? with
        | none => rw [e] at hd; cases hd
        | some z => rw [e] at hd; cases hd; exact ⟨z, rfl⟩
    case t2 => intro _; exact (PE.int ok').mono fun b h => ⟨_, h⟩
end
end Mine
end

section
open PySem PySem.W PySem.Calls PyProof.Rows
set_option Elab.async false
set_option linter.unusedVariables false
set_option maxRecDepth 100000
set_option maxHeartbeats 8000000
namespace Mine
theorem filledL2 (P : Params) (h : Heap) (x : (hd01.heap_39 P).In h) : (hd01.heap_39 P).In h ∧ PySem.Challenge.rw_fc0024_01 = PySem.Challenge.rw_fc0024_01 := by
  k_fill
  exact ⟨x, rfl⟩
theorem PBe.go {prog : Program} {w : World} {C : Cx} {A : Around} {env : Env} {W : List Addr} {ρ : Rho} {body : List Stmt} {Fin : Shared → Prop} {s : Shared} {Q : Flow → Shared → Prop} {E : Value → Shared → Prop} (kw : Wok C env W) (a : C.Am s) (l : Live C.H s) (f : Fm env s) (v : Vw C env ρ s)
    (h : PBe prog w C A env W ρ body Fin) (q : ∀ s', Ev (W ++ C.T) C.F s s' → Fin s' → Q (.ret (.bool true)) s') : wpAny (model prog w) A (execs body env) Q E s := h s Q E a l f v q
theorem forall_lookup {R : Str → Bd → Prop} {l : Rho} (h : ∀ q ∈ l, R q.1 q.2) : ∀ y b, l.lookup y = some b → R y b := fun y b hy => h _ (PySem.mem_of_lookup hy)
theorem ownBut_not {L : Addr} {scope : Scope} {fz : List Str} {n : Str} {c : Addr} (hap : ∀ n n' c, (cellsFrom (L + 1) scope.names []).lookup n = some c → (cellsFrom (L + 1) scope.names []).lookup n' = some c → n = n')
    (hc : (cellsFrom (L + 1) scope.names []).lookup n = some c) (hn : fz.contains n = true) : c ∉ ownBut L scope fz := fun q => by
  rcases List.mem_cons.mp q with q | q
  · rcases cellsFrom_lt _ _ _ _ (PySem.mem_of_lookup hc) with h | h
    · cases h
    · exact Nat.not_succ_le_self _ (q ▸ h)
  · obtain ⟨x, hx, hxc⟩ := List.mem_filterMap.mp q
    have := hap _ _ _ hc hxc
    have h2 := (List.mem_filter.mp hx).2
    rw [← this, hn] at h2
    cases h2
theorem ownBut_ownW {L : Addr} {scope : Scope} {fz : List Str} : ∀ b ∈ ownBut L scope fz, b ∈ ownW L scope := fun b hb => ownBut_nil (L := L) (scope := scope) ▸ ownBut_sub (fz := []) (fun _ _ => rfl) b hb
theorem Gl.keeps {K : Frag} {p : Program} {loose : List Str} {mg mb : Str → Option Value} {G G' : Heap} (x : Gl K p loose mg mb G) (k : ∀ b o, G.get? b = some o → G'.get? b = some o) : Gl K p loose mg mb G' :=
  ⟨fun a o e => k _ _ (x.K a o e), x.T.keeps k, let ⟨bm, ob, a1, a2, a3, r⟩ := x.bm; ⟨bm, ob, a1, a2, k _ _ a3, r⟩⟩
end Mine
end

section
open PySem PySem.W PySem.Calls PyProof.Rows
set_option Elab.async false
set_option linter.unusedVariables false
set_option maxRecDepth 100000
set_option maxHeartbeats 4000000
namespace Mine
def LET : List Nat := [97, 98, 99, 120, 121, 122, 49, 50, 55, 33, 126, 45]
theorem join_mkS (cs : List Nat) : Txt.join (Str.ofString "") (cs.map fun c => mkS [c]) = mkS cs := by
  have := join_nil_signs (mkS cs)
  rw [show signs (mkS cs) = cs.map fun c => mkS [c] from by simp [signs, mkS]] at this
  exact (StrLaws.glued_eq_join _ _).trans this
theorem joinOk_ones (cs : List Nat) (h : cs.length ≤ 1000) : JoinOk (Str.ofString "") (cs.map fun c => mkS [c]) = true := by
  refine joinOk_of ?_
  rw [List.length_map, List.map_map, show (Str.ofString "").length = 0 from by decide, Nat.mul_zero, Nat.add_zero]
  have : ∀ (k : List Nat), (k.map ((fun x : Str => x.length) ∘ fun c => mkS [c])).sum = k.length := by
    intro k
    induction k with
    | nil => rfl
    | cons a k ih => rw [List.map_cons, List.sum_cons, ih, List.length_cons]; show 1 + _ = _; omega
  have hs : sizeLine = 2 ^ 24 := rfl
  rw [this]; omega
theorem hd_let : ∀ c ∈ LET, Hd c := by unfold Hd; decide +kernel
theorem hdOk_let {l : List Nat} (h : ∀ c ∈ l, c ∈ LET) (h0 : l ≠ []) (h4 : l.length ≤ 5) : HdOk l := ⟨fun c hc => hd_let c (h c hc), h0, by omega⟩
theorem let_get : ∀ r : Nat, r < 12 → (seqIndex? (r : Int) (Str.ofString "abcxyz127!~-").length).bind ((Str.ofString "abcxyz127!~-").cps[·]?) = some (LET.getD r 0) := by decide +kernel
theorem let_mem : ∀ r : Nat, r < 12 → LET.getD r 0 ∈ LET := by decide
theorem letS : Str.ofString "abcxyz127!~-" = mkS LET := by decide +kernel
theorem canLay_str {l : List Nat} (h : ∀ c ∈ l, c < 128) : PyData.canLay0 (.str (mkS l)) = true := SeqAt.canLay_of_shaped (shaped_mkS h)
theorem shaped_nats (a : List Nat) : SeqAt.shaped (.list (natsD a)) = true := by
  unfold SeqAt.shaped
  rw [Bool.and_eq_true]
  refine ⟨by rw [PyData.canLay0]; exact canLay_natsD a, ?_⟩
  have := depth_natsD a
  simp only [PyData.depth]; simp; omega
theorem shaped_pair {l : List Nat} (h : ∀ c ∈ l, c < 128) (a : List Nat) : SeqAt.shaped (.tuple [.str (mkS l), .list (natsD a)]) = true := by
  unfold SeqAt.shaped
  rw [Bool.and_eq_true]
  have h1 := canLay_str h
  have h2 := canLay_natsD a
  have := depth_natsD a
  refine ⟨?_, ?_⟩
  · simp only [PyData.canLay0, PyData.canLayAll0, h2, Bool.and_true]
    exact h1
  · simp only [PyData.depth, PyData.depthAll]; simp; omega
theorem eqv_pair {l : List Nat} (h : ∀ c ∈ l, c < 128) (a : List Nat) : PyData.eqv (.tuple [.str (mkS l), .list (natsD a)]) (.tuple [.str (mkS l), .list (natsD a)]) = true := SeqAt.eqv_refl _ (SeqAt.canLay_of_shaped (shaped_pair h a))
theorem eqv_nats (a : List Nat) : PyData.eqv (.list (natsD a)) (.list (natsD a)) = true := SeqAt.eqv_refl _ (SeqAt.canLay_of_shaped (shaped_nats a))
theorem eqv_strs (a b : List Nat) : PyData.eqv (.str (mkS a)) (.str (mkS b)) = (mkS a == mkS b) := by rw [PyData.eqv]
def unN : PyData → List Nat | .list ds => ds.map intD | _ => []
theorem unN_nats (a : List Nat) : unN (.list (natsD a)) = a := by
  show (natsD a).map intD = a
  unfold natsD
  rw [List.map_map]
  have : ∀ a : List Nat, a.map (intD ∘ fun n : Nat => PyData.int n) = a := fun a => by
    have := List.map_congr_left (l := a) (f := intD ∘ fun n : Nat => PyData.int n) (g := id) fun n _ => rfl
    simpa using this
  exact this a
theorem depth_pair (l a : List Nat) : (PyData.tuple [.str (mkS l), .list (natsD a)]).depth ≤ 20 := by
  have := depth_natsD a
  simp only [PyData.depth, PyData.depthAll]; simp; omega
/-- three pairs, three texts, three numbers: things that may be compared -/
theorem shaped_list3 {a b c : PyData} (h1 : SeqAt.shaped a = true) (h2 : SeqAt.shaped b = true) (h3 : SeqAt.shaped c = true) (d1 : a.depth ≤ 20) (d2 : b.depth ≤ 20) (d3 : c.depth ≤ 20) : SeqAt.shaped (.list [a, b, c]) = true := by
  unfold SeqAt.shaped at *
  rw [Bool.and_eq_true] at *
  refine ⟨?_, ?_⟩
  · simp only [PyData.canLay0, PyData.canLayAll0, h1.1, h2.1, h3.1, Bool.and_true]
  · simp only [PyData.depth, PyData.depthAll]; simp; omega
theorem OnF.inner {C : Cx} {W : List Addr} {l : List Env} (x : OnF C l) : OnF (C.inner W) l := x
section
variable {w : World} {C : Cx} {A : Around} {env : Env} {ρ : Rho}
theorem drx {x : Str} {px pos : Pos} {e : Expr} {f c' : Addr} {name qual : Str} {params : Arguments} {body : List Stmt} {scope : Scope} {clos : List (Str × Addr)} (ok : C.Ok) (hf : FnG C.G f c' name qual params body scope clos) (hd : ∀ i, COk PG w C A (.ref f) [BI i] isI)
    (hx : PE PG w C A env ρ (.Name x px) (· = .r (.ref f))) (he : PE PG w C A env ρ e isI) (hsh : ∃ y r, backTo pos (starEach [e] env) = (false, y) :: r := by exact ⟨_, _, rfl⟩) (hone : starEach [e] env = [(false, eval e env)] := by rfl) :
    PE PG w C A env ρ (.Call (.Name x px) [e] [] pos) isI :=
  PE.callC (PL := fun bs => ∃ i : Int, bs = [BI i]) ok hf hx (fun pos s Q E a l v q => PEL.cons ok he PEL.nil hone pos s Q E a l v fun vs bs s' ev a' p r => q vs bs s' ev a' (by obtain ⟨b', r', h1, ⟨i, h2⟩, h3⟩ := p; exact ⟨i, by rw [h1, h2, h3]⟩) r) (fun bs ⟨i, h⟩ => h ▸ hd i) hsh
theorem PE.intI {i : Int} {k : Nat} {pos : Pos} (ok : C.Ok) : PE PG w C A env ρ (.Constant (.int i) k pos) isI := (PE.int ok).mono fun b h => ⟨_, h⟩
theorem PE.join1 {x : Str} {ys : List Str} {e e₂ : Expr} {pos apos : Pos} {prog : Program} (ok : C.Ok) (h : PE prog w C A env ρ e (· = BS x)) (h2 : PE prog w C A env ρ e₂ (· = BL (ys.map .str))) (hj : JoinOk x ys = true) (hbase : attributeBase e "join" env (eval e env) = eval e env := by rfl) (hs : starEach [e₂] env = [(false, eval e₂ env)] := by rfl) (hline : (apos.endLine == pos.line) = true := by rfl) :
    PE prog w C A env ρ (.Call (.Attribute e "join" apos) [e₂] [] pos) (· = BS (Txt.join x ys)) :=
  (PE.join (p := (· = ys)) ok h (h2.mono fun b h => ⟨ys, h, rfl, hj⟩) hbase hs hline).mono fun b ⟨ys', h1, h2⟩ => by rw [h2, h1]
theorem PBe.cons1 {st : Stmt} {rest : List Stmt} {W : List Addr} {ρ' : Rho} {Fin : Shared → Prop} {prog : Program} (h1 : PT prog w C A env W ρ st (· = ρ')) (h2 : PBe prog w C A env W ρ' rest Fin) : PBe prog w C A env W ρ (st :: rest) Fin := PBe.cons h1 fun _ h => h ▸ h2
end
end Mine
end

section
open PySem PySem.W PySem.Calls PyProof.Rows
set_option Elab.async false
set_option linter.unusedVariables false
set_option maxRecDepth 100000
namespace Mine
theorem far2_15 : far 2 15 (unit5.map (pw 1)) unit5 = true := by decide +kernel
theorem far1_26 : far 1 26 (unit5.map (pw 1)) unit5 = true := by decide +kernel
theorem p_farG {t n : Nat} (hf : far t n (unit5.map (pw 1)) unit5 = true) {x y : List Nat} {c : Nat} (hx : ∀ v ∈ x, v < 32) (hy : ∀ v ∈ y, v < 32) (hl : y.length = x.length) (hz : x.length ≤ n + 1) (h1 : 1 ≤ dif x y) (h2 : dif x y ≤ t + 1) (hc : c < 2 ^ 30) :
    x.foldl pstep c ≠ y.foldl pstep c := fun he => by
  have := fold_xor x y c c hl.symm hc hc hx hy
  rw [he, Nat.xor_self, Nat.xor_self] at this
  have h3 := fold_val (zx x y).reverse
  rw [List.reverse_reverse, this] at h3
  refine val_far hf (zx x y).reverse (by rw [List.length_reverse, zx_length hl]; exact hz) (fun v hv2 => zx_lt hx hy v (List.mem_reverse.mp hv2)) ?_ ?_ h3.symm
  · rw [show nz (zx x y).reverse = nz (zx x y) from by unfold nz; rw [List.countP_reverse], dif_nz x y hl.symm]; exact h1
  · rw [show nz (zx x y).reverse = nz (zx x y) from by unfold nz; rw [List.countP_reverse], dif_nz x y hl.symm]; exact h2
/-- one to three signs turned -/
theorem p_turn {h vs ts : List Nat} {m : Nat} (hh : ∀ v ∈ h, v < 32) (hv : ∀ v ∈ vs, v < 32) (ht : ∀ v ∈ ts, v < 32) (hl : ts.length = vs.length) (hz : vs.length ≤ 16) (h1 : 1 ≤ nz ts) (h3 : nz ts ≤ 3) (hm : pmod (h ++ vs) = m) : pmod (h ++ zx vs ts) ≠ m := fun hm' => by
  have e : ∀ r, pmod (h ++ r) = r.foldl pstep (pmod h) := fun r => by unfold pmod; rw [List.foldl_append]
  have hzz : zx vs (zx vs ts) = ts := by
    have : ∀ (vs ts : List Nat), ts.length = vs.length → zx vs (zx vs ts) = ts := by
      intro vs
      induction vs with
      | nil => intro ts h; cases ts with | nil => rfl | cons => simp at h
      | cons v vs ih =>
        intro ts h
        cases ts with
        | nil => simp at h
        | cons t ts =>
          have := ih ts (by simpa using h)
          show (v ^^^ (v ^^^ t)) :: zx vs (zx vs ts) = t :: ts
          rw [this, ← Nat.xor_assoc, Nat.xor_self, Nat.zero_xor]
    exact this vs ts hl
  have hzl : (zx vs ts).length = vs.length := zx_length hl
  have hd : dif vs (zx vs ts) = nz ts := by rw [← dif_nz vs (zx vs ts) hzl.symm, hzz]
  refine p_farG far2_15 (x := vs) (y := zx vs ts) hv (zx_lt hv ht) hzl hz (by omega) (by omega) (pmod_lt hh) ?_
  rw [← e, ← e, hm, hm']
theorem dif_append : ∀ (a b c d : List Nat), a.length = b.length → dif (a ++ c) (b ++ d) = dif a b + dif c d
  | [], [], c, d, _ => by show _ = 0 + _; rw [Nat.zero_add]; rfl
  | x :: a, y :: b, c, d, h => by
    show (if x = y then 0 else 1) + dif (a ++ c) (b ++ d) = (if x = y then 0 else 1) + dif a b + dif c d
    rw [dif_append a b c d (by simpa using h), Nat.add_assoc]
  | [], _ :: _, _, _, h => by simp at h
  | _ :: _, [], _, _, h => by simp at h
theorem split_eq : ∀ a : Nat, a < 128 → ∀ b : Nat, b < 128 → a >>> 5 = b >>> 5 → a &&& 31 = b &&& 31 → a = b := by
  intro a ha b hb h1 h2
  rw [Nat.shiftRight_eq_div_pow, Nat.shiftRight_eq_div_pow] at h1
  rw [show (31 : Nat) = 2 ^ 5 - 1 from rfl, Nat.and_two_pow_sub_one_eq_mod, Nat.and_two_pow_sub_one_eq_mod] at h2
  omega
/-- another sign in the head -/
theorem p_head {l vs : List Nat} {m r c : Nat} (hl : ∀ x ∈ l, x < 128) (hc : c < 128) (hv : ∀ v ∈ vs, v < 32) (hr : r < l.length) (hne : l.getD r 0 ≠ c) (hz : 2 * l.length + 1 + vs.length ≤ 27) (hm : pmod (hexp l ++ vs) = m) : pmod (hexp (l.set r c) ++ vs) ≠ m := fun hm' => by
  have hl' : ∀ x ∈ l.set r c, x < 128 := fun x hx => (List.mem_or_eq_of_mem_set hx).elim (hl x) fun e => e ▸ hc
  have h1 : ∀ v ∈ hexp l, v < 32 := hexp_lt fun x hx => by have := hl x hx; omega
  have h2 : ∀ v ∈ hexp (l.set r c), v < 32 := hexp_lt fun x hx => by have := hl' x hx; omega
  have hll : ∀ k : List Nat, (hexp k).length = 2 * k.length + 1 := fun k => by unfold hexp; simp; omega
  have hlen : (hexp (l.set r c)).length = (hexp l).length := by rw [hll, hll, List.length_set]
  have hd : dif (hexp l ++ vs) (hexp (l.set r c) ++ vs) = dif (l.map (· >>> 5)) ((l.map (· >>> 5)).set r (c >>> 5)) + dif (l.map (· &&& 31)) ((l.map (· &&& 31)).set r (c &&& 31)) := by
    rw [dif_append _ _ _ _ hlen.symm, dif_self]
    unfold hexp
    rw [dif_append _ _ _ _ (by simp), dif_append _ _ _ _ (by simp), dif_self, List.map_set, List.map_set]
    omega
  have u1 := dif_set_le (l.map (· >>> 5)) (l.map (· >>> 5)) r (c >>> 5)
  have u2 := dif_set_le (l.map (· &&& 31)) (l.map (· &&& 31)) r (c &&& 31)
  rw [dif_self] at u1 u2
  have hg : ∀ f : Nat → Nat, (l.map f).getD r 0 = f (l.getD r 0) := fun f => by
    rw [List.getD_eq_getElem?_getD, List.getD_eq_getElem?_getD, List.getElem?_map, List.getElem?_eq_getElem hr]; rfl
  have hgl : l.getD r 0 < 128 := by
    rw [List.getD_eq_getElem?_getD, List.getElem?_eq_getElem hr]; exact hl _ (List.getElem_mem hr)
  have low : 1 ≤ dif (hexp l ++ vs) (hexp (l.set r c) ++ vs) := by
    rw [hd]
    by_cases e : l.getD r 0 >>> 5 = c >>> 5
    · have e2 : l.getD r 0 &&& 31 ≠ c &&& 31 := fun q => hne (split_eq _ hgl _ hc e q)
      have := dif_set_pos (l.map (· &&& 31)) (l.map (· &&& 31)) r (c &&& 31) rfl (by simpa using hr) (by rw [hg (· &&& 31)]; exact e2)
      omega
    · have := dif_set_pos (l.map (· >>> 5)) (l.map (· >>> 5)) r (c >>> 5) rfl (by simpa using hr) (by rw [hg (· >>> 5)]; exact e)
      omega
  refine p_farG far1_26 (x := hexp l ++ vs) (y := hexp (l.set r c) ++ vs) (c := 1) (fun v hv2 => (List.mem_append.mp hv2).elim (h1 v) (hv v)) (fun v hv2 => (List.mem_append.mp hv2).elim (h2 v) (hv v)) (by rw [List.length_append, List.length_append, hlen]) (by rw [List.length_append, hll]; omega) low (by omega) (by decide) ?_
  show pmod (hexp l ++ vs) = pmod (hexp (l.set r c) ++ vs)
  rw [hm, hm']
theorem xor3_append {a b c a' b' c' : List Nat} (h1 : b.length = a.length) (h2 : c.length = a.length) (h3 : b'.length = a'.length) (h4 : c'.length = a'.length) : xor3 (a ++ a') (b ++ b') (c ++ c') = xor3 a b c ++ xor3 a' b' c' := by
  rw [xor3_zx (by simp [h1, h3]) (by simp [h2, h4]), xor3_zx h1 h2, xor3_zx h3 h4, zx_append h1.symm, zx_append (by rw [zx_length h1, h2])]
theorem xor3_lt {a b c : List Nat} (ha : ∀ v ∈ a, v < 32) (hb : ∀ v ∈ b, v < 32) (hc : ∀ v ∈ c, v < 32) : ∀ v ∈ xor3 a b c, v < 32 := by
  have g : ∀ (l : List Nat) (k : Nat), (∀ v ∈ l, v < 32) → l.getD k 0 < 2 ^ 5 := fun l k h => by
    rw [List.getD_eq_getElem?_getD]
    cases e : l[k]? with
    | none => decide
    | some v => exact h v (List.mem_of_getElem? e)
  intro v hv
  obtain ⟨k, _, rfl⟩ := List.mem_map.mp hv
  exact Nat.xor_lt_two_pow (Nat.xor_lt_two_pow (g a k ha) (g b k hb)) (g c k hc)
theorem zip_es {x ts : List Nat} {es : List PyData} (hl : ts.length = x.length) (h1 : es.length = x.length) (h : ∀ (k : Nat) (d : PyData), es[k]? = some d → ∃ u t : Nat, x[k]? = some u ∧ ts[k]? = some t ∧ d = .int ((u ^^^ t : Nat) : Int)) : es = natsD (zx x ts) := by
  refine List.ext_getElem? fun k => ?_
  unfold natsD
  rw [List.getElem?_map]
  cases e : es[k]? with
  | none =>
    have : x.length ≤ k := by have := List.getElem?_eq_none_iff.mp e; omega
    rw [List.getElem?_eq_none (by rw [zx_length hl]; exact this)]
    rfl
  | some d =>
    obtain ⟨u, t, hu, ht, rfl⟩ := h k d e
    unfold zx
    rw [List.getElem?_zipWith, hu, ht]
    rfl
section
variable {w : World} {C : Cx} {A : Around} {env : Env} {ρ : Rho} {prog : Program} {e₁ e₂ : Expr} {pos : Pos}
theorem PE.catN {p : List Nat → Prop} {y : List Nat} (ok : C.Ok) (h1 : PE prog w C A env ρ e₁ (fun b => ∃ x, p x ∧ b = BS (mkS x))) (h2 : PE prog w C A env ρ e₂ (· = BS (mkS y))) (hz : ∀ x, p x → x.length + y.length ≤ 2 ^ 24) :
    PE prog w C A env ρ (.BinOp e₁ .Add e₂ pos) (fun b => ∃ x, p x ∧ b = BS (mkS (x ++ y))) := by
  refine PE.bin ok h1 h2 fun b₁ b₂ v₁ v₂ s Q E p₁ p₂ a l r₁ r₂ k => ?_
  obtain ⟨x, px, rfl⟩ := p₁
  subst p₂
  obtain ⟨t, rfl⟩ := Rep.str_inv r₁
  obtain ⟨u, rfl⟩ := Rep.str_inv r₂
  exact PyProof.Rows.add_str (fun t' tk => Kt.str k a ok ⟨x, px, by rw [mkS_append]⟩) (by rw [length_mkS, length_mkS]; exact hz x px)
theorem PE.catN' {p : List Nat → Prop} {y : List Nat} (ok : C.Ok) (h1 : PE prog w C A env ρ e₁ (· = BS (mkS y))) (h2 : PE prog w C A env ρ e₂ (fun b => ∃ x, p x ∧ b = BS (mkS x))) (hz : ∀ x, p x → y.length + x.length ≤ 2 ^ 24) :
    PE prog w C A env ρ (.BinOp e₁ .Add e₂ pos) (fun b => ∃ x, p x ∧ b = BS (mkS (y ++ x))) := by
  refine PE.bin ok h1 h2 fun b₁ b₂ v₁ v₂ s Q E p₁ p₂ a l r₁ r₂ k => ?_
  obtain ⟨x, px, rfl⟩ := p₂
  subst p₁
  obtain ⟨t, rfl⟩ := Rep.str_inv r₁
  obtain ⟨u, rfl⟩ := Rep.str_inv r₂
  exact PyProof.Rows.add_str (fun t' tk => Kt.str k a ok ⟨x, px, by rw [mkS_append]⟩) (by rw [length_mkS, length_mkS]; exact hz x px)
/-- k less a number that is not known -/
theorem PE.subN {i : Int} {p : Nat → Prop} (ok : C.Ok) (h1 : PE prog w C A env ρ e₁ (· = BI i)) (h2 : PE prog w C A env ρ e₂ (fun b => ∃ r : Nat, b = BI r ∧ p r)) :
    PE prog w C A env ρ (.BinOp e₁ .Sub e₂ pos) (fun b => ∃ r : Nat, b = BI (i - r) ∧ p r) :=
  (PE.ints (p₁ := (· = i)) (p₂ := fun j => ∃ r : Nat, j = r ∧ p r) (f := fun i j => i - j) ok (h1.mono fun b h => ⟨i, h, rfl⟩) (h2.mono fun b ⟨r, h, hp⟩ => ⟨r, h, r, rfl, hp⟩) fun i j t u s Q E _ _ q => PyProof.Rows.sub_int q).mono
    fun b ⟨i', j, h, h1, r, h2, hp⟩ => ⟨r, by rw [h, h1, h2], hp⟩
end
theorem refusedS : SeqAt.shaped (.str (Str.ofString "refused")) = true := by decide +kernel
theorem refused3 : SeqAt.shaped (.list [.str (Str.ofString "refused"), .str (Str.ofString "refused"), .str (Str.ofString "refused")]) = true := by decide +kernel
theorem eqv_self {x : PyData} (h : SeqAt.shaped x = true) : PyData.eqv x x = true := SeqAt.eqv_refl _ (SeqAt.canLay_of_shaped h)
theorem set_cut {l : List Nat} {r c : Nat} (h : r < l.length) : l.take r ++ [c] ++ l.drop (r + 1) = l.set r c := by
  rw [List.set_eq_take_append_cons_drop, if_pos h]
  simp
theorem index_let : ∀ i : Nat, i < 12 → Builtin.Str.occurrences (mkS LET) (mkS [LET.getD i 0]) 0 (mkS LET).length 1 = [i] := by decide +kernel
theorem let_idx : ∀ i : Nat, i < 12 → ∀ q : Nat, q < 9 → (seqIndex? ((i : Int) - 1 - (q : Int)) (Str.ofString "abcxyz127!~-").length).bind ((Str.ofString "abcxyz127!~-").cps[·]?) = some (LET.getD ((i + 11 - q) % 12) 0) := by decide +kernel
theorem let_ne : ∀ i : Nat, i < 12 → ∀ q : Nat, q < 9 → LET.getD i 0 ≠ LET.getD ((i + 11 - q) % 12) 0 := by decide +kernel
theorem let_of : ∀ c ∈ LET, ∃ i : Nat, i < 12 ∧ c = LET.getD i 0 := by decide +kernel
theorem pub1 : mkS (txt [97] [10, 28, 25, 31, 20, 31]) = Str.ofString "a12uel5l" := by decide +kernel
theorem pub2 : mkS (txt [97] [31, 0, 9, 19, 17, 29]) = Str.ofString "a1lqfn3a" := by decide +kernel
theorem pub1p : pmod (hexp [97] ++ [10, 28, 25, 31, 20, 31]) = 1 := by decide +kernel
theorem pub2p : pmod (hexp [97] ++ [31, 0, 9, 19, 17, 29]) = 734539939 := by decide +kernel
theorem kl_a : HdOk [97] := hdOk_let (by decide) (by decide) (by decide)
theorem kv1 : VsOk [10, 28, 25, 31, 20, 31] := ⟨by decide, by decide, by decide⟩
theorem kv2 : VsOk [31, 0, 9, 19, 17, 29] := ⟨by decide, by decide, by decide⟩
end Mine
end

section
open PySem PySem.W PySem.Calls PyProof.Rows
set_option Elab.async false
set_option linter.unusedVariables false
set_option maxRecDepth 100000
set_option maxHeartbeats 8000000
namespace Mine
theorem filledM1 (P : Params) (h : Heap) (x : (hd01.heap_39 P).In h) : (hd01.heap_39 P).In h ∧ PySem.Challenge.rw_fc0024_01 = PySem.Challenge.rw_fc0024_01 := by
  k_fill
  exact ⟨x, rfl⟩
section
variable {w : World} {C : Cx} {A : Around} {p : Program} {loose : List Str} {mg mb : Str → Option Value} {is : List Int}
theorem law01 (ok : C.Ok) (gl : Gl (hd01.heap_39 w.params) p loose mg mb C.G) (hA : AOk 20 A) (hfr : A.frames = some []) (hX : C.X = fun s => s.heap.get? 136 = some (tabObj #[])) (hPT : (136 : Addr) ∈ C.T) (hPt : (136 : Addr) ∉ C.tabs.map (·.2))
    (hct : ((74, 70) : Addr × Addr) ∈ C.tabs) (hcd : CodeHd C.G 74 70) (hct2 : ((126, 122) : Addr × Addr) ∈ C.tabs) (hcd2 : CodeHd C.G 126 122) (hcdL : CodeHd C.G 138 136) (hz : is.length ≤ 63)
    {s : Shared} {Q E : Value → Shared → Prop} {la : Value} (a : C.Am s) (l : Live C.H s) (fs : Fs C s) (hv : Rep C.H s la (.list (is.map .int)))
    (q : ∀ s', Ev C.T C.F s s' → Tabs C.tabs s'.heap → (∃ ps, s'.heap.get? 136 = some (tabObj ps)) → Q (.bool true) s') : wpAny (model PG w) A (call (.ref 139) [la]) Q E s := by
  refine' enter_core (ps := [Str.ofString "script"]) (bs := [BL (is.map .int)]) 19 ok gl hA ?ho ?hcd ?hbind ?hps ?hkind ?hco ?hgen ?hk a l fs (.cons hv .nil) ?h
  case ho => k_is
  case hcd => k_is
  case hbind => exact fun s vs _ hl => BindsTo.of_eq (by match vs, hl with | [v], _ => rfl)
  case hps => decide
  case hkind => intro x hx; rw [List.mem_singleton.mp hx]; exact .inr ⟨rfl, fun _ => rfl⟩
  case hco => rfl
  case hgen => rfl
  case hk => rfl
  case h =>
    intro L s₁ ok₀ kw₀ hA' a₁ l₁ f₁ v₁ kk hos hg hfr'
    have hs : sizeLine = 2 ^ 24 := rfl
    have hap := kw₀.apart
    refine PBe.go (Fin := fun s' => Tabs C.tabs s'.heap ∧ ∃ ps, s'.heap.get? 136 = some (tabObj ps)) kw₀ a₁ l₁ f₁ v₁ ?main fun s' ev hfin => ?fin
    case fin =>
      have hev : Ev C.T C.F s s' := ((Ev.of_keeps (F := C.F) kk hos hg).trans ev).drop (fun t ht => (List.mem_append.mp ht).elim (fun h => .inr (hfr' t h)) .inl) fun t ht => .inl ht
      exact q s' hev hfin.1 hfin.2
    case main =>
      refine' PBe.defn (ps := #[]) (c := 138) (Pt := 136) (W' := ownBut L _ [Str.ofString "script"]) (fz := [(Str.ofString "script", BL (is.map .int))]) ok₀ kw₀ gl rfl hX hPT hPt hcdL rfl rfl trivial rfl rfl rfl rfl rfl rfl (owned_ownW rfl rfl rfl) ?cc ?fz ?cz ownBut_ownW (.head _) ?rest
      case cc =>
        intro q hq
        rw [List.mem_singleton.mp hq]
        exact ⟨rfl, ownBut_not (n := Str.ofString "script") hap rfl (by decide), (by decide : Str.ofString "script" ≠ Str.ofString "draw")⟩
      case fz => exact forall_lookup fun q hq => by rw [List.mem_singleton.mp hq]; exact ⟨(by decide : Str.ofString "script" ≠ Str.ofString "draw"), rfl, _, rfl⟩
      case cz => intro q hq; rw [List.mem_singleton.mp hq]; exact ⟨_, rfl⟩
      case rest =>
        intro C₁ fd cd ok₁ kw₁ hGG₁ ht₁ hT₁ hF₁ hX₁ hfd hcl₁
        have gl₁ := gl.keeps hGG₁
        have dr : ∀ (Cq : Cx) (Aq : Around) (i : Int), Cq.Ok → (∀ b o, C₁.G.get? b = some o → Cq.G.get? b = some o) → AOk 3 Aq → COk PG w Cq Aq (.ref fd) [BI i] isI := by
          intro Cq Aq i okq hGq hAq
          have hfq := hfd.keeps hGq
          have hcq := hcl₁.keeps hGq
          have glq := gl₁.keeps hGq
          refine' COk.enterC (ps := [Str.ofString "place"]) 2 okq glq hAq hfq hcq ?b1 ?b2 ?b3 ?b4 ?b5 ?b6 ?b7 ?b8 ?b9
          case b1 => intro doc pm ctv vs h; match vs, h with | [v], _ => rfl
          case b2 => decide
          case b3 => intro x hx; rw [List.mem_singleton.mp hx]; rfl
          case b4 => exact forall_lookup fun q hq => by rw [List.mem_singleton.mp hq]; rfl
          case b5 => decide
          case b6 => rfl
          case b7 => rfl
          case b8 => rfl
          case b9 =>
            intro L' ok' wok' hA''
            refine' PB.ret (PE.callF ok' glq ?g1 ?g2 ?g3 (PEL.cons1 ok' (PE.name rfl) (PEL.one ok' (PE.name rfl))) fun bs h => h ▸ number_ok (by omega) ok' glq hA'')
            case g1 => k_is
            case g2 => k_is
            case g3 => rfl
        have hA3 : AOk 3 (A.deeper _) := hA'.mono (by decide)
        refine PBe.cons1 (ρ' := [(Str.ofString "letters", BS (Str.ofString "abcxyz127!~-")), (Str.ofString "draw", .r (.ref fd)), (Str.ofString "script", BL (is.map .int))]) (PT.assign1 ok₁ kw₁ (PE.str ok₁)) ?_
        -- head
        refine PBe.cons (R := fun ρ' => ∃ l : List Nat, (∀ c ∈ l, c ∈ LET) ∧ l ≠ [] ∧ l.length ≤ 5 ∧ ρ' = [(Str.ofString "head", BS (mkS l)), (Str.ofString "letters", BS (Str.ofString "abcxyz127!~-")), (Str.ofString "draw", .r (.ref fd)), (Str.ofString "script", BL (is.map .int))]) (PT.mono (PT.assign ok₁ kw₁ (PE.join (x := Str.ofString "") (p := fun ys => ∃ l : List Nat, ys = l.map (fun c => mkS [c]) ∧ (∀ c ∈ l, c ∈ LET) ∧ l ≠ [] ∧ l.length ≤ 5) ok₁ (PE.str ok₁)
          (PE.mono (PE.compN (ρ' := [(Str.ofString "letters", BS (Str.ofString "abcxyz127!~-")), (Str.ofString "draw", .r (.ref fd))]) (Pe := fun _ d => ∃ c, c ∈ LET ∧ d = .str (mkS [c])) ok₁ hA'.1 (PIN.range (pn := fun n => 1 ≤ n ∧ n ≤ 5) ok₁ gl₁ ?gr (PE.mono (PE.addN (i := 1) (p := fun r => r < 5) ok₁ (PE.int ok₁) (PE.modK (m := 5) (by decide) ok₁ (drx ok₁ hfd (fun i => dr _ _ i ok₁ (fun _ _ e => e) hA3) (PE.name rfl) (PE.intI ok₁)) (PE.int ok₁))) ?m1)) ?z1 rfl (by decide) rfl (by decide) rfl (fun _ => Sub.cons rfl (.inl rfl) rfl (Sub.cons rfl (.inl rfl) rfl Sub.nil)) ?elt) ?m2))) ?m3) ?rest1
        case gr => k_is
        case m1 => rintro b ⟨r, rfl, hr⟩; exact ⟨1 + r, rfl, by omega, by omega⟩
        case z1 => rintro ds ⟨n, rfl, hn⟩; simp [rangeD]; omega
        case elt =>
          intro I D Cc i d ok₂ hB hd
          refine (PE.itemS (x := Str.ofString "abcxyz127!~-") (p := fun i => ∃ r : Nat, i = r ∧ r < 12) ok₂ (PE.name rfl) (PE.mono (PE.modK (m := 12) (by decide) ok₂ (drx ok₂ hfd (fun i => dr _ _ i ok₂ (fun _ _ e => e) hA3) (PE.name rfl) (PE.mono (PE.name rfl) ?mk)) (PE.int ok₂)) ?_)).mono ?_
          case mk => rintro b rfl; obtain ⟨ds, ⟨n, rfl, _⟩, hd⟩ := hd; obtain ⟨_, rfl⟩ := rangeD_get hd; exact ⟨_, rfl⟩
          · rintro b ⟨r, rfl, hr⟩
            exact ⟨r, rfl, ⟨r, rfl, hr⟩, by omega, by omega, _, let_get r hr⟩
          · rintro b ⟨i, c, ⟨r, rfl, hr⟩, hc, rfl⟩
            rw [let_get r hr] at hc
            cases hc
            exact ⟨.str (mkS [LET.getD r 0]), rfl, LET.getD r 0, let_mem r hr, rfl⟩
        case m2 =>
          rintro b ⟨ds, es, ⟨n, rfl, hn⟩, rfl, hl, he⟩
          have hlen : es.length = n := by rw [hl]; simp [rangeD]
          obtain ⟨l, rfl, h2, h3⟩ := pick (Q := fun c : Nat => c ∈ LET) (f := fun c : Nat => PyData.str (mkS [c])) es he
          have h4 : l.length = n := by omega
          exact ⟨l.map (fun c => mkS [c]), by rw [List.map_map]; rfl, ⟨l, rfl, h2, fun e => by rw [e] at h4; simp at h4; omega, by omega⟩, joinOk_ones l (by omega)⟩
        case m3 =>
          rintro ρ' ⟨b, ⟨ys, ⟨l, rfl, h2, h3, h4⟩, rfl⟩, rfl⟩
          exact ⟨l, h2, h3, h4, by rw [join_mkS]⟩
        rintro ρ' ⟨l, hlP, hl0, hl5, rfl⟩
        -- many, check
        refine PBe.cons (R := fun ρ' => ∃ n m : Nat, (1 ≤ n ∧ n ≤ 10) ∧ (m = 1 ∨ m = 734539939) ∧ ρ' = [(Str.ofString "check", BI m), (Str.ofString "many", BI n), (Str.ofString "head", BS (mkS l)), (Str.ofString "letters", BS (Str.ofString "abcxyz127!~-")), (Str.ofString "draw", .r (.ref fd)), (Str.ofString "script", BL (is.map .int))]) ?mc ?rest2
        case mc =>
          refine' PT.mono (PT.assignTupN (xs := [(Str.ofString "many", _), (Str.ofString "check", _)]) (R := fun ds => ∃ n m : Nat, (1 ≤ n ∧ n ≤ 10) ∧ (m = 1 ∨ m = 734539939) ∧ ds = [.int n, .int m]) ok₁ kw₁ hA'.1 (PE.mono (PE.tup2N (p₁ := fun d => ∃ n : Nat, (1 ≤ n ∧ n ≤ 10) ∧ d = .int n) (p₂ := fun d => ∃ m : Nat, (m = 1 ∨ m = 734539939) ∧ d = .int m) ok₁
            (PE.mono (PE.addN (i := 1) (p := fun r => r < 10) ok₁ (PE.int ok₁) (PE.modK (m := 10) (by decide) ok₁ (drx ok₁ hfd (fun i => dr _ _ i ok₁ (fun _ _ e => e) hA3) (PE.name rfl) (PE.intI ok₁)) (PE.int ok₁))) ?m1)
            (PE.mono (PE.itemL (ds := [.int 1, .int 734539939]) (p := fun k => k < 2) ok₁ (PE.list ok₁ (PEL.cons1 ok₁ (PE.globI gl₁ ?g1) (PEL.one ok₁ (PE.globI gl₁ ?g2))) (by decide) ?p1) (PE.mono (PE.modK (m := 2) (by decide) ok₁ (drx ok₁ hfd (fun i => dr _ _ i ok₁ (fun _ _ e => e) hA3) (PE.name rfl) (PE.intI ok₁)) (PE.int ok₁)) ?p2) (by decide)) ?p3)) ?p4) rfl ?hx rfl) ?p5
          case g1 => k_is
          case g2 => k_is
          case m1 => rintro b ⟨r, rfl, hr⟩; exact ⟨.int (1 + r : Nat), rfl, 1 + r, ⟨by omega, by omega⟩, rfl⟩
          case p1 => rintro bs rfl; exact ⟨rfl, by decide⟩
          case p2 => rintro b ⟨r, rfl, hr⟩; exact ⟨r, rfl, hr, hr⟩
          case p3 =>
            rintro b ⟨k, d, hk, hd, rfl⟩
            match k, hk, hd with
            | 0, _, hd => cases hd; exact ⟨_, rfl, 1, .inl rfl, rfl⟩
            | 1, _, hd => cases hd; exact ⟨_, rfl, 734539939, .inr rfl, rfl⟩
          case p4 =>
            rintro b ⟨d₁, d₂, rfl, ⟨n, hn, rfl⟩, m, hm, rfl⟩
            exact ⟨_, rfl, rfl, n, m, hn, hm, rfl⟩
          case hx =>
            intro x hx
            simp only [List.mem_cons, List.not_mem_nil, or_false] at hx
            rcases hx with rfl | rfl
            · exact owned_but rfl rfl rfl (by decide)
            · exact owned_but rfl rfl rfl (by decide)
          case p5 =>
            rintro ρ' ⟨ds, ⟨n, m, hn, hm, rfl⟩, rfl⟩
            exact ⟨n, m, hn, hm, rfl⟩
        rintro ρ' ⟨n, m, hn, hm, rfl⟩
        -- rows
        refine PBe.cons (R := fun ρ' => ∃ a b c : List Nat, (a.length = n ∧ b.length = n ∧ c.length = n) ∧ (∀ v ∈ a, v < 32) ∧ (∀ v ∈ b, v < 32) ∧ (∀ v ∈ c, v < 32) ∧ ρ' = [(Str.ofString "rows", BL [.list (natsD a), .list (natsD b), .list (natsD c)]), (Str.ofString "check", BI m), (Str.ofString "many", BI n), (Str.ofString "head", BS (mkS l)), (Str.ofString "letters", BS (Str.ofString "abcxyz127!~-")), (Str.ofString "draw", .r (.ref fd)), (Str.ofString "script", BL (is.map .int))]) ?rws ?rest3
        case rws =>
          refine' PT.mono (PT.assign ok₁ kw₁ (PE.compC (ρ' := [(Str.ofString "many", BI n), (Str.ofString "draw", .r (.ref fd))]) (Pe := fun _ d => ∃ a : List Nat, a.length = n ∧ (∀ v ∈ a, v < 32) ∧ d = .list (natsD a)) ok₁ hA'.1 (PI.some (PI.range (n := 3) ok₁ gl₁ ?gr (by decide) (PE.int ok₁))) ?z1 rfl rfl (by decide) rfl (fun _ _ => rfl) (fun _ => rfl) (fun _ _ => Sub.cons rfl (.inl rfl) rfl (Sub.cons rfl (.inl rfl) rfl Sub.nil)) ?elt)) ?p3
          case gr => k_is
          case z1 => rintro ds rfl; decide
          case elt =>
            rintro Pv Cc cj i d ok₂ hB ⟨ds, rfl, hd⟩
            obtain ⟨hi, rfl⟩ := rangeD_get hd
            refine' PE.mono (PE.compN (ρ' := [(Str.ofString "j", .d (.int (i : Int))), (Str.ofString "draw", .r (.ref fd))]) (Pe := fun _ d => ∃ v : Nat, v < 32 ∧ d = .int v) ok₂ hA'.1 (PI.some (PI.range (n := n) ok₂ gl₁ ?gr (by omega) (PE.name rfl))) ?z1 rfl (by decide) rfl (by decide) rfl (fun _ => Sub.cons rfl (.inl rfl) rfl (Sub.cons rfl (.inl rfl) rfl Sub.nil)) ?elt2) ?m1
            case gr => k_is
            case z1 => rintro ds rfl; simp [rangeD]; omega
            case elt2 =>
              rintro I' D' Cc' i' d' ok₃ hB' ⟨ds', rfl, hd'⟩
              obtain ⟨hi', rfl⟩ := rangeD_get hd'
              refine (PE.modK (m := 32) (by decide) ok₃ (PE.mulRI (k := 2 * (i : Int) + 1) ok₃ ?hk (drx ok₃ hfd (fun i => dr _ _ i ok₃ (fun _ _ e => e) hA3) (PE.name rfl) (PE.arithI ok₃ (f := fun i j => i + j) (PE.arithI ok₃ (f := fun i j => i + j) (PE.intI ok₃) (PE.mulLI (k := 11) ok₃ (by decide +kernel) (PE.int ok₃) ((PE.name rfl).mono fun b h => ⟨_, h⟩)) ?ad1) ((PE.name rfl).mono fun b h => ⟨_, h⟩) ?ad2))
                (PE.add ok₃ (PE.mul (i := 2) (j := (i : Int)) ok₃ (PE.int ok₃) (PE.name rfl) (IntMulOk.of_left (by decide +kernel))) (PE.int ok₃))) (PE.int ok₃)).mono ?_
              case ad1 => intro i j t u s Q E q; exact add_int q
              case ad2 => intro i j t u s Q E q; exact add_int q
              case hk =>
                have : ∀ i : Nat, i < 3 → Builtin.Int.intBits (2 * (i : Int) + 1) ≤ 64 := by decide +kernel
                exact this i hi
              rintro b ⟨r, rfl, hr⟩
              exact ⟨.int r, rfl, r, hr, rfl⟩
            case m1 =>
              rintro b ⟨ds, es, rfl, rfl, hl, he⟩
              obtain ⟨l', rfl, h2, h3⟩ := pick (f := fun v : Nat => PyData.int v) es he
              exact ⟨_, rfl, l', by rw [h3, hl]; simp [rangeD], h2, rfl⟩
          case p3 =>
            rintro ρ' ⟨b, ⟨ds, es, rfl, rfl, hl, he⟩, rfl⟩
            obtain ⟨l', rfl, h2, h3⟩ := pick (Q := fun a : List Nat => a.length = n ∧ ∀ v ∈ a, v < 32) (f := fun a : List Nat => PyData.list (natsD a)) es fun k d hk => let ⟨a, h1, h2, h3⟩ := he k d hk; ⟨a, ⟨h1, h2⟩, h3⟩
            have h5 : l'.length = 3 := by rw [h3, hl]; rfl
            match l', h5, h2 with
            | [a, b, c], _, h2 => exact ⟨a, b, c, ⟨(h2 a (by simp)).1, (h2 b (by simp)).1, (h2 c (by simp)).1⟩, (h2 a (by simp)).2, (h2 b (by simp)).2, (h2 c (by simp)).2, rfl⟩
        rintro ρ' ⟨a, b, c, hlen, ha, hb, hc, rfl⟩
        have kl : HdOk l := hdOk_let hlP hl0 hl5
        have hm30 : m < 2 ^ 30 := by rcases hm with rfl | rfl <;> decide
        have hh : ∀ v ∈ hexp l, v < 32 := hexp_lt fun c hc => by have := kl.asc c hc; omega
        -- text_of
        refine' PBe.defn (c := 138) (Pt := 136) (W' := ownBut L _ [Str.ofString "script", Str.ofString "head", Str.ofString "check"]) (fz := [(Str.ofString "head", BS (mkS l)), (Str.ofString "check", BI m)]) ok₁ kw₁ gl₁ rfl hX₁ (hT₁ ▸ hPT) (ht₁ ▸ hPt) (hcdL.keeps hGG₁) rfl rfl trivial rfl rfl rfl rfl rfl rfl (owned_but rfl rfl rfl (by decide)) ?cc ?fz ?cz (ownBut_sub fun x hx => ?sb) (.head _) ?rest4
        case sb =>
          simp only [List.contains_cons, Bool.or_eq_false_iff] at hx ⊢
          exact ⟨hx.1, rfl⟩
        case cc =>
          intro q hq
          rcases List.mem_cons.mp hq with rfl | hq
          · exact ⟨rfl, ownBut_not (n := Str.ofString "head") hap rfl (by decide), (by decide : Str.ofString "head" ≠ Str.ofString "text_of")⟩
          · rw [List.mem_singleton.mp hq]
            exact ⟨rfl, ownBut_not (n := Str.ofString "check") hap rfl (by decide), (by decide : Str.ofString "check" ≠ Str.ofString "text_of")⟩
        case fz =>
          refine forall_lookup fun q hq => ?_
          rcases List.mem_cons.mp hq with rfl | hq
          · exact ⟨(by decide : Str.ofString "head" ≠ Str.ofString "text_of"), rfl, _, rfl⟩
          · rw [List.mem_singleton.mp hq]
            exact ⟨(by decide : Str.ofString "check" ≠ Str.ofString "text_of"), rfl, _, rfl⟩
        case cz =>
          intro q hq
          rcases List.mem_cons.mp hq with rfl | hq
          · exact ⟨_, rfl⟩
          · rw [List.mem_singleton.mp hq]; exact ⟨_, rfl⟩
        intro C₂ ft ct ok₂ kw₂ hGG₂ ht₂ hT₂ hF₂ hX₂ hft hcl₂
        have gl₂ := gl₁.keeps hGG₂
        have hcd₂ : CodeHd C₂.G 74 70 := (hcd.keeps hGG₁).keeps hGG₂
        have hcd2₂ : CodeHd C₂.G 126 122 := (hcd2.keeps hGG₁).keeps hGG₂
        have tx : ∀ (Cq : Cx) (Aq : Around) (ds : List Nat), Cq.Ok → (∀ b o, C₂.G.get? b = some o → Cq.G.get? b = some o) → ((74, 70) : Addr × Addr) ∈ Cq.tabs → ((126, 122) : Addr × Addr) ∈ Cq.tabs → AOk 8 Aq → (∀ v ∈ ds, v < 32) → ds.length ≤ 50 →
            COk PG w Cq Aq (.ref ft) [BL (natsD ds)] (· = BL (natsD (ds ++ ckl (hexp l ++ ds) m))) := by
          intro Cq Aq ds okq hGq hctq hct2q hAq hds hdz
          have hfq := hft.keeps hGq
          have hcq := hcl₂.keeps hGq
          have glq := gl₂.keeps hGq
          have kv : VsOk (ds ++ ckl (hexp l ++ ds) m) := vs_ckl hds hdz
          have hkz := kl.z
          have hasc : ∀ c ∈ encL l ds m, c < 128 := by rw [encL_txt]; exact asc_txt kl.asc kv.asc
          have hle : (encL l ds m).length = l.length + 1 + (ds.length + 6) := by rw [encL_txt, length_txt, List.length_append, length_ckl]
          refine' COk.enterC (ps := [Str.ofString "row"]) 7 okq glq hAq hfq hcq ?b1 ?b2 ?b3 ?b4 ?b5 ?b6 ?b7 ?b8 ?b9
          case b1 => intro doc pm ctv vs h; match vs, h with | [v], _ => rfl
          case b2 => decide
          case b3 => intro x hx; rw [List.mem_singleton.mp hx]; rfl
          case b4 =>
            refine forall_lookup fun q hq => ?_
            rcases List.mem_cons.mp hq with rfl | hq
            · rfl
            · rw [List.mem_singleton.mp hq]; rfl
          case b5 => decide
          case b6 => rfl
          case b7 => rfl
          case b8 => rfl
          case b9 =>
            intro L' ok' wok' hA''
            refine' PB.ret (PE.mono (PE.comp (ρ' := []) (ds := ((ds ++ ckl (hexp l ++ ds) m).map sgn).map fun (c : Nat) => PyData.int c) (Pe := fun k d' => ∃ d, (natsD (ds ++ ckl (hexp l ++ ds) m))[k]? = some d ∧ d' = id d) ok' hA''.1
              (PI.asc (l := (ds ++ ckl (hexp l ++ ds) m).map sgn) (PE.mono (PE.dropB (l := encL l ds m) (n := l.length + 1) ok' (PE.callF (PL := (· = [BS (mkS l), BL (natsD ds), BI m])) ok' glq ?g1 ?g2 ?g3 (PEL.cons1 ok' (PE.name rfl) (PEL.cons1 ok' (PE.name rfl) (PEL.one ok' (PE.name rfl)))) (fun bs h => h ▸ encode_ok ok' glq (hA''.mono (by decide)) hctq (hcd₂.keeps hGq) hct2q (hcd2₂.keeps hGq) kl.asc kl.r kl.lower kl.ne hds (by omega) (by omega)))
                (PE.mono (PE.add ok' (PE.callB ok' (PE.builtin glq ?g4 rfl) (PEL.one ok' (PE.name rfl)) fun bs h => h ▸ COk.lenS ok' (x := mkS l) (by rw [length_mkS]; omega)) (PE.int ok')) ?m1) (by rw [hle]; omega) (by rw [hle]; omega)) ?m2) kv.asc) ?z1 rfl (by decide) rfl (by decide) rfl (fun _ => Sub.nil) ?elt) ?fin)
            case g1 => k_is
            case g2 => k_is
            case g3 => rfl
            case g4 => k_is
            case m1 => rintro b rfl; rw [length_mkS]; rfl
            case m2 =>
              rintro b h
              have : (encL l ds m).drop (l.length + 1) = (ds ++ ckl (hexp l ++ ds) m).map sgn := by
                rw [encL_txt]
                unfold txt
                rw [show l ++ 49 :: (ds ++ ckl (hexp l ++ ds) m).map sgn = (l ++ [49]) ++ (ds ++ ckl (hexp l ++ ds) m).map sgn by simp, List.drop_left' (by simp)]
              rw [this] at h
              exact h
            case z1 => simp [length_ckl]; omega
            case elt =>
              intro I D Cc i d ok₃ hd
              rw [List.getElem?_map, List.getElem?_map] at hd
              cases hv : (ds ++ ckl (hexp l ++ ds) m)[i]? with
              | none => rw [hv] at hd; cases hd
              | some v =>
                rw [hv] at hd
                cases hd
                have hv32 := kv.v v (List.mem_of_getElem? hv)
                refine' PE.mono (PE.index (x := mkS ALPH) (y := fun _ => True) (p := fun _ i => i = v) ok₃ (PE.mono (PE.globS (i := Str.ofString "qpzry9x8gf2tvdw0s3jn54khce6mua7l") glq ?g5) fun b h => h.trans (by rw [alphS])) (PE.mono (PE.callB ok₃ (PE.builtin glq ?g6 rfl) (PEL.one ok₃ (PE.name rfl)) fun bs h => h ▸ COk.chr ok₃ (i := sgn v) ?lt) ?m3)) ?m4
                case g5 => k_is
                case g6 => k_is
                case lt => have := sgn_lt v; omega
                case m3 => rintro b rfl; exact ⟨mkS [sgn v], v, [], rfl, rfl, index_sgn _ hv32⟩
                case m4 =>
                  rintro b ⟨y, i', hi', rfl⟩
                  refine ⟨.int v, by rw [hi'], .int v, ?_, rfl⟩
                  unfold natsD
                  rw [List.getElem?_map, hv]
                  rfl
            case fin =>
              rintro b ⟨es, rfl, h1, h2⟩
              have := eq_map_of (ds := natsD (ds ++ ckl (hexp l ++ ds) m)) (f := id) (by rw [h1]; simp [natsD]) h2
              rw [this, List.map_id]
        -- told
        refine' PBe.defn (c := 138) (Pt := 136) (W' := ownBut L _ [Str.ofString "script", Str.ofString "head", Str.ofString "check"]) (fz := []) ok₂ kw₂ gl₂ rfl hX₂ (hT₂ ▸ hT₁ ▸ hPT) (ht₂ ▸ ht₁ ▸ hPt) ((hcdL.keeps hGG₁).keeps hGG₂) rfl rfl trivial rfl rfl rfl rfl rfl rfl (owned_but rfl rfl rfl (by decide)) (fun _ h => nomatch h) (fun _ _ h => nomatch h) (fun _ h => nomatch h) (fun _ h => h) (.head _) ?rest5
        intro C₃ fo co ok₃ kw₃ hGG₃ ht₃ hT₃ hF₃ hX₃ hfo hcl₃
        have gl₃ := gl₂.keeps hGG₃
        have hcd₃ : CodeHd C₃.G 74 70 := hcd₂.keeps hGG₃
        have hct₃ : ((74, 70) : Addr × Addr) ∈ C₃.tabs := ht₃ ▸ ht₂ ▸ ht₁ ▸ hct
        have hct2₃ : ((126, 122) : Addr × Addr) ∈ C₃.tabs := ht₃ ▸ ht₂ ▸ ht₁ ▸ hct2
        have tk : ∀ (Cq : Cx) (Aq : Around) (h vs : List Nat) (mm : Int), Cq.Ok → (∀ b o, C₃.G.get? b = some o → Cq.G.get? b = some o) → ((74, 70) : Addr × Addr) ∈ Cq.tabs → AOk 9 Aq → HdOk h → VsOk vs → ((pmod (hexp h ++ vs) : Int) == mm) = true →
            COk PG w Cq Aq (.ref fo) [BL (natsD vs), BS (mkS h), BI mm] (· = BT [.str (mkS h), .list (natsD (vs.take (vs.length - 6)))]) := by
          intro Cq Aq h vs mm okq hGq hctq hAq kh kv hgood
          have hfq := hfo.keeps hGq
          have glq := gl₃.keeps hGq
          have hkz := kh.z
          have hvz := kv.z
          refine' COk.enterC (ρc := []) (ps := [Str.ofString "numbers", Str.ofString "first", Str.ofString "kind"]) 8 okq glq hAq hfq (fun _ _ h => nomatch h) ?b1 ?b2 ?b3 (fun _ _ h => nomatch h) ?b5 ?b6 ?b7 ?b8 ?b9
          case b1 => intro doc pm ctv vs h; match vs, h with | [u, v, z], _ => rfl
          case b2 => decide
          case b3 =>
            intro x hx
            simp only [List.mem_cons, List.not_mem_nil, or_false] at hx
            rcases hx with rfl | rfl | rfl <;> rfl
          case b5 => decide
          case b6 => rfl
          case b7 => rfl
          case b8 => rfl
          case b9 =>
            intro L' ok' wok' hA''
            refine' PB.tryOk (PB.ret (PE.callF (PL := (· = [BS (mkS (txt h vs)), BI mm])) ok' glq ?g1 ?g2 ?g3 (PEL.cons1 ok' (PE.mono (PE.cat ok' (PE.cat ok' (PE.name rfl) (PE.str ok') ?z1) (PE.join1 ok' (ys := (vs.map sgn).map fun c => mkS [c]) (PE.str ok') (PE.mono (PE.compMap (ρ' := []) (f := fun d => .str (mkS [sgn (intD d)])) ok' hA''.1 (PI.list (PE.name rfl)) ?z2 rfl (by decide) rfl (by decide) rfl (fun _ => Sub.nil) ?elt) ?m1) ?z3) ?z4) ?m2) (PEL.one ok' (PE.name rfl))) (fun bs h => h ▸ decode_ok (rd_txt kh kv) ok' glq (hA''.mono (by decide)) hctq (hcd₃.keeps hGq) hgood)))
            case g1 => k_is
            case g2 => k_is
            case g3 => rfl
            case z1 => rw [length_mkS]; show _ + 1 ≤ 2 ^ 24; omega
            case z2 => rw [length_natsD]; omega
            case z3 => exact joinOk_ones _ (by simp; omega)
            case z4 => rw [join_mkS, str_len_append, length_mkS, length_mkS]; show _ + 1 + _ ≤ 2 ^ 24; simp; omega
            case m1 => rintro b rfl; unfold natsD; rw [List.map_map, List.map_map, List.map_map]; rfl
            case m2 =>
              rintro b rfl
              rw [join_mkS, show Str.ofString "1" = mkS [49] from by decide, mkS_append, mkS_append]
              unfold txt
              simp
            case elt =>
              intro I D Cc i d ok₃' hd
              obtain ⟨v, hv, rfl⟩ := natsD_get hd
              refine' PE.itemS1 (x := Str.ofString "qpzry9x8gf2tvdw0s3jn54khce6mua7l") (i := (v : Int)) ok₃' (PE.globS glq ?g5) (PE.name rfl) (by omega) ?h1 (alph_get v (kv.v v (List.mem_of_getElem? hv)))
              case g5 => k_is
              case h1 => have := kv.v v (List.mem_of_getElem? hv); omega
        have tn : ∀ (Cq : Cx) (Aq : Around) (h vs : List Nat) (mm : Int) (outer : List Env), Cq.Ok → (∀ b o, C₃.G.get? b = some o → Cq.G.get? b = some o) → ((74, 70) : Addr × Addr) ∈ Cq.tabs → AOk 9 Aq → Aq.frames = some outer → OnF Cq outer → HdOk h → VsOk vs → ((pmod (hexp h ++ vs) : Int) == mm) = false →
            COk PG w Cq Aq (.ref fo) [BL (natsD vs), BS (mkS h), BI mm] (· = BS (Str.ofString "refused")) := by
          intro Cq Aq h vs mm outer okq hGq hctq hAq hfrq hon kh kv hbad
          have hfq := hfo.keeps hGq
          have glq := gl₃.keeps hGq
          have hkz := kh.z
          have hvz := kv.z
          refine' COk.enterC (ρc := []) (ps := [Str.ofString "numbers", Str.ofString "first", Str.ofString "kind"]) 8 okq glq hAq hfq (fun _ _ h => nomatch h) ?b1 ?b2 ?b3 (fun _ _ h => nomatch h) ?b5 ?b6 ?b7 ?b8 ?b9
          case b1 => intro doc pm ctv vs h; match vs, h with | [u, v, z], _ => rfl
          case b2 => decide
          case b3 =>
            intro x hx
            simp only [List.mem_cons, List.not_mem_nil, or_false] at hx
            rcases hx with rfl | rfl | rfl <;> rfl
          case b5 => decide
          case b6 => rfl
          case b7 => rfl
          case b8 => rfl
          case b9 =>
            intro L' ok' wok' hA''
            have frT : ∀ b, b ∈ L' :: frs outer → b ∉ (Cq.inner [L']).T := fun b hb => by
              rcases List.mem_cons.mp hb with rfl | hb
              · exact wok'.WT _ wok'.loc
              · exact okq.FT _ (hon.mem b hb).1
            have frB : ∀ b, b ∈ L' :: frs outer → (Cq.inner [L']).B.get? b = none := fun b hb => by
              rcases List.mem_cons.mp hb with rfl | hb
              · exact wok'.new _ wok'.loc
              · exact (hon.mem b hb).2
            refine' PB.tryX (outer := outer) ok' wok' glq (by show Aq.frames.map _ = _; rw [hfrq]; rfl) rfl (fun b hb => (hon.mem b hb).1) (fun b hb => (hon.mem b hb).2) (fun s _ f => hon.stk f) ?g6 ?g7
              (PEX.callF (PL := (· = [BS (mkS (txt h vs)), BI mm])) ok' glq ?g1 ?g2 ?g3 frT (PEL.cons1 ok' (PE.mono (PE.cat ok' (PE.cat ok' (PE.name rfl) (PE.str ok') ?z1) (PE.join1 ok' (ys := (vs.map sgn).map fun c => mkS [c]) (PE.str ok') (PE.mono (PE.compMap (ρ' := []) (f := fun d => .str (mkS [sgn (intD d)])) ok' hA''.1 (PI.list (PE.name rfl)) ?z2 rfl (by decide) rfl (by decide) rfl (fun _ => Sub.nil) ?elt) ?m1) ?z3) ?z4) ?m2) (PEL.one ok' (PE.name rfl))) (fun bs h => h ▸ decode_bad (rd_txt kh kv) ok' glq (hA''.mono (by decide)) (by show Aq.frames.map _ = _; rw [hfrq]; rfl) ?hT2 ?hB2 hctq (hcd₃.keeps hGq) hbad)) (fun A' => PE.str ok')
            case hT2 => exact fun b hb => frT b hb
            case hB2 => exact fun b hb => frB b hb
            case g1 => k_is
            case g2 => k_is
            case g3 => rfl
            case g6 => k_is
            case g7 => kts_isx
            case z1 => rw [length_mkS]; show _ + 1 ≤ 2 ^ 24; omega
            case z2 => rw [length_natsD]; omega
            case z3 => exact joinOk_ones _ (by simp; omega)
            case z4 => rw [join_mkS, str_len_append, length_mkS, length_mkS]; show _ + 1 + _ ≤ 2 ^ 24; simp; omega
            case m1 => rintro b rfl; unfold natsD; rw [List.map_map, List.map_map, List.map_map]; rfl
            case m2 =>
              rintro b rfl
              rw [join_mkS, show Str.ofString "1" = mkS [49] from by decide, mkS_append, mkS_append]
              unfold txt
              simp
            case elt =>
              intro I D Cc i d ok₃' hd
              obtain ⟨v, hv, rfl⟩ := natsD_get hd
              refine' PE.itemS1 (x := Str.ofString "qpzry9x8gf2tvdw0s3jn54khce6mua7l") (i := (v : Int)) ok₃' (PE.globS glq ?g5) (PE.name rfl) (by omega) ?h1 (alph_get v (kv.v v (List.mem_of_getElem? hv)))
              case g5 => k_is
              case h1 => have := kv.v v (List.mem_of_getElem? hv); omega
        refine PBe.of ?pb fun s' a' => ⟨(ht₃.trans (ht₂.trans ht₁)) ▸ a'.tb, by have hx' := a'.x; rw [hX₃] at hx'; exact ⟨_, hx'⟩⟩
        have hA8 : AOk 8 (A.deeper _) := hA'.mono (by decide)
        have hA9 : AOk 9 (A.deeper _) := hA'.mono (by decide)
        have hft₃ := hft.keeps hGG₃
        have hfd₃ := (hfd.keeps hGG₂).keeps hGG₃
        have hlenN : nsIn (hd01.heap_39 w.params) mainGlobals "len" = some none := by k_is
        have hrangeN : nsIn (hd01.heap_39 w.params) mainGlobals "range" = some none := by k_is
        have hkz := kl.z
        obtain ⟨va, hva⟩ : ∃ va, va = a ++ ckl (hexp l ++ a) m := ⟨_, rfl⟩
        obtain ⟨vb, hvb⟩ : ∃ vb, vb = b ++ ckl (hexp l ++ b) m := ⟨_, rfl⟩
        obtain ⟨vc, hvc⟩ : ∃ vc, vc = c ++ ckl (hexp l ++ c) m := ⟨_, rfl⟩
        have tfact : ∀ x vx : List Nat, vx = x ++ ckl (hexp l ++ x) m → (∀ v ∈ x, v < 32) → x.length = n → VsOk vx ∧ pmod (hexp l ++ vx) = m ∧ vx.length = n + 6 ∧ vx.take (vx.length - 6) = x := fun x vx e hx hxl => by
          have h1 : vx.length = n + 6 := by rw [e, List.length_append, length_ckl, hxl]
          exact ⟨e ▸ vs_ckl hx (by omega), e ▸ p_good hh hx hm30, h1, by rw [h1, Nat.add_sub_cancel, e, ← hxl, List.take_left]⟩
        obtain ⟨kva, hga, hla, hta⟩ := tfact a va hva ha hlen.1
        obtain ⟨kvb, hgb, hlb, htb⟩ := tfact b vb hvb hb hlen.2.1
        obtain ⟨kvc, hgc, hlc, htc⟩ := tfact c vc hvc hc hlen.2.2
        have hrow : ∀ (i : Nat) (d : PyData), [PyData.list (natsD a), PyData.list (natsD b), PyData.list (natsD c)][i]? = some d → ∃ x : List Nat, d = .list (natsD x) ∧ (∀ v ∈ x, v < 32) ∧ x.length = n := fun i d hd => by
          match i, hd with
          | 0, hd => cases hd; exact ⟨a, rfl, ha, hlen.1⟩
          | 1, hd => cases hd; exact ⟨b, rfl, hb, hlen.2.1⟩
          | 2, hd => cases hd; exact ⟨c, rfl, hc, hlen.2.2⟩
          | k + 3, hd => cases hd
        have htxt : ∀ (i : Nat) (d : PyData), [PyData.list (natsD va), PyData.list (natsD vb), PyData.list (natsD vc)][i]? = some d → ∃ x : List Nat, d = .list (natsD x) ∧ VsOk x ∧ pmod (hexp l ++ x) = m ∧ x.length = n + 6 := fun i d hd => by
          match i, hd with
          | 0, hd => cases hd; exact ⟨va, rfl, kva, hga, hla⟩
          | 1, hd => cases hd; exact ⟨vb, rfl, kvb, hgb, hlb⟩
          | 2, hd => cases hd; exact ⟨vc, rfl, kvc, hgc, hlc⟩
          | k + 3, hd => cases hd
        have hbeq : ∀ x : List Nat, pmod (hexp l ++ x) = m → ((pmod (hexp l ++ x) : Int) == (m : Int)) = true := fun x h => by rw [h]; exact beq_self_eq_true _
        have h3 : ∀ x y z : PyData, [x, y, z].length ≤ sizeLine := fun x y z => by show 3 ≤ 2 ^ 24; decide
        -- texts
        refine PB.cons1 (PT.assign1 (b := BL [.list (natsD va), .list (natsD vb), .list (natsD vc)]) ok₃ kw₃ (PE.mono (PE.compMap (ρ' := [(Str.ofString "text_of", .r (.ref ft))]) (f := fun d => .list (natsD (unN d ++ ckl (hexp l ++ unN d) m))) ok₃ hA'.1 (PI.list (PE.name rfl)) (h3 _ _ _) rfl (by decide) rfl (by decide) rfl (fun _ => Sub.cons rfl (.inl rfl) rfl Sub.nil) ?elt) ?m1)) ?rest6
        case elt =>
          intro I D Cc i d ok₄ hd
          obtain ⟨x, rfl, hx1, hx2⟩ := hrow i d hd
          rw [unN_nats]
          exact PE.callC (PL := (· = [BL (natsD x)])) ok₄ hft₃ (PE.name rfl) (PEL.one ok₄ (PE.name rfl)) fun bs h => h ▸ tx _ _ x ok₄ (fun b o e => hGG₃ b o e) hct₃ hct2₃ hA8 hx1 (by omega)
        case m1 =>
          rintro b' rfl
          simp only [List.map_cons, List.map_nil, unN_nats, ← hva, ← hvb, ← hvc]
        -- the rows again
        refine PB.cons1 (PT.ifF ok₃ kw₃ (PC.or2 (r₁ := false) (r₂ := false) ok₃
          (PC.cmp1 ok₃ (PE.compMap (ρ' := [(Str.ofString "told", .r (.ref fo)), (Str.ofString "head", BS (mkS l)), (Str.ofString "check", BI m)]) (f := fun d => .tuple [.str (mkS l), .list (natsD ((unN d).take ((unN d).length - 6)))]) ok₃ hA'.1 (PI.list (PE.name rfl)) (h3 _ _ _) rfl (by decide) rfl (by decide) rfl (fun _ => Sub.cons rfl (.inl rfl) rfl (Sub.cons rfl (.inl rfl) rfl (Sub.cons rfl (.inl rfl) rfl Sub.nil))) ?elt)
            (PE.compMap (ρ' := [(Str.ofString "head", BS (mkS l))]) (f := fun d => .tuple [.str (mkS l), d]) ok₃ hA'.1 (PI.list (PE.name rfl)) (h3 _ _ _) rfl (by decide) rfl (by decide) rfl (fun _ => Sub.cons rfl (.inl rfl) rfl Sub.nil) ?elt2) ?cmp1)
          fun _ => PC.cmp1 ok₃ (PE.compMap (ρ' := []) (f := fun d => .int ((unN d).length : Nat)) ok₃ hA'.1 (PI.list (PE.name rfl)) (h3 _ _ _) rfl (by decide) rfl (by decide) rfl (fun _ => Sub.nil) ?elt3)
            (PE.mulL (d := .int ((n : Int) + 6)) (k := 3) ok₃ (PE.add ok₃ (PE.name rfl) (PE.int ok₃)) (PE.int ok₃) (by decide)) ?cmp2)) ?rest7
        case elt =>
          intro I D Cc i d ok₄ hd
          obtain ⟨x, rfl, kx, hgx, hxl⟩ := htxt i d hd
          rw [unN_nats]
          exact PE.callC (PL := (· = [BL (natsD x), BS (mkS l), BI m])) ok₄ hfo (PE.name rfl) (PEL.cons1 ok₄ (PE.name rfl) (PEL.cons1 ok₄ (PE.name rfl) (PEL.one ok₄ (PE.name rfl)))) fun bs h => h ▸ tk _ _ l x m ok₄ (fun b o e => e) hct₃ hA9 kl kx (hbeq x hgx)
        case elt2 =>
          intro I D Cc i d ok₄ hd
          exact PE.tup (ds := [.str (mkS l), d]) ok₄ (PEL.cons1 ok₄ (PE.name rfl) (PEL.one ok₄ (PE.name rfl))) (by decide) (by rintro bs rfl; exact ⟨rfl, by show 2 ≤ 2 ^ 24; decide⟩)
        case cmp1 =>
          simp only [List.map_cons, List.map_nil, unN_nats, hta, htb, htc]
          have hsh := shaped_list3 (shaped_pair kl.asc a) (shaped_pair kl.asc b) (shaped_pair kl.asc c) (depth_pair l a) (depth_pair l b) (depth_pair l c)
          exact Cmp.neR hsh hsh hA'.u (SeqAt.eqv_refl _ (SeqAt.canLay_of_shaped hsh))
        case elt3 =>
          intro I D Cc i d ok₄ hd
          obtain ⟨x, rfl, kx, hgx, hxl⟩ := htxt i d hd
          rw [unN_nats]
          exact PE.mono (PE.callB ok₄ (PE.builtin gl₃ hlenN rfl) (PEL.one ok₄ (PE.name rfl)) fun bs h => h ▸ COk.lenL ok₄ (by rw [length_natsD]; have := kx.z; omega)) fun b h => by rw [h, length_natsD]
        case cmp2 =>
          have e1 : [PyData.list (natsD va), PyData.list (natsD vb), PyData.list (natsD vc)].map (fun d => PyData.int ((unN d).length : Nat)) = natsD [n + 6, n + 6, n + 6] := by
            simp only [List.map_cons, List.map_nil, unN_nats, hla, hlb, hlc]
            rfl
          have e2 : List.replicate 3 (PyData.int ((n : Int) + 6)) = natsD [n + 6, n + 6, n + 6] := rfl
          rw [e1, e2]
          exact Cmp.neR (shaped_nats _) (shaped_nats _) hA'.u (eqv_nats _)
        have hab := hlen.2.1.trans hlen.1.symm
        have hac := hlen.2.2.trans hlen.1.symm
        have hxlt : ∀ v ∈ xor3 a b c, v < 32 := xor3_lt ha hb hc
        have hxl : (xor3 a b c).length = n := by simp [xor3, hlen.1]
        have hvx : xor3 va vb vc = xor3 a b c ++ ckl (hexp l ++ xor3 a b c) m := by
          rw [hva, hvb, hvc, xor3_append hab hac (by simp [length_ckl]) (by simp [length_ckl]), p_sum hh ha hb hc hab hac hm30]
        obtain ⟨kvx, hgx, hlx, htx⟩ := tfact (xor3 a b c) (xor3 va vb vc) hvx hxlt hxl
        -- joined
        refine PB.cons (PT.assignComp (ρ' := [(Str.ofString "rows", BL [.list (natsD a), .list (natsD b), .list (natsD c)])]) (Pe := fun k d' => ∃ d, (rangeD n)[k]? = some d ∧ d' = (fun d => PyData.int ((a.getD (intD d) 0 ^^^ b.getD (intD d) 0 ^^^ c.getD (intD d) 0 : Nat) : Int)) d) ok₃ kw₃ hA'.1 (PI.range (n := n) ok₃ gl₃ hrangeN (by omega) (PE.name rfl)) (by simp [rangeD]; omega) rfl rfl rfl rfl (by decide) rfl (by decide) rfl (fun _ => Sub.cons rfl (.inl rfl) rfl Sub.nil) ?elt) ?rest8
        case elt =>
          intro I D Cc i d ok₄ hd
          have hd0 := hd
          obtain ⟨hi, rfl⟩ := rangeD_get hd
          refine PE.mono (PE.xor ok₄ (PE.xor ok₄ (PE.itemL1 (k := i) ok₄ (PE.itemL1 (k := 0) ok₄ (PE.name rfl) (PE.int ok₄) rfl (h3 _ _ _)) (PE.name rfl) (natsD_at (by omega)) (by rw [length_natsD]; omega))
            (PE.itemL1 (k := i) ok₄ (PE.itemL1 (k := 1) ok₄ (PE.name rfl) (PE.int ok₄) rfl (h3 _ _ _)) (PE.name rfl) (natsD_at (by omega)) (by rw [length_natsD]; omega)))
            (PE.itemL1 (k := i) ok₄ (PE.itemL1 (k := 2) ok₄ (PE.name rfl) (PE.int ok₄) rfl (h3 _ _ _)) (PE.name rfl) (natsD_at (by omega)) (by rw [length_natsD]; omega))) ?_
          rintro b' rfl
          rw [bitXor_nat, bitXor_nat]
          exact ⟨_, rfl, _, hd0, rfl⟩
        rintro ρ' ⟨es, rfl, hesl, hes⟩
        have hej : es = natsD (xor3 a b c) := (eq_map_of hesl hes).trans (by simp only [rangeD, natsD, xor3, List.map_map, hlen.1]; rfl)
        subst hej
        clear hesl hes
        -- put
        refine PB.cons (PT.assignComp (ρ' := [(Str.ofString "texts", BL [.list (natsD va), .list (natsD vb), .list (natsD vc)])]) (Pe := fun k d' => ∃ d, (rangeD (n + 6))[k]? = some d ∧ d' = (fun d => PyData.int ((va.getD (intD d) 0 ^^^ vb.getD (intD d) 0 ^^^ vc.getD (intD d) 0 : Nat) : Int)) d) ok₃ kw₃ hA'.1 (PI.range (n := n + 6) ok₃ gl₃ hrangeN (by omega) (PE.mono (PE.add ok₃ (PE.name rfl) (PE.int ok₃)) fun b h => by rw [h]; rfl)) (by simp [rangeD]; omega) rfl rfl rfl rfl (by decide) rfl (by decide) rfl (fun _ => Sub.cons rfl (.inl rfl) rfl Sub.nil) ?elt) ?rest9
        case elt =>
          intro I D Cc i d ok₄ hd
          have hd0 := hd
          obtain ⟨hi, rfl⟩ := rangeD_get hd
          refine PE.mono (PE.xor ok₄ (PE.xor ok₄ (PE.itemL1 (k := i) ok₄ (PE.itemL1 (k := 0) ok₄ (PE.name rfl) (PE.int ok₄) rfl (h3 _ _ _)) (PE.name rfl) (natsD_at (by omega)) (by rw [length_natsD]; omega))
            (PE.itemL1 (k := i) ok₄ (PE.itemL1 (k := 1) ok₄ (PE.name rfl) (PE.int ok₄) rfl (h3 _ _ _)) (PE.name rfl) (natsD_at (by omega)) (by rw [length_natsD]; omega)))
            (PE.itemL1 (k := i) ok₄ (PE.itemL1 (k := 2) ok₄ (PE.name rfl) (PE.int ok₄) rfl (h3 _ _ _)) (PE.name rfl) (natsD_at (by omega)) (by rw [length_natsD]; omega))) ?_
          rintro b' rfl
          rw [bitXor_nat, bitXor_nat]
          exact ⟨_, rfl, _, hd0, rfl⟩
        rintro ρ' ⟨es, rfl, hesl, hes⟩
        have hej : es = natsD (xor3 va vb vc) := (eq_map_of hesl hes).trans (by simp only [rangeD, natsD, xor3, List.map_map, hla]; rfl)
        subst hej
        clear hesl hes
        -- the text of the rows put together
        refine PB.cons1 (PT.ifF ok₃ kw₃ (PC.or2 (r₁ := false) (r₂ := false) ok₃
          (PC.cmp1 ok₃ (PE.callC (PL := (· = [BL (natsD (xor3 a b c))])) ok₃ hft₃ (PE.name rfl) (PEL.one ok₃ (PE.name rfl)) fun bs h => h ▸ tx _ _ (xor3 a b c) ok₃ (fun b o e => hGG₃ b o e) hct₃ hct2₃ hA8 hxlt (by omega)) (PE.name rfl) ?cmp1)
          fun _ => PC.cmp1 ok₃ (PE.callC (PL := (· = [BL (natsD (xor3 va vb vc)), BS (mkS l), BI m])) ok₃ hfo (PE.name rfl) (PEL.cons1 ok₃ (PE.name rfl) (PEL.cons1 ok₃ (PE.name rfl) (PEL.one ok₃ (PE.name rfl)))) fun bs h => h ▸ tk _ _ l (xor3 va vb vc) m ok₃ (fun b o e => e) hct₃ hA9 kl kvx (hbeq _ hgx))
            (PE.tup (ds := [.str (mkS l), .list (natsD (xor3 a b c))]) ok₃ (PEL.cons1 ok₃ (PE.name rfl) (PEL.one ok₃ (PE.name rfl))) (by decide) (by rintro bs rfl; exact ⟨rfl, by show 2 ≤ 2 ^ 24; decide⟩)) ?cmp2)) ?rest10
        case cmp1 =>
          rw [← hvx]
          exact Cmp.neR (shaped_nats _) (shaped_nats _) hA'.u (eqv_nats _)
        case cmp2 =>
          rw [htx]
          exact Cmp.neR (shaped_pair kl.asc _) (shaped_pair kl.asc _) hA'.u (eqv_pair kl.asc _)
        -- turned
        refine PB.turned (M := 3) (n := n + 6) ok₃ kw₃ hA'.1 rfl (owned_but rfl rfl rfl (by decide)) rfl (by decide) rfl (by omega) (by omega) (PE.int ok₃) (PE.mono (PE.add ok₃ (PE.name rfl) (PE.int ok₃)) fun b h => by rw [h]; rfl) ?hiter ?hei ?hev ?rest11
        case hiter =>
          intro Cq S okq hG
          have hGq : ∀ b o, C₃.G.get? b = some o → Cq.G.get? b = some o := fun b o e => hG ▸ e
          refine PIN.range (pn := fun k => 1 ≤ k ∧ k ≤ 3) okq (gl₃.keeps hGq) hrangeN (PE.mono (PE.addN (i := 1) (p := fun r => r < 3) okq (PE.int okq) (PE.modK (m := 3) (by decide) okq (drx okq (hfd₃.keeps hGq) (fun i => dr _ _ i okq (fun b o e => hGq b o (hGG₃ b o (hGG₂ b o e))) hA3) (PE.name rfl) (PE.intI okq)) (PE.int okq))) ?_)
          rintro b' ⟨r, rfl, hr⟩
          exact ⟨1 + r, rfl, by omega, by omega⟩
        case hei =>
          intro Cq S ρq i okq hG hk hw
          have hGq : ∀ b o, C₃.G.get? b = some o → Cq.G.get? b = some o := fun b o e => hG ▸ e
          exact PE.modK (m := n + 6) (by omega) okq (drx okq (hfd₃.keeps hGq) (fun i => dr _ _ i okq (fun b o e => hGq b o (hGG₃ b o (hGG₂ b o e))) hA3) (PE.name (hw _ _ rfl (by decide))) (PE.arithI okq (f := fun i j => i + j) (PE.intI okq) ((PE.name hk).mono fun b h => ⟨_, h⟩) (by intro i j t u s Q E q; exact add_int q)))
            (PE.mono (PE.add okq (PE.name (hw _ _ rfl (by decide))) (PE.int okq)) fun b h => by rw [h]; rfl)
        case hev =>
          intro Cq S ρq i okq hG hk hw
          have hGq : ∀ b o, C₃.G.get? b = some o → Cq.G.get? b = some o := fun b o e => hG ▸ e
          refine PE.mono (PE.addN (i := 1) (p := fun r => r < 31) okq (PE.int okq) (PE.modK (m := 31) (by decide) okq (drx okq (hfd₃.keeps hGq) (fun i => dr _ _ i okq (fun b o e => hGq b o (hGG₃ b o (hGG₂ b o e))) hA3) (PE.name (hw _ _ rfl (by decide))) (PE.arithI okq (f := fun i j => i + j) (PE.intI okq) ((PE.name hk).mono fun b h => ⟨_, h⟩) (by intro i j t u s Q E q; exact add_int q))) (PE.int okq))) ?_
          rintro b' ⟨r, rfl, hr⟩
          exact ⟨1 + r, rfl, by omega, by omega⟩
        intro ts hts1 hts2 hts3 hts4
        have hzipN : nsIn (hd01.heap_39 w.params) mainGlobals "zip" = some none := by k_is
        have h1N : nsIn (hd01.heap_39 w.params) mainGlobals "BECH32_1_CONST" = some (some (.int 1 267)) := by k_is
        have hMN : nsIn (hd01.heap_39 w.params) mainGlobals "BECH32_M_CONST" = some (some (.int 734539939 269)) := by k_is
        have hoth : ((pmod (hexp l ++ va) : Int) == (1 + 734539939 - (m : Int))) = false := by
          rw [hga]
          rcases hm with rfl | rfl <;> decide
        -- the turned ones
        refine PB.cons1 (PT.ifF ok₃ kw₃ (PC.cmp1 ok₃ (PE.compMap (ρ' := [(Str.ofString "turned", BL (natsD ts)), (Str.ofString "told", .r (.ref fo)), (Str.ofString "head", BS (mkS l)), (Str.ofString "check", BI m)]) (f := fun _ => .str (Str.ofString "refused")) ok₃ hA'.1 (PI.list (PE.name rfl)) (h3 _ _ _) rfl (by decide) rfl (by decide) rfl (fun _ => Sub.cons rfl (.inl rfl) rfl (Sub.cons rfl (.inl rfl) rfl (Sub.cons rfl (.inl rfl) rfl (Sub.cons rfl (.inl rfl) rfl Sub.nil)))) ?elt)
          (PE.mulL (d := .str (Str.ofString "refused")) (k := 3) ok₃ (PE.str ok₃) (PE.int ok₃) (by decide)) (Cmp.neR refused3 refused3 hA'.u (eqv_self refused3)))) ?rest12
        case elt =>
          intro I D Cc i d ok₄ hd
          obtain ⟨x, rfl, kx, hgx', hxl'⟩ := htxt i d hd
          have htl : ts.length = x.length := by omega
          have kz : VsOk (zx x ts) := ⟨zx_lt kx.v hts2, by rw [zx_length htl]; omega, by rw [zx_length htl]; omega⟩
          have hbad : ((pmod (hexp l ++ zx x ts) : Int) == (m : Int)) = false := by
            have := p_turn hh kx.v hts2 htl (by omega) hts3 hts4 hgx'
            simp; omega
          refine PE.callC (PL := (· = [BL (natsD (zx x ts)), BS (mkS l), BI m])) ok₄ hfo (PE.name rfl) (PEL.cons1 ok₄ (PE.mono (PE.compZip (ρ' := []) (as := natsD x) (bs := natsD ts) (Pe := fun k d => ∃ u t : Nat, x[k]? = some u ∧ ts[k]? = some t ∧ d = .int ((u ^^^ t : Nat) : Int)) ok₄ hA'.1 gl₃ hzipN (PE.name rfl) (PE.name rfl) (by rw [length_natsD, length_natsD]; exact htl) (by rw [length_natsD]; omega) rfl (by decide) rfl (by decide) rfl rfl (by decide) (fun _ => Sub.nil) ?elt2) ?m1) (PEL.cons1 ok₄ (PE.name rfl) (PEL.one ok₄ (PE.name rfl)))) fun bs h => h ▸ tn _ _ l (zx x ts) m _ ok₄ (fun b o e => e) hct₃ hA9 (deeper_frames hfr) (onF_one kw₃ hF₃ (fun h => nomatch h) rfl).inner kl kz hbad
          case elt2 =>
            intro Pv Cc' j u t ok₅ hB hu ht
            obtain ⟨u', hu', rfl⟩ := natsD_get hu
            obtain ⟨t', ht', rfl⟩ := natsD_get ht
            refine PE.mono (PE.xor ok₅ (PE.name rfl) (PE.name rfl)) ?_
            rintro b' rfl
            rw [bitXor_nat]
            exact ⟨_, rfl, u', t', hu', ht', rfl⟩
          case m1 =>
            rintro b' ⟨es, rfl, h1, h2⟩
            rw [zip_es htl (by rw [h1, length_natsD]) h2]
        -- the other check
        refine PB.cons1 (PT.ifF ok₃ kw₃ (PC.cmp1 ok₃ (PE.callC (PL := (· = [BL (natsD va), BS (mkS l), BI (1 + 734539939 - (m : Int))])) ok₃ hfo (PE.name rfl) (PEL.cons1 ok₃ (PE.itemL1 (k := 0) ok₃ (PE.name rfl) (PE.int ok₃) rfl (h3 _ _ _)) (PEL.cons1 ok₃ (PE.name rfl) (PEL.one ok₃ (PE.sub ok₃ (PE.add ok₃ (PE.globI gl₃ h1N) (PE.globI gl₃ hMN)) (PE.name rfl))))) fun bs h => h ▸ tn _ _ l va (1 + 734539939 - (m : Int)) _ ok₃ (fun b o e => e) hct₃ hA9 (deeper_frames hfr) (onF_one kw₃ hF₃ (fun h => nomatch h) rfl) kl kva hoth)
          (PE.str ok₃) (Cmp.neR refusedS refusedS hA'.u (eqv_self refusedS)))) ?rest13
        -- place
        refine PB.cons (R := fun ρ' => ∃ r : Nat, r < l.length ∧ ρ' = [(Str.ofString "place", BI r), (Str.ofString "turned", BL (natsD ts)), (Str.ofString "put", BL (natsD (xor3 va vb vc))), (Str.ofString "joined", BL (natsD (xor3 a b c))), (Str.ofString "texts", BL [.list (natsD va), .list (natsD vb), .list (natsD vc)]), (Str.ofString "told", .r (.ref fo)), (Str.ofString "text_of", .r (.ref ft)), (Str.ofString "rows", BL [.list (natsD a), .list (natsD b), .list (natsD c)]), (Str.ofString "check", BI m), (Str.ofString "many", BI n), (Str.ofString "head", BS (mkS l)), (Str.ofString "letters", BS (Str.ofString "abcxyz127!~-")), (Str.ofString "draw", .r (.ref fd)), (Str.ofString "script", BL (is.map .int))]) (PT.mono (PT.assign ok₃ kw₃ (PE.modK (m := l.length) (List.length_pos_iff.mpr hl0) ok₃ (drx ok₃ hfd₃ (fun i => dr _ _ i ok₃ (fun b o e => hGG₃ b o (hGG₂ b o e)) hA3) (PE.name rfl) (PE.intI ok₃)) (PE.mono (PE.callB ok₃ (PE.builtin gl₃ hlenN rfl) (PEL.one ok₃ (PE.name rfl)) fun bs h => h ▸ COk.lenS ok₃ (x := mkS l) (by rw [length_mkS]; omega)) fun b h => by rw [h, length_mkS]))) fun ρ' ⟨b', ⟨r, hb', hr⟩, hρ⟩ => ⟨r, hr, by rw [hρ, hb']⟩) ?rest14
        rintro ρ' ⟨r, hr, rfl⟩
        have hgr : l[r]? = some (l.getD r 0) := by rw [List.getD_eq_getElem?_getD, List.getElem?_eq_getElem hr]; rfl
        obtain ⟨i₀, hi₀, hli⟩ := let_of (l.getD r 0) (hlP _ (List.mem_of_getElem? hgr))
        -- other
        refine PB.cons (R := fun ρ' => ∃ c' : Nat, c' ∈ LET ∧ l.getD r 0 ≠ c' ∧ ρ' = [(Str.ofString "other", BS (mkS (l.set r c'))), (Str.ofString "place", BI r), (Str.ofString "turned", BL (natsD ts)), (Str.ofString "put", BL (natsD (xor3 va vb vc))), (Str.ofString "joined", BL (natsD (xor3 a b c))), (Str.ofString "texts", BL [.list (natsD va), .list (natsD vb), .list (natsD vc)]), (Str.ofString "told", .r (.ref fo)), (Str.ofString "text_of", .r (.ref ft)), (Str.ofString "rows", BL [.list (natsD a), .list (natsD b), .list (natsD c)]), (Str.ofString "check", BI m), (Str.ofString "many", BI n), (Str.ofString "head", BS (mkS l)), (Str.ofString "letters", BS (Str.ofString "abcxyz127!~-")), (Str.ofString "draw", .r (.ref fd)), (Str.ofString "script", BL (is.map .int))]) (PT.mono (PT.assign ok₃ kw₃ (PE.catN (p := fun x => ∃ c' : Nat, (c' ∈ LET ∧ l.getD r 0 ≠ c') ∧ x = l.take r ++ [c']) (y := l.drop (r + 1)) ok₃
          (PE.mono (PE.catN' (p := fun x => ∃ c' : Nat, (c' ∈ LET ∧ l.getD r 0 ≠ c') ∧ x = [c']) (y := l.take r) ok₃ (PE.takeS (l := l) (n := r) ok₃ (PE.name rfl) (PE.name rfl) (by omega) (by omega))
            (PE.mono (PE.itemS (x := Str.ofString "abcxyz127!~-") (p := fun i => ∃ q : Nat, i = (i₀ : Int) - 1 - (q : Int) ∧ q < 9) ok₃ (PE.name rfl) (PE.mono (PE.subN (i := (i₀ : Int) - 1) (p := fun q => q < 9) ok₃ (PE.sub (i := (i₀ : Int)) (j := 1) ok₃
              (PE.mono (PE.index (x := mkS LET) (y := fun _ => True) (p := fun _ i => i = i₀) ok₃ (PE.mono (PE.name rfl) fun b h => h.trans (by rw [letS])) (PE.mono (PE.itemS1 (x := mkS l) (i := (r : Int)) ok₃ (PE.name rfl) (PE.name rfl) (by omega) (by omega) (seq_nat hgr)) fun b h => ⟨mkS [LET.getD i₀ 0], i₀, [], by rw [h, hli]; rfl, rfl, index_let i₀ hi₀⟩)) ?ix) (PE.int ok₃))
              (PE.modK (m := 9) (by decide) ok₃ (drx ok₃ hfd₃ (fun i => dr _ _ i ok₃ (fun b o e => hGG₃ b o (hGG₂ b o e)) hA3) (PE.name rfl) (PE.intI ok₃)) (PE.int ok₃))) ?mA)) ?m2) ?z1) ?m3)
          (PE.dropS (l := l) (n := r + 1) ok₃ (PE.name rfl) (PE.mono (PE.add ok₃ (PE.name rfl) (PE.int ok₃)) fun b h => by rw [h]; rfl) (by omega) (by omega)) ?z2)) ?m4) ?rest15
        case ix => rintro b' ⟨y, i, hi, rfl⟩; rw [hi]
        case mA =>
          rintro b' ⟨q, rfl, hq⟩
          exact ⟨_, rfl, ⟨q, rfl, hq⟩, by omega, by omega, _, let_idx i₀ hi₀ q hq⟩
        case m2 =>
          rintro b' ⟨i, c', ⟨q, rfl, hq⟩, hc', rfl⟩
          rw [let_idx i₀ hi₀ q hq] at hc'
          cases hc'
          exact ⟨_, ⟨_, ⟨let_mem _ (Nat.mod_lt _ (by decide)), by rw [hli]; exact let_ne i₀ hi₀ q hq⟩, rfl⟩, rfl⟩
        case z1 => rintro x ⟨c', _, rfl⟩; rw [List.length_take]; simp; omega
        case m3 => rintro b' ⟨x, ⟨c', hc', rfl⟩, rfl⟩; exact ⟨_, ⟨c', hc', rfl⟩, rfl⟩
        case z2 => rintro x ⟨c', _, rfl⟩; rw [List.length_append, List.length_take, List.length_drop]; simp; omega
        case m4 =>
          rintro ρ' ⟨b', ⟨x, ⟨c', ⟨hc1, hc2⟩, rfl⟩, rfl⟩, rfl⟩
          exact ⟨c', hc1, hc2, by rw [set_cut hr]⟩
        rintro ρ' ⟨c', hc1, hc2, rfl⟩
        have kl' : HdOk (l.set r c') := hdOk_let (fun x hx => (List.mem_or_eq_of_mem_set hx).elim (hlP x) fun e => e ▸ hc1) (by simpa using hl0) (by rw [List.length_set]; exact hl5)
        have hbad2 : ((pmod (hexp (l.set r c') ++ va) : Int) == (m : Int)) = false := by
          have := p_head kl.asc (hd_let c' hc1).1 kva.v hr hc2 (by omega) hga
          simp; omega
        refine PB.cons1 (PT.ifF ok₃ kw₃ (PC.cmp1 ok₃ (PE.callC (PL := (· = [BL (natsD va), BS (mkS (l.set r c')), BI (m : Int)])) ok₃ hfo (PE.name rfl) (PEL.cons1 ok₃ (PE.itemL1 (k := 0) ok₃ (PE.name rfl) (PE.int ok₃) rfl (h3 _ _ _)) (PEL.cons1 ok₃ (PE.name rfl) (PEL.one ok₃ (PE.name rfl)))) fun bs h => h ▸ tn _ _ (l.set r c') va (m : Int) _ ok₃ (fun b o e => e) hct₃ hA9 (deeper_frames hfr) (onF_one kw₃ hF₃ (fun h => nomatch h) rfl) kl' kva hbad2)
          (PE.str ok₃) (Cmp.neR refusedS refusedS hA'.u (eqv_self refusedS)))) ?rest16
        -- the published texts
        have hsa : SeqAt.shaped (.tuple [.str (Str.ofString "a"), .list []]) = true := by decide +kernel
        refine' PB.ret (PE.and2 (r₁ := true) ok₃ (PE.cmp1 (r := true) ok₃ (PE.callF (PL := (· = [BS (mkS (txt [97] [10, 28, 25, 31, 20, 31])), BI 1])) ok₃ gl₃ ?g1 ?g2 ?g3 (PEL.cons1 ok₃ ((PE.str ok₃).mono fun b h => h.trans (by rw [pub1])) (PEL.one ok₃ (PE.globI gl₃ h1N))) (fun bs h => h ▸ decode_ok (rd_txt kl_a kv1) ok₃ gl₃ (hA'.mono (by decide)) hct₃ hcd₃ (by rw [pub1p]; rfl)))
            (PE.tup (ds := [.str (Str.ofString "a"), .list []]) ok₃ (PEL.cons1 ok₃ (PE.str ok₃) (PEL.one ok₃ (PE.list (ds := []) ok₃ PEL.nil (by decide) (by rintro bs rfl; exact ⟨rfl, by decide⟩)))) (by decide) (by rintro bs rfl; exact ⟨rfl, by show 2 ≤ 2 ^ 24; decide⟩)) (Cmp.eqR hsa hsa hA'.u (eqv_self hsa)))
          (fun _ => PE.cmp1 (r := true) ok₃ (PE.callF (PL := (· = [BS (mkS (txt [97] [31, 0, 9, 19, 17, 29])), BI 734539939])) ok₃ gl₃ ?g4 ?g5 ?g6 (PEL.cons1 ok₃ ((PE.str ok₃).mono fun b h => h.trans (by rw [pub2])) (PEL.one ok₃ (PE.globI gl₃ hMN))) (fun bs h => h ▸ decode_ok (rd_txt kl_a kv2) ok₃ gl₃ (hA'.mono (by decide)) hct₃ hcd₃ (by rw [pub2p]; rfl)))
            (PE.tup (ds := [.str (Str.ofString "a"), .list []]) ok₃ (PEL.cons1 ok₃ (PE.str ok₃) (PEL.one ok₃ (PE.list (ds := []) ok₃ PEL.nil (by decide) (by rintro bs rfl; exact ⟨rfl, by decide⟩)))) (by decide) (by rintro bs rfl; exact ⟨rfl, by show 2 ≤ 2 ^ 24; decide⟩)) (Cmp.eqR hsa hsa hA'.u (eqv_self hsa))) (fun h => nomatch h))
        case g1 => k_is
        case g2 => k_is
        case g3 => rfl
        case g4 => k_is
        case g5 => k_is
        case g6 => rfl
end
end Mine
end

section
open PySem PySem.W PySem.Calls PyProof.Rows
set_option Elab.async false
set_option linter.unusedVariables false
set_option maxRecDepth 100000
set_option maxHeartbeats 8000000
namespace Mine
def as01 : List Addr := [2,3,6,15,22,23,24,25,28,35,36,37,40,47,48,49,52,54,55,57,58,59,61,62,64,65,66,67,69,71,72,74,75,76,78,79,81,82,83,86,87,88,91,92,93,95,96,98,99,100,102,103,105,106,107,110,111,112,113,115,116,118,119,120,121,123,124,126,127,128,130,131,133,134,135,138,139]
theorem post_law (l : OpenLaw) (args after : List WData) : l.row.claim.post args (.bool true) after = true := by
  show (WShape.has ([] : WRecords) (.bool true) .bool && WTm.holds [] (.eq .res (.lit (.bool true))) { args := args, res := some (.bool true), after := after }) = true
  have e1 : same (WData.bool true) (WData.bool true) = true := by decide +kernel
  simp only [WShape.has, WTm.holds, WTm.value, WShape.arms, e1]
  rfl
section
variable {w : World} {A : Around} {p : Program} {loose : List Str} {mg mb : Str → Option Value} {mean : ExcName → Option Value} {cl : Str → Option Addr} {is : List Int} {s₁ : Shared} {cw : ClaimW} {args : List WData} {la : Addr}
theorem codeHdA {tabs : List (Addr × Addr)} {h : Heap} (x : CodeAll tabs h) : ∀ q ∈ tabs, CodeHd h q.1 q.2 := by
  induction tabs with
  | nil => intro q hq; cases hq
  | cons q r ih =>
    intro q' hq
    rcases List.mem_cons.mp hq with rfl | hq
    · exact x.1
    · exact ih x.2 q' hq
abbrev tbs : List (Addr × Addr) := [(74, 70), (126, 122), (138, 136)]
theorem join01 (X : (hd01.heap_39 w.params).In s₁.heap) (T : Top p loose mean mg mb s₁.heap) (hT : TabsAt tbs s₁.heap)
    (hr : Rep [70, 122, 136] s₁ (.ref la) (.list (is.map .int))) (hz : is.length ≤ 63) (hA : AOk 20 A) (hfr : A.frames = some []) (hg : s₁.gens = #[])
    (hraise : ∀ a x, cw.raises a x = false) (hpost : cw.post args (.bool true) args = true) :
    wpAny (model PG w) A (call (.ref 139) [.ref la]) (fun v s' => GoodWG cw cl mean args s₁ (.ok (.ret v)) s') (fun e s' => GoodWG cw cl mean args s₁ (.error e) s') s₁ := by
  have hPt0 : s₁.heap.get? 136 = some (tabObj #[]) := (hT (138, 136) (by simp)).2
  let C : Cx := { G := ghostOf s₁.heap tbs, tabs := [(74, 70), (126, 122)], T := [70, 122, 136], F := [], H := [70, 122, 136], B := s₁.heap, X := fun s => s.heap.get? 136 = some (tabObj #[]) }
  have htb : ∀ q ∈ ([(74, 70), (126, 122)] : List (Addr × Addr)), q ∈ tbs := fun q hq => by
    simp only [List.mem_cons, List.not_mem_nil, or_false] at hq
    rcases hq with rfl | rfl <;> simp
  have hnt : (136 : Addr) ∉ ([(74, 70), (126, 122)] : List (Addr × Addr)).map (·.2) := by decide
  have ok : C.Ok := by
    refine ⟨fun _ h => h, (fun _ h => nomatch h), (fun _ h => nomatch h), fun q hq => ?_, fun t ht => hideAll_none _ ht, fun b o e => ⟨o, (hideAll_inv e).1⟩, fun q hq => ⟨_, (hT q (htb q hq)).2⟩, fun s s' h k => k 136 _ _ hPt0 hnt h⟩
    have hq : q ∈ ([(74, 70), (126, 122)] : List (Addr × Addr)) := hq
    simp only [List.mem_cons, List.not_mem_nil, or_false] at hq
    rcases hq with rfl | rfl
    · exact .head _
    · exact .tail _ (.head _)
  have T' := ghost_top hT T
  have gl : Gl (hd01.heap_39 w.params) topProg _ mg mb C.G := ⟨ghost_K hT X (by kernel_rfl), topRead_of T', T'.bmain⟩
  have hcds := codeHdA (ghost_code hT)
  have am : C.Am s₁ := ⟨fun b o e => (hideAll_inv e).1, fun q hq => ⟨#[], (hT q (htb q hq)).2, trivial⟩, fun b o e => ⟨o, e⟩, hPt0⟩
  have lv : Live C.H s₁ := by
    intro t ht
    obtain ⟨q, hq, e⟩ := List.mem_map.mp (show t ∈ tbs.map (·.2) from ht)
    exact ⟨_, e ▸ (hT q hq).2⟩
  refine law01 (is := is) ok gl hA hfr rfl (.tail _ (.tail _ (.head _))) hnt (.head _) (hcds (74, 70) (by simp)) (.tail _ (.head _)) (hcds (126, 122) (by simp)) (hcds (138, 136) (by simp)) hz am lv (fun _ h => nomatch h) hr ?_
  intro s' ev htabs hP
  have keep : ∀ b o, b ∉ tbs.map (·.2) → s₁.heap.get? b = some o → s'.heap.get? b = some o := fun b o hb e => ev.keep b o e fun q => hb (by simpa [C] using q)
  have grown : ∀ b o, b ∈ tbs.map (·.2) → s₁.heap.get? b = some o → isCodeTable s₁.heap b ∧ o = tabObj #[] ∧ ∃ ps, s'.heap.get? b = some (tabObj ps) := fun b o hb e => by
    obtain ⟨q, hq, rfl⟩ := List.mem_map.mp hb
    have e2 := (hT q hq).2
    rw [e] at e2
    refine ⟨((hT q hq).1.tab (hT q hq).2).isCodeTable, Option.some.inj e2, ?_⟩
    simp only [tbs, List.mem_cons, List.not_mem_nil, or_false] at hq
    rcases hq with rfl | rfl | rfl
    · obtain ⟨ps, e3, _⟩ := htabs (74, 70) (.head _); exact ⟨ps, e3⟩
    · obtain ⟨ps, e3, _⟩ := htabs (126, 122) (.tail _ (.head _)); exact ⟨ps, e3⟩
    · exact hP
  refine ⟨.inl ⟨_, .bool true, [], rfl, fun _ => hraise _ _, .bool _, hpost, fun _ => ⟨List.nodup_nil, fun _ h => nomatch h⟩⟩, ⟨fun b o e => ?_, fun b o e => ?_⟩, ev.os, ev.gens (.of_eq hg)⟩
  · by_cases hb : b ∈ tbs.map (·.2)
    · obtain ⟨ht, rfl, ps, hP⟩ := grown b o hb e
      exact .inr (.inl ⟨ht, rfl, #[], ps, rfl, by rw [Array.empty_append]; exact hP⟩)
    · exact .inl (keep b o hb e)
  · by_cases hb : b ∈ tbs.map (·.2)
    · obtain ⟨_, _, ps, hP⟩ := grown b o hb e
      exact ⟨_, hP⟩
    · exact ⟨o, keep b o hb e⟩
end
theorem fin01 : PySem.Challenge.rw_fc0024_01.Holds := by
  w_on
  o_law
  o_head (kmHook hd01.heap_39 as01 (fun _ => by kernel_rfl) [70, 122, 136])
  case hw => w_witness2
  intro w s₀ s₁ mg mb G Y a o pm cd doc dV kV ho hd hcode hD hmg hgens args vals as hpre hlay hrd hwl hlo
  have X := km_in_of Y
  have hT8 := km_tabs_of Y
  have hT : TabsAt tbs s₁.heap := List.forall_mem_cons.mpr ⟨⟨codeHd_of_K X (by kernel_rfl), hT8 70 (.head _)⟩, List.forall_mem_cons.mpr ⟨⟨codeHd_of_K X (by kernel_rfl), hT8 122 (.tail _ (.head _))⟩, List.forall_mem_cons.mpr ⟨⟨codeHd_of_K X (by kernel_rfl), hT8 136 (.tail _ (.tail _ (.head _)))⟩, fun _ h => nomatch h⟩⟩⟩
  refine Ground.open G ?_
  intro T B D TE TW
  wrow_args hpre hlay hrd hwl hlo
  all_goals (
    rename_i is _ _ _ _ _ asl _ la items as2 hL _ _ _ hI _ hlen _
    have hr : Rep [70, 122, 136] s₁ (.ref la) (.list (is.map .int)) := by
      obtain ⟨o, e, h1, n, h2⟩ := ghost_list hT hL
      exact ⟨_, .list e h1 h2 (ints_readAll _ hI)⟩
    have ha : a = 139 := by
      have e := mg_of (n := Str.ofString "law") (v := .ref 139) X T.g (by kernel_rfl)
      have e2 : mg (Str.ofString "law") = some (.ref a) := hmg
      rw [e] at e2
      cases e2
      rfl
    subst ha
    exact join01 X T hT hr (by omega) ⟨rfl, by decide, by decide⟩ rfl hgens (fun _ _ => rfl) (post_law _ _ _))
end Mine
end

theorem PySem.Challenge.cw_fc0024_01_holds : PySem.Challenge.rw_fc0024_01.Holds :=
  Mine.fin01
